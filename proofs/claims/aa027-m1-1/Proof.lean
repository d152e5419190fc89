import JvmDerived
import JvmDerived.Pilot.@@N@@Statement
import JvmDerived.Pilot.@@N@@Code
set_option linter.unusedVariables false
set_option linter.unusedSimpArgs false
/- laws to paste: Road.backV, Road.lenW, Road.chN, Road.eqW, Road.codOf (cut by pick.py; bodies as the Statement names them) -/
namespace Jvm.Pilot.@@N@@
namespace StrChars
open Jvm Sem ClassFile Op Lib Jvm.Stand Jvm.Free.XT Jvm.Free.ALB Jvm.Free.JM Jvm.Free
open Jvm.Lib.Cold (StaticIs)
/-- a char array whose places are chars -/
def Ch (a : Addr) (A : Cell) (U : State) : Prop := Arr .char a A U ∧ Typed .char A
theorem Ch.mv {a : Addr} {A : Cell} {U U' : State} (h : Ch a A U) (hal : U.vm.Alike U'.vm) (hh : U'.heap = U.heap) : Ch a A U' := ⟨h.1.mv hal hh, h.2⟩
theorem Ch.keep {a : Addr} {A : Cell} {U U' : State} (h : Ch a A U) (hal : U.vm.Alike U'.vm) (hk : U'.heap[a]? = some A) : Ch a A U' := ⟨h.1.keep hal hk, h.2⟩
/-- what place i of a char[]'s cell holds -/
def cv (A : Cell) (i : Nat) : Int32 := match A.slots[i]? with | some (.int x) => x | _ => 0
theorem Ch.get {a : Addr} {A : Cell} {U : State} (h : Ch a A U) {i : Nat} (hi : i < A.slots.size) : A.slots[i]? = some (.int (cv A i)) := by
  have e := Array.getElem?_eq_getElem hi
  have f := h.2 i _ e
  unfold cv; rw [e]
  generalize A.slots[i] = v at f
  cases v <;> simp [fits] at f ⊢
/-- the byte that i2b leaves of a char -/
def lo8 (x : Int32) : Int32 := x.toInt8.toInt32
theorem fits_lo8 (y : Int32) : fits .byte (.int (lo8 y)) = true := by
  have h1 := y.toInt8.le_toInt
  have h2 := y.toInt8.toInt_lt
  simp only [lo8, fits, Bool.and_eq_true, decide_eq_true_eq, Int32.le_iff_toInt_le, Int8.toInt_toInt32, show (-128 : Int32).toInt = -128 from by decide, show (127 : Int32).toInt = 127 from by decide]
  omega
/-- A' is A but that each place j of lo .. hi - 1 holds f j -/
def Laid (A A' : Cell) (lo hi : Nat) (f : Nat → Value) : Prop := A'.cls = A.cls ∧ A'.vm = A.vm ∧ A'.slots.size = A.slots.size ∧ ∀ i, A'.slots[i]? = if lo ≤ i ∧ i < hi then some (f i) else A.slots[i]?
theorem Laid.zero (A : Cell) (lo : Nat) (f : Nat → Value) : Laid A A lo (lo + 0) f := ⟨rfl, rfl, rfl, fun i => by rw [if_neg (by omega)]⟩
theorem Laid.step {A Ak : Cell} {lo k : Nat} {f : Nat → Value} {v : Value} (h : Laid A Ak lo k f) (hlo : lo ≤ k) (hk : k < Ak.slots.size) (hv : v = f k) : Laid A (Ak.setSlot k v) lo (k + 1) f := by
  refine ⟨h.1, h.2.1, by simpa [Cell.setSlot] using h.2.2.1, fun i => ?_⟩
  by_cases e : k = i
  · subst e; rw [Cell.slots_setSlot_self v hk, if_pos (by omega), hv]
  · rw [Cell.slots_setSlot_ne v e, h.2.2.2 i]
    by_cases q : lo ≤ i ∧ i < k
    · rw [if_pos q, if_pos (by omega)]
    · rw [if_neg q, if_neg (by omega)]
def U16 : String := "java/lang/StringUTF16"
namespace Cmp5
def yN : MethodName := ⟨"java/lang/StringUTF16", "compress", "([CI[BII)I"⟩
abbrev yB : ByteArray := jdk_52_method_21_code
theorem d0 : decode yB 0 = .ok (.iconst 0, 1) := by decide +kernel
theorem d1 : decode yB 1 = .ok (.istore 5, 2) := by decide +kernel
theorem d3 : decode yB 3 = .ok (.iload 5, 2) := by decide +kernel
theorem d5 : decode yB 5 = .ok (.iload 4, 2) := by decide +kernel
theorem d7 : decode yB 7 = .ok (.if_icmp (.ge) 37, 3) := by decide +kernel
theorem d10 : decode yB 10 = .ok (.aload_n 0, 1) := by decide +kernel
theorem d11 : decode yB 11 = .ok (.iload_n 1, 1) := by decide +kernel
theorem d12 : decode yB 12 = .ok (.caload, 1) := by decide +kernel
theorem d13 : decode yB 13 = .ok (.istore 6, 2) := by decide +kernel
theorem d15 : decode yB 15 = .ok (.iload 6, 2) := by decide +kernel
theorem d17 : decode yB 17 = .ok (.sipush 255, 3) := by decide +kernel
theorem d20 : decode yB 20 = .ok (.if_icmp (.le) 6, 3) := by decide +kernel
theorem d26 : decode yB 26 = .ok (.aload_n 2, 1) := by decide +kernel
theorem d27 : decode yB 27 = .ok (.iload_n 3, 1) := by decide +kernel
theorem d28 : decode yB 28 = .ok (.iload 6, 2) := by decide +kernel
theorem d30 : decode yB 30 = .ok (.i2b, 1) := by decide +kernel
theorem d31 : decode yB 31 = .ok (.bastore, 1) := by decide +kernel
theorem d32 : decode yB 32 = .ok (.iinc 1 1, 3) := by decide +kernel
theorem d35 : decode yB 35 = .ok (.iinc 3 1, 3) := by decide +kernel
theorem d38 : decode yB 38 = .ok (.iinc 5 1, 3) := by decide +kernel
theorem d41 : decode yB 41 = .ok (.goto (-38), 3) := by decide +kernel
theorem d44 : decode yB 44 = .ok (.iload 4, 2) := by decide +kernel
theorem d46 : decode yB 46 = .ok (.ireturn, 1) := by decide +kernel
def site : List Cond := []
def tab : Cond := tabOf yN yB 7 (some .int) site
def P (b : Addr) (A : Cell) (d : Addr) (B : Cell) (o q len : Nat) (args : Array Value) (s : State) : Prop := args = #[.ref b, .int (Int32.ofNat o), .ref d, .int (Int32.ofNat q), .int (Int32.ofNat len)] ∧ Ch b A s ∧ Arr .byte d B s ∧ b ≠ d ∧ o + len ≤ A.slots.size ∧ q + len ≤ B.slots.size ∧ ∀ i, i < len → ¬ 255 < cv A (o + i)
def E (b : Addr) (A : Cell) (d : Addr) (B : Cell) (o q len : Nat) (r : Option Value) (s u : State) : Prop := r = some (.int (Int32.ofNat len)) ∧ ∃ B', Put d B' s u ∧ Laid B B' q (q + len) (fun j => Value.int (lo8 (cv A (o + (j - q)))))
/-- no char of the range above 255: len; the places written hold each char's low byte -/
theorem law (l : Launch) (b : Addr) (A : Cell) (d : Addr) (B : Cell) (o q len : Nat) : Law l yN 5 5 0 0 yB 7 (some .int) site (P b A d B o q len) (E b A d B o q len) (copyLocs d q len) 0 0 := by
  refine Law.of_walk (plainFor_of_name (by decide +kernel)) (by decide +kernel) (by decide +kernel) (by decide) (fun _ _ h => by rw [h.1]; rfl) (fun _ U U' hal hh h => ⟨h.1, h.2.1.mv hal hh, h.2.2.1.mv hal hh, h.2.2.2⟩) (fun r U U' V V' h1 hal h2 h => ⟨h.1, h.2.elim fun B' q => ⟨B', q.1.mv h1 h2, q.2⟩⟩) ?_
  intro p e s m args below meth c s₁ X0 hexec hbytes hml hret hlk hnm hown hh0 W hP
  obtain ⟨rfl, hA, hB, hne, l1, l2, hp⟩ := hP
  have c1 : Steps p.tables e below (s₁.setTop (entryFrame m #[.ref b, .int (Int32.ofNat o), .ref d, .int (Int32.ofNat q), .int (Int32.ofNat len)] 7)) (s₁.setTop (mkF m 0 #[.val (.ref b), .val (.int (Int32.ofNat o)), .val (.ref d), .val (.int (Int32.ofNat q)), .val (.int (Int32.ofNat len)), .unset, .unset] [])) := entry rfl
  have hA0 := hA.1.mv X0.warmed.alike hh0
  have hB0 := hB.mv X0.warmed.alike hh0
  have a31 := hA.1.2.2.2
  have c2 : Steps p.tables e below (s₁.setTop (entryFrame m #[.ref b, .int (Int32.ofNat o), .ref d, .int (Int32.ofNat q), .int (Int32.ofNat len)] 7)) (s₁.setTop (mkF m 3 #[.val (.ref b), .val (.int (Int32.ofNat o)), .val (.ref d), .val (.int (Int32.ofNat q)), .val (.int (Int32.ofNat len)), .val (.int 0), .unset] [])) := c1.trans (by
    refine iconstV X0.here hexec rfl 0 (hb hbytes d0) (by decide) ?_
    refine XS.istore X0.here hexec rfl (hb hbytes d1) rfl rfl ?_
    exact Steps.refl _)
  have loop : ∀ (r i : Nat), i + r = len → ∀ (z : Slot), (z = .unset ∨ ∃ w, z = .val w ∧ w.category = 1) → ∀ (Tl : State) (Bk : Cell), Stand p l e { frames := 0, locals := 0, cells := 0, slots := 0 } s m #[.ref b, .int (Int32.ofNat o), .ref d, .int (Int32.ofNat q), .int (Int32.ofNat len)] below meth c Tl ([] ++ copyLocs d q i) 0 0 → Put d Bk s₁ Tl → Laid B Bk q (q + i) (fun j => Value.int (lo8 (cv A (o + (j - q))))) →
      Steps p.tables e below (s₁.setTop (entryFrame m #[.ref b, .int (Int32.ofNat o), .ref d, .int (Int32.ofNat q), .int (Int32.ofNat len)] 7)) (Tl.setTop (mkF m 3 #[.val (.ref b), .val (.int (Int32.ofNat (o + i))), .val (.ref d), .val (.int (Int32.ofNat (q + i))), .val (.int (Int32.ofNat len)), .val (.int (Int32.ofNat i)), z] [])) → ∃ (T' : State) (B' : Cell) (z' : Slot), Stand p l e { frames := 0, locals := 0, cells := 0, slots := 0 } s m #[.ref b, .int (Int32.ofNat o), .ref d, .int (Int32.ofNat q), .int (Int32.ofNat len)] below meth c T' ([] ++ copyLocs d q len) 0 0 ∧ Put d B' s₁ T' ∧ Laid B B' q (q + len) (fun j => Value.int (lo8 (cv A (o + (j - q))))) ∧
      Steps p.tables e below (s₁.setTop (entryFrame m #[.ref b, .int (Int32.ofNat o), .ref d, .int (Int32.ofNat q), .int (Int32.ofNat len)] 7)) (T'.setTop (mkF m 3 #[.val (.ref b), .val (.int (Int32.ofNat (o + len))), .val (.ref d), .val (.int (Int32.ofNat (q + len))), .val (.int (Int32.ofNat len)), .val (.int (Int32.ofNat len)), z'] [])) := by
    intro r
    induction r with
    | zero =>
      intro i hi z hz Tl Bk Xl pl fl cl
      have hil : i = len := by omega
      rw [hil] at Xl fl cl
      exact ⟨Tl, Bk, z, Xl, pl, fl, cl⟩
    | succ r ih =>
      intro i hi z hz Tl Bk Xl pl fl cl
      have all := X0.warmed.alike.symm.trans Xl.warmed.alike
      have hAl := hA0.keep all (pl.other hne hA0.1)
      have hBk := hB0.like all pl.1 fl.1 fl.2.1 fl.2.2.1
      have hlt : q + i < Bk.slots.size := by rw [fl.2.2.1]; omega
      have c3 : Steps p.tables e below (s₁.setTop (entryFrame m #[.ref b, .int (Int32.ofNat o), .ref d, .int (Int32.ofNat q), .int (Int32.ofNat len)] 7)) (Tl.setTop (mkF m 12 #[.val (.ref b), .val (.int (Int32.ofNat (o + i))), .val (.ref d), .val (.int (Int32.ofNat (q + i))), .val (.int (Int32.ofNat len)), .val (.int (Int32.ofNat i)), z] [.int (Int32.ofNat (o + i)), .ref b])) := cl.trans (by
        refine XS.iload Xl.here hexec rfl (hb hbytes d3) rfl ?_
        refine XS.iload Xl.here hexec rfl (hb hbytes d5) rfl ?_
        refine XS.icmpNo Xl.here hexec rfl (hb hbytes d7) rfl (ii_ge_f (lt32 (by omega) (by omega))) ?_
        refine XS.aloadN Xl.here hexec rfl (hb hbytes d10) rfl rfl ?_
        refine XS.iloadN Xl.here hexec rfl (hb hbytes d11) rfl ?_
        exact Steps.refl _)
      have c4 : Steps p.tables e below (s₁.setTop (entryFrame m #[.ref b, .int (Int32.ofNat o), .ref d, .int (Int32.ofNat q), .int (Int32.ofNat len)] 7)) (Tl.setTop (mkF m 13 #[.val (.ref b), .val (.int (Int32.ofNat (o + i))), .val (.ref d), .val (.int (Int32.ofNat (q + i))), .val (.int (Int32.ofNat len)), .val (.int (Int32.ofNat i)), z] [.int (cv A (o + i))])) := c3.trans (by
        refine Xl.aget hexec hAl rfl (hA.get (i := o + i) (by omega)) rfl rfl (hb hbytes d12) ?_
        exact Steps.refl _)
      have c5 : Steps p.tables e below (s₁.setTop (entryFrame m #[.ref b, .int (Int32.ofNat o), .ref d, .int (Int32.ofNat q), .int (Int32.ofNat len)] 7)) (Tl.setTop (mkF m 15 #[.val (.ref b), .val (.int (Int32.ofNat (o + i))), .val (.ref d), .val (.int (Int32.ofNat (q + i))), .val (.int (Int32.ofNat len)), .val (.int (Int32.ofNat i)), .val (.int (cv A (o + i)))] [])) := c4.trans (by
        refine XS.istoreS Xl.here hexec rfl (hb hbytes d13) rfl rfl hz ?_
        exact Steps.refl _)
      have c6 : Steps p.tables e below (s₁.setTop (entryFrame m #[.ref b, .int (Int32.ofNat o), .ref d, .int (Int32.ofNat q), .int (Int32.ofNat len)] 7)) (Tl.setTop (mkF m 31 #[.val (.ref b), .val (.int (Int32.ofNat (o + i))), .val (.ref d), .val (.int (Int32.ofNat (q + i))), .val (.int (Int32.ofNat len)), .val (.int (Int32.ofNat i)), .val (.int (cv A (o + i)))] [.int (lo8 (cv A (o + i))), .int (Int32.ofNat (q + i)), .ref d])) := c5.trans (by
        refine XS.iload Xl.here hexec rfl (hb hbytes d15) rfl ?_
        refine sipushV Xl.here hexec rfl 255 (hb hbytes d17) (by decide) ?_
        refine XS.icmpYes Xl.here hexec rfl (pc0 := 20) rfl (hb hbytes d20) rfl (ii_le_t (hp i (by omega))) (by decide) rfl ?_
        refine XS.aloadN Xl.here hexec rfl (hb hbytes d26) rfl rfl ?_
        refine XS.iloadN Xl.here hexec rfl (hb hbytes d27) rfl ?_
        refine XS.iload Xl.here hexec rfl (hb hbytes d28) rfl ?_
        refine i2b Xl.here hexec rfl (hb hbytes d30) rfl ?_
        exact Steps.refl _)
      obtain ⟨T7, X7, p7, st7⟩ := Xl.aput hexec hBk rfl hlt rfl (fits_lo8 (cv A (o + i))) (g := (mkF m 31 #[.val (.ref b), .val (.int (Int32.ofNat (o + i))), .val (.ref d), .val (.int (Int32.ofNat (q + i))), .val (.int (Int32.ofNat len)), .val (.int (Int32.ofNat i)), .val (.int (cv A (o + i)))] [.int (lo8 (cv A (o + i))), .int (Int32.ofNat (q + i)), .ref d])) rfl (rest := []) rfl (hb hbytes d31)
      have c8 : Steps p.tables e below (s₁.setTop (entryFrame m #[.ref b, .int (Int32.ofNat o), .ref d, .int (Int32.ofNat q), .int (Int32.ofNat len)] 7)) (T7.setTop (mkF m 32 #[.val (.ref b), .val (.int (Int32.ofNat (o + i))), .val (.ref d), .val (.int (Int32.ofNat (q + i))), .val (.int (Int32.ofNat len)), .val (.int (Int32.ofNat i)), .val (.int (cv A (o + i)))] [])) := c6.trans (st7 _ (Steps.refl _))
      have c9 : Steps p.tables e below (s₁.setTop (entryFrame m #[.ref b, .int (Int32.ofNat o), .ref d, .int (Int32.ofNat q), .int (Int32.ofNat len)] 7)) (T7.setTop (mkF m 3 #[.val (.ref b), .val (.int (Int32.ofNat (o + i) + 1)), .val (.ref d), .val (.int (Int32.ofNat (q + i) + 1)), .val (.int (Int32.ofNat len)), .val (.int (Int32.ofNat i + 1)), .val (.int (cv A (o + i)))] [])) := c8.trans (by
        refine iincV X7.here hexec rfl 1 (hb hbytes d32) (by decide) rfl rfl ?_
        refine iincV X7.here hexec rfl 1 (hb hbytes d35) (by decide) rfl rfl ?_
        refine iincV X7.here hexec rfl 1 (hb hbytes d38) (by decide) rfl rfl ?_
        refine XS.goto X7.here hexec rfl (pc0 := 41) rfl (hb hbytes d41) (by decide) rfl ?_
        exact Steps.refl _)
      have c10 : Steps p.tables e below (s₁.setTop (entryFrame m #[.ref b, .int (Int32.ofNat o), .ref d, .int (Int32.ofNat q), .int (Int32.ofNat len)] 7)) (T7.setTop (mkF m 3 #[.val (.ref b), .val (.int (Int32.ofNat (o + (i + 1)))), .val (.ref d), .val (.int (Int32.ofNat (q + (i + 1)))), .val (.int (Int32.ofNat len)), .val (.int (Int32.ofNat (i + 1))), .val (.int (cv A (o + i)))] [])) := by
        have := c9
        rw [succ32, succ32, succ32] at this
        exact this
      exact ih (i + 1) (by omega) _ (Or.inr ⟨_, rfl, rfl⟩) T7 _ (by rw [copyLocs_step, ← List.append_assoc]; exact X7) (pl.trans p7) (fl.step (by omega) hlt (by simp)) c10
  obtain ⟨T9, B9, z9, X9, p9, f9, g9⟩ := loop len 0 (by omega) .unset (Or.inl rfl) s₁ B (by simpa [copyLocs] using X0) ⟨hB0.1, fun _ _ => rfl, rfl⟩ (Laid.zero _ _ _) c2
  have c11 : Steps p.tables e below (s₁.setTop (entryFrame m #[.ref b, .int (Int32.ofNat o), .ref d, .int (Int32.ofNat q), .int (Int32.ofNat len)] 7)) (T9.setTop (mkF m 46 #[.val (.ref b), .val (.int (Int32.ofNat (o + len))), .val (.ref d), .val (.int (Int32.ofNat (q + len))), .val (.int (Int32.ofNat len)), .val (.int (Int32.ofNat len)), z9] [.int (Int32.ofNat len)])) := g9.trans (by
    refine XS.iload X9.here hexec rfl (hb hbytes d3) rfl ?_
    refine XS.iload X9.here hexec rfl (hb hbytes d5) rfl ?_
    refine XS.icmpYes X9.here hexec rfl (pc0 := 7) rfl (hb hbytes d7) rfl (ii_ge_t (nlt32 (by omega) (Nat.le_refl _))) (by decide) rfl ?_
    refine XS.iload X9.here hexec rfl (hb hbytes d44) rfl ?_
    exact Steps.refl _)
  exact ⟨T9, some (.int (Int32.ofNat len)), _, _, _, X9, by simp, rfl, rfl, (fun h => by cases h), ⟨rfl, B9, p9.from hh0, f9⟩, fun fs hl => c11.trans (X9.ireturnOut hexec hret rfl (Or.inl rfl) (hb hbytes d46) hl)⟩
end Cmp5
namespace Cmp3
def yN : MethodName := ⟨"java/lang/StringUTF16", "compress", "([CII)[B"⟩
abbrev yB : ByteArray := jdk_52_method_16_code
theorem d0 : decode yB 0 = .ok (.iload_n 2, 1) := by decide +kernel
theorem d1 : decode yB 1 = .ok (.newarray .byte, 2) := by decide +kernel
theorem d3 : decode yB 3 = .ok (.astore_n 3, 1) := by decide +kernel
theorem d4 : decode yB 4 = .ok (.aload_n 0, 1) := by decide +kernel
theorem d5 : decode yB 5 = .ok (.iload_n 1, 1) := by decide +kernel
theorem d6 : decode yB 6 = .ok (.aload_n 3, 1) := by decide +kernel
theorem d7 : decode yB 7 = .ok (.iconst 0, 1) := by decide +kernel
theorem d8 : decode yB 8 = .ok (.iload_n 2, 1) := by decide +kernel
theorem d9 : decode yB 9 = .ok (.invokestatic 115, 3) := by decide +kernel
theorem d12 : decode yB 12 = .ok (.istore 4, 2) := by decide +kernel
theorem d14 : decode yB 14 = .ok (.iload 4, 2) := by decide +kernel
theorem d16 : decode yB 16 = .ok (.iload_n 2, 1) := by decide +kernel
theorem d17 : decode yB 17 = .ok (.if_icmp (.eq) 40, 3) := by decide +kernel
theorem d57 : decode yB 57 = .ok (.aload_n 3, 1) := by decide +kernel
theorem d58 : decode yB 58 = .ok (.areturn, 1) := by decide +kernel
def site : List Cond := [.arrayClass .byte, Cmp5.tab] ++ staticW U16 115 Cmp5.yN
def tab : Cond := tabOf yN yB 6 (some (.array .byte)) site
def P (b : Addr) (A : Cell) (o len : Nat) (args : Array Value) (s : State) : Prop := args = #[.ref b, .int (Int32.ofNat o), .int (Int32.ofNat len)] ∧ Ch b A s ∧ o + len ≤ A.slots.size ∧ len ≤ 536870912 ∧ ∀ i, i < len → ¬ 255 < cv A (o + i)
def E (b : Addr) (A : Cell) (o len : Nat) (r : Option Value) (s u : State) : Prop := NewArr .byte "[B" len (fun j => .int (lo8 (cv A (o + j)))) r s u ∧ u.heap.size = s.heap.size + 1
/-- no char of the range above 255: a new byte[] of their low bytes -/
theorem law (l : Launch) (b : Addr) (A : Cell) (o len : Nat) : Law l yN 3 3 1 18 yB 6 (some (.array .byte)) site (P b A o len) (E b A o len) [] 1 len := by
  refine Law.of_walk (plainFor_of_name (by decide +kernel)) (by decide +kernel) (by decide +kernel) (by decide) (fun _ _ h => by rw [h.1]; rfl) (fun _ U U' hal hh h => ⟨h.1, h.2.1.mv hal hh, h.2.2⟩) (fun r U U' V V' h1 hal h2 h => ⟨NewArr.mv r U U' V V' h1 hal h2 h.1, by rw [h1, h2]; exact h.2⟩) ?_
  intro p e s m args below meth c s₁ X0 hexec hbytes hml hret hlk hnm hown hh0 W hP
  obtain ⟨rfl, hA, l1, l2, hp⟩ := hP
  have a31 := hA.1.2.2.2
  have c1 : Steps p.tables e below (s₁.setTop (entryFrame m #[.ref b, .int (Int32.ofNat o), .int (Int32.ofNat len)] 6)) (s₁.setTop (mkF m 0 #[.val (.ref b), .val (.int (Int32.ofNat o)), .val (.int (Int32.ofNat len)), .unset, .unset, .unset] [])) := entry rfl
  have c2 : Steps p.tables e below (s₁.setTop (entryFrame m #[.ref b, .int (Int32.ofNat o), .int (Int32.ofNat len)] 6)) (s₁.setTop (mkF m 1 #[.val (.ref b), .val (.int (Int32.ofNat o)), .val (.int (Int32.ofNat len)), .unset, .unset, .unset] [.int (Int32.ofNat len)])) := c1.trans (by
    refine XS.iloadN X0.here hexec rfl (hb hbytes d0) rfl ?_
    exact Steps.refl _)
  obtain ⟨T3, B3, X3, ba3, bs3, bv3, bh3, bf3, st3⟩ := X0.anew hexec (atype := .byte) (wk W (.arrayClass .byte)) rfl (by show len * 1 ≤ _; omega) (by omega) (g := (mkF m 1 #[.val (.ref b), .val (.int (Int32.ofNat o)), .val (.int (Int32.ofNat len)), .unset, .unset, .unset] [.int (Int32.ofNat len)])) rfl (hb hbytes d1) (rest := []) rfl (Nat.le_refl _) (by show 0 + len ≤ len; omega)
  rw [hh0] at ba3 st3
  have kp3 : XT.Kept s T3 := (XT.Kept.of_eq hh0).push bh3
  have hA3 := hA.keep X3.warmed.alike (kp3 _ _ hA.1.1)
  have hne : b ≠ s.heap.size := hA.1.ne
  have c4 : Steps p.tables e below (s₁.setTop (entryFrame m #[.ref b, .int (Int32.ofNat o), .int (Int32.ofNat len)] 6)) (T3.setTop (mkF m 3 #[.val (.ref b), .val (.int (Int32.ofNat o)), .val (.int (Int32.ofNat len)), .unset, .unset, .unset] [.ref s.heap.size])) := c2.trans (st3 _ (Steps.refl _))
  have c5 : Steps p.tables e below (s₁.setTop (entryFrame m #[.ref b, .int (Int32.ofNat o), .int (Int32.ofNat len)] 6)) (T3.setTop (mkF m 9 #[.val (.ref b), .val (.int (Int32.ofNat o)), .val (.int (Int32.ofNat len)), .val (.ref s.heap.size), .unset, .unset] [.int (Int32.ofNat len), .int 0, .ref s.heap.size, .int (Int32.ofNat o), .ref b])) := c4.trans (by
    refine XS.astoreN X3.here hexec rfl (hb hbytes d3) rfl rfl rfl ?_
    refine XS.aloadN X3.here hexec rfl (hb hbytes d4) rfl rfl ?_
    refine XS.iloadN X3.here hexec rfl (hb hbytes d5) rfl ?_
    refine XS.aloadN X3.here hexec rfl (hb hbytes d6) rfl rfl ?_
    refine iconstV X3.here hexec rfl 0 (hb hbytes d7) (by decide) ?_
    refine XS.iloadN X3.here hexec rfl (hb hbytes d8) rfl ?_
    exact Steps.refl _)
  obtain ⟨v6, T6, X6, E6, g6⟩ := X3.callS hexec (Cmp5.law l b A s.heap.size B3 o 0 len) hown (wks W (staticW U16 115 Cmp5.yN)) (wk W Cmp5.tab) (W := 0) (Nat.le_of_ble_eq_true rfl) (Nat.le_of_ble_eq_true rfl) (Nat.le_refl _) (by show 0 + len + 0 ≤ len; omega) (g := (mkF m 9 #[.val (.ref b), .val (.int (Int32.ofNat o)), .val (.int (Int32.ofNat len)), .val (.ref s.heap.size), .unset, .unset] [.int (Int32.ofNat len), .int (Int32.ofNat 0), .ref s.heap.size, .int (Int32.ofNat o), .ref b])) rfl (by rw [hml]; rfl) c5 (argsL := [.ref b, .int (Int32.ofNat o), .ref s.heap.size, .int (Int32.ofNat 0), .int (Int32.ofNat len)]) (rest := []) rfl rfl (by show 2 * 0 + 0 ≤ _; decide) (hb hbytes d9) (⟨rfl, hA3, ba3, hne, l1, by rw [bs3]; simp, hp⟩)
  obtain ⟨rfl, B6, p6, f6⟩ := E6
  have c7 : Steps p.tables e below (s₁.setTop (entryFrame m #[.ref b, .int (Int32.ofNat o), .int (Int32.ofNat len)] 6)) (T6.setTop (mkF m 12 #[.val (.ref b), .val (.int (Int32.ofNat o)), .val (.int (Int32.ofNat len)), .val (.ref s.heap.size), .unset, .unset] [.int (Int32.ofNat len)])) := g6
  have c8 : Steps p.tables e below (s₁.setTop (entryFrame m #[.ref b, .int (Int32.ofNat o), .int (Int32.ofNat len)] 6)) (T6.setTop (mkF m 58 #[.val (.ref b), .val (.int (Int32.ofNat o)), .val (.int (Int32.ofNat len)), .val (.ref s.heap.size), .val (.int (Int32.ofNat len)), .unset] [.ref s.heap.size])) := c7.trans (by
    refine XS.istore X6.here hexec rfl (hb hbytes d12) rfl rfl ?_
    refine XS.iload X6.here hexec rfl (hb hbytes d14) rfl ?_
    refine XS.iloadN X6.here hexec rfl (hb hbytes d16) rfl ?_
    refine XS.icmpYes X6.here hexec rfl (pc0 := 17) rfl (hb hbytes d17) rfl (ii_eq_t rfl) (by decide) rfl ?_
    refine XS.aloadN X6.here hexec rfl (hb hbytes d57) rfl rfl ?_
    exact Steps.refl _)
  have X8 := X6.wide (L' := []) (cells' := 1) (slots' := len) (fun x hx hlt => by
    simp only [List.nil_append, copyLocs, List.mem_map, List.mem_range] at hx
    obtain ⟨i, -, rfl⟩ := hx
    exact absurd hlt (Nat.lt_irrefl _)) (Nat.le_refl _) (by omega)
  exact ⟨T6, some (.ref s.heap.size), _, _, _, X8, rfl, rfl, rfl, (fun h => by cases h), ⟨⟨rfl, B6, ba3.like (X3.warmed.alike.symm.trans X6.warmed.alike) p6.1 f6.1 f6.2.1 f6.2.2.1, f6.2.1.trans bv3, by rw [X6.warmed.alike.findClass, f6.1]; exact bf3, by rw [f6.2.2.1, bs3]; simp, fun j hj => by rw [f6.2.2.2 j, if_pos (by omega)]; rfl, kp3.put p6 (Nat.le_refl _)⟩, by rw [p6.2.2, bh3, hh0]; simp⟩, fun fs hl => c8.trans (X8.areturnOut hexec rfl hret rfl (hb hbytes d58) hl)⟩
end Cmp3
namespace CodL
def yN : MethodName := ⟨"java/lang/StringUTF16", "coderFromArrayLen", "([BI)B"⟩
abbrev yB : ByteArray := jdk_52_method_15_code
theorem d0 : decode yB 0 = .ok (.iload_n 1, 1) := by decide +kernel
theorem d1 : decode yB 1 = .ok (.aload_n 0, 1) := by decide +kernel
theorem d2 : decode yB 2 = .ok (.arraylength, 1) := by decide +kernel
theorem d3 : decode yB 3 = .ok (.isub, 1) := by decide +kernel
theorem d4 : decode yB 4 = .ok (.bipush 31, 2) := by decide +kernel
theorem d6 : decode yB 6 = .ok (.iushr, 1) := by decide +kernel
theorem d7 : decode yB 7 = .ok (.i2b, 1) := by decide +kernel
theorem d8 : decode yB 8 = .ok (.ireturn, 1) := by decide +kernel
def site : List Cond := []
def tab : Cond := tabOf yN yB 2 (some .byte) site
def P (d : Addr) (B : Cell) (args : Array Value) (s : State) : Prop := args = #[.ref d, .int (Int32.ofNat B.slots.size)] ∧ Arr .byte d B s
def E (r : Option Value) (s u : State) : Prop := XT.PureE (some (.int 0)) r s u
/-- an array as long as the number of chars: LATIN1 -/
theorem law (l : Launch) (d : Addr) (B : Cell) : Law l yN 2 2 0 0 yB 2 (some .byte) site (P d B) E [] 0 0 := by
  refine Law.of_walk (plainFor_of_name (by decide +kernel)) (by decide +kernel) (by decide +kernel) (by decide) (fun _ _ h => by rw [h.1]; rfl) (fun _ U U' hal hh h => ⟨h.1, h.2.mv hal hh⟩) (fun r U U' V V' h1 hal h2 h => XT.PureE.mv r U U' V V' h1 hal h2 h) ?_
  intro p e s m args below meth c s₁ X0 hexec hbytes hml hret hlk hnm hown hh0 W hP
  obtain ⟨rfl, hB⟩ := hP
  have hB0 := hB.mv X0.warmed.alike hh0
  have c1 : Steps p.tables e below (s₁.setTop (entryFrame m #[.ref d, .int (Int32.ofNat B.slots.size)] 2)) (s₁.setTop (mkF m 0 #[.val (.ref d), .val (.int (Int32.ofNat B.slots.size))] [])) := entry rfl
  have c2 : Steps p.tables e below (s₁.setTop (entryFrame m #[.ref d, .int (Int32.ofNat B.slots.size)] 2)) (s₁.setTop (mkF m 2 #[.val (.ref d), .val (.int (Int32.ofNat B.slots.size))] [.ref d, .int (Int32.ofNat B.slots.size)])) := c1.trans (by
    refine XS.iloadN X0.here hexec rfl (hb hbytes d0) rfl ?_
    refine XS.aloadN X0.here hexec rfl (hb hbytes d1) rfl rfl ?_
    exact Steps.refl _)
  have c3 : Steps p.tables e below (s₁.setTop (entryFrame m #[.ref d, .int (Int32.ofNat B.slots.size)] 2)) (s₁.setTop (mkF m 8 #[.val (.ref d), .val (.int (Int32.ofNat B.slots.size))] [.int (lo8 (ushr (Int32.ofNat B.slots.size - Int32.ofNat B.slots.size) 31))])) := c2.trans (by
    refine X0.alen hexec hB0 rfl rfl (hb hbytes d2) ?_
    refine XS.isub X0.here hexec rfl (hb hbytes d3) rfl ?_
    refine bipushV X0.here hexec rfl 31 (hb hbytes d4) (by decide) ?_
    refine iushr X0.here hexec rfl (hb hbytes d6) rfl ?_
    refine i2b X0.here hexec rfl (hb hbytes d7) rfl ?_
    exact Steps.refl _)
  have e0 : lo8 (ushr (Int32.ofNat B.slots.size - Int32.ofNat B.slots.size) 31) = 0 := by rw [Int32.sub_self]; decide
  rw [e0] at c3
  exact ⟨s₁, some (.int 0), _, _, _, X0, rfl, rfl, rfl, (fun h => by cases h), ⟨rfl, hh0⟩, fun fs hl => c3.trans (X0.ireturnOut hexec hret rfl (Or.inr (Or.inr (Or.inl rfl))) (hb hbytes d8) hl)⟩
end CodL
/-- the String at a is Latin-1 over a new byte[] (the heap's one new cell): the low bytes of the len chars of A from o on; every cell but a is kept -/
def Got (a : Addr) (D : Cell) (fV fC : Field) (A : Cell) (o len : Nat) (r : Option Value) (s u : State) : Prop := r = none ∧ ∃ D' V : Cell, Blank "java/lang/String" a D' u ∧ Same D D' [fV.slot, fC.slot] ∧ D'.slots[fV.slot]? = some (.ref s.heap.size) ∧ D'.slots[fC.slot]? = some (.int 0) ∧ Arr .byte s.heap.size V u ∧ V.vm = .none ∧ u.vm.findClass "[B" = some V.cls ∧ V.slots.size = len ∧ (∀ j, j < len → V.slots[j]? = some (.int (lo8 (cv A (o + j))))) ∧ (∀ (y : Addr) (c : Cell), y ≠ a → s.heap[y]? = some c → u.heap[y]? = some c) ∧ u.heap.size = s.heap.size + 1
theorem Got.mv {a : Addr} {D A : Cell} {fV fC : Field} {o len : Nat} : ∀ r (U U' V V' : State), U'.heap = U.heap → V.vm.Alike V'.vm → V'.heap = V.heap → Got a D fV fC A o len r U V → Got a D fV fC A o len r U' V' :=
  fun r U U' V V' h1 hal h2 ⟨e0, D', X, a1, a2, a3, a4, a5, a6, a7, a8, a9, a10, a11⟩ => ⟨e0, D', X, a1.mv hal h2, a2, by rw [h1]; exact a3, a4, by rw [h1]; exact a5.mv hal h2, a6, by rw [hal.findClass]; exact a7, a8, a9, by rw [h1, h2]; exact a10, by rw [h1, h2]; exact a11⟩
namespace New4
def yN : MethodName := ⟨"java/lang/String", "<init>", "([CIILjava/lang/Void;)V"⟩
abbrev yB : ByteArray := jdk_42_method_149_code
theorem d0 : decode yB 0 = .ok (.aload_n 0, 1) := by decide +kernel
theorem d1 : decode yB 1 = .ok (.invokespecial 1, 3) := by decide +kernel
theorem d4 : decode yB 4 = .ok (.iload_n 3, 1) := by decide +kernel
theorem d5 : decode yB 5 = .ok (.ifCond (.ne) 22, 3) := by decide +kernel
theorem d27 : decode yB 27 = .ok (.getstatic 38, 3) := by decide +kernel
theorem d30 : decode yB 30 = .ok (.ifCond (.eq) 28, 3) := by decide +kernel
theorem d33 : decode yB 33 = .ok (.aload_n 1, 1) := by decide +kernel
theorem d34 : decode yB 34 = .ok (.iload_n 2, 1) := by decide +kernel
theorem d35 : decode yB 35 = .ok (.iload_n 3, 1) := by decide +kernel
theorem d36 : decode yB 36 = .ok (.invokestatic 177, 3) := by decide +kernel
theorem d39 : decode yB 39 = .ok (.astore 5, 2) := by decide +kernel
theorem d41 : decode yB 41 = .ok (.aload_n 0, 1) := by decide +kernel
theorem d42 : decode yB 42 = .ok (.aload 5, 2) := by decide +kernel
theorem d44 : decode yB 44 = .ok (.iload_n 3, 1) := by decide +kernel
theorem d45 : decode yB 45 = .ok (.invokestatic 47, 3) := by decide +kernel
theorem d48 : decode yB 48 = .ok (.putfield 15, 3) := by decide +kernel
theorem d51 : decode yB 51 = .ok (.aload_n 0, 1) := by decide +kernel
theorem d52 : decode yB 52 = .ok (.aload 5, 2) := by decide +kernel
theorem d54 : decode yB 54 = .ok (.putfield 9, 3) := by decide +kernel
theorem d57 : decode yB 57 = .ok (.return_, 1) := by decide +kernel
def site : List Cond := [.fieldLink "java/lang/String" 38 "java/lang/String" "COMPACT_STRINGS" "Z", Cmp3.tab, CodL.tab, .laysFinal "java/lang/String" "java/lang/String" "value" "[B", .fieldLink "java/lang/String" 9 "java/lang/String" "value" "[B", .laysFinal "java/lang/String" "java/lang/String" "coder" "B", .fieldLink "java/lang/String" 15 "java/lang/String" "coder" "B"] ++ objW "java/lang/String" 1 ++ staticW "java/lang/String" 177 Cmp3.yN ++ staticW "java/lang/String" 47 CodL.yN
def tab : Cond := tabOf yN yB 6 none site
def P (a : Addr) (D : Cell) (fV fC : Field) (b : Addr) (A : Cell) (z : Int32) (o len : Nat) (args : Array Value) (s : State) : Prop := args = #[.ref a, .ref b, .int (Int32.ofNat o), .int (Int32.ofNat len), .null] ∧ Blank "java/lang/String" a D s ∧ Found "java/lang/String" "value" "[B" fV s ∧ Found "java/lang/String" "coder" "B" fC s ∧ Ch b A s ∧ StaticIs s "java/lang/String" "COMPACT_STRINGS" "Z" (.int z) ∧ ¬ z = 0 ∧ 0 < len ∧ o + len ≤ A.slots.size ∧ len ≤ 536870912 ∧ ∀ i, i < len → ¬ 255 < cv A (o + i)
def E (a : Addr) (D : Cell) (fV fC : Field) (A : Cell) (o len : Nat) (r : Option Value) (s u : State) : Prop := Got a D fV fC A o len r s u
/-- len > 0, no char of the range above 255: a Latin-1 String of their low bytes -/
theorem law (l : Launch) (a : Addr) (D : Cell) (fV fC : Field) (b : Addr) (A : Cell) (z : Int32) (o len : Nat) : Law l yN 5 4 2 35 yB 6 none site (P a D fV fC b A z o len) (E a D fV fC A o len) [⟨a, fC.slot⟩, ⟨a, fV.slot⟩] 1 len := by
  refine Law.of_walk (plainFor_of_name (by decide +kernel)) (by decide +kernel) (by decide +kernel) (by decide) (fun _ _ h => by rw [h.1]; rfl) (fun _ U U' hal hh h => ⟨h.1, h.2.1.mv hal hh, h.2.2.1.al hal, h.2.2.2.1.al hal, h.2.2.2.2.1.mv hal hh, h.2.2.2.2.2.1.there hal hh, h.2.2.2.2.2.2⟩) (fun r U U' V V' h1 hal h2 h => Got.mv r U U' V V' h1 hal h2 h) ?_
  intro p e s m args below meth c s₁ X0 hexec hbytes hml hret hlk hnm hown hh0 W hP
  obtain ⟨rfl, hB, f1, f2, hA, s1, hz, l0, l1, l2, hp⟩ := hP
  have a31 := hA.1.2.2.2
  have c1 : Steps p.tables e below (s₁.setTop (entryFrame m #[.ref a, .ref b, .int (Int32.ofNat o), .int (Int32.ofNat len), .null] 6)) (s₁.setTop (mkF m 0 #[.val (.ref a), .val (.ref b), .val (.int (Int32.ofNat o)), .val (.int (Int32.ofNat len)), .val .null, .unset] [])) := entry rfl
  have c2 : Steps p.tables e below (s₁.setTop (entryFrame m #[.ref a, .ref b, .int (Int32.ofNat o), .int (Int32.ofNat len), .null] 6)) (s₁.setTop (mkF m 1 #[.val (.ref a), .val (.ref b), .val (.int (Int32.ofNat o)), .val (.int (Int32.ofNat len)), .val .null, .unset] [.ref a])) := c1.trans (by
    refine XS.aloadN X0.here hexec rfl (hb hbytes d0) rfl rfl ?_
    exact Steps.refl _)
  obtain ⟨T3, X3, q3, st3⟩ := X0.oinit hexec hown (wks W (objW "java/lang/String" 1)) (g := (mkF m 1 #[.val (.ref a), .val (.ref b), .val (.int (Int32.ofNat o)), .val (.int (Int32.ofNat len)), .val .null, .unset] [.ref a])) rfl (by rw [hml]; rfl) (rest := []) rfl (hb hbytes d1) (W := 0) (by show 2 * 0 + 0 ≤ _; decide) (Nat.le_of_ble_eq_true rfl) (Nat.le_of_ble_eq_true rfl)
  have hh3 := q3.trans hh0
  have c4 : Steps p.tables e below (s₁.setTop (entryFrame m #[.ref a, .ref b, .int (Int32.ofNat o), .int (Int32.ofNat len), .null] 6)) (T3.setTop (mkF m 27 #[.val (.ref a), .val (.ref b), .val (.int (Int32.ofNat o)), .val (.int (Int32.ofNat len)), .val .null, .unset] [])) := (c2.trans (st3 _ (Steps.refl _))).trans (by
    refine XS.iloadN X3.here hexec rfl (hb hbytes d4) rfl ?_
    refine XS.ifYes X3.here hexec rfl (pc0 := 5) rfl (hb hbytes d5) rfl (i0_ne_t (nz32 (by omega) l0)) (by decide) rfl ?_
    exact Steps.refl _)
  obtain ⟨T5, X5, q5, st5⟩ := X3.sget hexec hown (wk W (.fieldLink "java/lang/String" 38 "java/lang/String" "COMPACT_STRINGS" "Z")) s1 (fun _ _ h => by rw [hh3]; exact h) (g := (mkF m 27 #[.val (.ref a), .val (.ref b), .val (.int (Int32.ofNat o)), .val (.int (Int32.ofNat len)), .val .null, .unset] [])) rfl (hb hbytes d27)
  have hh5 := q5.trans hh3
  have c6 : Steps p.tables e below (s₁.setTop (entryFrame m #[.ref a, .ref b, .int (Int32.ofNat o), .int (Int32.ofNat len), .null] 6)) (T5.setTop (mkF m 30 #[.val (.ref a), .val (.ref b), .val (.int (Int32.ofNat o)), .val (.int (Int32.ofNat len)), .val .null, .unset] [.int z])) := c4.trans (st5 _ (Steps.refl _))
  have c7 : Steps p.tables e below (s₁.setTop (entryFrame m #[.ref a, .ref b, .int (Int32.ofNat o), .int (Int32.ofNat len), .null] 6)) (T5.setTop (mkF m 36 #[.val (.ref a), .val (.ref b), .val (.int (Int32.ofNat o)), .val (.int (Int32.ofNat len)), .val .null, .unset] [.int (Int32.ofNat len), .int (Int32.ofNat o), .ref b])) := c6.trans (by
    refine XS.ifNo X5.here hexec rfl (hb hbytes d30) rfl (i0_eq_f hz) ?_
    refine XS.aloadN X5.here hexec rfl (hb hbytes d33) rfl rfl ?_
    refine XS.iloadN X5.here hexec rfl (hb hbytes d34) rfl ?_
    refine XS.iloadN X5.here hexec rfl (hb hbytes d35) rfl ?_
    exact Steps.refl _)
  obtain ⟨v8, T8, X8, E8, g8⟩ := X5.callS hexec (Cmp3.law l b A o len) hown (wks W (staticW "java/lang/String" 177 Cmp3.yN)) (wk W Cmp3.tab) (W := 0) (Nat.le_of_ble_eq_true rfl) (Nat.le_of_ble_eq_true rfl) (Nat.le_refl _) (by show 0 + len ≤ len; omega) (g := (mkF m 36 #[.val (.ref a), .val (.ref b), .val (.int (Int32.ofNat o)), .val (.int (Int32.ofNat len)), .val .null, .unset] [.int (Int32.ofNat len), .int (Int32.ofNat o), .ref b])) rfl (by rw [hml]; rfl) c7 (argsL := [.ref b, .int (Int32.ofNat o), .int (Int32.ofNat len)]) (rest := []) rfl rfl (by show 2 * 0 + 0 ≤ _; decide) (hb hbytes d36) (⟨rfl, hA.mv X5.warmed.alike hh5, l1, l2, hp⟩)
  obtain ⟨e8, z8⟩ := E8
  obtain ⟨rfl, N, n1, n2, n3, n4, n5, n6⟩ := NewArr.mv _ T5 s _ _ hh5.symm (Vm.Alike.refl _) rfl e8
  rw [hh5] at z8
  have hB1 := hB.keep X8.warmed.alike (n6 _ _ hB.1)
  have hne : s.heap.size ≠ a := (Nat.ne_of_lt (Array.getElem?_eq_some_iff.mp hB.1).1).symm
  have c9 : Steps p.tables e below (s₁.setTop (entryFrame m #[.ref a, .ref b, .int (Int32.ofNat o), .int (Int32.ofNat len), .null] 6)) (T8.setTop (mkF m 39 #[.val (.ref a), .val (.ref b), .val (.int (Int32.ofNat o)), .val (.int (Int32.ofNat len)), .val .null, .unset] [.ref s.heap.size])) := g8
  have c10 : Steps p.tables e below (s₁.setTop (entryFrame m #[.ref a, .ref b, .int (Int32.ofNat o), .int (Int32.ofNat len), .null] 6)) (T8.setTop (mkF m 45 #[.val (.ref a), .val (.ref b), .val (.int (Int32.ofNat o)), .val (.int (Int32.ofNat len)), .val .null, .val (.ref s.heap.size)] [.int (Int32.ofNat N.slots.size), .ref s.heap.size, .ref a])) := by
    have hc : Steps p.tables e below (s₁.setTop (entryFrame m #[.ref a, .ref b, .int (Int32.ofNat o), .int (Int32.ofNat len), .null] 6)) (T8.setTop (mkF m 45 #[.val (.ref a), .val (.ref b), .val (.int (Int32.ofNat o)), .val (.int (Int32.ofNat len)), .val .null, .val (.ref s.heap.size)] [.int (Int32.ofNat len), .ref s.heap.size, .ref a])) := c9.trans (by
      refine XS.astore X8.here hexec rfl (hb hbytes d39) rfl rfl rfl ?_
      refine XS.aloadN X8.here hexec rfl (hb hbytes d41) rfl rfl ?_
      refine XS.aload X8.here hexec rfl (hb hbytes d42) rfl rfl ?_
      refine XS.iloadN X8.here hexec rfl (hb hbytes d44) rfl ?_
      exact Steps.refl _)
    rw [n4]; exact hc
  obtain ⟨v11, T11, X11, E11, g11⟩ := X8.callS hexec (CodL.law l s.heap.size N) hown (wks W (staticW "java/lang/String" 47 CodL.yN)) (wk W CodL.tab) (W := 1) (Nat.le_of_ble_eq_true rfl) (Nat.le_of_ble_eq_true rfl) (Nat.le_refl _) (by show 0 + len + 0 ≤ len; omega) (g := (mkF m 45 #[.val (.ref a), .val (.ref b), .val (.int (Int32.ofNat o)), .val (.int (Int32.ofNat len)), .val .null, .val (.ref s.heap.size)] [.int (Int32.ofNat N.slots.size), .ref s.heap.size, .ref a])) rfl (by rw [hml]; rfl) c10 (argsL := [.ref s.heap.size, .int (Int32.ofNat N.slots.size)]) (rest := [.ref a]) rfl rfl (by show 2 * 0 + (1 + 0) ≤ _; decide) (hb hbytes d45) (⟨rfl, n1⟩)
  obtain ⟨rfl, q11⟩ := E11
  have hB11 := hB1.mv (X8.warmed.alike.symm.trans X11.warmed.alike) q11
  have c12 : Steps p.tables e below (s₁.setTop (entryFrame m #[.ref a, .ref b, .int (Int32.ofNat o), .int (Int32.ofNat len), .null] 6)) (T11.setTop (mkF m 48 #[.val (.ref a), .val (.ref b), .val (.int (Int32.ofNat o)), .val (.int (Int32.ofNat len)), .val .null, .val (.ref s.heap.size)] [.int 0, .ref a])) := g11
  obtain ⟨T13, X13, p13, bl13, sl13, st13⟩ := X11.finit hexec hown (wk W (.fieldLink "java/lang/String" 15 "java/lang/String" "coder" "B")) (Or.inr ⟨_, (wk W (.laysFinal "java/lang/String" "java/lang/String" "coder" "B"))⟩) (Or.inl ⟨rfl, hnm⟩) f2 (Or.inl rfl) hB11 (t := .byte) (by decide +kernel) rfl (g := (mkF m 48 #[.val (.ref a), .val (.ref b), .val (.int (Int32.ofNat o)), .val (.int (Int32.ofNat len)), .val .null, .val (.ref s.heap.size)] [.int 0, .ref a])) rfl (rest := []) rfl (hb hbytes d48)
  have c14 : Steps p.tables e below (s₁.setTop (entryFrame m #[.ref a, .ref b, .int (Int32.ofNat o), .int (Int32.ofNat len), .null] 6)) (T13.setTop (mkF m 54 #[.val (.ref a), .val (.ref b), .val (.int (Int32.ofNat o)), .val (.int (Int32.ofNat len)), .val .null, .val (.ref s.heap.size)] [.ref s.heap.size, .ref a])) := (c12.trans (st13 _ (Steps.refl _))).trans (by
    refine XS.aloadN X13.here hexec rfl (hb hbytes d51) rfl rfl ?_
    refine XS.aload X13.here hexec rfl (hb hbytes d52) rfl rfl ?_
    exact Steps.refl _)
  obtain ⟨T15, X15, p15, bl15, sl15, st15⟩ := X13.finit hexec hown (wk W (.fieldLink "java/lang/String" 9 "java/lang/String" "value" "[B")) (Or.inr ⟨_, (wk W (.laysFinal "java/lang/String" "java/lang/String" "value" "[B"))⟩) (Or.inl ⟨rfl, hnm⟩) f1 (Or.inl rfl) bl13 (t := (.array .byte)) (by decide +kernel) rfl (g := (mkF m 54 #[.val (.ref a), .val (.ref b), .val (.int (Int32.ofNat o)), .val (.int (Int32.ofNat len)), .val .null, .val (.ref s.heap.size)] [.ref s.heap.size, .ref a])) rfl (rest := []) rfl (hb hbytes d54)
  have c16 : Steps p.tables e below (s₁.setTop (entryFrame m #[.ref a, .ref b, .int (Int32.ofNat o), .int (Int32.ofNat len), .null] 6)) (T15.setTop (mkF m 57 #[.val (.ref a), .val (.ref b), .val (.int (Int32.ofNat o)), .val (.int (Int32.ofNat len)), .val .null, .val (.ref s.heap.size)] [])) := c14.trans (st15 _ (Steps.refl _))
  have ap := apart (Or.inr ⟨_, (wk W (.laysFinal "java/lang/String" "java/lang/String" "value" "[B"))⟩) (Or.inr ⟨_, (wk W (.laysFinal "java/lang/String" "java/lang/String" "coder" "B"))⟩) f1 f2 (t₁ := .array .byte) (t₂ := .byte) (by decide +kernel) (by decide +kernel) (by decide)
  have al := X8.warmed.alike.symm.trans X15.warmed.alike
  have n7 : T11.heap[s.heap.size]? = some N := by rw [q11]; exact n1.1
  exact ⟨T15, none, _, _, _, X15, by simp, rfl, by omega, (fun _ => rfl), ⟨rfl, _, N, bl15, ((Same.refl D _).set _ (by simp)).set _ (by simp), sl15, (Cell.slots_setSlot_ne _ ap).trans sl13, n1.keep al (p15.other hne (p13.other hne n7)), n2, by rw [al.findClass]; exact n3, n4, n5, fun y c h1 h2 => p15.other h1 (p13.other h1 (by rw [q11]; exact n6 y c h2)), by rw [p15.2.2, p13.2.2, q11]; exact z8⟩, fun fs hl => c16.trans (X15.returnOut hexec hret (hb hbytes d57) hl)⟩
end New4
namespace New1
def yN : MethodName := ⟨"java/lang/String", "<init>", "([C)V"⟩
abbrev yB : ByteArray := jdk_42_method_3_code
theorem d0 : decode yB 0 = .ok (.aload_n 0, 1) := by decide +kernel
theorem d1 : decode yB 1 = .ok (.aload_n 1, 1) := by decide +kernel
theorem d2 : decode yB 2 = .ok (.iconst 0, 1) := by decide +kernel
theorem d3 : decode yB 3 = .ok (.aload_n 1, 1) := by decide +kernel
theorem d4 : decode yB 4 = .ok (.arraylength, 1) := by decide +kernel
theorem d5 : decode yB 5 = .ok (.aconst_null, 1) := by decide +kernel
theorem d6 : decode yB 6 = .ok (.invokespecial 27, 3) := by decide +kernel
theorem d9 : decode yB 9 = .ok (.return_, 1) := by decide +kernel
def site : List Cond := [New4.tab] ++ initW "java/lang/String" 27 New4.yN
def tab : Cond := tabOf yN yB 2 none site
def P (a : Addr) (D : Cell) (fV fC : Field) (b : Addr) (A : Cell) (z : Int32) (args : Array Value) (s : State) : Prop := args = #[.ref a, .ref b] ∧ Blank "java/lang/String" a D s ∧ Found "java/lang/String" "value" "[B" fV s ∧ Found "java/lang/String" "coder" "B" fC s ∧ Ch b A s ∧ StaticIs s "java/lang/String" "COMPACT_STRINGS" "Z" (.int z) ∧ ¬ z = 0 ∧ 0 < A.slots.size ∧ A.slots.size ≤ 536870912 ∧ ∀ i, i < A.slots.size → ¬ 255 < cv A i
def E (a : Addr) (D : Cell) (fV fC : Field) (A : Cell) (r : Option Value) (s u : State) : Prop := Got a D fV fC A 0 A.slots.size r s u
/-- new String(chars), not empty, no char above 255: a Latin-1 String of their low bytes -/
theorem law (l : Launch) (a : Addr) (D : Cell) (fV fC : Field) (b : Addr) (A : Cell) (z : Int32) : Law l yN 2 1 3 52 yB 2 none site (P a D fV fC b A z) (E a D fV fC A) [⟨a, fC.slot⟩, ⟨a, fV.slot⟩] 1 A.slots.size := by
  refine Law.of_walk (plainFor_of_name (by decide +kernel)) (by decide +kernel) (by decide +kernel) (by decide) (fun _ _ h => by rw [h.1]; rfl) (fun _ U U' hal hh h => ⟨h.1, h.2.1.mv hal hh, h.2.2.1.al hal, h.2.2.2.1.al hal, h.2.2.2.2.1.mv hal hh, h.2.2.2.2.2.1.there hal hh, h.2.2.2.2.2.2⟩) (fun r U U' V V' h1 hal h2 h => Got.mv r U U' V V' h1 hal h2 h) ?_
  intro p e s m args below meth c s₁ X0 hexec hbytes hml hret hlk hnm hown hh0 W hP
  obtain ⟨rfl, hB, f1, f2, hA, s1, hz, l0, l2, hp⟩ := hP
  have c1 : Steps p.tables e below (s₁.setTop (entryFrame m #[.ref a, .ref b] 2)) (s₁.setTop (mkF m 0 #[.val (.ref a), .val (.ref b)] [])) := entry rfl
  have c2 : Steps p.tables e below (s₁.setTop (entryFrame m #[.ref a, .ref b] 2)) (s₁.setTop (mkF m 6 #[.val (.ref a), .val (.ref b)] [.null, .int (Int32.ofNat A.slots.size), .int 0, .ref b, .ref a])) := c1.trans (by
    refine XS.aloadN X0.here hexec rfl (hb hbytes d0) rfl rfl ?_
    refine XS.aloadN X0.here hexec rfl (hb hbytes d1) rfl rfl ?_
    refine iconstV X0.here hexec rfl 0 (hb hbytes d2) (by decide) ?_
    refine XS.aloadN X0.here hexec rfl (hb hbytes d3) rfl rfl ?_
    refine X0.alen hexec (hA.1.mv X0.warmed.alike hh0) rfl rfl (hb hbytes d4) ?_
    refine XS.aconstNull X0.here hexec rfl (hb hbytes d5) ?_
    exact Steps.refl _)
  obtain ⟨v3, T3, X3, E3, g3⟩ := X0.callN hexec (New4.law l a D fV fC b A z 0 A.slots.size) rfl hown (wks W (initW "java/lang/String" 27 New4.yN)) (W New4.tab (by simp only [site, List.mem_cons, List.mem_append, true_or, or_true])) (W := 0) (Nat.le_of_ble_eq_true rfl) (Nat.le_of_ble_eq_true rfl) (Nat.le_refl _) (by show 0 + A.slots.size ≤ A.slots.size; omega) (g := (mkF m 6 #[.val (.ref a), .val (.ref b)] [.null, .int (Int32.ofNat A.slots.size), .int (Int32.ofNat 0), .ref b, .ref a])) rfl (by rw [hml]; rfl) c2 (argsL := [.ref b, .int (Int32.ofNat 0), .int (Int32.ofNat A.slots.size), .null]) (rest := []) rfl rfl (by show 2 * 0 + 0 ≤ _; decide) (hb hbytes d6) (⟨rfl, hB.mv X0.warmed.alike hh0, f1.al X0.warmed.alike, f2.al X0.warmed.alike, hA.mv X0.warmed.alike hh0, s1.there X0.warmed.alike hh0, hz, l0, by omega, l2, fun i hi => by rw [Nat.zero_add]; exact hp i hi⟩)
  have e0 := Got.mv _ s₁ s _ _ hh0.symm (Vm.Alike.refl _) rfl E3
  obtain rfl := e0.1
  have c4 : Steps p.tables e below (s₁.setTop (entryFrame m #[.ref a, .ref b] 2)) (T3.setTop (mkF m 9 #[.val (.ref a), .val (.ref b)] [])) := g3
  exact ⟨T3, none, _, _, _, X3, by simp, rfl, by omega, (fun _ => rfl), e0, fun fs hl => c4.trans (X3.returnOut hexec hret (hb hbytes d9) hl)⟩
theorem pays {l : Launch} {R : Room} {p : Program} {e : Env} {below : List Frame} {s : State} {sargs : Array Value} {len W : Nat} (a : Addr) (D : Cell) (fV fC : Field) (b : Addr) (A : Cell) (z : Int32) (htab : tab.before sargs s = true) (hfr : 4 ≤ R.frames) (hlo : W + 65 ≤ R.locals) :
    Back l R p e below s sargs yN len W (fun A₁ a₁ => A₁.cells + 1 ≤ R.cells ∧ A₁.slots + A.slots.size ≤ R.slots ∧ P a D fV fC b A z a₁ A₁.U) (fun A₁ _ v₁ B₁ => E a D fV fC A v₁ A₁.U B₁.U ∧ B₁.locs = A₁.locs ++ [⟨a, fC.slot⟩, ⟨a, fV.slot⟩] ∧ B₁.cells = A₁.cells + 1 ∧ B₁.slots = A₁.slots + A.slots.size) :=
  (law l a D fV fC b A z).pays htab hfr (by omega)
end New1
/-- the byte, read back as charAt reads it, is the char -/
theorem lo8_mask {x : Int32} (h0 : ¬ x < 0) (h1 : ¬ 255 < x) : lo8 x &&& 255 = x := by
  have t : ∀ k : Fin 256, lo8 (Int32.ofNat k.val) &&& 255 = Int32.ofNat k.val := by decide +kernel
  rw [Int32.lt_iff_toInt_lt] at h0 h1
  have e0 : (0 : Int32).toInt = 0 := rfl
  have e1 : (255 : Int32).toInt = 255 := rfl
  obtain ⟨k, hk⟩ : ∃ k : Nat, x.toInt = k := ⟨x.toInt.toNat, by omega⟩
  have hx : x = Int32.ofNat k := Int32.toInt_inj.mp (by rw [hk, Int32.toInt_ofNat_small (by omega)])
  rw [hx]
  exact t ⟨k, by omega⟩
end StrChars
namespace StrChars.Road
open Jvm Sem ClassFile Op Lib Jvm.Stand Jvm.Free Jvm.Free.XT
open Jvm.Lib.Cold (StaticIs)
abbrev ST : String := "java/lang/String"
/-- every table word that New1's law asks, flat -/
abbrev words : List Jvm.Cond := [.code New1.yN New1.yB 2 none, .initialized ST, .methodLink ST 27 New4.yN, .instanceMethod New4.yN,
  .code New4.yN New4.yB 6 none, .fieldLink ST 38 ST "COMPACT_STRINGS" "Z", .laysFinal ST ST "value" "[B", .fieldLink ST 9 ST "value" "[B", .laysFinal ST ST "coder" "B", .fieldLink ST 15 ST "coder" "B",
  .methodLink ST 1 Lib.objectInit, .instanceMethod Lib.objectInit, .code Lib.objectInit ⟨#[0xb1]⟩ 1 none, .methodLink ST 177 Cmp3.yN, .static Cmp3.yN, .methodLink ST 47 CodL.yN, .static CodL.yN,
  .code Cmp3.yN Cmp3.yB 6 (some (.array .byte)), .initialized U16, .arrayClass .byte, .methodLink U16 115 Cmp5.yN, .static Cmp5.yN, .code Cmp5.yN Cmp5.yB 7 (some .int), .code CodL.yN CodL.yB 2 (some .byte)]
theorem tab_of {a : Array Value} {s : State} (h : ∀ w ∈ words, w.before a s = true) : New1.tab.before a s = true := by
  have h5 : Cmp5.tab.before a s = true := unparts (wk h (.code Cmp5.yN Cmp5.yB 7 (some .int))) (wks h (.initialized Cmp5.yN.cls :: Cmp5.site))
  have hc : CodL.tab.before a s = true := unparts (wk h (.code CodL.yN CodL.yB 2 (some .byte))) (wks h (.initialized CodL.yN.cls :: CodL.site))
  have q5 : ∀ w ∈ Cmp5.tab :: words, w.before a s = true := fun w hw => (List.mem_cons.mp hw).elim (fun e => e ▸ h5) (h w)
  have h3 : Cmp3.tab.before a s = true := unparts (wk q5 (.code Cmp3.yN Cmp3.yB 6 (some (.array .byte)))) (wks q5 (.initialized Cmp3.yN.cls :: Cmp3.site))
  have q3 : ∀ w ∈ Cmp3.tab :: CodL.tab :: words, w.before a s = true := fun w hw => (List.mem_cons.mp hw).elim (fun e => e ▸ h3) fun hw => (List.mem_cons.mp hw).elim (fun e => e ▸ hc) (h w)
  have h4 : New4.tab.before a s = true := unparts (wk q3 (.code New4.yN New4.yB 6 none)) (wks q3 (.initialized New4.yN.cls :: New4.site))
  have q4 : ∀ w ∈ New4.tab :: words, w.before a s = true := fun w hw => (List.mem_cons.mp hw).elim (fun e => e ▸ h4) (h w)
  exact unparts (wk q4 (.code New1.yN New1.yB 2 none)) (wks q4 (.initialized New1.yN.cls :: New1.site))
/-- the words ride from the start Z to the walk's own state -/
theorem moved {Z s : State} {a0 args : Array Value} (hZ : Z.Warmed39 s.vm) (hw : ∀ d ∈ words, d.before a0 Z = true) : ∀ d ∈ words, d.before args s = true := fun d hd => by
  have q := hw d hd
  have t : ∀ d ∈ words, d = .arrayClass .byte ∨ (d.onTables && d.keepsFace) = true := by decide +kernel
  rcases t d hd with rfl | t
  · exact RoadKit.mvA hZ q
  · exact RoadKit.mv hZ q t
/-- WHAT COMES BACK, over the tables of the start Z: h the heap at the call, h' behind it -/
def Q (Z : State) (x : Addr) (A : Cell) (h : Heap) (v : Option Value) (h' : Heap) (L : List Loc) : Prop := v = none ∧ (∀ y ∈ L, y.base = x) ∧ RoadKit.Keep h h' [x] ∧ h'.size = h.size + 1 ∧ RoadKit.Exa Z h' x ST ∧ RoadKit.Fld Z h' x ST "value" "[B" (.ref h.size) ∧ RoadKit.Fld Z h' x ST "coder" "B" (.int 0) ∧
  (∃ V : Cell, RoadKit.Arr Z h' h.size V .byte ∧ V.vm = .none ∧ Z.vm.findClass "[B" = some V.cls ∧ V.slots.size = A.slots.size ∧ ∀ j, j < A.slots.size → V.slots[j]? = some (.int (lo8 (cv A j)))) ∧
  ∀ (O n d : String) (w : Value), RoadKit.Fld Z h x O n d w → RoadKit.slotOf Z O n d ≠ RoadKit.slotOf Z ST "value" "[B" → RoadKit.slotOf Z O n d ≠ RoadKit.slotOf Z ST "coder" "B" → RoadKit.Fld Z h' x O n d w
/-- **new String(chars) AT A CALL, IN THE ROAD'S FORM**: for specialBack behind newO: x the fresh String, b the char[] with the cell A -/
theorem back {p : Program} {l : Launch} {e : Env} {R : Room} {s : State} {args : Array Value} {below : List Frame} {len W : Nat} {Z : State} {a0 : Array Value} {h : Heap} (hZ : Z.Warmed39 s.vm) (hw : ∀ d ∈ words, d.before a0 Z = true) {kI : Nat} (wi : (Jvm.Cond.instantiable ST kI).before a0 Z = true)
    {x b : Addr} {A : Cell} {z : Int32} {v0 c0 : Value} (E : RoadKit.Exa Z h x ST) (V : RoadKit.Fld Z h x ST "value" "[B" v0) (C : RoadKit.Fld Z h x ST "coder" "B" c0) (K : RoadKit.Arr Z h b A .char) (hty : Typed .char A) (S : RoadKit.Sta Z h ST "COMPACT_STRINGS" "Z" (.int z)) (hz : ¬ z = 0)
    (l0 : 0 < A.slots.size) (l2 : A.slots.size ≤ 536870912) (hp : ∀ i, i < A.slots.size → ¬ 255 < cv A i) (hfr : 4 ≤ R.frames) (hlo : W + 65 ≤ R.locals) :
    Back l R p e below s args New1.yN len W (fun P a => a = #[.ref x, .ref b] ∧ P.U.heap = h ∧ P.cells + 1 ≤ R.cells ∧ P.slots + A.slots.size ≤ R.slots)
      (fun P _ v B => ∃ L, Q Z x A h v B.U.heap L ∧ B.locs = P.locs ++ L ∧ B.cells = P.cells + 1 ∧ B.slots = P.slots + A.slots.size) := by
  intro m meth c P g ig mk a X hg hsize hdg hW hn hp'
  obtain ⟨rfl, rfl, r1, r2⟩ := hp'
  have al : Z.vm.Alike P.U.vm := hZ.alike.trans X.warmed.alike
  obtain ⟨D, cfV, kV, iV, fV, hD, gV, stV, knV, obV, asV, slV⟩ := id V
  obtain ⟨D', cfC, kC, iC, fC, hD', gC, stC, -, -, asC, slC⟩ := id C
  cases hD.symm.trans hD'
  obtain ⟨D2, kD, e1, e2, e3, e4, e5⟩ := id E
  cases hD.symm.trans e1
  obtain ⟨c2, k2, i1, i2, i3, -⟩ := Cond.instantiable_spec wi
  cases e2.symm.trans i1
  cases e3.symm.trans i2
  obtain ⟨kU, u1, u2⟩ := al.2.2 _ _ e3
  have hB : Blank ST x D P.U := ⟨hD, ⟨knV, fun q hq => by rw [hq] at obV; cases obV⟩, by rw [al.findClass]; exact e2, kU, u1, by rw [u2]; exact i3, by rw [u2]; exact e5 i3⟩
  have F1 : Found ST "value" "[B" fV P.U := ⟨SBG.found_only al ⟨cfV, kV, iV, gV⟩, stV⟩
  have F2 : Found ST "coder" "B" fC P.U := ⟨SBG.found_only al ⟨cfC, kC, iC, gC⟩, stC⟩
  have hA : Ch b A P.U := ⟨⟨K.1, State.isArrayOf_alike al K.2.1, K.2.2, by omega⟩, hty⟩
  have hS : StaticIs P.U ST "COMPACT_STRINGS" "Z" (.int z) := by
    obtain ⟨cfS, iS, kS, fS, st, cS, t1, t2, t3, t4, t5, t6, t7⟩ := S
    exact StaticIs.there (s := { Z with heap := P.U.heap }) ⟨cfS, iS, kS, fS, st, cS, t1, t2, t3, t4, t5, (fun q => by rw [q] at t6; cases t6), t7⟩ al rfl
  obtain ⟨v, B, X', ⟨⟨hv, E', V', q1, q2, q3, q4, q5, q6, q7, q8, q9, q10, q11⟩, hl, hc, hs⟩, st⟩ := New1.pays x D fV fC b A z (tab_of (moved hZ hw)) hfr hlo m meth c P g ig mk _ X hg hsize hdg hW hn ⟨r1, r2, rfl, hB, F1, F2, hA, hS, hz, l0, l2, hp⟩
  have al' : Z.vm.Alike B.U.vm := hZ.alike.trans X'.warmed.alike
  have hsz : E'.slots.size = D.slots.size := by
    obtain ⟨-, -, -, kB, w1, w2, w3⟩ := q1
    obtain ⟨kB', y1, y2⟩ := al'.2.2 _ _ e3
    rw [q2.2.1] at w1
    cases w1.symm.trans y1
    rw [w3, e5 i3, y2]
  refine ⟨v, B, X', ⟨_, ⟨hv, ?_, ⟨by omega, fun y cy hy hn' => q10 y cy (by simpa using hn') hy, fun y cy hy => ?_⟩, q11, ⟨E', _, q1.1, by rw [q2.2.1]; exact e2, by rw [q2.2.1]; exact e3, by rw [q2.1]; exact obV, fun _ => by rw [hsz]; exact e5 i3⟩,
    ⟨E', cfV, kV, iV, fV, q1.1, gV, stV, by rw [q2.1]; exact knV, by rw [q2.1]; exact obV, by rw [q2.2.1]; exact asV, q3⟩, ⟨E', cfC, kC, iC, fC, q1.1, gC, stC, by rw [q2.1]; exact knV, by rw [q2.1]; exact obV, by rw [q2.2.1]; exact asC, q4⟩,
    ⟨V', ⟨q5.1, State.isArrayOf_alike al'.symm q5.2.1, q5.2.2.1⟩, q6, by rw [← al'.findClass]; exact q7, q8, fun j hj => by have := q9 j hj; rwa [Nat.zero_add] at this⟩, fun O n d w F n1 n2 => ?_⟩, hl, hc, hs⟩, st⟩
  · intro y hy
    simp only [List.mem_cons, List.not_mem_nil, or_false] at hy
    rcases hy with rfl | rfl <;> rfl
  · by_cases q : y = x
    · subst q
      cases hD.symm.trans hy
      exact ⟨E', q1.1, q2.2.1, q2.1, hsz⟩
    · exact ⟨cy, q10 y cy q hy, rfl, rfl, rfl⟩
  · obtain ⟨D3, cf, k, i, f, g1, g2, g3, g4, g5, g6, g7⟩ := F
    cases hD.symm.trans g1
    simp only [RoadKit.slotOf, g2, gV, gC, Option.map_some, Option.getD_some] at n1 n2
    exact ⟨E', cf, k, i, f, q1.1, g2, g3, by rw [q2.1]; exact g4, by rw [q2.1]; exact g5, by rw [q2.2.1]; exact g6, by rw [q2.2.2 f.slot (by simp [n1, n2])]; exact g7⟩
end StrChars.Road
namespace StrChars.Road
open Jvm Sem ClassFile Op Lib Jvm.Stand Jvm.Free Jvm.Free.XT
/-- WHAT COMES BACK, the byte[] as a list of values -/
def QA (Z : State) (x : Addr) (zn : Int32) (cs : List Int32) (h : Heap) (v : Option Value) (h' : Heap) (L : List Loc) : Prop := v = none ∧ (∀ y ∈ L, y.base = x) ∧ RoadKit.Keep h h' [x] ∧ h'.size = h.size + 1 ∧ RoadKit.Exa Z h' x ST ∧ RoadKit.Fld Z h' x ST "value" "[B" (.ref h.size) ∧ RoadKit.Fld Z h' x ST "coder" "B" (.int 0) ∧
  (∃ kb, Z.vm.findClass "[B" = some kb ∧ RoadKit.Arv Z h' h.size kb .byte zn (cs.map fun c => .int (lo8 c)) (.int 0)) ∧
  ∀ (O n d : String) (w : Value), RoadKit.Fld Z h x O n d w → RoadKit.slotOf Z O n d ≠ RoadKit.slotOf Z ST "value" "[B" → RoadKit.slotOf Z O n d ≠ RoadKit.slotOf Z ST "coder" "B" → RoadKit.Fld Z h' x O n d w
/-- **new String(chars) AT A CALL, THE ARRAYS AS LISTS**: the char[] at b holds cs, not empty, no char above 255 -/
theorem backArv {p : Program} {l : Launch} {e : Env} {R : Room} {s : State} {args : Array Value} {below : List Frame} {len W : Nat} {Z : State} {a0 : Array Value} {h : Heap} (hZ : Z.Warmed39 s.vm) (hw : ∀ d ∈ words, d.before a0 Z = true) {kI : Nat} (wi : (Jvm.Cond.instantiable ST kI).before a0 Z = true)
    {x b : Addr} {k : ClassId} {zn z : Int32} {cs : List Int32} {dv v0 c0 : Value} (E : RoadKit.Exa Z h x ST) (V : RoadKit.Fld Z h x ST "value" "[B" v0) (C : RoadKit.Fld Z h x ST "coder" "B" c0) (K : RoadKit.Arv Z h b k .char zn (cs.map Value.int) dv) (S : RoadKit.Sta Z h ST "COMPACT_STRINGS" "Z" (.int z)) (hz : ¬ z = 0)
    (hlen : zn.toNatClampNeg = cs.length) (h0 : 0 < cs.length) (hbig : cs.length ≤ 536870912) (hall : ∀ c ∈ cs, ¬ 255 < c) (hfr : 4 ≤ R.frames) (hlo : W + 65 ≤ R.locals) :
    Back l R p e below s args New1.yN len W (fun P a => a = #[.ref x, .ref b] ∧ P.U.heap = h ∧ P.cells + 1 ≤ R.cells ∧ P.slots + cs.length ≤ R.slots)
      (fun P _ v B => ∃ L, QA Z x zn cs h v B.U.heap L ∧ B.locs = P.locs ++ L ∧ B.cells = P.cells + 1 ∧ B.slots = P.slots + cs.length) := by
  obtain ⟨A, K1, K2, K3, K4, K5, K6⟩ := K
  have e : A.slots.size = cs.length := K3.trans hlen
  have hat : ∀ (i : Nat) (hi : i < cs.length), A.slots[i]? = some (.int cs[i]) := fun i hi => by rw [K5 i (by omega)]; simp [List.getD_eq_getElem?_getD, hi]
  have hcv : ∀ (i : Nat) (hi : i < cs.length), cv A i = cs[i] := fun i hi => by unfold cv; rw [hat i hi]
  have hty : Typed .char A := fun i v hv => by
    have hi : i < A.slots.size := (Array.getElem?_eq_some_iff.mp hv).1
    have q := K5 i hi
    rw [hv] at q
    rw [Option.some.inj q]
    exact K6 i hi
  refine Back.mono (back hZ hw wi E V C K1 hty S hz (by omega) (by omega) (fun i hi => by rw [hcv i (by omega)]; exact hall _ (List.getElem_mem _)) hfr hlo) (fun P a hp => ⟨hp.1, hp.2.1, hp.2.2.1, by rw [e]; exact hp.2.2.2⟩) (fun P a v B hp hq => ?_)
  obtain ⟨L, ⟨q1, q2, q3, q4, q5, q6, q7, ⟨V', v1, v2, v3, v4, v5⟩, q9⟩, hl, hc, hs⟩ := hq
  refine ⟨L, ⟨q1, q2, q3, q4, q5, q6, q7, ⟨V'.cls, v3, V', v1, rfl, by rw [v4, e, hlen], K4, fun i hi => ?_, fun i hi => ?_⟩, q9⟩, hl, hc, by rw [hs, e]⟩
  · have hi' : i < cs.length := by omega
    rw [v5 i (by omega), hcv i hi']; simp [List.getD_eq_getElem?_getD, hi']
  · have hi' : i < cs.length := by omega
    simp only [List.getD_eq_getElem?_getD, List.getElem?_map, List.getElem?_eq_getElem hi', Option.map_some, Option.getD_some]
    exact fits_lo8 _
end StrChars.Road
namespace StrChars.Road
open Jvm Sem ClassFile Op Lib Jvm.Stand Jvm.Free Jvm.Free.XT
/-- WHAT COMES BACK, in the writer's own shape -/
def QV (Z : State) (x : Addr) (N : Int32) (bs : List Int32) (h : Heap) (n0 : Nat) (v : Option Value) (h' : Heap) (L : List Loc) : Prop := v = none ∧ RoadKit.Fr n0 L ∧ RoadKit.Keep h h' [x] ∧ RoadKit.Exa Z h' x ST ∧ RoadKit.Fld Z h' x ST "coder" "B" (.int 0) ∧
  ∃ (t : Addr) (kb : ClassId), n0 ≤ t ∧ h.size ≤ t ∧ ¬ t = x ∧ RoadKit.Fld Z h' x ST "value" "[B" (.ref t) ∧ RoadKit.Arv Z h' t kb .byte N (bs.map Value.int) (.int 0)
/-- **new String(chars) AT A CALL, FOR THE WRITER**: a char[] of n known ints, each 0 to 255 -/
theorem backV {p : Program} {l : Launch} {e : Env} {R : Room} {s : State} {args : Array Value} {below : List Frame} {len W : Nat} {Z : State} {a0 : Array Value} {h : Heap} (hZ : Z.Warmed39 s.vm) (hw : ∀ d ∈ words, d.before a0 Z = true) {kI : Nat} (wi : (Jvm.Cond.instantiable ST kI).before a0 Z = true)
    {x b : Addr} {kC : ClassId} {cs bs : List Int32} {d v0 c0 : Value} {z N : Int32} {n n0 : Nat} (hx0 : n0 ≤ x) (hh0 : n0 ≤ h.size) (E : RoadKit.Exa Z h x ST) (V : RoadKit.Fld Z h x ST "value" "[B" v0) (C : RoadKit.Fld Z h x ST "coder" "B" c0) (K : RoadKit.Arv Z h b kC .char N (cs.map Value.int) d) (S : RoadKit.Sta Z h ST "COMPACT_STRINGS" "Z" (.int z)) (hz : ¬ z = 0)
    (hn : cs.length = n) (hN : N = Int32.ofNat n) (l0 : 0 < n) (l2 : n ≤ 4000) (hp : ∀ c ∈ cs, ¬ c < 0 ∧ ¬ (255 : Int32) < c) (hb : bs = cs.map (fun c => c.toInt8.toInt32)) (hfr : 4 ≤ R.frames) (hlo : W + 65 ≤ R.locals) :
    Back l R p e below s args (⟨"java/lang/String", "<init>", "([C)V"⟩ : MethodName) len W (fun P a => a = #[.ref x, .ref b] ∧ P.U.heap = h ∧ P.cells + 1 ≤ R.cells ∧ P.slots + n ≤ R.slots)
      (fun P _ v B => ∃ L, QV Z x N bs h n0 v B.U.heap L ∧ B.locs = P.locs ++ L ∧ B.cells = P.cells + 1 ∧ B.slots = P.slots + n) := by
  subst hn hN hb
  refine Back.mono (backArv hZ hw wi E V C K S hz (n32 (by omega)) l0 (by omega) (fun c hc => (hp c hc).2) hfr hlo) (fun P a hp => hp) (fun P a v B hp hq => ?_)
  obtain ⟨L, ⟨q1, q2, q3, q4, q5, q6, q7, ⟨kb, v1, v2⟩, q9⟩, hl, hc, hs⟩ := hq
  exact ⟨L, ⟨q1, fun y hy => by rw [q2 y hy]; exact hx0, q3, q5, q7, h.size, kb, hh0, Nat.le_refl _, Nat.ne_of_gt E.lt, q6, by rw [List.map_map]; exact v2⟩, hl, hc, hs⟩
end StrChars.Road
namespace StrChars
open Jvm Sem ClassFile Op Lib Jvm.Stand Jvm.Free.XT Jvm.Free.ALB Jvm.Free.JM Jvm.Free
open Jvm.Lib.Cold (StaticIs)
def hi8 (x : Int32) : Int32 := lo8 (x >>> ((8 : Int32) &&& 31))
/-- what StringUTF16.getChar makes of two bytes -/
def pairCh (u v : Int32) : Int32 := (((u &&& 255) <<< ((0 : Int32) &&& 31)) ||| ((v &&& 255) <<< ((8 : Int32) &&& 31))).toUInt32.toUInt16.toUInt32.toInt32
theorem shr0 (c : Int32) : c >>> ((0 : Int32) &&& 31) = c := by
  have e : ((0 : Int32) &&& 31) = 0 := by decide
  rw [e]
  apply Int32.toBitVec_inj.mp
  rw [Int32.toBitVec_shiftRight]
  have e1 : ((0 : Int32).toBitVec.smod 32) = 0#32 := by decide
  rw [e1, BitVec.sshiftRight_eq']
  exact BitVec.sshiftRight_zero
theorem lo8_and (x : Int32) : (lo8 x &&& 255).toBitVec.toNat = x.toBitVec.toNat % 256 := by
  have h : (lo8 x).toBitVec = (x.toBitVec.signExtend 8).signExtend 32 := by rw [lo8, Int8.toBitVec_toInt32, Int32.toBitVec_toInt8]
  rw [Int32.toBitVec_and, BitVec.toNat_and, h]
  have e : ((x.toBitVec.signExtend 8).signExtend 32).toNat % 256 = x.toBitVec.toNat % 256 := by
    rw [BitVec.toNat_signExtend]
    have hlt := x.toBitVec.isLt
    simp only [BitVec.toNat_setWidth, BitVec.toNat_signExtend]
    split <;> split <;> omega
  rw [← e]
  exact Nat.and_two_pow_sub_one_eq_mod _ 8
theorem pair_says {c : Int32} (h0 : ¬ c < 0) (h1 : ¬ 65535 < c) : pairCh (lo8 c) (hi8 c) = c := by
  rw [Int32.lt_iff_toInt_lt] at h0 h1
  have e0 : (0 : Int32).toInt = 0 := rfl
  have e1 : (65535 : Int32).toInt = 65535 := rfl
  have hc : c.toInt = c.toBitVec.toNat := by
    have := c.toBitVec.isLt
    have e : c.toInt = c.toBitVec.toInt := rfl
    rw [e] at h0 h1
    rw [e]
    rw [BitVec.toInt_eq_toNat_cond] at h0 h1 ⊢
    split at h0 <;> split <;> omega
  have hn : c.toBitVec.toNat < 65536 := by omega
  have a1 := lo8_and c
  have a2 : (hi8 c &&& 255).toBitVec.toNat = c.toBitVec.toNat / 256 := by
    rw [hi8, lo8_and]
    have e : ((8 : Int32) &&& 31) = 8 := by decide
    rw [e, Int32.toBitVec_shiftRight]
    have e2 : ((8 : Int32).toBitVec.smod 32) = 8#32 := by decide
    rw [e2, BitVec.sshiftRight_eq', BitVec.toNat_sshiftRight_of_msb_false (by rw [BitVec.msb_eq_false_iff_two_mul_lt]; omega)]
    show c.toBitVec.toNat >>> 8 % 256 = _
    rw [Nat.shiftRight_eq_div_pow]
    omega
  unfold pairCh
  apply Int32.toBitVec_inj.mp
  apply BitVec.eq_of_toNat_eq
  have f0 : ((0 : Int32) &&& 31) = 0 := by decide
  have f8 : ((8 : Int32) &&& 31) = 8 := by decide
  rw [f0, f8]
  have g : (((lo8 c &&& 255) <<< (0 : Int32)) ||| ((hi8 c &&& 255) <<< (8 : Int32))).toBitVec.toNat = c.toBitVec.toNat := by
    rw [Int32.toBitVec_or, Int32.toBitVec_shiftLeft, Int32.toBitVec_shiftLeft]
    have s0 : ((0 : Int32).toBitVec.smod 32) = 0#32 := by decide
    have s8 : ((8 : Int32).toBitVec.smod 32) = 8#32 := by decide
    rw [s0, s8, BitVec.toNat_or]
    simp only [BitVec.shiftLeft_eq', BitVec.toNat_shiftLeft, a1, a2]
    show (c.toBitVec.toNat % 256) <<< 0 % 2 ^ 32 ||| (c.toBitVec.toNat / 256) <<< 8 % 2 ^ 32 = _
    rw [Nat.shiftLeft_zero, Nat.mod_eq_of_lt (show c.toBitVec.toNat % 256 < 2 ^ 32 by omega), Nat.mod_eq_of_lt (show (c.toBitVec.toNat / 256) <<< 8 < 2 ^ 32 by rw [Nat.shiftLeft_eq]; omega), Nat.or_comm, ← Nat.shiftLeft_add_eq_or_of_lt (by omega), Nat.shiftLeft_eq]
    omega
  show BitVec.toNat (((((lo8 c &&& 255) <<< (0 : Int32)) ||| ((hi8 c &&& 255) <<< (8 : Int32))).toBitVec.setWidth 16).setWidth 32) = _
  rw [BitVec.toNat_setWidth, BitVec.toNat_setWidth, g]
  omega
end StrChars
namespace StrChars
open Jvm Sem ClassFile Op Lib Jvm.Stand Jvm.Free.XT Jvm.Free.ALB Jvm.Free.JM Jvm.Free
open Jvm.Lib.Cold (StaticIs)
theorem shr1 {n : Nat} (h : 2 * n < 2 ^ 31) : Int32.ofNat (2 * n) >>> ((1 : Int32) &&& 31) = Int32.ofNat n := by
  have e : ((1 : Int32) &&& 31) = 1 := by decide
  rw [e]
  apply Int32.toBitVec_inj.mp
  rw [Int32.toBitVec_shiftRight]
  have e1 : ((1 : Int32).toBitVec.smod 32) = 1#32 := by decide
  have hm : (BitVec.ofNat 32 (2 * n)).toNat = 2 * n := by rw [BitVec.toNat_ofNat, Nat.mod_eq_of_lt (by omega)]
  rw [e1, BitVec.sshiftRight_eq']
  apply BitVec.eq_of_toNat_eq
  show ((BitVec.ofNat 32 (2 * n)).sshiftRight 1).toNat = (BitVec.ofNat 32 n).toNat
  rw [BitVec.toNat_sshiftRight_of_msb_false (by rw [BitVec.msb_eq_false_iff_two_mul_lt, hm]; omega), hm, BitVec.toNat_ofNat, Nat.shiftRight_eq_div_pow]
  omega
/-- charAt's cast of a byte read back -/
def chr8 (u : Int32) : Int32 := (u &&& 255).toUInt32.toUInt16.toUInt32.toInt32
theorem chr8_lo8 {c : Int32} (h0 : ¬ c < 0) (h1 : ¬ 255 < c) : chr8 (lo8 c) = c := by
  have t : ∀ k : Fin 256, (Int32.ofNat k.val).toUInt32.toUInt16.toUInt32.toInt32 = Int32.ofNat k.val := by decide +kernel
  unfold chr8
  rw [lo8_mask h0 h1]
  rw [Int32.lt_iff_toInt_lt] at h0 h1
  have e0 : (0 : Int32).toInt = 0 := rfl
  have e1 : (255 : Int32).toInt = 255 := rfl
  obtain ⟨k, hk⟩ : ∃ k : Nat, c.toInt = k := ⟨c.toInt.toNat, by omega⟩
  have hx : c = Int32.ofNat k := Int32.toInt_inj.mp (by rw [hk, Int32.toInt_ofNat_small (by omega)])
  rw [hx]
  exact t ⟨k, by omega⟩
theorem narrow_ch {c : Int32} (h0 : ¬ c < 0) (h1 : ¬ 65535 < c) : narrow .char (.int c) = .int c := by
  have q : narrow .char (.int (pairCh (lo8 c) (hi8 c))) = .int (pairCh (lo8 c) (hi8 c)) := narrow_c _
  rwa [pair_says h0 h1] at q
/-- the array's cell V codes the n chars f 0 .. f (n - 1) by the coder cd, as the JDK does: coder 1 just where some char is above 255 -/
def Cod (cd : Int32) (n : Nat) (f : Nat → Int32) (V : Cell) : Prop := (cd = 0 ∧ V.slots.size = n ∧ ∀ j, j < n → V.slots[j]? = some (.int (lo8 (f j))) ∧ ¬ 255 < f j) ∨ (cd = 1 ∧ V.slots.size = 2 * n ∧ (∀ j, j < n → V.slots[2 * j]? = some (.int (lo8 (f j))) ∧ V.slots[2 * j + 1]? = some (.int (hi8 (f j)))) ∧ ∃ j, j < n ∧ 255 < f j)
theorem Cod.cd {cd : Int32} {n : Nat} {f : Nat → Int32} {V : Cell} (h : Cod cd n f V) : cd = 0 ∨ cd = 1 := h.imp (fun q => q.1) fun q => q.1
theorem Cod.len {cd : Int32} {n : Nat} {f : Nat → Int32} {V : Cell} (h : Cod cd n f V) (hs : V.slots.size < 2 ^ 31) : Int32.ofNat V.slots.size >>> (cd &&& 31) = Int32.ofNat n := by
  rcases h with ⟨rfl, h, -⟩ | ⟨rfl, h, -⟩
  · rw [shr0, h]
  · rw [h, shr1 (by omega)]
/-- **x is a String of the n chars f 0 .. f (n - 1)**, Latin-1 or UTF-16; its array at t has the cell V -/
def Txt (x t : Addr) (V : Cell) (cd : Int32) (n : Nat) (f : Nat → Int32) (U : State) : Prop := Exact "java/lang/String" x U ∧ Has x "java/lang/String" "value" "[B" (.ref t) U ∧ Has x "java/lang/String" "coder" "B" (.int cd) U ∧ XT.Arr .byte t V U ∧ Cod cd n f V ∧ ∀ j, j < n → ¬ f j < 0 ∧ ¬ 65535 < f j
theorem Txt.mv {x t : Addr} {V : Cell} {cd : Int32} {n : Nat} {f : Nat → Int32} {U U' : State} (h : Txt x t V cd n f U) (hal : U.vm.Alike U'.vm) (hh : U'.heap = U.heap) : Txt x t V cd n f U' := ⟨h.1.mv hal hh, h.2.1.mv hal hh, h.2.2.1.mv hal hh, h.2.2.2.1.mv hal hh, h.2.2.2.2⟩
namespace Cdr
def yN : MethodName := ⟨"java/lang/String", "coder", "()B"⟩
abbrev yB : ByteArray := jdk_42_method_152_code
theorem d0 : decode yB 0 = .ok (.getstatic 38, 3) := by decide +kernel
theorem d3 : decode yB 3 = .ok (.ifCond (.eq) 10, 3) := by decide +kernel
theorem d6 : decode yB 6 = .ok (.aload_n 0, 1) := by decide +kernel
theorem d7 : decode yB 7 = .ok (.getfield 15, 3) := by decide +kernel
theorem d10 : decode yB 10 = .ok (.goto 4, 3) := by decide +kernel
theorem d14 : decode yB 14 = .ok (.ireturn, 1) := by decide +kernel
def site : List Cond := [.fieldLink "java/lang/String" 38 "java/lang/String" "COMPACT_STRINGS" "Z", .fieldLink "java/lang/String" 15 "java/lang/String" "coder" "B"]
def tab : Cond := tabOf yN yB 1 (some .byte) site
def P (x : Addr) (cd z : Int32) (args : Array Value) (s : State) : Prop := args = #[.ref x] ∧ Has x "java/lang/String" "coder" "B" (.int cd) s ∧ (cd = 0 ∨ cd = 1) ∧ StaticIs s "java/lang/String" "COMPACT_STRINGS" "Z" (.int z) ∧ ¬ z = 0
def E (cd : Int32) (r : Option Value) (s u : State) : Prop := XT.PureE (some (.int cd)) r s u
theorem law (l : Launch) (x : Addr) (cd z : Int32) : Law l yN 1 0 0 0 yB 1 (some .byte) site (P x cd z) (E cd) [] 0 0 := by
  refine Law.of_walk (plainFor_of_name (by decide +kernel)) (by decide +kernel) (by decide +kernel) (by decide) (fun _ _ h => by rw [h.1]; rfl) (fun _ U U' hal hh h => ⟨h.1, h.2.1.mv hal hh, h.2.2.1, h.2.2.2.1.there hal hh, h.2.2.2.2⟩) (fun r U U' V V' h1 hal h2 h => XT.PureE.mv r U U' V V' h1 hal h2 h) ?_
  intro p e s m args below meth c s₁ X0 hexec hbytes hml hret hlk hnm hown hh0 W hP
  obtain ⟨rfl, hx, hc, s1, hz⟩ := hP
  have c1 : Steps p.tables e below (s₁.setTop (entryFrame m #[.ref x] 1)) (s₁.setTop (mkF m 0 #[.val (.ref x)] [])) := entry rfl
  obtain ⟨T2, X2, q2, st2⟩ := X0.sget hexec hown (wk W (.fieldLink "java/lang/String" 38 "java/lang/String" "COMPACT_STRINGS" "Z")) s1 (fun _ _ h => by rw [hh0]; exact h) (g := (mkF m 0 #[.val (.ref x)] [])) rfl (hb hbytes d0)
  have hh2 := q2.trans hh0
  have c3 : Steps p.tables e below (s₁.setTop (entryFrame m #[.ref x] 1)) (T2.setTop (mkF m 7 #[.val (.ref x)] [.ref x])) := (c1.trans (st2 _ (Steps.refl _))).trans (by
    refine XS.ifNo X2.here hexec rfl (hb hbytes d3) rfl (i0_eq_f hz) ?_
    refine XS.aloadN X2.here hexec rfl (hb hbytes d6) rfl rfl ?_
    exact Steps.refl _)
  obtain ⟨T4, X4, q4, st4⟩ := X2.hget hexec hown (wk W (.fieldLink "java/lang/String" 15 "java/lang/String" "coder" "B")) (hx.mv X2.warmed.alike hh2) (g := (mkF m 7 #[.val (.ref x)] [.ref x])) rfl (rest := []) rfl (hb hbytes d7)
  have c5 : Steps p.tables e below (s₁.setTop (entryFrame m #[.ref x] 1)) (T4.setTop (mkF m 14 #[.val (.ref x)] [.int cd])) := (c3.trans (st4 _ (Steps.refl _))).trans (by
    refine XS.goto X4.here hexec rfl (pc0 := 10) rfl (hb hbytes d10) (by decide) rfl ?_
    exact Steps.refl _)
  exact ⟨T4, some (.int cd), _, _, _, X4, rfl, rfl, rfl, (fun h => by cases h), ⟨rfl, q4.trans hh2⟩, fun fs hl => c5.trans (X4.ireturnOut hexec hret (by rcases hc with rfl | rfl <;> rfl) (Or.inr (Or.inr (Or.inl rfl))) (hb hbytes d14) hl)⟩
end Cdr
namespace Len
def yN : MethodName := ⟨"java/lang/String", "length", "()I"⟩
abbrev yB : ByteArray := jdk_42_method_54_code
theorem d0 : decode yB 0 = .ok (.aload_n 0, 1) := by decide +kernel
theorem d1 : decode yB 1 = .ok (.getfield 9, 3) := by decide +kernel
theorem d4 : decode yB 4 = .ok (.arraylength, 1) := by decide +kernel
theorem d5 : decode yB 5 = .ok (.aload_n 0, 1) := by decide +kernel
theorem d6 : decode yB 6 = .ok (.invokevirtual 335, 3) := by decide +kernel
theorem d9 : decode yB 9 = .ok (.ishr, 1) := by decide +kernel
theorem d10 : decode yB 10 = .ok (.ireturn, 1) := by decide +kernel
def site : List Cond := [.fieldLink "java/lang/String" 9 "java/lang/String" "value" "[B", Cdr.tab] ++ virtW "java/lang/String" 335 "java/lang/String" Cdr.yN Cdr.yN
def tab : Cond := tabOf yN yB 1 (some .int) site
def P (x t : Addr) (V : Cell) (cd : Int32) (n : Nat) (f : Nat → Int32) (z : Int32) (args : Array Value) (s : State) : Prop := args = #[.ref x] ∧ Txt x t V cd n f s ∧ StaticIs s "java/lang/String" "COMPACT_STRINGS" "Z" (.int z) ∧ ¬ z = 0
def E (n : Nat) (r : Option Value) (s u : State) : Prop := XT.PureE (some (.int (Int32.ofNat n))) r s u
/-- length() of a String of n chars, in either coding -/
theorem law (l : Launch) (x t : Addr) (V : Cell) (cd : Int32) (n : Nat) (f : Nat → Int32) (z : Int32) : Law l yN 1 0 1 13 yB 1 (some .int) site (P x t V cd n f z) (E n) [] 0 0 := by
  refine Law.of_walk (plainFor_of_name (by decide +kernel)) (by decide +kernel) (by decide +kernel) (by decide) (fun _ _ h => by rw [h.1]; rfl) (fun _ U U' hal hh h => ⟨h.1, h.2.1.mv hal hh, h.2.2.1.there hal hh, h.2.2.2⟩) (fun r U U' V V' h1 hal h2 h => XT.PureE.mv r U U' V V' h1 hal h2 h) ?_
  intro p e s m args below meth c s₁ X0 hexec hbytes hml hret hlk hnm hown hh0 W hP
  obtain ⟨rfl, hx, s1, hz⟩ := hP
  have v31 := hx.2.2.2.1.2.2.2
  have c1 : Steps p.tables e below (s₁.setTop (entryFrame m #[.ref x] 1)) (s₁.setTop (mkF m 1 #[.val (.ref x)] [.ref x])) := Steps.trans (entry rfl) (by
    show Steps p.tables e below (s₁.setTop (mkF m 0 #[.val (.ref x)] [])) _
    refine XS.aloadN X0.here hexec rfl (hb hbytes d0) rfl rfl ?_
    exact Steps.refl _)
  obtain ⟨T2, X2, q2, st2⟩ := X0.hget hexec hown (wk W (.fieldLink "java/lang/String" 9 "java/lang/String" "value" "[B")) (hx.mv X0.warmed.alike hh0).2.1 (g := (mkF m 1 #[.val (.ref x)] [.ref x])) rfl (rest := []) rfl (hb hbytes d1)
  have hh2 := q2.trans hh0
  have hx2 := hx.mv X2.warmed.alike hh2
  have c3 : Steps p.tables e below (s₁.setTop (entryFrame m #[.ref x] 1)) (T2.setTop (mkF m 6 #[.val (.ref x)] [.ref x, .int (Int32.ofNat V.slots.size)])) := (c1.trans (st2 _ (Steps.refl _))).trans (by
    refine X2.alen hexec hx2.2.2.2.1 rfl rfl (hb hbytes d4) ?_
    refine XS.aloadN X2.here hexec rfl (hb hbytes d5) rfl rfl ?_
    exact Steps.refl _)
  obtain ⟨v4, T4, X4, E4, g4⟩ := X2.callV hexec (Cdr.law l x cd z) hown (wks W (virtW "java/lang/String" 335 "java/lang/String" Cdr.yN Cdr.yN)) rfl (by decide) (wk W Cdr.tab) (W := 1) (Nat.le_of_ble_eq_true rfl) (Nat.le_of_ble_eq_true rfl) (Nat.le_refl _) (Nat.le_refl _) (hx2.1.fc X2.warmed.alike) hx2.1.is (g := (mkF m 6 #[.val (.ref x)] [.ref x, .int (Int32.ofNat V.slots.size)])) rfl (by rw [hml]; rfl) c3 (argsL := []) (rest := [.int (Int32.ofNat V.slots.size)]) rfl rfl (by show 2 * 0 + (1 + 0) ≤ _; decide) (hb hbytes d6) (⟨rfl, hx2.2.2.1, hx.2.2.2.2.1.cd, s1.there X2.warmed.alike hh2, hz⟩)
  obtain ⟨rfl, q4⟩ := E4
  have c5 : Steps p.tables e below (s₁.setTop (entryFrame m #[.ref x] 1)) (T4.setTop (mkF m 10 #[.val (.ref x)] [.int (Int32.ofNat V.slots.size >>> (cd &&& 31))])) := Steps.trans g4 (by
    refine ishr X4.here hexec rfl (hb hbytes d9) rfl ?_
    exact Steps.refl _)
  rw [hx.2.2.2.2.1.len v31] at c5
  exact ⟨T4, some (.int (Int32.ofNat n)), _, _, _, X4, rfl, rfl, rfl, (fun h => by cases h), ⟨rfl, q4.trans hh2⟩, fun fs hl => c5.trans (X4.ireturnOut hexec hret rfl (Or.inl rfl) (hb hbytes d10) hl)⟩
theorem pays {l : Launch} {R : Room} {p : Program} {e : Env} {below : List Frame} {s : State} {sargs : Array Value} {len W : Nat} (x t : Addr) (V : Cell) (cd : Int32) (n : Nat) (f : Nat → Int32) (z : Int32) (htab : tab.before sargs s = true) (hfr : 2 ≤ R.frames) (hlo : W + 25 ≤ R.locals) :
    Back l R p e below s sargs yN len W (fun A₁ a₁ => A₁.cells + 0 ≤ R.cells ∧ A₁.slots + 0 ≤ R.slots ∧ P x t V cd n f z a₁ A₁.U) (fun A₁ _ v₁ B₁ => E n v₁ A₁.U B₁.U ∧ B₁.locs = A₁.locs ++ [] ∧ B₁.cells = A₁.cells + 0 ∧ B₁.slots = A₁.slots + 0) :=
  (law l x t V cd n f z).pays htab hfr (by omega)
end Len
namespace IsL
def yN : MethodName := ⟨"java/lang/String", "isLatin1", "()Z"⟩
abbrev yB : ByteArray := jdk_42_method_154_code
theorem d0 : decode yB 0 = .ok (.getstatic 38, 3) := by decide +kernel
theorem d3 : decode yB 3 = .ok (.ifCond (.eq) 14, 3) := by decide +kernel
theorem d6 : decode yB 6 = .ok (.aload_n 0, 1) := by decide +kernel
theorem d7 : decode yB 7 = .ok (.getfield 15, 3) := by decide +kernel
theorem d10 : decode yB 10 = .ok (.ifCond (.ne) 7, 3) := by decide +kernel
theorem d13 : decode yB 13 = .ok (.iconst 1, 1) := by decide +kernel
theorem d14 : decode yB 14 = .ok (.goto 4, 3) := by decide +kernel
theorem d17 : decode yB 17 = .ok (.iconst 0, 1) := by decide +kernel
theorem d18 : decode yB 18 = .ok (.ireturn, 1) := by decide +kernel
def site : List Cond := [.fieldLink "java/lang/String" 38 "java/lang/String" "COMPACT_STRINGS" "Z", .fieldLink "java/lang/String" 15 "java/lang/String" "coder" "B"]
def tab : Cond := tabOf yN yB 1 (some .boolean) site
def P (x : Addr) (cd z : Int32) (args : Array Value) (s : State) : Prop := args = #[.ref x] ∧ Has x "java/lang/String" "coder" "B" (.int cd) s ∧ (cd = 0 ∨ cd = 1) ∧ StaticIs s "java/lang/String" "COMPACT_STRINGS" "Z" (.int z) ∧ ¬ z = 0
def E (cd : Int32) (r : Option Value) (s u : State) : Prop := XT.PureE (some (.int (1 - cd))) r s u
theorem law (l : Launch) (x : Addr) (cd z : Int32) : Law l yN 1 0 0 0 yB 1 (some .boolean) site (P x cd z) (E cd) [] 0 0 := by
  refine Law.of_walk (plainFor_of_name (by decide +kernel)) (by decide +kernel) (by decide +kernel) (by decide) (fun _ _ h => by rw [h.1]; rfl) (fun _ U U' hal hh h => ⟨h.1, h.2.1.mv hal hh, h.2.2.1, h.2.2.2.1.there hal hh, h.2.2.2.2⟩) (fun r U U' V V' h1 hal h2 h => XT.PureE.mv r U U' V V' h1 hal h2 h) ?_
  intro p e s m args below meth c s₁ X0 hexec hbytes hml hret hlk hnm hown hh0 W hP
  obtain ⟨rfl, hx, hc, s1, hz⟩ := hP
  have c1 : Steps p.tables e below (s₁.setTop (entryFrame m #[.ref x] 1)) (s₁.setTop (mkF m 0 #[.val (.ref x)] [])) := entry rfl
  obtain ⟨T2, X2, q2, st2⟩ := X0.sget hexec hown (wk W (.fieldLink "java/lang/String" 38 "java/lang/String" "COMPACT_STRINGS" "Z")) s1 (fun _ _ h => by rw [hh0]; exact h) (g := (mkF m 0 #[.val (.ref x)] [])) rfl (hb hbytes d0)
  have hh2 := q2.trans hh0
  have c3 : Steps p.tables e below (s₁.setTop (entryFrame m #[.ref x] 1)) (T2.setTop (mkF m 7 #[.val (.ref x)] [.ref x])) := (c1.trans (st2 _ (Steps.refl _))).trans (by
    refine XS.ifNo X2.here hexec rfl (hb hbytes d3) rfl (i0_eq_f hz) ?_
    refine XS.aloadN X2.here hexec rfl (hb hbytes d6) rfl rfl ?_
    exact Steps.refl _)
  obtain ⟨T4, X4, q4, st4⟩ := X2.hget hexec hown (wk W (.fieldLink "java/lang/String" 15 "java/lang/String" "coder" "B")) (hx.mv X2.warmed.alike hh2) (g := (mkF m 7 #[.val (.ref x)] [.ref x])) rfl (rest := []) rfl (hb hbytes d7)
  have c5 : Steps p.tables e below (s₁.setTop (entryFrame m #[.ref x] 1)) (T4.setTop (mkF m 10 #[.val (.ref x)] [.int cd])) := c3.trans (st4 _ (Steps.refl _))
  have c6 : Steps p.tables e below (s₁.setTop (entryFrame m #[.ref x] 1)) (T4.setTop (mkF m 18 #[.val (.ref x)] [.int (1 - cd)])) := by
    rcases hc with rfl | rfl
    · exact c5.trans (by
        refine XS.ifNo X4.here hexec rfl (hb hbytes d10) rfl (i0_ne_f rfl) ?_
        refine iconstV X4.here hexec rfl 1 (hb hbytes d13) (by decide) ?_
        refine XS.goto X4.here hexec rfl (pc0 := 14) rfl (hb hbytes d14) (by decide) rfl ?_
        exact Steps.refl _)
    · exact c5.trans (by
        refine XS.ifYes X4.here hexec rfl (pc0 := 10) rfl (hb hbytes d10) rfl (i0_ne_t (by decide)) (by decide) rfl ?_
        refine iconstV X4.here hexec rfl 0 (hb hbytes d17) (by decide) ?_
        exact Steps.refl _)
  exact ⟨T4, some (.int (1 - cd)), _, _, _, X4, rfl, rfl, rfl, (fun h => by cases h), ⟨rfl, q4.trans hh2⟩, fun fs hl => c6.trans (X4.ireturnOut hexec hret (by rcases hc with rfl | rfl <;> rfl) (Or.inr (Or.inl rfl)) (hb hbytes d18) hl)⟩
end IsL
namespace LChA
def yN : MethodName := ⟨"java/lang/StringLatin1", "charAt", "([BI)C"⟩
abbrev yB : ByteArray := jdk_43_method_2_code
theorem d0 : decode yB 0 = .ok (.iload_n 1, 1) := by decide +kernel
theorem d1 : decode yB 1 = .ok (.aload_n 0, 1) := by decide +kernel
theorem d2 : decode yB 2 = .ok (.arraylength, 1) := by decide +kernel
theorem d3 : decode yB 3 = .ok (.invokestatic 9, 3) := by decide +kernel
theorem d6 : decode yB 6 = .ok (.aload_n 0, 1) := by decide +kernel
theorem d7 : decode yB 7 = .ok (.iload_n 1, 1) := by decide +kernel
theorem d8 : decode yB 8 = .ok (.baload, 1) := by decide +kernel
theorem d9 : decode yB 9 = .ok (.sipush 255, 3) := by decide +kernel
theorem d12 : decode yB 12 = .ok (.iand, 1) := by decide +kernel
theorem d13 : decode yB 13 = .ok (.i2c, 1) := by decide +kernel
theorem d14 : decode yB 14 = .ok (.ireturn, 1) := by decide +kernel
def site : List Cond := [JO.Str_checkIndex.tab] ++ staticW "java/lang/StringLatin1" 9 JO.Str_checkIndex.yN
def tab : Cond := tabOf yN yB 2 (some .char) site
def P (t : Addr) (V : Cell) (i : Nat) (u : Int32) (fm : Value) (args : Array Value) (s : State) : Prop := args = #[.ref t, .int (Int32.ofNat i)] ∧ XT.Arr .byte t V s ∧ V.slots[i]? = some (.int u) ∧ (StaticIs s "jdk/internal/util/Preconditions" "SIOOBE_FORMATTER" "Ljava/util/function/BiFunction;" fm ∧ fm.isRef = true)
def E (u : Int32) (r : Option Value) (s w : State) : Prop := XT.PureE (some (.int (chr8 u))) r s w
theorem law (l : Launch) (t : Addr) (V : Cell) (i : Nat) (u : Int32) (fm : Value) : Law l yN 2 2 2 27 yB 2 (some .char) site (P t V i u fm) (E u) [] 0 0 := by
  refine Law.of_walk (plainFor_of_name (by decide +kernel)) (by decide +kernel) (by decide +kernel) (by decide) (fun _ _ h => by rw [h.1]; rfl) (fun _ U U' hal hh h => ⟨h.1, h.2.1.mv hal hh, h.2.2.1, h.2.2.2.1.there hal hh, h.2.2.2.2⟩) (fun r U U' V V' h1 hal h2 h => XT.PureE.mv r U U' V V' h1 hal h2 h) ?_
  intro p e s m args below meth c s₁ X0 hexec hbytes hml hret hlk hnm hown hh0 W hP
  obtain ⟨rfl, hV, hu, s1, rf⟩ := hP
  have v31 := hV.2.2.2
  have hi : i < V.slots.size := (Array.getElem?_eq_some_iff.mp hu).1
  have c1 : Steps p.tables e below (s₁.setTop (entryFrame m #[.ref t, .int (Int32.ofNat i)] 2)) (s₁.setTop (mkF m 0 #[.val (.ref t), .val (.int (Int32.ofNat i))] [])) := entry rfl
  have c2 : Steps p.tables e below (s₁.setTop (entryFrame m #[.ref t, .int (Int32.ofNat i)] 2)) (s₁.setTop (mkF m 3 #[.val (.ref t), .val (.int (Int32.ofNat i))] [.int (Int32.ofNat V.slots.size), .int (Int32.ofNat i)])) := c1.trans (by
    refine XS.iloadN X0.here hexec rfl (hb hbytes d0) rfl ?_
    refine XS.aloadN X0.here hexec rfl (hb hbytes d1) rfl rfl ?_
    refine X0.alen hexec (hV.mv X0.warmed.alike hh0) rfl rfl (hb hbytes d2) ?_
    exact Steps.refl _)
  obtain ⟨v3, T3, X3, E3, g3⟩ := X0.callS hexec (JO.Str_checkIndex.law l (Int32.ofNat i) (Int32.ofNat V.slots.size) fm) hown (wks W (staticW "java/lang/StringLatin1" 9 JO.Str_checkIndex.yN)) (wk W JO.Str_checkIndex.tab) (W := 0) (Nat.le_of_ble_eq_true rfl) (Nat.le_of_ble_eq_true rfl) (Nat.le_refl _) (Nat.le_refl _) (g := (mkF m 3 #[.val (.ref t), .val (.int (Int32.ofNat i))] [.int (Int32.ofNat V.slots.size), .int (Int32.ofNat i)])) rfl (by rw [hml]; rfl) c2 (argsL := [.int (Int32.ofNat i), .int (Int32.ofNat V.slots.size)]) (rest := []) rfl rfl (by show 2 * 0 + 0 ≤ _; decide) (hb hbytes d3) (⟨rfl, rf, s1.there X0.warmed.alike hh0, Int32.ofNat_not_neg (by omega), lt32 v31 hi⟩)
  obtain ⟨rfl, q3⟩ := E3
  have hh3 := q3.trans hh0
  have c4 : Steps p.tables e below (s₁.setTop (entryFrame m #[.ref t, .int (Int32.ofNat i)] 2)) (T3.setTop (mkF m 14 #[.val (.ref t), .val (.int (Int32.ofNat i))] [.int (chr8 u)])) := Steps.trans g3 (by
    refine XS.aloadN X3.here hexec rfl (hb hbytes d6) rfl rfl ?_
    refine XS.iloadN X3.here hexec rfl (hb hbytes d7) rfl ?_
    refine X3.aget hexec (hV.mv X3.warmed.alike hh3) rfl hu rfl rfl (hb hbytes d8) ?_
    refine sipushV X3.here hexec rfl 255 (hb hbytes d9) (by decide) ?_
    refine XS.iand X3.here hexec rfl (hb hbytes d12) rfl ?_
    refine i2c X3.here hexec rfl (hb hbytes d13) rfl ?_
    exact Steps.refl _)
  exact ⟨T3, some (.int (chr8 u)), _, _, _, X3, rfl, rfl, rfl, (fun h => by cases h), ⟨rfl, hh3⟩, fun fs hl => c4.trans (X3.ireturnOut hexec hret (narrow_c _) (Or.inr (Or.inr (Or.inr (Or.inl rfl)))) (hb hbytes d14) hl)⟩
end LChA
end StrChars
namespace StrChars.Road
open Jvm Sem ClassFile Op Lib Jvm.Stand Jvm.Free Jvm.Free.XT
open Jvm.Lib.Cold (StaticIs)
theorem consq {a : Array Value} {s : State} {c : Jvm.Cond} {L : List Jvm.Cond} (h0 : c.before a s = true) (h : ∀ w ∈ L, w.before a s = true) : ∀ w ∈ c :: L, w.before a s = true := fun w hw => (List.mem_cons.mp hw).elim (fun e => e ▸ h0) (h w)
/-- the words of String.length(), either coding -/
abbrev wordsLen : List Jvm.Cond := [.code Len.yN Len.yB 1 (some .int), .initialized ST, .fieldLink ST 9 ST "value" "[B", .fieldLink ST 38 ST "COMPACT_STRINGS" "Z", .fieldLink ST 15 ST "coder" "B", .code Cdr.yN Cdr.yB 1 (some .byte), .methodLink ST 335 Cdr.yN, .declares Cdr.yN, .selects ST Cdr.yN Cdr.yN, .instanceMethod Cdr.yN]
theorem tabLen_of {a : Array Value} {s : State} (h : ∀ w ∈ wordsLen, w.before a s = true) : Len.tab.before a s = true := by
  have hc : Cdr.tab.before a s = true := unparts (wk h (.code Cdr.yN Cdr.yB 1 (some .byte))) (wks h (.initialized Cdr.yN.cls :: Cdr.site))
  have q := consq hc h
  exact unparts (wk q (.code Len.yN Len.yB 1 (some .int))) (wks q (.initialized Len.yN.cls :: Len.site))
theorem movedLen {Z s : State} {a0 args : Array Value} (hZ : Z.Warmed39 s.vm) (hw : ∀ d ∈ wordsLen, d.before a0 Z = true) : ∀ d ∈ wordsLen, d.before args s = true := fun d hd => by
  have q := hw d hd
  have t : ∀ d ∈ wordsLen, d = .arrayClass .byte ∨ (d.onTables && d.keepsFace) = true := by decide +kernel
  rcases t d hd with rfl | t
  · exact RoadKit.mvA hZ q
  · exact RoadKit.mv hZ q t
/-- the bytes of the chars cs, low before high -/
def wideBytes : List Int32 → List Value
  | [] => []
  | c :: cs => .int (lo8 c) :: .int (hi8 c) :: wideBytes cs
theorem wide_lo (d : Value) : ∀ (cs : List Int32) (j : Nat), j < cs.length → (wideBytes cs).getD (2 * j) d = .int (lo8 (cs.getD j 0))
  | [], j, h => absurd h (Nat.not_lt_zero j)
  | c :: cs, 0, _ => rfl
  | c :: cs, j + 1, h => by
    have q := wide_lo d cs j (by simpa using h)
    rw [show 2 * (j + 1) = 2 * j + 1 + 1 from by omega]
    simpa [wideBytes] using q
theorem wide_hi (d : Value) : ∀ (cs : List Int32) (j : Nat), j < cs.length → (wideBytes cs).getD (2 * j + 1) d = .int (hi8 (cs.getD j 0))
  | [], j, h => absurd h (Nat.not_lt_zero j)
  | c :: cs, 0, _ => rfl
  | c :: cs, j + 1, h => by
    have q := wide_hi d cs j (by simpa using h)
    rw [show 2 * (j + 1) + 1 = 2 * j + 1 + 1 + 1 from by omega]
    simpa [wideBytes] using q
theorem low_at (d : Value) (cs : List Int32) (j : Nat) (h : j < cs.length) : (cs.map fun c => Value.int (lo8 c)).getD j d = .int (lo8 (cs.getD j 0)) := by
  simp [List.getD_eq_getElem?_getD, h]
/-- an array of N2 bytes vs codes the chars cs by the coder cd -/
def CodA (cs : List Int32) (cd N2 : Int32) (vs : List Value) : Prop := (cd = 0 ∧ N2 = Int32.ofNat cs.length ∧ vs = (cs.map fun c => Value.int (lo8 c)) ∧ ∀ c ∈ cs, ¬ 255 < c) ∨ (cd = 1 ∧ N2 = Int32.ofNat (2 * cs.length) ∧ vs = wideBytes cs ∧ ∃ c ∈ cs, 255 < c)
theorem CodA.cod {cs : List Int32} {cd N2 : Int32} {vs : List Value} {V : Cell} (h : CodA cs cd N2 vs) (hn : 2 * cs.length < 2 ^ 31) (hs : V.slots.size = N2.toNatClampNeg) (hv : RoadKit.Has V vs (.int 0)) : Cod cd cs.length (fun j => cs.getD j 0) V := by
  rcases h with ⟨rfl, rfl, rfl, h⟩ | ⟨rfl, rfl, rfl, c, hc, hw⟩
  · rw [n32 (by omega)] at hs
    exact Or.inl ⟨rfl, hs, fun j hj => ⟨by rw [hv j (by omega), low_at _ _ _ hj], by
      have e : cs.getD j 0 = cs[j] := by simp [List.getD_eq_getElem?_getD, hj]
      show ¬ 255 < cs.getD j 0
      rw [e]; exact h _ (List.getElem_mem _)⟩⟩
  · rw [n32 (by omega)] at hs
    obtain ⟨j, hj, rfl⟩ := List.getElem_of_mem hc
    exact Or.inr ⟨rfl, hs, fun j hj => ⟨by rw [hv _ (by omega), wide_lo _ _ _ hj], by rw [hv _ (by omega), wide_hi _ _ _ hj]⟩, j, hj, by
      have e : cs.getD j 0 = cs[j] := by simp [List.getD_eq_getElem?_getD, hj]
      show 255 < cs.getD j 0
      rw [e]; exact hw⟩
/-- an object of exactly java/lang/String, its two fields found: as the laws ask it -/
theorem strObj {Z U : State} {a0 : Array Value} {kI : Nat} (wi : (Jvm.Cond.instantiable ST kI).before a0 Z = true) (al : Z.vm.Alike U.vm) {x : Addr} {v0 c0 : Value} (E : RoadKit.Exa Z U.heap x ST) (V : RoadKit.Fld Z U.heap x ST "value" "[B" v0) (C : RoadKit.Fld Z U.heap x ST "coder" "B" c0) :
    ∃ (D : Cell) (fV fC : Field), Blank ST x D U ∧ Found ST "value" "[B" fV U ∧ Found ST "coder" "B" fC U ∧ D.slots[fV.slot]? = some v0 ∧ D.slots[fC.slot]? = some c0 ∧ RoadKit.slotOf Z ST "value" "[B" = fV.slot ∧ RoadKit.slotOf Z ST "coder" "B" = fC.slot := by
  obtain ⟨D, cfV, kV, iV, fV, hD, gV, stV, knV, obV, asV, slV⟩ := V
  obtain ⟨D', cfC, kC, iC, fC, hD', gC, stC, -, -, asC, slC⟩ := C
  cases hD.symm.trans hD'
  obtain ⟨D2, kD, e1, e2, e3, e4, e5⟩ := E
  cases hD.symm.trans e1
  obtain ⟨c2, k2, i1, i2, i3, -⟩ := Cond.instantiable_spec wi
  cases e2.symm.trans i1
  cases e3.symm.trans i2
  obtain ⟨kU, u1, u2⟩ := al.2.2 _ _ e3
  exact ⟨D, fV, fC, ⟨hD, ⟨knV, fun q hq => by rw [hq] at obV; cases obV⟩, by rw [al.findClass]; exact e2, kU, u1, by rw [u2]; exact i3, by rw [u2]; exact e5 i3⟩, ⟨SBG.found_only al ⟨cfV, kV, iV, gV⟩, stV⟩, ⟨SBG.found_only al ⟨cfC, kC, iC, gC⟩, stC⟩, slV, slC, by simp [RoadKit.slotOf, gV], by simp [RoadKit.slotOf, gC]⟩
theorem sta_is {Z U : State} (al : Z.vm.Alike U.vm) {C n d : String} {v : Value} (S : RoadKit.Sta Z U.heap C n d v) : StaticIs U C n d v := by
  obtain ⟨cfS, iS, kS, fS, st, cS, t1, t2, t3, t4, t5, t6, t7⟩ := S
  exact StaticIs.there (s := { Z with heap := U.heap }) ⟨cfS, iS, kS, fS, st, cS, t1, t2, t3, t4, t5, (fun q => by rw [q] at t6; cases t6), t7⟩ al rfl
/-- **length() OF SUCH A STRING** -/
theorem lenW {p : Program} {l : Launch} {e : Env} {R : Room} {s : State} {args : Array Value} {below : List Frame} {len W : Nat} {Z : State} {a0 : Array Value} {h : Heap} (hZ : Z.Warmed39 s.vm) (hw : ∀ d ∈ wordsLen, d.before a0 Z = true) {kI : Nat} (wi : (Jvm.Cond.instantiable ST kI).before a0 Z = true)
    {x t : Addr} {kb : ClassId} {cs : List Int32} {cd N2 z : Int32} {vs : List Value} (E : RoadKit.Exa Z h x ST) (V : RoadKit.Fld Z h x ST "value" "[B" (.ref t)) (C : RoadKit.Fld Z h x ST "coder" "B" (.int cd)) (K : RoadKit.Arv Z h t kb .byte N2 vs (.int 0)) (hc : CodA cs cd N2 vs) (hb : ∀ c ∈ cs, ¬ c < 0 ∧ ¬ (65535 : Int32) < c)
    (S : RoadKit.Sta Z h ST "COMPACT_STRINGS" "Z" (.int z)) (hz : ¬ z = 0) (l2 : cs.length ≤ 4000) (hfr : 2 ≤ R.frames) (hlo : W + 25 ≤ R.locals) :
    Back l R p e below s args (⟨"java/lang/String", "length", "()I"⟩ : MethodName) len W (fun P a => a = #[.ref x] ∧ P.U.heap = h ∧ P.cells + 0 ≤ R.cells ∧ P.slots + 0 ≤ R.slots)
      (fun P _ v B => ∃ L, (v = some (.int (Int32.ofNat cs.length)) ∧ L = [] ∧ B.U.heap = h) ∧ B.locs = P.locs ++ L ∧ B.cells = P.cells + 0 ∧ B.slots = P.slots + 0) := by
  obtain ⟨A, K1, K2, K3, K4, K5, K6⟩ := K
  have hcod := hc.cod (by omega) K3 K5
  intro m meth c P g ig mk a X hg hsize hdg hW hn hp'
  obtain ⟨rfl, rfl, r1, r2⟩ := hp'
  have al : Z.vm.Alike P.U.vm := hZ.alike.trans X.warmed.alike
  obtain ⟨D, fV, fC, hB, F1, F2, g1, g2, -, -⟩ := strObj wi al E V C
  have hx : Txt x t A cd cs.length (fun j => cs.getD j 0) P.U := ⟨⟨_, hB.2.2.1, D, hB.1, rfl, by cases q : D.vm <;> first | rfl | exact absurd q (hB.2.1.2 _)⟩, Has.of hB F1 g1, Has.of hB F2 g2, ⟨K1.1, State.isArrayOf_alike al K1.2.1, K1.2.2, by rcases hcod with ⟨-, q, -⟩ | ⟨-, q, -⟩ <;> omega⟩, hcod, fun j hj => by
    have e : cs.getD j 0 = cs[j] := by simp [List.getD_eq_getElem?_getD, hj]
    show ¬ cs.getD j 0 < 0 ∧ ¬ 65535 < cs.getD j 0
    rw [e]; exact hb _ (List.getElem_mem _)⟩
  obtain ⟨v, B, X', ⟨⟨hv, hh⟩, hl, hk, hs⟩, st⟩ := Len.pays x t A cd cs.length (fun j => cs.getD j 0) z (tabLen_of (movedLen hZ hw)) hfr hlo m meth c P g ig mk _ X hg hsize hdg hW hn ⟨r1, r2, rfl, hx, sta_is al S, hz⟩
  exact ⟨v, B, X', ⟨[], ⟨hv, rfl, hh⟩, hl, hk, hs⟩, st⟩
end StrChars.Road
namespace StrChars
open Jvm Sem ClassFile Op Lib Jvm.Stand Jvm.Free.XT Jvm.Free.ALB Jvm.Free.JM Jvm.Free
open Jvm.Lib.Cold (StaticIs)
/-- what place i of a byte[]'s cell holds -/
def yv (A : Cell) (i : Nat) : Int32 := match A.slots[i]? with | some (.int x) => x | _ => 0
theorem yv_get {a : Addr} {A : Cell} {U : State} (h : XT.Arr .byte a A U) (ht : Typed .byte A) {i : Nat} (hi : i < A.slots.size) : A.slots[i]? = some (.int (yv A i)) := by
  have e := Array.getElem?_eq_getElem hi
  have f := ht i _ e
  unfold yv; rw [e]
  generalize A.slots[i] = v at f
  cases v <;> simp [fits] at f ⊢
/-- the two arrays are equal, place for place -/
def EqC (A B : Cell) : Prop := A.slots.size = B.slots.size ∧ ∀ i, i < A.slots.size → yv A i = yv B i
/-- a boolean that says whether p -/
def Says01 (q : Prop) (r : Option Value) (s u : State) : Prop := ∃ v : Int32, r = some (.int v) ∧ u.heap = s.heap ∧ ((v = 1 ∧ q) ∨ (v = 0 ∧ ¬ q))
theorem Says01.mv {q : Prop} : ∀ r (U U' V V' : State), U'.heap = U.heap → V.vm.Alike V'.vm → V'.heap = V.heap → Says01 q r U V → Says01 q r U' V' :=
  fun r U U' V V' h1 _ h2 ⟨v, a, b, c⟩ => ⟨v, a, by rw [h1, h2]; exact b, c⟩
namespace LEq
def yN : MethodName := ⟨"java/lang/StringLatin1", "equals", "([B[B)Z"⟩
abbrev yB : ByteArray := jdk_43_method_13_code
theorem d0 : decode yB 0 = .ok (.aload_n 0, 1) := by decide +kernel
theorem d1 : decode yB 1 = .ok (.arraylength, 1) := by decide +kernel
theorem d2 : decode yB 2 = .ok (.aload_n 1, 1) := by decide +kernel
theorem d3 : decode yB 3 = .ok (.arraylength, 1) := by decide +kernel
theorem d4 : decode yB 4 = .ok (.if_icmp (.ne) 30, 3) := by decide +kernel
theorem d7 : decode yB 7 = .ok (.iconst 0, 1) := by decide +kernel
theorem d8 : decode yB 8 = .ok (.istore_n 2, 1) := by decide +kernel
theorem d9 : decode yB 9 = .ok (.iload_n 2, 1) := by decide +kernel
theorem d10 : decode yB 10 = .ok (.aload_n 0, 1) := by decide +kernel
theorem d11 : decode yB 11 = .ok (.arraylength, 1) := by decide +kernel
theorem d12 : decode yB 12 = .ok (.if_icmp (.ge) 20, 3) := by decide +kernel
theorem d15 : decode yB 15 = .ok (.aload_n 0, 1) := by decide +kernel
theorem d16 : decode yB 16 = .ok (.iload_n 2, 1) := by decide +kernel
theorem d17 : decode yB 17 = .ok (.baload, 1) := by decide +kernel
theorem d18 : decode yB 18 = .ok (.aload_n 1, 1) := by decide +kernel
theorem d19 : decode yB 19 = .ok (.iload_n 2, 1) := by decide +kernel
theorem d20 : decode yB 20 = .ok (.baload, 1) := by decide +kernel
theorem d21 : decode yB 21 = .ok (.if_icmp (.eq) 5, 3) := by decide +kernel
theorem d24 : decode yB 24 = .ok (.iconst 0, 1) := by decide +kernel
theorem d25 : decode yB 25 = .ok (.ireturn, 1) := by decide +kernel
theorem d26 : decode yB 26 = .ok (.iinc 2 1, 3) := by decide +kernel
theorem d29 : decode yB 29 = .ok (.goto (-20), 3) := by decide +kernel
theorem d32 : decode yB 32 = .ok (.iconst 1, 1) := by decide +kernel
theorem d33 : decode yB 33 = .ok (.ireturn, 1) := by decide +kernel
theorem d34 : decode yB 34 = .ok (.iconst 0, 1) := by decide +kernel
theorem d35 : decode yB 35 = .ok (.ireturn, 1) := by decide +kernel
def site : List Cond := []
def tab : Cond := tabOf yN yB 3 (some .boolean) site
def P (a : Addr) (A : Cell) (b : Addr) (B : Cell) (args : Array Value) (s : State) : Prop := args = #[.ref a, .ref b] ∧ XT.Arr .byte a A s ∧ Typed .byte A ∧ XT.Arr .byte b B s ∧ Typed .byte B
/-- whether two byte[] are equal, place for place -/
theorem law (l : Launch) (a : Addr) (A : Cell) (b : Addr) (B : Cell) : Law l yN 2 2 0 0 yB 3 (some .boolean) site (P a A b B) (Says01 (EqC A B)) [] 0 0 := by
  refine Law.of_walk (plainFor_of_name (by decide +kernel)) (by decide +kernel) (by decide +kernel) (by decide) (fun _ _ h => by rw [h.1]; rfl) (fun _ U U' hal hh h => ⟨h.1, h.2.1.mv hal hh, h.2.2.1, h.2.2.2.1.mv hal hh, h.2.2.2.2⟩) (fun r U U' V V' h1 hal h2 h => Says01.mv r U U' V V' h1 hal h2 h) ?_
  intro p e s m args below meth c s₁ X0 hexec hbytes hml hret hlk hnm hown hh0 W hP
  obtain ⟨rfl, hA, tA, hB, tB⟩ := hP
  have a31 := hA.2.2.2
  have b31 := hB.2.2.2
  have hA0 := hA.mv X0.warmed.alike hh0
  have hB0 := hB.mv X0.warmed.alike hh0
  have c1 : Steps p.tables e below (s₁.setTop (entryFrame m #[.ref a, .ref b] 3)) (s₁.setTop (mkF m 0 #[.val (.ref a), .val (.ref b), .unset] [])) := entry rfl
  have c2 : Steps p.tables e below (s₁.setTop (entryFrame m #[.ref a, .ref b] 3)) (s₁.setTop (mkF m 4 #[.val (.ref a), .val (.ref b), .unset] [.int (Int32.ofNat B.slots.size), .int (Int32.ofNat A.slots.size)])) := c1.trans (by
    refine XS.aloadN X0.here hexec rfl (hb hbytes d0) rfl rfl ?_
    refine X0.alen hexec hA0 rfl rfl (hb hbytes d1) ?_
    refine XS.aloadN X0.here hexec rfl (hb hbytes d2) rfl rfl ?_
    refine X0.alen hexec hB0 rfl rfl (hb hbytes d3) ?_
    exact Steps.refl _)
  by_cases hs : A.slots.size = B.slots.size
  · have c3 : Steps p.tables e below (s₁.setTop (entryFrame m #[.ref a, .ref b] 3)) (s₁.setTop (mkF m 9 #[.val (.ref a), .val (.ref b), .val (.int 0)] [])) := c2.trans (by
      refine XS.icmpNo X0.here hexec rfl (hb hbytes d4) rfl (ii_ne_f (by rw [hs])) ?_
      refine iconstV X0.here hexec rfl 0 (hb hbytes d7) (by decide) ?_
      refine XS.istoreN X0.here hexec rfl (hb hbytes d8) rfl rfl ?_
      exact Steps.refl _)
    have loop : ∀ (r i : Nat), i + r = A.slots.size → (∀ j, j < i → yv A j = yv B j) → Steps p.tables e below (s₁.setTop (entryFrame m #[.ref a, .ref b] 3)) (s₁.setTop (mkF m 9 #[.val (.ref a), .val (.ref b), .val (.int (Int32.ofNat i))] [])) → ∃ (pc : Nat) (Ls : Array Slot) (v : Int32), (pc = 25 ∨ pc = 33) ∧ ((v = 1 ∧ EqC A B) ∨ (v = 0 ∧ ¬ EqC A B)) ∧ Steps p.tables e below (s₁.setTop (entryFrame m #[.ref a, .ref b] 3)) (s₁.setTop (mkF m pc Ls [.int v])) := by
      intro r
      induction r with
      | zero =>
        intro i hi he cl
        exact ⟨33, _, 1, Or.inr rfl, Or.inl ⟨rfl, hs, fun j hj => he j (by omega)⟩, cl.trans (by
          refine XS.iloadN X0.here hexec rfl (hb hbytes d9) rfl ?_
          refine XS.aloadN X0.here hexec rfl (hb hbytes d10) rfl rfl ?_
          refine X0.alen hexec hA0 rfl rfl (hb hbytes d11) ?_
          refine XS.icmpYes X0.here hexec rfl (pc0 := 12) rfl (hb hbytes d12) rfl (ii_ge_t (nlt32 (by omega) (by omega))) (by decide) rfl ?_
          refine iconstV X0.here hexec rfl 1 (hb hbytes d32) (by decide) ?_
          exact Steps.refl _)⟩
      | succ r ih =>
        intro i hi he cl
        have c4 : Steps p.tables e below (s₁.setTop (entryFrame m #[.ref a, .ref b] 3)) (s₁.setTop (mkF m 21 #[.val (.ref a), .val (.ref b), .val (.int (Int32.ofNat i))] [.int (yv B i), .int (yv A i)])) := cl.trans (by
          refine XS.iloadN X0.here hexec rfl (hb hbytes d9) rfl ?_
          refine XS.aloadN X0.here hexec rfl (hb hbytes d10) rfl rfl ?_
          refine X0.alen hexec hA0 rfl rfl (hb hbytes d11) ?_
          refine XS.icmpNo X0.here hexec rfl (hb hbytes d12) rfl (ii_ge_f (lt32 (by omega) (by omega))) ?_
          refine XS.aloadN X0.here hexec rfl (hb hbytes d15) rfl rfl ?_
          refine XS.iloadN X0.here hexec rfl (hb hbytes d16) rfl ?_
          refine X0.aget hexec hA0 rfl (yv_get hA tA (i := i) (by omega)) rfl rfl (hb hbytes d17) ?_
          refine XS.aloadN X0.here hexec rfl (hb hbytes d18) rfl rfl ?_
          refine XS.iloadN X0.here hexec rfl (hb hbytes d19) rfl ?_
          refine X0.aget hexec hB0 rfl (yv_get hB tB (i := i) (by omega)) rfl rfl (hb hbytes d20) ?_
          exact Steps.refl _)
        by_cases hv : yv A i = yv B i
        · have c5 : Steps p.tables e below (s₁.setTop (entryFrame m #[.ref a, .ref b] 3)) (s₁.setTop (mkF m 9 #[.val (.ref a), .val (.ref b), .val (.int (Int32.ofNat i + 1))] [])) := c4.trans (by
            refine XS.icmpYes X0.here hexec rfl (pc0 := 21) rfl (hb hbytes d21) rfl (ii_eq_t hv) (by decide) rfl ?_
            refine iincV X0.here hexec rfl 1 (hb hbytes d26) (by decide) rfl rfl ?_
            refine XS.goto X0.here hexec rfl (pc0 := 29) rfl (hb hbytes d29) (by decide) rfl ?_
            exact Steps.refl _)
          rw [succ32] at c5
          exact ih (i + 1) (by omega) (fun j hj => by
            by_cases e : j = i
            · rw [e]; exact hv
            · exact he j (by omega)) c5
        · exact ⟨25, _, 0, Or.inl rfl, Or.inr ⟨rfl, fun q => hv (q.2 i (by omega))⟩, c4.trans (by
            refine XS.icmpNo X0.here hexec rfl (hb hbytes d21) rfl (ii_eq_f hv) ?_
            refine iconstV X0.here hexec rfl 0 (hb hbytes d24) (by decide) ?_
            exact Steps.refl _)⟩
    obtain ⟨pc, Ls, v, hpc, hv, cz⟩ := loop A.slots.size 0 (by omega) (fun j hj => absurd hj (Nat.not_lt_zero j)) c3
    have nv : narrow .boolean (.int v) = .int v := by rcases hv with ⟨rfl, -⟩ | ⟨rfl, -⟩ <;> rfl
    rcases hpc with rfl | rfl
    · exact ⟨s₁, some (.int v), _, _, _, X0, rfl, rfl, rfl, (fun h => by cases h), ⟨v, rfl, hh0, hv⟩, fun fs hl => cz.trans (X0.ireturnOut hexec hret nv (Or.inr (Or.inl rfl)) (hb hbytes d25) hl)⟩
    · exact ⟨s₁, some (.int v), _, _, _, X0, rfl, rfl, rfl, (fun h => by cases h), ⟨v, rfl, hh0, hv⟩, fun fs hl => cz.trans (X0.ireturnOut hexec hret nv (Or.inr (Or.inl rfl)) (hb hbytes d33) hl)⟩
  · have c3 : Steps p.tables e below (s₁.setTop (entryFrame m #[.ref a, .ref b] 3)) (s₁.setTop (mkF m 35 #[.val (.ref a), .val (.ref b), .unset] [.int 0])) := c2.trans (by
      refine XS.icmpYes X0.here hexec rfl (pc0 := 4) rfl (hb hbytes d4) rfl (ii_ne_t (ne32 a31 b31 hs)) (by decide) rfl ?_
      refine iconstV X0.here hexec rfl 0 (hb hbytes d34) (by decide) ?_
      exact Steps.refl _)
    exact ⟨s₁, some (.int 0), _, _, _, X0, rfl, rfl, rfl, (fun h => by cases h), ⟨0, rfl, hh0, Or.inr ⟨rfl, fun q => hs q.1⟩⟩, fun fs hl => c3.trans (X0.ireturnOut hexec hret rfl (Or.inr (Or.inl rfl)) (hb hbytes d35) hl)⟩
end LEq
theorem Cod.ty {cd : Int32} {n : Nat} {f : Nat → Int32} {V : Cell} (h : Cod cd n f V) : Typed .byte V := fun i v hv => by
  have hi : i < V.slots.size := (Array.getElem?_eq_some_iff.mp hv).1
  rcases h with ⟨-, k1, k2⟩ | ⟨-, k1, k2, -⟩
  · rw [(k2 i (by omega)).1] at hv; cases hv; exact fits_lo8 _
  · rcases Nat.mod_two_eq_zero_or_one i with e | e
    · obtain ⟨j, rfl⟩ : ∃ j, i = 2 * j := ⟨i / 2, by omega⟩
      rw [(k2 j (by omega)).1] at hv; cases hv; exact fits_lo8 _
    · obtain ⟨j, rfl⟩ : ∃ j, i = 2 * j + 1 := ⟨i / 2, by omega⟩
      rw [(k2 j (by omega)).2] at hv; cases hv; exact fits_lo8 _
/-- the same text -/
def SameT (n : Nat) (f : Nat → Int32) (k : Nat) (g : Nat → Int32) : Prop := n = k ∧ ∀ j, j < n → f j = g j
theorem lo8_inj {x y : Int32} (h0 : ¬ x < 0) (h1 : ¬ 255 < x) (k0 : ¬ y < 0) (k1 : ¬ 255 < y) (h : lo8 x = lo8 y) : x = y := by
  rw [← lo8_mask h0 h1, ← lo8_mask k0 k1, h]
/-- arrays coded by one coder are equal just where the texts are -/
theorem Cod.eqv {cd : Int32} {n k : Nat} {f g : Nat → Int32} {V V' : Cell} (h : Cod cd n f V) (h' : Cod cd k g V') (hf : ∀ j, j < n → ¬ f j < 0 ∧ ¬ 65535 < f j) (hg : ∀ j, j < k → ¬ g j < 0 ∧ ¬ 65535 < g j) : EqC V V' ↔ SameT n f k g := by
  have yvv : ∀ {W : Cell} {i : Nat} {x : Int32}, W.slots[i]? = some (.int x) → yv W i = x := fun q => by unfold yv; rw [q]
  rcases h with ⟨rfl, k1, k2⟩ | ⟨rfl, k1, k2, -⟩
  · rcases h' with ⟨-, m1, m2⟩ | ⟨e, -⟩
    · constructor
      · rintro ⟨e1, e2⟩
        refine ⟨by omega, fun j hj => ?_⟩
        have q := e2 j (by omega)
        rw [yvv (k2 j hj).1, yvv (m2 j (by omega)).1] at q
        exact lo8_inj (hf j hj).1 (k2 j hj).2 (hg j (by omega)).1 (m2 j (by omega)).2 q
      · rintro ⟨rfl, e2⟩
        refine ⟨by omega, fun j hj => ?_⟩
        rw [yvv (k2 j (by omega)).1, yvv (m2 j (by omega)).1, e2 j (by omega)]
    · exact absurd e (by decide)
  · rcases h' with ⟨e, -⟩ | ⟨-, m1, m2, -⟩
    · exact absurd e (by decide)
    · constructor
      · rintro ⟨e1, e2⟩
        refine ⟨by omega, fun j hj => ?_⟩
        have q1 := e2 (2 * j) (by omega)
        have q2 := e2 (2 * j + 1) (by omega)
        rw [yvv (k2 j hj).1, yvv (m2 j (by omega)).1] at q1
        rw [yvv (k2 j hj).2, yvv (m2 j (by omega)).2] at q2
        rw [← pair_says (hf j hj).1 (hf j hj).2, ← pair_says (hg j (by omega)).1 (hg j (by omega)).2, q1, q2]
      · rintro ⟨rfl, e2⟩
        refine ⟨by omega, fun i hi => ?_⟩
        rcases Nat.mod_two_eq_zero_or_one i with e | e
        · obtain ⟨j, rfl⟩ : ∃ j, i = 2 * j := ⟨i / 2, by omega⟩
          rw [yvv (k2 j (by omega)).1, yvv (m2 j (by omega)).1, e2 j (by omega)]
        · obtain ⟨j, rfl⟩ : ∃ j, i = 2 * j + 1 := ⟨i / 2, by omega⟩
          rw [yvv (k2 j (by omega)).2, yvv (m2 j (by omega)).2, e2 j (by omega)]
/-- two codings differ: so do the texts -/
theorem Cod.dif {cd cd' : Int32} {n k : Nat} {f g : Nat → Int32} {V V' : Cell} (h : Cod cd n f V) (h' : Cod cd' k g V') (hne : ¬ cd = cd') : ¬ SameT n f k g := by
  rintro ⟨rfl, e⟩
  rcases h with ⟨rfl, -, k2⟩ | ⟨rfl, -, -, j, hj, hw⟩
  · rcases h' with ⟨rfl, -⟩ | ⟨-, -, -, j, hj, hw⟩
    · exact hne rfl
    · exact (k2 j hj).2 (by rw [e j hj]; exact hw)
  · rcases h' with ⟨-, -, m2⟩ | ⟨rfl, -⟩
    · exact (m2 j hj).2 (by rw [← e j hj]; exact hw)
    · exact hne rfl
/-- an object of exactly C is an instance of C -/
theorem cinst {p : Program} {l : Launch} {e : Env} {R : Room} {s : State} {m : MethodId} {args : Array Value} {below : List Frame} {meth : Method} {c : Code} {T : State} {locs : List Loc} {cells slots : Nat} (X : Stand p l e R s m args below meth c T locs cells slots) (hexec : p.tables.exec = Jvm.exec) {own C : String} {index : Nat} (hown : s.vm.findClass own = some m.cls) (hlink : (Cond.classLink own index C).before args s = true) {a : Addr} (hE : Exact C a T)
    {g : JFrame} (hg : g.method = m) {rest : List Value} (hstack : g.stack = .ref a :: rest) (hdg : decode c.code g.pc = .ok (.instanceof index, 3)) :
    ∃ T', Stand p l e R s m args below meth c T' locs cells slots ∧ T'.heap = T.heap ∧ ∀ target, Steps p.tables e below (T'.setTop { g with pc := g.pc + 3, stack := .int 1 :: rest }) target → Steps p.tables e below (T.setTop g) target := by
  obtain ⟨cB, h1, D, h2, h3, h4⟩ := hE
  have h1' : s.vm.findClass C = some cB := by rw [← X.warmed.alike.findClass]; exact h1
  obtain ⟨vm', X', st⟩ := X.instanceofYes hexec hown hlink h2 h4 h1' (by rw [h3]; exact Jvm.Free.SB.assignable_self _ _) hg hstack hdg
  exact ⟨_, X', rfl, st⟩
theorem cself {p : Program} {l : Launch} {e : Env} {R : Room} {s : State} {m : MethodId} {args : Array Value} {below : List Frame} {meth : Method} {c : Code} {T : State} {locs : List Loc} {cells slots : Nat} (X : Stand p l e R s m args below meth c T locs cells slots) (hexec : p.tables.exec = Jvm.exec) {own C : String} {index : Nat} (hown : s.vm.findClass own = some m.cls) (hlink : (Cond.classLink own index C).before args s = true) {a : Addr} (hE : Exact C a T)
    {g : JFrame} (hg : g.method = m) {rest : List Value} (hstack : g.stack = .ref a :: rest) (hdg : decode c.code g.pc = .ok (.checkcast index, 3)) :
    ∃ T', Stand p l e R s m args below meth c T' locs cells slots ∧ T'.heap = T.heap ∧ ∀ target, Steps p.tables e below (T'.setTop { g with pc := g.pc + 3, stack := .ref a :: rest }) target → Steps p.tables e below (T.setTop g) target := by
  obtain ⟨cB, h1, D, h2, h3, h4⟩ := hE
  have h1' : s.vm.findClass C = some cB := by rw [← X.warmed.alike.findClass]; exact h1
  obtain ⟨vm', X', st⟩ := X.checkcastYes hexec hown hlink h2 h4 h1' (by rw [h3]; exact Jvm.Free.SB.assignable_self _ _) hg hstack hdg
  exact ⟨_, X', rfl, fun t h => st t (by rw [← hstack] at h; exact h)⟩
namespace SEq
def yN : MethodName := ⟨"java/lang/String", "equals", "(Ljava/lang/Object;)Z"⟩
abbrev yB : ByteArray := jdk_42_method_66_code
theorem d0 : decode yB 0 = .ok (.aload_n 0, 1) := by decide +kernel
theorem d1 : decode yB 1 = .ok (.aload_n 1, 1) := by decide +kernel
theorem d2 : decode yB 2 = .ok (.if_acmp (.ne) 5, 3) := by decide +kernel
theorem d5 : decode yB 5 = .ok (.iconst 1, 1) := by decide +kernel
theorem d6 : decode yB 6 = .ok (.ireturn, 1) := by decide +kernel
theorem d7 : decode yB 7 = .ok (.aload_n 1, 1) := by decide +kernel
theorem d8 : decode yB 8 = .ok (.instanceof 10, 3) := by decide +kernel
theorem d11 : decode yB 11 = .ok (.ifCond (.eq) 43, 3) := by decide +kernel
theorem d14 : decode yB 14 = .ok (.aload_n 1, 1) := by decide +kernel
theorem d15 : decode yB 15 = .ok (.checkcast 10, 3) := by decide +kernel
theorem d18 : decode yB 18 = .ok (.astore_n 2, 1) := by decide +kernel
theorem d19 : decode yB 19 = .ok (.getstatic 38, 3) := by decide +kernel
theorem d22 : decode yB 22 = .ok (.ifCond (.eq) 14, 3) := by decide +kernel
theorem d25 : decode yB 25 = .ok (.aload_n 0, 1) := by decide +kernel
theorem d26 : decode yB 26 = .ok (.getfield 15, 3) := by decide +kernel
theorem d29 : decode yB 29 = .ok (.aload_n 2, 1) := by decide +kernel
theorem d30 : decode yB 30 = .ok (.getfield 15, 3) := by decide +kernel
theorem d33 : decode yB 33 = .ok (.if_icmp (.ne) 21, 3) := by decide +kernel
theorem d36 : decode yB 36 = .ok (.aload_n 0, 1) := by decide +kernel
theorem d37 : decode yB 37 = .ok (.getfield 9, 3) := by decide +kernel
theorem d40 : decode yB 40 = .ok (.aload_n 2, 1) := by decide +kernel
theorem d41 : decode yB 41 = .ok (.getfield 9, 3) := by decide +kernel
theorem d44 : decode yB 44 = .ok (.invokestatic 541, 3) := by decide +kernel
theorem d47 : decode yB 47 = .ok (.ifCond (.eq) 7, 3) := by decide +kernel
theorem d50 : decode yB 50 = .ok (.iconst 1, 1) := by decide +kernel
theorem d51 : decode yB 51 = .ok (.goto 4, 3) := by decide +kernel
theorem d54 : decode yB 54 = .ok (.iconst 0, 1) := by decide +kernel
theorem d55 : decode yB 55 = .ok (.ireturn, 1) := by decide +kernel
def site : List Cond := [.classLink "java/lang/String" 10 "java/lang/String", .fieldLink "java/lang/String" 38 "java/lang/String" "COMPACT_STRINGS" "Z", .fieldLink "java/lang/String" 15 "java/lang/String" "coder" "B", .fieldLink "java/lang/String" 9 "java/lang/String" "value" "[B", LEq.tab] ++ staticW "java/lang/String" 541 LEq.yN
def tab : Cond := tabOf yN yB 3 (some .boolean) site
def P (x t : Addr) (V : Cell) (cd : Int32) (n : Nat) (f : Nat → Int32) (y t' : Addr) (V' : Cell) (cd' : Int32) (k : Nat) (g : Nat → Int32) (z : Int32) (args : Array Value) (s : State) : Prop := args = #[.ref x, .ref y] ∧ Txt x t V cd n f s ∧ Txt y t' V' cd' k g s ∧ StaticIs s "java/lang/String" "COMPACT_STRINGS" "Z" (.int z) ∧ ¬ z = 0
/-- equals(Object) of two Strings: whether the texts are the same -/
theorem law (l : Launch) (x t : Addr) (V : Cell) (cd : Int32) (n : Nat) (f : Nat → Int32) (y t' : Addr) (V' : Cell) (cd' : Int32) (k : Nat) (g : Nat → Int32) (z : Int32) : Law l yN 2 1 1 14 yB 3 (some .boolean) site (P x t V cd n f y t' V' cd' k g z) (Says01 (SameT n f k g)) [] 0 0 := by
  refine Law.of_walk (plainFor_of_name (by decide +kernel)) (by decide +kernel) (by decide +kernel) (by decide) (fun _ _ h => by rw [h.1]; rfl) (fun _ U U' hal hh h => ⟨h.1, h.2.1.mv hal hh, h.2.2.1.mv hal hh, h.2.2.2.1.there hal hh, h.2.2.2.2⟩) (fun r U U' V V' h1 hal h2 h => Says01.mv r U U' V V' h1 hal h2 h) ?_
  intro p e s m args below meth c s₁ X0 hexec hbytes hml hret hlk hnm hown hh0 W hP
  obtain ⟨rfl, hx, hy, s1, hz⟩ := hP
  have c1 : Steps p.tables e below (s₁.setTop (entryFrame m #[.ref x, .ref y] 3)) (s₁.setTop (mkF m 2 #[.val (.ref x), .val (.ref y), .unset] [.ref y, .ref x])) := Steps.trans (entry rfl) (by
    show Steps p.tables e below (s₁.setTop (mkF m 0 #[.val (.ref x), .val (.ref y), .unset] [])) _
    refine XS.aloadN X0.here hexec rfl (hb hbytes d0) rfl rfl ?_
    refine XS.aloadN X0.here hexec rfl (hb hbytes d1) rfl rfl ?_
    exact Steps.refl _)
  by_cases hxy : x = y
  · have c2 : Steps p.tables e below (s₁.setTop (entryFrame m #[.ref x, .ref y] 3)) (s₁.setTop (mkF m 6 #[.val (.ref x), .val (.ref y), .unset] [.int 1])) := c1.trans (by
      refine acmpNo X0.here hexec rfl (hb hbytes d2) rfl rfl rfl (by simp [acmp, hxy]) ?_
      refine iconstV X0.here hexec rfl 1 (hb hbytes d5) (by decide) ?_
      exact Steps.refl _)
    subst hxy
    have ec : cd = cd' := by
      obtain ⟨D, fd, a1, a2, a3⟩ := hx.2.2.1
      obtain ⟨D', fd', b1, b2, b3⟩ := hy.2.2.1
      cases a1.symm.trans b1
      obtain ⟨q1, q2, q3, q4⟩ := a2.1
      obtain ⟨r1, r2, r3, r4⟩ := b2.1
      cases q4.symm.trans r4
      cases a3.symm.trans b3; rfl
    have et : t = t' := by
      obtain ⟨D, fd, a1, a2, a3⟩ := hx.2.1
      obtain ⟨D', fd', b1, b2, b3⟩ := hy.2.1
      cases a1.symm.trans b1
      obtain ⟨q1, q2, q3, q4⟩ := a2.1
      obtain ⟨r1, r2, r3, r4⟩ := b2.1
      cases q4.symm.trans r4
      cases a3.symm.trans b3; rfl
    subst ec et
    have ev : V = V' := by cases hx.2.2.2.1.1.symm.trans hy.2.2.2.1.1; rfl
    subst ev
    have hs : SameT n f k g := (Cod.eqv hx.2.2.2.2.1 hy.2.2.2.2.1 hx.2.2.2.2.2 hy.2.2.2.2.2).mp ⟨rfl, fun _ _ => rfl⟩
    exact ⟨s₁, some (.int 1), _, _, _, X0, rfl, rfl, rfl, (fun h => by cases h), ⟨1, rfl, hh0, Or.inl ⟨rfl, hs⟩⟩, fun fs hl => c2.trans (X0.ireturnOut hexec hret rfl (Or.inr (Or.inl rfl)) (hb hbytes d6) hl)⟩
  · have c2 : Steps p.tables e below (s₁.setTop (entryFrame m #[.ref x, .ref y] 3)) (s₁.setTop (mkF m 8 #[.val (.ref x), .val (.ref y), .unset] [.ref y])) := c1.trans (by
      refine acmpYes X0.here hexec rfl (pc0 := 2) rfl (hb hbytes d2) rfl rfl rfl (by simp [acmp, hxy]) (by decide) rfl ?_
      refine XS.aloadN X0.here hexec rfl (hb hbytes d7) rfl rfl ?_
      exact Steps.refl _)
    obtain ⟨T3, X3, q3, st3⟩ := cinst X0 hexec hown (wk W (.classLink "java/lang/String" 10 "java/lang/String")) (hy.mv X0.warmed.alike hh0).1 (g := (mkF m 8 #[.val (.ref x), .val (.ref y), .unset] [.ref y])) rfl (rest := []) rfl (hb hbytes d8)
    have hh3 := q3.trans hh0
    have c4 : Steps p.tables e below (s₁.setTop (entryFrame m #[.ref x, .ref y] 3)) (T3.setTop (mkF m 15 #[.val (.ref x), .val (.ref y), .unset] [.ref y])) := (c2.trans (st3 _ (Steps.refl _))).trans (by
      refine XS.ifNo X3.here hexec rfl (hb hbytes d11) rfl (i0_eq_f (by decide)) ?_
      refine XS.aloadN X3.here hexec rfl (hb hbytes d14) rfl rfl ?_
      exact Steps.refl _)
    obtain ⟨T5, X5, q5, st5⟩ := cself X3 hexec hown (wk W (.classLink "java/lang/String" 10 "java/lang/String")) (hy.mv X3.warmed.alike hh3).1 (g := (mkF m 15 #[.val (.ref x), .val (.ref y), .unset] [.ref y])) rfl (rest := []) rfl (hb hbytes d15)
    have hh5 := q5.trans hh3
    have c6 : Steps p.tables e below (s₁.setTop (entryFrame m #[.ref x, .ref y] 3)) (T5.setTop (mkF m 19 #[.val (.ref x), .val (.ref y), .val (.ref y)] [])) := (c4.trans (st5 _ (Steps.refl _))).trans (by
      refine XS.astoreN X5.here hexec rfl (hb hbytes d18) rfl rfl rfl ?_
      exact Steps.refl _)
    obtain ⟨T7, X7, q7, st7⟩ := X5.sget hexec hown (wk W (.fieldLink "java/lang/String" 38 "java/lang/String" "COMPACT_STRINGS" "Z")) s1 (fun _ _ h => by rw [hh5]; exact h) (g := (mkF m 19 #[.val (.ref x), .val (.ref y), .val (.ref y)] [])) rfl (hb hbytes d19)
    have hh7 := q7.trans hh5
    have c8 : Steps p.tables e below (s₁.setTop (entryFrame m #[.ref x, .ref y] 3)) (T7.setTop (mkF m 26 #[.val (.ref x), .val (.ref y), .val (.ref y)] [.ref x])) := (c6.trans (st7 _ (Steps.refl _))).trans (by
      refine XS.ifNo X7.here hexec rfl (hb hbytes d22) rfl (i0_eq_f hz) ?_
      refine XS.aloadN X7.here hexec rfl (hb hbytes d25) rfl rfl ?_
      exact Steps.refl _)
    obtain ⟨T9, X9, q9, st9⟩ := X7.hget hexec hown (wk W (.fieldLink "java/lang/String" 15 "java/lang/String" "coder" "B")) (hx.mv X7.warmed.alike hh7).2.2.1 (g := (mkF m 26 #[.val (.ref x), .val (.ref y), .val (.ref y)] [.ref x])) rfl (rest := []) rfl (hb hbytes d26)
    have hh9 := q9.trans hh7
    have c10 : Steps p.tables e below (s₁.setTop (entryFrame m #[.ref x, .ref y] 3)) (T9.setTop (mkF m 30 #[.val (.ref x), .val (.ref y), .val (.ref y)] [.ref y, .int cd])) := (c8.trans (st9 _ (Steps.refl _))).trans (by
      refine XS.aloadN X9.here hexec rfl (hb hbytes d29) rfl rfl ?_
      exact Steps.refl _)
    obtain ⟨T11, X11, q11, st11⟩ := X9.hget hexec hown (wk W (.fieldLink "java/lang/String" 15 "java/lang/String" "coder" "B")) (hy.mv X9.warmed.alike hh9).2.2.1 (g := (mkF m 30 #[.val (.ref x), .val (.ref y), .val (.ref y)] [.ref y, .int cd])) rfl (rest := [.int cd]) rfl (hb hbytes d30)
    have hh11 := q11.trans hh9
    have c12 : Steps p.tables e below (s₁.setTop (entryFrame m #[.ref x, .ref y] 3)) (T11.setTop (mkF m 33 #[.val (.ref x), .val (.ref y), .val (.ref y)] [.int cd', .int cd])) := c10.trans (st11 _ (Steps.refl _))
    by_cases hcd : cd = cd'
    · subst hcd
      have c13 : Steps p.tables e below (s₁.setTop (entryFrame m #[.ref x, .ref y] 3)) (T11.setTop (mkF m 37 #[.val (.ref x), .val (.ref y), .val (.ref y)] [.ref x])) := c12.trans (by
        refine XS.icmpNo X11.here hexec rfl (hb hbytes d33) rfl (ii_ne_f rfl) ?_
        refine XS.aloadN X11.here hexec rfl (hb hbytes d36) rfl rfl ?_
        exact Steps.refl _)
      obtain ⟨T14, X14, q14, st14⟩ := X11.hget hexec hown (wk W (.fieldLink "java/lang/String" 9 "java/lang/String" "value" "[B")) (hx.mv X11.warmed.alike hh11).2.1 (g := (mkF m 37 #[.val (.ref x), .val (.ref y), .val (.ref y)] [.ref x])) rfl (rest := []) rfl (hb hbytes d37)
      have hh14 := q14.trans hh11
      have c15 : Steps p.tables e below (s₁.setTop (entryFrame m #[.ref x, .ref y] 3)) (T14.setTop (mkF m 41 #[.val (.ref x), .val (.ref y), .val (.ref y)] [.ref y, .ref t])) := (c13.trans (st14 _ (Steps.refl _))).trans (by
        refine XS.aloadN X14.here hexec rfl (hb hbytes d40) rfl rfl ?_
        exact Steps.refl _)
      obtain ⟨T16, X16, q16, st16⟩ := X14.hget hexec hown (wk W (.fieldLink "java/lang/String" 9 "java/lang/String" "value" "[B")) (hy.mv X14.warmed.alike hh14).2.1 (g := (mkF m 41 #[.val (.ref x), .val (.ref y), .val (.ref y)] [.ref y, .ref t])) rfl (rest := [.ref t]) rfl (hb hbytes d41)
      have hh16 := q16.trans hh14
      have c17 : Steps p.tables e below (s₁.setTop (entryFrame m #[.ref x, .ref y] 3)) (T16.setTop (mkF m 44 #[.val (.ref x), .val (.ref y), .val (.ref y)] [.ref t', .ref t])) := c15.trans (st16 _ (Steps.refl _))
      obtain ⟨v18, T18, X18, E18, g18⟩ := X16.callS hexec (LEq.law l t V t' V') hown (wks W (staticW "java/lang/String" 541 LEq.yN)) (wk W LEq.tab) (W := 0) (Nat.le_of_ble_eq_true rfl) (Nat.le_of_ble_eq_true rfl) (Nat.le_refl _) (Nat.le_refl _) (g := (mkF m 44 #[.val (.ref x), .val (.ref y), .val (.ref y)] [.ref t', .ref t])) rfl (by rw [hml]; rfl) c17 (argsL := [.ref t, .ref t']) (rest := []) rfl rfl (by show 2 * 0 + 0 ≤ _; decide) (hb hbytes d44) (⟨rfl, hx.2.2.2.1.mv X16.warmed.alike hh16, hx.2.2.2.2.1.ty, hy.2.2.2.1.mv X16.warmed.alike hh16, hy.2.2.2.2.1.ty⟩)
      obtain ⟨v, rfl, q18, hv⟩ := E18
      have iff := Cod.eqv hx.2.2.2.2.1 hy.2.2.2.2.1 hx.2.2.2.2.2 hy.2.2.2.2.2
      rcases hv with ⟨rfl, he⟩ | ⟨rfl, he⟩
      · have c19 : Steps p.tables e below (s₁.setTop (entryFrame m #[.ref x, .ref y] 3)) (T18.setTop (mkF m 55 #[.val (.ref x), .val (.ref y), .val (.ref y)] [.int 1])) := Steps.trans g18 (by
          refine XS.ifNo X18.here hexec rfl (hb hbytes d47) rfl (i0_eq_f (by decide)) ?_
          refine iconstV X18.here hexec rfl 1 (hb hbytes d50) (by decide) ?_
          refine XS.goto X18.here hexec rfl (pc0 := 51) rfl (hb hbytes d51) (by decide) rfl ?_
          exact Steps.refl _)
        exact ⟨T18, some (.int 1), _, _, _, X18, rfl, rfl, rfl, (fun h => by cases h), ⟨1, rfl, q18.trans hh16, Or.inl ⟨rfl, iff.mp he⟩⟩, fun fs hl => c19.trans (X18.ireturnOut hexec hret rfl (Or.inr (Or.inl rfl)) (hb hbytes d55) hl)⟩
      · have c19 : Steps p.tables e below (s₁.setTop (entryFrame m #[.ref x, .ref y] 3)) (T18.setTop (mkF m 55 #[.val (.ref x), .val (.ref y), .val (.ref y)] [.int 0])) := Steps.trans g18 (by
          refine XS.ifYes X18.here hexec rfl (pc0 := 47) rfl (hb hbytes d47) rfl (i0_eq_t rfl) (by decide) rfl ?_
          refine iconstV X18.here hexec rfl 0 (hb hbytes d54) (by decide) ?_
          exact Steps.refl _)
        exact ⟨T18, some (.int 0), _, _, _, X18, rfl, rfl, rfl, (fun h => by cases h), ⟨0, rfl, q18.trans hh16, Or.inr ⟨rfl, fun q => he (iff.mpr q)⟩⟩, fun fs hl => c19.trans (X18.ireturnOut hexec hret rfl (Or.inr (Or.inl rfl)) (hb hbytes d55) hl)⟩
    · have c13 : Steps p.tables e below (s₁.setTop (entryFrame m #[.ref x, .ref y] 3)) (T11.setTop (mkF m 55 #[.val (.ref x), .val (.ref y), .val (.ref y)] [.int 0])) := c12.trans (by
        refine XS.icmpYes X11.here hexec rfl (pc0 := 33) rfl (hb hbytes d33) rfl (ii_ne_t hcd) (by decide) rfl ?_
        refine iconstV X11.here hexec rfl 0 (hb hbytes d54) (by decide) ?_
        exact Steps.refl _)
      exact ⟨T11, some (.int 0), _, _, _, X11, rfl, rfl, rfl, (fun h => by cases h), ⟨0, rfl, hh11, Or.inr ⟨rfl, Cod.dif hx.2.2.2.2.1 hy.2.2.2.2.1 hcd⟩⟩, fun fs hl => c13.trans (X11.ireturnOut hexec hret rfl (Or.inr (Or.inl rfl)) (hb hbytes d55) hl)⟩
theorem pays {l : Launch} {R : Room} {p : Program} {e : Env} {below : List Frame} {s : State} {sargs : Array Value} {len W : Nat} (x t : Addr) (V : Cell) (cd : Int32) (n : Nat) (f : Nat → Int32) (y t' : Addr) (V' : Cell) (cd' : Int32) (k : Nat) (g : Nat → Int32) (z : Int32) (htab : tab.before sargs s = true) (hfr : 2 ≤ R.frames) (hlo : W + 28 ≤ R.locals) :
    Back l R p e below s sargs yN len W (fun A₁ a₁ => A₁.cells + 0 ≤ R.cells ∧ A₁.slots + 0 ≤ R.slots ∧ P x t V cd n f y t' V' cd' k g z a₁ A₁.U) (fun A₁ _ v₁ B₁ => Says01 (SameT n f k g) v₁ A₁.U B₁.U ∧ B₁.locs = A₁.locs ++ [] ∧ B₁.cells = A₁.cells + 0 ∧ B₁.slots = A₁.slots + 0) :=
  (law l x t V cd n f y t' V' cd' k g z).pays htab hfr (by omega)
end SEq
end StrChars
namespace StrChars.Road
open Jvm Sem ClassFile Op Lib Jvm.Stand Jvm.Free Jvm.Free.XT
open Jvm.Lib.Cold (StaticIs)
/-- the words of String.equals(Object) -/
abbrev wordsEq : List Jvm.Cond := [.code SEq.yN SEq.yB 3 (some .boolean), .initialized ST, .classLink ST 10 ST, .fieldLink ST 38 ST "COMPACT_STRINGS" "Z", .fieldLink ST 15 ST "coder" "B", .fieldLink ST 9 ST "value" "[B", .methodLink ST 541 LEq.yN, .static LEq.yN, .code LEq.yN LEq.yB 3 (some .boolean), .initialized "java/lang/StringLatin1"]
theorem tabEq_of {a : Array Value} {s : State} (h : ∀ w ∈ wordsEq, w.before a s = true) : SEq.tab.before a s = true := by
  have hl : LEq.tab.before a s = true := unparts (wk h (.code LEq.yN LEq.yB 3 (some .boolean))) (wks h (.initialized LEq.yN.cls :: LEq.site))
  have q := consq hl h
  exact unparts (wk q (.code SEq.yN SEq.yB 3 (some .boolean))) (wks q (.initialized SEq.yN.cls :: SEq.site))
theorem movedEq {Z s : State} {a0 args : Array Value} (hZ : Z.Warmed39 s.vm) (hw : ∀ d ∈ wordsEq, d.before a0 Z = true) : ∀ d ∈ wordsEq, d.before args s = true := fun d hd => by
  have t : ∀ d ∈ wordsEq, (d.onTables && d.keepsFace) = true := by decide +kernel
  exact RoadKit.mv hZ (hw d hd) (t d hd)
/-- the road's facts of a String, as the laws ask it -/
theorem txt_of {Z U : State} {a0 : Array Value} {kI : Nat} (wi : (Jvm.Cond.instantiable ST kI).before a0 Z = true) (al : Z.vm.Alike U.vm) {x t : Addr} {kb : ClassId} {cs : List Int32} {cd N2 : Int32} {vs : List Value} (E : RoadKit.Exa Z U.heap x ST) (V : RoadKit.Fld Z U.heap x ST "value" "[B" (.ref t)) (C : RoadKit.Fld Z U.heap x ST "coder" "B" (.int cd)) (K : RoadKit.Arv Z U.heap t kb .byte N2 vs (.int 0)) (hc : CodA cs cd N2 vs) (hb : ∀ c ∈ cs, ¬ c < 0 ∧ ¬ (65535 : Int32) < c) (l2 : cs.length ≤ 4000) :
    ∃ A, Txt x t A cd cs.length (fun j => cs.getD j 0) U := by
  obtain ⟨A, K1, K2, K3, K4, K5, K6⟩ := K
  have hcod := hc.cod (by omega) K3 K5
  obtain ⟨D, fV, fC, hB, F1, F2, g1, g2, -, -⟩ := strObj wi al E V C
  exact ⟨A, ⟨_, hB.2.2.1, D, hB.1, rfl, by cases q : D.vm <;> first | rfl | exact absurd q (hB.2.1.2 _)⟩, Has.of hB F1 g1, Has.of hB F2 g2, ⟨K1.1, State.isArrayOf_alike al K1.2.1, K1.2.2, by rcases hcod with ⟨-, q, -⟩ | ⟨-, q, -⟩ <;> omega⟩, hcod, fun j hj => by
    have e : cs.getD j 0 = cs[j] := by simp [List.getD_eq_getElem?_getD, hj]
    show ¬ cs.getD j 0 < 0 ∧ ¬ 65535 < cs.getD j 0
    rw [e]; exact hb _ (List.getElem_mem _)⟩
theorem same_list (cs ds : List Int32) : SameT cs.length (fun j => cs.getD j 0) ds.length (fun j => ds.getD j 0) ↔ cs = ds := by
  constructor
  · rintro ⟨e, q⟩
    refine List.ext_getElem e fun j h1 h2 => ?_
    have := q j h1
    simpa [List.getD_eq_getElem?_getD, h1, h2] using this
  · rintro rfl
    exact ⟨rfl, fun _ _ => rfl⟩
/-- **equals(Object) OF TWO SUCH STRINGS**: 1 just where the chars are the same -/
theorem eqW {p : Program} {l : Launch} {e : Env} {R : Room} {s : State} {args : Array Value} {below : List Frame} {len W : Nat} {Z : State} {a0 : Array Value} {h : Heap} (hZ : Z.Warmed39 s.vm) (hw : ∀ d ∈ wordsEq, d.before a0 Z = true) {kI : Nat} (wi : (Jvm.Cond.instantiable ST kI).before a0 Z = true)
    {x t : Addr} {kb : ClassId} {cs : List Int32} {cd N2 : Int32} {vs : List Value} (E : RoadKit.Exa Z h x ST) (V : RoadKit.Fld Z h x ST "value" "[B" (.ref t)) (C : RoadKit.Fld Z h x ST "coder" "B" (.int cd)) (K : RoadKit.Arv Z h t kb .byte N2 vs (.int 0)) (hc : CodA cs cd N2 vs) (hb : ∀ c ∈ cs, ¬ c < 0 ∧ ¬ (65535 : Int32) < c) (l2 : cs.length ≤ 4000)
    {y t' : Addr} {kb' : ClassId} {ds : List Int32} {cd' N2' : Int32} {vs' : List Value} (E' : RoadKit.Exa Z h y ST) (V' : RoadKit.Fld Z h y ST "value" "[B" (.ref t')) (C' : RoadKit.Fld Z h y ST "coder" "B" (.int cd')) (K' : RoadKit.Arv Z h t' kb' .byte N2' vs' (.int 0)) (hc' : CodA ds cd' N2' vs') (hb' : ∀ c ∈ ds, ¬ c < 0 ∧ ¬ (65535 : Int32) < c) (l2' : ds.length ≤ 4000)
    {z : Int32} (S : RoadKit.Sta Z h ST "COMPACT_STRINGS" "Z" (.int z)) (hz : ¬ z = 0) (hfr : 2 ≤ R.frames) (hlo : W + 28 ≤ R.locals) :
    Back l R p e below s args (⟨"java/lang/String", "equals", "(Ljava/lang/Object;)Z"⟩ : MethodName) len W (fun P a => a = #[.ref x, .ref y] ∧ P.U.heap = h ∧ P.cells + 0 ≤ R.cells ∧ P.slots + 0 ≤ R.slots)
      (fun P _ v B => ∃ L, (((v = some (.int 1) ∧ cs = ds) ∨ (v = some (.int 0) ∧ ¬ cs = ds)) ∧ L = [] ∧ B.U.heap = h) ∧ B.locs = P.locs ++ L ∧ B.cells = P.cells + 0 ∧ B.slots = P.slots + 0) := by
  intro m meth c P g ig mk a X hg hsize hdg hW hn hp'
  obtain ⟨rfl, rfl, r1, r2⟩ := hp'
  have al : Z.vm.Alike P.U.vm := hZ.alike.trans X.warmed.alike
  obtain ⟨A, hx⟩ := txt_of wi al E V C K hc hb l2
  obtain ⟨A', hy⟩ := txt_of wi al E' V' C' K' hc' hb' l2'
  obtain ⟨v, B, X', ⟨⟨w, hv, hh, hq⟩, hl, hk, hs⟩, st⟩ := SEq.pays x t A cd cs.length (fun j => cs.getD j 0) y t' A' cd' ds.length (fun j => ds.getD j 0) z (tabEq_of (movedEq hZ hw)) hfr hlo m meth c P g ig mk _ X hg hsize hdg hW hn ⟨r1, r2, rfl, hx, hy, sta_is al S, hz⟩
  refine ⟨v, B, X', ⟨[], ⟨?_, rfl, hh⟩, hl, hk, hs⟩, st⟩
  rcases hq with ⟨rfl, q⟩ | ⟨rfl, q⟩
  · exact Or.inl ⟨hv, (same_list cs ds).mp q⟩
  · exact Or.inr ⟨hv, fun e => q ((same_list cs ds).mpr e)⟩
end StrChars.Road
namespace StrChars
open Jvm Sem ClassFile Op Lib Jvm.Stand Jvm.Free.XT Jvm.Free.ALB Jvm.Free.JM Jvm.Free
open Jvm.Lib.Cold (StaticIs)
namespace ChN
def yN : MethodName := ⟨"java/lang/String", "charAt", "(I)C"⟩
abbrev yB : ByteArray := jdk_42_method_56_code
theorem d0 : decode yB 0 = .ok (.aload_n 0, 1) := by decide +kernel
theorem d1 : decode yB 1 = .ok (.invokevirtual 492, 3) := by decide +kernel
theorem d4 : decode yB 4 = .ok (.ifCond (.eq) 12, 3) := by decide +kernel
theorem d7 : decode yB 7 = .ok (.aload_n 0, 1) := by decide +kernel
theorem d8 : decode yB 8 = .ok (.getfield 9, 3) := by decide +kernel
theorem d11 : decode yB 11 = .ok (.iload_n 1, 1) := by decide +kernel
theorem d12 : decode yB 12 = .ok (.invokestatic 495, 3) := by decide +kernel
theorem d15 : decode yB 15 = .ok (.ireturn, 1) := by decide +kernel
def site : List Cond := [.fieldLink "java/lang/String" 9 "java/lang/String" "value" "[B", IsL.tab, LChA.tab] ++ virtW "java/lang/String" 492 "java/lang/String" IsL.yN IsL.yN ++ staticW "java/lang/String" 495 LChA.yN
def tab : Cond := tabOf yN yB 2 (some .char) site
def P (x t : Addr) (V : Cell) (n : Nat) (f : Nat → Int32) (z : Int32) (fm : Value) (i : Nat) (args : Array Value) (s : State) : Prop := args = #[.ref x, .int (Int32.ofNat i)] ∧ Txt x t V 0 n f s ∧ i < n ∧ StaticIs s "java/lang/String" "COMPACT_STRINGS" "Z" (.int z) ∧ ¬ z = 0 ∧ StaticIs s "jdk/internal/util/Preconditions" "SIOOBE_FORMATTER" "Ljava/util/function/BiFunction;" fm ∧ fm.isRef = true
def E (f : Nat → Int32) (i : Nat) (r : Option Value) (s u : State) : Prop := XT.PureE (some (.int (f i))) r s u
/-- charAt(i) of a Latin-1 String of n chars, i < n: f i -/
theorem law (l : Launch) (x t : Addr) (V : Cell) (n : Nat) (f : Nat → Int32) (z : Int32) (fm : Value) (i : Nat) : Law l yN 2 1 3 40 yB 2 (some .char) site (P x t V n f z fm i) (E f i) [] 0 0 := by
  refine Law.of_walk (plainFor_of_name (by decide +kernel)) (by decide +kernel) (by decide +kernel) (by decide) (fun _ _ h => by rw [h.1]; rfl) (fun _ U U' hal hh h => ⟨h.1, h.2.1.mv hal hh, h.2.2.1, h.2.2.2.1.there hal hh, h.2.2.2.2.1, h.2.2.2.2.2.1.there hal hh, h.2.2.2.2.2.2⟩) (fun r U U' V V' h1 hal h2 h => XT.PureE.mv r U U' V V' h1 hal h2 h) ?_
  intro p e s m args below meth c s₁ X0 hexec hbytes hml hret hlk hnm hown hh0 W hP
  obtain ⟨rfl, hx, hi, s1, hz, s3, rf⟩ := hP
  have v31 := hx.2.2.2.1.2.2.2
  have hr := hx.2.2.2.2.2 i hi
  have hx0 := hx.mv X0.warmed.alike hh0
  have c1 : Steps p.tables e below (s₁.setTop (entryFrame m #[.ref x, .int (Int32.ofNat i)] 2)) (s₁.setTop (mkF m 1 #[.val (.ref x), .val (.int (Int32.ofNat i))] [.ref x])) := Steps.trans (entry rfl) (by
    show Steps p.tables e below (s₁.setTop (mkF m 0 #[.val (.ref x), .val (.int (Int32.ofNat i))] [])) _
    refine XS.aloadN X0.here hexec rfl (hb hbytes d0) rfl rfl ?_
    exact Steps.refl _)
  obtain ⟨v2, T2, X2, E2, g2⟩ := X0.callV hexec (IsL.law l x 0 z) hown (wks W (virtW "java/lang/String" 492 "java/lang/String" IsL.yN IsL.yN)) rfl (by decide) (wk W IsL.tab) (W := 0) (Nat.le_of_ble_eq_true rfl) (Nat.le_of_ble_eq_true rfl) (Nat.le_refl _) (Nat.le_refl _) (hx0.1.fc X0.warmed.alike) hx0.1.is (g := (mkF m 1 #[.val (.ref x), .val (.int (Int32.ofNat i))] [.ref x])) rfl (by rw [hml]; rfl) c1 (argsL := []) (rest := []) rfl rfl (by show 2 * 0 + 0 ≤ _; decide) (hb hbytes d1) (⟨rfl, hx0.2.2.1, hx.2.2.2.2.1.cd, s1.there X0.warmed.alike hh0, hz⟩)
  obtain ⟨rfl, q2⟩ := E2
  have hh2 := q2.trans hh0
  have hx2 := hx.mv X2.warmed.alike hh2
  obtain ⟨-, k1, k2⟩ | ⟨k0, -⟩ := hx.2.2.2.2.1
  · have c3 : Steps p.tables e below (s₁.setTop (entryFrame m #[.ref x, .int (Int32.ofNat i)] 2)) (T2.setTop (mkF m 8 #[.val (.ref x), .val (.int (Int32.ofNat i))] [.ref x])) := Steps.trans g2 (by
      refine XS.ifNo X2.here hexec rfl (hb hbytes d4) rfl (i0_eq_f (by decide)) ?_
      refine XS.aloadN X2.here hexec rfl (hb hbytes d7) rfl rfl ?_
      exact Steps.refl _)
    obtain ⟨T4, X4, q4, st4⟩ := X2.hget hexec hown (wk W (.fieldLink "java/lang/String" 9 "java/lang/String" "value" "[B")) hx2.2.1 (g := (mkF m 8 #[.val (.ref x), .val (.int (Int32.ofNat i))] [.ref x])) rfl (rest := []) rfl (hb hbytes d8)
    have hh4 := q4.trans hh2
    have c5 : Steps p.tables e below (s₁.setTop (entryFrame m #[.ref x, .int (Int32.ofNat i)] 2)) (T4.setTop (mkF m 12 #[.val (.ref x), .val (.int (Int32.ofNat i))] [.int (Int32.ofNat i), .ref t])) := (c3.trans (st4 _ (Steps.refl _))).trans (by
      refine XS.iloadN X4.here hexec rfl (hb hbytes d11) rfl ?_
      exact Steps.refl _)
    obtain ⟨v6, T6, X6, E6, g6⟩ := X4.callS hexec (LChA.law l t V i (lo8 (f i)) fm) hown (wks W (staticW "java/lang/String" 495 LChA.yN)) (wk W LChA.tab) (W := 0) (Nat.le_of_ble_eq_true rfl) (Nat.le_of_ble_eq_true rfl) (Nat.le_refl _) (Nat.le_refl _) (g := (mkF m 12 #[.val (.ref x), .val (.int (Int32.ofNat i))] [.int (Int32.ofNat i), .ref t])) rfl (by rw [hml]; rfl) c5 (argsL := [.ref t, .int (Int32.ofNat i)]) (rest := []) rfl rfl (by show 2 * 0 + 0 ≤ _; decide) (hb hbytes d12) (⟨rfl, hx.2.2.2.1.mv X4.warmed.alike hh4, (k2 i hi).1, s3.there X4.warmed.alike hh4, rf⟩)
    obtain ⟨rfl, q6⟩ := E6
    rw [chr8_lo8 hr.1 (k2 i hi).2] at g6
    exact ⟨T6, some (.int (f i)), _, _, _, X6, rfl, rfl, rfl, (fun h => by cases h), ⟨rfl, q6.trans hh4⟩, fun fs hl => Steps.trans g6 (X6.ireturnOut hexec hret (narrow_ch hr.1 hr.2) (Or.inr (Or.inr (Or.inr (Or.inl rfl)))) (hb hbytes d15) hl)⟩
  · exact absurd k0 (by decide)
theorem pays {l : Launch} {R : Room} {p : Program} {e : Env} {below : List Frame} {s : State} {sargs : Array Value} {len W : Nat} (x t : Addr) (V : Cell) (n : Nat) (f : Nat → Int32) (z : Int32) (fm : Value) (i : Nat) (htab : tab.before sargs s = true) (hfr : 4 ≤ R.frames) (hlo : W + 53 ≤ R.locals) :
    Back l R p e below s sargs yN len W (fun A₁ a₁ => A₁.cells + 0 ≤ R.cells ∧ A₁.slots + 0 ≤ R.slots ∧ P x t V n f z fm i a₁ A₁.U) (fun A₁ _ v₁ B₁ => E f i v₁ A₁.U B₁.U ∧ B₁.locs = A₁.locs ++ [] ∧ B₁.cells = A₁.cells + 0 ∧ B₁.slots = A₁.slots + 0) :=
  (law l x t V n f z fm i).pays htab hfr (by omega)
end ChN
end StrChars
namespace StrChars.Road
open Jvm Sem ClassFile Op Lib Jvm.Stand Jvm.Free Jvm.Free.XT
open Jvm.Lib.Cold (StaticIs)
/-- the words of String.charAt(int), the Latin-1 road alone -/
abbrev wordsChN : List Jvm.Cond := [.code ChN.yN ChN.yB 2 (some .char), .initialized ST, .fieldLink ST 9 ST "value" "[B", .fieldLink ST 38 ST "COMPACT_STRINGS" "Z", .fieldLink ST 15 ST "coder" "B", .code IsL.yN IsL.yB 1 (some .boolean), .methodLink ST 492 IsL.yN, .declares IsL.yN, .selects ST IsL.yN IsL.yN, .instanceMethod IsL.yN,
  .methodLink ST 495 LChA.yN, .static LChA.yN, .code LChA.yN LChA.yB 2 (some .char), .initialized "java/lang/StringLatin1", .methodLink "java/lang/StringLatin1" 9 JO.Str_checkIndex.yN, .static JO.Str_checkIndex.yN, .code JO.Str_checkIndex.yN JO.Str_checkIndex.yB 2 none,
  .fieldLink ST 1053 "jdk/internal/util/Preconditions" "SIOOBE_FORMATTER" "Ljava/util/function/BiFunction;", .methodLink ST 1059 JC.PreCheck.yN, .static JC.PreCheck.yN, .code JC.PreCheck.yN JC.PreCheck.yB 3 (some .int), .initialized "jdk/internal/util/Preconditions"]
theorem tabChN_of {a : Array Value} {s : State} (h : ∀ w ∈ wordsChN, w.before a s = true) : ChN.tab.before a s = true := by
  have hp : JC.PreCheck.tab.before a s = true := unparts (wk h (.code JC.PreCheck.yN JC.PreCheck.yB 3 (some .int))) (wks h (.initialized JC.PreCheck.yN.cls :: JC.PreCheck.site))
  have qk := consq hp h
  have hk : JO.Str_checkIndex.tab.before a s = true := unparts (wk qk (.code JO.Str_checkIndex.yN JO.Str_checkIndex.yB 2 none)) (wks qk (.initialized JO.Str_checkIndex.yN.cls :: JO.Str_checkIndex.site))
  have ql := consq hk h
  have hl : LChA.tab.before a s = true := unparts (wk ql (.code LChA.yN LChA.yB 2 (some .char))) (wks ql (.initialized LChA.yN.cls :: LChA.site))
  have hi : IsL.tab.before a s = true := unparts (wk h (.code IsL.yN IsL.yB 1 (some .boolean))) (wks h (.initialized IsL.yN.cls :: IsL.site))
  have q := consq hi (consq hl h)
  exact unparts (wk q (.code ChN.yN ChN.yB 2 (some .char))) (wks q (.initialized ChN.yN.cls :: ChN.site))
theorem movedChN {Z s : State} {a0 args : Array Value} (hZ : Z.Warmed39 s.vm) (hw : ∀ d ∈ wordsChN, d.before a0 Z = true) : ∀ d ∈ wordsChN, d.before args s = true := fun d hd => by
  have t : ∀ d ∈ wordsChN, (d.onTables && d.keepsFace) = true := by decide +kernel
  exact RoadKit.mv hZ (hw d hd) (t d hd)
/-- **charAt(i) OF A LATIN-1 STRING**, i < n: the char -/
theorem chN {p : Program} {l : Launch} {e : Env} {R : Room} {s : State} {args : Array Value} {below : List Frame} {len W : Nat} {Z : State} {a0 : Array Value} {h : Heap} (hZ : Z.Warmed39 s.vm) (hw : ∀ d ∈ wordsChN, d.before a0 Z = true) {kI : Nat} (wi : (Jvm.Cond.instantiable ST kI).before a0 Z = true)
    {x t : Addr} {kb : ClassId} {cs : List Int32} {N2 z : Int32} {vs : List Value} {fm : Value} {i : Nat} {j : Int32} (E : RoadKit.Exa Z h x ST) (V : RoadKit.Fld Z h x ST "value" "[B" (.ref t)) (C : RoadKit.Fld Z h x ST "coder" "B" (.int 0)) (K : RoadKit.Arv Z h t kb .byte N2 vs (.int 0)) (hc : CodA cs 0 N2 vs) (hb : ∀ c ∈ cs, ¬ c < 0 ∧ ¬ (65535 : Int32) < c)
    (S : RoadKit.Sta Z h ST "COMPACT_STRINGS" "Z" (.int z)) (hz : ¬ z = 0) (F : RoadKit.Sta Z h "jdk/internal/util/Preconditions" "SIOOBE_FORMATTER" "Ljava/util/function/BiFunction;" fm) (rf : fm.isRef = true) (l2 : cs.length ≤ 4000) (hi : i < cs.length) (hj : j = Int32.ofNat i) (hfr : 4 ≤ R.frames) (hlo : W + 53 ≤ R.locals) :
    Back l R p e below s args (⟨"java/lang/String", "charAt", "(I)C"⟩ : MethodName) len W (fun P a => a = #[.ref x, .int j] ∧ P.U.heap = h ∧ P.cells + 0 ≤ R.cells ∧ P.slots + 0 ≤ R.slots)
      (fun P _ v B => ∃ L, (v = some (.int (cs.getD i 0)) ∧ L = [] ∧ B.U.heap = h) ∧ B.locs = P.locs ++ L ∧ B.cells = P.cells + 0 ∧ B.slots = P.slots + 0) := by
  subst hj
  intro m meth c P g ig mk a X hg hsize hdg hW hn hp'
  obtain ⟨rfl, rfl, r1, r2⟩ := hp'
  have al : Z.vm.Alike P.U.vm := hZ.alike.trans X.warmed.alike
  obtain ⟨A, hx⟩ := txt_of wi al E V C K hc hb l2
  obtain ⟨v, B, X', ⟨⟨hv, hh⟩, hl, hk, hs⟩, st⟩ := ChN.pays x t A cs.length (fun j => cs.getD j 0) z fm i (tabChN_of (movedChN hZ hw)) hfr hlo m meth c P g ig mk _ X hg hsize hdg hW hn ⟨r1, r2, rfl, hx, hi, sta_is al S, hz, sta_is al F, rf⟩
  exact ⟨v, B, X', ⟨[], ⟨hv, rfl, hh⟩, hl, hk, hs⟩, st⟩
/-- what backV says of its String, as the contracts of this text ask it: cs's low bytes, coder 0 -/
theorem codOf {cs : List Int32} {n : Nat} (hn : cs.length = n) (hb : ∀ c ∈ cs, ¬ 255 < c) : CodA cs 0 (Int32.ofNat n) ((cs.map lo8).map Value.int) := Or.inl ⟨rfl, by rw [hn], by simp [List.map_map, Function.comp_def], hb⟩
end StrChars.Road
end Jvm.Pilot.@@N@@
namespace Jvm.Pilot.@@N@@
namespace Own
open Jvm Jvm.ClassFile Sem Op Lib Jvm.Free Jvm.Stand Jvm.LawKit Jvm.RoadKit
/-! A WALK READ FORWARDS. 'Owe .. G T g': from the state T with the frame g on top the invocation comes back, and G holds of what it leaves. Each step's rule asks what is owed behind the step. -/
def Owe (tb : Tables) (e : Env) (below : List Frame) (G : Outcome → State → Prop) (T : State) (g : JFrame) : Prop := ∃ u o, Steps tb e below (T.setTop g) u ∧ u.status = .running ∧ Ended u below o ∧ G o u
theorem Owe.by {tb : Tables} {e : Env} {below : List Frame} {G : Outcome → State → Prop} {T T' : State} {g g' : JFrame} (k : ∀ t, Steps tb e below (T'.setTop g') t → Steps tb e below (T.setTop g) t) (h : Owe tb e below G T' g') : Owe tb e below G T g := by
  obtain ⟨u, o, h1, h2⟩ := h
  exact ⟨u, o, k _ h1, h2⟩
theorem Owe.cast {tb : Tables} {e : Env} {below : List Frame} {G : Outcome → State → Prop} {T : State} {g g' : JFrame} (q : g = g') (h : Owe tb e below G T g') : Owe tb e below G T g := q ▸ h
section Plain
variable {tb : Tables} [Ours tb] {e : Env} {below : List Frame} {G : Outcome → State → Prop} {T : State} {m : MethodId} {c : Code} {pc : Nat} {Ls : Array Slot} {st : List Value}
theorem Owe.aloadN (h : At T m c below) (hx : tb.exec = Jvm.exec) {k : Fin 4} {v : Value} (hd : decode c.code pc = .ok (.aload_n k, 1)) (hl : Ls[k.val]? = some (.val v)) (hv : v.isRef = true) (go : Owe tb e below G T (mkF m (pc + 1) Ls (v :: st))) : Owe tb e below G T (mkF m pc Ls st) := Owe.by (fun t k => XS.aloadN h hx rfl hd hl hv k) go
theorem Owe.aload (h : At T m c below) (hx : tb.exec = Jvm.exec) {k : Nat} {v : Value} (hd : decode c.code pc = .ok (.aload k, 2)) (hl : Ls[k]? = some (.val v)) (hv : v.isRef = true) (go : Owe tb e below G T (mkF m (pc + 2) Ls (v :: st))) : Owe tb e below G T (mkF m pc Ls st) := Owe.by (fun t k => XS.aload h hx rfl hd hl hv k) go
theorem Owe.iloadN (h : At T m c below) (hx : tb.exec = Jvm.exec) {k : Fin 4} {v : Int32} (hd : decode c.code pc = .ok (.iload_n k, 1)) (hl : Ls[k.val]? = some (.val (.int v))) (go : Owe tb e below G T (mkF m (pc + 1) Ls (.int v :: st))) : Owe tb e below G T (mkF m pc Ls st) := Owe.by (fun t k => XS.iloadN h hx rfl hd hl k) go
theorem Owe.iload (h : At T m c below) (hx : tb.exec = Jvm.exec) {k : Nat} {v : Int32} (hd : decode c.code pc = .ok (.iload k, 2)) (hl : Ls[k]? = some (.val (.int v))) (go : Owe tb e below G T (mkF m (pc + 2) Ls (.int v :: st))) : Owe tb e below G T (mkF m pc Ls st) := Owe.by (fun t k => XS.iload h hx rfl hd hl k) go
theorem Owe.iconst (h : At T m c below) (hx : tb.exec = Jvm.exec) {i : Int} (hd : decode c.code pc = .ok (.iconst i, 1)) {w : Int32} (hw : (Int32.ofInt i) = w) (go : Owe tb e below G T (mkF m (pc + 1) Ls (.int w :: st))) : Owe tb e below G T (mkF m pc Ls st) := by subst hw; exact Owe.by (fun t k => XS.iconst h hx rfl hd k) go
theorem Owe.bipush (h : At T m c below) (hx : tb.exec = Jvm.exec) {i : Int} (hd : decode c.code pc = .ok (.bipush i, 2)) {w : Int32} (hw : (Int8.ofInt i).toInt32 = w) (go : Owe tb e below G T (mkF m (pc + 2) Ls (.int w :: st))) : Owe tb e below G T (mkF m pc Ls st) := by subst hw; exact Owe.by (fun t k => XS.bipush h hx rfl hd k) go
theorem Owe.sipush (h : At T m c below) (hx : tb.exec = Jvm.exec) {i : Int} (hd : decode c.code pc = .ok (.sipush i, 3)) {w : Int32} (hw : (Int16.ofInt i).toInt32 = w) (go : Owe tb e below G T (mkF m (pc + 3) Ls (.int w :: st))) : Owe tb e below G T (mkF m pc Ls st) := by subst hw; exact Owe.by (fun t k => XS.sipush h hx rfl hd k) go
theorem Owe.aconstNull (h : At T m c below) (hx : tb.exec = Jvm.exec) (hd : decode c.code pc = .ok (.aconst_null, 1)) (go : Owe tb e below G T (mkF m (pc + 1) Ls (.null :: st))) : Owe tb e below G T (mkF m pc Ls st) := Owe.by (fun t k => XS.aconstNull h hx rfl hd k) go
theorem Owe.iadd (h : At T m c below) (hx : tb.exec = Jvm.exec) {x y : Int32} {rest : List Value} (hd : decode c.code pc = .ok (.iadd, 1)) (hs : st = .int y :: .int x :: rest) (go : Owe tb e below G T (mkF m (pc + 1) Ls (.int (x + y) :: rest))) : Owe tb e below G T (mkF m pc Ls st) := Owe.by (fun t k => XS.iadd h hx rfl hd hs k) go
theorem Owe.isub (h : At T m c below) (hx : tb.exec = Jvm.exec) {x y : Int32} {rest : List Value} (hd : decode c.code pc = .ok (.isub, 1)) (hs : st = .int y :: .int x :: rest) (go : Owe tb e below G T (mkF m (pc + 1) Ls (.int (x - y) :: rest))) : Owe tb e below G T (mkF m pc Ls st) := Owe.by (fun t k => XS.isub h hx rfl hd hs k) go
theorem Owe.imul (h : At T m c below) (hx : tb.exec = Jvm.exec) {x y : Int32} {rest : List Value} (hd : decode c.code pc = .ok (.imul, 1)) (hs : st = .int y :: .int x :: rest) (go : Owe tb e below G T (mkF m (pc + 1) Ls (.int (x * y) :: rest))) : Owe tb e below G T (mkF m pc Ls st) := Owe.by (fun t k => XS.imul h hx rfl hd hs k) go
theorem Owe.iand (h : At T m c below) (hx : tb.exec = Jvm.exec) {x y : Int32} {rest : List Value} (hd : decode c.code pc = .ok (.iand, 1)) (hs : st = .int y :: .int x :: rest) (go : Owe tb e below G T (mkF m (pc + 1) Ls (.int (x &&& y) :: rest))) : Owe tb e below G T (mkF m pc Ls st) := Owe.by (fun t k => XS.iand h hx rfl hd hs k) go
theorem Owe.ior (h : At T m c below) (hx : tb.exec = Jvm.exec) {x : Int32} {y : Int32} {rest : List Value} (hd : decode c.code pc = .ok (.ior, 1)) (hs : st = .int y :: .int x :: rest) (go : Owe tb e below G T (mkF m (pc + 1) Ls (.int (x ||| y) :: rest))) : Owe tb e below G T (mkF m pc Ls st) := Owe.by (fun t k => XS.ior h hx rfl hd hs k) go
theorem Owe.ixor (h : At T m c below) (hx : tb.exec = Jvm.exec) {x : Int32} {y : Int32} {rest : List Value} (hd : decode c.code pc = .ok (.ixor, 1)) (hs : st = .int y :: .int x :: rest) (go : Owe tb e below G T (mkF m (pc + 1) Ls (.int (x ^^^ y) :: rest))) : Owe tb e below G T (mkF m pc Ls st) := Owe.by (fun t k => XS.ixor h hx rfl hd hs k) go
theorem Owe.ishl (h : At T m c below) (hx : tb.exec = Jvm.exec) {x : Int32} {y : Int32} {rest : List Value} (hd : decode c.code pc = .ok (.ishl, 1)) (hs : st = .int y :: .int x :: rest) (go : Owe tb e below G T (mkF m (pc + 1) Ls (.int (x <<< (y &&& 31)) :: rest))) : Owe tb e below G T (mkF m pc Ls st) := Owe.by (fun t k => XS.ishl h hx rfl hd hs k) go
theorem Owe.ishr (h : At T m c below) (hx : tb.exec = Jvm.exec) {x : Int32} {y : Int32} {rest : List Value} (hd : decode c.code pc = .ok (.ishr, 1)) (hs : st = .int y :: .int x :: rest) (go : Owe tb e below G T (mkF m (pc + 1) Ls (.int (x >>> (y &&& 31)) :: rest))) : Owe tb e below G T (mkF m pc Ls st) := Owe.by (fun t k => XS.ishr h hx rfl hd hs k) go
theorem Owe.iushr (h : At T m c below) (hx : tb.exec = Jvm.exec) {x : Int32} {y : Int32} {rest : List Value} (hd : decode c.code pc = .ok (.iushr, 1)) (hs : st = .int y :: .int x :: rest) (go : Owe tb e below G T (mkF m (pc + 1) Ls (.int ((x.toUInt32 >>> (y &&& 31).toUInt32).toInt32) :: rest))) : Owe tb e below G T (mkF m pc Ls st) := Owe.by (fun t k => XS.iushr h hx rfl hd hs k) go
theorem Owe.irem (h : At T m c below) (hx : tb.exec = Jvm.exec) {x y : Int32} {rest : List Value} (hd : decode c.code pc = .ok (.irem, 1)) (hs : st = .int y :: .int x :: rest) (hy : y ≠ 0) (go : Owe tb e below G T (mkF m (pc + 1) Ls (.int (x - (x / y) * y) :: rest))) : Owe tb e below G T (mkF m pc Ls st) := Owe.by (fun t k => XS.irem h hx rfl hd hs hy k) go
theorem Owe.idiv (h : At T m c below) (hx : tb.exec = Jvm.exec) {x y : Int32} {rest : List Value} (hd : decode c.code pc = .ok (.idiv, 1)) (hs : st = .int y :: .int x :: rest) (hy : y ≠ 0) (go : Owe tb e below G T (mkF m (pc + 1) Ls (.int (x / y) :: rest))) : Owe tb e below G T (mkF m pc Ls st) := Owe.by (fun t k => XS.idiv h hx rfl hd hs hy k) go
theorem Owe.ineg (h : At T m c below) (hx : tb.exec = Jvm.exec) {x : Int32} {rest : List Value} (hd : decode c.code pc = .ok (.ineg, 1)) (hs : st = .int x :: rest) (go : Owe tb e below G T (mkF m (pc + 1) Ls (.int (-x) :: rest))) : Owe tb e below G T (mkF m pc Ls st) := Owe.by (fun t k => XS.ineg h hx rfl hd hs k) go
theorem Owe.iinc (h : At T m c below) (hx : tb.exec = Jvm.exec) {k : Nat} {cst : Int} {x : Int32} {l' : Array Slot} (hd : decode c.code pc = .ok (.iinc k cst, 3)) (hl : Ls[k]? = some (.val (.int x))) (hl' : storeLocals Ls k (.int (x + Int32.ofInt cst)) = some l') (go : Owe tb e below G T (mkF m (pc + 3) l' st)) : Owe tb e below G T (mkF m pc Ls st) := Owe.by (fun t k => XS.iinc h hx rfl hd hl hl' k) go
theorem Owe.dup (h : At T m c below) (hx : tb.exec = Jvm.exec) {x : Value} {rest : List Value} (hd : decode c.code pc = .ok (.dup, 1)) (hs : st = x :: rest) (hc : x.category = 1) (go : Owe tb e below G T (mkF m (pc + 1) Ls (x :: x :: rest))) : Owe tb e below G T (mkF m pc Ls st) := Owe.by (fun t k => XS.dup h hx rfl hd hs hc k) go
theorem Owe.pop (h : At T m c below) (hx : tb.exec = Jvm.exec) {x : Value} {rest : List Value} (hd : decode c.code pc = .ok (.pop, 1)) (hs : st = x :: rest) (hc : x.category = 1) (go : Owe tb e below G T (mkF m (pc + 1) Ls rest)) : Owe tb e below G T (mkF m pc Ls st) := Owe.by (fun t k => XS.pop h hx rfl hd hs hc k) go
theorem Owe.dupX1 (h : At T m c below) (hx : tb.exec = Jvm.exec) {x y : Value} {rest : List Value} (hd : decode c.code pc = .ok (.dup_x1, 1)) (hs : st = x :: y :: rest) (hc : x.category = 1) (hc2 : y.category = 1) (go : Owe tb e below G T (mkF m (pc + 1) Ls (x :: y :: x :: rest))) : Owe tb e below G T (mkF m pc Ls st) := Owe.by (fun t k => XS.dupX1 h hx rfl hd hs hc hc2 k) go
theorem Owe.dup2 (h : At T m c below) (hx : tb.exec = Jvm.exec) {x y : Value} {rest : List Value} (hd : decode c.code pc = .ok (.dup2, 1)) (hs : st = x :: y :: rest) (hc : x.category = 1) (hc' : y.category = 1) (go : Owe tb e below G T (mkF m (pc + 1) Ls (x :: y :: x :: y :: rest))) : Owe tb e below G T (mkF m pc Ls st) := Owe.by (fun t k => Jvm.Free.XT.dup2 h hx rfl hd hs hc hc' k) go
theorem Owe.istoreN (h : At T m c below) (hx : tb.exec = Jvm.exec) {k : Fin 4} {x : Int32} {rest : List Value} {l' : Array Slot} (hd : decode c.code pc = .ok (.istore_n k, 1)) (hs : st = .int x :: rest) (hl : storeLocals Ls k.val (.int x) = some l') (go : Owe tb e below G T (mkF m (pc + 1) l' rest)) : Owe tb e below G T (mkF m pc Ls st) := Owe.by (fun t k => XS.istoreN h hx rfl hd hs hl k) go
theorem Owe.istore (h : At T m c below) (hx : tb.exec = Jvm.exec) {k : Nat} {x : Int32} {rest : List Value} {l' : Array Slot} (hd : decode c.code pc = .ok (.istore k, 2)) (hs : st = .int x :: rest) (hl : storeLocals Ls k (.int x) = some l') (go : Owe tb e below G T (mkF m (pc + 2) l' rest)) : Owe tb e below G T (mkF m pc Ls st) := Owe.by (fun t k => XS.istore h hx rfl hd hs hl k) go
theorem Owe.astoreN (h : At T m c below) (hx : tb.exec = Jvm.exec) {k : Fin 4} {x : Value} {rest : List Value} {l' : Array Slot} (hd : decode c.code pc = .ok (.astore_n k, 1)) (hs : st = x :: rest) (hv : x.isRef = true) (hl : storeLocals Ls k.val x = some l') (go : Owe tb e below G T (mkF m (pc + 1) l' rest)) : Owe tb e below G T (mkF m pc Ls st) := Owe.by (fun t k => XS.astoreN h hx rfl hd hs hv hl k) go
theorem Owe.astore (h : At T m c below) (hx : tb.exec = Jvm.exec) {k : Nat} {x : Value} {rest : List Value} {l' : Array Slot} (hd : decode c.code pc = .ok (.astore k, 2)) (hs : st = x :: rest) (hv : x.isRef = true) (hl : storeLocals Ls k x = some l') (go : Owe tb e below G T (mkF m (pc + 2) l' rest)) : Owe tb e below G T (mkF m pc Ls st) := Owe.by (fun t k => XS.astore h hx rfl hd hs hv hl k) go
theorem Owe.goto (h : At T m c below) (hx : tb.exec = Jvm.exec) {o : Int} {pc' : Nat}  (hd : decode c.code pc = .ok (.goto o, 3)) (ho : 0 ≤ (pc : Int) + o) (hp : ((pc : Int) + o).toNat = pc') (go : Owe tb e below G T (mkF m pc' Ls st)) : Owe tb e below G T (mkF m pc Ls st) := Owe.by (fun t k => XS.goto h hx rfl rfl hd ho hp k) go
theorem Owe.ifYes (h : At T m c below) (hx : tb.exec = Jvm.exec) {cd : ClassFile.Cond} {x : Int32} {rest : List Value} {o : Int} {pc' : Nat}  (hd : decode c.code pc = .ok (.ifCond cd o, 3)) (hs : st = .int x :: rest) (hc : ifCond.holds cd x = true) (ho : 0 ≤ (pc : Int) + o) (hp : ((pc : Int) + o).toNat = pc') (go : Owe tb e below G T (mkF m pc' Ls rest)) : Owe tb e below G T (mkF m pc Ls st) := Owe.by (fun t k => XS.ifYes h hx rfl rfl hd hs hc ho hp k) go
theorem Owe.ifNo (h : At T m c below) (hx : tb.exec = Jvm.exec) {cd : ClassFile.Cond} {o : Int} {x : Int32} {rest : List Value} (hd : decode c.code pc = .ok (.ifCond cd o, 3)) (hs : st = .int x :: rest) (hc : ifCond.holds cd x = false) (go : Owe tb e below G T (mkF m (pc + 3) Ls rest)) : Owe tb e below G T (mkF m pc Ls st) := Owe.by (fun t k => XS.ifNo h hx rfl hd hs hc k) go
theorem Owe.icmpYes (h : At T m c below) (hx : tb.exec = Jvm.exec) {cd : ClassFile.Cond} {x y : Int32} {rest : List Value} {o : Int} {pc' : Nat}  (hd : decode c.code pc = .ok (.if_icmp cd o, 3)) (hs : st = .int y :: .int x :: rest) (hc : if_icmp.holds cd x y = true) (ho : 0 ≤ (pc : Int) + o) (hp : ((pc : Int) + o).toNat = pc') (go : Owe tb e below G T (mkF m pc' Ls rest)) : Owe tb e below G T (mkF m pc Ls st) := Owe.by (fun t k => XS.icmpYes h hx rfl rfl hd hs hc ho hp k) go
theorem Owe.icmpNo (h : At T m c below) (hx : tb.exec = Jvm.exec) {cd : ClassFile.Cond} {o : Int} {x y : Int32} {rest : List Value} (hd : decode c.code pc = .ok (.if_icmp cd o, 3)) (hs : st = .int y :: .int x :: rest) (hc : if_icmp.holds cd x y = false) (go : Owe tb e below G T (mkF m (pc + 3) Ls rest)) : Owe tb e below G T (mkF m pc Ls st) := Owe.by (fun t k => XS.icmpNo h hx rfl hd hs hc k) go
theorem Owe.ifnullYes (h : At T m c below) (hx : tb.exec = Jvm.exec) {rest : List Value} {o : Int} {pc' : Nat}  (hd : decode c.code pc = .ok (.ifnull o, 3)) (hs : st = .null :: rest) (ho : 0 ≤ (pc : Int) + o) (hp : ((pc : Int) + o).toNat = pc') (go : Owe tb e below G T (mkF m pc' Ls rest)) : Owe tb e below G T (mkF m pc Ls st) := Owe.by (fun t k => XS.ifnullYes h hx rfl rfl hd hs ho hp k) go
theorem Owe.ifnullNo (h : At T m c below) (hx : tb.exec = Jvm.exec) {o : Int} {b : Addr} {rest : List Value} (hd : decode c.code pc = .ok (.ifnull o, 3)) (hs : st = .ref b :: rest) (go : Owe tb e below G T (mkF m (pc + 3) Ls rest)) : Owe tb e below G T (mkF m pc Ls st) := Owe.by (fun t k => XS.ifnullNo h hx rfl hd hs k) go
theorem Owe.ifnonnullYes (h : At T m c below) (hx : tb.exec = Jvm.exec) {b : Addr} {rest : List Value} {o : Int} {pc' : Nat}  (hd : decode c.code pc = .ok (.ifnonnull o, 3)) (hs : st = .ref b :: rest) (ho : 0 ≤ (pc : Int) + o) (hp : ((pc : Int) + o).toNat = pc') (go : Owe tb e below G T (mkF m pc' Ls rest)) : Owe tb e below G T (mkF m pc Ls st) := Owe.by (fun t k => XS.ifnonnullYes h hx rfl rfl hd hs ho hp k) go
theorem Owe.ifnonnullNo (h : At T m c below) (hx : tb.exec = Jvm.exec) {o : Int} {rest : List Value} (hd : decode c.code pc = .ok (.ifnonnull o, 3)) (hs : st = .null :: rest) (go : Owe tb e below G T (mkF m (pc + 3) Ls rest)) : Owe tb e below G T (mkF m pc Ls st) := Owe.by (fun t k => XS.ifnonnullNo h hx rfl hd hs k) go
theorem Owe.acmpYes (h : At T m c below) (hx : tb.exec = Jvm.exec) {cd : ClassFile.ACond} {x y : Value} {rest : List Value} {o : Int} {pc' : Nat}  (hd : decode c.code pc = .ok (.if_acmp cd o, 3)) (hs : st = y :: x :: rest) (hx' : x.isRef = true) (hy' : y.isRef = true) (hc : Jvm.Free.XT.acmp cd x y = true) (ho : 0 ≤ (pc : Int) + o) (hp : ((pc : Int) + o).toNat = pc') (go : Owe tb e below G T (mkF m pc' Ls rest)) : Owe tb e below G T (mkF m pc Ls st) := Owe.by (fun t k => Jvm.Free.XT.acmpYes h hx rfl rfl hd hs hx' hy' hc ho hp k) go
theorem Owe.acmpNo (h : At T m c below) (hx : tb.exec = Jvm.exec) {cd : ClassFile.ACond} {o : Int} {x y : Value} {rest : List Value} (hd : decode c.code pc = .ok (.if_acmp cd o, 3)) (hs : st = y :: x :: rest) (hx' : x.isRef = true) (hy' : y.isRef = true) (hc : Jvm.Free.XT.acmp cd x y = false) (go : Owe tb e below G T (mkF m (pc + 3) Ls rest)) : Owe tb e below G T (mkF m pc Ls st) := Owe.by (fun t k => Jvm.Free.XT.acmpNo h hx rfl hd hs hx' hy' hc k) go
theorem Owe.ladd (h : At T m c below) (hx : tb.exec = Jvm.exec) {x : Int64} {y : Int64} {rest : List Value} (hd : decode c.code pc = .ok (.ladd, 1)) (hs : st = .long y :: .long x :: rest) (go : Owe tb e below G T (mkF m (pc + 1) Ls (.long (x + y) :: rest))) : Owe tb e below G T (mkF m pc Ls st) := Owe.by (fun t k => XS.ladd h hx rfl hd hs k) go
theorem Owe.lsub (h : At T m c below) (hx : tb.exec = Jvm.exec) {x : Int64} {y : Int64} {rest : List Value} (hd : decode c.code pc = .ok (.lsub, 1)) (hs : st = .long y :: .long x :: rest) (go : Owe tb e below G T (mkF m (pc + 1) Ls (.long (x - y) :: rest))) : Owe tb e below G T (mkF m pc Ls st) := Owe.by (fun t k => XS.lsub h hx rfl hd hs k) go
theorem Owe.lmul (h : At T m c below) (hx : tb.exec = Jvm.exec) {x : Int64} {y : Int64} {rest : List Value} (hd : decode c.code pc = .ok (.lmul, 1)) (hs : st = .long y :: .long x :: rest) (go : Owe tb e below G T (mkF m (pc + 1) Ls (.long (x * y) :: rest))) : Owe tb e below G T (mkF m pc Ls st) := Owe.by (fun t k => XS.lmul h hx rfl hd hs k) go
theorem Owe.land (h : At T m c below) (hx : tb.exec = Jvm.exec) {x : Int64} {y : Int64} {rest : List Value} (hd : decode c.code pc = .ok (.land, 1)) (hs : st = .long y :: .long x :: rest) (go : Owe tb e below G T (mkF m (pc + 1) Ls (.long (x &&& y) :: rest))) : Owe tb e below G T (mkF m pc Ls st) := Owe.by (fun t k => XS.land h hx rfl hd hs k) go
theorem Owe.lor (h : At T m c below) (hx : tb.exec = Jvm.exec) {x : Int64} {y : Int64} {rest : List Value} (hd : decode c.code pc = .ok (.lor, 1)) (hs : st = .long y :: .long x :: rest) (go : Owe tb e below G T (mkF m (pc + 1) Ls (.long (x ||| y) :: rest))) : Owe tb e below G T (mkF m pc Ls st) := Owe.by (fun t k => XS.lor h hx rfl hd hs k) go
theorem Owe.lxor (h : At T m c below) (hx : tb.exec = Jvm.exec) {x : Int64} {y : Int64} {rest : List Value} (hd : decode c.code pc = .ok (.lxor, 1)) (hs : st = .long y :: .long x :: rest) (go : Owe tb e below G T (mkF m (pc + 1) Ls (.long (x ^^^ y) :: rest))) : Owe tb e below G T (mkF m pc Ls st) := Owe.by (fun t k => XS.lxor h hx rfl hd hs k) go
theorem Owe.lshl (h : At T m c below) (hx : tb.exec = Jvm.exec) {x : Int64} {y : Int32} {rest : List Value} (hd : decode c.code pc = .ok (.lshl, 1)) (hs : st = .int y :: .long x :: rest) (go : Owe tb e below G T (mkF m (pc + 1) Ls (.long (x <<< (y &&& 0x3f).toInt64) :: rest))) : Owe tb e below G T (mkF m pc Ls st) := Owe.by (fun t k => XS.lshl h hx rfl hd hs k) go
theorem Owe.lshr (h : At T m c below) (hx : tb.exec = Jvm.exec) {x : Int64} {y : Int32} {rest : List Value} (hd : decode c.code pc = .ok (.lshr, 1)) (hs : st = .int y :: .long x :: rest) (go : Owe tb e below G T (mkF m (pc + 1) Ls (.long (x >>> (y &&& 0x3f).toInt64) :: rest))) : Owe tb e below G T (mkF m pc Ls st) := Owe.by (fun t k => XS.lshr h hx rfl hd hs k) go
theorem Owe.lushr (h : At T m c below) (hx : tb.exec = Jvm.exec) {x : Int64} {y : Int32} {rest : List Value} (hd : decode c.code pc = .ok (.lushr, 1)) (hs : st = .int y :: .long x :: rest) (go : Owe tb e below G T (mkF m (pc + 1) Ls (.long ((x.toUInt64 >>> (y &&& 0x3f).toInt64.toUInt64).toInt64) :: rest))) : Owe tb e below G T (mkF m pc Ls st) := Owe.by (fun t k => XS.lushr h hx rfl hd hs k) go
theorem Owe.lneg (h : At T m c below) (hx : tb.exec = Jvm.exec) {v : Int64} {rest : List Value} (hd : decode c.code pc = .ok (.lneg, 1)) (hs : st = .long v :: rest) (go : Owe tb e below G T (mkF m (pc + 1) Ls (.long (-v) :: rest))) : Owe tb e below G T (mkF m pc Ls st) := Owe.by (fun t k => XS.lneg h hx rfl hd hs k) go
theorem Owe.i2l (h : At T m c below) (hx : tb.exec = Jvm.exec) {v : Int32} {rest : List Value} (hd : decode c.code pc = .ok (.i2l, 1)) (hs : st = .int v :: rest) (go : Owe tb e below G T (mkF m (pc + 1) Ls (.long (v.toInt64) :: rest))) : Owe tb e below G T (mkF m pc Ls st) := Owe.by (fun t k => XS.i2l h hx rfl hd hs k) go
theorem Owe.l2i (h : At T m c below) (hx : tb.exec = Jvm.exec) {v : Int64} {rest : List Value} (hd : decode c.code pc = .ok (.l2i, 1)) (hs : st = .long v :: rest) (go : Owe tb e below G T (mkF m (pc + 1) Ls (.int (v.toInt32) :: rest))) : Owe tb e below G T (mkF m pc Ls st) := Owe.by (fun t k => XS.l2i h hx rfl hd hs k) go
theorem Owe.i2b (h : At T m c below) (hx : tb.exec = Jvm.exec) {v : Int32} {rest : List Value} (hd : decode c.code pc = .ok (.i2b, 1)) (hs : st = .int v :: rest) (go : Owe tb e below G T (mkF m (pc + 1) Ls (.int (v.toInt8.toInt32) :: rest))) : Owe tb e below G T (mkF m pc Ls st) := Owe.by (fun t k => XS.i2b h hx rfl hd hs k) go
theorem Owe.i2c (h : At T m c below) (hx : tb.exec = Jvm.exec) {v : Int32} {rest : List Value} (hd : decode c.code pc = .ok (.i2c, 1)) (hs : st = .int v :: rest) (go : Owe tb e below G T (mkF m (pc + 1) Ls (.int (v.toUInt32.toUInt16.toUInt32.toInt32) :: rest))) : Owe tb e below G T (mkF m pc Ls st) := Owe.by (fun t k => XS.i2c h hx rfl hd hs k) go
theorem Owe.i2s (h : At T m c below) (hx : tb.exec = Jvm.exec) {v : Int32} {rest : List Value} (hd : decode c.code pc = .ok (.i2s, 1)) (hs : st = .int v :: rest) (go : Owe tb e below G T (mkF m (pc + 1) Ls (.int (v.toInt16.toInt32) :: rest))) : Owe tb e below G T (mkF m pc Ls st) := Owe.by (fun t k => XS.i2s h hx rfl hd hs k) go
theorem Owe.lloadN (h : At T m c below) (hx : tb.exec = Jvm.exec) {k : Fin 4} {v : Int64} (hd : decode c.code pc = .ok (.lload_n k, 1)) (hl : Ls[k.val]? = some (.val (.long v))) (go : Owe tb e below G T (mkF m (pc + 1) Ls (.long v :: st))) : Owe tb e below G T (mkF m pc Ls st) := Owe.by (fun t k => XS.lloadN h hx rfl hd hl k) go
theorem Owe.lload (h : At T m c below) (hx : tb.exec = Jvm.exec) {k : Nat} {v : Int64} (hd : decode c.code pc = .ok (.lload k, 2)) (hl : Ls[k]? = some (.val (.long v))) (go : Owe tb e below G T (mkF m (pc + 2) Ls (.long v :: st))) : Owe tb e below G T (mkF m pc Ls st) := Owe.by (fun t k => XS.lload h hx rfl hd hl k) go
theorem Owe.lstoreN (h : At T m c below) (hx : tb.exec = Jvm.exec) {k : Fin 4} {x : Int64} {rest : List Value} {l' : Array Slot} (hd : decode c.code pc = .ok (.lstore_n k, 1)) (hs : st = .long x :: rest) (hl : storeLocals Ls k.val (.long x) = some l') (go : Owe tb e below G T (mkF m (pc + 1) l' rest)) : Owe tb e below G T (mkF m pc Ls st) := Owe.by (fun t k => XS.lstoreN h hx rfl hd hs hl k) go
theorem Owe.lstore (h : At T m c below) (hx : tb.exec = Jvm.exec) {k : Nat} {x : Int64} {rest : List Value} {l' : Array Slot} (hd : decode c.code pc = .ok (.lstore k, 2)) (hs : st = .long x :: rest) (hl : storeLocals Ls k (.long x) = some l') (go : Owe tb e below G T (mkF m (pc + 2) l' rest)) : Owe tb e below G T (mkF m pc Ls st) := Owe.by (fun t k => XS.lstore h hx rfl hd hs hl k) go
theorem Owe.lconst (h : At T m c below) (hx : tb.exec = Jvm.exec) {k : Fin 2} (hd : decode c.code pc = .ok (.lconst k, 1)) {w : Int64} (hw : (Int64.ofNat k) = w) (go : Owe tb e below G T (mkF m (pc + 1) Ls (.long w :: st))) : Owe tb e below G T (mkF m pc Ls st) := by subst hw; exact Owe.by (fun t k => XS.lconst h hx rfl hd k) go
theorem Owe.lcmp (h : At T m c below) (hx : tb.exec = Jvm.exec) {x y : Int64} {rest : List Value} (hd : decode c.code pc = .ok (.lcmp, 1)) (hs : st = .long y :: .long x :: rest) (go : Owe tb e below G T (mkF m (pc + 1) Ls (.int (lcmpW x y) :: rest))) : Owe tb e below G T (mkF m pc Ls st) := Owe.by (fun t k => XS.lcmp h hx rfl hd hs k) go
theorem Owe.tswIn (h : At T m c below) (hx : tb.exec = Jvm.exec) {dflt low high : Int} {offs : Array Int} {len : Nat} {o : Int} {pc' : Nat}  (hd : decode c.code pc = .ok (.tableswitch dflt low high offs, len)) {i : Int32} {rest : List Value} (hs : st = .int i :: rest) (hin : ¬ (i.toInt < low ∨ i.toInt > high)) (hoff : offs[(i.toInt - low).toNat]? = some o) (ho : 0 ≤ (pc : Int) + o) (hp : ((pc : Int) + o).toNat = pc') (go : Owe tb e below G T (mkF m pc' Ls rest)) : Owe tb e below G T (mkF m pc Ls st) := Owe.by (fun t k => XS.tswIn h hx rfl rfl hd hs hin hoff ho hp k) go
theorem Owe.tswOut (h : At T m c below) (hx : tb.exec = Jvm.exec) {dflt low high : Int} {offs : Array Int} {len : Nat} {pc' : Nat}  (hd : decode c.code pc = .ok (.tableswitch dflt low high offs, len)) {i : Int32} {rest : List Value} (hs : st = .int i :: rest) (hout : i.toInt < low ∨ i.toInt > high) (ho : 0 ≤ (pc : Int) + dflt) (hp : ((pc : Int) + dflt).toNat = pc') (go : Owe tb e below G T (mkF m pc' Ls rest)) : Owe tb e below G T (mkF m pc Ls st) := Owe.by (fun t k => XS.tswOut h hx rfl rfl hd hs hout ho hp k) go
theorem Owe.dload (h : At T m c below) (hx : tb.exec = Jvm.exec) {k : Nat} {v : UInt64} (hd : decode c.code pc = .ok (.dload k, 2)) (hl : Ls[k]? = some (.val (.double v))) (go : Owe tb e below G T (mkF m (pc + 2) Ls (.double v :: st))) : Owe tb e below G T (mkF m pc Ls st) := Owe.by (fun t k => XS.dload h hx rfl hd hl k) go
theorem Owe.dloadN (h : At T m c below) (hx : tb.exec = Jvm.exec) {k : Fin 4} {v : UInt64} (hd : decode c.code pc = .ok (.dload_n k, 1)) (hl : Ls[k.val]? = some (.val (.double v))) (go : Owe tb e below G T (mkF m (pc + 1) Ls (.double v :: st))) : Owe tb e below G T (mkF m pc Ls st) := Owe.by (fun t k => XS.dloadN h hx rfl hd hl k) go
theorem Owe.dstore (h : At T m c below) (hx : tb.exec = Jvm.exec) {k : Nat} {x : UInt64} {rest : List Value} {l' : Array Slot} (hd : decode c.code pc = .ok (.dstore k, 2)) (hs : st = .double x :: rest) (hl : storeLocals Ls k (.double x) = some l') (go : Owe tb e below G T (mkF m (pc + 2) l' rest)) : Owe tb e below G T (mkF m pc Ls st) := Owe.by (fun t k => XS.dstore h hx rfl hd hs hl k) go
theorem Owe.dstoreN (h : At T m c below) (hx : tb.exec = Jvm.exec) {k : Fin 4} {x : UInt64} {rest : List Value} {l' : Array Slot} (hd : decode c.code pc = .ok (.dstore_n k, 1)) (hs : st = .double x :: rest) (hl : storeLocals Ls k.val (.double x) = some l') (go : Owe tb e below G T (mkF m (pc + 1) l' rest)) : Owe tb e below G T (mkF m pc Ls st) := Owe.by (fun t k => XS.dstoreN h hx rfl hd hs hl k) go
theorem Owe.dconst0 (h : At T m c below) (hx : tb.exec = Jvm.exec) {v : UInt64} (hd : decode c.code pc = .ok (.dconst 0, 1)) (hv : FP.dconst0 = v) (go : Owe tb e below G T (mkF m (pc + 1) Ls (.double v :: st))) : Owe tb e below G T (mkF m pc Ls st) := Owe.by (fun t k => XS.dconst0 h hx rfl hd hv k) go
theorem Owe.dconst1 (h : At T m c below) (hx : tb.exec = Jvm.exec) {v : UInt64} (hd : decode c.code pc = .ok (.dconst 1, 1)) (hv : FP.dconst1 = v) (go : Owe tb e below G T (mkF m (pc + 1) Ls (.double v :: st))) : Owe tb e below G T (mkF m pc Ls st) := Owe.by (fun t k => XS.dconst1 h hx rfl hd hv k) go
theorem Owe.i2dS (h : At T m c below) (hx : tb.exec = Jvm.exec) {x : Int32} {v : UInt64} {rest : List Value} (hd : decode c.code pc = .ok (.i2d, 1)) (hs : st = .int x :: rest) (hv : FP.i2d x = v) (go : Owe tb e below G T (mkF m (pc + 1) Ls (.double v :: rest))) : Owe tb e below G T (mkF m pc Ls st) := Owe.by (fun t k => XS.i2dS h hx rfl hd hs hv k) go
theorem Owe.l2dS (h : At T m c below) (hx : tb.exec = Jvm.exec) {x : Int64} {v : UInt64} {rest : List Value} (hd : decode c.code pc = .ok (.l2d, 1)) (hs : st = .long x :: rest) (hv : FP.l2d x = v) (go : Owe tb e below G T (mkF m (pc + 1) Ls (.double v :: rest))) : Owe tb e below G T (mkF m pc Ls st) := Owe.by (fun t k => XS.l2dS h hx rfl hd hs hv k) go
theorem Owe.dcmpS (h : At T m c below) (hx : tb.exec = Jvm.exec) {o : CmpOp} {x y : UInt64} {v : Int32} {rest : List Value} (hd : decode c.code pc = .ok (.dcmp o, 1)) (hs : st = .double y :: .double x :: rest) (hv : cmpValue (FP.dcmp x y) o = v) (go : Owe tb e below G T (mkF m (pc + 1) Ls (.int v :: rest))) : Owe tb e below G T (mkF m pc Ls st) := Owe.by (fun t k => XS.dcmpS h hx rfl hd hs hv k) go
end Plain
section Heavy
variable {p : Program} {l : Launch} {e : Env} {R : Room} {s : State} {m : MethodId} {args : Array Value} {below : List Frame} {meth : Method} {c : Code} {T : State} {locs : List Loc} {cells slots : Nat} {Z : State} {a0 : Array Value} {h : Heap} {G : Outcome → State → Prop} {pc : Nat} {Ls : Array Slot} {st : List Value}
theorem Owe.ldcI (X : Stand p l e R s m args below meth c T locs cells slots) (hx : p.tables.exec = Jvm.exec) {own : String} {index : Nat} {v : Int32} (hown : s.vm.findClass own = some m.cls) (w : (Cond.constant own index v).before args s = true) (hd : decode c.code pc = .ok (.ldc index, 2)) (go : Owe p.tables e below G T (mkF m (pc + 2) Ls (.int v :: st))) : Owe p.tables e below G T (mkF m pc Ls st) :=
  Owe.by (X.ldcInt hx hown w (g := mkF m pc Ls st) rfl hd) go
theorem Owe.new (X : Stand p l e R s m args below meth c T locs cells slots) (hx : p.tables.exec = Jvm.exec) (hZ : Z.Warmed39 s.vm) {own C : String} {index n : Nat} (hown : s.vm.findClass own = some m.cls) (w : (Cond.classLink own index C).before a0 Z = true) (wi : (Cond.instantiable C n).before a0 Z = true) (wz : (Cond.initialized C).before a0 Z = true) (eT : T.heap = h) (hd : decode c.code pc = .ok (.new index, 3)) (hc : cells + 1 ≤ R.cells) (hl : slots + n ≤ R.slots)
    (go : ∀ (T' : State) (h' : Heap) (a : Addr), a = h.size → Stand p l e R s m args below meth c T' locs (cells + 1) (slots + n) → T'.heap = h' → Ext h h' → Exa Z h' a C → (∀ {O nm d : String} {ty : FieldType}, Laid Z a0 C O nm d → parseFieldDescriptor d = some ty → Fld Z h' a O nm d (defaultValue ty)) → Owe p.tables e below G T' (mkF m (pc + 3) Ls (.ref a :: st))) : Owe p.tables e below G T (mkF m pc Ls st) := by
  obtain ⟨T', h', X', e', E', A', D', -, st'⟩ := newO X hx hZ hown w wi wz eT (g := mkF m pc Ls st) rfl hd hc hl
  exact Owe.by st' (go T' h' _ rfl X' e' E' A' D')
theorem Owe.newarr (X : Stand p l e R s m args below meth c T locs cells slots) (hx : p.tables.exec = Jvm.exec) (hZ : Z.Warmed39 s.vm) {aty : ArrayType} (w : (Cond.arrayClass (newarray.typeOf aty)).before a0 Z = true) (eT : T.heap = h) (hd : decode c.code pc = .ok (.newarray aty, 2)) {n : Int32} {rest : List Value} (hs : st = .int n :: rest) (hn : ¬ n < 0) {cap : Nat} (hcap : n.toNatClampNeg ≤ cap) (hb : cap * 8 ≤ 536870912) (hc : cells + 1 ≤ R.cells) (hl : slots + cap ≤ R.slots)
    (go : ∀ (T' : State) (h' : Heap) (a : Addr) (k : ClassId), a = h.size → Stand p l e R s m args below meth c T' locs (cells + 1) (slots + cap) → T'.heap = h' → Ext h h' → Arv Z h' a k (newarray.typeOf aty) n [] (defaultValue (newarray.typeOf aty)) → Owe p.tables e below G T' (mkF m (pc + 2) Ls (.ref a :: rest))) : Owe p.tables e below G T (mkF m pc Ls st) := by
  obtain ⟨T', h', k, X', e', E', A', st'⟩ := newP X hx hZ w eT (g := mkF m pc Ls st) rfl hd hs hn hcap hb hc hl
  exact Owe.by st' (go T' h' _ k rfl X' e' E' (Arv.new A' hn))
theorem Owe.castore (X : Stand p l e R s m args below meth c T locs cells slots) (hx : p.tables.exec = Jvm.exec) (hZ : Z.Warmed39 s.vm) (eT : T.heap = h) {a : Addr} {k : ClassId} {n : Int32} {vs : List Value} {dv : Value} (V : Arv Z h a k .char n vs dv) {j x : Int32} (i : Nat) (hj : j.toNatClampNeg = i) (hi : i < vs.length) (hin : ¬ j < 0 ∧ j < n) (hd : decode c.code pc = .ok (.castore, 1)) {rest : List Value} (hs : st = .int x :: .int j :: .ref a :: rest)
    (go : ∀ (T' : State) (h' : Heap), Stand p l e R s m args below meth c T' (locs ++ [⟨a, j.toNatClampNeg⟩]) cells slots → T'.heap = h' → Wr h h' a j.toNatClampNeg (.int (nar .char x)) → Arv Z h' a k .char n (vs.set i (.int (nar .char x))) dv → Owe p.tables e below G T' (mkF m (pc + 1) Ls rest)) : Owe p.tables e below G T (mkF m pc Ls st) := by
  obtain ⟨cl, A, q, S, M, H, U⟩ := V
  obtain ⟨T', h', X', e', W', st'⟩ := stC X hx hZ eT A (j := j) (inb_of S hin) (g := mkF m pc Ls st) rfl hs hd
  exact Owe.by st' (go T' h' X' e' W' (Arv.set A q S M H U (fits_nar_char _) W' i hj hi))
theorem Owe.bastore (X : Stand p l e R s m args below meth c T locs cells slots) (hx : p.tables.exec = Jvm.exec) (hZ : Z.Warmed39 s.vm) (eT : T.heap = h) {a : Addr} {k : ClassId} {n : Int32} {vs : List Value} {dv : Value} (V : Arv Z h a k .byte n vs dv) {j x : Int32} (i : Nat) (hj : j.toNatClampNeg = i) (hi : i < vs.length) (hin : ¬ j < 0 ∧ j < n) (hd : decode c.code pc = .ok (.bastore, 1)) {rest : List Value} (hs : st = .int x :: .int j :: .ref a :: rest)
    (go : ∀ (T' : State) (h' : Heap), Stand p l e R s m args below meth c T' (locs ++ [⟨a, j.toNatClampNeg⟩]) cells slots → T'.heap = h' → Wr h h' a j.toNatClampNeg (.int (x.toInt8.toInt32)) → Arv Z h' a k .byte n (vs.set i (.int (x.toInt8.toInt32))) dv → Owe p.tables e below G T' (mkF m (pc + 1) Ls rest)) : Owe p.tables e below G T (mkF m pc Ls st) := by
  obtain ⟨cl, A, q, S, M, H, U⟩ := V
  obtain ⟨T', h', X', e', W', st'⟩ := stB X hx hZ eT A (j := j) (inb_of S hin) (g := mkF m pc Ls st) rfl hs hd
  exact Owe.by st' (go T' h' X' e' W' (Arv.set A q S M H U (fits_nar_byte _) W' i hj hi))
theorem Owe.caload (X : Stand p l e R s m args below meth c T locs cells slots) (hx : p.tables.exec = Jvm.exec) (hZ : Z.Warmed39 s.vm) (eT : T.heap = h) {a : Addr} {k : ClassId} {n : Int32} {vs : List Value} {dv : Value} (V : Arv Z h a k .char n vs dv) {j : Int32} {v : Value} (hin : ¬ j < 0 ∧ j < n) (hv : vs.getD j.toNatClampNeg dv = v) (hd : decode c.code pc = .ok (.caload, 1)) {rest : List Value} (hs : st = .int j :: .ref a :: rest)
    (go : Owe p.tables e below G T (mkF m (pc + 1) Ls (v :: rest))) : Owe p.tables e below G T (mkF m pc Ls st) := by
  obtain ⟨cl, A, q, S, M, H, U⟩ := V
  exact Owe.by (fun t k => X.caload hx (by rw [eT]; exact A.1) (State.isArrayOf_alike hZ.alike A.2.1) A.2.2 (inb_of S hin) (H.at (inb_of S hin) hv) (g := mkF m pc Ls st) rfl hs hd t k) go
theorem Owe.arrlen (X : Stand p l e R s m args below meth c T locs cells slots) (hx : p.tables.exec = Jvm.exec) (hZ : Z.Warmed39 s.vm) (eT : T.heap = h) {a : Addr} {k : ClassId} {ty : FieldType} {n : Int32} {vs : List Value} {dv : Value} (V : Arv Z h a k ty n vs dv) (hd : decode c.code pc = .ok (.arraylength, 1)) {rest : List Value} (hs : st = .ref a :: rest)
    (go : Owe p.tables e below G T (mkF m (pc + 1) Ls (.int n :: rest))) : Owe p.tables e below G T (mkF m pc Ls st) := by
  obtain ⟨cl, A, q, S, M, H, U⟩ := V
  refine Owe.by (fun t k => X.arraylength hx (by rw [eT]; exact A.1) (State.isArrayOf_alike hZ.alike A.2.1) (g := mkF m pc Ls st) rfl hs hd t ?_) go
  rw [len_of S M]; exact k
theorem Owe.getf (X : Stand p l e R s m args below meth c T locs cells slots) (hx : p.tables.exec = Jvm.exec) (hZ : Z.Warmed39 s.vm) {own R0 O n d host : String} {index : Nat} (hown : s.vm.findClass own = some m.cls) (w : (Cond.fieldLink own index R0 n d).before a0 Z = true ∨ (Cond.fieldLinkNest own index R0 n d host).before a0 Z = true) (via : Via Z R0 O n d) (eT : T.heap = h) {a : Addr} {v : Value} (F : Fld Z h a O n d v) (hd : decode c.code pc = .ok (.getfield index, 3)) {rest : List Value} (hs : st = .ref a :: rest)
    (go : ∀ T' : State, Stand p l e R s m args below meth c T' locs cells slots → T'.heap = h → Owe p.tables e below G T' (mkF m (pc + 3) Ls (v :: rest))) : Owe p.tables e below G T (mkF m pc Ls st) := by
  obtain ⟨T', X', e', st'⟩ := getF X hx hZ hown w via eT F (g := mkF m pc Ls st) rfl hs hd
  exact Owe.by st' (go T' X' e')
theorem Owe.gets (X : Stand p l e R s m args below meth c T locs cells slots) (hx : p.tables.exec = Jvm.exec) (hZ : Z.Warmed39 s.vm) {own R0 O n d : String} {index : Nat} (hown : s.vm.findClass own = some m.cls) (w : (Cond.fieldLink own index R0 n d).before a0 Z = true) (via : Via Z R0 O n d) (eT : T.heap = h) {v : Value} (F : Sta Z h O n d v) (hd : decode c.code pc = .ok (.getstatic index, 3))
    (go : ∀ T' : State, Stand p l e R s m args below meth c T' locs cells slots → T'.heap = h → Owe p.tables e below G T' (mkF m (pc + 3) Ls (v :: st))) : Owe p.tables e below G T (mkF m pc Ls st) := by
  obtain ⟨T', X', e', st'⟩ := getS X hx hZ (host := "") hown w via eT F (g := mkF m pc Ls st) rfl hd
  exact Owe.by st' (go T' X' e')
theorem Owe.putf (X : Stand p l e R s m args below meth c T locs cells slots) (hx : p.tables.exec = Jvm.exec) (hZ : Z.Warmed39 s.vm) {own R0 O n d host C : String} {index kk : Nat} {ty : FieldType} (hown : s.vm.findClass own = some m.cls) (w : (Cond.fieldLink own index R0 n d).before a0 Z = true ∨ (Cond.fieldLinkNest own index R0 n d host).before a0 Z = true) (via : Via Z R0 O n d) (eT : T.heap = h) {a : Addr} {v old : Value} (F : Fld Z h a O n d old) (E : Exa Z h a C)
    (L : (Cond.lays C O n d).before a0 Z = true ∨ ((Cond.laysFinal C O n d).before a0 Z = true ∧ own = O ∧ meth.name = "<init>")) (wi : (Cond.instantiable C kk).before a0 Z = true) (hty : parseFieldDescriptor d = some ty) (hn : narrow ty v = v) (hf : fits ty v = true) (hd : decode c.code pc = .ok (.putfield index, 3)) {rest : List Value} (hs : st = v :: .ref a :: rest)
    (go : ∀ (T' : State) (h' : Heap), Stand p l e R s m args below meth c T' (locs ++ [⟨a, Jvm.RoadKit.slotOf Z O n d⟩]) cells slots → T'.heap = h' → Wr h h' a (Jvm.RoadKit.slotOf Z O n d) v → Owe p.tables e below G T' (mkF m (pc + 3) Ls rest)) : Owe p.tables e below G T (mkF m pc Ls st) := by
  obtain ⟨T', h', X', e', W', st'⟩ := putF X hx hZ hown w via eT F E L wi hty hn hf (g := mkF m pc Ls st) rfl hs hd
  exact Owe.by st' (go T' h' X' e' W')
theorem Owe.objinit (X : Stand p l e R s m args below meth c T locs cells slots) (hx : p.tables.exec = Jvm.exec) (hZ : Z.Warmed39 s.vm) {own : String} {idx : Nat} (hown : s.vm.findClass own = some m.cls) (w1 : (Cond.methodLink own idx Lib.objectInit).before a0 Z = true) (w2 : (Cond.instanceMethod Lib.objectInit).before a0 Z = true) (w3 : (Cond.code Lib.objectInit ⟨#[0xb1]⟩ 1 none).before a0 Z = true) (eT : T.heap = h) (hsize : Ls.size = c.maxLocals) {a : Addr} {rest : List Value} (hs : st = .ref a :: rest) (hd : decode c.code pc = .ok (.invokespecial idx, 3)) (hf : 1 ≤ R.frames) {W : Nat} (hW : (rest.map fun v => v.category).sum ≤ W) (hl : W + 12 ≤ R.locals)
    (go : ∀ T' : State, Stand p l e R s m args below meth c T' locs cells slots → T'.heap = h → Owe p.tables e below G T' (mkF m (pc + 3) Ls rest)) : Owe p.tables e below G T (mkF m pc Ls st) := by
  obtain ⟨T', X', e', st'⟩ := initO X hx hZ hown w1 w2 w3 eT (g := mkF m pc Ls st) rfl hsize hs hd hf (W := W) (by show 2 * 0 + _ ≤ W; omega) hl
  exact Owe.by st' (go T' X' e')
theorem Owe.castY (X : Stand p l e R s m args below meth c T locs cells slots) (hx : p.tables.exec = Jvm.exec) (hZ : Z.Warmed39 s.vm) {own K : String} {index : Nat} (hown : s.vm.findClass own = some m.cls) (w : (Cond.classLink own index K).before a0 Z = true) (eT : T.heap = h) {a : Addr} (F : Ins Z h a K true) (hd : decode c.code pc = .ok (.checkcast index, 3)) {rest : List Value} (hs : st = .ref a :: rest)
    (go : ∀ T' : State, Stand p l e R s m args below meth c T' locs cells slots → T'.heap = h → Owe p.tables e below G T' (mkF m (pc + 3) Ls st)) : Owe p.tables e below G T (mkF m pc Ls st) := by
  obtain ⟨T', X', e', st'⟩ := Jvm.RoadKit.castY X hx hZ hown w eT F (g := mkF m pc Ls st) rfl hs hd
  exact Owe.by st' (go T' X' e')
theorem Owe.instY (X : Stand p l e R s m args below meth c T locs cells slots) (hx : p.tables.exec = Jvm.exec) (hZ : Z.Warmed39 s.vm) {own K : String} {index : Nat} (hown : s.vm.findClass own = some m.cls) (w : (Cond.classLink own index K).before a0 Z = true) (eT : T.heap = h) {a : Addr} (F : Ins Z h a K true) (hd : decode c.code pc = .ok (.instanceof index, 3)) {rest : List Value} (hs : st = .ref a :: rest)
    (go : ∀ T' : State, Stand p l e R s m args below meth c T' locs cells slots → T'.heap = h → Owe p.tables e below G T' (mkF m (pc + 3) Ls (.int 1 :: rest))) : Owe p.tables e below G T (mkF m pc Ls st) := by
  obtain ⟨T', X', e', st'⟩ := Jvm.RoadKit.instY X hx hZ hown w eT F (g := mkF m pc Ls st) rfl hs hd
  exact Owe.by st' (go T' X' e')
theorem Owe.instNo (X : Stand p l e R s m args below meth c T locs cells slots) (hx : p.tables.exec = Jvm.exec) (hZ : Z.Warmed39 s.vm) {own K C : String} {index : Nat} (hown : s.vm.findClass own = some m.cls) (w : (Cond.classLink own index K).before a0 Z = true) (eT : T.heap = h) {a : Addr} (E : Exa Z h a C) (F : ∃ c t, Z.vm.findClass C = some c ∧ Z.vm.findClass K = some t ∧ Z.vm.assignable c t = false) (hd : decode c.code pc = .ok (.instanceof index, 3)) {rest : List Value} (hs : st = .ref a :: rest)
    (go : ∀ T' : State, Stand p l e R s m args below meth c T' locs cells slots → T'.heap = h → Owe p.tables e below G T' (mkF m (pc + 3) Ls (.int 0 :: rest))) : Owe p.tables e below G T (mkF m pc Ls st) := by
  obtain ⟨T', X', e', st'⟩ := Jvm.RoadKit.instNo X hx hZ hown w eT E F (g := mkF m pc Ls st) rfl hs hd
  exact Owe.by st' (go T' X' e')
theorem Owe.instNull (X : Stand p l e R s m args below meth c T locs cells slots) (hx : p.tables.exec = Jvm.exec) {index : Nat} (hd : decode c.code pc = .ok (.instanceof index, 3)) {rest : List Value} (hs : st = .null :: rest) (go : Owe p.tables e below G T (mkF m (pc + 3) Ls (.int 0 :: rest))) : Owe p.tables e below G T (mkF m pc Ls st) :=
  Owe.by (Jvm.Stand.instanceofNull X hx (g := mkF m pc Ls st) rfl hs hd) go
theorem Owe.aaload (X : Stand p l e R s m args below meth c T locs cells slots) (hx : p.tables.exec = Jvm.exec) (hZ : Z.Warmed39 s.vm) (eT : T.heap = h) {a : Addr} {cl : Cell} {ty : FieldType} (A : Jvm.RoadKit.Arr Z h a cl ty) (hty : ty.isReference = true) {j : Int32} {v : Value} (hin : ¬ (j < 0 ∨ cl.slots.size ≤ j.toNatClampNeg)) (hv : cl.slots[j.toNatClampNeg]? = some v) (hd : decode c.code pc = .ok (.aaload, 1)) {rest : List Value} (hs : st = .int j :: .ref a :: rest)
    (go : Owe p.tables e below G T (mkF m (pc + 1) Ls (v :: rest))) : Owe p.tables e below G T (mkF m pc Ls st) :=
  Owe.by (fun t k => X.aaload hx (by rw [eT]; exact A.1) (State.isArrayOf_alike hZ.alike A.2.1) hty A.2.2 hin hv (g := mkF m pc Ls st) rfl hs hd t k) go
theorem Owe.aaloadV (X : Stand p l e R s m args below meth c T locs cells slots) (hx : p.tables.exec = Jvm.exec) (hZ : Z.Warmed39 s.vm) (eT : T.heap = h) {a : Addr} {k : ClassId} {ty : FieldType} {n : Int32} {vs : List Value} {dv : Value} (V : Arv Z h a k ty n vs dv) (hty : ty.isReference = true) {j : Int32} {v : Value} (hin : ¬ j < 0 ∧ j < n) (hv : vs.getD j.toNatClampNeg dv = v) (hd : decode c.code pc = .ok (.aaload, 1)) {rest : List Value} (hs : st = .int j :: .ref a :: rest)
    (go : Owe p.tables e below G T (mkF m (pc + 1) Ls (v :: rest))) : Owe p.tables e below G T (mkF m pc Ls st) := by
  obtain ⟨cl, A, q, S, M, H, U⟩ := V
  exact Owe.aaload X hx hZ eT A hty (inb_of S hin) (H.at (inb_of S hin) hv) hd hs go
theorem Owe.ldc2L (X : Stand p l e R s m args below meth c T locs cells slots) (hx : p.tables.exec = Jvm.exec) {own : String} {index : Nat} {v : Int64} (hown : s.vm.findClass own = some m.cls) (w : (Cond.constantLong own index v).before args s = true) (hd : decode c.code pc = .ok (.ldc2_w index, 3)) (go : Owe p.tables e below G T (mkF m (pc + 3) Ls (.long v :: st))) : Owe p.tables e below G T (mkF m pc Ls st) :=
  Owe.by (X.ldc2Long hx hown w (g := mkF m pc Ls st) rfl hd) go
theorem Owe.clone (X : Stand p l e R s m args below meth c T locs cells slots) (hx : p.tables.exec = Jvm.exec) (hZ : Z.Warmed39 s.vm) {own ad : String} {index : Nat} (hown : s.vm.findClass own = some m.cls) (w1 : (Cond.methodLink own index ⟨ad, "clone", "()Ljava/lang/Object;"⟩).before a0 Z = true) (w2 : (Cond.sameMethod ad "java/lang/Object" "clone" "()Ljava/lang/Object;").before a0 Z = true) (w3 : (Cond.native ⟨"java/lang/Object", "clone", "()Ljava/lang/Object;"⟩).before a0 Z = true)
    (w4 : (Cond.instanceMethod ⟨"java/lang/Object", "clone", "()Ljava/lang/Object;"⟩).before a0 Z = true) (w5 : (Cond.selects ad ⟨ad, "clone", "()Ljava/lang/Object;"⟩ ⟨"java/lang/Object", "clone", "()Ljava/lang/Object;"⟩).before a0 Z = true) (w6 : (Cond.castable ad "java/lang/Cloneable").before a0 Z = true)
    (eT : T.heap = h) {a : Addr} {k : ClassId} {ty : FieldType} {n : Int32} {vs : List Value} {dv : Value} (V : Arv Z h a k ty n vs dv) (E : Exa Z h a ad) (hsize : Ls.size = c.maxLocals) {rest : List Value} (hs : st = .ref a :: rest) (hd : decode c.code pc = .ok (.invokevirtual index, 3))
    (hf : 1 ≤ R.frames) {W cap : Nat} (hW : (rest.map fun v => v.category).sum ≤ W) (hl : W + 14 ≤ R.locals) (hcap : n.toNatClampNeg ≤ cap) (hc : cells + 1 ≤ R.cells) (hsl : slots + cap ≤ R.slots)
    (go : ∀ (T' : State) (h' : Heap) (b : Addr), b = h.size → Stand p l e R s m args below meth c T' locs (cells + 1) (slots + cap) → T'.heap = h' → Ext h h' → Arv Z h' b k ty n vs dv → Exa Z h' b ad → Owe p.tables e below G T' (mkF m (pc + 3) Ls (.ref b :: rest))) : Owe p.tables e below G T (mkF m pc Ls st) := by
  obtain ⟨T', h', X', e', E', A', B', st'⟩ := cloneH X hx hZ hown w1 w2 w3 w4 w5 w6 eT V.arh E (g := mkF m pc Ls st) rfl hsize hs hd hf (W := W) (by show 2 * 0 + _ ≤ W; omega) hl hcap hc hsl
  exact Owe.by st' (go T' h' _ rfl X' e' E' A' B')
/-! calls by a contract in the Back form of 'backOf' and of the pasted String laws -/
variable {y z : MethodName} {as' : Array Value} {Q : Option Value → Heap → List Loc → Prop} {W kc ks : Nat}
theorem Owe.special (X : Stand p l e R s m args below meth c T locs cells slots) (hx : p.tables.exec = Jvm.exec) {own : String} {index : Nat} (hy1 : y.name = "<init>") (hown : s.vm.findClass own = some m.cls) (hlink : (Cond.methodLink own index y).before args s = true) (hinst : (Cond.instanceMethod y).before args s = true) {bytes : ByteArray} {maxL : Nat} (hcode : (Cond.code y bytes maxL none).before args s = true) (hy : y.cls ≠ "java/lang/invoke/MethodHandle" ∧ y.cls ≠ "java/lang/invoke/VarHandle")
    (hK : Back l R p e below s args y 3 W (fun A a => a = as' ∧ A.U.heap = h ∧ A.cells + kc ≤ R.cells ∧ A.slots + ks ≤ R.slots) (fun A _ v B => ∃ L, Q v B.U.heap L ∧ B.locs = A.locs ++ L ∧ B.cells = A.cells + kc ∧ B.slots = A.slots + ks))
    (hsize : Ls.size = c.maxLocals) {a : Addr} {argsL rest : List Value} (hlen : ∀ sig, parseMethodDescriptor y.desc = some sig → argsL.length = sig.parameters.length) (hs : st = argsL.reverse ++ .ref a :: rest) (hW : (rest.map fun v => v.category).sum ≤ W) (hd : decode c.code pc = .ok (.invokespecial index, 3))
    (has : (.ref a :: argsL).toArray = as') (eT : T.heap = h) (hc : cells + kc ≤ R.cells) (hl : slots + ks ≤ R.slots)
    (go : ∀ (T' : State) (v : Option Value) (L : List Loc), Stand p l e R s m args below meth c T' (locs ++ L) (cells + kc) (slots + ks) → Q v T'.heap L → Owe p.tables e below G T' (mkF m (pc + 3) Ls (v.toList ++ rest))) : Owe p.tables e below G T (mkF m pc Ls st) := by
  obtain ⟨v, _, ⟨T', L', k', n'⟩, -, X', ⟨L, hQ, l', y', z'⟩, st'⟩ := X.specialBack hx hy1 hown hlink hinst hcode hy hK (g := mkF m pc Ls st) rfl hsize (Steps.refl _) hlen hs (by show 2 * 0 + _ ≤ W; omega) hd (fun _ _ => ⟨has, eT, hc, hl⟩)
  dsimp only [Pt.U, Pt.locs, Pt.cells, Pt.slots] at X' l' y' z' st' hQ
  subst l' y' z'
  exact Owe.by (fun t k => st'.trans k) (go T' v L X' hQ)
theorem Owe.specialRef (X : Stand p l e R s m args below meth c T locs cells slots) (hx : p.tables.exec = Jvm.exec) (hZ : Z.Warmed39 s.vm) {own : String} {index : Nat} (hy1 : y.name = "<init>") (hown : s.vm.findClass own = some m.cls) (href : (Cond.methodRef own index y).before a0 Z = true) (hinst : (Cond.instanceMethod y).before a0 Z = true) {bytes : ByteArray} {maxL : Nat} (hcode : (Cond.code y bytes maxL none).before a0 Z = true) (hy : y.cls ≠ "java/lang/invoke/MethodHandle" ∧ y.cls ≠ "java/lang/invoke/VarHandle")
    (hK : Back l R p e below s args y 3 W (fun A a => a = as' ∧ A.U.heap = h ∧ A.cells + kc ≤ R.cells ∧ A.slots + ks ≤ R.slots) (fun A _ v B => ∃ L, Q v B.U.heap L ∧ B.locs = A.locs ++ L ∧ B.cells = A.cells + kc ∧ B.slots = A.slots + ks))
    (hsize : Ls.size = c.maxLocals) {a : Addr} {argsL rest : List Value} (hlen : ∀ sig, parseMethodDescriptor y.desc = some sig → argsL.length = sig.parameters.length) (hs : st = argsL.reverse ++ .ref a :: rest) (hW : (rest.map fun v => v.category).sum ≤ W) (hd : decode c.code pc = .ok (.invokespecial index, 3))
    (has : (.ref a :: argsL).toArray = as') (eT : T.heap = h) (hc : cells + kc ≤ R.cells) (hl : slots + ks ≤ R.slots)
    (go : ∀ (T' : State) (v : Option Value) (L : List Loc), Stand p l e R s m args below meth c T' (locs ++ L) (cells + kc) (slots + ks) → Q v T'.heap L → Owe p.tables e below G T' (mkF m (pc + 3) Ls (v.toList ++ rest))) : Owe p.tables e below G T (mkF m pc Ls st) := by
  have hU : Z.Warmed39 T.vm := wtrans hZ X.warmed
  obtain ⟨obj, methO, hnO, hmO, hstO, habO⟩ := Cond.instanceMethod_spec hinst
  obtain ⟨methO', cO, hmO', hcO, hbO, hlO, -, hlockO, -, hsigO⟩ := Cond.code_spec hnO hcode
  cases hmO.symm.trans hmO'
  obtain ⟨kO, hkO, hnameO⟩ := className_of_methodNamed hnO
  obtain ⟨hnameMO, hdescO⟩ := name_of_methodNamed hnO hmO
  have href' := Cond.methodRef_warmed39 (vm' := T.vm) hU hnO hy href
  have hownT : (Z.setVm T.vm).vm.findClass own = some m.cls := by show T.vm.findClass own = _; rw [X.warmed.alike.findClass]; exact hown
  have hnT : (Z.setVm T.vm).methodNamed? y = some obj := by rw [State.methodNamed?_setVm hU.alike]; exact hnO
  obtain ⟨m', c', hf, hready, hfind, hnr⟩ := Cond.methodRef_named e hownT href'
  have hfo := State.methodFound?_of_named hnT hy
  cases hfo.symm.trans hf
  cases (findClass_of_methodNamed hnT).symm.trans hfind
  obtain ⟨kO₂, hkO₂, heO₂⟩ := hU.alike.2.2 _ _ hkO
  have hmO₂ : T.vm.method? obj = some methO := by rw [hU.alike.method?]; exact hmO
  have hfound : lookupSpecial T.vm obj.cls "<init>" methO.desc = .method obj := by
    rw [hU.alike.lookupSpecial, hdescO, ← hy1]; exact lookupSpecial_of_named hnO hmO hstO
  obtain ⟨v, ⟨T', L', k', n'⟩, X', ⟨L, hQ, l', y', z'⟩, st'⟩ := hK m meth c ⟨T, locs, cells, slots⟩ (mkF m pc Ls rest) (.invokespecial index) obj (.ref a :: argsL).toArray X rfl hsize hd (by show 2 * 0 + (rest.map fun v => v.category).sum ≤ W; omega) hnT ⟨has, eT, hc, hl⟩
  dsimp only [Pt.U, Pt.locs, Pt.cells, Pt.slots] at X' l' y' z' st' hQ
  subst l' y' z'
  refine Owe.by (fun t k => ?_) (go T' v L X' hQ)
  have hstep : ∀ target, (∀ acts, Steps p.tables e below (doInvoke e (T.setTop (mkF m pc Ls rest)) acts obj (.ref a :: argsL).toArray).1 target) → Steps p.tables e below (T.setTop (mkF m pc Ls st)) target := fun target hrest => by
    jvm_step X.here [hx, hd, invokespecial.wp_init (e := e) (s := T) (k := kO₂) (meth := methO) (m := obj) (a := a) (args := argsL) (rest := rest) (f := mkF m pc Ls st)
      X.here.top hnr hready hkO₂ hmO₂ (by rw [hnameMO]; exact hy1) hstO habO hfound (hlen _ hsigO) hs]
    exact hrest
  exact hstep _ fun acts => by rw [doInvoke_state]; exact st'.trans k
theorem Owe.virt (X : Stand p l e R s m args below meth c T locs cells slots) (hx : p.tables.exec = Jvm.exec) (hZ : Z.Warmed39 s.vm) {own C : String} {index : Nat} (hown : s.vm.findClass own = some m.cls) (hlink : (Cond.methodLink own index y).before args s = true) (hdecl : (Cond.declares y).before args s = true) (hsel : (Cond.selects C y z).before args s = true) (hinst : (Cond.instanceMethod z).before args s = true) (hnf : NotFace s y) (hy : y.cls ≠ "java/lang/invoke/MethodHandle" ∧ y.cls ≠ "java/lang/invoke/VarHandle")
    (hK : Back l R p e below s args z 3 W (fun A a => a = as' ∧ A.U.heap = h ∧ A.cells + kc ≤ R.cells ∧ A.slots + ks ≤ R.slots) (fun A _ v B => ∃ L, Q v B.U.heap L ∧ B.locs = A.locs ++ L ∧ B.cells = A.cells + kc ∧ B.slots = A.slots + ks))
    (hsize : Ls.size = c.maxLocals) {a : Addr} {argsL rest : List Value} (E : Exa Z h a C) (hlen : ∀ sig, parseMethodDescriptor y.desc = some sig → argsL.length = sig.parameters.length) (hs : st = argsL.reverse ++ .ref a :: rest) (hW : (rest.map fun v => v.category).sum ≤ W) (hd : decode c.code pc = .ok (.invokevirtual index, 3))
    (has : (.ref a :: argsL).toArray = as') (eT : T.heap = h) (hc : cells + kc ≤ R.cells) (hl : slots + ks ≤ R.slots)
    (go : ∀ (T' : State) (v : Option Value) (L : List Loc), Stand p l e R s m args below meth c T' (locs ++ L) (cells + kc) (slots + ks) → Q v T'.heap L → Owe p.tables e below G T' (mkF m (pc + 3) Ls (v.toList ++ rest))) : Owe p.tables e below G T (mkF m pc Ls st) := by
  obtain ⟨cq, kq, qa, qb, qc⟩ := isOf hZ eT E
  obtain ⟨v, _, ⟨T', L', k', n'⟩, -, X', ⟨L, hQ, l', y', z'⟩, st'⟩ := X.virtualBack hx hown hlink hdecl hnf hsel hinst hy hK qa qc (g := mkF m pc Ls st) rfl hsize (Steps.refl _) hlen hs (by show 2 * 0 + _ ≤ W; omega) hd (fun _ _ => ⟨has, eT, hc, hl⟩)
  dsimp only [Pt.U, Pt.locs, Pt.cells, Pt.slots] at X' l' y' z' st' hQ
  subst l' y' z'
  exact Owe.by (fun t k => st'.trans k) (go T' v L X' hQ)
theorem Owe.virtUp (X : Stand p l e R s m args below meth c T locs cells slots) (hx : p.tables.exec = Jvm.exec) (hZ : Z.Warmed39 s.vm) {own C owner : String} {index : Nat} (hown : s.vm.findClass own = some m.cls) (hlink : (Cond.methodLink own index y).before args s = true) (hsame : (Cond.sameMethod y.cls owner y.name y.desc).before args s = true) (hdecl : (Cond.declares ⟨owner, y.name, y.desc⟩).before args s = true) (howner : owner ≠ "java/lang/invoke/MethodHandle" ∧ owner ≠ "java/lang/invoke/VarHandle") (hsel : (Cond.selects C y z).before args s = true) (hinst : (Cond.instanceMethod z).before args s = true)
    (hK : Back l R p e below s args z 3 W (fun A a => a = as' ∧ A.U.heap = h ∧ A.cells + kc ≤ R.cells ∧ A.slots + ks ≤ R.slots) (fun A _ v B => ∃ L, Q v B.U.heap L ∧ B.locs = A.locs ++ L ∧ B.cells = A.cells + kc ∧ B.slots = A.slots + ks))
    (hsize : Ls.size = c.maxLocals) {a : Addr} {argsL rest : List Value} (E : Exa Z h a C) (hlen : ∀ sig, parseMethodDescriptor y.desc = some sig → argsL.length = sig.parameters.length) (hs : st = argsL.reverse ++ .ref a :: rest) (hW : (rest.map fun v => v.category).sum ≤ W) (hd : decode c.code pc = .ok (.invokevirtual index, 3))
    (has : (.ref a :: argsL).toArray = as') (eT : T.heap = h) (hc : cells + kc ≤ R.cells) (hl : slots + ks ≤ R.slots)
    (go : ∀ (T' : State) (v : Option Value) (L : List Loc), Stand p l e R s m args below meth c T' (locs ++ L) (cells + kc) (slots + ks) → Q v T'.heap L → Owe p.tables e below G T' (mkF m (pc + 3) Ls (v.toList ++ rest))) : Owe p.tables e below G T (mkF m pc Ls st) := by
  obtain ⟨cq, kq, qa, qb, qc⟩ := isOf hZ eT E
  obtain ⟨v, _, ⟨T', L', k', n'⟩, -, X', ⟨L, hQ, l', y', z'⟩, st'⟩ := X.virtualBackUp hx hown hlink hsame hdecl howner hsel hinst hK qa qc (g := mkF m pc Ls st) rfl hsize (Steps.refl _) hlen hs (by show 2 * 0 + _ ≤ W; omega) hd (fun _ _ => ⟨has, eT, hc, hl⟩)
  dsimp only [Pt.U, Pt.locs, Pt.cells, Pt.slots] at X' l' y' z' st' hQ
  subst l' y' z'
  exact Owe.by (fun t k => st'.trans k) (go T' v L X' hQ)
theorem Owe.stat (X : Stand p l e R s m args below meth c T locs cells slots) (hx : p.tables.exec = Jvm.exec) {own : String} {index : Nat} {bytes : ByteArray} {maxL : Nat} {ret : Option FieldType} (hown : s.vm.findClass own = some m.cls) (hlink : (Cond.methodLink own index y).before args s = true) (hstat : (Cond.static y).before args s = true) (hinit : (Cond.initialized y.cls).before args s = true) (hcode : (Cond.code y bytes maxL ret).before args s = true) (hy : y.cls ≠ "java/lang/invoke/MethodHandle" ∧ y.cls ≠ "java/lang/invoke/VarHandle")
    (hK : Back l R p e below s args y 3 W (fun A a => a = as' ∧ A.U.heap = h ∧ A.cells + kc ≤ R.cells ∧ A.slots + ks ≤ R.slots) (fun A _ v B => ∃ L, Q v B.U.heap L ∧ B.locs = A.locs ++ L ∧ B.cells = A.cells + kc ∧ B.slots = A.slots + ks))
    (hsize : Ls.size = c.maxLocals) {argsL rest : List Value} (hlen : ∀ sig, parseMethodDescriptor y.desc = some sig → argsL.length = sig.parameters.length) (hs : st = argsL.reverse ++ rest) (hW : (rest.map fun v => v.category).sum ≤ W) (hd : decode c.code pc = .ok (.invokestatic index, 3))
    (has : argsL.toArray = as') (eT : T.heap = h) (hc : cells + kc ≤ R.cells) (hl : slots + ks ≤ R.slots)
    (go : ∀ (T' : State) (v : Option Value) (L : List Loc), Stand p l e R s m args below meth c T' (locs ++ L) (cells + kc) (slots + ks) → Q v T'.heap L → Owe p.tables e below G T' (mkF m (pc + 3) Ls (v.toList ++ rest))) : Owe p.tables e below G T (mkF m pc Ls st) := by
  obtain ⟨v, _, ⟨T', L', k', n'⟩, -, X', ⟨L, hQ, l', y', z'⟩, st'⟩ := Jvm.LawKit.callS X hx hown hlink hstat hinit hcode hy hK (g := mkF m pc Ls st) rfl hsize hlen hs (by show 2 * 0 + _ ≤ W; omega) hd (fun _ _ => ⟨has, eT, hc, hl⟩)
  dsimp only [Pt.U, Pt.locs, Pt.cells, Pt.slots] at X' l' y' z' st' hQ
  subst l' y' z'
  exact Owe.by st' (go T' v L X' hQ)
/-! the end: it returns -/
theorem Owe.retN (X : Stand p l e R s m args below meth c T locs cells slots) (hx : p.tables.exec = Jvm.exec) (hlk : meth.locks = false) {z : Int32} {t : FieldType} {rest : List Value} (hret : meth.sig.returnType = some t) (ht : t = .boolean ∨ t = .byte ∨ t = .char ∨ t = .short) (hd : decode c.code pc = .ok (.ireturn, 1)) (hs : st = .int z :: rest)
    (go : ∀ fs : List Frame, FrameEnd s (.returned (some (.int (nar t z)))) (T.setFrames fs) locs cells slots → G (.returned (some (.int (nar t z)))) (T.setFrames fs)) : Owe p.tables e below G T (mkF m pc Ls st) := by
  subst hs
  obtain ⟨fs, hr, hrun, hended, hW, hsame⟩ := X.leave (v := some (.int (nar t z))) (fun h => by rw [hret] at h; cases h) hlk
  exact ⟨_, _, Jvm.RoadKit.retN X hx hret ht hd hr, hrun, hended, go fs ⟨⟨_, rfl⟩, hW, hsame⟩⟩
theorem Owe.retI (X : Stand p l e R s m args below meth c T locs cells slots) (hx : p.tables.exec = Jvm.exec) (hlk : meth.locks = false) {z : Int32} {rest : List Value} (hret : meth.sig.returnType = some .int) (hd : decode c.code pc = .ok (.ireturn, 1)) (hs : st = .int z :: rest)
    (go : ∀ fs : List Frame, FrameEnd s (.returned (some (.int z))) (T.setFrames fs) locs cells slots → G (.returned (some (.int z))) (T.setFrames fs)) : Owe p.tables e below G T (mkF m pc Ls st) := by
  subst hs
  obtain ⟨fs, hr, hrun, hended, hW, hsame⟩ := X.leave (v := some (.int z)) (fun h => by rw [hret] at h; cases h) hlk
  have hm' : T.vm.method? m = some meth := X.method'
  have hn : narrow .int (.int z) = .int z := rfl
  refine ⟨_, _, ?_, hrun, hended, go fs ⟨⟨_, rfl⟩, hW, hsame⟩⟩
  show Steps p.tables e below (T.setTop { method := m, pc := pc, locals := Ls, stack := _ :: rest, locked := none }) _
  jvm_step X.here [X.here.top, hx, hd, hm', hret, hn]
  first | (intro acts; rw [hr _ acts rfl rfl rfl]) | rw [hr _ _ rfl rfl rfl]
  exact Steps.refl _
theorem Owe.retR (X : Stand p l e R s m args below meth c T locs cells slots) (hx : p.tables.exec = Jvm.exec) (hlk : meth.locks = false) {w : Value} {t : FieldType} {rest : List Value} (hret : meth.sig.returnType = some t) (hn : narrow t w = w) (ht : t.isReference = true) (hw : w.isRef = true) (hd : decode c.code pc = .ok (.areturn, 1)) (hs : st = w :: rest)
    (go : ∀ fs : List Frame, FrameEnd s (.returned (some w)) (T.setFrames fs) locs cells slots → G (.returned (some w)) (T.setFrames fs)) : Owe p.tables e below G T (mkF m pc Ls st) := by
  subst hs
  obtain ⟨fs, hr, hrun, hended, hW, hsame⟩ := X.leave (v := some w) (fun h => by rw [hret] at h; cases h) hlk
  have hm' : T.vm.method? m = some meth := X.method'
  refine ⟨_, _, ?_, hrun, hended, go fs ⟨⟨_, rfl⟩, hW, hsame⟩⟩
  show Steps p.tables e below (T.setTop { method := m, pc := pc, locals := Ls, stack := _ :: rest, locked := none }) _
  jvm_step X.here [X.here.top, hx, hd, hm', hret, hn, hw]
  try (refine ⟨ht, ?_⟩)
  first | (intro acts; rw [hr _ acts rfl rfl rfl]) | rw [hr _ _ rfl rfl rfl]
  exact Steps.refl _
theorem Owe.ret0 (X : Stand p l e R s m args below meth c T locs cells slots) (hx : p.tables.exec = Jvm.exec) (hlk : meth.locks = false) (hret : meth.sig.returnType = none) (hd : decode c.code pc = .ok (.return_, 1)) (hs : st = [])
    (go : ∀ fs : List Frame, FrameEnd s (.returned none) (T.setFrames fs) locs cells slots → G (.returned none) (T.setFrames fs)) : Owe p.tables e below G T (mkF m pc Ls st) := by
  subst hs
  obtain ⟨fs, hr, hrun, hended, hW, hsame⟩ := X.leave (v := none) (fun _ => rfl) hlk
  exact ⟨_, _, X.returnOut hx hret hd hr, hrun, hended, go fs ⟨⟨_, rfl⟩, hW, hsame⟩⟩
end Heavy
theorem frameMono {s t : State} {o : Outcome} {L : List Loc} {k n k' n' : Nat} (h : FrameEnd s o t L k n) (hk : k ≤ k') (hn : n ≤ n') : FrameEnd s o t L k' n' := ⟨h.1, h.2.1, h.2.2.mono hk hn⟩
end Own
end Jvm.Pilot.@@N@@
namespace Jvm.Pilot.@@N@@
namespace Own
open Jvm Jvm.ClassFile Sem Op Lib Jvm.Free Jvm.Stand Jvm.LawKit Jvm.RoadKit
/-! WALKS THAT MAY LOAD A STRING CONSTANT COLD: the Stand is over 's.setVm vm0', 'hS' says what has come since the true start s -/
section Cold
variable {p : Program} {l : Launch} {e : Env} {R : Room} {s : State} {m : MethodId} {args : Array Value} {below : List Frame} {meth : Method} {c : Code} {T : State} {locs : List Loc} {cells slots : Nat} {Z : State} {a0 : Array Value} {h : Heap} {G : Outcome → State → Prop} {pc : Nat} {Ls : Array Slot} {st : List Value} {vm0 : Vm} {k0 : Nat} {EL : List (String × Nat)}
theorem coldMono {s t : State} {o : Outcome} {L : List Loc} {k n k' n' : Nat} (h : ReturnedEndW s o t L k n) (hk : k ≤ k') (hn : n ≤ n') : ReturnedEndW s o t L k' n' := ⟨h.1, h.2.1, h.2.2.1, h.2.2.2.mono hk hn⟩
theorem Owe.ldcO (X : Stand p l e R (s.setVm vm0) m args below meth c T locs cells slots) (hx : p.tables.exec = Jvm.exec) (hZ : Z.Warmed39 (s.setVm vm0).vm) (hS : s.Since vm0 k0) (hEL : EW Z a0 EL) (H : CHv Z EL vm0 h) {own text : String} {index : Nat} (hown : (s.setVm vm0).vm.findClass own = some m.cls) (w : (Cond.stringLink own index text).before a0 Z = true) (wS : ∀ a ∈ Bundle.stringAtoms, a.before a0 Z = true) (eT : T.heap = h) (hk : k0 ≤ h.size) (hd : decode c.code pc = .ok (.ldc index, 2)) {n : Nat} (hn : 4 * text.toList.length ≤ n) (hbig : n ≤ 536870912) (hc : cells + 2 ≤ R.cells) (hl : slots + (n + 4) ≤ R.slots)
    (go : ∀ (a : Addr) (T' : State) (h' : Heap) (k1 : Nat), Stand p l e R (s.setVm T'.vm) m args below meth c T' locs (cells + 2) (slots + (n + 4)) → T'.heap = h' → Ext h h' → s.Since T'.vm k1 → k1 ≤ h'.size → Z.Warmed39 (s.setVm T'.vm).vm → (s.setVm T'.vm).vm.findClass own = some m.cls → CHr Z EL vm0 h T'.vm h' → Lit (s.setVm T'.vm) own index a → Owe p.tables e below G T' (mkF m (pc + 2) Ls (.ref a :: st))) : Owe p.tables e below G T (mkF m pc Ls st) := by
  obtain ⟨a, T', h', k1, X', e', E', hS', hk', hZ', hown', hC', L', st'⟩ := ldcOH X hx hZ hown w wS eT hS hk hEL H (g := mkF m pc Ls st) rfl hd hn hbig hc hl
  exact Owe.by st' (go a T' h' k1 X' e' E' hS' hk' hZ' hown' hC' L')
theorem Owe.ldcV (X : Stand p l e R (s.setVm vm0) m args below meth c T locs cells slots) (hx : p.tables.exec = Jvm.exec) (hZ : Z.Warmed39 (s.setVm vm0).vm) (hS : s.Since vm0 k0) (hEL : EW Z a0 EL) (H : CHv Z EL vm0 h) {own text : String} {index : Nat} (hmem : (own, index) ∈ EL) (hown : (s.setVm vm0).vm.findClass own = some m.cls) (w : (Cond.stringLink own index text).before a0 Z = true) (wS : ∀ a ∈ Bundle.stringAtoms, a.before a0 Z = true) (eT : T.heap = h) (hk : k0 ≤ h.size)
    {vs : List Value} {z : Int32} (ht : (∀ c ∈ text.toList, c.toNat < 256) ∧ text.toList.map (fun c => Value.int (Jvm.Lit.byteI c.toNat.toUInt16)) = vs) (hz : ¬ z < 0) (hlv : z.toNatClampNeg = vs.length) (hd : decode c.code pc = .ok (.ldc index, 2)) {n : Nat} (hn : 4 * text.toList.length ≤ n) (hbig : n ≤ 536870912) (hc : cells + 2 ≤ R.cells) (hl : slots + (n + 4) ≤ R.slots)
    (go : ∀ (a : Addr) (T' : State) (h' : Heap) (k1 : Nat) (b : Addr) (k : ClassId), Stand p l e R (s.setVm T'.vm) m args below meth c T' locs (cells + 2) (slots + (n + 4)) → T'.heap = h' → Ext h h' → s.Since T'.vm k1 → k1 ≤ h'.size → Z.Warmed39 (s.setVm T'.vm).vm → (s.setVm T'.vm).vm.findClass own = some m.cls →
      Exa Z h' a "java/lang/String" → Fld Z h' a "java/lang/String" "coder" "B" (.int 0) → Fld Z h' a "java/lang/String" "value" "[B" (.ref b) → Arv Z h' b k .byte z vs (.int 0) → CHr Z EL vm0 h T'.vm h' → Lit (s.setVm T'.vm) own index a → (∀ x, Safe Z EL T'.vm h' x → x ≠ a ∧ x ≠ b) → Owe p.tables e below G T' (mkF m (pc + 2) Ls (.ref a :: st))) : Owe p.tables e below G T (mkF m pc Ls st) := by
  obtain ⟨a, T', h', k1, b, k, X', e', E', hS', hk', hZ', hown', r1, r2, r3, r4, -, -, r7, r8, r9, st'⟩ := ldcCH X hx hZ hown w wS eT hS hk hEL hmem H ht hz hlv (g := mkF m pc Ls st) rfl hd hn hbig hc hl
  exact Owe.by st' (go a T' h' k1 b k X' e' E' hS' hk' hZ' hown' r1 r2 r3 r4 r7 r8 r9)
theorem Owe.ldcA (X : Stand p l e R (s.setVm vm0) m args below meth c T locs cells slots) (hx : p.tables.exec = Jvm.exec) (hZ : Z.Warmed39 (s.setVm vm0).vm) {own text : String} {index : Nat} (hown : (s.setVm vm0).vm.findClass own = some m.cls) (w : (Cond.stringLink own index text).before a0 Z = true) {a : Addr} (L : Lit (s.setVm vm0) own index a) (hd : decode c.code pc = .ok (.ldc index, 2)) (go : Owe p.tables e below G T (mkF m (pc + 2) Ls (.ref a :: st))) : Owe p.tables e below G T (mkF m pc Ls st) :=
  Owe.by (ldcAgain X hx hZ hown w L (g := mkF m pc Ls st) rfl hd) go
variable {y z : MethodName} {as' : Array Value} {Q : Option Value → Heap → List Loc → Prop} {W kc ks : Nat}
theorem Owe.specialS (X : Stand p l e R (s.setVm vm0) m args below meth c T locs cells slots) (hx : p.tables.exec = Jvm.exec) (hZ : Z.Warmed39 (s.setVm vm0).vm) (hS : s.Since vm0 k0) (hk : k0 ≤ h.size) {own : String} {index : Nat} (hy1 : y.name = "<init>") (hown : (s.setVm vm0).vm.findClass own = some m.cls) (hlink : (Cond.methodLink own index y).before args (s.setVm vm0) = true) (hinst : (Cond.instanceMethod y).before args (s.setVm vm0) = true) {bytes : ByteArray} {maxL : Nat} (hcode : (Cond.code y bytes maxL none).before args (s.setVm vm0) = true) (hy : y.cls ≠ "java/lang/invoke/MethodHandle" ∧ y.cls ≠ "java/lang/invoke/VarHandle")
    (hK : BackS l R p e below (s.setVm vm0) args y 3 W (fun A a => a = as' ∧ A.U.heap = h ∧ A.cells + kc ≤ R.cells ∧ A.slots + ks ≤ R.slots) (fun A _ v B => ∃ L, Q v B.U.heap L ∧ B.locs = A.locs ++ L ∧ B.cells = A.cells + kc ∧ B.slots = A.slots + ks ∧ CHr Z EL vm0 h B.U.vm B.U.heap))
    (hsize : Ls.size = c.maxLocals) {a : Addr} {argsL rest : List Value} (hlen : ∀ sig, parseMethodDescriptor y.desc = some sig → argsL.length = sig.parameters.length) (hs : st = argsL.reverse ++ .ref a :: rest) (hW : (rest.map fun v => v.category).sum ≤ W) (hd : decode c.code pc = .ok (.invokespecial index, 3))
    (has : (.ref a :: argsL).toArray = as') (eT : T.heap = h) (hc : cells + kc ≤ R.cells) (hl : slots + ks ≤ R.slots)
    (go : ∀ (T' : State) (v : Option Value) (L : List Loc), Stand p l e R (s.setVm T'.vm) m args below meth c T' (locs ++ L) (cells + kc) (slots + ks) → s.Since T'.vm T'.heap.size → Z.Warmed39 (s.setVm T'.vm).vm → (s.setVm T'.vm).vm.findClass own = some m.cls → CHr Z EL vm0 h T'.vm T'.heap → Q v T'.heap L → Owe p.tables e below G T' (mkF m (pc + 3) Ls (v.toList ++ rest))) : Owe p.tables e below G T (mkF m pc Ls st) := by
  obtain ⟨v, _, ⟨T', L', k', n'⟩, -, X', hS', hg', ⟨L, hQ, l', y', z', hC'⟩, st'⟩ := X.specialBackS hx hy1 hown hlink hinst hcode hy hK (g := mkF m pc Ls st) rfl hsize (Steps.refl _) hlen hs (by show 2 * 0 + _ ≤ W; omega) hd (fun _ _ => ⟨has, eT, hc, hl⟩)
  dsimp only [Pt.U, Pt.locs, Pt.cells, Pt.slots] at X' l' y' z' st' hQ hS' hg' hC'
  subst l' y' z'
  exact Owe.by (fun t k => st'.trans k) (go T' v L X' (hS.trans hS' (Nat.le_trans hk (eT ▸ hg'))) (State.Warmed39.trans (t := s.setVm vm0) hZ hS'.1) (by rw [show (s.setVm T'.vm).vm = T'.vm from rfl, hS'.1.alike.findClass]; exact hown) hC' hQ)
theorem Owe.virtS (X : Stand p l e R (s.setVm vm0) m args below meth c T locs cells slots) (hx : p.tables.exec = Jvm.exec) (hZ : Z.Warmed39 (s.setVm vm0).vm) (hS : s.Since vm0 k0) (hk : k0 ≤ h.size) {own C : String} {index : Nat} (hown : (s.setVm vm0).vm.findClass own = some m.cls) (hlink : (Cond.methodLink own index y).before args (s.setVm vm0) = true) (hdecl : (Cond.declares y).before args (s.setVm vm0) = true) (hsel : (Cond.selects C y z).before args (s.setVm vm0) = true) (hinst : (Cond.instanceMethod z).before args (s.setVm vm0) = true) (hnf : NotFace (s.setVm vm0) y) (hy : y.cls ≠ "java/lang/invoke/MethodHandle" ∧ y.cls ≠ "java/lang/invoke/VarHandle")
    (hK : BackS l R p e below (s.setVm vm0) args z 3 W (fun A a => a = as' ∧ A.U.heap = h ∧ A.cells + kc ≤ R.cells ∧ A.slots + ks ≤ R.slots) (fun A _ v B => ∃ L, Q v B.U.heap L ∧ B.locs = A.locs ++ L ∧ B.cells = A.cells + kc ∧ B.slots = A.slots + ks ∧ CHr Z EL vm0 h B.U.vm B.U.heap))
    (hsize : Ls.size = c.maxLocals) {a : Addr} {argsL rest : List Value} (E : Exa Z h a C) (hlen : ∀ sig, parseMethodDescriptor y.desc = some sig → argsL.length = sig.parameters.length) (hs : st = argsL.reverse ++ .ref a :: rest) (hW : (rest.map fun v => v.category).sum ≤ W) (hd : decode c.code pc = .ok (.invokevirtual index, 3))
    (has : (.ref a :: argsL).toArray = as') (eT : T.heap = h) (hc : cells + kc ≤ R.cells) (hl : slots + ks ≤ R.slots)
    (go : ∀ (T' : State) (v : Option Value) (L : List Loc), Stand p l e R (s.setVm T'.vm) m args below meth c T' (locs ++ L) (cells + kc) (slots + ks) → s.Since T'.vm T'.heap.size → Z.Warmed39 (s.setVm T'.vm).vm → (s.setVm T'.vm).vm.findClass own = some m.cls → CHr Z EL vm0 h T'.vm T'.heap → Q v T'.heap L → Owe p.tables e below G T' (mkF m (pc + 3) Ls (v.toList ++ rest))) : Owe p.tables e below G T (mkF m pc Ls st) := by
  obtain ⟨cq, kq, qa, qb, qc⟩ := isOf hZ eT E
  obtain ⟨v, _, ⟨T', L', k', n'⟩, -, X', hS', hg', ⟨L, hQ, l', y', z', hC'⟩, st'⟩ := X.virtualBackS hx hown hlink hdecl hnf hsel hinst hy hK qa qc (g := mkF m pc Ls st) rfl hsize (Steps.refl _) hlen hs (by show 2 * 0 + _ ≤ W; omega) hd (fun _ _ => ⟨has, eT, hc, hl⟩)
  dsimp only [Pt.U, Pt.locs, Pt.cells, Pt.slots] at X' l' y' z' st' hQ hS' hg' hC'
  subst l' y' z'
  exact Owe.by (fun t k => st'.trans k) (go T' v L X' (hS.trans hS' (Nat.le_trans hk (eT ▸ hg'))) (State.Warmed39.trans (t := s.setVm vm0) hZ hS'.1) (by rw [show (s.setVm T'.vm).vm = T'.vm from rfl, hS'.1.alike.findClass]; exact hown) hC' hQ)
theorem Owe.statS (X : Stand p l e R (s.setVm vm0) m args below meth c T locs cells slots) (hx : p.tables.exec = Jvm.exec) (hZ : Z.Warmed39 (s.setVm vm0).vm) (hS : s.Since vm0 k0) (hk : k0 ≤ h.size) {own : String} {index : Nat} {bytes : ByteArray} {maxL : Nat} {ret : Option FieldType} (hown : (s.setVm vm0).vm.findClass own = some m.cls) (hlink : (Cond.methodLink own index y).before args (s.setVm vm0) = true) (hstat : (Cond.static y).before args (s.setVm vm0) = true) (hinit : (Cond.initialized y.cls).before args (s.setVm vm0) = true) (hcode : (Cond.code y bytes maxL ret).before args (s.setVm vm0) = true) (hy : y.cls ≠ "java/lang/invoke/MethodHandle" ∧ y.cls ≠ "java/lang/invoke/VarHandle")
    (hK : BackS l R p e below (s.setVm vm0) args y 3 W (fun A a => a = as' ∧ A.U.heap = h ∧ A.cells + kc ≤ R.cells ∧ A.slots + ks ≤ R.slots) (fun A _ v B => ∃ L, Q v B.U.heap L ∧ B.locs = A.locs ++ L ∧ B.cells = A.cells + kc ∧ B.slots = A.slots + ks ∧ CHr Z EL vm0 h B.U.vm B.U.heap))
    (hsize : Ls.size = c.maxLocals) {argsL rest : List Value} (hlen : ∀ sig, parseMethodDescriptor y.desc = some sig → argsL.length = sig.parameters.length) (hs : st = argsL.reverse ++ rest) (hW : (rest.map fun v => v.category).sum ≤ W) (hd : decode c.code pc = .ok (.invokestatic index, 3))
    (has : argsL.toArray = as') (eT : T.heap = h) (hc : cells + kc ≤ R.cells) (hl : slots + ks ≤ R.slots)
    (go : ∀ (T' : State) (v : Option Value) (L : List Loc), Stand p l e R (s.setVm T'.vm) m args below meth c T' (locs ++ L) (cells + kc) (slots + ks) → s.Since T'.vm T'.heap.size → Z.Warmed39 (s.setVm T'.vm).vm → (s.setVm T'.vm).vm.findClass own = some m.cls → CHr Z EL vm0 h T'.vm T'.heap → Q v T'.heap L → Owe p.tables e below G T' (mkF m (pc + 3) Ls (v.toList ++ rest))) : Owe p.tables e below G T (mkF m pc Ls st) := by
  obtain ⟨v, _, ⟨T', L', k', n'⟩, -, X', hS', hg', ⟨L, hQ, l', y', z', hC'⟩, st'⟩ := callSS X hx hown hlink hstat hinit hcode hy hK (g := mkF m pc Ls st) rfl hsize hlen hs (by show 2 * 0 + _ ≤ W; omega) hd (fun _ _ => ⟨has, eT, hc, hl⟩)
  dsimp only [Pt.U, Pt.locs, Pt.cells, Pt.slots] at X' l' y' z' st' hQ hS' hg' hC'
  subst l' y' z'
  exact Owe.by (fun t k => st'.trans k) (go T' v L X' (hS.trans hS' (Nat.le_trans hk (eT ▸ hg'))) (State.Warmed39.trans (t := s.setVm vm0) hZ hS'.1) (by rw [show (s.setVm T'.vm).vm = T'.vm from rfl, hS'.1.alike.findClass]; exact hown) hC' hQ)
theorem Owe.retNW (X : Stand p l e R (s.setVm vm0) m args below meth c T locs cells slots) (hx : p.tables.exec = Jvm.exec) (hS : s.Since vm0 k0) (eT : T.heap = h) (hk : k0 ≤ h.size) (hlk : meth.locks = false) {z : Int32} {t : FieldType} {rest : List Value} (hret : meth.sig.returnType = some t) (ht : t = .boolean ∨ t = .byte ∨ t = .char ∨ t = .short) (hd : decode c.code pc = .ok (.ireturn, 1)) (hs : st = .int z :: rest)
    (go : ∀ fs : List Frame, ReturnedEndW s (.returned (some (.int (nar t z)))) (T.setFrames fs) locs cells slots → G (.returned (some (.int (nar t z)))) (T.setFrames fs)) : Owe p.tables e below G T (mkF m pc Ls st) := by
  subst hs
  obtain ⟨fs, hr, hrun, hended, hE⟩ := X.leaveW hS (eT ▸ hk) (v := some (.int (nar t z))) (fun h => by rw [hret] at h; cases h) hlk
  exact ⟨_, _, Jvm.RoadKit.retN X hx hret ht hd hr, hrun, hended, go fs hE⟩
theorem Owe.retRW (X : Stand p l e R (s.setVm vm0) m args below meth c T locs cells slots) (hx : p.tables.exec = Jvm.exec) (hS : s.Since vm0 k0) (eT : T.heap = h) (hk : k0 ≤ h.size) (hlk : meth.locks = false) {w : Value} {t : FieldType} {rest : List Value} (hret : meth.sig.returnType = some t) (hn : narrow t w = w) (ht : t.isReference = true) (hw : w.isRef = true) (hd : decode c.code pc = .ok (.areturn, 1)) (hs : st = w :: rest)
    (go : ∀ fs : List Frame, ReturnedEndW s (.returned (some w)) (T.setFrames fs) locs cells slots → G (.returned (some w)) (T.setFrames fs)) : Owe p.tables e below G T (mkF m pc Ls st) := by
  subst hs
  obtain ⟨fs, hr, hrun, hended, hE⟩ := X.leaveW hS (eT ▸ hk) (v := some w) (fun h => by rw [hret] at h; cases h) hlk
  have hm' : T.vm.method? m = some meth := X.method'
  refine ⟨_, _, ?_, hrun, hended, go fs hE⟩
  show Steps p.tables e below (T.setTop { method := m, pc := pc, locals := Ls, stack := _ :: rest, locked := none }) _
  jvm_step X.here [X.here.top, hx, hd, hm', hret, hn, hw]
  try (refine ⟨ht, ?_⟩)
  first | (intro acts; rw [hr _ acts rfl rfl rfl]) | rw [hr _ _ rfl rfl rfl]
  exact Steps.refl _
theorem Owe.ret0W (X : Stand p l e R (s.setVm vm0) m args below meth c T locs cells slots) (hx : p.tables.exec = Jvm.exec) (hS : s.Since vm0 k0) (eT : T.heap = h) (hk : k0 ≤ h.size) (hlk : meth.locks = false) (hret : meth.sig.returnType = none) (hd : decode c.code pc = .ok (.return_, 1)) (hs : st = [])
    (go : ∀ fs : List Frame, ReturnedEndW s (.returned none) (T.setFrames fs) locs cells slots → G (.returned none) (T.setFrames fs)) : Owe p.tables e below G T (mkF m pc Ls st) := by
  subst hs
  obtain ⟨fs, hr, hrun, hended, hE⟩ := X.leaveW hS (eT ▸ hk) (v := none) (fun _ => rfl) hlk
  exact ⟨_, _, X.returnOut hx hret hd hr, hrun, hended, go fs hE⟩
end Cold
end Own
end Jvm.Pilot.@@N@@
namespace Jvm.Pilot.@@N@@
open Jvm Jvm.ClassFile Sem Op Lib Jvm.Free Jvm.Stand Jvm.LawKit Jvm.RoadKit Bundle Jvm.Pilot.@@N@@.Jvm.D Jvm.Pilot.@@N@@.Own
theorem and255_chars (x : Int32) : ¬ nar .char ((x &&& (255 : Int32)).toUInt32.toUInt16.toUInt32.toInt32) < 0 ∧ ¬ (255 : Int32) < nar .char ((x &&& (255 : Int32)).toUInt32.toUInt16.toUInt32.toInt32) := by
  have t : ∀ k : Fin 256, ¬ nar .char ((Int32.ofNat k.val).toUInt32.toUInt16.toUInt32.toInt32) < 0 ∧ ¬ (255 : Int32) < nar .char ((Int32.ofNat k.val).toUInt32.toUInt16.toUInt32.toInt32) := by decide +kernel
  have h : (x &&& 255).toBitVec.toNat < 256 := by
    simp only [Int32.toBitVec_and, BitVec.toNat_and]
    exact Nat.lt_succ_of_le Nat.and_le_right
  have e : (x &&& 255) = Int32.ofNat (x &&& 255).toBitVec.toNat := by
    apply Int32.toBitVec_inj.mp
    show _ = BitVec.ofNat 32 _
    rw [BitVec.ofNat_toNat]; simp
  rw [e]
  exact t ⟨_, h⟩
theorem own_narrow_ref {v : Value} {t : FieldType} (h : v.isRef = true) (ht : t.isReference = true) : narrow t v = v := by cases t <;> first | (cases ht; done) | (cases v <;> first | rfl | (cases h; done))
theorem own_fits_ref {v : Value} {t : FieldType} (h : v.isRef = true) (ht : t.isReference = true) : fits t v = true := by cases t <;> first | (cases ht; done) | (cases v <;> first | rfl | (cases h; done))
theorem own_cat_ref {v : Value} (h : v.isRef = true) : v.category = 1 := by cases v <;> first | rfl | (cases h; done)
theorem own_eq_int {args : Array Value} {Z : State} {t : Term} {j : Int32} (h : (Jvm.Cond.eq t (Term.int j)).value args Z none Z [] = some true) : t.eval args Z none [] Z = some (.int j) := by
  obtain ⟨x, y, ha, hb, hk, -⟩ := cmp_v (Or.inl h)
  have hj : (Term.int j).eval args Z none [] Z = some (.int j) := Term.int_eval j
  cases x with
  | int z => rw [ha, gotT (Cond.eq_ints ha hj) h]
  | _ => simp [Cond.value, ha, hj] at h
theorem own_eq_ref {args : Array Value} {Z : State} {t u : Term} {b : Addr} (eu : u.eval args Z none [] Z = some (.ref b)) (h : (Jvm.Cond.eq t u).value args Z none Z [] = some true) : t.eval args Z none [] Z = some (.ref b) := by
  obtain ⟨x, y, ha, hb, hk, -⟩ := cmp_v (Or.inl h)
  cases x with
  | ref z => simp [Cond.value, ha, eu] at h; rw [ha, h]
  | _ => simp [Cond.value, ha, eu] at h
theorem own_fld_int {Z : State} {args : Array Value} {t : Term} {a : Addr} {C n d : String} {j : Int32} (ev : t.eval args Z none [] Z = some (.ref a)) (h : (Jvm.Cond.eq (Term.field t C n d) (Term.int j)).value args Z none Z [] = some true) : Fld Z Z.heap a C n d (.int j) := Fld.start ((fld_at ev).symm.trans (own_eq_int h))
theorem own_fld_ref {Z : State} {args : Array Value} {t u : Term} {a b : Addr} {C n d : String} (ev : t.eval args Z none [] Z = some (.ref a)) (eu : u.eval args Z none [] Z = some (.ref b)) (h : (Jvm.Cond.eq (Term.field t C n d) u).value args Z none Z [] = some true) : Fld Z Z.heap a C n d (.ref b) := Fld.start ((fld_at ev).symm.trans (own_eq_ref eu h))
theorem own_len {args : Array Value} {Z : State} {t : Term} {a : Addr} {cl : Cell} {n : Int32} (ht : t.eval args Z none [] Z = some (.ref a)) (hc : Z.arrayAt? a = some cl) (h : (Term.length t).eval args Z none [] Z = some (.int n)) (hn : ¬ n < 0) : cl.slots.size = n.toNatClampNeg := by
  by_cases hl : cl.slots.size < 2 ^ 31
  · rw [len_f ht hc hl] at h
    have e : cl.slots.size.toInt32 = n := by simpa using h
    rw [← e]; show _ = cl.slots.size.toInt32.toInt.toNat; rw [len_toInt hl]; rfl
  · simp [Term.eval, ht, hc, hl] at h
theorem own_el {args : Array Value} {Z : State} {t : Term} {a : Addr} {cl : Cell} {j : Int32} {v : Value} (ht : t.eval args Z none [] Z = some (.ref a)) (hc : Z.arrayAt? a = some cl) (h : (Term.elem t (Term.int j)).eval args Z none [] Z = some v) (hn : ¬ j < 0) : cl.slots[j.toNatClampNeg]? = some v := (elem_f ht (Term.int_eval j) hc hn).symm.trans h
theorem up (cs : List Int32) (h : ∀ c ∈ cs, ¬ c < 0 ∧ ¬ (255 : Int32) < c) : ∀ c ∈ cs, ¬ c < 0 ∧ ¬ (65535 : Int32) < c := fun c hc => ⟨(h c hc).1, fun q => (h c hc).2 (by rw [Int32.lt_iff_toInt_lt] at q ⊢; have e1 : (65535 : Int32).toInt = 65535 := rfl; have e2 : (255 : Int32).toInt = 255 := rfl; omega)⟩
theorem own_rem4 (x : Int32) : ((x &&& (2147483647 : Int32)) - ((x &&& (2147483647 : Int32)) / (4 : Int32)) * (4 : Int32)) = (0 : Int32) ∨ ((x &&& (2147483647 : Int32)) - ((x &&& (2147483647 : Int32)) / (4 : Int32)) * (4 : Int32)) = (1 : Int32) ∨ ((x &&& (2147483647 : Int32)) - ((x &&& (2147483647 : Int32)) / (4 : Int32)) * (4 : Int32)) = (2 : Int32) ∨ ((x &&& (2147483647 : Int32)) - ((x &&& (2147483647 : Int32)) / (4 : Int32)) * (4 : Int32)) = (3 : Int32) := by
  have h0 := c_and x (2147483647 : Int32) (by decide)
  generalize (x &&& (2147483647 : Int32)) = k at h0 ⊢
  have h1 := (c_idiv k (4 : Int32) 4 (by decide) (by decide)).1 h0.1
  have h2 := c_imul (k / (4 : Int32)) (4 : Int32)
  have h3 := c_isub k (k / (4 : Int32) * (4 : Int32))
  have r1 := rng32 (k / (4 : Int32) * (4 : Int32)); have r2 := rng32 (k - k / (4 : Int32) * (4 : Int32)); have r3 := rng32 k
  rw [h1, show ((4 : Int32)).toInt = 4 from rfl] at h2
  have e : (k - k / (4 : Int32) * (4 : Int32)).toInt = 0 ∨ (k - k / (4 : Int32) * (4 : Int32)).toInt = 1 ∨ (k - k / (4 : Int32) * (4 : Int32)).toInt = 2 ∨ (k - k / (4 : Int32) * (4 : Int32)).toInt = 3 := by omega
  simp only [← Int32.toInt_inj]
  exact e
theorem own_rem5 (x : Int32) : ((x &&& (2147483647 : Int32)) - ((x &&& (2147483647 : Int32)) / (5 : Int32)) * (5 : Int32)) = (0 : Int32) ∨ ((x &&& (2147483647 : Int32)) - ((x &&& (2147483647 : Int32)) / (5 : Int32)) * (5 : Int32)) = (1 : Int32) ∨ ((x &&& (2147483647 : Int32)) - ((x &&& (2147483647 : Int32)) / (5 : Int32)) * (5 : Int32)) = (2 : Int32) ∨ ((x &&& (2147483647 : Int32)) - ((x &&& (2147483647 : Int32)) / (5 : Int32)) * (5 : Int32)) = (3 : Int32) ∨ ((x &&& (2147483647 : Int32)) - ((x &&& (2147483647 : Int32)) / (5 : Int32)) * (5 : Int32)) = (4 : Int32) := by
  have h0 := c_and x (2147483647 : Int32) (by decide)
  generalize (x &&& (2147483647 : Int32)) = k at h0 ⊢
  have h1 := (c_idiv k (5 : Int32) 5 (by decide) (by decide)).1 h0.1
  have h2 := c_imul (k / (5 : Int32)) (5 : Int32)
  have h3 := c_isub k (k / (5 : Int32) * (5 : Int32))
  have r1 := rng32 (k / (5 : Int32) * (5 : Int32)); have r2 := rng32 (k - k / (5 : Int32) * (5 : Int32)); have r3 := rng32 k
  rw [h1, show ((5 : Int32)).toInt = 5 from rfl] at h2
  have e : (k - k / (5 : Int32) * (5 : Int32)).toInt = 0 ∨ (k - k / (5 : Int32) * (5 : Int32)).toInt = 1 ∨ (k - k / (5 : Int32) * (5 : Int32)).toInt = 2 ∨ (k - k / (5 : Int32) * (5 : Int32)).toInt = 3 ∨ (k - k / (5 : Int32) * (5 : Int32)).toInt = 4 := by omega
  simp only [← Int32.toInt_inj]
  exact e
theorem own_m7 (x : Int32) : ((x &&& (7 : Int32)) - ((x &&& (7 : Int32)) / (7 : Int32)) * (7 : Int32)) = (0 : Int32) ∨ ((x &&& (7 : Int32)) - ((x &&& (7 : Int32)) / (7 : Int32)) * (7 : Int32)) = (1 : Int32) ∨ ((x &&& (7 : Int32)) - ((x &&& (7 : Int32)) / (7 : Int32)) * (7 : Int32)) = (2 : Int32) ∨ ((x &&& (7 : Int32)) - ((x &&& (7 : Int32)) / (7 : Int32)) * (7 : Int32)) = (3 : Int32) ∨ ((x &&& (7 : Int32)) - ((x &&& (7 : Int32)) / (7 : Int32)) * (7 : Int32)) = (4 : Int32) ∨ ((x &&& (7 : Int32)) - ((x &&& (7 : Int32)) / (7 : Int32)) * (7 : Int32)) = (5 : Int32) ∨ ((x &&& (7 : Int32)) - ((x &&& (7 : Int32)) / (7 : Int32)) * (7 : Int32)) = (6 : Int32) := by
  have h0 := c_and x (7 : Int32) (by decide)
  generalize (x &&& (7 : Int32)) = k at h0 ⊢
  have h1 := (c_idiv k (7 : Int32) 7 (by decide) (by decide)).1 h0.1
  have h2 := c_imul (k / (7 : Int32)) (7 : Int32)
  have h3 := c_isub k (k / (7 : Int32) * (7 : Int32))
  have r1 := rng32 (k / (7 : Int32) * (7 : Int32)); have r2 := rng32 (k - k / (7 : Int32) * (7 : Int32)); have r3 := rng32 k
  rw [h1, show ((7 : Int32)).toInt = 7 from rfl] at h2
  have e : (k - k / (7 : Int32) * (7 : Int32)).toInt = 0 ∨ (k - k / (7 : Int32) * (7 : Int32)).toInt = 1 ∨ (k - k / (7 : Int32) * (7 : Int32)).toInt = 2 ∨ (k - k / (7 : Int32) * (7 : Int32)).toInt = 3 ∨ (k - k / (7 : Int32) * (7 : Int32)).toInt = 4 ∨ (k - k / (7 : Int32) * (7 : Int32)).toInt = 5 ∨ (k - k / (7 : Int32) * (7 : Int32)).toInt = 6 := by omega
  simp only [← Int32.toInt_inj]
  exact e
theorem own_nar2 {v : Int32} (h : ¬ v < 0 ∧ ¬ (255 : Int32) < v) : ¬ nar .char v < 0 ∧ ¬ (255 : Int32) < nar .char v := by
  have e0 : (0 : Int32).toInt = 0 := rfl
  have e1 : (255 : Int32).toInt = 255 := rfl
  have c := c_i2c v
  simp only [Int32.lt_iff_toInt_lt, nar] at h ⊢
  omega
theorem own_c255L (x : Int64) : ¬ nar .char ((x &&& (255 : Int64)).toInt32.toUInt32.toUInt16.toUInt32.toInt32) < 0 ∧ ¬ (255 : Int32) < nar .char ((x &&& (255 : Int64)).toInt32.toUInt32.toUInt16.toUInt32.toInt32) := by
  apply own_nar2
  have e0 : (0 : Int32).toInt = 0 := rfl
  have e1 : (255 : Int32).toInt = 255 := rfl
  have a := c_maskL x (255 : Int64) 8 (by decide) (by decide)
  have b := c_l2i (x &&& (255 : Int64))
  have r := rng32 (x &&& (255 : Int64)).toInt32
  have c := c_i2c (x &&& (255 : Int64)).toInt32
  simp only [Int32.lt_iff_toInt_lt]
  omega
theorem own_T0 : (∀ c ∈ ([] : List Int32), ¬ c < 0 ∧ ¬ (255 : Int32) < c) ∧ ([] : List Int32).length ≤ 4000 := by decide
theorem own_vs_rdwv : ((([114, 101, 97, 100] : List Int32).map (fun c => c.toInt8.toInt32)).map Value.int) = [(.int (114 : Int32)), (.int (101 : Int32)), (.int (97 : Int32)), (.int (100 : Int32))] := by decide
theorem own_vs_wtwv : ((([119, 114, 105, 116, 101] : List Int32).map (fun c => c.toInt8.toInt32)).map Value.int) = [(.int (119 : Int32)), (.int (114 : Int32)), (.int (105 : Int32)), (.int (116 : Int32)), (.int (101 : Int32))] := by decide
def own_EL : List (String × Nat) := [("com/example/wade/wade/monitor/AccessGoverningPinLaw", 14), ("com/example/wade/wade/monitor/AccessGoverningPinLaw", 16), ("java/lang/String", 7)]
theorem own_ew {Z : State} {a0 : Array Value} (hw : ∀ d ∈ tables_1, d.before a0 Z = true) : EW Z a0 own_EL := EW.cons (hw _ (List.mem_of_getElem? (i := 2) rfl)) (by decide) (EW.cons (hw _ (List.mem_of_getElem? (i := 136) rfl)) (by decide) (EW.cons (hw _ (List.mem_of_getElem? (i := 131) rfl)) (by decide) (EW.nil)))
theorem own_sa : ∀ d ∈ Bundle.stringAtoms, d ∈ tables_1 := by decide +kernel
theorem own_wS {Z : State} {a0 : Array Value} (hw : ∀ d ∈ tables_1, d.before a0 Z = true) : ∀ a ∈ Bundle.stringAtoms, a.before a0 Z = true := fun d hd => hw d (own_sa d hd)
theorem own_safe_null {Z : State} {EL : List (String × Nat)} {vm : Vm} {h : Heap} {x : Addr} (hal : Z.vm.Alike vm) (E : Exa Z h x "java/lang/String") (F : Fld Z h x "java/lang/String" "value" "[B" .null) : Safe Z EL vm h x := fun B => by
  obtain ⟨p, -, u, a, -, q, -, S, rfl | rfl⟩ := B
  · obtain ⟨cS, ⟨⟨s1, -, -, ⟨c1, k1, i1, f1, -⟩, -, -, -, v1, -⟩, -⟩, -⟩ := S
    obtain ⟨cell, cf, k, i, f, h1, h2, -, -, -, -, h7⟩ := F
    cases h1.symm.trans (show h[q.sa]? = some q.sC from s1)
    obtain ⟨k3, e3, -⟩ := State.fieldFound?_setVm (s := Z) hal h2
    have e4 := (show (Wst Z vm h).fieldFound? _ _ _ = _ from e3).symm.trans f1
    simp only [Option.some.injEq, Prod.mk.injEq] at e4
    rw [e4.2.2.2, v1] at h7
    cases h7
  · obtain ⟨cell, k, e1, e2, e3, -, -⟩ := E
    cases (show h[q.sd]? = some q.SA from S.hd).symm.trans e1
    obtain ⟨cS, -, -, f, -⟩ := S
    have f' : Z.vm.findClass "[B" = some q.SA.cls := by rw [← hal.findClass]; exact f
    obtain ⟨k1, q1, q2⟩ := Vm.findClass_spec f'
    obtain ⟨k2, q3, q4⟩ := Vm.findClass_spec e2
    cases q1.symm.trans q3
    exact absurd (q2.symm.trans q4) (by decide)
theorem own_words : ∀ d ∈ StrChars.Road.words, d ∈ tables_1 := by decide +kernel
theorem own_wlen : ∀ d ∈ StrChars.Road.wordsLen, d ∈ tables_1 := by decide +kernel
theorem own_hln {Z : State} {a0 : Array Value} (hw : ∀ d ∈ tables_1, d.before a0 Z = true) : ∀ d ∈ StrChars.Road.wordsLen, d.before a0 Z = true := fun d hd => hw d (own_wlen d hd)
theorem own_wch : ∀ d ∈ StrChars.Road.wordsChN, d ∈ tables_1 := by decide +kernel
theorem own_hch {Z : State} {a0 : Array Value} (hw : ∀ d ∈ tables_1, d.before a0 Z = true) : ∀ d ∈ StrChars.Road.wordsChN, d.before a0 Z = true := fun d hd => hw d (own_wch d hd)
theorem own_weq : ∀ d ∈ StrChars.Road.wordsEq, d ∈ tables_1 := by decide +kernel
theorem own_heq {Z : State} {a0 : Array Value} (hw : ∀ d ∈ tables_1, d.before a0 Z = true) : ∀ d ∈ StrChars.Road.wordsEq, d.before a0 Z = true := fun d hd => hw d (own_weq d hd)
theorem pd_0 : parseMethodDescriptor "(Ljava/lang/Object;)Ljava/lang/Object;" = some ⟨[(.object "java/lang/Object")], some (.object "java/lang/Object")⟩ := by decide +kernel
theorem pd_1 : parseMethodDescriptor "(Ljava/lang/Object;)V" = some ⟨[(.object "java/lang/Object")], none⟩ := by decide +kernel
theorem pd_2 : parseMethodDescriptor "([CIILjava/lang/Void;)V" = some ⟨[(.array .char), .int, .int, (.object "java/lang/Void")], none⟩ := by decide +kernel
theorem pd_3 : parseMethodDescriptor "()[Lcom/example/wade/wade/monitor/Access;" = some ⟨[], some (.array (.object "com/example/wade/wade/monitor/Access"))⟩ := by decide +kernel
theorem pd_4 : parseMethodDescriptor "(Ljava/lang/Object;)Z" = some ⟨[(.object "java/lang/Object")], some .boolean⟩ := by decide +kernel
theorem pd_5 : parseMethodDescriptor "(Ljava/lang/Object;)Ljava/util/Optional;" = some ⟨[(.object "java/lang/Object")], some (.object "java/util/Optional")⟩ := by decide +kernel
theorem pd_6 : parseMethodDescriptor "()Ljava/util/Optional;" = some ⟨[], some (.object "java/util/Optional")⟩ := by decide +kernel
theorem pd_7 : parseMethodDescriptor "([C)V" = some ⟨[(.array .char)], none⟩ := by decide +kernel
theorem pd_8 : parseMethodDescriptor "(Ljava/lang/String;)Ljava/util/Optional;" = some ⟨[(.object "java/lang/String")], some (.object "java/util/Optional")⟩ := by decide +kernel
theorem pd_9 : parseMethodDescriptor "()Z" = some ⟨[], some .boolean⟩ := by decide +kernel
theorem pd_10 : parseMethodDescriptor "()Ljava/lang/Object;" = some ⟨[], some (.object "java/lang/Object")⟩ := by decide +kernel
theorem pd_11 : parseMethodDescriptor "()I" = some ⟨[], some .int⟩ := by decide +kernel
theorem pd_12 : parseMethodDescriptor "(I)C" = some ⟨[.int], some .char⟩ := by decide +kernel
theorem pd_13 : parseMethodDescriptor "([CI)Ljava/lang/String;" = some ⟨[(.array .char), .int], some (.object "java/lang/String")⟩ := by decide +kernel
theorem d0_0 : decode jdk_31_method_10_code 0 = .ok (.aload_n 0, 1) := by decide +kernel
theorem d0_1 : decode jdk_31_method_10_code 1 = .ok (.ifnonnull 11, 3) := by decide +kernel
theorem d0_4 : decode jdk_31_method_10_code 4 = .ok (.new 84, 3) := by decide +kernel
theorem d0_7 : decode jdk_31_method_10_code 7 = .ok (.dup, 1) := by decide +kernel
theorem d0_8 : decode jdk_31_method_10_code 8 = .ok (.invokespecial 86, 3) := by decide +kernel
theorem d0_11 : decode jdk_31_method_10_code 11 = .ok (.athrow, 1) := by decide +kernel
theorem d0_12 : decode jdk_31_method_10_code 12 = .ok (.aload_n 0, 1) := by decide +kernel
theorem d0_13 : decode jdk_31_method_10_code 13 = .ok (.areturn, 1) := by decide +kernel
theorem pn_rn1 : plainName "java/util/Objects" = true := by first | (simp [plainName, overriddenIn]; done) | decide +kernel
theorem ef_rn1 (m : MethodId) (x0 : Addr)  : entryFrame m #[(.ref x0)] 1 = mkF m 0 #[.val (.ref x0)] [] := by first | (simp [entryFrame, mkF, argsToLocals, Value.category]; done) | rfl
def Qrn1 (Z : State) (a1 : Addr) (h0 : Heap) (n0 : Nat) (v : Option Value) (h : Heap) (L : List Loc) : Prop := v = some (.ref a1) ∧ Fr n0 L ∧ h = h0
set_option maxRecDepth 65536 in
set_option maxHeartbeats 40000000 in
theorem rmrn1 (l : Launch) (Z : State) (a0 : Array Value) (hw : ∀ d ∈ tables_1, d.before a0 Z = true) (ws : List Jvm.Cond) (a1 : Addr) (h0 : Heap) (n0 : Nat) (Z0 : n0 ≤ h0.size)  :
    MetFree l (⟨"java/util/Objects", "requireNonNull", "(Ljava/lang/Object;)Ljava/lang/Object;"⟩ : MethodName) (head1 (Jvm.Cond.code (⟨"java/util/Objects", "requireNonNull", "(Ljava/lang/Object;)Ljava/lang/Object;"⟩ : MethodName) jdk_31_method_10_code 1 (some (.object "java/lang/Object")) :: ws) ({ frames := 0, cells := 0, slots := 0, locals := 0 } : Room)) (fun a U => a = #[(.ref a1)] ∧ Z.Warmed39 U.vm ∧ U.heap = h0) (fun _ _ _ _ _ => True) (fun _ U o U' => ∃ v L, o = .returned v ∧ Qrn1 Z a1 h0 n0 v U'.heap L ∧ FrameEnd U o U' L ({ frames := 0, cells := 0, slots := 0, locals := 0 } : Room).cells ({ frames := 0, cells := 0, slots := 0, locals := 0 } : Room).slots) := by
  refine MetFree.of_bodySF (plainFor_of_name pn_rn1) hisR ?_
  intro p e s m args below meth c s₁ Bd hml0 hP hK
  obtain ⟨rfl, hZ, hh⟩ := hP
  have hx := Bd.exec
  have hby := Bd.bytes
  have hml : c.maxLocals = 1 := hml0
  have hown : s.vm.findClass "java/util/Objects" = some m.cls := findClass_of_methodNamed Bd.named
  have hnm := (name_of_methodNamed Bd.named Bd.method).1
  have hlk : meth.locks = false := BodyLoose.notSynchronized Bd
  have X0 : Stand p l e ({ frames := 0, cells := 0, slots := 0, locals := 0 } : Room) s m #[(.ref a1)] below meth c s₁ [] 0 0 := Stand.of_body Bd
  have e0 : s₁.heap = h0 := by rw [← hh, Bd.state]; rfl
  have N0 := Fr.nil n0
  obtain ⟨G, hG⟩ : ∃ G : Outcome → State → Prop, G = fun o u => ∃ v L, o = .returned v ∧ Qrn1 Z a1 h0 n0 v u.heap L ∧ FrameEnd s o u L ({ frames := 0, cells := 0, slots := 0, locals := 0 } : Room).cells ({ frames := 0, cells := 0, slots := 0, locals := 0 } : Room).slots := ⟨_, rfl⟩
  suffices hgo : Owe p.tables e below G s₁ (mkF m 0 #[.val (.ref a1)] []) by
    obtain ⟨u, o, h1, h2, h3, h4⟩ := hgo
    exact ⟨u, o, castTop (ef_rn1 m a1) h1, h2, h3, by rw [hG] at h4; exact h4⟩
  refine Owe.aloadN X0.here hx (hb hby d0_0) rfl rfl ?_
  refine Owe.ifnonnullYes X0.here hx (hb hby d0_1) rfl (pc' := 12) (by decide) (by decide) ?_
  refine Owe.aloadN X0.here hx (hb hby d0_12) rfl rfl ?_
  refine Owe.retR X0 hx hlk (t := (.object "java/lang/Object")) Bd.returns rfl rfl rfl (hb hby d0_13) rfl fun fs hE => ?_
  rw [hG]
  refine ⟨_, _, rfl, ?_, frameMono hE (by decide) (by decide)⟩
  show Qrn1 Z a1 h0 n0 _ s₁.heap _
  rw [e0]
  exact ⟨rfl, N0, rfl⟩
theorem d1_0 : decode jdk_32_method_2_code 0 = .ok (.aload_n 0, 1) := by decide +kernel
theorem d1_1 : decode jdk_32_method_2_code 1 = .ok (.invokespecial 7, 3) := by decide +kernel
theorem d1_4 : decode jdk_32_method_2_code 4 = .ok (.aload_n 0, 1) := by decide +kernel
theorem d1_5 : decode jdk_32_method_2_code 5 = .ok (.aload_n 1, 1) := by decide +kernel
theorem d1_6 : decode jdk_32_method_2_code 6 = .ok (.putfield 13, 3) := by decide +kernel
theorem d1_9 : decode jdk_32_method_2_code 9 = .ok (.return_, 1) := by decide +kernel
theorem pn_opi : plainName "java/util/Optional" = true := by first | (simp [plainName, overriddenIn]; done) | decide +kernel
theorem ef_opi (m : MethodId) (x0 : Addr) (x1 : Addr)  : entryFrame m #[(.ref x0), (.ref x1)] 2 = mkF m 0 #[.val (.ref x0), .val (.ref x1)] [] := by first | (simp [entryFrame, mkF, argsToLocals, Value.category]; done) | rfl
def Qopi (Z : State) (a1 : Addr) (a2 : Addr) (u_v : Value) (h0 : Heap) (n0 : Nat) (v : Option Value) (h : Heap) (L : List Loc) : Prop := v = none ∧ Fr n0 L ∧ Keep h0 h [a1] ∧ Exa Z h a1 "java/util/Optional" ∧ Fld Z h a1 "java/util/Optional" "value" "Ljava/lang/Object;" (.ref a2)
set_option maxRecDepth 65536 in
set_option maxHeartbeats 40000000 in
theorem rmopi (l : Launch) (Z : State) (a0 : Array Value) (hw : ∀ d ∈ tables_1, d.before a0 Z = true) (ws : List Jvm.Cond) (a1 : Addr) (a2 : Addr) (u_v : Value) (h0 : Heap) (n0 : Nat) (Z0 : n0 ≤ h0.size) (E_a1 : Exa Z h0 a1 "java/util/Optional") (Fvalue_a1 : Fld Z h0 a1 "java/util/Optional" "value" "Ljava/lang/Object;" u_v) (ge_a1 : n0 ≤ a1) :
    MetFree l (⟨"java/util/Optional", "<init>", "(Ljava/lang/Object;)V"⟩ : MethodName) (head1 (Jvm.Cond.code (⟨"java/util/Optional", "<init>", "(Ljava/lang/Object;)V"⟩ : MethodName) jdk_32_method_2_code 2 none :: ws) ({ frames := 1, cells := 0, slots := 0, locals := 12 } : Room)) (fun a U => a = #[(.ref a1), (.ref a2)] ∧ Z.Warmed39 U.vm ∧ U.heap = h0) (fun _ _ _ _ _ => True) (fun _ U o U' => ∃ v L, o = .returned v ∧ Qopi Z a1 a2 u_v h0 n0 v U'.heap L ∧ FrameEnd U o U' L ({ frames := 1, cells := 0, slots := 0, locals := 12 } : Room).cells ({ frames := 1, cells := 0, slots := 0, locals := 12 } : Room).slots) := by
  refine MetFree.of_bodySF (plainFor_of_name pn_opi) hisR ?_
  intro p e s m args below meth c s₁ Bd hml0 hP hK
  obtain ⟨rfl, hZ, hh⟩ := hP
  have hx := Bd.exec
  have hby := Bd.bytes
  have hml : c.maxLocals = 2 := hml0
  have hown : s.vm.findClass "java/util/Optional" = some m.cls := findClass_of_methodNamed Bd.named
  have hnm := (name_of_methodNamed Bd.named Bd.method).1
  have hlk : meth.locks = false := BodyLoose.notSynchronized Bd
  have X0 : Stand p l e ({ frames := 1, cells := 0, slots := 0, locals := 12 } : Room) s m #[(.ref a1), (.ref a2)] below meth c s₁ [] 0 0 := Stand.of_body Bd
  have e0 : s₁.heap = h0 := by rw [← hh, Bd.state]; rfl
  have N0 := Fr.nil n0
  have K0 := Keep.refl h0 [a1]
  obtain ⟨G, hG⟩ : ∃ G : Outcome → State → Prop, G = fun o u => ∃ v L, o = .returned v ∧ Qopi Z a1 a2 u_v h0 n0 v u.heap L ∧ FrameEnd s o u L ({ frames := 1, cells := 0, slots := 0, locals := 12 } : Room).cells ({ frames := 1, cells := 0, slots := 0, locals := 12 } : Room).slots := ⟨_, rfl⟩
  suffices hgo : Owe p.tables e below G s₁ (mkF m 0 #[.val (.ref a1), .val (.ref a2)] []) by
    obtain ⟨u, o, h1, h2, h3, h4⟩ := hgo
    exact ⟨u, o, castTop (ef_opi m a1 a2) h1, h2, h3, by rw [hG] at h4; exact h4⟩
  refine Owe.aloadN X0.here hx (hb hby d1_0) rfl rfl ?_
  refine Owe.objinit X0 hx hZ hown (hw _ (List.mem_of_getElem? (i := 116) rfl)) (hw _ (List.mem_of_getElem? (i := 58) rfl)) (hw _ (List.mem_of_getElem? (i := 59) rfl)) e0 (by rw [hml]; rfl) rfl (hb hby d1_1) (by decide) (W := 0) (Nat.le_of_ble_eq_true rfl) (by decide) fun T1 X1 e1 => ?_
  refine Owe.aloadN X1.here hx (hb hby d1_4) rfl rfl ?_
  refine Owe.aloadN X1.here hx (hb hby d1_5) rfl rfl ?_
  refine Owe.putf X1 hx hZ (host := "") hown (Or.inl (hw _ (List.mem_of_getElem? (i := 117) rfl))) Via.refl e1 Fvalue_a1 E_a1 (Or.inr ⟨(hw _ (List.mem_of_getElem? (i := 118) rfl)), rfl, hnm⟩) (hw _ (List.mem_of_getElem? (i := 107) rfl)) (ty := (.object "java/lang/Object")) (by decide) rfl rfl (hb hby d1_6) rfl fun T2 h2 X2 e2 W2 => ?_
  have K_3 := K0.wr W2 (Or.inl (List.mem_of_getElem? (i := 0) rfl))
  have E_a1_4 := E_a1.wr W2
  have Fvalue_a1_5 := Fvalue_a1.same W2
  have Z_6 := Nat.le_trans Z0 (Keep.of_wr W2).1
  have N2 := Fr.snoc X2 N0 ge_a1
  refine Owe.ret0 X2 hx hlk Bd.returns (hb hby d1_9) rfl fun fs hE => ?_
  rw [hG]
  refine ⟨_, _, rfl, ?_, frameMono hE (by decide) (by decide)⟩
  show Qopi Z a1 a2 u_v h0 n0 _ T2.heap _
  rw [e2]
  exact ⟨rfl, N2, K_3, E_a1_4, Fvalue_a1_5⟩
theorem d2_0 : decode jdk_32_method_3_code 0 = .ok (.new 2, 3) := by decide +kernel
theorem d2_3 : decode jdk_32_method_3_code 3 = .ok (.dup, 1) := by decide +kernel
theorem d2_4 : decode jdk_32_method_3_code 4 = .ok (.aload_n 0, 1) := by decide +kernel
theorem d2_5 : decode jdk_32_method_3_code 5 = .ok (.invokestatic 17, 3) := by decide +kernel
theorem d2_8 : decode jdk_32_method_3_code 8 = .ok (.invokespecial 23, 3) := by decide +kernel
theorem d2_11 : decode jdk_32_method_3_code 11 = .ok (.areturn, 1) := by decide +kernel
theorem pn_opf : plainName "java/util/Optional" = true := by first | (simp [plainName, overriddenIn]; done) | decide +kernel
theorem ef_opf (m : MethodId) (x0 : Addr)  : entryFrame m #[(.ref x0)] 1 = mkF m 0 #[.val (.ref x0)] [] := by first | (simp [entryFrame, mkF, argsToLocals, Value.category]; done) | rfl
def Qopf (Z : State) (a1 : Addr) (h0 : Heap) (n0 : Nat) (v : Option Value) (h : Heap) (L : List Loc) : Prop := ∃ (x1 : Addr), v = some (.ref x1) ∧ Fr n0 L ∧ Keep h0 h [] ∧ n0 ≤ x1 ∧ h0.size ≤ x1 ∧ Exa Z h x1 "java/util/Optional" ∧ Fld Z h x1 "java/util/Optional" "value" "Ljava/lang/Object;" (.ref a1)
set_option maxRecDepth 65536 in
set_option maxHeartbeats 40000000 in
theorem rmopf (l : Launch) (Z : State) (a0 : Array Value) (hw : ∀ d ∈ tables_1, d.before a0 Z = true) (ws : List Jvm.Cond) (a1 : Addr) (h0 : Heap) (n0 : Nat) (Z0 : n0 ≤ h0.size)  :
    MetFree l (⟨"java/util/Optional", "of", "(Ljava/lang/Object;)Ljava/util/Optional;"⟩ : MethodName) (head1 (Jvm.Cond.code (⟨"java/util/Optional", "of", "(Ljava/lang/Object;)Ljava/util/Optional;"⟩ : MethodName) jdk_32_method_3_code 1 (some (.object "java/util/Optional")) :: ws) ({ frames := 2, cells := 1, slots := 1, locals := 32 } : Room)) (fun a U => a = #[(.ref a1)] ∧ Z.Warmed39 U.vm ∧ U.heap = h0) (fun _ _ _ _ _ => True) (fun _ U o U' => ∃ v L, o = .returned v ∧ Qopf Z a1 h0 n0 v U'.heap L ∧ FrameEnd U o U' L ({ frames := 2, cells := 1, slots := 1, locals := 32 } : Room).cells ({ frames := 2, cells := 1, slots := 1, locals := 32 } : Room).slots) := by
  refine MetFree.of_bodySF (plainFor_of_name pn_opf) hisR ?_
  intro p e s m args below meth c s₁ Bd hml0 hP hK
  obtain ⟨rfl, hZ, hh⟩ := hP
  have hx := Bd.exec
  have hby := Bd.bytes
  have hml : c.maxLocals = 1 := hml0
  have hown : s.vm.findClass "java/util/Optional" = some m.cls := findClass_of_methodNamed Bd.named
  have hnm := (name_of_methodNamed Bd.named Bd.method).1
  have hlk : meth.locks = false := BodyLoose.notSynchronized Bd
  have X0 : Stand p l e ({ frames := 2, cells := 1, slots := 1, locals := 32 } : Room) s m #[(.ref a1)] below meth c s₁ [] 0 0 := Stand.of_body Bd
  have e0 : s₁.heap = h0 := by rw [← hh, Bd.state]; rfl
  have N0 := Fr.nil n0
  have K0 := Keep.refl h0 []
  obtain ⟨G, hG⟩ : ∃ G : Outcome → State → Prop, G = fun o u => ∃ v L, o = .returned v ∧ Qopf Z a1 h0 n0 v u.heap L ∧ FrameEnd s o u L ({ frames := 2, cells := 1, slots := 1, locals := 32 } : Room).cells ({ frames := 2, cells := 1, slots := 1, locals := 32 } : Room).slots := ⟨_, rfl⟩
  suffices hgo : Owe p.tables e below G s₁ (mkF m 0 #[.val (.ref a1)] []) by
    obtain ⟨u, o, h1, h2, h3, h4⟩ := hgo
    exact ⟨u, o, castTop (ef_opf m a1) h1, h2, h3, by rw [hG] at h4; exact h4⟩
  refine Owe.new X0 hx hZ hown (hw _ (List.mem_of_getElem? (i := 106) rfl)) (hw _ (List.mem_of_getElem? (i := 107) rfl)) (hw _ (List.mem_of_getElem? (i := 104) rfl)) e0 (hb hby d2_0) (by decide) (by decide) fun T7 h7 b7 g7 X7 e7 E7 A7 D7 => ?_
  have sz_b7 := Nat.le_trans K0.1 (Nat.le_of_eq g7.symm)
  have ge_b7 := Nat.le_trans Z0 (Nat.le_of_eq g7.symm)
  have K_8 := K0.ext E7
  have Z_9 := Nat.le_trans Z0 E7.1
  have Fvalue_b7 : Fld Z h7 b7 "java/util/Optional" "value" "Ljava/lang/Object;" .null := D7 (Or.inr (hw _ (List.mem_of_getElem? (i := 118) rfl))) (ty := (.object "java/lang/Object")) (by decide)
  refine Owe.dup X7.here hx (hb hby d2_3) rfl rfl ?_
  refine Owe.aloadN X7.here hx (hb hby d2_4) rfl rfl ?_
  refine Owe.stat X7 hx (y := (⟨"java/util/Objects", "requireNonNull", "(Ljava/lang/Object;)Ljava/lang/Object;"⟩ : MethodName)) hown (mvT hZ (hw _ (List.mem_of_getElem? (i := 108) rfl))) (mvT hZ (hw _ (List.mem_of_getElem? (i := 109) rfl))) (mvT hZ (hw _ (List.mem_of_getElem? (i := 110) rfl))) (mvT hZ (hw _ (List.mem_of_getElem? (i := 111) rfl))) (by decide) (backOf (W := 2) (rmrn1 l Z a0 hw [] a1 h7 n0 Z_9 ) hZ (hw _ (List.mem_of_getElem? (i := 111) rfl)) (hw _ (List.mem_of_getElem? (i := 110) rfl)) (by decide) (by decide)) (by rw [hml]; rfl) (argsL := [(.ref a1)]) (rest := [(.ref b7), (.ref b7)]) (lenOf pd_0 rfl) rfl (Nat.le_of_ble_eq_true rfl) (hb hby d2_5) rfl e7 (by decide) (by decide) fun T10 v10 L10 X10 hQ10 => ?_
  obtain ⟨rfl, Nq10, e10⟩ := hQ10
  have N10 := Fr.app N0 Nq10
  refine Owe.special X10 hx (y := (⟨"java/util/Optional", "<init>", "(Ljava/lang/Object;)V"⟩ : MethodName)) rfl hown (mvT hZ (hw _ (List.mem_of_getElem? (i := 112) rfl))) (mvT hZ (hw _ (List.mem_of_getElem? (i := 113) rfl))) (mvT hZ (hw _ (List.mem_of_getElem? (i := 115) rfl))) (by decide) (backOf (W := 1) (rmopi l Z a0 hw [] b7 a1 .null h7 n0 Z_9 A7 Fvalue_b7 ge_b7) hZ (hw _ (List.mem_of_getElem? (i := 115) rfl)) (hw _ (List.mem_of_getElem? (i := 104) rfl)) (by decide) (by decide)) (by rw [hml]; rfl) (a := b7) (argsL := [(.ref a1)]) (rest := [(.ref b7)]) (lenOf pd_1 rfl) rfl (Nat.le_of_ble_eq_true rfl) (hb hby d2_8) rfl e10 (by decide) (by decide) fun T11 v11 L11 X11 hQ11 => ?_
  obtain ⟨rfl, Nq11, K11, E_a1_11, Fvalue_a1_11⟩ := hQ11
  have N11 := Fr.app N10 Nq11
  have K_12 := K_8.trans K11 (allS (Or.inr sz_b7) all0)
  have A7_13 := A7.keep K11
  have Z_14 := Nat.le_trans Z_9 K11.1
  refine Owe.retR X11 hx hlk (t := (.object "java/util/Optional")) Bd.returns rfl rfl rfl (hb hby d2_11) rfl fun fs hE => ?_
  rw [hG]
  refine ⟨_, _, rfl, ?_, frameMono hE (by decide) (by decide)⟩
  show Qopf Z a1 h0 n0 _ T11.heap _
  exact ⟨b7, rfl, N11, K_12, ge_b7, sz_b7, E_a1_11, Fvalue_a1_11⟩
theorem d3_0 : decode jdk_32_method_1_code 0 = .ok (.getstatic 1, 3) := by decide +kernel
theorem d3_3 : decode jdk_32_method_1_code 3 = .ok (.astore_n 0, 1) := by decide +kernel
theorem d3_4 : decode jdk_32_method_1_code 4 = .ok (.aload_n 0, 1) := by decide +kernel
theorem d3_5 : decode jdk_32_method_1_code 5 = .ok (.areturn, 1) := by decide +kernel
theorem pn_ope : plainName "java/util/Optional" = true := by first | (simp [plainName, overriddenIn]; done) | decide +kernel
theorem ef_ope (m : MethodId)   : entryFrame m #[] 1 = mkF m 0 #[.unset] [] := by first | (simp [entryFrame, mkF, argsToLocals, Value.category]; done) | rfl
def Qope (Z : State) (em : Addr) (h0 : Heap) (n0 : Nat) (v : Option Value) (h : Heap) (L : List Loc) : Prop := v = some (.ref em) ∧ Fr n0 L ∧ h = h0
set_option maxRecDepth 65536 in
set_option maxHeartbeats 40000000 in
theorem rmope (l : Launch) (Z : State) (a0 : Array Value) (hw : ∀ d ∈ tables_1, d.before a0 Z = true) (ws : List Jvm.Cond) (em : Addr) (h0 : Heap) (n0 : Nat) (Z0 : n0 ≤ h0.size) (S_EMPTY : Sta Z Z.heap "java/util/Optional" "EMPTY" "Ljava/util/Optional;" (.ref em)) (Ol : Old Z n0 h0) :
    MetFree l (⟨"java/util/Optional", "empty", "()Ljava/util/Optional;"⟩ : MethodName) (head1 (Jvm.Cond.code (⟨"java/util/Optional", "empty", "()Ljava/util/Optional;"⟩ : MethodName) jdk_32_method_1_code 1 (some (.object "java/util/Optional")) :: ws) ({ frames := 0, cells := 0, slots := 0, locals := 0 } : Room)) (fun a U => a = #[] ∧ Z.Warmed39 U.vm ∧ U.heap = h0) (fun _ _ _ _ _ => True) (fun _ U o U' => ∃ v L, o = .returned v ∧ Qope Z em h0 n0 v U'.heap L ∧ FrameEnd U o U' L ({ frames := 0, cells := 0, slots := 0, locals := 0 } : Room).cells ({ frames := 0, cells := 0, slots := 0, locals := 0 } : Room).slots) := by
  refine MetFree.of_bodySF (plainFor_of_name pn_ope) hisR ?_
  intro p e s m args below meth c s₁ Bd hml0 hP hK
  obtain ⟨rfl, hZ, hh⟩ := hP
  have hx := Bd.exec
  have hby := Bd.bytes
  have hml : c.maxLocals = 1 := hml0
  have hown : s.vm.findClass "java/util/Optional" = some m.cls := findClass_of_methodNamed Bd.named
  have hnm := (name_of_methodNamed Bd.named Bd.method).1
  have hlk : meth.locks = false := BodyLoose.notSynchronized Bd
  have X0 : Stand p l e ({ frames := 0, cells := 0, slots := 0, locals := 0 } : Room) s m #[] below meth c s₁ [] 0 0 := Stand.of_body Bd
  have e0 : s₁.heap = h0 := by rw [← hh, Bd.state]; rfl
  have N0 := Fr.nil n0
  obtain ⟨G, hG⟩ : ∃ G : Outcome → State → Prop, G = fun o u => ∃ v L, o = .returned v ∧ Qope Z em h0 n0 v u.heap L ∧ FrameEnd s o u L ({ frames := 0, cells := 0, slots := 0, locals := 0 } : Room).cells ({ frames := 0, cells := 0, slots := 0, locals := 0 } : Room).slots := ⟨_, rfl⟩
  suffices hgo : Owe p.tables e below G s₁ (mkF m 0 #[.unset] []) by
    obtain ⟨u, o, h1, h2, h3, h4⟩ := hgo
    exact ⟨u, o, castTop (ef_ope m ) h1, h2, h3, by rw [hG] at h4; exact h4⟩
  refine Owe.gets X0 hx hZ hown (hw _ (List.mem_of_getElem? (i := 135) rfl)) Via.refl e0 (S_EMPTY.ext Ol.2) (hb hby d3_0) fun T15 X15 e15 => ?_
  refine Owe.astoreN X15.here hx (hb hby d3_3) rfl rfl (l' := #[.val (.ref em)]) rfl ?_
  refine Owe.aloadN X15.here hx (hb hby d3_4) rfl rfl ?_
  refine Owe.retR X15 hx hlk (t := (.object "java/util/Optional")) Bd.returns rfl rfl rfl (hb hby d3_5) rfl fun fs hE => ?_
  rw [hG]
  refine ⟨_, _, rfl, ?_, frameMono hE (by decide) (by decide)⟩
  show Qope Z em h0 n0 _ T15.heap _
  rw [e15]
  exact ⟨rfl, N0, rfl⟩
theorem d4_0 : decode jdk_32_method_6_code 0 = .ok (.aload_n 0, 1) := by decide +kernel
theorem d4_1 : decode jdk_32_method_6_code 1 = .ok (.getfield 13, 3) := by decide +kernel
theorem d4_4 : decode jdk_32_method_6_code 4 = .ok (.ifnull 7, 3) := by decide +kernel
theorem d4_7 : decode jdk_32_method_6_code 7 = .ok (.iconst 1, 1) := by decide +kernel
theorem d4_8 : decode jdk_32_method_6_code 8 = .ok (.goto 4, 3) := by decide +kernel
theorem d4_11 : decode jdk_32_method_6_code 11 = .ok (.iconst 0, 1) := by decide +kernel
theorem d4_12 : decode jdk_32_method_6_code 12 = .ok (.ireturn, 1) := by decide +kernel
theorem pn_ipy : plainName "java/util/Optional" = true := by first | (simp [plainName, overriddenIn]; done) | decide +kernel
theorem ef_ipy (m : MethodId) (x0 : Addr)  : entryFrame m #[(.ref x0)] 1 = mkF m 0 #[.val (.ref x0)] [] := by first | (simp [entryFrame, mkF, argsToLocals, Value.category]; done) | rfl
def Qipy (Z : State) (a1 : Addr) (w2 : Addr) (h0 : Heap) (n0 : Nat) (v : Option Value) (h : Heap) (L : List Loc) : Prop := v = some (.int (1 : Int32)) ∧ Fr n0 L ∧ h = h0
set_option maxRecDepth 65536 in
set_option maxHeartbeats 40000000 in
theorem rmipy (l : Launch) (Z : State) (a0 : Array Value) (hw : ∀ d ∈ tables_1, d.before a0 Z = true) (ws : List Jvm.Cond) (a1 : Addr) (w2 : Addr) (h0 : Heap) (n0 : Nat) (Z0 : n0 ≤ h0.size) (Fvalue_a1 : Fld Z h0 a1 "java/util/Optional" "value" "Ljava/lang/Object;" (.ref w2)) :
    MetFree l (⟨"java/util/Optional", "isPresent", "()Z"⟩ : MethodName) (head1 (Jvm.Cond.code (⟨"java/util/Optional", "isPresent", "()Z"⟩ : MethodName) jdk_32_method_6_code 1 (some .boolean) :: ws) ({ frames := 0, cells := 0, slots := 0, locals := 0 } : Room)) (fun a U => a = #[(.ref a1)] ∧ Z.Warmed39 U.vm ∧ U.heap = h0) (fun _ _ _ _ _ => True) (fun _ U o U' => ∃ v L, o = .returned v ∧ Qipy Z a1 w2 h0 n0 v U'.heap L ∧ FrameEnd U o U' L ({ frames := 0, cells := 0, slots := 0, locals := 0 } : Room).cells ({ frames := 0, cells := 0, slots := 0, locals := 0 } : Room).slots) := by
  refine MetFree.of_bodySF (plainFor_of_name pn_ipy) hisR ?_
  intro p e s m args below meth c s₁ Bd hml0 hP hK
  obtain ⟨rfl, hZ, hh⟩ := hP
  have hx := Bd.exec
  have hby := Bd.bytes
  have hml : c.maxLocals = 1 := hml0
  have hown : s.vm.findClass "java/util/Optional" = some m.cls := findClass_of_methodNamed Bd.named
  have hnm := (name_of_methodNamed Bd.named Bd.method).1
  have hlk : meth.locks = false := BodyLoose.notSynchronized Bd
  have X0 : Stand p l e ({ frames := 0, cells := 0, slots := 0, locals := 0 } : Room) s m #[(.ref a1)] below meth c s₁ [] 0 0 := Stand.of_body Bd
  have e0 : s₁.heap = h0 := by rw [← hh, Bd.state]; rfl
  have N0 := Fr.nil n0
  obtain ⟨G, hG⟩ : ∃ G : Outcome → State → Prop, G = fun o u => ∃ v L, o = .returned v ∧ Qipy Z a1 w2 h0 n0 v u.heap L ∧ FrameEnd s o u L ({ frames := 0, cells := 0, slots := 0, locals := 0 } : Room).cells ({ frames := 0, cells := 0, slots := 0, locals := 0 } : Room).slots := ⟨_, rfl⟩
  suffices hgo : Owe p.tables e below G s₁ (mkF m 0 #[.val (.ref a1)] []) by
    obtain ⟨u, o, h1, h2, h3, h4⟩ := hgo
    exact ⟨u, o, castTop (ef_ipy m a1) h1, h2, h3, by rw [hG] at h4; exact h4⟩
  refine Owe.aloadN X0.here hx (hb hby d4_0) rfl rfl ?_
  refine Owe.getf X0 hx hZ (host := "") hown (Or.inl (hw _ (List.mem_of_getElem? (i := 117) rfl))) Via.refl e0 Fvalue_a1 (hb hby d4_1) rfl fun T16 X16 e16 => ?_
  refine Owe.ifnullNo X16.here hx (hb hby d4_4) rfl ?_
  refine Owe.iconst X16.here hx (hb hby d4_7) (w := (1 : Int32)) rfl ?_
  refine Owe.goto X16.here hx (hb hby d4_8) (pc' := 12) (by decide) (by decide) ?_
  refine Owe.retN X16 hx hlk (t := .boolean) Bd.returns (by simp) (hb hby d4_12) rfl fun fs hE => ?_
  rw [hG]
  refine ⟨_, _, rfl, ?_, frameMono hE (by decide) (by decide)⟩
  show Qipy Z a1 w2 h0 n0 _ T16.heap _
  rw [e16]
  exact ⟨rfl, N0, rfl⟩
theorem pn_ipn : plainName "java/util/Optional" = true := by first | (simp [plainName, overriddenIn]; done) | decide +kernel
theorem ef_ipn (m : MethodId) (x0 : Addr)  : entryFrame m #[(.ref x0)] 1 = mkF m 0 #[.val (.ref x0)] [] := by first | (simp [entryFrame, mkF, argsToLocals, Value.category]; done) | rfl
def Qipn (Z : State) (a1 : Addr) (h0 : Heap) (n0 : Nat) (v : Option Value) (h : Heap) (L : List Loc) : Prop := v = some (.int (0 : Int32)) ∧ Fr n0 L ∧ h = h0
set_option maxRecDepth 65536 in
set_option maxHeartbeats 40000000 in
theorem rmipn (l : Launch) (Z : State) (a0 : Array Value) (hw : ∀ d ∈ tables_1, d.before a0 Z = true) (ws : List Jvm.Cond) (a1 : Addr) (h0 : Heap) (n0 : Nat) (Z0 : n0 ≤ h0.size) (Fvalue_a1 : Fld Z h0 a1 "java/util/Optional" "value" "Ljava/lang/Object;" .null) :
    MetFree l (⟨"java/util/Optional", "isPresent", "()Z"⟩ : MethodName) (head1 (Jvm.Cond.code (⟨"java/util/Optional", "isPresent", "()Z"⟩ : MethodName) jdk_32_method_6_code 1 (some .boolean) :: ws) ({ frames := 0, cells := 0, slots := 0, locals := 0 } : Room)) (fun a U => a = #[(.ref a1)] ∧ Z.Warmed39 U.vm ∧ U.heap = h0) (fun _ _ _ _ _ => True) (fun _ U o U' => ∃ v L, o = .returned v ∧ Qipn Z a1 h0 n0 v U'.heap L ∧ FrameEnd U o U' L ({ frames := 0, cells := 0, slots := 0, locals := 0 } : Room).cells ({ frames := 0, cells := 0, slots := 0, locals := 0 } : Room).slots) := by
  refine MetFree.of_bodySF (plainFor_of_name pn_ipn) hisR ?_
  intro p e s m args below meth c s₁ Bd hml0 hP hK
  obtain ⟨rfl, hZ, hh⟩ := hP
  have hx := Bd.exec
  have hby := Bd.bytes
  have hml : c.maxLocals = 1 := hml0
  have hown : s.vm.findClass "java/util/Optional" = some m.cls := findClass_of_methodNamed Bd.named
  have hnm := (name_of_methodNamed Bd.named Bd.method).1
  have hlk : meth.locks = false := BodyLoose.notSynchronized Bd
  have X0 : Stand p l e ({ frames := 0, cells := 0, slots := 0, locals := 0 } : Room) s m #[(.ref a1)] below meth c s₁ [] 0 0 := Stand.of_body Bd
  have e0 : s₁.heap = h0 := by rw [← hh, Bd.state]; rfl
  have N0 := Fr.nil n0
  obtain ⟨G, hG⟩ : ∃ G : Outcome → State → Prop, G = fun o u => ∃ v L, o = .returned v ∧ Qipn Z a1 h0 n0 v u.heap L ∧ FrameEnd s o u L ({ frames := 0, cells := 0, slots := 0, locals := 0 } : Room).cells ({ frames := 0, cells := 0, slots := 0, locals := 0 } : Room).slots := ⟨_, rfl⟩
  suffices hgo : Owe p.tables e below G s₁ (mkF m 0 #[.val (.ref a1)] []) by
    obtain ⟨u, o, h1, h2, h3, h4⟩ := hgo
    exact ⟨u, o, castTop (ef_ipn m a1) h1, h2, h3, by rw [hG] at h4; exact h4⟩
  refine Owe.aloadN X0.here hx (hb hby d4_0) rfl rfl ?_
  refine Owe.getf X0 hx hZ (host := "") hown (Or.inl (hw _ (List.mem_of_getElem? (i := 117) rfl))) Via.refl e0 Fvalue_a1 (hb hby d4_1) rfl fun T17 X17 e17 => ?_
  refine Owe.ifnullYes X17.here hx (hb hby d4_4) rfl (pc' := 11) (by decide) (by decide) ?_
  refine Owe.iconst X17.here hx (hb hby d4_11) (w := (0 : Int32)) rfl ?_
  refine Owe.retN X17 hx hlk (t := .boolean) Bd.returns (by simp) (hb hby d4_12) rfl fun fs hE => ?_
  rw [hG]
  refine ⟨_, _, rfl, ?_, frameMono hE (by decide) (by decide)⟩
  show Qipn Z a1 h0 n0 _ T17.heap _
  rw [e17]
  exact ⟨rfl, N0, rfl⟩
theorem d5_0 : decode jdk_32_method_5_code 0 = .ok (.aload_n 0, 1) := by decide +kernel
theorem d5_1 : decode jdk_32_method_5_code 1 = .ok (.getfield 13, 3) := by decide +kernel
theorem d5_4 : decode jdk_32_method_5_code 4 = .ok (.ifnonnull 13, 3) := by decide +kernel
theorem d5_7 : decode jdk_32_method_5_code 7 = .ok (.new 26, 3) := by decide +kernel
theorem d5_10 : decode jdk_32_method_5_code 10 = .ok (.dup, 1) := by decide +kernel
theorem d5_11 : decode jdk_32_method_5_code 11 = .ok (.ldc 28, 2) := by decide +kernel
theorem d5_13 : decode jdk_32_method_5_code 13 = .ok (.invokespecial 30, 3) := by decide +kernel
theorem d5_16 : decode jdk_32_method_5_code 16 = .ok (.athrow, 1) := by decide +kernel
theorem d5_17 : decode jdk_32_method_5_code 17 = .ok (.aload_n 0, 1) := by decide +kernel
theorem d5_18 : decode jdk_32_method_5_code 18 = .ok (.getfield 13, 3) := by decide +kernel
theorem d5_21 : decode jdk_32_method_5_code 21 = .ok (.areturn, 1) := by decide +kernel
theorem pn_opg : plainName "java/util/Optional" = true := by first | (simp [plainName, overriddenIn]; done) | decide +kernel
theorem ef_opg (m : MethodId) (x0 : Addr)  : entryFrame m #[(.ref x0)] 1 = mkF m 0 #[.val (.ref x0)] [] := by first | (simp [entryFrame, mkF, argsToLocals, Value.category]; done) | rfl
def Qopg (Z : State) (a1 : Addr) (w2 : Addr) (h0 : Heap) (n0 : Nat) (v : Option Value) (h : Heap) (L : List Loc) : Prop := v = some (.ref w2) ∧ Fr n0 L ∧ h = h0
set_option maxRecDepth 65536 in
set_option maxHeartbeats 40000000 in
theorem rmopg (l : Launch) (Z : State) (a0 : Array Value) (hw : ∀ d ∈ tables_1, d.before a0 Z = true) (ws : List Jvm.Cond) (a1 : Addr) (w2 : Addr) (h0 : Heap) (n0 : Nat) (Z0 : n0 ≤ h0.size) (Fvalue_a1 : Fld Z h0 a1 "java/util/Optional" "value" "Ljava/lang/Object;" (.ref w2)) :
    MetFree l (⟨"java/util/Optional", "get", "()Ljava/lang/Object;"⟩ : MethodName) (head1 (Jvm.Cond.code (⟨"java/util/Optional", "get", "()Ljava/lang/Object;"⟩ : MethodName) jdk_32_method_5_code 1 (some (.object "java/lang/Object")) :: ws) ({ frames := 0, cells := 0, slots := 0, locals := 0 } : Room)) (fun a U => a = #[(.ref a1)] ∧ Z.Warmed39 U.vm ∧ U.heap = h0) (fun _ _ _ _ _ => True) (fun _ U o U' => ∃ v L, o = .returned v ∧ Qopg Z a1 w2 h0 n0 v U'.heap L ∧ FrameEnd U o U' L ({ frames := 0, cells := 0, slots := 0, locals := 0 } : Room).cells ({ frames := 0, cells := 0, slots := 0, locals := 0 } : Room).slots) := by
  refine MetFree.of_bodySF (plainFor_of_name pn_opg) hisR ?_
  intro p e s m args below meth c s₁ Bd hml0 hP hK
  obtain ⟨rfl, hZ, hh⟩ := hP
  have hx := Bd.exec
  have hby := Bd.bytes
  have hml : c.maxLocals = 1 := hml0
  have hown : s.vm.findClass "java/util/Optional" = some m.cls := findClass_of_methodNamed Bd.named
  have hnm := (name_of_methodNamed Bd.named Bd.method).1
  have hlk : meth.locks = false := BodyLoose.notSynchronized Bd
  have X0 : Stand p l e ({ frames := 0, cells := 0, slots := 0, locals := 0 } : Room) s m #[(.ref a1)] below meth c s₁ [] 0 0 := Stand.of_body Bd
  have e0 : s₁.heap = h0 := by rw [← hh, Bd.state]; rfl
  have N0 := Fr.nil n0
  obtain ⟨G, hG⟩ : ∃ G : Outcome → State → Prop, G = fun o u => ∃ v L, o = .returned v ∧ Qopg Z a1 w2 h0 n0 v u.heap L ∧ FrameEnd s o u L ({ frames := 0, cells := 0, slots := 0, locals := 0 } : Room).cells ({ frames := 0, cells := 0, slots := 0, locals := 0 } : Room).slots := ⟨_, rfl⟩
  suffices hgo : Owe p.tables e below G s₁ (mkF m 0 #[.val (.ref a1)] []) by
    obtain ⟨u, o, h1, h2, h3, h4⟩ := hgo
    exact ⟨u, o, castTop (ef_opg m a1) h1, h2, h3, by rw [hG] at h4; exact h4⟩
  refine Owe.aloadN X0.here hx (hb hby d5_0) rfl rfl ?_
  refine Owe.getf X0 hx hZ (host := "") hown (Or.inl (hw _ (List.mem_of_getElem? (i := 117) rfl))) Via.refl e0 Fvalue_a1 (hb hby d5_1) rfl fun T18 X18 e18 => ?_
  refine Owe.ifnonnullYes X18.here hx (hb hby d5_4) rfl (pc' := 17) (by decide) (by decide) ?_
  refine Owe.aloadN X18.here hx (hb hby d5_17) rfl rfl ?_
  refine Owe.getf X18 hx hZ (host := "") hown (Or.inl (hw _ (List.mem_of_getElem? (i := 117) rfl))) Via.refl e18 Fvalue_a1 (hb hby d5_18) rfl fun T19 X19 e19 => ?_
  refine Owe.retR X19 hx hlk (t := (.object "java/lang/Object")) Bd.returns rfl rfl rfl (hb hby d5_21) rfl fun fs hE => ?_
  rw [hG]
  refine ⟨_, _, rfl, ?_, frameMono hE (by decide) (by decide)⟩
  show Qopg Z a1 w2 h0 n0 _ T19.heap _
  rw [e19]
  exact ⟨rfl, N0, rfl⟩
theorem d6_0 : decode jdk_42_method_149_code 0 = .ok (.aload_n 0, 1) := by decide +kernel
theorem d6_1 : decode jdk_42_method_149_code 1 = .ok (.invokespecial 1, 3) := by decide +kernel
theorem d6_4 : decode jdk_42_method_149_code 4 = .ok (.iload_n 3, 1) := by decide +kernel
theorem d6_5 : decode jdk_42_method_149_code 5 = .ok (.ifCond .ne 22, 3) := by decide +kernel
theorem d6_8 : decode jdk_42_method_149_code 8 = .ok (.aload_n 0, 1) := by decide +kernel
theorem d6_9 : decode jdk_42_method_149_code 9 = .ok (.ldc 7, 2) := by decide +kernel
theorem d6_11 : decode jdk_42_method_149_code 11 = .ok (.getfield 9, 3) := by decide +kernel
theorem d6_14 : decode jdk_42_method_149_code 14 = .ok (.putfield 9, 3) := by decide +kernel
theorem d6_17 : decode jdk_42_method_149_code 17 = .ok (.aload_n 0, 1) := by decide +kernel
theorem d6_18 : decode jdk_42_method_149_code 18 = .ok (.ldc 7, 2) := by decide +kernel
theorem d6_20 : decode jdk_42_method_149_code 20 = .ok (.getfield 15, 3) := by decide +kernel
theorem d6_23 : decode jdk_42_method_149_code 23 = .ok (.putfield 15, 3) := by decide +kernel
theorem d6_26 : decode jdk_42_method_149_code 26 = .ok (.return_, 1) := by decide +kernel
theorem d6_27 : decode jdk_42_method_149_code 27 = .ok (.getstatic 38, 3) := by decide +kernel
theorem d6_30 : decode jdk_42_method_149_code 30 = .ok (.ifCond .eq 28, 3) := by decide +kernel
theorem d6_33 : decode jdk_42_method_149_code 33 = .ok (.aload_n 1, 1) := by decide +kernel
theorem d6_34 : decode jdk_42_method_149_code 34 = .ok (.iload_n 2, 1) := by decide +kernel
theorem d6_35 : decode jdk_42_method_149_code 35 = .ok (.iload_n 3, 1) := by decide +kernel
theorem d6_36 : decode jdk_42_method_149_code 36 = .ok (.invokestatic 177, 3) := by decide +kernel
theorem d6_39 : decode jdk_42_method_149_code 39 = .ok (.astore 5, 2) := by decide +kernel
theorem d6_41 : decode jdk_42_method_149_code 41 = .ok (.aload_n 0, 1) := by decide +kernel
theorem d6_42 : decode jdk_42_method_149_code 42 = .ok (.aload 5, 2) := by decide +kernel
theorem d6_44 : decode jdk_42_method_149_code 44 = .ok (.iload_n 3, 1) := by decide +kernel
theorem d6_45 : decode jdk_42_method_149_code 45 = .ok (.invokestatic 47, 3) := by decide +kernel
theorem d6_48 : decode jdk_42_method_149_code 48 = .ok (.putfield 15, 3) := by decide +kernel
theorem d6_51 : decode jdk_42_method_149_code 51 = .ok (.aload_n 0, 1) := by decide +kernel
theorem d6_52 : decode jdk_42_method_149_code 52 = .ok (.aload 5, 2) := by decide +kernel
theorem d6_54 : decode jdk_42_method_149_code 54 = .ok (.putfield 9, 3) := by decide +kernel
theorem d6_57 : decode jdk_42_method_149_code 57 = .ok (.return_, 1) := by decide +kernel
theorem d6_58 : decode jdk_42_method_149_code 58 = .ok (.aload_n 0, 1) := by decide +kernel
theorem d6_59 : decode jdk_42_method_149_code 59 = .ok (.iconst 1, 1) := by decide +kernel
theorem d6_60 : decode jdk_42_method_149_code 60 = .ok (.putfield 15, 3) := by decide +kernel
theorem d6_63 : decode jdk_42_method_149_code 63 = .ok (.aload_n 0, 1) := by decide +kernel
theorem d6_64 : decode jdk_42_method_149_code 64 = .ok (.aload_n 1, 1) := by decide +kernel
theorem d6_65 : decode jdk_42_method_149_code 65 = .ok (.iload_n 2, 1) := by decide +kernel
theorem d6_66 : decode jdk_42_method_149_code 66 = .ok (.iload_n 3, 1) := by decide +kernel
theorem d6_67 : decode jdk_42_method_149_code 67 = .ok (.invokestatic 180, 3) := by decide +kernel
theorem d6_70 : decode jdk_42_method_149_code 70 = .ok (.putfield 9, 3) := by decide +kernel
theorem d6_73 : decode jdk_42_method_149_code 73 = .ok (.return_, 1) := by decide +kernel
theorem pn_se2 : plainName "java/lang/String" = true := by first | (simp [plainName, overriddenIn]; done) | decide +kernel
theorem ef_se2 (m : MethodId) (x0 : Addr) (x1 : Addr) (x2 : Int32) (x3 : Int32)  : entryFrame m #[(.ref x0), (.ref x1), (.int x2), (.int x3), .null] 6 = mkF m 0 #[.val (.ref x0), .val (.ref x1), .val (.int x2), .val (.int x3), .val .null, .unset] [] := by first | (simp [entryFrame, mkF, argsToLocals, Value.category]; done) | rfl
def Qse2 (Z : State) (a1 : Addr) (a2 : Addr) (h0 : Heap) (n0 : Nat) (v : Option Value) (h : Heap) (L : List Loc) : Prop := ∃ (b1 : Addr), ∃ (kb1 : ClassId), v = none ∧ Fr n0 L ∧ Keep h0 h [a1] ∧ Exa Z h a1 "java/lang/String" ∧ Fld Z h a1 "java/lang/String" "value" "[B" (.ref b1) ∧ Fld Z h a1 "java/lang/String" "coder" "B" (.int (0 : Int32)) ∧ Arv Z h b1 kb1 .byte (0 : Int32) [] (.int (0 : Int32)) ∧ (∀ c ∈ ([] : List Int32), ¬ c < 0 ∧ ¬ (255 : Int32) < c) ∧ ([] : List Int32).length ≤ 4000
set_option maxRecDepth 65536 in
set_option maxHeartbeats 40000000 in
theorem rmse2 (l : Launch) (Z : State) (a0 : Array Value) (hw : ∀ d ∈ tables_1, d.before a0 Z = true) (ws : List Jvm.Cond) (a1 : Addr) (a2 : Addr) (h0 : Heap) (n0 : Nat) (Z0 : n0 ≤ h0.size) (E_a1 : Exa Z h0 a1 "java/lang/String") (Fvalue_a1 : Fld Z h0 a1 "java/lang/String" "value" "[B" .null) (Fcoder_a1 : Fld Z h0 a1 "java/lang/String" "coder" "B" (.int (0 : Int32))) (ge_a1 : n0 ≤ a1) :
    MetFree l (⟨"java/lang/String", "<init>", "([CIILjava/lang/Void;)V"⟩ : MethodName) (head1 (Jvm.Cond.code (⟨"java/lang/String", "<init>", "([CIILjava/lang/Void;)V"⟩ : MethodName) jdk_42_method_149_code 6 none :: ws) ({ frames := 1, cells := 2, slots := 4, locals := 13 } : Room)) (fun a U => a = #[(.ref a1), (.ref a2), (.int (0 : Int32)), (.int (0 : Int32)), .null] ∧ Z.Warmed39 U.vm ∧ U.heap = h0 ∧ CHv Z own_EL U.vm h0) (fun _ _ _ _ _ => True) (fun _ U o U' => ∃ v L, o = .returned v ∧ Qse2 Z a1 a2 h0 n0 v U'.heap L ∧ CHr Z own_EL U.vm U.heap U'.vm U'.heap ∧ ReturnedEndW U o U' L ({ frames := 1, cells := 2, slots := 4, locals := 13 } : Room).cells ({ frames := 1, cells := 2, slots := 4, locals := 13 } : Room).slots) := by
  refine MetFree.of_bodySF (plainFor_of_name pn_se2) hisR ?_
  intro p e s m args below meth c s₁ Bd hml0 hP hK
  obtain ⟨rfl, hZ0, hh, H0⟩ := hP
  have hx := Bd.exec
  have hby := Bd.bytes
  have hml : c.maxLocals = 6 := hml0
  have hown : s.vm.findClass "java/lang/String" = some m.cls := findClass_of_methodNamed Bd.named
  have hnm := (name_of_methodNamed Bd.named Bd.method).1
  have hlk : meth.locks = false := BodyLoose.notSynchronized Bd
  have X0 : Stand p l e ({ frames := 1, cells := 2, slots := 4, locals := 13 } : Room) (s.setVm s.vm) m #[(.ref a1), (.ref a2), (.int (0 : Int32)), (.int (0 : Int32)), .null] below meth c s₁ [] 0 0 := Stand.of_body Bd
  have e0 : s₁.heap = h0 := by rw [← hh, Bd.state]; rfl
  have N0 := Fr.nil n0
  have K0 := Keep.refl h0 [a1]
  have hZ : Z.Warmed39 (s.setVm s.vm).vm := hZ0
  have hown1 : (s.setVm s.vm).vm.findClass "java/lang/String" = some m.cls := hown
  have hS0 : s.Since s.vm 0 := (State.WarmedH.refl s).since 0
  have hk0 : 0 ≤ h0.size := Nat.zero_le _
  have R0 : CHr Z own_EL s.vm h0 s.vm h0 := CHr.refl H0
  have sf_a1 : Safe Z own_EL s.vm h0 a1 := own_safe_null hZ0.alike E_a1 Fvalue_a1
  obtain ⟨G, hG⟩ : ∃ G : Outcome → State → Prop, G = fun o u => ∃ v L, o = .returned v ∧ Qse2 Z a1 a2 h0 n0 v u.heap L ∧ CHr Z own_EL s.vm s.heap u.vm u.heap ∧ ReturnedEndW s o u L ({ frames := 1, cells := 2, slots := 4, locals := 13 } : Room).cells ({ frames := 1, cells := 2, slots := 4, locals := 13 } : Room).slots := ⟨_, rfl⟩
  suffices hgo : Owe p.tables e below G s₁ (mkF m 0 #[.val (.ref a1), .val (.ref a2), .val (.int (0 : Int32)), .val (.int (0 : Int32)), .val .null, .unset] []) by
    obtain ⟨u, o, h1, h2, h3, h4⟩ := hgo
    exact ⟨u, o, castTop (ef_se2 m a1 a2 (0 : Int32) (0 : Int32)) h1, h2, h3, by rw [hG] at h4; exact h4⟩
  refine Owe.aloadN X0.here hx (hb hby d6_0) rfl rfl ?_
  refine Owe.objinit X0 hx hZ hown1 (hw _ (List.mem_of_getElem? (i := 57) rfl)) (hw _ (List.mem_of_getElem? (i := 58) rfl)) (hw _ (List.mem_of_getElem? (i := 59) rfl)) e0 (by rw [hml]; rfl) rfl (hb hby d6_1) (by decide) (W := 0) (Nat.le_of_ble_eq_true rfl) (by decide) fun T20 X20 e20 => ?_
  refine Owe.iloadN X20.here hx (hb hby d6_4) rfl ?_
  refine Owe.ifNo X20.here hx (hb hby d6_5) rfl ((if0 _ _).trans (teq (by decide)).2) ?_
  refine Owe.aloadN X20.here hx (hb hby d6_8) rfl rfl ?_
  refine Owe.ldcV X20 hx hZ hS0 (own_ew hw) H0 (by decide) hown1 (hw _ (List.mem_of_getElem? (i := 131) rfl)) (own_wS hw) e20 hk0 (vs := []) (z := (0 : Int32)) (by decide) (by decide) rfl (hb hby d6_9) (n := 0) (by decide) (by decide) (by decide) (by decide) fun l21 T21 h21 k21 lb21 lk21 X21 e21 E21 hS21 hk21 hZ21 hown21 Ex21 Fc21 Fv21 Vb21 hC21 Lt21 nsf21 => ?_
  have hk22 := Nat.le_trans hk0 E21.1
  have K_23 := K0.ext E21
  have E_a1_24 := E_a1.ext E21
  have Fvalue_a1_25 := Fvalue_a1.ext E21
  have Fcoder_a1_26 := Fcoder_a1.ext E21
  have Z_27 := Nat.le_trans Z0 E21.1
  have sf_a1_21 := CHr.safe hC21 E_a1.lt sf_a1
  have Rr21 := R0.trans hC21
  have H21 := hC21.1
  have ne_a1_l21 := (nsf21 _ sf_a1_21).1
  have ne_a1_lb21 := (nsf21 _ sf_a1_21).2
  refine Owe.getf X21 hx hZ21 (host := "") hown21 (Or.inl (hw _ (List.mem_of_getElem? (i := 15) rfl))) Via.refl e21 Fv21 (hb hby d6_11) rfl fun T28 X28 e28 => ?_
  refine Owe.putf X28 hx hZ21 (host := "") hown21 (Or.inl (hw _ (List.mem_of_getElem? (i := 15) rfl))) Via.refl e28 Fvalue_a1_25 E_a1_24 (Or.inr ⟨(hw _ (List.mem_of_getElem? (i := 6) rfl)), rfl, hnm⟩) (hw _ (List.mem_of_getElem? (i := 4) rfl)) (ty := (.array .byte)) (by decide) rfl rfl (hb hby d6_14) rfl fun T29 h29 X29 e29 W29 => ?_
  have hk30 := Nat.le_trans hk21 (Keep.of_wr W29).1
  have sf_a1_30 := Safe.wr W29 sf_a1_21 H21 sf_a1_21
  have Rr30 := Rr21.trans (CHr.wr W29 sf_a1_21 H21)
  have H30 := CHv.wr W29 sf_a1_21 H21
  have K_31 := K_23.wr W29 (Or.inl (List.mem_of_getElem? (i := 0) rfl))
  have E_a1_32 := E_a1_24.wr W29
  have Fvalue_a1_33 := Fvalue_a1_25.same W29
  have Fcoder_a1_34 := Fcoder_a1_26.other W29 (Or.inr (slot_ne (Or.inr (hw _ (List.mem_of_getElem? (i := 7) rfl))) (Or.inr (hw _ (List.mem_of_getElem? (i := 6) rfl))) (by decide) (t := .byte) (t' := (.array .byte)) (by decide) (by decide)))
  have Ex21_35 := Ex21.wr W29
  have Fc21_36 := Fc21.other W29 (Or.inl (Ne.symm ne_a1_l21))
  have Fv21_37 := Fv21.other W29 (Or.inl (Ne.symm ne_a1_l21))
  have Vb21_38 := Vb21.other W29 (Ne.symm ne_a1_lb21)
  have Z_39 := Nat.le_trans Z_27 (Keep.of_wr W29).1
  have N29 := Fr.snoc X29 N0 ge_a1
  refine Owe.aloadN X29.here hx (hb hby d6_17) rfl rfl ?_
  refine Owe.ldcA X29 hx hZ21 hown21 (hw _ (List.mem_of_getElem? (i := 131) rfl)) Lt21 (hb hby d6_18) ?_
  refine Owe.getf X29 hx hZ21 (host := "") hown21 (Or.inl (hw _ (List.mem_of_getElem? (i := 22) rfl))) Via.refl e29 Fc21_36 (hb hby d6_20) rfl fun T41 X41 e41 => ?_
  refine Owe.putf X41 hx hZ21 (host := "") hown21 (Or.inl (hw _ (List.mem_of_getElem? (i := 22) rfl))) Via.refl e41 Fcoder_a1_34 E_a1_32 (Or.inr ⟨(hw _ (List.mem_of_getElem? (i := 7) rfl)), rfl, hnm⟩) (hw _ (List.mem_of_getElem? (i := 4) rfl)) (ty := .byte) (by decide) rfl rfl (hb hby d6_23) rfl fun T42 h42 X42 e42 W42 => ?_
  have hk43 := Nat.le_trans hk30 (Keep.of_wr W42).1
  have sf_a1_43 := Safe.wr W42 sf_a1_30 H30 sf_a1_30
  have Rr43 := Rr30.trans (CHr.wr W42 sf_a1_30 H30)
  have H43 := CHv.wr W42 sf_a1_30 H30
  have K_44 := K_31.wr W42 (Or.inl (List.mem_of_getElem? (i := 0) rfl))
  have E_a1_45 := E_a1_32.wr W42
  have Fvalue_a1_46 := Fvalue_a1_33.other W42 (Or.inr (slot_ne (Or.inr (hw _ (List.mem_of_getElem? (i := 6) rfl))) (Or.inr (hw _ (List.mem_of_getElem? (i := 7) rfl))) (by decide) (t := (.array .byte)) (t' := .byte) (by decide) (by decide)))
  have Fcoder_a1_47 := Fcoder_a1_34.same W42
  have Ex21_48 := Ex21_35.wr W42
  have Fc21_49 := Fc21_36.other W42 (Or.inl (Ne.symm ne_a1_l21))
  have Fv21_50 := Fv21_37.other W42 (Or.inl (Ne.symm ne_a1_l21))
  have Vb21_51 := Vb21_38.other W42 (Ne.symm ne_a1_lb21)
  have Z_52 := Nat.le_trans Z_39 (Keep.of_wr W42).1
  have N42 := Fr.snoc X42 N29 ge_a1
  refine Owe.ret0W X42 hx hS21 e42 hk43 hlk Bd.returns (hb hby d6_26) rfl fun fs hE => ?_
  rw [hG]
  refine ⟨_, _, rfl, ?_, ?_, coldMono hE (by decide) (by decide)⟩
  rotate_left
  · rw [hh]
    show CHr Z own_EL s.vm h0 T42.vm T42.heap
    rw [e42]
    exact Rr43.trans (CHv.at X42 hZ21 (own_ew hw) H43)
  show Qse2 Z a1 a2 h0 n0 _ T42.heap _
  rw [e42]
  exact ⟨lb21, lk21, rfl, N42, K_44, E_a1_45, Fvalue_a1_46, Fcoder_a1_47, Vb21_51, own_T0⟩
theorem d7_0 : decode jdk_42_method_3_code 0 = .ok (.aload_n 0, 1) := by decide +kernel
theorem d7_1 : decode jdk_42_method_3_code 1 = .ok (.aload_n 1, 1) := by decide +kernel
theorem d7_2 : decode jdk_42_method_3_code 2 = .ok (.iconst 0, 1) := by decide +kernel
theorem d7_3 : decode jdk_42_method_3_code 3 = .ok (.aload_n 1, 1) := by decide +kernel
theorem d7_4 : decode jdk_42_method_3_code 4 = .ok (.arraylength, 1) := by decide +kernel
theorem d7_5 : decode jdk_42_method_3_code 5 = .ok (.aconst_null, 1) := by decide +kernel
theorem d7_6 : decode jdk_42_method_3_code 6 = .ok (.invokespecial 27, 3) := by decide +kernel
theorem d7_9 : decode jdk_42_method_3_code 9 = .ok (.return_, 1) := by decide +kernel
theorem pn_se1 : plainName "java/lang/String" = true := by first | (simp [plainName, overriddenIn]; done) | decide +kernel
theorem ef_se1 (m : MethodId) (x0 : Addr) (x1 : Addr)  : entryFrame m #[(.ref x0), (.ref x1)] 2 = mkF m 0 #[.val (.ref x0), .val (.ref x1)] [] := by first | (simp [entryFrame, mkF, argsToLocals, Value.category]; done) | rfl
def Qse1 (Z : State) (a1 : Addr) (a2 : Addr) (k2 : ClassId) (h0 : Heap) (n0 : Nat) (v : Option Value) (h : Heap) (L : List Loc) : Prop := ∃ (b1 : Addr), ∃ (kb1 : ClassId), v = none ∧ Fr n0 L ∧ Keep h0 h [a1] ∧ Exa Z h a1 "java/lang/String" ∧ Fld Z h a1 "java/lang/String" "value" "[B" (.ref b1) ∧ Fld Z h a1 "java/lang/String" "coder" "B" (.int (0 : Int32)) ∧ Arv Z h b1 kb1 .byte (0 : Int32) [] (.int (0 : Int32)) ∧ (∀ c ∈ ([] : List Int32), ¬ c < 0 ∧ ¬ (255 : Int32) < c) ∧ ([] : List Int32).length ≤ 4000
set_option maxRecDepth 65536 in
set_option maxHeartbeats 40000000 in
theorem rmse1 (l : Launch) (Z : State) (a0 : Array Value) (hw : ∀ d ∈ tables_1, d.before a0 Z = true) (ws : List Jvm.Cond) (a1 : Addr) (a2 : Addr) (k2 : ClassId) (h0 : Heap) (n0 : Nat) (Z0 : n0 ≤ h0.size) (E_a1 : Exa Z h0 a1 "java/lang/String") (Fvalue_a1 : Fld Z h0 a1 "java/lang/String" "value" "[B" .null) (Fcoder_a1 : Fld Z h0 a1 "java/lang/String" "coder" "B" (.int (0 : Int32))) (ge_a1 : n0 ≤ a1) (V_a2 : Arv Z h0 a2 k2 .char (0 : Int32) [] (.int (0 : Int32))) (ne_a2_a1 : a2 ≠ a1) :
    MetFree l (⟨"java/lang/String", "<init>", "([C)V"⟩ : MethodName) (head1 (Jvm.Cond.code (⟨"java/lang/String", "<init>", "([C)V"⟩ : MethodName) jdk_42_method_3_code 2 none :: ws) ({ frames := 2, cells := 2, slots := 4, locals := 30 } : Room)) (fun a U => a = #[(.ref a1), (.ref a2)] ∧ Z.Warmed39 U.vm ∧ U.heap = h0 ∧ CHv Z own_EL U.vm h0) (fun _ _ _ _ _ => True) (fun _ U o U' => ∃ v L, o = .returned v ∧ Qse1 Z a1 a2 k2 h0 n0 v U'.heap L ∧ CHr Z own_EL U.vm U.heap U'.vm U'.heap ∧ ReturnedEndW U o U' L ({ frames := 2, cells := 2, slots := 4, locals := 30 } : Room).cells ({ frames := 2, cells := 2, slots := 4, locals := 30 } : Room).slots) := by
  refine MetFree.of_bodySF (plainFor_of_name pn_se1) hisR ?_
  intro p e s m args below meth c s₁ Bd hml0 hP hK
  obtain ⟨rfl, hZ0, hh, H0⟩ := hP
  have hx := Bd.exec
  have hby := Bd.bytes
  have hml : c.maxLocals = 2 := hml0
  have hown : s.vm.findClass "java/lang/String" = some m.cls := findClass_of_methodNamed Bd.named
  have hnm := (name_of_methodNamed Bd.named Bd.method).1
  have hlk : meth.locks = false := BodyLoose.notSynchronized Bd
  have X0 : Stand p l e ({ frames := 2, cells := 2, slots := 4, locals := 30 } : Room) (s.setVm s.vm) m #[(.ref a1), (.ref a2)] below meth c s₁ [] 0 0 := Stand.of_body Bd
  have e0 : s₁.heap = h0 := by rw [← hh, Bd.state]; rfl
  have N0 := Fr.nil n0
  have K0 := Keep.refl h0 [a1]
  have hZ : Z.Warmed39 (s.setVm s.vm).vm := hZ0
  have hown1 : (s.setVm s.vm).vm.findClass "java/lang/String" = some m.cls := hown
  have hS0 : s.Since s.vm 0 := (State.WarmedH.refl s).since 0
  have hk0 : 0 ≤ h0.size := Nat.zero_le _
  have R0 : CHr Z own_EL s.vm h0 s.vm h0 := CHr.refl H0
  have sf_a1 : Safe Z own_EL s.vm h0 a1 := own_safe_null hZ0.alike E_a1 Fvalue_a1
  obtain ⟨G, hG⟩ : ∃ G : Outcome → State → Prop, G = fun o u => ∃ v L, o = .returned v ∧ Qse1 Z a1 a2 k2 h0 n0 v u.heap L ∧ CHr Z own_EL s.vm s.heap u.vm u.heap ∧ ReturnedEndW s o u L ({ frames := 2, cells := 2, slots := 4, locals := 30 } : Room).cells ({ frames := 2, cells := 2, slots := 4, locals := 30 } : Room).slots := ⟨_, rfl⟩
  suffices hgo : Owe p.tables e below G s₁ (mkF m 0 #[.val (.ref a1), .val (.ref a2)] []) by
    obtain ⟨u, o, h1, h2, h3, h4⟩ := hgo
    exact ⟨u, o, castTop (ef_se1 m a1 a2) h1, h2, h3, by rw [hG] at h4; exact h4⟩
  refine Owe.aloadN X0.here hx (hb hby d7_0) rfl rfl ?_
  refine Owe.aloadN X0.here hx (hb hby d7_1) rfl rfl ?_
  refine Owe.iconst X0.here hx (hb hby d7_2) (w := (0 : Int32)) rfl ?_
  refine Owe.aloadN X0.here hx (hb hby d7_3) rfl rfl ?_
  refine Owe.arrlen X0 hx hZ e0 V_a2 (hb hby d7_4) rfl ?_
  refine Owe.aconstNull X0.here hx (hb hby d7_5)  ?_
  refine Owe.specialS X0 hx hZ hS0 hk0 (y := (⟨"java/lang/String", "<init>", "([CIILjava/lang/Void;)V"⟩ : MethodName)) rfl hown1 (mvT hZ (hw _ (List.mem_of_getElem? (i := 53) rfl))) (mvT hZ (hw _ (List.mem_of_getElem? (i := 54) rfl))) (mvT hZ (hw _ (List.mem_of_getElem? (i := 56) rfl))) (by decide) (backOfSH (W := 0) (rmse2 l Z a0 hw [] a1 a2 h0 n0 Z0 E_a1 Fvalue_a1 Fcoder_a1 ge_a1) hZ (hw _ (List.mem_of_getElem? (i := 56) rfl)) (hw _ (List.mem_of_getElem? (i := 3) rfl)) (by decide) (by decide) (own_ew hw) H0) (by rw [hml]; rfl) (a := a1) (argsL := [(.ref a2), (.int (0 : Int32)), (.int (0 : Int32)), .null]) (rest := []) (lenOf pd_2 rfl) rfl (Nat.le_of_ble_eq_true rfl) (hb hby d7_6) rfl e0 (by decide) (by decide) fun T53 v53 L53 X53 hS53 hZ53 hown53 hC53 hQ53 => ?_
  obtain ⟨b1_53, kb1_53, rfl, Nq53, K53, E_a1_53, Fvalue_a1_53, Fcoder_a1_53, V_b1_53, Tx_a1_53⟩ := hQ53
  have N53 := Fr.app N0 Nq53
  have hk54 := Nat.le_trans hk0 K53.1
  have K_55 := K0.trans K53 (allS (Or.inl (List.mem_of_getElem? (i := 0) rfl)) all0)
  have E_a1_56 := E_a1.keep K53
  have V_a2_57 := V_a2.keep K53 (ninS ne_a2_a1 nin0)
  have Z_58 := Nat.le_trans Z0 K53.1
  have sf_a1_53 := CHr.safe hC53 E_a1.lt sf_a1
  have Rr53 := R0.trans hC53
  have H53 := hC53.1
  have hk53 : T53.heap.size ≤ T53.heap.size := Nat.le_refl _
  refine Owe.ret0W X53 hx hS53 rfl hk53 hlk Bd.returns (hb hby d7_9) rfl fun fs hE => ?_
  rw [hG]
  refine ⟨_, _, rfl, ?_, ?_, coldMono hE (by decide) (by decide)⟩
  rotate_left
  · rw [hh]
    show CHr Z own_EL s.vm h0 T53.vm T53.heap
    exact Rr53.trans (CHv.at X53 hZ53 (own_ew hw) H53)
  show Qse1 Z a1 a2 k2 h0 n0 _ T53.heap _
  exact ⟨b1_53, kb1_53, rfl, N53, K_55, E_a1_53, Fvalue_a1_53, Fcoder_a1_53, V_b1_53, Tx_a1_53⟩
theorem d8_0 : decode prog_16_method_1_code 0 = .ok (.getstatic 10, 3) := by decide +kernel
theorem d8_3 : decode prog_16_method_1_code 3 = .ok (.invokevirtual 14, 3) := by decide +kernel
theorem d8_6 : decode prog_16_method_1_code 6 = .ok (.checkcast 15, 3) := by decide +kernel
theorem d8_9 : decode prog_16_method_1_code 9 = .ok (.areturn, 1) := by decide +kernel
theorem pn_vls : plainName "com/example/wade/wade/monitor/Access" = true := by first | (simp [plainName, overriddenIn]; done) | decide +kernel
theorem ef_vls (m : MethodId)   : entryFrame m #[] 0 = mkF m 0 #[] [] := by first | (simp [entryFrame, mkF, argsToLocals, Value.category]; done) | rfl
def Qvls (Z : State) (va : Addr) (k_va : ClassId) (rd : Addr) (wt : Addr) (h0 : Heap) (n0 : Nat) (v : Option Value) (h : Heap) (L : List Loc) : Prop := ∃ (x1 : Addr), v = some (.ref x1) ∧ Fr n0 L ∧ Keep h0 h [] ∧ n0 ≤ x1 ∧ h0.size ≤ x1 ∧ Arv Z h x1 k_va (.object "com/example/wade/wade/monitor/Access") (2 : Int32) [(.ref rd), (.ref wt)] .null
set_option maxRecDepth 65536 in
set_option maxHeartbeats 40000000 in
theorem rmvls (l : Launch) (Z : State) (a0 : Array Value) (hw : ∀ d ∈ tables_1, d.before a0 Z = true) (ws : List Jvm.Cond) (va : Addr) (k_va : ClassId) (rd : Addr) (wt : Addr) (h0 : Heap) (n0 : Nat) (Z0 : n0 ≤ h0.size) (S__VALUES : Sta Z Z.heap "com/example/wade/wade/monitor/Access" "$VALUES" "[Lcom/example/wade/wade/monitor/Access;" (.ref va)) (E_va : Exa Z Z.heap va "[Lcom/example/wade/wade/monitor/Access;") (V_va : Arv Z Z.heap va k_va (.object "com/example/wade/wade/monitor/Access") (2 : Int32) [(.ref rd), (.ref wt)] .null) (Ol : Old Z n0 h0) :
    MetFree l (⟨"com/example/wade/wade/monitor/Access", "values", "()[Lcom/example/wade/wade/monitor/Access;"⟩ : MethodName) (head1 (Jvm.Cond.code (⟨"com/example/wade/wade/monitor/Access", "values", "()[Lcom/example/wade/wade/monitor/Access;"⟩ : MethodName) prog_16_method_1_code 0 (some (.array (.object "com/example/wade/wade/monitor/Access"))) :: ws) ({ frames := 1, cells := 1, slots := 2, locals := 14 } : Room)) (fun a U => a = #[] ∧ Z.Warmed39 U.vm ∧ U.heap = h0) (fun _ _ _ _ _ => True) (fun _ U o U' => ∃ v L, o = .returned v ∧ Qvls Z va k_va rd wt h0 n0 v U'.heap L ∧ FrameEnd U o U' L ({ frames := 1, cells := 1, slots := 2, locals := 14 } : Room).cells ({ frames := 1, cells := 1, slots := 2, locals := 14 } : Room).slots) := by
  refine MetFree.of_bodySF (plainFor_of_name pn_vls) hisR ?_
  intro p e s m args below meth c s₁ Bd hml0 hP hK
  obtain ⟨rfl, hZ, hh⟩ := hP
  have hx := Bd.exec
  have hby := Bd.bytes
  have hml : c.maxLocals = 0 := hml0
  have hown : s.vm.findClass "com/example/wade/wade/monitor/Access" = some m.cls := findClass_of_methodNamed Bd.named
  have hnm := (name_of_methodNamed Bd.named Bd.method).1
  have hlk : meth.locks = false := BodyLoose.notSynchronized Bd
  have X0 : Stand p l e ({ frames := 1, cells := 1, slots := 2, locals := 14 } : Room) s m #[] below meth c s₁ [] 0 0 := Stand.of_body Bd
  have e0 : s₁.heap = h0 := by rw [← hh, Bd.state]; rfl
  have N0 := Fr.nil n0
  have K0 := Keep.refl h0 []
  obtain ⟨G, hG⟩ : ∃ G : Outcome → State → Prop, G = fun o u => ∃ v L, o = .returned v ∧ Qvls Z va k_va rd wt h0 n0 v u.heap L ∧ FrameEnd s o u L ({ frames := 1, cells := 1, slots := 2, locals := 14 } : Room).cells ({ frames := 1, cells := 1, slots := 2, locals := 14 } : Room).slots := ⟨_, rfl⟩
  suffices hgo : Owe p.tables e below G s₁ (mkF m 0 #[] []) by
    obtain ⟨u, o, h1, h2, h3, h4⟩ := hgo
    exact ⟨u, o, castTop (ef_vls m ) h1, h2, h3, by rw [hG] at h4; exact h4⟩
  refine Owe.gets X0 hx hZ hown (hw _ (List.mem_of_getElem? (i := 77) rfl)) Via.refl e0 (S__VALUES.ext Ol.2) (hb hby d8_0) fun T59 X59 e59 => ?_
  refine Owe.clone X59 hx hZ (ad := "[Lcom/example/wade/wade/monitor/Access;") hown (hw _ (List.mem_of_getElem? (i := 79) rfl)) (hw _ (List.mem_of_getElem? (i := 80) rfl)) (hw _ (List.mem_of_getElem? (i := 84) rfl)) (hw _ (List.mem_of_getElem? (i := 82) rfl)) (hw _ (List.mem_of_getElem? (i := 83) rfl)) (hw _ (List.mem_of_getElem? (i := 85) rfl)) e59 (V_va.ext Ol.2) (E_va.ext Ol.2) (by rw [hml]; rfl) rfl (hb hby d8_3) (by decide) (W := 0) (cap := 2) (Nat.le_of_ble_eq_true rfl) (by decide) (by decide) (by decide) (by decide) fun T60 h60 b60 g60 X60 e60 E60 V60 A60 => ?_
  have sz_b60 := Nat.le_trans K0.1 (Nat.le_of_eq g60.symm)
  have ge_b60 := Nat.le_trans Z0 (Nat.le_of_eq g60.symm)
  have K_61 := K0.ext E60
  have Ol_62 := Ol.ext E60
  have Z_63 := Nat.le_trans Z0 E60.1
  refine Owe.castY X60 hx hZ hown (hw _ (List.mem_of_getElem? (i := 89) rfl)) e60 (Ins.self A60) (hb hby d8_6) rfl fun T64 X64 e64 => ?_
  refine Owe.retR X64 hx hlk (t := (.array (.object "com/example/wade/wade/monitor/Access"))) Bd.returns rfl rfl rfl (hb hby d8_9) rfl fun fs hE => ?_
  rw [hG]
  refine ⟨_, _, rfl, ?_, frameMono hE (by decide) (by decide)⟩
  show Qvls Z va k_va rd wt h0 n0 _ T64.heap _
  rw [e64]
  exact ⟨b60, rfl, N0, K_61, ge_b60, sz_b60, V60⟩
theorem d9_0 : decode prog_16_method_5_code 0 = .ok (.invokestatic 53, 3) := by decide +kernel
theorem d9_3 : decode prog_16_method_5_code 3 = .ok (.astore_n 1, 1) := by decide +kernel
theorem d9_4 : decode prog_16_method_5_code 4 = .ok (.aload_n 1, 1) := by decide +kernel
theorem d9_5 : decode prog_16_method_5_code 5 = .ok (.arraylength, 1) := by decide +kernel
theorem d9_6 : decode prog_16_method_5_code 6 = .ok (.istore_n 2, 1) := by decide +kernel
theorem d9_7 : decode prog_16_method_5_code 7 = .ok (.iconst 0, 1) := by decide +kernel
theorem d9_8 : decode prog_16_method_5_code 8 = .ok (.istore_n 3, 1) := by decide +kernel
theorem d9_9 : decode prog_16_method_5_code 9 = .ok (.iload_n 3, 1) := by decide +kernel
theorem d9_10 : decode prog_16_method_5_code 10 = .ok (.iload_n 2, 1) := by decide +kernel
theorem d9_11 : decode prog_16_method_5_code 11 = .ok (.if_icmp .ge 32, 3) := by decide +kernel
theorem d9_14 : decode prog_16_method_5_code 14 = .ok (.aload_n 1, 1) := by decide +kernel
theorem d9_15 : decode prog_16_method_5_code 15 = .ok (.iload_n 3, 1) := by decide +kernel
theorem d9_16 : decode prog_16_method_5_code 16 = .ok (.aaload, 1) := by decide +kernel
theorem d9_17 : decode prog_16_method_5_code 17 = .ok (.astore 4, 2) := by decide +kernel
theorem d9_19 : decode prog_16_method_5_code 19 = .ok (.aload 4, 2) := by decide +kernel
theorem d9_21 : decode prog_16_method_5_code 21 = .ok (.getfield 29, 3) := by decide +kernel
theorem d9_24 : decode prog_16_method_5_code 24 = .ok (.aload_n 0, 1) := by decide +kernel
theorem d9_25 : decode prog_16_method_5_code 25 = .ok (.invokevirtual 57, 3) := by decide +kernel
theorem d9_28 : decode prog_16_method_5_code 28 = .ok (.ifCond .eq 9, 3) := by decide +kernel
theorem d9_31 : decode prog_16_method_5_code 31 = .ok (.aload 4, 2) := by decide +kernel
theorem d9_33 : decode prog_16_method_5_code 33 = .ok (.invokestatic 63, 3) := by decide +kernel
theorem d9_36 : decode prog_16_method_5_code 36 = .ok (.areturn, 1) := by decide +kernel
theorem d9_37 : decode prog_16_method_5_code 37 = .ok (.iinc 3 1, 3) := by decide +kernel
theorem d9_40 : decode prog_16_method_5_code 40 = .ok (.goto (-31), 3) := by decide +kernel
theorem d9_43 : decode prog_16_method_5_code 43 = .ok (.invokestatic 67, 3) := by decide +kernel
theorem d9_46 : decode prog_16_method_5_code 46 = .ok (.areturn, 1) := by decide +kernel
theorem pn_gvr : plainName "com/example/wade/wade/monitor/Access" = true := by first | (simp [plainName, overriddenIn]; done) | decide +kernel
theorem ef_gvr (m : MethodId) (x0 : Addr)  : entryFrame m #[(.ref x0)] 5 = mkF m 0 #[.val (.ref x0), .unset, .unset, .unset, .unset] [] := by first | (simp [entryFrame, mkF, argsToLocals, Value.category]; done) | rfl
def Qgvr (Z : State) (a1 : Addr) (t1 : Addr) (kb1 : ClassId) (cs : List Int32) (G1 : Int32) (va : Addr) (rd : Addr) (wt : Addr) (rdw : Addr) (rdwv : Addr) (wtw : Addr) (wtwv : Addr) (k_va : ClassId) (k_rdwv : ClassId) (k_wtwv : ClassId) (em : Addr) (h0 : Heap) (n0 : Nat) (v : Option Value) (h : Heap) (L : List Loc) : Prop := ∃ (x1 : Addr), v = some (.ref x1) ∧ Fr n0 L ∧ Keep h0 h [] ∧ n0 ≤ x1 ∧ h0.size ≤ x1 ∧ Exa Z h x1 "java/util/Optional" ∧ Fld Z h x1 "java/util/Optional" "value" "Ljava/lang/Object;" (.ref rd)
set_option maxRecDepth 65536 in
set_option maxHeartbeats 40000000 in
theorem rmgvr (l : Launch) (Z : State) (a0 : Array Value) (hw : ∀ d ∈ tables_1, d.before a0 Z = true) (ws : List Jvm.Cond) (a1 : Addr) (t1 : Addr) (kb1 : ClassId) (cs : List Int32) (G1 : Int32) (va : Addr) (rd : Addr) (wt : Addr) (rdw : Addr) (rdwv : Addr) (wtw : Addr) (wtwv : Addr) (k_va : ClassId) (k_rdwv : ClassId) (k_wtwv : ClassId) (em : Addr) (h0 : Heap) (n0 : Nat) (Z0 : n0 ≤ h0.size) (E_a1 : Exa Z h0 a1 "java/lang/String") (Fvalue_a1 : Fld Z h0 a1 "java/lang/String" "value" "[B" (.ref t1)) (Fcoder_a1 : Fld Z h0 a1 "java/lang/String" "coder" "B" (.int (0 : Int32))) (V_t1 : Arv Z h0 t1 kb1 .byte (Int32.ofNat cs.length) ((cs.map (fun c => c.toInt8.toInt32)).map Value.int) (.int (0 : Int32))) (Tx_a1 : (∀ c ∈ cs, ¬ c < 0 ∧ ¬ (255 : Int32) < c) ∧ cs.length ≤ 4000) (S_COMPACT_STRINGS : Sta Z Z.heap "java/lang/String" "COMPACT_STRINGS" "Z" (.int G1)) (cs0 : ¬ (G1 = (0 : Int32))) (Ol : Old Z n0 h0) (S__VALUES : Sta Z Z.heap "com/example/wade/wade/monitor/Access" "$VALUES" "[Lcom/example/wade/wade/monitor/Access;" (.ref va)) (E_va : Exa Z Z.heap va "[Lcom/example/wade/wade/monitor/Access;") (S_READ : Sta Z Z.heap "com/example/wade/wade/monitor/Access" "READ" "Lcom/example/wade/wade/monitor/Access;" (.ref rd)) (E_rd : Exa Z Z.heap rd "com/example/wade/wade/monitor/Access") (S_WRITE : Sta Z Z.heap "com/example/wade/wade/monitor/Access" "WRITE" "Lcom/example/wade/wade/monitor/Access;" (.ref wt)) (E_wt : Exa Z Z.heap wt "com/example/wade/wade/monitor/Access") (Fword_rd : Fld Z Z.heap rd "com/example/wade/wade/monitor/Access" "word" "Ljava/lang/String;" (.ref rdw)) (E_rdw : Exa Z Z.heap rdw "java/lang/String") (Fcoder_rdw : Fld Z Z.heap rdw "java/lang/String" "coder" "B" (.int (0 : Int32))) (Fvalue_rdw : Fld Z Z.heap rdw "java/lang/String" "value" "[B" (.ref rdwv)) (Fword_wt : Fld Z Z.heap wt "com/example/wade/wade/monitor/Access" "word" "Ljava/lang/String;" (.ref wtw)) (E_wtw : Exa Z Z.heap wtw "java/lang/String") (Fcoder_wtw : Fld Z Z.heap wtw "java/lang/String" "coder" "B" (.int (0 : Int32))) (Fvalue_wtw : Fld Z Z.heap wtw "java/lang/String" "value" "[B" (.ref wtwv)) (V_va : Arv Z Z.heap va k_va (.object "com/example/wade/wade/monitor/Access") (2 : Int32) [(.ref rd), (.ref wt)] .null) (V_rdwv : Arv Z Z.heap rdwv k_rdwv .byte (4 : Int32) ((([114, 101, 97, 100] : List Int32).map (fun c => c.toInt8.toInt32)).map Value.int) (.int (0 : Int32))) (V_wtwv : Arv Z Z.heap wtwv k_wtwv .byte (5 : Int32) ((([119, 114, 105, 116, 101] : List Int32).map (fun c => c.toInt8.toInt32)).map Value.int) (.int (0 : Int32))) (Tx_rdw : (∀ c ∈ ([114, 101, 97, 100] : List Int32), ¬ c < 0 ∧ ¬ (255 : Int32) < c) ∧ ([114, 101, 97, 100] : List Int32).length ≤ 4000) (Tx_wtw : (∀ c ∈ ([119, 114, 105, 116, 101] : List Int32), ¬ c < 0 ∧ ¬ (255 : Int32) < c) ∧ ([119, 114, 105, 116, 101] : List Int32).length ≤ 4000) (S_EMPTY : Sta Z Z.heap "java/util/Optional" "EMPTY" "Ljava/util/Optional;" (.ref em)) (E_em : Exa Z Z.heap em "java/util/Optional") (Fvalue_em : Fld Z Z.heap em "java/util/Optional" "value" "Ljava/lang/Object;" .null) (hq0 : cs = ([114, 101, 97, 100] : List Int32)) :
    MetFree l (⟨"com/example/wade/wade/monitor/Access", "governing", "(Ljava/lang/String;)Ljava/util/Optional;"⟩ : MethodName) (head1 (Jvm.Cond.code (⟨"com/example/wade/wade/monitor/Access", "governing", "(Ljava/lang/String;)Ljava/util/Optional;"⟩ : MethodName) prog_16_method_5_code 5 (some (.object "java/util/Optional")) :: ws) ({ frames := 3, cells := 2, slots := 3, locals := 60 } : Room)) (fun a U => a = #[(.ref a1)] ∧ Z.Warmed39 U.vm ∧ U.heap = h0) (fun _ _ _ _ _ => True) (fun _ U o U' => ∃ v L, o = .returned v ∧ Qgvr Z a1 t1 kb1 cs G1 va rd wt rdw rdwv wtw wtwv k_va k_rdwv k_wtwv em h0 n0 v U'.heap L ∧ FrameEnd U o U' L ({ frames := 3, cells := 2, slots := 3, locals := 60 } : Room).cells ({ frames := 3, cells := 2, slots := 3, locals := 60 } : Room).slots) := by
  refine MetFree.of_bodySF (plainFor_of_name pn_gvr) hisR ?_
  intro p e s m args below meth c s₁ Bd hml0 hP hK
  obtain ⟨rfl, hZ, hh⟩ := hP
  have hx := Bd.exec
  have hby := Bd.bytes
  have hml : c.maxLocals = 5 := hml0
  have hown : s.vm.findClass "com/example/wade/wade/monitor/Access" = some m.cls := findClass_of_methodNamed Bd.named
  have hnm := (name_of_methodNamed Bd.named Bd.method).1
  have hlk : meth.locks = false := BodyLoose.notSynchronized Bd
  have X0 : Stand p l e ({ frames := 3, cells := 2, slots := 3, locals := 60 } : Room) s m #[(.ref a1)] below meth c s₁ [] 0 0 := Stand.of_body Bd
  have e0 : s₁.heap = h0 := by rw [← hh, Bd.state]; rfl
  have N0 := Fr.nil n0
  have K0 := Keep.refl h0 []
  obtain ⟨G, hG⟩ : ∃ G : Outcome → State → Prop, G = fun o u => ∃ v L, o = .returned v ∧ Qgvr Z a1 t1 kb1 cs G1 va rd wt rdw rdwv wtw wtwv k_va k_rdwv k_wtwv em h0 n0 v u.heap L ∧ FrameEnd s o u L ({ frames := 3, cells := 2, slots := 3, locals := 60 } : Room).cells ({ frames := 3, cells := 2, slots := 3, locals := 60 } : Room).slots := ⟨_, rfl⟩
  suffices hgo : Owe p.tables e below G s₁ (mkF m 0 #[.val (.ref a1), .unset, .unset, .unset, .unset] []) by
    obtain ⟨u, o, h1, h2, h3, h4⟩ := hgo
    exact ⟨u, o, castTop (ef_gvr m a1) h1, h2, h3, by rw [hG] at h4; exact h4⟩
  refine Owe.stat X0 hx (y := (⟨"com/example/wade/wade/monitor/Access", "values", "()[Lcom/example/wade/wade/monitor/Access;"⟩ : MethodName)) hown (mvT hZ (hw _ (List.mem_of_getElem? (i := 74) rfl))) (mvT hZ (hw _ (List.mem_of_getElem? (i := 75) rfl))) (mvT hZ (hw _ (List.mem_of_getElem? (i := 72) rfl))) (mvT hZ (hw _ (List.mem_of_getElem? (i := 76) rfl))) (by decide) (backOf (W := 0) (rmvls l Z a0 hw [] va k_va rd wt h0 n0 Z0 S__VALUES E_va V_va Ol) hZ (hw _ (List.mem_of_getElem? (i := 76) rfl)) (hw _ (List.mem_of_getElem? (i := 72) rfl)) (by decide) (by decide)) (by rw [hml]; rfl) (argsL := []) (rest := []) (lenOf pd_3 rfl) rfl (Nat.le_of_ble_eq_true rfl) (hb hby d9_0) rfl e0 (by decide) (by decide) fun T65 v65 L65 X65 hQ65 => ?_
  obtain ⟨x1_65, rfl, Nq65, K65, ge_x1_65, fresh_x1_65, V_x1_65⟩ := hQ65
  have N65 := Fr.app N0 Nq65
  have K_66 := K0.trans K65 all0
  have E_a1_67 := E_a1.keep K65
  have Fvalue_a1_68 := Fvalue_a1.keep K65 nin0
  have Fcoder_a1_69 := Fcoder_a1.keep K65 nin0
  have V_t1_70 := V_t1.keep K65 nin0
  have Ol_71 := Ol.keep K65 all0
  have Z_72 := Nat.le_trans Z0 K65.1
  have ne_a1_x1_65 : a1 ≠ x1_65 := Nat.ne_of_lt (Nat.lt_of_lt_of_le E_a1.lt fresh_x1_65)
  have ne_t1_x1_65 : t1 ≠ x1_65 := Nat.ne_of_lt (Nat.lt_of_lt_of_le V_t1.lt fresh_x1_65)
  have sz_x1_65 := Nat.le_trans K0.1 fresh_x1_65
  refine Owe.astoreN X65.here hx (hb hby d9_3) rfl rfl (l' := #[.val (.ref a1), .val (.ref x1_65), .unset, .unset, .unset]) rfl ?_
  refine Owe.aloadN X65.here hx (hb hby d9_4) rfl rfl ?_
  refine Owe.arrlen X65 hx hZ rfl V_x1_65 (hb hby d9_5) rfl ?_
  refine Owe.istoreN X65.here hx (hb hby d9_6) rfl (l' := #[.val (.ref a1), .val (.ref x1_65), .val (.int (2 : Int32)), .unset, .unset]) rfl ?_
  refine Owe.iconst X65.here hx (hb hby d9_7) (w := (0 : Int32)) rfl ?_
  refine Owe.istoreN X65.here hx (hb hby d9_8) rfl (l' := #[.val (.ref a1), .val (.ref x1_65), .val (.int (2 : Int32)), .val (.int (0 : Int32)), .unset]) rfl ?_
  refine Owe.iloadN X65.here hx (hb hby d9_9) rfl ?_
  refine Owe.iloadN X65.here hx (hb hby d9_10) rfl ?_
  refine Owe.icmpNo X65.here hx (hb hby d9_11) rfl (tlt (by decide)).2.1 ?_
  refine Owe.aloadN X65.here hx (hb hby d9_14) rfl rfl ?_
  refine Owe.iloadN X65.here hx (hb hby d9_15) rfl ?_
  refine Owe.aaloadV X65 hx hZ rfl V_x1_65 rfl (v := (.ref rd)) (by decide) rfl (hb hby d9_16) rfl ?_
  refine Owe.astore X65.here hx (hb hby d9_17) rfl rfl (l' := #[.val (.ref a1), .val (.ref x1_65), .val (.int (2 : Int32)), .val (.int (0 : Int32)), .val (.ref rd)]) rfl ?_
  refine Owe.aload X65.here hx (hb hby d9_19) rfl rfl ?_
  refine Owe.getf X65 hx hZ (host := "") hown (Or.inl (hw _ (List.mem_of_getElem? (i := 91) rfl))) Via.refl rfl (Fword_rd.ext Ol_71.2) (hb hby d9_21) rfl fun T73 X73 e73 => ?_
  refine Owe.aloadN X73.here hx (hb hby d9_24) rfl rfl ?_
  have hcd74 : StrChars.Road.CodA ([114, 101, 97, 100] : List Int32) 0 (4 : Int32) ((([114, 101, 97, 100] : List Int32).map (fun c => c.toInt8.toInt32)).map Value.int) := StrChars.Road.codOf (n := 4) rfl (fun x hx => (Tx_rdw.1 x hx).2)
  have hbd74 := up ([114, 101, 97, 100] : List Int32) Tx_rdw.1
  have hcd75 : StrChars.Road.CodA cs 0 (Int32.ofNat cs.length) ((cs.map (fun c => c.toInt8.toInt32)).map Value.int) := StrChars.Road.codOf (n := cs.length) rfl (fun x hx => (Tx_a1.1 x hx).2)
  have hbd75 := up cs Tx_a1.1
  refine Owe.virt X73 hx hZ (y := (⟨"java/lang/String", "equals", "(Ljava/lang/Object;)Z"⟩ : MethodName)) (z := (⟨"java/lang/String", "equals", "(Ljava/lang/Object;)Z"⟩ : MethodName)) (Q := fun v h' L => ((v = some (.int 1) ∧ ([114, 101, 97, 100] : List Int32) = cs) ∨ (v = some (.int 0) ∧ ¬ ([114, 101, 97, 100] : List Int32) = cs)) ∧ L = [] ∧ h' = T65.heap) (kc := 0) (ks := 0) hown (mvT hZ (hw _ (List.mem_of_getElem? (i := 93) rfl))) (mvT hZ (hw _ (List.mem_of_getElem? (i := 94) rfl))) (mvT hZ (hw _ (List.mem_of_getElem? (i := 96) rfl))) (mvT hZ (hw _ (List.mem_of_getElem? (i := 95) rfl))) (notFace_of_selects (args := #[]) (mvT hZ (hw _ (List.mem_of_getElem? (i := 96) rfl)))) (by decide) (StrChars.Road.eqW (W := 0) hZ (own_heq hw) (kI := 4) (hw _ (List.mem_of_getElem? (i := 4) rfl)) (E_rdw.ext Ol_71.2) (Fvalue_rdw.ext Ol_71.2) (Fcoder_rdw.ext Ol_71.2) (V_rdwv.ext Ol_71.2) hcd74 hbd74 Tx_rdw.2 E_a1_67 Fvalue_a1_68 Fcoder_a1_69 V_t1_70 hcd75 hbd75 Tx_a1.2 (S_COMPACT_STRINGS.ext Ol_71.2) cs0 (by decide) (by decide)) (by rw [hml]; rfl) (a := rdw) (argsL := [(.ref a1)]) (rest := []) (E_rdw.ext Ol_71.2) (lenOf pd_4 rfl) rfl (Nat.le_of_ble_eq_true rfl) (hb hby d9_25) rfl e73 (by decide) (by decide) fun T76 v76 L76 X76 hQ76 => ?_
  obtain ⟨hv76, rfl, e76⟩ := hQ76
  obtain rfl : v76 = some (.int (1 : Int32)) := by
    rcases hv76 with q | q
    · exact q.1
    · exact absurd (hq0).symm q.2
  have N76 := Fr.app N65 (Fr.nil n0)
  refine Owe.ifNo X76.here hx (hb hby d9_28) rfl ((if0 _ _).trans (feq (by decide)).1) ?_
  refine Owe.aload X76.here hx (hb hby d9_31) rfl rfl ?_
  refine Owe.stat X76 hx (y := (⟨"java/util/Optional", "of", "(Ljava/lang/Object;)Ljava/util/Optional;"⟩ : MethodName)) hown (mvT hZ (hw _ (List.mem_of_getElem? (i := 102) rfl))) (mvT hZ (hw _ (List.mem_of_getElem? (i := 103) rfl))) (mvT hZ (hw _ (List.mem_of_getElem? (i := 104) rfl))) (mvT hZ (hw _ (List.mem_of_getElem? (i := 105) rfl))) (by decide) (backOf (W := 0) (rmopf l Z a0 hw [] rd T65.heap n0 Z_72 ) hZ (hw _ (List.mem_of_getElem? (i := 105) rfl)) (hw _ (List.mem_of_getElem? (i := 104) rfl)) (by decide) (by decide)) (by rw [hml]; rfl) (argsL := [(.ref rd)]) (rest := []) (lenOf pd_5 rfl) rfl (Nat.le_of_ble_eq_true rfl) (hb hby d9_33) rfl e76 (by decide) (by decide) fun T77 v77 L77 X77 hQ77 => ?_
  obtain ⟨x1_77, rfl, Nq77, K77, ge_x1_77, fresh_x1_77, E_x1_77, Fvalue_x1_77⟩ := hQ77
  have N77 := Fr.app N76 Nq77
  have K_78 := K_66.trans K77 all0
  have E_a1_79 := E_a1_67.keep K77
  have Fvalue_a1_80 := Fvalue_a1_68.keep K77 nin0
  have Fcoder_a1_81 := Fcoder_a1_69.keep K77 nin0
  have V_t1_82 := V_t1_70.keep K77 nin0
  have Ol_83 := Ol_71.keep K77 all0
  have V_x1_84 := V_x1_65.keep K77 nin0
  have Z_85 := Nat.le_trans Z_72 K77.1
  have ne_a1_x1_77 : a1 ≠ x1_77 := Nat.ne_of_lt (Nat.lt_of_lt_of_le E_a1_67.lt fresh_x1_77)
  have ne_t1_x1_77 : t1 ≠ x1_77 := Nat.ne_of_lt (Nat.lt_of_lt_of_le V_t1_70.lt fresh_x1_77)
  have ne_x1_65_x1_77 : x1_65 ≠ x1_77 := Nat.ne_of_lt (Nat.lt_of_lt_of_le V_x1_65.lt fresh_x1_77)
  have sz_x1_77 := Nat.le_trans K_66.1 fresh_x1_77
  refine Owe.retR X77 hx hlk (t := (.object "java/util/Optional")) Bd.returns rfl rfl rfl (hb hby d9_36) rfl fun fs hE => ?_
  rw [hG]
  refine ⟨_, _, rfl, ?_, frameMono hE (by decide) (by decide)⟩
  show Qgvr Z a1 t1 kb1 cs G1 va rd wt rdw rdwv wtw wtwv k_va k_rdwv k_wtwv em h0 n0 _ T77.heap _
  exact ⟨x1_77, rfl, N77, K_78, ge_x1_77, sz_x1_77, E_x1_77, Fvalue_x1_77⟩
theorem pn_gvw : plainName "com/example/wade/wade/monitor/Access" = true := by first | (simp [plainName, overriddenIn]; done) | decide +kernel
theorem ef_gvw (m : MethodId) (x0 : Addr)  : entryFrame m #[(.ref x0)] 5 = mkF m 0 #[.val (.ref x0), .unset, .unset, .unset, .unset] [] := by first | (simp [entryFrame, mkF, argsToLocals, Value.category]; done) | rfl
def Qgvw (Z : State) (a1 : Addr) (t1 : Addr) (kb1 : ClassId) (cs : List Int32) (G1 : Int32) (va : Addr) (rd : Addr) (wt : Addr) (rdw : Addr) (rdwv : Addr) (wtw : Addr) (wtwv : Addr) (k_va : ClassId) (k_rdwv : ClassId) (k_wtwv : ClassId) (em : Addr) (h0 : Heap) (n0 : Nat) (v : Option Value) (h : Heap) (L : List Loc) : Prop := ∃ (x1 : Addr), v = some (.ref x1) ∧ Fr n0 L ∧ Keep h0 h [] ∧ n0 ≤ x1 ∧ h0.size ≤ x1 ∧ Exa Z h x1 "java/util/Optional" ∧ Fld Z h x1 "java/util/Optional" "value" "Ljava/lang/Object;" (.ref wt)
set_option maxRecDepth 65536 in
set_option maxHeartbeats 40000000 in
theorem rmgvw (l : Launch) (Z : State) (a0 : Array Value) (hw : ∀ d ∈ tables_1, d.before a0 Z = true) (ws : List Jvm.Cond) (a1 : Addr) (t1 : Addr) (kb1 : ClassId) (cs : List Int32) (G1 : Int32) (va : Addr) (rd : Addr) (wt : Addr) (rdw : Addr) (rdwv : Addr) (wtw : Addr) (wtwv : Addr) (k_va : ClassId) (k_rdwv : ClassId) (k_wtwv : ClassId) (em : Addr) (h0 : Heap) (n0 : Nat) (Z0 : n0 ≤ h0.size) (E_a1 : Exa Z h0 a1 "java/lang/String") (Fvalue_a1 : Fld Z h0 a1 "java/lang/String" "value" "[B" (.ref t1)) (Fcoder_a1 : Fld Z h0 a1 "java/lang/String" "coder" "B" (.int (0 : Int32))) (V_t1 : Arv Z h0 t1 kb1 .byte (Int32.ofNat cs.length) ((cs.map (fun c => c.toInt8.toInt32)).map Value.int) (.int (0 : Int32))) (Tx_a1 : (∀ c ∈ cs, ¬ c < 0 ∧ ¬ (255 : Int32) < c) ∧ cs.length ≤ 4000) (S_COMPACT_STRINGS : Sta Z Z.heap "java/lang/String" "COMPACT_STRINGS" "Z" (.int G1)) (cs0 : ¬ (G1 = (0 : Int32))) (Ol : Old Z n0 h0) (S__VALUES : Sta Z Z.heap "com/example/wade/wade/monitor/Access" "$VALUES" "[Lcom/example/wade/wade/monitor/Access;" (.ref va)) (E_va : Exa Z Z.heap va "[Lcom/example/wade/wade/monitor/Access;") (S_READ : Sta Z Z.heap "com/example/wade/wade/monitor/Access" "READ" "Lcom/example/wade/wade/monitor/Access;" (.ref rd)) (E_rd : Exa Z Z.heap rd "com/example/wade/wade/monitor/Access") (S_WRITE : Sta Z Z.heap "com/example/wade/wade/monitor/Access" "WRITE" "Lcom/example/wade/wade/monitor/Access;" (.ref wt)) (E_wt : Exa Z Z.heap wt "com/example/wade/wade/monitor/Access") (Fword_rd : Fld Z Z.heap rd "com/example/wade/wade/monitor/Access" "word" "Ljava/lang/String;" (.ref rdw)) (E_rdw : Exa Z Z.heap rdw "java/lang/String") (Fcoder_rdw : Fld Z Z.heap rdw "java/lang/String" "coder" "B" (.int (0 : Int32))) (Fvalue_rdw : Fld Z Z.heap rdw "java/lang/String" "value" "[B" (.ref rdwv)) (Fword_wt : Fld Z Z.heap wt "com/example/wade/wade/monitor/Access" "word" "Ljava/lang/String;" (.ref wtw)) (E_wtw : Exa Z Z.heap wtw "java/lang/String") (Fcoder_wtw : Fld Z Z.heap wtw "java/lang/String" "coder" "B" (.int (0 : Int32))) (Fvalue_wtw : Fld Z Z.heap wtw "java/lang/String" "value" "[B" (.ref wtwv)) (V_va : Arv Z Z.heap va k_va (.object "com/example/wade/wade/monitor/Access") (2 : Int32) [(.ref rd), (.ref wt)] .null) (V_rdwv : Arv Z Z.heap rdwv k_rdwv .byte (4 : Int32) ((([114, 101, 97, 100] : List Int32).map (fun c => c.toInt8.toInt32)).map Value.int) (.int (0 : Int32))) (V_wtwv : Arv Z Z.heap wtwv k_wtwv .byte (5 : Int32) ((([119, 114, 105, 116, 101] : List Int32).map (fun c => c.toInt8.toInt32)).map Value.int) (.int (0 : Int32))) (Tx_rdw : (∀ c ∈ ([114, 101, 97, 100] : List Int32), ¬ c < 0 ∧ ¬ (255 : Int32) < c) ∧ ([114, 101, 97, 100] : List Int32).length ≤ 4000) (Tx_wtw : (∀ c ∈ ([119, 114, 105, 116, 101] : List Int32), ¬ c < 0 ∧ ¬ (255 : Int32) < c) ∧ ([119, 114, 105, 116, 101] : List Int32).length ≤ 4000) (S_EMPTY : Sta Z Z.heap "java/util/Optional" "EMPTY" "Ljava/util/Optional;" (.ref em)) (E_em : Exa Z Z.heap em "java/util/Optional") (Fvalue_em : Fld Z Z.heap em "java/util/Optional" "value" "Ljava/lang/Object;" .null) (hq0 : ¬ cs = ([114, 101, 97, 100] : List Int32)) (hq1 : cs = ([119, 114, 105, 116, 101] : List Int32)) :
    MetFree l (⟨"com/example/wade/wade/monitor/Access", "governing", "(Ljava/lang/String;)Ljava/util/Optional;"⟩ : MethodName) (head1 (Jvm.Cond.code (⟨"com/example/wade/wade/monitor/Access", "governing", "(Ljava/lang/String;)Ljava/util/Optional;"⟩ : MethodName) prog_16_method_5_code 5 (some (.object "java/util/Optional")) :: ws) ({ frames := 3, cells := 2, slots := 3, locals := 60 } : Room)) (fun a U => a = #[(.ref a1)] ∧ Z.Warmed39 U.vm ∧ U.heap = h0) (fun _ _ _ _ _ => True) (fun _ U o U' => ∃ v L, o = .returned v ∧ Qgvw Z a1 t1 kb1 cs G1 va rd wt rdw rdwv wtw wtwv k_va k_rdwv k_wtwv em h0 n0 v U'.heap L ∧ FrameEnd U o U' L ({ frames := 3, cells := 2, slots := 3, locals := 60 } : Room).cells ({ frames := 3, cells := 2, slots := 3, locals := 60 } : Room).slots) := by
  refine MetFree.of_bodySF (plainFor_of_name pn_gvw) hisR ?_
  intro p e s m args below meth c s₁ Bd hml0 hP hK
  obtain ⟨rfl, hZ, hh⟩ := hP
  have hx := Bd.exec
  have hby := Bd.bytes
  have hml : c.maxLocals = 5 := hml0
  have hown : s.vm.findClass "com/example/wade/wade/monitor/Access" = some m.cls := findClass_of_methodNamed Bd.named
  have hnm := (name_of_methodNamed Bd.named Bd.method).1
  have hlk : meth.locks = false := BodyLoose.notSynchronized Bd
  have X0 : Stand p l e ({ frames := 3, cells := 2, slots := 3, locals := 60 } : Room) s m #[(.ref a1)] below meth c s₁ [] 0 0 := Stand.of_body Bd
  have e0 : s₁.heap = h0 := by rw [← hh, Bd.state]; rfl
  have N0 := Fr.nil n0
  have K0 := Keep.refl h0 []
  obtain ⟨G, hG⟩ : ∃ G : Outcome → State → Prop, G = fun o u => ∃ v L, o = .returned v ∧ Qgvw Z a1 t1 kb1 cs G1 va rd wt rdw rdwv wtw wtwv k_va k_rdwv k_wtwv em h0 n0 v u.heap L ∧ FrameEnd s o u L ({ frames := 3, cells := 2, slots := 3, locals := 60 } : Room).cells ({ frames := 3, cells := 2, slots := 3, locals := 60 } : Room).slots := ⟨_, rfl⟩
  suffices hgo : Owe p.tables e below G s₁ (mkF m 0 #[.val (.ref a1), .unset, .unset, .unset, .unset] []) by
    obtain ⟨u, o, h1, h2, h3, h4⟩ := hgo
    exact ⟨u, o, castTop (ef_gvw m a1) h1, h2, h3, by rw [hG] at h4; exact h4⟩
  refine Owe.stat X0 hx (y := (⟨"com/example/wade/wade/monitor/Access", "values", "()[Lcom/example/wade/wade/monitor/Access;"⟩ : MethodName)) hown (mvT hZ (hw _ (List.mem_of_getElem? (i := 74) rfl))) (mvT hZ (hw _ (List.mem_of_getElem? (i := 75) rfl))) (mvT hZ (hw _ (List.mem_of_getElem? (i := 72) rfl))) (mvT hZ (hw _ (List.mem_of_getElem? (i := 76) rfl))) (by decide) (backOf (W := 0) (rmvls l Z a0 hw [] va k_va rd wt h0 n0 Z0 S__VALUES E_va V_va Ol) hZ (hw _ (List.mem_of_getElem? (i := 76) rfl)) (hw _ (List.mem_of_getElem? (i := 72) rfl)) (by decide) (by decide)) (by rw [hml]; rfl) (argsL := []) (rest := []) (lenOf pd_3 rfl) rfl (Nat.le_of_ble_eq_true rfl) (hb hby d9_0) rfl e0 (by decide) (by decide) fun T86 v86 L86 X86 hQ86 => ?_
  obtain ⟨x1_86, rfl, Nq86, K86, ge_x1_86, fresh_x1_86, V_x1_86⟩ := hQ86
  have N86 := Fr.app N0 Nq86
  have K_87 := K0.trans K86 all0
  have E_a1_88 := E_a1.keep K86
  have Fvalue_a1_89 := Fvalue_a1.keep K86 nin0
  have Fcoder_a1_90 := Fcoder_a1.keep K86 nin0
  have V_t1_91 := V_t1.keep K86 nin0
  have Ol_92 := Ol.keep K86 all0
  have Z_93 := Nat.le_trans Z0 K86.1
  have ne_a1_x1_86 : a1 ≠ x1_86 := Nat.ne_of_lt (Nat.lt_of_lt_of_le E_a1.lt fresh_x1_86)
  have ne_t1_x1_86 : t1 ≠ x1_86 := Nat.ne_of_lt (Nat.lt_of_lt_of_le V_t1.lt fresh_x1_86)
  have sz_x1_86 := Nat.le_trans K0.1 fresh_x1_86
  refine Owe.astoreN X86.here hx (hb hby d9_3) rfl rfl (l' := #[.val (.ref a1), .val (.ref x1_86), .unset, .unset, .unset]) rfl ?_
  refine Owe.aloadN X86.here hx (hb hby d9_4) rfl rfl ?_
  refine Owe.arrlen X86 hx hZ rfl V_x1_86 (hb hby d9_5) rfl ?_
  refine Owe.istoreN X86.here hx (hb hby d9_6) rfl (l' := #[.val (.ref a1), .val (.ref x1_86), .val (.int (2 : Int32)), .unset, .unset]) rfl ?_
  refine Owe.iconst X86.here hx (hb hby d9_7) (w := (0 : Int32)) rfl ?_
  refine Owe.istoreN X86.here hx (hb hby d9_8) rfl (l' := #[.val (.ref a1), .val (.ref x1_86), .val (.int (2 : Int32)), .val (.int (0 : Int32)), .unset]) rfl ?_
  refine Owe.iloadN X86.here hx (hb hby d9_9) rfl ?_
  refine Owe.iloadN X86.here hx (hb hby d9_10) rfl ?_
  refine Owe.icmpNo X86.here hx (hb hby d9_11) rfl (tlt (by decide)).2.1 ?_
  refine Owe.aloadN X86.here hx (hb hby d9_14) rfl rfl ?_
  refine Owe.iloadN X86.here hx (hb hby d9_15) rfl ?_
  refine Owe.aaloadV X86 hx hZ rfl V_x1_86 rfl (v := (.ref rd)) (by decide) rfl (hb hby d9_16) rfl ?_
  refine Owe.astore X86.here hx (hb hby d9_17) rfl rfl (l' := #[.val (.ref a1), .val (.ref x1_86), .val (.int (2 : Int32)), .val (.int (0 : Int32)), .val (.ref rd)]) rfl ?_
  refine Owe.aload X86.here hx (hb hby d9_19) rfl rfl ?_
  refine Owe.getf X86 hx hZ (host := "") hown (Or.inl (hw _ (List.mem_of_getElem? (i := 91) rfl))) Via.refl rfl (Fword_rd.ext Ol_92.2) (hb hby d9_21) rfl fun T94 X94 e94 => ?_
  refine Owe.aloadN X94.here hx (hb hby d9_24) rfl rfl ?_
  have hcd95 : StrChars.Road.CodA ([114, 101, 97, 100] : List Int32) 0 (4 : Int32) ((([114, 101, 97, 100] : List Int32).map (fun c => c.toInt8.toInt32)).map Value.int) := StrChars.Road.codOf (n := 4) rfl (fun x hx => (Tx_rdw.1 x hx).2)
  have hbd95 := up ([114, 101, 97, 100] : List Int32) Tx_rdw.1
  have hcd96 : StrChars.Road.CodA cs 0 (Int32.ofNat cs.length) ((cs.map (fun c => c.toInt8.toInt32)).map Value.int) := StrChars.Road.codOf (n := cs.length) rfl (fun x hx => (Tx_a1.1 x hx).2)
  have hbd96 := up cs Tx_a1.1
  refine Owe.virt X94 hx hZ (y := (⟨"java/lang/String", "equals", "(Ljava/lang/Object;)Z"⟩ : MethodName)) (z := (⟨"java/lang/String", "equals", "(Ljava/lang/Object;)Z"⟩ : MethodName)) (Q := fun v h' L => ((v = some (.int 1) ∧ ([114, 101, 97, 100] : List Int32) = cs) ∨ (v = some (.int 0) ∧ ¬ ([114, 101, 97, 100] : List Int32) = cs)) ∧ L = [] ∧ h' = T86.heap) (kc := 0) (ks := 0) hown (mvT hZ (hw _ (List.mem_of_getElem? (i := 93) rfl))) (mvT hZ (hw _ (List.mem_of_getElem? (i := 94) rfl))) (mvT hZ (hw _ (List.mem_of_getElem? (i := 96) rfl))) (mvT hZ (hw _ (List.mem_of_getElem? (i := 95) rfl))) (notFace_of_selects (args := #[]) (mvT hZ (hw _ (List.mem_of_getElem? (i := 96) rfl)))) (by decide) (StrChars.Road.eqW (W := 0) hZ (own_heq hw) (kI := 4) (hw _ (List.mem_of_getElem? (i := 4) rfl)) (E_rdw.ext Ol_92.2) (Fvalue_rdw.ext Ol_92.2) (Fcoder_rdw.ext Ol_92.2) (V_rdwv.ext Ol_92.2) hcd95 hbd95 Tx_rdw.2 E_a1_88 Fvalue_a1_89 Fcoder_a1_90 V_t1_91 hcd96 hbd96 Tx_a1.2 (S_COMPACT_STRINGS.ext Ol_92.2) cs0 (by decide) (by decide)) (by rw [hml]; rfl) (a := rdw) (argsL := [(.ref a1)]) (rest := []) (E_rdw.ext Ol_92.2) (lenOf pd_4 rfl) rfl (Nat.le_of_ble_eq_true rfl) (hb hby d9_25) rfl e94 (by decide) (by decide) fun T97 v97 L97 X97 hQ97 => ?_
  obtain ⟨hv97, rfl, e97⟩ := hQ97
  obtain rfl : v97 = some (.int (0 : Int32)) := by
    rcases hv97 with q | q
    · exact absurd q.2 (fun q => hq0 q.symm)
    · exact q.1
  have N97 := Fr.app N86 (Fr.nil n0)
  refine Owe.ifYes X97.here hx (hb hby d9_28) rfl ((if0 _ _).trans (teq (by decide)).1) (pc' := 37) (by decide) (by decide) ?_
  refine Owe.iinc X97.here hx (hb hby d9_37) rfl (l' := #[.val (.ref a1), .val (.ref x1_86), .val (.int (2 : Int32)), .val (.int (1 : Int32)), .val (.ref rd)]) rfl ?_
  refine Owe.goto X97.here hx (hb hby d9_40) (pc' := 9) (by decide) (by decide) ?_
  refine Owe.iloadN X97.here hx (hb hby d9_9) rfl ?_
  refine Owe.iloadN X97.here hx (hb hby d9_10) rfl ?_
  refine Owe.icmpNo X97.here hx (hb hby d9_11) rfl (tlt (by decide)).2.1 ?_
  refine Owe.aloadN X97.here hx (hb hby d9_14) rfl rfl ?_
  refine Owe.iloadN X97.here hx (hb hby d9_15) rfl ?_
  refine Owe.aaloadV X97 hx hZ e97 V_x1_86 rfl (v := (.ref wt)) (by decide) rfl (hb hby d9_16) rfl ?_
  refine Owe.astore X97.here hx (hb hby d9_17) rfl rfl (l' := #[.val (.ref a1), .val (.ref x1_86), .val (.int (2 : Int32)), .val (.int (1 : Int32)), .val (.ref wt)]) rfl ?_
  refine Owe.aload X97.here hx (hb hby d9_19) rfl rfl ?_
  refine Owe.getf X97 hx hZ (host := "") hown (Or.inl (hw _ (List.mem_of_getElem? (i := 91) rfl))) Via.refl e97 (Fword_wt.ext Ol_92.2) (hb hby d9_21) rfl fun T98 X98 e98 => ?_
  refine Owe.aloadN X98.here hx (hb hby d9_24) rfl rfl ?_
  have hcd99 : StrChars.Road.CodA ([119, 114, 105, 116, 101] : List Int32) 0 (5 : Int32) ((([119, 114, 105, 116, 101] : List Int32).map (fun c => c.toInt8.toInt32)).map Value.int) := StrChars.Road.codOf (n := 5) rfl (fun x hx => (Tx_wtw.1 x hx).2)
  have hbd99 := up ([119, 114, 105, 116, 101] : List Int32) Tx_wtw.1
  have hcd100 : StrChars.Road.CodA cs 0 (Int32.ofNat cs.length) ((cs.map (fun c => c.toInt8.toInt32)).map Value.int) := StrChars.Road.codOf (n := cs.length) rfl (fun x hx => (Tx_a1.1 x hx).2)
  have hbd100 := up cs Tx_a1.1
  refine Owe.virt X98 hx hZ (y := (⟨"java/lang/String", "equals", "(Ljava/lang/Object;)Z"⟩ : MethodName)) (z := (⟨"java/lang/String", "equals", "(Ljava/lang/Object;)Z"⟩ : MethodName)) (Q := fun v h' L => ((v = some (.int 1) ∧ ([119, 114, 105, 116, 101] : List Int32) = cs) ∨ (v = some (.int 0) ∧ ¬ ([119, 114, 105, 116, 101] : List Int32) = cs)) ∧ L = [] ∧ h' = T86.heap) (kc := 0) (ks := 0) hown (mvT hZ (hw _ (List.mem_of_getElem? (i := 93) rfl))) (mvT hZ (hw _ (List.mem_of_getElem? (i := 94) rfl))) (mvT hZ (hw _ (List.mem_of_getElem? (i := 96) rfl))) (mvT hZ (hw _ (List.mem_of_getElem? (i := 95) rfl))) (notFace_of_selects (args := #[]) (mvT hZ (hw _ (List.mem_of_getElem? (i := 96) rfl)))) (by decide) (StrChars.Road.eqW (W := 0) hZ (own_heq hw) (kI := 4) (hw _ (List.mem_of_getElem? (i := 4) rfl)) (E_wtw.ext Ol_92.2) (Fvalue_wtw.ext Ol_92.2) (Fcoder_wtw.ext Ol_92.2) (V_wtwv.ext Ol_92.2) hcd99 hbd99 Tx_wtw.2 E_a1_88 Fvalue_a1_89 Fcoder_a1_90 V_t1_91 hcd100 hbd100 Tx_a1.2 (S_COMPACT_STRINGS.ext Ol_92.2) cs0 (by decide) (by decide)) (by rw [hml]; rfl) (a := wtw) (argsL := [(.ref a1)]) (rest := []) (E_wtw.ext Ol_92.2) (lenOf pd_4 rfl) rfl (Nat.le_of_ble_eq_true rfl) (hb hby d9_25) rfl e98 (by decide) (by decide) fun T101 v101 L101 X101 hQ101 => ?_
  obtain ⟨hv101, rfl, e101⟩ := hQ101
  obtain rfl : v101 = some (.int (1 : Int32)) := by
    rcases hv101 with q | q
    · exact q.1
    · exact absurd (hq1).symm q.2
  have N101 := Fr.app N97 (Fr.nil n0)
  refine Owe.ifNo X101.here hx (hb hby d9_28) rfl ((if0 _ _).trans (feq (by decide)).1) ?_
  refine Owe.aload X101.here hx (hb hby d9_31) rfl rfl ?_
  refine Owe.stat X101 hx (y := (⟨"java/util/Optional", "of", "(Ljava/lang/Object;)Ljava/util/Optional;"⟩ : MethodName)) hown (mvT hZ (hw _ (List.mem_of_getElem? (i := 102) rfl))) (mvT hZ (hw _ (List.mem_of_getElem? (i := 103) rfl))) (mvT hZ (hw _ (List.mem_of_getElem? (i := 104) rfl))) (mvT hZ (hw _ (List.mem_of_getElem? (i := 105) rfl))) (by decide) (backOf (W := 0) (rmopf l Z a0 hw [] wt T86.heap n0 Z_93 ) hZ (hw _ (List.mem_of_getElem? (i := 105) rfl)) (hw _ (List.mem_of_getElem? (i := 104) rfl)) (by decide) (by decide)) (by rw [hml]; rfl) (argsL := [(.ref wt)]) (rest := []) (lenOf pd_5 rfl) rfl (Nat.le_of_ble_eq_true rfl) (hb hby d9_33) rfl e101 (by decide) (by decide) fun T102 v102 L102 X102 hQ102 => ?_
  obtain ⟨x1_102, rfl, Nq102, K102, ge_x1_102, fresh_x1_102, E_x1_102, Fvalue_x1_102⟩ := hQ102
  have N102 := Fr.app N101 Nq102
  have K_103 := K_87.trans K102 all0
  have E_a1_104 := E_a1_88.keep K102
  have Fvalue_a1_105 := Fvalue_a1_89.keep K102 nin0
  have Fcoder_a1_106 := Fcoder_a1_90.keep K102 nin0
  have V_t1_107 := V_t1_91.keep K102 nin0
  have Ol_108 := Ol_92.keep K102 all0
  have V_x1_109 := V_x1_86.keep K102 nin0
  have Z_110 := Nat.le_trans Z_93 K102.1
  have ne_a1_x1_102 : a1 ≠ x1_102 := Nat.ne_of_lt (Nat.lt_of_lt_of_le E_a1_88.lt fresh_x1_102)
  have ne_t1_x1_102 : t1 ≠ x1_102 := Nat.ne_of_lt (Nat.lt_of_lt_of_le V_t1_91.lt fresh_x1_102)
  have ne_x1_86_x1_102 : x1_86 ≠ x1_102 := Nat.ne_of_lt (Nat.lt_of_lt_of_le V_x1_86.lt fresh_x1_102)
  have sz_x1_102 := Nat.le_trans K_87.1 fresh_x1_102
  refine Owe.retR X102 hx hlk (t := (.object "java/util/Optional")) Bd.returns rfl rfl rfl (hb hby d9_36) rfl fun fs hE => ?_
  rw [hG]
  refine ⟨_, _, rfl, ?_, frameMono hE (by decide) (by decide)⟩
  show Qgvw Z a1 t1 kb1 cs G1 va rd wt rdw rdwv wtw wtwv k_va k_rdwv k_wtwv em h0 n0 _ T102.heap _
  exact ⟨x1_102, rfl, N102, K_103, ge_x1_102, sz_x1_102, E_x1_102, Fvalue_x1_102⟩
theorem pn_gvn : plainName "com/example/wade/wade/monitor/Access" = true := by first | (simp [plainName, overriddenIn]; done) | decide +kernel
theorem ef_gvn (m : MethodId) (x0 : Addr)  : entryFrame m #[(.ref x0)] 5 = mkF m 0 #[.val (.ref x0), .unset, .unset, .unset, .unset] [] := by first | (simp [entryFrame, mkF, argsToLocals, Value.category]; done) | rfl
def Qgvn (Z : State) (a1 : Addr) (t1 : Addr) (kb1 : ClassId) (cs : List Int32) (G1 : Int32) (va : Addr) (rd : Addr) (wt : Addr) (rdw : Addr) (rdwv : Addr) (wtw : Addr) (wtwv : Addr) (k_va : ClassId) (k_rdwv : ClassId) (k_wtwv : ClassId) (em : Addr) (h0 : Heap) (n0 : Nat) (v : Option Value) (h : Heap) (L : List Loc) : Prop := v = some (.ref em) ∧ Fr n0 L ∧ Keep h0 h []
set_option maxRecDepth 65536 in
set_option maxHeartbeats 40000000 in
theorem rmgvn (l : Launch) (Z : State) (a0 : Array Value) (hw : ∀ d ∈ tables_1, d.before a0 Z = true) (ws : List Jvm.Cond) (a1 : Addr) (t1 : Addr) (kb1 : ClassId) (cs : List Int32) (G1 : Int32) (va : Addr) (rd : Addr) (wt : Addr) (rdw : Addr) (rdwv : Addr) (wtw : Addr) (wtwv : Addr) (k_va : ClassId) (k_rdwv : ClassId) (k_wtwv : ClassId) (em : Addr) (h0 : Heap) (n0 : Nat) (Z0 : n0 ≤ h0.size) (E_a1 : Exa Z h0 a1 "java/lang/String") (Fvalue_a1 : Fld Z h0 a1 "java/lang/String" "value" "[B" (.ref t1)) (Fcoder_a1 : Fld Z h0 a1 "java/lang/String" "coder" "B" (.int (0 : Int32))) (V_t1 : Arv Z h0 t1 kb1 .byte (Int32.ofNat cs.length) ((cs.map (fun c => c.toInt8.toInt32)).map Value.int) (.int (0 : Int32))) (Tx_a1 : (∀ c ∈ cs, ¬ c < 0 ∧ ¬ (255 : Int32) < c) ∧ cs.length ≤ 4000) (S_COMPACT_STRINGS : Sta Z Z.heap "java/lang/String" "COMPACT_STRINGS" "Z" (.int G1)) (cs0 : ¬ (G1 = (0 : Int32))) (Ol : Old Z n0 h0) (S__VALUES : Sta Z Z.heap "com/example/wade/wade/monitor/Access" "$VALUES" "[Lcom/example/wade/wade/monitor/Access;" (.ref va)) (E_va : Exa Z Z.heap va "[Lcom/example/wade/wade/monitor/Access;") (S_READ : Sta Z Z.heap "com/example/wade/wade/monitor/Access" "READ" "Lcom/example/wade/wade/monitor/Access;" (.ref rd)) (E_rd : Exa Z Z.heap rd "com/example/wade/wade/monitor/Access") (S_WRITE : Sta Z Z.heap "com/example/wade/wade/monitor/Access" "WRITE" "Lcom/example/wade/wade/monitor/Access;" (.ref wt)) (E_wt : Exa Z Z.heap wt "com/example/wade/wade/monitor/Access") (Fword_rd : Fld Z Z.heap rd "com/example/wade/wade/monitor/Access" "word" "Ljava/lang/String;" (.ref rdw)) (E_rdw : Exa Z Z.heap rdw "java/lang/String") (Fcoder_rdw : Fld Z Z.heap rdw "java/lang/String" "coder" "B" (.int (0 : Int32))) (Fvalue_rdw : Fld Z Z.heap rdw "java/lang/String" "value" "[B" (.ref rdwv)) (Fword_wt : Fld Z Z.heap wt "com/example/wade/wade/monitor/Access" "word" "Ljava/lang/String;" (.ref wtw)) (E_wtw : Exa Z Z.heap wtw "java/lang/String") (Fcoder_wtw : Fld Z Z.heap wtw "java/lang/String" "coder" "B" (.int (0 : Int32))) (Fvalue_wtw : Fld Z Z.heap wtw "java/lang/String" "value" "[B" (.ref wtwv)) (V_va : Arv Z Z.heap va k_va (.object "com/example/wade/wade/monitor/Access") (2 : Int32) [(.ref rd), (.ref wt)] .null) (V_rdwv : Arv Z Z.heap rdwv k_rdwv .byte (4 : Int32) ((([114, 101, 97, 100] : List Int32).map (fun c => c.toInt8.toInt32)).map Value.int) (.int (0 : Int32))) (V_wtwv : Arv Z Z.heap wtwv k_wtwv .byte (5 : Int32) ((([119, 114, 105, 116, 101] : List Int32).map (fun c => c.toInt8.toInt32)).map Value.int) (.int (0 : Int32))) (Tx_rdw : (∀ c ∈ ([114, 101, 97, 100] : List Int32), ¬ c < 0 ∧ ¬ (255 : Int32) < c) ∧ ([114, 101, 97, 100] : List Int32).length ≤ 4000) (Tx_wtw : (∀ c ∈ ([119, 114, 105, 116, 101] : List Int32), ¬ c < 0 ∧ ¬ (255 : Int32) < c) ∧ ([119, 114, 105, 116, 101] : List Int32).length ≤ 4000) (S_EMPTY : Sta Z Z.heap "java/util/Optional" "EMPTY" "Ljava/util/Optional;" (.ref em)) (E_em : Exa Z Z.heap em "java/util/Optional") (Fvalue_em : Fld Z Z.heap em "java/util/Optional" "value" "Ljava/lang/Object;" .null) (hq0 : ¬ cs = ([114, 101, 97, 100] : List Int32)) (hq1 : ¬ cs = ([119, 114, 105, 116, 101] : List Int32)) :
    MetFree l (⟨"com/example/wade/wade/monitor/Access", "governing", "(Ljava/lang/String;)Ljava/util/Optional;"⟩ : MethodName) (head1 (Jvm.Cond.code (⟨"com/example/wade/wade/monitor/Access", "governing", "(Ljava/lang/String;)Ljava/util/Optional;"⟩ : MethodName) prog_16_method_5_code 5 (some (.object "java/util/Optional")) :: ws) ({ frames := 3, cells := 2, slots := 3, locals := 60 } : Room)) (fun a U => a = #[(.ref a1)] ∧ Z.Warmed39 U.vm ∧ U.heap = h0) (fun _ _ _ _ _ => True) (fun _ U o U' => ∃ v L, o = .returned v ∧ Qgvn Z a1 t1 kb1 cs G1 va rd wt rdw rdwv wtw wtwv k_va k_rdwv k_wtwv em h0 n0 v U'.heap L ∧ FrameEnd U o U' L ({ frames := 3, cells := 2, slots := 3, locals := 60 } : Room).cells ({ frames := 3, cells := 2, slots := 3, locals := 60 } : Room).slots) := by
  refine MetFree.of_bodySF (plainFor_of_name pn_gvn) hisR ?_
  intro p e s m args below meth c s₁ Bd hml0 hP hK
  obtain ⟨rfl, hZ, hh⟩ := hP
  have hx := Bd.exec
  have hby := Bd.bytes
  have hml : c.maxLocals = 5 := hml0
  have hown : s.vm.findClass "com/example/wade/wade/monitor/Access" = some m.cls := findClass_of_methodNamed Bd.named
  have hnm := (name_of_methodNamed Bd.named Bd.method).1
  have hlk : meth.locks = false := BodyLoose.notSynchronized Bd
  have X0 : Stand p l e ({ frames := 3, cells := 2, slots := 3, locals := 60 } : Room) s m #[(.ref a1)] below meth c s₁ [] 0 0 := Stand.of_body Bd
  have e0 : s₁.heap = h0 := by rw [← hh, Bd.state]; rfl
  have N0 := Fr.nil n0
  have K0 := Keep.refl h0 []
  obtain ⟨G, hG⟩ : ∃ G : Outcome → State → Prop, G = fun o u => ∃ v L, o = .returned v ∧ Qgvn Z a1 t1 kb1 cs G1 va rd wt rdw rdwv wtw wtwv k_va k_rdwv k_wtwv em h0 n0 v u.heap L ∧ FrameEnd s o u L ({ frames := 3, cells := 2, slots := 3, locals := 60 } : Room).cells ({ frames := 3, cells := 2, slots := 3, locals := 60 } : Room).slots := ⟨_, rfl⟩
  suffices hgo : Owe p.tables e below G s₁ (mkF m 0 #[.val (.ref a1), .unset, .unset, .unset, .unset] []) by
    obtain ⟨u, o, h1, h2, h3, h4⟩ := hgo
    exact ⟨u, o, castTop (ef_gvn m a1) h1, h2, h3, by rw [hG] at h4; exact h4⟩
  refine Owe.stat X0 hx (y := (⟨"com/example/wade/wade/monitor/Access", "values", "()[Lcom/example/wade/wade/monitor/Access;"⟩ : MethodName)) hown (mvT hZ (hw _ (List.mem_of_getElem? (i := 74) rfl))) (mvT hZ (hw _ (List.mem_of_getElem? (i := 75) rfl))) (mvT hZ (hw _ (List.mem_of_getElem? (i := 72) rfl))) (mvT hZ (hw _ (List.mem_of_getElem? (i := 76) rfl))) (by decide) (backOf (W := 0) (rmvls l Z a0 hw [] va k_va rd wt h0 n0 Z0 S__VALUES E_va V_va Ol) hZ (hw _ (List.mem_of_getElem? (i := 76) rfl)) (hw _ (List.mem_of_getElem? (i := 72) rfl)) (by decide) (by decide)) (by rw [hml]; rfl) (argsL := []) (rest := []) (lenOf pd_3 rfl) rfl (Nat.le_of_ble_eq_true rfl) (hb hby d9_0) rfl e0 (by decide) (by decide) fun T111 v111 L111 X111 hQ111 => ?_
  obtain ⟨x1_111, rfl, Nq111, K111, ge_x1_111, fresh_x1_111, V_x1_111⟩ := hQ111
  have N111 := Fr.app N0 Nq111
  have K_112 := K0.trans K111 all0
  have E_a1_113 := E_a1.keep K111
  have Fvalue_a1_114 := Fvalue_a1.keep K111 nin0
  have Fcoder_a1_115 := Fcoder_a1.keep K111 nin0
  have V_t1_116 := V_t1.keep K111 nin0
  have Ol_117 := Ol.keep K111 all0
  have Z_118 := Nat.le_trans Z0 K111.1
  have ne_a1_x1_111 : a1 ≠ x1_111 := Nat.ne_of_lt (Nat.lt_of_lt_of_le E_a1.lt fresh_x1_111)
  have ne_t1_x1_111 : t1 ≠ x1_111 := Nat.ne_of_lt (Nat.lt_of_lt_of_le V_t1.lt fresh_x1_111)
  have sz_x1_111 := Nat.le_trans K0.1 fresh_x1_111
  refine Owe.astoreN X111.here hx (hb hby d9_3) rfl rfl (l' := #[.val (.ref a1), .val (.ref x1_111), .unset, .unset, .unset]) rfl ?_
  refine Owe.aloadN X111.here hx (hb hby d9_4) rfl rfl ?_
  refine Owe.arrlen X111 hx hZ rfl V_x1_111 (hb hby d9_5) rfl ?_
  refine Owe.istoreN X111.here hx (hb hby d9_6) rfl (l' := #[.val (.ref a1), .val (.ref x1_111), .val (.int (2 : Int32)), .unset, .unset]) rfl ?_
  refine Owe.iconst X111.here hx (hb hby d9_7) (w := (0 : Int32)) rfl ?_
  refine Owe.istoreN X111.here hx (hb hby d9_8) rfl (l' := #[.val (.ref a1), .val (.ref x1_111), .val (.int (2 : Int32)), .val (.int (0 : Int32)), .unset]) rfl ?_
  refine Owe.iloadN X111.here hx (hb hby d9_9) rfl ?_
  refine Owe.iloadN X111.here hx (hb hby d9_10) rfl ?_
  refine Owe.icmpNo X111.here hx (hb hby d9_11) rfl (tlt (by decide)).2.1 ?_
  refine Owe.aloadN X111.here hx (hb hby d9_14) rfl rfl ?_
  refine Owe.iloadN X111.here hx (hb hby d9_15) rfl ?_
  refine Owe.aaloadV X111 hx hZ rfl V_x1_111 rfl (v := (.ref rd)) (by decide) rfl (hb hby d9_16) rfl ?_
  refine Owe.astore X111.here hx (hb hby d9_17) rfl rfl (l' := #[.val (.ref a1), .val (.ref x1_111), .val (.int (2 : Int32)), .val (.int (0 : Int32)), .val (.ref rd)]) rfl ?_
  refine Owe.aload X111.here hx (hb hby d9_19) rfl rfl ?_
  refine Owe.getf X111 hx hZ (host := "") hown (Or.inl (hw _ (List.mem_of_getElem? (i := 91) rfl))) Via.refl rfl (Fword_rd.ext Ol_117.2) (hb hby d9_21) rfl fun T119 X119 e119 => ?_
  refine Owe.aloadN X119.here hx (hb hby d9_24) rfl rfl ?_
  have hcd120 : StrChars.Road.CodA ([114, 101, 97, 100] : List Int32) 0 (4 : Int32) ((([114, 101, 97, 100] : List Int32).map (fun c => c.toInt8.toInt32)).map Value.int) := StrChars.Road.codOf (n := 4) rfl (fun x hx => (Tx_rdw.1 x hx).2)
  have hbd120 := up ([114, 101, 97, 100] : List Int32) Tx_rdw.1
  have hcd121 : StrChars.Road.CodA cs 0 (Int32.ofNat cs.length) ((cs.map (fun c => c.toInt8.toInt32)).map Value.int) := StrChars.Road.codOf (n := cs.length) rfl (fun x hx => (Tx_a1.1 x hx).2)
  have hbd121 := up cs Tx_a1.1
  refine Owe.virt X119 hx hZ (y := (⟨"java/lang/String", "equals", "(Ljava/lang/Object;)Z"⟩ : MethodName)) (z := (⟨"java/lang/String", "equals", "(Ljava/lang/Object;)Z"⟩ : MethodName)) (Q := fun v h' L => ((v = some (.int 1) ∧ ([114, 101, 97, 100] : List Int32) = cs) ∨ (v = some (.int 0) ∧ ¬ ([114, 101, 97, 100] : List Int32) = cs)) ∧ L = [] ∧ h' = T111.heap) (kc := 0) (ks := 0) hown (mvT hZ (hw _ (List.mem_of_getElem? (i := 93) rfl))) (mvT hZ (hw _ (List.mem_of_getElem? (i := 94) rfl))) (mvT hZ (hw _ (List.mem_of_getElem? (i := 96) rfl))) (mvT hZ (hw _ (List.mem_of_getElem? (i := 95) rfl))) (notFace_of_selects (args := #[]) (mvT hZ (hw _ (List.mem_of_getElem? (i := 96) rfl)))) (by decide) (StrChars.Road.eqW (W := 0) hZ (own_heq hw) (kI := 4) (hw _ (List.mem_of_getElem? (i := 4) rfl)) (E_rdw.ext Ol_117.2) (Fvalue_rdw.ext Ol_117.2) (Fcoder_rdw.ext Ol_117.2) (V_rdwv.ext Ol_117.2) hcd120 hbd120 Tx_rdw.2 E_a1_113 Fvalue_a1_114 Fcoder_a1_115 V_t1_116 hcd121 hbd121 Tx_a1.2 (S_COMPACT_STRINGS.ext Ol_117.2) cs0 (by decide) (by decide)) (by rw [hml]; rfl) (a := rdw) (argsL := [(.ref a1)]) (rest := []) (E_rdw.ext Ol_117.2) (lenOf pd_4 rfl) rfl (Nat.le_of_ble_eq_true rfl) (hb hby d9_25) rfl e119 (by decide) (by decide) fun T122 v122 L122 X122 hQ122 => ?_
  obtain ⟨hv122, rfl, e122⟩ := hQ122
  obtain rfl : v122 = some (.int (0 : Int32)) := by
    rcases hv122 with q | q
    · exact absurd q.2 (fun q => hq0 q.symm)
    · exact q.1
  have N122 := Fr.app N111 (Fr.nil n0)
  refine Owe.ifYes X122.here hx (hb hby d9_28) rfl ((if0 _ _).trans (teq (by decide)).1) (pc' := 37) (by decide) (by decide) ?_
  refine Owe.iinc X122.here hx (hb hby d9_37) rfl (l' := #[.val (.ref a1), .val (.ref x1_111), .val (.int (2 : Int32)), .val (.int (1 : Int32)), .val (.ref rd)]) rfl ?_
  refine Owe.goto X122.here hx (hb hby d9_40) (pc' := 9) (by decide) (by decide) ?_
  refine Owe.iloadN X122.here hx (hb hby d9_9) rfl ?_
  refine Owe.iloadN X122.here hx (hb hby d9_10) rfl ?_
  refine Owe.icmpNo X122.here hx (hb hby d9_11) rfl (tlt (by decide)).2.1 ?_
  refine Owe.aloadN X122.here hx (hb hby d9_14) rfl rfl ?_
  refine Owe.iloadN X122.here hx (hb hby d9_15) rfl ?_
  refine Owe.aaloadV X122 hx hZ e122 V_x1_111 rfl (v := (.ref wt)) (by decide) rfl (hb hby d9_16) rfl ?_
  refine Owe.astore X122.here hx (hb hby d9_17) rfl rfl (l' := #[.val (.ref a1), .val (.ref x1_111), .val (.int (2 : Int32)), .val (.int (1 : Int32)), .val (.ref wt)]) rfl ?_
  refine Owe.aload X122.here hx (hb hby d9_19) rfl rfl ?_
  refine Owe.getf X122 hx hZ (host := "") hown (Or.inl (hw _ (List.mem_of_getElem? (i := 91) rfl))) Via.refl e122 (Fword_wt.ext Ol_117.2) (hb hby d9_21) rfl fun T123 X123 e123 => ?_
  refine Owe.aloadN X123.here hx (hb hby d9_24) rfl rfl ?_
  have hcd124 : StrChars.Road.CodA ([119, 114, 105, 116, 101] : List Int32) 0 (5 : Int32) ((([119, 114, 105, 116, 101] : List Int32).map (fun c => c.toInt8.toInt32)).map Value.int) := StrChars.Road.codOf (n := 5) rfl (fun x hx => (Tx_wtw.1 x hx).2)
  have hbd124 := up ([119, 114, 105, 116, 101] : List Int32) Tx_wtw.1
  have hcd125 : StrChars.Road.CodA cs 0 (Int32.ofNat cs.length) ((cs.map (fun c => c.toInt8.toInt32)).map Value.int) := StrChars.Road.codOf (n := cs.length) rfl (fun x hx => (Tx_a1.1 x hx).2)
  have hbd125 := up cs Tx_a1.1
  refine Owe.virt X123 hx hZ (y := (⟨"java/lang/String", "equals", "(Ljava/lang/Object;)Z"⟩ : MethodName)) (z := (⟨"java/lang/String", "equals", "(Ljava/lang/Object;)Z"⟩ : MethodName)) (Q := fun v h' L => ((v = some (.int 1) ∧ ([119, 114, 105, 116, 101] : List Int32) = cs) ∨ (v = some (.int 0) ∧ ¬ ([119, 114, 105, 116, 101] : List Int32) = cs)) ∧ L = [] ∧ h' = T111.heap) (kc := 0) (ks := 0) hown (mvT hZ (hw _ (List.mem_of_getElem? (i := 93) rfl))) (mvT hZ (hw _ (List.mem_of_getElem? (i := 94) rfl))) (mvT hZ (hw _ (List.mem_of_getElem? (i := 96) rfl))) (mvT hZ (hw _ (List.mem_of_getElem? (i := 95) rfl))) (notFace_of_selects (args := #[]) (mvT hZ (hw _ (List.mem_of_getElem? (i := 96) rfl)))) (by decide) (StrChars.Road.eqW (W := 0) hZ (own_heq hw) (kI := 4) (hw _ (List.mem_of_getElem? (i := 4) rfl)) (E_wtw.ext Ol_117.2) (Fvalue_wtw.ext Ol_117.2) (Fcoder_wtw.ext Ol_117.2) (V_wtwv.ext Ol_117.2) hcd124 hbd124 Tx_wtw.2 E_a1_113 Fvalue_a1_114 Fcoder_a1_115 V_t1_116 hcd125 hbd125 Tx_a1.2 (S_COMPACT_STRINGS.ext Ol_117.2) cs0 (by decide) (by decide)) (by rw [hml]; rfl) (a := wtw) (argsL := [(.ref a1)]) (rest := []) (E_wtw.ext Ol_117.2) (lenOf pd_4 rfl) rfl (Nat.le_of_ble_eq_true rfl) (hb hby d9_25) rfl e123 (by decide) (by decide) fun T126 v126 L126 X126 hQ126 => ?_
  obtain ⟨hv126, rfl, e126⟩ := hQ126
  obtain rfl : v126 = some (.int (0 : Int32)) := by
    rcases hv126 with q | q
    · exact absurd q.2 (fun q => hq1 q.symm)
    · exact q.1
  have N126 := Fr.app N122 (Fr.nil n0)
  refine Owe.ifYes X126.here hx (hb hby d9_28) rfl ((if0 _ _).trans (teq (by decide)).1) (pc' := 37) (by decide) (by decide) ?_
  refine Owe.iinc X126.here hx (hb hby d9_37) rfl (l' := #[.val (.ref a1), .val (.ref x1_111), .val (.int (2 : Int32)), .val (.int (2 : Int32)), .val (.ref wt)]) rfl ?_
  refine Owe.goto X126.here hx (hb hby d9_40) (pc' := 9) (by decide) (by decide) ?_
  refine Owe.iloadN X126.here hx (hb hby d9_9) rfl ?_
  refine Owe.iloadN X126.here hx (hb hby d9_10) rfl ?_
  refine Owe.icmpYes X126.here hx (hb hby d9_11) rfl (flt (by decide)).2.1 (pc' := 43) (by decide) (by decide) ?_
  refine Owe.stat X126 hx (y := (⟨"java/util/Optional", "empty", "()Ljava/util/Optional;"⟩ : MethodName)) hown (mvT hZ (hw _ (List.mem_of_getElem? (i := 132) rfl))) (mvT hZ (hw _ (List.mem_of_getElem? (i := 133) rfl))) (mvT hZ (hw _ (List.mem_of_getElem? (i := 104) rfl))) (mvT hZ (hw _ (List.mem_of_getElem? (i := 134) rfl))) (by decide) (backOf (W := 0) (rmope l Z a0 hw [] em T111.heap n0 Z_118 S_EMPTY Ol_117) hZ (hw _ (List.mem_of_getElem? (i := 134) rfl)) (hw _ (List.mem_of_getElem? (i := 104) rfl)) (by decide) (by decide)) (by rw [hml]; rfl) (argsL := []) (rest := []) (lenOf pd_6 rfl) rfl (Nat.le_of_ble_eq_true rfl) (hb hby d9_43) rfl e126 (by decide) (by decide) fun T127 v127 L127 X127 hQ127 => ?_
  obtain ⟨rfl, Nq127, e127⟩ := hQ127
  have N127 := Fr.app N126 Nq127
  refine Owe.retR X127 hx hlk (t := (.object "java/util/Optional")) Bd.returns rfl rfl rfl (hb hby d9_46) rfl fun fs hE => ?_
  rw [hG]
  refine ⟨_, _, rfl, ?_, frameMono hE (by decide) (by decide)⟩
  show Qgvn Z a1 t1 kb1 cs G1 va rd wt rdw rdwv wtw wtwv k_va k_rdwv k_wtwv em h0 n0 _ T127.heap _
  rw [e127]
  exact ⟨rfl, N127, K_112⟩
theorem d10_0 : decode method_2_code 0 = .ok (.iload_n 1, 1) := by decide +kernel
theorem d10_1 : decode method_2_code 1 = .ok (.ifCond .gt 14, 3) := by decide +kernel
theorem d10_4 : decode method_2_code 4 = .ok (.new 7, 3) := by decide +kernel
theorem d10_7 : decode method_2_code 7 = .ok (.dup, 1) := by decide +kernel
theorem d10_8 : decode method_2_code 8 = .ok (.iconst 0, 1) := by decide +kernel
theorem d10_9 : decode method_2_code 9 = .ok (.newarray .char, 2) := by decide +kernel
theorem d10_11 : decode method_2_code 11 = .ok (.invokespecial 9, 3) := by decide +kernel
theorem d10_14 : decode method_2_code 14 = .ok (.areturn, 1) := by decide +kernel
theorem d10_15 : decode method_2_code 15 = .ok (.iload_n 1, 1) := by decide +kernel
theorem d10_16 : decode method_2_code 16 = .ok (.iconst 1, 1) := by decide +kernel
theorem d10_17 : decode method_2_code 17 = .ok (.if_icmp .ne 20, 3) := by decide +kernel
theorem d10_20 : decode method_2_code 20 = .ok (.new 7, 3) := by decide +kernel
theorem d10_23 : decode method_2_code 23 = .ok (.dup, 1) := by decide +kernel
theorem d10_24 : decode method_2_code 24 = .ok (.iconst 1, 1) := by decide +kernel
theorem d10_25 : decode method_2_code 25 = .ok (.newarray .char, 2) := by decide +kernel
theorem d10_27 : decode method_2_code 27 = .ok (.dup, 1) := by decide +kernel
theorem d10_28 : decode method_2_code 28 = .ok (.iconst 0, 1) := by decide +kernel
theorem d10_29 : decode method_2_code 29 = .ok (.aload_n 0, 1) := by decide +kernel
theorem d10_30 : decode method_2_code 30 = .ok (.iconst 0, 1) := by decide +kernel
theorem d10_31 : decode method_2_code 31 = .ok (.caload, 1) := by decide +kernel
theorem d10_32 : decode method_2_code 32 = .ok (.castore, 1) := by decide +kernel
theorem d10_33 : decode method_2_code 33 = .ok (.invokespecial 9, 3) := by decide +kernel
theorem d10_36 : decode method_2_code 36 = .ok (.areturn, 1) := by decide +kernel
theorem d10_37 : decode method_2_code 37 = .ok (.iload_n 1, 1) := by decide +kernel
theorem d10_38 : decode method_2_code 38 = .ok (.iconst 2, 1) := by decide +kernel
theorem d10_39 : decode method_2_code 39 = .ok (.if_icmp .ne 26, 3) := by decide +kernel
theorem d10_42 : decode method_2_code 42 = .ok (.new 7, 3) := by decide +kernel
theorem d10_45 : decode method_2_code 45 = .ok (.dup, 1) := by decide +kernel
theorem d10_46 : decode method_2_code 46 = .ok (.iconst 2, 1) := by decide +kernel
theorem d10_47 : decode method_2_code 47 = .ok (.newarray .char, 2) := by decide +kernel
theorem d10_49 : decode method_2_code 49 = .ok (.dup, 1) := by decide +kernel
theorem d10_50 : decode method_2_code 50 = .ok (.iconst 0, 1) := by decide +kernel
theorem d10_51 : decode method_2_code 51 = .ok (.aload_n 0, 1) := by decide +kernel
theorem d10_52 : decode method_2_code 52 = .ok (.iconst 0, 1) := by decide +kernel
theorem d10_53 : decode method_2_code 53 = .ok (.caload, 1) := by decide +kernel
theorem d10_54 : decode method_2_code 54 = .ok (.castore, 1) := by decide +kernel
theorem d10_55 : decode method_2_code 55 = .ok (.dup, 1) := by decide +kernel
theorem d10_56 : decode method_2_code 56 = .ok (.iconst 1, 1) := by decide +kernel
theorem d10_57 : decode method_2_code 57 = .ok (.aload_n 0, 1) := by decide +kernel
theorem d10_58 : decode method_2_code 58 = .ok (.iconst 1, 1) := by decide +kernel
theorem d10_59 : decode method_2_code 59 = .ok (.caload, 1) := by decide +kernel
theorem d10_60 : decode method_2_code 60 = .ok (.castore, 1) := by decide +kernel
theorem d10_61 : decode method_2_code 61 = .ok (.invokespecial 9, 3) := by decide +kernel
theorem d10_64 : decode method_2_code 64 = .ok (.areturn, 1) := by decide +kernel
theorem d10_65 : decode method_2_code 65 = .ok (.iload_n 1, 1) := by decide +kernel
theorem d10_66 : decode method_2_code 66 = .ok (.iconst 3, 1) := by decide +kernel
theorem d10_67 : decode method_2_code 67 = .ok (.if_icmp .ne 32, 3) := by decide +kernel
theorem d10_70 : decode method_2_code 70 = .ok (.new 7, 3) := by decide +kernel
theorem d10_73 : decode method_2_code 73 = .ok (.dup, 1) := by decide +kernel
theorem d10_74 : decode method_2_code 74 = .ok (.iconst 3, 1) := by decide +kernel
theorem d10_75 : decode method_2_code 75 = .ok (.newarray .char, 2) := by decide +kernel
theorem d10_77 : decode method_2_code 77 = .ok (.dup, 1) := by decide +kernel
theorem d10_78 : decode method_2_code 78 = .ok (.iconst 0, 1) := by decide +kernel
theorem d10_79 : decode method_2_code 79 = .ok (.aload_n 0, 1) := by decide +kernel
theorem d10_80 : decode method_2_code 80 = .ok (.iconst 0, 1) := by decide +kernel
theorem d10_81 : decode method_2_code 81 = .ok (.caload, 1) := by decide +kernel
theorem d10_82 : decode method_2_code 82 = .ok (.castore, 1) := by decide +kernel
theorem d10_83 : decode method_2_code 83 = .ok (.dup, 1) := by decide +kernel
theorem d10_84 : decode method_2_code 84 = .ok (.iconst 1, 1) := by decide +kernel
theorem d10_85 : decode method_2_code 85 = .ok (.aload_n 0, 1) := by decide +kernel
theorem d10_86 : decode method_2_code 86 = .ok (.iconst 1, 1) := by decide +kernel
theorem d10_87 : decode method_2_code 87 = .ok (.caload, 1) := by decide +kernel
theorem d10_88 : decode method_2_code 88 = .ok (.castore, 1) := by decide +kernel
theorem d10_89 : decode method_2_code 89 = .ok (.dup, 1) := by decide +kernel
theorem d10_90 : decode method_2_code 90 = .ok (.iconst 2, 1) := by decide +kernel
theorem d10_91 : decode method_2_code 91 = .ok (.aload_n 0, 1) := by decide +kernel
theorem d10_92 : decode method_2_code 92 = .ok (.iconst 2, 1) := by decide +kernel
theorem d10_93 : decode method_2_code 93 = .ok (.caload, 1) := by decide +kernel
theorem d10_94 : decode method_2_code 94 = .ok (.castore, 1) := by decide +kernel
theorem d10_95 : decode method_2_code 95 = .ok (.invokespecial 9, 3) := by decide +kernel
theorem d10_98 : decode method_2_code 98 = .ok (.areturn, 1) := by decide +kernel
theorem d10_99 : decode method_2_code 99 = .ok (.iload_n 1, 1) := by decide +kernel
theorem d10_100 : decode method_2_code 100 = .ok (.iconst 4, 1) := by decide +kernel
theorem d10_101 : decode method_2_code 101 = .ok (.if_icmp .ne 38, 3) := by decide +kernel
theorem d10_104 : decode method_2_code 104 = .ok (.new 7, 3) := by decide +kernel
theorem d10_107 : decode method_2_code 107 = .ok (.dup, 1) := by decide +kernel
theorem d10_108 : decode method_2_code 108 = .ok (.iconst 4, 1) := by decide +kernel
theorem d10_109 : decode method_2_code 109 = .ok (.newarray .char, 2) := by decide +kernel
theorem d10_111 : decode method_2_code 111 = .ok (.dup, 1) := by decide +kernel
theorem d10_112 : decode method_2_code 112 = .ok (.iconst 0, 1) := by decide +kernel
theorem d10_113 : decode method_2_code 113 = .ok (.aload_n 0, 1) := by decide +kernel
theorem d10_114 : decode method_2_code 114 = .ok (.iconst 0, 1) := by decide +kernel
theorem d10_115 : decode method_2_code 115 = .ok (.caload, 1) := by decide +kernel
theorem d10_116 : decode method_2_code 116 = .ok (.castore, 1) := by decide +kernel
theorem d10_117 : decode method_2_code 117 = .ok (.dup, 1) := by decide +kernel
theorem d10_118 : decode method_2_code 118 = .ok (.iconst 1, 1) := by decide +kernel
theorem d10_119 : decode method_2_code 119 = .ok (.aload_n 0, 1) := by decide +kernel
theorem d10_120 : decode method_2_code 120 = .ok (.iconst 1, 1) := by decide +kernel
theorem d10_121 : decode method_2_code 121 = .ok (.caload, 1) := by decide +kernel
theorem d10_122 : decode method_2_code 122 = .ok (.castore, 1) := by decide +kernel
theorem d10_123 : decode method_2_code 123 = .ok (.dup, 1) := by decide +kernel
theorem d10_124 : decode method_2_code 124 = .ok (.iconst 2, 1) := by decide +kernel
theorem d10_125 : decode method_2_code 125 = .ok (.aload_n 0, 1) := by decide +kernel
theorem d10_126 : decode method_2_code 126 = .ok (.iconst 2, 1) := by decide +kernel
theorem d10_127 : decode method_2_code 127 = .ok (.caload, 1) := by decide +kernel
theorem d10_128 : decode method_2_code 128 = .ok (.castore, 1) := by decide +kernel
theorem d10_129 : decode method_2_code 129 = .ok (.dup, 1) := by decide +kernel
theorem d10_130 : decode method_2_code 130 = .ok (.iconst 3, 1) := by decide +kernel
theorem d10_131 : decode method_2_code 131 = .ok (.aload_n 0, 1) := by decide +kernel
theorem d10_132 : decode method_2_code 132 = .ok (.iconst 3, 1) := by decide +kernel
theorem d10_133 : decode method_2_code 133 = .ok (.caload, 1) := by decide +kernel
theorem d10_134 : decode method_2_code 134 = .ok (.castore, 1) := by decide +kernel
theorem d10_135 : decode method_2_code 135 = .ok (.invokespecial 9, 3) := by decide +kernel
theorem d10_138 : decode method_2_code 138 = .ok (.areturn, 1) := by decide +kernel
theorem d10_139 : decode method_2_code 139 = .ok (.iload_n 1, 1) := by decide +kernel
theorem d10_140 : decode method_2_code 140 = .ok (.iconst 5, 1) := by decide +kernel
theorem d10_141 : decode method_2_code 141 = .ok (.if_icmp .ne 44, 3) := by decide +kernel
theorem d10_144 : decode method_2_code 144 = .ok (.new 7, 3) := by decide +kernel
theorem d10_147 : decode method_2_code 147 = .ok (.dup, 1) := by decide +kernel
theorem d10_148 : decode method_2_code 148 = .ok (.iconst 5, 1) := by decide +kernel
theorem d10_149 : decode method_2_code 149 = .ok (.newarray .char, 2) := by decide +kernel
theorem d10_151 : decode method_2_code 151 = .ok (.dup, 1) := by decide +kernel
theorem d10_152 : decode method_2_code 152 = .ok (.iconst 0, 1) := by decide +kernel
theorem d10_153 : decode method_2_code 153 = .ok (.aload_n 0, 1) := by decide +kernel
theorem d10_154 : decode method_2_code 154 = .ok (.iconst 0, 1) := by decide +kernel
theorem d10_155 : decode method_2_code 155 = .ok (.caload, 1) := by decide +kernel
theorem d10_156 : decode method_2_code 156 = .ok (.castore, 1) := by decide +kernel
theorem d10_157 : decode method_2_code 157 = .ok (.dup, 1) := by decide +kernel
theorem d10_158 : decode method_2_code 158 = .ok (.iconst 1, 1) := by decide +kernel
theorem d10_159 : decode method_2_code 159 = .ok (.aload_n 0, 1) := by decide +kernel
theorem d10_160 : decode method_2_code 160 = .ok (.iconst 1, 1) := by decide +kernel
theorem d10_161 : decode method_2_code 161 = .ok (.caload, 1) := by decide +kernel
theorem d10_162 : decode method_2_code 162 = .ok (.castore, 1) := by decide +kernel
theorem d10_163 : decode method_2_code 163 = .ok (.dup, 1) := by decide +kernel
theorem d10_164 : decode method_2_code 164 = .ok (.iconst 2, 1) := by decide +kernel
theorem d10_165 : decode method_2_code 165 = .ok (.aload_n 0, 1) := by decide +kernel
theorem d10_166 : decode method_2_code 166 = .ok (.iconst 2, 1) := by decide +kernel
theorem d10_167 : decode method_2_code 167 = .ok (.caload, 1) := by decide +kernel
theorem d10_168 : decode method_2_code 168 = .ok (.castore, 1) := by decide +kernel
theorem d10_169 : decode method_2_code 169 = .ok (.dup, 1) := by decide +kernel
theorem d10_170 : decode method_2_code 170 = .ok (.iconst 3, 1) := by decide +kernel
theorem d10_171 : decode method_2_code 171 = .ok (.aload_n 0, 1) := by decide +kernel
theorem d10_172 : decode method_2_code 172 = .ok (.iconst 3, 1) := by decide +kernel
theorem d10_173 : decode method_2_code 173 = .ok (.caload, 1) := by decide +kernel
theorem d10_174 : decode method_2_code 174 = .ok (.castore, 1) := by decide +kernel
theorem d10_175 : decode method_2_code 175 = .ok (.dup, 1) := by decide +kernel
theorem d10_176 : decode method_2_code 176 = .ok (.iconst 4, 1) := by decide +kernel
theorem d10_177 : decode method_2_code 177 = .ok (.aload_n 0, 1) := by decide +kernel
theorem d10_178 : decode method_2_code 178 = .ok (.iconst 4, 1) := by decide +kernel
theorem d10_179 : decode method_2_code 179 = .ok (.caload, 1) := by decide +kernel
theorem d10_180 : decode method_2_code 180 = .ok (.castore, 1) := by decide +kernel
theorem d10_181 : decode method_2_code 181 = .ok (.invokespecial 9, 3) := by decide +kernel
theorem d10_184 : decode method_2_code 184 = .ok (.areturn, 1) := by decide +kernel
theorem d10_185 : decode method_2_code 185 = .ok (.new 7, 3) := by decide +kernel
theorem d10_188 : decode method_2_code 188 = .ok (.dup, 1) := by decide +kernel
theorem d10_189 : decode method_2_code 189 = .ok (.bipush 6, 2) := by decide +kernel
theorem d10_191 : decode method_2_code 191 = .ok (.newarray .char, 2) := by decide +kernel
theorem d10_193 : decode method_2_code 193 = .ok (.dup, 1) := by decide +kernel
theorem d10_194 : decode method_2_code 194 = .ok (.iconst 0, 1) := by decide +kernel
theorem d10_195 : decode method_2_code 195 = .ok (.aload_n 0, 1) := by decide +kernel
theorem d10_196 : decode method_2_code 196 = .ok (.iconst 0, 1) := by decide +kernel
theorem d10_197 : decode method_2_code 197 = .ok (.caload, 1) := by decide +kernel
theorem d10_198 : decode method_2_code 198 = .ok (.castore, 1) := by decide +kernel
theorem d10_199 : decode method_2_code 199 = .ok (.dup, 1) := by decide +kernel
theorem d10_200 : decode method_2_code 200 = .ok (.iconst 1, 1) := by decide +kernel
theorem d10_201 : decode method_2_code 201 = .ok (.aload_n 0, 1) := by decide +kernel
theorem d10_202 : decode method_2_code 202 = .ok (.iconst 1, 1) := by decide +kernel
theorem d10_203 : decode method_2_code 203 = .ok (.caload, 1) := by decide +kernel
theorem d10_204 : decode method_2_code 204 = .ok (.castore, 1) := by decide +kernel
theorem d10_205 : decode method_2_code 205 = .ok (.dup, 1) := by decide +kernel
theorem d10_206 : decode method_2_code 206 = .ok (.iconst 2, 1) := by decide +kernel
theorem d10_207 : decode method_2_code 207 = .ok (.aload_n 0, 1) := by decide +kernel
theorem d10_208 : decode method_2_code 208 = .ok (.iconst 2, 1) := by decide +kernel
theorem d10_209 : decode method_2_code 209 = .ok (.caload, 1) := by decide +kernel
theorem d10_210 : decode method_2_code 210 = .ok (.castore, 1) := by decide +kernel
theorem d10_211 : decode method_2_code 211 = .ok (.dup, 1) := by decide +kernel
theorem d10_212 : decode method_2_code 212 = .ok (.iconst 3, 1) := by decide +kernel
theorem d10_213 : decode method_2_code 213 = .ok (.aload_n 0, 1) := by decide +kernel
theorem d10_214 : decode method_2_code 214 = .ok (.iconst 3, 1) := by decide +kernel
theorem d10_215 : decode method_2_code 215 = .ok (.caload, 1) := by decide +kernel
theorem d10_216 : decode method_2_code 216 = .ok (.castore, 1) := by decide +kernel
theorem d10_217 : decode method_2_code 217 = .ok (.dup, 1) := by decide +kernel
theorem d10_218 : decode method_2_code 218 = .ok (.iconst 4, 1) := by decide +kernel
theorem d10_219 : decode method_2_code 219 = .ok (.aload_n 0, 1) := by decide +kernel
theorem d10_220 : decode method_2_code 220 = .ok (.iconst 4, 1) := by decide +kernel
theorem d10_221 : decode method_2_code 221 = .ok (.caload, 1) := by decide +kernel
theorem d10_222 : decode method_2_code 222 = .ok (.castore, 1) := by decide +kernel
theorem d10_223 : decode method_2_code 223 = .ok (.dup, 1) := by decide +kernel
theorem d10_224 : decode method_2_code 224 = .ok (.iconst 5, 1) := by decide +kernel
theorem d10_225 : decode method_2_code 225 = .ok (.aload_n 0, 1) := by decide +kernel
theorem d10_226 : decode method_2_code 226 = .ok (.iconst 5, 1) := by decide +kernel
theorem d10_227 : decode method_2_code 227 = .ok (.caload, 1) := by decide +kernel
theorem d10_228 : decode method_2_code 228 = .ok (.castore, 1) := by decide +kernel
theorem d10_229 : decode method_2_code 229 = .ok (.invokespecial 9, 3) := by decide +kernel
theorem d10_232 : decode method_2_code 232 = .ok (.areturn, 1) := by decide +kernel
theorem pn_mk0 : plainName "com/example/wade/wade/monitor/AccessGoverningPinLaw" = true := by first | (simp [plainName, overriddenIn]; done) | decide +kernel
theorem ef_mk0 (m : MethodId) (x0 : Addr) (x1 : Int32)  : entryFrame m #[(.ref x0), (.int x1)] 2 = mkF m 0 #[.val (.ref x0), .val (.int x1)] [] := by first | (simp [entryFrame, mkF, argsToLocals, Value.category]; done) | rfl
def Qmk0 (Z : State) (a1 : Addr) (k1 : ClassId) (v0 : Int32) (v1 : Int32) (v2 : Int32) (v3 : Int32) (v4 : Int32) (v5 : Int32) (G1 : Int32) (h0 : Heap) (n0 : Nat) (v : Option Value) (h : Heap) (L : List Loc) : Prop := ∃ (x1 : Addr), ∃ (t1 : Addr), ∃ (kb1 : ClassId), v = some (.ref x1) ∧ Fr n0 L ∧ Keep h0 h [] ∧ n0 ≤ x1 ∧ h0.size ≤ x1 ∧ Exa Z h x1 "java/lang/String" ∧ Fld Z h x1 "java/lang/String" "value" "[B" (.ref t1) ∧ Fld Z h x1 "java/lang/String" "coder" "B" (.int (0 : Int32)) ∧ Arv Z h t1 kb1 .byte (0 : Int32) ((([] : List Int32).map (fun c => c.toInt8.toInt32)).map Value.int) (.int (0 : Int32)) ∧ (∀ c ∈ ([] : List Int32), ¬ c < 0 ∧ ¬ (255 : Int32) < c) ∧ ([] : List Int32).length ≤ 4000
set_option maxRecDepth 65536 in
set_option maxHeartbeats 40000000 in
theorem rmmk0 (l : Launch) (Z : State) (a0 : Array Value) (hw : ∀ d ∈ tables_1, d.before a0 Z = true) (ws : List Jvm.Cond) (a1 : Addr) (k1 : ClassId) (v0 : Int32) (v1 : Int32) (v2 : Int32) (v3 : Int32) (v4 : Int32) (v5 : Int32) (G1 : Int32) (h0 : Heap) (n0 : Nat) (Z0 : n0 ≤ h0.size) (V_a1 : Arv Z h0 a1 k1 .char (6 : Int32) [(.int v0), (.int v1), (.int v2), (.int v3), (.int v4), (.int v5)] (.int (0 : Int32))) (hp0 : ¬ v0 < 0 ∧ ¬ (255 : Int32) < v0) (hp1 : ¬ v1 < 0 ∧ ¬ (255 : Int32) < v1) (hp2 : ¬ v2 < 0 ∧ ¬ (255 : Int32) < v2) (hp3 : ¬ v3 < 0 ∧ ¬ (255 : Int32) < v3) (hp4 : ¬ v4 < 0 ∧ ¬ (255 : Int32) < v4) (hp5 : ¬ v5 < 0 ∧ ¬ (255 : Int32) < v5) (S_COMPACT_STRINGS : Sta Z Z.heap "java/lang/String" "COMPACT_STRINGS" "Z" (.int G1)) (cs0 : ¬ (G1 = (0 : Int32))) (Ol : Old Z n0 h0) :
    MetFree l (⟨"com/example/wade/wade/monitor/AccessGoverningPinLaw", "make", "([CI)Ljava/lang/String;"⟩ : MethodName) (head1 (Jvm.Cond.code (⟨"com/example/wade/wade/monitor/AccessGoverningPinLaw", "make", "([CI)Ljava/lang/String;"⟩ : MethodName) method_2_code 2 (some (.object "java/lang/String")) :: ws) ({ frames := 5, cells := 5, slots := 20, locals := 80 } : Room)) (fun a U => a = #[(.ref a1), (.int (0 : Int32))] ∧ Z.Warmed39 U.vm ∧ U.heap = h0 ∧ CHv Z own_EL U.vm h0) (fun _ _ _ _ _ => True) (fun _ U o U' => ∃ v L, o = .returned v ∧ Qmk0 Z a1 k1 v0 v1 v2 v3 v4 v5 G1 h0 n0 v U'.heap L ∧ CHr Z own_EL U.vm U.heap U'.vm U'.heap ∧ ReturnedEndW U o U' L ({ frames := 5, cells := 5, slots := 20, locals := 80 } : Room).cells ({ frames := 5, cells := 5, slots := 20, locals := 80 } : Room).slots) := by
  refine MetFree.of_bodySF (plainFor_of_name pn_mk0) hisR ?_
  intro p e s m args below meth c s₁ Bd hml0 hP hK
  obtain ⟨rfl, hZ0, hh, H0⟩ := hP
  have hx := Bd.exec
  have hby := Bd.bytes
  have hml : c.maxLocals = 2 := hml0
  have hown : s.vm.findClass "com/example/wade/wade/monitor/AccessGoverningPinLaw" = some m.cls := findClass_of_methodNamed Bd.named
  have hnm := (name_of_methodNamed Bd.named Bd.method).1
  have hlk : meth.locks = false := BodyLoose.notSynchronized Bd
  have X0 : Stand p l e ({ frames := 5, cells := 5, slots := 20, locals := 80 } : Room) (s.setVm s.vm) m #[(.ref a1), (.int (0 : Int32))] below meth c s₁ [] 0 0 := Stand.of_body Bd
  have e0 : s₁.heap = h0 := by rw [← hh, Bd.state]; rfl
  have N0 := Fr.nil n0
  have K0 := Keep.refl h0 []
  have hZ : Z.Warmed39 (s.setVm s.vm).vm := hZ0
  have hown1 : (s.setVm s.vm).vm.findClass "com/example/wade/wade/monitor/AccessGoverningPinLaw" = some m.cls := hown
  have hS0 : s.Since s.vm 0 := (State.WarmedH.refl s).since 0
  have hk0 : 0 ≤ h0.size := Nat.zero_le _
  have R0 : CHr Z own_EL s.vm h0 s.vm h0 := CHr.refl H0
  obtain ⟨G, hG⟩ : ∃ G : Outcome → State → Prop, G = fun o u => ∃ v L, o = .returned v ∧ Qmk0 Z a1 k1 v0 v1 v2 v3 v4 v5 G1 h0 n0 v u.heap L ∧ CHr Z own_EL s.vm s.heap u.vm u.heap ∧ ReturnedEndW s o u L ({ frames := 5, cells := 5, slots := 20, locals := 80 } : Room).cells ({ frames := 5, cells := 5, slots := 20, locals := 80 } : Room).slots := ⟨_, rfl⟩
  suffices hgo : Owe p.tables e below G s₁ (mkF m 0 #[.val (.ref a1), .val (.int (0 : Int32))] []) by
    obtain ⟨u, o, h1, h2, h3, h4⟩ := hgo
    exact ⟨u, o, castTop (ef_mk0 m a1 (0 : Int32)) h1, h2, h3, by rw [hG] at h4; exact h4⟩
  have hws : ∀ d ∈ StrChars.Road.words, d.before a0 Z = true := fun d hd => hw d (own_words d hd)
  refine Owe.iloadN X0.here hx (hb hby d10_0) rfl ?_
  refine Owe.ifNo X0.here hx (hb hby d10_1) rfl ((if0 _ _).trans (flt (by decide)).2.2.1) ?_
  refine Owe.new X0 hx hZ hown1 (hw _ (List.mem_of_getElem? (i := 49) rfl)) (hw _ (List.mem_of_getElem? (i := 4) rfl)) (hw _ (List.mem_of_getElem? (i := 3) rfl)) e0 (hb hby d10_4) (by decide) (by decide) fun T128 h128 b128 g128 X128 e128 E128 A128 D128 => ?_
  have ne_a1_b128 : a1 ≠ b128 := Nat.ne_of_lt (Nat.lt_of_lt_of_le V_a1.lt (Nat.le_of_eq g128.symm))
  have sz_b128 := Nat.le_trans K0.1 (Nat.le_of_eq g128.symm)
  have sf_b128 := (Safe.new (Nat.le_of_eq g128.symm) : Safe Z own_EL s.vm h0 b128)
  have ge_b128 := Nat.le_trans Z0 (Nat.le_of_eq g128.symm)
  have hk129 := Nat.le_trans hk0 E128.1
  have sf_b128_129 := Safe.ext E128 H0 sf_b128
  have Rr129 := R0.trans (CHr.ext E128 H0)
  have H129 := CHv.ext E128 H0
  have K_130 := K0.ext E128
  have V_a1_131 := V_a1.ext E128
  have Ol_132 := Ol.ext E128
  have Z_133 := Nat.le_trans Z0 E128.1
  have Fvalue_b128 : Fld Z h128 b128 "java/lang/String" "value" "[B" .null := D128 (Or.inr (hw _ (List.mem_of_getElem? (i := 6) rfl))) (ty := (.array .byte)) (by decide)
  have Fcoder_b128 : Fld Z h128 b128 "java/lang/String" "coder" "B" (.int (0 : Int32)) := D128 (Or.inr (hw _ (List.mem_of_getElem? (i := 7) rfl))) (ty := .byte) (by decide)
  refine Owe.dup X128.here hx (hb hby d10_7) rfl rfl ?_
  refine Owe.iconst X128.here hx (hb hby d10_8) (w := (0 : Int32)) rfl ?_
  refine Owe.newarr X128 hx hZ (aty := .char) (hw _ (List.mem_of_getElem? (i := 0) rfl)) e128 (hb hby d10_9) rfl (by decide) (cap := 0) (by decide) (by decide) (by decide) (by decide) fun T134 h134 b134 k134 g134 X134 e134 E134 V134 => ?_
  have ne_a1_b134 : a1 ≠ b134 := Nat.ne_of_lt (Nat.lt_of_lt_of_le V_a1_131.lt (Nat.le_of_eq g134.symm))
  have ne_b128_b134 : b128 ≠ b134 := Nat.ne_of_lt (Nat.lt_of_lt_of_le A128.lt (Nat.le_of_eq g134.symm))
  have sz_b134 := Nat.le_trans K_130.1 (Nat.le_of_eq g134.symm)
  have sf_b134 := (Safe.new (Nat.le_of_eq g134.symm) : Safe Z own_EL s.vm h128 b134)
  have ge_b134 := Nat.le_trans Z_133 (Nat.le_of_eq g134.symm)
  have hk135 := Nat.le_trans hk129 E134.1
  have sf_b128_135 := Safe.ext E134 H129 sf_b128_129
  have sf_b134_135 := Safe.ext E134 H129 sf_b134
  have Rr135 := Rr129.trans (CHr.ext E134 H129)
  have H135 := CHv.ext E134 H129
  have K_136 := K_130.ext E134
  have V_a1_137 := V_a1_131.ext E134
  have Ol_138 := Ol_132.ext E134
  have A128_139 := A128.ext E134
  have Fvalue_b128_140 := Fvalue_b128.ext E134
  have Fcoder_b128_141 := Fcoder_b128.ext E134
  have Z_142 := Nat.le_trans Z_133 E134.1
  have V_b134_134 : Arv Z h134 b134 k134 .char (0 : Int32) [] (.int (0 : Int32)) := V134
  refine Owe.specialS X134 hx hZ hS0 hk135 (y := (⟨"java/lang/String", "<init>", "([C)V"⟩ : MethodName)) rfl hown1 (mvT hZ (hw _ (List.mem_of_getElem? (i := 50) rfl))) (mvT hZ (hw _ (List.mem_of_getElem? (i := 51) rfl))) (mvT hZ (hw _ (List.mem_of_getElem? (i := 52) rfl))) (by decide) (backOfSH (W := 1) (rmse1 l Z a0 hw [] b128 b134 k134 h134 n0 Z_142 A128_139 Fvalue_b128_140 Fcoder_b128_141 ge_b128 V_b134_134 (Ne.symm ne_b128_b134)) hZ (hw _ (List.mem_of_getElem? (i := 52) rfl)) (hw _ (List.mem_of_getElem? (i := 3) rfl)) (by decide) (by decide) (own_ew hw) H135) (by rw [hml]; rfl) (a := b128) (argsL := [(.ref b134)]) (rest := [(.ref b128)]) (lenOf pd_7 rfl) rfl (Nat.le_of_ble_eq_true rfl) (hb hby d10_11) rfl e134 (by decide) (by decide) fun T143 v143 L143 X143 hS143 hZ143 hown143 hC143 hQ143 => ?_
  obtain ⟨b1_143, kb1_143, rfl, Nq143, K143, E_a1_143, Fvalue_a1_143, Fcoder_a1_143, V_b1_143, Tx_a1_143⟩ := hQ143
  have N143 := Fr.app N0 Nq143
  have hk144 := Nat.le_trans hk135 K143.1
  have K_145 := K_136.trans K143 (allS (Or.inr sz_b128) all0)
  have V_a1_146 := V_a1_137.keep K143 (ninS ne_a1_b128 nin0)
  have Ol_147 := Ol_138.keep K143 (allS ge_b128 all0)
  have A128_148 := A128_139.keep K143
  have V_b134_149 := V_b134_134.keep K143 (ninS (Ne.symm ne_b128_b134) nin0)
  have Z_150 := Nat.le_trans Z_142 K143.1
  have sf_b128_143 := CHr.safe hC143 A128_139.lt sf_b128_135
  have sf_b134_143 := CHr.safe hC143 V_b134_134.lt sf_b134_135
  have Rr143 := Rr135.trans hC143
  have H143 := hC143.1
  have hk143 : T143.heap.size ≤ T143.heap.size := Nat.le_refl _
  refine Owe.retRW X143 hx hS143 rfl hk143 hlk (t := (.object "java/lang/String")) Bd.returns rfl rfl rfl (hb hby d10_14) rfl fun fs hE => ?_
  rw [hG]
  refine ⟨_, _, rfl, ?_, ?_, coldMono hE (by decide) (by decide)⟩
  rotate_left
  · rw [hh]
    show CHr Z own_EL s.vm h0 T143.vm T143.heap
    exact Rr143.trans (CHv.at X143 hZ143 (own_ew hw) H143)
  show Qmk0 Z a1 k1 v0 v1 v2 v3 v4 v5 G1 h0 n0 _ T143.heap _
  exact ⟨b128, b1_143, kb1_143, rfl, N143, K_145, ge_b128, sz_b128, E_a1_143, Fvalue_a1_143, Fcoder_a1_143, V_b1_143, Tx_a1_143⟩
theorem pn_mk1 : plainName "com/example/wade/wade/monitor/AccessGoverningPinLaw" = true := by first | (simp [plainName, overriddenIn]; done) | decide +kernel
theorem ef_mk1 (m : MethodId) (x0 : Addr) (x1 : Int32)  : entryFrame m #[(.ref x0), (.int x1)] 2 = mkF m 0 #[.val (.ref x0), .val (.int x1)] [] := by first | (simp [entryFrame, mkF, argsToLocals, Value.category]; done) | rfl
def Qmk1 (Z : State) (a1 : Addr) (k1 : ClassId) (v0 : Int32) (v1 : Int32) (v2 : Int32) (v3 : Int32) (v4 : Int32) (v5 : Int32) (G1 : Int32) (h0 : Heap) (n0 : Nat) (v : Option Value) (h : Heap) (L : List Loc) : Prop := ∃ (x1 : Addr), ∃ (t1 : Addr), ∃ (kb1 : ClassId), v = some (.ref x1) ∧ Fr n0 L ∧ Keep h0 h [] ∧ n0 ≤ x1 ∧ h0.size ≤ x1 ∧ Exa Z h x1 "java/lang/String" ∧ Fld Z h x1 "java/lang/String" "value" "[B" (.ref t1) ∧ Fld Z h x1 "java/lang/String" "coder" "B" (.int (0 : Int32)) ∧ Arv Z h t1 kb1 .byte (1 : Int32) ((([(nar .char v0)] : List Int32).map (fun c => c.toInt8.toInt32)).map Value.int) (.int (0 : Int32)) ∧ (∀ c ∈ ([(nar .char v0)] : List Int32), ¬ c < 0 ∧ ¬ (255 : Int32) < c) ∧ ([(nar .char v0)] : List Int32).length ≤ 4000
set_option maxRecDepth 65536 in
set_option maxHeartbeats 40000000 in
theorem rmmk1 (l : Launch) (Z : State) (a0 : Array Value) (hw : ∀ d ∈ tables_1, d.before a0 Z = true) (ws : List Jvm.Cond) (a1 : Addr) (k1 : ClassId) (v0 : Int32) (v1 : Int32) (v2 : Int32) (v3 : Int32) (v4 : Int32) (v5 : Int32) (G1 : Int32) (h0 : Heap) (n0 : Nat) (Z0 : n0 ≤ h0.size) (V_a1 : Arv Z h0 a1 k1 .char (6 : Int32) [(.int v0), (.int v1), (.int v2), (.int v3), (.int v4), (.int v5)] (.int (0 : Int32))) (hp0 : ¬ v0 < 0 ∧ ¬ (255 : Int32) < v0) (hp1 : ¬ v1 < 0 ∧ ¬ (255 : Int32) < v1) (hp2 : ¬ v2 < 0 ∧ ¬ (255 : Int32) < v2) (hp3 : ¬ v3 < 0 ∧ ¬ (255 : Int32) < v3) (hp4 : ¬ v4 < 0 ∧ ¬ (255 : Int32) < v4) (hp5 : ¬ v5 < 0 ∧ ¬ (255 : Int32) < v5) (S_COMPACT_STRINGS : Sta Z Z.heap "java/lang/String" "COMPACT_STRINGS" "Z" (.int G1)) (cs0 : ¬ (G1 = (0 : Int32))) (Ol : Old Z n0 h0) :
    MetFree l (⟨"com/example/wade/wade/monitor/AccessGoverningPinLaw", "make", "([CI)Ljava/lang/String;"⟩ : MethodName) (head1 (Jvm.Cond.code (⟨"com/example/wade/wade/monitor/AccessGoverningPinLaw", "make", "([CI)Ljava/lang/String;"⟩ : MethodName) method_2_code 2 (some (.object "java/lang/String")) :: ws) ({ frames := 5, cells := 5, slots := 20, locals := 80 } : Room)) (fun a U => a = #[(.ref a1), (.int (1 : Int32))] ∧ Z.Warmed39 U.vm ∧ U.heap = h0) (fun _ _ _ _ _ => True) (fun _ U o U' => ∃ v L, o = .returned v ∧ Qmk1 Z a1 k1 v0 v1 v2 v3 v4 v5 G1 h0 n0 v U'.heap L ∧ FrameEnd U o U' L ({ frames := 5, cells := 5, slots := 20, locals := 80 } : Room).cells ({ frames := 5, cells := 5, slots := 20, locals := 80 } : Room).slots) := by
  refine MetFree.of_bodySF (plainFor_of_name pn_mk1) hisR ?_
  intro p e s m args below meth c s₁ Bd hml0 hP hK
  obtain ⟨rfl, hZ, hh⟩ := hP
  have hx := Bd.exec
  have hby := Bd.bytes
  have hml : c.maxLocals = 2 := hml0
  have hown : s.vm.findClass "com/example/wade/wade/monitor/AccessGoverningPinLaw" = some m.cls := findClass_of_methodNamed Bd.named
  have hnm := (name_of_methodNamed Bd.named Bd.method).1
  have hlk : meth.locks = false := BodyLoose.notSynchronized Bd
  have X0 : Stand p l e ({ frames := 5, cells := 5, slots := 20, locals := 80 } : Room) s m #[(.ref a1), (.int (1 : Int32))] below meth c s₁ [] 0 0 := Stand.of_body Bd
  have e0 : s₁.heap = h0 := by rw [← hh, Bd.state]; rfl
  have N0 := Fr.nil n0
  have K0 := Keep.refl h0 []
  obtain ⟨G, hG⟩ : ∃ G : Outcome → State → Prop, G = fun o u => ∃ v L, o = .returned v ∧ Qmk1 Z a1 k1 v0 v1 v2 v3 v4 v5 G1 h0 n0 v u.heap L ∧ FrameEnd s o u L ({ frames := 5, cells := 5, slots := 20, locals := 80 } : Room).cells ({ frames := 5, cells := 5, slots := 20, locals := 80 } : Room).slots := ⟨_, rfl⟩
  suffices hgo : Owe p.tables e below G s₁ (mkF m 0 #[.val (.ref a1), .val (.int (1 : Int32))] []) by
    obtain ⟨u, o, h1, h2, h3, h4⟩ := hgo
    exact ⟨u, o, castTop (ef_mk1 m a1 (1 : Int32)) h1, h2, h3, by rw [hG] at h4; exact h4⟩
  have hws : ∀ d ∈ StrChars.Road.words, d.before a0 Z = true := fun d hd => hw d (own_words d hd)
  refine Owe.iloadN X0.here hx (hb hby d10_0) rfl ?_
  refine Owe.ifYes X0.here hx (hb hby d10_1) rfl ((if0 _ _).trans (tlt (by decide)).2.2.1) (pc' := 15) (by decide) (by decide) ?_
  refine Owe.iloadN X0.here hx (hb hby d10_15) rfl ?_
  refine Owe.iconst X0.here hx (hb hby d10_16) (w := (1 : Int32)) rfl ?_
  refine Owe.icmpNo X0.here hx (hb hby d10_17) rfl (teq (by decide)).2 ?_
  refine Owe.new X0 hx hZ hown (hw _ (List.mem_of_getElem? (i := 49) rfl)) (hw _ (List.mem_of_getElem? (i := 4) rfl)) (hw _ (List.mem_of_getElem? (i := 3) rfl)) e0 (hb hby d10_20) (by decide) (by decide) fun T151 h151 b151 g151 X151 e151 E151 A151 D151 => ?_
  have ne_a1_b151 : a1 ≠ b151 := Nat.ne_of_lt (Nat.lt_of_lt_of_le V_a1.lt (Nat.le_of_eq g151.symm))
  have sz_b151 := Nat.le_trans K0.1 (Nat.le_of_eq g151.symm)
  have ge_b151 := Nat.le_trans Z0 (Nat.le_of_eq g151.symm)
  have K_152 := K0.ext E151
  have V_a1_153 := V_a1.ext E151
  have Ol_154 := Ol.ext E151
  have Z_155 := Nat.le_trans Z0 E151.1
  have Fvalue_b151 : Fld Z h151 b151 "java/lang/String" "value" "[B" .null := D151 (Or.inr (hw _ (List.mem_of_getElem? (i := 6) rfl))) (ty := (.array .byte)) (by decide)
  have Fcoder_b151 : Fld Z h151 b151 "java/lang/String" "coder" "B" (.int (0 : Int32)) := D151 (Or.inr (hw _ (List.mem_of_getElem? (i := 7) rfl))) (ty := .byte) (by decide)
  refine Owe.dup X151.here hx (hb hby d10_23) rfl rfl ?_
  refine Owe.iconst X151.here hx (hb hby d10_24) (w := (1 : Int32)) rfl ?_
  refine Owe.newarr X151 hx hZ (aty := .char) (hw _ (List.mem_of_getElem? (i := 0) rfl)) e151 (hb hby d10_25) rfl (by decide) (cap := 1) (by decide) (by decide) (by decide) (by decide) fun T156 h156 b156 k156 g156 X156 e156 E156 V156 => ?_
  have ne_a1_b156 : a1 ≠ b156 := Nat.ne_of_lt (Nat.lt_of_lt_of_le V_a1_153.lt (Nat.le_of_eq g156.symm))
  have ne_b151_b156 : b151 ≠ b156 := Nat.ne_of_lt (Nat.lt_of_lt_of_le A151.lt (Nat.le_of_eq g156.symm))
  have sz_b156 := Nat.le_trans K_152.1 (Nat.le_of_eq g156.symm)
  have ge_b156 := Nat.le_trans Z_155 (Nat.le_of_eq g156.symm)
  have K_157 := K_152.ext E156
  have V_a1_158 := V_a1_153.ext E156
  have Ol_159 := Ol_154.ext E156
  have A151_160 := A151.ext E156
  have Fvalue_b151_161 := Fvalue_b151.ext E156
  have Fcoder_b151_162 := Fcoder_b151.ext E156
  have Z_163 := Nat.le_trans Z_155 E156.1
  have V_b156_156 : Arv Z h156 b156 k156 .char (1 : Int32) [(.int (0 : Int32))] (.int (0 : Int32)) := V156.pad (pad_rep [] (.int (0 : Int32)) 1)
  refine Owe.dup X156.here hx (hb hby d10_27) rfl rfl ?_
  refine Owe.iconst X156.here hx (hb hby d10_28) (w := (0 : Int32)) rfl ?_
  refine Owe.aloadN X156.here hx (hb hby d10_29) rfl rfl ?_
  refine Owe.iconst X156.here hx (hb hby d10_30) (w := (0 : Int32)) rfl ?_
  refine Owe.caload X156 hx hZ e156 V_a1_158 (v := (.int v0)) (by decide) rfl (hb hby d10_31) rfl ?_
  refine Owe.castore X156 hx hZ e156 V_b156_156 (x := v0) 0 rfl (Nat.le_of_ble_eq_true rfl) (by decide) (hb hby d10_32) rfl fun T164 h164 X164 e164 W164 (V164 : Arv Z h164 b156 k156 .char (1 : Int32) [(.int (nar .char v0))] (.int (0 : Int32))) => ?_
  have K_165 := K_157.wr W164 (Or.inr sz_b156)
  have V_a1_166 := V_a1_158.other W164 ne_a1_b156
  have Ol_167 := Ol_159.wr W164 ge_b156
  have A151_168 := A151_160.wr W164
  have Fvalue_b151_169 := Fvalue_b151_161.other W164 (Or.inl ne_b151_b156)
  have Fcoder_b151_170 := Fcoder_b151_162.other W164 (Or.inl ne_b151_b156)
  have Z_171 := Nat.le_trans Z_163 (Keep.of_wr W164).1
  have N164 := Fr.snoc X164 N0 ge_b156
  have hp172 : ∀ c ∈ ([(nar .char v0)] : List Int32), ¬ c < 0 ∧ ¬ (255 : Int32) < c := by
    intro c hc
    simp only [List.mem_cons, List.not_mem_nil, or_false] at hc
    rcases hc with rfl
    · exact own_nar2 hp0
  refine Owe.special X164 hx (y := (⟨"java/lang/String", "<init>", "([C)V"⟩ : MethodName)) rfl hown (mvT hZ (hw _ (List.mem_of_getElem? (i := 50) rfl))) (mvT hZ (hw _ (List.mem_of_getElem? (i := 51) rfl))) (mvT hZ (hw _ (List.mem_of_getElem? (i := 52) rfl))) (by decide) (StrChars.Road.backV (W := 1) hZ hws (kI := 4) (hw _ (List.mem_of_getElem? (i := 4) rfl)) (cs := ([(nar .char v0)] : List Int32)) (bs := ([(nar .char v0)] : List Int32).map (fun c => c.toInt8.toInt32)) (n := 1) ge_b151 Z_171 A151_168 Fvalue_b151_169 Fcoder_b151_170 V164 (S_COMPACT_STRINGS.ext Ol_167.2) cs0 rfl rfl (by decide) (by decide) hp172 rfl (by decide) (by decide)) (by rw [hml]; rfl) (a := b151) (argsL := [(.ref b156)]) (rest := [(.ref b151)]) (lenOf pd_7 rfl) rfl (Nat.le_of_ble_eq_true rfl) (hb hby d10_33) rfl e164 (by decide) (by decide) fun T173 v173 L173 X173 hQ173 => ?_
  obtain ⟨rfl, Nq173, K173, Ex173, Fc173, t173, kb173, gt173, ft173, nt173, Fv173, Vt173⟩ := hQ173
  have N173 := Fr.app N164 Nq173
  have ne_a1_t173 : a1 ≠ t173 := Nat.ne_of_lt (Nat.lt_of_lt_of_le V_a1_166.lt ft173)
  have ne_b151_t173 : b151 ≠ t173 := Nat.ne_of_lt (Nat.lt_of_lt_of_le A151_168.lt ft173)
  have ne_b156_t173 : b156 ≠ t173 := Nat.ne_of_lt (Nat.lt_of_lt_of_le V164.lt ft173)
  have K_174 := K_165.trans K173 (allS (Or.inr sz_b151) all0)
  have V_a1_175 := V_a1_166.keep K173 (ninS ne_a1_b151 nin0)
  have Ol_176 := Ol_167.keep K173 (allS ge_b151 all0)
  have A151_177 := A151_168.keep K173
  have V164_178 := V164.keep K173 (ninS (Ne.symm ne_b151_b156) nin0)
  have Z_179 := Nat.le_trans Z_171 K173.1
  have sz_t173 := Nat.le_trans K_165.1 ft173
  have Tx173 : (∀ c ∈ ([(nar .char v0)] : List Int32), ¬ c < 0 ∧ ¬ (255 : Int32) < c) ∧ ([(nar .char v0)] : List Int32).length ≤ 4000 := ⟨hp172, Nat.le_of_ble_eq_true rfl⟩
  refine Owe.retR X173 hx hlk (t := (.object "java/lang/String")) Bd.returns rfl rfl rfl (hb hby d10_36) rfl fun fs hE => ?_
  rw [hG]
  refine ⟨_, _, rfl, ?_, frameMono hE (by decide) (by decide)⟩
  show Qmk1 Z a1 k1 v0 v1 v2 v3 v4 v5 G1 h0 n0 _ T173.heap _
  exact ⟨b151, t173, kb173, rfl, N173, K_174, ge_b151, sz_b151, Ex173, Fv173, Fc173, Vt173, Tx173⟩
theorem pn_mk2 : plainName "com/example/wade/wade/monitor/AccessGoverningPinLaw" = true := by first | (simp [plainName, overriddenIn]; done) | decide +kernel
theorem ef_mk2 (m : MethodId) (x0 : Addr) (x1 : Int32)  : entryFrame m #[(.ref x0), (.int x1)] 2 = mkF m 0 #[.val (.ref x0), .val (.int x1)] [] := by first | (simp [entryFrame, mkF, argsToLocals, Value.category]; done) | rfl
def Qmk2 (Z : State) (a1 : Addr) (k1 : ClassId) (v0 : Int32) (v1 : Int32) (v2 : Int32) (v3 : Int32) (v4 : Int32) (v5 : Int32) (G1 : Int32) (h0 : Heap) (n0 : Nat) (v : Option Value) (h : Heap) (L : List Loc) : Prop := ∃ (x1 : Addr), ∃ (t1 : Addr), ∃ (kb1 : ClassId), v = some (.ref x1) ∧ Fr n0 L ∧ Keep h0 h [] ∧ n0 ≤ x1 ∧ h0.size ≤ x1 ∧ Exa Z h x1 "java/lang/String" ∧ Fld Z h x1 "java/lang/String" "value" "[B" (.ref t1) ∧ Fld Z h x1 "java/lang/String" "coder" "B" (.int (0 : Int32)) ∧ Arv Z h t1 kb1 .byte (2 : Int32) ((([(nar .char v0), (nar .char v1)] : List Int32).map (fun c => c.toInt8.toInt32)).map Value.int) (.int (0 : Int32)) ∧ (∀ c ∈ ([(nar .char v0), (nar .char v1)] : List Int32), ¬ c < 0 ∧ ¬ (255 : Int32) < c) ∧ ([(nar .char v0), (nar .char v1)] : List Int32).length ≤ 4000
set_option maxRecDepth 65536 in
set_option maxHeartbeats 40000000 in
theorem rmmk2 (l : Launch) (Z : State) (a0 : Array Value) (hw : ∀ d ∈ tables_1, d.before a0 Z = true) (ws : List Jvm.Cond) (a1 : Addr) (k1 : ClassId) (v0 : Int32) (v1 : Int32) (v2 : Int32) (v3 : Int32) (v4 : Int32) (v5 : Int32) (G1 : Int32) (h0 : Heap) (n0 : Nat) (Z0 : n0 ≤ h0.size) (V_a1 : Arv Z h0 a1 k1 .char (6 : Int32) [(.int v0), (.int v1), (.int v2), (.int v3), (.int v4), (.int v5)] (.int (0 : Int32))) (hp0 : ¬ v0 < 0 ∧ ¬ (255 : Int32) < v0) (hp1 : ¬ v1 < 0 ∧ ¬ (255 : Int32) < v1) (hp2 : ¬ v2 < 0 ∧ ¬ (255 : Int32) < v2) (hp3 : ¬ v3 < 0 ∧ ¬ (255 : Int32) < v3) (hp4 : ¬ v4 < 0 ∧ ¬ (255 : Int32) < v4) (hp5 : ¬ v5 < 0 ∧ ¬ (255 : Int32) < v5) (S_COMPACT_STRINGS : Sta Z Z.heap "java/lang/String" "COMPACT_STRINGS" "Z" (.int G1)) (cs0 : ¬ (G1 = (0 : Int32))) (Ol : Old Z n0 h0) :
    MetFree l (⟨"com/example/wade/wade/monitor/AccessGoverningPinLaw", "make", "([CI)Ljava/lang/String;"⟩ : MethodName) (head1 (Jvm.Cond.code (⟨"com/example/wade/wade/monitor/AccessGoverningPinLaw", "make", "([CI)Ljava/lang/String;"⟩ : MethodName) method_2_code 2 (some (.object "java/lang/String")) :: ws) ({ frames := 5, cells := 5, slots := 20, locals := 80 } : Room)) (fun a U => a = #[(.ref a1), (.int (2 : Int32))] ∧ Z.Warmed39 U.vm ∧ U.heap = h0) (fun _ _ _ _ _ => True) (fun _ U o U' => ∃ v L, o = .returned v ∧ Qmk2 Z a1 k1 v0 v1 v2 v3 v4 v5 G1 h0 n0 v U'.heap L ∧ FrameEnd U o U' L ({ frames := 5, cells := 5, slots := 20, locals := 80 } : Room).cells ({ frames := 5, cells := 5, slots := 20, locals := 80 } : Room).slots) := by
  refine MetFree.of_bodySF (plainFor_of_name pn_mk2) hisR ?_
  intro p e s m args below meth c s₁ Bd hml0 hP hK
  obtain ⟨rfl, hZ, hh⟩ := hP
  have hx := Bd.exec
  have hby := Bd.bytes
  have hml : c.maxLocals = 2 := hml0
  have hown : s.vm.findClass "com/example/wade/wade/monitor/AccessGoverningPinLaw" = some m.cls := findClass_of_methodNamed Bd.named
  have hnm := (name_of_methodNamed Bd.named Bd.method).1
  have hlk : meth.locks = false := BodyLoose.notSynchronized Bd
  have X0 : Stand p l e ({ frames := 5, cells := 5, slots := 20, locals := 80 } : Room) s m #[(.ref a1), (.int (2 : Int32))] below meth c s₁ [] 0 0 := Stand.of_body Bd
  have e0 : s₁.heap = h0 := by rw [← hh, Bd.state]; rfl
  have N0 := Fr.nil n0
  have K0 := Keep.refl h0 []
  obtain ⟨G, hG⟩ : ∃ G : Outcome → State → Prop, G = fun o u => ∃ v L, o = .returned v ∧ Qmk2 Z a1 k1 v0 v1 v2 v3 v4 v5 G1 h0 n0 v u.heap L ∧ FrameEnd s o u L ({ frames := 5, cells := 5, slots := 20, locals := 80 } : Room).cells ({ frames := 5, cells := 5, slots := 20, locals := 80 } : Room).slots := ⟨_, rfl⟩
  suffices hgo : Owe p.tables e below G s₁ (mkF m 0 #[.val (.ref a1), .val (.int (2 : Int32))] []) by
    obtain ⟨u, o, h1, h2, h3, h4⟩ := hgo
    exact ⟨u, o, castTop (ef_mk2 m a1 (2 : Int32)) h1, h2, h3, by rw [hG] at h4; exact h4⟩
  have hws : ∀ d ∈ StrChars.Road.words, d.before a0 Z = true := fun d hd => hw d (own_words d hd)
  refine Owe.iloadN X0.here hx (hb hby d10_0) rfl ?_
  refine Owe.ifYes X0.here hx (hb hby d10_1) rfl ((if0 _ _).trans (tlt (by decide)).2.2.1) (pc' := 15) (by decide) (by decide) ?_
  refine Owe.iloadN X0.here hx (hb hby d10_15) rfl ?_
  refine Owe.iconst X0.here hx (hb hby d10_16) (w := (1 : Int32)) rfl ?_
  refine Owe.icmpYes X0.here hx (hb hby d10_17) rfl (feq (by decide)).2 (pc' := 37) (by decide) (by decide) ?_
  refine Owe.iloadN X0.here hx (hb hby d10_37) rfl ?_
  refine Owe.iconst X0.here hx (hb hby d10_38) (w := (2 : Int32)) rfl ?_
  refine Owe.icmpNo X0.here hx (hb hby d10_39) rfl (teq (by decide)).2 ?_
  refine Owe.new X0 hx hZ hown (hw _ (List.mem_of_getElem? (i := 49) rfl)) (hw _ (List.mem_of_getElem? (i := 4) rfl)) (hw _ (List.mem_of_getElem? (i := 3) rfl)) e0 (hb hby d10_42) (by decide) (by decide) fun T180 h180 b180 g180 X180 e180 E180 A180 D180 => ?_
  have ne_a1_b180 : a1 ≠ b180 := Nat.ne_of_lt (Nat.lt_of_lt_of_le V_a1.lt (Nat.le_of_eq g180.symm))
  have sz_b180 := Nat.le_trans K0.1 (Nat.le_of_eq g180.symm)
  have ge_b180 := Nat.le_trans Z0 (Nat.le_of_eq g180.symm)
  have K_181 := K0.ext E180
  have V_a1_182 := V_a1.ext E180
  have Ol_183 := Ol.ext E180
  have Z_184 := Nat.le_trans Z0 E180.1
  have Fvalue_b180 : Fld Z h180 b180 "java/lang/String" "value" "[B" .null := D180 (Or.inr (hw _ (List.mem_of_getElem? (i := 6) rfl))) (ty := (.array .byte)) (by decide)
  have Fcoder_b180 : Fld Z h180 b180 "java/lang/String" "coder" "B" (.int (0 : Int32)) := D180 (Or.inr (hw _ (List.mem_of_getElem? (i := 7) rfl))) (ty := .byte) (by decide)
  refine Owe.dup X180.here hx (hb hby d10_45) rfl rfl ?_
  refine Owe.iconst X180.here hx (hb hby d10_46) (w := (2 : Int32)) rfl ?_
  refine Owe.newarr X180 hx hZ (aty := .char) (hw _ (List.mem_of_getElem? (i := 0) rfl)) e180 (hb hby d10_47) rfl (by decide) (cap := 2) (by decide) (by decide) (by decide) (by decide) fun T185 h185 b185 k185 g185 X185 e185 E185 V185 => ?_
  have ne_a1_b185 : a1 ≠ b185 := Nat.ne_of_lt (Nat.lt_of_lt_of_le V_a1_182.lt (Nat.le_of_eq g185.symm))
  have ne_b180_b185 : b180 ≠ b185 := Nat.ne_of_lt (Nat.lt_of_lt_of_le A180.lt (Nat.le_of_eq g185.symm))
  have sz_b185 := Nat.le_trans K_181.1 (Nat.le_of_eq g185.symm)
  have ge_b185 := Nat.le_trans Z_184 (Nat.le_of_eq g185.symm)
  have K_186 := K_181.ext E185
  have V_a1_187 := V_a1_182.ext E185
  have Ol_188 := Ol_183.ext E185
  have A180_189 := A180.ext E185
  have Fvalue_b180_190 := Fvalue_b180.ext E185
  have Fcoder_b180_191 := Fcoder_b180.ext E185
  have Z_192 := Nat.le_trans Z_184 E185.1
  have V_b185_185 : Arv Z h185 b185 k185 .char (2 : Int32) [(.int (0 : Int32)), (.int (0 : Int32))] (.int (0 : Int32)) := V185.pad (pad_rep [] (.int (0 : Int32)) 2)
  refine Owe.dup X185.here hx (hb hby d10_49) rfl rfl ?_
  refine Owe.iconst X185.here hx (hb hby d10_50) (w := (0 : Int32)) rfl ?_
  refine Owe.aloadN X185.here hx (hb hby d10_51) rfl rfl ?_
  refine Owe.iconst X185.here hx (hb hby d10_52) (w := (0 : Int32)) rfl ?_
  refine Owe.caload X185 hx hZ e185 V_a1_187 (v := (.int v0)) (by decide) rfl (hb hby d10_53) rfl ?_
  refine Owe.castore X185 hx hZ e185 V_b185_185 (x := v0) 0 rfl (Nat.le_of_ble_eq_true rfl) (by decide) (hb hby d10_54) rfl fun T193 h193 X193 e193 W193 (V193 : Arv Z h193 b185 k185 .char (2 : Int32) [(.int (nar .char v0)), (.int (0 : Int32))] (.int (0 : Int32))) => ?_
  have K_194 := K_186.wr W193 (Or.inr sz_b185)
  have V_a1_195 := V_a1_187.other W193 ne_a1_b185
  have Ol_196 := Ol_188.wr W193 ge_b185
  have A180_197 := A180_189.wr W193
  have Fvalue_b180_198 := Fvalue_b180_190.other W193 (Or.inl ne_b180_b185)
  have Fcoder_b180_199 := Fcoder_b180_191.other W193 (Or.inl ne_b180_b185)
  have Z_200 := Nat.le_trans Z_192 (Keep.of_wr W193).1
  have N193 := Fr.snoc X193 N0 ge_b185
  refine Owe.dup X193.here hx (hb hby d10_55) rfl rfl ?_
  refine Owe.iconst X193.here hx (hb hby d10_56) (w := (1 : Int32)) rfl ?_
  refine Owe.aloadN X193.here hx (hb hby d10_57) rfl rfl ?_
  refine Owe.iconst X193.here hx (hb hby d10_58) (w := (1 : Int32)) rfl ?_
  refine Owe.caload X193 hx hZ e193 V_a1_195 (v := (.int v1)) (by decide) rfl (hb hby d10_59) rfl ?_
  refine Owe.castore X193 hx hZ e193 V193 (x := v1) 1 rfl (Nat.le_of_ble_eq_true rfl) (by decide) (hb hby d10_60) rfl fun T201 h201 X201 e201 W201 (V201 : Arv Z h201 b185 k185 .char (2 : Int32) [(.int (nar .char v0)), (.int (nar .char v1))] (.int (0 : Int32))) => ?_
  have K_202 := K_194.wr W201 (Or.inr sz_b185)
  have V_a1_203 := V_a1_195.other W201 ne_a1_b185
  have Ol_204 := Ol_196.wr W201 ge_b185
  have A180_205 := A180_197.wr W201
  have Fvalue_b180_206 := Fvalue_b180_198.other W201 (Or.inl ne_b180_b185)
  have Fcoder_b180_207 := Fcoder_b180_199.other W201 (Or.inl ne_b180_b185)
  have Z_208 := Nat.le_trans Z_200 (Keep.of_wr W201).1
  have N201 := Fr.snoc X201 N193 ge_b185
  have hp209 : ∀ c ∈ ([(nar .char v0), (nar .char v1)] : List Int32), ¬ c < 0 ∧ ¬ (255 : Int32) < c := by
    intro c hc
    simp only [List.mem_cons, List.not_mem_nil, or_false] at hc
    rcases hc with rfl | rfl
    · exact own_nar2 hp0
    · exact own_nar2 hp1
  refine Owe.special X201 hx (y := (⟨"java/lang/String", "<init>", "([C)V"⟩ : MethodName)) rfl hown (mvT hZ (hw _ (List.mem_of_getElem? (i := 50) rfl))) (mvT hZ (hw _ (List.mem_of_getElem? (i := 51) rfl))) (mvT hZ (hw _ (List.mem_of_getElem? (i := 52) rfl))) (by decide) (StrChars.Road.backV (W := 1) hZ hws (kI := 4) (hw _ (List.mem_of_getElem? (i := 4) rfl)) (cs := ([(nar .char v0), (nar .char v1)] : List Int32)) (bs := ([(nar .char v0), (nar .char v1)] : List Int32).map (fun c => c.toInt8.toInt32)) (n := 2) ge_b180 Z_208 A180_205 Fvalue_b180_206 Fcoder_b180_207 V201 (S_COMPACT_STRINGS.ext Ol_204.2) cs0 rfl rfl (by decide) (by decide) hp209 rfl (by decide) (by decide)) (by rw [hml]; rfl) (a := b180) (argsL := [(.ref b185)]) (rest := [(.ref b180)]) (lenOf pd_7 rfl) rfl (Nat.le_of_ble_eq_true rfl) (hb hby d10_61) rfl e201 (by decide) (by decide) fun T210 v210 L210 X210 hQ210 => ?_
  obtain ⟨rfl, Nq210, K210, Ex210, Fc210, t210, kb210, gt210, ft210, nt210, Fv210, Vt210⟩ := hQ210
  have N210 := Fr.app N201 Nq210
  have ne_a1_t210 : a1 ≠ t210 := Nat.ne_of_lt (Nat.lt_of_lt_of_le V_a1_203.lt ft210)
  have ne_b180_t210 : b180 ≠ t210 := Nat.ne_of_lt (Nat.lt_of_lt_of_le A180_205.lt ft210)
  have ne_b185_t210 : b185 ≠ t210 := Nat.ne_of_lt (Nat.lt_of_lt_of_le V201.lt ft210)
  have K_211 := K_202.trans K210 (allS (Or.inr sz_b180) all0)
  have V_a1_212 := V_a1_203.keep K210 (ninS ne_a1_b180 nin0)
  have Ol_213 := Ol_204.keep K210 (allS ge_b180 all0)
  have A180_214 := A180_205.keep K210
  have V201_215 := V201.keep K210 (ninS (Ne.symm ne_b180_b185) nin0)
  have Z_216 := Nat.le_trans Z_208 K210.1
  have sz_t210 := Nat.le_trans K_202.1 ft210
  have Tx210 : (∀ c ∈ ([(nar .char v0), (nar .char v1)] : List Int32), ¬ c < 0 ∧ ¬ (255 : Int32) < c) ∧ ([(nar .char v0), (nar .char v1)] : List Int32).length ≤ 4000 := ⟨hp209, Nat.le_of_ble_eq_true rfl⟩
  refine Owe.retR X210 hx hlk (t := (.object "java/lang/String")) Bd.returns rfl rfl rfl (hb hby d10_64) rfl fun fs hE => ?_
  rw [hG]
  refine ⟨_, _, rfl, ?_, frameMono hE (by decide) (by decide)⟩
  show Qmk2 Z a1 k1 v0 v1 v2 v3 v4 v5 G1 h0 n0 _ T210.heap _
  exact ⟨b180, t210, kb210, rfl, N210, K_211, ge_b180, sz_b180, Ex210, Fv210, Fc210, Vt210, Tx210⟩
theorem pn_mk3 : plainName "com/example/wade/wade/monitor/AccessGoverningPinLaw" = true := by first | (simp [plainName, overriddenIn]; done) | decide +kernel
theorem ef_mk3 (m : MethodId) (x0 : Addr) (x1 : Int32)  : entryFrame m #[(.ref x0), (.int x1)] 2 = mkF m 0 #[.val (.ref x0), .val (.int x1)] [] := by first | (simp [entryFrame, mkF, argsToLocals, Value.category]; done) | rfl
def Qmk3 (Z : State) (a1 : Addr) (k1 : ClassId) (v0 : Int32) (v1 : Int32) (v2 : Int32) (v3 : Int32) (v4 : Int32) (v5 : Int32) (G1 : Int32) (h0 : Heap) (n0 : Nat) (v : Option Value) (h : Heap) (L : List Loc) : Prop := ∃ (x1 : Addr), ∃ (t1 : Addr), ∃ (kb1 : ClassId), v = some (.ref x1) ∧ Fr n0 L ∧ Keep h0 h [] ∧ n0 ≤ x1 ∧ h0.size ≤ x1 ∧ Exa Z h x1 "java/lang/String" ∧ Fld Z h x1 "java/lang/String" "value" "[B" (.ref t1) ∧ Fld Z h x1 "java/lang/String" "coder" "B" (.int (0 : Int32)) ∧ Arv Z h t1 kb1 .byte (3 : Int32) ((([(nar .char v0), (nar .char v1), (nar .char v2)] : List Int32).map (fun c => c.toInt8.toInt32)).map Value.int) (.int (0 : Int32)) ∧ (∀ c ∈ ([(nar .char v0), (nar .char v1), (nar .char v2)] : List Int32), ¬ c < 0 ∧ ¬ (255 : Int32) < c) ∧ ([(nar .char v0), (nar .char v1), (nar .char v2)] : List Int32).length ≤ 4000
set_option maxRecDepth 65536 in
set_option maxHeartbeats 40000000 in
theorem rmmk3 (l : Launch) (Z : State) (a0 : Array Value) (hw : ∀ d ∈ tables_1, d.before a0 Z = true) (ws : List Jvm.Cond) (a1 : Addr) (k1 : ClassId) (v0 : Int32) (v1 : Int32) (v2 : Int32) (v3 : Int32) (v4 : Int32) (v5 : Int32) (G1 : Int32) (h0 : Heap) (n0 : Nat) (Z0 : n0 ≤ h0.size) (V_a1 : Arv Z h0 a1 k1 .char (6 : Int32) [(.int v0), (.int v1), (.int v2), (.int v3), (.int v4), (.int v5)] (.int (0 : Int32))) (hp0 : ¬ v0 < 0 ∧ ¬ (255 : Int32) < v0) (hp1 : ¬ v1 < 0 ∧ ¬ (255 : Int32) < v1) (hp2 : ¬ v2 < 0 ∧ ¬ (255 : Int32) < v2) (hp3 : ¬ v3 < 0 ∧ ¬ (255 : Int32) < v3) (hp4 : ¬ v4 < 0 ∧ ¬ (255 : Int32) < v4) (hp5 : ¬ v5 < 0 ∧ ¬ (255 : Int32) < v5) (S_COMPACT_STRINGS : Sta Z Z.heap "java/lang/String" "COMPACT_STRINGS" "Z" (.int G1)) (cs0 : ¬ (G1 = (0 : Int32))) (Ol : Old Z n0 h0) :
    MetFree l (⟨"com/example/wade/wade/monitor/AccessGoverningPinLaw", "make", "([CI)Ljava/lang/String;"⟩ : MethodName) (head1 (Jvm.Cond.code (⟨"com/example/wade/wade/monitor/AccessGoverningPinLaw", "make", "([CI)Ljava/lang/String;"⟩ : MethodName) method_2_code 2 (some (.object "java/lang/String")) :: ws) ({ frames := 5, cells := 5, slots := 20, locals := 80 } : Room)) (fun a U => a = #[(.ref a1), (.int (3 : Int32))] ∧ Z.Warmed39 U.vm ∧ U.heap = h0) (fun _ _ _ _ _ => True) (fun _ U o U' => ∃ v L, o = .returned v ∧ Qmk3 Z a1 k1 v0 v1 v2 v3 v4 v5 G1 h0 n0 v U'.heap L ∧ FrameEnd U o U' L ({ frames := 5, cells := 5, slots := 20, locals := 80 } : Room).cells ({ frames := 5, cells := 5, slots := 20, locals := 80 } : Room).slots) := by
  refine MetFree.of_bodySF (plainFor_of_name pn_mk3) hisR ?_
  intro p e s m args below meth c s₁ Bd hml0 hP hK
  obtain ⟨rfl, hZ, hh⟩ := hP
  have hx := Bd.exec
  have hby := Bd.bytes
  have hml : c.maxLocals = 2 := hml0
  have hown : s.vm.findClass "com/example/wade/wade/monitor/AccessGoverningPinLaw" = some m.cls := findClass_of_methodNamed Bd.named
  have hnm := (name_of_methodNamed Bd.named Bd.method).1
  have hlk : meth.locks = false := BodyLoose.notSynchronized Bd
  have X0 : Stand p l e ({ frames := 5, cells := 5, slots := 20, locals := 80 } : Room) s m #[(.ref a1), (.int (3 : Int32))] below meth c s₁ [] 0 0 := Stand.of_body Bd
  have e0 : s₁.heap = h0 := by rw [← hh, Bd.state]; rfl
  have N0 := Fr.nil n0
  have K0 := Keep.refl h0 []
  obtain ⟨G, hG⟩ : ∃ G : Outcome → State → Prop, G = fun o u => ∃ v L, o = .returned v ∧ Qmk3 Z a1 k1 v0 v1 v2 v3 v4 v5 G1 h0 n0 v u.heap L ∧ FrameEnd s o u L ({ frames := 5, cells := 5, slots := 20, locals := 80 } : Room).cells ({ frames := 5, cells := 5, slots := 20, locals := 80 } : Room).slots := ⟨_, rfl⟩
  suffices hgo : Owe p.tables e below G s₁ (mkF m 0 #[.val (.ref a1), .val (.int (3 : Int32))] []) by
    obtain ⟨u, o, h1, h2, h3, h4⟩ := hgo
    exact ⟨u, o, castTop (ef_mk3 m a1 (3 : Int32)) h1, h2, h3, by rw [hG] at h4; exact h4⟩
  have hws : ∀ d ∈ StrChars.Road.words, d.before a0 Z = true := fun d hd => hw d (own_words d hd)
  refine Owe.iloadN X0.here hx (hb hby d10_0) rfl ?_
  refine Owe.ifYes X0.here hx (hb hby d10_1) rfl ((if0 _ _).trans (tlt (by decide)).2.2.1) (pc' := 15) (by decide) (by decide) ?_
  refine Owe.iloadN X0.here hx (hb hby d10_15) rfl ?_
  refine Owe.iconst X0.here hx (hb hby d10_16) (w := (1 : Int32)) rfl ?_
  refine Owe.icmpYes X0.here hx (hb hby d10_17) rfl (feq (by decide)).2 (pc' := 37) (by decide) (by decide) ?_
  refine Owe.iloadN X0.here hx (hb hby d10_37) rfl ?_
  refine Owe.iconst X0.here hx (hb hby d10_38) (w := (2 : Int32)) rfl ?_
  refine Owe.icmpYes X0.here hx (hb hby d10_39) rfl (feq (by decide)).2 (pc' := 65) (by decide) (by decide) ?_
  refine Owe.iloadN X0.here hx (hb hby d10_65) rfl ?_
  refine Owe.iconst X0.here hx (hb hby d10_66) (w := (3 : Int32)) rfl ?_
  refine Owe.icmpNo X0.here hx (hb hby d10_67) rfl (teq (by decide)).2 ?_
  refine Owe.new X0 hx hZ hown (hw _ (List.mem_of_getElem? (i := 49) rfl)) (hw _ (List.mem_of_getElem? (i := 4) rfl)) (hw _ (List.mem_of_getElem? (i := 3) rfl)) e0 (hb hby d10_70) (by decide) (by decide) fun T217 h217 b217 g217 X217 e217 E217 A217 D217 => ?_
  have ne_a1_b217 : a1 ≠ b217 := Nat.ne_of_lt (Nat.lt_of_lt_of_le V_a1.lt (Nat.le_of_eq g217.symm))
  have sz_b217 := Nat.le_trans K0.1 (Nat.le_of_eq g217.symm)
  have ge_b217 := Nat.le_trans Z0 (Nat.le_of_eq g217.symm)
  have K_218 := K0.ext E217
  have V_a1_219 := V_a1.ext E217
  have Ol_220 := Ol.ext E217
  have Z_221 := Nat.le_trans Z0 E217.1
  have Fvalue_b217 : Fld Z h217 b217 "java/lang/String" "value" "[B" .null := D217 (Or.inr (hw _ (List.mem_of_getElem? (i := 6) rfl))) (ty := (.array .byte)) (by decide)
  have Fcoder_b217 : Fld Z h217 b217 "java/lang/String" "coder" "B" (.int (0 : Int32)) := D217 (Or.inr (hw _ (List.mem_of_getElem? (i := 7) rfl))) (ty := .byte) (by decide)
  refine Owe.dup X217.here hx (hb hby d10_73) rfl rfl ?_
  refine Owe.iconst X217.here hx (hb hby d10_74) (w := (3 : Int32)) rfl ?_
  refine Owe.newarr X217 hx hZ (aty := .char) (hw _ (List.mem_of_getElem? (i := 0) rfl)) e217 (hb hby d10_75) rfl (by decide) (cap := 3) (by decide) (by decide) (by decide) (by decide) fun T222 h222 b222 k222 g222 X222 e222 E222 V222 => ?_
  have ne_a1_b222 : a1 ≠ b222 := Nat.ne_of_lt (Nat.lt_of_lt_of_le V_a1_219.lt (Nat.le_of_eq g222.symm))
  have ne_b217_b222 : b217 ≠ b222 := Nat.ne_of_lt (Nat.lt_of_lt_of_le A217.lt (Nat.le_of_eq g222.symm))
  have sz_b222 := Nat.le_trans K_218.1 (Nat.le_of_eq g222.symm)
  have ge_b222 := Nat.le_trans Z_221 (Nat.le_of_eq g222.symm)
  have K_223 := K_218.ext E222
  have V_a1_224 := V_a1_219.ext E222
  have Ol_225 := Ol_220.ext E222
  have A217_226 := A217.ext E222
  have Fvalue_b217_227 := Fvalue_b217.ext E222
  have Fcoder_b217_228 := Fcoder_b217.ext E222
  have Z_229 := Nat.le_trans Z_221 E222.1
  have V_b222_222 : Arv Z h222 b222 k222 .char (3 : Int32) [(.int (0 : Int32)), (.int (0 : Int32)), (.int (0 : Int32))] (.int (0 : Int32)) := V222.pad (pad_rep [] (.int (0 : Int32)) 3)
  refine Owe.dup X222.here hx (hb hby d10_77) rfl rfl ?_
  refine Owe.iconst X222.here hx (hb hby d10_78) (w := (0 : Int32)) rfl ?_
  refine Owe.aloadN X222.here hx (hb hby d10_79) rfl rfl ?_
  refine Owe.iconst X222.here hx (hb hby d10_80) (w := (0 : Int32)) rfl ?_
  refine Owe.caload X222 hx hZ e222 V_a1_224 (v := (.int v0)) (by decide) rfl (hb hby d10_81) rfl ?_
  refine Owe.castore X222 hx hZ e222 V_b222_222 (x := v0) 0 rfl (Nat.le_of_ble_eq_true rfl) (by decide) (hb hby d10_82) rfl fun T230 h230 X230 e230 W230 (V230 : Arv Z h230 b222 k222 .char (3 : Int32) [(.int (nar .char v0)), (.int (0 : Int32)), (.int (0 : Int32))] (.int (0 : Int32))) => ?_
  have K_231 := K_223.wr W230 (Or.inr sz_b222)
  have V_a1_232 := V_a1_224.other W230 ne_a1_b222
  have Ol_233 := Ol_225.wr W230 ge_b222
  have A217_234 := A217_226.wr W230
  have Fvalue_b217_235 := Fvalue_b217_227.other W230 (Or.inl ne_b217_b222)
  have Fcoder_b217_236 := Fcoder_b217_228.other W230 (Or.inl ne_b217_b222)
  have Z_237 := Nat.le_trans Z_229 (Keep.of_wr W230).1
  have N230 := Fr.snoc X230 N0 ge_b222
  refine Owe.dup X230.here hx (hb hby d10_83) rfl rfl ?_
  refine Owe.iconst X230.here hx (hb hby d10_84) (w := (1 : Int32)) rfl ?_
  refine Owe.aloadN X230.here hx (hb hby d10_85) rfl rfl ?_
  refine Owe.iconst X230.here hx (hb hby d10_86) (w := (1 : Int32)) rfl ?_
  refine Owe.caload X230 hx hZ e230 V_a1_232 (v := (.int v1)) (by decide) rfl (hb hby d10_87) rfl ?_
  refine Owe.castore X230 hx hZ e230 V230 (x := v1) 1 rfl (Nat.le_of_ble_eq_true rfl) (by decide) (hb hby d10_88) rfl fun T238 h238 X238 e238 W238 (V238 : Arv Z h238 b222 k222 .char (3 : Int32) [(.int (nar .char v0)), (.int (nar .char v1)), (.int (0 : Int32))] (.int (0 : Int32))) => ?_
  have K_239 := K_231.wr W238 (Or.inr sz_b222)
  have V_a1_240 := V_a1_232.other W238 ne_a1_b222
  have Ol_241 := Ol_233.wr W238 ge_b222
  have A217_242 := A217_234.wr W238
  have Fvalue_b217_243 := Fvalue_b217_235.other W238 (Or.inl ne_b217_b222)
  have Fcoder_b217_244 := Fcoder_b217_236.other W238 (Or.inl ne_b217_b222)
  have Z_245 := Nat.le_trans Z_237 (Keep.of_wr W238).1
  have N238 := Fr.snoc X238 N230 ge_b222
  refine Owe.dup X238.here hx (hb hby d10_89) rfl rfl ?_
  refine Owe.iconst X238.here hx (hb hby d10_90) (w := (2 : Int32)) rfl ?_
  refine Owe.aloadN X238.here hx (hb hby d10_91) rfl rfl ?_
  refine Owe.iconst X238.here hx (hb hby d10_92) (w := (2 : Int32)) rfl ?_
  refine Owe.caload X238 hx hZ e238 V_a1_240 (v := (.int v2)) (by decide) rfl (hb hby d10_93) rfl ?_
  refine Owe.castore X238 hx hZ e238 V238 (x := v2) 2 rfl (Nat.le_of_ble_eq_true rfl) (by decide) (hb hby d10_94) rfl fun T246 h246 X246 e246 W246 (V246 : Arv Z h246 b222 k222 .char (3 : Int32) [(.int (nar .char v0)), (.int (nar .char v1)), (.int (nar .char v2))] (.int (0 : Int32))) => ?_
  have K_247 := K_239.wr W246 (Or.inr sz_b222)
  have V_a1_248 := V_a1_240.other W246 ne_a1_b222
  have Ol_249 := Ol_241.wr W246 ge_b222
  have A217_250 := A217_242.wr W246
  have Fvalue_b217_251 := Fvalue_b217_243.other W246 (Or.inl ne_b217_b222)
  have Fcoder_b217_252 := Fcoder_b217_244.other W246 (Or.inl ne_b217_b222)
  have Z_253 := Nat.le_trans Z_245 (Keep.of_wr W246).1
  have N246 := Fr.snoc X246 N238 ge_b222
  have hp254 : ∀ c ∈ ([(nar .char v0), (nar .char v1), (nar .char v2)] : List Int32), ¬ c < 0 ∧ ¬ (255 : Int32) < c := by
    intro c hc
    simp only [List.mem_cons, List.not_mem_nil, or_false] at hc
    rcases hc with rfl | rfl | rfl
    · exact own_nar2 hp0
    · exact own_nar2 hp1
    · exact own_nar2 hp2
  refine Owe.special X246 hx (y := (⟨"java/lang/String", "<init>", "([C)V"⟩ : MethodName)) rfl hown (mvT hZ (hw _ (List.mem_of_getElem? (i := 50) rfl))) (mvT hZ (hw _ (List.mem_of_getElem? (i := 51) rfl))) (mvT hZ (hw _ (List.mem_of_getElem? (i := 52) rfl))) (by decide) (StrChars.Road.backV (W := 1) hZ hws (kI := 4) (hw _ (List.mem_of_getElem? (i := 4) rfl)) (cs := ([(nar .char v0), (nar .char v1), (nar .char v2)] : List Int32)) (bs := ([(nar .char v0), (nar .char v1), (nar .char v2)] : List Int32).map (fun c => c.toInt8.toInt32)) (n := 3) ge_b217 Z_253 A217_250 Fvalue_b217_251 Fcoder_b217_252 V246 (S_COMPACT_STRINGS.ext Ol_249.2) cs0 rfl rfl (by decide) (by decide) hp254 rfl (by decide) (by decide)) (by rw [hml]; rfl) (a := b217) (argsL := [(.ref b222)]) (rest := [(.ref b217)]) (lenOf pd_7 rfl) rfl (Nat.le_of_ble_eq_true rfl) (hb hby d10_95) rfl e246 (by decide) (by decide) fun T255 v255 L255 X255 hQ255 => ?_
  obtain ⟨rfl, Nq255, K255, Ex255, Fc255, t255, kb255, gt255, ft255, nt255, Fv255, Vt255⟩ := hQ255
  have N255 := Fr.app N246 Nq255
  have ne_a1_t255 : a1 ≠ t255 := Nat.ne_of_lt (Nat.lt_of_lt_of_le V_a1_248.lt ft255)
  have ne_b217_t255 : b217 ≠ t255 := Nat.ne_of_lt (Nat.lt_of_lt_of_le A217_250.lt ft255)
  have ne_b222_t255 : b222 ≠ t255 := Nat.ne_of_lt (Nat.lt_of_lt_of_le V246.lt ft255)
  have K_256 := K_247.trans K255 (allS (Or.inr sz_b217) all0)
  have V_a1_257 := V_a1_248.keep K255 (ninS ne_a1_b217 nin0)
  have Ol_258 := Ol_249.keep K255 (allS ge_b217 all0)
  have A217_259 := A217_250.keep K255
  have V246_260 := V246.keep K255 (ninS (Ne.symm ne_b217_b222) nin0)
  have Z_261 := Nat.le_trans Z_253 K255.1
  have sz_t255 := Nat.le_trans K_247.1 ft255
  have Tx255 : (∀ c ∈ ([(nar .char v0), (nar .char v1), (nar .char v2)] : List Int32), ¬ c < 0 ∧ ¬ (255 : Int32) < c) ∧ ([(nar .char v0), (nar .char v1), (nar .char v2)] : List Int32).length ≤ 4000 := ⟨hp254, Nat.le_of_ble_eq_true rfl⟩
  refine Owe.retR X255 hx hlk (t := (.object "java/lang/String")) Bd.returns rfl rfl rfl (hb hby d10_98) rfl fun fs hE => ?_
  rw [hG]
  refine ⟨_, _, rfl, ?_, frameMono hE (by decide) (by decide)⟩
  show Qmk3 Z a1 k1 v0 v1 v2 v3 v4 v5 G1 h0 n0 _ T255.heap _
  exact ⟨b217, t255, kb255, rfl, N255, K_256, ge_b217, sz_b217, Ex255, Fv255, Fc255, Vt255, Tx255⟩
theorem pn_mk4 : plainName "com/example/wade/wade/monitor/AccessGoverningPinLaw" = true := by first | (simp [plainName, overriddenIn]; done) | decide +kernel
theorem ef_mk4 (m : MethodId) (x0 : Addr) (x1 : Int32)  : entryFrame m #[(.ref x0), (.int x1)] 2 = mkF m 0 #[.val (.ref x0), .val (.int x1)] [] := by first | (simp [entryFrame, mkF, argsToLocals, Value.category]; done) | rfl
def Qmk4 (Z : State) (a1 : Addr) (k1 : ClassId) (v0 : Int32) (v1 : Int32) (v2 : Int32) (v3 : Int32) (v4 : Int32) (v5 : Int32) (G1 : Int32) (h0 : Heap) (n0 : Nat) (v : Option Value) (h : Heap) (L : List Loc) : Prop := ∃ (x1 : Addr), ∃ (t1 : Addr), ∃ (kb1 : ClassId), v = some (.ref x1) ∧ Fr n0 L ∧ Keep h0 h [] ∧ n0 ≤ x1 ∧ h0.size ≤ x1 ∧ Exa Z h x1 "java/lang/String" ∧ Fld Z h x1 "java/lang/String" "value" "[B" (.ref t1) ∧ Fld Z h x1 "java/lang/String" "coder" "B" (.int (0 : Int32)) ∧ Arv Z h t1 kb1 .byte (4 : Int32) ((([(nar .char v0), (nar .char v1), (nar .char v2), (nar .char v3)] : List Int32).map (fun c => c.toInt8.toInt32)).map Value.int) (.int (0 : Int32)) ∧ (∀ c ∈ ([(nar .char v0), (nar .char v1), (nar .char v2), (nar .char v3)] : List Int32), ¬ c < 0 ∧ ¬ (255 : Int32) < c) ∧ ([(nar .char v0), (nar .char v1), (nar .char v2), (nar .char v3)] : List Int32).length ≤ 4000
set_option maxRecDepth 65536 in
set_option maxHeartbeats 40000000 in
theorem rmmk4 (l : Launch) (Z : State) (a0 : Array Value) (hw : ∀ d ∈ tables_1, d.before a0 Z = true) (ws : List Jvm.Cond) (a1 : Addr) (k1 : ClassId) (v0 : Int32) (v1 : Int32) (v2 : Int32) (v3 : Int32) (v4 : Int32) (v5 : Int32) (G1 : Int32) (h0 : Heap) (n0 : Nat) (Z0 : n0 ≤ h0.size) (V_a1 : Arv Z h0 a1 k1 .char (6 : Int32) [(.int v0), (.int v1), (.int v2), (.int v3), (.int v4), (.int v5)] (.int (0 : Int32))) (hp0 : ¬ v0 < 0 ∧ ¬ (255 : Int32) < v0) (hp1 : ¬ v1 < 0 ∧ ¬ (255 : Int32) < v1) (hp2 : ¬ v2 < 0 ∧ ¬ (255 : Int32) < v2) (hp3 : ¬ v3 < 0 ∧ ¬ (255 : Int32) < v3) (hp4 : ¬ v4 < 0 ∧ ¬ (255 : Int32) < v4) (hp5 : ¬ v5 < 0 ∧ ¬ (255 : Int32) < v5) (S_COMPACT_STRINGS : Sta Z Z.heap "java/lang/String" "COMPACT_STRINGS" "Z" (.int G1)) (cs0 : ¬ (G1 = (0 : Int32))) (Ol : Old Z n0 h0) :
    MetFree l (⟨"com/example/wade/wade/monitor/AccessGoverningPinLaw", "make", "([CI)Ljava/lang/String;"⟩ : MethodName) (head1 (Jvm.Cond.code (⟨"com/example/wade/wade/monitor/AccessGoverningPinLaw", "make", "([CI)Ljava/lang/String;"⟩ : MethodName) method_2_code 2 (some (.object "java/lang/String")) :: ws) ({ frames := 5, cells := 5, slots := 20, locals := 80 } : Room)) (fun a U => a = #[(.ref a1), (.int (4 : Int32))] ∧ Z.Warmed39 U.vm ∧ U.heap = h0) (fun _ _ _ _ _ => True) (fun _ U o U' => ∃ v L, o = .returned v ∧ Qmk4 Z a1 k1 v0 v1 v2 v3 v4 v5 G1 h0 n0 v U'.heap L ∧ FrameEnd U o U' L ({ frames := 5, cells := 5, slots := 20, locals := 80 } : Room).cells ({ frames := 5, cells := 5, slots := 20, locals := 80 } : Room).slots) := by
  refine MetFree.of_bodySF (plainFor_of_name pn_mk4) hisR ?_
  intro p e s m args below meth c s₁ Bd hml0 hP hK
  obtain ⟨rfl, hZ, hh⟩ := hP
  have hx := Bd.exec
  have hby := Bd.bytes
  have hml : c.maxLocals = 2 := hml0
  have hown : s.vm.findClass "com/example/wade/wade/monitor/AccessGoverningPinLaw" = some m.cls := findClass_of_methodNamed Bd.named
  have hnm := (name_of_methodNamed Bd.named Bd.method).1
  have hlk : meth.locks = false := BodyLoose.notSynchronized Bd
  have X0 : Stand p l e ({ frames := 5, cells := 5, slots := 20, locals := 80 } : Room) s m #[(.ref a1), (.int (4 : Int32))] below meth c s₁ [] 0 0 := Stand.of_body Bd
  have e0 : s₁.heap = h0 := by rw [← hh, Bd.state]; rfl
  have N0 := Fr.nil n0
  have K0 := Keep.refl h0 []
  obtain ⟨G, hG⟩ : ∃ G : Outcome → State → Prop, G = fun o u => ∃ v L, o = .returned v ∧ Qmk4 Z a1 k1 v0 v1 v2 v3 v4 v5 G1 h0 n0 v u.heap L ∧ FrameEnd s o u L ({ frames := 5, cells := 5, slots := 20, locals := 80 } : Room).cells ({ frames := 5, cells := 5, slots := 20, locals := 80 } : Room).slots := ⟨_, rfl⟩
  suffices hgo : Owe p.tables e below G s₁ (mkF m 0 #[.val (.ref a1), .val (.int (4 : Int32))] []) by
    obtain ⟨u, o, h1, h2, h3, h4⟩ := hgo
    exact ⟨u, o, castTop (ef_mk4 m a1 (4 : Int32)) h1, h2, h3, by rw [hG] at h4; exact h4⟩
  have hws : ∀ d ∈ StrChars.Road.words, d.before a0 Z = true := fun d hd => hw d (own_words d hd)
  refine Owe.iloadN X0.here hx (hb hby d10_0) rfl ?_
  refine Owe.ifYes X0.here hx (hb hby d10_1) rfl ((if0 _ _).trans (tlt (by decide)).2.2.1) (pc' := 15) (by decide) (by decide) ?_
  refine Owe.iloadN X0.here hx (hb hby d10_15) rfl ?_
  refine Owe.iconst X0.here hx (hb hby d10_16) (w := (1 : Int32)) rfl ?_
  refine Owe.icmpYes X0.here hx (hb hby d10_17) rfl (feq (by decide)).2 (pc' := 37) (by decide) (by decide) ?_
  refine Owe.iloadN X0.here hx (hb hby d10_37) rfl ?_
  refine Owe.iconst X0.here hx (hb hby d10_38) (w := (2 : Int32)) rfl ?_
  refine Owe.icmpYes X0.here hx (hb hby d10_39) rfl (feq (by decide)).2 (pc' := 65) (by decide) (by decide) ?_
  refine Owe.iloadN X0.here hx (hb hby d10_65) rfl ?_
  refine Owe.iconst X0.here hx (hb hby d10_66) (w := (3 : Int32)) rfl ?_
  refine Owe.icmpYes X0.here hx (hb hby d10_67) rfl (feq (by decide)).2 (pc' := 99) (by decide) (by decide) ?_
  refine Owe.iloadN X0.here hx (hb hby d10_99) rfl ?_
  refine Owe.iconst X0.here hx (hb hby d10_100) (w := (4 : Int32)) rfl ?_
  refine Owe.icmpNo X0.here hx (hb hby d10_101) rfl (teq (by decide)).2 ?_
  refine Owe.new X0 hx hZ hown (hw _ (List.mem_of_getElem? (i := 49) rfl)) (hw _ (List.mem_of_getElem? (i := 4) rfl)) (hw _ (List.mem_of_getElem? (i := 3) rfl)) e0 (hb hby d10_104) (by decide) (by decide) fun T262 h262 b262 g262 X262 e262 E262 A262 D262 => ?_
  have ne_a1_b262 : a1 ≠ b262 := Nat.ne_of_lt (Nat.lt_of_lt_of_le V_a1.lt (Nat.le_of_eq g262.symm))
  have sz_b262 := Nat.le_trans K0.1 (Nat.le_of_eq g262.symm)
  have ge_b262 := Nat.le_trans Z0 (Nat.le_of_eq g262.symm)
  have K_263 := K0.ext E262
  have V_a1_264 := V_a1.ext E262
  have Ol_265 := Ol.ext E262
  have Z_266 := Nat.le_trans Z0 E262.1
  have Fvalue_b262 : Fld Z h262 b262 "java/lang/String" "value" "[B" .null := D262 (Or.inr (hw _ (List.mem_of_getElem? (i := 6) rfl))) (ty := (.array .byte)) (by decide)
  have Fcoder_b262 : Fld Z h262 b262 "java/lang/String" "coder" "B" (.int (0 : Int32)) := D262 (Or.inr (hw _ (List.mem_of_getElem? (i := 7) rfl))) (ty := .byte) (by decide)
  refine Owe.dup X262.here hx (hb hby d10_107) rfl rfl ?_
  refine Owe.iconst X262.here hx (hb hby d10_108) (w := (4 : Int32)) rfl ?_
  refine Owe.newarr X262 hx hZ (aty := .char) (hw _ (List.mem_of_getElem? (i := 0) rfl)) e262 (hb hby d10_109) rfl (by decide) (cap := 4) (by decide) (by decide) (by decide) (by decide) fun T267 h267 b267 k267 g267 X267 e267 E267 V267 => ?_
  have ne_a1_b267 : a1 ≠ b267 := Nat.ne_of_lt (Nat.lt_of_lt_of_le V_a1_264.lt (Nat.le_of_eq g267.symm))
  have ne_b262_b267 : b262 ≠ b267 := Nat.ne_of_lt (Nat.lt_of_lt_of_le A262.lt (Nat.le_of_eq g267.symm))
  have sz_b267 := Nat.le_trans K_263.1 (Nat.le_of_eq g267.symm)
  have ge_b267 := Nat.le_trans Z_266 (Nat.le_of_eq g267.symm)
  have K_268 := K_263.ext E267
  have V_a1_269 := V_a1_264.ext E267
  have Ol_270 := Ol_265.ext E267
  have A262_271 := A262.ext E267
  have Fvalue_b262_272 := Fvalue_b262.ext E267
  have Fcoder_b262_273 := Fcoder_b262.ext E267
  have Z_274 := Nat.le_trans Z_266 E267.1
  have V_b267_267 : Arv Z h267 b267 k267 .char (4 : Int32) [(.int (0 : Int32)), (.int (0 : Int32)), (.int (0 : Int32)), (.int (0 : Int32))] (.int (0 : Int32)) := V267.pad (pad_rep [] (.int (0 : Int32)) 4)
  refine Owe.dup X267.here hx (hb hby d10_111) rfl rfl ?_
  refine Owe.iconst X267.here hx (hb hby d10_112) (w := (0 : Int32)) rfl ?_
  refine Owe.aloadN X267.here hx (hb hby d10_113) rfl rfl ?_
  refine Owe.iconst X267.here hx (hb hby d10_114) (w := (0 : Int32)) rfl ?_
  refine Owe.caload X267 hx hZ e267 V_a1_269 (v := (.int v0)) (by decide) rfl (hb hby d10_115) rfl ?_
  refine Owe.castore X267 hx hZ e267 V_b267_267 (x := v0) 0 rfl (Nat.le_of_ble_eq_true rfl) (by decide) (hb hby d10_116) rfl fun T275 h275 X275 e275 W275 (V275 : Arv Z h275 b267 k267 .char (4 : Int32) [(.int (nar .char v0)), (.int (0 : Int32)), (.int (0 : Int32)), (.int (0 : Int32))] (.int (0 : Int32))) => ?_
  have K_276 := K_268.wr W275 (Or.inr sz_b267)
  have V_a1_277 := V_a1_269.other W275 ne_a1_b267
  have Ol_278 := Ol_270.wr W275 ge_b267
  have A262_279 := A262_271.wr W275
  have Fvalue_b262_280 := Fvalue_b262_272.other W275 (Or.inl ne_b262_b267)
  have Fcoder_b262_281 := Fcoder_b262_273.other W275 (Or.inl ne_b262_b267)
  have Z_282 := Nat.le_trans Z_274 (Keep.of_wr W275).1
  have N275 := Fr.snoc X275 N0 ge_b267
  refine Owe.dup X275.here hx (hb hby d10_117) rfl rfl ?_
  refine Owe.iconst X275.here hx (hb hby d10_118) (w := (1 : Int32)) rfl ?_
  refine Owe.aloadN X275.here hx (hb hby d10_119) rfl rfl ?_
  refine Owe.iconst X275.here hx (hb hby d10_120) (w := (1 : Int32)) rfl ?_
  refine Owe.caload X275 hx hZ e275 V_a1_277 (v := (.int v1)) (by decide) rfl (hb hby d10_121) rfl ?_
  refine Owe.castore X275 hx hZ e275 V275 (x := v1) 1 rfl (Nat.le_of_ble_eq_true rfl) (by decide) (hb hby d10_122) rfl fun T283 h283 X283 e283 W283 (V283 : Arv Z h283 b267 k267 .char (4 : Int32) [(.int (nar .char v0)), (.int (nar .char v1)), (.int (0 : Int32)), (.int (0 : Int32))] (.int (0 : Int32))) => ?_
  have K_284 := K_276.wr W283 (Or.inr sz_b267)
  have V_a1_285 := V_a1_277.other W283 ne_a1_b267
  have Ol_286 := Ol_278.wr W283 ge_b267
  have A262_287 := A262_279.wr W283
  have Fvalue_b262_288 := Fvalue_b262_280.other W283 (Or.inl ne_b262_b267)
  have Fcoder_b262_289 := Fcoder_b262_281.other W283 (Or.inl ne_b262_b267)
  have Z_290 := Nat.le_trans Z_282 (Keep.of_wr W283).1
  have N283 := Fr.snoc X283 N275 ge_b267
  refine Owe.dup X283.here hx (hb hby d10_123) rfl rfl ?_
  refine Owe.iconst X283.here hx (hb hby d10_124) (w := (2 : Int32)) rfl ?_
  refine Owe.aloadN X283.here hx (hb hby d10_125) rfl rfl ?_
  refine Owe.iconst X283.here hx (hb hby d10_126) (w := (2 : Int32)) rfl ?_
  refine Owe.caload X283 hx hZ e283 V_a1_285 (v := (.int v2)) (by decide) rfl (hb hby d10_127) rfl ?_
  refine Owe.castore X283 hx hZ e283 V283 (x := v2) 2 rfl (Nat.le_of_ble_eq_true rfl) (by decide) (hb hby d10_128) rfl fun T291 h291 X291 e291 W291 (V291 : Arv Z h291 b267 k267 .char (4 : Int32) [(.int (nar .char v0)), (.int (nar .char v1)), (.int (nar .char v2)), (.int (0 : Int32))] (.int (0 : Int32))) => ?_
  have K_292 := K_284.wr W291 (Or.inr sz_b267)
  have V_a1_293 := V_a1_285.other W291 ne_a1_b267
  have Ol_294 := Ol_286.wr W291 ge_b267
  have A262_295 := A262_287.wr W291
  have Fvalue_b262_296 := Fvalue_b262_288.other W291 (Or.inl ne_b262_b267)
  have Fcoder_b262_297 := Fcoder_b262_289.other W291 (Or.inl ne_b262_b267)
  have Z_298 := Nat.le_trans Z_290 (Keep.of_wr W291).1
  have N291 := Fr.snoc X291 N283 ge_b267
  refine Owe.dup X291.here hx (hb hby d10_129) rfl rfl ?_
  refine Owe.iconst X291.here hx (hb hby d10_130) (w := (3 : Int32)) rfl ?_
  refine Owe.aloadN X291.here hx (hb hby d10_131) rfl rfl ?_
  refine Owe.iconst X291.here hx (hb hby d10_132) (w := (3 : Int32)) rfl ?_
  refine Owe.caload X291 hx hZ e291 V_a1_293 (v := (.int v3)) (by decide) rfl (hb hby d10_133) rfl ?_
  refine Owe.castore X291 hx hZ e291 V291 (x := v3) 3 rfl (Nat.le_of_ble_eq_true rfl) (by decide) (hb hby d10_134) rfl fun T299 h299 X299 e299 W299 (V299 : Arv Z h299 b267 k267 .char (4 : Int32) [(.int (nar .char v0)), (.int (nar .char v1)), (.int (nar .char v2)), (.int (nar .char v3))] (.int (0 : Int32))) => ?_
  have K_300 := K_292.wr W299 (Or.inr sz_b267)
  have V_a1_301 := V_a1_293.other W299 ne_a1_b267
  have Ol_302 := Ol_294.wr W299 ge_b267
  have A262_303 := A262_295.wr W299
  have Fvalue_b262_304 := Fvalue_b262_296.other W299 (Or.inl ne_b262_b267)
  have Fcoder_b262_305 := Fcoder_b262_297.other W299 (Or.inl ne_b262_b267)
  have Z_306 := Nat.le_trans Z_298 (Keep.of_wr W299).1
  have N299 := Fr.snoc X299 N291 ge_b267
  have hp307 : ∀ c ∈ ([(nar .char v0), (nar .char v1), (nar .char v2), (nar .char v3)] : List Int32), ¬ c < 0 ∧ ¬ (255 : Int32) < c := by
    intro c hc
    simp only [List.mem_cons, List.not_mem_nil, or_false] at hc
    rcases hc with rfl | rfl | rfl | rfl
    · exact own_nar2 hp0
    · exact own_nar2 hp1
    · exact own_nar2 hp2
    · exact own_nar2 hp3
  refine Owe.special X299 hx (y := (⟨"java/lang/String", "<init>", "([C)V"⟩ : MethodName)) rfl hown (mvT hZ (hw _ (List.mem_of_getElem? (i := 50) rfl))) (mvT hZ (hw _ (List.mem_of_getElem? (i := 51) rfl))) (mvT hZ (hw _ (List.mem_of_getElem? (i := 52) rfl))) (by decide) (StrChars.Road.backV (W := 1) hZ hws (kI := 4) (hw _ (List.mem_of_getElem? (i := 4) rfl)) (cs := ([(nar .char v0), (nar .char v1), (nar .char v2), (nar .char v3)] : List Int32)) (bs := ([(nar .char v0), (nar .char v1), (nar .char v2), (nar .char v3)] : List Int32).map (fun c => c.toInt8.toInt32)) (n := 4) ge_b262 Z_306 A262_303 Fvalue_b262_304 Fcoder_b262_305 V299 (S_COMPACT_STRINGS.ext Ol_302.2) cs0 rfl rfl (by decide) (by decide) hp307 rfl (by decide) (by decide)) (by rw [hml]; rfl) (a := b262) (argsL := [(.ref b267)]) (rest := [(.ref b262)]) (lenOf pd_7 rfl) rfl (Nat.le_of_ble_eq_true rfl) (hb hby d10_135) rfl e299 (by decide) (by decide) fun T308 v308 L308 X308 hQ308 => ?_
  obtain ⟨rfl, Nq308, K308, Ex308, Fc308, t308, kb308, gt308, ft308, nt308, Fv308, Vt308⟩ := hQ308
  have N308 := Fr.app N299 Nq308
  have ne_a1_t308 : a1 ≠ t308 := Nat.ne_of_lt (Nat.lt_of_lt_of_le V_a1_301.lt ft308)
  have ne_b262_t308 : b262 ≠ t308 := Nat.ne_of_lt (Nat.lt_of_lt_of_le A262_303.lt ft308)
  have ne_b267_t308 : b267 ≠ t308 := Nat.ne_of_lt (Nat.lt_of_lt_of_le V299.lt ft308)
  have K_309 := K_300.trans K308 (allS (Or.inr sz_b262) all0)
  have V_a1_310 := V_a1_301.keep K308 (ninS ne_a1_b262 nin0)
  have Ol_311 := Ol_302.keep K308 (allS ge_b262 all0)
  have A262_312 := A262_303.keep K308
  have V299_313 := V299.keep K308 (ninS (Ne.symm ne_b262_b267) nin0)
  have Z_314 := Nat.le_trans Z_306 K308.1
  have sz_t308 := Nat.le_trans K_300.1 ft308
  have Tx308 : (∀ c ∈ ([(nar .char v0), (nar .char v1), (nar .char v2), (nar .char v3)] : List Int32), ¬ c < 0 ∧ ¬ (255 : Int32) < c) ∧ ([(nar .char v0), (nar .char v1), (nar .char v2), (nar .char v3)] : List Int32).length ≤ 4000 := ⟨hp307, Nat.le_of_ble_eq_true rfl⟩
  refine Owe.retR X308 hx hlk (t := (.object "java/lang/String")) Bd.returns rfl rfl rfl (hb hby d10_138) rfl fun fs hE => ?_
  rw [hG]
  refine ⟨_, _, rfl, ?_, frameMono hE (by decide) (by decide)⟩
  show Qmk4 Z a1 k1 v0 v1 v2 v3 v4 v5 G1 h0 n0 _ T308.heap _
  exact ⟨b262, t308, kb308, rfl, N308, K_309, ge_b262, sz_b262, Ex308, Fv308, Fc308, Vt308, Tx308⟩
theorem pn_mk5 : plainName "com/example/wade/wade/monitor/AccessGoverningPinLaw" = true := by first | (simp [plainName, overriddenIn]; done) | decide +kernel
theorem ef_mk5 (m : MethodId) (x0 : Addr) (x1 : Int32)  : entryFrame m #[(.ref x0), (.int x1)] 2 = mkF m 0 #[.val (.ref x0), .val (.int x1)] [] := by first | (simp [entryFrame, mkF, argsToLocals, Value.category]; done) | rfl
def Qmk5 (Z : State) (a1 : Addr) (k1 : ClassId) (v0 : Int32) (v1 : Int32) (v2 : Int32) (v3 : Int32) (v4 : Int32) (v5 : Int32) (G1 : Int32) (h0 : Heap) (n0 : Nat) (v : Option Value) (h : Heap) (L : List Loc) : Prop := ∃ (x1 : Addr), ∃ (t1 : Addr), ∃ (kb1 : ClassId), v = some (.ref x1) ∧ Fr n0 L ∧ Keep h0 h [] ∧ n0 ≤ x1 ∧ h0.size ≤ x1 ∧ Exa Z h x1 "java/lang/String" ∧ Fld Z h x1 "java/lang/String" "value" "[B" (.ref t1) ∧ Fld Z h x1 "java/lang/String" "coder" "B" (.int (0 : Int32)) ∧ Arv Z h t1 kb1 .byte (5 : Int32) ((([(nar .char v0), (nar .char v1), (nar .char v2), (nar .char v3), (nar .char v4)] : List Int32).map (fun c => c.toInt8.toInt32)).map Value.int) (.int (0 : Int32)) ∧ (∀ c ∈ ([(nar .char v0), (nar .char v1), (nar .char v2), (nar .char v3), (nar .char v4)] : List Int32), ¬ c < 0 ∧ ¬ (255 : Int32) < c) ∧ ([(nar .char v0), (nar .char v1), (nar .char v2), (nar .char v3), (nar .char v4)] : List Int32).length ≤ 4000
set_option maxRecDepth 65536 in
set_option maxHeartbeats 40000000 in
theorem rmmk5 (l : Launch) (Z : State) (a0 : Array Value) (hw : ∀ d ∈ tables_1, d.before a0 Z = true) (ws : List Jvm.Cond) (a1 : Addr) (k1 : ClassId) (v0 : Int32) (v1 : Int32) (v2 : Int32) (v3 : Int32) (v4 : Int32) (v5 : Int32) (G1 : Int32) (h0 : Heap) (n0 : Nat) (Z0 : n0 ≤ h0.size) (V_a1 : Arv Z h0 a1 k1 .char (6 : Int32) [(.int v0), (.int v1), (.int v2), (.int v3), (.int v4), (.int v5)] (.int (0 : Int32))) (hp0 : ¬ v0 < 0 ∧ ¬ (255 : Int32) < v0) (hp1 : ¬ v1 < 0 ∧ ¬ (255 : Int32) < v1) (hp2 : ¬ v2 < 0 ∧ ¬ (255 : Int32) < v2) (hp3 : ¬ v3 < 0 ∧ ¬ (255 : Int32) < v3) (hp4 : ¬ v4 < 0 ∧ ¬ (255 : Int32) < v4) (hp5 : ¬ v5 < 0 ∧ ¬ (255 : Int32) < v5) (S_COMPACT_STRINGS : Sta Z Z.heap "java/lang/String" "COMPACT_STRINGS" "Z" (.int G1)) (cs0 : ¬ (G1 = (0 : Int32))) (Ol : Old Z n0 h0) :
    MetFree l (⟨"com/example/wade/wade/monitor/AccessGoverningPinLaw", "make", "([CI)Ljava/lang/String;"⟩ : MethodName) (head1 (Jvm.Cond.code (⟨"com/example/wade/wade/monitor/AccessGoverningPinLaw", "make", "([CI)Ljava/lang/String;"⟩ : MethodName) method_2_code 2 (some (.object "java/lang/String")) :: ws) ({ frames := 5, cells := 5, slots := 20, locals := 80 } : Room)) (fun a U => a = #[(.ref a1), (.int (5 : Int32))] ∧ Z.Warmed39 U.vm ∧ U.heap = h0) (fun _ _ _ _ _ => True) (fun _ U o U' => ∃ v L, o = .returned v ∧ Qmk5 Z a1 k1 v0 v1 v2 v3 v4 v5 G1 h0 n0 v U'.heap L ∧ FrameEnd U o U' L ({ frames := 5, cells := 5, slots := 20, locals := 80 } : Room).cells ({ frames := 5, cells := 5, slots := 20, locals := 80 } : Room).slots) := by
  refine MetFree.of_bodySF (plainFor_of_name pn_mk5) hisR ?_
  intro p e s m args below meth c s₁ Bd hml0 hP hK
  obtain ⟨rfl, hZ, hh⟩ := hP
  have hx := Bd.exec
  have hby := Bd.bytes
  have hml : c.maxLocals = 2 := hml0
  have hown : s.vm.findClass "com/example/wade/wade/monitor/AccessGoverningPinLaw" = some m.cls := findClass_of_methodNamed Bd.named
  have hnm := (name_of_methodNamed Bd.named Bd.method).1
  have hlk : meth.locks = false := BodyLoose.notSynchronized Bd
  have X0 : Stand p l e ({ frames := 5, cells := 5, slots := 20, locals := 80 } : Room) s m #[(.ref a1), (.int (5 : Int32))] below meth c s₁ [] 0 0 := Stand.of_body Bd
  have e0 : s₁.heap = h0 := by rw [← hh, Bd.state]; rfl
  have N0 := Fr.nil n0
  have K0 := Keep.refl h0 []
  obtain ⟨G, hG⟩ : ∃ G : Outcome → State → Prop, G = fun o u => ∃ v L, o = .returned v ∧ Qmk5 Z a1 k1 v0 v1 v2 v3 v4 v5 G1 h0 n0 v u.heap L ∧ FrameEnd s o u L ({ frames := 5, cells := 5, slots := 20, locals := 80 } : Room).cells ({ frames := 5, cells := 5, slots := 20, locals := 80 } : Room).slots := ⟨_, rfl⟩
  suffices hgo : Owe p.tables e below G s₁ (mkF m 0 #[.val (.ref a1), .val (.int (5 : Int32))] []) by
    obtain ⟨u, o, h1, h2, h3, h4⟩ := hgo
    exact ⟨u, o, castTop (ef_mk5 m a1 (5 : Int32)) h1, h2, h3, by rw [hG] at h4; exact h4⟩
  have hws : ∀ d ∈ StrChars.Road.words, d.before a0 Z = true := fun d hd => hw d (own_words d hd)
  refine Owe.iloadN X0.here hx (hb hby d10_0) rfl ?_
  refine Owe.ifYes X0.here hx (hb hby d10_1) rfl ((if0 _ _).trans (tlt (by decide)).2.2.1) (pc' := 15) (by decide) (by decide) ?_
  refine Owe.iloadN X0.here hx (hb hby d10_15) rfl ?_
  refine Owe.iconst X0.here hx (hb hby d10_16) (w := (1 : Int32)) rfl ?_
  refine Owe.icmpYes X0.here hx (hb hby d10_17) rfl (feq (by decide)).2 (pc' := 37) (by decide) (by decide) ?_
  refine Owe.iloadN X0.here hx (hb hby d10_37) rfl ?_
  refine Owe.iconst X0.here hx (hb hby d10_38) (w := (2 : Int32)) rfl ?_
  refine Owe.icmpYes X0.here hx (hb hby d10_39) rfl (feq (by decide)).2 (pc' := 65) (by decide) (by decide) ?_
  refine Owe.iloadN X0.here hx (hb hby d10_65) rfl ?_
  refine Owe.iconst X0.here hx (hb hby d10_66) (w := (3 : Int32)) rfl ?_
  refine Owe.icmpYes X0.here hx (hb hby d10_67) rfl (feq (by decide)).2 (pc' := 99) (by decide) (by decide) ?_
  refine Owe.iloadN X0.here hx (hb hby d10_99) rfl ?_
  refine Owe.iconst X0.here hx (hb hby d10_100) (w := (4 : Int32)) rfl ?_
  refine Owe.icmpYes X0.here hx (hb hby d10_101) rfl (feq (by decide)).2 (pc' := 139) (by decide) (by decide) ?_
  refine Owe.iloadN X0.here hx (hb hby d10_139) rfl ?_
  refine Owe.iconst X0.here hx (hb hby d10_140) (w := (5 : Int32)) rfl ?_
  refine Owe.icmpNo X0.here hx (hb hby d10_141) rfl (teq (by decide)).2 ?_
  refine Owe.new X0 hx hZ hown (hw _ (List.mem_of_getElem? (i := 49) rfl)) (hw _ (List.mem_of_getElem? (i := 4) rfl)) (hw _ (List.mem_of_getElem? (i := 3) rfl)) e0 (hb hby d10_144) (by decide) (by decide) fun T315 h315 b315 g315 X315 e315 E315 A315 D315 => ?_
  have ne_a1_b315 : a1 ≠ b315 := Nat.ne_of_lt (Nat.lt_of_lt_of_le V_a1.lt (Nat.le_of_eq g315.symm))
  have sz_b315 := Nat.le_trans K0.1 (Nat.le_of_eq g315.symm)
  have ge_b315 := Nat.le_trans Z0 (Nat.le_of_eq g315.symm)
  have K_316 := K0.ext E315
  have V_a1_317 := V_a1.ext E315
  have Ol_318 := Ol.ext E315
  have Z_319 := Nat.le_trans Z0 E315.1
  have Fvalue_b315 : Fld Z h315 b315 "java/lang/String" "value" "[B" .null := D315 (Or.inr (hw _ (List.mem_of_getElem? (i := 6) rfl))) (ty := (.array .byte)) (by decide)
  have Fcoder_b315 : Fld Z h315 b315 "java/lang/String" "coder" "B" (.int (0 : Int32)) := D315 (Or.inr (hw _ (List.mem_of_getElem? (i := 7) rfl))) (ty := .byte) (by decide)
  refine Owe.dup X315.here hx (hb hby d10_147) rfl rfl ?_
  refine Owe.iconst X315.here hx (hb hby d10_148) (w := (5 : Int32)) rfl ?_
  refine Owe.newarr X315 hx hZ (aty := .char) (hw _ (List.mem_of_getElem? (i := 0) rfl)) e315 (hb hby d10_149) rfl (by decide) (cap := 5) (by decide) (by decide) (by decide) (by decide) fun T320 h320 b320 k320 g320 X320 e320 E320 V320 => ?_
  have ne_a1_b320 : a1 ≠ b320 := Nat.ne_of_lt (Nat.lt_of_lt_of_le V_a1_317.lt (Nat.le_of_eq g320.symm))
  have ne_b315_b320 : b315 ≠ b320 := Nat.ne_of_lt (Nat.lt_of_lt_of_le A315.lt (Nat.le_of_eq g320.symm))
  have sz_b320 := Nat.le_trans K_316.1 (Nat.le_of_eq g320.symm)
  have ge_b320 := Nat.le_trans Z_319 (Nat.le_of_eq g320.symm)
  have K_321 := K_316.ext E320
  have V_a1_322 := V_a1_317.ext E320
  have Ol_323 := Ol_318.ext E320
  have A315_324 := A315.ext E320
  have Fvalue_b315_325 := Fvalue_b315.ext E320
  have Fcoder_b315_326 := Fcoder_b315.ext E320
  have Z_327 := Nat.le_trans Z_319 E320.1
  have V_b320_320 : Arv Z h320 b320 k320 .char (5 : Int32) [(.int (0 : Int32)), (.int (0 : Int32)), (.int (0 : Int32)), (.int (0 : Int32)), (.int (0 : Int32))] (.int (0 : Int32)) := V320.pad (pad_rep [] (.int (0 : Int32)) 5)
  refine Owe.dup X320.here hx (hb hby d10_151) rfl rfl ?_
  refine Owe.iconst X320.here hx (hb hby d10_152) (w := (0 : Int32)) rfl ?_
  refine Owe.aloadN X320.here hx (hb hby d10_153) rfl rfl ?_
  refine Owe.iconst X320.here hx (hb hby d10_154) (w := (0 : Int32)) rfl ?_
  refine Owe.caload X320 hx hZ e320 V_a1_322 (v := (.int v0)) (by decide) rfl (hb hby d10_155) rfl ?_
  refine Owe.castore X320 hx hZ e320 V_b320_320 (x := v0) 0 rfl (Nat.le_of_ble_eq_true rfl) (by decide) (hb hby d10_156) rfl fun T328 h328 X328 e328 W328 (V328 : Arv Z h328 b320 k320 .char (5 : Int32) [(.int (nar .char v0)), (.int (0 : Int32)), (.int (0 : Int32)), (.int (0 : Int32)), (.int (0 : Int32))] (.int (0 : Int32))) => ?_
  have K_329 := K_321.wr W328 (Or.inr sz_b320)
  have V_a1_330 := V_a1_322.other W328 ne_a1_b320
  have Ol_331 := Ol_323.wr W328 ge_b320
  have A315_332 := A315_324.wr W328
  have Fvalue_b315_333 := Fvalue_b315_325.other W328 (Or.inl ne_b315_b320)
  have Fcoder_b315_334 := Fcoder_b315_326.other W328 (Or.inl ne_b315_b320)
  have Z_335 := Nat.le_trans Z_327 (Keep.of_wr W328).1
  have N328 := Fr.snoc X328 N0 ge_b320
  refine Owe.dup X328.here hx (hb hby d10_157) rfl rfl ?_
  refine Owe.iconst X328.here hx (hb hby d10_158) (w := (1 : Int32)) rfl ?_
  refine Owe.aloadN X328.here hx (hb hby d10_159) rfl rfl ?_
  refine Owe.iconst X328.here hx (hb hby d10_160) (w := (1 : Int32)) rfl ?_
  refine Owe.caload X328 hx hZ e328 V_a1_330 (v := (.int v1)) (by decide) rfl (hb hby d10_161) rfl ?_
  refine Owe.castore X328 hx hZ e328 V328 (x := v1) 1 rfl (Nat.le_of_ble_eq_true rfl) (by decide) (hb hby d10_162) rfl fun T336 h336 X336 e336 W336 (V336 : Arv Z h336 b320 k320 .char (5 : Int32) [(.int (nar .char v0)), (.int (nar .char v1)), (.int (0 : Int32)), (.int (0 : Int32)), (.int (0 : Int32))] (.int (0 : Int32))) => ?_
  have K_337 := K_329.wr W336 (Or.inr sz_b320)
  have V_a1_338 := V_a1_330.other W336 ne_a1_b320
  have Ol_339 := Ol_331.wr W336 ge_b320
  have A315_340 := A315_332.wr W336
  have Fvalue_b315_341 := Fvalue_b315_333.other W336 (Or.inl ne_b315_b320)
  have Fcoder_b315_342 := Fcoder_b315_334.other W336 (Or.inl ne_b315_b320)
  have Z_343 := Nat.le_trans Z_335 (Keep.of_wr W336).1
  have N336 := Fr.snoc X336 N328 ge_b320
  refine Owe.dup X336.here hx (hb hby d10_163) rfl rfl ?_
  refine Owe.iconst X336.here hx (hb hby d10_164) (w := (2 : Int32)) rfl ?_
  refine Owe.aloadN X336.here hx (hb hby d10_165) rfl rfl ?_
  refine Owe.iconst X336.here hx (hb hby d10_166) (w := (2 : Int32)) rfl ?_
  refine Owe.caload X336 hx hZ e336 V_a1_338 (v := (.int v2)) (by decide) rfl (hb hby d10_167) rfl ?_
  refine Owe.castore X336 hx hZ e336 V336 (x := v2) 2 rfl (Nat.le_of_ble_eq_true rfl) (by decide) (hb hby d10_168) rfl fun T344 h344 X344 e344 W344 (V344 : Arv Z h344 b320 k320 .char (5 : Int32) [(.int (nar .char v0)), (.int (nar .char v1)), (.int (nar .char v2)), (.int (0 : Int32)), (.int (0 : Int32))] (.int (0 : Int32))) => ?_
  have K_345 := K_337.wr W344 (Or.inr sz_b320)
  have V_a1_346 := V_a1_338.other W344 ne_a1_b320
  have Ol_347 := Ol_339.wr W344 ge_b320
  have A315_348 := A315_340.wr W344
  have Fvalue_b315_349 := Fvalue_b315_341.other W344 (Or.inl ne_b315_b320)
  have Fcoder_b315_350 := Fcoder_b315_342.other W344 (Or.inl ne_b315_b320)
  have Z_351 := Nat.le_trans Z_343 (Keep.of_wr W344).1
  have N344 := Fr.snoc X344 N336 ge_b320
  refine Owe.dup X344.here hx (hb hby d10_169) rfl rfl ?_
  refine Owe.iconst X344.here hx (hb hby d10_170) (w := (3 : Int32)) rfl ?_
  refine Owe.aloadN X344.here hx (hb hby d10_171) rfl rfl ?_
  refine Owe.iconst X344.here hx (hb hby d10_172) (w := (3 : Int32)) rfl ?_
  refine Owe.caload X344 hx hZ e344 V_a1_346 (v := (.int v3)) (by decide) rfl (hb hby d10_173) rfl ?_
  refine Owe.castore X344 hx hZ e344 V344 (x := v3) 3 rfl (Nat.le_of_ble_eq_true rfl) (by decide) (hb hby d10_174) rfl fun T352 h352 X352 e352 W352 (V352 : Arv Z h352 b320 k320 .char (5 : Int32) [(.int (nar .char v0)), (.int (nar .char v1)), (.int (nar .char v2)), (.int (nar .char v3)), (.int (0 : Int32))] (.int (0 : Int32))) => ?_
  have K_353 := K_345.wr W352 (Or.inr sz_b320)
  have V_a1_354 := V_a1_346.other W352 ne_a1_b320
  have Ol_355 := Ol_347.wr W352 ge_b320
  have A315_356 := A315_348.wr W352
  have Fvalue_b315_357 := Fvalue_b315_349.other W352 (Or.inl ne_b315_b320)
  have Fcoder_b315_358 := Fcoder_b315_350.other W352 (Or.inl ne_b315_b320)
  have Z_359 := Nat.le_trans Z_351 (Keep.of_wr W352).1
  have N352 := Fr.snoc X352 N344 ge_b320
  refine Owe.dup X352.here hx (hb hby d10_175) rfl rfl ?_
  refine Owe.iconst X352.here hx (hb hby d10_176) (w := (4 : Int32)) rfl ?_
  refine Owe.aloadN X352.here hx (hb hby d10_177) rfl rfl ?_
  refine Owe.iconst X352.here hx (hb hby d10_178) (w := (4 : Int32)) rfl ?_
  refine Owe.caload X352 hx hZ e352 V_a1_354 (v := (.int v4)) (by decide) rfl (hb hby d10_179) rfl ?_
  refine Owe.castore X352 hx hZ e352 V352 (x := v4) 4 rfl (Nat.le_of_ble_eq_true rfl) (by decide) (hb hby d10_180) rfl fun T360 h360 X360 e360 W360 (V360 : Arv Z h360 b320 k320 .char (5 : Int32) [(.int (nar .char v0)), (.int (nar .char v1)), (.int (nar .char v2)), (.int (nar .char v3)), (.int (nar .char v4))] (.int (0 : Int32))) => ?_
  have K_361 := K_353.wr W360 (Or.inr sz_b320)
  have V_a1_362 := V_a1_354.other W360 ne_a1_b320
  have Ol_363 := Ol_355.wr W360 ge_b320
  have A315_364 := A315_356.wr W360
  have Fvalue_b315_365 := Fvalue_b315_357.other W360 (Or.inl ne_b315_b320)
  have Fcoder_b315_366 := Fcoder_b315_358.other W360 (Or.inl ne_b315_b320)
  have Z_367 := Nat.le_trans Z_359 (Keep.of_wr W360).1
  have N360 := Fr.snoc X360 N352 ge_b320
  have hp368 : ∀ c ∈ ([(nar .char v0), (nar .char v1), (nar .char v2), (nar .char v3), (nar .char v4)] : List Int32), ¬ c < 0 ∧ ¬ (255 : Int32) < c := by
    intro c hc
    simp only [List.mem_cons, List.not_mem_nil, or_false] at hc
    rcases hc with rfl | rfl | rfl | rfl | rfl
    · exact own_nar2 hp0
    · exact own_nar2 hp1
    · exact own_nar2 hp2
    · exact own_nar2 hp3
    · exact own_nar2 hp4
  refine Owe.special X360 hx (y := (⟨"java/lang/String", "<init>", "([C)V"⟩ : MethodName)) rfl hown (mvT hZ (hw _ (List.mem_of_getElem? (i := 50) rfl))) (mvT hZ (hw _ (List.mem_of_getElem? (i := 51) rfl))) (mvT hZ (hw _ (List.mem_of_getElem? (i := 52) rfl))) (by decide) (StrChars.Road.backV (W := 1) hZ hws (kI := 4) (hw _ (List.mem_of_getElem? (i := 4) rfl)) (cs := ([(nar .char v0), (nar .char v1), (nar .char v2), (nar .char v3), (nar .char v4)] : List Int32)) (bs := ([(nar .char v0), (nar .char v1), (nar .char v2), (nar .char v3), (nar .char v4)] : List Int32).map (fun c => c.toInt8.toInt32)) (n := 5) ge_b315 Z_367 A315_364 Fvalue_b315_365 Fcoder_b315_366 V360 (S_COMPACT_STRINGS.ext Ol_363.2) cs0 rfl rfl (by decide) (by decide) hp368 rfl (by decide) (by decide)) (by rw [hml]; rfl) (a := b315) (argsL := [(.ref b320)]) (rest := [(.ref b315)]) (lenOf pd_7 rfl) rfl (Nat.le_of_ble_eq_true rfl) (hb hby d10_181) rfl e360 (by decide) (by decide) fun T369 v369 L369 X369 hQ369 => ?_
  obtain ⟨rfl, Nq369, K369, Ex369, Fc369, t369, kb369, gt369, ft369, nt369, Fv369, Vt369⟩ := hQ369
  have N369 := Fr.app N360 Nq369
  have ne_a1_t369 : a1 ≠ t369 := Nat.ne_of_lt (Nat.lt_of_lt_of_le V_a1_362.lt ft369)
  have ne_b315_t369 : b315 ≠ t369 := Nat.ne_of_lt (Nat.lt_of_lt_of_le A315_364.lt ft369)
  have ne_b320_t369 : b320 ≠ t369 := Nat.ne_of_lt (Nat.lt_of_lt_of_le V360.lt ft369)
  have K_370 := K_361.trans K369 (allS (Or.inr sz_b315) all0)
  have V_a1_371 := V_a1_362.keep K369 (ninS ne_a1_b315 nin0)
  have Ol_372 := Ol_363.keep K369 (allS ge_b315 all0)
  have A315_373 := A315_364.keep K369
  have V360_374 := V360.keep K369 (ninS (Ne.symm ne_b315_b320) nin0)
  have Z_375 := Nat.le_trans Z_367 K369.1
  have sz_t369 := Nat.le_trans K_361.1 ft369
  have Tx369 : (∀ c ∈ ([(nar .char v0), (nar .char v1), (nar .char v2), (nar .char v3), (nar .char v4)] : List Int32), ¬ c < 0 ∧ ¬ (255 : Int32) < c) ∧ ([(nar .char v0), (nar .char v1), (nar .char v2), (nar .char v3), (nar .char v4)] : List Int32).length ≤ 4000 := ⟨hp368, Nat.le_of_ble_eq_true rfl⟩
  refine Owe.retR X369 hx hlk (t := (.object "java/lang/String")) Bd.returns rfl rfl rfl (hb hby d10_184) rfl fun fs hE => ?_
  rw [hG]
  refine ⟨_, _, rfl, ?_, frameMono hE (by decide) (by decide)⟩
  show Qmk5 Z a1 k1 v0 v1 v2 v3 v4 v5 G1 h0 n0 _ T369.heap _
  exact ⟨b315, t369, kb369, rfl, N369, K_370, ge_b315, sz_b315, Ex369, Fv369, Fc369, Vt369, Tx369⟩
theorem pn_mk6 : plainName "com/example/wade/wade/monitor/AccessGoverningPinLaw" = true := by first | (simp [plainName, overriddenIn]; done) | decide +kernel
theorem ef_mk6 (m : MethodId) (x0 : Addr) (x1 : Int32)  : entryFrame m #[(.ref x0), (.int x1)] 2 = mkF m 0 #[.val (.ref x0), .val (.int x1)] [] := by first | (simp [entryFrame, mkF, argsToLocals, Value.category]; done) | rfl
def Qmk6 (Z : State) (a1 : Addr) (k1 : ClassId) (v0 : Int32) (v1 : Int32) (v2 : Int32) (v3 : Int32) (v4 : Int32) (v5 : Int32) (G1 : Int32) (h0 : Heap) (n0 : Nat) (v : Option Value) (h : Heap) (L : List Loc) : Prop := ∃ (x1 : Addr), ∃ (t1 : Addr), ∃ (kb1 : ClassId), v = some (.ref x1) ∧ Fr n0 L ∧ Keep h0 h [] ∧ n0 ≤ x1 ∧ h0.size ≤ x1 ∧ Exa Z h x1 "java/lang/String" ∧ Fld Z h x1 "java/lang/String" "value" "[B" (.ref t1) ∧ Fld Z h x1 "java/lang/String" "coder" "B" (.int (0 : Int32)) ∧ Arv Z h t1 kb1 .byte (6 : Int32) ((([(nar .char v0), (nar .char v1), (nar .char v2), (nar .char v3), (nar .char v4), (nar .char v5)] : List Int32).map (fun c => c.toInt8.toInt32)).map Value.int) (.int (0 : Int32)) ∧ (∀ c ∈ ([(nar .char v0), (nar .char v1), (nar .char v2), (nar .char v3), (nar .char v4), (nar .char v5)] : List Int32), ¬ c < 0 ∧ ¬ (255 : Int32) < c) ∧ ([(nar .char v0), (nar .char v1), (nar .char v2), (nar .char v3), (nar .char v4), (nar .char v5)] : List Int32).length ≤ 4000
set_option maxRecDepth 65536 in
set_option maxHeartbeats 40000000 in
theorem rmmk6 (l : Launch) (Z : State) (a0 : Array Value) (hw : ∀ d ∈ tables_1, d.before a0 Z = true) (ws : List Jvm.Cond) (a1 : Addr) (k1 : ClassId) (v0 : Int32) (v1 : Int32) (v2 : Int32) (v3 : Int32) (v4 : Int32) (v5 : Int32) (G1 : Int32) (h0 : Heap) (n0 : Nat) (Z0 : n0 ≤ h0.size) (V_a1 : Arv Z h0 a1 k1 .char (6 : Int32) [(.int v0), (.int v1), (.int v2), (.int v3), (.int v4), (.int v5)] (.int (0 : Int32))) (hp0 : ¬ v0 < 0 ∧ ¬ (255 : Int32) < v0) (hp1 : ¬ v1 < 0 ∧ ¬ (255 : Int32) < v1) (hp2 : ¬ v2 < 0 ∧ ¬ (255 : Int32) < v2) (hp3 : ¬ v3 < 0 ∧ ¬ (255 : Int32) < v3) (hp4 : ¬ v4 < 0 ∧ ¬ (255 : Int32) < v4) (hp5 : ¬ v5 < 0 ∧ ¬ (255 : Int32) < v5) (S_COMPACT_STRINGS : Sta Z Z.heap "java/lang/String" "COMPACT_STRINGS" "Z" (.int G1)) (cs0 : ¬ (G1 = (0 : Int32))) (Ol : Old Z n0 h0) :
    MetFree l (⟨"com/example/wade/wade/monitor/AccessGoverningPinLaw", "make", "([CI)Ljava/lang/String;"⟩ : MethodName) (head1 (Jvm.Cond.code (⟨"com/example/wade/wade/monitor/AccessGoverningPinLaw", "make", "([CI)Ljava/lang/String;"⟩ : MethodName) method_2_code 2 (some (.object "java/lang/String")) :: ws) ({ frames := 5, cells := 5, slots := 20, locals := 80 } : Room)) (fun a U => a = #[(.ref a1), (.int (6 : Int32))] ∧ Z.Warmed39 U.vm ∧ U.heap = h0) (fun _ _ _ _ _ => True) (fun _ U o U' => ∃ v L, o = .returned v ∧ Qmk6 Z a1 k1 v0 v1 v2 v3 v4 v5 G1 h0 n0 v U'.heap L ∧ FrameEnd U o U' L ({ frames := 5, cells := 5, slots := 20, locals := 80 } : Room).cells ({ frames := 5, cells := 5, slots := 20, locals := 80 } : Room).slots) := by
  refine MetFree.of_bodySF (plainFor_of_name pn_mk6) hisR ?_
  intro p e s m args below meth c s₁ Bd hml0 hP hK
  obtain ⟨rfl, hZ, hh⟩ := hP
  have hx := Bd.exec
  have hby := Bd.bytes
  have hml : c.maxLocals = 2 := hml0
  have hown : s.vm.findClass "com/example/wade/wade/monitor/AccessGoverningPinLaw" = some m.cls := findClass_of_methodNamed Bd.named
  have hnm := (name_of_methodNamed Bd.named Bd.method).1
  have hlk : meth.locks = false := BodyLoose.notSynchronized Bd
  have X0 : Stand p l e ({ frames := 5, cells := 5, slots := 20, locals := 80 } : Room) s m #[(.ref a1), (.int (6 : Int32))] below meth c s₁ [] 0 0 := Stand.of_body Bd
  have e0 : s₁.heap = h0 := by rw [← hh, Bd.state]; rfl
  have N0 := Fr.nil n0
  have K0 := Keep.refl h0 []
  obtain ⟨G, hG⟩ : ∃ G : Outcome → State → Prop, G = fun o u => ∃ v L, o = .returned v ∧ Qmk6 Z a1 k1 v0 v1 v2 v3 v4 v5 G1 h0 n0 v u.heap L ∧ FrameEnd s o u L ({ frames := 5, cells := 5, slots := 20, locals := 80 } : Room).cells ({ frames := 5, cells := 5, slots := 20, locals := 80 } : Room).slots := ⟨_, rfl⟩
  suffices hgo : Owe p.tables e below G s₁ (mkF m 0 #[.val (.ref a1), .val (.int (6 : Int32))] []) by
    obtain ⟨u, o, h1, h2, h3, h4⟩ := hgo
    exact ⟨u, o, castTop (ef_mk6 m a1 (6 : Int32)) h1, h2, h3, by rw [hG] at h4; exact h4⟩
  have hws : ∀ d ∈ StrChars.Road.words, d.before a0 Z = true := fun d hd => hw d (own_words d hd)
  refine Owe.iloadN X0.here hx (hb hby d10_0) rfl ?_
  refine Owe.ifYes X0.here hx (hb hby d10_1) rfl ((if0 _ _).trans (tlt (by decide)).2.2.1) (pc' := 15) (by decide) (by decide) ?_
  refine Owe.iloadN X0.here hx (hb hby d10_15) rfl ?_
  refine Owe.iconst X0.here hx (hb hby d10_16) (w := (1 : Int32)) rfl ?_
  refine Owe.icmpYes X0.here hx (hb hby d10_17) rfl (feq (by decide)).2 (pc' := 37) (by decide) (by decide) ?_
  refine Owe.iloadN X0.here hx (hb hby d10_37) rfl ?_
  refine Owe.iconst X0.here hx (hb hby d10_38) (w := (2 : Int32)) rfl ?_
  refine Owe.icmpYes X0.here hx (hb hby d10_39) rfl (feq (by decide)).2 (pc' := 65) (by decide) (by decide) ?_
  refine Owe.iloadN X0.here hx (hb hby d10_65) rfl ?_
  refine Owe.iconst X0.here hx (hb hby d10_66) (w := (3 : Int32)) rfl ?_
  refine Owe.icmpYes X0.here hx (hb hby d10_67) rfl (feq (by decide)).2 (pc' := 99) (by decide) (by decide) ?_
  refine Owe.iloadN X0.here hx (hb hby d10_99) rfl ?_
  refine Owe.iconst X0.here hx (hb hby d10_100) (w := (4 : Int32)) rfl ?_
  refine Owe.icmpYes X0.here hx (hb hby d10_101) rfl (feq (by decide)).2 (pc' := 139) (by decide) (by decide) ?_
  refine Owe.iloadN X0.here hx (hb hby d10_139) rfl ?_
  refine Owe.iconst X0.here hx (hb hby d10_140) (w := (5 : Int32)) rfl ?_
  refine Owe.icmpYes X0.here hx (hb hby d10_141) rfl (feq (by decide)).2 (pc' := 185) (by decide) (by decide) ?_
  refine Owe.new X0 hx hZ hown (hw _ (List.mem_of_getElem? (i := 49) rfl)) (hw _ (List.mem_of_getElem? (i := 4) rfl)) (hw _ (List.mem_of_getElem? (i := 3) rfl)) e0 (hb hby d10_185) (by decide) (by decide) fun T376 h376 b376 g376 X376 e376 E376 A376 D376 => ?_
  have ne_a1_b376 : a1 ≠ b376 := Nat.ne_of_lt (Nat.lt_of_lt_of_le V_a1.lt (Nat.le_of_eq g376.symm))
  have sz_b376 := Nat.le_trans K0.1 (Nat.le_of_eq g376.symm)
  have ge_b376 := Nat.le_trans Z0 (Nat.le_of_eq g376.symm)
  have K_377 := K0.ext E376
  have V_a1_378 := V_a1.ext E376
  have Ol_379 := Ol.ext E376
  have Z_380 := Nat.le_trans Z0 E376.1
  have Fvalue_b376 : Fld Z h376 b376 "java/lang/String" "value" "[B" .null := D376 (Or.inr (hw _ (List.mem_of_getElem? (i := 6) rfl))) (ty := (.array .byte)) (by decide)
  have Fcoder_b376 : Fld Z h376 b376 "java/lang/String" "coder" "B" (.int (0 : Int32)) := D376 (Or.inr (hw _ (List.mem_of_getElem? (i := 7) rfl))) (ty := .byte) (by decide)
  refine Owe.dup X376.here hx (hb hby d10_188) rfl rfl ?_
  refine Owe.bipush X376.here hx (hb hby d10_189) (w := (6 : Int32)) rfl ?_
  refine Owe.newarr X376 hx hZ (aty := .char) (hw _ (List.mem_of_getElem? (i := 0) rfl)) e376 (hb hby d10_191) rfl (by decide) (cap := 6) (by decide) (by decide) (by decide) (by decide) fun T381 h381 b381 k381 g381 X381 e381 E381 V381 => ?_
  have ne_a1_b381 : a1 ≠ b381 := Nat.ne_of_lt (Nat.lt_of_lt_of_le V_a1_378.lt (Nat.le_of_eq g381.symm))
  have ne_b376_b381 : b376 ≠ b381 := Nat.ne_of_lt (Nat.lt_of_lt_of_le A376.lt (Nat.le_of_eq g381.symm))
  have sz_b381 := Nat.le_trans K_377.1 (Nat.le_of_eq g381.symm)
  have ge_b381 := Nat.le_trans Z_380 (Nat.le_of_eq g381.symm)
  have K_382 := K_377.ext E381
  have V_a1_383 := V_a1_378.ext E381
  have Ol_384 := Ol_379.ext E381
  have A376_385 := A376.ext E381
  have Fvalue_b376_386 := Fvalue_b376.ext E381
  have Fcoder_b376_387 := Fcoder_b376.ext E381
  have Z_388 := Nat.le_trans Z_380 E381.1
  have V_b381_381 : Arv Z h381 b381 k381 .char (6 : Int32) [(.int (0 : Int32)), (.int (0 : Int32)), (.int (0 : Int32)), (.int (0 : Int32)), (.int (0 : Int32)), (.int (0 : Int32))] (.int (0 : Int32)) := V381.pad (pad_rep [] (.int (0 : Int32)) 6)
  refine Owe.dup X381.here hx (hb hby d10_193) rfl rfl ?_
  refine Owe.iconst X381.here hx (hb hby d10_194) (w := (0 : Int32)) rfl ?_
  refine Owe.aloadN X381.here hx (hb hby d10_195) rfl rfl ?_
  refine Owe.iconst X381.here hx (hb hby d10_196) (w := (0 : Int32)) rfl ?_
  refine Owe.caload X381 hx hZ e381 V_a1_383 (v := (.int v0)) (by decide) rfl (hb hby d10_197) rfl ?_
  refine Owe.castore X381 hx hZ e381 V_b381_381 (x := v0) 0 rfl (Nat.le_of_ble_eq_true rfl) (by decide) (hb hby d10_198) rfl fun T389 h389 X389 e389 W389 (V389 : Arv Z h389 b381 k381 .char (6 : Int32) [(.int (nar .char v0)), (.int (0 : Int32)), (.int (0 : Int32)), (.int (0 : Int32)), (.int (0 : Int32)), (.int (0 : Int32))] (.int (0 : Int32))) => ?_
  have K_390 := K_382.wr W389 (Or.inr sz_b381)
  have V_a1_391 := V_a1_383.other W389 ne_a1_b381
  have Ol_392 := Ol_384.wr W389 ge_b381
  have A376_393 := A376_385.wr W389
  have Fvalue_b376_394 := Fvalue_b376_386.other W389 (Or.inl ne_b376_b381)
  have Fcoder_b376_395 := Fcoder_b376_387.other W389 (Or.inl ne_b376_b381)
  have Z_396 := Nat.le_trans Z_388 (Keep.of_wr W389).1
  have N389 := Fr.snoc X389 N0 ge_b381
  refine Owe.dup X389.here hx (hb hby d10_199) rfl rfl ?_
  refine Owe.iconst X389.here hx (hb hby d10_200) (w := (1 : Int32)) rfl ?_
  refine Owe.aloadN X389.here hx (hb hby d10_201) rfl rfl ?_
  refine Owe.iconst X389.here hx (hb hby d10_202) (w := (1 : Int32)) rfl ?_
  refine Owe.caload X389 hx hZ e389 V_a1_391 (v := (.int v1)) (by decide) rfl (hb hby d10_203) rfl ?_
  refine Owe.castore X389 hx hZ e389 V389 (x := v1) 1 rfl (Nat.le_of_ble_eq_true rfl) (by decide) (hb hby d10_204) rfl fun T397 h397 X397 e397 W397 (V397 : Arv Z h397 b381 k381 .char (6 : Int32) [(.int (nar .char v0)), (.int (nar .char v1)), (.int (0 : Int32)), (.int (0 : Int32)), (.int (0 : Int32)), (.int (0 : Int32))] (.int (0 : Int32))) => ?_
  have K_398 := K_390.wr W397 (Or.inr sz_b381)
  have V_a1_399 := V_a1_391.other W397 ne_a1_b381
  have Ol_400 := Ol_392.wr W397 ge_b381
  have A376_401 := A376_393.wr W397
  have Fvalue_b376_402 := Fvalue_b376_394.other W397 (Or.inl ne_b376_b381)
  have Fcoder_b376_403 := Fcoder_b376_395.other W397 (Or.inl ne_b376_b381)
  have Z_404 := Nat.le_trans Z_396 (Keep.of_wr W397).1
  have N397 := Fr.snoc X397 N389 ge_b381
  refine Owe.dup X397.here hx (hb hby d10_205) rfl rfl ?_
  refine Owe.iconst X397.here hx (hb hby d10_206) (w := (2 : Int32)) rfl ?_
  refine Owe.aloadN X397.here hx (hb hby d10_207) rfl rfl ?_
  refine Owe.iconst X397.here hx (hb hby d10_208) (w := (2 : Int32)) rfl ?_
  refine Owe.caload X397 hx hZ e397 V_a1_399 (v := (.int v2)) (by decide) rfl (hb hby d10_209) rfl ?_
  refine Owe.castore X397 hx hZ e397 V397 (x := v2) 2 rfl (Nat.le_of_ble_eq_true rfl) (by decide) (hb hby d10_210) rfl fun T405 h405 X405 e405 W405 (V405 : Arv Z h405 b381 k381 .char (6 : Int32) [(.int (nar .char v0)), (.int (nar .char v1)), (.int (nar .char v2)), (.int (0 : Int32)), (.int (0 : Int32)), (.int (0 : Int32))] (.int (0 : Int32))) => ?_
  have K_406 := K_398.wr W405 (Or.inr sz_b381)
  have V_a1_407 := V_a1_399.other W405 ne_a1_b381
  have Ol_408 := Ol_400.wr W405 ge_b381
  have A376_409 := A376_401.wr W405
  have Fvalue_b376_410 := Fvalue_b376_402.other W405 (Or.inl ne_b376_b381)
  have Fcoder_b376_411 := Fcoder_b376_403.other W405 (Or.inl ne_b376_b381)
  have Z_412 := Nat.le_trans Z_404 (Keep.of_wr W405).1
  have N405 := Fr.snoc X405 N397 ge_b381
  refine Owe.dup X405.here hx (hb hby d10_211) rfl rfl ?_
  refine Owe.iconst X405.here hx (hb hby d10_212) (w := (3 : Int32)) rfl ?_
  refine Owe.aloadN X405.here hx (hb hby d10_213) rfl rfl ?_
  refine Owe.iconst X405.here hx (hb hby d10_214) (w := (3 : Int32)) rfl ?_
  refine Owe.caload X405 hx hZ e405 V_a1_407 (v := (.int v3)) (by decide) rfl (hb hby d10_215) rfl ?_
  refine Owe.castore X405 hx hZ e405 V405 (x := v3) 3 rfl (Nat.le_of_ble_eq_true rfl) (by decide) (hb hby d10_216) rfl fun T413 h413 X413 e413 W413 (V413 : Arv Z h413 b381 k381 .char (6 : Int32) [(.int (nar .char v0)), (.int (nar .char v1)), (.int (nar .char v2)), (.int (nar .char v3)), (.int (0 : Int32)), (.int (0 : Int32))] (.int (0 : Int32))) => ?_
  have K_414 := K_406.wr W413 (Or.inr sz_b381)
  have V_a1_415 := V_a1_407.other W413 ne_a1_b381
  have Ol_416 := Ol_408.wr W413 ge_b381
  have A376_417 := A376_409.wr W413
  have Fvalue_b376_418 := Fvalue_b376_410.other W413 (Or.inl ne_b376_b381)
  have Fcoder_b376_419 := Fcoder_b376_411.other W413 (Or.inl ne_b376_b381)
  have Z_420 := Nat.le_trans Z_412 (Keep.of_wr W413).1
  have N413 := Fr.snoc X413 N405 ge_b381
  refine Owe.dup X413.here hx (hb hby d10_217) rfl rfl ?_
  refine Owe.iconst X413.here hx (hb hby d10_218) (w := (4 : Int32)) rfl ?_
  refine Owe.aloadN X413.here hx (hb hby d10_219) rfl rfl ?_
  refine Owe.iconst X413.here hx (hb hby d10_220) (w := (4 : Int32)) rfl ?_
  refine Owe.caload X413 hx hZ e413 V_a1_415 (v := (.int v4)) (by decide) rfl (hb hby d10_221) rfl ?_
  refine Owe.castore X413 hx hZ e413 V413 (x := v4) 4 rfl (Nat.le_of_ble_eq_true rfl) (by decide) (hb hby d10_222) rfl fun T421 h421 X421 e421 W421 (V421 : Arv Z h421 b381 k381 .char (6 : Int32) [(.int (nar .char v0)), (.int (nar .char v1)), (.int (nar .char v2)), (.int (nar .char v3)), (.int (nar .char v4)), (.int (0 : Int32))] (.int (0 : Int32))) => ?_
  have K_422 := K_414.wr W421 (Or.inr sz_b381)
  have V_a1_423 := V_a1_415.other W421 ne_a1_b381
  have Ol_424 := Ol_416.wr W421 ge_b381
  have A376_425 := A376_417.wr W421
  have Fvalue_b376_426 := Fvalue_b376_418.other W421 (Or.inl ne_b376_b381)
  have Fcoder_b376_427 := Fcoder_b376_419.other W421 (Or.inl ne_b376_b381)
  have Z_428 := Nat.le_trans Z_420 (Keep.of_wr W421).1
  have N421 := Fr.snoc X421 N413 ge_b381
  refine Owe.dup X421.here hx (hb hby d10_223) rfl rfl ?_
  refine Owe.iconst X421.here hx (hb hby d10_224) (w := (5 : Int32)) rfl ?_
  refine Owe.aloadN X421.here hx (hb hby d10_225) rfl rfl ?_
  refine Owe.iconst X421.here hx (hb hby d10_226) (w := (5 : Int32)) rfl ?_
  refine Owe.caload X421 hx hZ e421 V_a1_423 (v := (.int v5)) (by decide) rfl (hb hby d10_227) rfl ?_
  refine Owe.castore X421 hx hZ e421 V421 (x := v5) 5 rfl (Nat.le_of_ble_eq_true rfl) (by decide) (hb hby d10_228) rfl fun T429 h429 X429 e429 W429 (V429 : Arv Z h429 b381 k381 .char (6 : Int32) [(.int (nar .char v0)), (.int (nar .char v1)), (.int (nar .char v2)), (.int (nar .char v3)), (.int (nar .char v4)), (.int (nar .char v5))] (.int (0 : Int32))) => ?_
  have K_430 := K_422.wr W429 (Or.inr sz_b381)
  have V_a1_431 := V_a1_423.other W429 ne_a1_b381
  have Ol_432 := Ol_424.wr W429 ge_b381
  have A376_433 := A376_425.wr W429
  have Fvalue_b376_434 := Fvalue_b376_426.other W429 (Or.inl ne_b376_b381)
  have Fcoder_b376_435 := Fcoder_b376_427.other W429 (Or.inl ne_b376_b381)
  have Z_436 := Nat.le_trans Z_428 (Keep.of_wr W429).1
  have N429 := Fr.snoc X429 N421 ge_b381
  have hp437 : ∀ c ∈ ([(nar .char v0), (nar .char v1), (nar .char v2), (nar .char v3), (nar .char v4), (nar .char v5)] : List Int32), ¬ c < 0 ∧ ¬ (255 : Int32) < c := by
    intro c hc
    simp only [List.mem_cons, List.not_mem_nil, or_false] at hc
    rcases hc with rfl | rfl | rfl | rfl | rfl | rfl
    · exact own_nar2 hp0
    · exact own_nar2 hp1
    · exact own_nar2 hp2
    · exact own_nar2 hp3
    · exact own_nar2 hp4
    · exact own_nar2 hp5
  refine Owe.special X429 hx (y := (⟨"java/lang/String", "<init>", "([C)V"⟩ : MethodName)) rfl hown (mvT hZ (hw _ (List.mem_of_getElem? (i := 50) rfl))) (mvT hZ (hw _ (List.mem_of_getElem? (i := 51) rfl))) (mvT hZ (hw _ (List.mem_of_getElem? (i := 52) rfl))) (by decide) (StrChars.Road.backV (W := 1) hZ hws (kI := 4) (hw _ (List.mem_of_getElem? (i := 4) rfl)) (cs := ([(nar .char v0), (nar .char v1), (nar .char v2), (nar .char v3), (nar .char v4), (nar .char v5)] : List Int32)) (bs := ([(nar .char v0), (nar .char v1), (nar .char v2), (nar .char v3), (nar .char v4), (nar .char v5)] : List Int32).map (fun c => c.toInt8.toInt32)) (n := 6) ge_b376 Z_436 A376_433 Fvalue_b376_434 Fcoder_b376_435 V429 (S_COMPACT_STRINGS.ext Ol_432.2) cs0 rfl rfl (by decide) (by decide) hp437 rfl (by decide) (by decide)) (by rw [hml]; rfl) (a := b376) (argsL := [(.ref b381)]) (rest := [(.ref b376)]) (lenOf pd_7 rfl) rfl (Nat.le_of_ble_eq_true rfl) (hb hby d10_229) rfl e429 (by decide) (by decide) fun T438 v438 L438 X438 hQ438 => ?_
  obtain ⟨rfl, Nq438, K438, Ex438, Fc438, t438, kb438, gt438, ft438, nt438, Fv438, Vt438⟩ := hQ438
  have N438 := Fr.app N429 Nq438
  have ne_a1_t438 : a1 ≠ t438 := Nat.ne_of_lt (Nat.lt_of_lt_of_le V_a1_431.lt ft438)
  have ne_b376_t438 : b376 ≠ t438 := Nat.ne_of_lt (Nat.lt_of_lt_of_le A376_433.lt ft438)
  have ne_b381_t438 : b381 ≠ t438 := Nat.ne_of_lt (Nat.lt_of_lt_of_le V429.lt ft438)
  have K_439 := K_430.trans K438 (allS (Or.inr sz_b376) all0)
  have V_a1_440 := V_a1_431.keep K438 (ninS ne_a1_b376 nin0)
  have Ol_441 := Ol_432.keep K438 (allS ge_b376 all0)
  have A376_442 := A376_433.keep K438
  have V429_443 := V429.keep K438 (ninS (Ne.symm ne_b376_b381) nin0)
  have Z_444 := Nat.le_trans Z_436 K438.1
  have sz_t438 := Nat.le_trans K_430.1 ft438
  have Tx438 : (∀ c ∈ ([(nar .char v0), (nar .char v1), (nar .char v2), (nar .char v3), (nar .char v4), (nar .char v5)] : List Int32), ¬ c < 0 ∧ ¬ (255 : Int32) < c) ∧ ([(nar .char v0), (nar .char v1), (nar .char v2), (nar .char v3), (nar .char v4), (nar .char v5)] : List Int32).length ≤ 4000 := ⟨hp437, Nat.le_of_ble_eq_true rfl⟩
  refine Owe.retR X438 hx hlk (t := (.object "java/lang/String")) Bd.returns rfl rfl rfl (hb hby d10_232) rfl fun fs hE => ?_
  rw [hG]
  refine ⟨_, _, rfl, ?_, frameMono hE (by decide) (by decide)⟩
  show Qmk6 Z a1 k1 v0 v1 v2 v3 v4 v5 G1 h0 n0 _ T438.heap _
  exact ⟨b376, t438, kb438, rfl, N438, K_439, ge_b376, sz_b376, Ex438, Fv438, Fc438, Vt438, Tx438⟩
theorem pn_0 : plainName "com/example/wade/wade/monitor/AccessGoverningPinLaw" = true := by first | (simp [plainName, overriddenIn]; done) | decide +kernel
theorem ef_0 (m : MethodId) (x0 : Int32) (x1 : Int32) (x2 : Int32) (x3 : Int32) (x4 : Int64)  : entryFrame m #[(.int x0), (.int x1), (.int x2), (.int x3), (.long x4)] maxLocals = mkF m 0 #[.val (.int x0), .val (.int x1), .val (.int x2), .val (.int x3), .val (.long x4), .second, .unset, .unset, .unset, .unset, .unset, .unset, .unset] [] := by first | (simp [entryFrame, mkF, argsToLocals, Value.category, maxLocals]; done) | rfl
def Q0 (Z : State) (p1 : Int32) (p2 : Int32) (p3 : Int32) (p4 : Int32) (q5 : Int64) (fm : Value) (G1 : Int32) (va : Addr) (rd : Addr) (wt : Addr) (rdw : Addr) (rdwv : Addr) (wtw : Addr) (wtwv : Addr) (k_va : ClassId) (k_rdwv : ClassId) (k_wtwv : ClassId) (em : Addr) (h0 : Heap) (n0 : Nat) (v : Option Value) (h : Heap) (L : List Loc) : Prop := v = some (.int 1) ∧ Fr n0 L
set_option maxRecDepth 65536 in
set_option maxHeartbeats 40000000 in
theorem rm0 (l : Launch) (Z : State) (a0 : Array Value) (hw : ∀ d ∈ tables_1, d.before a0 Z = true) (ws : List Jvm.Cond) (p1 : Int32) (p2 : Int32) (p3 : Int32) (p4 : Int32) (q5 : Int64) (fm : Value) (G1 : Int32) (va : Addr) (rd : Addr) (wt : Addr) (rdw : Addr) (rdwv : Addr) (wtw : Addr) (wtwv : Addr) (k_va : ClassId) (k_rdwv : ClassId) (k_wtwv : ClassId) (em : Addr) (h0 : Heap) (n0 : Nat) (Z0 : n0 ≤ h0.size) (S_COMPACT_STRINGS : Sta Z Z.heap "java/lang/String" "COMPACT_STRINGS" "Z" (.int G1)) (cs0 : ¬ (G1 = (0 : Int32))) (Ol : Old Z n0 h0) (S_SIOOBE_FORMATTER : Sta Z Z.heap "jdk/internal/util/Preconditions" "SIOOBE_FORMATTER" "Ljava/util/function/BiFunction;" fm) (ir_fm : (fm).isRef = true) (S__VALUES : Sta Z Z.heap "com/example/wade/wade/monitor/Access" "$VALUES" "[Lcom/example/wade/wade/monitor/Access;" (.ref va)) (E_va : Exa Z Z.heap va "[Lcom/example/wade/wade/monitor/Access;") (S_READ : Sta Z Z.heap "com/example/wade/wade/monitor/Access" "READ" "Lcom/example/wade/wade/monitor/Access;" (.ref rd)) (E_rd : Exa Z Z.heap rd "com/example/wade/wade/monitor/Access") (S_WRITE : Sta Z Z.heap "com/example/wade/wade/monitor/Access" "WRITE" "Lcom/example/wade/wade/monitor/Access;" (.ref wt)) (E_wt : Exa Z Z.heap wt "com/example/wade/wade/monitor/Access") (Fword_rd : Fld Z Z.heap rd "com/example/wade/wade/monitor/Access" "word" "Ljava/lang/String;" (.ref rdw)) (E_rdw : Exa Z Z.heap rdw "java/lang/String") (Fcoder_rdw : Fld Z Z.heap rdw "java/lang/String" "coder" "B" (.int (0 : Int32))) (Fvalue_rdw : Fld Z Z.heap rdw "java/lang/String" "value" "[B" (.ref rdwv)) (Fword_wt : Fld Z Z.heap wt "com/example/wade/wade/monitor/Access" "word" "Ljava/lang/String;" (.ref wtw)) (E_wtw : Exa Z Z.heap wtw "java/lang/String") (Fcoder_wtw : Fld Z Z.heap wtw "java/lang/String" "coder" "B" (.int (0 : Int32))) (Fvalue_wtw : Fld Z Z.heap wtw "java/lang/String" "value" "[B" (.ref wtwv)) (V_va : Arv Z Z.heap va k_va (.object "com/example/wade/wade/monitor/Access") (2 : Int32) [(.ref rd), (.ref wt)] .null) (V_rdwv : Arv Z Z.heap rdwv k_rdwv .byte (4 : Int32) ((([114, 101, 97, 100] : List Int32).map (fun c => c.toInt8.toInt32)).map Value.int) (.int (0 : Int32))) (V_wtwv : Arv Z Z.heap wtwv k_wtwv .byte (5 : Int32) ((([119, 114, 105, 116, 101] : List Int32).map (fun c => c.toInt8.toInt32)).map Value.int) (.int (0 : Int32))) (Tx_rdw : (∀ c ∈ ([114, 101, 97, 100] : List Int32), ¬ c < 0 ∧ ¬ (255 : Int32) < c) ∧ ([114, 101, 97, 100] : List Int32).length ≤ 4000) (Tx_wtw : (∀ c ∈ ([119, 114, 105, 116, 101] : List Int32), ¬ c < 0 ∧ ¬ (255 : Int32) < c) ∧ ([119, 114, 105, 116, 101] : List Int32).length ≤ 4000) (S_EMPTY : Sta Z Z.heap "java/util/Optional" "EMPTY" "Ljava/util/Optional;" (.ref em)) (E_em : Exa Z Z.heap em "java/util/Optional") (Fvalue_em : Fld Z Z.heap em "java/util/Optional" "value" "Ljava/lang/Object;" .null) :
    MetFree l x (head1 (Jvm.Cond.code x code maxLocals ret :: ws) room_1) (fun a U => a = #[(.int p1), (.int p2), (.int p3), (.int p4), (.long q5)] ∧ Z.Warmed39 U.vm ∧ U.heap = h0 ∧ CHv Z own_EL U.vm h0) (fun _ _ _ _ _ => True) (fun _ U o U' => ∃ v L, o = .returned v ∧ Q0 Z p1 p2 p3 p4 q5 fm G1 va rd wt rdw rdwv wtw wtwv k_va k_rdwv k_wtwv em h0 n0 v U'.heap L ∧ CHr Z own_EL U.vm U.heap U'.vm U'.heap ∧ ReturnedEndW U o U' L room_1.cells room_1.slots) := by
  refine MetFree.of_bodySF (plainFor_of_name pn_0) hisR ?_
  intro p e s m args below meth c s₁ Bd hml0 hP hK
  obtain ⟨rfl, hZ0, hh, H0⟩ := hP
  have hx := Bd.exec
  have hby := Bd.bytes
  have hml : c.maxLocals = 13 := hml0
  have hown : s.vm.findClass "com/example/wade/wade/monitor/AccessGoverningPinLaw" = some m.cls := findClass_of_methodNamed Bd.named
  have hnm := (name_of_methodNamed Bd.named Bd.method).1
  have hlk : meth.locks = false := BodyLoose.notSynchronized Bd
  have X0 : Stand p l e room_1 (s.setVm s.vm) m #[(.int p1), (.int p2), (.int p3), (.int p4), (.long q5)] below meth c s₁ [] 0 0 := Stand.of_body Bd
  have e0 : s₁.heap = h0 := by rw [← hh, Bd.state]; rfl
  have N0 := Fr.nil n0
  have hZ : Z.Warmed39 (s.setVm s.vm).vm := hZ0
  have hown1 : (s.setVm s.vm).vm.findClass "com/example/wade/wade/monitor/AccessGoverningPinLaw" = some m.cls := hown
  have hS0 : s.Since s.vm 0 := (State.WarmedH.refl s).since 0
  have hk0 : 0 ≤ h0.size := Nat.zero_le _
  have R0 : CHr Z own_EL s.vm h0 s.vm h0 := CHr.refl H0
  obtain ⟨G, hG⟩ : ∃ G : Outcome → State → Prop, G = fun o u => ∃ v L, o = .returned v ∧ Q0 Z p1 p2 p3 p4 q5 fm G1 va rd wt rdw rdwv wtw wtwv k_va k_rdwv k_wtwv em h0 n0 v u.heap L ∧ CHr Z own_EL s.vm s.heap u.vm u.heap ∧ ReturnedEndW s o u L room_1.cells room_1.slots := ⟨_, rfl⟩
  suffices hgo : Owe p.tables e below G s₁ (mkF m 0 #[.val (.int p1), .val (.int p2), .val (.int p3), .val (.int p4), .val (.long q5), .second, .unset, .unset, .unset, .unset, .unset, .unset, .unset] []) by
    obtain ⟨u, o, h1, h2, h3, h4⟩ := hgo
    exact ⟨u, o, castTop (ef_0 m p1 p2 p3 p4 q5) h1, h2, h3, by rw [hG] at h4; exact h4⟩
  have hws : ∀ d ∈ StrChars.Road.words, d.before a0 Z = true := fun d hd => hw d (own_words d hd)
  have cut274_a : ∀ (Tt : State) (ht : Heap) (vmt : Vm) (kt : Nat) (locst : List Loc) (xs ts : Addr) (ks : ClassId) (cs : List Int32) (b6 : Addr) (n7 m8 : Int32), Stand p l e room_1 (s.setVm vmt) m #[(.int p1), (.int p2), (.int p3), (.int p4), (.long q5)] below meth c Tt locst 14 120 → Tt.heap = ht → s.Since vmt kt → kt ≤ ht.size → Z.Warmed39 (s.setVm vmt).vm → (s.setVm vmt).vm.findClass "com/example/wade/wade/monitor/AccessGoverningPinLaw" = some m.cls → Fr n0 locst → n0 ≤ ht.size → Old Z n0 ht → CHv Z own_EL vmt ht → CHr Z own_EL s.vm h0 vmt ht → (Exa Z ht xs "java/lang/String") → (Fld Z ht xs "java/lang/String" "value" "[B" (.ref ts)) → (Fld Z ht xs "java/lang/String" "coder" "B" (.int (0 : Int32))) → (Arv Z ht ts ks .byte (Int32.ofNat cs.length) ((cs.map (fun c => c.toInt8.toInt32)).map Value.int) (.int (0 : Int32))) → ((∀ c ∈ cs, ¬ c < 0 ∧ ¬ (255 : Int32) < c) ∧ cs.length ≤ 4000) → Owe p.tables e below G Tt (mkF m 274 #[.val (.int p1), .val (.int p2), .val (.int p3), .val (.int p4), .val (.long q5), .second, .val (.ref b6), .val (.int n7), .val (.int m8), .unset, .unset, .unset, .unset] [(.ref xs)]) := by
    intro Tt ht vmt kt locst xs ts ks cs b6 n7 m8 Xt et hSt hkt hZt hownt Nt Zt Ot Ht Rt Es Fvs Fcs Vs Txs
    by_cases hr : cs = ([114, 101, 97, 100] : List Int32)
    · have hw2 : ¬ cs = ([119, 114, 105, 116, 101] : List Int32) := by rw [hr]; decide
      refine Owe.astore Xt.here hx (hb hby at_274) rfl rfl (l' := #[.val (.int p1), .val (.int p2), .val (.int p3), .val (.int p4), .val (.long q5), .second, .val (.ref b6), .val (.int n7), .val (.int m8), .val (.ref xs), .unset, .unset, .unset]) rfl ?_
      refine Owe.aload Xt.here hx (hb hby at_276) rfl rfl ?_
      refine Owe.stat Xt hx (y := (⟨"com/example/wade/wade/monitor/Access", "governing", "(Ljava/lang/String;)Ljava/util/Optional;"⟩ : MethodName)) hownt (mvT hZt (hw _ (List.mem_of_getElem? (i := 70) rfl))) (mvT hZt (hw _ (List.mem_of_getElem? (i := 71) rfl))) (mvT hZt (hw _ (List.mem_of_getElem? (i := 72) rfl))) (mvT hZt (hw _ (List.mem_of_getElem? (i := 73) rfl))) (by decide) (backOf (W := 0) (rmgvr l Z a0 hw [] xs ts ks cs G1 va rd wt rdw rdwv wtw wtwv k_va k_rdwv k_wtwv em ht n0 Zt Es Fvs Fcs Vs Txs S_COMPACT_STRINGS cs0 Ot S__VALUES E_va S_READ E_rd S_WRITE E_wt Fword_rd E_rdw Fcoder_rdw Fvalue_rdw Fword_wt E_wtw Fcoder_wtw Fvalue_wtw V_va V_rdwv V_wtwv Tx_rdw Tx_wtw S_EMPTY E_em Fvalue_em hr) hZt (hw _ (List.mem_of_getElem? (i := 73) rfl)) (hw _ (List.mem_of_getElem? (i := 72) rfl)) (by decide) (by decide)) (by rw [hml]; rfl) (argsL := [(.ref xs)]) (rest := []) (lenOf pd_8 rfl) rfl (Nat.le_of_ble_eq_true rfl) (hb hby at_278) rfl et (by decide) (by decide) fun T445 v445 L445 X445 hQ445 => ?_
      obtain ⟨x1_445, rfl, Nq445, K445, ge_x1_445, fresh_x1_445, E_x1_445, Fvalue_x1_445⟩ := hQ445
      have N445 := Fr.app Nt Nq445
      have hk446 := Nat.le_trans hkt K445.1
      have Rr446 := Rt.trans (CHr.keep K445 sf0 Ht)
      have H446 := CHv.keep K445 sf0 Ht
      have Ot_447 := Ot.keep K445 all0
      have Es_448 := Es.keep K445
      have Fvs_449 := Fvs.keep K445 nin0
      have Fcs_450 := Fcs.keep K445 nin0
      have Vs_451 := Vs.keep K445 nin0
      have Z_452 := Nat.le_trans Zt K445.1
      have ne_xs_x1_445 : xs ≠ x1_445 := Nat.ne_of_lt (Nat.lt_of_lt_of_le Es.lt fresh_x1_445)
      have ne_ts_x1_445 : ts ≠ x1_445 := Nat.ne_of_lt (Nat.lt_of_lt_of_le Vs.lt fresh_x1_445)
      refine Owe.astore X445.here hx (hb hby at_281) rfl rfl (l' := #[.val (.int p1), .val (.int p2), .val (.int p3), .val (.int p4), .val (.long q5), .second, .val (.ref b6), .val (.int n7), .val (.int m8), .val (.ref xs), .val (.ref x1_445), .unset, .unset]) rfl ?_
      refine Owe.aload X445.here hx (hb hby at_283) rfl rfl ?_
      refine Owe.ldcV X445 hx hZt hSt (own_ew hw) H446 (by decide) hownt (hw _ (List.mem_of_getElem? (i := 2) rfl)) (own_wS hw) rfl hk446 (vs := ((([114, 101, 97, 100] : List Int32).map (fun c => c.toInt8.toInt32)).map Value.int)) (z := (4 : Int32)) (by decide) (by decide) rfl (hb hby at_285) (n := 16) (by decide) (by decide) (by decide) (by decide) fun l453 T453 h453 k453 lb453 lk453 X453 e453 E453 hS453 hk453 hZ453 hown453 Ex453 Fc453 Fv453 Vb453 hC453 Lt453 nsf453 => ?_
      have hk454 := Nat.le_trans hk446 E453.1
      have Ot_455 := Ot_447.ext E453
      have Es_456 := Es_448.ext E453
      have Fvs_457 := Fvs_449.ext E453
      have Fcs_458 := Fcs_450.ext E453
      have Vs_459 := Vs_451.ext E453
      have E_x1_460 := E_x1_445.ext E453
      have Fvalue_x1_461 := Fvalue_x1_445.ext E453
      have Z_462 := Nat.le_trans Z_452 E453.1
      have Rr453 := Rr446.trans hC453
      have H453 := hC453.1
      have Tx453 : (∀ c ∈ ([114, 101, 97, 100] : List Int32), ¬ c < 0 ∧ ¬ (255 : Int32) < c) ∧ ([114, 101, 97, 100] : List Int32).length ≤ 4000 := ⟨by decide, Nat.le_of_ble_eq_true rfl⟩
      have hcd463 : StrChars.Road.CodA cs 0 (Int32.ofNat cs.length) ((cs.map (fun c => c.toInt8.toInt32)).map Value.int) := StrChars.Road.codOf (n := cs.length) rfl (fun x hx => (Txs.1 x hx).2)
      have hbd463 := up cs Txs.1
      have hcd464 : StrChars.Road.CodA ([114, 101, 97, 100] : List Int32) 0 (4 : Int32) ((([114, 101, 97, 100] : List Int32).map (fun c => c.toInt8.toInt32)).map Value.int) := StrChars.Road.codOf (n := 4) rfl (fun x hx => (Tx453.1 x hx).2)
      have hbd464 := up ([114, 101, 97, 100] : List Int32) Tx453.1
      refine Owe.virt X453 hx hZ453 (y := (⟨"java/lang/String", "equals", "(Ljava/lang/Object;)Z"⟩ : MethodName)) (z := (⟨"java/lang/String", "equals", "(Ljava/lang/Object;)Z"⟩ : MethodName)) (Q := fun v h' L => ((v = some (.int 1) ∧ cs = ([114, 101, 97, 100] : List Int32)) ∨ (v = some (.int 0) ∧ ¬ cs = ([114, 101, 97, 100] : List Int32))) ∧ L = [] ∧ h' = h453) (kc := 0) (ks := 0) hown453 (mvT hZ453 (hw _ (List.mem_of_getElem? (i := 119) rfl))) (mvT hZ453 (hw _ (List.mem_of_getElem? (i := 94) rfl))) (mvT hZ453 (hw _ (List.mem_of_getElem? (i := 96) rfl))) (mvT hZ453 (hw _ (List.mem_of_getElem? (i := 95) rfl))) (notFace_of_selects (args := #[]) (mvT hZ453 (hw _ (List.mem_of_getElem? (i := 96) rfl)))) (by decide) (StrChars.Road.eqW (W := 0) hZ453 (own_heq hw) (kI := 4) (hw _ (List.mem_of_getElem? (i := 4) rfl)) Es_456 Fvs_457 Fcs_458 Vs_459 hcd463 hbd463 Txs.2 Ex453 Fv453 Fc453 Vb453 hcd464 hbd464 Tx453.2 (S_COMPACT_STRINGS.ext Ot_455.2) cs0 (by decide) (by decide)) (by rw [hml]; rfl) (a := xs) (argsL := [(.ref l453)]) (rest := []) Es_456 (lenOf pd_4 rfl) rfl (Nat.le_of_ble_eq_true rfl) (hb hby at_287) rfl e453 (by decide) (by decide) fun T465 v465 L465 X465 hQ465 => ?_
      obtain ⟨hv465, rfl, e465⟩ := hQ465
      obtain rfl : v465 = some (.int (1 : Int32)) := by
        rcases hv465 with q | q
        · exact q.1
        · exact absurd hr q.2
      have N465 := Fr.app N445 (Fr.nil n0)
      refine Owe.ifNo X465.here hx (hb hby at_290) rfl ((if0 _ _).trans (feq (by decide)).1) ?_
      refine Owe.aload X465.here hx (hb hby at_293) rfl rfl ?_
      refine Owe.virt X465 hx hZ453 (y := (⟨"java/util/Optional", "isPresent", "()Z"⟩ : MethodName)) (z := (⟨"java/util/Optional", "isPresent", "()Z"⟩ : MethodName)) hown453 (mvT hZ453 (hw _ (List.mem_of_getElem? (i := 120) rfl))) (mvT hZ453 (hw _ (List.mem_of_getElem? (i := 121) rfl))) (mvT hZ453 (hw _ (List.mem_of_getElem? (i := 123) rfl))) (mvT hZ453 (hw _ (List.mem_of_getElem? (i := 122) rfl))) (notFace_of_selects (args := #[]) (mvT hZ453 (hw _ (List.mem_of_getElem? (i := 123) rfl)))) (by decide) (backOf (W := 0) (rmipy l Z a0 hw [] x1_445 rd h453 n0 Z_462 Fvalue_x1_461) hZ453 (hw _ (List.mem_of_getElem? (i := 124) rfl)) (hw _ (List.mem_of_getElem? (i := 104) rfl)) (by decide) (by decide)) (by rw [hml]; rfl) (a := x1_445) (argsL := []) (rest := []) E_x1_460 (lenOf pd_9 rfl) rfl (Nat.le_of_ble_eq_true rfl) (hb hby at_295) rfl e465 (by decide) (by decide) fun T466 v466 L466 X466 hQ466 => ?_
      obtain ⟨rfl, Nq466, e466⟩ := hQ466
      have N466 := Fr.app N465 Nq466
      refine Owe.ifNo X466.here hx (hb hby at_298) rfl ((if0 _ _).trans (feq (by decide)).1) ?_
      refine Owe.aload X466.here hx (hb hby at_301) rfl rfl ?_
      refine Owe.virt X466 hx hZ453 (y := (⟨"java/util/Optional", "get", "()Ljava/lang/Object;"⟩ : MethodName)) (z := (⟨"java/util/Optional", "get", "()Ljava/lang/Object;"⟩ : MethodName)) hown453 (mvT hZ453 (hw _ (List.mem_of_getElem? (i := 125) rfl))) (mvT hZ453 (hw _ (List.mem_of_getElem? (i := 126) rfl))) (mvT hZ453 (hw _ (List.mem_of_getElem? (i := 128) rfl))) (mvT hZ453 (hw _ (List.mem_of_getElem? (i := 127) rfl))) (notFace_of_selects (args := #[]) (mvT hZ453 (hw _ (List.mem_of_getElem? (i := 128) rfl)))) (by decide) (backOf (W := 0) (rmopg l Z a0 hw [] x1_445 rd h453 n0 Z_462 Fvalue_x1_461) hZ453 (hw _ (List.mem_of_getElem? (i := 129) rfl)) (hw _ (List.mem_of_getElem? (i := 104) rfl)) (by decide) (by decide)) (by rw [hml]; rfl) (a := x1_445) (argsL := []) (rest := []) E_x1_460 (lenOf pd_10 rfl) rfl (Nat.le_of_ble_eq_true rfl) (hb hby at_303) rfl e466 (by decide) (by decide) fun T467 v467 L467 X467 hQ467 => ?_
      obtain ⟨rfl, Nq467, e467⟩ := hQ467
      have N467 := Fr.app N466 Nq467
      refine Owe.gets X467 hx hZ453 hown453 (hw _ (List.mem_of_getElem? (i := 130) rfl)) Via.refl e467 (S_READ.ext Ot_455.2) (hb hby at_306) fun T468 X468 e468 => ?_
      refine Owe.acmpNo X468.here hx (hb hby at_309) rfl rfl rfl (by simp [Jvm.Free.XT.acmp]) ?_
      refine Owe.iconst X468.here hx (hb hby at_312) (w := (1 : Int32)) rfl ?_
      refine Owe.goto X468.here hx (hb hby at_313) (pc' := 317) (by decide) (by decide) ?_
      refine Owe.retNW X468 hx hS453 e468 hk453 hlk (t := .boolean) Bd.returns (by simp) (hb hby at_317) rfl fun fs hE => ?_
      rw [hG]
      refine ⟨_, _, rfl, ?_, ?_, coldMono hE (by decide) (by decide)⟩
      rotate_left
      · rw [hh]
        show CHr Z own_EL s.vm h0 T468.vm T468.heap
        rw [e468]
        exact Rr453.trans (CHv.at X468 hZ453 (own_ew hw) H453)
      show Q0 Z p1 p2 p3 p4 q5 fm G1 va rd wt rdw rdwv wtw wtwv k_va k_rdwv k_wtwv em h0 n0 _ T468.heap _
      rw [e468]
      exact ⟨rfl, N467⟩
    · by_cases hwr : cs = ([119, 114, 105, 116, 101] : List Int32)
      · skip
        refine Owe.astore Xt.here hx (hb hby at_274) rfl rfl (l' := #[.val (.int p1), .val (.int p2), .val (.int p3), .val (.int p4), .val (.long q5), .second, .val (.ref b6), .val (.int n7), .val (.int m8), .val (.ref xs), .unset, .unset, .unset]) rfl ?_
        refine Owe.aload Xt.here hx (hb hby at_276) rfl rfl ?_
        refine Owe.stat Xt hx (y := (⟨"com/example/wade/wade/monitor/Access", "governing", "(Ljava/lang/String;)Ljava/util/Optional;"⟩ : MethodName)) hownt (mvT hZt (hw _ (List.mem_of_getElem? (i := 70) rfl))) (mvT hZt (hw _ (List.mem_of_getElem? (i := 71) rfl))) (mvT hZt (hw _ (List.mem_of_getElem? (i := 72) rfl))) (mvT hZt (hw _ (List.mem_of_getElem? (i := 73) rfl))) (by decide) (backOf (W := 0) (rmgvw l Z a0 hw [] xs ts ks cs G1 va rd wt rdw rdwv wtw wtwv k_va k_rdwv k_wtwv em ht n0 Zt Es Fvs Fcs Vs Txs S_COMPACT_STRINGS cs0 Ot S__VALUES E_va S_READ E_rd S_WRITE E_wt Fword_rd E_rdw Fcoder_rdw Fvalue_rdw Fword_wt E_wtw Fcoder_wtw Fvalue_wtw V_va V_rdwv V_wtwv Tx_rdw Tx_wtw S_EMPTY E_em Fvalue_em hr hwr) hZt (hw _ (List.mem_of_getElem? (i := 73) rfl)) (hw _ (List.mem_of_getElem? (i := 72) rfl)) (by decide) (by decide)) (by rw [hml]; rfl) (argsL := [(.ref xs)]) (rest := []) (lenOf pd_8 rfl) rfl (Nat.le_of_ble_eq_true rfl) (hb hby at_278) rfl et (by decide) (by decide) fun T469 v469 L469 X469 hQ469 => ?_
        obtain ⟨x1_469, rfl, Nq469, K469, ge_x1_469, fresh_x1_469, E_x1_469, Fvalue_x1_469⟩ := hQ469
        have N469 := Fr.app Nt Nq469
        have hk470 := Nat.le_trans hkt K469.1
        have Rr470 := Rt.trans (CHr.keep K469 sf0 Ht)
        have H470 := CHv.keep K469 sf0 Ht
        have Ot_471 := Ot.keep K469 all0
        have Es_472 := Es.keep K469
        have Fvs_473 := Fvs.keep K469 nin0
        have Fcs_474 := Fcs.keep K469 nin0
        have Vs_475 := Vs.keep K469 nin0
        have Z_476 := Nat.le_trans Zt K469.1
        have ne_xs_x1_469 : xs ≠ x1_469 := Nat.ne_of_lt (Nat.lt_of_lt_of_le Es.lt fresh_x1_469)
        have ne_ts_x1_469 : ts ≠ x1_469 := Nat.ne_of_lt (Nat.lt_of_lt_of_le Vs.lt fresh_x1_469)
        refine Owe.astore X469.here hx (hb hby at_281) rfl rfl (l' := #[.val (.int p1), .val (.int p2), .val (.int p3), .val (.int p4), .val (.long q5), .second, .val (.ref b6), .val (.int n7), .val (.int m8), .val (.ref xs), .val (.ref x1_469), .unset, .unset]) rfl ?_
        refine Owe.aload X469.here hx (hb hby at_283) rfl rfl ?_
        refine Owe.ldcV X469 hx hZt hSt (own_ew hw) H470 (by decide) hownt (hw _ (List.mem_of_getElem? (i := 2) rfl)) (own_wS hw) rfl hk470 (vs := ((([114, 101, 97, 100] : List Int32).map (fun c => c.toInt8.toInt32)).map Value.int)) (z := (4 : Int32)) (by decide) (by decide) rfl (hb hby at_285) (n := 16) (by decide) (by decide) (by decide) (by decide) fun l477 T477 h477 k477 lb477 lk477 X477 e477 E477 hS477 hk477 hZ477 hown477 Ex477 Fc477 Fv477 Vb477 hC477 Lt477 nsf477 => ?_
        have hk478 := Nat.le_trans hk470 E477.1
        have Ot_479 := Ot_471.ext E477
        have Es_480 := Es_472.ext E477
        have Fvs_481 := Fvs_473.ext E477
        have Fcs_482 := Fcs_474.ext E477
        have Vs_483 := Vs_475.ext E477
        have E_x1_484 := E_x1_469.ext E477
        have Fvalue_x1_485 := Fvalue_x1_469.ext E477
        have Z_486 := Nat.le_trans Z_476 E477.1
        have Rr477 := Rr470.trans hC477
        have H477 := hC477.1
        have Tx477 : (∀ c ∈ ([114, 101, 97, 100] : List Int32), ¬ c < 0 ∧ ¬ (255 : Int32) < c) ∧ ([114, 101, 97, 100] : List Int32).length ≤ 4000 := ⟨by decide, Nat.le_of_ble_eq_true rfl⟩
        have hcd487 : StrChars.Road.CodA cs 0 (Int32.ofNat cs.length) ((cs.map (fun c => c.toInt8.toInt32)).map Value.int) := StrChars.Road.codOf (n := cs.length) rfl (fun x hx => (Txs.1 x hx).2)
        have hbd487 := up cs Txs.1
        have hcd488 : StrChars.Road.CodA ([114, 101, 97, 100] : List Int32) 0 (4 : Int32) ((([114, 101, 97, 100] : List Int32).map (fun c => c.toInt8.toInt32)).map Value.int) := StrChars.Road.codOf (n := 4) rfl (fun x hx => (Tx477.1 x hx).2)
        have hbd488 := up ([114, 101, 97, 100] : List Int32) Tx477.1
        refine Owe.virt X477 hx hZ477 (y := (⟨"java/lang/String", "equals", "(Ljava/lang/Object;)Z"⟩ : MethodName)) (z := (⟨"java/lang/String", "equals", "(Ljava/lang/Object;)Z"⟩ : MethodName)) (Q := fun v h' L => ((v = some (.int 1) ∧ cs = ([114, 101, 97, 100] : List Int32)) ∨ (v = some (.int 0) ∧ ¬ cs = ([114, 101, 97, 100] : List Int32))) ∧ L = [] ∧ h' = h477) (kc := 0) (ks := 0) hown477 (mvT hZ477 (hw _ (List.mem_of_getElem? (i := 119) rfl))) (mvT hZ477 (hw _ (List.mem_of_getElem? (i := 94) rfl))) (mvT hZ477 (hw _ (List.mem_of_getElem? (i := 96) rfl))) (mvT hZ477 (hw _ (List.mem_of_getElem? (i := 95) rfl))) (notFace_of_selects (args := #[]) (mvT hZ477 (hw _ (List.mem_of_getElem? (i := 96) rfl)))) (by decide) (StrChars.Road.eqW (W := 0) hZ477 (own_heq hw) (kI := 4) (hw _ (List.mem_of_getElem? (i := 4) rfl)) Es_480 Fvs_481 Fcs_482 Vs_483 hcd487 hbd487 Txs.2 Ex477 Fv477 Fc477 Vb477 hcd488 hbd488 Tx477.2 (S_COMPACT_STRINGS.ext Ot_479.2) cs0 (by decide) (by decide)) (by rw [hml]; rfl) (a := xs) (argsL := [(.ref l477)]) (rest := []) Es_480 (lenOf pd_4 rfl) rfl (Nat.le_of_ble_eq_true rfl) (hb hby at_287) rfl e477 (by decide) (by decide) fun T489 v489 L489 X489 hQ489 => ?_
        obtain ⟨hv489, rfl, e489⟩ := hQ489
        obtain rfl : v489 = some (.int (0 : Int32)) := by
          rcases hv489 with q | q
          · exact absurd q.2 hr
          · exact q.1
        have N489 := Fr.app N469 (Fr.nil n0)
        refine Owe.ifYes X489.here hx (hb hby at_290) rfl ((if0 _ _).trans (teq (by decide)).1) (pc' := 318) (by decide) (by decide) ?_
        refine Owe.aload X489.here hx (hb hby at_318) rfl rfl ?_
        refine Owe.ldcV X489 hx hZ477 hS477 (own_ew hw) H477 (by decide) hown477 (hw _ (List.mem_of_getElem? (i := 136) rfl)) (own_wS hw) e489 hk477 (vs := ((([119, 114, 105, 116, 101] : List Int32).map (fun c => c.toInt8.toInt32)).map Value.int)) (z := (5 : Int32)) (by decide) (by decide) rfl (hb hby at_320) (n := 20) (by decide) (by decide) (by decide) (by decide) fun l490 T490 h490 k490 lb490 lk490 X490 e490 E490 hS490 hk490 hZ490 hown490 Ex490 Fc490 Fv490 Vb490 hC490 Lt490 nsf490 => ?_
        have hk491 := Nat.le_trans hk477 E490.1
        have Ot_492 := Ot_479.ext E490
        have Es_493 := Es_480.ext E490
        have Fvs_494 := Fvs_481.ext E490
        have Fcs_495 := Fcs_482.ext E490
        have Vs_496 := Vs_483.ext E490
        have E_x1_497 := E_x1_484.ext E490
        have Fvalue_x1_498 := Fvalue_x1_485.ext E490
        have Ex477_499 := Ex477.ext E490
        have Fc477_500 := Fc477.ext E490
        have Fv477_501 := Fv477.ext E490
        have Vb477_502 := Vb477.ext E490
        have Z_503 := Nat.le_trans Z_486 E490.1
        have Rr490 := Rr477.trans hC490
        have H490 := hC490.1
        have Tx490 : (∀ c ∈ ([119, 114, 105, 116, 101] : List Int32), ¬ c < 0 ∧ ¬ (255 : Int32) < c) ∧ ([119, 114, 105, 116, 101] : List Int32).length ≤ 4000 := ⟨by decide, Nat.le_of_ble_eq_true rfl⟩
        have hcd504 : StrChars.Road.CodA cs 0 (Int32.ofNat cs.length) ((cs.map (fun c => c.toInt8.toInt32)).map Value.int) := StrChars.Road.codOf (n := cs.length) rfl (fun x hx => (Txs.1 x hx).2)
        have hbd504 := up cs Txs.1
        have hcd505 : StrChars.Road.CodA ([119, 114, 105, 116, 101] : List Int32) 0 (5 : Int32) ((([119, 114, 105, 116, 101] : List Int32).map (fun c => c.toInt8.toInt32)).map Value.int) := StrChars.Road.codOf (n := 5) rfl (fun x hx => (Tx490.1 x hx).2)
        have hbd505 := up ([119, 114, 105, 116, 101] : List Int32) Tx490.1
        refine Owe.virt X490 hx hZ490 (y := (⟨"java/lang/String", "equals", "(Ljava/lang/Object;)Z"⟩ : MethodName)) (z := (⟨"java/lang/String", "equals", "(Ljava/lang/Object;)Z"⟩ : MethodName)) (Q := fun v h' L => ((v = some (.int 1) ∧ cs = ([119, 114, 105, 116, 101] : List Int32)) ∨ (v = some (.int 0) ∧ ¬ cs = ([119, 114, 105, 116, 101] : List Int32))) ∧ L = [] ∧ h' = h490) (kc := 0) (ks := 0) hown490 (mvT hZ490 (hw _ (List.mem_of_getElem? (i := 119) rfl))) (mvT hZ490 (hw _ (List.mem_of_getElem? (i := 94) rfl))) (mvT hZ490 (hw _ (List.mem_of_getElem? (i := 96) rfl))) (mvT hZ490 (hw _ (List.mem_of_getElem? (i := 95) rfl))) (notFace_of_selects (args := #[]) (mvT hZ490 (hw _ (List.mem_of_getElem? (i := 96) rfl)))) (by decide) (StrChars.Road.eqW (W := 0) hZ490 (own_heq hw) (kI := 4) (hw _ (List.mem_of_getElem? (i := 4) rfl)) Es_493 Fvs_494 Fcs_495 Vs_496 hcd504 hbd504 Txs.2 Ex490 Fv490 Fc490 Vb490 hcd505 hbd505 Tx490.2 (S_COMPACT_STRINGS.ext Ot_492.2) cs0 (by decide) (by decide)) (by rw [hml]; rfl) (a := xs) (argsL := [(.ref l490)]) (rest := []) Es_493 (lenOf pd_4 rfl) rfl (Nat.le_of_ble_eq_true rfl) (hb hby at_322) rfl e490 (by decide) (by decide) fun T506 v506 L506 X506 hQ506 => ?_
        obtain ⟨hv506, rfl, e506⟩ := hQ506
        obtain rfl : v506 = some (.int (1 : Int32)) := by
          rcases hv506 with q | q
          · exact q.1
          · exact absurd hwr q.2
        have N506 := Fr.app N489 (Fr.nil n0)
        refine Owe.ifNo X506.here hx (hb hby at_325) rfl ((if0 _ _).trans (feq (by decide)).1) ?_
        refine Owe.aload X506.here hx (hb hby at_328) rfl rfl ?_
        refine Owe.virt X506 hx hZ490 (y := (⟨"java/util/Optional", "isPresent", "()Z"⟩ : MethodName)) (z := (⟨"java/util/Optional", "isPresent", "()Z"⟩ : MethodName)) hown490 (mvT hZ490 (hw _ (List.mem_of_getElem? (i := 120) rfl))) (mvT hZ490 (hw _ (List.mem_of_getElem? (i := 121) rfl))) (mvT hZ490 (hw _ (List.mem_of_getElem? (i := 123) rfl))) (mvT hZ490 (hw _ (List.mem_of_getElem? (i := 122) rfl))) (notFace_of_selects (args := #[]) (mvT hZ490 (hw _ (List.mem_of_getElem? (i := 123) rfl)))) (by decide) (backOf (W := 0) (rmipy l Z a0 hw [] x1_469 wt h490 n0 Z_503 Fvalue_x1_498) hZ490 (hw _ (List.mem_of_getElem? (i := 124) rfl)) (hw _ (List.mem_of_getElem? (i := 104) rfl)) (by decide) (by decide)) (by rw [hml]; rfl) (a := x1_469) (argsL := []) (rest := []) E_x1_497 (lenOf pd_9 rfl) rfl (Nat.le_of_ble_eq_true rfl) (hb hby at_330) rfl e506 (by decide) (by decide) fun T507 v507 L507 X507 hQ507 => ?_
        obtain ⟨rfl, Nq507, e507⟩ := hQ507
        have N507 := Fr.app N506 Nq507
        refine Owe.ifNo X507.here hx (hb hby at_333) rfl ((if0 _ _).trans (feq (by decide)).1) ?_
        refine Owe.aload X507.here hx (hb hby at_336) rfl rfl ?_
        refine Owe.virt X507 hx hZ490 (y := (⟨"java/util/Optional", "get", "()Ljava/lang/Object;"⟩ : MethodName)) (z := (⟨"java/util/Optional", "get", "()Ljava/lang/Object;"⟩ : MethodName)) hown490 (mvT hZ490 (hw _ (List.mem_of_getElem? (i := 125) rfl))) (mvT hZ490 (hw _ (List.mem_of_getElem? (i := 126) rfl))) (mvT hZ490 (hw _ (List.mem_of_getElem? (i := 128) rfl))) (mvT hZ490 (hw _ (List.mem_of_getElem? (i := 127) rfl))) (notFace_of_selects (args := #[]) (mvT hZ490 (hw _ (List.mem_of_getElem? (i := 128) rfl)))) (by decide) (backOf (W := 0) (rmopg l Z a0 hw [] x1_469 wt h490 n0 Z_503 Fvalue_x1_498) hZ490 (hw _ (List.mem_of_getElem? (i := 129) rfl)) (hw _ (List.mem_of_getElem? (i := 104) rfl)) (by decide) (by decide)) (by rw [hml]; rfl) (a := x1_469) (argsL := []) (rest := []) E_x1_497 (lenOf pd_10 rfl) rfl (Nat.le_of_ble_eq_true rfl) (hb hby at_338) rfl e507 (by decide) (by decide) fun T508 v508 L508 X508 hQ508 => ?_
        obtain ⟨rfl, Nq508, e508⟩ := hQ508
        have N508 := Fr.app N507 Nq508
        refine Owe.gets X508 hx hZ490 hown490 (hw _ (List.mem_of_getElem? (i := 138) rfl)) Via.refl e508 (S_WRITE.ext Ot_492.2) (hb hby at_341) fun T509 X509 e509 => ?_
        refine Owe.acmpNo X509.here hx (hb hby at_344) rfl rfl rfl (by simp [Jvm.Free.XT.acmp]) ?_
        refine Owe.iconst X509.here hx (hb hby at_347) (w := (1 : Int32)) rfl ?_
        refine Owe.goto X509.here hx (hb hby at_348) (pc' := 352) (by decide) (by decide) ?_
        refine Owe.retNW X509 hx hS490 e509 hk490 hlk (t := .boolean) Bd.returns (by simp) (hb hby at_352) rfl fun fs hE => ?_
        rw [hG]
        refine ⟨_, _, rfl, ?_, ?_, coldMono hE (by decide) (by decide)⟩
        rotate_left
        · rw [hh]
          show CHr Z own_EL s.vm h0 T509.vm T509.heap
          rw [e509]
          exact Rr490.trans (CHv.at X509 hZ490 (own_ew hw) H490)
        show Q0 Z p1 p2 p3 p4 q5 fm G1 va rd wt rdw rdwv wtw wtwv k_va k_rdwv k_wtwv em h0 n0 _ T509.heap _
        rw [e509]
        exact ⟨rfl, N508⟩
      · skip
        refine Owe.astore Xt.here hx (hb hby at_274) rfl rfl (l' := #[.val (.int p1), .val (.int p2), .val (.int p3), .val (.int p4), .val (.long q5), .second, .val (.ref b6), .val (.int n7), .val (.int m8), .val (.ref xs), .unset, .unset, .unset]) rfl ?_
        refine Owe.aload Xt.here hx (hb hby at_276) rfl rfl ?_
        refine Owe.stat Xt hx (y := (⟨"com/example/wade/wade/monitor/Access", "governing", "(Ljava/lang/String;)Ljava/util/Optional;"⟩ : MethodName)) hownt (mvT hZt (hw _ (List.mem_of_getElem? (i := 70) rfl))) (mvT hZt (hw _ (List.mem_of_getElem? (i := 71) rfl))) (mvT hZt (hw _ (List.mem_of_getElem? (i := 72) rfl))) (mvT hZt (hw _ (List.mem_of_getElem? (i := 73) rfl))) (by decide) (backOf (W := 0) (rmgvn l Z a0 hw [] xs ts ks cs G1 va rd wt rdw rdwv wtw wtwv k_va k_rdwv k_wtwv em ht n0 Zt Es Fvs Fcs Vs Txs S_COMPACT_STRINGS cs0 Ot S__VALUES E_va S_READ E_rd S_WRITE E_wt Fword_rd E_rdw Fcoder_rdw Fvalue_rdw Fword_wt E_wtw Fcoder_wtw Fvalue_wtw V_va V_rdwv V_wtwv Tx_rdw Tx_wtw S_EMPTY E_em Fvalue_em hr hwr) hZt (hw _ (List.mem_of_getElem? (i := 73) rfl)) (hw _ (List.mem_of_getElem? (i := 72) rfl)) (by decide) (by decide)) (by rw [hml]; rfl) (argsL := [(.ref xs)]) (rest := []) (lenOf pd_8 rfl) rfl (Nat.le_of_ble_eq_true rfl) (hb hby at_278) rfl et (by decide) (by decide) fun T510 v510 L510 X510 hQ510 => ?_
        obtain ⟨rfl, Nq510, K510⟩ := hQ510
        have N510 := Fr.app Nt Nq510
        have hk511 := Nat.le_trans hkt K510.1
        have Rr511 := Rt.trans (CHr.keep K510 sf0 Ht)
        have H511 := CHv.keep K510 sf0 Ht
        have Ot_512 := Ot.keep K510 all0
        have Es_513 := Es.keep K510
        have Fvs_514 := Fvs.keep K510 nin0
        have Fcs_515 := Fcs.keep K510 nin0
        have Vs_516 := Vs.keep K510 nin0
        have Z_517 := Nat.le_trans Zt K510.1
        refine Owe.astore X510.here hx (hb hby at_281) rfl rfl (l' := #[.val (.int p1), .val (.int p2), .val (.int p3), .val (.int p4), .val (.long q5), .second, .val (.ref b6), .val (.int n7), .val (.int m8), .val (.ref xs), .val (.ref em), .unset, .unset]) rfl ?_
        refine Owe.aload X510.here hx (hb hby at_283) rfl rfl ?_
        refine Owe.ldcV X510 hx hZt hSt (own_ew hw) H511 (by decide) hownt (hw _ (List.mem_of_getElem? (i := 2) rfl)) (own_wS hw) rfl hk511 (vs := ((([114, 101, 97, 100] : List Int32).map (fun c => c.toInt8.toInt32)).map Value.int)) (z := (4 : Int32)) (by decide) (by decide) rfl (hb hby at_285) (n := 16) (by decide) (by decide) (by decide) (by decide) fun l518 T518 h518 k518 lb518 lk518 X518 e518 E518 hS518 hk518 hZ518 hown518 Ex518 Fc518 Fv518 Vb518 hC518 Lt518 nsf518 => ?_
        have hk519 := Nat.le_trans hk511 E518.1
        have Ot_520 := Ot_512.ext E518
        have Es_521 := Es_513.ext E518
        have Fvs_522 := Fvs_514.ext E518
        have Fcs_523 := Fcs_515.ext E518
        have Vs_524 := Vs_516.ext E518
        have Z_525 := Nat.le_trans Z_517 E518.1
        have Rr518 := Rr511.trans hC518
        have H518 := hC518.1
        have Tx518 : (∀ c ∈ ([114, 101, 97, 100] : List Int32), ¬ c < 0 ∧ ¬ (255 : Int32) < c) ∧ ([114, 101, 97, 100] : List Int32).length ≤ 4000 := ⟨by decide, Nat.le_of_ble_eq_true rfl⟩
        have hcd526 : StrChars.Road.CodA cs 0 (Int32.ofNat cs.length) ((cs.map (fun c => c.toInt8.toInt32)).map Value.int) := StrChars.Road.codOf (n := cs.length) rfl (fun x hx => (Txs.1 x hx).2)
        have hbd526 := up cs Txs.1
        have hcd527 : StrChars.Road.CodA ([114, 101, 97, 100] : List Int32) 0 (4 : Int32) ((([114, 101, 97, 100] : List Int32).map (fun c => c.toInt8.toInt32)).map Value.int) := StrChars.Road.codOf (n := 4) rfl (fun x hx => (Tx518.1 x hx).2)
        have hbd527 := up ([114, 101, 97, 100] : List Int32) Tx518.1
        refine Owe.virt X518 hx hZ518 (y := (⟨"java/lang/String", "equals", "(Ljava/lang/Object;)Z"⟩ : MethodName)) (z := (⟨"java/lang/String", "equals", "(Ljava/lang/Object;)Z"⟩ : MethodName)) (Q := fun v h' L => ((v = some (.int 1) ∧ cs = ([114, 101, 97, 100] : List Int32)) ∨ (v = some (.int 0) ∧ ¬ cs = ([114, 101, 97, 100] : List Int32))) ∧ L = [] ∧ h' = h518) (kc := 0) (ks := 0) hown518 (mvT hZ518 (hw _ (List.mem_of_getElem? (i := 119) rfl))) (mvT hZ518 (hw _ (List.mem_of_getElem? (i := 94) rfl))) (mvT hZ518 (hw _ (List.mem_of_getElem? (i := 96) rfl))) (mvT hZ518 (hw _ (List.mem_of_getElem? (i := 95) rfl))) (notFace_of_selects (args := #[]) (mvT hZ518 (hw _ (List.mem_of_getElem? (i := 96) rfl)))) (by decide) (StrChars.Road.eqW (W := 0) hZ518 (own_heq hw) (kI := 4) (hw _ (List.mem_of_getElem? (i := 4) rfl)) Es_521 Fvs_522 Fcs_523 Vs_524 hcd526 hbd526 Txs.2 Ex518 Fv518 Fc518 Vb518 hcd527 hbd527 Tx518.2 (S_COMPACT_STRINGS.ext Ot_520.2) cs0 (by decide) (by decide)) (by rw [hml]; rfl) (a := xs) (argsL := [(.ref l518)]) (rest := []) Es_521 (lenOf pd_4 rfl) rfl (Nat.le_of_ble_eq_true rfl) (hb hby at_287) rfl e518 (by decide) (by decide) fun T528 v528 L528 X528 hQ528 => ?_
        obtain ⟨hv528, rfl, e528⟩ := hQ528
        obtain rfl : v528 = some (.int (0 : Int32)) := by
          rcases hv528 with q | q
          · exact absurd q.2 hr
          · exact q.1
        have N528 := Fr.app N510 (Fr.nil n0)
        refine Owe.ifYes X528.here hx (hb hby at_290) rfl ((if0 _ _).trans (teq (by decide)).1) (pc' := 318) (by decide) (by decide) ?_
        refine Owe.aload X528.here hx (hb hby at_318) rfl rfl ?_
        refine Owe.ldcV X528 hx hZ518 hS518 (own_ew hw) H518 (by decide) hown518 (hw _ (List.mem_of_getElem? (i := 136) rfl)) (own_wS hw) e528 hk518 (vs := ((([119, 114, 105, 116, 101] : List Int32).map (fun c => c.toInt8.toInt32)).map Value.int)) (z := (5 : Int32)) (by decide) (by decide) rfl (hb hby at_320) (n := 20) (by decide) (by decide) (by decide) (by decide) fun l529 T529 h529 k529 lb529 lk529 X529 e529 E529 hS529 hk529 hZ529 hown529 Ex529 Fc529 Fv529 Vb529 hC529 Lt529 nsf529 => ?_
        have hk530 := Nat.le_trans hk518 E529.1
        have Ot_531 := Ot_520.ext E529
        have Es_532 := Es_521.ext E529
        have Fvs_533 := Fvs_522.ext E529
        have Fcs_534 := Fcs_523.ext E529
        have Vs_535 := Vs_524.ext E529
        have Ex518_536 := Ex518.ext E529
        have Fc518_537 := Fc518.ext E529
        have Fv518_538 := Fv518.ext E529
        have Vb518_539 := Vb518.ext E529
        have Z_540 := Nat.le_trans Z_525 E529.1
        have Rr529 := Rr518.trans hC529
        have H529 := hC529.1
        have Tx529 : (∀ c ∈ ([119, 114, 105, 116, 101] : List Int32), ¬ c < 0 ∧ ¬ (255 : Int32) < c) ∧ ([119, 114, 105, 116, 101] : List Int32).length ≤ 4000 := ⟨by decide, Nat.le_of_ble_eq_true rfl⟩
        have hcd541 : StrChars.Road.CodA cs 0 (Int32.ofNat cs.length) ((cs.map (fun c => c.toInt8.toInt32)).map Value.int) := StrChars.Road.codOf (n := cs.length) rfl (fun x hx => (Txs.1 x hx).2)
        have hbd541 := up cs Txs.1
        have hcd542 : StrChars.Road.CodA ([119, 114, 105, 116, 101] : List Int32) 0 (5 : Int32) ((([119, 114, 105, 116, 101] : List Int32).map (fun c => c.toInt8.toInt32)).map Value.int) := StrChars.Road.codOf (n := 5) rfl (fun x hx => (Tx529.1 x hx).2)
        have hbd542 := up ([119, 114, 105, 116, 101] : List Int32) Tx529.1
        refine Owe.virt X529 hx hZ529 (y := (⟨"java/lang/String", "equals", "(Ljava/lang/Object;)Z"⟩ : MethodName)) (z := (⟨"java/lang/String", "equals", "(Ljava/lang/Object;)Z"⟩ : MethodName)) (Q := fun v h' L => ((v = some (.int 1) ∧ cs = ([119, 114, 105, 116, 101] : List Int32)) ∨ (v = some (.int 0) ∧ ¬ cs = ([119, 114, 105, 116, 101] : List Int32))) ∧ L = [] ∧ h' = h529) (kc := 0) (ks := 0) hown529 (mvT hZ529 (hw _ (List.mem_of_getElem? (i := 119) rfl))) (mvT hZ529 (hw _ (List.mem_of_getElem? (i := 94) rfl))) (mvT hZ529 (hw _ (List.mem_of_getElem? (i := 96) rfl))) (mvT hZ529 (hw _ (List.mem_of_getElem? (i := 95) rfl))) (notFace_of_selects (args := #[]) (mvT hZ529 (hw _ (List.mem_of_getElem? (i := 96) rfl)))) (by decide) (StrChars.Road.eqW (W := 0) hZ529 (own_heq hw) (kI := 4) (hw _ (List.mem_of_getElem? (i := 4) rfl)) Es_532 Fvs_533 Fcs_534 Vs_535 hcd541 hbd541 Txs.2 Ex529 Fv529 Fc529 Vb529 hcd542 hbd542 Tx529.2 (S_COMPACT_STRINGS.ext Ot_531.2) cs0 (by decide) (by decide)) (by rw [hml]; rfl) (a := xs) (argsL := [(.ref l529)]) (rest := []) Es_532 (lenOf pd_4 rfl) rfl (Nat.le_of_ble_eq_true rfl) (hb hby at_322) rfl e529 (by decide) (by decide) fun T543 v543 L543 X543 hQ543 => ?_
        obtain ⟨hv543, rfl, e543⟩ := hQ543
        obtain rfl : v543 = some (.int (0 : Int32)) := by
          rcases hv543 with q | q
          · exact absurd q.2 hwr
          · exact q.1
        have N543 := Fr.app N528 (Fr.nil n0)
        refine Owe.ifYes X543.here hx (hb hby at_325) rfl ((if0 _ _).trans (teq (by decide)).1) (pc' := 353) (by decide) (by decide) ?_
        refine Owe.aload X543.here hx (hb hby at_353) rfl rfl ?_
        refine Owe.virt X543 hx hZ529 (y := (⟨"java/util/Optional", "isPresent", "()Z"⟩ : MethodName)) (z := (⟨"java/util/Optional", "isPresent", "()Z"⟩ : MethodName)) hown529 (mvT hZ529 (hw _ (List.mem_of_getElem? (i := 120) rfl))) (mvT hZ529 (hw _ (List.mem_of_getElem? (i := 121) rfl))) (mvT hZ529 (hw _ (List.mem_of_getElem? (i := 123) rfl))) (mvT hZ529 (hw _ (List.mem_of_getElem? (i := 122) rfl))) (notFace_of_selects (args := #[]) (mvT hZ529 (hw _ (List.mem_of_getElem? (i := 123) rfl)))) (by decide) (backOf (W := 0) (rmipn l Z a0 hw [] em h529 n0 Z_540 (Fvalue_em.ext Ot_531.2)) hZ529 (hw _ (List.mem_of_getElem? (i := 124) rfl)) (hw _ (List.mem_of_getElem? (i := 104) rfl)) (by decide) (by decide)) (by rw [hml]; rfl) (a := em) (argsL := []) (rest := []) (E_em.ext Ot_531.2) (lenOf pd_9 rfl) rfl (Nat.le_of_ble_eq_true rfl) (hb hby at_355) rfl e543 (by decide) (by decide) fun T544 v544 L544 X544 hQ544 => ?_
        obtain ⟨rfl, Nq544, e544⟩ := hQ544
        have N544 := Fr.app N543 Nq544
        refine Owe.ifNo X544.here hx (hb hby at_358) rfl ((if0 _ _).trans (teq (by decide)).2) ?_
        refine Owe.iconst X544.here hx (hb hby at_361) (w := (1 : Int32)) rfl ?_
        refine Owe.goto X544.here hx (hb hby at_362) (pc' := 366) (by decide) (by decide) ?_
        refine Owe.retNW X544 hx hS529 e544 hk529 hlk (t := .boolean) Bd.returns (by simp) (hb hby at_366) rfl fun fs hE => ?_
        rw [hG]
        refine ⟨_, _, rfl, ?_, ?_, coldMono hE (by decide) (by decide)⟩
        rotate_left
        · rw [hh]
          show CHr Z own_EL s.vm h0 T544.vm T544.heap
          rw [e544]
          exact Rr529.trans (CHv.at X544 hZ529 (own_ew hw) H529)
        show Q0 Z p1 p2 p3 p4 q5 fm G1 va rd wt rdw rdwv wtw wtwv k_va k_rdwv k_wtwv em h0 n0 _ T544.heap _
        rw [e544]
        exact ⟨rfl, N544⟩
  have cut274_b : ∀ (Tt : State) (ht : Heap) (vmt : Vm) (kt : Nat) (locst : List Loc) (xs ts : Addr) (ks : ClassId) (cs : List Int32) (b6 : Addr) (n7 m8 : Int32) (w9 : Addr) (l10 u11 c12 : Int32), Stand p l e room_1 (s.setVm vmt) m #[(.int p1), (.int p2), (.int p3), (.int p4), (.long q5)] below meth c Tt locst 14 120 → Tt.heap = ht → s.Since vmt kt → kt ≤ ht.size → Z.Warmed39 (s.setVm vmt).vm → (s.setVm vmt).vm.findClass "com/example/wade/wade/monitor/AccessGoverningPinLaw" = some m.cls → Fr n0 locst → n0 ≤ ht.size → Old Z n0 ht → CHv Z own_EL vmt ht → CHr Z own_EL s.vm h0 vmt ht → (Exa Z ht xs "java/lang/String") → (Fld Z ht xs "java/lang/String" "value" "[B" (.ref ts)) → (Fld Z ht xs "java/lang/String" "coder" "B" (.int (0 : Int32))) → (Arv Z ht ts ks .byte (Int32.ofNat cs.length) ((cs.map (fun c => c.toInt8.toInt32)).map Value.int) (.int (0 : Int32))) → ((∀ c ∈ cs, ¬ c < 0 ∧ ¬ (255 : Int32) < c) ∧ cs.length ≤ 4000) → Owe p.tables e below G Tt (mkF m 274 #[.val (.int p1), .val (.int p2), .val (.int p3), .val (.int p4), .val (.long q5), .second, .val (.ref b6), .val (.int n7), .val (.int m8), .val (.ref w9), .val (.int l10), .val (.int u11), .val (.int c12)] [(.ref xs)]) := by
    intro Tt ht vmt kt locst xs ts ks cs b6 n7 m8 w9 l10 u11 c12 Xt et hSt hkt hZt hownt Nt Zt Ot Ht Rt Es Fvs Fcs Vs Txs
    by_cases hr : cs = ([114, 101, 97, 100] : List Int32)
    · have hw2 : ¬ cs = ([119, 114, 105, 116, 101] : List Int32) := by rw [hr]; decide
      refine Owe.astore Xt.here hx (hb hby at_274) rfl rfl (l' := #[.val (.int p1), .val (.int p2), .val (.int p3), .val (.int p4), .val (.long q5), .second, .val (.ref b6), .val (.int n7), .val (.int m8), .val (.ref xs), .val (.int l10), .val (.int u11), .val (.int c12)]) rfl ?_
      refine Owe.aload Xt.here hx (hb hby at_276) rfl rfl ?_
      refine Owe.stat Xt hx (y := (⟨"com/example/wade/wade/monitor/Access", "governing", "(Ljava/lang/String;)Ljava/util/Optional;"⟩ : MethodName)) hownt (mvT hZt (hw _ (List.mem_of_getElem? (i := 70) rfl))) (mvT hZt (hw _ (List.mem_of_getElem? (i := 71) rfl))) (mvT hZt (hw _ (List.mem_of_getElem? (i := 72) rfl))) (mvT hZt (hw _ (List.mem_of_getElem? (i := 73) rfl))) (by decide) (backOf (W := 0) (rmgvr l Z a0 hw [] xs ts ks cs G1 va rd wt rdw rdwv wtw wtwv k_va k_rdwv k_wtwv em ht n0 Zt Es Fvs Fcs Vs Txs S_COMPACT_STRINGS cs0 Ot S__VALUES E_va S_READ E_rd S_WRITE E_wt Fword_rd E_rdw Fcoder_rdw Fvalue_rdw Fword_wt E_wtw Fcoder_wtw Fvalue_wtw V_va V_rdwv V_wtwv Tx_rdw Tx_wtw S_EMPTY E_em Fvalue_em hr) hZt (hw _ (List.mem_of_getElem? (i := 73) rfl)) (hw _ (List.mem_of_getElem? (i := 72) rfl)) (by decide) (by decide)) (by rw [hml]; rfl) (argsL := [(.ref xs)]) (rest := []) (lenOf pd_8 rfl) rfl (Nat.le_of_ble_eq_true rfl) (hb hby at_278) rfl et (by decide) (by decide) fun T545 v545 L545 X545 hQ545 => ?_
      obtain ⟨x1_545, rfl, Nq545, K545, ge_x1_545, fresh_x1_545, E_x1_545, Fvalue_x1_545⟩ := hQ545
      have N545 := Fr.app Nt Nq545
      have hk546 := Nat.le_trans hkt K545.1
      have Rr546 := Rt.trans (CHr.keep K545 sf0 Ht)
      have H546 := CHv.keep K545 sf0 Ht
      have Ot_547 := Ot.keep K545 all0
      have Es_548 := Es.keep K545
      have Fvs_549 := Fvs.keep K545 nin0
      have Fcs_550 := Fcs.keep K545 nin0
      have Vs_551 := Vs.keep K545 nin0
      have Z_552 := Nat.le_trans Zt K545.1
      have ne_xs_x1_545 : xs ≠ x1_545 := Nat.ne_of_lt (Nat.lt_of_lt_of_le Es.lt fresh_x1_545)
      have ne_ts_x1_545 : ts ≠ x1_545 := Nat.ne_of_lt (Nat.lt_of_lt_of_le Vs.lt fresh_x1_545)
      refine Owe.astore X545.here hx (hb hby at_281) rfl rfl (l' := #[.val (.int p1), .val (.int p2), .val (.int p3), .val (.int p4), .val (.long q5), .second, .val (.ref b6), .val (.int n7), .val (.int m8), .val (.ref xs), .val (.ref x1_545), .val (.int u11), .val (.int c12)]) rfl ?_
      refine Owe.aload X545.here hx (hb hby at_283) rfl rfl ?_
      refine Owe.ldcV X545 hx hZt hSt (own_ew hw) H546 (by decide) hownt (hw _ (List.mem_of_getElem? (i := 2) rfl)) (own_wS hw) rfl hk546 (vs := ((([114, 101, 97, 100] : List Int32).map (fun c => c.toInt8.toInt32)).map Value.int)) (z := (4 : Int32)) (by decide) (by decide) rfl (hb hby at_285) (n := 16) (by decide) (by decide) (by decide) (by decide) fun l553 T553 h553 k553 lb553 lk553 X553 e553 E553 hS553 hk553 hZ553 hown553 Ex553 Fc553 Fv553 Vb553 hC553 Lt553 nsf553 => ?_
      have hk554 := Nat.le_trans hk546 E553.1
      have Ot_555 := Ot_547.ext E553
      have Es_556 := Es_548.ext E553
      have Fvs_557 := Fvs_549.ext E553
      have Fcs_558 := Fcs_550.ext E553
      have Vs_559 := Vs_551.ext E553
      have E_x1_560 := E_x1_545.ext E553
      have Fvalue_x1_561 := Fvalue_x1_545.ext E553
      have Z_562 := Nat.le_trans Z_552 E553.1
      have Rr553 := Rr546.trans hC553
      have H553 := hC553.1
      have Tx553 : (∀ c ∈ ([114, 101, 97, 100] : List Int32), ¬ c < 0 ∧ ¬ (255 : Int32) < c) ∧ ([114, 101, 97, 100] : List Int32).length ≤ 4000 := ⟨by decide, Nat.le_of_ble_eq_true rfl⟩
      have hcd563 : StrChars.Road.CodA cs 0 (Int32.ofNat cs.length) ((cs.map (fun c => c.toInt8.toInt32)).map Value.int) := StrChars.Road.codOf (n := cs.length) rfl (fun x hx => (Txs.1 x hx).2)
      have hbd563 := up cs Txs.1
      have hcd564 : StrChars.Road.CodA ([114, 101, 97, 100] : List Int32) 0 (4 : Int32) ((([114, 101, 97, 100] : List Int32).map (fun c => c.toInt8.toInt32)).map Value.int) := StrChars.Road.codOf (n := 4) rfl (fun x hx => (Tx553.1 x hx).2)
      have hbd564 := up ([114, 101, 97, 100] : List Int32) Tx553.1
      refine Owe.virt X553 hx hZ553 (y := (⟨"java/lang/String", "equals", "(Ljava/lang/Object;)Z"⟩ : MethodName)) (z := (⟨"java/lang/String", "equals", "(Ljava/lang/Object;)Z"⟩ : MethodName)) (Q := fun v h' L => ((v = some (.int 1) ∧ cs = ([114, 101, 97, 100] : List Int32)) ∨ (v = some (.int 0) ∧ ¬ cs = ([114, 101, 97, 100] : List Int32))) ∧ L = [] ∧ h' = h553) (kc := 0) (ks := 0) hown553 (mvT hZ553 (hw _ (List.mem_of_getElem? (i := 119) rfl))) (mvT hZ553 (hw _ (List.mem_of_getElem? (i := 94) rfl))) (mvT hZ553 (hw _ (List.mem_of_getElem? (i := 96) rfl))) (mvT hZ553 (hw _ (List.mem_of_getElem? (i := 95) rfl))) (notFace_of_selects (args := #[]) (mvT hZ553 (hw _ (List.mem_of_getElem? (i := 96) rfl)))) (by decide) (StrChars.Road.eqW (W := 0) hZ553 (own_heq hw) (kI := 4) (hw _ (List.mem_of_getElem? (i := 4) rfl)) Es_556 Fvs_557 Fcs_558 Vs_559 hcd563 hbd563 Txs.2 Ex553 Fv553 Fc553 Vb553 hcd564 hbd564 Tx553.2 (S_COMPACT_STRINGS.ext Ot_555.2) cs0 (by decide) (by decide)) (by rw [hml]; rfl) (a := xs) (argsL := [(.ref l553)]) (rest := []) Es_556 (lenOf pd_4 rfl) rfl (Nat.le_of_ble_eq_true rfl) (hb hby at_287) rfl e553 (by decide) (by decide) fun T565 v565 L565 X565 hQ565 => ?_
      obtain ⟨hv565, rfl, e565⟩ := hQ565
      obtain rfl : v565 = some (.int (1 : Int32)) := by
        rcases hv565 with q | q
        · exact q.1
        · exact absurd hr q.2
      have N565 := Fr.app N545 (Fr.nil n0)
      refine Owe.ifNo X565.here hx (hb hby at_290) rfl ((if0 _ _).trans (feq (by decide)).1) ?_
      refine Owe.aload X565.here hx (hb hby at_293) rfl rfl ?_
      refine Owe.virt X565 hx hZ553 (y := (⟨"java/util/Optional", "isPresent", "()Z"⟩ : MethodName)) (z := (⟨"java/util/Optional", "isPresent", "()Z"⟩ : MethodName)) hown553 (mvT hZ553 (hw _ (List.mem_of_getElem? (i := 120) rfl))) (mvT hZ553 (hw _ (List.mem_of_getElem? (i := 121) rfl))) (mvT hZ553 (hw _ (List.mem_of_getElem? (i := 123) rfl))) (mvT hZ553 (hw _ (List.mem_of_getElem? (i := 122) rfl))) (notFace_of_selects (args := #[]) (mvT hZ553 (hw _ (List.mem_of_getElem? (i := 123) rfl)))) (by decide) (backOf (W := 0) (rmipy l Z a0 hw [] x1_545 rd h553 n0 Z_562 Fvalue_x1_561) hZ553 (hw _ (List.mem_of_getElem? (i := 124) rfl)) (hw _ (List.mem_of_getElem? (i := 104) rfl)) (by decide) (by decide)) (by rw [hml]; rfl) (a := x1_545) (argsL := []) (rest := []) E_x1_560 (lenOf pd_9 rfl) rfl (Nat.le_of_ble_eq_true rfl) (hb hby at_295) rfl e565 (by decide) (by decide) fun T566 v566 L566 X566 hQ566 => ?_
      obtain ⟨rfl, Nq566, e566⟩ := hQ566
      have N566 := Fr.app N565 Nq566
      refine Owe.ifNo X566.here hx (hb hby at_298) rfl ((if0 _ _).trans (feq (by decide)).1) ?_
      refine Owe.aload X566.here hx (hb hby at_301) rfl rfl ?_
      refine Owe.virt X566 hx hZ553 (y := (⟨"java/util/Optional", "get", "()Ljava/lang/Object;"⟩ : MethodName)) (z := (⟨"java/util/Optional", "get", "()Ljava/lang/Object;"⟩ : MethodName)) hown553 (mvT hZ553 (hw _ (List.mem_of_getElem? (i := 125) rfl))) (mvT hZ553 (hw _ (List.mem_of_getElem? (i := 126) rfl))) (mvT hZ553 (hw _ (List.mem_of_getElem? (i := 128) rfl))) (mvT hZ553 (hw _ (List.mem_of_getElem? (i := 127) rfl))) (notFace_of_selects (args := #[]) (mvT hZ553 (hw _ (List.mem_of_getElem? (i := 128) rfl)))) (by decide) (backOf (W := 0) (rmopg l Z a0 hw [] x1_545 rd h553 n0 Z_562 Fvalue_x1_561) hZ553 (hw _ (List.mem_of_getElem? (i := 129) rfl)) (hw _ (List.mem_of_getElem? (i := 104) rfl)) (by decide) (by decide)) (by rw [hml]; rfl) (a := x1_545) (argsL := []) (rest := []) E_x1_560 (lenOf pd_10 rfl) rfl (Nat.le_of_ble_eq_true rfl) (hb hby at_303) rfl e566 (by decide) (by decide) fun T567 v567 L567 X567 hQ567 => ?_
      obtain ⟨rfl, Nq567, e567⟩ := hQ567
      have N567 := Fr.app N566 Nq567
      refine Owe.gets X567 hx hZ553 hown553 (hw _ (List.mem_of_getElem? (i := 130) rfl)) Via.refl e567 (S_READ.ext Ot_555.2) (hb hby at_306) fun T568 X568 e568 => ?_
      refine Owe.acmpNo X568.here hx (hb hby at_309) rfl rfl rfl (by simp [Jvm.Free.XT.acmp]) ?_
      refine Owe.iconst X568.here hx (hb hby at_312) (w := (1 : Int32)) rfl ?_
      refine Owe.goto X568.here hx (hb hby at_313) (pc' := 317) (by decide) (by decide) ?_
      refine Owe.retNW X568 hx hS553 e568 hk553 hlk (t := .boolean) Bd.returns (by simp) (hb hby at_317) rfl fun fs hE => ?_
      rw [hG]
      refine ⟨_, _, rfl, ?_, ?_, coldMono hE (by decide) (by decide)⟩
      rotate_left
      · rw [hh]
        show CHr Z own_EL s.vm h0 T568.vm T568.heap
        rw [e568]
        exact Rr553.trans (CHv.at X568 hZ553 (own_ew hw) H553)
      show Q0 Z p1 p2 p3 p4 q5 fm G1 va rd wt rdw rdwv wtw wtwv k_va k_rdwv k_wtwv em h0 n0 _ T568.heap _
      rw [e568]
      exact ⟨rfl, N567⟩
    · by_cases hwr : cs = ([119, 114, 105, 116, 101] : List Int32)
      · skip
        refine Owe.astore Xt.here hx (hb hby at_274) rfl rfl (l' := #[.val (.int p1), .val (.int p2), .val (.int p3), .val (.int p4), .val (.long q5), .second, .val (.ref b6), .val (.int n7), .val (.int m8), .val (.ref xs), .val (.int l10), .val (.int u11), .val (.int c12)]) rfl ?_
        refine Owe.aload Xt.here hx (hb hby at_276) rfl rfl ?_
        refine Owe.stat Xt hx (y := (⟨"com/example/wade/wade/monitor/Access", "governing", "(Ljava/lang/String;)Ljava/util/Optional;"⟩ : MethodName)) hownt (mvT hZt (hw _ (List.mem_of_getElem? (i := 70) rfl))) (mvT hZt (hw _ (List.mem_of_getElem? (i := 71) rfl))) (mvT hZt (hw _ (List.mem_of_getElem? (i := 72) rfl))) (mvT hZt (hw _ (List.mem_of_getElem? (i := 73) rfl))) (by decide) (backOf (W := 0) (rmgvw l Z a0 hw [] xs ts ks cs G1 va rd wt rdw rdwv wtw wtwv k_va k_rdwv k_wtwv em ht n0 Zt Es Fvs Fcs Vs Txs S_COMPACT_STRINGS cs0 Ot S__VALUES E_va S_READ E_rd S_WRITE E_wt Fword_rd E_rdw Fcoder_rdw Fvalue_rdw Fword_wt E_wtw Fcoder_wtw Fvalue_wtw V_va V_rdwv V_wtwv Tx_rdw Tx_wtw S_EMPTY E_em Fvalue_em hr hwr) hZt (hw _ (List.mem_of_getElem? (i := 73) rfl)) (hw _ (List.mem_of_getElem? (i := 72) rfl)) (by decide) (by decide)) (by rw [hml]; rfl) (argsL := [(.ref xs)]) (rest := []) (lenOf pd_8 rfl) rfl (Nat.le_of_ble_eq_true rfl) (hb hby at_278) rfl et (by decide) (by decide) fun T569 v569 L569 X569 hQ569 => ?_
        obtain ⟨x1_569, rfl, Nq569, K569, ge_x1_569, fresh_x1_569, E_x1_569, Fvalue_x1_569⟩ := hQ569
        have N569 := Fr.app Nt Nq569
        have hk570 := Nat.le_trans hkt K569.1
        have Rr570 := Rt.trans (CHr.keep K569 sf0 Ht)
        have H570 := CHv.keep K569 sf0 Ht
        have Ot_571 := Ot.keep K569 all0
        have Es_572 := Es.keep K569
        have Fvs_573 := Fvs.keep K569 nin0
        have Fcs_574 := Fcs.keep K569 nin0
        have Vs_575 := Vs.keep K569 nin0
        have Z_576 := Nat.le_trans Zt K569.1
        have ne_xs_x1_569 : xs ≠ x1_569 := Nat.ne_of_lt (Nat.lt_of_lt_of_le Es.lt fresh_x1_569)
        have ne_ts_x1_569 : ts ≠ x1_569 := Nat.ne_of_lt (Nat.lt_of_lt_of_le Vs.lt fresh_x1_569)
        refine Owe.astore X569.here hx (hb hby at_281) rfl rfl (l' := #[.val (.int p1), .val (.int p2), .val (.int p3), .val (.int p4), .val (.long q5), .second, .val (.ref b6), .val (.int n7), .val (.int m8), .val (.ref xs), .val (.ref x1_569), .val (.int u11), .val (.int c12)]) rfl ?_
        refine Owe.aload X569.here hx (hb hby at_283) rfl rfl ?_
        refine Owe.ldcV X569 hx hZt hSt (own_ew hw) H570 (by decide) hownt (hw _ (List.mem_of_getElem? (i := 2) rfl)) (own_wS hw) rfl hk570 (vs := ((([114, 101, 97, 100] : List Int32).map (fun c => c.toInt8.toInt32)).map Value.int)) (z := (4 : Int32)) (by decide) (by decide) rfl (hb hby at_285) (n := 16) (by decide) (by decide) (by decide) (by decide) fun l577 T577 h577 k577 lb577 lk577 X577 e577 E577 hS577 hk577 hZ577 hown577 Ex577 Fc577 Fv577 Vb577 hC577 Lt577 nsf577 => ?_
        have hk578 := Nat.le_trans hk570 E577.1
        have Ot_579 := Ot_571.ext E577
        have Es_580 := Es_572.ext E577
        have Fvs_581 := Fvs_573.ext E577
        have Fcs_582 := Fcs_574.ext E577
        have Vs_583 := Vs_575.ext E577
        have E_x1_584 := E_x1_569.ext E577
        have Fvalue_x1_585 := Fvalue_x1_569.ext E577
        have Z_586 := Nat.le_trans Z_576 E577.1
        have Rr577 := Rr570.trans hC577
        have H577 := hC577.1
        have Tx577 : (∀ c ∈ ([114, 101, 97, 100] : List Int32), ¬ c < 0 ∧ ¬ (255 : Int32) < c) ∧ ([114, 101, 97, 100] : List Int32).length ≤ 4000 := ⟨by decide, Nat.le_of_ble_eq_true rfl⟩
        have hcd587 : StrChars.Road.CodA cs 0 (Int32.ofNat cs.length) ((cs.map (fun c => c.toInt8.toInt32)).map Value.int) := StrChars.Road.codOf (n := cs.length) rfl (fun x hx => (Txs.1 x hx).2)
        have hbd587 := up cs Txs.1
        have hcd588 : StrChars.Road.CodA ([114, 101, 97, 100] : List Int32) 0 (4 : Int32) ((([114, 101, 97, 100] : List Int32).map (fun c => c.toInt8.toInt32)).map Value.int) := StrChars.Road.codOf (n := 4) rfl (fun x hx => (Tx577.1 x hx).2)
        have hbd588 := up ([114, 101, 97, 100] : List Int32) Tx577.1
        refine Owe.virt X577 hx hZ577 (y := (⟨"java/lang/String", "equals", "(Ljava/lang/Object;)Z"⟩ : MethodName)) (z := (⟨"java/lang/String", "equals", "(Ljava/lang/Object;)Z"⟩ : MethodName)) (Q := fun v h' L => ((v = some (.int 1) ∧ cs = ([114, 101, 97, 100] : List Int32)) ∨ (v = some (.int 0) ∧ ¬ cs = ([114, 101, 97, 100] : List Int32))) ∧ L = [] ∧ h' = h577) (kc := 0) (ks := 0) hown577 (mvT hZ577 (hw _ (List.mem_of_getElem? (i := 119) rfl))) (mvT hZ577 (hw _ (List.mem_of_getElem? (i := 94) rfl))) (mvT hZ577 (hw _ (List.mem_of_getElem? (i := 96) rfl))) (mvT hZ577 (hw _ (List.mem_of_getElem? (i := 95) rfl))) (notFace_of_selects (args := #[]) (mvT hZ577 (hw _ (List.mem_of_getElem? (i := 96) rfl)))) (by decide) (StrChars.Road.eqW (W := 0) hZ577 (own_heq hw) (kI := 4) (hw _ (List.mem_of_getElem? (i := 4) rfl)) Es_580 Fvs_581 Fcs_582 Vs_583 hcd587 hbd587 Txs.2 Ex577 Fv577 Fc577 Vb577 hcd588 hbd588 Tx577.2 (S_COMPACT_STRINGS.ext Ot_579.2) cs0 (by decide) (by decide)) (by rw [hml]; rfl) (a := xs) (argsL := [(.ref l577)]) (rest := []) Es_580 (lenOf pd_4 rfl) rfl (Nat.le_of_ble_eq_true rfl) (hb hby at_287) rfl e577 (by decide) (by decide) fun T589 v589 L589 X589 hQ589 => ?_
        obtain ⟨hv589, rfl, e589⟩ := hQ589
        obtain rfl : v589 = some (.int (0 : Int32)) := by
          rcases hv589 with q | q
          · exact absurd q.2 hr
          · exact q.1
        have N589 := Fr.app N569 (Fr.nil n0)
        refine Owe.ifYes X589.here hx (hb hby at_290) rfl ((if0 _ _).trans (teq (by decide)).1) (pc' := 318) (by decide) (by decide) ?_
        refine Owe.aload X589.here hx (hb hby at_318) rfl rfl ?_
        refine Owe.ldcV X589 hx hZ577 hS577 (own_ew hw) H577 (by decide) hown577 (hw _ (List.mem_of_getElem? (i := 136) rfl)) (own_wS hw) e589 hk577 (vs := ((([119, 114, 105, 116, 101] : List Int32).map (fun c => c.toInt8.toInt32)).map Value.int)) (z := (5 : Int32)) (by decide) (by decide) rfl (hb hby at_320) (n := 20) (by decide) (by decide) (by decide) (by decide) fun l590 T590 h590 k590 lb590 lk590 X590 e590 E590 hS590 hk590 hZ590 hown590 Ex590 Fc590 Fv590 Vb590 hC590 Lt590 nsf590 => ?_
        have hk591 := Nat.le_trans hk577 E590.1
        have Ot_592 := Ot_579.ext E590
        have Es_593 := Es_580.ext E590
        have Fvs_594 := Fvs_581.ext E590
        have Fcs_595 := Fcs_582.ext E590
        have Vs_596 := Vs_583.ext E590
        have E_x1_597 := E_x1_584.ext E590
        have Fvalue_x1_598 := Fvalue_x1_585.ext E590
        have Ex577_599 := Ex577.ext E590
        have Fc577_600 := Fc577.ext E590
        have Fv577_601 := Fv577.ext E590
        have Vb577_602 := Vb577.ext E590
        have Z_603 := Nat.le_trans Z_586 E590.1
        have Rr590 := Rr577.trans hC590
        have H590 := hC590.1
        have Tx590 : (∀ c ∈ ([119, 114, 105, 116, 101] : List Int32), ¬ c < 0 ∧ ¬ (255 : Int32) < c) ∧ ([119, 114, 105, 116, 101] : List Int32).length ≤ 4000 := ⟨by decide, Nat.le_of_ble_eq_true rfl⟩
        have hcd604 : StrChars.Road.CodA cs 0 (Int32.ofNat cs.length) ((cs.map (fun c => c.toInt8.toInt32)).map Value.int) := StrChars.Road.codOf (n := cs.length) rfl (fun x hx => (Txs.1 x hx).2)
        have hbd604 := up cs Txs.1
        have hcd605 : StrChars.Road.CodA ([119, 114, 105, 116, 101] : List Int32) 0 (5 : Int32) ((([119, 114, 105, 116, 101] : List Int32).map (fun c => c.toInt8.toInt32)).map Value.int) := StrChars.Road.codOf (n := 5) rfl (fun x hx => (Tx590.1 x hx).2)
        have hbd605 := up ([119, 114, 105, 116, 101] : List Int32) Tx590.1
        refine Owe.virt X590 hx hZ590 (y := (⟨"java/lang/String", "equals", "(Ljava/lang/Object;)Z"⟩ : MethodName)) (z := (⟨"java/lang/String", "equals", "(Ljava/lang/Object;)Z"⟩ : MethodName)) (Q := fun v h' L => ((v = some (.int 1) ∧ cs = ([119, 114, 105, 116, 101] : List Int32)) ∨ (v = some (.int 0) ∧ ¬ cs = ([119, 114, 105, 116, 101] : List Int32))) ∧ L = [] ∧ h' = h590) (kc := 0) (ks := 0) hown590 (mvT hZ590 (hw _ (List.mem_of_getElem? (i := 119) rfl))) (mvT hZ590 (hw _ (List.mem_of_getElem? (i := 94) rfl))) (mvT hZ590 (hw _ (List.mem_of_getElem? (i := 96) rfl))) (mvT hZ590 (hw _ (List.mem_of_getElem? (i := 95) rfl))) (notFace_of_selects (args := #[]) (mvT hZ590 (hw _ (List.mem_of_getElem? (i := 96) rfl)))) (by decide) (StrChars.Road.eqW (W := 0) hZ590 (own_heq hw) (kI := 4) (hw _ (List.mem_of_getElem? (i := 4) rfl)) Es_593 Fvs_594 Fcs_595 Vs_596 hcd604 hbd604 Txs.2 Ex590 Fv590 Fc590 Vb590 hcd605 hbd605 Tx590.2 (S_COMPACT_STRINGS.ext Ot_592.2) cs0 (by decide) (by decide)) (by rw [hml]; rfl) (a := xs) (argsL := [(.ref l590)]) (rest := []) Es_593 (lenOf pd_4 rfl) rfl (Nat.le_of_ble_eq_true rfl) (hb hby at_322) rfl e590 (by decide) (by decide) fun T606 v606 L606 X606 hQ606 => ?_
        obtain ⟨hv606, rfl, e606⟩ := hQ606
        obtain rfl : v606 = some (.int (1 : Int32)) := by
          rcases hv606 with q | q
          · exact q.1
          · exact absurd hwr q.2
        have N606 := Fr.app N589 (Fr.nil n0)
        refine Owe.ifNo X606.here hx (hb hby at_325) rfl ((if0 _ _).trans (feq (by decide)).1) ?_
        refine Owe.aload X606.here hx (hb hby at_328) rfl rfl ?_
        refine Owe.virt X606 hx hZ590 (y := (⟨"java/util/Optional", "isPresent", "()Z"⟩ : MethodName)) (z := (⟨"java/util/Optional", "isPresent", "()Z"⟩ : MethodName)) hown590 (mvT hZ590 (hw _ (List.mem_of_getElem? (i := 120) rfl))) (mvT hZ590 (hw _ (List.mem_of_getElem? (i := 121) rfl))) (mvT hZ590 (hw _ (List.mem_of_getElem? (i := 123) rfl))) (mvT hZ590 (hw _ (List.mem_of_getElem? (i := 122) rfl))) (notFace_of_selects (args := #[]) (mvT hZ590 (hw _ (List.mem_of_getElem? (i := 123) rfl)))) (by decide) (backOf (W := 0) (rmipy l Z a0 hw [] x1_569 wt h590 n0 Z_603 Fvalue_x1_598) hZ590 (hw _ (List.mem_of_getElem? (i := 124) rfl)) (hw _ (List.mem_of_getElem? (i := 104) rfl)) (by decide) (by decide)) (by rw [hml]; rfl) (a := x1_569) (argsL := []) (rest := []) E_x1_597 (lenOf pd_9 rfl) rfl (Nat.le_of_ble_eq_true rfl) (hb hby at_330) rfl e606 (by decide) (by decide) fun T607 v607 L607 X607 hQ607 => ?_
        obtain ⟨rfl, Nq607, e607⟩ := hQ607
        have N607 := Fr.app N606 Nq607
        refine Owe.ifNo X607.here hx (hb hby at_333) rfl ((if0 _ _).trans (feq (by decide)).1) ?_
        refine Owe.aload X607.here hx (hb hby at_336) rfl rfl ?_
        refine Owe.virt X607 hx hZ590 (y := (⟨"java/util/Optional", "get", "()Ljava/lang/Object;"⟩ : MethodName)) (z := (⟨"java/util/Optional", "get", "()Ljava/lang/Object;"⟩ : MethodName)) hown590 (mvT hZ590 (hw _ (List.mem_of_getElem? (i := 125) rfl))) (mvT hZ590 (hw _ (List.mem_of_getElem? (i := 126) rfl))) (mvT hZ590 (hw _ (List.mem_of_getElem? (i := 128) rfl))) (mvT hZ590 (hw _ (List.mem_of_getElem? (i := 127) rfl))) (notFace_of_selects (args := #[]) (mvT hZ590 (hw _ (List.mem_of_getElem? (i := 128) rfl)))) (by decide) (backOf (W := 0) (rmopg l Z a0 hw [] x1_569 wt h590 n0 Z_603 Fvalue_x1_598) hZ590 (hw _ (List.mem_of_getElem? (i := 129) rfl)) (hw _ (List.mem_of_getElem? (i := 104) rfl)) (by decide) (by decide)) (by rw [hml]; rfl) (a := x1_569) (argsL := []) (rest := []) E_x1_597 (lenOf pd_10 rfl) rfl (Nat.le_of_ble_eq_true rfl) (hb hby at_338) rfl e607 (by decide) (by decide) fun T608 v608 L608 X608 hQ608 => ?_
        obtain ⟨rfl, Nq608, e608⟩ := hQ608
        have N608 := Fr.app N607 Nq608
        refine Owe.gets X608 hx hZ590 hown590 (hw _ (List.mem_of_getElem? (i := 138) rfl)) Via.refl e608 (S_WRITE.ext Ot_592.2) (hb hby at_341) fun T609 X609 e609 => ?_
        refine Owe.acmpNo X609.here hx (hb hby at_344) rfl rfl rfl (by simp [Jvm.Free.XT.acmp]) ?_
        refine Owe.iconst X609.here hx (hb hby at_347) (w := (1 : Int32)) rfl ?_
        refine Owe.goto X609.here hx (hb hby at_348) (pc' := 352) (by decide) (by decide) ?_
        refine Owe.retNW X609 hx hS590 e609 hk590 hlk (t := .boolean) Bd.returns (by simp) (hb hby at_352) rfl fun fs hE => ?_
        rw [hG]
        refine ⟨_, _, rfl, ?_, ?_, coldMono hE (by decide) (by decide)⟩
        rotate_left
        · rw [hh]
          show CHr Z own_EL s.vm h0 T609.vm T609.heap
          rw [e609]
          exact Rr590.trans (CHv.at X609 hZ590 (own_ew hw) H590)
        show Q0 Z p1 p2 p3 p4 q5 fm G1 va rd wt rdw rdwv wtw wtwv k_va k_rdwv k_wtwv em h0 n0 _ T609.heap _
        rw [e609]
        exact ⟨rfl, N608⟩
      · skip
        refine Owe.astore Xt.here hx (hb hby at_274) rfl rfl (l' := #[.val (.int p1), .val (.int p2), .val (.int p3), .val (.int p4), .val (.long q5), .second, .val (.ref b6), .val (.int n7), .val (.int m8), .val (.ref xs), .val (.int l10), .val (.int u11), .val (.int c12)]) rfl ?_
        refine Owe.aload Xt.here hx (hb hby at_276) rfl rfl ?_
        refine Owe.stat Xt hx (y := (⟨"com/example/wade/wade/monitor/Access", "governing", "(Ljava/lang/String;)Ljava/util/Optional;"⟩ : MethodName)) hownt (mvT hZt (hw _ (List.mem_of_getElem? (i := 70) rfl))) (mvT hZt (hw _ (List.mem_of_getElem? (i := 71) rfl))) (mvT hZt (hw _ (List.mem_of_getElem? (i := 72) rfl))) (mvT hZt (hw _ (List.mem_of_getElem? (i := 73) rfl))) (by decide) (backOf (W := 0) (rmgvn l Z a0 hw [] xs ts ks cs G1 va rd wt rdw rdwv wtw wtwv k_va k_rdwv k_wtwv em ht n0 Zt Es Fvs Fcs Vs Txs S_COMPACT_STRINGS cs0 Ot S__VALUES E_va S_READ E_rd S_WRITE E_wt Fword_rd E_rdw Fcoder_rdw Fvalue_rdw Fword_wt E_wtw Fcoder_wtw Fvalue_wtw V_va V_rdwv V_wtwv Tx_rdw Tx_wtw S_EMPTY E_em Fvalue_em hr hwr) hZt (hw _ (List.mem_of_getElem? (i := 73) rfl)) (hw _ (List.mem_of_getElem? (i := 72) rfl)) (by decide) (by decide)) (by rw [hml]; rfl) (argsL := [(.ref xs)]) (rest := []) (lenOf pd_8 rfl) rfl (Nat.le_of_ble_eq_true rfl) (hb hby at_278) rfl et (by decide) (by decide) fun T610 v610 L610 X610 hQ610 => ?_
        obtain ⟨rfl, Nq610, K610⟩ := hQ610
        have N610 := Fr.app Nt Nq610
        have hk611 := Nat.le_trans hkt K610.1
        have Rr611 := Rt.trans (CHr.keep K610 sf0 Ht)
        have H611 := CHv.keep K610 sf0 Ht
        have Ot_612 := Ot.keep K610 all0
        have Es_613 := Es.keep K610
        have Fvs_614 := Fvs.keep K610 nin0
        have Fcs_615 := Fcs.keep K610 nin0
        have Vs_616 := Vs.keep K610 nin0
        have Z_617 := Nat.le_trans Zt K610.1
        refine Owe.astore X610.here hx (hb hby at_281) rfl rfl (l' := #[.val (.int p1), .val (.int p2), .val (.int p3), .val (.int p4), .val (.long q5), .second, .val (.ref b6), .val (.int n7), .val (.int m8), .val (.ref xs), .val (.ref em), .val (.int u11), .val (.int c12)]) rfl ?_
        refine Owe.aload X610.here hx (hb hby at_283) rfl rfl ?_
        refine Owe.ldcV X610 hx hZt hSt (own_ew hw) H611 (by decide) hownt (hw _ (List.mem_of_getElem? (i := 2) rfl)) (own_wS hw) rfl hk611 (vs := ((([114, 101, 97, 100] : List Int32).map (fun c => c.toInt8.toInt32)).map Value.int)) (z := (4 : Int32)) (by decide) (by decide) rfl (hb hby at_285) (n := 16) (by decide) (by decide) (by decide) (by decide) fun l618 T618 h618 k618 lb618 lk618 X618 e618 E618 hS618 hk618 hZ618 hown618 Ex618 Fc618 Fv618 Vb618 hC618 Lt618 nsf618 => ?_
        have hk619 := Nat.le_trans hk611 E618.1
        have Ot_620 := Ot_612.ext E618
        have Es_621 := Es_613.ext E618
        have Fvs_622 := Fvs_614.ext E618
        have Fcs_623 := Fcs_615.ext E618
        have Vs_624 := Vs_616.ext E618
        have Z_625 := Nat.le_trans Z_617 E618.1
        have Rr618 := Rr611.trans hC618
        have H618 := hC618.1
        have Tx618 : (∀ c ∈ ([114, 101, 97, 100] : List Int32), ¬ c < 0 ∧ ¬ (255 : Int32) < c) ∧ ([114, 101, 97, 100] : List Int32).length ≤ 4000 := ⟨by decide, Nat.le_of_ble_eq_true rfl⟩
        have hcd626 : StrChars.Road.CodA cs 0 (Int32.ofNat cs.length) ((cs.map (fun c => c.toInt8.toInt32)).map Value.int) := StrChars.Road.codOf (n := cs.length) rfl (fun x hx => (Txs.1 x hx).2)
        have hbd626 := up cs Txs.1
        have hcd627 : StrChars.Road.CodA ([114, 101, 97, 100] : List Int32) 0 (4 : Int32) ((([114, 101, 97, 100] : List Int32).map (fun c => c.toInt8.toInt32)).map Value.int) := StrChars.Road.codOf (n := 4) rfl (fun x hx => (Tx618.1 x hx).2)
        have hbd627 := up ([114, 101, 97, 100] : List Int32) Tx618.1
        refine Owe.virt X618 hx hZ618 (y := (⟨"java/lang/String", "equals", "(Ljava/lang/Object;)Z"⟩ : MethodName)) (z := (⟨"java/lang/String", "equals", "(Ljava/lang/Object;)Z"⟩ : MethodName)) (Q := fun v h' L => ((v = some (.int 1) ∧ cs = ([114, 101, 97, 100] : List Int32)) ∨ (v = some (.int 0) ∧ ¬ cs = ([114, 101, 97, 100] : List Int32))) ∧ L = [] ∧ h' = h618) (kc := 0) (ks := 0) hown618 (mvT hZ618 (hw _ (List.mem_of_getElem? (i := 119) rfl))) (mvT hZ618 (hw _ (List.mem_of_getElem? (i := 94) rfl))) (mvT hZ618 (hw _ (List.mem_of_getElem? (i := 96) rfl))) (mvT hZ618 (hw _ (List.mem_of_getElem? (i := 95) rfl))) (notFace_of_selects (args := #[]) (mvT hZ618 (hw _ (List.mem_of_getElem? (i := 96) rfl)))) (by decide) (StrChars.Road.eqW (W := 0) hZ618 (own_heq hw) (kI := 4) (hw _ (List.mem_of_getElem? (i := 4) rfl)) Es_621 Fvs_622 Fcs_623 Vs_624 hcd626 hbd626 Txs.2 Ex618 Fv618 Fc618 Vb618 hcd627 hbd627 Tx618.2 (S_COMPACT_STRINGS.ext Ot_620.2) cs0 (by decide) (by decide)) (by rw [hml]; rfl) (a := xs) (argsL := [(.ref l618)]) (rest := []) Es_621 (lenOf pd_4 rfl) rfl (Nat.le_of_ble_eq_true rfl) (hb hby at_287) rfl e618 (by decide) (by decide) fun T628 v628 L628 X628 hQ628 => ?_
        obtain ⟨hv628, rfl, e628⟩ := hQ628
        obtain rfl : v628 = some (.int (0 : Int32)) := by
          rcases hv628 with q | q
          · exact absurd q.2 hr
          · exact q.1
        have N628 := Fr.app N610 (Fr.nil n0)
        refine Owe.ifYes X628.here hx (hb hby at_290) rfl ((if0 _ _).trans (teq (by decide)).1) (pc' := 318) (by decide) (by decide) ?_
        refine Owe.aload X628.here hx (hb hby at_318) rfl rfl ?_
        refine Owe.ldcV X628 hx hZ618 hS618 (own_ew hw) H618 (by decide) hown618 (hw _ (List.mem_of_getElem? (i := 136) rfl)) (own_wS hw) e628 hk618 (vs := ((([119, 114, 105, 116, 101] : List Int32).map (fun c => c.toInt8.toInt32)).map Value.int)) (z := (5 : Int32)) (by decide) (by decide) rfl (hb hby at_320) (n := 20) (by decide) (by decide) (by decide) (by decide) fun l629 T629 h629 k629 lb629 lk629 X629 e629 E629 hS629 hk629 hZ629 hown629 Ex629 Fc629 Fv629 Vb629 hC629 Lt629 nsf629 => ?_
        have hk630 := Nat.le_trans hk618 E629.1
        have Ot_631 := Ot_620.ext E629
        have Es_632 := Es_621.ext E629
        have Fvs_633 := Fvs_622.ext E629
        have Fcs_634 := Fcs_623.ext E629
        have Vs_635 := Vs_624.ext E629
        have Ex618_636 := Ex618.ext E629
        have Fc618_637 := Fc618.ext E629
        have Fv618_638 := Fv618.ext E629
        have Vb618_639 := Vb618.ext E629
        have Z_640 := Nat.le_trans Z_625 E629.1
        have Rr629 := Rr618.trans hC629
        have H629 := hC629.1
        have Tx629 : (∀ c ∈ ([119, 114, 105, 116, 101] : List Int32), ¬ c < 0 ∧ ¬ (255 : Int32) < c) ∧ ([119, 114, 105, 116, 101] : List Int32).length ≤ 4000 := ⟨by decide, Nat.le_of_ble_eq_true rfl⟩
        have hcd641 : StrChars.Road.CodA cs 0 (Int32.ofNat cs.length) ((cs.map (fun c => c.toInt8.toInt32)).map Value.int) := StrChars.Road.codOf (n := cs.length) rfl (fun x hx => (Txs.1 x hx).2)
        have hbd641 := up cs Txs.1
        have hcd642 : StrChars.Road.CodA ([119, 114, 105, 116, 101] : List Int32) 0 (5 : Int32) ((([119, 114, 105, 116, 101] : List Int32).map (fun c => c.toInt8.toInt32)).map Value.int) := StrChars.Road.codOf (n := 5) rfl (fun x hx => (Tx629.1 x hx).2)
        have hbd642 := up ([119, 114, 105, 116, 101] : List Int32) Tx629.1
        refine Owe.virt X629 hx hZ629 (y := (⟨"java/lang/String", "equals", "(Ljava/lang/Object;)Z"⟩ : MethodName)) (z := (⟨"java/lang/String", "equals", "(Ljava/lang/Object;)Z"⟩ : MethodName)) (Q := fun v h' L => ((v = some (.int 1) ∧ cs = ([119, 114, 105, 116, 101] : List Int32)) ∨ (v = some (.int 0) ∧ ¬ cs = ([119, 114, 105, 116, 101] : List Int32))) ∧ L = [] ∧ h' = h629) (kc := 0) (ks := 0) hown629 (mvT hZ629 (hw _ (List.mem_of_getElem? (i := 119) rfl))) (mvT hZ629 (hw _ (List.mem_of_getElem? (i := 94) rfl))) (mvT hZ629 (hw _ (List.mem_of_getElem? (i := 96) rfl))) (mvT hZ629 (hw _ (List.mem_of_getElem? (i := 95) rfl))) (notFace_of_selects (args := #[]) (mvT hZ629 (hw _ (List.mem_of_getElem? (i := 96) rfl)))) (by decide) (StrChars.Road.eqW (W := 0) hZ629 (own_heq hw) (kI := 4) (hw _ (List.mem_of_getElem? (i := 4) rfl)) Es_632 Fvs_633 Fcs_634 Vs_635 hcd641 hbd641 Txs.2 Ex629 Fv629 Fc629 Vb629 hcd642 hbd642 Tx629.2 (S_COMPACT_STRINGS.ext Ot_631.2) cs0 (by decide) (by decide)) (by rw [hml]; rfl) (a := xs) (argsL := [(.ref l629)]) (rest := []) Es_632 (lenOf pd_4 rfl) rfl (Nat.le_of_ble_eq_true rfl) (hb hby at_322) rfl e629 (by decide) (by decide) fun T643 v643 L643 X643 hQ643 => ?_
        obtain ⟨hv643, rfl, e643⟩ := hQ643
        obtain rfl : v643 = some (.int (0 : Int32)) := by
          rcases hv643 with q | q
          · exact absurd q.2 hwr
          · exact q.1
        have N643 := Fr.app N628 (Fr.nil n0)
        refine Owe.ifYes X643.here hx (hb hby at_325) rfl ((if0 _ _).trans (teq (by decide)).1) (pc' := 353) (by decide) (by decide) ?_
        refine Owe.aload X643.here hx (hb hby at_353) rfl rfl ?_
        refine Owe.virt X643 hx hZ629 (y := (⟨"java/util/Optional", "isPresent", "()Z"⟩ : MethodName)) (z := (⟨"java/util/Optional", "isPresent", "()Z"⟩ : MethodName)) hown629 (mvT hZ629 (hw _ (List.mem_of_getElem? (i := 120) rfl))) (mvT hZ629 (hw _ (List.mem_of_getElem? (i := 121) rfl))) (mvT hZ629 (hw _ (List.mem_of_getElem? (i := 123) rfl))) (mvT hZ629 (hw _ (List.mem_of_getElem? (i := 122) rfl))) (notFace_of_selects (args := #[]) (mvT hZ629 (hw _ (List.mem_of_getElem? (i := 123) rfl)))) (by decide) (backOf (W := 0) (rmipn l Z a0 hw [] em h629 n0 Z_640 (Fvalue_em.ext Ot_631.2)) hZ629 (hw _ (List.mem_of_getElem? (i := 124) rfl)) (hw _ (List.mem_of_getElem? (i := 104) rfl)) (by decide) (by decide)) (by rw [hml]; rfl) (a := em) (argsL := []) (rest := []) (E_em.ext Ot_631.2) (lenOf pd_9 rfl) rfl (Nat.le_of_ble_eq_true rfl) (hb hby at_355) rfl e643 (by decide) (by decide) fun T644 v644 L644 X644 hQ644 => ?_
        obtain ⟨rfl, Nq644, e644⟩ := hQ644
        have N644 := Fr.app N643 Nq644
        refine Owe.ifNo X644.here hx (hb hby at_358) rfl ((if0 _ _).trans (teq (by decide)).2) ?_
        refine Owe.iconst X644.here hx (hb hby at_361) (w := (1 : Int32)) rfl ?_
        refine Owe.goto X644.here hx (hb hby at_362) (pc' := 366) (by decide) (by decide) ?_
        refine Owe.retNW X644 hx hS629 e644 hk629 hlk (t := .boolean) Bd.returns (by simp) (hb hby at_366) rfl fun fs hE => ?_
        rw [hG]
        refine ⟨_, _, rfl, ?_, ?_, coldMono hE (by decide) (by decide)⟩
        rotate_left
        · rw [hh]
          show CHr Z own_EL s.vm h0 T644.vm T644.heap
          rw [e644]
          exact Rr629.trans (CHv.at X644 hZ629 (own_ew hw) H629)
        show Q0 Z p1 p2 p3 p4 q5 fm G1 va rd wt rdw rdwv wtw wtwv k_va k_rdwv k_wtwv em h0 n0 _ T644.heap _
        rw [e644]
        exact ⟨rfl, N644⟩
  refine Owe.bipush X0.here hx (hb hby at_0) (w := (6 : Int32)) rfl ?_
  refine Owe.newarr X0 hx hZ (aty := .char) (hw _ (List.mem_of_getElem? (i := 0) rfl)) e0 (hb hby at_2) rfl (by decide) (cap := 6) (by decide) (by decide) (by decide) (by decide) fun T645 h645 b645 k645 g645 X645 e645 E645 V645 => ?_
  have sf_b645 := (Safe.new (Nat.le_of_eq g645.symm) : Safe Z own_EL s.vm h0 b645)
  have ge_b645 := Nat.le_trans Z0 (Nat.le_of_eq g645.symm)
  have hk646 := Nat.le_trans hk0 E645.1
  have sf_b645_646 := Safe.ext E645 H0 sf_b645
  have Rr646 := R0.trans (CHr.ext E645 H0)
  have H646 := CHv.ext E645 H0
  have Ol_647 := Ol.ext E645
  have Z_648 := Nat.le_trans Z0 E645.1
  have V_b645_645 : Arv Z h645 b645 k645 .char (6 : Int32) [(.int (0 : Int32)), (.int (0 : Int32)), (.int (0 : Int32)), (.int (0 : Int32)), (.int (0 : Int32)), (.int (0 : Int32))] (.int (0 : Int32)) := V645.pad (pad_rep [] (.int (0 : Int32)) 6)
  refine Owe.astore X645.here hx (hb hby at_4) rfl rfl (l' := #[.val (.int p1), .val (.int p2), .val (.int p3), .val (.int p4), .val (.long q5), .second, .val (.ref b645), .unset, .unset, .unset, .unset, .unset, .unset]) rfl ?_
  refine Owe.aload X645.here hx (hb hby at_6) rfl rfl ?_
  refine Owe.iconst X645.here hx (hb hby at_8) (w := (0 : Int32)) rfl ?_
  refine Owe.lload X645.here hx (hb hby at_9) rfl ?_
  refine Owe.ldc2L X645 hx (v := (255 : Int64)) hown1 (mvT hZ (hw _ (List.mem_of_getElem? (i := 1) rfl))) (hb hby at_11) ?_
  refine Owe.land X645.here hx (hb hby at_14) rfl ?_
  refine Owe.l2i X645.here hx (hb hby at_15) rfl ?_
  refine Owe.i2c X645.here hx (hb hby at_16) rfl ?_
  refine Owe.castore X645 hx hZ e645 V_b645_645 (x := (((q5 &&& (255 : Int64)).toInt32).toUInt32.toUInt16.toUInt32.toInt32)) 0 rfl (Nat.le_of_ble_eq_true rfl) (by decide) (hb hby at_17) rfl fun T649 h649 X649 e649 W649 (V649 : Arv Z h649 b645 k645 .char (6 : Int32) [(.int (nar .char (((q5 &&& (255 : Int64)).toInt32).toUInt32.toUInt16.toUInt32.toInt32))), (.int (0 : Int32)), (.int (0 : Int32)), (.int (0 : Int32)), (.int (0 : Int32)), (.int (0 : Int32))] (.int (0 : Int32))) => ?_
  have hk650 := Nat.le_trans hk646 (Keep.of_wr W649).1
  have sf_b645_650 := Safe.wr W649 sf_b645_646 H646 sf_b645_646
  have Rr650 := Rr646.trans (CHr.wr W649 sf_b645_646 H646)
  have H650 := CHv.wr W649 sf_b645_646 H646
  have Ol_651 := Ol_647.wr W649 ge_b645
  have Z_652 := Nat.le_trans Z_648 (Keep.of_wr W649).1
  have N649 := Fr.snoc X649 N0 ge_b645
  refine Owe.aload X649.here hx (hb hby at_18) rfl rfl ?_
  refine Owe.iconst X649.here hx (hb hby at_20) (w := (1 : Int32)) rfl ?_
  refine Owe.lload X649.here hx (hb hby at_21) rfl ?_
  refine Owe.bipush X649.here hx (hb hby at_23) (w := (8 : Int32)) rfl ?_
  refine Owe.lushr X649.here hx (hb hby at_25) rfl ?_
  refine Owe.ldc2L X649 hx (v := (255 : Int64)) hown1 (mvT hZ (hw _ (List.mem_of_getElem? (i := 1) rfl))) (hb hby at_26) ?_
  refine Owe.land X649.here hx (hb hby at_29) rfl ?_
  refine Owe.l2i X649.here hx (hb hby at_30) rfl ?_
  refine Owe.i2c X649.here hx (hb hby at_31) rfl ?_
  refine Owe.castore X649 hx hZ e649 V649 (x := (((((q5.toUInt64 >>> ((8 : Int32) &&& 0x3f).toInt64.toUInt64).toInt64) &&& (255 : Int64)).toInt32).toUInt32.toUInt16.toUInt32.toInt32)) 1 rfl (Nat.le_of_ble_eq_true rfl) (by decide) (hb hby at_32) rfl fun T653 h653 X653 e653 W653 (V653 : Arv Z h653 b645 k645 .char (6 : Int32) [(.int (nar .char (((q5 &&& (255 : Int64)).toInt32).toUInt32.toUInt16.toUInt32.toInt32))), (.int (nar .char (((((q5.toUInt64 >>> ((8 : Int32) &&& 0x3f).toInt64.toUInt64).toInt64) &&& (255 : Int64)).toInt32).toUInt32.toUInt16.toUInt32.toInt32))), (.int (0 : Int32)), (.int (0 : Int32)), (.int (0 : Int32)), (.int (0 : Int32))] (.int (0 : Int32))) => ?_
  have hk654 := Nat.le_trans hk650 (Keep.of_wr W653).1
  have sf_b645_654 := Safe.wr W653 sf_b645_650 H650 sf_b645_650
  have Rr654 := Rr650.trans (CHr.wr W653 sf_b645_650 H650)
  have H654 := CHv.wr W653 sf_b645_650 H650
  have Ol_655 := Ol_651.wr W653 ge_b645
  have Z_656 := Nat.le_trans Z_652 (Keep.of_wr W653).1
  have N653 := Fr.snoc X653 N649 ge_b645
  refine Owe.aload X653.here hx (hb hby at_33) rfl rfl ?_
  refine Owe.iconst X653.here hx (hb hby at_35) (w := (2 : Int32)) rfl ?_
  refine Owe.lload X653.here hx (hb hby at_36) rfl ?_
  refine Owe.bipush X653.here hx (hb hby at_38) (w := (16 : Int32)) rfl ?_
  refine Owe.lushr X653.here hx (hb hby at_40) rfl ?_
  refine Owe.ldc2L X653 hx (v := (255 : Int64)) hown1 (mvT hZ (hw _ (List.mem_of_getElem? (i := 1) rfl))) (hb hby at_41) ?_
  refine Owe.land X653.here hx (hb hby at_44) rfl ?_
  refine Owe.l2i X653.here hx (hb hby at_45) rfl ?_
  refine Owe.i2c X653.here hx (hb hby at_46) rfl ?_
  refine Owe.castore X653 hx hZ e653 V653 (x := (((((q5.toUInt64 >>> ((16 : Int32) &&& 0x3f).toInt64.toUInt64).toInt64) &&& (255 : Int64)).toInt32).toUInt32.toUInt16.toUInt32.toInt32)) 2 rfl (Nat.le_of_ble_eq_true rfl) (by decide) (hb hby at_47) rfl fun T657 h657 X657 e657 W657 (V657 : Arv Z h657 b645 k645 .char (6 : Int32) [(.int (nar .char (((q5 &&& (255 : Int64)).toInt32).toUInt32.toUInt16.toUInt32.toInt32))), (.int (nar .char (((((q5.toUInt64 >>> ((8 : Int32) &&& 0x3f).toInt64.toUInt64).toInt64) &&& (255 : Int64)).toInt32).toUInt32.toUInt16.toUInt32.toInt32))), (.int (nar .char (((((q5.toUInt64 >>> ((16 : Int32) &&& 0x3f).toInt64.toUInt64).toInt64) &&& (255 : Int64)).toInt32).toUInt32.toUInt16.toUInt32.toInt32))), (.int (0 : Int32)), (.int (0 : Int32)), (.int (0 : Int32))] (.int (0 : Int32))) => ?_
  have hk658 := Nat.le_trans hk654 (Keep.of_wr W657).1
  have sf_b645_658 := Safe.wr W657 sf_b645_654 H654 sf_b645_654
  have Rr658 := Rr654.trans (CHr.wr W657 sf_b645_654 H654)
  have H658 := CHv.wr W657 sf_b645_654 H654
  have Ol_659 := Ol_655.wr W657 ge_b645
  have Z_660 := Nat.le_trans Z_656 (Keep.of_wr W657).1
  have N657 := Fr.snoc X657 N653 ge_b645
  refine Owe.aload X657.here hx (hb hby at_48) rfl rfl ?_
  refine Owe.iconst X657.here hx (hb hby at_50) (w := (3 : Int32)) rfl ?_
  refine Owe.lload X657.here hx (hb hby at_51) rfl ?_
  refine Owe.bipush X657.here hx (hb hby at_53) (w := (24 : Int32)) rfl ?_
  refine Owe.lushr X657.here hx (hb hby at_55) rfl ?_
  refine Owe.ldc2L X657 hx (v := (255 : Int64)) hown1 (mvT hZ (hw _ (List.mem_of_getElem? (i := 1) rfl))) (hb hby at_56) ?_
  refine Owe.land X657.here hx (hb hby at_59) rfl ?_
  refine Owe.l2i X657.here hx (hb hby at_60) rfl ?_
  refine Owe.i2c X657.here hx (hb hby at_61) rfl ?_
  refine Owe.castore X657 hx hZ e657 V657 (x := (((((q5.toUInt64 >>> ((24 : Int32) &&& 0x3f).toInt64.toUInt64).toInt64) &&& (255 : Int64)).toInt32).toUInt32.toUInt16.toUInt32.toInt32)) 3 rfl (Nat.le_of_ble_eq_true rfl) (by decide) (hb hby at_62) rfl fun T661 h661 X661 e661 W661 (V661 : Arv Z h661 b645 k645 .char (6 : Int32) [(.int (nar .char (((q5 &&& (255 : Int64)).toInt32).toUInt32.toUInt16.toUInt32.toInt32))), (.int (nar .char (((((q5.toUInt64 >>> ((8 : Int32) &&& 0x3f).toInt64.toUInt64).toInt64) &&& (255 : Int64)).toInt32).toUInt32.toUInt16.toUInt32.toInt32))), (.int (nar .char (((((q5.toUInt64 >>> ((16 : Int32) &&& 0x3f).toInt64.toUInt64).toInt64) &&& (255 : Int64)).toInt32).toUInt32.toUInt16.toUInt32.toInt32))), (.int (nar .char (((((q5.toUInt64 >>> ((24 : Int32) &&& 0x3f).toInt64.toUInt64).toInt64) &&& (255 : Int64)).toInt32).toUInt32.toUInt16.toUInt32.toInt32))), (.int (0 : Int32)), (.int (0 : Int32))] (.int (0 : Int32))) => ?_
  have hk662 := Nat.le_trans hk658 (Keep.of_wr W661).1
  have sf_b645_662 := Safe.wr W661 sf_b645_658 H658 sf_b645_658
  have Rr662 := Rr658.trans (CHr.wr W661 sf_b645_658 H658)
  have H662 := CHv.wr W661 sf_b645_658 H658
  have Ol_663 := Ol_659.wr W661 ge_b645
  have Z_664 := Nat.le_trans Z_660 (Keep.of_wr W661).1
  have N661 := Fr.snoc X661 N657 ge_b645
  refine Owe.aload X661.here hx (hb hby at_63) rfl rfl ?_
  refine Owe.iconst X661.here hx (hb hby at_65) (w := (4 : Int32)) rfl ?_
  refine Owe.lload X661.here hx (hb hby at_66) rfl ?_
  refine Owe.bipush X661.here hx (hb hby at_68) (w := (32 : Int32)) rfl ?_
  refine Owe.lushr X661.here hx (hb hby at_70) rfl ?_
  refine Owe.ldc2L X661 hx (v := (255 : Int64)) hown1 (mvT hZ (hw _ (List.mem_of_getElem? (i := 1) rfl))) (hb hby at_71) ?_
  refine Owe.land X661.here hx (hb hby at_74) rfl ?_
  refine Owe.l2i X661.here hx (hb hby at_75) rfl ?_
  refine Owe.i2c X661.here hx (hb hby at_76) rfl ?_
  refine Owe.castore X661 hx hZ e661 V661 (x := (((((q5.toUInt64 >>> ((32 : Int32) &&& 0x3f).toInt64.toUInt64).toInt64) &&& (255 : Int64)).toInt32).toUInt32.toUInt16.toUInt32.toInt32)) 4 rfl (Nat.le_of_ble_eq_true rfl) (by decide) (hb hby at_77) rfl fun T665 h665 X665 e665 W665 (V665 : Arv Z h665 b645 k645 .char (6 : Int32) [(.int (nar .char (((q5 &&& (255 : Int64)).toInt32).toUInt32.toUInt16.toUInt32.toInt32))), (.int (nar .char (((((q5.toUInt64 >>> ((8 : Int32) &&& 0x3f).toInt64.toUInt64).toInt64) &&& (255 : Int64)).toInt32).toUInt32.toUInt16.toUInt32.toInt32))), (.int (nar .char (((((q5.toUInt64 >>> ((16 : Int32) &&& 0x3f).toInt64.toUInt64).toInt64) &&& (255 : Int64)).toInt32).toUInt32.toUInt16.toUInt32.toInt32))), (.int (nar .char (((((q5.toUInt64 >>> ((24 : Int32) &&& 0x3f).toInt64.toUInt64).toInt64) &&& (255 : Int64)).toInt32).toUInt32.toUInt16.toUInt32.toInt32))), (.int (nar .char (((((q5.toUInt64 >>> ((32 : Int32) &&& 0x3f).toInt64.toUInt64).toInt64) &&& (255 : Int64)).toInt32).toUInt32.toUInt16.toUInt32.toInt32))), (.int (0 : Int32))] (.int (0 : Int32))) => ?_
  have hk666 := Nat.le_trans hk662 (Keep.of_wr W665).1
  have sf_b645_666 := Safe.wr W665 sf_b645_662 H662 sf_b645_662
  have Rr666 := Rr662.trans (CHr.wr W665 sf_b645_662 H662)
  have H666 := CHv.wr W665 sf_b645_662 H662
  have Ol_667 := Ol_663.wr W665 ge_b645
  have Z_668 := Nat.le_trans Z_664 (Keep.of_wr W665).1
  have N665 := Fr.snoc X665 N661 ge_b645
  refine Owe.aload X665.here hx (hb hby at_78) rfl rfl ?_
  refine Owe.iconst X665.here hx (hb hby at_80) (w := (5 : Int32)) rfl ?_
  refine Owe.lload X665.here hx (hb hby at_81) rfl ?_
  refine Owe.bipush X665.here hx (hb hby at_83) (w := (40 : Int32)) rfl ?_
  refine Owe.lushr X665.here hx (hb hby at_85) rfl ?_
  refine Owe.ldc2L X665 hx (v := (255 : Int64)) hown1 (mvT hZ (hw _ (List.mem_of_getElem? (i := 1) rfl))) (hb hby at_86) ?_
  refine Owe.land X665.here hx (hb hby at_89) rfl ?_
  refine Owe.l2i X665.here hx (hb hby at_90) rfl ?_
  refine Owe.i2c X665.here hx (hb hby at_91) rfl ?_
  refine Owe.castore X665 hx hZ e665 V665 (x := (((((q5.toUInt64 >>> ((40 : Int32) &&& 0x3f).toInt64.toUInt64).toInt64) &&& (255 : Int64)).toInt32).toUInt32.toUInt16.toUInt32.toInt32)) 5 rfl (Nat.le_of_ble_eq_true rfl) (by decide) (hb hby at_92) rfl fun T669 h669 X669 e669 W669 (V669 : Arv Z h669 b645 k645 .char (6 : Int32) [(.int (nar .char (((q5 &&& (255 : Int64)).toInt32).toUInt32.toUInt16.toUInt32.toInt32))), (.int (nar .char (((((q5.toUInt64 >>> ((8 : Int32) &&& 0x3f).toInt64.toUInt64).toInt64) &&& (255 : Int64)).toInt32).toUInt32.toUInt16.toUInt32.toInt32))), (.int (nar .char (((((q5.toUInt64 >>> ((16 : Int32) &&& 0x3f).toInt64.toUInt64).toInt64) &&& (255 : Int64)).toInt32).toUInt32.toUInt16.toUInt32.toInt32))), (.int (nar .char (((((q5.toUInt64 >>> ((24 : Int32) &&& 0x3f).toInt64.toUInt64).toInt64) &&& (255 : Int64)).toInt32).toUInt32.toUInt16.toUInt32.toInt32))), (.int (nar .char (((((q5.toUInt64 >>> ((32 : Int32) &&& 0x3f).toInt64.toUInt64).toInt64) &&& (255 : Int64)).toInt32).toUInt32.toUInt16.toUInt32.toInt32))), (.int (nar .char (((((q5.toUInt64 >>> ((40 : Int32) &&& 0x3f).toInt64.toUInt64).toInt64) &&& (255 : Int64)).toInt32).toUInt32.toUInt16.toUInt32.toInt32)))] (.int (0 : Int32))) => ?_
  have hk670 := Nat.le_trans hk666 (Keep.of_wr W669).1
  have sf_b645_670 := Safe.wr W669 sf_b645_666 H666 sf_b645_666
  have Rr670 := Rr666.trans (CHr.wr W669 sf_b645_666 H666)
  have H670 := CHv.wr W669 sf_b645_666 H666
  have Ol_671 := Ol_667.wr W669 ge_b645
  have Z_672 := Nat.le_trans Z_668 (Keep.of_wr W669).1
  have N669 := Fr.snoc X669 N665 ge_b645
  refine Owe.iloadN X669.here hx (hb hby at_93) rfl ?_
  refine Owe.bipush X669.here hx (hb hby at_94) (w := (7 : Int32)) rfl ?_
  refine Owe.iand X669.here hx (hb hby at_96) rfl ?_
  refine Owe.bipush X669.here hx (hb hby at_97) (w := (7 : Int32)) rfl ?_
  refine Owe.irem X669.here hx (hb hby at_99) rfl (by decide) ?_
  refine Owe.istore X669.here hx (hb hby at_100) rfl (l' := #[.val (.int p1), .val (.int p2), .val (.int p3), .val (.int p4), .val (.long q5), .second, .val (.ref b645), .val (.int ((p2 &&& (7 : Int32)) - ((p2 &&& (7 : Int32)) / (7 : Int32)) * (7 : Int32))), .unset, .unset, .unset, .unset, .unset]) rfl ?_
  refine Owe.iloadN X669.here hx (hb hby at_102) rfl ?_
  refine Owe.iconst X669.here hx (hb hby at_103) (w := (3 : Int32)) rfl ?_
  refine Owe.iand X669.here hx (hb hby at_104) rfl ?_
  refine Owe.istore X669.here hx (hb hby at_105) rfl (l' := #[.val (.int p1), .val (.int p2), .val (.int p3), .val (.int p4), .val (.long q5), .second, .val (.ref b645), .val (.int ((p2 &&& (7 : Int32)) - ((p2 &&& (7 : Int32)) / (7 : Int32)) * (7 : Int32))), .val (.int (p1 &&& (3 : Int32))), .unset, .unset, .unset, .unset]) rfl ?_
  refine Owe.iload X669.here hx (hb hby at_107) rfl ?_
  refine Owe.iconst X669.here hx (hb hby at_109) (w := (2 : Int32)) rfl ?_
  by_cases hc110_673 : (p1 &&& (3 : Int32)) < (2 : Int32)
  · skip
    refine Owe.icmpNo X669.here hx (hb hby at_110) rfl (tlt hc110_673).2.1 ?_
    refine Owe.iload X669.here hx (hb hby at_113) rfl ?_
    by_cases hc115_674 : (p1 &&& (3 : Int32)) = (0 : Int32)
    · skip
      refine Owe.ifNo X669.here hx (hb hby at_115) rfl ((if0 _ _).trans (teq hc115_674).2) ?_
      refine Owe.ldcV X669 hx hZ hS0 (own_ew hw) H670 (by decide) hown1 (hw _ (List.mem_of_getElem? (i := 2) rfl)) (own_wS hw) e669 hk670 (vs := ((([114, 101, 97, 100] : List Int32).map (fun c => c.toInt8.toInt32)).map Value.int)) (z := (4 : Int32)) (by decide) (by decide) rfl (hb hby at_118) (n := 16) (by decide) (by decide) (by decide) (by decide) fun l675 T675 h675 k675 lb675 lk675 X675 e675 E675 hS675 hk675 hZ675 hown675 Ex675 Fc675 Fv675 Vb675 hC675 Lt675 nsf675 => ?_
      have hk676 := Nat.le_trans hk670 E675.1
      have Ol_677 := Ol_671.ext E675
      have V669_678 := V669.ext E675
      have Z_679 := Nat.le_trans Z_672 E675.1
      have sf_b645_675 := CHr.safe hC675 V669.lt sf_b645_670
      have Rr675 := Rr670.trans hC675
      have H675 := hC675.1
      have Tx675 : (∀ c ∈ ([114, 101, 97, 100] : List Int32), ¬ c < 0 ∧ ¬ (255 : Int32) < c) ∧ ([114, 101, 97, 100] : List Int32).length ≤ 4000 := ⟨by decide, Nat.le_of_ble_eq_true rfl⟩
      have ne_b645_l675 := (nsf675 _ sf_b645_675).1
      have ne_b645_lb675 := (nsf675 _ sf_b645_675).2
      refine Owe.goto X675.here hx (hb hby at_120) (pc' := 125) (by decide) (by decide) ?_
      refine Owe.astore X675.here hx (hb hby at_125) rfl rfl (l' := #[.val (.int p1), .val (.int p2), .val (.int p3), .val (.int p4), .val (.long q5), .second, .val (.ref b645), .val (.int ((p2 &&& (7 : Int32)) - ((p2 &&& (7 : Int32)) / (7 : Int32)) * (7 : Int32))), .val (.int (p1 &&& (3 : Int32))), .val (.ref l675), .unset, .unset, .unset]) rfl ?_
      refine Owe.aload X675.here hx (hb hby at_127) rfl rfl ?_
      have hcd680 : StrChars.Road.CodA ([114, 101, 97, 100] : List Int32) 0 (4 : Int32) ((([114, 101, 97, 100] : List Int32).map (fun c => c.toInt8.toInt32)).map Value.int) := StrChars.Road.codOf (n := 4) rfl (fun x hx => (Tx675.1 x hx).2)
      have hbd680 := up ([114, 101, 97, 100] : List Int32) Tx675.1
      refine Owe.virt X675 hx hZ675 (y := (⟨"java/lang/String", "length", "()I"⟩ : MethodName)) (z := (⟨"java/lang/String", "length", "()I"⟩ : MethodName)) (Q := fun v h' L => v = some (.int (Int32.ofNat ([114, 101, 97, 100] : List Int32).length)) ∧ L = [] ∧ h' = h675) (kc := 0) (ks := 0) hown675 (mvT hZ675 (hw _ (List.mem_of_getElem? (i := 10) rfl))) (mvT hZ675 (hw _ (List.mem_of_getElem? (i := 11) rfl))) (mvT hZ675 (hw _ (List.mem_of_getElem? (i := 13) rfl))) (mvT hZ675 (hw _ (List.mem_of_getElem? (i := 12) rfl))) (notFace_of_selects (args := #[]) (mvT hZ675 (hw _ (List.mem_of_getElem? (i := 13) rfl)))) (by decide) (StrChars.Road.lenW (W := 0) hZ675 (own_hln hw) (kI := 4) (hw _ (List.mem_of_getElem? (i := 4) rfl)) Ex675 Fv675 Fc675 Vb675 hcd680 hbd680 (S_COMPACT_STRINGS.ext Ol_677.2) cs0 Tx675.2 (by decide) (by decide)) (by rw [hml]; rfl) (a := l675) (argsL := []) (rest := []) Ex675 (lenOf pd_11 rfl) rfl (Nat.le_of_ble_eq_true rfl) (hb hby at_129) rfl e675 (by decide) (by decide) fun T681 v681 L681 X681 hQ681 => ?_
      obtain ⟨rfl, rfl, e681⟩ := hQ681
      have N681 := Fr.app N669 (Fr.nil n0)
      refine Owe.istore X681.here hx (hb hby at_132) rfl (l' := #[.val (.int p1), .val (.int p2), .val (.int p3), .val (.int p4), .val (.long q5), .second, .val (.ref b645), .val (.int ((p2 &&& (7 : Int32)) - ((p2 &&& (7 : Int32)) / (7 : Int32)) * (7 : Int32))), .val (.int (p1 &&& (3 : Int32))), .val (.ref l675), .val (.int (4 : Int32)), .unset, .unset]) rfl ?_
      refine Owe.aload X681.here hx (hb hby at_134) rfl rfl ?_
      refine Owe.iconst X681.here hx (hb hby at_136) (w := (0 : Int32)) rfl ?_
      refine Owe.aload X681.here hx (hb hby at_137) rfl rfl ?_
      refine Owe.iconst X681.here hx (hb hby at_139) (w := (0 : Int32)) rfl ?_
      have hcd682 : StrChars.Road.CodA ([114, 101, 97, 100] : List Int32) 0 (4 : Int32) ((([114, 101, 97, 100] : List Int32).map (fun c => c.toInt8.toInt32)).map Value.int) := StrChars.Road.codOf (n := 4) rfl (fun x hx => (Tx675.1 x hx).2)
      have hbd682 := up ([114, 101, 97, 100] : List Int32) Tx675.1
      refine Owe.virt X681 hx hZ675 (y := (⟨"java/lang/String", "charAt", "(I)C"⟩ : MethodName)) (z := (⟨"java/lang/String", "charAt", "(I)C"⟩ : MethodName)) (Q := fun v h' L => v = some (.int (([114, 101, 97, 100] : List Int32).getD 0 0)) ∧ L = [] ∧ h' = h675) (kc := 0) (ks := 0) hown675 (mvT hZ675 (hw _ (List.mem_of_getElem? (i := 23) rfl))) (mvT hZ675 (hw _ (List.mem_of_getElem? (i := 24) rfl))) (mvT hZ675 (hw _ (List.mem_of_getElem? (i := 26) rfl))) (mvT hZ675 (hw _ (List.mem_of_getElem? (i := 25) rfl))) (notFace_of_selects (args := #[]) (mvT hZ675 (hw _ (List.mem_of_getElem? (i := 26) rfl)))) (by decide) (StrChars.Road.chN (W := 2) hZ675 (own_hch hw) (kI := 4) (hw _ (List.mem_of_getElem? (i := 4) rfl)) Ex675 Fv675 Fc675 Vb675 hcd682 hbd682 (S_COMPACT_STRINGS.ext Ol_677.2) cs0 (S_SIOOBE_FORMATTER.ext Ol_677.2) ir_fm Tx675.2 (i := 0) (Nat.le_of_ble_eq_true rfl) (j := (0 : Int32)) rfl (by decide) (by decide)) (by rw [hml]; rfl) (a := l675) (argsL := [(.int (0 : Int32))]) (rest := [(.int (0 : Int32)), (.ref b645)]) Ex675 (lenOf pd_12 rfl) rfl (Nat.le_of_ble_eq_true rfl) (hb hby at_140) rfl e681 (by decide) (by decide) fun T683 v683 L683 X683 hQ683 => ?_
      obtain ⟨rfl, rfl, e683⟩ := hQ683
      have N683 := Fr.app N681 (Fr.nil n0)
      refine Owe.castore X683 hx hZ675 e683 V669_678 (x := (114 : Int32)) 0 rfl (Nat.le_of_ble_eq_true rfl) (by decide) (hb hby at_143) rfl fun T684 h684 X684 e684 W684 (V684 : Arv Z h684 b645 k645 .char (6 : Int32) [(.int (nar .char (114 : Int32))), (.int (nar .char (((((q5.toUInt64 >>> ((8 : Int32) &&& 0x3f).toInt64.toUInt64).toInt64) &&& (255 : Int64)).toInt32).toUInt32.toUInt16.toUInt32.toInt32))), (.int (nar .char (((((q5.toUInt64 >>> ((16 : Int32) &&& 0x3f).toInt64.toUInt64).toInt64) &&& (255 : Int64)).toInt32).toUInt32.toUInt16.toUInt32.toInt32))), (.int (nar .char (((((q5.toUInt64 >>> ((24 : Int32) &&& 0x3f).toInt64.toUInt64).toInt64) &&& (255 : Int64)).toInt32).toUInt32.toUInt16.toUInt32.toInt32))), (.int (nar .char (((((q5.toUInt64 >>> ((32 : Int32) &&& 0x3f).toInt64.toUInt64).toInt64) &&& (255 : Int64)).toInt32).toUInt32.toUInt16.toUInt32.toInt32))), (.int (nar .char (((((q5.toUInt64 >>> ((40 : Int32) &&& 0x3f).toInt64.toUInt64).toInt64) &&& (255 : Int64)).toInt32).toUInt32.toUInt16.toUInt32.toInt32)))] (.int (0 : Int32))) => ?_
      have hk685 := Nat.le_trans hk675 (Keep.of_wr W684).1
      have sf_b645_685 := Safe.wr W684 sf_b645_675 H675 sf_b645_675
      have Rr685 := Rr675.trans (CHr.wr W684 sf_b645_675 H675)
      have H685 := CHv.wr W684 sf_b645_675 H675
      have Ol_686 := Ol_677.wr W684 ge_b645
      have Ex675_687 := Ex675.wr W684
      have Fc675_688 := Fc675.other W684 (Or.inl (Ne.symm ne_b645_l675))
      have Fv675_689 := Fv675.other W684 (Or.inl (Ne.symm ne_b645_l675))
      have Vb675_690 := Vb675.other W684 (Ne.symm ne_b645_lb675)
      have Z_691 := Nat.le_trans Z_679 (Keep.of_wr W684).1
      have N684 := Fr.snoc X684 N683 ge_b645
      refine Owe.aload X684.here hx (hb hby at_144) rfl rfl ?_
      refine Owe.iconst X684.here hx (hb hby at_146) (w := (1 : Int32)) rfl ?_
      refine Owe.aload X684.here hx (hb hby at_147) rfl rfl ?_
      refine Owe.iconst X684.here hx (hb hby at_149) (w := (1 : Int32)) rfl ?_
      have hcd692 : StrChars.Road.CodA ([114, 101, 97, 100] : List Int32) 0 (4 : Int32) ((([114, 101, 97, 100] : List Int32).map (fun c => c.toInt8.toInt32)).map Value.int) := StrChars.Road.codOf (n := 4) rfl (fun x hx => (Tx675.1 x hx).2)
      have hbd692 := up ([114, 101, 97, 100] : List Int32) Tx675.1
      refine Owe.virt X684 hx hZ675 (y := (⟨"java/lang/String", "charAt", "(I)C"⟩ : MethodName)) (z := (⟨"java/lang/String", "charAt", "(I)C"⟩ : MethodName)) (Q := fun v h' L => v = some (.int (([114, 101, 97, 100] : List Int32).getD 1 0)) ∧ L = [] ∧ h' = h684) (kc := 0) (ks := 0) hown675 (mvT hZ675 (hw _ (List.mem_of_getElem? (i := 23) rfl))) (mvT hZ675 (hw _ (List.mem_of_getElem? (i := 24) rfl))) (mvT hZ675 (hw _ (List.mem_of_getElem? (i := 26) rfl))) (mvT hZ675 (hw _ (List.mem_of_getElem? (i := 25) rfl))) (notFace_of_selects (args := #[]) (mvT hZ675 (hw _ (List.mem_of_getElem? (i := 26) rfl)))) (by decide) (StrChars.Road.chN (W := 2) hZ675 (own_hch hw) (kI := 4) (hw _ (List.mem_of_getElem? (i := 4) rfl)) Ex675_687 Fv675_689 Fc675_688 Vb675_690 hcd692 hbd692 (S_COMPACT_STRINGS.ext Ol_686.2) cs0 (S_SIOOBE_FORMATTER.ext Ol_686.2) ir_fm Tx675.2 (i := 1) (Nat.le_of_ble_eq_true rfl) (j := (1 : Int32)) rfl (by decide) (by decide)) (by rw [hml]; rfl) (a := l675) (argsL := [(.int (1 : Int32))]) (rest := [(.int (1 : Int32)), (.ref b645)]) Ex675_687 (lenOf pd_12 rfl) rfl (Nat.le_of_ble_eq_true rfl) (hb hby at_150) rfl e684 (by decide) (by decide) fun T693 v693 L693 X693 hQ693 => ?_
      obtain ⟨rfl, rfl, e693⟩ := hQ693
      have N693 := Fr.app N684 (Fr.nil n0)
      refine Owe.castore X693 hx hZ675 e693 V684 (x := (101 : Int32)) 1 rfl (Nat.le_of_ble_eq_true rfl) (by decide) (hb hby at_153) rfl fun T694 h694 X694 e694 W694 (V694 : Arv Z h694 b645 k645 .char (6 : Int32) [(.int (nar .char (114 : Int32))), (.int (nar .char (101 : Int32))), (.int (nar .char (((((q5.toUInt64 >>> ((16 : Int32) &&& 0x3f).toInt64.toUInt64).toInt64) &&& (255 : Int64)).toInt32).toUInt32.toUInt16.toUInt32.toInt32))), (.int (nar .char (((((q5.toUInt64 >>> ((24 : Int32) &&& 0x3f).toInt64.toUInt64).toInt64) &&& (255 : Int64)).toInt32).toUInt32.toUInt16.toUInt32.toInt32))), (.int (nar .char (((((q5.toUInt64 >>> ((32 : Int32) &&& 0x3f).toInt64.toUInt64).toInt64) &&& (255 : Int64)).toInt32).toUInt32.toUInt16.toUInt32.toInt32))), (.int (nar .char (((((q5.toUInt64 >>> ((40 : Int32) &&& 0x3f).toInt64.toUInt64).toInt64) &&& (255 : Int64)).toInt32).toUInt32.toUInt16.toUInt32.toInt32)))] (.int (0 : Int32))) => ?_
      have hk695 := Nat.le_trans hk685 (Keep.of_wr W694).1
      have sf_b645_695 := Safe.wr W694 sf_b645_685 H685 sf_b645_685
      have Rr695 := Rr685.trans (CHr.wr W694 sf_b645_685 H685)
      have H695 := CHv.wr W694 sf_b645_685 H685
      have Ol_696 := Ol_686.wr W694 ge_b645
      have Ex675_697 := Ex675_687.wr W694
      have Fc675_698 := Fc675_688.other W694 (Or.inl (Ne.symm ne_b645_l675))
      have Fv675_699 := Fv675_689.other W694 (Or.inl (Ne.symm ne_b645_l675))
      have Vb675_700 := Vb675_690.other W694 (Ne.symm ne_b645_lb675)
      have Z_701 := Nat.le_trans Z_691 (Keep.of_wr W694).1
      have N694 := Fr.snoc X694 N693 ge_b645
      refine Owe.aload X694.here hx (hb hby at_154) rfl rfl ?_
      refine Owe.iconst X694.here hx (hb hby at_156) (w := (2 : Int32)) rfl ?_
      refine Owe.aload X694.here hx (hb hby at_157) rfl rfl ?_
      refine Owe.iconst X694.here hx (hb hby at_159) (w := (2 : Int32)) rfl ?_
      have hcd702 : StrChars.Road.CodA ([114, 101, 97, 100] : List Int32) 0 (4 : Int32) ((([114, 101, 97, 100] : List Int32).map (fun c => c.toInt8.toInt32)).map Value.int) := StrChars.Road.codOf (n := 4) rfl (fun x hx => (Tx675.1 x hx).2)
      have hbd702 := up ([114, 101, 97, 100] : List Int32) Tx675.1
      refine Owe.virt X694 hx hZ675 (y := (⟨"java/lang/String", "charAt", "(I)C"⟩ : MethodName)) (z := (⟨"java/lang/String", "charAt", "(I)C"⟩ : MethodName)) (Q := fun v h' L => v = some (.int (([114, 101, 97, 100] : List Int32).getD 2 0)) ∧ L = [] ∧ h' = h694) (kc := 0) (ks := 0) hown675 (mvT hZ675 (hw _ (List.mem_of_getElem? (i := 23) rfl))) (mvT hZ675 (hw _ (List.mem_of_getElem? (i := 24) rfl))) (mvT hZ675 (hw _ (List.mem_of_getElem? (i := 26) rfl))) (mvT hZ675 (hw _ (List.mem_of_getElem? (i := 25) rfl))) (notFace_of_selects (args := #[]) (mvT hZ675 (hw _ (List.mem_of_getElem? (i := 26) rfl)))) (by decide) (StrChars.Road.chN (W := 2) hZ675 (own_hch hw) (kI := 4) (hw _ (List.mem_of_getElem? (i := 4) rfl)) Ex675_697 Fv675_699 Fc675_698 Vb675_700 hcd702 hbd702 (S_COMPACT_STRINGS.ext Ol_696.2) cs0 (S_SIOOBE_FORMATTER.ext Ol_696.2) ir_fm Tx675.2 (i := 2) (Nat.le_of_ble_eq_true rfl) (j := (2 : Int32)) rfl (by decide) (by decide)) (by rw [hml]; rfl) (a := l675) (argsL := [(.int (2 : Int32))]) (rest := [(.int (2 : Int32)), (.ref b645)]) Ex675_697 (lenOf pd_12 rfl) rfl (Nat.le_of_ble_eq_true rfl) (hb hby at_160) rfl e694 (by decide) (by decide) fun T703 v703 L703 X703 hQ703 => ?_
      obtain ⟨rfl, rfl, e703⟩ := hQ703
      have N703 := Fr.app N694 (Fr.nil n0)
      refine Owe.castore X703 hx hZ675 e703 V694 (x := (97 : Int32)) 2 rfl (Nat.le_of_ble_eq_true rfl) (by decide) (hb hby at_163) rfl fun T704 h704 X704 e704 W704 (V704 : Arv Z h704 b645 k645 .char (6 : Int32) [(.int (nar .char (114 : Int32))), (.int (nar .char (101 : Int32))), (.int (nar .char (97 : Int32))), (.int (nar .char (((((q5.toUInt64 >>> ((24 : Int32) &&& 0x3f).toInt64.toUInt64).toInt64) &&& (255 : Int64)).toInt32).toUInt32.toUInt16.toUInt32.toInt32))), (.int (nar .char (((((q5.toUInt64 >>> ((32 : Int32) &&& 0x3f).toInt64.toUInt64).toInt64) &&& (255 : Int64)).toInt32).toUInt32.toUInt16.toUInt32.toInt32))), (.int (nar .char (((((q5.toUInt64 >>> ((40 : Int32) &&& 0x3f).toInt64.toUInt64).toInt64) &&& (255 : Int64)).toInt32).toUInt32.toUInt16.toUInt32.toInt32)))] (.int (0 : Int32))) => ?_
      have hk705 := Nat.le_trans hk695 (Keep.of_wr W704).1
      have sf_b645_705 := Safe.wr W704 sf_b645_695 H695 sf_b645_695
      have Rr705 := Rr695.trans (CHr.wr W704 sf_b645_695 H695)
      have H705 := CHv.wr W704 sf_b645_695 H695
      have Ol_706 := Ol_696.wr W704 ge_b645
      have Ex675_707 := Ex675_697.wr W704
      have Fc675_708 := Fc675_698.other W704 (Or.inl (Ne.symm ne_b645_l675))
      have Fv675_709 := Fv675_699.other W704 (Or.inl (Ne.symm ne_b645_l675))
      have Vb675_710 := Vb675_700.other W704 (Ne.symm ne_b645_lb675)
      have Z_711 := Nat.le_trans Z_701 (Keep.of_wr W704).1
      have N704 := Fr.snoc X704 N703 ge_b645
      refine Owe.aload X704.here hx (hb hby at_164) rfl rfl ?_
      refine Owe.iconst X704.here hx (hb hby at_166) (w := (3 : Int32)) rfl ?_
      refine Owe.aload X704.here hx (hb hby at_167) rfl rfl ?_
      refine Owe.iconst X704.here hx (hb hby at_169) (w := (3 : Int32)) rfl ?_
      have hcd712 : StrChars.Road.CodA ([114, 101, 97, 100] : List Int32) 0 (4 : Int32) ((([114, 101, 97, 100] : List Int32).map (fun c => c.toInt8.toInt32)).map Value.int) := StrChars.Road.codOf (n := 4) rfl (fun x hx => (Tx675.1 x hx).2)
      have hbd712 := up ([114, 101, 97, 100] : List Int32) Tx675.1
      refine Owe.virt X704 hx hZ675 (y := (⟨"java/lang/String", "charAt", "(I)C"⟩ : MethodName)) (z := (⟨"java/lang/String", "charAt", "(I)C"⟩ : MethodName)) (Q := fun v h' L => v = some (.int (([114, 101, 97, 100] : List Int32).getD 3 0)) ∧ L = [] ∧ h' = h704) (kc := 0) (ks := 0) hown675 (mvT hZ675 (hw _ (List.mem_of_getElem? (i := 23) rfl))) (mvT hZ675 (hw _ (List.mem_of_getElem? (i := 24) rfl))) (mvT hZ675 (hw _ (List.mem_of_getElem? (i := 26) rfl))) (mvT hZ675 (hw _ (List.mem_of_getElem? (i := 25) rfl))) (notFace_of_selects (args := #[]) (mvT hZ675 (hw _ (List.mem_of_getElem? (i := 26) rfl)))) (by decide) (StrChars.Road.chN (W := 2) hZ675 (own_hch hw) (kI := 4) (hw _ (List.mem_of_getElem? (i := 4) rfl)) Ex675_707 Fv675_709 Fc675_708 Vb675_710 hcd712 hbd712 (S_COMPACT_STRINGS.ext Ol_706.2) cs0 (S_SIOOBE_FORMATTER.ext Ol_706.2) ir_fm Tx675.2 (i := 3) (Nat.le_of_ble_eq_true rfl) (j := (3 : Int32)) rfl (by decide) (by decide)) (by rw [hml]; rfl) (a := l675) (argsL := [(.int (3 : Int32))]) (rest := [(.int (3 : Int32)), (.ref b645)]) Ex675_707 (lenOf pd_12 rfl) rfl (Nat.le_of_ble_eq_true rfl) (hb hby at_170) rfl e704 (by decide) (by decide) fun T713 v713 L713 X713 hQ713 => ?_
      obtain ⟨rfl, rfl, e713⟩ := hQ713
      have N713 := Fr.app N704 (Fr.nil n0)
      refine Owe.castore X713 hx hZ675 e713 V704 (x := (100 : Int32)) 3 rfl (Nat.le_of_ble_eq_true rfl) (by decide) (hb hby at_173) rfl fun T714 h714 X714 e714 W714 (V714 : Arv Z h714 b645 k645 .char (6 : Int32) [(.int (nar .char (114 : Int32))), (.int (nar .char (101 : Int32))), (.int (nar .char (97 : Int32))), (.int (nar .char (100 : Int32))), (.int (nar .char (((((q5.toUInt64 >>> ((32 : Int32) &&& 0x3f).toInt64.toUInt64).toInt64) &&& (255 : Int64)).toInt32).toUInt32.toUInt16.toUInt32.toInt32))), (.int (nar .char (((((q5.toUInt64 >>> ((40 : Int32) &&& 0x3f).toInt64.toUInt64).toInt64) &&& (255 : Int64)).toInt32).toUInt32.toUInt16.toUInt32.toInt32)))] (.int (0 : Int32))) => ?_
      have hk715 := Nat.le_trans hk705 (Keep.of_wr W714).1
      have sf_b645_715 := Safe.wr W714 sf_b645_705 H705 sf_b645_705
      have Rr715 := Rr705.trans (CHr.wr W714 sf_b645_705 H705)
      have H715 := CHv.wr W714 sf_b645_705 H705
      have Ol_716 := Ol_706.wr W714 ge_b645
      have Ex675_717 := Ex675_707.wr W714
      have Fc675_718 := Fc675_708.other W714 (Or.inl (Ne.symm ne_b645_l675))
      have Fv675_719 := Fv675_709.other W714 (Or.inl (Ne.symm ne_b645_l675))
      have Vb675_720 := Vb675_710.other W714 (Ne.symm ne_b645_lb675)
      have Z_721 := Nat.le_trans Z_711 (Keep.of_wr W714).1
      have N714 := Fr.snoc X714 N713 ge_b645
      refine Owe.iload X714.here hx (hb hby at_174) rfl ?_
      refine Owe.iconst X714.here hx (hb hby at_176) (w := (4 : Int32)) rfl ?_
      refine Owe.icmpYes X714.here hx (hb hby at_177) rfl (flt (by decide)).2.2.2 (pc' := 190) (by decide) (by decide) ?_
      refine Owe.iload X714.here hx (hb hby at_190) rfl ?_
      refine Owe.istore X714.here hx (hb hby at_192) rfl (l' := #[.val (.int p1), .val (.int p2), .val (.int p3), .val (.int p4), .val (.long q5), .second, .val (.ref b645), .val (.int (4 : Int32)), .val (.int (p1 &&& (3 : Int32))), .val (.ref l675), .val (.int (4 : Int32)), .unset, .unset]) rfl ?_
      refine Owe.iloadN X714.here hx (hb hby at_194) rfl ?_
      refine Owe.iconst X714.here hx (hb hby at_195) (w := (2 : Int32)) rfl ?_
      refine Owe.iushr X714.here hx (hb hby at_196) rfl ?_
      refine Owe.iconst X714.here hx (hb hby at_197) (w := (3 : Int32)) rfl ?_
      refine Owe.iand X714.here hx (hb hby at_198) rfl ?_
      refine Owe.istore X714.here hx (hb hby at_199) rfl (l' := #[.val (.int p1), .val (.int p2), .val (.int p3), .val (.int p4), .val (.long q5), .second, .val (.ref b645), .val (.int (4 : Int32)), .val (.int (p1 &&& (3 : Int32))), .val (.ref l675), .val (.int (4 : Int32)), .val (.int (((p1.toUInt32 >>> ((2 : Int32) &&& 31).toUInt32).toInt32) &&& (3 : Int32))), .unset]) rfl ?_
      refine Owe.iloadN X714.here hx (hb hby at_201) rfl ?_
      refine Owe.sipush X714.here hx (hb hby at_202) (w := (255 : Int32)) rfl ?_
      refine Owe.iand X714.here hx (hb hby at_205) rfl ?_
      refine Owe.i2c X714.here hx (hb hby at_206) rfl ?_
      refine Owe.istore X714.here hx (hb hby at_207) rfl (l' := #[.val (.int p1), .val (.int p2), .val (.int p3), .val (.int p4), .val (.long q5), .second, .val (.ref b645), .val (.int (4 : Int32)), .val (.int (p1 &&& (3 : Int32))), .val (.ref l675), .val (.int (4 : Int32)), .val (.int (((p1.toUInt32 >>> ((2 : Int32) &&& 31).toUInt32).toInt32) &&& (3 : Int32))), .val (.int ((p4 &&& (255 : Int32)).toUInt32.toUInt16.toUInt32.toInt32))]) rfl ?_
      refine Owe.iload X714.here hx (hb hby at_209) rfl ?_
      refine Owe.iconst X714.here hx (hb hby at_211) (w := (1 : Int32)) rfl ?_
      by_cases hc212_722 : (((p1.toUInt32 >>> ((2 : Int32) &&& 31).toUInt32).toInt32) &&& (3 : Int32)) = (1 : Int32)
      · skip
        refine Owe.icmpNo X714.here hx (hb hby at_212) rfl (teq hc212_722).2 ?_
        refine Owe.aload X714.here hx (hb hby at_215) rfl rfl ?_
        refine Owe.iloadN X714.here hx (hb hby at_217) rfl ?_
        refine Owe.ldcI X714 hx (v := (2147483647 : Int32)) hown675 (mvT hZ675 (hw _ (List.mem_of_getElem? (i := 137) rfl))) (hb hby at_218) ?_
        refine Owe.iand X714.here hx (hb hby at_220) rfl ?_
        refine Owe.iload X714.here hx (hb hby at_221) rfl ?_
        refine Owe.irem X714.here hx (hb hby at_223) rfl (by decide) ?_
        rcases own_rem4 p3 with hk | hk | hk | hk
        · rw [hk]
          refine Owe.iload X714.here hx (hb hby at_224) rfl ?_
          refine Owe.castore X714 hx hZ675 e714 V714 (x := ((p4 &&& (255 : Int32)).toUInt32.toUInt16.toUInt32.toInt32)) 0 rfl (Nat.le_of_ble_eq_true rfl) (by decide) (hb hby at_226) rfl fun T723 h723 X723 e723 W723 (V723 : Arv Z h723 b645 k645 .char (6 : Int32) [(.int (nar .char ((p4 &&& (255 : Int32)).toUInt32.toUInt16.toUInt32.toInt32))), (.int (nar .char (101 : Int32))), (.int (nar .char (97 : Int32))), (.int (nar .char (100 : Int32))), (.int (nar .char (((((q5.toUInt64 >>> ((32 : Int32) &&& 0x3f).toInt64.toUInt64).toInt64) &&& (255 : Int64)).toInt32).toUInt32.toUInt16.toUInt32.toInt32))), (.int (nar .char (((((q5.toUInt64 >>> ((40 : Int32) &&& 0x3f).toInt64.toUInt64).toInt64) &&& (255 : Int64)).toInt32).toUInt32.toUInt16.toUInt32.toInt32)))] (.int (0 : Int32))) => ?_
          have hk724 := Nat.le_trans hk715 (Keep.of_wr W723).1
          have sf_b645_724 := Safe.wr W723 sf_b645_715 H715 sf_b645_715
          have Rr724 := Rr715.trans (CHr.wr W723 sf_b645_715 H715)
          have H724 := CHv.wr W723 sf_b645_715 H715
          have Ol_725 := Ol_716.wr W723 ge_b645
          have Ex675_726 := Ex675_717.wr W723
          have Fc675_727 := Fc675_718.other W723 (Or.inl (Ne.symm ne_b645_l675))
          have Fv675_728 := Fv675_719.other W723 (Or.inl (Ne.symm ne_b645_l675))
          have Vb675_729 := Vb675_720.other W723 (Ne.symm ne_b645_lb675)
          have Z_730 := Nat.le_trans Z_721 (Keep.of_wr W723).1
          have N723 := Fr.snoc X723 N714 ge_b645
          refine Owe.goto X723.here hx (hb hby at_227) (pc' := 267) (by decide) (by decide) ?_
          refine Owe.aload X723.here hx (hb hby at_267) rfl rfl ?_
          refine Owe.iload X723.here hx (hb hby at_269) rfl ?_
          refine Owe.stat X723 hx (y := (⟨"com/example/wade/wade/monitor/AccessGoverningPinLaw", "make", "([CI)Ljava/lang/String;"⟩ : MethodName)) hown675 (mvT hZ675 (hw _ (List.mem_of_getElem? (i := 45) rfl))) (mvT hZ675 (hw _ (List.mem_of_getElem? (i := 46) rfl))) (mvT hZ675 (hw _ (List.mem_of_getElem? (i := 47) rfl))) (mvT hZ675 (hw _ (List.mem_of_getElem? (i := 48) rfl))) (by decide) (backOf (W := 0) (rmmk4 l Z a0 hw [] b645 k645 (nar .char ((p4 &&& (255 : Int32)).toUInt32.toUInt16.toUInt32.toInt32)) (nar .char (101 : Int32)) (nar .char (97 : Int32)) (nar .char (100 : Int32)) (nar .char (((((q5.toUInt64 >>> ((32 : Int32) &&& 0x3f).toInt64.toUInt64).toInt64) &&& (255 : Int64)).toInt32).toUInt32.toUInt16.toUInt32.toInt32)) (nar .char (((((q5.toUInt64 >>> ((40 : Int32) &&& 0x3f).toInt64.toUInt64).toInt64) &&& (255 : Int64)).toInt32).toUInt32.toUInt16.toUInt32.toInt32)) G1 h723 n0 Z_730 V723 (and255_chars _) (by decide) (by decide) (by decide) (own_c255L _) (own_c255L _) S_COMPACT_STRINGS cs0 Ol_725) hZ675 (hw _ (List.mem_of_getElem? (i := 48) rfl)) (hw _ (List.mem_of_getElem? (i := 47) rfl)) (by decide) (by decide)) (by rw [hml]; rfl) (argsL := [(.ref b645), (.int (4 : Int32))]) (rest := []) (lenOf pd_13 rfl) rfl (Nat.le_of_ble_eq_true rfl) (hb hby at_271) rfl e723 (by decide) (by decide) fun T731 v731 L731 X731 hQ731 => ?_
          obtain ⟨x1_731, t1_731, kb1_731, rfl, Nq731, K731, ge_x1_731, fresh_x1_731, E_x1_731, Fvalue_x1_731, Fcoder_x1_731, V_t1_731, Tx_x1_731⟩ := hQ731
          have N731 := Fr.app N723 Nq731
          have hk732 := Nat.le_trans hk724 K731.1
          have sf_b645_732 := Safe.keep K731 sf0 H724 sf_b645_724
          have Rr732 := Rr724.trans (CHr.keep K731 sf0 H724)
          have H732 := CHv.keep K731 sf0 H724
          have Ol_733 := Ol_725.keep K731 all0
          have V723_734 := V723.keep K731 nin0
          have Ex675_735 := Ex675_726.keep K731
          have Fc675_736 := Fc675_727.keep K731 nin0
          have Fv675_737 := Fv675_728.keep K731 nin0
          have Vb675_738 := Vb675_729.keep K731 nin0
          have Z_739 := Nat.le_trans Z_730 K731.1
          have ne_b645_x1_731 : b645 ≠ x1_731 := Nat.ne_of_lt (Nat.lt_of_lt_of_le V723.lt fresh_x1_731)
          have ne_l675_x1_731 : l675 ≠ x1_731 := Nat.ne_of_lt (Nat.lt_of_lt_of_le Ex675_726.lt fresh_x1_731)
          have ne_lb675_x1_731 : lb675 ≠ x1_731 := Nat.ne_of_lt (Nat.lt_of_lt_of_le Vb675_729.lt fresh_x1_731)
          exact cut274_b _ _ _ _ _ _ _ _ _ _ _ _ _ _ _ _ (X731.mono (by decide) (by decide)) rfl hS675 hk732 hZ675 hown675 N731 Z_739 Ol_733 H732 Rr732 E_x1_731 Fvalue_x1_731 Fcoder_x1_731 V_t1_731 Tx_x1_731
        · rw [hk]
          refine Owe.iload X714.here hx (hb hby at_224) rfl ?_
          refine Owe.castore X714 hx hZ675 e714 V714 (x := ((p4 &&& (255 : Int32)).toUInt32.toUInt16.toUInt32.toInt32)) 1 rfl (Nat.le_of_ble_eq_true rfl) (by decide) (hb hby at_226) rfl fun T740 h740 X740 e740 W740 (V740 : Arv Z h740 b645 k645 .char (6 : Int32) [(.int (nar .char (114 : Int32))), (.int (nar .char ((p4 &&& (255 : Int32)).toUInt32.toUInt16.toUInt32.toInt32))), (.int (nar .char (97 : Int32))), (.int (nar .char (100 : Int32))), (.int (nar .char (((((q5.toUInt64 >>> ((32 : Int32) &&& 0x3f).toInt64.toUInt64).toInt64) &&& (255 : Int64)).toInt32).toUInt32.toUInt16.toUInt32.toInt32))), (.int (nar .char (((((q5.toUInt64 >>> ((40 : Int32) &&& 0x3f).toInt64.toUInt64).toInt64) &&& (255 : Int64)).toInt32).toUInt32.toUInt16.toUInt32.toInt32)))] (.int (0 : Int32))) => ?_
          have hk741 := Nat.le_trans hk715 (Keep.of_wr W740).1
          have sf_b645_741 := Safe.wr W740 sf_b645_715 H715 sf_b645_715
          have Rr741 := Rr715.trans (CHr.wr W740 sf_b645_715 H715)
          have H741 := CHv.wr W740 sf_b645_715 H715
          have Ol_742 := Ol_716.wr W740 ge_b645
          have Ex675_743 := Ex675_717.wr W740
          have Fc675_744 := Fc675_718.other W740 (Or.inl (Ne.symm ne_b645_l675))
          have Fv675_745 := Fv675_719.other W740 (Or.inl (Ne.symm ne_b645_l675))
          have Vb675_746 := Vb675_720.other W740 (Ne.symm ne_b645_lb675)
          have Z_747 := Nat.le_trans Z_721 (Keep.of_wr W740).1
          have N740 := Fr.snoc X740 N714 ge_b645
          refine Owe.goto X740.here hx (hb hby at_227) (pc' := 267) (by decide) (by decide) ?_
          refine Owe.aload X740.here hx (hb hby at_267) rfl rfl ?_
          refine Owe.iload X740.here hx (hb hby at_269) rfl ?_
          refine Owe.stat X740 hx (y := (⟨"com/example/wade/wade/monitor/AccessGoverningPinLaw", "make", "([CI)Ljava/lang/String;"⟩ : MethodName)) hown675 (mvT hZ675 (hw _ (List.mem_of_getElem? (i := 45) rfl))) (mvT hZ675 (hw _ (List.mem_of_getElem? (i := 46) rfl))) (mvT hZ675 (hw _ (List.mem_of_getElem? (i := 47) rfl))) (mvT hZ675 (hw _ (List.mem_of_getElem? (i := 48) rfl))) (by decide) (backOf (W := 0) (rmmk4 l Z a0 hw [] b645 k645 (nar .char (114 : Int32)) (nar .char ((p4 &&& (255 : Int32)).toUInt32.toUInt16.toUInt32.toInt32)) (nar .char (97 : Int32)) (nar .char (100 : Int32)) (nar .char (((((q5.toUInt64 >>> ((32 : Int32) &&& 0x3f).toInt64.toUInt64).toInt64) &&& (255 : Int64)).toInt32).toUInt32.toUInt16.toUInt32.toInt32)) (nar .char (((((q5.toUInt64 >>> ((40 : Int32) &&& 0x3f).toInt64.toUInt64).toInt64) &&& (255 : Int64)).toInt32).toUInt32.toUInt16.toUInt32.toInt32)) G1 h740 n0 Z_747 V740 (by decide) (and255_chars _) (by decide) (by decide) (own_c255L _) (own_c255L _) S_COMPACT_STRINGS cs0 Ol_742) hZ675 (hw _ (List.mem_of_getElem? (i := 48) rfl)) (hw _ (List.mem_of_getElem? (i := 47) rfl)) (by decide) (by decide)) (by rw [hml]; rfl) (argsL := [(.ref b645), (.int (4 : Int32))]) (rest := []) (lenOf pd_13 rfl) rfl (Nat.le_of_ble_eq_true rfl) (hb hby at_271) rfl e740 (by decide) (by decide) fun T748 v748 L748 X748 hQ748 => ?_
          obtain ⟨x1_748, t1_748, kb1_748, rfl, Nq748, K748, ge_x1_748, fresh_x1_748, E_x1_748, Fvalue_x1_748, Fcoder_x1_748, V_t1_748, Tx_x1_748⟩ := hQ748
          have N748 := Fr.app N740 Nq748
          have hk749 := Nat.le_trans hk741 K748.1
          have sf_b645_749 := Safe.keep K748 sf0 H741 sf_b645_741
          have Rr749 := Rr741.trans (CHr.keep K748 sf0 H741)
          have H749 := CHv.keep K748 sf0 H741
          have Ol_750 := Ol_742.keep K748 all0
          have V740_751 := V740.keep K748 nin0
          have Ex675_752 := Ex675_743.keep K748
          have Fc675_753 := Fc675_744.keep K748 nin0
          have Fv675_754 := Fv675_745.keep K748 nin0
          have Vb675_755 := Vb675_746.keep K748 nin0
          have Z_756 := Nat.le_trans Z_747 K748.1
          have ne_b645_x1_748 : b645 ≠ x1_748 := Nat.ne_of_lt (Nat.lt_of_lt_of_le V740.lt fresh_x1_748)
          have ne_l675_x1_748 : l675 ≠ x1_748 := Nat.ne_of_lt (Nat.lt_of_lt_of_le Ex675_743.lt fresh_x1_748)
          have ne_lb675_x1_748 : lb675 ≠ x1_748 := Nat.ne_of_lt (Nat.lt_of_lt_of_le Vb675_746.lt fresh_x1_748)
          exact cut274_b _ _ _ _ _ _ _ _ _ _ _ _ _ _ _ _ (X748.mono (by decide) (by decide)) rfl hS675 hk749 hZ675 hown675 N748 Z_756 Ol_750 H749 Rr749 E_x1_748 Fvalue_x1_748 Fcoder_x1_748 V_t1_748 Tx_x1_748
        · rw [hk]
          refine Owe.iload X714.here hx (hb hby at_224) rfl ?_
          refine Owe.castore X714 hx hZ675 e714 V714 (x := ((p4 &&& (255 : Int32)).toUInt32.toUInt16.toUInt32.toInt32)) 2 rfl (Nat.le_of_ble_eq_true rfl) (by decide) (hb hby at_226) rfl fun T757 h757 X757 e757 W757 (V757 : Arv Z h757 b645 k645 .char (6 : Int32) [(.int (nar .char (114 : Int32))), (.int (nar .char (101 : Int32))), (.int (nar .char ((p4 &&& (255 : Int32)).toUInt32.toUInt16.toUInt32.toInt32))), (.int (nar .char (100 : Int32))), (.int (nar .char (((((q5.toUInt64 >>> ((32 : Int32) &&& 0x3f).toInt64.toUInt64).toInt64) &&& (255 : Int64)).toInt32).toUInt32.toUInt16.toUInt32.toInt32))), (.int (nar .char (((((q5.toUInt64 >>> ((40 : Int32) &&& 0x3f).toInt64.toUInt64).toInt64) &&& (255 : Int64)).toInt32).toUInt32.toUInt16.toUInt32.toInt32)))] (.int (0 : Int32))) => ?_
          have hk758 := Nat.le_trans hk715 (Keep.of_wr W757).1
          have sf_b645_758 := Safe.wr W757 sf_b645_715 H715 sf_b645_715
          have Rr758 := Rr715.trans (CHr.wr W757 sf_b645_715 H715)
          have H758 := CHv.wr W757 sf_b645_715 H715
          have Ol_759 := Ol_716.wr W757 ge_b645
          have Ex675_760 := Ex675_717.wr W757
          have Fc675_761 := Fc675_718.other W757 (Or.inl (Ne.symm ne_b645_l675))
          have Fv675_762 := Fv675_719.other W757 (Or.inl (Ne.symm ne_b645_l675))
          have Vb675_763 := Vb675_720.other W757 (Ne.symm ne_b645_lb675)
          have Z_764 := Nat.le_trans Z_721 (Keep.of_wr W757).1
          have N757 := Fr.snoc X757 N714 ge_b645
          refine Owe.goto X757.here hx (hb hby at_227) (pc' := 267) (by decide) (by decide) ?_
          refine Owe.aload X757.here hx (hb hby at_267) rfl rfl ?_
          refine Owe.iload X757.here hx (hb hby at_269) rfl ?_
          refine Owe.stat X757 hx (y := (⟨"com/example/wade/wade/monitor/AccessGoverningPinLaw", "make", "([CI)Ljava/lang/String;"⟩ : MethodName)) hown675 (mvT hZ675 (hw _ (List.mem_of_getElem? (i := 45) rfl))) (mvT hZ675 (hw _ (List.mem_of_getElem? (i := 46) rfl))) (mvT hZ675 (hw _ (List.mem_of_getElem? (i := 47) rfl))) (mvT hZ675 (hw _ (List.mem_of_getElem? (i := 48) rfl))) (by decide) (backOf (W := 0) (rmmk4 l Z a0 hw [] b645 k645 (nar .char (114 : Int32)) (nar .char (101 : Int32)) (nar .char ((p4 &&& (255 : Int32)).toUInt32.toUInt16.toUInt32.toInt32)) (nar .char (100 : Int32)) (nar .char (((((q5.toUInt64 >>> ((32 : Int32) &&& 0x3f).toInt64.toUInt64).toInt64) &&& (255 : Int64)).toInt32).toUInt32.toUInt16.toUInt32.toInt32)) (nar .char (((((q5.toUInt64 >>> ((40 : Int32) &&& 0x3f).toInt64.toUInt64).toInt64) &&& (255 : Int64)).toInt32).toUInt32.toUInt16.toUInt32.toInt32)) G1 h757 n0 Z_764 V757 (by decide) (by decide) (and255_chars _) (by decide) (own_c255L _) (own_c255L _) S_COMPACT_STRINGS cs0 Ol_759) hZ675 (hw _ (List.mem_of_getElem? (i := 48) rfl)) (hw _ (List.mem_of_getElem? (i := 47) rfl)) (by decide) (by decide)) (by rw [hml]; rfl) (argsL := [(.ref b645), (.int (4 : Int32))]) (rest := []) (lenOf pd_13 rfl) rfl (Nat.le_of_ble_eq_true rfl) (hb hby at_271) rfl e757 (by decide) (by decide) fun T765 v765 L765 X765 hQ765 => ?_
          obtain ⟨x1_765, t1_765, kb1_765, rfl, Nq765, K765, ge_x1_765, fresh_x1_765, E_x1_765, Fvalue_x1_765, Fcoder_x1_765, V_t1_765, Tx_x1_765⟩ := hQ765
          have N765 := Fr.app N757 Nq765
          have hk766 := Nat.le_trans hk758 K765.1
          have sf_b645_766 := Safe.keep K765 sf0 H758 sf_b645_758
          have Rr766 := Rr758.trans (CHr.keep K765 sf0 H758)
          have H766 := CHv.keep K765 sf0 H758
          have Ol_767 := Ol_759.keep K765 all0
          have V757_768 := V757.keep K765 nin0
          have Ex675_769 := Ex675_760.keep K765
          have Fc675_770 := Fc675_761.keep K765 nin0
          have Fv675_771 := Fv675_762.keep K765 nin0
          have Vb675_772 := Vb675_763.keep K765 nin0
          have Z_773 := Nat.le_trans Z_764 K765.1
          have ne_b645_x1_765 : b645 ≠ x1_765 := Nat.ne_of_lt (Nat.lt_of_lt_of_le V757.lt fresh_x1_765)
          have ne_l675_x1_765 : l675 ≠ x1_765 := Nat.ne_of_lt (Nat.lt_of_lt_of_le Ex675_760.lt fresh_x1_765)
          have ne_lb675_x1_765 : lb675 ≠ x1_765 := Nat.ne_of_lt (Nat.lt_of_lt_of_le Vb675_763.lt fresh_x1_765)
          exact cut274_b _ _ _ _ _ _ _ _ _ _ _ _ _ _ _ _ (X765.mono (by decide) (by decide)) rfl hS675 hk766 hZ675 hown675 N765 Z_773 Ol_767 H766 Rr766 E_x1_765 Fvalue_x1_765 Fcoder_x1_765 V_t1_765 Tx_x1_765
        · rw [hk]
          refine Owe.iload X714.here hx (hb hby at_224) rfl ?_
          refine Owe.castore X714 hx hZ675 e714 V714 (x := ((p4 &&& (255 : Int32)).toUInt32.toUInt16.toUInt32.toInt32)) 3 rfl (Nat.le_of_ble_eq_true rfl) (by decide) (hb hby at_226) rfl fun T774 h774 X774 e774 W774 (V774 : Arv Z h774 b645 k645 .char (6 : Int32) [(.int (nar .char (114 : Int32))), (.int (nar .char (101 : Int32))), (.int (nar .char (97 : Int32))), (.int (nar .char ((p4 &&& (255 : Int32)).toUInt32.toUInt16.toUInt32.toInt32))), (.int (nar .char (((((q5.toUInt64 >>> ((32 : Int32) &&& 0x3f).toInt64.toUInt64).toInt64) &&& (255 : Int64)).toInt32).toUInt32.toUInt16.toUInt32.toInt32))), (.int (nar .char (((((q5.toUInt64 >>> ((40 : Int32) &&& 0x3f).toInt64.toUInt64).toInt64) &&& (255 : Int64)).toInt32).toUInt32.toUInt16.toUInt32.toInt32)))] (.int (0 : Int32))) => ?_
          have hk775 := Nat.le_trans hk715 (Keep.of_wr W774).1
          have sf_b645_775 := Safe.wr W774 sf_b645_715 H715 sf_b645_715
          have Rr775 := Rr715.trans (CHr.wr W774 sf_b645_715 H715)
          have H775 := CHv.wr W774 sf_b645_715 H715
          have Ol_776 := Ol_716.wr W774 ge_b645
          have Ex675_777 := Ex675_717.wr W774
          have Fc675_778 := Fc675_718.other W774 (Or.inl (Ne.symm ne_b645_l675))
          have Fv675_779 := Fv675_719.other W774 (Or.inl (Ne.symm ne_b645_l675))
          have Vb675_780 := Vb675_720.other W774 (Ne.symm ne_b645_lb675)
          have Z_781 := Nat.le_trans Z_721 (Keep.of_wr W774).1
          have N774 := Fr.snoc X774 N714 ge_b645
          refine Owe.goto X774.here hx (hb hby at_227) (pc' := 267) (by decide) (by decide) ?_
          refine Owe.aload X774.here hx (hb hby at_267) rfl rfl ?_
          refine Owe.iload X774.here hx (hb hby at_269) rfl ?_
          refine Owe.stat X774 hx (y := (⟨"com/example/wade/wade/monitor/AccessGoverningPinLaw", "make", "([CI)Ljava/lang/String;"⟩ : MethodName)) hown675 (mvT hZ675 (hw _ (List.mem_of_getElem? (i := 45) rfl))) (mvT hZ675 (hw _ (List.mem_of_getElem? (i := 46) rfl))) (mvT hZ675 (hw _ (List.mem_of_getElem? (i := 47) rfl))) (mvT hZ675 (hw _ (List.mem_of_getElem? (i := 48) rfl))) (by decide) (backOf (W := 0) (rmmk4 l Z a0 hw [] b645 k645 (nar .char (114 : Int32)) (nar .char (101 : Int32)) (nar .char (97 : Int32)) (nar .char ((p4 &&& (255 : Int32)).toUInt32.toUInt16.toUInt32.toInt32)) (nar .char (((((q5.toUInt64 >>> ((32 : Int32) &&& 0x3f).toInt64.toUInt64).toInt64) &&& (255 : Int64)).toInt32).toUInt32.toUInt16.toUInt32.toInt32)) (nar .char (((((q5.toUInt64 >>> ((40 : Int32) &&& 0x3f).toInt64.toUInt64).toInt64) &&& (255 : Int64)).toInt32).toUInt32.toUInt16.toUInt32.toInt32)) G1 h774 n0 Z_781 V774 (by decide) (by decide) (by decide) (and255_chars _) (own_c255L _) (own_c255L _) S_COMPACT_STRINGS cs0 Ol_776) hZ675 (hw _ (List.mem_of_getElem? (i := 48) rfl)) (hw _ (List.mem_of_getElem? (i := 47) rfl)) (by decide) (by decide)) (by rw [hml]; rfl) (argsL := [(.ref b645), (.int (4 : Int32))]) (rest := []) (lenOf pd_13 rfl) rfl (Nat.le_of_ble_eq_true rfl) (hb hby at_271) rfl e774 (by decide) (by decide) fun T782 v782 L782 X782 hQ782 => ?_
          obtain ⟨x1_782, t1_782, kb1_782, rfl, Nq782, K782, ge_x1_782, fresh_x1_782, E_x1_782, Fvalue_x1_782, Fcoder_x1_782, V_t1_782, Tx_x1_782⟩ := hQ782
          have N782 := Fr.app N774 Nq782
          have hk783 := Nat.le_trans hk775 K782.1
          have sf_b645_783 := Safe.keep K782 sf0 H775 sf_b645_775
          have Rr783 := Rr775.trans (CHr.keep K782 sf0 H775)
          have H783 := CHv.keep K782 sf0 H775
          have Ol_784 := Ol_776.keep K782 all0
          have V774_785 := V774.keep K782 nin0
          have Ex675_786 := Ex675_777.keep K782
          have Fc675_787 := Fc675_778.keep K782 nin0
          have Fv675_788 := Fv675_779.keep K782 nin0
          have Vb675_789 := Vb675_780.keep K782 nin0
          have Z_790 := Nat.le_trans Z_781 K782.1
          have ne_b645_x1_782 : b645 ≠ x1_782 := Nat.ne_of_lt (Nat.lt_of_lt_of_le V774.lt fresh_x1_782)
          have ne_l675_x1_782 : l675 ≠ x1_782 := Nat.ne_of_lt (Nat.lt_of_lt_of_le Ex675_777.lt fresh_x1_782)
          have ne_lb675_x1_782 : lb675 ≠ x1_782 := Nat.ne_of_lt (Nat.lt_of_lt_of_le Vb675_780.lt fresh_x1_782)
          exact cut274_b _ _ _ _ _ _ _ _ _ _ _ _ _ _ _ _ (X782.mono (by decide) (by decide)) rfl hS675 hk783 hZ675 hown675 N782 Z_790 Ol_784 H783 Rr783 E_x1_782 Fvalue_x1_782 Fcoder_x1_782 V_t1_782 Tx_x1_782
      · skip
        refine Owe.icmpYes X714.here hx (hb hby at_212) rfl (feq hc212_722).2 (pc' := 230) (by decide) (by decide) ?_
        refine Owe.iload X714.here hx (hb hby at_230) rfl ?_
        refine Owe.iconst X714.here hx (hb hby at_232) (w := (2 : Int32)) rfl ?_
        by_cases hc233_791 : (((p1.toUInt32 >>> ((2 : Int32) &&& 31).toUInt32).toInt32) &&& (3 : Int32)) = (2 : Int32)
        · skip
          refine Owe.icmpNo X714.here hx (hb hby at_233) rfl (teq hc233_791).2 ?_
          refine Owe.iloadN X714.here hx (hb hby at_236) rfl ?_
          refine Owe.ldcI X714 hx (v := (2147483647 : Int32)) hown675 (mvT hZ675 (hw _ (List.mem_of_getElem? (i := 137) rfl))) (hb hby at_237) ?_
          refine Owe.iand X714.here hx (hb hby at_239) rfl ?_
          refine Owe.iload X714.here hx (hb hby at_240) rfl ?_
          refine Owe.irem X714.here hx (hb hby at_242) rfl (by decide) ?_
          rcases own_rem4 p2 with hk | hk | hk | hk
          · rw [hk]
            refine Owe.istore X714.here hx (hb hby at_243) rfl (l' := #[.val (.int p1), .val (.int p2), .val (.int p3), .val (.int p4), .val (.long q5), .second, .val (.ref b645), .val (.int (0 : Int32)), .val (.int (p1 &&& (3 : Int32))), .val (.ref l675), .val (.int (4 : Int32)), .val (.int (((p1.toUInt32 >>> ((2 : Int32) &&& 31).toUInt32).toInt32) &&& (3 : Int32))), .val (.int ((p4 &&& (255 : Int32)).toUInt32.toUInt16.toUInt32.toInt32))]) rfl ?_
            refine Owe.goto X714.here hx (hb hby at_245) (pc' := 267) (by decide) (by decide) ?_
            refine Owe.aload X714.here hx (hb hby at_267) rfl rfl ?_
            refine Owe.iload X714.here hx (hb hby at_269) rfl ?_
            refine Owe.statS X714 hx hZ675 hS675 hk715 (y := (⟨"com/example/wade/wade/monitor/AccessGoverningPinLaw", "make", "([CI)Ljava/lang/String;"⟩ : MethodName)) hown675 (mvT hZ675 (hw _ (List.mem_of_getElem? (i := 45) rfl))) (mvT hZ675 (hw _ (List.mem_of_getElem? (i := 46) rfl))) (mvT hZ675 (hw _ (List.mem_of_getElem? (i := 47) rfl))) (mvT hZ675 (hw _ (List.mem_of_getElem? (i := 48) rfl))) (by decide) (backOfSH (W := 0) (rmmk0 l Z a0 hw [] b645 k645 (nar .char (114 : Int32)) (nar .char (101 : Int32)) (nar .char (97 : Int32)) (nar .char (100 : Int32)) (nar .char (((((q5.toUInt64 >>> ((32 : Int32) &&& 0x3f).toInt64.toUInt64).toInt64) &&& (255 : Int64)).toInt32).toUInt32.toUInt16.toUInt32.toInt32)) (nar .char (((((q5.toUInt64 >>> ((40 : Int32) &&& 0x3f).toInt64.toUInt64).toInt64) &&& (255 : Int64)).toInt32).toUInt32.toUInt16.toUInt32.toInt32)) G1 h714 n0 Z_721 V714 (by decide) (by decide) (by decide) (by decide) (own_c255L _) (own_c255L _) S_COMPACT_STRINGS cs0 Ol_716) hZ675 (hw _ (List.mem_of_getElem? (i := 48) rfl)) (hw _ (List.mem_of_getElem? (i := 47) rfl)) (by decide) (by decide) (own_ew hw) H715) (by rw [hml]; rfl) (argsL := [(.ref b645), (.int (0 : Int32))]) (rest := []) (lenOf pd_13 rfl) rfl (Nat.le_of_ble_eq_true rfl) (hb hby at_271) rfl e714 (by decide) (by decide) fun T792 v792 L792 X792 hS792 hZ792 hown792 hC792 hQ792 => ?_
            obtain ⟨x1_792, t1_792, kb1_792, rfl, Nq792, K792, ge_x1_792, fresh_x1_792, E_x1_792, Fvalue_x1_792, Fcoder_x1_792, V_t1_792, Tx_x1_792⟩ := hQ792
            have N792 := Fr.app N714 Nq792
            have hk793 := Nat.le_trans hk715 K792.1
            have Ol_794 := Ol_716.keep K792 all0
            have V714_795 := V714.keep K792 nin0
            have Ex675_796 := Ex675_717.keep K792
            have Fc675_797 := Fc675_718.keep K792 nin0
            have Fv675_798 := Fv675_719.keep K792 nin0
            have Vb675_799 := Vb675_720.keep K792 nin0
            have Z_800 := Nat.le_trans Z_721 K792.1
            have sf_b645_792 := CHr.safe hC792 V714.lt sf_b645_715
            have Rr792 := Rr715.trans hC792
            have H792 := hC792.1
            have hk792 : T792.heap.size ≤ T792.heap.size := Nat.le_refl _
            have ne_b645_x1_792 : b645 ≠ x1_792 := Nat.ne_of_lt (Nat.lt_of_lt_of_le V714.lt fresh_x1_792)
            have ne_l675_x1_792 : l675 ≠ x1_792 := Nat.ne_of_lt (Nat.lt_of_lt_of_le Ex675_717.lt fresh_x1_792)
            have ne_lb675_x1_792 : lb675 ≠ x1_792 := Nat.ne_of_lt (Nat.lt_of_lt_of_le Vb675_720.lt fresh_x1_792)
            exact cut274_b _ _ _ _ _ _ _ _ _ _ _ _ _ _ _ _ (X792.mono (by decide) (by decide)) rfl hS792 hk792 hZ792 hown792 N792 Z_800 Ol_794 H792 Rr792 E_x1_792 Fvalue_x1_792 Fcoder_x1_792 V_t1_792 Tx_x1_792
          · rw [hk]
            refine Owe.istore X714.here hx (hb hby at_243) rfl (l' := #[.val (.int p1), .val (.int p2), .val (.int p3), .val (.int p4), .val (.long q5), .second, .val (.ref b645), .val (.int (1 : Int32)), .val (.int (p1 &&& (3 : Int32))), .val (.ref l675), .val (.int (4 : Int32)), .val (.int (((p1.toUInt32 >>> ((2 : Int32) &&& 31).toUInt32).toInt32) &&& (3 : Int32))), .val (.int ((p4 &&& (255 : Int32)).toUInt32.toUInt16.toUInt32.toInt32))]) rfl ?_
            refine Owe.goto X714.here hx (hb hby at_245) (pc' := 267) (by decide) (by decide) ?_
            refine Owe.aload X714.here hx (hb hby at_267) rfl rfl ?_
            refine Owe.iload X714.here hx (hb hby at_269) rfl ?_
            refine Owe.stat X714 hx (y := (⟨"com/example/wade/wade/monitor/AccessGoverningPinLaw", "make", "([CI)Ljava/lang/String;"⟩ : MethodName)) hown675 (mvT hZ675 (hw _ (List.mem_of_getElem? (i := 45) rfl))) (mvT hZ675 (hw _ (List.mem_of_getElem? (i := 46) rfl))) (mvT hZ675 (hw _ (List.mem_of_getElem? (i := 47) rfl))) (mvT hZ675 (hw _ (List.mem_of_getElem? (i := 48) rfl))) (by decide) (backOf (W := 0) (rmmk1 l Z a0 hw [] b645 k645 (nar .char (114 : Int32)) (nar .char (101 : Int32)) (nar .char (97 : Int32)) (nar .char (100 : Int32)) (nar .char (((((q5.toUInt64 >>> ((32 : Int32) &&& 0x3f).toInt64.toUInt64).toInt64) &&& (255 : Int64)).toInt32).toUInt32.toUInt16.toUInt32.toInt32)) (nar .char (((((q5.toUInt64 >>> ((40 : Int32) &&& 0x3f).toInt64.toUInt64).toInt64) &&& (255 : Int64)).toInt32).toUInt32.toUInt16.toUInt32.toInt32)) G1 h714 n0 Z_721 V714 (by decide) (by decide) (by decide) (by decide) (own_c255L _) (own_c255L _) S_COMPACT_STRINGS cs0 Ol_716) hZ675 (hw _ (List.mem_of_getElem? (i := 48) rfl)) (hw _ (List.mem_of_getElem? (i := 47) rfl)) (by decide) (by decide)) (by rw [hml]; rfl) (argsL := [(.ref b645), (.int (1 : Int32))]) (rest := []) (lenOf pd_13 rfl) rfl (Nat.le_of_ble_eq_true rfl) (hb hby at_271) rfl e714 (by decide) (by decide) fun T801 v801 L801 X801 hQ801 => ?_
            obtain ⟨x1_801, t1_801, kb1_801, rfl, Nq801, K801, ge_x1_801, fresh_x1_801, E_x1_801, Fvalue_x1_801, Fcoder_x1_801, V_t1_801, Tx_x1_801⟩ := hQ801
            have N801 := Fr.app N714 Nq801
            have hk802 := Nat.le_trans hk715 K801.1
            have sf_b645_802 := Safe.keep K801 sf0 H715 sf_b645_715
            have Rr802 := Rr715.trans (CHr.keep K801 sf0 H715)
            have H802 := CHv.keep K801 sf0 H715
            have Ol_803 := Ol_716.keep K801 all0
            have V714_804 := V714.keep K801 nin0
            have Ex675_805 := Ex675_717.keep K801
            have Fc675_806 := Fc675_718.keep K801 nin0
            have Fv675_807 := Fv675_719.keep K801 nin0
            have Vb675_808 := Vb675_720.keep K801 nin0
            have Z_809 := Nat.le_trans Z_721 K801.1
            have ne_b645_x1_801 : b645 ≠ x1_801 := Nat.ne_of_lt (Nat.lt_of_lt_of_le V714.lt fresh_x1_801)
            have ne_l675_x1_801 : l675 ≠ x1_801 := Nat.ne_of_lt (Nat.lt_of_lt_of_le Ex675_717.lt fresh_x1_801)
            have ne_lb675_x1_801 : lb675 ≠ x1_801 := Nat.ne_of_lt (Nat.lt_of_lt_of_le Vb675_720.lt fresh_x1_801)
            exact cut274_b _ _ _ _ _ _ _ _ _ _ _ _ _ _ _ _ (X801.mono (by decide) (by decide)) rfl hS675 hk802 hZ675 hown675 N801 Z_809 Ol_803 H802 Rr802 E_x1_801 Fvalue_x1_801 Fcoder_x1_801 V_t1_801 Tx_x1_801
          · rw [hk]
            refine Owe.istore X714.here hx (hb hby at_243) rfl (l' := #[.val (.int p1), .val (.int p2), .val (.int p3), .val (.int p4), .val (.long q5), .second, .val (.ref b645), .val (.int (2 : Int32)), .val (.int (p1 &&& (3 : Int32))), .val (.ref l675), .val (.int (4 : Int32)), .val (.int (((p1.toUInt32 >>> ((2 : Int32) &&& 31).toUInt32).toInt32) &&& (3 : Int32))), .val (.int ((p4 &&& (255 : Int32)).toUInt32.toUInt16.toUInt32.toInt32))]) rfl ?_
            refine Owe.goto X714.here hx (hb hby at_245) (pc' := 267) (by decide) (by decide) ?_
            refine Owe.aload X714.here hx (hb hby at_267) rfl rfl ?_
            refine Owe.iload X714.here hx (hb hby at_269) rfl ?_
            refine Owe.stat X714 hx (y := (⟨"com/example/wade/wade/monitor/AccessGoverningPinLaw", "make", "([CI)Ljava/lang/String;"⟩ : MethodName)) hown675 (mvT hZ675 (hw _ (List.mem_of_getElem? (i := 45) rfl))) (mvT hZ675 (hw _ (List.mem_of_getElem? (i := 46) rfl))) (mvT hZ675 (hw _ (List.mem_of_getElem? (i := 47) rfl))) (mvT hZ675 (hw _ (List.mem_of_getElem? (i := 48) rfl))) (by decide) (backOf (W := 0) (rmmk2 l Z a0 hw [] b645 k645 (nar .char (114 : Int32)) (nar .char (101 : Int32)) (nar .char (97 : Int32)) (nar .char (100 : Int32)) (nar .char (((((q5.toUInt64 >>> ((32 : Int32) &&& 0x3f).toInt64.toUInt64).toInt64) &&& (255 : Int64)).toInt32).toUInt32.toUInt16.toUInt32.toInt32)) (nar .char (((((q5.toUInt64 >>> ((40 : Int32) &&& 0x3f).toInt64.toUInt64).toInt64) &&& (255 : Int64)).toInt32).toUInt32.toUInt16.toUInt32.toInt32)) G1 h714 n0 Z_721 V714 (by decide) (by decide) (by decide) (by decide) (own_c255L _) (own_c255L _) S_COMPACT_STRINGS cs0 Ol_716) hZ675 (hw _ (List.mem_of_getElem? (i := 48) rfl)) (hw _ (List.mem_of_getElem? (i := 47) rfl)) (by decide) (by decide)) (by rw [hml]; rfl) (argsL := [(.ref b645), (.int (2 : Int32))]) (rest := []) (lenOf pd_13 rfl) rfl (Nat.le_of_ble_eq_true rfl) (hb hby at_271) rfl e714 (by decide) (by decide) fun T810 v810 L810 X810 hQ810 => ?_
            obtain ⟨x1_810, t1_810, kb1_810, rfl, Nq810, K810, ge_x1_810, fresh_x1_810, E_x1_810, Fvalue_x1_810, Fcoder_x1_810, V_t1_810, Tx_x1_810⟩ := hQ810
            have N810 := Fr.app N714 Nq810
            have hk811 := Nat.le_trans hk715 K810.1
            have sf_b645_811 := Safe.keep K810 sf0 H715 sf_b645_715
            have Rr811 := Rr715.trans (CHr.keep K810 sf0 H715)
            have H811 := CHv.keep K810 sf0 H715
            have Ol_812 := Ol_716.keep K810 all0
            have V714_813 := V714.keep K810 nin0
            have Ex675_814 := Ex675_717.keep K810
            have Fc675_815 := Fc675_718.keep K810 nin0
            have Fv675_816 := Fv675_719.keep K810 nin0
            have Vb675_817 := Vb675_720.keep K810 nin0
            have Z_818 := Nat.le_trans Z_721 K810.1
            have ne_b645_x1_810 : b645 ≠ x1_810 := Nat.ne_of_lt (Nat.lt_of_lt_of_le V714.lt fresh_x1_810)
            have ne_l675_x1_810 : l675 ≠ x1_810 := Nat.ne_of_lt (Nat.lt_of_lt_of_le Ex675_717.lt fresh_x1_810)
            have ne_lb675_x1_810 : lb675 ≠ x1_810 := Nat.ne_of_lt (Nat.lt_of_lt_of_le Vb675_720.lt fresh_x1_810)
            exact cut274_b _ _ _ _ _ _ _ _ _ _ _ _ _ _ _ _ (X810.mono (by decide) (by decide)) rfl hS675 hk811 hZ675 hown675 N810 Z_818 Ol_812 H811 Rr811 E_x1_810 Fvalue_x1_810 Fcoder_x1_810 V_t1_810 Tx_x1_810
          · rw [hk]
            refine Owe.istore X714.here hx (hb hby at_243) rfl (l' := #[.val (.int p1), .val (.int p2), .val (.int p3), .val (.int p4), .val (.long q5), .second, .val (.ref b645), .val (.int (3 : Int32)), .val (.int (p1 &&& (3 : Int32))), .val (.ref l675), .val (.int (4 : Int32)), .val (.int (((p1.toUInt32 >>> ((2 : Int32) &&& 31).toUInt32).toInt32) &&& (3 : Int32))), .val (.int ((p4 &&& (255 : Int32)).toUInt32.toUInt16.toUInt32.toInt32))]) rfl ?_
            refine Owe.goto X714.here hx (hb hby at_245) (pc' := 267) (by decide) (by decide) ?_
            refine Owe.aload X714.here hx (hb hby at_267) rfl rfl ?_
            refine Owe.iload X714.here hx (hb hby at_269) rfl ?_
            refine Owe.stat X714 hx (y := (⟨"com/example/wade/wade/monitor/AccessGoverningPinLaw", "make", "([CI)Ljava/lang/String;"⟩ : MethodName)) hown675 (mvT hZ675 (hw _ (List.mem_of_getElem? (i := 45) rfl))) (mvT hZ675 (hw _ (List.mem_of_getElem? (i := 46) rfl))) (mvT hZ675 (hw _ (List.mem_of_getElem? (i := 47) rfl))) (mvT hZ675 (hw _ (List.mem_of_getElem? (i := 48) rfl))) (by decide) (backOf (W := 0) (rmmk3 l Z a0 hw [] b645 k645 (nar .char (114 : Int32)) (nar .char (101 : Int32)) (nar .char (97 : Int32)) (nar .char (100 : Int32)) (nar .char (((((q5.toUInt64 >>> ((32 : Int32) &&& 0x3f).toInt64.toUInt64).toInt64) &&& (255 : Int64)).toInt32).toUInt32.toUInt16.toUInt32.toInt32)) (nar .char (((((q5.toUInt64 >>> ((40 : Int32) &&& 0x3f).toInt64.toUInt64).toInt64) &&& (255 : Int64)).toInt32).toUInt32.toUInt16.toUInt32.toInt32)) G1 h714 n0 Z_721 V714 (by decide) (by decide) (by decide) (by decide) (own_c255L _) (own_c255L _) S_COMPACT_STRINGS cs0 Ol_716) hZ675 (hw _ (List.mem_of_getElem? (i := 48) rfl)) (hw _ (List.mem_of_getElem? (i := 47) rfl)) (by decide) (by decide)) (by rw [hml]; rfl) (argsL := [(.ref b645), (.int (3 : Int32))]) (rest := []) (lenOf pd_13 rfl) rfl (Nat.le_of_ble_eq_true rfl) (hb hby at_271) rfl e714 (by decide) (by decide) fun T819 v819 L819 X819 hQ819 => ?_
            obtain ⟨x1_819, t1_819, kb1_819, rfl, Nq819, K819, ge_x1_819, fresh_x1_819, E_x1_819, Fvalue_x1_819, Fcoder_x1_819, V_t1_819, Tx_x1_819⟩ := hQ819
            have N819 := Fr.app N714 Nq819
            have hk820 := Nat.le_trans hk715 K819.1
            have sf_b645_820 := Safe.keep K819 sf0 H715 sf_b645_715
            have Rr820 := Rr715.trans (CHr.keep K819 sf0 H715)
            have H820 := CHv.keep K819 sf0 H715
            have Ol_821 := Ol_716.keep K819 all0
            have V714_822 := V714.keep K819 nin0
            have Ex675_823 := Ex675_717.keep K819
            have Fc675_824 := Fc675_718.keep K819 nin0
            have Fv675_825 := Fv675_719.keep K819 nin0
            have Vb675_826 := Vb675_720.keep K819 nin0
            have Z_827 := Nat.le_trans Z_721 K819.1
            have ne_b645_x1_819 : b645 ≠ x1_819 := Nat.ne_of_lt (Nat.lt_of_lt_of_le V714.lt fresh_x1_819)
            have ne_l675_x1_819 : l675 ≠ x1_819 := Nat.ne_of_lt (Nat.lt_of_lt_of_le Ex675_717.lt fresh_x1_819)
            have ne_lb675_x1_819 : lb675 ≠ x1_819 := Nat.ne_of_lt (Nat.lt_of_lt_of_le Vb675_720.lt fresh_x1_819)
            exact cut274_b _ _ _ _ _ _ _ _ _ _ _ _ _ _ _ _ (X819.mono (by decide) (by decide)) rfl hS675 hk820 hZ675 hown675 N819 Z_827 Ol_821 H820 Rr820 E_x1_819 Fvalue_x1_819 Fcoder_x1_819 V_t1_819 Tx_x1_819
        · skip
          refine Owe.icmpYes X714.here hx (hb hby at_233) rfl (feq hc233_791).2 (pc' := 248) (by decide) (by decide) ?_
          refine Owe.iload X714.here hx (hb hby at_248) rfl ?_
          refine Owe.iconst X714.here hx (hb hby at_250) (w := (3 : Int32)) rfl ?_
          by_cases hc251_828 : (((p1.toUInt32 >>> ((2 : Int32) &&& 31).toUInt32).toInt32) &&& (3 : Int32)) = (3 : Int32)
          · skip
            refine Owe.icmpNo X714.here hx (hb hby at_251) rfl (teq hc251_828).2 ?_
            refine Owe.aload X714.here hx (hb hby at_254) rfl rfl ?_
            refine Owe.iload X714.here hx (hb hby at_256) rfl ?_
            refine Owe.iload X714.here hx (hb hby at_258) rfl ?_
            refine Owe.castore X714 hx hZ675 e714 V714 (x := ((p4 &&& (255 : Int32)).toUInt32.toUInt16.toUInt32.toInt32)) 4 rfl (Nat.le_of_ble_eq_true rfl) (by decide) (hb hby at_260) rfl fun T829 h829 X829 e829 W829 (V829 : Arv Z h829 b645 k645 .char (6 : Int32) [(.int (nar .char (114 : Int32))), (.int (nar .char (101 : Int32))), (.int (nar .char (97 : Int32))), (.int (nar .char (100 : Int32))), (.int (nar .char ((p4 &&& (255 : Int32)).toUInt32.toUInt16.toUInt32.toInt32))), (.int (nar .char (((((q5.toUInt64 >>> ((40 : Int32) &&& 0x3f).toInt64.toUInt64).toInt64) &&& (255 : Int64)).toInt32).toUInt32.toUInt16.toUInt32.toInt32)))] (.int (0 : Int32))) => ?_
            have hk830 := Nat.le_trans hk715 (Keep.of_wr W829).1
            have sf_b645_830 := Safe.wr W829 sf_b645_715 H715 sf_b645_715
            have Rr830 := Rr715.trans (CHr.wr W829 sf_b645_715 H715)
            have H830 := CHv.wr W829 sf_b645_715 H715
            have Ol_831 := Ol_716.wr W829 ge_b645
            have Ex675_832 := Ex675_717.wr W829
            have Fc675_833 := Fc675_718.other W829 (Or.inl (Ne.symm ne_b645_l675))
            have Fv675_834 := Fv675_719.other W829 (Or.inl (Ne.symm ne_b645_l675))
            have Vb675_835 := Vb675_720.other W829 (Ne.symm ne_b645_lb675)
            have Z_836 := Nat.le_trans Z_721 (Keep.of_wr W829).1
            have N829 := Fr.snoc X829 N714 ge_b645
            refine Owe.iload X829.here hx (hb hby at_261) rfl ?_
            refine Owe.iconst X829.here hx (hb hby at_263) (w := (1 : Int32)) rfl ?_
            refine Owe.iadd X829.here hx (hb hby at_264) rfl ?_
            refine Owe.istore X829.here hx (hb hby at_265) rfl (l' := #[.val (.int p1), .val (.int p2), .val (.int p3), .val (.int p4), .val (.long q5), .second, .val (.ref b645), .val (.int (5 : Int32)), .val (.int (p1 &&& (3 : Int32))), .val (.ref l675), .val (.int (4 : Int32)), .val (.int (((p1.toUInt32 >>> ((2 : Int32) &&& 31).toUInt32).toInt32) &&& (3 : Int32))), .val (.int ((p4 &&& (255 : Int32)).toUInt32.toUInt16.toUInt32.toInt32))]) rfl ?_
            refine Owe.aload X829.here hx (hb hby at_267) rfl rfl ?_
            refine Owe.iload X829.here hx (hb hby at_269) rfl ?_
            refine Owe.stat X829 hx (y := (⟨"com/example/wade/wade/monitor/AccessGoverningPinLaw", "make", "([CI)Ljava/lang/String;"⟩ : MethodName)) hown675 (mvT hZ675 (hw _ (List.mem_of_getElem? (i := 45) rfl))) (mvT hZ675 (hw _ (List.mem_of_getElem? (i := 46) rfl))) (mvT hZ675 (hw _ (List.mem_of_getElem? (i := 47) rfl))) (mvT hZ675 (hw _ (List.mem_of_getElem? (i := 48) rfl))) (by decide) (backOf (W := 0) (rmmk5 l Z a0 hw [] b645 k645 (nar .char (114 : Int32)) (nar .char (101 : Int32)) (nar .char (97 : Int32)) (nar .char (100 : Int32)) (nar .char ((p4 &&& (255 : Int32)).toUInt32.toUInt16.toUInt32.toInt32)) (nar .char (((((q5.toUInt64 >>> ((40 : Int32) &&& 0x3f).toInt64.toUInt64).toInt64) &&& (255 : Int64)).toInt32).toUInt32.toUInt16.toUInt32.toInt32)) G1 h829 n0 Z_836 V829 (by decide) (by decide) (by decide) (by decide) (and255_chars _) (own_c255L _) S_COMPACT_STRINGS cs0 Ol_831) hZ675 (hw _ (List.mem_of_getElem? (i := 48) rfl)) (hw _ (List.mem_of_getElem? (i := 47) rfl)) (by decide) (by decide)) (by rw [hml]; rfl) (argsL := [(.ref b645), (.int (5 : Int32))]) (rest := []) (lenOf pd_13 rfl) rfl (Nat.le_of_ble_eq_true rfl) (hb hby at_271) rfl e829 (by decide) (by decide) fun T837 v837 L837 X837 hQ837 => ?_
            obtain ⟨x1_837, t1_837, kb1_837, rfl, Nq837, K837, ge_x1_837, fresh_x1_837, E_x1_837, Fvalue_x1_837, Fcoder_x1_837, V_t1_837, Tx_x1_837⟩ := hQ837
            have N837 := Fr.app N829 Nq837
            have hk838 := Nat.le_trans hk830 K837.1
            have sf_b645_838 := Safe.keep K837 sf0 H830 sf_b645_830
            have Rr838 := Rr830.trans (CHr.keep K837 sf0 H830)
            have H838 := CHv.keep K837 sf0 H830
            have Ol_839 := Ol_831.keep K837 all0
            have V829_840 := V829.keep K837 nin0
            have Ex675_841 := Ex675_832.keep K837
            have Fc675_842 := Fc675_833.keep K837 nin0
            have Fv675_843 := Fv675_834.keep K837 nin0
            have Vb675_844 := Vb675_835.keep K837 nin0
            have Z_845 := Nat.le_trans Z_836 K837.1
            have ne_b645_x1_837 : b645 ≠ x1_837 := Nat.ne_of_lt (Nat.lt_of_lt_of_le V829.lt fresh_x1_837)
            have ne_l675_x1_837 : l675 ≠ x1_837 := Nat.ne_of_lt (Nat.lt_of_lt_of_le Ex675_832.lt fresh_x1_837)
            have ne_lb675_x1_837 : lb675 ≠ x1_837 := Nat.ne_of_lt (Nat.lt_of_lt_of_le Vb675_835.lt fresh_x1_837)
            exact cut274_b _ _ _ _ _ _ _ _ _ _ _ _ _ _ _ _ (X837.mono (by decide) (by decide)) rfl hS675 hk838 hZ675 hown675 N837 Z_845 Ol_839 H838 Rr838 E_x1_837 Fvalue_x1_837 Fcoder_x1_837 V_t1_837 Tx_x1_837
          · skip
            refine Owe.icmpYes X714.here hx (hb hby at_251) rfl (feq hc251_828).2 (pc' := 267) (by decide) (by decide) ?_
            refine Owe.aload X714.here hx (hb hby at_267) rfl rfl ?_
            refine Owe.iload X714.here hx (hb hby at_269) rfl ?_
            refine Owe.stat X714 hx (y := (⟨"com/example/wade/wade/monitor/AccessGoverningPinLaw", "make", "([CI)Ljava/lang/String;"⟩ : MethodName)) hown675 (mvT hZ675 (hw _ (List.mem_of_getElem? (i := 45) rfl))) (mvT hZ675 (hw _ (List.mem_of_getElem? (i := 46) rfl))) (mvT hZ675 (hw _ (List.mem_of_getElem? (i := 47) rfl))) (mvT hZ675 (hw _ (List.mem_of_getElem? (i := 48) rfl))) (by decide) (backOf (W := 0) (rmmk4 l Z a0 hw [] b645 k645 (nar .char (114 : Int32)) (nar .char (101 : Int32)) (nar .char (97 : Int32)) (nar .char (100 : Int32)) (nar .char (((((q5.toUInt64 >>> ((32 : Int32) &&& 0x3f).toInt64.toUInt64).toInt64) &&& (255 : Int64)).toInt32).toUInt32.toUInt16.toUInt32.toInt32)) (nar .char (((((q5.toUInt64 >>> ((40 : Int32) &&& 0x3f).toInt64.toUInt64).toInt64) &&& (255 : Int64)).toInt32).toUInt32.toUInt16.toUInt32.toInt32)) G1 h714 n0 Z_721 V714 (by decide) (by decide) (by decide) (by decide) (own_c255L _) (own_c255L _) S_COMPACT_STRINGS cs0 Ol_716) hZ675 (hw _ (List.mem_of_getElem? (i := 48) rfl)) (hw _ (List.mem_of_getElem? (i := 47) rfl)) (by decide) (by decide)) (by rw [hml]; rfl) (argsL := [(.ref b645), (.int (4 : Int32))]) (rest := []) (lenOf pd_13 rfl) rfl (Nat.le_of_ble_eq_true rfl) (hb hby at_271) rfl e714 (by decide) (by decide) fun T846 v846 L846 X846 hQ846 => ?_
            obtain ⟨x1_846, t1_846, kb1_846, rfl, Nq846, K846, ge_x1_846, fresh_x1_846, E_x1_846, Fvalue_x1_846, Fcoder_x1_846, V_t1_846, Tx_x1_846⟩ := hQ846
            have N846 := Fr.app N714 Nq846
            have hk847 := Nat.le_trans hk715 K846.1
            have sf_b645_847 := Safe.keep K846 sf0 H715 sf_b645_715
            have Rr847 := Rr715.trans (CHr.keep K846 sf0 H715)
            have H847 := CHv.keep K846 sf0 H715
            have Ol_848 := Ol_716.keep K846 all0
            have V714_849 := V714.keep K846 nin0
            have Ex675_850 := Ex675_717.keep K846
            have Fc675_851 := Fc675_718.keep K846 nin0
            have Fv675_852 := Fv675_719.keep K846 nin0
            have Vb675_853 := Vb675_720.keep K846 nin0
            have Z_854 := Nat.le_trans Z_721 K846.1
            have ne_b645_x1_846 : b645 ≠ x1_846 := Nat.ne_of_lt (Nat.lt_of_lt_of_le V714.lt fresh_x1_846)
            have ne_l675_x1_846 : l675 ≠ x1_846 := Nat.ne_of_lt (Nat.lt_of_lt_of_le Ex675_717.lt fresh_x1_846)
            have ne_lb675_x1_846 : lb675 ≠ x1_846 := Nat.ne_of_lt (Nat.lt_of_lt_of_le Vb675_720.lt fresh_x1_846)
            exact cut274_b _ _ _ _ _ _ _ _ _ _ _ _ _ _ _ _ (X846.mono (by decide) (by decide)) rfl hS675 hk847 hZ675 hown675 N846 Z_854 Ol_848 H847 Rr847 E_x1_846 Fvalue_x1_846 Fcoder_x1_846 V_t1_846 Tx_x1_846
    · skip
      refine Owe.ifYes X669.here hx (hb hby at_115) rfl ((if0 _ _).trans (feq hc115_674).2) (pc' := 123) (by decide) (by decide) ?_
      refine Owe.ldcV X669 hx hZ hS0 (own_ew hw) H670 (by decide) hown1 (hw _ (List.mem_of_getElem? (i := 136) rfl)) (own_wS hw) e669 hk670 (vs := ((([119, 114, 105, 116, 101] : List Int32).map (fun c => c.toInt8.toInt32)).map Value.int)) (z := (5 : Int32)) (by decide) (by decide) rfl (hb hby at_123) (n := 20) (by decide) (by decide) (by decide) (by decide) fun l855 T855 h855 k855 lb855 lk855 X855 e855 E855 hS855 hk855 hZ855 hown855 Ex855 Fc855 Fv855 Vb855 hC855 Lt855 nsf855 => ?_
      have hk856 := Nat.le_trans hk670 E855.1
      have Ol_857 := Ol_671.ext E855
      have V669_858 := V669.ext E855
      have Z_859 := Nat.le_trans Z_672 E855.1
      have sf_b645_855 := CHr.safe hC855 V669.lt sf_b645_670
      have Rr855 := Rr670.trans hC855
      have H855 := hC855.1
      have Tx855 : (∀ c ∈ ([119, 114, 105, 116, 101] : List Int32), ¬ c < 0 ∧ ¬ (255 : Int32) < c) ∧ ([119, 114, 105, 116, 101] : List Int32).length ≤ 4000 := ⟨by decide, Nat.le_of_ble_eq_true rfl⟩
      have ne_b645_l855 := (nsf855 _ sf_b645_855).1
      have ne_b645_lb855 := (nsf855 _ sf_b645_855).2
      refine Owe.astore X855.here hx (hb hby at_125) rfl rfl (l' := #[.val (.int p1), .val (.int p2), .val (.int p3), .val (.int p4), .val (.long q5), .second, .val (.ref b645), .val (.int ((p2 &&& (7 : Int32)) - ((p2 &&& (7 : Int32)) / (7 : Int32)) * (7 : Int32))), .val (.int (p1 &&& (3 : Int32))), .val (.ref l855), .unset, .unset, .unset]) rfl ?_
      refine Owe.aload X855.here hx (hb hby at_127) rfl rfl ?_
      have hcd860 : StrChars.Road.CodA ([119, 114, 105, 116, 101] : List Int32) 0 (5 : Int32) ((([119, 114, 105, 116, 101] : List Int32).map (fun c => c.toInt8.toInt32)).map Value.int) := StrChars.Road.codOf (n := 5) rfl (fun x hx => (Tx855.1 x hx).2)
      have hbd860 := up ([119, 114, 105, 116, 101] : List Int32) Tx855.1
      refine Owe.virt X855 hx hZ855 (y := (⟨"java/lang/String", "length", "()I"⟩ : MethodName)) (z := (⟨"java/lang/String", "length", "()I"⟩ : MethodName)) (Q := fun v h' L => v = some (.int (Int32.ofNat ([119, 114, 105, 116, 101] : List Int32).length)) ∧ L = [] ∧ h' = h855) (kc := 0) (ks := 0) hown855 (mvT hZ855 (hw _ (List.mem_of_getElem? (i := 10) rfl))) (mvT hZ855 (hw _ (List.mem_of_getElem? (i := 11) rfl))) (mvT hZ855 (hw _ (List.mem_of_getElem? (i := 13) rfl))) (mvT hZ855 (hw _ (List.mem_of_getElem? (i := 12) rfl))) (notFace_of_selects (args := #[]) (mvT hZ855 (hw _ (List.mem_of_getElem? (i := 13) rfl)))) (by decide) (StrChars.Road.lenW (W := 0) hZ855 (own_hln hw) (kI := 4) (hw _ (List.mem_of_getElem? (i := 4) rfl)) Ex855 Fv855 Fc855 Vb855 hcd860 hbd860 (S_COMPACT_STRINGS.ext Ol_857.2) cs0 Tx855.2 (by decide) (by decide)) (by rw [hml]; rfl) (a := l855) (argsL := []) (rest := []) Ex855 (lenOf pd_11 rfl) rfl (Nat.le_of_ble_eq_true rfl) (hb hby at_129) rfl e855 (by decide) (by decide) fun T861 v861 L861 X861 hQ861 => ?_
      obtain ⟨rfl, rfl, e861⟩ := hQ861
      have N861 := Fr.app N669 (Fr.nil n0)
      refine Owe.istore X861.here hx (hb hby at_132) rfl (l' := #[.val (.int p1), .val (.int p2), .val (.int p3), .val (.int p4), .val (.long q5), .second, .val (.ref b645), .val (.int ((p2 &&& (7 : Int32)) - ((p2 &&& (7 : Int32)) / (7 : Int32)) * (7 : Int32))), .val (.int (p1 &&& (3 : Int32))), .val (.ref l855), .val (.int (5 : Int32)), .unset, .unset]) rfl ?_
      refine Owe.aload X861.here hx (hb hby at_134) rfl rfl ?_
      refine Owe.iconst X861.here hx (hb hby at_136) (w := (0 : Int32)) rfl ?_
      refine Owe.aload X861.here hx (hb hby at_137) rfl rfl ?_
      refine Owe.iconst X861.here hx (hb hby at_139) (w := (0 : Int32)) rfl ?_
      have hcd862 : StrChars.Road.CodA ([119, 114, 105, 116, 101] : List Int32) 0 (5 : Int32) ((([119, 114, 105, 116, 101] : List Int32).map (fun c => c.toInt8.toInt32)).map Value.int) := StrChars.Road.codOf (n := 5) rfl (fun x hx => (Tx855.1 x hx).2)
      have hbd862 := up ([119, 114, 105, 116, 101] : List Int32) Tx855.1
      refine Owe.virt X861 hx hZ855 (y := (⟨"java/lang/String", "charAt", "(I)C"⟩ : MethodName)) (z := (⟨"java/lang/String", "charAt", "(I)C"⟩ : MethodName)) (Q := fun v h' L => v = some (.int (([119, 114, 105, 116, 101] : List Int32).getD 0 0)) ∧ L = [] ∧ h' = h855) (kc := 0) (ks := 0) hown855 (mvT hZ855 (hw _ (List.mem_of_getElem? (i := 23) rfl))) (mvT hZ855 (hw _ (List.mem_of_getElem? (i := 24) rfl))) (mvT hZ855 (hw _ (List.mem_of_getElem? (i := 26) rfl))) (mvT hZ855 (hw _ (List.mem_of_getElem? (i := 25) rfl))) (notFace_of_selects (args := #[]) (mvT hZ855 (hw _ (List.mem_of_getElem? (i := 26) rfl)))) (by decide) (StrChars.Road.chN (W := 2) hZ855 (own_hch hw) (kI := 4) (hw _ (List.mem_of_getElem? (i := 4) rfl)) Ex855 Fv855 Fc855 Vb855 hcd862 hbd862 (S_COMPACT_STRINGS.ext Ol_857.2) cs0 (S_SIOOBE_FORMATTER.ext Ol_857.2) ir_fm Tx855.2 (i := 0) (Nat.le_of_ble_eq_true rfl) (j := (0 : Int32)) rfl (by decide) (by decide)) (by rw [hml]; rfl) (a := l855) (argsL := [(.int (0 : Int32))]) (rest := [(.int (0 : Int32)), (.ref b645)]) Ex855 (lenOf pd_12 rfl) rfl (Nat.le_of_ble_eq_true rfl) (hb hby at_140) rfl e861 (by decide) (by decide) fun T863 v863 L863 X863 hQ863 => ?_
      obtain ⟨rfl, rfl, e863⟩ := hQ863
      have N863 := Fr.app N861 (Fr.nil n0)
      refine Owe.castore X863 hx hZ855 e863 V669_858 (x := (119 : Int32)) 0 rfl (Nat.le_of_ble_eq_true rfl) (by decide) (hb hby at_143) rfl fun T864 h864 X864 e864 W864 (V864 : Arv Z h864 b645 k645 .char (6 : Int32) [(.int (nar .char (119 : Int32))), (.int (nar .char (((((q5.toUInt64 >>> ((8 : Int32) &&& 0x3f).toInt64.toUInt64).toInt64) &&& (255 : Int64)).toInt32).toUInt32.toUInt16.toUInt32.toInt32))), (.int (nar .char (((((q5.toUInt64 >>> ((16 : Int32) &&& 0x3f).toInt64.toUInt64).toInt64) &&& (255 : Int64)).toInt32).toUInt32.toUInt16.toUInt32.toInt32))), (.int (nar .char (((((q5.toUInt64 >>> ((24 : Int32) &&& 0x3f).toInt64.toUInt64).toInt64) &&& (255 : Int64)).toInt32).toUInt32.toUInt16.toUInt32.toInt32))), (.int (nar .char (((((q5.toUInt64 >>> ((32 : Int32) &&& 0x3f).toInt64.toUInt64).toInt64) &&& (255 : Int64)).toInt32).toUInt32.toUInt16.toUInt32.toInt32))), (.int (nar .char (((((q5.toUInt64 >>> ((40 : Int32) &&& 0x3f).toInt64.toUInt64).toInt64) &&& (255 : Int64)).toInt32).toUInt32.toUInt16.toUInt32.toInt32)))] (.int (0 : Int32))) => ?_
      have hk865 := Nat.le_trans hk855 (Keep.of_wr W864).1
      have sf_b645_865 := Safe.wr W864 sf_b645_855 H855 sf_b645_855
      have Rr865 := Rr855.trans (CHr.wr W864 sf_b645_855 H855)
      have H865 := CHv.wr W864 sf_b645_855 H855
      have Ol_866 := Ol_857.wr W864 ge_b645
      have Ex855_867 := Ex855.wr W864
      have Fc855_868 := Fc855.other W864 (Or.inl (Ne.symm ne_b645_l855))
      have Fv855_869 := Fv855.other W864 (Or.inl (Ne.symm ne_b645_l855))
      have Vb855_870 := Vb855.other W864 (Ne.symm ne_b645_lb855)
      have Z_871 := Nat.le_trans Z_859 (Keep.of_wr W864).1
      have N864 := Fr.snoc X864 N863 ge_b645
      refine Owe.aload X864.here hx (hb hby at_144) rfl rfl ?_
      refine Owe.iconst X864.here hx (hb hby at_146) (w := (1 : Int32)) rfl ?_
      refine Owe.aload X864.here hx (hb hby at_147) rfl rfl ?_
      refine Owe.iconst X864.here hx (hb hby at_149) (w := (1 : Int32)) rfl ?_
      have hcd872 : StrChars.Road.CodA ([119, 114, 105, 116, 101] : List Int32) 0 (5 : Int32) ((([119, 114, 105, 116, 101] : List Int32).map (fun c => c.toInt8.toInt32)).map Value.int) := StrChars.Road.codOf (n := 5) rfl (fun x hx => (Tx855.1 x hx).2)
      have hbd872 := up ([119, 114, 105, 116, 101] : List Int32) Tx855.1
      refine Owe.virt X864 hx hZ855 (y := (⟨"java/lang/String", "charAt", "(I)C"⟩ : MethodName)) (z := (⟨"java/lang/String", "charAt", "(I)C"⟩ : MethodName)) (Q := fun v h' L => v = some (.int (([119, 114, 105, 116, 101] : List Int32).getD 1 0)) ∧ L = [] ∧ h' = h864) (kc := 0) (ks := 0) hown855 (mvT hZ855 (hw _ (List.mem_of_getElem? (i := 23) rfl))) (mvT hZ855 (hw _ (List.mem_of_getElem? (i := 24) rfl))) (mvT hZ855 (hw _ (List.mem_of_getElem? (i := 26) rfl))) (mvT hZ855 (hw _ (List.mem_of_getElem? (i := 25) rfl))) (notFace_of_selects (args := #[]) (mvT hZ855 (hw _ (List.mem_of_getElem? (i := 26) rfl)))) (by decide) (StrChars.Road.chN (W := 2) hZ855 (own_hch hw) (kI := 4) (hw _ (List.mem_of_getElem? (i := 4) rfl)) Ex855_867 Fv855_869 Fc855_868 Vb855_870 hcd872 hbd872 (S_COMPACT_STRINGS.ext Ol_866.2) cs0 (S_SIOOBE_FORMATTER.ext Ol_866.2) ir_fm Tx855.2 (i := 1) (Nat.le_of_ble_eq_true rfl) (j := (1 : Int32)) rfl (by decide) (by decide)) (by rw [hml]; rfl) (a := l855) (argsL := [(.int (1 : Int32))]) (rest := [(.int (1 : Int32)), (.ref b645)]) Ex855_867 (lenOf pd_12 rfl) rfl (Nat.le_of_ble_eq_true rfl) (hb hby at_150) rfl e864 (by decide) (by decide) fun T873 v873 L873 X873 hQ873 => ?_
      obtain ⟨rfl, rfl, e873⟩ := hQ873
      have N873 := Fr.app N864 (Fr.nil n0)
      refine Owe.castore X873 hx hZ855 e873 V864 (x := (114 : Int32)) 1 rfl (Nat.le_of_ble_eq_true rfl) (by decide) (hb hby at_153) rfl fun T874 h874 X874 e874 W874 (V874 : Arv Z h874 b645 k645 .char (6 : Int32) [(.int (nar .char (119 : Int32))), (.int (nar .char (114 : Int32))), (.int (nar .char (((((q5.toUInt64 >>> ((16 : Int32) &&& 0x3f).toInt64.toUInt64).toInt64) &&& (255 : Int64)).toInt32).toUInt32.toUInt16.toUInt32.toInt32))), (.int (nar .char (((((q5.toUInt64 >>> ((24 : Int32) &&& 0x3f).toInt64.toUInt64).toInt64) &&& (255 : Int64)).toInt32).toUInt32.toUInt16.toUInt32.toInt32))), (.int (nar .char (((((q5.toUInt64 >>> ((32 : Int32) &&& 0x3f).toInt64.toUInt64).toInt64) &&& (255 : Int64)).toInt32).toUInt32.toUInt16.toUInt32.toInt32))), (.int (nar .char (((((q5.toUInt64 >>> ((40 : Int32) &&& 0x3f).toInt64.toUInt64).toInt64) &&& (255 : Int64)).toInt32).toUInt32.toUInt16.toUInt32.toInt32)))] (.int (0 : Int32))) => ?_
      have hk875 := Nat.le_trans hk865 (Keep.of_wr W874).1
      have sf_b645_875 := Safe.wr W874 sf_b645_865 H865 sf_b645_865
      have Rr875 := Rr865.trans (CHr.wr W874 sf_b645_865 H865)
      have H875 := CHv.wr W874 sf_b645_865 H865
      have Ol_876 := Ol_866.wr W874 ge_b645
      have Ex855_877 := Ex855_867.wr W874
      have Fc855_878 := Fc855_868.other W874 (Or.inl (Ne.symm ne_b645_l855))
      have Fv855_879 := Fv855_869.other W874 (Or.inl (Ne.symm ne_b645_l855))
      have Vb855_880 := Vb855_870.other W874 (Ne.symm ne_b645_lb855)
      have Z_881 := Nat.le_trans Z_871 (Keep.of_wr W874).1
      have N874 := Fr.snoc X874 N873 ge_b645
      refine Owe.aload X874.here hx (hb hby at_154) rfl rfl ?_
      refine Owe.iconst X874.here hx (hb hby at_156) (w := (2 : Int32)) rfl ?_
      refine Owe.aload X874.here hx (hb hby at_157) rfl rfl ?_
      refine Owe.iconst X874.here hx (hb hby at_159) (w := (2 : Int32)) rfl ?_
      have hcd882 : StrChars.Road.CodA ([119, 114, 105, 116, 101] : List Int32) 0 (5 : Int32) ((([119, 114, 105, 116, 101] : List Int32).map (fun c => c.toInt8.toInt32)).map Value.int) := StrChars.Road.codOf (n := 5) rfl (fun x hx => (Tx855.1 x hx).2)
      have hbd882 := up ([119, 114, 105, 116, 101] : List Int32) Tx855.1
      refine Owe.virt X874 hx hZ855 (y := (⟨"java/lang/String", "charAt", "(I)C"⟩ : MethodName)) (z := (⟨"java/lang/String", "charAt", "(I)C"⟩ : MethodName)) (Q := fun v h' L => v = some (.int (([119, 114, 105, 116, 101] : List Int32).getD 2 0)) ∧ L = [] ∧ h' = h874) (kc := 0) (ks := 0) hown855 (mvT hZ855 (hw _ (List.mem_of_getElem? (i := 23) rfl))) (mvT hZ855 (hw _ (List.mem_of_getElem? (i := 24) rfl))) (mvT hZ855 (hw _ (List.mem_of_getElem? (i := 26) rfl))) (mvT hZ855 (hw _ (List.mem_of_getElem? (i := 25) rfl))) (notFace_of_selects (args := #[]) (mvT hZ855 (hw _ (List.mem_of_getElem? (i := 26) rfl)))) (by decide) (StrChars.Road.chN (W := 2) hZ855 (own_hch hw) (kI := 4) (hw _ (List.mem_of_getElem? (i := 4) rfl)) Ex855_877 Fv855_879 Fc855_878 Vb855_880 hcd882 hbd882 (S_COMPACT_STRINGS.ext Ol_876.2) cs0 (S_SIOOBE_FORMATTER.ext Ol_876.2) ir_fm Tx855.2 (i := 2) (Nat.le_of_ble_eq_true rfl) (j := (2 : Int32)) rfl (by decide) (by decide)) (by rw [hml]; rfl) (a := l855) (argsL := [(.int (2 : Int32))]) (rest := [(.int (2 : Int32)), (.ref b645)]) Ex855_877 (lenOf pd_12 rfl) rfl (Nat.le_of_ble_eq_true rfl) (hb hby at_160) rfl e874 (by decide) (by decide) fun T883 v883 L883 X883 hQ883 => ?_
      obtain ⟨rfl, rfl, e883⟩ := hQ883
      have N883 := Fr.app N874 (Fr.nil n0)
      refine Owe.castore X883 hx hZ855 e883 V874 (x := (105 : Int32)) 2 rfl (Nat.le_of_ble_eq_true rfl) (by decide) (hb hby at_163) rfl fun T884 h884 X884 e884 W884 (V884 : Arv Z h884 b645 k645 .char (6 : Int32) [(.int (nar .char (119 : Int32))), (.int (nar .char (114 : Int32))), (.int (nar .char (105 : Int32))), (.int (nar .char (((((q5.toUInt64 >>> ((24 : Int32) &&& 0x3f).toInt64.toUInt64).toInt64) &&& (255 : Int64)).toInt32).toUInt32.toUInt16.toUInt32.toInt32))), (.int (nar .char (((((q5.toUInt64 >>> ((32 : Int32) &&& 0x3f).toInt64.toUInt64).toInt64) &&& (255 : Int64)).toInt32).toUInt32.toUInt16.toUInt32.toInt32))), (.int (nar .char (((((q5.toUInt64 >>> ((40 : Int32) &&& 0x3f).toInt64.toUInt64).toInt64) &&& (255 : Int64)).toInt32).toUInt32.toUInt16.toUInt32.toInt32)))] (.int (0 : Int32))) => ?_
      have hk885 := Nat.le_trans hk875 (Keep.of_wr W884).1
      have sf_b645_885 := Safe.wr W884 sf_b645_875 H875 sf_b645_875
      have Rr885 := Rr875.trans (CHr.wr W884 sf_b645_875 H875)
      have H885 := CHv.wr W884 sf_b645_875 H875
      have Ol_886 := Ol_876.wr W884 ge_b645
      have Ex855_887 := Ex855_877.wr W884
      have Fc855_888 := Fc855_878.other W884 (Or.inl (Ne.symm ne_b645_l855))
      have Fv855_889 := Fv855_879.other W884 (Or.inl (Ne.symm ne_b645_l855))
      have Vb855_890 := Vb855_880.other W884 (Ne.symm ne_b645_lb855)
      have Z_891 := Nat.le_trans Z_881 (Keep.of_wr W884).1
      have N884 := Fr.snoc X884 N883 ge_b645
      refine Owe.aload X884.here hx (hb hby at_164) rfl rfl ?_
      refine Owe.iconst X884.here hx (hb hby at_166) (w := (3 : Int32)) rfl ?_
      refine Owe.aload X884.here hx (hb hby at_167) rfl rfl ?_
      refine Owe.iconst X884.here hx (hb hby at_169) (w := (3 : Int32)) rfl ?_
      have hcd892 : StrChars.Road.CodA ([119, 114, 105, 116, 101] : List Int32) 0 (5 : Int32) ((([119, 114, 105, 116, 101] : List Int32).map (fun c => c.toInt8.toInt32)).map Value.int) := StrChars.Road.codOf (n := 5) rfl (fun x hx => (Tx855.1 x hx).2)
      have hbd892 := up ([119, 114, 105, 116, 101] : List Int32) Tx855.1
      refine Owe.virt X884 hx hZ855 (y := (⟨"java/lang/String", "charAt", "(I)C"⟩ : MethodName)) (z := (⟨"java/lang/String", "charAt", "(I)C"⟩ : MethodName)) (Q := fun v h' L => v = some (.int (([119, 114, 105, 116, 101] : List Int32).getD 3 0)) ∧ L = [] ∧ h' = h884) (kc := 0) (ks := 0) hown855 (mvT hZ855 (hw _ (List.mem_of_getElem? (i := 23) rfl))) (mvT hZ855 (hw _ (List.mem_of_getElem? (i := 24) rfl))) (mvT hZ855 (hw _ (List.mem_of_getElem? (i := 26) rfl))) (mvT hZ855 (hw _ (List.mem_of_getElem? (i := 25) rfl))) (notFace_of_selects (args := #[]) (mvT hZ855 (hw _ (List.mem_of_getElem? (i := 26) rfl)))) (by decide) (StrChars.Road.chN (W := 2) hZ855 (own_hch hw) (kI := 4) (hw _ (List.mem_of_getElem? (i := 4) rfl)) Ex855_887 Fv855_889 Fc855_888 Vb855_890 hcd892 hbd892 (S_COMPACT_STRINGS.ext Ol_886.2) cs0 (S_SIOOBE_FORMATTER.ext Ol_886.2) ir_fm Tx855.2 (i := 3) (Nat.le_of_ble_eq_true rfl) (j := (3 : Int32)) rfl (by decide) (by decide)) (by rw [hml]; rfl) (a := l855) (argsL := [(.int (3 : Int32))]) (rest := [(.int (3 : Int32)), (.ref b645)]) Ex855_887 (lenOf pd_12 rfl) rfl (Nat.le_of_ble_eq_true rfl) (hb hby at_170) rfl e884 (by decide) (by decide) fun T893 v893 L893 X893 hQ893 => ?_
      obtain ⟨rfl, rfl, e893⟩ := hQ893
      have N893 := Fr.app N884 (Fr.nil n0)
      refine Owe.castore X893 hx hZ855 e893 V884 (x := (116 : Int32)) 3 rfl (Nat.le_of_ble_eq_true rfl) (by decide) (hb hby at_173) rfl fun T894 h894 X894 e894 W894 (V894 : Arv Z h894 b645 k645 .char (6 : Int32) [(.int (nar .char (119 : Int32))), (.int (nar .char (114 : Int32))), (.int (nar .char (105 : Int32))), (.int (nar .char (116 : Int32))), (.int (nar .char (((((q5.toUInt64 >>> ((32 : Int32) &&& 0x3f).toInt64.toUInt64).toInt64) &&& (255 : Int64)).toInt32).toUInt32.toUInt16.toUInt32.toInt32))), (.int (nar .char (((((q5.toUInt64 >>> ((40 : Int32) &&& 0x3f).toInt64.toUInt64).toInt64) &&& (255 : Int64)).toInt32).toUInt32.toUInt16.toUInt32.toInt32)))] (.int (0 : Int32))) => ?_
      have hk895 := Nat.le_trans hk885 (Keep.of_wr W894).1
      have sf_b645_895 := Safe.wr W894 sf_b645_885 H885 sf_b645_885
      have Rr895 := Rr885.trans (CHr.wr W894 sf_b645_885 H885)
      have H895 := CHv.wr W894 sf_b645_885 H885
      have Ol_896 := Ol_886.wr W894 ge_b645
      have Ex855_897 := Ex855_887.wr W894
      have Fc855_898 := Fc855_888.other W894 (Or.inl (Ne.symm ne_b645_l855))
      have Fv855_899 := Fv855_889.other W894 (Or.inl (Ne.symm ne_b645_l855))
      have Vb855_900 := Vb855_890.other W894 (Ne.symm ne_b645_lb855)
      have Z_901 := Nat.le_trans Z_891 (Keep.of_wr W894).1
      have N894 := Fr.snoc X894 N893 ge_b645
      refine Owe.iload X894.here hx (hb hby at_174) rfl ?_
      refine Owe.iconst X894.here hx (hb hby at_176) (w := (4 : Int32)) rfl ?_
      refine Owe.icmpNo X894.here hx (hb hby at_177) rfl (tlt (by decide)).2.2.2 ?_
      refine Owe.aload X894.here hx (hb hby at_180) rfl rfl ?_
      refine Owe.iconst X894.here hx (hb hby at_182) (w := (4 : Int32)) rfl ?_
      refine Owe.aload X894.here hx (hb hby at_183) rfl rfl ?_
      refine Owe.iconst X894.here hx (hb hby at_185) (w := (4 : Int32)) rfl ?_
      have hcd902 : StrChars.Road.CodA ([119, 114, 105, 116, 101] : List Int32) 0 (5 : Int32) ((([119, 114, 105, 116, 101] : List Int32).map (fun c => c.toInt8.toInt32)).map Value.int) := StrChars.Road.codOf (n := 5) rfl (fun x hx => (Tx855.1 x hx).2)
      have hbd902 := up ([119, 114, 105, 116, 101] : List Int32) Tx855.1
      refine Owe.virt X894 hx hZ855 (y := (⟨"java/lang/String", "charAt", "(I)C"⟩ : MethodName)) (z := (⟨"java/lang/String", "charAt", "(I)C"⟩ : MethodName)) (Q := fun v h' L => v = some (.int (([119, 114, 105, 116, 101] : List Int32).getD 4 0)) ∧ L = [] ∧ h' = h894) (kc := 0) (ks := 0) hown855 (mvT hZ855 (hw _ (List.mem_of_getElem? (i := 23) rfl))) (mvT hZ855 (hw _ (List.mem_of_getElem? (i := 24) rfl))) (mvT hZ855 (hw _ (List.mem_of_getElem? (i := 26) rfl))) (mvT hZ855 (hw _ (List.mem_of_getElem? (i := 25) rfl))) (notFace_of_selects (args := #[]) (mvT hZ855 (hw _ (List.mem_of_getElem? (i := 26) rfl)))) (by decide) (StrChars.Road.chN (W := 2) hZ855 (own_hch hw) (kI := 4) (hw _ (List.mem_of_getElem? (i := 4) rfl)) Ex855_897 Fv855_899 Fc855_898 Vb855_900 hcd902 hbd902 (S_COMPACT_STRINGS.ext Ol_896.2) cs0 (S_SIOOBE_FORMATTER.ext Ol_896.2) ir_fm Tx855.2 (i := 4) (Nat.le_of_ble_eq_true rfl) (j := (4 : Int32)) rfl (by decide) (by decide)) (by rw [hml]; rfl) (a := l855) (argsL := [(.int (4 : Int32))]) (rest := [(.int (4 : Int32)), (.ref b645)]) Ex855_897 (lenOf pd_12 rfl) rfl (Nat.le_of_ble_eq_true rfl) (hb hby at_186) rfl e894 (by decide) (by decide) fun T903 v903 L903 X903 hQ903 => ?_
      obtain ⟨rfl, rfl, e903⟩ := hQ903
      have N903 := Fr.app N894 (Fr.nil n0)
      refine Owe.castore X903 hx hZ855 e903 V894 (x := (101 : Int32)) 4 rfl (Nat.le_of_ble_eq_true rfl) (by decide) (hb hby at_189) rfl fun T904 h904 X904 e904 W904 (V904 : Arv Z h904 b645 k645 .char (6 : Int32) [(.int (nar .char (119 : Int32))), (.int (nar .char (114 : Int32))), (.int (nar .char (105 : Int32))), (.int (nar .char (116 : Int32))), (.int (nar .char (101 : Int32))), (.int (nar .char (((((q5.toUInt64 >>> ((40 : Int32) &&& 0x3f).toInt64.toUInt64).toInt64) &&& (255 : Int64)).toInt32).toUInt32.toUInt16.toUInt32.toInt32)))] (.int (0 : Int32))) => ?_
      have hk905 := Nat.le_trans hk895 (Keep.of_wr W904).1
      have sf_b645_905 := Safe.wr W904 sf_b645_895 H895 sf_b645_895
      have Rr905 := Rr895.trans (CHr.wr W904 sf_b645_895 H895)
      have H905 := CHv.wr W904 sf_b645_895 H895
      have Ol_906 := Ol_896.wr W904 ge_b645
      have Ex855_907 := Ex855_897.wr W904
      have Fc855_908 := Fc855_898.other W904 (Or.inl (Ne.symm ne_b645_l855))
      have Fv855_909 := Fv855_899.other W904 (Or.inl (Ne.symm ne_b645_l855))
      have Vb855_910 := Vb855_900.other W904 (Ne.symm ne_b645_lb855)
      have Z_911 := Nat.le_trans Z_901 (Keep.of_wr W904).1
      have N904 := Fr.snoc X904 N903 ge_b645
      refine Owe.iload X904.here hx (hb hby at_190) rfl ?_
      refine Owe.istore X904.here hx (hb hby at_192) rfl (l' := #[.val (.int p1), .val (.int p2), .val (.int p3), .val (.int p4), .val (.long q5), .second, .val (.ref b645), .val (.int (5 : Int32)), .val (.int (p1 &&& (3 : Int32))), .val (.ref l855), .val (.int (5 : Int32)), .unset, .unset]) rfl ?_
      refine Owe.iloadN X904.here hx (hb hby at_194) rfl ?_
      refine Owe.iconst X904.here hx (hb hby at_195) (w := (2 : Int32)) rfl ?_
      refine Owe.iushr X904.here hx (hb hby at_196) rfl ?_
      refine Owe.iconst X904.here hx (hb hby at_197) (w := (3 : Int32)) rfl ?_
      refine Owe.iand X904.here hx (hb hby at_198) rfl ?_
      refine Owe.istore X904.here hx (hb hby at_199) rfl (l' := #[.val (.int p1), .val (.int p2), .val (.int p3), .val (.int p4), .val (.long q5), .second, .val (.ref b645), .val (.int (5 : Int32)), .val (.int (p1 &&& (3 : Int32))), .val (.ref l855), .val (.int (5 : Int32)), .val (.int (((p1.toUInt32 >>> ((2 : Int32) &&& 31).toUInt32).toInt32) &&& (3 : Int32))), .unset]) rfl ?_
      refine Owe.iloadN X904.here hx (hb hby at_201) rfl ?_
      refine Owe.sipush X904.here hx (hb hby at_202) (w := (255 : Int32)) rfl ?_
      refine Owe.iand X904.here hx (hb hby at_205) rfl ?_
      refine Owe.i2c X904.here hx (hb hby at_206) rfl ?_
      refine Owe.istore X904.here hx (hb hby at_207) rfl (l' := #[.val (.int p1), .val (.int p2), .val (.int p3), .val (.int p4), .val (.long q5), .second, .val (.ref b645), .val (.int (5 : Int32)), .val (.int (p1 &&& (3 : Int32))), .val (.ref l855), .val (.int (5 : Int32)), .val (.int (((p1.toUInt32 >>> ((2 : Int32) &&& 31).toUInt32).toInt32) &&& (3 : Int32))), .val (.int ((p4 &&& (255 : Int32)).toUInt32.toUInt16.toUInt32.toInt32))]) rfl ?_
      refine Owe.iload X904.here hx (hb hby at_209) rfl ?_
      refine Owe.iconst X904.here hx (hb hby at_211) (w := (1 : Int32)) rfl ?_
      by_cases hc212_912 : (((p1.toUInt32 >>> ((2 : Int32) &&& 31).toUInt32).toInt32) &&& (3 : Int32)) = (1 : Int32)
      · skip
        refine Owe.icmpNo X904.here hx (hb hby at_212) rfl (teq hc212_912).2 ?_
        refine Owe.aload X904.here hx (hb hby at_215) rfl rfl ?_
        refine Owe.iloadN X904.here hx (hb hby at_217) rfl ?_
        refine Owe.ldcI X904 hx (v := (2147483647 : Int32)) hown855 (mvT hZ855 (hw _ (List.mem_of_getElem? (i := 137) rfl))) (hb hby at_218) ?_
        refine Owe.iand X904.here hx (hb hby at_220) rfl ?_
        refine Owe.iload X904.here hx (hb hby at_221) rfl ?_
        refine Owe.irem X904.here hx (hb hby at_223) rfl (by decide) ?_
        rcases own_rem5 p3 with hk | hk | hk | hk | hk
        · rw [hk]
          refine Owe.iload X904.here hx (hb hby at_224) rfl ?_
          refine Owe.castore X904 hx hZ855 e904 V904 (x := ((p4 &&& (255 : Int32)).toUInt32.toUInt16.toUInt32.toInt32)) 0 rfl (Nat.le_of_ble_eq_true rfl) (by decide) (hb hby at_226) rfl fun T913 h913 X913 e913 W913 (V913 : Arv Z h913 b645 k645 .char (6 : Int32) [(.int (nar .char ((p4 &&& (255 : Int32)).toUInt32.toUInt16.toUInt32.toInt32))), (.int (nar .char (114 : Int32))), (.int (nar .char (105 : Int32))), (.int (nar .char (116 : Int32))), (.int (nar .char (101 : Int32))), (.int (nar .char (((((q5.toUInt64 >>> ((40 : Int32) &&& 0x3f).toInt64.toUInt64).toInt64) &&& (255 : Int64)).toInt32).toUInt32.toUInt16.toUInt32.toInt32)))] (.int (0 : Int32))) => ?_
          have hk914 := Nat.le_trans hk905 (Keep.of_wr W913).1
          have sf_b645_914 := Safe.wr W913 sf_b645_905 H905 sf_b645_905
          have Rr914 := Rr905.trans (CHr.wr W913 sf_b645_905 H905)
          have H914 := CHv.wr W913 sf_b645_905 H905
          have Ol_915 := Ol_906.wr W913 ge_b645
          have Ex855_916 := Ex855_907.wr W913
          have Fc855_917 := Fc855_908.other W913 (Or.inl (Ne.symm ne_b645_l855))
          have Fv855_918 := Fv855_909.other W913 (Or.inl (Ne.symm ne_b645_l855))
          have Vb855_919 := Vb855_910.other W913 (Ne.symm ne_b645_lb855)
          have Z_920 := Nat.le_trans Z_911 (Keep.of_wr W913).1
          have N913 := Fr.snoc X913 N904 ge_b645
          refine Owe.goto X913.here hx (hb hby at_227) (pc' := 267) (by decide) (by decide) ?_
          refine Owe.aload X913.here hx (hb hby at_267) rfl rfl ?_
          refine Owe.iload X913.here hx (hb hby at_269) rfl ?_
          refine Owe.stat X913 hx (y := (⟨"com/example/wade/wade/monitor/AccessGoverningPinLaw", "make", "([CI)Ljava/lang/String;"⟩ : MethodName)) hown855 (mvT hZ855 (hw _ (List.mem_of_getElem? (i := 45) rfl))) (mvT hZ855 (hw _ (List.mem_of_getElem? (i := 46) rfl))) (mvT hZ855 (hw _ (List.mem_of_getElem? (i := 47) rfl))) (mvT hZ855 (hw _ (List.mem_of_getElem? (i := 48) rfl))) (by decide) (backOf (W := 0) (rmmk5 l Z a0 hw [] b645 k645 (nar .char ((p4 &&& (255 : Int32)).toUInt32.toUInt16.toUInt32.toInt32)) (nar .char (114 : Int32)) (nar .char (105 : Int32)) (nar .char (116 : Int32)) (nar .char (101 : Int32)) (nar .char (((((q5.toUInt64 >>> ((40 : Int32) &&& 0x3f).toInt64.toUInt64).toInt64) &&& (255 : Int64)).toInt32).toUInt32.toUInt16.toUInt32.toInt32)) G1 h913 n0 Z_920 V913 (and255_chars _) (by decide) (by decide) (by decide) (by decide) (own_c255L _) S_COMPACT_STRINGS cs0 Ol_915) hZ855 (hw _ (List.mem_of_getElem? (i := 48) rfl)) (hw _ (List.mem_of_getElem? (i := 47) rfl)) (by decide) (by decide)) (by rw [hml]; rfl) (argsL := [(.ref b645), (.int (5 : Int32))]) (rest := []) (lenOf pd_13 rfl) rfl (Nat.le_of_ble_eq_true rfl) (hb hby at_271) rfl e913 (by decide) (by decide) fun T921 v921 L921 X921 hQ921 => ?_
          obtain ⟨x1_921, t1_921, kb1_921, rfl, Nq921, K921, ge_x1_921, fresh_x1_921, E_x1_921, Fvalue_x1_921, Fcoder_x1_921, V_t1_921, Tx_x1_921⟩ := hQ921
          have N921 := Fr.app N913 Nq921
          have hk922 := Nat.le_trans hk914 K921.1
          have sf_b645_922 := Safe.keep K921 sf0 H914 sf_b645_914
          have Rr922 := Rr914.trans (CHr.keep K921 sf0 H914)
          have H922 := CHv.keep K921 sf0 H914
          have Ol_923 := Ol_915.keep K921 all0
          have V913_924 := V913.keep K921 nin0
          have Ex855_925 := Ex855_916.keep K921
          have Fc855_926 := Fc855_917.keep K921 nin0
          have Fv855_927 := Fv855_918.keep K921 nin0
          have Vb855_928 := Vb855_919.keep K921 nin0
          have Z_929 := Nat.le_trans Z_920 K921.1
          have ne_b645_x1_921 : b645 ≠ x1_921 := Nat.ne_of_lt (Nat.lt_of_lt_of_le V913.lt fresh_x1_921)
          have ne_l855_x1_921 : l855 ≠ x1_921 := Nat.ne_of_lt (Nat.lt_of_lt_of_le Ex855_916.lt fresh_x1_921)
          have ne_lb855_x1_921 : lb855 ≠ x1_921 := Nat.ne_of_lt (Nat.lt_of_lt_of_le Vb855_919.lt fresh_x1_921)
          exact cut274_b _ _ _ _ _ _ _ _ _ _ _ _ _ _ _ _ (X921.mono (by decide) (by decide)) rfl hS855 hk922 hZ855 hown855 N921 Z_929 Ol_923 H922 Rr922 E_x1_921 Fvalue_x1_921 Fcoder_x1_921 V_t1_921 Tx_x1_921
        · rw [hk]
          refine Owe.iload X904.here hx (hb hby at_224) rfl ?_
          refine Owe.castore X904 hx hZ855 e904 V904 (x := ((p4 &&& (255 : Int32)).toUInt32.toUInt16.toUInt32.toInt32)) 1 rfl (Nat.le_of_ble_eq_true rfl) (by decide) (hb hby at_226) rfl fun T930 h930 X930 e930 W930 (V930 : Arv Z h930 b645 k645 .char (6 : Int32) [(.int (nar .char (119 : Int32))), (.int (nar .char ((p4 &&& (255 : Int32)).toUInt32.toUInt16.toUInt32.toInt32))), (.int (nar .char (105 : Int32))), (.int (nar .char (116 : Int32))), (.int (nar .char (101 : Int32))), (.int (nar .char (((((q5.toUInt64 >>> ((40 : Int32) &&& 0x3f).toInt64.toUInt64).toInt64) &&& (255 : Int64)).toInt32).toUInt32.toUInt16.toUInt32.toInt32)))] (.int (0 : Int32))) => ?_
          have hk931 := Nat.le_trans hk905 (Keep.of_wr W930).1
          have sf_b645_931 := Safe.wr W930 sf_b645_905 H905 sf_b645_905
          have Rr931 := Rr905.trans (CHr.wr W930 sf_b645_905 H905)
          have H931 := CHv.wr W930 sf_b645_905 H905
          have Ol_932 := Ol_906.wr W930 ge_b645
          have Ex855_933 := Ex855_907.wr W930
          have Fc855_934 := Fc855_908.other W930 (Or.inl (Ne.symm ne_b645_l855))
          have Fv855_935 := Fv855_909.other W930 (Or.inl (Ne.symm ne_b645_l855))
          have Vb855_936 := Vb855_910.other W930 (Ne.symm ne_b645_lb855)
          have Z_937 := Nat.le_trans Z_911 (Keep.of_wr W930).1
          have N930 := Fr.snoc X930 N904 ge_b645
          refine Owe.goto X930.here hx (hb hby at_227) (pc' := 267) (by decide) (by decide) ?_
          refine Owe.aload X930.here hx (hb hby at_267) rfl rfl ?_
          refine Owe.iload X930.here hx (hb hby at_269) rfl ?_
          refine Owe.stat X930 hx (y := (⟨"com/example/wade/wade/monitor/AccessGoverningPinLaw", "make", "([CI)Ljava/lang/String;"⟩ : MethodName)) hown855 (mvT hZ855 (hw _ (List.mem_of_getElem? (i := 45) rfl))) (mvT hZ855 (hw _ (List.mem_of_getElem? (i := 46) rfl))) (mvT hZ855 (hw _ (List.mem_of_getElem? (i := 47) rfl))) (mvT hZ855 (hw _ (List.mem_of_getElem? (i := 48) rfl))) (by decide) (backOf (W := 0) (rmmk5 l Z a0 hw [] b645 k645 (nar .char (119 : Int32)) (nar .char ((p4 &&& (255 : Int32)).toUInt32.toUInt16.toUInt32.toInt32)) (nar .char (105 : Int32)) (nar .char (116 : Int32)) (nar .char (101 : Int32)) (nar .char (((((q5.toUInt64 >>> ((40 : Int32) &&& 0x3f).toInt64.toUInt64).toInt64) &&& (255 : Int64)).toInt32).toUInt32.toUInt16.toUInt32.toInt32)) G1 h930 n0 Z_937 V930 (by decide) (and255_chars _) (by decide) (by decide) (by decide) (own_c255L _) S_COMPACT_STRINGS cs0 Ol_932) hZ855 (hw _ (List.mem_of_getElem? (i := 48) rfl)) (hw _ (List.mem_of_getElem? (i := 47) rfl)) (by decide) (by decide)) (by rw [hml]; rfl) (argsL := [(.ref b645), (.int (5 : Int32))]) (rest := []) (lenOf pd_13 rfl) rfl (Nat.le_of_ble_eq_true rfl) (hb hby at_271) rfl e930 (by decide) (by decide) fun T938 v938 L938 X938 hQ938 => ?_
          obtain ⟨x1_938, t1_938, kb1_938, rfl, Nq938, K938, ge_x1_938, fresh_x1_938, E_x1_938, Fvalue_x1_938, Fcoder_x1_938, V_t1_938, Tx_x1_938⟩ := hQ938
          have N938 := Fr.app N930 Nq938
          have hk939 := Nat.le_trans hk931 K938.1
          have sf_b645_939 := Safe.keep K938 sf0 H931 sf_b645_931
          have Rr939 := Rr931.trans (CHr.keep K938 sf0 H931)
          have H939 := CHv.keep K938 sf0 H931
          have Ol_940 := Ol_932.keep K938 all0
          have V930_941 := V930.keep K938 nin0
          have Ex855_942 := Ex855_933.keep K938
          have Fc855_943 := Fc855_934.keep K938 nin0
          have Fv855_944 := Fv855_935.keep K938 nin0
          have Vb855_945 := Vb855_936.keep K938 nin0
          have Z_946 := Nat.le_trans Z_937 K938.1
          have ne_b645_x1_938 : b645 ≠ x1_938 := Nat.ne_of_lt (Nat.lt_of_lt_of_le V930.lt fresh_x1_938)
          have ne_l855_x1_938 : l855 ≠ x1_938 := Nat.ne_of_lt (Nat.lt_of_lt_of_le Ex855_933.lt fresh_x1_938)
          have ne_lb855_x1_938 : lb855 ≠ x1_938 := Nat.ne_of_lt (Nat.lt_of_lt_of_le Vb855_936.lt fresh_x1_938)
          exact cut274_b _ _ _ _ _ _ _ _ _ _ _ _ _ _ _ _ (X938.mono (by decide) (by decide)) rfl hS855 hk939 hZ855 hown855 N938 Z_946 Ol_940 H939 Rr939 E_x1_938 Fvalue_x1_938 Fcoder_x1_938 V_t1_938 Tx_x1_938
        · rw [hk]
          refine Owe.iload X904.here hx (hb hby at_224) rfl ?_
          refine Owe.castore X904 hx hZ855 e904 V904 (x := ((p4 &&& (255 : Int32)).toUInt32.toUInt16.toUInt32.toInt32)) 2 rfl (Nat.le_of_ble_eq_true rfl) (by decide) (hb hby at_226) rfl fun T947 h947 X947 e947 W947 (V947 : Arv Z h947 b645 k645 .char (6 : Int32) [(.int (nar .char (119 : Int32))), (.int (nar .char (114 : Int32))), (.int (nar .char ((p4 &&& (255 : Int32)).toUInt32.toUInt16.toUInt32.toInt32))), (.int (nar .char (116 : Int32))), (.int (nar .char (101 : Int32))), (.int (nar .char (((((q5.toUInt64 >>> ((40 : Int32) &&& 0x3f).toInt64.toUInt64).toInt64) &&& (255 : Int64)).toInt32).toUInt32.toUInt16.toUInt32.toInt32)))] (.int (0 : Int32))) => ?_
          have hk948 := Nat.le_trans hk905 (Keep.of_wr W947).1
          have sf_b645_948 := Safe.wr W947 sf_b645_905 H905 sf_b645_905
          have Rr948 := Rr905.trans (CHr.wr W947 sf_b645_905 H905)
          have H948 := CHv.wr W947 sf_b645_905 H905
          have Ol_949 := Ol_906.wr W947 ge_b645
          have Ex855_950 := Ex855_907.wr W947
          have Fc855_951 := Fc855_908.other W947 (Or.inl (Ne.symm ne_b645_l855))
          have Fv855_952 := Fv855_909.other W947 (Or.inl (Ne.symm ne_b645_l855))
          have Vb855_953 := Vb855_910.other W947 (Ne.symm ne_b645_lb855)
          have Z_954 := Nat.le_trans Z_911 (Keep.of_wr W947).1
          have N947 := Fr.snoc X947 N904 ge_b645
          refine Owe.goto X947.here hx (hb hby at_227) (pc' := 267) (by decide) (by decide) ?_
          refine Owe.aload X947.here hx (hb hby at_267) rfl rfl ?_
          refine Owe.iload X947.here hx (hb hby at_269) rfl ?_
          refine Owe.stat X947 hx (y := (⟨"com/example/wade/wade/monitor/AccessGoverningPinLaw", "make", "([CI)Ljava/lang/String;"⟩ : MethodName)) hown855 (mvT hZ855 (hw _ (List.mem_of_getElem? (i := 45) rfl))) (mvT hZ855 (hw _ (List.mem_of_getElem? (i := 46) rfl))) (mvT hZ855 (hw _ (List.mem_of_getElem? (i := 47) rfl))) (mvT hZ855 (hw _ (List.mem_of_getElem? (i := 48) rfl))) (by decide) (backOf (W := 0) (rmmk5 l Z a0 hw [] b645 k645 (nar .char (119 : Int32)) (nar .char (114 : Int32)) (nar .char ((p4 &&& (255 : Int32)).toUInt32.toUInt16.toUInt32.toInt32)) (nar .char (116 : Int32)) (nar .char (101 : Int32)) (nar .char (((((q5.toUInt64 >>> ((40 : Int32) &&& 0x3f).toInt64.toUInt64).toInt64) &&& (255 : Int64)).toInt32).toUInt32.toUInt16.toUInt32.toInt32)) G1 h947 n0 Z_954 V947 (by decide) (by decide) (and255_chars _) (by decide) (by decide) (own_c255L _) S_COMPACT_STRINGS cs0 Ol_949) hZ855 (hw _ (List.mem_of_getElem? (i := 48) rfl)) (hw _ (List.mem_of_getElem? (i := 47) rfl)) (by decide) (by decide)) (by rw [hml]; rfl) (argsL := [(.ref b645), (.int (5 : Int32))]) (rest := []) (lenOf pd_13 rfl) rfl (Nat.le_of_ble_eq_true rfl) (hb hby at_271) rfl e947 (by decide) (by decide) fun T955 v955 L955 X955 hQ955 => ?_
          obtain ⟨x1_955, t1_955, kb1_955, rfl, Nq955, K955, ge_x1_955, fresh_x1_955, E_x1_955, Fvalue_x1_955, Fcoder_x1_955, V_t1_955, Tx_x1_955⟩ := hQ955
          have N955 := Fr.app N947 Nq955
          have hk956 := Nat.le_trans hk948 K955.1
          have sf_b645_956 := Safe.keep K955 sf0 H948 sf_b645_948
          have Rr956 := Rr948.trans (CHr.keep K955 sf0 H948)
          have H956 := CHv.keep K955 sf0 H948
          have Ol_957 := Ol_949.keep K955 all0
          have V947_958 := V947.keep K955 nin0
          have Ex855_959 := Ex855_950.keep K955
          have Fc855_960 := Fc855_951.keep K955 nin0
          have Fv855_961 := Fv855_952.keep K955 nin0
          have Vb855_962 := Vb855_953.keep K955 nin0
          have Z_963 := Nat.le_trans Z_954 K955.1
          have ne_b645_x1_955 : b645 ≠ x1_955 := Nat.ne_of_lt (Nat.lt_of_lt_of_le V947.lt fresh_x1_955)
          have ne_l855_x1_955 : l855 ≠ x1_955 := Nat.ne_of_lt (Nat.lt_of_lt_of_le Ex855_950.lt fresh_x1_955)
          have ne_lb855_x1_955 : lb855 ≠ x1_955 := Nat.ne_of_lt (Nat.lt_of_lt_of_le Vb855_953.lt fresh_x1_955)
          exact cut274_b _ _ _ _ _ _ _ _ _ _ _ _ _ _ _ _ (X955.mono (by decide) (by decide)) rfl hS855 hk956 hZ855 hown855 N955 Z_963 Ol_957 H956 Rr956 E_x1_955 Fvalue_x1_955 Fcoder_x1_955 V_t1_955 Tx_x1_955
        · rw [hk]
          refine Owe.iload X904.here hx (hb hby at_224) rfl ?_
          refine Owe.castore X904 hx hZ855 e904 V904 (x := ((p4 &&& (255 : Int32)).toUInt32.toUInt16.toUInt32.toInt32)) 3 rfl (Nat.le_of_ble_eq_true rfl) (by decide) (hb hby at_226) rfl fun T964 h964 X964 e964 W964 (V964 : Arv Z h964 b645 k645 .char (6 : Int32) [(.int (nar .char (119 : Int32))), (.int (nar .char (114 : Int32))), (.int (nar .char (105 : Int32))), (.int (nar .char ((p4 &&& (255 : Int32)).toUInt32.toUInt16.toUInt32.toInt32))), (.int (nar .char (101 : Int32))), (.int (nar .char (((((q5.toUInt64 >>> ((40 : Int32) &&& 0x3f).toInt64.toUInt64).toInt64) &&& (255 : Int64)).toInt32).toUInt32.toUInt16.toUInt32.toInt32)))] (.int (0 : Int32))) => ?_
          have hk965 := Nat.le_trans hk905 (Keep.of_wr W964).1
          have sf_b645_965 := Safe.wr W964 sf_b645_905 H905 sf_b645_905
          have Rr965 := Rr905.trans (CHr.wr W964 sf_b645_905 H905)
          have H965 := CHv.wr W964 sf_b645_905 H905
          have Ol_966 := Ol_906.wr W964 ge_b645
          have Ex855_967 := Ex855_907.wr W964
          have Fc855_968 := Fc855_908.other W964 (Or.inl (Ne.symm ne_b645_l855))
          have Fv855_969 := Fv855_909.other W964 (Or.inl (Ne.symm ne_b645_l855))
          have Vb855_970 := Vb855_910.other W964 (Ne.symm ne_b645_lb855)
          have Z_971 := Nat.le_trans Z_911 (Keep.of_wr W964).1
          have N964 := Fr.snoc X964 N904 ge_b645
          refine Owe.goto X964.here hx (hb hby at_227) (pc' := 267) (by decide) (by decide) ?_
          refine Owe.aload X964.here hx (hb hby at_267) rfl rfl ?_
          refine Owe.iload X964.here hx (hb hby at_269) rfl ?_
          refine Owe.stat X964 hx (y := (⟨"com/example/wade/wade/monitor/AccessGoverningPinLaw", "make", "([CI)Ljava/lang/String;"⟩ : MethodName)) hown855 (mvT hZ855 (hw _ (List.mem_of_getElem? (i := 45) rfl))) (mvT hZ855 (hw _ (List.mem_of_getElem? (i := 46) rfl))) (mvT hZ855 (hw _ (List.mem_of_getElem? (i := 47) rfl))) (mvT hZ855 (hw _ (List.mem_of_getElem? (i := 48) rfl))) (by decide) (backOf (W := 0) (rmmk5 l Z a0 hw [] b645 k645 (nar .char (119 : Int32)) (nar .char (114 : Int32)) (nar .char (105 : Int32)) (nar .char ((p4 &&& (255 : Int32)).toUInt32.toUInt16.toUInt32.toInt32)) (nar .char (101 : Int32)) (nar .char (((((q5.toUInt64 >>> ((40 : Int32) &&& 0x3f).toInt64.toUInt64).toInt64) &&& (255 : Int64)).toInt32).toUInt32.toUInt16.toUInt32.toInt32)) G1 h964 n0 Z_971 V964 (by decide) (by decide) (by decide) (and255_chars _) (by decide) (own_c255L _) S_COMPACT_STRINGS cs0 Ol_966) hZ855 (hw _ (List.mem_of_getElem? (i := 48) rfl)) (hw _ (List.mem_of_getElem? (i := 47) rfl)) (by decide) (by decide)) (by rw [hml]; rfl) (argsL := [(.ref b645), (.int (5 : Int32))]) (rest := []) (lenOf pd_13 rfl) rfl (Nat.le_of_ble_eq_true rfl) (hb hby at_271) rfl e964 (by decide) (by decide) fun T972 v972 L972 X972 hQ972 => ?_
          obtain ⟨x1_972, t1_972, kb1_972, rfl, Nq972, K972, ge_x1_972, fresh_x1_972, E_x1_972, Fvalue_x1_972, Fcoder_x1_972, V_t1_972, Tx_x1_972⟩ := hQ972
          have N972 := Fr.app N964 Nq972
          have hk973 := Nat.le_trans hk965 K972.1
          have sf_b645_973 := Safe.keep K972 sf0 H965 sf_b645_965
          have Rr973 := Rr965.trans (CHr.keep K972 sf0 H965)
          have H973 := CHv.keep K972 sf0 H965
          have Ol_974 := Ol_966.keep K972 all0
          have V964_975 := V964.keep K972 nin0
          have Ex855_976 := Ex855_967.keep K972
          have Fc855_977 := Fc855_968.keep K972 nin0
          have Fv855_978 := Fv855_969.keep K972 nin0
          have Vb855_979 := Vb855_970.keep K972 nin0
          have Z_980 := Nat.le_trans Z_971 K972.1
          have ne_b645_x1_972 : b645 ≠ x1_972 := Nat.ne_of_lt (Nat.lt_of_lt_of_le V964.lt fresh_x1_972)
          have ne_l855_x1_972 : l855 ≠ x1_972 := Nat.ne_of_lt (Nat.lt_of_lt_of_le Ex855_967.lt fresh_x1_972)
          have ne_lb855_x1_972 : lb855 ≠ x1_972 := Nat.ne_of_lt (Nat.lt_of_lt_of_le Vb855_970.lt fresh_x1_972)
          exact cut274_b _ _ _ _ _ _ _ _ _ _ _ _ _ _ _ _ (X972.mono (by decide) (by decide)) rfl hS855 hk973 hZ855 hown855 N972 Z_980 Ol_974 H973 Rr973 E_x1_972 Fvalue_x1_972 Fcoder_x1_972 V_t1_972 Tx_x1_972
        · rw [hk]
          refine Owe.iload X904.here hx (hb hby at_224) rfl ?_
          refine Owe.castore X904 hx hZ855 e904 V904 (x := ((p4 &&& (255 : Int32)).toUInt32.toUInt16.toUInt32.toInt32)) 4 rfl (Nat.le_of_ble_eq_true rfl) (by decide) (hb hby at_226) rfl fun T981 h981 X981 e981 W981 (V981 : Arv Z h981 b645 k645 .char (6 : Int32) [(.int (nar .char (119 : Int32))), (.int (nar .char (114 : Int32))), (.int (nar .char (105 : Int32))), (.int (nar .char (116 : Int32))), (.int (nar .char ((p4 &&& (255 : Int32)).toUInt32.toUInt16.toUInt32.toInt32))), (.int (nar .char (((((q5.toUInt64 >>> ((40 : Int32) &&& 0x3f).toInt64.toUInt64).toInt64) &&& (255 : Int64)).toInt32).toUInt32.toUInt16.toUInt32.toInt32)))] (.int (0 : Int32))) => ?_
          have hk982 := Nat.le_trans hk905 (Keep.of_wr W981).1
          have sf_b645_982 := Safe.wr W981 sf_b645_905 H905 sf_b645_905
          have Rr982 := Rr905.trans (CHr.wr W981 sf_b645_905 H905)
          have H982 := CHv.wr W981 sf_b645_905 H905
          have Ol_983 := Ol_906.wr W981 ge_b645
          have Ex855_984 := Ex855_907.wr W981
          have Fc855_985 := Fc855_908.other W981 (Or.inl (Ne.symm ne_b645_l855))
          have Fv855_986 := Fv855_909.other W981 (Or.inl (Ne.symm ne_b645_l855))
          have Vb855_987 := Vb855_910.other W981 (Ne.symm ne_b645_lb855)
          have Z_988 := Nat.le_trans Z_911 (Keep.of_wr W981).1
          have N981 := Fr.snoc X981 N904 ge_b645
          refine Owe.goto X981.here hx (hb hby at_227) (pc' := 267) (by decide) (by decide) ?_
          refine Owe.aload X981.here hx (hb hby at_267) rfl rfl ?_
          refine Owe.iload X981.here hx (hb hby at_269) rfl ?_
          refine Owe.stat X981 hx (y := (⟨"com/example/wade/wade/monitor/AccessGoverningPinLaw", "make", "([CI)Ljava/lang/String;"⟩ : MethodName)) hown855 (mvT hZ855 (hw _ (List.mem_of_getElem? (i := 45) rfl))) (mvT hZ855 (hw _ (List.mem_of_getElem? (i := 46) rfl))) (mvT hZ855 (hw _ (List.mem_of_getElem? (i := 47) rfl))) (mvT hZ855 (hw _ (List.mem_of_getElem? (i := 48) rfl))) (by decide) (backOf (W := 0) (rmmk5 l Z a0 hw [] b645 k645 (nar .char (119 : Int32)) (nar .char (114 : Int32)) (nar .char (105 : Int32)) (nar .char (116 : Int32)) (nar .char ((p4 &&& (255 : Int32)).toUInt32.toUInt16.toUInt32.toInt32)) (nar .char (((((q5.toUInt64 >>> ((40 : Int32) &&& 0x3f).toInt64.toUInt64).toInt64) &&& (255 : Int64)).toInt32).toUInt32.toUInt16.toUInt32.toInt32)) G1 h981 n0 Z_988 V981 (by decide) (by decide) (by decide) (by decide) (and255_chars _) (own_c255L _) S_COMPACT_STRINGS cs0 Ol_983) hZ855 (hw _ (List.mem_of_getElem? (i := 48) rfl)) (hw _ (List.mem_of_getElem? (i := 47) rfl)) (by decide) (by decide)) (by rw [hml]; rfl) (argsL := [(.ref b645), (.int (5 : Int32))]) (rest := []) (lenOf pd_13 rfl) rfl (Nat.le_of_ble_eq_true rfl) (hb hby at_271) rfl e981 (by decide) (by decide) fun T989 v989 L989 X989 hQ989 => ?_
          obtain ⟨x1_989, t1_989, kb1_989, rfl, Nq989, K989, ge_x1_989, fresh_x1_989, E_x1_989, Fvalue_x1_989, Fcoder_x1_989, V_t1_989, Tx_x1_989⟩ := hQ989
          have N989 := Fr.app N981 Nq989
          have hk990 := Nat.le_trans hk982 K989.1
          have sf_b645_990 := Safe.keep K989 sf0 H982 sf_b645_982
          have Rr990 := Rr982.trans (CHr.keep K989 sf0 H982)
          have H990 := CHv.keep K989 sf0 H982
          have Ol_991 := Ol_983.keep K989 all0
          have V981_992 := V981.keep K989 nin0
          have Ex855_993 := Ex855_984.keep K989
          have Fc855_994 := Fc855_985.keep K989 nin0
          have Fv855_995 := Fv855_986.keep K989 nin0
          have Vb855_996 := Vb855_987.keep K989 nin0
          have Z_997 := Nat.le_trans Z_988 K989.1
          have ne_b645_x1_989 : b645 ≠ x1_989 := Nat.ne_of_lt (Nat.lt_of_lt_of_le V981.lt fresh_x1_989)
          have ne_l855_x1_989 : l855 ≠ x1_989 := Nat.ne_of_lt (Nat.lt_of_lt_of_le Ex855_984.lt fresh_x1_989)
          have ne_lb855_x1_989 : lb855 ≠ x1_989 := Nat.ne_of_lt (Nat.lt_of_lt_of_le Vb855_987.lt fresh_x1_989)
          exact cut274_b _ _ _ _ _ _ _ _ _ _ _ _ _ _ _ _ (X989.mono (by decide) (by decide)) rfl hS855 hk990 hZ855 hown855 N989 Z_997 Ol_991 H990 Rr990 E_x1_989 Fvalue_x1_989 Fcoder_x1_989 V_t1_989 Tx_x1_989
      · skip
        refine Owe.icmpYes X904.here hx (hb hby at_212) rfl (feq hc212_912).2 (pc' := 230) (by decide) (by decide) ?_
        refine Owe.iload X904.here hx (hb hby at_230) rfl ?_
        refine Owe.iconst X904.here hx (hb hby at_232) (w := (2 : Int32)) rfl ?_
        by_cases hc233_998 : (((p1.toUInt32 >>> ((2 : Int32) &&& 31).toUInt32).toInt32) &&& (3 : Int32)) = (2 : Int32)
        · skip
          refine Owe.icmpNo X904.here hx (hb hby at_233) rfl (teq hc233_998).2 ?_
          refine Owe.iloadN X904.here hx (hb hby at_236) rfl ?_
          refine Owe.ldcI X904 hx (v := (2147483647 : Int32)) hown855 (mvT hZ855 (hw _ (List.mem_of_getElem? (i := 137) rfl))) (hb hby at_237) ?_
          refine Owe.iand X904.here hx (hb hby at_239) rfl ?_
          refine Owe.iload X904.here hx (hb hby at_240) rfl ?_
          refine Owe.irem X904.here hx (hb hby at_242) rfl (by decide) ?_
          rcases own_rem5 p2 with hk | hk | hk | hk | hk
          · rw [hk]
            refine Owe.istore X904.here hx (hb hby at_243) rfl (l' := #[.val (.int p1), .val (.int p2), .val (.int p3), .val (.int p4), .val (.long q5), .second, .val (.ref b645), .val (.int (0 : Int32)), .val (.int (p1 &&& (3 : Int32))), .val (.ref l855), .val (.int (5 : Int32)), .val (.int (((p1.toUInt32 >>> ((2 : Int32) &&& 31).toUInt32).toInt32) &&& (3 : Int32))), .val (.int ((p4 &&& (255 : Int32)).toUInt32.toUInt16.toUInt32.toInt32))]) rfl ?_
            refine Owe.goto X904.here hx (hb hby at_245) (pc' := 267) (by decide) (by decide) ?_
            refine Owe.aload X904.here hx (hb hby at_267) rfl rfl ?_
            refine Owe.iload X904.here hx (hb hby at_269) rfl ?_
            refine Owe.statS X904 hx hZ855 hS855 hk905 (y := (⟨"com/example/wade/wade/monitor/AccessGoverningPinLaw", "make", "([CI)Ljava/lang/String;"⟩ : MethodName)) hown855 (mvT hZ855 (hw _ (List.mem_of_getElem? (i := 45) rfl))) (mvT hZ855 (hw _ (List.mem_of_getElem? (i := 46) rfl))) (mvT hZ855 (hw _ (List.mem_of_getElem? (i := 47) rfl))) (mvT hZ855 (hw _ (List.mem_of_getElem? (i := 48) rfl))) (by decide) (backOfSH (W := 0) (rmmk0 l Z a0 hw [] b645 k645 (nar .char (119 : Int32)) (nar .char (114 : Int32)) (nar .char (105 : Int32)) (nar .char (116 : Int32)) (nar .char (101 : Int32)) (nar .char (((((q5.toUInt64 >>> ((40 : Int32) &&& 0x3f).toInt64.toUInt64).toInt64) &&& (255 : Int64)).toInt32).toUInt32.toUInt16.toUInt32.toInt32)) G1 h904 n0 Z_911 V904 (by decide) (by decide) (by decide) (by decide) (by decide) (own_c255L _) S_COMPACT_STRINGS cs0 Ol_906) hZ855 (hw _ (List.mem_of_getElem? (i := 48) rfl)) (hw _ (List.mem_of_getElem? (i := 47) rfl)) (by decide) (by decide) (own_ew hw) H905) (by rw [hml]; rfl) (argsL := [(.ref b645), (.int (0 : Int32))]) (rest := []) (lenOf pd_13 rfl) rfl (Nat.le_of_ble_eq_true rfl) (hb hby at_271) rfl e904 (by decide) (by decide) fun T999 v999 L999 X999 hS999 hZ999 hown999 hC999 hQ999 => ?_
            obtain ⟨x1_999, t1_999, kb1_999, rfl, Nq999, K999, ge_x1_999, fresh_x1_999, E_x1_999, Fvalue_x1_999, Fcoder_x1_999, V_t1_999, Tx_x1_999⟩ := hQ999
            have N999 := Fr.app N904 Nq999
            have hk1000 := Nat.le_trans hk905 K999.1
            have Ol_1001 := Ol_906.keep K999 all0
            have V904_1002 := V904.keep K999 nin0
            have Ex855_1003 := Ex855_907.keep K999
            have Fc855_1004 := Fc855_908.keep K999 nin0
            have Fv855_1005 := Fv855_909.keep K999 nin0
            have Vb855_1006 := Vb855_910.keep K999 nin0
            have Z_1007 := Nat.le_trans Z_911 K999.1
            have sf_b645_999 := CHr.safe hC999 V904.lt sf_b645_905
            have Rr999 := Rr905.trans hC999
            have H999 := hC999.1
            have hk999 : T999.heap.size ≤ T999.heap.size := Nat.le_refl _
            have ne_b645_x1_999 : b645 ≠ x1_999 := Nat.ne_of_lt (Nat.lt_of_lt_of_le V904.lt fresh_x1_999)
            have ne_l855_x1_999 : l855 ≠ x1_999 := Nat.ne_of_lt (Nat.lt_of_lt_of_le Ex855_907.lt fresh_x1_999)
            have ne_lb855_x1_999 : lb855 ≠ x1_999 := Nat.ne_of_lt (Nat.lt_of_lt_of_le Vb855_910.lt fresh_x1_999)
            exact cut274_b _ _ _ _ _ _ _ _ _ _ _ _ _ _ _ _ (X999.mono (by decide) (by decide)) rfl hS999 hk999 hZ999 hown999 N999 Z_1007 Ol_1001 H999 Rr999 E_x1_999 Fvalue_x1_999 Fcoder_x1_999 V_t1_999 Tx_x1_999
          · rw [hk]
            refine Owe.istore X904.here hx (hb hby at_243) rfl (l' := #[.val (.int p1), .val (.int p2), .val (.int p3), .val (.int p4), .val (.long q5), .second, .val (.ref b645), .val (.int (1 : Int32)), .val (.int (p1 &&& (3 : Int32))), .val (.ref l855), .val (.int (5 : Int32)), .val (.int (((p1.toUInt32 >>> ((2 : Int32) &&& 31).toUInt32).toInt32) &&& (3 : Int32))), .val (.int ((p4 &&& (255 : Int32)).toUInt32.toUInt16.toUInt32.toInt32))]) rfl ?_
            refine Owe.goto X904.here hx (hb hby at_245) (pc' := 267) (by decide) (by decide) ?_
            refine Owe.aload X904.here hx (hb hby at_267) rfl rfl ?_
            refine Owe.iload X904.here hx (hb hby at_269) rfl ?_
            refine Owe.stat X904 hx (y := (⟨"com/example/wade/wade/monitor/AccessGoverningPinLaw", "make", "([CI)Ljava/lang/String;"⟩ : MethodName)) hown855 (mvT hZ855 (hw _ (List.mem_of_getElem? (i := 45) rfl))) (mvT hZ855 (hw _ (List.mem_of_getElem? (i := 46) rfl))) (mvT hZ855 (hw _ (List.mem_of_getElem? (i := 47) rfl))) (mvT hZ855 (hw _ (List.mem_of_getElem? (i := 48) rfl))) (by decide) (backOf (W := 0) (rmmk1 l Z a0 hw [] b645 k645 (nar .char (119 : Int32)) (nar .char (114 : Int32)) (nar .char (105 : Int32)) (nar .char (116 : Int32)) (nar .char (101 : Int32)) (nar .char (((((q5.toUInt64 >>> ((40 : Int32) &&& 0x3f).toInt64.toUInt64).toInt64) &&& (255 : Int64)).toInt32).toUInt32.toUInt16.toUInt32.toInt32)) G1 h904 n0 Z_911 V904 (by decide) (by decide) (by decide) (by decide) (by decide) (own_c255L _) S_COMPACT_STRINGS cs0 Ol_906) hZ855 (hw _ (List.mem_of_getElem? (i := 48) rfl)) (hw _ (List.mem_of_getElem? (i := 47) rfl)) (by decide) (by decide)) (by rw [hml]; rfl) (argsL := [(.ref b645), (.int (1 : Int32))]) (rest := []) (lenOf pd_13 rfl) rfl (Nat.le_of_ble_eq_true rfl) (hb hby at_271) rfl e904 (by decide) (by decide) fun T1008 v1008 L1008 X1008 hQ1008 => ?_
            obtain ⟨x1_1008, t1_1008, kb1_1008, rfl, Nq1008, K1008, ge_x1_1008, fresh_x1_1008, E_x1_1008, Fvalue_x1_1008, Fcoder_x1_1008, V_t1_1008, Tx_x1_1008⟩ := hQ1008
            have N1008 := Fr.app N904 Nq1008
            have hk1009 := Nat.le_trans hk905 K1008.1
            have sf_b645_1009 := Safe.keep K1008 sf0 H905 sf_b645_905
            have Rr1009 := Rr905.trans (CHr.keep K1008 sf0 H905)
            have H1009 := CHv.keep K1008 sf0 H905
            have Ol_1010 := Ol_906.keep K1008 all0
            have V904_1011 := V904.keep K1008 nin0
            have Ex855_1012 := Ex855_907.keep K1008
            have Fc855_1013 := Fc855_908.keep K1008 nin0
            have Fv855_1014 := Fv855_909.keep K1008 nin0
            have Vb855_1015 := Vb855_910.keep K1008 nin0
            have Z_1016 := Nat.le_trans Z_911 K1008.1
            have ne_b645_x1_1008 : b645 ≠ x1_1008 := Nat.ne_of_lt (Nat.lt_of_lt_of_le V904.lt fresh_x1_1008)
            have ne_l855_x1_1008 : l855 ≠ x1_1008 := Nat.ne_of_lt (Nat.lt_of_lt_of_le Ex855_907.lt fresh_x1_1008)
            have ne_lb855_x1_1008 : lb855 ≠ x1_1008 := Nat.ne_of_lt (Nat.lt_of_lt_of_le Vb855_910.lt fresh_x1_1008)
            exact cut274_b _ _ _ _ _ _ _ _ _ _ _ _ _ _ _ _ (X1008.mono (by decide) (by decide)) rfl hS855 hk1009 hZ855 hown855 N1008 Z_1016 Ol_1010 H1009 Rr1009 E_x1_1008 Fvalue_x1_1008 Fcoder_x1_1008 V_t1_1008 Tx_x1_1008
          · rw [hk]
            refine Owe.istore X904.here hx (hb hby at_243) rfl (l' := #[.val (.int p1), .val (.int p2), .val (.int p3), .val (.int p4), .val (.long q5), .second, .val (.ref b645), .val (.int (2 : Int32)), .val (.int (p1 &&& (3 : Int32))), .val (.ref l855), .val (.int (5 : Int32)), .val (.int (((p1.toUInt32 >>> ((2 : Int32) &&& 31).toUInt32).toInt32) &&& (3 : Int32))), .val (.int ((p4 &&& (255 : Int32)).toUInt32.toUInt16.toUInt32.toInt32))]) rfl ?_
            refine Owe.goto X904.here hx (hb hby at_245) (pc' := 267) (by decide) (by decide) ?_
            refine Owe.aload X904.here hx (hb hby at_267) rfl rfl ?_
            refine Owe.iload X904.here hx (hb hby at_269) rfl ?_
            refine Owe.stat X904 hx (y := (⟨"com/example/wade/wade/monitor/AccessGoverningPinLaw", "make", "([CI)Ljava/lang/String;"⟩ : MethodName)) hown855 (mvT hZ855 (hw _ (List.mem_of_getElem? (i := 45) rfl))) (mvT hZ855 (hw _ (List.mem_of_getElem? (i := 46) rfl))) (mvT hZ855 (hw _ (List.mem_of_getElem? (i := 47) rfl))) (mvT hZ855 (hw _ (List.mem_of_getElem? (i := 48) rfl))) (by decide) (backOf (W := 0) (rmmk2 l Z a0 hw [] b645 k645 (nar .char (119 : Int32)) (nar .char (114 : Int32)) (nar .char (105 : Int32)) (nar .char (116 : Int32)) (nar .char (101 : Int32)) (nar .char (((((q5.toUInt64 >>> ((40 : Int32) &&& 0x3f).toInt64.toUInt64).toInt64) &&& (255 : Int64)).toInt32).toUInt32.toUInt16.toUInt32.toInt32)) G1 h904 n0 Z_911 V904 (by decide) (by decide) (by decide) (by decide) (by decide) (own_c255L _) S_COMPACT_STRINGS cs0 Ol_906) hZ855 (hw _ (List.mem_of_getElem? (i := 48) rfl)) (hw _ (List.mem_of_getElem? (i := 47) rfl)) (by decide) (by decide)) (by rw [hml]; rfl) (argsL := [(.ref b645), (.int (2 : Int32))]) (rest := []) (lenOf pd_13 rfl) rfl (Nat.le_of_ble_eq_true rfl) (hb hby at_271) rfl e904 (by decide) (by decide) fun T1017 v1017 L1017 X1017 hQ1017 => ?_
            obtain ⟨x1_1017, t1_1017, kb1_1017, rfl, Nq1017, K1017, ge_x1_1017, fresh_x1_1017, E_x1_1017, Fvalue_x1_1017, Fcoder_x1_1017, V_t1_1017, Tx_x1_1017⟩ := hQ1017
            have N1017 := Fr.app N904 Nq1017
            have hk1018 := Nat.le_trans hk905 K1017.1
            have sf_b645_1018 := Safe.keep K1017 sf0 H905 sf_b645_905
            have Rr1018 := Rr905.trans (CHr.keep K1017 sf0 H905)
            have H1018 := CHv.keep K1017 sf0 H905
            have Ol_1019 := Ol_906.keep K1017 all0
            have V904_1020 := V904.keep K1017 nin0
            have Ex855_1021 := Ex855_907.keep K1017
            have Fc855_1022 := Fc855_908.keep K1017 nin0
            have Fv855_1023 := Fv855_909.keep K1017 nin0
            have Vb855_1024 := Vb855_910.keep K1017 nin0
            have Z_1025 := Nat.le_trans Z_911 K1017.1
            have ne_b645_x1_1017 : b645 ≠ x1_1017 := Nat.ne_of_lt (Nat.lt_of_lt_of_le V904.lt fresh_x1_1017)
            have ne_l855_x1_1017 : l855 ≠ x1_1017 := Nat.ne_of_lt (Nat.lt_of_lt_of_le Ex855_907.lt fresh_x1_1017)
            have ne_lb855_x1_1017 : lb855 ≠ x1_1017 := Nat.ne_of_lt (Nat.lt_of_lt_of_le Vb855_910.lt fresh_x1_1017)
            exact cut274_b _ _ _ _ _ _ _ _ _ _ _ _ _ _ _ _ (X1017.mono (by decide) (by decide)) rfl hS855 hk1018 hZ855 hown855 N1017 Z_1025 Ol_1019 H1018 Rr1018 E_x1_1017 Fvalue_x1_1017 Fcoder_x1_1017 V_t1_1017 Tx_x1_1017
          · rw [hk]
            refine Owe.istore X904.here hx (hb hby at_243) rfl (l' := #[.val (.int p1), .val (.int p2), .val (.int p3), .val (.int p4), .val (.long q5), .second, .val (.ref b645), .val (.int (3 : Int32)), .val (.int (p1 &&& (3 : Int32))), .val (.ref l855), .val (.int (5 : Int32)), .val (.int (((p1.toUInt32 >>> ((2 : Int32) &&& 31).toUInt32).toInt32) &&& (3 : Int32))), .val (.int ((p4 &&& (255 : Int32)).toUInt32.toUInt16.toUInt32.toInt32))]) rfl ?_
            refine Owe.goto X904.here hx (hb hby at_245) (pc' := 267) (by decide) (by decide) ?_
            refine Owe.aload X904.here hx (hb hby at_267) rfl rfl ?_
            refine Owe.iload X904.here hx (hb hby at_269) rfl ?_
            refine Owe.stat X904 hx (y := (⟨"com/example/wade/wade/monitor/AccessGoverningPinLaw", "make", "([CI)Ljava/lang/String;"⟩ : MethodName)) hown855 (mvT hZ855 (hw _ (List.mem_of_getElem? (i := 45) rfl))) (mvT hZ855 (hw _ (List.mem_of_getElem? (i := 46) rfl))) (mvT hZ855 (hw _ (List.mem_of_getElem? (i := 47) rfl))) (mvT hZ855 (hw _ (List.mem_of_getElem? (i := 48) rfl))) (by decide) (backOf (W := 0) (rmmk3 l Z a0 hw [] b645 k645 (nar .char (119 : Int32)) (nar .char (114 : Int32)) (nar .char (105 : Int32)) (nar .char (116 : Int32)) (nar .char (101 : Int32)) (nar .char (((((q5.toUInt64 >>> ((40 : Int32) &&& 0x3f).toInt64.toUInt64).toInt64) &&& (255 : Int64)).toInt32).toUInt32.toUInt16.toUInt32.toInt32)) G1 h904 n0 Z_911 V904 (by decide) (by decide) (by decide) (by decide) (by decide) (own_c255L _) S_COMPACT_STRINGS cs0 Ol_906) hZ855 (hw _ (List.mem_of_getElem? (i := 48) rfl)) (hw _ (List.mem_of_getElem? (i := 47) rfl)) (by decide) (by decide)) (by rw [hml]; rfl) (argsL := [(.ref b645), (.int (3 : Int32))]) (rest := []) (lenOf pd_13 rfl) rfl (Nat.le_of_ble_eq_true rfl) (hb hby at_271) rfl e904 (by decide) (by decide) fun T1026 v1026 L1026 X1026 hQ1026 => ?_
            obtain ⟨x1_1026, t1_1026, kb1_1026, rfl, Nq1026, K1026, ge_x1_1026, fresh_x1_1026, E_x1_1026, Fvalue_x1_1026, Fcoder_x1_1026, V_t1_1026, Tx_x1_1026⟩ := hQ1026
            have N1026 := Fr.app N904 Nq1026
            have hk1027 := Nat.le_trans hk905 K1026.1
            have sf_b645_1027 := Safe.keep K1026 sf0 H905 sf_b645_905
            have Rr1027 := Rr905.trans (CHr.keep K1026 sf0 H905)
            have H1027 := CHv.keep K1026 sf0 H905
            have Ol_1028 := Ol_906.keep K1026 all0
            have V904_1029 := V904.keep K1026 nin0
            have Ex855_1030 := Ex855_907.keep K1026
            have Fc855_1031 := Fc855_908.keep K1026 nin0
            have Fv855_1032 := Fv855_909.keep K1026 nin0
            have Vb855_1033 := Vb855_910.keep K1026 nin0
            have Z_1034 := Nat.le_trans Z_911 K1026.1
            have ne_b645_x1_1026 : b645 ≠ x1_1026 := Nat.ne_of_lt (Nat.lt_of_lt_of_le V904.lt fresh_x1_1026)
            have ne_l855_x1_1026 : l855 ≠ x1_1026 := Nat.ne_of_lt (Nat.lt_of_lt_of_le Ex855_907.lt fresh_x1_1026)
            have ne_lb855_x1_1026 : lb855 ≠ x1_1026 := Nat.ne_of_lt (Nat.lt_of_lt_of_le Vb855_910.lt fresh_x1_1026)
            exact cut274_b _ _ _ _ _ _ _ _ _ _ _ _ _ _ _ _ (X1026.mono (by decide) (by decide)) rfl hS855 hk1027 hZ855 hown855 N1026 Z_1034 Ol_1028 H1027 Rr1027 E_x1_1026 Fvalue_x1_1026 Fcoder_x1_1026 V_t1_1026 Tx_x1_1026
          · rw [hk]
            refine Owe.istore X904.here hx (hb hby at_243) rfl (l' := #[.val (.int p1), .val (.int p2), .val (.int p3), .val (.int p4), .val (.long q5), .second, .val (.ref b645), .val (.int (4 : Int32)), .val (.int (p1 &&& (3 : Int32))), .val (.ref l855), .val (.int (5 : Int32)), .val (.int (((p1.toUInt32 >>> ((2 : Int32) &&& 31).toUInt32).toInt32) &&& (3 : Int32))), .val (.int ((p4 &&& (255 : Int32)).toUInt32.toUInt16.toUInt32.toInt32))]) rfl ?_
            refine Owe.goto X904.here hx (hb hby at_245) (pc' := 267) (by decide) (by decide) ?_
            refine Owe.aload X904.here hx (hb hby at_267) rfl rfl ?_
            refine Owe.iload X904.here hx (hb hby at_269) rfl ?_
            refine Owe.stat X904 hx (y := (⟨"com/example/wade/wade/monitor/AccessGoverningPinLaw", "make", "([CI)Ljava/lang/String;"⟩ : MethodName)) hown855 (mvT hZ855 (hw _ (List.mem_of_getElem? (i := 45) rfl))) (mvT hZ855 (hw _ (List.mem_of_getElem? (i := 46) rfl))) (mvT hZ855 (hw _ (List.mem_of_getElem? (i := 47) rfl))) (mvT hZ855 (hw _ (List.mem_of_getElem? (i := 48) rfl))) (by decide) (backOf (W := 0) (rmmk4 l Z a0 hw [] b645 k645 (nar .char (119 : Int32)) (nar .char (114 : Int32)) (nar .char (105 : Int32)) (nar .char (116 : Int32)) (nar .char (101 : Int32)) (nar .char (((((q5.toUInt64 >>> ((40 : Int32) &&& 0x3f).toInt64.toUInt64).toInt64) &&& (255 : Int64)).toInt32).toUInt32.toUInt16.toUInt32.toInt32)) G1 h904 n0 Z_911 V904 (by decide) (by decide) (by decide) (by decide) (by decide) (own_c255L _) S_COMPACT_STRINGS cs0 Ol_906) hZ855 (hw _ (List.mem_of_getElem? (i := 48) rfl)) (hw _ (List.mem_of_getElem? (i := 47) rfl)) (by decide) (by decide)) (by rw [hml]; rfl) (argsL := [(.ref b645), (.int (4 : Int32))]) (rest := []) (lenOf pd_13 rfl) rfl (Nat.le_of_ble_eq_true rfl) (hb hby at_271) rfl e904 (by decide) (by decide) fun T1035 v1035 L1035 X1035 hQ1035 => ?_
            obtain ⟨x1_1035, t1_1035, kb1_1035, rfl, Nq1035, K1035, ge_x1_1035, fresh_x1_1035, E_x1_1035, Fvalue_x1_1035, Fcoder_x1_1035, V_t1_1035, Tx_x1_1035⟩ := hQ1035
            have N1035 := Fr.app N904 Nq1035
            have hk1036 := Nat.le_trans hk905 K1035.1
            have sf_b645_1036 := Safe.keep K1035 sf0 H905 sf_b645_905
            have Rr1036 := Rr905.trans (CHr.keep K1035 sf0 H905)
            have H1036 := CHv.keep K1035 sf0 H905
            have Ol_1037 := Ol_906.keep K1035 all0
            have V904_1038 := V904.keep K1035 nin0
            have Ex855_1039 := Ex855_907.keep K1035
            have Fc855_1040 := Fc855_908.keep K1035 nin0
            have Fv855_1041 := Fv855_909.keep K1035 nin0
            have Vb855_1042 := Vb855_910.keep K1035 nin0
            have Z_1043 := Nat.le_trans Z_911 K1035.1
            have ne_b645_x1_1035 : b645 ≠ x1_1035 := Nat.ne_of_lt (Nat.lt_of_lt_of_le V904.lt fresh_x1_1035)
            have ne_l855_x1_1035 : l855 ≠ x1_1035 := Nat.ne_of_lt (Nat.lt_of_lt_of_le Ex855_907.lt fresh_x1_1035)
            have ne_lb855_x1_1035 : lb855 ≠ x1_1035 := Nat.ne_of_lt (Nat.lt_of_lt_of_le Vb855_910.lt fresh_x1_1035)
            exact cut274_b _ _ _ _ _ _ _ _ _ _ _ _ _ _ _ _ (X1035.mono (by decide) (by decide)) rfl hS855 hk1036 hZ855 hown855 N1035 Z_1043 Ol_1037 H1036 Rr1036 E_x1_1035 Fvalue_x1_1035 Fcoder_x1_1035 V_t1_1035 Tx_x1_1035
        · skip
          refine Owe.icmpYes X904.here hx (hb hby at_233) rfl (feq hc233_998).2 (pc' := 248) (by decide) (by decide) ?_
          refine Owe.iload X904.here hx (hb hby at_248) rfl ?_
          refine Owe.iconst X904.here hx (hb hby at_250) (w := (3 : Int32)) rfl ?_
          by_cases hc251_1044 : (((p1.toUInt32 >>> ((2 : Int32) &&& 31).toUInt32).toInt32) &&& (3 : Int32)) = (3 : Int32)
          · skip
            refine Owe.icmpNo X904.here hx (hb hby at_251) rfl (teq hc251_1044).2 ?_
            refine Owe.aload X904.here hx (hb hby at_254) rfl rfl ?_
            refine Owe.iload X904.here hx (hb hby at_256) rfl ?_
            refine Owe.iload X904.here hx (hb hby at_258) rfl ?_
            refine Owe.castore X904 hx hZ855 e904 V904 (x := ((p4 &&& (255 : Int32)).toUInt32.toUInt16.toUInt32.toInt32)) 5 rfl (Nat.le_of_ble_eq_true rfl) (by decide) (hb hby at_260) rfl fun T1045 h1045 X1045 e1045 W1045 (V1045 : Arv Z h1045 b645 k645 .char (6 : Int32) [(.int (nar .char (119 : Int32))), (.int (nar .char (114 : Int32))), (.int (nar .char (105 : Int32))), (.int (nar .char (116 : Int32))), (.int (nar .char (101 : Int32))), (.int (nar .char ((p4 &&& (255 : Int32)).toUInt32.toUInt16.toUInt32.toInt32)))] (.int (0 : Int32))) => ?_
            have hk1046 := Nat.le_trans hk905 (Keep.of_wr W1045).1
            have sf_b645_1046 := Safe.wr W1045 sf_b645_905 H905 sf_b645_905
            have Rr1046 := Rr905.trans (CHr.wr W1045 sf_b645_905 H905)
            have H1046 := CHv.wr W1045 sf_b645_905 H905
            have Ol_1047 := Ol_906.wr W1045 ge_b645
            have Ex855_1048 := Ex855_907.wr W1045
            have Fc855_1049 := Fc855_908.other W1045 (Or.inl (Ne.symm ne_b645_l855))
            have Fv855_1050 := Fv855_909.other W1045 (Or.inl (Ne.symm ne_b645_l855))
            have Vb855_1051 := Vb855_910.other W1045 (Ne.symm ne_b645_lb855)
            have Z_1052 := Nat.le_trans Z_911 (Keep.of_wr W1045).1
            have N1045 := Fr.snoc X1045 N904 ge_b645
            refine Owe.iload X1045.here hx (hb hby at_261) rfl ?_
            refine Owe.iconst X1045.here hx (hb hby at_263) (w := (1 : Int32)) rfl ?_
            refine Owe.iadd X1045.here hx (hb hby at_264) rfl ?_
            refine Owe.istore X1045.here hx (hb hby at_265) rfl (l' := #[.val (.int p1), .val (.int p2), .val (.int p3), .val (.int p4), .val (.long q5), .second, .val (.ref b645), .val (.int (6 : Int32)), .val (.int (p1 &&& (3 : Int32))), .val (.ref l855), .val (.int (5 : Int32)), .val (.int (((p1.toUInt32 >>> ((2 : Int32) &&& 31).toUInt32).toInt32) &&& (3 : Int32))), .val (.int ((p4 &&& (255 : Int32)).toUInt32.toUInt16.toUInt32.toInt32))]) rfl ?_
            refine Owe.aload X1045.here hx (hb hby at_267) rfl rfl ?_
            refine Owe.iload X1045.here hx (hb hby at_269) rfl ?_
            refine Owe.stat X1045 hx (y := (⟨"com/example/wade/wade/monitor/AccessGoverningPinLaw", "make", "([CI)Ljava/lang/String;"⟩ : MethodName)) hown855 (mvT hZ855 (hw _ (List.mem_of_getElem? (i := 45) rfl))) (mvT hZ855 (hw _ (List.mem_of_getElem? (i := 46) rfl))) (mvT hZ855 (hw _ (List.mem_of_getElem? (i := 47) rfl))) (mvT hZ855 (hw _ (List.mem_of_getElem? (i := 48) rfl))) (by decide) (backOf (W := 0) (rmmk6 l Z a0 hw [] b645 k645 (nar .char (119 : Int32)) (nar .char (114 : Int32)) (nar .char (105 : Int32)) (nar .char (116 : Int32)) (nar .char (101 : Int32)) (nar .char ((p4 &&& (255 : Int32)).toUInt32.toUInt16.toUInt32.toInt32)) G1 h1045 n0 Z_1052 V1045 (by decide) (by decide) (by decide) (by decide) (by decide) (and255_chars _) S_COMPACT_STRINGS cs0 Ol_1047) hZ855 (hw _ (List.mem_of_getElem? (i := 48) rfl)) (hw _ (List.mem_of_getElem? (i := 47) rfl)) (by decide) (by decide)) (by rw [hml]; rfl) (argsL := [(.ref b645), (.int (6 : Int32))]) (rest := []) (lenOf pd_13 rfl) rfl (Nat.le_of_ble_eq_true rfl) (hb hby at_271) rfl e1045 (by decide) (by decide) fun T1053 v1053 L1053 X1053 hQ1053 => ?_
            obtain ⟨x1_1053, t1_1053, kb1_1053, rfl, Nq1053, K1053, ge_x1_1053, fresh_x1_1053, E_x1_1053, Fvalue_x1_1053, Fcoder_x1_1053, V_t1_1053, Tx_x1_1053⟩ := hQ1053
            have N1053 := Fr.app N1045 Nq1053
            have hk1054 := Nat.le_trans hk1046 K1053.1
            have sf_b645_1054 := Safe.keep K1053 sf0 H1046 sf_b645_1046
            have Rr1054 := Rr1046.trans (CHr.keep K1053 sf0 H1046)
            have H1054 := CHv.keep K1053 sf0 H1046
            have Ol_1055 := Ol_1047.keep K1053 all0
            have V1045_1056 := V1045.keep K1053 nin0
            have Ex855_1057 := Ex855_1048.keep K1053
            have Fc855_1058 := Fc855_1049.keep K1053 nin0
            have Fv855_1059 := Fv855_1050.keep K1053 nin0
            have Vb855_1060 := Vb855_1051.keep K1053 nin0
            have Z_1061 := Nat.le_trans Z_1052 K1053.1
            have ne_b645_x1_1053 : b645 ≠ x1_1053 := Nat.ne_of_lt (Nat.lt_of_lt_of_le V1045.lt fresh_x1_1053)
            have ne_l855_x1_1053 : l855 ≠ x1_1053 := Nat.ne_of_lt (Nat.lt_of_lt_of_le Ex855_1048.lt fresh_x1_1053)
            have ne_lb855_x1_1053 : lb855 ≠ x1_1053 := Nat.ne_of_lt (Nat.lt_of_lt_of_le Vb855_1051.lt fresh_x1_1053)
            exact cut274_b _ _ _ _ _ _ _ _ _ _ _ _ _ _ _ _ (X1053.mono (by decide) (by decide)) rfl hS855 hk1054 hZ855 hown855 N1053 Z_1061 Ol_1055 H1054 Rr1054 E_x1_1053 Fvalue_x1_1053 Fcoder_x1_1053 V_t1_1053 Tx_x1_1053
          · skip
            refine Owe.icmpYes X904.here hx (hb hby at_251) rfl (feq hc251_1044).2 (pc' := 267) (by decide) (by decide) ?_
            refine Owe.aload X904.here hx (hb hby at_267) rfl rfl ?_
            refine Owe.iload X904.here hx (hb hby at_269) rfl ?_
            refine Owe.stat X904 hx (y := (⟨"com/example/wade/wade/monitor/AccessGoverningPinLaw", "make", "([CI)Ljava/lang/String;"⟩ : MethodName)) hown855 (mvT hZ855 (hw _ (List.mem_of_getElem? (i := 45) rfl))) (mvT hZ855 (hw _ (List.mem_of_getElem? (i := 46) rfl))) (mvT hZ855 (hw _ (List.mem_of_getElem? (i := 47) rfl))) (mvT hZ855 (hw _ (List.mem_of_getElem? (i := 48) rfl))) (by decide) (backOf (W := 0) (rmmk5 l Z a0 hw [] b645 k645 (nar .char (119 : Int32)) (nar .char (114 : Int32)) (nar .char (105 : Int32)) (nar .char (116 : Int32)) (nar .char (101 : Int32)) (nar .char (((((q5.toUInt64 >>> ((40 : Int32) &&& 0x3f).toInt64.toUInt64).toInt64) &&& (255 : Int64)).toInt32).toUInt32.toUInt16.toUInt32.toInt32)) G1 h904 n0 Z_911 V904 (by decide) (by decide) (by decide) (by decide) (by decide) (own_c255L _) S_COMPACT_STRINGS cs0 Ol_906) hZ855 (hw _ (List.mem_of_getElem? (i := 48) rfl)) (hw _ (List.mem_of_getElem? (i := 47) rfl)) (by decide) (by decide)) (by rw [hml]; rfl) (argsL := [(.ref b645), (.int (5 : Int32))]) (rest := []) (lenOf pd_13 rfl) rfl (Nat.le_of_ble_eq_true rfl) (hb hby at_271) rfl e904 (by decide) (by decide) fun T1062 v1062 L1062 X1062 hQ1062 => ?_
            obtain ⟨x1_1062, t1_1062, kb1_1062, rfl, Nq1062, K1062, ge_x1_1062, fresh_x1_1062, E_x1_1062, Fvalue_x1_1062, Fcoder_x1_1062, V_t1_1062, Tx_x1_1062⟩ := hQ1062
            have N1062 := Fr.app N904 Nq1062
            have hk1063 := Nat.le_trans hk905 K1062.1
            have sf_b645_1063 := Safe.keep K1062 sf0 H905 sf_b645_905
            have Rr1063 := Rr905.trans (CHr.keep K1062 sf0 H905)
            have H1063 := CHv.keep K1062 sf0 H905
            have Ol_1064 := Ol_906.keep K1062 all0
            have V904_1065 := V904.keep K1062 nin0
            have Ex855_1066 := Ex855_907.keep K1062
            have Fc855_1067 := Fc855_908.keep K1062 nin0
            have Fv855_1068 := Fv855_909.keep K1062 nin0
            have Vb855_1069 := Vb855_910.keep K1062 nin0
            have Z_1070 := Nat.le_trans Z_911 K1062.1
            have ne_b645_x1_1062 : b645 ≠ x1_1062 := Nat.ne_of_lt (Nat.lt_of_lt_of_le V904.lt fresh_x1_1062)
            have ne_l855_x1_1062 : l855 ≠ x1_1062 := Nat.ne_of_lt (Nat.lt_of_lt_of_le Ex855_907.lt fresh_x1_1062)
            have ne_lb855_x1_1062 : lb855 ≠ x1_1062 := Nat.ne_of_lt (Nat.lt_of_lt_of_le Vb855_910.lt fresh_x1_1062)
            exact cut274_b _ _ _ _ _ _ _ _ _ _ _ _ _ _ _ _ (X1062.mono (by decide) (by decide)) rfl hS855 hk1063 hZ855 hown855 N1062 Z_1070 Ol_1064 H1063 Rr1063 E_x1_1062 Fvalue_x1_1062 Fcoder_x1_1062 V_t1_1062 Tx_x1_1062
  · skip
    refine Owe.icmpYes X669.here hx (hb hby at_110) rfl (flt hc110_673).2.1 (pc' := 267) (by decide) (by decide) ?_
    rcases own_m7 p2 with hk | hk | hk | hk | hk | hk | hk
    · rw [hk]
      refine Owe.aload X669.here hx (hb hby at_267) rfl rfl ?_
      refine Owe.iload X669.here hx (hb hby at_269) rfl ?_
      refine Owe.statS X669 hx hZ hS0 hk670 (y := (⟨"com/example/wade/wade/monitor/AccessGoverningPinLaw", "make", "([CI)Ljava/lang/String;"⟩ : MethodName)) hown1 (mvT hZ (hw _ (List.mem_of_getElem? (i := 45) rfl))) (mvT hZ (hw _ (List.mem_of_getElem? (i := 46) rfl))) (mvT hZ (hw _ (List.mem_of_getElem? (i := 47) rfl))) (mvT hZ (hw _ (List.mem_of_getElem? (i := 48) rfl))) (by decide) (backOfSH (W := 0) (rmmk0 l Z a0 hw [] b645 k645 (nar .char (((q5 &&& (255 : Int64)).toInt32).toUInt32.toUInt16.toUInt32.toInt32)) (nar .char (((((q5.toUInt64 >>> ((8 : Int32) &&& 0x3f).toInt64.toUInt64).toInt64) &&& (255 : Int64)).toInt32).toUInt32.toUInt16.toUInt32.toInt32)) (nar .char (((((q5.toUInt64 >>> ((16 : Int32) &&& 0x3f).toInt64.toUInt64).toInt64) &&& (255 : Int64)).toInt32).toUInt32.toUInt16.toUInt32.toInt32)) (nar .char (((((q5.toUInt64 >>> ((24 : Int32) &&& 0x3f).toInt64.toUInt64).toInt64) &&& (255 : Int64)).toInt32).toUInt32.toUInt16.toUInt32.toInt32)) (nar .char (((((q5.toUInt64 >>> ((32 : Int32) &&& 0x3f).toInt64.toUInt64).toInt64) &&& (255 : Int64)).toInt32).toUInt32.toUInt16.toUInt32.toInt32)) (nar .char (((((q5.toUInt64 >>> ((40 : Int32) &&& 0x3f).toInt64.toUInt64).toInt64) &&& (255 : Int64)).toInt32).toUInt32.toUInt16.toUInt32.toInt32)) G1 h669 n0 Z_672 V669 (own_c255L _) (own_c255L _) (own_c255L _) (own_c255L _) (own_c255L _) (own_c255L _) S_COMPACT_STRINGS cs0 Ol_671) hZ (hw _ (List.mem_of_getElem? (i := 48) rfl)) (hw _ (List.mem_of_getElem? (i := 47) rfl)) (by decide) (by decide) (own_ew hw) H670) (by rw [hml]; rfl) (argsL := [(.ref b645), (.int (0 : Int32))]) (rest := []) (lenOf pd_13 rfl) rfl (Nat.le_of_ble_eq_true rfl) (hb hby at_271) rfl e669 (by decide) (by decide) fun T1071 v1071 L1071 X1071 hS1071 hZ1071 hown1071 hC1071 hQ1071 => ?_
      obtain ⟨x1_1071, t1_1071, kb1_1071, rfl, Nq1071, K1071, ge_x1_1071, fresh_x1_1071, E_x1_1071, Fvalue_x1_1071, Fcoder_x1_1071, V_t1_1071, Tx_x1_1071⟩ := hQ1071
      have N1071 := Fr.app N669 Nq1071
      have hk1072 := Nat.le_trans hk670 K1071.1
      have Ol_1073 := Ol_671.keep K1071 all0
      have V669_1074 := V669.keep K1071 nin0
      have Z_1075 := Nat.le_trans Z_672 K1071.1
      have sf_b645_1071 := CHr.safe hC1071 V669.lt sf_b645_670
      have Rr1071 := Rr670.trans hC1071
      have H1071 := hC1071.1
      have hk1071 : T1071.heap.size ≤ T1071.heap.size := Nat.le_refl _
      have ne_b645_x1_1071 : b645 ≠ x1_1071 := Nat.ne_of_lt (Nat.lt_of_lt_of_le V669.lt fresh_x1_1071)
      exact cut274_a _ _ _ _ _ _ _ _ _ _ _ _  (X1071.mono (by decide) (by decide)) rfl hS1071 hk1071 hZ1071 hown1071 N1071 Z_1075 Ol_1073 H1071 Rr1071 E_x1_1071 Fvalue_x1_1071 Fcoder_x1_1071 V_t1_1071 Tx_x1_1071
    · rw [hk]
      refine Owe.aload X669.here hx (hb hby at_267) rfl rfl ?_
      refine Owe.iload X669.here hx (hb hby at_269) rfl ?_
      refine Owe.stat X669 hx (y := (⟨"com/example/wade/wade/monitor/AccessGoverningPinLaw", "make", "([CI)Ljava/lang/String;"⟩ : MethodName)) hown1 (mvT hZ (hw _ (List.mem_of_getElem? (i := 45) rfl))) (mvT hZ (hw _ (List.mem_of_getElem? (i := 46) rfl))) (mvT hZ (hw _ (List.mem_of_getElem? (i := 47) rfl))) (mvT hZ (hw _ (List.mem_of_getElem? (i := 48) rfl))) (by decide) (backOf (W := 0) (rmmk1 l Z a0 hw [] b645 k645 (nar .char (((q5 &&& (255 : Int64)).toInt32).toUInt32.toUInt16.toUInt32.toInt32)) (nar .char (((((q5.toUInt64 >>> ((8 : Int32) &&& 0x3f).toInt64.toUInt64).toInt64) &&& (255 : Int64)).toInt32).toUInt32.toUInt16.toUInt32.toInt32)) (nar .char (((((q5.toUInt64 >>> ((16 : Int32) &&& 0x3f).toInt64.toUInt64).toInt64) &&& (255 : Int64)).toInt32).toUInt32.toUInt16.toUInt32.toInt32)) (nar .char (((((q5.toUInt64 >>> ((24 : Int32) &&& 0x3f).toInt64.toUInt64).toInt64) &&& (255 : Int64)).toInt32).toUInt32.toUInt16.toUInt32.toInt32)) (nar .char (((((q5.toUInt64 >>> ((32 : Int32) &&& 0x3f).toInt64.toUInt64).toInt64) &&& (255 : Int64)).toInt32).toUInt32.toUInt16.toUInt32.toInt32)) (nar .char (((((q5.toUInt64 >>> ((40 : Int32) &&& 0x3f).toInt64.toUInt64).toInt64) &&& (255 : Int64)).toInt32).toUInt32.toUInt16.toUInt32.toInt32)) G1 h669 n0 Z_672 V669 (own_c255L _) (own_c255L _) (own_c255L _) (own_c255L _) (own_c255L _) (own_c255L _) S_COMPACT_STRINGS cs0 Ol_671) hZ (hw _ (List.mem_of_getElem? (i := 48) rfl)) (hw _ (List.mem_of_getElem? (i := 47) rfl)) (by decide) (by decide)) (by rw [hml]; rfl) (argsL := [(.ref b645), (.int (1 : Int32))]) (rest := []) (lenOf pd_13 rfl) rfl (Nat.le_of_ble_eq_true rfl) (hb hby at_271) rfl e669 (by decide) (by decide) fun T1076 v1076 L1076 X1076 hQ1076 => ?_
      obtain ⟨x1_1076, t1_1076, kb1_1076, rfl, Nq1076, K1076, ge_x1_1076, fresh_x1_1076, E_x1_1076, Fvalue_x1_1076, Fcoder_x1_1076, V_t1_1076, Tx_x1_1076⟩ := hQ1076
      have N1076 := Fr.app N669 Nq1076
      have hk1077 := Nat.le_trans hk670 K1076.1
      have sf_b645_1077 := Safe.keep K1076 sf0 H670 sf_b645_670
      have Rr1077 := Rr670.trans (CHr.keep K1076 sf0 H670)
      have H1077 := CHv.keep K1076 sf0 H670
      have Ol_1078 := Ol_671.keep K1076 all0
      have V669_1079 := V669.keep K1076 nin0
      have Z_1080 := Nat.le_trans Z_672 K1076.1
      have ne_b645_x1_1076 : b645 ≠ x1_1076 := Nat.ne_of_lt (Nat.lt_of_lt_of_le V669.lt fresh_x1_1076)
      exact cut274_a _ _ _ _ _ _ _ _ _ _ _ _  (X1076.mono (by decide) (by decide)) rfl hS0 hk1077 hZ hown1 N1076 Z_1080 Ol_1078 H1077 Rr1077 E_x1_1076 Fvalue_x1_1076 Fcoder_x1_1076 V_t1_1076 Tx_x1_1076
    · rw [hk]
      refine Owe.aload X669.here hx (hb hby at_267) rfl rfl ?_
      refine Owe.iload X669.here hx (hb hby at_269) rfl ?_
      refine Owe.stat X669 hx (y := (⟨"com/example/wade/wade/monitor/AccessGoverningPinLaw", "make", "([CI)Ljava/lang/String;"⟩ : MethodName)) hown1 (mvT hZ (hw _ (List.mem_of_getElem? (i := 45) rfl))) (mvT hZ (hw _ (List.mem_of_getElem? (i := 46) rfl))) (mvT hZ (hw _ (List.mem_of_getElem? (i := 47) rfl))) (mvT hZ (hw _ (List.mem_of_getElem? (i := 48) rfl))) (by decide) (backOf (W := 0) (rmmk2 l Z a0 hw [] b645 k645 (nar .char (((q5 &&& (255 : Int64)).toInt32).toUInt32.toUInt16.toUInt32.toInt32)) (nar .char (((((q5.toUInt64 >>> ((8 : Int32) &&& 0x3f).toInt64.toUInt64).toInt64) &&& (255 : Int64)).toInt32).toUInt32.toUInt16.toUInt32.toInt32)) (nar .char (((((q5.toUInt64 >>> ((16 : Int32) &&& 0x3f).toInt64.toUInt64).toInt64) &&& (255 : Int64)).toInt32).toUInt32.toUInt16.toUInt32.toInt32)) (nar .char (((((q5.toUInt64 >>> ((24 : Int32) &&& 0x3f).toInt64.toUInt64).toInt64) &&& (255 : Int64)).toInt32).toUInt32.toUInt16.toUInt32.toInt32)) (nar .char (((((q5.toUInt64 >>> ((32 : Int32) &&& 0x3f).toInt64.toUInt64).toInt64) &&& (255 : Int64)).toInt32).toUInt32.toUInt16.toUInt32.toInt32)) (nar .char (((((q5.toUInt64 >>> ((40 : Int32) &&& 0x3f).toInt64.toUInt64).toInt64) &&& (255 : Int64)).toInt32).toUInt32.toUInt16.toUInt32.toInt32)) G1 h669 n0 Z_672 V669 (own_c255L _) (own_c255L _) (own_c255L _) (own_c255L _) (own_c255L _) (own_c255L _) S_COMPACT_STRINGS cs0 Ol_671) hZ (hw _ (List.mem_of_getElem? (i := 48) rfl)) (hw _ (List.mem_of_getElem? (i := 47) rfl)) (by decide) (by decide)) (by rw [hml]; rfl) (argsL := [(.ref b645), (.int (2 : Int32))]) (rest := []) (lenOf pd_13 rfl) rfl (Nat.le_of_ble_eq_true rfl) (hb hby at_271) rfl e669 (by decide) (by decide) fun T1081 v1081 L1081 X1081 hQ1081 => ?_
      obtain ⟨x1_1081, t1_1081, kb1_1081, rfl, Nq1081, K1081, ge_x1_1081, fresh_x1_1081, E_x1_1081, Fvalue_x1_1081, Fcoder_x1_1081, V_t1_1081, Tx_x1_1081⟩ := hQ1081
      have N1081 := Fr.app N669 Nq1081
      have hk1082 := Nat.le_trans hk670 K1081.1
      have sf_b645_1082 := Safe.keep K1081 sf0 H670 sf_b645_670
      have Rr1082 := Rr670.trans (CHr.keep K1081 sf0 H670)
      have H1082 := CHv.keep K1081 sf0 H670
      have Ol_1083 := Ol_671.keep K1081 all0
      have V669_1084 := V669.keep K1081 nin0
      have Z_1085 := Nat.le_trans Z_672 K1081.1
      have ne_b645_x1_1081 : b645 ≠ x1_1081 := Nat.ne_of_lt (Nat.lt_of_lt_of_le V669.lt fresh_x1_1081)
      exact cut274_a _ _ _ _ _ _ _ _ _ _ _ _  (X1081.mono (by decide) (by decide)) rfl hS0 hk1082 hZ hown1 N1081 Z_1085 Ol_1083 H1082 Rr1082 E_x1_1081 Fvalue_x1_1081 Fcoder_x1_1081 V_t1_1081 Tx_x1_1081
    · rw [hk]
      refine Owe.aload X669.here hx (hb hby at_267) rfl rfl ?_
      refine Owe.iload X669.here hx (hb hby at_269) rfl ?_
      refine Owe.stat X669 hx (y := (⟨"com/example/wade/wade/monitor/AccessGoverningPinLaw", "make", "([CI)Ljava/lang/String;"⟩ : MethodName)) hown1 (mvT hZ (hw _ (List.mem_of_getElem? (i := 45) rfl))) (mvT hZ (hw _ (List.mem_of_getElem? (i := 46) rfl))) (mvT hZ (hw _ (List.mem_of_getElem? (i := 47) rfl))) (mvT hZ (hw _ (List.mem_of_getElem? (i := 48) rfl))) (by decide) (backOf (W := 0) (rmmk3 l Z a0 hw [] b645 k645 (nar .char (((q5 &&& (255 : Int64)).toInt32).toUInt32.toUInt16.toUInt32.toInt32)) (nar .char (((((q5.toUInt64 >>> ((8 : Int32) &&& 0x3f).toInt64.toUInt64).toInt64) &&& (255 : Int64)).toInt32).toUInt32.toUInt16.toUInt32.toInt32)) (nar .char (((((q5.toUInt64 >>> ((16 : Int32) &&& 0x3f).toInt64.toUInt64).toInt64) &&& (255 : Int64)).toInt32).toUInt32.toUInt16.toUInt32.toInt32)) (nar .char (((((q5.toUInt64 >>> ((24 : Int32) &&& 0x3f).toInt64.toUInt64).toInt64) &&& (255 : Int64)).toInt32).toUInt32.toUInt16.toUInt32.toInt32)) (nar .char (((((q5.toUInt64 >>> ((32 : Int32) &&& 0x3f).toInt64.toUInt64).toInt64) &&& (255 : Int64)).toInt32).toUInt32.toUInt16.toUInt32.toInt32)) (nar .char (((((q5.toUInt64 >>> ((40 : Int32) &&& 0x3f).toInt64.toUInt64).toInt64) &&& (255 : Int64)).toInt32).toUInt32.toUInt16.toUInt32.toInt32)) G1 h669 n0 Z_672 V669 (own_c255L _) (own_c255L _) (own_c255L _) (own_c255L _) (own_c255L _) (own_c255L _) S_COMPACT_STRINGS cs0 Ol_671) hZ (hw _ (List.mem_of_getElem? (i := 48) rfl)) (hw _ (List.mem_of_getElem? (i := 47) rfl)) (by decide) (by decide)) (by rw [hml]; rfl) (argsL := [(.ref b645), (.int (3 : Int32))]) (rest := []) (lenOf pd_13 rfl) rfl (Nat.le_of_ble_eq_true rfl) (hb hby at_271) rfl e669 (by decide) (by decide) fun T1086 v1086 L1086 X1086 hQ1086 => ?_
      obtain ⟨x1_1086, t1_1086, kb1_1086, rfl, Nq1086, K1086, ge_x1_1086, fresh_x1_1086, E_x1_1086, Fvalue_x1_1086, Fcoder_x1_1086, V_t1_1086, Tx_x1_1086⟩ := hQ1086
      have N1086 := Fr.app N669 Nq1086
      have hk1087 := Nat.le_trans hk670 K1086.1
      have sf_b645_1087 := Safe.keep K1086 sf0 H670 sf_b645_670
      have Rr1087 := Rr670.trans (CHr.keep K1086 sf0 H670)
      have H1087 := CHv.keep K1086 sf0 H670
      have Ol_1088 := Ol_671.keep K1086 all0
      have V669_1089 := V669.keep K1086 nin0
      have Z_1090 := Nat.le_trans Z_672 K1086.1
      have ne_b645_x1_1086 : b645 ≠ x1_1086 := Nat.ne_of_lt (Nat.lt_of_lt_of_le V669.lt fresh_x1_1086)
      exact cut274_a _ _ _ _ _ _ _ _ _ _ _ _  (X1086.mono (by decide) (by decide)) rfl hS0 hk1087 hZ hown1 N1086 Z_1090 Ol_1088 H1087 Rr1087 E_x1_1086 Fvalue_x1_1086 Fcoder_x1_1086 V_t1_1086 Tx_x1_1086
    · rw [hk]
      refine Owe.aload X669.here hx (hb hby at_267) rfl rfl ?_
      refine Owe.iload X669.here hx (hb hby at_269) rfl ?_
      refine Owe.stat X669 hx (y := (⟨"com/example/wade/wade/monitor/AccessGoverningPinLaw", "make", "([CI)Ljava/lang/String;"⟩ : MethodName)) hown1 (mvT hZ (hw _ (List.mem_of_getElem? (i := 45) rfl))) (mvT hZ (hw _ (List.mem_of_getElem? (i := 46) rfl))) (mvT hZ (hw _ (List.mem_of_getElem? (i := 47) rfl))) (mvT hZ (hw _ (List.mem_of_getElem? (i := 48) rfl))) (by decide) (backOf (W := 0) (rmmk4 l Z a0 hw [] b645 k645 (nar .char (((q5 &&& (255 : Int64)).toInt32).toUInt32.toUInt16.toUInt32.toInt32)) (nar .char (((((q5.toUInt64 >>> ((8 : Int32) &&& 0x3f).toInt64.toUInt64).toInt64) &&& (255 : Int64)).toInt32).toUInt32.toUInt16.toUInt32.toInt32)) (nar .char (((((q5.toUInt64 >>> ((16 : Int32) &&& 0x3f).toInt64.toUInt64).toInt64) &&& (255 : Int64)).toInt32).toUInt32.toUInt16.toUInt32.toInt32)) (nar .char (((((q5.toUInt64 >>> ((24 : Int32) &&& 0x3f).toInt64.toUInt64).toInt64) &&& (255 : Int64)).toInt32).toUInt32.toUInt16.toUInt32.toInt32)) (nar .char (((((q5.toUInt64 >>> ((32 : Int32) &&& 0x3f).toInt64.toUInt64).toInt64) &&& (255 : Int64)).toInt32).toUInt32.toUInt16.toUInt32.toInt32)) (nar .char (((((q5.toUInt64 >>> ((40 : Int32) &&& 0x3f).toInt64.toUInt64).toInt64) &&& (255 : Int64)).toInt32).toUInt32.toUInt16.toUInt32.toInt32)) G1 h669 n0 Z_672 V669 (own_c255L _) (own_c255L _) (own_c255L _) (own_c255L _) (own_c255L _) (own_c255L _) S_COMPACT_STRINGS cs0 Ol_671) hZ (hw _ (List.mem_of_getElem? (i := 48) rfl)) (hw _ (List.mem_of_getElem? (i := 47) rfl)) (by decide) (by decide)) (by rw [hml]; rfl) (argsL := [(.ref b645), (.int (4 : Int32))]) (rest := []) (lenOf pd_13 rfl) rfl (Nat.le_of_ble_eq_true rfl) (hb hby at_271) rfl e669 (by decide) (by decide) fun T1091 v1091 L1091 X1091 hQ1091 => ?_
      obtain ⟨x1_1091, t1_1091, kb1_1091, rfl, Nq1091, K1091, ge_x1_1091, fresh_x1_1091, E_x1_1091, Fvalue_x1_1091, Fcoder_x1_1091, V_t1_1091, Tx_x1_1091⟩ := hQ1091
      have N1091 := Fr.app N669 Nq1091
      have hk1092 := Nat.le_trans hk670 K1091.1
      have sf_b645_1092 := Safe.keep K1091 sf0 H670 sf_b645_670
      have Rr1092 := Rr670.trans (CHr.keep K1091 sf0 H670)
      have H1092 := CHv.keep K1091 sf0 H670
      have Ol_1093 := Ol_671.keep K1091 all0
      have V669_1094 := V669.keep K1091 nin0
      have Z_1095 := Nat.le_trans Z_672 K1091.1
      have ne_b645_x1_1091 : b645 ≠ x1_1091 := Nat.ne_of_lt (Nat.lt_of_lt_of_le V669.lt fresh_x1_1091)
      exact cut274_a _ _ _ _ _ _ _ _ _ _ _ _  (X1091.mono (by decide) (by decide)) rfl hS0 hk1092 hZ hown1 N1091 Z_1095 Ol_1093 H1092 Rr1092 E_x1_1091 Fvalue_x1_1091 Fcoder_x1_1091 V_t1_1091 Tx_x1_1091
    · rw [hk]
      refine Owe.aload X669.here hx (hb hby at_267) rfl rfl ?_
      refine Owe.iload X669.here hx (hb hby at_269) rfl ?_
      refine Owe.stat X669 hx (y := (⟨"com/example/wade/wade/monitor/AccessGoverningPinLaw", "make", "([CI)Ljava/lang/String;"⟩ : MethodName)) hown1 (mvT hZ (hw _ (List.mem_of_getElem? (i := 45) rfl))) (mvT hZ (hw _ (List.mem_of_getElem? (i := 46) rfl))) (mvT hZ (hw _ (List.mem_of_getElem? (i := 47) rfl))) (mvT hZ (hw _ (List.mem_of_getElem? (i := 48) rfl))) (by decide) (backOf (W := 0) (rmmk5 l Z a0 hw [] b645 k645 (nar .char (((q5 &&& (255 : Int64)).toInt32).toUInt32.toUInt16.toUInt32.toInt32)) (nar .char (((((q5.toUInt64 >>> ((8 : Int32) &&& 0x3f).toInt64.toUInt64).toInt64) &&& (255 : Int64)).toInt32).toUInt32.toUInt16.toUInt32.toInt32)) (nar .char (((((q5.toUInt64 >>> ((16 : Int32) &&& 0x3f).toInt64.toUInt64).toInt64) &&& (255 : Int64)).toInt32).toUInt32.toUInt16.toUInt32.toInt32)) (nar .char (((((q5.toUInt64 >>> ((24 : Int32) &&& 0x3f).toInt64.toUInt64).toInt64) &&& (255 : Int64)).toInt32).toUInt32.toUInt16.toUInt32.toInt32)) (nar .char (((((q5.toUInt64 >>> ((32 : Int32) &&& 0x3f).toInt64.toUInt64).toInt64) &&& (255 : Int64)).toInt32).toUInt32.toUInt16.toUInt32.toInt32)) (nar .char (((((q5.toUInt64 >>> ((40 : Int32) &&& 0x3f).toInt64.toUInt64).toInt64) &&& (255 : Int64)).toInt32).toUInt32.toUInt16.toUInt32.toInt32)) G1 h669 n0 Z_672 V669 (own_c255L _) (own_c255L _) (own_c255L _) (own_c255L _) (own_c255L _) (own_c255L _) S_COMPACT_STRINGS cs0 Ol_671) hZ (hw _ (List.mem_of_getElem? (i := 48) rfl)) (hw _ (List.mem_of_getElem? (i := 47) rfl)) (by decide) (by decide)) (by rw [hml]; rfl) (argsL := [(.ref b645), (.int (5 : Int32))]) (rest := []) (lenOf pd_13 rfl) rfl (Nat.le_of_ble_eq_true rfl) (hb hby at_271) rfl e669 (by decide) (by decide) fun T1096 v1096 L1096 X1096 hQ1096 => ?_
      obtain ⟨x1_1096, t1_1096, kb1_1096, rfl, Nq1096, K1096, ge_x1_1096, fresh_x1_1096, E_x1_1096, Fvalue_x1_1096, Fcoder_x1_1096, V_t1_1096, Tx_x1_1096⟩ := hQ1096
      have N1096 := Fr.app N669 Nq1096
      have hk1097 := Nat.le_trans hk670 K1096.1
      have sf_b645_1097 := Safe.keep K1096 sf0 H670 sf_b645_670
      have Rr1097 := Rr670.trans (CHr.keep K1096 sf0 H670)
      have H1097 := CHv.keep K1096 sf0 H670
      have Ol_1098 := Ol_671.keep K1096 all0
      have V669_1099 := V669.keep K1096 nin0
      have Z_1100 := Nat.le_trans Z_672 K1096.1
      have ne_b645_x1_1096 : b645 ≠ x1_1096 := Nat.ne_of_lt (Nat.lt_of_lt_of_le V669.lt fresh_x1_1096)
      exact cut274_a _ _ _ _ _ _ _ _ _ _ _ _  (X1096.mono (by decide) (by decide)) rfl hS0 hk1097 hZ hown1 N1096 Z_1100 Ol_1098 H1097 Rr1097 E_x1_1096 Fvalue_x1_1096 Fcoder_x1_1096 V_t1_1096 Tx_x1_1096
    · rw [hk]
      refine Owe.aload X669.here hx (hb hby at_267) rfl rfl ?_
      refine Owe.iload X669.here hx (hb hby at_269) rfl ?_
      refine Owe.stat X669 hx (y := (⟨"com/example/wade/wade/monitor/AccessGoverningPinLaw", "make", "([CI)Ljava/lang/String;"⟩ : MethodName)) hown1 (mvT hZ (hw _ (List.mem_of_getElem? (i := 45) rfl))) (mvT hZ (hw _ (List.mem_of_getElem? (i := 46) rfl))) (mvT hZ (hw _ (List.mem_of_getElem? (i := 47) rfl))) (mvT hZ (hw _ (List.mem_of_getElem? (i := 48) rfl))) (by decide) (backOf (W := 0) (rmmk6 l Z a0 hw [] b645 k645 (nar .char (((q5 &&& (255 : Int64)).toInt32).toUInt32.toUInt16.toUInt32.toInt32)) (nar .char (((((q5.toUInt64 >>> ((8 : Int32) &&& 0x3f).toInt64.toUInt64).toInt64) &&& (255 : Int64)).toInt32).toUInt32.toUInt16.toUInt32.toInt32)) (nar .char (((((q5.toUInt64 >>> ((16 : Int32) &&& 0x3f).toInt64.toUInt64).toInt64) &&& (255 : Int64)).toInt32).toUInt32.toUInt16.toUInt32.toInt32)) (nar .char (((((q5.toUInt64 >>> ((24 : Int32) &&& 0x3f).toInt64.toUInt64).toInt64) &&& (255 : Int64)).toInt32).toUInt32.toUInt16.toUInt32.toInt32)) (nar .char (((((q5.toUInt64 >>> ((32 : Int32) &&& 0x3f).toInt64.toUInt64).toInt64) &&& (255 : Int64)).toInt32).toUInt32.toUInt16.toUInt32.toInt32)) (nar .char (((((q5.toUInt64 >>> ((40 : Int32) &&& 0x3f).toInt64.toUInt64).toInt64) &&& (255 : Int64)).toInt32).toUInt32.toUInt16.toUInt32.toInt32)) G1 h669 n0 Z_672 V669 (own_c255L _) (own_c255L _) (own_c255L _) (own_c255L _) (own_c255L _) (own_c255L _) S_COMPACT_STRINGS cs0 Ol_671) hZ (hw _ (List.mem_of_getElem? (i := 48) rfl)) (hw _ (List.mem_of_getElem? (i := 47) rfl)) (by decide) (by decide)) (by rw [hml]; rfl) (argsL := [(.ref b645), (.int (6 : Int32))]) (rest := []) (lenOf pd_13 rfl) rfl (Nat.le_of_ble_eq_true rfl) (hb hby at_271) rfl e669 (by decide) (by decide) fun T1101 v1101 L1101 X1101 hQ1101 => ?_
      obtain ⟨x1_1101, t1_1101, kb1_1101, rfl, Nq1101, K1101, ge_x1_1101, fresh_x1_1101, E_x1_1101, Fvalue_x1_1101, Fcoder_x1_1101, V_t1_1101, Tx_x1_1101⟩ := hQ1101
      have N1101 := Fr.app N669 Nq1101
      have hk1102 := Nat.le_trans hk670 K1101.1
      have sf_b645_1102 := Safe.keep K1101 sf0 H670 sf_b645_670
      have Rr1102 := Rr670.trans (CHr.keep K1101 sf0 H670)
      have H1102 := CHv.keep K1101 sf0 H670
      have Ol_1103 := Ol_671.keep K1101 all0
      have V669_1104 := V669.keep K1101 nin0
      have Z_1105 := Nat.le_trans Z_672 K1101.1
      have ne_b645_x1_1101 : b645 ≠ x1_1101 := Nat.ne_of_lt (Nat.lt_of_lt_of_le V669.lt fresh_x1_1101)
      exact cut274_a _ _ _ _ _ _ _ _ _ _ _ _  (X1101.mono (by decide) (by decide)) rfl hS0 hk1102 hZ hown1 N1101 Z_1105 Ol_1103 H1102 Rr1102 E_x1_1101 Fvalue_x1_1101 Fcoder_x1_1101 V_t1_1101 Tx_x1_1101
set_option maxRecDepth 65536 in
set_option maxHeartbeats 40000000 in
theorem comes_1 {Post : Tables → Env → Array Value → State → Outcome → State → Prop} (hpost : ∀ tb e args s v u, (limb_1_1.after args s (.returned v) u = true ∧ limb_1_2.after args s (.returned v) u = true ∧ True) → ReturnedEndW s (.returned v) u (Jvm.fieldLocs frame_1_writes args s ++ Jvm.arrayLocs frame_1_arrays args s ++ Jvm.staticLocs frame_1_statics s) 32 3200 → Post tb e args s (.returned v) u) :
    ArmFor flags0 classFile x code maxLocals ret World_1 tables_1 room_1 Calls_1 rest_1 Pre_1 Post := by
  intro l hfl _ _ p e ha hc hk s m args below hf hA hF happ hP
  obtain ⟨hcalls, hrest, hpre⟩ := hP
  obtain ⟨-, -, -, hnamed, -, -, -, hat⟩ := (Spec.applies_iff hf).mp happ
  obtain ⟨hg, hn⟩ := and_e (Cond.before_iff.mp (show (Jvm.Cond.and given_1 narrow_1).before args s = true from hpre))
  obtain ⟨g0, q0⟩ := and_e hg
  obtain ⟨g1, q1⟩ := and_e q0
  obtain ⟨g2, q2⟩ := and_e q1
  obtain ⟨g3, q3⟩ := and_e q2
  obtain ⟨g4, q4⟩ := and_e q3
  obtain ⟨w0, w1, w2, w3, w4, rfl⟩ : ∃ w0 w1 w2 w3 w4 : Value, args = #[w0, w1, w2, w3, w4] := by
    have hs : args.size = 5 := by simpa [Cond.value, given_1] using g0
    obtain ⟨L⟩ := args
    match L, hs with
    | [w0, w1, w2, w3, w4], _ => exact ⟨w0, w1, w2, w3, w4, rfl⟩
  have hw := fun d (hd : d ∈ tables_1) => atoms_spec (ws := Jvm.Cond.code x code maxLocals ret :: tables_1) hat d (List.mem_cons_of_mem _ hd)
  have hfit : Fit s := fun {y c} hc i hi => by
    obtain ⟨ha, rfl⟩ := Array.getElem?_eq_some_iff.mp hc
    have q := List.all_eq_true.mp ((Array.all_eq_true_iff_forall_mem.mp hF) _ (Array.getElem_mem ha)) i (List.mem_range.mpr hi)
    simpa [Array.getElem?_eq_getElem hi] using q
  obtain ⟨hsets, hown0⟩ := atoms_of _ (rest_1_c_eq ▸ (show rest_1_c.before _ s = true from hrest))
  have hr0 := Cond.before_iff.mp hown0
  obtain ⟨i0, ei0⟩ := is_v g1
  obtain rfl : w0 = (.int i0) := Option.some.inj ei0
  obtain ⟨i1, ei1⟩ := is_v g2
  obtain rfl : w1 = (.int i1) := Option.some.inj ei1
  obtain ⟨i2, ei2⟩ := is_v g3
  obtain rfl : w2 = (.int i2) := Option.some.inj ei2
  obtain ⟨i3, ei3⟩ := is_v g4
  obtain rfl : w3 = (.int i3) := Option.some.inj ei3
  obtain ⟨i4, ei4⟩ := isL_v q4
  obtain rfl : w4 = (.long i4) := Option.some.inj ei4
  have n5 := not_v (Cond.before_iff.mp (hsets _ (List.mem_of_getElem? (i := 2) rfl)))
  obtain ⟨ics, ecs⟩ := is_v (Cond.before_iff.mp (hsets _ (List.mem_of_getElem? (i := 1) rfl)))
  have Scs : Sta s s.heap "java/lang/String" "COMPACT_STRINGS" "Z" (.int ics) := Sta.start ecs (Or.inl (hsets _ (List.mem_of_getElem? (i := 0) rfl)))
  have hcs0 : ¬ (ics = (0 : Int32)) := gotF (Cond.eq_ints ecs (Term.int_eval (0))) n5
  obtain ⟨vfm, efm, rfm⟩ := isR_v (Cond.before_iff.mp (hsets _ (List.mem_of_getElem? (i := 8) rfl)))
  have Sfm : Sta s s.heap "jdk/internal/util/Preconditions" "SIOOBE_FORMATTER" "Ljava/util/function/BiFunction;" vfm := Sta.start efm (Or.inl (hsets _ (List.mem_of_getElem? (i := 7) rfl)))
  obtain ⟨nr0, nx0⟩ := and_e hn
  obtain ⟨nr1, nx1⟩ := and_e nx0
  obtain ⟨nr2, nx2⟩ := and_e nx1
  obtain ⟨nr3, nx3⟩ := and_e nx2
  obtain ⟨nr4, nx4⟩ := and_e nx3
  obtain ⟨nr5, nx5⟩ := and_e nx4
  obtain ⟨nr6, nx6⟩ := and_e nx5
  obtain ⟨nr7, nx7⟩ := and_e nx6
  obtain ⟨nr8, nx8⟩ := and_e nx7
  obtain ⟨nr9, nx9⟩ := and_e nx8
  obtain ⟨nr10, nx10⟩ := and_e nx9
  obtain ⟨nr11, nx11⟩ := and_e nx10
  obtain ⟨nr12, nx12⟩ := and_e nx11
  obtain ⟨nr13, nx13⟩ := and_e nx12
  obtain ⟨nr14, nx14⟩ := and_e nx13
  obtain ⟨nr15, nx15⟩ := and_e nx14
  obtain ⟨nr16, nx16⟩ := and_e nx15
  obtain ⟨nr17, nx17⟩ := and_e nx16
  obtain ⟨nr18, nx18⟩ := and_e nx17
  obtain ⟨nr19, nx19⟩ := and_e nx18
  obtain ⟨nr20, nx20⟩ := and_e nx19
  obtain ⟨nr21, nx21⟩ := and_e nx20
  obtain ⟨nr22, nx22⟩ := and_e nx21
  have nr23 := nx22
  obtain ⟨va, ev_va⟩ := arr_v nr0
  have S_va : Sta s s.heap "com/example/wade/wade/monitor/Access" "$VALUES" "[Lcom/example/wade/wade/monitor/Access;" (.ref va) := Sta.start ev_va (Or.inr ⟨(hw _ (List.mem_of_getElem? (i := 72) rfl)), (hw _ (List.mem_of_getElem? (i := 78) rfl))⟩)
  obtain ⟨cl_va, A_va⟩ := Arr.start ev_va nr0
  have at_va := A_va.fin (Vm.Alike.refl _)
  have E_va := Exa.start ev_va nr1
  obtain ⟨rd, ev_rd⟩ := exa_v nr3
  have S_rd : Sta s s.heap "com/example/wade/wade/monitor/Access" "READ" "Lcom/example/wade/wade/monitor/Access;" (.ref rd) := Sta.start ev_rd (Or.inr ⟨(hw _ (List.mem_of_getElem? (i := 72) rfl)), (hw _ (List.mem_of_getElem? (i := 86) rfl))⟩)
  have E_rd := Exa.start ev_rd nr3
  obtain ⟨wt, ev_wt⟩ := exa_v nr5
  have S_wt : Sta s s.heap "com/example/wade/wade/monitor/Access" "WRITE" "Lcom/example/wade/wade/monitor/Access;" (.ref wt) := Sta.start ev_wt (Or.inr ⟨(hw _ (List.mem_of_getElem? (i := 72) rfl)), (hw _ (List.mem_of_getElem? (i := 87) rfl))⟩)
  have E_wt := Exa.start ev_wt nr5
  obtain ⟨rdw, ev_rdw⟩ := exa_v nr7
  have Fword_rd := Fld.start ((fld_at ev_rd).symm.trans ev_rdw)
  have E_rdw := Exa.start ev_rdw nr7
  have Fcoder_rdw := own_fld_int ev_rdw nr8
  obtain ⟨rdwv, ev_rdwv⟩ := arr_v nr9
  have Fvalue_rdw := Fld.start ((fld_at ev_rdw).symm.trans ev_rdwv)
  obtain ⟨cl_rdwv, A_rdwv⟩ := Arr.start ev_rdwv nr9
  have at_rdwv := A_rdwv.fin (Vm.Alike.refl _)
  obtain ⟨wtw, ev_wtw⟩ := exa_v nr15
  have Fword_wt := Fld.start ((fld_at ev_wt).symm.trans ev_wtw)
  have E_wtw := Exa.start ev_wtw nr15
  have Fcoder_wtw := own_fld_int ev_wtw nr16
  obtain ⟨wtwv, ev_wtwv⟩ := arr_v nr17
  have Fvalue_wtw := Fld.start ((fld_at ev_wtw).symm.trans ev_wtwv)
  obtain ⟨cl_wtwv, A_wtwv⟩ := Arr.start ev_wtwv nr17
  have at_wtwv := A_wtwv.fin (Vm.Alike.refl _)
  have sz_va := own_len ev_va at_va (own_eq_int nr2) (by decide)
  have V0_va : Arv s s.heap va cl_va.cls (.object "com/example/wade/wade/monitor/Access") (2 : Int32) [(.ref rd), (.ref wt)] .null := Arv.start hfit A_va (by rw [sz_va]; decide) (by rw [sz_va]; rfl) (by decide) rfl ⟨own_el ev_va at_va (own_eq_ref ev_rd nr4) (by decide), own_el ev_va at_va (own_eq_ref ev_wt nr6) (by decide), trivial⟩
  have sz_rdwv := own_len ev_rdwv at_rdwv (own_eq_int nr10) (by decide)
  have V0_rdwv : Arv s s.heap rdwv cl_rdwv.cls .byte (4 : Int32) [(.int (114 : Int32)), (.int (101 : Int32)), (.int (97 : Int32)), (.int (100 : Int32))] (.int (0 : Int32)) := Arv.start hfit A_rdwv (by rw [sz_rdwv]; decide) (by rw [sz_rdwv]; rfl) (by decide) rfl ⟨own_el ev_rdwv at_rdwv (own_eq_int nr11) (by decide), own_el ev_rdwv at_rdwv (own_eq_int nr12) (by decide), own_el ev_rdwv at_rdwv (own_eq_int nr13) (by decide), own_el ev_rdwv at_rdwv (own_eq_int nr14) (by decide), trivial⟩
  have V_rdwv : Arv s s.heap rdwv cl_rdwv.cls .byte (4 : Int32) ((([114, 101, 97, 100] : List Int32).map (fun c => c.toInt8.toInt32)).map Value.int) (.int (0 : Int32)) := by rw [own_vs_rdwv]; exact V0_rdwv
  have sz_wtwv := own_len ev_wtwv at_wtwv (own_eq_int nr18) (by decide)
  have V0_wtwv : Arv s s.heap wtwv cl_wtwv.cls .byte (5 : Int32) [(.int (119 : Int32)), (.int (114 : Int32)), (.int (105 : Int32)), (.int (116 : Int32)), (.int (101 : Int32))] (.int (0 : Int32)) := Arv.start hfit A_wtwv (by rw [sz_wtwv]; decide) (by rw [sz_wtwv]; rfl) (by decide) rfl ⟨own_el ev_wtwv at_wtwv (own_eq_int nr19) (by decide), own_el ev_wtwv at_wtwv (own_eq_int nr20) (by decide), own_el ev_wtwv at_wtwv (own_eq_int nr21) (by decide), own_el ev_wtwv at_wtwv (own_eq_int nr22) (by decide), own_el ev_wtwv at_wtwv (own_eq_int nr23) (by decide), trivial⟩
  have V_wtwv : Arv s s.heap wtwv cl_wtwv.cls .byte (5 : Int32) ((([119, 114, 105, 116, 101] : List Int32).map (fun c => c.toInt8.toInt32)).map Value.int) (.int (0 : Int32)) := by rw [own_vs_wtwv]; exact V0_wtwv
  obtain ⟨em, eem⟩ := exa_v (Cond.before_iff.mp (hsets _ (List.mem_of_getElem? (i := 11) rfl)))
  have Sem : Sta s s.heap "java/util/Optional" "EMPTY" "Ljava/util/Optional;" (.ref em) := Sta.start eem (Or.inl (hsets _ (List.mem_of_getElem? (i := 10) rfl)))
  have Eem := Exa.start eem (Cond.before_iff.mp (hsets _ (List.mem_of_getElem? (i := 11) rfl)))
  have Fem := Fld.start ((fld_at eem).symm.trans (null_v (Cond.before_iff.mp (hsets _ (List.mem_of_getElem? (i := 12) rfl)))))
  have H0 : CHv s own_EL s.vm s.heap := CHv.start (own_ew hw) (fun p hp => hcalls.1 p hp) (hsets _ (List.mem_of_getElem? (i := 2) rfl)) (hw _ (List.mem_of_getElem? (i := 5) rfl)) (hw _ (List.mem_of_getElem? (i := 4) rfl))
  obtain ⟨n, o, h1, h2, h3, _, L, rfl, ⟨rfl, N⟩, _, hq⟩ := rm0 l s _ hw tables_1 i0 i1 i2 i3 i4 vfm ics va rd wt rdw rdwv wtw wtwv cl_va.cls cl_rdwv.cls cl_wtwv.cls em s.heap s.heap.size (Nat.le_refl _) Scs hcs0 (Old.start s) Sfm rfm S_va E_va S_rd E_rd S_wt E_wt Fword_rd E_rdw Fcoder_rdw Fvalue_rdw Fword_wt E_wtw Fcoder_wtw Fvalue_wtw V0_va V_rdwv V_wtwv ⟨by decide, Nat.le_of_ble_eq_true rfl⟩ ⟨by decide, Nat.le_of_ble_eq_true rfl⟩ Sem Eem Fem p e ha hc hk s m _ below hf ((Spec.applies_iff_loose hf).mp happ).1 ⟨rfl, State.Warmed39.refl s, rfl, H0⟩ trivial
  refine ⟨n, _, h1, h2, h3, hpost _ _ _ _ _ _ ⟨Cond.after_iff.mpr rfl, Cond.after_iff.mpr (eq_i res_at (Term.int_eval (1)) rfl), trivial⟩ ⟨hq.1, hq.2.1, hq.2.2.1, (hq.2.2.2.sift fun y hy => Or.inr (N y hy)).mono (by decide) (by decide)⟩⟩
theorem main_1_1 : Claimed_1_1 := comes_1 fun _ _ _ _ _ _ h hF => ⟨h.1, hF⟩
theorem main_1_2 : Claimed_1_2 := comes_1 fun _ _ _ _ _ _ h hF => ⟨h.2.1, hF⟩
end Jvm.Pilot.@@N@@
namespace Jvm.Pilot.@@N@@
open Jvm Jvm.ClassFile Sem Op Lib Jvm.Free Jvm.Stand Jvm.Pilot.@@N@@.Jvm.D
/-! MADE BY PROGRAM (witnessworld.py) out of the Statement's table words and the real class files: 24 classes; the members and pool entries that the words name. The judged class is class 1, her method 2. -/
namespace start1
open Jvm.ClassFile
def u (s : String) : CpInfo := .utf8 (stringToUtf16 s)
/-- a pool by its gaps: so many unusable entries, then the entry; so many at the end -/
def gap : Nat → List CpInfo → List CpInfo
  | 0, r => r
  | n + 1, r => .unusable :: gap n r
def poolList (es : List (Nat × CpInfo)) (last : Nat) : List CpInfo := es.foldr (fun e r => gap e.1 (e.2 :: r)) (gap last [])
def pool (es : List (Nat × CpInfo)) (last : Nat) : Array CpInfo := ⟨poolList es last⟩
def fileOf (pool : Array CpInfo) (this : Nat) (attrs : Array Attribute := #[]) (ms : Array MethodInfo := #[]) (fl : Nat := 33) (sup : Nat := 0) (ifs : Array Nat := #[]) (fds : Array FieldInfo := #[]) : ClassFile where
  minorVersion := 0
  majorVersion := 65
  constantPool := pool
  accessFlags := fl
  thisClass := this
  superClass := sup
  interfaces := ifs
  fields := fds
  methods := ms
  attributes := attrs
def plain (name : String) (sup : Option ClassId) : Class where
  name := name
  kind := .ordinary
  loader := none
  accessFlags := 33
  super := sup
  interfaces := #[]
  cf := none
  fields := #[]
  methods := #[]
  instanceTypes := #[]
  staticTypes := #[]
  resolved := #[]
  callSites := []
  init := .initialized
  statics := none
  mirror := none

def pool0 : Array CpInfo := pool [(5, u "<init>"), (0, u "()V"), (1, .class_ 10), (1, u "java/lang/Object"), (85, u "clone"), (0, u "()Ljava/lang/Object;")] 26

def k0c0 : Code := { maxStack := 0, maxLocals := 1, code := object_method_1_code, exceptionTable := #[], attributes := #[] }
def k0m0 : Method := { name := "<init>", desc := "()V", sig := { parameters := [], returnType := none }, accessFlags := 1, code := some k0c0 }
def k0m1 : Method := { name := "clone", desc := "()Ljava/lang/Object;", sig := { parameters := [], returnType := some (.object "java/lang/Object") }, accessFlags := 260, code := none }
/-- java/lang/Object -/
def k0 : Class := { plain "java/lang/Object" none with
  accessFlags := 33
  interfaces := #[]
  cf := some (fileOf pool0 8 #[] #[{ accessFlags := 1, nameIndex := 5, descriptorIndex := 6, attributes := #[] }, { accessFlags := 260, nameIndex := 96, descriptorIndex := 97, attributes := #[] }] 33 0 #[] #[])
  fields := #[]
  methods := #[k0m0, k0m1]
  instanceTypes := #[]
  staticTypes := #[]
  resolved := Array.replicate 124 none
  statics := none }

def pool1 : Array CpInfo := pool [(2, .class_ 4), (1, u "java/lang/Object"), (0, u "<init>"), (0, u "()V"), (0, .class_ 8), (0, u "java/lang/String"), (0, .methodref 7 10), (0, .nameAndType 5 11), (0, u "([C)V"), (0, .long 255), (1, .string 15), (0, u "read"), (0, .string 17), (0, u "write"), (0, .methodref 7 19), (0, .nameAndType 20 21), (0, u "length"), (0, u "()I"), (0, .methodref 7 23), (0, .nameAndType 24 25), (0, u "charAt"), (0, u "(I)C"), (0, .integer 2147483647), (0, .methodref 28 29), (0, .class_ 30), (0, .nameAndType 31 32), (0, u "com/example/wade/wade/monitor/AccessGoverningPinLaw"), (0, u "make"), (0, u "([CI)Ljava/lang/String;"), (0, .methodref 34 35), (0, .class_ 36), (0, .nameAndType 37 38), (0, u "com/example/wade/wade/monitor/Access"), (0, u "governing"), (0, u "(Ljava/lang/String;)Ljava/util/Optional;"), (0, .methodref 7 40), (0, .nameAndType 41 42), (0, u "equals"), (0, u "(Ljava/lang/Object;)Z"), (0, .methodref 44 45), (0, .class_ 46), (0, .nameAndType 47 48), (0, u "java/util/Optional"), (0, u "isPresent"), (0, u "()Z"), (0, .methodref 44 50), (0, .nameAndType 51 52), (0, u "get"), (0, u "()Ljava/lang/Object;"), (0, .fieldref 34 54), (0, .nameAndType 55 56), (0, u "READ"), (0, u "Lcom/example/wade/wade/monitor/Access;"), (0, .fieldref 34 58), (0, .nameAndType 59 56), (0, u "WRITE"), (3, u "law"), (0, u "(IIIIJ)Z")] 4

def k1m0 : Method := { name := "<init>", desc := "()V", sig := { parameters := [], returnType := none }, accessFlags := 1, code := none }
def k1c1 : Code := { maxStack := 7, maxLocals := 2, code := method_2_code, exceptionTable := #[], attributes := #[] }
def k1m1 : Method := { name := "make", desc := "([CI)Ljava/lang/String;", sig := { parameters := [(.array .char), .int], returnType := some (.object "java/lang/String") }, accessFlags := 10, code := some k1c1 }
def k1c2 : Code := { maxStack := 6, maxLocals := 13, code := code, exceptionTable := #[], attributes := #[] }
def k1m2 : Method := { name := "law", desc := "(IIIIJ)Z", sig := { parameters := [.int, .int, .int, .int, .long], returnType := some .boolean }, accessFlags := 9, code := some k1c2 }
/-- com/example/wade/wade/monitor/AccessGoverningPinLaw -/
def k1 : Class := { plain "com/example/wade/wade/monitor/AccessGoverningPinLaw" (some 0) with
  accessFlags := 49
  interfaces := #[]
  cf := some (fileOf pool1 28 #[] #[{ accessFlags := 1, nameIndex := 5, descriptorIndex := 6, attributes := #[] }, { accessFlags := 10, nameIndex := 31, descriptorIndex := 32, attributes := #[] }, { accessFlags := 9, nameIndex := 63, descriptorIndex := 64, attributes := #[] }] 49 2 #[] #[])
  fields := #[]
  methods := #[k1m0, k1m1, k1m2]
  instanceTypes := #[]
  staticTypes := #[]
  resolved := Array.replicate 69 none
  statics := none }

def pool2 : Array CpInfo := pool [(1, .class_ 2), (0, u "java/io/Serializable"), (0, .class_ 4), (0, u "java/lang/Object")] 2

/-- java/io/Serializable -/
def k2 : Class := { plain "java/io/Serializable" (some 0) with
  accessFlags := 1537
  interfaces := #[]
  cf := some (fileOf pool2 1 #[] #[] 1537 3 #[] #[])
  fields := #[]
  methods := #[]
  instanceTypes := #[]
  staticTypes := #[]
  resolved := Array.replicate 7 none
  statics := none }

def pool3 : Array CpInfo := pool [(1, .class_ 2), (0, u "java/lang/Comparable"), (0, .class_ 4), (0, u "java/lang/Object")] 7

/-- java/lang/Comparable -/
def k3 : Class := { plain "java/lang/Comparable" (some 0) with
  accessFlags := 1537
  interfaces := #[]
  cf := some (fileOf pool3 1 #[] #[] 1537 3 #[] #[])
  fields := #[]
  methods := #[]
  instanceTypes := #[]
  staticTypes := #[]
  resolved := Array.replicate 12 none
  statics := none }

def pool4 : Array CpInfo := pool [(2, .class_ 4), (1, u "java/lang/CharSequence"), (42, .class_ 48), (0, u "java/lang/CharSequence$1CodePointIterator"), (10, .class_ 60), (0, u "java/lang/CharSequence$1CharIterator"), (5, .class_ 67), (0, u "java/lang/Object")] 63

/-- java/lang/CharSequence -/
def k4 : Class := { plain "java/lang/CharSequence" (some 0) with
  accessFlags := 1537
  interfaces := #[]
  cf := some (fileOf pool4 2 #[.nestMembers #[47, 59]] #[] 1537 66 #[] #[])
  fields := #[]
  methods := #[]
  instanceTypes := #[]
  staticTypes := #[]
  resolved := Array.replicate 131 none
  statics := none }

def pool5 : Array CpInfo := pool [(1, .class_ 2), (0, u "java/lang/constant/Constable"), (0, .class_ 4), (0, u "java/lang/Object")] 6

/-- java/lang/constant/Constable -/
def k5 : Class := { plain "java/lang/constant/Constable" (some 0) with
  accessFlags := 1537
  interfaces := #[]
  cf := some (fileOf pool5 1 #[] #[] 1537 3 #[] #[])
  fields := #[]
  methods := #[]
  instanceTypes := #[]
  staticTypes := #[]
  resolved := Array.replicate 11 none
  statics := none }

def pool6 : Array CpInfo := pool [(1, .class_ 2), (0, u "java/lang/constant/ConstantDesc"), (0, .class_ 4), (0, u "java/lang/Object")] 32

/-- java/lang/constant/ConstantDesc -/
def k6 : Class := { plain "java/lang/constant/ConstantDesc" (some 0) with
  accessFlags := 1537
  interfaces := #[]
  cf := some (fileOf pool6 1 #[] #[] 1537 3 #[] #[])
  fields := #[]
  methods := #[]
  instanceTypes := #[]
  staticTypes := #[]
  resolved := Array.replicate 37 none
  statics := none }

def pool7 : Array CpInfo := pool [(1, .methodref 2 3), (0, .class_ 4), (0, .nameAndType 5 6), (0, u "java/lang/Object"), (0, u "<init>"), (0, u "()V"), (0, .string 8), (0, u ""), (0, .fieldref 10 11), (0, .class_ 12), (0, .nameAndType 13 14), (0, u "java/lang/String"), (0, u "value"), (0, u "[B"), (0, .fieldref 10 16), (0, .nameAndType 17 18), (0, u "coder"), (0, u "B"), (2, u "hash"), (0, u "I"), (2, u "hashIsZero"), (0, u "Z"), (0, .methodref 10 28), (0, .nameAndType 5 29), (0, u "([CIILjava/lang/Void;)V"), (8, .fieldref 10 39), (0, .nameAndType 40 26), (0, u "COMPACT_STRINGS"), (1, .class_ 44), (1, u "java/lang/StringUTF16"), (0, u "compress"), (1, .methodref 42 48), (0, .nameAndType 49 50), (0, u "coderFromArrayLen"), (0, u "([BI)B"), (56, .class_ 109), (1, u "java/lang/StringLatin1"), (32, u "()Z"), (34, .methodref 42 178), (0, .nameAndType 45 179), (0, u "([CII)[B"), (154, u "()I"), (0, .methodref 10 336), (0, .nameAndType 17 337), (0, u "()B"), (25, u "([BI)C"), (27, u "(II)V"), (35, u "(I)C"), (64, .methodref 10 493), (0, .nameAndType 494 142), (0, u "isLatin1"), (0, .methodref 107 496), (0, .nameAndType 497 363), (0, u "charAt"), (3, u "checkIndex"), (5, u "length"), (33, .methodref 107 542), (0, .nameAndType 543 544), (0, u "equals"), (0, u "([B[B)Z"), (28, u "(Ljava/lang/Object;)Z"), (1, .class_ 576), (0, u "java/lang/CharSequence"), (22, u "CASE_INSENSITIVE_ORDER"), (0, u "Ljava/util/Comparator;"), (409, u "([C)V"), (42, .fieldref 1054 1055), (0, .class_ 1056), (0, .nameAndType 1057 1058), (0, u "jdk/internal/util/Preconditions"), (0, u "SIOOBE_FORMATTER"), (0, u "Ljava/util/function/BiFunction;"), (0, .methodref 1054 1060), (0, .nameAndType 501 1061), (0, u "(IILjava/util/function/BiFunction;)I"), (39, u "serialPersistentFields"), (0, u "[Ljava/io/ObjectStreamField;"), (0, .class_ 1104), (0, u "java/lang/String$CaseInsensitiveComparator"), (1, .class_ 1107), (0, u "java/io/Serializable"), (0, .class_ 1109), (0, u "java/lang/Comparable"), (0, .class_ 1111), (0, u "java/lang/constant/Constable"), (0, .class_ 1113), (0, u "java/lang/constant/ConstantDesc"), (2, u "serialVersionUID"), (0, u "J"), (3, u "REPL"), (0, u "C"), (2, u "LATIN1"), (1, u "UTF16")] 323

def k7m0 : Method := { name := "<init>", desc := "()V", sig := { parameters := [], returnType := none }, accessFlags := 1, code := none }
def k7c1 : Code := { maxStack := 5, maxLocals := 2, code := jdk_42_method_3_code, exceptionTable := #[], attributes := #[] }
def k7m1 : Method := { name := "<init>", desc := "([C)V", sig := { parameters := [(.array .char)], returnType := none }, accessFlags := 1, code := some k7c1 }
def k7c2 : Code := { maxStack := 2, maxLocals := 1, code := jdk_42_method_54_code, exceptionTable := #[], attributes := #[] }
def k7m2 : Method := { name := "length", desc := "()I", sig := { parameters := [], returnType := some .int }, accessFlags := 1, code := some k7c2 }
def k7c3 : Code := { maxStack := 2, maxLocals := 2, code := jdk_42_method_56_code, exceptionTable := #[], attributes := #[] }
def k7m3 : Method := { name := "charAt", desc := "(I)C", sig := { parameters := [.int], returnType := some .char }, accessFlags := 1, code := some k7c3 }
def k7c4 : Code := { maxStack := 2, maxLocals := 3, code := jdk_42_method_66_code, exceptionTable := #[], attributes := #[] }
def k7m4 : Method := { name := "equals", desc := "(Ljava/lang/Object;)Z", sig := { parameters := [(.object "java/lang/Object")], returnType := some .boolean }, accessFlags := 1, code := some k7c4 }
def k7c5 : Code := { maxStack := 4, maxLocals := 6, code := jdk_42_method_149_code, exceptionTable := #[], attributes := #[] }
def k7m5 : Method := { name := "<init>", desc := "([CIILjava/lang/Void;)V", sig := { parameters := [(.array .char), .int, .int, (.object "java/lang/Void")], returnType := none }, accessFlags := 2, code := some k7c5 }
def k7c6 : Code := { maxStack := 1, maxLocals := 1, code := jdk_42_method_152_code, exceptionTable := #[], attributes := #[] }
def k7m6 : Method := { name := "coder", desc := "()B", sig := { parameters := [], returnType := some .byte }, accessFlags := 0, code := some k7c6 }
def k7c7 : Code := { maxStack := 1, maxLocals := 1, code := jdk_42_method_154_code, exceptionTable := #[], attributes := #[] }
def k7m7 : Method := { name := "isLatin1", desc := "()Z", sig := { parameters := [], returnType := some .boolean }, accessFlags := 0, code := some k7c7 }
def k7c8 : Code := { maxStack := 3, maxLocals := 2, code := jdk_42_method_155_code, exceptionTable := #[], attributes := #[] }
def k7m8 : Method := { name := "checkIndex", desc := "(II)V", sig := { parameters := [.int, .int], returnType := none }, accessFlags := 8, code := some k7c8 }
/-- java/lang/String -/
def k7 : Class := { plain "java/lang/String" (some 0) with
  accessFlags := 49
  interfaces := #[2, 3, 4, 5, 6]
  cf := some (fileOf pool7 10 #[.nestMembers #[1103]] #[{ accessFlags := 1, nameIndex := 5, descriptorIndex := 6, attributes := #[] }, { accessFlags := 1, nameIndex := 5, descriptorIndex := 1010, attributes := #[] }, { accessFlags := 1, nameIndex := 507, descriptorIndex := 334, attributes := #[] }, { accessFlags := 1, nameIndex := 497, descriptorIndex := 427, attributes := #[] }, { accessFlags := 1, nameIndex := 543, descriptorIndex := 573, attributes := #[] }, { accessFlags := 2, nameIndex := 5, descriptorIndex := 29, attributes := #[] }, { accessFlags := 0, nameIndex := 17, descriptorIndex := 337, attributes := #[] }, { accessFlags := 0, nameIndex := 494, descriptorIndex := 142, attributes := #[] }, { accessFlags := 8, nameIndex := 501, descriptorIndex := 391, attributes := #[] }] 49 2 #[1106, 1108, 575, 1110, 1112] #[{ accessFlags := 18, nameIndex := 13, descriptorIndex := 14, attributes := #[] }, { accessFlags := 18, nameIndex := 17, descriptorIndex := 18, attributes := #[] }, { accessFlags := 2, nameIndex := 21, descriptorIndex := 22, attributes := #[] }, { accessFlags := 2, nameIndex := 25, descriptorIndex := 26, attributes := #[] }, { accessFlags := 26, nameIndex := 1116, descriptorIndex := 1117, attributes := #[] }, { accessFlags := 24, nameIndex := 40, descriptorIndex := 26, attributes := #[] }, { accessFlags := 26, nameIndex := 1101, descriptorIndex := 1102, attributes := #[] }, { accessFlags := 26, nameIndex := 1121, descriptorIndex := 1122, attributes := #[] }, { accessFlags := 25, nameIndex := 599, descriptorIndex := 600, attributes := #[] }, { accessFlags := 24, nameIndex := 1125, descriptorIndex := 18, attributes := #[] }, { accessFlags := 24, nameIndex := 1127, descriptorIndex := 18, attributes := #[] }])
  fields := #[{ name := "value", type := (.array .byte), accessFlags := 18, slot := 0, constantValue := 0 }, { name := "coder", type := .byte, accessFlags := 18, slot := 1, constantValue := 0 }, { name := "hash", type := .int, accessFlags := 2, slot := 2, constantValue := 0 }, { name := "hashIsZero", type := .boolean, accessFlags := 2, slot := 3, constantValue := 0 }, { name := "serialVersionUID", type := .long, accessFlags := 26, slot := 0, constantValue := 0 }, { name := "COMPACT_STRINGS", type := .boolean, accessFlags := 24, slot := 1, constantValue := 0 }, { name := "serialPersistentFields", type := (.array (.object "java/io/ObjectStreamField")), accessFlags := 26, slot := 2, constantValue := 0 }, { name := "REPL", type := .char, accessFlags := 26, slot := 3, constantValue := 0 }, { name := "CASE_INSENSITIVE_ORDER", type := (.object "java/util/Comparator"), accessFlags := 25, slot := 4, constantValue := 0 }, { name := "LATIN1", type := .byte, accessFlags := 24, slot := 5, constantValue := 0 }, { name := "UTF16", type := .byte, accessFlags := 24, slot := 6, constantValue := 0 }]
  methods := #[k7m0, k7m1, k7m2, k7m3, k7m4, k7m5, k7m6, k7m7, k7m8]
  instanceTypes := #[(.array .byte), .byte, .int, .boolean]
  staticTypes := #[.long, .boolean, (.array (.object "java/io/ObjectStreamField")), .char, (.object "java/util/Comparator"), .byte, .byte]
  resolved := Array.replicate 1451 none
  statics := some 0 }

def pool8 : Array CpInfo := pool [(1, .class_ 2), (0, u "java/lang/String"), (1, .class_ 6), (1, u "java/lang/Object"), (0, u "<init>"), (0, u "()V"), (0, .methodref 1 10), (0, .nameAndType 11 12), (0, u "checkIndex"), (0, u "(II)V"), (1, .class_ 16), (1, u "java/lang/StringLatin1"), (36, u "([BI)C"), (67, u "$assertionsDisabled"), (0, u "Z"), (98, .class_ 223), (1, u "java/lang/StringLatin1$LinesSpliterator"), (28, u "charAt"), (28, u "equals"), (0, u "([B[B)Z"), (107, .class_ 391), (0, u "java/lang/StringLatin1$CharsSpliterator")] 3

def k8m0 : Method := { name := "<init>", desc := "()V", sig := { parameters := [], returnType := none }, accessFlags := 0, code := none }
def k8c1 : Code := { maxStack := 2, maxLocals := 2, code := jdk_43_method_2_code, exceptionTable := #[], attributes := #[] }
def k8m1 : Method := { name := "charAt", desc := "([BI)C", sig := { parameters := [(.array .byte), .int], returnType := some .char }, accessFlags := 9, code := some k8c1 }
def k8c2 : Code := { maxStack := 3, maxLocals := 3, code := jdk_43_method_13_code, exceptionTable := #[], attributes := #[] }
def k8m2 : Method := { name := "equals", desc := "([B[B)Z", sig := { parameters := [(.array .byte), (.array .byte)], returnType := some .boolean }, accessFlags := 9, code := some k8c2 }
/-- java/lang/StringLatin1 -/
def k8 : Class := { plain "java/lang/StringLatin1" (some 0) with
  accessFlags := 48
  interfaces := #[]
  cf := some (fileOf pool8 14 #[.nestMembers #[390, 221]] #[{ accessFlags := 0, nameIndex := 7, descriptorIndex := 8, attributes := #[] }, { accessFlags := 9, nameIndex := 252, descriptorIndex := 53, attributes := #[] }, { accessFlags := 9, nameIndex := 281, descriptorIndex := 282, attributes := #[] }] 48 4 #[] #[{ accessFlags := 4120, nameIndex := 121, descriptorIndex := 122, attributes := #[] }])
  fields := #[{ name := "$assertionsDisabled", type := .boolean, accessFlags := 4120, slot := 0, constantValue := 0 }]
  methods := #[k8m0, k8m1, k8m2]
  instanceTypes := #[]
  staticTypes := #[.boolean]
  resolved := Array.replicate 395 none
  statics := none }

def pool9 : Array CpInfo := pool [(2, .class_ 4), (1, u "java/lang/Object"), (0, u "<init>"), (0, u "()V"), (17, .class_ 26), (1, u "jdk/internal/util/Preconditions"), (6, u "checkIndex"), (21, .class_ 56), (0, u "jdk/internal/util/Preconditions$4"), (57, .class_ 115), (0, u "jdk/internal/util/Preconditions$1"), (7, u "SIOOBE_FORMATTER"), (0, u "Ljava/util/function/BiFunction;"), (0, .class_ 126), (0, u "jdk/internal/util/Preconditions$2"), (3, u "AIOOBE_FORMATTER"), (0, .class_ 132), (0, u "jdk/internal/util/Preconditions$3"), (3, u "IOOBE_FORMATTER"), (41, u "(IILjava/util/function/BiFunction;)I")] 15

def k9m0 : Method := { name := "<init>", desc := "()V", sig := { parameters := [], returnType := none }, accessFlags := 1, code := none }
def k9c1 : Code := { maxStack := 3, maxLocals := 3, code := jdk_41_method_11_code, exceptionTable := #[], attributes := #[] }
def k9m1 : Method := { name := "checkIndex", desc := "(IILjava/util/function/BiFunction;)I", sig := { parameters := [.int, .int, (.object "java/util/function/BiFunction")], returnType := some .int }, accessFlags := 9, code := some k9c1 }
/-- jdk/internal/util/Preconditions -/
def k9 : Class := { plain "jdk/internal/util/Preconditions" (some 0) with
  accessFlags := 33
  interfaces := #[]
  cf := some (fileOf pool9 24 #[.nestMembers #[55, 131, 125, 114]] #[{ accessFlags := 1, nameIndex := 5, descriptorIndex := 6, attributes := #[] }, { accessFlags := 9, nameIndex := 33, descriptorIndex := 178, attributes := #[] }] 33 2 #[] #[{ accessFlags := 25, nameIndex := 123, descriptorIndex := 124, attributes := #[] }, { accessFlags := 25, nameIndex := 130, descriptorIndex := 124, attributes := #[] }, { accessFlags := 25, nameIndex := 136, descriptorIndex := 124, attributes := #[] }])
  fields := #[{ name := "SIOOBE_FORMATTER", type := (.object "java/util/function/BiFunction"), accessFlags := 25, slot := 0, constantValue := 0 }, { name := "AIOOBE_FORMATTER", type := (.object "java/util/function/BiFunction"), accessFlags := 25, slot := 1, constantValue := 0 }, { name := "IOOBE_FORMATTER", type := (.object "java/util/function/BiFunction"), accessFlags := 25, slot := 2, constantValue := 0 }]
  methods := #[k9m0, k9m1]
  instanceTypes := #[]
  staticTypes := #[(.object "java/util/function/BiFunction"), (.object "java/util/function/BiFunction"), (.object "java/util/function/BiFunction")]
  resolved := Array.replicate 194 none
  statics := some 1 }

def pool10 : Array CpInfo := pool [(6, .class_ 8), (1, u "java/lang/Object"), (0, u "<init>"), (0, u "()V"), (1, .class_ 14), (1, u "java/lang/StringUTF16"), (31, u "$assertionsDisabled"), (0, u "Z"), (13, u "HI_BYTE_SHIFT"), (0, u "I"), (2, u "LO_BYTE_SHIFT"), (49, .methodref 12 116), (0, .nameAndType 117 118), (0, u "compress"), (0, u "([CI[BII)I"), (3, u "([CII)[B"), (138, u "coderFromArrayLen"), (0, u "([BI)B"), (106, .class_ 371), (1, u "java/lang/StringUTF16$LinesSpliterator"), (58, u "MAX_LENGTH"), (196, .class_ 628), (0, u "java/lang/StringUTF16$CodePointsSpliterator"), (0, .class_ 630), (0, u "java/lang/StringUTF16$CharsSpliterator")] 4

def k10m0 : Method := { name := "<init>", desc := "()V", sig := { parameters := [], returnType := none }, accessFlags := 0, code := none }
def k10c1 : Code := { maxStack := 2, maxLocals := 2, code := jdk_52_method_15_code, exceptionTable := #[], attributes := #[] }
def k10m1 : Method := { name := "coderFromArrayLen", desc := "([BI)B", sig := { parameters := [(.array .byte), .int], returnType := some .byte }, accessFlags := 8, code := some k10c1 }
def k10c2 : Code := { maxStack := 5, maxLocals := 6, code := jdk_52_method_16_code, exceptionTable := #[], attributes := #[] }
def k10m2 : Method := { name := "compress", desc := "([CII)[B", sig := { parameters := [(.array .char), .int, .int], returnType := some (.array .byte) }, accessFlags := 9, code := some k10c2 }
def k10c3 : Code := { maxStack := 3, maxLocals := 7, code := jdk_52_method_21_code, exceptionTable := #[], attributes := #[] }
def k10m3 : Method := { name := "compress", desc := "([CI[BII)I", sig := { parameters := [(.array .char), .int, (.array .byte), .int, .int], returnType := some .int }, accessFlags := 9, code := some k10c3 }
/-- java/lang/StringUTF16 -/
def k10 : Class := { plain "java/lang/StringUTF16" (some 0) with
  accessFlags := 48
  interfaces := #[]
  cf := some (fileOf pool10 12 #[.nestMembers #[627, 629, 369]] #[{ accessFlags := 0, nameIndex := 9, descriptorIndex := 10, attributes := #[] }, { accessFlags := 8, nameIndex := 261, descriptorIndex := 262, attributes := #[] }, { accessFlags := 9, nameIndex := 117, descriptorIndex := 122, attributes := #[] }, { accessFlags := 9, nameIndex := 117, descriptorIndex := 118, attributes := #[] }] 48 6 #[] #[{ accessFlags := 26, nameIndex := 61, descriptorIndex := 62, attributes := #[] }, { accessFlags := 26, nameIndex := 65, descriptorIndex := 62, attributes := #[] }, { accessFlags := 24, nameIndex := 430, descriptorIndex := 62, attributes := #[] }, { accessFlags := 4120, nameIndex := 46, descriptorIndex := 47, attributes := #[] }])
  fields := #[{ name := "HI_BYTE_SHIFT", type := .int, accessFlags := 26, slot := 0, constantValue := 0 }, { name := "LO_BYTE_SHIFT", type := .int, accessFlags := 26, slot := 1, constantValue := 0 }, { name := "MAX_LENGTH", type := .int, accessFlags := 24, slot := 2, constantValue := 0 }, { name := "$assertionsDisabled", type := .boolean, accessFlags := 4120, slot := 3, constantValue := 0 }]
  methods := #[k10m0, k10m1, k10m2, k10m3]
  instanceTypes := #[]
  staticTypes := #[.int, .int, .int, .boolean]
  resolved := Array.replicate 635 none
  statics := none }

def pool11 : Array CpInfo := pool [(2, .class_ 4), (1, u "java/lang/Enum"), (0, u "name"), (0, u "Ljava/lang/String;"), (2, u "ordinal"), (0, u "I"), (1, .class_ 14), (1, u "java/lang/Object"), (4, u "hash"), (86, .class_ 108), (1, u "java/lang/Enum$EnumDesc"), (2, .class_ 112), (0, u "java/lang/constant/Constable"), (0, .class_ 114), (0, u "java/lang/Comparable"), (0, .class_ 116), (0, u "java/io/Serializable")] 87

/-- java/lang/Enum -/
def k11 : Class := { plain "java/lang/Enum" (some 0) with
  accessFlags := 1057
  interfaces := #[5, 3, 2]
  cf := some (fileOf pool11 2 #[.nestMembers #[106]] #[] 1057 12 #[111, 113, 115] #[{ accessFlags := 18, nameIndex := 5, descriptorIndex := 6, attributes := #[] }, { accessFlags := 18, nameIndex := 9, descriptorIndex := 10, attributes := #[] }, { accessFlags := 2, nameIndex := 19, descriptorIndex := 10, attributes := #[] }])
  fields := #[{ name := "name", type := (.object "java/lang/String"), accessFlags := 18, slot := 0, constantValue := 0 }, { name := "ordinal", type := .int, accessFlags := 18, slot := 1, constantValue := 0 }, { name := "hash", type := .int, accessFlags := 2, slot := 2, constantValue := 0 }]
  methods := #[]
  instanceTypes := #[(.object "java/lang/String"), .int, .int]
  staticTypes := #[]
  resolved := Array.replicate 204 none
  statics := none }

def pool12 : Array CpInfo := pool [(1, .class_ 2), (0, u "com/example/wade/wade/monitor/Access"), (2, u "READ"), (0, u "Lcom/example/wade/wade/monitor/Access;"), (2, u "WRITE"), (0, .fieldref 1 11), (0, .nameAndType 12 13), (0, u "$VALUES"), (0, u "[Lcom/example/wade/wade/monitor/Access;"), (0, .methodref 15 16), (0, .class_ 13), (0, .nameAndType 17 18), (0, u "clone"), (0, u "()Ljava/lang/Object;"), (1, .class_ 22), (1, u "java/lang/Enum"), (6, .fieldref 1 30), (0, .nameAndType 31 32), (0, u "word"), (0, u "Ljava/lang/String;"), (2, u "rule"), (2, u "relation"), (2, u "governing"), (0, u "(Ljava/lang/String;)Ljava/util/Optional;"), (5, .class_ 50), (1, u "java/util/Optional"), (2, .methodref 1 54), (0, .nameAndType 55 56), (0, u "values"), (0, u "()[Lcom/example/wade/wade/monitor/Access;"), (0, .methodref 58 59), (0, .class_ 60), (0, .nameAndType 61 62), (0, u "java/lang/String"), (0, u "equals"), (0, u "(Ljava/lang/Object;)Z"), (0, .methodref 48 64), (0, .nameAndType 65 66), (0, u "of"), (0, u "(Ljava/lang/Object;)Ljava/util/Optional;"), (0, .methodref 48 68), (0, .nameAndType 69 70), (0, u "empty"), (0, u "()Ljava/util/Optional;")] 73

def k12c0 : Code := { maxStack := 1, maxLocals := 0, code := prog_16_method_1_code, exceptionTable := #[], attributes := #[] }
def k12m0 : Method := { name := "values", desc := "()[Lcom/example/wade/wade/monitor/Access;", sig := { parameters := [], returnType := some (.array (.object "com/example/wade/wade/monitor/Access")) }, accessFlags := 9, code := some k12c0 }
def k12c1 : Code := { maxStack := 2, maxLocals := 5, code := prog_16_method_5_code, exceptionTable := #[], attributes := #[] }
def k12m1 : Method := { name := "governing", desc := "(Ljava/lang/String;)Ljava/util/Optional;", sig := { parameters := [(.object "java/lang/String")], returnType := some (.object "java/util/Optional") }, accessFlags := 9, code := some k12c1 }
/-- com/example/wade/wade/monitor/Access -/
def k12 : Class := { plain "com/example/wade/wade/monitor/Access" (some 11) with
  accessFlags := 16433
  interfaces := #[]
  cf := some (fileOf pool12 1 #[] #[{ accessFlags := 9, nameIndex := 55, descriptorIndex := 56, attributes := #[] }, { accessFlags := 9, nameIndex := 41, descriptorIndex := 42, attributes := #[] }] 16433 20 #[] #[{ accessFlags := 16409, nameIndex := 5, descriptorIndex := 6, attributes := #[] }, { accessFlags := 16409, nameIndex := 9, descriptorIndex := 6, attributes := #[] }, { accessFlags := 18, nameIndex := 31, descriptorIndex := 32, attributes := #[] }, { accessFlags := 18, nameIndex := 35, descriptorIndex := 32, attributes := #[] }, { accessFlags := 18, nameIndex := 38, descriptorIndex := 32, attributes := #[] }, { accessFlags := 4122, nameIndex := 12, descriptorIndex := 13, attributes := #[] }])
  fields := #[{ name := "READ", type := (.object "com/example/wade/wade/monitor/Access"), accessFlags := 16409, slot := 0, constantValue := 0 }, { name := "WRITE", type := (.object "com/example/wade/wade/monitor/Access"), accessFlags := 16409, slot := 1, constantValue := 0 }, { name := "word", type := (.object "java/lang/String"), accessFlags := 18, slot := 3, constantValue := 0 }, { name := "rule", type := (.object "java/lang/String"), accessFlags := 18, slot := 4, constantValue := 0 }, { name := "relation", type := (.object "java/lang/String"), accessFlags := 18, slot := 5, constantValue := 0 }, { name := "$VALUES", type := (.array (.object "com/example/wade/wade/monitor/Access")), accessFlags := 4122, slot := 2, constantValue := 0 }]
  methods := #[k12m0, k12m1]
  instanceTypes := #[(.object "java/lang/String"), .int, .int, (.object "java/lang/String"), (.object "java/lang/String"), (.object "java/lang/String")]
  staticTypes := #[(.object "com/example/wade/wade/monitor/Access"), (.object "com/example/wade/wade/monitor/Access"), (.array (.object "com/example/wade/wade/monitor/Access"))]
  resolved := Array.replicate 144 none
  statics := some 2 }

def pool13 : Array CpInfo := pool [(1, .class_ 2), (0, u "java/lang/Cloneable"), (0, .class_ 4), (0, u "java/lang/Object")] 2

/-- java/lang/Cloneable -/
def k13 : Class := { plain "java/lang/Cloneable" (some 0) with
  accessFlags := 1537
  interfaces := #[]
  cf := some (fileOf pool13 1 #[] #[] 1537 3 #[] #[])
  fields := #[]
  methods := #[]
  instanceTypes := #[]
  staticTypes := #[]
  resolved := Array.replicate 7 none
  statics := none }

def pool14 : Array CpInfo := pool [(1, .fieldref 2 3), (0, .class_ 4), (0, .nameAndType 5 6), (0, u "java/util/Optional"), (0, u "EMPTY"), (0, u "Ljava/util/Optional;"), (0, .methodref 8 9), (0, .class_ 10), (0, .nameAndType 11 12), (0, u "java/lang/Object"), (0, u "<init>"), (0, u "()V"), (0, .fieldref 2 14), (0, .nameAndType 15 16), (0, u "value"), (0, u "Ljava/lang/Object;"), (0, .methodref 18 19), (0, .class_ 20), (0, .nameAndType 21 22), (0, u "java/util/Objects"), (0, u "requireNonNull"), (0, u "(Ljava/lang/Object;)Ljava/lang/Object;"), (0, .methodref 2 24), (0, .nameAndType 11 25), (0, u "(Ljava/lang/Object;)V"), (20, u "()Z"), (8, u "empty"), (0, u "()Ljava/util/Optional;"), (8, u "(Ljava/lang/Object;)Ljava/util/Optional;"), (2, u "isPresent"), (4, u "get"), (0, u "()Ljava/lang/Object;"), (7, u "of")] 104

def k14c0 : Code := { maxStack := 1, maxLocals := 1, code := jdk_32_method_1_code, exceptionTable := #[], attributes := #[] }
def k14m0 : Method := { name := "empty", desc := "()Ljava/util/Optional;", sig := { parameters := [], returnType := some (.object "java/util/Optional") }, accessFlags := 9, code := some k14c0 }
def k14c1 : Code := { maxStack := 2, maxLocals := 2, code := jdk_32_method_2_code, exceptionTable := #[], attributes := #[] }
def k14m1 : Method := { name := "<init>", desc := "(Ljava/lang/Object;)V", sig := { parameters := [(.object "java/lang/Object")], returnType := none }, accessFlags := 2, code := some k14c1 }
def k14c2 : Code := { maxStack := 3, maxLocals := 1, code := jdk_32_method_3_code, exceptionTable := #[], attributes := #[] }
def k14m2 : Method := { name := "of", desc := "(Ljava/lang/Object;)Ljava/util/Optional;", sig := { parameters := [(.object "java/lang/Object")], returnType := some (.object "java/util/Optional") }, accessFlags := 9, code := some k14c2 }
def k14c3 : Code := { maxStack := 3, maxLocals := 1, code := jdk_32_method_5_code, exceptionTable := #[], attributes := #[] }
def k14m3 : Method := { name := "get", desc := "()Ljava/lang/Object;", sig := { parameters := [], returnType := some (.object "java/lang/Object") }, accessFlags := 1, code := some k14c3 }
def k14c4 : Code := { maxStack := 1, maxLocals := 1, code := jdk_32_method_6_code, exceptionTable := #[], attributes := #[] }
def k14m4 : Method := { name := "isPresent", desc := "()Z", sig := { parameters := [], returnType := some .boolean }, accessFlags := 1, code := some k14c4 }
/-- java/util/Optional -/
def k14 : Class := { plain "java/util/Optional" (some 0) with
  accessFlags := 49
  interfaces := #[]
  cf := some (fileOf pool14 2 #[] #[{ accessFlags := 9, nameIndex := 55, descriptorIndex := 56, attributes := #[] }, { accessFlags := 2, nameIndex := 11, descriptorIndex := 25, attributes := #[] }, { accessFlags := 9, nameIndex := 82, descriptorIndex := 65, attributes := #[] }, { accessFlags := 1, nameIndex := 73, descriptorIndex := 74, attributes := #[] }, { accessFlags := 1, nameIndex := 68, descriptorIndex := 46, attributes := #[] }] 49 8 #[] #[{ accessFlags := 26, nameIndex := 5, descriptorIndex := 6, attributes := #[] }, { accessFlags := 18, nameIndex := 15, descriptorIndex := 16, attributes := #[] }])
  fields := #[{ name := "EMPTY", type := (.object "java/util/Optional"), accessFlags := 26, slot := 0, constantValue := 0 }, { name := "value", type := (.object "java/lang/Object"), accessFlags := 18, slot := 0, constantValue := 0 }]
  methods := #[k14m0, k14m1, k14m2, k14m3, k14m4]
  instanceTypes := #[(.object "java/lang/Object")]
  staticTypes := #[(.object "java/util/Optional")]
  resolved := Array.replicate 187 none
  statics := some 3 }

def pool15 : Array CpInfo := pool [(2, .class_ 4), (1, u "java/lang/Object"), (0, u "<init>"), (0, u "()V"), (35, .class_ 44), (1, u "java/util/Objects"), (0, u "requireNonNull"), (0, u "(Ljava/lang/Object;)Ljava/lang/Object;")] 137

def k15m0 : Method := { name := "<init>", desc := "()V", sig := { parameters := [], returnType := none }, accessFlags := 2, code := none }
def k15c1 : Code := { maxStack := 2, maxLocals := 1, code := jdk_31_method_10_code, exceptionTable := #[], attributes := #[] }
def k15m1 : Method := { name := "requireNonNull", desc := "(Ljava/lang/Object;)Ljava/lang/Object;", sig := { parameters := [(.object "java/lang/Object")], returnType := some (.object "java/lang/Object") }, accessFlags := 9, code := some k15c1 }
/-- java/util/Objects -/
def k15 : Class := { plain "java/util/Objects" (some 0) with
  accessFlags := 49
  interfaces := #[]
  cf := some (fileOf pool15 42 #[] #[{ accessFlags := 2, nameIndex := 5, descriptorIndex := 6, attributes := #[] }, { accessFlags := 9, nameIndex := 45, descriptorIndex := 46, attributes := #[] }] 49 2 #[] #[])
  fields := #[]
  methods := #[k15m0, k15m1]
  instanceTypes := #[]
  staticTypes := #[]
  resolved := Array.replicate 184 none
  statics := none }

def pool16 : Array CpInfo := pool [(9, u "<init>"), (6, .class_ 18), (1, u "java/lang/Object"), (0, u "()V"), (1, .class_ 23), (1, u "jdk/internal/util/ArraysSupport"), (0, u "LOG2_ARRAY_LONG_INDEX_SCALE"), (0, u "I"), (2, u "U"), (0, u "Ljdk/internal/misc/Unsafe;"), (8, u "BIG_ENDIAN"), (0, u "Z"), (8, u "LOG2_BYTE_BIT_SIZE"), (4, u "LOG2_ARRAY_INT_INDEX_SCALE"), (54, u "JLA"), (0, u "Ljdk/internal/access/JavaLangAccess;"), (11, u "LOG2_ARRAY_BOOLEAN_INDEX_SCALE"), (9, u "LOG2_ARRAY_BYTE_INDEX_SCALE"), (5, u "LOG2_ARRAY_CHAR_INDEX_SCALE"), (5, u "LOG2_ARRAY_SHORT_INDEX_SCALE"), (18, u "LOG2_ARRAY_FLOAT_INDEX_SCALE"), (24, u "LOG2_ARRAY_DOUBLE_INDEX_SCALE"), (89, u "T_BOOLEAN"), (2, u "T_CHAR"), (1, u "T_FLOAT"), (1, u "T_DOUBLE"), (1, u "T_BYTE"), (1, u "T_SHORT"), (1, u "T_INT"), (1, u "T_LONG"), (1, u "SOFT_MAX_ARRAY_LENGTH")] 83

def k16m0 : Method := { name := "<init>", desc := "()V", sig := { parameters := [], returnType := none }, accessFlags := 2, code := none }
/-- jdk/internal/util/ArraysSupport -/
def k16 : Class := { plain "jdk/internal/util/ArraysSupport" (some 0) with
  accessFlags := 33
  interfaces := #[]
  cf := some (fileOf pool16 21 #[] #[{ accessFlags := 2, nameIndex := 9, descriptorIndex := 19, attributes := #[] }] 33 16 #[] #[{ accessFlags := 24, nameIndex := 28, descriptorIndex := 29, attributes := #[] }, { accessFlags := 26, nameIndex := 38, descriptorIndex := 39, attributes := #[] }, { accessFlags := 25, nameIndex := 121, descriptorIndex := 25, attributes := #[] }, { accessFlags := 25, nameIndex := 131, descriptorIndex := 25, attributes := #[] }, { accessFlags := 25, nameIndex := 137, descriptorIndex := 25, attributes := #[] }, { accessFlags := 25, nameIndex := 143, descriptorIndex := 25, attributes := #[] }, { accessFlags := 25, nameIndex := 53, descriptorIndex := 25, attributes := #[] }, { accessFlags := 25, nameIndex := 24, descriptorIndex := 25, attributes := #[] }, { accessFlags := 25, nameIndex := 162, descriptorIndex := 25, attributes := #[] }, { accessFlags := 25, nameIndex := 187, descriptorIndex := 25, attributes := #[] }, { accessFlags := 26, nameIndex := 48, descriptorIndex := 25, attributes := #[] }, { accessFlags := 25, nameIndex := 277, descriptorIndex := 25, attributes := #[] }, { accessFlags := 25, nameIndex := 280, descriptorIndex := 25, attributes := #[] }, { accessFlags := 25, nameIndex := 282, descriptorIndex := 25, attributes := #[] }, { accessFlags := 25, nameIndex := 284, descriptorIndex := 25, attributes := #[] }, { accessFlags := 25, nameIndex := 286, descriptorIndex := 25, attributes := #[] }, { accessFlags := 25, nameIndex := 288, descriptorIndex := 25, attributes := #[] }, { accessFlags := 25, nameIndex := 290, descriptorIndex := 25, attributes := #[] }, { accessFlags := 25, nameIndex := 292, descriptorIndex := 25, attributes := #[] }, { accessFlags := 26, nameIndex := 108, descriptorIndex := 109, attributes := #[] }, { accessFlags := 25, nameIndex := 294, descriptorIndex := 25, attributes := #[] }])
  fields := #[{ name := "U", type := (.object "jdk/internal/misc/Unsafe"), accessFlags := 24, slot := 0, constantValue := 0 }, { name := "BIG_ENDIAN", type := .boolean, accessFlags := 26, slot := 1, constantValue := 0 }, { name := "LOG2_ARRAY_BOOLEAN_INDEX_SCALE", type := .int, accessFlags := 25, slot := 2, constantValue := 0 }, { name := "LOG2_ARRAY_BYTE_INDEX_SCALE", type := .int, accessFlags := 25, slot := 3, constantValue := 0 }, { name := "LOG2_ARRAY_CHAR_INDEX_SCALE", type := .int, accessFlags := 25, slot := 4, constantValue := 0 }, { name := "LOG2_ARRAY_SHORT_INDEX_SCALE", type := .int, accessFlags := 25, slot := 5, constantValue := 0 }, { name := "LOG2_ARRAY_INT_INDEX_SCALE", type := .int, accessFlags := 25, slot := 6, constantValue := 0 }, { name := "LOG2_ARRAY_LONG_INDEX_SCALE", type := .int, accessFlags := 25, slot := 7, constantValue := 0 }, { name := "LOG2_ARRAY_FLOAT_INDEX_SCALE", type := .int, accessFlags := 25, slot := 8, constantValue := 0 }, { name := "LOG2_ARRAY_DOUBLE_INDEX_SCALE", type := .int, accessFlags := 25, slot := 9, constantValue := 0 }, { name := "LOG2_BYTE_BIT_SIZE", type := .int, accessFlags := 26, slot := 10, constantValue := 0 }, { name := "T_BOOLEAN", type := .int, accessFlags := 25, slot := 11, constantValue := 0 }, { name := "T_CHAR", type := .int, accessFlags := 25, slot := 12, constantValue := 0 }, { name := "T_FLOAT", type := .int, accessFlags := 25, slot := 13, constantValue := 0 }, { name := "T_DOUBLE", type := .int, accessFlags := 25, slot := 14, constantValue := 0 }, { name := "T_BYTE", type := .int, accessFlags := 25, slot := 15, constantValue := 0 }, { name := "T_SHORT", type := .int, accessFlags := 25, slot := 16, constantValue := 0 }, { name := "T_INT", type := .int, accessFlags := 25, slot := 17, constantValue := 0 }, { name := "T_LONG", type := .int, accessFlags := 25, slot := 18, constantValue := 0 }, { name := "JLA", type := (.object "jdk/internal/access/JavaLangAccess"), accessFlags := 26, slot := 19, constantValue := 0 }, { name := "SOFT_MAX_ARRAY_LENGTH", type := .int, accessFlags := 25, slot := 20, constantValue := 0 }]
  methods := #[k16m0]
  instanceTypes := #[]
  staticTypes := #[(.object "jdk/internal/misc/Unsafe"), .boolean, .int, .int, .int, .int, .int, .int, .int, .int, .int, .int, .int, .int, .int, .int, .int, .int, .int, (.object "jdk/internal/access/JavaLangAccess"), .int]
  resolved := Array.replicate 378 none
  statics := none }

/-- the primitive byte -/
def k17 : Class := { plain "byte" none with kind := .primitive 'B', accessFlags := 0x411 }
/-- [B -/
def k18 : Class := { plain "[B" (some 0) with kind := .array 17 .byte, interfaces := #[13, 2], accessFlags := 1041 }

/-- the primitive char -/
def k19 : Class := { plain "char" none with kind := .primitive 'C', accessFlags := 0x411 }
/-- [C -/
def k20 : Class := { plain "[C" (some 0) with kind := .array 19 .char, interfaces := #[13, 2], accessFlags := 1041 }

/-- the primitive int -/
def k21 : Class := { plain "int" none with kind := .primitive 'I', accessFlags := 0x411 }
/-- [I -/
def k22 : Class := { plain "[I" (some 0) with kind := .array 21 .int, interfaces := #[13, 2], accessFlags := 1041 }

/-- [Lcom/example/wade/wade/monitor/Access; -/
def k23 : Class := { plain "[Lcom/example/wade/wade/monitor/Access;" (some 0) with kind := .array 12 (.object "com/example/wade/wade/monitor/Access"), interfaces := #[13, 2], accessFlags := 1041 }

def heap : Heap := #[{ cls := 7, slots := #[.long 0, .int 1, .null, .int 0, .null, .int 0, .int 0], vm := .statics 7 },
  { cls := 9, slots := #[.null, .null, .null], vm := .statics 9 },
  { cls := 12, slots := #[.ref 5, .ref 6, .ref 4], vm := .statics 12 },
  { cls := 14, slots := #[.ref 11], vm := .statics 14 },
  { cls := 23, slots := #[.ref 5, .ref 6], vm := .none },
  { cls := 12, slots := #[.null, .int 0, .int 0, .ref 7, .null, .null], vm := .none },
  { cls := 12, slots := #[.null, .int 1, .int 0, .ref 9, .null, .null], vm := .none },
  { cls := 7, slots := #[.ref 8, .int 0, .int 0, .int 0], vm := .none },
  { cls := 18, slots := #[.int 114, .int 101, .int 97, .int 100], vm := .none },
  { cls := 7, slots := #[.ref 10, .int 0, .int 0, .int 0], vm := .none },
  { cls := 18, slots := #[.int 119, .int 114, .int 105, .int 116, .int 101], vm := .none },
  { cls := 14, slots := #[.null], vm := .none }]
def classes : Array Class := #[k0, k1, k2, k3, k4, k5, k6, k7, k8, k9, k10, k11, k12, k13, k14, k15, k16, k17, k18, k19, k20, k21, k22, k23]
def interned : List (Array UInt16 × Addr) := []
def slotsUsed : Nat := 46
def theMethod : MethodId := ⟨1, 2⟩
def args0 : Array Value := #[.int 5, .int 5, .int 5, .int 5, .long 5]
def aboutOver (below : List Frame) : State where
  vm := { classes := classes, interned := interned.toArray }
  heap := heap
  slotsUsed := slotsUsed
  threads := #[{ frames := .invoking theMethod args0 :: below }]
def below0 : List Frame := [.native { method := ⟨0, 0⟩, args := #[] }]
def about1 : State := aboutOver below0
def p0 : Program := .bare "" "" ""
def e0 : Env := launch0.env 0 0 0
theorem w_frames : about1.frames = Frame.invoking theMethod args0 :: below0 := rfl
set_option maxRecDepth 65536 in
theorem w_args : argsFit about1.vm theMethod args0 = true := by decide +kernel
set_option maxRecDepth 65536 in
theorem w_heap : heapFits about1 = true := by decide +kernel
set_option maxRecDepth 65536 in
theorem w_runnable : about1.curStatus? = some .runnable := by decide +kernel
set_option maxRecDepth 65536 in
theorem w_alone : about1.alone = true := by decide +kernel
set_option maxRecDepth 65536 in
theorem w_named : about1.methodNamed? x = some theMethod := by decide +kernel
set_option maxRecDepth 65536 in
theorem w_hears : about1.hears theMethod below0 = true := by decide +kernel
set_option maxRecDepth 65536 in
theorem w_ripe : about1.ripe theMethod args0 below0 = true := by decide +kernel
theorem w_running : about1.status = .running := rfl
set_option maxRecDepth 65536 in
theorem w_room : about1.hasRoom e0.platform room_1 = true :=
  launch0.hasRoom_least _ room_1 (by decide +kernel) (by decide +kernel) (by decide +kernel) (by decide +kernel) (by decide +kernel) (by decide +kernel)
theorem allAtoms_all (ts : List Jvm.Cond) (a : Array Jvm.Value) (st : Jvm.State) : (allAtoms ts).before a st = ts.all (fun c => c.before a st) := by
  induction ts with
  | nil => rfl
  | cons c t ih =>
    show (Jvm.Cond.and c (allAtoms t)).before a st = _
    rw [Jvm.Cond.before_and, ih, List.all_cons]
def words1 : List Jvm.Cond := Jvm.Cond.code x code maxLocals ret :: tables_1
/-- a 'code' word, met by the world's own term for the bytes: nothing is compared byte by byte -/
theorem code_word {y : MethodName} {bytes : ByteArray} {mx : Nat} {rt : Option FieldType} {a : Array Value} {s : State} {m : MethodId} {meth : Method} {c : Code} (h1 : s.methodNamed? y = some m) (h2 : s.vm.method? m = some meth) (h3 : meth.code = some c) (h4 : c.code = bytes)
    (h5 : (c.maxLocals == mx && c.exceptionTable.isEmpty && decide (c.maxStack ≤ mostOperands) && decide (meth.sig.returnType = rt) && !meth.locks && decide (parseMethodDescriptor y.desc = some meth.sig)) = true) : (Jvm.Cond.code y bytes mx rt).before a s = true := by
  simp only [Bool.and_eq_true, beq_iff_eq, Bool.not_eq_true', decide_eq_true_eq] at h5
  obtain ⟨⟨⟨⟨⟨g1, g2⟩, g3⟩, g4⟩, g5⟩, g6⟩ := h5
  simp [Cond.before, Cond.holds, Cond.value, h1, h2, h3, h4, g1, g2, g3, g4, g5, g6]
def isCode : Jvm.Cond → Bool
  | .code _ _ _ _ => true
  | _ => false
theorem all_split {L : List Jvm.Cond} {P : Jvm.Cond → Bool} (h1 : L.all (fun c => isCode c || P c) = true) (h2 : ∀ c ∈ L.filter isCode, P c = true) : L.all P = true := by
  refine List.all_eq_true.mpr fun c hc => ?_
  have h := List.all_eq_true.mp h1 c hc
  rcases Bool.eq_false_or_eq_true (isCode c) with hi | hi
  · exact h2 c (List.mem_filter.mpr ⟨hc, hi⟩)
  · simpa [hi] using h
set_option maxRecDepth 65536 in
theorem w_c0 : (Jvm.Cond.code x code maxLocals ret).before args0 about1 = true := code_word (m := ⟨1, 2⟩) (meth := k1m2) (c := k1c2) (by decide +kernel) rfl rfl rfl (by decide +kernel)
set_option maxRecDepth 65536 in
theorem w_c1 : (Jvm.Cond.code ({ cls := "java/lang/String", name := "length", desc := "()I" } : Jvm.MethodName) jdk_42_method_54_code (1 : Nat) (Option.some Jvm.ClassFile.FieldType.int)).before args0 about1 = true := code_word (m := ⟨7, 2⟩) (meth := k7m2) (c := k7c2) (by decide +kernel) rfl rfl rfl (by decide +kernel)
set_option maxRecDepth 65536 in
theorem w_c2 : (Jvm.Cond.code ({ cls := "java/lang/String", name := "coder", desc := "()B" } : Jvm.MethodName) jdk_42_method_152_code (1 : Nat) (Option.some Jvm.ClassFile.FieldType.byte)).before args0 about1 = true := code_word (m := ⟨7, 6⟩) (meth := k7m6) (c := k7c6) (by decide +kernel) rfl rfl rfl (by decide +kernel)
set_option maxRecDepth 65536 in
theorem w_c3 : (Jvm.Cond.code ({ cls := "java/lang/String", name := "charAt", desc := "(I)C" } : Jvm.MethodName) jdk_42_method_56_code (2 : Nat) (Option.some Jvm.ClassFile.FieldType.char)).before args0 about1 = true := code_word (m := ⟨7, 3⟩) (meth := k7m3) (c := k7c3) (by decide +kernel) rfl rfl rfl (by decide +kernel)
set_option maxRecDepth 65536 in
theorem w_c4 : (Jvm.Cond.code ({ cls := "java/lang/String", name := "isLatin1", desc := "()Z" } : Jvm.MethodName) jdk_42_method_154_code (1 : Nat) (Option.some Jvm.ClassFile.FieldType.boolean)).before args0 about1 = true := code_word (m := ⟨7, 7⟩) (meth := k7m7) (c := k7c7) (by decide +kernel) rfl rfl rfl (by decide +kernel)
set_option maxRecDepth 65536 in
theorem w_c5 : (Jvm.Cond.code ({ cls := "java/lang/StringLatin1", name := "charAt", desc := "([BI)C" } : Jvm.MethodName) jdk_43_method_2_code (2 : Nat) (Option.some Jvm.ClassFile.FieldType.char)).before args0 about1 = true := code_word (m := ⟨8, 1⟩) (meth := k8m1) (c := k8c1) (by decide +kernel) rfl rfl rfl (by decide +kernel)
set_option maxRecDepth 65536 in
theorem w_c6 : (Jvm.Cond.code ({ cls := "java/lang/String", name := "checkIndex", desc := "(II)V" } : Jvm.MethodName) jdk_42_method_155_code (2 : Nat) (Option.none : Option Jvm.ClassFile.FieldType)).before args0 about1 = true := code_word (m := ⟨7, 8⟩) (meth := k7m8) (c := k7c8) (by decide +kernel) rfl rfl rfl (by decide +kernel)
set_option maxRecDepth 65536 in
theorem w_c7 : (Jvm.Cond.code ({ cls := "jdk/internal/util/Preconditions", name := "checkIndex", desc := "(IILjava/util/function/BiFunction;)I" } : Jvm.MethodName) jdk_41_method_11_code (3 : Nat) (Option.some Jvm.ClassFile.FieldType.int)).before args0 about1 = true := code_word (m := ⟨9, 1⟩) (meth := k9m1) (c := k9c1) (by decide +kernel) rfl rfl rfl (by decide +kernel)
set_option maxRecDepth 65536 in
theorem w_c8 : (Jvm.Cond.code ({ cls := "com/example/wade/wade/monitor/AccessGoverningPinLaw", name := "make", desc := "([CI)Ljava/lang/String;" } : Jvm.MethodName) method_2_code (2 : Nat) (Option.some (Jvm.ClassFile.FieldType.object "java/lang/String"))).before args0 about1 = true := code_word (m := ⟨1, 1⟩) (meth := k1m1) (c := k1c1) (by decide +kernel) rfl rfl rfl (by decide +kernel)
set_option maxRecDepth 65536 in
theorem w_c9 : (Jvm.Cond.code ({ cls := "java/lang/String", name := "<init>", desc := "([C)V" } : Jvm.MethodName) jdk_42_method_3_code (2 : Nat) (Option.none : Option Jvm.ClassFile.FieldType)).before args0 about1 = true := code_word (m := ⟨7, 1⟩) (meth := k7m1) (c := k7c1) (by decide +kernel) rfl rfl rfl (by decide +kernel)
set_option maxRecDepth 65536 in
theorem w_c10 : (Jvm.Cond.code ({ cls := "java/lang/String", name := "<init>", desc := "([CIILjava/lang/Void;)V" } : Jvm.MethodName) jdk_42_method_149_code (6 : Nat) (Option.none : Option Jvm.ClassFile.FieldType)).before args0 about1 = true := code_word (m := ⟨7, 5⟩) (meth := k7m5) (c := k7c5) (by decide +kernel) rfl rfl rfl (by decide +kernel)
set_option maxRecDepth 65536 in
theorem w_c11 : (Jvm.Cond.code ({ cls := "java/lang/Object", name := "<init>", desc := "()V" } : Jvm.MethodName) object_method_1_code (1 : Nat) (Option.none : Option Jvm.ClassFile.FieldType)).before args0 about1 = true := code_word (m := ⟨0, 0⟩) (meth := k0m0) (c := k0c0) (by decide +kernel) rfl rfl rfl (by decide +kernel)
set_option maxRecDepth 65536 in
theorem w_c12 : (Jvm.Cond.code ({ cls := "java/lang/StringUTF16", name := "compress", desc := "([CII)[B" } : Jvm.MethodName) jdk_52_method_16_code (6 : Nat) (Option.some (Jvm.ClassFile.FieldType.array Jvm.ClassFile.FieldType.byte))).before args0 about1 = true := code_word (m := ⟨10, 2⟩) (meth := k10m2) (c := k10c2) (by decide +kernel) rfl rfl rfl (by decide +kernel)
set_option maxRecDepth 65536 in
theorem w_c13 : (Jvm.Cond.code ({ cls := "java/lang/StringUTF16", name := "compress", desc := "([CI[BII)I" } : Jvm.MethodName) jdk_52_method_21_code (7 : Nat) (Option.some Jvm.ClassFile.FieldType.int)).before args0 about1 = true := code_word (m := ⟨10, 3⟩) (meth := k10m3) (c := k10c3) (by decide +kernel) rfl rfl rfl (by decide +kernel)
set_option maxRecDepth 65536 in
theorem w_c14 : (Jvm.Cond.code ({ cls := "java/lang/StringUTF16", name := "coderFromArrayLen", desc := "([BI)B" } : Jvm.MethodName) jdk_52_method_15_code (2 : Nat) (Option.some Jvm.ClassFile.FieldType.byte)).before args0 about1 = true := code_word (m := ⟨10, 1⟩) (meth := k10m1) (c := k10c1) (by decide +kernel) rfl rfl rfl (by decide +kernel)
set_option maxRecDepth 65536 in
theorem w_c15 : (Jvm.Cond.code ({ cls := "com/example/wade/wade/monitor/Access", name := "governing", desc := "(Ljava/lang/String;)Ljava/util/Optional;" } : Jvm.MethodName) prog_16_method_5_code (5 : Nat) (Option.some (Jvm.ClassFile.FieldType.object "java/util/Optional"))).before args0 about1 = true := code_word (m := ⟨12, 1⟩) (meth := k12m1) (c := k12c1) (by decide +kernel) rfl rfl rfl (by decide +kernel)
set_option maxRecDepth 65536 in
theorem w_c16 : (Jvm.Cond.code ({ cls := "com/example/wade/wade/monitor/Access", name := "values", desc := "()[Lcom/example/wade/wade/monitor/Access;" } : Jvm.MethodName) prog_16_method_1_code (0 : Nat) (Option.some (Jvm.ClassFile.FieldType.array (Jvm.ClassFile.FieldType.object "com/example/wade/wade/monitor/Access")))).before args0 about1 = true := code_word (m := ⟨12, 0⟩) (meth := k12m0) (c := k12c0) (by decide +kernel) rfl rfl rfl (by decide +kernel)
set_option maxRecDepth 65536 in
theorem w_c17 : (Jvm.Cond.code ({ cls := "java/lang/String", name := "equals", desc := "(Ljava/lang/Object;)Z" } : Jvm.MethodName) jdk_42_method_66_code (3 : Nat) (Option.some Jvm.ClassFile.FieldType.boolean)).before args0 about1 = true := code_word (m := ⟨7, 4⟩) (meth := k7m4) (c := k7c4) (by decide +kernel) rfl rfl rfl (by decide +kernel)
set_option maxRecDepth 65536 in
theorem w_c18 : (Jvm.Cond.code ({ cls := "java/lang/StringLatin1", name := "equals", desc := "([B[B)Z" } : Jvm.MethodName) jdk_43_method_13_code (3 : Nat) (Option.some Jvm.ClassFile.FieldType.boolean)).before args0 about1 = true := code_word (m := ⟨8, 2⟩) (meth := k8m2) (c := k8c2) (by decide +kernel) rfl rfl rfl (by decide +kernel)
set_option maxRecDepth 65536 in
theorem w_c19 : (Jvm.Cond.code ({ cls := "java/util/Optional", name := "of", desc := "(Ljava/lang/Object;)Ljava/util/Optional;" } : Jvm.MethodName) jdk_32_method_3_code (1 : Nat) (Option.some (Jvm.ClassFile.FieldType.object "java/util/Optional"))).before args0 about1 = true := code_word (m := ⟨14, 2⟩) (meth := k14m2) (c := k14c2) (by decide +kernel) rfl rfl rfl (by decide +kernel)
set_option maxRecDepth 65536 in
theorem w_c20 : (Jvm.Cond.code ({ cls := "java/util/Objects", name := "requireNonNull", desc := "(Ljava/lang/Object;)Ljava/lang/Object;" } : Jvm.MethodName) jdk_31_method_10_code (1 : Nat) (Option.some (Jvm.ClassFile.FieldType.object "java/lang/Object"))).before args0 about1 = true := code_word (m := ⟨15, 1⟩) (meth := k15m1) (c := k15c1) (by decide +kernel) rfl rfl rfl (by decide +kernel)
set_option maxRecDepth 65536 in
theorem w_c21 : (Jvm.Cond.code ({ cls := "java/util/Optional", name := "<init>", desc := "(Ljava/lang/Object;)V" } : Jvm.MethodName) jdk_32_method_2_code (2 : Nat) (Option.none : Option Jvm.ClassFile.FieldType)).before args0 about1 = true := code_word (m := ⟨14, 1⟩) (meth := k14m1) (c := k14c1) (by decide +kernel) rfl rfl rfl (by decide +kernel)
set_option maxRecDepth 65536 in
theorem w_c22 : (Jvm.Cond.code ({ cls := "java/util/Optional", name := "isPresent", desc := "()Z" } : Jvm.MethodName) jdk_32_method_6_code (1 : Nat) (Option.some Jvm.ClassFile.FieldType.boolean)).before args0 about1 = true := code_word (m := ⟨14, 4⟩) (meth := k14m4) (c := k14c4) (by decide +kernel) rfl rfl rfl (by decide +kernel)
set_option maxRecDepth 65536 in
theorem w_c23 : (Jvm.Cond.code ({ cls := "java/util/Optional", name := "get", desc := "()Ljava/lang/Object;" } : Jvm.MethodName) jdk_32_method_5_code (1 : Nat) (Option.some (Jvm.ClassFile.FieldType.object "java/lang/Object"))).before args0 about1 = true := code_word (m := ⟨14, 3⟩) (meth := k14m3) (c := k14c3) (by decide +kernel) rfl rfl rfl (by decide +kernel)
set_option maxRecDepth 65536 in
theorem w_c24 : (Jvm.Cond.code ({ cls := "java/util/Optional", name := "empty", desc := "()Ljava/util/Optional;" } : Jvm.MethodName) jdk_32_method_1_code (1 : Nat) (Option.some (Jvm.ClassFile.FieldType.object "java/util/Optional"))).before args0 about1 = true := code_word (m := ⟨14, 0⟩) (meth := k14m0) (c := k14c0) (by decide +kernel) rfl rfl rfl (by decide +kernel)
def codes1 : List Jvm.Cond := [Jvm.Cond.code x code maxLocals ret, Jvm.Cond.code ({ cls := "java/lang/String", name := "length", desc := "()I" } : Jvm.MethodName) jdk_42_method_54_code (1 : Nat) (Option.some Jvm.ClassFile.FieldType.int), Jvm.Cond.code ({ cls := "java/lang/String", name := "coder", desc := "()B" } : Jvm.MethodName) jdk_42_method_152_code (1 : Nat) (Option.some Jvm.ClassFile.FieldType.byte), Jvm.Cond.code ({ cls := "java/lang/String", name := "charAt", desc := "(I)C" } : Jvm.MethodName) jdk_42_method_56_code (2 : Nat) (Option.some Jvm.ClassFile.FieldType.char), Jvm.Cond.code ({ cls := "java/lang/String", name := "isLatin1", desc := "()Z" } : Jvm.MethodName) jdk_42_method_154_code (1 : Nat) (Option.some Jvm.ClassFile.FieldType.boolean), Jvm.Cond.code ({ cls := "java/lang/StringLatin1", name := "charAt", desc := "([BI)C" } : Jvm.MethodName) jdk_43_method_2_code (2 : Nat) (Option.some Jvm.ClassFile.FieldType.char), Jvm.Cond.code ({ cls := "java/lang/String", name := "checkIndex", desc := "(II)V" } : Jvm.MethodName) jdk_42_method_155_code (2 : Nat) (Option.none : Option Jvm.ClassFile.FieldType), Jvm.Cond.code ({ cls := "jdk/internal/util/Preconditions", name := "checkIndex", desc := "(IILjava/util/function/BiFunction;)I" } : Jvm.MethodName) jdk_41_method_11_code (3 : Nat) (Option.some Jvm.ClassFile.FieldType.int), Jvm.Cond.code ({ cls := "com/example/wade/wade/monitor/AccessGoverningPinLaw", name := "make", desc := "([CI)Ljava/lang/String;" } : Jvm.MethodName) method_2_code (2 : Nat) (Option.some (Jvm.ClassFile.FieldType.object "java/lang/String")), Jvm.Cond.code ({ cls := "java/lang/String", name := "<init>", desc := "([C)V" } : Jvm.MethodName) jdk_42_method_3_code (2 : Nat) (Option.none : Option Jvm.ClassFile.FieldType), Jvm.Cond.code ({ cls := "java/lang/String", name := "<init>", desc := "([CIILjava/lang/Void;)V" } : Jvm.MethodName) jdk_42_method_149_code (6 : Nat) (Option.none : Option Jvm.ClassFile.FieldType), Jvm.Cond.code ({ cls := "java/lang/Object", name := "<init>", desc := "()V" } : Jvm.MethodName) object_method_1_code (1 : Nat) (Option.none : Option Jvm.ClassFile.FieldType), Jvm.Cond.code ({ cls := "java/lang/StringUTF16", name := "compress", desc := "([CII)[B" } : Jvm.MethodName) jdk_52_method_16_code (6 : Nat) (Option.some (Jvm.ClassFile.FieldType.array Jvm.ClassFile.FieldType.byte)), Jvm.Cond.code ({ cls := "java/lang/StringUTF16", name := "compress", desc := "([CI[BII)I" } : Jvm.MethodName) jdk_52_method_21_code (7 : Nat) (Option.some Jvm.ClassFile.FieldType.int), Jvm.Cond.code ({ cls := "java/lang/StringUTF16", name := "coderFromArrayLen", desc := "([BI)B" } : Jvm.MethodName) jdk_52_method_15_code (2 : Nat) (Option.some Jvm.ClassFile.FieldType.byte), Jvm.Cond.code ({ cls := "com/example/wade/wade/monitor/Access", name := "governing", desc := "(Ljava/lang/String;)Ljava/util/Optional;" } : Jvm.MethodName) prog_16_method_5_code (5 : Nat) (Option.some (Jvm.ClassFile.FieldType.object "java/util/Optional")), Jvm.Cond.code ({ cls := "com/example/wade/wade/monitor/Access", name := "values", desc := "()[Lcom/example/wade/wade/monitor/Access;" } : Jvm.MethodName) prog_16_method_1_code (0 : Nat) (Option.some (Jvm.ClassFile.FieldType.array (Jvm.ClassFile.FieldType.object "com/example/wade/wade/monitor/Access"))), Jvm.Cond.code ({ cls := "java/lang/String", name := "equals", desc := "(Ljava/lang/Object;)Z" } : Jvm.MethodName) jdk_42_method_66_code (3 : Nat) (Option.some Jvm.ClassFile.FieldType.boolean), Jvm.Cond.code ({ cls := "java/lang/StringLatin1", name := "equals", desc := "([B[B)Z" } : Jvm.MethodName) jdk_43_method_13_code (3 : Nat) (Option.some Jvm.ClassFile.FieldType.boolean), Jvm.Cond.code ({ cls := "java/util/Optional", name := "of", desc := "(Ljava/lang/Object;)Ljava/util/Optional;" } : Jvm.MethodName) jdk_32_method_3_code (1 : Nat) (Option.some (Jvm.ClassFile.FieldType.object "java/util/Optional")), Jvm.Cond.code ({ cls := "java/util/Objects", name := "requireNonNull", desc := "(Ljava/lang/Object;)Ljava/lang/Object;" } : Jvm.MethodName) jdk_31_method_10_code (1 : Nat) (Option.some (Jvm.ClassFile.FieldType.object "java/lang/Object")), Jvm.Cond.code ({ cls := "java/util/Optional", name := "<init>", desc := "(Ljava/lang/Object;)V" } : Jvm.MethodName) jdk_32_method_2_code (2 : Nat) (Option.none : Option Jvm.ClassFile.FieldType), Jvm.Cond.code ({ cls := "java/util/Optional", name := "isPresent", desc := "()Z" } : Jvm.MethodName) jdk_32_method_6_code (1 : Nat) (Option.some Jvm.ClassFile.FieldType.boolean), Jvm.Cond.code ({ cls := "java/util/Optional", name := "get", desc := "()Ljava/lang/Object;" } : Jvm.MethodName) jdk_32_method_5_code (1 : Nat) (Option.some (Jvm.ClassFile.FieldType.object "java/lang/Object")), Jvm.Cond.code ({ cls := "java/util/Optional", name := "empty", desc := "()Ljava/util/Optional;" } : Jvm.MethodName) jdk_32_method_1_code (1 : Nat) (Option.some (Jvm.ClassFile.FieldType.object "java/util/Optional"))]
set_option maxRecDepth 65536 in
theorem codes_eq : words1.filter isCode = codes1 := rfl
theorem w_codes : ∀ c ∈ words1.filter isCode, c.before args0 about1 = true := by
  rw [codes_eq]
  intro c hc
  simp only [codes1, List.mem_cons, List.not_mem_nil, or_false] at hc
  rcases hc with rfl | rfl | rfl | rfl | rfl | rfl | rfl | rfl | rfl | rfl | rfl | rfl | rfl | rfl | rfl | rfl | rfl | rfl | rfl | rfl | rfl | rfl | rfl | rfl | rfl
  · exact w_c0
  · exact w_c1
  · exact w_c2
  · exact w_c3
  · exact w_c4
  · exact w_c5
  · exact w_c6
  · exact w_c7
  · exact w_c8
  · exact w_c9
  · exact w_c10
  · exact w_c11
  · exact w_c12
  · exact w_c13
  · exact w_c14
  · exact w_c15
  · exact w_c16
  · exact w_c17
  · exact w_c18
  · exact w_c19
  · exact w_c20
  · exact w_c21
  · exact w_c22
  · exact w_c23
  · exact w_c24
set_option maxRecDepth 65536 in
theorem w_t1 : (words1.take 24).all (fun c => isCode c || c.before args0 about1) = true := by decide +kernel
set_option maxRecDepth 65536 in
theorem w_t2 : ((words1.drop 24).take 24).all (fun c => isCode c || c.before args0 about1) = true := by decide +kernel
set_option maxRecDepth 65536 in
theorem w_t3 : (((words1.drop 24).drop 24).take 24).all (fun c => isCode c || c.before args0 about1) = true := by decide +kernel
set_option maxRecDepth 65536 in
theorem w_t4 : ((((words1.drop 24).drop 24).drop 24).take 24).all (fun c => isCode c || c.before args0 about1) = true := by decide +kernel
set_option maxRecDepth 65536 in
theorem w_t5 : (((((words1.drop 24).drop 24).drop 24).drop 24).take 24).all (fun c => isCode c || c.before args0 about1) = true := by decide +kernel
set_option maxRecDepth 65536 in
theorem w_t6 : (((((words1.drop 24).drop 24).drop 24).drop 24).drop 24).all (fun c => isCode c || c.before args0 about1) = true := by decide +kernel
theorem w_tables : (allAtoms (Jvm.Cond.code x code maxLocals ret :: tables_1)).before args0 about1 = true := by
  rw [allAtoms_all]
  show words1.all (fun c => c.before args0 about1) = true
  refine all_split ?_ w_codes
  rw [← List.take_append_drop 24 words1, List.all_append, w_t1, ← List.take_append_drop 24 (words1.drop 24), List.all_append, w_t2, ← List.take_append_drop 24 ((words1.drop 24).drop 24), List.all_append, w_t3, ← List.take_append_drop 24 (((words1.drop 24).drop 24).drop 24), List.all_append, w_t4, ← List.take_append_drop 24 ((((words1.drop 24).drop 24).drop 24).drop 24), List.all_append, w_t5, w_t6]
  rfl
set_option maxRecDepth 65536 in
theorem w_rest : rest_1_c.before args0 about1 = true := by decide +kernel
set_option maxRecDepth 65536 in
theorem w_case : (Jvm.Cond.and given_1 narrow_1).before args0 about1 = true := by decide +kernel
set_option maxRecDepth 65536 in
theorem w_consts : constsHeld consts_1 about1 := Jvm.Lit.constsHeldB_iff.mp (by decide +kernel)
theorem w_applies : (headSpec (Jvm.Cond.code x code maxLocals ret :: tables_1) room_1).applies x e0.platform about1 = true :=
  (Spec.applies_iff w_frames).mpr ⟨w_running, w_runnable, w_alone, w_named, w_hears, w_ripe, w_room, w_tables⟩
theorem atStart : AtStart classFile x code maxLocals ret World_1 tables_1 room_1 Calls_1 rest_1 Pre_1 launch0 p0 e0 about1 theMethod args0 below0 :=
  ⟨lists_1, trivial, launch0.admits_env _ _ _, launch0.least_env, fairChoices_fair.cas, fairChoices_fair.clock, w_frames, w_args, w_heap, w_applies, ⟨w_consts, trivial⟩, w_rest, w_case⟩
end start1
theorem witness_1 : WitnessClaimed_1 := ⟨start1.p0, start1.e0, start1.about1, start1.theMethod, start1.args0, start1.below0, start1.atStart⟩
end Jvm.Pilot.@@N@@
