import JvmDerived
import JvmDerived.Pilot.@@N@@Statement
import JvmDerived.Pilot.@@N@@Code
set_option linter.unusedVariables false
set_option linter.unusedSimpArgs false
/- laws to paste: Road.backV, Road.lenW, Road.chN, Road.eqW, Road.codOf (cut by pick.py; bodies as the Statement names them) -/
namespace Jvm.Pilot.@@N@@
namespace StrChars
open Jvm Sem ClassFile Op Lib Jvm.Stand Jvm.Free.XT Jvm.Free.ALB Jvm.Free.JM Jvm.Free
open Jvm.Lib.Cold (StaticIs)
/-- a char array whose places are chars -/
def Ch (a : Addr) (A : Cell) (U : State) : Prop := Arr .char a A U ∧ Typed .char A
theorem Ch.mv {a : Addr} {A : Cell} {U U' : State} (h : Ch a A U) (hal : U.vm.Alike U'.vm) (hh : U'.heap = U.heap) : Ch a A U' := ⟨h.1.mv hal hh, h.2⟩
theorem Ch.keep {a : Addr} {A : Cell} {U U' : State} (h : Ch a A U) (hal : U.vm.Alike U'.vm) (hk : U'.heap[a]? = some A) : Ch a A U' := ⟨h.1.keep hal hk, h.2⟩
/-- what place i of a char[]'s cell holds -/
def cv (A : Cell) (i : Nat) : Int32 := match A.slots[i]? with | some (.int x) => x | _ => 0
theorem Ch.get {a : Addr} {A : Cell} {U : State} (h : Ch a A U) {i : Nat} (hi : i < A.slots.size) : A.slots[i]? = some (.int (cv A i)) := by
  have e := Array.getElem?_eq_getElem hi
  have f := h.2 i _ e
  unfold cv; rw [e]
  generalize A.slots[i] = v at f
  cases v <;> simp [fits] at f ⊢
/-- the byte that i2b leaves of a char -/
def lo8 (x : Int32) : Int32 := x.toInt8.toInt32
theorem fits_lo8 (y : Int32) : fits .byte (.int (lo8 y)) = true := by
  have h1 := y.toInt8.le_toInt
  have h2 := y.toInt8.toInt_lt
  simp only [lo8, fits, Bool.and_eq_true, decide_eq_true_eq, Int32.le_iff_toInt_le, Int8.toInt_toInt32, show (-128 : Int32).toInt = -128 from by decide, show (127 : Int32).toInt = 127 from by decide]
  omega
/-- A' is A but that each place j of lo .. hi - 1 holds f j -/
def Laid (A A' : Cell) (lo hi : Nat) (f : Nat → Value) : Prop := A'.cls = A.cls ∧ A'.vm = A.vm ∧ A'.slots.size = A.slots.size ∧ ∀ i, A'.slots[i]? = if lo ≤ i ∧ i < hi then some (f i) else A.slots[i]?
theorem Laid.zero (A : Cell) (lo : Nat) (f : Nat → Value) : Laid A A lo (lo + 0) f := ⟨rfl, rfl, rfl, fun i => by rw [if_neg (by omega)]⟩
theorem Laid.step {A Ak : Cell} {lo k : Nat} {f : Nat → Value} {v : Value} (h : Laid A Ak lo k f) (hlo : lo ≤ k) (hk : k < Ak.slots.size) (hv : v = f k) : Laid A (Ak.setSlot k v) lo (k + 1) f := by
  refine ⟨h.1, h.2.1, by simpa [Cell.setSlot] using h.2.2.1, fun i => ?_⟩
  by_cases e : k = i
  · subst e; rw [Cell.slots_setSlot_self v hk, if_pos (by omega), hv]
  · rw [Cell.slots_setSlot_ne v e, h.2.2.2 i]
    by_cases q : lo ≤ i ∧ i < k
    · rw [if_pos q, if_pos (by omega)]
    · rw [if_neg q, if_neg (by omega)]
def U16 : String := "java/lang/StringUTF16"
namespace Cmp5
def yN : MethodName := ⟨"java/lang/StringUTF16", "compress", "([CI[BII)I"⟩
abbrev yB : ByteArray := jdk_52_method_21_code
theorem d0 : decode yB 0 = .ok (.iconst 0, 1) := by decide +kernel
theorem d1 : decode yB 1 = .ok (.istore 5, 2) := by decide +kernel
theorem d3 : decode yB 3 = .ok (.iload 5, 2) := by decide +kernel
theorem d5 : decode yB 5 = .ok (.iload 4, 2) := by decide +kernel
theorem d7 : decode yB 7 = .ok (.if_icmp (.ge) 37, 3) := by decide +kernel
theorem d10 : decode yB 10 = .ok (.aload_n 0, 1) := by decide +kernel
theorem d11 : decode yB 11 = .ok (.iload_n 1, 1) := by decide +kernel
theorem d12 : decode yB 12 = .ok (.caload, 1) := by decide +kernel
theorem d13 : decode yB 13 = .ok (.istore 6, 2) := by decide +kernel
theorem d15 : decode yB 15 = .ok (.iload 6, 2) := by decide +kernel
theorem d17 : decode yB 17 = .ok (.sipush 255, 3) := by decide +kernel
theorem d20 : decode yB 20 = .ok (.if_icmp (.le) 6, 3) := by decide +kernel
theorem d26 : decode yB 26 = .ok (.aload_n 2, 1) := by decide +kernel
theorem d27 : decode yB 27 = .ok (.iload_n 3, 1) := by decide +kernel
theorem d28 : decode yB 28 = .ok (.iload 6, 2) := by decide +kernel
theorem d30 : decode yB 30 = .ok (.i2b, 1) := by decide +kernel
theorem d31 : decode yB 31 = .ok (.bastore, 1) := by decide +kernel
theorem d32 : decode yB 32 = .ok (.iinc 1 1, 3) := by decide +kernel
theorem d35 : decode yB 35 = .ok (.iinc 3 1, 3) := by decide +kernel
theorem d38 : decode yB 38 = .ok (.iinc 5 1, 3) := by decide +kernel
theorem d41 : decode yB 41 = .ok (.goto (-38), 3) := by decide +kernel
theorem d44 : decode yB 44 = .ok (.iload 4, 2) := by decide +kernel
theorem d46 : decode yB 46 = .ok (.ireturn, 1) := by decide +kernel
def site : List Cond := []
def tab : Cond := tabOf yN yB 7 (some .int) site
def P (b : Addr) (A : Cell) (d : Addr) (B : Cell) (o q len : Nat) (args : Array Value) (s : State) : Prop := args = #[.ref b, .int (Int32.ofNat o), .ref d, .int (Int32.ofNat q), .int (Int32.ofNat len)] ∧ Ch b A s ∧ Arr .byte d B s ∧ b ≠ d ∧ o + len ≤ A.slots.size ∧ q + len ≤ B.slots.size ∧ ∀ i, i < len → ¬ 255 < cv A (o + i)
def E (b : Addr) (A : Cell) (d : Addr) (B : Cell) (o q len : Nat) (r : Option Value) (s u : State) : Prop := r = some (.int (Int32.ofNat len)) ∧ ∃ B', Put d B' s u ∧ Laid B B' q (q + len) (fun j => Value.int (lo8 (cv A (o + (j - q)))))
/-- no char of the range above 255: len; the places written hold each char's low byte -/
theorem law (l : Launch) (b : Addr) (A : Cell) (d : Addr) (B : Cell) (o q len : Nat) : Law l yN 5 5 0 0 yB 7 (some .int) site (P b A d B o q len) (E b A d B o q len) (copyLocs d q len) 0 0 := by
  refine Law.of_walk (plainFor_of_name (by decide +kernel)) (by decide +kernel) (by decide +kernel) (by decide) (fun _ _ h => by rw [h.1]; rfl) (fun _ U U' hal hh h => ⟨h.1, h.2.1.mv hal hh, h.2.2.1.mv hal hh, h.2.2.2⟩) (fun r U U' V V' h1 hal h2 h => ⟨h.1, h.2.elim fun B' q => ⟨B', q.1.mv h1 h2, q.2⟩⟩) ?_
  intro p e s m args below meth c s₁ X0 hexec hbytes hml hret hlk hnm hown hh0 W hP
  obtain ⟨rfl, hA, hB, hne, l1, l2, hp⟩ := hP
  have c1 : Steps p.tables e below (s₁.setTop (entryFrame m #[.ref b, .int (Int32.ofNat o), .ref d, .int (Int32.ofNat q), .int (Int32.ofNat len)] 7)) (s₁.setTop (mkF m 0 #[.val (.ref b), .val (.int (Int32.ofNat o)), .val (.ref d), .val (.int (Int32.ofNat q)), .val (.int (Int32.ofNat len)), .unset, .unset] [])) := entry rfl
  have hA0 := hA.1.mv X0.warmed.alike hh0
  have hB0 := hB.mv X0.warmed.alike hh0
  have a31 := hA.1.2.2.2
  have c2 : Steps p.tables e below (s₁.setTop (entryFrame m #[.ref b, .int (Int32.ofNat o), .ref d, .int (Int32.ofNat q), .int (Int32.ofNat len)] 7)) (s₁.setTop (mkF m 3 #[.val (.ref b), .val (.int (Int32.ofNat o)), .val (.ref d), .val (.int (Int32.ofNat q)), .val (.int (Int32.ofNat len)), .val (.int 0), .unset] [])) := c1.trans (by
    refine iconstV X0.here hexec rfl 0 (hb hbytes d0) (by decide) ?_
    refine XS.istore X0.here hexec rfl (hb hbytes d1) rfl rfl ?_
    exact Steps.refl _)
  have loop : ∀ (r i : Nat), i + r = len → ∀ (z : Slot), (z = .unset ∨ ∃ w, z = .val w ∧ w.category = 1) → ∀ (Tl : State) (Bk : Cell), Stand p l e { frames := 0, locals := 0, cells := 0, slots := 0 } s m #[.ref b, .int (Int32.ofNat o), .ref d, .int (Int32.ofNat q), .int (Int32.ofNat len)] below meth c Tl ([] ++ copyLocs d q i) 0 0 → Put d Bk s₁ Tl → Laid B Bk q (q + i) (fun j => Value.int (lo8 (cv A (o + (j - q))))) →
      Steps p.tables e below (s₁.setTop (entryFrame m #[.ref b, .int (Int32.ofNat o), .ref d, .int (Int32.ofNat q), .int (Int32.ofNat len)] 7)) (Tl.setTop (mkF m 3 #[.val (.ref b), .val (.int (Int32.ofNat (o + i))), .val (.ref d), .val (.int (Int32.ofNat (q + i))), .val (.int (Int32.ofNat len)), .val (.int (Int32.ofNat i)), z] [])) → ∃ (T' : State) (B' : Cell) (z' : Slot), Stand p l e { frames := 0, locals := 0, cells := 0, slots := 0 } s m #[.ref b, .int (Int32.ofNat o), .ref d, .int (Int32.ofNat q), .int (Int32.ofNat len)] below meth c T' ([] ++ copyLocs d q len) 0 0 ∧ Put d B' s₁ T' ∧ Laid B B' q (q + len) (fun j => Value.int (lo8 (cv A (o + (j - q))))) ∧
      Steps p.tables e below (s₁.setTop (entryFrame m #[.ref b, .int (Int32.ofNat o), .ref d, .int (Int32.ofNat q), .int (Int32.ofNat len)] 7)) (T'.setTop (mkF m 3 #[.val (.ref b), .val (.int (Int32.ofNat (o + len))), .val (.ref d), .val (.int (Int32.ofNat (q + len))), .val (.int (Int32.ofNat len)), .val (.int (Int32.ofNat len)), z'] [])) := by
    intro r
    induction r with
    | zero =>
      intro i hi z hz Tl Bk Xl pl fl cl
      have hil : i = len := by omega
      rw [hil] at Xl fl cl
      exact ⟨Tl, Bk, z, Xl, pl, fl, cl⟩
    | succ r ih =>
      intro i hi z hz Tl Bk Xl pl fl cl
      have all := X0.warmed.alike.symm.trans Xl.warmed.alike
      have hAl := hA0.keep all (pl.other hne hA0.1)
      have hBk := hB0.like all pl.1 fl.1 fl.2.1 fl.2.2.1
      have hlt : q + i < Bk.slots.size := by rw [fl.2.2.1]; omega
      have c3 : Steps p.tables e below (s₁.setTop (entryFrame m #[.ref b, .int (Int32.ofNat o), .ref d, .int (Int32.ofNat q), .int (Int32.ofNat len)] 7)) (Tl.setTop (mkF m 12 #[.val (.ref b), .val (.int (Int32.ofNat (o + i))), .val (.ref d), .val (.int (Int32.ofNat (q + i))), .val (.int (Int32.ofNat len)), .val (.int (Int32.ofNat i)), z] [.int (Int32.ofNat (o + i)), .ref b])) := cl.trans (by
        refine XS.iload Xl.here hexec rfl (hb hbytes d3) rfl ?_
        refine XS.iload Xl.here hexec rfl (hb hbytes d5) rfl ?_
        refine XS.icmpNo Xl.here hexec rfl (hb hbytes d7) rfl (ii_ge_f (lt32 (by omega) (by omega))) ?_
        refine XS.aloadN Xl.here hexec rfl (hb hbytes d10) rfl rfl ?_
        refine XS.iloadN Xl.here hexec rfl (hb hbytes d11) rfl ?_
        exact Steps.refl _)
      have c4 : Steps p.tables e below (s₁.setTop (entryFrame m #[.ref b, .int (Int32.ofNat o), .ref d, .int (Int32.ofNat q), .int (Int32.ofNat len)] 7)) (Tl.setTop (mkF m 13 #[.val (.ref b), .val (.int (Int32.ofNat (o + i))), .val (.ref d), .val (.int (Int32.ofNat (q + i))), .val (.int (Int32.ofNat len)), .val (.int (Int32.ofNat i)), z] [.int (cv A (o + i))])) := c3.trans (by
        refine Xl.aget hexec hAl rfl (hA.get (i := o + i) (by omega)) rfl rfl (hb hbytes d12) ?_
        exact Steps.refl _)
      have c5 : Steps p.tables e below (s₁.setTop (entryFrame m #[.ref b, .int (Int32.ofNat o), .ref d, .int (Int32.ofNat q), .int (Int32.ofNat len)] 7)) (Tl.setTop (mkF m 15 #[.val (.ref b), .val (.int (Int32.ofNat (o + i))), .val (.ref d), .val (.int (Int32.ofNat (q + i))), .val (.int (Int32.ofNat len)), .val (.int (Int32.ofNat i)), .val (.int (cv A (o + i)))] [])) := c4.trans (by
        refine XS.istoreS Xl.here hexec rfl (hb hbytes d13) rfl rfl hz ?_
        exact Steps.refl _)
      have c6 : Steps p.tables e below (s₁.setTop (entryFrame m #[.ref b, .int (Int32.ofNat o), .ref d, .int (Int32.ofNat q), .int (Int32.ofNat len)] 7)) (Tl.setTop (mkF m 31 #[.val (.ref b), .val (.int (Int32.ofNat (o + i))), .val (.ref d), .val (.int (Int32.ofNat (q + i))), .val (.int (Int32.ofNat len)), .val (.int (Int32.ofNat i)), .val (.int (cv A (o + i)))] [.int (lo8 (cv A (o + i))), .int (Int32.ofNat (q + i)), .ref d])) := c5.trans (by
        refine XS.iload Xl.here hexec rfl (hb hbytes d15) rfl ?_
        refine sipushV Xl.here hexec rfl 255 (hb hbytes d17) (by decide) ?_
        refine XS.icmpYes Xl.here hexec rfl (pc0 := 20) rfl (hb hbytes d20) rfl (ii_le_t (hp i (by omega))) (by decide) rfl ?_
        refine XS.aloadN Xl.here hexec rfl (hb hbytes d26) rfl rfl ?_
        refine XS.iloadN Xl.here hexec rfl (hb hbytes d27) rfl ?_
        refine XS.iload Xl.here hexec rfl (hb hbytes d28) rfl ?_
        refine i2b Xl.here hexec rfl (hb hbytes d30) rfl ?_
        exact Steps.refl _)
      obtain ⟨T7, X7, p7, st7⟩ := Xl.aput hexec hBk rfl hlt rfl (fits_lo8 (cv A (o + i))) (g := (mkF m 31 #[.val (.ref b), .val (.int (Int32.ofNat (o + i))), .val (.ref d), .val (.int (Int32.ofNat (q + i))), .val (.int (Int32.ofNat len)), .val (.int (Int32.ofNat i)), .val (.int (cv A (o + i)))] [.int (lo8 (cv A (o + i))), .int (Int32.ofNat (q + i)), .ref d])) rfl (rest := []) rfl (hb hbytes d31)
      have c8 : Steps p.tables e below (s₁.setTop (entryFrame m #[.ref b, .int (Int32.ofNat o), .ref d, .int (Int32.ofNat q), .int (Int32.ofNat len)] 7)) (T7.setTop (mkF m 32 #[.val (.ref b), .val (.int (Int32.ofNat (o + i))), .val (.ref d), .val (.int (Int32.ofNat (q + i))), .val (.int (Int32.ofNat len)), .val (.int (Int32.ofNat i)), .val (.int (cv A (o + i)))] [])) := c6.trans (st7 _ (Steps.refl _))
      have c9 : Steps p.tables e below (s₁.setTop (entryFrame m #[.ref b, .int (Int32.ofNat o), .ref d, .int (Int32.ofNat q), .int (Int32.ofNat len)] 7)) (T7.setTop (mkF m 3 #[.val (.ref b), .val (.int (Int32.ofNat (o + i) + 1)), .val (.ref d), .val (.int (Int32.ofNat (q + i) + 1)), .val (.int (Int32.ofNat len)), .val (.int (Int32.ofNat i + 1)), .val (.int (cv A (o + i)))] [])) := c8.trans (by
        refine iincV X7.here hexec rfl 1 (hb hbytes d32) (by decide) rfl rfl ?_
        refine iincV X7.here hexec rfl 1 (hb hbytes d35) (by decide) rfl rfl ?_
        refine iincV X7.here hexec rfl 1 (hb hbytes d38) (by decide) rfl rfl ?_
        refine XS.goto X7.here hexec rfl (pc0 := 41) rfl (hb hbytes d41) (by decide) rfl ?_
        exact Steps.refl _)
      have c10 : Steps p.tables e below (s₁.setTop (entryFrame m #[.ref b, .int (Int32.ofNat o), .ref d, .int (Int32.ofNat q), .int (Int32.ofNat len)] 7)) (T7.setTop (mkF m 3 #[.val (.ref b), .val (.int (Int32.ofNat (o + (i + 1)))), .val (.ref d), .val (.int (Int32.ofNat (q + (i + 1)))), .val (.int (Int32.ofNat len)), .val (.int (Int32.ofNat (i + 1))), .val (.int (cv A (o + i)))] [])) := by
        have := c9
        rw [succ32, succ32, succ32] at this
        exact this
      exact ih (i + 1) (by omega) _ (Or.inr ⟨_, rfl, rfl⟩) T7 _ (by rw [copyLocs_step, ← List.append_assoc]; exact X7) (pl.trans p7) (fl.step (by omega) hlt (by simp)) c10
  obtain ⟨T9, B9, z9, X9, p9, f9, g9⟩ := loop len 0 (by omega) .unset (Or.inl rfl) s₁ B (by simpa [copyLocs] using X0) ⟨hB0.1, fun _ _ => rfl, rfl⟩ (Laid.zero _ _ _) c2
  have c11 : Steps p.tables e below (s₁.setTop (entryFrame m #[.ref b, .int (Int32.ofNat o), .ref d, .int (Int32.ofNat q), .int (Int32.ofNat len)] 7)) (T9.setTop (mkF m 46 #[.val (.ref b), .val (.int (Int32.ofNat (o + len))), .val (.ref d), .val (.int (Int32.ofNat (q + len))), .val (.int (Int32.ofNat len)), .val (.int (Int32.ofNat len)), z9] [.int (Int32.ofNat len)])) := g9.trans (by
    refine XS.iload X9.here hexec rfl (hb hbytes d3) rfl ?_
    refine XS.iload X9.here hexec rfl (hb hbytes d5) rfl ?_
    refine XS.icmpYes X9.here hexec rfl (pc0 := 7) rfl (hb hbytes d7) rfl (ii_ge_t (nlt32 (by omega) (Nat.le_refl _))) (by decide) rfl ?_
    refine XS.iload X9.here hexec rfl (hb hbytes d44) rfl ?_
    exact Steps.refl _)
  exact ⟨T9, some (.int (Int32.ofNat len)), _, _, _, X9, by simp, rfl, rfl, (fun h => by cases h), ⟨rfl, B9, p9.from hh0, f9⟩, fun fs hl => c11.trans (X9.ireturnOut hexec hret rfl (Or.inl rfl) (hb hbytes d46) hl)⟩
end Cmp5
namespace Cmp3
def yN : MethodName := ⟨"java/lang/StringUTF16", "compress", "([CII)[B"⟩
abbrev yB : ByteArray := jdk_52_method_16_code
theorem d0 : decode yB 0 = .ok (.iload_n 2, 1) := by decide +kernel
theorem d1 : decode yB 1 = .ok (.newarray .byte, 2) := by decide +kernel
theorem d3 : decode yB 3 = .ok (.astore_n 3, 1) := by decide +kernel
theorem d4 : decode yB 4 = .ok (.aload_n 0, 1) := by decide +kernel
theorem d5 : decode yB 5 = .ok (.iload_n 1, 1) := by decide +kernel
theorem d6 : decode yB 6 = .ok (.aload_n 3, 1) := by decide +kernel
theorem d7 : decode yB 7 = .ok (.iconst 0, 1) := by decide +kernel
theorem d8 : decode yB 8 = .ok (.iload_n 2, 1) := by decide +kernel
theorem d9 : decode yB 9 = .ok (.invokestatic 115, 3) := by decide +kernel
theorem d12 : decode yB 12 = .ok (.istore 4, 2) := by decide +kernel
theorem d14 : decode yB 14 = .ok (.iload 4, 2) := by decide +kernel
theorem d16 : decode yB 16 = .ok (.iload_n 2, 1) := by decide +kernel
theorem d17 : decode yB 17 = .ok (.if_icmp (.eq) 40, 3) := by decide +kernel
theorem d57 : decode yB 57 = .ok (.aload_n 3, 1) := by decide +kernel
theorem d58 : decode yB 58 = .ok (.areturn, 1) := by decide +kernel
def site : List Cond := [.arrayClass .byte, Cmp5.tab] ++ staticW U16 115 Cmp5.yN
def tab : Cond := tabOf yN yB 6 (some (.array .byte)) site
def P (b : Addr) (A : Cell) (o len : Nat) (args : Array Value) (s : State) : Prop := args = #[.ref b, .int (Int32.ofNat o), .int (Int32.ofNat len)] ∧ Ch b A s ∧ o + len ≤ A.slots.size ∧ len ≤ 536870912 ∧ ∀ i, i < len → ¬ 255 < cv A (o + i)
def E (b : Addr) (A : Cell) (o len : Nat) (r : Option Value) (s u : State) : Prop := NewArr .byte "[B" len (fun j => .int (lo8 (cv A (o + j)))) r s u ∧ u.heap.size = s.heap.size + 1
/-- no char of the range above 255: a new byte[] of their low bytes -/
theorem law (l : Launch) (b : Addr) (A : Cell) (o len : Nat) : Law l yN 3 3 1 18 yB 6 (some (.array .byte)) site (P b A o len) (E b A o len) [] 1 len := by
  refine Law.of_walk (plainFor_of_name (by decide +kernel)) (by decide +kernel) (by decide +kernel) (by decide) (fun _ _ h => by rw [h.1]; rfl) (fun _ U U' hal hh h => ⟨h.1, h.2.1.mv hal hh, h.2.2⟩) (fun r U U' V V' h1 hal h2 h => ⟨NewArr.mv r U U' V V' h1 hal h2 h.1, by rw [h1, h2]; exact h.2⟩) ?_
  intro p e s m args below meth c s₁ X0 hexec hbytes hml hret hlk hnm hown hh0 W hP
  obtain ⟨rfl, hA, l1, l2, hp⟩ := hP
  have a31 := hA.1.2.2.2
  have c1 : Steps p.tables e below (s₁.setTop (entryFrame m #[.ref b, .int (Int32.ofNat o), .int (Int32.ofNat len)] 6)) (s₁.setTop (mkF m 0 #[.val (.ref b), .val (.int (Int32.ofNat o)), .val (.int (Int32.ofNat len)), .unset, .unset, .unset] [])) := entry rfl
  have c2 : Steps p.tables e below (s₁.setTop (entryFrame m #[.ref b, .int (Int32.ofNat o), .int (Int32.ofNat len)] 6)) (s₁.setTop (mkF m 1 #[.val (.ref b), .val (.int (Int32.ofNat o)), .val (.int (Int32.ofNat len)), .unset, .unset, .unset] [.int (Int32.ofNat len)])) := c1.trans (by
    refine XS.iloadN X0.here hexec rfl (hb hbytes d0) rfl ?_
    exact Steps.refl _)
  obtain ⟨T3, B3, X3, ba3, bs3, bv3, bh3, bf3, st3⟩ := X0.anew hexec (atype := .byte) (wk W (.arrayClass .byte)) rfl (by show len * 1 ≤ _; omega) (by omega) (g := (mkF m 1 #[.val (.ref b), .val (.int (Int32.ofNat o)), .val (.int (Int32.ofNat len)), .unset, .unset, .unset] [.int (Int32.ofNat len)])) rfl (hb hbytes d1) (rest := []) rfl (Nat.le_refl _) (by show 0 + len ≤ len; omega)
  rw [hh0] at ba3 st3
  have kp3 : XT.Kept s T3 := (XT.Kept.of_eq hh0).push bh3
  have hA3 := hA.keep X3.warmed.alike (kp3 _ _ hA.1.1)
  have hne : b ≠ s.heap.size := hA.1.ne
  have c4 : Steps p.tables e below (s₁.setTop (entryFrame m #[.ref b, .int (Int32.ofNat o), .int (Int32.ofNat len)] 6)) (T3.setTop (mkF m 3 #[.val (.ref b), .val (.int (Int32.ofNat o)), .val (.int (Int32.ofNat len)), .unset, .unset, .unset] [.ref s.heap.size])) := c2.trans (st3 _ (Steps.refl _))
  have c5 : Steps p.tables e below (s₁.setTop (entryFrame m #[.ref b, .int (Int32.ofNat o), .int (Int32.ofNat len)] 6)) (T3.setTop (mkF m 9 #[.val (.ref b), .val (.int (Int32.ofNat o)), .val (.int (Int32.ofNat len)), .val (.ref s.heap.size), .unset, .unset] [.int (Int32.ofNat len), .int 0, .ref s.heap.size, .int (Int32.ofNat o), .ref b])) := c4.trans (by
    refine XS.astoreN X3.here hexec rfl (hb hbytes d3) rfl rfl rfl ?_
    refine XS.aloadN X3.here hexec rfl (hb hbytes d4) rfl rfl ?_
    refine XS.iloadN X3.here hexec rfl (hb hbytes d5) rfl ?_
    refine XS.aloadN X3.here hexec rfl (hb hbytes d6) rfl rfl ?_
    refine iconstV X3.here hexec rfl 0 (hb hbytes d7) (by decide) ?_
    refine XS.iloadN X3.here hexec rfl (hb hbytes d8) rfl ?_
    exact Steps.refl _)
  obtain ⟨v6, T6, X6, E6, g6⟩ := X3.callS hexec (Cmp5.law l b A s.heap.size B3 o 0 len) hown (wks W (staticW U16 115 Cmp5.yN)) (wk W Cmp5.tab) (W := 0) (Nat.le_of_ble_eq_true rfl) (Nat.le_of_ble_eq_true rfl) (Nat.le_refl _) (by show 0 + len + 0 ≤ len; omega) (g := (mkF m 9 #[.val (.ref b), .val (.int (Int32.ofNat o)), .val (.int (Int32.ofNat len)), .val (.ref s.heap.size), .unset, .unset] [.int (Int32.ofNat len), .int (Int32.ofNat 0), .ref s.heap.size, .int (Int32.ofNat o), .ref b])) rfl (by rw [hml]; rfl) c5 (argsL := [.ref b, .int (Int32.ofNat o), .ref s.heap.size, .int (Int32.ofNat 0), .int (Int32.ofNat len)]) (rest := []) rfl rfl (by show 2 * 0 + 0 ≤ _; decide) (hb hbytes d9) (⟨rfl, hA3, ba3, hne, l1, by rw [bs3]; simp, hp⟩)
  obtain ⟨rfl, B6, p6, f6⟩ := E6
  have c7 : Steps p.tables e below (s₁.setTop (entryFrame m #[.ref b, .int (Int32.ofNat o), .int (Int32.ofNat len)] 6)) (T6.setTop (mkF m 12 #[.val (.ref b), .val (.int (Int32.ofNat o)), .val (.int (Int32.ofNat len)), .val (.ref s.heap.size), .unset, .unset] [.int (Int32.ofNat len)])) := g6
  have c8 : Steps p.tables e below (s₁.setTop (entryFrame m #[.ref b, .int (Int32.ofNat o), .int (Int32.ofNat len)] 6)) (T6.setTop (mkF m 58 #[.val (.ref b), .val (.int (Int32.ofNat o)), .val (.int (Int32.ofNat len)), .val (.ref s.heap.size), .val (.int (Int32.ofNat len)), .unset] [.ref s.heap.size])) := c7.trans (by
    refine XS.istore X6.here hexec rfl (hb hbytes d12) rfl rfl ?_
    refine XS.iload X6.here hexec rfl (hb hbytes d14) rfl ?_
    refine XS.iloadN X6.here hexec rfl (hb hbytes d16) rfl ?_
    refine XS.icmpYes X6.here hexec rfl (pc0 := 17) rfl (hb hbytes d17) rfl (ii_eq_t rfl) (by decide) rfl ?_
    refine XS.aloadN X6.here hexec rfl (hb hbytes d57) rfl rfl ?_
    exact Steps.refl _)
  have X8 := X6.wide (L' := []) (cells' := 1) (slots' := len) (fun x hx hlt => by
    simp only [List.nil_append, copyLocs, List.mem_map, List.mem_range] at hx
    obtain ⟨i, -, rfl⟩ := hx
    exact absurd hlt (Nat.lt_irrefl _)) (Nat.le_refl _) (by omega)
  exact ⟨T6, some (.ref s.heap.size), _, _, _, X8, rfl, rfl, rfl, (fun h => by cases h), ⟨⟨rfl, B6, ba3.like (X3.warmed.alike.symm.trans X6.warmed.alike) p6.1 f6.1 f6.2.1 f6.2.2.1, f6.2.1.trans bv3, by rw [X6.warmed.alike.findClass, f6.1]; exact bf3, by rw [f6.2.2.1, bs3]; simp, fun j hj => by rw [f6.2.2.2 j, if_pos (by omega)]; rfl, kp3.put p6 (Nat.le_refl _)⟩, by rw [p6.2.2, bh3, hh0]; simp⟩, fun fs hl => c8.trans (X8.areturnOut hexec rfl hret rfl (hb hbytes d58) hl)⟩
end Cmp3
namespace CodL
def yN : MethodName := ⟨"java/lang/StringUTF16", "coderFromArrayLen", "([BI)B"⟩
abbrev yB : ByteArray := jdk_52_method_15_code
theorem d0 : decode yB 0 = .ok (.iload_n 1, 1) := by decide +kernel
theorem d1 : decode yB 1 = .ok (.aload_n 0, 1) := by decide +kernel
theorem d2 : decode yB 2 = .ok (.arraylength, 1) := by decide +kernel
theorem d3 : decode yB 3 = .ok (.isub, 1) := by decide +kernel
theorem d4 : decode yB 4 = .ok (.bipush 31, 2) := by decide +kernel
theorem d6 : decode yB 6 = .ok (.iushr, 1) := by decide +kernel
theorem d7 : decode yB 7 = .ok (.i2b, 1) := by decide +kernel
theorem d8 : decode yB 8 = .ok (.ireturn, 1) := by decide +kernel
def site : List Cond := []
def tab : Cond := tabOf yN yB 2 (some .byte) site
def P (d : Addr) (B : Cell) (args : Array Value) (s : State) : Prop := args = #[.ref d, .int (Int32.ofNat B.slots.size)] ∧ Arr .byte d B s
def E (r : Option Value) (s u : State) : Prop := XT.PureE (some (.int 0)) r s u
/-- an array as long as the number of chars: LATIN1 -/
theorem law (l : Launch) (d : Addr) (B : Cell) : Law l yN 2 2 0 0 yB 2 (some .byte) site (P d B) E [] 0 0 := by
  refine Law.of_walk (plainFor_of_name (by decide +kernel)) (by decide +kernel) (by decide +kernel) (by decide) (fun _ _ h => by rw [h.1]; rfl) (fun _ U U' hal hh h => ⟨h.1, h.2.mv hal hh⟩) (fun r U U' V V' h1 hal h2 h => XT.PureE.mv r U U' V V' h1 hal h2 h) ?_
  intro p e s m args below meth c s₁ X0 hexec hbytes hml hret hlk hnm hown hh0 W hP
  obtain ⟨rfl, hB⟩ := hP
  have hB0 := hB.mv X0.warmed.alike hh0
  have c1 : Steps p.tables e below (s₁.setTop (entryFrame m #[.ref d, .int (Int32.ofNat B.slots.size)] 2)) (s₁.setTop (mkF m 0 #[.val (.ref d), .val (.int (Int32.ofNat B.slots.size))] [])) := entry rfl
  have c2 : Steps p.tables e below (s₁.setTop (entryFrame m #[.ref d, .int (Int32.ofNat B.slots.size)] 2)) (s₁.setTop (mkF m 2 #[.val (.ref d), .val (.int (Int32.ofNat B.slots.size))] [.ref d, .int (Int32.ofNat B.slots.size)])) := c1.trans (by
    refine XS.iloadN X0.here hexec rfl (hb hbytes d0) rfl ?_
    refine XS.aloadN X0.here hexec rfl (hb hbytes d1) rfl rfl ?_
    exact Steps.refl _)
  have c3 : Steps p.tables e below (s₁.setTop (entryFrame m #[.ref d, .int (Int32.ofNat B.slots.size)] 2)) (s₁.setTop (mkF m 8 #[.val (.ref d), .val (.int (Int32.ofNat B.slots.size))] [.int (lo8 (ushr (Int32.ofNat B.slots.size - Int32.ofNat B.slots.size) 31))])) := c2.trans (by
    refine X0.alen hexec hB0 rfl rfl (hb hbytes d2) ?_
    refine XS.isub X0.here hexec rfl (hb hbytes d3) rfl ?_
    refine bipushV X0.here hexec rfl 31 (hb hbytes d4) (by decide) ?_
    refine iushr X0.here hexec rfl (hb hbytes d6) rfl ?_
    refine i2b X0.here hexec rfl (hb hbytes d7) rfl ?_
    exact Steps.refl _)
  have e0 : lo8 (ushr (Int32.ofNat B.slots.size - Int32.ofNat B.slots.size) 31) = 0 := by rw [Int32.sub_self]; decide
  rw [e0] at c3
  exact ⟨s₁, some (.int 0), _, _, _, X0, rfl, rfl, rfl, (fun h => by cases h), ⟨rfl, hh0⟩, fun fs hl => c3.trans (X0.ireturnOut hexec hret rfl (Or.inr (Or.inr (Or.inl rfl))) (hb hbytes d8) hl)⟩
end CodL
/-- the String at a is Latin-1 over a new byte[] (the heap's one new cell): the low bytes of the len chars of A from o on; every cell but a is kept -/
def Got (a : Addr) (D : Cell) (fV fC : Field) (A : Cell) (o len : Nat) (r : Option Value) (s u : State) : Prop := r = none ∧ ∃ D' V : Cell, Blank "java/lang/String" a D' u ∧ Same D D' [fV.slot, fC.slot] ∧ D'.slots[fV.slot]? = some (.ref s.heap.size) ∧ D'.slots[fC.slot]? = some (.int 0) ∧ Arr .byte s.heap.size V u ∧ V.vm = .none ∧ u.vm.findClass "[B" = some V.cls ∧ V.slots.size = len ∧ (∀ j, j < len → V.slots[j]? = some (.int (lo8 (cv A (o + j))))) ∧ (∀ (y : Addr) (c : Cell), y ≠ a → s.heap[y]? = some c → u.heap[y]? = some c) ∧ u.heap.size = s.heap.size + 1
theorem Got.mv {a : Addr} {D A : Cell} {fV fC : Field} {o len : Nat} : ∀ r (U U' V V' : State), U'.heap = U.heap → V.vm.Alike V'.vm → V'.heap = V.heap → Got a D fV fC A o len r U V → Got a D fV fC A o len r U' V' :=
  fun r U U' V V' h1 hal h2 ⟨e0, D', X, a1, a2, a3, a4, a5, a6, a7, a8, a9, a10, a11⟩ => ⟨e0, D', X, a1.mv hal h2, a2, by rw [h1]; exact a3, a4, by rw [h1]; exact a5.mv hal h2, a6, by rw [hal.findClass]; exact a7, a8, a9, by rw [h1, h2]; exact a10, by rw [h1, h2]; exact a11⟩
namespace New4
def yN : MethodName := ⟨"java/lang/String", "<init>", "([CIILjava/lang/Void;)V"⟩
abbrev yB : ByteArray := jdk_42_method_149_code
theorem d0 : decode yB 0 = .ok (.aload_n 0, 1) := by decide +kernel
theorem d1 : decode yB 1 = .ok (.invokespecial 1, 3) := by decide +kernel
theorem d4 : decode yB 4 = .ok (.iload_n 3, 1) := by decide +kernel
theorem d5 : decode yB 5 = .ok (.ifCond (.ne) 22, 3) := by decide +kernel
theorem d27 : decode yB 27 = .ok (.getstatic 38, 3) := by decide +kernel
theorem d30 : decode yB 30 = .ok (.ifCond (.eq) 28, 3) := by decide +kernel
theorem d33 : decode yB 33 = .ok (.aload_n 1, 1) := by decide +kernel
theorem d34 : decode yB 34 = .ok (.iload_n 2, 1) := by decide +kernel
theorem d35 : decode yB 35 = .ok (.iload_n 3, 1) := by decide +kernel
theorem d36 : decode yB 36 = .ok (.invokestatic 177, 3) := by decide +kernel
theorem d39 : decode yB 39 = .ok (.astore 5, 2) := by decide +kernel
theorem d41 : decode yB 41 = .ok (.aload_n 0, 1) := by decide +kernel
theorem d42 : decode yB 42 = .ok (.aload 5, 2) := by decide +kernel
theorem d44 : decode yB 44 = .ok (.iload_n 3, 1) := by decide +kernel
theorem d45 : decode yB 45 = .ok (.invokestatic 47, 3) := by decide +kernel
theorem d48 : decode yB 48 = .ok (.putfield 15, 3) := by decide +kernel
theorem d51 : decode yB 51 = .ok (.aload_n 0, 1) := by decide +kernel
theorem d52 : decode yB 52 = .ok (.aload 5, 2) := by decide +kernel
theorem d54 : decode yB 54 = .ok (.putfield 9, 3) := by decide +kernel
theorem d57 : decode yB 57 = .ok (.return_, 1) := by decide +kernel
def site : List Cond := [.fieldLink "java/lang/String" 38 "java/lang/String" "COMPACT_STRINGS" "Z", Cmp3.tab, CodL.tab, .laysFinal "java/lang/String" "java/lang/String" "value" "[B", .fieldLink "java/lang/String" 9 "java/lang/String" "value" "[B", .laysFinal "java/lang/String" "java/lang/String" "coder" "B", .fieldLink "java/lang/String" 15 "java/lang/String" "coder" "B"] ++ objW "java/lang/String" 1 ++ staticW "java/lang/String" 177 Cmp3.yN ++ staticW "java/lang/String" 47 CodL.yN
def tab : Cond := tabOf yN yB 6 none site
def P (a : Addr) (D : Cell) (fV fC : Field) (b : Addr) (A : Cell) (z : Int32) (o len : Nat) (args : Array Value) (s : State) : Prop := args = #[.ref a, .ref b, .int (Int32.ofNat o), .int (Int32.ofNat len), .null] ∧ Blank "java/lang/String" a D s ∧ Found "java/lang/String" "value" "[B" fV s ∧ Found "java/lang/String" "coder" "B" fC s ∧ Ch b A s ∧ StaticIs s "java/lang/String" "COMPACT_STRINGS" "Z" (.int z) ∧ ¬ z = 0 ∧ 0 < len ∧ o + len ≤ A.slots.size ∧ len ≤ 536870912 ∧ ∀ i, i < len → ¬ 255 < cv A (o + i)
def E (a : Addr) (D : Cell) (fV fC : Field) (A : Cell) (o len : Nat) (r : Option Value) (s u : State) : Prop := Got a D fV fC A o len r s u
/-- len > 0, no char of the range above 255: a Latin-1 String of their low bytes -/
theorem law (l : Launch) (a : Addr) (D : Cell) (fV fC : Field) (b : Addr) (A : Cell) (z : Int32) (o len : Nat) : Law l yN 5 4 2 35 yB 6 none site (P a D fV fC b A z o len) (E a D fV fC A o len) [⟨a, fC.slot⟩, ⟨a, fV.slot⟩] 1 len := by
  refine Law.of_walk (plainFor_of_name (by decide +kernel)) (by decide +kernel) (by decide +kernel) (by decide) (fun _ _ h => by rw [h.1]; rfl) (fun _ U U' hal hh h => ⟨h.1, h.2.1.mv hal hh, h.2.2.1.al hal, h.2.2.2.1.al hal, h.2.2.2.2.1.mv hal hh, h.2.2.2.2.2.1.there hal hh, h.2.2.2.2.2.2⟩) (fun r U U' V V' h1 hal h2 h => Got.mv r U U' V V' h1 hal h2 h) ?_
  intro p e s m args below meth c s₁ X0 hexec hbytes hml hret hlk hnm hown hh0 W hP
  obtain ⟨rfl, hB, f1, f2, hA, s1, hz, l0, l1, l2, hp⟩ := hP
  have a31 := hA.1.2.2.2
  have c1 : Steps p.tables e below (s₁.setTop (entryFrame m #[.ref a, .ref b, .int (Int32.ofNat o), .int (Int32.ofNat len), .null] 6)) (s₁.setTop (mkF m 0 #[.val (.ref a), .val (.ref b), .val (.int (Int32.ofNat o)), .val (.int (Int32.ofNat len)), .val .null, .unset] [])) := entry rfl
  have c2 : Steps p.tables e below (s₁.setTop (entryFrame m #[.ref a, .ref b, .int (Int32.ofNat o), .int (Int32.ofNat len), .null] 6)) (s₁.setTop (mkF m 1 #[.val (.ref a), .val (.ref b), .val (.int (Int32.ofNat o)), .val (.int (Int32.ofNat len)), .val .null, .unset] [.ref a])) := c1.trans (by
    refine XS.aloadN X0.here hexec rfl (hb hbytes d0) rfl rfl ?_
    exact Steps.refl _)
  obtain ⟨T3, X3, q3, st3⟩ := X0.oinit hexec hown (wks W (objW "java/lang/String" 1)) (g := (mkF m 1 #[.val (.ref a), .val (.ref b), .val (.int (Int32.ofNat o)), .val (.int (Int32.ofNat len)), .val .null, .unset] [.ref a])) rfl (by rw [hml]; rfl) (rest := []) rfl (hb hbytes d1) (W := 0) (by show 2 * 0 + 0 ≤ _; decide) (Nat.le_of_ble_eq_true rfl) (Nat.le_of_ble_eq_true rfl)
  have hh3 := q3.trans hh0
  have c4 : Steps p.tables e below (s₁.setTop (entryFrame m #[.ref a, .ref b, .int (Int32.ofNat o), .int (Int32.ofNat len), .null] 6)) (T3.setTop (mkF m 27 #[.val (.ref a), .val (.ref b), .val (.int (Int32.ofNat o)), .val (.int (Int32.ofNat len)), .val .null, .unset] [])) := (c2.trans (st3 _ (Steps.refl _))).trans (by
    refine XS.iloadN X3.here hexec rfl (hb hbytes d4) rfl ?_
    refine XS.ifYes X3.here hexec rfl (pc0 := 5) rfl (hb hbytes d5) rfl (i0_ne_t (nz32 (by omega) l0)) (by decide) rfl ?_
    exact Steps.refl _)
  obtain ⟨T5, X5, q5, st5⟩ := X3.sget hexec hown (wk W (.fieldLink "java/lang/String" 38 "java/lang/String" "COMPACT_STRINGS" "Z")) s1 (fun _ _ h => by rw [hh3]; exact h) (g := (mkF m 27 #[.val (.ref a), .val (.ref b), .val (.int (Int32.ofNat o)), .val (.int (Int32.ofNat len)), .val .null, .unset] [])) rfl (hb hbytes d27)
  have hh5 := q5.trans hh3
  have c6 : Steps p.tables e below (s₁.setTop (entryFrame m #[.ref a, .ref b, .int (Int32.ofNat o), .int (Int32.ofNat len), .null] 6)) (T5.setTop (mkF m 30 #[.val (.ref a), .val (.ref b), .val (.int (Int32.ofNat o)), .val (.int (Int32.ofNat len)), .val .null, .unset] [.int z])) := c4.trans (st5 _ (Steps.refl _))
  have c7 : Steps p.tables e below (s₁.setTop (entryFrame m #[.ref a, .ref b, .int (Int32.ofNat o), .int (Int32.ofNat len), .null] 6)) (T5.setTop (mkF m 36 #[.val (.ref a), .val (.ref b), .val (.int (Int32.ofNat o)), .val (.int (Int32.ofNat len)), .val .null, .unset] [.int (Int32.ofNat len), .int (Int32.ofNat o), .ref b])) := c6.trans (by
    refine XS.ifNo X5.here hexec rfl (hb hbytes d30) rfl (i0_eq_f hz) ?_
    refine XS.aloadN X5.here hexec rfl (hb hbytes d33) rfl rfl ?_
    refine XS.iloadN X5.here hexec rfl (hb hbytes d34) rfl ?_
    refine XS.iloadN X5.here hexec rfl (hb hbytes d35) rfl ?_
    exact Steps.refl _)
  obtain ⟨v8, T8, X8, E8, g8⟩ := X5.callS hexec (Cmp3.law l b A o len) hown (wks W (staticW "java/lang/String" 177 Cmp3.yN)) (wk W Cmp3.tab) (W := 0) (Nat.le_of_ble_eq_true rfl) (Nat.le_of_ble_eq_true rfl) (Nat.le_refl _) (by show 0 + len ≤ len; omega) (g := (mkF m 36 #[.val (.ref a), .val (.ref b), .val (.int (Int32.ofNat o)), .val (.int (Int32.ofNat len)), .val .null, .unset] [.int (Int32.ofNat len), .int (Int32.ofNat o), .ref b])) rfl (by rw [hml]; rfl) c7 (argsL := [.ref b, .int (Int32.ofNat o), .int (Int32.ofNat len)]) (rest := []) rfl rfl (by show 2 * 0 + 0 ≤ _; decide) (hb hbytes d36) (⟨rfl, hA.mv X5.warmed.alike hh5, l1, l2, hp⟩)
  obtain ⟨e8, z8⟩ := E8
  obtain ⟨rfl, N, n1, n2, n3, n4, n5, n6⟩ := NewArr.mv _ T5 s _ _ hh5.symm (Vm.Alike.refl _) rfl e8
  rw [hh5] at z8
  have hB1 := hB.keep X8.warmed.alike (n6 _ _ hB.1)
  have hne : s.heap.size ≠ a := (Nat.ne_of_lt (Array.getElem?_eq_some_iff.mp hB.1).1).symm
  have c9 : Steps p.tables e below (s₁.setTop (entryFrame m #[.ref a, .ref b, .int (Int32.ofNat o), .int (Int32.ofNat len), .null] 6)) (T8.setTop (mkF m 39 #[.val (.ref a), .val (.ref b), .val (.int (Int32.ofNat o)), .val (.int (Int32.ofNat len)), .val .null, .unset] [.ref s.heap.size])) := g8
  have c10 : Steps p.tables e below (s₁.setTop (entryFrame m #[.ref a, .ref b, .int (Int32.ofNat o), .int (Int32.ofNat len), .null] 6)) (T8.setTop (mkF m 45 #[.val (.ref a), .val (.ref b), .val (.int (Int32.ofNat o)), .val (.int (Int32.ofNat len)), .val .null, .val (.ref s.heap.size)] [.int (Int32.ofNat N.slots.size), .ref s.heap.size, .ref a])) := by
    have hc : Steps p.tables e below (s₁.setTop (entryFrame m #[.ref a, .ref b, .int (Int32.ofNat o), .int (Int32.ofNat len), .null] 6)) (T8.setTop (mkF m 45 #[.val (.ref a), .val (.ref b), .val (.int (Int32.ofNat o)), .val (.int (Int32.ofNat len)), .val .null, .val (.ref s.heap.size)] [.int (Int32.ofNat len), .ref s.heap.size, .ref a])) := c9.trans (by
      refine XS.astore X8.here hexec rfl (hb hbytes d39) rfl rfl rfl ?_
      refine XS.aloadN X8.here hexec rfl (hb hbytes d41) rfl rfl ?_
      refine XS.aload X8.here hexec rfl (hb hbytes d42) rfl rfl ?_
      refine XS.iloadN X8.here hexec rfl (hb hbytes d44) rfl ?_
      exact Steps.refl _)
    rw [n4]; exact hc
  obtain ⟨v11, T11, X11, E11, g11⟩ := X8.callS hexec (CodL.law l s.heap.size N) hown (wks W (staticW "java/lang/String" 47 CodL.yN)) (wk W CodL.tab) (W := 1) (Nat.le_of_ble_eq_true rfl) (Nat.le_of_ble_eq_true rfl) (Nat.le_refl _) (by show 0 + len + 0 ≤ len; omega) (g := (mkF m 45 #[.val (.ref a), .val (.ref b), .val (.int (Int32.ofNat o)), .val (.int (Int32.ofNat len)), .val .null, .val (.ref s.heap.size)] [.int (Int32.ofNat N.slots.size), .ref s.heap.size, .ref a])) rfl (by rw [hml]; rfl) c10 (argsL := [.ref s.heap.size, .int (Int32.ofNat N.slots.size)]) (rest := [.ref a]) rfl rfl (by show 2 * 0 + (1 + 0) ≤ _; decide) (hb hbytes d45) (⟨rfl, n1⟩)
  obtain ⟨rfl, q11⟩ := E11
  have hB11 := hB1.mv (X8.warmed.alike.symm.trans X11.warmed.alike) q11
  have c12 : Steps p.tables e below (s₁.setTop (entryFrame m #[.ref a, .ref b, .int (Int32.ofNat o), .int (Int32.ofNat len), .null] 6)) (T11.setTop (mkF m 48 #[.val (.ref a), .val (.ref b), .val (.int (Int32.ofNat o)), .val (.int (Int32.ofNat len)), .val .null, .val (.ref s.heap.size)] [.int 0, .ref a])) := g11
  obtain ⟨T13, X13, p13, bl13, sl13, st13⟩ := X11.finit hexec hown (wk W (.fieldLink "java/lang/String" 15 "java/lang/String" "coder" "B")) (Or.inr ⟨_, (wk W (.laysFinal "java/lang/String" "java/lang/String" "coder" "B"))⟩) (Or.inl ⟨rfl, hnm⟩) f2 (Or.inl rfl) hB11 (t := .byte) (by decide +kernel) rfl (g := (mkF m 48 #[.val (.ref a), .val (.ref b), .val (.int (Int32.ofNat o)), .val (.int (Int32.ofNat len)), .val .null, .val (.ref s.heap.size)] [.int 0, .ref a])) rfl (rest := []) rfl (hb hbytes d48)
  have c14 : Steps p.tables e below (s₁.setTop (entryFrame m #[.ref a, .ref b, .int (Int32.ofNat o), .int (Int32.ofNat len), .null] 6)) (T13.setTop (mkF m 54 #[.val (.ref a), .val (.ref b), .val (.int (Int32.ofNat o)), .val (.int (Int32.ofNat len)), .val .null, .val (.ref s.heap.size)] [.ref s.heap.size, .ref a])) := (c12.trans (st13 _ (Steps.refl _))).trans (by
    refine XS.aloadN X13.here hexec rfl (hb hbytes d51) rfl rfl ?_
    refine XS.aload X13.here hexec rfl (hb hbytes d52) rfl rfl ?_
    exact Steps.refl _)
  obtain ⟨T15, X15, p15, bl15, sl15, st15⟩ := X13.finit hexec hown (wk W (.fieldLink "java/lang/String" 9 "java/lang/String" "value" "[B")) (Or.inr ⟨_, (wk W (.laysFinal "java/lang/String" "java/lang/String" "value" "[B"))⟩) (Or.inl ⟨rfl, hnm⟩) f1 (Or.inl rfl) bl13 (t := (.array .byte)) (by decide +kernel) rfl (g := (mkF m 54 #[.val (.ref a), .val (.ref b), .val (.int (Int32.ofNat o)), .val (.int (Int32.ofNat len)), .val .null, .val (.ref s.heap.size)] [.ref s.heap.size, .ref a])) rfl (rest := []) rfl (hb hbytes d54)
  have c16 : Steps p.tables e below (s₁.setTop (entryFrame m #[.ref a, .ref b, .int (Int32.ofNat o), .int (Int32.ofNat len), .null] 6)) (T15.setTop (mkF m 57 #[.val (.ref a), .val (.ref b), .val (.int (Int32.ofNat o)), .val (.int (Int32.ofNat len)), .val .null, .val (.ref s.heap.size)] [])) := c14.trans (st15 _ (Steps.refl _))
  have ap := apart (Or.inr ⟨_, (wk W (.laysFinal "java/lang/String" "java/lang/String" "value" "[B"))⟩) (Or.inr ⟨_, (wk W (.laysFinal "java/lang/String" "java/lang/String" "coder" "B"))⟩) f1 f2 (t₁ := .array .byte) (t₂ := .byte) (by decide +kernel) (by decide +kernel) (by decide)
  have al := X8.warmed.alike.symm.trans X15.warmed.alike
  have n7 : T11.heap[s.heap.size]? = some N := by rw [q11]; exact n1.1
  exact ⟨T15, none, _, _, _, X15, by simp, rfl, by omega, (fun _ => rfl), ⟨rfl, _, N, bl15, ((Same.refl D _).set _ (by simp)).set _ (by simp), sl15, (Cell.slots_setSlot_ne _ ap).trans sl13, n1.keep al (p15.other hne (p13.other hne n7)), n2, by rw [al.findClass]; exact n3, n4, n5, fun y c h1 h2 => p15.other h1 (p13.other h1 (by rw [q11]; exact n6 y c h2)), by rw [p15.2.2, p13.2.2, q11]; exact z8⟩, fun fs hl => c16.trans (X15.returnOut hexec hret (hb hbytes d57) hl)⟩
end New4
namespace New1
def yN : MethodName := ⟨"java/lang/String", "<init>", "([C)V"⟩
abbrev yB : ByteArray := jdk_42_method_3_code
theorem d0 : decode yB 0 = .ok (.aload_n 0, 1) := by decide +kernel
theorem d1 : decode yB 1 = .ok (.aload_n 1, 1) := by decide +kernel
theorem d2 : decode yB 2 = .ok (.iconst 0, 1) := by decide +kernel
theorem d3 : decode yB 3 = .ok (.aload_n 1, 1) := by decide +kernel
theorem d4 : decode yB 4 = .ok (.arraylength, 1) := by decide +kernel
theorem d5 : decode yB 5 = .ok (.aconst_null, 1) := by decide +kernel
theorem d6 : decode yB 6 = .ok (.invokespecial 27, 3) := by decide +kernel
theorem d9 : decode yB 9 = .ok (.return_, 1) := by decide +kernel
def site : List Cond := [New4.tab] ++ initW "java/lang/String" 27 New4.yN
def tab : Cond := tabOf yN yB 2 none site
def P (a : Addr) (D : Cell) (fV fC : Field) (b : Addr) (A : Cell) (z : Int32) (args : Array Value) (s : State) : Prop := args = #[.ref a, .ref b] ∧ Blank "java/lang/String" a D s ∧ Found "java/lang/String" "value" "[B" fV s ∧ Found "java/lang/String" "coder" "B" fC s ∧ Ch b A s ∧ StaticIs s "java/lang/String" "COMPACT_STRINGS" "Z" (.int z) ∧ ¬ z = 0 ∧ 0 < A.slots.size ∧ A.slots.size ≤ 536870912 ∧ ∀ i, i < A.slots.size → ¬ 255 < cv A i
def E (a : Addr) (D : Cell) (fV fC : Field) (A : Cell) (r : Option Value) (s u : State) : Prop := Got a D fV fC A 0 A.slots.size r s u
/-- new String(chars), not empty, no char above 255: a Latin-1 String of their low bytes -/
theorem law (l : Launch) (a : Addr) (D : Cell) (fV fC : Field) (b : Addr) (A : Cell) (z : Int32) : Law l yN 2 1 3 52 yB 2 none site (P a D fV fC b A z) (E a D fV fC A) [⟨a, fC.slot⟩, ⟨a, fV.slot⟩] 1 A.slots.size := by
  refine Law.of_walk (plainFor_of_name (by decide +kernel)) (by decide +kernel) (by decide +kernel) (by decide) (fun _ _ h => by rw [h.1]; rfl) (fun _ U U' hal hh h => ⟨h.1, h.2.1.mv hal hh, h.2.2.1.al hal, h.2.2.2.1.al hal, h.2.2.2.2.1.mv hal hh, h.2.2.2.2.2.1.there hal hh, h.2.2.2.2.2.2⟩) (fun r U U' V V' h1 hal h2 h => Got.mv r U U' V V' h1 hal h2 h) ?_
  intro p e s m args below meth c s₁ X0 hexec hbytes hml hret hlk hnm hown hh0 W hP
  obtain ⟨rfl, hB, f1, f2, hA, s1, hz, l0, l2, hp⟩ := hP
  have c1 : Steps p.tables e below (s₁.setTop (entryFrame m #[.ref a, .ref b] 2)) (s₁.setTop (mkF m 0 #[.val (.ref a), .val (.ref b)] [])) := entry rfl
  have c2 : Steps p.tables e below (s₁.setTop (entryFrame m #[.ref a, .ref b] 2)) (s₁.setTop (mkF m 6 #[.val (.ref a), .val (.ref b)] [.null, .int (Int32.ofNat A.slots.size), .int 0, .ref b, .ref a])) := c1.trans (by
    refine XS.aloadN X0.here hexec rfl (hb hbytes d0) rfl rfl ?_
    refine XS.aloadN X0.here hexec rfl (hb hbytes d1) rfl rfl ?_
    refine iconstV X0.here hexec rfl 0 (hb hbytes d2) (by decide) ?_
    refine XS.aloadN X0.here hexec rfl (hb hbytes d3) rfl rfl ?_
    refine X0.alen hexec (hA.1.mv X0.warmed.alike hh0) rfl rfl (hb hbytes d4) ?_
    refine XS.aconstNull X0.here hexec rfl (hb hbytes d5) ?_
    exact Steps.refl _)
  obtain ⟨v3, T3, X3, E3, g3⟩ := X0.callN hexec (New4.law l a D fV fC b A z 0 A.slots.size) rfl hown (wks W (initW "java/lang/String" 27 New4.yN)) (W New4.tab (by simp only [site, List.mem_cons, List.mem_append, true_or, or_true])) (W := 0) (Nat.le_of_ble_eq_true rfl) (Nat.le_of_ble_eq_true rfl) (Nat.le_refl _) (by show 0 + A.slots.size ≤ A.slots.size; omega) (g := (mkF m 6 #[.val (.ref a), .val (.ref b)] [.null, .int (Int32.ofNat A.slots.size), .int (Int32.ofNat 0), .ref b, .ref a])) rfl (by rw [hml]; rfl) c2 (argsL := [.ref b, .int (Int32.ofNat 0), .int (Int32.ofNat A.slots.size), .null]) (rest := []) rfl rfl (by show 2 * 0 + 0 ≤ _; decide) (hb hbytes d6) (⟨rfl, hB.mv X0.warmed.alike hh0, f1.al X0.warmed.alike, f2.al X0.warmed.alike, hA.mv X0.warmed.alike hh0, s1.there X0.warmed.alike hh0, hz, l0, by omega, l2, fun i hi => by rw [Nat.zero_add]; exact hp i hi⟩)
  have e0 := Got.mv _ s₁ s _ _ hh0.symm (Vm.Alike.refl _) rfl E3
  obtain rfl := e0.1
  have c4 : Steps p.tables e below (s₁.setTop (entryFrame m #[.ref a, .ref b] 2)) (T3.setTop (mkF m 9 #[.val (.ref a), .val (.ref b)] [])) := g3
  exact ⟨T3, none, _, _, _, X3, by simp, rfl, by omega, (fun _ => rfl), e0, fun fs hl => c4.trans (X3.returnOut hexec hret (hb hbytes d9) hl)⟩
theorem pays {l : Launch} {R : Room} {p : Program} {e : Env} {below : List Frame} {s : State} {sargs : Array Value} {len W : Nat} (a : Addr) (D : Cell) (fV fC : Field) (b : Addr) (A : Cell) (z : Int32) (htab : tab.before sargs s = true) (hfr : 4 ≤ R.frames) (hlo : W + 65 ≤ R.locals) :
    Back l R p e below s sargs yN len W (fun A₁ a₁ => A₁.cells + 1 ≤ R.cells ∧ A₁.slots + A.slots.size ≤ R.slots ∧ P a D fV fC b A z a₁ A₁.U) (fun A₁ _ v₁ B₁ => E a D fV fC A v₁ A₁.U B₁.U ∧ B₁.locs = A₁.locs ++ [⟨a, fC.slot⟩, ⟨a, fV.slot⟩] ∧ B₁.cells = A₁.cells + 1 ∧ B₁.slots = A₁.slots + A.slots.size) :=
  (law l a D fV fC b A z).pays htab hfr (by omega)
end New1
/-- the byte, read back as charAt reads it, is the char -/
theorem lo8_mask {x : Int32} (h0 : ¬ x < 0) (h1 : ¬ 255 < x) : lo8 x &&& 255 = x := by
  have t : ∀ k : Fin 256, lo8 (Int32.ofNat k.val) &&& 255 = Int32.ofNat k.val := by decide +kernel
  rw [Int32.lt_iff_toInt_lt] at h0 h1
  have e0 : (0 : Int32).toInt = 0 := rfl
  have e1 : (255 : Int32).toInt = 255 := rfl
  obtain ⟨k, hk⟩ : ∃ k : Nat, x.toInt = k := ⟨x.toInt.toNat, by omega⟩
  have hx : x = Int32.ofNat k := Int32.toInt_inj.mp (by rw [hk, Int32.toInt_ofNat_small (by omega)])
  rw [hx]
  exact t ⟨k, by omega⟩
end StrChars
namespace StrChars.Road
open Jvm Sem ClassFile Op Lib Jvm.Stand Jvm.Free Jvm.Free.XT
open Jvm.Lib.Cold (StaticIs)
abbrev ST : String := "java/lang/String"
/-- every table word that New1's law asks, flat -/
abbrev words : List Jvm.Cond := [.code New1.yN New1.yB 2 none, .initialized ST, .methodLink ST 27 New4.yN, .instanceMethod New4.yN,
  .code New4.yN New4.yB 6 none, .fieldLink ST 38 ST "COMPACT_STRINGS" "Z", .laysFinal ST ST "value" "[B", .fieldLink ST 9 ST "value" "[B", .laysFinal ST ST "coder" "B", .fieldLink ST 15 ST "coder" "B",
  .methodLink ST 1 Lib.objectInit, .instanceMethod Lib.objectInit, .code Lib.objectInit ⟨#[0xb1]⟩ 1 none, .methodLink ST 177 Cmp3.yN, .static Cmp3.yN, .methodLink ST 47 CodL.yN, .static CodL.yN,
  .code Cmp3.yN Cmp3.yB 6 (some (.array .byte)), .initialized U16, .arrayClass .byte, .methodLink U16 115 Cmp5.yN, .static Cmp5.yN, .code Cmp5.yN Cmp5.yB 7 (some .int), .code CodL.yN CodL.yB 2 (some .byte)]
theorem tab_of {a : Array Value} {s : State} (h : ∀ w ∈ words, w.before a s = true) : New1.tab.before a s = true := by
  have h5 : Cmp5.tab.before a s = true := unparts (wk h (.code Cmp5.yN Cmp5.yB 7 (some .int))) (wks h (.initialized Cmp5.yN.cls :: Cmp5.site))
  have hc : CodL.tab.before a s = true := unparts (wk h (.code CodL.yN CodL.yB 2 (some .byte))) (wks h (.initialized CodL.yN.cls :: CodL.site))
  have q5 : ∀ w ∈ Cmp5.tab :: words, w.before a s = true := fun w hw => (List.mem_cons.mp hw).elim (fun e => e ▸ h5) (h w)
  have h3 : Cmp3.tab.before a s = true := unparts (wk q5 (.code Cmp3.yN Cmp3.yB 6 (some (.array .byte)))) (wks q5 (.initialized Cmp3.yN.cls :: Cmp3.site))
  have q3 : ∀ w ∈ Cmp3.tab :: CodL.tab :: words, w.before a s = true := fun w hw => (List.mem_cons.mp hw).elim (fun e => e ▸ h3) fun hw => (List.mem_cons.mp hw).elim (fun e => e ▸ hc) (h w)
  have h4 : New4.tab.before a s = true := unparts (wk q3 (.code New4.yN New4.yB 6 none)) (wks q3 (.initialized New4.yN.cls :: New4.site))
  have q4 : ∀ w ∈ New4.tab :: words, w.before a s = true := fun w hw => (List.mem_cons.mp hw).elim (fun e => e ▸ h4) (h w)
  exact unparts (wk q4 (.code New1.yN New1.yB 2 none)) (wks q4 (.initialized New1.yN.cls :: New1.site))
/-- the words ride from the start Z to the walk's own state -/
theorem moved {Z s : State} {a0 args : Array Value} (hZ : Z.Warmed39 s.vm) (hw : ∀ d ∈ words, d.before a0 Z = true) : ∀ d ∈ words, d.before args s = true := fun d hd => by
  have q := hw d hd
  have t : ∀ d ∈ words, d = .arrayClass .byte ∨ (d.onTables && d.keepsFace) = true := by decide +kernel
  rcases t d hd with rfl | t
  · exact RoadKit.mvA hZ q
  · exact RoadKit.mv hZ q t
/-- WHAT COMES BACK, over the tables of the start Z: h the heap at the call, h' behind it -/
def Q (Z : State) (x : Addr) (A : Cell) (h : Heap) (v : Option Value) (h' : Heap) (L : List Loc) : Prop := v = none ∧ (∀ y ∈ L, y.base = x) ∧ RoadKit.Keep h h' [x] ∧ h'.size = h.size + 1 ∧ RoadKit.Exa Z h' x ST ∧ RoadKit.Fld Z h' x ST "value" "[B" (.ref h.size) ∧ RoadKit.Fld Z h' x ST "coder" "B" (.int 0) ∧
  (∃ V : Cell, RoadKit.Arr Z h' h.size V .byte ∧ V.vm = .none ∧ Z.vm.findClass "[B" = some V.cls ∧ V.slots.size = A.slots.size ∧ ∀ j, j < A.slots.size → V.slots[j]? = some (.int (lo8 (cv A j)))) ∧
  ∀ (O n d : String) (w : Value), RoadKit.Fld Z h x O n d w → RoadKit.slotOf Z O n d ≠ RoadKit.slotOf Z ST "value" "[B" → RoadKit.slotOf Z O n d ≠ RoadKit.slotOf Z ST "coder" "B" → RoadKit.Fld Z h' x O n d w
/-- **new String(chars) AT A CALL, IN THE ROAD'S FORM**: for specialBack behind newO: x the fresh String, b the char[] with the cell A -/
theorem back {p : Program} {l : Launch} {e : Env} {R : Room} {s : State} {args : Array Value} {below : List Frame} {len W : Nat} {Z : State} {a0 : Array Value} {h : Heap} (hZ : Z.Warmed39 s.vm) (hw : ∀ d ∈ words, d.before a0 Z = true) {kI : Nat} (wi : (Jvm.Cond.instantiable ST kI).before a0 Z = true)
    {x b : Addr} {A : Cell} {z : Int32} {v0 c0 : Value} (E : RoadKit.Exa Z h x ST) (V : RoadKit.Fld Z h x ST "value" "[B" v0) (C : RoadKit.Fld Z h x ST "coder" "B" c0) (K : RoadKit.Arr Z h b A .char) (hty : Typed .char A) (S : RoadKit.Sta Z h ST "COMPACT_STRINGS" "Z" (.int z)) (hz : ¬ z = 0)
    (l0 : 0 < A.slots.size) (l2 : A.slots.size ≤ 536870912) (hp : ∀ i, i < A.slots.size → ¬ 255 < cv A i) (hfr : 4 ≤ R.frames) (hlo : W + 65 ≤ R.locals) :
    Back l R p e below s args New1.yN len W (fun P a => a = #[.ref x, .ref b] ∧ P.U.heap = h ∧ P.cells + 1 ≤ R.cells ∧ P.slots + A.slots.size ≤ R.slots)
      (fun P _ v B => ∃ L, Q Z x A h v B.U.heap L ∧ B.locs = P.locs ++ L ∧ B.cells = P.cells + 1 ∧ B.slots = P.slots + A.slots.size) := by
  intro m meth c P g ig mk a X hg hsize hdg hW hn hp'
  obtain ⟨rfl, rfl, r1, r2⟩ := hp'
  have al : Z.vm.Alike P.U.vm := hZ.alike.trans X.warmed.alike
  obtain ⟨D, cfV, kV, iV, fV, hD, gV, stV, knV, obV, asV, slV⟩ := id V
  obtain ⟨D', cfC, kC, iC, fC, hD', gC, stC, -, -, asC, slC⟩ := id C
  cases hD.symm.trans hD'
  obtain ⟨D2, kD, e1, e2, e3, e4, e5⟩ := id E
  cases hD.symm.trans e1
  obtain ⟨c2, k2, i1, i2, i3, -⟩ := Cond.instantiable_spec wi
  cases e2.symm.trans i1
  cases e3.symm.trans i2
  obtain ⟨kU, u1, u2⟩ := al.2.2 _ _ e3
  have hB : Blank ST x D P.U := ⟨hD, ⟨knV, fun q hq => by rw [hq] at obV; cases obV⟩, by rw [al.findClass]; exact e2, kU, u1, by rw [u2]; exact i3, by rw [u2]; exact e5 i3⟩
  have F1 : Found ST "value" "[B" fV P.U := ⟨SBG.found_only al ⟨cfV, kV, iV, gV⟩, stV⟩
  have F2 : Found ST "coder" "B" fC P.U := ⟨SBG.found_only al ⟨cfC, kC, iC, gC⟩, stC⟩
  have hA : Ch b A P.U := ⟨⟨K.1, State.isArrayOf_alike al K.2.1, K.2.2, by omega⟩, hty⟩
  have hS : StaticIs P.U ST "COMPACT_STRINGS" "Z" (.int z) := by
    obtain ⟨cfS, iS, kS, fS, st, cS, t1, t2, t3, t4, t5, t6, t7⟩ := S
    exact StaticIs.there (s := { Z with heap := P.U.heap }) ⟨cfS, iS, kS, fS, st, cS, t1, t2, t3, t4, t5, (fun q => by rw [q] at t6; cases t6), t7⟩ al rfl
  obtain ⟨v, B, X', ⟨⟨hv, E', V', q1, q2, q3, q4, q5, q6, q7, q8, q9, q10, q11⟩, hl, hc, hs⟩, st⟩ := New1.pays x D fV fC b A z (tab_of (moved hZ hw)) hfr hlo m meth c P g ig mk _ X hg hsize hdg hW hn ⟨r1, r2, rfl, hB, F1, F2, hA, hS, hz, l0, l2, hp⟩
  have al' : Z.vm.Alike B.U.vm := hZ.alike.trans X'.warmed.alike
  have hsz : E'.slots.size = D.slots.size := by
    obtain ⟨-, -, -, kB, w1, w2, w3⟩ := q1
    obtain ⟨kB', y1, y2⟩ := al'.2.2 _ _ e3
    rw [q2.2.1] at w1
    cases w1.symm.trans y1
    rw [w3, e5 i3, y2]
  refine ⟨v, B, X', ⟨_, ⟨hv, ?_, ⟨by omega, fun y cy hy hn' => q10 y cy (by simpa using hn') hy, fun y cy hy => ?_⟩, q11, ⟨E', _, q1.1, by rw [q2.2.1]; exact e2, by rw [q2.2.1]; exact e3, by rw [q2.1]; exact obV, fun _ => by rw [hsz]; exact e5 i3⟩,
    ⟨E', cfV, kV, iV, fV, q1.1, gV, stV, by rw [q2.1]; exact knV, by rw [q2.1]; exact obV, by rw [q2.2.1]; exact asV, q3⟩, ⟨E', cfC, kC, iC, fC, q1.1, gC, stC, by rw [q2.1]; exact knV, by rw [q2.1]; exact obV, by rw [q2.2.1]; exact asC, q4⟩,
    ⟨V', ⟨q5.1, State.isArrayOf_alike al'.symm q5.2.1, q5.2.2.1⟩, q6, by rw [← al'.findClass]; exact q7, q8, fun j hj => by have := q9 j hj; rwa [Nat.zero_add] at this⟩, fun O n d w F n1 n2 => ?_⟩, hl, hc, hs⟩, st⟩
  · intro y hy
    simp only [List.mem_cons, List.not_mem_nil, or_false] at hy
    rcases hy with rfl | rfl <;> rfl
  · by_cases q : y = x
    · subst q
      cases hD.symm.trans hy
      exact ⟨E', q1.1, q2.2.1, q2.1, hsz⟩
    · exact ⟨cy, q10 y cy q hy, rfl, rfl, rfl⟩
  · obtain ⟨D3, cf, k, i, f, g1, g2, g3, g4, g5, g6, g7⟩ := F
    cases hD.symm.trans g1
    simp only [RoadKit.slotOf, g2, gV, gC, Option.map_some, Option.getD_some] at n1 n2
    exact ⟨E', cf, k, i, f, q1.1, g2, g3, by rw [q2.1]; exact g4, by rw [q2.1]; exact g5, by rw [q2.2.1]; exact g6, by rw [q2.2.2 f.slot (by simp [n1, n2])]; exact g7⟩
end StrChars.Road
namespace StrChars.Road
open Jvm Sem ClassFile Op Lib Jvm.Stand Jvm.Free Jvm.Free.XT
/-- WHAT COMES BACK, the byte[] as a list of values -/
def QA (Z : State) (x : Addr) (zn : Int32) (cs : List Int32) (h : Heap) (v : Option Value) (h' : Heap) (L : List Loc) : Prop := v = none ∧ (∀ y ∈ L, y.base = x) ∧ RoadKit.Keep h h' [x] ∧ h'.size = h.size + 1 ∧ RoadKit.Exa Z h' x ST ∧ RoadKit.Fld Z h' x ST "value" "[B" (.ref h.size) ∧ RoadKit.Fld Z h' x ST "coder" "B" (.int 0) ∧
  (∃ kb, Z.vm.findClass "[B" = some kb ∧ RoadKit.Arv Z h' h.size kb .byte zn (cs.map fun c => .int (lo8 c)) (.int 0)) ∧
  ∀ (O n d : String) (w : Value), RoadKit.Fld Z h x O n d w → RoadKit.slotOf Z O n d ≠ RoadKit.slotOf Z ST "value" "[B" → RoadKit.slotOf Z O n d ≠ RoadKit.slotOf Z ST "coder" "B" → RoadKit.Fld Z h' x O n d w
/-- **new String(chars) AT A CALL, THE ARRAYS AS LISTS**: the char[] at b holds cs, not empty, no char above 255 -/
theorem backArv {p : Program} {l : Launch} {e : Env} {R : Room} {s : State} {args : Array Value} {below : List Frame} {len W : Nat} {Z : State} {a0 : Array Value} {h : Heap} (hZ : Z.Warmed39 s.vm) (hw : ∀ d ∈ words, d.before a0 Z = true) {kI : Nat} (wi : (Jvm.Cond.instantiable ST kI).before a0 Z = true)
    {x b : Addr} {k : ClassId} {zn z : Int32} {cs : List Int32} {dv v0 c0 : Value} (E : RoadKit.Exa Z h x ST) (V : RoadKit.Fld Z h x ST "value" "[B" v0) (C : RoadKit.Fld Z h x ST "coder" "B" c0) (K : RoadKit.Arv Z h b k .char zn (cs.map Value.int) dv) (S : RoadKit.Sta Z h ST "COMPACT_STRINGS" "Z" (.int z)) (hz : ¬ z = 0)
    (hlen : zn.toNatClampNeg = cs.length) (h0 : 0 < cs.length) (hbig : cs.length ≤ 536870912) (hall : ∀ c ∈ cs, ¬ 255 < c) (hfr : 4 ≤ R.frames) (hlo : W + 65 ≤ R.locals) :
    Back l R p e below s args New1.yN len W (fun P a => a = #[.ref x, .ref b] ∧ P.U.heap = h ∧ P.cells + 1 ≤ R.cells ∧ P.slots + cs.length ≤ R.slots)
      (fun P _ v B => ∃ L, QA Z x zn cs h v B.U.heap L ∧ B.locs = P.locs ++ L ∧ B.cells = P.cells + 1 ∧ B.slots = P.slots + cs.length) := by
  obtain ⟨A, K1, K2, K3, K4, K5, K6⟩ := K
  have e : A.slots.size = cs.length := K3.trans hlen
  have hat : ∀ (i : Nat) (hi : i < cs.length), A.slots[i]? = some (.int cs[i]) := fun i hi => by rw [K5 i (by omega)]; simp [List.getD_eq_getElem?_getD, hi]
  have hcv : ∀ (i : Nat) (hi : i < cs.length), cv A i = cs[i] := fun i hi => by unfold cv; rw [hat i hi]
  have hty : Typed .char A := fun i v hv => by
    have hi : i < A.slots.size := (Array.getElem?_eq_some_iff.mp hv).1
    have q := K5 i hi
    rw [hv] at q
    rw [Option.some.inj q]
    exact K6 i hi
  refine Back.mono (back hZ hw wi E V C K1 hty S hz (by omega) (by omega) (fun i hi => by rw [hcv i (by omega)]; exact hall _ (List.getElem_mem _)) hfr hlo) (fun P a hp => ⟨hp.1, hp.2.1, hp.2.2.1, by rw [e]; exact hp.2.2.2⟩) (fun P a v B hp hq => ?_)
  obtain ⟨L, ⟨q1, q2, q3, q4, q5, q6, q7, ⟨V', v1, v2, v3, v4, v5⟩, q9⟩, hl, hc, hs⟩ := hq
  refine ⟨L, ⟨q1, q2, q3, q4, q5, q6, q7, ⟨V'.cls, v3, V', v1, rfl, by rw [v4, e, hlen], K4, fun i hi => ?_, fun i hi => ?_⟩, q9⟩, hl, hc, by rw [hs, e]⟩
  · have hi' : i < cs.length := by omega
    rw [v5 i (by omega), hcv i hi']; simp [List.getD_eq_getElem?_getD, hi']
  · have hi' : i < cs.length := by omega
    simp only [List.getD_eq_getElem?_getD, List.getElem?_map, List.getElem?_eq_getElem hi', Option.map_some, Option.getD_some]
    exact fits_lo8 _
end StrChars.Road
namespace StrChars.Road
open Jvm Sem ClassFile Op Lib Jvm.Stand Jvm.Free Jvm.Free.XT
/-- WHAT COMES BACK, in the writer's own shape -/
def QV (Z : State) (x : Addr) (N : Int32) (bs : List Int32) (h : Heap) (n0 : Nat) (v : Option Value) (h' : Heap) (L : List Loc) : Prop := v = none ∧ RoadKit.Fr n0 L ∧ RoadKit.Keep h h' [x] ∧ RoadKit.Exa Z h' x ST ∧ RoadKit.Fld Z h' x ST "coder" "B" (.int 0) ∧
  ∃ (t : Addr) (kb : ClassId), n0 ≤ t ∧ h.size ≤ t ∧ ¬ t = x ∧ RoadKit.Fld Z h' x ST "value" "[B" (.ref t) ∧ RoadKit.Arv Z h' t kb .byte N (bs.map Value.int) (.int 0)
/-- **new String(chars) AT A CALL, FOR THE WRITER**: a char[] of n known ints, each 0 to 255 -/
theorem backV {p : Program} {l : Launch} {e : Env} {R : Room} {s : State} {args : Array Value} {below : List Frame} {len W : Nat} {Z : State} {a0 : Array Value} {h : Heap} (hZ : Z.Warmed39 s.vm) (hw : ∀ d ∈ words, d.before a0 Z = true) {kI : Nat} (wi : (Jvm.Cond.instantiable ST kI).before a0 Z = true)
    {x b : Addr} {kC : ClassId} {cs bs : List Int32} {d v0 c0 : Value} {z N : Int32} {n n0 : Nat} (hx0 : n0 ≤ x) (hh0 : n0 ≤ h.size) (E : RoadKit.Exa Z h x ST) (V : RoadKit.Fld Z h x ST "value" "[B" v0) (C : RoadKit.Fld Z h x ST "coder" "B" c0) (K : RoadKit.Arv Z h b kC .char N (cs.map Value.int) d) (S : RoadKit.Sta Z h ST "COMPACT_STRINGS" "Z" (.int z)) (hz : ¬ z = 0)
    (hn : cs.length = n) (hN : N = Int32.ofNat n) (l0 : 0 < n) (l2 : n ≤ 4000) (hp : ∀ c ∈ cs, ¬ c < 0 ∧ ¬ (255 : Int32) < c) (hb : bs = cs.map (fun c => c.toInt8.toInt32)) (hfr : 4 ≤ R.frames) (hlo : W + 65 ≤ R.locals) :
    Back l R p e below s args (⟨"java/lang/String", "<init>", "([C)V"⟩ : MethodName) len W (fun P a => a = #[.ref x, .ref b] ∧ P.U.heap = h ∧ P.cells + 1 ≤ R.cells ∧ P.slots + n ≤ R.slots)
      (fun P _ v B => ∃ L, QV Z x N bs h n0 v B.U.heap L ∧ B.locs = P.locs ++ L ∧ B.cells = P.cells + 1 ∧ B.slots = P.slots + n) := by
  subst hn hN hb
  refine Back.mono (backArv hZ hw wi E V C K S hz (n32 (by omega)) l0 (by omega) (fun c hc => (hp c hc).2) hfr hlo) (fun P a hp => hp) (fun P a v B hp hq => ?_)
  obtain ⟨L, ⟨q1, q2, q3, q4, q5, q6, q7, ⟨kb, v1, v2⟩, q9⟩, hl, hc, hs⟩ := hq
  exact ⟨L, ⟨q1, fun y hy => by rw [q2 y hy]; exact hx0, q3, q5, q7, h.size, kb, hh0, Nat.le_refl _, Nat.ne_of_gt E.lt, q6, by rw [List.map_map]; exact v2⟩, hl, hc, hs⟩
end StrChars.Road
namespace StrChars
open Jvm Sem ClassFile Op Lib Jvm.Stand Jvm.Free.XT Jvm.Free.ALB Jvm.Free.JM Jvm.Free
open Jvm.Lib.Cold (StaticIs)
def hi8 (x : Int32) : Int32 := lo8 (x >>> ((8 : Int32) &&& 31))
/-- what StringUTF16.getChar makes of two bytes -/
def pairCh (u v : Int32) : Int32 := (((u &&& 255) <<< ((0 : Int32) &&& 31)) ||| ((v &&& 255) <<< ((8 : Int32) &&& 31))).toUInt32.toUInt16.toUInt32.toInt32
theorem shr0 (c : Int32) : c >>> ((0 : Int32) &&& 31) = c := by
  have e : ((0 : Int32) &&& 31) = 0 := by decide
  rw [e]
  apply Int32.toBitVec_inj.mp
  rw [Int32.toBitVec_shiftRight]
  have e1 : ((0 : Int32).toBitVec.smod 32) = 0#32 := by decide
  rw [e1, BitVec.sshiftRight_eq']
  exact BitVec.sshiftRight_zero
theorem lo8_and (x : Int32) : (lo8 x &&& 255).toBitVec.toNat = x.toBitVec.toNat % 256 := by
  have h : (lo8 x).toBitVec = (x.toBitVec.signExtend 8).signExtend 32 := by rw [lo8, Int8.toBitVec_toInt32, Int32.toBitVec_toInt8]
  rw [Int32.toBitVec_and, BitVec.toNat_and, h]
  have e : ((x.toBitVec.signExtend 8).signExtend 32).toNat % 256 = x.toBitVec.toNat % 256 := by
    rw [BitVec.toNat_signExtend]
    have hlt := x.toBitVec.isLt
    simp only [BitVec.toNat_setWidth, BitVec.toNat_signExtend]
    split <;> split <;> omega
  rw [← e]
  exact Nat.and_two_pow_sub_one_eq_mod _ 8
theorem pair_says {c : Int32} (h0 : ¬ c < 0) (h1 : ¬ 65535 < c) : pairCh (lo8 c) (hi8 c) = c := by
  rw [Int32.lt_iff_toInt_lt] at h0 h1
  have e0 : (0 : Int32).toInt = 0 := rfl
  have e1 : (65535 : Int32).toInt = 65535 := rfl
  have hc : c.toInt = c.toBitVec.toNat := by
    have := c.toBitVec.isLt
    have e : c.toInt = c.toBitVec.toInt := rfl
    rw [e] at h0 h1
    rw [e]
    rw [BitVec.toInt_eq_toNat_cond] at h0 h1 ⊢
    split at h0 <;> split <;> omega
  have hn : c.toBitVec.toNat < 65536 := by omega
  have a1 := lo8_and c
  have a2 : (hi8 c &&& 255).toBitVec.toNat = c.toBitVec.toNat / 256 := by
    rw [hi8, lo8_and]
    have e : ((8 : Int32) &&& 31) = 8 := by decide
    rw [e, Int32.toBitVec_shiftRight]
    have e2 : ((8 : Int32).toBitVec.smod 32) = 8#32 := by decide
    rw [e2, BitVec.sshiftRight_eq', BitVec.toNat_sshiftRight_of_msb_false (by rw [BitVec.msb_eq_false_iff_two_mul_lt]; omega)]
    show c.toBitVec.toNat >>> 8 % 256 = _
    rw [Nat.shiftRight_eq_div_pow]
    omega
  unfold pairCh
  apply Int32.toBitVec_inj.mp
  apply BitVec.eq_of_toNat_eq
  have f0 : ((0 : Int32) &&& 31) = 0 := by decide
  have f8 : ((8 : Int32) &&& 31) = 8 := by decide
  rw [f0, f8]
  have g : (((lo8 c &&& 255) <<< (0 : Int32)) ||| ((hi8 c &&& 255) <<< (8 : Int32))).toBitVec.toNat = c.toBitVec.toNat := by
    rw [Int32.toBitVec_or, Int32.toBitVec_shiftLeft, Int32.toBitVec_shiftLeft]
    have s0 : ((0 : Int32).toBitVec.smod 32) = 0#32 := by decide
    have s8 : ((8 : Int32).toBitVec.smod 32) = 8#32 := by decide
    rw [s0, s8, BitVec.toNat_or]
    simp only [BitVec.shiftLeft_eq', BitVec.toNat_shiftLeft, a1, a2]
    show (c.toBitVec.toNat % 256) <<< 0 % 2 ^ 32 ||| (c.toBitVec.toNat / 256) <<< 8 % 2 ^ 32 = _
    rw [Nat.shiftLeft_zero, Nat.mod_eq_of_lt (show c.toBitVec.toNat % 256 < 2 ^ 32 by omega), Nat.mod_eq_of_lt (show (c.toBitVec.toNat / 256) <<< 8 < 2 ^ 32 by rw [Nat.shiftLeft_eq]; omega), Nat.or_comm, ← Nat.shiftLeft_add_eq_or_of_lt (by omega), Nat.shiftLeft_eq]
    omega
  show BitVec.toNat (((((lo8 c &&& 255) <<< (0 : Int32)) ||| ((hi8 c &&& 255) <<< (8 : Int32))).toBitVec.setWidth 16).setWidth 32) = _
  rw [BitVec.toNat_setWidth, BitVec.toNat_setWidth, g]
  omega
end StrChars
namespace StrChars
open Jvm Sem ClassFile Op Lib Jvm.Stand Jvm.Free.XT Jvm.Free.ALB Jvm.Free.JM Jvm.Free
open Jvm.Lib.Cold (StaticIs)
theorem shr1 {n : Nat} (h : 2 * n < 2 ^ 31) : Int32.ofNat (2 * n) >>> ((1 : Int32) &&& 31) = Int32.ofNat n := by
  have e : ((1 : Int32) &&& 31) = 1 := by decide
  rw [e]
  apply Int32.toBitVec_inj.mp
  rw [Int32.toBitVec_shiftRight]
  have e1 : ((1 : Int32).toBitVec.smod 32) = 1#32 := by decide
  have hm : (BitVec.ofNat 32 (2 * n)).toNat = 2 * n := by rw [BitVec.toNat_ofNat, Nat.mod_eq_of_lt (by omega)]
  rw [e1, BitVec.sshiftRight_eq']
  apply BitVec.eq_of_toNat_eq
  show ((BitVec.ofNat 32 (2 * n)).sshiftRight 1).toNat = (BitVec.ofNat 32 n).toNat
  rw [BitVec.toNat_sshiftRight_of_msb_false (by rw [BitVec.msb_eq_false_iff_two_mul_lt, hm]; omega), hm, BitVec.toNat_ofNat, Nat.shiftRight_eq_div_pow]
  omega
/-- charAt's cast of a byte read back -/
def chr8 (u : Int32) : Int32 := (u &&& 255).toUInt32.toUInt16.toUInt32.toInt32
theorem chr8_lo8 {c : Int32} (h0 : ¬ c < 0) (h1 : ¬ 255 < c) : chr8 (lo8 c) = c := by
  have t : ∀ k : Fin 256, (Int32.ofNat k.val).toUInt32.toUInt16.toUInt32.toInt32 = Int32.ofNat k.val := by decide +kernel
  unfold chr8
  rw [lo8_mask h0 h1]
  rw [Int32.lt_iff_toInt_lt] at h0 h1
  have e0 : (0 : Int32).toInt = 0 := rfl
  have e1 : (255 : Int32).toInt = 255 := rfl
  obtain ⟨k, hk⟩ : ∃ k : Nat, c.toInt = k := ⟨c.toInt.toNat, by omega⟩
  have hx : c = Int32.ofNat k := Int32.toInt_inj.mp (by rw [hk, Int32.toInt_ofNat_small (by omega)])
  rw [hx]
  exact t ⟨k, by omega⟩
theorem narrow_ch {c : Int32} (h0 : ¬ c < 0) (h1 : ¬ 65535 < c) : narrow .char (.int c) = .int c := by
  have q : narrow .char (.int (pairCh (lo8 c) (hi8 c))) = .int (pairCh (lo8 c) (hi8 c)) := narrow_c _
  rwa [pair_says h0 h1] at q
/-- the array's cell V codes the n chars f 0 .. f (n - 1) by the coder cd, as the JDK does: coder 1 just where some char is above 255 -/
def Cod (cd : Int32) (n : Nat) (f : Nat → Int32) (V : Cell) : Prop := (cd = 0 ∧ V.slots.size = n ∧ ∀ j, j < n → V.slots[j]? = some (.int (lo8 (f j))) ∧ ¬ 255 < f j) ∨ (cd = 1 ∧ V.slots.size = 2 * n ∧ (∀ j, j < n → V.slots[2 * j]? = some (.int (lo8 (f j))) ∧ V.slots[2 * j + 1]? = some (.int (hi8 (f j)))) ∧ ∃ j, j < n ∧ 255 < f j)
theorem Cod.cd {cd : Int32} {n : Nat} {f : Nat → Int32} {V : Cell} (h : Cod cd n f V) : cd = 0 ∨ cd = 1 := h.imp (fun q => q.1) fun q => q.1
theorem Cod.len {cd : Int32} {n : Nat} {f : Nat → Int32} {V : Cell} (h : Cod cd n f V) (hs : V.slots.size < 2 ^ 31) : Int32.ofNat V.slots.size >>> (cd &&& 31) = Int32.ofNat n := by
  rcases h with ⟨rfl, h, -⟩ | ⟨rfl, h, -⟩
  · rw [shr0, h]
  · rw [h, shr1 (by omega)]
/-- **x is a String of the n chars f 0 .. f (n - 1)**, Latin-1 or UTF-16; its array at t has the cell V -/
def Txt (x t : Addr) (V : Cell) (cd : Int32) (n : Nat) (f : Nat → Int32) (U : State) : Prop := Exact "java/lang/String" x U ∧ Has x "java/lang/String" "value" "[B" (.ref t) U ∧ Has x "java/lang/String" "coder" "B" (.int cd) U ∧ XT.Arr .byte t V U ∧ Cod cd n f V ∧ ∀ j, j < n → ¬ f j < 0 ∧ ¬ 65535 < f j
theorem Txt.mv {x t : Addr} {V : Cell} {cd : Int32} {n : Nat} {f : Nat → Int32} {U U' : State} (h : Txt x t V cd n f U) (hal : U.vm.Alike U'.vm) (hh : U'.heap = U.heap) : Txt x t V cd n f U' := ⟨h.1.mv hal hh, h.2.1.mv hal hh, h.2.2.1.mv hal hh, h.2.2.2.1.mv hal hh, h.2.2.2.2⟩
namespace Cdr
def yN : MethodName := ⟨"java/lang/String", "coder", "()B"⟩
abbrev yB : ByteArray := jdk_42_method_152_code
theorem d0 : decode yB 0 = .ok (.getstatic 38, 3) := by decide +kernel
theorem d3 : decode yB 3 = .ok (.ifCond (.eq) 10, 3) := by decide +kernel
theorem d6 : decode yB 6 = .ok (.aload_n 0, 1) := by decide +kernel
theorem d7 : decode yB 7 = .ok (.getfield 15, 3) := by decide +kernel
theorem d10 : decode yB 10 = .ok (.goto 4, 3) := by decide +kernel
theorem d14 : decode yB 14 = .ok (.ireturn, 1) := by decide +kernel
def site : List Cond := [.fieldLink "java/lang/String" 38 "java/lang/String" "COMPACT_STRINGS" "Z", .fieldLink "java/lang/String" 15 "java/lang/String" "coder" "B"]
def tab : Cond := tabOf yN yB 1 (some .byte) site
def P (x : Addr) (cd z : Int32) (args : Array Value) (s : State) : Prop := args = #[.ref x] ∧ Has x "java/lang/String" "coder" "B" (.int cd) s ∧ (cd = 0 ∨ cd = 1) ∧ StaticIs s "java/lang/String" "COMPACT_STRINGS" "Z" (.int z) ∧ ¬ z = 0
def E (cd : Int32) (r : Option Value) (s u : State) : Prop := XT.PureE (some (.int cd)) r s u
theorem law (l : Launch) (x : Addr) (cd z : Int32) : Law l yN 1 0 0 0 yB 1 (some .byte) site (P x cd z) (E cd) [] 0 0 := by
  refine Law.of_walk (plainFor_of_name (by decide +kernel)) (by decide +kernel) (by decide +kernel) (by decide) (fun _ _ h => by rw [h.1]; rfl) (fun _ U U' hal hh h => ⟨h.1, h.2.1.mv hal hh, h.2.2.1, h.2.2.2.1.there hal hh, h.2.2.2.2⟩) (fun r U U' V V' h1 hal h2 h => XT.PureE.mv r U U' V V' h1 hal h2 h) ?_
  intro p e s m args below meth c s₁ X0 hexec hbytes hml hret hlk hnm hown hh0 W hP
  obtain ⟨rfl, hx, hc, s1, hz⟩ := hP
  have c1 : Steps p.tables e below (s₁.setTop (entryFrame m #[.ref x] 1)) (s₁.setTop (mkF m 0 #[.val (.ref x)] [])) := entry rfl
  obtain ⟨T2, X2, q2, st2⟩ := X0.sget hexec hown (wk W (.fieldLink "java/lang/String" 38 "java/lang/String" "COMPACT_STRINGS" "Z")) s1 (fun _ _ h => by rw [hh0]; exact h) (g := (mkF m 0 #[.val (.ref x)] [])) rfl (hb hbytes d0)
  have hh2 := q2.trans hh0
  have c3 : Steps p.tables e below (s₁.setTop (entryFrame m #[.ref x] 1)) (T2.setTop (mkF m 7 #[.val (.ref x)] [.ref x])) := (c1.trans (st2 _ (Steps.refl _))).trans (by
    refine XS.ifNo X2.here hexec rfl (hb hbytes d3) rfl (i0_eq_f hz) ?_
    refine XS.aloadN X2.here hexec rfl (hb hbytes d6) rfl rfl ?_
    exact Steps.refl _)
  obtain ⟨T4, X4, q4, st4⟩ := X2.hget hexec hown (wk W (.fieldLink "java/lang/String" 15 "java/lang/String" "coder" "B")) (hx.mv X2.warmed.alike hh2) (g := (mkF m 7 #[.val (.ref x)] [.ref x])) rfl (rest := []) rfl (hb hbytes d7)
  have c5 : Steps p.tables e below (s₁.setTop (entryFrame m #[.ref x] 1)) (T4.setTop (mkF m 14 #[.val (.ref x)] [.int cd])) := (c3.trans (st4 _ (Steps.refl _))).trans (by
    refine XS.goto X4.here hexec rfl (pc0 := 10) rfl (hb hbytes d10) (by decide) rfl ?_
    exact Steps.refl _)
  exact ⟨T4, some (.int cd), _, _, _, X4, rfl, rfl, rfl, (fun h => by cases h), ⟨rfl, q4.trans hh2⟩, fun fs hl => c5.trans (X4.ireturnOut hexec hret (by rcases hc with rfl | rfl <;> rfl) (Or.inr (Or.inr (Or.inl rfl))) (hb hbytes d14) hl)⟩
end Cdr
namespace Len
def yN : MethodName := ⟨"java/lang/String", "length", "()I"⟩
abbrev yB : ByteArray := jdk_42_method_54_code
theorem d0 : decode yB 0 = .ok (.aload_n 0, 1) := by decide +kernel
theorem d1 : decode yB 1 = .ok (.getfield 9, 3) := by decide +kernel
theorem d4 : decode yB 4 = .ok (.arraylength, 1) := by decide +kernel
theorem d5 : decode yB 5 = .ok (.aload_n 0, 1) := by decide +kernel
theorem d6 : decode yB 6 = .ok (.invokevirtual 335, 3) := by decide +kernel
theorem d9 : decode yB 9 = .ok (.ishr, 1) := by decide +kernel
theorem d10 : decode yB 10 = .ok (.ireturn, 1) := by decide +kernel
def site : List Cond := [.fieldLink "java/lang/String" 9 "java/lang/String" "value" "[B", Cdr.tab] ++ virtW "java/lang/String" 335 "java/lang/String" Cdr.yN Cdr.yN
def tab : Cond := tabOf yN yB 1 (some .int) site
def P (x t : Addr) (V : Cell) (cd : Int32) (n : Nat) (f : Nat → Int32) (z : Int32) (args : Array Value) (s : State) : Prop := args = #[.ref x] ∧ Txt x t V cd n f s ∧ StaticIs s "java/lang/String" "COMPACT_STRINGS" "Z" (.int z) ∧ ¬ z = 0
def E (n : Nat) (r : Option Value) (s u : State) : Prop := XT.PureE (some (.int (Int32.ofNat n))) r s u
/-- length() of a String of n chars, in either coding -/
theorem law (l : Launch) (x t : Addr) (V : Cell) (cd : Int32) (n : Nat) (f : Nat → Int32) (z : Int32) : Law l yN 1 0 1 13 yB 1 (some .int) site (P x t V cd n f z) (E n) [] 0 0 := by
  refine Law.of_walk (plainFor_of_name (by decide +kernel)) (by decide +kernel) (by decide +kernel) (by decide) (fun _ _ h => by rw [h.1]; rfl) (fun _ U U' hal hh h => ⟨h.1, h.2.1.mv hal hh, h.2.2.1.there hal hh, h.2.2.2⟩) (fun r U U' V V' h1 hal h2 h => XT.PureE.mv r U U' V V' h1 hal h2 h) ?_
  intro p e s m args below meth c s₁ X0 hexec hbytes hml hret hlk hnm hown hh0 W hP
  obtain ⟨rfl, hx, s1, hz⟩ := hP
  have v31 := hx.2.2.2.1.2.2.2
  have c1 : Steps p.tables e below (s₁.setTop (entryFrame m #[.ref x] 1)) (s₁.setTop (mkF m 1 #[.val (.ref x)] [.ref x])) := Steps.trans (entry rfl) (by
    show Steps p.tables e below (s₁.setTop (mkF m 0 #[.val (.ref x)] [])) _
    refine XS.aloadN X0.here hexec rfl (hb hbytes d0) rfl rfl ?_
    exact Steps.refl _)
  obtain ⟨T2, X2, q2, st2⟩ := X0.hget hexec hown (wk W (.fieldLink "java/lang/String" 9 "java/lang/String" "value" "[B")) (hx.mv X0.warmed.alike hh0).2.1 (g := (mkF m 1 #[.val (.ref x)] [.ref x])) rfl (rest := []) rfl (hb hbytes d1)
  have hh2 := q2.trans hh0
  have hx2 := hx.mv X2.warmed.alike hh2
  have c3 : Steps p.tables e below (s₁.setTop (entryFrame m #[.ref x] 1)) (T2.setTop (mkF m 6 #[.val (.ref x)] [.ref x, .int (Int32.ofNat V.slots.size)])) := (c1.trans (st2 _ (Steps.refl _))).trans (by
    refine X2.alen hexec hx2.2.2.2.1 rfl rfl (hb hbytes d4) ?_
    refine XS.aloadN X2.here hexec rfl (hb hbytes d5) rfl rfl ?_
    exact Steps.refl _)
  obtain ⟨v4, T4, X4, E4, g4⟩ := X2.callV hexec (Cdr.law l x cd z) hown (wks W (virtW "java/lang/String" 335 "java/lang/String" Cdr.yN Cdr.yN)) rfl (by decide) (wk W Cdr.tab) (W := 1) (Nat.le_of_ble_eq_true rfl) (Nat.le_of_ble_eq_true rfl) (Nat.le_refl _) (Nat.le_refl _) (hx2.1.fc X2.warmed.alike) hx2.1.is (g := (mkF m 6 #[.val (.ref x)] [.ref x, .int (Int32.ofNat V.slots.size)])) rfl (by rw [hml]; rfl) c3 (argsL := []) (rest := [.int (Int32.ofNat V.slots.size)]) rfl rfl (by show 2 * 0 + (1 + 0) ≤ _; decide) (hb hbytes d6) (⟨rfl, hx2.2.2.1, hx.2.2.2.2.1.cd, s1.there X2.warmed.alike hh2, hz⟩)
  obtain ⟨rfl, q4⟩ := E4
  have c5 : Steps p.tables e below (s₁.setTop (entryFrame m #[.ref x] 1)) (T4.setTop (mkF m 10 #[.val (.ref x)] [.int (Int32.ofNat V.slots.size >>> (cd &&& 31))])) := Steps.trans g4 (by
    refine ishr X4.here hexec rfl (hb hbytes d9) rfl ?_
    exact Steps.refl _)
  rw [hx.2.2.2.2.1.len v31] at c5
  exact ⟨T4, some (.int (Int32.ofNat n)), _, _, _, X4, rfl, rfl, rfl, (fun h => by cases h), ⟨rfl, q4.trans hh2⟩, fun fs hl => c5.trans (X4.ireturnOut hexec hret rfl (Or.inl rfl) (hb hbytes d10) hl)⟩
theorem pays {l : Launch} {R : Room} {p : Program} {e : Env} {below : List Frame} {s : State} {sargs : Array Value} {len W : Nat} (x t : Addr) (V : Cell) (cd : Int32) (n : Nat) (f : Nat → Int32) (z : Int32) (htab : tab.before sargs s = true) (hfr : 2 ≤ R.frames) (hlo : W + 25 ≤ R.locals) :
    Back l R p e below s sargs yN len W (fun A₁ a₁ => A₁.cells + 0 ≤ R.cells ∧ A₁.slots + 0 ≤ R.slots ∧ P x t V cd n f z a₁ A₁.U) (fun A₁ _ v₁ B₁ => E n v₁ A₁.U B₁.U ∧ B₁.locs = A₁.locs ++ [] ∧ B₁.cells = A₁.cells + 0 ∧ B₁.slots = A₁.slots + 0) :=
  (law l x t V cd n f z).pays htab hfr (by omega)
end Len
namespace IsL
def yN : MethodName := ⟨"java/lang/String", "isLatin1", "()Z"⟩
abbrev yB : ByteArray := jdk_42_method_154_code
theorem d0 : decode yB 0 = .ok (.getstatic 38, 3) := by decide +kernel
theorem d3 : decode yB 3 = .ok (.ifCond (.eq) 14, 3) := by decide +kernel
theorem d6 : decode yB 6 = .ok (.aload_n 0, 1) := by decide +kernel
theorem d7 : decode yB 7 = .ok (.getfield 15, 3) := by decide +kernel
theorem d10 : decode yB 10 = .ok (.ifCond (.ne) 7, 3) := by decide +kernel
theorem d13 : decode yB 13 = .ok (.iconst 1, 1) := by decide +kernel
theorem d14 : decode yB 14 = .ok (.goto 4, 3) := by decide +kernel
theorem d17 : decode yB 17 = .ok (.iconst 0, 1) := by decide +kernel
theorem d18 : decode yB 18 = .ok (.ireturn, 1) := by decide +kernel
def site : List Cond := [.fieldLink "java/lang/String" 38 "java/lang/String" "COMPACT_STRINGS" "Z", .fieldLink "java/lang/String" 15 "java/lang/String" "coder" "B"]
def tab : Cond := tabOf yN yB 1 (some .boolean) site
def P (x : Addr) (cd z : Int32) (args : Array Value) (s : State) : Prop := args = #[.ref x] ∧ Has x "java/lang/String" "coder" "B" (.int cd) s ∧ (cd = 0 ∨ cd = 1) ∧ StaticIs s "java/lang/String" "COMPACT_STRINGS" "Z" (.int z) ∧ ¬ z = 0
def E (cd : Int32) (r : Option Value) (s u : State) : Prop := XT.PureE (some (.int (1 - cd))) r s u
theorem law (l : Launch) (x : Addr) (cd z : Int32) : Law l yN 1 0 0 0 yB 1 (some .boolean) site (P x cd z) (E cd) [] 0 0 := by
  refine Law.of_walk (plainFor_of_name (by decide +kernel)) (by decide +kernel) (by decide +kernel) (by decide) (fun _ _ h => by rw [h.1]; rfl) (fun _ U U' hal hh h => ⟨h.1, h.2.1.mv hal hh, h.2.2.1, h.2.2.2.1.there hal hh, h.2.2.2.2⟩) (fun r U U' V V' h1 hal h2 h => XT.PureE.mv r U U' V V' h1 hal h2 h) ?_
  intro p e s m args below meth c s₁ X0 hexec hbytes hml hret hlk hnm hown hh0 W hP
  obtain ⟨rfl, hx, hc, s1, hz⟩ := hP
  have c1 : Steps p.tables e below (s₁.setTop (entryFrame m #[.ref x] 1)) (s₁.setTop (mkF m 0 #[.val (.ref x)] [])) := entry rfl
  obtain ⟨T2, X2, q2, st2⟩ := X0.sget hexec hown (wk W (.fieldLink "java/lang/String" 38 "java/lang/String" "COMPACT_STRINGS" "Z")) s1 (fun _ _ h => by rw [hh0]; exact h) (g := (mkF m 0 #[.val (.ref x)] [])) rfl (hb hbytes d0)
  have hh2 := q2.trans hh0
  have c3 : Steps p.tables e below (s₁.setTop (entryFrame m #[.ref x] 1)) (T2.setTop (mkF m 7 #[.val (.ref x)] [.ref x])) := (c1.trans (st2 _ (Steps.refl _))).trans (by
    refine XS.ifNo X2.here hexec rfl (hb hbytes d3) rfl (i0_eq_f hz) ?_
    refine XS.aloadN X2.here hexec rfl (hb hbytes d6) rfl rfl ?_
    exact Steps.refl _)
  obtain ⟨T4, X4, q4, st4⟩ := X2.hget hexec hown (wk W (.fieldLink "java/lang/String" 15 "java/lang/String" "coder" "B")) (hx.mv X2.warmed.alike hh2) (g := (mkF m 7 #[.val (.ref x)] [.ref x])) rfl (rest := []) rfl (hb hbytes d7)
  have c5 : Steps p.tables e below (s₁.setTop (entryFrame m #[.ref x] 1)) (T4.setTop (mkF m 10 #[.val (.ref x)] [.int cd])) := c3.trans (st4 _ (Steps.refl _))
  have c6 : Steps p.tables e below (s₁.setTop (entryFrame m #[.ref x] 1)) (T4.setTop (mkF m 18 #[.val (.ref x)] [.int (1 - cd)])) := by
    rcases hc with rfl | rfl
    · exact c5.trans (by
        refine XS.ifNo X4.here hexec rfl (hb hbytes d10) rfl (i0_ne_f rfl) ?_
        refine iconstV X4.here hexec rfl 1 (hb hbytes d13) (by decide) ?_
        refine XS.goto X4.here hexec rfl (pc0 := 14) rfl (hb hbytes d14) (by decide) rfl ?_
        exact Steps.refl _)
    · exact c5.trans (by
        refine XS.ifYes X4.here hexec rfl (pc0 := 10) rfl (hb hbytes d10) rfl (i0_ne_t (by decide)) (by decide) rfl ?_
        refine iconstV X4.here hexec rfl 0 (hb hbytes d17) (by decide) ?_
        exact Steps.refl _)
  exact ⟨T4, some (.int (1 - cd)), _, _, _, X4, rfl, rfl, rfl, (fun h => by cases h), ⟨rfl, q4.trans hh2⟩, fun fs hl => c6.trans (X4.ireturnOut hexec hret (by rcases hc with rfl | rfl <;> rfl) (Or.inr (Or.inl rfl)) (hb hbytes d18) hl)⟩
end IsL
namespace LChA
def yN : MethodName := ⟨"java/lang/StringLatin1", "charAt", "([BI)C"⟩
abbrev yB : ByteArray := jdk_43_method_2_code
theorem d0 : decode yB 0 = .ok (.iload_n 1, 1) := by decide +kernel
theorem d1 : decode yB 1 = .ok (.aload_n 0, 1) := by decide +kernel
theorem d2 : decode yB 2 = .ok (.arraylength, 1) := by decide +kernel
theorem d3 : decode yB 3 = .ok (.invokestatic 9, 3) := by decide +kernel
theorem d6 : decode yB 6 = .ok (.aload_n 0, 1) := by decide +kernel
theorem d7 : decode yB 7 = .ok (.iload_n 1, 1) := by decide +kernel
theorem d8 : decode yB 8 = .ok (.baload, 1) := by decide +kernel
theorem d9 : decode yB 9 = .ok (.sipush 255, 3) := by decide +kernel
theorem d12 : decode yB 12 = .ok (.iand, 1) := by decide +kernel
theorem d13 : decode yB 13 = .ok (.i2c, 1) := by decide +kernel
theorem d14 : decode yB 14 = .ok (.ireturn, 1) := by decide +kernel
def site : List Cond := [JO.Str_checkIndex.tab] ++ staticW "java/lang/StringLatin1" 9 JO.Str_checkIndex.yN
def tab : Cond := tabOf yN yB 2 (some .char) site
def P (t : Addr) (V : Cell) (i : Nat) (u : Int32) (fm : Value) (args : Array Value) (s : State) : Prop := args = #[.ref t, .int (Int32.ofNat i)] ∧ XT.Arr .byte t V s ∧ V.slots[i]? = some (.int u) ∧ (StaticIs s "jdk/internal/util/Preconditions" "SIOOBE_FORMATTER" "Ljava/util/function/BiFunction;" fm ∧ fm.isRef = true)
def E (u : Int32) (r : Option Value) (s w : State) : Prop := XT.PureE (some (.int (chr8 u))) r s w
theorem law (l : Launch) (t : Addr) (V : Cell) (i : Nat) (u : Int32) (fm : Value) : Law l yN 2 2 2 27 yB 2 (some .char) site (P t V i u fm) (E u) [] 0 0 := by
  refine Law.of_walk (plainFor_of_name (by decide +kernel)) (by decide +kernel) (by decide +kernel) (by decide) (fun _ _ h => by rw [h.1]; rfl) (fun _ U U' hal hh h => ⟨h.1, h.2.1.mv hal hh, h.2.2.1, h.2.2.2.1.there hal hh, h.2.2.2.2⟩) (fun r U U' V V' h1 hal h2 h => XT.PureE.mv r U U' V V' h1 hal h2 h) ?_
  intro p e s m args below meth c s₁ X0 hexec hbytes hml hret hlk hnm hown hh0 W hP
  obtain ⟨rfl, hV, hu, s1, rf⟩ := hP
  have v31 := hV.2.2.2
  have hi : i < V.slots.size := (Array.getElem?_eq_some_iff.mp hu).1
  have c1 : Steps p.tables e below (s₁.setTop (entryFrame m #[.ref t, .int (Int32.ofNat i)] 2)) (s₁.setTop (mkF m 0 #[.val (.ref t), .val (.int (Int32.ofNat i))] [])) := entry rfl
  have c2 : Steps p.tables e below (s₁.setTop (entryFrame m #[.ref t, .int (Int32.ofNat i)] 2)) (s₁.setTop (mkF m 3 #[.val (.ref t), .val (.int (Int32.ofNat i))] [.int (Int32.ofNat V.slots.size), .int (Int32.ofNat i)])) := c1.trans (by
    refine XS.iloadN X0.here hexec rfl (hb hbytes d0) rfl ?_
    refine XS.aloadN X0.here hexec rfl (hb hbytes d1) rfl rfl ?_
    refine X0.alen hexec (hV.mv X0.warmed.alike hh0) rfl rfl (hb hbytes d2) ?_
    exact Steps.refl _)
  obtain ⟨v3, T3, X3, E3, g3⟩ := X0.callS hexec (JO.Str_checkIndex.law l (Int32.ofNat i) (Int32.ofNat V.slots.size) fm) hown (wks W (staticW "java/lang/StringLatin1" 9 JO.Str_checkIndex.yN)) (wk W JO.Str_checkIndex.tab) (W := 0) (Nat.le_of_ble_eq_true rfl) (Nat.le_of_ble_eq_true rfl) (Nat.le_refl _) (Nat.le_refl _) (g := (mkF m 3 #[.val (.ref t), .val (.int (Int32.ofNat i))] [.int (Int32.ofNat V.slots.size), .int (Int32.ofNat i)])) rfl (by rw [hml]; rfl) c2 (argsL := [.int (Int32.ofNat i), .int (Int32.ofNat V.slots.size)]) (rest := []) rfl rfl (by show 2 * 0 + 0 ≤ _; decide) (hb hbytes d3) (⟨rfl, rf, s1.there X0.warmed.alike hh0, Int32.ofNat_not_neg (by omega), lt32 v31 hi⟩)
  obtain ⟨rfl, q3⟩ := E3
  have hh3 := q3.trans hh0
  have c4 : Steps p.tables e below (s₁.setTop (entryFrame m #[.ref t, .int (Int32.ofNat i)] 2)) (T3.setTop (mkF m 14 #[.val (.ref t), .val (.int (Int32.ofNat i))] [.int (chr8 u)])) := Steps.trans g3 (by
    refine XS.aloadN X3.here hexec rfl (hb hbytes d6) rfl rfl ?_
    refine XS.iloadN X3.here hexec rfl (hb hbytes d7) rfl ?_
    refine X3.aget hexec (hV.mv X3.warmed.alike hh3) rfl hu rfl rfl (hb hbytes d8) ?_
    refine sipushV X3.here hexec rfl 255 (hb hbytes d9) (by decide) ?_
    refine XS.iand X3.here hexec rfl (hb hbytes d12) rfl ?_
    refine i2c X3.here hexec rfl (hb hbytes d13) rfl ?_
    exact Steps.refl _)
  exact ⟨T3, some (.int (chr8 u)), _, _, _, X3, rfl, rfl, rfl, (fun h => by cases h), ⟨rfl, hh3⟩, fun fs hl => c4.trans (X3.ireturnOut hexec hret (narrow_c _) (Or.inr (Or.inr (Or.inr (Or.inl rfl)))) (hb hbytes d14) hl)⟩
end LChA
end StrChars
namespace StrChars.Road
open Jvm Sem ClassFile Op Lib Jvm.Stand Jvm.Free Jvm.Free.XT
open Jvm.Lib.Cold (StaticIs)
theorem consq {a : Array Value} {s : State} {c : Jvm.Cond} {L : List Jvm.Cond} (h0 : c.before a s = true) (h : ∀ w ∈ L, w.before a s = true) : ∀ w ∈ c :: L, w.before a s = true := fun w hw => (List.mem_cons.mp hw).elim (fun e => e ▸ h0) (h w)
/-- the words of String.length(), either coding -/
abbrev wordsLen : List Jvm.Cond := [.code Len.yN Len.yB 1 (some .int), .initialized ST, .fieldLink ST 9 ST "value" "[B", .fieldLink ST 38 ST "COMPACT_STRINGS" "Z", .fieldLink ST 15 ST "coder" "B", .code Cdr.yN Cdr.yB 1 (some .byte), .methodLink ST 335 Cdr.yN, .declares Cdr.yN, .selects ST Cdr.yN Cdr.yN, .instanceMethod Cdr.yN]
theorem tabLen_of {a : Array Value} {s : State} (h : ∀ w ∈ wordsLen, w.before a s = true) : Len.tab.before a s = true := by
  have hc : Cdr.tab.before a s = true := unparts (wk h (.code Cdr.yN Cdr.yB 1 (some .byte))) (wks h (.initialized Cdr.yN.cls :: Cdr.site))
  have q := consq hc h
  exact unparts (wk q (.code Len.yN Len.yB 1 (some .int))) (wks q (.initialized Len.yN.cls :: Len.site))
theorem movedLen {Z s : State} {a0 args : Array Value} (hZ : Z.Warmed39 s.vm) (hw : ∀ d ∈ wordsLen, d.before a0 Z = true) : ∀ d ∈ wordsLen, d.before args s = true := fun d hd => by
  have q := hw d hd
  have t : ∀ d ∈ wordsLen, d = .arrayClass .byte ∨ (d.onTables && d.keepsFace) = true := by decide +kernel
  rcases t d hd with rfl | t
  · exact RoadKit.mvA hZ q
  · exact RoadKit.mv hZ q t
/-- the bytes of the chars cs, low before high -/
def wideBytes : List Int32 → List Value
  | [] => []
  | c :: cs => .int (lo8 c) :: .int (hi8 c) :: wideBytes cs
theorem wide_lo (d : Value) : ∀ (cs : List Int32) (j : Nat), j < cs.length → (wideBytes cs).getD (2 * j) d = .int (lo8 (cs.getD j 0))
  | [], j, h => absurd h (Nat.not_lt_zero j)
  | c :: cs, 0, _ => rfl
  | c :: cs, j + 1, h => by
    have q := wide_lo d cs j (by simpa using h)
    rw [show 2 * (j + 1) = 2 * j + 1 + 1 from by omega]
    simpa [wideBytes] using q
theorem wide_hi (d : Value) : ∀ (cs : List Int32) (j : Nat), j < cs.length → (wideBytes cs).getD (2 * j + 1) d = .int (hi8 (cs.getD j 0))
  | [], j, h => absurd h (Nat.not_lt_zero j)
  | c :: cs, 0, _ => rfl
  | c :: cs, j + 1, h => by
    have q := wide_hi d cs j (by simpa using h)
    rw [show 2 * (j + 1) + 1 = 2 * j + 1 + 1 + 1 from by omega]
    simpa [wideBytes] using q
theorem low_at (d : Value) (cs : List Int32) (j : Nat) (h : j < cs.length) : (cs.map fun c => Value.int (lo8 c)).getD j d = .int (lo8 (cs.getD j 0)) := by
  simp [List.getD_eq_getElem?_getD, h]
/-- an array of N2 bytes vs codes the chars cs by the coder cd -/
def CodA (cs : List Int32) (cd N2 : Int32) (vs : List Value) : Prop := (cd = 0 ∧ N2 = Int32.ofNat cs.length ∧ vs = (cs.map fun c => Value.int (lo8 c)) ∧ ∀ c ∈ cs, ¬ 255 < c) ∨ (cd = 1 ∧ N2 = Int32.ofNat (2 * cs.length) ∧ vs = wideBytes cs ∧ ∃ c ∈ cs, 255 < c)
theorem CodA.cod {cs : List Int32} {cd N2 : Int32} {vs : List Value} {V : Cell} (h : CodA cs cd N2 vs) (hn : 2 * cs.length < 2 ^ 31) (hs : V.slots.size = N2.toNatClampNeg) (hv : RoadKit.Has V vs (.int 0)) : Cod cd cs.length (fun j => cs.getD j 0) V := by
  rcases h with ⟨rfl, rfl, rfl, h⟩ | ⟨rfl, rfl, rfl, c, hc, hw⟩
  · rw [n32 (by omega)] at hs
    exact Or.inl ⟨rfl, hs, fun j hj => ⟨by rw [hv j (by omega), low_at _ _ _ hj], by
      have e : cs.getD j 0 = cs[j] := by simp [List.getD_eq_getElem?_getD, hj]
      show ¬ 255 < cs.getD j 0
      rw [e]; exact h _ (List.getElem_mem _)⟩⟩
  · rw [n32 (by omega)] at hs
    obtain ⟨j, hj, rfl⟩ := List.getElem_of_mem hc
    exact Or.inr ⟨rfl, hs, fun j hj => ⟨by rw [hv _ (by omega), wide_lo _ _ _ hj], by rw [hv _ (by omega), wide_hi _ _ _ hj]⟩, j, hj, by
      have e : cs.getD j 0 = cs[j] := by simp [List.getD_eq_getElem?_getD, hj]
      show 255 < cs.getD j 0
      rw [e]; exact hw⟩
/-- an object of exactly java/lang/String, its two fields found: as the laws ask it -/
theorem strObj {Z U : State} {a0 : Array Value} {kI : Nat} (wi : (Jvm.Cond.instantiable ST kI).before a0 Z = true) (al : Z.vm.Alike U.vm) {x : Addr} {v0 c0 : Value} (E : RoadKit.Exa Z U.heap x ST) (V : RoadKit.Fld Z U.heap x ST "value" "[B" v0) (C : RoadKit.Fld Z U.heap x ST "coder" "B" c0) :
    ∃ (D : Cell) (fV fC : Field), Blank ST x D U ∧ Found ST "value" "[B" fV U ∧ Found ST "coder" "B" fC U ∧ D.slots[fV.slot]? = some v0 ∧ D.slots[fC.slot]? = some c0 ∧ RoadKit.slotOf Z ST "value" "[B" = fV.slot ∧ RoadKit.slotOf Z ST "coder" "B" = fC.slot := by
  obtain ⟨D, cfV, kV, iV, fV, hD, gV, stV, knV, obV, asV, slV⟩ := V
  obtain ⟨D', cfC, kC, iC, fC, hD', gC, stC, -, -, asC, slC⟩ := C
  cases hD.symm.trans hD'
  obtain ⟨D2, kD, e1, e2, e3, e4, e5⟩ := E
  cases hD.symm.trans e1
  obtain ⟨c2, k2, i1, i2, i3, -⟩ := Cond.instantiable_spec wi
  cases e2.symm.trans i1
  cases e3.symm.trans i2
  obtain ⟨kU, u1, u2⟩ := al.2.2 _ _ e3
  exact ⟨D, fV, fC, ⟨hD, ⟨knV, fun q hq => by rw [hq] at obV; cases obV⟩, by rw [al.findClass]; exact e2, kU, u1, by rw [u2]; exact i3, by rw [u2]; exact e5 i3⟩, ⟨SBG.found_only al ⟨cfV, kV, iV, gV⟩, stV⟩, ⟨SBG.found_only al ⟨cfC, kC, iC, gC⟩, stC⟩, slV, slC, by simp [RoadKit.slotOf, gV], by simp [RoadKit.slotOf, gC]⟩
theorem sta_is {Z U : State} (al : Z.vm.Alike U.vm) {C n d : String} {v : Value} (S : RoadKit.Sta Z U.heap C n d v) : StaticIs U C n d v := by
  obtain ⟨cfS, iS, kS, fS, st, cS, t1, t2, t3, t4, t5, t6, t7⟩ := S
  exact StaticIs.there (s := { Z with heap := U.heap }) ⟨cfS, iS, kS, fS, st, cS, t1, t2, t3, t4, t5, (fun q => by rw [q] at t6; cases t6), t7⟩ al rfl
/-- **length() OF SUCH A STRING** -/
theorem lenW {p : Program} {l : Launch} {e : Env} {R : Room} {s : State} {args : Array Value} {below : List Frame} {len W : Nat} {Z : State} {a0 : Array Value} {h : Heap} (hZ : Z.Warmed39 s.vm) (hw : ∀ d ∈ wordsLen, d.before a0 Z = true) {kI : Nat} (wi : (Jvm.Cond.instantiable ST kI).before a0 Z = true)
    {x t : Addr} {kb : ClassId} {cs : List Int32} {cd N2 z : Int32} {vs : List Value} (E : RoadKit.Exa Z h x ST) (V : RoadKit.Fld Z h x ST "value" "[B" (.ref t)) (C : RoadKit.Fld Z h x ST "coder" "B" (.int cd)) (K : RoadKit.Arv Z h t kb .byte N2 vs (.int 0)) (hc : CodA cs cd N2 vs) (hb : ∀ c ∈ cs, ¬ c < 0 ∧ ¬ (65535 : Int32) < c)
    (S : RoadKit.Sta Z h ST "COMPACT_STRINGS" "Z" (.int z)) (hz : ¬ z = 0) (l2 : cs.length ≤ 4000) (hfr : 2 ≤ R.frames) (hlo : W + 25 ≤ R.locals) :
    Back l R p e below s args (⟨"java/lang/String", "length", "()I"⟩ : MethodName) len W (fun P a => a = #[.ref x] ∧ P.U.heap = h ∧ P.cells + 0 ≤ R.cells ∧ P.slots + 0 ≤ R.slots)
      (fun P _ v B => ∃ L, (v = some (.int (Int32.ofNat cs.length)) ∧ L = [] ∧ B.U.heap = h) ∧ B.locs = P.locs ++ L ∧ B.cells = P.cells + 0 ∧ B.slots = P.slots + 0) := by
  obtain ⟨A, K1, K2, K3, K4, K5, K6⟩ := K
  have hcod := hc.cod (by omega) K3 K5
  intro m meth c P g ig mk a X hg hsize hdg hW hn hp'
  obtain ⟨rfl, rfl, r1, r2⟩ := hp'
  have al : Z.vm.Alike P.U.vm := hZ.alike.trans X.warmed.alike
  obtain ⟨D, fV, fC, hB, F1, F2, g1, g2, -, -⟩ := strObj wi al E V C
  have hx : Txt x t A cd cs.length (fun j => cs.getD j 0) P.U := ⟨⟨_, hB.2.2.1, D, hB.1, rfl, by cases q : D.vm <;> first | rfl | exact absurd q (hB.2.1.2 _)⟩, Has.of hB F1 g1, Has.of hB F2 g2, ⟨K1.1, State.isArrayOf_alike al K1.2.1, K1.2.2, by rcases hcod with ⟨-, q, -⟩ | ⟨-, q, -⟩ <;> omega⟩, hcod, fun j hj => by
    have e : cs.getD j 0 = cs[j] := by simp [List.getD_eq_getElem?_getD, hj]
    show ¬ cs.getD j 0 < 0 ∧ ¬ 65535 < cs.getD j 0
    rw [e]; exact hb _ (List.getElem_mem _)⟩
  obtain ⟨v, B, X', ⟨⟨hv, hh⟩, hl, hk, hs⟩, st⟩ := Len.pays x t A cd cs.length (fun j => cs.getD j 0) z (tabLen_of (movedLen hZ hw)) hfr hlo m meth c P g ig mk _ X hg hsize hdg hW hn ⟨r1, r2, rfl, hx, sta_is al S, hz⟩
  exact ⟨v, B, X', ⟨[], ⟨hv, rfl, hh⟩, hl, hk, hs⟩, st⟩
end StrChars.Road
namespace StrChars
open Jvm Sem ClassFile Op Lib Jvm.Stand Jvm.Free.XT Jvm.Free.ALB Jvm.Free.JM Jvm.Free
open Jvm.Lib.Cold (StaticIs)
/-- what place i of a byte[]'s cell holds -/
def yv (A : Cell) (i : Nat) : Int32 := match A.slots[i]? with | some (.int x) => x | _ => 0
theorem yv_get {a : Addr} {A : Cell} {U : State} (h : XT.Arr .byte a A U) (ht : Typed .byte A) {i : Nat} (hi : i < A.slots.size) : A.slots[i]? = some (.int (yv A i)) := by
  have e := Array.getElem?_eq_getElem hi
  have f := ht i _ e
  unfold yv; rw [e]
  generalize A.slots[i] = v at f
  cases v <;> simp [fits] at f ⊢
/-- the two arrays are equal, place for place -/
def EqC (A B : Cell) : Prop := A.slots.size = B.slots.size ∧ ∀ i, i < A.slots.size → yv A i = yv B i
/-- a boolean that says whether p -/
def Says01 (q : Prop) (r : Option Value) (s u : State) : Prop := ∃ v : Int32, r = some (.int v) ∧ u.heap = s.heap ∧ ((v = 1 ∧ q) ∨ (v = 0 ∧ ¬ q))
theorem Says01.mv {q : Prop} : ∀ r (U U' V V' : State), U'.heap = U.heap → V.vm.Alike V'.vm → V'.heap = V.heap → Says01 q r U V → Says01 q r U' V' :=
  fun r U U' V V' h1 _ h2 ⟨v, a, b, c⟩ => ⟨v, a, by rw [h1, h2]; exact b, c⟩
namespace LEq
def yN : MethodName := ⟨"java/lang/StringLatin1", "equals", "([B[B)Z"⟩
abbrev yB : ByteArray := jdk_43_method_13_code
theorem d0 : decode yB 0 = .ok (.aload_n 0, 1) := by decide +kernel
theorem d1 : decode yB 1 = .ok (.arraylength, 1) := by decide +kernel
theorem d2 : decode yB 2 = .ok (.aload_n 1, 1) := by decide +kernel
theorem d3 : decode yB 3 = .ok (.arraylength, 1) := by decide +kernel
theorem d4 : decode yB 4 = .ok (.if_icmp (.ne) 30, 3) := by decide +kernel
theorem d7 : decode yB 7 = .ok (.iconst 0, 1) := by decide +kernel
theorem d8 : decode yB 8 = .ok (.istore_n 2, 1) := by decide +kernel
theorem d9 : decode yB 9 = .ok (.iload_n 2, 1) := by decide +kernel
theorem d10 : decode yB 10 = .ok (.aload_n 0, 1) := by decide +kernel
theorem d11 : decode yB 11 = .ok (.arraylength, 1) := by decide +kernel
theorem d12 : decode yB 12 = .ok (.if_icmp (.ge) 20, 3) := by decide +kernel
theorem d15 : decode yB 15 = .ok (.aload_n 0, 1) := by decide +kernel
theorem d16 : decode yB 16 = .ok (.iload_n 2, 1) := by decide +kernel
theorem d17 : decode yB 17 = .ok (.baload, 1) := by decide +kernel
theorem d18 : decode yB 18 = .ok (.aload_n 1, 1) := by decide +kernel
theorem d19 : decode yB 19 = .ok (.iload_n 2, 1) := by decide +kernel
theorem d20 : decode yB 20 = .ok (.baload, 1) := by decide +kernel
theorem d21 : decode yB 21 = .ok (.if_icmp (.eq) 5, 3) := by decide +kernel
theorem d24 : decode yB 24 = .ok (.iconst 0, 1) := by decide +kernel
theorem d25 : decode yB 25 = .ok (.ireturn, 1) := by decide +kernel
theorem d26 : decode yB 26 = .ok (.iinc 2 1, 3) := by decide +kernel
theorem d29 : decode yB 29 = .ok (.goto (-20), 3) := by decide +kernel
theorem d32 : decode yB 32 = .ok (.iconst 1, 1) := by decide +kernel
theorem d33 : decode yB 33 = .ok (.ireturn, 1) := by decide +kernel
theorem d34 : decode yB 34 = .ok (.iconst 0, 1) := by decide +kernel
theorem d35 : decode yB 35 = .ok (.ireturn, 1) := by decide +kernel
def site : List Cond := []
def tab : Cond := tabOf yN yB 3 (some .boolean) site
def P (a : Addr) (A : Cell) (b : Addr) (B : Cell) (args : Array Value) (s : State) : Prop := args = #[.ref a, .ref b] ∧ XT.Arr .byte a A s ∧ Typed .byte A ∧ XT.Arr .byte b B s ∧ Typed .byte B
/-- whether two byte[] are equal, place for place -/
theorem law (l : Launch) (a : Addr) (A : Cell) (b : Addr) (B : Cell) : Law l yN 2 2 0 0 yB 3 (some .boolean) site (P a A b B) (Says01 (EqC A B)) [] 0 0 := by
  refine Law.of_walk (plainFor_of_name (by decide +kernel)) (by decide +kernel) (by decide +kernel) (by decide) (fun _ _ h => by rw [h.1]; rfl) (fun _ U U' hal hh h => ⟨h.1, h.2.1.mv hal hh, h.2.2.1, h.2.2.2.1.mv hal hh, h.2.2.2.2⟩) (fun r U U' V V' h1 hal h2 h => Says01.mv r U U' V V' h1 hal h2 h) ?_
  intro p e s m args below meth c s₁ X0 hexec hbytes hml hret hlk hnm hown hh0 W hP
  obtain ⟨rfl, hA, tA, hB, tB⟩ := hP
  have a31 := hA.2.2.2
  have b31 := hB.2.2.2
  have hA0 := hA.mv X0.warmed.alike hh0
  have hB0 := hB.mv X0.warmed.alike hh0
  have c1 : Steps p.tables e below (s₁.setTop (entryFrame m #[.ref a, .ref b] 3)) (s₁.setTop (mkF m 0 #[.val (.ref a), .val (.ref b), .unset] [])) := entry rfl
  have c2 : Steps p.tables e below (s₁.setTop (entryFrame m #[.ref a, .ref b] 3)) (s₁.setTop (mkF m 4 #[.val (.ref a), .val (.ref b), .unset] [.int (Int32.ofNat B.slots.size), .int (Int32.ofNat A.slots.size)])) := c1.trans (by
    refine XS.aloadN X0.here hexec rfl (hb hbytes d0) rfl rfl ?_
    refine X0.alen hexec hA0 rfl rfl (hb hbytes d1) ?_
    refine XS.aloadN X0.here hexec rfl (hb hbytes d2) rfl rfl ?_
    refine X0.alen hexec hB0 rfl rfl (hb hbytes d3) ?_
    exact Steps.refl _)
  by_cases hs : A.slots.size = B.slots.size
  · have c3 : Steps p.tables e below (s₁.setTop (entryFrame m #[.ref a, .ref b] 3)) (s₁.setTop (mkF m 9 #[.val (.ref a), .val (.ref b), .val (.int 0)] [])) := c2.trans (by
      refine XS.icmpNo X0.here hexec rfl (hb hbytes d4) rfl (ii_ne_f (by rw [hs])) ?_
      refine iconstV X0.here hexec rfl 0 (hb hbytes d7) (by decide) ?_
      refine XS.istoreN X0.here hexec rfl (hb hbytes d8) rfl rfl ?_
      exact Steps.refl _)
    have loop : ∀ (r i : Nat), i + r = A.slots.size → (∀ j, j < i → yv A j = yv B j) → Steps p.tables e below (s₁.setTop (entryFrame m #[.ref a, .ref b] 3)) (s₁.setTop (mkF m 9 #[.val (.ref a), .val (.ref b), .val (.int (Int32.ofNat i))] [])) → ∃ (pc : Nat) (Ls : Array Slot) (v : Int32), (pc = 25 ∨ pc = 33) ∧ ((v = 1 ∧ EqC A B) ∨ (v = 0 ∧ ¬ EqC A B)) ∧ Steps p.tables e below (s₁.setTop (entryFrame m #[.ref a, .ref b] 3)) (s₁.setTop (mkF m pc Ls [.int v])) := by
      intro r
      induction r with
      | zero =>
        intro i hi he cl
        exact ⟨33, _, 1, Or.inr rfl, Or.inl ⟨rfl, hs, fun j hj => he j (by omega)⟩, cl.trans (by
          refine XS.iloadN X0.here hexec rfl (hb hbytes d9) rfl ?_
          refine XS.aloadN X0.here hexec rfl (hb hbytes d10) rfl rfl ?_
          refine X0.alen hexec hA0 rfl rfl (hb hbytes d11) ?_
          refine XS.icmpYes X0.here hexec rfl (pc0 := 12) rfl (hb hbytes d12) rfl (ii_ge_t (nlt32 (by omega) (by omega))) (by decide) rfl ?_
          refine iconstV X0.here hexec rfl 1 (hb hbytes d32) (by decide) ?_
          exact Steps.refl _)⟩
      | succ r ih =>
        intro i hi he cl
        have c4 : Steps p.tables e below (s₁.setTop (entryFrame m #[.ref a, .ref b] 3)) (s₁.setTop (mkF m 21 #[.val (.ref a), .val (.ref b), .val (.int (Int32.ofNat i))] [.int (yv B i), .int (yv A i)])) := cl.trans (by
          refine XS.iloadN X0.here hexec rfl (hb hbytes d9) rfl ?_
          refine XS.aloadN X0.here hexec rfl (hb hbytes d10) rfl rfl ?_
          refine X0.alen hexec hA0 rfl rfl (hb hbytes d11) ?_
          refine XS.icmpNo X0.here hexec rfl (hb hbytes d12) rfl (ii_ge_f (lt32 (by omega) (by omega))) ?_
          refine XS.aloadN X0.here hexec rfl (hb hbytes d15) rfl rfl ?_
          refine XS.iloadN X0.here hexec rfl (hb hbytes d16) rfl ?_
          refine X0.aget hexec hA0 rfl (yv_get hA tA (i := i) (by omega)) rfl rfl (hb hbytes d17) ?_
          refine XS.aloadN X0.here hexec rfl (hb hbytes d18) rfl rfl ?_
          refine XS.iloadN X0.here hexec rfl (hb hbytes d19) rfl ?_
          refine X0.aget hexec hB0 rfl (yv_get hB tB (i := i) (by omega)) rfl rfl (hb hbytes d20) ?_
          exact Steps.refl _)
        by_cases hv : yv A i = yv B i
        · have c5 : Steps p.tables e below (s₁.setTop (entryFrame m #[.ref a, .ref b] 3)) (s₁.setTop (mkF m 9 #[.val (.ref a), .val (.ref b), .val (.int (Int32.ofNat i + 1))] [])) := c4.trans (by
            refine XS.icmpYes X0.here hexec rfl (pc0 := 21) rfl (hb hbytes d21) rfl (ii_eq_t hv) (by decide) rfl ?_
            refine iincV X0.here hexec rfl 1 (hb hbytes d26) (by decide) rfl rfl ?_
            refine XS.goto X0.here hexec rfl (pc0 := 29) rfl (hb hbytes d29) (by decide) rfl ?_
            exact Steps.refl _)
          rw [succ32] at c5
          exact ih (i + 1) (by omega) (fun j hj => by
            by_cases e : j = i
            · rw [e]; exact hv
            · exact he j (by omega)) c5
        · exact ⟨25, _, 0, Or.inl rfl, Or.inr ⟨rfl, fun q => hv (q.2 i (by omega))⟩, c4.trans (by
            refine XS.icmpNo X0.here hexec rfl (hb hbytes d21) rfl (ii_eq_f hv) ?_
            refine iconstV X0.here hexec rfl 0 (hb hbytes d24) (by decide) ?_
            exact Steps.refl _)⟩
    obtain ⟨pc, Ls, v, hpc, hv, cz⟩ := loop A.slots.size 0 (by omega) (fun j hj => absurd hj (Nat.not_lt_zero j)) c3
    have nv : narrow .boolean (.int v) = .int v := by rcases hv with ⟨rfl, -⟩ | ⟨rfl, -⟩ <;> rfl
    rcases hpc with rfl | rfl
    · exact ⟨s₁, some (.int v), _, _, _, X0, rfl, rfl, rfl, (fun h => by cases h), ⟨v, rfl, hh0, hv⟩, fun fs hl => cz.trans (X0.ireturnOut hexec hret nv (Or.inr (Or.inl rfl)) (hb hbytes d25) hl)⟩
    · exact ⟨s₁, some (.int v), _, _, _, X0, rfl, rfl, rfl, (fun h => by cases h), ⟨v, rfl, hh0, hv⟩, fun fs hl => cz.trans (X0.ireturnOut hexec hret nv (Or.inr (Or.inl rfl)) (hb hbytes d33) hl)⟩
  · have c3 : Steps p.tables e below (s₁.setTop (entryFrame m #[.ref a, .ref b] 3)) (s₁.setTop (mkF m 35 #[.val (.ref a), .val (.ref b), .unset] [.int 0])) := c2.trans (by
      refine XS.icmpYes X0.here hexec rfl (pc0 := 4) rfl (hb hbytes d4) rfl (ii_ne_t (ne32 a31 b31 hs)) (by decide) rfl ?_
      refine iconstV X0.here hexec rfl 0 (hb hbytes d34) (by decide) ?_
      exact Steps.refl _)
    exact ⟨s₁, some (.int 0), _, _, _, X0, rfl, rfl, rfl, (fun h => by cases h), ⟨0, rfl, hh0, Or.inr ⟨rfl, fun q => hs q.1⟩⟩, fun fs hl => c3.trans (X0.ireturnOut hexec hret rfl (Or.inr (Or.inl rfl)) (hb hbytes d35) hl)⟩
end LEq
theorem Cod.ty {cd : Int32} {n : Nat} {f : Nat → Int32} {V : Cell} (h : Cod cd n f V) : Typed .byte V := fun i v hv => by
  have hi : i < V.slots.size := (Array.getElem?_eq_some_iff.mp hv).1
  rcases h with ⟨-, k1, k2⟩ | ⟨-, k1, k2, -⟩
  · rw [(k2 i (by omega)).1] at hv; cases hv; exact fits_lo8 _
  · rcases Nat.mod_two_eq_zero_or_one i with e | e
    · obtain ⟨j, rfl⟩ : ∃ j, i = 2 * j := ⟨i / 2, by omega⟩
      rw [(k2 j (by omega)).1] at hv; cases hv; exact fits_lo8 _
    · obtain ⟨j, rfl⟩ : ∃ j, i = 2 * j + 1 := ⟨i / 2, by omega⟩
      rw [(k2 j (by omega)).2] at hv; cases hv; exact fits_lo8 _
/-- the same text -/
def SameT (n : Nat) (f : Nat → Int32) (k : Nat) (g : Nat → Int32) : Prop := n = k ∧ ∀ j, j < n → f j = g j
theorem lo8_inj {x y : Int32} (h0 : ¬ x < 0) (h1 : ¬ 255 < x) (k0 : ¬ y < 0) (k1 : ¬ 255 < y) (h : lo8 x = lo8 y) : x = y := by
  rw [← lo8_mask h0 h1, ← lo8_mask k0 k1, h]
/-- arrays coded by one coder are equal just where the texts are -/
theorem Cod.eqv {cd : Int32} {n k : Nat} {f g : Nat → Int32} {V V' : Cell} (h : Cod cd n f V) (h' : Cod cd k g V') (hf : ∀ j, j < n → ¬ f j < 0 ∧ ¬ 65535 < f j) (hg : ∀ j, j < k → ¬ g j < 0 ∧ ¬ 65535 < g j) : EqC V V' ↔ SameT n f k g := by
  have yvv : ∀ {W : Cell} {i : Nat} {x : Int32}, W.slots[i]? = some (.int x) → yv W i = x := fun q => by unfold yv; rw [q]
  rcases h with ⟨rfl, k1, k2⟩ | ⟨rfl, k1, k2, -⟩
  · rcases h' with ⟨-, m1, m2⟩ | ⟨e, -⟩
    · constructor
      · rintro ⟨e1, e2⟩
        refine ⟨by omega, fun j hj => ?_⟩
        have q := e2 j (by omega)
        rw [yvv (k2 j hj).1, yvv (m2 j (by omega)).1] at q
        exact lo8_inj (hf j hj).1 (k2 j hj).2 (hg j (by omega)).1 (m2 j (by omega)).2 q
      · rintro ⟨rfl, e2⟩
        refine ⟨by omega, fun j hj => ?_⟩
        rw [yvv (k2 j (by omega)).1, yvv (m2 j (by omega)).1, e2 j (by omega)]
    · exact absurd e (by decide)
  · rcases h' with ⟨e, -⟩ | ⟨-, m1, m2, -⟩
    · exact absurd e (by decide)
    · constructor
      · rintro ⟨e1, e2⟩
        refine ⟨by omega, fun j hj => ?_⟩
        have q1 := e2 (2 * j) (by omega)
        have q2 := e2 (2 * j + 1) (by omega)
        rw [yvv (k2 j hj).1, yvv (m2 j (by omega)).1] at q1
        rw [yvv (k2 j hj).2, yvv (m2 j (by omega)).2] at q2
        rw [← pair_says (hf j hj).1 (hf j hj).2, ← pair_says (hg j (by omega)).1 (hg j (by omega)).2, q1, q2]
      · rintro ⟨rfl, e2⟩
        refine ⟨by omega, fun i hi => ?_⟩
        rcases Nat.mod_two_eq_zero_or_one i with e | e
        · obtain ⟨j, rfl⟩ : ∃ j, i = 2 * j := ⟨i / 2, by omega⟩
          rw [yvv (k2 j (by omega)).1, yvv (m2 j (by omega)).1, e2 j (by omega)]
        · obtain ⟨j, rfl⟩ : ∃ j, i = 2 * j + 1 := ⟨i / 2, by omega⟩
          rw [yvv (k2 j (by omega)).2, yvv (m2 j (by omega)).2, e2 j (by omega)]
/-- two codings differ: so do the texts -/
theorem Cod.dif {cd cd' : Int32} {n k : Nat} {f g : Nat → Int32} {V V' : Cell} (h : Cod cd n f V) (h' : Cod cd' k g V') (hne : ¬ cd = cd') : ¬ SameT n f k g := by
  rintro ⟨rfl, e⟩
  rcases h with ⟨rfl, -, k2⟩ | ⟨rfl, -, -, j, hj, hw⟩
  · rcases h' with ⟨rfl, -⟩ | ⟨-, -, -, j, hj, hw⟩
    · exact hne rfl
    · exact (k2 j hj).2 (by rw [e j hj]; exact hw)
  · rcases h' with ⟨-, -, m2⟩ | ⟨rfl, -⟩
    · exact (m2 j hj).2 (by rw [← e j hj]; exact hw)
    · exact hne rfl
/-- an object of exactly C is an instance of C -/
theorem cinst {p : Program} {l : Launch} {e : Env} {R : Room} {s : State} {m : MethodId} {args : Array Value} {below : List Frame} {meth : Method} {c : Code} {T : State} {locs : List Loc} {cells slots : Nat} (X : Stand p l e R s m args below meth c T locs cells slots) (hexec : p.tables.exec = Jvm.exec) {own C : String} {index : Nat} (hown : s.vm.findClass own = some m.cls) (hlink : (Cond.classLink own index C).before args s = true) {a : Addr} (hE : Exact C a T)
    {g : JFrame} (hg : g.method = m) {rest : List Value} (hstack : g.stack = .ref a :: rest) (hdg : decode c.code g.pc = .ok (.instanceof index, 3)) :
    ∃ T', Stand p l e R s m args below meth c T' locs cells slots ∧ T'.heap = T.heap ∧ ∀ target, Steps p.tables e below (T'.setTop { g with pc := g.pc + 3, stack := .int 1 :: rest }) target → Steps p.tables e below (T.setTop g) target := by
  obtain ⟨cB, h1, D, h2, h3, h4⟩ := hE
  have h1' : s.vm.findClass C = some cB := by rw [← X.warmed.alike.findClass]; exact h1
  obtain ⟨vm', X', st⟩ := X.instanceofYes hexec hown hlink h2 h4 h1' (by rw [h3]; exact Jvm.Free.SB.assignable_self _ _) hg hstack hdg
  exact ⟨_, X', rfl, st⟩
theorem cself {p : Program} {l : Launch} {e : Env} {R : Room} {s : State} {m : MethodId} {args : Array Value} {below : List Frame} {meth : Method} {c : Code} {T : State} {locs : List Loc} {cells slots : Nat} (X : Stand p l e R s m args below meth c T locs cells slots) (hexec : p.tables.exec = Jvm.exec) {own C : String} {index : Nat} (hown : s.vm.findClass own = some m.cls) (hlink : (Cond.classLink own index C).before args s = true) {a : Addr} (hE : Exact C a T)
    {g : JFrame} (hg : g.method = m) {rest : List Value} (hstack : g.stack = .ref a :: rest) (hdg : decode c.code g.pc = .ok (.checkcast index, 3)) :
    ∃ T', Stand p l e R s m args below meth c T' locs cells slots ∧ T'.heap = T.heap ∧ ∀ target, Steps p.tables e below (T'.setTop { g with pc := g.pc + 3, stack := .ref a :: rest }) target → Steps p.tables e below (T.setTop g) target := by
  obtain ⟨cB, h1, D, h2, h3, h4⟩ := hE
  have h1' : s.vm.findClass C = some cB := by rw [← X.warmed.alike.findClass]; exact h1
  obtain ⟨vm', X', st⟩ := X.checkcastYes hexec hown hlink h2 h4 h1' (by rw [h3]; exact Jvm.Free.SB.assignable_self _ _) hg hstack hdg
  exact ⟨_, X', rfl, fun t h => st t (by rw [← hstack] at h; exact h)⟩
namespace SEq
def yN : MethodName := ⟨"java/lang/String", "equals", "(Ljava/lang/Object;)Z"⟩
abbrev yB : ByteArray := jdk_42_method_66_code
theorem d0 : decode yB 0 = .ok (.aload_n 0, 1) := by decide +kernel
theorem d1 : decode yB 1 = .ok (.aload_n 1, 1) := by decide +kernel
theorem d2 : decode yB 2 = .ok (.if_acmp (.ne) 5, 3) := by decide +kernel
theorem d5 : decode yB 5 = .ok (.iconst 1, 1) := by decide +kernel
theorem d6 : decode yB 6 = .ok (.ireturn, 1) := by decide +kernel
theorem d7 : decode yB 7 = .ok (.aload_n 1, 1) := by decide +kernel
theorem d8 : decode yB 8 = .ok (.instanceof 10, 3) := by decide +kernel
theorem d11 : decode yB 11 = .ok (.ifCond (.eq) 43, 3) := by decide +kernel
theorem d14 : decode yB 14 = .ok (.aload_n 1, 1) := by decide +kernel
theorem d15 : decode yB 15 = .ok (.checkcast 10, 3) := by decide +kernel
theorem d18 : decode yB 18 = .ok (.astore_n 2, 1) := by decide +kernel
theorem d19 : decode yB 19 = .ok (.getstatic 38, 3) := by decide +kernel
theorem d22 : decode yB 22 = .ok (.ifCond (.eq) 14, 3) := by decide +kernel
theorem d25 : decode yB 25 = .ok (.aload_n 0, 1) := by decide +kernel
theorem d26 : decode yB 26 = .ok (.getfield 15, 3) := by decide +kernel
theorem d29 : decode yB 29 = .ok (.aload_n 2, 1) := by decide +kernel
theorem d30 : decode yB 30 = .ok (.getfield 15, 3) := by decide +kernel
theorem d33 : decode yB 33 = .ok (.if_icmp (.ne) 21, 3) := by decide +kernel
theorem d36 : decode yB 36 = .ok (.aload_n 0, 1) := by decide +kernel
theorem d37 : decode yB 37 = .ok (.getfield 9, 3) := by decide +kernel
theorem d40 : decode yB 40 = .ok (.aload_n 2, 1) := by decide +kernel
theorem d41 : decode yB 41 = .ok (.getfield 9, 3) := by decide +kernel
theorem d44 : decode yB 44 = .ok (.invokestatic 541, 3) := by decide +kernel
theorem d47 : decode yB 47 = .ok (.ifCond (.eq) 7, 3) := by decide +kernel
theorem d50 : decode yB 50 = .ok (.iconst 1, 1) := by decide +kernel
theorem d51 : decode yB 51 = .ok (.goto 4, 3) := by decide +kernel
theorem d54 : decode yB 54 = .ok (.iconst 0, 1) := by decide +kernel
theorem d55 : decode yB 55 = .ok (.ireturn, 1) := by decide +kernel
def site : List Cond := [.classLink "java/lang/String" 10 "java/lang/String", .fieldLink "java/lang/String" 38 "java/lang/String" "COMPACT_STRINGS" "Z", .fieldLink "java/lang/String" 15 "java/lang/String" "coder" "B", .fieldLink "java/lang/String" 9 "java/lang/String" "value" "[B", LEq.tab] ++ staticW "java/lang/String" 541 LEq.yN
def tab : Cond := tabOf yN yB 3 (some .boolean) site
def P (x t : Addr) (V : Cell) (cd : Int32) (n : Nat) (f : Nat → Int32) (y t' : Addr) (V' : Cell) (cd' : Int32) (k : Nat) (g : Nat → Int32) (z : Int32) (args : Array Value) (s : State) : Prop := args = #[.ref x, .ref y] ∧ Txt x t V cd n f s ∧ Txt y t' V' cd' k g s ∧ StaticIs s "java/lang/String" "COMPACT_STRINGS" "Z" (.int z) ∧ ¬ z = 0
/-- equals(Object) of two Strings: whether the texts are the same -/
theorem law (l : Launch) (x t : Addr) (V : Cell) (cd : Int32) (n : Nat) (f : Nat → Int32) (y t' : Addr) (V' : Cell) (cd' : Int32) (k : Nat) (g : Nat → Int32) (z : Int32) : Law l yN 2 1 1 14 yB 3 (some .boolean) site (P x t V cd n f y t' V' cd' k g z) (Says01 (SameT n f k g)) [] 0 0 := by
  refine Law.of_walk (plainFor_of_name (by decide +kernel)) (by decide +kernel) (by decide +kernel) (by decide) (fun _ _ h => by rw [h.1]; rfl) (fun _ U U' hal hh h => ⟨h.1, h.2.1.mv hal hh, h.2.2.1.mv hal hh, h.2.2.2.1.there hal hh, h.2.2.2.2⟩) (fun r U U' V V' h1 hal h2 h => Says01.mv r U U' V V' h1 hal h2 h) ?_
  intro p e s m args below meth c s₁ X0 hexec hbytes hml hret hlk hnm hown hh0 W hP
  obtain ⟨rfl, hx, hy, s1, hz⟩ := hP
  have c1 : Steps p.tables e below (s₁.setTop (entryFrame m #[.ref x, .ref y] 3)) (s₁.setTop (mkF m 2 #[.val (.ref x), .val (.ref y), .unset] [.ref y, .ref x])) := Steps.trans (entry rfl) (by
    show Steps p.tables e below (s₁.setTop (mkF m 0 #[.val (.ref x), .val (.ref y), .unset] [])) _
    refine XS.aloadN X0.here hexec rfl (hb hbytes d0) rfl rfl ?_
    refine XS.aloadN X0.here hexec rfl (hb hbytes d1) rfl rfl ?_
    exact Steps.refl _)
  by_cases hxy : x = y
  · have c2 : Steps p.tables e below (s₁.setTop (entryFrame m #[.ref x, .ref y] 3)) (s₁.setTop (mkF m 6 #[.val (.ref x), .val (.ref y), .unset] [.int 1])) := c1.trans (by
      refine acmpNo X0.here hexec rfl (hb hbytes d2) rfl rfl rfl (by simp [acmp, hxy]) ?_
      refine iconstV X0.here hexec rfl 1 (hb hbytes d5) (by decide) ?_
      exact Steps.refl _)
    subst hxy
    have ec : cd = cd' := by
      obtain ⟨D, fd, a1, a2, a3⟩ := hx.2.2.1
      obtain ⟨D', fd', b1, b2, b3⟩ := hy.2.2.1
      cases a1.symm.trans b1
      obtain ⟨q1, q2, q3, q4⟩ := a2.1
      obtain ⟨r1, r2, r3, r4⟩ := b2.1
      cases q4.symm.trans r4
      cases a3.symm.trans b3; rfl
    have et : t = t' := by
      obtain ⟨D, fd, a1, a2, a3⟩ := hx.2.1
      obtain ⟨D', fd', b1, b2, b3⟩ := hy.2.1
      cases a1.symm.trans b1
      obtain ⟨q1, q2, q3, q4⟩ := a2.1
      obtain ⟨r1, r2, r3, r4⟩ := b2.1
      cases q4.symm.trans r4
      cases a3.symm.trans b3; rfl
    subst ec et
    have ev : V = V' := by cases hx.2.2.2.1.1.symm.trans hy.2.2.2.1.1; rfl
    subst ev
    have hs : SameT n f k g := (Cod.eqv hx.2.2.2.2.1 hy.2.2.2.2.1 hx.2.2.2.2.2 hy.2.2.2.2.2).mp ⟨rfl, fun _ _ => rfl⟩
    exact ⟨s₁, some (.int 1), _, _, _, X0, rfl, rfl, rfl, (fun h => by cases h), ⟨1, rfl, hh0, Or.inl ⟨rfl, hs⟩⟩, fun fs hl => c2.trans (X0.ireturnOut hexec hret rfl (Or.inr (Or.inl rfl)) (hb hbytes d6) hl)⟩
  · have c2 : Steps p.tables e below (s₁.setTop (entryFrame m #[.ref x, .ref y] 3)) (s₁.setTop (mkF m 8 #[.val (.ref x), .val (.ref y), .unset] [.ref y])) := c1.trans (by
      refine acmpYes X0.here hexec rfl (pc0 := 2) rfl (hb hbytes d2) rfl rfl rfl (by simp [acmp, hxy]) (by decide) rfl ?_
      refine XS.aloadN X0.here hexec rfl (hb hbytes d7) rfl rfl ?_
      exact Steps.refl _)
    obtain ⟨T3, X3, q3, st3⟩ := cinst X0 hexec hown (wk W (.classLink "java/lang/String" 10 "java/lang/String")) (hy.mv X0.warmed.alike hh0).1 (g := (mkF m 8 #[.val (.ref x), .val (.ref y), .unset] [.ref y])) rfl (rest := []) rfl (hb hbytes d8)
    have hh3 := q3.trans hh0
    have c4 : Steps p.tables e below (s₁.setTop (entryFrame m #[.ref x, .ref y] 3)) (T3.setTop (mkF m 15 #[.val (.ref x), .val (.ref y), .unset] [.ref y])) := (c2.trans (st3 _ (Steps.refl _))).trans (by
      refine XS.ifNo X3.here hexec rfl (hb hbytes d11) rfl (i0_eq_f (by decide)) ?_
      refine XS.aloadN X3.here hexec rfl (hb hbytes d14) rfl rfl ?_
      exact Steps.refl _)
    obtain ⟨T5, X5, q5, st5⟩ := cself X3 hexec hown (wk W (.classLink "java/lang/String" 10 "java/lang/String")) (hy.mv X3.warmed.alike hh3).1 (g := (mkF m 15 #[.val (.ref x), .val (.ref y), .unset] [.ref y])) rfl (rest := []) rfl (hb hbytes d15)
    have hh5 := q5.trans hh3
    have c6 : Steps p.tables e below (s₁.setTop (entryFrame m #[.ref x, .ref y] 3)) (T5.setTop (mkF m 19 #[.val (.ref x), .val (.ref y), .val (.ref y)] [])) := (c4.trans (st5 _ (Steps.refl _))).trans (by
      refine XS.astoreN X5.here hexec rfl (hb hbytes d18) rfl rfl rfl ?_
      exact Steps.refl _)
    obtain ⟨T7, X7, q7, st7⟩ := X5.sget hexec hown (wk W (.fieldLink "java/lang/String" 38 "java/lang/String" "COMPACT_STRINGS" "Z")) s1 (fun _ _ h => by rw [hh5]; exact h) (g := (mkF m 19 #[.val (.ref x), .val (.ref y), .val (.ref y)] [])) rfl (hb hbytes d19)
    have hh7 := q7.trans hh5
    have c8 : Steps p.tables e below (s₁.setTop (entryFrame m #[.ref x, .ref y] 3)) (T7.setTop (mkF m 26 #[.val (.ref x), .val (.ref y), .val (.ref y)] [.ref x])) := (c6.trans (st7 _ (Steps.refl _))).trans (by
      refine XS.ifNo X7.here hexec rfl (hb hbytes d22) rfl (i0_eq_f hz) ?_
      refine XS.aloadN X7.here hexec rfl (hb hbytes d25) rfl rfl ?_
      exact Steps.refl _)
    obtain ⟨T9, X9, q9, st9⟩ := X7.hget hexec hown (wk W (.fieldLink "java/lang/String" 15 "java/lang/String" "coder" "B")) (hx.mv X7.warmed.alike hh7).2.2.1 (g := (mkF m 26 #[.val (.ref x), .val (.ref y), .val (.ref y)] [.ref x])) rfl (rest := []) rfl (hb hbytes d26)
    have hh9 := q9.trans hh7
    have c10 : Steps p.tables e below (s₁.setTop (entryFrame m #[.ref x, .ref y] 3)) (T9.setTop (mkF m 30 #[.val (.ref x), .val (.ref y), .val (.ref y)] [.ref y, .int cd])) := (c8.trans (st9 _ (Steps.refl _))).trans (by
      refine XS.aloadN X9.here hexec rfl (hb hbytes d29) rfl rfl ?_
      exact Steps.refl _)
    obtain ⟨T11, X11, q11, st11⟩ := X9.hget hexec hown (wk W (.fieldLink "java/lang/String" 15 "java/lang/String" "coder" "B")) (hy.mv X9.warmed.alike hh9).2.2.1 (g := (mkF m 30 #[.val (.ref x), .val (.ref y), .val (.ref y)] [.ref y, .int cd])) rfl (rest := [.int cd]) rfl (hb hbytes d30)
    have hh11 := q11.trans hh9
    have c12 : Steps p.tables e below (s₁.setTop (entryFrame m #[.ref x, .ref y] 3)) (T11.setTop (mkF m 33 #[.val (.ref x), .val (.ref y), .val (.ref y)] [.int cd', .int cd])) := c10.trans (st11 _ (Steps.refl _))
    by_cases hcd : cd = cd'
    · subst hcd
      have c13 : Steps p.tables e below (s₁.setTop (entryFrame m #[.ref x, .ref y] 3)) (T11.setTop (mkF m 37 #[.val (.ref x), .val (.ref y), .val (.ref y)] [.ref x])) := c12.trans (by
        refine XS.icmpNo X11.here hexec rfl (hb hbytes d33) rfl (ii_ne_f rfl) ?_
        refine XS.aloadN X11.here hexec rfl (hb hbytes d36) rfl rfl ?_
        exact Steps.refl _)
      obtain ⟨T14, X14, q14, st14⟩ := X11.hget hexec hown (wk W (.fieldLink "java/lang/String" 9 "java/lang/String" "value" "[B")) (hx.mv X11.warmed.alike hh11).2.1 (g := (mkF m 37 #[.val (.ref x), .val (.ref y), .val (.ref y)] [.ref x])) rfl (rest := []) rfl (hb hbytes d37)
      have hh14 := q14.trans hh11
      have c15 : Steps p.tables e below (s₁.setTop (entryFrame m #[.ref x, .ref y] 3)) (T14.setTop (mkF m 41 #[.val (.ref x), .val (.ref y), .val (.ref y)] [.ref y, .ref t])) := (c13.trans (st14 _ (Steps.refl _))).trans (by
        refine XS.aloadN X14.here hexec rfl (hb hbytes d40) rfl rfl ?_
        exact Steps.refl _)
      obtain ⟨T16, X16, q16, st16⟩ := X14.hget hexec hown (wk W (.fieldLink "java/lang/String" 9 "java/lang/String" "value" "[B")) (hy.mv X14.warmed.alike hh14).2.1 (g := (mkF m 41 #[.val (.ref x), .val (.ref y), .val (.ref y)] [.ref y, .ref t])) rfl (rest := [.ref t]) rfl (hb hbytes d41)
      have hh16 := q16.trans hh14
      have c17 : Steps p.tables e below (s₁.setTop (entryFrame m #[.ref x, .ref y] 3)) (T16.setTop (mkF m 44 #[.val (.ref x), .val (.ref y), .val (.ref y)] [.ref t', .ref t])) := c15.trans (st16 _ (Steps.refl _))
      obtain ⟨v18, T18, X18, E18, g18⟩ := X16.callS hexec (LEq.law l t V t' V') hown (wks W (staticW "java/lang/String" 541 LEq.yN)) (wk W LEq.tab) (W := 0) (Nat.le_of_ble_eq_true rfl) (Nat.le_of_ble_eq_true rfl) (Nat.le_refl _) (Nat.le_refl _) (g := (mkF m 44 #[.val (.ref x), .val (.ref y), .val (.ref y)] [.ref t', .ref t])) rfl (by rw [hml]; rfl) c17 (argsL := [.ref t, .ref t']) (rest := []) rfl rfl (by show 2 * 0 + 0 ≤ _; decide) (hb hbytes d44) (⟨rfl, hx.2.2.2.1.mv X16.warmed.alike hh16, hx.2.2.2.2.1.ty, hy.2.2.2.1.mv X16.warmed.alike hh16, hy.2.2.2.2.1.ty⟩)
      obtain ⟨v, rfl, q18, hv⟩ := E18
      have iff := Cod.eqv hx.2.2.2.2.1 hy.2.2.2.2.1 hx.2.2.2.2.2 hy.2.2.2.2.2
      rcases hv with ⟨rfl, he⟩ | ⟨rfl, he⟩
      · have c19 : Steps p.tables e below (s₁.setTop (entryFrame m #[.ref x, .ref y] 3)) (T18.setTop (mkF m 55 #[.val (.ref x), .val (.ref y), .val (.ref y)] [.int 1])) := Steps.trans g18 (by
          refine XS.ifNo X18.here hexec rfl (hb hbytes d47) rfl (i0_eq_f (by decide)) ?_
          refine iconstV X18.here hexec rfl 1 (hb hbytes d50) (by decide) ?_
          refine XS.goto X18.here hexec rfl (pc0 := 51) rfl (hb hbytes d51) (by decide) rfl ?_
          exact Steps.refl _)
        exact ⟨T18, some (.int 1), _, _, _, X18, rfl, rfl, rfl, (fun h => by cases h), ⟨1, rfl, q18.trans hh16, Or.inl ⟨rfl, iff.mp he⟩⟩, fun fs hl => c19.trans (X18.ireturnOut hexec hret rfl (Or.inr (Or.inl rfl)) (hb hbytes d55) hl)⟩
      · have c19 : Steps p.tables e below (s₁.setTop (entryFrame m #[.ref x, .ref y] 3)) (T18.setTop (mkF m 55 #[.val (.ref x), .val (.ref y), .val (.ref y)] [.int 0])) := Steps.trans g18 (by
          refine XS.ifYes X18.here hexec rfl (pc0 := 47) rfl (hb hbytes d47) rfl (i0_eq_t rfl) (by decide) rfl ?_
          refine iconstV X18.here hexec rfl 0 (hb hbytes d54) (by decide) ?_
          exact Steps.refl _)
        exact ⟨T18, some (.int 0), _, _, _, X18, rfl, rfl, rfl, (fun h => by cases h), ⟨0, rfl, q18.trans hh16, Or.inr ⟨rfl, fun q => he (iff.mpr q)⟩⟩, fun fs hl => c19.trans (X18.ireturnOut hexec hret rfl (Or.inr (Or.inl rfl)) (hb hbytes d55) hl)⟩
    · have c13 : Steps p.tables e below (s₁.setTop (entryFrame m #[.ref x, .ref y] 3)) (T11.setTop (mkF m 55 #[.val (.ref x), .val (.ref y), .val (.ref y)] [.int 0])) := c12.trans (by
        refine XS.icmpYes X11.here hexec rfl (pc0 := 33) rfl (hb hbytes d33) rfl (ii_ne_t hcd) (by decide) rfl ?_
        refine iconstV X11.here hexec rfl 0 (hb hbytes d54) (by decide) ?_
        exact Steps.refl _)
      exact ⟨T11, some (.int 0), _, _, _, X11, rfl, rfl, rfl, (fun h => by cases h), ⟨0, rfl, hh11, Or.inr ⟨rfl, Cod.dif hx.2.2.2.2.1 hy.2.2.2.2.1 hcd⟩⟩, fun fs hl => c13.trans (X11.ireturnOut hexec hret rfl (Or.inr (Or.inl rfl)) (hb hbytes d55) hl)⟩
theorem pays {l : Launch} {R : Room} {p : Program} {e : Env} {below : List Frame} {s : State} {sargs : Array Value} {len W : Nat} (x t : Addr) (V : Cell) (cd : Int32) (n : Nat) (f : Nat → Int32) (y t' : Addr) (V' : Cell) (cd' : Int32) (k : Nat) (g : Nat → Int32) (z : Int32) (htab : tab.before sargs s = true) (hfr : 2 ≤ R.frames) (hlo : W + 28 ≤ R.locals) :
    Back l R p e below s sargs yN len W (fun A₁ a₁ => A₁.cells + 0 ≤ R.cells ∧ A₁.slots + 0 ≤ R.slots ∧ P x t V cd n f y t' V' cd' k g z a₁ A₁.U) (fun A₁ _ v₁ B₁ => Says01 (SameT n f k g) v₁ A₁.U B₁.U ∧ B₁.locs = A₁.locs ++ [] ∧ B₁.cells = A₁.cells + 0 ∧ B₁.slots = A₁.slots + 0) :=
  (law l x t V cd n f y t' V' cd' k g z).pays htab hfr (by omega)
end SEq
end StrChars
namespace StrChars.Road
open Jvm Sem ClassFile Op Lib Jvm.Stand Jvm.Free Jvm.Free.XT
open Jvm.Lib.Cold (StaticIs)
/-- the words of String.equals(Object) -/
abbrev wordsEq : List Jvm.Cond := [.code SEq.yN SEq.yB 3 (some .boolean), .initialized ST, .classLink ST 10 ST, .fieldLink ST 38 ST "COMPACT_STRINGS" "Z", .fieldLink ST 15 ST "coder" "B", .fieldLink ST 9 ST "value" "[B", .methodLink ST 541 LEq.yN, .static LEq.yN, .code LEq.yN LEq.yB 3 (some .boolean), .initialized "java/lang/StringLatin1"]
theorem tabEq_of {a : Array Value} {s : State} (h : ∀ w ∈ wordsEq, w.before a s = true) : SEq.tab.before a s = true := by
  have hl : LEq.tab.before a s = true := unparts (wk h (.code LEq.yN LEq.yB 3 (some .boolean))) (wks h (.initialized LEq.yN.cls :: LEq.site))
  have q := consq hl h
  exact unparts (wk q (.code SEq.yN SEq.yB 3 (some .boolean))) (wks q (.initialized SEq.yN.cls :: SEq.site))
theorem movedEq {Z s : State} {a0 args : Array Value} (hZ : Z.Warmed39 s.vm) (hw : ∀ d ∈ wordsEq, d.before a0 Z = true) : ∀ d ∈ wordsEq, d.before args s = true := fun d hd => by
  have t : ∀ d ∈ wordsEq, (d.onTables && d.keepsFace) = true := by decide +kernel
  exact RoadKit.mv hZ (hw d hd) (t d hd)
/-- the road's facts of a String, as the laws ask it -/
theorem txt_of {Z U : State} {a0 : Array Value} {kI : Nat} (wi : (Jvm.Cond.instantiable ST kI).before a0 Z = true) (al : Z.vm.Alike U.vm) {x t : Addr} {kb : ClassId} {cs : List Int32} {cd N2 : Int32} {vs : List Value} (E : RoadKit.Exa Z U.heap x ST) (V : RoadKit.Fld Z U.heap x ST "value" "[B" (.ref t)) (C : RoadKit.Fld Z U.heap x ST "coder" "B" (.int cd)) (K : RoadKit.Arv Z U.heap t kb .byte N2 vs (.int 0)) (hc : CodA cs cd N2 vs) (hb : ∀ c ∈ cs, ¬ c < 0 ∧ ¬ (65535 : Int32) < c) (l2 : cs.length ≤ 4000) :
    ∃ A, Txt x t A cd cs.length (fun j => cs.getD j 0) U := by
  obtain ⟨A, K1, K2, K3, K4, K5, K6⟩ := K
  have hcod := hc.cod (by omega) K3 K5
  obtain ⟨D, fV, fC, hB, F1, F2, g1, g2, -, -⟩ := strObj wi al E V C
  exact ⟨A, ⟨_, hB.2.2.1, D, hB.1, rfl, by cases q : D.vm <;> first | rfl | exact absurd q (hB.2.1.2 _)⟩, Has.of hB F1 g1, Has.of hB F2 g2, ⟨K1.1, State.isArrayOf_alike al K1.2.1, K1.2.2, by rcases hcod with ⟨-, q, -⟩ | ⟨-, q, -⟩ <;> omega⟩, hcod, fun j hj => by
    have e : cs.getD j 0 = cs[j] := by simp [List.getD_eq_getElem?_getD, hj]
    show ¬ cs.getD j 0 < 0 ∧ ¬ 65535 < cs.getD j 0
    rw [e]; exact hb _ (List.getElem_mem _)⟩
theorem same_list (cs ds : List Int32) : SameT cs.length (fun j => cs.getD j 0) ds.length (fun j => ds.getD j 0) ↔ cs = ds := by
  constructor
  · rintro ⟨e, q⟩
    refine List.ext_getElem e fun j h1 h2 => ?_
    have := q j h1
    simpa [List.getD_eq_getElem?_getD, h1, h2] using this
  · rintro rfl
    exact ⟨rfl, fun _ _ => rfl⟩
/-- **equals(Object) OF TWO SUCH STRINGS**: 1 just where the chars are the same -/
theorem eqW {p : Program} {l : Launch} {e : Env} {R : Room} {s : State} {args : Array Value} {below : List Frame} {len W : Nat} {Z : State} {a0 : Array Value} {h : Heap} (hZ : Z.Warmed39 s.vm) (hw : ∀ d ∈ wordsEq, d.before a0 Z = true) {kI : Nat} (wi : (Jvm.Cond.instantiable ST kI).before a0 Z = true)
    {x t : Addr} {kb : ClassId} {cs : List Int32} {cd N2 : Int32} {vs : List Value} (E : RoadKit.Exa Z h x ST) (V : RoadKit.Fld Z h x ST "value" "[B" (.ref t)) (C : RoadKit.Fld Z h x ST "coder" "B" (.int cd)) (K : RoadKit.Arv Z h t kb .byte N2 vs (.int 0)) (hc : CodA cs cd N2 vs) (hb : ∀ c ∈ cs, ¬ c < 0 ∧ ¬ (65535 : Int32) < c) (l2 : cs.length ≤ 4000)
    {y t' : Addr} {kb' : ClassId} {ds : List Int32} {cd' N2' : Int32} {vs' : List Value} (E' : RoadKit.Exa Z h y ST) (V' : RoadKit.Fld Z h y ST "value" "[B" (.ref t')) (C' : RoadKit.Fld Z h y ST "coder" "B" (.int cd')) (K' : RoadKit.Arv Z h t' kb' .byte N2' vs' (.int 0)) (hc' : CodA ds cd' N2' vs') (hb' : ∀ c ∈ ds, ¬ c < 0 ∧ ¬ (65535 : Int32) < c) (l2' : ds.length ≤ 4000)
    {z : Int32} (S : RoadKit.Sta Z h ST "COMPACT_STRINGS" "Z" (.int z)) (hz : ¬ z = 0) (hfr : 2 ≤ R.frames) (hlo : W + 28 ≤ R.locals) :
    Back l R p e below s args (⟨"java/lang/String", "equals", "(Ljava/lang/Object;)Z"⟩ : MethodName) len W (fun P a => a = #[.ref x, .ref y] ∧ P.U.heap = h ∧ P.cells + 0 ≤ R.cells ∧ P.slots + 0 ≤ R.slots)
      (fun P _ v B => ∃ L, (((v = some (.int 1) ∧ cs = ds) ∨ (v = some (.int 0) ∧ ¬ cs = ds)) ∧ L = [] ∧ B.U.heap = h) ∧ B.locs = P.locs ++ L ∧ B.cells = P.cells + 0 ∧ B.slots = P.slots + 0) := by
  intro m meth c P g ig mk a X hg hsize hdg hW hn hp'
  obtain ⟨rfl, rfl, r1, r2⟩ := hp'
  have al : Z.vm.Alike P.U.vm := hZ.alike.trans X.warmed.alike
  obtain ⟨A, hx⟩ := txt_of wi al E V C K hc hb l2
  obtain ⟨A', hy⟩ := txt_of wi al E' V' C' K' hc' hb' l2'
  obtain ⟨v, B, X', ⟨⟨w, hv, hh, hq⟩, hl, hk, hs⟩, st⟩ := SEq.pays x t A cd cs.length (fun j => cs.getD j 0) y t' A' cd' ds.length (fun j => ds.getD j 0) z (tabEq_of (movedEq hZ hw)) hfr hlo m meth c P g ig mk _ X hg hsize hdg hW hn ⟨r1, r2, rfl, hx, hy, sta_is al S, hz⟩
  refine ⟨v, B, X', ⟨[], ⟨?_, rfl, hh⟩, hl, hk, hs⟩, st⟩
  rcases hq with ⟨rfl, q⟩ | ⟨rfl, q⟩
  · exact Or.inl ⟨hv, (same_list cs ds).mp q⟩
  · exact Or.inr ⟨hv, fun e => q ((same_list cs ds).mpr e)⟩
end StrChars.Road
namespace StrChars
open Jvm Sem ClassFile Op Lib Jvm.Stand Jvm.Free.XT Jvm.Free.ALB Jvm.Free.JM Jvm.Free
open Jvm.Lib.Cold (StaticIs)
namespace ChN
def yN : MethodName := ⟨"java/lang/String", "charAt", "(I)C"⟩
abbrev yB : ByteArray := jdk_42_method_56_code
theorem d0 : decode yB 0 = .ok (.aload_n 0, 1) := by decide +kernel
theorem d1 : decode yB 1 = .ok (.invokevirtual 492, 3) := by decide +kernel
theorem d4 : decode yB 4 = .ok (.ifCond (.eq) 12, 3) := by decide +kernel
theorem d7 : decode yB 7 = .ok (.aload_n 0, 1) := by decide +kernel
theorem d8 : decode yB 8 = .ok (.getfield 9, 3) := by decide +kernel
theorem d11 : decode yB 11 = .ok (.iload_n 1, 1) := by decide +kernel
theorem d12 : decode yB 12 = .ok (.invokestatic 495, 3) := by decide +kernel
theorem d15 : decode yB 15 = .ok (.ireturn, 1) := by decide +kernel
def site : List Cond := [.fieldLink "java/lang/String" 9 "java/lang/String" "value" "[B", IsL.tab, LChA.tab] ++ virtW "java/lang/String" 492 "java/lang/String" IsL.yN IsL.yN ++ staticW "java/lang/String" 495 LChA.yN
def tab : Cond := tabOf yN yB 2 (some .char) site
def P (x t : Addr) (V : Cell) (n : Nat) (f : Nat → Int32) (z : Int32) (fm : Value) (i : Nat) (args : Array Value) (s : State) : Prop := args = #[.ref x, .int (Int32.ofNat i)] ∧ Txt x t V 0 n f s ∧ i < n ∧ StaticIs s "java/lang/String" "COMPACT_STRINGS" "Z" (.int z) ∧ ¬ z = 0 ∧ StaticIs s "jdk/internal/util/Preconditions" "SIOOBE_FORMATTER" "Ljava/util/function/BiFunction;" fm ∧ fm.isRef = true
def E (f : Nat → Int32) (i : Nat) (r : Option Value) (s u : State) : Prop := XT.PureE (some (.int (f i))) r s u
/-- charAt(i) of a Latin-1 String of n chars, i < n: f i -/
theorem law (l : Launch) (x t : Addr) (V : Cell) (n : Nat) (f : Nat → Int32) (z : Int32) (fm : Value) (i : Nat) : Law l yN 2 1 3 40 yB 2 (some .char) site (P x t V n f z fm i) (E f i) [] 0 0 := by
  refine Law.of_walk (plainFor_of_name (by decide +kernel)) (by decide +kernel) (by decide +kernel) (by decide) (fun _ _ h => by rw [h.1]; rfl) (fun _ U U' hal hh h => ⟨h.1, h.2.1.mv hal hh, h.2.2.1, h.2.2.2.1.there hal hh, h.2.2.2.2.1, h.2.2.2.2.2.1.there hal hh, h.2.2.2.2.2.2⟩) (fun r U U' V V' h1 hal h2 h => XT.PureE.mv r U U' V V' h1 hal h2 h) ?_
  intro p e s m args below meth c s₁ X0 hexec hbytes hml hret hlk hnm hown hh0 W hP
  obtain ⟨rfl, hx, hi, s1, hz, s3, rf⟩ := hP
  have v31 := hx.2.2.2.1.2.2.2
  have hr := hx.2.2.2.2.2 i hi
  have hx0 := hx.mv X0.warmed.alike hh0
  have c1 : Steps p.tables e below (s₁.setTop (entryFrame m #[.ref x, .int (Int32.ofNat i)] 2)) (s₁.setTop (mkF m 1 #[.val (.ref x), .val (.int (Int32.ofNat i))] [.ref x])) := Steps.trans (entry rfl) (by
    show Steps p.tables e below (s₁.setTop (mkF m 0 #[.val (.ref x), .val (.int (Int32.ofNat i))] [])) _
    refine XS.aloadN X0.here hexec rfl (hb hbytes d0) rfl rfl ?_
    exact Steps.refl _)
  obtain ⟨v2, T2, X2, E2, g2⟩ := X0.callV hexec (IsL.law l x 0 z) hown (wks W (virtW "java/lang/String" 492 "java/lang/String" IsL.yN IsL.yN)) rfl (by decide) (wk W IsL.tab) (W := 0) (Nat.le_of_ble_eq_true rfl) (Nat.le_of_ble_eq_true rfl) (Nat.le_refl _) (Nat.le_refl _) (hx0.1.fc X0.warmed.alike) hx0.1.is (g := (mkF m 1 #[.val (.ref x), .val (.int (Int32.ofNat i))] [.ref x])) rfl (by rw [hml]; rfl) c1 (argsL := []) (rest := []) rfl rfl (by show 2 * 0 + 0 ≤ _; decide) (hb hbytes d1) (⟨rfl, hx0.2.2.1, hx.2.2.2.2.1.cd, s1.there X0.warmed.alike hh0, hz⟩)
  obtain ⟨rfl, q2⟩ := E2
  have hh2 := q2.trans hh0
  have hx2 := hx.mv X2.warmed.alike hh2
  obtain ⟨-, k1, k2⟩ | ⟨k0, -⟩ := hx.2.2.2.2.1
  · have c3 : Steps p.tables e below (s₁.setTop (entryFrame m #[.ref x, .int (Int32.ofNat i)] 2)) (T2.setTop (mkF m 8 #[.val (.ref x), .val (.int (Int32.ofNat i))] [.ref x])) := Steps.trans g2 (by
      refine XS.ifNo X2.here hexec rfl (hb hbytes d4) rfl (i0_eq_f (by decide)) ?_
      refine XS.aloadN X2.here hexec rfl (hb hbytes d7) rfl rfl ?_
      exact Steps.refl _)
    obtain ⟨T4, X4, q4, st4⟩ := X2.hget hexec hown (wk W (.fieldLink "java/lang/String" 9 "java/lang/String" "value" "[B")) hx2.2.1 (g := (mkF m 8 #[.val (.ref x), .val (.int (Int32.ofNat i))] [.ref x])) rfl (rest := []) rfl (hb hbytes d8)
    have hh4 := q4.trans hh2
    have c5 : Steps p.tables e below (s₁.setTop (entryFrame m #[.ref x, .int (Int32.ofNat i)] 2)) (T4.setTop (mkF m 12 #[.val (.ref x), .val (.int (Int32.ofNat i))] [.int (Int32.ofNat i), .ref t])) := (c3.trans (st4 _ (Steps.refl _))).trans (by
      refine XS.iloadN X4.here hexec rfl (hb hbytes d11) rfl ?_
      exact Steps.refl _)
    obtain ⟨v6, T6, X6, E6, g6⟩ := X4.callS hexec (LChA.law l t V i (lo8 (f i)) fm) hown (wks W (staticW "java/lang/String" 495 LChA.yN)) (wk W LChA.tab) (W := 0) (Nat.le_of_ble_eq_true rfl) (Nat.le_of_ble_eq_true rfl) (Nat.le_refl _) (Nat.le_refl _) (g := (mkF m 12 #[.val (.ref x), .val (.int (Int32.ofNat i))] [.int (Int32.ofNat i), .ref t])) rfl (by rw [hml]; rfl) c5 (argsL := [.ref t, .int (Int32.ofNat i)]) (rest := []) rfl rfl (by show 2 * 0 + 0 ≤ _; decide) (hb hbytes d12) (⟨rfl, hx.2.2.2.1.mv X4.warmed.alike hh4, (k2 i hi).1, s3.there X4.warmed.alike hh4, rf⟩)
    obtain ⟨rfl, q6⟩ := E6
    rw [chr8_lo8 hr.1 (k2 i hi).2] at g6
    exact ⟨T6, some (.int (f i)), _, _, _, X6, rfl, rfl, rfl, (fun h => by cases h), ⟨rfl, q6.trans hh4⟩, fun fs hl => Steps.trans g6 (X6.ireturnOut hexec hret (narrow_ch hr.1 hr.2) (Or.inr (Or.inr (Or.inr (Or.inl rfl)))) (hb hbytes d15) hl)⟩
  · exact absurd k0 (by decide)
theorem pays {l : Launch} {R : Room} {p : Program} {e : Env} {below : List Frame} {s : State} {sargs : Array Value} {len W : Nat} (x t : Addr) (V : Cell) (n : Nat) (f : Nat → Int32) (z : Int32) (fm : Value) (i : Nat) (htab : tab.before sargs s = true) (hfr : 4 ≤ R.frames) (hlo : W + 53 ≤ R.locals) :
    Back l R p e below s sargs yN len W (fun A₁ a₁ => A₁.cells + 0 ≤ R.cells ∧ A₁.slots + 0 ≤ R.slots ∧ P x t V n f z fm i a₁ A₁.U) (fun A₁ _ v₁ B₁ => E f i v₁ A₁.U B₁.U ∧ B₁.locs = A₁.locs ++ [] ∧ B₁.cells = A₁.cells + 0 ∧ B₁.slots = A₁.slots + 0) :=
  (law l x t V n f z fm i).pays htab hfr (by omega)
end ChN
end StrChars
namespace StrChars.Road
open Jvm Sem ClassFile Op Lib Jvm.Stand Jvm.Free Jvm.Free.XT
open Jvm.Lib.Cold (StaticIs)
/-- the words of String.charAt(int), the Latin-1 road alone -/
abbrev wordsChN : List Jvm.Cond := [.code ChN.yN ChN.yB 2 (some .char), .initialized ST, .fieldLink ST 9 ST "value" "[B", .fieldLink ST 38 ST "COMPACT_STRINGS" "Z", .fieldLink ST 15 ST "coder" "B", .code IsL.yN IsL.yB 1 (some .boolean), .methodLink ST 492 IsL.yN, .declares IsL.yN, .selects ST IsL.yN IsL.yN, .instanceMethod IsL.yN,
  .methodLink ST 495 LChA.yN, .static LChA.yN, .code LChA.yN LChA.yB 2 (some .char), .initialized "java/lang/StringLatin1", .methodLink "java/lang/StringLatin1" 9 JO.Str_checkIndex.yN, .static JO.Str_checkIndex.yN, .code JO.Str_checkIndex.yN JO.Str_checkIndex.yB 2 none,
  .fieldLink ST 1053 "jdk/internal/util/Preconditions" "SIOOBE_FORMATTER" "Ljava/util/function/BiFunction;", .methodLink ST 1059 JC.PreCheck.yN, .static JC.PreCheck.yN, .code JC.PreCheck.yN JC.PreCheck.yB 3 (some .int), .initialized "jdk/internal/util/Preconditions"]
theorem tabChN_of {a : Array Value} {s : State} (h : ∀ w ∈ wordsChN, w.before a s = true) : ChN.tab.before a s = true := by
  have hp : JC.PreCheck.tab.before a s = true := unparts (wk h (.code JC.PreCheck.yN JC.PreCheck.yB 3 (some .int))) (wks h (.initialized JC.PreCheck.yN.cls :: JC.PreCheck.site))
  have qk := consq hp h
  have hk : JO.Str_checkIndex.tab.before a s = true := unparts (wk qk (.code JO.Str_checkIndex.yN JO.Str_checkIndex.yB 2 none)) (wks qk (.initialized JO.Str_checkIndex.yN.cls :: JO.Str_checkIndex.site))
  have ql := consq hk h
  have hl : LChA.tab.before a s = true := unparts (wk ql (.code LChA.yN LChA.yB 2 (some .char))) (wks ql (.initialized LChA.yN.cls :: LChA.site))
  have hi : IsL.tab.before a s = true := unparts (wk h (.code IsL.yN IsL.yB 1 (some .boolean))) (wks h (.initialized IsL.yN.cls :: IsL.site))
  have q := consq hi (consq hl h)
  exact unparts (wk q (.code ChN.yN ChN.yB 2 (some .char))) (wks q (.initialized ChN.yN.cls :: ChN.site))
theorem movedChN {Z s : State} {a0 args : Array Value} (hZ : Z.Warmed39 s.vm) (hw : ∀ d ∈ wordsChN, d.before a0 Z = true) : ∀ d ∈ wordsChN, d.before args s = true := fun d hd => by
  have t : ∀ d ∈ wordsChN, (d.onTables && d.keepsFace) = true := by decide +kernel
  exact RoadKit.mv hZ (hw d hd) (t d hd)
/-- **charAt(i) OF A LATIN-1 STRING**, i < n: the char -/
theorem chN {p : Program} {l : Launch} {e : Env} {R : Room} {s : State} {args : Array Value} {below : List Frame} {len W : Nat} {Z : State} {a0 : Array Value} {h : Heap} (hZ : Z.Warmed39 s.vm) (hw : ∀ d ∈ wordsChN, d.before a0 Z = true) {kI : Nat} (wi : (Jvm.Cond.instantiable ST kI).before a0 Z = true)
    {x t : Addr} {kb : ClassId} {cs : List Int32} {N2 z : Int32} {vs : List Value} {fm : Value} {i : Nat} {j : Int32} (E : RoadKit.Exa Z h x ST) (V : RoadKit.Fld Z h x ST "value" "[B" (.ref t)) (C : RoadKit.Fld Z h x ST "coder" "B" (.int 0)) (K : RoadKit.Arv Z h t kb .byte N2 vs (.int 0)) (hc : CodA cs 0 N2 vs) (hb : ∀ c ∈ cs, ¬ c < 0 ∧ ¬ (65535 : Int32) < c)
    (S : RoadKit.Sta Z h ST "COMPACT_STRINGS" "Z" (.int z)) (hz : ¬ z = 0) (F : RoadKit.Sta Z h "jdk/internal/util/Preconditions" "SIOOBE_FORMATTER" "Ljava/util/function/BiFunction;" fm) (rf : fm.isRef = true) (l2 : cs.length ≤ 4000) (hi : i < cs.length) (hj : j = Int32.ofNat i) (hfr : 4 ≤ R.frames) (hlo : W + 53 ≤ R.locals) :
    Back l R p e below s args (⟨"java/lang/String", "charAt", "(I)C"⟩ : MethodName) len W (fun P a => a = #[.ref x, .int j] ∧ P.U.heap = h ∧ P.cells + 0 ≤ R.cells ∧ P.slots + 0 ≤ R.slots)
      (fun P _ v B => ∃ L, (v = some (.int (cs.getD i 0)) ∧ L = [] ∧ B.U.heap = h) ∧ B.locs = P.locs ++ L ∧ B.cells = P.cells + 0 ∧ B.slots = P.slots + 0) := by
  subst hj
  intro m meth c P g ig mk a X hg hsize hdg hW hn hp'
  obtain ⟨rfl, rfl, r1, r2⟩ := hp'
  have al : Z.vm.Alike P.U.vm := hZ.alike.trans X.warmed.alike
  obtain ⟨A, hx⟩ := txt_of wi al E V C K hc hb l2
  obtain ⟨v, B, X', ⟨⟨hv, hh⟩, hl, hk, hs⟩, st⟩ := ChN.pays x t A cs.length (fun j => cs.getD j 0) z fm i (tabChN_of (movedChN hZ hw)) hfr hlo m meth c P g ig mk _ X hg hsize hdg hW hn ⟨r1, r2, rfl, hx, hi, sta_is al S, hz, sta_is al F, rf⟩
  exact ⟨v, B, X', ⟨[], ⟨hv, rfl, hh⟩, hl, hk, hs⟩, st⟩
/-- what backV says of its String, as the contracts of this text ask it: cs's low bytes, coder 0 -/
theorem codOf {cs : List Int32} {n : Nat} (hn : cs.length = n) (hb : ∀ c ∈ cs, ¬ 255 < c) : CodA cs 0 (Int32.ofNat n) ((cs.map lo8).map Value.int) := Or.inl ⟨rfl, by rw [hn], by simp [List.map_map, Function.comp_def], hb⟩
end StrChars.Road
end Jvm.Pilot.@@N@@
@@BLOCK:LamKit.lean.txt@@
namespace Jvm.Pilot.@@N@@
namespace Own
open Jvm Jvm.ClassFile Sem Op Lib Jvm.Free Jvm.Stand Jvm.LawKit Jvm.RoadKit
/-! A WALK READ FORWARDS. 'Owe .. G T g': from the state T with the frame g on top the invocation comes back, and G holds of what it leaves. Each step's rule asks what is owed behind the step. -/
def Owe (tb : Tables) (e : Env) (below : List Frame) (G : Outcome → State → Prop) (T : State) (g : JFrame) : Prop := ∃ u o, Steps tb e below (T.setTop g) u ∧ u.status = .running ∧ Ended u below o ∧ G o u
theorem Owe.by {tb : Tables} {e : Env} {below : List Frame} {G : Outcome → State → Prop} {T T' : State} {g g' : JFrame} (k : ∀ t, Steps tb e below (T'.setTop g') t → Steps tb e below (T.setTop g) t) (h : Owe tb e below G T' g') : Owe tb e below G T g := by
  obtain ⟨u, o, h1, h2⟩ := h
  exact ⟨u, o, k _ h1, h2⟩
theorem Owe.cast {tb : Tables} {e : Env} {below : List Frame} {G : Outcome → State → Prop} {T : State} {g g' : JFrame} (q : g = g') (h : Owe tb e below G T g') : Owe tb e below G T g := q ▸ h
section Plain
variable {tb : Tables} [Ours tb] {e : Env} {below : List Frame} {G : Outcome → State → Prop} {T : State} {m : MethodId} {c : Code} {pc : Nat} {Ls : Array Slot} {st : List Value}
theorem Owe.aloadN (h : At T m c below) (hx : tb.exec = Jvm.exec) {k : Fin 4} {v : Value} (hd : decode c.code pc = .ok (.aload_n k, 1)) (hl : Ls[k.val]? = some (.val v)) (hv : v.isRef = true) (go : Owe tb e below G T (mkF m (pc + 1) Ls (v :: st))) : Owe tb e below G T (mkF m pc Ls st) := Owe.by (fun t k => XS.aloadN h hx rfl hd hl hv k) go
theorem Owe.aload (h : At T m c below) (hx : tb.exec = Jvm.exec) {k : Nat} {v : Value} (hd : decode c.code pc = .ok (.aload k, 2)) (hl : Ls[k]? = some (.val v)) (hv : v.isRef = true) (go : Owe tb e below G T (mkF m (pc + 2) Ls (v :: st))) : Owe tb e below G T (mkF m pc Ls st) := Owe.by (fun t k => XS.aload h hx rfl hd hl hv k) go
theorem Owe.iloadN (h : At T m c below) (hx : tb.exec = Jvm.exec) {k : Fin 4} {v : Int32} (hd : decode c.code pc = .ok (.iload_n k, 1)) (hl : Ls[k.val]? = some (.val (.int v))) (go : Owe tb e below G T (mkF m (pc + 1) Ls (.int v :: st))) : Owe tb e below G T (mkF m pc Ls st) := Owe.by (fun t k => XS.iloadN h hx rfl hd hl k) go
theorem Owe.iload (h : At T m c below) (hx : tb.exec = Jvm.exec) {k : Nat} {v : Int32} (hd : decode c.code pc = .ok (.iload k, 2)) (hl : Ls[k]? = some (.val (.int v))) (go : Owe tb e below G T (mkF m (pc + 2) Ls (.int v :: st))) : Owe tb e below G T (mkF m pc Ls st) := Owe.by (fun t k => XS.iload h hx rfl hd hl k) go
theorem Owe.iconst (h : At T m c below) (hx : tb.exec = Jvm.exec) {i : Int} (hd : decode c.code pc = .ok (.iconst i, 1)) {w : Int32} (hw : (Int32.ofInt i) = w) (go : Owe tb e below G T (mkF m (pc + 1) Ls (.int w :: st))) : Owe tb e below G T (mkF m pc Ls st) := by subst hw; exact Owe.by (fun t k => XS.iconst h hx rfl hd k) go
theorem Owe.bipush (h : At T m c below) (hx : tb.exec = Jvm.exec) {i : Int} (hd : decode c.code pc = .ok (.bipush i, 2)) {w : Int32} (hw : (Int8.ofInt i).toInt32 = w) (go : Owe tb e below G T (mkF m (pc + 2) Ls (.int w :: st))) : Owe tb e below G T (mkF m pc Ls st) := by subst hw; exact Owe.by (fun t k => XS.bipush h hx rfl hd k) go
theorem Owe.sipush (h : At T m c below) (hx : tb.exec = Jvm.exec) {i : Int} (hd : decode c.code pc = .ok (.sipush i, 3)) {w : Int32} (hw : (Int16.ofInt i).toInt32 = w) (go : Owe tb e below G T (mkF m (pc + 3) Ls (.int w :: st))) : Owe tb e below G T (mkF m pc Ls st) := by subst hw; exact Owe.by (fun t k => XS.sipush h hx rfl hd k) go
theorem Owe.aconstNull (h : At T m c below) (hx : tb.exec = Jvm.exec) (hd : decode c.code pc = .ok (.aconst_null, 1)) (go : Owe tb e below G T (mkF m (pc + 1) Ls (.null :: st))) : Owe tb e below G T (mkF m pc Ls st) := Owe.by (fun t k => XS.aconstNull h hx rfl hd k) go
theorem Owe.iadd (h : At T m c below) (hx : tb.exec = Jvm.exec) {x y : Int32} {rest : List Value} (hd : decode c.code pc = .ok (.iadd, 1)) (hs : st = .int y :: .int x :: rest) (go : Owe tb e below G T (mkF m (pc + 1) Ls (.int (x + y) :: rest))) : Owe tb e below G T (mkF m pc Ls st) := Owe.by (fun t k => XS.iadd h hx rfl hd hs k) go
theorem Owe.isub (h : At T m c below) (hx : tb.exec = Jvm.exec) {x y : Int32} {rest : List Value} (hd : decode c.code pc = .ok (.isub, 1)) (hs : st = .int y :: .int x :: rest) (go : Owe tb e below G T (mkF m (pc + 1) Ls (.int (x - y) :: rest))) : Owe tb e below G T (mkF m pc Ls st) := Owe.by (fun t k => XS.isub h hx rfl hd hs k) go
theorem Owe.imul (h : At T m c below) (hx : tb.exec = Jvm.exec) {x y : Int32} {rest : List Value} (hd : decode c.code pc = .ok (.imul, 1)) (hs : st = .int y :: .int x :: rest) (go : Owe tb e below G T (mkF m (pc + 1) Ls (.int (x * y) :: rest))) : Owe tb e below G T (mkF m pc Ls st) := Owe.by (fun t k => XS.imul h hx rfl hd hs k) go
theorem Owe.iand (h : At T m c below) (hx : tb.exec = Jvm.exec) {x y : Int32} {rest : List Value} (hd : decode c.code pc = .ok (.iand, 1)) (hs : st = .int y :: .int x :: rest) (go : Owe tb e below G T (mkF m (pc + 1) Ls (.int (x &&& y) :: rest))) : Owe tb e below G T (mkF m pc Ls st) := Owe.by (fun t k => XS.iand h hx rfl hd hs k) go
theorem Owe.ior (h : At T m c below) (hx : tb.exec = Jvm.exec) {x : Int32} {y : Int32} {rest : List Value} (hd : decode c.code pc = .ok (.ior, 1)) (hs : st = .int y :: .int x :: rest) (go : Owe tb e below G T (mkF m (pc + 1) Ls (.int (x ||| y) :: rest))) : Owe tb e below G T (mkF m pc Ls st) := Owe.by (fun t k => XS.ior h hx rfl hd hs k) go
theorem Owe.ixor (h : At T m c below) (hx : tb.exec = Jvm.exec) {x : Int32} {y : Int32} {rest : List Value} (hd : decode c.code pc = .ok (.ixor, 1)) (hs : st = .int y :: .int x :: rest) (go : Owe tb e below G T (mkF m (pc + 1) Ls (.int (x ^^^ y) :: rest))) : Owe tb e below G T (mkF m pc Ls st) := Owe.by (fun t k => XS.ixor h hx rfl hd hs k) go
theorem Owe.ishl (h : At T m c below) (hx : tb.exec = Jvm.exec) {x : Int32} {y : Int32} {rest : List Value} (hd : decode c.code pc = .ok (.ishl, 1)) (hs : st = .int y :: .int x :: rest) (go : Owe tb e below G T (mkF m (pc + 1) Ls (.int (x <<< (y &&& 31)) :: rest))) : Owe tb e below G T (mkF m pc Ls st) := Owe.by (fun t k => XS.ishl h hx rfl hd hs k) go
theorem Owe.ishr (h : At T m c below) (hx : tb.exec = Jvm.exec) {x : Int32} {y : Int32} {rest : List Value} (hd : decode c.code pc = .ok (.ishr, 1)) (hs : st = .int y :: .int x :: rest) (go : Owe tb e below G T (mkF m (pc + 1) Ls (.int (x >>> (y &&& 31)) :: rest))) : Owe tb e below G T (mkF m pc Ls st) := Owe.by (fun t k => XS.ishr h hx rfl hd hs k) go
theorem Owe.iushr (h : At T m c below) (hx : tb.exec = Jvm.exec) {x : Int32} {y : Int32} {rest : List Value} (hd : decode c.code pc = .ok (.iushr, 1)) (hs : st = .int y :: .int x :: rest) (go : Owe tb e below G T (mkF m (pc + 1) Ls (.int ((x.toUInt32 >>> (y &&& 31).toUInt32).toInt32) :: rest))) : Owe tb e below G T (mkF m pc Ls st) := Owe.by (fun t k => XS.iushr h hx rfl hd hs k) go
theorem Owe.irem (h : At T m c below) (hx : tb.exec = Jvm.exec) {x y : Int32} {rest : List Value} (hd : decode c.code pc = .ok (.irem, 1)) (hs : st = .int y :: .int x :: rest) (hy : y ≠ 0) (go : Owe tb e below G T (mkF m (pc + 1) Ls (.int (x - (x / y) * y) :: rest))) : Owe tb e below G T (mkF m pc Ls st) := Owe.by (fun t k => XS.irem h hx rfl hd hs hy k) go
theorem Owe.idiv (h : At T m c below) (hx : tb.exec = Jvm.exec) {x y : Int32} {rest : List Value} (hd : decode c.code pc = .ok (.idiv, 1)) (hs : st = .int y :: .int x :: rest) (hy : y ≠ 0) (go : Owe tb e below G T (mkF m (pc + 1) Ls (.int (x / y) :: rest))) : Owe tb e below G T (mkF m pc Ls st) := Owe.by (fun t k => XS.idiv h hx rfl hd hs hy k) go
theorem Owe.ineg (h : At T m c below) (hx : tb.exec = Jvm.exec) {x : Int32} {rest : List Value} (hd : decode c.code pc = .ok (.ineg, 1)) (hs : st = .int x :: rest) (go : Owe tb e below G T (mkF m (pc + 1) Ls (.int (-x) :: rest))) : Owe tb e below G T (mkF m pc Ls st) := Owe.by (fun t k => XS.ineg h hx rfl hd hs k) go
theorem Owe.iinc (h : At T m c below) (hx : tb.exec = Jvm.exec) {k : Nat} {cst : Int} {x : Int32} {l' : Array Slot} (hd : decode c.code pc = .ok (.iinc k cst, 3)) (hl : Ls[k]? = some (.val (.int x))) (hl' : storeLocals Ls k (.int (x + Int32.ofInt cst)) = some l') (go : Owe tb e below G T (mkF m (pc + 3) l' st)) : Owe tb e below G T (mkF m pc Ls st) := Owe.by (fun t k => XS.iinc h hx rfl hd hl hl' k) go
theorem Owe.dup (h : At T m c below) (hx : tb.exec = Jvm.exec) {x : Value} {rest : List Value} (hd : decode c.code pc = .ok (.dup, 1)) (hs : st = x :: rest) (hc : x.category = 1) (go : Owe tb e below G T (mkF m (pc + 1) Ls (x :: x :: rest))) : Owe tb e below G T (mkF m pc Ls st) := Owe.by (fun t k => XS.dup h hx rfl hd hs hc k) go
theorem Owe.pop (h : At T m c below) (hx : tb.exec = Jvm.exec) {x : Value} {rest : List Value} (hd : decode c.code pc = .ok (.pop, 1)) (hs : st = x :: rest) (hc : x.category = 1) (go : Owe tb e below G T (mkF m (pc + 1) Ls rest)) : Owe tb e below G T (mkF m pc Ls st) := Owe.by (fun t k => XS.pop h hx rfl hd hs hc k) go
theorem Owe.dupX1 (h : At T m c below) (hx : tb.exec = Jvm.exec) {x y : Value} {rest : List Value} (hd : decode c.code pc = .ok (.dup_x1, 1)) (hs : st = x :: y :: rest) (hc : x.category = 1) (hc2 : y.category = 1) (go : Owe tb e below G T (mkF m (pc + 1) Ls (x :: y :: x :: rest))) : Owe tb e below G T (mkF m pc Ls st) := Owe.by (fun t k => XS.dupX1 h hx rfl hd hs hc hc2 k) go
theorem Owe.dup2 (h : At T m c below) (hx : tb.exec = Jvm.exec) {x y : Value} {rest : List Value} (hd : decode c.code pc = .ok (.dup2, 1)) (hs : st = x :: y :: rest) (hc : x.category = 1) (hc' : y.category = 1) (go : Owe tb e below G T (mkF m (pc + 1) Ls (x :: y :: x :: y :: rest))) : Owe tb e below G T (mkF m pc Ls st) := Owe.by (fun t k => Jvm.Free.XT.dup2 h hx rfl hd hs hc hc' k) go
theorem Owe.istoreN (h : At T m c below) (hx : tb.exec = Jvm.exec) {k : Fin 4} {x : Int32} {rest : List Value} {l' : Array Slot} (hd : decode c.code pc = .ok (.istore_n k, 1)) (hs : st = .int x :: rest) (hl : storeLocals Ls k.val (.int x) = some l') (go : Owe tb e below G T (mkF m (pc + 1) l' rest)) : Owe tb e below G T (mkF m pc Ls st) := Owe.by (fun t k => XS.istoreN h hx rfl hd hs hl k) go
theorem Owe.istore (h : At T m c below) (hx : tb.exec = Jvm.exec) {k : Nat} {x : Int32} {rest : List Value} {l' : Array Slot} (hd : decode c.code pc = .ok (.istore k, 2)) (hs : st = .int x :: rest) (hl : storeLocals Ls k (.int x) = some l') (go : Owe tb e below G T (mkF m (pc + 2) l' rest)) : Owe tb e below G T (mkF m pc Ls st) := Owe.by (fun t k => XS.istore h hx rfl hd hs hl k) go
theorem Owe.astoreN (h : At T m c below) (hx : tb.exec = Jvm.exec) {k : Fin 4} {x : Value} {rest : List Value} {l' : Array Slot} (hd : decode c.code pc = .ok (.astore_n k, 1)) (hs : st = x :: rest) (hv : x.isRef = true) (hl : storeLocals Ls k.val x = some l') (go : Owe tb e below G T (mkF m (pc + 1) l' rest)) : Owe tb e below G T (mkF m pc Ls st) := Owe.by (fun t k => XS.astoreN h hx rfl hd hs hv hl k) go
theorem Owe.astore (h : At T m c below) (hx : tb.exec = Jvm.exec) {k : Nat} {x : Value} {rest : List Value} {l' : Array Slot} (hd : decode c.code pc = .ok (.astore k, 2)) (hs : st = x :: rest) (hv : x.isRef = true) (hl : storeLocals Ls k x = some l') (go : Owe tb e below G T (mkF m (pc + 2) l' rest)) : Owe tb e below G T (mkF m pc Ls st) := Owe.by (fun t k => XS.astore h hx rfl hd hs hv hl k) go
theorem Owe.goto (h : At T m c below) (hx : tb.exec = Jvm.exec) {o : Int} {pc' : Nat}  (hd : decode c.code pc = .ok (.goto o, 3)) (ho : 0 ≤ (pc : Int) + o) (hp : ((pc : Int) + o).toNat = pc') (go : Owe tb e below G T (mkF m pc' Ls st)) : Owe tb e below G T (mkF m pc Ls st) := Owe.by (fun t k => XS.goto h hx rfl rfl hd ho hp k) go
theorem Owe.ifYes (h : At T m c below) (hx : tb.exec = Jvm.exec) {cd : ClassFile.Cond} {x : Int32} {rest : List Value} {o : Int} {pc' : Nat}  (hd : decode c.code pc = .ok (.ifCond cd o, 3)) (hs : st = .int x :: rest) (hc : ifCond.holds cd x = true) (ho : 0 ≤ (pc : Int) + o) (hp : ((pc : Int) + o).toNat = pc') (go : Owe tb e below G T (mkF m pc' Ls rest)) : Owe tb e below G T (mkF m pc Ls st) := Owe.by (fun t k => XS.ifYes h hx rfl rfl hd hs hc ho hp k) go
theorem Owe.ifNo (h : At T m c below) (hx : tb.exec = Jvm.exec) {cd : ClassFile.Cond} {o : Int} {x : Int32} {rest : List Value} (hd : decode c.code pc = .ok (.ifCond cd o, 3)) (hs : st = .int x :: rest) (hc : ifCond.holds cd x = false) (go : Owe tb e below G T (mkF m (pc + 3) Ls rest)) : Owe tb e below G T (mkF m pc Ls st) := Owe.by (fun t k => XS.ifNo h hx rfl hd hs hc k) go
theorem Owe.icmpYes (h : At T m c below) (hx : tb.exec = Jvm.exec) {cd : ClassFile.Cond} {x y : Int32} {rest : List Value} {o : Int} {pc' : Nat}  (hd : decode c.code pc = .ok (.if_icmp cd o, 3)) (hs : st = .int y :: .int x :: rest) (hc : if_icmp.holds cd x y = true) (ho : 0 ≤ (pc : Int) + o) (hp : ((pc : Int) + o).toNat = pc') (go : Owe tb e below G T (mkF m pc' Ls rest)) : Owe tb e below G T (mkF m pc Ls st) := Owe.by (fun t k => XS.icmpYes h hx rfl rfl hd hs hc ho hp k) go
theorem Owe.icmpNo (h : At T m c below) (hx : tb.exec = Jvm.exec) {cd : ClassFile.Cond} {o : Int} {x y : Int32} {rest : List Value} (hd : decode c.code pc = .ok (.if_icmp cd o, 3)) (hs : st = .int y :: .int x :: rest) (hc : if_icmp.holds cd x y = false) (go : Owe tb e below G T (mkF m (pc + 3) Ls rest)) : Owe tb e below G T (mkF m pc Ls st) := Owe.by (fun t k => XS.icmpNo h hx rfl hd hs hc k) go
theorem Owe.ifnullYes (h : At T m c below) (hx : tb.exec = Jvm.exec) {rest : List Value} {o : Int} {pc' : Nat}  (hd : decode c.code pc = .ok (.ifnull o, 3)) (hs : st = .null :: rest) (ho : 0 ≤ (pc : Int) + o) (hp : ((pc : Int) + o).toNat = pc') (go : Owe tb e below G T (mkF m pc' Ls rest)) : Owe tb e below G T (mkF m pc Ls st) := Owe.by (fun t k => XS.ifnullYes h hx rfl rfl hd hs ho hp k) go
theorem Owe.ifnullNo (h : At T m c below) (hx : tb.exec = Jvm.exec) {o : Int} {b : Addr} {rest : List Value} (hd : decode c.code pc = .ok (.ifnull o, 3)) (hs : st = .ref b :: rest) (go : Owe tb e below G T (mkF m (pc + 3) Ls rest)) : Owe tb e below G T (mkF m pc Ls st) := Owe.by (fun t k => XS.ifnullNo h hx rfl hd hs k) go
theorem Owe.ifnonnullYes (h : At T m c below) (hx : tb.exec = Jvm.exec) {b : Addr} {rest : List Value} {o : Int} {pc' : Nat}  (hd : decode c.code pc = .ok (.ifnonnull o, 3)) (hs : st = .ref b :: rest) (ho : 0 ≤ (pc : Int) + o) (hp : ((pc : Int) + o).toNat = pc') (go : Owe tb e below G T (mkF m pc' Ls rest)) : Owe tb e below G T (mkF m pc Ls st) := Owe.by (fun t k => XS.ifnonnullYes h hx rfl rfl hd hs ho hp k) go
theorem Owe.ifnonnullNo (h : At T m c below) (hx : tb.exec = Jvm.exec) {o : Int} {rest : List Value} (hd : decode c.code pc = .ok (.ifnonnull o, 3)) (hs : st = .null :: rest) (go : Owe tb e below G T (mkF m (pc + 3) Ls rest)) : Owe tb e below G T (mkF m pc Ls st) := Owe.by (fun t k => XS.ifnonnullNo h hx rfl hd hs k) go
theorem Owe.acmpYes (h : At T m c below) (hx : tb.exec = Jvm.exec) {cd : ClassFile.ACond} {x y : Value} {rest : List Value} {o : Int} {pc' : Nat}  (hd : decode c.code pc = .ok (.if_acmp cd o, 3)) (hs : st = y :: x :: rest) (hx' : x.isRef = true) (hy' : y.isRef = true) (hc : Jvm.Free.XT.acmp cd x y = true) (ho : 0 ≤ (pc : Int) + o) (hp : ((pc : Int) + o).toNat = pc') (go : Owe tb e below G T (mkF m pc' Ls rest)) : Owe tb e below G T (mkF m pc Ls st) := Owe.by (fun t k => Jvm.Free.XT.acmpYes h hx rfl rfl hd hs hx' hy' hc ho hp k) go
theorem Owe.acmpNo (h : At T m c below) (hx : tb.exec = Jvm.exec) {cd : ClassFile.ACond} {o : Int} {x y : Value} {rest : List Value} (hd : decode c.code pc = .ok (.if_acmp cd o, 3)) (hs : st = y :: x :: rest) (hx' : x.isRef = true) (hy' : y.isRef = true) (hc : Jvm.Free.XT.acmp cd x y = false) (go : Owe tb e below G T (mkF m (pc + 3) Ls rest)) : Owe tb e below G T (mkF m pc Ls st) := Owe.by (fun t k => Jvm.Free.XT.acmpNo h hx rfl hd hs hx' hy' hc k) go
theorem Owe.ladd (h : At T m c below) (hx : tb.exec = Jvm.exec) {x : Int64} {y : Int64} {rest : List Value} (hd : decode c.code pc = .ok (.ladd, 1)) (hs : st = .long y :: .long x :: rest) (go : Owe tb e below G T (mkF m (pc + 1) Ls (.long (x + y) :: rest))) : Owe tb e below G T (mkF m pc Ls st) := Owe.by (fun t k => XS.ladd h hx rfl hd hs k) go
theorem Owe.lsub (h : At T m c below) (hx : tb.exec = Jvm.exec) {x : Int64} {y : Int64} {rest : List Value} (hd : decode c.code pc = .ok (.lsub, 1)) (hs : st = .long y :: .long x :: rest) (go : Owe tb e below G T (mkF m (pc + 1) Ls (.long (x - y) :: rest))) : Owe tb e below G T (mkF m pc Ls st) := Owe.by (fun t k => XS.lsub h hx rfl hd hs k) go
theorem Owe.lmul (h : At T m c below) (hx : tb.exec = Jvm.exec) {x : Int64} {y : Int64} {rest : List Value} (hd : decode c.code pc = .ok (.lmul, 1)) (hs : st = .long y :: .long x :: rest) (go : Owe tb e below G T (mkF m (pc + 1) Ls (.long (x * y) :: rest))) : Owe tb e below G T (mkF m pc Ls st) := Owe.by (fun t k => XS.lmul h hx rfl hd hs k) go
theorem Owe.land (h : At T m c below) (hx : tb.exec = Jvm.exec) {x : Int64} {y : Int64} {rest : List Value} (hd : decode c.code pc = .ok (.land, 1)) (hs : st = .long y :: .long x :: rest) (go : Owe tb e below G T (mkF m (pc + 1) Ls (.long (x &&& y) :: rest))) : Owe tb e below G T (mkF m pc Ls st) := Owe.by (fun t k => XS.land h hx rfl hd hs k) go
theorem Owe.lor (h : At T m c below) (hx : tb.exec = Jvm.exec) {x : Int64} {y : Int64} {rest : List Value} (hd : decode c.code pc = .ok (.lor, 1)) (hs : st = .long y :: .long x :: rest) (go : Owe tb e below G T (mkF m (pc + 1) Ls (.long (x ||| y) :: rest))) : Owe tb e below G T (mkF m pc Ls st) := Owe.by (fun t k => XS.lor h hx rfl hd hs k) go
theorem Owe.lxor (h : At T m c below) (hx : tb.exec = Jvm.exec) {x : Int64} {y : Int64} {rest : List Value} (hd : decode c.code pc = .ok (.lxor, 1)) (hs : st = .long y :: .long x :: rest) (go : Owe tb e below G T (mkF m (pc + 1) Ls (.long (x ^^^ y) :: rest))) : Owe tb e below G T (mkF m pc Ls st) := Owe.by (fun t k => XS.lxor h hx rfl hd hs k) go
theorem Owe.lshl (h : At T m c below) (hx : tb.exec = Jvm.exec) {x : Int64} {y : Int32} {rest : List Value} (hd : decode c.code pc = .ok (.lshl, 1)) (hs : st = .int y :: .long x :: rest) (go : Owe tb e below G T (mkF m (pc + 1) Ls (.long (x <<< (y &&& 0x3f).toInt64) :: rest))) : Owe tb e below G T (mkF m pc Ls st) := Owe.by (fun t k => XS.lshl h hx rfl hd hs k) go
theorem Owe.lshr (h : At T m c below) (hx : tb.exec = Jvm.exec) {x : Int64} {y : Int32} {rest : List Value} (hd : decode c.code pc = .ok (.lshr, 1)) (hs : st = .int y :: .long x :: rest) (go : Owe tb e below G T (mkF m (pc + 1) Ls (.long (x >>> (y &&& 0x3f).toInt64) :: rest))) : Owe tb e below G T (mkF m pc Ls st) := Owe.by (fun t k => XS.lshr h hx rfl hd hs k) go
theorem Owe.lushr (h : At T m c below) (hx : tb.exec = Jvm.exec) {x : Int64} {y : Int32} {rest : List Value} (hd : decode c.code pc = .ok (.lushr, 1)) (hs : st = .int y :: .long x :: rest) (go : Owe tb e below G T (mkF m (pc + 1) Ls (.long ((x.toUInt64 >>> (y &&& 0x3f).toInt64.toUInt64).toInt64) :: rest))) : Owe tb e below G T (mkF m pc Ls st) := Owe.by (fun t k => XS.lushr h hx rfl hd hs k) go
theorem Owe.lneg (h : At T m c below) (hx : tb.exec = Jvm.exec) {v : Int64} {rest : List Value} (hd : decode c.code pc = .ok (.lneg, 1)) (hs : st = .long v :: rest) (go : Owe tb e below G T (mkF m (pc + 1) Ls (.long (-v) :: rest))) : Owe tb e below G T (mkF m pc Ls st) := Owe.by (fun t k => XS.lneg h hx rfl hd hs k) go
theorem Owe.i2l (h : At T m c below) (hx : tb.exec = Jvm.exec) {v : Int32} {rest : List Value} (hd : decode c.code pc = .ok (.i2l, 1)) (hs : st = .int v :: rest) (go : Owe tb e below G T (mkF m (pc + 1) Ls (.long (v.toInt64) :: rest))) : Owe tb e below G T (mkF m pc Ls st) := Owe.by (fun t k => XS.i2l h hx rfl hd hs k) go
theorem Owe.l2i (h : At T m c below) (hx : tb.exec = Jvm.exec) {v : Int64} {rest : List Value} (hd : decode c.code pc = .ok (.l2i, 1)) (hs : st = .long v :: rest) (go : Owe tb e below G T (mkF m (pc + 1) Ls (.int (v.toInt32) :: rest))) : Owe tb e below G T (mkF m pc Ls st) := Owe.by (fun t k => XS.l2i h hx rfl hd hs k) go
theorem Owe.i2b (h : At T m c below) (hx : tb.exec = Jvm.exec) {v : Int32} {rest : List Value} (hd : decode c.code pc = .ok (.i2b, 1)) (hs : st = .int v :: rest) (go : Owe tb e below G T (mkF m (pc + 1) Ls (.int (v.toInt8.toInt32) :: rest))) : Owe tb e below G T (mkF m pc Ls st) := Owe.by (fun t k => XS.i2b h hx rfl hd hs k) go
theorem Owe.i2c (h : At T m c below) (hx : tb.exec = Jvm.exec) {v : Int32} {rest : List Value} (hd : decode c.code pc = .ok (.i2c, 1)) (hs : st = .int v :: rest) (go : Owe tb e below G T (mkF m (pc + 1) Ls (.int (v.toUInt32.toUInt16.toUInt32.toInt32) :: rest))) : Owe tb e below G T (mkF m pc Ls st) := Owe.by (fun t k => XS.i2c h hx rfl hd hs k) go
theorem Owe.i2s (h : At T m c below) (hx : tb.exec = Jvm.exec) {v : Int32} {rest : List Value} (hd : decode c.code pc = .ok (.i2s, 1)) (hs : st = .int v :: rest) (go : Owe tb e below G T (mkF m (pc + 1) Ls (.int (v.toInt16.toInt32) :: rest))) : Owe tb e below G T (mkF m pc Ls st) := Owe.by (fun t k => XS.i2s h hx rfl hd hs k) go
theorem Owe.lloadN (h : At T m c below) (hx : tb.exec = Jvm.exec) {k : Fin 4} {v : Int64} (hd : decode c.code pc = .ok (.lload_n k, 1)) (hl : Ls[k.val]? = some (.val (.long v))) (go : Owe tb e below G T (mkF m (pc + 1) Ls (.long v :: st))) : Owe tb e below G T (mkF m pc Ls st) := Owe.by (fun t k => XS.lloadN h hx rfl hd hl k) go
theorem Owe.lload (h : At T m c below) (hx : tb.exec = Jvm.exec) {k : Nat} {v : Int64} (hd : decode c.code pc = .ok (.lload k, 2)) (hl : Ls[k]? = some (.val (.long v))) (go : Owe tb e below G T (mkF m (pc + 2) Ls (.long v :: st))) : Owe tb e below G T (mkF m pc Ls st) := Owe.by (fun t k => XS.lload h hx rfl hd hl k) go
theorem Owe.lstoreN (h : At T m c below) (hx : tb.exec = Jvm.exec) {k : Fin 4} {x : Int64} {rest : List Value} {l' : Array Slot} (hd : decode c.code pc = .ok (.lstore_n k, 1)) (hs : st = .long x :: rest) (hl : storeLocals Ls k.val (.long x) = some l') (go : Owe tb e below G T (mkF m (pc + 1) l' rest)) : Owe tb e below G T (mkF m pc Ls st) := Owe.by (fun t k => XS.lstoreN h hx rfl hd hs hl k) go
theorem Owe.lstore (h : At T m c below) (hx : tb.exec = Jvm.exec) {k : Nat} {x : Int64} {rest : List Value} {l' : Array Slot} (hd : decode c.code pc = .ok (.lstore k, 2)) (hs : st = .long x :: rest) (hl : storeLocals Ls k (.long x) = some l') (go : Owe tb e below G T (mkF m (pc + 2) l' rest)) : Owe tb e below G T (mkF m pc Ls st) := Owe.by (fun t k => XS.lstore h hx rfl hd hs hl k) go
theorem Owe.lconst (h : At T m c below) (hx : tb.exec = Jvm.exec) {k : Fin 2} (hd : decode c.code pc = .ok (.lconst k, 1)) {w : Int64} (hw : (Int64.ofNat k) = w) (go : Owe tb e below G T (mkF m (pc + 1) Ls (.long w :: st))) : Owe tb e below G T (mkF m pc Ls st) := by subst hw; exact Owe.by (fun t k => XS.lconst h hx rfl hd k) go
theorem Owe.lcmp (h : At T m c below) (hx : tb.exec = Jvm.exec) {x y : Int64} {rest : List Value} (hd : decode c.code pc = .ok (.lcmp, 1)) (hs : st = .long y :: .long x :: rest) (go : Owe tb e below G T (mkF m (pc + 1) Ls (.int (lcmpW x y) :: rest))) : Owe tb e below G T (mkF m pc Ls st) := Owe.by (fun t k => XS.lcmp h hx rfl hd hs k) go
theorem Owe.tswIn (h : At T m c below) (hx : tb.exec = Jvm.exec) {dflt low high : Int} {offs : Array Int} {len : Nat} {o : Int} {pc' : Nat}  (hd : decode c.code pc = .ok (.tableswitch dflt low high offs, len)) {i : Int32} {rest : List Value} (hs : st = .int i :: rest) (hin : ¬ (i.toInt < low ∨ i.toInt > high)) (hoff : offs[(i.toInt - low).toNat]? = some o) (ho : 0 ≤ (pc : Int) + o) (hp : ((pc : Int) + o).toNat = pc') (go : Owe tb e below G T (mkF m pc' Ls rest)) : Owe tb e below G T (mkF m pc Ls st) := Owe.by (fun t k => XS.tswIn h hx rfl rfl hd hs hin hoff ho hp k) go
theorem Owe.tswOut (h : At T m c below) (hx : tb.exec = Jvm.exec) {dflt low high : Int} {offs : Array Int} {len : Nat} {pc' : Nat}  (hd : decode c.code pc = .ok (.tableswitch dflt low high offs, len)) {i : Int32} {rest : List Value} (hs : st = .int i :: rest) (hout : i.toInt < low ∨ i.toInt > high) (ho : 0 ≤ (pc : Int) + dflt) (hp : ((pc : Int) + dflt).toNat = pc') (go : Owe tb e below G T (mkF m pc' Ls rest)) : Owe tb e below G T (mkF m pc Ls st) := Owe.by (fun t k => XS.tswOut h hx rfl rfl hd hs hout ho hp k) go
theorem Owe.dload (h : At T m c below) (hx : tb.exec = Jvm.exec) {k : Nat} {v : UInt64} (hd : decode c.code pc = .ok (.dload k, 2)) (hl : Ls[k]? = some (.val (.double v))) (go : Owe tb e below G T (mkF m (pc + 2) Ls (.double v :: st))) : Owe tb e below G T (mkF m pc Ls st) := Owe.by (fun t k => XS.dload h hx rfl hd hl k) go
theorem Owe.dloadN (h : At T m c below) (hx : tb.exec = Jvm.exec) {k : Fin 4} {v : UInt64} (hd : decode c.code pc = .ok (.dload_n k, 1)) (hl : Ls[k.val]? = some (.val (.double v))) (go : Owe tb e below G T (mkF m (pc + 1) Ls (.double v :: st))) : Owe tb e below G T (mkF m pc Ls st) := Owe.by (fun t k => XS.dloadN h hx rfl hd hl k) go
theorem Owe.dstore (h : At T m c below) (hx : tb.exec = Jvm.exec) {k : Nat} {x : UInt64} {rest : List Value} {l' : Array Slot} (hd : decode c.code pc = .ok (.dstore k, 2)) (hs : st = .double x :: rest) (hl : storeLocals Ls k (.double x) = some l') (go : Owe tb e below G T (mkF m (pc + 2) l' rest)) : Owe tb e below G T (mkF m pc Ls st) := Owe.by (fun t k => XS.dstore h hx rfl hd hs hl k) go
theorem Owe.dstoreN (h : At T m c below) (hx : tb.exec = Jvm.exec) {k : Fin 4} {x : UInt64} {rest : List Value} {l' : Array Slot} (hd : decode c.code pc = .ok (.dstore_n k, 1)) (hs : st = .double x :: rest) (hl : storeLocals Ls k.val (.double x) = some l') (go : Owe tb e below G T (mkF m (pc + 1) l' rest)) : Owe tb e below G T (mkF m pc Ls st) := Owe.by (fun t k => XS.dstoreN h hx rfl hd hs hl k) go
theorem Owe.dconst0 (h : At T m c below) (hx : tb.exec = Jvm.exec) {v : UInt64} (hd : decode c.code pc = .ok (.dconst 0, 1)) (hv : FP.dconst0 = v) (go : Owe tb e below G T (mkF m (pc + 1) Ls (.double v :: st))) : Owe tb e below G T (mkF m pc Ls st) := Owe.by (fun t k => XS.dconst0 h hx rfl hd hv k) go
theorem Owe.dconst1 (h : At T m c below) (hx : tb.exec = Jvm.exec) {v : UInt64} (hd : decode c.code pc = .ok (.dconst 1, 1)) (hv : FP.dconst1 = v) (go : Owe tb e below G T (mkF m (pc + 1) Ls (.double v :: st))) : Owe tb e below G T (mkF m pc Ls st) := Owe.by (fun t k => XS.dconst1 h hx rfl hd hv k) go
theorem Owe.i2dS (h : At T m c below) (hx : tb.exec = Jvm.exec) {x : Int32} {v : UInt64} {rest : List Value} (hd : decode c.code pc = .ok (.i2d, 1)) (hs : st = .int x :: rest) (hv : FP.i2d x = v) (go : Owe tb e below G T (mkF m (pc + 1) Ls (.double v :: rest))) : Owe tb e below G T (mkF m pc Ls st) := Owe.by (fun t k => XS.i2dS h hx rfl hd hs hv k) go
theorem Owe.l2dS (h : At T m c below) (hx : tb.exec = Jvm.exec) {x : Int64} {v : UInt64} {rest : List Value} (hd : decode c.code pc = .ok (.l2d, 1)) (hs : st = .long x :: rest) (hv : FP.l2d x = v) (go : Owe tb e below G T (mkF m (pc + 1) Ls (.double v :: rest))) : Owe tb e below G T (mkF m pc Ls st) := Owe.by (fun t k => XS.l2dS h hx rfl hd hs hv k) go
theorem Owe.dcmpS (h : At T m c below) (hx : tb.exec = Jvm.exec) {o : CmpOp} {x y : UInt64} {v : Int32} {rest : List Value} (hd : decode c.code pc = .ok (.dcmp o, 1)) (hs : st = .double y :: .double x :: rest) (hv : cmpValue (FP.dcmp x y) o = v) (go : Owe tb e below G T (mkF m (pc + 1) Ls (.int v :: rest))) : Owe tb e below G T (mkF m pc Ls st) := Owe.by (fun t k => XS.dcmpS h hx rfl hd hs hv k) go
end Plain
section Heavy
variable {p : Program} {l : Launch} {e : Env} {R : Room} {s : State} {m : MethodId} {args : Array Value} {below : List Frame} {meth : Method} {c : Code} {T : State} {locs : List Loc} {cells slots : Nat} {Z : State} {a0 : Array Value} {h : Heap} {G : Outcome → State → Prop} {pc : Nat} {Ls : Array Slot} {st : List Value}
theorem Owe.ldcI (X : Stand p l e R s m args below meth c T locs cells slots) (hx : p.tables.exec = Jvm.exec) {own : String} {index : Nat} {v : Int32} (hown : s.vm.findClass own = some m.cls) (w : (Cond.constant own index v).before args s = true) (hd : decode c.code pc = .ok (.ldc index, 2)) (go : Owe p.tables e below G T (mkF m (pc + 2) Ls (.int v :: st))) : Owe p.tables e below G T (mkF m pc Ls st) :=
  Owe.by (X.ldcInt hx hown w (g := mkF m pc Ls st) rfl hd) go
theorem Owe.new (X : Stand p l e R s m args below meth c T locs cells slots) (hx : p.tables.exec = Jvm.exec) (hZ : Z.Warmed39 s.vm) {own C : String} {index n : Nat} (hown : s.vm.findClass own = some m.cls) (w : (Cond.classLink own index C).before a0 Z = true) (wi : (Cond.instantiable C n).before a0 Z = true) (wz : (Cond.initialized C).before a0 Z = true) (eT : T.heap = h) (hd : decode c.code pc = .ok (.new index, 3)) (hc : cells + 1 ≤ R.cells) (hl : slots + n ≤ R.slots)
    (go : ∀ (T' : State) (h' : Heap) (a : Addr), a = h.size → Stand p l e R s m args below meth c T' locs (cells + 1) (slots + n) → T'.heap = h' → Ext h h' → Exa Z h' a C → (∀ {O nm d : String} {ty : FieldType}, Laid Z a0 C O nm d → parseFieldDescriptor d = some ty → Fld Z h' a O nm d (defaultValue ty)) → Owe p.tables e below G T' (mkF m (pc + 3) Ls (.ref a :: st))) : Owe p.tables e below G T (mkF m pc Ls st) := by
  obtain ⟨T', h', X', e', E', A', D', -, st'⟩ := newO X hx hZ hown w wi wz eT (g := mkF m pc Ls st) rfl hd hc hl
  exact Owe.by st' (go T' h' _ rfl X' e' E' A' D')
theorem Owe.newarr (X : Stand p l e R s m args below meth c T locs cells slots) (hx : p.tables.exec = Jvm.exec) (hZ : Z.Warmed39 s.vm) {aty : ArrayType} (w : (Cond.arrayClass (newarray.typeOf aty)).before a0 Z = true) (eT : T.heap = h) (hd : decode c.code pc = .ok (.newarray aty, 2)) {n : Int32} {rest : List Value} (hs : st = .int n :: rest) (hn : ¬ n < 0) {cap : Nat} (hcap : n.toNatClampNeg ≤ cap) (hb : cap * 8 ≤ 536870912) (hc : cells + 1 ≤ R.cells) (hl : slots + cap ≤ R.slots)
    (go : ∀ (T' : State) (h' : Heap) (a : Addr) (k : ClassId), a = h.size → Stand p l e R s m args below meth c T' locs (cells + 1) (slots + cap) → T'.heap = h' → Ext h h' → Arv Z h' a k (newarray.typeOf aty) n [] (defaultValue (newarray.typeOf aty)) → Owe p.tables e below G T' (mkF m (pc + 2) Ls (.ref a :: rest))) : Owe p.tables e below G T (mkF m pc Ls st) := by
  obtain ⟨T', h', k, X', e', E', A', st'⟩ := newP X hx hZ w eT (g := mkF m pc Ls st) rfl hd hs hn hcap hb hc hl
  exact Owe.by st' (go T' h' _ k rfl X' e' E' (Arv.new A' hn))
theorem Owe.castore (X : Stand p l e R s m args below meth c T locs cells slots) (hx : p.tables.exec = Jvm.exec) (hZ : Z.Warmed39 s.vm) (eT : T.heap = h) {a : Addr} {k : ClassId} {n : Int32} {vs : List Value} {dv : Value} (V : Arv Z h a k .char n vs dv) {j x : Int32} (i : Nat) (hj : j.toNatClampNeg = i) (hi : i < vs.length) (hin : ¬ j < 0 ∧ j < n) (hd : decode c.code pc = .ok (.castore, 1)) {rest : List Value} (hs : st = .int x :: .int j :: .ref a :: rest)
    (go : ∀ (T' : State) (h' : Heap), Stand p l e R s m args below meth c T' (locs ++ [⟨a, j.toNatClampNeg⟩]) cells slots → T'.heap = h' → Wr h h' a j.toNatClampNeg (.int (nar .char x)) → Arv Z h' a k .char n (vs.set i (.int (nar .char x))) dv → Owe p.tables e below G T' (mkF m (pc + 1) Ls rest)) : Owe p.tables e below G T (mkF m pc Ls st) := by
  obtain ⟨cl, A, q, S, M, H, U⟩ := V
  obtain ⟨T', h', X', e', W', st'⟩ := stC X hx hZ eT A (j := j) (inb_of S hin) (g := mkF m pc Ls st) rfl hs hd
  exact Owe.by st' (go T' h' X' e' W' (Arv.set A q S M H U (fits_nar_char _) W' i hj hi))
theorem Owe.bastore (X : Stand p l e R s m args below meth c T locs cells slots) (hx : p.tables.exec = Jvm.exec) (hZ : Z.Warmed39 s.vm) (eT : T.heap = h) {a : Addr} {k : ClassId} {n : Int32} {vs : List Value} {dv : Value} (V : Arv Z h a k .byte n vs dv) {j x : Int32} (i : Nat) (hj : j.toNatClampNeg = i) (hi : i < vs.length) (hin : ¬ j < 0 ∧ j < n) (hd : decode c.code pc = .ok (.bastore, 1)) {rest : List Value} (hs : st = .int x :: .int j :: .ref a :: rest)
    (go : ∀ (T' : State) (h' : Heap), Stand p l e R s m args below meth c T' (locs ++ [⟨a, j.toNatClampNeg⟩]) cells slots → T'.heap = h' → Wr h h' a j.toNatClampNeg (.int (x.toInt8.toInt32)) → Arv Z h' a k .byte n (vs.set i (.int (x.toInt8.toInt32))) dv → Owe p.tables e below G T' (mkF m (pc + 1) Ls rest)) : Owe p.tables e below G T (mkF m pc Ls st) := by
  obtain ⟨cl, A, q, S, M, H, U⟩ := V
  obtain ⟨T', h', X', e', W', st'⟩ := stB X hx hZ eT A (j := j) (inb_of S hin) (g := mkF m pc Ls st) rfl hs hd
  exact Owe.by st' (go T' h' X' e' W' (Arv.set A q S M H U (fits_nar_byte _) W' i hj hi))
theorem Owe.caload (X : Stand p l e R s m args below meth c T locs cells slots) (hx : p.tables.exec = Jvm.exec) (hZ : Z.Warmed39 s.vm) (eT : T.heap = h) {a : Addr} {k : ClassId} {n : Int32} {vs : List Value} {dv : Value} (V : Arv Z h a k .char n vs dv) {j : Int32} {v : Value} (hin : ¬ j < 0 ∧ j < n) (hv : vs.getD j.toNatClampNeg dv = v) (hd : decode c.code pc = .ok (.caload, 1)) {rest : List Value} (hs : st = .int j :: .ref a :: rest)
    (go : Owe p.tables e below G T (mkF m (pc + 1) Ls (v :: rest))) : Owe p.tables e below G T (mkF m pc Ls st) := by
  obtain ⟨cl, A, q, S, M, H, U⟩ := V
  exact Owe.by (fun t k => X.caload hx (by rw [eT]; exact A.1) (State.isArrayOf_alike hZ.alike A.2.1) A.2.2 (inb_of S hin) (H.at (inb_of S hin) hv) (g := mkF m pc Ls st) rfl hs hd t k) go
theorem Owe.baload (X : Stand p l e R s m args below meth c T locs cells slots) (hx : p.tables.exec = Jvm.exec) (hZ : Z.Warmed39 s.vm) (eT : T.heap = h) {a : Addr} {k : ClassId} {n : Int32} {vs : List Value} {dv : Value} (V : Arv Z h a k .byte n vs dv) {j : Int32} {v : Value} (hin : ¬ j < 0 ∧ j < n) (hv : vs.getD j.toNatClampNeg dv = v) (hd : decode c.code pc = .ok (.baload, 1)) {rest : List Value} (hs : st = .int j :: .ref a :: rest)
    (go : Owe p.tables e below G T (mkF m (pc + 1) Ls (v :: rest))) : Owe p.tables e below G T (mkF m pc Ls st) := by
  obtain ⟨cl, A, q, S, M, H, U⟩ := V
  exact Owe.by (fun t k => X.baloadBytes hx (by rw [eT]; exact A.1) (State.isArrayOf_alike hZ.alike A.2.1) A.2.2 (inb_of S hin) (H.at (inb_of S hin) hv) (g := mkF m pc Ls st) rfl hs hd t k) go
theorem Owe.arrlen (X : Stand p l e R s m args below meth c T locs cells slots) (hx : p.tables.exec = Jvm.exec) (hZ : Z.Warmed39 s.vm) (eT : T.heap = h) {a : Addr} {k : ClassId} {ty : FieldType} {n : Int32} {vs : List Value} {dv : Value} (V : Arv Z h a k ty n vs dv) (hd : decode c.code pc = .ok (.arraylength, 1)) {rest : List Value} (hs : st = .ref a :: rest)
    (go : Owe p.tables e below G T (mkF m (pc + 1) Ls (.int n :: rest))) : Owe p.tables e below G T (mkF m pc Ls st) := by
  obtain ⟨cl, A, q, S, M, H, U⟩ := V
  refine Owe.by (fun t k => X.arraylength hx (by rw [eT]; exact A.1) (State.isArrayOf_alike hZ.alike A.2.1) (g := mkF m pc Ls st) rfl hs hd t ?_) go
  rw [len_of S M]; exact k
theorem Owe.getf (X : Stand p l e R s m args below meth c T locs cells slots) (hx : p.tables.exec = Jvm.exec) (hZ : Z.Warmed39 s.vm) {own R0 O n d host : String} {index : Nat} (hown : s.vm.findClass own = some m.cls) (w : (Cond.fieldLink own index R0 n d).before a0 Z = true ∨ (Cond.fieldLinkNest own index R0 n d host).before a0 Z = true) (via : Via Z R0 O n d) (eT : T.heap = h) {a : Addr} {v : Value} (F : Fld Z h a O n d v) (hd : decode c.code pc = .ok (.getfield index, 3)) {rest : List Value} (hs : st = .ref a :: rest)
    (go : ∀ T' : State, Stand p l e R s m args below meth c T' locs cells slots → T'.heap = h → Owe p.tables e below G T' (mkF m (pc + 3) Ls (v :: rest))) : Owe p.tables e below G T (mkF m pc Ls st) := by
  obtain ⟨T', X', e', st'⟩ := getF X hx hZ hown w via eT F (g := mkF m pc Ls st) rfl hs hd
  exact Owe.by st' (go T' X' e')
theorem Owe.gets (X : Stand p l e R s m args below meth c T locs cells slots) (hx : p.tables.exec = Jvm.exec) (hZ : Z.Warmed39 s.vm) {own R0 O n d : String} {index : Nat} (hown : s.vm.findClass own = some m.cls) (w : (Cond.fieldLink own index R0 n d).before a0 Z = true) (via : Via Z R0 O n d) (eT : T.heap = h) {v : Value} (F : Sta Z h O n d v) (hd : decode c.code pc = .ok (.getstatic index, 3))
    (go : ∀ T' : State, Stand p l e R s m args below meth c T' locs cells slots → T'.heap = h → Owe p.tables e below G T' (mkF m (pc + 3) Ls (v :: st))) : Owe p.tables e below G T (mkF m pc Ls st) := by
  obtain ⟨T', X', e', st'⟩ := getS X hx hZ (host := "") hown w via eT F (g := mkF m pc Ls st) rfl hd
  exact Owe.by st' (go T' X' e')
theorem Owe.putf (X : Stand p l e R s m args below meth c T locs cells slots) (hx : p.tables.exec = Jvm.exec) (hZ : Z.Warmed39 s.vm) {own R0 O n d host C : String} {index kk : Nat} {ty : FieldType} (hown : s.vm.findClass own = some m.cls) (w : (Cond.fieldLink own index R0 n d).before a0 Z = true ∨ (Cond.fieldLinkNest own index R0 n d host).before a0 Z = true) (via : Via Z R0 O n d) (eT : T.heap = h) {a : Addr} {v old : Value} (F : Fld Z h a O n d old) (E : Exa Z h a C)
    (L : (Cond.lays C O n d).before a0 Z = true ∨ ((Cond.laysFinal C O n d).before a0 Z = true ∧ own = O ∧ meth.name = "<init>")) (wi : (Cond.instantiable C kk).before a0 Z = true) (hty : parseFieldDescriptor d = some ty) (hn : narrow ty v = v) (hf : fits ty v = true) (hd : decode c.code pc = .ok (.putfield index, 3)) {rest : List Value} (hs : st = v :: .ref a :: rest)
    (go : ∀ (T' : State) (h' : Heap), Stand p l e R s m args below meth c T' (locs ++ [⟨a, Jvm.RoadKit.slotOf Z O n d⟩]) cells slots → T'.heap = h' → Wr h h' a (Jvm.RoadKit.slotOf Z O n d) v → Owe p.tables e below G T' (mkF m (pc + 3) Ls rest)) : Owe p.tables e below G T (mkF m pc Ls st) := by
  obtain ⟨T', h', X', e', W', st'⟩ := putF X hx hZ hown w via eT F E L wi hty hn hf (g := mkF m pc Ls st) rfl hs hd
  exact Owe.by st' (go T' h' X' e' W')
theorem Owe.objinit (X : Stand p l e R s m args below meth c T locs cells slots) (hx : p.tables.exec = Jvm.exec) (hZ : Z.Warmed39 s.vm) {own : String} {idx : Nat} (hown : s.vm.findClass own = some m.cls) (w1 : (Cond.methodLink own idx Lib.objectInit).before a0 Z = true) (w2 : (Cond.instanceMethod Lib.objectInit).before a0 Z = true) (w3 : (Cond.code Lib.objectInit ⟨#[0xb1]⟩ 1 none).before a0 Z = true) (eT : T.heap = h) (hsize : Ls.size = c.maxLocals) {a : Addr} {rest : List Value} (hs : st = .ref a :: rest) (hd : decode c.code pc = .ok (.invokespecial idx, 3)) (hf : 1 ≤ R.frames) {W : Nat} (hW : (rest.map fun v => v.category).sum ≤ W) (hl : W + 12 ≤ R.locals)
    (go : ∀ T' : State, Stand p l e R s m args below meth c T' locs cells slots → T'.heap = h → Owe p.tables e below G T' (mkF m (pc + 3) Ls rest)) : Owe p.tables e below G T (mkF m pc Ls st) := by
  obtain ⟨T', X', e', st'⟩ := initO X hx hZ hown w1 w2 w3 eT (g := mkF m pc Ls st) rfl hsize hs hd hf (W := W) (by show 2 * 0 + _ ≤ W; omega) hl
  exact Owe.by st' (go T' X' e')
theorem Owe.castY (X : Stand p l e R s m args below meth c T locs cells slots) (hx : p.tables.exec = Jvm.exec) (hZ : Z.Warmed39 s.vm) {own K : String} {index : Nat} (hown : s.vm.findClass own = some m.cls) (w : (Cond.classLink own index K).before a0 Z = true) (eT : T.heap = h) {a : Addr} (F : Ins Z h a K true) (hd : decode c.code pc = .ok (.checkcast index, 3)) {rest : List Value} (hs : st = .ref a :: rest)
    (go : ∀ T' : State, Stand p l e R s m args below meth c T' locs cells slots → T'.heap = h → Owe p.tables e below G T' (mkF m (pc + 3) Ls st)) : Owe p.tables e below G T (mkF m pc Ls st) := by
  obtain ⟨T', X', e', st'⟩ := Jvm.RoadKit.castY X hx hZ hown w eT F (g := mkF m pc Ls st) rfl hs hd
  exact Owe.by st' (go T' X' e')
theorem Owe.instY (X : Stand p l e R s m args below meth c T locs cells slots) (hx : p.tables.exec = Jvm.exec) (hZ : Z.Warmed39 s.vm) {own K : String} {index : Nat} (hown : s.vm.findClass own = some m.cls) (w : (Cond.classLink own index K).before a0 Z = true) (eT : T.heap = h) {a : Addr} (F : Ins Z h a K true) (hd : decode c.code pc = .ok (.instanceof index, 3)) {rest : List Value} (hs : st = .ref a :: rest)
    (go : ∀ T' : State, Stand p l e R s m args below meth c T' locs cells slots → T'.heap = h → Owe p.tables e below G T' (mkF m (pc + 3) Ls (.int 1 :: rest))) : Owe p.tables e below G T (mkF m pc Ls st) := by
  obtain ⟨T', X', e', st'⟩ := Jvm.RoadKit.instY X hx hZ hown w eT F (g := mkF m pc Ls st) rfl hs hd
  exact Owe.by st' (go T' X' e')
theorem Owe.instNo (X : Stand p l e R s m args below meth c T locs cells slots) (hx : p.tables.exec = Jvm.exec) (hZ : Z.Warmed39 s.vm) {own K C : String} {index : Nat} (hown : s.vm.findClass own = some m.cls) (w : (Cond.classLink own index K).before a0 Z = true) (eT : T.heap = h) {a : Addr} (E : Exa Z h a C) (F : ∃ c t, Z.vm.findClass C = some c ∧ Z.vm.findClass K = some t ∧ Z.vm.assignable c t = false) (hd : decode c.code pc = .ok (.instanceof index, 3)) {rest : List Value} (hs : st = .ref a :: rest)
    (go : ∀ T' : State, Stand p l e R s m args below meth c T' locs cells slots → T'.heap = h → Owe p.tables e below G T' (mkF m (pc + 3) Ls (.int 0 :: rest))) : Owe p.tables e below G T (mkF m pc Ls st) := by
  obtain ⟨T', X', e', st'⟩ := Jvm.RoadKit.instNo X hx hZ hown w eT E F (g := mkF m pc Ls st) rfl hs hd
  exact Owe.by st' (go T' X' e')
theorem Owe.instNull (X : Stand p l e R s m args below meth c T locs cells slots) (hx : p.tables.exec = Jvm.exec) {index : Nat} (hd : decode c.code pc = .ok (.instanceof index, 3)) {rest : List Value} (hs : st = .null :: rest) (go : Owe p.tables e below G T (mkF m (pc + 3) Ls (.int 0 :: rest))) : Owe p.tables e below G T (mkF m pc Ls st) :=
  Owe.by (Jvm.Stand.instanceofNull X hx (g := mkF m pc Ls st) rfl hs hd) go
theorem Owe.aaload (X : Stand p l e R s m args below meth c T locs cells slots) (hx : p.tables.exec = Jvm.exec) (hZ : Z.Warmed39 s.vm) (eT : T.heap = h) {a : Addr} {cl : Cell} {ty : FieldType} (A : Jvm.RoadKit.Arr Z h a cl ty) (hty : ty.isReference = true) {j : Int32} {v : Value} (hin : ¬ (j < 0 ∨ cl.slots.size ≤ j.toNatClampNeg)) (hv : cl.slots[j.toNatClampNeg]? = some v) (hd : decode c.code pc = .ok (.aaload, 1)) {rest : List Value} (hs : st = .int j :: .ref a :: rest)
    (go : Owe p.tables e below G T (mkF m (pc + 1) Ls (v :: rest))) : Owe p.tables e below G T (mkF m pc Ls st) :=
  Owe.by (fun t k => X.aaload hx (by rw [eT]; exact A.1) (State.isArrayOf_alike hZ.alike A.2.1) hty A.2.2 hin hv (g := mkF m pc Ls st) rfl hs hd t k) go
theorem Owe.aaloadV (X : Stand p l e R s m args below meth c T locs cells slots) (hx : p.tables.exec = Jvm.exec) (hZ : Z.Warmed39 s.vm) (eT : T.heap = h) {a : Addr} {k : ClassId} {ty : FieldType} {n : Int32} {vs : List Value} {dv : Value} (V : Arv Z h a k ty n vs dv) (hty : ty.isReference = true) {j : Int32} {v : Value} (hin : ¬ j < 0 ∧ j < n) (hv : vs.getD j.toNatClampNeg dv = v) (hd : decode c.code pc = .ok (.aaload, 1)) {rest : List Value} (hs : st = .int j :: .ref a :: rest)
    (go : Owe p.tables e below G T (mkF m (pc + 1) Ls (v :: rest))) : Owe p.tables e below G T (mkF m pc Ls st) := by
  obtain ⟨cl, A, q, S, M, H, U⟩ := V
  exact Owe.aaload X hx hZ eT A hty (inb_of S hin) (H.at (inb_of S hin) hv) hd hs go
theorem Owe.ldc2L (X : Stand p l e R s m args below meth c T locs cells slots) (hx : p.tables.exec = Jvm.exec) {own : String} {index : Nat} {v : Int64} (hown : s.vm.findClass own = some m.cls) (w : (Cond.constantLong own index v).before args s = true) (hd : decode c.code pc = .ok (.ldc2_w index, 3)) (go : Owe p.tables e below G T (mkF m (pc + 3) Ls (.long v :: st))) : Owe p.tables e below G T (mkF m pc Ls st) :=
  Owe.by (X.ldc2Long hx hown w (g := mkF m pc Ls st) rfl hd) go
theorem Owe.clone (X : Stand p l e R s m args below meth c T locs cells slots) (hx : p.tables.exec = Jvm.exec) (hZ : Z.Warmed39 s.vm) {own ad : String} {index : Nat} (hown : s.vm.findClass own = some m.cls) (w1 : (Cond.methodLink own index ⟨ad, "clone", "()Ljava/lang/Object;"⟩).before a0 Z = true) (w2 : (Cond.sameMethod ad "java/lang/Object" "clone" "()Ljava/lang/Object;").before a0 Z = true) (w3 : (Cond.native ⟨"java/lang/Object", "clone", "()Ljava/lang/Object;"⟩).before a0 Z = true)
    (w4 : (Cond.instanceMethod ⟨"java/lang/Object", "clone", "()Ljava/lang/Object;"⟩).before a0 Z = true) (w5 : (Cond.selects ad ⟨ad, "clone", "()Ljava/lang/Object;"⟩ ⟨"java/lang/Object", "clone", "()Ljava/lang/Object;"⟩).before a0 Z = true) (w6 : (Cond.castable ad "java/lang/Cloneable").before a0 Z = true)
    (eT : T.heap = h) {a : Addr} {k : ClassId} {ty : FieldType} {n : Int32} {vs : List Value} {dv : Value} (V : Arv Z h a k ty n vs dv) (E : Exa Z h a ad) (hsize : Ls.size = c.maxLocals) {rest : List Value} (hs : st = .ref a :: rest) (hd : decode c.code pc = .ok (.invokevirtual index, 3))
    (hf : 1 ≤ R.frames) {W cap : Nat} (hW : (rest.map fun v => v.category).sum ≤ W) (hl : W + 14 ≤ R.locals) (hcap : n.toNatClampNeg ≤ cap) (hc : cells + 1 ≤ R.cells) (hsl : slots + cap ≤ R.slots)
    (go : ∀ (T' : State) (h' : Heap) (b : Addr), b = h.size → Stand p l e R s m args below meth c T' locs (cells + 1) (slots + cap) → T'.heap = h' → Ext h h' → Arv Z h' b k ty n vs dv → Exa Z h' b ad → Owe p.tables e below G T' (mkF m (pc + 3) Ls (.ref b :: rest))) : Owe p.tables e below G T (mkF m pc Ls st) := by
  obtain ⟨T', h', X', e', E', A', B', st'⟩ := cloneH X hx hZ hown w1 w2 w3 w4 w5 w6 eT V.arh E (g := mkF m pc Ls st) rfl hsize hs hd hf (W := W) (by show 2 * 0 + _ ≤ W; omega) hl hcap hc hsl
  exact Owe.by st' (go T' h' _ rfl X' e' E' A' B')
/-! calls by a contract in the Back form of 'backOf' and of the pasted String laws -/
variable {y z : MethodName} {as' : Array Value} {Q : Option Value → Heap → List Loc → Prop} {W kc ks : Nat}
theorem Owe.special (X : Stand p l e R s m args below meth c T locs cells slots) (hx : p.tables.exec = Jvm.exec) {own : String} {index : Nat} (hy1 : y.name = "<init>") (hown : s.vm.findClass own = some m.cls) (hlink : (Cond.methodLink own index y).before args s = true) (hinst : (Cond.instanceMethod y).before args s = true) {bytes : ByteArray} {maxL : Nat} (hcode : (Cond.code y bytes maxL none).before args s = true) (hy : y.cls ≠ "java/lang/invoke/MethodHandle" ∧ y.cls ≠ "java/lang/invoke/VarHandle")
    (hK : Back l R p e below s args y 3 W (fun A a => a = as' ∧ A.U.heap = h ∧ A.cells + kc ≤ R.cells ∧ A.slots + ks ≤ R.slots) (fun A _ v B => ∃ L, Q v B.U.heap L ∧ B.locs = A.locs ++ L ∧ B.cells = A.cells + kc ∧ B.slots = A.slots + ks))
    (hsize : Ls.size = c.maxLocals) {a : Addr} {argsL rest : List Value} (hlen : ∀ sig, parseMethodDescriptor y.desc = some sig → argsL.length = sig.parameters.length) (hs : st = argsL.reverse ++ .ref a :: rest) (hW : (rest.map fun v => v.category).sum ≤ W) (hd : decode c.code pc = .ok (.invokespecial index, 3))
    (has : (.ref a :: argsL).toArray = as') (eT : T.heap = h) (hc : cells + kc ≤ R.cells) (hl : slots + ks ≤ R.slots)
    (go : ∀ (T' : State) (v : Option Value) (L : List Loc), Stand p l e R s m args below meth c T' (locs ++ L) (cells + kc) (slots + ks) → Q v T'.heap L → Owe p.tables e below G T' (mkF m (pc + 3) Ls (v.toList ++ rest))) : Owe p.tables e below G T (mkF m pc Ls st) := by
  obtain ⟨v, _, ⟨T', L', k', n'⟩, -, X', ⟨L, hQ, l', y', z'⟩, st'⟩ := X.specialBack hx hy1 hown hlink hinst hcode hy hK (g := mkF m pc Ls st) rfl hsize (Steps.refl _) hlen hs (by show 2 * 0 + _ ≤ W; omega) hd (fun _ _ => ⟨has, eT, hc, hl⟩)
  dsimp only [Pt.U, Pt.locs, Pt.cells, Pt.slots] at X' l' y' z' st' hQ
  subst l' y' z'
  exact Owe.by (fun t k => st'.trans k) (go T' v L X' hQ)
theorem Owe.specialRef (X : Stand p l e R s m args below meth c T locs cells slots) (hx : p.tables.exec = Jvm.exec) (hZ : Z.Warmed39 s.vm) {own : String} {index : Nat} (hy1 : y.name = "<init>") (hown : s.vm.findClass own = some m.cls) (href : (Cond.methodRef own index y).before a0 Z = true) (hinst : (Cond.instanceMethod y).before a0 Z = true) {bytes : ByteArray} {maxL : Nat} (hcode : (Cond.code y bytes maxL none).before a0 Z = true) (hy : y.cls ≠ "java/lang/invoke/MethodHandle" ∧ y.cls ≠ "java/lang/invoke/VarHandle")
    (hK : Back l R p e below s args y 3 W (fun A a => a = as' ∧ A.U.heap = h ∧ A.cells + kc ≤ R.cells ∧ A.slots + ks ≤ R.slots) (fun A _ v B => ∃ L, Q v B.U.heap L ∧ B.locs = A.locs ++ L ∧ B.cells = A.cells + kc ∧ B.slots = A.slots + ks))
    (hsize : Ls.size = c.maxLocals) {a : Addr} {argsL rest : List Value} (hlen : ∀ sig, parseMethodDescriptor y.desc = some sig → argsL.length = sig.parameters.length) (hs : st = argsL.reverse ++ .ref a :: rest) (hW : (rest.map fun v => v.category).sum ≤ W) (hd : decode c.code pc = .ok (.invokespecial index, 3))
    (has : (.ref a :: argsL).toArray = as') (eT : T.heap = h) (hc : cells + kc ≤ R.cells) (hl : slots + ks ≤ R.slots)
    (go : ∀ (T' : State) (v : Option Value) (L : List Loc), Stand p l e R s m args below meth c T' (locs ++ L) (cells + kc) (slots + ks) → Q v T'.heap L → Owe p.tables e below G T' (mkF m (pc + 3) Ls (v.toList ++ rest))) : Owe p.tables e below G T (mkF m pc Ls st) := by
  have hU : Z.Warmed39 T.vm := wtrans hZ X.warmed
  obtain ⟨obj, methO, hnO, hmO, hstO, habO⟩ := Cond.instanceMethod_spec hinst
  obtain ⟨methO', cO, hmO', hcO, hbO, hlO, -, hlockO, -, hsigO⟩ := Cond.code_spec hnO hcode
  cases hmO.symm.trans hmO'
  obtain ⟨kO, hkO, hnameO⟩ := className_of_methodNamed hnO
  obtain ⟨hnameMO, hdescO⟩ := name_of_methodNamed hnO hmO
  have href' := Cond.methodRef_warmed39 (vm' := T.vm) hU hnO hy href
  have hownT : (Z.setVm T.vm).vm.findClass own = some m.cls := by show T.vm.findClass own = _; rw [X.warmed.alike.findClass]; exact hown
  have hnT : (Z.setVm T.vm).methodNamed? y = some obj := by rw [State.methodNamed?_setVm hU.alike]; exact hnO
  obtain ⟨m', c', hf, hready, hfind, hnr⟩ := Cond.methodRef_named e hownT href'
  have hfo := State.methodFound?_of_named hnT hy
  cases hfo.symm.trans hf
  cases (findClass_of_methodNamed hnT).symm.trans hfind
  obtain ⟨kO₂, hkO₂, heO₂⟩ := hU.alike.2.2 _ _ hkO
  have hmO₂ : T.vm.method? obj = some methO := by rw [hU.alike.method?]; exact hmO
  have hfound : lookupSpecial T.vm obj.cls "<init>" methO.desc = .method obj := by
    rw [hU.alike.lookupSpecial, hdescO, ← hy1]; exact lookupSpecial_of_named hnO hmO hstO
  obtain ⟨v, ⟨T', L', k', n'⟩, X', ⟨L, hQ, l', y', z'⟩, st'⟩ := hK m meth c ⟨T, locs, cells, slots⟩ (mkF m pc Ls rest) (.invokespecial index) obj (.ref a :: argsL).toArray X rfl hsize hd (by show 2 * 0 + (rest.map fun v => v.category).sum ≤ W; omega) hnT ⟨has, eT, hc, hl⟩
  dsimp only [Pt.U, Pt.locs, Pt.cells, Pt.slots] at X' l' y' z' st' hQ
  subst l' y' z'
  refine Owe.by (fun t k => ?_) (go T' v L X' hQ)
  have hstep : ∀ target, (∀ acts, Steps p.tables e below (doInvoke e (T.setTop (mkF m pc Ls rest)) acts obj (.ref a :: argsL).toArray).1 target) → Steps p.tables e below (T.setTop (mkF m pc Ls st)) target := fun target hrest => by
    jvm_step X.here [hx, hd, invokespecial.wp_init (e := e) (s := T) (k := kO₂) (meth := methO) (m := obj) (a := a) (args := argsL) (rest := rest) (f := mkF m pc Ls st)
      X.here.top hnr hready hkO₂ hmO₂ (by rw [hnameMO]; exact hy1) hstO habO hfound (hlen _ hsigO) hs]
    exact hrest
  exact hstep _ fun acts => by rw [doInvoke_state]; exact st'.trans k
theorem Owe.virt (X : Stand p l e R s m args below meth c T locs cells slots) (hx : p.tables.exec = Jvm.exec) (hZ : Z.Warmed39 s.vm) {own C : String} {index : Nat} (hown : s.vm.findClass own = some m.cls) (hlink : (Cond.methodLink own index y).before args s = true) (hdecl : (Cond.declares y).before args s = true) (hsel : (Cond.selects C y z).before args s = true) (hinst : (Cond.instanceMethod z).before args s = true) (hnf : NotFace s y) (hy : y.cls ≠ "java/lang/invoke/MethodHandle" ∧ y.cls ≠ "java/lang/invoke/VarHandle")
    (hK : Back l R p e below s args z 3 W (fun A a => a = as' ∧ A.U.heap = h ∧ A.cells + kc ≤ R.cells ∧ A.slots + ks ≤ R.slots) (fun A _ v B => ∃ L, Q v B.U.heap L ∧ B.locs = A.locs ++ L ∧ B.cells = A.cells + kc ∧ B.slots = A.slots + ks))
    (hsize : Ls.size = c.maxLocals) {a : Addr} {argsL rest : List Value} (E : Exa Z h a C) (hlen : ∀ sig, parseMethodDescriptor y.desc = some sig → argsL.length = sig.parameters.length) (hs : st = argsL.reverse ++ .ref a :: rest) (hW : (rest.map fun v => v.category).sum ≤ W) (hd : decode c.code pc = .ok (.invokevirtual index, 3))
    (has : (.ref a :: argsL).toArray = as') (eT : T.heap = h) (hc : cells + kc ≤ R.cells) (hl : slots + ks ≤ R.slots)
    (go : ∀ (T' : State) (v : Option Value) (L : List Loc), Stand p l e R s m args below meth c T' (locs ++ L) (cells + kc) (slots + ks) → Q v T'.heap L → Owe p.tables e below G T' (mkF m (pc + 3) Ls (v.toList ++ rest))) : Owe p.tables e below G T (mkF m pc Ls st) := by
  obtain ⟨cq, kq, qa, qb, qc⟩ := isOf hZ eT E
  obtain ⟨v, _, ⟨T', L', k', n'⟩, -, X', ⟨L, hQ, l', y', z'⟩, st'⟩ := X.virtualBack hx hown hlink hdecl hnf hsel hinst hy hK qa qc (g := mkF m pc Ls st) rfl hsize (Steps.refl _) hlen hs (by show 2 * 0 + _ ≤ W; omega) hd (fun _ _ => ⟨has, eT, hc, hl⟩)
  dsimp only [Pt.U, Pt.locs, Pt.cells, Pt.slots] at X' l' y' z' st' hQ
  subst l' y' z'
  exact Owe.by (fun t k => st'.trans k) (go T' v L X' hQ)
theorem Owe.virtUp (X : Stand p l e R s m args below meth c T locs cells slots) (hx : p.tables.exec = Jvm.exec) (hZ : Z.Warmed39 s.vm) {own C owner : String} {index : Nat} (hown : s.vm.findClass own = some m.cls) (hlink : (Cond.methodLink own index y).before args s = true) (hsame : (Cond.sameMethod y.cls owner y.name y.desc).before args s = true) (hdecl : (Cond.declares ⟨owner, y.name, y.desc⟩).before args s = true) (howner : owner ≠ "java/lang/invoke/MethodHandle" ∧ owner ≠ "java/lang/invoke/VarHandle") (hsel : (Cond.selects C y z).before args s = true) (hinst : (Cond.instanceMethod z).before args s = true)
    (hK : Back l R p e below s args z 3 W (fun A a => a = as' ∧ A.U.heap = h ∧ A.cells + kc ≤ R.cells ∧ A.slots + ks ≤ R.slots) (fun A _ v B => ∃ L, Q v B.U.heap L ∧ B.locs = A.locs ++ L ∧ B.cells = A.cells + kc ∧ B.slots = A.slots + ks))
    (hsize : Ls.size = c.maxLocals) {a : Addr} {argsL rest : List Value} (E : Exa Z h a C) (hlen : ∀ sig, parseMethodDescriptor y.desc = some sig → argsL.length = sig.parameters.length) (hs : st = argsL.reverse ++ .ref a :: rest) (hW : (rest.map fun v => v.category).sum ≤ W) (hd : decode c.code pc = .ok (.invokevirtual index, 3))
    (has : (.ref a :: argsL).toArray = as') (eT : T.heap = h) (hc : cells + kc ≤ R.cells) (hl : slots + ks ≤ R.slots)
    (go : ∀ (T' : State) (v : Option Value) (L : List Loc), Stand p l e R s m args below meth c T' (locs ++ L) (cells + kc) (slots + ks) → Q v T'.heap L → Owe p.tables e below G T' (mkF m (pc + 3) Ls (v.toList ++ rest))) : Owe p.tables e below G T (mkF m pc Ls st) := by
  obtain ⟨cq, kq, qa, qb, qc⟩ := isOf hZ eT E
  obtain ⟨v, _, ⟨T', L', k', n'⟩, -, X', ⟨L, hQ, l', y', z'⟩, st'⟩ := X.virtualBackUp hx hown hlink hsame hdecl howner hsel hinst hK qa qc (g := mkF m pc Ls st) rfl hsize (Steps.refl _) hlen hs (by show 2 * 0 + _ ≤ W; omega) hd (fun _ _ => ⟨has, eT, hc, hl⟩)
  dsimp only [Pt.U, Pt.locs, Pt.cells, Pt.slots] at X' l' y' z' st' hQ
  subst l' y' z'
  exact Owe.by (fun t k => st'.trans k) (go T' v L X' hQ)
theorem Owe.stat (X : Stand p l e R s m args below meth c T locs cells slots) (hx : p.tables.exec = Jvm.exec) {own : String} {index : Nat} {bytes : ByteArray} {maxL : Nat} {ret : Option FieldType} (hown : s.vm.findClass own = some m.cls) (hlink : (Cond.methodLink own index y).before args s = true) (hstat : (Cond.static y).before args s = true) (hinit : (Cond.initialized y.cls).before args s = true) (hcode : (Cond.code y bytes maxL ret).before args s = true) (hy : y.cls ≠ "java/lang/invoke/MethodHandle" ∧ y.cls ≠ "java/lang/invoke/VarHandle")
    (hK : Back l R p e below s args y 3 W (fun A a => a = as' ∧ A.U.heap = h ∧ A.cells + kc ≤ R.cells ∧ A.slots + ks ≤ R.slots) (fun A _ v B => ∃ L, Q v B.U.heap L ∧ B.locs = A.locs ++ L ∧ B.cells = A.cells + kc ∧ B.slots = A.slots + ks))
    (hsize : Ls.size = c.maxLocals) {argsL rest : List Value} (hlen : ∀ sig, parseMethodDescriptor y.desc = some sig → argsL.length = sig.parameters.length) (hs : st = argsL.reverse ++ rest) (hW : (rest.map fun v => v.category).sum ≤ W) (hd : decode c.code pc = .ok (.invokestatic index, 3))
    (has : argsL.toArray = as') (eT : T.heap = h) (hc : cells + kc ≤ R.cells) (hl : slots + ks ≤ R.slots)
    (go : ∀ (T' : State) (v : Option Value) (L : List Loc), Stand p l e R s m args below meth c T' (locs ++ L) (cells + kc) (slots + ks) → Q v T'.heap L → Owe p.tables e below G T' (mkF m (pc + 3) Ls (v.toList ++ rest))) : Owe p.tables e below G T (mkF m pc Ls st) := by
  obtain ⟨v, _, ⟨T', L', k', n'⟩, -, X', ⟨L, hQ, l', y', z'⟩, st'⟩ := Jvm.LawKit.callS X hx hown hlink hstat hinit hcode hy hK (g := mkF m pc Ls st) rfl hsize hlen hs (by show 2 * 0 + _ ≤ W; omega) hd (fun _ _ => ⟨has, eT, hc, hl⟩)
  dsimp only [Pt.U, Pt.locs, Pt.cells, Pt.slots] at X' l' y' z' st' hQ
  subst l' y' z'
  exact Owe.by st' (go T' v L X' hQ)
/-! the end: it returns -/
theorem Owe.retN (X : Stand p l e R s m args below meth c T locs cells slots) (hx : p.tables.exec = Jvm.exec) (hlk : meth.locks = false) {z : Int32} {t : FieldType} {rest : List Value} (hret : meth.sig.returnType = some t) (ht : t = .boolean ∨ t = .byte ∨ t = .char ∨ t = .short) (hd : decode c.code pc = .ok (.ireturn, 1)) (hs : st = .int z :: rest)
    (go : ∀ fs : List Frame, FrameEnd s (.returned (some (.int (nar t z)))) (T.setFrames fs) locs cells slots → G (.returned (some (.int (nar t z)))) (T.setFrames fs)) : Owe p.tables e below G T (mkF m pc Ls st) := by
  subst hs
  obtain ⟨fs, hr, hrun, hended, hW, hsame⟩ := X.leave (v := some (.int (nar t z))) (fun h => by rw [hret] at h; cases h) hlk
  exact ⟨_, _, Jvm.RoadKit.retN X hx hret ht hd hr, hrun, hended, go fs ⟨⟨_, rfl⟩, hW, hsame⟩⟩
theorem Owe.retI (X : Stand p l e R s m args below meth c T locs cells slots) (hx : p.tables.exec = Jvm.exec) (hlk : meth.locks = false) {z : Int32} {rest : List Value} (hret : meth.sig.returnType = some .int) (hd : decode c.code pc = .ok (.ireturn, 1)) (hs : st = .int z :: rest)
    (go : ∀ fs : List Frame, FrameEnd s (.returned (some (.int z))) (T.setFrames fs) locs cells slots → G (.returned (some (.int z))) (T.setFrames fs)) : Owe p.tables e below G T (mkF m pc Ls st) := by
  subst hs
  obtain ⟨fs, hr, hrun, hended, hW, hsame⟩ := X.leave (v := some (.int z)) (fun h => by rw [hret] at h; cases h) hlk
  have hm' : T.vm.method? m = some meth := X.method'
  have hn : narrow .int (.int z) = .int z := rfl
  refine ⟨_, _, ?_, hrun, hended, go fs ⟨⟨_, rfl⟩, hW, hsame⟩⟩
  show Steps p.tables e below (T.setTop { method := m, pc := pc, locals := Ls, stack := _ :: rest, locked := none }) _
  jvm_step X.here [X.here.top, hx, hd, hm', hret, hn]
  first | (intro acts; rw [hr _ acts rfl rfl rfl]) | rw [hr _ _ rfl rfl rfl]
  exact Steps.refl _
theorem Owe.retR (X : Stand p l e R s m args below meth c T locs cells slots) (hx : p.tables.exec = Jvm.exec) (hlk : meth.locks = false) {w : Value} {t : FieldType} {rest : List Value} (hret : meth.sig.returnType = some t) (hn : narrow t w = w) (ht : t.isReference = true) (hw : w.isRef = true) (hd : decode c.code pc = .ok (.areturn, 1)) (hs : st = w :: rest)
    (go : ∀ fs : List Frame, FrameEnd s (.returned (some w)) (T.setFrames fs) locs cells slots → G (.returned (some w)) (T.setFrames fs)) : Owe p.tables e below G T (mkF m pc Ls st) := by
  subst hs
  obtain ⟨fs, hr, hrun, hended, hW, hsame⟩ := X.leave (v := some w) (fun h => by rw [hret] at h; cases h) hlk
  have hm' : T.vm.method? m = some meth := X.method'
  refine ⟨_, _, ?_, hrun, hended, go fs ⟨⟨_, rfl⟩, hW, hsame⟩⟩
  show Steps p.tables e below (T.setTop { method := m, pc := pc, locals := Ls, stack := _ :: rest, locked := none }) _
  jvm_step X.here [X.here.top, hx, hd, hm', hret, hn, hw]
  try (refine ⟨ht, ?_⟩)
  first | (intro acts; rw [hr _ acts rfl rfl rfl]) | rw [hr _ _ rfl rfl rfl]
  exact Steps.refl _
theorem Owe.ret0 (X : Stand p l e R s m args below meth c T locs cells slots) (hx : p.tables.exec = Jvm.exec) (hlk : meth.locks = false) (hret : meth.sig.returnType = none) (hd : decode c.code pc = .ok (.return_, 1)) (hs : st = [])
    (go : ∀ fs : List Frame, FrameEnd s (.returned none) (T.setFrames fs) locs cells slots → G (.returned none) (T.setFrames fs)) : Owe p.tables e below G T (mkF m pc Ls st) := by
  subst hs
  obtain ⟨fs, hr, hrun, hended, hW, hsame⟩ := X.leave (v := none) (fun _ => rfl) hlk
  exact ⟨_, _, X.returnOut hx hret hd hr, hrun, hended, go fs ⟨⟨_, rfl⟩, hW, hsame⟩⟩
end Heavy
theorem frameMono {s t : State} {o : Outcome} {L : List Loc} {k n k' n' : Nat} (h : FrameEnd s o t L k n) (hk : k ≤ k') (hn : n ≤ n') : FrameEnd s o t L k' n' := ⟨h.1, h.2.1, h.2.2.mono hk hn⟩
end Own
end Jvm.Pilot.@@N@@
namespace Jvm.Pilot.@@N@@
namespace Own
open Jvm Jvm.ClassFile Sem Op Lib Jvm.Free Jvm.Stand Jvm.LawKit Jvm.RoadKit
/-! WALKS THAT MAY LOAD A STRING CONSTANT COLD: the Stand is over 's.setVm vm0', 'hS' says what has come since the true start s -/
section Cold
variable {p : Program} {l : Launch} {e : Env} {R : Room} {s : State} {m : MethodId} {args : Array Value} {below : List Frame} {meth : Method} {c : Code} {T : State} {locs : List Loc} {cells slots : Nat} {Z : State} {a0 : Array Value} {h : Heap} {G : Outcome → State → Prop} {pc : Nat} {Ls : Array Slot} {st : List Value} {vm0 : Vm} {k0 : Nat} {EL : List (String × Nat)}
theorem coldMono {s t : State} {o : Outcome} {L : List Loc} {k n k' n' : Nat} (h : ReturnedEndW s o t L k n) (hk : k ≤ k') (hn : n ≤ n') : ReturnedEndW s o t L k' n' := ⟨h.1, h.2.1, h.2.2.1, h.2.2.2.mono hk hn⟩
theorem Owe.ldcO (X : Stand p l e R (s.setVm vm0) m args below meth c T locs cells slots) (hx : p.tables.exec = Jvm.exec) (hZ : Z.Warmed39 (s.setVm vm0).vm) (hS : s.Since vm0 k0) (hEL : EW Z a0 EL) (H : CHv Z EL vm0 h) {own text : String} {index : Nat} (hown : (s.setVm vm0).vm.findClass own = some m.cls) (w : (Cond.stringLink own index text).before a0 Z = true) (wS : ∀ a ∈ Bundle.stringAtoms, a.before a0 Z = true) (eT : T.heap = h) (hk : k0 ≤ h.size) (hd : decode c.code pc = .ok (.ldc index, 2)) {n : Nat} (hn : 4 * text.toList.length ≤ n) (hbig : n ≤ 536870912) (hc : cells + 2 ≤ R.cells) (hl : slots + (n + 4) ≤ R.slots)
    (go : ∀ (a : Addr) (T' : State) (h' : Heap) (k1 : Nat), Stand p l e R (s.setVm T'.vm) m args below meth c T' locs (cells + 2) (slots + (n + 4)) → T'.heap = h' → Ext h h' → s.Since T'.vm k1 → k1 ≤ h'.size → Z.Warmed39 (s.setVm T'.vm).vm → (s.setVm T'.vm).vm.findClass own = some m.cls → CHr Z EL vm0 h T'.vm h' → Lit (s.setVm T'.vm) own index a → Owe p.tables e below G T' (mkF m (pc + 2) Ls (.ref a :: st))) : Owe p.tables e below G T (mkF m pc Ls st) := by
  obtain ⟨a, T', h', k1, X', e', E', hS', hk', hZ', hown', hC', L', st'⟩ := ldcOH X hx hZ hown w wS eT hS hk hEL H (g := mkF m pc Ls st) rfl hd hn hbig hc hl
  exact Owe.by st' (go a T' h' k1 X' e' E' hS' hk' hZ' hown' hC' L')
theorem Owe.ldcV (X : Stand p l e R (s.setVm vm0) m args below meth c T locs cells slots) (hx : p.tables.exec = Jvm.exec) (hZ : Z.Warmed39 (s.setVm vm0).vm) (hS : s.Since vm0 k0) (hEL : EW Z a0 EL) (H : CHv Z EL vm0 h) {own text : String} {index : Nat} (hmem : (own, index) ∈ EL) (hown : (s.setVm vm0).vm.findClass own = some m.cls) (w : (Cond.stringLink own index text).before a0 Z = true) (wS : ∀ a ∈ Bundle.stringAtoms, a.before a0 Z = true) (eT : T.heap = h) (hk : k0 ≤ h.size)
    {vs : List Value} {z : Int32} (ht : (∀ c ∈ text.toList, c.toNat < 256) ∧ text.toList.map (fun c => Value.int (Jvm.Lit.byteI c.toNat.toUInt16)) = vs) (hz : ¬ z < 0) (hlv : z.toNatClampNeg = vs.length) (hd : decode c.code pc = .ok (.ldc index, 2)) {n : Nat} (hn : 4 * text.toList.length ≤ n) (hbig : n ≤ 536870912) (hc : cells + 2 ≤ R.cells) (hl : slots + (n + 4) ≤ R.slots)
    (go : ∀ (a : Addr) (T' : State) (h' : Heap) (k1 : Nat) (b : Addr) (k : ClassId), Stand p l e R (s.setVm T'.vm) m args below meth c T' locs (cells + 2) (slots + (n + 4)) → T'.heap = h' → Ext h h' → s.Since T'.vm k1 → k1 ≤ h'.size → Z.Warmed39 (s.setVm T'.vm).vm → (s.setVm T'.vm).vm.findClass own = some m.cls →
      Exa Z h' a "java/lang/String" → Fld Z h' a "java/lang/String" "coder" "B" (.int 0) → Fld Z h' a "java/lang/String" "value" "[B" (.ref b) → Arv Z h' b k .byte z vs (.int 0) → CHr Z EL vm0 h T'.vm h' → Lit (s.setVm T'.vm) own index a → (∀ x, Safe Z EL T'.vm h' x → x ≠ a ∧ x ≠ b) → Owe p.tables e below G T' (mkF m (pc + 2) Ls (.ref a :: st))) : Owe p.tables e below G T (mkF m pc Ls st) := by
  obtain ⟨a, T', h', k1, b, k, X', e', E', hS', hk', hZ', hown', r1, r2, r3, r4, -, -, r7, r8, r9, st'⟩ := ldcCH X hx hZ hown w wS eT hS hk hEL hmem H ht hz hlv (g := mkF m pc Ls st) rfl hd hn hbig hc hl
  exact Owe.by st' (go a T' h' k1 b k X' e' E' hS' hk' hZ' hown' r1 r2 r3 r4 r7 r8 r9)
theorem Owe.ldcA (X : Stand p l e R (s.setVm vm0) m args below meth c T locs cells slots) (hx : p.tables.exec = Jvm.exec) (hZ : Z.Warmed39 (s.setVm vm0).vm) {own text : String} {index : Nat} (hown : (s.setVm vm0).vm.findClass own = some m.cls) (w : (Cond.stringLink own index text).before a0 Z = true) {a : Addr} (L : Lit (s.setVm vm0) own index a) (hd : decode c.code pc = .ok (.ldc index, 2)) (go : Owe p.tables e below G T (mkF m (pc + 2) Ls (.ref a :: st))) : Owe p.tables e below G T (mkF m pc Ls st) :=
  Owe.by (ldcAgain X hx hZ hown w L (g := mkF m pc Ls st) rfl hd) go
variable {y z : MethodName} {as' : Array Value} {Q : Option Value → Heap → List Loc → Prop} {W kc ks : Nat}
theorem Owe.specialS (X : Stand p l e R (s.setVm vm0) m args below meth c T locs cells slots) (hx : p.tables.exec = Jvm.exec) (hZ : Z.Warmed39 (s.setVm vm0).vm) (hS : s.Since vm0 k0) (hk : k0 ≤ h.size) {own : String} {index : Nat} (hy1 : y.name = "<init>") (hown : (s.setVm vm0).vm.findClass own = some m.cls) (hlink : (Cond.methodLink own index y).before args (s.setVm vm0) = true) (hinst : (Cond.instanceMethod y).before args (s.setVm vm0) = true) {bytes : ByteArray} {maxL : Nat} (hcode : (Cond.code y bytes maxL none).before args (s.setVm vm0) = true) (hy : y.cls ≠ "java/lang/invoke/MethodHandle" ∧ y.cls ≠ "java/lang/invoke/VarHandle")
    (hK : BackS l R p e below (s.setVm vm0) args y 3 W (fun A a => a = as' ∧ A.U.heap = h ∧ A.cells + kc ≤ R.cells ∧ A.slots + ks ≤ R.slots) (fun A _ v B => ∃ L, Q v B.U.heap L ∧ B.locs = A.locs ++ L ∧ B.cells = A.cells + kc ∧ B.slots = A.slots + ks ∧ CHr Z EL vm0 h B.U.vm B.U.heap))
    (hsize : Ls.size = c.maxLocals) {a : Addr} {argsL rest : List Value} (hlen : ∀ sig, parseMethodDescriptor y.desc = some sig → argsL.length = sig.parameters.length) (hs : st = argsL.reverse ++ .ref a :: rest) (hW : (rest.map fun v => v.category).sum ≤ W) (hd : decode c.code pc = .ok (.invokespecial index, 3))
    (has : (.ref a :: argsL).toArray = as') (eT : T.heap = h) (hc : cells + kc ≤ R.cells) (hl : slots + ks ≤ R.slots)
    (go : ∀ (T' : State) (v : Option Value) (L : List Loc), Stand p l e R (s.setVm T'.vm) m args below meth c T' (locs ++ L) (cells + kc) (slots + ks) → s.Since T'.vm T'.heap.size → Z.Warmed39 (s.setVm T'.vm).vm → (s.setVm T'.vm).vm.findClass own = some m.cls → CHr Z EL vm0 h T'.vm T'.heap → Q v T'.heap L → Owe p.tables e below G T' (mkF m (pc + 3) Ls (v.toList ++ rest))) : Owe p.tables e below G T (mkF m pc Ls st) := by
  obtain ⟨v, _, ⟨T', L', k', n'⟩, -, X', hS', hg', ⟨L, hQ, l', y', z', hC'⟩, st'⟩ := X.specialBackS hx hy1 hown hlink hinst hcode hy hK (g := mkF m pc Ls st) rfl hsize (Steps.refl _) hlen hs (by show 2 * 0 + _ ≤ W; omega) hd (fun _ _ => ⟨has, eT, hc, hl⟩)
  dsimp only [Pt.U, Pt.locs, Pt.cells, Pt.slots] at X' l' y' z' st' hQ hS' hg' hC'
  subst l' y' z'
  exact Owe.by (fun t k => st'.trans k) (go T' v L X' (hS.trans hS' (Nat.le_trans hk (eT ▸ hg'))) (State.Warmed39.trans (t := s.setVm vm0) hZ hS'.1) (by rw [show (s.setVm T'.vm).vm = T'.vm from rfl, hS'.1.alike.findClass]; exact hown) hC' hQ)
theorem Owe.virtS (X : Stand p l e R (s.setVm vm0) m args below meth c T locs cells slots) (hx : p.tables.exec = Jvm.exec) (hZ : Z.Warmed39 (s.setVm vm0).vm) (hS : s.Since vm0 k0) (hk : k0 ≤ h.size) {own C : String} {index : Nat} (hown : (s.setVm vm0).vm.findClass own = some m.cls) (hlink : (Cond.methodLink own index y).before args (s.setVm vm0) = true) (hdecl : (Cond.declares y).before args (s.setVm vm0) = true) (hsel : (Cond.selects C y z).before args (s.setVm vm0) = true) (hinst : (Cond.instanceMethod z).before args (s.setVm vm0) = true) (hnf : NotFace (s.setVm vm0) y) (hy : y.cls ≠ "java/lang/invoke/MethodHandle" ∧ y.cls ≠ "java/lang/invoke/VarHandle")
    (hK : BackS l R p e below (s.setVm vm0) args z 3 W (fun A a => a = as' ∧ A.U.heap = h ∧ A.cells + kc ≤ R.cells ∧ A.slots + ks ≤ R.slots) (fun A _ v B => ∃ L, Q v B.U.heap L ∧ B.locs = A.locs ++ L ∧ B.cells = A.cells + kc ∧ B.slots = A.slots + ks ∧ CHr Z EL vm0 h B.U.vm B.U.heap))
    (hsize : Ls.size = c.maxLocals) {a : Addr} {argsL rest : List Value} (E : Exa Z h a C) (hlen : ∀ sig, parseMethodDescriptor y.desc = some sig → argsL.length = sig.parameters.length) (hs : st = argsL.reverse ++ .ref a :: rest) (hW : (rest.map fun v => v.category).sum ≤ W) (hd : decode c.code pc = .ok (.invokevirtual index, 3))
    (has : (.ref a :: argsL).toArray = as') (eT : T.heap = h) (hc : cells + kc ≤ R.cells) (hl : slots + ks ≤ R.slots)
    (go : ∀ (T' : State) (v : Option Value) (L : List Loc), Stand p l e R (s.setVm T'.vm) m args below meth c T' (locs ++ L) (cells + kc) (slots + ks) → s.Since T'.vm T'.heap.size → Z.Warmed39 (s.setVm T'.vm).vm → (s.setVm T'.vm).vm.findClass own = some m.cls → CHr Z EL vm0 h T'.vm T'.heap → Q v T'.heap L → Owe p.tables e below G T' (mkF m (pc + 3) Ls (v.toList ++ rest))) : Owe p.tables e below G T (mkF m pc Ls st) := by
  obtain ⟨cq, kq, qa, qb, qc⟩ := isOf hZ eT E
  obtain ⟨v, _, ⟨T', L', k', n'⟩, -, X', hS', hg', ⟨L, hQ, l', y', z', hC'⟩, st'⟩ := X.virtualBackS hx hown hlink hdecl hnf hsel hinst hy hK qa qc (g := mkF m pc Ls st) rfl hsize (Steps.refl _) hlen hs (by show 2 * 0 + _ ≤ W; omega) hd (fun _ _ => ⟨has, eT, hc, hl⟩)
  dsimp only [Pt.U, Pt.locs, Pt.cells, Pt.slots] at X' l' y' z' st' hQ hS' hg' hC'
  subst l' y' z'
  exact Owe.by (fun t k => st'.trans k) (go T' v L X' (hS.trans hS' (Nat.le_trans hk (eT ▸ hg'))) (State.Warmed39.trans (t := s.setVm vm0) hZ hS'.1) (by rw [show (s.setVm T'.vm).vm = T'.vm from rfl, hS'.1.alike.findClass]; exact hown) hC' hQ)
theorem Owe.statS (X : Stand p l e R (s.setVm vm0) m args below meth c T locs cells slots) (hx : p.tables.exec = Jvm.exec) (hZ : Z.Warmed39 (s.setVm vm0).vm) (hS : s.Since vm0 k0) (hk : k0 ≤ h.size) {own : String} {index : Nat} {bytes : ByteArray} {maxL : Nat} {ret : Option FieldType} (hown : (s.setVm vm0).vm.findClass own = some m.cls) (hlink : (Cond.methodLink own index y).before args (s.setVm vm0) = true) (hstat : (Cond.static y).before args (s.setVm vm0) = true) (hinit : (Cond.initialized y.cls).before args (s.setVm vm0) = true) (hcode : (Cond.code y bytes maxL ret).before args (s.setVm vm0) = true) (hy : y.cls ≠ "java/lang/invoke/MethodHandle" ∧ y.cls ≠ "java/lang/invoke/VarHandle")
    (hK : BackS l R p e below (s.setVm vm0) args y 3 W (fun A a => a = as' ∧ A.U.heap = h ∧ A.cells + kc ≤ R.cells ∧ A.slots + ks ≤ R.slots) (fun A _ v B => ∃ L, Q v B.U.heap L ∧ B.locs = A.locs ++ L ∧ B.cells = A.cells + kc ∧ B.slots = A.slots + ks ∧ CHr Z EL vm0 h B.U.vm B.U.heap))
    (hsize : Ls.size = c.maxLocals) {argsL rest : List Value} (hlen : ∀ sig, parseMethodDescriptor y.desc = some sig → argsL.length = sig.parameters.length) (hs : st = argsL.reverse ++ rest) (hW : (rest.map fun v => v.category).sum ≤ W) (hd : decode c.code pc = .ok (.invokestatic index, 3))
    (has : argsL.toArray = as') (eT : T.heap = h) (hc : cells + kc ≤ R.cells) (hl : slots + ks ≤ R.slots)
    (go : ∀ (T' : State) (v : Option Value) (L : List Loc), Stand p l e R (s.setVm T'.vm) m args below meth c T' (locs ++ L) (cells + kc) (slots + ks) → s.Since T'.vm T'.heap.size → Z.Warmed39 (s.setVm T'.vm).vm → (s.setVm T'.vm).vm.findClass own = some m.cls → CHr Z EL vm0 h T'.vm T'.heap → Q v T'.heap L → Owe p.tables e below G T' (mkF m (pc + 3) Ls (v.toList ++ rest))) : Owe p.tables e below G T (mkF m pc Ls st) := by
  obtain ⟨v, _, ⟨T', L', k', n'⟩, -, X', hS', hg', ⟨L, hQ, l', y', z', hC'⟩, st'⟩ := callSS X hx hown hlink hstat hinit hcode hy hK (g := mkF m pc Ls st) rfl hsize hlen hs (by show 2 * 0 + _ ≤ W; omega) hd (fun _ _ => ⟨has, eT, hc, hl⟩)
  dsimp only [Pt.U, Pt.locs, Pt.cells, Pt.slots] at X' l' y' z' st' hQ hS' hg' hC'
  subst l' y' z'
  exact Owe.by (fun t k => st'.trans k) (go T' v L X' (hS.trans hS' (Nat.le_trans hk (eT ▸ hg'))) (State.Warmed39.trans (t := s.setVm vm0) hZ hS'.1) (by rw [show (s.setVm T'.vm).vm = T'.vm from rfl, hS'.1.alike.findClass]; exact hown) hC' hQ)
theorem Owe.retNW (X : Stand p l e R (s.setVm vm0) m args below meth c T locs cells slots) (hx : p.tables.exec = Jvm.exec) (hS : s.Since vm0 k0) (eT : T.heap = h) (hk : k0 ≤ h.size) (hlk : meth.locks = false) {z : Int32} {t : FieldType} {rest : List Value} (hret : meth.sig.returnType = some t) (ht : t = .boolean ∨ t = .byte ∨ t = .char ∨ t = .short) (hd : decode c.code pc = .ok (.ireturn, 1)) (hs : st = .int z :: rest)
    (go : ∀ fs : List Frame, ReturnedEndW s (.returned (some (.int (nar t z)))) (T.setFrames fs) locs cells slots → G (.returned (some (.int (nar t z)))) (T.setFrames fs)) : Owe p.tables e below G T (mkF m pc Ls st) := by
  subst hs
  obtain ⟨fs, hr, hrun, hended, hE⟩ := X.leaveW hS (eT ▸ hk) (v := some (.int (nar t z))) (fun h => by rw [hret] at h; cases h) hlk
  exact ⟨_, _, Jvm.RoadKit.retN X hx hret ht hd hr, hrun, hended, go fs hE⟩
theorem Owe.retRW (X : Stand p l e R (s.setVm vm0) m args below meth c T locs cells slots) (hx : p.tables.exec = Jvm.exec) (hS : s.Since vm0 k0) (eT : T.heap = h) (hk : k0 ≤ h.size) (hlk : meth.locks = false) {w : Value} {t : FieldType} {rest : List Value} (hret : meth.sig.returnType = some t) (hn : narrow t w = w) (ht : t.isReference = true) (hw : w.isRef = true) (hd : decode c.code pc = .ok (.areturn, 1)) (hs : st = w :: rest)
    (go : ∀ fs : List Frame, ReturnedEndW s (.returned (some w)) (T.setFrames fs) locs cells slots → G (.returned (some w)) (T.setFrames fs)) : Owe p.tables e below G T (mkF m pc Ls st) := by
  subst hs
  obtain ⟨fs, hr, hrun, hended, hE⟩ := X.leaveW hS (eT ▸ hk) (v := some w) (fun h => by rw [hret] at h; cases h) hlk
  have hm' : T.vm.method? m = some meth := X.method'
  refine ⟨_, _, ?_, hrun, hended, go fs hE⟩
  show Steps p.tables e below (T.setTop { method := m, pc := pc, locals := Ls, stack := _ :: rest, locked := none }) _
  jvm_step X.here [X.here.top, hx, hd, hm', hret, hn, hw]
  try (refine ⟨ht, ?_⟩)
  first | (intro acts; rw [hr _ acts rfl rfl rfl]) | rw [hr _ _ rfl rfl rfl]
  exact Steps.refl _
theorem Owe.ret0W (X : Stand p l e R (s.setVm vm0) m args below meth c T locs cells slots) (hx : p.tables.exec = Jvm.exec) (hS : s.Since vm0 k0) (eT : T.heap = h) (hk : k0 ≤ h.size) (hlk : meth.locks = false) (hret : meth.sig.returnType = none) (hd : decode c.code pc = .ok (.return_, 1)) (hs : st = [])
    (go : ∀ fs : List Frame, ReturnedEndW s (.returned none) (T.setFrames fs) locs cells slots → G (.returned none) (T.setFrames fs)) : Owe p.tables e below G T (mkF m pc Ls st) := by
  subst hs
  obtain ⟨fs, hr, hrun, hended, hE⟩ := X.leaveW hS (eT ▸ hk) (v := none) (fun _ => rfl) hlk
  exact ⟨_, _, X.returnOut hx hret hd hr, hrun, hended, go fs hE⟩
end Cold
end Own
end Jvm.Pilot.@@N@@
namespace Jvm.Pilot.@@N@@
namespace Own
open Jvm Jvm.ClassFile Sem Op Lib Jvm.Free Jvm.Stand Jvm.LawKit Jvm.RoadKit Jvm.Lambda Jvm.LamKit
/-! A method reference to an instance method (the forwarder: aload_1, checkcast, invokevirtual, areturn), with the tables moved since the words were said (Warmed39). -/
theorem made_later {Z : State} {vm' : Vm} (hW : Z.Warmed39 vm') {host : String} {σ : Lambda.Shape} {fcode : ByteArray} {fml idx ci : Nat} {fret : Option FieldType} (hok : fwdOK σ host fcode fml fret idx ci = true) {cK : ClassId} (hmd : LamKit.Made Z host σ cK) :
    ∃ (k tk : Class) (file : ClassFile) (methk : Method) (ck : Code) (toy : ClassId) (t : MethodId) (nt : Nat),
      vm'.classes[cK]? = some k ∧ plainName k.name = true ∧ k.cf = some file ∧ file.constantPool[idx]? = some (.methodref ci nt) ∧
      vm'.method? ⟨cK, 1⟩ = some methk ∧ methk.code = some ck ∧ ck.code = fcode ∧ ck.maxLocals = fml ∧ methk.locks = false ∧ methk.sig.returnType = fret ∧
      vm'.findClass σ.implClass = some toy ∧ vm'.classes[toy]? = some tk ∧ ((methodIn toy σ.implName σ.implDesc.toString tk.isInterface none).ask { classPath := fun _ => none } Z.vm).1 = .ok t ∧
      vm'.methodReady cK idx t ∧ vm'.classReady cK ci toy := by
  obtain ⟨d, dk, hd, hdn, hmade, -⟩ := hmd
  obtain ⟨k, tk, file, methk, ck, toy, t, nt, h1, h2, h3, h4, -, h6, h7, h8, h9, h10, -, h12, h13, h14, h15, ⟨k1, r1, r2⟩, ⟨k2, r3, r4⟩⟩ := made_static hok hd hdn hmade
  have hA := hW.alike
  obtain ⟨k', e1, e2⟩ := hA.2.2 _ _ h1
  obtain ⟨tk', e3, e4⟩ := hA.2.2 _ _ h14
  cases h1.symm.trans r1
  cases h1.symm.trans r3
  refine ⟨k', tk', file, methk, ck, toy, t, nt, e1, by rw [e2]; exact h2, by rw [e2]; exact h3, h4, by rw [hA.method?]; exact h6, h7, h8, h9, h10, h12, by rw [hA.findClass]; exact h13, e3, ?_, ⟨k', e1, ?_⟩, ⟨k', e1, ?_⟩⟩
  · have q : tk'.isInterface = tk.isInterface := by rw [e4]; rfl
    rw [q]; exact h15
  · rcases hW.entry h1 e1 idx with q | ⟨q, -⟩
    · rw [q]; exact r2
    · rw [r2] at q; cases q
  · rcases hW.entry h1 e1 ci with q | ⟨q, -⟩
    · rw [q]; exact r4
    · rw [r4] at q; cases q
theorem castReady {Q : Unit → Pre} {E : CtlPost} {e : Env} {d : Bool} {acts : List Action} {s : State} {f : JFrame} {index c a : Nat} {rest : List Value} {cell : Cell} {ks kt : Class} (hs : s.topJava?.isSome) (hr : s.vm.classReady f.method.cls index c) (hstack : f.stack = .ref a :: rest) (hcell : s.heap[a]? = some cell) (hobj : ∀ k, cell.vm ≠ .statics k)
    (hks : s.vm.classes[cell.cls]? = some ks) (hkt : s.vm.classes[c]? = some kt) (hasg : s.vm.assignable cell.cls c = true) : wp (checkcast.sem index) Q E e d acts (s.setTop f) ↔ Q () d acts (s.setTop f) := by
  rw [checkcast.wp_ready hs hr hstack]
  constructor
  · rintro ⟨c1, q1, -, ks1, -, kt1, -, q⟩
    cases hcell.symm.trans q1
    rwa [if_pos hasg] at q
  · intro q
    exact ⟨cell, hcell, hobj, ks, hks, kt, hkt, by rw [if_pos hasg]; exact q⟩
section
variable {p : Program} {l : Launch} {e : Env} {R R' : Room} {s Z : State} {m : MethodId} {args a0 : Array Value} {below : List Frame} {meth : Method} {c : Code} {T : State} {locs : List Loc} {cells slots : Nat} {G : Outcome → State → Prop} {pc : Nat} {Ls : Array Slot} {st : List Value} {h : Heap} {Q : Option Value → Heap → List Loc → Prop}
theorem Owe.site (X : Stand p l e R s m args below meth c T locs cells slots) (hx : p.tables.exec = Jvm.exec) (hZ : Z.Warmed39 s.vm) {x : MethodName} {index n0 : Nat} {σ : Lambda.Shape} (hnamed : s.methodNamed? x = some m) (w : (Cond.lambdaSite x pc index σ).before a0 Z = true) (hcap : σ.captured = []) (O : Old Z n0 h) (eT : T.heap = h) (hsize : Ls.size = c.maxLocals) (hd : decode c.code pc = .ok (.invokedynamic index, 5)) {W : Nat} (hW : (st.map fun v => v.category).sum ≤ W) (hl : W + 3072 ≤ R.locals)
    (go : ∀ (a : Addr) (cK : ClassId), LamKit.Made Z x.cls σ cK → FnAt h a cK → Owe p.tables e below G T (mkF m (pc + 5) Ls (.ref a :: st))) : Owe p.tables e below G T (mkF m pc Ls st) := by
  obtain ⟨cK, one, hat⟩ := Cond.lambdaSite_spec w
  obtain ⟨mD, kD, cfD, i0, p0, lk, hmD, hkD, -, -, -, hfind, hmade, hcan, hl'⟩ := State.lambdaAt?_spec hat
  have hA := hZ.alike
  have hnZ : Z.methodNamed? x = some m := by
    have q := State.methodNamed?_setVm (s := Z) hA x
    rw [← q]; exact hnamed
  cases hnZ.symm.trans hmD
  obtain ⟨kD', hkD', hnameD⟩ := className_of_methodNamed hnZ
  cases hkD.symm.trans hkD'
  obtain ⟨k2, e2, e3⟩ := hA.2.2 _ _ hkD
  rcases hl' with ⟨a, cell, rfl, -, -, hcell, hcls, hvm, -⟩ | ⟨-, -, hne⟩
  · have hw : e.platform.lambdaLinkWords = 3072 := by rw [X.admits.platform]
    have hf2 : (k2.callSites.find? fun y => y.1 == m.idx && y.2.1 == pc) = some (i0, p0, .constant a) := by rw [e3]; exact hfind
    exact Owe.by (fun t k => X.lambdaConstant hx (g := mkF m pc Ls st) rfl hsize hd e2 hf2 (by rw [hw]; show 2 * 0 + _ + 3072 ≤ R.locals; show 2 * 0 + (st.map fun v => v.category).sum + 3072 ≤ R.locals; omega) k)
      (go a cK ⟨_, kD, hkD, hnameD, hmade, hcan⟩ ⟨cell, O.2.2 a cell hcell, hcls, hvm⟩)
  · exact absurd hcap hne
theorem Owe.castNull (X : Stand p l e R s m args below meth c T locs cells slots) (hx : p.tables.exec = Jvm.exec) {index : Nat} (hd : decode c.code pc = .ok (.checkcast index, 3)) {rest : List Value} (hs : st = .null :: rest) (go : Owe p.tables e below G T (mkF m (pc + 3) Ls st)) : Owe p.tables e below G T (mkF m pc Ls st) :=
  Owe.by (fun t k => Stand.checkcastNull X hx (g := mkF m pc Ls st) rfl hs hd t k) go
theorem Owe.lamV (X : Stand p l e R s m args below meth c T locs cells slots) (hx : p.tables.exec = Jvm.exec) (hZ : Z.Warmed39 s.vm) {own host C : String} {index count : Nat} {xi y : MethodName} {σ : Lambda.Shape} (hown : s.vm.findClass own = some m.cls) (w1 : (Cond.methodLink own index xi).before a0 Z = true) (w2 : (Cond.declares xi).before a0 Z = true) (w3 : (Cond.interfaceMethod xi.cls xi.cls xi.name xi.desc).before a0 Z = true)
    (w4 : (Cond.declares y).before a0 Z = true) (w5 : (Cond.selects C y y).before a0 Z = true) (w6 : (Cond.instanceMethod y).before a0 Z = true) (w7 : (Cond.castable C C).before a0 Z = true)
    (hxi : xi.cls = σ.iface ∧ xi.name = σ.name ∧ xi.desc = σ.sam.toString) (hy : y.cls = σ.implClass ∧ y.name = σ.implName ∧ y.desc = σ.implDesc.toString) (hC : C = y.cls)
    (hpx : xi.cls ≠ "java/lang/invoke/MethodHandle" ∧ xi.cls ≠ "java/lang/invoke/VarHandle") (hpy : y.cls ≠ "java/lang/invoke/MethodHandle" ∧ y.cls ≠ "java/lang/invoke/VarHandle")
    {cK : ClassId} (hmd : LamKit.Made Z host σ cK) {a r : Addr} (hfn : FnAt h a cK) (E : Exa Z h r C) {fcode : ByteArray} {idx ci : Nat} {fret : FieldType} (hok : fwdOK σ host fcode 2 (some fret) idx ci = true) (hfr : fret.isReference = true)
    (d0 : decode fcode 0 = .ok (.aload_n 1, 1)) (d1 : decode fcode 1 = .ok (.checkcast ci, 3)) (d4 : decode fcode 4 = .ok (.invokevirtual idx, 3)) (d7 : decode fcode 7 = .ok (.areturn, 1))
    (hK : ∀ (s' : State) (args' : Array Value) (bl : List Frame), Z.Warmed39 s'.vm → Back l R' p e bl s' args' y 3 0 (fun A b => b = #[.ref r] ∧ A.U.heap = h ∧ A.cells + 0 ≤ R'.cells ∧ A.slots + 0 ≤ R'.slots) (fun A _ v B => ∃ L, Q v B.U.heap L ∧ B.locs = A.locs ++ L ∧ B.cells = A.cells + 0 ∧ B.slots = A.slots + 0))
    (hQ : ∀ v h' L, Q v h' L → ∃ w, v = some w ∧ w.isRef = true) (hlen : ∀ sig, parseMethodDescriptor xi.desc = some sig → 1 = sig.parameters.length) (hlen' : ∀ sig, parseMethodDescriptor y.desc = some sig → 0 = sig.parameters.length)
    (hsize : Ls.size = c.maxLocals) {rest : List Value} (hs : st = .ref r :: .ref a :: rest) (hd : decode c.code pc = .ok (.invokeinterface index count, 5)) (eT : T.heap = h)
    {W : Nat} (hW : (rest.map fun v => v.category).sum ≤ W) (hlo : W + 13 + R'.locals ≤ R.locals) (hf : R'.frames + 1 ≤ R.frames) (hc : cells + R'.cells ≤ R.cells) (hsl : slots + R'.slots ≤ R.slots)
    (go : ∀ (T' : State) (v : Option Value) (L : List Loc), Stand p l e R s m args below meth c T' (locs ++ L) (cells + 0) (slots + 0) → Q v T'.heap L → Owe p.tables e below G T' (mkF m (pc + 5) Ls (v.toList ++ rest))) : Owe p.tables e below G T (mkF m pc Ls st) := by
  obtain ⟨cell, hcell, rfl, hvmc⟩ := hfn
  have hA := hZ.alike
  obtain ⟨kK, methk, hkK, hmk, hpub, habs, hsel⟩ := madeSelects hmd hok w3 hxi
  obtain ⟨r0, rM, hn, hrm, hstR, hsigR⟩ := Cond.declares_spec w2
  obtain ⟨cL, kL, r1, hcL, hkL, hiL, -, -⟩ := Cond.interfaceMethod_spec w3
  have hr0cls : r0.cls = cL := Option.some.inj ((findClass_of_methodNamed hn).symm.trans hcL)
  obtain ⟨hasg, hsel', hway⟩ := hsel r0 rM hn hrm
  obtain ⟨kK', hkK', -⟩ := hA.2.2 _ _ hkK
  obtain ⟨kL', hkL', eL⟩ := hA.2.2 _ _ hkL
  have hnS : s.methodNamed? xi = some r0 := (State.methodNamed?_setVm (s := Z) hA xi).trans hn
  obtain ⟨vm₁, X₁, hstep₁⟩ := X.invokeinterface hx hown (mvT hZ w1) hnS (by rw [hA.method?]; exact hrm) hstR (ki := kL') (by rw [hr0cls]; exact hkL') (by rw [eL]; exact hiL) hpx (a := a) (cell := cell) (kcell := kK') (by rw [eT]; exact hcell) (fun z q => by rw [hvmc] at q; cases q) hkK' (by rw [hA.assignable]; exact hasg)
    (m' := ⟨cell.cls, 1⟩) (meth' := methk) (by rw [Launch.admits_selectMethod X.admits, hA.selectMethod]; exact hsel') (by rw [hA.method?]; exact hmk) (by simp only [hA.superclasses, hA.declaredIn]; exact hway) hpub habs (g := mkF m pc Ls st) rfl (argsL := [.ref r]) (rest := rest) (hlen _ hsigR) hs hd
  have hW1 : Z.Warmed39 (T.setVm vm₁).vm := hZ.trans X₁.warmed.wide
  have hA1 := hW1.alike
  obtain ⟨k1, tk, file, methk1, ck, toy, tgt, nt, f1, f2, f3, f4, f6, f7, f8, f9, f10, f12, f13, f14, f15, f16, f17⟩ := made_later hW1 hok hmd
  -- the target
  obtain ⟨y1, y2, y3⟩ := hy
  obtain ⟨c2, r2, m2, q1, q2, q3, q4, mk2, q5, q6⟩ := Cond.selects_spec w5
  obtain ⟨r3, rM3, hn3, hrm3, hst3, hsig3⟩ := Cond.declares_spec w4
  obtain ⟨m4, methM, hn4, hmM, -, habM⟩ := Cond.instanceMethod_spec w6
  have e4 : m4 = m2 := Option.some.inj (hn4.symm.trans q3)
  have e3 : r3 = m2 := Option.some.inj (hn3.symm.trans q3)
  rw [e4] at hmM
  rw [e3] at hrm3
  have erm : rM3 = methM := Option.some.inj (hrm3.symm.trans hmM)
  rw [erm] at hst3 hsig3
  have hfd : Z.methodFound? y.cls y.name y.desc = some m2 := State.methodFound?_of_named q3 hpy
  have er : r2 = m2 := Option.some.inj (q2.symm.trans hfd)
  rw [er] at q4
  have hclsT : Z.vm.findClass y.cls = some m2.cls := findClass_of_methodNamed q3
  have htoy : toy = m2.cls := by
    rw [hA1.findClass, ← y1, hclsT] at f13
    exact (Option.some.inj f13).symm
  rw [htoy] at f14 f15 f17
  have etk : tk.isInterface = mk2.isInterface := by
    obtain ⟨k9, g1, g2⟩ := hA1.2.2 _ _ q5
    have : tk = k9 := Option.some.inj (f14.symm.trans g1)
    rw [this, g2]; rfl
  have htg : tgt = m2 := by
    have h1 := hfd
    simp only [State.methodFound?, hclsT, q5, Option.bind_eq_bind, Option.bind_some] at h1
    rw [etk, ← y2, ← y3] at f15
    rw [f15] at h1
    exact Option.some.inj h1
  rw [htg] at f16
  obtain ⟨kT, hkT, hnameT⟩ := className_of_methodNamed q3
  have hnmT : tk.name = y.cls := by
    obtain ⟨k9, g1, g2⟩ := hA1.2.2 _ _ hkT
    have : tk = k9 := Option.some.inj (f14.symm.trans g1)
    rw [this, g2]; exact hnameT
  have hsp : ∀ z : Method, signaturePolymorphic tk z = false := fun z => by simp [signaturePolymorphic, hnmT, hpy.1, hpy.2]
  have hpk : (T.setVm vm₁).plainMethod ⟨cell.cls, 1⟩ := State.plainMethod.of_name (fun k' hk' => by cases f1.symm.trans hk'; exact f2)
  obtain ⟨Y₀, hin⟩ := X₁.into (g := mkF m pc Ls rest) rfl hsize hd #[.ref a, .ref r] (R' := R') f6 f7 f10 hpk hf (by rw [f9]; show 2 * 0 + (rest.map fun v => v.category).sum + (2 + 11) + R'.locals ≤ R.locals; omega) hc hsl
  have hef : ∀ mk, entryFrame mk #[.ref a, .ref r] 2 = mkF mk 0 #[.val (.ref a), .val (.ref r)] [] := fun mk => by simp [entryFrame, mkF, argsToLocals, Value.category]
  rw [f9, hef] at Y₀ hin
  generalize hU : ((T.setVm vm₁).setTop (mkF m pc Ls rest)).pushFrame (.java (mkF ⟨cell.cls, 1⟩ 0 #[.val (.ref a), .val (.ref r)] [])) = U at Y₀ hin
  have hvmU : U.vm = (T.setVm vm₁).vm := by rw [← hU]; rfl
  have hheapU : U.heap = h := by rw [← hU]; exact eT
  generalize hs' : (T.setVm vm₁).calling (mkF m pc Ls rest) ⟨cell.cls, 1⟩ #[.ref a, .ref r] = s' at Y₀
  have hvm' : s'.vm = (T.setVm vm₁).vm := by rw [← hs']; rfl
  have hWs' : Z.Warmed39 s'.vm := by rw [hvm']; exact hW1
  have hnU : U.methodNamed? y = some m2 := by
    have q : (Z.setVm (T.setVm vm₁).vm).methodNamed? y = some m2 := by rw [State.methodNamed?_setVm hA1]; exact q3
    rw [← hU]; exact q
  obtain ⟨v, ⟨U', ls, cc, sl⟩, Y₁, ⟨L, hq, l', c', n'⟩, hsteps⟩ := hK s' #[.ref a, .ref r] _ hWs' ⟨cell.cls, 1⟩ methk1 ck ⟨U, [], 0, 0⟩ (mkF ⟨cell.cls, 1⟩ 4 #[.val (.ref a), .val (.ref r)] []) (.invokevirtual idx) m2 #[.ref r] Y₀ rfl (by rw [f9]; rfl) (by rw [f8]; exact d4) (Nat.le_refl _) hnU ⟨rfl, hheapU, Nat.zero_le _, Nat.zero_le _⟩
  dsimp only [Pt.U, Pt.locs, Pt.cells, Pt.slots] at Y₁ hq l' c' n' hsteps
  subst l' c' n'
  obtain ⟨w, rfl, hwr⟩ := hQ _ _ _ hq
  obtain ⟨fs, hleave, -, hended, hWe, hsame⟩ := Y₁.leave (v := some w) (fun q => by rw [f12] at q; cases q) f10
  subst hs'
  obtain ⟨T', X', -, -, ht⟩ := X₁.outOf (g := mkF m pc Ls rest) rfl hd hended hWe hsame
  have hheap' : T'.heap = U'.heap := (congrArg State.heap ht).symm
  obtain ⟨cq, kq, qa, qb, ⟨cellR, g1, g2, g3⟩⟩ := isOf hZ hheapU E
  rw [hA.findClass, hC, hclsT] at qa
  cases qa
  obtain ⟨ca, cb, w7a, w7b, w7c⟩ := Cond.castable_spec w7
  refine Owe.by (fun t k => hstep₁ t fun acts => ?_) (go T' (some w) _ (by simpa using X') (by rw [hheap']; exact hq))
  refine Steps.trans ?_ k
  show Steps p.tables e below (doInvoke e ((T.setVm vm₁).setTop (mkF m pc Ls rest)) acts ⟨cell.cls, 1⟩ #[.ref a, .ref r]).1 (T'.setTop { mkF m pc Ls rest with pc := pc + 5, stack := (some w).toList ++ rest })
  rw [hin acts, show T'.setTop { mkF m pc Ls rest with pc := pc + 5, stack := (some w).toList ++ rest } = _ from ht.symm]
  refine Steps.weaken (mid := [.java (mkF m pc Ls rest)]) ?_
  have hsU : U.topJava?.isSome := Y₀.here.top
  refine XS.aloadN Y₀.here hx (g := mkF ⟨cell.cls, 1⟩ 0 #[.val (.ref a), .val (.ref r)] []) rfl (by rw [f8]; exact d0) rfl rfl ?_
  show Steps p.tables e _ (U.setTop (mkF ⟨cell.cls, 1⟩ 1 #[.val (.ref a), .val (.ref r)] [.ref r])) _
  have hobj : ∀ k, cellR.vm ≠ .statics k := fun k q => by rw [q] at g3; cases g3
  have hd1 : decode ck.code 1 = .ok (.checkcast ci, 3) := by rw [f8]; exact d1
  have hd4 : decode ck.code 4 = .ok (.invokevirtual idx, 3) := by rw [f8]; exact d4
  have hasR : U.vm.assignable cellR.cls m2.cls = true := by
    rw [hvmU, hA1.assignable, g2]
    rw [hC] at w7a w7b
    rw [hclsT] at w7a w7b
    cases w7a; cases w7b
    exact w7c
  have hkU : U.vm.classes[m2.cls]? = some tk := by rw [hvmU]; exact f14
  jvm_step Y₀.here [hx, hd1, castReady (e := e) (s := U) (f := mkF ⟨cell.cls, 1⟩ 1 #[.val (.ref a), .val (.ref r)] [.ref r]) (a := r) (rest := []) hsU (by rw [hvmU]; exact f17) rfl g1 hobj (by rw [g2]; exact hkU) hkU hasR]
  show Steps p.tables e _ (U.setTop (mkF ⟨cell.cls, 1⟩ 4 #[.val (.ref a), .val (.ref r)] [.ref r])) _
  have hselU : selectMethod e.platform U.vm cellR.cls m2 = .method m2 := by
    rw [Launch.admits_selectMethod X.admits, hvmU, hA1.selectMethod, g2]
    rw [hC, hclsT] at q1
    cases q1
    exact q4
  jvm_step Y₀.here [hx, hd4, invokevirtual.wp_ready (e := e) (s := U) (f := mkF ⟨cell.cls, 1⟩ 4 #[.val (.ref a), .val (.ref r)] [.ref r]) (r := m2) (m := m2) (k := tk) (mk := tk) (rmeth := methM) (meth := methM) (args := []) (rest := []) (a := r) (cell := cellR) hsU
    ⟨k1, file, ci, nt, m2.cls, tk, by rw [hvmU]; exact f1, f3, f4, by rw [hvmU]; exact f17, hkU, by rw [etk]; exact q6⟩ (by rw [hvmU]; exact f16) hkU (by rw [hvmU, hA1.method?]; exact hmM) (hsp _) hst3 (hlen' _ hsig3) rfl g1 hobj hselU (by rw [hvmU, hA1.method?]; exact hmM) habM hkU (by rw [etk]; exact q6)]
  intro acts'
  rw [doInvoke_state]
  refine hsteps.trans ?_
  have hfin := retOut Y₁ hx (pc := 7) (Ls := #[.val (.ref a), .val (.ref r)]) f12 (Or.inr (Or.inr (Or.inl ⟨fret, w, rfl, hfr, hwr, rfl, rfl⟩))) (by rw [f8]; exact d7) hleave
  simpa using hfin
end
end Own
end Jvm.Pilot.@@N@@
namespace Jvm.Pilot.@@N@@
open Jvm Jvm.ClassFile Sem Op Lib Jvm.Free Jvm.Stand Jvm.LawKit Jvm.RoadKit Bundle Jvm.Pilot.@@N@@.Jvm.D Jvm.Pilot.@@N@@.Own
abbrev Hw (Z : State) (a0 : Array Value) : Prop := ∀ d ∈ tables_1, d.before a0 Z = true
theorem wd {Z : State} {a0 : Array Value} (hw : Hw Z a0) (i : Nat) {d : Jvm.Cond} (h : tables_1[i]? = some d := by rfl) : d.before a0 Z = true := hw d (List.mem_of_getElem? h)
theorem nb {a b : Nat} (h : Nat.ble a b = true) : a ≤ b := Nat.le_of_ble_eq_true h
abbrev MF (l : Launch) (Z : State) (y : MethodName) (bytes : ByteArray) (maxL : Nat) (ret : Option FieldType) (ws : List Jvm.Cond) (RT : Room) (as' : Array Value) (h0 : Heap) (Q : Option Value → Heap → List Loc → Prop) : Prop :=
  MetFree l y (head1 (Jvm.Cond.code y bytes maxL ret :: ws) RT) (fun a U => a = as' ∧ Z.Warmed39 U.vm ∧ U.heap = h0) (fun _ _ _ _ _ => True) (fun _ U o U' => ∃ v L, o = .returned v ∧ Q v U'.heap L ∧ FrameEnd U o U' L RT.cells RT.slots)
theorem MF.of {l : Launch} {Z : State} {y : MethodName} {bytes : ByteArray} {maxL : Nat} {ret : Option FieldType} {ws : List Jvm.Cond} {RT : Room} {as' : Array Value} {h0 : Heap} {Q : Option Value → Heap → List Loc → Prop} {Ls : Array Slot} (pn : plainName y.cls = true) (ef : ∀ m, entryFrame m as' maxL = mkF m 0 Ls [])
    (k : ∀ (p : Program) (e : Env) (s : State) (m : MethodId) (below : List Frame) (meth : Method) (c : Code) (s₁ : State) (G : Outcome → State → Prop), Stand p l e RT s m as' below meth c s₁ [] 0 0 → s₁.heap = h0 → p.tables.exec = Jvm.exec → c.code = bytes → c.maxLocals = maxL → s.vm.findClass y.cls = some m.cls → meth.name = y.name → meth.locks = false → meth.sig.returnType = ret → Z.Warmed39 s.vm → s.methodNamed? y = some m →
      (∀ o u, (∃ v L, o = .returned v ∧ Q v u.heap L ∧ FrameEnd s o u L RT.cells RT.slots) → G o u) → Owe p.tables e below G s₁ (mkF m 0 Ls [])) : MF l Z y bytes maxL ret ws RT as' h0 Q := by
  refine MetFree.of_bodySF (plainFor_of_name pn) hisR ?_
  intro p e s m args below meth c s₁ Bd hml hP hK
  obtain ⟨rfl, hZ, hh⟩ := hP
  obtain ⟨u, o, h1, h2, h3, h4⟩ := k p e s m below meth c s₁ (fun o u => ∃ v L, o = .returned v ∧ Q v u.heap L ∧ FrameEnd s o u L RT.cells RT.slots) (Stand.of_body Bd) (by rw [← hh, Bd.state]; rfl) Bd.exec Bd.bytes hml (findClass_of_methodNamed Bd.named) (name_of_methodNamed Bd.named Bd.method).1 (BodyLoose.notSynchronized Bd) Bd.returns hZ Bd.named (fun _ _ q => q)
  exact ⟨u, o, castTop (ef m) h1, h2, h3, h4⟩
theorem and255_chars (x : Int32) : ¬ nar .char ((x &&& (255 : Int32)).toUInt32.toUInt16.toUInt32.toInt32) < 0 ∧ ¬ (255 : Int32) < nar .char ((x &&& (255 : Int32)).toUInt32.toUInt16.toUInt32.toInt32) := by
  have t : ∀ k : Fin 256, ¬ nar .char ((Int32.ofNat k.val).toUInt32.toUInt16.toUInt32.toInt32) < 0 ∧ ¬ (255 : Int32) < nar .char ((Int32.ofNat k.val).toUInt32.toUInt16.toUInt32.toInt32) := by decide +kernel
  have h : (x &&& 255).toBitVec.toNat < 256 := by
    simp only [Int32.toBitVec_and, BitVec.toNat_and]
    exact Nat.lt_succ_of_le Nat.and_le_right
  have e : (x &&& 255) = Int32.ofNat (x &&& 255).toBitVec.toNat := by
    apply Int32.toBitVec_inj.mp
    show _ = BitVec.ofNat 32 _
    rw [BitVec.ofNat_toNat]; simp
  rw [e]
  exact t ⟨_, h⟩
theorem own_narrow_ref {v : Value} {t : FieldType} (h : v.isRef = true) (ht : t.isReference = true) : narrow t v = v := by cases t <;> first | (cases ht; done) | (cases v <;> first | rfl | (cases h; done))
theorem own_fits_ref {v : Value} {t : FieldType} (h : v.isRef = true) (ht : t.isReference = true) : fits t v = true := by cases t <;> first | (cases ht; done) | (cases v <;> first | rfl | (cases h; done))
theorem own_cat_ref {v : Value} (h : v.isRef = true) : v.category = 1 := by cases v <;> first | rfl | (cases h; done)
theorem own_eq_int {args : Array Value} {Z : State} {t : Term} {j : Int32} (h : (Jvm.Cond.eq t (Term.int j)).value args Z none Z [] = some true) : t.eval args Z none [] Z = some (.int j) := by
  obtain ⟨x, y, ha, hb, hk, -⟩ := cmp_v (Or.inl h)
  have hj : (Term.int j).eval args Z none [] Z = some (.int j) := Term.int_eval j
  cases x with
  | int z => rw [ha, gotT (Cond.eq_ints ha hj) h]
  | _ => simp [Cond.value, ha, hj] at h
theorem own_eq_ref {args : Array Value} {Z : State} {t u : Term} {b : Addr} (eu : u.eval args Z none [] Z = some (.ref b)) (h : (Jvm.Cond.eq t u).value args Z none Z [] = some true) : t.eval args Z none [] Z = some (.ref b) := by
  obtain ⟨x, y, ha, hb, hk, -⟩ := cmp_v (Or.inl h)
  cases x with
  | ref z => simp [Cond.value, ha, eu] at h; rw [ha, h]
  | _ => simp [Cond.value, ha, eu] at h
theorem own_fld_int {Z : State} {args : Array Value} {t : Term} {a : Addr} {C n d : String} {j : Int32} (ev : t.eval args Z none [] Z = some (.ref a)) (h : (Jvm.Cond.eq (Term.field t C n d) (Term.int j)).value args Z none Z [] = some true) : Fld Z Z.heap a C n d (.int j) := Fld.start ((fld_at ev).symm.trans (own_eq_int h))
theorem own_fld_ref {Z : State} {args : Array Value} {t u : Term} {a b : Addr} {C n d : String} (ev : t.eval args Z none [] Z = some (.ref a)) (eu : u.eval args Z none [] Z = some (.ref b)) (h : (Jvm.Cond.eq (Term.field t C n d) u).value args Z none Z [] = some true) : Fld Z Z.heap a C n d (.ref b) := Fld.start ((fld_at ev).symm.trans (own_eq_ref eu h))
theorem own_len {args : Array Value} {Z : State} {t : Term} {a : Addr} {cl : Cell} {n : Int32} (ht : t.eval args Z none [] Z = some (.ref a)) (hc : Z.arrayAt? a = some cl) (h : (Term.length t).eval args Z none [] Z = some (.int n)) (hn : ¬ n < 0) : cl.slots.size = n.toNatClampNeg := by
  by_cases hl : cl.slots.size < 2 ^ 31
  · rw [len_f ht hc hl] at h
    have e : cl.slots.size.toInt32 = n := by simpa using h
    rw [← e]; show _ = cl.slots.size.toInt32.toInt.toNat; rw [len_toInt hl]; rfl
  · simp [Term.eval, ht, hc, hl] at h
theorem own_el {args : Array Value} {Z : State} {t : Term} {a : Addr} {cl : Cell} {j : Int32} {v : Value} (ht : t.eval args Z none [] Z = some (.ref a)) (hc : Z.arrayAt? a = some cl) (h : (Term.elem t (Term.int j)).eval args Z none [] Z = some v) (hn : ¬ j < 0) : cl.slots[j.toNatClampNeg]? = some v := (elem_f ht (Term.int_eval j) hc hn).symm.trans h
theorem up (cs : List Int32) (h : ∀ c ∈ cs, ¬ c < 0 ∧ ¬ (255 : Int32) < c) : ∀ c ∈ cs, ¬ c < 0 ∧ ¬ (65535 : Int32) < c := fun c hc => ⟨(h c hc).1, fun q => (h c hc).2 (by rw [Int32.lt_iff_toInt_lt] at q ⊢; have e1 : (65535 : Int32).toInt = 65535 := rfl; have e2 : (255 : Int32).toInt = 255 := rfl; omega)⟩
theorem own_rem7 (x : Int32) : ((x &&& (2147483647 : Int32)) - ((x &&& (2147483647 : Int32)) / (7 : Int32)) * (7 : Int32)) = (0 : Int32) ∨ ((x &&& (2147483647 : Int32)) - ((x &&& (2147483647 : Int32)) / (7 : Int32)) * (7 : Int32)) = (1 : Int32) ∨ ((x &&& (2147483647 : Int32)) - ((x &&& (2147483647 : Int32)) / (7 : Int32)) * (7 : Int32)) = (2 : Int32) ∨ ((x &&& (2147483647 : Int32)) - ((x &&& (2147483647 : Int32)) / (7 : Int32)) * (7 : Int32)) = (3 : Int32) ∨ ((x &&& (2147483647 : Int32)) - ((x &&& (2147483647 : Int32)) / (7 : Int32)) * (7 : Int32)) = (4 : Int32) ∨ ((x &&& (2147483647 : Int32)) - ((x &&& (2147483647 : Int32)) / (7 : Int32)) * (7 : Int32)) = (5 : Int32) ∨ ((x &&& (2147483647 : Int32)) - ((x &&& (2147483647 : Int32)) / (7 : Int32)) * (7 : Int32)) = (6 : Int32) := by
  have h0 := c_and x (2147483647 : Int32) (by decide)
  generalize (x &&& (2147483647 : Int32)) = k at h0 ⊢
  have h1 := (c_idiv k (7 : Int32) 7 (by decide) (by decide)).1 h0.1
  have h2 := c_imul (k / (7 : Int32)) (7 : Int32)
  have h3 := c_isub k (k / (7 : Int32) * (7 : Int32))
  have r1 := rng32 (k / (7 : Int32) * (7 : Int32)); have r2 := rng32 (k - k / (7 : Int32) * (7 : Int32)); have r3 := rng32 k
  rw [h1, show ((7 : Int32)).toInt = 7 from rfl] at h2
  have e : (k - k / (7 : Int32) * (7 : Int32)).toInt = 0 ∨ (k - k / (7 : Int32) * (7 : Int32)).toInt = 1 ∨ (k - k / (7 : Int32) * (7 : Int32)).toInt = 2 ∨ (k - k / (7 : Int32) * (7 : Int32)).toInt = 3 ∨ (k - k / (7 : Int32) * (7 : Int32)).toInt = 4 ∨ (k - k / (7 : Int32) * (7 : Int32)).toInt = 5 ∨ (k - k / (7 : Int32) * (7 : Int32)).toInt = 6 := by omega
  simp only [← Int32.toInt_inj]
  exact e
theorem own_rem11 (x : Int32) : ((x &&& (2147483647 : Int32)) - ((x &&& (2147483647 : Int32)) / (11 : Int32)) * (11 : Int32)) = (0 : Int32) ∨ ((x &&& (2147483647 : Int32)) - ((x &&& (2147483647 : Int32)) / (11 : Int32)) * (11 : Int32)) = (1 : Int32) ∨ ((x &&& (2147483647 : Int32)) - ((x &&& (2147483647 : Int32)) / (11 : Int32)) * (11 : Int32)) = (2 : Int32) ∨ ((x &&& (2147483647 : Int32)) - ((x &&& (2147483647 : Int32)) / (11 : Int32)) * (11 : Int32)) = (3 : Int32) ∨ ((x &&& (2147483647 : Int32)) - ((x &&& (2147483647 : Int32)) / (11 : Int32)) * (11 : Int32)) = (4 : Int32) ∨ ((x &&& (2147483647 : Int32)) - ((x &&& (2147483647 : Int32)) / (11 : Int32)) * (11 : Int32)) = (5 : Int32) ∨ ((x &&& (2147483647 : Int32)) - ((x &&& (2147483647 : Int32)) / (11 : Int32)) * (11 : Int32)) = (6 : Int32) ∨ ((x &&& (2147483647 : Int32)) - ((x &&& (2147483647 : Int32)) / (11 : Int32)) * (11 : Int32)) = (7 : Int32) ∨ ((x &&& (2147483647 : Int32)) - ((x &&& (2147483647 : Int32)) / (11 : Int32)) * (11 : Int32)) = (8 : Int32) ∨ ((x &&& (2147483647 : Int32)) - ((x &&& (2147483647 : Int32)) / (11 : Int32)) * (11 : Int32)) = (9 : Int32) ∨ ((x &&& (2147483647 : Int32)) - ((x &&& (2147483647 : Int32)) / (11 : Int32)) * (11 : Int32)) = (10 : Int32) := by
  have h0 := c_and x (2147483647 : Int32) (by decide)
  generalize (x &&& (2147483647 : Int32)) = k at h0 ⊢
  have h1 := (c_idiv k (11 : Int32) 11 (by decide) (by decide)).1 h0.1
  have h2 := c_imul (k / (11 : Int32)) (11 : Int32)
  have h3 := c_isub k (k / (11 : Int32) * (11 : Int32))
  have r1 := rng32 (k / (11 : Int32) * (11 : Int32)); have r2 := rng32 (k - k / (11 : Int32) * (11 : Int32)); have r3 := rng32 k
  rw [h1, show ((11 : Int32)).toInt = 11 from rfl] at h2
  have e : (k - k / (11 : Int32) * (11 : Int32)).toInt = 0 ∨ (k - k / (11 : Int32) * (11 : Int32)).toInt = 1 ∨ (k - k / (11 : Int32) * (11 : Int32)).toInt = 2 ∨ (k - k / (11 : Int32) * (11 : Int32)).toInt = 3 ∨ (k - k / (11 : Int32) * (11 : Int32)).toInt = 4 ∨ (k - k / (11 : Int32) * (11 : Int32)).toInt = 5 ∨ (k - k / (11 : Int32) * (11 : Int32)).toInt = 6 ∨ (k - k / (11 : Int32) * (11 : Int32)).toInt = 7 ∨ (k - k / (11 : Int32) * (11 : Int32)).toInt = 8 ∨ (k - k / (11 : Int32) * (11 : Int32)).toInt = 9 ∨ (k - k / (11 : Int32) * (11 : Int32)).toInt = 10 := by omega
  simp only [← Int32.toInt_inj]
  exact e
theorem own_mod6 (x : Int32) : (((x.toUInt32 >>> ((1 : Int32) &&& 31).toUInt32).toInt32) - (((x.toUInt32 >>> ((1 : Int32) &&& 31).toUInt32).toInt32) / (6 : Int32)) * (6 : Int32)) = (0 : Int32) ∨ (((x.toUInt32 >>> ((1 : Int32) &&& 31).toUInt32).toInt32) - (((x.toUInt32 >>> ((1 : Int32) &&& 31).toUInt32).toInt32) / (6 : Int32)) * (6 : Int32)) = (1 : Int32) ∨ (((x.toUInt32 >>> ((1 : Int32) &&& 31).toUInt32).toInt32) - (((x.toUInt32 >>> ((1 : Int32) &&& 31).toUInt32).toInt32) / (6 : Int32)) * (6 : Int32)) = (2 : Int32) ∨ (((x.toUInt32 >>> ((1 : Int32) &&& 31).toUInt32).toInt32) - (((x.toUInt32 >>> ((1 : Int32) &&& 31).toUInt32).toInt32) / (6 : Int32)) * (6 : Int32)) = (3 : Int32) ∨ (((x.toUInt32 >>> ((1 : Int32) &&& 31).toUInt32).toInt32) - (((x.toUInt32 >>> ((1 : Int32) &&& 31).toUInt32).toInt32) / (6 : Int32)) * (6 : Int32)) = (4 : Int32) ∨ (((x.toUInt32 >>> ((1 : Int32) &&& 31).toUInt32).toInt32) - (((x.toUInt32 >>> ((1 : Int32) &&& 31).toUInt32).toInt32) / (6 : Int32)) * (6 : Int32)) = (5 : Int32) := by
  have h0 := c_iushr x (1 : Int32) 1 rfl (by decide)
  generalize ((x.toUInt32 >>> ((1 : Int32) &&& 31).toUInt32).toInt32) = k at h0 ⊢
  have r0 := rng32 x
  have h9 : 0 ≤ k.toInt := by omega
  have h1 := (c_idiv k (6 : Int32) 6 (by decide) (by decide)).1 h9
  have h2 := c_imul (k / (6 : Int32)) (6 : Int32)
  have h3 := c_isub k (k / (6 : Int32) * (6 : Int32))
  have r1 := rng32 (k / (6 : Int32) * (6 : Int32)); have r2 := rng32 (k - k / (6 : Int32) * (6 : Int32)); have r3 := rng32 k
  rw [h1, show ((6 : Int32)).toInt = 6 from rfl] at h2
  have e : (k - k / (6 : Int32) * (6 : Int32)).toInt = 0 ∨ (k - k / (6 : Int32) * (6 : Int32)).toInt = 1 ∨ (k - k / (6 : Int32) * (6 : Int32)).toInt = 2 ∨ (k - k / (6 : Int32) * (6 : Int32)).toInt = 3 ∨ (k - k / (6 : Int32) * (6 : Int32)).toInt = 4 ∨ (k - k / (6 : Int32) * (6 : Int32)).toInt = 5 := by omega
  simp only [← Int32.toInt_inj]
  exact e
theorem own_and3 (x : Int32) : (x &&& (3 : Int32)) = (0 : Int32) ∨ (x &&& (3 : Int32)) = (1 : Int32) ∨ (x &&& (3 : Int32)) = (2 : Int32) ∨ (x &&& (3 : Int32)) = (3 : Int32) := by
  have h := c_mask x (3 : Int32) 2 (by decide) (by decide)
  have e : (x &&& (3 : Int32)).toInt = 0 ∨ (x &&& (3 : Int32)).toInt = 1 ∨ (x &&& (3 : Int32)).toInt = 2 ∨ (x &&& (3 : Int32)).toInt = 3 := by omega
  simp only [← Int32.toInt_inj]
  exact e
theorem own_nar2 {v : Int32} (h : ¬ v < 0 ∧ ¬ (255 : Int32) < v) : ¬ nar .char v < 0 ∧ ¬ (255 : Int32) < nar .char v := by
  have e0 : (0 : Int32).toInt = 0 := rfl
  have e1 : (255 : Int32).toInt = 255 := rfl
  have c := c_i2c v
  simp only [Int32.lt_iff_toInt_lt, nar] at h ⊢
  omega
theorem own_c255 (x : Int32) : ¬ ((x &&& (255 : Int32)).toUInt32.toUInt16.toUInt32.toInt32) < 0 ∧ ¬ (255 : Int32) < ((x &&& (255 : Int32)).toUInt32.toUInt16.toUInt32.toInt32) := by
  have e0 : (0 : Int32).toInt = 0 := rfl
  have e1 : (255 : Int32).toInt = 255 := rfl
  have a := c_mask x (255 : Int32) 8 (by decide) (by decide)
  have c := c_i2c (x &&& (255 : Int32))
  simp only [Int32.lt_iff_toInt_lt]
  omega
theorem own_ig {i : Int32} {n : Nat} (h0 : ¬ i < 0) (h1 : i < Int32.ofNat n) (h2 : n ≤ 4000) : i.toNatClampNeg < n ∧ i = Int32.ofNat i.toNatClampNeg := by
  have e0 : (0 : Int32).toInt = 0 := rfl
  have en : (Int32.ofNat n).toInt = n := Int32.toInt_ofNat_of_lt (by omega)
  simp only [Int32.lt_iff_toInt_lt, e0, en] at h0 h1
  have ei : i.toNatClampNeg = i.toInt.toNat := rfl
  refine ⟨by omega, ?_⟩
  apply Int32.toInt_inj.mp
  rw [Int32.toInt_ofNat_of_lt (by omega)]
  omega
theorem own_getb {cs : List Int32} {i : Nat} (h : ∀ c ∈ cs, ¬ c < 0 ∧ ¬ (255 : Int32) < c) (hi : i < cs.length) : ¬ cs.getD i 0 < 0 ∧ ¬ (255 : Int32) < cs.getD i 0 := by
  have e : cs.getD i 0 = cs[i] := by simp [List.getD_eq_getElem?_getD, hi]
  rw [e]; exact h _ (List.getElem_mem _)
theorem own_T0 : (∀ c ∈ ([] : List Int32), ¬ c < 0 ∧ ¬ (255 : Int32) < c) ∧ ([] : List Int32).length ≤ 4000 := by decide
theorem own_vs_rdwv : ((([115, 45, 115, 104, 97, 112, 101] : List Int32).map (fun c => c.toInt8.toInt32)).map Value.int) = [(.int (115 : Int32)), (.int (45 : Int32)), (.int (115 : Int32)), (.int (104 : Int32)), (.int (97 : Int32)), (.int (112 : Int32)), (.int (101 : Int32))] := by decide
theorem own_vs_wtwv : ((([108, 97, 114, 103, 101, 115, 116, 45, 103, 97, 112] : List Int32).map (fun c => c.toInt8.toInt32)).map Value.int) = [(.int (108 : Int32)), (.int (97 : Int32)), (.int (114 : Int32)), (.int (103 : Int32)), (.int (101 : Int32)), (.int (115 : Int32)), (.int (116 : Int32)), (.int (45 : Int32)), (.int (103 : Int32)), (.int (97 : Int32)), (.int (112 : Int32))] := by decide
def own_EL : List (String × Nat) := [("com/example/pickwright/pickwright/RoutingNamedPinLaw", 17), ("com/example/pickwright/pickwright/RoutingNamedPinLaw", 19), ("java/lang/String", 7)]
theorem own_ew {Z : State} {a0 : Array Value} (hw : ∀ d ∈ tables_1, d.before a0 Z = true) : EW Z a0 own_EL := EW.cons (wd hw 0) (by decide) (EW.cons (wd hw 119) (by decide) (EW.cons (wd hw 122) (by decide) (EW.nil)))
theorem own_sa : ∀ d ∈ Bundle.stringAtoms, d ∈ tables_1 := by decide +kernel
theorem own_wS {Z : State} {a0 : Array Value} (hw : ∀ d ∈ tables_1, d.before a0 Z = true) : ∀ a ∈ Bundle.stringAtoms, a.before a0 Z = true := fun d hd => hw d (own_sa d hd)
theorem own_safe_null {Z : State} {EL : List (String × Nat)} {vm : Vm} {h : Heap} {x : Addr} (hal : Z.vm.Alike vm) (E : Exa Z h x "java/lang/String") (F : Fld Z h x "java/lang/String" "value" "[B" .null) : Safe Z EL vm h x := fun B => by
  obtain ⟨p, -, u, a, -, q, -, S, rfl | rfl⟩ := B
  · obtain ⟨cS, ⟨⟨s1, -, -, ⟨c1, k1, i1, f1, -⟩, -, -, -, v1, -⟩, -⟩, -⟩ := S
    obtain ⟨cell, cf, k, i, f, h1, h2, -, -, -, -, h7⟩ := F
    cases h1.symm.trans (show h[q.sa]? = some q.sC from s1)
    obtain ⟨k3, e3, -⟩ := State.fieldFound?_setVm (s := Z) hal h2
    have e4 := (show (Wst Z vm h).fieldFound? _ _ _ = _ from e3).symm.trans f1
    simp only [Option.some.injEq, Prod.mk.injEq] at e4
    rw [e4.2.2.2, v1] at h7
    cases h7
  · obtain ⟨cell, k, e1, e2, e3, -, -⟩ := E
    cases (show h[q.sd]? = some q.SA from S.hd).symm.trans e1
    obtain ⟨cS, -, -, f, -⟩ := S
    have f' : Z.vm.findClass "[B" = some q.SA.cls := by rw [← hal.findClass]; exact f
    obtain ⟨k1, q1, q2⟩ := Vm.findClass_spec f'
    obtain ⟨k2, q3, q4⟩ := Vm.findClass_spec e2
    cases q1.symm.trans q3
    exact absurd (q2.symm.trans q4) (by decide)
def own_sig : Lambda.Shape := (Lambda.Shape.mk "java/util/function/Function" "apply" (MethodDescriptor.mk ([(FieldType.object "java/lang/Object")] : List FieldType) (Option.some (FieldType.object "java/lang/Object"))) ([] : List FieldType) 5 "com/example/pickwright/pickwright/Routing" "routingName" (MethodDescriptor.mk ([] : List FieldType) (Option.some (FieldType.object "java/lang/String"))) false (MethodDescriptor.mk ([(FieldType.object "com/example/pickwright/pickwright/Routing")] : List FieldType) (Option.some (FieldType.object "java/lang/String"))))
def own_fcode : ByteArray := ⟨#[0x2b, 0xc0, 0x00, 0x0e, 0xb6, 0x00, 0x12, 0xb0]⟩
theorem own_fwd : LamKit.fwdOK own_sig "com/example/pickwright/pickwright/Routing" own_fcode 2 (some (.object "java/lang/Object")) 18 14 = true := by decide +kernel
theorem own_fd0 : decode own_fcode 0 = .ok (.aload_n 1, 1) := by decide +kernel
theorem own_fd1 : decode own_fcode 1 = .ok (.checkcast 14, 3) := by decide +kernel
theorem own_fd4 : decode own_fcode 4 = .ok (.invokevirtual 18, 3) := by decide +kernel
theorem own_fd7 : decode own_fcode 7 = .ok (.areturn, 1) := by decide +kernel
theorem own_words : ∀ d ∈ StrChars.Road.words, d ∈ tables_1 := by decide +kernel
theorem own_wlen : ∀ d ∈ StrChars.Road.wordsLen, d ∈ tables_1 := by decide +kernel
theorem own_hln {Z : State} {a0 : Array Value} (hw : ∀ d ∈ tables_1, d.before a0 Z = true) : ∀ d ∈ StrChars.Road.wordsLen, d.before a0 Z = true := fun d hd => hw d (own_wlen d hd)
theorem own_wch : ∀ d ∈ StrChars.Road.wordsChN, d ∈ tables_1 := by decide +kernel
theorem own_hch {Z : State} {a0 : Array Value} (hw : ∀ d ∈ tables_1, d.before a0 Z = true) : ∀ d ∈ StrChars.Road.wordsChN, d.before a0 Z = true := fun d hd => hw d (own_wch d hd)
theorem own_weq : ∀ d ∈ StrChars.Road.wordsEq, d ∈ tables_1 := by decide +kernel
theorem own_heq {Z : State} {a0 : Array Value} (hw : ∀ d ∈ tables_1, d.before a0 Z = true) : ∀ d ∈ StrChars.Road.wordsEq, d.before a0 Z = true := fun d hd => hw d (own_weq d hd)
abbrev Y0 : MethodName := ⟨"java/lang/String", "<init>", "([CIILjava/lang/Void;)V"⟩
abbrev Y1 : MethodName := ⟨"java/lang/String", "<init>", "([C)V"⟩
abbrev Y2 : MethodName := ⟨"com/example/pickwright/pickwright/Routing", "values", "()[Lcom/example/pickwright/pickwright/Routing;"⟩
abbrev Y3 : MethodName := ⟨"com/example/pickwright/pickwright/Routing", "routingName", "()Ljava/lang/String;"⟩
abbrev Y4 : MethodName := ⟨"java/lang/String", "equals", "(Ljava/lang/Object;)Z"⟩
abbrev Y5 : MethodName := ⟨"com/example/pickwright/pickwright/Choices", "named", "([Ljava/lang/Object;Ljava/util/function/Function;Ljava/lang/String;)Ljava/lang/Object;"⟩
abbrev Y6 : MethodName := ⟨"com/example/pickwright/pickwright/Routing", "named", "(Ljava/lang/String;)Lcom/example/pickwright/pickwright/Routing;"⟩
abbrev Y7 : MethodName := ⟨"com/example/pickwright/pickwright/RoutingNamedPinLaw", "at", "(Ljava/lang/String;IICII)C"⟩
abbrev Y8 : MethodName := ⟨"java/lang/String", "length", "()I"⟩
abbrev Y9 : MethodName := ⟨"java/lang/String", "charAt", "(I)C"⟩
theorem pd_0 : parseMethodDescriptor "([CIILjava/lang/Void;)V" = some ⟨[(.array .char), .int, .int, (.object "java/lang/Void")], none⟩ := by decide +kernel
theorem pd_1 : parseMethodDescriptor "(Ljava/lang/Object;)Ljava/lang/Object;" = some ⟨[(.object "java/lang/Object")], some (.object "java/lang/Object")⟩ := by decide +kernel
theorem pd_2 : parseMethodDescriptor "()Ljava/lang/String;" = some ⟨[], some (.object "java/lang/String")⟩ := by decide +kernel
theorem pd_3 : parseMethodDescriptor "(Ljava/lang/Object;)Z" = some ⟨[(.object "java/lang/Object")], some .boolean⟩ := by decide +kernel
theorem pd_4 : parseMethodDescriptor "()[Lcom/example/pickwright/pickwright/Routing;" = some ⟨[], some (.array (.object "com/example/pickwright/pickwright/Routing"))⟩ := by decide +kernel
theorem pd_5 : parseMethodDescriptor "([Ljava/lang/Object;Ljava/util/function/Function;Ljava/lang/String;)Ljava/lang/Object;" = some ⟨[(.array (.object "java/lang/Object")), (.object "java/util/function/Function"), (.object "java/lang/String")], some (.object "java/lang/Object")⟩ := by decide +kernel
theorem pd_6 : parseMethodDescriptor "()I" = some ⟨[], some .int⟩ := by decide +kernel
theorem pd_7 : parseMethodDescriptor "(I)C" = some ⟨[.int], some .char⟩ := by decide +kernel
theorem pd_8 : parseMethodDescriptor "(Ljava/lang/String;)Lcom/example/pickwright/pickwright/Routing;" = some ⟨[(.object "java/lang/String")], some (.object "com/example/pickwright/pickwright/Routing")⟩ := by decide +kernel
theorem pd_9 : parseMethodDescriptor "([C)V" = some ⟨[(.array .char)], none⟩ := by decide +kernel
theorem pd_10 : parseMethodDescriptor "(Ljava/lang/String;IICII)C" = some ⟨[(.object "java/lang/String"), .int, .int, .char, .int, .int], some .char⟩ := by decide +kernel
theorem d0_0 : decode jdk_42_method_149_code 0 = .ok (.aload_n 0, 1) := by decide +kernel
theorem d0_1 : decode jdk_42_method_149_code 1 = .ok (.invokespecial 1, 3) := by decide +kernel
theorem d0_4 : decode jdk_42_method_149_code 4 = .ok (.iload_n 3, 1) := by decide +kernel
theorem d0_5 : decode jdk_42_method_149_code 5 = .ok (.ifCond .ne 22, 3) := by decide +kernel
theorem d0_8 : decode jdk_42_method_149_code 8 = .ok (.aload_n 0, 1) := by decide +kernel
theorem d0_9 : decode jdk_42_method_149_code 9 = .ok (.ldc 7, 2) := by decide +kernel
theorem d0_11 : decode jdk_42_method_149_code 11 = .ok (.getfield 9, 3) := by decide +kernel
theorem d0_14 : decode jdk_42_method_149_code 14 = .ok (.putfield 9, 3) := by decide +kernel
theorem d0_17 : decode jdk_42_method_149_code 17 = .ok (.aload_n 0, 1) := by decide +kernel
theorem d0_18 : decode jdk_42_method_149_code 18 = .ok (.ldc 7, 2) := by decide +kernel
theorem d0_20 : decode jdk_42_method_149_code 20 = .ok (.getfield 15, 3) := by decide +kernel
theorem d0_23 : decode jdk_42_method_149_code 23 = .ok (.putfield 15, 3) := by decide +kernel
theorem d0_26 : decode jdk_42_method_149_code 26 = .ok (.return_, 1) := by decide +kernel
theorem d0_27 : decode jdk_42_method_149_code 27 = .ok (.getstatic 38, 3) := by decide +kernel
theorem d0_30 : decode jdk_42_method_149_code 30 = .ok (.ifCond .eq 28, 3) := by decide +kernel
theorem d0_33 : decode jdk_42_method_149_code 33 = .ok (.aload_n 1, 1) := by decide +kernel
theorem d0_34 : decode jdk_42_method_149_code 34 = .ok (.iload_n 2, 1) := by decide +kernel
theorem d0_35 : decode jdk_42_method_149_code 35 = .ok (.iload_n 3, 1) := by decide +kernel
theorem d0_36 : decode jdk_42_method_149_code 36 = .ok (.invokestatic 177, 3) := by decide +kernel
theorem d0_39 : decode jdk_42_method_149_code 39 = .ok (.astore 5, 2) := by decide +kernel
theorem d0_41 : decode jdk_42_method_149_code 41 = .ok (.aload_n 0, 1) := by decide +kernel
theorem d0_42 : decode jdk_42_method_149_code 42 = .ok (.aload 5, 2) := by decide +kernel
theorem d0_44 : decode jdk_42_method_149_code 44 = .ok (.iload_n 3, 1) := by decide +kernel
theorem d0_45 : decode jdk_42_method_149_code 45 = .ok (.invokestatic 47, 3) := by decide +kernel
theorem d0_48 : decode jdk_42_method_149_code 48 = .ok (.putfield 15, 3) := by decide +kernel
theorem d0_51 : decode jdk_42_method_149_code 51 = .ok (.aload_n 0, 1) := by decide +kernel
theorem d0_52 : decode jdk_42_method_149_code 52 = .ok (.aload 5, 2) := by decide +kernel
theorem d0_54 : decode jdk_42_method_149_code 54 = .ok (.putfield 9, 3) := by decide +kernel
theorem d0_57 : decode jdk_42_method_149_code 57 = .ok (.return_, 1) := by decide +kernel
theorem d0_58 : decode jdk_42_method_149_code 58 = .ok (.aload_n 0, 1) := by decide +kernel
theorem d0_59 : decode jdk_42_method_149_code 59 = .ok (.iconst 1, 1) := by decide +kernel
theorem d0_60 : decode jdk_42_method_149_code 60 = .ok (.putfield 15, 3) := by decide +kernel
theorem d0_63 : decode jdk_42_method_149_code 63 = .ok (.aload_n 0, 1) := by decide +kernel
theorem d0_64 : decode jdk_42_method_149_code 64 = .ok (.aload_n 1, 1) := by decide +kernel
theorem d0_65 : decode jdk_42_method_149_code 65 = .ok (.iload_n 2, 1) := by decide +kernel
theorem d0_66 : decode jdk_42_method_149_code 66 = .ok (.iload_n 3, 1) := by decide +kernel
theorem d0_67 : decode jdk_42_method_149_code 67 = .ok (.invokestatic 180, 3) := by decide +kernel
theorem d0_70 : decode jdk_42_method_149_code 70 = .ok (.putfield 9, 3) := by decide +kernel
theorem d0_73 : decode jdk_42_method_149_code 73 = .ok (.return_, 1) := by decide +kernel
theorem pn_0 : plainName "java/lang/String" = true := by first | (simp [plainName, overriddenIn]; done) | decide +kernel
theorem ef_se2 (m : MethodId) (x0 : Addr) (x1 : Addr) (x2 : Int32) (x3 : Int32)  : entryFrame m #[(.ref x0), (.ref x1), (.int x2), (.int x3), .null] 6 = mkF m 0 #[.val (.ref x0), .val (.ref x1), .val (.int x2), .val (.int x3), .val .null, .unset] [] := by first | (simp [entryFrame, mkF, argsToLocals, Value.category]; done) | rfl
def Qse2 (Z : State) (a1 : Addr) (a2 : Addr) (h0 : Heap) (n0 : Nat) (v : Option Value) (h : Heap) (L : List Loc) : Prop := ∃ (b1 : Addr), ∃ (kb1 : ClassId), v = none ∧ Fr n0 L ∧ Keep h0 h [a1] ∧ Exa Z h a1 "java/lang/String" ∧ Fld Z h a1 "java/lang/String" "value" "[B" (.ref b1) ∧ Fld Z h a1 "java/lang/String" "coder" "B" (.int (0 : Int32)) ∧ Arv Z h b1 kb1 .byte (0 : Int32) [] (.int (0 : Int32)) ∧ (∀ c ∈ ([] : List Int32), ¬ c < 0 ∧ ¬ (255 : Int32) < c) ∧ ([] : List Int32).length ≤ 4000
set_option maxRecDepth 65536 in
set_option maxHeartbeats 40000000 in
theorem rmse2 (l : Launch) (Z : State) (a0 : Array Value) (hw : Hw Z a0) (ws : List Jvm.Cond) (a1 : Addr) (a2 : Addr) (h0 : Heap) (n0 : Nat) (Z0 : n0 ≤ h0.size) (E_a1 : Exa Z h0 a1 "java/lang/String") (Fvalue_a1 : Fld Z h0 a1 "java/lang/String" "value" "[B" .null) (Fcoder_a1 : Fld Z h0 a1 "java/lang/String" "coder" "B" (.int (0 : Int32))) (ge_a1 : n0 ≤ a1) :
    MetFree l Y0 (head1 (Jvm.Cond.code Y0 jdk_42_method_149_code 6 none :: ws) ({ frames := 1, cells := 2, slots := 4, locals := 13 } : Room)) (fun a U => a = #[(.ref a1), (.ref a2), (.int (0 : Int32)), (.int (0 : Int32)), .null] ∧ Z.Warmed39 U.vm ∧ U.heap = h0 ∧ CHv Z own_EL U.vm h0) (fun _ _ _ _ _ => True) (fun _ U o U' => ∃ v L, o = .returned v ∧ Qse2 Z a1 a2 h0 n0 v U'.heap L ∧ CHr Z own_EL U.vm U.heap U'.vm U'.heap ∧ ReturnedEndW U o U' L ({ frames := 1, cells := 2, slots := 4, locals := 13 } : Room).cells ({ frames := 1, cells := 2, slots := 4, locals := 13 } : Room).slots) := by
  refine MetFree.of_bodySF (plainFor_of_name pn_0) hisR ?_
  intro p e s m args below meth c s₁ Bd hml0 hP hK
  obtain ⟨rfl, hZ0, hh, H0⟩ := hP
  have hx := Bd.exec
  have hby := Bd.bytes
  have hml : c.maxLocals = 6 := hml0
  have hown : s.vm.findClass "java/lang/String" = some m.cls := findClass_of_methodNamed Bd.named
  have hnm := (name_of_methodNamed Bd.named Bd.method).1
  have hlk : meth.locks = false := BodyLoose.notSynchronized Bd
  have X0 : Stand p l e ({ frames := 1, cells := 2, slots := 4, locals := 13 } : Room) (s.setVm s.vm) m #[(.ref a1), (.ref a2), (.int (0 : Int32)), (.int (0 : Int32)), .null] below meth c s₁ [] 0 0 := Stand.of_body Bd
  have e0 : s₁.heap = h0 := by rw [← hh, Bd.state]; rfl
  have N0 := Fr.nil n0
  have hrt := Bd.returns
  have K0 := Keep.refl h0 [a1]
  have hZ : Z.Warmed39 (s.setVm s.vm).vm := hZ0
  have hown1 : (s.setVm s.vm).vm.findClass "java/lang/String" = some m.cls := hown
  have hS0 : s.Since s.vm 0 := (State.WarmedH.refl s).since 0
  have hk0 : 0 ≤ h0.size := Nat.zero_le _
  have R0 : CHr Z own_EL s.vm h0 s.vm h0 := CHr.refl H0
  have sf_a1 : Safe Z own_EL s.vm h0 a1 := own_safe_null hZ0.alike E_a1 Fvalue_a1
  obtain ⟨G, hG⟩ : ∃ G : Outcome → State → Prop, G = fun o u => ∃ v L, o = .returned v ∧ Qse2 Z a1 a2 h0 n0 v u.heap L ∧ CHr Z own_EL s.vm s.heap u.vm u.heap ∧ ReturnedEndW s o u L ({ frames := 1, cells := 2, slots := 4, locals := 13 } : Room).cells ({ frames := 1, cells := 2, slots := 4, locals := 13 } : Room).slots := ⟨_, rfl⟩
  suffices hgo : Owe p.tables e below G s₁ (mkF m 0 #[.val (.ref a1), .val (.ref a2), .val (.int (0 : Int32)), .val (.int (0 : Int32)), .val .null, .unset] []) by
    obtain ⟨u, o, h1, h2, h3, h4⟩ := hgo
    exact ⟨u, o, castTop (ef_se2 m a1 a2 (0 : Int32) (0 : Int32)) h1, h2, h3, by rw [hG] at h4; exact h4⟩
  refine Owe.aloadN X0.here hx (hb hby d0_0) rfl rfl ?_
  refine Owe.objinit X0 hx hZ hown1 (wd hw 56) (wd hw 57) (wd hw 58) e0 (by rw [hml]; rfl) rfl (hb hby d0_1) (by decide) (W := 0) (nb rfl) (by decide) fun T1 X1 e1 => ?_
  refine Owe.iloadN X1.here hx (hb hby d0_4) rfl ?_
  refine Owe.ifNo X1.here hx (hb hby d0_5) rfl ((if0 _ _).trans (teq (by decide)).2) ?_
  refine Owe.aloadN X1.here hx (hb hby d0_8) rfl rfl ?_
  refine Owe.ldcV X1 hx hZ hS0 (own_ew hw) H0 (by decide) hown1 (wd hw 122) (own_wS hw) e1 hk0 (vs := []) (z := (0 : Int32)) (by decide) (by decide) rfl (hb hby d0_9) (n := 0) (by decide) (by decide) (by decide) (by decide) fun l2 T2 h2 k2 lb2 lk2 X2 e2 E2 hS2 hk2 hZ2 hown2 Ex2 Fc2 Fv2 Vb2 hC2 Lt2 nsf2 => ?_
  have hk3 := Nat.le_trans hk0 E2.1
  have K_4 := K0.ext E2
  have E_a1_5 := E_a1.ext E2
  have Fvalue_a1_6 := Fvalue_a1.ext E2
  have Fcoder_a1_7 := Fcoder_a1.ext E2
  have Z_8 := Nat.le_trans Z0 E2.1
  have sf_a1_2 := CHr.safe hC2 E_a1.lt sf_a1
  have Rr2 := R0.trans hC2
  have H2 := hC2.1
  have ne_a1_l2 := (nsf2 _ sf_a1_2).1
  have ne_a1_lb2 := (nsf2 _ sf_a1_2).2
  refine Owe.getf X2 hx hZ2 (host := "") hown2 (Or.inl (wd hw 13)) Via.refl e2 Fv2 (hb hby d0_11) rfl fun T9 X9 e9 => ?_
  refine Owe.putf X9 hx hZ2 (host := "") hown2 (Or.inl (wd hw 13)) Via.refl e9 Fvalue_a1_6 E_a1_5 (Or.inr ⟨(wd hw 4), rfl, hnm⟩) (wd hw 2) (ty := (.array .byte)) (by decide) rfl rfl (hb hby d0_14) rfl fun T10 h10 X10 e10 W10 => ?_
  have hk11 := Nat.le_trans hk2 (Keep.of_wr W10).1
  have sf_a1_11 := Safe.wr W10 sf_a1_2 H2 sf_a1_2
  have Rr11 := Rr2.trans (CHr.wr W10 sf_a1_2 H2)
  have H11 := CHv.wr W10 sf_a1_2 H2
  have K_12 := K_4.wr W10 (Or.inl (List.mem_of_getElem? (i := 0) rfl))
  have E_a1_13 := E_a1_5.wr W10
  have Fvalue_a1_14 := Fvalue_a1_6.same W10
  have Fcoder_a1_15 := Fcoder_a1_7.other W10 (Or.inr (slot_ne (Or.inr (wd hw 5)) (Or.inr (wd hw 4)) (by decide) (t := .byte) (t' := (.array .byte)) (by decide) (by decide)))
  have Ex2_16 := Ex2.wr W10
  have Fc2_17 := Fc2.other W10 (Or.inl (Ne.symm ne_a1_l2))
  have Fv2_18 := Fv2.other W10 (Or.inl (Ne.symm ne_a1_l2))
  have Vb2_19 := Vb2.other W10 (Ne.symm ne_a1_lb2)
  have Z_20 := Nat.le_trans Z_8 (Keep.of_wr W10).1
  have N10 := Fr.snoc X10 N0 ge_a1
  refine Owe.aloadN X10.here hx (hb hby d0_17) rfl rfl ?_
  refine Owe.ldcA X10 hx hZ2 hown2 (wd hw 122) Lt2 (hb hby d0_18) ?_
  refine Owe.getf X10 hx hZ2 (host := "") hown2 (Or.inl (wd hw 20)) Via.refl e10 Fc2_17 (hb hby d0_20) rfl fun T22 X22 e22 => ?_
  refine Owe.putf X22 hx hZ2 (host := "") hown2 (Or.inl (wd hw 20)) Via.refl e22 Fcoder_a1_15 E_a1_13 (Or.inr ⟨(wd hw 5), rfl, hnm⟩) (wd hw 2) (ty := .byte) (by decide) rfl rfl (hb hby d0_23) rfl fun T23 h23 X23 e23 W23 => ?_
  have hk24 := Nat.le_trans hk11 (Keep.of_wr W23).1
  have sf_a1_24 := Safe.wr W23 sf_a1_11 H11 sf_a1_11
  have Rr24 := Rr11.trans (CHr.wr W23 sf_a1_11 H11)
  have H24 := CHv.wr W23 sf_a1_11 H11
  have K_25 := K_12.wr W23 (Or.inl (List.mem_of_getElem? (i := 0) rfl))
  have E_a1_26 := E_a1_13.wr W23
  have Fvalue_a1_27 := Fvalue_a1_14.other W23 (Or.inr (slot_ne (Or.inr (wd hw 4)) (Or.inr (wd hw 5)) (by decide) (t := (.array .byte)) (t' := .byte) (by decide) (by decide)))
  have Fcoder_a1_28 := Fcoder_a1_15.same W23
  have Ex2_29 := Ex2_16.wr W23
  have Fc2_30 := Fc2_17.other W23 (Or.inl (Ne.symm ne_a1_l2))
  have Fv2_31 := Fv2_18.other W23 (Or.inl (Ne.symm ne_a1_l2))
  have Vb2_32 := Vb2_19.other W23 (Ne.symm ne_a1_lb2)
  have Z_33 := Nat.le_trans Z_20 (Keep.of_wr W23).1
  have N23 := Fr.snoc X23 N10 ge_a1
  refine Owe.ret0W X23 hx hS2 e23 hk24 hlk hrt (hb hby d0_26) rfl fun fs hE => ?_
  rw [hG]
  refine ⟨_, _, rfl, ?_, ?_, coldMono hE (by decide) (by decide)⟩
  rotate_left
  · rw [hh]
    show CHr Z own_EL s.vm h0 T23.vm T23.heap
    rw [e23]
    exact Rr24.trans (CHv.at X23 hZ2 (own_ew hw) H24)
  show Qse2 Z a1 a2 h0 n0 _ T23.heap _
  rw [e23]
  exact ⟨lb2, lk2, rfl, N23, K_25, E_a1_26, Fvalue_a1_27, Fcoder_a1_28, Vb2_32, own_T0⟩
theorem d1_0 : decode jdk_42_method_3_code 0 = .ok (.aload_n 0, 1) := by decide +kernel
theorem d1_1 : decode jdk_42_method_3_code 1 = .ok (.aload_n 1, 1) := by decide +kernel
theorem d1_2 : decode jdk_42_method_3_code 2 = .ok (.iconst 0, 1) := by decide +kernel
theorem d1_3 : decode jdk_42_method_3_code 3 = .ok (.aload_n 1, 1) := by decide +kernel
theorem d1_4 : decode jdk_42_method_3_code 4 = .ok (.arraylength, 1) := by decide +kernel
theorem d1_5 : decode jdk_42_method_3_code 5 = .ok (.aconst_null, 1) := by decide +kernel
theorem d1_6 : decode jdk_42_method_3_code 6 = .ok (.invokespecial 27, 3) := by decide +kernel
theorem d1_9 : decode jdk_42_method_3_code 9 = .ok (.return_, 1) := by decide +kernel
theorem ef_se1 (m : MethodId) (x0 : Addr) (x1 : Addr)  : entryFrame m #[(.ref x0), (.ref x1)] 2 = mkF m 0 #[.val (.ref x0), .val (.ref x1)] [] := by first | (simp [entryFrame, mkF, argsToLocals, Value.category]; done) | rfl
def Qse1 (Z : State) (a1 : Addr) (a2 : Addr) (k2 : ClassId) (h0 : Heap) (n0 : Nat) (v : Option Value) (h : Heap) (L : List Loc) : Prop := ∃ (b1 : Addr), ∃ (kb1 : ClassId), v = none ∧ Fr n0 L ∧ Keep h0 h [a1] ∧ Exa Z h a1 "java/lang/String" ∧ Fld Z h a1 "java/lang/String" "value" "[B" (.ref b1) ∧ Fld Z h a1 "java/lang/String" "coder" "B" (.int (0 : Int32)) ∧ Arv Z h b1 kb1 .byte (0 : Int32) [] (.int (0 : Int32)) ∧ (∀ c ∈ ([] : List Int32), ¬ c < 0 ∧ ¬ (255 : Int32) < c) ∧ ([] : List Int32).length ≤ 4000
set_option maxRecDepth 65536 in
set_option maxHeartbeats 40000000 in
theorem rmse1 (l : Launch) (Z : State) (a0 : Array Value) (hw : Hw Z a0) (ws : List Jvm.Cond) (a1 : Addr) (a2 : Addr) (k2 : ClassId) (h0 : Heap) (n0 : Nat) (Z0 : n0 ≤ h0.size) (E_a1 : Exa Z h0 a1 "java/lang/String") (Fvalue_a1 : Fld Z h0 a1 "java/lang/String" "value" "[B" .null) (Fcoder_a1 : Fld Z h0 a1 "java/lang/String" "coder" "B" (.int (0 : Int32))) (ge_a1 : n0 ≤ a1) (V_a2 : Arv Z h0 a2 k2 .char (0 : Int32) [] (.int (0 : Int32))) (ne_a2_a1 : a2 ≠ a1) :
    MetFree l Y1 (head1 (Jvm.Cond.code Y1 jdk_42_method_3_code 2 none :: ws) ({ frames := 2, cells := 2, slots := 4, locals := 30 } : Room)) (fun a U => a = #[(.ref a1), (.ref a2)] ∧ Z.Warmed39 U.vm ∧ U.heap = h0 ∧ CHv Z own_EL U.vm h0) (fun _ _ _ _ _ => True) (fun _ U o U' => ∃ v L, o = .returned v ∧ Qse1 Z a1 a2 k2 h0 n0 v U'.heap L ∧ CHr Z own_EL U.vm U.heap U'.vm U'.heap ∧ ReturnedEndW U o U' L ({ frames := 2, cells := 2, slots := 4, locals := 30 } : Room).cells ({ frames := 2, cells := 2, slots := 4, locals := 30 } : Room).slots) := by
  refine MetFree.of_bodySF (plainFor_of_name pn_0) hisR ?_
  intro p e s m args below meth c s₁ Bd hml0 hP hK
  obtain ⟨rfl, hZ0, hh, H0⟩ := hP
  have hx := Bd.exec
  have hby := Bd.bytes
  have hml : c.maxLocals = 2 := hml0
  have hown : s.vm.findClass "java/lang/String" = some m.cls := findClass_of_methodNamed Bd.named
  have hnm := (name_of_methodNamed Bd.named Bd.method).1
  have hlk : meth.locks = false := BodyLoose.notSynchronized Bd
  have X0 : Stand p l e ({ frames := 2, cells := 2, slots := 4, locals := 30 } : Room) (s.setVm s.vm) m #[(.ref a1), (.ref a2)] below meth c s₁ [] 0 0 := Stand.of_body Bd
  have e0 : s₁.heap = h0 := by rw [← hh, Bd.state]; rfl
  have N0 := Fr.nil n0
  have hrt := Bd.returns
  have K0 := Keep.refl h0 [a1]
  have hZ : Z.Warmed39 (s.setVm s.vm).vm := hZ0
  have hown1 : (s.setVm s.vm).vm.findClass "java/lang/String" = some m.cls := hown
  have hS0 : s.Since s.vm 0 := (State.WarmedH.refl s).since 0
  have hk0 : 0 ≤ h0.size := Nat.zero_le _
  have R0 : CHr Z own_EL s.vm h0 s.vm h0 := CHr.refl H0
  have sf_a1 : Safe Z own_EL s.vm h0 a1 := own_safe_null hZ0.alike E_a1 Fvalue_a1
  obtain ⟨G, hG⟩ : ∃ G : Outcome → State → Prop, G = fun o u => ∃ v L, o = .returned v ∧ Qse1 Z a1 a2 k2 h0 n0 v u.heap L ∧ CHr Z own_EL s.vm s.heap u.vm u.heap ∧ ReturnedEndW s o u L ({ frames := 2, cells := 2, slots := 4, locals := 30 } : Room).cells ({ frames := 2, cells := 2, slots := 4, locals := 30 } : Room).slots := ⟨_, rfl⟩
  suffices hgo : Owe p.tables e below G s₁ (mkF m 0 #[.val (.ref a1), .val (.ref a2)] []) by
    obtain ⟨u, o, h1, h2, h3, h4⟩ := hgo
    exact ⟨u, o, castTop (ef_se1 m a1 a2) h1, h2, h3, by rw [hG] at h4; exact h4⟩
  refine Owe.aloadN X0.here hx (hb hby d1_0) rfl rfl ?_
  refine Owe.aloadN X0.here hx (hb hby d1_1) rfl rfl ?_
  refine Owe.iconst X0.here hx (hb hby d1_2) (w := (0 : Int32)) rfl ?_
  refine Owe.aloadN X0.here hx (hb hby d1_3) rfl rfl ?_
  refine Owe.arrlen X0 hx hZ e0 V_a2 (hb hby d1_4) rfl ?_
  refine Owe.aconstNull X0.here hx (hb hby d1_5)  ?_
  refine Owe.specialS X0 hx hZ hS0 hk0 (y := Y0) rfl hown1 (mvT hZ (wd hw 52)) (mvT hZ (wd hw 53)) (mvT hZ (wd hw 55)) (by decide) (backOfSH (W := 0) (rmse2 l Z a0 hw [] a1 a2 h0 n0 Z0 E_a1 Fvalue_a1 Fcoder_a1 ge_a1) hZ (wd hw 55) (wd hw 1) (by decide) (by decide) (own_ew hw) H0) (by rw [hml]; rfl) (a := a1) (argsL := [(.ref a2), (.int (0 : Int32)), (.int (0 : Int32)), .null]) (rest := []) (lenOf pd_0 rfl) rfl (nb rfl) (hb hby d1_6) rfl e0 (by decide) (by decide) fun T34 v34 L34 X34 hS34 hZ34 hown34 hC34 hQ34 => ?_
  obtain ⟨b1_34, kb1_34, rfl, Nq34, K34, E_a1_34, Fvalue_a1_34, Fcoder_a1_34, V_b1_34, Tx_a1_34⟩ := hQ34
  have N34 := Fr.app N0 Nq34
  have hk35 := Nat.le_trans hk0 K34.1
  have K_36 := K0.trans K34 (allS (Or.inl (List.mem_of_getElem? (i := 0) rfl)) all0)
  have E_a1_37 := E_a1.keep K34
  have V_a2_38 := V_a2.keep K34 (ninS ne_a2_a1 nin0)
  have Z_39 := Nat.le_trans Z0 K34.1
  have sf_a1_34 := CHr.safe hC34 E_a1.lt sf_a1
  have Rr34 := R0.trans hC34
  have H34 := hC34.1
  have hk34 : T34.heap.size ≤ T34.heap.size := Nat.le_refl _
  refine Owe.ret0W X34 hx hS34 rfl hk34 hlk hrt (hb hby d1_9) rfl fun fs hE => ?_
  rw [hG]
  refine ⟨_, _, rfl, ?_, ?_, coldMono hE (by decide) (by decide)⟩
  rotate_left
  · rw [hh]
    show CHr Z own_EL s.vm h0 T34.vm T34.heap
    exact Rr34.trans (CHv.at X34 hZ34 (own_ew hw) H34)
  show Qse1 Z a1 a2 k2 h0 n0 _ T34.heap _
  exact ⟨b1_34, kb1_34, rfl, N34, K_36, E_a1_34, Fvalue_a1_34, Fcoder_a1_34, V_b1_34, Tx_a1_34⟩
theorem d2_0 : decode prog_23_method_1_code 0 = .ok (.getstatic 10, 3) := by decide +kernel
theorem d2_3 : decode prog_23_method_1_code 3 = .ok (.invokevirtual 14, 3) := by decide +kernel
theorem d2_6 : decode prog_23_method_1_code 6 = .ok (.checkcast 15, 3) := by decide +kernel
theorem d2_9 : decode prog_23_method_1_code 9 = .ok (.areturn, 1) := by decide +kernel
theorem pn_1 : plainName "com/example/pickwright/pickwright/Routing" = true := by first | (simp [plainName, overriddenIn]; done) | decide +kernel
theorem ef_vls (m : MethodId)   : entryFrame m #[] 0 = mkF m 0 #[] [] := by first | (simp [entryFrame, mkF, argsToLocals, Value.category]; done) | rfl
def Qvls (Z : State) (va : Addr) (k_va : ClassId) (rd : Addr) (wt : Addr) (h0 : Heap) (n0 : Nat) (v : Option Value) (h : Heap) (L : List Loc) : Prop := ∃ (x1 : Addr), v = some (.ref x1) ∧ Fr n0 L ∧ Keep h0 h [] ∧ n0 ≤ x1 ∧ h0.size ≤ x1 ∧ Arv Z h x1 k_va (.object "com/example/pickwright/pickwright/Routing") (2 : Int32) [(.ref rd), (.ref wt)] .null
set_option maxRecDepth 65536 in
set_option maxHeartbeats 40000000 in
theorem rmvls (l : Launch) (Z : State) (a0 : Array Value) (hw : Hw Z a0) (ws : List Jvm.Cond) (va : Addr) (k_va : ClassId) (rd : Addr) (wt : Addr) (h0 : Heap) (n0 : Nat) (Z0 : n0 ≤ h0.size) (S__VALUES : Sta Z Z.heap "com/example/pickwright/pickwright/Routing" "$VALUES" "[Lcom/example/pickwright/pickwright/Routing;" (.ref va)) (E_va : Exa Z Z.heap va "[Lcom/example/pickwright/pickwright/Routing;") (V_va : Arv Z Z.heap va k_va (.object "com/example/pickwright/pickwright/Routing") (2 : Int32) [(.ref rd), (.ref wt)] .null) (Ol : Old Z n0 h0) :
    MF l Z Y2 prog_23_method_1_code 0 (some (.array (.object "com/example/pickwright/pickwright/Routing"))) ws ({ frames := 1, cells := 1, slots := 2, locals := 14 } : Room) #[] h0 (Qvls Z va k_va rd wt h0 n0) := by
  refine MF.of pn_1 (fun m => ef_vls m ) ?_
  intro p e s m below meth c s₁ G X0 e0 hx hby hml hown hnm hlk hrt hZ hnd hG
  have N0 := Fr.nil n0
  have K0 := Keep.refl h0 []
  refine Owe.gets X0 hx hZ hown (wd hw 87) Via.refl e0 (S__VALUES.ext Ol.2) (hb hby d2_0) fun T40 X40 e40 => ?_
  refine Owe.clone X40 hx hZ (ad := "[Lcom/example/pickwright/pickwright/Routing;") hown (wd hw 89) (wd hw 90) (wd hw 94) (wd hw 92) (wd hw 93) (wd hw 95) e40 (V_va.ext Ol.2) (E_va.ext Ol.2) (by rw [hml]; rfl) rfl (hb hby d2_3) (by decide) (W := 0) (cap := 2) (nb rfl) (by decide) (by decide) (by decide) (by decide) fun T41 h41 b41 g41 X41 e41 E41 V41 A41 => ?_
  have sz_b41 := Nat.le_trans K0.1 (Nat.le_of_eq g41.symm)
  have ge_b41 := Nat.le_trans Z0 (Nat.le_of_eq g41.symm)
  have K_42 := K0.ext E41
  have Ol_43 := Ol.ext E41
  have Z_44 := Nat.le_trans Z0 E41.1
  refine Owe.castY X41 hx hZ hown (wd hw 98) e41 (Ins.self A41) (hb hby d2_6) rfl fun T45 X45 e45 => ?_
  refine Owe.retR X45 hx hlk (t := (.array (.object "com/example/pickwright/pickwright/Routing"))) hrt rfl rfl rfl (hb hby d2_9) rfl fun fs hE => ?_
  refine hG _ _ ⟨_, _, rfl, ?_, frameMono hE (by decide) (by decide)⟩
  show Qvls Z va k_va rd wt h0 n0 _ T45.heap _
  rw [e45]
  exact ⟨b41, rfl, N0, K_42, ge_b41, sz_b41, V41⟩
theorem d3_0 : decode prog_23_method_6_code 0 = .ok (.aload_n 0, 1) := by decide +kernel
theorem d3_1 : decode prog_23_method_6_code 1 = .ok (.getfield 29, 3) := by decide +kernel
theorem d3_4 : decode prog_23_method_6_code 4 = .ok (.areturn, 1) := by decide +kernel
theorem ef_rtn (m : MethodId) (x0 : Addr)  : entryFrame m #[(.ref x0)] 1 = mkF m 0 #[.val (.ref x0)] [] := by first | (simp [entryFrame, mkF, argsToLocals, Value.category]; done) | rfl
def Qrtn (Z : State) (a1 : Addr) (w2 : Addr) (h0 : Heap) (n0 : Nat) (v : Option Value) (h : Heap) (L : List Loc) : Prop := v = some (.ref w2) ∧ Fr n0 L ∧ h = h0
set_option maxRecDepth 65536 in
set_option maxHeartbeats 40000000 in
theorem rmrtn (l : Launch) (Z : State) (a0 : Array Value) (hw : Hw Z a0) (ws : List Jvm.Cond) (a1 : Addr) (w2 : Addr) (h0 : Heap) (n0 : Nat) (Z0 : n0 ≤ h0.size) (F_name_a1 : Fld Z h0 a1 "com/example/pickwright/pickwright/Routing" "_name" "Ljava/lang/String;" (.ref w2)) :
    MF l Z Y3 prog_23_method_6_code 1 (some (.object "java/lang/String")) ws ({ frames := 0, cells := 0, slots := 0, locals := 0 } : Room) #[(.ref a1)] h0 (Qrtn Z a1 w2 h0 n0) := by
  refine MF.of pn_1 (fun m => ef_rtn m a1) ?_
  intro p e s m below meth c s₁ G X0 e0 hx hby hml hown hnm hlk hrt hZ hnd hG
  have N0 := Fr.nil n0
  refine Owe.aloadN X0.here hx (hb hby d3_0) rfl rfl ?_
  refine Owe.getf X0 hx hZ (host := "") hown (Or.inl (wd hw 114)) Via.refl e0 F_name_a1 (hb hby d3_1) rfl fun T46 X46 e46 => ?_
  refine Owe.retR X46 hx hlk (t := (.object "java/lang/String")) hrt rfl rfl rfl (hb hby d3_4) rfl fun fs hE => ?_
  refine hG _ _ ⟨_, _, rfl, ?_, frameMono hE (by decide) (by decide)⟩
  show Qrtn Z a1 w2 h0 n0 _ T46.heap _
  rw [e46]
  exact ⟨rfl, N0, rfl⟩
theorem d4_0 : decode jdk_42_method_66_code 0 = .ok (.aload_n 0, 1) := by decide +kernel
theorem d4_1 : decode jdk_42_method_66_code 1 = .ok (.aload_n 1, 1) := by decide +kernel
theorem d4_2 : decode jdk_42_method_66_code 2 = .ok (.if_acmp .ne 5, 3) := by decide +kernel
theorem d4_5 : decode jdk_42_method_66_code 5 = .ok (.iconst 1, 1) := by decide +kernel
theorem d4_6 : decode jdk_42_method_66_code 6 = .ok (.ireturn, 1) := by decide +kernel
theorem d4_7 : decode jdk_42_method_66_code 7 = .ok (.aload_n 1, 1) := by decide +kernel
theorem d4_8 : decode jdk_42_method_66_code 8 = .ok (.instanceof 10, 3) := by decide +kernel
theorem d4_11 : decode jdk_42_method_66_code 11 = .ok (.ifCond .eq 43, 3) := by decide +kernel
theorem d4_14 : decode jdk_42_method_66_code 14 = .ok (.aload_n 1, 1) := by decide +kernel
theorem d4_15 : decode jdk_42_method_66_code 15 = .ok (.checkcast 10, 3) := by decide +kernel
theorem d4_18 : decode jdk_42_method_66_code 18 = .ok (.astore_n 2, 1) := by decide +kernel
theorem d4_19 : decode jdk_42_method_66_code 19 = .ok (.getstatic 38, 3) := by decide +kernel
theorem d4_22 : decode jdk_42_method_66_code 22 = .ok (.ifCond .eq 14, 3) := by decide +kernel
theorem d4_25 : decode jdk_42_method_66_code 25 = .ok (.aload_n 0, 1) := by decide +kernel
theorem d4_26 : decode jdk_42_method_66_code 26 = .ok (.getfield 15, 3) := by decide +kernel
theorem d4_29 : decode jdk_42_method_66_code 29 = .ok (.aload_n 2, 1) := by decide +kernel
theorem d4_30 : decode jdk_42_method_66_code 30 = .ok (.getfield 15, 3) := by decide +kernel
theorem d4_33 : decode jdk_42_method_66_code 33 = .ok (.if_icmp .ne 21, 3) := by decide +kernel
theorem d4_36 : decode jdk_42_method_66_code 36 = .ok (.aload_n 0, 1) := by decide +kernel
theorem d4_37 : decode jdk_42_method_66_code 37 = .ok (.getfield 9, 3) := by decide +kernel
theorem d4_40 : decode jdk_42_method_66_code 40 = .ok (.aload_n 2, 1) := by decide +kernel
theorem d4_41 : decode jdk_42_method_66_code 41 = .ok (.getfield 9, 3) := by decide +kernel
theorem d4_44 : decode jdk_42_method_66_code 44 = .ok (.invokestatic 541, 3) := by decide +kernel
theorem d4_47 : decode jdk_42_method_66_code 47 = .ok (.ifCond .eq 7, 3) := by decide +kernel
theorem d4_50 : decode jdk_42_method_66_code 50 = .ok (.iconst 1, 1) := by decide +kernel
theorem d4_51 : decode jdk_42_method_66_code 51 = .ok (.goto 4, 3) := by decide +kernel
theorem d4_54 : decode jdk_42_method_66_code 54 = .ok (.iconst 0, 1) := by decide +kernel
theorem d4_55 : decode jdk_42_method_66_code 55 = .ok (.ireturn, 1) := by decide +kernel
theorem ef_eqn (m : MethodId) (x0 : Addr)  : entryFrame m #[(.ref x0), .null] 3 = mkF m 0 #[.val (.ref x0), .val .null, .unset] [] := by first | (simp [entryFrame, mkF, argsToLocals, Value.category]; done) | rfl
def Qeqn (Z : State) (a1 : Addr) (h0 : Heap) (n0 : Nat) (v : Option Value) (h : Heap) (L : List Loc) : Prop := v = some (.int (0 : Int32)) ∧ Fr n0 L ∧ h = h0
set_option maxRecDepth 65536 in
set_option maxHeartbeats 40000000 in
theorem rmeqn (l : Launch) (Z : State) (a0 : Array Value) (hw : Hw Z a0) (ws : List Jvm.Cond) (a1 : Addr) (h0 : Heap) (n0 : Nat) (Z0 : n0 ≤ h0.size)  :
    MF l Z Y4 jdk_42_method_66_code 3 (some .boolean) ws ({ frames := 0, cells := 0, slots := 0, locals := 0 } : Room) #[(.ref a1), .null] h0 (Qeqn Z a1 h0 n0) := by
  refine MF.of pn_0 (fun m => ef_eqn m a1) ?_
  intro p e s m below meth c s₁ G X0 e0 hx hby hml hown hnm hlk hrt hZ hnd hG
  have N0 := Fr.nil n0
  refine Owe.aloadN X0.here hx (hb hby d4_0) rfl rfl ?_
  refine Owe.aloadN X0.here hx (hb hby d4_1) rfl rfl ?_
  refine Owe.acmpYes X0.here hx (hb hby d4_2) rfl rfl rfl (by simp [Jvm.Free.XT.acmp]) (pc' := 7) (by decide) (by decide) ?_
  refine Owe.aloadN X0.here hx (hb hby d4_7) rfl rfl ?_
  refine Owe.instNull X0 hx (hb hby d4_8) rfl ?_
  refine Owe.ifYes X0.here hx (hb hby d4_11) rfl ((if0 _ _).trans (teq (by decide)).1) (pc' := 54) (by decide) (by decide) ?_
  refine Owe.iconst X0.here hx (hb hby d4_54) (w := (0 : Int32)) rfl ?_
  refine Owe.retN X0 hx hlk (t := .boolean) hrt (by simp) (hb hby d4_55) rfl fun fs hE => ?_
  refine hG _ _ ⟨_, _, rfl, ?_, frameMono hE (by decide) (by decide)⟩
  show Qeqn Z a1 h0 n0 _ s₁.heap _
  rw [e0]
  exact ⟨rfl, N0, rfl⟩
theorem d5_0 : decode prog_1_method_2_code 0 = .ok (.aload_n 0, 1) := by decide +kernel
theorem d5_1 : decode prog_1_method_2_code 1 = .ok (.astore_n 3, 1) := by decide +kernel
theorem d5_2 : decode prog_1_method_2_code 2 = .ok (.aload_n 3, 1) := by decide +kernel
theorem d5_3 : decode prog_1_method_2_code 3 = .ok (.arraylength, 1) := by decide +kernel
theorem d5_4 : decode prog_1_method_2_code 4 = .ok (.istore 4, 2) := by decide +kernel
theorem d5_6 : decode prog_1_method_2_code 6 = .ok (.iconst 0, 1) := by decide +kernel
theorem d5_7 : decode prog_1_method_2_code 7 = .ok (.istore 5, 2) := by decide +kernel
theorem d5_9 : decode prog_1_method_2_code 9 = .ok (.iload 5, 2) := by decide +kernel
theorem d5_11 : decode prog_1_method_2_code 11 = .ok (.iload 4, 2) := by decide +kernel
theorem d5_13 : decode prog_1_method_2_code 13 = .ok (.if_icmp .ge 36, 3) := by decide +kernel
theorem d5_16 : decode prog_1_method_2_code 16 = .ok (.aload_n 3, 1) := by decide +kernel
theorem d5_17 : decode prog_1_method_2_code 17 = .ok (.iload 5, 2) := by decide +kernel
theorem d5_19 : decode prog_1_method_2_code 19 = .ok (.aaload, 1) := by decide +kernel
theorem d5_20 : decode prog_1_method_2_code 20 = .ok (.astore 6, 2) := by decide +kernel
theorem d5_22 : decode prog_1_method_2_code 22 = .ok (.aload_n 1, 1) := by decide +kernel
theorem d5_23 : decode prog_1_method_2_code 23 = .ok (.aload 6, 2) := by decide +kernel
theorem d5_25 : decode prog_1_method_2_code 25 = .ok (.invokeinterface 7 2, 5) := by decide +kernel
theorem d5_30 : decode prog_1_method_2_code 30 = .ok (.checkcast 13, 3) := by decide +kernel
theorem d5_33 : decode prog_1_method_2_code 33 = .ok (.aload_n 2, 1) := by decide +kernel
theorem d5_34 : decode prog_1_method_2_code 34 = .ok (.invokevirtual 15, 3) := by decide +kernel
theorem d5_37 : decode prog_1_method_2_code 37 = .ok (.ifCond .eq 6, 3) := by decide +kernel
theorem d5_40 : decode prog_1_method_2_code 40 = .ok (.aload 6, 2) := by decide +kernel
theorem d5_42 : decode prog_1_method_2_code 42 = .ok (.areturn, 1) := by decide +kernel
theorem d5_43 : decode prog_1_method_2_code 43 = .ok (.iinc 5 1, 3) := by decide +kernel
theorem d5_46 : decode prog_1_method_2_code 46 = .ok (.goto (-37), 3) := by decide +kernel
theorem d5_49 : decode prog_1_method_2_code 49 = .ok (.aconst_null, 1) := by decide +kernel
theorem d5_50 : decode prog_1_method_2_code 50 = .ok (.areturn, 1) := by decide +kernel
theorem pn_2 : plainName "com/example/pickwright/pickwright/Choices" = true := by first | (simp [plainName, overriddenIn]; done) | decide +kernel
theorem ef_chor (m : MethodId) (x0 : Addr) (x1 : Addr) (x2 : Addr)  : entryFrame m #[(.ref x0), (.ref x1), (.ref x2)] 7 = mkF m 0 #[.val (.ref x0), .val (.ref x1), .val (.ref x2), .unset, .unset, .unset, .unset] [] := by first | (simp [entryFrame, mkF, argsToLocals, Value.category]; done) | rfl
def Qchor (Z : State) (x1 : Addr) (k1 : ClassId) (f1 : Addr) (cK : ClassId) (a1 : Addr) (t1 : Addr) (kb1 : ClassId) (cs : List Int32) (G1 : Int32) (rd : Addr) (va : Addr) (wt : Addr) (rdw : Addr) (rdwv : Addr) (wtw : Addr) (wtwv : Addr) (k_va : ClassId) (k_rdwv : ClassId) (k_wtwv : ClassId) (h0 : Heap) (n0 : Nat) (v : Option Value) (h : Heap) (L : List Loc) : Prop := v = some (.ref rd) ∧ Fr n0 L ∧ h = h0
set_option maxRecDepth 65536 in
set_option maxHeartbeats 40000000 in
theorem rmchor (l : Launch) (Z : State) (a0 : Array Value) (hw : Hw Z a0) (ws : List Jvm.Cond) (x1 : Addr) (k1 : ClassId) (f1 : Addr) (cK : ClassId) (a1 : Addr) (t1 : Addr) (kb1 : ClassId) (cs : List Int32) (G1 : Int32) (rd : Addr) (va : Addr) (wt : Addr) (rdw : Addr) (rdwv : Addr) (wtw : Addr) (wtwv : Addr) (k_va : ClassId) (k_rdwv : ClassId) (k_wtwv : ClassId) (h0 : Heap) (n0 : Nat) (Z0 : n0 ≤ h0.size) (V_x1 : Arv Z h0 x1 k1 (.object "com/example/pickwright/pickwright/Routing") (2 : Int32) [(.ref rd), (.ref wt)] .null) (hmd : LamKit.Made Z "com/example/pickwright/pickwright/Routing" own_sig cK) (hfn : LamKit.FnAt h0 f1 cK) (E_a1 : Exa Z h0 a1 "java/lang/String") (Fvalue_a1 : Fld Z h0 a1 "java/lang/String" "value" "[B" (.ref t1)) (Fcoder_a1 : Fld Z h0 a1 "java/lang/String" "coder" "B" (.int (0 : Int32))) (V_t1 : Arv Z h0 t1 kb1 .byte (Int32.ofNat cs.length) ((cs.map (fun c => c.toInt8.toInt32)).map Value.int) (.int (0 : Int32))) (Tx_a1 : (∀ c ∈ cs, ¬ c < 0 ∧ ¬ (255 : Int32) < c) ∧ cs.length ≤ 4000) (S_COMPACT_STRINGS : Sta Z Z.heap "java/lang/String" "COMPACT_STRINGS" "Z" (.int G1)) (cs0 : ¬ (G1 = (0 : Int32))) (Ol : Old Z n0 h0) (S_S_SHAPE : Sta Z Z.heap "com/example/pickwright/pickwright/Routing" "S_SHAPE" "Lcom/example/pickwright/pickwright/Routing;" (.ref rd)) (E_rd : Exa Z Z.heap rd "com/example/pickwright/pickwright/Routing") (S__VALUES : Sta Z Z.heap "com/example/pickwright/pickwright/Routing" "$VALUES" "[Lcom/example/pickwright/pickwright/Routing;" (.ref va)) (E_va : Exa Z Z.heap va "[Lcom/example/pickwright/pickwright/Routing;") (S_LARGEST_GAP : Sta Z Z.heap "com/example/pickwright/pickwright/Routing" "LARGEST_GAP" "Lcom/example/pickwright/pickwright/Routing;" (.ref wt)) (E_wt : Exa Z Z.heap wt "com/example/pickwright/pickwright/Routing") (F_name_rd : Fld Z Z.heap rd "com/example/pickwright/pickwright/Routing" "_name" "Ljava/lang/String;" (.ref rdw)) (E_rdw : Exa Z Z.heap rdw "java/lang/String") (Fcoder_rdw : Fld Z Z.heap rdw "java/lang/String" "coder" "B" (.int (0 : Int32))) (Fvalue_rdw : Fld Z Z.heap rdw "java/lang/String" "value" "[B" (.ref rdwv)) (F_name_wt : Fld Z Z.heap wt "com/example/pickwright/pickwright/Routing" "_name" "Ljava/lang/String;" (.ref wtw)) (E_wtw : Exa Z Z.heap wtw "java/lang/String") (Fcoder_wtw : Fld Z Z.heap wtw "java/lang/String" "coder" "B" (.int (0 : Int32))) (Fvalue_wtw : Fld Z Z.heap wtw "java/lang/String" "value" "[B" (.ref wtwv)) (V_va : Arv Z Z.heap va k_va (.object "com/example/pickwright/pickwright/Routing") (2 : Int32) [(.ref rd), (.ref wt)] .null) (V_rdwv : Arv Z Z.heap rdwv k_rdwv .byte (7 : Int32) ((([115, 45, 115, 104, 97, 112, 101] : List Int32).map (fun c => c.toInt8.toInt32)).map Value.int) (.int (0 : Int32))) (V_wtwv : Arv Z Z.heap wtwv k_wtwv .byte (11 : Int32) ((([108, 97, 114, 103, 101, 115, 116, 45, 103, 97, 112] : List Int32).map (fun c => c.toInt8.toInt32)).map Value.int) (.int (0 : Int32))) (Tx_rdw : (∀ c ∈ ([115, 45, 115, 104, 97, 112, 101] : List Int32), ¬ c < 0 ∧ ¬ (255 : Int32) < c) ∧ ([115, 45, 115, 104, 97, 112, 101] : List Int32).length ≤ 4000) (Tx_wtw : (∀ c ∈ ([108, 97, 114, 103, 101, 115, 116, 45, 103, 97, 112] : List Int32), ¬ c < 0 ∧ ¬ (255 : Int32) < c) ∧ ([108, 97, 114, 103, 101, 115, 116, 45, 103, 97, 112] : List Int32).length ≤ 4000) (hq0 : cs = ([115, 45, 115, 104, 97, 112, 101] : List Int32)) :
    MF l Z Y5 prog_1_method_2_code 7 (some (.object "java/lang/Object")) ws ({ frames := 2, cells := 0, slots := 0, locals := 30 } : Room) #[(.ref x1), (.ref f1), (.ref a1)] h0 (Qchor Z x1 k1 f1 cK a1 t1 kb1 cs G1 rd va wt rdw rdwv wtw wtwv k_va k_rdwv k_wtwv h0 n0) := by
  refine MF.of pn_2 (fun m => ef_chor m x1 f1 a1) ?_
  intro p e s m below meth c s₁ G X0 e0 hx hby hml hown hnm hlk hrt hZ hnd hG
  have N0 := Fr.nil n0
  refine Owe.aloadN X0.here hx (hb hby d5_0) rfl rfl ?_
  refine Owe.astoreN X0.here hx (hb hby d5_1) rfl rfl (l' := #[.val (.ref x1), .val (.ref f1), .val (.ref a1), .val (.ref x1), .unset, .unset, .unset]) rfl ?_
  refine Owe.aloadN X0.here hx (hb hby d5_2) rfl rfl ?_
  refine Owe.arrlen X0 hx hZ e0 V_x1 (hb hby d5_3) rfl ?_
  refine Owe.istore X0.here hx (hb hby d5_4) rfl (l' := #[.val (.ref x1), .val (.ref f1), .val (.ref a1), .val (.ref x1), .val (.int (2 : Int32)), .unset, .unset]) rfl ?_
  refine Owe.iconst X0.here hx (hb hby d5_6) (w := (0 : Int32)) rfl ?_
  refine Owe.istore X0.here hx (hb hby d5_7) rfl (l' := #[.val (.ref x1), .val (.ref f1), .val (.ref a1), .val (.ref x1), .val (.int (2 : Int32)), .val (.int (0 : Int32)), .unset]) rfl ?_
  refine Owe.iload X0.here hx (hb hby d5_9) rfl ?_
  refine Owe.iload X0.here hx (hb hby d5_11) rfl ?_
  refine Owe.icmpNo X0.here hx (hb hby d5_13) rfl (tlt (by decide)).2.1 ?_
  refine Owe.aloadN X0.here hx (hb hby d5_16) rfl rfl ?_
  refine Owe.iload X0.here hx (hb hby d5_17) rfl ?_
  refine Owe.aaloadV X0 hx hZ e0 V_x1 rfl (v := (.ref rd)) (by decide) rfl (hb hby d5_19) rfl ?_
  refine Owe.astore X0.here hx (hb hby d5_20) rfl rfl (l' := #[.val (.ref x1), .val (.ref f1), .val (.ref a1), .val (.ref x1), .val (.int (2 : Int32)), .val (.int (0 : Int32)), .val (.ref rd)]) rfl ?_
  refine Owe.aloadN X0.here hx (hb hby d5_22) rfl rfl ?_
  refine Owe.aload X0.here hx (hb hby d5_23) rfl rfl ?_
  refine Owe.lamV X0 hx hZ (R' := ({ frames := 1, cells := 0, slots := 0, locals := 12 } : Room)) (host := "com/example/pickwright/pickwright/Routing") (C := "com/example/pickwright/pickwright/Routing") (xi := (⟨"java/util/function/Function", "apply", "(Ljava/lang/Object;)Ljava/lang/Object;"⟩ : MethodName)) (y := Y3) (σ := own_sig) hown (wd hw 107) (wd hw 108) (wd hw 109) (wd hw 110) (wd hw 111) (wd hw 112) (wd hw 102) (by decide +kernel) (by decide +kernel) rfl (by decide) (by decide) hmd hfn (E_rd.ext Ol.2) own_fwd rfl own_fd0 own_fd1 own_fd4 own_fd7 (fun s' args' bl hZq => (backOf (W := 0) (rmrtn l Z a0 hw [] rd rdw h0 n0 Z0 (F_name_rd.ext Ol.2)) hZq (wd hw 113) (wd hw 79) (by decide) (by decide))) (fun v h' L q => ⟨_, q.1, rfl⟩) (lenOf (L := [Value.null]) pd_1 rfl) (lenOf (L := []) pd_2 rfl) (by rw [hml]; rfl) rfl (hb hby d5_25) e0 (W := 0) (nb rfl) (by decide) (by decide) (by decide) (by decide) fun T48 v48 L48 X48 hQ48 => ?_
  obtain ⟨rfl, Nq48, e48⟩ := hQ48
  have N48 := Fr.app N0 Nq48
  refine Owe.castY X48 hx hZ hown (wd hw 116) e48 (Ins.self (E_rdw.ext Ol.2)) (hb hby d5_30) rfl fun T49 X49 e49 => ?_
  refine Owe.aloadN X49.here hx (hb hby d5_33) rfl rfl ?_
  have hcd50 : StrChars.Road.CodA ([115, 45, 115, 104, 97, 112, 101] : List Int32) 0 (7 : Int32) ((([115, 45, 115, 104, 97, 112, 101] : List Int32).map (fun c => c.toInt8.toInt32)).map Value.int) := StrChars.Road.codOf (n := 7) rfl (fun x hx => (Tx_rdw.1 x hx).2)
  have hbd50 := up ([115, 45, 115, 104, 97, 112, 101] : List Int32) Tx_rdw.1
  have hcd51 : StrChars.Road.CodA cs 0 (Int32.ofNat cs.length) ((cs.map (fun c => c.toInt8.toInt32)).map Value.int) := StrChars.Road.codOf (n := cs.length) rfl (fun x hx => (Tx_a1.1 x hx).2)
  have hbd51 := up cs Tx_a1.1
  refine Owe.virt X49 hx hZ (y := Y4) (z := Y4) (Q := fun v h' L => ((v = some (.int 1) ∧ ([115, 45, 115, 104, 97, 112, 101] : List Int32) = cs) ∨ (v = some (.int 0) ∧ ¬ ([115, 45, 115, 104, 97, 112, 101] : List Int32) = cs)) ∧ L = [] ∧ h' = h0) (kc := 0) (ks := 0) hown (mvT hZ (wd hw 117)) (mvT hZ (wd hw 70)) (mvT hZ (wd hw 72)) (mvT hZ (wd hw 71)) (notFace_of_selects (args := #[]) (mvT hZ (wd hw 72))) (by decide) (StrChars.Road.eqW (W := 0) hZ (own_heq hw) (kI := 4) (wd hw 2) (E_rdw.ext Ol.2) (Fvalue_rdw.ext Ol.2) (Fcoder_rdw.ext Ol.2) (V_rdwv.ext Ol.2) hcd50 hbd50 Tx_rdw.2 E_a1 Fvalue_a1 Fcoder_a1 V_t1 hcd51 hbd51 Tx_a1.2 (S_COMPACT_STRINGS.ext Ol.2) cs0 (by decide) (by decide)) (by rw [hml]; rfl) (a := rdw) (argsL := [(.ref a1)]) (rest := []) (E_rdw.ext Ol.2) (lenOf pd_3 rfl) rfl (nb rfl) (hb hby d5_34) rfl e49 (by decide) (by decide) fun T52 v52 L52 X52 hQ52 => ?_
  obtain ⟨hv52, rfl, e52⟩ := hQ52
  obtain rfl : v52 = some (.int (1 : Int32)) := by
    rcases hv52 with q | q
    · exact q.1
    · exact absurd (hq0).symm q.2
  have N52 := Fr.app N48 (Fr.nil n0)
  refine Owe.ifNo X52.here hx (hb hby d5_37) rfl ((if0 _ _).trans (feq (by decide)).1) ?_
  refine Owe.aload X52.here hx (hb hby d5_40) rfl rfl ?_
  refine Owe.retR X52 hx hlk (t := (.object "java/lang/Object")) hrt rfl rfl rfl (hb hby d5_42) rfl fun fs hE => ?_
  refine hG _ _ ⟨_, _, rfl, ?_, frameMono hE (by decide) (by decide)⟩
  show Qchor Z x1 k1 f1 cK a1 t1 kb1 cs G1 rd va wt rdw rdwv wtw wtwv k_va k_rdwv k_wtwv h0 n0 _ T52.heap _
  rw [e52]
  exact ⟨rfl, N52, rfl⟩
theorem ef_chow (m : MethodId) (x0 : Addr) (x1 : Addr) (x2 : Addr)  : entryFrame m #[(.ref x0), (.ref x1), (.ref x2)] 7 = mkF m 0 #[.val (.ref x0), .val (.ref x1), .val (.ref x2), .unset, .unset, .unset, .unset] [] := by first | (simp [entryFrame, mkF, argsToLocals, Value.category]; done) | rfl
def Qchow (Z : State) (x1 : Addr) (k1 : ClassId) (f1 : Addr) (cK : ClassId) (a1 : Addr) (t1 : Addr) (kb1 : ClassId) (cs : List Int32) (G1 : Int32) (rd : Addr) (va : Addr) (wt : Addr) (rdw : Addr) (rdwv : Addr) (wtw : Addr) (wtwv : Addr) (k_va : ClassId) (k_rdwv : ClassId) (k_wtwv : ClassId) (h0 : Heap) (n0 : Nat) (v : Option Value) (h : Heap) (L : List Loc) : Prop := v = some (.ref wt) ∧ Fr n0 L ∧ h = h0
set_option maxRecDepth 65536 in
set_option maxHeartbeats 40000000 in
theorem rmchow (l : Launch) (Z : State) (a0 : Array Value) (hw : Hw Z a0) (ws : List Jvm.Cond) (x1 : Addr) (k1 : ClassId) (f1 : Addr) (cK : ClassId) (a1 : Addr) (t1 : Addr) (kb1 : ClassId) (cs : List Int32) (G1 : Int32) (rd : Addr) (va : Addr) (wt : Addr) (rdw : Addr) (rdwv : Addr) (wtw : Addr) (wtwv : Addr) (k_va : ClassId) (k_rdwv : ClassId) (k_wtwv : ClassId) (h0 : Heap) (n0 : Nat) (Z0 : n0 ≤ h0.size) (V_x1 : Arv Z h0 x1 k1 (.object "com/example/pickwright/pickwright/Routing") (2 : Int32) [(.ref rd), (.ref wt)] .null) (hmd : LamKit.Made Z "com/example/pickwright/pickwright/Routing" own_sig cK) (hfn : LamKit.FnAt h0 f1 cK) (E_a1 : Exa Z h0 a1 "java/lang/String") (Fvalue_a1 : Fld Z h0 a1 "java/lang/String" "value" "[B" (.ref t1)) (Fcoder_a1 : Fld Z h0 a1 "java/lang/String" "coder" "B" (.int (0 : Int32))) (V_t1 : Arv Z h0 t1 kb1 .byte (Int32.ofNat cs.length) ((cs.map (fun c => c.toInt8.toInt32)).map Value.int) (.int (0 : Int32))) (Tx_a1 : (∀ c ∈ cs, ¬ c < 0 ∧ ¬ (255 : Int32) < c) ∧ cs.length ≤ 4000) (S_COMPACT_STRINGS : Sta Z Z.heap "java/lang/String" "COMPACT_STRINGS" "Z" (.int G1)) (cs0 : ¬ (G1 = (0 : Int32))) (Ol : Old Z n0 h0) (S_S_SHAPE : Sta Z Z.heap "com/example/pickwright/pickwright/Routing" "S_SHAPE" "Lcom/example/pickwright/pickwright/Routing;" (.ref rd)) (E_rd : Exa Z Z.heap rd "com/example/pickwright/pickwright/Routing") (S__VALUES : Sta Z Z.heap "com/example/pickwright/pickwright/Routing" "$VALUES" "[Lcom/example/pickwright/pickwright/Routing;" (.ref va)) (E_va : Exa Z Z.heap va "[Lcom/example/pickwright/pickwright/Routing;") (S_LARGEST_GAP : Sta Z Z.heap "com/example/pickwright/pickwright/Routing" "LARGEST_GAP" "Lcom/example/pickwright/pickwright/Routing;" (.ref wt)) (E_wt : Exa Z Z.heap wt "com/example/pickwright/pickwright/Routing") (F_name_rd : Fld Z Z.heap rd "com/example/pickwright/pickwright/Routing" "_name" "Ljava/lang/String;" (.ref rdw)) (E_rdw : Exa Z Z.heap rdw "java/lang/String") (Fcoder_rdw : Fld Z Z.heap rdw "java/lang/String" "coder" "B" (.int (0 : Int32))) (Fvalue_rdw : Fld Z Z.heap rdw "java/lang/String" "value" "[B" (.ref rdwv)) (F_name_wt : Fld Z Z.heap wt "com/example/pickwright/pickwright/Routing" "_name" "Ljava/lang/String;" (.ref wtw)) (E_wtw : Exa Z Z.heap wtw "java/lang/String") (Fcoder_wtw : Fld Z Z.heap wtw "java/lang/String" "coder" "B" (.int (0 : Int32))) (Fvalue_wtw : Fld Z Z.heap wtw "java/lang/String" "value" "[B" (.ref wtwv)) (V_va : Arv Z Z.heap va k_va (.object "com/example/pickwright/pickwright/Routing") (2 : Int32) [(.ref rd), (.ref wt)] .null) (V_rdwv : Arv Z Z.heap rdwv k_rdwv .byte (7 : Int32) ((([115, 45, 115, 104, 97, 112, 101] : List Int32).map (fun c => c.toInt8.toInt32)).map Value.int) (.int (0 : Int32))) (V_wtwv : Arv Z Z.heap wtwv k_wtwv .byte (11 : Int32) ((([108, 97, 114, 103, 101, 115, 116, 45, 103, 97, 112] : List Int32).map (fun c => c.toInt8.toInt32)).map Value.int) (.int (0 : Int32))) (Tx_rdw : (∀ c ∈ ([115, 45, 115, 104, 97, 112, 101] : List Int32), ¬ c < 0 ∧ ¬ (255 : Int32) < c) ∧ ([115, 45, 115, 104, 97, 112, 101] : List Int32).length ≤ 4000) (Tx_wtw : (∀ c ∈ ([108, 97, 114, 103, 101, 115, 116, 45, 103, 97, 112] : List Int32), ¬ c < 0 ∧ ¬ (255 : Int32) < c) ∧ ([108, 97, 114, 103, 101, 115, 116, 45, 103, 97, 112] : List Int32).length ≤ 4000) (hq0 : ¬ cs = ([115, 45, 115, 104, 97, 112, 101] : List Int32)) (hq1 : cs = ([108, 97, 114, 103, 101, 115, 116, 45, 103, 97, 112] : List Int32)) :
    MF l Z Y5 prog_1_method_2_code 7 (some (.object "java/lang/Object")) ws ({ frames := 2, cells := 0, slots := 0, locals := 30 } : Room) #[(.ref x1), (.ref f1), (.ref a1)] h0 (Qchow Z x1 k1 f1 cK a1 t1 kb1 cs G1 rd va wt rdw rdwv wtw wtwv k_va k_rdwv k_wtwv h0 n0) := by
  refine MF.of pn_2 (fun m => ef_chow m x1 f1 a1) ?_
  intro p e s m below meth c s₁ G X0 e0 hx hby hml hown hnm hlk hrt hZ hnd hG
  have N0 := Fr.nil n0
  refine Owe.aloadN X0.here hx (hb hby d5_0) rfl rfl ?_
  refine Owe.astoreN X0.here hx (hb hby d5_1) rfl rfl (l' := #[.val (.ref x1), .val (.ref f1), .val (.ref a1), .val (.ref x1), .unset, .unset, .unset]) rfl ?_
  refine Owe.aloadN X0.here hx (hb hby d5_2) rfl rfl ?_
  refine Owe.arrlen X0 hx hZ e0 V_x1 (hb hby d5_3) rfl ?_
  refine Owe.istore X0.here hx (hb hby d5_4) rfl (l' := #[.val (.ref x1), .val (.ref f1), .val (.ref a1), .val (.ref x1), .val (.int (2 : Int32)), .unset, .unset]) rfl ?_
  refine Owe.iconst X0.here hx (hb hby d5_6) (w := (0 : Int32)) rfl ?_
  refine Owe.istore X0.here hx (hb hby d5_7) rfl (l' := #[.val (.ref x1), .val (.ref f1), .val (.ref a1), .val (.ref x1), .val (.int (2 : Int32)), .val (.int (0 : Int32)), .unset]) rfl ?_
  refine Owe.iload X0.here hx (hb hby d5_9) rfl ?_
  refine Owe.iload X0.here hx (hb hby d5_11) rfl ?_
  refine Owe.icmpNo X0.here hx (hb hby d5_13) rfl (tlt (by decide)).2.1 ?_
  refine Owe.aloadN X0.here hx (hb hby d5_16) rfl rfl ?_
  refine Owe.iload X0.here hx (hb hby d5_17) rfl ?_
  refine Owe.aaloadV X0 hx hZ e0 V_x1 rfl (v := (.ref rd)) (by decide) rfl (hb hby d5_19) rfl ?_
  refine Owe.astore X0.here hx (hb hby d5_20) rfl rfl (l' := #[.val (.ref x1), .val (.ref f1), .val (.ref a1), .val (.ref x1), .val (.int (2 : Int32)), .val (.int (0 : Int32)), .val (.ref rd)]) rfl ?_
  refine Owe.aloadN X0.here hx (hb hby d5_22) rfl rfl ?_
  refine Owe.aload X0.here hx (hb hby d5_23) rfl rfl ?_
  refine Owe.lamV X0 hx hZ (R' := ({ frames := 1, cells := 0, slots := 0, locals := 12 } : Room)) (host := "com/example/pickwright/pickwright/Routing") (C := "com/example/pickwright/pickwright/Routing") (xi := (⟨"java/util/function/Function", "apply", "(Ljava/lang/Object;)Ljava/lang/Object;"⟩ : MethodName)) (y := Y3) (σ := own_sig) hown (wd hw 107) (wd hw 108) (wd hw 109) (wd hw 110) (wd hw 111) (wd hw 112) (wd hw 102) (by decide +kernel) (by decide +kernel) rfl (by decide) (by decide) hmd hfn (E_rd.ext Ol.2) own_fwd rfl own_fd0 own_fd1 own_fd4 own_fd7 (fun s' args' bl hZq => (backOf (W := 0) (rmrtn l Z a0 hw [] rd rdw h0 n0 Z0 (F_name_rd.ext Ol.2)) hZq (wd hw 113) (wd hw 79) (by decide) (by decide))) (fun v h' L q => ⟨_, q.1, rfl⟩) (lenOf (L := [Value.null]) pd_1 rfl) (lenOf (L := []) pd_2 rfl) (by rw [hml]; rfl) rfl (hb hby d5_25) e0 (W := 0) (nb rfl) (by decide) (by decide) (by decide) (by decide) fun T53 v53 L53 X53 hQ53 => ?_
  obtain ⟨rfl, Nq53, e53⟩ := hQ53
  have N53 := Fr.app N0 Nq53
  refine Owe.castY X53 hx hZ hown (wd hw 116) e53 (Ins.self (E_rdw.ext Ol.2)) (hb hby d5_30) rfl fun T54 X54 e54 => ?_
  refine Owe.aloadN X54.here hx (hb hby d5_33) rfl rfl ?_
  have hcd55 : StrChars.Road.CodA ([115, 45, 115, 104, 97, 112, 101] : List Int32) 0 (7 : Int32) ((([115, 45, 115, 104, 97, 112, 101] : List Int32).map (fun c => c.toInt8.toInt32)).map Value.int) := StrChars.Road.codOf (n := 7) rfl (fun x hx => (Tx_rdw.1 x hx).2)
  have hbd55 := up ([115, 45, 115, 104, 97, 112, 101] : List Int32) Tx_rdw.1
  have hcd56 : StrChars.Road.CodA cs 0 (Int32.ofNat cs.length) ((cs.map (fun c => c.toInt8.toInt32)).map Value.int) := StrChars.Road.codOf (n := cs.length) rfl (fun x hx => (Tx_a1.1 x hx).2)
  have hbd56 := up cs Tx_a1.1
  refine Owe.virt X54 hx hZ (y := Y4) (z := Y4) (Q := fun v h' L => ((v = some (.int 1) ∧ ([115, 45, 115, 104, 97, 112, 101] : List Int32) = cs) ∨ (v = some (.int 0) ∧ ¬ ([115, 45, 115, 104, 97, 112, 101] : List Int32) = cs)) ∧ L = [] ∧ h' = h0) (kc := 0) (ks := 0) hown (mvT hZ (wd hw 117)) (mvT hZ (wd hw 70)) (mvT hZ (wd hw 72)) (mvT hZ (wd hw 71)) (notFace_of_selects (args := #[]) (mvT hZ (wd hw 72))) (by decide) (StrChars.Road.eqW (W := 0) hZ (own_heq hw) (kI := 4) (wd hw 2) (E_rdw.ext Ol.2) (Fvalue_rdw.ext Ol.2) (Fcoder_rdw.ext Ol.2) (V_rdwv.ext Ol.2) hcd55 hbd55 Tx_rdw.2 E_a1 Fvalue_a1 Fcoder_a1 V_t1 hcd56 hbd56 Tx_a1.2 (S_COMPACT_STRINGS.ext Ol.2) cs0 (by decide) (by decide)) (by rw [hml]; rfl) (a := rdw) (argsL := [(.ref a1)]) (rest := []) (E_rdw.ext Ol.2) (lenOf pd_3 rfl) rfl (nb rfl) (hb hby d5_34) rfl e54 (by decide) (by decide) fun T57 v57 L57 X57 hQ57 => ?_
  obtain ⟨hv57, rfl, e57⟩ := hQ57
  obtain rfl : v57 = some (.int (0 : Int32)) := by
    rcases hv57 with q | q
    · exact absurd q.2 (fun q => hq0 q.symm)
    · exact q.1
  have N57 := Fr.app N53 (Fr.nil n0)
  refine Owe.ifYes X57.here hx (hb hby d5_37) rfl ((if0 _ _).trans (teq (by decide)).1) (pc' := 43) (by decide) (by decide) ?_
  refine Owe.iinc X57.here hx (hb hby d5_43) rfl (l' := #[.val (.ref x1), .val (.ref f1), .val (.ref a1), .val (.ref x1), .val (.int (2 : Int32)), .val (.int (1 : Int32)), .val (.ref rd)]) rfl ?_
  refine Owe.goto X57.here hx (hb hby d5_46) (pc' := 9) (by decide) (by decide) ?_
  refine Owe.iload X57.here hx (hb hby d5_9) rfl ?_
  refine Owe.iload X57.here hx (hb hby d5_11) rfl ?_
  refine Owe.icmpNo X57.here hx (hb hby d5_13) rfl (tlt (by decide)).2.1 ?_
  refine Owe.aloadN X57.here hx (hb hby d5_16) rfl rfl ?_
  refine Owe.iload X57.here hx (hb hby d5_17) rfl ?_
  refine Owe.aaloadV X57 hx hZ e57 V_x1 rfl (v := (.ref wt)) (by decide) rfl (hb hby d5_19) rfl ?_
  refine Owe.astore X57.here hx (hb hby d5_20) rfl rfl (l' := #[.val (.ref x1), .val (.ref f1), .val (.ref a1), .val (.ref x1), .val (.int (2 : Int32)), .val (.int (1 : Int32)), .val (.ref wt)]) rfl ?_
  refine Owe.aloadN X57.here hx (hb hby d5_22) rfl rfl ?_
  refine Owe.aload X57.here hx (hb hby d5_23) rfl rfl ?_
  refine Owe.lamV X57 hx hZ (R' := ({ frames := 1, cells := 0, slots := 0, locals := 12 } : Room)) (host := "com/example/pickwright/pickwright/Routing") (C := "com/example/pickwright/pickwright/Routing") (xi := (⟨"java/util/function/Function", "apply", "(Ljava/lang/Object;)Ljava/lang/Object;"⟩ : MethodName)) (y := Y3) (σ := own_sig) hown (wd hw 107) (wd hw 108) (wd hw 109) (wd hw 110) (wd hw 111) (wd hw 112) (wd hw 102) (by decide +kernel) (by decide +kernel) rfl (by decide) (by decide) hmd hfn (E_wt.ext Ol.2) own_fwd rfl own_fd0 own_fd1 own_fd4 own_fd7 (fun s' args' bl hZq => (backOf (W := 0) (rmrtn l Z a0 hw [] wt wtw h0 n0 Z0 (F_name_wt.ext Ol.2)) hZq (wd hw 113) (wd hw 79) (by decide) (by decide))) (fun v h' L q => ⟨_, q.1, rfl⟩) (lenOf (L := [Value.null]) pd_1 rfl) (lenOf (L := []) pd_2 rfl) (by rw [hml]; rfl) rfl (hb hby d5_25) e57 (W := 0) (nb rfl) (by decide) (by decide) (by decide) (by decide) fun T58 v58 L58 X58 hQ58 => ?_
  obtain ⟨rfl, Nq58, e58⟩ := hQ58
  have N58 := Fr.app N57 Nq58
  refine Owe.castY X58 hx hZ hown (wd hw 116) e58 (Ins.self (E_wtw.ext Ol.2)) (hb hby d5_30) rfl fun T59 X59 e59 => ?_
  refine Owe.aloadN X59.here hx (hb hby d5_33) rfl rfl ?_
  have hcd60 : StrChars.Road.CodA ([108, 97, 114, 103, 101, 115, 116, 45, 103, 97, 112] : List Int32) 0 (11 : Int32) ((([108, 97, 114, 103, 101, 115, 116, 45, 103, 97, 112] : List Int32).map (fun c => c.toInt8.toInt32)).map Value.int) := StrChars.Road.codOf (n := 11) rfl (fun x hx => (Tx_wtw.1 x hx).2)
  have hbd60 := up ([108, 97, 114, 103, 101, 115, 116, 45, 103, 97, 112] : List Int32) Tx_wtw.1
  have hcd61 : StrChars.Road.CodA cs 0 (Int32.ofNat cs.length) ((cs.map (fun c => c.toInt8.toInt32)).map Value.int) := StrChars.Road.codOf (n := cs.length) rfl (fun x hx => (Tx_a1.1 x hx).2)
  have hbd61 := up cs Tx_a1.1
  refine Owe.virt X59 hx hZ (y := Y4) (z := Y4) (Q := fun v h' L => ((v = some (.int 1) ∧ ([108, 97, 114, 103, 101, 115, 116, 45, 103, 97, 112] : List Int32) = cs) ∨ (v = some (.int 0) ∧ ¬ ([108, 97, 114, 103, 101, 115, 116, 45, 103, 97, 112] : List Int32) = cs)) ∧ L = [] ∧ h' = h0) (kc := 0) (ks := 0) hown (mvT hZ (wd hw 117)) (mvT hZ (wd hw 70)) (mvT hZ (wd hw 72)) (mvT hZ (wd hw 71)) (notFace_of_selects (args := #[]) (mvT hZ (wd hw 72))) (by decide) (StrChars.Road.eqW (W := 0) hZ (own_heq hw) (kI := 4) (wd hw 2) (E_wtw.ext Ol.2) (Fvalue_wtw.ext Ol.2) (Fcoder_wtw.ext Ol.2) (V_wtwv.ext Ol.2) hcd60 hbd60 Tx_wtw.2 E_a1 Fvalue_a1 Fcoder_a1 V_t1 hcd61 hbd61 Tx_a1.2 (S_COMPACT_STRINGS.ext Ol.2) cs0 (by decide) (by decide)) (by rw [hml]; rfl) (a := wtw) (argsL := [(.ref a1)]) (rest := []) (E_wtw.ext Ol.2) (lenOf pd_3 rfl) rfl (nb rfl) (hb hby d5_34) rfl e59 (by decide) (by decide) fun T62 v62 L62 X62 hQ62 => ?_
  obtain ⟨hv62, rfl, e62⟩ := hQ62
  obtain rfl : v62 = some (.int (1 : Int32)) := by
    rcases hv62 with q | q
    · exact q.1
    · exact absurd (hq1).symm q.2
  have N62 := Fr.app N58 (Fr.nil n0)
  refine Owe.ifNo X62.here hx (hb hby d5_37) rfl ((if0 _ _).trans (feq (by decide)).1) ?_
  refine Owe.aload X62.here hx (hb hby d5_40) rfl rfl ?_
  refine Owe.retR X62 hx hlk (t := (.object "java/lang/Object")) hrt rfl rfl rfl (hb hby d5_42) rfl fun fs hE => ?_
  refine hG _ _ ⟨_, _, rfl, ?_, frameMono hE (by decide) (by decide)⟩
  show Qchow Z x1 k1 f1 cK a1 t1 kb1 cs G1 rd va wt rdw rdwv wtw wtwv k_va k_rdwv k_wtwv h0 n0 _ T62.heap _
  rw [e62]
  exact ⟨rfl, N62, rfl⟩
theorem ef_chon (m : MethodId) (x0 : Addr) (x1 : Addr) (x2 : Addr)  : entryFrame m #[(.ref x0), (.ref x1), (.ref x2)] 7 = mkF m 0 #[.val (.ref x0), .val (.ref x1), .val (.ref x2), .unset, .unset, .unset, .unset] [] := by first | (simp [entryFrame, mkF, argsToLocals, Value.category]; done) | rfl
def Qchon (Z : State) (x1 : Addr) (k1 : ClassId) (f1 : Addr) (cK : ClassId) (a1 : Addr) (t1 : Addr) (kb1 : ClassId) (cs : List Int32) (G1 : Int32) (rd : Addr) (va : Addr) (wt : Addr) (rdw : Addr) (rdwv : Addr) (wtw : Addr) (wtwv : Addr) (k_va : ClassId) (k_rdwv : ClassId) (k_wtwv : ClassId) (h0 : Heap) (n0 : Nat) (v : Option Value) (h : Heap) (L : List Loc) : Prop := v = some .null ∧ Fr n0 L ∧ h = h0
set_option maxRecDepth 65536 in
set_option maxHeartbeats 40000000 in
theorem rmchon (l : Launch) (Z : State) (a0 : Array Value) (hw : Hw Z a0) (ws : List Jvm.Cond) (x1 : Addr) (k1 : ClassId) (f1 : Addr) (cK : ClassId) (a1 : Addr) (t1 : Addr) (kb1 : ClassId) (cs : List Int32) (G1 : Int32) (rd : Addr) (va : Addr) (wt : Addr) (rdw : Addr) (rdwv : Addr) (wtw : Addr) (wtwv : Addr) (k_va : ClassId) (k_rdwv : ClassId) (k_wtwv : ClassId) (h0 : Heap) (n0 : Nat) (Z0 : n0 ≤ h0.size) (V_x1 : Arv Z h0 x1 k1 (.object "com/example/pickwright/pickwright/Routing") (2 : Int32) [(.ref rd), (.ref wt)] .null) (hmd : LamKit.Made Z "com/example/pickwright/pickwright/Routing" own_sig cK) (hfn : LamKit.FnAt h0 f1 cK) (E_a1 : Exa Z h0 a1 "java/lang/String") (Fvalue_a1 : Fld Z h0 a1 "java/lang/String" "value" "[B" (.ref t1)) (Fcoder_a1 : Fld Z h0 a1 "java/lang/String" "coder" "B" (.int (0 : Int32))) (V_t1 : Arv Z h0 t1 kb1 .byte (Int32.ofNat cs.length) ((cs.map (fun c => c.toInt8.toInt32)).map Value.int) (.int (0 : Int32))) (Tx_a1 : (∀ c ∈ cs, ¬ c < 0 ∧ ¬ (255 : Int32) < c) ∧ cs.length ≤ 4000) (S_COMPACT_STRINGS : Sta Z Z.heap "java/lang/String" "COMPACT_STRINGS" "Z" (.int G1)) (cs0 : ¬ (G1 = (0 : Int32))) (Ol : Old Z n0 h0) (S_S_SHAPE : Sta Z Z.heap "com/example/pickwright/pickwright/Routing" "S_SHAPE" "Lcom/example/pickwright/pickwright/Routing;" (.ref rd)) (E_rd : Exa Z Z.heap rd "com/example/pickwright/pickwright/Routing") (S__VALUES : Sta Z Z.heap "com/example/pickwright/pickwright/Routing" "$VALUES" "[Lcom/example/pickwright/pickwright/Routing;" (.ref va)) (E_va : Exa Z Z.heap va "[Lcom/example/pickwright/pickwright/Routing;") (S_LARGEST_GAP : Sta Z Z.heap "com/example/pickwright/pickwright/Routing" "LARGEST_GAP" "Lcom/example/pickwright/pickwright/Routing;" (.ref wt)) (E_wt : Exa Z Z.heap wt "com/example/pickwright/pickwright/Routing") (F_name_rd : Fld Z Z.heap rd "com/example/pickwright/pickwright/Routing" "_name" "Ljava/lang/String;" (.ref rdw)) (E_rdw : Exa Z Z.heap rdw "java/lang/String") (Fcoder_rdw : Fld Z Z.heap rdw "java/lang/String" "coder" "B" (.int (0 : Int32))) (Fvalue_rdw : Fld Z Z.heap rdw "java/lang/String" "value" "[B" (.ref rdwv)) (F_name_wt : Fld Z Z.heap wt "com/example/pickwright/pickwright/Routing" "_name" "Ljava/lang/String;" (.ref wtw)) (E_wtw : Exa Z Z.heap wtw "java/lang/String") (Fcoder_wtw : Fld Z Z.heap wtw "java/lang/String" "coder" "B" (.int (0 : Int32))) (Fvalue_wtw : Fld Z Z.heap wtw "java/lang/String" "value" "[B" (.ref wtwv)) (V_va : Arv Z Z.heap va k_va (.object "com/example/pickwright/pickwright/Routing") (2 : Int32) [(.ref rd), (.ref wt)] .null) (V_rdwv : Arv Z Z.heap rdwv k_rdwv .byte (7 : Int32) ((([115, 45, 115, 104, 97, 112, 101] : List Int32).map (fun c => c.toInt8.toInt32)).map Value.int) (.int (0 : Int32))) (V_wtwv : Arv Z Z.heap wtwv k_wtwv .byte (11 : Int32) ((([108, 97, 114, 103, 101, 115, 116, 45, 103, 97, 112] : List Int32).map (fun c => c.toInt8.toInt32)).map Value.int) (.int (0 : Int32))) (Tx_rdw : (∀ c ∈ ([115, 45, 115, 104, 97, 112, 101] : List Int32), ¬ c < 0 ∧ ¬ (255 : Int32) < c) ∧ ([115, 45, 115, 104, 97, 112, 101] : List Int32).length ≤ 4000) (Tx_wtw : (∀ c ∈ ([108, 97, 114, 103, 101, 115, 116, 45, 103, 97, 112] : List Int32), ¬ c < 0 ∧ ¬ (255 : Int32) < c) ∧ ([108, 97, 114, 103, 101, 115, 116, 45, 103, 97, 112] : List Int32).length ≤ 4000) (hq0 : ¬ cs = ([115, 45, 115, 104, 97, 112, 101] : List Int32)) (hq1 : ¬ cs = ([108, 97, 114, 103, 101, 115, 116, 45, 103, 97, 112] : List Int32)) :
    MF l Z Y5 prog_1_method_2_code 7 (some (.object "java/lang/Object")) ws ({ frames := 2, cells := 0, slots := 0, locals := 30 } : Room) #[(.ref x1), (.ref f1), (.ref a1)] h0 (Qchon Z x1 k1 f1 cK a1 t1 kb1 cs G1 rd va wt rdw rdwv wtw wtwv k_va k_rdwv k_wtwv h0 n0) := by
  refine MF.of pn_2 (fun m => ef_chon m x1 f1 a1) ?_
  intro p e s m below meth c s₁ G X0 e0 hx hby hml hown hnm hlk hrt hZ hnd hG
  have N0 := Fr.nil n0
  refine Owe.aloadN X0.here hx (hb hby d5_0) rfl rfl ?_
  refine Owe.astoreN X0.here hx (hb hby d5_1) rfl rfl (l' := #[.val (.ref x1), .val (.ref f1), .val (.ref a1), .val (.ref x1), .unset, .unset, .unset]) rfl ?_
  refine Owe.aloadN X0.here hx (hb hby d5_2) rfl rfl ?_
  refine Owe.arrlen X0 hx hZ e0 V_x1 (hb hby d5_3) rfl ?_
  refine Owe.istore X0.here hx (hb hby d5_4) rfl (l' := #[.val (.ref x1), .val (.ref f1), .val (.ref a1), .val (.ref x1), .val (.int (2 : Int32)), .unset, .unset]) rfl ?_
  refine Owe.iconst X0.here hx (hb hby d5_6) (w := (0 : Int32)) rfl ?_
  refine Owe.istore X0.here hx (hb hby d5_7) rfl (l' := #[.val (.ref x1), .val (.ref f1), .val (.ref a1), .val (.ref x1), .val (.int (2 : Int32)), .val (.int (0 : Int32)), .unset]) rfl ?_
  refine Owe.iload X0.here hx (hb hby d5_9) rfl ?_
  refine Owe.iload X0.here hx (hb hby d5_11) rfl ?_
  refine Owe.icmpNo X0.here hx (hb hby d5_13) rfl (tlt (by decide)).2.1 ?_
  refine Owe.aloadN X0.here hx (hb hby d5_16) rfl rfl ?_
  refine Owe.iload X0.here hx (hb hby d5_17) rfl ?_
  refine Owe.aaloadV X0 hx hZ e0 V_x1 rfl (v := (.ref rd)) (by decide) rfl (hb hby d5_19) rfl ?_
  refine Owe.astore X0.here hx (hb hby d5_20) rfl rfl (l' := #[.val (.ref x1), .val (.ref f1), .val (.ref a1), .val (.ref x1), .val (.int (2 : Int32)), .val (.int (0 : Int32)), .val (.ref rd)]) rfl ?_
  refine Owe.aloadN X0.here hx (hb hby d5_22) rfl rfl ?_
  refine Owe.aload X0.here hx (hb hby d5_23) rfl rfl ?_
  refine Owe.lamV X0 hx hZ (R' := ({ frames := 1, cells := 0, slots := 0, locals := 12 } : Room)) (host := "com/example/pickwright/pickwright/Routing") (C := "com/example/pickwright/pickwright/Routing") (xi := (⟨"java/util/function/Function", "apply", "(Ljava/lang/Object;)Ljava/lang/Object;"⟩ : MethodName)) (y := Y3) (σ := own_sig) hown (wd hw 107) (wd hw 108) (wd hw 109) (wd hw 110) (wd hw 111) (wd hw 112) (wd hw 102) (by decide +kernel) (by decide +kernel) rfl (by decide) (by decide) hmd hfn (E_rd.ext Ol.2) own_fwd rfl own_fd0 own_fd1 own_fd4 own_fd7 (fun s' args' bl hZq => (backOf (W := 0) (rmrtn l Z a0 hw [] rd rdw h0 n0 Z0 (F_name_rd.ext Ol.2)) hZq (wd hw 113) (wd hw 79) (by decide) (by decide))) (fun v h' L q => ⟨_, q.1, rfl⟩) (lenOf (L := [Value.null]) pd_1 rfl) (lenOf (L := []) pd_2 rfl) (by rw [hml]; rfl) rfl (hb hby d5_25) e0 (W := 0) (nb rfl) (by decide) (by decide) (by decide) (by decide) fun T63 v63 L63 X63 hQ63 => ?_
  obtain ⟨rfl, Nq63, e63⟩ := hQ63
  have N63 := Fr.app N0 Nq63
  refine Owe.castY X63 hx hZ hown (wd hw 116) e63 (Ins.self (E_rdw.ext Ol.2)) (hb hby d5_30) rfl fun T64 X64 e64 => ?_
  refine Owe.aloadN X64.here hx (hb hby d5_33) rfl rfl ?_
  have hcd65 : StrChars.Road.CodA ([115, 45, 115, 104, 97, 112, 101] : List Int32) 0 (7 : Int32) ((([115, 45, 115, 104, 97, 112, 101] : List Int32).map (fun c => c.toInt8.toInt32)).map Value.int) := StrChars.Road.codOf (n := 7) rfl (fun x hx => (Tx_rdw.1 x hx).2)
  have hbd65 := up ([115, 45, 115, 104, 97, 112, 101] : List Int32) Tx_rdw.1
  have hcd66 : StrChars.Road.CodA cs 0 (Int32.ofNat cs.length) ((cs.map (fun c => c.toInt8.toInt32)).map Value.int) := StrChars.Road.codOf (n := cs.length) rfl (fun x hx => (Tx_a1.1 x hx).2)
  have hbd66 := up cs Tx_a1.1
  refine Owe.virt X64 hx hZ (y := Y4) (z := Y4) (Q := fun v h' L => ((v = some (.int 1) ∧ ([115, 45, 115, 104, 97, 112, 101] : List Int32) = cs) ∨ (v = some (.int 0) ∧ ¬ ([115, 45, 115, 104, 97, 112, 101] : List Int32) = cs)) ∧ L = [] ∧ h' = h0) (kc := 0) (ks := 0) hown (mvT hZ (wd hw 117)) (mvT hZ (wd hw 70)) (mvT hZ (wd hw 72)) (mvT hZ (wd hw 71)) (notFace_of_selects (args := #[]) (mvT hZ (wd hw 72))) (by decide) (StrChars.Road.eqW (W := 0) hZ (own_heq hw) (kI := 4) (wd hw 2) (E_rdw.ext Ol.2) (Fvalue_rdw.ext Ol.2) (Fcoder_rdw.ext Ol.2) (V_rdwv.ext Ol.2) hcd65 hbd65 Tx_rdw.2 E_a1 Fvalue_a1 Fcoder_a1 V_t1 hcd66 hbd66 Tx_a1.2 (S_COMPACT_STRINGS.ext Ol.2) cs0 (by decide) (by decide)) (by rw [hml]; rfl) (a := rdw) (argsL := [(.ref a1)]) (rest := []) (E_rdw.ext Ol.2) (lenOf pd_3 rfl) rfl (nb rfl) (hb hby d5_34) rfl e64 (by decide) (by decide) fun T67 v67 L67 X67 hQ67 => ?_
  obtain ⟨hv67, rfl, e67⟩ := hQ67
  obtain rfl : v67 = some (.int (0 : Int32)) := by
    rcases hv67 with q | q
    · exact absurd q.2 (fun q => hq0 q.symm)
    · exact q.1
  have N67 := Fr.app N63 (Fr.nil n0)
  refine Owe.ifYes X67.here hx (hb hby d5_37) rfl ((if0 _ _).trans (teq (by decide)).1) (pc' := 43) (by decide) (by decide) ?_
  refine Owe.iinc X67.here hx (hb hby d5_43) rfl (l' := #[.val (.ref x1), .val (.ref f1), .val (.ref a1), .val (.ref x1), .val (.int (2 : Int32)), .val (.int (1 : Int32)), .val (.ref rd)]) rfl ?_
  refine Owe.goto X67.here hx (hb hby d5_46) (pc' := 9) (by decide) (by decide) ?_
  refine Owe.iload X67.here hx (hb hby d5_9) rfl ?_
  refine Owe.iload X67.here hx (hb hby d5_11) rfl ?_
  refine Owe.icmpNo X67.here hx (hb hby d5_13) rfl (tlt (by decide)).2.1 ?_
  refine Owe.aloadN X67.here hx (hb hby d5_16) rfl rfl ?_
  refine Owe.iload X67.here hx (hb hby d5_17) rfl ?_
  refine Owe.aaloadV X67 hx hZ e67 V_x1 rfl (v := (.ref wt)) (by decide) rfl (hb hby d5_19) rfl ?_
  refine Owe.astore X67.here hx (hb hby d5_20) rfl rfl (l' := #[.val (.ref x1), .val (.ref f1), .val (.ref a1), .val (.ref x1), .val (.int (2 : Int32)), .val (.int (1 : Int32)), .val (.ref wt)]) rfl ?_
  refine Owe.aloadN X67.here hx (hb hby d5_22) rfl rfl ?_
  refine Owe.aload X67.here hx (hb hby d5_23) rfl rfl ?_
  refine Owe.lamV X67 hx hZ (R' := ({ frames := 1, cells := 0, slots := 0, locals := 12 } : Room)) (host := "com/example/pickwright/pickwright/Routing") (C := "com/example/pickwright/pickwright/Routing") (xi := (⟨"java/util/function/Function", "apply", "(Ljava/lang/Object;)Ljava/lang/Object;"⟩ : MethodName)) (y := Y3) (σ := own_sig) hown (wd hw 107) (wd hw 108) (wd hw 109) (wd hw 110) (wd hw 111) (wd hw 112) (wd hw 102) (by decide +kernel) (by decide +kernel) rfl (by decide) (by decide) hmd hfn (E_wt.ext Ol.2) own_fwd rfl own_fd0 own_fd1 own_fd4 own_fd7 (fun s' args' bl hZq => (backOf (W := 0) (rmrtn l Z a0 hw [] wt wtw h0 n0 Z0 (F_name_wt.ext Ol.2)) hZq (wd hw 113) (wd hw 79) (by decide) (by decide))) (fun v h' L q => ⟨_, q.1, rfl⟩) (lenOf (L := [Value.null]) pd_1 rfl) (lenOf (L := []) pd_2 rfl) (by rw [hml]; rfl) rfl (hb hby d5_25) e67 (W := 0) (nb rfl) (by decide) (by decide) (by decide) (by decide) fun T68 v68 L68 X68 hQ68 => ?_
  obtain ⟨rfl, Nq68, e68⟩ := hQ68
  have N68 := Fr.app N67 Nq68
  refine Owe.castY X68 hx hZ hown (wd hw 116) e68 (Ins.self (E_wtw.ext Ol.2)) (hb hby d5_30) rfl fun T69 X69 e69 => ?_
  refine Owe.aloadN X69.here hx (hb hby d5_33) rfl rfl ?_
  have hcd70 : StrChars.Road.CodA ([108, 97, 114, 103, 101, 115, 116, 45, 103, 97, 112] : List Int32) 0 (11 : Int32) ((([108, 97, 114, 103, 101, 115, 116, 45, 103, 97, 112] : List Int32).map (fun c => c.toInt8.toInt32)).map Value.int) := StrChars.Road.codOf (n := 11) rfl (fun x hx => (Tx_wtw.1 x hx).2)
  have hbd70 := up ([108, 97, 114, 103, 101, 115, 116, 45, 103, 97, 112] : List Int32) Tx_wtw.1
  have hcd71 : StrChars.Road.CodA cs 0 (Int32.ofNat cs.length) ((cs.map (fun c => c.toInt8.toInt32)).map Value.int) := StrChars.Road.codOf (n := cs.length) rfl (fun x hx => (Tx_a1.1 x hx).2)
  have hbd71 := up cs Tx_a1.1
  refine Owe.virt X69 hx hZ (y := Y4) (z := Y4) (Q := fun v h' L => ((v = some (.int 1) ∧ ([108, 97, 114, 103, 101, 115, 116, 45, 103, 97, 112] : List Int32) = cs) ∨ (v = some (.int 0) ∧ ¬ ([108, 97, 114, 103, 101, 115, 116, 45, 103, 97, 112] : List Int32) = cs)) ∧ L = [] ∧ h' = h0) (kc := 0) (ks := 0) hown (mvT hZ (wd hw 117)) (mvT hZ (wd hw 70)) (mvT hZ (wd hw 72)) (mvT hZ (wd hw 71)) (notFace_of_selects (args := #[]) (mvT hZ (wd hw 72))) (by decide) (StrChars.Road.eqW (W := 0) hZ (own_heq hw) (kI := 4) (wd hw 2) (E_wtw.ext Ol.2) (Fvalue_wtw.ext Ol.2) (Fcoder_wtw.ext Ol.2) (V_wtwv.ext Ol.2) hcd70 hbd70 Tx_wtw.2 E_a1 Fvalue_a1 Fcoder_a1 V_t1 hcd71 hbd71 Tx_a1.2 (S_COMPACT_STRINGS.ext Ol.2) cs0 (by decide) (by decide)) (by rw [hml]; rfl) (a := wtw) (argsL := [(.ref a1)]) (rest := []) (E_wtw.ext Ol.2) (lenOf pd_3 rfl) rfl (nb rfl) (hb hby d5_34) rfl e69 (by decide) (by decide) fun T72 v72 L72 X72 hQ72 => ?_
  obtain ⟨hv72, rfl, e72⟩ := hQ72
  obtain rfl : v72 = some (.int (0 : Int32)) := by
    rcases hv72 with q | q
    · exact absurd q.2 (fun q => hq1 q.symm)
    · exact q.1
  have N72 := Fr.app N68 (Fr.nil n0)
  refine Owe.ifYes X72.here hx (hb hby d5_37) rfl ((if0 _ _).trans (teq (by decide)).1) (pc' := 43) (by decide) (by decide) ?_
  refine Owe.iinc X72.here hx (hb hby d5_43) rfl (l' := #[.val (.ref x1), .val (.ref f1), .val (.ref a1), .val (.ref x1), .val (.int (2 : Int32)), .val (.int (2 : Int32)), .val (.ref wt)]) rfl ?_
  refine Owe.goto X72.here hx (hb hby d5_46) (pc' := 9) (by decide) (by decide) ?_
  refine Owe.iload X72.here hx (hb hby d5_9) rfl ?_
  refine Owe.iload X72.here hx (hb hby d5_11) rfl ?_
  refine Owe.icmpYes X72.here hx (hb hby d5_13) rfl (flt (by decide)).2.1 (pc' := 49) (by decide) (by decide) ?_
  refine Owe.aconstNull X72.here hx (hb hby d5_49)  ?_
  refine Owe.retR X72 hx hlk (t := (.object "java/lang/Object")) hrt rfl rfl rfl (hb hby d5_50) rfl fun fs hE => ?_
  refine hG _ _ ⟨_, _, rfl, ?_, frameMono hE (by decide) (by decide)⟩
  show Qchon Z x1 k1 f1 cK a1 t1 kb1 cs G1 rd va wt rdw rdwv wtw wtwv k_va k_rdwv k_wtwv h0 n0 _ T72.heap _
  rw [e72]
  exact ⟨rfl, N72, rfl⟩
theorem ef_choN (m : MethodId) (x0 : Addr) (x1 : Addr)  : entryFrame m #[(.ref x0), (.ref x1), .null] 7 = mkF m 0 #[.val (.ref x0), .val (.ref x1), .val .null, .unset, .unset, .unset, .unset] [] := by first | (simp [entryFrame, mkF, argsToLocals, Value.category]; done) | rfl
def QchoN (Z : State) (x1 : Addr) (k1 : ClassId) (f1 : Addr) (cK : ClassId) (G1 : Int32) (rd : Addr) (va : Addr) (wt : Addr) (rdw : Addr) (rdwv : Addr) (wtw : Addr) (wtwv : Addr) (k_va : ClassId) (k_rdwv : ClassId) (k_wtwv : ClassId) (h0 : Heap) (n0 : Nat) (v : Option Value) (h : Heap) (L : List Loc) : Prop := v = some .null ∧ Fr n0 L ∧ h = h0
set_option maxRecDepth 65536 in
set_option maxHeartbeats 40000000 in
theorem rmchoN (l : Launch) (Z : State) (a0 : Array Value) (hw : Hw Z a0) (ws : List Jvm.Cond) (x1 : Addr) (k1 : ClassId) (f1 : Addr) (cK : ClassId) (G1 : Int32) (rd : Addr) (va : Addr) (wt : Addr) (rdw : Addr) (rdwv : Addr) (wtw : Addr) (wtwv : Addr) (k_va : ClassId) (k_rdwv : ClassId) (k_wtwv : ClassId) (h0 : Heap) (n0 : Nat) (Z0 : n0 ≤ h0.size) (V_x1 : Arv Z h0 x1 k1 (.object "com/example/pickwright/pickwright/Routing") (2 : Int32) [(.ref rd), (.ref wt)] .null) (hmd : LamKit.Made Z "com/example/pickwright/pickwright/Routing" own_sig cK) (hfn : LamKit.FnAt h0 f1 cK) (S_COMPACT_STRINGS : Sta Z Z.heap "java/lang/String" "COMPACT_STRINGS" "Z" (.int G1)) (cs0 : ¬ (G1 = (0 : Int32))) (Ol : Old Z n0 h0) (S_S_SHAPE : Sta Z Z.heap "com/example/pickwright/pickwright/Routing" "S_SHAPE" "Lcom/example/pickwright/pickwright/Routing;" (.ref rd)) (E_rd : Exa Z Z.heap rd "com/example/pickwright/pickwright/Routing") (S__VALUES : Sta Z Z.heap "com/example/pickwright/pickwright/Routing" "$VALUES" "[Lcom/example/pickwright/pickwright/Routing;" (.ref va)) (E_va : Exa Z Z.heap va "[Lcom/example/pickwright/pickwright/Routing;") (S_LARGEST_GAP : Sta Z Z.heap "com/example/pickwright/pickwright/Routing" "LARGEST_GAP" "Lcom/example/pickwright/pickwright/Routing;" (.ref wt)) (E_wt : Exa Z Z.heap wt "com/example/pickwright/pickwright/Routing") (F_name_rd : Fld Z Z.heap rd "com/example/pickwright/pickwright/Routing" "_name" "Ljava/lang/String;" (.ref rdw)) (E_rdw : Exa Z Z.heap rdw "java/lang/String") (Fcoder_rdw : Fld Z Z.heap rdw "java/lang/String" "coder" "B" (.int (0 : Int32))) (Fvalue_rdw : Fld Z Z.heap rdw "java/lang/String" "value" "[B" (.ref rdwv)) (F_name_wt : Fld Z Z.heap wt "com/example/pickwright/pickwright/Routing" "_name" "Ljava/lang/String;" (.ref wtw)) (E_wtw : Exa Z Z.heap wtw "java/lang/String") (Fcoder_wtw : Fld Z Z.heap wtw "java/lang/String" "coder" "B" (.int (0 : Int32))) (Fvalue_wtw : Fld Z Z.heap wtw "java/lang/String" "value" "[B" (.ref wtwv)) (V_va : Arv Z Z.heap va k_va (.object "com/example/pickwright/pickwright/Routing") (2 : Int32) [(.ref rd), (.ref wt)] .null) (V_rdwv : Arv Z Z.heap rdwv k_rdwv .byte (7 : Int32) ((([115, 45, 115, 104, 97, 112, 101] : List Int32).map (fun c => c.toInt8.toInt32)).map Value.int) (.int (0 : Int32))) (V_wtwv : Arv Z Z.heap wtwv k_wtwv .byte (11 : Int32) ((([108, 97, 114, 103, 101, 115, 116, 45, 103, 97, 112] : List Int32).map (fun c => c.toInt8.toInt32)).map Value.int) (.int (0 : Int32))) (Tx_rdw : (∀ c ∈ ([115, 45, 115, 104, 97, 112, 101] : List Int32), ¬ c < 0 ∧ ¬ (255 : Int32) < c) ∧ ([115, 45, 115, 104, 97, 112, 101] : List Int32).length ≤ 4000) (Tx_wtw : (∀ c ∈ ([108, 97, 114, 103, 101, 115, 116, 45, 103, 97, 112] : List Int32), ¬ c < 0 ∧ ¬ (255 : Int32) < c) ∧ ([108, 97, 114, 103, 101, 115, 116, 45, 103, 97, 112] : List Int32).length ≤ 4000) :
    MF l Z Y5 prog_1_method_2_code 7 (some (.object "java/lang/Object")) ws ({ frames := 2, cells := 0, slots := 0, locals := 30 } : Room) #[(.ref x1), (.ref f1), .null] h0 (QchoN Z x1 k1 f1 cK G1 rd va wt rdw rdwv wtw wtwv k_va k_rdwv k_wtwv h0 n0) := by
  refine MF.of pn_2 (fun m => ef_choN m x1 f1) ?_
  intro p e s m below meth c s₁ G X0 e0 hx hby hml hown hnm hlk hrt hZ hnd hG
  have N0 := Fr.nil n0
  refine Owe.aloadN X0.here hx (hb hby d5_0) rfl rfl ?_
  refine Owe.astoreN X0.here hx (hb hby d5_1) rfl rfl (l' := #[.val (.ref x1), .val (.ref f1), .val .null, .val (.ref x1), .unset, .unset, .unset]) rfl ?_
  refine Owe.aloadN X0.here hx (hb hby d5_2) rfl rfl ?_
  refine Owe.arrlen X0 hx hZ e0 V_x1 (hb hby d5_3) rfl ?_
  refine Owe.istore X0.here hx (hb hby d5_4) rfl (l' := #[.val (.ref x1), .val (.ref f1), .val .null, .val (.ref x1), .val (.int (2 : Int32)), .unset, .unset]) rfl ?_
  refine Owe.iconst X0.here hx (hb hby d5_6) (w := (0 : Int32)) rfl ?_
  refine Owe.istore X0.here hx (hb hby d5_7) rfl (l' := #[.val (.ref x1), .val (.ref f1), .val .null, .val (.ref x1), .val (.int (2 : Int32)), .val (.int (0 : Int32)), .unset]) rfl ?_
  refine Owe.iload X0.here hx (hb hby d5_9) rfl ?_
  refine Owe.iload X0.here hx (hb hby d5_11) rfl ?_
  refine Owe.icmpNo X0.here hx (hb hby d5_13) rfl (tlt (by decide)).2.1 ?_
  refine Owe.aloadN X0.here hx (hb hby d5_16) rfl rfl ?_
  refine Owe.iload X0.here hx (hb hby d5_17) rfl ?_
  refine Owe.aaloadV X0 hx hZ e0 V_x1 rfl (v := (.ref rd)) (by decide) rfl (hb hby d5_19) rfl ?_
  refine Owe.astore X0.here hx (hb hby d5_20) rfl rfl (l' := #[.val (.ref x1), .val (.ref f1), .val .null, .val (.ref x1), .val (.int (2 : Int32)), .val (.int (0 : Int32)), .val (.ref rd)]) rfl ?_
  refine Owe.aloadN X0.here hx (hb hby d5_22) rfl rfl ?_
  refine Owe.aload X0.here hx (hb hby d5_23) rfl rfl ?_
  refine Owe.lamV X0 hx hZ (R' := ({ frames := 1, cells := 0, slots := 0, locals := 12 } : Room)) (host := "com/example/pickwright/pickwright/Routing") (C := "com/example/pickwright/pickwright/Routing") (xi := (⟨"java/util/function/Function", "apply", "(Ljava/lang/Object;)Ljava/lang/Object;"⟩ : MethodName)) (y := Y3) (σ := own_sig) hown (wd hw 107) (wd hw 108) (wd hw 109) (wd hw 110) (wd hw 111) (wd hw 112) (wd hw 102) (by decide +kernel) (by decide +kernel) rfl (by decide) (by decide) hmd hfn (E_rd.ext Ol.2) own_fwd rfl own_fd0 own_fd1 own_fd4 own_fd7 (fun s' args' bl hZq => (backOf (W := 0) (rmrtn l Z a0 hw [] rd rdw h0 n0 Z0 (F_name_rd.ext Ol.2)) hZq (wd hw 113) (wd hw 79) (by decide) (by decide))) (fun v h' L q => ⟨_, q.1, rfl⟩) (lenOf (L := [Value.null]) pd_1 rfl) (lenOf (L := []) pd_2 rfl) (by rw [hml]; rfl) rfl (hb hby d5_25) e0 (W := 0) (nb rfl) (by decide) (by decide) (by decide) (by decide) fun T73 v73 L73 X73 hQ73 => ?_
  obtain ⟨rfl, Nq73, e73⟩ := hQ73
  have N73 := Fr.app N0 Nq73
  refine Owe.castY X73 hx hZ hown (wd hw 116) e73 (Ins.self (E_rdw.ext Ol.2)) (hb hby d5_30) rfl fun T74 X74 e74 => ?_
  refine Owe.aloadN X74.here hx (hb hby d5_33) rfl rfl ?_
  refine Owe.virt X74 hx hZ (y := Y4) (z := Y4) hown (mvT hZ (wd hw 117)) (mvT hZ (wd hw 70)) (mvT hZ (wd hw 72)) (mvT hZ (wd hw 71)) (notFace_of_selects (args := #[]) (mvT hZ (wd hw 72))) (by decide) (backOf (W := 0) (rmeqn l Z a0 hw [] rdw h0 n0 Z0 ) hZ (wd hw 73) (wd hw 1) (by decide) (by decide)) (by rw [hml]; rfl) (a := rdw) (argsL := [.null]) (rest := []) (E_rdw.ext Ol.2) (lenOf pd_3 rfl) rfl (nb rfl) (hb hby d5_34) rfl e74 (by decide) (by decide) fun T75 v75 L75 X75 hQ75 => ?_
  obtain ⟨rfl, Nq75, e75⟩ := hQ75
  have N75 := Fr.app N73 Nq75
  refine Owe.ifYes X75.here hx (hb hby d5_37) rfl ((if0 _ _).trans (teq (by decide)).1) (pc' := 43) (by decide) (by decide) ?_
  refine Owe.iinc X75.here hx (hb hby d5_43) rfl (l' := #[.val (.ref x1), .val (.ref f1), .val .null, .val (.ref x1), .val (.int (2 : Int32)), .val (.int (1 : Int32)), .val (.ref rd)]) rfl ?_
  refine Owe.goto X75.here hx (hb hby d5_46) (pc' := 9) (by decide) (by decide) ?_
  refine Owe.iload X75.here hx (hb hby d5_9) rfl ?_
  refine Owe.iload X75.here hx (hb hby d5_11) rfl ?_
  refine Owe.icmpNo X75.here hx (hb hby d5_13) rfl (tlt (by decide)).2.1 ?_
  refine Owe.aloadN X75.here hx (hb hby d5_16) rfl rfl ?_
  refine Owe.iload X75.here hx (hb hby d5_17) rfl ?_
  refine Owe.aaloadV X75 hx hZ e75 V_x1 rfl (v := (.ref wt)) (by decide) rfl (hb hby d5_19) rfl ?_
  refine Owe.astore X75.here hx (hb hby d5_20) rfl rfl (l' := #[.val (.ref x1), .val (.ref f1), .val .null, .val (.ref x1), .val (.int (2 : Int32)), .val (.int (1 : Int32)), .val (.ref wt)]) rfl ?_
  refine Owe.aloadN X75.here hx (hb hby d5_22) rfl rfl ?_
  refine Owe.aload X75.here hx (hb hby d5_23) rfl rfl ?_
  refine Owe.lamV X75 hx hZ (R' := ({ frames := 1, cells := 0, slots := 0, locals := 12 } : Room)) (host := "com/example/pickwright/pickwright/Routing") (C := "com/example/pickwright/pickwright/Routing") (xi := (⟨"java/util/function/Function", "apply", "(Ljava/lang/Object;)Ljava/lang/Object;"⟩ : MethodName)) (y := Y3) (σ := own_sig) hown (wd hw 107) (wd hw 108) (wd hw 109) (wd hw 110) (wd hw 111) (wd hw 112) (wd hw 102) (by decide +kernel) (by decide +kernel) rfl (by decide) (by decide) hmd hfn (E_wt.ext Ol.2) own_fwd rfl own_fd0 own_fd1 own_fd4 own_fd7 (fun s' args' bl hZq => (backOf (W := 0) (rmrtn l Z a0 hw [] wt wtw h0 n0 Z0 (F_name_wt.ext Ol.2)) hZq (wd hw 113) (wd hw 79) (by decide) (by decide))) (fun v h' L q => ⟨_, q.1, rfl⟩) (lenOf (L := [Value.null]) pd_1 rfl) (lenOf (L := []) pd_2 rfl) (by rw [hml]; rfl) rfl (hb hby d5_25) e75 (W := 0) (nb rfl) (by decide) (by decide) (by decide) (by decide) fun T76 v76 L76 X76 hQ76 => ?_
  obtain ⟨rfl, Nq76, e76⟩ := hQ76
  have N76 := Fr.app N75 Nq76
  refine Owe.castY X76 hx hZ hown (wd hw 116) e76 (Ins.self (E_wtw.ext Ol.2)) (hb hby d5_30) rfl fun T77 X77 e77 => ?_
  refine Owe.aloadN X77.here hx (hb hby d5_33) rfl rfl ?_
  refine Owe.virt X77 hx hZ (y := Y4) (z := Y4) hown (mvT hZ (wd hw 117)) (mvT hZ (wd hw 70)) (mvT hZ (wd hw 72)) (mvT hZ (wd hw 71)) (notFace_of_selects (args := #[]) (mvT hZ (wd hw 72))) (by decide) (backOf (W := 0) (rmeqn l Z a0 hw [] wtw h0 n0 Z0 ) hZ (wd hw 73) (wd hw 1) (by decide) (by decide)) (by rw [hml]; rfl) (a := wtw) (argsL := [.null]) (rest := []) (E_wtw.ext Ol.2) (lenOf pd_3 rfl) rfl (nb rfl) (hb hby d5_34) rfl e77 (by decide) (by decide) fun T78 v78 L78 X78 hQ78 => ?_
  obtain ⟨rfl, Nq78, e78⟩ := hQ78
  have N78 := Fr.app N76 Nq78
  refine Owe.ifYes X78.here hx (hb hby d5_37) rfl ((if0 _ _).trans (teq (by decide)).1) (pc' := 43) (by decide) (by decide) ?_
  refine Owe.iinc X78.here hx (hb hby d5_43) rfl (l' := #[.val (.ref x1), .val (.ref f1), .val .null, .val (.ref x1), .val (.int (2 : Int32)), .val (.int (2 : Int32)), .val (.ref wt)]) rfl ?_
  refine Owe.goto X78.here hx (hb hby d5_46) (pc' := 9) (by decide) (by decide) ?_
  refine Owe.iload X78.here hx (hb hby d5_9) rfl ?_
  refine Owe.iload X78.here hx (hb hby d5_11) rfl ?_
  refine Owe.icmpYes X78.here hx (hb hby d5_13) rfl (flt (by decide)).2.1 (pc' := 49) (by decide) (by decide) ?_
  refine Owe.aconstNull X78.here hx (hb hby d5_49)  ?_
  refine Owe.retR X78 hx hlk (t := (.object "java/lang/Object")) hrt rfl rfl rfl (hb hby d5_50) rfl fun fs hE => ?_
  refine hG _ _ ⟨_, _, rfl, ?_, frameMono hE (by decide) (by decide)⟩
  show QchoN Z x1 k1 f1 cK G1 rd va wt rdw rdwv wtw wtwv k_va k_rdwv k_wtwv h0 n0 _ T78.heap _
  rw [e78]
  exact ⟨rfl, N78, rfl⟩
theorem d6_0 : decode prog_23_method_4_code 0 = .ok (.invokestatic 33, 3) := by decide +kernel
theorem d6_3 : decode prog_23_method_4_code 3 = .ok (.invokedynamic 37, 5) := by decide +kernel
theorem d6_8 : decode prog_23_method_4_code 8 = .ok (.aload_n 0, 1) := by decide +kernel
theorem d6_9 : decode prog_23_method_4_code 9 = .ok (.invokestatic 41, 3) := by decide +kernel
theorem d6_12 : decode prog_23_method_4_code 12 = .ok (.checkcast 1, 3) := by decide +kernel
theorem d6_15 : decode prog_23_method_4_code 15 = .ok (.areturn, 1) := by decide +kernel
theorem ef_gvr (m : MethodId) (x0 : Addr)  : entryFrame m #[(.ref x0)] 1 = mkF m 0 #[.val (.ref x0)] [] := by first | (simp [entryFrame, mkF, argsToLocals, Value.category]; done) | rfl
def Qgvr (Z : State) (a1 : Addr) (t1 : Addr) (kb1 : ClassId) (cs : List Int32) (G1 : Int32) (rd : Addr) (va : Addr) (wt : Addr) (rdw : Addr) (rdwv : Addr) (wtw : Addr) (wtwv : Addr) (k_va : ClassId) (k_rdwv : ClassId) (k_wtwv : ClassId) (h0 : Heap) (n0 : Nat) (v : Option Value) (h : Heap) (L : List Loc) : Prop := v = some (.ref rd) ∧ Fr n0 L ∧ Keep h0 h []
set_option maxRecDepth 65536 in
set_option maxHeartbeats 40000000 in
theorem rmgvr (l : Launch) (Z : State) (a0 : Array Value) (hw : Hw Z a0) (ws : List Jvm.Cond) (a1 : Addr) (t1 : Addr) (kb1 : ClassId) (cs : List Int32) (G1 : Int32) (rd : Addr) (va : Addr) (wt : Addr) (rdw : Addr) (rdwv : Addr) (wtw : Addr) (wtwv : Addr) (k_va : ClassId) (k_rdwv : ClassId) (k_wtwv : ClassId) (h0 : Heap) (n0 : Nat) (Z0 : n0 ≤ h0.size) (E_a1 : Exa Z h0 a1 "java/lang/String") (Fvalue_a1 : Fld Z h0 a1 "java/lang/String" "value" "[B" (.ref t1)) (Fcoder_a1 : Fld Z h0 a1 "java/lang/String" "coder" "B" (.int (0 : Int32))) (V_t1 : Arv Z h0 t1 kb1 .byte (Int32.ofNat cs.length) ((cs.map (fun c => c.toInt8.toInt32)).map Value.int) (.int (0 : Int32))) (Tx_a1 : (∀ c ∈ cs, ¬ c < 0 ∧ ¬ (255 : Int32) < c) ∧ cs.length ≤ 4000) (S_COMPACT_STRINGS : Sta Z Z.heap "java/lang/String" "COMPACT_STRINGS" "Z" (.int G1)) (cs0 : ¬ (G1 = (0 : Int32))) (Ol : Old Z n0 h0) (S_S_SHAPE : Sta Z Z.heap "com/example/pickwright/pickwright/Routing" "S_SHAPE" "Lcom/example/pickwright/pickwright/Routing;" (.ref rd)) (E_rd : Exa Z Z.heap rd "com/example/pickwright/pickwright/Routing") (S__VALUES : Sta Z Z.heap "com/example/pickwright/pickwright/Routing" "$VALUES" "[Lcom/example/pickwright/pickwright/Routing;" (.ref va)) (E_va : Exa Z Z.heap va "[Lcom/example/pickwright/pickwright/Routing;") (S_LARGEST_GAP : Sta Z Z.heap "com/example/pickwright/pickwright/Routing" "LARGEST_GAP" "Lcom/example/pickwright/pickwright/Routing;" (.ref wt)) (E_wt : Exa Z Z.heap wt "com/example/pickwright/pickwright/Routing") (F_name_rd : Fld Z Z.heap rd "com/example/pickwright/pickwright/Routing" "_name" "Ljava/lang/String;" (.ref rdw)) (E_rdw : Exa Z Z.heap rdw "java/lang/String") (Fcoder_rdw : Fld Z Z.heap rdw "java/lang/String" "coder" "B" (.int (0 : Int32))) (Fvalue_rdw : Fld Z Z.heap rdw "java/lang/String" "value" "[B" (.ref rdwv)) (F_name_wt : Fld Z Z.heap wt "com/example/pickwright/pickwright/Routing" "_name" "Ljava/lang/String;" (.ref wtw)) (E_wtw : Exa Z Z.heap wtw "java/lang/String") (Fcoder_wtw : Fld Z Z.heap wtw "java/lang/String" "coder" "B" (.int (0 : Int32))) (Fvalue_wtw : Fld Z Z.heap wtw "java/lang/String" "value" "[B" (.ref wtwv)) (V_va : Arv Z Z.heap va k_va (.object "com/example/pickwright/pickwright/Routing") (2 : Int32) [(.ref rd), (.ref wt)] .null) (V_rdwv : Arv Z Z.heap rdwv k_rdwv .byte (7 : Int32) ((([115, 45, 115, 104, 97, 112, 101] : List Int32).map (fun c => c.toInt8.toInt32)).map Value.int) (.int (0 : Int32))) (V_wtwv : Arv Z Z.heap wtwv k_wtwv .byte (11 : Int32) ((([108, 97, 114, 103, 101, 115, 116, 45, 103, 97, 112] : List Int32).map (fun c => c.toInt8.toInt32)).map Value.int) (.int (0 : Int32))) (Tx_rdw : (∀ c ∈ ([115, 45, 115, 104, 97, 112, 101] : List Int32), ¬ c < 0 ∧ ¬ (255 : Int32) < c) ∧ ([115, 45, 115, 104, 97, 112, 101] : List Int32).length ≤ 4000) (Tx_wtw : (∀ c ∈ ([108, 97, 114, 103, 101, 115, 116, 45, 103, 97, 112] : List Int32), ¬ c < 0 ∧ ¬ (255 : Int32) < c) ∧ ([108, 97, 114, 103, 101, 115, 116, 45, 103, 97, 112] : List Int32).length ≤ 4000) (hq0 : cs = ([115, 45, 115, 104, 97, 112, 101] : List Int32)) :
    MF l Z Y6 prog_23_method_4_code 1 (some (.object "com/example/pickwright/pickwright/Routing")) ws ({ frames := 3, cells := 1, slots := 2, locals := 3080 } : Room) #[(.ref a1)] h0 (Qgvr Z a1 t1 kb1 cs G1 rd va wt rdw rdwv wtw wtwv k_va k_rdwv k_wtwv h0 n0) := by
  refine MF.of pn_1 (fun m => ef_gvr m a1) ?_
  intro p e s m below meth c s₁ G X0 e0 hx hby hml hown hnm hlk hrt hZ hnd hG
  have N0 := Fr.nil n0
  have K0 := Keep.refl h0 []
  refine Owe.stat X0 hx (y := Y2) hown (mvT hZ (wd hw 84)) (mvT hZ (wd hw 85)) (mvT hZ (wd hw 79)) (mvT hZ (wd hw 86)) (by decide) (backOf (W := 0) (rmvls l Z a0 hw [] va k_va rd wt h0 n0 Z0 S__VALUES E_va V_va Ol) hZ (wd hw 86) (wd hw 79) (by decide) (by decide)) (by rw [hml]; rfl) (argsL := []) (rest := []) (lenOf pd_4 rfl) rfl (nb rfl) (hb hby d6_0) rfl e0 (by decide) (by decide) fun T79 v79 L79 X79 hQ79 => ?_
  obtain ⟨x1_79, rfl, Nq79, K79, ge_x1_79, fresh_x1_79, V_x1_79⟩ := hQ79
  have N79 := Fr.app N0 Nq79
  have K_80 := K0.trans K79 all0
  have E_a1_81 := E_a1.keep K79
  have Fvalue_a1_82 := Fvalue_a1.keep K79 nin0
  have Fcoder_a1_83 := Fcoder_a1.keep K79 nin0
  have V_t1_84 := V_t1.keep K79 nin0
  have Ol_85 := Ol.keep K79 all0
  have Z_86 := Nat.le_trans Z0 K79.1
  have ne_a1_x1_79 : a1 ≠ x1_79 := Nat.ne_of_lt (Nat.lt_of_lt_of_le E_a1.lt fresh_x1_79)
  have ne_t1_x1_79 : t1 ≠ x1_79 := Nat.ne_of_lt (Nat.lt_of_lt_of_le V_t1.lt fresh_x1_79)
  have sz_x1_79 := Nat.le_trans K0.1 fresh_x1_79
  refine Owe.site X79 hx hZ (x := Y6) (σ := own_sig) hnd (wd hw 100) rfl Ol_85 rfl (by rw [hml]; rfl) (hb hby d6_3) (W := 1) (nb rfl) (by decide) fun fo87 cK87 hmd87 hfn87 => ?_
  refine Owe.aloadN X79.here hx (hb hby d6_8) rfl rfl ?_
  refine Owe.stat X79 hx (y := Y5) hown (mvT hZ (wd hw 103)) (mvT hZ (wd hw 104)) (mvT hZ (wd hw 105)) (mvT hZ (wd hw 106)) (by decide) (backOf (W := 0) (rmchor l Z a0 hw [] x1_79 k_va fo87 cK87 a1 t1 kb1 cs G1 rd va wt rdw rdwv wtw wtwv k_va k_rdwv k_wtwv T79.heap n0 Z_86 V_x1_79 hmd87 hfn87 E_a1_81 Fvalue_a1_82 Fcoder_a1_83 V_t1_84 Tx_a1 S_COMPACT_STRINGS cs0 Ol_85 S_S_SHAPE E_rd S__VALUES E_va S_LARGEST_GAP E_wt F_name_rd E_rdw Fcoder_rdw Fvalue_rdw F_name_wt E_wtw Fcoder_wtw Fvalue_wtw V_va V_rdwv V_wtwv Tx_rdw Tx_wtw hq0) hZ (wd hw 106) (wd hw 105) (by decide) (by decide)) (by rw [hml]; rfl) (argsL := [(.ref x1_79), (.ref fo87), (.ref a1)]) (rest := []) (lenOf pd_5 rfl) rfl (nb rfl) (hb hby d6_9) rfl rfl (by decide) (by decide) fun T88 v88 L88 X88 hQ88 => ?_
  obtain ⟨rfl, Nq88, e88⟩ := hQ88
  have N88 := Fr.app N79 Nq88
  refine Owe.castY X88 hx hZ hown (wd hw 118) e88 (Ins.self (E_rd.ext Ol_85.2)) (hb hby d6_12) rfl fun T89 X89 e89 => ?_
  refine Owe.retR X89 hx hlk (t := (.object "com/example/pickwright/pickwright/Routing")) hrt rfl rfl rfl (hb hby d6_15) rfl fun fs hE => ?_
  refine hG _ _ ⟨_, _, rfl, ?_, frameMono hE (by decide) (by decide)⟩
  show Qgvr Z a1 t1 kb1 cs G1 rd va wt rdw rdwv wtw wtwv k_va k_rdwv k_wtwv h0 n0 _ T89.heap _
  rw [e89]
  exact ⟨rfl, N88, K_80⟩
theorem ef_gvw (m : MethodId) (x0 : Addr)  : entryFrame m #[(.ref x0)] 1 = mkF m 0 #[.val (.ref x0)] [] := by first | (simp [entryFrame, mkF, argsToLocals, Value.category]; done) | rfl
def Qgvw (Z : State) (a1 : Addr) (t1 : Addr) (kb1 : ClassId) (cs : List Int32) (G1 : Int32) (rd : Addr) (va : Addr) (wt : Addr) (rdw : Addr) (rdwv : Addr) (wtw : Addr) (wtwv : Addr) (k_va : ClassId) (k_rdwv : ClassId) (k_wtwv : ClassId) (h0 : Heap) (n0 : Nat) (v : Option Value) (h : Heap) (L : List Loc) : Prop := v = some (.ref wt) ∧ Fr n0 L ∧ Keep h0 h []
set_option maxRecDepth 65536 in
set_option maxHeartbeats 40000000 in
theorem rmgvw (l : Launch) (Z : State) (a0 : Array Value) (hw : Hw Z a0) (ws : List Jvm.Cond) (a1 : Addr) (t1 : Addr) (kb1 : ClassId) (cs : List Int32) (G1 : Int32) (rd : Addr) (va : Addr) (wt : Addr) (rdw : Addr) (rdwv : Addr) (wtw : Addr) (wtwv : Addr) (k_va : ClassId) (k_rdwv : ClassId) (k_wtwv : ClassId) (h0 : Heap) (n0 : Nat) (Z0 : n0 ≤ h0.size) (E_a1 : Exa Z h0 a1 "java/lang/String") (Fvalue_a1 : Fld Z h0 a1 "java/lang/String" "value" "[B" (.ref t1)) (Fcoder_a1 : Fld Z h0 a1 "java/lang/String" "coder" "B" (.int (0 : Int32))) (V_t1 : Arv Z h0 t1 kb1 .byte (Int32.ofNat cs.length) ((cs.map (fun c => c.toInt8.toInt32)).map Value.int) (.int (0 : Int32))) (Tx_a1 : (∀ c ∈ cs, ¬ c < 0 ∧ ¬ (255 : Int32) < c) ∧ cs.length ≤ 4000) (S_COMPACT_STRINGS : Sta Z Z.heap "java/lang/String" "COMPACT_STRINGS" "Z" (.int G1)) (cs0 : ¬ (G1 = (0 : Int32))) (Ol : Old Z n0 h0) (S_S_SHAPE : Sta Z Z.heap "com/example/pickwright/pickwright/Routing" "S_SHAPE" "Lcom/example/pickwright/pickwright/Routing;" (.ref rd)) (E_rd : Exa Z Z.heap rd "com/example/pickwright/pickwright/Routing") (S__VALUES : Sta Z Z.heap "com/example/pickwright/pickwright/Routing" "$VALUES" "[Lcom/example/pickwright/pickwright/Routing;" (.ref va)) (E_va : Exa Z Z.heap va "[Lcom/example/pickwright/pickwright/Routing;") (S_LARGEST_GAP : Sta Z Z.heap "com/example/pickwright/pickwright/Routing" "LARGEST_GAP" "Lcom/example/pickwright/pickwright/Routing;" (.ref wt)) (E_wt : Exa Z Z.heap wt "com/example/pickwright/pickwright/Routing") (F_name_rd : Fld Z Z.heap rd "com/example/pickwright/pickwright/Routing" "_name" "Ljava/lang/String;" (.ref rdw)) (E_rdw : Exa Z Z.heap rdw "java/lang/String") (Fcoder_rdw : Fld Z Z.heap rdw "java/lang/String" "coder" "B" (.int (0 : Int32))) (Fvalue_rdw : Fld Z Z.heap rdw "java/lang/String" "value" "[B" (.ref rdwv)) (F_name_wt : Fld Z Z.heap wt "com/example/pickwright/pickwright/Routing" "_name" "Ljava/lang/String;" (.ref wtw)) (E_wtw : Exa Z Z.heap wtw "java/lang/String") (Fcoder_wtw : Fld Z Z.heap wtw "java/lang/String" "coder" "B" (.int (0 : Int32))) (Fvalue_wtw : Fld Z Z.heap wtw "java/lang/String" "value" "[B" (.ref wtwv)) (V_va : Arv Z Z.heap va k_va (.object "com/example/pickwright/pickwright/Routing") (2 : Int32) [(.ref rd), (.ref wt)] .null) (V_rdwv : Arv Z Z.heap rdwv k_rdwv .byte (7 : Int32) ((([115, 45, 115, 104, 97, 112, 101] : List Int32).map (fun c => c.toInt8.toInt32)).map Value.int) (.int (0 : Int32))) (V_wtwv : Arv Z Z.heap wtwv k_wtwv .byte (11 : Int32) ((([108, 97, 114, 103, 101, 115, 116, 45, 103, 97, 112] : List Int32).map (fun c => c.toInt8.toInt32)).map Value.int) (.int (0 : Int32))) (Tx_rdw : (∀ c ∈ ([115, 45, 115, 104, 97, 112, 101] : List Int32), ¬ c < 0 ∧ ¬ (255 : Int32) < c) ∧ ([115, 45, 115, 104, 97, 112, 101] : List Int32).length ≤ 4000) (Tx_wtw : (∀ c ∈ ([108, 97, 114, 103, 101, 115, 116, 45, 103, 97, 112] : List Int32), ¬ c < 0 ∧ ¬ (255 : Int32) < c) ∧ ([108, 97, 114, 103, 101, 115, 116, 45, 103, 97, 112] : List Int32).length ≤ 4000) (hq0 : ¬ cs = ([115, 45, 115, 104, 97, 112, 101] : List Int32)) (hq1 : cs = ([108, 97, 114, 103, 101, 115, 116, 45, 103, 97, 112] : List Int32)) :
    MF l Z Y6 prog_23_method_4_code 1 (some (.object "com/example/pickwright/pickwright/Routing")) ws ({ frames := 3, cells := 1, slots := 2, locals := 3080 } : Room) #[(.ref a1)] h0 (Qgvw Z a1 t1 kb1 cs G1 rd va wt rdw rdwv wtw wtwv k_va k_rdwv k_wtwv h0 n0) := by
  refine MF.of pn_1 (fun m => ef_gvw m a1) ?_
  intro p e s m below meth c s₁ G X0 e0 hx hby hml hown hnm hlk hrt hZ hnd hG
  have N0 := Fr.nil n0
  have K0 := Keep.refl h0 []
  refine Owe.stat X0 hx (y := Y2) hown (mvT hZ (wd hw 84)) (mvT hZ (wd hw 85)) (mvT hZ (wd hw 79)) (mvT hZ (wd hw 86)) (by decide) (backOf (W := 0) (rmvls l Z a0 hw [] va k_va rd wt h0 n0 Z0 S__VALUES E_va V_va Ol) hZ (wd hw 86) (wd hw 79) (by decide) (by decide)) (by rw [hml]; rfl) (argsL := []) (rest := []) (lenOf pd_4 rfl) rfl (nb rfl) (hb hby d6_0) rfl e0 (by decide) (by decide) fun T90 v90 L90 X90 hQ90 => ?_
  obtain ⟨x1_90, rfl, Nq90, K90, ge_x1_90, fresh_x1_90, V_x1_90⟩ := hQ90
  have N90 := Fr.app N0 Nq90
  have K_91 := K0.trans K90 all0
  have E_a1_92 := E_a1.keep K90
  have Fvalue_a1_93 := Fvalue_a1.keep K90 nin0
  have Fcoder_a1_94 := Fcoder_a1.keep K90 nin0
  have V_t1_95 := V_t1.keep K90 nin0
  have Ol_96 := Ol.keep K90 all0
  have Z_97 := Nat.le_trans Z0 K90.1
  have ne_a1_x1_90 : a1 ≠ x1_90 := Nat.ne_of_lt (Nat.lt_of_lt_of_le E_a1.lt fresh_x1_90)
  have ne_t1_x1_90 : t1 ≠ x1_90 := Nat.ne_of_lt (Nat.lt_of_lt_of_le V_t1.lt fresh_x1_90)
  have sz_x1_90 := Nat.le_trans K0.1 fresh_x1_90
  refine Owe.site X90 hx hZ (x := Y6) (σ := own_sig) hnd (wd hw 100) rfl Ol_96 rfl (by rw [hml]; rfl) (hb hby d6_3) (W := 1) (nb rfl) (by decide) fun fo98 cK98 hmd98 hfn98 => ?_
  refine Owe.aloadN X90.here hx (hb hby d6_8) rfl rfl ?_
  refine Owe.stat X90 hx (y := Y5) hown (mvT hZ (wd hw 103)) (mvT hZ (wd hw 104)) (mvT hZ (wd hw 105)) (mvT hZ (wd hw 106)) (by decide) (backOf (W := 0) (rmchow l Z a0 hw [] x1_90 k_va fo98 cK98 a1 t1 kb1 cs G1 rd va wt rdw rdwv wtw wtwv k_va k_rdwv k_wtwv T90.heap n0 Z_97 V_x1_90 hmd98 hfn98 E_a1_92 Fvalue_a1_93 Fcoder_a1_94 V_t1_95 Tx_a1 S_COMPACT_STRINGS cs0 Ol_96 S_S_SHAPE E_rd S__VALUES E_va S_LARGEST_GAP E_wt F_name_rd E_rdw Fcoder_rdw Fvalue_rdw F_name_wt E_wtw Fcoder_wtw Fvalue_wtw V_va V_rdwv V_wtwv Tx_rdw Tx_wtw hq0 hq1) hZ (wd hw 106) (wd hw 105) (by decide) (by decide)) (by rw [hml]; rfl) (argsL := [(.ref x1_90), (.ref fo98), (.ref a1)]) (rest := []) (lenOf pd_5 rfl) rfl (nb rfl) (hb hby d6_9) rfl rfl (by decide) (by decide) fun T99 v99 L99 X99 hQ99 => ?_
  obtain ⟨rfl, Nq99, e99⟩ := hQ99
  have N99 := Fr.app N90 Nq99
  refine Owe.castY X99 hx hZ hown (wd hw 118) e99 (Ins.self (E_wt.ext Ol_96.2)) (hb hby d6_12) rfl fun T100 X100 e100 => ?_
  refine Owe.retR X100 hx hlk (t := (.object "com/example/pickwright/pickwright/Routing")) hrt rfl rfl rfl (hb hby d6_15) rfl fun fs hE => ?_
  refine hG _ _ ⟨_, _, rfl, ?_, frameMono hE (by decide) (by decide)⟩
  show Qgvw Z a1 t1 kb1 cs G1 rd va wt rdw rdwv wtw wtwv k_va k_rdwv k_wtwv h0 n0 _ T100.heap _
  rw [e100]
  exact ⟨rfl, N99, K_91⟩
theorem ef_gvn (m : MethodId) (x0 : Addr)  : entryFrame m #[(.ref x0)] 1 = mkF m 0 #[.val (.ref x0)] [] := by first | (simp [entryFrame, mkF, argsToLocals, Value.category]; done) | rfl
def Qgvn (Z : State) (a1 : Addr) (t1 : Addr) (kb1 : ClassId) (cs : List Int32) (G1 : Int32) (rd : Addr) (va : Addr) (wt : Addr) (rdw : Addr) (rdwv : Addr) (wtw : Addr) (wtwv : Addr) (k_va : ClassId) (k_rdwv : ClassId) (k_wtwv : ClassId) (h0 : Heap) (n0 : Nat) (v : Option Value) (h : Heap) (L : List Loc) : Prop := v = some .null ∧ Fr n0 L ∧ Keep h0 h []
set_option maxRecDepth 65536 in
set_option maxHeartbeats 40000000 in
theorem rmgvn (l : Launch) (Z : State) (a0 : Array Value) (hw : Hw Z a0) (ws : List Jvm.Cond) (a1 : Addr) (t1 : Addr) (kb1 : ClassId) (cs : List Int32) (G1 : Int32) (rd : Addr) (va : Addr) (wt : Addr) (rdw : Addr) (rdwv : Addr) (wtw : Addr) (wtwv : Addr) (k_va : ClassId) (k_rdwv : ClassId) (k_wtwv : ClassId) (h0 : Heap) (n0 : Nat) (Z0 : n0 ≤ h0.size) (E_a1 : Exa Z h0 a1 "java/lang/String") (Fvalue_a1 : Fld Z h0 a1 "java/lang/String" "value" "[B" (.ref t1)) (Fcoder_a1 : Fld Z h0 a1 "java/lang/String" "coder" "B" (.int (0 : Int32))) (V_t1 : Arv Z h0 t1 kb1 .byte (Int32.ofNat cs.length) ((cs.map (fun c => c.toInt8.toInt32)).map Value.int) (.int (0 : Int32))) (Tx_a1 : (∀ c ∈ cs, ¬ c < 0 ∧ ¬ (255 : Int32) < c) ∧ cs.length ≤ 4000) (S_COMPACT_STRINGS : Sta Z Z.heap "java/lang/String" "COMPACT_STRINGS" "Z" (.int G1)) (cs0 : ¬ (G1 = (0 : Int32))) (Ol : Old Z n0 h0) (S_S_SHAPE : Sta Z Z.heap "com/example/pickwright/pickwright/Routing" "S_SHAPE" "Lcom/example/pickwright/pickwright/Routing;" (.ref rd)) (E_rd : Exa Z Z.heap rd "com/example/pickwright/pickwright/Routing") (S__VALUES : Sta Z Z.heap "com/example/pickwright/pickwright/Routing" "$VALUES" "[Lcom/example/pickwright/pickwright/Routing;" (.ref va)) (E_va : Exa Z Z.heap va "[Lcom/example/pickwright/pickwright/Routing;") (S_LARGEST_GAP : Sta Z Z.heap "com/example/pickwright/pickwright/Routing" "LARGEST_GAP" "Lcom/example/pickwright/pickwright/Routing;" (.ref wt)) (E_wt : Exa Z Z.heap wt "com/example/pickwright/pickwright/Routing") (F_name_rd : Fld Z Z.heap rd "com/example/pickwright/pickwright/Routing" "_name" "Ljava/lang/String;" (.ref rdw)) (E_rdw : Exa Z Z.heap rdw "java/lang/String") (Fcoder_rdw : Fld Z Z.heap rdw "java/lang/String" "coder" "B" (.int (0 : Int32))) (Fvalue_rdw : Fld Z Z.heap rdw "java/lang/String" "value" "[B" (.ref rdwv)) (F_name_wt : Fld Z Z.heap wt "com/example/pickwright/pickwright/Routing" "_name" "Ljava/lang/String;" (.ref wtw)) (E_wtw : Exa Z Z.heap wtw "java/lang/String") (Fcoder_wtw : Fld Z Z.heap wtw "java/lang/String" "coder" "B" (.int (0 : Int32))) (Fvalue_wtw : Fld Z Z.heap wtw "java/lang/String" "value" "[B" (.ref wtwv)) (V_va : Arv Z Z.heap va k_va (.object "com/example/pickwright/pickwright/Routing") (2 : Int32) [(.ref rd), (.ref wt)] .null) (V_rdwv : Arv Z Z.heap rdwv k_rdwv .byte (7 : Int32) ((([115, 45, 115, 104, 97, 112, 101] : List Int32).map (fun c => c.toInt8.toInt32)).map Value.int) (.int (0 : Int32))) (V_wtwv : Arv Z Z.heap wtwv k_wtwv .byte (11 : Int32) ((([108, 97, 114, 103, 101, 115, 116, 45, 103, 97, 112] : List Int32).map (fun c => c.toInt8.toInt32)).map Value.int) (.int (0 : Int32))) (Tx_rdw : (∀ c ∈ ([115, 45, 115, 104, 97, 112, 101] : List Int32), ¬ c < 0 ∧ ¬ (255 : Int32) < c) ∧ ([115, 45, 115, 104, 97, 112, 101] : List Int32).length ≤ 4000) (Tx_wtw : (∀ c ∈ ([108, 97, 114, 103, 101, 115, 116, 45, 103, 97, 112] : List Int32), ¬ c < 0 ∧ ¬ (255 : Int32) < c) ∧ ([108, 97, 114, 103, 101, 115, 116, 45, 103, 97, 112] : List Int32).length ≤ 4000) (hq0 : ¬ cs = ([115, 45, 115, 104, 97, 112, 101] : List Int32)) (hq1 : ¬ cs = ([108, 97, 114, 103, 101, 115, 116, 45, 103, 97, 112] : List Int32)) :
    MF l Z Y6 prog_23_method_4_code 1 (some (.object "com/example/pickwright/pickwright/Routing")) ws ({ frames := 3, cells := 1, slots := 2, locals := 3080 } : Room) #[(.ref a1)] h0 (Qgvn Z a1 t1 kb1 cs G1 rd va wt rdw rdwv wtw wtwv k_va k_rdwv k_wtwv h0 n0) := by
  refine MF.of pn_1 (fun m => ef_gvn m a1) ?_
  intro p e s m below meth c s₁ G X0 e0 hx hby hml hown hnm hlk hrt hZ hnd hG
  have N0 := Fr.nil n0
  have K0 := Keep.refl h0 []
  refine Owe.stat X0 hx (y := Y2) hown (mvT hZ (wd hw 84)) (mvT hZ (wd hw 85)) (mvT hZ (wd hw 79)) (mvT hZ (wd hw 86)) (by decide) (backOf (W := 0) (rmvls l Z a0 hw [] va k_va rd wt h0 n0 Z0 S__VALUES E_va V_va Ol) hZ (wd hw 86) (wd hw 79) (by decide) (by decide)) (by rw [hml]; rfl) (argsL := []) (rest := []) (lenOf pd_4 rfl) rfl (nb rfl) (hb hby d6_0) rfl e0 (by decide) (by decide) fun T101 v101 L101 X101 hQ101 => ?_
  obtain ⟨x1_101, rfl, Nq101, K101, ge_x1_101, fresh_x1_101, V_x1_101⟩ := hQ101
  have N101 := Fr.app N0 Nq101
  have K_102 := K0.trans K101 all0
  have E_a1_103 := E_a1.keep K101
  have Fvalue_a1_104 := Fvalue_a1.keep K101 nin0
  have Fcoder_a1_105 := Fcoder_a1.keep K101 nin0
  have V_t1_106 := V_t1.keep K101 nin0
  have Ol_107 := Ol.keep K101 all0
  have Z_108 := Nat.le_trans Z0 K101.1
  have ne_a1_x1_101 : a1 ≠ x1_101 := Nat.ne_of_lt (Nat.lt_of_lt_of_le E_a1.lt fresh_x1_101)
  have ne_t1_x1_101 : t1 ≠ x1_101 := Nat.ne_of_lt (Nat.lt_of_lt_of_le V_t1.lt fresh_x1_101)
  have sz_x1_101 := Nat.le_trans K0.1 fresh_x1_101
  refine Owe.site X101 hx hZ (x := Y6) (σ := own_sig) hnd (wd hw 100) rfl Ol_107 rfl (by rw [hml]; rfl) (hb hby d6_3) (W := 1) (nb rfl) (by decide) fun fo109 cK109 hmd109 hfn109 => ?_
  refine Owe.aloadN X101.here hx (hb hby d6_8) rfl rfl ?_
  refine Owe.stat X101 hx (y := Y5) hown (mvT hZ (wd hw 103)) (mvT hZ (wd hw 104)) (mvT hZ (wd hw 105)) (mvT hZ (wd hw 106)) (by decide) (backOf (W := 0) (rmchon l Z a0 hw [] x1_101 k_va fo109 cK109 a1 t1 kb1 cs G1 rd va wt rdw rdwv wtw wtwv k_va k_rdwv k_wtwv T101.heap n0 Z_108 V_x1_101 hmd109 hfn109 E_a1_103 Fvalue_a1_104 Fcoder_a1_105 V_t1_106 Tx_a1 S_COMPACT_STRINGS cs0 Ol_107 S_S_SHAPE E_rd S__VALUES E_va S_LARGEST_GAP E_wt F_name_rd E_rdw Fcoder_rdw Fvalue_rdw F_name_wt E_wtw Fcoder_wtw Fvalue_wtw V_va V_rdwv V_wtwv Tx_rdw Tx_wtw hq0 hq1) hZ (wd hw 106) (wd hw 105) (by decide) (by decide)) (by rw [hml]; rfl) (argsL := [(.ref x1_101), (.ref fo109), (.ref a1)]) (rest := []) (lenOf pd_5 rfl) rfl (nb rfl) (hb hby d6_9) rfl rfl (by decide) (by decide) fun T110 v110 L110 X110 hQ110 => ?_
  obtain ⟨rfl, Nq110, e110⟩ := hQ110
  have N110 := Fr.app N101 Nq110
  refine Owe.castNull X110 hx (hb hby d6_12) rfl ?_
  refine Owe.retR X110 hx hlk (t := (.object "com/example/pickwright/pickwright/Routing")) hrt rfl rfl rfl (hb hby d6_15) rfl fun fs hE => ?_
  refine hG _ _ ⟨_, _, rfl, ?_, frameMono hE (by decide) (by decide)⟩
  show Qgvn Z a1 t1 kb1 cs G1 rd va wt rdw rdwv wtw wtwv k_va k_rdwv k_wtwv h0 n0 _ T110.heap _
  rw [e110]
  exact ⟨rfl, N110, K_102⟩
theorem ef_gvN (m : MethodId)   : entryFrame m #[.null] 1 = mkF m 0 #[.val .null] [] := by first | (simp [entryFrame, mkF, argsToLocals, Value.category]; done) | rfl
def QgvN (Z : State) (G1 : Int32) (rd : Addr) (va : Addr) (wt : Addr) (rdw : Addr) (rdwv : Addr) (wtw : Addr) (wtwv : Addr) (k_va : ClassId) (k_rdwv : ClassId) (k_wtwv : ClassId) (h0 : Heap) (n0 : Nat) (v : Option Value) (h : Heap) (L : List Loc) : Prop := v = some .null ∧ Fr n0 L ∧ Keep h0 h []
set_option maxRecDepth 65536 in
set_option maxHeartbeats 40000000 in
theorem rmgvN (l : Launch) (Z : State) (a0 : Array Value) (hw : Hw Z a0) (ws : List Jvm.Cond) (G1 : Int32) (rd : Addr) (va : Addr) (wt : Addr) (rdw : Addr) (rdwv : Addr) (wtw : Addr) (wtwv : Addr) (k_va : ClassId) (k_rdwv : ClassId) (k_wtwv : ClassId) (h0 : Heap) (n0 : Nat) (Z0 : n0 ≤ h0.size) (S_COMPACT_STRINGS : Sta Z Z.heap "java/lang/String" "COMPACT_STRINGS" "Z" (.int G1)) (cs0 : ¬ (G1 = (0 : Int32))) (Ol : Old Z n0 h0) (S_S_SHAPE : Sta Z Z.heap "com/example/pickwright/pickwright/Routing" "S_SHAPE" "Lcom/example/pickwright/pickwright/Routing;" (.ref rd)) (E_rd : Exa Z Z.heap rd "com/example/pickwright/pickwright/Routing") (S__VALUES : Sta Z Z.heap "com/example/pickwright/pickwright/Routing" "$VALUES" "[Lcom/example/pickwright/pickwright/Routing;" (.ref va)) (E_va : Exa Z Z.heap va "[Lcom/example/pickwright/pickwright/Routing;") (S_LARGEST_GAP : Sta Z Z.heap "com/example/pickwright/pickwright/Routing" "LARGEST_GAP" "Lcom/example/pickwright/pickwright/Routing;" (.ref wt)) (E_wt : Exa Z Z.heap wt "com/example/pickwright/pickwright/Routing") (F_name_rd : Fld Z Z.heap rd "com/example/pickwright/pickwright/Routing" "_name" "Ljava/lang/String;" (.ref rdw)) (E_rdw : Exa Z Z.heap rdw "java/lang/String") (Fcoder_rdw : Fld Z Z.heap rdw "java/lang/String" "coder" "B" (.int (0 : Int32))) (Fvalue_rdw : Fld Z Z.heap rdw "java/lang/String" "value" "[B" (.ref rdwv)) (F_name_wt : Fld Z Z.heap wt "com/example/pickwright/pickwright/Routing" "_name" "Ljava/lang/String;" (.ref wtw)) (E_wtw : Exa Z Z.heap wtw "java/lang/String") (Fcoder_wtw : Fld Z Z.heap wtw "java/lang/String" "coder" "B" (.int (0 : Int32))) (Fvalue_wtw : Fld Z Z.heap wtw "java/lang/String" "value" "[B" (.ref wtwv)) (V_va : Arv Z Z.heap va k_va (.object "com/example/pickwright/pickwright/Routing") (2 : Int32) [(.ref rd), (.ref wt)] .null) (V_rdwv : Arv Z Z.heap rdwv k_rdwv .byte (7 : Int32) ((([115, 45, 115, 104, 97, 112, 101] : List Int32).map (fun c => c.toInt8.toInt32)).map Value.int) (.int (0 : Int32))) (V_wtwv : Arv Z Z.heap wtwv k_wtwv .byte (11 : Int32) ((([108, 97, 114, 103, 101, 115, 116, 45, 103, 97, 112] : List Int32).map (fun c => c.toInt8.toInt32)).map Value.int) (.int (0 : Int32))) (Tx_rdw : (∀ c ∈ ([115, 45, 115, 104, 97, 112, 101] : List Int32), ¬ c < 0 ∧ ¬ (255 : Int32) < c) ∧ ([115, 45, 115, 104, 97, 112, 101] : List Int32).length ≤ 4000) (Tx_wtw : (∀ c ∈ ([108, 97, 114, 103, 101, 115, 116, 45, 103, 97, 112] : List Int32), ¬ c < 0 ∧ ¬ (255 : Int32) < c) ∧ ([108, 97, 114, 103, 101, 115, 116, 45, 103, 97, 112] : List Int32).length ≤ 4000) :
    MF l Z Y6 prog_23_method_4_code 1 (some (.object "com/example/pickwright/pickwright/Routing")) ws ({ frames := 3, cells := 1, slots := 2, locals := 3080 } : Room) #[.null] h0 (QgvN Z G1 rd va wt rdw rdwv wtw wtwv k_va k_rdwv k_wtwv h0 n0) := by
  refine MF.of pn_1 (fun m => ef_gvN m ) ?_
  intro p e s m below meth c s₁ G X0 e0 hx hby hml hown hnm hlk hrt hZ hnd hG
  have N0 := Fr.nil n0
  have K0 := Keep.refl h0 []
  refine Owe.stat X0 hx (y := Y2) hown (mvT hZ (wd hw 84)) (mvT hZ (wd hw 85)) (mvT hZ (wd hw 79)) (mvT hZ (wd hw 86)) (by decide) (backOf (W := 0) (rmvls l Z a0 hw [] va k_va rd wt h0 n0 Z0 S__VALUES E_va V_va Ol) hZ (wd hw 86) (wd hw 79) (by decide) (by decide)) (by rw [hml]; rfl) (argsL := []) (rest := []) (lenOf pd_4 rfl) rfl (nb rfl) (hb hby d6_0) rfl e0 (by decide) (by decide) fun T112 v112 L112 X112 hQ112 => ?_
  obtain ⟨x1_112, rfl, Nq112, K112, ge_x1_112, fresh_x1_112, V_x1_112⟩ := hQ112
  have N112 := Fr.app N0 Nq112
  have K_113 := K0.trans K112 all0
  have Ol_114 := Ol.keep K112 all0
  have Z_115 := Nat.le_trans Z0 K112.1
  have sz_x1_112 := Nat.le_trans K0.1 fresh_x1_112
  refine Owe.site X112 hx hZ (x := Y6) (σ := own_sig) hnd (wd hw 100) rfl Ol_114 rfl (by rw [hml]; rfl) (hb hby d6_3) (W := 1) (nb rfl) (by decide) fun fo116 cK116 hmd116 hfn116 => ?_
  refine Owe.aloadN X112.here hx (hb hby d6_8) rfl rfl ?_
  refine Owe.stat X112 hx (y := Y5) hown (mvT hZ (wd hw 103)) (mvT hZ (wd hw 104)) (mvT hZ (wd hw 105)) (mvT hZ (wd hw 106)) (by decide) (backOf (W := 0) (rmchoN l Z a0 hw [] x1_112 k_va fo116 cK116 G1 rd va wt rdw rdwv wtw wtwv k_va k_rdwv k_wtwv T112.heap n0 Z_115 V_x1_112 hmd116 hfn116 S_COMPACT_STRINGS cs0 Ol_114 S_S_SHAPE E_rd S__VALUES E_va S_LARGEST_GAP E_wt F_name_rd E_rdw Fcoder_rdw Fvalue_rdw F_name_wt E_wtw Fcoder_wtw Fvalue_wtw V_va V_rdwv V_wtwv Tx_rdw Tx_wtw) hZ (wd hw 106) (wd hw 105) (by decide) (by decide)) (by rw [hml]; rfl) (argsL := [(.ref x1_112), (.ref fo116), .null]) (rest := []) (lenOf pd_5 rfl) rfl (nb rfl) (hb hby d6_9) rfl rfl (by decide) (by decide) fun T117 v117 L117 X117 hQ117 => ?_
  obtain ⟨rfl, Nq117, e117⟩ := hQ117
  have N117 := Fr.app N112 Nq117
  refine Owe.castNull X117 hx (hb hby d6_12) rfl ?_
  refine Owe.retR X117 hx hlk (t := (.object "com/example/pickwright/pickwright/Routing")) hrt rfl rfl rfl (hb hby d6_15) rfl fun fs hE => ?_
  refine hG _ _ ⟨_, _, rfl, ?_, frameMono hE (by decide) (by decide)⟩
  show QgvN Z G1 rd va wt rdw rdwv wtw wtwv k_va k_rdwv k_wtwv h0 n0 _ T117.heap _
  rw [e117]
  exact ⟨rfl, N117, K_113⟩
theorem d7_0 : decode method_2_code 0 = .ok (.iload 4, 2) := by decide +kernel
theorem d7_2 : decode method_2_code 2 = .ok (.iconst 4, 1) := by decide +kernel
theorem d7_3 : decode method_2_code 3 = .ok (.if_icmp .ne 18, 3) := by decide +kernel
theorem d7_6 : decode method_2_code 6 = .ok (.iload 5, 2) := by decide +kernel
theorem d7_8 : decode method_2_code 8 = .ok (.bipush 8, 2) := by decide +kernel
theorem d7_10 : decode method_2_code 10 = .ok (.iload_n 1, 1) := by decide +kernel
theorem d7_11 : decode method_2_code 11 = .ok (.iconst 3, 1) := by decide +kernel
theorem d7_12 : decode method_2_code 12 = .ok (.iand, 1) := by decide +kernel
theorem d7_13 : decode method_2_code 13 = .ok (.imul, 1) := by decide +kernel
theorem d7_14 : decode method_2_code 14 = .ok (.iushr, 1) := by decide +kernel
theorem d7_15 : decode method_2_code 15 = .ok (.sipush 255, 3) := by decide +kernel
theorem d7_18 : decode method_2_code 18 = .ok (.iand, 1) := by decide +kernel
theorem d7_19 : decode method_2_code 19 = .ok (.i2c, 1) := by decide +kernel
theorem d7_20 : decode method_2_code 20 = .ok (.ireturn, 1) := by decide +kernel
theorem d7_21 : decode method_2_code 21 = .ok (.iload_n 1, 1) := by decide +kernel
theorem d7_22 : decode method_2_code 22 = .ok (.aload_n 0, 1) := by decide +kernel
theorem d7_23 : decode method_2_code 23 = .ok (.invokevirtual 7, 3) := by decide +kernel
theorem d7_26 : decode method_2_code 26 = .ok (.if_icmp .ge 18, 3) := by decide +kernel
theorem d7_29 : decode method_2_code 29 = .ok (.iload_n 1, 1) := by decide +kernel
theorem d7_30 : decode method_2_code 30 = .ok (.iload_n 2, 1) := by decide +kernel
theorem d7_31 : decode method_2_code 31 = .ok (.if_icmp .ne 7, 3) := by decide +kernel
theorem d7_34 : decode method_2_code 34 = .ok (.iload_n 3, 1) := by decide +kernel
theorem d7_35 : decode method_2_code 35 = .ok (.goto 8, 3) := by decide +kernel
theorem d7_38 : decode method_2_code 38 = .ok (.aload_n 0, 1) := by decide +kernel
theorem d7_39 : decode method_2_code 39 = .ok (.iload_n 1, 1) := by decide +kernel
theorem d7_40 : decode method_2_code 40 = .ok (.invokevirtual 13, 3) := by decide +kernel
theorem d7_43 : decode method_2_code 43 = .ok (.ireturn, 1) := by decide +kernel
theorem d7_44 : decode method_2_code 44 = .ok (.iload_n 3, 1) := by decide +kernel
theorem d7_45 : decode method_2_code 45 = .ok (.ireturn, 1) := by decide +kernel
theorem pn_3 : plainName "com/example/pickwright/pickwright/RoutingNamedPinLaw" = true := by first | (simp [plainName, overriddenIn]; done) | decide +kernel
theorem ef_at (m : MethodId) (x0 : Addr) (x1 : Int32) (x2 : Int32) (x3 : Int32) (x4 : Int32) (x5 : Int32)  : entryFrame m #[(.ref x0), (.int x1), (.int x2), (.int x3), (.int x4), (.int x5)] 6 = mkF m 0 #[.val (.ref x0), .val (.int x1), .val (.int x2), .val (.int x3), .val (.int x4), .val (.int x5)] [] := by first | (simp [entryFrame, mkF, argsToLocals, Value.category]; done) | rfl
def Qat (Z : State) (a1 : Addr) (t1 : Addr) (kb1 : ClassId) (cs : List Int32) (i1 : Int32) (ps : Int32) (c1 : Int32) (md : Int32) (x1 : Int32) (G1 : Int32) (fm : Value) (h0 : Heap) (n0 : Nat) (v : Option Value) (h : Heap) (L : List Loc) : Prop := ∃ (cv : Int32), v = some (.int cv) ∧ Fr n0 L ∧ h = h0 ∧ ¬ cv < 0 ∧ ¬ (255 : Int32) < cv
set_option maxRecDepth 65536 in
set_option maxHeartbeats 40000000 in
theorem rmat (l : Launch) (Z : State) (a0 : Array Value) (hw : Hw Z a0) (ws : List Jvm.Cond) (a1 : Addr) (t1 : Addr) (kb1 : ClassId) (cs : List Int32) (i1 : Int32) (ps : Int32) (c1 : Int32) (md : Int32) (x1 : Int32) (G1 : Int32) (fm : Value) (h0 : Heap) (n0 : Nat) (Z0 : n0 ≤ h0.size) (E_a1 : Exa Z h0 a1 "java/lang/String") (Fvalue_a1 : Fld Z h0 a1 "java/lang/String" "value" "[B" (.ref t1)) (Fcoder_a1 : Fld Z h0 a1 "java/lang/String" "coder" "B" (.int (0 : Int32))) (V_t1 : Arv Z h0 t1 kb1 .byte (Int32.ofNat cs.length) ((cs.map (fun c => c.toInt8.toInt32)).map Value.int) (.int (0 : Int32))) (Tx_a1 : (∀ c ∈ cs, ¬ c < 0 ∧ ¬ (255 : Int32) < c) ∧ cs.length ≤ 4000) (S_COMPACT_STRINGS : Sta Z Z.heap "java/lang/String" "COMPACT_STRINGS" "Z" (.int G1)) (cs0 : ¬ (G1 = (0 : Int32))) (Ol : Old Z n0 h0) (S_SIOOBE_FORMATTER : Sta Z Z.heap "jdk/internal/util/Preconditions" "SIOOBE_FORMATTER" "Ljava/util/function/BiFunction;" fm) (ir_fm : (fm).isRef = true) (hi0 : ¬ i1 < 0) (hcb : ¬ c1 < 0 ∧ ¬ (255 : Int32) < c1) :
    MF l Z Y7 method_2_code 6 (some .char) ws ({ frames := 4, cells := 0, slots := 0, locals := 56 } : Room) #[(.ref a1), (.int i1), (.int ps), (.int c1), (.int md), (.int x1)] h0 (Qat Z a1 t1 kb1 cs i1 ps c1 md x1 G1 fm h0 n0) := by
  refine MF.of pn_3 (fun m => ef_at m a1 i1 ps c1 md x1) ?_
  intro p e s m below meth c s₁ G X0 e0 hx hby hml hown hnm hlk hrt hZ hnd hG
  have N0 := Fr.nil n0
  refine Owe.iload X0.here hx (hb hby d7_0) rfl ?_
  refine Owe.iconst X0.here hx (hb hby d7_2) (w := (4 : Int32)) rfl ?_
  by_cases hc3_119 : md = (4 : Int32)
  · skip
    refine Owe.icmpNo X0.here hx (hb hby d7_3) rfl (teq hc3_119).2 ?_
    refine Owe.iload X0.here hx (hb hby d7_6) rfl ?_
    refine Owe.bipush X0.here hx (hb hby d7_8) (w := (8 : Int32)) rfl ?_
    refine Owe.iloadN X0.here hx (hb hby d7_10) rfl ?_
    refine Owe.iconst X0.here hx (hb hby d7_11) (w := (3 : Int32)) rfl ?_
    refine Owe.iand X0.here hx (hb hby d7_12) rfl ?_
    refine Owe.imul X0.here hx (hb hby d7_13) rfl ?_
    refine Owe.iushr X0.here hx (hb hby d7_14) rfl ?_
    refine Owe.sipush X0.here hx (hb hby d7_15) (w := (255 : Int32)) rfl ?_
    refine Owe.iand X0.here hx (hb hby d7_18) rfl ?_
    refine Owe.i2c X0.here hx (hb hby d7_19) rfl ?_
    refine Owe.retN X0 hx hlk (t := .char) hrt (by simp) (hb hby d7_20) rfl fun fs hE => ?_
    refine hG _ _ ⟨_, _, rfl, ?_, frameMono hE (by decide) (by decide)⟩
    show Qat Z a1 t1 kb1 cs i1 ps c1 md x1 G1 fm h0 n0 _ s₁.heap _
    rw [e0]
    exact ⟨(nar .char ((((x1.toUInt32 >>> (((8 : Int32) * (i1 &&& (3 : Int32))) &&& 31).toUInt32).toInt32) &&& (255 : Int32)).toUInt32.toUInt16.toUInt32.toInt32)), rfl, N0, rfl, own_nar2 (own_c255 _)⟩
  · skip
    refine Owe.icmpYes X0.here hx (hb hby d7_3) rfl (feq hc3_119).2 (pc' := 21) (by decide) (by decide) ?_
    refine Owe.iloadN X0.here hx (hb hby d7_21) rfl ?_
    refine Owe.aloadN X0.here hx (hb hby d7_22) rfl rfl ?_
    have hcd120 : StrChars.Road.CodA cs 0 (Int32.ofNat cs.length) ((cs.map (fun c => c.toInt8.toInt32)).map Value.int) := StrChars.Road.codOf (n := cs.length) rfl (fun x hx => (Tx_a1.1 x hx).2)
    have hbd120 := up cs Tx_a1.1
    refine Owe.virt X0 hx hZ (y := Y8) (z := Y8) (Q := fun v h' L => v = some (.int (Int32.ofNat cs.length)) ∧ L = [] ∧ h' = h0) (kc := 0) (ks := 0) hown (mvT hZ (wd hw 8)) (mvT hZ (wd hw 9)) (mvT hZ (wd hw 11)) (mvT hZ (wd hw 10)) (notFace_of_selects (args := #[]) (mvT hZ (wd hw 11))) (by decide) (StrChars.Road.lenW (W := 1) hZ (own_hln hw) (kI := 4) (wd hw 2) E_a1 Fvalue_a1 Fcoder_a1 V_t1 hcd120 hbd120 (S_COMPACT_STRINGS.ext Ol.2) cs0 Tx_a1.2 (by decide) (by decide)) (by rw [hml]; rfl) (a := a1) (argsL := []) (rest := [(.int i1)]) E_a1 (lenOf pd_6 rfl) rfl (nb rfl) (hb hby d7_23) rfl e0 (by decide) (by decide) fun T121 v121 L121 X121 hQ121 => ?_
    obtain ⟨rfl, rfl, e121⟩ := hQ121
    have N121 := Fr.app N0 (Fr.nil n0)
    by_cases hc26_122 : i1 < (Int32.ofNat cs.length)
    · skip
      refine Owe.icmpNo X121.here hx (hb hby d7_26) rfl (tlt hc26_122).2.1 ?_
      refine Owe.iloadN X121.here hx (hb hby d7_29) rfl ?_
      refine Owe.iloadN X121.here hx (hb hby d7_30) rfl ?_
      by_cases hc31_123 : i1 = ps
      · skip
        refine Owe.icmpNo X121.here hx (hb hby d7_31) rfl (teq hc31_123).2 ?_
        refine Owe.iloadN X121.here hx (hb hby d7_34) rfl ?_
        refine Owe.goto X121.here hx (hb hby d7_35) (pc' := 43) (by decide) (by decide) ?_
        refine Owe.retN X121 hx hlk (t := .char) hrt (by simp) (hb hby d7_43) rfl fun fs hE => ?_
        refine hG _ _ ⟨_, _, rfl, ?_, frameMono hE (by decide) (by decide)⟩
        show Qat Z a1 t1 kb1 cs i1 ps c1 md x1 G1 fm h0 n0 _ T121.heap _
        rw [e121]
        exact ⟨(nar .char c1), rfl, N121, rfl, own_nar2 hcb⟩
      · skip
        refine Owe.icmpYes X121.here hx (hb hby d7_31) rfl (feq hc31_123).2 (pc' := 38) (by decide) (by decide) ?_
        refine Owe.aloadN X121.here hx (hb hby d7_38) rfl rfl ?_
        refine Owe.iloadN X121.here hx (hb hby d7_39) rfl ?_
        have hcd124 : StrChars.Road.CodA cs 0 (Int32.ofNat cs.length) ((cs.map (fun c => c.toInt8.toInt32)).map Value.int) := StrChars.Road.codOf (n := cs.length) rfl (fun x hx => (Tx_a1.1 x hx).2)
        have hbd124 := up cs Tx_a1.1
        have hig := own_ig hi0 hc26_122 Tx_a1.2
        refine Owe.virt X121 hx hZ (y := Y9) (z := Y9) (Q := fun v h' L => v = some (.int (cs.getD i1.toNatClampNeg 0)) ∧ L = [] ∧ h' = h0) (kc := 0) (ks := 0) hown (mvT hZ (wd hw 26)) (mvT hZ (wd hw 27)) (mvT hZ (wd hw 29)) (mvT hZ (wd hw 28)) (notFace_of_selects (args := #[]) (mvT hZ (wd hw 29))) (by decide) (StrChars.Road.chN (W := 0) hZ (own_hch hw) (kI := 4) (wd hw 2) E_a1 Fvalue_a1 Fcoder_a1 V_t1 hcd124 hbd124 (S_COMPACT_STRINGS.ext Ol.2) cs0 (S_SIOOBE_FORMATTER.ext Ol.2) ir_fm Tx_a1.2 (i := i1.toNatClampNeg) hig.1 (j := i1) hig.2 (by decide) (by decide)) (by rw [hml]; rfl) (a := a1) (argsL := [(.int i1)]) (rest := []) E_a1 (lenOf pd_7 rfl) rfl (nb rfl) (hb hby d7_40) rfl e121 (by decide) (by decide) fun T125 v125 L125 X125 hQ125 => ?_
        obtain ⟨rfl, rfl, e125⟩ := hQ125
        have N125 := Fr.app N121 (Fr.nil n0)
        refine Owe.retN X125 hx hlk (t := .char) hrt (by simp) (hb hby d7_43) rfl fun fs hE => ?_
        refine hG _ _ ⟨_, _, rfl, ?_, frameMono hE (by decide) (by decide)⟩
        show Qat Z a1 t1 kb1 cs i1 ps c1 md x1 G1 fm h0 n0 _ T125.heap _
        rw [e125]
        exact ⟨(nar .char (cs.getD i1.toNatClampNeg 0)), rfl, N125, rfl, own_nar2 (own_getb Tx_a1.1 hig.1)⟩
    · skip
      refine Owe.icmpYes X121.here hx (hb hby d7_26) rfl (flt hc26_122).2.1 (pc' := 44) (by decide) (by decide) ?_
      refine Owe.iloadN X121.here hx (hb hby d7_44) rfl ?_
      refine Owe.retN X121 hx hlk (t := .char) hrt (by simp) (hb hby d7_45) rfl fun fs hE => ?_
      refine hG _ _ ⟨_, _, rfl, ?_, frameMono hE (by decide) (by decide)⟩
      show Qat Z a1 t1 kb1 cs i1 ps c1 md x1 G1 fm h0 n0 _ T121.heap _
      rw [e121]
      exact ⟨(nar .char c1), rfl, N121, rfl, own_nar2 hcb⟩
theorem ef_0 (m : MethodId) (x0 : Int32) (x1 : Int32) (x2 : Int32) (x3 : Int32)  : entryFrame m #[(.int x0), (.int x1), (.int x2), (.int x3)] maxLocals = mkF m 0 #[.val (.int x0), .val (.int x1), .val (.int x2), .val (.int x3), .unset, .unset, .unset, .unset, .unset, .unset, .unset, .unset] [] := by first | (simp [entryFrame, mkF, argsToLocals, Value.category, maxLocals]; done) | rfl
def Q0 (Z : State) (p1 : Int32) (p2 : Int32) (p3 : Int32) (p4 : Int32) (fm : Value) (G1 : Int32) (rd : Addr) (va : Addr) (wt : Addr) (rdw : Addr) (rdwv : Addr) (wtw : Addr) (wtwv : Addr) (k_va : ClassId) (k_rdwv : ClassId) (k_wtwv : ClassId) (h0 : Heap) (n0 : Nat) (v : Option Value) (h : Heap) (L : List Loc) : Prop := v = some (.int 1) ∧ Fr n0 L
set_option maxRecDepth 65536 in
set_option maxHeartbeats 40000000 in
theorem rm0 (l : Launch) (Z : State) (a0 : Array Value) (hw : Hw Z a0) (ws : List Jvm.Cond) (p1 : Int32) (p2 : Int32) (p3 : Int32) (p4 : Int32) (fm : Value) (G1 : Int32) (rd : Addr) (va : Addr) (wt : Addr) (rdw : Addr) (rdwv : Addr) (wtw : Addr) (wtwv : Addr) (k_va : ClassId) (k_rdwv : ClassId) (k_wtwv : ClassId) (h0 : Heap) (n0 : Nat) (Z0 : n0 ≤ h0.size) (S_COMPACT_STRINGS : Sta Z Z.heap "java/lang/String" "COMPACT_STRINGS" "Z" (.int G1)) (cs0 : ¬ (G1 = (0 : Int32))) (Ol : Old Z n0 h0) (S_SIOOBE_FORMATTER : Sta Z Z.heap "jdk/internal/util/Preconditions" "SIOOBE_FORMATTER" "Ljava/util/function/BiFunction;" fm) (ir_fm : (fm).isRef = true) (S_S_SHAPE : Sta Z Z.heap "com/example/pickwright/pickwright/Routing" "S_SHAPE" "Lcom/example/pickwright/pickwright/Routing;" (.ref rd)) (E_rd : Exa Z Z.heap rd "com/example/pickwright/pickwright/Routing") (S__VALUES : Sta Z Z.heap "com/example/pickwright/pickwright/Routing" "$VALUES" "[Lcom/example/pickwright/pickwright/Routing;" (.ref va)) (E_va : Exa Z Z.heap va "[Lcom/example/pickwright/pickwright/Routing;") (S_LARGEST_GAP : Sta Z Z.heap "com/example/pickwright/pickwright/Routing" "LARGEST_GAP" "Lcom/example/pickwright/pickwright/Routing;" (.ref wt)) (E_wt : Exa Z Z.heap wt "com/example/pickwright/pickwright/Routing") (F_name_rd : Fld Z Z.heap rd "com/example/pickwright/pickwright/Routing" "_name" "Ljava/lang/String;" (.ref rdw)) (E_rdw : Exa Z Z.heap rdw "java/lang/String") (Fcoder_rdw : Fld Z Z.heap rdw "java/lang/String" "coder" "B" (.int (0 : Int32))) (Fvalue_rdw : Fld Z Z.heap rdw "java/lang/String" "value" "[B" (.ref rdwv)) (F_name_wt : Fld Z Z.heap wt "com/example/pickwright/pickwright/Routing" "_name" "Ljava/lang/String;" (.ref wtw)) (E_wtw : Exa Z Z.heap wtw "java/lang/String") (Fcoder_wtw : Fld Z Z.heap wtw "java/lang/String" "coder" "B" (.int (0 : Int32))) (Fvalue_wtw : Fld Z Z.heap wtw "java/lang/String" "value" "[B" (.ref wtwv)) (V_va : Arv Z Z.heap va k_va (.object "com/example/pickwright/pickwright/Routing") (2 : Int32) [(.ref rd), (.ref wt)] .null) (V_rdwv : Arv Z Z.heap rdwv k_rdwv .byte (7 : Int32) ((([115, 45, 115, 104, 97, 112, 101] : List Int32).map (fun c => c.toInt8.toInt32)).map Value.int) (.int (0 : Int32))) (V_wtwv : Arv Z Z.heap wtwv k_wtwv .byte (11 : Int32) ((([108, 97, 114, 103, 101, 115, 116, 45, 103, 97, 112] : List Int32).map (fun c => c.toInt8.toInt32)).map Value.int) (.int (0 : Int32))) (Tx_rdw : (∀ c ∈ ([115, 45, 115, 104, 97, 112, 101] : List Int32), ¬ c < 0 ∧ ¬ (255 : Int32) < c) ∧ ([115, 45, 115, 104, 97, 112, 101] : List Int32).length ≤ 4000) (Tx_wtw : (∀ c ∈ ([108, 97, 114, 103, 101, 115, 116, 45, 103, 97, 112] : List Int32), ¬ c < 0 ∧ ¬ (255 : Int32) < c) ∧ ([108, 97, 114, 103, 101, 115, 116, 45, 103, 97, 112] : List Int32).length ≤ 4000) :
    MetFree l x (head1 (Jvm.Cond.code x code maxLocals ret :: ws) room_1) (fun a U => a = #[(.int p1), (.int p2), (.int p3), (.int p4)] ∧ Z.Warmed39 U.vm ∧ U.heap = h0 ∧ CHv Z own_EL U.vm h0) (fun _ _ _ _ _ => True) (fun _ U o U' => ∃ v L, o = .returned v ∧ Q0 Z p1 p2 p3 p4 fm G1 rd va wt rdw rdwv wtw wtwv k_va k_rdwv k_wtwv h0 n0 v U'.heap L ∧ CHr Z own_EL U.vm U.heap U'.vm U'.heap ∧ ReturnedEndW U o U' L room_1.cells room_1.slots) := by
  refine MetFree.of_bodySF (plainFor_of_name pn_3) hisR ?_
  intro p e s m args below meth c s₁ Bd hml0 hP hK
  obtain ⟨rfl, hZ0, hh, H0⟩ := hP
  have hx := Bd.exec
  have hby := Bd.bytes
  have hml : c.maxLocals = 12 := hml0
  have hown : s.vm.findClass "com/example/pickwright/pickwright/RoutingNamedPinLaw" = some m.cls := findClass_of_methodNamed Bd.named
  have hnm := (name_of_methodNamed Bd.named Bd.method).1
  have hlk : meth.locks = false := BodyLoose.notSynchronized Bd
  have X0 : Stand p l e room_1 (s.setVm s.vm) m #[(.int p1), (.int p2), (.int p3), (.int p4)] below meth c s₁ [] 0 0 := Stand.of_body Bd
  have e0 : s₁.heap = h0 := by rw [← hh, Bd.state]; rfl
  have N0 := Fr.nil n0
  have hrt := Bd.returns
  have hZ : Z.Warmed39 (s.setVm s.vm).vm := hZ0
  have hown1 : (s.setVm s.vm).vm.findClass "com/example/pickwright/pickwright/RoutingNamedPinLaw" = some m.cls := hown
  have hS0 : s.Since s.vm 0 := (State.WarmedH.refl s).since 0
  have hk0 : 0 ≤ h0.size := Nat.zero_le _
  have R0 : CHr Z own_EL s.vm h0 s.vm h0 := CHr.refl H0
  obtain ⟨G, hG⟩ : ∃ G : Outcome → State → Prop, G = fun o u => ∃ v L, o = .returned v ∧ Q0 Z p1 p2 p3 p4 fm G1 rd va wt rdw rdwv wtw wtwv k_va k_rdwv k_wtwv h0 n0 v u.heap L ∧ CHr Z own_EL s.vm s.heap u.vm u.heap ∧ ReturnedEndW s o u L room_1.cells room_1.slots := ⟨_, rfl⟩
  suffices hgo : Owe p.tables e below G s₁ (mkF m 0 #[.val (.int p1), .val (.int p2), .val (.int p3), .val (.int p4), .unset, .unset, .unset, .unset, .unset, .unset, .unset, .unset] []) by
    obtain ⟨u, o, h1, h2, h3, h4⟩ := hgo
    exact ⟨u, o, castTop (ef_0 m p1 p2 p3 p4) h1, h2, h3, by rw [hG] at h4; exact h4⟩
  have hws : ∀ d ∈ StrChars.Road.words, d.before a0 Z = true := fun d hd => hw d (own_words d hd)
  have cut417 : ∀ (Tt : State) (ht : Heap) (vmt : Vm) (kt : Nat) (locst : List Loc) (xs ts : Addr) (ks : ClassId) (cs : List Int32) (l4 l11 : Addr) (l5 l6 l7 l8 l9 : Int32), Stand p l e room_1 (s.setVm vmt) m #[(.int p1), (.int p2), (.int p3), (.int p4)] below meth c Tt locst 12 300 → Tt.heap = ht → s.Since vmt kt → kt ≤ ht.size → Z.Warmed39 (s.setVm vmt).vm → (s.setVm vmt).vm.findClass "com/example/pickwright/pickwright/RoutingNamedPinLaw" = some m.cls → Fr n0 locst → n0 ≤ ht.size → Old Z n0 ht → CHv Z own_EL vmt ht → CHr Z own_EL s.vm h0 vmt ht → (Exa Z ht xs "java/lang/String") → (Fld Z ht xs "java/lang/String" "value" "[B" (.ref ts)) → (Fld Z ht xs "java/lang/String" "coder" "B" (.int (0 : Int32))) → (Arv Z ht ts ks .byte (Int32.ofNat cs.length) ((cs.map (fun c => c.toInt8.toInt32)).map Value.int) (.int (0 : Int32))) → ((∀ c ∈ cs, ¬ c < 0 ∧ ¬ (255 : Int32) < c) ∧ cs.length ≤ 4000) → Owe p.tables e below G Tt (mkF m 417 #[.val (.int p1), .val (.int p2), .val (.int p3), .val (.int p4), .val (.ref l4), .val (.int l5), .val (.int l6), .val (.int l7), .val (.int l8), .val (.int l9), .val (.ref xs), .val (.ref l11)] []) := by
    intro Tt ht vmt kt locst xs ts ks cs l4 l11 l5 l6 l7 l8 l9 Xt et hSt hkt hZt hownt Nt Zt Ot Ht Rt Es Fvs Fcs Vs Txs
    by_cases hr : cs = ([115, 45, 115, 104, 97, 112, 101] : List Int32)
    · have hw2 : ¬ cs = ([108, 97, 114, 103, 101, 115, 116, 45, 103, 97, 112] : List Int32) := by rw [hr]; decide
      refine Owe.aload Xt.here hx (hb hby at_417) rfl rfl ?_
      refine Owe.ifnonnullYes Xt.here hx (hb hby at_419) rfl (pc' := 428) (by decide) (by decide) ?_
      refine Owe.aload Xt.here hx (hb hby at_428) rfl rfl ?_
      refine Owe.ldcV Xt hx hZt hSt (own_ew hw) Ht (by decide) hownt (wd hw 0) (own_wS hw) et hkt (vs := ((([115, 45, 115, 104, 97, 112, 101] : List Int32).map (fun c => c.toInt8.toInt32)).map Value.int)) (z := (7 : Int32)) (by decide) (by decide) rfl (hb hby at_430) (n := 28) (by decide) (by decide) (by decide) (by decide) fun l126 T126 h126 k126 lb126 lk126 X126 e126 E126 hS126 hk126 hZ126 hown126 Ex126 Fc126 Fv126 Vb126 hC126 Lt126 nsf126 => ?_
      have hk127 := Nat.le_trans hkt E126.1
      have Ot_128 := Ot.ext E126
      have Es_129 := Es.ext E126
      have Fvs_130 := Fvs.ext E126
      have Fcs_131 := Fcs.ext E126
      have Vs_132 := Vs.ext E126
      have Z_133 := Nat.le_trans Zt E126.1
      have Rr126 := Rt.trans hC126
      have H126 := hC126.1
      have Tx126 : (∀ c ∈ ([115, 45, 115, 104, 97, 112, 101] : List Int32), ¬ c < 0 ∧ ¬ (255 : Int32) < c) ∧ ([115, 45, 115, 104, 97, 112, 101] : List Int32).length ≤ 4000 := ⟨by decide, Nat.le_of_ble_eq_true rfl⟩
      have hcd134 : StrChars.Road.CodA cs 0 (Int32.ofNat cs.length) ((cs.map (fun c => c.toInt8.toInt32)).map Value.int) := StrChars.Road.codOf (n := cs.length) rfl (fun x hx => (Txs.1 x hx).2)
      have hbd134 := up cs Txs.1
      have hcd135 : StrChars.Road.CodA ([115, 45, 115, 104, 97, 112, 101] : List Int32) 0 (7 : Int32) ((([115, 45, 115, 104, 97, 112, 101] : List Int32).map (fun c => c.toInt8.toInt32)).map Value.int) := StrChars.Road.codOf (n := 7) rfl (fun x hx => (Tx126.1 x hx).2)
      have hbd135 := up ([115, 45, 115, 104, 97, 112, 101] : List Int32) Tx126.1
      refine Owe.virt X126 hx hZ126 (y := Y4) (z := Y4) (Q := fun v h' L => ((v = some (.int 1) ∧ cs = ([115, 45, 115, 104, 97, 112, 101] : List Int32)) ∨ (v = some (.int 0) ∧ ¬ cs = ([115, 45, 115, 104, 97, 112, 101] : List Int32))) ∧ L = [] ∧ h' = h126) (kc := 0) (ks := 0) hown126 (mvT hZ126 (wd hw 69)) (mvT hZ126 (wd hw 70)) (mvT hZ126 (wd hw 72)) (mvT hZ126 (wd hw 71)) (notFace_of_selects (args := #[]) (mvT hZ126 (wd hw 72))) (by decide) (StrChars.Road.eqW (W := 0) hZ126 (own_heq hw) (kI := 4) (wd hw 2) Es_129 Fvs_130 Fcs_131 Vs_132 hcd134 hbd134 Txs.2 Ex126 Fv126 Fc126 Vb126 hcd135 hbd135 Tx126.2 (S_COMPACT_STRINGS.ext Ot_128.2) cs0 (by decide) (by decide)) (by rw [hml]; rfl) (a := xs) (argsL := [(.ref l126)]) (rest := []) Es_129 (lenOf pd_3 rfl) rfl (nb rfl) (hb hby at_432) rfl e126 (by decide) (by decide) fun T136 v136 L136 X136 hQ136 => ?_
      obtain ⟨hv136, rfl, e136⟩ := hQ136
      obtain rfl : v136 = some (.int (1 : Int32)) := by
        rcases hv136 with q | q
        · exact q.1
        · exact absurd hr q.2
      have N136 := Fr.app Nt (Fr.nil n0)
      refine Owe.ifNo X136.here hx (hb hby at_435) rfl ((if0 _ _).trans (feq (by decide)).1) ?_
      refine Owe.gets X136 hx hZ126 hown126 (wd hw 78) Via.refl e136 (S_S_SHAPE.ext Ot_128.2) (hb hby at_438) fun T137 X137 e137 => ?_
      refine Owe.astore X137.here hx (hb hby at_441) rfl rfl (l' := #[.val (.int p1), .val (.int p2), .val (.int p3), .val (.int p4), .val (.ref l4), .val (.int l5), .val (.int l6), .val (.int l7), .val (.int l8), .val (.int l9), .val (.ref xs), .val (.ref rd)]) rfl ?_
      refine Owe.goto X137.here hx (hb hby at_443) (pc' := 467) (by decide) (by decide) ?_
      refine Owe.aload X137.here hx (hb hby at_467) rfl rfl ?_
      refine Owe.stat X137 hx (y := Y6) hown126 (mvT hZ126 (wd hw 81)) (mvT hZ126 (wd hw 82)) (mvT hZ126 (wd hw 79)) (mvT hZ126 (wd hw 83)) (by decide) (backOf (W := 0) (rmgvr l Z a0 hw [] xs ts ks cs G1 rd va wt rdw rdwv wtw wtwv k_va k_rdwv k_wtwv h126 n0 Z_133 Es_129 Fvs_130 Fcs_131 Vs_132 Txs S_COMPACT_STRINGS cs0 Ot_128 S_S_SHAPE E_rd S__VALUES E_va S_LARGEST_GAP E_wt F_name_rd E_rdw Fcoder_rdw Fvalue_rdw F_name_wt E_wtw Fcoder_wtw Fvalue_wtw V_va V_rdwv V_wtwv Tx_rdw Tx_wtw hr) hZ126 (wd hw 83) (wd hw 79) (by decide) (by decide)) (by rw [hml]; rfl) (argsL := [(.ref xs)]) (rest := []) (lenOf pd_8 rfl) rfl (nb rfl) (hb hby at_469) rfl e137 (by decide) (by decide) fun T138 v138 L138 X138 hQ138 => ?_
      obtain ⟨rfl, Nq138, K138⟩ := hQ138
      have N138 := Fr.app N136 Nq138
      have hk139 := Nat.le_trans hk126 K138.1
      have Rr139 := Rr126.trans (CHr.keep K138 sf0 H126)
      have H139 := CHv.keep K138 sf0 H126
      have Ot_140 := Ot_128.keep K138 all0
      have Es_141 := Es_129.keep K138
      have Fvs_142 := Fvs_130.keep K138 nin0
      have Fcs_143 := Fcs_131.keep K138 nin0
      have Vs_144 := Vs_132.keep K138 nin0
      have Ex126_145 := Ex126.keep K138
      have Fc126_146 := Fc126.keep K138 nin0
      have Fv126_147 := Fv126.keep K138 nin0
      have Vb126_148 := Vb126.keep K138 nin0
      have Z_149 := Nat.le_trans Z_133 K138.1
      refine Owe.aload X138.here hx (hb hby at_472) rfl rfl ?_
      refine Owe.acmpNo X138.here hx (hb hby at_474) rfl rfl rfl (by simp [Jvm.Free.XT.acmp]) ?_
      refine Owe.iconst X138.here hx (hb hby at_477) (w := (1 : Int32)) rfl ?_
      refine Owe.goto X138.here hx (hb hby at_478) (pc' := 482) (by decide) (by decide) ?_
      refine Owe.retNW X138 hx hS126 rfl hk139 hlk (t := .boolean) hrt (by simp) (hb hby at_482) rfl fun fs hE => ?_
      rw [hG]
      refine ⟨_, _, rfl, ?_, ?_, coldMono hE (by decide) (by decide)⟩
      rotate_left
      · rw [hh]
        show CHr Z own_EL s.vm h0 T138.vm T138.heap
        exact Rr139.trans (CHv.at X138 hZ126 (own_ew hw) H139)
      show Q0 Z p1 p2 p3 p4 fm G1 rd va wt rdw rdwv wtw wtwv k_va k_rdwv k_wtwv h0 n0 _ T138.heap _
      exact ⟨rfl, N138⟩
    · by_cases hwr : cs = ([108, 97, 114, 103, 101, 115, 116, 45, 103, 97, 112] : List Int32)
      · skip
        refine Owe.aload Xt.here hx (hb hby at_417) rfl rfl ?_
        refine Owe.ifnonnullYes Xt.here hx (hb hby at_419) rfl (pc' := 428) (by decide) (by decide) ?_
        refine Owe.aload Xt.here hx (hb hby at_428) rfl rfl ?_
        refine Owe.ldcV Xt hx hZt hSt (own_ew hw) Ht (by decide) hownt (wd hw 0) (own_wS hw) et hkt (vs := ((([115, 45, 115, 104, 97, 112, 101] : List Int32).map (fun c => c.toInt8.toInt32)).map Value.int)) (z := (7 : Int32)) (by decide) (by decide) rfl (hb hby at_430) (n := 28) (by decide) (by decide) (by decide) (by decide) fun l150 T150 h150 k150 lb150 lk150 X150 e150 E150 hS150 hk150 hZ150 hown150 Ex150 Fc150 Fv150 Vb150 hC150 Lt150 nsf150 => ?_
        have hk151 := Nat.le_trans hkt E150.1
        have Ot_152 := Ot.ext E150
        have Es_153 := Es.ext E150
        have Fvs_154 := Fvs.ext E150
        have Fcs_155 := Fcs.ext E150
        have Vs_156 := Vs.ext E150
        have Z_157 := Nat.le_trans Zt E150.1
        have Rr150 := Rt.trans hC150
        have H150 := hC150.1
        have Tx150 : (∀ c ∈ ([115, 45, 115, 104, 97, 112, 101] : List Int32), ¬ c < 0 ∧ ¬ (255 : Int32) < c) ∧ ([115, 45, 115, 104, 97, 112, 101] : List Int32).length ≤ 4000 := ⟨by decide, Nat.le_of_ble_eq_true rfl⟩
        have hcd158 : StrChars.Road.CodA cs 0 (Int32.ofNat cs.length) ((cs.map (fun c => c.toInt8.toInt32)).map Value.int) := StrChars.Road.codOf (n := cs.length) rfl (fun x hx => (Txs.1 x hx).2)
        have hbd158 := up cs Txs.1
        have hcd159 : StrChars.Road.CodA ([115, 45, 115, 104, 97, 112, 101] : List Int32) 0 (7 : Int32) ((([115, 45, 115, 104, 97, 112, 101] : List Int32).map (fun c => c.toInt8.toInt32)).map Value.int) := StrChars.Road.codOf (n := 7) rfl (fun x hx => (Tx150.1 x hx).2)
        have hbd159 := up ([115, 45, 115, 104, 97, 112, 101] : List Int32) Tx150.1
        refine Owe.virt X150 hx hZ150 (y := Y4) (z := Y4) (Q := fun v h' L => ((v = some (.int 1) ∧ cs = ([115, 45, 115, 104, 97, 112, 101] : List Int32)) ∨ (v = some (.int 0) ∧ ¬ cs = ([115, 45, 115, 104, 97, 112, 101] : List Int32))) ∧ L = [] ∧ h' = h150) (kc := 0) (ks := 0) hown150 (mvT hZ150 (wd hw 69)) (mvT hZ150 (wd hw 70)) (mvT hZ150 (wd hw 72)) (mvT hZ150 (wd hw 71)) (notFace_of_selects (args := #[]) (mvT hZ150 (wd hw 72))) (by decide) (StrChars.Road.eqW (W := 0) hZ150 (own_heq hw) (kI := 4) (wd hw 2) Es_153 Fvs_154 Fcs_155 Vs_156 hcd158 hbd158 Txs.2 Ex150 Fv150 Fc150 Vb150 hcd159 hbd159 Tx150.2 (S_COMPACT_STRINGS.ext Ot_152.2) cs0 (by decide) (by decide)) (by rw [hml]; rfl) (a := xs) (argsL := [(.ref l150)]) (rest := []) Es_153 (lenOf pd_3 rfl) rfl (nb rfl) (hb hby at_432) rfl e150 (by decide) (by decide) fun T160 v160 L160 X160 hQ160 => ?_
        obtain ⟨hv160, rfl, e160⟩ := hQ160
        obtain rfl : v160 = some (.int (0 : Int32)) := by
          rcases hv160 with q | q
          · exact absurd q.2 hr
          · exact q.1
        have N160 := Fr.app Nt (Fr.nil n0)
        refine Owe.ifYes X160.here hx (hb hby at_435) rfl ((if0 _ _).trans (teq (by decide)).1) (pc' := 446) (by decide) (by decide) ?_
        refine Owe.aload X160.here hx (hb hby at_446) rfl rfl ?_
        refine Owe.ldcV X160 hx hZ150 hS150 (own_ew hw) H150 (by decide) hown150 (wd hw 119) (own_wS hw) e160 hk150 (vs := ((([108, 97, 114, 103, 101, 115, 116, 45, 103, 97, 112] : List Int32).map (fun c => c.toInt8.toInt32)).map Value.int)) (z := (11 : Int32)) (by decide) (by decide) rfl (hb hby at_448) (n := 44) (by decide) (by decide) (by decide) (by decide) fun l161 T161 h161 k161 lb161 lk161 X161 e161 E161 hS161 hk161 hZ161 hown161 Ex161 Fc161 Fv161 Vb161 hC161 Lt161 nsf161 => ?_
        have hk162 := Nat.le_trans hk150 E161.1
        have Ot_163 := Ot_152.ext E161
        have Es_164 := Es_153.ext E161
        have Fvs_165 := Fvs_154.ext E161
        have Fcs_166 := Fcs_155.ext E161
        have Vs_167 := Vs_156.ext E161
        have Ex150_168 := Ex150.ext E161
        have Fc150_169 := Fc150.ext E161
        have Fv150_170 := Fv150.ext E161
        have Vb150_171 := Vb150.ext E161
        have Z_172 := Nat.le_trans Z_157 E161.1
        have Rr161 := Rr150.trans hC161
        have H161 := hC161.1
        have Tx161 : (∀ c ∈ ([108, 97, 114, 103, 101, 115, 116, 45, 103, 97, 112] : List Int32), ¬ c < 0 ∧ ¬ (255 : Int32) < c) ∧ ([108, 97, 114, 103, 101, 115, 116, 45, 103, 97, 112] : List Int32).length ≤ 4000 := ⟨by decide, Nat.le_of_ble_eq_true rfl⟩
        have hcd173 : StrChars.Road.CodA cs 0 (Int32.ofNat cs.length) ((cs.map (fun c => c.toInt8.toInt32)).map Value.int) := StrChars.Road.codOf (n := cs.length) rfl (fun x hx => (Txs.1 x hx).2)
        have hbd173 := up cs Txs.1
        have hcd174 : StrChars.Road.CodA ([108, 97, 114, 103, 101, 115, 116, 45, 103, 97, 112] : List Int32) 0 (11 : Int32) ((([108, 97, 114, 103, 101, 115, 116, 45, 103, 97, 112] : List Int32).map (fun c => c.toInt8.toInt32)).map Value.int) := StrChars.Road.codOf (n := 11) rfl (fun x hx => (Tx161.1 x hx).2)
        have hbd174 := up ([108, 97, 114, 103, 101, 115, 116, 45, 103, 97, 112] : List Int32) Tx161.1
        refine Owe.virt X161 hx hZ161 (y := Y4) (z := Y4) (Q := fun v h' L => ((v = some (.int 1) ∧ cs = ([108, 97, 114, 103, 101, 115, 116, 45, 103, 97, 112] : List Int32)) ∨ (v = some (.int 0) ∧ ¬ cs = ([108, 97, 114, 103, 101, 115, 116, 45, 103, 97, 112] : List Int32))) ∧ L = [] ∧ h' = h161) (kc := 0) (ks := 0) hown161 (mvT hZ161 (wd hw 69)) (mvT hZ161 (wd hw 70)) (mvT hZ161 (wd hw 72)) (mvT hZ161 (wd hw 71)) (notFace_of_selects (args := #[]) (mvT hZ161 (wd hw 72))) (by decide) (StrChars.Road.eqW (W := 0) hZ161 (own_heq hw) (kI := 4) (wd hw 2) Es_164 Fvs_165 Fcs_166 Vs_167 hcd173 hbd173 Txs.2 Ex161 Fv161 Fc161 Vb161 hcd174 hbd174 Tx161.2 (S_COMPACT_STRINGS.ext Ot_163.2) cs0 (by decide) (by decide)) (by rw [hml]; rfl) (a := xs) (argsL := [(.ref l161)]) (rest := []) Es_164 (lenOf pd_3 rfl) rfl (nb rfl) (hb hby at_450) rfl e161 (by decide) (by decide) fun T175 v175 L175 X175 hQ175 => ?_
        obtain ⟨hv175, rfl, e175⟩ := hQ175
        obtain rfl : v175 = some (.int (1 : Int32)) := by
          rcases hv175 with q | q
          · exact q.1
          · exact absurd hwr q.2
        have N175 := Fr.app N160 (Fr.nil n0)
        refine Owe.ifNo X175.here hx (hb hby at_453) rfl ((if0 _ _).trans (feq (by decide)).1) ?_
        refine Owe.gets X175 hx hZ161 hown161 (wd hw 120) Via.refl e175 (S_LARGEST_GAP.ext Ot_163.2) (hb hby at_456) fun T176 X176 e176 => ?_
        refine Owe.astore X176.here hx (hb hby at_459) rfl rfl (l' := #[.val (.int p1), .val (.int p2), .val (.int p3), .val (.int p4), .val (.ref l4), .val (.int l5), .val (.int l6), .val (.int l7), .val (.int l8), .val (.int l9), .val (.ref xs), .val (.ref wt)]) rfl ?_
        refine Owe.goto X176.here hx (hb hby at_461) (pc' := 467) (by decide) (by decide) ?_
        refine Owe.aload X176.here hx (hb hby at_467) rfl rfl ?_
        refine Owe.stat X176 hx (y := Y6) hown161 (mvT hZ161 (wd hw 81)) (mvT hZ161 (wd hw 82)) (mvT hZ161 (wd hw 79)) (mvT hZ161 (wd hw 83)) (by decide) (backOf (W := 0) (rmgvw l Z a0 hw [] xs ts ks cs G1 rd va wt rdw rdwv wtw wtwv k_va k_rdwv k_wtwv h161 n0 Z_172 Es_164 Fvs_165 Fcs_166 Vs_167 Txs S_COMPACT_STRINGS cs0 Ot_163 S_S_SHAPE E_rd S__VALUES E_va S_LARGEST_GAP E_wt F_name_rd E_rdw Fcoder_rdw Fvalue_rdw F_name_wt E_wtw Fcoder_wtw Fvalue_wtw V_va V_rdwv V_wtwv Tx_rdw Tx_wtw hr hwr) hZ161 (wd hw 83) (wd hw 79) (by decide) (by decide)) (by rw [hml]; rfl) (argsL := [(.ref xs)]) (rest := []) (lenOf pd_8 rfl) rfl (nb rfl) (hb hby at_469) rfl e176 (by decide) (by decide) fun T177 v177 L177 X177 hQ177 => ?_
        obtain ⟨rfl, Nq177, K177⟩ := hQ177
        have N177 := Fr.app N175 Nq177
        have hk178 := Nat.le_trans hk161 K177.1
        have Rr178 := Rr161.trans (CHr.keep K177 sf0 H161)
        have H178 := CHv.keep K177 sf0 H161
        have Ot_179 := Ot_163.keep K177 all0
        have Es_180 := Es_164.keep K177
        have Fvs_181 := Fvs_165.keep K177 nin0
        have Fcs_182 := Fcs_166.keep K177 nin0
        have Vs_183 := Vs_167.keep K177 nin0
        have Ex150_184 := Ex150_168.keep K177
        have Fc150_185 := Fc150_169.keep K177 nin0
        have Fv150_186 := Fv150_170.keep K177 nin0
        have Vb150_187 := Vb150_171.keep K177 nin0
        have Ex161_188 := Ex161.keep K177
        have Fc161_189 := Fc161.keep K177 nin0
        have Fv161_190 := Fv161.keep K177 nin0
        have Vb161_191 := Vb161.keep K177 nin0
        have Z_192 := Nat.le_trans Z_172 K177.1
        refine Owe.aload X177.here hx (hb hby at_472) rfl rfl ?_
        refine Owe.acmpNo X177.here hx (hb hby at_474) rfl rfl rfl (by simp [Jvm.Free.XT.acmp]) ?_
        refine Owe.iconst X177.here hx (hb hby at_477) (w := (1 : Int32)) rfl ?_
        refine Owe.goto X177.here hx (hb hby at_478) (pc' := 482) (by decide) (by decide) ?_
        refine Owe.retNW X177 hx hS161 rfl hk178 hlk (t := .boolean) hrt (by simp) (hb hby at_482) rfl fun fs hE => ?_
        rw [hG]
        refine ⟨_, _, rfl, ?_, ?_, coldMono hE (by decide) (by decide)⟩
        rotate_left
        · rw [hh]
          show CHr Z own_EL s.vm h0 T177.vm T177.heap
          exact Rr178.trans (CHv.at X177 hZ161 (own_ew hw) H178)
        show Q0 Z p1 p2 p3 p4 fm G1 rd va wt rdw rdwv wtw wtwv k_va k_rdwv k_wtwv h0 n0 _ T177.heap _
        exact ⟨rfl, N177⟩
      · skip
        refine Owe.aload Xt.here hx (hb hby at_417) rfl rfl ?_
        refine Owe.ifnonnullYes Xt.here hx (hb hby at_419) rfl (pc' := 428) (by decide) (by decide) ?_
        refine Owe.aload Xt.here hx (hb hby at_428) rfl rfl ?_
        refine Owe.ldcV Xt hx hZt hSt (own_ew hw) Ht (by decide) hownt (wd hw 0) (own_wS hw) et hkt (vs := ((([115, 45, 115, 104, 97, 112, 101] : List Int32).map (fun c => c.toInt8.toInt32)).map Value.int)) (z := (7 : Int32)) (by decide) (by decide) rfl (hb hby at_430) (n := 28) (by decide) (by decide) (by decide) (by decide) fun l193 T193 h193 k193 lb193 lk193 X193 e193 E193 hS193 hk193 hZ193 hown193 Ex193 Fc193 Fv193 Vb193 hC193 Lt193 nsf193 => ?_
        have hk194 := Nat.le_trans hkt E193.1
        have Ot_195 := Ot.ext E193
        have Es_196 := Es.ext E193
        have Fvs_197 := Fvs.ext E193
        have Fcs_198 := Fcs.ext E193
        have Vs_199 := Vs.ext E193
        have Z_200 := Nat.le_trans Zt E193.1
        have Rr193 := Rt.trans hC193
        have H193 := hC193.1
        have Tx193 : (∀ c ∈ ([115, 45, 115, 104, 97, 112, 101] : List Int32), ¬ c < 0 ∧ ¬ (255 : Int32) < c) ∧ ([115, 45, 115, 104, 97, 112, 101] : List Int32).length ≤ 4000 := ⟨by decide, Nat.le_of_ble_eq_true rfl⟩
        have hcd201 : StrChars.Road.CodA cs 0 (Int32.ofNat cs.length) ((cs.map (fun c => c.toInt8.toInt32)).map Value.int) := StrChars.Road.codOf (n := cs.length) rfl (fun x hx => (Txs.1 x hx).2)
        have hbd201 := up cs Txs.1
        have hcd202 : StrChars.Road.CodA ([115, 45, 115, 104, 97, 112, 101] : List Int32) 0 (7 : Int32) ((([115, 45, 115, 104, 97, 112, 101] : List Int32).map (fun c => c.toInt8.toInt32)).map Value.int) := StrChars.Road.codOf (n := 7) rfl (fun x hx => (Tx193.1 x hx).2)
        have hbd202 := up ([115, 45, 115, 104, 97, 112, 101] : List Int32) Tx193.1
        refine Owe.virt X193 hx hZ193 (y := Y4) (z := Y4) (Q := fun v h' L => ((v = some (.int 1) ∧ cs = ([115, 45, 115, 104, 97, 112, 101] : List Int32)) ∨ (v = some (.int 0) ∧ ¬ cs = ([115, 45, 115, 104, 97, 112, 101] : List Int32))) ∧ L = [] ∧ h' = h193) (kc := 0) (ks := 0) hown193 (mvT hZ193 (wd hw 69)) (mvT hZ193 (wd hw 70)) (mvT hZ193 (wd hw 72)) (mvT hZ193 (wd hw 71)) (notFace_of_selects (args := #[]) (mvT hZ193 (wd hw 72))) (by decide) (StrChars.Road.eqW (W := 0) hZ193 (own_heq hw) (kI := 4) (wd hw 2) Es_196 Fvs_197 Fcs_198 Vs_199 hcd201 hbd201 Txs.2 Ex193 Fv193 Fc193 Vb193 hcd202 hbd202 Tx193.2 (S_COMPACT_STRINGS.ext Ot_195.2) cs0 (by decide) (by decide)) (by rw [hml]; rfl) (a := xs) (argsL := [(.ref l193)]) (rest := []) Es_196 (lenOf pd_3 rfl) rfl (nb rfl) (hb hby at_432) rfl e193 (by decide) (by decide) fun T203 v203 L203 X203 hQ203 => ?_
        obtain ⟨hv203, rfl, e203⟩ := hQ203
        obtain rfl : v203 = some (.int (0 : Int32)) := by
          rcases hv203 with q | q
          · exact absurd q.2 hr
          · exact q.1
        have N203 := Fr.app Nt (Fr.nil n0)
        refine Owe.ifYes X203.here hx (hb hby at_435) rfl ((if0 _ _).trans (teq (by decide)).1) (pc' := 446) (by decide) (by decide) ?_
        refine Owe.aload X203.here hx (hb hby at_446) rfl rfl ?_
        refine Owe.ldcV X203 hx hZ193 hS193 (own_ew hw) H193 (by decide) hown193 (wd hw 119) (own_wS hw) e203 hk193 (vs := ((([108, 97, 114, 103, 101, 115, 116, 45, 103, 97, 112] : List Int32).map (fun c => c.toInt8.toInt32)).map Value.int)) (z := (11 : Int32)) (by decide) (by decide) rfl (hb hby at_448) (n := 44) (by decide) (by decide) (by decide) (by decide) fun l204 T204 h204 k204 lb204 lk204 X204 e204 E204 hS204 hk204 hZ204 hown204 Ex204 Fc204 Fv204 Vb204 hC204 Lt204 nsf204 => ?_
        have hk205 := Nat.le_trans hk193 E204.1
        have Ot_206 := Ot_195.ext E204
        have Es_207 := Es_196.ext E204
        have Fvs_208 := Fvs_197.ext E204
        have Fcs_209 := Fcs_198.ext E204
        have Vs_210 := Vs_199.ext E204
        have Ex193_211 := Ex193.ext E204
        have Fc193_212 := Fc193.ext E204
        have Fv193_213 := Fv193.ext E204
        have Vb193_214 := Vb193.ext E204
        have Z_215 := Nat.le_trans Z_200 E204.1
        have Rr204 := Rr193.trans hC204
        have H204 := hC204.1
        have Tx204 : (∀ c ∈ ([108, 97, 114, 103, 101, 115, 116, 45, 103, 97, 112] : List Int32), ¬ c < 0 ∧ ¬ (255 : Int32) < c) ∧ ([108, 97, 114, 103, 101, 115, 116, 45, 103, 97, 112] : List Int32).length ≤ 4000 := ⟨by decide, Nat.le_of_ble_eq_true rfl⟩
        have hcd216 : StrChars.Road.CodA cs 0 (Int32.ofNat cs.length) ((cs.map (fun c => c.toInt8.toInt32)).map Value.int) := StrChars.Road.codOf (n := cs.length) rfl (fun x hx => (Txs.1 x hx).2)
        have hbd216 := up cs Txs.1
        have hcd217 : StrChars.Road.CodA ([108, 97, 114, 103, 101, 115, 116, 45, 103, 97, 112] : List Int32) 0 (11 : Int32) ((([108, 97, 114, 103, 101, 115, 116, 45, 103, 97, 112] : List Int32).map (fun c => c.toInt8.toInt32)).map Value.int) := StrChars.Road.codOf (n := 11) rfl (fun x hx => (Tx204.1 x hx).2)
        have hbd217 := up ([108, 97, 114, 103, 101, 115, 116, 45, 103, 97, 112] : List Int32) Tx204.1
        refine Owe.virt X204 hx hZ204 (y := Y4) (z := Y4) (Q := fun v h' L => ((v = some (.int 1) ∧ cs = ([108, 97, 114, 103, 101, 115, 116, 45, 103, 97, 112] : List Int32)) ∨ (v = some (.int 0) ∧ ¬ cs = ([108, 97, 114, 103, 101, 115, 116, 45, 103, 97, 112] : List Int32))) ∧ L = [] ∧ h' = h204) (kc := 0) (ks := 0) hown204 (mvT hZ204 (wd hw 69)) (mvT hZ204 (wd hw 70)) (mvT hZ204 (wd hw 72)) (mvT hZ204 (wd hw 71)) (notFace_of_selects (args := #[]) (mvT hZ204 (wd hw 72))) (by decide) (StrChars.Road.eqW (W := 0) hZ204 (own_heq hw) (kI := 4) (wd hw 2) Es_207 Fvs_208 Fcs_209 Vs_210 hcd216 hbd216 Txs.2 Ex204 Fv204 Fc204 Vb204 hcd217 hbd217 Tx204.2 (S_COMPACT_STRINGS.ext Ot_206.2) cs0 (by decide) (by decide)) (by rw [hml]; rfl) (a := xs) (argsL := [(.ref l204)]) (rest := []) Es_207 (lenOf pd_3 rfl) rfl (nb rfl) (hb hby at_450) rfl e204 (by decide) (by decide) fun T218 v218 L218 X218 hQ218 => ?_
        obtain ⟨hv218, rfl, e218⟩ := hQ218
        obtain rfl : v218 = some (.int (0 : Int32)) := by
          rcases hv218 with q | q
          · exact absurd q.2 hwr
          · exact q.1
        have N218 := Fr.app N203 (Fr.nil n0)
        refine Owe.ifYes X218.here hx (hb hby at_453) rfl ((if0 _ _).trans (teq (by decide)).1) (pc' := 464) (by decide) (by decide) ?_
        refine Owe.aconstNull X218.here hx (hb hby at_464)  ?_
        refine Owe.astore X218.here hx (hb hby at_465) rfl rfl (l' := #[.val (.int p1), .val (.int p2), .val (.int p3), .val (.int p4), .val (.ref l4), .val (.int l5), .val (.int l6), .val (.int l7), .val (.int l8), .val (.int l9), .val (.ref xs), .val .null]) rfl ?_
        refine Owe.aload X218.here hx (hb hby at_467) rfl rfl ?_
        refine Owe.stat X218 hx (y := Y6) hown204 (mvT hZ204 (wd hw 81)) (mvT hZ204 (wd hw 82)) (mvT hZ204 (wd hw 79)) (mvT hZ204 (wd hw 83)) (by decide) (backOf (W := 0) (rmgvn l Z a0 hw [] xs ts ks cs G1 rd va wt rdw rdwv wtw wtwv k_va k_rdwv k_wtwv h204 n0 Z_215 Es_207 Fvs_208 Fcs_209 Vs_210 Txs S_COMPACT_STRINGS cs0 Ot_206 S_S_SHAPE E_rd S__VALUES E_va S_LARGEST_GAP E_wt F_name_rd E_rdw Fcoder_rdw Fvalue_rdw F_name_wt E_wtw Fcoder_wtw Fvalue_wtw V_va V_rdwv V_wtwv Tx_rdw Tx_wtw hr hwr) hZ204 (wd hw 83) (wd hw 79) (by decide) (by decide)) (by rw [hml]; rfl) (argsL := [(.ref xs)]) (rest := []) (lenOf pd_8 rfl) rfl (nb rfl) (hb hby at_469) rfl e218 (by decide) (by decide) fun T219 v219 L219 X219 hQ219 => ?_
        obtain ⟨rfl, Nq219, K219⟩ := hQ219
        have N219 := Fr.app N218 Nq219
        have hk220 := Nat.le_trans hk204 K219.1
        have Rr220 := Rr204.trans (CHr.keep K219 sf0 H204)
        have H220 := CHv.keep K219 sf0 H204
        have Ot_221 := Ot_206.keep K219 all0
        have Es_222 := Es_207.keep K219
        have Fvs_223 := Fvs_208.keep K219 nin0
        have Fcs_224 := Fcs_209.keep K219 nin0
        have Vs_225 := Vs_210.keep K219 nin0
        have Ex193_226 := Ex193_211.keep K219
        have Fc193_227 := Fc193_212.keep K219 nin0
        have Fv193_228 := Fv193_213.keep K219 nin0
        have Vb193_229 := Vb193_214.keep K219 nin0
        have Ex204_230 := Ex204.keep K219
        have Fc204_231 := Fc204.keep K219 nin0
        have Fv204_232 := Fv204.keep K219 nin0
        have Vb204_233 := Vb204.keep K219 nin0
        have Z_234 := Nat.le_trans Z_215 K219.1
        refine Owe.aload X219.here hx (hb hby at_472) rfl rfl ?_
        refine Owe.acmpNo X219.here hx (hb hby at_474) rfl rfl rfl (by simp [Jvm.Free.XT.acmp]) ?_
        refine Owe.iconst X219.here hx (hb hby at_477) (w := (1 : Int32)) rfl ?_
        refine Owe.goto X219.here hx (hb hby at_478) (pc' := 482) (by decide) (by decide) ?_
        refine Owe.retNW X219 hx hS204 rfl hk220 hlk (t := .boolean) hrt (by simp) (hb hby at_482) rfl fun fs hE => ?_
        rw [hG]
        refine ⟨_, _, rfl, ?_, ?_, coldMono hE (by decide) (by decide)⟩
        rotate_left
        · rw [hh]
          show CHr Z own_EL s.vm h0 T219.vm T219.heap
          exact Rr220.trans (CHv.at X219 hZ204 (own_ew hw) H220)
        show Q0 Z p1 p2 p3 p4 fm G1 rd va wt rdw rdwv wtw wtwv k_va k_rdwv k_wtwv h0 n0 _ T219.heap _
        exact ⟨rfl, N219⟩
  have cut107 : ∀ (Tt : State) (ht : Heap) (vmt : Vm) (kt : Nat) (locst : List Loc) (l4 t4 : Addr) (k4 : ClassId) (cs : List Int32) (md l6 c7 ps n9 : Int32), Stand p l e room_1 (s.setVm vmt) m #[(.int p1), (.int p2), (.int p3), (.int p4)] below meth c Tt locst 2 48 → Tt.heap = ht → s.Since vmt kt → kt ≤ ht.size → Z.Warmed39 (s.setVm vmt).vm → (s.setVm vmt).vm.findClass "com/example/pickwright/pickwright/RoutingNamedPinLaw" = some m.cls → Fr n0 locst → n0 ≤ ht.size → Old Z n0 ht → CHv Z own_EL vmt ht → CHr Z own_EL s.vm h0 vmt ht → (Exa Z ht l4 "java/lang/String") → (Fld Z ht l4 "java/lang/String" "value" "[B" (.ref t4)) → (Fld Z ht l4 "java/lang/String" "coder" "B" (.int (0 : Int32))) → (Arv Z ht t4 k4 .byte (Int32.ofNat cs.length) ((cs.map (fun c => c.toInt8.toInt32)).map Value.int) (.int (0 : Int32))) → ((∀ c ∈ cs, ¬ c < 0 ∧ ¬ (255 : Int32) < c) ∧ cs.length ≤ 4000) → (¬ c7 < 0 ∧ ¬ (255 : Int32) < c7) → (n9 = (0 : Int32) ∨ n9 = (1 : Int32) ∨ n9 = (2 : Int32) ∨ n9 = (3 : Int32) ∨ n9 = (4 : Int32) ∨ n9 = (5 : Int32) ∨ n9 = (6 : Int32) ∨ n9 = (7 : Int32) ∨ n9 = (8 : Int32) ∨ n9 = (9 : Int32) ∨ n9 = (10 : Int32) ∨ n9 = (11 : Int32) ∨ n9 = (12 : Int32)) → Owe p.tables e below G Tt (mkF m 107 #[.val (.int p1), .val (.int p2), .val (.int p3), .val (.int p4), .val (.ref l4), .val (.int md), .val (.int l6), .val (.int c7), .val (.int ps), .val (.int n9), .val .null, .unset] []) := by
    intro Tt ht vmt kt locst l4 t4 k4 cs md l6 c7 ps n9 Xt et hSt hkt hZt hownt Nt Zt Ot Ht Rt E4 Fv4 Fc4 V4 Tx4 hcb hn9
    rcases hn9 with rfl | rfl | rfl | rfl | rfl | rfl | rfl | rfl | rfl | rfl | rfl | rfl | rfl
    · skip
      refine Owe.iload Xt.here hx (hb hby at_107) rfl ?_
      refine Owe.newarr Xt hx hZt (aty := .char) (wd hw 21) et (hb hby at_109) rfl (by decide) (cap := 0) (by decide) (by decide) (by decide) (by decide) fun T235 h235 b235 k235 g235 X235 e235 E235 V235 => ?_
      have ne_l4_b235 : l4 ≠ b235 := Nat.ne_of_lt (Nat.lt_of_lt_of_le E4.lt (Nat.le_of_eq g235.symm))
      have ne_t4_b235 : t4 ≠ b235 := Nat.ne_of_lt (Nat.lt_of_lt_of_le V4.lt (Nat.le_of_eq g235.symm))
      have sf_b235 := (Safe.new (Nat.le_of_eq g235.symm) : Safe Z own_EL vmt ht b235)
      have ge_b235 := Nat.le_trans Zt (Nat.le_of_eq g235.symm)
      have hk236 := Nat.le_trans hkt E235.1
      have sf_b235_236 := Safe.ext E235 Ht sf_b235
      have Rr236 := Rt.trans (CHr.ext E235 Ht)
      have H236 := CHv.ext E235 Ht
      have Ot_237 := Ot.ext E235
      have E4_238 := E4.ext E235
      have Fv4_239 := Fv4.ext E235
      have Fc4_240 := Fc4.ext E235
      have V4_241 := V4.ext E235
      have Z_242 := Nat.le_trans Zt E235.1
      have V_b235_235 : Arv Z h235 b235 k235 .char (0 : Int32) [] (.int (0 : Int32)) := V235
      refine Owe.astore X235.here hx (hb hby at_111) rfl rfl (l' := #[.val (.int p1), .val (.int p2), .val (.int p3), .val (.int p4), .val (.ref l4), .val (.int md), .val (.int l6), .val (.int c7), .val (.int ps), .val (.int (0 : Int32)), .val .null, .val (.ref b235)]) rfl ?_
      refine Owe.iload X235.here hx (hb hby at_113) rfl ?_
      refine Owe.ifYes X235.here hx (hb hby at_115) rfl ((if0 _ _).trans (flt (by decide)).2.2.2) (pc' := 135) (by decide) (by decide) ?_
      refine Owe.iload X235.here hx (hb hby at_135) rfl ?_
      refine Owe.iconst X235.here hx (hb hby at_137) (w := (1 : Int32)) rfl ?_
      refine Owe.icmpYes X235.here hx (hb hby at_138) rfl (flt (by decide)).2.2.2 (pc' := 158) (by decide) (by decide) ?_
      refine Owe.iload X235.here hx (hb hby at_158) rfl ?_
      refine Owe.iconst X235.here hx (hb hby at_160) (w := (2 : Int32)) rfl ?_
      refine Owe.icmpYes X235.here hx (hb hby at_161) rfl (flt (by decide)).2.2.2 (pc' := 181) (by decide) (by decide) ?_
      refine Owe.iload X235.here hx (hb hby at_181) rfl ?_
      refine Owe.iconst X235.here hx (hb hby at_183) (w := (3 : Int32)) rfl ?_
      refine Owe.icmpYes X235.here hx (hb hby at_184) rfl (flt (by decide)).2.2.2 (pc' := 204) (by decide) (by decide) ?_
      refine Owe.iload X235.here hx (hb hby at_204) rfl ?_
      refine Owe.iconst X235.here hx (hb hby at_206) (w := (4 : Int32)) rfl ?_
      refine Owe.icmpYes X235.here hx (hb hby at_207) rfl (flt (by decide)).2.2.2 (pc' := 227) (by decide) (by decide) ?_
      refine Owe.iload X235.here hx (hb hby at_227) rfl ?_
      refine Owe.iconst X235.here hx (hb hby at_229) (w := (5 : Int32)) rfl ?_
      refine Owe.icmpYes X235.here hx (hb hby at_230) rfl (flt (by decide)).2.2.2 (pc' := 250) (by decide) (by decide) ?_
      refine Owe.iload X235.here hx (hb hby at_250) rfl ?_
      refine Owe.bipush X235.here hx (hb hby at_252) (w := (6 : Int32)) rfl ?_
      refine Owe.icmpYes X235.here hx (hb hby at_254) rfl (flt (by decide)).2.2.2 (pc' := 276) (by decide) (by decide) ?_
      refine Owe.iload X235.here hx (hb hby at_276) rfl ?_
      refine Owe.bipush X235.here hx (hb hby at_278) (w := (7 : Int32)) rfl ?_
      refine Owe.icmpYes X235.here hx (hb hby at_280) rfl (flt (by decide)).2.2.2 (pc' := 302) (by decide) (by decide) ?_
      refine Owe.iload X235.here hx (hb hby at_302) rfl ?_
      refine Owe.bipush X235.here hx (hb hby at_304) (w := (8 : Int32)) rfl ?_
      refine Owe.icmpYes X235.here hx (hb hby at_306) rfl (flt (by decide)).2.2.2 (pc' := 328) (by decide) (by decide) ?_
      refine Owe.iload X235.here hx (hb hby at_328) rfl ?_
      refine Owe.bipush X235.here hx (hb hby at_330) (w := (9 : Int32)) rfl ?_
      refine Owe.icmpYes X235.here hx (hb hby at_332) rfl (flt (by decide)).2.2.2 (pc' := 354) (by decide) (by decide) ?_
      refine Owe.iload X235.here hx (hb hby at_354) rfl ?_
      refine Owe.bipush X235.here hx (hb hby at_356) (w := (10 : Int32)) rfl ?_
      refine Owe.icmpYes X235.here hx (hb hby at_358) rfl (flt (by decide)).2.2.2 (pc' := 380) (by decide) (by decide) ?_
      refine Owe.iload X235.here hx (hb hby at_380) rfl ?_
      refine Owe.bipush X235.here hx (hb hby at_382) (w := (11 : Int32)) rfl ?_
      refine Owe.icmpYes X235.here hx (hb hby at_384) rfl (flt (by decide)).2.2.2 (pc' := 406) (by decide) (by decide) ?_
      refine Owe.new X235 hx hZt hownt (wd hw 48) (wd hw 2) (wd hw 1) e235 (hb hby at_406) (by decide) (by decide) fun T243 h243 b243 g243 X243 e243 E243 A243 D243 => ?_
      have ne_l4_b243 : l4 ≠ b243 := Nat.ne_of_lt (Nat.lt_of_lt_of_le E4_238.lt (Nat.le_of_eq g243.symm))
      have ne_t4_b243 : t4 ≠ b243 := Nat.ne_of_lt (Nat.lt_of_lt_of_le V4_241.lt (Nat.le_of_eq g243.symm))
      have ne_b235_b243 : b235 ≠ b243 := Nat.ne_of_lt (Nat.lt_of_lt_of_le V_b235_235.lt (Nat.le_of_eq g243.symm))
      have sf_b243 := (Safe.new (Nat.le_of_eq g243.symm) : Safe Z own_EL vmt h235 b243)
      have ge_b243 := Nat.le_trans Z_242 (Nat.le_of_eq g243.symm)
      have hk244 := Nat.le_trans hk236 E243.1
      have sf_b235_244 := Safe.ext E243 H236 sf_b235_236
      have sf_b243_244 := Safe.ext E243 H236 sf_b243
      have Rr244 := Rr236.trans (CHr.ext E243 H236)
      have H244 := CHv.ext E243 H236
      have Ot_245 := Ot_237.ext E243
      have E4_246 := E4_238.ext E243
      have Fv4_247 := Fv4_239.ext E243
      have Fc4_248 := Fc4_240.ext E243
      have V4_249 := V4_241.ext E243
      have V_b235_250 := V_b235_235.ext E243
      have Z_251 := Nat.le_trans Z_242 E243.1
      have Fvalue_b243 : Fld Z h243 b243 "java/lang/String" "value" "[B" .null := D243 (Or.inr (wd hw 4)) (ty := (.array .byte)) (by decide)
      have Fcoder_b243 : Fld Z h243 b243 "java/lang/String" "coder" "B" (.int (0 : Int32)) := D243 (Or.inr (wd hw 5)) (ty := .byte) (by decide)
      refine Owe.dup X243.here hx (hb hby at_409) rfl rfl ?_
      refine Owe.aload X243.here hx (hb hby at_410) rfl rfl ?_
      refine Owe.specialS X243 hx hZt hSt hk244 (y := Y1) rfl hownt (mvT hZt (wd hw 49)) (mvT hZt (wd hw 50)) (mvT hZt (wd hw 51)) (by decide) (backOfSH (W := 1) (rmse1 l Z a0 hw [] b243 b235 k235 h243 n0 Z_251 A243 Fvalue_b243 Fcoder_b243 ge_b243 V_b235_250 ne_b235_b243) hZt (wd hw 51) (wd hw 1) (by decide) (by decide) (own_ew hw) H244) (by rw [hml]; rfl) (a := b243) (argsL := [(.ref b235)]) (rest := [(.ref b243)]) (lenOf pd_9 rfl) rfl (nb rfl) (hb hby at_412) rfl e243 (by decide) (by decide) fun T252 v252 L252 X252 hS252 hZ252 hown252 hC252 hQ252 => ?_
      obtain ⟨b1_252, kb1_252, rfl, Nq252, K252, E_a1_252, Fvalue_a1_252, Fcoder_a1_252, V_b1_252, Tx_a1_252⟩ := hQ252
      have N252 := Fr.app Nt Nq252
      have hk253 := Nat.le_trans hk244 K252.1
      have Ot_254 := Ot_245.keep K252 (allS ge_b243 all0)
      have E4_255 := E4_246.keep K252
      have Fv4_256 := Fv4_247.keep K252 (ninS ne_l4_b243 nin0)
      have Fc4_257 := Fc4_248.keep K252 (ninS ne_l4_b243 nin0)
      have V4_258 := V4_249.keep K252 (ninS ne_t4_b243 nin0)
      have V_b235_259 := V_b235_250.keep K252 (ninS ne_b235_b243 nin0)
      have A243_260 := A243.keep K252
      have Z_261 := Nat.le_trans Z_251 K252.1
      have sf_b235_252 := CHr.safe hC252 V_b235_250.lt sf_b235_244
      have sf_b243_252 := CHr.safe hC252 A243.lt sf_b243_244
      have Rr252 := Rr244.trans hC252
      have H252 := hC252.1
      have hk252 : T252.heap.size ≤ T252.heap.size := Nat.le_refl _
      refine Owe.astore X252.here hx (hb hby at_415) rfl rfl (l' := #[.val (.int p1), .val (.int p2), .val (.int p3), .val (.int p4), .val (.ref l4), .val (.int md), .val (.int l6), .val (.int c7), .val (.int ps), .val (.int (0 : Int32)), .val (.ref b243), .val (.ref b235)]) rfl ?_
      exact cut417 _ _ _ _ _ _ _ _ _ _ _ _ _ _ _ _ (X252.mono (by decide) (by decide)) rfl hS252 hk252 hZ252 hown252 N252 Z_261 Ot_254 H252 Rr252 E_a1_252 Fvalue_a1_252 Fcoder_a1_252 V_b1_252 Tx_a1_252
    · skip
      refine Owe.iload Xt.here hx (hb hby at_107) rfl ?_
      refine Owe.newarr Xt hx hZt (aty := .char) (wd hw 21) et (hb hby at_109) rfl (by decide) (cap := 1) (by decide) (by decide) (by decide) (by decide) fun T262 h262 b262 k262 g262 X262 e262 E262 V262 => ?_
      have ne_l4_b262 : l4 ≠ b262 := Nat.ne_of_lt (Nat.lt_of_lt_of_le E4.lt (Nat.le_of_eq g262.symm))
      have ne_t4_b262 : t4 ≠ b262 := Nat.ne_of_lt (Nat.lt_of_lt_of_le V4.lt (Nat.le_of_eq g262.symm))
      have sf_b262 := (Safe.new (Nat.le_of_eq g262.symm) : Safe Z own_EL vmt ht b262)
      have ge_b262 := Nat.le_trans Zt (Nat.le_of_eq g262.symm)
      have hk263 := Nat.le_trans hkt E262.1
      have sf_b262_263 := Safe.ext E262 Ht sf_b262
      have Rr263 := Rt.trans (CHr.ext E262 Ht)
      have H263 := CHv.ext E262 Ht
      have Ot_264 := Ot.ext E262
      have E4_265 := E4.ext E262
      have Fv4_266 := Fv4.ext E262
      have Fc4_267 := Fc4.ext E262
      have V4_268 := V4.ext E262
      have Z_269 := Nat.le_trans Zt E262.1
      have V_b262_262 : Arv Z h262 b262 k262 .char (1 : Int32) [(.int (0 : Int32))] (.int (0 : Int32)) := V262.pad (pad_rep [] (.int (0 : Int32)) 1)
      refine Owe.astore X262.here hx (hb hby at_111) rfl rfl (l' := #[.val (.int p1), .val (.int p2), .val (.int p3), .val (.int p4), .val (.ref l4), .val (.int md), .val (.int l6), .val (.int c7), .val (.int ps), .val (.int (1 : Int32)), .val .null, .val (.ref b262)]) rfl ?_
      refine Owe.iload X262.here hx (hb hby at_113) rfl ?_
      refine Owe.ifNo X262.here hx (hb hby at_115) rfl ((if0 _ _).trans (tlt (by decide)).2.2.2) ?_
      refine Owe.aload X262.here hx (hb hby at_118) rfl rfl ?_
      refine Owe.iconst X262.here hx (hb hby at_120) (w := (0 : Int32)) rfl ?_
      refine Owe.aload X262.here hx (hb hby at_121) rfl rfl ?_
      refine Owe.iconst X262.here hx (hb hby at_123) (w := (0 : Int32)) rfl ?_
      refine Owe.iload X262.here hx (hb hby at_124) rfl ?_
      refine Owe.iload X262.here hx (hb hby at_126) rfl ?_
      refine Owe.iload X262.here hx (hb hby at_128) rfl ?_
      refine Owe.iloadN X262.here hx (hb hby at_130) rfl ?_
      refine Owe.stat X262 hx (y := Y7) hownt (mvT hZt (wd hw 22)) (mvT hZt (wd hw 23)) (mvT hZt (wd hw 24)) (mvT hZt (wd hw 25)) (by decide) (backOf (W := 2) (rmat l Z a0 hw [] l4 t4 k4 cs (0 : Int32) ps c7 md p3 G1 fm h262 n0 Z_269 E4_265 Fv4_266 Fc4_267 V4_268 Tx4 S_COMPACT_STRINGS cs0 Ot_264 S_SIOOBE_FORMATTER ir_fm (by decide) hcb) hZt (wd hw 25) (wd hw 24) (by decide) (by decide)) (by rw [hml]; rfl) (argsL := [(.ref l4), (.int (0 : Int32)), (.int ps), (.int c7), (.int md), (.int p3)]) (rest := [(.int (0 : Int32)), (.ref b262)]) (lenOf pd_10 rfl) rfl (nb rfl) (hb hby at_131) rfl e262 (by decide) (by decide) fun T270 v270 L270 X270 hQ270 => ?_
      obtain ⟨cv_270, rfl, Nq270, e270, hcv_270⟩ := hQ270
      have N270 := Fr.app Nt Nq270
      refine Owe.castore X270 hx hZt e270 V_b262_262 (x := cv_270) 0 rfl (nb rfl) (by decide) (hb hby at_134) rfl fun T271 h271 X271 e271 W271 (V271 : Arv Z h271 b262 k262 .char (1 : Int32) [(.int (nar .char cv_270))] (.int (0 : Int32))) => ?_
      have hk272 := Nat.le_trans hk263 (Keep.of_wr W271).1
      have sf_b262_272 := Safe.wr W271 sf_b262_263 H263 sf_b262_263
      have Rr272 := Rr263.trans (CHr.wr W271 sf_b262_263 H263)
      have H272 := CHv.wr W271 sf_b262_263 H263
      have Ot_273 := Ot_264.wr W271 ge_b262
      have E4_274 := E4_265.wr W271
      have Fv4_275 := Fv4_266.other W271 (Or.inl ne_l4_b262)
      have Fc4_276 := Fc4_267.other W271 (Or.inl ne_l4_b262)
      have V4_277 := V4_268.other W271 ne_t4_b262
      have Z_278 := Nat.le_trans Z_269 (Keep.of_wr W271).1
      have N271 := Fr.snoc X271 N270 ge_b262
      refine Owe.iload X271.here hx (hb hby at_135) rfl ?_
      refine Owe.iconst X271.here hx (hb hby at_137) (w := (1 : Int32)) rfl ?_
      refine Owe.icmpYes X271.here hx (hb hby at_138) rfl (flt (by decide)).2.2.2 (pc' := 158) (by decide) (by decide) ?_
      refine Owe.iload X271.here hx (hb hby at_158) rfl ?_
      refine Owe.iconst X271.here hx (hb hby at_160) (w := (2 : Int32)) rfl ?_
      refine Owe.icmpYes X271.here hx (hb hby at_161) rfl (flt (by decide)).2.2.2 (pc' := 181) (by decide) (by decide) ?_
      refine Owe.iload X271.here hx (hb hby at_181) rfl ?_
      refine Owe.iconst X271.here hx (hb hby at_183) (w := (3 : Int32)) rfl ?_
      refine Owe.icmpYes X271.here hx (hb hby at_184) rfl (flt (by decide)).2.2.2 (pc' := 204) (by decide) (by decide) ?_
      refine Owe.iload X271.here hx (hb hby at_204) rfl ?_
      refine Owe.iconst X271.here hx (hb hby at_206) (w := (4 : Int32)) rfl ?_
      refine Owe.icmpYes X271.here hx (hb hby at_207) rfl (flt (by decide)).2.2.2 (pc' := 227) (by decide) (by decide) ?_
      refine Owe.iload X271.here hx (hb hby at_227) rfl ?_
      refine Owe.iconst X271.here hx (hb hby at_229) (w := (5 : Int32)) rfl ?_
      refine Owe.icmpYes X271.here hx (hb hby at_230) rfl (flt (by decide)).2.2.2 (pc' := 250) (by decide) (by decide) ?_
      refine Owe.iload X271.here hx (hb hby at_250) rfl ?_
      refine Owe.bipush X271.here hx (hb hby at_252) (w := (6 : Int32)) rfl ?_
      refine Owe.icmpYes X271.here hx (hb hby at_254) rfl (flt (by decide)).2.2.2 (pc' := 276) (by decide) (by decide) ?_
      refine Owe.iload X271.here hx (hb hby at_276) rfl ?_
      refine Owe.bipush X271.here hx (hb hby at_278) (w := (7 : Int32)) rfl ?_
      refine Owe.icmpYes X271.here hx (hb hby at_280) rfl (flt (by decide)).2.2.2 (pc' := 302) (by decide) (by decide) ?_
      refine Owe.iload X271.here hx (hb hby at_302) rfl ?_
      refine Owe.bipush X271.here hx (hb hby at_304) (w := (8 : Int32)) rfl ?_
      refine Owe.icmpYes X271.here hx (hb hby at_306) rfl (flt (by decide)).2.2.2 (pc' := 328) (by decide) (by decide) ?_
      refine Owe.iload X271.here hx (hb hby at_328) rfl ?_
      refine Owe.bipush X271.here hx (hb hby at_330) (w := (9 : Int32)) rfl ?_
      refine Owe.icmpYes X271.here hx (hb hby at_332) rfl (flt (by decide)).2.2.2 (pc' := 354) (by decide) (by decide) ?_
      refine Owe.iload X271.here hx (hb hby at_354) rfl ?_
      refine Owe.bipush X271.here hx (hb hby at_356) (w := (10 : Int32)) rfl ?_
      refine Owe.icmpYes X271.here hx (hb hby at_358) rfl (flt (by decide)).2.2.2 (pc' := 380) (by decide) (by decide) ?_
      refine Owe.iload X271.here hx (hb hby at_380) rfl ?_
      refine Owe.bipush X271.here hx (hb hby at_382) (w := (11 : Int32)) rfl ?_
      refine Owe.icmpYes X271.here hx (hb hby at_384) rfl (flt (by decide)).2.2.2 (pc' := 406) (by decide) (by decide) ?_
      refine Owe.new X271 hx hZt hownt (wd hw 48) (wd hw 2) (wd hw 1) e271 (hb hby at_406) (by decide) (by decide) fun T279 h279 b279 g279 X279 e279 E279 A279 D279 => ?_
      have ne_l4_b279 : l4 ≠ b279 := Nat.ne_of_lt (Nat.lt_of_lt_of_le E4_274.lt (Nat.le_of_eq g279.symm))
      have ne_t4_b279 : t4 ≠ b279 := Nat.ne_of_lt (Nat.lt_of_lt_of_le V4_277.lt (Nat.le_of_eq g279.symm))
      have ne_b262_b279 : b262 ≠ b279 := Nat.ne_of_lt (Nat.lt_of_lt_of_le V271.lt (Nat.le_of_eq g279.symm))
      have sf_b279 := (Safe.new (Nat.le_of_eq g279.symm) : Safe Z own_EL vmt h271 b279)
      have ge_b279 := Nat.le_trans Z_278 (Nat.le_of_eq g279.symm)
      have hk280 := Nat.le_trans hk272 E279.1
      have sf_b262_280 := Safe.ext E279 H272 sf_b262_272
      have sf_b279_280 := Safe.ext E279 H272 sf_b279
      have Rr280 := Rr272.trans (CHr.ext E279 H272)
      have H280 := CHv.ext E279 H272
      have Ot_281 := Ot_273.ext E279
      have E4_282 := E4_274.ext E279
      have Fv4_283 := Fv4_275.ext E279
      have Fc4_284 := Fc4_276.ext E279
      have V4_285 := V4_277.ext E279
      have V271_286 := V271.ext E279
      have Z_287 := Nat.le_trans Z_278 E279.1
      have Fvalue_b279 : Fld Z h279 b279 "java/lang/String" "value" "[B" .null := D279 (Or.inr (wd hw 4)) (ty := (.array .byte)) (by decide)
      have Fcoder_b279 : Fld Z h279 b279 "java/lang/String" "coder" "B" (.int (0 : Int32)) := D279 (Or.inr (wd hw 5)) (ty := .byte) (by decide)
      refine Owe.dup X279.here hx (hb hby at_409) rfl rfl ?_
      refine Owe.aload X279.here hx (hb hby at_410) rfl rfl ?_
      have hp288 : ∀ c ∈ ([(nar .char cv_270)] : List Int32), ¬ c < 0 ∧ ¬ (255 : Int32) < c := by
        intro c hc
        simp only [List.mem_cons, List.not_mem_nil, or_false] at hc
        rcases hc with rfl
        · exact (own_nar2 hcv_270)
      refine Owe.special X279 hx (y := Y1) rfl hownt (mvT hZt (wd hw 49)) (mvT hZt (wd hw 50)) (mvT hZt (wd hw 51)) (by decide) (StrChars.Road.backV (W := 1) hZt hws (kI := 4) (wd hw 2) (cs := ([(nar .char cv_270)] : List Int32)) (bs := ([(nar .char cv_270)] : List Int32).map (fun c => c.toInt8.toInt32)) (n := 1) ge_b279 Z_287 A279 Fvalue_b279 Fcoder_b279 V271_286 (S_COMPACT_STRINGS.ext Ot_281.2) cs0 rfl rfl (by decide) (by decide) hp288 rfl (by decide) (by decide)) (by rw [hml]; rfl) (a := b279) (argsL := [(.ref b262)]) (rest := [(.ref b279)]) (lenOf pd_9 rfl) rfl (nb rfl) (hb hby at_412) rfl e279 (by decide) (by decide) fun T289 v289 L289 X289 hQ289 => ?_
      obtain ⟨rfl, Nq289, K289, Ex289, Fc289, t289, kb289, gt289, ft289, nt289, Fv289, Vt289⟩ := hQ289
      have N289 := Fr.app N271 Nq289
      have ne_l4_t289 : l4 ≠ t289 := Nat.ne_of_lt (Nat.lt_of_lt_of_le E4_282.lt ft289)
      have ne_t4_t289 : t4 ≠ t289 := Nat.ne_of_lt (Nat.lt_of_lt_of_le V4_285.lt ft289)
      have ne_b262_t289 : b262 ≠ t289 := Nat.ne_of_lt (Nat.lt_of_lt_of_le V271_286.lt ft289)
      have ne_b279_t289 : b279 ≠ t289 := Nat.ne_of_lt (Nat.lt_of_lt_of_le A279.lt ft289)
      have hk290 := Nat.le_trans hk280 K289.1
      have sf_b262_290 := Safe.keep K289 (sfS sf_b279_280 sf0) H280 sf_b262_280
      have sf_b279_290 := Safe.keep K289 (sfS sf_b279_280 sf0) H280 sf_b279_280
      have Rr290 := Rr280.trans (CHr.keep K289 (sfS sf_b279_280 sf0) H280)
      have H290 := CHv.keep K289 (sfS sf_b279_280 sf0) H280
      have Ot_291 := Ot_281.keep K289 (allS ge_b279 all0)
      have E4_292 := E4_282.keep K289
      have Fv4_293 := Fv4_283.keep K289 (ninS ne_l4_b279 nin0)
      have Fc4_294 := Fc4_284.keep K289 (ninS ne_l4_b279 nin0)
      have V4_295 := V4_285.keep K289 (ninS ne_t4_b279 nin0)
      have V271_296 := V271_286.keep K289 (ninS ne_b262_b279 nin0)
      have A279_297 := A279.keep K289
      have Z_298 := Nat.le_trans Z_287 K289.1
      have Tx289 : (∀ c ∈ ([(nar .char cv_270)] : List Int32), ¬ c < 0 ∧ ¬ (255 : Int32) < c) ∧ ([(nar .char cv_270)] : List Int32).length ≤ 4000 := ⟨hp288, Nat.le_of_ble_eq_true rfl⟩
      refine Owe.astore X289.here hx (hb hby at_415) rfl rfl (l' := #[.val (.int p1), .val (.int p2), .val (.int p3), .val (.int p4), .val (.ref l4), .val (.int md), .val (.int l6), .val (.int c7), .val (.int ps), .val (.int (1 : Int32)), .val (.ref b279), .val (.ref b262)]) rfl ?_
      exact cut417 _ _ _ _ _ _ _ _ _ _ _ _ _ _ _ _ (X289.mono (by decide) (by decide)) rfl hSt hk290 hZt hownt N289 Z_298 Ot_291 H290 Rr290 Ex289 Fv289 Fc289 Vt289 Tx289
    · skip
      refine Owe.iload Xt.here hx (hb hby at_107) rfl ?_
      refine Owe.newarr Xt hx hZt (aty := .char) (wd hw 21) et (hb hby at_109) rfl (by decide) (cap := 2) (by decide) (by decide) (by decide) (by decide) fun T299 h299 b299 k299 g299 X299 e299 E299 V299 => ?_
      have ne_l4_b299 : l4 ≠ b299 := Nat.ne_of_lt (Nat.lt_of_lt_of_le E4.lt (Nat.le_of_eq g299.symm))
      have ne_t4_b299 : t4 ≠ b299 := Nat.ne_of_lt (Nat.lt_of_lt_of_le V4.lt (Nat.le_of_eq g299.symm))
      have sf_b299 := (Safe.new (Nat.le_of_eq g299.symm) : Safe Z own_EL vmt ht b299)
      have ge_b299 := Nat.le_trans Zt (Nat.le_of_eq g299.symm)
      have hk300 := Nat.le_trans hkt E299.1
      have sf_b299_300 := Safe.ext E299 Ht sf_b299
      have Rr300 := Rt.trans (CHr.ext E299 Ht)
      have H300 := CHv.ext E299 Ht
      have Ot_301 := Ot.ext E299
      have E4_302 := E4.ext E299
      have Fv4_303 := Fv4.ext E299
      have Fc4_304 := Fc4.ext E299
      have V4_305 := V4.ext E299
      have Z_306 := Nat.le_trans Zt E299.1
      have V_b299_299 : Arv Z h299 b299 k299 .char (2 : Int32) [(.int (0 : Int32)), (.int (0 : Int32))] (.int (0 : Int32)) := V299.pad (pad_rep [] (.int (0 : Int32)) 2)
      refine Owe.astore X299.here hx (hb hby at_111) rfl rfl (l' := #[.val (.int p1), .val (.int p2), .val (.int p3), .val (.int p4), .val (.ref l4), .val (.int md), .val (.int l6), .val (.int c7), .val (.int ps), .val (.int (2 : Int32)), .val .null, .val (.ref b299)]) rfl ?_
      refine Owe.iload X299.here hx (hb hby at_113) rfl ?_
      refine Owe.ifNo X299.here hx (hb hby at_115) rfl ((if0 _ _).trans (tlt (by decide)).2.2.2) ?_
      refine Owe.aload X299.here hx (hb hby at_118) rfl rfl ?_
      refine Owe.iconst X299.here hx (hb hby at_120) (w := (0 : Int32)) rfl ?_
      refine Owe.aload X299.here hx (hb hby at_121) rfl rfl ?_
      refine Owe.iconst X299.here hx (hb hby at_123) (w := (0 : Int32)) rfl ?_
      refine Owe.iload X299.here hx (hb hby at_124) rfl ?_
      refine Owe.iload X299.here hx (hb hby at_126) rfl ?_
      refine Owe.iload X299.here hx (hb hby at_128) rfl ?_
      refine Owe.iloadN X299.here hx (hb hby at_130) rfl ?_
      refine Owe.stat X299 hx (y := Y7) hownt (mvT hZt (wd hw 22)) (mvT hZt (wd hw 23)) (mvT hZt (wd hw 24)) (mvT hZt (wd hw 25)) (by decide) (backOf (W := 2) (rmat l Z a0 hw [] l4 t4 k4 cs (0 : Int32) ps c7 md p3 G1 fm h299 n0 Z_306 E4_302 Fv4_303 Fc4_304 V4_305 Tx4 S_COMPACT_STRINGS cs0 Ot_301 S_SIOOBE_FORMATTER ir_fm (by decide) hcb) hZt (wd hw 25) (wd hw 24) (by decide) (by decide)) (by rw [hml]; rfl) (argsL := [(.ref l4), (.int (0 : Int32)), (.int ps), (.int c7), (.int md), (.int p3)]) (rest := [(.int (0 : Int32)), (.ref b299)]) (lenOf pd_10 rfl) rfl (nb rfl) (hb hby at_131) rfl e299 (by decide) (by decide) fun T307 v307 L307 X307 hQ307 => ?_
      obtain ⟨cv_307, rfl, Nq307, e307, hcv_307⟩ := hQ307
      have N307 := Fr.app Nt Nq307
      refine Owe.castore X307 hx hZt e307 V_b299_299 (x := cv_307) 0 rfl (nb rfl) (by decide) (hb hby at_134) rfl fun T308 h308 X308 e308 W308 (V308 : Arv Z h308 b299 k299 .char (2 : Int32) [(.int (nar .char cv_307)), (.int (0 : Int32))] (.int (0 : Int32))) => ?_
      have hk309 := Nat.le_trans hk300 (Keep.of_wr W308).1
      have sf_b299_309 := Safe.wr W308 sf_b299_300 H300 sf_b299_300
      have Rr309 := Rr300.trans (CHr.wr W308 sf_b299_300 H300)
      have H309 := CHv.wr W308 sf_b299_300 H300
      have Ot_310 := Ot_301.wr W308 ge_b299
      have E4_311 := E4_302.wr W308
      have Fv4_312 := Fv4_303.other W308 (Or.inl ne_l4_b299)
      have Fc4_313 := Fc4_304.other W308 (Or.inl ne_l4_b299)
      have V4_314 := V4_305.other W308 ne_t4_b299
      have Z_315 := Nat.le_trans Z_306 (Keep.of_wr W308).1
      have N308 := Fr.snoc X308 N307 ge_b299
      refine Owe.iload X308.here hx (hb hby at_135) rfl ?_
      refine Owe.iconst X308.here hx (hb hby at_137) (w := (1 : Int32)) rfl ?_
      refine Owe.icmpNo X308.here hx (hb hby at_138) rfl (tlt (by decide)).2.2.2 ?_
      refine Owe.aload X308.here hx (hb hby at_141) rfl rfl ?_
      refine Owe.iconst X308.here hx (hb hby at_143) (w := (1 : Int32)) rfl ?_
      refine Owe.aload X308.here hx (hb hby at_144) rfl rfl ?_
      refine Owe.iconst X308.here hx (hb hby at_146) (w := (1 : Int32)) rfl ?_
      refine Owe.iload X308.here hx (hb hby at_147) rfl ?_
      refine Owe.iload X308.here hx (hb hby at_149) rfl ?_
      refine Owe.iload X308.here hx (hb hby at_151) rfl ?_
      refine Owe.iloadN X308.here hx (hb hby at_153) rfl ?_
      refine Owe.stat X308 hx (y := Y7) hownt (mvT hZt (wd hw 22)) (mvT hZt (wd hw 23)) (mvT hZt (wd hw 24)) (mvT hZt (wd hw 25)) (by decide) (backOf (W := 2) (rmat l Z a0 hw [] l4 t4 k4 cs (1 : Int32) ps c7 md p3 G1 fm h308 n0 Z_315 E4_311 Fv4_312 Fc4_313 V4_314 Tx4 S_COMPACT_STRINGS cs0 Ot_310 S_SIOOBE_FORMATTER ir_fm (by decide) hcb) hZt (wd hw 25) (wd hw 24) (by decide) (by decide)) (by rw [hml]; rfl) (argsL := [(.ref l4), (.int (1 : Int32)), (.int ps), (.int c7), (.int md), (.int p3)]) (rest := [(.int (1 : Int32)), (.ref b299)]) (lenOf pd_10 rfl) rfl (nb rfl) (hb hby at_154) rfl e308 (by decide) (by decide) fun T316 v316 L316 X316 hQ316 => ?_
      obtain ⟨cv_316, rfl, Nq316, e316, hcv_316⟩ := hQ316
      have N316 := Fr.app N308 Nq316
      refine Owe.castore X316 hx hZt e316 V308 (x := cv_316) 1 rfl (nb rfl) (by decide) (hb hby at_157) rfl fun T317 h317 X317 e317 W317 (V317 : Arv Z h317 b299 k299 .char (2 : Int32) [(.int (nar .char cv_307)), (.int (nar .char cv_316))] (.int (0 : Int32))) => ?_
      have hk318 := Nat.le_trans hk309 (Keep.of_wr W317).1
      have sf_b299_318 := Safe.wr W317 sf_b299_309 H309 sf_b299_309
      have Rr318 := Rr309.trans (CHr.wr W317 sf_b299_309 H309)
      have H318 := CHv.wr W317 sf_b299_309 H309
      have Ot_319 := Ot_310.wr W317 ge_b299
      have E4_320 := E4_311.wr W317
      have Fv4_321 := Fv4_312.other W317 (Or.inl ne_l4_b299)
      have Fc4_322 := Fc4_313.other W317 (Or.inl ne_l4_b299)
      have V4_323 := V4_314.other W317 ne_t4_b299
      have Z_324 := Nat.le_trans Z_315 (Keep.of_wr W317).1
      have N317 := Fr.snoc X317 N316 ge_b299
      refine Owe.iload X317.here hx (hb hby at_158) rfl ?_
      refine Owe.iconst X317.here hx (hb hby at_160) (w := (2 : Int32)) rfl ?_
      refine Owe.icmpYes X317.here hx (hb hby at_161) rfl (flt (by decide)).2.2.2 (pc' := 181) (by decide) (by decide) ?_
      refine Owe.iload X317.here hx (hb hby at_181) rfl ?_
      refine Owe.iconst X317.here hx (hb hby at_183) (w := (3 : Int32)) rfl ?_
      refine Owe.icmpYes X317.here hx (hb hby at_184) rfl (flt (by decide)).2.2.2 (pc' := 204) (by decide) (by decide) ?_
      refine Owe.iload X317.here hx (hb hby at_204) rfl ?_
      refine Owe.iconst X317.here hx (hb hby at_206) (w := (4 : Int32)) rfl ?_
      refine Owe.icmpYes X317.here hx (hb hby at_207) rfl (flt (by decide)).2.2.2 (pc' := 227) (by decide) (by decide) ?_
      refine Owe.iload X317.here hx (hb hby at_227) rfl ?_
      refine Owe.iconst X317.here hx (hb hby at_229) (w := (5 : Int32)) rfl ?_
      refine Owe.icmpYes X317.here hx (hb hby at_230) rfl (flt (by decide)).2.2.2 (pc' := 250) (by decide) (by decide) ?_
      refine Owe.iload X317.here hx (hb hby at_250) rfl ?_
      refine Owe.bipush X317.here hx (hb hby at_252) (w := (6 : Int32)) rfl ?_
      refine Owe.icmpYes X317.here hx (hb hby at_254) rfl (flt (by decide)).2.2.2 (pc' := 276) (by decide) (by decide) ?_
      refine Owe.iload X317.here hx (hb hby at_276) rfl ?_
      refine Owe.bipush X317.here hx (hb hby at_278) (w := (7 : Int32)) rfl ?_
      refine Owe.icmpYes X317.here hx (hb hby at_280) rfl (flt (by decide)).2.2.2 (pc' := 302) (by decide) (by decide) ?_
      refine Owe.iload X317.here hx (hb hby at_302) rfl ?_
      refine Owe.bipush X317.here hx (hb hby at_304) (w := (8 : Int32)) rfl ?_
      refine Owe.icmpYes X317.here hx (hb hby at_306) rfl (flt (by decide)).2.2.2 (pc' := 328) (by decide) (by decide) ?_
      refine Owe.iload X317.here hx (hb hby at_328) rfl ?_
      refine Owe.bipush X317.here hx (hb hby at_330) (w := (9 : Int32)) rfl ?_
      refine Owe.icmpYes X317.here hx (hb hby at_332) rfl (flt (by decide)).2.2.2 (pc' := 354) (by decide) (by decide) ?_
      refine Owe.iload X317.here hx (hb hby at_354) rfl ?_
      refine Owe.bipush X317.here hx (hb hby at_356) (w := (10 : Int32)) rfl ?_
      refine Owe.icmpYes X317.here hx (hb hby at_358) rfl (flt (by decide)).2.2.2 (pc' := 380) (by decide) (by decide) ?_
      refine Owe.iload X317.here hx (hb hby at_380) rfl ?_
      refine Owe.bipush X317.here hx (hb hby at_382) (w := (11 : Int32)) rfl ?_
      refine Owe.icmpYes X317.here hx (hb hby at_384) rfl (flt (by decide)).2.2.2 (pc' := 406) (by decide) (by decide) ?_
      refine Owe.new X317 hx hZt hownt (wd hw 48) (wd hw 2) (wd hw 1) e317 (hb hby at_406) (by decide) (by decide) fun T325 h325 b325 g325 X325 e325 E325 A325 D325 => ?_
      have ne_l4_b325 : l4 ≠ b325 := Nat.ne_of_lt (Nat.lt_of_lt_of_le E4_320.lt (Nat.le_of_eq g325.symm))
      have ne_t4_b325 : t4 ≠ b325 := Nat.ne_of_lt (Nat.lt_of_lt_of_le V4_323.lt (Nat.le_of_eq g325.symm))
      have ne_b299_b325 : b299 ≠ b325 := Nat.ne_of_lt (Nat.lt_of_lt_of_le V317.lt (Nat.le_of_eq g325.symm))
      have sf_b325 := (Safe.new (Nat.le_of_eq g325.symm) : Safe Z own_EL vmt h317 b325)
      have ge_b325 := Nat.le_trans Z_324 (Nat.le_of_eq g325.symm)
      have hk326 := Nat.le_trans hk318 E325.1
      have sf_b299_326 := Safe.ext E325 H318 sf_b299_318
      have sf_b325_326 := Safe.ext E325 H318 sf_b325
      have Rr326 := Rr318.trans (CHr.ext E325 H318)
      have H326 := CHv.ext E325 H318
      have Ot_327 := Ot_319.ext E325
      have E4_328 := E4_320.ext E325
      have Fv4_329 := Fv4_321.ext E325
      have Fc4_330 := Fc4_322.ext E325
      have V4_331 := V4_323.ext E325
      have V317_332 := V317.ext E325
      have Z_333 := Nat.le_trans Z_324 E325.1
      have Fvalue_b325 : Fld Z h325 b325 "java/lang/String" "value" "[B" .null := D325 (Or.inr (wd hw 4)) (ty := (.array .byte)) (by decide)
      have Fcoder_b325 : Fld Z h325 b325 "java/lang/String" "coder" "B" (.int (0 : Int32)) := D325 (Or.inr (wd hw 5)) (ty := .byte) (by decide)
      refine Owe.dup X325.here hx (hb hby at_409) rfl rfl ?_
      refine Owe.aload X325.here hx (hb hby at_410) rfl rfl ?_
      have hp334 : ∀ c ∈ ([(nar .char cv_307), (nar .char cv_316)] : List Int32), ¬ c < 0 ∧ ¬ (255 : Int32) < c := by
        intro c hc
        simp only [List.mem_cons, List.not_mem_nil, or_false] at hc
        rcases hc with rfl | rfl
        · exact (own_nar2 hcv_307)
        · exact (own_nar2 hcv_316)
      refine Owe.special X325 hx (y := Y1) rfl hownt (mvT hZt (wd hw 49)) (mvT hZt (wd hw 50)) (mvT hZt (wd hw 51)) (by decide) (StrChars.Road.backV (W := 1) hZt hws (kI := 4) (wd hw 2) (cs := ([(nar .char cv_307), (nar .char cv_316)] : List Int32)) (bs := ([(nar .char cv_307), (nar .char cv_316)] : List Int32).map (fun c => c.toInt8.toInt32)) (n := 2) ge_b325 Z_333 A325 Fvalue_b325 Fcoder_b325 V317_332 (S_COMPACT_STRINGS.ext Ot_327.2) cs0 rfl rfl (by decide) (by decide) hp334 rfl (by decide) (by decide)) (by rw [hml]; rfl) (a := b325) (argsL := [(.ref b299)]) (rest := [(.ref b325)]) (lenOf pd_9 rfl) rfl (nb rfl) (hb hby at_412) rfl e325 (by decide) (by decide) fun T335 v335 L335 X335 hQ335 => ?_
      obtain ⟨rfl, Nq335, K335, Ex335, Fc335, t335, kb335, gt335, ft335, nt335, Fv335, Vt335⟩ := hQ335
      have N335 := Fr.app N317 Nq335
      have ne_l4_t335 : l4 ≠ t335 := Nat.ne_of_lt (Nat.lt_of_lt_of_le E4_328.lt ft335)
      have ne_t4_t335 : t4 ≠ t335 := Nat.ne_of_lt (Nat.lt_of_lt_of_le V4_331.lt ft335)
      have ne_b299_t335 : b299 ≠ t335 := Nat.ne_of_lt (Nat.lt_of_lt_of_le V317_332.lt ft335)
      have ne_b325_t335 : b325 ≠ t335 := Nat.ne_of_lt (Nat.lt_of_lt_of_le A325.lt ft335)
      have hk336 := Nat.le_trans hk326 K335.1
      have sf_b299_336 := Safe.keep K335 (sfS sf_b325_326 sf0) H326 sf_b299_326
      have sf_b325_336 := Safe.keep K335 (sfS sf_b325_326 sf0) H326 sf_b325_326
      have Rr336 := Rr326.trans (CHr.keep K335 (sfS sf_b325_326 sf0) H326)
      have H336 := CHv.keep K335 (sfS sf_b325_326 sf0) H326
      have Ot_337 := Ot_327.keep K335 (allS ge_b325 all0)
      have E4_338 := E4_328.keep K335
      have Fv4_339 := Fv4_329.keep K335 (ninS ne_l4_b325 nin0)
      have Fc4_340 := Fc4_330.keep K335 (ninS ne_l4_b325 nin0)
      have V4_341 := V4_331.keep K335 (ninS ne_t4_b325 nin0)
      have V317_342 := V317_332.keep K335 (ninS ne_b299_b325 nin0)
      have A325_343 := A325.keep K335
      have Z_344 := Nat.le_trans Z_333 K335.1
      have Tx335 : (∀ c ∈ ([(nar .char cv_307), (nar .char cv_316)] : List Int32), ¬ c < 0 ∧ ¬ (255 : Int32) < c) ∧ ([(nar .char cv_307), (nar .char cv_316)] : List Int32).length ≤ 4000 := ⟨hp334, Nat.le_of_ble_eq_true rfl⟩
      refine Owe.astore X335.here hx (hb hby at_415) rfl rfl (l' := #[.val (.int p1), .val (.int p2), .val (.int p3), .val (.int p4), .val (.ref l4), .val (.int md), .val (.int l6), .val (.int c7), .val (.int ps), .val (.int (2 : Int32)), .val (.ref b325), .val (.ref b299)]) rfl ?_
      exact cut417 _ _ _ _ _ _ _ _ _ _ _ _ _ _ _ _ (X335.mono (by decide) (by decide)) rfl hSt hk336 hZt hownt N335 Z_344 Ot_337 H336 Rr336 Ex335 Fv335 Fc335 Vt335 Tx335
    · skip
      refine Owe.iload Xt.here hx (hb hby at_107) rfl ?_
      refine Owe.newarr Xt hx hZt (aty := .char) (wd hw 21) et (hb hby at_109) rfl (by decide) (cap := 3) (by decide) (by decide) (by decide) (by decide) fun T345 h345 b345 k345 g345 X345 e345 E345 V345 => ?_
      have ne_l4_b345 : l4 ≠ b345 := Nat.ne_of_lt (Nat.lt_of_lt_of_le E4.lt (Nat.le_of_eq g345.symm))
      have ne_t4_b345 : t4 ≠ b345 := Nat.ne_of_lt (Nat.lt_of_lt_of_le V4.lt (Nat.le_of_eq g345.symm))
      have sf_b345 := (Safe.new (Nat.le_of_eq g345.symm) : Safe Z own_EL vmt ht b345)
      have ge_b345 := Nat.le_trans Zt (Nat.le_of_eq g345.symm)
      have hk346 := Nat.le_trans hkt E345.1
      have sf_b345_346 := Safe.ext E345 Ht sf_b345
      have Rr346 := Rt.trans (CHr.ext E345 Ht)
      have H346 := CHv.ext E345 Ht
      have Ot_347 := Ot.ext E345
      have E4_348 := E4.ext E345
      have Fv4_349 := Fv4.ext E345
      have Fc4_350 := Fc4.ext E345
      have V4_351 := V4.ext E345
      have Z_352 := Nat.le_trans Zt E345.1
      have V_b345_345 : Arv Z h345 b345 k345 .char (3 : Int32) [(.int (0 : Int32)), (.int (0 : Int32)), (.int (0 : Int32))] (.int (0 : Int32)) := V345.pad (pad_rep [] (.int (0 : Int32)) 3)
      refine Owe.astore X345.here hx (hb hby at_111) rfl rfl (l' := #[.val (.int p1), .val (.int p2), .val (.int p3), .val (.int p4), .val (.ref l4), .val (.int md), .val (.int l6), .val (.int c7), .val (.int ps), .val (.int (3 : Int32)), .val .null, .val (.ref b345)]) rfl ?_
      refine Owe.iload X345.here hx (hb hby at_113) rfl ?_
      refine Owe.ifNo X345.here hx (hb hby at_115) rfl ((if0 _ _).trans (tlt (by decide)).2.2.2) ?_
      refine Owe.aload X345.here hx (hb hby at_118) rfl rfl ?_
      refine Owe.iconst X345.here hx (hb hby at_120) (w := (0 : Int32)) rfl ?_
      refine Owe.aload X345.here hx (hb hby at_121) rfl rfl ?_
      refine Owe.iconst X345.here hx (hb hby at_123) (w := (0 : Int32)) rfl ?_
      refine Owe.iload X345.here hx (hb hby at_124) rfl ?_
      refine Owe.iload X345.here hx (hb hby at_126) rfl ?_
      refine Owe.iload X345.here hx (hb hby at_128) rfl ?_
      refine Owe.iloadN X345.here hx (hb hby at_130) rfl ?_
      refine Owe.stat X345 hx (y := Y7) hownt (mvT hZt (wd hw 22)) (mvT hZt (wd hw 23)) (mvT hZt (wd hw 24)) (mvT hZt (wd hw 25)) (by decide) (backOf (W := 2) (rmat l Z a0 hw [] l4 t4 k4 cs (0 : Int32) ps c7 md p3 G1 fm h345 n0 Z_352 E4_348 Fv4_349 Fc4_350 V4_351 Tx4 S_COMPACT_STRINGS cs0 Ot_347 S_SIOOBE_FORMATTER ir_fm (by decide) hcb) hZt (wd hw 25) (wd hw 24) (by decide) (by decide)) (by rw [hml]; rfl) (argsL := [(.ref l4), (.int (0 : Int32)), (.int ps), (.int c7), (.int md), (.int p3)]) (rest := [(.int (0 : Int32)), (.ref b345)]) (lenOf pd_10 rfl) rfl (nb rfl) (hb hby at_131) rfl e345 (by decide) (by decide) fun T353 v353 L353 X353 hQ353 => ?_
      obtain ⟨cv_353, rfl, Nq353, e353, hcv_353⟩ := hQ353
      have N353 := Fr.app Nt Nq353
      refine Owe.castore X353 hx hZt e353 V_b345_345 (x := cv_353) 0 rfl (nb rfl) (by decide) (hb hby at_134) rfl fun T354 h354 X354 e354 W354 (V354 : Arv Z h354 b345 k345 .char (3 : Int32) [(.int (nar .char cv_353)), (.int (0 : Int32)), (.int (0 : Int32))] (.int (0 : Int32))) => ?_
      have hk355 := Nat.le_trans hk346 (Keep.of_wr W354).1
      have sf_b345_355 := Safe.wr W354 sf_b345_346 H346 sf_b345_346
      have Rr355 := Rr346.trans (CHr.wr W354 sf_b345_346 H346)
      have H355 := CHv.wr W354 sf_b345_346 H346
      have Ot_356 := Ot_347.wr W354 ge_b345
      have E4_357 := E4_348.wr W354
      have Fv4_358 := Fv4_349.other W354 (Or.inl ne_l4_b345)
      have Fc4_359 := Fc4_350.other W354 (Or.inl ne_l4_b345)
      have V4_360 := V4_351.other W354 ne_t4_b345
      have Z_361 := Nat.le_trans Z_352 (Keep.of_wr W354).1
      have N354 := Fr.snoc X354 N353 ge_b345
      refine Owe.iload X354.here hx (hb hby at_135) rfl ?_
      refine Owe.iconst X354.here hx (hb hby at_137) (w := (1 : Int32)) rfl ?_
      refine Owe.icmpNo X354.here hx (hb hby at_138) rfl (tlt (by decide)).2.2.2 ?_
      refine Owe.aload X354.here hx (hb hby at_141) rfl rfl ?_
      refine Owe.iconst X354.here hx (hb hby at_143) (w := (1 : Int32)) rfl ?_
      refine Owe.aload X354.here hx (hb hby at_144) rfl rfl ?_
      refine Owe.iconst X354.here hx (hb hby at_146) (w := (1 : Int32)) rfl ?_
      refine Owe.iload X354.here hx (hb hby at_147) rfl ?_
      refine Owe.iload X354.here hx (hb hby at_149) rfl ?_
      refine Owe.iload X354.here hx (hb hby at_151) rfl ?_
      refine Owe.iloadN X354.here hx (hb hby at_153) rfl ?_
      refine Owe.stat X354 hx (y := Y7) hownt (mvT hZt (wd hw 22)) (mvT hZt (wd hw 23)) (mvT hZt (wd hw 24)) (mvT hZt (wd hw 25)) (by decide) (backOf (W := 2) (rmat l Z a0 hw [] l4 t4 k4 cs (1 : Int32) ps c7 md p3 G1 fm h354 n0 Z_361 E4_357 Fv4_358 Fc4_359 V4_360 Tx4 S_COMPACT_STRINGS cs0 Ot_356 S_SIOOBE_FORMATTER ir_fm (by decide) hcb) hZt (wd hw 25) (wd hw 24) (by decide) (by decide)) (by rw [hml]; rfl) (argsL := [(.ref l4), (.int (1 : Int32)), (.int ps), (.int c7), (.int md), (.int p3)]) (rest := [(.int (1 : Int32)), (.ref b345)]) (lenOf pd_10 rfl) rfl (nb rfl) (hb hby at_154) rfl e354 (by decide) (by decide) fun T362 v362 L362 X362 hQ362 => ?_
      obtain ⟨cv_362, rfl, Nq362, e362, hcv_362⟩ := hQ362
      have N362 := Fr.app N354 Nq362
      refine Owe.castore X362 hx hZt e362 V354 (x := cv_362) 1 rfl (nb rfl) (by decide) (hb hby at_157) rfl fun T363 h363 X363 e363 W363 (V363 : Arv Z h363 b345 k345 .char (3 : Int32) [(.int (nar .char cv_353)), (.int (nar .char cv_362)), (.int (0 : Int32))] (.int (0 : Int32))) => ?_
      have hk364 := Nat.le_trans hk355 (Keep.of_wr W363).1
      have sf_b345_364 := Safe.wr W363 sf_b345_355 H355 sf_b345_355
      have Rr364 := Rr355.trans (CHr.wr W363 sf_b345_355 H355)
      have H364 := CHv.wr W363 sf_b345_355 H355
      have Ot_365 := Ot_356.wr W363 ge_b345
      have E4_366 := E4_357.wr W363
      have Fv4_367 := Fv4_358.other W363 (Or.inl ne_l4_b345)
      have Fc4_368 := Fc4_359.other W363 (Or.inl ne_l4_b345)
      have V4_369 := V4_360.other W363 ne_t4_b345
      have Z_370 := Nat.le_trans Z_361 (Keep.of_wr W363).1
      have N363 := Fr.snoc X363 N362 ge_b345
      refine Owe.iload X363.here hx (hb hby at_158) rfl ?_
      refine Owe.iconst X363.here hx (hb hby at_160) (w := (2 : Int32)) rfl ?_
      refine Owe.icmpNo X363.here hx (hb hby at_161) rfl (tlt (by decide)).2.2.2 ?_
      refine Owe.aload X363.here hx (hb hby at_164) rfl rfl ?_
      refine Owe.iconst X363.here hx (hb hby at_166) (w := (2 : Int32)) rfl ?_
      refine Owe.aload X363.here hx (hb hby at_167) rfl rfl ?_
      refine Owe.iconst X363.here hx (hb hby at_169) (w := (2 : Int32)) rfl ?_
      refine Owe.iload X363.here hx (hb hby at_170) rfl ?_
      refine Owe.iload X363.here hx (hb hby at_172) rfl ?_
      refine Owe.iload X363.here hx (hb hby at_174) rfl ?_
      refine Owe.iloadN X363.here hx (hb hby at_176) rfl ?_
      refine Owe.stat X363 hx (y := Y7) hownt (mvT hZt (wd hw 22)) (mvT hZt (wd hw 23)) (mvT hZt (wd hw 24)) (mvT hZt (wd hw 25)) (by decide) (backOf (W := 2) (rmat l Z a0 hw [] l4 t4 k4 cs (2 : Int32) ps c7 md p3 G1 fm h363 n0 Z_370 E4_366 Fv4_367 Fc4_368 V4_369 Tx4 S_COMPACT_STRINGS cs0 Ot_365 S_SIOOBE_FORMATTER ir_fm (by decide) hcb) hZt (wd hw 25) (wd hw 24) (by decide) (by decide)) (by rw [hml]; rfl) (argsL := [(.ref l4), (.int (2 : Int32)), (.int ps), (.int c7), (.int md), (.int p3)]) (rest := [(.int (2 : Int32)), (.ref b345)]) (lenOf pd_10 rfl) rfl (nb rfl) (hb hby at_177) rfl e363 (by decide) (by decide) fun T371 v371 L371 X371 hQ371 => ?_
      obtain ⟨cv_371, rfl, Nq371, e371, hcv_371⟩ := hQ371
      have N371 := Fr.app N363 Nq371
      refine Owe.castore X371 hx hZt e371 V363 (x := cv_371) 2 rfl (nb rfl) (by decide) (hb hby at_180) rfl fun T372 h372 X372 e372 W372 (V372 : Arv Z h372 b345 k345 .char (3 : Int32) [(.int (nar .char cv_353)), (.int (nar .char cv_362)), (.int (nar .char cv_371))] (.int (0 : Int32))) => ?_
      have hk373 := Nat.le_trans hk364 (Keep.of_wr W372).1
      have sf_b345_373 := Safe.wr W372 sf_b345_364 H364 sf_b345_364
      have Rr373 := Rr364.trans (CHr.wr W372 sf_b345_364 H364)
      have H373 := CHv.wr W372 sf_b345_364 H364
      have Ot_374 := Ot_365.wr W372 ge_b345
      have E4_375 := E4_366.wr W372
      have Fv4_376 := Fv4_367.other W372 (Or.inl ne_l4_b345)
      have Fc4_377 := Fc4_368.other W372 (Or.inl ne_l4_b345)
      have V4_378 := V4_369.other W372 ne_t4_b345
      have Z_379 := Nat.le_trans Z_370 (Keep.of_wr W372).1
      have N372 := Fr.snoc X372 N371 ge_b345
      refine Owe.iload X372.here hx (hb hby at_181) rfl ?_
      refine Owe.iconst X372.here hx (hb hby at_183) (w := (3 : Int32)) rfl ?_
      refine Owe.icmpYes X372.here hx (hb hby at_184) rfl (flt (by decide)).2.2.2 (pc' := 204) (by decide) (by decide) ?_
      refine Owe.iload X372.here hx (hb hby at_204) rfl ?_
      refine Owe.iconst X372.here hx (hb hby at_206) (w := (4 : Int32)) rfl ?_
      refine Owe.icmpYes X372.here hx (hb hby at_207) rfl (flt (by decide)).2.2.2 (pc' := 227) (by decide) (by decide) ?_
      refine Owe.iload X372.here hx (hb hby at_227) rfl ?_
      refine Owe.iconst X372.here hx (hb hby at_229) (w := (5 : Int32)) rfl ?_
      refine Owe.icmpYes X372.here hx (hb hby at_230) rfl (flt (by decide)).2.2.2 (pc' := 250) (by decide) (by decide) ?_
      refine Owe.iload X372.here hx (hb hby at_250) rfl ?_
      refine Owe.bipush X372.here hx (hb hby at_252) (w := (6 : Int32)) rfl ?_
      refine Owe.icmpYes X372.here hx (hb hby at_254) rfl (flt (by decide)).2.2.2 (pc' := 276) (by decide) (by decide) ?_
      refine Owe.iload X372.here hx (hb hby at_276) rfl ?_
      refine Owe.bipush X372.here hx (hb hby at_278) (w := (7 : Int32)) rfl ?_
      refine Owe.icmpYes X372.here hx (hb hby at_280) rfl (flt (by decide)).2.2.2 (pc' := 302) (by decide) (by decide) ?_
      refine Owe.iload X372.here hx (hb hby at_302) rfl ?_
      refine Owe.bipush X372.here hx (hb hby at_304) (w := (8 : Int32)) rfl ?_
      refine Owe.icmpYes X372.here hx (hb hby at_306) rfl (flt (by decide)).2.2.2 (pc' := 328) (by decide) (by decide) ?_
      refine Owe.iload X372.here hx (hb hby at_328) rfl ?_
      refine Owe.bipush X372.here hx (hb hby at_330) (w := (9 : Int32)) rfl ?_
      refine Owe.icmpYes X372.here hx (hb hby at_332) rfl (flt (by decide)).2.2.2 (pc' := 354) (by decide) (by decide) ?_
      refine Owe.iload X372.here hx (hb hby at_354) rfl ?_
      refine Owe.bipush X372.here hx (hb hby at_356) (w := (10 : Int32)) rfl ?_
      refine Owe.icmpYes X372.here hx (hb hby at_358) rfl (flt (by decide)).2.2.2 (pc' := 380) (by decide) (by decide) ?_
      refine Owe.iload X372.here hx (hb hby at_380) rfl ?_
      refine Owe.bipush X372.here hx (hb hby at_382) (w := (11 : Int32)) rfl ?_
      refine Owe.icmpYes X372.here hx (hb hby at_384) rfl (flt (by decide)).2.2.2 (pc' := 406) (by decide) (by decide) ?_
      refine Owe.new X372 hx hZt hownt (wd hw 48) (wd hw 2) (wd hw 1) e372 (hb hby at_406) (by decide) (by decide) fun T380 h380 b380 g380 X380 e380 E380 A380 D380 => ?_
      have ne_l4_b380 : l4 ≠ b380 := Nat.ne_of_lt (Nat.lt_of_lt_of_le E4_375.lt (Nat.le_of_eq g380.symm))
      have ne_t4_b380 : t4 ≠ b380 := Nat.ne_of_lt (Nat.lt_of_lt_of_le V4_378.lt (Nat.le_of_eq g380.symm))
      have ne_b345_b380 : b345 ≠ b380 := Nat.ne_of_lt (Nat.lt_of_lt_of_le V372.lt (Nat.le_of_eq g380.symm))
      have sf_b380 := (Safe.new (Nat.le_of_eq g380.symm) : Safe Z own_EL vmt h372 b380)
      have ge_b380 := Nat.le_trans Z_379 (Nat.le_of_eq g380.symm)
      have hk381 := Nat.le_trans hk373 E380.1
      have sf_b345_381 := Safe.ext E380 H373 sf_b345_373
      have sf_b380_381 := Safe.ext E380 H373 sf_b380
      have Rr381 := Rr373.trans (CHr.ext E380 H373)
      have H381 := CHv.ext E380 H373
      have Ot_382 := Ot_374.ext E380
      have E4_383 := E4_375.ext E380
      have Fv4_384 := Fv4_376.ext E380
      have Fc4_385 := Fc4_377.ext E380
      have V4_386 := V4_378.ext E380
      have V372_387 := V372.ext E380
      have Z_388 := Nat.le_trans Z_379 E380.1
      have Fvalue_b380 : Fld Z h380 b380 "java/lang/String" "value" "[B" .null := D380 (Or.inr (wd hw 4)) (ty := (.array .byte)) (by decide)
      have Fcoder_b380 : Fld Z h380 b380 "java/lang/String" "coder" "B" (.int (0 : Int32)) := D380 (Or.inr (wd hw 5)) (ty := .byte) (by decide)
      refine Owe.dup X380.here hx (hb hby at_409) rfl rfl ?_
      refine Owe.aload X380.here hx (hb hby at_410) rfl rfl ?_
      have hp389 : ∀ c ∈ ([(nar .char cv_353), (nar .char cv_362), (nar .char cv_371)] : List Int32), ¬ c < 0 ∧ ¬ (255 : Int32) < c := by
        intro c hc
        simp only [List.mem_cons, List.not_mem_nil, or_false] at hc
        rcases hc with rfl | rfl | rfl
        · exact (own_nar2 hcv_353)
        · exact (own_nar2 hcv_362)
        · exact (own_nar2 hcv_371)
      refine Owe.special X380 hx (y := Y1) rfl hownt (mvT hZt (wd hw 49)) (mvT hZt (wd hw 50)) (mvT hZt (wd hw 51)) (by decide) (StrChars.Road.backV (W := 1) hZt hws (kI := 4) (wd hw 2) (cs := ([(nar .char cv_353), (nar .char cv_362), (nar .char cv_371)] : List Int32)) (bs := ([(nar .char cv_353), (nar .char cv_362), (nar .char cv_371)] : List Int32).map (fun c => c.toInt8.toInt32)) (n := 3) ge_b380 Z_388 A380 Fvalue_b380 Fcoder_b380 V372_387 (S_COMPACT_STRINGS.ext Ot_382.2) cs0 rfl rfl (by decide) (by decide) hp389 rfl (by decide) (by decide)) (by rw [hml]; rfl) (a := b380) (argsL := [(.ref b345)]) (rest := [(.ref b380)]) (lenOf pd_9 rfl) rfl (nb rfl) (hb hby at_412) rfl e380 (by decide) (by decide) fun T390 v390 L390 X390 hQ390 => ?_
      obtain ⟨rfl, Nq390, K390, Ex390, Fc390, t390, kb390, gt390, ft390, nt390, Fv390, Vt390⟩ := hQ390
      have N390 := Fr.app N372 Nq390
      have ne_l4_t390 : l4 ≠ t390 := Nat.ne_of_lt (Nat.lt_of_lt_of_le E4_383.lt ft390)
      have ne_t4_t390 : t4 ≠ t390 := Nat.ne_of_lt (Nat.lt_of_lt_of_le V4_386.lt ft390)
      have ne_b345_t390 : b345 ≠ t390 := Nat.ne_of_lt (Nat.lt_of_lt_of_le V372_387.lt ft390)
      have ne_b380_t390 : b380 ≠ t390 := Nat.ne_of_lt (Nat.lt_of_lt_of_le A380.lt ft390)
      have hk391 := Nat.le_trans hk381 K390.1
      have sf_b345_391 := Safe.keep K390 (sfS sf_b380_381 sf0) H381 sf_b345_381
      have sf_b380_391 := Safe.keep K390 (sfS sf_b380_381 sf0) H381 sf_b380_381
      have Rr391 := Rr381.trans (CHr.keep K390 (sfS sf_b380_381 sf0) H381)
      have H391 := CHv.keep K390 (sfS sf_b380_381 sf0) H381
      have Ot_392 := Ot_382.keep K390 (allS ge_b380 all0)
      have E4_393 := E4_383.keep K390
      have Fv4_394 := Fv4_384.keep K390 (ninS ne_l4_b380 nin0)
      have Fc4_395 := Fc4_385.keep K390 (ninS ne_l4_b380 nin0)
      have V4_396 := V4_386.keep K390 (ninS ne_t4_b380 nin0)
      have V372_397 := V372_387.keep K390 (ninS ne_b345_b380 nin0)
      have A380_398 := A380.keep K390
      have Z_399 := Nat.le_trans Z_388 K390.1
      have Tx390 : (∀ c ∈ ([(nar .char cv_353), (nar .char cv_362), (nar .char cv_371)] : List Int32), ¬ c < 0 ∧ ¬ (255 : Int32) < c) ∧ ([(nar .char cv_353), (nar .char cv_362), (nar .char cv_371)] : List Int32).length ≤ 4000 := ⟨hp389, Nat.le_of_ble_eq_true rfl⟩
      refine Owe.astore X390.here hx (hb hby at_415) rfl rfl (l' := #[.val (.int p1), .val (.int p2), .val (.int p3), .val (.int p4), .val (.ref l4), .val (.int md), .val (.int l6), .val (.int c7), .val (.int ps), .val (.int (3 : Int32)), .val (.ref b380), .val (.ref b345)]) rfl ?_
      exact cut417 _ _ _ _ _ _ _ _ _ _ _ _ _ _ _ _ (X390.mono (by decide) (by decide)) rfl hSt hk391 hZt hownt N390 Z_399 Ot_392 H391 Rr391 Ex390 Fv390 Fc390 Vt390 Tx390
    · skip
      refine Owe.iload Xt.here hx (hb hby at_107) rfl ?_
      refine Owe.newarr Xt hx hZt (aty := .char) (wd hw 21) et (hb hby at_109) rfl (by decide) (cap := 4) (by decide) (by decide) (by decide) (by decide) fun T400 h400 b400 k400 g400 X400 e400 E400 V400 => ?_
      have ne_l4_b400 : l4 ≠ b400 := Nat.ne_of_lt (Nat.lt_of_lt_of_le E4.lt (Nat.le_of_eq g400.symm))
      have ne_t4_b400 : t4 ≠ b400 := Nat.ne_of_lt (Nat.lt_of_lt_of_le V4.lt (Nat.le_of_eq g400.symm))
      have sf_b400 := (Safe.new (Nat.le_of_eq g400.symm) : Safe Z own_EL vmt ht b400)
      have ge_b400 := Nat.le_trans Zt (Nat.le_of_eq g400.symm)
      have hk401 := Nat.le_trans hkt E400.1
      have sf_b400_401 := Safe.ext E400 Ht sf_b400
      have Rr401 := Rt.trans (CHr.ext E400 Ht)
      have H401 := CHv.ext E400 Ht
      have Ot_402 := Ot.ext E400
      have E4_403 := E4.ext E400
      have Fv4_404 := Fv4.ext E400
      have Fc4_405 := Fc4.ext E400
      have V4_406 := V4.ext E400
      have Z_407 := Nat.le_trans Zt E400.1
      have V_b400_400 : Arv Z h400 b400 k400 .char (4 : Int32) [(.int (0 : Int32)), (.int (0 : Int32)), (.int (0 : Int32)), (.int (0 : Int32))] (.int (0 : Int32)) := V400.pad (pad_rep [] (.int (0 : Int32)) 4)
      refine Owe.astore X400.here hx (hb hby at_111) rfl rfl (l' := #[.val (.int p1), .val (.int p2), .val (.int p3), .val (.int p4), .val (.ref l4), .val (.int md), .val (.int l6), .val (.int c7), .val (.int ps), .val (.int (4 : Int32)), .val .null, .val (.ref b400)]) rfl ?_
      refine Owe.iload X400.here hx (hb hby at_113) rfl ?_
      refine Owe.ifNo X400.here hx (hb hby at_115) rfl ((if0 _ _).trans (tlt (by decide)).2.2.2) ?_
      refine Owe.aload X400.here hx (hb hby at_118) rfl rfl ?_
      refine Owe.iconst X400.here hx (hb hby at_120) (w := (0 : Int32)) rfl ?_
      refine Owe.aload X400.here hx (hb hby at_121) rfl rfl ?_
      refine Owe.iconst X400.here hx (hb hby at_123) (w := (0 : Int32)) rfl ?_
      refine Owe.iload X400.here hx (hb hby at_124) rfl ?_
      refine Owe.iload X400.here hx (hb hby at_126) rfl ?_
      refine Owe.iload X400.here hx (hb hby at_128) rfl ?_
      refine Owe.iloadN X400.here hx (hb hby at_130) rfl ?_
      refine Owe.stat X400 hx (y := Y7) hownt (mvT hZt (wd hw 22)) (mvT hZt (wd hw 23)) (mvT hZt (wd hw 24)) (mvT hZt (wd hw 25)) (by decide) (backOf (W := 2) (rmat l Z a0 hw [] l4 t4 k4 cs (0 : Int32) ps c7 md p3 G1 fm h400 n0 Z_407 E4_403 Fv4_404 Fc4_405 V4_406 Tx4 S_COMPACT_STRINGS cs0 Ot_402 S_SIOOBE_FORMATTER ir_fm (by decide) hcb) hZt (wd hw 25) (wd hw 24) (by decide) (by decide)) (by rw [hml]; rfl) (argsL := [(.ref l4), (.int (0 : Int32)), (.int ps), (.int c7), (.int md), (.int p3)]) (rest := [(.int (0 : Int32)), (.ref b400)]) (lenOf pd_10 rfl) rfl (nb rfl) (hb hby at_131) rfl e400 (by decide) (by decide) fun T408 v408 L408 X408 hQ408 => ?_
      obtain ⟨cv_408, rfl, Nq408, e408, hcv_408⟩ := hQ408
      have N408 := Fr.app Nt Nq408
      refine Owe.castore X408 hx hZt e408 V_b400_400 (x := cv_408) 0 rfl (nb rfl) (by decide) (hb hby at_134) rfl fun T409 h409 X409 e409 W409 (V409 : Arv Z h409 b400 k400 .char (4 : Int32) [(.int (nar .char cv_408)), (.int (0 : Int32)), (.int (0 : Int32)), (.int (0 : Int32))] (.int (0 : Int32))) => ?_
      have hk410 := Nat.le_trans hk401 (Keep.of_wr W409).1
      have sf_b400_410 := Safe.wr W409 sf_b400_401 H401 sf_b400_401
      have Rr410 := Rr401.trans (CHr.wr W409 sf_b400_401 H401)
      have H410 := CHv.wr W409 sf_b400_401 H401
      have Ot_411 := Ot_402.wr W409 ge_b400
      have E4_412 := E4_403.wr W409
      have Fv4_413 := Fv4_404.other W409 (Or.inl ne_l4_b400)
      have Fc4_414 := Fc4_405.other W409 (Or.inl ne_l4_b400)
      have V4_415 := V4_406.other W409 ne_t4_b400
      have Z_416 := Nat.le_trans Z_407 (Keep.of_wr W409).1
      have N409 := Fr.snoc X409 N408 ge_b400
      refine Owe.iload X409.here hx (hb hby at_135) rfl ?_
      refine Owe.iconst X409.here hx (hb hby at_137) (w := (1 : Int32)) rfl ?_
      refine Owe.icmpNo X409.here hx (hb hby at_138) rfl (tlt (by decide)).2.2.2 ?_
      refine Owe.aload X409.here hx (hb hby at_141) rfl rfl ?_
      refine Owe.iconst X409.here hx (hb hby at_143) (w := (1 : Int32)) rfl ?_
      refine Owe.aload X409.here hx (hb hby at_144) rfl rfl ?_
      refine Owe.iconst X409.here hx (hb hby at_146) (w := (1 : Int32)) rfl ?_
      refine Owe.iload X409.here hx (hb hby at_147) rfl ?_
      refine Owe.iload X409.here hx (hb hby at_149) rfl ?_
      refine Owe.iload X409.here hx (hb hby at_151) rfl ?_
      refine Owe.iloadN X409.here hx (hb hby at_153) rfl ?_
      refine Owe.stat X409 hx (y := Y7) hownt (mvT hZt (wd hw 22)) (mvT hZt (wd hw 23)) (mvT hZt (wd hw 24)) (mvT hZt (wd hw 25)) (by decide) (backOf (W := 2) (rmat l Z a0 hw [] l4 t4 k4 cs (1 : Int32) ps c7 md p3 G1 fm h409 n0 Z_416 E4_412 Fv4_413 Fc4_414 V4_415 Tx4 S_COMPACT_STRINGS cs0 Ot_411 S_SIOOBE_FORMATTER ir_fm (by decide) hcb) hZt (wd hw 25) (wd hw 24) (by decide) (by decide)) (by rw [hml]; rfl) (argsL := [(.ref l4), (.int (1 : Int32)), (.int ps), (.int c7), (.int md), (.int p3)]) (rest := [(.int (1 : Int32)), (.ref b400)]) (lenOf pd_10 rfl) rfl (nb rfl) (hb hby at_154) rfl e409 (by decide) (by decide) fun T417 v417 L417 X417 hQ417 => ?_
      obtain ⟨cv_417, rfl, Nq417, e417, hcv_417⟩ := hQ417
      have N417 := Fr.app N409 Nq417
      refine Owe.castore X417 hx hZt e417 V409 (x := cv_417) 1 rfl (nb rfl) (by decide) (hb hby at_157) rfl fun T418 h418 X418 e418 W418 (V418 : Arv Z h418 b400 k400 .char (4 : Int32) [(.int (nar .char cv_408)), (.int (nar .char cv_417)), (.int (0 : Int32)), (.int (0 : Int32))] (.int (0 : Int32))) => ?_
      have hk419 := Nat.le_trans hk410 (Keep.of_wr W418).1
      have sf_b400_419 := Safe.wr W418 sf_b400_410 H410 sf_b400_410
      have Rr419 := Rr410.trans (CHr.wr W418 sf_b400_410 H410)
      have H419 := CHv.wr W418 sf_b400_410 H410
      have Ot_420 := Ot_411.wr W418 ge_b400
      have E4_421 := E4_412.wr W418
      have Fv4_422 := Fv4_413.other W418 (Or.inl ne_l4_b400)
      have Fc4_423 := Fc4_414.other W418 (Or.inl ne_l4_b400)
      have V4_424 := V4_415.other W418 ne_t4_b400
      have Z_425 := Nat.le_trans Z_416 (Keep.of_wr W418).1
      have N418 := Fr.snoc X418 N417 ge_b400
      refine Owe.iload X418.here hx (hb hby at_158) rfl ?_
      refine Owe.iconst X418.here hx (hb hby at_160) (w := (2 : Int32)) rfl ?_
      refine Owe.icmpNo X418.here hx (hb hby at_161) rfl (tlt (by decide)).2.2.2 ?_
      refine Owe.aload X418.here hx (hb hby at_164) rfl rfl ?_
      refine Owe.iconst X418.here hx (hb hby at_166) (w := (2 : Int32)) rfl ?_
      refine Owe.aload X418.here hx (hb hby at_167) rfl rfl ?_
      refine Owe.iconst X418.here hx (hb hby at_169) (w := (2 : Int32)) rfl ?_
      refine Owe.iload X418.here hx (hb hby at_170) rfl ?_
      refine Owe.iload X418.here hx (hb hby at_172) rfl ?_
      refine Owe.iload X418.here hx (hb hby at_174) rfl ?_
      refine Owe.iloadN X418.here hx (hb hby at_176) rfl ?_
      refine Owe.stat X418 hx (y := Y7) hownt (mvT hZt (wd hw 22)) (mvT hZt (wd hw 23)) (mvT hZt (wd hw 24)) (mvT hZt (wd hw 25)) (by decide) (backOf (W := 2) (rmat l Z a0 hw [] l4 t4 k4 cs (2 : Int32) ps c7 md p3 G1 fm h418 n0 Z_425 E4_421 Fv4_422 Fc4_423 V4_424 Tx4 S_COMPACT_STRINGS cs0 Ot_420 S_SIOOBE_FORMATTER ir_fm (by decide) hcb) hZt (wd hw 25) (wd hw 24) (by decide) (by decide)) (by rw [hml]; rfl) (argsL := [(.ref l4), (.int (2 : Int32)), (.int ps), (.int c7), (.int md), (.int p3)]) (rest := [(.int (2 : Int32)), (.ref b400)]) (lenOf pd_10 rfl) rfl (nb rfl) (hb hby at_177) rfl e418 (by decide) (by decide) fun T426 v426 L426 X426 hQ426 => ?_
      obtain ⟨cv_426, rfl, Nq426, e426, hcv_426⟩ := hQ426
      have N426 := Fr.app N418 Nq426
      refine Owe.castore X426 hx hZt e426 V418 (x := cv_426) 2 rfl (nb rfl) (by decide) (hb hby at_180) rfl fun T427 h427 X427 e427 W427 (V427 : Arv Z h427 b400 k400 .char (4 : Int32) [(.int (nar .char cv_408)), (.int (nar .char cv_417)), (.int (nar .char cv_426)), (.int (0 : Int32))] (.int (0 : Int32))) => ?_
      have hk428 := Nat.le_trans hk419 (Keep.of_wr W427).1
      have sf_b400_428 := Safe.wr W427 sf_b400_419 H419 sf_b400_419
      have Rr428 := Rr419.trans (CHr.wr W427 sf_b400_419 H419)
      have H428 := CHv.wr W427 sf_b400_419 H419
      have Ot_429 := Ot_420.wr W427 ge_b400
      have E4_430 := E4_421.wr W427
      have Fv4_431 := Fv4_422.other W427 (Or.inl ne_l4_b400)
      have Fc4_432 := Fc4_423.other W427 (Or.inl ne_l4_b400)
      have V4_433 := V4_424.other W427 ne_t4_b400
      have Z_434 := Nat.le_trans Z_425 (Keep.of_wr W427).1
      have N427 := Fr.snoc X427 N426 ge_b400
      refine Owe.iload X427.here hx (hb hby at_181) rfl ?_
      refine Owe.iconst X427.here hx (hb hby at_183) (w := (3 : Int32)) rfl ?_
      refine Owe.icmpNo X427.here hx (hb hby at_184) rfl (tlt (by decide)).2.2.2 ?_
      refine Owe.aload X427.here hx (hb hby at_187) rfl rfl ?_
      refine Owe.iconst X427.here hx (hb hby at_189) (w := (3 : Int32)) rfl ?_
      refine Owe.aload X427.here hx (hb hby at_190) rfl rfl ?_
      refine Owe.iconst X427.here hx (hb hby at_192) (w := (3 : Int32)) rfl ?_
      refine Owe.iload X427.here hx (hb hby at_193) rfl ?_
      refine Owe.iload X427.here hx (hb hby at_195) rfl ?_
      refine Owe.iload X427.here hx (hb hby at_197) rfl ?_
      refine Owe.iloadN X427.here hx (hb hby at_199) rfl ?_
      refine Owe.stat X427 hx (y := Y7) hownt (mvT hZt (wd hw 22)) (mvT hZt (wd hw 23)) (mvT hZt (wd hw 24)) (mvT hZt (wd hw 25)) (by decide) (backOf (W := 2) (rmat l Z a0 hw [] l4 t4 k4 cs (3 : Int32) ps c7 md p3 G1 fm h427 n0 Z_434 E4_430 Fv4_431 Fc4_432 V4_433 Tx4 S_COMPACT_STRINGS cs0 Ot_429 S_SIOOBE_FORMATTER ir_fm (by decide) hcb) hZt (wd hw 25) (wd hw 24) (by decide) (by decide)) (by rw [hml]; rfl) (argsL := [(.ref l4), (.int (3 : Int32)), (.int ps), (.int c7), (.int md), (.int p3)]) (rest := [(.int (3 : Int32)), (.ref b400)]) (lenOf pd_10 rfl) rfl (nb rfl) (hb hby at_200) rfl e427 (by decide) (by decide) fun T435 v435 L435 X435 hQ435 => ?_
      obtain ⟨cv_435, rfl, Nq435, e435, hcv_435⟩ := hQ435
      have N435 := Fr.app N427 Nq435
      refine Owe.castore X435 hx hZt e435 V427 (x := cv_435) 3 rfl (nb rfl) (by decide) (hb hby at_203) rfl fun T436 h436 X436 e436 W436 (V436 : Arv Z h436 b400 k400 .char (4 : Int32) [(.int (nar .char cv_408)), (.int (nar .char cv_417)), (.int (nar .char cv_426)), (.int (nar .char cv_435))] (.int (0 : Int32))) => ?_
      have hk437 := Nat.le_trans hk428 (Keep.of_wr W436).1
      have sf_b400_437 := Safe.wr W436 sf_b400_428 H428 sf_b400_428
      have Rr437 := Rr428.trans (CHr.wr W436 sf_b400_428 H428)
      have H437 := CHv.wr W436 sf_b400_428 H428
      have Ot_438 := Ot_429.wr W436 ge_b400
      have E4_439 := E4_430.wr W436
      have Fv4_440 := Fv4_431.other W436 (Or.inl ne_l4_b400)
      have Fc4_441 := Fc4_432.other W436 (Or.inl ne_l4_b400)
      have V4_442 := V4_433.other W436 ne_t4_b400
      have Z_443 := Nat.le_trans Z_434 (Keep.of_wr W436).1
      have N436 := Fr.snoc X436 N435 ge_b400
      refine Owe.iload X436.here hx (hb hby at_204) rfl ?_
      refine Owe.iconst X436.here hx (hb hby at_206) (w := (4 : Int32)) rfl ?_
      refine Owe.icmpYes X436.here hx (hb hby at_207) rfl (flt (by decide)).2.2.2 (pc' := 227) (by decide) (by decide) ?_
      refine Owe.iload X436.here hx (hb hby at_227) rfl ?_
      refine Owe.iconst X436.here hx (hb hby at_229) (w := (5 : Int32)) rfl ?_
      refine Owe.icmpYes X436.here hx (hb hby at_230) rfl (flt (by decide)).2.2.2 (pc' := 250) (by decide) (by decide) ?_
      refine Owe.iload X436.here hx (hb hby at_250) rfl ?_
      refine Owe.bipush X436.here hx (hb hby at_252) (w := (6 : Int32)) rfl ?_
      refine Owe.icmpYes X436.here hx (hb hby at_254) rfl (flt (by decide)).2.2.2 (pc' := 276) (by decide) (by decide) ?_
      refine Owe.iload X436.here hx (hb hby at_276) rfl ?_
      refine Owe.bipush X436.here hx (hb hby at_278) (w := (7 : Int32)) rfl ?_
      refine Owe.icmpYes X436.here hx (hb hby at_280) rfl (flt (by decide)).2.2.2 (pc' := 302) (by decide) (by decide) ?_
      refine Owe.iload X436.here hx (hb hby at_302) rfl ?_
      refine Owe.bipush X436.here hx (hb hby at_304) (w := (8 : Int32)) rfl ?_
      refine Owe.icmpYes X436.here hx (hb hby at_306) rfl (flt (by decide)).2.2.2 (pc' := 328) (by decide) (by decide) ?_
      refine Owe.iload X436.here hx (hb hby at_328) rfl ?_
      refine Owe.bipush X436.here hx (hb hby at_330) (w := (9 : Int32)) rfl ?_
      refine Owe.icmpYes X436.here hx (hb hby at_332) rfl (flt (by decide)).2.2.2 (pc' := 354) (by decide) (by decide) ?_
      refine Owe.iload X436.here hx (hb hby at_354) rfl ?_
      refine Owe.bipush X436.here hx (hb hby at_356) (w := (10 : Int32)) rfl ?_
      refine Owe.icmpYes X436.here hx (hb hby at_358) rfl (flt (by decide)).2.2.2 (pc' := 380) (by decide) (by decide) ?_
      refine Owe.iload X436.here hx (hb hby at_380) rfl ?_
      refine Owe.bipush X436.here hx (hb hby at_382) (w := (11 : Int32)) rfl ?_
      refine Owe.icmpYes X436.here hx (hb hby at_384) rfl (flt (by decide)).2.2.2 (pc' := 406) (by decide) (by decide) ?_
      refine Owe.new X436 hx hZt hownt (wd hw 48) (wd hw 2) (wd hw 1) e436 (hb hby at_406) (by decide) (by decide) fun T444 h444 b444 g444 X444 e444 E444 A444 D444 => ?_
      have ne_l4_b444 : l4 ≠ b444 := Nat.ne_of_lt (Nat.lt_of_lt_of_le E4_439.lt (Nat.le_of_eq g444.symm))
      have ne_t4_b444 : t4 ≠ b444 := Nat.ne_of_lt (Nat.lt_of_lt_of_le V4_442.lt (Nat.le_of_eq g444.symm))
      have ne_b400_b444 : b400 ≠ b444 := Nat.ne_of_lt (Nat.lt_of_lt_of_le V436.lt (Nat.le_of_eq g444.symm))
      have sf_b444 := (Safe.new (Nat.le_of_eq g444.symm) : Safe Z own_EL vmt h436 b444)
      have ge_b444 := Nat.le_trans Z_443 (Nat.le_of_eq g444.symm)
      have hk445 := Nat.le_trans hk437 E444.1
      have sf_b400_445 := Safe.ext E444 H437 sf_b400_437
      have sf_b444_445 := Safe.ext E444 H437 sf_b444
      have Rr445 := Rr437.trans (CHr.ext E444 H437)
      have H445 := CHv.ext E444 H437
      have Ot_446 := Ot_438.ext E444
      have E4_447 := E4_439.ext E444
      have Fv4_448 := Fv4_440.ext E444
      have Fc4_449 := Fc4_441.ext E444
      have V4_450 := V4_442.ext E444
      have V436_451 := V436.ext E444
      have Z_452 := Nat.le_trans Z_443 E444.1
      have Fvalue_b444 : Fld Z h444 b444 "java/lang/String" "value" "[B" .null := D444 (Or.inr (wd hw 4)) (ty := (.array .byte)) (by decide)
      have Fcoder_b444 : Fld Z h444 b444 "java/lang/String" "coder" "B" (.int (0 : Int32)) := D444 (Or.inr (wd hw 5)) (ty := .byte) (by decide)
      refine Owe.dup X444.here hx (hb hby at_409) rfl rfl ?_
      refine Owe.aload X444.here hx (hb hby at_410) rfl rfl ?_
      have hp453 : ∀ c ∈ ([(nar .char cv_408), (nar .char cv_417), (nar .char cv_426), (nar .char cv_435)] : List Int32), ¬ c < 0 ∧ ¬ (255 : Int32) < c := by
        intro c hc
        simp only [List.mem_cons, List.not_mem_nil, or_false] at hc
        rcases hc with rfl | rfl | rfl | rfl
        · exact (own_nar2 hcv_408)
        · exact (own_nar2 hcv_417)
        · exact (own_nar2 hcv_426)
        · exact (own_nar2 hcv_435)
      refine Owe.special X444 hx (y := Y1) rfl hownt (mvT hZt (wd hw 49)) (mvT hZt (wd hw 50)) (mvT hZt (wd hw 51)) (by decide) (StrChars.Road.backV (W := 1) hZt hws (kI := 4) (wd hw 2) (cs := ([(nar .char cv_408), (nar .char cv_417), (nar .char cv_426), (nar .char cv_435)] : List Int32)) (bs := ([(nar .char cv_408), (nar .char cv_417), (nar .char cv_426), (nar .char cv_435)] : List Int32).map (fun c => c.toInt8.toInt32)) (n := 4) ge_b444 Z_452 A444 Fvalue_b444 Fcoder_b444 V436_451 (S_COMPACT_STRINGS.ext Ot_446.2) cs0 rfl rfl (by decide) (by decide) hp453 rfl (by decide) (by decide)) (by rw [hml]; rfl) (a := b444) (argsL := [(.ref b400)]) (rest := [(.ref b444)]) (lenOf pd_9 rfl) rfl (nb rfl) (hb hby at_412) rfl e444 (by decide) (by decide) fun T454 v454 L454 X454 hQ454 => ?_
      obtain ⟨rfl, Nq454, K454, Ex454, Fc454, t454, kb454, gt454, ft454, nt454, Fv454, Vt454⟩ := hQ454
      have N454 := Fr.app N436 Nq454
      have ne_l4_t454 : l4 ≠ t454 := Nat.ne_of_lt (Nat.lt_of_lt_of_le E4_447.lt ft454)
      have ne_t4_t454 : t4 ≠ t454 := Nat.ne_of_lt (Nat.lt_of_lt_of_le V4_450.lt ft454)
      have ne_b400_t454 : b400 ≠ t454 := Nat.ne_of_lt (Nat.lt_of_lt_of_le V436_451.lt ft454)
      have ne_b444_t454 : b444 ≠ t454 := Nat.ne_of_lt (Nat.lt_of_lt_of_le A444.lt ft454)
      have hk455 := Nat.le_trans hk445 K454.1
      have sf_b400_455 := Safe.keep K454 (sfS sf_b444_445 sf0) H445 sf_b400_445
      have sf_b444_455 := Safe.keep K454 (sfS sf_b444_445 sf0) H445 sf_b444_445
      have Rr455 := Rr445.trans (CHr.keep K454 (sfS sf_b444_445 sf0) H445)
      have H455 := CHv.keep K454 (sfS sf_b444_445 sf0) H445
      have Ot_456 := Ot_446.keep K454 (allS ge_b444 all0)
      have E4_457 := E4_447.keep K454
      have Fv4_458 := Fv4_448.keep K454 (ninS ne_l4_b444 nin0)
      have Fc4_459 := Fc4_449.keep K454 (ninS ne_l4_b444 nin0)
      have V4_460 := V4_450.keep K454 (ninS ne_t4_b444 nin0)
      have V436_461 := V436_451.keep K454 (ninS ne_b400_b444 nin0)
      have A444_462 := A444.keep K454
      have Z_463 := Nat.le_trans Z_452 K454.1
      have Tx454 : (∀ c ∈ ([(nar .char cv_408), (nar .char cv_417), (nar .char cv_426), (nar .char cv_435)] : List Int32), ¬ c < 0 ∧ ¬ (255 : Int32) < c) ∧ ([(nar .char cv_408), (nar .char cv_417), (nar .char cv_426), (nar .char cv_435)] : List Int32).length ≤ 4000 := ⟨hp453, Nat.le_of_ble_eq_true rfl⟩
      refine Owe.astore X454.here hx (hb hby at_415) rfl rfl (l' := #[.val (.int p1), .val (.int p2), .val (.int p3), .val (.int p4), .val (.ref l4), .val (.int md), .val (.int l6), .val (.int c7), .val (.int ps), .val (.int (4 : Int32)), .val (.ref b444), .val (.ref b400)]) rfl ?_
      exact cut417 _ _ _ _ _ _ _ _ _ _ _ _ _ _ _ _ (X454.mono (by decide) (by decide)) rfl hSt hk455 hZt hownt N454 Z_463 Ot_456 H455 Rr455 Ex454 Fv454 Fc454 Vt454 Tx454
    · skip
      refine Owe.iload Xt.here hx (hb hby at_107) rfl ?_
      refine Owe.newarr Xt hx hZt (aty := .char) (wd hw 21) et (hb hby at_109) rfl (by decide) (cap := 5) (by decide) (by decide) (by decide) (by decide) fun T464 h464 b464 k464 g464 X464 e464 E464 V464 => ?_
      have ne_l4_b464 : l4 ≠ b464 := Nat.ne_of_lt (Nat.lt_of_lt_of_le E4.lt (Nat.le_of_eq g464.symm))
      have ne_t4_b464 : t4 ≠ b464 := Nat.ne_of_lt (Nat.lt_of_lt_of_le V4.lt (Nat.le_of_eq g464.symm))
      have sf_b464 := (Safe.new (Nat.le_of_eq g464.symm) : Safe Z own_EL vmt ht b464)
      have ge_b464 := Nat.le_trans Zt (Nat.le_of_eq g464.symm)
      have hk465 := Nat.le_trans hkt E464.1
      have sf_b464_465 := Safe.ext E464 Ht sf_b464
      have Rr465 := Rt.trans (CHr.ext E464 Ht)
      have H465 := CHv.ext E464 Ht
      have Ot_466 := Ot.ext E464
      have E4_467 := E4.ext E464
      have Fv4_468 := Fv4.ext E464
      have Fc4_469 := Fc4.ext E464
      have V4_470 := V4.ext E464
      have Z_471 := Nat.le_trans Zt E464.1
      have V_b464_464 : Arv Z h464 b464 k464 .char (5 : Int32) [(.int (0 : Int32)), (.int (0 : Int32)), (.int (0 : Int32)), (.int (0 : Int32)), (.int (0 : Int32))] (.int (0 : Int32)) := V464.pad (pad_rep [] (.int (0 : Int32)) 5)
      refine Owe.astore X464.here hx (hb hby at_111) rfl rfl (l' := #[.val (.int p1), .val (.int p2), .val (.int p3), .val (.int p4), .val (.ref l4), .val (.int md), .val (.int l6), .val (.int c7), .val (.int ps), .val (.int (5 : Int32)), .val .null, .val (.ref b464)]) rfl ?_
      refine Owe.iload X464.here hx (hb hby at_113) rfl ?_
      refine Owe.ifNo X464.here hx (hb hby at_115) rfl ((if0 _ _).trans (tlt (by decide)).2.2.2) ?_
      refine Owe.aload X464.here hx (hb hby at_118) rfl rfl ?_
      refine Owe.iconst X464.here hx (hb hby at_120) (w := (0 : Int32)) rfl ?_
      refine Owe.aload X464.here hx (hb hby at_121) rfl rfl ?_
      refine Owe.iconst X464.here hx (hb hby at_123) (w := (0 : Int32)) rfl ?_
      refine Owe.iload X464.here hx (hb hby at_124) rfl ?_
      refine Owe.iload X464.here hx (hb hby at_126) rfl ?_
      refine Owe.iload X464.here hx (hb hby at_128) rfl ?_
      refine Owe.iloadN X464.here hx (hb hby at_130) rfl ?_
      refine Owe.stat X464 hx (y := Y7) hownt (mvT hZt (wd hw 22)) (mvT hZt (wd hw 23)) (mvT hZt (wd hw 24)) (mvT hZt (wd hw 25)) (by decide) (backOf (W := 2) (rmat l Z a0 hw [] l4 t4 k4 cs (0 : Int32) ps c7 md p3 G1 fm h464 n0 Z_471 E4_467 Fv4_468 Fc4_469 V4_470 Tx4 S_COMPACT_STRINGS cs0 Ot_466 S_SIOOBE_FORMATTER ir_fm (by decide) hcb) hZt (wd hw 25) (wd hw 24) (by decide) (by decide)) (by rw [hml]; rfl) (argsL := [(.ref l4), (.int (0 : Int32)), (.int ps), (.int c7), (.int md), (.int p3)]) (rest := [(.int (0 : Int32)), (.ref b464)]) (lenOf pd_10 rfl) rfl (nb rfl) (hb hby at_131) rfl e464 (by decide) (by decide) fun T472 v472 L472 X472 hQ472 => ?_
      obtain ⟨cv_472, rfl, Nq472, e472, hcv_472⟩ := hQ472
      have N472 := Fr.app Nt Nq472
      refine Owe.castore X472 hx hZt e472 V_b464_464 (x := cv_472) 0 rfl (nb rfl) (by decide) (hb hby at_134) rfl fun T473 h473 X473 e473 W473 (V473 : Arv Z h473 b464 k464 .char (5 : Int32) [(.int (nar .char cv_472)), (.int (0 : Int32)), (.int (0 : Int32)), (.int (0 : Int32)), (.int (0 : Int32))] (.int (0 : Int32))) => ?_
      have hk474 := Nat.le_trans hk465 (Keep.of_wr W473).1
      have sf_b464_474 := Safe.wr W473 sf_b464_465 H465 sf_b464_465
      have Rr474 := Rr465.trans (CHr.wr W473 sf_b464_465 H465)
      have H474 := CHv.wr W473 sf_b464_465 H465
      have Ot_475 := Ot_466.wr W473 ge_b464
      have E4_476 := E4_467.wr W473
      have Fv4_477 := Fv4_468.other W473 (Or.inl ne_l4_b464)
      have Fc4_478 := Fc4_469.other W473 (Or.inl ne_l4_b464)
      have V4_479 := V4_470.other W473 ne_t4_b464
      have Z_480 := Nat.le_trans Z_471 (Keep.of_wr W473).1
      have N473 := Fr.snoc X473 N472 ge_b464
      refine Owe.iload X473.here hx (hb hby at_135) rfl ?_
      refine Owe.iconst X473.here hx (hb hby at_137) (w := (1 : Int32)) rfl ?_
      refine Owe.icmpNo X473.here hx (hb hby at_138) rfl (tlt (by decide)).2.2.2 ?_
      refine Owe.aload X473.here hx (hb hby at_141) rfl rfl ?_
      refine Owe.iconst X473.here hx (hb hby at_143) (w := (1 : Int32)) rfl ?_
      refine Owe.aload X473.here hx (hb hby at_144) rfl rfl ?_
      refine Owe.iconst X473.here hx (hb hby at_146) (w := (1 : Int32)) rfl ?_
      refine Owe.iload X473.here hx (hb hby at_147) rfl ?_
      refine Owe.iload X473.here hx (hb hby at_149) rfl ?_
      refine Owe.iload X473.here hx (hb hby at_151) rfl ?_
      refine Owe.iloadN X473.here hx (hb hby at_153) rfl ?_
      refine Owe.stat X473 hx (y := Y7) hownt (mvT hZt (wd hw 22)) (mvT hZt (wd hw 23)) (mvT hZt (wd hw 24)) (mvT hZt (wd hw 25)) (by decide) (backOf (W := 2) (rmat l Z a0 hw [] l4 t4 k4 cs (1 : Int32) ps c7 md p3 G1 fm h473 n0 Z_480 E4_476 Fv4_477 Fc4_478 V4_479 Tx4 S_COMPACT_STRINGS cs0 Ot_475 S_SIOOBE_FORMATTER ir_fm (by decide) hcb) hZt (wd hw 25) (wd hw 24) (by decide) (by decide)) (by rw [hml]; rfl) (argsL := [(.ref l4), (.int (1 : Int32)), (.int ps), (.int c7), (.int md), (.int p3)]) (rest := [(.int (1 : Int32)), (.ref b464)]) (lenOf pd_10 rfl) rfl (nb rfl) (hb hby at_154) rfl e473 (by decide) (by decide) fun T481 v481 L481 X481 hQ481 => ?_
      obtain ⟨cv_481, rfl, Nq481, e481, hcv_481⟩ := hQ481
      have N481 := Fr.app N473 Nq481
      refine Owe.castore X481 hx hZt e481 V473 (x := cv_481) 1 rfl (nb rfl) (by decide) (hb hby at_157) rfl fun T482 h482 X482 e482 W482 (V482 : Arv Z h482 b464 k464 .char (5 : Int32) [(.int (nar .char cv_472)), (.int (nar .char cv_481)), (.int (0 : Int32)), (.int (0 : Int32)), (.int (0 : Int32))] (.int (0 : Int32))) => ?_
      have hk483 := Nat.le_trans hk474 (Keep.of_wr W482).1
      have sf_b464_483 := Safe.wr W482 sf_b464_474 H474 sf_b464_474
      have Rr483 := Rr474.trans (CHr.wr W482 sf_b464_474 H474)
      have H483 := CHv.wr W482 sf_b464_474 H474
      have Ot_484 := Ot_475.wr W482 ge_b464
      have E4_485 := E4_476.wr W482
      have Fv4_486 := Fv4_477.other W482 (Or.inl ne_l4_b464)
      have Fc4_487 := Fc4_478.other W482 (Or.inl ne_l4_b464)
      have V4_488 := V4_479.other W482 ne_t4_b464
      have Z_489 := Nat.le_trans Z_480 (Keep.of_wr W482).1
      have N482 := Fr.snoc X482 N481 ge_b464
      refine Owe.iload X482.here hx (hb hby at_158) rfl ?_
      refine Owe.iconst X482.here hx (hb hby at_160) (w := (2 : Int32)) rfl ?_
      refine Owe.icmpNo X482.here hx (hb hby at_161) rfl (tlt (by decide)).2.2.2 ?_
      refine Owe.aload X482.here hx (hb hby at_164) rfl rfl ?_
      refine Owe.iconst X482.here hx (hb hby at_166) (w := (2 : Int32)) rfl ?_
      refine Owe.aload X482.here hx (hb hby at_167) rfl rfl ?_
      refine Owe.iconst X482.here hx (hb hby at_169) (w := (2 : Int32)) rfl ?_
      refine Owe.iload X482.here hx (hb hby at_170) rfl ?_
      refine Owe.iload X482.here hx (hb hby at_172) rfl ?_
      refine Owe.iload X482.here hx (hb hby at_174) rfl ?_
      refine Owe.iloadN X482.here hx (hb hby at_176) rfl ?_
      refine Owe.stat X482 hx (y := Y7) hownt (mvT hZt (wd hw 22)) (mvT hZt (wd hw 23)) (mvT hZt (wd hw 24)) (mvT hZt (wd hw 25)) (by decide) (backOf (W := 2) (rmat l Z a0 hw [] l4 t4 k4 cs (2 : Int32) ps c7 md p3 G1 fm h482 n0 Z_489 E4_485 Fv4_486 Fc4_487 V4_488 Tx4 S_COMPACT_STRINGS cs0 Ot_484 S_SIOOBE_FORMATTER ir_fm (by decide) hcb) hZt (wd hw 25) (wd hw 24) (by decide) (by decide)) (by rw [hml]; rfl) (argsL := [(.ref l4), (.int (2 : Int32)), (.int ps), (.int c7), (.int md), (.int p3)]) (rest := [(.int (2 : Int32)), (.ref b464)]) (lenOf pd_10 rfl) rfl (nb rfl) (hb hby at_177) rfl e482 (by decide) (by decide) fun T490 v490 L490 X490 hQ490 => ?_
      obtain ⟨cv_490, rfl, Nq490, e490, hcv_490⟩ := hQ490
      have N490 := Fr.app N482 Nq490
      refine Owe.castore X490 hx hZt e490 V482 (x := cv_490) 2 rfl (nb rfl) (by decide) (hb hby at_180) rfl fun T491 h491 X491 e491 W491 (V491 : Arv Z h491 b464 k464 .char (5 : Int32) [(.int (nar .char cv_472)), (.int (nar .char cv_481)), (.int (nar .char cv_490)), (.int (0 : Int32)), (.int (0 : Int32))] (.int (0 : Int32))) => ?_
      have hk492 := Nat.le_trans hk483 (Keep.of_wr W491).1
      have sf_b464_492 := Safe.wr W491 sf_b464_483 H483 sf_b464_483
      have Rr492 := Rr483.trans (CHr.wr W491 sf_b464_483 H483)
      have H492 := CHv.wr W491 sf_b464_483 H483
      have Ot_493 := Ot_484.wr W491 ge_b464
      have E4_494 := E4_485.wr W491
      have Fv4_495 := Fv4_486.other W491 (Or.inl ne_l4_b464)
      have Fc4_496 := Fc4_487.other W491 (Or.inl ne_l4_b464)
      have V4_497 := V4_488.other W491 ne_t4_b464
      have Z_498 := Nat.le_trans Z_489 (Keep.of_wr W491).1
      have N491 := Fr.snoc X491 N490 ge_b464
      refine Owe.iload X491.here hx (hb hby at_181) rfl ?_
      refine Owe.iconst X491.here hx (hb hby at_183) (w := (3 : Int32)) rfl ?_
      refine Owe.icmpNo X491.here hx (hb hby at_184) rfl (tlt (by decide)).2.2.2 ?_
      refine Owe.aload X491.here hx (hb hby at_187) rfl rfl ?_
      refine Owe.iconst X491.here hx (hb hby at_189) (w := (3 : Int32)) rfl ?_
      refine Owe.aload X491.here hx (hb hby at_190) rfl rfl ?_
      refine Owe.iconst X491.here hx (hb hby at_192) (w := (3 : Int32)) rfl ?_
      refine Owe.iload X491.here hx (hb hby at_193) rfl ?_
      refine Owe.iload X491.here hx (hb hby at_195) rfl ?_
      refine Owe.iload X491.here hx (hb hby at_197) rfl ?_
      refine Owe.iloadN X491.here hx (hb hby at_199) rfl ?_
      refine Owe.stat X491 hx (y := Y7) hownt (mvT hZt (wd hw 22)) (mvT hZt (wd hw 23)) (mvT hZt (wd hw 24)) (mvT hZt (wd hw 25)) (by decide) (backOf (W := 2) (rmat l Z a0 hw [] l4 t4 k4 cs (3 : Int32) ps c7 md p3 G1 fm h491 n0 Z_498 E4_494 Fv4_495 Fc4_496 V4_497 Tx4 S_COMPACT_STRINGS cs0 Ot_493 S_SIOOBE_FORMATTER ir_fm (by decide) hcb) hZt (wd hw 25) (wd hw 24) (by decide) (by decide)) (by rw [hml]; rfl) (argsL := [(.ref l4), (.int (3 : Int32)), (.int ps), (.int c7), (.int md), (.int p3)]) (rest := [(.int (3 : Int32)), (.ref b464)]) (lenOf pd_10 rfl) rfl (nb rfl) (hb hby at_200) rfl e491 (by decide) (by decide) fun T499 v499 L499 X499 hQ499 => ?_
      obtain ⟨cv_499, rfl, Nq499, e499, hcv_499⟩ := hQ499
      have N499 := Fr.app N491 Nq499
      refine Owe.castore X499 hx hZt e499 V491 (x := cv_499) 3 rfl (nb rfl) (by decide) (hb hby at_203) rfl fun T500 h500 X500 e500 W500 (V500 : Arv Z h500 b464 k464 .char (5 : Int32) [(.int (nar .char cv_472)), (.int (nar .char cv_481)), (.int (nar .char cv_490)), (.int (nar .char cv_499)), (.int (0 : Int32))] (.int (0 : Int32))) => ?_
      have hk501 := Nat.le_trans hk492 (Keep.of_wr W500).1
      have sf_b464_501 := Safe.wr W500 sf_b464_492 H492 sf_b464_492
      have Rr501 := Rr492.trans (CHr.wr W500 sf_b464_492 H492)
      have H501 := CHv.wr W500 sf_b464_492 H492
      have Ot_502 := Ot_493.wr W500 ge_b464
      have E4_503 := E4_494.wr W500
      have Fv4_504 := Fv4_495.other W500 (Or.inl ne_l4_b464)
      have Fc4_505 := Fc4_496.other W500 (Or.inl ne_l4_b464)
      have V4_506 := V4_497.other W500 ne_t4_b464
      have Z_507 := Nat.le_trans Z_498 (Keep.of_wr W500).1
      have N500 := Fr.snoc X500 N499 ge_b464
      refine Owe.iload X500.here hx (hb hby at_204) rfl ?_
      refine Owe.iconst X500.here hx (hb hby at_206) (w := (4 : Int32)) rfl ?_
      refine Owe.icmpNo X500.here hx (hb hby at_207) rfl (tlt (by decide)).2.2.2 ?_
      refine Owe.aload X500.here hx (hb hby at_210) rfl rfl ?_
      refine Owe.iconst X500.here hx (hb hby at_212) (w := (4 : Int32)) rfl ?_
      refine Owe.aload X500.here hx (hb hby at_213) rfl rfl ?_
      refine Owe.iconst X500.here hx (hb hby at_215) (w := (4 : Int32)) rfl ?_
      refine Owe.iload X500.here hx (hb hby at_216) rfl ?_
      refine Owe.iload X500.here hx (hb hby at_218) rfl ?_
      refine Owe.iload X500.here hx (hb hby at_220) rfl ?_
      refine Owe.iloadN X500.here hx (hb hby at_222) rfl ?_
      refine Owe.stat X500 hx (y := Y7) hownt (mvT hZt (wd hw 22)) (mvT hZt (wd hw 23)) (mvT hZt (wd hw 24)) (mvT hZt (wd hw 25)) (by decide) (backOf (W := 2) (rmat l Z a0 hw [] l4 t4 k4 cs (4 : Int32) ps c7 md p3 G1 fm h500 n0 Z_507 E4_503 Fv4_504 Fc4_505 V4_506 Tx4 S_COMPACT_STRINGS cs0 Ot_502 S_SIOOBE_FORMATTER ir_fm (by decide) hcb) hZt (wd hw 25) (wd hw 24) (by decide) (by decide)) (by rw [hml]; rfl) (argsL := [(.ref l4), (.int (4 : Int32)), (.int ps), (.int c7), (.int md), (.int p3)]) (rest := [(.int (4 : Int32)), (.ref b464)]) (lenOf pd_10 rfl) rfl (nb rfl) (hb hby at_223) rfl e500 (by decide) (by decide) fun T508 v508 L508 X508 hQ508 => ?_
      obtain ⟨cv_508, rfl, Nq508, e508, hcv_508⟩ := hQ508
      have N508 := Fr.app N500 Nq508
      refine Owe.castore X508 hx hZt e508 V500 (x := cv_508) 4 rfl (nb rfl) (by decide) (hb hby at_226) rfl fun T509 h509 X509 e509 W509 (V509 : Arv Z h509 b464 k464 .char (5 : Int32) [(.int (nar .char cv_472)), (.int (nar .char cv_481)), (.int (nar .char cv_490)), (.int (nar .char cv_499)), (.int (nar .char cv_508))] (.int (0 : Int32))) => ?_
      have hk510 := Nat.le_trans hk501 (Keep.of_wr W509).1
      have sf_b464_510 := Safe.wr W509 sf_b464_501 H501 sf_b464_501
      have Rr510 := Rr501.trans (CHr.wr W509 sf_b464_501 H501)
      have H510 := CHv.wr W509 sf_b464_501 H501
      have Ot_511 := Ot_502.wr W509 ge_b464
      have E4_512 := E4_503.wr W509
      have Fv4_513 := Fv4_504.other W509 (Or.inl ne_l4_b464)
      have Fc4_514 := Fc4_505.other W509 (Or.inl ne_l4_b464)
      have V4_515 := V4_506.other W509 ne_t4_b464
      have Z_516 := Nat.le_trans Z_507 (Keep.of_wr W509).1
      have N509 := Fr.snoc X509 N508 ge_b464
      refine Owe.iload X509.here hx (hb hby at_227) rfl ?_
      refine Owe.iconst X509.here hx (hb hby at_229) (w := (5 : Int32)) rfl ?_
      refine Owe.icmpYes X509.here hx (hb hby at_230) rfl (flt (by decide)).2.2.2 (pc' := 250) (by decide) (by decide) ?_
      refine Owe.iload X509.here hx (hb hby at_250) rfl ?_
      refine Owe.bipush X509.here hx (hb hby at_252) (w := (6 : Int32)) rfl ?_
      refine Owe.icmpYes X509.here hx (hb hby at_254) rfl (flt (by decide)).2.2.2 (pc' := 276) (by decide) (by decide) ?_
      refine Owe.iload X509.here hx (hb hby at_276) rfl ?_
      refine Owe.bipush X509.here hx (hb hby at_278) (w := (7 : Int32)) rfl ?_
      refine Owe.icmpYes X509.here hx (hb hby at_280) rfl (flt (by decide)).2.2.2 (pc' := 302) (by decide) (by decide) ?_
      refine Owe.iload X509.here hx (hb hby at_302) rfl ?_
      refine Owe.bipush X509.here hx (hb hby at_304) (w := (8 : Int32)) rfl ?_
      refine Owe.icmpYes X509.here hx (hb hby at_306) rfl (flt (by decide)).2.2.2 (pc' := 328) (by decide) (by decide) ?_
      refine Owe.iload X509.here hx (hb hby at_328) rfl ?_
      refine Owe.bipush X509.here hx (hb hby at_330) (w := (9 : Int32)) rfl ?_
      refine Owe.icmpYes X509.here hx (hb hby at_332) rfl (flt (by decide)).2.2.2 (pc' := 354) (by decide) (by decide) ?_
      refine Owe.iload X509.here hx (hb hby at_354) rfl ?_
      refine Owe.bipush X509.here hx (hb hby at_356) (w := (10 : Int32)) rfl ?_
      refine Owe.icmpYes X509.here hx (hb hby at_358) rfl (flt (by decide)).2.2.2 (pc' := 380) (by decide) (by decide) ?_
      refine Owe.iload X509.here hx (hb hby at_380) rfl ?_
      refine Owe.bipush X509.here hx (hb hby at_382) (w := (11 : Int32)) rfl ?_
      refine Owe.icmpYes X509.here hx (hb hby at_384) rfl (flt (by decide)).2.2.2 (pc' := 406) (by decide) (by decide) ?_
      refine Owe.new X509 hx hZt hownt (wd hw 48) (wd hw 2) (wd hw 1) e509 (hb hby at_406) (by decide) (by decide) fun T517 h517 b517 g517 X517 e517 E517 A517 D517 => ?_
      have ne_l4_b517 : l4 ≠ b517 := Nat.ne_of_lt (Nat.lt_of_lt_of_le E4_512.lt (Nat.le_of_eq g517.symm))
      have ne_t4_b517 : t4 ≠ b517 := Nat.ne_of_lt (Nat.lt_of_lt_of_le V4_515.lt (Nat.le_of_eq g517.symm))
      have ne_b464_b517 : b464 ≠ b517 := Nat.ne_of_lt (Nat.lt_of_lt_of_le V509.lt (Nat.le_of_eq g517.symm))
      have sf_b517 := (Safe.new (Nat.le_of_eq g517.symm) : Safe Z own_EL vmt h509 b517)
      have ge_b517 := Nat.le_trans Z_516 (Nat.le_of_eq g517.symm)
      have hk518 := Nat.le_trans hk510 E517.1
      have sf_b464_518 := Safe.ext E517 H510 sf_b464_510
      have sf_b517_518 := Safe.ext E517 H510 sf_b517
      have Rr518 := Rr510.trans (CHr.ext E517 H510)
      have H518 := CHv.ext E517 H510
      have Ot_519 := Ot_511.ext E517
      have E4_520 := E4_512.ext E517
      have Fv4_521 := Fv4_513.ext E517
      have Fc4_522 := Fc4_514.ext E517
      have V4_523 := V4_515.ext E517
      have V509_524 := V509.ext E517
      have Z_525 := Nat.le_trans Z_516 E517.1
      have Fvalue_b517 : Fld Z h517 b517 "java/lang/String" "value" "[B" .null := D517 (Or.inr (wd hw 4)) (ty := (.array .byte)) (by decide)
      have Fcoder_b517 : Fld Z h517 b517 "java/lang/String" "coder" "B" (.int (0 : Int32)) := D517 (Or.inr (wd hw 5)) (ty := .byte) (by decide)
      refine Owe.dup X517.here hx (hb hby at_409) rfl rfl ?_
      refine Owe.aload X517.here hx (hb hby at_410) rfl rfl ?_
      have hp526 : ∀ c ∈ ([(nar .char cv_472), (nar .char cv_481), (nar .char cv_490), (nar .char cv_499), (nar .char cv_508)] : List Int32), ¬ c < 0 ∧ ¬ (255 : Int32) < c := by
        intro c hc
        simp only [List.mem_cons, List.not_mem_nil, or_false] at hc
        rcases hc with rfl | rfl | rfl | rfl | rfl
        · exact (own_nar2 hcv_472)
        · exact (own_nar2 hcv_481)
        · exact (own_nar2 hcv_490)
        · exact (own_nar2 hcv_499)
        · exact (own_nar2 hcv_508)
      refine Owe.special X517 hx (y := Y1) rfl hownt (mvT hZt (wd hw 49)) (mvT hZt (wd hw 50)) (mvT hZt (wd hw 51)) (by decide) (StrChars.Road.backV (W := 1) hZt hws (kI := 4) (wd hw 2) (cs := ([(nar .char cv_472), (nar .char cv_481), (nar .char cv_490), (nar .char cv_499), (nar .char cv_508)] : List Int32)) (bs := ([(nar .char cv_472), (nar .char cv_481), (nar .char cv_490), (nar .char cv_499), (nar .char cv_508)] : List Int32).map (fun c => c.toInt8.toInt32)) (n := 5) ge_b517 Z_525 A517 Fvalue_b517 Fcoder_b517 V509_524 (S_COMPACT_STRINGS.ext Ot_519.2) cs0 rfl rfl (by decide) (by decide) hp526 rfl (by decide) (by decide)) (by rw [hml]; rfl) (a := b517) (argsL := [(.ref b464)]) (rest := [(.ref b517)]) (lenOf pd_9 rfl) rfl (nb rfl) (hb hby at_412) rfl e517 (by decide) (by decide) fun T527 v527 L527 X527 hQ527 => ?_
      obtain ⟨rfl, Nq527, K527, Ex527, Fc527, t527, kb527, gt527, ft527, nt527, Fv527, Vt527⟩ := hQ527
      have N527 := Fr.app N509 Nq527
      have ne_l4_t527 : l4 ≠ t527 := Nat.ne_of_lt (Nat.lt_of_lt_of_le E4_520.lt ft527)
      have ne_t4_t527 : t4 ≠ t527 := Nat.ne_of_lt (Nat.lt_of_lt_of_le V4_523.lt ft527)
      have ne_b464_t527 : b464 ≠ t527 := Nat.ne_of_lt (Nat.lt_of_lt_of_le V509_524.lt ft527)
      have ne_b517_t527 : b517 ≠ t527 := Nat.ne_of_lt (Nat.lt_of_lt_of_le A517.lt ft527)
      have hk528 := Nat.le_trans hk518 K527.1
      have sf_b464_528 := Safe.keep K527 (sfS sf_b517_518 sf0) H518 sf_b464_518
      have sf_b517_528 := Safe.keep K527 (sfS sf_b517_518 sf0) H518 sf_b517_518
      have Rr528 := Rr518.trans (CHr.keep K527 (sfS sf_b517_518 sf0) H518)
      have H528 := CHv.keep K527 (sfS sf_b517_518 sf0) H518
      have Ot_529 := Ot_519.keep K527 (allS ge_b517 all0)
      have E4_530 := E4_520.keep K527
      have Fv4_531 := Fv4_521.keep K527 (ninS ne_l4_b517 nin0)
      have Fc4_532 := Fc4_522.keep K527 (ninS ne_l4_b517 nin0)
      have V4_533 := V4_523.keep K527 (ninS ne_t4_b517 nin0)
      have V509_534 := V509_524.keep K527 (ninS ne_b464_b517 nin0)
      have A517_535 := A517.keep K527
      have Z_536 := Nat.le_trans Z_525 K527.1
      have Tx527 : (∀ c ∈ ([(nar .char cv_472), (nar .char cv_481), (nar .char cv_490), (nar .char cv_499), (nar .char cv_508)] : List Int32), ¬ c < 0 ∧ ¬ (255 : Int32) < c) ∧ ([(nar .char cv_472), (nar .char cv_481), (nar .char cv_490), (nar .char cv_499), (nar .char cv_508)] : List Int32).length ≤ 4000 := ⟨hp526, Nat.le_of_ble_eq_true rfl⟩
      refine Owe.astore X527.here hx (hb hby at_415) rfl rfl (l' := #[.val (.int p1), .val (.int p2), .val (.int p3), .val (.int p4), .val (.ref l4), .val (.int md), .val (.int l6), .val (.int c7), .val (.int ps), .val (.int (5 : Int32)), .val (.ref b517), .val (.ref b464)]) rfl ?_
      exact cut417 _ _ _ _ _ _ _ _ _ _ _ _ _ _ _ _ (X527.mono (by decide) (by decide)) rfl hSt hk528 hZt hownt N527 Z_536 Ot_529 H528 Rr528 Ex527 Fv527 Fc527 Vt527 Tx527
    · skip
      refine Owe.iload Xt.here hx (hb hby at_107) rfl ?_
      refine Owe.newarr Xt hx hZt (aty := .char) (wd hw 21) et (hb hby at_109) rfl (by decide) (cap := 6) (by decide) (by decide) (by decide) (by decide) fun T537 h537 b537 k537 g537 X537 e537 E537 V537 => ?_
      have ne_l4_b537 : l4 ≠ b537 := Nat.ne_of_lt (Nat.lt_of_lt_of_le E4.lt (Nat.le_of_eq g537.symm))
      have ne_t4_b537 : t4 ≠ b537 := Nat.ne_of_lt (Nat.lt_of_lt_of_le V4.lt (Nat.le_of_eq g537.symm))
      have sf_b537 := (Safe.new (Nat.le_of_eq g537.symm) : Safe Z own_EL vmt ht b537)
      have ge_b537 := Nat.le_trans Zt (Nat.le_of_eq g537.symm)
      have hk538 := Nat.le_trans hkt E537.1
      have sf_b537_538 := Safe.ext E537 Ht sf_b537
      have Rr538 := Rt.trans (CHr.ext E537 Ht)
      have H538 := CHv.ext E537 Ht
      have Ot_539 := Ot.ext E537
      have E4_540 := E4.ext E537
      have Fv4_541 := Fv4.ext E537
      have Fc4_542 := Fc4.ext E537
      have V4_543 := V4.ext E537
      have Z_544 := Nat.le_trans Zt E537.1
      have V_b537_537 : Arv Z h537 b537 k537 .char (6 : Int32) [(.int (0 : Int32)), (.int (0 : Int32)), (.int (0 : Int32)), (.int (0 : Int32)), (.int (0 : Int32)), (.int (0 : Int32))] (.int (0 : Int32)) := V537.pad (pad_rep [] (.int (0 : Int32)) 6)
      refine Owe.astore X537.here hx (hb hby at_111) rfl rfl (l' := #[.val (.int p1), .val (.int p2), .val (.int p3), .val (.int p4), .val (.ref l4), .val (.int md), .val (.int l6), .val (.int c7), .val (.int ps), .val (.int (6 : Int32)), .val .null, .val (.ref b537)]) rfl ?_
      refine Owe.iload X537.here hx (hb hby at_113) rfl ?_
      refine Owe.ifNo X537.here hx (hb hby at_115) rfl ((if0 _ _).trans (tlt (by decide)).2.2.2) ?_
      refine Owe.aload X537.here hx (hb hby at_118) rfl rfl ?_
      refine Owe.iconst X537.here hx (hb hby at_120) (w := (0 : Int32)) rfl ?_
      refine Owe.aload X537.here hx (hb hby at_121) rfl rfl ?_
      refine Owe.iconst X537.here hx (hb hby at_123) (w := (0 : Int32)) rfl ?_
      refine Owe.iload X537.here hx (hb hby at_124) rfl ?_
      refine Owe.iload X537.here hx (hb hby at_126) rfl ?_
      refine Owe.iload X537.here hx (hb hby at_128) rfl ?_
      refine Owe.iloadN X537.here hx (hb hby at_130) rfl ?_
      refine Owe.stat X537 hx (y := Y7) hownt (mvT hZt (wd hw 22)) (mvT hZt (wd hw 23)) (mvT hZt (wd hw 24)) (mvT hZt (wd hw 25)) (by decide) (backOf (W := 2) (rmat l Z a0 hw [] l4 t4 k4 cs (0 : Int32) ps c7 md p3 G1 fm h537 n0 Z_544 E4_540 Fv4_541 Fc4_542 V4_543 Tx4 S_COMPACT_STRINGS cs0 Ot_539 S_SIOOBE_FORMATTER ir_fm (by decide) hcb) hZt (wd hw 25) (wd hw 24) (by decide) (by decide)) (by rw [hml]; rfl) (argsL := [(.ref l4), (.int (0 : Int32)), (.int ps), (.int c7), (.int md), (.int p3)]) (rest := [(.int (0 : Int32)), (.ref b537)]) (lenOf pd_10 rfl) rfl (nb rfl) (hb hby at_131) rfl e537 (by decide) (by decide) fun T545 v545 L545 X545 hQ545 => ?_
      obtain ⟨cv_545, rfl, Nq545, e545, hcv_545⟩ := hQ545
      have N545 := Fr.app Nt Nq545
      refine Owe.castore X545 hx hZt e545 V_b537_537 (x := cv_545) 0 rfl (nb rfl) (by decide) (hb hby at_134) rfl fun T546 h546 X546 e546 W546 (V546 : Arv Z h546 b537 k537 .char (6 : Int32) [(.int (nar .char cv_545)), (.int (0 : Int32)), (.int (0 : Int32)), (.int (0 : Int32)), (.int (0 : Int32)), (.int (0 : Int32))] (.int (0 : Int32))) => ?_
      have hk547 := Nat.le_trans hk538 (Keep.of_wr W546).1
      have sf_b537_547 := Safe.wr W546 sf_b537_538 H538 sf_b537_538
      have Rr547 := Rr538.trans (CHr.wr W546 sf_b537_538 H538)
      have H547 := CHv.wr W546 sf_b537_538 H538
      have Ot_548 := Ot_539.wr W546 ge_b537
      have E4_549 := E4_540.wr W546
      have Fv4_550 := Fv4_541.other W546 (Or.inl ne_l4_b537)
      have Fc4_551 := Fc4_542.other W546 (Or.inl ne_l4_b537)
      have V4_552 := V4_543.other W546 ne_t4_b537
      have Z_553 := Nat.le_trans Z_544 (Keep.of_wr W546).1
      have N546 := Fr.snoc X546 N545 ge_b537
      refine Owe.iload X546.here hx (hb hby at_135) rfl ?_
      refine Owe.iconst X546.here hx (hb hby at_137) (w := (1 : Int32)) rfl ?_
      refine Owe.icmpNo X546.here hx (hb hby at_138) rfl (tlt (by decide)).2.2.2 ?_
      refine Owe.aload X546.here hx (hb hby at_141) rfl rfl ?_
      refine Owe.iconst X546.here hx (hb hby at_143) (w := (1 : Int32)) rfl ?_
      refine Owe.aload X546.here hx (hb hby at_144) rfl rfl ?_
      refine Owe.iconst X546.here hx (hb hby at_146) (w := (1 : Int32)) rfl ?_
      refine Owe.iload X546.here hx (hb hby at_147) rfl ?_
      refine Owe.iload X546.here hx (hb hby at_149) rfl ?_
      refine Owe.iload X546.here hx (hb hby at_151) rfl ?_
      refine Owe.iloadN X546.here hx (hb hby at_153) rfl ?_
      refine Owe.stat X546 hx (y := Y7) hownt (mvT hZt (wd hw 22)) (mvT hZt (wd hw 23)) (mvT hZt (wd hw 24)) (mvT hZt (wd hw 25)) (by decide) (backOf (W := 2) (rmat l Z a0 hw [] l4 t4 k4 cs (1 : Int32) ps c7 md p3 G1 fm h546 n0 Z_553 E4_549 Fv4_550 Fc4_551 V4_552 Tx4 S_COMPACT_STRINGS cs0 Ot_548 S_SIOOBE_FORMATTER ir_fm (by decide) hcb) hZt (wd hw 25) (wd hw 24) (by decide) (by decide)) (by rw [hml]; rfl) (argsL := [(.ref l4), (.int (1 : Int32)), (.int ps), (.int c7), (.int md), (.int p3)]) (rest := [(.int (1 : Int32)), (.ref b537)]) (lenOf pd_10 rfl) rfl (nb rfl) (hb hby at_154) rfl e546 (by decide) (by decide) fun T554 v554 L554 X554 hQ554 => ?_
      obtain ⟨cv_554, rfl, Nq554, e554, hcv_554⟩ := hQ554
      have N554 := Fr.app N546 Nq554
      refine Owe.castore X554 hx hZt e554 V546 (x := cv_554) 1 rfl (nb rfl) (by decide) (hb hby at_157) rfl fun T555 h555 X555 e555 W555 (V555 : Arv Z h555 b537 k537 .char (6 : Int32) [(.int (nar .char cv_545)), (.int (nar .char cv_554)), (.int (0 : Int32)), (.int (0 : Int32)), (.int (0 : Int32)), (.int (0 : Int32))] (.int (0 : Int32))) => ?_
      have hk556 := Nat.le_trans hk547 (Keep.of_wr W555).1
      have sf_b537_556 := Safe.wr W555 sf_b537_547 H547 sf_b537_547
      have Rr556 := Rr547.trans (CHr.wr W555 sf_b537_547 H547)
      have H556 := CHv.wr W555 sf_b537_547 H547
      have Ot_557 := Ot_548.wr W555 ge_b537
      have E4_558 := E4_549.wr W555
      have Fv4_559 := Fv4_550.other W555 (Or.inl ne_l4_b537)
      have Fc4_560 := Fc4_551.other W555 (Or.inl ne_l4_b537)
      have V4_561 := V4_552.other W555 ne_t4_b537
      have Z_562 := Nat.le_trans Z_553 (Keep.of_wr W555).1
      have N555 := Fr.snoc X555 N554 ge_b537
      refine Owe.iload X555.here hx (hb hby at_158) rfl ?_
      refine Owe.iconst X555.here hx (hb hby at_160) (w := (2 : Int32)) rfl ?_
      refine Owe.icmpNo X555.here hx (hb hby at_161) rfl (tlt (by decide)).2.2.2 ?_
      refine Owe.aload X555.here hx (hb hby at_164) rfl rfl ?_
      refine Owe.iconst X555.here hx (hb hby at_166) (w := (2 : Int32)) rfl ?_
      refine Owe.aload X555.here hx (hb hby at_167) rfl rfl ?_
      refine Owe.iconst X555.here hx (hb hby at_169) (w := (2 : Int32)) rfl ?_
      refine Owe.iload X555.here hx (hb hby at_170) rfl ?_
      refine Owe.iload X555.here hx (hb hby at_172) rfl ?_
      refine Owe.iload X555.here hx (hb hby at_174) rfl ?_
      refine Owe.iloadN X555.here hx (hb hby at_176) rfl ?_
      refine Owe.stat X555 hx (y := Y7) hownt (mvT hZt (wd hw 22)) (mvT hZt (wd hw 23)) (mvT hZt (wd hw 24)) (mvT hZt (wd hw 25)) (by decide) (backOf (W := 2) (rmat l Z a0 hw [] l4 t4 k4 cs (2 : Int32) ps c7 md p3 G1 fm h555 n0 Z_562 E4_558 Fv4_559 Fc4_560 V4_561 Tx4 S_COMPACT_STRINGS cs0 Ot_557 S_SIOOBE_FORMATTER ir_fm (by decide) hcb) hZt (wd hw 25) (wd hw 24) (by decide) (by decide)) (by rw [hml]; rfl) (argsL := [(.ref l4), (.int (2 : Int32)), (.int ps), (.int c7), (.int md), (.int p3)]) (rest := [(.int (2 : Int32)), (.ref b537)]) (lenOf pd_10 rfl) rfl (nb rfl) (hb hby at_177) rfl e555 (by decide) (by decide) fun T563 v563 L563 X563 hQ563 => ?_
      obtain ⟨cv_563, rfl, Nq563, e563, hcv_563⟩ := hQ563
      have N563 := Fr.app N555 Nq563
      refine Owe.castore X563 hx hZt e563 V555 (x := cv_563) 2 rfl (nb rfl) (by decide) (hb hby at_180) rfl fun T564 h564 X564 e564 W564 (V564 : Arv Z h564 b537 k537 .char (6 : Int32) [(.int (nar .char cv_545)), (.int (nar .char cv_554)), (.int (nar .char cv_563)), (.int (0 : Int32)), (.int (0 : Int32)), (.int (0 : Int32))] (.int (0 : Int32))) => ?_
      have hk565 := Nat.le_trans hk556 (Keep.of_wr W564).1
      have sf_b537_565 := Safe.wr W564 sf_b537_556 H556 sf_b537_556
      have Rr565 := Rr556.trans (CHr.wr W564 sf_b537_556 H556)
      have H565 := CHv.wr W564 sf_b537_556 H556
      have Ot_566 := Ot_557.wr W564 ge_b537
      have E4_567 := E4_558.wr W564
      have Fv4_568 := Fv4_559.other W564 (Or.inl ne_l4_b537)
      have Fc4_569 := Fc4_560.other W564 (Or.inl ne_l4_b537)
      have V4_570 := V4_561.other W564 ne_t4_b537
      have Z_571 := Nat.le_trans Z_562 (Keep.of_wr W564).1
      have N564 := Fr.snoc X564 N563 ge_b537
      refine Owe.iload X564.here hx (hb hby at_181) rfl ?_
      refine Owe.iconst X564.here hx (hb hby at_183) (w := (3 : Int32)) rfl ?_
      refine Owe.icmpNo X564.here hx (hb hby at_184) rfl (tlt (by decide)).2.2.2 ?_
      refine Owe.aload X564.here hx (hb hby at_187) rfl rfl ?_
      refine Owe.iconst X564.here hx (hb hby at_189) (w := (3 : Int32)) rfl ?_
      refine Owe.aload X564.here hx (hb hby at_190) rfl rfl ?_
      refine Owe.iconst X564.here hx (hb hby at_192) (w := (3 : Int32)) rfl ?_
      refine Owe.iload X564.here hx (hb hby at_193) rfl ?_
      refine Owe.iload X564.here hx (hb hby at_195) rfl ?_
      refine Owe.iload X564.here hx (hb hby at_197) rfl ?_
      refine Owe.iloadN X564.here hx (hb hby at_199) rfl ?_
      refine Owe.stat X564 hx (y := Y7) hownt (mvT hZt (wd hw 22)) (mvT hZt (wd hw 23)) (mvT hZt (wd hw 24)) (mvT hZt (wd hw 25)) (by decide) (backOf (W := 2) (rmat l Z a0 hw [] l4 t4 k4 cs (3 : Int32) ps c7 md p3 G1 fm h564 n0 Z_571 E4_567 Fv4_568 Fc4_569 V4_570 Tx4 S_COMPACT_STRINGS cs0 Ot_566 S_SIOOBE_FORMATTER ir_fm (by decide) hcb) hZt (wd hw 25) (wd hw 24) (by decide) (by decide)) (by rw [hml]; rfl) (argsL := [(.ref l4), (.int (3 : Int32)), (.int ps), (.int c7), (.int md), (.int p3)]) (rest := [(.int (3 : Int32)), (.ref b537)]) (lenOf pd_10 rfl) rfl (nb rfl) (hb hby at_200) rfl e564 (by decide) (by decide) fun T572 v572 L572 X572 hQ572 => ?_
      obtain ⟨cv_572, rfl, Nq572, e572, hcv_572⟩ := hQ572
      have N572 := Fr.app N564 Nq572
      refine Owe.castore X572 hx hZt e572 V564 (x := cv_572) 3 rfl (nb rfl) (by decide) (hb hby at_203) rfl fun T573 h573 X573 e573 W573 (V573 : Arv Z h573 b537 k537 .char (6 : Int32) [(.int (nar .char cv_545)), (.int (nar .char cv_554)), (.int (nar .char cv_563)), (.int (nar .char cv_572)), (.int (0 : Int32)), (.int (0 : Int32))] (.int (0 : Int32))) => ?_
      have hk574 := Nat.le_trans hk565 (Keep.of_wr W573).1
      have sf_b537_574 := Safe.wr W573 sf_b537_565 H565 sf_b537_565
      have Rr574 := Rr565.trans (CHr.wr W573 sf_b537_565 H565)
      have H574 := CHv.wr W573 sf_b537_565 H565
      have Ot_575 := Ot_566.wr W573 ge_b537
      have E4_576 := E4_567.wr W573
      have Fv4_577 := Fv4_568.other W573 (Or.inl ne_l4_b537)
      have Fc4_578 := Fc4_569.other W573 (Or.inl ne_l4_b537)
      have V4_579 := V4_570.other W573 ne_t4_b537
      have Z_580 := Nat.le_trans Z_571 (Keep.of_wr W573).1
      have N573 := Fr.snoc X573 N572 ge_b537
      refine Owe.iload X573.here hx (hb hby at_204) rfl ?_
      refine Owe.iconst X573.here hx (hb hby at_206) (w := (4 : Int32)) rfl ?_
      refine Owe.icmpNo X573.here hx (hb hby at_207) rfl (tlt (by decide)).2.2.2 ?_
      refine Owe.aload X573.here hx (hb hby at_210) rfl rfl ?_
      refine Owe.iconst X573.here hx (hb hby at_212) (w := (4 : Int32)) rfl ?_
      refine Owe.aload X573.here hx (hb hby at_213) rfl rfl ?_
      refine Owe.iconst X573.here hx (hb hby at_215) (w := (4 : Int32)) rfl ?_
      refine Owe.iload X573.here hx (hb hby at_216) rfl ?_
      refine Owe.iload X573.here hx (hb hby at_218) rfl ?_
      refine Owe.iload X573.here hx (hb hby at_220) rfl ?_
      refine Owe.iloadN X573.here hx (hb hby at_222) rfl ?_
      refine Owe.stat X573 hx (y := Y7) hownt (mvT hZt (wd hw 22)) (mvT hZt (wd hw 23)) (mvT hZt (wd hw 24)) (mvT hZt (wd hw 25)) (by decide) (backOf (W := 2) (rmat l Z a0 hw [] l4 t4 k4 cs (4 : Int32) ps c7 md p3 G1 fm h573 n0 Z_580 E4_576 Fv4_577 Fc4_578 V4_579 Tx4 S_COMPACT_STRINGS cs0 Ot_575 S_SIOOBE_FORMATTER ir_fm (by decide) hcb) hZt (wd hw 25) (wd hw 24) (by decide) (by decide)) (by rw [hml]; rfl) (argsL := [(.ref l4), (.int (4 : Int32)), (.int ps), (.int c7), (.int md), (.int p3)]) (rest := [(.int (4 : Int32)), (.ref b537)]) (lenOf pd_10 rfl) rfl (nb rfl) (hb hby at_223) rfl e573 (by decide) (by decide) fun T581 v581 L581 X581 hQ581 => ?_
      obtain ⟨cv_581, rfl, Nq581, e581, hcv_581⟩ := hQ581
      have N581 := Fr.app N573 Nq581
      refine Owe.castore X581 hx hZt e581 V573 (x := cv_581) 4 rfl (nb rfl) (by decide) (hb hby at_226) rfl fun T582 h582 X582 e582 W582 (V582 : Arv Z h582 b537 k537 .char (6 : Int32) [(.int (nar .char cv_545)), (.int (nar .char cv_554)), (.int (nar .char cv_563)), (.int (nar .char cv_572)), (.int (nar .char cv_581)), (.int (0 : Int32))] (.int (0 : Int32))) => ?_
      have hk583 := Nat.le_trans hk574 (Keep.of_wr W582).1
      have sf_b537_583 := Safe.wr W582 sf_b537_574 H574 sf_b537_574
      have Rr583 := Rr574.trans (CHr.wr W582 sf_b537_574 H574)
      have H583 := CHv.wr W582 sf_b537_574 H574
      have Ot_584 := Ot_575.wr W582 ge_b537
      have E4_585 := E4_576.wr W582
      have Fv4_586 := Fv4_577.other W582 (Or.inl ne_l4_b537)
      have Fc4_587 := Fc4_578.other W582 (Or.inl ne_l4_b537)
      have V4_588 := V4_579.other W582 ne_t4_b537
      have Z_589 := Nat.le_trans Z_580 (Keep.of_wr W582).1
      have N582 := Fr.snoc X582 N581 ge_b537
      refine Owe.iload X582.here hx (hb hby at_227) rfl ?_
      refine Owe.iconst X582.here hx (hb hby at_229) (w := (5 : Int32)) rfl ?_
      refine Owe.icmpNo X582.here hx (hb hby at_230) rfl (tlt (by decide)).2.2.2 ?_
      refine Owe.aload X582.here hx (hb hby at_233) rfl rfl ?_
      refine Owe.iconst X582.here hx (hb hby at_235) (w := (5 : Int32)) rfl ?_
      refine Owe.aload X582.here hx (hb hby at_236) rfl rfl ?_
      refine Owe.iconst X582.here hx (hb hby at_238) (w := (5 : Int32)) rfl ?_
      refine Owe.iload X582.here hx (hb hby at_239) rfl ?_
      refine Owe.iload X582.here hx (hb hby at_241) rfl ?_
      refine Owe.iload X582.here hx (hb hby at_243) rfl ?_
      refine Owe.iloadN X582.here hx (hb hby at_245) rfl ?_
      refine Owe.stat X582 hx (y := Y7) hownt (mvT hZt (wd hw 22)) (mvT hZt (wd hw 23)) (mvT hZt (wd hw 24)) (mvT hZt (wd hw 25)) (by decide) (backOf (W := 2) (rmat l Z a0 hw [] l4 t4 k4 cs (5 : Int32) ps c7 md p3 G1 fm h582 n0 Z_589 E4_585 Fv4_586 Fc4_587 V4_588 Tx4 S_COMPACT_STRINGS cs0 Ot_584 S_SIOOBE_FORMATTER ir_fm (by decide) hcb) hZt (wd hw 25) (wd hw 24) (by decide) (by decide)) (by rw [hml]; rfl) (argsL := [(.ref l4), (.int (5 : Int32)), (.int ps), (.int c7), (.int md), (.int p3)]) (rest := [(.int (5 : Int32)), (.ref b537)]) (lenOf pd_10 rfl) rfl (nb rfl) (hb hby at_246) rfl e582 (by decide) (by decide) fun T590 v590 L590 X590 hQ590 => ?_
      obtain ⟨cv_590, rfl, Nq590, e590, hcv_590⟩ := hQ590
      have N590 := Fr.app N582 Nq590
      refine Owe.castore X590 hx hZt e590 V582 (x := cv_590) 5 rfl (nb rfl) (by decide) (hb hby at_249) rfl fun T591 h591 X591 e591 W591 (V591 : Arv Z h591 b537 k537 .char (6 : Int32) [(.int (nar .char cv_545)), (.int (nar .char cv_554)), (.int (nar .char cv_563)), (.int (nar .char cv_572)), (.int (nar .char cv_581)), (.int (nar .char cv_590))] (.int (0 : Int32))) => ?_
      have hk592 := Nat.le_trans hk583 (Keep.of_wr W591).1
      have sf_b537_592 := Safe.wr W591 sf_b537_583 H583 sf_b537_583
      have Rr592 := Rr583.trans (CHr.wr W591 sf_b537_583 H583)
      have H592 := CHv.wr W591 sf_b537_583 H583
      have Ot_593 := Ot_584.wr W591 ge_b537
      have E4_594 := E4_585.wr W591
      have Fv4_595 := Fv4_586.other W591 (Or.inl ne_l4_b537)
      have Fc4_596 := Fc4_587.other W591 (Or.inl ne_l4_b537)
      have V4_597 := V4_588.other W591 ne_t4_b537
      have Z_598 := Nat.le_trans Z_589 (Keep.of_wr W591).1
      have N591 := Fr.snoc X591 N590 ge_b537
      refine Owe.iload X591.here hx (hb hby at_250) rfl ?_
      refine Owe.bipush X591.here hx (hb hby at_252) (w := (6 : Int32)) rfl ?_
      refine Owe.icmpYes X591.here hx (hb hby at_254) rfl (flt (by decide)).2.2.2 (pc' := 276) (by decide) (by decide) ?_
      refine Owe.iload X591.here hx (hb hby at_276) rfl ?_
      refine Owe.bipush X591.here hx (hb hby at_278) (w := (7 : Int32)) rfl ?_
      refine Owe.icmpYes X591.here hx (hb hby at_280) rfl (flt (by decide)).2.2.2 (pc' := 302) (by decide) (by decide) ?_
      refine Owe.iload X591.here hx (hb hby at_302) rfl ?_
      refine Owe.bipush X591.here hx (hb hby at_304) (w := (8 : Int32)) rfl ?_
      refine Owe.icmpYes X591.here hx (hb hby at_306) rfl (flt (by decide)).2.2.2 (pc' := 328) (by decide) (by decide) ?_
      refine Owe.iload X591.here hx (hb hby at_328) rfl ?_
      refine Owe.bipush X591.here hx (hb hby at_330) (w := (9 : Int32)) rfl ?_
      refine Owe.icmpYes X591.here hx (hb hby at_332) rfl (flt (by decide)).2.2.2 (pc' := 354) (by decide) (by decide) ?_
      refine Owe.iload X591.here hx (hb hby at_354) rfl ?_
      refine Owe.bipush X591.here hx (hb hby at_356) (w := (10 : Int32)) rfl ?_
      refine Owe.icmpYes X591.here hx (hb hby at_358) rfl (flt (by decide)).2.2.2 (pc' := 380) (by decide) (by decide) ?_
      refine Owe.iload X591.here hx (hb hby at_380) rfl ?_
      refine Owe.bipush X591.here hx (hb hby at_382) (w := (11 : Int32)) rfl ?_
      refine Owe.icmpYes X591.here hx (hb hby at_384) rfl (flt (by decide)).2.2.2 (pc' := 406) (by decide) (by decide) ?_
      refine Owe.new X591 hx hZt hownt (wd hw 48) (wd hw 2) (wd hw 1) e591 (hb hby at_406) (by decide) (by decide) fun T599 h599 b599 g599 X599 e599 E599 A599 D599 => ?_
      have ne_l4_b599 : l4 ≠ b599 := Nat.ne_of_lt (Nat.lt_of_lt_of_le E4_594.lt (Nat.le_of_eq g599.symm))
      have ne_t4_b599 : t4 ≠ b599 := Nat.ne_of_lt (Nat.lt_of_lt_of_le V4_597.lt (Nat.le_of_eq g599.symm))
      have ne_b537_b599 : b537 ≠ b599 := Nat.ne_of_lt (Nat.lt_of_lt_of_le V591.lt (Nat.le_of_eq g599.symm))
      have sf_b599 := (Safe.new (Nat.le_of_eq g599.symm) : Safe Z own_EL vmt h591 b599)
      have ge_b599 := Nat.le_trans Z_598 (Nat.le_of_eq g599.symm)
      have hk600 := Nat.le_trans hk592 E599.1
      have sf_b537_600 := Safe.ext E599 H592 sf_b537_592
      have sf_b599_600 := Safe.ext E599 H592 sf_b599
      have Rr600 := Rr592.trans (CHr.ext E599 H592)
      have H600 := CHv.ext E599 H592
      have Ot_601 := Ot_593.ext E599
      have E4_602 := E4_594.ext E599
      have Fv4_603 := Fv4_595.ext E599
      have Fc4_604 := Fc4_596.ext E599
      have V4_605 := V4_597.ext E599
      have V591_606 := V591.ext E599
      have Z_607 := Nat.le_trans Z_598 E599.1
      have Fvalue_b599 : Fld Z h599 b599 "java/lang/String" "value" "[B" .null := D599 (Or.inr (wd hw 4)) (ty := (.array .byte)) (by decide)
      have Fcoder_b599 : Fld Z h599 b599 "java/lang/String" "coder" "B" (.int (0 : Int32)) := D599 (Or.inr (wd hw 5)) (ty := .byte) (by decide)
      refine Owe.dup X599.here hx (hb hby at_409) rfl rfl ?_
      refine Owe.aload X599.here hx (hb hby at_410) rfl rfl ?_
      have hp608 : ∀ c ∈ ([(nar .char cv_545), (nar .char cv_554), (nar .char cv_563), (nar .char cv_572), (nar .char cv_581), (nar .char cv_590)] : List Int32), ¬ c < 0 ∧ ¬ (255 : Int32) < c := by
        intro c hc
        simp only [List.mem_cons, List.not_mem_nil, or_false] at hc
        rcases hc with rfl | rfl | rfl | rfl | rfl | rfl
        · exact (own_nar2 hcv_545)
        · exact (own_nar2 hcv_554)
        · exact (own_nar2 hcv_563)
        · exact (own_nar2 hcv_572)
        · exact (own_nar2 hcv_581)
        · exact (own_nar2 hcv_590)
      refine Owe.special X599 hx (y := Y1) rfl hownt (mvT hZt (wd hw 49)) (mvT hZt (wd hw 50)) (mvT hZt (wd hw 51)) (by decide) (StrChars.Road.backV (W := 1) hZt hws (kI := 4) (wd hw 2) (cs := ([(nar .char cv_545), (nar .char cv_554), (nar .char cv_563), (nar .char cv_572), (nar .char cv_581), (nar .char cv_590)] : List Int32)) (bs := ([(nar .char cv_545), (nar .char cv_554), (nar .char cv_563), (nar .char cv_572), (nar .char cv_581), (nar .char cv_590)] : List Int32).map (fun c => c.toInt8.toInt32)) (n := 6) ge_b599 Z_607 A599 Fvalue_b599 Fcoder_b599 V591_606 (S_COMPACT_STRINGS.ext Ot_601.2) cs0 rfl rfl (by decide) (by decide) hp608 rfl (by decide) (by decide)) (by rw [hml]; rfl) (a := b599) (argsL := [(.ref b537)]) (rest := [(.ref b599)]) (lenOf pd_9 rfl) rfl (nb rfl) (hb hby at_412) rfl e599 (by decide) (by decide) fun T609 v609 L609 X609 hQ609 => ?_
      obtain ⟨rfl, Nq609, K609, Ex609, Fc609, t609, kb609, gt609, ft609, nt609, Fv609, Vt609⟩ := hQ609
      have N609 := Fr.app N591 Nq609
      have ne_l4_t609 : l4 ≠ t609 := Nat.ne_of_lt (Nat.lt_of_lt_of_le E4_602.lt ft609)
      have ne_t4_t609 : t4 ≠ t609 := Nat.ne_of_lt (Nat.lt_of_lt_of_le V4_605.lt ft609)
      have ne_b537_t609 : b537 ≠ t609 := Nat.ne_of_lt (Nat.lt_of_lt_of_le V591_606.lt ft609)
      have ne_b599_t609 : b599 ≠ t609 := Nat.ne_of_lt (Nat.lt_of_lt_of_le A599.lt ft609)
      have hk610 := Nat.le_trans hk600 K609.1
      have sf_b537_610 := Safe.keep K609 (sfS sf_b599_600 sf0) H600 sf_b537_600
      have sf_b599_610 := Safe.keep K609 (sfS sf_b599_600 sf0) H600 sf_b599_600
      have Rr610 := Rr600.trans (CHr.keep K609 (sfS sf_b599_600 sf0) H600)
      have H610 := CHv.keep K609 (sfS sf_b599_600 sf0) H600
      have Ot_611 := Ot_601.keep K609 (allS ge_b599 all0)
      have E4_612 := E4_602.keep K609
      have Fv4_613 := Fv4_603.keep K609 (ninS ne_l4_b599 nin0)
      have Fc4_614 := Fc4_604.keep K609 (ninS ne_l4_b599 nin0)
      have V4_615 := V4_605.keep K609 (ninS ne_t4_b599 nin0)
      have V591_616 := V591_606.keep K609 (ninS ne_b537_b599 nin0)
      have A599_617 := A599.keep K609
      have Z_618 := Nat.le_trans Z_607 K609.1
      have Tx609 : (∀ c ∈ ([(nar .char cv_545), (nar .char cv_554), (nar .char cv_563), (nar .char cv_572), (nar .char cv_581), (nar .char cv_590)] : List Int32), ¬ c < 0 ∧ ¬ (255 : Int32) < c) ∧ ([(nar .char cv_545), (nar .char cv_554), (nar .char cv_563), (nar .char cv_572), (nar .char cv_581), (nar .char cv_590)] : List Int32).length ≤ 4000 := ⟨hp608, Nat.le_of_ble_eq_true rfl⟩
      refine Owe.astore X609.here hx (hb hby at_415) rfl rfl (l' := #[.val (.int p1), .val (.int p2), .val (.int p3), .val (.int p4), .val (.ref l4), .val (.int md), .val (.int l6), .val (.int c7), .val (.int ps), .val (.int (6 : Int32)), .val (.ref b599), .val (.ref b537)]) rfl ?_
      exact cut417 _ _ _ _ _ _ _ _ _ _ _ _ _ _ _ _ (X609.mono (by decide) (by decide)) rfl hSt hk610 hZt hownt N609 Z_618 Ot_611 H610 Rr610 Ex609 Fv609 Fc609 Vt609 Tx609
    · skip
      refine Owe.iload Xt.here hx (hb hby at_107) rfl ?_
      refine Owe.newarr Xt hx hZt (aty := .char) (wd hw 21) et (hb hby at_109) rfl (by decide) (cap := 7) (by decide) (by decide) (by decide) (by decide) fun T619 h619 b619 k619 g619 X619 e619 E619 V619 => ?_
      have ne_l4_b619 : l4 ≠ b619 := Nat.ne_of_lt (Nat.lt_of_lt_of_le E4.lt (Nat.le_of_eq g619.symm))
      have ne_t4_b619 : t4 ≠ b619 := Nat.ne_of_lt (Nat.lt_of_lt_of_le V4.lt (Nat.le_of_eq g619.symm))
      have sf_b619 := (Safe.new (Nat.le_of_eq g619.symm) : Safe Z own_EL vmt ht b619)
      have ge_b619 := Nat.le_trans Zt (Nat.le_of_eq g619.symm)
      have hk620 := Nat.le_trans hkt E619.1
      have sf_b619_620 := Safe.ext E619 Ht sf_b619
      have Rr620 := Rt.trans (CHr.ext E619 Ht)
      have H620 := CHv.ext E619 Ht
      have Ot_621 := Ot.ext E619
      have E4_622 := E4.ext E619
      have Fv4_623 := Fv4.ext E619
      have Fc4_624 := Fc4.ext E619
      have V4_625 := V4.ext E619
      have Z_626 := Nat.le_trans Zt E619.1
      have V_b619_619 : Arv Z h619 b619 k619 .char (7 : Int32) [(.int (0 : Int32)), (.int (0 : Int32)), (.int (0 : Int32)), (.int (0 : Int32)), (.int (0 : Int32)), (.int (0 : Int32)), (.int (0 : Int32))] (.int (0 : Int32)) := V619.pad (pad_rep [] (.int (0 : Int32)) 7)
      refine Owe.astore X619.here hx (hb hby at_111) rfl rfl (l' := #[.val (.int p1), .val (.int p2), .val (.int p3), .val (.int p4), .val (.ref l4), .val (.int md), .val (.int l6), .val (.int c7), .val (.int ps), .val (.int (7 : Int32)), .val .null, .val (.ref b619)]) rfl ?_
      refine Owe.iload X619.here hx (hb hby at_113) rfl ?_
      refine Owe.ifNo X619.here hx (hb hby at_115) rfl ((if0 _ _).trans (tlt (by decide)).2.2.2) ?_
      refine Owe.aload X619.here hx (hb hby at_118) rfl rfl ?_
      refine Owe.iconst X619.here hx (hb hby at_120) (w := (0 : Int32)) rfl ?_
      refine Owe.aload X619.here hx (hb hby at_121) rfl rfl ?_
      refine Owe.iconst X619.here hx (hb hby at_123) (w := (0 : Int32)) rfl ?_
      refine Owe.iload X619.here hx (hb hby at_124) rfl ?_
      refine Owe.iload X619.here hx (hb hby at_126) rfl ?_
      refine Owe.iload X619.here hx (hb hby at_128) rfl ?_
      refine Owe.iloadN X619.here hx (hb hby at_130) rfl ?_
      refine Owe.stat X619 hx (y := Y7) hownt (mvT hZt (wd hw 22)) (mvT hZt (wd hw 23)) (mvT hZt (wd hw 24)) (mvT hZt (wd hw 25)) (by decide) (backOf (W := 2) (rmat l Z a0 hw [] l4 t4 k4 cs (0 : Int32) ps c7 md p3 G1 fm h619 n0 Z_626 E4_622 Fv4_623 Fc4_624 V4_625 Tx4 S_COMPACT_STRINGS cs0 Ot_621 S_SIOOBE_FORMATTER ir_fm (by decide) hcb) hZt (wd hw 25) (wd hw 24) (by decide) (by decide)) (by rw [hml]; rfl) (argsL := [(.ref l4), (.int (0 : Int32)), (.int ps), (.int c7), (.int md), (.int p3)]) (rest := [(.int (0 : Int32)), (.ref b619)]) (lenOf pd_10 rfl) rfl (nb rfl) (hb hby at_131) rfl e619 (by decide) (by decide) fun T627 v627 L627 X627 hQ627 => ?_
      obtain ⟨cv_627, rfl, Nq627, e627, hcv_627⟩ := hQ627
      have N627 := Fr.app Nt Nq627
      refine Owe.castore X627 hx hZt e627 V_b619_619 (x := cv_627) 0 rfl (nb rfl) (by decide) (hb hby at_134) rfl fun T628 h628 X628 e628 W628 (V628 : Arv Z h628 b619 k619 .char (7 : Int32) [(.int (nar .char cv_627)), (.int (0 : Int32)), (.int (0 : Int32)), (.int (0 : Int32)), (.int (0 : Int32)), (.int (0 : Int32)), (.int (0 : Int32))] (.int (0 : Int32))) => ?_
      have hk629 := Nat.le_trans hk620 (Keep.of_wr W628).1
      have sf_b619_629 := Safe.wr W628 sf_b619_620 H620 sf_b619_620
      have Rr629 := Rr620.trans (CHr.wr W628 sf_b619_620 H620)
      have H629 := CHv.wr W628 sf_b619_620 H620
      have Ot_630 := Ot_621.wr W628 ge_b619
      have E4_631 := E4_622.wr W628
      have Fv4_632 := Fv4_623.other W628 (Or.inl ne_l4_b619)
      have Fc4_633 := Fc4_624.other W628 (Or.inl ne_l4_b619)
      have V4_634 := V4_625.other W628 ne_t4_b619
      have Z_635 := Nat.le_trans Z_626 (Keep.of_wr W628).1
      have N628 := Fr.snoc X628 N627 ge_b619
      refine Owe.iload X628.here hx (hb hby at_135) rfl ?_
      refine Owe.iconst X628.here hx (hb hby at_137) (w := (1 : Int32)) rfl ?_
      refine Owe.icmpNo X628.here hx (hb hby at_138) rfl (tlt (by decide)).2.2.2 ?_
      refine Owe.aload X628.here hx (hb hby at_141) rfl rfl ?_
      refine Owe.iconst X628.here hx (hb hby at_143) (w := (1 : Int32)) rfl ?_
      refine Owe.aload X628.here hx (hb hby at_144) rfl rfl ?_
      refine Owe.iconst X628.here hx (hb hby at_146) (w := (1 : Int32)) rfl ?_
      refine Owe.iload X628.here hx (hb hby at_147) rfl ?_
      refine Owe.iload X628.here hx (hb hby at_149) rfl ?_
      refine Owe.iload X628.here hx (hb hby at_151) rfl ?_
      refine Owe.iloadN X628.here hx (hb hby at_153) rfl ?_
      refine Owe.stat X628 hx (y := Y7) hownt (mvT hZt (wd hw 22)) (mvT hZt (wd hw 23)) (mvT hZt (wd hw 24)) (mvT hZt (wd hw 25)) (by decide) (backOf (W := 2) (rmat l Z a0 hw [] l4 t4 k4 cs (1 : Int32) ps c7 md p3 G1 fm h628 n0 Z_635 E4_631 Fv4_632 Fc4_633 V4_634 Tx4 S_COMPACT_STRINGS cs0 Ot_630 S_SIOOBE_FORMATTER ir_fm (by decide) hcb) hZt (wd hw 25) (wd hw 24) (by decide) (by decide)) (by rw [hml]; rfl) (argsL := [(.ref l4), (.int (1 : Int32)), (.int ps), (.int c7), (.int md), (.int p3)]) (rest := [(.int (1 : Int32)), (.ref b619)]) (lenOf pd_10 rfl) rfl (nb rfl) (hb hby at_154) rfl e628 (by decide) (by decide) fun T636 v636 L636 X636 hQ636 => ?_
      obtain ⟨cv_636, rfl, Nq636, e636, hcv_636⟩ := hQ636
      have N636 := Fr.app N628 Nq636
      refine Owe.castore X636 hx hZt e636 V628 (x := cv_636) 1 rfl (nb rfl) (by decide) (hb hby at_157) rfl fun T637 h637 X637 e637 W637 (V637 : Arv Z h637 b619 k619 .char (7 : Int32) [(.int (nar .char cv_627)), (.int (nar .char cv_636)), (.int (0 : Int32)), (.int (0 : Int32)), (.int (0 : Int32)), (.int (0 : Int32)), (.int (0 : Int32))] (.int (0 : Int32))) => ?_
      have hk638 := Nat.le_trans hk629 (Keep.of_wr W637).1
      have sf_b619_638 := Safe.wr W637 sf_b619_629 H629 sf_b619_629
      have Rr638 := Rr629.trans (CHr.wr W637 sf_b619_629 H629)
      have H638 := CHv.wr W637 sf_b619_629 H629
      have Ot_639 := Ot_630.wr W637 ge_b619
      have E4_640 := E4_631.wr W637
      have Fv4_641 := Fv4_632.other W637 (Or.inl ne_l4_b619)
      have Fc4_642 := Fc4_633.other W637 (Or.inl ne_l4_b619)
      have V4_643 := V4_634.other W637 ne_t4_b619
      have Z_644 := Nat.le_trans Z_635 (Keep.of_wr W637).1
      have N637 := Fr.snoc X637 N636 ge_b619
      refine Owe.iload X637.here hx (hb hby at_158) rfl ?_
      refine Owe.iconst X637.here hx (hb hby at_160) (w := (2 : Int32)) rfl ?_
      refine Owe.icmpNo X637.here hx (hb hby at_161) rfl (tlt (by decide)).2.2.2 ?_
      refine Owe.aload X637.here hx (hb hby at_164) rfl rfl ?_
      refine Owe.iconst X637.here hx (hb hby at_166) (w := (2 : Int32)) rfl ?_
      refine Owe.aload X637.here hx (hb hby at_167) rfl rfl ?_
      refine Owe.iconst X637.here hx (hb hby at_169) (w := (2 : Int32)) rfl ?_
      refine Owe.iload X637.here hx (hb hby at_170) rfl ?_
      refine Owe.iload X637.here hx (hb hby at_172) rfl ?_
      refine Owe.iload X637.here hx (hb hby at_174) rfl ?_
      refine Owe.iloadN X637.here hx (hb hby at_176) rfl ?_
      refine Owe.stat X637 hx (y := Y7) hownt (mvT hZt (wd hw 22)) (mvT hZt (wd hw 23)) (mvT hZt (wd hw 24)) (mvT hZt (wd hw 25)) (by decide) (backOf (W := 2) (rmat l Z a0 hw [] l4 t4 k4 cs (2 : Int32) ps c7 md p3 G1 fm h637 n0 Z_644 E4_640 Fv4_641 Fc4_642 V4_643 Tx4 S_COMPACT_STRINGS cs0 Ot_639 S_SIOOBE_FORMATTER ir_fm (by decide) hcb) hZt (wd hw 25) (wd hw 24) (by decide) (by decide)) (by rw [hml]; rfl) (argsL := [(.ref l4), (.int (2 : Int32)), (.int ps), (.int c7), (.int md), (.int p3)]) (rest := [(.int (2 : Int32)), (.ref b619)]) (lenOf pd_10 rfl) rfl (nb rfl) (hb hby at_177) rfl e637 (by decide) (by decide) fun T645 v645 L645 X645 hQ645 => ?_
      obtain ⟨cv_645, rfl, Nq645, e645, hcv_645⟩ := hQ645
      have N645 := Fr.app N637 Nq645
      refine Owe.castore X645 hx hZt e645 V637 (x := cv_645) 2 rfl (nb rfl) (by decide) (hb hby at_180) rfl fun T646 h646 X646 e646 W646 (V646 : Arv Z h646 b619 k619 .char (7 : Int32) [(.int (nar .char cv_627)), (.int (nar .char cv_636)), (.int (nar .char cv_645)), (.int (0 : Int32)), (.int (0 : Int32)), (.int (0 : Int32)), (.int (0 : Int32))] (.int (0 : Int32))) => ?_
      have hk647 := Nat.le_trans hk638 (Keep.of_wr W646).1
      have sf_b619_647 := Safe.wr W646 sf_b619_638 H638 sf_b619_638
      have Rr647 := Rr638.trans (CHr.wr W646 sf_b619_638 H638)
      have H647 := CHv.wr W646 sf_b619_638 H638
      have Ot_648 := Ot_639.wr W646 ge_b619
      have E4_649 := E4_640.wr W646
      have Fv4_650 := Fv4_641.other W646 (Or.inl ne_l4_b619)
      have Fc4_651 := Fc4_642.other W646 (Or.inl ne_l4_b619)
      have V4_652 := V4_643.other W646 ne_t4_b619
      have Z_653 := Nat.le_trans Z_644 (Keep.of_wr W646).1
      have N646 := Fr.snoc X646 N645 ge_b619
      refine Owe.iload X646.here hx (hb hby at_181) rfl ?_
      refine Owe.iconst X646.here hx (hb hby at_183) (w := (3 : Int32)) rfl ?_
      refine Owe.icmpNo X646.here hx (hb hby at_184) rfl (tlt (by decide)).2.2.2 ?_
      refine Owe.aload X646.here hx (hb hby at_187) rfl rfl ?_
      refine Owe.iconst X646.here hx (hb hby at_189) (w := (3 : Int32)) rfl ?_
      refine Owe.aload X646.here hx (hb hby at_190) rfl rfl ?_
      refine Owe.iconst X646.here hx (hb hby at_192) (w := (3 : Int32)) rfl ?_
      refine Owe.iload X646.here hx (hb hby at_193) rfl ?_
      refine Owe.iload X646.here hx (hb hby at_195) rfl ?_
      refine Owe.iload X646.here hx (hb hby at_197) rfl ?_
      refine Owe.iloadN X646.here hx (hb hby at_199) rfl ?_
      refine Owe.stat X646 hx (y := Y7) hownt (mvT hZt (wd hw 22)) (mvT hZt (wd hw 23)) (mvT hZt (wd hw 24)) (mvT hZt (wd hw 25)) (by decide) (backOf (W := 2) (rmat l Z a0 hw [] l4 t4 k4 cs (3 : Int32) ps c7 md p3 G1 fm h646 n0 Z_653 E4_649 Fv4_650 Fc4_651 V4_652 Tx4 S_COMPACT_STRINGS cs0 Ot_648 S_SIOOBE_FORMATTER ir_fm (by decide) hcb) hZt (wd hw 25) (wd hw 24) (by decide) (by decide)) (by rw [hml]; rfl) (argsL := [(.ref l4), (.int (3 : Int32)), (.int ps), (.int c7), (.int md), (.int p3)]) (rest := [(.int (3 : Int32)), (.ref b619)]) (lenOf pd_10 rfl) rfl (nb rfl) (hb hby at_200) rfl e646 (by decide) (by decide) fun T654 v654 L654 X654 hQ654 => ?_
      obtain ⟨cv_654, rfl, Nq654, e654, hcv_654⟩ := hQ654
      have N654 := Fr.app N646 Nq654
      refine Owe.castore X654 hx hZt e654 V646 (x := cv_654) 3 rfl (nb rfl) (by decide) (hb hby at_203) rfl fun T655 h655 X655 e655 W655 (V655 : Arv Z h655 b619 k619 .char (7 : Int32) [(.int (nar .char cv_627)), (.int (nar .char cv_636)), (.int (nar .char cv_645)), (.int (nar .char cv_654)), (.int (0 : Int32)), (.int (0 : Int32)), (.int (0 : Int32))] (.int (0 : Int32))) => ?_
      have hk656 := Nat.le_trans hk647 (Keep.of_wr W655).1
      have sf_b619_656 := Safe.wr W655 sf_b619_647 H647 sf_b619_647
      have Rr656 := Rr647.trans (CHr.wr W655 sf_b619_647 H647)
      have H656 := CHv.wr W655 sf_b619_647 H647
      have Ot_657 := Ot_648.wr W655 ge_b619
      have E4_658 := E4_649.wr W655
      have Fv4_659 := Fv4_650.other W655 (Or.inl ne_l4_b619)
      have Fc4_660 := Fc4_651.other W655 (Or.inl ne_l4_b619)
      have V4_661 := V4_652.other W655 ne_t4_b619
      have Z_662 := Nat.le_trans Z_653 (Keep.of_wr W655).1
      have N655 := Fr.snoc X655 N654 ge_b619
      refine Owe.iload X655.here hx (hb hby at_204) rfl ?_
      refine Owe.iconst X655.here hx (hb hby at_206) (w := (4 : Int32)) rfl ?_
      refine Owe.icmpNo X655.here hx (hb hby at_207) rfl (tlt (by decide)).2.2.2 ?_
      refine Owe.aload X655.here hx (hb hby at_210) rfl rfl ?_
      refine Owe.iconst X655.here hx (hb hby at_212) (w := (4 : Int32)) rfl ?_
      refine Owe.aload X655.here hx (hb hby at_213) rfl rfl ?_
      refine Owe.iconst X655.here hx (hb hby at_215) (w := (4 : Int32)) rfl ?_
      refine Owe.iload X655.here hx (hb hby at_216) rfl ?_
      refine Owe.iload X655.here hx (hb hby at_218) rfl ?_
      refine Owe.iload X655.here hx (hb hby at_220) rfl ?_
      refine Owe.iloadN X655.here hx (hb hby at_222) rfl ?_
      refine Owe.stat X655 hx (y := Y7) hownt (mvT hZt (wd hw 22)) (mvT hZt (wd hw 23)) (mvT hZt (wd hw 24)) (mvT hZt (wd hw 25)) (by decide) (backOf (W := 2) (rmat l Z a0 hw [] l4 t4 k4 cs (4 : Int32) ps c7 md p3 G1 fm h655 n0 Z_662 E4_658 Fv4_659 Fc4_660 V4_661 Tx4 S_COMPACT_STRINGS cs0 Ot_657 S_SIOOBE_FORMATTER ir_fm (by decide) hcb) hZt (wd hw 25) (wd hw 24) (by decide) (by decide)) (by rw [hml]; rfl) (argsL := [(.ref l4), (.int (4 : Int32)), (.int ps), (.int c7), (.int md), (.int p3)]) (rest := [(.int (4 : Int32)), (.ref b619)]) (lenOf pd_10 rfl) rfl (nb rfl) (hb hby at_223) rfl e655 (by decide) (by decide) fun T663 v663 L663 X663 hQ663 => ?_
      obtain ⟨cv_663, rfl, Nq663, e663, hcv_663⟩ := hQ663
      have N663 := Fr.app N655 Nq663
      refine Owe.castore X663 hx hZt e663 V655 (x := cv_663) 4 rfl (nb rfl) (by decide) (hb hby at_226) rfl fun T664 h664 X664 e664 W664 (V664 : Arv Z h664 b619 k619 .char (7 : Int32) [(.int (nar .char cv_627)), (.int (nar .char cv_636)), (.int (nar .char cv_645)), (.int (nar .char cv_654)), (.int (nar .char cv_663)), (.int (0 : Int32)), (.int (0 : Int32))] (.int (0 : Int32))) => ?_
      have hk665 := Nat.le_trans hk656 (Keep.of_wr W664).1
      have sf_b619_665 := Safe.wr W664 sf_b619_656 H656 sf_b619_656
      have Rr665 := Rr656.trans (CHr.wr W664 sf_b619_656 H656)
      have H665 := CHv.wr W664 sf_b619_656 H656
      have Ot_666 := Ot_657.wr W664 ge_b619
      have E4_667 := E4_658.wr W664
      have Fv4_668 := Fv4_659.other W664 (Or.inl ne_l4_b619)
      have Fc4_669 := Fc4_660.other W664 (Or.inl ne_l4_b619)
      have V4_670 := V4_661.other W664 ne_t4_b619
      have Z_671 := Nat.le_trans Z_662 (Keep.of_wr W664).1
      have N664 := Fr.snoc X664 N663 ge_b619
      refine Owe.iload X664.here hx (hb hby at_227) rfl ?_
      refine Owe.iconst X664.here hx (hb hby at_229) (w := (5 : Int32)) rfl ?_
      refine Owe.icmpNo X664.here hx (hb hby at_230) rfl (tlt (by decide)).2.2.2 ?_
      refine Owe.aload X664.here hx (hb hby at_233) rfl rfl ?_
      refine Owe.iconst X664.here hx (hb hby at_235) (w := (5 : Int32)) rfl ?_
      refine Owe.aload X664.here hx (hb hby at_236) rfl rfl ?_
      refine Owe.iconst X664.here hx (hb hby at_238) (w := (5 : Int32)) rfl ?_
      refine Owe.iload X664.here hx (hb hby at_239) rfl ?_
      refine Owe.iload X664.here hx (hb hby at_241) rfl ?_
      refine Owe.iload X664.here hx (hb hby at_243) rfl ?_
      refine Owe.iloadN X664.here hx (hb hby at_245) rfl ?_
      refine Owe.stat X664 hx (y := Y7) hownt (mvT hZt (wd hw 22)) (mvT hZt (wd hw 23)) (mvT hZt (wd hw 24)) (mvT hZt (wd hw 25)) (by decide) (backOf (W := 2) (rmat l Z a0 hw [] l4 t4 k4 cs (5 : Int32) ps c7 md p3 G1 fm h664 n0 Z_671 E4_667 Fv4_668 Fc4_669 V4_670 Tx4 S_COMPACT_STRINGS cs0 Ot_666 S_SIOOBE_FORMATTER ir_fm (by decide) hcb) hZt (wd hw 25) (wd hw 24) (by decide) (by decide)) (by rw [hml]; rfl) (argsL := [(.ref l4), (.int (5 : Int32)), (.int ps), (.int c7), (.int md), (.int p3)]) (rest := [(.int (5 : Int32)), (.ref b619)]) (lenOf pd_10 rfl) rfl (nb rfl) (hb hby at_246) rfl e664 (by decide) (by decide) fun T672 v672 L672 X672 hQ672 => ?_
      obtain ⟨cv_672, rfl, Nq672, e672, hcv_672⟩ := hQ672
      have N672 := Fr.app N664 Nq672
      refine Owe.castore X672 hx hZt e672 V664 (x := cv_672) 5 rfl (nb rfl) (by decide) (hb hby at_249) rfl fun T673 h673 X673 e673 W673 (V673 : Arv Z h673 b619 k619 .char (7 : Int32) [(.int (nar .char cv_627)), (.int (nar .char cv_636)), (.int (nar .char cv_645)), (.int (nar .char cv_654)), (.int (nar .char cv_663)), (.int (nar .char cv_672)), (.int (0 : Int32))] (.int (0 : Int32))) => ?_
      have hk674 := Nat.le_trans hk665 (Keep.of_wr W673).1
      have sf_b619_674 := Safe.wr W673 sf_b619_665 H665 sf_b619_665
      have Rr674 := Rr665.trans (CHr.wr W673 sf_b619_665 H665)
      have H674 := CHv.wr W673 sf_b619_665 H665
      have Ot_675 := Ot_666.wr W673 ge_b619
      have E4_676 := E4_667.wr W673
      have Fv4_677 := Fv4_668.other W673 (Or.inl ne_l4_b619)
      have Fc4_678 := Fc4_669.other W673 (Or.inl ne_l4_b619)
      have V4_679 := V4_670.other W673 ne_t4_b619
      have Z_680 := Nat.le_trans Z_671 (Keep.of_wr W673).1
      have N673 := Fr.snoc X673 N672 ge_b619
      refine Owe.iload X673.here hx (hb hby at_250) rfl ?_
      refine Owe.bipush X673.here hx (hb hby at_252) (w := (6 : Int32)) rfl ?_
      refine Owe.icmpNo X673.here hx (hb hby at_254) rfl (tlt (by decide)).2.2.2 ?_
      refine Owe.aload X673.here hx (hb hby at_257) rfl rfl ?_
      refine Owe.bipush X673.here hx (hb hby at_259) (w := (6 : Int32)) rfl ?_
      refine Owe.aload X673.here hx (hb hby at_261) rfl rfl ?_
      refine Owe.bipush X673.here hx (hb hby at_263) (w := (6 : Int32)) rfl ?_
      refine Owe.iload X673.here hx (hb hby at_265) rfl ?_
      refine Owe.iload X673.here hx (hb hby at_267) rfl ?_
      refine Owe.iload X673.here hx (hb hby at_269) rfl ?_
      refine Owe.iloadN X673.here hx (hb hby at_271) rfl ?_
      refine Owe.stat X673 hx (y := Y7) hownt (mvT hZt (wd hw 22)) (mvT hZt (wd hw 23)) (mvT hZt (wd hw 24)) (mvT hZt (wd hw 25)) (by decide) (backOf (W := 2) (rmat l Z a0 hw [] l4 t4 k4 cs (6 : Int32) ps c7 md p3 G1 fm h673 n0 Z_680 E4_676 Fv4_677 Fc4_678 V4_679 Tx4 S_COMPACT_STRINGS cs0 Ot_675 S_SIOOBE_FORMATTER ir_fm (by decide) hcb) hZt (wd hw 25) (wd hw 24) (by decide) (by decide)) (by rw [hml]; rfl) (argsL := [(.ref l4), (.int (6 : Int32)), (.int ps), (.int c7), (.int md), (.int p3)]) (rest := [(.int (6 : Int32)), (.ref b619)]) (lenOf pd_10 rfl) rfl (nb rfl) (hb hby at_272) rfl e673 (by decide) (by decide) fun T681 v681 L681 X681 hQ681 => ?_
      obtain ⟨cv_681, rfl, Nq681, e681, hcv_681⟩ := hQ681
      have N681 := Fr.app N673 Nq681
      refine Owe.castore X681 hx hZt e681 V673 (x := cv_681) 6 rfl (nb rfl) (by decide) (hb hby at_275) rfl fun T682 h682 X682 e682 W682 (V682 : Arv Z h682 b619 k619 .char (7 : Int32) [(.int (nar .char cv_627)), (.int (nar .char cv_636)), (.int (nar .char cv_645)), (.int (nar .char cv_654)), (.int (nar .char cv_663)), (.int (nar .char cv_672)), (.int (nar .char cv_681))] (.int (0 : Int32))) => ?_
      have hk683 := Nat.le_trans hk674 (Keep.of_wr W682).1
      have sf_b619_683 := Safe.wr W682 sf_b619_674 H674 sf_b619_674
      have Rr683 := Rr674.trans (CHr.wr W682 sf_b619_674 H674)
      have H683 := CHv.wr W682 sf_b619_674 H674
      have Ot_684 := Ot_675.wr W682 ge_b619
      have E4_685 := E4_676.wr W682
      have Fv4_686 := Fv4_677.other W682 (Or.inl ne_l4_b619)
      have Fc4_687 := Fc4_678.other W682 (Or.inl ne_l4_b619)
      have V4_688 := V4_679.other W682 ne_t4_b619
      have Z_689 := Nat.le_trans Z_680 (Keep.of_wr W682).1
      have N682 := Fr.snoc X682 N681 ge_b619
      refine Owe.iload X682.here hx (hb hby at_276) rfl ?_
      refine Owe.bipush X682.here hx (hb hby at_278) (w := (7 : Int32)) rfl ?_
      refine Owe.icmpYes X682.here hx (hb hby at_280) rfl (flt (by decide)).2.2.2 (pc' := 302) (by decide) (by decide) ?_
      refine Owe.iload X682.here hx (hb hby at_302) rfl ?_
      refine Owe.bipush X682.here hx (hb hby at_304) (w := (8 : Int32)) rfl ?_
      refine Owe.icmpYes X682.here hx (hb hby at_306) rfl (flt (by decide)).2.2.2 (pc' := 328) (by decide) (by decide) ?_
      refine Owe.iload X682.here hx (hb hby at_328) rfl ?_
      refine Owe.bipush X682.here hx (hb hby at_330) (w := (9 : Int32)) rfl ?_
      refine Owe.icmpYes X682.here hx (hb hby at_332) rfl (flt (by decide)).2.2.2 (pc' := 354) (by decide) (by decide) ?_
      refine Owe.iload X682.here hx (hb hby at_354) rfl ?_
      refine Owe.bipush X682.here hx (hb hby at_356) (w := (10 : Int32)) rfl ?_
      refine Owe.icmpYes X682.here hx (hb hby at_358) rfl (flt (by decide)).2.2.2 (pc' := 380) (by decide) (by decide) ?_
      refine Owe.iload X682.here hx (hb hby at_380) rfl ?_
      refine Owe.bipush X682.here hx (hb hby at_382) (w := (11 : Int32)) rfl ?_
      refine Owe.icmpYes X682.here hx (hb hby at_384) rfl (flt (by decide)).2.2.2 (pc' := 406) (by decide) (by decide) ?_
      refine Owe.new X682 hx hZt hownt (wd hw 48) (wd hw 2) (wd hw 1) e682 (hb hby at_406) (by decide) (by decide) fun T690 h690 b690 g690 X690 e690 E690 A690 D690 => ?_
      have ne_l4_b690 : l4 ≠ b690 := Nat.ne_of_lt (Nat.lt_of_lt_of_le E4_685.lt (Nat.le_of_eq g690.symm))
      have ne_t4_b690 : t4 ≠ b690 := Nat.ne_of_lt (Nat.lt_of_lt_of_le V4_688.lt (Nat.le_of_eq g690.symm))
      have ne_b619_b690 : b619 ≠ b690 := Nat.ne_of_lt (Nat.lt_of_lt_of_le V682.lt (Nat.le_of_eq g690.symm))
      have sf_b690 := (Safe.new (Nat.le_of_eq g690.symm) : Safe Z own_EL vmt h682 b690)
      have ge_b690 := Nat.le_trans Z_689 (Nat.le_of_eq g690.symm)
      have hk691 := Nat.le_trans hk683 E690.1
      have sf_b619_691 := Safe.ext E690 H683 sf_b619_683
      have sf_b690_691 := Safe.ext E690 H683 sf_b690
      have Rr691 := Rr683.trans (CHr.ext E690 H683)
      have H691 := CHv.ext E690 H683
      have Ot_692 := Ot_684.ext E690
      have E4_693 := E4_685.ext E690
      have Fv4_694 := Fv4_686.ext E690
      have Fc4_695 := Fc4_687.ext E690
      have V4_696 := V4_688.ext E690
      have V682_697 := V682.ext E690
      have Z_698 := Nat.le_trans Z_689 E690.1
      have Fvalue_b690 : Fld Z h690 b690 "java/lang/String" "value" "[B" .null := D690 (Or.inr (wd hw 4)) (ty := (.array .byte)) (by decide)
      have Fcoder_b690 : Fld Z h690 b690 "java/lang/String" "coder" "B" (.int (0 : Int32)) := D690 (Or.inr (wd hw 5)) (ty := .byte) (by decide)
      refine Owe.dup X690.here hx (hb hby at_409) rfl rfl ?_
      refine Owe.aload X690.here hx (hb hby at_410) rfl rfl ?_
      have hp699 : ∀ c ∈ ([(nar .char cv_627), (nar .char cv_636), (nar .char cv_645), (nar .char cv_654), (nar .char cv_663), (nar .char cv_672), (nar .char cv_681)] : List Int32), ¬ c < 0 ∧ ¬ (255 : Int32) < c := by
        intro c hc
        simp only [List.mem_cons, List.not_mem_nil, or_false] at hc
        rcases hc with rfl | rfl | rfl | rfl | rfl | rfl | rfl
        · exact (own_nar2 hcv_627)
        · exact (own_nar2 hcv_636)
        · exact (own_nar2 hcv_645)
        · exact (own_nar2 hcv_654)
        · exact (own_nar2 hcv_663)
        · exact (own_nar2 hcv_672)
        · exact (own_nar2 hcv_681)
      refine Owe.special X690 hx (y := Y1) rfl hownt (mvT hZt (wd hw 49)) (mvT hZt (wd hw 50)) (mvT hZt (wd hw 51)) (by decide) (StrChars.Road.backV (W := 1) hZt hws (kI := 4) (wd hw 2) (cs := ([(nar .char cv_627), (nar .char cv_636), (nar .char cv_645), (nar .char cv_654), (nar .char cv_663), (nar .char cv_672), (nar .char cv_681)] : List Int32)) (bs := ([(nar .char cv_627), (nar .char cv_636), (nar .char cv_645), (nar .char cv_654), (nar .char cv_663), (nar .char cv_672), (nar .char cv_681)] : List Int32).map (fun c => c.toInt8.toInt32)) (n := 7) ge_b690 Z_698 A690 Fvalue_b690 Fcoder_b690 V682_697 (S_COMPACT_STRINGS.ext Ot_692.2) cs0 rfl rfl (by decide) (by decide) hp699 rfl (by decide) (by decide)) (by rw [hml]; rfl) (a := b690) (argsL := [(.ref b619)]) (rest := [(.ref b690)]) (lenOf pd_9 rfl) rfl (nb rfl) (hb hby at_412) rfl e690 (by decide) (by decide) fun T700 v700 L700 X700 hQ700 => ?_
      obtain ⟨rfl, Nq700, K700, Ex700, Fc700, t700, kb700, gt700, ft700, nt700, Fv700, Vt700⟩ := hQ700
      have N700 := Fr.app N682 Nq700
      have ne_l4_t700 : l4 ≠ t700 := Nat.ne_of_lt (Nat.lt_of_lt_of_le E4_693.lt ft700)
      have ne_t4_t700 : t4 ≠ t700 := Nat.ne_of_lt (Nat.lt_of_lt_of_le V4_696.lt ft700)
      have ne_b619_t700 : b619 ≠ t700 := Nat.ne_of_lt (Nat.lt_of_lt_of_le V682_697.lt ft700)
      have ne_b690_t700 : b690 ≠ t700 := Nat.ne_of_lt (Nat.lt_of_lt_of_le A690.lt ft700)
      have hk701 := Nat.le_trans hk691 K700.1
      have sf_b619_701 := Safe.keep K700 (sfS sf_b690_691 sf0) H691 sf_b619_691
      have sf_b690_701 := Safe.keep K700 (sfS sf_b690_691 sf0) H691 sf_b690_691
      have Rr701 := Rr691.trans (CHr.keep K700 (sfS sf_b690_691 sf0) H691)
      have H701 := CHv.keep K700 (sfS sf_b690_691 sf0) H691
      have Ot_702 := Ot_692.keep K700 (allS ge_b690 all0)
      have E4_703 := E4_693.keep K700
      have Fv4_704 := Fv4_694.keep K700 (ninS ne_l4_b690 nin0)
      have Fc4_705 := Fc4_695.keep K700 (ninS ne_l4_b690 nin0)
      have V4_706 := V4_696.keep K700 (ninS ne_t4_b690 nin0)
      have V682_707 := V682_697.keep K700 (ninS ne_b619_b690 nin0)
      have A690_708 := A690.keep K700
      have Z_709 := Nat.le_trans Z_698 K700.1
      have Tx700 : (∀ c ∈ ([(nar .char cv_627), (nar .char cv_636), (nar .char cv_645), (nar .char cv_654), (nar .char cv_663), (nar .char cv_672), (nar .char cv_681)] : List Int32), ¬ c < 0 ∧ ¬ (255 : Int32) < c) ∧ ([(nar .char cv_627), (nar .char cv_636), (nar .char cv_645), (nar .char cv_654), (nar .char cv_663), (nar .char cv_672), (nar .char cv_681)] : List Int32).length ≤ 4000 := ⟨hp699, Nat.le_of_ble_eq_true rfl⟩
      refine Owe.astore X700.here hx (hb hby at_415) rfl rfl (l' := #[.val (.int p1), .val (.int p2), .val (.int p3), .val (.int p4), .val (.ref l4), .val (.int md), .val (.int l6), .val (.int c7), .val (.int ps), .val (.int (7 : Int32)), .val (.ref b690), .val (.ref b619)]) rfl ?_
      exact cut417 _ _ _ _ _ _ _ _ _ _ _ _ _ _ _ _ (X700.mono (by decide) (by decide)) rfl hSt hk701 hZt hownt N700 Z_709 Ot_702 H701 Rr701 Ex700 Fv700 Fc700 Vt700 Tx700
    · skip
      refine Owe.iload Xt.here hx (hb hby at_107) rfl ?_
      refine Owe.newarr Xt hx hZt (aty := .char) (wd hw 21) et (hb hby at_109) rfl (by decide) (cap := 8) (by decide) (by decide) (by decide) (by decide) fun T710 h710 b710 k710 g710 X710 e710 E710 V710 => ?_
      have ne_l4_b710 : l4 ≠ b710 := Nat.ne_of_lt (Nat.lt_of_lt_of_le E4.lt (Nat.le_of_eq g710.symm))
      have ne_t4_b710 : t4 ≠ b710 := Nat.ne_of_lt (Nat.lt_of_lt_of_le V4.lt (Nat.le_of_eq g710.symm))
      have sf_b710 := (Safe.new (Nat.le_of_eq g710.symm) : Safe Z own_EL vmt ht b710)
      have ge_b710 := Nat.le_trans Zt (Nat.le_of_eq g710.symm)
      have hk711 := Nat.le_trans hkt E710.1
      have sf_b710_711 := Safe.ext E710 Ht sf_b710
      have Rr711 := Rt.trans (CHr.ext E710 Ht)
      have H711 := CHv.ext E710 Ht
      have Ot_712 := Ot.ext E710
      have E4_713 := E4.ext E710
      have Fv4_714 := Fv4.ext E710
      have Fc4_715 := Fc4.ext E710
      have V4_716 := V4.ext E710
      have Z_717 := Nat.le_trans Zt E710.1
      have V_b710_710 : Arv Z h710 b710 k710 .char (8 : Int32) [(.int (0 : Int32)), (.int (0 : Int32)), (.int (0 : Int32)), (.int (0 : Int32)), (.int (0 : Int32)), (.int (0 : Int32)), (.int (0 : Int32)), (.int (0 : Int32))] (.int (0 : Int32)) := V710.pad (pad_rep [] (.int (0 : Int32)) 8)
      refine Owe.astore X710.here hx (hb hby at_111) rfl rfl (l' := #[.val (.int p1), .val (.int p2), .val (.int p3), .val (.int p4), .val (.ref l4), .val (.int md), .val (.int l6), .val (.int c7), .val (.int ps), .val (.int (8 : Int32)), .val .null, .val (.ref b710)]) rfl ?_
      refine Owe.iload X710.here hx (hb hby at_113) rfl ?_
      refine Owe.ifNo X710.here hx (hb hby at_115) rfl ((if0 _ _).trans (tlt (by decide)).2.2.2) ?_
      refine Owe.aload X710.here hx (hb hby at_118) rfl rfl ?_
      refine Owe.iconst X710.here hx (hb hby at_120) (w := (0 : Int32)) rfl ?_
      refine Owe.aload X710.here hx (hb hby at_121) rfl rfl ?_
      refine Owe.iconst X710.here hx (hb hby at_123) (w := (0 : Int32)) rfl ?_
      refine Owe.iload X710.here hx (hb hby at_124) rfl ?_
      refine Owe.iload X710.here hx (hb hby at_126) rfl ?_
      refine Owe.iload X710.here hx (hb hby at_128) rfl ?_
      refine Owe.iloadN X710.here hx (hb hby at_130) rfl ?_
      refine Owe.stat X710 hx (y := Y7) hownt (mvT hZt (wd hw 22)) (mvT hZt (wd hw 23)) (mvT hZt (wd hw 24)) (mvT hZt (wd hw 25)) (by decide) (backOf (W := 2) (rmat l Z a0 hw [] l4 t4 k4 cs (0 : Int32) ps c7 md p3 G1 fm h710 n0 Z_717 E4_713 Fv4_714 Fc4_715 V4_716 Tx4 S_COMPACT_STRINGS cs0 Ot_712 S_SIOOBE_FORMATTER ir_fm (by decide) hcb) hZt (wd hw 25) (wd hw 24) (by decide) (by decide)) (by rw [hml]; rfl) (argsL := [(.ref l4), (.int (0 : Int32)), (.int ps), (.int c7), (.int md), (.int p3)]) (rest := [(.int (0 : Int32)), (.ref b710)]) (lenOf pd_10 rfl) rfl (nb rfl) (hb hby at_131) rfl e710 (by decide) (by decide) fun T718 v718 L718 X718 hQ718 => ?_
      obtain ⟨cv_718, rfl, Nq718, e718, hcv_718⟩ := hQ718
      have N718 := Fr.app Nt Nq718
      refine Owe.castore X718 hx hZt e718 V_b710_710 (x := cv_718) 0 rfl (nb rfl) (by decide) (hb hby at_134) rfl fun T719 h719 X719 e719 W719 (V719 : Arv Z h719 b710 k710 .char (8 : Int32) [(.int (nar .char cv_718)), (.int (0 : Int32)), (.int (0 : Int32)), (.int (0 : Int32)), (.int (0 : Int32)), (.int (0 : Int32)), (.int (0 : Int32)), (.int (0 : Int32))] (.int (0 : Int32))) => ?_
      have hk720 := Nat.le_trans hk711 (Keep.of_wr W719).1
      have sf_b710_720 := Safe.wr W719 sf_b710_711 H711 sf_b710_711
      have Rr720 := Rr711.trans (CHr.wr W719 sf_b710_711 H711)
      have H720 := CHv.wr W719 sf_b710_711 H711
      have Ot_721 := Ot_712.wr W719 ge_b710
      have E4_722 := E4_713.wr W719
      have Fv4_723 := Fv4_714.other W719 (Or.inl ne_l4_b710)
      have Fc4_724 := Fc4_715.other W719 (Or.inl ne_l4_b710)
      have V4_725 := V4_716.other W719 ne_t4_b710
      have Z_726 := Nat.le_trans Z_717 (Keep.of_wr W719).1
      have N719 := Fr.snoc X719 N718 ge_b710
      refine Owe.iload X719.here hx (hb hby at_135) rfl ?_
      refine Owe.iconst X719.here hx (hb hby at_137) (w := (1 : Int32)) rfl ?_
      refine Owe.icmpNo X719.here hx (hb hby at_138) rfl (tlt (by decide)).2.2.2 ?_
      refine Owe.aload X719.here hx (hb hby at_141) rfl rfl ?_
      refine Owe.iconst X719.here hx (hb hby at_143) (w := (1 : Int32)) rfl ?_
      refine Owe.aload X719.here hx (hb hby at_144) rfl rfl ?_
      refine Owe.iconst X719.here hx (hb hby at_146) (w := (1 : Int32)) rfl ?_
      refine Owe.iload X719.here hx (hb hby at_147) rfl ?_
      refine Owe.iload X719.here hx (hb hby at_149) rfl ?_
      refine Owe.iload X719.here hx (hb hby at_151) rfl ?_
      refine Owe.iloadN X719.here hx (hb hby at_153) rfl ?_
      refine Owe.stat X719 hx (y := Y7) hownt (mvT hZt (wd hw 22)) (mvT hZt (wd hw 23)) (mvT hZt (wd hw 24)) (mvT hZt (wd hw 25)) (by decide) (backOf (W := 2) (rmat l Z a0 hw [] l4 t4 k4 cs (1 : Int32) ps c7 md p3 G1 fm h719 n0 Z_726 E4_722 Fv4_723 Fc4_724 V4_725 Tx4 S_COMPACT_STRINGS cs0 Ot_721 S_SIOOBE_FORMATTER ir_fm (by decide) hcb) hZt (wd hw 25) (wd hw 24) (by decide) (by decide)) (by rw [hml]; rfl) (argsL := [(.ref l4), (.int (1 : Int32)), (.int ps), (.int c7), (.int md), (.int p3)]) (rest := [(.int (1 : Int32)), (.ref b710)]) (lenOf pd_10 rfl) rfl (nb rfl) (hb hby at_154) rfl e719 (by decide) (by decide) fun T727 v727 L727 X727 hQ727 => ?_
      obtain ⟨cv_727, rfl, Nq727, e727, hcv_727⟩ := hQ727
      have N727 := Fr.app N719 Nq727
      refine Owe.castore X727 hx hZt e727 V719 (x := cv_727) 1 rfl (nb rfl) (by decide) (hb hby at_157) rfl fun T728 h728 X728 e728 W728 (V728 : Arv Z h728 b710 k710 .char (8 : Int32) [(.int (nar .char cv_718)), (.int (nar .char cv_727)), (.int (0 : Int32)), (.int (0 : Int32)), (.int (0 : Int32)), (.int (0 : Int32)), (.int (0 : Int32)), (.int (0 : Int32))] (.int (0 : Int32))) => ?_
      have hk729 := Nat.le_trans hk720 (Keep.of_wr W728).1
      have sf_b710_729 := Safe.wr W728 sf_b710_720 H720 sf_b710_720
      have Rr729 := Rr720.trans (CHr.wr W728 sf_b710_720 H720)
      have H729 := CHv.wr W728 sf_b710_720 H720
      have Ot_730 := Ot_721.wr W728 ge_b710
      have E4_731 := E4_722.wr W728
      have Fv4_732 := Fv4_723.other W728 (Or.inl ne_l4_b710)
      have Fc4_733 := Fc4_724.other W728 (Or.inl ne_l4_b710)
      have V4_734 := V4_725.other W728 ne_t4_b710
      have Z_735 := Nat.le_trans Z_726 (Keep.of_wr W728).1
      have N728 := Fr.snoc X728 N727 ge_b710
      refine Owe.iload X728.here hx (hb hby at_158) rfl ?_
      refine Owe.iconst X728.here hx (hb hby at_160) (w := (2 : Int32)) rfl ?_
      refine Owe.icmpNo X728.here hx (hb hby at_161) rfl (tlt (by decide)).2.2.2 ?_
      refine Owe.aload X728.here hx (hb hby at_164) rfl rfl ?_
      refine Owe.iconst X728.here hx (hb hby at_166) (w := (2 : Int32)) rfl ?_
      refine Owe.aload X728.here hx (hb hby at_167) rfl rfl ?_
      refine Owe.iconst X728.here hx (hb hby at_169) (w := (2 : Int32)) rfl ?_
      refine Owe.iload X728.here hx (hb hby at_170) rfl ?_
      refine Owe.iload X728.here hx (hb hby at_172) rfl ?_
      refine Owe.iload X728.here hx (hb hby at_174) rfl ?_
      refine Owe.iloadN X728.here hx (hb hby at_176) rfl ?_
      refine Owe.stat X728 hx (y := Y7) hownt (mvT hZt (wd hw 22)) (mvT hZt (wd hw 23)) (mvT hZt (wd hw 24)) (mvT hZt (wd hw 25)) (by decide) (backOf (W := 2) (rmat l Z a0 hw [] l4 t4 k4 cs (2 : Int32) ps c7 md p3 G1 fm h728 n0 Z_735 E4_731 Fv4_732 Fc4_733 V4_734 Tx4 S_COMPACT_STRINGS cs0 Ot_730 S_SIOOBE_FORMATTER ir_fm (by decide) hcb) hZt (wd hw 25) (wd hw 24) (by decide) (by decide)) (by rw [hml]; rfl) (argsL := [(.ref l4), (.int (2 : Int32)), (.int ps), (.int c7), (.int md), (.int p3)]) (rest := [(.int (2 : Int32)), (.ref b710)]) (lenOf pd_10 rfl) rfl (nb rfl) (hb hby at_177) rfl e728 (by decide) (by decide) fun T736 v736 L736 X736 hQ736 => ?_
      obtain ⟨cv_736, rfl, Nq736, e736, hcv_736⟩ := hQ736
      have N736 := Fr.app N728 Nq736
      refine Owe.castore X736 hx hZt e736 V728 (x := cv_736) 2 rfl (nb rfl) (by decide) (hb hby at_180) rfl fun T737 h737 X737 e737 W737 (V737 : Arv Z h737 b710 k710 .char (8 : Int32) [(.int (nar .char cv_718)), (.int (nar .char cv_727)), (.int (nar .char cv_736)), (.int (0 : Int32)), (.int (0 : Int32)), (.int (0 : Int32)), (.int (0 : Int32)), (.int (0 : Int32))] (.int (0 : Int32))) => ?_
      have hk738 := Nat.le_trans hk729 (Keep.of_wr W737).1
      have sf_b710_738 := Safe.wr W737 sf_b710_729 H729 sf_b710_729
      have Rr738 := Rr729.trans (CHr.wr W737 sf_b710_729 H729)
      have H738 := CHv.wr W737 sf_b710_729 H729
      have Ot_739 := Ot_730.wr W737 ge_b710
      have E4_740 := E4_731.wr W737
      have Fv4_741 := Fv4_732.other W737 (Or.inl ne_l4_b710)
      have Fc4_742 := Fc4_733.other W737 (Or.inl ne_l4_b710)
      have V4_743 := V4_734.other W737 ne_t4_b710
      have Z_744 := Nat.le_trans Z_735 (Keep.of_wr W737).1
      have N737 := Fr.snoc X737 N736 ge_b710
      refine Owe.iload X737.here hx (hb hby at_181) rfl ?_
      refine Owe.iconst X737.here hx (hb hby at_183) (w := (3 : Int32)) rfl ?_
      refine Owe.icmpNo X737.here hx (hb hby at_184) rfl (tlt (by decide)).2.2.2 ?_
      refine Owe.aload X737.here hx (hb hby at_187) rfl rfl ?_
      refine Owe.iconst X737.here hx (hb hby at_189) (w := (3 : Int32)) rfl ?_
      refine Owe.aload X737.here hx (hb hby at_190) rfl rfl ?_
      refine Owe.iconst X737.here hx (hb hby at_192) (w := (3 : Int32)) rfl ?_
      refine Owe.iload X737.here hx (hb hby at_193) rfl ?_
      refine Owe.iload X737.here hx (hb hby at_195) rfl ?_
      refine Owe.iload X737.here hx (hb hby at_197) rfl ?_
      refine Owe.iloadN X737.here hx (hb hby at_199) rfl ?_
      refine Owe.stat X737 hx (y := Y7) hownt (mvT hZt (wd hw 22)) (mvT hZt (wd hw 23)) (mvT hZt (wd hw 24)) (mvT hZt (wd hw 25)) (by decide) (backOf (W := 2) (rmat l Z a0 hw [] l4 t4 k4 cs (3 : Int32) ps c7 md p3 G1 fm h737 n0 Z_744 E4_740 Fv4_741 Fc4_742 V4_743 Tx4 S_COMPACT_STRINGS cs0 Ot_739 S_SIOOBE_FORMATTER ir_fm (by decide) hcb) hZt (wd hw 25) (wd hw 24) (by decide) (by decide)) (by rw [hml]; rfl) (argsL := [(.ref l4), (.int (3 : Int32)), (.int ps), (.int c7), (.int md), (.int p3)]) (rest := [(.int (3 : Int32)), (.ref b710)]) (lenOf pd_10 rfl) rfl (nb rfl) (hb hby at_200) rfl e737 (by decide) (by decide) fun T745 v745 L745 X745 hQ745 => ?_
      obtain ⟨cv_745, rfl, Nq745, e745, hcv_745⟩ := hQ745
      have N745 := Fr.app N737 Nq745
      refine Owe.castore X745 hx hZt e745 V737 (x := cv_745) 3 rfl (nb rfl) (by decide) (hb hby at_203) rfl fun T746 h746 X746 e746 W746 (V746 : Arv Z h746 b710 k710 .char (8 : Int32) [(.int (nar .char cv_718)), (.int (nar .char cv_727)), (.int (nar .char cv_736)), (.int (nar .char cv_745)), (.int (0 : Int32)), (.int (0 : Int32)), (.int (0 : Int32)), (.int (0 : Int32))] (.int (0 : Int32))) => ?_
      have hk747 := Nat.le_trans hk738 (Keep.of_wr W746).1
      have sf_b710_747 := Safe.wr W746 sf_b710_738 H738 sf_b710_738
      have Rr747 := Rr738.trans (CHr.wr W746 sf_b710_738 H738)
      have H747 := CHv.wr W746 sf_b710_738 H738
      have Ot_748 := Ot_739.wr W746 ge_b710
      have E4_749 := E4_740.wr W746
      have Fv4_750 := Fv4_741.other W746 (Or.inl ne_l4_b710)
      have Fc4_751 := Fc4_742.other W746 (Or.inl ne_l4_b710)
      have V4_752 := V4_743.other W746 ne_t4_b710
      have Z_753 := Nat.le_trans Z_744 (Keep.of_wr W746).1
      have N746 := Fr.snoc X746 N745 ge_b710
      refine Owe.iload X746.here hx (hb hby at_204) rfl ?_
      refine Owe.iconst X746.here hx (hb hby at_206) (w := (4 : Int32)) rfl ?_
      refine Owe.icmpNo X746.here hx (hb hby at_207) rfl (tlt (by decide)).2.2.2 ?_
      refine Owe.aload X746.here hx (hb hby at_210) rfl rfl ?_
      refine Owe.iconst X746.here hx (hb hby at_212) (w := (4 : Int32)) rfl ?_
      refine Owe.aload X746.here hx (hb hby at_213) rfl rfl ?_
      refine Owe.iconst X746.here hx (hb hby at_215) (w := (4 : Int32)) rfl ?_
      refine Owe.iload X746.here hx (hb hby at_216) rfl ?_
      refine Owe.iload X746.here hx (hb hby at_218) rfl ?_
      refine Owe.iload X746.here hx (hb hby at_220) rfl ?_
      refine Owe.iloadN X746.here hx (hb hby at_222) rfl ?_
      refine Owe.stat X746 hx (y := Y7) hownt (mvT hZt (wd hw 22)) (mvT hZt (wd hw 23)) (mvT hZt (wd hw 24)) (mvT hZt (wd hw 25)) (by decide) (backOf (W := 2) (rmat l Z a0 hw [] l4 t4 k4 cs (4 : Int32) ps c7 md p3 G1 fm h746 n0 Z_753 E4_749 Fv4_750 Fc4_751 V4_752 Tx4 S_COMPACT_STRINGS cs0 Ot_748 S_SIOOBE_FORMATTER ir_fm (by decide) hcb) hZt (wd hw 25) (wd hw 24) (by decide) (by decide)) (by rw [hml]; rfl) (argsL := [(.ref l4), (.int (4 : Int32)), (.int ps), (.int c7), (.int md), (.int p3)]) (rest := [(.int (4 : Int32)), (.ref b710)]) (lenOf pd_10 rfl) rfl (nb rfl) (hb hby at_223) rfl e746 (by decide) (by decide) fun T754 v754 L754 X754 hQ754 => ?_
      obtain ⟨cv_754, rfl, Nq754, e754, hcv_754⟩ := hQ754
      have N754 := Fr.app N746 Nq754
      refine Owe.castore X754 hx hZt e754 V746 (x := cv_754) 4 rfl (nb rfl) (by decide) (hb hby at_226) rfl fun T755 h755 X755 e755 W755 (V755 : Arv Z h755 b710 k710 .char (8 : Int32) [(.int (nar .char cv_718)), (.int (nar .char cv_727)), (.int (nar .char cv_736)), (.int (nar .char cv_745)), (.int (nar .char cv_754)), (.int (0 : Int32)), (.int (0 : Int32)), (.int (0 : Int32))] (.int (0 : Int32))) => ?_
      have hk756 := Nat.le_trans hk747 (Keep.of_wr W755).1
      have sf_b710_756 := Safe.wr W755 sf_b710_747 H747 sf_b710_747
      have Rr756 := Rr747.trans (CHr.wr W755 sf_b710_747 H747)
      have H756 := CHv.wr W755 sf_b710_747 H747
      have Ot_757 := Ot_748.wr W755 ge_b710
      have E4_758 := E4_749.wr W755
      have Fv4_759 := Fv4_750.other W755 (Or.inl ne_l4_b710)
      have Fc4_760 := Fc4_751.other W755 (Or.inl ne_l4_b710)
      have V4_761 := V4_752.other W755 ne_t4_b710
      have Z_762 := Nat.le_trans Z_753 (Keep.of_wr W755).1
      have N755 := Fr.snoc X755 N754 ge_b710
      refine Owe.iload X755.here hx (hb hby at_227) rfl ?_
      refine Owe.iconst X755.here hx (hb hby at_229) (w := (5 : Int32)) rfl ?_
      refine Owe.icmpNo X755.here hx (hb hby at_230) rfl (tlt (by decide)).2.2.2 ?_
      refine Owe.aload X755.here hx (hb hby at_233) rfl rfl ?_
      refine Owe.iconst X755.here hx (hb hby at_235) (w := (5 : Int32)) rfl ?_
      refine Owe.aload X755.here hx (hb hby at_236) rfl rfl ?_
      refine Owe.iconst X755.here hx (hb hby at_238) (w := (5 : Int32)) rfl ?_
      refine Owe.iload X755.here hx (hb hby at_239) rfl ?_
      refine Owe.iload X755.here hx (hb hby at_241) rfl ?_
      refine Owe.iload X755.here hx (hb hby at_243) rfl ?_
      refine Owe.iloadN X755.here hx (hb hby at_245) rfl ?_
      refine Owe.stat X755 hx (y := Y7) hownt (mvT hZt (wd hw 22)) (mvT hZt (wd hw 23)) (mvT hZt (wd hw 24)) (mvT hZt (wd hw 25)) (by decide) (backOf (W := 2) (rmat l Z a0 hw [] l4 t4 k4 cs (5 : Int32) ps c7 md p3 G1 fm h755 n0 Z_762 E4_758 Fv4_759 Fc4_760 V4_761 Tx4 S_COMPACT_STRINGS cs0 Ot_757 S_SIOOBE_FORMATTER ir_fm (by decide) hcb) hZt (wd hw 25) (wd hw 24) (by decide) (by decide)) (by rw [hml]; rfl) (argsL := [(.ref l4), (.int (5 : Int32)), (.int ps), (.int c7), (.int md), (.int p3)]) (rest := [(.int (5 : Int32)), (.ref b710)]) (lenOf pd_10 rfl) rfl (nb rfl) (hb hby at_246) rfl e755 (by decide) (by decide) fun T763 v763 L763 X763 hQ763 => ?_
      obtain ⟨cv_763, rfl, Nq763, e763, hcv_763⟩ := hQ763
      have N763 := Fr.app N755 Nq763
      refine Owe.castore X763 hx hZt e763 V755 (x := cv_763) 5 rfl (nb rfl) (by decide) (hb hby at_249) rfl fun T764 h764 X764 e764 W764 (V764 : Arv Z h764 b710 k710 .char (8 : Int32) [(.int (nar .char cv_718)), (.int (nar .char cv_727)), (.int (nar .char cv_736)), (.int (nar .char cv_745)), (.int (nar .char cv_754)), (.int (nar .char cv_763)), (.int (0 : Int32)), (.int (0 : Int32))] (.int (0 : Int32))) => ?_
      have hk765 := Nat.le_trans hk756 (Keep.of_wr W764).1
      have sf_b710_765 := Safe.wr W764 sf_b710_756 H756 sf_b710_756
      have Rr765 := Rr756.trans (CHr.wr W764 sf_b710_756 H756)
      have H765 := CHv.wr W764 sf_b710_756 H756
      have Ot_766 := Ot_757.wr W764 ge_b710
      have E4_767 := E4_758.wr W764
      have Fv4_768 := Fv4_759.other W764 (Or.inl ne_l4_b710)
      have Fc4_769 := Fc4_760.other W764 (Or.inl ne_l4_b710)
      have V4_770 := V4_761.other W764 ne_t4_b710
      have Z_771 := Nat.le_trans Z_762 (Keep.of_wr W764).1
      have N764 := Fr.snoc X764 N763 ge_b710
      refine Owe.iload X764.here hx (hb hby at_250) rfl ?_
      refine Owe.bipush X764.here hx (hb hby at_252) (w := (6 : Int32)) rfl ?_
      refine Owe.icmpNo X764.here hx (hb hby at_254) rfl (tlt (by decide)).2.2.2 ?_
      refine Owe.aload X764.here hx (hb hby at_257) rfl rfl ?_
      refine Owe.bipush X764.here hx (hb hby at_259) (w := (6 : Int32)) rfl ?_
      refine Owe.aload X764.here hx (hb hby at_261) rfl rfl ?_
      refine Owe.bipush X764.here hx (hb hby at_263) (w := (6 : Int32)) rfl ?_
      refine Owe.iload X764.here hx (hb hby at_265) rfl ?_
      refine Owe.iload X764.here hx (hb hby at_267) rfl ?_
      refine Owe.iload X764.here hx (hb hby at_269) rfl ?_
      refine Owe.iloadN X764.here hx (hb hby at_271) rfl ?_
      refine Owe.stat X764 hx (y := Y7) hownt (mvT hZt (wd hw 22)) (mvT hZt (wd hw 23)) (mvT hZt (wd hw 24)) (mvT hZt (wd hw 25)) (by decide) (backOf (W := 2) (rmat l Z a0 hw [] l4 t4 k4 cs (6 : Int32) ps c7 md p3 G1 fm h764 n0 Z_771 E4_767 Fv4_768 Fc4_769 V4_770 Tx4 S_COMPACT_STRINGS cs0 Ot_766 S_SIOOBE_FORMATTER ir_fm (by decide) hcb) hZt (wd hw 25) (wd hw 24) (by decide) (by decide)) (by rw [hml]; rfl) (argsL := [(.ref l4), (.int (6 : Int32)), (.int ps), (.int c7), (.int md), (.int p3)]) (rest := [(.int (6 : Int32)), (.ref b710)]) (lenOf pd_10 rfl) rfl (nb rfl) (hb hby at_272) rfl e764 (by decide) (by decide) fun T772 v772 L772 X772 hQ772 => ?_
      obtain ⟨cv_772, rfl, Nq772, e772, hcv_772⟩ := hQ772
      have N772 := Fr.app N764 Nq772
      refine Owe.castore X772 hx hZt e772 V764 (x := cv_772) 6 rfl (nb rfl) (by decide) (hb hby at_275) rfl fun T773 h773 X773 e773 W773 (V773 : Arv Z h773 b710 k710 .char (8 : Int32) [(.int (nar .char cv_718)), (.int (nar .char cv_727)), (.int (nar .char cv_736)), (.int (nar .char cv_745)), (.int (nar .char cv_754)), (.int (nar .char cv_763)), (.int (nar .char cv_772)), (.int (0 : Int32))] (.int (0 : Int32))) => ?_
      have hk774 := Nat.le_trans hk765 (Keep.of_wr W773).1
      have sf_b710_774 := Safe.wr W773 sf_b710_765 H765 sf_b710_765
      have Rr774 := Rr765.trans (CHr.wr W773 sf_b710_765 H765)
      have H774 := CHv.wr W773 sf_b710_765 H765
      have Ot_775 := Ot_766.wr W773 ge_b710
      have E4_776 := E4_767.wr W773
      have Fv4_777 := Fv4_768.other W773 (Or.inl ne_l4_b710)
      have Fc4_778 := Fc4_769.other W773 (Or.inl ne_l4_b710)
      have V4_779 := V4_770.other W773 ne_t4_b710
      have Z_780 := Nat.le_trans Z_771 (Keep.of_wr W773).1
      have N773 := Fr.snoc X773 N772 ge_b710
      refine Owe.iload X773.here hx (hb hby at_276) rfl ?_
      refine Owe.bipush X773.here hx (hb hby at_278) (w := (7 : Int32)) rfl ?_
      refine Owe.icmpNo X773.here hx (hb hby at_280) rfl (tlt (by decide)).2.2.2 ?_
      refine Owe.aload X773.here hx (hb hby at_283) rfl rfl ?_
      refine Owe.bipush X773.here hx (hb hby at_285) (w := (7 : Int32)) rfl ?_
      refine Owe.aload X773.here hx (hb hby at_287) rfl rfl ?_
      refine Owe.bipush X773.here hx (hb hby at_289) (w := (7 : Int32)) rfl ?_
      refine Owe.iload X773.here hx (hb hby at_291) rfl ?_
      refine Owe.iload X773.here hx (hb hby at_293) rfl ?_
      refine Owe.iload X773.here hx (hb hby at_295) rfl ?_
      refine Owe.iloadN X773.here hx (hb hby at_297) rfl ?_
      refine Owe.stat X773 hx (y := Y7) hownt (mvT hZt (wd hw 22)) (mvT hZt (wd hw 23)) (mvT hZt (wd hw 24)) (mvT hZt (wd hw 25)) (by decide) (backOf (W := 2) (rmat l Z a0 hw [] l4 t4 k4 cs (7 : Int32) ps c7 md p3 G1 fm h773 n0 Z_780 E4_776 Fv4_777 Fc4_778 V4_779 Tx4 S_COMPACT_STRINGS cs0 Ot_775 S_SIOOBE_FORMATTER ir_fm (by decide) hcb) hZt (wd hw 25) (wd hw 24) (by decide) (by decide)) (by rw [hml]; rfl) (argsL := [(.ref l4), (.int (7 : Int32)), (.int ps), (.int c7), (.int md), (.int p3)]) (rest := [(.int (7 : Int32)), (.ref b710)]) (lenOf pd_10 rfl) rfl (nb rfl) (hb hby at_298) rfl e773 (by decide) (by decide) fun T781 v781 L781 X781 hQ781 => ?_
      obtain ⟨cv_781, rfl, Nq781, e781, hcv_781⟩ := hQ781
      have N781 := Fr.app N773 Nq781
      refine Owe.castore X781 hx hZt e781 V773 (x := cv_781) 7 rfl (nb rfl) (by decide) (hb hby at_301) rfl fun T782 h782 X782 e782 W782 (V782 : Arv Z h782 b710 k710 .char (8 : Int32) [(.int (nar .char cv_718)), (.int (nar .char cv_727)), (.int (nar .char cv_736)), (.int (nar .char cv_745)), (.int (nar .char cv_754)), (.int (nar .char cv_763)), (.int (nar .char cv_772)), (.int (nar .char cv_781))] (.int (0 : Int32))) => ?_
      have hk783 := Nat.le_trans hk774 (Keep.of_wr W782).1
      have sf_b710_783 := Safe.wr W782 sf_b710_774 H774 sf_b710_774
      have Rr783 := Rr774.trans (CHr.wr W782 sf_b710_774 H774)
      have H783 := CHv.wr W782 sf_b710_774 H774
      have Ot_784 := Ot_775.wr W782 ge_b710
      have E4_785 := E4_776.wr W782
      have Fv4_786 := Fv4_777.other W782 (Or.inl ne_l4_b710)
      have Fc4_787 := Fc4_778.other W782 (Or.inl ne_l4_b710)
      have V4_788 := V4_779.other W782 ne_t4_b710
      have Z_789 := Nat.le_trans Z_780 (Keep.of_wr W782).1
      have N782 := Fr.snoc X782 N781 ge_b710
      refine Owe.iload X782.here hx (hb hby at_302) rfl ?_
      refine Owe.bipush X782.here hx (hb hby at_304) (w := (8 : Int32)) rfl ?_
      refine Owe.icmpYes X782.here hx (hb hby at_306) rfl (flt (by decide)).2.2.2 (pc' := 328) (by decide) (by decide) ?_
      refine Owe.iload X782.here hx (hb hby at_328) rfl ?_
      refine Owe.bipush X782.here hx (hb hby at_330) (w := (9 : Int32)) rfl ?_
      refine Owe.icmpYes X782.here hx (hb hby at_332) rfl (flt (by decide)).2.2.2 (pc' := 354) (by decide) (by decide) ?_
      refine Owe.iload X782.here hx (hb hby at_354) rfl ?_
      refine Owe.bipush X782.here hx (hb hby at_356) (w := (10 : Int32)) rfl ?_
      refine Owe.icmpYes X782.here hx (hb hby at_358) rfl (flt (by decide)).2.2.2 (pc' := 380) (by decide) (by decide) ?_
      refine Owe.iload X782.here hx (hb hby at_380) rfl ?_
      refine Owe.bipush X782.here hx (hb hby at_382) (w := (11 : Int32)) rfl ?_
      refine Owe.icmpYes X782.here hx (hb hby at_384) rfl (flt (by decide)).2.2.2 (pc' := 406) (by decide) (by decide) ?_
      refine Owe.new X782 hx hZt hownt (wd hw 48) (wd hw 2) (wd hw 1) e782 (hb hby at_406) (by decide) (by decide) fun T790 h790 b790 g790 X790 e790 E790 A790 D790 => ?_
      have ne_l4_b790 : l4 ≠ b790 := Nat.ne_of_lt (Nat.lt_of_lt_of_le E4_785.lt (Nat.le_of_eq g790.symm))
      have ne_t4_b790 : t4 ≠ b790 := Nat.ne_of_lt (Nat.lt_of_lt_of_le V4_788.lt (Nat.le_of_eq g790.symm))
      have ne_b710_b790 : b710 ≠ b790 := Nat.ne_of_lt (Nat.lt_of_lt_of_le V782.lt (Nat.le_of_eq g790.symm))
      have sf_b790 := (Safe.new (Nat.le_of_eq g790.symm) : Safe Z own_EL vmt h782 b790)
      have ge_b790 := Nat.le_trans Z_789 (Nat.le_of_eq g790.symm)
      have hk791 := Nat.le_trans hk783 E790.1
      have sf_b710_791 := Safe.ext E790 H783 sf_b710_783
      have sf_b790_791 := Safe.ext E790 H783 sf_b790
      have Rr791 := Rr783.trans (CHr.ext E790 H783)
      have H791 := CHv.ext E790 H783
      have Ot_792 := Ot_784.ext E790
      have E4_793 := E4_785.ext E790
      have Fv4_794 := Fv4_786.ext E790
      have Fc4_795 := Fc4_787.ext E790
      have V4_796 := V4_788.ext E790
      have V782_797 := V782.ext E790
      have Z_798 := Nat.le_trans Z_789 E790.1
      have Fvalue_b790 : Fld Z h790 b790 "java/lang/String" "value" "[B" .null := D790 (Or.inr (wd hw 4)) (ty := (.array .byte)) (by decide)
      have Fcoder_b790 : Fld Z h790 b790 "java/lang/String" "coder" "B" (.int (0 : Int32)) := D790 (Or.inr (wd hw 5)) (ty := .byte) (by decide)
      refine Owe.dup X790.here hx (hb hby at_409) rfl rfl ?_
      refine Owe.aload X790.here hx (hb hby at_410) rfl rfl ?_
      have hp799 : ∀ c ∈ ([(nar .char cv_718), (nar .char cv_727), (nar .char cv_736), (nar .char cv_745), (nar .char cv_754), (nar .char cv_763), (nar .char cv_772), (nar .char cv_781)] : List Int32), ¬ c < 0 ∧ ¬ (255 : Int32) < c := by
        intro c hc
        simp only [List.mem_cons, List.not_mem_nil, or_false] at hc
        rcases hc with rfl | rfl | rfl | rfl | rfl | rfl | rfl | rfl
        · exact (own_nar2 hcv_718)
        · exact (own_nar2 hcv_727)
        · exact (own_nar2 hcv_736)
        · exact (own_nar2 hcv_745)
        · exact (own_nar2 hcv_754)
        · exact (own_nar2 hcv_763)
        · exact (own_nar2 hcv_772)
        · exact (own_nar2 hcv_781)
      refine Owe.special X790 hx (y := Y1) rfl hownt (mvT hZt (wd hw 49)) (mvT hZt (wd hw 50)) (mvT hZt (wd hw 51)) (by decide) (StrChars.Road.backV (W := 1) hZt hws (kI := 4) (wd hw 2) (cs := ([(nar .char cv_718), (nar .char cv_727), (nar .char cv_736), (nar .char cv_745), (nar .char cv_754), (nar .char cv_763), (nar .char cv_772), (nar .char cv_781)] : List Int32)) (bs := ([(nar .char cv_718), (nar .char cv_727), (nar .char cv_736), (nar .char cv_745), (nar .char cv_754), (nar .char cv_763), (nar .char cv_772), (nar .char cv_781)] : List Int32).map (fun c => c.toInt8.toInt32)) (n := 8) ge_b790 Z_798 A790 Fvalue_b790 Fcoder_b790 V782_797 (S_COMPACT_STRINGS.ext Ot_792.2) cs0 rfl rfl (by decide) (by decide) hp799 rfl (by decide) (by decide)) (by rw [hml]; rfl) (a := b790) (argsL := [(.ref b710)]) (rest := [(.ref b790)]) (lenOf pd_9 rfl) rfl (nb rfl) (hb hby at_412) rfl e790 (by decide) (by decide) fun T800 v800 L800 X800 hQ800 => ?_
      obtain ⟨rfl, Nq800, K800, Ex800, Fc800, t800, kb800, gt800, ft800, nt800, Fv800, Vt800⟩ := hQ800
      have N800 := Fr.app N782 Nq800
      have ne_l4_t800 : l4 ≠ t800 := Nat.ne_of_lt (Nat.lt_of_lt_of_le E4_793.lt ft800)
      have ne_t4_t800 : t4 ≠ t800 := Nat.ne_of_lt (Nat.lt_of_lt_of_le V4_796.lt ft800)
      have ne_b710_t800 : b710 ≠ t800 := Nat.ne_of_lt (Nat.lt_of_lt_of_le V782_797.lt ft800)
      have ne_b790_t800 : b790 ≠ t800 := Nat.ne_of_lt (Nat.lt_of_lt_of_le A790.lt ft800)
      have hk801 := Nat.le_trans hk791 K800.1
      have sf_b710_801 := Safe.keep K800 (sfS sf_b790_791 sf0) H791 sf_b710_791
      have sf_b790_801 := Safe.keep K800 (sfS sf_b790_791 sf0) H791 sf_b790_791
      have Rr801 := Rr791.trans (CHr.keep K800 (sfS sf_b790_791 sf0) H791)
      have H801 := CHv.keep K800 (sfS sf_b790_791 sf0) H791
      have Ot_802 := Ot_792.keep K800 (allS ge_b790 all0)
      have E4_803 := E4_793.keep K800
      have Fv4_804 := Fv4_794.keep K800 (ninS ne_l4_b790 nin0)
      have Fc4_805 := Fc4_795.keep K800 (ninS ne_l4_b790 nin0)
      have V4_806 := V4_796.keep K800 (ninS ne_t4_b790 nin0)
      have V782_807 := V782_797.keep K800 (ninS ne_b710_b790 nin0)
      have A790_808 := A790.keep K800
      have Z_809 := Nat.le_trans Z_798 K800.1
      have Tx800 : (∀ c ∈ ([(nar .char cv_718), (nar .char cv_727), (nar .char cv_736), (nar .char cv_745), (nar .char cv_754), (nar .char cv_763), (nar .char cv_772), (nar .char cv_781)] : List Int32), ¬ c < 0 ∧ ¬ (255 : Int32) < c) ∧ ([(nar .char cv_718), (nar .char cv_727), (nar .char cv_736), (nar .char cv_745), (nar .char cv_754), (nar .char cv_763), (nar .char cv_772), (nar .char cv_781)] : List Int32).length ≤ 4000 := ⟨hp799, Nat.le_of_ble_eq_true rfl⟩
      refine Owe.astore X800.here hx (hb hby at_415) rfl rfl (l' := #[.val (.int p1), .val (.int p2), .val (.int p3), .val (.int p4), .val (.ref l4), .val (.int md), .val (.int l6), .val (.int c7), .val (.int ps), .val (.int (8 : Int32)), .val (.ref b790), .val (.ref b710)]) rfl ?_
      exact cut417 _ _ _ _ _ _ _ _ _ _ _ _ _ _ _ _ (X800.mono (by decide) (by decide)) rfl hSt hk801 hZt hownt N800 Z_809 Ot_802 H801 Rr801 Ex800 Fv800 Fc800 Vt800 Tx800
    · skip
      refine Owe.iload Xt.here hx (hb hby at_107) rfl ?_
      refine Owe.newarr Xt hx hZt (aty := .char) (wd hw 21) et (hb hby at_109) rfl (by decide) (cap := 9) (by decide) (by decide) (by decide) (by decide) fun T810 h810 b810 k810 g810 X810 e810 E810 V810 => ?_
      have ne_l4_b810 : l4 ≠ b810 := Nat.ne_of_lt (Nat.lt_of_lt_of_le E4.lt (Nat.le_of_eq g810.symm))
      have ne_t4_b810 : t4 ≠ b810 := Nat.ne_of_lt (Nat.lt_of_lt_of_le V4.lt (Nat.le_of_eq g810.symm))
      have sf_b810 := (Safe.new (Nat.le_of_eq g810.symm) : Safe Z own_EL vmt ht b810)
      have ge_b810 := Nat.le_trans Zt (Nat.le_of_eq g810.symm)
      have hk811 := Nat.le_trans hkt E810.1
      have sf_b810_811 := Safe.ext E810 Ht sf_b810
      have Rr811 := Rt.trans (CHr.ext E810 Ht)
      have H811 := CHv.ext E810 Ht
      have Ot_812 := Ot.ext E810
      have E4_813 := E4.ext E810
      have Fv4_814 := Fv4.ext E810
      have Fc4_815 := Fc4.ext E810
      have V4_816 := V4.ext E810
      have Z_817 := Nat.le_trans Zt E810.1
      have V_b810_810 : Arv Z h810 b810 k810 .char (9 : Int32) [(.int (0 : Int32)), (.int (0 : Int32)), (.int (0 : Int32)), (.int (0 : Int32)), (.int (0 : Int32)), (.int (0 : Int32)), (.int (0 : Int32)), (.int (0 : Int32)), (.int (0 : Int32))] (.int (0 : Int32)) := V810.pad (pad_rep [] (.int (0 : Int32)) 9)
      refine Owe.astore X810.here hx (hb hby at_111) rfl rfl (l' := #[.val (.int p1), .val (.int p2), .val (.int p3), .val (.int p4), .val (.ref l4), .val (.int md), .val (.int l6), .val (.int c7), .val (.int ps), .val (.int (9 : Int32)), .val .null, .val (.ref b810)]) rfl ?_
      refine Owe.iload X810.here hx (hb hby at_113) rfl ?_
      refine Owe.ifNo X810.here hx (hb hby at_115) rfl ((if0 _ _).trans (tlt (by decide)).2.2.2) ?_
      refine Owe.aload X810.here hx (hb hby at_118) rfl rfl ?_
      refine Owe.iconst X810.here hx (hb hby at_120) (w := (0 : Int32)) rfl ?_
      refine Owe.aload X810.here hx (hb hby at_121) rfl rfl ?_
      refine Owe.iconst X810.here hx (hb hby at_123) (w := (0 : Int32)) rfl ?_
      refine Owe.iload X810.here hx (hb hby at_124) rfl ?_
      refine Owe.iload X810.here hx (hb hby at_126) rfl ?_
      refine Owe.iload X810.here hx (hb hby at_128) rfl ?_
      refine Owe.iloadN X810.here hx (hb hby at_130) rfl ?_
      refine Owe.stat X810 hx (y := Y7) hownt (mvT hZt (wd hw 22)) (mvT hZt (wd hw 23)) (mvT hZt (wd hw 24)) (mvT hZt (wd hw 25)) (by decide) (backOf (W := 2) (rmat l Z a0 hw [] l4 t4 k4 cs (0 : Int32) ps c7 md p3 G1 fm h810 n0 Z_817 E4_813 Fv4_814 Fc4_815 V4_816 Tx4 S_COMPACT_STRINGS cs0 Ot_812 S_SIOOBE_FORMATTER ir_fm (by decide) hcb) hZt (wd hw 25) (wd hw 24) (by decide) (by decide)) (by rw [hml]; rfl) (argsL := [(.ref l4), (.int (0 : Int32)), (.int ps), (.int c7), (.int md), (.int p3)]) (rest := [(.int (0 : Int32)), (.ref b810)]) (lenOf pd_10 rfl) rfl (nb rfl) (hb hby at_131) rfl e810 (by decide) (by decide) fun T818 v818 L818 X818 hQ818 => ?_
      obtain ⟨cv_818, rfl, Nq818, e818, hcv_818⟩ := hQ818
      have N818 := Fr.app Nt Nq818
      refine Owe.castore X818 hx hZt e818 V_b810_810 (x := cv_818) 0 rfl (nb rfl) (by decide) (hb hby at_134) rfl fun T819 h819 X819 e819 W819 (V819 : Arv Z h819 b810 k810 .char (9 : Int32) [(.int (nar .char cv_818)), (.int (0 : Int32)), (.int (0 : Int32)), (.int (0 : Int32)), (.int (0 : Int32)), (.int (0 : Int32)), (.int (0 : Int32)), (.int (0 : Int32)), (.int (0 : Int32))] (.int (0 : Int32))) => ?_
      have hk820 := Nat.le_trans hk811 (Keep.of_wr W819).1
      have sf_b810_820 := Safe.wr W819 sf_b810_811 H811 sf_b810_811
      have Rr820 := Rr811.trans (CHr.wr W819 sf_b810_811 H811)
      have H820 := CHv.wr W819 sf_b810_811 H811
      have Ot_821 := Ot_812.wr W819 ge_b810
      have E4_822 := E4_813.wr W819
      have Fv4_823 := Fv4_814.other W819 (Or.inl ne_l4_b810)
      have Fc4_824 := Fc4_815.other W819 (Or.inl ne_l4_b810)
      have V4_825 := V4_816.other W819 ne_t4_b810
      have Z_826 := Nat.le_trans Z_817 (Keep.of_wr W819).1
      have N819 := Fr.snoc X819 N818 ge_b810
      refine Owe.iload X819.here hx (hb hby at_135) rfl ?_
      refine Owe.iconst X819.here hx (hb hby at_137) (w := (1 : Int32)) rfl ?_
      refine Owe.icmpNo X819.here hx (hb hby at_138) rfl (tlt (by decide)).2.2.2 ?_
      refine Owe.aload X819.here hx (hb hby at_141) rfl rfl ?_
      refine Owe.iconst X819.here hx (hb hby at_143) (w := (1 : Int32)) rfl ?_
      refine Owe.aload X819.here hx (hb hby at_144) rfl rfl ?_
      refine Owe.iconst X819.here hx (hb hby at_146) (w := (1 : Int32)) rfl ?_
      refine Owe.iload X819.here hx (hb hby at_147) rfl ?_
      refine Owe.iload X819.here hx (hb hby at_149) rfl ?_
      refine Owe.iload X819.here hx (hb hby at_151) rfl ?_
      refine Owe.iloadN X819.here hx (hb hby at_153) rfl ?_
      refine Owe.stat X819 hx (y := Y7) hownt (mvT hZt (wd hw 22)) (mvT hZt (wd hw 23)) (mvT hZt (wd hw 24)) (mvT hZt (wd hw 25)) (by decide) (backOf (W := 2) (rmat l Z a0 hw [] l4 t4 k4 cs (1 : Int32) ps c7 md p3 G1 fm h819 n0 Z_826 E4_822 Fv4_823 Fc4_824 V4_825 Tx4 S_COMPACT_STRINGS cs0 Ot_821 S_SIOOBE_FORMATTER ir_fm (by decide) hcb) hZt (wd hw 25) (wd hw 24) (by decide) (by decide)) (by rw [hml]; rfl) (argsL := [(.ref l4), (.int (1 : Int32)), (.int ps), (.int c7), (.int md), (.int p3)]) (rest := [(.int (1 : Int32)), (.ref b810)]) (lenOf pd_10 rfl) rfl (nb rfl) (hb hby at_154) rfl e819 (by decide) (by decide) fun T827 v827 L827 X827 hQ827 => ?_
      obtain ⟨cv_827, rfl, Nq827, e827, hcv_827⟩ := hQ827
      have N827 := Fr.app N819 Nq827
      refine Owe.castore X827 hx hZt e827 V819 (x := cv_827) 1 rfl (nb rfl) (by decide) (hb hby at_157) rfl fun T828 h828 X828 e828 W828 (V828 : Arv Z h828 b810 k810 .char (9 : Int32) [(.int (nar .char cv_818)), (.int (nar .char cv_827)), (.int (0 : Int32)), (.int (0 : Int32)), (.int (0 : Int32)), (.int (0 : Int32)), (.int (0 : Int32)), (.int (0 : Int32)), (.int (0 : Int32))] (.int (0 : Int32))) => ?_
      have hk829 := Nat.le_trans hk820 (Keep.of_wr W828).1
      have sf_b810_829 := Safe.wr W828 sf_b810_820 H820 sf_b810_820
      have Rr829 := Rr820.trans (CHr.wr W828 sf_b810_820 H820)
      have H829 := CHv.wr W828 sf_b810_820 H820
      have Ot_830 := Ot_821.wr W828 ge_b810
      have E4_831 := E4_822.wr W828
      have Fv4_832 := Fv4_823.other W828 (Or.inl ne_l4_b810)
      have Fc4_833 := Fc4_824.other W828 (Or.inl ne_l4_b810)
      have V4_834 := V4_825.other W828 ne_t4_b810
      have Z_835 := Nat.le_trans Z_826 (Keep.of_wr W828).1
      have N828 := Fr.snoc X828 N827 ge_b810
      refine Owe.iload X828.here hx (hb hby at_158) rfl ?_
      refine Owe.iconst X828.here hx (hb hby at_160) (w := (2 : Int32)) rfl ?_
      refine Owe.icmpNo X828.here hx (hb hby at_161) rfl (tlt (by decide)).2.2.2 ?_
      refine Owe.aload X828.here hx (hb hby at_164) rfl rfl ?_
      refine Owe.iconst X828.here hx (hb hby at_166) (w := (2 : Int32)) rfl ?_
      refine Owe.aload X828.here hx (hb hby at_167) rfl rfl ?_
      refine Owe.iconst X828.here hx (hb hby at_169) (w := (2 : Int32)) rfl ?_
      refine Owe.iload X828.here hx (hb hby at_170) rfl ?_
      refine Owe.iload X828.here hx (hb hby at_172) rfl ?_
      refine Owe.iload X828.here hx (hb hby at_174) rfl ?_
      refine Owe.iloadN X828.here hx (hb hby at_176) rfl ?_
      refine Owe.stat X828 hx (y := Y7) hownt (mvT hZt (wd hw 22)) (mvT hZt (wd hw 23)) (mvT hZt (wd hw 24)) (mvT hZt (wd hw 25)) (by decide) (backOf (W := 2) (rmat l Z a0 hw [] l4 t4 k4 cs (2 : Int32) ps c7 md p3 G1 fm h828 n0 Z_835 E4_831 Fv4_832 Fc4_833 V4_834 Tx4 S_COMPACT_STRINGS cs0 Ot_830 S_SIOOBE_FORMATTER ir_fm (by decide) hcb) hZt (wd hw 25) (wd hw 24) (by decide) (by decide)) (by rw [hml]; rfl) (argsL := [(.ref l4), (.int (2 : Int32)), (.int ps), (.int c7), (.int md), (.int p3)]) (rest := [(.int (2 : Int32)), (.ref b810)]) (lenOf pd_10 rfl) rfl (nb rfl) (hb hby at_177) rfl e828 (by decide) (by decide) fun T836 v836 L836 X836 hQ836 => ?_
      obtain ⟨cv_836, rfl, Nq836, e836, hcv_836⟩ := hQ836
      have N836 := Fr.app N828 Nq836
      refine Owe.castore X836 hx hZt e836 V828 (x := cv_836) 2 rfl (nb rfl) (by decide) (hb hby at_180) rfl fun T837 h837 X837 e837 W837 (V837 : Arv Z h837 b810 k810 .char (9 : Int32) [(.int (nar .char cv_818)), (.int (nar .char cv_827)), (.int (nar .char cv_836)), (.int (0 : Int32)), (.int (0 : Int32)), (.int (0 : Int32)), (.int (0 : Int32)), (.int (0 : Int32)), (.int (0 : Int32))] (.int (0 : Int32))) => ?_
      have hk838 := Nat.le_trans hk829 (Keep.of_wr W837).1
      have sf_b810_838 := Safe.wr W837 sf_b810_829 H829 sf_b810_829
      have Rr838 := Rr829.trans (CHr.wr W837 sf_b810_829 H829)
      have H838 := CHv.wr W837 sf_b810_829 H829
      have Ot_839 := Ot_830.wr W837 ge_b810
      have E4_840 := E4_831.wr W837
      have Fv4_841 := Fv4_832.other W837 (Or.inl ne_l4_b810)
      have Fc4_842 := Fc4_833.other W837 (Or.inl ne_l4_b810)
      have V4_843 := V4_834.other W837 ne_t4_b810
      have Z_844 := Nat.le_trans Z_835 (Keep.of_wr W837).1
      have N837 := Fr.snoc X837 N836 ge_b810
      refine Owe.iload X837.here hx (hb hby at_181) rfl ?_
      refine Owe.iconst X837.here hx (hb hby at_183) (w := (3 : Int32)) rfl ?_
      refine Owe.icmpNo X837.here hx (hb hby at_184) rfl (tlt (by decide)).2.2.2 ?_
      refine Owe.aload X837.here hx (hb hby at_187) rfl rfl ?_
      refine Owe.iconst X837.here hx (hb hby at_189) (w := (3 : Int32)) rfl ?_
      refine Owe.aload X837.here hx (hb hby at_190) rfl rfl ?_
      refine Owe.iconst X837.here hx (hb hby at_192) (w := (3 : Int32)) rfl ?_
      refine Owe.iload X837.here hx (hb hby at_193) rfl ?_
      refine Owe.iload X837.here hx (hb hby at_195) rfl ?_
      refine Owe.iload X837.here hx (hb hby at_197) rfl ?_
      refine Owe.iloadN X837.here hx (hb hby at_199) rfl ?_
      refine Owe.stat X837 hx (y := Y7) hownt (mvT hZt (wd hw 22)) (mvT hZt (wd hw 23)) (mvT hZt (wd hw 24)) (mvT hZt (wd hw 25)) (by decide) (backOf (W := 2) (rmat l Z a0 hw [] l4 t4 k4 cs (3 : Int32) ps c7 md p3 G1 fm h837 n0 Z_844 E4_840 Fv4_841 Fc4_842 V4_843 Tx4 S_COMPACT_STRINGS cs0 Ot_839 S_SIOOBE_FORMATTER ir_fm (by decide) hcb) hZt (wd hw 25) (wd hw 24) (by decide) (by decide)) (by rw [hml]; rfl) (argsL := [(.ref l4), (.int (3 : Int32)), (.int ps), (.int c7), (.int md), (.int p3)]) (rest := [(.int (3 : Int32)), (.ref b810)]) (lenOf pd_10 rfl) rfl (nb rfl) (hb hby at_200) rfl e837 (by decide) (by decide) fun T845 v845 L845 X845 hQ845 => ?_
      obtain ⟨cv_845, rfl, Nq845, e845, hcv_845⟩ := hQ845
      have N845 := Fr.app N837 Nq845
      refine Owe.castore X845 hx hZt e845 V837 (x := cv_845) 3 rfl (nb rfl) (by decide) (hb hby at_203) rfl fun T846 h846 X846 e846 W846 (V846 : Arv Z h846 b810 k810 .char (9 : Int32) [(.int (nar .char cv_818)), (.int (nar .char cv_827)), (.int (nar .char cv_836)), (.int (nar .char cv_845)), (.int (0 : Int32)), (.int (0 : Int32)), (.int (0 : Int32)), (.int (0 : Int32)), (.int (0 : Int32))] (.int (0 : Int32))) => ?_
      have hk847 := Nat.le_trans hk838 (Keep.of_wr W846).1
      have sf_b810_847 := Safe.wr W846 sf_b810_838 H838 sf_b810_838
      have Rr847 := Rr838.trans (CHr.wr W846 sf_b810_838 H838)
      have H847 := CHv.wr W846 sf_b810_838 H838
      have Ot_848 := Ot_839.wr W846 ge_b810
      have E4_849 := E4_840.wr W846
      have Fv4_850 := Fv4_841.other W846 (Or.inl ne_l4_b810)
      have Fc4_851 := Fc4_842.other W846 (Or.inl ne_l4_b810)
      have V4_852 := V4_843.other W846 ne_t4_b810
      have Z_853 := Nat.le_trans Z_844 (Keep.of_wr W846).1
      have N846 := Fr.snoc X846 N845 ge_b810
      refine Owe.iload X846.here hx (hb hby at_204) rfl ?_
      refine Owe.iconst X846.here hx (hb hby at_206) (w := (4 : Int32)) rfl ?_
      refine Owe.icmpNo X846.here hx (hb hby at_207) rfl (tlt (by decide)).2.2.2 ?_
      refine Owe.aload X846.here hx (hb hby at_210) rfl rfl ?_
      refine Owe.iconst X846.here hx (hb hby at_212) (w := (4 : Int32)) rfl ?_
      refine Owe.aload X846.here hx (hb hby at_213) rfl rfl ?_
      refine Owe.iconst X846.here hx (hb hby at_215) (w := (4 : Int32)) rfl ?_
      refine Owe.iload X846.here hx (hb hby at_216) rfl ?_
      refine Owe.iload X846.here hx (hb hby at_218) rfl ?_
      refine Owe.iload X846.here hx (hb hby at_220) rfl ?_
      refine Owe.iloadN X846.here hx (hb hby at_222) rfl ?_
      refine Owe.stat X846 hx (y := Y7) hownt (mvT hZt (wd hw 22)) (mvT hZt (wd hw 23)) (mvT hZt (wd hw 24)) (mvT hZt (wd hw 25)) (by decide) (backOf (W := 2) (rmat l Z a0 hw [] l4 t4 k4 cs (4 : Int32) ps c7 md p3 G1 fm h846 n0 Z_853 E4_849 Fv4_850 Fc4_851 V4_852 Tx4 S_COMPACT_STRINGS cs0 Ot_848 S_SIOOBE_FORMATTER ir_fm (by decide) hcb) hZt (wd hw 25) (wd hw 24) (by decide) (by decide)) (by rw [hml]; rfl) (argsL := [(.ref l4), (.int (4 : Int32)), (.int ps), (.int c7), (.int md), (.int p3)]) (rest := [(.int (4 : Int32)), (.ref b810)]) (lenOf pd_10 rfl) rfl (nb rfl) (hb hby at_223) rfl e846 (by decide) (by decide) fun T854 v854 L854 X854 hQ854 => ?_
      obtain ⟨cv_854, rfl, Nq854, e854, hcv_854⟩ := hQ854
      have N854 := Fr.app N846 Nq854
      refine Owe.castore X854 hx hZt e854 V846 (x := cv_854) 4 rfl (nb rfl) (by decide) (hb hby at_226) rfl fun T855 h855 X855 e855 W855 (V855 : Arv Z h855 b810 k810 .char (9 : Int32) [(.int (nar .char cv_818)), (.int (nar .char cv_827)), (.int (nar .char cv_836)), (.int (nar .char cv_845)), (.int (nar .char cv_854)), (.int (0 : Int32)), (.int (0 : Int32)), (.int (0 : Int32)), (.int (0 : Int32))] (.int (0 : Int32))) => ?_
      have hk856 := Nat.le_trans hk847 (Keep.of_wr W855).1
      have sf_b810_856 := Safe.wr W855 sf_b810_847 H847 sf_b810_847
      have Rr856 := Rr847.trans (CHr.wr W855 sf_b810_847 H847)
      have H856 := CHv.wr W855 sf_b810_847 H847
      have Ot_857 := Ot_848.wr W855 ge_b810
      have E4_858 := E4_849.wr W855
      have Fv4_859 := Fv4_850.other W855 (Or.inl ne_l4_b810)
      have Fc4_860 := Fc4_851.other W855 (Or.inl ne_l4_b810)
      have V4_861 := V4_852.other W855 ne_t4_b810
      have Z_862 := Nat.le_trans Z_853 (Keep.of_wr W855).1
      have N855 := Fr.snoc X855 N854 ge_b810
      refine Owe.iload X855.here hx (hb hby at_227) rfl ?_
      refine Owe.iconst X855.here hx (hb hby at_229) (w := (5 : Int32)) rfl ?_
      refine Owe.icmpNo X855.here hx (hb hby at_230) rfl (tlt (by decide)).2.2.2 ?_
      refine Owe.aload X855.here hx (hb hby at_233) rfl rfl ?_
      refine Owe.iconst X855.here hx (hb hby at_235) (w := (5 : Int32)) rfl ?_
      refine Owe.aload X855.here hx (hb hby at_236) rfl rfl ?_
      refine Owe.iconst X855.here hx (hb hby at_238) (w := (5 : Int32)) rfl ?_
      refine Owe.iload X855.here hx (hb hby at_239) rfl ?_
      refine Owe.iload X855.here hx (hb hby at_241) rfl ?_
      refine Owe.iload X855.here hx (hb hby at_243) rfl ?_
      refine Owe.iloadN X855.here hx (hb hby at_245) rfl ?_
      refine Owe.stat X855 hx (y := Y7) hownt (mvT hZt (wd hw 22)) (mvT hZt (wd hw 23)) (mvT hZt (wd hw 24)) (mvT hZt (wd hw 25)) (by decide) (backOf (W := 2) (rmat l Z a0 hw [] l4 t4 k4 cs (5 : Int32) ps c7 md p3 G1 fm h855 n0 Z_862 E4_858 Fv4_859 Fc4_860 V4_861 Tx4 S_COMPACT_STRINGS cs0 Ot_857 S_SIOOBE_FORMATTER ir_fm (by decide) hcb) hZt (wd hw 25) (wd hw 24) (by decide) (by decide)) (by rw [hml]; rfl) (argsL := [(.ref l4), (.int (5 : Int32)), (.int ps), (.int c7), (.int md), (.int p3)]) (rest := [(.int (5 : Int32)), (.ref b810)]) (lenOf pd_10 rfl) rfl (nb rfl) (hb hby at_246) rfl e855 (by decide) (by decide) fun T863 v863 L863 X863 hQ863 => ?_
      obtain ⟨cv_863, rfl, Nq863, e863, hcv_863⟩ := hQ863
      have N863 := Fr.app N855 Nq863
      refine Owe.castore X863 hx hZt e863 V855 (x := cv_863) 5 rfl (nb rfl) (by decide) (hb hby at_249) rfl fun T864 h864 X864 e864 W864 (V864 : Arv Z h864 b810 k810 .char (9 : Int32) [(.int (nar .char cv_818)), (.int (nar .char cv_827)), (.int (nar .char cv_836)), (.int (nar .char cv_845)), (.int (nar .char cv_854)), (.int (nar .char cv_863)), (.int (0 : Int32)), (.int (0 : Int32)), (.int (0 : Int32))] (.int (0 : Int32))) => ?_
      have hk865 := Nat.le_trans hk856 (Keep.of_wr W864).1
      have sf_b810_865 := Safe.wr W864 sf_b810_856 H856 sf_b810_856
      have Rr865 := Rr856.trans (CHr.wr W864 sf_b810_856 H856)
      have H865 := CHv.wr W864 sf_b810_856 H856
      have Ot_866 := Ot_857.wr W864 ge_b810
      have E4_867 := E4_858.wr W864
      have Fv4_868 := Fv4_859.other W864 (Or.inl ne_l4_b810)
      have Fc4_869 := Fc4_860.other W864 (Or.inl ne_l4_b810)
      have V4_870 := V4_861.other W864 ne_t4_b810
      have Z_871 := Nat.le_trans Z_862 (Keep.of_wr W864).1
      have N864 := Fr.snoc X864 N863 ge_b810
      refine Owe.iload X864.here hx (hb hby at_250) rfl ?_
      refine Owe.bipush X864.here hx (hb hby at_252) (w := (6 : Int32)) rfl ?_
      refine Owe.icmpNo X864.here hx (hb hby at_254) rfl (tlt (by decide)).2.2.2 ?_
      refine Owe.aload X864.here hx (hb hby at_257) rfl rfl ?_
      refine Owe.bipush X864.here hx (hb hby at_259) (w := (6 : Int32)) rfl ?_
      refine Owe.aload X864.here hx (hb hby at_261) rfl rfl ?_
      refine Owe.bipush X864.here hx (hb hby at_263) (w := (6 : Int32)) rfl ?_
      refine Owe.iload X864.here hx (hb hby at_265) rfl ?_
      refine Owe.iload X864.here hx (hb hby at_267) rfl ?_
      refine Owe.iload X864.here hx (hb hby at_269) rfl ?_
      refine Owe.iloadN X864.here hx (hb hby at_271) rfl ?_
      refine Owe.stat X864 hx (y := Y7) hownt (mvT hZt (wd hw 22)) (mvT hZt (wd hw 23)) (mvT hZt (wd hw 24)) (mvT hZt (wd hw 25)) (by decide) (backOf (W := 2) (rmat l Z a0 hw [] l4 t4 k4 cs (6 : Int32) ps c7 md p3 G1 fm h864 n0 Z_871 E4_867 Fv4_868 Fc4_869 V4_870 Tx4 S_COMPACT_STRINGS cs0 Ot_866 S_SIOOBE_FORMATTER ir_fm (by decide) hcb) hZt (wd hw 25) (wd hw 24) (by decide) (by decide)) (by rw [hml]; rfl) (argsL := [(.ref l4), (.int (6 : Int32)), (.int ps), (.int c7), (.int md), (.int p3)]) (rest := [(.int (6 : Int32)), (.ref b810)]) (lenOf pd_10 rfl) rfl (nb rfl) (hb hby at_272) rfl e864 (by decide) (by decide) fun T872 v872 L872 X872 hQ872 => ?_
      obtain ⟨cv_872, rfl, Nq872, e872, hcv_872⟩ := hQ872
      have N872 := Fr.app N864 Nq872
      refine Owe.castore X872 hx hZt e872 V864 (x := cv_872) 6 rfl (nb rfl) (by decide) (hb hby at_275) rfl fun T873 h873 X873 e873 W873 (V873 : Arv Z h873 b810 k810 .char (9 : Int32) [(.int (nar .char cv_818)), (.int (nar .char cv_827)), (.int (nar .char cv_836)), (.int (nar .char cv_845)), (.int (nar .char cv_854)), (.int (nar .char cv_863)), (.int (nar .char cv_872)), (.int (0 : Int32)), (.int (0 : Int32))] (.int (0 : Int32))) => ?_
      have hk874 := Nat.le_trans hk865 (Keep.of_wr W873).1
      have sf_b810_874 := Safe.wr W873 sf_b810_865 H865 sf_b810_865
      have Rr874 := Rr865.trans (CHr.wr W873 sf_b810_865 H865)
      have H874 := CHv.wr W873 sf_b810_865 H865
      have Ot_875 := Ot_866.wr W873 ge_b810
      have E4_876 := E4_867.wr W873
      have Fv4_877 := Fv4_868.other W873 (Or.inl ne_l4_b810)
      have Fc4_878 := Fc4_869.other W873 (Or.inl ne_l4_b810)
      have V4_879 := V4_870.other W873 ne_t4_b810
      have Z_880 := Nat.le_trans Z_871 (Keep.of_wr W873).1
      have N873 := Fr.snoc X873 N872 ge_b810
      refine Owe.iload X873.here hx (hb hby at_276) rfl ?_
      refine Owe.bipush X873.here hx (hb hby at_278) (w := (7 : Int32)) rfl ?_
      refine Owe.icmpNo X873.here hx (hb hby at_280) rfl (tlt (by decide)).2.2.2 ?_
      refine Owe.aload X873.here hx (hb hby at_283) rfl rfl ?_
      refine Owe.bipush X873.here hx (hb hby at_285) (w := (7 : Int32)) rfl ?_
      refine Owe.aload X873.here hx (hb hby at_287) rfl rfl ?_
      refine Owe.bipush X873.here hx (hb hby at_289) (w := (7 : Int32)) rfl ?_
      refine Owe.iload X873.here hx (hb hby at_291) rfl ?_
      refine Owe.iload X873.here hx (hb hby at_293) rfl ?_
      refine Owe.iload X873.here hx (hb hby at_295) rfl ?_
      refine Owe.iloadN X873.here hx (hb hby at_297) rfl ?_
      refine Owe.stat X873 hx (y := Y7) hownt (mvT hZt (wd hw 22)) (mvT hZt (wd hw 23)) (mvT hZt (wd hw 24)) (mvT hZt (wd hw 25)) (by decide) (backOf (W := 2) (rmat l Z a0 hw [] l4 t4 k4 cs (7 : Int32) ps c7 md p3 G1 fm h873 n0 Z_880 E4_876 Fv4_877 Fc4_878 V4_879 Tx4 S_COMPACT_STRINGS cs0 Ot_875 S_SIOOBE_FORMATTER ir_fm (by decide) hcb) hZt (wd hw 25) (wd hw 24) (by decide) (by decide)) (by rw [hml]; rfl) (argsL := [(.ref l4), (.int (7 : Int32)), (.int ps), (.int c7), (.int md), (.int p3)]) (rest := [(.int (7 : Int32)), (.ref b810)]) (lenOf pd_10 rfl) rfl (nb rfl) (hb hby at_298) rfl e873 (by decide) (by decide) fun T881 v881 L881 X881 hQ881 => ?_
      obtain ⟨cv_881, rfl, Nq881, e881, hcv_881⟩ := hQ881
      have N881 := Fr.app N873 Nq881
      refine Owe.castore X881 hx hZt e881 V873 (x := cv_881) 7 rfl (nb rfl) (by decide) (hb hby at_301) rfl fun T882 h882 X882 e882 W882 (V882 : Arv Z h882 b810 k810 .char (9 : Int32) [(.int (nar .char cv_818)), (.int (nar .char cv_827)), (.int (nar .char cv_836)), (.int (nar .char cv_845)), (.int (nar .char cv_854)), (.int (nar .char cv_863)), (.int (nar .char cv_872)), (.int (nar .char cv_881)), (.int (0 : Int32))] (.int (0 : Int32))) => ?_
      have hk883 := Nat.le_trans hk874 (Keep.of_wr W882).1
      have sf_b810_883 := Safe.wr W882 sf_b810_874 H874 sf_b810_874
      have Rr883 := Rr874.trans (CHr.wr W882 sf_b810_874 H874)
      have H883 := CHv.wr W882 sf_b810_874 H874
      have Ot_884 := Ot_875.wr W882 ge_b810
      have E4_885 := E4_876.wr W882
      have Fv4_886 := Fv4_877.other W882 (Or.inl ne_l4_b810)
      have Fc4_887 := Fc4_878.other W882 (Or.inl ne_l4_b810)
      have V4_888 := V4_879.other W882 ne_t4_b810
      have Z_889 := Nat.le_trans Z_880 (Keep.of_wr W882).1
      have N882 := Fr.snoc X882 N881 ge_b810
      refine Owe.iload X882.here hx (hb hby at_302) rfl ?_
      refine Owe.bipush X882.here hx (hb hby at_304) (w := (8 : Int32)) rfl ?_
      refine Owe.icmpNo X882.here hx (hb hby at_306) rfl (tlt (by decide)).2.2.2 ?_
      refine Owe.aload X882.here hx (hb hby at_309) rfl rfl ?_
      refine Owe.bipush X882.here hx (hb hby at_311) (w := (8 : Int32)) rfl ?_
      refine Owe.aload X882.here hx (hb hby at_313) rfl rfl ?_
      refine Owe.bipush X882.here hx (hb hby at_315) (w := (8 : Int32)) rfl ?_
      refine Owe.iload X882.here hx (hb hby at_317) rfl ?_
      refine Owe.iload X882.here hx (hb hby at_319) rfl ?_
      refine Owe.iload X882.here hx (hb hby at_321) rfl ?_
      refine Owe.iloadN X882.here hx (hb hby at_323) rfl ?_
      refine Owe.stat X882 hx (y := Y7) hownt (mvT hZt (wd hw 22)) (mvT hZt (wd hw 23)) (mvT hZt (wd hw 24)) (mvT hZt (wd hw 25)) (by decide) (backOf (W := 2) (rmat l Z a0 hw [] l4 t4 k4 cs (8 : Int32) ps c7 md p3 G1 fm h882 n0 Z_889 E4_885 Fv4_886 Fc4_887 V4_888 Tx4 S_COMPACT_STRINGS cs0 Ot_884 S_SIOOBE_FORMATTER ir_fm (by decide) hcb) hZt (wd hw 25) (wd hw 24) (by decide) (by decide)) (by rw [hml]; rfl) (argsL := [(.ref l4), (.int (8 : Int32)), (.int ps), (.int c7), (.int md), (.int p3)]) (rest := [(.int (8 : Int32)), (.ref b810)]) (lenOf pd_10 rfl) rfl (nb rfl) (hb hby at_324) rfl e882 (by decide) (by decide) fun T890 v890 L890 X890 hQ890 => ?_
      obtain ⟨cv_890, rfl, Nq890, e890, hcv_890⟩ := hQ890
      have N890 := Fr.app N882 Nq890
      refine Owe.castore X890 hx hZt e890 V882 (x := cv_890) 8 rfl (nb rfl) (by decide) (hb hby at_327) rfl fun T891 h891 X891 e891 W891 (V891 : Arv Z h891 b810 k810 .char (9 : Int32) [(.int (nar .char cv_818)), (.int (nar .char cv_827)), (.int (nar .char cv_836)), (.int (nar .char cv_845)), (.int (nar .char cv_854)), (.int (nar .char cv_863)), (.int (nar .char cv_872)), (.int (nar .char cv_881)), (.int (nar .char cv_890))] (.int (0 : Int32))) => ?_
      have hk892 := Nat.le_trans hk883 (Keep.of_wr W891).1
      have sf_b810_892 := Safe.wr W891 sf_b810_883 H883 sf_b810_883
      have Rr892 := Rr883.trans (CHr.wr W891 sf_b810_883 H883)
      have H892 := CHv.wr W891 sf_b810_883 H883
      have Ot_893 := Ot_884.wr W891 ge_b810
      have E4_894 := E4_885.wr W891
      have Fv4_895 := Fv4_886.other W891 (Or.inl ne_l4_b810)
      have Fc4_896 := Fc4_887.other W891 (Or.inl ne_l4_b810)
      have V4_897 := V4_888.other W891 ne_t4_b810
      have Z_898 := Nat.le_trans Z_889 (Keep.of_wr W891).1
      have N891 := Fr.snoc X891 N890 ge_b810
      refine Owe.iload X891.here hx (hb hby at_328) rfl ?_
      refine Owe.bipush X891.here hx (hb hby at_330) (w := (9 : Int32)) rfl ?_
      refine Owe.icmpYes X891.here hx (hb hby at_332) rfl (flt (by decide)).2.2.2 (pc' := 354) (by decide) (by decide) ?_
      refine Owe.iload X891.here hx (hb hby at_354) rfl ?_
      refine Owe.bipush X891.here hx (hb hby at_356) (w := (10 : Int32)) rfl ?_
      refine Owe.icmpYes X891.here hx (hb hby at_358) rfl (flt (by decide)).2.2.2 (pc' := 380) (by decide) (by decide) ?_
      refine Owe.iload X891.here hx (hb hby at_380) rfl ?_
      refine Owe.bipush X891.here hx (hb hby at_382) (w := (11 : Int32)) rfl ?_
      refine Owe.icmpYes X891.here hx (hb hby at_384) rfl (flt (by decide)).2.2.2 (pc' := 406) (by decide) (by decide) ?_
      refine Owe.new X891 hx hZt hownt (wd hw 48) (wd hw 2) (wd hw 1) e891 (hb hby at_406) (by decide) (by decide) fun T899 h899 b899 g899 X899 e899 E899 A899 D899 => ?_
      have ne_l4_b899 : l4 ≠ b899 := Nat.ne_of_lt (Nat.lt_of_lt_of_le E4_894.lt (Nat.le_of_eq g899.symm))
      have ne_t4_b899 : t4 ≠ b899 := Nat.ne_of_lt (Nat.lt_of_lt_of_le V4_897.lt (Nat.le_of_eq g899.symm))
      have ne_b810_b899 : b810 ≠ b899 := Nat.ne_of_lt (Nat.lt_of_lt_of_le V891.lt (Nat.le_of_eq g899.symm))
      have sf_b899 := (Safe.new (Nat.le_of_eq g899.symm) : Safe Z own_EL vmt h891 b899)
      have ge_b899 := Nat.le_trans Z_898 (Nat.le_of_eq g899.symm)
      have hk900 := Nat.le_trans hk892 E899.1
      have sf_b810_900 := Safe.ext E899 H892 sf_b810_892
      have sf_b899_900 := Safe.ext E899 H892 sf_b899
      have Rr900 := Rr892.trans (CHr.ext E899 H892)
      have H900 := CHv.ext E899 H892
      have Ot_901 := Ot_893.ext E899
      have E4_902 := E4_894.ext E899
      have Fv4_903 := Fv4_895.ext E899
      have Fc4_904 := Fc4_896.ext E899
      have V4_905 := V4_897.ext E899
      have V891_906 := V891.ext E899
      have Z_907 := Nat.le_trans Z_898 E899.1
      have Fvalue_b899 : Fld Z h899 b899 "java/lang/String" "value" "[B" .null := D899 (Or.inr (wd hw 4)) (ty := (.array .byte)) (by decide)
      have Fcoder_b899 : Fld Z h899 b899 "java/lang/String" "coder" "B" (.int (0 : Int32)) := D899 (Or.inr (wd hw 5)) (ty := .byte) (by decide)
      refine Owe.dup X899.here hx (hb hby at_409) rfl rfl ?_
      refine Owe.aload X899.here hx (hb hby at_410) rfl rfl ?_
      have hp908 : ∀ c ∈ ([(nar .char cv_818), (nar .char cv_827), (nar .char cv_836), (nar .char cv_845), (nar .char cv_854), (nar .char cv_863), (nar .char cv_872), (nar .char cv_881), (nar .char cv_890)] : List Int32), ¬ c < 0 ∧ ¬ (255 : Int32) < c := by
        intro c hc
        simp only [List.mem_cons, List.not_mem_nil, or_false] at hc
        rcases hc with rfl | rfl | rfl | rfl | rfl | rfl | rfl | rfl | rfl
        · exact (own_nar2 hcv_818)
        · exact (own_nar2 hcv_827)
        · exact (own_nar2 hcv_836)
        · exact (own_nar2 hcv_845)
        · exact (own_nar2 hcv_854)
        · exact (own_nar2 hcv_863)
        · exact (own_nar2 hcv_872)
        · exact (own_nar2 hcv_881)
        · exact (own_nar2 hcv_890)
      refine Owe.special X899 hx (y := Y1) rfl hownt (mvT hZt (wd hw 49)) (mvT hZt (wd hw 50)) (mvT hZt (wd hw 51)) (by decide) (StrChars.Road.backV (W := 1) hZt hws (kI := 4) (wd hw 2) (cs := ([(nar .char cv_818), (nar .char cv_827), (nar .char cv_836), (nar .char cv_845), (nar .char cv_854), (nar .char cv_863), (nar .char cv_872), (nar .char cv_881), (nar .char cv_890)] : List Int32)) (bs := ([(nar .char cv_818), (nar .char cv_827), (nar .char cv_836), (nar .char cv_845), (nar .char cv_854), (nar .char cv_863), (nar .char cv_872), (nar .char cv_881), (nar .char cv_890)] : List Int32).map (fun c => c.toInt8.toInt32)) (n := 9) ge_b899 Z_907 A899 Fvalue_b899 Fcoder_b899 V891_906 (S_COMPACT_STRINGS.ext Ot_901.2) cs0 rfl rfl (by decide) (by decide) hp908 rfl (by decide) (by decide)) (by rw [hml]; rfl) (a := b899) (argsL := [(.ref b810)]) (rest := [(.ref b899)]) (lenOf pd_9 rfl) rfl (nb rfl) (hb hby at_412) rfl e899 (by decide) (by decide) fun T909 v909 L909 X909 hQ909 => ?_
      obtain ⟨rfl, Nq909, K909, Ex909, Fc909, t909, kb909, gt909, ft909, nt909, Fv909, Vt909⟩ := hQ909
      have N909 := Fr.app N891 Nq909
      have ne_l4_t909 : l4 ≠ t909 := Nat.ne_of_lt (Nat.lt_of_lt_of_le E4_902.lt ft909)
      have ne_t4_t909 : t4 ≠ t909 := Nat.ne_of_lt (Nat.lt_of_lt_of_le V4_905.lt ft909)
      have ne_b810_t909 : b810 ≠ t909 := Nat.ne_of_lt (Nat.lt_of_lt_of_le V891_906.lt ft909)
      have ne_b899_t909 : b899 ≠ t909 := Nat.ne_of_lt (Nat.lt_of_lt_of_le A899.lt ft909)
      have hk910 := Nat.le_trans hk900 K909.1
      have sf_b810_910 := Safe.keep K909 (sfS sf_b899_900 sf0) H900 sf_b810_900
      have sf_b899_910 := Safe.keep K909 (sfS sf_b899_900 sf0) H900 sf_b899_900
      have Rr910 := Rr900.trans (CHr.keep K909 (sfS sf_b899_900 sf0) H900)
      have H910 := CHv.keep K909 (sfS sf_b899_900 sf0) H900
      have Ot_911 := Ot_901.keep K909 (allS ge_b899 all0)
      have E4_912 := E4_902.keep K909
      have Fv4_913 := Fv4_903.keep K909 (ninS ne_l4_b899 nin0)
      have Fc4_914 := Fc4_904.keep K909 (ninS ne_l4_b899 nin0)
      have V4_915 := V4_905.keep K909 (ninS ne_t4_b899 nin0)
      have V891_916 := V891_906.keep K909 (ninS ne_b810_b899 nin0)
      have A899_917 := A899.keep K909
      have Z_918 := Nat.le_trans Z_907 K909.1
      have Tx909 : (∀ c ∈ ([(nar .char cv_818), (nar .char cv_827), (nar .char cv_836), (nar .char cv_845), (nar .char cv_854), (nar .char cv_863), (nar .char cv_872), (nar .char cv_881), (nar .char cv_890)] : List Int32), ¬ c < 0 ∧ ¬ (255 : Int32) < c) ∧ ([(nar .char cv_818), (nar .char cv_827), (nar .char cv_836), (nar .char cv_845), (nar .char cv_854), (nar .char cv_863), (nar .char cv_872), (nar .char cv_881), (nar .char cv_890)] : List Int32).length ≤ 4000 := ⟨hp908, Nat.le_of_ble_eq_true rfl⟩
      refine Owe.astore X909.here hx (hb hby at_415) rfl rfl (l' := #[.val (.int p1), .val (.int p2), .val (.int p3), .val (.int p4), .val (.ref l4), .val (.int md), .val (.int l6), .val (.int c7), .val (.int ps), .val (.int (9 : Int32)), .val (.ref b899), .val (.ref b810)]) rfl ?_
      exact cut417 _ _ _ _ _ _ _ _ _ _ _ _ _ _ _ _ (X909.mono (by decide) (by decide)) rfl hSt hk910 hZt hownt N909 Z_918 Ot_911 H910 Rr910 Ex909 Fv909 Fc909 Vt909 Tx909
    · skip
      refine Owe.iload Xt.here hx (hb hby at_107) rfl ?_
      refine Owe.newarr Xt hx hZt (aty := .char) (wd hw 21) et (hb hby at_109) rfl (by decide) (cap := 10) (by decide) (by decide) (by decide) (by decide) fun T919 h919 b919 k919 g919 X919 e919 E919 V919 => ?_
      have ne_l4_b919 : l4 ≠ b919 := Nat.ne_of_lt (Nat.lt_of_lt_of_le E4.lt (Nat.le_of_eq g919.symm))
      have ne_t4_b919 : t4 ≠ b919 := Nat.ne_of_lt (Nat.lt_of_lt_of_le V4.lt (Nat.le_of_eq g919.symm))
      have sf_b919 := (Safe.new (Nat.le_of_eq g919.symm) : Safe Z own_EL vmt ht b919)
      have ge_b919 := Nat.le_trans Zt (Nat.le_of_eq g919.symm)
      have hk920 := Nat.le_trans hkt E919.1
      have sf_b919_920 := Safe.ext E919 Ht sf_b919
      have Rr920 := Rt.trans (CHr.ext E919 Ht)
      have H920 := CHv.ext E919 Ht
      have Ot_921 := Ot.ext E919
      have E4_922 := E4.ext E919
      have Fv4_923 := Fv4.ext E919
      have Fc4_924 := Fc4.ext E919
      have V4_925 := V4.ext E919
      have Z_926 := Nat.le_trans Zt E919.1
      have V_b919_919 : Arv Z h919 b919 k919 .char (10 : Int32) [(.int (0 : Int32)), (.int (0 : Int32)), (.int (0 : Int32)), (.int (0 : Int32)), (.int (0 : Int32)), (.int (0 : Int32)), (.int (0 : Int32)), (.int (0 : Int32)), (.int (0 : Int32)), (.int (0 : Int32))] (.int (0 : Int32)) := V919.pad (pad_rep [] (.int (0 : Int32)) 10)
      refine Owe.astore X919.here hx (hb hby at_111) rfl rfl (l' := #[.val (.int p1), .val (.int p2), .val (.int p3), .val (.int p4), .val (.ref l4), .val (.int md), .val (.int l6), .val (.int c7), .val (.int ps), .val (.int (10 : Int32)), .val .null, .val (.ref b919)]) rfl ?_
      refine Owe.iload X919.here hx (hb hby at_113) rfl ?_
      refine Owe.ifNo X919.here hx (hb hby at_115) rfl ((if0 _ _).trans (tlt (by decide)).2.2.2) ?_
      refine Owe.aload X919.here hx (hb hby at_118) rfl rfl ?_
      refine Owe.iconst X919.here hx (hb hby at_120) (w := (0 : Int32)) rfl ?_
      refine Owe.aload X919.here hx (hb hby at_121) rfl rfl ?_
      refine Owe.iconst X919.here hx (hb hby at_123) (w := (0 : Int32)) rfl ?_
      refine Owe.iload X919.here hx (hb hby at_124) rfl ?_
      refine Owe.iload X919.here hx (hb hby at_126) rfl ?_
      refine Owe.iload X919.here hx (hb hby at_128) rfl ?_
      refine Owe.iloadN X919.here hx (hb hby at_130) rfl ?_
      refine Owe.stat X919 hx (y := Y7) hownt (mvT hZt (wd hw 22)) (mvT hZt (wd hw 23)) (mvT hZt (wd hw 24)) (mvT hZt (wd hw 25)) (by decide) (backOf (W := 2) (rmat l Z a0 hw [] l4 t4 k4 cs (0 : Int32) ps c7 md p3 G1 fm h919 n0 Z_926 E4_922 Fv4_923 Fc4_924 V4_925 Tx4 S_COMPACT_STRINGS cs0 Ot_921 S_SIOOBE_FORMATTER ir_fm (by decide) hcb) hZt (wd hw 25) (wd hw 24) (by decide) (by decide)) (by rw [hml]; rfl) (argsL := [(.ref l4), (.int (0 : Int32)), (.int ps), (.int c7), (.int md), (.int p3)]) (rest := [(.int (0 : Int32)), (.ref b919)]) (lenOf pd_10 rfl) rfl (nb rfl) (hb hby at_131) rfl e919 (by decide) (by decide) fun T927 v927 L927 X927 hQ927 => ?_
      obtain ⟨cv_927, rfl, Nq927, e927, hcv_927⟩ := hQ927
      have N927 := Fr.app Nt Nq927
      refine Owe.castore X927 hx hZt e927 V_b919_919 (x := cv_927) 0 rfl (nb rfl) (by decide) (hb hby at_134) rfl fun T928 h928 X928 e928 W928 (V928 : Arv Z h928 b919 k919 .char (10 : Int32) [(.int (nar .char cv_927)), (.int (0 : Int32)), (.int (0 : Int32)), (.int (0 : Int32)), (.int (0 : Int32)), (.int (0 : Int32)), (.int (0 : Int32)), (.int (0 : Int32)), (.int (0 : Int32)), (.int (0 : Int32))] (.int (0 : Int32))) => ?_
      have hk929 := Nat.le_trans hk920 (Keep.of_wr W928).1
      have sf_b919_929 := Safe.wr W928 sf_b919_920 H920 sf_b919_920
      have Rr929 := Rr920.trans (CHr.wr W928 sf_b919_920 H920)
      have H929 := CHv.wr W928 sf_b919_920 H920
      have Ot_930 := Ot_921.wr W928 ge_b919
      have E4_931 := E4_922.wr W928
      have Fv4_932 := Fv4_923.other W928 (Or.inl ne_l4_b919)
      have Fc4_933 := Fc4_924.other W928 (Or.inl ne_l4_b919)
      have V4_934 := V4_925.other W928 ne_t4_b919
      have Z_935 := Nat.le_trans Z_926 (Keep.of_wr W928).1
      have N928 := Fr.snoc X928 N927 ge_b919
      refine Owe.iload X928.here hx (hb hby at_135) rfl ?_
      refine Owe.iconst X928.here hx (hb hby at_137) (w := (1 : Int32)) rfl ?_
      refine Owe.icmpNo X928.here hx (hb hby at_138) rfl (tlt (by decide)).2.2.2 ?_
      refine Owe.aload X928.here hx (hb hby at_141) rfl rfl ?_
      refine Owe.iconst X928.here hx (hb hby at_143) (w := (1 : Int32)) rfl ?_
      refine Owe.aload X928.here hx (hb hby at_144) rfl rfl ?_
      refine Owe.iconst X928.here hx (hb hby at_146) (w := (1 : Int32)) rfl ?_
      refine Owe.iload X928.here hx (hb hby at_147) rfl ?_
      refine Owe.iload X928.here hx (hb hby at_149) rfl ?_
      refine Owe.iload X928.here hx (hb hby at_151) rfl ?_
      refine Owe.iloadN X928.here hx (hb hby at_153) rfl ?_
      refine Owe.stat X928 hx (y := Y7) hownt (mvT hZt (wd hw 22)) (mvT hZt (wd hw 23)) (mvT hZt (wd hw 24)) (mvT hZt (wd hw 25)) (by decide) (backOf (W := 2) (rmat l Z a0 hw [] l4 t4 k4 cs (1 : Int32) ps c7 md p3 G1 fm h928 n0 Z_935 E4_931 Fv4_932 Fc4_933 V4_934 Tx4 S_COMPACT_STRINGS cs0 Ot_930 S_SIOOBE_FORMATTER ir_fm (by decide) hcb) hZt (wd hw 25) (wd hw 24) (by decide) (by decide)) (by rw [hml]; rfl) (argsL := [(.ref l4), (.int (1 : Int32)), (.int ps), (.int c7), (.int md), (.int p3)]) (rest := [(.int (1 : Int32)), (.ref b919)]) (lenOf pd_10 rfl) rfl (nb rfl) (hb hby at_154) rfl e928 (by decide) (by decide) fun T936 v936 L936 X936 hQ936 => ?_
      obtain ⟨cv_936, rfl, Nq936, e936, hcv_936⟩ := hQ936
      have N936 := Fr.app N928 Nq936
      refine Owe.castore X936 hx hZt e936 V928 (x := cv_936) 1 rfl (nb rfl) (by decide) (hb hby at_157) rfl fun T937 h937 X937 e937 W937 (V937 : Arv Z h937 b919 k919 .char (10 : Int32) [(.int (nar .char cv_927)), (.int (nar .char cv_936)), (.int (0 : Int32)), (.int (0 : Int32)), (.int (0 : Int32)), (.int (0 : Int32)), (.int (0 : Int32)), (.int (0 : Int32)), (.int (0 : Int32)), (.int (0 : Int32))] (.int (0 : Int32))) => ?_
      have hk938 := Nat.le_trans hk929 (Keep.of_wr W937).1
      have sf_b919_938 := Safe.wr W937 sf_b919_929 H929 sf_b919_929
      have Rr938 := Rr929.trans (CHr.wr W937 sf_b919_929 H929)
      have H938 := CHv.wr W937 sf_b919_929 H929
      have Ot_939 := Ot_930.wr W937 ge_b919
      have E4_940 := E4_931.wr W937
      have Fv4_941 := Fv4_932.other W937 (Or.inl ne_l4_b919)
      have Fc4_942 := Fc4_933.other W937 (Or.inl ne_l4_b919)
      have V4_943 := V4_934.other W937 ne_t4_b919
      have Z_944 := Nat.le_trans Z_935 (Keep.of_wr W937).1
      have N937 := Fr.snoc X937 N936 ge_b919
      refine Owe.iload X937.here hx (hb hby at_158) rfl ?_
      refine Owe.iconst X937.here hx (hb hby at_160) (w := (2 : Int32)) rfl ?_
      refine Owe.icmpNo X937.here hx (hb hby at_161) rfl (tlt (by decide)).2.2.2 ?_
      refine Owe.aload X937.here hx (hb hby at_164) rfl rfl ?_
      refine Owe.iconst X937.here hx (hb hby at_166) (w := (2 : Int32)) rfl ?_
      refine Owe.aload X937.here hx (hb hby at_167) rfl rfl ?_
      refine Owe.iconst X937.here hx (hb hby at_169) (w := (2 : Int32)) rfl ?_
      refine Owe.iload X937.here hx (hb hby at_170) rfl ?_
      refine Owe.iload X937.here hx (hb hby at_172) rfl ?_
      refine Owe.iload X937.here hx (hb hby at_174) rfl ?_
      refine Owe.iloadN X937.here hx (hb hby at_176) rfl ?_
      refine Owe.stat X937 hx (y := Y7) hownt (mvT hZt (wd hw 22)) (mvT hZt (wd hw 23)) (mvT hZt (wd hw 24)) (mvT hZt (wd hw 25)) (by decide) (backOf (W := 2) (rmat l Z a0 hw [] l4 t4 k4 cs (2 : Int32) ps c7 md p3 G1 fm h937 n0 Z_944 E4_940 Fv4_941 Fc4_942 V4_943 Tx4 S_COMPACT_STRINGS cs0 Ot_939 S_SIOOBE_FORMATTER ir_fm (by decide) hcb) hZt (wd hw 25) (wd hw 24) (by decide) (by decide)) (by rw [hml]; rfl) (argsL := [(.ref l4), (.int (2 : Int32)), (.int ps), (.int c7), (.int md), (.int p3)]) (rest := [(.int (2 : Int32)), (.ref b919)]) (lenOf pd_10 rfl) rfl (nb rfl) (hb hby at_177) rfl e937 (by decide) (by decide) fun T945 v945 L945 X945 hQ945 => ?_
      obtain ⟨cv_945, rfl, Nq945, e945, hcv_945⟩ := hQ945
      have N945 := Fr.app N937 Nq945
      refine Owe.castore X945 hx hZt e945 V937 (x := cv_945) 2 rfl (nb rfl) (by decide) (hb hby at_180) rfl fun T946 h946 X946 e946 W946 (V946 : Arv Z h946 b919 k919 .char (10 : Int32) [(.int (nar .char cv_927)), (.int (nar .char cv_936)), (.int (nar .char cv_945)), (.int (0 : Int32)), (.int (0 : Int32)), (.int (0 : Int32)), (.int (0 : Int32)), (.int (0 : Int32)), (.int (0 : Int32)), (.int (0 : Int32))] (.int (0 : Int32))) => ?_
      have hk947 := Nat.le_trans hk938 (Keep.of_wr W946).1
      have sf_b919_947 := Safe.wr W946 sf_b919_938 H938 sf_b919_938
      have Rr947 := Rr938.trans (CHr.wr W946 sf_b919_938 H938)
      have H947 := CHv.wr W946 sf_b919_938 H938
      have Ot_948 := Ot_939.wr W946 ge_b919
      have E4_949 := E4_940.wr W946
      have Fv4_950 := Fv4_941.other W946 (Or.inl ne_l4_b919)
      have Fc4_951 := Fc4_942.other W946 (Or.inl ne_l4_b919)
      have V4_952 := V4_943.other W946 ne_t4_b919
      have Z_953 := Nat.le_trans Z_944 (Keep.of_wr W946).1
      have N946 := Fr.snoc X946 N945 ge_b919
      refine Owe.iload X946.here hx (hb hby at_181) rfl ?_
      refine Owe.iconst X946.here hx (hb hby at_183) (w := (3 : Int32)) rfl ?_
      refine Owe.icmpNo X946.here hx (hb hby at_184) rfl (tlt (by decide)).2.2.2 ?_
      refine Owe.aload X946.here hx (hb hby at_187) rfl rfl ?_
      refine Owe.iconst X946.here hx (hb hby at_189) (w := (3 : Int32)) rfl ?_
      refine Owe.aload X946.here hx (hb hby at_190) rfl rfl ?_
      refine Owe.iconst X946.here hx (hb hby at_192) (w := (3 : Int32)) rfl ?_
      refine Owe.iload X946.here hx (hb hby at_193) rfl ?_
      refine Owe.iload X946.here hx (hb hby at_195) rfl ?_
      refine Owe.iload X946.here hx (hb hby at_197) rfl ?_
      refine Owe.iloadN X946.here hx (hb hby at_199) rfl ?_
      refine Owe.stat X946 hx (y := Y7) hownt (mvT hZt (wd hw 22)) (mvT hZt (wd hw 23)) (mvT hZt (wd hw 24)) (mvT hZt (wd hw 25)) (by decide) (backOf (W := 2) (rmat l Z a0 hw [] l4 t4 k4 cs (3 : Int32) ps c7 md p3 G1 fm h946 n0 Z_953 E4_949 Fv4_950 Fc4_951 V4_952 Tx4 S_COMPACT_STRINGS cs0 Ot_948 S_SIOOBE_FORMATTER ir_fm (by decide) hcb) hZt (wd hw 25) (wd hw 24) (by decide) (by decide)) (by rw [hml]; rfl) (argsL := [(.ref l4), (.int (3 : Int32)), (.int ps), (.int c7), (.int md), (.int p3)]) (rest := [(.int (3 : Int32)), (.ref b919)]) (lenOf pd_10 rfl) rfl (nb rfl) (hb hby at_200) rfl e946 (by decide) (by decide) fun T954 v954 L954 X954 hQ954 => ?_
      obtain ⟨cv_954, rfl, Nq954, e954, hcv_954⟩ := hQ954
      have N954 := Fr.app N946 Nq954
      refine Owe.castore X954 hx hZt e954 V946 (x := cv_954) 3 rfl (nb rfl) (by decide) (hb hby at_203) rfl fun T955 h955 X955 e955 W955 (V955 : Arv Z h955 b919 k919 .char (10 : Int32) [(.int (nar .char cv_927)), (.int (nar .char cv_936)), (.int (nar .char cv_945)), (.int (nar .char cv_954)), (.int (0 : Int32)), (.int (0 : Int32)), (.int (0 : Int32)), (.int (0 : Int32)), (.int (0 : Int32)), (.int (0 : Int32))] (.int (0 : Int32))) => ?_
      have hk956 := Nat.le_trans hk947 (Keep.of_wr W955).1
      have sf_b919_956 := Safe.wr W955 sf_b919_947 H947 sf_b919_947
      have Rr956 := Rr947.trans (CHr.wr W955 sf_b919_947 H947)
      have H956 := CHv.wr W955 sf_b919_947 H947
      have Ot_957 := Ot_948.wr W955 ge_b919
      have E4_958 := E4_949.wr W955
      have Fv4_959 := Fv4_950.other W955 (Or.inl ne_l4_b919)
      have Fc4_960 := Fc4_951.other W955 (Or.inl ne_l4_b919)
      have V4_961 := V4_952.other W955 ne_t4_b919
      have Z_962 := Nat.le_trans Z_953 (Keep.of_wr W955).1
      have N955 := Fr.snoc X955 N954 ge_b919
      refine Owe.iload X955.here hx (hb hby at_204) rfl ?_
      refine Owe.iconst X955.here hx (hb hby at_206) (w := (4 : Int32)) rfl ?_
      refine Owe.icmpNo X955.here hx (hb hby at_207) rfl (tlt (by decide)).2.2.2 ?_
      refine Owe.aload X955.here hx (hb hby at_210) rfl rfl ?_
      refine Owe.iconst X955.here hx (hb hby at_212) (w := (4 : Int32)) rfl ?_
      refine Owe.aload X955.here hx (hb hby at_213) rfl rfl ?_
      refine Owe.iconst X955.here hx (hb hby at_215) (w := (4 : Int32)) rfl ?_
      refine Owe.iload X955.here hx (hb hby at_216) rfl ?_
      refine Owe.iload X955.here hx (hb hby at_218) rfl ?_
      refine Owe.iload X955.here hx (hb hby at_220) rfl ?_
      refine Owe.iloadN X955.here hx (hb hby at_222) rfl ?_
      refine Owe.stat X955 hx (y := Y7) hownt (mvT hZt (wd hw 22)) (mvT hZt (wd hw 23)) (mvT hZt (wd hw 24)) (mvT hZt (wd hw 25)) (by decide) (backOf (W := 2) (rmat l Z a0 hw [] l4 t4 k4 cs (4 : Int32) ps c7 md p3 G1 fm h955 n0 Z_962 E4_958 Fv4_959 Fc4_960 V4_961 Tx4 S_COMPACT_STRINGS cs0 Ot_957 S_SIOOBE_FORMATTER ir_fm (by decide) hcb) hZt (wd hw 25) (wd hw 24) (by decide) (by decide)) (by rw [hml]; rfl) (argsL := [(.ref l4), (.int (4 : Int32)), (.int ps), (.int c7), (.int md), (.int p3)]) (rest := [(.int (4 : Int32)), (.ref b919)]) (lenOf pd_10 rfl) rfl (nb rfl) (hb hby at_223) rfl e955 (by decide) (by decide) fun T963 v963 L963 X963 hQ963 => ?_
      obtain ⟨cv_963, rfl, Nq963, e963, hcv_963⟩ := hQ963
      have N963 := Fr.app N955 Nq963
      refine Owe.castore X963 hx hZt e963 V955 (x := cv_963) 4 rfl (nb rfl) (by decide) (hb hby at_226) rfl fun T964 h964 X964 e964 W964 (V964 : Arv Z h964 b919 k919 .char (10 : Int32) [(.int (nar .char cv_927)), (.int (nar .char cv_936)), (.int (nar .char cv_945)), (.int (nar .char cv_954)), (.int (nar .char cv_963)), (.int (0 : Int32)), (.int (0 : Int32)), (.int (0 : Int32)), (.int (0 : Int32)), (.int (0 : Int32))] (.int (0 : Int32))) => ?_
      have hk965 := Nat.le_trans hk956 (Keep.of_wr W964).1
      have sf_b919_965 := Safe.wr W964 sf_b919_956 H956 sf_b919_956
      have Rr965 := Rr956.trans (CHr.wr W964 sf_b919_956 H956)
      have H965 := CHv.wr W964 sf_b919_956 H956
      have Ot_966 := Ot_957.wr W964 ge_b919
      have E4_967 := E4_958.wr W964
      have Fv4_968 := Fv4_959.other W964 (Or.inl ne_l4_b919)
      have Fc4_969 := Fc4_960.other W964 (Or.inl ne_l4_b919)
      have V4_970 := V4_961.other W964 ne_t4_b919
      have Z_971 := Nat.le_trans Z_962 (Keep.of_wr W964).1
      have N964 := Fr.snoc X964 N963 ge_b919
      refine Owe.iload X964.here hx (hb hby at_227) rfl ?_
      refine Owe.iconst X964.here hx (hb hby at_229) (w := (5 : Int32)) rfl ?_
      refine Owe.icmpNo X964.here hx (hb hby at_230) rfl (tlt (by decide)).2.2.2 ?_
      refine Owe.aload X964.here hx (hb hby at_233) rfl rfl ?_
      refine Owe.iconst X964.here hx (hb hby at_235) (w := (5 : Int32)) rfl ?_
      refine Owe.aload X964.here hx (hb hby at_236) rfl rfl ?_
      refine Owe.iconst X964.here hx (hb hby at_238) (w := (5 : Int32)) rfl ?_
      refine Owe.iload X964.here hx (hb hby at_239) rfl ?_
      refine Owe.iload X964.here hx (hb hby at_241) rfl ?_
      refine Owe.iload X964.here hx (hb hby at_243) rfl ?_
      refine Owe.iloadN X964.here hx (hb hby at_245) rfl ?_
      refine Owe.stat X964 hx (y := Y7) hownt (mvT hZt (wd hw 22)) (mvT hZt (wd hw 23)) (mvT hZt (wd hw 24)) (mvT hZt (wd hw 25)) (by decide) (backOf (W := 2) (rmat l Z a0 hw [] l4 t4 k4 cs (5 : Int32) ps c7 md p3 G1 fm h964 n0 Z_971 E4_967 Fv4_968 Fc4_969 V4_970 Tx4 S_COMPACT_STRINGS cs0 Ot_966 S_SIOOBE_FORMATTER ir_fm (by decide) hcb) hZt (wd hw 25) (wd hw 24) (by decide) (by decide)) (by rw [hml]; rfl) (argsL := [(.ref l4), (.int (5 : Int32)), (.int ps), (.int c7), (.int md), (.int p3)]) (rest := [(.int (5 : Int32)), (.ref b919)]) (lenOf pd_10 rfl) rfl (nb rfl) (hb hby at_246) rfl e964 (by decide) (by decide) fun T972 v972 L972 X972 hQ972 => ?_
      obtain ⟨cv_972, rfl, Nq972, e972, hcv_972⟩ := hQ972
      have N972 := Fr.app N964 Nq972
      refine Owe.castore X972 hx hZt e972 V964 (x := cv_972) 5 rfl (nb rfl) (by decide) (hb hby at_249) rfl fun T973 h973 X973 e973 W973 (V973 : Arv Z h973 b919 k919 .char (10 : Int32) [(.int (nar .char cv_927)), (.int (nar .char cv_936)), (.int (nar .char cv_945)), (.int (nar .char cv_954)), (.int (nar .char cv_963)), (.int (nar .char cv_972)), (.int (0 : Int32)), (.int (0 : Int32)), (.int (0 : Int32)), (.int (0 : Int32))] (.int (0 : Int32))) => ?_
      have hk974 := Nat.le_trans hk965 (Keep.of_wr W973).1
      have sf_b919_974 := Safe.wr W973 sf_b919_965 H965 sf_b919_965
      have Rr974 := Rr965.trans (CHr.wr W973 sf_b919_965 H965)
      have H974 := CHv.wr W973 sf_b919_965 H965
      have Ot_975 := Ot_966.wr W973 ge_b919
      have E4_976 := E4_967.wr W973
      have Fv4_977 := Fv4_968.other W973 (Or.inl ne_l4_b919)
      have Fc4_978 := Fc4_969.other W973 (Or.inl ne_l4_b919)
      have V4_979 := V4_970.other W973 ne_t4_b919
      have Z_980 := Nat.le_trans Z_971 (Keep.of_wr W973).1
      have N973 := Fr.snoc X973 N972 ge_b919
      refine Owe.iload X973.here hx (hb hby at_250) rfl ?_
      refine Owe.bipush X973.here hx (hb hby at_252) (w := (6 : Int32)) rfl ?_
      refine Owe.icmpNo X973.here hx (hb hby at_254) rfl (tlt (by decide)).2.2.2 ?_
      refine Owe.aload X973.here hx (hb hby at_257) rfl rfl ?_
      refine Owe.bipush X973.here hx (hb hby at_259) (w := (6 : Int32)) rfl ?_
      refine Owe.aload X973.here hx (hb hby at_261) rfl rfl ?_
      refine Owe.bipush X973.here hx (hb hby at_263) (w := (6 : Int32)) rfl ?_
      refine Owe.iload X973.here hx (hb hby at_265) rfl ?_
      refine Owe.iload X973.here hx (hb hby at_267) rfl ?_
      refine Owe.iload X973.here hx (hb hby at_269) rfl ?_
      refine Owe.iloadN X973.here hx (hb hby at_271) rfl ?_
      refine Owe.stat X973 hx (y := Y7) hownt (mvT hZt (wd hw 22)) (mvT hZt (wd hw 23)) (mvT hZt (wd hw 24)) (mvT hZt (wd hw 25)) (by decide) (backOf (W := 2) (rmat l Z a0 hw [] l4 t4 k4 cs (6 : Int32) ps c7 md p3 G1 fm h973 n0 Z_980 E4_976 Fv4_977 Fc4_978 V4_979 Tx4 S_COMPACT_STRINGS cs0 Ot_975 S_SIOOBE_FORMATTER ir_fm (by decide) hcb) hZt (wd hw 25) (wd hw 24) (by decide) (by decide)) (by rw [hml]; rfl) (argsL := [(.ref l4), (.int (6 : Int32)), (.int ps), (.int c7), (.int md), (.int p3)]) (rest := [(.int (6 : Int32)), (.ref b919)]) (lenOf pd_10 rfl) rfl (nb rfl) (hb hby at_272) rfl e973 (by decide) (by decide) fun T981 v981 L981 X981 hQ981 => ?_
      obtain ⟨cv_981, rfl, Nq981, e981, hcv_981⟩ := hQ981
      have N981 := Fr.app N973 Nq981
      refine Owe.castore X981 hx hZt e981 V973 (x := cv_981) 6 rfl (nb rfl) (by decide) (hb hby at_275) rfl fun T982 h982 X982 e982 W982 (V982 : Arv Z h982 b919 k919 .char (10 : Int32) [(.int (nar .char cv_927)), (.int (nar .char cv_936)), (.int (nar .char cv_945)), (.int (nar .char cv_954)), (.int (nar .char cv_963)), (.int (nar .char cv_972)), (.int (nar .char cv_981)), (.int (0 : Int32)), (.int (0 : Int32)), (.int (0 : Int32))] (.int (0 : Int32))) => ?_
      have hk983 := Nat.le_trans hk974 (Keep.of_wr W982).1
      have sf_b919_983 := Safe.wr W982 sf_b919_974 H974 sf_b919_974
      have Rr983 := Rr974.trans (CHr.wr W982 sf_b919_974 H974)
      have H983 := CHv.wr W982 sf_b919_974 H974
      have Ot_984 := Ot_975.wr W982 ge_b919
      have E4_985 := E4_976.wr W982
      have Fv4_986 := Fv4_977.other W982 (Or.inl ne_l4_b919)
      have Fc4_987 := Fc4_978.other W982 (Or.inl ne_l4_b919)
      have V4_988 := V4_979.other W982 ne_t4_b919
      have Z_989 := Nat.le_trans Z_980 (Keep.of_wr W982).1
      have N982 := Fr.snoc X982 N981 ge_b919
      refine Owe.iload X982.here hx (hb hby at_276) rfl ?_
      refine Owe.bipush X982.here hx (hb hby at_278) (w := (7 : Int32)) rfl ?_
      refine Owe.icmpNo X982.here hx (hb hby at_280) rfl (tlt (by decide)).2.2.2 ?_
      refine Owe.aload X982.here hx (hb hby at_283) rfl rfl ?_
      refine Owe.bipush X982.here hx (hb hby at_285) (w := (7 : Int32)) rfl ?_
      refine Owe.aload X982.here hx (hb hby at_287) rfl rfl ?_
      refine Owe.bipush X982.here hx (hb hby at_289) (w := (7 : Int32)) rfl ?_
      refine Owe.iload X982.here hx (hb hby at_291) rfl ?_
      refine Owe.iload X982.here hx (hb hby at_293) rfl ?_
      refine Owe.iload X982.here hx (hb hby at_295) rfl ?_
      refine Owe.iloadN X982.here hx (hb hby at_297) rfl ?_
      refine Owe.stat X982 hx (y := Y7) hownt (mvT hZt (wd hw 22)) (mvT hZt (wd hw 23)) (mvT hZt (wd hw 24)) (mvT hZt (wd hw 25)) (by decide) (backOf (W := 2) (rmat l Z a0 hw [] l4 t4 k4 cs (7 : Int32) ps c7 md p3 G1 fm h982 n0 Z_989 E4_985 Fv4_986 Fc4_987 V4_988 Tx4 S_COMPACT_STRINGS cs0 Ot_984 S_SIOOBE_FORMATTER ir_fm (by decide) hcb) hZt (wd hw 25) (wd hw 24) (by decide) (by decide)) (by rw [hml]; rfl) (argsL := [(.ref l4), (.int (7 : Int32)), (.int ps), (.int c7), (.int md), (.int p3)]) (rest := [(.int (7 : Int32)), (.ref b919)]) (lenOf pd_10 rfl) rfl (nb rfl) (hb hby at_298) rfl e982 (by decide) (by decide) fun T990 v990 L990 X990 hQ990 => ?_
      obtain ⟨cv_990, rfl, Nq990, e990, hcv_990⟩ := hQ990
      have N990 := Fr.app N982 Nq990
      refine Owe.castore X990 hx hZt e990 V982 (x := cv_990) 7 rfl (nb rfl) (by decide) (hb hby at_301) rfl fun T991 h991 X991 e991 W991 (V991 : Arv Z h991 b919 k919 .char (10 : Int32) [(.int (nar .char cv_927)), (.int (nar .char cv_936)), (.int (nar .char cv_945)), (.int (nar .char cv_954)), (.int (nar .char cv_963)), (.int (nar .char cv_972)), (.int (nar .char cv_981)), (.int (nar .char cv_990)), (.int (0 : Int32)), (.int (0 : Int32))] (.int (0 : Int32))) => ?_
      have hk992 := Nat.le_trans hk983 (Keep.of_wr W991).1
      have sf_b919_992 := Safe.wr W991 sf_b919_983 H983 sf_b919_983
      have Rr992 := Rr983.trans (CHr.wr W991 sf_b919_983 H983)
      have H992 := CHv.wr W991 sf_b919_983 H983
      have Ot_993 := Ot_984.wr W991 ge_b919
      have E4_994 := E4_985.wr W991
      have Fv4_995 := Fv4_986.other W991 (Or.inl ne_l4_b919)
      have Fc4_996 := Fc4_987.other W991 (Or.inl ne_l4_b919)
      have V4_997 := V4_988.other W991 ne_t4_b919
      have Z_998 := Nat.le_trans Z_989 (Keep.of_wr W991).1
      have N991 := Fr.snoc X991 N990 ge_b919
      refine Owe.iload X991.here hx (hb hby at_302) rfl ?_
      refine Owe.bipush X991.here hx (hb hby at_304) (w := (8 : Int32)) rfl ?_
      refine Owe.icmpNo X991.here hx (hb hby at_306) rfl (tlt (by decide)).2.2.2 ?_
      refine Owe.aload X991.here hx (hb hby at_309) rfl rfl ?_
      refine Owe.bipush X991.here hx (hb hby at_311) (w := (8 : Int32)) rfl ?_
      refine Owe.aload X991.here hx (hb hby at_313) rfl rfl ?_
      refine Owe.bipush X991.here hx (hb hby at_315) (w := (8 : Int32)) rfl ?_
      refine Owe.iload X991.here hx (hb hby at_317) rfl ?_
      refine Owe.iload X991.here hx (hb hby at_319) rfl ?_
      refine Owe.iload X991.here hx (hb hby at_321) rfl ?_
      refine Owe.iloadN X991.here hx (hb hby at_323) rfl ?_
      refine Owe.stat X991 hx (y := Y7) hownt (mvT hZt (wd hw 22)) (mvT hZt (wd hw 23)) (mvT hZt (wd hw 24)) (mvT hZt (wd hw 25)) (by decide) (backOf (W := 2) (rmat l Z a0 hw [] l4 t4 k4 cs (8 : Int32) ps c7 md p3 G1 fm h991 n0 Z_998 E4_994 Fv4_995 Fc4_996 V4_997 Tx4 S_COMPACT_STRINGS cs0 Ot_993 S_SIOOBE_FORMATTER ir_fm (by decide) hcb) hZt (wd hw 25) (wd hw 24) (by decide) (by decide)) (by rw [hml]; rfl) (argsL := [(.ref l4), (.int (8 : Int32)), (.int ps), (.int c7), (.int md), (.int p3)]) (rest := [(.int (8 : Int32)), (.ref b919)]) (lenOf pd_10 rfl) rfl (nb rfl) (hb hby at_324) rfl e991 (by decide) (by decide) fun T999 v999 L999 X999 hQ999 => ?_
      obtain ⟨cv_999, rfl, Nq999, e999, hcv_999⟩ := hQ999
      have N999 := Fr.app N991 Nq999
      refine Owe.castore X999 hx hZt e999 V991 (x := cv_999) 8 rfl (nb rfl) (by decide) (hb hby at_327) rfl fun T1000 h1000 X1000 e1000 W1000 (V1000 : Arv Z h1000 b919 k919 .char (10 : Int32) [(.int (nar .char cv_927)), (.int (nar .char cv_936)), (.int (nar .char cv_945)), (.int (nar .char cv_954)), (.int (nar .char cv_963)), (.int (nar .char cv_972)), (.int (nar .char cv_981)), (.int (nar .char cv_990)), (.int (nar .char cv_999)), (.int (0 : Int32))] (.int (0 : Int32))) => ?_
      have hk1001 := Nat.le_trans hk992 (Keep.of_wr W1000).1
      have sf_b919_1001 := Safe.wr W1000 sf_b919_992 H992 sf_b919_992
      have Rr1001 := Rr992.trans (CHr.wr W1000 sf_b919_992 H992)
      have H1001 := CHv.wr W1000 sf_b919_992 H992
      have Ot_1002 := Ot_993.wr W1000 ge_b919
      have E4_1003 := E4_994.wr W1000
      have Fv4_1004 := Fv4_995.other W1000 (Or.inl ne_l4_b919)
      have Fc4_1005 := Fc4_996.other W1000 (Or.inl ne_l4_b919)
      have V4_1006 := V4_997.other W1000 ne_t4_b919
      have Z_1007 := Nat.le_trans Z_998 (Keep.of_wr W1000).1
      have N1000 := Fr.snoc X1000 N999 ge_b919
      refine Owe.iload X1000.here hx (hb hby at_328) rfl ?_
      refine Owe.bipush X1000.here hx (hb hby at_330) (w := (9 : Int32)) rfl ?_
      refine Owe.icmpNo X1000.here hx (hb hby at_332) rfl (tlt (by decide)).2.2.2 ?_
      refine Owe.aload X1000.here hx (hb hby at_335) rfl rfl ?_
      refine Owe.bipush X1000.here hx (hb hby at_337) (w := (9 : Int32)) rfl ?_
      refine Owe.aload X1000.here hx (hb hby at_339) rfl rfl ?_
      refine Owe.bipush X1000.here hx (hb hby at_341) (w := (9 : Int32)) rfl ?_
      refine Owe.iload X1000.here hx (hb hby at_343) rfl ?_
      refine Owe.iload X1000.here hx (hb hby at_345) rfl ?_
      refine Owe.iload X1000.here hx (hb hby at_347) rfl ?_
      refine Owe.iloadN X1000.here hx (hb hby at_349) rfl ?_
      refine Owe.stat X1000 hx (y := Y7) hownt (mvT hZt (wd hw 22)) (mvT hZt (wd hw 23)) (mvT hZt (wd hw 24)) (mvT hZt (wd hw 25)) (by decide) (backOf (W := 2) (rmat l Z a0 hw [] l4 t4 k4 cs (9 : Int32) ps c7 md p3 G1 fm h1000 n0 Z_1007 E4_1003 Fv4_1004 Fc4_1005 V4_1006 Tx4 S_COMPACT_STRINGS cs0 Ot_1002 S_SIOOBE_FORMATTER ir_fm (by decide) hcb) hZt (wd hw 25) (wd hw 24) (by decide) (by decide)) (by rw [hml]; rfl) (argsL := [(.ref l4), (.int (9 : Int32)), (.int ps), (.int c7), (.int md), (.int p3)]) (rest := [(.int (9 : Int32)), (.ref b919)]) (lenOf pd_10 rfl) rfl (nb rfl) (hb hby at_350) rfl e1000 (by decide) (by decide) fun T1008 v1008 L1008 X1008 hQ1008 => ?_
      obtain ⟨cv_1008, rfl, Nq1008, e1008, hcv_1008⟩ := hQ1008
      have N1008 := Fr.app N1000 Nq1008
      refine Owe.castore X1008 hx hZt e1008 V1000 (x := cv_1008) 9 rfl (nb rfl) (by decide) (hb hby at_353) rfl fun T1009 h1009 X1009 e1009 W1009 (V1009 : Arv Z h1009 b919 k919 .char (10 : Int32) [(.int (nar .char cv_927)), (.int (nar .char cv_936)), (.int (nar .char cv_945)), (.int (nar .char cv_954)), (.int (nar .char cv_963)), (.int (nar .char cv_972)), (.int (nar .char cv_981)), (.int (nar .char cv_990)), (.int (nar .char cv_999)), (.int (nar .char cv_1008))] (.int (0 : Int32))) => ?_
      have hk1010 := Nat.le_trans hk1001 (Keep.of_wr W1009).1
      have sf_b919_1010 := Safe.wr W1009 sf_b919_1001 H1001 sf_b919_1001
      have Rr1010 := Rr1001.trans (CHr.wr W1009 sf_b919_1001 H1001)
      have H1010 := CHv.wr W1009 sf_b919_1001 H1001
      have Ot_1011 := Ot_1002.wr W1009 ge_b919
      have E4_1012 := E4_1003.wr W1009
      have Fv4_1013 := Fv4_1004.other W1009 (Or.inl ne_l4_b919)
      have Fc4_1014 := Fc4_1005.other W1009 (Or.inl ne_l4_b919)
      have V4_1015 := V4_1006.other W1009 ne_t4_b919
      have Z_1016 := Nat.le_trans Z_1007 (Keep.of_wr W1009).1
      have N1009 := Fr.snoc X1009 N1008 ge_b919
      refine Owe.iload X1009.here hx (hb hby at_354) rfl ?_
      refine Owe.bipush X1009.here hx (hb hby at_356) (w := (10 : Int32)) rfl ?_
      refine Owe.icmpYes X1009.here hx (hb hby at_358) rfl (flt (by decide)).2.2.2 (pc' := 380) (by decide) (by decide) ?_
      refine Owe.iload X1009.here hx (hb hby at_380) rfl ?_
      refine Owe.bipush X1009.here hx (hb hby at_382) (w := (11 : Int32)) rfl ?_
      refine Owe.icmpYes X1009.here hx (hb hby at_384) rfl (flt (by decide)).2.2.2 (pc' := 406) (by decide) (by decide) ?_
      refine Owe.new X1009 hx hZt hownt (wd hw 48) (wd hw 2) (wd hw 1) e1009 (hb hby at_406) (by decide) (by decide) fun T1017 h1017 b1017 g1017 X1017 e1017 E1017 A1017 D1017 => ?_
      have ne_l4_b1017 : l4 ≠ b1017 := Nat.ne_of_lt (Nat.lt_of_lt_of_le E4_1012.lt (Nat.le_of_eq g1017.symm))
      have ne_t4_b1017 : t4 ≠ b1017 := Nat.ne_of_lt (Nat.lt_of_lt_of_le V4_1015.lt (Nat.le_of_eq g1017.symm))
      have ne_b919_b1017 : b919 ≠ b1017 := Nat.ne_of_lt (Nat.lt_of_lt_of_le V1009.lt (Nat.le_of_eq g1017.symm))
      have sf_b1017 := (Safe.new (Nat.le_of_eq g1017.symm) : Safe Z own_EL vmt h1009 b1017)
      have ge_b1017 := Nat.le_trans Z_1016 (Nat.le_of_eq g1017.symm)
      have hk1018 := Nat.le_trans hk1010 E1017.1
      have sf_b919_1018 := Safe.ext E1017 H1010 sf_b919_1010
      have sf_b1017_1018 := Safe.ext E1017 H1010 sf_b1017
      have Rr1018 := Rr1010.trans (CHr.ext E1017 H1010)
      have H1018 := CHv.ext E1017 H1010
      have Ot_1019 := Ot_1011.ext E1017
      have E4_1020 := E4_1012.ext E1017
      have Fv4_1021 := Fv4_1013.ext E1017
      have Fc4_1022 := Fc4_1014.ext E1017
      have V4_1023 := V4_1015.ext E1017
      have V1009_1024 := V1009.ext E1017
      have Z_1025 := Nat.le_trans Z_1016 E1017.1
      have Fvalue_b1017 : Fld Z h1017 b1017 "java/lang/String" "value" "[B" .null := D1017 (Or.inr (wd hw 4)) (ty := (.array .byte)) (by decide)
      have Fcoder_b1017 : Fld Z h1017 b1017 "java/lang/String" "coder" "B" (.int (0 : Int32)) := D1017 (Or.inr (wd hw 5)) (ty := .byte) (by decide)
      refine Owe.dup X1017.here hx (hb hby at_409) rfl rfl ?_
      refine Owe.aload X1017.here hx (hb hby at_410) rfl rfl ?_
      have hp1026 : ∀ c ∈ ([(nar .char cv_927), (nar .char cv_936), (nar .char cv_945), (nar .char cv_954), (nar .char cv_963), (nar .char cv_972), (nar .char cv_981), (nar .char cv_990), (nar .char cv_999), (nar .char cv_1008)] : List Int32), ¬ c < 0 ∧ ¬ (255 : Int32) < c := by
        intro c hc
        simp only [List.mem_cons, List.not_mem_nil, or_false] at hc
        rcases hc with rfl | rfl | rfl | rfl | rfl | rfl | rfl | rfl | rfl | rfl
        · exact (own_nar2 hcv_927)
        · exact (own_nar2 hcv_936)
        · exact (own_nar2 hcv_945)
        · exact (own_nar2 hcv_954)
        · exact (own_nar2 hcv_963)
        · exact (own_nar2 hcv_972)
        · exact (own_nar2 hcv_981)
        · exact (own_nar2 hcv_990)
        · exact (own_nar2 hcv_999)
        · exact (own_nar2 hcv_1008)
      refine Owe.special X1017 hx (y := Y1) rfl hownt (mvT hZt (wd hw 49)) (mvT hZt (wd hw 50)) (mvT hZt (wd hw 51)) (by decide) (StrChars.Road.backV (W := 1) hZt hws (kI := 4) (wd hw 2) (cs := ([(nar .char cv_927), (nar .char cv_936), (nar .char cv_945), (nar .char cv_954), (nar .char cv_963), (nar .char cv_972), (nar .char cv_981), (nar .char cv_990), (nar .char cv_999), (nar .char cv_1008)] : List Int32)) (bs := ([(nar .char cv_927), (nar .char cv_936), (nar .char cv_945), (nar .char cv_954), (nar .char cv_963), (nar .char cv_972), (nar .char cv_981), (nar .char cv_990), (nar .char cv_999), (nar .char cv_1008)] : List Int32).map (fun c => c.toInt8.toInt32)) (n := 10) ge_b1017 Z_1025 A1017 Fvalue_b1017 Fcoder_b1017 V1009_1024 (S_COMPACT_STRINGS.ext Ot_1019.2) cs0 rfl rfl (by decide) (by decide) hp1026 rfl (by decide) (by decide)) (by rw [hml]; rfl) (a := b1017) (argsL := [(.ref b919)]) (rest := [(.ref b1017)]) (lenOf pd_9 rfl) rfl (nb rfl) (hb hby at_412) rfl e1017 (by decide) (by decide) fun T1027 v1027 L1027 X1027 hQ1027 => ?_
      obtain ⟨rfl, Nq1027, K1027, Ex1027, Fc1027, t1027, kb1027, gt1027, ft1027, nt1027, Fv1027, Vt1027⟩ := hQ1027
      have N1027 := Fr.app N1009 Nq1027
      have ne_l4_t1027 : l4 ≠ t1027 := Nat.ne_of_lt (Nat.lt_of_lt_of_le E4_1020.lt ft1027)
      have ne_t4_t1027 : t4 ≠ t1027 := Nat.ne_of_lt (Nat.lt_of_lt_of_le V4_1023.lt ft1027)
      have ne_b919_t1027 : b919 ≠ t1027 := Nat.ne_of_lt (Nat.lt_of_lt_of_le V1009_1024.lt ft1027)
      have ne_b1017_t1027 : b1017 ≠ t1027 := Nat.ne_of_lt (Nat.lt_of_lt_of_le A1017.lt ft1027)
      have hk1028 := Nat.le_trans hk1018 K1027.1
      have sf_b919_1028 := Safe.keep K1027 (sfS sf_b1017_1018 sf0) H1018 sf_b919_1018
      have sf_b1017_1028 := Safe.keep K1027 (sfS sf_b1017_1018 sf0) H1018 sf_b1017_1018
      have Rr1028 := Rr1018.trans (CHr.keep K1027 (sfS sf_b1017_1018 sf0) H1018)
      have H1028 := CHv.keep K1027 (sfS sf_b1017_1018 sf0) H1018
      have Ot_1029 := Ot_1019.keep K1027 (allS ge_b1017 all0)
      have E4_1030 := E4_1020.keep K1027
      have Fv4_1031 := Fv4_1021.keep K1027 (ninS ne_l4_b1017 nin0)
      have Fc4_1032 := Fc4_1022.keep K1027 (ninS ne_l4_b1017 nin0)
      have V4_1033 := V4_1023.keep K1027 (ninS ne_t4_b1017 nin0)
      have V1009_1034 := V1009_1024.keep K1027 (ninS ne_b919_b1017 nin0)
      have A1017_1035 := A1017.keep K1027
      have Z_1036 := Nat.le_trans Z_1025 K1027.1
      have Tx1027 : (∀ c ∈ ([(nar .char cv_927), (nar .char cv_936), (nar .char cv_945), (nar .char cv_954), (nar .char cv_963), (nar .char cv_972), (nar .char cv_981), (nar .char cv_990), (nar .char cv_999), (nar .char cv_1008)] : List Int32), ¬ c < 0 ∧ ¬ (255 : Int32) < c) ∧ ([(nar .char cv_927), (nar .char cv_936), (nar .char cv_945), (nar .char cv_954), (nar .char cv_963), (nar .char cv_972), (nar .char cv_981), (nar .char cv_990), (nar .char cv_999), (nar .char cv_1008)] : List Int32).length ≤ 4000 := ⟨hp1026, Nat.le_of_ble_eq_true rfl⟩
      refine Owe.astore X1027.here hx (hb hby at_415) rfl rfl (l' := #[.val (.int p1), .val (.int p2), .val (.int p3), .val (.int p4), .val (.ref l4), .val (.int md), .val (.int l6), .val (.int c7), .val (.int ps), .val (.int (10 : Int32)), .val (.ref b1017), .val (.ref b919)]) rfl ?_
      exact cut417 _ _ _ _ _ _ _ _ _ _ _ _ _ _ _ _ (X1027.mono (by decide) (by decide)) rfl hSt hk1028 hZt hownt N1027 Z_1036 Ot_1029 H1028 Rr1028 Ex1027 Fv1027 Fc1027 Vt1027 Tx1027
    · skip
      refine Owe.iload Xt.here hx (hb hby at_107) rfl ?_
      refine Owe.newarr Xt hx hZt (aty := .char) (wd hw 21) et (hb hby at_109) rfl (by decide) (cap := 11) (by decide) (by decide) (by decide) (by decide) fun T1037 h1037 b1037 k1037 g1037 X1037 e1037 E1037 V1037 => ?_
      have ne_l4_b1037 : l4 ≠ b1037 := Nat.ne_of_lt (Nat.lt_of_lt_of_le E4.lt (Nat.le_of_eq g1037.symm))
      have ne_t4_b1037 : t4 ≠ b1037 := Nat.ne_of_lt (Nat.lt_of_lt_of_le V4.lt (Nat.le_of_eq g1037.symm))
      have sf_b1037 := (Safe.new (Nat.le_of_eq g1037.symm) : Safe Z own_EL vmt ht b1037)
      have ge_b1037 := Nat.le_trans Zt (Nat.le_of_eq g1037.symm)
      have hk1038 := Nat.le_trans hkt E1037.1
      have sf_b1037_1038 := Safe.ext E1037 Ht sf_b1037
      have Rr1038 := Rt.trans (CHr.ext E1037 Ht)
      have H1038 := CHv.ext E1037 Ht
      have Ot_1039 := Ot.ext E1037
      have E4_1040 := E4.ext E1037
      have Fv4_1041 := Fv4.ext E1037
      have Fc4_1042 := Fc4.ext E1037
      have V4_1043 := V4.ext E1037
      have Z_1044 := Nat.le_trans Zt E1037.1
      have V_b1037_1037 : Arv Z h1037 b1037 k1037 .char (11 : Int32) [(.int (0 : Int32)), (.int (0 : Int32)), (.int (0 : Int32)), (.int (0 : Int32)), (.int (0 : Int32)), (.int (0 : Int32)), (.int (0 : Int32)), (.int (0 : Int32)), (.int (0 : Int32)), (.int (0 : Int32)), (.int (0 : Int32))] (.int (0 : Int32)) := V1037.pad (pad_rep [] (.int (0 : Int32)) 11)
      refine Owe.astore X1037.here hx (hb hby at_111) rfl rfl (l' := #[.val (.int p1), .val (.int p2), .val (.int p3), .val (.int p4), .val (.ref l4), .val (.int md), .val (.int l6), .val (.int c7), .val (.int ps), .val (.int (11 : Int32)), .val .null, .val (.ref b1037)]) rfl ?_
      refine Owe.iload X1037.here hx (hb hby at_113) rfl ?_
      refine Owe.ifNo X1037.here hx (hb hby at_115) rfl ((if0 _ _).trans (tlt (by decide)).2.2.2) ?_
      refine Owe.aload X1037.here hx (hb hby at_118) rfl rfl ?_
      refine Owe.iconst X1037.here hx (hb hby at_120) (w := (0 : Int32)) rfl ?_
      refine Owe.aload X1037.here hx (hb hby at_121) rfl rfl ?_
      refine Owe.iconst X1037.here hx (hb hby at_123) (w := (0 : Int32)) rfl ?_
      refine Owe.iload X1037.here hx (hb hby at_124) rfl ?_
      refine Owe.iload X1037.here hx (hb hby at_126) rfl ?_
      refine Owe.iload X1037.here hx (hb hby at_128) rfl ?_
      refine Owe.iloadN X1037.here hx (hb hby at_130) rfl ?_
      refine Owe.stat X1037 hx (y := Y7) hownt (mvT hZt (wd hw 22)) (mvT hZt (wd hw 23)) (mvT hZt (wd hw 24)) (mvT hZt (wd hw 25)) (by decide) (backOf (W := 2) (rmat l Z a0 hw [] l4 t4 k4 cs (0 : Int32) ps c7 md p3 G1 fm h1037 n0 Z_1044 E4_1040 Fv4_1041 Fc4_1042 V4_1043 Tx4 S_COMPACT_STRINGS cs0 Ot_1039 S_SIOOBE_FORMATTER ir_fm (by decide) hcb) hZt (wd hw 25) (wd hw 24) (by decide) (by decide)) (by rw [hml]; rfl) (argsL := [(.ref l4), (.int (0 : Int32)), (.int ps), (.int c7), (.int md), (.int p3)]) (rest := [(.int (0 : Int32)), (.ref b1037)]) (lenOf pd_10 rfl) rfl (nb rfl) (hb hby at_131) rfl e1037 (by decide) (by decide) fun T1045 v1045 L1045 X1045 hQ1045 => ?_
      obtain ⟨cv_1045, rfl, Nq1045, e1045, hcv_1045⟩ := hQ1045
      have N1045 := Fr.app Nt Nq1045
      refine Owe.castore X1045 hx hZt e1045 V_b1037_1037 (x := cv_1045) 0 rfl (nb rfl) (by decide) (hb hby at_134) rfl fun T1046 h1046 X1046 e1046 W1046 (V1046 : Arv Z h1046 b1037 k1037 .char (11 : Int32) [(.int (nar .char cv_1045)), (.int (0 : Int32)), (.int (0 : Int32)), (.int (0 : Int32)), (.int (0 : Int32)), (.int (0 : Int32)), (.int (0 : Int32)), (.int (0 : Int32)), (.int (0 : Int32)), (.int (0 : Int32)), (.int (0 : Int32))] (.int (0 : Int32))) => ?_
      have hk1047 := Nat.le_trans hk1038 (Keep.of_wr W1046).1
      have sf_b1037_1047 := Safe.wr W1046 sf_b1037_1038 H1038 sf_b1037_1038
      have Rr1047 := Rr1038.trans (CHr.wr W1046 sf_b1037_1038 H1038)
      have H1047 := CHv.wr W1046 sf_b1037_1038 H1038
      have Ot_1048 := Ot_1039.wr W1046 ge_b1037
      have E4_1049 := E4_1040.wr W1046
      have Fv4_1050 := Fv4_1041.other W1046 (Or.inl ne_l4_b1037)
      have Fc4_1051 := Fc4_1042.other W1046 (Or.inl ne_l4_b1037)
      have V4_1052 := V4_1043.other W1046 ne_t4_b1037
      have Z_1053 := Nat.le_trans Z_1044 (Keep.of_wr W1046).1
      have N1046 := Fr.snoc X1046 N1045 ge_b1037
      refine Owe.iload X1046.here hx (hb hby at_135) rfl ?_
      refine Owe.iconst X1046.here hx (hb hby at_137) (w := (1 : Int32)) rfl ?_
      refine Owe.icmpNo X1046.here hx (hb hby at_138) rfl (tlt (by decide)).2.2.2 ?_
      refine Owe.aload X1046.here hx (hb hby at_141) rfl rfl ?_
      refine Owe.iconst X1046.here hx (hb hby at_143) (w := (1 : Int32)) rfl ?_
      refine Owe.aload X1046.here hx (hb hby at_144) rfl rfl ?_
      refine Owe.iconst X1046.here hx (hb hby at_146) (w := (1 : Int32)) rfl ?_
      refine Owe.iload X1046.here hx (hb hby at_147) rfl ?_
      refine Owe.iload X1046.here hx (hb hby at_149) rfl ?_
      refine Owe.iload X1046.here hx (hb hby at_151) rfl ?_
      refine Owe.iloadN X1046.here hx (hb hby at_153) rfl ?_
      refine Owe.stat X1046 hx (y := Y7) hownt (mvT hZt (wd hw 22)) (mvT hZt (wd hw 23)) (mvT hZt (wd hw 24)) (mvT hZt (wd hw 25)) (by decide) (backOf (W := 2) (rmat l Z a0 hw [] l4 t4 k4 cs (1 : Int32) ps c7 md p3 G1 fm h1046 n0 Z_1053 E4_1049 Fv4_1050 Fc4_1051 V4_1052 Tx4 S_COMPACT_STRINGS cs0 Ot_1048 S_SIOOBE_FORMATTER ir_fm (by decide) hcb) hZt (wd hw 25) (wd hw 24) (by decide) (by decide)) (by rw [hml]; rfl) (argsL := [(.ref l4), (.int (1 : Int32)), (.int ps), (.int c7), (.int md), (.int p3)]) (rest := [(.int (1 : Int32)), (.ref b1037)]) (lenOf pd_10 rfl) rfl (nb rfl) (hb hby at_154) rfl e1046 (by decide) (by decide) fun T1054 v1054 L1054 X1054 hQ1054 => ?_
      obtain ⟨cv_1054, rfl, Nq1054, e1054, hcv_1054⟩ := hQ1054
      have N1054 := Fr.app N1046 Nq1054
      refine Owe.castore X1054 hx hZt e1054 V1046 (x := cv_1054) 1 rfl (nb rfl) (by decide) (hb hby at_157) rfl fun T1055 h1055 X1055 e1055 W1055 (V1055 : Arv Z h1055 b1037 k1037 .char (11 : Int32) [(.int (nar .char cv_1045)), (.int (nar .char cv_1054)), (.int (0 : Int32)), (.int (0 : Int32)), (.int (0 : Int32)), (.int (0 : Int32)), (.int (0 : Int32)), (.int (0 : Int32)), (.int (0 : Int32)), (.int (0 : Int32)), (.int (0 : Int32))] (.int (0 : Int32))) => ?_
      have hk1056 := Nat.le_trans hk1047 (Keep.of_wr W1055).1
      have sf_b1037_1056 := Safe.wr W1055 sf_b1037_1047 H1047 sf_b1037_1047
      have Rr1056 := Rr1047.trans (CHr.wr W1055 sf_b1037_1047 H1047)
      have H1056 := CHv.wr W1055 sf_b1037_1047 H1047
      have Ot_1057 := Ot_1048.wr W1055 ge_b1037
      have E4_1058 := E4_1049.wr W1055
      have Fv4_1059 := Fv4_1050.other W1055 (Or.inl ne_l4_b1037)
      have Fc4_1060 := Fc4_1051.other W1055 (Or.inl ne_l4_b1037)
      have V4_1061 := V4_1052.other W1055 ne_t4_b1037
      have Z_1062 := Nat.le_trans Z_1053 (Keep.of_wr W1055).1
      have N1055 := Fr.snoc X1055 N1054 ge_b1037
      refine Owe.iload X1055.here hx (hb hby at_158) rfl ?_
      refine Owe.iconst X1055.here hx (hb hby at_160) (w := (2 : Int32)) rfl ?_
      refine Owe.icmpNo X1055.here hx (hb hby at_161) rfl (tlt (by decide)).2.2.2 ?_
      refine Owe.aload X1055.here hx (hb hby at_164) rfl rfl ?_
      refine Owe.iconst X1055.here hx (hb hby at_166) (w := (2 : Int32)) rfl ?_
      refine Owe.aload X1055.here hx (hb hby at_167) rfl rfl ?_
      refine Owe.iconst X1055.here hx (hb hby at_169) (w := (2 : Int32)) rfl ?_
      refine Owe.iload X1055.here hx (hb hby at_170) rfl ?_
      refine Owe.iload X1055.here hx (hb hby at_172) rfl ?_
      refine Owe.iload X1055.here hx (hb hby at_174) rfl ?_
      refine Owe.iloadN X1055.here hx (hb hby at_176) rfl ?_
      refine Owe.stat X1055 hx (y := Y7) hownt (mvT hZt (wd hw 22)) (mvT hZt (wd hw 23)) (mvT hZt (wd hw 24)) (mvT hZt (wd hw 25)) (by decide) (backOf (W := 2) (rmat l Z a0 hw [] l4 t4 k4 cs (2 : Int32) ps c7 md p3 G1 fm h1055 n0 Z_1062 E4_1058 Fv4_1059 Fc4_1060 V4_1061 Tx4 S_COMPACT_STRINGS cs0 Ot_1057 S_SIOOBE_FORMATTER ir_fm (by decide) hcb) hZt (wd hw 25) (wd hw 24) (by decide) (by decide)) (by rw [hml]; rfl) (argsL := [(.ref l4), (.int (2 : Int32)), (.int ps), (.int c7), (.int md), (.int p3)]) (rest := [(.int (2 : Int32)), (.ref b1037)]) (lenOf pd_10 rfl) rfl (nb rfl) (hb hby at_177) rfl e1055 (by decide) (by decide) fun T1063 v1063 L1063 X1063 hQ1063 => ?_
      obtain ⟨cv_1063, rfl, Nq1063, e1063, hcv_1063⟩ := hQ1063
      have N1063 := Fr.app N1055 Nq1063
      refine Owe.castore X1063 hx hZt e1063 V1055 (x := cv_1063) 2 rfl (nb rfl) (by decide) (hb hby at_180) rfl fun T1064 h1064 X1064 e1064 W1064 (V1064 : Arv Z h1064 b1037 k1037 .char (11 : Int32) [(.int (nar .char cv_1045)), (.int (nar .char cv_1054)), (.int (nar .char cv_1063)), (.int (0 : Int32)), (.int (0 : Int32)), (.int (0 : Int32)), (.int (0 : Int32)), (.int (0 : Int32)), (.int (0 : Int32)), (.int (0 : Int32)), (.int (0 : Int32))] (.int (0 : Int32))) => ?_
      have hk1065 := Nat.le_trans hk1056 (Keep.of_wr W1064).1
      have sf_b1037_1065 := Safe.wr W1064 sf_b1037_1056 H1056 sf_b1037_1056
      have Rr1065 := Rr1056.trans (CHr.wr W1064 sf_b1037_1056 H1056)
      have H1065 := CHv.wr W1064 sf_b1037_1056 H1056
      have Ot_1066 := Ot_1057.wr W1064 ge_b1037
      have E4_1067 := E4_1058.wr W1064
      have Fv4_1068 := Fv4_1059.other W1064 (Or.inl ne_l4_b1037)
      have Fc4_1069 := Fc4_1060.other W1064 (Or.inl ne_l4_b1037)
      have V4_1070 := V4_1061.other W1064 ne_t4_b1037
      have Z_1071 := Nat.le_trans Z_1062 (Keep.of_wr W1064).1
      have N1064 := Fr.snoc X1064 N1063 ge_b1037
      refine Owe.iload X1064.here hx (hb hby at_181) rfl ?_
      refine Owe.iconst X1064.here hx (hb hby at_183) (w := (3 : Int32)) rfl ?_
      refine Owe.icmpNo X1064.here hx (hb hby at_184) rfl (tlt (by decide)).2.2.2 ?_
      refine Owe.aload X1064.here hx (hb hby at_187) rfl rfl ?_
      refine Owe.iconst X1064.here hx (hb hby at_189) (w := (3 : Int32)) rfl ?_
      refine Owe.aload X1064.here hx (hb hby at_190) rfl rfl ?_
      refine Owe.iconst X1064.here hx (hb hby at_192) (w := (3 : Int32)) rfl ?_
      refine Owe.iload X1064.here hx (hb hby at_193) rfl ?_
      refine Owe.iload X1064.here hx (hb hby at_195) rfl ?_
      refine Owe.iload X1064.here hx (hb hby at_197) rfl ?_
      refine Owe.iloadN X1064.here hx (hb hby at_199) rfl ?_
      refine Owe.stat X1064 hx (y := Y7) hownt (mvT hZt (wd hw 22)) (mvT hZt (wd hw 23)) (mvT hZt (wd hw 24)) (mvT hZt (wd hw 25)) (by decide) (backOf (W := 2) (rmat l Z a0 hw [] l4 t4 k4 cs (3 : Int32) ps c7 md p3 G1 fm h1064 n0 Z_1071 E4_1067 Fv4_1068 Fc4_1069 V4_1070 Tx4 S_COMPACT_STRINGS cs0 Ot_1066 S_SIOOBE_FORMATTER ir_fm (by decide) hcb) hZt (wd hw 25) (wd hw 24) (by decide) (by decide)) (by rw [hml]; rfl) (argsL := [(.ref l4), (.int (3 : Int32)), (.int ps), (.int c7), (.int md), (.int p3)]) (rest := [(.int (3 : Int32)), (.ref b1037)]) (lenOf pd_10 rfl) rfl (nb rfl) (hb hby at_200) rfl e1064 (by decide) (by decide) fun T1072 v1072 L1072 X1072 hQ1072 => ?_
      obtain ⟨cv_1072, rfl, Nq1072, e1072, hcv_1072⟩ := hQ1072
      have N1072 := Fr.app N1064 Nq1072
      refine Owe.castore X1072 hx hZt e1072 V1064 (x := cv_1072) 3 rfl (nb rfl) (by decide) (hb hby at_203) rfl fun T1073 h1073 X1073 e1073 W1073 (V1073 : Arv Z h1073 b1037 k1037 .char (11 : Int32) [(.int (nar .char cv_1045)), (.int (nar .char cv_1054)), (.int (nar .char cv_1063)), (.int (nar .char cv_1072)), (.int (0 : Int32)), (.int (0 : Int32)), (.int (0 : Int32)), (.int (0 : Int32)), (.int (0 : Int32)), (.int (0 : Int32)), (.int (0 : Int32))] (.int (0 : Int32))) => ?_
      have hk1074 := Nat.le_trans hk1065 (Keep.of_wr W1073).1
      have sf_b1037_1074 := Safe.wr W1073 sf_b1037_1065 H1065 sf_b1037_1065
      have Rr1074 := Rr1065.trans (CHr.wr W1073 sf_b1037_1065 H1065)
      have H1074 := CHv.wr W1073 sf_b1037_1065 H1065
      have Ot_1075 := Ot_1066.wr W1073 ge_b1037
      have E4_1076 := E4_1067.wr W1073
      have Fv4_1077 := Fv4_1068.other W1073 (Or.inl ne_l4_b1037)
      have Fc4_1078 := Fc4_1069.other W1073 (Or.inl ne_l4_b1037)
      have V4_1079 := V4_1070.other W1073 ne_t4_b1037
      have Z_1080 := Nat.le_trans Z_1071 (Keep.of_wr W1073).1
      have N1073 := Fr.snoc X1073 N1072 ge_b1037
      refine Owe.iload X1073.here hx (hb hby at_204) rfl ?_
      refine Owe.iconst X1073.here hx (hb hby at_206) (w := (4 : Int32)) rfl ?_
      refine Owe.icmpNo X1073.here hx (hb hby at_207) rfl (tlt (by decide)).2.2.2 ?_
      refine Owe.aload X1073.here hx (hb hby at_210) rfl rfl ?_
      refine Owe.iconst X1073.here hx (hb hby at_212) (w := (4 : Int32)) rfl ?_
      refine Owe.aload X1073.here hx (hb hby at_213) rfl rfl ?_
      refine Owe.iconst X1073.here hx (hb hby at_215) (w := (4 : Int32)) rfl ?_
      refine Owe.iload X1073.here hx (hb hby at_216) rfl ?_
      refine Owe.iload X1073.here hx (hb hby at_218) rfl ?_
      refine Owe.iload X1073.here hx (hb hby at_220) rfl ?_
      refine Owe.iloadN X1073.here hx (hb hby at_222) rfl ?_
      refine Owe.stat X1073 hx (y := Y7) hownt (mvT hZt (wd hw 22)) (mvT hZt (wd hw 23)) (mvT hZt (wd hw 24)) (mvT hZt (wd hw 25)) (by decide) (backOf (W := 2) (rmat l Z a0 hw [] l4 t4 k4 cs (4 : Int32) ps c7 md p3 G1 fm h1073 n0 Z_1080 E4_1076 Fv4_1077 Fc4_1078 V4_1079 Tx4 S_COMPACT_STRINGS cs0 Ot_1075 S_SIOOBE_FORMATTER ir_fm (by decide) hcb) hZt (wd hw 25) (wd hw 24) (by decide) (by decide)) (by rw [hml]; rfl) (argsL := [(.ref l4), (.int (4 : Int32)), (.int ps), (.int c7), (.int md), (.int p3)]) (rest := [(.int (4 : Int32)), (.ref b1037)]) (lenOf pd_10 rfl) rfl (nb rfl) (hb hby at_223) rfl e1073 (by decide) (by decide) fun T1081 v1081 L1081 X1081 hQ1081 => ?_
      obtain ⟨cv_1081, rfl, Nq1081, e1081, hcv_1081⟩ := hQ1081
      have N1081 := Fr.app N1073 Nq1081
      refine Owe.castore X1081 hx hZt e1081 V1073 (x := cv_1081) 4 rfl (nb rfl) (by decide) (hb hby at_226) rfl fun T1082 h1082 X1082 e1082 W1082 (V1082 : Arv Z h1082 b1037 k1037 .char (11 : Int32) [(.int (nar .char cv_1045)), (.int (nar .char cv_1054)), (.int (nar .char cv_1063)), (.int (nar .char cv_1072)), (.int (nar .char cv_1081)), (.int (0 : Int32)), (.int (0 : Int32)), (.int (0 : Int32)), (.int (0 : Int32)), (.int (0 : Int32)), (.int (0 : Int32))] (.int (0 : Int32))) => ?_
      have hk1083 := Nat.le_trans hk1074 (Keep.of_wr W1082).1
      have sf_b1037_1083 := Safe.wr W1082 sf_b1037_1074 H1074 sf_b1037_1074
      have Rr1083 := Rr1074.trans (CHr.wr W1082 sf_b1037_1074 H1074)
      have H1083 := CHv.wr W1082 sf_b1037_1074 H1074
      have Ot_1084 := Ot_1075.wr W1082 ge_b1037
      have E4_1085 := E4_1076.wr W1082
      have Fv4_1086 := Fv4_1077.other W1082 (Or.inl ne_l4_b1037)
      have Fc4_1087 := Fc4_1078.other W1082 (Or.inl ne_l4_b1037)
      have V4_1088 := V4_1079.other W1082 ne_t4_b1037
      have Z_1089 := Nat.le_trans Z_1080 (Keep.of_wr W1082).1
      have N1082 := Fr.snoc X1082 N1081 ge_b1037
      refine Owe.iload X1082.here hx (hb hby at_227) rfl ?_
      refine Owe.iconst X1082.here hx (hb hby at_229) (w := (5 : Int32)) rfl ?_
      refine Owe.icmpNo X1082.here hx (hb hby at_230) rfl (tlt (by decide)).2.2.2 ?_
      refine Owe.aload X1082.here hx (hb hby at_233) rfl rfl ?_
      refine Owe.iconst X1082.here hx (hb hby at_235) (w := (5 : Int32)) rfl ?_
      refine Owe.aload X1082.here hx (hb hby at_236) rfl rfl ?_
      refine Owe.iconst X1082.here hx (hb hby at_238) (w := (5 : Int32)) rfl ?_
      refine Owe.iload X1082.here hx (hb hby at_239) rfl ?_
      refine Owe.iload X1082.here hx (hb hby at_241) rfl ?_
      refine Owe.iload X1082.here hx (hb hby at_243) rfl ?_
      refine Owe.iloadN X1082.here hx (hb hby at_245) rfl ?_
      refine Owe.stat X1082 hx (y := Y7) hownt (mvT hZt (wd hw 22)) (mvT hZt (wd hw 23)) (mvT hZt (wd hw 24)) (mvT hZt (wd hw 25)) (by decide) (backOf (W := 2) (rmat l Z a0 hw [] l4 t4 k4 cs (5 : Int32) ps c7 md p3 G1 fm h1082 n0 Z_1089 E4_1085 Fv4_1086 Fc4_1087 V4_1088 Tx4 S_COMPACT_STRINGS cs0 Ot_1084 S_SIOOBE_FORMATTER ir_fm (by decide) hcb) hZt (wd hw 25) (wd hw 24) (by decide) (by decide)) (by rw [hml]; rfl) (argsL := [(.ref l4), (.int (5 : Int32)), (.int ps), (.int c7), (.int md), (.int p3)]) (rest := [(.int (5 : Int32)), (.ref b1037)]) (lenOf pd_10 rfl) rfl (nb rfl) (hb hby at_246) rfl e1082 (by decide) (by decide) fun T1090 v1090 L1090 X1090 hQ1090 => ?_
      obtain ⟨cv_1090, rfl, Nq1090, e1090, hcv_1090⟩ := hQ1090
      have N1090 := Fr.app N1082 Nq1090
      refine Owe.castore X1090 hx hZt e1090 V1082 (x := cv_1090) 5 rfl (nb rfl) (by decide) (hb hby at_249) rfl fun T1091 h1091 X1091 e1091 W1091 (V1091 : Arv Z h1091 b1037 k1037 .char (11 : Int32) [(.int (nar .char cv_1045)), (.int (nar .char cv_1054)), (.int (nar .char cv_1063)), (.int (nar .char cv_1072)), (.int (nar .char cv_1081)), (.int (nar .char cv_1090)), (.int (0 : Int32)), (.int (0 : Int32)), (.int (0 : Int32)), (.int (0 : Int32)), (.int (0 : Int32))] (.int (0 : Int32))) => ?_
      have hk1092 := Nat.le_trans hk1083 (Keep.of_wr W1091).1
      have sf_b1037_1092 := Safe.wr W1091 sf_b1037_1083 H1083 sf_b1037_1083
      have Rr1092 := Rr1083.trans (CHr.wr W1091 sf_b1037_1083 H1083)
      have H1092 := CHv.wr W1091 sf_b1037_1083 H1083
      have Ot_1093 := Ot_1084.wr W1091 ge_b1037
      have E4_1094 := E4_1085.wr W1091
      have Fv4_1095 := Fv4_1086.other W1091 (Or.inl ne_l4_b1037)
      have Fc4_1096 := Fc4_1087.other W1091 (Or.inl ne_l4_b1037)
      have V4_1097 := V4_1088.other W1091 ne_t4_b1037
      have Z_1098 := Nat.le_trans Z_1089 (Keep.of_wr W1091).1
      have N1091 := Fr.snoc X1091 N1090 ge_b1037
      refine Owe.iload X1091.here hx (hb hby at_250) rfl ?_
      refine Owe.bipush X1091.here hx (hb hby at_252) (w := (6 : Int32)) rfl ?_
      refine Owe.icmpNo X1091.here hx (hb hby at_254) rfl (tlt (by decide)).2.2.2 ?_
      refine Owe.aload X1091.here hx (hb hby at_257) rfl rfl ?_
      refine Owe.bipush X1091.here hx (hb hby at_259) (w := (6 : Int32)) rfl ?_
      refine Owe.aload X1091.here hx (hb hby at_261) rfl rfl ?_
      refine Owe.bipush X1091.here hx (hb hby at_263) (w := (6 : Int32)) rfl ?_
      refine Owe.iload X1091.here hx (hb hby at_265) rfl ?_
      refine Owe.iload X1091.here hx (hb hby at_267) rfl ?_
      refine Owe.iload X1091.here hx (hb hby at_269) rfl ?_
      refine Owe.iloadN X1091.here hx (hb hby at_271) rfl ?_
      refine Owe.stat X1091 hx (y := Y7) hownt (mvT hZt (wd hw 22)) (mvT hZt (wd hw 23)) (mvT hZt (wd hw 24)) (mvT hZt (wd hw 25)) (by decide) (backOf (W := 2) (rmat l Z a0 hw [] l4 t4 k4 cs (6 : Int32) ps c7 md p3 G1 fm h1091 n0 Z_1098 E4_1094 Fv4_1095 Fc4_1096 V4_1097 Tx4 S_COMPACT_STRINGS cs0 Ot_1093 S_SIOOBE_FORMATTER ir_fm (by decide) hcb) hZt (wd hw 25) (wd hw 24) (by decide) (by decide)) (by rw [hml]; rfl) (argsL := [(.ref l4), (.int (6 : Int32)), (.int ps), (.int c7), (.int md), (.int p3)]) (rest := [(.int (6 : Int32)), (.ref b1037)]) (lenOf pd_10 rfl) rfl (nb rfl) (hb hby at_272) rfl e1091 (by decide) (by decide) fun T1099 v1099 L1099 X1099 hQ1099 => ?_
      obtain ⟨cv_1099, rfl, Nq1099, e1099, hcv_1099⟩ := hQ1099
      have N1099 := Fr.app N1091 Nq1099
      refine Owe.castore X1099 hx hZt e1099 V1091 (x := cv_1099) 6 rfl (nb rfl) (by decide) (hb hby at_275) rfl fun T1100 h1100 X1100 e1100 W1100 (V1100 : Arv Z h1100 b1037 k1037 .char (11 : Int32) [(.int (nar .char cv_1045)), (.int (nar .char cv_1054)), (.int (nar .char cv_1063)), (.int (nar .char cv_1072)), (.int (nar .char cv_1081)), (.int (nar .char cv_1090)), (.int (nar .char cv_1099)), (.int (0 : Int32)), (.int (0 : Int32)), (.int (0 : Int32)), (.int (0 : Int32))] (.int (0 : Int32))) => ?_
      have hk1101 := Nat.le_trans hk1092 (Keep.of_wr W1100).1
      have sf_b1037_1101 := Safe.wr W1100 sf_b1037_1092 H1092 sf_b1037_1092
      have Rr1101 := Rr1092.trans (CHr.wr W1100 sf_b1037_1092 H1092)
      have H1101 := CHv.wr W1100 sf_b1037_1092 H1092
      have Ot_1102 := Ot_1093.wr W1100 ge_b1037
      have E4_1103 := E4_1094.wr W1100
      have Fv4_1104 := Fv4_1095.other W1100 (Or.inl ne_l4_b1037)
      have Fc4_1105 := Fc4_1096.other W1100 (Or.inl ne_l4_b1037)
      have V4_1106 := V4_1097.other W1100 ne_t4_b1037
      have Z_1107 := Nat.le_trans Z_1098 (Keep.of_wr W1100).1
      have N1100 := Fr.snoc X1100 N1099 ge_b1037
      refine Owe.iload X1100.here hx (hb hby at_276) rfl ?_
      refine Owe.bipush X1100.here hx (hb hby at_278) (w := (7 : Int32)) rfl ?_
      refine Owe.icmpNo X1100.here hx (hb hby at_280) rfl (tlt (by decide)).2.2.2 ?_
      refine Owe.aload X1100.here hx (hb hby at_283) rfl rfl ?_
      refine Owe.bipush X1100.here hx (hb hby at_285) (w := (7 : Int32)) rfl ?_
      refine Owe.aload X1100.here hx (hb hby at_287) rfl rfl ?_
      refine Owe.bipush X1100.here hx (hb hby at_289) (w := (7 : Int32)) rfl ?_
      refine Owe.iload X1100.here hx (hb hby at_291) rfl ?_
      refine Owe.iload X1100.here hx (hb hby at_293) rfl ?_
      refine Owe.iload X1100.here hx (hb hby at_295) rfl ?_
      refine Owe.iloadN X1100.here hx (hb hby at_297) rfl ?_
      refine Owe.stat X1100 hx (y := Y7) hownt (mvT hZt (wd hw 22)) (mvT hZt (wd hw 23)) (mvT hZt (wd hw 24)) (mvT hZt (wd hw 25)) (by decide) (backOf (W := 2) (rmat l Z a0 hw [] l4 t4 k4 cs (7 : Int32) ps c7 md p3 G1 fm h1100 n0 Z_1107 E4_1103 Fv4_1104 Fc4_1105 V4_1106 Tx4 S_COMPACT_STRINGS cs0 Ot_1102 S_SIOOBE_FORMATTER ir_fm (by decide) hcb) hZt (wd hw 25) (wd hw 24) (by decide) (by decide)) (by rw [hml]; rfl) (argsL := [(.ref l4), (.int (7 : Int32)), (.int ps), (.int c7), (.int md), (.int p3)]) (rest := [(.int (7 : Int32)), (.ref b1037)]) (lenOf pd_10 rfl) rfl (nb rfl) (hb hby at_298) rfl e1100 (by decide) (by decide) fun T1108 v1108 L1108 X1108 hQ1108 => ?_
      obtain ⟨cv_1108, rfl, Nq1108, e1108, hcv_1108⟩ := hQ1108
      have N1108 := Fr.app N1100 Nq1108
      refine Owe.castore X1108 hx hZt e1108 V1100 (x := cv_1108) 7 rfl (nb rfl) (by decide) (hb hby at_301) rfl fun T1109 h1109 X1109 e1109 W1109 (V1109 : Arv Z h1109 b1037 k1037 .char (11 : Int32) [(.int (nar .char cv_1045)), (.int (nar .char cv_1054)), (.int (nar .char cv_1063)), (.int (nar .char cv_1072)), (.int (nar .char cv_1081)), (.int (nar .char cv_1090)), (.int (nar .char cv_1099)), (.int (nar .char cv_1108)), (.int (0 : Int32)), (.int (0 : Int32)), (.int (0 : Int32))] (.int (0 : Int32))) => ?_
      have hk1110 := Nat.le_trans hk1101 (Keep.of_wr W1109).1
      have sf_b1037_1110 := Safe.wr W1109 sf_b1037_1101 H1101 sf_b1037_1101
      have Rr1110 := Rr1101.trans (CHr.wr W1109 sf_b1037_1101 H1101)
      have H1110 := CHv.wr W1109 sf_b1037_1101 H1101
      have Ot_1111 := Ot_1102.wr W1109 ge_b1037
      have E4_1112 := E4_1103.wr W1109
      have Fv4_1113 := Fv4_1104.other W1109 (Or.inl ne_l4_b1037)
      have Fc4_1114 := Fc4_1105.other W1109 (Or.inl ne_l4_b1037)
      have V4_1115 := V4_1106.other W1109 ne_t4_b1037
      have Z_1116 := Nat.le_trans Z_1107 (Keep.of_wr W1109).1
      have N1109 := Fr.snoc X1109 N1108 ge_b1037
      refine Owe.iload X1109.here hx (hb hby at_302) rfl ?_
      refine Owe.bipush X1109.here hx (hb hby at_304) (w := (8 : Int32)) rfl ?_
      refine Owe.icmpNo X1109.here hx (hb hby at_306) rfl (tlt (by decide)).2.2.2 ?_
      refine Owe.aload X1109.here hx (hb hby at_309) rfl rfl ?_
      refine Owe.bipush X1109.here hx (hb hby at_311) (w := (8 : Int32)) rfl ?_
      refine Owe.aload X1109.here hx (hb hby at_313) rfl rfl ?_
      refine Owe.bipush X1109.here hx (hb hby at_315) (w := (8 : Int32)) rfl ?_
      refine Owe.iload X1109.here hx (hb hby at_317) rfl ?_
      refine Owe.iload X1109.here hx (hb hby at_319) rfl ?_
      refine Owe.iload X1109.here hx (hb hby at_321) rfl ?_
      refine Owe.iloadN X1109.here hx (hb hby at_323) rfl ?_
      refine Owe.stat X1109 hx (y := Y7) hownt (mvT hZt (wd hw 22)) (mvT hZt (wd hw 23)) (mvT hZt (wd hw 24)) (mvT hZt (wd hw 25)) (by decide) (backOf (W := 2) (rmat l Z a0 hw [] l4 t4 k4 cs (8 : Int32) ps c7 md p3 G1 fm h1109 n0 Z_1116 E4_1112 Fv4_1113 Fc4_1114 V4_1115 Tx4 S_COMPACT_STRINGS cs0 Ot_1111 S_SIOOBE_FORMATTER ir_fm (by decide) hcb) hZt (wd hw 25) (wd hw 24) (by decide) (by decide)) (by rw [hml]; rfl) (argsL := [(.ref l4), (.int (8 : Int32)), (.int ps), (.int c7), (.int md), (.int p3)]) (rest := [(.int (8 : Int32)), (.ref b1037)]) (lenOf pd_10 rfl) rfl (nb rfl) (hb hby at_324) rfl e1109 (by decide) (by decide) fun T1117 v1117 L1117 X1117 hQ1117 => ?_
      obtain ⟨cv_1117, rfl, Nq1117, e1117, hcv_1117⟩ := hQ1117
      have N1117 := Fr.app N1109 Nq1117
      refine Owe.castore X1117 hx hZt e1117 V1109 (x := cv_1117) 8 rfl (nb rfl) (by decide) (hb hby at_327) rfl fun T1118 h1118 X1118 e1118 W1118 (V1118 : Arv Z h1118 b1037 k1037 .char (11 : Int32) [(.int (nar .char cv_1045)), (.int (nar .char cv_1054)), (.int (nar .char cv_1063)), (.int (nar .char cv_1072)), (.int (nar .char cv_1081)), (.int (nar .char cv_1090)), (.int (nar .char cv_1099)), (.int (nar .char cv_1108)), (.int (nar .char cv_1117)), (.int (0 : Int32)), (.int (0 : Int32))] (.int (0 : Int32))) => ?_
      have hk1119 := Nat.le_trans hk1110 (Keep.of_wr W1118).1
      have sf_b1037_1119 := Safe.wr W1118 sf_b1037_1110 H1110 sf_b1037_1110
      have Rr1119 := Rr1110.trans (CHr.wr W1118 sf_b1037_1110 H1110)
      have H1119 := CHv.wr W1118 sf_b1037_1110 H1110
      have Ot_1120 := Ot_1111.wr W1118 ge_b1037
      have E4_1121 := E4_1112.wr W1118
      have Fv4_1122 := Fv4_1113.other W1118 (Or.inl ne_l4_b1037)
      have Fc4_1123 := Fc4_1114.other W1118 (Or.inl ne_l4_b1037)
      have V4_1124 := V4_1115.other W1118 ne_t4_b1037
      have Z_1125 := Nat.le_trans Z_1116 (Keep.of_wr W1118).1
      have N1118 := Fr.snoc X1118 N1117 ge_b1037
      refine Owe.iload X1118.here hx (hb hby at_328) rfl ?_
      refine Owe.bipush X1118.here hx (hb hby at_330) (w := (9 : Int32)) rfl ?_
      refine Owe.icmpNo X1118.here hx (hb hby at_332) rfl (tlt (by decide)).2.2.2 ?_
      refine Owe.aload X1118.here hx (hb hby at_335) rfl rfl ?_
      refine Owe.bipush X1118.here hx (hb hby at_337) (w := (9 : Int32)) rfl ?_
      refine Owe.aload X1118.here hx (hb hby at_339) rfl rfl ?_
      refine Owe.bipush X1118.here hx (hb hby at_341) (w := (9 : Int32)) rfl ?_
      refine Owe.iload X1118.here hx (hb hby at_343) rfl ?_
      refine Owe.iload X1118.here hx (hb hby at_345) rfl ?_
      refine Owe.iload X1118.here hx (hb hby at_347) rfl ?_
      refine Owe.iloadN X1118.here hx (hb hby at_349) rfl ?_
      refine Owe.stat X1118 hx (y := Y7) hownt (mvT hZt (wd hw 22)) (mvT hZt (wd hw 23)) (mvT hZt (wd hw 24)) (mvT hZt (wd hw 25)) (by decide) (backOf (W := 2) (rmat l Z a0 hw [] l4 t4 k4 cs (9 : Int32) ps c7 md p3 G1 fm h1118 n0 Z_1125 E4_1121 Fv4_1122 Fc4_1123 V4_1124 Tx4 S_COMPACT_STRINGS cs0 Ot_1120 S_SIOOBE_FORMATTER ir_fm (by decide) hcb) hZt (wd hw 25) (wd hw 24) (by decide) (by decide)) (by rw [hml]; rfl) (argsL := [(.ref l4), (.int (9 : Int32)), (.int ps), (.int c7), (.int md), (.int p3)]) (rest := [(.int (9 : Int32)), (.ref b1037)]) (lenOf pd_10 rfl) rfl (nb rfl) (hb hby at_350) rfl e1118 (by decide) (by decide) fun T1126 v1126 L1126 X1126 hQ1126 => ?_
      obtain ⟨cv_1126, rfl, Nq1126, e1126, hcv_1126⟩ := hQ1126
      have N1126 := Fr.app N1118 Nq1126
      refine Owe.castore X1126 hx hZt e1126 V1118 (x := cv_1126) 9 rfl (nb rfl) (by decide) (hb hby at_353) rfl fun T1127 h1127 X1127 e1127 W1127 (V1127 : Arv Z h1127 b1037 k1037 .char (11 : Int32) [(.int (nar .char cv_1045)), (.int (nar .char cv_1054)), (.int (nar .char cv_1063)), (.int (nar .char cv_1072)), (.int (nar .char cv_1081)), (.int (nar .char cv_1090)), (.int (nar .char cv_1099)), (.int (nar .char cv_1108)), (.int (nar .char cv_1117)), (.int (nar .char cv_1126)), (.int (0 : Int32))] (.int (0 : Int32))) => ?_
      have hk1128 := Nat.le_trans hk1119 (Keep.of_wr W1127).1
      have sf_b1037_1128 := Safe.wr W1127 sf_b1037_1119 H1119 sf_b1037_1119
      have Rr1128 := Rr1119.trans (CHr.wr W1127 sf_b1037_1119 H1119)
      have H1128 := CHv.wr W1127 sf_b1037_1119 H1119
      have Ot_1129 := Ot_1120.wr W1127 ge_b1037
      have E4_1130 := E4_1121.wr W1127
      have Fv4_1131 := Fv4_1122.other W1127 (Or.inl ne_l4_b1037)
      have Fc4_1132 := Fc4_1123.other W1127 (Or.inl ne_l4_b1037)
      have V4_1133 := V4_1124.other W1127 ne_t4_b1037
      have Z_1134 := Nat.le_trans Z_1125 (Keep.of_wr W1127).1
      have N1127 := Fr.snoc X1127 N1126 ge_b1037
      refine Owe.iload X1127.here hx (hb hby at_354) rfl ?_
      refine Owe.bipush X1127.here hx (hb hby at_356) (w := (10 : Int32)) rfl ?_
      refine Owe.icmpNo X1127.here hx (hb hby at_358) rfl (tlt (by decide)).2.2.2 ?_
      refine Owe.aload X1127.here hx (hb hby at_361) rfl rfl ?_
      refine Owe.bipush X1127.here hx (hb hby at_363) (w := (10 : Int32)) rfl ?_
      refine Owe.aload X1127.here hx (hb hby at_365) rfl rfl ?_
      refine Owe.bipush X1127.here hx (hb hby at_367) (w := (10 : Int32)) rfl ?_
      refine Owe.iload X1127.here hx (hb hby at_369) rfl ?_
      refine Owe.iload X1127.here hx (hb hby at_371) rfl ?_
      refine Owe.iload X1127.here hx (hb hby at_373) rfl ?_
      refine Owe.iloadN X1127.here hx (hb hby at_375) rfl ?_
      refine Owe.stat X1127 hx (y := Y7) hownt (mvT hZt (wd hw 22)) (mvT hZt (wd hw 23)) (mvT hZt (wd hw 24)) (mvT hZt (wd hw 25)) (by decide) (backOf (W := 2) (rmat l Z a0 hw [] l4 t4 k4 cs (10 : Int32) ps c7 md p3 G1 fm h1127 n0 Z_1134 E4_1130 Fv4_1131 Fc4_1132 V4_1133 Tx4 S_COMPACT_STRINGS cs0 Ot_1129 S_SIOOBE_FORMATTER ir_fm (by decide) hcb) hZt (wd hw 25) (wd hw 24) (by decide) (by decide)) (by rw [hml]; rfl) (argsL := [(.ref l4), (.int (10 : Int32)), (.int ps), (.int c7), (.int md), (.int p3)]) (rest := [(.int (10 : Int32)), (.ref b1037)]) (lenOf pd_10 rfl) rfl (nb rfl) (hb hby at_376) rfl e1127 (by decide) (by decide) fun T1135 v1135 L1135 X1135 hQ1135 => ?_
      obtain ⟨cv_1135, rfl, Nq1135, e1135, hcv_1135⟩ := hQ1135
      have N1135 := Fr.app N1127 Nq1135
      refine Owe.castore X1135 hx hZt e1135 V1127 (x := cv_1135) 10 rfl (nb rfl) (by decide) (hb hby at_379) rfl fun T1136 h1136 X1136 e1136 W1136 (V1136 : Arv Z h1136 b1037 k1037 .char (11 : Int32) [(.int (nar .char cv_1045)), (.int (nar .char cv_1054)), (.int (nar .char cv_1063)), (.int (nar .char cv_1072)), (.int (nar .char cv_1081)), (.int (nar .char cv_1090)), (.int (nar .char cv_1099)), (.int (nar .char cv_1108)), (.int (nar .char cv_1117)), (.int (nar .char cv_1126)), (.int (nar .char cv_1135))] (.int (0 : Int32))) => ?_
      have hk1137 := Nat.le_trans hk1128 (Keep.of_wr W1136).1
      have sf_b1037_1137 := Safe.wr W1136 sf_b1037_1128 H1128 sf_b1037_1128
      have Rr1137 := Rr1128.trans (CHr.wr W1136 sf_b1037_1128 H1128)
      have H1137 := CHv.wr W1136 sf_b1037_1128 H1128
      have Ot_1138 := Ot_1129.wr W1136 ge_b1037
      have E4_1139 := E4_1130.wr W1136
      have Fv4_1140 := Fv4_1131.other W1136 (Or.inl ne_l4_b1037)
      have Fc4_1141 := Fc4_1132.other W1136 (Or.inl ne_l4_b1037)
      have V4_1142 := V4_1133.other W1136 ne_t4_b1037
      have Z_1143 := Nat.le_trans Z_1134 (Keep.of_wr W1136).1
      have N1136 := Fr.snoc X1136 N1135 ge_b1037
      refine Owe.iload X1136.here hx (hb hby at_380) rfl ?_
      refine Owe.bipush X1136.here hx (hb hby at_382) (w := (11 : Int32)) rfl ?_
      refine Owe.icmpYes X1136.here hx (hb hby at_384) rfl (flt (by decide)).2.2.2 (pc' := 406) (by decide) (by decide) ?_
      refine Owe.new X1136 hx hZt hownt (wd hw 48) (wd hw 2) (wd hw 1) e1136 (hb hby at_406) (by decide) (by decide) fun T1144 h1144 b1144 g1144 X1144 e1144 E1144 A1144 D1144 => ?_
      have ne_l4_b1144 : l4 ≠ b1144 := Nat.ne_of_lt (Nat.lt_of_lt_of_le E4_1139.lt (Nat.le_of_eq g1144.symm))
      have ne_t4_b1144 : t4 ≠ b1144 := Nat.ne_of_lt (Nat.lt_of_lt_of_le V4_1142.lt (Nat.le_of_eq g1144.symm))
      have ne_b1037_b1144 : b1037 ≠ b1144 := Nat.ne_of_lt (Nat.lt_of_lt_of_le V1136.lt (Nat.le_of_eq g1144.symm))
      have sf_b1144 := (Safe.new (Nat.le_of_eq g1144.symm) : Safe Z own_EL vmt h1136 b1144)
      have ge_b1144 := Nat.le_trans Z_1143 (Nat.le_of_eq g1144.symm)
      have hk1145 := Nat.le_trans hk1137 E1144.1
      have sf_b1037_1145 := Safe.ext E1144 H1137 sf_b1037_1137
      have sf_b1144_1145 := Safe.ext E1144 H1137 sf_b1144
      have Rr1145 := Rr1137.trans (CHr.ext E1144 H1137)
      have H1145 := CHv.ext E1144 H1137
      have Ot_1146 := Ot_1138.ext E1144
      have E4_1147 := E4_1139.ext E1144
      have Fv4_1148 := Fv4_1140.ext E1144
      have Fc4_1149 := Fc4_1141.ext E1144
      have V4_1150 := V4_1142.ext E1144
      have V1136_1151 := V1136.ext E1144
      have Z_1152 := Nat.le_trans Z_1143 E1144.1
      have Fvalue_b1144 : Fld Z h1144 b1144 "java/lang/String" "value" "[B" .null := D1144 (Or.inr (wd hw 4)) (ty := (.array .byte)) (by decide)
      have Fcoder_b1144 : Fld Z h1144 b1144 "java/lang/String" "coder" "B" (.int (0 : Int32)) := D1144 (Or.inr (wd hw 5)) (ty := .byte) (by decide)
      refine Owe.dup X1144.here hx (hb hby at_409) rfl rfl ?_
      refine Owe.aload X1144.here hx (hb hby at_410) rfl rfl ?_
      have hp1153 : ∀ c ∈ ([(nar .char cv_1045), (nar .char cv_1054), (nar .char cv_1063), (nar .char cv_1072), (nar .char cv_1081), (nar .char cv_1090), (nar .char cv_1099), (nar .char cv_1108), (nar .char cv_1117), (nar .char cv_1126), (nar .char cv_1135)] : List Int32), ¬ c < 0 ∧ ¬ (255 : Int32) < c := by
        intro c hc
        simp only [List.mem_cons, List.not_mem_nil, or_false] at hc
        rcases hc with rfl | rfl | rfl | rfl | rfl | rfl | rfl | rfl | rfl | rfl | rfl
        · exact (own_nar2 hcv_1045)
        · exact (own_nar2 hcv_1054)
        · exact (own_nar2 hcv_1063)
        · exact (own_nar2 hcv_1072)
        · exact (own_nar2 hcv_1081)
        · exact (own_nar2 hcv_1090)
        · exact (own_nar2 hcv_1099)
        · exact (own_nar2 hcv_1108)
        · exact (own_nar2 hcv_1117)
        · exact (own_nar2 hcv_1126)
        · exact (own_nar2 hcv_1135)
      refine Owe.special X1144 hx (y := Y1) rfl hownt (mvT hZt (wd hw 49)) (mvT hZt (wd hw 50)) (mvT hZt (wd hw 51)) (by decide) (StrChars.Road.backV (W := 1) hZt hws (kI := 4) (wd hw 2) (cs := ([(nar .char cv_1045), (nar .char cv_1054), (nar .char cv_1063), (nar .char cv_1072), (nar .char cv_1081), (nar .char cv_1090), (nar .char cv_1099), (nar .char cv_1108), (nar .char cv_1117), (nar .char cv_1126), (nar .char cv_1135)] : List Int32)) (bs := ([(nar .char cv_1045), (nar .char cv_1054), (nar .char cv_1063), (nar .char cv_1072), (nar .char cv_1081), (nar .char cv_1090), (nar .char cv_1099), (nar .char cv_1108), (nar .char cv_1117), (nar .char cv_1126), (nar .char cv_1135)] : List Int32).map (fun c => c.toInt8.toInt32)) (n := 11) ge_b1144 Z_1152 A1144 Fvalue_b1144 Fcoder_b1144 V1136_1151 (S_COMPACT_STRINGS.ext Ot_1146.2) cs0 rfl rfl (by decide) (by decide) hp1153 rfl (by decide) (by decide)) (by rw [hml]; rfl) (a := b1144) (argsL := [(.ref b1037)]) (rest := [(.ref b1144)]) (lenOf pd_9 rfl) rfl (nb rfl) (hb hby at_412) rfl e1144 (by decide) (by decide) fun T1154 v1154 L1154 X1154 hQ1154 => ?_
      obtain ⟨rfl, Nq1154, K1154, Ex1154, Fc1154, t1154, kb1154, gt1154, ft1154, nt1154, Fv1154, Vt1154⟩ := hQ1154
      have N1154 := Fr.app N1136 Nq1154
      have ne_l4_t1154 : l4 ≠ t1154 := Nat.ne_of_lt (Nat.lt_of_lt_of_le E4_1147.lt ft1154)
      have ne_t4_t1154 : t4 ≠ t1154 := Nat.ne_of_lt (Nat.lt_of_lt_of_le V4_1150.lt ft1154)
      have ne_b1037_t1154 : b1037 ≠ t1154 := Nat.ne_of_lt (Nat.lt_of_lt_of_le V1136_1151.lt ft1154)
      have ne_b1144_t1154 : b1144 ≠ t1154 := Nat.ne_of_lt (Nat.lt_of_lt_of_le A1144.lt ft1154)
      have hk1155 := Nat.le_trans hk1145 K1154.1
      have sf_b1037_1155 := Safe.keep K1154 (sfS sf_b1144_1145 sf0) H1145 sf_b1037_1145
      have sf_b1144_1155 := Safe.keep K1154 (sfS sf_b1144_1145 sf0) H1145 sf_b1144_1145
      have Rr1155 := Rr1145.trans (CHr.keep K1154 (sfS sf_b1144_1145 sf0) H1145)
      have H1155 := CHv.keep K1154 (sfS sf_b1144_1145 sf0) H1145
      have Ot_1156 := Ot_1146.keep K1154 (allS ge_b1144 all0)
      have E4_1157 := E4_1147.keep K1154
      have Fv4_1158 := Fv4_1148.keep K1154 (ninS ne_l4_b1144 nin0)
      have Fc4_1159 := Fc4_1149.keep K1154 (ninS ne_l4_b1144 nin0)
      have V4_1160 := V4_1150.keep K1154 (ninS ne_t4_b1144 nin0)
      have V1136_1161 := V1136_1151.keep K1154 (ninS ne_b1037_b1144 nin0)
      have A1144_1162 := A1144.keep K1154
      have Z_1163 := Nat.le_trans Z_1152 K1154.1
      have Tx1154 : (∀ c ∈ ([(nar .char cv_1045), (nar .char cv_1054), (nar .char cv_1063), (nar .char cv_1072), (nar .char cv_1081), (nar .char cv_1090), (nar .char cv_1099), (nar .char cv_1108), (nar .char cv_1117), (nar .char cv_1126), (nar .char cv_1135)] : List Int32), ¬ c < 0 ∧ ¬ (255 : Int32) < c) ∧ ([(nar .char cv_1045), (nar .char cv_1054), (nar .char cv_1063), (nar .char cv_1072), (nar .char cv_1081), (nar .char cv_1090), (nar .char cv_1099), (nar .char cv_1108), (nar .char cv_1117), (nar .char cv_1126), (nar .char cv_1135)] : List Int32).length ≤ 4000 := ⟨hp1153, Nat.le_of_ble_eq_true rfl⟩
      refine Owe.astore X1154.here hx (hb hby at_415) rfl rfl (l' := #[.val (.int p1), .val (.int p2), .val (.int p3), .val (.int p4), .val (.ref l4), .val (.int md), .val (.int l6), .val (.int c7), .val (.int ps), .val (.int (11 : Int32)), .val (.ref b1144), .val (.ref b1037)]) rfl ?_
      exact cut417 _ _ _ _ _ _ _ _ _ _ _ _ _ _ _ _ (X1154.mono (by decide) (by decide)) rfl hSt hk1155 hZt hownt N1154 Z_1163 Ot_1156 H1155 Rr1155 Ex1154 Fv1154 Fc1154 Vt1154 Tx1154
    · skip
      refine Owe.iload Xt.here hx (hb hby at_107) rfl ?_
      refine Owe.newarr Xt hx hZt (aty := .char) (wd hw 21) et (hb hby at_109) rfl (by decide) (cap := 12) (by decide) (by decide) (by decide) (by decide) fun T1164 h1164 b1164 k1164 g1164 X1164 e1164 E1164 V1164 => ?_
      have ne_l4_b1164 : l4 ≠ b1164 := Nat.ne_of_lt (Nat.lt_of_lt_of_le E4.lt (Nat.le_of_eq g1164.symm))
      have ne_t4_b1164 : t4 ≠ b1164 := Nat.ne_of_lt (Nat.lt_of_lt_of_le V4.lt (Nat.le_of_eq g1164.symm))
      have sf_b1164 := (Safe.new (Nat.le_of_eq g1164.symm) : Safe Z own_EL vmt ht b1164)
      have ge_b1164 := Nat.le_trans Zt (Nat.le_of_eq g1164.symm)
      have hk1165 := Nat.le_trans hkt E1164.1
      have sf_b1164_1165 := Safe.ext E1164 Ht sf_b1164
      have Rr1165 := Rt.trans (CHr.ext E1164 Ht)
      have H1165 := CHv.ext E1164 Ht
      have Ot_1166 := Ot.ext E1164
      have E4_1167 := E4.ext E1164
      have Fv4_1168 := Fv4.ext E1164
      have Fc4_1169 := Fc4.ext E1164
      have V4_1170 := V4.ext E1164
      have Z_1171 := Nat.le_trans Zt E1164.1
      have V_b1164_1164 : Arv Z h1164 b1164 k1164 .char (12 : Int32) [(.int (0 : Int32)), (.int (0 : Int32)), (.int (0 : Int32)), (.int (0 : Int32)), (.int (0 : Int32)), (.int (0 : Int32)), (.int (0 : Int32)), (.int (0 : Int32)), (.int (0 : Int32)), (.int (0 : Int32)), (.int (0 : Int32)), (.int (0 : Int32))] (.int (0 : Int32)) := V1164.pad (pad_rep [] (.int (0 : Int32)) 12)
      refine Owe.astore X1164.here hx (hb hby at_111) rfl rfl (l' := #[.val (.int p1), .val (.int p2), .val (.int p3), .val (.int p4), .val (.ref l4), .val (.int md), .val (.int l6), .val (.int c7), .val (.int ps), .val (.int (12 : Int32)), .val .null, .val (.ref b1164)]) rfl ?_
      refine Owe.iload X1164.here hx (hb hby at_113) rfl ?_
      refine Owe.ifNo X1164.here hx (hb hby at_115) rfl ((if0 _ _).trans (tlt (by decide)).2.2.2) ?_
      refine Owe.aload X1164.here hx (hb hby at_118) rfl rfl ?_
      refine Owe.iconst X1164.here hx (hb hby at_120) (w := (0 : Int32)) rfl ?_
      refine Owe.aload X1164.here hx (hb hby at_121) rfl rfl ?_
      refine Owe.iconst X1164.here hx (hb hby at_123) (w := (0 : Int32)) rfl ?_
      refine Owe.iload X1164.here hx (hb hby at_124) rfl ?_
      refine Owe.iload X1164.here hx (hb hby at_126) rfl ?_
      refine Owe.iload X1164.here hx (hb hby at_128) rfl ?_
      refine Owe.iloadN X1164.here hx (hb hby at_130) rfl ?_
      refine Owe.stat X1164 hx (y := Y7) hownt (mvT hZt (wd hw 22)) (mvT hZt (wd hw 23)) (mvT hZt (wd hw 24)) (mvT hZt (wd hw 25)) (by decide) (backOf (W := 2) (rmat l Z a0 hw [] l4 t4 k4 cs (0 : Int32) ps c7 md p3 G1 fm h1164 n0 Z_1171 E4_1167 Fv4_1168 Fc4_1169 V4_1170 Tx4 S_COMPACT_STRINGS cs0 Ot_1166 S_SIOOBE_FORMATTER ir_fm (by decide) hcb) hZt (wd hw 25) (wd hw 24) (by decide) (by decide)) (by rw [hml]; rfl) (argsL := [(.ref l4), (.int (0 : Int32)), (.int ps), (.int c7), (.int md), (.int p3)]) (rest := [(.int (0 : Int32)), (.ref b1164)]) (lenOf pd_10 rfl) rfl (nb rfl) (hb hby at_131) rfl e1164 (by decide) (by decide) fun T1172 v1172 L1172 X1172 hQ1172 => ?_
      obtain ⟨cv_1172, rfl, Nq1172, e1172, hcv_1172⟩ := hQ1172
      have N1172 := Fr.app Nt Nq1172
      refine Owe.castore X1172 hx hZt e1172 V_b1164_1164 (x := cv_1172) 0 rfl (nb rfl) (by decide) (hb hby at_134) rfl fun T1173 h1173 X1173 e1173 W1173 (V1173 : Arv Z h1173 b1164 k1164 .char (12 : Int32) [(.int (nar .char cv_1172)), (.int (0 : Int32)), (.int (0 : Int32)), (.int (0 : Int32)), (.int (0 : Int32)), (.int (0 : Int32)), (.int (0 : Int32)), (.int (0 : Int32)), (.int (0 : Int32)), (.int (0 : Int32)), (.int (0 : Int32)), (.int (0 : Int32))] (.int (0 : Int32))) => ?_
      have hk1174 := Nat.le_trans hk1165 (Keep.of_wr W1173).1
      have sf_b1164_1174 := Safe.wr W1173 sf_b1164_1165 H1165 sf_b1164_1165
      have Rr1174 := Rr1165.trans (CHr.wr W1173 sf_b1164_1165 H1165)
      have H1174 := CHv.wr W1173 sf_b1164_1165 H1165
      have Ot_1175 := Ot_1166.wr W1173 ge_b1164
      have E4_1176 := E4_1167.wr W1173
      have Fv4_1177 := Fv4_1168.other W1173 (Or.inl ne_l4_b1164)
      have Fc4_1178 := Fc4_1169.other W1173 (Or.inl ne_l4_b1164)
      have V4_1179 := V4_1170.other W1173 ne_t4_b1164
      have Z_1180 := Nat.le_trans Z_1171 (Keep.of_wr W1173).1
      have N1173 := Fr.snoc X1173 N1172 ge_b1164
      refine Owe.iload X1173.here hx (hb hby at_135) rfl ?_
      refine Owe.iconst X1173.here hx (hb hby at_137) (w := (1 : Int32)) rfl ?_
      refine Owe.icmpNo X1173.here hx (hb hby at_138) rfl (tlt (by decide)).2.2.2 ?_
      refine Owe.aload X1173.here hx (hb hby at_141) rfl rfl ?_
      refine Owe.iconst X1173.here hx (hb hby at_143) (w := (1 : Int32)) rfl ?_
      refine Owe.aload X1173.here hx (hb hby at_144) rfl rfl ?_
      refine Owe.iconst X1173.here hx (hb hby at_146) (w := (1 : Int32)) rfl ?_
      refine Owe.iload X1173.here hx (hb hby at_147) rfl ?_
      refine Owe.iload X1173.here hx (hb hby at_149) rfl ?_
      refine Owe.iload X1173.here hx (hb hby at_151) rfl ?_
      refine Owe.iloadN X1173.here hx (hb hby at_153) rfl ?_
      refine Owe.stat X1173 hx (y := Y7) hownt (mvT hZt (wd hw 22)) (mvT hZt (wd hw 23)) (mvT hZt (wd hw 24)) (mvT hZt (wd hw 25)) (by decide) (backOf (W := 2) (rmat l Z a0 hw [] l4 t4 k4 cs (1 : Int32) ps c7 md p3 G1 fm h1173 n0 Z_1180 E4_1176 Fv4_1177 Fc4_1178 V4_1179 Tx4 S_COMPACT_STRINGS cs0 Ot_1175 S_SIOOBE_FORMATTER ir_fm (by decide) hcb) hZt (wd hw 25) (wd hw 24) (by decide) (by decide)) (by rw [hml]; rfl) (argsL := [(.ref l4), (.int (1 : Int32)), (.int ps), (.int c7), (.int md), (.int p3)]) (rest := [(.int (1 : Int32)), (.ref b1164)]) (lenOf pd_10 rfl) rfl (nb rfl) (hb hby at_154) rfl e1173 (by decide) (by decide) fun T1181 v1181 L1181 X1181 hQ1181 => ?_
      obtain ⟨cv_1181, rfl, Nq1181, e1181, hcv_1181⟩ := hQ1181
      have N1181 := Fr.app N1173 Nq1181
      refine Owe.castore X1181 hx hZt e1181 V1173 (x := cv_1181) 1 rfl (nb rfl) (by decide) (hb hby at_157) rfl fun T1182 h1182 X1182 e1182 W1182 (V1182 : Arv Z h1182 b1164 k1164 .char (12 : Int32) [(.int (nar .char cv_1172)), (.int (nar .char cv_1181)), (.int (0 : Int32)), (.int (0 : Int32)), (.int (0 : Int32)), (.int (0 : Int32)), (.int (0 : Int32)), (.int (0 : Int32)), (.int (0 : Int32)), (.int (0 : Int32)), (.int (0 : Int32)), (.int (0 : Int32))] (.int (0 : Int32))) => ?_
      have hk1183 := Nat.le_trans hk1174 (Keep.of_wr W1182).1
      have sf_b1164_1183 := Safe.wr W1182 sf_b1164_1174 H1174 sf_b1164_1174
      have Rr1183 := Rr1174.trans (CHr.wr W1182 sf_b1164_1174 H1174)
      have H1183 := CHv.wr W1182 sf_b1164_1174 H1174
      have Ot_1184 := Ot_1175.wr W1182 ge_b1164
      have E4_1185 := E4_1176.wr W1182
      have Fv4_1186 := Fv4_1177.other W1182 (Or.inl ne_l4_b1164)
      have Fc4_1187 := Fc4_1178.other W1182 (Or.inl ne_l4_b1164)
      have V4_1188 := V4_1179.other W1182 ne_t4_b1164
      have Z_1189 := Nat.le_trans Z_1180 (Keep.of_wr W1182).1
      have N1182 := Fr.snoc X1182 N1181 ge_b1164
      refine Owe.iload X1182.here hx (hb hby at_158) rfl ?_
      refine Owe.iconst X1182.here hx (hb hby at_160) (w := (2 : Int32)) rfl ?_
      refine Owe.icmpNo X1182.here hx (hb hby at_161) rfl (tlt (by decide)).2.2.2 ?_
      refine Owe.aload X1182.here hx (hb hby at_164) rfl rfl ?_
      refine Owe.iconst X1182.here hx (hb hby at_166) (w := (2 : Int32)) rfl ?_
      refine Owe.aload X1182.here hx (hb hby at_167) rfl rfl ?_
      refine Owe.iconst X1182.here hx (hb hby at_169) (w := (2 : Int32)) rfl ?_
      refine Owe.iload X1182.here hx (hb hby at_170) rfl ?_
      refine Owe.iload X1182.here hx (hb hby at_172) rfl ?_
      refine Owe.iload X1182.here hx (hb hby at_174) rfl ?_
      refine Owe.iloadN X1182.here hx (hb hby at_176) rfl ?_
      refine Owe.stat X1182 hx (y := Y7) hownt (mvT hZt (wd hw 22)) (mvT hZt (wd hw 23)) (mvT hZt (wd hw 24)) (mvT hZt (wd hw 25)) (by decide) (backOf (W := 2) (rmat l Z a0 hw [] l4 t4 k4 cs (2 : Int32) ps c7 md p3 G1 fm h1182 n0 Z_1189 E4_1185 Fv4_1186 Fc4_1187 V4_1188 Tx4 S_COMPACT_STRINGS cs0 Ot_1184 S_SIOOBE_FORMATTER ir_fm (by decide) hcb) hZt (wd hw 25) (wd hw 24) (by decide) (by decide)) (by rw [hml]; rfl) (argsL := [(.ref l4), (.int (2 : Int32)), (.int ps), (.int c7), (.int md), (.int p3)]) (rest := [(.int (2 : Int32)), (.ref b1164)]) (lenOf pd_10 rfl) rfl (nb rfl) (hb hby at_177) rfl e1182 (by decide) (by decide) fun T1190 v1190 L1190 X1190 hQ1190 => ?_
      obtain ⟨cv_1190, rfl, Nq1190, e1190, hcv_1190⟩ := hQ1190
      have N1190 := Fr.app N1182 Nq1190
      refine Owe.castore X1190 hx hZt e1190 V1182 (x := cv_1190) 2 rfl (nb rfl) (by decide) (hb hby at_180) rfl fun T1191 h1191 X1191 e1191 W1191 (V1191 : Arv Z h1191 b1164 k1164 .char (12 : Int32) [(.int (nar .char cv_1172)), (.int (nar .char cv_1181)), (.int (nar .char cv_1190)), (.int (0 : Int32)), (.int (0 : Int32)), (.int (0 : Int32)), (.int (0 : Int32)), (.int (0 : Int32)), (.int (0 : Int32)), (.int (0 : Int32)), (.int (0 : Int32)), (.int (0 : Int32))] (.int (0 : Int32))) => ?_
      have hk1192 := Nat.le_trans hk1183 (Keep.of_wr W1191).1
      have sf_b1164_1192 := Safe.wr W1191 sf_b1164_1183 H1183 sf_b1164_1183
      have Rr1192 := Rr1183.trans (CHr.wr W1191 sf_b1164_1183 H1183)
      have H1192 := CHv.wr W1191 sf_b1164_1183 H1183
      have Ot_1193 := Ot_1184.wr W1191 ge_b1164
      have E4_1194 := E4_1185.wr W1191
      have Fv4_1195 := Fv4_1186.other W1191 (Or.inl ne_l4_b1164)
      have Fc4_1196 := Fc4_1187.other W1191 (Or.inl ne_l4_b1164)
      have V4_1197 := V4_1188.other W1191 ne_t4_b1164
      have Z_1198 := Nat.le_trans Z_1189 (Keep.of_wr W1191).1
      have N1191 := Fr.snoc X1191 N1190 ge_b1164
      refine Owe.iload X1191.here hx (hb hby at_181) rfl ?_
      refine Owe.iconst X1191.here hx (hb hby at_183) (w := (3 : Int32)) rfl ?_
      refine Owe.icmpNo X1191.here hx (hb hby at_184) rfl (tlt (by decide)).2.2.2 ?_
      refine Owe.aload X1191.here hx (hb hby at_187) rfl rfl ?_
      refine Owe.iconst X1191.here hx (hb hby at_189) (w := (3 : Int32)) rfl ?_
      refine Owe.aload X1191.here hx (hb hby at_190) rfl rfl ?_
      refine Owe.iconst X1191.here hx (hb hby at_192) (w := (3 : Int32)) rfl ?_
      refine Owe.iload X1191.here hx (hb hby at_193) rfl ?_
      refine Owe.iload X1191.here hx (hb hby at_195) rfl ?_
      refine Owe.iload X1191.here hx (hb hby at_197) rfl ?_
      refine Owe.iloadN X1191.here hx (hb hby at_199) rfl ?_
      refine Owe.stat X1191 hx (y := Y7) hownt (mvT hZt (wd hw 22)) (mvT hZt (wd hw 23)) (mvT hZt (wd hw 24)) (mvT hZt (wd hw 25)) (by decide) (backOf (W := 2) (rmat l Z a0 hw [] l4 t4 k4 cs (3 : Int32) ps c7 md p3 G1 fm h1191 n0 Z_1198 E4_1194 Fv4_1195 Fc4_1196 V4_1197 Tx4 S_COMPACT_STRINGS cs0 Ot_1193 S_SIOOBE_FORMATTER ir_fm (by decide) hcb) hZt (wd hw 25) (wd hw 24) (by decide) (by decide)) (by rw [hml]; rfl) (argsL := [(.ref l4), (.int (3 : Int32)), (.int ps), (.int c7), (.int md), (.int p3)]) (rest := [(.int (3 : Int32)), (.ref b1164)]) (lenOf pd_10 rfl) rfl (nb rfl) (hb hby at_200) rfl e1191 (by decide) (by decide) fun T1199 v1199 L1199 X1199 hQ1199 => ?_
      obtain ⟨cv_1199, rfl, Nq1199, e1199, hcv_1199⟩ := hQ1199
      have N1199 := Fr.app N1191 Nq1199
      refine Owe.castore X1199 hx hZt e1199 V1191 (x := cv_1199) 3 rfl (nb rfl) (by decide) (hb hby at_203) rfl fun T1200 h1200 X1200 e1200 W1200 (V1200 : Arv Z h1200 b1164 k1164 .char (12 : Int32) [(.int (nar .char cv_1172)), (.int (nar .char cv_1181)), (.int (nar .char cv_1190)), (.int (nar .char cv_1199)), (.int (0 : Int32)), (.int (0 : Int32)), (.int (0 : Int32)), (.int (0 : Int32)), (.int (0 : Int32)), (.int (0 : Int32)), (.int (0 : Int32)), (.int (0 : Int32))] (.int (0 : Int32))) => ?_
      have hk1201 := Nat.le_trans hk1192 (Keep.of_wr W1200).1
      have sf_b1164_1201 := Safe.wr W1200 sf_b1164_1192 H1192 sf_b1164_1192
      have Rr1201 := Rr1192.trans (CHr.wr W1200 sf_b1164_1192 H1192)
      have H1201 := CHv.wr W1200 sf_b1164_1192 H1192
      have Ot_1202 := Ot_1193.wr W1200 ge_b1164
      have E4_1203 := E4_1194.wr W1200
      have Fv4_1204 := Fv4_1195.other W1200 (Or.inl ne_l4_b1164)
      have Fc4_1205 := Fc4_1196.other W1200 (Or.inl ne_l4_b1164)
      have V4_1206 := V4_1197.other W1200 ne_t4_b1164
      have Z_1207 := Nat.le_trans Z_1198 (Keep.of_wr W1200).1
      have N1200 := Fr.snoc X1200 N1199 ge_b1164
      refine Owe.iload X1200.here hx (hb hby at_204) rfl ?_
      refine Owe.iconst X1200.here hx (hb hby at_206) (w := (4 : Int32)) rfl ?_
      refine Owe.icmpNo X1200.here hx (hb hby at_207) rfl (tlt (by decide)).2.2.2 ?_
      refine Owe.aload X1200.here hx (hb hby at_210) rfl rfl ?_
      refine Owe.iconst X1200.here hx (hb hby at_212) (w := (4 : Int32)) rfl ?_
      refine Owe.aload X1200.here hx (hb hby at_213) rfl rfl ?_
      refine Owe.iconst X1200.here hx (hb hby at_215) (w := (4 : Int32)) rfl ?_
      refine Owe.iload X1200.here hx (hb hby at_216) rfl ?_
      refine Owe.iload X1200.here hx (hb hby at_218) rfl ?_
      refine Owe.iload X1200.here hx (hb hby at_220) rfl ?_
      refine Owe.iloadN X1200.here hx (hb hby at_222) rfl ?_
      refine Owe.stat X1200 hx (y := Y7) hownt (mvT hZt (wd hw 22)) (mvT hZt (wd hw 23)) (mvT hZt (wd hw 24)) (mvT hZt (wd hw 25)) (by decide) (backOf (W := 2) (rmat l Z a0 hw [] l4 t4 k4 cs (4 : Int32) ps c7 md p3 G1 fm h1200 n0 Z_1207 E4_1203 Fv4_1204 Fc4_1205 V4_1206 Tx4 S_COMPACT_STRINGS cs0 Ot_1202 S_SIOOBE_FORMATTER ir_fm (by decide) hcb) hZt (wd hw 25) (wd hw 24) (by decide) (by decide)) (by rw [hml]; rfl) (argsL := [(.ref l4), (.int (4 : Int32)), (.int ps), (.int c7), (.int md), (.int p3)]) (rest := [(.int (4 : Int32)), (.ref b1164)]) (lenOf pd_10 rfl) rfl (nb rfl) (hb hby at_223) rfl e1200 (by decide) (by decide) fun T1208 v1208 L1208 X1208 hQ1208 => ?_
      obtain ⟨cv_1208, rfl, Nq1208, e1208, hcv_1208⟩ := hQ1208
      have N1208 := Fr.app N1200 Nq1208
      refine Owe.castore X1208 hx hZt e1208 V1200 (x := cv_1208) 4 rfl (nb rfl) (by decide) (hb hby at_226) rfl fun T1209 h1209 X1209 e1209 W1209 (V1209 : Arv Z h1209 b1164 k1164 .char (12 : Int32) [(.int (nar .char cv_1172)), (.int (nar .char cv_1181)), (.int (nar .char cv_1190)), (.int (nar .char cv_1199)), (.int (nar .char cv_1208)), (.int (0 : Int32)), (.int (0 : Int32)), (.int (0 : Int32)), (.int (0 : Int32)), (.int (0 : Int32)), (.int (0 : Int32)), (.int (0 : Int32))] (.int (0 : Int32))) => ?_
      have hk1210 := Nat.le_trans hk1201 (Keep.of_wr W1209).1
      have sf_b1164_1210 := Safe.wr W1209 sf_b1164_1201 H1201 sf_b1164_1201
      have Rr1210 := Rr1201.trans (CHr.wr W1209 sf_b1164_1201 H1201)
      have H1210 := CHv.wr W1209 sf_b1164_1201 H1201
      have Ot_1211 := Ot_1202.wr W1209 ge_b1164
      have E4_1212 := E4_1203.wr W1209
      have Fv4_1213 := Fv4_1204.other W1209 (Or.inl ne_l4_b1164)
      have Fc4_1214 := Fc4_1205.other W1209 (Or.inl ne_l4_b1164)
      have V4_1215 := V4_1206.other W1209 ne_t4_b1164
      have Z_1216 := Nat.le_trans Z_1207 (Keep.of_wr W1209).1
      have N1209 := Fr.snoc X1209 N1208 ge_b1164
      refine Owe.iload X1209.here hx (hb hby at_227) rfl ?_
      refine Owe.iconst X1209.here hx (hb hby at_229) (w := (5 : Int32)) rfl ?_
      refine Owe.icmpNo X1209.here hx (hb hby at_230) rfl (tlt (by decide)).2.2.2 ?_
      refine Owe.aload X1209.here hx (hb hby at_233) rfl rfl ?_
      refine Owe.iconst X1209.here hx (hb hby at_235) (w := (5 : Int32)) rfl ?_
      refine Owe.aload X1209.here hx (hb hby at_236) rfl rfl ?_
      refine Owe.iconst X1209.here hx (hb hby at_238) (w := (5 : Int32)) rfl ?_
      refine Owe.iload X1209.here hx (hb hby at_239) rfl ?_
      refine Owe.iload X1209.here hx (hb hby at_241) rfl ?_
      refine Owe.iload X1209.here hx (hb hby at_243) rfl ?_
      refine Owe.iloadN X1209.here hx (hb hby at_245) rfl ?_
      refine Owe.stat X1209 hx (y := Y7) hownt (mvT hZt (wd hw 22)) (mvT hZt (wd hw 23)) (mvT hZt (wd hw 24)) (mvT hZt (wd hw 25)) (by decide) (backOf (W := 2) (rmat l Z a0 hw [] l4 t4 k4 cs (5 : Int32) ps c7 md p3 G1 fm h1209 n0 Z_1216 E4_1212 Fv4_1213 Fc4_1214 V4_1215 Tx4 S_COMPACT_STRINGS cs0 Ot_1211 S_SIOOBE_FORMATTER ir_fm (by decide) hcb) hZt (wd hw 25) (wd hw 24) (by decide) (by decide)) (by rw [hml]; rfl) (argsL := [(.ref l4), (.int (5 : Int32)), (.int ps), (.int c7), (.int md), (.int p3)]) (rest := [(.int (5 : Int32)), (.ref b1164)]) (lenOf pd_10 rfl) rfl (nb rfl) (hb hby at_246) rfl e1209 (by decide) (by decide) fun T1217 v1217 L1217 X1217 hQ1217 => ?_
      obtain ⟨cv_1217, rfl, Nq1217, e1217, hcv_1217⟩ := hQ1217
      have N1217 := Fr.app N1209 Nq1217
      refine Owe.castore X1217 hx hZt e1217 V1209 (x := cv_1217) 5 rfl (nb rfl) (by decide) (hb hby at_249) rfl fun T1218 h1218 X1218 e1218 W1218 (V1218 : Arv Z h1218 b1164 k1164 .char (12 : Int32) [(.int (nar .char cv_1172)), (.int (nar .char cv_1181)), (.int (nar .char cv_1190)), (.int (nar .char cv_1199)), (.int (nar .char cv_1208)), (.int (nar .char cv_1217)), (.int (0 : Int32)), (.int (0 : Int32)), (.int (0 : Int32)), (.int (0 : Int32)), (.int (0 : Int32)), (.int (0 : Int32))] (.int (0 : Int32))) => ?_
      have hk1219 := Nat.le_trans hk1210 (Keep.of_wr W1218).1
      have sf_b1164_1219 := Safe.wr W1218 sf_b1164_1210 H1210 sf_b1164_1210
      have Rr1219 := Rr1210.trans (CHr.wr W1218 sf_b1164_1210 H1210)
      have H1219 := CHv.wr W1218 sf_b1164_1210 H1210
      have Ot_1220 := Ot_1211.wr W1218 ge_b1164
      have E4_1221 := E4_1212.wr W1218
      have Fv4_1222 := Fv4_1213.other W1218 (Or.inl ne_l4_b1164)
      have Fc4_1223 := Fc4_1214.other W1218 (Or.inl ne_l4_b1164)
      have V4_1224 := V4_1215.other W1218 ne_t4_b1164
      have Z_1225 := Nat.le_trans Z_1216 (Keep.of_wr W1218).1
      have N1218 := Fr.snoc X1218 N1217 ge_b1164
      refine Owe.iload X1218.here hx (hb hby at_250) rfl ?_
      refine Owe.bipush X1218.here hx (hb hby at_252) (w := (6 : Int32)) rfl ?_
      refine Owe.icmpNo X1218.here hx (hb hby at_254) rfl (tlt (by decide)).2.2.2 ?_
      refine Owe.aload X1218.here hx (hb hby at_257) rfl rfl ?_
      refine Owe.bipush X1218.here hx (hb hby at_259) (w := (6 : Int32)) rfl ?_
      refine Owe.aload X1218.here hx (hb hby at_261) rfl rfl ?_
      refine Owe.bipush X1218.here hx (hb hby at_263) (w := (6 : Int32)) rfl ?_
      refine Owe.iload X1218.here hx (hb hby at_265) rfl ?_
      refine Owe.iload X1218.here hx (hb hby at_267) rfl ?_
      refine Owe.iload X1218.here hx (hb hby at_269) rfl ?_
      refine Owe.iloadN X1218.here hx (hb hby at_271) rfl ?_
      refine Owe.stat X1218 hx (y := Y7) hownt (mvT hZt (wd hw 22)) (mvT hZt (wd hw 23)) (mvT hZt (wd hw 24)) (mvT hZt (wd hw 25)) (by decide) (backOf (W := 2) (rmat l Z a0 hw [] l4 t4 k4 cs (6 : Int32) ps c7 md p3 G1 fm h1218 n0 Z_1225 E4_1221 Fv4_1222 Fc4_1223 V4_1224 Tx4 S_COMPACT_STRINGS cs0 Ot_1220 S_SIOOBE_FORMATTER ir_fm (by decide) hcb) hZt (wd hw 25) (wd hw 24) (by decide) (by decide)) (by rw [hml]; rfl) (argsL := [(.ref l4), (.int (6 : Int32)), (.int ps), (.int c7), (.int md), (.int p3)]) (rest := [(.int (6 : Int32)), (.ref b1164)]) (lenOf pd_10 rfl) rfl (nb rfl) (hb hby at_272) rfl e1218 (by decide) (by decide) fun T1226 v1226 L1226 X1226 hQ1226 => ?_
      obtain ⟨cv_1226, rfl, Nq1226, e1226, hcv_1226⟩ := hQ1226
      have N1226 := Fr.app N1218 Nq1226
      refine Owe.castore X1226 hx hZt e1226 V1218 (x := cv_1226) 6 rfl (nb rfl) (by decide) (hb hby at_275) rfl fun T1227 h1227 X1227 e1227 W1227 (V1227 : Arv Z h1227 b1164 k1164 .char (12 : Int32) [(.int (nar .char cv_1172)), (.int (nar .char cv_1181)), (.int (nar .char cv_1190)), (.int (nar .char cv_1199)), (.int (nar .char cv_1208)), (.int (nar .char cv_1217)), (.int (nar .char cv_1226)), (.int (0 : Int32)), (.int (0 : Int32)), (.int (0 : Int32)), (.int (0 : Int32)), (.int (0 : Int32))] (.int (0 : Int32))) => ?_
      have hk1228 := Nat.le_trans hk1219 (Keep.of_wr W1227).1
      have sf_b1164_1228 := Safe.wr W1227 sf_b1164_1219 H1219 sf_b1164_1219
      have Rr1228 := Rr1219.trans (CHr.wr W1227 sf_b1164_1219 H1219)
      have H1228 := CHv.wr W1227 sf_b1164_1219 H1219
      have Ot_1229 := Ot_1220.wr W1227 ge_b1164
      have E4_1230 := E4_1221.wr W1227
      have Fv4_1231 := Fv4_1222.other W1227 (Or.inl ne_l4_b1164)
      have Fc4_1232 := Fc4_1223.other W1227 (Or.inl ne_l4_b1164)
      have V4_1233 := V4_1224.other W1227 ne_t4_b1164
      have Z_1234 := Nat.le_trans Z_1225 (Keep.of_wr W1227).1
      have N1227 := Fr.snoc X1227 N1226 ge_b1164
      refine Owe.iload X1227.here hx (hb hby at_276) rfl ?_
      refine Owe.bipush X1227.here hx (hb hby at_278) (w := (7 : Int32)) rfl ?_
      refine Owe.icmpNo X1227.here hx (hb hby at_280) rfl (tlt (by decide)).2.2.2 ?_
      refine Owe.aload X1227.here hx (hb hby at_283) rfl rfl ?_
      refine Owe.bipush X1227.here hx (hb hby at_285) (w := (7 : Int32)) rfl ?_
      refine Owe.aload X1227.here hx (hb hby at_287) rfl rfl ?_
      refine Owe.bipush X1227.here hx (hb hby at_289) (w := (7 : Int32)) rfl ?_
      refine Owe.iload X1227.here hx (hb hby at_291) rfl ?_
      refine Owe.iload X1227.here hx (hb hby at_293) rfl ?_
      refine Owe.iload X1227.here hx (hb hby at_295) rfl ?_
      refine Owe.iloadN X1227.here hx (hb hby at_297) rfl ?_
      refine Owe.stat X1227 hx (y := Y7) hownt (mvT hZt (wd hw 22)) (mvT hZt (wd hw 23)) (mvT hZt (wd hw 24)) (mvT hZt (wd hw 25)) (by decide) (backOf (W := 2) (rmat l Z a0 hw [] l4 t4 k4 cs (7 : Int32) ps c7 md p3 G1 fm h1227 n0 Z_1234 E4_1230 Fv4_1231 Fc4_1232 V4_1233 Tx4 S_COMPACT_STRINGS cs0 Ot_1229 S_SIOOBE_FORMATTER ir_fm (by decide) hcb) hZt (wd hw 25) (wd hw 24) (by decide) (by decide)) (by rw [hml]; rfl) (argsL := [(.ref l4), (.int (7 : Int32)), (.int ps), (.int c7), (.int md), (.int p3)]) (rest := [(.int (7 : Int32)), (.ref b1164)]) (lenOf pd_10 rfl) rfl (nb rfl) (hb hby at_298) rfl e1227 (by decide) (by decide) fun T1235 v1235 L1235 X1235 hQ1235 => ?_
      obtain ⟨cv_1235, rfl, Nq1235, e1235, hcv_1235⟩ := hQ1235
      have N1235 := Fr.app N1227 Nq1235
      refine Owe.castore X1235 hx hZt e1235 V1227 (x := cv_1235) 7 rfl (nb rfl) (by decide) (hb hby at_301) rfl fun T1236 h1236 X1236 e1236 W1236 (V1236 : Arv Z h1236 b1164 k1164 .char (12 : Int32) [(.int (nar .char cv_1172)), (.int (nar .char cv_1181)), (.int (nar .char cv_1190)), (.int (nar .char cv_1199)), (.int (nar .char cv_1208)), (.int (nar .char cv_1217)), (.int (nar .char cv_1226)), (.int (nar .char cv_1235)), (.int (0 : Int32)), (.int (0 : Int32)), (.int (0 : Int32)), (.int (0 : Int32))] (.int (0 : Int32))) => ?_
      have hk1237 := Nat.le_trans hk1228 (Keep.of_wr W1236).1
      have sf_b1164_1237 := Safe.wr W1236 sf_b1164_1228 H1228 sf_b1164_1228
      have Rr1237 := Rr1228.trans (CHr.wr W1236 sf_b1164_1228 H1228)
      have H1237 := CHv.wr W1236 sf_b1164_1228 H1228
      have Ot_1238 := Ot_1229.wr W1236 ge_b1164
      have E4_1239 := E4_1230.wr W1236
      have Fv4_1240 := Fv4_1231.other W1236 (Or.inl ne_l4_b1164)
      have Fc4_1241 := Fc4_1232.other W1236 (Or.inl ne_l4_b1164)
      have V4_1242 := V4_1233.other W1236 ne_t4_b1164
      have Z_1243 := Nat.le_trans Z_1234 (Keep.of_wr W1236).1
      have N1236 := Fr.snoc X1236 N1235 ge_b1164
      refine Owe.iload X1236.here hx (hb hby at_302) rfl ?_
      refine Owe.bipush X1236.here hx (hb hby at_304) (w := (8 : Int32)) rfl ?_
      refine Owe.icmpNo X1236.here hx (hb hby at_306) rfl (tlt (by decide)).2.2.2 ?_
      refine Owe.aload X1236.here hx (hb hby at_309) rfl rfl ?_
      refine Owe.bipush X1236.here hx (hb hby at_311) (w := (8 : Int32)) rfl ?_
      refine Owe.aload X1236.here hx (hb hby at_313) rfl rfl ?_
      refine Owe.bipush X1236.here hx (hb hby at_315) (w := (8 : Int32)) rfl ?_
      refine Owe.iload X1236.here hx (hb hby at_317) rfl ?_
      refine Owe.iload X1236.here hx (hb hby at_319) rfl ?_
      refine Owe.iload X1236.here hx (hb hby at_321) rfl ?_
      refine Owe.iloadN X1236.here hx (hb hby at_323) rfl ?_
      refine Owe.stat X1236 hx (y := Y7) hownt (mvT hZt (wd hw 22)) (mvT hZt (wd hw 23)) (mvT hZt (wd hw 24)) (mvT hZt (wd hw 25)) (by decide) (backOf (W := 2) (rmat l Z a0 hw [] l4 t4 k4 cs (8 : Int32) ps c7 md p3 G1 fm h1236 n0 Z_1243 E4_1239 Fv4_1240 Fc4_1241 V4_1242 Tx4 S_COMPACT_STRINGS cs0 Ot_1238 S_SIOOBE_FORMATTER ir_fm (by decide) hcb) hZt (wd hw 25) (wd hw 24) (by decide) (by decide)) (by rw [hml]; rfl) (argsL := [(.ref l4), (.int (8 : Int32)), (.int ps), (.int c7), (.int md), (.int p3)]) (rest := [(.int (8 : Int32)), (.ref b1164)]) (lenOf pd_10 rfl) rfl (nb rfl) (hb hby at_324) rfl e1236 (by decide) (by decide) fun T1244 v1244 L1244 X1244 hQ1244 => ?_
      obtain ⟨cv_1244, rfl, Nq1244, e1244, hcv_1244⟩ := hQ1244
      have N1244 := Fr.app N1236 Nq1244
      refine Owe.castore X1244 hx hZt e1244 V1236 (x := cv_1244) 8 rfl (nb rfl) (by decide) (hb hby at_327) rfl fun T1245 h1245 X1245 e1245 W1245 (V1245 : Arv Z h1245 b1164 k1164 .char (12 : Int32) [(.int (nar .char cv_1172)), (.int (nar .char cv_1181)), (.int (nar .char cv_1190)), (.int (nar .char cv_1199)), (.int (nar .char cv_1208)), (.int (nar .char cv_1217)), (.int (nar .char cv_1226)), (.int (nar .char cv_1235)), (.int (nar .char cv_1244)), (.int (0 : Int32)), (.int (0 : Int32)), (.int (0 : Int32))] (.int (0 : Int32))) => ?_
      have hk1246 := Nat.le_trans hk1237 (Keep.of_wr W1245).1
      have sf_b1164_1246 := Safe.wr W1245 sf_b1164_1237 H1237 sf_b1164_1237
      have Rr1246 := Rr1237.trans (CHr.wr W1245 sf_b1164_1237 H1237)
      have H1246 := CHv.wr W1245 sf_b1164_1237 H1237
      have Ot_1247 := Ot_1238.wr W1245 ge_b1164
      have E4_1248 := E4_1239.wr W1245
      have Fv4_1249 := Fv4_1240.other W1245 (Or.inl ne_l4_b1164)
      have Fc4_1250 := Fc4_1241.other W1245 (Or.inl ne_l4_b1164)
      have V4_1251 := V4_1242.other W1245 ne_t4_b1164
      have Z_1252 := Nat.le_trans Z_1243 (Keep.of_wr W1245).1
      have N1245 := Fr.snoc X1245 N1244 ge_b1164
      refine Owe.iload X1245.here hx (hb hby at_328) rfl ?_
      refine Owe.bipush X1245.here hx (hb hby at_330) (w := (9 : Int32)) rfl ?_
      refine Owe.icmpNo X1245.here hx (hb hby at_332) rfl (tlt (by decide)).2.2.2 ?_
      refine Owe.aload X1245.here hx (hb hby at_335) rfl rfl ?_
      refine Owe.bipush X1245.here hx (hb hby at_337) (w := (9 : Int32)) rfl ?_
      refine Owe.aload X1245.here hx (hb hby at_339) rfl rfl ?_
      refine Owe.bipush X1245.here hx (hb hby at_341) (w := (9 : Int32)) rfl ?_
      refine Owe.iload X1245.here hx (hb hby at_343) rfl ?_
      refine Owe.iload X1245.here hx (hb hby at_345) rfl ?_
      refine Owe.iload X1245.here hx (hb hby at_347) rfl ?_
      refine Owe.iloadN X1245.here hx (hb hby at_349) rfl ?_
      refine Owe.stat X1245 hx (y := Y7) hownt (mvT hZt (wd hw 22)) (mvT hZt (wd hw 23)) (mvT hZt (wd hw 24)) (mvT hZt (wd hw 25)) (by decide) (backOf (W := 2) (rmat l Z a0 hw [] l4 t4 k4 cs (9 : Int32) ps c7 md p3 G1 fm h1245 n0 Z_1252 E4_1248 Fv4_1249 Fc4_1250 V4_1251 Tx4 S_COMPACT_STRINGS cs0 Ot_1247 S_SIOOBE_FORMATTER ir_fm (by decide) hcb) hZt (wd hw 25) (wd hw 24) (by decide) (by decide)) (by rw [hml]; rfl) (argsL := [(.ref l4), (.int (9 : Int32)), (.int ps), (.int c7), (.int md), (.int p3)]) (rest := [(.int (9 : Int32)), (.ref b1164)]) (lenOf pd_10 rfl) rfl (nb rfl) (hb hby at_350) rfl e1245 (by decide) (by decide) fun T1253 v1253 L1253 X1253 hQ1253 => ?_
      obtain ⟨cv_1253, rfl, Nq1253, e1253, hcv_1253⟩ := hQ1253
      have N1253 := Fr.app N1245 Nq1253
      refine Owe.castore X1253 hx hZt e1253 V1245 (x := cv_1253) 9 rfl (nb rfl) (by decide) (hb hby at_353) rfl fun T1254 h1254 X1254 e1254 W1254 (V1254 : Arv Z h1254 b1164 k1164 .char (12 : Int32) [(.int (nar .char cv_1172)), (.int (nar .char cv_1181)), (.int (nar .char cv_1190)), (.int (nar .char cv_1199)), (.int (nar .char cv_1208)), (.int (nar .char cv_1217)), (.int (nar .char cv_1226)), (.int (nar .char cv_1235)), (.int (nar .char cv_1244)), (.int (nar .char cv_1253)), (.int (0 : Int32)), (.int (0 : Int32))] (.int (0 : Int32))) => ?_
      have hk1255 := Nat.le_trans hk1246 (Keep.of_wr W1254).1
      have sf_b1164_1255 := Safe.wr W1254 sf_b1164_1246 H1246 sf_b1164_1246
      have Rr1255 := Rr1246.trans (CHr.wr W1254 sf_b1164_1246 H1246)
      have H1255 := CHv.wr W1254 sf_b1164_1246 H1246
      have Ot_1256 := Ot_1247.wr W1254 ge_b1164
      have E4_1257 := E4_1248.wr W1254
      have Fv4_1258 := Fv4_1249.other W1254 (Or.inl ne_l4_b1164)
      have Fc4_1259 := Fc4_1250.other W1254 (Or.inl ne_l4_b1164)
      have V4_1260 := V4_1251.other W1254 ne_t4_b1164
      have Z_1261 := Nat.le_trans Z_1252 (Keep.of_wr W1254).1
      have N1254 := Fr.snoc X1254 N1253 ge_b1164
      refine Owe.iload X1254.here hx (hb hby at_354) rfl ?_
      refine Owe.bipush X1254.here hx (hb hby at_356) (w := (10 : Int32)) rfl ?_
      refine Owe.icmpNo X1254.here hx (hb hby at_358) rfl (tlt (by decide)).2.2.2 ?_
      refine Owe.aload X1254.here hx (hb hby at_361) rfl rfl ?_
      refine Owe.bipush X1254.here hx (hb hby at_363) (w := (10 : Int32)) rfl ?_
      refine Owe.aload X1254.here hx (hb hby at_365) rfl rfl ?_
      refine Owe.bipush X1254.here hx (hb hby at_367) (w := (10 : Int32)) rfl ?_
      refine Owe.iload X1254.here hx (hb hby at_369) rfl ?_
      refine Owe.iload X1254.here hx (hb hby at_371) rfl ?_
      refine Owe.iload X1254.here hx (hb hby at_373) rfl ?_
      refine Owe.iloadN X1254.here hx (hb hby at_375) rfl ?_
      refine Owe.stat X1254 hx (y := Y7) hownt (mvT hZt (wd hw 22)) (mvT hZt (wd hw 23)) (mvT hZt (wd hw 24)) (mvT hZt (wd hw 25)) (by decide) (backOf (W := 2) (rmat l Z a0 hw [] l4 t4 k4 cs (10 : Int32) ps c7 md p3 G1 fm h1254 n0 Z_1261 E4_1257 Fv4_1258 Fc4_1259 V4_1260 Tx4 S_COMPACT_STRINGS cs0 Ot_1256 S_SIOOBE_FORMATTER ir_fm (by decide) hcb) hZt (wd hw 25) (wd hw 24) (by decide) (by decide)) (by rw [hml]; rfl) (argsL := [(.ref l4), (.int (10 : Int32)), (.int ps), (.int c7), (.int md), (.int p3)]) (rest := [(.int (10 : Int32)), (.ref b1164)]) (lenOf pd_10 rfl) rfl (nb rfl) (hb hby at_376) rfl e1254 (by decide) (by decide) fun T1262 v1262 L1262 X1262 hQ1262 => ?_
      obtain ⟨cv_1262, rfl, Nq1262, e1262, hcv_1262⟩ := hQ1262
      have N1262 := Fr.app N1254 Nq1262
      refine Owe.castore X1262 hx hZt e1262 V1254 (x := cv_1262) 10 rfl (nb rfl) (by decide) (hb hby at_379) rfl fun T1263 h1263 X1263 e1263 W1263 (V1263 : Arv Z h1263 b1164 k1164 .char (12 : Int32) [(.int (nar .char cv_1172)), (.int (nar .char cv_1181)), (.int (nar .char cv_1190)), (.int (nar .char cv_1199)), (.int (nar .char cv_1208)), (.int (nar .char cv_1217)), (.int (nar .char cv_1226)), (.int (nar .char cv_1235)), (.int (nar .char cv_1244)), (.int (nar .char cv_1253)), (.int (nar .char cv_1262)), (.int (0 : Int32))] (.int (0 : Int32))) => ?_
      have hk1264 := Nat.le_trans hk1255 (Keep.of_wr W1263).1
      have sf_b1164_1264 := Safe.wr W1263 sf_b1164_1255 H1255 sf_b1164_1255
      have Rr1264 := Rr1255.trans (CHr.wr W1263 sf_b1164_1255 H1255)
      have H1264 := CHv.wr W1263 sf_b1164_1255 H1255
      have Ot_1265 := Ot_1256.wr W1263 ge_b1164
      have E4_1266 := E4_1257.wr W1263
      have Fv4_1267 := Fv4_1258.other W1263 (Or.inl ne_l4_b1164)
      have Fc4_1268 := Fc4_1259.other W1263 (Or.inl ne_l4_b1164)
      have V4_1269 := V4_1260.other W1263 ne_t4_b1164
      have Z_1270 := Nat.le_trans Z_1261 (Keep.of_wr W1263).1
      have N1263 := Fr.snoc X1263 N1262 ge_b1164
      refine Owe.iload X1263.here hx (hb hby at_380) rfl ?_
      refine Owe.bipush X1263.here hx (hb hby at_382) (w := (11 : Int32)) rfl ?_
      refine Owe.icmpNo X1263.here hx (hb hby at_384) rfl (tlt (by decide)).2.2.2 ?_
      refine Owe.aload X1263.here hx (hb hby at_387) rfl rfl ?_
      refine Owe.bipush X1263.here hx (hb hby at_389) (w := (11 : Int32)) rfl ?_
      refine Owe.aload X1263.here hx (hb hby at_391) rfl rfl ?_
      refine Owe.bipush X1263.here hx (hb hby at_393) (w := (11 : Int32)) rfl ?_
      refine Owe.iload X1263.here hx (hb hby at_395) rfl ?_
      refine Owe.iload X1263.here hx (hb hby at_397) rfl ?_
      refine Owe.iload X1263.here hx (hb hby at_399) rfl ?_
      refine Owe.iloadN X1263.here hx (hb hby at_401) rfl ?_
      refine Owe.stat X1263 hx (y := Y7) hownt (mvT hZt (wd hw 22)) (mvT hZt (wd hw 23)) (mvT hZt (wd hw 24)) (mvT hZt (wd hw 25)) (by decide) (backOf (W := 2) (rmat l Z a0 hw [] l4 t4 k4 cs (11 : Int32) ps c7 md p3 G1 fm h1263 n0 Z_1270 E4_1266 Fv4_1267 Fc4_1268 V4_1269 Tx4 S_COMPACT_STRINGS cs0 Ot_1265 S_SIOOBE_FORMATTER ir_fm (by decide) hcb) hZt (wd hw 25) (wd hw 24) (by decide) (by decide)) (by rw [hml]; rfl) (argsL := [(.ref l4), (.int (11 : Int32)), (.int ps), (.int c7), (.int md), (.int p3)]) (rest := [(.int (11 : Int32)), (.ref b1164)]) (lenOf pd_10 rfl) rfl (nb rfl) (hb hby at_402) rfl e1263 (by decide) (by decide) fun T1271 v1271 L1271 X1271 hQ1271 => ?_
      obtain ⟨cv_1271, rfl, Nq1271, e1271, hcv_1271⟩ := hQ1271
      have N1271 := Fr.app N1263 Nq1271
      refine Owe.castore X1271 hx hZt e1271 V1263 (x := cv_1271) 11 rfl (nb rfl) (by decide) (hb hby at_405) rfl fun T1272 h1272 X1272 e1272 W1272 (V1272 : Arv Z h1272 b1164 k1164 .char (12 : Int32) [(.int (nar .char cv_1172)), (.int (nar .char cv_1181)), (.int (nar .char cv_1190)), (.int (nar .char cv_1199)), (.int (nar .char cv_1208)), (.int (nar .char cv_1217)), (.int (nar .char cv_1226)), (.int (nar .char cv_1235)), (.int (nar .char cv_1244)), (.int (nar .char cv_1253)), (.int (nar .char cv_1262)), (.int (nar .char cv_1271))] (.int (0 : Int32))) => ?_
      have hk1273 := Nat.le_trans hk1264 (Keep.of_wr W1272).1
      have sf_b1164_1273 := Safe.wr W1272 sf_b1164_1264 H1264 sf_b1164_1264
      have Rr1273 := Rr1264.trans (CHr.wr W1272 sf_b1164_1264 H1264)
      have H1273 := CHv.wr W1272 sf_b1164_1264 H1264
      have Ot_1274 := Ot_1265.wr W1272 ge_b1164
      have E4_1275 := E4_1266.wr W1272
      have Fv4_1276 := Fv4_1267.other W1272 (Or.inl ne_l4_b1164)
      have Fc4_1277 := Fc4_1268.other W1272 (Or.inl ne_l4_b1164)
      have V4_1278 := V4_1269.other W1272 ne_t4_b1164
      have Z_1279 := Nat.le_trans Z_1270 (Keep.of_wr W1272).1
      have N1272 := Fr.snoc X1272 N1271 ge_b1164
      refine Owe.new X1272 hx hZt hownt (wd hw 48) (wd hw 2) (wd hw 1) e1272 (hb hby at_406) (by decide) (by decide) fun T1280 h1280 b1280 g1280 X1280 e1280 E1280 A1280 D1280 => ?_
      have ne_l4_b1280 : l4 ≠ b1280 := Nat.ne_of_lt (Nat.lt_of_lt_of_le E4_1275.lt (Nat.le_of_eq g1280.symm))
      have ne_t4_b1280 : t4 ≠ b1280 := Nat.ne_of_lt (Nat.lt_of_lt_of_le V4_1278.lt (Nat.le_of_eq g1280.symm))
      have ne_b1164_b1280 : b1164 ≠ b1280 := Nat.ne_of_lt (Nat.lt_of_lt_of_le V1272.lt (Nat.le_of_eq g1280.symm))
      have sf_b1280 := (Safe.new (Nat.le_of_eq g1280.symm) : Safe Z own_EL vmt h1272 b1280)
      have ge_b1280 := Nat.le_trans Z_1279 (Nat.le_of_eq g1280.symm)
      have hk1281 := Nat.le_trans hk1273 E1280.1
      have sf_b1164_1281 := Safe.ext E1280 H1273 sf_b1164_1273
      have sf_b1280_1281 := Safe.ext E1280 H1273 sf_b1280
      have Rr1281 := Rr1273.trans (CHr.ext E1280 H1273)
      have H1281 := CHv.ext E1280 H1273
      have Ot_1282 := Ot_1274.ext E1280
      have E4_1283 := E4_1275.ext E1280
      have Fv4_1284 := Fv4_1276.ext E1280
      have Fc4_1285 := Fc4_1277.ext E1280
      have V4_1286 := V4_1278.ext E1280
      have V1272_1287 := V1272.ext E1280
      have Z_1288 := Nat.le_trans Z_1279 E1280.1
      have Fvalue_b1280 : Fld Z h1280 b1280 "java/lang/String" "value" "[B" .null := D1280 (Or.inr (wd hw 4)) (ty := (.array .byte)) (by decide)
      have Fcoder_b1280 : Fld Z h1280 b1280 "java/lang/String" "coder" "B" (.int (0 : Int32)) := D1280 (Or.inr (wd hw 5)) (ty := .byte) (by decide)
      refine Owe.dup X1280.here hx (hb hby at_409) rfl rfl ?_
      refine Owe.aload X1280.here hx (hb hby at_410) rfl rfl ?_
      have hp1289 : ∀ c ∈ ([(nar .char cv_1172), (nar .char cv_1181), (nar .char cv_1190), (nar .char cv_1199), (nar .char cv_1208), (nar .char cv_1217), (nar .char cv_1226), (nar .char cv_1235), (nar .char cv_1244), (nar .char cv_1253), (nar .char cv_1262), (nar .char cv_1271)] : List Int32), ¬ c < 0 ∧ ¬ (255 : Int32) < c := by
        intro c hc
        simp only [List.mem_cons, List.not_mem_nil, or_false] at hc
        rcases hc with rfl | rfl | rfl | rfl | rfl | rfl | rfl | rfl | rfl | rfl | rfl | rfl
        · exact (own_nar2 hcv_1172)
        · exact (own_nar2 hcv_1181)
        · exact (own_nar2 hcv_1190)
        · exact (own_nar2 hcv_1199)
        · exact (own_nar2 hcv_1208)
        · exact (own_nar2 hcv_1217)
        · exact (own_nar2 hcv_1226)
        · exact (own_nar2 hcv_1235)
        · exact (own_nar2 hcv_1244)
        · exact (own_nar2 hcv_1253)
        · exact (own_nar2 hcv_1262)
        · exact (own_nar2 hcv_1271)
      refine Owe.special X1280 hx (y := Y1) rfl hownt (mvT hZt (wd hw 49)) (mvT hZt (wd hw 50)) (mvT hZt (wd hw 51)) (by decide) (StrChars.Road.backV (W := 1) hZt hws (kI := 4) (wd hw 2) (cs := ([(nar .char cv_1172), (nar .char cv_1181), (nar .char cv_1190), (nar .char cv_1199), (nar .char cv_1208), (nar .char cv_1217), (nar .char cv_1226), (nar .char cv_1235), (nar .char cv_1244), (nar .char cv_1253), (nar .char cv_1262), (nar .char cv_1271)] : List Int32)) (bs := ([(nar .char cv_1172), (nar .char cv_1181), (nar .char cv_1190), (nar .char cv_1199), (nar .char cv_1208), (nar .char cv_1217), (nar .char cv_1226), (nar .char cv_1235), (nar .char cv_1244), (nar .char cv_1253), (nar .char cv_1262), (nar .char cv_1271)] : List Int32).map (fun c => c.toInt8.toInt32)) (n := 12) ge_b1280 Z_1288 A1280 Fvalue_b1280 Fcoder_b1280 V1272_1287 (S_COMPACT_STRINGS.ext Ot_1282.2) cs0 rfl rfl (by decide) (by decide) hp1289 rfl (by decide) (by decide)) (by rw [hml]; rfl) (a := b1280) (argsL := [(.ref b1164)]) (rest := [(.ref b1280)]) (lenOf pd_9 rfl) rfl (nb rfl) (hb hby at_412) rfl e1280 (by decide) (by decide) fun T1290 v1290 L1290 X1290 hQ1290 => ?_
      obtain ⟨rfl, Nq1290, K1290, Ex1290, Fc1290, t1290, kb1290, gt1290, ft1290, nt1290, Fv1290, Vt1290⟩ := hQ1290
      have N1290 := Fr.app N1272 Nq1290
      have ne_l4_t1290 : l4 ≠ t1290 := Nat.ne_of_lt (Nat.lt_of_lt_of_le E4_1283.lt ft1290)
      have ne_t4_t1290 : t4 ≠ t1290 := Nat.ne_of_lt (Nat.lt_of_lt_of_le V4_1286.lt ft1290)
      have ne_b1164_t1290 : b1164 ≠ t1290 := Nat.ne_of_lt (Nat.lt_of_lt_of_le V1272_1287.lt ft1290)
      have ne_b1280_t1290 : b1280 ≠ t1290 := Nat.ne_of_lt (Nat.lt_of_lt_of_le A1280.lt ft1290)
      have hk1291 := Nat.le_trans hk1281 K1290.1
      have sf_b1164_1291 := Safe.keep K1290 (sfS sf_b1280_1281 sf0) H1281 sf_b1164_1281
      have sf_b1280_1291 := Safe.keep K1290 (sfS sf_b1280_1281 sf0) H1281 sf_b1280_1281
      have Rr1291 := Rr1281.trans (CHr.keep K1290 (sfS sf_b1280_1281 sf0) H1281)
      have H1291 := CHv.keep K1290 (sfS sf_b1280_1281 sf0) H1281
      have Ot_1292 := Ot_1282.keep K1290 (allS ge_b1280 all0)
      have E4_1293 := E4_1283.keep K1290
      have Fv4_1294 := Fv4_1284.keep K1290 (ninS ne_l4_b1280 nin0)
      have Fc4_1295 := Fc4_1285.keep K1290 (ninS ne_l4_b1280 nin0)
      have V4_1296 := V4_1286.keep K1290 (ninS ne_t4_b1280 nin0)
      have V1272_1297 := V1272_1287.keep K1290 (ninS ne_b1164_b1280 nin0)
      have A1280_1298 := A1280.keep K1290
      have Z_1299 := Nat.le_trans Z_1288 K1290.1
      have Tx1290 : (∀ c ∈ ([(nar .char cv_1172), (nar .char cv_1181), (nar .char cv_1190), (nar .char cv_1199), (nar .char cv_1208), (nar .char cv_1217), (nar .char cv_1226), (nar .char cv_1235), (nar .char cv_1244), (nar .char cv_1253), (nar .char cv_1262), (nar .char cv_1271)] : List Int32), ¬ c < 0 ∧ ¬ (255 : Int32) < c) ∧ ([(nar .char cv_1172), (nar .char cv_1181), (nar .char cv_1190), (nar .char cv_1199), (nar .char cv_1208), (nar .char cv_1217), (nar .char cv_1226), (nar .char cv_1235), (nar .char cv_1244), (nar .char cv_1253), (nar .char cv_1262), (nar .char cv_1271)] : List Int32).length ≤ 4000 := ⟨hp1289, Nat.le_of_ble_eq_true rfl⟩
      refine Owe.astore X1290.here hx (hb hby at_415) rfl rfl (l' := #[.val (.int p1), .val (.int p2), .val (.int p3), .val (.int p4), .val (.ref l4), .val (.int md), .val (.int l6), .val (.int c7), .val (.int ps), .val (.int (12 : Int32)), .val (.ref b1280), .val (.ref b1164)]) rfl ?_
      exact cut417 _ _ _ _ _ _ _ _ _ _ _ _ _ _ _ _ (X1290.mono (by decide) (by decide)) rfl hSt hk1291 hZt hownt N1290 Z_1299 Ot_1292 H1291 Rr1291 Ex1290 Fv1290 Fc1290 Vt1290 Tx1290
  refine Owe.iloadN X0.here hx (hb hby at_0) rfl ?_
  refine Owe.iconst X0.here hx (hb hby at_1) (w := (1 : Int32)) rfl ?_
  refine Owe.iand X0.here hx (hb hby at_2) rfl ?_
  by_cases hc3_1300 : (p1 &&& (1 : Int32)) = (0 : Int32)
  · skip
    refine Owe.ifNo X0.here hx (hb hby at_3) rfl ((if0 _ _).trans (teq hc3_1300).2) ?_
    refine Owe.ldcV X0 hx hZ hS0 (own_ew hw) H0 (by decide) hown1 (wd hw 0) (own_wS hw) e0 hk0 (vs := ((([115, 45, 115, 104, 97, 112, 101] : List Int32).map (fun c => c.toInt8.toInt32)).map Value.int)) (z := (7 : Int32)) (by decide) (by decide) rfl (hb hby at_6) (n := 28) (by decide) (by decide) (by decide) (by decide) fun l1301 T1301 h1301 k1301 lb1301 lk1301 X1301 e1301 E1301 hS1301 hk1301 hZ1301 hown1301 Ex1301 Fc1301 Fv1301 Vb1301 hC1301 Lt1301 nsf1301 => ?_
    have hk1302 := Nat.le_trans hk0 E1301.1
    have Ol_1303 := Ol.ext E1301
    have Z_1304 := Nat.le_trans Z0 E1301.1
    have Rr1301 := R0.trans hC1301
    have H1301 := hC1301.1
    have Tx1301 : (∀ c ∈ ([115, 45, 115, 104, 97, 112, 101] : List Int32), ¬ c < 0 ∧ ¬ (255 : Int32) < c) ∧ ([115, 45, 115, 104, 97, 112, 101] : List Int32).length ≤ 4000 := ⟨by decide, Nat.le_of_ble_eq_true rfl⟩
    refine Owe.goto X1301.here hx (hb hby at_8) (pc' := 13) (by decide) (by decide) ?_
    refine Owe.astore X1301.here hx (hb hby at_13) rfl rfl (l' := #[.val (.int p1), .val (.int p2), .val (.int p3), .val (.int p4), .val (.ref l1301), .unset, .unset, .unset, .unset, .unset, .unset, .unset]) rfl ?_
    refine Owe.iloadN X1301.here hx (hb hby at_15) rfl ?_
    refine Owe.iconst X1301.here hx (hb hby at_16) (w := (1 : Int32)) rfl ?_
    refine Owe.iushr X1301.here hx (hb hby at_17) rfl ?_
    refine Owe.bipush X1301.here hx (hb hby at_18) (w := (6 : Int32)) rfl ?_
    refine Owe.irem X1301.here hx (hb hby at_20) rfl (by decide) ?_
    rcases own_mod6 p1 with hk | hk | hk | hk | hk | hk
    · rw [hk]
      refine Owe.istore X1301.here hx (hb hby at_21) rfl (l' := #[.val (.int p1), .val (.int p2), .val (.int p3), .val (.int p4), .val (.ref l1301), .val (.int (0 : Int32)), .unset, .unset, .unset, .unset, .unset, .unset]) rfl ?_
      refine Owe.aload X1301.here hx (hb hby at_23) rfl rfl ?_
      have hcd1305 : StrChars.Road.CodA ([115, 45, 115, 104, 97, 112, 101] : List Int32) 0 (7 : Int32) ((([115, 45, 115, 104, 97, 112, 101] : List Int32).map (fun c => c.toInt8.toInt32)).map Value.int) := StrChars.Road.codOf (n := 7) rfl (fun x hx => (Tx1301.1 x hx).2)
      have hbd1305 := up ([115, 45, 115, 104, 97, 112, 101] : List Int32) Tx1301.1
      refine Owe.virt X1301 hx hZ1301 (y := Y8) (z := Y8) (Q := fun v h' L => v = some (.int (Int32.ofNat ([115, 45, 115, 104, 97, 112, 101] : List Int32).length)) ∧ L = [] ∧ h' = h1301) (kc := 0) (ks := 0) hown1301 (mvT hZ1301 (wd hw 8)) (mvT hZ1301 (wd hw 9)) (mvT hZ1301 (wd hw 11)) (mvT hZ1301 (wd hw 10)) (notFace_of_selects (args := #[]) (mvT hZ1301 (wd hw 11))) (by decide) (StrChars.Road.lenW (W := 0) hZ1301 (own_hln hw) (kI := 4) (wd hw 2) Ex1301 Fv1301 Fc1301 Vb1301 hcd1305 hbd1305 (S_COMPACT_STRINGS.ext Ol_1303.2) cs0 Tx1301.2 (by decide) (by decide)) (by rw [hml]; rfl) (a := l1301) (argsL := []) (rest := []) Ex1301 (lenOf pd_6 rfl) rfl (nb rfl) (hb hby at_25) rfl e1301 (by decide) (by decide) fun T1306 v1306 L1306 X1306 hQ1306 => ?_
      obtain ⟨rfl, rfl, e1306⟩ := hQ1306
      have N1306 := Fr.app N0 (Fr.nil n0)
      refine Owe.istore X1306.here hx (hb hby at_28) rfl (l' := #[.val (.int p1), .val (.int p2), .val (.int p3), .val (.int p4), .val (.ref l1301), .val (.int (0 : Int32)), .val (.int (7 : Int32)), .unset, .unset, .unset, .unset, .unset]) rfl ?_
      refine Owe.iloadN X1306.here hx (hb hby at_30) rfl ?_
      refine Owe.sipush X1306.here hx (hb hby at_31) (w := (255 : Int32)) rfl ?_
      refine Owe.iand X1306.here hx (hb hby at_34) rfl ?_
      refine Owe.i2c X1306.here hx (hb hby at_35) rfl ?_
      refine Owe.istore X1306.here hx (hb hby at_36) rfl (l' := #[.val (.int p1), .val (.int p2), .val (.int p3), .val (.int p4), .val (.ref l1301), .val (.int (0 : Int32)), .val (.int (7 : Int32)), .val (.int ((p3 &&& (255 : Int32)).toUInt32.toUInt16.toUInt32.toInt32)), .unset, .unset, .unset, .unset]) rfl ?_
      refine Owe.iconst X1306.here hx (hb hby at_38) (w := (-1 : Int32)) rfl ?_
      refine Owe.istore X1306.here hx (hb hby at_39) rfl (l' := #[.val (.int p1), .val (.int p2), .val (.int p3), .val (.int p4), .val (.ref l1301), .val (.int (0 : Int32)), .val (.int (7 : Int32)), .val (.int ((p3 &&& (255 : Int32)).toUInt32.toUInt16.toUInt32.toInt32)), .val (.int (-1 : Int32)), .unset, .unset, .unset]) rfl ?_
      refine Owe.iload X1306.here hx (hb hby at_41) rfl ?_
      refine Owe.istore X1306.here hx (hb hby at_43) rfl (l' := #[.val (.int p1), .val (.int p2), .val (.int p3), .val (.int p4), .val (.ref l1301), .val (.int (0 : Int32)), .val (.int (7 : Int32)), .val (.int ((p3 &&& (255 : Int32)).toUInt32.toUInt16.toUInt32.toInt32)), .val (.int (-1 : Int32)), .val (.int (7 : Int32)), .unset, .unset]) rfl ?_
      refine Owe.iload X1306.here hx (hb hby at_45) rfl ?_
      refine Owe.iconst X1306.here hx (hb hby at_47) (w := (1 : Int32)) rfl ?_
      refine Owe.icmpYes X1306.here hx (hb hby at_48) rfl (feq (by decide)).2 (pc' := 60) (by decide) (by decide) ?_
      refine Owe.iload X1306.here hx (hb hby at_60) rfl ?_
      refine Owe.iconst X1306.here hx (hb hby at_62) (w := (2 : Int32)) rfl ?_
      refine Owe.icmpYes X1306.here hx (hb hby at_63) rfl (feq (by decide)).2 (pc' := 75) (by decide) (by decide) ?_
      refine Owe.iload X1306.here hx (hb hby at_75) rfl ?_
      refine Owe.iconst X1306.here hx (hb hby at_77) (w := (3 : Int32)) rfl ?_
      refine Owe.icmpYes X1306.here hx (hb hby at_78) rfl (feq (by decide)).2 (pc' := 87) (by decide) (by decide) ?_
      refine Owe.iload X1306.here hx (hb hby at_87) rfl ?_
      refine Owe.iconst X1306.here hx (hb hby at_89) (w := (4 : Int32)) rfl ?_
      refine Owe.icmpYes X1306.here hx (hb hby at_90) rfl (feq (by decide)).2 (pc' := 98) (by decide) (by decide) ?_
      refine Owe.aconstNull X1306.here hx (hb hby at_98)  ?_
      refine Owe.astore X1306.here hx (hb hby at_99) rfl rfl (l' := #[.val (.int p1), .val (.int p2), .val (.int p3), .val (.int p4), .val (.ref l1301), .val (.int (0 : Int32)), .val (.int (7 : Int32)), .val (.int ((p3 &&& (255 : Int32)).toUInt32.toUInt16.toUInt32.toInt32)), .val (.int (-1 : Int32)), .val (.int (7 : Int32)), .val .null, .unset]) rfl ?_
      refine Owe.iload X1306.here hx (hb hby at_101) rfl ?_
      refine Owe.iconst X1306.here hx (hb hby at_103) (w := (5 : Int32)) rfl ?_
      refine Owe.icmpNo X1306.here hx (hb hby at_104) rfl (feq (by decide)).1 ?_
      exact cut107 _ _ _ _ _ _ _ _ _ _ _ _ _ _ (X1306.mono (by decide) (by decide)) e1306 hS1301 hk1301 hZ1301 hown1301 N1306 Z_1304 Ol_1303 H1301 Rr1301 Ex1301 Fv1301 Fc1301 Vb1301 Tx1301 (own_c255 _) (by decide)
    · rw [hk]
      refine Owe.istore X1301.here hx (hb hby at_21) rfl (l' := #[.val (.int p1), .val (.int p2), .val (.int p3), .val (.int p4), .val (.ref l1301), .val (.int (1 : Int32)), .unset, .unset, .unset, .unset, .unset, .unset]) rfl ?_
      refine Owe.aload X1301.here hx (hb hby at_23) rfl rfl ?_
      have hcd1307 : StrChars.Road.CodA ([115, 45, 115, 104, 97, 112, 101] : List Int32) 0 (7 : Int32) ((([115, 45, 115, 104, 97, 112, 101] : List Int32).map (fun c => c.toInt8.toInt32)).map Value.int) := StrChars.Road.codOf (n := 7) rfl (fun x hx => (Tx1301.1 x hx).2)
      have hbd1307 := up ([115, 45, 115, 104, 97, 112, 101] : List Int32) Tx1301.1
      refine Owe.virt X1301 hx hZ1301 (y := Y8) (z := Y8) (Q := fun v h' L => v = some (.int (Int32.ofNat ([115, 45, 115, 104, 97, 112, 101] : List Int32).length)) ∧ L = [] ∧ h' = h1301) (kc := 0) (ks := 0) hown1301 (mvT hZ1301 (wd hw 8)) (mvT hZ1301 (wd hw 9)) (mvT hZ1301 (wd hw 11)) (mvT hZ1301 (wd hw 10)) (notFace_of_selects (args := #[]) (mvT hZ1301 (wd hw 11))) (by decide) (StrChars.Road.lenW (W := 0) hZ1301 (own_hln hw) (kI := 4) (wd hw 2) Ex1301 Fv1301 Fc1301 Vb1301 hcd1307 hbd1307 (S_COMPACT_STRINGS.ext Ol_1303.2) cs0 Tx1301.2 (by decide) (by decide)) (by rw [hml]; rfl) (a := l1301) (argsL := []) (rest := []) Ex1301 (lenOf pd_6 rfl) rfl (nb rfl) (hb hby at_25) rfl e1301 (by decide) (by decide) fun T1308 v1308 L1308 X1308 hQ1308 => ?_
      obtain ⟨rfl, rfl, e1308⟩ := hQ1308
      have N1308 := Fr.app N0 (Fr.nil n0)
      refine Owe.istore X1308.here hx (hb hby at_28) rfl (l' := #[.val (.int p1), .val (.int p2), .val (.int p3), .val (.int p4), .val (.ref l1301), .val (.int (1 : Int32)), .val (.int (7 : Int32)), .unset, .unset, .unset, .unset, .unset]) rfl ?_
      refine Owe.iloadN X1308.here hx (hb hby at_30) rfl ?_
      refine Owe.sipush X1308.here hx (hb hby at_31) (w := (255 : Int32)) rfl ?_
      refine Owe.iand X1308.here hx (hb hby at_34) rfl ?_
      refine Owe.i2c X1308.here hx (hb hby at_35) rfl ?_
      refine Owe.istore X1308.here hx (hb hby at_36) rfl (l' := #[.val (.int p1), .val (.int p2), .val (.int p3), .val (.int p4), .val (.ref l1301), .val (.int (1 : Int32)), .val (.int (7 : Int32)), .val (.int ((p3 &&& (255 : Int32)).toUInt32.toUInt16.toUInt32.toInt32)), .unset, .unset, .unset, .unset]) rfl ?_
      refine Owe.iconst X1308.here hx (hb hby at_38) (w := (-1 : Int32)) rfl ?_
      refine Owe.istore X1308.here hx (hb hby at_39) rfl (l' := #[.val (.int p1), .val (.int p2), .val (.int p3), .val (.int p4), .val (.ref l1301), .val (.int (1 : Int32)), .val (.int (7 : Int32)), .val (.int ((p3 &&& (255 : Int32)).toUInt32.toUInt16.toUInt32.toInt32)), .val (.int (-1 : Int32)), .unset, .unset, .unset]) rfl ?_
      refine Owe.iload X1308.here hx (hb hby at_41) rfl ?_
      refine Owe.istore X1308.here hx (hb hby at_43) rfl (l' := #[.val (.int p1), .val (.int p2), .val (.int p3), .val (.int p4), .val (.ref l1301), .val (.int (1 : Int32)), .val (.int (7 : Int32)), .val (.int ((p3 &&& (255 : Int32)).toUInt32.toUInt16.toUInt32.toInt32)), .val (.int (-1 : Int32)), .val (.int (7 : Int32)), .unset, .unset]) rfl ?_
      refine Owe.iload X1308.here hx (hb hby at_45) rfl ?_
      refine Owe.iconst X1308.here hx (hb hby at_47) (w := (1 : Int32)) rfl ?_
      refine Owe.icmpNo X1308.here hx (hb hby at_48) rfl (teq (by decide)).2 ?_
      refine Owe.iloadN X1308.here hx (hb hby at_51) rfl ?_
      refine Owe.ldcI X1308 hx (v := (2147483647 : Int32)) hown1301 (mvT hZ1301 (wd hw 121)) (hb hby at_52) ?_
      refine Owe.iand X1308.here hx (hb hby at_54) rfl ?_
      refine Owe.iload X1308.here hx (hb hby at_55) rfl ?_
      refine Owe.irem X1308.here hx (hb hby at_57) rfl (by decide) ?_
      refine Owe.istore X1308.here hx (hb hby at_58) rfl (l' := #[.val (.int p1), .val (.int p2), .val (.int p3), .val (.int p4), .val (.ref l1301), .val (.int (1 : Int32)), .val (.int (7 : Int32)), .val (.int ((p3 &&& (255 : Int32)).toUInt32.toUInt16.toUInt32.toInt32)), .val (.int ((p2 &&& (2147483647 : Int32)) - ((p2 &&& (2147483647 : Int32)) / (7 : Int32)) * (7 : Int32))), .val (.int (7 : Int32)), .unset, .unset]) rfl ?_
      refine Owe.iload X1308.here hx (hb hby at_60) rfl ?_
      refine Owe.iconst X1308.here hx (hb hby at_62) (w := (2 : Int32)) rfl ?_
      refine Owe.icmpYes X1308.here hx (hb hby at_63) rfl (feq (by decide)).2 (pc' := 75) (by decide) (by decide) ?_
      refine Owe.iload X1308.here hx (hb hby at_75) rfl ?_
      refine Owe.iconst X1308.here hx (hb hby at_77) (w := (3 : Int32)) rfl ?_
      refine Owe.icmpYes X1308.here hx (hb hby at_78) rfl (feq (by decide)).2 (pc' := 87) (by decide) (by decide) ?_
      refine Owe.iload X1308.here hx (hb hby at_87) rfl ?_
      refine Owe.iconst X1308.here hx (hb hby at_89) (w := (4 : Int32)) rfl ?_
      refine Owe.icmpYes X1308.here hx (hb hby at_90) rfl (feq (by decide)).2 (pc' := 98) (by decide) (by decide) ?_
      refine Owe.aconstNull X1308.here hx (hb hby at_98)  ?_
      refine Owe.astore X1308.here hx (hb hby at_99) rfl rfl (l' := #[.val (.int p1), .val (.int p2), .val (.int p3), .val (.int p4), .val (.ref l1301), .val (.int (1 : Int32)), .val (.int (7 : Int32)), .val (.int ((p3 &&& (255 : Int32)).toUInt32.toUInt16.toUInt32.toInt32)), .val (.int ((p2 &&& (2147483647 : Int32)) - ((p2 &&& (2147483647 : Int32)) / (7 : Int32)) * (7 : Int32))), .val (.int (7 : Int32)), .val .null, .unset]) rfl ?_
      refine Owe.iload X1308.here hx (hb hby at_101) rfl ?_
      refine Owe.iconst X1308.here hx (hb hby at_103) (w := (5 : Int32)) rfl ?_
      refine Owe.icmpNo X1308.here hx (hb hby at_104) rfl (feq (by decide)).1 ?_
      exact cut107 _ _ _ _ _ _ _ _ _ _ _ _ _ _ (X1308.mono (by decide) (by decide)) e1308 hS1301 hk1301 hZ1301 hown1301 N1308 Z_1304 Ol_1303 H1301 Rr1301 Ex1301 Fv1301 Fc1301 Vb1301 Tx1301 (own_c255 _) (by decide)
    · rw [hk]
      refine Owe.istore X1301.here hx (hb hby at_21) rfl (l' := #[.val (.int p1), .val (.int p2), .val (.int p3), .val (.int p4), .val (.ref l1301), .val (.int (2 : Int32)), .unset, .unset, .unset, .unset, .unset, .unset]) rfl ?_
      refine Owe.aload X1301.here hx (hb hby at_23) rfl rfl ?_
      have hcd1309 : StrChars.Road.CodA ([115, 45, 115, 104, 97, 112, 101] : List Int32) 0 (7 : Int32) ((([115, 45, 115, 104, 97, 112, 101] : List Int32).map (fun c => c.toInt8.toInt32)).map Value.int) := StrChars.Road.codOf (n := 7) rfl (fun x hx => (Tx1301.1 x hx).2)
      have hbd1309 := up ([115, 45, 115, 104, 97, 112, 101] : List Int32) Tx1301.1
      refine Owe.virt X1301 hx hZ1301 (y := Y8) (z := Y8) (Q := fun v h' L => v = some (.int (Int32.ofNat ([115, 45, 115, 104, 97, 112, 101] : List Int32).length)) ∧ L = [] ∧ h' = h1301) (kc := 0) (ks := 0) hown1301 (mvT hZ1301 (wd hw 8)) (mvT hZ1301 (wd hw 9)) (mvT hZ1301 (wd hw 11)) (mvT hZ1301 (wd hw 10)) (notFace_of_selects (args := #[]) (mvT hZ1301 (wd hw 11))) (by decide) (StrChars.Road.lenW (W := 0) hZ1301 (own_hln hw) (kI := 4) (wd hw 2) Ex1301 Fv1301 Fc1301 Vb1301 hcd1309 hbd1309 (S_COMPACT_STRINGS.ext Ol_1303.2) cs0 Tx1301.2 (by decide) (by decide)) (by rw [hml]; rfl) (a := l1301) (argsL := []) (rest := []) Ex1301 (lenOf pd_6 rfl) rfl (nb rfl) (hb hby at_25) rfl e1301 (by decide) (by decide) fun T1310 v1310 L1310 X1310 hQ1310 => ?_
      obtain ⟨rfl, rfl, e1310⟩ := hQ1310
      have N1310 := Fr.app N0 (Fr.nil n0)
      refine Owe.istore X1310.here hx (hb hby at_28) rfl (l' := #[.val (.int p1), .val (.int p2), .val (.int p3), .val (.int p4), .val (.ref l1301), .val (.int (2 : Int32)), .val (.int (7 : Int32)), .unset, .unset, .unset, .unset, .unset]) rfl ?_
      refine Owe.iloadN X1310.here hx (hb hby at_30) rfl ?_
      refine Owe.sipush X1310.here hx (hb hby at_31) (w := (255 : Int32)) rfl ?_
      refine Owe.iand X1310.here hx (hb hby at_34) rfl ?_
      refine Owe.i2c X1310.here hx (hb hby at_35) rfl ?_
      refine Owe.istore X1310.here hx (hb hby at_36) rfl (l' := #[.val (.int p1), .val (.int p2), .val (.int p3), .val (.int p4), .val (.ref l1301), .val (.int (2 : Int32)), .val (.int (7 : Int32)), .val (.int ((p3 &&& (255 : Int32)).toUInt32.toUInt16.toUInt32.toInt32)), .unset, .unset, .unset, .unset]) rfl ?_
      refine Owe.iconst X1310.here hx (hb hby at_38) (w := (-1 : Int32)) rfl ?_
      refine Owe.istore X1310.here hx (hb hby at_39) rfl (l' := #[.val (.int p1), .val (.int p2), .val (.int p3), .val (.int p4), .val (.ref l1301), .val (.int (2 : Int32)), .val (.int (7 : Int32)), .val (.int ((p3 &&& (255 : Int32)).toUInt32.toUInt16.toUInt32.toInt32)), .val (.int (-1 : Int32)), .unset, .unset, .unset]) rfl ?_
      refine Owe.iload X1310.here hx (hb hby at_41) rfl ?_
      refine Owe.istore X1310.here hx (hb hby at_43) rfl (l' := #[.val (.int p1), .val (.int p2), .val (.int p3), .val (.int p4), .val (.ref l1301), .val (.int (2 : Int32)), .val (.int (7 : Int32)), .val (.int ((p3 &&& (255 : Int32)).toUInt32.toUInt16.toUInt32.toInt32)), .val (.int (-1 : Int32)), .val (.int (7 : Int32)), .unset, .unset]) rfl ?_
      refine Owe.iload X1310.here hx (hb hby at_45) rfl ?_
      refine Owe.iconst X1310.here hx (hb hby at_47) (w := (1 : Int32)) rfl ?_
      refine Owe.icmpYes X1310.here hx (hb hby at_48) rfl (feq (by decide)).2 (pc' := 60) (by decide) (by decide) ?_
      refine Owe.iload X1310.here hx (hb hby at_60) rfl ?_
      refine Owe.iconst X1310.here hx (hb hby at_62) (w := (2 : Int32)) rfl ?_
      refine Owe.icmpNo X1310.here hx (hb hby at_63) rfl (teq (by decide)).2 ?_
      refine Owe.iloadN X1310.here hx (hb hby at_66) rfl ?_
      refine Owe.ldcI X1310 hx (v := (2147483647 : Int32)) hown1301 (mvT hZ1301 (wd hw 121)) (hb hby at_67) ?_
      refine Owe.iand X1310.here hx (hb hby at_69) rfl ?_
      refine Owe.iload X1310.here hx (hb hby at_70) rfl ?_
      refine Owe.irem X1310.here hx (hb hby at_72) rfl (by decide) ?_
      rcases own_rem7 p2 with hk | hk | hk | hk | hk | hk | hk
      · rw [hk]
        refine Owe.istore X1310.here hx (hb hby at_73) rfl (l' := #[.val (.int p1), .val (.int p2), .val (.int p3), .val (.int p4), .val (.ref l1301), .val (.int (2 : Int32)), .val (.int (7 : Int32)), .val (.int ((p3 &&& (255 : Int32)).toUInt32.toUInt16.toUInt32.toInt32)), .val (.int (-1 : Int32)), .val (.int (0 : Int32)), .unset, .unset]) rfl ?_
        refine Owe.iload X1310.here hx (hb hby at_75) rfl ?_
        refine Owe.iconst X1310.here hx (hb hby at_77) (w := (3 : Int32)) rfl ?_
        refine Owe.icmpYes X1310.here hx (hb hby at_78) rfl (feq (by decide)).2 (pc' := 87) (by decide) (by decide) ?_
        refine Owe.iload X1310.here hx (hb hby at_87) rfl ?_
        refine Owe.iconst X1310.here hx (hb hby at_89) (w := (4 : Int32)) rfl ?_
        refine Owe.icmpYes X1310.here hx (hb hby at_90) rfl (feq (by decide)).2 (pc' := 98) (by decide) (by decide) ?_
        refine Owe.aconstNull X1310.here hx (hb hby at_98)  ?_
        refine Owe.astore X1310.here hx (hb hby at_99) rfl rfl (l' := #[.val (.int p1), .val (.int p2), .val (.int p3), .val (.int p4), .val (.ref l1301), .val (.int (2 : Int32)), .val (.int (7 : Int32)), .val (.int ((p3 &&& (255 : Int32)).toUInt32.toUInt16.toUInt32.toInt32)), .val (.int (-1 : Int32)), .val (.int (0 : Int32)), .val .null, .unset]) rfl ?_
        refine Owe.iload X1310.here hx (hb hby at_101) rfl ?_
        refine Owe.iconst X1310.here hx (hb hby at_103) (w := (5 : Int32)) rfl ?_
        refine Owe.icmpNo X1310.here hx (hb hby at_104) rfl (feq (by decide)).1 ?_
        exact cut107 _ _ _ _ _ _ _ _ _ _ _ _ _ _ (X1310.mono (by decide) (by decide)) e1310 hS1301 hk1301 hZ1301 hown1301 N1310 Z_1304 Ol_1303 H1301 Rr1301 Ex1301 Fv1301 Fc1301 Vb1301 Tx1301 (own_c255 _) (by decide)
      · rw [hk]
        refine Owe.istore X1310.here hx (hb hby at_73) rfl (l' := #[.val (.int p1), .val (.int p2), .val (.int p3), .val (.int p4), .val (.ref l1301), .val (.int (2 : Int32)), .val (.int (7 : Int32)), .val (.int ((p3 &&& (255 : Int32)).toUInt32.toUInt16.toUInt32.toInt32)), .val (.int (-1 : Int32)), .val (.int (1 : Int32)), .unset, .unset]) rfl ?_
        refine Owe.iload X1310.here hx (hb hby at_75) rfl ?_
        refine Owe.iconst X1310.here hx (hb hby at_77) (w := (3 : Int32)) rfl ?_
        refine Owe.icmpYes X1310.here hx (hb hby at_78) rfl (feq (by decide)).2 (pc' := 87) (by decide) (by decide) ?_
        refine Owe.iload X1310.here hx (hb hby at_87) rfl ?_
        refine Owe.iconst X1310.here hx (hb hby at_89) (w := (4 : Int32)) rfl ?_
        refine Owe.icmpYes X1310.here hx (hb hby at_90) rfl (feq (by decide)).2 (pc' := 98) (by decide) (by decide) ?_
        refine Owe.aconstNull X1310.here hx (hb hby at_98)  ?_
        refine Owe.astore X1310.here hx (hb hby at_99) rfl rfl (l' := #[.val (.int p1), .val (.int p2), .val (.int p3), .val (.int p4), .val (.ref l1301), .val (.int (2 : Int32)), .val (.int (7 : Int32)), .val (.int ((p3 &&& (255 : Int32)).toUInt32.toUInt16.toUInt32.toInt32)), .val (.int (-1 : Int32)), .val (.int (1 : Int32)), .val .null, .unset]) rfl ?_
        refine Owe.iload X1310.here hx (hb hby at_101) rfl ?_
        refine Owe.iconst X1310.here hx (hb hby at_103) (w := (5 : Int32)) rfl ?_
        refine Owe.icmpNo X1310.here hx (hb hby at_104) rfl (feq (by decide)).1 ?_
        exact cut107 _ _ _ _ _ _ _ _ _ _ _ _ _ _ (X1310.mono (by decide) (by decide)) e1310 hS1301 hk1301 hZ1301 hown1301 N1310 Z_1304 Ol_1303 H1301 Rr1301 Ex1301 Fv1301 Fc1301 Vb1301 Tx1301 (own_c255 _) (by decide)
      · rw [hk]
        refine Owe.istore X1310.here hx (hb hby at_73) rfl (l' := #[.val (.int p1), .val (.int p2), .val (.int p3), .val (.int p4), .val (.ref l1301), .val (.int (2 : Int32)), .val (.int (7 : Int32)), .val (.int ((p3 &&& (255 : Int32)).toUInt32.toUInt16.toUInt32.toInt32)), .val (.int (-1 : Int32)), .val (.int (2 : Int32)), .unset, .unset]) rfl ?_
        refine Owe.iload X1310.here hx (hb hby at_75) rfl ?_
        refine Owe.iconst X1310.here hx (hb hby at_77) (w := (3 : Int32)) rfl ?_
        refine Owe.icmpYes X1310.here hx (hb hby at_78) rfl (feq (by decide)).2 (pc' := 87) (by decide) (by decide) ?_
        refine Owe.iload X1310.here hx (hb hby at_87) rfl ?_
        refine Owe.iconst X1310.here hx (hb hby at_89) (w := (4 : Int32)) rfl ?_
        refine Owe.icmpYes X1310.here hx (hb hby at_90) rfl (feq (by decide)).2 (pc' := 98) (by decide) (by decide) ?_
        refine Owe.aconstNull X1310.here hx (hb hby at_98)  ?_
        refine Owe.astore X1310.here hx (hb hby at_99) rfl rfl (l' := #[.val (.int p1), .val (.int p2), .val (.int p3), .val (.int p4), .val (.ref l1301), .val (.int (2 : Int32)), .val (.int (7 : Int32)), .val (.int ((p3 &&& (255 : Int32)).toUInt32.toUInt16.toUInt32.toInt32)), .val (.int (-1 : Int32)), .val (.int (2 : Int32)), .val .null, .unset]) rfl ?_
        refine Owe.iload X1310.here hx (hb hby at_101) rfl ?_
        refine Owe.iconst X1310.here hx (hb hby at_103) (w := (5 : Int32)) rfl ?_
        refine Owe.icmpNo X1310.here hx (hb hby at_104) rfl (feq (by decide)).1 ?_
        exact cut107 _ _ _ _ _ _ _ _ _ _ _ _ _ _ (X1310.mono (by decide) (by decide)) e1310 hS1301 hk1301 hZ1301 hown1301 N1310 Z_1304 Ol_1303 H1301 Rr1301 Ex1301 Fv1301 Fc1301 Vb1301 Tx1301 (own_c255 _) (by decide)
      · rw [hk]
        refine Owe.istore X1310.here hx (hb hby at_73) rfl (l' := #[.val (.int p1), .val (.int p2), .val (.int p3), .val (.int p4), .val (.ref l1301), .val (.int (2 : Int32)), .val (.int (7 : Int32)), .val (.int ((p3 &&& (255 : Int32)).toUInt32.toUInt16.toUInt32.toInt32)), .val (.int (-1 : Int32)), .val (.int (3 : Int32)), .unset, .unset]) rfl ?_
        refine Owe.iload X1310.here hx (hb hby at_75) rfl ?_
        refine Owe.iconst X1310.here hx (hb hby at_77) (w := (3 : Int32)) rfl ?_
        refine Owe.icmpYes X1310.here hx (hb hby at_78) rfl (feq (by decide)).2 (pc' := 87) (by decide) (by decide) ?_
        refine Owe.iload X1310.here hx (hb hby at_87) rfl ?_
        refine Owe.iconst X1310.here hx (hb hby at_89) (w := (4 : Int32)) rfl ?_
        refine Owe.icmpYes X1310.here hx (hb hby at_90) rfl (feq (by decide)).2 (pc' := 98) (by decide) (by decide) ?_
        refine Owe.aconstNull X1310.here hx (hb hby at_98)  ?_
        refine Owe.astore X1310.here hx (hb hby at_99) rfl rfl (l' := #[.val (.int p1), .val (.int p2), .val (.int p3), .val (.int p4), .val (.ref l1301), .val (.int (2 : Int32)), .val (.int (7 : Int32)), .val (.int ((p3 &&& (255 : Int32)).toUInt32.toUInt16.toUInt32.toInt32)), .val (.int (-1 : Int32)), .val (.int (3 : Int32)), .val .null, .unset]) rfl ?_
        refine Owe.iload X1310.here hx (hb hby at_101) rfl ?_
        refine Owe.iconst X1310.here hx (hb hby at_103) (w := (5 : Int32)) rfl ?_
        refine Owe.icmpNo X1310.here hx (hb hby at_104) rfl (feq (by decide)).1 ?_
        exact cut107 _ _ _ _ _ _ _ _ _ _ _ _ _ _ (X1310.mono (by decide) (by decide)) e1310 hS1301 hk1301 hZ1301 hown1301 N1310 Z_1304 Ol_1303 H1301 Rr1301 Ex1301 Fv1301 Fc1301 Vb1301 Tx1301 (own_c255 _) (by decide)
      · rw [hk]
        refine Owe.istore X1310.here hx (hb hby at_73) rfl (l' := #[.val (.int p1), .val (.int p2), .val (.int p3), .val (.int p4), .val (.ref l1301), .val (.int (2 : Int32)), .val (.int (7 : Int32)), .val (.int ((p3 &&& (255 : Int32)).toUInt32.toUInt16.toUInt32.toInt32)), .val (.int (-1 : Int32)), .val (.int (4 : Int32)), .unset, .unset]) rfl ?_
        refine Owe.iload X1310.here hx (hb hby at_75) rfl ?_
        refine Owe.iconst X1310.here hx (hb hby at_77) (w := (3 : Int32)) rfl ?_
        refine Owe.icmpYes X1310.here hx (hb hby at_78) rfl (feq (by decide)).2 (pc' := 87) (by decide) (by decide) ?_
        refine Owe.iload X1310.here hx (hb hby at_87) rfl ?_
        refine Owe.iconst X1310.here hx (hb hby at_89) (w := (4 : Int32)) rfl ?_
        refine Owe.icmpYes X1310.here hx (hb hby at_90) rfl (feq (by decide)).2 (pc' := 98) (by decide) (by decide) ?_
        refine Owe.aconstNull X1310.here hx (hb hby at_98)  ?_
        refine Owe.astore X1310.here hx (hb hby at_99) rfl rfl (l' := #[.val (.int p1), .val (.int p2), .val (.int p3), .val (.int p4), .val (.ref l1301), .val (.int (2 : Int32)), .val (.int (7 : Int32)), .val (.int ((p3 &&& (255 : Int32)).toUInt32.toUInt16.toUInt32.toInt32)), .val (.int (-1 : Int32)), .val (.int (4 : Int32)), .val .null, .unset]) rfl ?_
        refine Owe.iload X1310.here hx (hb hby at_101) rfl ?_
        refine Owe.iconst X1310.here hx (hb hby at_103) (w := (5 : Int32)) rfl ?_
        refine Owe.icmpNo X1310.here hx (hb hby at_104) rfl (feq (by decide)).1 ?_
        exact cut107 _ _ _ _ _ _ _ _ _ _ _ _ _ _ (X1310.mono (by decide) (by decide)) e1310 hS1301 hk1301 hZ1301 hown1301 N1310 Z_1304 Ol_1303 H1301 Rr1301 Ex1301 Fv1301 Fc1301 Vb1301 Tx1301 (own_c255 _) (by decide)
      · rw [hk]
        refine Owe.istore X1310.here hx (hb hby at_73) rfl (l' := #[.val (.int p1), .val (.int p2), .val (.int p3), .val (.int p4), .val (.ref l1301), .val (.int (2 : Int32)), .val (.int (7 : Int32)), .val (.int ((p3 &&& (255 : Int32)).toUInt32.toUInt16.toUInt32.toInt32)), .val (.int (-1 : Int32)), .val (.int (5 : Int32)), .unset, .unset]) rfl ?_
        refine Owe.iload X1310.here hx (hb hby at_75) rfl ?_
        refine Owe.iconst X1310.here hx (hb hby at_77) (w := (3 : Int32)) rfl ?_
        refine Owe.icmpYes X1310.here hx (hb hby at_78) rfl (feq (by decide)).2 (pc' := 87) (by decide) (by decide) ?_
        refine Owe.iload X1310.here hx (hb hby at_87) rfl ?_
        refine Owe.iconst X1310.here hx (hb hby at_89) (w := (4 : Int32)) rfl ?_
        refine Owe.icmpYes X1310.here hx (hb hby at_90) rfl (feq (by decide)).2 (pc' := 98) (by decide) (by decide) ?_
        refine Owe.aconstNull X1310.here hx (hb hby at_98)  ?_
        refine Owe.astore X1310.here hx (hb hby at_99) rfl rfl (l' := #[.val (.int p1), .val (.int p2), .val (.int p3), .val (.int p4), .val (.ref l1301), .val (.int (2 : Int32)), .val (.int (7 : Int32)), .val (.int ((p3 &&& (255 : Int32)).toUInt32.toUInt16.toUInt32.toInt32)), .val (.int (-1 : Int32)), .val (.int (5 : Int32)), .val .null, .unset]) rfl ?_
        refine Owe.iload X1310.here hx (hb hby at_101) rfl ?_
        refine Owe.iconst X1310.here hx (hb hby at_103) (w := (5 : Int32)) rfl ?_
        refine Owe.icmpNo X1310.here hx (hb hby at_104) rfl (feq (by decide)).1 ?_
        exact cut107 _ _ _ _ _ _ _ _ _ _ _ _ _ _ (X1310.mono (by decide) (by decide)) e1310 hS1301 hk1301 hZ1301 hown1301 N1310 Z_1304 Ol_1303 H1301 Rr1301 Ex1301 Fv1301 Fc1301 Vb1301 Tx1301 (own_c255 _) (by decide)
      · rw [hk]
        refine Owe.istore X1310.here hx (hb hby at_73) rfl (l' := #[.val (.int p1), .val (.int p2), .val (.int p3), .val (.int p4), .val (.ref l1301), .val (.int (2 : Int32)), .val (.int (7 : Int32)), .val (.int ((p3 &&& (255 : Int32)).toUInt32.toUInt16.toUInt32.toInt32)), .val (.int (-1 : Int32)), .val (.int (6 : Int32)), .unset, .unset]) rfl ?_
        refine Owe.iload X1310.here hx (hb hby at_75) rfl ?_
        refine Owe.iconst X1310.here hx (hb hby at_77) (w := (3 : Int32)) rfl ?_
        refine Owe.icmpYes X1310.here hx (hb hby at_78) rfl (feq (by decide)).2 (pc' := 87) (by decide) (by decide) ?_
        refine Owe.iload X1310.here hx (hb hby at_87) rfl ?_
        refine Owe.iconst X1310.here hx (hb hby at_89) (w := (4 : Int32)) rfl ?_
        refine Owe.icmpYes X1310.here hx (hb hby at_90) rfl (feq (by decide)).2 (pc' := 98) (by decide) (by decide) ?_
        refine Owe.aconstNull X1310.here hx (hb hby at_98)  ?_
        refine Owe.astore X1310.here hx (hb hby at_99) rfl rfl (l' := #[.val (.int p1), .val (.int p2), .val (.int p3), .val (.int p4), .val (.ref l1301), .val (.int (2 : Int32)), .val (.int (7 : Int32)), .val (.int ((p3 &&& (255 : Int32)).toUInt32.toUInt16.toUInt32.toInt32)), .val (.int (-1 : Int32)), .val (.int (6 : Int32)), .val .null, .unset]) rfl ?_
        refine Owe.iload X1310.here hx (hb hby at_101) rfl ?_
        refine Owe.iconst X1310.here hx (hb hby at_103) (w := (5 : Int32)) rfl ?_
        refine Owe.icmpNo X1310.here hx (hb hby at_104) rfl (feq (by decide)).1 ?_
        exact cut107 _ _ _ _ _ _ _ _ _ _ _ _ _ _ (X1310.mono (by decide) (by decide)) e1310 hS1301 hk1301 hZ1301 hown1301 N1310 Z_1304 Ol_1303 H1301 Rr1301 Ex1301 Fv1301 Fc1301 Vb1301 Tx1301 (own_c255 _) (by decide)
    · rw [hk]
      refine Owe.istore X1301.here hx (hb hby at_21) rfl (l' := #[.val (.int p1), .val (.int p2), .val (.int p3), .val (.int p4), .val (.ref l1301), .val (.int (3 : Int32)), .unset, .unset, .unset, .unset, .unset, .unset]) rfl ?_
      refine Owe.aload X1301.here hx (hb hby at_23) rfl rfl ?_
      have hcd1311 : StrChars.Road.CodA ([115, 45, 115, 104, 97, 112, 101] : List Int32) 0 (7 : Int32) ((([115, 45, 115, 104, 97, 112, 101] : List Int32).map (fun c => c.toInt8.toInt32)).map Value.int) := StrChars.Road.codOf (n := 7) rfl (fun x hx => (Tx1301.1 x hx).2)
      have hbd1311 := up ([115, 45, 115, 104, 97, 112, 101] : List Int32) Tx1301.1
      refine Owe.virt X1301 hx hZ1301 (y := Y8) (z := Y8) (Q := fun v h' L => v = some (.int (Int32.ofNat ([115, 45, 115, 104, 97, 112, 101] : List Int32).length)) ∧ L = [] ∧ h' = h1301) (kc := 0) (ks := 0) hown1301 (mvT hZ1301 (wd hw 8)) (mvT hZ1301 (wd hw 9)) (mvT hZ1301 (wd hw 11)) (mvT hZ1301 (wd hw 10)) (notFace_of_selects (args := #[]) (mvT hZ1301 (wd hw 11))) (by decide) (StrChars.Road.lenW (W := 0) hZ1301 (own_hln hw) (kI := 4) (wd hw 2) Ex1301 Fv1301 Fc1301 Vb1301 hcd1311 hbd1311 (S_COMPACT_STRINGS.ext Ol_1303.2) cs0 Tx1301.2 (by decide) (by decide)) (by rw [hml]; rfl) (a := l1301) (argsL := []) (rest := []) Ex1301 (lenOf pd_6 rfl) rfl (nb rfl) (hb hby at_25) rfl e1301 (by decide) (by decide) fun T1312 v1312 L1312 X1312 hQ1312 => ?_
      obtain ⟨rfl, rfl, e1312⟩ := hQ1312
      have N1312 := Fr.app N0 (Fr.nil n0)
      refine Owe.istore X1312.here hx (hb hby at_28) rfl (l' := #[.val (.int p1), .val (.int p2), .val (.int p3), .val (.int p4), .val (.ref l1301), .val (.int (3 : Int32)), .val (.int (7 : Int32)), .unset, .unset, .unset, .unset, .unset]) rfl ?_
      refine Owe.iloadN X1312.here hx (hb hby at_30) rfl ?_
      refine Owe.sipush X1312.here hx (hb hby at_31) (w := (255 : Int32)) rfl ?_
      refine Owe.iand X1312.here hx (hb hby at_34) rfl ?_
      refine Owe.i2c X1312.here hx (hb hby at_35) rfl ?_
      refine Owe.istore X1312.here hx (hb hby at_36) rfl (l' := #[.val (.int p1), .val (.int p2), .val (.int p3), .val (.int p4), .val (.ref l1301), .val (.int (3 : Int32)), .val (.int (7 : Int32)), .val (.int ((p3 &&& (255 : Int32)).toUInt32.toUInt16.toUInt32.toInt32)), .unset, .unset, .unset, .unset]) rfl ?_
      refine Owe.iconst X1312.here hx (hb hby at_38) (w := (-1 : Int32)) rfl ?_
      refine Owe.istore X1312.here hx (hb hby at_39) rfl (l' := #[.val (.int p1), .val (.int p2), .val (.int p3), .val (.int p4), .val (.ref l1301), .val (.int (3 : Int32)), .val (.int (7 : Int32)), .val (.int ((p3 &&& (255 : Int32)).toUInt32.toUInt16.toUInt32.toInt32)), .val (.int (-1 : Int32)), .unset, .unset, .unset]) rfl ?_
      refine Owe.iload X1312.here hx (hb hby at_41) rfl ?_
      refine Owe.istore X1312.here hx (hb hby at_43) rfl (l' := #[.val (.int p1), .val (.int p2), .val (.int p3), .val (.int p4), .val (.ref l1301), .val (.int (3 : Int32)), .val (.int (7 : Int32)), .val (.int ((p3 &&& (255 : Int32)).toUInt32.toUInt16.toUInt32.toInt32)), .val (.int (-1 : Int32)), .val (.int (7 : Int32)), .unset, .unset]) rfl ?_
      refine Owe.iload X1312.here hx (hb hby at_45) rfl ?_
      refine Owe.iconst X1312.here hx (hb hby at_47) (w := (1 : Int32)) rfl ?_
      refine Owe.icmpYes X1312.here hx (hb hby at_48) rfl (feq (by decide)).2 (pc' := 60) (by decide) (by decide) ?_
      refine Owe.iload X1312.here hx (hb hby at_60) rfl ?_
      refine Owe.iconst X1312.here hx (hb hby at_62) (w := (2 : Int32)) rfl ?_
      refine Owe.icmpYes X1312.here hx (hb hby at_63) rfl (feq (by decide)).2 (pc' := 75) (by decide) (by decide) ?_
      refine Owe.iload X1312.here hx (hb hby at_75) rfl ?_
      refine Owe.iconst X1312.here hx (hb hby at_77) (w := (3 : Int32)) rfl ?_
      refine Owe.icmpNo X1312.here hx (hb hby at_78) rfl (teq (by decide)).2 ?_
      refine Owe.iload X1312.here hx (hb hby at_81) rfl ?_
      refine Owe.iconst X1312.here hx (hb hby at_83) (w := (1 : Int32)) rfl ?_
      refine Owe.iadd X1312.here hx (hb hby at_84) rfl ?_
      refine Owe.istore X1312.here hx (hb hby at_85) rfl (l' := #[.val (.int p1), .val (.int p2), .val (.int p3), .val (.int p4), .val (.ref l1301), .val (.int (3 : Int32)), .val (.int (7 : Int32)), .val (.int ((p3 &&& (255 : Int32)).toUInt32.toUInt16.toUInt32.toInt32)), .val (.int (-1 : Int32)), .val (.int (8 : Int32)), .unset, .unset]) rfl ?_
      refine Owe.iload X1312.here hx (hb hby at_87) rfl ?_
      refine Owe.iconst X1312.here hx (hb hby at_89) (w := (4 : Int32)) rfl ?_
      refine Owe.icmpYes X1312.here hx (hb hby at_90) rfl (feq (by decide)).2 (pc' := 98) (by decide) (by decide) ?_
      refine Owe.aconstNull X1312.here hx (hb hby at_98)  ?_
      refine Owe.astore X1312.here hx (hb hby at_99) rfl rfl (l' := #[.val (.int p1), .val (.int p2), .val (.int p3), .val (.int p4), .val (.ref l1301), .val (.int (3 : Int32)), .val (.int (7 : Int32)), .val (.int ((p3 &&& (255 : Int32)).toUInt32.toUInt16.toUInt32.toInt32)), .val (.int (-1 : Int32)), .val (.int (8 : Int32)), .val .null, .unset]) rfl ?_
      refine Owe.iload X1312.here hx (hb hby at_101) rfl ?_
      refine Owe.iconst X1312.here hx (hb hby at_103) (w := (5 : Int32)) rfl ?_
      refine Owe.icmpNo X1312.here hx (hb hby at_104) rfl (feq (by decide)).1 ?_
      exact cut107 _ _ _ _ _ _ _ _ _ _ _ _ _ _ (X1312.mono (by decide) (by decide)) e1312 hS1301 hk1301 hZ1301 hown1301 N1312 Z_1304 Ol_1303 H1301 Rr1301 Ex1301 Fv1301 Fc1301 Vb1301 Tx1301 (own_c255 _) (by decide)
    · rw [hk]
      refine Owe.istore X1301.here hx (hb hby at_21) rfl (l' := #[.val (.int p1), .val (.int p2), .val (.int p3), .val (.int p4), .val (.ref l1301), .val (.int (4 : Int32)), .unset, .unset, .unset, .unset, .unset, .unset]) rfl ?_
      refine Owe.aload X1301.here hx (hb hby at_23) rfl rfl ?_
      have hcd1313 : StrChars.Road.CodA ([115, 45, 115, 104, 97, 112, 101] : List Int32) 0 (7 : Int32) ((([115, 45, 115, 104, 97, 112, 101] : List Int32).map (fun c => c.toInt8.toInt32)).map Value.int) := StrChars.Road.codOf (n := 7) rfl (fun x hx => (Tx1301.1 x hx).2)
      have hbd1313 := up ([115, 45, 115, 104, 97, 112, 101] : List Int32) Tx1301.1
      refine Owe.virt X1301 hx hZ1301 (y := Y8) (z := Y8) (Q := fun v h' L => v = some (.int (Int32.ofNat ([115, 45, 115, 104, 97, 112, 101] : List Int32).length)) ∧ L = [] ∧ h' = h1301) (kc := 0) (ks := 0) hown1301 (mvT hZ1301 (wd hw 8)) (mvT hZ1301 (wd hw 9)) (mvT hZ1301 (wd hw 11)) (mvT hZ1301 (wd hw 10)) (notFace_of_selects (args := #[]) (mvT hZ1301 (wd hw 11))) (by decide) (StrChars.Road.lenW (W := 0) hZ1301 (own_hln hw) (kI := 4) (wd hw 2) Ex1301 Fv1301 Fc1301 Vb1301 hcd1313 hbd1313 (S_COMPACT_STRINGS.ext Ol_1303.2) cs0 Tx1301.2 (by decide) (by decide)) (by rw [hml]; rfl) (a := l1301) (argsL := []) (rest := []) Ex1301 (lenOf pd_6 rfl) rfl (nb rfl) (hb hby at_25) rfl e1301 (by decide) (by decide) fun T1314 v1314 L1314 X1314 hQ1314 => ?_
      obtain ⟨rfl, rfl, e1314⟩ := hQ1314
      have N1314 := Fr.app N0 (Fr.nil n0)
      refine Owe.istore X1314.here hx (hb hby at_28) rfl (l' := #[.val (.int p1), .val (.int p2), .val (.int p3), .val (.int p4), .val (.ref l1301), .val (.int (4 : Int32)), .val (.int (7 : Int32)), .unset, .unset, .unset, .unset, .unset]) rfl ?_
      refine Owe.iloadN X1314.here hx (hb hby at_30) rfl ?_
      refine Owe.sipush X1314.here hx (hb hby at_31) (w := (255 : Int32)) rfl ?_
      refine Owe.iand X1314.here hx (hb hby at_34) rfl ?_
      refine Owe.i2c X1314.here hx (hb hby at_35) rfl ?_
      refine Owe.istore X1314.here hx (hb hby at_36) rfl (l' := #[.val (.int p1), .val (.int p2), .val (.int p3), .val (.int p4), .val (.ref l1301), .val (.int (4 : Int32)), .val (.int (7 : Int32)), .val (.int ((p3 &&& (255 : Int32)).toUInt32.toUInt16.toUInt32.toInt32)), .unset, .unset, .unset, .unset]) rfl ?_
      refine Owe.iconst X1314.here hx (hb hby at_38) (w := (-1 : Int32)) rfl ?_
      refine Owe.istore X1314.here hx (hb hby at_39) rfl (l' := #[.val (.int p1), .val (.int p2), .val (.int p3), .val (.int p4), .val (.ref l1301), .val (.int (4 : Int32)), .val (.int (7 : Int32)), .val (.int ((p3 &&& (255 : Int32)).toUInt32.toUInt16.toUInt32.toInt32)), .val (.int (-1 : Int32)), .unset, .unset, .unset]) rfl ?_
      refine Owe.iload X1314.here hx (hb hby at_41) rfl ?_
      refine Owe.istore X1314.here hx (hb hby at_43) rfl (l' := #[.val (.int p1), .val (.int p2), .val (.int p3), .val (.int p4), .val (.ref l1301), .val (.int (4 : Int32)), .val (.int (7 : Int32)), .val (.int ((p3 &&& (255 : Int32)).toUInt32.toUInt16.toUInt32.toInt32)), .val (.int (-1 : Int32)), .val (.int (7 : Int32)), .unset, .unset]) rfl ?_
      refine Owe.iload X1314.here hx (hb hby at_45) rfl ?_
      refine Owe.iconst X1314.here hx (hb hby at_47) (w := (1 : Int32)) rfl ?_
      refine Owe.icmpYes X1314.here hx (hb hby at_48) rfl (feq (by decide)).2 (pc' := 60) (by decide) (by decide) ?_
      refine Owe.iload X1314.here hx (hb hby at_60) rfl ?_
      refine Owe.iconst X1314.here hx (hb hby at_62) (w := (2 : Int32)) rfl ?_
      refine Owe.icmpYes X1314.here hx (hb hby at_63) rfl (feq (by decide)).2 (pc' := 75) (by decide) (by decide) ?_
      refine Owe.iload X1314.here hx (hb hby at_75) rfl ?_
      refine Owe.iconst X1314.here hx (hb hby at_77) (w := (3 : Int32)) rfl ?_
      refine Owe.icmpYes X1314.here hx (hb hby at_78) rfl (feq (by decide)).2 (pc' := 87) (by decide) (by decide) ?_
      refine Owe.iload X1314.here hx (hb hby at_87) rfl ?_
      refine Owe.iconst X1314.here hx (hb hby at_89) (w := (4 : Int32)) rfl ?_
      refine Owe.icmpNo X1314.here hx (hb hby at_90) rfl (teq (by decide)).2 ?_
      refine Owe.iloadN X1314.here hx (hb hby at_93) rfl ?_
      refine Owe.iconst X1314.here hx (hb hby at_94) (w := (3 : Int32)) rfl ?_
      refine Owe.iand X1314.here hx (hb hby at_95) rfl ?_
      rcases own_and3 p4 with hk | hk | hk | hk
      · rw [hk]
        refine Owe.istore X1314.here hx (hb hby at_96) rfl (l' := #[.val (.int p1), .val (.int p2), .val (.int p3), .val (.int p4), .val (.ref l1301), .val (.int (4 : Int32)), .val (.int (7 : Int32)), .val (.int ((p3 &&& (255 : Int32)).toUInt32.toUInt16.toUInt32.toInt32)), .val (.int (-1 : Int32)), .val (.int (0 : Int32)), .unset, .unset]) rfl ?_
        refine Owe.aconstNull X1314.here hx (hb hby at_98)  ?_
        refine Owe.astore X1314.here hx (hb hby at_99) rfl rfl (l' := #[.val (.int p1), .val (.int p2), .val (.int p3), .val (.int p4), .val (.ref l1301), .val (.int (4 : Int32)), .val (.int (7 : Int32)), .val (.int ((p3 &&& (255 : Int32)).toUInt32.toUInt16.toUInt32.toInt32)), .val (.int (-1 : Int32)), .val (.int (0 : Int32)), .val .null, .unset]) rfl ?_
        refine Owe.iload X1314.here hx (hb hby at_101) rfl ?_
        refine Owe.iconst X1314.here hx (hb hby at_103) (w := (5 : Int32)) rfl ?_
        refine Owe.icmpNo X1314.here hx (hb hby at_104) rfl (feq (by decide)).1 ?_
        exact cut107 _ _ _ _ _ _ _ _ _ _ _ _ _ _ (X1314.mono (by decide) (by decide)) e1314 hS1301 hk1301 hZ1301 hown1301 N1314 Z_1304 Ol_1303 H1301 Rr1301 Ex1301 Fv1301 Fc1301 Vb1301 Tx1301 (own_c255 _) (by decide)
      · rw [hk]
        refine Owe.istore X1314.here hx (hb hby at_96) rfl (l' := #[.val (.int p1), .val (.int p2), .val (.int p3), .val (.int p4), .val (.ref l1301), .val (.int (4 : Int32)), .val (.int (7 : Int32)), .val (.int ((p3 &&& (255 : Int32)).toUInt32.toUInt16.toUInt32.toInt32)), .val (.int (-1 : Int32)), .val (.int (1 : Int32)), .unset, .unset]) rfl ?_
        refine Owe.aconstNull X1314.here hx (hb hby at_98)  ?_
        refine Owe.astore X1314.here hx (hb hby at_99) rfl rfl (l' := #[.val (.int p1), .val (.int p2), .val (.int p3), .val (.int p4), .val (.ref l1301), .val (.int (4 : Int32)), .val (.int (7 : Int32)), .val (.int ((p3 &&& (255 : Int32)).toUInt32.toUInt16.toUInt32.toInt32)), .val (.int (-1 : Int32)), .val (.int (1 : Int32)), .val .null, .unset]) rfl ?_
        refine Owe.iload X1314.here hx (hb hby at_101) rfl ?_
        refine Owe.iconst X1314.here hx (hb hby at_103) (w := (5 : Int32)) rfl ?_
        refine Owe.icmpNo X1314.here hx (hb hby at_104) rfl (feq (by decide)).1 ?_
        exact cut107 _ _ _ _ _ _ _ _ _ _ _ _ _ _ (X1314.mono (by decide) (by decide)) e1314 hS1301 hk1301 hZ1301 hown1301 N1314 Z_1304 Ol_1303 H1301 Rr1301 Ex1301 Fv1301 Fc1301 Vb1301 Tx1301 (own_c255 _) (by decide)
      · rw [hk]
        refine Owe.istore X1314.here hx (hb hby at_96) rfl (l' := #[.val (.int p1), .val (.int p2), .val (.int p3), .val (.int p4), .val (.ref l1301), .val (.int (4 : Int32)), .val (.int (7 : Int32)), .val (.int ((p3 &&& (255 : Int32)).toUInt32.toUInt16.toUInt32.toInt32)), .val (.int (-1 : Int32)), .val (.int (2 : Int32)), .unset, .unset]) rfl ?_
        refine Owe.aconstNull X1314.here hx (hb hby at_98)  ?_
        refine Owe.astore X1314.here hx (hb hby at_99) rfl rfl (l' := #[.val (.int p1), .val (.int p2), .val (.int p3), .val (.int p4), .val (.ref l1301), .val (.int (4 : Int32)), .val (.int (7 : Int32)), .val (.int ((p3 &&& (255 : Int32)).toUInt32.toUInt16.toUInt32.toInt32)), .val (.int (-1 : Int32)), .val (.int (2 : Int32)), .val .null, .unset]) rfl ?_
        refine Owe.iload X1314.here hx (hb hby at_101) rfl ?_
        refine Owe.iconst X1314.here hx (hb hby at_103) (w := (5 : Int32)) rfl ?_
        refine Owe.icmpNo X1314.here hx (hb hby at_104) rfl (feq (by decide)).1 ?_
        exact cut107 _ _ _ _ _ _ _ _ _ _ _ _ _ _ (X1314.mono (by decide) (by decide)) e1314 hS1301 hk1301 hZ1301 hown1301 N1314 Z_1304 Ol_1303 H1301 Rr1301 Ex1301 Fv1301 Fc1301 Vb1301 Tx1301 (own_c255 _) (by decide)
      · rw [hk]
        refine Owe.istore X1314.here hx (hb hby at_96) rfl (l' := #[.val (.int p1), .val (.int p2), .val (.int p3), .val (.int p4), .val (.ref l1301), .val (.int (4 : Int32)), .val (.int (7 : Int32)), .val (.int ((p3 &&& (255 : Int32)).toUInt32.toUInt16.toUInt32.toInt32)), .val (.int (-1 : Int32)), .val (.int (3 : Int32)), .unset, .unset]) rfl ?_
        refine Owe.aconstNull X1314.here hx (hb hby at_98)  ?_
        refine Owe.astore X1314.here hx (hb hby at_99) rfl rfl (l' := #[.val (.int p1), .val (.int p2), .val (.int p3), .val (.int p4), .val (.ref l1301), .val (.int (4 : Int32)), .val (.int (7 : Int32)), .val (.int ((p3 &&& (255 : Int32)).toUInt32.toUInt16.toUInt32.toInt32)), .val (.int (-1 : Int32)), .val (.int (3 : Int32)), .val .null, .unset]) rfl ?_
        refine Owe.iload X1314.here hx (hb hby at_101) rfl ?_
        refine Owe.iconst X1314.here hx (hb hby at_103) (w := (5 : Int32)) rfl ?_
        refine Owe.icmpNo X1314.here hx (hb hby at_104) rfl (feq (by decide)).1 ?_
        exact cut107 _ _ _ _ _ _ _ _ _ _ _ _ _ _ (X1314.mono (by decide) (by decide)) e1314 hS1301 hk1301 hZ1301 hown1301 N1314 Z_1304 Ol_1303 H1301 Rr1301 Ex1301 Fv1301 Fc1301 Vb1301 Tx1301 (own_c255 _) (by decide)
    · rw [hk]
      refine Owe.istore X1301.here hx (hb hby at_21) rfl (l' := #[.val (.int p1), .val (.int p2), .val (.int p3), .val (.int p4), .val (.ref l1301), .val (.int (5 : Int32)), .unset, .unset, .unset, .unset, .unset, .unset]) rfl ?_
      refine Owe.aload X1301.here hx (hb hby at_23) rfl rfl ?_
      have hcd1315 : StrChars.Road.CodA ([115, 45, 115, 104, 97, 112, 101] : List Int32) 0 (7 : Int32) ((([115, 45, 115, 104, 97, 112, 101] : List Int32).map (fun c => c.toInt8.toInt32)).map Value.int) := StrChars.Road.codOf (n := 7) rfl (fun x hx => (Tx1301.1 x hx).2)
      have hbd1315 := up ([115, 45, 115, 104, 97, 112, 101] : List Int32) Tx1301.1
      refine Owe.virt X1301 hx hZ1301 (y := Y8) (z := Y8) (Q := fun v h' L => v = some (.int (Int32.ofNat ([115, 45, 115, 104, 97, 112, 101] : List Int32).length)) ∧ L = [] ∧ h' = h1301) (kc := 0) (ks := 0) hown1301 (mvT hZ1301 (wd hw 8)) (mvT hZ1301 (wd hw 9)) (mvT hZ1301 (wd hw 11)) (mvT hZ1301 (wd hw 10)) (notFace_of_selects (args := #[]) (mvT hZ1301 (wd hw 11))) (by decide) (StrChars.Road.lenW (W := 0) hZ1301 (own_hln hw) (kI := 4) (wd hw 2) Ex1301 Fv1301 Fc1301 Vb1301 hcd1315 hbd1315 (S_COMPACT_STRINGS.ext Ol_1303.2) cs0 Tx1301.2 (by decide) (by decide)) (by rw [hml]; rfl) (a := l1301) (argsL := []) (rest := []) Ex1301 (lenOf pd_6 rfl) rfl (nb rfl) (hb hby at_25) rfl e1301 (by decide) (by decide) fun T1316 v1316 L1316 X1316 hQ1316 => ?_
      obtain ⟨rfl, rfl, e1316⟩ := hQ1316
      have N1316 := Fr.app N0 (Fr.nil n0)
      refine Owe.istore X1316.here hx (hb hby at_28) rfl (l' := #[.val (.int p1), .val (.int p2), .val (.int p3), .val (.int p4), .val (.ref l1301), .val (.int (5 : Int32)), .val (.int (7 : Int32)), .unset, .unset, .unset, .unset, .unset]) rfl ?_
      refine Owe.iloadN X1316.here hx (hb hby at_30) rfl ?_
      refine Owe.sipush X1316.here hx (hb hby at_31) (w := (255 : Int32)) rfl ?_
      refine Owe.iand X1316.here hx (hb hby at_34) rfl ?_
      refine Owe.i2c X1316.here hx (hb hby at_35) rfl ?_
      refine Owe.istore X1316.here hx (hb hby at_36) rfl (l' := #[.val (.int p1), .val (.int p2), .val (.int p3), .val (.int p4), .val (.ref l1301), .val (.int (5 : Int32)), .val (.int (7 : Int32)), .val (.int ((p3 &&& (255 : Int32)).toUInt32.toUInt16.toUInt32.toInt32)), .unset, .unset, .unset, .unset]) rfl ?_
      refine Owe.iconst X1316.here hx (hb hby at_38) (w := (-1 : Int32)) rfl ?_
      refine Owe.istore X1316.here hx (hb hby at_39) rfl (l' := #[.val (.int p1), .val (.int p2), .val (.int p3), .val (.int p4), .val (.ref l1301), .val (.int (5 : Int32)), .val (.int (7 : Int32)), .val (.int ((p3 &&& (255 : Int32)).toUInt32.toUInt16.toUInt32.toInt32)), .val (.int (-1 : Int32)), .unset, .unset, .unset]) rfl ?_
      refine Owe.iload X1316.here hx (hb hby at_41) rfl ?_
      refine Owe.istore X1316.here hx (hb hby at_43) rfl (l' := #[.val (.int p1), .val (.int p2), .val (.int p3), .val (.int p4), .val (.ref l1301), .val (.int (5 : Int32)), .val (.int (7 : Int32)), .val (.int ((p3 &&& (255 : Int32)).toUInt32.toUInt16.toUInt32.toInt32)), .val (.int (-1 : Int32)), .val (.int (7 : Int32)), .unset, .unset]) rfl ?_
      refine Owe.iload X1316.here hx (hb hby at_45) rfl ?_
      refine Owe.iconst X1316.here hx (hb hby at_47) (w := (1 : Int32)) rfl ?_
      refine Owe.icmpYes X1316.here hx (hb hby at_48) rfl (feq (by decide)).2 (pc' := 60) (by decide) (by decide) ?_
      refine Owe.iload X1316.here hx (hb hby at_60) rfl ?_
      refine Owe.iconst X1316.here hx (hb hby at_62) (w := (2 : Int32)) rfl ?_
      refine Owe.icmpYes X1316.here hx (hb hby at_63) rfl (feq (by decide)).2 (pc' := 75) (by decide) (by decide) ?_
      refine Owe.iload X1316.here hx (hb hby at_75) rfl ?_
      refine Owe.iconst X1316.here hx (hb hby at_77) (w := (3 : Int32)) rfl ?_
      refine Owe.icmpYes X1316.here hx (hb hby at_78) rfl (feq (by decide)).2 (pc' := 87) (by decide) (by decide) ?_
      refine Owe.iload X1316.here hx (hb hby at_87) rfl ?_
      refine Owe.iconst X1316.here hx (hb hby at_89) (w := (4 : Int32)) rfl ?_
      refine Owe.icmpYes X1316.here hx (hb hby at_90) rfl (feq (by decide)).2 (pc' := 98) (by decide) (by decide) ?_
      refine Owe.aconstNull X1316.here hx (hb hby at_98)  ?_
      refine Owe.astore X1316.here hx (hb hby at_99) rfl rfl (l' := #[.val (.int p1), .val (.int p2), .val (.int p3), .val (.int p4), .val (.ref l1301), .val (.int (5 : Int32)), .val (.int (7 : Int32)), .val (.int ((p3 &&& (255 : Int32)).toUInt32.toUInt16.toUInt32.toInt32)), .val (.int (-1 : Int32)), .val (.int (7 : Int32)), .val .null, .unset]) rfl ?_
      refine Owe.iload X1316.here hx (hb hby at_101) rfl ?_
      refine Owe.iconst X1316.here hx (hb hby at_103) (w := (5 : Int32)) rfl ?_
      refine Owe.icmpYes X1316.here hx (hb hby at_104) rfl (teq (by decide)).1 (pc' := 417) (by decide) (by decide) ?_
      refine Owe.aload X1316.here hx (hb hby at_417) rfl rfl ?_
      refine Owe.ifnonnullNo X1316.here hx (hb hby at_419) rfl ?_
      refine Owe.aconstNull X1316.here hx (hb hby at_422)  ?_
      refine Owe.astore X1316.here hx (hb hby at_423) rfl rfl (l' := #[.val (.int p1), .val (.int p2), .val (.int p3), .val (.int p4), .val (.ref l1301), .val (.int (5 : Int32)), .val (.int (7 : Int32)), .val (.int ((p3 &&& (255 : Int32)).toUInt32.toUInt16.toUInt32.toInt32)), .val (.int (-1 : Int32)), .val (.int (7 : Int32)), .val .null, .val .null]) rfl ?_
      refine Owe.goto X1316.here hx (hb hby at_425) (pc' := 467) (by decide) (by decide) ?_
      refine Owe.aload X1316.here hx (hb hby at_467) rfl rfl ?_
      refine Owe.stat X1316 hx (y := Y6) hown1301 (mvT hZ1301 (wd hw 81)) (mvT hZ1301 (wd hw 82)) (mvT hZ1301 (wd hw 79)) (mvT hZ1301 (wd hw 83)) (by decide) (backOf (W := 0) (rmgvN l Z a0 hw [] G1 rd va wt rdw rdwv wtw wtwv k_va k_rdwv k_wtwv h1301 n0 Z_1304 S_COMPACT_STRINGS cs0 Ol_1303 S_S_SHAPE E_rd S__VALUES E_va S_LARGEST_GAP E_wt F_name_rd E_rdw Fcoder_rdw Fvalue_rdw F_name_wt E_wtw Fcoder_wtw Fvalue_wtw V_va V_rdwv V_wtwv Tx_rdw Tx_wtw) hZ1301 (wd hw 83) (wd hw 79) (by decide) (by decide)) (by rw [hml]; rfl) (argsL := [.null]) (rest := []) (lenOf pd_8 rfl) rfl (nb rfl) (hb hby at_469) rfl e1316 (by decide) (by decide) fun T1317 v1317 L1317 X1317 hQ1317 => ?_
      obtain ⟨rfl, Nq1317, K1317⟩ := hQ1317
      have N1317 := Fr.app N1316 Nq1317
      have hk1318 := Nat.le_trans hk1301 K1317.1
      have Rr1318 := Rr1301.trans (CHr.keep K1317 sf0 H1301)
      have H1318 := CHv.keep K1317 sf0 H1301
      have Ol_1319 := Ol_1303.keep K1317 all0
      have Ex1301_1320 := Ex1301.keep K1317
      have Fc1301_1321 := Fc1301.keep K1317 nin0
      have Fv1301_1322 := Fv1301.keep K1317 nin0
      have Vb1301_1323 := Vb1301.keep K1317 nin0
      have Z_1324 := Nat.le_trans Z_1304 K1317.1
      refine Owe.aload X1317.here hx (hb hby at_472) rfl rfl ?_
      refine Owe.acmpNo X1317.here hx (hb hby at_474) rfl rfl rfl (by simp [Jvm.Free.XT.acmp]) ?_
      refine Owe.iconst X1317.here hx (hb hby at_477) (w := (1 : Int32)) rfl ?_
      refine Owe.goto X1317.here hx (hb hby at_478) (pc' := 482) (by decide) (by decide) ?_
      refine Owe.retNW X1317 hx hS1301 rfl hk1318 hlk (t := .boolean) hrt (by simp) (hb hby at_482) rfl fun fs hE => ?_
      rw [hG]
      refine ⟨_, _, rfl, ?_, ?_, coldMono hE (by decide) (by decide)⟩
      rotate_left
      · rw [hh]
        show CHr Z own_EL s.vm h0 T1317.vm T1317.heap
        exact Rr1318.trans (CHv.at X1317 hZ1301 (own_ew hw) H1318)
      show Q0 Z p1 p2 p3 p4 fm G1 rd va wt rdw rdwv wtw wtwv k_va k_rdwv k_wtwv h0 n0 _ T1317.heap _
      exact ⟨rfl, N1317⟩
  · skip
    refine Owe.ifYes X0.here hx (hb hby at_3) rfl ((if0 _ _).trans (feq hc3_1300).2) (pc' := 11) (by decide) (by decide) ?_
    refine Owe.ldcV X0 hx hZ hS0 (own_ew hw) H0 (by decide) hown1 (wd hw 119) (own_wS hw) e0 hk0 (vs := ((([108, 97, 114, 103, 101, 115, 116, 45, 103, 97, 112] : List Int32).map (fun c => c.toInt8.toInt32)).map Value.int)) (z := (11 : Int32)) (by decide) (by decide) rfl (hb hby at_11) (n := 44) (by decide) (by decide) (by decide) (by decide) fun l1325 T1325 h1325 k1325 lb1325 lk1325 X1325 e1325 E1325 hS1325 hk1325 hZ1325 hown1325 Ex1325 Fc1325 Fv1325 Vb1325 hC1325 Lt1325 nsf1325 => ?_
    have hk1326 := Nat.le_trans hk0 E1325.1
    have Ol_1327 := Ol.ext E1325
    have Z_1328 := Nat.le_trans Z0 E1325.1
    have Rr1325 := R0.trans hC1325
    have H1325 := hC1325.1
    have Tx1325 : (∀ c ∈ ([108, 97, 114, 103, 101, 115, 116, 45, 103, 97, 112] : List Int32), ¬ c < 0 ∧ ¬ (255 : Int32) < c) ∧ ([108, 97, 114, 103, 101, 115, 116, 45, 103, 97, 112] : List Int32).length ≤ 4000 := ⟨by decide, Nat.le_of_ble_eq_true rfl⟩
    refine Owe.astore X1325.here hx (hb hby at_13) rfl rfl (l' := #[.val (.int p1), .val (.int p2), .val (.int p3), .val (.int p4), .val (.ref l1325), .unset, .unset, .unset, .unset, .unset, .unset, .unset]) rfl ?_
    refine Owe.iloadN X1325.here hx (hb hby at_15) rfl ?_
    refine Owe.iconst X1325.here hx (hb hby at_16) (w := (1 : Int32)) rfl ?_
    refine Owe.iushr X1325.here hx (hb hby at_17) rfl ?_
    refine Owe.bipush X1325.here hx (hb hby at_18) (w := (6 : Int32)) rfl ?_
    refine Owe.irem X1325.here hx (hb hby at_20) rfl (by decide) ?_
    rcases own_mod6 p1 with hk | hk | hk | hk | hk | hk
    · rw [hk]
      refine Owe.istore X1325.here hx (hb hby at_21) rfl (l' := #[.val (.int p1), .val (.int p2), .val (.int p3), .val (.int p4), .val (.ref l1325), .val (.int (0 : Int32)), .unset, .unset, .unset, .unset, .unset, .unset]) rfl ?_
      refine Owe.aload X1325.here hx (hb hby at_23) rfl rfl ?_
      have hcd1329 : StrChars.Road.CodA ([108, 97, 114, 103, 101, 115, 116, 45, 103, 97, 112] : List Int32) 0 (11 : Int32) ((([108, 97, 114, 103, 101, 115, 116, 45, 103, 97, 112] : List Int32).map (fun c => c.toInt8.toInt32)).map Value.int) := StrChars.Road.codOf (n := 11) rfl (fun x hx => (Tx1325.1 x hx).2)
      have hbd1329 := up ([108, 97, 114, 103, 101, 115, 116, 45, 103, 97, 112] : List Int32) Tx1325.1
      refine Owe.virt X1325 hx hZ1325 (y := Y8) (z := Y8) (Q := fun v h' L => v = some (.int (Int32.ofNat ([108, 97, 114, 103, 101, 115, 116, 45, 103, 97, 112] : List Int32).length)) ∧ L = [] ∧ h' = h1325) (kc := 0) (ks := 0) hown1325 (mvT hZ1325 (wd hw 8)) (mvT hZ1325 (wd hw 9)) (mvT hZ1325 (wd hw 11)) (mvT hZ1325 (wd hw 10)) (notFace_of_selects (args := #[]) (mvT hZ1325 (wd hw 11))) (by decide) (StrChars.Road.lenW (W := 0) hZ1325 (own_hln hw) (kI := 4) (wd hw 2) Ex1325 Fv1325 Fc1325 Vb1325 hcd1329 hbd1329 (S_COMPACT_STRINGS.ext Ol_1327.2) cs0 Tx1325.2 (by decide) (by decide)) (by rw [hml]; rfl) (a := l1325) (argsL := []) (rest := []) Ex1325 (lenOf pd_6 rfl) rfl (nb rfl) (hb hby at_25) rfl e1325 (by decide) (by decide) fun T1330 v1330 L1330 X1330 hQ1330 => ?_
      obtain ⟨rfl, rfl, e1330⟩ := hQ1330
      have N1330 := Fr.app N0 (Fr.nil n0)
      refine Owe.istore X1330.here hx (hb hby at_28) rfl (l' := #[.val (.int p1), .val (.int p2), .val (.int p3), .val (.int p4), .val (.ref l1325), .val (.int (0 : Int32)), .val (.int (11 : Int32)), .unset, .unset, .unset, .unset, .unset]) rfl ?_
      refine Owe.iloadN X1330.here hx (hb hby at_30) rfl ?_
      refine Owe.sipush X1330.here hx (hb hby at_31) (w := (255 : Int32)) rfl ?_
      refine Owe.iand X1330.here hx (hb hby at_34) rfl ?_
      refine Owe.i2c X1330.here hx (hb hby at_35) rfl ?_
      refine Owe.istore X1330.here hx (hb hby at_36) rfl (l' := #[.val (.int p1), .val (.int p2), .val (.int p3), .val (.int p4), .val (.ref l1325), .val (.int (0 : Int32)), .val (.int (11 : Int32)), .val (.int ((p3 &&& (255 : Int32)).toUInt32.toUInt16.toUInt32.toInt32)), .unset, .unset, .unset, .unset]) rfl ?_
      refine Owe.iconst X1330.here hx (hb hby at_38) (w := (-1 : Int32)) rfl ?_
      refine Owe.istore X1330.here hx (hb hby at_39) rfl (l' := #[.val (.int p1), .val (.int p2), .val (.int p3), .val (.int p4), .val (.ref l1325), .val (.int (0 : Int32)), .val (.int (11 : Int32)), .val (.int ((p3 &&& (255 : Int32)).toUInt32.toUInt16.toUInt32.toInt32)), .val (.int (-1 : Int32)), .unset, .unset, .unset]) rfl ?_
      refine Owe.iload X1330.here hx (hb hby at_41) rfl ?_
      refine Owe.istore X1330.here hx (hb hby at_43) rfl (l' := #[.val (.int p1), .val (.int p2), .val (.int p3), .val (.int p4), .val (.ref l1325), .val (.int (0 : Int32)), .val (.int (11 : Int32)), .val (.int ((p3 &&& (255 : Int32)).toUInt32.toUInt16.toUInt32.toInt32)), .val (.int (-1 : Int32)), .val (.int (11 : Int32)), .unset, .unset]) rfl ?_
      refine Owe.iload X1330.here hx (hb hby at_45) rfl ?_
      refine Owe.iconst X1330.here hx (hb hby at_47) (w := (1 : Int32)) rfl ?_
      refine Owe.icmpYes X1330.here hx (hb hby at_48) rfl (feq (by decide)).2 (pc' := 60) (by decide) (by decide) ?_
      refine Owe.iload X1330.here hx (hb hby at_60) rfl ?_
      refine Owe.iconst X1330.here hx (hb hby at_62) (w := (2 : Int32)) rfl ?_
      refine Owe.icmpYes X1330.here hx (hb hby at_63) rfl (feq (by decide)).2 (pc' := 75) (by decide) (by decide) ?_
      refine Owe.iload X1330.here hx (hb hby at_75) rfl ?_
      refine Owe.iconst X1330.here hx (hb hby at_77) (w := (3 : Int32)) rfl ?_
      refine Owe.icmpYes X1330.here hx (hb hby at_78) rfl (feq (by decide)).2 (pc' := 87) (by decide) (by decide) ?_
      refine Owe.iload X1330.here hx (hb hby at_87) rfl ?_
      refine Owe.iconst X1330.here hx (hb hby at_89) (w := (4 : Int32)) rfl ?_
      refine Owe.icmpYes X1330.here hx (hb hby at_90) rfl (feq (by decide)).2 (pc' := 98) (by decide) (by decide) ?_
      refine Owe.aconstNull X1330.here hx (hb hby at_98)  ?_
      refine Owe.astore X1330.here hx (hb hby at_99) rfl rfl (l' := #[.val (.int p1), .val (.int p2), .val (.int p3), .val (.int p4), .val (.ref l1325), .val (.int (0 : Int32)), .val (.int (11 : Int32)), .val (.int ((p3 &&& (255 : Int32)).toUInt32.toUInt16.toUInt32.toInt32)), .val (.int (-1 : Int32)), .val (.int (11 : Int32)), .val .null, .unset]) rfl ?_
      refine Owe.iload X1330.here hx (hb hby at_101) rfl ?_
      refine Owe.iconst X1330.here hx (hb hby at_103) (w := (5 : Int32)) rfl ?_
      refine Owe.icmpNo X1330.here hx (hb hby at_104) rfl (feq (by decide)).1 ?_
      exact cut107 _ _ _ _ _ _ _ _ _ _ _ _ _ _ (X1330.mono (by decide) (by decide)) e1330 hS1325 hk1325 hZ1325 hown1325 N1330 Z_1328 Ol_1327 H1325 Rr1325 Ex1325 Fv1325 Fc1325 Vb1325 Tx1325 (own_c255 _) (by decide)
    · rw [hk]
      refine Owe.istore X1325.here hx (hb hby at_21) rfl (l' := #[.val (.int p1), .val (.int p2), .val (.int p3), .val (.int p4), .val (.ref l1325), .val (.int (1 : Int32)), .unset, .unset, .unset, .unset, .unset, .unset]) rfl ?_
      refine Owe.aload X1325.here hx (hb hby at_23) rfl rfl ?_
      have hcd1331 : StrChars.Road.CodA ([108, 97, 114, 103, 101, 115, 116, 45, 103, 97, 112] : List Int32) 0 (11 : Int32) ((([108, 97, 114, 103, 101, 115, 116, 45, 103, 97, 112] : List Int32).map (fun c => c.toInt8.toInt32)).map Value.int) := StrChars.Road.codOf (n := 11) rfl (fun x hx => (Tx1325.1 x hx).2)
      have hbd1331 := up ([108, 97, 114, 103, 101, 115, 116, 45, 103, 97, 112] : List Int32) Tx1325.1
      refine Owe.virt X1325 hx hZ1325 (y := Y8) (z := Y8) (Q := fun v h' L => v = some (.int (Int32.ofNat ([108, 97, 114, 103, 101, 115, 116, 45, 103, 97, 112] : List Int32).length)) ∧ L = [] ∧ h' = h1325) (kc := 0) (ks := 0) hown1325 (mvT hZ1325 (wd hw 8)) (mvT hZ1325 (wd hw 9)) (mvT hZ1325 (wd hw 11)) (mvT hZ1325 (wd hw 10)) (notFace_of_selects (args := #[]) (mvT hZ1325 (wd hw 11))) (by decide) (StrChars.Road.lenW (W := 0) hZ1325 (own_hln hw) (kI := 4) (wd hw 2) Ex1325 Fv1325 Fc1325 Vb1325 hcd1331 hbd1331 (S_COMPACT_STRINGS.ext Ol_1327.2) cs0 Tx1325.2 (by decide) (by decide)) (by rw [hml]; rfl) (a := l1325) (argsL := []) (rest := []) Ex1325 (lenOf pd_6 rfl) rfl (nb rfl) (hb hby at_25) rfl e1325 (by decide) (by decide) fun T1332 v1332 L1332 X1332 hQ1332 => ?_
      obtain ⟨rfl, rfl, e1332⟩ := hQ1332
      have N1332 := Fr.app N0 (Fr.nil n0)
      refine Owe.istore X1332.here hx (hb hby at_28) rfl (l' := #[.val (.int p1), .val (.int p2), .val (.int p3), .val (.int p4), .val (.ref l1325), .val (.int (1 : Int32)), .val (.int (11 : Int32)), .unset, .unset, .unset, .unset, .unset]) rfl ?_
      refine Owe.iloadN X1332.here hx (hb hby at_30) rfl ?_
      refine Owe.sipush X1332.here hx (hb hby at_31) (w := (255 : Int32)) rfl ?_
      refine Owe.iand X1332.here hx (hb hby at_34) rfl ?_
      refine Owe.i2c X1332.here hx (hb hby at_35) rfl ?_
      refine Owe.istore X1332.here hx (hb hby at_36) rfl (l' := #[.val (.int p1), .val (.int p2), .val (.int p3), .val (.int p4), .val (.ref l1325), .val (.int (1 : Int32)), .val (.int (11 : Int32)), .val (.int ((p3 &&& (255 : Int32)).toUInt32.toUInt16.toUInt32.toInt32)), .unset, .unset, .unset, .unset]) rfl ?_
      refine Owe.iconst X1332.here hx (hb hby at_38) (w := (-1 : Int32)) rfl ?_
      refine Owe.istore X1332.here hx (hb hby at_39) rfl (l' := #[.val (.int p1), .val (.int p2), .val (.int p3), .val (.int p4), .val (.ref l1325), .val (.int (1 : Int32)), .val (.int (11 : Int32)), .val (.int ((p3 &&& (255 : Int32)).toUInt32.toUInt16.toUInt32.toInt32)), .val (.int (-1 : Int32)), .unset, .unset, .unset]) rfl ?_
      refine Owe.iload X1332.here hx (hb hby at_41) rfl ?_
      refine Owe.istore X1332.here hx (hb hby at_43) rfl (l' := #[.val (.int p1), .val (.int p2), .val (.int p3), .val (.int p4), .val (.ref l1325), .val (.int (1 : Int32)), .val (.int (11 : Int32)), .val (.int ((p3 &&& (255 : Int32)).toUInt32.toUInt16.toUInt32.toInt32)), .val (.int (-1 : Int32)), .val (.int (11 : Int32)), .unset, .unset]) rfl ?_
      refine Owe.iload X1332.here hx (hb hby at_45) rfl ?_
      refine Owe.iconst X1332.here hx (hb hby at_47) (w := (1 : Int32)) rfl ?_
      refine Owe.icmpNo X1332.here hx (hb hby at_48) rfl (teq (by decide)).2 ?_
      refine Owe.iloadN X1332.here hx (hb hby at_51) rfl ?_
      refine Owe.ldcI X1332 hx (v := (2147483647 : Int32)) hown1325 (mvT hZ1325 (wd hw 121)) (hb hby at_52) ?_
      refine Owe.iand X1332.here hx (hb hby at_54) rfl ?_
      refine Owe.iload X1332.here hx (hb hby at_55) rfl ?_
      refine Owe.irem X1332.here hx (hb hby at_57) rfl (by decide) ?_
      refine Owe.istore X1332.here hx (hb hby at_58) rfl (l' := #[.val (.int p1), .val (.int p2), .val (.int p3), .val (.int p4), .val (.ref l1325), .val (.int (1 : Int32)), .val (.int (11 : Int32)), .val (.int ((p3 &&& (255 : Int32)).toUInt32.toUInt16.toUInt32.toInt32)), .val (.int ((p2 &&& (2147483647 : Int32)) - ((p2 &&& (2147483647 : Int32)) / (11 : Int32)) * (11 : Int32))), .val (.int (11 : Int32)), .unset, .unset]) rfl ?_
      refine Owe.iload X1332.here hx (hb hby at_60) rfl ?_
      refine Owe.iconst X1332.here hx (hb hby at_62) (w := (2 : Int32)) rfl ?_
      refine Owe.icmpYes X1332.here hx (hb hby at_63) rfl (feq (by decide)).2 (pc' := 75) (by decide) (by decide) ?_
      refine Owe.iload X1332.here hx (hb hby at_75) rfl ?_
      refine Owe.iconst X1332.here hx (hb hby at_77) (w := (3 : Int32)) rfl ?_
      refine Owe.icmpYes X1332.here hx (hb hby at_78) rfl (feq (by decide)).2 (pc' := 87) (by decide) (by decide) ?_
      refine Owe.iload X1332.here hx (hb hby at_87) rfl ?_
      refine Owe.iconst X1332.here hx (hb hby at_89) (w := (4 : Int32)) rfl ?_
      refine Owe.icmpYes X1332.here hx (hb hby at_90) rfl (feq (by decide)).2 (pc' := 98) (by decide) (by decide) ?_
      refine Owe.aconstNull X1332.here hx (hb hby at_98)  ?_
      refine Owe.astore X1332.here hx (hb hby at_99) rfl rfl (l' := #[.val (.int p1), .val (.int p2), .val (.int p3), .val (.int p4), .val (.ref l1325), .val (.int (1 : Int32)), .val (.int (11 : Int32)), .val (.int ((p3 &&& (255 : Int32)).toUInt32.toUInt16.toUInt32.toInt32)), .val (.int ((p2 &&& (2147483647 : Int32)) - ((p2 &&& (2147483647 : Int32)) / (11 : Int32)) * (11 : Int32))), .val (.int (11 : Int32)), .val .null, .unset]) rfl ?_
      refine Owe.iload X1332.here hx (hb hby at_101) rfl ?_
      refine Owe.iconst X1332.here hx (hb hby at_103) (w := (5 : Int32)) rfl ?_
      refine Owe.icmpNo X1332.here hx (hb hby at_104) rfl (feq (by decide)).1 ?_
      exact cut107 _ _ _ _ _ _ _ _ _ _ _ _ _ _ (X1332.mono (by decide) (by decide)) e1332 hS1325 hk1325 hZ1325 hown1325 N1332 Z_1328 Ol_1327 H1325 Rr1325 Ex1325 Fv1325 Fc1325 Vb1325 Tx1325 (own_c255 _) (by decide)
    · rw [hk]
      refine Owe.istore X1325.here hx (hb hby at_21) rfl (l' := #[.val (.int p1), .val (.int p2), .val (.int p3), .val (.int p4), .val (.ref l1325), .val (.int (2 : Int32)), .unset, .unset, .unset, .unset, .unset, .unset]) rfl ?_
      refine Owe.aload X1325.here hx (hb hby at_23) rfl rfl ?_
      have hcd1333 : StrChars.Road.CodA ([108, 97, 114, 103, 101, 115, 116, 45, 103, 97, 112] : List Int32) 0 (11 : Int32) ((([108, 97, 114, 103, 101, 115, 116, 45, 103, 97, 112] : List Int32).map (fun c => c.toInt8.toInt32)).map Value.int) := StrChars.Road.codOf (n := 11) rfl (fun x hx => (Tx1325.1 x hx).2)
      have hbd1333 := up ([108, 97, 114, 103, 101, 115, 116, 45, 103, 97, 112] : List Int32) Tx1325.1
      refine Owe.virt X1325 hx hZ1325 (y := Y8) (z := Y8) (Q := fun v h' L => v = some (.int (Int32.ofNat ([108, 97, 114, 103, 101, 115, 116, 45, 103, 97, 112] : List Int32).length)) ∧ L = [] ∧ h' = h1325) (kc := 0) (ks := 0) hown1325 (mvT hZ1325 (wd hw 8)) (mvT hZ1325 (wd hw 9)) (mvT hZ1325 (wd hw 11)) (mvT hZ1325 (wd hw 10)) (notFace_of_selects (args := #[]) (mvT hZ1325 (wd hw 11))) (by decide) (StrChars.Road.lenW (W := 0) hZ1325 (own_hln hw) (kI := 4) (wd hw 2) Ex1325 Fv1325 Fc1325 Vb1325 hcd1333 hbd1333 (S_COMPACT_STRINGS.ext Ol_1327.2) cs0 Tx1325.2 (by decide) (by decide)) (by rw [hml]; rfl) (a := l1325) (argsL := []) (rest := []) Ex1325 (lenOf pd_6 rfl) rfl (nb rfl) (hb hby at_25) rfl e1325 (by decide) (by decide) fun T1334 v1334 L1334 X1334 hQ1334 => ?_
      obtain ⟨rfl, rfl, e1334⟩ := hQ1334
      have N1334 := Fr.app N0 (Fr.nil n0)
      refine Owe.istore X1334.here hx (hb hby at_28) rfl (l' := #[.val (.int p1), .val (.int p2), .val (.int p3), .val (.int p4), .val (.ref l1325), .val (.int (2 : Int32)), .val (.int (11 : Int32)), .unset, .unset, .unset, .unset, .unset]) rfl ?_
      refine Owe.iloadN X1334.here hx (hb hby at_30) rfl ?_
      refine Owe.sipush X1334.here hx (hb hby at_31) (w := (255 : Int32)) rfl ?_
      refine Owe.iand X1334.here hx (hb hby at_34) rfl ?_
      refine Owe.i2c X1334.here hx (hb hby at_35) rfl ?_
      refine Owe.istore X1334.here hx (hb hby at_36) rfl (l' := #[.val (.int p1), .val (.int p2), .val (.int p3), .val (.int p4), .val (.ref l1325), .val (.int (2 : Int32)), .val (.int (11 : Int32)), .val (.int ((p3 &&& (255 : Int32)).toUInt32.toUInt16.toUInt32.toInt32)), .unset, .unset, .unset, .unset]) rfl ?_
      refine Owe.iconst X1334.here hx (hb hby at_38) (w := (-1 : Int32)) rfl ?_
      refine Owe.istore X1334.here hx (hb hby at_39) rfl (l' := #[.val (.int p1), .val (.int p2), .val (.int p3), .val (.int p4), .val (.ref l1325), .val (.int (2 : Int32)), .val (.int (11 : Int32)), .val (.int ((p3 &&& (255 : Int32)).toUInt32.toUInt16.toUInt32.toInt32)), .val (.int (-1 : Int32)), .unset, .unset, .unset]) rfl ?_
      refine Owe.iload X1334.here hx (hb hby at_41) rfl ?_
      refine Owe.istore X1334.here hx (hb hby at_43) rfl (l' := #[.val (.int p1), .val (.int p2), .val (.int p3), .val (.int p4), .val (.ref l1325), .val (.int (2 : Int32)), .val (.int (11 : Int32)), .val (.int ((p3 &&& (255 : Int32)).toUInt32.toUInt16.toUInt32.toInt32)), .val (.int (-1 : Int32)), .val (.int (11 : Int32)), .unset, .unset]) rfl ?_
      refine Owe.iload X1334.here hx (hb hby at_45) rfl ?_
      refine Owe.iconst X1334.here hx (hb hby at_47) (w := (1 : Int32)) rfl ?_
      refine Owe.icmpYes X1334.here hx (hb hby at_48) rfl (feq (by decide)).2 (pc' := 60) (by decide) (by decide) ?_
      refine Owe.iload X1334.here hx (hb hby at_60) rfl ?_
      refine Owe.iconst X1334.here hx (hb hby at_62) (w := (2 : Int32)) rfl ?_
      refine Owe.icmpNo X1334.here hx (hb hby at_63) rfl (teq (by decide)).2 ?_
      refine Owe.iloadN X1334.here hx (hb hby at_66) rfl ?_
      refine Owe.ldcI X1334 hx (v := (2147483647 : Int32)) hown1325 (mvT hZ1325 (wd hw 121)) (hb hby at_67) ?_
      refine Owe.iand X1334.here hx (hb hby at_69) rfl ?_
      refine Owe.iload X1334.here hx (hb hby at_70) rfl ?_
      refine Owe.irem X1334.here hx (hb hby at_72) rfl (by decide) ?_
      rcases own_rem11 p2 with hk | hk | hk | hk | hk | hk | hk | hk | hk | hk | hk
      · rw [hk]
        refine Owe.istore X1334.here hx (hb hby at_73) rfl (l' := #[.val (.int p1), .val (.int p2), .val (.int p3), .val (.int p4), .val (.ref l1325), .val (.int (2 : Int32)), .val (.int (11 : Int32)), .val (.int ((p3 &&& (255 : Int32)).toUInt32.toUInt16.toUInt32.toInt32)), .val (.int (-1 : Int32)), .val (.int (0 : Int32)), .unset, .unset]) rfl ?_
        refine Owe.iload X1334.here hx (hb hby at_75) rfl ?_
        refine Owe.iconst X1334.here hx (hb hby at_77) (w := (3 : Int32)) rfl ?_
        refine Owe.icmpYes X1334.here hx (hb hby at_78) rfl (feq (by decide)).2 (pc' := 87) (by decide) (by decide) ?_
        refine Owe.iload X1334.here hx (hb hby at_87) rfl ?_
        refine Owe.iconst X1334.here hx (hb hby at_89) (w := (4 : Int32)) rfl ?_
        refine Owe.icmpYes X1334.here hx (hb hby at_90) rfl (feq (by decide)).2 (pc' := 98) (by decide) (by decide) ?_
        refine Owe.aconstNull X1334.here hx (hb hby at_98)  ?_
        refine Owe.astore X1334.here hx (hb hby at_99) rfl rfl (l' := #[.val (.int p1), .val (.int p2), .val (.int p3), .val (.int p4), .val (.ref l1325), .val (.int (2 : Int32)), .val (.int (11 : Int32)), .val (.int ((p3 &&& (255 : Int32)).toUInt32.toUInt16.toUInt32.toInt32)), .val (.int (-1 : Int32)), .val (.int (0 : Int32)), .val .null, .unset]) rfl ?_
        refine Owe.iload X1334.here hx (hb hby at_101) rfl ?_
        refine Owe.iconst X1334.here hx (hb hby at_103) (w := (5 : Int32)) rfl ?_
        refine Owe.icmpNo X1334.here hx (hb hby at_104) rfl (feq (by decide)).1 ?_
        exact cut107 _ _ _ _ _ _ _ _ _ _ _ _ _ _ (X1334.mono (by decide) (by decide)) e1334 hS1325 hk1325 hZ1325 hown1325 N1334 Z_1328 Ol_1327 H1325 Rr1325 Ex1325 Fv1325 Fc1325 Vb1325 Tx1325 (own_c255 _) (by decide)
      · rw [hk]
        refine Owe.istore X1334.here hx (hb hby at_73) rfl (l' := #[.val (.int p1), .val (.int p2), .val (.int p3), .val (.int p4), .val (.ref l1325), .val (.int (2 : Int32)), .val (.int (11 : Int32)), .val (.int ((p3 &&& (255 : Int32)).toUInt32.toUInt16.toUInt32.toInt32)), .val (.int (-1 : Int32)), .val (.int (1 : Int32)), .unset, .unset]) rfl ?_
        refine Owe.iload X1334.here hx (hb hby at_75) rfl ?_
        refine Owe.iconst X1334.here hx (hb hby at_77) (w := (3 : Int32)) rfl ?_
        refine Owe.icmpYes X1334.here hx (hb hby at_78) rfl (feq (by decide)).2 (pc' := 87) (by decide) (by decide) ?_
        refine Owe.iload X1334.here hx (hb hby at_87) rfl ?_
        refine Owe.iconst X1334.here hx (hb hby at_89) (w := (4 : Int32)) rfl ?_
        refine Owe.icmpYes X1334.here hx (hb hby at_90) rfl (feq (by decide)).2 (pc' := 98) (by decide) (by decide) ?_
        refine Owe.aconstNull X1334.here hx (hb hby at_98)  ?_
        refine Owe.astore X1334.here hx (hb hby at_99) rfl rfl (l' := #[.val (.int p1), .val (.int p2), .val (.int p3), .val (.int p4), .val (.ref l1325), .val (.int (2 : Int32)), .val (.int (11 : Int32)), .val (.int ((p3 &&& (255 : Int32)).toUInt32.toUInt16.toUInt32.toInt32)), .val (.int (-1 : Int32)), .val (.int (1 : Int32)), .val .null, .unset]) rfl ?_
        refine Owe.iload X1334.here hx (hb hby at_101) rfl ?_
        refine Owe.iconst X1334.here hx (hb hby at_103) (w := (5 : Int32)) rfl ?_
        refine Owe.icmpNo X1334.here hx (hb hby at_104) rfl (feq (by decide)).1 ?_
        exact cut107 _ _ _ _ _ _ _ _ _ _ _ _ _ _ (X1334.mono (by decide) (by decide)) e1334 hS1325 hk1325 hZ1325 hown1325 N1334 Z_1328 Ol_1327 H1325 Rr1325 Ex1325 Fv1325 Fc1325 Vb1325 Tx1325 (own_c255 _) (by decide)
      · rw [hk]
        refine Owe.istore X1334.here hx (hb hby at_73) rfl (l' := #[.val (.int p1), .val (.int p2), .val (.int p3), .val (.int p4), .val (.ref l1325), .val (.int (2 : Int32)), .val (.int (11 : Int32)), .val (.int ((p3 &&& (255 : Int32)).toUInt32.toUInt16.toUInt32.toInt32)), .val (.int (-1 : Int32)), .val (.int (2 : Int32)), .unset, .unset]) rfl ?_
        refine Owe.iload X1334.here hx (hb hby at_75) rfl ?_
        refine Owe.iconst X1334.here hx (hb hby at_77) (w := (3 : Int32)) rfl ?_
        refine Owe.icmpYes X1334.here hx (hb hby at_78) rfl (feq (by decide)).2 (pc' := 87) (by decide) (by decide) ?_
        refine Owe.iload X1334.here hx (hb hby at_87) rfl ?_
        refine Owe.iconst X1334.here hx (hb hby at_89) (w := (4 : Int32)) rfl ?_
        refine Owe.icmpYes X1334.here hx (hb hby at_90) rfl (feq (by decide)).2 (pc' := 98) (by decide) (by decide) ?_
        refine Owe.aconstNull X1334.here hx (hb hby at_98)  ?_
        refine Owe.astore X1334.here hx (hb hby at_99) rfl rfl (l' := #[.val (.int p1), .val (.int p2), .val (.int p3), .val (.int p4), .val (.ref l1325), .val (.int (2 : Int32)), .val (.int (11 : Int32)), .val (.int ((p3 &&& (255 : Int32)).toUInt32.toUInt16.toUInt32.toInt32)), .val (.int (-1 : Int32)), .val (.int (2 : Int32)), .val .null, .unset]) rfl ?_
        refine Owe.iload X1334.here hx (hb hby at_101) rfl ?_
        refine Owe.iconst X1334.here hx (hb hby at_103) (w := (5 : Int32)) rfl ?_
        refine Owe.icmpNo X1334.here hx (hb hby at_104) rfl (feq (by decide)).1 ?_
        exact cut107 _ _ _ _ _ _ _ _ _ _ _ _ _ _ (X1334.mono (by decide) (by decide)) e1334 hS1325 hk1325 hZ1325 hown1325 N1334 Z_1328 Ol_1327 H1325 Rr1325 Ex1325 Fv1325 Fc1325 Vb1325 Tx1325 (own_c255 _) (by decide)
      · rw [hk]
        refine Owe.istore X1334.here hx (hb hby at_73) rfl (l' := #[.val (.int p1), .val (.int p2), .val (.int p3), .val (.int p4), .val (.ref l1325), .val (.int (2 : Int32)), .val (.int (11 : Int32)), .val (.int ((p3 &&& (255 : Int32)).toUInt32.toUInt16.toUInt32.toInt32)), .val (.int (-1 : Int32)), .val (.int (3 : Int32)), .unset, .unset]) rfl ?_
        refine Owe.iload X1334.here hx (hb hby at_75) rfl ?_
        refine Owe.iconst X1334.here hx (hb hby at_77) (w := (3 : Int32)) rfl ?_
        refine Owe.icmpYes X1334.here hx (hb hby at_78) rfl (feq (by decide)).2 (pc' := 87) (by decide) (by decide) ?_
        refine Owe.iload X1334.here hx (hb hby at_87) rfl ?_
        refine Owe.iconst X1334.here hx (hb hby at_89) (w := (4 : Int32)) rfl ?_
        refine Owe.icmpYes X1334.here hx (hb hby at_90) rfl (feq (by decide)).2 (pc' := 98) (by decide) (by decide) ?_
        refine Owe.aconstNull X1334.here hx (hb hby at_98)  ?_
        refine Owe.astore X1334.here hx (hb hby at_99) rfl rfl (l' := #[.val (.int p1), .val (.int p2), .val (.int p3), .val (.int p4), .val (.ref l1325), .val (.int (2 : Int32)), .val (.int (11 : Int32)), .val (.int ((p3 &&& (255 : Int32)).toUInt32.toUInt16.toUInt32.toInt32)), .val (.int (-1 : Int32)), .val (.int (3 : Int32)), .val .null, .unset]) rfl ?_
        refine Owe.iload X1334.here hx (hb hby at_101) rfl ?_
        refine Owe.iconst X1334.here hx (hb hby at_103) (w := (5 : Int32)) rfl ?_
        refine Owe.icmpNo X1334.here hx (hb hby at_104) rfl (feq (by decide)).1 ?_
        exact cut107 _ _ _ _ _ _ _ _ _ _ _ _ _ _ (X1334.mono (by decide) (by decide)) e1334 hS1325 hk1325 hZ1325 hown1325 N1334 Z_1328 Ol_1327 H1325 Rr1325 Ex1325 Fv1325 Fc1325 Vb1325 Tx1325 (own_c255 _) (by decide)
      · rw [hk]
        refine Owe.istore X1334.here hx (hb hby at_73) rfl (l' := #[.val (.int p1), .val (.int p2), .val (.int p3), .val (.int p4), .val (.ref l1325), .val (.int (2 : Int32)), .val (.int (11 : Int32)), .val (.int ((p3 &&& (255 : Int32)).toUInt32.toUInt16.toUInt32.toInt32)), .val (.int (-1 : Int32)), .val (.int (4 : Int32)), .unset, .unset]) rfl ?_
        refine Owe.iload X1334.here hx (hb hby at_75) rfl ?_
        refine Owe.iconst X1334.here hx (hb hby at_77) (w := (3 : Int32)) rfl ?_
        refine Owe.icmpYes X1334.here hx (hb hby at_78) rfl (feq (by decide)).2 (pc' := 87) (by decide) (by decide) ?_
        refine Owe.iload X1334.here hx (hb hby at_87) rfl ?_
        refine Owe.iconst X1334.here hx (hb hby at_89) (w := (4 : Int32)) rfl ?_
        refine Owe.icmpYes X1334.here hx (hb hby at_90) rfl (feq (by decide)).2 (pc' := 98) (by decide) (by decide) ?_
        refine Owe.aconstNull X1334.here hx (hb hby at_98)  ?_
        refine Owe.astore X1334.here hx (hb hby at_99) rfl rfl (l' := #[.val (.int p1), .val (.int p2), .val (.int p3), .val (.int p4), .val (.ref l1325), .val (.int (2 : Int32)), .val (.int (11 : Int32)), .val (.int ((p3 &&& (255 : Int32)).toUInt32.toUInt16.toUInt32.toInt32)), .val (.int (-1 : Int32)), .val (.int (4 : Int32)), .val .null, .unset]) rfl ?_
        refine Owe.iload X1334.here hx (hb hby at_101) rfl ?_
        refine Owe.iconst X1334.here hx (hb hby at_103) (w := (5 : Int32)) rfl ?_
        refine Owe.icmpNo X1334.here hx (hb hby at_104) rfl (feq (by decide)).1 ?_
        exact cut107 _ _ _ _ _ _ _ _ _ _ _ _ _ _ (X1334.mono (by decide) (by decide)) e1334 hS1325 hk1325 hZ1325 hown1325 N1334 Z_1328 Ol_1327 H1325 Rr1325 Ex1325 Fv1325 Fc1325 Vb1325 Tx1325 (own_c255 _) (by decide)
      · rw [hk]
        refine Owe.istore X1334.here hx (hb hby at_73) rfl (l' := #[.val (.int p1), .val (.int p2), .val (.int p3), .val (.int p4), .val (.ref l1325), .val (.int (2 : Int32)), .val (.int (11 : Int32)), .val (.int ((p3 &&& (255 : Int32)).toUInt32.toUInt16.toUInt32.toInt32)), .val (.int (-1 : Int32)), .val (.int (5 : Int32)), .unset, .unset]) rfl ?_
        refine Owe.iload X1334.here hx (hb hby at_75) rfl ?_
        refine Owe.iconst X1334.here hx (hb hby at_77) (w := (3 : Int32)) rfl ?_
        refine Owe.icmpYes X1334.here hx (hb hby at_78) rfl (feq (by decide)).2 (pc' := 87) (by decide) (by decide) ?_
        refine Owe.iload X1334.here hx (hb hby at_87) rfl ?_
        refine Owe.iconst X1334.here hx (hb hby at_89) (w := (4 : Int32)) rfl ?_
        refine Owe.icmpYes X1334.here hx (hb hby at_90) rfl (feq (by decide)).2 (pc' := 98) (by decide) (by decide) ?_
        refine Owe.aconstNull X1334.here hx (hb hby at_98)  ?_
        refine Owe.astore X1334.here hx (hb hby at_99) rfl rfl (l' := #[.val (.int p1), .val (.int p2), .val (.int p3), .val (.int p4), .val (.ref l1325), .val (.int (2 : Int32)), .val (.int (11 : Int32)), .val (.int ((p3 &&& (255 : Int32)).toUInt32.toUInt16.toUInt32.toInt32)), .val (.int (-1 : Int32)), .val (.int (5 : Int32)), .val .null, .unset]) rfl ?_
        refine Owe.iload X1334.here hx (hb hby at_101) rfl ?_
        refine Owe.iconst X1334.here hx (hb hby at_103) (w := (5 : Int32)) rfl ?_
        refine Owe.icmpNo X1334.here hx (hb hby at_104) rfl (feq (by decide)).1 ?_
        exact cut107 _ _ _ _ _ _ _ _ _ _ _ _ _ _ (X1334.mono (by decide) (by decide)) e1334 hS1325 hk1325 hZ1325 hown1325 N1334 Z_1328 Ol_1327 H1325 Rr1325 Ex1325 Fv1325 Fc1325 Vb1325 Tx1325 (own_c255 _) (by decide)
      · rw [hk]
        refine Owe.istore X1334.here hx (hb hby at_73) rfl (l' := #[.val (.int p1), .val (.int p2), .val (.int p3), .val (.int p4), .val (.ref l1325), .val (.int (2 : Int32)), .val (.int (11 : Int32)), .val (.int ((p3 &&& (255 : Int32)).toUInt32.toUInt16.toUInt32.toInt32)), .val (.int (-1 : Int32)), .val (.int (6 : Int32)), .unset, .unset]) rfl ?_
        refine Owe.iload X1334.here hx (hb hby at_75) rfl ?_
        refine Owe.iconst X1334.here hx (hb hby at_77) (w := (3 : Int32)) rfl ?_
        refine Owe.icmpYes X1334.here hx (hb hby at_78) rfl (feq (by decide)).2 (pc' := 87) (by decide) (by decide) ?_
        refine Owe.iload X1334.here hx (hb hby at_87) rfl ?_
        refine Owe.iconst X1334.here hx (hb hby at_89) (w := (4 : Int32)) rfl ?_
        refine Owe.icmpYes X1334.here hx (hb hby at_90) rfl (feq (by decide)).2 (pc' := 98) (by decide) (by decide) ?_
        refine Owe.aconstNull X1334.here hx (hb hby at_98)  ?_
        refine Owe.astore X1334.here hx (hb hby at_99) rfl rfl (l' := #[.val (.int p1), .val (.int p2), .val (.int p3), .val (.int p4), .val (.ref l1325), .val (.int (2 : Int32)), .val (.int (11 : Int32)), .val (.int ((p3 &&& (255 : Int32)).toUInt32.toUInt16.toUInt32.toInt32)), .val (.int (-1 : Int32)), .val (.int (6 : Int32)), .val .null, .unset]) rfl ?_
        refine Owe.iload X1334.here hx (hb hby at_101) rfl ?_
        refine Owe.iconst X1334.here hx (hb hby at_103) (w := (5 : Int32)) rfl ?_
        refine Owe.icmpNo X1334.here hx (hb hby at_104) rfl (feq (by decide)).1 ?_
        exact cut107 _ _ _ _ _ _ _ _ _ _ _ _ _ _ (X1334.mono (by decide) (by decide)) e1334 hS1325 hk1325 hZ1325 hown1325 N1334 Z_1328 Ol_1327 H1325 Rr1325 Ex1325 Fv1325 Fc1325 Vb1325 Tx1325 (own_c255 _) (by decide)
      · rw [hk]
        refine Owe.istore X1334.here hx (hb hby at_73) rfl (l' := #[.val (.int p1), .val (.int p2), .val (.int p3), .val (.int p4), .val (.ref l1325), .val (.int (2 : Int32)), .val (.int (11 : Int32)), .val (.int ((p3 &&& (255 : Int32)).toUInt32.toUInt16.toUInt32.toInt32)), .val (.int (-1 : Int32)), .val (.int (7 : Int32)), .unset, .unset]) rfl ?_
        refine Owe.iload X1334.here hx (hb hby at_75) rfl ?_
        refine Owe.iconst X1334.here hx (hb hby at_77) (w := (3 : Int32)) rfl ?_
        refine Owe.icmpYes X1334.here hx (hb hby at_78) rfl (feq (by decide)).2 (pc' := 87) (by decide) (by decide) ?_
        refine Owe.iload X1334.here hx (hb hby at_87) rfl ?_
        refine Owe.iconst X1334.here hx (hb hby at_89) (w := (4 : Int32)) rfl ?_
        refine Owe.icmpYes X1334.here hx (hb hby at_90) rfl (feq (by decide)).2 (pc' := 98) (by decide) (by decide) ?_
        refine Owe.aconstNull X1334.here hx (hb hby at_98)  ?_
        refine Owe.astore X1334.here hx (hb hby at_99) rfl rfl (l' := #[.val (.int p1), .val (.int p2), .val (.int p3), .val (.int p4), .val (.ref l1325), .val (.int (2 : Int32)), .val (.int (11 : Int32)), .val (.int ((p3 &&& (255 : Int32)).toUInt32.toUInt16.toUInt32.toInt32)), .val (.int (-1 : Int32)), .val (.int (7 : Int32)), .val .null, .unset]) rfl ?_
        refine Owe.iload X1334.here hx (hb hby at_101) rfl ?_
        refine Owe.iconst X1334.here hx (hb hby at_103) (w := (5 : Int32)) rfl ?_
        refine Owe.icmpNo X1334.here hx (hb hby at_104) rfl (feq (by decide)).1 ?_
        exact cut107 _ _ _ _ _ _ _ _ _ _ _ _ _ _ (X1334.mono (by decide) (by decide)) e1334 hS1325 hk1325 hZ1325 hown1325 N1334 Z_1328 Ol_1327 H1325 Rr1325 Ex1325 Fv1325 Fc1325 Vb1325 Tx1325 (own_c255 _) (by decide)
      · rw [hk]
        refine Owe.istore X1334.here hx (hb hby at_73) rfl (l' := #[.val (.int p1), .val (.int p2), .val (.int p3), .val (.int p4), .val (.ref l1325), .val (.int (2 : Int32)), .val (.int (11 : Int32)), .val (.int ((p3 &&& (255 : Int32)).toUInt32.toUInt16.toUInt32.toInt32)), .val (.int (-1 : Int32)), .val (.int (8 : Int32)), .unset, .unset]) rfl ?_
        refine Owe.iload X1334.here hx (hb hby at_75) rfl ?_
        refine Owe.iconst X1334.here hx (hb hby at_77) (w := (3 : Int32)) rfl ?_
        refine Owe.icmpYes X1334.here hx (hb hby at_78) rfl (feq (by decide)).2 (pc' := 87) (by decide) (by decide) ?_
        refine Owe.iload X1334.here hx (hb hby at_87) rfl ?_
        refine Owe.iconst X1334.here hx (hb hby at_89) (w := (4 : Int32)) rfl ?_
        refine Owe.icmpYes X1334.here hx (hb hby at_90) rfl (feq (by decide)).2 (pc' := 98) (by decide) (by decide) ?_
        refine Owe.aconstNull X1334.here hx (hb hby at_98)  ?_
        refine Owe.astore X1334.here hx (hb hby at_99) rfl rfl (l' := #[.val (.int p1), .val (.int p2), .val (.int p3), .val (.int p4), .val (.ref l1325), .val (.int (2 : Int32)), .val (.int (11 : Int32)), .val (.int ((p3 &&& (255 : Int32)).toUInt32.toUInt16.toUInt32.toInt32)), .val (.int (-1 : Int32)), .val (.int (8 : Int32)), .val .null, .unset]) rfl ?_
        refine Owe.iload X1334.here hx (hb hby at_101) rfl ?_
        refine Owe.iconst X1334.here hx (hb hby at_103) (w := (5 : Int32)) rfl ?_
        refine Owe.icmpNo X1334.here hx (hb hby at_104) rfl (feq (by decide)).1 ?_
        exact cut107 _ _ _ _ _ _ _ _ _ _ _ _ _ _ (X1334.mono (by decide) (by decide)) e1334 hS1325 hk1325 hZ1325 hown1325 N1334 Z_1328 Ol_1327 H1325 Rr1325 Ex1325 Fv1325 Fc1325 Vb1325 Tx1325 (own_c255 _) (by decide)
      · rw [hk]
        refine Owe.istore X1334.here hx (hb hby at_73) rfl (l' := #[.val (.int p1), .val (.int p2), .val (.int p3), .val (.int p4), .val (.ref l1325), .val (.int (2 : Int32)), .val (.int (11 : Int32)), .val (.int ((p3 &&& (255 : Int32)).toUInt32.toUInt16.toUInt32.toInt32)), .val (.int (-1 : Int32)), .val (.int (9 : Int32)), .unset, .unset]) rfl ?_
        refine Owe.iload X1334.here hx (hb hby at_75) rfl ?_
        refine Owe.iconst X1334.here hx (hb hby at_77) (w := (3 : Int32)) rfl ?_
        refine Owe.icmpYes X1334.here hx (hb hby at_78) rfl (feq (by decide)).2 (pc' := 87) (by decide) (by decide) ?_
        refine Owe.iload X1334.here hx (hb hby at_87) rfl ?_
        refine Owe.iconst X1334.here hx (hb hby at_89) (w := (4 : Int32)) rfl ?_
        refine Owe.icmpYes X1334.here hx (hb hby at_90) rfl (feq (by decide)).2 (pc' := 98) (by decide) (by decide) ?_
        refine Owe.aconstNull X1334.here hx (hb hby at_98)  ?_
        refine Owe.astore X1334.here hx (hb hby at_99) rfl rfl (l' := #[.val (.int p1), .val (.int p2), .val (.int p3), .val (.int p4), .val (.ref l1325), .val (.int (2 : Int32)), .val (.int (11 : Int32)), .val (.int ((p3 &&& (255 : Int32)).toUInt32.toUInt16.toUInt32.toInt32)), .val (.int (-1 : Int32)), .val (.int (9 : Int32)), .val .null, .unset]) rfl ?_
        refine Owe.iload X1334.here hx (hb hby at_101) rfl ?_
        refine Owe.iconst X1334.here hx (hb hby at_103) (w := (5 : Int32)) rfl ?_
        refine Owe.icmpNo X1334.here hx (hb hby at_104) rfl (feq (by decide)).1 ?_
        exact cut107 _ _ _ _ _ _ _ _ _ _ _ _ _ _ (X1334.mono (by decide) (by decide)) e1334 hS1325 hk1325 hZ1325 hown1325 N1334 Z_1328 Ol_1327 H1325 Rr1325 Ex1325 Fv1325 Fc1325 Vb1325 Tx1325 (own_c255 _) (by decide)
      · rw [hk]
        refine Owe.istore X1334.here hx (hb hby at_73) rfl (l' := #[.val (.int p1), .val (.int p2), .val (.int p3), .val (.int p4), .val (.ref l1325), .val (.int (2 : Int32)), .val (.int (11 : Int32)), .val (.int ((p3 &&& (255 : Int32)).toUInt32.toUInt16.toUInt32.toInt32)), .val (.int (-1 : Int32)), .val (.int (10 : Int32)), .unset, .unset]) rfl ?_
        refine Owe.iload X1334.here hx (hb hby at_75) rfl ?_
        refine Owe.iconst X1334.here hx (hb hby at_77) (w := (3 : Int32)) rfl ?_
        refine Owe.icmpYes X1334.here hx (hb hby at_78) rfl (feq (by decide)).2 (pc' := 87) (by decide) (by decide) ?_
        refine Owe.iload X1334.here hx (hb hby at_87) rfl ?_
        refine Owe.iconst X1334.here hx (hb hby at_89) (w := (4 : Int32)) rfl ?_
        refine Owe.icmpYes X1334.here hx (hb hby at_90) rfl (feq (by decide)).2 (pc' := 98) (by decide) (by decide) ?_
        refine Owe.aconstNull X1334.here hx (hb hby at_98)  ?_
        refine Owe.astore X1334.here hx (hb hby at_99) rfl rfl (l' := #[.val (.int p1), .val (.int p2), .val (.int p3), .val (.int p4), .val (.ref l1325), .val (.int (2 : Int32)), .val (.int (11 : Int32)), .val (.int ((p3 &&& (255 : Int32)).toUInt32.toUInt16.toUInt32.toInt32)), .val (.int (-1 : Int32)), .val (.int (10 : Int32)), .val .null, .unset]) rfl ?_
        refine Owe.iload X1334.here hx (hb hby at_101) rfl ?_
        refine Owe.iconst X1334.here hx (hb hby at_103) (w := (5 : Int32)) rfl ?_
        refine Owe.icmpNo X1334.here hx (hb hby at_104) rfl (feq (by decide)).1 ?_
        exact cut107 _ _ _ _ _ _ _ _ _ _ _ _ _ _ (X1334.mono (by decide) (by decide)) e1334 hS1325 hk1325 hZ1325 hown1325 N1334 Z_1328 Ol_1327 H1325 Rr1325 Ex1325 Fv1325 Fc1325 Vb1325 Tx1325 (own_c255 _) (by decide)
    · rw [hk]
      refine Owe.istore X1325.here hx (hb hby at_21) rfl (l' := #[.val (.int p1), .val (.int p2), .val (.int p3), .val (.int p4), .val (.ref l1325), .val (.int (3 : Int32)), .unset, .unset, .unset, .unset, .unset, .unset]) rfl ?_
      refine Owe.aload X1325.here hx (hb hby at_23) rfl rfl ?_
      have hcd1335 : StrChars.Road.CodA ([108, 97, 114, 103, 101, 115, 116, 45, 103, 97, 112] : List Int32) 0 (11 : Int32) ((([108, 97, 114, 103, 101, 115, 116, 45, 103, 97, 112] : List Int32).map (fun c => c.toInt8.toInt32)).map Value.int) := StrChars.Road.codOf (n := 11) rfl (fun x hx => (Tx1325.1 x hx).2)
      have hbd1335 := up ([108, 97, 114, 103, 101, 115, 116, 45, 103, 97, 112] : List Int32) Tx1325.1
      refine Owe.virt X1325 hx hZ1325 (y := Y8) (z := Y8) (Q := fun v h' L => v = some (.int (Int32.ofNat ([108, 97, 114, 103, 101, 115, 116, 45, 103, 97, 112] : List Int32).length)) ∧ L = [] ∧ h' = h1325) (kc := 0) (ks := 0) hown1325 (mvT hZ1325 (wd hw 8)) (mvT hZ1325 (wd hw 9)) (mvT hZ1325 (wd hw 11)) (mvT hZ1325 (wd hw 10)) (notFace_of_selects (args := #[]) (mvT hZ1325 (wd hw 11))) (by decide) (StrChars.Road.lenW (W := 0) hZ1325 (own_hln hw) (kI := 4) (wd hw 2) Ex1325 Fv1325 Fc1325 Vb1325 hcd1335 hbd1335 (S_COMPACT_STRINGS.ext Ol_1327.2) cs0 Tx1325.2 (by decide) (by decide)) (by rw [hml]; rfl) (a := l1325) (argsL := []) (rest := []) Ex1325 (lenOf pd_6 rfl) rfl (nb rfl) (hb hby at_25) rfl e1325 (by decide) (by decide) fun T1336 v1336 L1336 X1336 hQ1336 => ?_
      obtain ⟨rfl, rfl, e1336⟩ := hQ1336
      have N1336 := Fr.app N0 (Fr.nil n0)
      refine Owe.istore X1336.here hx (hb hby at_28) rfl (l' := #[.val (.int p1), .val (.int p2), .val (.int p3), .val (.int p4), .val (.ref l1325), .val (.int (3 : Int32)), .val (.int (11 : Int32)), .unset, .unset, .unset, .unset, .unset]) rfl ?_
      refine Owe.iloadN X1336.here hx (hb hby at_30) rfl ?_
      refine Owe.sipush X1336.here hx (hb hby at_31) (w := (255 : Int32)) rfl ?_
      refine Owe.iand X1336.here hx (hb hby at_34) rfl ?_
      refine Owe.i2c X1336.here hx (hb hby at_35) rfl ?_
      refine Owe.istore X1336.here hx (hb hby at_36) rfl (l' := #[.val (.int p1), .val (.int p2), .val (.int p3), .val (.int p4), .val (.ref l1325), .val (.int (3 : Int32)), .val (.int (11 : Int32)), .val (.int ((p3 &&& (255 : Int32)).toUInt32.toUInt16.toUInt32.toInt32)), .unset, .unset, .unset, .unset]) rfl ?_
      refine Owe.iconst X1336.here hx (hb hby at_38) (w := (-1 : Int32)) rfl ?_
      refine Owe.istore X1336.here hx (hb hby at_39) rfl (l' := #[.val (.int p1), .val (.int p2), .val (.int p3), .val (.int p4), .val (.ref l1325), .val (.int (3 : Int32)), .val (.int (11 : Int32)), .val (.int ((p3 &&& (255 : Int32)).toUInt32.toUInt16.toUInt32.toInt32)), .val (.int (-1 : Int32)), .unset, .unset, .unset]) rfl ?_
      refine Owe.iload X1336.here hx (hb hby at_41) rfl ?_
      refine Owe.istore X1336.here hx (hb hby at_43) rfl (l' := #[.val (.int p1), .val (.int p2), .val (.int p3), .val (.int p4), .val (.ref l1325), .val (.int (3 : Int32)), .val (.int (11 : Int32)), .val (.int ((p3 &&& (255 : Int32)).toUInt32.toUInt16.toUInt32.toInt32)), .val (.int (-1 : Int32)), .val (.int (11 : Int32)), .unset, .unset]) rfl ?_
      refine Owe.iload X1336.here hx (hb hby at_45) rfl ?_
      refine Owe.iconst X1336.here hx (hb hby at_47) (w := (1 : Int32)) rfl ?_
      refine Owe.icmpYes X1336.here hx (hb hby at_48) rfl (feq (by decide)).2 (pc' := 60) (by decide) (by decide) ?_
      refine Owe.iload X1336.here hx (hb hby at_60) rfl ?_
      refine Owe.iconst X1336.here hx (hb hby at_62) (w := (2 : Int32)) rfl ?_
      refine Owe.icmpYes X1336.here hx (hb hby at_63) rfl (feq (by decide)).2 (pc' := 75) (by decide) (by decide) ?_
      refine Owe.iload X1336.here hx (hb hby at_75) rfl ?_
      refine Owe.iconst X1336.here hx (hb hby at_77) (w := (3 : Int32)) rfl ?_
      refine Owe.icmpNo X1336.here hx (hb hby at_78) rfl (teq (by decide)).2 ?_
      refine Owe.iload X1336.here hx (hb hby at_81) rfl ?_
      refine Owe.iconst X1336.here hx (hb hby at_83) (w := (1 : Int32)) rfl ?_
      refine Owe.iadd X1336.here hx (hb hby at_84) rfl ?_
      refine Owe.istore X1336.here hx (hb hby at_85) rfl (l' := #[.val (.int p1), .val (.int p2), .val (.int p3), .val (.int p4), .val (.ref l1325), .val (.int (3 : Int32)), .val (.int (11 : Int32)), .val (.int ((p3 &&& (255 : Int32)).toUInt32.toUInt16.toUInt32.toInt32)), .val (.int (-1 : Int32)), .val (.int (12 : Int32)), .unset, .unset]) rfl ?_
      refine Owe.iload X1336.here hx (hb hby at_87) rfl ?_
      refine Owe.iconst X1336.here hx (hb hby at_89) (w := (4 : Int32)) rfl ?_
      refine Owe.icmpYes X1336.here hx (hb hby at_90) rfl (feq (by decide)).2 (pc' := 98) (by decide) (by decide) ?_
      refine Owe.aconstNull X1336.here hx (hb hby at_98)  ?_
      refine Owe.astore X1336.here hx (hb hby at_99) rfl rfl (l' := #[.val (.int p1), .val (.int p2), .val (.int p3), .val (.int p4), .val (.ref l1325), .val (.int (3 : Int32)), .val (.int (11 : Int32)), .val (.int ((p3 &&& (255 : Int32)).toUInt32.toUInt16.toUInt32.toInt32)), .val (.int (-1 : Int32)), .val (.int (12 : Int32)), .val .null, .unset]) rfl ?_
      refine Owe.iload X1336.here hx (hb hby at_101) rfl ?_
      refine Owe.iconst X1336.here hx (hb hby at_103) (w := (5 : Int32)) rfl ?_
      refine Owe.icmpNo X1336.here hx (hb hby at_104) rfl (feq (by decide)).1 ?_
      exact cut107 _ _ _ _ _ _ _ _ _ _ _ _ _ _ (X1336.mono (by decide) (by decide)) e1336 hS1325 hk1325 hZ1325 hown1325 N1336 Z_1328 Ol_1327 H1325 Rr1325 Ex1325 Fv1325 Fc1325 Vb1325 Tx1325 (own_c255 _) (by decide)
    · rw [hk]
      refine Owe.istore X1325.here hx (hb hby at_21) rfl (l' := #[.val (.int p1), .val (.int p2), .val (.int p3), .val (.int p4), .val (.ref l1325), .val (.int (4 : Int32)), .unset, .unset, .unset, .unset, .unset, .unset]) rfl ?_
      refine Owe.aload X1325.here hx (hb hby at_23) rfl rfl ?_
      have hcd1337 : StrChars.Road.CodA ([108, 97, 114, 103, 101, 115, 116, 45, 103, 97, 112] : List Int32) 0 (11 : Int32) ((([108, 97, 114, 103, 101, 115, 116, 45, 103, 97, 112] : List Int32).map (fun c => c.toInt8.toInt32)).map Value.int) := StrChars.Road.codOf (n := 11) rfl (fun x hx => (Tx1325.1 x hx).2)
      have hbd1337 := up ([108, 97, 114, 103, 101, 115, 116, 45, 103, 97, 112] : List Int32) Tx1325.1
      refine Owe.virt X1325 hx hZ1325 (y := Y8) (z := Y8) (Q := fun v h' L => v = some (.int (Int32.ofNat ([108, 97, 114, 103, 101, 115, 116, 45, 103, 97, 112] : List Int32).length)) ∧ L = [] ∧ h' = h1325) (kc := 0) (ks := 0) hown1325 (mvT hZ1325 (wd hw 8)) (mvT hZ1325 (wd hw 9)) (mvT hZ1325 (wd hw 11)) (mvT hZ1325 (wd hw 10)) (notFace_of_selects (args := #[]) (mvT hZ1325 (wd hw 11))) (by decide) (StrChars.Road.lenW (W := 0) hZ1325 (own_hln hw) (kI := 4) (wd hw 2) Ex1325 Fv1325 Fc1325 Vb1325 hcd1337 hbd1337 (S_COMPACT_STRINGS.ext Ol_1327.2) cs0 Tx1325.2 (by decide) (by decide)) (by rw [hml]; rfl) (a := l1325) (argsL := []) (rest := []) Ex1325 (lenOf pd_6 rfl) rfl (nb rfl) (hb hby at_25) rfl e1325 (by decide) (by decide) fun T1338 v1338 L1338 X1338 hQ1338 => ?_
      obtain ⟨rfl, rfl, e1338⟩ := hQ1338
      have N1338 := Fr.app N0 (Fr.nil n0)
      refine Owe.istore X1338.here hx (hb hby at_28) rfl (l' := #[.val (.int p1), .val (.int p2), .val (.int p3), .val (.int p4), .val (.ref l1325), .val (.int (4 : Int32)), .val (.int (11 : Int32)), .unset, .unset, .unset, .unset, .unset]) rfl ?_
      refine Owe.iloadN X1338.here hx (hb hby at_30) rfl ?_
      refine Owe.sipush X1338.here hx (hb hby at_31) (w := (255 : Int32)) rfl ?_
      refine Owe.iand X1338.here hx (hb hby at_34) rfl ?_
      refine Owe.i2c X1338.here hx (hb hby at_35) rfl ?_
      refine Owe.istore X1338.here hx (hb hby at_36) rfl (l' := #[.val (.int p1), .val (.int p2), .val (.int p3), .val (.int p4), .val (.ref l1325), .val (.int (4 : Int32)), .val (.int (11 : Int32)), .val (.int ((p3 &&& (255 : Int32)).toUInt32.toUInt16.toUInt32.toInt32)), .unset, .unset, .unset, .unset]) rfl ?_
      refine Owe.iconst X1338.here hx (hb hby at_38) (w := (-1 : Int32)) rfl ?_
      refine Owe.istore X1338.here hx (hb hby at_39) rfl (l' := #[.val (.int p1), .val (.int p2), .val (.int p3), .val (.int p4), .val (.ref l1325), .val (.int (4 : Int32)), .val (.int (11 : Int32)), .val (.int ((p3 &&& (255 : Int32)).toUInt32.toUInt16.toUInt32.toInt32)), .val (.int (-1 : Int32)), .unset, .unset, .unset]) rfl ?_
      refine Owe.iload X1338.here hx (hb hby at_41) rfl ?_
      refine Owe.istore X1338.here hx (hb hby at_43) rfl (l' := #[.val (.int p1), .val (.int p2), .val (.int p3), .val (.int p4), .val (.ref l1325), .val (.int (4 : Int32)), .val (.int (11 : Int32)), .val (.int ((p3 &&& (255 : Int32)).toUInt32.toUInt16.toUInt32.toInt32)), .val (.int (-1 : Int32)), .val (.int (11 : Int32)), .unset, .unset]) rfl ?_
      refine Owe.iload X1338.here hx (hb hby at_45) rfl ?_
      refine Owe.iconst X1338.here hx (hb hby at_47) (w := (1 : Int32)) rfl ?_
      refine Owe.icmpYes X1338.here hx (hb hby at_48) rfl (feq (by decide)).2 (pc' := 60) (by decide) (by decide) ?_
      refine Owe.iload X1338.here hx (hb hby at_60) rfl ?_
      refine Owe.iconst X1338.here hx (hb hby at_62) (w := (2 : Int32)) rfl ?_
      refine Owe.icmpYes X1338.here hx (hb hby at_63) rfl (feq (by decide)).2 (pc' := 75) (by decide) (by decide) ?_
      refine Owe.iload X1338.here hx (hb hby at_75) rfl ?_
      refine Owe.iconst X1338.here hx (hb hby at_77) (w := (3 : Int32)) rfl ?_
      refine Owe.icmpYes X1338.here hx (hb hby at_78) rfl (feq (by decide)).2 (pc' := 87) (by decide) (by decide) ?_
      refine Owe.iload X1338.here hx (hb hby at_87) rfl ?_
      refine Owe.iconst X1338.here hx (hb hby at_89) (w := (4 : Int32)) rfl ?_
      refine Owe.icmpNo X1338.here hx (hb hby at_90) rfl (teq (by decide)).2 ?_
      refine Owe.iloadN X1338.here hx (hb hby at_93) rfl ?_
      refine Owe.iconst X1338.here hx (hb hby at_94) (w := (3 : Int32)) rfl ?_
      refine Owe.iand X1338.here hx (hb hby at_95) rfl ?_
      rcases own_and3 p4 with hk | hk | hk | hk
      · rw [hk]
        refine Owe.istore X1338.here hx (hb hby at_96) rfl (l' := #[.val (.int p1), .val (.int p2), .val (.int p3), .val (.int p4), .val (.ref l1325), .val (.int (4 : Int32)), .val (.int (11 : Int32)), .val (.int ((p3 &&& (255 : Int32)).toUInt32.toUInt16.toUInt32.toInt32)), .val (.int (-1 : Int32)), .val (.int (0 : Int32)), .unset, .unset]) rfl ?_
        refine Owe.aconstNull X1338.here hx (hb hby at_98)  ?_
        refine Owe.astore X1338.here hx (hb hby at_99) rfl rfl (l' := #[.val (.int p1), .val (.int p2), .val (.int p3), .val (.int p4), .val (.ref l1325), .val (.int (4 : Int32)), .val (.int (11 : Int32)), .val (.int ((p3 &&& (255 : Int32)).toUInt32.toUInt16.toUInt32.toInt32)), .val (.int (-1 : Int32)), .val (.int (0 : Int32)), .val .null, .unset]) rfl ?_
        refine Owe.iload X1338.here hx (hb hby at_101) rfl ?_
        refine Owe.iconst X1338.here hx (hb hby at_103) (w := (5 : Int32)) rfl ?_
        refine Owe.icmpNo X1338.here hx (hb hby at_104) rfl (feq (by decide)).1 ?_
        exact cut107 _ _ _ _ _ _ _ _ _ _ _ _ _ _ (X1338.mono (by decide) (by decide)) e1338 hS1325 hk1325 hZ1325 hown1325 N1338 Z_1328 Ol_1327 H1325 Rr1325 Ex1325 Fv1325 Fc1325 Vb1325 Tx1325 (own_c255 _) (by decide)
      · rw [hk]
        refine Owe.istore X1338.here hx (hb hby at_96) rfl (l' := #[.val (.int p1), .val (.int p2), .val (.int p3), .val (.int p4), .val (.ref l1325), .val (.int (4 : Int32)), .val (.int (11 : Int32)), .val (.int ((p3 &&& (255 : Int32)).toUInt32.toUInt16.toUInt32.toInt32)), .val (.int (-1 : Int32)), .val (.int (1 : Int32)), .unset, .unset]) rfl ?_
        refine Owe.aconstNull X1338.here hx (hb hby at_98)  ?_
        refine Owe.astore X1338.here hx (hb hby at_99) rfl rfl (l' := #[.val (.int p1), .val (.int p2), .val (.int p3), .val (.int p4), .val (.ref l1325), .val (.int (4 : Int32)), .val (.int (11 : Int32)), .val (.int ((p3 &&& (255 : Int32)).toUInt32.toUInt16.toUInt32.toInt32)), .val (.int (-1 : Int32)), .val (.int (1 : Int32)), .val .null, .unset]) rfl ?_
        refine Owe.iload X1338.here hx (hb hby at_101) rfl ?_
        refine Owe.iconst X1338.here hx (hb hby at_103) (w := (5 : Int32)) rfl ?_
        refine Owe.icmpNo X1338.here hx (hb hby at_104) rfl (feq (by decide)).1 ?_
        exact cut107 _ _ _ _ _ _ _ _ _ _ _ _ _ _ (X1338.mono (by decide) (by decide)) e1338 hS1325 hk1325 hZ1325 hown1325 N1338 Z_1328 Ol_1327 H1325 Rr1325 Ex1325 Fv1325 Fc1325 Vb1325 Tx1325 (own_c255 _) (by decide)
      · rw [hk]
        refine Owe.istore X1338.here hx (hb hby at_96) rfl (l' := #[.val (.int p1), .val (.int p2), .val (.int p3), .val (.int p4), .val (.ref l1325), .val (.int (4 : Int32)), .val (.int (11 : Int32)), .val (.int ((p3 &&& (255 : Int32)).toUInt32.toUInt16.toUInt32.toInt32)), .val (.int (-1 : Int32)), .val (.int (2 : Int32)), .unset, .unset]) rfl ?_
        refine Owe.aconstNull X1338.here hx (hb hby at_98)  ?_
        refine Owe.astore X1338.here hx (hb hby at_99) rfl rfl (l' := #[.val (.int p1), .val (.int p2), .val (.int p3), .val (.int p4), .val (.ref l1325), .val (.int (4 : Int32)), .val (.int (11 : Int32)), .val (.int ((p3 &&& (255 : Int32)).toUInt32.toUInt16.toUInt32.toInt32)), .val (.int (-1 : Int32)), .val (.int (2 : Int32)), .val .null, .unset]) rfl ?_
        refine Owe.iload X1338.here hx (hb hby at_101) rfl ?_
        refine Owe.iconst X1338.here hx (hb hby at_103) (w := (5 : Int32)) rfl ?_
        refine Owe.icmpNo X1338.here hx (hb hby at_104) rfl (feq (by decide)).1 ?_
        exact cut107 _ _ _ _ _ _ _ _ _ _ _ _ _ _ (X1338.mono (by decide) (by decide)) e1338 hS1325 hk1325 hZ1325 hown1325 N1338 Z_1328 Ol_1327 H1325 Rr1325 Ex1325 Fv1325 Fc1325 Vb1325 Tx1325 (own_c255 _) (by decide)
      · rw [hk]
        refine Owe.istore X1338.here hx (hb hby at_96) rfl (l' := #[.val (.int p1), .val (.int p2), .val (.int p3), .val (.int p4), .val (.ref l1325), .val (.int (4 : Int32)), .val (.int (11 : Int32)), .val (.int ((p3 &&& (255 : Int32)).toUInt32.toUInt16.toUInt32.toInt32)), .val (.int (-1 : Int32)), .val (.int (3 : Int32)), .unset, .unset]) rfl ?_
        refine Owe.aconstNull X1338.here hx (hb hby at_98)  ?_
        refine Owe.astore X1338.here hx (hb hby at_99) rfl rfl (l' := #[.val (.int p1), .val (.int p2), .val (.int p3), .val (.int p4), .val (.ref l1325), .val (.int (4 : Int32)), .val (.int (11 : Int32)), .val (.int ((p3 &&& (255 : Int32)).toUInt32.toUInt16.toUInt32.toInt32)), .val (.int (-1 : Int32)), .val (.int (3 : Int32)), .val .null, .unset]) rfl ?_
        refine Owe.iload X1338.here hx (hb hby at_101) rfl ?_
        refine Owe.iconst X1338.here hx (hb hby at_103) (w := (5 : Int32)) rfl ?_
        refine Owe.icmpNo X1338.here hx (hb hby at_104) rfl (feq (by decide)).1 ?_
        exact cut107 _ _ _ _ _ _ _ _ _ _ _ _ _ _ (X1338.mono (by decide) (by decide)) e1338 hS1325 hk1325 hZ1325 hown1325 N1338 Z_1328 Ol_1327 H1325 Rr1325 Ex1325 Fv1325 Fc1325 Vb1325 Tx1325 (own_c255 _) (by decide)
    · rw [hk]
      refine Owe.istore X1325.here hx (hb hby at_21) rfl (l' := #[.val (.int p1), .val (.int p2), .val (.int p3), .val (.int p4), .val (.ref l1325), .val (.int (5 : Int32)), .unset, .unset, .unset, .unset, .unset, .unset]) rfl ?_
      refine Owe.aload X1325.here hx (hb hby at_23) rfl rfl ?_
      have hcd1339 : StrChars.Road.CodA ([108, 97, 114, 103, 101, 115, 116, 45, 103, 97, 112] : List Int32) 0 (11 : Int32) ((([108, 97, 114, 103, 101, 115, 116, 45, 103, 97, 112] : List Int32).map (fun c => c.toInt8.toInt32)).map Value.int) := StrChars.Road.codOf (n := 11) rfl (fun x hx => (Tx1325.1 x hx).2)
      have hbd1339 := up ([108, 97, 114, 103, 101, 115, 116, 45, 103, 97, 112] : List Int32) Tx1325.1
      refine Owe.virt X1325 hx hZ1325 (y := Y8) (z := Y8) (Q := fun v h' L => v = some (.int (Int32.ofNat ([108, 97, 114, 103, 101, 115, 116, 45, 103, 97, 112] : List Int32).length)) ∧ L = [] ∧ h' = h1325) (kc := 0) (ks := 0) hown1325 (mvT hZ1325 (wd hw 8)) (mvT hZ1325 (wd hw 9)) (mvT hZ1325 (wd hw 11)) (mvT hZ1325 (wd hw 10)) (notFace_of_selects (args := #[]) (mvT hZ1325 (wd hw 11))) (by decide) (StrChars.Road.lenW (W := 0) hZ1325 (own_hln hw) (kI := 4) (wd hw 2) Ex1325 Fv1325 Fc1325 Vb1325 hcd1339 hbd1339 (S_COMPACT_STRINGS.ext Ol_1327.2) cs0 Tx1325.2 (by decide) (by decide)) (by rw [hml]; rfl) (a := l1325) (argsL := []) (rest := []) Ex1325 (lenOf pd_6 rfl) rfl (nb rfl) (hb hby at_25) rfl e1325 (by decide) (by decide) fun T1340 v1340 L1340 X1340 hQ1340 => ?_
      obtain ⟨rfl, rfl, e1340⟩ := hQ1340
      have N1340 := Fr.app N0 (Fr.nil n0)
      refine Owe.istore X1340.here hx (hb hby at_28) rfl (l' := #[.val (.int p1), .val (.int p2), .val (.int p3), .val (.int p4), .val (.ref l1325), .val (.int (5 : Int32)), .val (.int (11 : Int32)), .unset, .unset, .unset, .unset, .unset]) rfl ?_
      refine Owe.iloadN X1340.here hx (hb hby at_30) rfl ?_
      refine Owe.sipush X1340.here hx (hb hby at_31) (w := (255 : Int32)) rfl ?_
      refine Owe.iand X1340.here hx (hb hby at_34) rfl ?_
      refine Owe.i2c X1340.here hx (hb hby at_35) rfl ?_
      refine Owe.istore X1340.here hx (hb hby at_36) rfl (l' := #[.val (.int p1), .val (.int p2), .val (.int p3), .val (.int p4), .val (.ref l1325), .val (.int (5 : Int32)), .val (.int (11 : Int32)), .val (.int ((p3 &&& (255 : Int32)).toUInt32.toUInt16.toUInt32.toInt32)), .unset, .unset, .unset, .unset]) rfl ?_
      refine Owe.iconst X1340.here hx (hb hby at_38) (w := (-1 : Int32)) rfl ?_
      refine Owe.istore X1340.here hx (hb hby at_39) rfl (l' := #[.val (.int p1), .val (.int p2), .val (.int p3), .val (.int p4), .val (.ref l1325), .val (.int (5 : Int32)), .val (.int (11 : Int32)), .val (.int ((p3 &&& (255 : Int32)).toUInt32.toUInt16.toUInt32.toInt32)), .val (.int (-1 : Int32)), .unset, .unset, .unset]) rfl ?_
      refine Owe.iload X1340.here hx (hb hby at_41) rfl ?_
      refine Owe.istore X1340.here hx (hb hby at_43) rfl (l' := #[.val (.int p1), .val (.int p2), .val (.int p3), .val (.int p4), .val (.ref l1325), .val (.int (5 : Int32)), .val (.int (11 : Int32)), .val (.int ((p3 &&& (255 : Int32)).toUInt32.toUInt16.toUInt32.toInt32)), .val (.int (-1 : Int32)), .val (.int (11 : Int32)), .unset, .unset]) rfl ?_
      refine Owe.iload X1340.here hx (hb hby at_45) rfl ?_
      refine Owe.iconst X1340.here hx (hb hby at_47) (w := (1 : Int32)) rfl ?_
      refine Owe.icmpYes X1340.here hx (hb hby at_48) rfl (feq (by decide)).2 (pc' := 60) (by decide) (by decide) ?_
      refine Owe.iload X1340.here hx (hb hby at_60) rfl ?_
      refine Owe.iconst X1340.here hx (hb hby at_62) (w := (2 : Int32)) rfl ?_
      refine Owe.icmpYes X1340.here hx (hb hby at_63) rfl (feq (by decide)).2 (pc' := 75) (by decide) (by decide) ?_
      refine Owe.iload X1340.here hx (hb hby at_75) rfl ?_
      refine Owe.iconst X1340.here hx (hb hby at_77) (w := (3 : Int32)) rfl ?_
      refine Owe.icmpYes X1340.here hx (hb hby at_78) rfl (feq (by decide)).2 (pc' := 87) (by decide) (by decide) ?_
      refine Owe.iload X1340.here hx (hb hby at_87) rfl ?_
      refine Owe.iconst X1340.here hx (hb hby at_89) (w := (4 : Int32)) rfl ?_
      refine Owe.icmpYes X1340.here hx (hb hby at_90) rfl (feq (by decide)).2 (pc' := 98) (by decide) (by decide) ?_
      refine Owe.aconstNull X1340.here hx (hb hby at_98)  ?_
      refine Owe.astore X1340.here hx (hb hby at_99) rfl rfl (l' := #[.val (.int p1), .val (.int p2), .val (.int p3), .val (.int p4), .val (.ref l1325), .val (.int (5 : Int32)), .val (.int (11 : Int32)), .val (.int ((p3 &&& (255 : Int32)).toUInt32.toUInt16.toUInt32.toInt32)), .val (.int (-1 : Int32)), .val (.int (11 : Int32)), .val .null, .unset]) rfl ?_
      refine Owe.iload X1340.here hx (hb hby at_101) rfl ?_
      refine Owe.iconst X1340.here hx (hb hby at_103) (w := (5 : Int32)) rfl ?_
      refine Owe.icmpYes X1340.here hx (hb hby at_104) rfl (teq (by decide)).1 (pc' := 417) (by decide) (by decide) ?_
      refine Owe.aload X1340.here hx (hb hby at_417) rfl rfl ?_
      refine Owe.ifnonnullNo X1340.here hx (hb hby at_419) rfl ?_
      refine Owe.aconstNull X1340.here hx (hb hby at_422)  ?_
      refine Owe.astore X1340.here hx (hb hby at_423) rfl rfl (l' := #[.val (.int p1), .val (.int p2), .val (.int p3), .val (.int p4), .val (.ref l1325), .val (.int (5 : Int32)), .val (.int (11 : Int32)), .val (.int ((p3 &&& (255 : Int32)).toUInt32.toUInt16.toUInt32.toInt32)), .val (.int (-1 : Int32)), .val (.int (11 : Int32)), .val .null, .val .null]) rfl ?_
      refine Owe.goto X1340.here hx (hb hby at_425) (pc' := 467) (by decide) (by decide) ?_
      refine Owe.aload X1340.here hx (hb hby at_467) rfl rfl ?_
      refine Owe.stat X1340 hx (y := Y6) hown1325 (mvT hZ1325 (wd hw 81)) (mvT hZ1325 (wd hw 82)) (mvT hZ1325 (wd hw 79)) (mvT hZ1325 (wd hw 83)) (by decide) (backOf (W := 0) (rmgvN l Z a0 hw [] G1 rd va wt rdw rdwv wtw wtwv k_va k_rdwv k_wtwv h1325 n0 Z_1328 S_COMPACT_STRINGS cs0 Ol_1327 S_S_SHAPE E_rd S__VALUES E_va S_LARGEST_GAP E_wt F_name_rd E_rdw Fcoder_rdw Fvalue_rdw F_name_wt E_wtw Fcoder_wtw Fvalue_wtw V_va V_rdwv V_wtwv Tx_rdw Tx_wtw) hZ1325 (wd hw 83) (wd hw 79) (by decide) (by decide)) (by rw [hml]; rfl) (argsL := [.null]) (rest := []) (lenOf pd_8 rfl) rfl (nb rfl) (hb hby at_469) rfl e1340 (by decide) (by decide) fun T1341 v1341 L1341 X1341 hQ1341 => ?_
      obtain ⟨rfl, Nq1341, K1341⟩ := hQ1341
      have N1341 := Fr.app N1340 Nq1341
      have hk1342 := Nat.le_trans hk1325 K1341.1
      have Rr1342 := Rr1325.trans (CHr.keep K1341 sf0 H1325)
      have H1342 := CHv.keep K1341 sf0 H1325
      have Ol_1343 := Ol_1327.keep K1341 all0
      have Ex1325_1344 := Ex1325.keep K1341
      have Fc1325_1345 := Fc1325.keep K1341 nin0
      have Fv1325_1346 := Fv1325.keep K1341 nin0
      have Vb1325_1347 := Vb1325.keep K1341 nin0
      have Z_1348 := Nat.le_trans Z_1328 K1341.1
      refine Owe.aload X1341.here hx (hb hby at_472) rfl rfl ?_
      refine Owe.acmpNo X1341.here hx (hb hby at_474) rfl rfl rfl (by simp [Jvm.Free.XT.acmp]) ?_
      refine Owe.iconst X1341.here hx (hb hby at_477) (w := (1 : Int32)) rfl ?_
      refine Owe.goto X1341.here hx (hb hby at_478) (pc' := 482) (by decide) (by decide) ?_
      refine Owe.retNW X1341 hx hS1325 rfl hk1342 hlk (t := .boolean) hrt (by simp) (hb hby at_482) rfl fun fs hE => ?_
      rw [hG]
      refine ⟨_, _, rfl, ?_, ?_, coldMono hE (by decide) (by decide)⟩
      rotate_left
      · rw [hh]
        show CHr Z own_EL s.vm h0 T1341.vm T1341.heap
        exact Rr1342.trans (CHv.at X1341 hZ1325 (own_ew hw) H1342)
      show Q0 Z p1 p2 p3 p4 fm G1 rd va wt rdw rdwv wtw wtwv k_va k_rdwv k_wtwv h0 n0 _ T1341.heap _
      exact ⟨rfl, N1341⟩
set_option maxRecDepth 65536 in
set_option maxHeartbeats 40000000 in
theorem comes_1 {Post : Tables → Env → Array Value → State → Outcome → State → Prop} (hpost : ∀ tb e args s v u, (limb_1_1.after args s (.returned v) u = true ∧ limb_1_2.after args s (.returned v) u = true ∧ True) → ReturnedEndW s (.returned v) u (Jvm.fieldLocs frame_1_writes args s ++ Jvm.arrayLocs frame_1_arrays args s ++ Jvm.staticLocs frame_1_statics s) 24 3264 → Post tb e args s (.returned v) u) :
    ArmFor flags0 classFile x code maxLocals ret World_1 tables_1 room_1 Calls_1 rest_1 Pre_1 Post := by
  intro l hfl _ _ p e ha hc hk s m args below hf hA hF happ hP
  obtain ⟨hcalls, hrest, hpre⟩ := hP
  obtain ⟨-, -, -, hnamed, -, -, -, hat⟩ := (Spec.applies_iff hf).mp happ
  obtain ⟨hg, hn⟩ := and_e (Cond.before_iff.mp (show (Jvm.Cond.and given_1 narrow_1).before args s = true from hpre))
  obtain ⟨g0, q0⟩ := and_e hg
  obtain ⟨g1, q1⟩ := and_e q0
  obtain ⟨g2, q2⟩ := and_e q1
  obtain ⟨g3, q3⟩ := and_e q2
  obtain ⟨w0, w1, w2, w3, rfl⟩ : ∃ w0 w1 w2 w3 : Value, args = #[w0, w1, w2, w3] := by
    have hs : args.size = 4 := by simpa [Cond.value, given_1] using g0
    obtain ⟨L⟩ := args
    match L, hs with
    | [w0, w1, w2, w3], _ => exact ⟨w0, w1, w2, w3, rfl⟩
  have hw := fun d (hd : d ∈ tables_1) => atoms_spec (ws := Jvm.Cond.code x code maxLocals ret :: tables_1) hat d (List.mem_cons_of_mem _ hd)
  have hfit : Fit s := fun {y c} hc i hi => by
    obtain ⟨ha, rfl⟩ := Array.getElem?_eq_some_iff.mp hc
    have q := List.all_eq_true.mp ((Array.all_eq_true_iff_forall_mem.mp hF) _ (Array.getElem_mem ha)) i (List.mem_range.mpr hi)
    simpa [Array.getElem?_eq_getElem hi] using q
  obtain ⟨hsets, hown0⟩ := atoms_of _ (rest_1_c_eq ▸ (show rest_1_c.before _ s = true from hrest))
  have hr0 := Cond.before_iff.mp hown0
  obtain ⟨i0, ei0⟩ := is_v g1
  obtain rfl : w0 = (.int i0) := Option.some.inj ei0
  obtain ⟨i1, ei1⟩ := is_v g2
  obtain rfl : w1 = (.int i1) := Option.some.inj ei1
  obtain ⟨i2, ei2⟩ := is_v g3
  obtain rfl : w2 = (.int i2) := Option.some.inj ei2
  obtain ⟨i3, ei3⟩ := is_v q3
  obtain rfl : w3 = (.int i3) := Option.some.inj ei3
  have n5 := not_v (Cond.before_iff.mp (hsets _ (List.mem_of_getElem? (i := 2) rfl)))
  obtain ⟨ics, ecs⟩ := is_v (Cond.before_iff.mp (hsets _ (List.mem_of_getElem? (i := 1) rfl)))
  have Scs : Sta s s.heap "java/lang/String" "COMPACT_STRINGS" "Z" (.int ics) := Sta.start ecs (Or.inl (hsets _ (List.mem_of_getElem? (i := 0) rfl)))
  have hcs0 : ¬ (ics = (0 : Int32)) := gotF (Cond.eq_ints ecs (Term.int_eval (0))) n5
  obtain ⟨vfm, efm, rfm⟩ := isR_v (Cond.before_iff.mp (hsets _ (List.mem_of_getElem? (i := 8) rfl)))
  have Sfm : Sta s s.heap "jdk/internal/util/Preconditions" "SIOOBE_FORMATTER" "Ljava/util/function/BiFunction;" vfm := Sta.start efm (Or.inl (hsets _ (List.mem_of_getElem? (i := 7) rfl)))
  obtain ⟨nr0, nx0⟩ := and_e hn
  obtain ⟨nr1, nx1⟩ := and_e nx0
  obtain ⟨nr2, nx2⟩ := and_e nx1
  obtain ⟨nr3, nx3⟩ := and_e nx2
  obtain ⟨nr4, nx4⟩ := and_e nx3
  obtain ⟨nr5, nx5⟩ := and_e nx4
  obtain ⟨nr6, nx6⟩ := and_e nx5
  obtain ⟨nr7, nx7⟩ := and_e nx6
  obtain ⟨nr8, nx8⟩ := and_e nx7
  obtain ⟨nr9, nx9⟩ := and_e nx8
  obtain ⟨nr10, nx10⟩ := and_e nx9
  obtain ⟨nr11, nx11⟩ := and_e nx10
  obtain ⟨nr12, nx12⟩ := and_e nx11
  obtain ⟨nr13, nx13⟩ := and_e nx12
  obtain ⟨nr14, nx14⟩ := and_e nx13
  obtain ⟨nr15, nx15⟩ := and_e nx14
  obtain ⟨nr16, nx16⟩ := and_e nx15
  obtain ⟨nr17, nx17⟩ := and_e nx16
  obtain ⟨nr18, nx18⟩ := and_e nx17
  obtain ⟨nr19, nx19⟩ := and_e nx18
  obtain ⟨nr20, nx20⟩ := and_e nx19
  obtain ⟨nr21, nx21⟩ := and_e nx20
  obtain ⟨nr22, nx22⟩ := and_e nx21
  obtain ⟨nr23, nx23⟩ := and_e nx22
  obtain ⟨nr24, nx24⟩ := and_e nx23
  obtain ⟨nr25, nx25⟩ := and_e nx24
  obtain ⟨nr26, nx26⟩ := and_e nx25
  obtain ⟨nr27, nx27⟩ := and_e nx26
  obtain ⟨nr28, nx28⟩ := and_e nx27
  obtain ⟨nr29, nx29⟩ := and_e nx28
  obtain ⟨nr30, nx30⟩ := and_e nx29
  obtain ⟨nr31, nx31⟩ := and_e nx30
  have nr32 := nx31
  obtain ⟨rd, ev_rd⟩ := exa_v nr0
  have S_rd : Sta s s.heap "com/example/pickwright/pickwright/Routing" "S_SHAPE" "Lcom/example/pickwright/pickwright/Routing;" (.ref rd) := Sta.start ev_rd (Or.inr ⟨(wd hw 79), (wd hw 80)⟩)
  have E_rd := Exa.start ev_rd nr0
  obtain ⟨va, ev_va⟩ := arr_v nr1
  have S_va : Sta s s.heap "com/example/pickwright/pickwright/Routing" "$VALUES" "[Lcom/example/pickwright/pickwright/Routing;" (.ref va) := Sta.start ev_va (Or.inr ⟨(wd hw 79), (wd hw 88)⟩)
  obtain ⟨cl_va, A_va⟩ := Arr.start ev_va nr1
  have at_va := A_va.fin (Vm.Alike.refl _)
  have E_va := Exa.start ev_va nr2
  obtain ⟨wt, ev_wt⟩ := exa_v nr5
  have S_wt : Sta s s.heap "com/example/pickwright/pickwright/Routing" "LARGEST_GAP" "Lcom/example/pickwright/pickwright/Routing;" (.ref wt) := Sta.start ev_wt (Or.inr ⟨(wd hw 79), (wd hw 96)⟩)
  have E_wt := Exa.start ev_wt nr5
  obtain ⟨rdw, ev_rdw⟩ := exa_v nr7
  have F_name_rd := Fld.start ((fld_at ev_rd).symm.trans ev_rdw)
  have E_rdw := Exa.start ev_rdw nr7
  have Fcoder_rdw := own_fld_int ev_rdw nr8
  obtain ⟨rdwv, ev_rdwv⟩ := arr_v nr9
  have Fvalue_rdw := Fld.start ((fld_at ev_rdw).symm.trans ev_rdwv)
  obtain ⟨cl_rdwv, A_rdwv⟩ := Arr.start ev_rdwv nr9
  have at_rdwv := A_rdwv.fin (Vm.Alike.refl _)
  obtain ⟨wtw, ev_wtw⟩ := exa_v nr11
  have F_name_wt := Fld.start ((fld_at ev_wt).symm.trans ev_wtw)
  have E_wtw := Exa.start ev_wtw nr11
  have Fcoder_wtw := own_fld_int ev_wtw nr12
  obtain ⟨wtwv, ev_wtwv⟩ := arr_v nr13
  have Fvalue_wtw := Fld.start ((fld_at ev_wtw).symm.trans ev_wtwv)
  obtain ⟨cl_wtwv, A_wtwv⟩ := Arr.start ev_wtwv nr13
  have at_wtwv := A_wtwv.fin (Vm.Alike.refl _)
  have sz_va := own_len ev_va at_va (own_eq_int nr3) (by decide)
  have V0_va : Arv s s.heap va cl_va.cls (.object "com/example/pickwright/pickwright/Routing") (2 : Int32) [(.ref rd), (.ref wt)] .null := Arv.start hfit A_va (by rw [sz_va]; decide) (by rw [sz_va]; rfl) (by decide) rfl ⟨own_el ev_va at_va (own_eq_ref ev_rd nr4) (by decide), own_el ev_va at_va (own_eq_ref ev_wt nr6) (by decide), trivial⟩
  have sz_rdwv := own_len ev_rdwv at_rdwv (own_eq_int nr10) (by decide)
  have V0_rdwv : Arv s s.heap rdwv cl_rdwv.cls .byte (7 : Int32) [(.int (115 : Int32)), (.int (45 : Int32)), (.int (115 : Int32)), (.int (104 : Int32)), (.int (97 : Int32)), (.int (112 : Int32)), (.int (101 : Int32))] (.int (0 : Int32)) := Arv.start hfit A_rdwv (by rw [sz_rdwv]; decide) (by rw [sz_rdwv]; rfl) (by decide) rfl ⟨own_el ev_rdwv at_rdwv (own_eq_int nr15) (by decide), own_el ev_rdwv at_rdwv (own_eq_int nr16) (by decide), own_el ev_rdwv at_rdwv (own_eq_int nr17) (by decide), own_el ev_rdwv at_rdwv (own_eq_int nr18) (by decide), own_el ev_rdwv at_rdwv (own_eq_int nr19) (by decide), own_el ev_rdwv at_rdwv (own_eq_int nr20) (by decide), own_el ev_rdwv at_rdwv (own_eq_int nr21) (by decide), trivial⟩
  have V_rdwv : Arv s s.heap rdwv cl_rdwv.cls .byte (7 : Int32) ((([115, 45, 115, 104, 97, 112, 101] : List Int32).map (fun c => c.toInt8.toInt32)).map Value.int) (.int (0 : Int32)) := by rw [own_vs_rdwv]; exact V0_rdwv
  have sz_wtwv := own_len ev_wtwv at_wtwv (own_eq_int nr14) (by decide)
  have V0_wtwv : Arv s s.heap wtwv cl_wtwv.cls .byte (11 : Int32) [(.int (108 : Int32)), (.int (97 : Int32)), (.int (114 : Int32)), (.int (103 : Int32)), (.int (101 : Int32)), (.int (115 : Int32)), (.int (116 : Int32)), (.int (45 : Int32)), (.int (103 : Int32)), (.int (97 : Int32)), (.int (112 : Int32))] (.int (0 : Int32)) := Arv.start hfit A_wtwv (by rw [sz_wtwv]; decide) (by rw [sz_wtwv]; rfl) (by decide) rfl ⟨own_el ev_wtwv at_wtwv (own_eq_int nr22) (by decide), own_el ev_wtwv at_wtwv (own_eq_int nr23) (by decide), own_el ev_wtwv at_wtwv (own_eq_int nr24) (by decide), own_el ev_wtwv at_wtwv (own_eq_int nr25) (by decide), own_el ev_wtwv at_wtwv (own_eq_int nr26) (by decide), own_el ev_wtwv at_wtwv (own_eq_int nr27) (by decide), own_el ev_wtwv at_wtwv (own_eq_int nr28) (by decide), own_el ev_wtwv at_wtwv (own_eq_int nr29) (by decide), own_el ev_wtwv at_wtwv (own_eq_int nr30) (by decide), own_el ev_wtwv at_wtwv (own_eq_int nr31) (by decide), own_el ev_wtwv at_wtwv (own_eq_int nr32) (by decide), trivial⟩
  have V_wtwv : Arv s s.heap wtwv cl_wtwv.cls .byte (11 : Int32) ((([108, 97, 114, 103, 101, 115, 116, 45, 103, 97, 112] : List Int32).map (fun c => c.toInt8.toInt32)).map Value.int) (.int (0 : Int32)) := by rw [own_vs_wtwv]; exact V0_wtwv
  have H0 : CHv s own_EL s.vm s.heap := CHv.start (own_ew hw) (fun p hp => hcalls.1 p hp) (hsets _ (List.mem_of_getElem? (i := 2) rfl)) (wd hw 3) (wd hw 2)
  obtain ⟨n, o, h1, h2, h3, _, L, rfl, ⟨rfl, N⟩, _, hq⟩ := rm0 l s _ hw tables_1 i0 i1 i2 i3 vfm ics rd va wt rdw rdwv wtw wtwv cl_va.cls cl_rdwv.cls cl_wtwv.cls s.heap s.heap.size (Nat.le_refl _) Scs hcs0 (Old.start s) Sfm rfm S_rd E_rd S_va E_va S_wt E_wt F_name_rd E_rdw Fcoder_rdw Fvalue_rdw F_name_wt E_wtw Fcoder_wtw Fvalue_wtw V0_va V_rdwv V_wtwv ⟨by decide, Nat.le_of_ble_eq_true rfl⟩ ⟨by decide, Nat.le_of_ble_eq_true rfl⟩ p e ha hc hk s m _ below hf ((Spec.applies_iff_loose hf).mp happ).1 ⟨rfl, State.Warmed39.refl s, rfl, H0⟩ trivial
  refine ⟨n, _, h1, h2, h3, hpost _ _ _ _ _ _ ⟨Cond.after_iff.mpr rfl, Cond.after_iff.mpr (eq_i res_at (Term.int_eval (1)) rfl), trivial⟩ ⟨hq.1, hq.2.1, hq.2.2.1, (hq.2.2.2.sift fun y hy => Or.inr (N y hy)).mono (by decide) (by decide)⟩⟩
theorem main_1_1 : Claimed_1_1 := comes_1 fun _ _ _ _ _ _ h hF => ⟨h.1, hF⟩
theorem main_1_2 : Claimed_1_2 := comes_1 fun _ _ _ _ _ _ h hF => ⟨h.2.1, hF⟩
end Jvm.Pilot.@@N@@
namespace Jvm.Pilot.@@N@@
open Jvm Jvm.ClassFile Sem Op Lib Jvm.Free Jvm.Stand Jvm.Pilot.@@N@@.Jvm.D
/-! MADE BY PROGRAM (witnessworld.py) out of the Statement's table words and the real class files: 25 classes; the members and pool entries that the words name. The judged class is class 1, her method 2. -/
namespace start1
open Jvm.ClassFile
def u (s : String) : CpInfo := .utf8 (stringToUtf16 s)
/-- a pool by its gaps: so many unusable entries, then the entry; so many at the end -/
def gap : Nat → List CpInfo → List CpInfo
  | 0, r => r
  | n + 1, r => .unusable :: gap n r
def poolList (es : List (Nat × CpInfo)) (last : Nat) : List CpInfo := es.foldr (fun e r => gap e.1 (e.2 :: r)) (gap last [])
def pool (es : List (Nat × CpInfo)) (last : Nat) : Array CpInfo := ⟨poolList es last⟩
def fileOf (pool : Array CpInfo) (this : Nat) (attrs : Array Attribute := #[]) (ms : Array MethodInfo := #[]) (fl : Nat := 33) (sup : Nat := 0) (ifs : Array Nat := #[]) (fds : Array FieldInfo := #[]) : ClassFile where
  minorVersion := 0
  majorVersion := 65
  constantPool := pool
  accessFlags := fl
  thisClass := this
  superClass := sup
  interfaces := ifs
  fields := fds
  methods := ms
  attributes := attrs
def plain (name : String) (sup : Option ClassId) : Class where
  name := name
  kind := .ordinary
  loader := none
  accessFlags := 33
  super := sup
  interfaces := #[]
  cf := none
  fields := #[]
  methods := #[]
  instanceTypes := #[]
  staticTypes := #[]
  resolved := #[]
  callSites := []
  init := .initialized
  statics := none
  mirror := none

def pool0 : Array CpInfo := pool [(5, u "<init>"), (0, u "()V"), (1, .class_ 10), (1, u "java/lang/Object"), (85, u "clone"), (0, u "()Ljava/lang/Object;")] 26

def k0c0 : Code := { maxStack := 0, maxLocals := 1, code := object_method_1_code, exceptionTable := #[], attributes := #[] }
def k0m0 : Method := { name := "<init>", desc := "()V", sig := { parameters := [], returnType := none }, accessFlags := 1, code := some k0c0 }
def k0m1 : Method := { name := "clone", desc := "()Ljava/lang/Object;", sig := { parameters := [], returnType := some (.object "java/lang/Object") }, accessFlags := 260, code := none }
/-- java/lang/Object -/
def k0 : Class := { plain "java/lang/Object" none with
  accessFlags := 33
  interfaces := #[]
  cf := some (fileOf pool0 8 #[] #[{ accessFlags := 1, nameIndex := 5, descriptorIndex := 6, attributes := #[] }, { accessFlags := 260, nameIndex := 96, descriptorIndex := 97, attributes := #[] }] 33 0 #[] #[])
  fields := #[]
  methods := #[k0m0, k0m1]
  instanceTypes := #[]
  staticTypes := #[]
  resolved := Array.replicate 124 none
  statics := none }

def pool1 : Array CpInfo := pool [(2, .class_ 4), (1, u "java/lang/Object"), (0, u "<init>"), (0, u "()V"), (0, .methodref 8 9), (0, .class_ 10), (0, .nameAndType 11 12), (0, u "java/lang/String"), (0, u "length"), (0, u "()I"), (0, .methodref 8 14), (0, .nameAndType 15 16), (0, u "charAt"), (0, u "(I)C"), (0, .string 18), (0, u "s-shape"), (0, .string 20), (0, u "largest-gap"), (0, .integer 2147483647), (0, .methodref 23 24), (0, .class_ 25), (0, .nameAndType 26 27), (0, u "com/example/pickwright/pickwright/RoutingNamedPinLaw"), (0, u "at"), (0, u "(Ljava/lang/String;IICII)C"), (0, .methodref 8 29), (0, .nameAndType 5 30), (0, u "([C)V"), (0, .methodref 8 32), (0, .nameAndType 33 34), (0, u "equals"), (0, u "(Ljava/lang/Object;)Z"), (0, .fieldref 36 37), (0, .class_ 38), (0, .nameAndType 39 40), (0, u "com/example/pickwright/pickwright/Routing"), (0, u "S_SHAPE"), (0, u "Lcom/example/pickwright/pickwright/Routing;"), (0, .fieldref 36 42), (0, .nameAndType 43 40), (0, u "LARGEST_GAP"), (0, .methodref 36 45), (0, .nameAndType 46 47), (0, u "named"), (0, u "(Ljava/lang/String;)Lcom/example/pickwright/pickwright/Routing;"), (3, u "law"), (0, u "(IIII)Z")] 4

def k1m0 : Method := { name := "<init>", desc := "()V", sig := { parameters := [], returnType := none }, accessFlags := 2, code := none }
def k1c1 : Code := { maxStack := 4, maxLocals := 6, code := method_2_code, exceptionTable := #[], attributes := #[] }
def k1m1 : Method := { name := "at", desc := "(Ljava/lang/String;IICII)C", sig := { parameters := [(.object "java/lang/String"), .int, .int, .char, .int, .int], returnType := some .char }, accessFlags := 10, code := some k1c1 }
def k1c2 : Code := { maxStack := 8, maxLocals := 12, code := code, exceptionTable := #[], attributes := #[] }
def k1m2 : Method := { name := "law", desc := "(IIII)Z", sig := { parameters := [.int, .int, .int, .int], returnType := some .boolean }, accessFlags := 9, code := some k1c2 }
/-- com/example/pickwright/pickwright/RoutingNamedPinLaw -/
def k1 : Class := { plain "com/example/pickwright/pickwright/RoutingNamedPinLaw" (some 0) with
  accessFlags := 49
  interfaces := #[]
  cf := some (fileOf pool1 23 #[] #[{ accessFlags := 2, nameIndex := 5, descriptorIndex := 6, attributes := #[] }, { accessFlags := 10, nameIndex := 26, descriptorIndex := 27, attributes := #[] }, { accessFlags := 9, nameIndex := 51, descriptorIndex := 52, attributes := #[] }] 49 2 #[] #[])
  fields := #[]
  methods := #[k1m0, k1m1, k1m2]
  instanceTypes := #[]
  staticTypes := #[]
  resolved := Array.replicate 57 none
  statics := none }

def pool2 : Array CpInfo := pool [(1, .class_ 2), (0, u "java/io/Serializable"), (0, .class_ 4), (0, u "java/lang/Object")] 2

/-- java/io/Serializable -/
def k2 : Class := { plain "java/io/Serializable" (some 0) with
  accessFlags := 1537
  interfaces := #[]
  cf := some (fileOf pool2 1 #[] #[] 1537 3 #[] #[])
  fields := #[]
  methods := #[]
  instanceTypes := #[]
  staticTypes := #[]
  resolved := Array.replicate 7 none
  statics := none }

def pool3 : Array CpInfo := pool [(1, .class_ 2), (0, u "java/lang/Comparable"), (0, .class_ 4), (0, u "java/lang/Object")] 7

/-- java/lang/Comparable -/
def k3 : Class := { plain "java/lang/Comparable" (some 0) with
  accessFlags := 1537
  interfaces := #[]
  cf := some (fileOf pool3 1 #[] #[] 1537 3 #[] #[])
  fields := #[]
  methods := #[]
  instanceTypes := #[]
  staticTypes := #[]
  resolved := Array.replicate 12 none
  statics := none }

def pool4 : Array CpInfo := pool [(2, .class_ 4), (1, u "java/lang/CharSequence"), (42, .class_ 48), (0, u "java/lang/CharSequence$1CodePointIterator"), (10, .class_ 60), (0, u "java/lang/CharSequence$1CharIterator"), (5, .class_ 67), (0, u "java/lang/Object")] 63

/-- java/lang/CharSequence -/
def k4 : Class := { plain "java/lang/CharSequence" (some 0) with
  accessFlags := 1537
  interfaces := #[]
  cf := some (fileOf pool4 2 #[.nestMembers #[47, 59]] #[] 1537 66 #[] #[])
  fields := #[]
  methods := #[]
  instanceTypes := #[]
  staticTypes := #[]
  resolved := Array.replicate 131 none
  statics := none }

def pool5 : Array CpInfo := pool [(1, .class_ 2), (0, u "java/lang/constant/Constable"), (0, .class_ 4), (0, u "java/lang/Object")] 6

/-- java/lang/constant/Constable -/
def k5 : Class := { plain "java/lang/constant/Constable" (some 0) with
  accessFlags := 1537
  interfaces := #[]
  cf := some (fileOf pool5 1 #[] #[] 1537 3 #[] #[])
  fields := #[]
  methods := #[]
  instanceTypes := #[]
  staticTypes := #[]
  resolved := Array.replicate 11 none
  statics := none }

def pool6 : Array CpInfo := pool [(1, .class_ 2), (0, u "java/lang/constant/ConstantDesc"), (0, .class_ 4), (0, u "java/lang/Object")] 32

/-- java/lang/constant/ConstantDesc -/
def k6 : Class := { plain "java/lang/constant/ConstantDesc" (some 0) with
  accessFlags := 1537
  interfaces := #[]
  cf := some (fileOf pool6 1 #[] #[] 1537 3 #[] #[])
  fields := #[]
  methods := #[]
  instanceTypes := #[]
  staticTypes := #[]
  resolved := Array.replicate 37 none
  statics := none }

def pool7 : Array CpInfo := pool [(1, .methodref 2 3), (0, .class_ 4), (0, .nameAndType 5 6), (0, u "java/lang/Object"), (0, u "<init>"), (0, u "()V"), (0, .string 8), (0, u ""), (0, .fieldref 10 11), (0, .class_ 12), (0, .nameAndType 13 14), (0, u "java/lang/String"), (0, u "value"), (0, u "[B"), (0, .fieldref 10 16), (0, .nameAndType 17 18), (0, u "coder"), (0, u "B"), (2, u "hash"), (0, u "I"), (2, u "hashIsZero"), (0, u "Z"), (0, .methodref 10 28), (0, .nameAndType 5 29), (0, u "([CIILjava/lang/Void;)V"), (8, .fieldref 10 39), (0, .nameAndType 40 26), (0, u "COMPACT_STRINGS"), (1, .class_ 44), (1, u "java/lang/StringUTF16"), (0, u "compress"), (1, .methodref 42 48), (0, .nameAndType 49 50), (0, u "coderFromArrayLen"), (0, u "([BI)B"), (56, .class_ 109), (1, u "java/lang/StringLatin1"), (32, u "()Z"), (34, .methodref 42 178), (0, .nameAndType 45 179), (0, u "([CII)[B"), (154, u "()I"), (0, .methodref 10 336), (0, .nameAndType 17 337), (0, u "()B"), (25, u "([BI)C"), (27, u "(II)V"), (35, u "(I)C"), (64, .methodref 10 493), (0, .nameAndType 494 142), (0, u "isLatin1"), (0, .methodref 107 496), (0, .nameAndType 497 363), (0, u "charAt"), (3, u "checkIndex"), (5, u "length"), (33, .methodref 107 542), (0, .nameAndType 543 544), (0, u "equals"), (0, u "([B[B)Z"), (28, u "(Ljava/lang/Object;)Z"), (1, .class_ 576), (0, u "java/lang/CharSequence"), (22, u "CASE_INSENSITIVE_ORDER"), (0, u "Ljava/util/Comparator;"), (409, u "([C)V"), (42, .fieldref 1054 1055), (0, .class_ 1056), (0, .nameAndType 1057 1058), (0, u "jdk/internal/util/Preconditions"), (0, u "SIOOBE_FORMATTER"), (0, u "Ljava/util/function/BiFunction;"), (0, .methodref 1054 1060), (0, .nameAndType 501 1061), (0, u "(IILjava/util/function/BiFunction;)I"), (39, u "serialPersistentFields"), (0, u "[Ljava/io/ObjectStreamField;"), (0, .class_ 1104), (0, u "java/lang/String$CaseInsensitiveComparator"), (1, .class_ 1107), (0, u "java/io/Serializable"), (0, .class_ 1109), (0, u "java/lang/Comparable"), (0, .class_ 1111), (0, u "java/lang/constant/Constable"), (0, .class_ 1113), (0, u "java/lang/constant/ConstantDesc"), (2, u "serialVersionUID"), (0, u "J"), (3, u "REPL"), (0, u "C"), (2, u "LATIN1"), (1, u "UTF16")] 323

def k7m0 : Method := { name := "<init>", desc := "()V", sig := { parameters := [], returnType := none }, accessFlags := 1, code := none }
def k7c1 : Code := { maxStack := 5, maxLocals := 2, code := jdk_42_method_3_code, exceptionTable := #[], attributes := #[] }
def k7m1 : Method := { name := "<init>", desc := "([C)V", sig := { parameters := [(.array .char)], returnType := none }, accessFlags := 1, code := some k7c1 }
def k7c2 : Code := { maxStack := 2, maxLocals := 1, code := jdk_42_method_54_code, exceptionTable := #[], attributes := #[] }
def k7m2 : Method := { name := "length", desc := "()I", sig := { parameters := [], returnType := some .int }, accessFlags := 1, code := some k7c2 }
def k7c3 : Code := { maxStack := 2, maxLocals := 2, code := jdk_42_method_56_code, exceptionTable := #[], attributes := #[] }
def k7m3 : Method := { name := "charAt", desc := "(I)C", sig := { parameters := [.int], returnType := some .char }, accessFlags := 1, code := some k7c3 }
def k7c4 : Code := { maxStack := 2, maxLocals := 3, code := jdk_42_method_66_code, exceptionTable := #[], attributes := #[] }
def k7m4 : Method := { name := "equals", desc := "(Ljava/lang/Object;)Z", sig := { parameters := [(.object "java/lang/Object")], returnType := some .boolean }, accessFlags := 1, code := some k7c4 }
def k7c5 : Code := { maxStack := 4, maxLocals := 6, code := jdk_42_method_149_code, exceptionTable := #[], attributes := #[] }
def k7m5 : Method := { name := "<init>", desc := "([CIILjava/lang/Void;)V", sig := { parameters := [(.array .char), .int, .int, (.object "java/lang/Void")], returnType := none }, accessFlags := 2, code := some k7c5 }
def k7c6 : Code := { maxStack := 1, maxLocals := 1, code := jdk_42_method_152_code, exceptionTable := #[], attributes := #[] }
def k7m6 : Method := { name := "coder", desc := "()B", sig := { parameters := [], returnType := some .byte }, accessFlags := 0, code := some k7c6 }
def k7c7 : Code := { maxStack := 1, maxLocals := 1, code := jdk_42_method_154_code, exceptionTable := #[], attributes := #[] }
def k7m7 : Method := { name := "isLatin1", desc := "()Z", sig := { parameters := [], returnType := some .boolean }, accessFlags := 0, code := some k7c7 }
def k7c8 : Code := { maxStack := 3, maxLocals := 2, code := jdk_42_method_155_code, exceptionTable := #[], attributes := #[] }
def k7m8 : Method := { name := "checkIndex", desc := "(II)V", sig := { parameters := [.int, .int], returnType := none }, accessFlags := 8, code := some k7c8 }
/-- java/lang/String -/
def k7 : Class := { plain "java/lang/String" (some 0) with
  accessFlags := 49
  interfaces := #[2, 3, 4, 5, 6]
  cf := some (fileOf pool7 10 #[.nestMembers #[1103]] #[{ accessFlags := 1, nameIndex := 5, descriptorIndex := 6, attributes := #[] }, { accessFlags := 1, nameIndex := 5, descriptorIndex := 1010, attributes := #[] }, { accessFlags := 1, nameIndex := 507, descriptorIndex := 334, attributes := #[] }, { accessFlags := 1, nameIndex := 497, descriptorIndex := 427, attributes := #[] }, { accessFlags := 1, nameIndex := 543, descriptorIndex := 573, attributes := #[] }, { accessFlags := 2, nameIndex := 5, descriptorIndex := 29, attributes := #[] }, { accessFlags := 0, nameIndex := 17, descriptorIndex := 337, attributes := #[] }, { accessFlags := 0, nameIndex := 494, descriptorIndex := 142, attributes := #[] }, { accessFlags := 8, nameIndex := 501, descriptorIndex := 391, attributes := #[] }] 49 2 #[1106, 1108, 575, 1110, 1112] #[{ accessFlags := 18, nameIndex := 13, descriptorIndex := 14, attributes := #[] }, { accessFlags := 18, nameIndex := 17, descriptorIndex := 18, attributes := #[] }, { accessFlags := 2, nameIndex := 21, descriptorIndex := 22, attributes := #[] }, { accessFlags := 2, nameIndex := 25, descriptorIndex := 26, attributes := #[] }, { accessFlags := 26, nameIndex := 1116, descriptorIndex := 1117, attributes := #[] }, { accessFlags := 24, nameIndex := 40, descriptorIndex := 26, attributes := #[] }, { accessFlags := 26, nameIndex := 1101, descriptorIndex := 1102, attributes := #[] }, { accessFlags := 26, nameIndex := 1121, descriptorIndex := 1122, attributes := #[] }, { accessFlags := 25, nameIndex := 599, descriptorIndex := 600, attributes := #[] }, { accessFlags := 24, nameIndex := 1125, descriptorIndex := 18, attributes := #[] }, { accessFlags := 24, nameIndex := 1127, descriptorIndex := 18, attributes := #[] }])
  fields := #[{ name := "value", type := (.array .byte), accessFlags := 18, slot := 0, constantValue := 0 }, { name := "coder", type := .byte, accessFlags := 18, slot := 1, constantValue := 0 }, { name := "hash", type := .int, accessFlags := 2, slot := 2, constantValue := 0 }, { name := "hashIsZero", type := .boolean, accessFlags := 2, slot := 3, constantValue := 0 }, { name := "serialVersionUID", type := .long, accessFlags := 26, slot := 0, constantValue := 0 }, { name := "COMPACT_STRINGS", type := .boolean, accessFlags := 24, slot := 1, constantValue := 0 }, { name := "serialPersistentFields", type := (.array (.object "java/io/ObjectStreamField")), accessFlags := 26, slot := 2, constantValue := 0 }, { name := "REPL", type := .char, accessFlags := 26, slot := 3, constantValue := 0 }, { name := "CASE_INSENSITIVE_ORDER", type := (.object "java/util/Comparator"), accessFlags := 25, slot := 4, constantValue := 0 }, { name := "LATIN1", type := .byte, accessFlags := 24, slot := 5, constantValue := 0 }, { name := "UTF16", type := .byte, accessFlags := 24, slot := 6, constantValue := 0 }]
  methods := #[k7m0, k7m1, k7m2, k7m3, k7m4, k7m5, k7m6, k7m7, k7m8]
  instanceTypes := #[(.array .byte), .byte, .int, .boolean]
  staticTypes := #[.long, .boolean, (.array (.object "java/io/ObjectStreamField")), .char, (.object "java/util/Comparator"), .byte, .byte]
  resolved := Array.replicate 1451 none
  statics := some 0 }

def pool8 : Array CpInfo := pool [(1, .class_ 2), (0, u "java/lang/String"), (1, .class_ 6), (1, u "java/lang/Object"), (0, u "<init>"), (0, u "()V"), (0, .methodref 1 10), (0, .nameAndType 11 12), (0, u "checkIndex"), (0, u "(II)V"), (1, .class_ 16), (1, u "java/lang/StringLatin1"), (36, u "([BI)C"), (67, u "$assertionsDisabled"), (0, u "Z"), (98, .class_ 223), (1, u "java/lang/StringLatin1$LinesSpliterator"), (28, u "charAt"), (28, u "equals"), (0, u "([B[B)Z"), (107, .class_ 391), (0, u "java/lang/StringLatin1$CharsSpliterator")] 3

def k8m0 : Method := { name := "<init>", desc := "()V", sig := { parameters := [], returnType := none }, accessFlags := 0, code := none }
def k8c1 : Code := { maxStack := 2, maxLocals := 2, code := jdk_43_method_2_code, exceptionTable := #[], attributes := #[] }
def k8m1 : Method := { name := "charAt", desc := "([BI)C", sig := { parameters := [(.array .byte), .int], returnType := some .char }, accessFlags := 9, code := some k8c1 }
def k8c2 : Code := { maxStack := 3, maxLocals := 3, code := jdk_43_method_13_code, exceptionTable := #[], attributes := #[] }
def k8m2 : Method := { name := "equals", desc := "([B[B)Z", sig := { parameters := [(.array .byte), (.array .byte)], returnType := some .boolean }, accessFlags := 9, code := some k8c2 }
/-- java/lang/StringLatin1 -/
def k8 : Class := { plain "java/lang/StringLatin1" (some 0) with
  accessFlags := 48
  interfaces := #[]
  cf := some (fileOf pool8 14 #[.nestMembers #[390, 221]] #[{ accessFlags := 0, nameIndex := 7, descriptorIndex := 8, attributes := #[] }, { accessFlags := 9, nameIndex := 252, descriptorIndex := 53, attributes := #[] }, { accessFlags := 9, nameIndex := 281, descriptorIndex := 282, attributes := #[] }] 48 4 #[] #[{ accessFlags := 4120, nameIndex := 121, descriptorIndex := 122, attributes := #[] }])
  fields := #[{ name := "$assertionsDisabled", type := .boolean, accessFlags := 4120, slot := 0, constantValue := 0 }]
  methods := #[k8m0, k8m1, k8m2]
  instanceTypes := #[]
  staticTypes := #[.boolean]
  resolved := Array.replicate 395 none
  statics := none }

def pool9 : Array CpInfo := pool [(2, .class_ 4), (1, u "java/lang/Object"), (0, u "<init>"), (0, u "()V"), (17, .class_ 26), (1, u "jdk/internal/util/Preconditions"), (6, u "checkIndex"), (21, .class_ 56), (0, u "jdk/internal/util/Preconditions$4"), (57, .class_ 115), (0, u "jdk/internal/util/Preconditions$1"), (7, u "SIOOBE_FORMATTER"), (0, u "Ljava/util/function/BiFunction;"), (0, .class_ 126), (0, u "jdk/internal/util/Preconditions$2"), (3, u "AIOOBE_FORMATTER"), (0, .class_ 132), (0, u "jdk/internal/util/Preconditions$3"), (3, u "IOOBE_FORMATTER"), (41, u "(IILjava/util/function/BiFunction;)I")] 15

def k9m0 : Method := { name := "<init>", desc := "()V", sig := { parameters := [], returnType := none }, accessFlags := 1, code := none }
def k9c1 : Code := { maxStack := 3, maxLocals := 3, code := jdk_41_method_11_code, exceptionTable := #[], attributes := #[] }
def k9m1 : Method := { name := "checkIndex", desc := "(IILjava/util/function/BiFunction;)I", sig := { parameters := [.int, .int, (.object "java/util/function/BiFunction")], returnType := some .int }, accessFlags := 9, code := some k9c1 }
/-- jdk/internal/util/Preconditions -/
def k9 : Class := { plain "jdk/internal/util/Preconditions" (some 0) with
  accessFlags := 33
  interfaces := #[]
  cf := some (fileOf pool9 24 #[.nestMembers #[55, 131, 125, 114]] #[{ accessFlags := 1, nameIndex := 5, descriptorIndex := 6, attributes := #[] }, { accessFlags := 9, nameIndex := 33, descriptorIndex := 178, attributes := #[] }] 33 2 #[] #[{ accessFlags := 25, nameIndex := 123, descriptorIndex := 124, attributes := #[] }, { accessFlags := 25, nameIndex := 130, descriptorIndex := 124, attributes := #[] }, { accessFlags := 25, nameIndex := 136, descriptorIndex := 124, attributes := #[] }])
  fields := #[{ name := "SIOOBE_FORMATTER", type := (.object "java/util/function/BiFunction"), accessFlags := 25, slot := 0, constantValue := 0 }, { name := "AIOOBE_FORMATTER", type := (.object "java/util/function/BiFunction"), accessFlags := 25, slot := 1, constantValue := 0 }, { name := "IOOBE_FORMATTER", type := (.object "java/util/function/BiFunction"), accessFlags := 25, slot := 2, constantValue := 0 }]
  methods := #[k9m0, k9m1]
  instanceTypes := #[]
  staticTypes := #[(.object "java/util/function/BiFunction"), (.object "java/util/function/BiFunction"), (.object "java/util/function/BiFunction")]
  resolved := Array.replicate 194 none
  statics := some 1 }

def pool10 : Array CpInfo := pool [(6, .class_ 8), (1, u "java/lang/Object"), (0, u "<init>"), (0, u "()V"), (1, .class_ 14), (1, u "java/lang/StringUTF16"), (31, u "$assertionsDisabled"), (0, u "Z"), (13, u "HI_BYTE_SHIFT"), (0, u "I"), (2, u "LO_BYTE_SHIFT"), (49, .methodref 12 116), (0, .nameAndType 117 118), (0, u "compress"), (0, u "([CI[BII)I"), (3, u "([CII)[B"), (138, u "coderFromArrayLen"), (0, u "([BI)B"), (106, .class_ 371), (1, u "java/lang/StringUTF16$LinesSpliterator"), (58, u "MAX_LENGTH"), (196, .class_ 628), (0, u "java/lang/StringUTF16$CodePointsSpliterator"), (0, .class_ 630), (0, u "java/lang/StringUTF16$CharsSpliterator")] 4

def k10m0 : Method := { name := "<init>", desc := "()V", sig := { parameters := [], returnType := none }, accessFlags := 0, code := none }
def k10c1 : Code := { maxStack := 2, maxLocals := 2, code := jdk_52_method_15_code, exceptionTable := #[], attributes := #[] }
def k10m1 : Method := { name := "coderFromArrayLen", desc := "([BI)B", sig := { parameters := [(.array .byte), .int], returnType := some .byte }, accessFlags := 8, code := some k10c1 }
def k10c2 : Code := { maxStack := 5, maxLocals := 6, code := jdk_52_method_16_code, exceptionTable := #[], attributes := #[] }
def k10m2 : Method := { name := "compress", desc := "([CII)[B", sig := { parameters := [(.array .char), .int, .int], returnType := some (.array .byte) }, accessFlags := 9, code := some k10c2 }
def k10c3 : Code := { maxStack := 3, maxLocals := 7, code := jdk_52_method_21_code, exceptionTable := #[], attributes := #[] }
def k10m3 : Method := { name := "compress", desc := "([CI[BII)I", sig := { parameters := [(.array .char), .int, (.array .byte), .int, .int], returnType := some .int }, accessFlags := 9, code := some k10c3 }
/-- java/lang/StringUTF16 -/
def k10 : Class := { plain "java/lang/StringUTF16" (some 0) with
  accessFlags := 48
  interfaces := #[]
  cf := some (fileOf pool10 12 #[.nestMembers #[627, 629, 369]] #[{ accessFlags := 0, nameIndex := 9, descriptorIndex := 10, attributes := #[] }, { accessFlags := 8, nameIndex := 261, descriptorIndex := 262, attributes := #[] }, { accessFlags := 9, nameIndex := 117, descriptorIndex := 122, attributes := #[] }, { accessFlags := 9, nameIndex := 117, descriptorIndex := 118, attributes := #[] }] 48 6 #[] #[{ accessFlags := 26, nameIndex := 61, descriptorIndex := 62, attributes := #[] }, { accessFlags := 26, nameIndex := 65, descriptorIndex := 62, attributes := #[] }, { accessFlags := 24, nameIndex := 430, descriptorIndex := 62, attributes := #[] }, { accessFlags := 4120, nameIndex := 46, descriptorIndex := 47, attributes := #[] }])
  fields := #[{ name := "HI_BYTE_SHIFT", type := .int, accessFlags := 26, slot := 0, constantValue := 0 }, { name := "LO_BYTE_SHIFT", type := .int, accessFlags := 26, slot := 1, constantValue := 0 }, { name := "MAX_LENGTH", type := .int, accessFlags := 24, slot := 2, constantValue := 0 }, { name := "$assertionsDisabled", type := .boolean, accessFlags := 4120, slot := 3, constantValue := 0 }]
  methods := #[k10m0, k10m1, k10m2, k10m3]
  instanceTypes := #[]
  staticTypes := #[.int, .int, .int, .boolean]
  resolved := Array.replicate 635 none
  statics := none }

def pool11 : Array CpInfo := pool [(2, .class_ 4), (1, u "java/lang/Enum"), (0, u "name"), (0, u "Ljava/lang/String;"), (2, u "ordinal"), (0, u "I"), (1, .class_ 14), (1, u "java/lang/Object"), (4, u "hash"), (86, .class_ 108), (1, u "java/lang/Enum$EnumDesc"), (2, .class_ 112), (0, u "java/lang/constant/Constable"), (0, .class_ 114), (0, u "java/lang/Comparable"), (0, .class_ 116), (0, u "java/io/Serializable")] 87

/-- java/lang/Enum -/
def k11 : Class := { plain "java/lang/Enum" (some 0) with
  accessFlags := 1057
  interfaces := #[5, 3, 2]
  cf := some (fileOf pool11 2 #[.nestMembers #[106]] #[] 1057 12 #[111, 113, 115] #[{ accessFlags := 18, nameIndex := 5, descriptorIndex := 6, attributes := #[] }, { accessFlags := 18, nameIndex := 9, descriptorIndex := 10, attributes := #[] }, { accessFlags := 2, nameIndex := 19, descriptorIndex := 10, attributes := #[] }])
  fields := #[{ name := "name", type := (.object "java/lang/String"), accessFlags := 18, slot := 0, constantValue := 0 }, { name := "ordinal", type := .int, accessFlags := 18, slot := 1, constantValue := 0 }, { name := "hash", type := .int, accessFlags := 2, slot := 2, constantValue := 0 }]
  methods := #[]
  instanceTypes := #[(.object "java/lang/String"), .int, .int]
  staticTypes := #[]
  resolved := Array.replicate 204 none
  statics := none }

def pool12 : Array CpInfo := pool [(1, .class_ 2), (0, u "com/example/pickwright/pickwright/Routing"), (2, u "S_SHAPE"), (0, u "Lcom/example/pickwright/pickwright/Routing;"), (2, u "LARGEST_GAP"), (0, .fieldref 1 11), (0, .nameAndType 12 13), (0, u "$VALUES"), (0, u "[Lcom/example/pickwright/pickwright/Routing;"), (0, .methodref 15 16), (0, .class_ 13), (0, .nameAndType 17 18), (0, u "clone"), (0, u "()Ljava/lang/Object;"), (1, .class_ 22), (1, u "java/lang/Enum"), (6, .fieldref 1 30), (0, .nameAndType 31 32), (0, u "_name"), (0, u "Ljava/lang/String;"), (0, .methodref 1 34), (0, .nameAndType 35 36), (0, u "values"), (0, u "()[Lcom/example/pickwright/pickwright/Routing;"), (0, .invokeDynamic 0 38), (0, .nameAndType 39 40), (0, u "apply"), (0, u "()Ljava/util/function/Function;"), (0, .methodref 42 43), (0, .class_ 44), (0, .nameAndType 45 46), (0, u "com/example/pickwright/pickwright/Choices"), (0, u "named"), (0, u "([Ljava/lang/Object;Ljava/util/function/Function;Ljava/lang/String;)Ljava/lang/Object;"), (18, u "(Ljava/lang/String;)Lcom/example/pickwright/pickwright/Routing;"), (4, u "()Ljava/lang/String;"), (0, u "routingName"), (6, .methodType 79), (0, u "(Ljava/lang/Object;)Ljava/lang/Object;"), (0, .methodHandle 5 81), (0, .methodref 1 82), (0, .nameAndType 71 70), (0, .methodType 84), (0, u "(Lcom/example/pickwright/pickwright/Routing;)Ljava/lang/String;"), (0, .methodHandle 6 86), (0, .methodref 87 88), (0, .class_ 89), (0, .nameAndType 90 91), (0, u "java/lang/invoke/LambdaMetafactory"), (0, u "metafactory"), (0, u "(Ljava/lang/invoke/MethodHandles$Lookup;Ljava/lang/String;Ljava/lang/invoke/MethodType;Ljava/lang/invoke/MethodType;Ljava/lang/invoke/MethodHandle;Ljava/lang/invoke/MethodType;)Ljava/lang/invoke/CallSite;")] 6

def k12c0 : Code := { maxStack := 1, maxLocals := 0, code := prog_23_method_1_code, exceptionTable := #[], attributes := #[] }
def k12m0 : Method := { name := "values", desc := "()[Lcom/example/pickwright/pickwright/Routing;", sig := { parameters := [], returnType := some (.array (.object "com/example/pickwright/pickwright/Routing")) }, accessFlags := 9, code := some k12c0 }
def k12c1 : Code := { maxStack := 3, maxLocals := 1, code := prog_23_method_4_code, exceptionTable := #[], attributes := #[] }
def k12m1 : Method := { name := "named", desc := "(Ljava/lang/String;)Lcom/example/pickwright/pickwright/Routing;", sig := { parameters := [(.object "java/lang/String")], returnType := some (.object "com/example/pickwright/pickwright/Routing") }, accessFlags := 9, code := some k12c1 }
def k12c2 : Code := { maxStack := 1, maxLocals := 1, code := prog_23_method_6_code, exceptionTable := #[], attributes := #[] }
def k12m2 : Method := { name := "routingName", desc := "()Ljava/lang/String;", sig := { parameters := [], returnType := some (.object "java/lang/String") }, accessFlags := 1, code := some k12c2 }
/-- com/example/pickwright/pickwright/Routing -/
def k12 : Class := { plain "com/example/pickwright/pickwright/Routing" (some 11) with
  accessFlags := 16433
  interfaces := #[]
  cf := some (fileOf pool12 1 #[.bootstrapMethods #[⟨85, #[78, 80, 83]⟩]] #[{ accessFlags := 9, nameIndex := 35, descriptorIndex := 36, attributes := #[] }, { accessFlags := 9, nameIndex := 45, descriptorIndex := 65, attributes := #[] }, { accessFlags := 1, nameIndex := 71, descriptorIndex := 70, attributes := #[] }] 16433 20 #[] #[{ accessFlags := 16409, nameIndex := 5, descriptorIndex := 6, attributes := #[] }, { accessFlags := 16409, nameIndex := 9, descriptorIndex := 6, attributes := #[] }, { accessFlags := 18, nameIndex := 31, descriptorIndex := 32, attributes := #[] }, { accessFlags := 4122, nameIndex := 12, descriptorIndex := 13, attributes := #[] }])
  fields := #[{ name := "S_SHAPE", type := (.object "com/example/pickwright/pickwright/Routing"), accessFlags := 16409, slot := 0, constantValue := 0 }, { name := "LARGEST_GAP", type := (.object "com/example/pickwright/pickwright/Routing"), accessFlags := 16409, slot := 1, constantValue := 0 }, { name := "_name", type := (.object "java/lang/String"), accessFlags := 18, slot := 3, constantValue := 0 }, { name := "$VALUES", type := (.array (.object "com/example/pickwright/pickwright/Routing")), accessFlags := 4122, slot := 2, constantValue := 0 }]
  methods := #[k12m0, k12m1, k12m2]
  instanceTypes := #[(.object "java/lang/String"), .int, .int, (.object "java/lang/String")]
  staticTypes := #[(.object "com/example/pickwright/pickwright/Routing"), (.object "com/example/pickwright/pickwright/Routing"), (.array (.object "com/example/pickwright/pickwright/Routing"))]
  resolved := Array.replicate 98 none
  callSites := [(1, 3, .constant 3)]
  statics := some 2 }

def pool13 : Array CpInfo := pool [(1, .class_ 2), (0, u "java/lang/Cloneable"), (0, .class_ 4), (0, u "java/lang/Object")] 2

/-- java/lang/Cloneable -/
def k13 : Class := { plain "java/lang/Cloneable" (some 0) with
  accessFlags := 1537
  interfaces := #[]
  cf := some (fileOf pool13 1 #[] #[] 1537 3 #[] #[])
  fields := #[]
  methods := #[]
  instanceTypes := #[]
  staticTypes := #[]
  resolved := Array.replicate 7 none
  statics := none }

def pool14 : Array CpInfo := pool [(6, u "(Ljava/lang/Object;)Ljava/lang/Object;"), (2, u "apply"), (6, .class_ 18), (1, u "java/util/function/Function"), (0, .class_ 20), (0, u "java/lang/Object")] 56

def k14m0 : Method := { name := "apply", desc := "(Ljava/lang/Object;)Ljava/lang/Object;", sig := { parameters := [(.object "java/lang/Object")], returnType := some (.object "java/lang/Object") }, accessFlags := 1025, code := none }
/-- java/util/function/Function -/
def k14 : Class := { plain "java/util/function/Function" (some 0) with
  accessFlags := 1537
  interfaces := #[]
  cf := some (fileOf pool14 16 #[] #[{ accessFlags := 1025, nameIndex := 9, descriptorIndex := 6, attributes := #[] }] 1537 19 #[] #[])
  fields := #[]
  methods := #[k14m0]
  instanceTypes := #[]
  staticTypes := #[]
  resolved := Array.replicate 77 none
  statics := none }

def pool15 : Array CpInfo := pool [(2, .class_ 4), (1, u "java/lang/Object"), (0, u "<init>"), (0, u "()V"), (0, .interfaceMethodref 8 9), (0, .class_ 10), (0, .nameAndType 11 12), (0, u "java/util/function/Function"), (0, u "apply"), (0, u "(Ljava/lang/Object;)Ljava/lang/Object;"), (0, .class_ 14), (0, u "java/lang/String"), (0, .methodref 13 16), (0, .nameAndType 17 18), (0, u "equals"), (0, u "(Ljava/lang/Object;)Z"), (15, .class_ 35), (0, u "com/example/pickwright/pickwright/Choices"), (2, u "named"), (0, u "([Ljava/lang/Object;Ljava/util/function/Function;Ljava/lang/String;)Ljava/lang/Object;")] 10

def k15m0 : Method := { name := "<init>", desc := "()V", sig := { parameters := [], returnType := none }, accessFlags := 2, code := none }
def k15c1 : Code := { maxStack := 2, maxLocals := 7, code := prog_1_method_2_code, exceptionTable := #[], attributes := #[] }
def k15m1 : Method := { name := "named", desc := "([Ljava/lang/Object;Ljava/util/function/Function;Ljava/lang/String;)Ljava/lang/Object;", sig := { parameters := [(.array (.object "java/lang/Object")), (.object "java/util/function/Function"), (.object "java/lang/String")], returnType := some (.object "java/lang/Object") }, accessFlags := 8, code := some k15c1 }
/-- com/example/pickwright/pickwright/Choices -/
def k15 : Class := { plain "com/example/pickwright/pickwright/Choices" (some 0) with
  accessFlags := 48
  interfaces := #[]
  cf := some (fileOf pool15 34 #[] #[{ accessFlags := 2, nameIndex := 5, descriptorIndex := 6, attributes := #[] }, { accessFlags := 8, nameIndex := 38, descriptorIndex := 39, attributes := #[] }] 48 2 #[] #[])
  fields := #[]
  methods := #[k15m0, k15m1]
  instanceTypes := #[]
  staticTypes := #[]
  resolved := Array.replicate 50 none
  statics := none }

def pool16 : Array CpInfo := pool [(9, u "<init>"), (6, .class_ 18), (1, u "java/lang/Object"), (0, u "()V"), (1, .class_ 23), (1, u "jdk/internal/util/ArraysSupport"), (0, u "LOG2_ARRAY_LONG_INDEX_SCALE"), (0, u "I"), (2, u "U"), (0, u "Ljdk/internal/misc/Unsafe;"), (8, u "BIG_ENDIAN"), (0, u "Z"), (8, u "LOG2_BYTE_BIT_SIZE"), (4, u "LOG2_ARRAY_INT_INDEX_SCALE"), (54, u "JLA"), (0, u "Ljdk/internal/access/JavaLangAccess;"), (11, u "LOG2_ARRAY_BOOLEAN_INDEX_SCALE"), (9, u "LOG2_ARRAY_BYTE_INDEX_SCALE"), (5, u "LOG2_ARRAY_CHAR_INDEX_SCALE"), (5, u "LOG2_ARRAY_SHORT_INDEX_SCALE"), (18, u "LOG2_ARRAY_FLOAT_INDEX_SCALE"), (24, u "LOG2_ARRAY_DOUBLE_INDEX_SCALE"), (89, u "T_BOOLEAN"), (2, u "T_CHAR"), (1, u "T_FLOAT"), (1, u "T_DOUBLE"), (1, u "T_BYTE"), (1, u "T_SHORT"), (1, u "T_INT"), (1, u "T_LONG"), (1, u "SOFT_MAX_ARRAY_LENGTH")] 83

def k16m0 : Method := { name := "<init>", desc := "()V", sig := { parameters := [], returnType := none }, accessFlags := 2, code := none }
/-- jdk/internal/util/ArraysSupport -/
def k16 : Class := { plain "jdk/internal/util/ArraysSupport" (some 0) with
  accessFlags := 33
  interfaces := #[]
  cf := some (fileOf pool16 21 #[] #[{ accessFlags := 2, nameIndex := 9, descriptorIndex := 19, attributes := #[] }] 33 16 #[] #[{ accessFlags := 24, nameIndex := 28, descriptorIndex := 29, attributes := #[] }, { accessFlags := 26, nameIndex := 38, descriptorIndex := 39, attributes := #[] }, { accessFlags := 25, nameIndex := 121, descriptorIndex := 25, attributes := #[] }, { accessFlags := 25, nameIndex := 131, descriptorIndex := 25, attributes := #[] }, { accessFlags := 25, nameIndex := 137, descriptorIndex := 25, attributes := #[] }, { accessFlags := 25, nameIndex := 143, descriptorIndex := 25, attributes := #[] }, { accessFlags := 25, nameIndex := 53, descriptorIndex := 25, attributes := #[] }, { accessFlags := 25, nameIndex := 24, descriptorIndex := 25, attributes := #[] }, { accessFlags := 25, nameIndex := 162, descriptorIndex := 25, attributes := #[] }, { accessFlags := 25, nameIndex := 187, descriptorIndex := 25, attributes := #[] }, { accessFlags := 26, nameIndex := 48, descriptorIndex := 25, attributes := #[] }, { accessFlags := 25, nameIndex := 277, descriptorIndex := 25, attributes := #[] }, { accessFlags := 25, nameIndex := 280, descriptorIndex := 25, attributes := #[] }, { accessFlags := 25, nameIndex := 282, descriptorIndex := 25, attributes := #[] }, { accessFlags := 25, nameIndex := 284, descriptorIndex := 25, attributes := #[] }, { accessFlags := 25, nameIndex := 286, descriptorIndex := 25, attributes := #[] }, { accessFlags := 25, nameIndex := 288, descriptorIndex := 25, attributes := #[] }, { accessFlags := 25, nameIndex := 290, descriptorIndex := 25, attributes := #[] }, { accessFlags := 25, nameIndex := 292, descriptorIndex := 25, attributes := #[] }, { accessFlags := 26, nameIndex := 108, descriptorIndex := 109, attributes := #[] }, { accessFlags := 25, nameIndex := 294, descriptorIndex := 25, attributes := #[] }])
  fields := #[{ name := "U", type := (.object "jdk/internal/misc/Unsafe"), accessFlags := 24, slot := 0, constantValue := 0 }, { name := "BIG_ENDIAN", type := .boolean, accessFlags := 26, slot := 1, constantValue := 0 }, { name := "LOG2_ARRAY_BOOLEAN_INDEX_SCALE", type := .int, accessFlags := 25, slot := 2, constantValue := 0 }, { name := "LOG2_ARRAY_BYTE_INDEX_SCALE", type := .int, accessFlags := 25, slot := 3, constantValue := 0 }, { name := "LOG2_ARRAY_CHAR_INDEX_SCALE", type := .int, accessFlags := 25, slot := 4, constantValue := 0 }, { name := "LOG2_ARRAY_SHORT_INDEX_SCALE", type := .int, accessFlags := 25, slot := 5, constantValue := 0 }, { name := "LOG2_ARRAY_INT_INDEX_SCALE", type := .int, accessFlags := 25, slot := 6, constantValue := 0 }, { name := "LOG2_ARRAY_LONG_INDEX_SCALE", type := .int, accessFlags := 25, slot := 7, constantValue := 0 }, { name := "LOG2_ARRAY_FLOAT_INDEX_SCALE", type := .int, accessFlags := 25, slot := 8, constantValue := 0 }, { name := "LOG2_ARRAY_DOUBLE_INDEX_SCALE", type := .int, accessFlags := 25, slot := 9, constantValue := 0 }, { name := "LOG2_BYTE_BIT_SIZE", type := .int, accessFlags := 26, slot := 10, constantValue := 0 }, { name := "T_BOOLEAN", type := .int, accessFlags := 25, slot := 11, constantValue := 0 }, { name := "T_CHAR", type := .int, accessFlags := 25, slot := 12, constantValue := 0 }, { name := "T_FLOAT", type := .int, accessFlags := 25, slot := 13, constantValue := 0 }, { name := "T_DOUBLE", type := .int, accessFlags := 25, slot := 14, constantValue := 0 }, { name := "T_BYTE", type := .int, accessFlags := 25, slot := 15, constantValue := 0 }, { name := "T_SHORT", type := .int, accessFlags := 25, slot := 16, constantValue := 0 }, { name := "T_INT", type := .int, accessFlags := 25, slot := 17, constantValue := 0 }, { name := "T_LONG", type := .int, accessFlags := 25, slot := 18, constantValue := 0 }, { name := "JLA", type := (.object "jdk/internal/access/JavaLangAccess"), accessFlags := 26, slot := 19, constantValue := 0 }, { name := "SOFT_MAX_ARRAY_LENGTH", type := .int, accessFlags := 25, slot := 20, constantValue := 0 }]
  methods := #[k16m0]
  instanceTypes := #[]
  staticTypes := #[(.object "jdk/internal/misc/Unsafe"), .boolean, .int, .int, .int, .int, .int, .int, .int, .int, .int, .int, .int, .int, .int, .int, .int, .int, .int, (.object "jdk/internal/access/JavaLangAccess"), .int]
  resolved := Array.replicate 378 none
  statics := none }

/-- the primitive byte -/
def k17 : Class := { plain "byte" none with kind := .primitive 'B', accessFlags := 0x411 }
/-- [B -/
def k18 : Class := { plain "[B" (some 0) with kind := .array 17 .byte, interfaces := #[13, 2], accessFlags := 1041 }

/-- the primitive char -/
def k19 : Class := { plain "char" none with kind := .primitive 'C', accessFlags := 0x411 }
/-- [C -/
def k20 : Class := { plain "[C" (some 0) with kind := .array 19 .char, interfaces := #[13, 2], accessFlags := 1041 }

/-- the primitive int -/
def k21 : Class := { plain "int" none with kind := .primitive 'I', accessFlags := 0x411 }
/-- [I -/
def k22 : Class := { plain "[I" (some 0) with kind := .array 21 .int, interfaces := #[13, 2], accessFlags := 1041 }

/-- [Lcom/example/pickwright/pickwright/Routing; -/
def k23 : Class := { plain "[Lcom/example/pickwright/pickwright/Routing;" (some 0) with kind := .array 12 (.object "com/example/pickwright/pickwright/Routing"), interfaces := #[13, 2], accessFlags := 1041 }

def classes0 : Array Class := #[k0, k1, k2, k3, k4, k5, k6, k7, k8, k9, k10, k11, k12, k13, k14, k15, k16, k17, k18, k19, k20, k21, k22, k23]
/-- the class that the rule has made for the site at 3 of com/example/pickwright/pickwright/Routing.named -/
def k24 : Class := Jvm.LamKit.madeRec { classes := classes0 } "com/example/pickwright/pickwright/Routing" (Jvm.Lambda.Shape.mk "java/util/function/Function" "apply" (Jvm.ClassFile.MethodDescriptor.mk ([(Jvm.ClassFile.FieldType.object "java/lang/Object")] : List Jvm.ClassFile.FieldType) (Option.some (Jvm.ClassFile.FieldType.object "java/lang/Object"))) ([] : List Jvm.ClassFile.FieldType) (5 : Nat) "com/example/pickwright/pickwright/Routing" "routingName" (Jvm.ClassFile.MethodDescriptor.mk ([] : List Jvm.ClassFile.FieldType) (Option.some (Jvm.ClassFile.FieldType.object "java/lang/String"))) false (Jvm.ClassFile.MethodDescriptor.mk ([(Jvm.ClassFile.FieldType.object "com/example/pickwright/pickwright/Routing")] : List Jvm.ClassFile.FieldType) (Option.some (Jvm.ClassFile.FieldType.object "java/lang/String")))) 24

def heap : Heap := #[{ cls := 7, slots := #[.long 0, .int 1, .null, .int 0, .null, .int 0, .int 0], vm := .statics 7 },
  { cls := 9, slots := #[.null, .null, .null], vm := .statics 9 },
  { cls := 12, slots := #[.ref 5, .ref 6, .ref 4], vm := .statics 12 },
  { cls := 24, slots := #[], vm := .none },
  { cls := 23, slots := #[.ref 5, .ref 6], vm := .none },
  { cls := 12, slots := #[.null, .int 0, .int 0, .ref 7], vm := .none },
  { cls := 12, slots := #[.null, .int 1, .int 0, .ref 8], vm := .none },
  { cls := 7, slots := #[.ref 9, .int 0, .int 0, .int 0], vm := .none },
  { cls := 7, slots := #[.ref 10, .int 0, .int 0, .int 0], vm := .none },
  { cls := 18, slots := #[.int 115, .int 45, .int 115, .int 104, .int 97, .int 112, .int 101], vm := .none },
  { cls := 18, slots := #[.int 108, .int 97, .int 114, .int 103, .int 101, .int 115, .int 116, .int 45, .int 103, .int 97, .int 112], vm := .none }]
def classes : Array Class := #[k0, k1, k2, k3, k4, k5, k6, k7, k8, k9, k10, k11, k12, k13, k14, k15, k16, k17, k18, k19, k20, k21, k22, k23, k24]
def interned : List (Array UInt16 × Addr) := []
def slotsUsed : Nat := 49
def theMethod : MethodId := ⟨1, 2⟩
def args0 : Array Value := #[.int 5, .int 5, .int 5, .int 5]
def aboutOver (below : List Frame) : State where
  vm := { classes := classes, interned := interned.toArray }
  heap := heap
  slotsUsed := slotsUsed
  threads := #[{ frames := .invoking theMethod args0 :: below }]
def below0 : List Frame := [.native { method := ⟨0, 0⟩, args := #[] }]
def about1 : State := aboutOver below0
def p0 : Program := .bare "" "" ""
def e0 : Env := launch0.env 0 0 0
theorem w_frames : about1.frames = Frame.invoking theMethod args0 :: below0 := rfl
set_option maxRecDepth 65536 in
theorem w_args : argsFit about1.vm theMethod args0 = true := by decide +kernel
set_option maxRecDepth 65536 in
theorem w_heap : heapFits about1 = true := by decide +kernel
set_option maxRecDepth 65536 in
theorem w_runnable : about1.curStatus? = some .runnable := by decide +kernel
set_option maxRecDepth 65536 in
theorem w_alone : about1.alone = true := by decide +kernel
set_option maxRecDepth 65536 in
theorem w_named : about1.methodNamed? x = some theMethod := by decide +kernel
set_option maxRecDepth 65536 in
theorem w_hears : about1.hears theMethod below0 = true := by decide +kernel
set_option maxRecDepth 65536 in
theorem w_ripe : about1.ripe theMethod args0 below0 = true := by decide +kernel
theorem w_running : about1.status = .running := rfl
set_option maxRecDepth 65536 in
theorem w_room : about1.hasRoom e0.platform room_1 = true :=
  launch0.hasRoom_least _ room_1 (by decide +kernel) (by decide +kernel) (by decide +kernel) (by decide +kernel) (by decide +kernel) (by decide +kernel)
theorem allAtoms_all (ts : List Jvm.Cond) (a : Array Jvm.Value) (st : Jvm.State) : (allAtoms ts).before a st = ts.all (fun c => c.before a st) := by
  induction ts with
  | nil => rfl
  | cons c t ih =>
    show (Jvm.Cond.and c (allAtoms t)).before a st = _
    rw [Jvm.Cond.before_and, ih, List.all_cons]
def words1 : List Jvm.Cond := Jvm.Cond.code x code maxLocals ret :: tables_1
/-- a 'code' word, met by the world's own term for the bytes: nothing is compared byte by byte -/
theorem code_word {y : MethodName} {bytes : ByteArray} {mx : Nat} {rt : Option FieldType} {a : Array Value} {s : State} {m : MethodId} {meth : Method} {c : Code} (h1 : s.methodNamed? y = some m) (h2 : s.vm.method? m = some meth) (h3 : meth.code = some c) (h4 : c.code = bytes)
    (h5 : (c.maxLocals == mx && c.exceptionTable.isEmpty && decide (c.maxStack ≤ mostOperands) && decide (meth.sig.returnType = rt) && !meth.locks && decide (parseMethodDescriptor y.desc = some meth.sig)) = true) : (Jvm.Cond.code y bytes mx rt).before a s = true := by
  simp only [Bool.and_eq_true, beq_iff_eq, Bool.not_eq_true', decide_eq_true_eq] at h5
  obtain ⟨⟨⟨⟨⟨g1, g2⟩, g3⟩, g4⟩, g5⟩, g6⟩ := h5
  simp [Cond.before, Cond.holds, Cond.value, h1, h2, h3, h4, g1, g2, g3, g4, g5, g6]
def isCode : Jvm.Cond → Bool
  | .code _ _ _ _ => true
  | _ => false
theorem all_split {L : List Jvm.Cond} {P : Jvm.Cond → Bool} (h1 : L.all (fun c => isCode c || P c) = true) (h2 : ∀ c ∈ L.filter isCode, P c = true) : L.all P = true := by
  refine List.all_eq_true.mpr fun c hc => ?_
  have h := List.all_eq_true.mp h1 c hc
  rcases Bool.eq_false_or_eq_true (isCode c) with hi | hi
  · exact h2 c (List.mem_filter.mpr ⟨hc, hi⟩)
  · simpa [hi] using h
set_option maxRecDepth 65536 in
theorem w_c0 : (Jvm.Cond.code x code maxLocals ret).before args0 about1 = true := code_word (m := ⟨1, 2⟩) (meth := k1m2) (c := k1c2) (by decide +kernel) rfl rfl rfl (by decide +kernel)
set_option maxRecDepth 65536 in
theorem w_c1 : (Jvm.Cond.code ({ cls := "java/lang/String", name := "length", desc := "()I" } : Jvm.MethodName) jdk_42_method_54_code (1 : Nat) (Option.some Jvm.ClassFile.FieldType.int)).before args0 about1 = true := code_word (m := ⟨7, 2⟩) (meth := k7m2) (c := k7c2) (by decide +kernel) rfl rfl rfl (by decide +kernel)
set_option maxRecDepth 65536 in
theorem w_c2 : (Jvm.Cond.code ({ cls := "java/lang/String", name := "coder", desc := "()B" } : Jvm.MethodName) jdk_42_method_152_code (1 : Nat) (Option.some Jvm.ClassFile.FieldType.byte)).before args0 about1 = true := code_word (m := ⟨7, 6⟩) (meth := k7m6) (c := k7c6) (by decide +kernel) rfl rfl rfl (by decide +kernel)
set_option maxRecDepth 65536 in
theorem w_c3 : (Jvm.Cond.code ({ cls := "com/example/pickwright/pickwright/RoutingNamedPinLaw", name := "at", desc := "(Ljava/lang/String;IICII)C" } : Jvm.MethodName) method_2_code (6 : Nat) (Option.some Jvm.ClassFile.FieldType.char)).before args0 about1 = true := code_word (m := ⟨1, 1⟩) (meth := k1m1) (c := k1c1) (by decide +kernel) rfl rfl rfl (by decide +kernel)
set_option maxRecDepth 65536 in
theorem w_c4 : (Jvm.Cond.code ({ cls := "java/lang/String", name := "charAt", desc := "(I)C" } : Jvm.MethodName) jdk_42_method_56_code (2 : Nat) (Option.some Jvm.ClassFile.FieldType.char)).before args0 about1 = true := code_word (m := ⟨7, 3⟩) (meth := k7m3) (c := k7c3) (by decide +kernel) rfl rfl rfl (by decide +kernel)
set_option maxRecDepth 65536 in
theorem w_c5 : (Jvm.Cond.code ({ cls := "java/lang/String", name := "isLatin1", desc := "()Z" } : Jvm.MethodName) jdk_42_method_154_code (1 : Nat) (Option.some Jvm.ClassFile.FieldType.boolean)).before args0 about1 = true := code_word (m := ⟨7, 7⟩) (meth := k7m7) (c := k7c7) (by decide +kernel) rfl rfl rfl (by decide +kernel)
set_option maxRecDepth 65536 in
theorem w_c6 : (Jvm.Cond.code ({ cls := "java/lang/StringLatin1", name := "charAt", desc := "([BI)C" } : Jvm.MethodName) jdk_43_method_2_code (2 : Nat) (Option.some Jvm.ClassFile.FieldType.char)).before args0 about1 = true := code_word (m := ⟨8, 1⟩) (meth := k8m1) (c := k8c1) (by decide +kernel) rfl rfl rfl (by decide +kernel)
set_option maxRecDepth 65536 in
theorem w_c7 : (Jvm.Cond.code ({ cls := "java/lang/String", name := "checkIndex", desc := "(II)V" } : Jvm.MethodName) jdk_42_method_155_code (2 : Nat) (Option.none : Option Jvm.ClassFile.FieldType)).before args0 about1 = true := code_word (m := ⟨7, 8⟩) (meth := k7m8) (c := k7c8) (by decide +kernel) rfl rfl rfl (by decide +kernel)
set_option maxRecDepth 65536 in
theorem w_c8 : (Jvm.Cond.code ({ cls := "jdk/internal/util/Preconditions", name := "checkIndex", desc := "(IILjava/util/function/BiFunction;)I" } : Jvm.MethodName) jdk_41_method_11_code (3 : Nat) (Option.some Jvm.ClassFile.FieldType.int)).before args0 about1 = true := code_word (m := ⟨9, 1⟩) (meth := k9m1) (c := k9c1) (by decide +kernel) rfl rfl rfl (by decide +kernel)
set_option maxRecDepth 65536 in
theorem w_c9 : (Jvm.Cond.code ({ cls := "java/lang/String", name := "<init>", desc := "([C)V" } : Jvm.MethodName) jdk_42_method_3_code (2 : Nat) (Option.none : Option Jvm.ClassFile.FieldType)).before args0 about1 = true := code_word (m := ⟨7, 1⟩) (meth := k7m1) (c := k7c1) (by decide +kernel) rfl rfl rfl (by decide +kernel)
set_option maxRecDepth 65536 in
theorem w_c10 : (Jvm.Cond.code ({ cls := "java/lang/String", name := "<init>", desc := "([CIILjava/lang/Void;)V" } : Jvm.MethodName) jdk_42_method_149_code (6 : Nat) (Option.none : Option Jvm.ClassFile.FieldType)).before args0 about1 = true := code_word (m := ⟨7, 5⟩) (meth := k7m5) (c := k7c5) (by decide +kernel) rfl rfl rfl (by decide +kernel)
set_option maxRecDepth 65536 in
theorem w_c11 : (Jvm.Cond.code ({ cls := "java/lang/Object", name := "<init>", desc := "()V" } : Jvm.MethodName) object_method_1_code (1 : Nat) (Option.none : Option Jvm.ClassFile.FieldType)).before args0 about1 = true := code_word (m := ⟨0, 0⟩) (meth := k0m0) (c := k0c0) (by decide +kernel) rfl rfl rfl (by decide +kernel)
set_option maxRecDepth 65536 in
theorem w_c12 : (Jvm.Cond.code ({ cls := "java/lang/StringUTF16", name := "compress", desc := "([CII)[B" } : Jvm.MethodName) jdk_52_method_16_code (6 : Nat) (Option.some (Jvm.ClassFile.FieldType.array Jvm.ClassFile.FieldType.byte))).before args0 about1 = true := code_word (m := ⟨10, 2⟩) (meth := k10m2) (c := k10c2) (by decide +kernel) rfl rfl rfl (by decide +kernel)
set_option maxRecDepth 65536 in
theorem w_c13 : (Jvm.Cond.code ({ cls := "java/lang/StringUTF16", name := "compress", desc := "([CI[BII)I" } : Jvm.MethodName) jdk_52_method_21_code (7 : Nat) (Option.some Jvm.ClassFile.FieldType.int)).before args0 about1 = true := code_word (m := ⟨10, 3⟩) (meth := k10m3) (c := k10c3) (by decide +kernel) rfl rfl rfl (by decide +kernel)
set_option maxRecDepth 65536 in
theorem w_c14 : (Jvm.Cond.code ({ cls := "java/lang/StringUTF16", name := "coderFromArrayLen", desc := "([BI)B" } : Jvm.MethodName) jdk_52_method_15_code (2 : Nat) (Option.some Jvm.ClassFile.FieldType.byte)).before args0 about1 = true := code_word (m := ⟨10, 1⟩) (meth := k10m1) (c := k10c1) (by decide +kernel) rfl rfl rfl (by decide +kernel)
set_option maxRecDepth 65536 in
theorem w_c15 : (Jvm.Cond.code ({ cls := "java/lang/String", name := "equals", desc := "(Ljava/lang/Object;)Z" } : Jvm.MethodName) jdk_42_method_66_code (3 : Nat) (Option.some Jvm.ClassFile.FieldType.boolean)).before args0 about1 = true := code_word (m := ⟨7, 4⟩) (meth := k7m4) (c := k7c4) (by decide +kernel) rfl rfl rfl (by decide +kernel)
set_option maxRecDepth 65536 in
theorem w_c16 : (Jvm.Cond.code ({ cls := "java/lang/StringLatin1", name := "equals", desc := "([B[B)Z" } : Jvm.MethodName) jdk_43_method_13_code (3 : Nat) (Option.some Jvm.ClassFile.FieldType.boolean)).before args0 about1 = true := code_word (m := ⟨8, 2⟩) (meth := k8m2) (c := k8c2) (by decide +kernel) rfl rfl rfl (by decide +kernel)
set_option maxRecDepth 65536 in
theorem w_c17 : (Jvm.Cond.code ({ cls := "com/example/pickwright/pickwright/Routing", name := "named", desc := "(Ljava/lang/String;)Lcom/example/pickwright/pickwright/Routing;" } : Jvm.MethodName) prog_23_method_4_code (1 : Nat) (Option.some (Jvm.ClassFile.FieldType.object "com/example/pickwright/pickwright/Routing"))).before args0 about1 = true := code_word (m := ⟨12, 1⟩) (meth := k12m1) (c := k12c1) (by decide +kernel) rfl rfl rfl (by decide +kernel)
set_option maxRecDepth 65536 in
theorem w_c18 : (Jvm.Cond.code ({ cls := "com/example/pickwright/pickwright/Routing", name := "values", desc := "()[Lcom/example/pickwright/pickwright/Routing;" } : Jvm.MethodName) prog_23_method_1_code (0 : Nat) (Option.some (Jvm.ClassFile.FieldType.array (Jvm.ClassFile.FieldType.object "com/example/pickwright/pickwright/Routing")))).before args0 about1 = true := code_word (m := ⟨12, 0⟩) (meth := k12m0) (c := k12c0) (by decide +kernel) rfl rfl rfl (by decide +kernel)
set_option maxRecDepth 65536 in
theorem w_c19 : (Jvm.Cond.code ({ cls := "com/example/pickwright/pickwright/Choices", name := "named", desc := "([Ljava/lang/Object;Ljava/util/function/Function;Ljava/lang/String;)Ljava/lang/Object;" } : Jvm.MethodName) prog_1_method_2_code (7 : Nat) (Option.some (Jvm.ClassFile.FieldType.object "java/lang/Object"))).before args0 about1 = true := code_word (m := ⟨15, 1⟩) (meth := k15m1) (c := k15c1) (by decide +kernel) rfl rfl rfl (by decide +kernel)
set_option maxRecDepth 65536 in
theorem w_c20 : (Jvm.Cond.code ({ cls := "com/example/pickwright/pickwright/Routing", name := "routingName", desc := "()Ljava/lang/String;" } : Jvm.MethodName) prog_23_method_6_code (1 : Nat) (Option.some (Jvm.ClassFile.FieldType.object "java/lang/String"))).before args0 about1 = true := code_word (m := ⟨12, 2⟩) (meth := k12m2) (c := k12c2) (by decide +kernel) rfl rfl rfl (by decide +kernel)
def codes1 : List Jvm.Cond := [Jvm.Cond.code x code maxLocals ret, Jvm.Cond.code ({ cls := "java/lang/String", name := "length", desc := "()I" } : Jvm.MethodName) jdk_42_method_54_code (1 : Nat) (Option.some Jvm.ClassFile.FieldType.int), Jvm.Cond.code ({ cls := "java/lang/String", name := "coder", desc := "()B" } : Jvm.MethodName) jdk_42_method_152_code (1 : Nat) (Option.some Jvm.ClassFile.FieldType.byte), Jvm.Cond.code ({ cls := "com/example/pickwright/pickwright/RoutingNamedPinLaw", name := "at", desc := "(Ljava/lang/String;IICII)C" } : Jvm.MethodName) method_2_code (6 : Nat) (Option.some Jvm.ClassFile.FieldType.char), Jvm.Cond.code ({ cls := "java/lang/String", name := "charAt", desc := "(I)C" } : Jvm.MethodName) jdk_42_method_56_code (2 : Nat) (Option.some Jvm.ClassFile.FieldType.char), Jvm.Cond.code ({ cls := "java/lang/String", name := "isLatin1", desc := "()Z" } : Jvm.MethodName) jdk_42_method_154_code (1 : Nat) (Option.some Jvm.ClassFile.FieldType.boolean), Jvm.Cond.code ({ cls := "java/lang/StringLatin1", name := "charAt", desc := "([BI)C" } : Jvm.MethodName) jdk_43_method_2_code (2 : Nat) (Option.some Jvm.ClassFile.FieldType.char), Jvm.Cond.code ({ cls := "java/lang/String", name := "checkIndex", desc := "(II)V" } : Jvm.MethodName) jdk_42_method_155_code (2 : Nat) (Option.none : Option Jvm.ClassFile.FieldType), Jvm.Cond.code ({ cls := "jdk/internal/util/Preconditions", name := "checkIndex", desc := "(IILjava/util/function/BiFunction;)I" } : Jvm.MethodName) jdk_41_method_11_code (3 : Nat) (Option.some Jvm.ClassFile.FieldType.int), Jvm.Cond.code ({ cls := "java/lang/String", name := "<init>", desc := "([C)V" } : Jvm.MethodName) jdk_42_method_3_code (2 : Nat) (Option.none : Option Jvm.ClassFile.FieldType), Jvm.Cond.code ({ cls := "java/lang/String", name := "<init>", desc := "([CIILjava/lang/Void;)V" } : Jvm.MethodName) jdk_42_method_149_code (6 : Nat) (Option.none : Option Jvm.ClassFile.FieldType), Jvm.Cond.code ({ cls := "java/lang/Object", name := "<init>", desc := "()V" } : Jvm.MethodName) object_method_1_code (1 : Nat) (Option.none : Option Jvm.ClassFile.FieldType), Jvm.Cond.code ({ cls := "java/lang/StringUTF16", name := "compress", desc := "([CII)[B" } : Jvm.MethodName) jdk_52_method_16_code (6 : Nat) (Option.some (Jvm.ClassFile.FieldType.array Jvm.ClassFile.FieldType.byte)), Jvm.Cond.code ({ cls := "java/lang/StringUTF16", name := "compress", desc := "([CI[BII)I" } : Jvm.MethodName) jdk_52_method_21_code (7 : Nat) (Option.some Jvm.ClassFile.FieldType.int), Jvm.Cond.code ({ cls := "java/lang/StringUTF16", name := "coderFromArrayLen", desc := "([BI)B" } : Jvm.MethodName) jdk_52_method_15_code (2 : Nat) (Option.some Jvm.ClassFile.FieldType.byte), Jvm.Cond.code ({ cls := "java/lang/String", name := "equals", desc := "(Ljava/lang/Object;)Z" } : Jvm.MethodName) jdk_42_method_66_code (3 : Nat) (Option.some Jvm.ClassFile.FieldType.boolean), Jvm.Cond.code ({ cls := "java/lang/StringLatin1", name := "equals", desc := "([B[B)Z" } : Jvm.MethodName) jdk_43_method_13_code (3 : Nat) (Option.some Jvm.ClassFile.FieldType.boolean), Jvm.Cond.code ({ cls := "com/example/pickwright/pickwright/Routing", name := "named", desc := "(Ljava/lang/String;)Lcom/example/pickwright/pickwright/Routing;" } : Jvm.MethodName) prog_23_method_4_code (1 : Nat) (Option.some (Jvm.ClassFile.FieldType.object "com/example/pickwright/pickwright/Routing")), Jvm.Cond.code ({ cls := "com/example/pickwright/pickwright/Routing", name := "values", desc := "()[Lcom/example/pickwright/pickwright/Routing;" } : Jvm.MethodName) prog_23_method_1_code (0 : Nat) (Option.some (Jvm.ClassFile.FieldType.array (Jvm.ClassFile.FieldType.object "com/example/pickwright/pickwright/Routing"))), Jvm.Cond.code ({ cls := "com/example/pickwright/pickwright/Choices", name := "named", desc := "([Ljava/lang/Object;Ljava/util/function/Function;Ljava/lang/String;)Ljava/lang/Object;" } : Jvm.MethodName) prog_1_method_2_code (7 : Nat) (Option.some (Jvm.ClassFile.FieldType.object "java/lang/Object")), Jvm.Cond.code ({ cls := "com/example/pickwright/pickwright/Routing", name := "routingName", desc := "()Ljava/lang/String;" } : Jvm.MethodName) prog_23_method_6_code (1 : Nat) (Option.some (Jvm.ClassFile.FieldType.object "java/lang/String"))]
set_option maxRecDepth 65536 in
theorem codes_eq : words1.filter isCode = codes1 := rfl
theorem w_codes : ∀ c ∈ words1.filter isCode, c.before args0 about1 = true := by
  rw [codes_eq]
  intro c hc
  simp only [codes1, List.mem_cons, List.not_mem_nil, or_false] at hc
  rcases hc with rfl | rfl | rfl | rfl | rfl | rfl | rfl | rfl | rfl | rfl | rfl | rfl | rfl | rfl | rfl | rfl | rfl | rfl | rfl | rfl | rfl
  · exact w_c0
  · exact w_c1
  · exact w_c2
  · exact w_c3
  · exact w_c4
  · exact w_c5
  · exact w_c6
  · exact w_c7
  · exact w_c8
  · exact w_c9
  · exact w_c10
  · exact w_c11
  · exact w_c12
  · exact w_c13
  · exact w_c14
  · exact w_c15
  · exact w_c16
  · exact w_c17
  · exact w_c18
  · exact w_c19
  · exact w_c20
set_option maxRecDepth 65536 in
theorem w_t1 : (words1.take 24).all (fun c => isCode c || c.before args0 about1) = true := by decide +kernel
set_option maxRecDepth 65536 in
theorem w_t2 : ((words1.drop 24).take 24).all (fun c => isCode c || c.before args0 about1) = true := by decide +kernel
set_option maxRecDepth 65536 in
theorem w_t3 : (((words1.drop 24).drop 24).take 24).all (fun c => isCode c || c.before args0 about1) = true := by decide +kernel
set_option maxRecDepth 65536 in
theorem w_t4 : ((((words1.drop 24).drop 24).drop 24).take 24).all (fun c => isCode c || c.before args0 about1) = true := by decide +kernel
set_option maxRecDepth 65536 in
theorem w_t5 : (((((words1.drop 24).drop 24).drop 24).drop 24).take 24).all (fun c => isCode c || c.before args0 about1) = true := by decide +kernel
set_option maxRecDepth 65536 in
theorem w_t6 : (((((words1.drop 24).drop 24).drop 24).drop 24).drop 24).all (fun c => isCode c || c.before args0 about1) = true := by decide +kernel
theorem w_tables : (allAtoms (Jvm.Cond.code x code maxLocals ret :: tables_1)).before args0 about1 = true := by
  rw [allAtoms_all]
  show words1.all (fun c => c.before args0 about1) = true
  refine all_split ?_ w_codes
  rw [← List.take_append_drop 24 words1, List.all_append, w_t1, ← List.take_append_drop 24 (words1.drop 24), List.all_append, w_t2, ← List.take_append_drop 24 ((words1.drop 24).drop 24), List.all_append, w_t3, ← List.take_append_drop 24 (((words1.drop 24).drop 24).drop 24), List.all_append, w_t4, ← List.take_append_drop 24 ((((words1.drop 24).drop 24).drop 24).drop 24), List.all_append, w_t5, w_t6]
  rfl
set_option maxRecDepth 65536 in
theorem w_rest : rest_1_c.before args0 about1 = true := by decide +kernel
set_option maxRecDepth 65536 in
theorem w_case : (Jvm.Cond.and given_1 narrow_1).before args0 about1 = true := by decide +kernel
set_option maxRecDepth 65536 in
theorem w_consts : constsHeld consts_1 about1 := Jvm.Lit.constsHeldB_iff.mp (by decide +kernel)
theorem w_applies : (headSpec (Jvm.Cond.code x code maxLocals ret :: tables_1) room_1).applies x e0.platform about1 = true :=
  (Spec.applies_iff w_frames).mpr ⟨w_running, w_runnable, w_alone, w_named, w_hears, w_ripe, w_room, w_tables⟩
theorem atStart : AtStart classFile x code maxLocals ret World_1 tables_1 room_1 Calls_1 rest_1 Pre_1 launch0 p0 e0 about1 theMethod args0 below0 :=
  ⟨lists_1, trivial, launch0.admits_env _ _ _, launch0.least_env, fairChoices_fair.cas, fairChoices_fair.clock, w_frames, w_args, w_heap, w_applies, ⟨w_consts, trivial⟩, w_rest, w_case⟩
end start1
theorem witness_1 : WitnessClaimed_1 := ⟨start1.p0, start1.e0, start1.about1, start1.theMethod, start1.args0, start1.below0, start1.atStart⟩
end Jvm.Pilot.@@N@@
