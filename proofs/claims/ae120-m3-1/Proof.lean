import JvmDerived
import JvmDerived.Pilot.@@N@@Statement
import JvmDerived.Pilot.@@N@@Code
set_option linter.unusedVariables false
set_option linter.unusedSimpArgs false
/- laws to paste: Road.backV (cut by pick.py; bodies as the Statement names them) -/
namespace Jvm.Pilot.@@N@@
namespace StrChars
open Jvm Sem ClassFile Op Lib Jvm.Stand Jvm.Free.XT Jvm.Free.ALB Jvm.Free.JM Jvm.Free
open Jvm.Lib.Cold (StaticIs)
/-- a char array whose places are chars -/
def Ch (a : Addr) (A : Cell) (U : State) : Prop := Arr .char a A U ∧ Typed .char A
theorem Ch.mv {a : Addr} {A : Cell} {U U' : State} (h : Ch a A U) (hal : U.vm.Alike U'.vm) (hh : U'.heap = U.heap) : Ch a A U' := ⟨h.1.mv hal hh, h.2⟩
theorem Ch.keep {a : Addr} {A : Cell} {U U' : State} (h : Ch a A U) (hal : U.vm.Alike U'.vm) (hk : U'.heap[a]? = some A) : Ch a A U' := ⟨h.1.keep hal hk, h.2⟩
/-- what place i of a char[]'s cell holds -/
def cv (A : Cell) (i : Nat) : Int32 := match A.slots[i]? with | some (.int x) => x | _ => 0
theorem Ch.get {a : Addr} {A : Cell} {U : State} (h : Ch a A U) {i : Nat} (hi : i < A.slots.size) : A.slots[i]? = some (.int (cv A i)) := by
  have e := Array.getElem?_eq_getElem hi
  have f := h.2 i _ e
  unfold cv; rw [e]
  generalize A.slots[i] = v at f
  cases v <;> simp [fits] at f ⊢
/-- the byte that i2b leaves of a char -/
def lo8 (x : Int32) : Int32 := x.toInt8.toInt32
theorem fits_lo8 (y : Int32) : fits .byte (.int (lo8 y)) = true := by
  have h1 := y.toInt8.le_toInt
  have h2 := y.toInt8.toInt_lt
  simp only [lo8, fits, Bool.and_eq_true, decide_eq_true_eq, Int32.le_iff_toInt_le, Int8.toInt_toInt32, show (-128 : Int32).toInt = -128 from by decide, show (127 : Int32).toInt = 127 from by decide]
  omega
/-- A' is A but that each place j of lo .. hi - 1 holds f j -/
def Laid (A A' : Cell) (lo hi : Nat) (f : Nat → Value) : Prop := A'.cls = A.cls ∧ A'.vm = A.vm ∧ A'.slots.size = A.slots.size ∧ ∀ i, A'.slots[i]? = if lo ≤ i ∧ i < hi then some (f i) else A.slots[i]?
theorem Laid.zero (A : Cell) (lo : Nat) (f : Nat → Value) : Laid A A lo (lo + 0) f := ⟨rfl, rfl, rfl, fun i => by rw [if_neg (by omega)]⟩
theorem Laid.step {A Ak : Cell} {lo k : Nat} {f : Nat → Value} {v : Value} (h : Laid A Ak lo k f) (hlo : lo ≤ k) (hk : k < Ak.slots.size) (hv : v = f k) : Laid A (Ak.setSlot k v) lo (k + 1) f := by
  refine ⟨h.1, h.2.1, by simpa [Cell.setSlot] using h.2.2.1, fun i => ?_⟩
  by_cases e : k = i
  · subst e; rw [Cell.slots_setSlot_self v hk, if_pos (by omega), hv]
  · rw [Cell.slots_setSlot_ne v e, h.2.2.2 i]
    by_cases q : lo ≤ i ∧ i < k
    · rw [if_pos q, if_pos (by omega)]
    · rw [if_neg q, if_neg (by omega)]
def U16 : String := "java/lang/StringUTF16"
namespace Cmp5
def yN : MethodName := ⟨"java/lang/StringUTF16", "compress", "([CI[BII)I"⟩
abbrev yB : ByteArray := jdk_52_method_21_code
theorem d0 : decode yB 0 = .ok (.iconst 0, 1) := by decide +kernel
theorem d1 : decode yB 1 = .ok (.istore 5, 2) := by decide +kernel
theorem d3 : decode yB 3 = .ok (.iload 5, 2) := by decide +kernel
theorem d5 : decode yB 5 = .ok (.iload 4, 2) := by decide +kernel
theorem d7 : decode yB 7 = .ok (.if_icmp (.ge) 37, 3) := by decide +kernel
theorem d10 : decode yB 10 = .ok (.aload_n 0, 1) := by decide +kernel
theorem d11 : decode yB 11 = .ok (.iload_n 1, 1) := by decide +kernel
theorem d12 : decode yB 12 = .ok (.caload, 1) := by decide +kernel
theorem d13 : decode yB 13 = .ok (.istore 6, 2) := by decide +kernel
theorem d15 : decode yB 15 = .ok (.iload 6, 2) := by decide +kernel
theorem d17 : decode yB 17 = .ok (.sipush 255, 3) := by decide +kernel
theorem d20 : decode yB 20 = .ok (.if_icmp (.le) 6, 3) := by decide +kernel
theorem d26 : decode yB 26 = .ok (.aload_n 2, 1) := by decide +kernel
theorem d27 : decode yB 27 = .ok (.iload_n 3, 1) := by decide +kernel
theorem d28 : decode yB 28 = .ok (.iload 6, 2) := by decide +kernel
theorem d30 : decode yB 30 = .ok (.i2b, 1) := by decide +kernel
theorem d31 : decode yB 31 = .ok (.bastore, 1) := by decide +kernel
theorem d32 : decode yB 32 = .ok (.iinc 1 1, 3) := by decide +kernel
theorem d35 : decode yB 35 = .ok (.iinc 3 1, 3) := by decide +kernel
theorem d38 : decode yB 38 = .ok (.iinc 5 1, 3) := by decide +kernel
theorem d41 : decode yB 41 = .ok (.goto (-38), 3) := by decide +kernel
theorem d44 : decode yB 44 = .ok (.iload 4, 2) := by decide +kernel
theorem d46 : decode yB 46 = .ok (.ireturn, 1) := by decide +kernel
def site : List Cond := []
def tab : Cond := tabOf yN yB 7 (some .int) site
def P (b : Addr) (A : Cell) (d : Addr) (B : Cell) (o q len : Nat) (args : Array Value) (s : State) : Prop := args = #[.ref b, .int (Int32.ofNat o), .ref d, .int (Int32.ofNat q), .int (Int32.ofNat len)] ∧ Ch b A s ∧ Arr .byte d B s ∧ b ≠ d ∧ o + len ≤ A.slots.size ∧ q + len ≤ B.slots.size ∧ ∀ i, i < len → ¬ 255 < cv A (o + i)
def E (b : Addr) (A : Cell) (d : Addr) (B : Cell) (o q len : Nat) (r : Option Value) (s u : State) : Prop := r = some (.int (Int32.ofNat len)) ∧ ∃ B', Put d B' s u ∧ Laid B B' q (q + len) (fun j => Value.int (lo8 (cv A (o + (j - q)))))
/-- no char of the range above 255: len; the places written hold each char's low byte -/
theorem law (l : Launch) (b : Addr) (A : Cell) (d : Addr) (B : Cell) (o q len : Nat) : Law l yN 5 5 0 0 yB 7 (some .int) site (P b A d B o q len) (E b A d B o q len) (copyLocs d q len) 0 0 := by
  refine Law.of_walk (plainFor_of_name (by decide +kernel)) (by decide +kernel) (by decide +kernel) (by decide) (fun _ _ h => by rw [h.1]; rfl) (fun _ U U' hal hh h => ⟨h.1, h.2.1.mv hal hh, h.2.2.1.mv hal hh, h.2.2.2⟩) (fun r U U' V V' h1 hal h2 h => ⟨h.1, h.2.elim fun B' q => ⟨B', q.1.mv h1 h2, q.2⟩⟩) ?_
  intro p e s m args below meth c s₁ X0 hexec hbytes hml hret hlk hnm hown hh0 W hP
  obtain ⟨rfl, hA, hB, hne, l1, l2, hp⟩ := hP
  have c1 : Steps p.tables e below (s₁.setTop (entryFrame m #[.ref b, .int (Int32.ofNat o), .ref d, .int (Int32.ofNat q), .int (Int32.ofNat len)] 7)) (s₁.setTop (mkF m 0 #[.val (.ref b), .val (.int (Int32.ofNat o)), .val (.ref d), .val (.int (Int32.ofNat q)), .val (.int (Int32.ofNat len)), .unset, .unset] [])) := entry rfl
  have hA0 := hA.1.mv X0.warmed.alike hh0
  have hB0 := hB.mv X0.warmed.alike hh0
  have a31 := hA.1.2.2.2
  have c2 : Steps p.tables e below (s₁.setTop (entryFrame m #[.ref b, .int (Int32.ofNat o), .ref d, .int (Int32.ofNat q), .int (Int32.ofNat len)] 7)) (s₁.setTop (mkF m 3 #[.val (.ref b), .val (.int (Int32.ofNat o)), .val (.ref d), .val (.int (Int32.ofNat q)), .val (.int (Int32.ofNat len)), .val (.int 0), .unset] [])) := c1.trans (by
    refine iconstV X0.here hexec rfl 0 (hb hbytes d0) (by decide) ?_
    refine XS.istore X0.here hexec rfl (hb hbytes d1) rfl rfl ?_
    exact Steps.refl _)
  have loop : ∀ (r i : Nat), i + r = len → ∀ (z : Slot), (z = .unset ∨ ∃ w, z = .val w ∧ w.category = 1) → ∀ (Tl : State) (Bk : Cell), Stand p l e { frames := 0, locals := 0, cells := 0, slots := 0 } s m #[.ref b, .int (Int32.ofNat o), .ref d, .int (Int32.ofNat q), .int (Int32.ofNat len)] below meth c Tl ([] ++ copyLocs d q i) 0 0 → Put d Bk s₁ Tl → Laid B Bk q (q + i) (fun j => Value.int (lo8 (cv A (o + (j - q))))) →
      Steps p.tables e below (s₁.setTop (entryFrame m #[.ref b, .int (Int32.ofNat o), .ref d, .int (Int32.ofNat q), .int (Int32.ofNat len)] 7)) (Tl.setTop (mkF m 3 #[.val (.ref b), .val (.int (Int32.ofNat (o + i))), .val (.ref d), .val (.int (Int32.ofNat (q + i))), .val (.int (Int32.ofNat len)), .val (.int (Int32.ofNat i)), z] [])) → ∃ (T' : State) (B' : Cell) (z' : Slot), Stand p l e { frames := 0, locals := 0, cells := 0, slots := 0 } s m #[.ref b, .int (Int32.ofNat o), .ref d, .int (Int32.ofNat q), .int (Int32.ofNat len)] below meth c T' ([] ++ copyLocs d q len) 0 0 ∧ Put d B' s₁ T' ∧ Laid B B' q (q + len) (fun j => Value.int (lo8 (cv A (o + (j - q))))) ∧
      Steps p.tables e below (s₁.setTop (entryFrame m #[.ref b, .int (Int32.ofNat o), .ref d, .int (Int32.ofNat q), .int (Int32.ofNat len)] 7)) (T'.setTop (mkF m 3 #[.val (.ref b), .val (.int (Int32.ofNat (o + len))), .val (.ref d), .val (.int (Int32.ofNat (q + len))), .val (.int (Int32.ofNat len)), .val (.int (Int32.ofNat len)), z'] [])) := by
    intro r
    induction r with
    | zero =>
      intro i hi z hz Tl Bk Xl pl fl cl
      have hil : i = len := by omega
      rw [hil] at Xl fl cl
      exact ⟨Tl, Bk, z, Xl, pl, fl, cl⟩
    | succ r ih =>
      intro i hi z hz Tl Bk Xl pl fl cl
      have all := X0.warmed.alike.symm.trans Xl.warmed.alike
      have hAl := hA0.keep all (pl.other hne hA0.1)
      have hBk := hB0.like all pl.1 fl.1 fl.2.1 fl.2.2.1
      have hlt : q + i < Bk.slots.size := by rw [fl.2.2.1]; omega
      have c3 : Steps p.tables e below (s₁.setTop (entryFrame m #[.ref b, .int (Int32.ofNat o), .ref d, .int (Int32.ofNat q), .int (Int32.ofNat len)] 7)) (Tl.setTop (mkF m 12 #[.val (.ref b), .val (.int (Int32.ofNat (o + i))), .val (.ref d), .val (.int (Int32.ofNat (q + i))), .val (.int (Int32.ofNat len)), .val (.int (Int32.ofNat i)), z] [.int (Int32.ofNat (o + i)), .ref b])) := cl.trans (by
        refine XS.iload Xl.here hexec rfl (hb hbytes d3) rfl ?_
        refine XS.iload Xl.here hexec rfl (hb hbytes d5) rfl ?_
        refine XS.icmpNo Xl.here hexec rfl (hb hbytes d7) rfl (ii_ge_f (lt32 (by omega) (by omega))) ?_
        refine XS.aloadN Xl.here hexec rfl (hb hbytes d10) rfl rfl ?_
        refine XS.iloadN Xl.here hexec rfl (hb hbytes d11) rfl ?_
        exact Steps.refl _)
      have c4 : Steps p.tables e below (s₁.setTop (entryFrame m #[.ref b, .int (Int32.ofNat o), .ref d, .int (Int32.ofNat q), .int (Int32.ofNat len)] 7)) (Tl.setTop (mkF m 13 #[.val (.ref b), .val (.int (Int32.ofNat (o + i))), .val (.ref d), .val (.int (Int32.ofNat (q + i))), .val (.int (Int32.ofNat len)), .val (.int (Int32.ofNat i)), z] [.int (cv A (o + i))])) := c3.trans (by
        refine Xl.aget hexec hAl rfl (hA.get (i := o + i) (by omega)) rfl rfl (hb hbytes d12) ?_
        exact Steps.refl _)
      have c5 : Steps p.tables e below (s₁.setTop (entryFrame m #[.ref b, .int (Int32.ofNat o), .ref d, .int (Int32.ofNat q), .int (Int32.ofNat len)] 7)) (Tl.setTop (mkF m 15 #[.val (.ref b), .val (.int (Int32.ofNat (o + i))), .val (.ref d), .val (.int (Int32.ofNat (q + i))), .val (.int (Int32.ofNat len)), .val (.int (Int32.ofNat i)), .val (.int (cv A (o + i)))] [])) := c4.trans (by
        refine XS.istoreS Xl.here hexec rfl (hb hbytes d13) rfl rfl hz ?_
        exact Steps.refl _)
      have c6 : Steps p.tables e below (s₁.setTop (entryFrame m #[.ref b, .int (Int32.ofNat o), .ref d, .int (Int32.ofNat q), .int (Int32.ofNat len)] 7)) (Tl.setTop (mkF m 31 #[.val (.ref b), .val (.int (Int32.ofNat (o + i))), .val (.ref d), .val (.int (Int32.ofNat (q + i))), .val (.int (Int32.ofNat len)), .val (.int (Int32.ofNat i)), .val (.int (cv A (o + i)))] [.int (lo8 (cv A (o + i))), .int (Int32.ofNat (q + i)), .ref d])) := c5.trans (by
        refine XS.iload Xl.here hexec rfl (hb hbytes d15) rfl ?_
        refine sipushV Xl.here hexec rfl 255 (hb hbytes d17) (by decide) ?_
        refine XS.icmpYes Xl.here hexec rfl (pc0 := 20) rfl (hb hbytes d20) rfl (ii_le_t (hp i (by omega))) (by decide) rfl ?_
        refine XS.aloadN Xl.here hexec rfl (hb hbytes d26) rfl rfl ?_
        refine XS.iloadN Xl.here hexec rfl (hb hbytes d27) rfl ?_
        refine XS.iload Xl.here hexec rfl (hb hbytes d28) rfl ?_
        refine i2b Xl.here hexec rfl (hb hbytes d30) rfl ?_
        exact Steps.refl _)
      obtain ⟨T7, X7, p7, st7⟩ := Xl.aput hexec hBk rfl hlt rfl (fits_lo8 (cv A (o + i))) (g := (mkF m 31 #[.val (.ref b), .val (.int (Int32.ofNat (o + i))), .val (.ref d), .val (.int (Int32.ofNat (q + i))), .val (.int (Int32.ofNat len)), .val (.int (Int32.ofNat i)), .val (.int (cv A (o + i)))] [.int (lo8 (cv A (o + i))), .int (Int32.ofNat (q + i)), .ref d])) rfl (rest := []) rfl (hb hbytes d31)
      have c8 : Steps p.tables e below (s₁.setTop (entryFrame m #[.ref b, .int (Int32.ofNat o), .ref d, .int (Int32.ofNat q), .int (Int32.ofNat len)] 7)) (T7.setTop (mkF m 32 #[.val (.ref b), .val (.int (Int32.ofNat (o + i))), .val (.ref d), .val (.int (Int32.ofNat (q + i))), .val (.int (Int32.ofNat len)), .val (.int (Int32.ofNat i)), .val (.int (cv A (o + i)))] [])) := c6.trans (st7 _ (Steps.refl _))
      have c9 : Steps p.tables e below (s₁.setTop (entryFrame m #[.ref b, .int (Int32.ofNat o), .ref d, .int (Int32.ofNat q), .int (Int32.ofNat len)] 7)) (T7.setTop (mkF m 3 #[.val (.ref b), .val (.int (Int32.ofNat (o + i) + 1)), .val (.ref d), .val (.int (Int32.ofNat (q + i) + 1)), .val (.int (Int32.ofNat len)), .val (.int (Int32.ofNat i + 1)), .val (.int (cv A (o + i)))] [])) := c8.trans (by
        refine iincV X7.here hexec rfl 1 (hb hbytes d32) (by decide) rfl rfl ?_
        refine iincV X7.here hexec rfl 1 (hb hbytes d35) (by decide) rfl rfl ?_
        refine iincV X7.here hexec rfl 1 (hb hbytes d38) (by decide) rfl rfl ?_
        refine XS.goto X7.here hexec rfl (pc0 := 41) rfl (hb hbytes d41) (by decide) rfl ?_
        exact Steps.refl _)
      have c10 : Steps p.tables e below (s₁.setTop (entryFrame m #[.ref b, .int (Int32.ofNat o), .ref d, .int (Int32.ofNat q), .int (Int32.ofNat len)] 7)) (T7.setTop (mkF m 3 #[.val (.ref b), .val (.int (Int32.ofNat (o + (i + 1)))), .val (.ref d), .val (.int (Int32.ofNat (q + (i + 1)))), .val (.int (Int32.ofNat len)), .val (.int (Int32.ofNat (i + 1))), .val (.int (cv A (o + i)))] [])) := by
        have := c9
        rw [succ32, succ32, succ32] at this
        exact this
      exact ih (i + 1) (by omega) _ (Or.inr ⟨_, rfl, rfl⟩) T7 _ (by rw [copyLocs_step, ← List.append_assoc]; exact X7) (pl.trans p7) (fl.step (by omega) hlt (by simp)) c10
  obtain ⟨T9, B9, z9, X9, p9, f9, g9⟩ := loop len 0 (by omega) .unset (Or.inl rfl) s₁ B (by simpa [copyLocs] using X0) ⟨hB0.1, fun _ _ => rfl, rfl⟩ (Laid.zero _ _ _) c2
  have c11 : Steps p.tables e below (s₁.setTop (entryFrame m #[.ref b, .int (Int32.ofNat o), .ref d, .int (Int32.ofNat q), .int (Int32.ofNat len)] 7)) (T9.setTop (mkF m 46 #[.val (.ref b), .val (.int (Int32.ofNat (o + len))), .val (.ref d), .val (.int (Int32.ofNat (q + len))), .val (.int (Int32.ofNat len)), .val (.int (Int32.ofNat len)), z9] [.int (Int32.ofNat len)])) := g9.trans (by
    refine XS.iload X9.here hexec rfl (hb hbytes d3) rfl ?_
    refine XS.iload X9.here hexec rfl (hb hbytes d5) rfl ?_
    refine XS.icmpYes X9.here hexec rfl (pc0 := 7) rfl (hb hbytes d7) rfl (ii_ge_t (nlt32 (by omega) (Nat.le_refl _))) (by decide) rfl ?_
    refine XS.iload X9.here hexec rfl (hb hbytes d44) rfl ?_
    exact Steps.refl _)
  exact ⟨T9, some (.int (Int32.ofNat len)), _, _, _, X9, by simp, rfl, rfl, (fun h => by cases h), ⟨rfl, B9, p9.from hh0, f9⟩, fun fs hl => c11.trans (X9.ireturnOut hexec hret rfl (Or.inl rfl) (hb hbytes d46) hl)⟩
end Cmp5
namespace Cmp3
def yN : MethodName := ⟨"java/lang/StringUTF16", "compress", "([CII)[B"⟩
abbrev yB : ByteArray := jdk_52_method_16_code
theorem d0 : decode yB 0 = .ok (.iload_n 2, 1) := by decide +kernel
theorem d1 : decode yB 1 = .ok (.newarray .byte, 2) := by decide +kernel
theorem d3 : decode yB 3 = .ok (.astore_n 3, 1) := by decide +kernel
theorem d4 : decode yB 4 = .ok (.aload_n 0, 1) := by decide +kernel
theorem d5 : decode yB 5 = .ok (.iload_n 1, 1) := by decide +kernel
theorem d6 : decode yB 6 = .ok (.aload_n 3, 1) := by decide +kernel
theorem d7 : decode yB 7 = .ok (.iconst 0, 1) := by decide +kernel
theorem d8 : decode yB 8 = .ok (.iload_n 2, 1) := by decide +kernel
theorem d9 : decode yB 9 = .ok (.invokestatic 115, 3) := by decide +kernel
theorem d12 : decode yB 12 = .ok (.istore 4, 2) := by decide +kernel
theorem d14 : decode yB 14 = .ok (.iload 4, 2) := by decide +kernel
theorem d16 : decode yB 16 = .ok (.iload_n 2, 1) := by decide +kernel
theorem d17 : decode yB 17 = .ok (.if_icmp (.eq) 40, 3) := by decide +kernel
theorem d57 : decode yB 57 = .ok (.aload_n 3, 1) := by decide +kernel
theorem d58 : decode yB 58 = .ok (.areturn, 1) := by decide +kernel
def site : List Cond := [.arrayClass .byte, Cmp5.tab] ++ staticW U16 115 Cmp5.yN
def tab : Cond := tabOf yN yB 6 (some (.array .byte)) site
def P (b : Addr) (A : Cell) (o len : Nat) (args : Array Value) (s : State) : Prop := args = #[.ref b, .int (Int32.ofNat o), .int (Int32.ofNat len)] ∧ Ch b A s ∧ o + len ≤ A.slots.size ∧ len ≤ 536870912 ∧ ∀ i, i < len → ¬ 255 < cv A (o + i)
def E (b : Addr) (A : Cell) (o len : Nat) (r : Option Value) (s u : State) : Prop := NewArr .byte "[B" len (fun j => .int (lo8 (cv A (o + j)))) r s u ∧ u.heap.size = s.heap.size + 1
/-- no char of the range above 255: a new byte[] of their low bytes -/
theorem law (l : Launch) (b : Addr) (A : Cell) (o len : Nat) : Law l yN 3 3 1 18 yB 6 (some (.array .byte)) site (P b A o len) (E b A o len) [] 1 len := by
  refine Law.of_walk (plainFor_of_name (by decide +kernel)) (by decide +kernel) (by decide +kernel) (by decide) (fun _ _ h => by rw [h.1]; rfl) (fun _ U U' hal hh h => ⟨h.1, h.2.1.mv hal hh, h.2.2⟩) (fun r U U' V V' h1 hal h2 h => ⟨NewArr.mv r U U' V V' h1 hal h2 h.1, by rw [h1, h2]; exact h.2⟩) ?_
  intro p e s m args below meth c s₁ X0 hexec hbytes hml hret hlk hnm hown hh0 W hP
  obtain ⟨rfl, hA, l1, l2, hp⟩ := hP
  have a31 := hA.1.2.2.2
  have c1 : Steps p.tables e below (s₁.setTop (entryFrame m #[.ref b, .int (Int32.ofNat o), .int (Int32.ofNat len)] 6)) (s₁.setTop (mkF m 0 #[.val (.ref b), .val (.int (Int32.ofNat o)), .val (.int (Int32.ofNat len)), .unset, .unset, .unset] [])) := entry rfl
  have c2 : Steps p.tables e below (s₁.setTop (entryFrame m #[.ref b, .int (Int32.ofNat o), .int (Int32.ofNat len)] 6)) (s₁.setTop (mkF m 1 #[.val (.ref b), .val (.int (Int32.ofNat o)), .val (.int (Int32.ofNat len)), .unset, .unset, .unset] [.int (Int32.ofNat len)])) := c1.trans (by
    refine XS.iloadN X0.here hexec rfl (hb hbytes d0) rfl ?_
    exact Steps.refl _)
  obtain ⟨T3, B3, X3, ba3, bs3, bv3, bh3, bf3, st3⟩ := X0.anew hexec (atype := .byte) (wk W (.arrayClass .byte)) rfl (by show len * 1 ≤ _; omega) (by omega) (g := (mkF m 1 #[.val (.ref b), .val (.int (Int32.ofNat o)), .val (.int (Int32.ofNat len)), .unset, .unset, .unset] [.int (Int32.ofNat len)])) rfl (hb hbytes d1) (rest := []) rfl (Nat.le_refl _) (by show 0 + len ≤ len; omega)
  rw [hh0] at ba3 st3
  have kp3 : XT.Kept s T3 := (XT.Kept.of_eq hh0).push bh3
  have hA3 := hA.keep X3.warmed.alike (kp3 _ _ hA.1.1)
  have hne : b ≠ s.heap.size := hA.1.ne
  have c4 : Steps p.tables e below (s₁.setTop (entryFrame m #[.ref b, .int (Int32.ofNat o), .int (Int32.ofNat len)] 6)) (T3.setTop (mkF m 3 #[.val (.ref b), .val (.int (Int32.ofNat o)), .val (.int (Int32.ofNat len)), .unset, .unset, .unset] [.ref s.heap.size])) := c2.trans (st3 _ (Steps.refl _))
  have c5 : Steps p.tables e below (s₁.setTop (entryFrame m #[.ref b, .int (Int32.ofNat o), .int (Int32.ofNat len)] 6)) (T3.setTop (mkF m 9 #[.val (.ref b), .val (.int (Int32.ofNat o)), .val (.int (Int32.ofNat len)), .val (.ref s.heap.size), .unset, .unset] [.int (Int32.ofNat len), .int 0, .ref s.heap.size, .int (Int32.ofNat o), .ref b])) := c4.trans (by
    refine XS.astoreN X3.here hexec rfl (hb hbytes d3) rfl rfl rfl ?_
    refine XS.aloadN X3.here hexec rfl (hb hbytes d4) rfl rfl ?_
    refine XS.iloadN X3.here hexec rfl (hb hbytes d5) rfl ?_
    refine XS.aloadN X3.here hexec rfl (hb hbytes d6) rfl rfl ?_
    refine iconstV X3.here hexec rfl 0 (hb hbytes d7) (by decide) ?_
    refine XS.iloadN X3.here hexec rfl (hb hbytes d8) rfl ?_
    exact Steps.refl _)
  obtain ⟨v6, T6, X6, E6, g6⟩ := X3.callS hexec (Cmp5.law l b A s.heap.size B3 o 0 len) hown (wks W (staticW U16 115 Cmp5.yN)) (wk W Cmp5.tab) (W := 0) (Nat.le_of_ble_eq_true rfl) (Nat.le_of_ble_eq_true rfl) (Nat.le_refl _) (by show 0 + len + 0 ≤ len; omega) (g := (mkF m 9 #[.val (.ref b), .val (.int (Int32.ofNat o)), .val (.int (Int32.ofNat len)), .val (.ref s.heap.size), .unset, .unset] [.int (Int32.ofNat len), .int (Int32.ofNat 0), .ref s.heap.size, .int (Int32.ofNat o), .ref b])) rfl (by rw [hml]; rfl) c5 (argsL := [.ref b, .int (Int32.ofNat o), .ref s.heap.size, .int (Int32.ofNat 0), .int (Int32.ofNat len)]) (rest := []) rfl rfl (by show 2 * 0 + 0 ≤ _; decide) (hb hbytes d9) (⟨rfl, hA3, ba3, hne, l1, by rw [bs3]; simp, hp⟩)
  obtain ⟨rfl, B6, p6, f6⟩ := E6
  have c7 : Steps p.tables e below (s₁.setTop (entryFrame m #[.ref b, .int (Int32.ofNat o), .int (Int32.ofNat len)] 6)) (T6.setTop (mkF m 12 #[.val (.ref b), .val (.int (Int32.ofNat o)), .val (.int (Int32.ofNat len)), .val (.ref s.heap.size), .unset, .unset] [.int (Int32.ofNat len)])) := g6
  have c8 : Steps p.tables e below (s₁.setTop (entryFrame m #[.ref b, .int (Int32.ofNat o), .int (Int32.ofNat len)] 6)) (T6.setTop (mkF m 58 #[.val (.ref b), .val (.int (Int32.ofNat o)), .val (.int (Int32.ofNat len)), .val (.ref s.heap.size), .val (.int (Int32.ofNat len)), .unset] [.ref s.heap.size])) := c7.trans (by
    refine XS.istore X6.here hexec rfl (hb hbytes d12) rfl rfl ?_
    refine XS.iload X6.here hexec rfl (hb hbytes d14) rfl ?_
    refine XS.iloadN X6.here hexec rfl (hb hbytes d16) rfl ?_
    refine XS.icmpYes X6.here hexec rfl (pc0 := 17) rfl (hb hbytes d17) rfl (ii_eq_t rfl) (by decide) rfl ?_
    refine XS.aloadN X6.here hexec rfl (hb hbytes d57) rfl rfl ?_
    exact Steps.refl _)
  have X8 := X6.wide (L' := []) (cells' := 1) (slots' := len) (fun x hx hlt => by
    simp only [List.nil_append, copyLocs, List.mem_map, List.mem_range] at hx
    obtain ⟨i, -, rfl⟩ := hx
    exact absurd hlt (Nat.lt_irrefl _)) (Nat.le_refl _) (by omega)
  exact ⟨T6, some (.ref s.heap.size), _, _, _, X8, rfl, rfl, rfl, (fun h => by cases h), ⟨⟨rfl, B6, ba3.like (X3.warmed.alike.symm.trans X6.warmed.alike) p6.1 f6.1 f6.2.1 f6.2.2.1, f6.2.1.trans bv3, by rw [X6.warmed.alike.findClass, f6.1]; exact bf3, by rw [f6.2.2.1, bs3]; simp, fun j hj => by rw [f6.2.2.2 j, if_pos (by omega)]; rfl, kp3.put p6 (Nat.le_refl _)⟩, by rw [p6.2.2, bh3, hh0]; simp⟩, fun fs hl => c8.trans (X8.areturnOut hexec rfl hret rfl (hb hbytes d58) hl)⟩
end Cmp3
namespace CodL
def yN : MethodName := ⟨"java/lang/StringUTF16", "coderFromArrayLen", "([BI)B"⟩
abbrev yB : ByteArray := jdk_52_method_15_code
theorem d0 : decode yB 0 = .ok (.iload_n 1, 1) := by decide +kernel
theorem d1 : decode yB 1 = .ok (.aload_n 0, 1) := by decide +kernel
theorem d2 : decode yB 2 = .ok (.arraylength, 1) := by decide +kernel
theorem d3 : decode yB 3 = .ok (.isub, 1) := by decide +kernel
theorem d4 : decode yB 4 = .ok (.bipush 31, 2) := by decide +kernel
theorem d6 : decode yB 6 = .ok (.iushr, 1) := by decide +kernel
theorem d7 : decode yB 7 = .ok (.i2b, 1) := by decide +kernel
theorem d8 : decode yB 8 = .ok (.ireturn, 1) := by decide +kernel
def site : List Cond := []
def tab : Cond := tabOf yN yB 2 (some .byte) site
def P (d : Addr) (B : Cell) (args : Array Value) (s : State) : Prop := args = #[.ref d, .int (Int32.ofNat B.slots.size)] ∧ Arr .byte d B s
def E (r : Option Value) (s u : State) : Prop := XT.PureE (some (.int 0)) r s u
/-- an array as long as the number of chars: LATIN1 -/
theorem law (l : Launch) (d : Addr) (B : Cell) : Law l yN 2 2 0 0 yB 2 (some .byte) site (P d B) E [] 0 0 := by
  refine Law.of_walk (plainFor_of_name (by decide +kernel)) (by decide +kernel) (by decide +kernel) (by decide) (fun _ _ h => by rw [h.1]; rfl) (fun _ U U' hal hh h => ⟨h.1, h.2.mv hal hh⟩) (fun r U U' V V' h1 hal h2 h => XT.PureE.mv r U U' V V' h1 hal h2 h) ?_
  intro p e s m args below meth c s₁ X0 hexec hbytes hml hret hlk hnm hown hh0 W hP
  obtain ⟨rfl, hB⟩ := hP
  have hB0 := hB.mv X0.warmed.alike hh0
  have c1 : Steps p.tables e below (s₁.setTop (entryFrame m #[.ref d, .int (Int32.ofNat B.slots.size)] 2)) (s₁.setTop (mkF m 0 #[.val (.ref d), .val (.int (Int32.ofNat B.slots.size))] [])) := entry rfl
  have c2 : Steps p.tables e below (s₁.setTop (entryFrame m #[.ref d, .int (Int32.ofNat B.slots.size)] 2)) (s₁.setTop (mkF m 2 #[.val (.ref d), .val (.int (Int32.ofNat B.slots.size))] [.ref d, .int (Int32.ofNat B.slots.size)])) := c1.trans (by
    refine XS.iloadN X0.here hexec rfl (hb hbytes d0) rfl ?_
    refine XS.aloadN X0.here hexec rfl (hb hbytes d1) rfl rfl ?_
    exact Steps.refl _)
  have c3 : Steps p.tables e below (s₁.setTop (entryFrame m #[.ref d, .int (Int32.ofNat B.slots.size)] 2)) (s₁.setTop (mkF m 8 #[.val (.ref d), .val (.int (Int32.ofNat B.slots.size))] [.int (lo8 (ushr (Int32.ofNat B.slots.size - Int32.ofNat B.slots.size) 31))])) := c2.trans (by
    refine X0.alen hexec hB0 rfl rfl (hb hbytes d2) ?_
    refine XS.isub X0.here hexec rfl (hb hbytes d3) rfl ?_
    refine bipushV X0.here hexec rfl 31 (hb hbytes d4) (by decide) ?_
    refine iushr X0.here hexec rfl (hb hbytes d6) rfl ?_
    refine i2b X0.here hexec rfl (hb hbytes d7) rfl ?_
    exact Steps.refl _)
  have e0 : lo8 (ushr (Int32.ofNat B.slots.size - Int32.ofNat B.slots.size) 31) = 0 := by rw [Int32.sub_self]; decide
  rw [e0] at c3
  exact ⟨s₁, some (.int 0), _, _, _, X0, rfl, rfl, rfl, (fun h => by cases h), ⟨rfl, hh0⟩, fun fs hl => c3.trans (X0.ireturnOut hexec hret rfl (Or.inr (Or.inr (Or.inl rfl))) (hb hbytes d8) hl)⟩
end CodL
/-- the String at a is Latin-1 over a new byte[] (the heap's one new cell): the low bytes of the len chars of A from o on; every cell but a is kept -/
def Got (a : Addr) (D : Cell) (fV fC : Field) (A : Cell) (o len : Nat) (r : Option Value) (s u : State) : Prop := r = none ∧ ∃ D' V : Cell, Blank "java/lang/String" a D' u ∧ Same D D' [fV.slot, fC.slot] ∧ D'.slots[fV.slot]? = some (.ref s.heap.size) ∧ D'.slots[fC.slot]? = some (.int 0) ∧ Arr .byte s.heap.size V u ∧ V.vm = .none ∧ u.vm.findClass "[B" = some V.cls ∧ V.slots.size = len ∧ (∀ j, j < len → V.slots[j]? = some (.int (lo8 (cv A (o + j))))) ∧ (∀ (y : Addr) (c : Cell), y ≠ a → s.heap[y]? = some c → u.heap[y]? = some c) ∧ u.heap.size = s.heap.size + 1
theorem Got.mv {a : Addr} {D A : Cell} {fV fC : Field} {o len : Nat} : ∀ r (U U' V V' : State), U'.heap = U.heap → V.vm.Alike V'.vm → V'.heap = V.heap → Got a D fV fC A o len r U V → Got a D fV fC A o len r U' V' :=
  fun r U U' V V' h1 hal h2 ⟨e0, D', X, a1, a2, a3, a4, a5, a6, a7, a8, a9, a10, a11⟩ => ⟨e0, D', X, a1.mv hal h2, a2, by rw [h1]; exact a3, a4, by rw [h1]; exact a5.mv hal h2, a6, by rw [hal.findClass]; exact a7, a8, a9, by rw [h1, h2]; exact a10, by rw [h1, h2]; exact a11⟩
namespace New4
def yN : MethodName := ⟨"java/lang/String", "<init>", "([CIILjava/lang/Void;)V"⟩
abbrev yB : ByteArray := jdk_42_method_149_code
theorem d0 : decode yB 0 = .ok (.aload_n 0, 1) := by decide +kernel
theorem d1 : decode yB 1 = .ok (.invokespecial 1, 3) := by decide +kernel
theorem d4 : decode yB 4 = .ok (.iload_n 3, 1) := by decide +kernel
theorem d5 : decode yB 5 = .ok (.ifCond (.ne) 22, 3) := by decide +kernel
theorem d27 : decode yB 27 = .ok (.getstatic 38, 3) := by decide +kernel
theorem d30 : decode yB 30 = .ok (.ifCond (.eq) 28, 3) := by decide +kernel
theorem d33 : decode yB 33 = .ok (.aload_n 1, 1) := by decide +kernel
theorem d34 : decode yB 34 = .ok (.iload_n 2, 1) := by decide +kernel
theorem d35 : decode yB 35 = .ok (.iload_n 3, 1) := by decide +kernel
theorem d36 : decode yB 36 = .ok (.invokestatic 177, 3) := by decide +kernel
theorem d39 : decode yB 39 = .ok (.astore 5, 2) := by decide +kernel
theorem d41 : decode yB 41 = .ok (.aload_n 0, 1) := by decide +kernel
theorem d42 : decode yB 42 = .ok (.aload 5, 2) := by decide +kernel
theorem d44 : decode yB 44 = .ok (.iload_n 3, 1) := by decide +kernel
theorem d45 : decode yB 45 = .ok (.invokestatic 47, 3) := by decide +kernel
theorem d48 : decode yB 48 = .ok (.putfield 15, 3) := by decide +kernel
theorem d51 : decode yB 51 = .ok (.aload_n 0, 1) := by decide +kernel
theorem d52 : decode yB 52 = .ok (.aload 5, 2) := by decide +kernel
theorem d54 : decode yB 54 = .ok (.putfield 9, 3) := by decide +kernel
theorem d57 : decode yB 57 = .ok (.return_, 1) := by decide +kernel
def site : List Cond := [.fieldLink "java/lang/String" 38 "java/lang/String" "COMPACT_STRINGS" "Z", Cmp3.tab, CodL.tab, .laysFinal "java/lang/String" "java/lang/String" "value" "[B", .fieldLink "java/lang/String" 9 "java/lang/String" "value" "[B", .laysFinal "java/lang/String" "java/lang/String" "coder" "B", .fieldLink "java/lang/String" 15 "java/lang/String" "coder" "B"] ++ objW "java/lang/String" 1 ++ staticW "java/lang/String" 177 Cmp3.yN ++ staticW "java/lang/String" 47 CodL.yN
def tab : Cond := tabOf yN yB 6 none site
def P (a : Addr) (D : Cell) (fV fC : Field) (b : Addr) (A : Cell) (z : Int32) (o len : Nat) (args : Array Value) (s : State) : Prop := args = #[.ref a, .ref b, .int (Int32.ofNat o), .int (Int32.ofNat len), .null] ∧ Blank "java/lang/String" a D s ∧ Found "java/lang/String" "value" "[B" fV s ∧ Found "java/lang/String" "coder" "B" fC s ∧ Ch b A s ∧ StaticIs s "java/lang/String" "COMPACT_STRINGS" "Z" (.int z) ∧ ¬ z = 0 ∧ 0 < len ∧ o + len ≤ A.slots.size ∧ len ≤ 536870912 ∧ ∀ i, i < len → ¬ 255 < cv A (o + i)
def E (a : Addr) (D : Cell) (fV fC : Field) (A : Cell) (o len : Nat) (r : Option Value) (s u : State) : Prop := Got a D fV fC A o len r s u
/-- len > 0, no char of the range above 255: a Latin-1 String of their low bytes -/
theorem law (l : Launch) (a : Addr) (D : Cell) (fV fC : Field) (b : Addr) (A : Cell) (z : Int32) (o len : Nat) : Law l yN 5 4 2 35 yB 6 none site (P a D fV fC b A z o len) (E a D fV fC A o len) [⟨a, fC.slot⟩, ⟨a, fV.slot⟩] 1 len := by
  refine Law.of_walk (plainFor_of_name (by decide +kernel)) (by decide +kernel) (by decide +kernel) (by decide) (fun _ _ h => by rw [h.1]; rfl) (fun _ U U' hal hh h => ⟨h.1, h.2.1.mv hal hh, h.2.2.1.al hal, h.2.2.2.1.al hal, h.2.2.2.2.1.mv hal hh, h.2.2.2.2.2.1.there hal hh, h.2.2.2.2.2.2⟩) (fun r U U' V V' h1 hal h2 h => Got.mv r U U' V V' h1 hal h2 h) ?_
  intro p e s m args below meth c s₁ X0 hexec hbytes hml hret hlk hnm hown hh0 W hP
  obtain ⟨rfl, hB, f1, f2, hA, s1, hz, l0, l1, l2, hp⟩ := hP
  have a31 := hA.1.2.2.2
  have c1 : Steps p.tables e below (s₁.setTop (entryFrame m #[.ref a, .ref b, .int (Int32.ofNat o), .int (Int32.ofNat len), .null] 6)) (s₁.setTop (mkF m 0 #[.val (.ref a), .val (.ref b), .val (.int (Int32.ofNat o)), .val (.int (Int32.ofNat len)), .val .null, .unset] [])) := entry rfl
  have c2 : Steps p.tables e below (s₁.setTop (entryFrame m #[.ref a, .ref b, .int (Int32.ofNat o), .int (Int32.ofNat len), .null] 6)) (s₁.setTop (mkF m 1 #[.val (.ref a), .val (.ref b), .val (.int (Int32.ofNat o)), .val (.int (Int32.ofNat len)), .val .null, .unset] [.ref a])) := c1.trans (by
    refine XS.aloadN X0.here hexec rfl (hb hbytes d0) rfl rfl ?_
    exact Steps.refl _)
  obtain ⟨T3, X3, q3, st3⟩ := X0.oinit hexec hown (wks W (objW "java/lang/String" 1)) (g := (mkF m 1 #[.val (.ref a), .val (.ref b), .val (.int (Int32.ofNat o)), .val (.int (Int32.ofNat len)), .val .null, .unset] [.ref a])) rfl (by rw [hml]; rfl) (rest := []) rfl (hb hbytes d1) (W := 0) (by show 2 * 0 + 0 ≤ _; decide) (Nat.le_of_ble_eq_true rfl) (Nat.le_of_ble_eq_true rfl)
  have hh3 := q3.trans hh0
  have c4 : Steps p.tables e below (s₁.setTop (entryFrame m #[.ref a, .ref b, .int (Int32.ofNat o), .int (Int32.ofNat len), .null] 6)) (T3.setTop (mkF m 27 #[.val (.ref a), .val (.ref b), .val (.int (Int32.ofNat o)), .val (.int (Int32.ofNat len)), .val .null, .unset] [])) := (c2.trans (st3 _ (Steps.refl _))).trans (by
    refine XS.iloadN X3.here hexec rfl (hb hbytes d4) rfl ?_
    refine XS.ifYes X3.here hexec rfl (pc0 := 5) rfl (hb hbytes d5) rfl (i0_ne_t (nz32 (by omega) l0)) (by decide) rfl ?_
    exact Steps.refl _)
  obtain ⟨T5, X5, q5, st5⟩ := X3.sget hexec hown (wk W (.fieldLink "java/lang/String" 38 "java/lang/String" "COMPACT_STRINGS" "Z")) s1 (fun _ _ h => by rw [hh3]; exact h) (g := (mkF m 27 #[.val (.ref a), .val (.ref b), .val (.int (Int32.ofNat o)), .val (.int (Int32.ofNat len)), .val .null, .unset] [])) rfl (hb hbytes d27)
  have hh5 := q5.trans hh3
  have c6 : Steps p.tables e below (s₁.setTop (entryFrame m #[.ref a, .ref b, .int (Int32.ofNat o), .int (Int32.ofNat len), .null] 6)) (T5.setTop (mkF m 30 #[.val (.ref a), .val (.ref b), .val (.int (Int32.ofNat o)), .val (.int (Int32.ofNat len)), .val .null, .unset] [.int z])) := c4.trans (st5 _ (Steps.refl _))
  have c7 : Steps p.tables e below (s₁.setTop (entryFrame m #[.ref a, .ref b, .int (Int32.ofNat o), .int (Int32.ofNat len), .null] 6)) (T5.setTop (mkF m 36 #[.val (.ref a), .val (.ref b), .val (.int (Int32.ofNat o)), .val (.int (Int32.ofNat len)), .val .null, .unset] [.int (Int32.ofNat len), .int (Int32.ofNat o), .ref b])) := c6.trans (by
    refine XS.ifNo X5.here hexec rfl (hb hbytes d30) rfl (i0_eq_f hz) ?_
    refine XS.aloadN X5.here hexec rfl (hb hbytes d33) rfl rfl ?_
    refine XS.iloadN X5.here hexec rfl (hb hbytes d34) rfl ?_
    refine XS.iloadN X5.here hexec rfl (hb hbytes d35) rfl ?_
    exact Steps.refl _)
  obtain ⟨v8, T8, X8, E8, g8⟩ := X5.callS hexec (Cmp3.law l b A o len) hown (wks W (staticW "java/lang/String" 177 Cmp3.yN)) (wk W Cmp3.tab) (W := 0) (Nat.le_of_ble_eq_true rfl) (Nat.le_of_ble_eq_true rfl) (Nat.le_refl _) (by show 0 + len ≤ len; omega) (g := (mkF m 36 #[.val (.ref a), .val (.ref b), .val (.int (Int32.ofNat o)), .val (.int (Int32.ofNat len)), .val .null, .unset] [.int (Int32.ofNat len), .int (Int32.ofNat o), .ref b])) rfl (by rw [hml]; rfl) c7 (argsL := [.ref b, .int (Int32.ofNat o), .int (Int32.ofNat len)]) (rest := []) rfl rfl (by show 2 * 0 + 0 ≤ _; decide) (hb hbytes d36) (⟨rfl, hA.mv X5.warmed.alike hh5, l1, l2, hp⟩)
  obtain ⟨e8, z8⟩ := E8
  obtain ⟨rfl, N, n1, n2, n3, n4, n5, n6⟩ := NewArr.mv _ T5 s _ _ hh5.symm (Vm.Alike.refl _) rfl e8
  rw [hh5] at z8
  have hB1 := hB.keep X8.warmed.alike (n6 _ _ hB.1)
  have hne : s.heap.size ≠ a := (Nat.ne_of_lt (Array.getElem?_eq_some_iff.mp hB.1).1).symm
  have c9 : Steps p.tables e below (s₁.setTop (entryFrame m #[.ref a, .ref b, .int (Int32.ofNat o), .int (Int32.ofNat len), .null] 6)) (T8.setTop (mkF m 39 #[.val (.ref a), .val (.ref b), .val (.int (Int32.ofNat o)), .val (.int (Int32.ofNat len)), .val .null, .unset] [.ref s.heap.size])) := g8
  have c10 : Steps p.tables e below (s₁.setTop (entryFrame m #[.ref a, .ref b, .int (Int32.ofNat o), .int (Int32.ofNat len), .null] 6)) (T8.setTop (mkF m 45 #[.val (.ref a), .val (.ref b), .val (.int (Int32.ofNat o)), .val (.int (Int32.ofNat len)), .val .null, .val (.ref s.heap.size)] [.int (Int32.ofNat N.slots.size), .ref s.heap.size, .ref a])) := by
    have hc : Steps p.tables e below (s₁.setTop (entryFrame m #[.ref a, .ref b, .int (Int32.ofNat o), .int (Int32.ofNat len), .null] 6)) (T8.setTop (mkF m 45 #[.val (.ref a), .val (.ref b), .val (.int (Int32.ofNat o)), .val (.int (Int32.ofNat len)), .val .null, .val (.ref s.heap.size)] [.int (Int32.ofNat len), .ref s.heap.size, .ref a])) := c9.trans (by
      refine XS.astore X8.here hexec rfl (hb hbytes d39) rfl rfl rfl ?_
      refine XS.aloadN X8.here hexec rfl (hb hbytes d41) rfl rfl ?_
      refine XS.aload X8.here hexec rfl (hb hbytes d42) rfl rfl ?_
      refine XS.iloadN X8.here hexec rfl (hb hbytes d44) rfl ?_
      exact Steps.refl _)
    rw [n4]; exact hc
  obtain ⟨v11, T11, X11, E11, g11⟩ := X8.callS hexec (CodL.law l s.heap.size N) hown (wks W (staticW "java/lang/String" 47 CodL.yN)) (wk W CodL.tab) (W := 1) (Nat.le_of_ble_eq_true rfl) (Nat.le_of_ble_eq_true rfl) (Nat.le_refl _) (by show 0 + len + 0 ≤ len; omega) (g := (mkF m 45 #[.val (.ref a), .val (.ref b), .val (.int (Int32.ofNat o)), .val (.int (Int32.ofNat len)), .val .null, .val (.ref s.heap.size)] [.int (Int32.ofNat N.slots.size), .ref s.heap.size, .ref a])) rfl (by rw [hml]; rfl) c10 (argsL := [.ref s.heap.size, .int (Int32.ofNat N.slots.size)]) (rest := [.ref a]) rfl rfl (by show 2 * 0 + (1 + 0) ≤ _; decide) (hb hbytes d45) (⟨rfl, n1⟩)
  obtain ⟨rfl, q11⟩ := E11
  have hB11 := hB1.mv (X8.warmed.alike.symm.trans X11.warmed.alike) q11
  have c12 : Steps p.tables e below (s₁.setTop (entryFrame m #[.ref a, .ref b, .int (Int32.ofNat o), .int (Int32.ofNat len), .null] 6)) (T11.setTop (mkF m 48 #[.val (.ref a), .val (.ref b), .val (.int (Int32.ofNat o)), .val (.int (Int32.ofNat len)), .val .null, .val (.ref s.heap.size)] [.int 0, .ref a])) := g11
  obtain ⟨T13, X13, p13, bl13, sl13, st13⟩ := X11.finit hexec hown (wk W (.fieldLink "java/lang/String" 15 "java/lang/String" "coder" "B")) (Or.inr ⟨_, (wk W (.laysFinal "java/lang/String" "java/lang/String" "coder" "B"))⟩) (Or.inl ⟨rfl, hnm⟩) f2 (Or.inl rfl) hB11 (t := .byte) (by decide +kernel) rfl (g := (mkF m 48 #[.val (.ref a), .val (.ref b), .val (.int (Int32.ofNat o)), .val (.int (Int32.ofNat len)), .val .null, .val (.ref s.heap.size)] [.int 0, .ref a])) rfl (rest := []) rfl (hb hbytes d48)
  have c14 : Steps p.tables e below (s₁.setTop (entryFrame m #[.ref a, .ref b, .int (Int32.ofNat o), .int (Int32.ofNat len), .null] 6)) (T13.setTop (mkF m 54 #[.val (.ref a), .val (.ref b), .val (.int (Int32.ofNat o)), .val (.int (Int32.ofNat len)), .val .null, .val (.ref s.heap.size)] [.ref s.heap.size, .ref a])) := (c12.trans (st13 _ (Steps.refl _))).trans (by
    refine XS.aloadN X13.here hexec rfl (hb hbytes d51) rfl rfl ?_
    refine XS.aload X13.here hexec rfl (hb hbytes d52) rfl rfl ?_
    exact Steps.refl _)
  obtain ⟨T15, X15, p15, bl15, sl15, st15⟩ := X13.finit hexec hown (wk W (.fieldLink "java/lang/String" 9 "java/lang/String" "value" "[B")) (Or.inr ⟨_, (wk W (.laysFinal "java/lang/String" "java/lang/String" "value" "[B"))⟩) (Or.inl ⟨rfl, hnm⟩) f1 (Or.inl rfl) bl13 (t := (.array .byte)) (by decide +kernel) rfl (g := (mkF m 54 #[.val (.ref a), .val (.ref b), .val (.int (Int32.ofNat o)), .val (.int (Int32.ofNat len)), .val .null, .val (.ref s.heap.size)] [.ref s.heap.size, .ref a])) rfl (rest := []) rfl (hb hbytes d54)
  have c16 : Steps p.tables e below (s₁.setTop (entryFrame m #[.ref a, .ref b, .int (Int32.ofNat o), .int (Int32.ofNat len), .null] 6)) (T15.setTop (mkF m 57 #[.val (.ref a), .val (.ref b), .val (.int (Int32.ofNat o)), .val (.int (Int32.ofNat len)), .val .null, .val (.ref s.heap.size)] [])) := c14.trans (st15 _ (Steps.refl _))
  have ap := apart (Or.inr ⟨_, (wk W (.laysFinal "java/lang/String" "java/lang/String" "value" "[B"))⟩) (Or.inr ⟨_, (wk W (.laysFinal "java/lang/String" "java/lang/String" "coder" "B"))⟩) f1 f2 (t₁ := .array .byte) (t₂ := .byte) (by decide +kernel) (by decide +kernel) (by decide)
  have al := X8.warmed.alike.symm.trans X15.warmed.alike
  have n7 : T11.heap[s.heap.size]? = some N := by rw [q11]; exact n1.1
  exact ⟨T15, none, _, _, _, X15, by simp, rfl, by omega, (fun _ => rfl), ⟨rfl, _, N, bl15, ((Same.refl D _).set _ (by simp)).set _ (by simp), sl15, (Cell.slots_setSlot_ne _ ap).trans sl13, n1.keep al (p15.other hne (p13.other hne n7)), n2, by rw [al.findClass]; exact n3, n4, n5, fun y c h1 h2 => p15.other h1 (p13.other h1 (by rw [q11]; exact n6 y c h2)), by rw [p15.2.2, p13.2.2, q11]; exact z8⟩, fun fs hl => c16.trans (X15.returnOut hexec hret (hb hbytes d57) hl)⟩
end New4
namespace New1
def yN : MethodName := ⟨"java/lang/String", "<init>", "([C)V"⟩
abbrev yB : ByteArray := jdk_42_method_3_code
theorem d0 : decode yB 0 = .ok (.aload_n 0, 1) := by decide +kernel
theorem d1 : decode yB 1 = .ok (.aload_n 1, 1) := by decide +kernel
theorem d2 : decode yB 2 = .ok (.iconst 0, 1) := by decide +kernel
theorem d3 : decode yB 3 = .ok (.aload_n 1, 1) := by decide +kernel
theorem d4 : decode yB 4 = .ok (.arraylength, 1) := by decide +kernel
theorem d5 : decode yB 5 = .ok (.aconst_null, 1) := by decide +kernel
theorem d6 : decode yB 6 = .ok (.invokespecial 27, 3) := by decide +kernel
theorem d9 : decode yB 9 = .ok (.return_, 1) := by decide +kernel
def site : List Cond := [New4.tab] ++ initW "java/lang/String" 27 New4.yN
def tab : Cond := tabOf yN yB 2 none site
def P (a : Addr) (D : Cell) (fV fC : Field) (b : Addr) (A : Cell) (z : Int32) (args : Array Value) (s : State) : Prop := args = #[.ref a, .ref b] ∧ Blank "java/lang/String" a D s ∧ Found "java/lang/String" "value" "[B" fV s ∧ Found "java/lang/String" "coder" "B" fC s ∧ Ch b A s ∧ StaticIs s "java/lang/String" "COMPACT_STRINGS" "Z" (.int z) ∧ ¬ z = 0 ∧ 0 < A.slots.size ∧ A.slots.size ≤ 536870912 ∧ ∀ i, i < A.slots.size → ¬ 255 < cv A i
def E (a : Addr) (D : Cell) (fV fC : Field) (A : Cell) (r : Option Value) (s u : State) : Prop := Got a D fV fC A 0 A.slots.size r s u
/-- new String(chars), not empty, no char above 255: a Latin-1 String of their low bytes -/
theorem law (l : Launch) (a : Addr) (D : Cell) (fV fC : Field) (b : Addr) (A : Cell) (z : Int32) : Law l yN 2 1 3 52 yB 2 none site (P a D fV fC b A z) (E a D fV fC A) [⟨a, fC.slot⟩, ⟨a, fV.slot⟩] 1 A.slots.size := by
  refine Law.of_walk (plainFor_of_name (by decide +kernel)) (by decide +kernel) (by decide +kernel) (by decide) (fun _ _ h => by rw [h.1]; rfl) (fun _ U U' hal hh h => ⟨h.1, h.2.1.mv hal hh, h.2.2.1.al hal, h.2.2.2.1.al hal, h.2.2.2.2.1.mv hal hh, h.2.2.2.2.2.1.there hal hh, h.2.2.2.2.2.2⟩) (fun r U U' V V' h1 hal h2 h => Got.mv r U U' V V' h1 hal h2 h) ?_
  intro p e s m args below meth c s₁ X0 hexec hbytes hml hret hlk hnm hown hh0 W hP
  obtain ⟨rfl, hB, f1, f2, hA, s1, hz, l0, l2, hp⟩ := hP
  have c1 : Steps p.tables e below (s₁.setTop (entryFrame m #[.ref a, .ref b] 2)) (s₁.setTop (mkF m 0 #[.val (.ref a), .val (.ref b)] [])) := entry rfl
  have c2 : Steps p.tables e below (s₁.setTop (entryFrame m #[.ref a, .ref b] 2)) (s₁.setTop (mkF m 6 #[.val (.ref a), .val (.ref b)] [.null, .int (Int32.ofNat A.slots.size), .int 0, .ref b, .ref a])) := c1.trans (by
    refine XS.aloadN X0.here hexec rfl (hb hbytes d0) rfl rfl ?_
    refine XS.aloadN X0.here hexec rfl (hb hbytes d1) rfl rfl ?_
    refine iconstV X0.here hexec rfl 0 (hb hbytes d2) (by decide) ?_
    refine XS.aloadN X0.here hexec rfl (hb hbytes d3) rfl rfl ?_
    refine X0.alen hexec (hA.1.mv X0.warmed.alike hh0) rfl rfl (hb hbytes d4) ?_
    refine XS.aconstNull X0.here hexec rfl (hb hbytes d5) ?_
    exact Steps.refl _)
  obtain ⟨v3, T3, X3, E3, g3⟩ := X0.callN hexec (New4.law l a D fV fC b A z 0 A.slots.size) rfl hown (wks W (initW "java/lang/String" 27 New4.yN)) (W New4.tab (by simp only [site, List.mem_cons, List.mem_append, true_or, or_true])) (W := 0) (Nat.le_of_ble_eq_true rfl) (Nat.le_of_ble_eq_true rfl) (Nat.le_refl _) (by show 0 + A.slots.size ≤ A.slots.size; omega) (g := (mkF m 6 #[.val (.ref a), .val (.ref b)] [.null, .int (Int32.ofNat A.slots.size), .int (Int32.ofNat 0), .ref b, .ref a])) rfl (by rw [hml]; rfl) c2 (argsL := [.ref b, .int (Int32.ofNat 0), .int (Int32.ofNat A.slots.size), .null]) (rest := []) rfl rfl (by show 2 * 0 + 0 ≤ _; decide) (hb hbytes d6) (⟨rfl, hB.mv X0.warmed.alike hh0, f1.al X0.warmed.alike, f2.al X0.warmed.alike, hA.mv X0.warmed.alike hh0, s1.there X0.warmed.alike hh0, hz, l0, by omega, l2, fun i hi => by rw [Nat.zero_add]; exact hp i hi⟩)
  have e0 := Got.mv _ s₁ s _ _ hh0.symm (Vm.Alike.refl _) rfl E3
  obtain rfl := e0.1
  have c4 : Steps p.tables e below (s₁.setTop (entryFrame m #[.ref a, .ref b] 2)) (T3.setTop (mkF m 9 #[.val (.ref a), .val (.ref b)] [])) := g3
  exact ⟨T3, none, _, _, _, X3, by simp, rfl, by omega, (fun _ => rfl), e0, fun fs hl => c4.trans (X3.returnOut hexec hret (hb hbytes d9) hl)⟩
theorem pays {l : Launch} {R : Room} {p : Program} {e : Env} {below : List Frame} {s : State} {sargs : Array Value} {len W : Nat} (a : Addr) (D : Cell) (fV fC : Field) (b : Addr) (A : Cell) (z : Int32) (htab : tab.before sargs s = true) (hfr : 4 ≤ R.frames) (hlo : W + 65 ≤ R.locals) :
    Back l R p e below s sargs yN len W (fun A₁ a₁ => A₁.cells + 1 ≤ R.cells ∧ A₁.slots + A.slots.size ≤ R.slots ∧ P a D fV fC b A z a₁ A₁.U) (fun A₁ _ v₁ B₁ => E a D fV fC A v₁ A₁.U B₁.U ∧ B₁.locs = A₁.locs ++ [⟨a, fC.slot⟩, ⟨a, fV.slot⟩] ∧ B₁.cells = A₁.cells + 1 ∧ B₁.slots = A₁.slots + A.slots.size) :=
  (law l a D fV fC b A z).pays htab hfr (by omega)
end New1
end StrChars
namespace StrChars.Road
open Jvm Sem ClassFile Op Lib Jvm.Stand Jvm.Free Jvm.Free.XT
open Jvm.Lib.Cold (StaticIs)
abbrev ST : String := "java/lang/String"
/-- every table word that New1's law asks, flat -/
abbrev words : List Jvm.Cond := [.code New1.yN New1.yB 2 none, .initialized ST, .methodLink ST 27 New4.yN, .instanceMethod New4.yN,
  .code New4.yN New4.yB 6 none, .fieldLink ST 38 ST "COMPACT_STRINGS" "Z", .laysFinal ST ST "value" "[B", .fieldLink ST 9 ST "value" "[B", .laysFinal ST ST "coder" "B", .fieldLink ST 15 ST "coder" "B",
  .methodLink ST 1 Lib.objectInit, .instanceMethod Lib.objectInit, .code Lib.objectInit ⟨#[0xb1]⟩ 1 none, .methodLink ST 177 Cmp3.yN, .static Cmp3.yN, .methodLink ST 47 CodL.yN, .static CodL.yN,
  .code Cmp3.yN Cmp3.yB 6 (some (.array .byte)), .initialized U16, .arrayClass .byte, .methodLink U16 115 Cmp5.yN, .static Cmp5.yN, .code Cmp5.yN Cmp5.yB 7 (some .int), .code CodL.yN CodL.yB 2 (some .byte)]
theorem tab_of {a : Array Value} {s : State} (h : ∀ w ∈ words, w.before a s = true) : New1.tab.before a s = true := by
  have h5 : Cmp5.tab.before a s = true := unparts (wk h (.code Cmp5.yN Cmp5.yB 7 (some .int))) (wks h (.initialized Cmp5.yN.cls :: Cmp5.site))
  have hc : CodL.tab.before a s = true := unparts (wk h (.code CodL.yN CodL.yB 2 (some .byte))) (wks h (.initialized CodL.yN.cls :: CodL.site))
  have q5 : ∀ w ∈ Cmp5.tab :: words, w.before a s = true := fun w hw => (List.mem_cons.mp hw).elim (fun e => e ▸ h5) (h w)
  have h3 : Cmp3.tab.before a s = true := unparts (wk q5 (.code Cmp3.yN Cmp3.yB 6 (some (.array .byte)))) (wks q5 (.initialized Cmp3.yN.cls :: Cmp3.site))
  have q3 : ∀ w ∈ Cmp3.tab :: CodL.tab :: words, w.before a s = true := fun w hw => (List.mem_cons.mp hw).elim (fun e => e ▸ h3) fun hw => (List.mem_cons.mp hw).elim (fun e => e ▸ hc) (h w)
  have h4 : New4.tab.before a s = true := unparts (wk q3 (.code New4.yN New4.yB 6 none)) (wks q3 (.initialized New4.yN.cls :: New4.site))
  have q4 : ∀ w ∈ New4.tab :: words, w.before a s = true := fun w hw => (List.mem_cons.mp hw).elim (fun e => e ▸ h4) (h w)
  exact unparts (wk q4 (.code New1.yN New1.yB 2 none)) (wks q4 (.initialized New1.yN.cls :: New1.site))
/-- the words ride from the start Z to the walk's own state -/
theorem moved {Z s : State} {a0 args : Array Value} (hZ : Z.Warmed39 s.vm) (hw : ∀ d ∈ words, d.before a0 Z = true) : ∀ d ∈ words, d.before args s = true := fun d hd => by
  have q := hw d hd
  have t : ∀ d ∈ words, d = .arrayClass .byte ∨ (d.onTables && d.keepsFace) = true := by decide +kernel
  rcases t d hd with rfl | t
  · exact RoadKit.mvA hZ q
  · exact RoadKit.mv hZ q t
/-- WHAT COMES BACK, over the tables of the start Z: h the heap at the call, h' behind it -/
def Q (Z : State) (x : Addr) (A : Cell) (h : Heap) (v : Option Value) (h' : Heap) (L : List Loc) : Prop := v = none ∧ (∀ y ∈ L, y.base = x) ∧ RoadKit.Keep h h' [x] ∧ h'.size = h.size + 1 ∧ RoadKit.Exa Z h' x ST ∧ RoadKit.Fld Z h' x ST "value" "[B" (.ref h.size) ∧ RoadKit.Fld Z h' x ST "coder" "B" (.int 0) ∧
  (∃ V : Cell, RoadKit.Arr Z h' h.size V .byte ∧ V.vm = .none ∧ Z.vm.findClass "[B" = some V.cls ∧ V.slots.size = A.slots.size ∧ ∀ j, j < A.slots.size → V.slots[j]? = some (.int (lo8 (cv A j)))) ∧
  ∀ (O n d : String) (w : Value), RoadKit.Fld Z h x O n d w → RoadKit.slotOf Z O n d ≠ RoadKit.slotOf Z ST "value" "[B" → RoadKit.slotOf Z O n d ≠ RoadKit.slotOf Z ST "coder" "B" → RoadKit.Fld Z h' x O n d w
/-- **new String(chars) AT A CALL, IN THE ROAD'S FORM**: for specialBack behind newO: x the fresh String, b the char[] with the cell A -/
theorem back {p : Program} {l : Launch} {e : Env} {R : Room} {s : State} {args : Array Value} {below : List Frame} {len W : Nat} {Z : State} {a0 : Array Value} {h : Heap} (hZ : Z.Warmed39 s.vm) (hw : ∀ d ∈ words, d.before a0 Z = true) {kI : Nat} (wi : (Jvm.Cond.instantiable ST kI).before a0 Z = true)
    {x b : Addr} {A : Cell} {z : Int32} {v0 c0 : Value} (E : RoadKit.Exa Z h x ST) (V : RoadKit.Fld Z h x ST "value" "[B" v0) (C : RoadKit.Fld Z h x ST "coder" "B" c0) (K : RoadKit.Arr Z h b A .char) (hty : Typed .char A) (S : RoadKit.Sta Z h ST "COMPACT_STRINGS" "Z" (.int z)) (hz : ¬ z = 0)
    (l0 : 0 < A.slots.size) (l2 : A.slots.size ≤ 536870912) (hp : ∀ i, i < A.slots.size → ¬ 255 < cv A i) (hfr : 4 ≤ R.frames) (hlo : W + 65 ≤ R.locals) :
    Back l R p e below s args New1.yN len W (fun P a => a = #[.ref x, .ref b] ∧ P.U.heap = h ∧ P.cells + 1 ≤ R.cells ∧ P.slots + A.slots.size ≤ R.slots)
      (fun P _ v B => ∃ L, Q Z x A h v B.U.heap L ∧ B.locs = P.locs ++ L ∧ B.cells = P.cells + 1 ∧ B.slots = P.slots + A.slots.size) := by
  intro m meth c P g ig mk a X hg hsize hdg hW hn hp'
  obtain ⟨rfl, rfl, r1, r2⟩ := hp'
  have al : Z.vm.Alike P.U.vm := hZ.alike.trans X.warmed.alike
  obtain ⟨D, cfV, kV, iV, fV, hD, gV, stV, knV, obV, asV, slV⟩ := id V
  obtain ⟨D', cfC, kC, iC, fC, hD', gC, stC, -, -, asC, slC⟩ := id C
  cases hD.symm.trans hD'
  obtain ⟨D2, kD, e1, e2, e3, e4, e5⟩ := id E
  cases hD.symm.trans e1
  obtain ⟨c2, k2, i1, i2, i3, -⟩ := Cond.instantiable_spec wi
  cases e2.symm.trans i1
  cases e3.symm.trans i2
  obtain ⟨kU, u1, u2⟩ := al.2.2 _ _ e3
  have hB : Blank ST x D P.U := ⟨hD, ⟨knV, fun q hq => by rw [hq] at obV; cases obV⟩, by rw [al.findClass]; exact e2, kU, u1, by rw [u2]; exact i3, by rw [u2]; exact e5 i3⟩
  have F1 : Found ST "value" "[B" fV P.U := ⟨SBG.found_only al ⟨cfV, kV, iV, gV⟩, stV⟩
  have F2 : Found ST "coder" "B" fC P.U := ⟨SBG.found_only al ⟨cfC, kC, iC, gC⟩, stC⟩
  have hA : Ch b A P.U := ⟨⟨K.1, State.isArrayOf_alike al K.2.1, K.2.2, by omega⟩, hty⟩
  have hS : StaticIs P.U ST "COMPACT_STRINGS" "Z" (.int z) := by
    obtain ⟨cfS, iS, kS, fS, st, cS, t1, t2, t3, t4, t5, t6, t7⟩ := S
    exact StaticIs.there (s := { Z with heap := P.U.heap }) ⟨cfS, iS, kS, fS, st, cS, t1, t2, t3, t4, t5, (fun q => by rw [q] at t6; cases t6), t7⟩ al rfl
  obtain ⟨v, B, X', ⟨⟨hv, E', V', q1, q2, q3, q4, q5, q6, q7, q8, q9, q10, q11⟩, hl, hc, hs⟩, st⟩ := New1.pays x D fV fC b A z (tab_of (moved hZ hw)) hfr hlo m meth c P g ig mk _ X hg hsize hdg hW hn ⟨r1, r2, rfl, hB, F1, F2, hA, hS, hz, l0, l2, hp⟩
  have al' : Z.vm.Alike B.U.vm := hZ.alike.trans X'.warmed.alike
  have hsz : E'.slots.size = D.slots.size := by
    obtain ⟨-, -, -, kB, w1, w2, w3⟩ := q1
    obtain ⟨kB', y1, y2⟩ := al'.2.2 _ _ e3
    rw [q2.2.1] at w1
    cases w1.symm.trans y1
    rw [w3, e5 i3, y2]
  refine ⟨v, B, X', ⟨_, ⟨hv, ?_, ⟨by omega, fun y cy hy hn' => q10 y cy (by simpa using hn') hy, fun y cy hy => ?_⟩, q11, ⟨E', _, q1.1, by rw [q2.2.1]; exact e2, by rw [q2.2.1]; exact e3, by rw [q2.1]; exact obV, fun _ => by rw [hsz]; exact e5 i3⟩,
    ⟨E', cfV, kV, iV, fV, q1.1, gV, stV, by rw [q2.1]; exact knV, by rw [q2.1]; exact obV, by rw [q2.2.1]; exact asV, q3⟩, ⟨E', cfC, kC, iC, fC, q1.1, gC, stC, by rw [q2.1]; exact knV, by rw [q2.1]; exact obV, by rw [q2.2.1]; exact asC, q4⟩,
    ⟨V', ⟨q5.1, State.isArrayOf_alike al'.symm q5.2.1, q5.2.2.1⟩, q6, by rw [← al'.findClass]; exact q7, q8, fun j hj => by have := q9 j hj; rwa [Nat.zero_add] at this⟩, fun O n d w F n1 n2 => ?_⟩, hl, hc, hs⟩, st⟩
  · intro y hy
    simp only [List.mem_cons, List.not_mem_nil, or_false] at hy
    rcases hy with rfl | rfl <;> rfl
  · by_cases q : y = x
    · subst q
      cases hD.symm.trans hy
      exact ⟨E', q1.1, q2.2.1, q2.1, hsz⟩
    · exact ⟨cy, q10 y cy q hy, rfl, rfl, rfl⟩
  · obtain ⟨D3, cf, k, i, f, g1, g2, g3, g4, g5, g6, g7⟩ := F
    cases hD.symm.trans g1
    simp only [RoadKit.slotOf, g2, gV, gC, Option.map_some, Option.getD_some] at n1 n2
    exact ⟨E', cf, k, i, f, q1.1, g2, g3, by rw [q2.1]; exact g4, by rw [q2.1]; exact g5, by rw [q2.2.1]; exact g6, by rw [q2.2.2 f.slot (by simp [n1, n2])]; exact g7⟩
end StrChars.Road
namespace StrChars.Road
open Jvm Sem ClassFile Op Lib Jvm.Stand Jvm.Free Jvm.Free.XT
/-- WHAT COMES BACK, the byte[] as a list of values -/
def QA (Z : State) (x : Addr) (zn : Int32) (cs : List Int32) (h : Heap) (v : Option Value) (h' : Heap) (L : List Loc) : Prop := v = none ∧ (∀ y ∈ L, y.base = x) ∧ RoadKit.Keep h h' [x] ∧ h'.size = h.size + 1 ∧ RoadKit.Exa Z h' x ST ∧ RoadKit.Fld Z h' x ST "value" "[B" (.ref h.size) ∧ RoadKit.Fld Z h' x ST "coder" "B" (.int 0) ∧
  (∃ kb, Z.vm.findClass "[B" = some kb ∧ RoadKit.Arv Z h' h.size kb .byte zn (cs.map fun c => .int (lo8 c)) (.int 0)) ∧
  ∀ (O n d : String) (w : Value), RoadKit.Fld Z h x O n d w → RoadKit.slotOf Z O n d ≠ RoadKit.slotOf Z ST "value" "[B" → RoadKit.slotOf Z O n d ≠ RoadKit.slotOf Z ST "coder" "B" → RoadKit.Fld Z h' x O n d w
/-- **new String(chars) AT A CALL, THE ARRAYS AS LISTS**: the char[] at b holds cs, not empty, no char above 255 -/
theorem backArv {p : Program} {l : Launch} {e : Env} {R : Room} {s : State} {args : Array Value} {below : List Frame} {len W : Nat} {Z : State} {a0 : Array Value} {h : Heap} (hZ : Z.Warmed39 s.vm) (hw : ∀ d ∈ words, d.before a0 Z = true) {kI : Nat} (wi : (Jvm.Cond.instantiable ST kI).before a0 Z = true)
    {x b : Addr} {k : ClassId} {zn z : Int32} {cs : List Int32} {dv v0 c0 : Value} (E : RoadKit.Exa Z h x ST) (V : RoadKit.Fld Z h x ST "value" "[B" v0) (C : RoadKit.Fld Z h x ST "coder" "B" c0) (K : RoadKit.Arv Z h b k .char zn (cs.map Value.int) dv) (S : RoadKit.Sta Z h ST "COMPACT_STRINGS" "Z" (.int z)) (hz : ¬ z = 0)
    (hlen : zn.toNatClampNeg = cs.length) (h0 : 0 < cs.length) (hbig : cs.length ≤ 536870912) (hall : ∀ c ∈ cs, ¬ 255 < c) (hfr : 4 ≤ R.frames) (hlo : W + 65 ≤ R.locals) :
    Back l R p e below s args New1.yN len W (fun P a => a = #[.ref x, .ref b] ∧ P.U.heap = h ∧ P.cells + 1 ≤ R.cells ∧ P.slots + cs.length ≤ R.slots)
      (fun P _ v B => ∃ L, QA Z x zn cs h v B.U.heap L ∧ B.locs = P.locs ++ L ∧ B.cells = P.cells + 1 ∧ B.slots = P.slots + cs.length) := by
  obtain ⟨A, K1, K2, K3, K4, K5, K6⟩ := K
  have e : A.slots.size = cs.length := K3.trans hlen
  have hat : ∀ (i : Nat) (hi : i < cs.length), A.slots[i]? = some (.int cs[i]) := fun i hi => by rw [K5 i (by omega)]; simp [List.getD_eq_getElem?_getD, hi]
  have hcv : ∀ (i : Nat) (hi : i < cs.length), cv A i = cs[i] := fun i hi => by unfold cv; rw [hat i hi]
  have hty : Typed .char A := fun i v hv => by
    have hi : i < A.slots.size := (Array.getElem?_eq_some_iff.mp hv).1
    have q := K5 i hi
    rw [hv] at q
    rw [Option.some.inj q]
    exact K6 i hi
  refine Back.mono (back hZ hw wi E V C K1 hty S hz (by omega) (by omega) (fun i hi => by rw [hcv i (by omega)]; exact hall _ (List.getElem_mem _)) hfr hlo) (fun P a hp => ⟨hp.1, hp.2.1, hp.2.2.1, by rw [e]; exact hp.2.2.2⟩) (fun P a v B hp hq => ?_)
  obtain ⟨L, ⟨q1, q2, q3, q4, q5, q6, q7, ⟨V', v1, v2, v3, v4, v5⟩, q9⟩, hl, hc, hs⟩ := hq
  refine ⟨L, ⟨q1, q2, q3, q4, q5, q6, q7, ⟨V'.cls, v3, V', v1, rfl, by rw [v4, e, hlen], K4, fun i hi => ?_, fun i hi => ?_⟩, q9⟩, hl, hc, by rw [hs, e]⟩
  · have hi' : i < cs.length := by omega
    rw [v5 i (by omega), hcv i hi']; simp [List.getD_eq_getElem?_getD, hi']
  · have hi' : i < cs.length := by omega
    simp only [List.getD_eq_getElem?_getD, List.getElem?_map, List.getElem?_eq_getElem hi', Option.map_some, Option.getD_some]
    exact fits_lo8 _
end StrChars.Road
namespace StrChars.Road
open Jvm Sem ClassFile Op Lib Jvm.Stand Jvm.Free Jvm.Free.XT
/-- WHAT COMES BACK, in the writer's own shape -/
def QV (Z : State) (x : Addr) (N : Int32) (bs : List Int32) (h : Heap) (n0 : Nat) (v : Option Value) (h' : Heap) (L : List Loc) : Prop := v = none ∧ RoadKit.Fr n0 L ∧ RoadKit.Keep h h' [x] ∧ RoadKit.Exa Z h' x ST ∧ RoadKit.Fld Z h' x ST "coder" "B" (.int 0) ∧
  ∃ (t : Addr) (kb : ClassId), n0 ≤ t ∧ h.size ≤ t ∧ ¬ t = x ∧ RoadKit.Fld Z h' x ST "value" "[B" (.ref t) ∧ RoadKit.Arv Z h' t kb .byte N (bs.map Value.int) (.int 0)
/-- **new String(chars) AT A CALL, FOR THE WRITER**: a char[] of n known ints, each 0 to 255 -/
theorem backV {p : Program} {l : Launch} {e : Env} {R : Room} {s : State} {args : Array Value} {below : List Frame} {len W : Nat} {Z : State} {a0 : Array Value} {h : Heap} (hZ : Z.Warmed39 s.vm) (hw : ∀ d ∈ words, d.before a0 Z = true) {kI : Nat} (wi : (Jvm.Cond.instantiable ST kI).before a0 Z = true)
    {x b : Addr} {kC : ClassId} {cs bs : List Int32} {d v0 c0 : Value} {z N : Int32} {n n0 : Nat} (hx0 : n0 ≤ x) (hh0 : n0 ≤ h.size) (E : RoadKit.Exa Z h x ST) (V : RoadKit.Fld Z h x ST "value" "[B" v0) (C : RoadKit.Fld Z h x ST "coder" "B" c0) (K : RoadKit.Arv Z h b kC .char N (cs.map Value.int) d) (S : RoadKit.Sta Z h ST "COMPACT_STRINGS" "Z" (.int z)) (hz : ¬ z = 0)
    (hn : cs.length = n) (hN : N = Int32.ofNat n) (l0 : 0 < n) (l2 : n ≤ 4000) (hp : ∀ c ∈ cs, ¬ c < 0 ∧ ¬ (255 : Int32) < c) (hb : bs = cs.map (fun c => c.toInt8.toInt32)) (hfr : 4 ≤ R.frames) (hlo : W + 65 ≤ R.locals) :
    Back l R p e below s args (⟨"java/lang/String", "<init>", "([C)V"⟩ : MethodName) len W (fun P a => a = #[.ref x, .ref b] ∧ P.U.heap = h ∧ P.cells + 1 ≤ R.cells ∧ P.slots + n ≤ R.slots)
      (fun P _ v B => ∃ L, QV Z x N bs h n0 v B.U.heap L ∧ B.locs = P.locs ++ L ∧ B.cells = P.cells + 1 ∧ B.slots = P.slots + n) := by
  subst hn hN hb
  refine Back.mono (backArv hZ hw wi E V C K S hz (n32 (by omega)) l0 (by omega) (fun c hc => (hp c hc).2) hfr hlo) (fun P a hp => hp) (fun P a v B hp hq => ?_)
  obtain ⟨L, ⟨q1, q2, q3, q4, q5, q6, q7, ⟨kb, v1, v2⟩, q9⟩, hl, hc, hs⟩ := hq
  exact ⟨L, ⟨q1, fun y hy => by rw [q2 y hy]; exact hx0, q3, q5, q7, h.size, kb, hh0, Nat.le_refl _, Nat.ne_of_gt E.lt, q6, by rw [List.map_map]; exact v2⟩, hl, hc, hs⟩
end StrChars.Road
end Jvm.Pilot.@@N@@
namespace Jvm.Pilot.@@N@@
open Jvm Jvm.ClassFile Sem Op Lib Jvm.Free Jvm.Stand Jvm.LawKit Jvm.RoadKit Bundle Jvm.Pilot.@@N@@.Jvm.D
section Own
variable {p : Program} {l : Launch} {e : Env} {R : Room} {s : State} {m : MethodId} {args : Array Value} {below : List Frame} {meth : Method} {c : Code} {T : State} {locs : List Loc} {cells slots : Nat} {Q : Outcome → State → Prop} {Z : State} {a0 : Array Value} {h : Heap}
/-- from T, with g on top, the run ends as Q says -/
def Ends (p : Program) (e : Env) (below : List Frame) (Q : Outcome → State → Prop) (T : State) (g : JFrame) : Prop :=
  ∃ s₂ o, Steps p.tables e below (T.setTop g) s₂ ∧ s₂.status = .running ∧ Ended s₂ below o ∧ Q o s₂
theorem Ends.go {T' : State} {g g' : JFrame} (st : ∀ t, Steps p.tables e below (T'.setTop g') t → Steps p.tables e below (T.setTop g) t) (k : Ends p e below Q T' g') : Ends p e below Q T g := by
  obtain ⟨s₂, o, h1, r⟩ := k
  exact ⟨s₂, o, st _ h1, r⟩
theorem Ends.thru {T' : State} {g g' : JFrame} (st : Steps p.tables e below (T.setTop g) (T'.setTop g')) (k : Ends p e below Q T' g') : Ends p e below Q T g := by
  obtain ⟨s₂, o, h1, r⟩ := k
  exact ⟨s₂, o, st.trans h1, r⟩
theorem Ends.cast {g g' : JFrame} (q : g = g') (k : Ends p e below Q T g') : Ends p e below Q T g := q ▸ k
/-- what a body that returns leaves -/
def Out (s : State) (ce sl : Nat) (Qv : Option Value → Heap → List Loc → Prop) (o : Outcome) (U : State) : Prop := ∃ v L, o = .returned v ∧ Qv v U.heap L ∧ FrameEnd s o U L ce sl
theorem ow_body {y : MethodName} {bytes : ByteArray} {ml : Nat} {ret : Option FieldType} {ws : List Jvm.Cond} {rm : Room} {as : Array Value} {ce sl : Nat} {Qv : Option Value → Heap → List Loc → Prop} (hp : plainFor y = true)
    (body : ∀ (p : Program) (e : Env) (s : State) (m : MethodId) (below : List Frame) (meth : Method) (c : Code) (T : State), Stand p l e rm s m as below meth c T [] 0 0 → p.tables.exec = Jvm.exec → Z.Warmed39 s.vm → c.code = bytes → c.maxLocals = ml → s.vm.findClass y.cls = some m.cls → meth.name = y.name → meth.sig.returnType = ret → meth.locks = false → T.heap = h → Ends p e below (Out s ce sl Qv) T (entryFrame m as ml)) :
    MetFree l y (head1 (Jvm.Cond.code y bytes ml ret :: ws) rm) (fun a U => a = as ∧ Z.Warmed39 U.vm ∧ U.heap = h) (fun _ _ _ _ _ => True) (fun _ U o U' => ∃ v L, o = .returned v ∧ Qv v U'.heap L ∧ FrameEnd U o U' L ce sl) := by
  refine MetFree.of_bodySF hp hisR ?_
  intro p e s m args below meth c s₁ Bd hml0 hP hK
  obtain ⟨rfl, hZ, hh⟩ := hP
  exact body p e s m below meth c s₁ (Stand.of_body Bd) Bd.exec hZ Bd.bytes hml0 (findClass_of_methodNamed Bd.named) (name_of_methodNamed Bd.named Bd.method).1 Bd.returns Bd.notSynchronized (by rw [← hh, Bd.state]; rfl)
theorem ow_iload (X : Stand p l e R s m args below meth c T locs cells slots) (hx : p.tables.exec = Jvm.exec) {pc pc' : Nat} {Ls : Array Slot} {St : List Value} {k : Nat} {v : Int32} (hd : decode c.code pc = .ok (.iload k, 2)) (hl : Ls[k]? = some (.val (.int v))) (hp : pc + 2 = pc') (kk : Ends p e below Q T (mkF m pc' Ls (.int v :: St))) : Ends p e below Q T (mkF m pc Ls St) := by subst hp; exact Ends.go (fun _ q => XS.iload X.here hx rfl hd hl q) kk
theorem ow_iloadN (X : Stand p l e R s m args below meth c T locs cells slots) (hx : p.tables.exec = Jvm.exec) {pc pc' : Nat} {Ls : Array Slot} {St : List Value} {k : Fin 4} {v : Int32} (hd : decode c.code pc = .ok (.iload_n k, 1)) (hl : Ls[k.val]? = some (.val (.int v))) (hp : pc + 1 = pc') (kk : Ends p e below Q T (mkF m pc' Ls (.int v :: St))) : Ends p e below Q T (mkF m pc Ls St) := by subst hp; exact Ends.go (fun _ q => XS.iloadN X.here hx rfl hd hl q) kk
theorem ow_aload (X : Stand p l e R s m args below meth c T locs cells slots) (hx : p.tables.exec = Jvm.exec) {pc pc' : Nat} {Ls : Array Slot} {St : List Value} {k : Nat} {v : Value} (hd : decode c.code pc = .ok (.aload k, 2)) (hl : Ls[k]? = some (.val v)) (hv : v.isRef = true) (hp : pc + 2 = pc') (kk : Ends p e below Q T (mkF m pc' Ls (v :: St))) : Ends p e below Q T (mkF m pc Ls St) := by subst hp; exact Ends.go (fun _ q => XS.aload X.here hx rfl hd hl hv q) kk
theorem ow_aloadN (X : Stand p l e R s m args below meth c T locs cells slots) (hx : p.tables.exec = Jvm.exec) {pc pc' : Nat} {Ls : Array Slot} {St : List Value} {k : Fin 4} {v : Value} (hd : decode c.code pc = .ok (.aload_n k, 1)) (hl : Ls[k.val]? = some (.val v)) (hv : v.isRef = true) (hp : pc + 1 = pc') (kk : Ends p e below Q T (mkF m pc' Ls (v :: St))) : Ends p e below Q T (mkF m pc Ls St) := by subst hp; exact Ends.go (fun _ q => XS.aloadN X.here hx rfl hd hl hv q) kk
theorem ow_istore (X : Stand p l e R s m args below meth c T locs cells slots) (hx : p.tables.exec = Jvm.exec) {pc pc' : Nat} {Ls : Array Slot} {Ls' : Array Slot} {St : List Value} {k : Nat} {v : Int32} (hd : decode c.code pc = .ok (.istore k, 2)) (hl : storeLocals Ls k (.int v) = some Ls') (hp : pc + 2 = pc') (kk : Ends p e below Q T (mkF m pc' Ls' St)) : Ends p e below Q T (mkF m pc Ls (.int v :: St)) := by subst hp; exact Ends.go (fun _ q => XS.istore X.here hx rfl hd rfl hl q) kk
theorem ow_istoreN (X : Stand p l e R s m args below meth c T locs cells slots) (hx : p.tables.exec = Jvm.exec) {pc pc' : Nat} {Ls : Array Slot} {Ls' : Array Slot} {St : List Value} {k : Fin 4} {v : Int32} (hd : decode c.code pc = .ok (.istore_n k, 1)) (hl : storeLocals Ls k.val (.int v) = some Ls') (hp : pc + 1 = pc') (kk : Ends p e below Q T (mkF m pc' Ls' St)) : Ends p e below Q T (mkF m pc Ls (.int v :: St)) := by subst hp; exact Ends.go (fun _ q => XS.istoreN X.here hx rfl hd rfl hl q) kk
theorem ow_astore (X : Stand p l e R s m args below meth c T locs cells slots) (hx : p.tables.exec = Jvm.exec) {pc pc' : Nat} {Ls : Array Slot} {Ls' : Array Slot} {St : List Value} {k : Nat} {v : Value} (hd : decode c.code pc = .ok (.astore k, 2)) (hv : v.isRef = true) (hl : storeLocals Ls k v = some Ls') (hp : pc + 2 = pc') (kk : Ends p e below Q T (mkF m pc' Ls' St)) : Ends p e below Q T (mkF m pc Ls (v :: St)) := by subst hp; exact Ends.go (fun _ q => XS.astore X.here hx rfl hd rfl hv hl q) kk
theorem ow_astoreN (X : Stand p l e R s m args below meth c T locs cells slots) (hx : p.tables.exec = Jvm.exec) {pc pc' : Nat} {Ls : Array Slot} {Ls' : Array Slot} {St : List Value} {k : Fin 4} {v : Value} (hd : decode c.code pc = .ok (.astore_n k, 1)) (hv : v.isRef = true) (hl : storeLocals Ls k.val v = some Ls') (hp : pc + 1 = pc') (kk : Ends p e below Q T (mkF m pc' Ls' St)) : Ends p e below Q T (mkF m pc Ls (v :: St)) := by subst hp; exact Ends.go (fun _ q => XS.astoreN X.here hx rfl hd rfl hv hl q) kk
theorem ow_iconst (X : Stand p l e R s m args below meth c T locs cells slots) (hx : p.tables.exec = Jvm.exec) {pc pc' : Nat} {Ls : Array Slot} {St : List Value} {i : Int} {z : Int32} (hd : decode c.code pc = .ok (.iconst i, 1)) (hz : Int32.ofInt i = z) (hp : pc + 1 = pc') (kk : Ends p e below Q T (mkF m pc' Ls (.int z :: St))) : Ends p e below Q T (mkF m pc Ls St) := by subst hp hz; exact Ends.go (fun _ q => XS.iconst X.here hx rfl hd q) kk
theorem ow_bipush (X : Stand p l e R s m args below meth c T locs cells slots) (hx : p.tables.exec = Jvm.exec) {pc pc' : Nat} {Ls : Array Slot} {St : List Value} {i : Int} {z : Int32} (hd : decode c.code pc = .ok (.bipush i, 2)) (hz : (Int8.ofInt i).toInt32 = z) (hp : pc + 2 = pc') (kk : Ends p e below Q T (mkF m pc' Ls (.int z :: St))) : Ends p e below Q T (mkF m pc Ls St) := by subst hp hz; exact Ends.go (fun _ q => XS.bipush X.here hx rfl hd q) kk
theorem ow_sipush (X : Stand p l e R s m args below meth c T locs cells slots) (hx : p.tables.exec = Jvm.exec) {pc pc' : Nat} {Ls : Array Slot} {St : List Value} {i : Int} {z : Int32} (hd : decode c.code pc = .ok (.sipush i, 3)) (hz : (Int16.ofInt i).toInt32 = z) (hp : pc + 3 = pc') (kk : Ends p e below Q T (mkF m pc' Ls (.int z :: St))) : Ends p e below Q T (mkF m pc Ls St) := by subst hp hz; exact Ends.go (fun _ q => XS.sipush X.here hx rfl hd q) kk
theorem ow_aconstNull (X : Stand p l e R s m args below meth c T locs cells slots) (hx : p.tables.exec = Jvm.exec) {pc pc' : Nat} {Ls : Array Slot} {St : List Value} (hd : decode c.code pc = .ok (.aconst_null, 1)) (hp : pc + 1 = pc') (kk : Ends p e below Q T (mkF m pc' Ls (.null :: St))) : Ends p e below Q T (mkF m pc Ls St) := by subst hp; exact Ends.go (fun _ q => XS.aconstNull X.here hx rfl hd q) kk
theorem ow_iand (X : Stand p l e R s m args below meth c T locs cells slots) (hx : p.tables.exec = Jvm.exec) {pc pc' : Nat} {Ls : Array Slot} {St : List Value} {x : Int32} {y : Int32} (hd : decode c.code pc = .ok (.iand, 1)) (hp : pc + 1 = pc') (kk : ∀ z : Int32, z = x &&& y → Ends p e below Q T (mkF m pc' Ls (.int z :: St))) : Ends p e below Q T (mkF m pc Ls (.int y :: .int x :: St)) := by subst hp; exact Ends.go (fun _ q => XS.iand X.here hx rfl hd rfl q) (kk _ rfl)
theorem ow_iushr (X : Stand p l e R s m args below meth c T locs cells slots) (hx : p.tables.exec = Jvm.exec) {pc pc' : Nat} {Ls : Array Slot} {St : List Value} {x : Int32} {y : Int32} (hd : decode c.code pc = .ok (.iushr, 1)) (hp : pc + 1 = pc') (kk : ∀ z : Int32, z = (x.toUInt32 >>> (y &&& 31).toUInt32).toInt32 → Ends p e below Q T (mkF m pc' Ls (.int z :: St))) : Ends p e below Q T (mkF m pc Ls (.int y :: .int x :: St)) := by subst hp; exact Ends.go (fun _ q => XS.iushr X.here hx rfl hd rfl q) (kk _ rfl)
theorem ow_i2b (X : Stand p l e R s m args below meth c T locs cells slots) (hx : p.tables.exec = Jvm.exec) {pc pc' : Nat} {Ls : Array Slot} {St : List Value} {x : Int32} (hd : decode c.code pc = .ok (.i2b, 1)) (hp : pc + 1 = pc') (kk : ∀ z : Int32, z = x.toInt8.toInt32 → Ends p e below Q T (mkF m pc' Ls (.int z :: St))) : Ends p e below Q T (mkF m pc Ls (.int x :: St)) := by subst hp; exact Ends.go (fun _ q => XS.i2b X.here hx rfl hd rfl q) (kk _ rfl)
theorem ow_i2c (X : Stand p l e R s m args below meth c T locs cells slots) (hx : p.tables.exec = Jvm.exec) {pc pc' : Nat} {Ls : Array Slot} {St : List Value} {x : Int32} (hd : decode c.code pc = .ok (.i2c, 1)) (hp : pc + 1 = pc') (kk : ∀ z : Int32, z = x.toUInt32.toUInt16.toUInt32.toInt32 → Ends p e below Q T (mkF m pc' Ls (.int z :: St))) : Ends p e below Q T (mkF m pc Ls (.int x :: St)) := by subst hp; exact Ends.go (fun _ q => XS.i2c X.here hx rfl hd rfl q) (kk _ rfl)
theorem ow_iinc (X : Stand p l e R s m args below meth c T locs cells slots) (hx : p.tables.exec = Jvm.exec) {pc pc' : Nat} {Ls : Array Slot} {Ls' : Array Slot} {St : List Value} {k : Nat} {i : Int} {x : Int32} (hd : decode c.code pc = .ok (.iinc k i, 3)) (hl : Ls[k]? = some (.val (.int x))) (hl' : ∀ z, storeLocals Ls k (.int z) = some (Ls'.setIfInBounds k (.val (.int z)))) (hp : pc + 3 = pc') (kk : ∀ z : Int32, z = x + Int32.ofInt i → Ends p e below Q T (mkF m pc' (Ls'.setIfInBounds k (.val (.int z))) St)) : Ends p e below Q T (mkF m pc Ls St) := by subst hp; exact Ends.go (fun _ q => XS.iinc X.here hx rfl hd hl (hl' _) q) (kk _ rfl)
theorem ow_dup (X : Stand p l e R s m args below meth c T locs cells slots) (hx : p.tables.exec = Jvm.exec) {pc pc' : Nat} {Ls : Array Slot} {St : List Value} {v : Value} (hd : decode c.code pc = .ok (.dup, 1)) (hc : v.category = 1) (hp : pc + 1 = pc') (kk : Ends p e below Q T (mkF m pc' Ls (v :: v :: St))) : Ends p e below Q T (mkF m pc Ls (v :: St)) := by subst hp; exact Ends.go (fun _ q => XS.dup X.here hx rfl hd rfl hc q) kk
theorem ow_goto (X : Stand p l e R s m args below meth c T locs cells slots) (hx : p.tables.exec = Jvm.exec) {pc pc' : Nat} {Ls : Array Slot} {St : List Value} {o : Int} (hd : decode c.code pc = .ok (.goto o, 3)) (ho : 0 ≤ (pc : Int) + o) (hp : ((pc : Int) + o).toNat = pc') (kk : Ends p e below Q T (mkF m pc' Ls St)) : Ends p e below Q T (mkF m pc Ls St) := Ends.go (fun _ q => XS.goto X.here hx rfl (pc0 := pc) (pc' := pc') rfl hd ho hp q) kk
theorem ow_icmpY (X : Stand p l e R s m args below meth c T locs cells slots) (hx : p.tables.exec = Jvm.exec) {pc pc' : Nat} {Ls : Array Slot} {St : List Value} {cd : ClassFile.Cond} {x y : Int32} {o : Int} (hd : decode c.code pc = .ok (.if_icmp cd o, 3)) (hc : if_icmp.holds cd x y = true) (ho : 0 ≤ (pc : Int) + o) (hp : ((pc : Int) + o).toNat = pc') (kk : Ends p e below Q T (mkF m pc' Ls St)) : Ends p e below Q T (mkF m pc Ls (.int y :: .int x :: St)) := Ends.go (fun _ q => XS.icmpYes X.here hx rfl (pc0 := pc) (pc' := pc') rfl hd rfl hc ho hp q) kk
theorem ow_icmpN (X : Stand p l e R s m args below meth c T locs cells slots) (hx : p.tables.exec = Jvm.exec) {pc pc' : Nat} {Ls : Array Slot} {St : List Value} {cd : ClassFile.Cond} {x y : Int32} {o : Int} (hd : decode c.code pc = .ok (.if_icmp cd o, 3)) (hc : if_icmp.holds cd x y = false) (hp : pc + 3 = pc') (kk : Ends p e below Q T (mkF m pc' Ls St)) : Ends p e below Q T (mkF m pc Ls (.int y :: .int x :: St)) := by subst hp; exact Ends.go (fun _ q => XS.icmpNo X.here hx rfl hd rfl hc q) kk
theorem ow_ifY (X : Stand p l e R s m args below meth c T locs cells slots) (hx : p.tables.exec = Jvm.exec) {pc pc' : Nat} {Ls : Array Slot} {St : List Value} {cd : ClassFile.Cond} {x : Int32} {o : Int} (hd : decode c.code pc = .ok (.ifCond cd o, 3)) (hc : if_icmp.holds cd x 0 = true) (ho : 0 ≤ (pc : Int) + o) (hp : ((pc : Int) + o).toNat = pc') (kk : Ends p e below Q T (mkF m pc' Ls St)) : Ends p e below Q T (mkF m pc Ls (.int x :: St)) := Ends.go (fun _ q => XS.ifYes X.here hx rfl (pc0 := pc) (pc' := pc') rfl hd rfl ((if0 _ _).trans hc) ho hp q) kk
theorem ow_ifN (X : Stand p l e R s m args below meth c T locs cells slots) (hx : p.tables.exec = Jvm.exec) {pc pc' : Nat} {Ls : Array Slot} {St : List Value} {cd : ClassFile.Cond} {x : Int32} {o : Int} (hd : decode c.code pc = .ok (.ifCond cd o, 3)) (hc : if_icmp.holds cd x 0 = false) (hp : pc + 3 = pc') (kk : Ends p e below Q T (mkF m pc' Ls St)) : Ends p e below Q T (mkF m pc Ls (.int x :: St)) := by subst hp; exact Ends.go (fun _ q => XS.ifNo X.here hx rfl hd rfl ((if0 _ _).trans hc) q) kk
/-- the six comparisons, said of the signed worth -/
def cmpI : ClassFile.Cond → Int → Int → Prop
  | .eq, a, b => a = b
  | .ne, a, b => ¬ a = b
  | .lt, a, b => a < b
  | .ge, a, b => ¬ a < b
  | .gt, a, b => b < a
  | .le, a, b => ¬ b < a
theorem cmpI_y {cd : ClassFile.Cond} {x y : Int32} (q : cmpI cd x.toInt y.toInt) : if_icmp.holds cd x y = true := by
  cases cd <;> simp only [cmpI] at q <;> simp [if_icmp.holds, ← Int32.toInt_inj, Int32.lt_iff_toInt_lt, Int32.le_iff_toInt_le] <;> omega
theorem cmpI_n {cd : ClassFile.Cond} {x y : Int32} (q : ¬ cmpI cd x.toInt y.toInt) : if_icmp.holds cd x y = false := by
  cases cd <;> simp only [cmpI] at q <;> simp [if_icmp.holds, ← Int32.toInt_inj, Int32.lt_iff_toInt_lt, Int32.le_iff_toInt_le] <;> omega
theorem ow_icmp_eq (X : Stand p l e R s m args below meth c T locs cells slots) (hx : p.tables.exec = Jvm.exec) {pc pt pf : Nat} {Ls : Array Slot} {St : List Value} {x y : Int32} {o : Int} (xi yi : Int) (hd : decode c.code pc = .ok (.if_icmp .eq o, 3)) (hxi : x.toInt = xi) (hyi : y.toInt = yi) (ho : 0 ≤ (pc : Int) + o) (hp : ((pc : Int) + o).toNat = pt) (hq : pc + 3 = pf) (kt : xi = yi → Ends p e below Q T (mkF m pt Ls St)) (kf : ¬ xi = yi → Ends p e below Q T (mkF m pf Ls St)) : Ends p e below Q T (mkF m pc Ls (.int y :: .int x :: St)) := by
  subst hxi hyi
  rcases Classical.em (cmpI .eq x.toInt y.toInt) with w | w
  · exact ow_icmpY X hx hd (cmpI_y w) ho hp (kt w)
  · exact ow_icmpN X hx hd (cmpI_n w) hq (kf (by simp only [cmpI] at w; omega))
theorem ow_if_eq (X : Stand p l e R s m args below meth c T locs cells slots) (hx : p.tables.exec = Jvm.exec) {pc pt pf : Nat} {Ls : Array Slot} {St : List Value} {x : Int32} {o : Int} (xi : Int) (hd : decode c.code pc = .ok (.ifCond .eq o, 3)) (hxi : x.toInt = xi) (ho : 0 ≤ (pc : Int) + o) (hp : ((pc : Int) + o).toNat = pt) (hq : pc + 3 = pf) (kt : xi = 0 → Ends p e below Q T (mkF m pt Ls St)) (kf : ¬ xi = 0 → Ends p e below Q T (mkF m pf Ls St)) : Ends p e below Q T (mkF m pc Ls (.int x :: St)) := by
  subst hxi
  have z0 : (0 : Int32).toInt = 0 := rfl
  rcases Classical.em (cmpI .eq x.toInt (0 : Int32).toInt) with w | w
  · exact ow_ifY X hx hd (cmpI_y w) ho hp (kt (by simp only [cmpI, z0] at w; omega))
  · exact ow_ifN X hx hd (cmpI_n w) hq (kf (by simp only [cmpI, z0] at w; omega))
theorem ow_icmp_ne (X : Stand p l e R s m args below meth c T locs cells slots) (hx : p.tables.exec = Jvm.exec) {pc pt pf : Nat} {Ls : Array Slot} {St : List Value} {x y : Int32} {o : Int} (xi yi : Int) (hd : decode c.code pc = .ok (.if_icmp .ne o, 3)) (hxi : x.toInt = xi) (hyi : y.toInt = yi) (ho : 0 ≤ (pc : Int) + o) (hp : ((pc : Int) + o).toNat = pt) (hq : pc + 3 = pf) (kt : ¬ xi = yi → Ends p e below Q T (mkF m pt Ls St)) (kf : xi = yi → Ends p e below Q T (mkF m pf Ls St)) : Ends p e below Q T (mkF m pc Ls (.int y :: .int x :: St)) := by
  subst hxi hyi
  rcases Classical.em (cmpI .ne x.toInt y.toInt) with w | w
  · exact ow_icmpY X hx hd (cmpI_y w) ho hp (kt w)
  · exact ow_icmpN X hx hd (cmpI_n w) hq (kf (by simp only [cmpI] at w; omega))
theorem ow_if_ne (X : Stand p l e R s m args below meth c T locs cells slots) (hx : p.tables.exec = Jvm.exec) {pc pt pf : Nat} {Ls : Array Slot} {St : List Value} {x : Int32} {o : Int} (xi : Int) (hd : decode c.code pc = .ok (.ifCond .ne o, 3)) (hxi : x.toInt = xi) (ho : 0 ≤ (pc : Int) + o) (hp : ((pc : Int) + o).toNat = pt) (hq : pc + 3 = pf) (kt : ¬ xi = 0 → Ends p e below Q T (mkF m pt Ls St)) (kf : xi = 0 → Ends p e below Q T (mkF m pf Ls St)) : Ends p e below Q T (mkF m pc Ls (.int x :: St)) := by
  subst hxi
  have z0 : (0 : Int32).toInt = 0 := rfl
  rcases Classical.em (cmpI .ne x.toInt (0 : Int32).toInt) with w | w
  · exact ow_ifY X hx hd (cmpI_y w) ho hp (kt (by simp only [cmpI, z0] at w; omega))
  · exact ow_ifN X hx hd (cmpI_n w) hq (kf (by simp only [cmpI, z0] at w; omega))
theorem ow_icmp_lt (X : Stand p l e R s m args below meth c T locs cells slots) (hx : p.tables.exec = Jvm.exec) {pc pt pf : Nat} {Ls : Array Slot} {St : List Value} {x y : Int32} {o : Int} (xi yi : Int) (hd : decode c.code pc = .ok (.if_icmp .lt o, 3)) (hxi : x.toInt = xi) (hyi : y.toInt = yi) (ho : 0 ≤ (pc : Int) + o) (hp : ((pc : Int) + o).toNat = pt) (hq : pc + 3 = pf) (kt : xi < yi → Ends p e below Q T (mkF m pt Ls St)) (kf : ¬ xi < yi → Ends p e below Q T (mkF m pf Ls St)) : Ends p e below Q T (mkF m pc Ls (.int y :: .int x :: St)) := by
  subst hxi hyi
  rcases Classical.em (cmpI .lt x.toInt y.toInt) with w | w
  · exact ow_icmpY X hx hd (cmpI_y w) ho hp (kt w)
  · exact ow_icmpN X hx hd (cmpI_n w) hq (kf (by simp only [cmpI] at w; omega))
theorem ow_ifnullY (X : Stand p l e R s m args below meth c T locs cells slots) (hx : p.tables.exec = Jvm.exec) {pc pc' : Nat} {Ls : Array Slot} {St : List Value} {o : Int} (hd : decode c.code pc = .ok (.ifnull o, 3)) (ho : 0 ≤ (pc : Int) + o) (hp : ((pc : Int) + o).toNat = pc') (kk : Ends p e below Q T (mkF m pc' Ls St)) : Ends p e below Q T (mkF m pc Ls (.null :: St)) := Ends.go (fun _ q => XS.ifnullYes X.here hx rfl (pc0 := pc) (pc' := pc') rfl hd rfl ho hp q) kk
theorem ow_ifnonnullN (X : Stand p l e R s m args below meth c T locs cells slots) (hx : p.tables.exec = Jvm.exec) {pc pc' : Nat} {Ls : Array Slot} {St : List Value} {o : Int} (hd : decode c.code pc = .ok (.ifnonnull o, 3)) (hp : pc + 3 = pc') (kk : Ends p e below Q T (mkF m pc' Ls St)) : Ends p e below Q T (mkF m pc Ls (.null :: St)) := by subst hp; exact Ends.go (fun _ q => XS.ifnonnullNo X.here hx rfl hd rfl q) kk
theorem ow_ifnullN (X : Stand p l e R s m args below meth c T locs cells slots) (hx : p.tables.exec = Jvm.exec) {pc pc' : Nat} {Ls : Array Slot} {St : List Value} {b : Addr} {o : Int} (hd : decode c.code pc = .ok (.ifnull o, 3)) (hp : pc + 3 = pc') (kk : Ends p e below Q T (mkF m pc' Ls St)) : Ends p e below Q T (mkF m pc Ls (.ref b :: St)) := by subst hp; exact Ends.go (fun _ q => XS.ifnullNo X.here hx rfl hd rfl q) kk
theorem ow_ifnonnullY (X : Stand p l e R s m args below meth c T locs cells slots) (hx : p.tables.exec = Jvm.exec) {pc pc' : Nat} {Ls : Array Slot} {St : List Value} {b : Addr} {o : Int} (hd : decode c.code pc = .ok (.ifnonnull o, 3)) (ho : 0 ≤ (pc : Int) + o) (hp : ((pc : Int) + o).toNat = pc') (kk : Ends p e below Q T (mkF m pc' Ls St)) : Ends p e below Q T (mkF m pc Ls (.ref b :: St)) := Ends.go (fun _ q => XS.ifnonnullYes X.here hx rfl (pc0 := pc) (pc' := pc') rfl hd rfl ho hp q) kk
theorem ow_acmp (X : Stand p l e R s m args below meth c T locs cells slots) (hx : p.tables.exec = Jvm.exec) {pc pc' : Nat} {Ls : Array Slot} {St : List Value} {cd : ACond} {x y : Value} (h1 : x.isRef = true) (h2 : y.isRef = true) {o : Int} {same : Bool} (hd : decode c.code pc = .ok (.if_acmp cd o, 3)) (hs : decide (x = y) = same) (ho : 0 ≤ (pc : Int) + o) (hp : (if acV cd same = true then ((pc : Int) + o).toNat else pc + 3) = pc') (kk : Ends p e below Q T (mkF m pc' Ls St)) : Ends p e below Q T (mkF m pc Ls (y :: x :: St)) := Ends.go (fun _ q => Jvm.RoadKit.acmp (g := mkF m pc Ls (y :: x :: St)) X hx rfl h1 h2 (pc0 := pc) (pc' := pc') (same := same) rfl hd rfl hs ho hp.symm q) kk
theorem ow_retB (X : Stand p l e R s m args below meth c T locs cells slots) (hx : p.tables.exec = Jvm.exec) {pc : Nat} {Ls : Array Slot} {rest : List Value} {z z' : Int32} (hret : meth.sig.returnType = some .boolean) (hlk : meth.locks = false) (hd : decode c.code pc = .ok (.ireturn, 1)) {ce sl : Nat} (hc : cells ≤ ce) (hs : slots ≤ sl) {Qv : Option Value → Heap → List Loc → Prop} (hz : nar .boolean z = z') (q : Qv (some (.int z')) T.heap locs) : Ends p e below (Out s ce sl Qv) T (mkF m pc Ls (.int z :: rest)) := by
  subst hz
  obtain ⟨fs, hr, hrun, hended, hW, hsame⟩ := X.leave (v := some (.int (nar .boolean z))) (fun h => by rw [hret] at h; cases h) hlk
  exact ⟨_, _, retN X hx (t := .boolean) hret (by simp) hd hr, hrun, hended, _, _, rfl, q, ⟨_, rfl⟩, hW, hsame.mono hc hs⟩
theorem ow_retA (X : Stand p l e R s m args below meth c T locs cells slots) (hx : p.tables.exec = Jvm.exec) {pc : Nat} {Ls : Array Slot} {w : Value} {t : FieldType} (hret : meth.sig.returnType = some t) (hlk : meth.locks = false) (hw : w.isRef = true) (ht : t.isReference = true) (hd : decode c.code pc = .ok (.areturn, 1)) {ce sl : Nat} (hc : cells ≤ ce) (hs : slots ≤ sl) {Qv : Option Value → Heap → List Loc → Prop} (q : Qv (some w) T.heap locs) : Ends p e below (Out s ce sl Qv) T (mkF m pc Ls [w]) := by
  obtain ⟨fs, hr, hrun, hended, hW, hsame⟩ := X.leave (v := some w) (fun h => by rw [hret] at h; cases h) hlk
  exact ⟨_, _, X.areturnOut hx hw hret ht hd hr, hrun, hended, _, _, rfl, q, ⟨_, rfl⟩, hW, hsame.mono hc hs⟩
theorem ow_retV (X : Stand p l e R s m args below meth c T locs cells slots) (hx : p.tables.exec = Jvm.exec) {pc : Nat} {Ls : Array Slot} (hret : meth.sig.returnType = none) (hlk : meth.locks = false) (hd : decode c.code pc = .ok (.return_, 1)) {ce sl : Nat} (hc : cells ≤ ce) (hs : slots ≤ sl) {Qv : Option Value → Heap → List Loc → Prop} (q : Qv none T.heap locs) : Ends p e below (Out s ce sl Qv) T (mkF m pc Ls []) := by
  obtain ⟨fs, hr, hrun, hended, hW, hsame⟩ := X.leave (v := none) (fun _ => rfl) hlk
  exact ⟨_, _, X.returnOut hx hret hd hr, hrun, hended, _, _, rfl, q, ⟨_, rfl⟩, hW, hsame.mono hc hs⟩
theorem ow_callS (X : Stand p l e R s m args below meth c T locs cells slots) (hx : p.tables.exec = Jvm.exec) (hZ : Z.Warmed39 s.vm) {own : String} {index : Nat} {y : MethodName} {bytes : ByteArray} {maxL : Nat} {ret : Option FieldType} (hown : s.vm.findClass own = some m.cls)
    (wl : (Jvm.Cond.methodLink own index y).before a0 Z = true) (wst : (Jvm.Cond.static y).before a0 Z = true) (wi : (Jvm.Cond.initialized y.cls).before a0 Z = true) (wc : (Jvm.Cond.code y bytes maxL ret).before a0 Z = true) (hy : y.cls ≠ "java/lang/invoke/MethodHandle" ∧ y.cls ≠ "java/lang/invoke/VarHandle")
    {rm : Room} {as' : Array Value} {Qc : Option Value → Heap → List Loc → Prop} (hM : MetFree l y (head1 [Jvm.Cond.code y bytes maxL ret] rm) (fun a U => a = as' ∧ Z.Warmed39 U.vm ∧ U.heap = h) (fun _ _ _ _ _ => True) (fun _ U o U' => ∃ v L, o = .returned v ∧ Qc v U'.heap L ∧ FrameEnd U o U' L rm.cells rm.slots))
    (eT : T.heap = h) (W : Nat) (hf : rm.frames + 1 ≤ R.frames) (hl : W + (maxL + 11) + rm.locals ≤ R.locals) (hce : cells + rm.cells ≤ R.cells) (hsl : slots + rm.slots ≤ R.slots) {pc pc' : Nat} {Ls : Array Slot} {St rest : List Value} (argsL : List Value) {ps : List FieldType} {rt : Option FieldType} (hsize : Ls.size = c.maxLocals) (hdesc : parseMethodDescriptor y.desc = some ⟨ps, rt⟩) (hlen : argsL.length = ps.length) (hst : St = argsL.reverse ++ rest) (has : argsL.toArray = as') (hW : (rest.map fun v => v.category).sum ≤ W)
    (hd : decode c.code pc = .ok (.invokestatic index, 3)) (hp : pc + 3 = pc')
    (kk : ∀ (v : Option Value) (T' : State) (L' : List Loc), Qc v T'.heap L' → Stand p l e R s m args below meth c T' (locs ++ L') (cells + rm.cells) (slots + rm.slots) → Ends p e below Q T' (mkF m pc' Ls (v.toList ++ rest))) : Ends p e below Q T (mkF m pc Ls St) := by
  subst hst has hp
  obtain ⟨v, vm₁, ⟨T', L, k2, n2⟩, -, X', ⟨Lc, hQ, l1, y1, z1⟩, st⟩ := Jvm.LawKit.callS X hx hown (mvT hZ wl) (mvT hZ wst) (mvT hZ wi) (mvT hZ wc) hy (backOf (W := W) hM hZ wc wi hf hl) (g := mkF m pc Ls (argsL.reverse ++ rest)) rfl hsize (argsL := argsL) (rest := rest) (lenOf hdesc hlen) rfl (by show 2 * 0 + _ ≤ _; omega) hd (fun _ _ => ⟨rfl, eT, hce, hsl⟩)
  dsimp only [Pt.U, Pt.locs, Pt.cells, Pt.slots] at X' l1 y1 z1 st hQ
  subst l1 y1 z1
  exact Ends.go st (kk v T' Lc hQ X')
theorem ow_callI (X : Stand p l e R s m args below meth c T locs cells slots) (hx : p.tables.exec = Jvm.exec) (hZ : Z.Warmed39 s.vm) {own : String} {index : Nat} {y : MethodName} {bytes : ByteArray} {maxL : Nat} {ret : Option FieldType} (hret0 : ret = none) (hy1 : y.name = "<init>") (hown : s.vm.findClass own = some m.cls)
    (wl : (Jvm.Cond.methodLink own index y).before a0 Z = true) (wst : (Jvm.Cond.instanceMethod y).before a0 Z = true) (wi : (Jvm.Cond.initialized y.cls).before a0 Z = true) (wc : (Jvm.Cond.code y bytes maxL ret).before a0 Z = true) (hy : y.cls ≠ "java/lang/invoke/MethodHandle" ∧ y.cls ≠ "java/lang/invoke/VarHandle")
    {rm : Room} {as' : Array Value} {Qc : Option Value → Heap → List Loc → Prop} (hM : MetFree l y (head1 [Jvm.Cond.code y bytes maxL ret] rm) (fun a U => a = as' ∧ Z.Warmed39 U.vm ∧ U.heap = h) (fun _ _ _ _ _ => True) (fun _ U o U' => ∃ v L, o = .returned v ∧ Qc v U'.heap L ∧ FrameEnd U o U' L rm.cells rm.slots))
    (eT : T.heap = h) (W : Nat) (hf : rm.frames + 1 ≤ R.frames) (hl : W + (maxL + 11) + rm.locals ≤ R.locals) (hce : cells + rm.cells ≤ R.cells) (hsl : slots + rm.slots ≤ R.slots) {pc pc' : Nat} {Ls : Array Slot} {St rest : List Value} (argsL : List Value) {ps : List FieldType} {rt : Option FieldType} (hsize : Ls.size = c.maxLocals) (hdesc : parseMethodDescriptor y.desc = some ⟨ps, rt⟩) (hlen : argsL.length = ps.length) {a : Addr} (hst : St = argsL.reverse ++ .ref a :: rest) (has : (Value.ref a :: argsL).toArray = as') (hW : (rest.map fun v => v.category).sum ≤ W)
    (hd : decode c.code pc = .ok (.invokespecial index, 3)) (hp : pc + 3 = pc')
    (kk : ∀ (v : Option Value) (T' : State) (L' : List Loc), Qc v T'.heap L' → Stand p l e R s m args below meth c T' (locs ++ L') (cells + rm.cells) (slots + rm.slots) → Ends p e below Q T' (mkF m pc' Ls (v.toList ++ rest))) : Ends p e below Q T (mkF m pc Ls St) := by
  subst hst has hp hret0
  obtain ⟨v, vm₁, ⟨T', L, k2, n2⟩, -, X', ⟨Lc, hQ, l1, y1, z1⟩, st⟩ := X.specialBack hx hy1 hown (mvT hZ wl) (mvT hZ wst) (mvT hZ wc) hy (backOf (W := W) hM hZ wc wi hf hl) (g := mkF m pc Ls (argsL.reverse ++ .ref a :: rest)) rfl hsize (Steps.refl _) (a := a) (argsL := argsL) (rest := rest) (lenOf hdesc hlen) rfl (by show 2 * 0 + _ ≤ _; omega) hd (fun _ _ => ⟨rfl, eT, hce, hsl⟩)
  dsimp only [Pt.U, Pt.locs, Pt.cells, Pt.slots] at X' l1 y1 z1 st hQ
  subst l1 y1 z1
  exact Ends.thru st (kk v T' Lc hQ X')
theorem ow_callV (X : Stand p l e R s m args below meth c T locs cells slots) (hx : p.tables.exec = Jvm.exec) (hZ : Z.Warmed39 s.vm) {own C : String} {index : Nat} {y y' : MethodName} (hyy : y = y') {bytes : ByteArray} {maxL : Nat} {ret : Option FieldType} (hown : s.vm.findClass own = some m.cls)
    (wl : (Jvm.Cond.methodLink own index y).before a0 Z = true) (wd : (Jvm.Cond.declares y).before a0 Z = true) (wsel : (Jvm.Cond.selects C y y').before a0 Z = true) (wst : (Jvm.Cond.instanceMethod y').before a0 Z = true) (wi : (Jvm.Cond.initialized y'.cls).before a0 Z = true) (wc : (Jvm.Cond.code y' bytes maxL ret).before a0 Z = true) (hy : y.cls ≠ "java/lang/invoke/MethodHandle" ∧ y.cls ≠ "java/lang/invoke/VarHandle")
    {rm : Room} {as' : Array Value} {Qc : Option Value → Heap → List Loc → Prop} (hM : MetFree l y' (head1 [Jvm.Cond.code y' bytes maxL ret] rm) (fun a U => a = as' ∧ Z.Warmed39 U.vm ∧ U.heap = h) (fun _ _ _ _ _ => True) (fun _ U o U' => ∃ v L, o = .returned v ∧ Qc v U'.heap L ∧ FrameEnd U o U' L rm.cells rm.slots))
    (eT : T.heap = h) (W : Nat) (hf : rm.frames + 1 ≤ R.frames) (hl : W + (maxL + 11) + rm.locals ≤ R.locals) (hce : cells + rm.cells ≤ R.cells) (hsl : slots + rm.slots ≤ R.slots) {pc pc' : Nat} {Ls : Array Slot} {St rest : List Value} (argsL : List Value) {ps : List FieldType} {rt : Option FieldType} (hsize : Ls.size = c.maxLocals) (hdesc : parseMethodDescriptor y.desc = some ⟨ps, rt⟩) (hlen : argsL.length = ps.length) {a : Addr} (E : Exa Z h a C) (hst : St = argsL.reverse ++ .ref a :: rest) (has : (Value.ref a :: argsL).toArray = as') (hW : (rest.map fun v => v.category).sum ≤ W)
    (hd : decode c.code pc = .ok (.invokevirtual index, 3)) (hp : pc + 3 = pc')
    (kk : ∀ (v : Option Value) (T' : State) (L' : List Loc), Qc v T'.heap L' → Stand p l e R s m args below meth c T' (locs ++ L') (cells + rm.cells) (slots + rm.slots) → Ends p e below Q T' (mkF m pc' Ls (v.toList ++ rest))) : Ends p e below Q T (mkF m pc Ls St) := by
  subst hst has hp hyy
  obtain ⟨cq, kq, qa, qb, qc⟩ := isOf hZ eT E
  obtain ⟨v, vm₁, ⟨T', L, k2, n2⟩, -, X', ⟨Lc, hQ, l1, y1, z1⟩, st⟩ := X.virtualBack hx hown (mvT hZ wl) (mvT hZ wd) (notFace_of_selects (args := #[]) (mvT hZ wsel)) (mvT hZ wsel) (mvT hZ wst) hy (backOf (W := W) hM hZ wc wi hf hl) qa qc (g := mkF m pc Ls (argsL.reverse ++ .ref a :: rest)) rfl hsize (Steps.refl _) (argsL := argsL) (rest := rest) (lenOf hdesc hlen) rfl (by show 2 * 0 + _ ≤ _; omega) hd (fun _ _ => ⟨rfl, eT, hce, hsl⟩)
  dsimp only [Pt.U, Pt.locs, Pt.cells, Pt.slots] at X' l1 y1 z1 st hQ
  subst l1 y1 z1
  exact Ends.thru st (kk v T' Lc hQ X')
/-- Object's constructor -/
theorem ow_init0 (X : Stand p l e R s m args below meth c T locs cells slots) (hx : p.tables.exec = Jvm.exec) (hZ : Z.Warmed39 s.vm) {own : String} {index : Nat} (hown : s.vm.findClass own = some m.cls) (wl : (Jvm.Cond.methodLink own index Lib.objectInit).before a0 Z = true) (wst : (Jvm.Cond.instanceMethod Lib.objectInit).before a0 Z = true) (wc : (Jvm.Cond.code Lib.objectInit ⟨#[0xb1]⟩ 1 none).before a0 Z = true)
    (eT : T.heap = h) (W : Nat) (hf : 1 ≤ R.frames) (hl : W + 12 ≤ R.locals) {pc pc' : Nat} {Ls : Array Slot} {a : Addr} {St : List Value} (hsize : Ls.size = c.maxLocals) (hW : (St.map fun v => v.category).sum ≤ W) (hd : decode c.code pc = .ok (.invokespecial index, 3)) (hp : pc + 3 = pc')
    (kk : ∀ T' : State, Stand p l e R s m args below meth c T' locs cells slots → T'.heap = h → Ends p e below Q T' (mkF m pc' Ls St)) : Ends p e below Q T (mkF m pc Ls (.ref a :: St)) := by
  subst hp
  obtain ⟨T', X', e', st⟩ := initO X hx hZ hown wl wst wc eT (g := mkF m pc Ls (.ref a :: St)) rfl hsize rfl hd hf (W := W) (by show 2 * 0 + _ ≤ _; omega) hl
  exact Ends.go st (kk T' X' e')
theorem ow_getF (X : Stand p l e R s m args below meth c T locs cells slots) (hx : p.tables.exec = Jvm.exec) (hZ : Z.Warmed39 s.vm) {own R0 O n d host : String} {index : Nat} (hown : s.vm.findClass own = some m.cls) (w : (Jvm.Cond.fieldLink own index R0 n d).before a0 Z = true ∨ (Jvm.Cond.fieldLinkNest own index R0 n d host).before a0 Z = true) (via : Via Z R0 O n d) (eT : T.heap = h) {a : Addr} {v : Value} (F : Fld Z h a O n d v) {pc pc' : Nat} {Ls : Array Slot} {St : List Value} (hd : decode c.code pc = .ok (.getfield index, 3)) (hp : pc + 3 = pc')
    (kk : ∀ T' : State, Stand p l e R s m args below meth c T' locs cells slots → T'.heap = h → Ends p e below Q T' (mkF m pc' Ls (v :: St))) : Ends p e below Q T (mkF m pc Ls (.ref a :: St)) := by
  subst hp
  obtain ⟨T', X', e', st⟩ := getF X hx hZ hown w via eT F (g := mkF m pc Ls (.ref a :: St)) rfl rfl hd
  exact Ends.go st (kk T' X' e')
theorem ow_getS (X : Stand p l e R s m args below meth c T locs cells slots) (hx : p.tables.exec = Jvm.exec) (hZ : Z.Warmed39 s.vm) {own R0 O n d host : String} {index : Nat} (hown : s.vm.findClass own = some m.cls) (w : (Jvm.Cond.fieldLink own index R0 n d).before a0 Z = true ∨ (Jvm.Cond.fieldLinkNest own index R0 n d host).before a0 Z = true) (via : Via Z R0 O n d) (eT : T.heap = h) {v : Value} (F : Sta Z h O n d v) {pc pc' : Nat} {Ls : Array Slot} {St : List Value} (hd : decode c.code pc = .ok (.getstatic index, 3)) (hp : pc + 3 = pc')
    (kk : ∀ T' : State, Stand p l e R s m args below meth c T' locs cells slots → T'.heap = h → Ends p e below Q T' (mkF m pc' Ls (v :: St))) : Ends p e below Q T (mkF m pc Ls St) := by
  subst hp
  obtain ⟨T', X', e', st⟩ := getS2 X hx hZ hown w via eT F (g := mkF m pc Ls St) rfl hd
  exact Ends.go st (kk T' X' e')
theorem ow_putF (X : Stand p l e R s m args below meth c T locs cells slots) (hx : p.tables.exec = Jvm.exec) (hZ : Z.Warmed39 s.vm) {own R0 O n d host C : String} {index kn : Nat} {ty : FieldType} (hown : s.vm.findClass own = some m.cls) (w : (Jvm.Cond.fieldLink own index R0 n d).before a0 Z = true ∨ (Jvm.Cond.fieldLinkNest own index R0 n d host).before a0 Z = true) (via : Via Z R0 O n d) (eT : T.heap = h) {a : Addr} {v old : Value} (F : Fld Z h a O n d old) (E : Exa Z h a C)
    (L : (Jvm.Cond.lays C O n d).before a0 Z = true ∨ ((Jvm.Cond.laysFinal C O n d).before a0 Z = true ∧ own = O ∧ meth.name = "<init>")) (wi : (Jvm.Cond.instantiable C kn).before a0 Z = true) (hty : parseFieldDescriptor d = some ty) (hn : narrow ty v = v) (hft : fits ty v = true) {pc pc' : Nat} {Ls : Array Slot} {St : List Value} (hd : decode c.code pc = .ok (.putfield index, 3)) (hp : pc + 3 = pc')
    (kk : ∀ (T' : State) (h' : Heap), Stand p l e R s m args below meth c T' (locs ++ [⟨a, Jvm.RoadKit.slotOf Z O n d⟩]) cells slots → T'.heap = h' → Wr h h' a (Jvm.RoadKit.slotOf Z O n d) v → Ends p e below Q T' (mkF m pc' Ls St)) : Ends p e below Q T (mkF m pc Ls (v :: .ref a :: St)) := by
  subst hp
  obtain ⟨T', h', X', e', W', st⟩ := putF X hx hZ hown w via eT F E L wi hty hn hft (g := mkF m pc Ls (v :: .ref a :: St)) rfl rfl hd
  exact Ends.go st (kk T' h' X' e' W')
theorem ow_putFN (X : Stand p l e R s m args below meth c T locs cells slots) (hx : p.tables.exec = Jvm.exec) (hZ : Z.Warmed39 s.vm) {own R0 O n d C : String} {index kn : Nat} {ty : FieldType} (hown : s.vm.findClass own = some m.cls) (w : (Jvm.Cond.fieldLink own index R0 n d).before a0 Z = true) (via : Via Z R0 O n d) (eT : T.heap = h) {a : Addr} {v v' old : Value} (F : Fld Z h a O n d old) (E : Exa Z h a C)
    (L : (Jvm.Cond.lays C O n d).before a0 Z = true ∨ ((Jvm.Cond.laysFinal C O n d).before a0 Z = true ∧ own = O ∧ meth.name = "<init>")) (wi : (Jvm.Cond.instantiable C kn).before a0 Z = true) (hty : parseFieldDescriptor d = some ty) (hn : narrow ty v = v') (hft : fits ty v' = true) {pc pc' : Nat} {Ls : Array Slot} {St : List Value} (hd : decode c.code pc = .ok (.putfield index, 3)) (hp : pc + 3 = pc')
    (kk : ∀ (T' : State) (h' : Heap), Stand p l e R s m args below meth c T' (locs ++ [⟨a, Jvm.RoadKit.slotOf Z O n d⟩]) cells slots → T'.heap = h' → Wr h h' a (Jvm.RoadKit.slotOf Z O n d) v' → Ends p e below Q T' (mkF m pc' Ls St)) : Ends p e below Q T (mkF m pc Ls (v :: .ref a :: St)) := by
  subst hp
  obtain ⟨T', h', X', e', W', st⟩ := putFN X hx hZ hown w via eT F E L wi hty hn hft (g := mkF m pc Ls (v :: .ref a :: St)) rfl rfl hd
  exact Ends.go st (kk T' h' X' e' W')
theorem ow_new (X : Stand p l e R s m args below meth c T locs cells slots) (hx : p.tables.exec = Jvm.exec) (hZ : Z.Warmed39 s.vm) {own C : String} {index n : Nat} (hown : s.vm.findClass own = some m.cls) (w : (Jvm.Cond.classLink own index C).before a0 Z = true) (wi : (Jvm.Cond.instantiable C n).before a0 Z = true) (wz : (Jvm.Cond.initialized C).before a0 Z = true) (eT : T.heap = h) {pc pc' : Nat} {Ls : Array Slot} {St : List Value} (hd : decode c.code pc = .ok (.new index, 3)) (hc : cells + 1 ≤ R.cells) (hl : slots + n ≤ R.slots) (hp : pc + 3 = pc')
    (kk : ∀ (T' : State) (h' : Heap) (b : Addr), b = h.size → Stand p l e R s m args below meth c T' locs (cells + 1) (slots + n) → T'.heap = h' → Ext h h' → Exa Z h' b C → (∀ {O nm d : String} {ty : FieldType}, Laid Z a0 C O nm d → parseFieldDescriptor d = some ty → Fld Z h' b O nm d (defaultValue ty)) → Ends p e below Q T' (mkF m pc' Ls (.ref b :: St))) : Ends p e below Q T (mkF m pc Ls St) := by
  subst hp
  obtain ⟨T', h', X', e', E', A', D', -, st⟩ := newO X hx hZ hown w wi wz eT (g := mkF m pc Ls St) rfl hd hc hl
  exact Ends.go st (kk T' h' _ rfl X' e' E' A' D')
theorem ow_stC (X : Stand p l e R s m args below meth c T locs cells slots) (hx : p.tables.exec = Jvm.exec) (hZ : Z.Warmed39 s.vm) (eT : T.heap = h) {a : Addr} {k : ClassId} {z : Int32} {vs : List Value} {dv : Value} (V : Arv Z h a k .char z vs dv) {pc pc' : Nat} {Ls : Array Slot} {St : List Value} {j x : Int32} (i : Nat) (hj : j.toNatClampNeg = i) (hj0 : ¬ j < 0) (hjz : j < z) (hi : i < vs.length) (hd : decode c.code pc = .ok (.castore, 1)) (hp : pc + 1 = pc')
    (kk : ∀ (T' : State) (h' : Heap), Stand p l e R s m args below meth c T' (locs ++ [⟨a, j.toNatClampNeg⟩]) cells slots → T'.heap = h' → Wr h h' a j.toNatClampNeg (.int (nar .char x)) → Arv Z h' a k .char z (vs.set i (.int (nar .char x))) dv → Ends p e below Q T' (mkF m pc' Ls St)) : Ends p e below Q T (mkF m pc Ls (.int x :: .int j :: .ref a :: St)) := by
  subst hp
  obtain ⟨cl, A, q1, S, N, H, G⟩ := V
  obtain ⟨T', h', X', e', W', st⟩ := stC X hx hZ eT A (inb_of S ⟨hj0, hjz⟩) (g := mkF m pc Ls (.int x :: .int j :: .ref a :: St)) rfl rfl hd
  exact Ends.go st (kk T' h' X' e' W' (Arv.set A q1 S N H G (fits_nar_char _) W' i hj hi))
theorem ow_stB (X : Stand p l e R s m args below meth c T locs cells slots) (hx : p.tables.exec = Jvm.exec) (hZ : Z.Warmed39 s.vm) (eT : T.heap = h) {a : Addr} {k : ClassId} {z : Int32} {vs : List Value} {dv : Value} (V : Arv Z h a k .byte z vs dv) {pc pc' : Nat} {Ls : Array Slot} {St : List Value} {j x : Int32} (i : Nat) (hj : j.toNatClampNeg = i) (hj0 : ¬ j < 0) (hjz : j < z) (hi : i < vs.length) (hd : decode c.code pc = .ok (.bastore, 1)) (hp : pc + 1 = pc')
    (kk : ∀ (T' : State) (h' : Heap), Stand p l e R s m args below meth c T' (locs ++ [⟨a, j.toNatClampNeg⟩]) cells slots → T'.heap = h' → Wr h h' a j.toNatClampNeg (.int x.toInt8.toInt32) → Arv Z h' a k .byte z (vs.set i (.int x.toInt8.toInt32)) dv → Ends p e below Q T' (mkF m pc' Ls St)) : Ends p e below Q T (mkF m pc Ls (.int x :: .int j :: .ref a :: St)) := by
  subst hp
  obtain ⟨cl, A, q1, S, N, H, G⟩ := V
  obtain ⟨T', h', X', e', W', st⟩ := stB X hx hZ eT A (inb_of S ⟨hj0, hjz⟩) (g := mkF m pc Ls (.int x :: .int j :: .ref a :: St)) rfl rfl hd
  exact Ends.go st (kk T' h' X' e' W' (Arv.set A q1 S N H G (fits_nar_byte _) W' i hj hi))
theorem ow_ldB (X : Stand p l e R s m args below meth c T locs cells slots) (hx : p.tables.exec = Jvm.exec) (hZ : Z.Warmed39 s.vm) (eT : T.heap = h) {a : Addr} {k : ClassId} {z : Int32} {vs : List Value} {dv : Value} (V : Arv Z h a k .byte z vs dv) {pc pc' : Nat} {Ls : Array Slot} {St : List Value} {j : Int32} {v : Value} (hj0 : ¬ j < 0) (hjz : j < z) (hv : vs.getD j.toNatClampNeg dv = v) (hd : decode c.code pc = .ok (.baload, 1)) (hp : pc + 1 = pc')
    (kk : Ends p e below Q T (mkF m pc' Ls (v :: St))) : Ends p e below Q T (mkF m pc Ls (.int j :: .ref a :: St)) := by
  subst hp
  obtain ⟨cl, A, q1, S, N, H, G⟩ := V
  have hin := inb_of S ⟨hj0, hjz⟩
  exact Ends.go (X.baloadBytes hx (by rw [eT]; exact A.1) (State.isArrayOf_alike hZ.alike A.2.1) A.2.2 hin (H.at hin hv) (g := mkF m pc Ls (.int j :: .ref a :: St)) rfl rfl hd) kk
theorem ow_newPE (X : Stand p l e R s m args below meth c T locs cells slots) (hx : p.tables.exec = Jvm.exec) (hZ : Z.Warmed39 s.vm) {aty : ArrayType} (w : (Jvm.Cond.arrayClass (newarray.typeOf aty)).before a0 Z = true) (eT : T.heap = h) {pc pc' : Nat} {Ls : Array Slot} {St : List Value} {n : Int32} (hd : decode c.code pc = .ok (.newarray aty, 2)) (hn : ¬ n < 0) (cap : Nat) (hcap : n.toNatClampNeg ≤ cap) (hb : cap * 8 ≤ 536870912) (hc : cells + 1 ≤ R.cells) (hl : slots + cap ≤ R.slots) {ad : String} (had : "[" ++ (newarray.typeOf aty).toString = ad) (hp : pc + 2 = pc')
    (kk : ∀ (T' : State) (h' : Heap) (b : Addr) (k : ClassId), b = h.size → Stand p l e R s m args below meth c T' locs (cells + 1) (slots + cap) → T'.heap = h' → Ext h h' → Arv Z h' b k (newarray.typeOf aty) n [] (defaultValue (newarray.typeOf aty)) → Exa Z h' b ad → Ends p e below Q T' (mkF m pc' Ls (.ref b :: St))) : Ends p e below Q T (mkF m pc Ls (.int n :: St)) := by
  subst hp
  obtain ⟨T', h', k, X', e', E', A', B', st⟩ := newPE X hx hZ w eT (g := mkF m pc Ls (.int n :: St)) rfl hd rfl hn (cap := cap) hcap hb hc hl had
  exact Ends.go st (kk T' h' _ k rfl X' e' E' (Arv.new A' hn) B')
theorem ow_castY (X : Stand p l e R s m args below meth c T locs cells slots) (hx : p.tables.exec = Jvm.exec) (hZ : Z.Warmed39 s.vm) {own K : String} {index : Nat} (hown : s.vm.findClass own = some m.cls) (w : (Jvm.Cond.classLink own index K).before a0 Z = true) (eT : T.heap = h) {a : Addr} (F : Ins Z h a K true) {pc pc' : Nat} {Ls : Array Slot} {St : List Value} (hd : decode c.code pc = .ok (.checkcast index, 3)) (hp : pc + 3 = pc')
    (kk : ∀ T' : State, Stand p l e R s m args below meth c T' locs cells slots → T'.heap = h → Ends p e below Q T' (mkF m pc' Ls (.ref a :: St))) : Ends p e below Q T (mkF m pc Ls (.ref a :: St)) := by
  subst hp
  obtain ⟨T', X', e', st⟩ := castY X hx hZ hown w eT F (g := mkF m pc Ls (.ref a :: St)) rfl rfl hd
  exact Ends.go st (kk T' X' e')
theorem ow_instY (X : Stand p l e R s m args below meth c T locs cells slots) (hx : p.tables.exec = Jvm.exec) (hZ : Z.Warmed39 s.vm) {own K : String} {index : Nat} (hown : s.vm.findClass own = some m.cls) (w : (Jvm.Cond.classLink own index K).before a0 Z = true) (eT : T.heap = h) {a : Addr} (F : Ins Z h a K true) {pc pc' : Nat} {Ls : Array Slot} {St : List Value} (hd : decode c.code pc = .ok (.instanceof index, 3)) (hp : pc + 3 = pc')
    (kk : ∀ T' : State, Stand p l e R s m args below meth c T' locs cells slots → T'.heap = h → Ends p e below Q T' (mkF m pc' Ls (.int 1 :: St))) : Ends p e below Q T (mkF m pc Ls (.ref a :: St)) := by
  subst hp
  obtain ⟨T', X', e', st⟩ := instY X hx hZ hown w eT F (g := mkF m pc Ls (.ref a :: St)) rfl rfl hd
  exact Ends.go st (kk T' X' e')
theorem ow_len (X : Stand p l e R s m args below meth c T locs cells slots) (hx : p.tables.exec = Jvm.exec) (hZ : Z.Warmed39 s.vm) (eT : T.heap = h) {a : Addr} {k : ClassId} {ty : FieldType} {z : Int32} {vs : List Value} {dv : Value} (V : Arv Z h a k ty z vs dv) {pc pc' : Nat} {Ls : Array Slot} {St : List Value} (hd : decode c.code pc = .ok (.arraylength, 1)) (hp : pc + 1 = pc')
    (kk : Ends p e below Q T (mkF m pc' Ls (.int z :: St))) : Ends p e below Q T (mkF m pc Ls (.ref a :: St)) := by
  subst hp
  obtain ⟨cl, A, q1, S, N, H, G⟩ := V
  refine Ends.go (X.arraylength hx (by rw [eT]; exact A.1) (State.isArrayOf_alike hZ.alike A.2.1) (g := mkF m pc Ls (.ref a :: St)) rfl rfl hd) ?_
  rw [len_of S N]
  exact kk
/-- a body that returns a number and leaves the heap as it is -/
def QI (P : Int32 → Prop) (h0 : Heap) (v : Option Value) (h : Heap) (L : List Loc) : Prop := ∃ z, v = some (.int z) ∧ P z ∧ L = [] ∧ h = h0
theorem ow_callPI (X : Stand p l e R s m args below meth c T locs cells slots) (hx : p.tables.exec = Jvm.exec) (hZ : Z.Warmed39 s.vm) {own : String} {index : Nat} {y : MethodName} {bytes : ByteArray} {maxL : Nat} {ret : Option FieldType} (hown : s.vm.findClass own = some m.cls)
    (wl : (Jvm.Cond.methodLink own index y).before a0 Z = true) (wst : (Jvm.Cond.static y).before a0 Z = true) (wi : (Jvm.Cond.initialized y.cls).before a0 Z = true) (wc : (Jvm.Cond.code y bytes maxL ret).before a0 Z = true) (hy : y.cls ≠ "java/lang/invoke/MethodHandle" ∧ y.cls ≠ "java/lang/invoke/VarHandle")
    {fr lo : Nat} {as' : Array Value} {P : Int32 → Prop} (hM : MetFree l y (head1 [Jvm.Cond.code y bytes maxL ret] ({ frames := fr, cells := 0, slots := 0, locals := lo } : Room)) (fun a U => a = as' ∧ Z.Warmed39 U.vm ∧ U.heap = h) (fun _ _ _ _ _ => True) (fun _ U o U' => ∃ v L, o = .returned v ∧ QI P h v U'.heap L ∧ FrameEnd U o U' L 0 0))
    (eT : T.heap = h) (W : Nat) (hf : fr + 1 ≤ R.frames) (hl : W + (maxL + 11) + lo ≤ R.locals) (hce : cells ≤ R.cells) (hsl : slots ≤ R.slots) {pc pc' : Nat} {Ls : Array Slot} {St rest : List Value} (argsL : List Value) {ps : List FieldType} {rt : Option FieldType} (hsize : Ls.size = c.maxLocals) (hdesc : parseMethodDescriptor y.desc = some ⟨ps, rt⟩) (hlen : argsL.length = ps.length) (hst : St = argsL.reverse ++ rest) (has : argsL.toArray = as') (hW : (rest.map fun v => v.category).sum ≤ W)
    (hd : decode c.code pc = .ok (.invokestatic index, 3)) (hp : pc + 3 = pc')
    (kk : ∀ (z : Int32) (T' : State), P z → Stand p l e R s m args below meth c T' locs cells slots → T'.heap = h → Ends p e below Q T' (mkF m pc' Ls (.int z :: rest))) : Ends p e below Q T (mkF m pc Ls St) := by
  refine ow_callS X hx hZ hown wl wst wi wc hy hM eT W hf hl hce hsl argsL hsize hdesc hlen hst has hW hd hp ?_
  rintro v T' L' ⟨z, rfl, hP, rfl, hh⟩ X'
  rw [List.append_nil] at X'
  exact kk z T' hP X' hh
theorem ow_callVPI (X : Stand p l e R s m args below meth c T locs cells slots) (hx : p.tables.exec = Jvm.exec) (hZ : Z.Warmed39 s.vm) {own C : String} {index : Nat} {y y' : MethodName} (hyy : y = y') {bytes : ByteArray} {maxL : Nat} {ret : Option FieldType} (hown : s.vm.findClass own = some m.cls)
    (wl : (Jvm.Cond.methodLink own index y).before a0 Z = true) (wd : (Jvm.Cond.declares y).before a0 Z = true) (wsel : (Jvm.Cond.selects C y y').before a0 Z = true) (wst : (Jvm.Cond.instanceMethod y').before a0 Z = true) (wi : (Jvm.Cond.initialized y'.cls).before a0 Z = true) (wc : (Jvm.Cond.code y' bytes maxL ret).before a0 Z = true) (hy : y.cls ≠ "java/lang/invoke/MethodHandle" ∧ y.cls ≠ "java/lang/invoke/VarHandle")
    {fr lo : Nat} {as' : Array Value} {P : Int32 → Prop} (hM : MetFree l y' (head1 [Jvm.Cond.code y' bytes maxL ret] ({ frames := fr, cells := 0, slots := 0, locals := lo } : Room)) (fun a U => a = as' ∧ Z.Warmed39 U.vm ∧ U.heap = h) (fun _ _ _ _ _ => True) (fun _ U o U' => ∃ v L, o = .returned v ∧ QI P h v U'.heap L ∧ FrameEnd U o U' L 0 0))
    (eT : T.heap = h) (W : Nat) (hf : fr + 1 ≤ R.frames) (hl : W + (maxL + 11) + lo ≤ R.locals) (hce : cells ≤ R.cells) (hsl : slots ≤ R.slots) {pc pc' : Nat} {Ls : Array Slot} {St rest : List Value} (argsL : List Value) {ps : List FieldType} {rt : Option FieldType} (hsize : Ls.size = c.maxLocals) (hdesc : parseMethodDescriptor y.desc = some ⟨ps, rt⟩) (hlen : argsL.length = ps.length) {a : Addr} (E : Exa Z h a C) (hst : St = argsL.reverse ++ .ref a :: rest) (has : (Value.ref a :: argsL).toArray = as') (hW : (rest.map fun v => v.category).sum ≤ W)
    (hd : decode c.code pc = .ok (.invokevirtual index, 3)) (hp : pc + 3 = pc')
    (kk : ∀ (z : Int32) (T' : State), P z → Stand p l e R s m args below meth c T' locs cells slots → T'.heap = h → Ends p e below Q T' (mkF m pc' Ls (.int z :: rest))) : Ends p e below Q T (mkF m pc Ls St) := by
  refine ow_callV X hx hZ hyy hown wl wd wsel wst wi wc hy hM eT W hf hl hce hsl argsL hsize hdesc hlen E hst has hW hd hp ?_
  rintro v T' L' ⟨z, rfl, hP, rfl, hh⟩ X'
  rw [List.append_nil] at X'
  exact kk z T' hP X' hh
theorem ow_callIB (X : Stand p l e R s m args below meth c T locs cells slots) (hx : p.tables.exec = Jvm.exec) (hZ : Z.Warmed39 s.vm) {own : String} {index : Nat} {y : MethodName} {bytes : ByteArray} {maxL : Nat} (hy1 : y.name = "<init>") (hown : s.vm.findClass own = some m.cls)
    (wl : (Jvm.Cond.methodLink own index y).before a0 Z = true) (wst : (Jvm.Cond.instanceMethod y).before a0 Z = true) (wc : (Jvm.Cond.code y bytes maxL none).before a0 Z = true) (hy : y.cls ≠ "java/lang/invoke/MethodHandle" ∧ y.cls ≠ "java/lang/invoke/VarHandle")
    {W ck sk : Nat} {as' : Array Value} {Qc : Option Value → Heap → List Loc → Prop} (hK : Back l R p e below s args y 3 W (fun A a => a = as' ∧ A.U.heap = h ∧ A.cells + ck ≤ R.cells ∧ A.slots + sk ≤ R.slots) (fun A _ v B => ∃ L, Qc v B.U.heap L ∧ B.locs = A.locs ++ L ∧ B.cells = A.cells + ck ∧ B.slots = A.slots + sk))
    (eT : T.heap = h) (hce : cells + ck ≤ R.cells) (hsl : slots + sk ≤ R.slots) {pc pc' : Nat} {Ls : Array Slot} {St rest : List Value} (argsL : List Value) {ps : List FieldType} {rt : Option FieldType} (hsize : Ls.size = c.maxLocals) (hdesc : parseMethodDescriptor y.desc = some ⟨ps, rt⟩) (hlen : argsL.length = ps.length) {a : Addr} (hst : St = argsL.reverse ++ .ref a :: rest) (has : (Value.ref a :: argsL).toArray = as') (hW : (rest.map fun v => v.category).sum ≤ W)
    (hd : decode c.code pc = .ok (.invokespecial index, 3)) (hp : pc + 3 = pc')
    (kk : ∀ (v : Option Value) (T' : State) (L' : List Loc), Qc v T'.heap L' → Stand p l e R s m args below meth c T' (locs ++ L') (cells + ck) (slots + sk) → Ends p e below Q T' (mkF m pc' Ls (v.toList ++ rest))) : Ends p e below Q T (mkF m pc Ls St) := by
  subst hst has hp
  obtain ⟨v, vm₁, ⟨T', L, k2, n2⟩, -, X', ⟨Lc, hQ, l1, y1, z1⟩, st⟩ := X.specialBack hx hy1 hown (mvT hZ wl) (mvT hZ wst) (mvT hZ wc) hy hK (g := mkF m pc Ls (argsL.reverse ++ .ref a :: rest)) rfl hsize (Steps.refl _) (a := a) (argsL := argsL) (rest := rest) (lenOf hdesc hlen) rfl (by show 2 * 0 + _ ≤ _; omega) hd (fun _ _ => ⟨rfl, eT, hce, hsl⟩)
  dsimp only [Pt.U, Pt.locs, Pt.cells, Pt.slots] at X' l1 y1 z1 st hQ
  subst l1 y1 z1
  exact Ends.thru st (kk v T' Lc hQ X')
def OutI (s : State) (ce sl : Nat) (Qv : Option Value → Heap → List Loc → Vm → Prop) (o : Outcome) (U : State) : Prop := ∃ v L, o = .returned v ∧ Qv v U.heap L U.vm ∧ ReturnedEndW s o U L ce sl
theorem ow_bodyI {y : MethodName} {bytes : ByteArray} {ml : Nat} {ret : Option FieldType} {ws : List Jvm.Cond} {rm : Room} {as : Array Value} {ce sl : Nat} {Iv : Vm → Prop} {Qv : Option Value → Heap → List Loc → Vm → Prop} (hp : plainFor y = true)
    (body : ∀ (p : Program) (e : Env) (s : State) (m : MethodId) (below : List Frame) (meth : Method) (c : Code) (T : State), Stand p l e rm (s.setVm s.vm) m as below meth c T [] 0 0 → p.tables.exec = Jvm.exec → Z.Warmed39 (s.setVm s.vm).vm → c.code = bytes → c.maxLocals = ml → (s.setVm s.vm).vm.findClass y.cls = some m.cls → meth.name = y.name → meth.sig.returnType = ret → meth.locks = false → T.heap = h → s.heap = h → s.Since s.vm 0 → Iv (s.setVm s.vm).vm → Ends p e below (OutI s ce sl Qv) T (entryFrame m as ml)) :
    MetFree l y (head1 (Jvm.Cond.code y bytes ml ret :: ws) rm) (fun a U => a = as ∧ Z.Warmed39 U.vm ∧ U.heap = h ∧ Iv U.vm) (fun _ _ _ _ _ => True) (fun _ U o U' => ∃ v L, o = .returned v ∧ Qv v U'.heap L U'.vm ∧ ReturnedEndW U o U' L ce sl) := by
  refine MetFree.of_bodySF hp hisR ?_
  intro p e s m args below meth c s₁ Bd hml0 hP hK
  obtain ⟨rfl, hZ, hh, hI⟩ := hP
  exact body p e s m below meth c s₁ (Stand.of_body Bd) Bd.exec hZ Bd.bytes hml0 (findClass_of_methodNamed Bd.named) (name_of_methodNamed Bd.named Bd.method).1 Bd.returns Bd.notSynchronized (by rw [← hh, Bd.state]; rfl) hh ((State.WarmedH.refl s).since 0) hI
theorem ow_retBI {vm0 : Vm} (X : Stand p l e R (s.setVm vm0) m args below meth c T locs cells slots) (hx : p.tables.exec = Jvm.exec) {pc : Nat} {Ls : Array Slot} {rest : List Value} {z z' : Int32} (hret : meth.sig.returnType = some .boolean) (hlk : meth.locks = false) (hd : decode c.code pc = .ok (.ireturn, 1)) {k1 : Nat} (hS : s.Since vm0 k1) (hk : k1 ≤ T.heap.size) {ce sl : Nat} (hc : cells ≤ ce) (hs : slots ≤ sl) {Qv : Option Value → Heap → List Loc → Vm → Prop} (hz : nar .boolean z = z') (q : Qv (some (.int z')) T.heap locs T.vm) : Ends p e below (OutI s ce sl Qv) T (mkF m pc Ls (.int z :: rest)) := by
  subst hz
  obtain ⟨fs, hr, hrun, hended, h1, h2, h3, h4⟩ := X.leaveW hS hk (v := some (.int (nar .boolean z))) (fun h => by rw [hret] at h; cases h) hlk
  exact ⟨_, _, retN X hx (t := .boolean) hret (by simp) hd hr, hrun, hended, _, _, rfl, q, ⟨_, rfl⟩, h2, h3, h4.mono hc hs⟩
theorem ow_retAI {vm0 : Vm} (X : Stand p l e R (s.setVm vm0) m args below meth c T locs cells slots) (hx : p.tables.exec = Jvm.exec) {pc : Nat} {Ls : Array Slot} {w : Value} {t : FieldType} (hret : meth.sig.returnType = some t) (hlk : meth.locks = false) (hw : w.isRef = true) (ht : t.isReference = true) (hd : decode c.code pc = .ok (.areturn, 1)) {k1 : Nat} (hS : s.Since vm0 k1) (hk : k1 ≤ T.heap.size) {ce sl : Nat} (hc : cells ≤ ce) (hs : slots ≤ sl) {Qv : Option Value → Heap → List Loc → Vm → Prop} (q : Qv (some w) T.heap locs T.vm) : Ends p e below (OutI s ce sl Qv) T (mkF m pc Ls [w]) := by
  obtain ⟨fs, hr, hrun, hended, h1, h2, h3, h4⟩ := X.leaveW hS hk (v := some w) (fun h => by rw [hret] at h; cases h) hlk
  exact ⟨_, _, X.areturnOut hx hw hret ht hd hr, hrun, hended, _, _, rfl, q, ⟨_, rfl⟩, h2, h3, h4.mono hc hs⟩
theorem ow_retVI {vm0 : Vm} (X : Stand p l e R (s.setVm vm0) m args below meth c T locs cells slots) (hx : p.tables.exec = Jvm.exec) {pc : Nat} {Ls : Array Slot} (hret : meth.sig.returnType = none) (hlk : meth.locks = false) (hd : decode c.code pc = .ok (.return_, 1)) {k1 : Nat} (hS : s.Since vm0 k1) (hk : k1 ≤ T.heap.size) {ce sl : Nat} (hc : cells ≤ ce) (hs : slots ≤ sl) {Qv : Option Value → Heap → List Loc → Vm → Prop} (q : Qv none T.heap locs T.vm) : Ends p e below (OutI s ce sl Qv) T (mkF m pc Ls []) := by
  obtain ⟨fs, hr, hrun, hended, h1, h2, h3, h4⟩ := X.leaveW hS hk (v := none) (fun _ => rfl) hlk
  exact ⟨_, _, X.returnOut hx hret hd hr, hrun, hended, _, _, rfl, q, ⟨_, rfl⟩, h2, h3, h4.mono hc hs⟩
theorem ow_backI {y : MethodName} {bytes : ByteArray} {maxL : Nat} {ret : Option FieldType} {len W : Nat} {rm : Room} {as' : Array Value} {Iv : Vm → Prop} {Qc : Option Value → Heap → List Loc → Vm → Prop} (hM : MetFree l y (head1 [Jvm.Cond.code y bytes maxL ret] rm) (fun a U => a = as' ∧ Z.Warmed39 U.vm ∧ U.heap = h ∧ Iv U.vm) (fun _ _ _ _ _ => True) (fun _ U o U' => ∃ v L, o = .returned v ∧ Qc v U'.heap L U'.vm ∧ ReturnedEndW U o U' L rm.cells rm.slots)) (hZ : Z.Warmed39 s.vm) (hI : ∀ vm₁, s.WarmedH vm₁ → Iv vm₁) (wc : (Jvm.Cond.code y bytes maxL ret).before a0 Z = true) (wz : (Jvm.Cond.initialized y.cls).before a0 Z = true) (hf : rm.frames + 1 ≤ R.frames) (hl : W + (maxL + 11) + rm.locals ≤ R.locals) :
    BackS l R p e below s args y len W (fun A a => a = as' ∧ A.U.heap = h ∧ A.cells + rm.cells ≤ R.cells ∧ A.slots + rm.slots ≤ R.slots) (fun A _ v B => ∃ L, Qc v B.U.heap L B.U.vm ∧ B.locs = A.locs ++ L ∧ B.cells = A.cells + rm.cells ∧ B.slots = A.slots + rm.slots) := by
  refine BackS.of_freeW (bytes := bytes) (maxL := maxL) (ret := ret) (E := fun _ _ o t L k n => k = rm.cells ∧ n = rm.slots ∧ ∃ v, o = .returned v ∧ Qc v t.heap L t.vm) hM hf hl ?_ ?_ (fun _ _ _ _ _ _ _ _ _ => trivial) ?_ ?_
  · intro m meth c A a Y q
    have hU : Z.Warmed39 A.U.vm := wtrans hZ Y.warmed
    refine ⟨?_, mv hU wc, mv hU wz, q.2.2.1, q.2.2.2⟩
    show (Jvm.Cond.and _ .tt).before a A.U = true
    rw [Cond.before_and, mv hU wc]
    rfl
  · intro m meth c A a g mk Y q
    exact ⟨q.1, wtrans hZ Y.warmed, q.2.1, hI _ Y.warmed⟩
  · rintro a f o t ⟨v, L, h1, h2, h3⟩
    exact ⟨L, _, _, h3, rfl, rfl, v, h1, h2⟩
  · rintro m meth c A a g mk v t L k n Y q - - ⟨e1, e2, v', e3, e4⟩
    cases e3
    subst e1 e2
    exact ⟨L, e4, rfl, rfl, rfl⟩
theorem ow_callSI {vm0 : Vm} (X : Stand p l e R (s.setVm vm0) m args below meth c T locs cells slots) (hx : p.tables.exec = Jvm.exec) (hZ : Z.Warmed39 (s.setVm vm0).vm) {own : String} {index : Nat} {y : MethodName} {bytes : ByteArray} {maxL : Nat} {ret : Option FieldType} (hown : (s.setVm vm0).vm.findClass own = some m.cls)
    (wl : (Jvm.Cond.methodLink own index y).before a0 Z = true) (wst : (Jvm.Cond.static y).before a0 Z = true) (wi : (Jvm.Cond.initialized y.cls).before a0 Z = true) (wc : (Jvm.Cond.code y bytes maxL ret).before a0 Z = true) (hy : y.cls ≠ "java/lang/invoke/MethodHandle" ∧ y.cls ≠ "java/lang/invoke/VarHandle")
    {rm : Room} {as' : Array Value} {Iv : Vm → Prop} {Qc : Option Value → Heap → List Loc → Vm → Prop} (hM : MetFree l y (head1 [Jvm.Cond.code y bytes maxL ret] rm) (fun a U => a = as' ∧ Z.Warmed39 U.vm ∧ U.heap = h ∧ Iv U.vm) (fun _ _ _ _ _ => True) (fun _ U o U' => ∃ v L, o = .returned v ∧ Qc v U'.heap L U'.vm ∧ ReturnedEndW U o U' L rm.cells rm.slots)) (hI : ∀ vm₁, (s.setVm vm0).WarmedH vm₁ → Iv vm₁) {k0 : Nat} (hS : s.Since vm0 k0) (hk : k0 ≤ h.size)
    (eT : T.heap = h) (W : Nat) (hf : rm.frames + 1 ≤ R.frames) (hl : W + (maxL + 11) + rm.locals ≤ R.locals) (hce : cells + rm.cells ≤ R.cells) (hsl : slots + rm.slots ≤ R.slots) {pc pc' : Nat} {Ls : Array Slot} {St rest : List Value} (argsL : List Value) {ps : List FieldType} {rt : Option FieldType} (hsize : Ls.size = c.maxLocals) (hdesc : parseMethodDescriptor y.desc = some ⟨ps, rt⟩) (hlen : argsL.length = ps.length) (hst : St = argsL.reverse ++ rest) (has : argsL.toArray = as') (hW : (rest.map fun v => v.category).sum ≤ W)
    (hd : decode c.code pc = .ok (.invokestatic index, 3)) (hp : pc + 3 = pc')
    (kk : ∀ (v : Option Value) (T' : State) (L' : List Loc), Qc v T'.heap L' T'.vm → Stand p l e R (s.setVm T'.vm) m args below meth c T' (locs ++ L') (cells + rm.cells) (slots + rm.slots) → s.Since T'.vm T'.heap.size → Z.Warmed39 (s.setVm T'.vm).vm → (s.setVm T'.vm).vm.findClass own = some m.cls → Ends p e below Q T' (mkF m pc' Ls (v.toList ++ rest))) : Ends p e below Q T (mkF m pc Ls St) := by
  subst hst has hp
  obtain ⟨v, vm₁, ⟨T', L, k2, n2⟩, -, X', hS', hgr, ⟨Lc, hQ, l1, y1, z1⟩, st⟩ := callSS X hx hown (mvT hZ wl) (mvT hZ wst) (mvT hZ wi) (mvT hZ wc) hy (ow_backI (W := W) hM hZ hI wc wi hf hl) (g := mkF m pc Ls (argsL.reverse ++ rest)) rfl hsize (argsL := argsL) (rest := rest) (lenOf hdesc hlen) rfl (by show 2 * 0 + _ ≤ _; omega) hd (fun _ _ => ⟨rfl, eT, hce, hsl⟩)
  dsimp only [Pt.U, Pt.locs, Pt.cells, Pt.slots] at X' l1 y1 z1 st hQ hS' hgr
  subst l1 y1 z1
  obtain ⟨X2, S2, Z2, o2⟩ := rebS hS (eT ▸ hk) X' hS' hgr hZ hown
  exact Ends.thru st (kk v T' Lc hQ X2 S2 Z2 o2)
theorem ow_callII {vm0 : Vm} (X : Stand p l e R (s.setVm vm0) m args below meth c T locs cells slots) (hx : p.tables.exec = Jvm.exec) (hZ : Z.Warmed39 (s.setVm vm0).vm) {own : String} {index : Nat} {y : MethodName} {bytes : ByteArray} {maxL : Nat} {ret : Option FieldType} (hret0 : ret = none) (hy1 : y.name = "<init>") (hown : (s.setVm vm0).vm.findClass own = some m.cls)
    (wl : (Jvm.Cond.methodLink own index y).before a0 Z = true) (wst : (Jvm.Cond.instanceMethod y).before a0 Z = true) (wi : (Jvm.Cond.initialized y.cls).before a0 Z = true) (wc : (Jvm.Cond.code y bytes maxL ret).before a0 Z = true) (hy : y.cls ≠ "java/lang/invoke/MethodHandle" ∧ y.cls ≠ "java/lang/invoke/VarHandle")
    {rm : Room} {as' : Array Value} {Iv : Vm → Prop} {Qc : Option Value → Heap → List Loc → Vm → Prop} (hM : MetFree l y (head1 [Jvm.Cond.code y bytes maxL ret] rm) (fun a U => a = as' ∧ Z.Warmed39 U.vm ∧ U.heap = h ∧ Iv U.vm) (fun _ _ _ _ _ => True) (fun _ U o U' => ∃ v L, o = .returned v ∧ Qc v U'.heap L U'.vm ∧ ReturnedEndW U o U' L rm.cells rm.slots)) (hI : ∀ vm₁, (s.setVm vm0).WarmedH vm₁ → Iv vm₁) {k0 : Nat} (hS : s.Since vm0 k0) (hk : k0 ≤ h.size)
    (eT : T.heap = h) (W : Nat) (hf : rm.frames + 1 ≤ R.frames) (hl : W + (maxL + 11) + rm.locals ≤ R.locals) (hce : cells + rm.cells ≤ R.cells) (hsl : slots + rm.slots ≤ R.slots) {pc pc' : Nat} {Ls : Array Slot} {St rest : List Value} (argsL : List Value) {ps : List FieldType} {rt : Option FieldType} (hsize : Ls.size = c.maxLocals) (hdesc : parseMethodDescriptor y.desc = some ⟨ps, rt⟩) (hlen : argsL.length = ps.length) {a : Addr} (hst : St = argsL.reverse ++ .ref a :: rest) (has : (Value.ref a :: argsL).toArray = as') (hW : (rest.map fun v => v.category).sum ≤ W)
    (hd : decode c.code pc = .ok (.invokespecial index, 3)) (hp : pc + 3 = pc')
    (kk : ∀ (v : Option Value) (T' : State) (L' : List Loc), Qc v T'.heap L' T'.vm → Stand p l e R (s.setVm T'.vm) m args below meth c T' (locs ++ L') (cells + rm.cells) (slots + rm.slots) → s.Since T'.vm T'.heap.size → Z.Warmed39 (s.setVm T'.vm).vm → (s.setVm T'.vm).vm.findClass own = some m.cls → Ends p e below Q T' (mkF m pc' Ls (v.toList ++ rest))) : Ends p e below Q T (mkF m pc Ls St) := by
  subst hst has hp hret0
  obtain ⟨v, vm₁, ⟨T', L, k2, n2⟩, -, X', hS', hgr, ⟨Lc, hQ, l1, y1, z1⟩, st⟩ := X.specialBackS hx hy1 hown (mvT hZ wl) (mvT hZ wst) (mvT hZ wc) hy (ow_backI (W := W) hM hZ hI wc wi hf hl) (g := mkF m pc Ls (argsL.reverse ++ .ref a :: rest)) rfl hsize (Steps.refl _) (a := a) (argsL := argsL) (rest := rest) (lenOf hdesc hlen) rfl (by show 2 * 0 + _ ≤ _; omega) hd (fun _ _ => ⟨rfl, eT, hce, hsl⟩)
  dsimp only [Pt.U, Pt.locs, Pt.cells, Pt.slots] at X' l1 y1 z1 st hQ hS' hgr
  subst l1 y1 z1
  obtain ⟨X2, S2, Z2, o2⟩ := rebS hS (eT ▸ hk) X' hS' hgr hZ hown
  exact Ends.thru st (kk v T' Lc hQ X2 S2 Z2 o2)
/-- the table of literals: what has been interned since the start bears one of the texts Ts; the entries Bs are booked -/
def LT (Z : State) (Ts : List String) (Bs : List (String × Nat × Addr)) (vm : Vm) : Prop := IB Z vm Ts ∧ ∀ x ∈ Bs, Lit (Z.setVm vm) x.1 x.2.1 x.2.2
theorem LT.start : LT Z [] [] Z.vm := ⟨IB.start, fun x hx => by simp at hx⟩
theorem LT.warm {Ts : List String} {Bs : List (String × Nat × Addr)} (I : LT Z Ts Bs s.vm) : ∀ vm₁, s.WarmedH vm₁ → LT Z Ts Bs vm₁ := fun vm₁ hW => by
  obtain ⟨⟨more, e1, e2⟩, hb⟩ := I
  refine ⟨⟨more, hW.interned_eq.trans e1, e2⟩, fun x hx => ?_⟩
  have q : Lit ((Z.setVm s.vm).setVm vm₁) x.1 x.2.1 x.2.2 := Lit.stays (s := Z.setVm s.vm) (vm0 := s.vm) (hb x hx) hW.wide
  exact q
theorem LT.weaken {Ts Ts' : List String} {Bs Bs' : List (String × Nat × Addr)} {vm : Vm} (I : LT Z Ts Bs vm) (h1 : ∀ t ∈ Ts, t ∈ Ts') (h2 : ∀ x ∈ Bs', x ∈ Bs) : LT Z Ts' Bs' vm := by
  obtain ⟨⟨more, e1, e2⟩, hb⟩ := I
  exact ⟨⟨more, e1, fun q hq => by obtain ⟨t, ht, hd⟩ := e2 q hq; exact ⟨t, h1 t ht, hd⟩⟩, fun x hx => hb x (h2 x hx)⟩
theorem ow_ldcI {vm0 : Vm} (X : Stand p l e R (s.setVm vm0) m args below meth c T locs cells slots) (hx : p.tables.exec = Jvm.exec) (hZ : Z.Warmed39 (s.setVm vm0).vm) {own text : String} {index : Nat} (hown : (s.setVm vm0).vm.findClass own = some m.cls) (w : (Jvm.Cond.stringLink own index text).before a0 Z = true) (wS : ∀ a ∈ Bundle.stringAtoms, a.before a0 Z = true) (eT : T.heap = h) {k0 : Nat} (hS : s.Since vm0 k0) (hk : k0 ≤ h.size)
    (N : Fr s.heap.size locs) (hkeep : ∀ (b : Addr) (cl : Cell), Z.heap[b]? = some cl → s.heap[b]? = some cl) {Ts : List String} {Bs : List (String × Nat × Addr)} (I : LT Z Ts Bs (s.setVm vm0).vm) (hnot : text ∉ Ts) (hh : Jvm.Lit.constHeld Z own index) (hcw : Jvm.Lit.compactW.before a0 Z = true)
    {vs : List Value} {z : Int32} (ht : (∀ c ∈ text.toList, c.toNat < 256) ∧ text.toList.map (fun c => Value.int (Jvm.Lit.byteI c.toNat.toUInt16)) = vs) (hz : ¬ z < 0) (hl0 : z.toNatClampNeg = vs.length)
    {pc pc' : Nat} {Ls : Array Slot} {St : List Value} (hd : decode c.code pc = .ok (.ldc index, 2)) (n : Nat) (hn : 4 * text.toList.length ≤ n) (hbig : n ≤ 536870912) (hc : cells + 2 ≤ R.cells) (hl : slots + (n + 4) ≤ R.slots) (hp : pc + 2 = pc')
    (kk : ∀ (a : Addr) (T' : State) (h' : Heap) (k1 : Nat) (b : Addr) (k : ClassId), Stand p l e R (s.setVm T'.vm) m args below meth c T' locs (cells + 2) (slots + (n + 4)) → T'.heap = h' → Ext h h' → s.Since T'.vm k1 → k1 ≤ h'.size → Z.Warmed39 (s.setVm T'.vm).vm → (s.setVm T'.vm).vm.findClass own = some m.cls → Exa Z h' a "java/lang/String" → Fld Z h' a "java/lang/String" "coder" "B" (.int (0 : Int32)) → Fld Z h' a "java/lang/String" "value" "[B" (.ref b) → Arv Z h' b k .byte z vs (.int (0 : Int32)) → LT Z (text :: Ts) [(own, index, a)] (s.setVm T'.vm).vm → Ends p e below Q T' (mkF m pc' Ls (.ref a :: St))) : Ends p e below Q T (mkF m pc Ls St) := by
  subst hp
  obtain ⟨a, T', h', k1, b, k, X', e', E', S', hk', Z', o', r1, r2, r3, r4, -, -, I', L', st⟩ := ldcSVL X hx hZ hown w wS eT hS hk N hkeep I.1 hnot hh hcw ht hz hl0 (g := mkF m pc Ls St) rfl hd hn hbig hc hl
  refine Ends.go st (kk a T' h' k1 b k X' e' E' S' hk' Z' o' r1 r2 r3 r4 ⟨I', fun x hx => ?_⟩)
  rw [List.mem_singleton.mp hx]
  exact L'
theorem ow_ldcAgainI {vm0 : Vm} (X : Stand p l e R (s.setVm vm0) m args below meth c T locs cells slots) (hx : p.tables.exec = Jvm.exec) (hZ : Z.Warmed39 (s.setVm vm0).vm) {own text : String} {index : Nat} (hown : (s.setVm vm0).vm.findClass own = some m.cls) (w : (Jvm.Cond.stringLink own index text).before a0 Z = true) {Ts : List String} {Bs : List (String × Nat × Addr)} (I : LT Z Ts Bs (s.setVm vm0).vm) {a : Addr} (hb : (own, index, a) ∈ Bs) {pc pc' : Nat} {Ls : Array Slot} {St : List Value} (hd : decode c.code pc = .ok (.ldc index, 2)) (hp : pc + 2 = pc')
    (kk : Ends p e below Q T (mkF m pc' Ls (.ref a :: St))) : Ends p e below Q T (mkF m pc Ls St) := by
  subst hp
  exact Ends.go (ldcAgain X hx hZ hown w (show Lit (s.setVm vm0) own index a from I.2 _ hb) (g := mkF m pc Ls St) rfl hd) kk
theorem ow_zk {n0 : Nat} {h' : Heap} {ws : List Addr} (hzk : ∀ (b : Addr) (cl : Cell), Z.heap[b]? = some cl → h[b]? = some cl) (hzn : Z.heap.size ≤ n0) (K : Keep h h' ws) (g : ∀ x ∈ ws, n0 ≤ x) : ∀ (b : Addr) (cl : Cell), Z.heap[b]? = some cl → h'[b]? = some cl := fun b cl q => K.2.1 b cl (hzk b cl q) (fun w => by
  have h1 := g b w
  have h2 := (Array.getElem?_eq_some_iff.mp q).1
  exact absurd (Nat.lt_of_lt_of_le h2 (Nat.le_trans hzn h1)) (Nat.lt_irrefl _))
def QW (w : Value) (h0 : Heap) (v : Option Value) (h : Heap) (L : List Loc) : Prop := v = some w ∧ L = [] ∧ h = h0
theorem ow_staKeep {C n d : String} {v : Value} {h' : Heap} {ws : List Addr} (F : Sta Z h C n d v) (K : Keep h h' ws) (q : ∀ x ∈ ws, ∀ c : Cell, h[x]? = some c → c.vm.isStatics = false) : Sta Z h' C n d v := by
  obtain ⟨cf, i, k, f, st, cell, h1, h2, h3, h4, h5, h6, h7⟩ := F
  exact ⟨cf, i, k, f, st, cell, h1, h2, h3, h4, K.2.1 st cell h5 (fun w => by rw [q st w cell h5] at h6; cases h6), h6, h7⟩
theorem ow_eq {x y : Int32} (q : x.toInt = y.toInt) : x = y := Int32.toInt_inj.mp q
theorem ow_nlt {x y : Int32} (q : ¬ x.toInt < y.toInt) : ¬ x < y := fun w => q (Int32.lt_iff_toInt_lt.mp w)
end Own

theorem ow_qv {Z : State} {x : Addr} {N : Int32} {bs : List Int32} {h h' : Heap} {n0 : Nat} {v : Option Value} {L : List Loc} (q : StrChars.Road.QV Z x N bs h n0 v h' L) :
    ∃ (t : Addr) (kb : ClassId), v = none ∧ Fr n0 L ∧ Keep h h' [x] ∧ Exa Z h' x "java/lang/String" ∧ Fld Z h' x "java/lang/String" "coder" "B" (.int (0 : Int32)) ∧ Fld Z h' x "java/lang/String" "value" "[B" (.ref t) ∧ Arv Z h' t kb (.byte) N (bs.map Value.int) (.int (0 : Int32)) ∧ n0 ≤ t ∧ h.size ≤ t ∧ x ≠ t := by
  obtain ⟨q1, q2, q3, q4, q5, t, kb, q6, q7, q8, q9, q10⟩ := q
  exact ⟨t, kb, q1, q2, q3, q4, q5, q9, q10, q6, q7, fun w => q8 w.symm⟩

theorem d_m3_0 : decode method_3_code 0 = .ok (.iload_n 1, 1) := by decide +kernel
theorem d_m3_1 : decode method_3_code 1 = .ok (.i2b, 1) := by decide +kernel
theorem d_m3_2 : decode method_3_code 2 = .ok (.istore_n 2, 1) := by decide +kernel
theorem d_m3_3 : decode method_3_code 3 = .ok (.iload_n 1, 1) := by decide +kernel
theorem d_m3_4 : decode method_3_code 4 = .ok (.bipush 8, 2) := by decide +kernel
theorem d_m3_6 : decode method_3_code 6 = .ok (.iushr, 1) := by decide +kernel
theorem d_m3_7 : decode method_3_code 7 = .ok (.i2b, 1) := by decide +kernel
theorem d_m3_8 : decode method_3_code 8 = .ok (.istore_n 3, 1) := by decide +kernel
theorem d_m3_9 : decode method_3_code 9 = .ok (.iload_n 1, 1) := by decide +kernel
theorem d_m3_10 : decode method_3_code 10 = .ok (.bipush 16, 2) := by decide +kernel
theorem d_m3_12 : decode method_3_code 12 = .ok (.iushr, 1) := by decide +kernel
theorem d_m3_13 : decode method_3_code 13 = .ok (.i2b, 1) := by decide +kernel
theorem d_m3_14 : decode method_3_code 14 = .ok (.istore 4, 2) := by decide +kernel
theorem d_m3_16 : decode method_3_code 16 = .ok (.iload_n 0, 1) := by decide +kernel
theorem d_m3_17 : decode method_3_code 17 = .ok (.ifCond .ne 7, 3) := by decide +kernel
theorem d_m3_20 : decode method_3_code 20 = .ok (.iconst 0, 1) := by decide +kernel
theorem d_m3_21 : decode method_3_code 21 = .ok (.newarray .byte, 2) := by decide +kernel
theorem d_m3_23 : decode method_3_code 23 = .ok (.areturn, 1) := by decide +kernel
theorem ef_byt0 (m : MethodId) (x0 : Int32) (x1 : Int32) : entryFrame m #[(.int x0), (.int x1)] 5 = mkF m 0 #[.val (.int x0), .val (.int x1), .unset, .unset, .unset] [] := by first | (simp [entryFrame, mkF, argsToLocals, Value.category]; done) | rfl
def Q_byt0 (Z : State) (pn : Int32) (pv : Int32) (h0 : Heap) (n0 : Nat) (v : Option Value) (h : Heap) (L : List Loc) : Prop := ∃ (ow : Addr), ∃ (kw : ClassId), (v = some (.ref ow)) ∧ (Fr n0 L) ∧ (Keep h0 h []) ∧ (Exa Z h ow "[B") ∧ (Arv Z h ow kw (.byte) (0 : Int32) [] (.int (0 : Int32))) ∧ (h0.size ≤ ow) ∧ (True)
theorem pn_0 : plainName "com/example/inchworm/inchworm/handler/ResultReplacePinLaw" = true := by first | (simp [plainName, overriddenIn]; done) | decide +kernel
set_option maxRecDepth 65536 in
set_option maxHeartbeats 40000000 in
theorem rm_byt0 (l : Launch) (Z : State) (a0 : Array Value) (hw : ∀ d ∈ tables_1, d.before a0 Z = true) (ws : List Jvm.Cond) (pn : Int32) (pv : Int32) (h0 : Heap) (n0 : Nat) (Z0 : n0 ≤ h0.size) (hn : pn.toInt = 0) :
    MetFree l (⟨"com/example/inchworm/inchworm/handler/ResultReplacePinLaw", "bytesOf", "(II)[B"⟩ : MethodName) (head1 (Jvm.Cond.code (⟨"com/example/inchworm/inchworm/handler/ResultReplacePinLaw", "bytesOf", "(II)[B"⟩ : MethodName) method_3_code 5 (some (.array .byte)) :: ws) ({ frames := 0, cells := 1, slots := 0, locals := 0 } : Room)) (fun a_ U_ => a_ = #[(.int pn), (.int pv)] ∧ Z.Warmed39 U_.vm ∧ U_.heap = h0) (fun _ _ _ _ _ => True) (fun _ U_ o_ U_' => ∃ v_ L_, o_ = .returned v_ ∧ (Q_byt0 Z pn pv h0 n0) v_ U_'.heap L_ ∧ FrameEnd U_ o_ U_' L_ 1 0) := by
  refine ow_body (plainFor_of_name pn_0) ?_
  intro p e s m below meth c T0 X0 hx hZ hby hml hown hnm hret hlk e0
  have N0 := Fr.nil n0
  refine Ends.cast (ef_byt0 m pn pv) ?_
  have r_pn := rng32 pn
  have r_pv := rng32 pv
  refine ow_iloadN X0 hx (hb hby d_m3_0) rfl (pc' := 1) rfl ?_
  refine ow_i2b X0 hx (hb hby d_m3_1) (pc' := 2) rfl (fun z1 hz1 => ?_)
  have az1 : (z1.toInt - pv.toInt) % 256 = 0 ∧ -128 ≤ z1.toInt ∧ z1.toInt < 128 := by rw [hz1]; exact c_i2b pv
  have rz1 := rng32 z1
  refine ow_istoreN X0 hx (Ls' := #[.val (.int pn), .val (.int pv), .val (.int z1), .unset, .unset]) (hb hby d_m3_2) rfl (pc' := 3) rfl ?_
  refine ow_iloadN X0 hx (hb hby d_m3_3) rfl (pc' := 4) rfl ?_
  refine ow_bipush X0 hx (z := (8 : Int32)) (hb hby d_m3_4) rfl (pc' := 6) rfl ?_
  refine ow_iushr X0 hx (hb hby d_m3_6) (pc' := 7) rfl (fun z2 hz2 => ?_)
  have az2 : z2.toInt = (pv.toInt % 4294967296) / 256 := by rw [hz2]; exact c_iushr pv (8 : Int32) 8 (by decide) (by decide)
  have rz2 := rng32 z2
  refine ow_i2b X0 hx (hb hby d_m3_7) (pc' := 8) rfl (fun z3 hz3 => ?_)
  have az3 : (z3.toInt - z2.toInt) % 256 = 0 ∧ -128 ≤ z3.toInt ∧ z3.toInt < 128 := by rw [hz3]; exact c_i2b z2
  have rz3 := rng32 z3
  refine ow_istoreN X0 hx (Ls' := #[.val (.int pn), .val (.int pv), .val (.int z1), .val (.int z3), .unset]) (hb hby d_m3_8) rfl (pc' := 9) rfl ?_
  refine ow_iloadN X0 hx (hb hby d_m3_9) rfl (pc' := 10) rfl ?_
  refine ow_bipush X0 hx (z := (16 : Int32)) (hb hby d_m3_10) rfl (pc' := 12) rfl ?_
  refine ow_iushr X0 hx (hb hby d_m3_12) (pc' := 13) rfl (fun z4 hz4 => ?_)
  have az4 : z4.toInt = (pv.toInt % 4294967296) / 65536 := by rw [hz4]; exact c_iushr pv (16 : Int32) 16 (by decide) (by decide)
  have rz4 := rng32 z4
  refine ow_i2b X0 hx (hb hby d_m3_13) (pc' := 14) rfl (fun z5 hz5 => ?_)
  have az5 : (z5.toInt - z4.toInt) % 256 = 0 ∧ -128 ≤ z5.toInt ∧ z5.toInt < 128 := by rw [hz5]; exact c_i2b z4
  have rz5 := rng32 z5
  refine ow_istore X0 hx (Ls' := #[.val (.int pn), .val (.int pv), .val (.int z1), .val (.int z3), .val (.int z5)]) (hb hby d_m3_14) rfl (pc' := 16) rfl ?_
  refine ow_iloadN X0 hx (hb hby d_m3_16) rfl (pc' := 17) rfl ?_
  refine ow_if_ne X0 hx (pn.toInt) (hb hby d_m3_17) rfl (by decide) (pt := 24) (by decide) (pf := 20) rfl (fun c17 => absurd c17 (by omega)) (fun c17 => ?_)
  refine ow_iconst X0 hx (z := (0 : Int32)) (hb hby d_m3_20) rfl (pc' := 21) rfl ?_
  refine ow_newPE X0 hx hZ (hw _ (List.mem_of_getElem? (i := 4) rfl)) e0 (hb hby d_m3_21) (by decide) 0 (by decide) (by decide) (by decide) (by decide) (ad := "[B") (by decide) (pc' := 23) rfl (fun T6 h6 b6 k6 g6 X6 e6 E6 V6 A6 => ?_)
  have g_b6 : n0 ≤ b6 := Nat.le_trans Z0 (Nat.le_of_eq g6.symm)
  have sz_b6 : h0.size ≤ b6 := Nat.le_trans (Keep.refl h0 []).1 (Nat.le_of_eq g6.symm)
  have Zs6 : n0 ≤ h6.size := Nat.le_trans Z0 E6.1
  have K6 := (Keep.refl h0 []).ext E6
  have V_b6 : Arv Z h6 b6 k6 .byte (0 : Int32) [] (.int (0 : Int32)) := V6
  exact ow_retA X6 hx hret hlk rfl rfl (hb hby d_m3_23) (by decide) (by decide) (show Q_byt0 Z pn pv h0 n0 _ T6.heap _ from by rw [e6]; exact ⟨b6, k6, rfl, N0, K6, A6, V_b6, sz_b6, (show True from trivial)⟩)
theorem d_m4_0 : decode method_4_code 0 = .ok (.aload_n 0, 1) := by decide +kernel
theorem d_m4_1 : decode method_4_code 1 = .ok (.ifnull 9, 3) := by decide +kernel
theorem d_m4_4 : decode method_4_code 4 = .ok (.aload_n 0, 1) := by decide +kernel
theorem d_m4_5 : decode method_4_code 5 = .ok (.arraylength, 1) := by decide +kernel
theorem d_m4_6 : decode method_4_code 6 = .ok (.iload_n 1, 1) := by decide +kernel
theorem d_m4_7 : decode method_4_code 7 = .ok (.if_icmp .eq 5, 3) := by decide +kernel
theorem d_m4_12 : decode method_4_code 12 = .ok (.iload_n 1, 1) := by decide +kernel
theorem d_m4_13 : decode method_4_code 13 = .ok (.iconst 1, 1) := by decide +kernel
theorem d_m4_14 : decode method_4_code 14 = .ok (.if_icmp .lt 13, 3) := by decide +kernel
theorem d_m4_27 : decode method_4_code 27 = .ok (.iload_n 1, 1) := by decide +kernel
theorem d_m4_28 : decode method_4_code 28 = .ok (.iconst 2, 1) := by decide +kernel
theorem d_m4_29 : decode method_4_code 29 = .ok (.if_icmp .lt 16, 3) := by decide +kernel
theorem d_m4_45 : decode method_4_code 45 = .ok (.iload_n 1, 1) := by decide +kernel
theorem d_m4_46 : decode method_4_code 46 = .ok (.iconst 3, 1) := by decide +kernel
theorem d_m4_47 : decode method_4_code 47 = .ok (.if_icmp .lt 16, 3) := by decide +kernel
theorem d_m4_63 : decode method_4_code 63 = .ok (.iconst 1, 1) := by decide +kernel
theorem d_m4_64 : decode method_4_code 64 = .ok (.ireturn, 1) := by decide +kernel
theorem ef_sam0 (m : MethodId) (x0 : Addr) (x1 : Int32) (x2 : Int32) : entryFrame m #[(.ref x0), (.int x1), (.int x2)] 3 = mkF m 0 #[.val (.ref x0), .val (.int x1), .val (.int x2)] [] := by first | (simp [entryFrame, mkF, argsToLocals, Value.category]; done) | rfl
set_option maxRecDepth 65536 in
set_option maxHeartbeats 40000000 in
theorem rm_sam0 (l : Launch) (Z : State) (a0 : Array Value) (hw : ∀ d ∈ tables_1, d.before a0 Z = true) (ws : List Jvm.Cond) (oa : Addr) (pn : Int32) (pv : Int32) (ka : ClassId) (h0 : Heap) (V_a : Arv Z h0 oa ka (.byte) (0 : Int32) [] (.int (0 : Int32))) (hn : pn.toInt = 0) (hy : True) :
    MetFree l (⟨"com/example/inchworm/inchworm/handler/ResultReplacePinLaw", "sameBytes", "([BII)Z"⟩ : MethodName) (head1 (Jvm.Cond.code (⟨"com/example/inchworm/inchworm/handler/ResultReplacePinLaw", "sameBytes", "([BII)Z"⟩ : MethodName) method_4_code 3 (some .boolean) :: ws) ({ frames := 0, cells := 0, slots := 0, locals := 0 } : Room)) (fun a_ U_ => a_ = #[(.ref oa), (.int pn), (.int pv)] ∧ Z.Warmed39 U_.vm ∧ U_.heap = h0) (fun _ _ _ _ _ => True) (fun _ U_ o_ U_' => ∃ v_ L_, o_ = .returned v_ ∧ (QI (fun z => z.toInt = 1) h0) v_ U_'.heap L_ ∧ FrameEnd U_ o_ U_' L_ 0 0) := by
  refine ow_body (plainFor_of_name pn_0) ?_
  intro p e s m below meth c T0 X0 hx hZ hby hml hown hnm hret hlk e0
  refine Ends.cast (ef_sam0 m oa pn pv) ?_
  have r_pn := rng32 pn
  have r_pv := rng32 pv
  refine ow_aloadN X0 hx (hb hby d_m4_0) rfl rfl (pc' := 1) rfl ?_
  refine ow_ifnullN X0 hx (hb hby d_m4_1) (pc' := 4) rfl ?_
  refine ow_aloadN X0 hx (hb hby d_m4_4) rfl rfl (pc' := 5) rfl ?_
  refine ow_len X0 hx hZ e0 V_a (hb hby d_m4_5) (pc' := 6) rfl ?_
  refine ow_iloadN X0 hx (hb hby d_m4_6) rfl (pc' := 7) rfl ?_
  refine ow_icmp_eq X0 hx ((0 : Int)) (pn.toInt) (hb hby d_m4_7) rfl rfl (by decide) (pt := 12) (by decide) (pf := 10) rfl (fun c7 => ?_) (fun c7 => absurd c7 (by omega))
  refine ow_iloadN X0 hx (hb hby d_m4_12) rfl (pc' := 13) rfl ?_
  refine ow_iconst X0 hx (z := (1 : Int32)) (hb hby d_m4_13) rfl (pc' := 14) rfl ?_
  refine ow_icmp_lt X0 hx (pn.toInt) ((1 : Int)) (hb hby d_m4_14) rfl rfl (by decide) (pt := 27) (by decide) (pf := 17) rfl (fun c14 => ?_) (fun c14 => absurd c14 (by omega))
  refine ow_iloadN X0 hx (hb hby d_m4_27) rfl (pc' := 28) rfl ?_
  refine ow_iconst X0 hx (z := (2 : Int32)) (hb hby d_m4_28) rfl (pc' := 29) rfl ?_
  refine ow_icmp_lt X0 hx (pn.toInt) ((2 : Int)) (hb hby d_m4_29) rfl rfl (by decide) (pt := 45) (by decide) (pf := 32) rfl (fun c29 => ?_) (fun c29 => absurd c29 (by omega))
  refine ow_iloadN X0 hx (hb hby d_m4_45) rfl (pc' := 46) rfl ?_
  refine ow_iconst X0 hx (z := (3 : Int32)) (hb hby d_m4_46) rfl (pc' := 47) rfl ?_
  refine ow_icmp_lt X0 hx (pn.toInt) ((3 : Int)) (hb hby d_m4_47) rfl rfl (by decide) (pt := 63) (by decide) (pf := 50) rfl (fun c47 => ?_) (fun c47 => absurd c47 (by omega))
  refine ow_iconst X0 hx (z := (1 : Int32)) (hb hby d_m4_63) rfl (pc' := 64) rfl ?_
  exact ow_retB X0 hx hret hlk (hb hby d_m4_64) (by decide) (by decide) (z' := (1 : Int32)) rfl ⟨(1 : Int32), rfl, (show (1 : Int) = 1 from by omega), rfl, e0⟩
theorem d_m3_24 : decode method_3_code 24 = .ok (.iload_n 0, 1) := by decide +kernel
theorem d_m3_25 : decode method_3_code 25 = .ok (.iconst 1, 1) := by decide +kernel
theorem d_m3_26 : decode method_3_code 26 = .ok (.if_icmp .ne 11, 3) := by decide +kernel
theorem d_m3_29 : decode method_3_code 29 = .ok (.iconst 1, 1) := by decide +kernel
theorem d_m3_30 : decode method_3_code 30 = .ok (.newarray .byte, 2) := by decide +kernel
theorem d_m3_32 : decode method_3_code 32 = .ok (.dup, 1) := by decide +kernel
theorem d_m3_33 : decode method_3_code 33 = .ok (.iconst 0, 1) := by decide +kernel
theorem d_m3_34 : decode method_3_code 34 = .ok (.iload_n 2, 1) := by decide +kernel
theorem d_m3_35 : decode method_3_code 35 = .ok (.bastore, 1) := by decide +kernel
theorem d_m3_36 : decode method_3_code 36 = .ok (.areturn, 1) := by decide +kernel
def Q_byt1 (Z : State) (pn : Int32) (pv : Int32) (h0 : Heap) (n0 : Nat) (v : Option Value) (h : Heap) (L : List Loc) : Prop := ∃ (ow : Addr), ∃ (kw : ClassId), ∃ (y0 : Int32), (v = some (.ref ow)) ∧ (Fr n0 L) ∧ (Keep h0 h []) ∧ (Exa Z h ow "[B") ∧ (Arv Z h ow kw (.byte) (1 : Int32) [(.int y0)] (.int (0 : Int32))) ∧ (h0.size ≤ ow) ∧ (((y0.toInt - pv.toInt) % 256 = 0 ∧ -128 ≤ y0.toInt ∧ y0.toInt < 128))
set_option maxRecDepth 65536 in
set_option maxHeartbeats 40000000 in
theorem rm_byt1 (l : Launch) (Z : State) (a0 : Array Value) (hw : ∀ d ∈ tables_1, d.before a0 Z = true) (ws : List Jvm.Cond) (pn : Int32) (pv : Int32) (h0 : Heap) (n0 : Nat) (Z0 : n0 ≤ h0.size) (hn : pn.toInt = 1) :
    MetFree l (⟨"com/example/inchworm/inchworm/handler/ResultReplacePinLaw", "bytesOf", "(II)[B"⟩ : MethodName) (head1 (Jvm.Cond.code (⟨"com/example/inchworm/inchworm/handler/ResultReplacePinLaw", "bytesOf", "(II)[B"⟩ : MethodName) method_3_code 5 (some (.array .byte)) :: ws) ({ frames := 0, cells := 1, slots := 1, locals := 0 } : Room)) (fun a_ U_ => a_ = #[(.int pn), (.int pv)] ∧ Z.Warmed39 U_.vm ∧ U_.heap = h0) (fun _ _ _ _ _ => True) (fun _ U_ o_ U_' => ∃ v_ L_, o_ = .returned v_ ∧ (Q_byt1 Z pn pv h0 n0) v_ U_'.heap L_ ∧ FrameEnd U_ o_ U_' L_ 1 1) := by
  refine ow_body (plainFor_of_name pn_0) ?_
  intro p e s m below meth c T0 X0 hx hZ hby hml hown hnm hret hlk e0
  have N0 := Fr.nil n0
  refine Ends.cast (ef_byt0 m pn pv) ?_
  have r_pn := rng32 pn
  have r_pv := rng32 pv
  refine ow_iloadN X0 hx (hb hby d_m3_0) rfl (pc' := 1) rfl ?_
  refine ow_i2b X0 hx (hb hby d_m3_1) (pc' := 2) rfl (fun z1 hz1 => ?_)
  have az1 : (z1.toInt - pv.toInt) % 256 = 0 ∧ -128 ≤ z1.toInt ∧ z1.toInt < 128 := by rw [hz1]; exact c_i2b pv
  have rz1 := rng32 z1
  refine ow_istoreN X0 hx (Ls' := #[.val (.int pn), .val (.int pv), .val (.int z1), .unset, .unset]) (hb hby d_m3_2) rfl (pc' := 3) rfl ?_
  refine ow_iloadN X0 hx (hb hby d_m3_3) rfl (pc' := 4) rfl ?_
  refine ow_bipush X0 hx (z := (8 : Int32)) (hb hby d_m3_4) rfl (pc' := 6) rfl ?_
  refine ow_iushr X0 hx (hb hby d_m3_6) (pc' := 7) rfl (fun z2 hz2 => ?_)
  have az2 : z2.toInt = (pv.toInt % 4294967296) / 256 := by rw [hz2]; exact c_iushr pv (8 : Int32) 8 (by decide) (by decide)
  have rz2 := rng32 z2
  refine ow_i2b X0 hx (hb hby d_m3_7) (pc' := 8) rfl (fun z3 hz3 => ?_)
  have az3 : (z3.toInt - z2.toInt) % 256 = 0 ∧ -128 ≤ z3.toInt ∧ z3.toInt < 128 := by rw [hz3]; exact c_i2b z2
  have rz3 := rng32 z3
  refine ow_istoreN X0 hx (Ls' := #[.val (.int pn), .val (.int pv), .val (.int z1), .val (.int z3), .unset]) (hb hby d_m3_8) rfl (pc' := 9) rfl ?_
  refine ow_iloadN X0 hx (hb hby d_m3_9) rfl (pc' := 10) rfl ?_
  refine ow_bipush X0 hx (z := (16 : Int32)) (hb hby d_m3_10) rfl (pc' := 12) rfl ?_
  refine ow_iushr X0 hx (hb hby d_m3_12) (pc' := 13) rfl (fun z4 hz4 => ?_)
  have az4 : z4.toInt = (pv.toInt % 4294967296) / 65536 := by rw [hz4]; exact c_iushr pv (16 : Int32) 16 (by decide) (by decide)
  have rz4 := rng32 z4
  refine ow_i2b X0 hx (hb hby d_m3_13) (pc' := 14) rfl (fun z5 hz5 => ?_)
  have az5 : (z5.toInt - z4.toInt) % 256 = 0 ∧ -128 ≤ z5.toInt ∧ z5.toInt < 128 := by rw [hz5]; exact c_i2b z4
  have rz5 := rng32 z5
  refine ow_istore X0 hx (Ls' := #[.val (.int pn), .val (.int pv), .val (.int z1), .val (.int z3), .val (.int z5)]) (hb hby d_m3_14) rfl (pc' := 16) rfl ?_
  refine ow_iloadN X0 hx (hb hby d_m3_16) rfl (pc' := 17) rfl ?_
  refine ow_if_ne X0 hx (pn.toInt) (hb hby d_m3_17) rfl (by decide) (pt := 24) (by decide) (pf := 20) rfl (fun c17 => ?_) (fun c17 => absurd c17 (by omega))
  refine ow_iloadN X0 hx (hb hby d_m3_24) rfl (pc' := 25) rfl ?_
  refine ow_iconst X0 hx (z := (1 : Int32)) (hb hby d_m3_25) rfl (pc' := 26) rfl ?_
  refine ow_icmp_ne X0 hx (pn.toInt) ((1 : Int)) (hb hby d_m3_26) rfl rfl (by decide) (pt := 37) (by decide) (pf := 29) rfl (fun c26 => absurd c26 (by omega)) (fun c26 => ?_)
  refine ow_iconst X0 hx (z := (1 : Int32)) (hb hby d_m3_29) rfl (pc' := 30) rfl ?_
  refine ow_newPE X0 hx hZ (hw _ (List.mem_of_getElem? (i := 4) rfl)) e0 (hb hby d_m3_30) (by decide) 1 (by decide) (by decide) (by decide) (by decide) (ad := "[B") (by decide) (pc' := 32) rfl (fun T6 h6 b6 k6 g6 X6 e6 E6 V6 A6 => ?_)
  have g_b6 : n0 ≤ b6 := Nat.le_trans Z0 (Nat.le_of_eq g6.symm)
  have sz_b6 : h0.size ≤ b6 := Nat.le_trans (Keep.refl h0 []).1 (Nat.le_of_eq g6.symm)
  have Zs6 : n0 ≤ h6.size := Nat.le_trans Z0 E6.1
  have K6 := (Keep.refl h0 []).ext E6
  have V_b6 : Arv Z h6 b6 k6 .byte (1 : Int32) [(.int (0 : Int32))] (.int (0 : Int32)) := V6.pad (pad_rep [] (.int (0 : Int32)) 1)
  refine ow_dup X6 hx (hb hby d_m3_32) rfl (pc' := 33) rfl ?_
  refine ow_iconst X6 hx (z := (0 : Int32)) (hb hby d_m3_33) rfl (pc' := 34) rfl ?_
  refine ow_iloadN X6 hx (hb hby d_m3_34) rfl (pc' := 35) rfl ?_
  refine ow_stB X6 hx hZ e6 V_b6 0 rfl (by decide) (by decide) (Nat.le_of_ble_eq_true rfl) (hb hby d_m3_35) (pc' := 36) rfl (fun T7 h7 X7 e7 W7 V7 => ?_)
  obtain ⟨y7, hy7⟩ : ∃ y : Int32, y = z1.toInt8.toInt32 := ⟨_, rfl⟩
  rw [← hy7] at W7 V7
  have ay7 : (y7.toInt - z1.toInt) % 256 = 0 ∧ -128 ≤ y7.toInt ∧ y7.toInt < 128 := by rw [hy7]; exact c_i2b z1
  rw [show y7 = z1 from ow_eq (by omega)] at W7 V7
  have V_b6_7 : Arv Z h7 b6 k6 .byte (1 : Int32) [(.int z1)] (.int (0 : Int32)) := V7
  have E_b6_7 := A6.wr W7
  have Zs7 : n0 ≤ h7.size := Nat.le_trans Zs6 (Keep.of_wr W7).1
  have K7 := K6.wr W7 (Or.inr sz_b6)
  have N7 := Fr.snoc X7 N0 g_b6
  exact ow_retA X7 hx hret hlk rfl rfl (hb hby d_m3_36) (by decide) (by decide) (show Q_byt1 Z pn pv h0 n0 _ T7.heap _ from by rw [e7]; exact ⟨b6, k6, z1, rfl, N7, K7, E_b6_7, V_b6_7, sz_b6, (show ((z1.toInt - pv.toInt) % 256 = 0 ∧ -128 ≤ z1.toInt ∧ z1.toInt < 128) from by omega)⟩)
theorem d_m4_17 : decode method_4_code 17 = .ok (.aload_n 0, 1) := by decide +kernel
theorem d_m4_18 : decode method_4_code 18 = .ok (.iconst 0, 1) := by decide +kernel
theorem d_m4_19 : decode method_4_code 19 = .ok (.baload, 1) := by decide +kernel
theorem d_m4_20 : decode method_4_code 20 = .ok (.iload_n 2, 1) := by decide +kernel
theorem d_m4_21 : decode method_4_code 21 = .ok (.i2b, 1) := by decide +kernel
theorem d_m4_22 : decode method_4_code 22 = .ok (.if_icmp .eq 5, 3) := by decide +kernel
set_option maxRecDepth 65536 in
set_option maxHeartbeats 40000000 in
theorem rm_sam1 (l : Launch) (Z : State) (a0 : Array Value) (hw : ∀ d ∈ tables_1, d.before a0 Z = true) (ws : List Jvm.Cond) (oa : Addr) (pn : Int32) (pv : Int32) (ka : ClassId) (y0 : Int32) (h0 : Heap) (V_a : Arv Z h0 oa ka (.byte) (1 : Int32) [(.int y0)] (.int (0 : Int32))) (hn : pn.toInt = 1) (hy : ((y0.toInt - pv.toInt) % 256 = 0 ∧ -128 ≤ y0.toInt ∧ y0.toInt < 128)) :
    MetFree l (⟨"com/example/inchworm/inchworm/handler/ResultReplacePinLaw", "sameBytes", "([BII)Z"⟩ : MethodName) (head1 (Jvm.Cond.code (⟨"com/example/inchworm/inchworm/handler/ResultReplacePinLaw", "sameBytes", "([BII)Z"⟩ : MethodName) method_4_code 3 (some .boolean) :: ws) ({ frames := 0, cells := 0, slots := 0, locals := 0 } : Room)) (fun a_ U_ => a_ = #[(.ref oa), (.int pn), (.int pv)] ∧ Z.Warmed39 U_.vm ∧ U_.heap = h0) (fun _ _ _ _ _ => True) (fun _ U_ o_ U_' => ∃ v_ L_, o_ = .returned v_ ∧ (QI (fun z => z.toInt = 1) h0) v_ U_'.heap L_ ∧ FrameEnd U_ o_ U_' L_ 0 0) := by
  refine ow_body (plainFor_of_name pn_0) ?_
  intro p e s m below meth c T0 X0 hx hZ hby hml hown hnm hret hlk e0
  refine Ends.cast (ef_sam0 m oa pn pv) ?_
  have r_pn := rng32 pn
  have r_pv := rng32 pv
  refine ow_aloadN X0 hx (hb hby d_m4_0) rfl rfl (pc' := 1) rfl ?_
  refine ow_ifnullN X0 hx (hb hby d_m4_1) (pc' := 4) rfl ?_
  refine ow_aloadN X0 hx (hb hby d_m4_4) rfl rfl (pc' := 5) rfl ?_
  refine ow_len X0 hx hZ e0 V_a (hb hby d_m4_5) (pc' := 6) rfl ?_
  refine ow_iloadN X0 hx (hb hby d_m4_6) rfl (pc' := 7) rfl ?_
  refine ow_icmp_eq X0 hx ((1 : Int)) (pn.toInt) (hb hby d_m4_7) rfl rfl (by decide) (pt := 12) (by decide) (pf := 10) rfl (fun c7 => ?_) (fun c7 => absurd c7 (by omega))
  refine ow_iloadN X0 hx (hb hby d_m4_12) rfl (pc' := 13) rfl ?_
  refine ow_iconst X0 hx (z := (1 : Int32)) (hb hby d_m4_13) rfl (pc' := 14) rfl ?_
  refine ow_icmp_lt X0 hx (pn.toInt) ((1 : Int)) (hb hby d_m4_14) rfl rfl (by decide) (pt := 27) (by decide) (pf := 17) rfl (fun c14 => absurd c14 (by omega)) (fun c14 => ?_)
  refine ow_aloadN X0 hx (hb hby d_m4_17) rfl rfl (pc' := 18) rfl ?_
  refine ow_iconst X0 hx (z := (0 : Int32)) (hb hby d_m4_18) rfl (pc' := 19) rfl ?_
  refine ow_ldB X0 hx hZ e0 V_a (by decide) (by decide) rfl (hb hby d_m4_19) (pc' := 20) rfl ?_
  refine ow_iloadN X0 hx (hb hby d_m4_20) rfl (pc' := 21) rfl ?_
  refine ow_i2b X0 hx (hb hby d_m4_21) (pc' := 22) rfl (fun z1 hz1 => ?_)
  have az1 : (z1.toInt - pv.toInt) % 256 = 0 ∧ -128 ≤ z1.toInt ∧ z1.toInt < 128 := by rw [hz1]; exact c_i2b pv
  have rz1 := rng32 z1
  refine ow_icmp_eq X0 hx (y0.toInt) (z1.toInt) (hb hby d_m4_22) rfl rfl (by decide) (pt := 27) (by decide) (pf := 25) rfl (fun c22 => ?_) (fun c22 => absurd c22 (by omega))
  refine ow_iloadN X0 hx (hb hby d_m4_27) rfl (pc' := 28) rfl ?_
  refine ow_iconst X0 hx (z := (2 : Int32)) (hb hby d_m4_28) rfl (pc' := 29) rfl ?_
  refine ow_icmp_lt X0 hx (pn.toInt) ((2 : Int)) (hb hby d_m4_29) rfl rfl (by decide) (pt := 45) (by decide) (pf := 32) rfl (fun c29 => ?_) (fun c29 => absurd c29 (by omega))
  refine ow_iloadN X0 hx (hb hby d_m4_45) rfl (pc' := 46) rfl ?_
  refine ow_iconst X0 hx (z := (3 : Int32)) (hb hby d_m4_46) rfl (pc' := 47) rfl ?_
  refine ow_icmp_lt X0 hx (pn.toInt) ((3 : Int)) (hb hby d_m4_47) rfl rfl (by decide) (pt := 63) (by decide) (pf := 50) rfl (fun c47 => ?_) (fun c47 => absurd c47 (by omega))
  refine ow_iconst X0 hx (z := (1 : Int32)) (hb hby d_m4_63) rfl (pc' := 64) rfl ?_
  exact ow_retB X0 hx hret hlk (hb hby d_m4_64) (by decide) (by decide) (z' := (1 : Int32)) rfl ⟨(1 : Int32), rfl, (show (1 : Int) = 1 from by omega), rfl, e0⟩
theorem d_m3_37 : decode method_3_code 37 = .ok (.iload_n 0, 1) := by decide +kernel
theorem d_m3_38 : decode method_3_code 38 = .ok (.iconst 2, 1) := by decide +kernel
theorem d_m3_39 : decode method_3_code 39 = .ok (.if_icmp .ne 15, 3) := by decide +kernel
theorem d_m3_42 : decode method_3_code 42 = .ok (.iconst 2, 1) := by decide +kernel
theorem d_m3_43 : decode method_3_code 43 = .ok (.newarray .byte, 2) := by decide +kernel
theorem d_m3_45 : decode method_3_code 45 = .ok (.dup, 1) := by decide +kernel
theorem d_m3_46 : decode method_3_code 46 = .ok (.iconst 0, 1) := by decide +kernel
theorem d_m3_47 : decode method_3_code 47 = .ok (.iload_n 2, 1) := by decide +kernel
theorem d_m3_48 : decode method_3_code 48 = .ok (.bastore, 1) := by decide +kernel
theorem d_m3_49 : decode method_3_code 49 = .ok (.dup, 1) := by decide +kernel
theorem d_m3_50 : decode method_3_code 50 = .ok (.iconst 1, 1) := by decide +kernel
theorem d_m3_51 : decode method_3_code 51 = .ok (.iload_n 3, 1) := by decide +kernel
theorem d_m3_52 : decode method_3_code 52 = .ok (.bastore, 1) := by decide +kernel
theorem d_m3_53 : decode method_3_code 53 = .ok (.areturn, 1) := by decide +kernel
def Q_byt2 (Z : State) (pn : Int32) (pv : Int32) (h0 : Heap) (n0 : Nat) (v : Option Value) (h : Heap) (L : List Loc) : Prop := ∃ (ow : Addr), ∃ (kw : ClassId), ∃ (y0 : Int32), ∃ (y1 : Int32), (v = some (.ref ow)) ∧ (Fr n0 L) ∧ (Keep h0 h []) ∧ (Exa Z h ow "[B") ∧ (Arv Z h ow kw (.byte) (2 : Int32) [(.int y0), (.int y1)] (.int (0 : Int32))) ∧ (h0.size ≤ ow) ∧ (((y0.toInt - pv.toInt) % 256 = 0 ∧ -128 ≤ y0.toInt ∧ y0.toInt < 128) ∧ ((y1.toInt - (pv.toInt % 4294967296) / 256) % 256 = 0 ∧ -128 ≤ y1.toInt ∧ y1.toInt < 128))
set_option maxRecDepth 65536 in
set_option maxHeartbeats 40000000 in
theorem rm_byt2 (l : Launch) (Z : State) (a0 : Array Value) (hw : ∀ d ∈ tables_1, d.before a0 Z = true) (ws : List Jvm.Cond) (pn : Int32) (pv : Int32) (h0 : Heap) (n0 : Nat) (Z0 : n0 ≤ h0.size) (hn : pn.toInt = 2) :
    MetFree l (⟨"com/example/inchworm/inchworm/handler/ResultReplacePinLaw", "bytesOf", "(II)[B"⟩ : MethodName) (head1 (Jvm.Cond.code (⟨"com/example/inchworm/inchworm/handler/ResultReplacePinLaw", "bytesOf", "(II)[B"⟩ : MethodName) method_3_code 5 (some (.array .byte)) :: ws) ({ frames := 0, cells := 1, slots := 2, locals := 0 } : Room)) (fun a_ U_ => a_ = #[(.int pn), (.int pv)] ∧ Z.Warmed39 U_.vm ∧ U_.heap = h0) (fun _ _ _ _ _ => True) (fun _ U_ o_ U_' => ∃ v_ L_, o_ = .returned v_ ∧ (Q_byt2 Z pn pv h0 n0) v_ U_'.heap L_ ∧ FrameEnd U_ o_ U_' L_ 1 2) := by
  refine ow_body (plainFor_of_name pn_0) ?_
  intro p e s m below meth c T0 X0 hx hZ hby hml hown hnm hret hlk e0
  have N0 := Fr.nil n0
  refine Ends.cast (ef_byt0 m pn pv) ?_
  have r_pn := rng32 pn
  have r_pv := rng32 pv
  refine ow_iloadN X0 hx (hb hby d_m3_0) rfl (pc' := 1) rfl ?_
  refine ow_i2b X0 hx (hb hby d_m3_1) (pc' := 2) rfl (fun z1 hz1 => ?_)
  have az1 : (z1.toInt - pv.toInt) % 256 = 0 ∧ -128 ≤ z1.toInt ∧ z1.toInt < 128 := by rw [hz1]; exact c_i2b pv
  have rz1 := rng32 z1
  refine ow_istoreN X0 hx (Ls' := #[.val (.int pn), .val (.int pv), .val (.int z1), .unset, .unset]) (hb hby d_m3_2) rfl (pc' := 3) rfl ?_
  refine ow_iloadN X0 hx (hb hby d_m3_3) rfl (pc' := 4) rfl ?_
  refine ow_bipush X0 hx (z := (8 : Int32)) (hb hby d_m3_4) rfl (pc' := 6) rfl ?_
  refine ow_iushr X0 hx (hb hby d_m3_6) (pc' := 7) rfl (fun z2 hz2 => ?_)
  have az2 : z2.toInt = (pv.toInt % 4294967296) / 256 := by rw [hz2]; exact c_iushr pv (8 : Int32) 8 (by decide) (by decide)
  have rz2 := rng32 z2
  refine ow_i2b X0 hx (hb hby d_m3_7) (pc' := 8) rfl (fun z3 hz3 => ?_)
  have az3 : (z3.toInt - z2.toInt) % 256 = 0 ∧ -128 ≤ z3.toInt ∧ z3.toInt < 128 := by rw [hz3]; exact c_i2b z2
  have rz3 := rng32 z3
  refine ow_istoreN X0 hx (Ls' := #[.val (.int pn), .val (.int pv), .val (.int z1), .val (.int z3), .unset]) (hb hby d_m3_8) rfl (pc' := 9) rfl ?_
  refine ow_iloadN X0 hx (hb hby d_m3_9) rfl (pc' := 10) rfl ?_
  refine ow_bipush X0 hx (z := (16 : Int32)) (hb hby d_m3_10) rfl (pc' := 12) rfl ?_
  refine ow_iushr X0 hx (hb hby d_m3_12) (pc' := 13) rfl (fun z4 hz4 => ?_)
  have az4 : z4.toInt = (pv.toInt % 4294967296) / 65536 := by rw [hz4]; exact c_iushr pv (16 : Int32) 16 (by decide) (by decide)
  have rz4 := rng32 z4
  refine ow_i2b X0 hx (hb hby d_m3_13) (pc' := 14) rfl (fun z5 hz5 => ?_)
  have az5 : (z5.toInt - z4.toInt) % 256 = 0 ∧ -128 ≤ z5.toInt ∧ z5.toInt < 128 := by rw [hz5]; exact c_i2b z4
  have rz5 := rng32 z5
  refine ow_istore X0 hx (Ls' := #[.val (.int pn), .val (.int pv), .val (.int z1), .val (.int z3), .val (.int z5)]) (hb hby d_m3_14) rfl (pc' := 16) rfl ?_
  refine ow_iloadN X0 hx (hb hby d_m3_16) rfl (pc' := 17) rfl ?_
  refine ow_if_ne X0 hx (pn.toInt) (hb hby d_m3_17) rfl (by decide) (pt := 24) (by decide) (pf := 20) rfl (fun c17 => ?_) (fun c17 => absurd c17 (by omega))
  refine ow_iloadN X0 hx (hb hby d_m3_24) rfl (pc' := 25) rfl ?_
  refine ow_iconst X0 hx (z := (1 : Int32)) (hb hby d_m3_25) rfl (pc' := 26) rfl ?_
  refine ow_icmp_ne X0 hx (pn.toInt) ((1 : Int)) (hb hby d_m3_26) rfl rfl (by decide) (pt := 37) (by decide) (pf := 29) rfl (fun c26 => ?_) (fun c26 => absurd c26 (by omega))
  refine ow_iloadN X0 hx (hb hby d_m3_37) rfl (pc' := 38) rfl ?_
  refine ow_iconst X0 hx (z := (2 : Int32)) (hb hby d_m3_38) rfl (pc' := 39) rfl ?_
  refine ow_icmp_ne X0 hx (pn.toInt) ((2 : Int)) (hb hby d_m3_39) rfl rfl (by decide) (pt := 54) (by decide) (pf := 42) rfl (fun c39 => absurd c39 (by omega)) (fun c39 => ?_)
  refine ow_iconst X0 hx (z := (2 : Int32)) (hb hby d_m3_42) rfl (pc' := 43) rfl ?_
  refine ow_newPE X0 hx hZ (hw _ (List.mem_of_getElem? (i := 4) rfl)) e0 (hb hby d_m3_43) (by decide) 2 (by decide) (by decide) (by decide) (by decide) (ad := "[B") (by decide) (pc' := 45) rfl (fun T6 h6 b6 k6 g6 X6 e6 E6 V6 A6 => ?_)
  have g_b6 : n0 ≤ b6 := Nat.le_trans Z0 (Nat.le_of_eq g6.symm)
  have sz_b6 : h0.size ≤ b6 := Nat.le_trans (Keep.refl h0 []).1 (Nat.le_of_eq g6.symm)
  have Zs6 : n0 ≤ h6.size := Nat.le_trans Z0 E6.1
  have K6 := (Keep.refl h0 []).ext E6
  have V_b6 : Arv Z h6 b6 k6 .byte (2 : Int32) [(.int (0 : Int32)), (.int (0 : Int32))] (.int (0 : Int32)) := V6.pad (pad_rep [] (.int (0 : Int32)) 2)
  refine ow_dup X6 hx (hb hby d_m3_45) rfl (pc' := 46) rfl ?_
  refine ow_iconst X6 hx (z := (0 : Int32)) (hb hby d_m3_46) rfl (pc' := 47) rfl ?_
  refine ow_iloadN X6 hx (hb hby d_m3_47) rfl (pc' := 48) rfl ?_
  refine ow_stB X6 hx hZ e6 V_b6 0 rfl (by decide) (by decide) (Nat.le_of_ble_eq_true rfl) (hb hby d_m3_48) (pc' := 49) rfl (fun T7 h7 X7 e7 W7 V7 => ?_)
  obtain ⟨y7, hy7⟩ : ∃ y : Int32, y = z1.toInt8.toInt32 := ⟨_, rfl⟩
  rw [← hy7] at W7 V7
  have ay7 : (y7.toInt - z1.toInt) % 256 = 0 ∧ -128 ≤ y7.toInt ∧ y7.toInt < 128 := by rw [hy7]; exact c_i2b z1
  rw [show y7 = z1 from ow_eq (by omega)] at W7 V7
  have V_b6_7 : Arv Z h7 b6 k6 .byte (2 : Int32) [(.int z1), (.int (0 : Int32))] (.int (0 : Int32)) := V7
  have E_b6_7 := A6.wr W7
  have Zs7 : n0 ≤ h7.size := Nat.le_trans Zs6 (Keep.of_wr W7).1
  have K7 := K6.wr W7 (Or.inr sz_b6)
  have N7 := Fr.snoc X7 N0 g_b6
  refine ow_dup X7 hx (hb hby d_m3_49) rfl (pc' := 50) rfl ?_
  refine ow_iconst X7 hx (z := (1 : Int32)) (hb hby d_m3_50) rfl (pc' := 51) rfl ?_
  refine ow_iloadN X7 hx (hb hby d_m3_51) rfl (pc' := 52) rfl ?_
  refine ow_stB X7 hx hZ e7 V_b6_7 1 rfl (by decide) (by decide) (Nat.le_of_ble_eq_true rfl) (hb hby d_m3_52) (pc' := 53) rfl (fun T8 h8 X8 e8 W8 V8 => ?_)
  obtain ⟨y8, hy8⟩ : ∃ y : Int32, y = z3.toInt8.toInt32 := ⟨_, rfl⟩
  rw [← hy8] at W8 V8
  have ay8 : (y8.toInt - z3.toInt) % 256 = 0 ∧ -128 ≤ y8.toInt ∧ y8.toInt < 128 := by rw [hy8]; exact c_i2b z3
  rw [show y8 = z3 from ow_eq (by omega)] at W8 V8
  have V_b6_8 : Arv Z h8 b6 k6 .byte (2 : Int32) [(.int z1), (.int z3)] (.int (0 : Int32)) := V8
  have E_b6_8 := E_b6_7.wr W8
  have Zs8 : n0 ≤ h8.size := Nat.le_trans Zs7 (Keep.of_wr W8).1
  have K8 := K7.wr W8 (Or.inr sz_b6)
  have N8 := Fr.snoc X8 N7 g_b6
  exact ow_retA X8 hx hret hlk rfl rfl (hb hby d_m3_53) (by decide) (by decide) (show Q_byt2 Z pn pv h0 n0 _ T8.heap _ from by rw [e8]; exact ⟨b6, k6, z1, z3, rfl, N8, K8, E_b6_8, V_b6_8, sz_b6, (show ((z1.toInt - pv.toInt) % 256 = 0 ∧ -128 ≤ z1.toInt ∧ z1.toInt < 128) ∧ ((z3.toInt - (pv.toInt % 4294967296) / 256) % 256 = 0 ∧ -128 ≤ z3.toInt ∧ z3.toInt < 128) from by omega)⟩)
theorem d_m4_32 : decode method_4_code 32 = .ok (.aload_n 0, 1) := by decide +kernel
theorem d_m4_33 : decode method_4_code 33 = .ok (.iconst 1, 1) := by decide +kernel
theorem d_m4_34 : decode method_4_code 34 = .ok (.baload, 1) := by decide +kernel
theorem d_m4_35 : decode method_4_code 35 = .ok (.iload_n 2, 1) := by decide +kernel
theorem d_m4_36 : decode method_4_code 36 = .ok (.bipush 8, 2) := by decide +kernel
theorem d_m4_38 : decode method_4_code 38 = .ok (.iushr, 1) := by decide +kernel
theorem d_m4_39 : decode method_4_code 39 = .ok (.i2b, 1) := by decide +kernel
theorem d_m4_40 : decode method_4_code 40 = .ok (.if_icmp .eq 5, 3) := by decide +kernel
set_option maxRecDepth 65536 in
set_option maxHeartbeats 40000000 in
theorem rm_sam2 (l : Launch) (Z : State) (a0 : Array Value) (hw : ∀ d ∈ tables_1, d.before a0 Z = true) (ws : List Jvm.Cond) (oa : Addr) (pn : Int32) (pv : Int32) (ka : ClassId) (y0 : Int32) (y1 : Int32) (h0 : Heap) (V_a : Arv Z h0 oa ka (.byte) (2 : Int32) [(.int y0), (.int y1)] (.int (0 : Int32))) (hn : pn.toInt = 2) (hy : ((y0.toInt - pv.toInt) % 256 = 0 ∧ -128 ≤ y0.toInt ∧ y0.toInt < 128) ∧ ((y1.toInt - (pv.toInt % 4294967296) / 256) % 256 = 0 ∧ -128 ≤ y1.toInt ∧ y1.toInt < 128)) :
    MetFree l (⟨"com/example/inchworm/inchworm/handler/ResultReplacePinLaw", "sameBytes", "([BII)Z"⟩ : MethodName) (head1 (Jvm.Cond.code (⟨"com/example/inchworm/inchworm/handler/ResultReplacePinLaw", "sameBytes", "([BII)Z"⟩ : MethodName) method_4_code 3 (some .boolean) :: ws) ({ frames := 0, cells := 0, slots := 0, locals := 0 } : Room)) (fun a_ U_ => a_ = #[(.ref oa), (.int pn), (.int pv)] ∧ Z.Warmed39 U_.vm ∧ U_.heap = h0) (fun _ _ _ _ _ => True) (fun _ U_ o_ U_' => ∃ v_ L_, o_ = .returned v_ ∧ (QI (fun z => z.toInt = 1) h0) v_ U_'.heap L_ ∧ FrameEnd U_ o_ U_' L_ 0 0) := by
  refine ow_body (plainFor_of_name pn_0) ?_
  intro p e s m below meth c T0 X0 hx hZ hby hml hown hnm hret hlk e0
  refine Ends.cast (ef_sam0 m oa pn pv) ?_
  have r_pn := rng32 pn
  have r_pv := rng32 pv
  refine ow_aloadN X0 hx (hb hby d_m4_0) rfl rfl (pc' := 1) rfl ?_
  refine ow_ifnullN X0 hx (hb hby d_m4_1) (pc' := 4) rfl ?_
  refine ow_aloadN X0 hx (hb hby d_m4_4) rfl rfl (pc' := 5) rfl ?_
  refine ow_len X0 hx hZ e0 V_a (hb hby d_m4_5) (pc' := 6) rfl ?_
  refine ow_iloadN X0 hx (hb hby d_m4_6) rfl (pc' := 7) rfl ?_
  refine ow_icmp_eq X0 hx ((2 : Int)) (pn.toInt) (hb hby d_m4_7) rfl rfl (by decide) (pt := 12) (by decide) (pf := 10) rfl (fun c7 => ?_) (fun c7 => absurd c7 (by omega))
  refine ow_iloadN X0 hx (hb hby d_m4_12) rfl (pc' := 13) rfl ?_
  refine ow_iconst X0 hx (z := (1 : Int32)) (hb hby d_m4_13) rfl (pc' := 14) rfl ?_
  refine ow_icmp_lt X0 hx (pn.toInt) ((1 : Int)) (hb hby d_m4_14) rfl rfl (by decide) (pt := 27) (by decide) (pf := 17) rfl (fun c14 => absurd c14 (by omega)) (fun c14 => ?_)
  refine ow_aloadN X0 hx (hb hby d_m4_17) rfl rfl (pc' := 18) rfl ?_
  refine ow_iconst X0 hx (z := (0 : Int32)) (hb hby d_m4_18) rfl (pc' := 19) rfl ?_
  refine ow_ldB X0 hx hZ e0 V_a (by decide) (by decide) rfl (hb hby d_m4_19) (pc' := 20) rfl ?_
  refine ow_iloadN X0 hx (hb hby d_m4_20) rfl (pc' := 21) rfl ?_
  refine ow_i2b X0 hx (hb hby d_m4_21) (pc' := 22) rfl (fun z1 hz1 => ?_)
  have az1 : (z1.toInt - pv.toInt) % 256 = 0 ∧ -128 ≤ z1.toInt ∧ z1.toInt < 128 := by rw [hz1]; exact c_i2b pv
  have rz1 := rng32 z1
  refine ow_icmp_eq X0 hx (y0.toInt) (z1.toInt) (hb hby d_m4_22) rfl rfl (by decide) (pt := 27) (by decide) (pf := 25) rfl (fun c22 => ?_) (fun c22 => absurd c22 (by omega))
  refine ow_iloadN X0 hx (hb hby d_m4_27) rfl (pc' := 28) rfl ?_
  refine ow_iconst X0 hx (z := (2 : Int32)) (hb hby d_m4_28) rfl (pc' := 29) rfl ?_
  refine ow_icmp_lt X0 hx (pn.toInt) ((2 : Int)) (hb hby d_m4_29) rfl rfl (by decide) (pt := 45) (by decide) (pf := 32) rfl (fun c29 => absurd c29 (by omega)) (fun c29 => ?_)
  refine ow_aloadN X0 hx (hb hby d_m4_32) rfl rfl (pc' := 33) rfl ?_
  refine ow_iconst X0 hx (z := (1 : Int32)) (hb hby d_m4_33) rfl (pc' := 34) rfl ?_
  refine ow_ldB X0 hx hZ e0 V_a (by decide) (by decide) rfl (hb hby d_m4_34) (pc' := 35) rfl ?_
  refine ow_iloadN X0 hx (hb hby d_m4_35) rfl (pc' := 36) rfl ?_
  refine ow_bipush X0 hx (z := (8 : Int32)) (hb hby d_m4_36) rfl (pc' := 38) rfl ?_
  refine ow_iushr X0 hx (hb hby d_m4_38) (pc' := 39) rfl (fun z2 hz2 => ?_)
  have az2 : z2.toInt = (pv.toInt % 4294967296) / 256 := by rw [hz2]; exact c_iushr pv (8 : Int32) 8 (by decide) (by decide)
  have rz2 := rng32 z2
  refine ow_i2b X0 hx (hb hby d_m4_39) (pc' := 40) rfl (fun z3 hz3 => ?_)
  have az3 : (z3.toInt - z2.toInt) % 256 = 0 ∧ -128 ≤ z3.toInt ∧ z3.toInt < 128 := by rw [hz3]; exact c_i2b z2
  have rz3 := rng32 z3
  refine ow_icmp_eq X0 hx (y1.toInt) (z3.toInt) (hb hby d_m4_40) rfl rfl (by decide) (pt := 45) (by decide) (pf := 43) rfl (fun c40 => ?_) (fun c40 => absurd c40 (by omega))
  refine ow_iloadN X0 hx (hb hby d_m4_45) rfl (pc' := 46) rfl ?_
  refine ow_iconst X0 hx (z := (3 : Int32)) (hb hby d_m4_46) rfl (pc' := 47) rfl ?_
  refine ow_icmp_lt X0 hx (pn.toInt) ((3 : Int)) (hb hby d_m4_47) rfl rfl (by decide) (pt := 63) (by decide) (pf := 50) rfl (fun c47 => ?_) (fun c47 => absurd c47 (by omega))
  refine ow_iconst X0 hx (z := (1 : Int32)) (hb hby d_m4_63) rfl (pc' := 64) rfl ?_
  exact ow_retB X0 hx hret hlk (hb hby d_m4_64) (by decide) (by decide) (z' := (1 : Int32)) rfl ⟨(1 : Int32), rfl, (show (1 : Int) = 1 from by omega), rfl, e0⟩
theorem d_m3_54 : decode method_3_code 54 = .ok (.iconst 3, 1) := by decide +kernel
theorem d_m3_55 : decode method_3_code 55 = .ok (.newarray .byte, 2) := by decide +kernel
theorem d_m3_57 : decode method_3_code 57 = .ok (.dup, 1) := by decide +kernel
theorem d_m3_58 : decode method_3_code 58 = .ok (.iconst 0, 1) := by decide +kernel
theorem d_m3_59 : decode method_3_code 59 = .ok (.iload_n 2, 1) := by decide +kernel
theorem d_m3_60 : decode method_3_code 60 = .ok (.bastore, 1) := by decide +kernel
theorem d_m3_61 : decode method_3_code 61 = .ok (.dup, 1) := by decide +kernel
theorem d_m3_62 : decode method_3_code 62 = .ok (.iconst 1, 1) := by decide +kernel
theorem d_m3_63 : decode method_3_code 63 = .ok (.iload_n 3, 1) := by decide +kernel
theorem d_m3_64 : decode method_3_code 64 = .ok (.bastore, 1) := by decide +kernel
theorem d_m3_65 : decode method_3_code 65 = .ok (.dup, 1) := by decide +kernel
theorem d_m3_66 : decode method_3_code 66 = .ok (.iconst 2, 1) := by decide +kernel
theorem d_m3_67 : decode method_3_code 67 = .ok (.iload 4, 2) := by decide +kernel
theorem d_m3_69 : decode method_3_code 69 = .ok (.bastore, 1) := by decide +kernel
theorem d_m3_70 : decode method_3_code 70 = .ok (.areturn, 1) := by decide +kernel
def Q_byt3 (Z : State) (pn : Int32) (pv : Int32) (h0 : Heap) (n0 : Nat) (v : Option Value) (h : Heap) (L : List Loc) : Prop := ∃ (ow : Addr), ∃ (kw : ClassId), ∃ (y0 : Int32), ∃ (y1 : Int32), ∃ (y2 : Int32), (v = some (.ref ow)) ∧ (Fr n0 L) ∧ (Keep h0 h []) ∧ (Exa Z h ow "[B") ∧ (Arv Z h ow kw (.byte) (3 : Int32) [(.int y0), (.int y1), (.int y2)] (.int (0 : Int32))) ∧ (h0.size ≤ ow) ∧ (((y0.toInt - pv.toInt) % 256 = 0 ∧ -128 ≤ y0.toInt ∧ y0.toInt < 128) ∧ ((y1.toInt - (pv.toInt % 4294967296) / 256) % 256 = 0 ∧ -128 ≤ y1.toInt ∧ y1.toInt < 128) ∧ ((y2.toInt - (pv.toInt % 4294967296) / 65536) % 256 = 0 ∧ -128 ≤ y2.toInt ∧ y2.toInt < 128))
set_option maxRecDepth 65536 in
set_option maxHeartbeats 40000000 in
theorem rm_byt3 (l : Launch) (Z : State) (a0 : Array Value) (hw : ∀ d ∈ tables_1, d.before a0 Z = true) (ws : List Jvm.Cond) (pn : Int32) (pv : Int32) (h0 : Heap) (n0 : Nat) (Z0 : n0 ≤ h0.size) (hn : pn.toInt = 3) :
    MetFree l (⟨"com/example/inchworm/inchworm/handler/ResultReplacePinLaw", "bytesOf", "(II)[B"⟩ : MethodName) (head1 (Jvm.Cond.code (⟨"com/example/inchworm/inchworm/handler/ResultReplacePinLaw", "bytesOf", "(II)[B"⟩ : MethodName) method_3_code 5 (some (.array .byte)) :: ws) ({ frames := 0, cells := 1, slots := 3, locals := 0 } : Room)) (fun a_ U_ => a_ = #[(.int pn), (.int pv)] ∧ Z.Warmed39 U_.vm ∧ U_.heap = h0) (fun _ _ _ _ _ => True) (fun _ U_ o_ U_' => ∃ v_ L_, o_ = .returned v_ ∧ (Q_byt3 Z pn pv h0 n0) v_ U_'.heap L_ ∧ FrameEnd U_ o_ U_' L_ 1 3) := by
  refine ow_body (plainFor_of_name pn_0) ?_
  intro p e s m below meth c T0 X0 hx hZ hby hml hown hnm hret hlk e0
  have N0 := Fr.nil n0
  refine Ends.cast (ef_byt0 m pn pv) ?_
  have r_pn := rng32 pn
  have r_pv := rng32 pv
  refine ow_iloadN X0 hx (hb hby d_m3_0) rfl (pc' := 1) rfl ?_
  refine ow_i2b X0 hx (hb hby d_m3_1) (pc' := 2) rfl (fun z1 hz1 => ?_)
  have az1 : (z1.toInt - pv.toInt) % 256 = 0 ∧ -128 ≤ z1.toInt ∧ z1.toInt < 128 := by rw [hz1]; exact c_i2b pv
  have rz1 := rng32 z1
  refine ow_istoreN X0 hx (Ls' := #[.val (.int pn), .val (.int pv), .val (.int z1), .unset, .unset]) (hb hby d_m3_2) rfl (pc' := 3) rfl ?_
  refine ow_iloadN X0 hx (hb hby d_m3_3) rfl (pc' := 4) rfl ?_
  refine ow_bipush X0 hx (z := (8 : Int32)) (hb hby d_m3_4) rfl (pc' := 6) rfl ?_
  refine ow_iushr X0 hx (hb hby d_m3_6) (pc' := 7) rfl (fun z2 hz2 => ?_)
  have az2 : z2.toInt = (pv.toInt % 4294967296) / 256 := by rw [hz2]; exact c_iushr pv (8 : Int32) 8 (by decide) (by decide)
  have rz2 := rng32 z2
  refine ow_i2b X0 hx (hb hby d_m3_7) (pc' := 8) rfl (fun z3 hz3 => ?_)
  have az3 : (z3.toInt - z2.toInt) % 256 = 0 ∧ -128 ≤ z3.toInt ∧ z3.toInt < 128 := by rw [hz3]; exact c_i2b z2
  have rz3 := rng32 z3
  refine ow_istoreN X0 hx (Ls' := #[.val (.int pn), .val (.int pv), .val (.int z1), .val (.int z3), .unset]) (hb hby d_m3_8) rfl (pc' := 9) rfl ?_
  refine ow_iloadN X0 hx (hb hby d_m3_9) rfl (pc' := 10) rfl ?_
  refine ow_bipush X0 hx (z := (16 : Int32)) (hb hby d_m3_10) rfl (pc' := 12) rfl ?_
  refine ow_iushr X0 hx (hb hby d_m3_12) (pc' := 13) rfl (fun z4 hz4 => ?_)
  have az4 : z4.toInt = (pv.toInt % 4294967296) / 65536 := by rw [hz4]; exact c_iushr pv (16 : Int32) 16 (by decide) (by decide)
  have rz4 := rng32 z4
  refine ow_i2b X0 hx (hb hby d_m3_13) (pc' := 14) rfl (fun z5 hz5 => ?_)
  have az5 : (z5.toInt - z4.toInt) % 256 = 0 ∧ -128 ≤ z5.toInt ∧ z5.toInt < 128 := by rw [hz5]; exact c_i2b z4
  have rz5 := rng32 z5
  refine ow_istore X0 hx (Ls' := #[.val (.int pn), .val (.int pv), .val (.int z1), .val (.int z3), .val (.int z5)]) (hb hby d_m3_14) rfl (pc' := 16) rfl ?_
  refine ow_iloadN X0 hx (hb hby d_m3_16) rfl (pc' := 17) rfl ?_
  refine ow_if_ne X0 hx (pn.toInt) (hb hby d_m3_17) rfl (by decide) (pt := 24) (by decide) (pf := 20) rfl (fun c17 => ?_) (fun c17 => absurd c17 (by omega))
  refine ow_iloadN X0 hx (hb hby d_m3_24) rfl (pc' := 25) rfl ?_
  refine ow_iconst X0 hx (z := (1 : Int32)) (hb hby d_m3_25) rfl (pc' := 26) rfl ?_
  refine ow_icmp_ne X0 hx (pn.toInt) ((1 : Int)) (hb hby d_m3_26) rfl rfl (by decide) (pt := 37) (by decide) (pf := 29) rfl (fun c26 => ?_) (fun c26 => absurd c26 (by omega))
  refine ow_iloadN X0 hx (hb hby d_m3_37) rfl (pc' := 38) rfl ?_
  refine ow_iconst X0 hx (z := (2 : Int32)) (hb hby d_m3_38) rfl (pc' := 39) rfl ?_
  refine ow_icmp_ne X0 hx (pn.toInt) ((2 : Int)) (hb hby d_m3_39) rfl rfl (by decide) (pt := 54) (by decide) (pf := 42) rfl (fun c39 => ?_) (fun c39 => absurd c39 (by omega))
  refine ow_iconst X0 hx (z := (3 : Int32)) (hb hby d_m3_54) rfl (pc' := 55) rfl ?_
  refine ow_newPE X0 hx hZ (hw _ (List.mem_of_getElem? (i := 4) rfl)) e0 (hb hby d_m3_55) (by decide) 3 (by decide) (by decide) (by decide) (by decide) (ad := "[B") (by decide) (pc' := 57) rfl (fun T6 h6 b6 k6 g6 X6 e6 E6 V6 A6 => ?_)
  have g_b6 : n0 ≤ b6 := Nat.le_trans Z0 (Nat.le_of_eq g6.symm)
  have sz_b6 : h0.size ≤ b6 := Nat.le_trans (Keep.refl h0 []).1 (Nat.le_of_eq g6.symm)
  have Zs6 : n0 ≤ h6.size := Nat.le_trans Z0 E6.1
  have K6 := (Keep.refl h0 []).ext E6
  have V_b6 : Arv Z h6 b6 k6 .byte (3 : Int32) [(.int (0 : Int32)), (.int (0 : Int32)), (.int (0 : Int32))] (.int (0 : Int32)) := V6.pad (pad_rep [] (.int (0 : Int32)) 3)
  refine ow_dup X6 hx (hb hby d_m3_57) rfl (pc' := 58) rfl ?_
  refine ow_iconst X6 hx (z := (0 : Int32)) (hb hby d_m3_58) rfl (pc' := 59) rfl ?_
  refine ow_iloadN X6 hx (hb hby d_m3_59) rfl (pc' := 60) rfl ?_
  refine ow_stB X6 hx hZ e6 V_b6 0 rfl (by decide) (by decide) (Nat.le_of_ble_eq_true rfl) (hb hby d_m3_60) (pc' := 61) rfl (fun T7 h7 X7 e7 W7 V7 => ?_)
  obtain ⟨y7, hy7⟩ : ∃ y : Int32, y = z1.toInt8.toInt32 := ⟨_, rfl⟩
  rw [← hy7] at W7 V7
  have ay7 : (y7.toInt - z1.toInt) % 256 = 0 ∧ -128 ≤ y7.toInt ∧ y7.toInt < 128 := by rw [hy7]; exact c_i2b z1
  rw [show y7 = z1 from ow_eq (by omega)] at W7 V7
  have V_b6_7 : Arv Z h7 b6 k6 .byte (3 : Int32) [(.int z1), (.int (0 : Int32)), (.int (0 : Int32))] (.int (0 : Int32)) := V7
  have E_b6_7 := A6.wr W7
  have Zs7 : n0 ≤ h7.size := Nat.le_trans Zs6 (Keep.of_wr W7).1
  have K7 := K6.wr W7 (Or.inr sz_b6)
  have N7 := Fr.snoc X7 N0 g_b6
  refine ow_dup X7 hx (hb hby d_m3_61) rfl (pc' := 62) rfl ?_
  refine ow_iconst X7 hx (z := (1 : Int32)) (hb hby d_m3_62) rfl (pc' := 63) rfl ?_
  refine ow_iloadN X7 hx (hb hby d_m3_63) rfl (pc' := 64) rfl ?_
  refine ow_stB X7 hx hZ e7 V_b6_7 1 rfl (by decide) (by decide) (Nat.le_of_ble_eq_true rfl) (hb hby d_m3_64) (pc' := 65) rfl (fun T8 h8 X8 e8 W8 V8 => ?_)
  obtain ⟨y8, hy8⟩ : ∃ y : Int32, y = z3.toInt8.toInt32 := ⟨_, rfl⟩
  rw [← hy8] at W8 V8
  have ay8 : (y8.toInt - z3.toInt) % 256 = 0 ∧ -128 ≤ y8.toInt ∧ y8.toInt < 128 := by rw [hy8]; exact c_i2b z3
  rw [show y8 = z3 from ow_eq (by omega)] at W8 V8
  have V_b6_8 : Arv Z h8 b6 k6 .byte (3 : Int32) [(.int z1), (.int z3), (.int (0 : Int32))] (.int (0 : Int32)) := V8
  have E_b6_8 := E_b6_7.wr W8
  have Zs8 : n0 ≤ h8.size := Nat.le_trans Zs7 (Keep.of_wr W8).1
  have K8 := K7.wr W8 (Or.inr sz_b6)
  have N8 := Fr.snoc X8 N7 g_b6
  refine ow_dup X8 hx (hb hby d_m3_65) rfl (pc' := 66) rfl ?_
  refine ow_iconst X8 hx (z := (2 : Int32)) (hb hby d_m3_66) rfl (pc' := 67) rfl ?_
  refine ow_iload X8 hx (hb hby d_m3_67) rfl (pc' := 69) rfl ?_
  refine ow_stB X8 hx hZ e8 V_b6_8 2 rfl (by decide) (by decide) (Nat.le_of_ble_eq_true rfl) (hb hby d_m3_69) (pc' := 70) rfl (fun T9 h9 X9 e9 W9 V9 => ?_)
  obtain ⟨y9, hy9⟩ : ∃ y : Int32, y = z5.toInt8.toInt32 := ⟨_, rfl⟩
  rw [← hy9] at W9 V9
  have ay9 : (y9.toInt - z5.toInt) % 256 = 0 ∧ -128 ≤ y9.toInt ∧ y9.toInt < 128 := by rw [hy9]; exact c_i2b z5
  rw [show y9 = z5 from ow_eq (by omega)] at W9 V9
  have V_b6_9 : Arv Z h9 b6 k6 .byte (3 : Int32) [(.int z1), (.int z3), (.int z5)] (.int (0 : Int32)) := V9
  have E_b6_9 := E_b6_8.wr W9
  have Zs9 : n0 ≤ h9.size := Nat.le_trans Zs8 (Keep.of_wr W9).1
  have K9 := K8.wr W9 (Or.inr sz_b6)
  have N9 := Fr.snoc X9 N8 g_b6
  exact ow_retA X9 hx hret hlk rfl rfl (hb hby d_m3_70) (by decide) (by decide) (show Q_byt3 Z pn pv h0 n0 _ T9.heap _ from by rw [e9]; exact ⟨b6, k6, z1, z3, z5, rfl, N9, K9, E_b6_9, V_b6_9, sz_b6, (show ((z1.toInt - pv.toInt) % 256 = 0 ∧ -128 ≤ z1.toInt ∧ z1.toInt < 128) ∧ ((z3.toInt - (pv.toInt % 4294967296) / 256) % 256 = 0 ∧ -128 ≤ z3.toInt ∧ z3.toInt < 128) ∧ ((z5.toInt - (pv.toInt % 4294967296) / 65536) % 256 = 0 ∧ -128 ≤ z5.toInt ∧ z5.toInt < 128) from by omega)⟩)
theorem d_m4_50 : decode method_4_code 50 = .ok (.aload_n 0, 1) := by decide +kernel
theorem d_m4_51 : decode method_4_code 51 = .ok (.iconst 2, 1) := by decide +kernel
theorem d_m4_52 : decode method_4_code 52 = .ok (.baload, 1) := by decide +kernel
theorem d_m4_53 : decode method_4_code 53 = .ok (.iload_n 2, 1) := by decide +kernel
theorem d_m4_54 : decode method_4_code 54 = .ok (.bipush 16, 2) := by decide +kernel
theorem d_m4_56 : decode method_4_code 56 = .ok (.iushr, 1) := by decide +kernel
theorem d_m4_57 : decode method_4_code 57 = .ok (.i2b, 1) := by decide +kernel
theorem d_m4_58 : decode method_4_code 58 = .ok (.if_icmp .eq 5, 3) := by decide +kernel
set_option maxRecDepth 65536 in
set_option maxHeartbeats 40000000 in
theorem rm_sam3 (l : Launch) (Z : State) (a0 : Array Value) (hw : ∀ d ∈ tables_1, d.before a0 Z = true) (ws : List Jvm.Cond) (oa : Addr) (pn : Int32) (pv : Int32) (ka : ClassId) (y0 : Int32) (y1 : Int32) (y2 : Int32) (h0 : Heap) (V_a : Arv Z h0 oa ka (.byte) (3 : Int32) [(.int y0), (.int y1), (.int y2)] (.int (0 : Int32))) (hn : pn.toInt = 3) (hy : ((y0.toInt - pv.toInt) % 256 = 0 ∧ -128 ≤ y0.toInt ∧ y0.toInt < 128) ∧ ((y1.toInt - (pv.toInt % 4294967296) / 256) % 256 = 0 ∧ -128 ≤ y1.toInt ∧ y1.toInt < 128) ∧ ((y2.toInt - (pv.toInt % 4294967296) / 65536) % 256 = 0 ∧ -128 ≤ y2.toInt ∧ y2.toInt < 128)) :
    MetFree l (⟨"com/example/inchworm/inchworm/handler/ResultReplacePinLaw", "sameBytes", "([BII)Z"⟩ : MethodName) (head1 (Jvm.Cond.code (⟨"com/example/inchworm/inchworm/handler/ResultReplacePinLaw", "sameBytes", "([BII)Z"⟩ : MethodName) method_4_code 3 (some .boolean) :: ws) ({ frames := 0, cells := 0, slots := 0, locals := 0 } : Room)) (fun a_ U_ => a_ = #[(.ref oa), (.int pn), (.int pv)] ∧ Z.Warmed39 U_.vm ∧ U_.heap = h0) (fun _ _ _ _ _ => True) (fun _ U_ o_ U_' => ∃ v_ L_, o_ = .returned v_ ∧ (QI (fun z => z.toInt = 1) h0) v_ U_'.heap L_ ∧ FrameEnd U_ o_ U_' L_ 0 0) := by
  refine ow_body (plainFor_of_name pn_0) ?_
  intro p e s m below meth c T0 X0 hx hZ hby hml hown hnm hret hlk e0
  refine Ends.cast (ef_sam0 m oa pn pv) ?_
  have r_pn := rng32 pn
  have r_pv := rng32 pv
  refine ow_aloadN X0 hx (hb hby d_m4_0) rfl rfl (pc' := 1) rfl ?_
  refine ow_ifnullN X0 hx (hb hby d_m4_1) (pc' := 4) rfl ?_
  refine ow_aloadN X0 hx (hb hby d_m4_4) rfl rfl (pc' := 5) rfl ?_
  refine ow_len X0 hx hZ e0 V_a (hb hby d_m4_5) (pc' := 6) rfl ?_
  refine ow_iloadN X0 hx (hb hby d_m4_6) rfl (pc' := 7) rfl ?_
  refine ow_icmp_eq X0 hx ((3 : Int)) (pn.toInt) (hb hby d_m4_7) rfl rfl (by decide) (pt := 12) (by decide) (pf := 10) rfl (fun c7 => ?_) (fun c7 => absurd c7 (by omega))
  refine ow_iloadN X0 hx (hb hby d_m4_12) rfl (pc' := 13) rfl ?_
  refine ow_iconst X0 hx (z := (1 : Int32)) (hb hby d_m4_13) rfl (pc' := 14) rfl ?_
  refine ow_icmp_lt X0 hx (pn.toInt) ((1 : Int)) (hb hby d_m4_14) rfl rfl (by decide) (pt := 27) (by decide) (pf := 17) rfl (fun c14 => absurd c14 (by omega)) (fun c14 => ?_)
  refine ow_aloadN X0 hx (hb hby d_m4_17) rfl rfl (pc' := 18) rfl ?_
  refine ow_iconst X0 hx (z := (0 : Int32)) (hb hby d_m4_18) rfl (pc' := 19) rfl ?_
  refine ow_ldB X0 hx hZ e0 V_a (by decide) (by decide) rfl (hb hby d_m4_19) (pc' := 20) rfl ?_
  refine ow_iloadN X0 hx (hb hby d_m4_20) rfl (pc' := 21) rfl ?_
  refine ow_i2b X0 hx (hb hby d_m4_21) (pc' := 22) rfl (fun z1 hz1 => ?_)
  have az1 : (z1.toInt - pv.toInt) % 256 = 0 ∧ -128 ≤ z1.toInt ∧ z1.toInt < 128 := by rw [hz1]; exact c_i2b pv
  have rz1 := rng32 z1
  refine ow_icmp_eq X0 hx (y0.toInt) (z1.toInt) (hb hby d_m4_22) rfl rfl (by decide) (pt := 27) (by decide) (pf := 25) rfl (fun c22 => ?_) (fun c22 => absurd c22 (by omega))
  refine ow_iloadN X0 hx (hb hby d_m4_27) rfl (pc' := 28) rfl ?_
  refine ow_iconst X0 hx (z := (2 : Int32)) (hb hby d_m4_28) rfl (pc' := 29) rfl ?_
  refine ow_icmp_lt X0 hx (pn.toInt) ((2 : Int)) (hb hby d_m4_29) rfl rfl (by decide) (pt := 45) (by decide) (pf := 32) rfl (fun c29 => absurd c29 (by omega)) (fun c29 => ?_)
  refine ow_aloadN X0 hx (hb hby d_m4_32) rfl rfl (pc' := 33) rfl ?_
  refine ow_iconst X0 hx (z := (1 : Int32)) (hb hby d_m4_33) rfl (pc' := 34) rfl ?_
  refine ow_ldB X0 hx hZ e0 V_a (by decide) (by decide) rfl (hb hby d_m4_34) (pc' := 35) rfl ?_
  refine ow_iloadN X0 hx (hb hby d_m4_35) rfl (pc' := 36) rfl ?_
  refine ow_bipush X0 hx (z := (8 : Int32)) (hb hby d_m4_36) rfl (pc' := 38) rfl ?_
  refine ow_iushr X0 hx (hb hby d_m4_38) (pc' := 39) rfl (fun z2 hz2 => ?_)
  have az2 : z2.toInt = (pv.toInt % 4294967296) / 256 := by rw [hz2]; exact c_iushr pv (8 : Int32) 8 (by decide) (by decide)
  have rz2 := rng32 z2
  refine ow_i2b X0 hx (hb hby d_m4_39) (pc' := 40) rfl (fun z3 hz3 => ?_)
  have az3 : (z3.toInt - z2.toInt) % 256 = 0 ∧ -128 ≤ z3.toInt ∧ z3.toInt < 128 := by rw [hz3]; exact c_i2b z2
  have rz3 := rng32 z3
  refine ow_icmp_eq X0 hx (y1.toInt) (z3.toInt) (hb hby d_m4_40) rfl rfl (by decide) (pt := 45) (by decide) (pf := 43) rfl (fun c40 => ?_) (fun c40 => absurd c40 (by omega))
  refine ow_iloadN X0 hx (hb hby d_m4_45) rfl (pc' := 46) rfl ?_
  refine ow_iconst X0 hx (z := (3 : Int32)) (hb hby d_m4_46) rfl (pc' := 47) rfl ?_
  refine ow_icmp_lt X0 hx (pn.toInt) ((3 : Int)) (hb hby d_m4_47) rfl rfl (by decide) (pt := 63) (by decide) (pf := 50) rfl (fun c47 => absurd c47 (by omega)) (fun c47 => ?_)
  refine ow_aloadN X0 hx (hb hby d_m4_50) rfl rfl (pc' := 51) rfl ?_
  refine ow_iconst X0 hx (z := (2 : Int32)) (hb hby d_m4_51) rfl (pc' := 52) rfl ?_
  refine ow_ldB X0 hx hZ e0 V_a (by decide) (by decide) rfl (hb hby d_m4_52) (pc' := 53) rfl ?_
  refine ow_iloadN X0 hx (hb hby d_m4_53) rfl (pc' := 54) rfl ?_
  refine ow_bipush X0 hx (z := (16 : Int32)) (hb hby d_m4_54) rfl (pc' := 56) rfl ?_
  refine ow_iushr X0 hx (hb hby d_m4_56) (pc' := 57) rfl (fun z4 hz4 => ?_)
  have az4 : z4.toInt = (pv.toInt % 4294967296) / 65536 := by rw [hz4]; exact c_iushr pv (16 : Int32) 16 (by decide) (by decide)
  have rz4 := rng32 z4
  refine ow_i2b X0 hx (hb hby d_m4_57) (pc' := 58) rfl (fun z5 hz5 => ?_)
  have az5 : (z5.toInt - z4.toInt) % 256 = 0 ∧ -128 ≤ z5.toInt ∧ z5.toInt < 128 := by rw [hz5]; exact c_i2b z4
  have rz5 := rng32 z5
  refine ow_icmp_eq X0 hx (y2.toInt) (z5.toInt) (hb hby d_m4_58) rfl rfl (by decide) (pt := 63) (by decide) (pf := 61) rfl (fun c58 => ?_) (fun c58 => absurd c58 (by omega))
  refine ow_iconst X0 hx (z := (1 : Int32)) (hb hby d_m4_63) rfl (pc' := 64) rfl ?_
  exact ow_retB X0 hx hret hlk (hb hby d_m4_64) (by decide) (by decide) (z' := (1 : Int32)) rfl ⟨(1 : Int32), rfl, (show (1 : Int) = 1 from by omega), rfl, e0⟩
theorem d_jdk_42m149_0 : decode jdk_42_method_149_code 0 = .ok (.aload_n 0, 1) := by decide +kernel
theorem d_jdk_42m149_1 : decode jdk_42_method_149_code 1 = .ok (.invokespecial 1, 3) := by decide +kernel
theorem d_jdk_42m149_4 : decode jdk_42_method_149_code 4 = .ok (.iload_n 3, 1) := by decide +kernel
theorem d_jdk_42m149_5 : decode jdk_42_method_149_code 5 = .ok (.ifCond .ne 22, 3) := by decide +kernel
theorem d_jdk_42m149_8 : decode jdk_42_method_149_code 8 = .ok (.aload_n 0, 1) := by decide +kernel
theorem d_jdk_42m149_9 : decode jdk_42_method_149_code 9 = .ok (.ldc 7, 2) := by decide +kernel
theorem d_jdk_42m149_11 : decode jdk_42_method_149_code 11 = .ok (.getfield 9, 3) := by decide +kernel
theorem d_jdk_42m149_14 : decode jdk_42_method_149_code 14 = .ok (.putfield 9, 3) := by decide +kernel
theorem d_jdk_42m149_17 : decode jdk_42_method_149_code 17 = .ok (.aload_n 0, 1) := by decide +kernel
theorem d_jdk_42m149_18 : decode jdk_42_method_149_code 18 = .ok (.ldc 7, 2) := by decide +kernel
theorem d_jdk_42m149_20 : decode jdk_42_method_149_code 20 = .ok (.getfield 15, 3) := by decide +kernel
theorem d_jdk_42m149_23 : decode jdk_42_method_149_code 23 = .ok (.putfield 15, 3) := by decide +kernel
theorem d_jdk_42m149_26 : decode jdk_42_method_149_code 26 = .ok (.return_, 1) := by decide +kernel
theorem ef_sI4a (m : MethodId) (x0 : Addr) (x1 : Addr) (x2 : Int32) (x3 : Int32) : entryFrame m #[(.ref x0), (.ref x1), (.int x2), (.int x3), .null] 6 = mkF m 0 #[.val (.ref x0), .val (.ref x1), .val (.int x2), .val (.int x3), .val .null, .unset] [] := by first | (simp [entryFrame, mkF, argsToLocals, Value.category]; done) | rfl
def Q_sI4a (Z : State) (o : Addr) (oc : Addr) (ps : Int32) (pn : Int32) (h0 : Heap) (n0 : Nat) (v : Option Value) (h : Heap) (L : List Loc) (vm : Vm) : Prop := ∃ (oL : Addr), ∃ (ot : Addr), ∃ (kt : ClassId), (v = none) ∧ (Fr n0 L) ∧ (Keep h0 h [o]) ∧ (Exa Z h o "java/lang/String") ∧ (Fld Z h o "java/lang/String" "coder" "B" (.int (0 : Int32))) ∧ (Fld Z h o "java/lang/String" "value" "[B" (.ref ot)) ∧ (Exa Z h oL "java/lang/String") ∧ (Fld Z h oL "java/lang/String" "coder" "B" (.int (0 : Int32))) ∧ (Fld Z h oL "java/lang/String" "value" "[B" (.ref ot)) ∧ (Arv Z h ot kt (.byte) (0 : Int32) [] (.int (0 : Int32))) ∧ (LT Z [""] [("java/lang/String", 7, oL)] vm)
theorem pn_1 : plainName "java/lang/String" = true := by first | (simp [plainName, overriddenIn]; done) | decide +kernel
set_option maxRecDepth 65536 in
set_option maxHeartbeats 40000000 in
theorem rm_sI4a (l : Launch) (Z : State) (a0 : Array Value) (hw : ∀ d ∈ tables_1, d.before a0 Z = true) (ws : List Jvm.Cond) (hcw : Jvm.Lit.compactW.before a0 Z = true) (hch : ∀ q ∈ consts_1, Jvm.Lit.constHeld Z q.1 q.2) (o : Addr) (oc : Addr) (ps : Int32) (pn : Int32) (h0 : Heap) (n0 : Nat) (Z0 : n0 ≤ h0.size) (hzk : ∀ (b : Addr) (cl : Cell), Z.heap[b]? = some cl → h0[b]? = some cl) (hzn : Z.heap.size ≤ n0) (E_o : Exa Z h0 o "java/lang/String") (F_c : Fld Z h0 o "java/lang/String" "coder" "B" (.int (0 : Int32))) (F_v : Fld Z h0 o "java/lang/String" "value" "[B" .null) (g_o : n0 ≤ o) (hpn : pn.toInt = 0) :
    MetFree l (⟨"java/lang/String", "<init>", "([CIILjava/lang/Void;)V"⟩ : MethodName) (head1 (Jvm.Cond.code (⟨"java/lang/String", "<init>", "([CIILjava/lang/Void;)V"⟩ : MethodName) jdk_42_method_149_code 6 none :: ws) ({ frames := 1, cells := 2, slots := 4, locals := 12 } : Room)) (fun a_ U_ => a_ = #[(.ref o), (.ref oc), (.int ps), (.int pn), .null] ∧ Z.Warmed39 U_.vm ∧ U_.heap = h0 ∧ LT Z [] [] U_.vm) (fun _ _ _ _ _ => True) (fun _ U_ o_ U_' => ∃ v_ L_, o_ = .returned v_ ∧ (Q_sI4a Z o oc ps pn h0 n0) v_ U_'.heap L_ U_'.vm ∧ ReturnedEndW U_ o_ U_' L_ 2 4) := by
  refine ow_bodyI (plainFor_of_name pn_1) ?_
  intro p e s m below meth c T0 X0 hx hZ hby hml hown hnm hret hlk e0 es hS0 hI0
  have N0 := Fr.nil n0
  refine Ends.cast (ef_sI4a m o oc ps pn) ?_
  have r_ps := rng32 ps
  have r_pn := rng32 pn
  refine ow_aloadN X0 hx (hb hby d_jdk_42m149_0) rfl rfl (pc' := 1) rfl ?_
  refine ow_init0 X0 hx hZ hown (hw _ (List.mem_of_getElem? (i := 19) rfl)) (hw _ (List.mem_of_getElem? (i := 20) rfl)) (hw _ (List.mem_of_getElem? (i := 21) rfl)) e0 0 (by decide) (by decide) (by rw [hml]; rfl) (Nat.le_of_eq rfl) (hb hby d_jdk_42m149_1) (pc' := 4) rfl (fun T1 X1 e1 => ?_)
  refine ow_iloadN X1 hx (hb hby d_jdk_42m149_4) rfl (pc' := 5) rfl ?_
  refine ow_if_ne X1 hx (pn.toInt) (hb hby d_jdk_42m149_5) rfl (by decide) (pt := 27) (by decide) (pf := 8) rfl (fun c5 => absurd c5 (by omega)) (fun c5 => ?_)
  refine ow_aloadN X1 hx (hb hby d_jdk_42m149_8) rfl rfl (pc' := 9) rfl ?_
  have wS2 : ∀ a ∈ Bundle.stringAtoms, a.before a0 Z = true := fun a ha => by
    simp only [Bundle.stringAtoms, Bundle.sN, List.mem_cons, List.not_mem_nil, or_false] at ha
    rcases ha with rfl | rfl | rfl | rfl | rfl | rfl | rfl
    · exact (hw _ (List.mem_of_getElem? (i := 10) rfl))
    · exact (hw _ (List.mem_of_getElem? (i := 9) rfl))
    · exact (hw _ (List.mem_of_getElem? (i := 4) rfl))
    · exact (hw _ (List.mem_of_getElem? (i := 36) rfl))
    · exact (hw _ (List.mem_of_getElem? (i := 34) rfl))
    · exact (hw _ (List.mem_of_getElem? (i := 44) rfl))
    · exact (hw _ (List.mem_of_getElem? (i := 45) rfl))
  refine ow_ldcI X1 hx hZ hown (hw _ (List.mem_of_getElem? (i := 97) rfl)) wS2 e1 hS0 (Nat.zero_le _) (Fr.nil _) (by rw [es]; exact hzk) hI0 (by decide) (hch _ (List.mem_of_getElem? (i := 2) rfl)) hcw (vs := []) (z := (0 : Int32)) ⟨by decide, by decide⟩ (by decide) (by decide) (hb hby d_jdk_42m149_9) 0 (by decide) (by decide) (by decide) (by decide) (pc' := 11) rfl (fun a2 T2 h2 k2 t2 kt2 X2 e2 E2 hS2 hk2 hZ hown Ea2 Fc2 Fv2 Va2 hI2 => ?_)
  have E_o_2 := E_o.ext E2
  have F_o_coder_2 := F_c.ext E2
  have F_o_value_2 := F_v.ext E2
  have Zs2 : n0 ≤ h2.size := Nat.le_trans Z0 E2.1
  have K2 := (Keep.refl h0 [o]).ext E2
  have nL3 : a2 ≠ o := Fld.ne Fv2 F_o_value_2 (fun q => nomatch q)
  have nT3 : o ≠ t2 := Exa.neArv E_o_2 Va2 (hw _ (List.mem_of_getElem? (i := 9) rfl))
  refine ow_getF X2 hx hZ hown (host := "") (Or.inl (hw _ (List.mem_of_getElem? (i := 35) rfl))) Via.refl e2 Fv2 (hb hby d_jdk_42m149_11) (pc' := 14) rfl (fun T4 X4 e4 => ?_)
  refine ow_putF X4 hx hZ hown (host := "") (Or.inl (hw _ (List.mem_of_getElem? (i := 35) rfl))) Via.refl e4 F_o_value_2 E_o_2 (Or.inr ⟨(hw _ (List.mem_of_getElem? (i := 36) rfl)), rfl, hnm⟩) (hw _ (List.mem_of_getElem? (i := 9) rfl)) (ty := (.array .byte)) (by decide) rfl rfl (hb hby d_jdk_42m149_14) (pc' := 17) rfl (fun T5 h5 X5 e5 W5 => ?_)
  have F_o_value_5 := F_o_value_2.same W5
  have E_o_5 := E_o_2.wr W5
  have F_o_coder_5 := F_o_coder_2.other W5 (Or.inr (slot_ne (Or.inr (hw _ (List.mem_of_getElem? (i := 34) rfl))) (Or.inr (hw _ (List.mem_of_getElem? (i := 36) rfl))) (by decide) (t := .byte) (t' := (.array .byte)) (by decide) (by decide)))
  have E_a2_5 := Ea2.wr W5
  have F_a2_coder_5 := Fc2.other W5 (Or.inl nL3)
  have F_a2_value_5 := Fv2.other W5 (Or.inl nL3)
  have V_t2_5 := Va2.other W5 (Ne.symm nT3)
  have Zs5 : n0 ≤ h5.size := Nat.le_trans Zs2 (Keep.of_wr W5).1
  have hks5 : k2 ≤ h5.size := Nat.le_trans hk2 (Keep.of_wr W5).1
  have K5 := K2.wr W5 (Or.inl (List.mem_of_getElem? (i := 0) rfl))
  have N5 := Fr.snoc X5 N0 g_o
  refine ow_aloadN X5 hx (hb hby d_jdk_42m149_17) rfl rfl (pc' := 18) rfl ?_
  have wS6 : ∀ a ∈ Bundle.stringAtoms, a.before a0 Z = true := fun a ha => by
    simp only [Bundle.stringAtoms, Bundle.sN, List.mem_cons, List.not_mem_nil, or_false] at ha
    rcases ha with rfl | rfl | rfl | rfl | rfl | rfl | rfl
    · exact (hw _ (List.mem_of_getElem? (i := 10) rfl))
    · exact (hw _ (List.mem_of_getElem? (i := 9) rfl))
    · exact (hw _ (List.mem_of_getElem? (i := 4) rfl))
    · exact (hw _ (List.mem_of_getElem? (i := 36) rfl))
    · exact (hw _ (List.mem_of_getElem? (i := 34) rfl))
    · exact (hw _ (List.mem_of_getElem? (i := 44) rfl))
    · exact (hw _ (List.mem_of_getElem? (i := 45) rfl))
  refine ow_ldcAgainI X5 hx hZ hown (hw _ (List.mem_of_getElem? (i := 97) rfl)) hI2 (List.mem_of_getElem? (i := 0) rfl) (hb hby d_jdk_42m149_18) (pc' := 20) rfl ?_
  refine ow_getF X5 hx hZ hown (host := "") (Or.inl (hw _ (List.mem_of_getElem? (i := 33) rfl))) Via.refl e5 F_a2_coder_5 (hb hby d_jdk_42m149_20) (pc' := 23) rfl (fun T7 X7 e7 => ?_)
  refine ow_putFN X7 hx hZ hown (hw _ (List.mem_of_getElem? (i := 33) rfl)) Via.refl e7 F_o_coder_5 E_o_5 (Or.inr ⟨(hw _ (List.mem_of_getElem? (i := 34) rfl)), rfl, hnm⟩) (hw _ (List.mem_of_getElem? (i := 9) rfl)) (ty := .byte) (v' := .int ((0 : Int32).toInt8.toInt32)) (by decide) rfl (fits_nar_byte _) (hb hby d_jdk_42m149_23) (pc' := 26) rfl (fun T8 h8 X8 e8 W8 => ?_)
  have F_o_coder_8 := F_o_coder_5.same W8
  have E_o_8 := E_o_5.wr W8
  have E_a2_8 := E_a2_5.wr W8
  have F_a2_coder_8 := F_a2_coder_5.other W8 (Or.inl nL3)
  have F_a2_value_8 := F_a2_value_5.other W8 (Or.inl nL3)
  have V_t2_8 := V_t2_5.other W8 (Ne.symm nT3)
  have F_o_value_8 := F_o_value_5.other W8 (Or.inr (slot_ne (Or.inr (hw _ (List.mem_of_getElem? (i := 36) rfl))) (Or.inr (hw _ (List.mem_of_getElem? (i := 34) rfl))) (by decide) (t := (.array .byte)) (t' := .byte) (by decide) (by decide)))
  have Zs8 : n0 ≤ h8.size := Nat.le_trans Zs5 (Keep.of_wr W8).1
  have hks8 : k2 ≤ h8.size := Nat.le_trans hks5 (Keep.of_wr W8).1
  have K8 := K5.wr W8 (Or.inl (List.mem_of_getElem? (i := 0) rfl))
  have N8 := Fr.snoc X8 N5 g_o
  have F_co : Fld Z h8 o "java/lang/String" "coder" "B" (.int (0 : Int32)) := by have q := F_o_coder_8; rw [show ((0 : Int32).toInt8.toInt32) = (0 : Int32) from by decide] at q; exact q
  exact ow_retVI X8 hx hret hlk (hb hby d_jdk_42m149_26) hS2 (by rw [e8]; exact hks8) (by decide) (by decide) (show Q_sI4a Z o oc ps pn h0 n0 _ T8.heap _ _ from by rw [e8]; exact ⟨a2, t2, kt2, rfl, N8, K8, E_o_8, F_co, F_o_value_8, E_a2_8, F_a2_coder_8, F_a2_value_8, V_t2_8, (LT.weaken (LT.warm hI2 _ X8.warmed) (by decide) (fun _ h => h))⟩)
theorem pd_0 : parseMethodDescriptor "([CIILjava/lang/Void;)V" = some ⟨[(.array .char), .int, .int, (.object "java/lang/Void")], none⟩ := by decide +kernel
theorem d_jdk_42m3_0 : decode jdk_42_method_3_code 0 = .ok (.aload_n 0, 1) := by decide +kernel
theorem d_jdk_42m3_1 : decode jdk_42_method_3_code 1 = .ok (.aload_n 1, 1) := by decide +kernel
theorem d_jdk_42m3_2 : decode jdk_42_method_3_code 2 = .ok (.iconst 0, 1) := by decide +kernel
theorem d_jdk_42m3_3 : decode jdk_42_method_3_code 3 = .ok (.aload_n 1, 1) := by decide +kernel
theorem d_jdk_42m3_4 : decode jdk_42_method_3_code 4 = .ok (.arraylength, 1) := by decide +kernel
theorem d_jdk_42m3_5 : decode jdk_42_method_3_code 5 = .ok (.aconst_null, 1) := by decide +kernel
theorem d_jdk_42m3_6 : decode jdk_42_method_3_code 6 = .ok (.invokespecial 27, 3) := by decide +kernel
theorem d_jdk_42m3_9 : decode jdk_42_method_3_code 9 = .ok (.return_, 1) := by decide +kernel
theorem ef_sI1a (m : MethodId) (x0 : Addr) (x1 : Addr) : entryFrame m #[(.ref x0), (.ref x1)] 2 = mkF m 0 #[.val (.ref x0), .val (.ref x1)] [] := by first | (simp [entryFrame, mkF, argsToLocals, Value.category]; done) | rfl
def Q_sI1a (Z : State) (o : Addr) (oc : Addr) (kc : ClassId) (h0 : Heap) (n0 : Nat) (v : Option Value) (h : Heap) (L : List Loc) (vm : Vm) : Prop := ∃ (oL : Addr), ∃ (ot : Addr), ∃ (kt : ClassId), (v = none) ∧ (Fr n0 L) ∧ (Keep h0 h [o]) ∧ (Exa Z h o "java/lang/String") ∧ (Fld Z h o "java/lang/String" "coder" "B" (.int (0 : Int32))) ∧ (Fld Z h o "java/lang/String" "value" "[B" (.ref ot)) ∧ (Exa Z h oL "java/lang/String") ∧ (Fld Z h oL "java/lang/String" "coder" "B" (.int (0 : Int32))) ∧ (Fld Z h oL "java/lang/String" "value" "[B" (.ref ot)) ∧ (Arv Z h ot kt (.byte) (0 : Int32) [] (.int (0 : Int32))) ∧ (LT Z [""] [("java/lang/String", 7, oL)] vm)
set_option maxRecDepth 65536 in
set_option maxHeartbeats 40000000 in
theorem rm_sI1a (l : Launch) (Z : State) (a0 : Array Value) (hw : ∀ d ∈ tables_1, d.before a0 Z = true) (ws : List Jvm.Cond) (hcw : Jvm.Lit.compactW.before a0 Z = true) (hch : ∀ q ∈ consts_1, Jvm.Lit.constHeld Z q.1 q.2) (o : Addr) (oc : Addr) (kc : ClassId) (h0 : Heap) (n0 : Nat) (Z0 : n0 ≤ h0.size) (hzk : ∀ (b : Addr) (cl : Cell), Z.heap[b]? = some cl → h0[b]? = some cl) (hzn : Z.heap.size ≤ n0) (E_o : Exa Z h0 o "java/lang/String") (F_c : Fld Z h0 o "java/lang/String" "coder" "B" (.int (0 : Int32))) (F_v : Fld Z h0 o "java/lang/String" "value" "[B" .null) (g_o : n0 ≤ o) (V_c : Arv Z h0 oc kc (.char) (0 : Int32) [] (.int (0 : Int32))) (ne_o_oc : o ≠ oc) :
    MetFree l (⟨"java/lang/String", "<init>", "([C)V"⟩ : MethodName) (head1 (Jvm.Cond.code (⟨"java/lang/String", "<init>", "([C)V"⟩ : MethodName) jdk_42_method_3_code 2 none :: ws) ({ frames := 2, cells := 2, slots := 4, locals := 29 } : Room)) (fun a_ U_ => a_ = #[(.ref o), (.ref oc)] ∧ Z.Warmed39 U_.vm ∧ U_.heap = h0 ∧ LT Z [] [] U_.vm) (fun _ _ _ _ _ => True) (fun _ U_ o_ U_' => ∃ v_ L_, o_ = .returned v_ ∧ (Q_sI1a Z o oc kc h0 n0) v_ U_'.heap L_ U_'.vm ∧ ReturnedEndW U_ o_ U_' L_ 2 4) := by
  refine ow_bodyI (plainFor_of_name pn_1) ?_
  intro p e s m below meth c T0 X0 hx hZ hby hml hown hnm hret hlk e0 es hS0 hI0
  have N0 := Fr.nil n0
  refine Ends.cast (ef_sI1a m o oc) ?_
  refine ow_aloadN X0 hx (hb hby d_jdk_42m3_0) rfl rfl (pc' := 1) rfl ?_
  refine ow_aloadN X0 hx (hb hby d_jdk_42m3_1) rfl rfl (pc' := 2) rfl ?_
  refine ow_iconst X0 hx (z := (0 : Int32)) (hb hby d_jdk_42m3_2) rfl (pc' := 3) rfl ?_
  refine ow_aloadN X0 hx (hb hby d_jdk_42m3_3) rfl rfl (pc' := 4) rfl ?_
  refine ow_len X0 hx hZ e0 V_c (hb hby d_jdk_42m3_4) (pc' := 5) rfl ?_
  refine ow_aconstNull X0 hx (hb hby d_jdk_42m3_5) (pc' := 6) rfl ?_
  refine ow_callII X0 hx hZ rfl rfl hown (hw _ (List.mem_of_getElem? (i := 15) rfl)) (hw _ (List.mem_of_getElem? (i := 16) rfl)) (hw _ (List.mem_of_getElem? (i := 10) rfl)) (hw _ (List.mem_of_getElem? (i := 18) rfl)) (by decide) (rm_sI4a l Z a0 hw [] hcw hch o oc (0 : Int32) (0 : Int32) h0 n0 Z0 (ow_zk hzk hzn (Keep.refl h0 [o]) (allS g_o all0)) hzn E_o F_c F_v g_o (by first | assumption | decide | omega | (have q0_ : (0 : Int32).toInt = 0 := (by decide); omega))) (LT.warm hI0) hS0 (Nat.zero_le _) e0 0 (by decide) (by decide) (by decide) (by decide) [(.ref oc), (.int (0 : Int32)), (.int (0 : Int32)), .null] (by rw [hml]; rfl) pd_0 rfl rfl rfl (Nat.le_of_eq rfl) (hb hby d_jdk_42m3_6) (pc' := 9) rfl (fun v1 T1 L1 hQ1 X1 hS1 hZ hown => ?_)
  obtain ⟨b1, b1a, kt_1, rfl, Nc1, Kc1, P1_0, P1_1, P1_2, P1_3, P1_4, P1_5, P1_6, hI1⟩ := hQ1
  have V_oc_1 := V_c.keep Kc1 (ninS (Ne.symm ne_o_oc) nin0)
  have Zs1 : n0 ≤ T1.heap.size := Nat.le_trans Z0 Kc1.1
  have K1 := (Keep.refl h0 [o]).trans Kc1 (allS (Or.inl (List.mem_of_getElem? (i := 0) rfl)) all0)
  have N1 := Fr.app N0 Nc1
  show Ends _ _ _ _ T1 (mkF m 9 #[.val (.ref o), .val (.ref oc)] [])
  exact ow_retVI X1 hx hret hlk (hb hby d_jdk_42m3_9) hS1 (Nat.le_refl _) (by decide) (by decide) (show Q_sI1a Z o oc kc h0 n0 _ T1.heap _ _ from ⟨b1, b1a, kt_1, rfl, N1, K1, P1_0, P1_1, P1_2, P1_3, P1_4, P1_5, P1_6, (LT.weaken (LT.warm hI1 _ X1.warmed) (by decide) (fun _ h => h))⟩)
theorem pd_1 : parseMethodDescriptor "([C)V" = some ⟨[(.array .char)], none⟩ := by decide +kernel
theorem d_m5_0 : decode method_5_code 0 = .ok (.iload_n 1, 1) := by decide +kernel
theorem d_m5_1 : decode method_5_code 1 = .ok (.sipush 255, 3) := by decide +kernel
theorem d_m5_4 : decode method_5_code 4 = .ok (.iand, 1) := by decide +kernel
theorem d_m5_5 : decode method_5_code 5 = .ok (.i2c, 1) := by decide +kernel
theorem d_m5_6 : decode method_5_code 6 = .ok (.istore_n 2, 1) := by decide +kernel
theorem d_m5_7 : decode method_5_code 7 = .ok (.iload_n 1, 1) := by decide +kernel
theorem d_m5_8 : decode method_5_code 8 = .ok (.bipush 8, 2) := by decide +kernel
theorem d_m5_10 : decode method_5_code 10 = .ok (.iushr, 1) := by decide +kernel
theorem d_m5_11 : decode method_5_code 11 = .ok (.sipush 255, 3) := by decide +kernel
theorem d_m5_14 : decode method_5_code 14 = .ok (.iand, 1) := by decide +kernel
theorem d_m5_15 : decode method_5_code 15 = .ok (.i2c, 1) := by decide +kernel
theorem d_m5_16 : decode method_5_code 16 = .ok (.istore_n 3, 1) := by decide +kernel
theorem d_m5_17 : decode method_5_code 17 = .ok (.iload_n 1, 1) := by decide +kernel
theorem d_m5_18 : decode method_5_code 18 = .ok (.bipush 16, 2) := by decide +kernel
theorem d_m5_20 : decode method_5_code 20 = .ok (.iushr, 1) := by decide +kernel
theorem d_m5_21 : decode method_5_code 21 = .ok (.sipush 255, 3) := by decide +kernel
theorem d_m5_24 : decode method_5_code 24 = .ok (.iand, 1) := by decide +kernel
theorem d_m5_25 : decode method_5_code 25 = .ok (.i2c, 1) := by decide +kernel
theorem d_m5_26 : decode method_5_code 26 = .ok (.istore 4, 2) := by decide +kernel
theorem d_m5_28 : decode method_5_code 28 = .ok (.iload_n 0, 1) := by decide +kernel
theorem d_m5_29 : decode method_5_code 29 = .ok (.ifCond .ne 14, 3) := by decide +kernel
theorem d_m5_32 : decode method_5_code 32 = .ok (.new 43, 3) := by decide +kernel
theorem d_m5_35 : decode method_5_code 35 = .ok (.dup, 1) := by decide +kernel
theorem d_m5_36 : decode method_5_code 36 = .ok (.iconst 0, 1) := by decide +kernel
theorem d_m5_37 : decode method_5_code 37 = .ok (.newarray .char, 2) := by decide +kernel
theorem d_m5_39 : decode method_5_code 39 = .ok (.invokespecial 48, 3) := by decide +kernel
theorem d_m5_42 : decode method_5_code 42 = .ok (.areturn, 1) := by decide +kernel
theorem ef_so0a (m : MethodId) (x0 : Int32) (x1 : Int32) : entryFrame m #[(.int x0), (.int x1)] 5 = mkF m 0 #[.val (.int x0), .val (.int x1), .unset, .unset, .unset] [] := by first | (simp [entryFrame, mkF, argsToLocals, Value.category]; done) | rfl
def Q_so0a (Z : State) (pn : Int32) (pc : Int32) (h0 : Heap) (n0 : Nat) (v : Option Value) (h : Heap) (L : List Loc) (vm : Vm) : Prop := ∃ (ow : Addr), ∃ (oL : Addr), ∃ (ot : Addr), ∃ (kt : ClassId), (v = some (.ref ow)) ∧ (Fr n0 L) ∧ (Keep h0 h []) ∧ (Exa Z h ow "java/lang/String") ∧ (Fld Z h ow "java/lang/String" "coder" "B" (.int (0 : Int32))) ∧ (Fld Z h ow "java/lang/String" "value" "[B" (.ref ot)) ∧ (h0.size ≤ ow) ∧ (Exa Z h oL "java/lang/String") ∧ (Fld Z h oL "java/lang/String" "coder" "B" (.int (0 : Int32))) ∧ (Fld Z h oL "java/lang/String" "value" "[B" (.ref ot)) ∧ (Arv Z h ot kt (.byte) (0 : Int32) [] (.int (0 : Int32))) ∧ (LT Z [""] [("java/lang/String", 7, oL)] vm)
set_option maxRecDepth 65536 in
set_option maxHeartbeats 40000000 in
theorem rm_so0a (l : Launch) (Z : State) (a0 : Array Value) (hw : ∀ d ∈ tables_1, d.before a0 Z = true) (ws : List Jvm.Cond) (hcw : Jvm.Lit.compactW.before a0 Z = true) (hch : ∀ q ∈ consts_1, Jvm.Lit.constHeld Z q.1 q.2) (pn : Int32) (pc : Int32) (h0 : Heap) (n0 : Nat) (Z0 : n0 ≤ h0.size) (hzk : ∀ (b : Addr) (cl : Cell), Z.heap[b]? = some cl → h0[b]? = some cl) (hzn : Z.heap.size ≤ n0) (hn : pn.toInt = 0) :
    MetFree l (⟨"com/example/inchworm/inchworm/handler/ResultReplacePinLaw", "stringOf", "(II)Ljava/lang/String;"⟩ : MethodName) (head1 (Jvm.Cond.code (⟨"com/example/inchworm/inchworm/handler/ResultReplacePinLaw", "stringOf", "(II)Ljava/lang/String;"⟩ : MethodName) method_5_code 5 (some (.object "java/lang/String")) :: ws) ({ frames := 3, cells := 4, slots := 8, locals := 43 } : Room)) (fun a_ U_ => a_ = #[(.int pn), (.int pc)] ∧ Z.Warmed39 U_.vm ∧ U_.heap = h0 ∧ LT Z [] [] U_.vm) (fun _ _ _ _ _ => True) (fun _ U_ o_ U_' => ∃ v_ L_, o_ = .returned v_ ∧ (Q_so0a Z pn pc h0 n0) v_ U_'.heap L_ U_'.vm ∧ ReturnedEndW U_ o_ U_' L_ 4 8) := by
  refine ow_bodyI (plainFor_of_name pn_0) ?_
  intro p e s m below meth c T0 X0 hx hZ hby hml hown hnm hret hlk e0 es hS0 hI0
  have N0 := Fr.nil n0
  refine Ends.cast (ef_so0a m pn pc) ?_
  have r_pn := rng32 pn
  have r_pc := rng32 pc
  refine ow_iloadN X0 hx (hb hby d_m5_0) rfl (pc' := 1) rfl ?_
  refine ow_sipush X0 hx (z := (255 : Int32)) (hb hby d_m5_1) rfl (pc' := 4) rfl ?_
  refine ow_iand X0 hx (hb hby d_m5_4) (pc' := 5) rfl (fun z1 hz1 => ?_)
  have az1 : z1.toInt = pc.toInt % 256 := by rw [hz1]; exact c_mask pc (255 : Int32) 8 (by decide) (by decide)
  have rz1 := rng32 z1
  refine ow_i2c X0 hx (hb hby d_m5_5) (pc' := 6) rfl (fun z2 hz2 => ?_)
  have az2 : (z2.toInt - z1.toInt) % 65536 = 0 ∧ 0 ≤ z2.toInt ∧ z2.toInt < 65536 := by rw [hz2]; exact c_i2c z1
  have rz2 := rng32 z2
  refine ow_istoreN X0 hx (Ls' := #[.val (.int pn), .val (.int pc), .val (.int z2), .unset, .unset]) (hb hby d_m5_6) rfl (pc' := 7) rfl ?_
  refine ow_iloadN X0 hx (hb hby d_m5_7) rfl (pc' := 8) rfl ?_
  refine ow_bipush X0 hx (z := (8 : Int32)) (hb hby d_m5_8) rfl (pc' := 10) rfl ?_
  refine ow_iushr X0 hx (hb hby d_m5_10) (pc' := 11) rfl (fun z3 hz3 => ?_)
  have az3 : z3.toInt = (pc.toInt % 4294967296) / 256 := by rw [hz3]; exact c_iushr pc (8 : Int32) 8 (by decide) (by decide)
  have rz3 := rng32 z3
  refine ow_sipush X0 hx (z := (255 : Int32)) (hb hby d_m5_11) rfl (pc' := 14) rfl ?_
  refine ow_iand X0 hx (hb hby d_m5_14) (pc' := 15) rfl (fun z4 hz4 => ?_)
  have az4 : z4.toInt = z3.toInt % 256 := by rw [hz4]; exact c_mask z3 (255 : Int32) 8 (by decide) (by decide)
  have rz4 := rng32 z4
  refine ow_i2c X0 hx (hb hby d_m5_15) (pc' := 16) rfl (fun z5 hz5 => ?_)
  have az5 : (z5.toInt - z4.toInt) % 65536 = 0 ∧ 0 ≤ z5.toInt ∧ z5.toInt < 65536 := by rw [hz5]; exact c_i2c z4
  have rz5 := rng32 z5
  refine ow_istoreN X0 hx (Ls' := #[.val (.int pn), .val (.int pc), .val (.int z2), .val (.int z5), .unset]) (hb hby d_m5_16) rfl (pc' := 17) rfl ?_
  refine ow_iloadN X0 hx (hb hby d_m5_17) rfl (pc' := 18) rfl ?_
  refine ow_bipush X0 hx (z := (16 : Int32)) (hb hby d_m5_18) rfl (pc' := 20) rfl ?_
  refine ow_iushr X0 hx (hb hby d_m5_20) (pc' := 21) rfl (fun z6 hz6 => ?_)
  have az6 : z6.toInt = (pc.toInt % 4294967296) / 65536 := by rw [hz6]; exact c_iushr pc (16 : Int32) 16 (by decide) (by decide)
  have rz6 := rng32 z6
  refine ow_sipush X0 hx (z := (255 : Int32)) (hb hby d_m5_21) rfl (pc' := 24) rfl ?_
  refine ow_iand X0 hx (hb hby d_m5_24) (pc' := 25) rfl (fun z7 hz7 => ?_)
  have az7 : z7.toInt = z6.toInt % 256 := by rw [hz7]; exact c_mask z6 (255 : Int32) 8 (by decide) (by decide)
  have rz7 := rng32 z7
  refine ow_i2c X0 hx (hb hby d_m5_25) (pc' := 26) rfl (fun z8 hz8 => ?_)
  have az8 : (z8.toInt - z7.toInt) % 65536 = 0 ∧ 0 ≤ z8.toInt ∧ z8.toInt < 65536 := by rw [hz8]; exact c_i2c z7
  have rz8 := rng32 z8
  refine ow_istore X0 hx (Ls' := #[.val (.int pn), .val (.int pc), .val (.int z2), .val (.int z5), .val (.int z8)]) (hb hby d_m5_26) rfl (pc' := 28) rfl ?_
  refine ow_iloadN X0 hx (hb hby d_m5_28) rfl (pc' := 29) rfl ?_
  refine ow_if_ne X0 hx (pn.toInt) (hb hby d_m5_29) rfl (by decide) (pt := 43) (by decide) (pf := 32) rfl (fun c29 => absurd c29 (by omega)) (fun c29 => ?_)
  refine ow_new X0 hx hZ hown (hw _ (List.mem_of_getElem? (i := 8) rfl)) (hw _ (List.mem_of_getElem? (i := 9) rfl)) (hw _ (List.mem_of_getElem? (i := 10) rfl)) e0 (hb hby d_m5_32) (by decide) (by decide) (pc' := 35) rfl (fun T9 h9 b9 g9 X9 e9 E9 A9 D9 => ?_)
  have g_b9 : n0 ≤ b9 := Nat.le_trans Z0 (Nat.le_of_eq g9.symm)
  have sz_b9 : h0.size ≤ b9 := Nat.le_trans (Keep.refl h0 []).1 (Nat.le_of_eq g9.symm)
  have Zs9 : n0 ≤ h9.size := Nat.le_trans Z0 E9.1
  have K9 := (Keep.refl h0 []).ext E9
  have F_b9_coder : Fld Z h9 b9 "java/lang/String" "coder" "B" (.int (0 : Int32)) := D9 (Or.inr (hw _ (List.mem_of_getElem? (i := 34) rfl))) (ty := .byte) (by decide)
  have F_b9_value : Fld Z h9 b9 "java/lang/String" "value" "[B" .null := D9 (Or.inr (hw _ (List.mem_of_getElem? (i := 36) rfl))) (ty := (.array .byte)) (by decide)
  refine ow_dup X9 hx (hb hby d_m5_35) rfl (pc' := 36) rfl ?_
  refine ow_iconst X9 hx (z := (0 : Int32)) (hb hby d_m5_36) rfl (pc' := 37) rfl ?_
  refine ow_newPE X9 hx hZ (hw _ (List.mem_of_getElem? (i := 11) rfl)) e9 (hb hby d_m5_37) (by decide) 0 (by decide) (by decide) (by decide) (by decide) (ad := "[C") (by decide) (pc' := 39) rfl (fun T10 h10 b10 k10 g10 X10 e10 E10 V10 A10 => ?_)
  have ne_b9_b10 : b9 ≠ b10 := Nat.ne_of_lt (Nat.lt_of_lt_of_le A9.lt (Nat.le_of_eq g10.symm))
  have g_b10 : n0 ≤ b10 := Nat.le_trans Zs9 (Nat.le_of_eq g10.symm)
  have sz_b10 : h0.size ≤ b10 := Nat.le_trans K9.1 (Nat.le_of_eq g10.symm)
  have E_b9_10 := A9.ext E10
  have F_b9_coder_10 := F_b9_coder.ext E10
  have F_b9_value_10 := F_b9_value.ext E10
  have Zs10 : n0 ≤ h10.size := Nat.le_trans Zs9 E10.1
  have K10 := K9.ext E10
  have V_b10 : Arv Z h10 b10 k10 .char (0 : Int32) [] (.int (0 : Int32)) := V10
  refine ow_callII X10 hx hZ rfl rfl hown (hw _ (List.mem_of_getElem? (i := 12) rfl)) (hw _ (List.mem_of_getElem? (i := 13) rfl)) (hw _ (List.mem_of_getElem? (i := 10) rfl)) (hw _ (List.mem_of_getElem? (i := 14) rfl)) (by decide) (rm_sI1a l Z a0 hw [] hcw hch b9 b10 k10 h10 n0 Zs10 (ow_zk hzk hzn K10 all0) hzn E_b9_10 F_b9_coder_10 F_b9_value_10 g_b9 V_b10 ne_b9_b10) (LT.warm hI0) hS0 (Nat.zero_le _) e10 1 (by decide) (by decide) (by decide) (by decide) [(.ref b10)] (by rw [hml]; rfl) pd_1 rfl rfl rfl (Nat.le_of_eq rfl) (hb hby d_m5_39) (pc' := 42) rfl (fun v11 T11 L11 hQ11 X11 hS11 hZ hown => ?_)
  obtain ⟨b11, b11a, kt_11, rfl, Nc11, Kc11, P11_0, P11_1, P11_2, P11_3, P11_4, P11_5, P11_6, hI11⟩ := hQ11
  have E_b10_11 := A10.keep Kc11
  have V_b10_11 := V_b10.keep Kc11 (ninS (Ne.symm ne_b9_b10) nin0)
  have Zs11 : n0 ≤ T11.heap.size := Nat.le_trans Zs10 Kc11.1
  have K11 := K10.trans Kc11 (allS (Or.inr sz_b9) all0)
  have N11 := Fr.app N0 Nc11
  show Ends _ _ _ _ T11 (mkF m 42 #[.val (.int pn), .val (.int pc), .val (.int z2), .val (.int z5), .val (.int z8)] [(.ref b9)])
  exact ow_retAI X11 hx hret hlk rfl rfl (hb hby d_m5_42) hS11 (Nat.le_refl _) (by decide) (by decide) (show Q_so0a Z pn pc h0 n0 _ T11.heap _ _ from ⟨b9, b11, b11a, kt_11, rfl, N11, K11, P11_0, P11_1, P11_2, sz_b9, P11_3, P11_4, P11_5, P11_6, (LT.weaken (LT.warm hI11 _ X11.warmed) (by decide) (fun _ h => h))⟩)
def Q_sI4b (Z : State) (o : Addr) (oc : Addr) (ps : Int32) (pn : Int32) (oL : Addr) (ot : Addr) (kt : ClassId) (h0 : Heap) (n0 : Nat) (v : Option Value) (h : Heap) (L : List Loc) (vm : Vm) : Prop := (v = none) ∧ (Fr n0 L) ∧ (Keep h0 h [o]) ∧ (Exa Z h o "java/lang/String") ∧ (Fld Z h o "java/lang/String" "coder" "B" (.int (0 : Int32))) ∧ (Fld Z h o "java/lang/String" "value" "[B" (.ref ot)) ∧ (LT Z [""] [("java/lang/String", 7, oL)] vm)
set_option maxRecDepth 65536 in
set_option maxHeartbeats 40000000 in
theorem rm_sI4b (l : Launch) (Z : State) (a0 : Array Value) (hw : ∀ d ∈ tables_1, d.before a0 Z = true) (ws : List Jvm.Cond) (hcw : Jvm.Lit.compactW.before a0 Z = true) (hch : ∀ q ∈ consts_1, Jvm.Lit.constHeld Z q.1 q.2) (o : Addr) (oc : Addr) (ps : Int32) (pn : Int32) (oL : Addr) (ot : Addr) (kt : ClassId) (h0 : Heap) (n0 : Nat) (Z0 : n0 ≤ h0.size) (hzk : ∀ (b : Addr) (cl : Cell), Z.heap[b]? = some cl → h0[b]? = some cl) (hzn : Z.heap.size ≤ n0) (E_o : Exa Z h0 o "java/lang/String") (F_c : Fld Z h0 o "java/lang/String" "coder" "B" (.int (0 : Int32))) (F_v : Fld Z h0 o "java/lang/String" "value" "[B" .null) (g_o : n0 ≤ o) (E_L : Exa Z h0 oL "java/lang/String") (F_Lc : Fld Z h0 oL "java/lang/String" "coder" "B" (.int (0 : Int32))) (F_Lv : Fld Z h0 oL "java/lang/String" "value" "[B" (.ref ot)) (V_t : Arv Z h0 ot kt (.byte) (0 : Int32) [] (.int (0 : Int32))) (hpn : pn.toInt = 0) :
    MetFree l (⟨"java/lang/String", "<init>", "([CIILjava/lang/Void;)V"⟩ : MethodName) (head1 (Jvm.Cond.code (⟨"java/lang/String", "<init>", "([CIILjava/lang/Void;)V"⟩ : MethodName) jdk_42_method_149_code 6 none :: ws) ({ frames := 1, cells := 0, slots := 0, locals := 12 } : Room)) (fun a_ U_ => a_ = #[(.ref o), (.ref oc), (.int ps), (.int pn), .null] ∧ Z.Warmed39 U_.vm ∧ U_.heap = h0 ∧ LT Z [""] [("java/lang/String", 7, oL)] U_.vm) (fun _ _ _ _ _ => True) (fun _ U_ o_ U_' => ∃ v_ L_, o_ = .returned v_ ∧ (Q_sI4b Z o oc ps pn oL ot kt h0 n0) v_ U_'.heap L_ U_'.vm ∧ ReturnedEndW U_ o_ U_' L_ 0 0) := by
  refine ow_bodyI (plainFor_of_name pn_1) ?_
  intro p e s m below meth c T0 X0 hx hZ hby hml hown hnm hret hlk e0 es hS0 hI0
  have N0 := Fr.nil n0
  refine Ends.cast (ef_sI4a m o oc ps pn) ?_
  have r_ps := rng32 ps
  have r_pn := rng32 pn
  refine ow_aloadN X0 hx (hb hby d_jdk_42m149_0) rfl rfl (pc' := 1) rfl ?_
  refine ow_init0 X0 hx hZ hown (hw _ (List.mem_of_getElem? (i := 19) rfl)) (hw _ (List.mem_of_getElem? (i := 20) rfl)) (hw _ (List.mem_of_getElem? (i := 21) rfl)) e0 0 (by decide) (by decide) (by rw [hml]; rfl) (Nat.le_of_eq rfl) (hb hby d_jdk_42m149_1) (pc' := 4) rfl (fun T1 X1 e1 => ?_)
  refine ow_iloadN X1 hx (hb hby d_jdk_42m149_4) rfl (pc' := 5) rfl ?_
  refine ow_if_ne X1 hx (pn.toInt) (hb hby d_jdk_42m149_5) rfl (by decide) (pt := 27) (by decide) (pf := 8) rfl (fun c5 => absurd c5 (by omega)) (fun c5 => ?_)
  refine ow_aloadN X1 hx (hb hby d_jdk_42m149_8) rfl rfl (pc' := 9) rfl ?_
  have wS2 : ∀ a ∈ Bundle.stringAtoms, a.before a0 Z = true := fun a ha => by
    simp only [Bundle.stringAtoms, Bundle.sN, List.mem_cons, List.not_mem_nil, or_false] at ha
    rcases ha with rfl | rfl | rfl | rfl | rfl | rfl | rfl
    · exact (hw _ (List.mem_of_getElem? (i := 10) rfl))
    · exact (hw _ (List.mem_of_getElem? (i := 9) rfl))
    · exact (hw _ (List.mem_of_getElem? (i := 4) rfl))
    · exact (hw _ (List.mem_of_getElem? (i := 36) rfl))
    · exact (hw _ (List.mem_of_getElem? (i := 34) rfl))
    · exact (hw _ (List.mem_of_getElem? (i := 44) rfl))
    · exact (hw _ (List.mem_of_getElem? (i := 45) rfl))
  refine ow_ldcAgainI X1 hx hZ hown (hw _ (List.mem_of_getElem? (i := 97) rfl)) hI0 (List.mem_of_getElem? (i := 0) rfl) (hb hby d_jdk_42m149_9) (pc' := 11) rfl ?_
  have nL3 : oL ≠ o := Fld.ne F_Lv F_v (fun q => nomatch q)
  have nT3 : o ≠ ot := Exa.neArv E_o V_t (hw _ (List.mem_of_getElem? (i := 9) rfl))
  refine ow_getF X1 hx hZ hown (host := "") (Or.inl (hw _ (List.mem_of_getElem? (i := 35) rfl))) Via.refl e1 F_Lv (hb hby d_jdk_42m149_11) (pc' := 14) rfl (fun T4 X4 e4 => ?_)
  refine ow_putF X4 hx hZ hown (host := "") (Or.inl (hw _ (List.mem_of_getElem? (i := 35) rfl))) Via.refl e4 F_v E_o (Or.inr ⟨(hw _ (List.mem_of_getElem? (i := 36) rfl)), rfl, hnm⟩) (hw _ (List.mem_of_getElem? (i := 9) rfl)) (ty := (.array .byte)) (by decide) rfl rfl (hb hby d_jdk_42m149_14) (pc' := 17) rfl (fun T5 h5 X5 e5 W5 => ?_)
  have F_o_value_5 := F_v.same W5
  have E_o_5 := E_o.wr W5
  have F_o_coder_5 := F_c.other W5 (Or.inr (slot_ne (Or.inr (hw _ (List.mem_of_getElem? (i := 34) rfl))) (Or.inr (hw _ (List.mem_of_getElem? (i := 36) rfl))) (by decide) (t := .byte) (t' := (.array .byte)) (by decide) (by decide)))
  have E_oL_5 := E_L.wr W5
  have F_oL_coder_5 := F_Lc.other W5 (Or.inl nL3)
  have F_oL_value_5 := F_Lv.other W5 (Or.inl nL3)
  have V_ot_5 := V_t.other W5 (Ne.symm nT3)
  have Zs5 : n0 ≤ h5.size := Nat.le_trans Z0 (Keep.of_wr W5).1
  have K5 := (Keep.refl h0 [o]).wr W5 (Or.inl (List.mem_of_getElem? (i := 0) rfl))
  have N5 := Fr.snoc X5 N0 g_o
  refine ow_aloadN X5 hx (hb hby d_jdk_42m149_17) rfl rfl (pc' := 18) rfl ?_
  have wS6 : ∀ a ∈ Bundle.stringAtoms, a.before a0 Z = true := fun a ha => by
    simp only [Bundle.stringAtoms, Bundle.sN, List.mem_cons, List.not_mem_nil, or_false] at ha
    rcases ha with rfl | rfl | rfl | rfl | rfl | rfl | rfl
    · exact (hw _ (List.mem_of_getElem? (i := 10) rfl))
    · exact (hw _ (List.mem_of_getElem? (i := 9) rfl))
    · exact (hw _ (List.mem_of_getElem? (i := 4) rfl))
    · exact (hw _ (List.mem_of_getElem? (i := 36) rfl))
    · exact (hw _ (List.mem_of_getElem? (i := 34) rfl))
    · exact (hw _ (List.mem_of_getElem? (i := 44) rfl))
    · exact (hw _ (List.mem_of_getElem? (i := 45) rfl))
  refine ow_ldcAgainI X5 hx hZ hown (hw _ (List.mem_of_getElem? (i := 97) rfl)) hI0 (List.mem_of_getElem? (i := 0) rfl) (hb hby d_jdk_42m149_18) (pc' := 20) rfl ?_
  refine ow_getF X5 hx hZ hown (host := "") (Or.inl (hw _ (List.mem_of_getElem? (i := 33) rfl))) Via.refl e5 F_oL_coder_5 (hb hby d_jdk_42m149_20) (pc' := 23) rfl (fun T7 X7 e7 => ?_)
  refine ow_putFN X7 hx hZ hown (hw _ (List.mem_of_getElem? (i := 33) rfl)) Via.refl e7 F_o_coder_5 E_o_5 (Or.inr ⟨(hw _ (List.mem_of_getElem? (i := 34) rfl)), rfl, hnm⟩) (hw _ (List.mem_of_getElem? (i := 9) rfl)) (ty := .byte) (v' := .int ((0 : Int32).toInt8.toInt32)) (by decide) rfl (fits_nar_byte _) (hb hby d_jdk_42m149_23) (pc' := 26) rfl (fun T8 h8 X8 e8 W8 => ?_)
  have F_o_coder_8 := F_o_coder_5.same W8
  have E_o_8 := E_o_5.wr W8
  have E_oL_8 := E_oL_5.wr W8
  have F_oL_coder_8 := F_oL_coder_5.other W8 (Or.inl nL3)
  have F_oL_value_8 := F_oL_value_5.other W8 (Or.inl nL3)
  have V_ot_8 := V_ot_5.other W8 (Ne.symm nT3)
  have F_o_value_8 := F_o_value_5.other W8 (Or.inr (slot_ne (Or.inr (hw _ (List.mem_of_getElem? (i := 36) rfl))) (Or.inr (hw _ (List.mem_of_getElem? (i := 34) rfl))) (by decide) (t := (.array .byte)) (t' := .byte) (by decide) (by decide)))
  have Zs8 : n0 ≤ h8.size := Nat.le_trans Zs5 (Keep.of_wr W8).1
  have K8 := K5.wr W8 (Or.inl (List.mem_of_getElem? (i := 0) rfl))
  have N8 := Fr.snoc X8 N5 g_o
  have F_co : Fld Z h8 o "java/lang/String" "coder" "B" (.int (0 : Int32)) := by have q := F_o_coder_8; rw [show ((0 : Int32).toInt8.toInt32) = (0 : Int32) from by decide] at q; exact q
  exact ow_retVI X8 hx hret hlk (hb hby d_jdk_42m149_26) hS0 (by rw [e8]; exact (Nat.zero_le _)) (by decide) (by decide) (show Q_sI4b Z o oc ps pn oL ot kt h0 n0 _ T8.heap _ _ from by rw [e8]; exact ⟨rfl, N8, K8, E_o_8, F_co, F_o_value_8, (LT.weaken (LT.warm hI0 _ X8.warmed) (by decide) (fun _ h => h))⟩)
def Q_sI1b (Z : State) (o : Addr) (oc : Addr) (oL : Addr) (ot : Addr) (kt : ClassId) (kc : ClassId) (h0 : Heap) (n0 : Nat) (v : Option Value) (h : Heap) (L : List Loc) (vm : Vm) : Prop := (v = none) ∧ (Fr n0 L) ∧ (Keep h0 h [o]) ∧ (Exa Z h o "java/lang/String") ∧ (Fld Z h o "java/lang/String" "coder" "B" (.int (0 : Int32))) ∧ (Fld Z h o "java/lang/String" "value" "[B" (.ref ot)) ∧ (LT Z [""] [("java/lang/String", 7, oL)] vm)
set_option maxRecDepth 65536 in
set_option maxHeartbeats 40000000 in
theorem rm_sI1b (l : Launch) (Z : State) (a0 : Array Value) (hw : ∀ d ∈ tables_1, d.before a0 Z = true) (ws : List Jvm.Cond) (hcw : Jvm.Lit.compactW.before a0 Z = true) (hch : ∀ q ∈ consts_1, Jvm.Lit.constHeld Z q.1 q.2) (o : Addr) (oc : Addr) (oL : Addr) (ot : Addr) (kt : ClassId) (kc : ClassId) (h0 : Heap) (n0 : Nat) (Z0 : n0 ≤ h0.size) (hzk : ∀ (b : Addr) (cl : Cell), Z.heap[b]? = some cl → h0[b]? = some cl) (hzn : Z.heap.size ≤ n0) (E_o : Exa Z h0 o "java/lang/String") (F_c : Fld Z h0 o "java/lang/String" "coder" "B" (.int (0 : Int32))) (F_v : Fld Z h0 o "java/lang/String" "value" "[B" .null) (g_o : n0 ≤ o) (E_L : Exa Z h0 oL "java/lang/String") (F_Lc : Fld Z h0 oL "java/lang/String" "coder" "B" (.int (0 : Int32))) (F_Lv : Fld Z h0 oL "java/lang/String" "value" "[B" (.ref ot)) (V_t : Arv Z h0 ot kt (.byte) (0 : Int32) [] (.int (0 : Int32))) (V_c : Arv Z h0 oc kc (.char) (0 : Int32) [] (.int (0 : Int32))) (ne_o_oc : o ≠ oc) :
    MetFree l (⟨"java/lang/String", "<init>", "([C)V"⟩ : MethodName) (head1 (Jvm.Cond.code (⟨"java/lang/String", "<init>", "([C)V"⟩ : MethodName) jdk_42_method_3_code 2 none :: ws) ({ frames := 2, cells := 0, slots := 0, locals := 29 } : Room)) (fun a_ U_ => a_ = #[(.ref o), (.ref oc)] ∧ Z.Warmed39 U_.vm ∧ U_.heap = h0 ∧ LT Z [""] [("java/lang/String", 7, oL)] U_.vm) (fun _ _ _ _ _ => True) (fun _ U_ o_ U_' => ∃ v_ L_, o_ = .returned v_ ∧ (Q_sI1b Z o oc oL ot kt kc h0 n0) v_ U_'.heap L_ U_'.vm ∧ ReturnedEndW U_ o_ U_' L_ 0 0) := by
  refine ow_bodyI (plainFor_of_name pn_1) ?_
  intro p e s m below meth c T0 X0 hx hZ hby hml hown hnm hret hlk e0 es hS0 hI0
  have N0 := Fr.nil n0
  refine Ends.cast (ef_sI1a m o oc) ?_
  have nL1 : oL ≠ o := Fld.ne F_Lv F_v (fun q => nomatch q)
  have nT1 : o ≠ ot := Exa.neArv E_o V_t (hw _ (List.mem_of_getElem? (i := 9) rfl))
  refine ow_aloadN X0 hx (hb hby d_jdk_42m3_0) rfl rfl (pc' := 1) rfl ?_
  refine ow_aloadN X0 hx (hb hby d_jdk_42m3_1) rfl rfl (pc' := 2) rfl ?_
  refine ow_iconst X0 hx (z := (0 : Int32)) (hb hby d_jdk_42m3_2) rfl (pc' := 3) rfl ?_
  refine ow_aloadN X0 hx (hb hby d_jdk_42m3_3) rfl rfl (pc' := 4) rfl ?_
  refine ow_len X0 hx hZ e0 V_c (hb hby d_jdk_42m3_4) (pc' := 5) rfl ?_
  refine ow_aconstNull X0 hx (hb hby d_jdk_42m3_5) (pc' := 6) rfl ?_
  refine ow_callII X0 hx hZ rfl rfl hown (hw _ (List.mem_of_getElem? (i := 15) rfl)) (hw _ (List.mem_of_getElem? (i := 16) rfl)) (hw _ (List.mem_of_getElem? (i := 10) rfl)) (hw _ (List.mem_of_getElem? (i := 18) rfl)) (by decide) (rm_sI4b l Z a0 hw [] hcw hch o oc (0 : Int32) (0 : Int32) oL ot kt h0 n0 Z0 (ow_zk hzk hzn (Keep.refl h0 [o]) (allS g_o all0)) hzn E_o F_c F_v g_o E_L F_Lc F_Lv V_t (by first | assumption | decide | omega | (have q0_ : (0 : Int32).toInt = 0 := (by decide); omega))) (LT.warm hI0) hS0 (Nat.zero_le _) e0 0 (by decide) (by decide) (by decide) (by decide) [(.ref oc), (.int (0 : Int32)), (.int (0 : Int32)), .null] (by rw [hml]; rfl) pd_0 rfl rfl rfl (Nat.le_of_eq rfl) (hb hby d_jdk_42m3_6) (pc' := 9) rfl (fun v2 T2 L2 hQ2 X2 hS2 hZ hown => ?_)
  obtain ⟨rfl, Nc2, Kc2, P2_0, P2_1, P2_2, hI2⟩ := hQ2
  have E_oL_2 := E_L.keep Kc2
  have F_oL_coder_2 := F_Lc.keep Kc2 (ninS nL1 nin0)
  have F_oL_value_2 := F_Lv.keep Kc2 (ninS nL1 nin0)
  have V_ot_2 := V_t.keep Kc2 (ninS (Ne.symm nT1) nin0)
  have V_oc_2 := V_c.keep Kc2 (ninS (Ne.symm ne_o_oc) nin0)
  have Zs2 : n0 ≤ T2.heap.size := Nat.le_trans Z0 Kc2.1
  have K2 := (Keep.refl h0 [o]).trans Kc2 (allS (Or.inl (List.mem_of_getElem? (i := 0) rfl)) all0)
  have N2 := Fr.app N0 Nc2
  show Ends _ _ _ _ T2 (mkF m 9 #[.val (.ref o), .val (.ref oc)] [])
  exact ow_retVI X2 hx hret hlk (hb hby d_jdk_42m3_9) hS2 (Nat.le_refl _) (by decide) (by decide) (show Q_sI1b Z o oc oL ot kt kc h0 n0 _ T2.heap _ _ from ⟨rfl, N2, K2, P2_0, P2_1, P2_2, (LT.weaken (LT.warm hI2 _ X2.warmed) (by decide) (fun _ h => h))⟩)
def Q_so0b (Z : State) (pn : Int32) (pc : Int32) (oL : Addr) (ot : Addr) (kt : ClassId) (h0 : Heap) (n0 : Nat) (v : Option Value) (h : Heap) (L : List Loc) (vm : Vm) : Prop := ∃ (ow : Addr), (v = some (.ref ow)) ∧ (Fr n0 L) ∧ (Keep h0 h []) ∧ (Exa Z h ow "java/lang/String") ∧ (Fld Z h ow "java/lang/String" "coder" "B" (.int (0 : Int32))) ∧ (Fld Z h ow "java/lang/String" "value" "[B" (.ref ot)) ∧ (h0.size ≤ ow) ∧ (LT Z [""] [("java/lang/String", 7, oL)] vm)
set_option maxRecDepth 65536 in
set_option maxHeartbeats 40000000 in
theorem rm_so0b (l : Launch) (Z : State) (a0 : Array Value) (hw : ∀ d ∈ tables_1, d.before a0 Z = true) (ws : List Jvm.Cond) (hcw : Jvm.Lit.compactW.before a0 Z = true) (hch : ∀ q ∈ consts_1, Jvm.Lit.constHeld Z q.1 q.2) (pn : Int32) (pc : Int32) (oL : Addr) (ot : Addr) (kt : ClassId) (h0 : Heap) (n0 : Nat) (Z0 : n0 ≤ h0.size) (hzk : ∀ (b : Addr) (cl : Cell), Z.heap[b]? = some cl → h0[b]? = some cl) (hzn : Z.heap.size ≤ n0) (E_L : Exa Z h0 oL "java/lang/String") (F_Lc : Fld Z h0 oL "java/lang/String" "coder" "B" (.int (0 : Int32))) (F_Lv : Fld Z h0 oL "java/lang/String" "value" "[B" (.ref ot)) (V_t : Arv Z h0 ot kt (.byte) (0 : Int32) [] (.int (0 : Int32))) (hn : pn.toInt = 0) :
    MetFree l (⟨"com/example/inchworm/inchworm/handler/ResultReplacePinLaw", "stringOf", "(II)Ljava/lang/String;"⟩ : MethodName) (head1 (Jvm.Cond.code (⟨"com/example/inchworm/inchworm/handler/ResultReplacePinLaw", "stringOf", "(II)Ljava/lang/String;"⟩ : MethodName) method_5_code 5 (some (.object "java/lang/String")) :: ws) ({ frames := 3, cells := 2, slots := 4, locals := 43 } : Room)) (fun a_ U_ => a_ = #[(.int pn), (.int pc)] ∧ Z.Warmed39 U_.vm ∧ U_.heap = h0 ∧ LT Z [""] [("java/lang/String", 7, oL)] U_.vm) (fun _ _ _ _ _ => True) (fun _ U_ o_ U_' => ∃ v_ L_, o_ = .returned v_ ∧ (Q_so0b Z pn pc oL ot kt h0 n0) v_ U_'.heap L_ U_'.vm ∧ ReturnedEndW U_ o_ U_' L_ 2 4) := by
  refine ow_bodyI (plainFor_of_name pn_0) ?_
  intro p e s m below meth c T0 X0 hx hZ hby hml hown hnm hret hlk e0 es hS0 hI0
  have N0 := Fr.nil n0
  refine Ends.cast (ef_so0a m pn pc) ?_
  have r_pn := rng32 pn
  have r_pc := rng32 pc
  refine ow_iloadN X0 hx (hb hby d_m5_0) rfl (pc' := 1) rfl ?_
  refine ow_sipush X0 hx (z := (255 : Int32)) (hb hby d_m5_1) rfl (pc' := 4) rfl ?_
  refine ow_iand X0 hx (hb hby d_m5_4) (pc' := 5) rfl (fun z1 hz1 => ?_)
  have az1 : z1.toInt = pc.toInt % 256 := by rw [hz1]; exact c_mask pc (255 : Int32) 8 (by decide) (by decide)
  have rz1 := rng32 z1
  refine ow_i2c X0 hx (hb hby d_m5_5) (pc' := 6) rfl (fun z2 hz2 => ?_)
  have az2 : (z2.toInt - z1.toInt) % 65536 = 0 ∧ 0 ≤ z2.toInt ∧ z2.toInt < 65536 := by rw [hz2]; exact c_i2c z1
  have rz2 := rng32 z2
  refine ow_istoreN X0 hx (Ls' := #[.val (.int pn), .val (.int pc), .val (.int z2), .unset, .unset]) (hb hby d_m5_6) rfl (pc' := 7) rfl ?_
  refine ow_iloadN X0 hx (hb hby d_m5_7) rfl (pc' := 8) rfl ?_
  refine ow_bipush X0 hx (z := (8 : Int32)) (hb hby d_m5_8) rfl (pc' := 10) rfl ?_
  refine ow_iushr X0 hx (hb hby d_m5_10) (pc' := 11) rfl (fun z3 hz3 => ?_)
  have az3 : z3.toInt = (pc.toInt % 4294967296) / 256 := by rw [hz3]; exact c_iushr pc (8 : Int32) 8 (by decide) (by decide)
  have rz3 := rng32 z3
  refine ow_sipush X0 hx (z := (255 : Int32)) (hb hby d_m5_11) rfl (pc' := 14) rfl ?_
  refine ow_iand X0 hx (hb hby d_m5_14) (pc' := 15) rfl (fun z4 hz4 => ?_)
  have az4 : z4.toInt = z3.toInt % 256 := by rw [hz4]; exact c_mask z3 (255 : Int32) 8 (by decide) (by decide)
  have rz4 := rng32 z4
  refine ow_i2c X0 hx (hb hby d_m5_15) (pc' := 16) rfl (fun z5 hz5 => ?_)
  have az5 : (z5.toInt - z4.toInt) % 65536 = 0 ∧ 0 ≤ z5.toInt ∧ z5.toInt < 65536 := by rw [hz5]; exact c_i2c z4
  have rz5 := rng32 z5
  refine ow_istoreN X0 hx (Ls' := #[.val (.int pn), .val (.int pc), .val (.int z2), .val (.int z5), .unset]) (hb hby d_m5_16) rfl (pc' := 17) rfl ?_
  refine ow_iloadN X0 hx (hb hby d_m5_17) rfl (pc' := 18) rfl ?_
  refine ow_bipush X0 hx (z := (16 : Int32)) (hb hby d_m5_18) rfl (pc' := 20) rfl ?_
  refine ow_iushr X0 hx (hb hby d_m5_20) (pc' := 21) rfl (fun z6 hz6 => ?_)
  have az6 : z6.toInt = (pc.toInt % 4294967296) / 65536 := by rw [hz6]; exact c_iushr pc (16 : Int32) 16 (by decide) (by decide)
  have rz6 := rng32 z6
  refine ow_sipush X0 hx (z := (255 : Int32)) (hb hby d_m5_21) rfl (pc' := 24) rfl ?_
  refine ow_iand X0 hx (hb hby d_m5_24) (pc' := 25) rfl (fun z7 hz7 => ?_)
  have az7 : z7.toInt = z6.toInt % 256 := by rw [hz7]; exact c_mask z6 (255 : Int32) 8 (by decide) (by decide)
  have rz7 := rng32 z7
  refine ow_i2c X0 hx (hb hby d_m5_25) (pc' := 26) rfl (fun z8 hz8 => ?_)
  have az8 : (z8.toInt - z7.toInt) % 65536 = 0 ∧ 0 ≤ z8.toInt ∧ z8.toInt < 65536 := by rw [hz8]; exact c_i2c z7
  have rz8 := rng32 z8
  refine ow_istore X0 hx (Ls' := #[.val (.int pn), .val (.int pc), .val (.int z2), .val (.int z5), .val (.int z8)]) (hb hby d_m5_26) rfl (pc' := 28) rfl ?_
  refine ow_iloadN X0 hx (hb hby d_m5_28) rfl (pc' := 29) rfl ?_
  refine ow_if_ne X0 hx (pn.toInt) (hb hby d_m5_29) rfl (by decide) (pt := 43) (by decide) (pf := 32) rfl (fun c29 => absurd c29 (by omega)) (fun c29 => ?_)
  refine ow_new X0 hx hZ hown (hw _ (List.mem_of_getElem? (i := 8) rfl)) (hw _ (List.mem_of_getElem? (i := 9) rfl)) (hw _ (List.mem_of_getElem? (i := 10) rfl)) e0 (hb hby d_m5_32) (by decide) (by decide) (pc' := 35) rfl (fun T9 h9 b9 g9 X9 e9 E9 A9 D9 => ?_)
  have ne_oL_b9 : oL ≠ b9 := Nat.ne_of_lt (Nat.lt_of_lt_of_le E_L.lt (Nat.le_of_eq g9.symm))
  have ne_ot_b9 : ot ≠ b9 := Nat.ne_of_lt (Nat.lt_of_lt_of_le V_t.lt (Nat.le_of_eq g9.symm))
  have g_b9 : n0 ≤ b9 := Nat.le_trans Z0 (Nat.le_of_eq g9.symm)
  have sz_b9 : h0.size ≤ b9 := Nat.le_trans (Keep.refl h0 []).1 (Nat.le_of_eq g9.symm)
  have E_oL_9 := E_L.ext E9
  have F_oL_coder_9 := F_Lc.ext E9
  have F_oL_value_9 := F_Lv.ext E9
  have V_ot_9 := V_t.ext E9
  have Zs9 : n0 ≤ h9.size := Nat.le_trans Z0 E9.1
  have K9 := (Keep.refl h0 []).ext E9
  have F_b9_coder : Fld Z h9 b9 "java/lang/String" "coder" "B" (.int (0 : Int32)) := D9 (Or.inr (hw _ (List.mem_of_getElem? (i := 34) rfl))) (ty := .byte) (by decide)
  have F_b9_value : Fld Z h9 b9 "java/lang/String" "value" "[B" .null := D9 (Or.inr (hw _ (List.mem_of_getElem? (i := 36) rfl))) (ty := (.array .byte)) (by decide)
  refine ow_dup X9 hx (hb hby d_m5_35) rfl (pc' := 36) rfl ?_
  refine ow_iconst X9 hx (z := (0 : Int32)) (hb hby d_m5_36) rfl (pc' := 37) rfl ?_
  refine ow_newPE X9 hx hZ (hw _ (List.mem_of_getElem? (i := 11) rfl)) e9 (hb hby d_m5_37) (by decide) 0 (by decide) (by decide) (by decide) (by decide) (ad := "[C") (by decide) (pc' := 39) rfl (fun T10 h10 b10 k10 g10 X10 e10 E10 V10 A10 => ?_)
  have ne_oL_b10 : oL ≠ b10 := Nat.ne_of_lt (Nat.lt_of_lt_of_le E_oL_9.lt (Nat.le_of_eq g10.symm))
  have ne_ot_b10 : ot ≠ b10 := Nat.ne_of_lt (Nat.lt_of_lt_of_le V_ot_9.lt (Nat.le_of_eq g10.symm))
  have ne_b9_b10 : b9 ≠ b10 := Nat.ne_of_lt (Nat.lt_of_lt_of_le A9.lt (Nat.le_of_eq g10.symm))
  have g_b10 : n0 ≤ b10 := Nat.le_trans Zs9 (Nat.le_of_eq g10.symm)
  have sz_b10 : h0.size ≤ b10 := Nat.le_trans K9.1 (Nat.le_of_eq g10.symm)
  have E_oL_10 := E_oL_9.ext E10
  have F_oL_coder_10 := F_oL_coder_9.ext E10
  have F_oL_value_10 := F_oL_value_9.ext E10
  have V_ot_10 := V_ot_9.ext E10
  have E_b9_10 := A9.ext E10
  have F_b9_coder_10 := F_b9_coder.ext E10
  have F_b9_value_10 := F_b9_value.ext E10
  have Zs10 : n0 ≤ h10.size := Nat.le_trans Zs9 E10.1
  have K10 := K9.ext E10
  have V_b10 : Arv Z h10 b10 k10 .char (0 : Int32) [] (.int (0 : Int32)) := V10
  refine ow_callII X10 hx hZ rfl rfl hown (hw _ (List.mem_of_getElem? (i := 12) rfl)) (hw _ (List.mem_of_getElem? (i := 13) rfl)) (hw _ (List.mem_of_getElem? (i := 10) rfl)) (hw _ (List.mem_of_getElem? (i := 14) rfl)) (by decide) (rm_sI1b l Z a0 hw [] hcw hch b9 b10 oL ot kt k10 h10 n0 Zs10 (ow_zk hzk hzn K10 all0) hzn E_b9_10 F_b9_coder_10 F_b9_value_10 g_b9 E_oL_10 F_oL_coder_10 F_oL_value_10 V_ot_10 V_b10 ne_b9_b10) (LT.warm hI0) hS0 (Nat.zero_le _) e10 1 (by decide) (by decide) (by decide) (by decide) [(.ref b10)] (by rw [hml]; rfl) pd_1 rfl rfl rfl (Nat.le_of_eq rfl) (hb hby d_m5_39) (pc' := 42) rfl (fun v11 T11 L11 hQ11 X11 hS11 hZ hown => ?_)
  obtain ⟨rfl, Nc11, Kc11, P11_0, P11_1, P11_2, hI11⟩ := hQ11
  have E_oL_11 := E_oL_10.keep Kc11
  have F_oL_coder_11 := F_oL_coder_10.keep Kc11 (ninS ne_oL_b9 nin0)
  have F_oL_value_11 := F_oL_value_10.keep Kc11 (ninS ne_oL_b9 nin0)
  have V_ot_11 := V_ot_10.keep Kc11 (ninS ne_ot_b9 nin0)
  have E_b10_11 := A10.keep Kc11
  have V_b10_11 := V_b10.keep Kc11 (ninS (Ne.symm ne_b9_b10) nin0)
  have Zs11 : n0 ≤ T11.heap.size := Nat.le_trans Zs10 Kc11.1
  have K11 := K10.trans Kc11 (allS (Or.inr sz_b9) all0)
  have N11 := Fr.app N0 Nc11
  show Ends _ _ _ _ T11 (mkF m 42 #[.val (.int pn), .val (.int pc), .val (.int z2), .val (.int z5), .val (.int z8)] [(.ref b9)])
  exact ow_retAI X11 hx hret hlk rfl rfl (hb hby d_m5_42) hS11 (Nat.le_refl _) (by decide) (by decide) (show Q_so0b Z pn pc oL ot kt h0 n0 _ T11.heap _ _ from ⟨b9, rfl, N11, K11, P11_0, P11_1, P11_2, sz_b9, (LT.weaken (LT.warm hI11 _ X11.warmed) (by decide) (fun _ h => h))⟩)
theorem d_jdk_43m13_0 : decode jdk_43_method_13_code 0 = .ok (.aload_n 0, 1) := by decide +kernel
theorem d_jdk_43m13_1 : decode jdk_43_method_13_code 1 = .ok (.arraylength, 1) := by decide +kernel
theorem d_jdk_43m13_2 : decode jdk_43_method_13_code 2 = .ok (.aload_n 1, 1) := by decide +kernel
theorem d_jdk_43m13_3 : decode jdk_43_method_13_code 3 = .ok (.arraylength, 1) := by decide +kernel
theorem d_jdk_43m13_4 : decode jdk_43_method_13_code 4 = .ok (.if_icmp .ne 30, 3) := by decide +kernel
theorem d_jdk_43m13_7 : decode jdk_43_method_13_code 7 = .ok (.iconst 0, 1) := by decide +kernel
theorem d_jdk_43m13_8 : decode jdk_43_method_13_code 8 = .ok (.istore_n 2, 1) := by decide +kernel
theorem d_jdk_43m13_9 : decode jdk_43_method_13_code 9 = .ok (.iload_n 2, 1) := by decide +kernel
theorem d_jdk_43m13_10 : decode jdk_43_method_13_code 10 = .ok (.aload_n 0, 1) := by decide +kernel
theorem d_jdk_43m13_11 : decode jdk_43_method_13_code 11 = .ok (.arraylength, 1) := by decide +kernel
theorem d_jdk_43m13_12 : decode jdk_43_method_13_code 12 = .ok (.if_icmp .ge 20, 3) := by decide +kernel
theorem d_jdk_43m13_32 : decode jdk_43_method_13_code 32 = .ok (.iconst 1, 1) := by decide +kernel
theorem d_jdk_43m13_33 : decode jdk_43_method_13_code 33 = .ok (.ireturn, 1) := by decide +kernel
theorem ef_eql0 (m : MethodId) (x0 : Addr) (x1 : Addr) : entryFrame m #[(.ref x0), (.ref x1)] 3 = mkF m 0 #[.val (.ref x0), .val (.ref x1), .unset] [] := by first | (simp [entryFrame, mkF, argsToLocals, Value.category]; done) | rfl
theorem pn_2 : plainName "java/lang/StringLatin1" = true := by first | (simp [plainName, overriddenIn]; done) | decide +kernel
set_option maxRecDepth 65536 in
set_option maxHeartbeats 40000000 in
theorem rm_eql0 (l : Launch) (Z : State) (a0 : Array Value) (hw : ∀ d ∈ tables_1, d.before a0 Z = true) (ws : List Jvm.Cond) (oa : Addr) (ob : Addr) (ka : ClassId) (kb : ClassId) (h0 : Heap) (V_a : Arv Z h0 oa ka (.byte) (0 : Int32) [] (.int (0 : Int32))) (V_b : Arv Z h0 ob kb (.byte) (0 : Int32) [] (.int (0 : Int32))) :
    MetFree l (⟨"java/lang/StringLatin1", "equals", "([B[B)Z"⟩ : MethodName) (head1 (Jvm.Cond.code (⟨"java/lang/StringLatin1", "equals", "([B[B)Z"⟩ : MethodName) jdk_43_method_13_code 3 (some .boolean) :: ws) ({ frames := 0, cells := 0, slots := 0, locals := 0 } : Room)) (fun a_ U_ => a_ = #[(.ref oa), (.ref ob)] ∧ Z.Warmed39 U_.vm ∧ U_.heap = h0) (fun _ _ _ _ _ => True) (fun _ U_ o_ U_' => ∃ v_ L_, o_ = .returned v_ ∧ (QI (fun z => z.toInt = 1) h0) v_ U_'.heap L_ ∧ FrameEnd U_ o_ U_' L_ 0 0) := by
  refine ow_body (plainFor_of_name pn_2) ?_
  intro p e s m below meth c T0 X0 hx hZ hby hml hown hnm hret hlk e0
  refine Ends.cast (ef_eql0 m oa ob) ?_
  refine ow_aloadN X0 hx (hb hby d_jdk_43m13_0) rfl rfl (pc' := 1) rfl ?_
  refine ow_len X0 hx hZ e0 V_a (hb hby d_jdk_43m13_1) (pc' := 2) rfl ?_
  refine ow_aloadN X0 hx (hb hby d_jdk_43m13_2) rfl rfl (pc' := 3) rfl ?_
  refine ow_len X0 hx hZ e0 V_b (hb hby d_jdk_43m13_3) (pc' := 4) rfl ?_
  refine ow_icmpN X0 hx (hb hby d_jdk_43m13_4) (by decide) (pc' := 7) rfl ?_
  refine ow_iconst X0 hx (z := (0 : Int32)) (hb hby d_jdk_43m13_7) rfl (pc' := 8) rfl ?_
  refine ow_istoreN X0 hx (Ls' := #[.val (.ref oa), .val (.ref ob), .val (.int (0 : Int32))]) (hb hby d_jdk_43m13_8) rfl (pc' := 9) rfl ?_
  refine ow_iloadN X0 hx (hb hby d_jdk_43m13_9) rfl (pc' := 10) rfl ?_
  refine ow_aloadN X0 hx (hb hby d_jdk_43m13_10) rfl rfl (pc' := 11) rfl ?_
  refine ow_len X0 hx hZ e0 V_a (hb hby d_jdk_43m13_11) (pc' := 12) rfl ?_
  refine ow_icmpY X0 hx (hb hby d_jdk_43m13_12) (by decide) (by decide) (pc' := 32) (by decide) ?_
  refine ow_iconst X0 hx (z := (1 : Int32)) (hb hby d_jdk_43m13_32) rfl (pc' := 33) rfl ?_
  exact ow_retB X0 hx hret hlk (hb hby d_jdk_43m13_33) (by decide) (by decide) (z' := (1 : Int32)) rfl ⟨(1 : Int32), rfl, (show (1 : Int) = 1 from by omega), rfl, e0⟩
theorem pd_2 : parseMethodDescriptor "([B[B)Z" = some ⟨[(.array .byte), (.array .byte)], some .boolean⟩ := by decide +kernel
theorem d_jdk_42m66_0 : decode jdk_42_method_66_code 0 = .ok (.aload_n 0, 1) := by decide +kernel
theorem d_jdk_42m66_1 : decode jdk_42_method_66_code 1 = .ok (.aload_n 1, 1) := by decide +kernel
theorem d_jdk_42m66_2 : decode jdk_42_method_66_code 2 = .ok (.if_acmp .ne 5, 3) := by decide +kernel
theorem d_jdk_42m66_7 : decode jdk_42_method_66_code 7 = .ok (.aload_n 1, 1) := by decide +kernel
theorem d_jdk_42m66_8 : decode jdk_42_method_66_code 8 = .ok (.instanceof 10, 3) := by decide +kernel
theorem d_jdk_42m66_11 : decode jdk_42_method_66_code 11 = .ok (.ifCond .eq 43, 3) := by decide +kernel
theorem d_jdk_42m66_14 : decode jdk_42_method_66_code 14 = .ok (.aload_n 1, 1) := by decide +kernel
theorem d_jdk_42m66_15 : decode jdk_42_method_66_code 15 = .ok (.checkcast 10, 3) := by decide +kernel
theorem d_jdk_42m66_18 : decode jdk_42_method_66_code 18 = .ok (.astore_n 2, 1) := by decide +kernel
theorem d_jdk_42m66_19 : decode jdk_42_method_66_code 19 = .ok (.getstatic 38, 3) := by decide +kernel
theorem d_jdk_42m66_22 : decode jdk_42_method_66_code 22 = .ok (.ifCond .eq 14, 3) := by decide +kernel
theorem d_jdk_42m66_25 : decode jdk_42_method_66_code 25 = .ok (.aload_n 0, 1) := by decide +kernel
theorem d_jdk_42m66_26 : decode jdk_42_method_66_code 26 = .ok (.getfield 15, 3) := by decide +kernel
theorem d_jdk_42m66_29 : decode jdk_42_method_66_code 29 = .ok (.aload_n 2, 1) := by decide +kernel
theorem d_jdk_42m66_30 : decode jdk_42_method_66_code 30 = .ok (.getfield 15, 3) := by decide +kernel
theorem d_jdk_42m66_33 : decode jdk_42_method_66_code 33 = .ok (.if_icmp .ne 21, 3) := by decide +kernel
theorem d_jdk_42m66_36 : decode jdk_42_method_66_code 36 = .ok (.aload_n 0, 1) := by decide +kernel
theorem d_jdk_42m66_37 : decode jdk_42_method_66_code 37 = .ok (.getfield 9, 3) := by decide +kernel
theorem d_jdk_42m66_40 : decode jdk_42_method_66_code 40 = .ok (.aload_n 2, 1) := by decide +kernel
theorem d_jdk_42m66_41 : decode jdk_42_method_66_code 41 = .ok (.getfield 9, 3) := by decide +kernel
theorem d_jdk_42m66_44 : decode jdk_42_method_66_code 44 = .ok (.invokestatic 541, 3) := by decide +kernel
theorem d_jdk_42m66_47 : decode jdk_42_method_66_code 47 = .ok (.ifCond .eq 7, 3) := by decide +kernel
theorem d_jdk_42m66_50 : decode jdk_42_method_66_code 50 = .ok (.iconst 1, 1) := by decide +kernel
theorem d_jdk_42m66_51 : decode jdk_42_method_66_code 51 = .ok (.goto 4, 3) := by decide +kernel
theorem d_jdk_42m66_55 : decode jdk_42_method_66_code 55 = .ok (.ireturn, 1) := by decide +kernel
theorem ef_eqs0 (m : MethodId) (x0 : Addr) (x1 : Addr) : entryFrame m #[(.ref x0), (.ref x1)] 3 = mkF m 0 #[.val (.ref x0), .val (.ref x1), .unset] [] := by first | (simp [entryFrame, mkF, argsToLocals, Value.category]; done) | rfl
set_option maxRecDepth 65536 in
set_option maxHeartbeats 40000000 in
theorem rm_eqs0 (l : Launch) (Z : State) (a0 : Array Value) (hw : ∀ d ∈ tables_1, d.before a0 Z = true) (ws : List Jvm.Cond) (o : Addr) (os : Addr) (zc : Int32) (oa : Addr) (ob : Addr) (ka : ClassId) (kb : ClassId) (h0 : Heap) (S_cs : Sta Z h0 "java/lang/String" "COMPACT_STRINGS" "Z" (.int zc)) (hz0 : ¬ zc.toInt = 0) (E_o : Exa Z h0 o "java/lang/String") (F_c : Fld Z h0 o "java/lang/String" "coder" "B" (.int (0 : Int32))) (F_v : Fld Z h0 o "java/lang/String" "value" "[B" (.ref oa)) (E_s : Exa Z h0 os "java/lang/String") (F_sc : Fld Z h0 os "java/lang/String" "coder" "B" (.int (0 : Int32))) (F_sv : Fld Z h0 os "java/lang/String" "value" "[B" (.ref ob)) (V_a : Arv Z h0 oa ka (.byte) (0 : Int32) [] (.int (0 : Int32))) (V_b : Arv Z h0 ob kb (.byte) (0 : Int32) [] (.int (0 : Int32))) (ne_o_os : o ≠ os) :
    MetFree l (⟨"java/lang/String", "equals", "(Ljava/lang/Object;)Z"⟩ : MethodName) (head1 (Jvm.Cond.code (⟨"java/lang/String", "equals", "(Ljava/lang/Object;)Z"⟩ : MethodName) jdk_42_method_66_code 3 (some .boolean) :: ws) ({ frames := 1, cells := 0, slots := 0, locals := 14 } : Room)) (fun a_ U_ => a_ = #[(.ref o), (.ref os)] ∧ Z.Warmed39 U_.vm ∧ U_.heap = h0) (fun _ _ _ _ _ => True) (fun _ U_ o_ U_' => ∃ v_ L_, o_ = .returned v_ ∧ (QI (fun z => z.toInt = 1) h0) v_ U_'.heap L_ ∧ FrameEnd U_ o_ U_' L_ 0 0) := by
  refine ow_body (plainFor_of_name pn_1) ?_
  intro p e s m below meth c T0 X0 hx hZ hby hml hown hnm hret hlk e0
  refine Ends.cast (ef_eqs0 m o os) ?_
  refine ow_aloadN X0 hx (hb hby d_jdk_42m66_0) rfl rfl (pc' := 1) rfl ?_
  refine ow_aloadN X0 hx (hb hby d_jdk_42m66_1) rfl rfl (pc' := 2) rfl ?_
  refine ow_acmp X0 hx rfl rfl (same := false) (hb hby d_jdk_42m66_2) (decide_eq_false fun q => ne_o_os (Value.ref.inj q)) (by decide) (pc' := 7) rfl ?_
  refine ow_aloadN X0 hx (hb hby d_jdk_42m66_7) rfl rfl (pc' := 8) rfl ?_
  refine ow_instY X0 hx hZ hown (hw _ (List.mem_of_getElem? (i := 92) rfl)) e0 (Ins.self E_s) (hb hby d_jdk_42m66_8) (pc' := 11) rfl (fun T1 X1 e1 => ?_)
  refine ow_ifN X1 hx (hb hby d_jdk_42m66_11) (by decide) (pc' := 14) rfl ?_
  refine ow_aloadN X1 hx (hb hby d_jdk_42m66_14) rfl rfl (pc' := 15) rfl ?_
  refine ow_castY X1 hx hZ hown (hw _ (List.mem_of_getElem? (i := 92) rfl)) e1 (Ins.self E_s) (hb hby d_jdk_42m66_15) (pc' := 18) rfl (fun T2 X2 e2 => ?_)
  refine ow_astoreN X2 hx (Ls' := #[.val (.ref o), .val (.ref os), .val (.ref os)]) (hb hby d_jdk_42m66_18) rfl rfl (pc' := 19) rfl ?_
  refine ow_getS X2 hx hZ hown (host := "") (Or.inl (hw _ (List.mem_of_getElem? (i := 22) rfl))) Via.refl e2 S_cs (hb hby d_jdk_42m66_19) (pc' := 22) rfl (fun T3 X3 e3 => ?_)
  refine ow_if_eq X3 hx (zc.toInt) (hb hby d_jdk_42m66_22) rfl (by decide) (pt := 36) (by decide) (pf := 25) rfl (fun c22 => absurd c22 (by omega)) (fun c22 => ?_)
  refine ow_aloadN X3 hx (hb hby d_jdk_42m66_25) rfl rfl (pc' := 26) rfl ?_
  refine ow_getF X3 hx hZ hown (host := "") (Or.inl (hw _ (List.mem_of_getElem? (i := 33) rfl))) Via.refl e3 F_c (hb hby d_jdk_42m66_26) (pc' := 29) rfl (fun T4 X4 e4 => ?_)
  refine ow_aloadN X4 hx (hb hby d_jdk_42m66_29) rfl rfl (pc' := 30) rfl ?_
  refine ow_getF X4 hx hZ hown (host := "") (Or.inl (hw _ (List.mem_of_getElem? (i := 33) rfl))) Via.refl e4 F_sc (hb hby d_jdk_42m66_30) (pc' := 33) rfl (fun T5 X5 e5 => ?_)
  refine ow_icmpN X5 hx (hb hby d_jdk_42m66_33) (by decide) (pc' := 36) rfl ?_
  refine ow_aloadN X5 hx (hb hby d_jdk_42m66_36) rfl rfl (pc' := 37) rfl ?_
  refine ow_getF X5 hx hZ hown (host := "") (Or.inl (hw _ (List.mem_of_getElem? (i := 35) rfl))) Via.refl e5 F_v (hb hby d_jdk_42m66_37) (pc' := 40) rfl (fun T6 X6 e6 => ?_)
  refine ow_aloadN X6 hx (hb hby d_jdk_42m66_40) rfl rfl (pc' := 41) rfl ?_
  refine ow_getF X6 hx hZ hown (host := "") (Or.inl (hw _ (List.mem_of_getElem? (i := 35) rfl))) Via.refl e6 F_sv (hb hby d_jdk_42m66_41) (pc' := 44) rfl (fun T7 X7 e7 => ?_)
  refine ow_callPI X7 hx hZ hown (hw _ (List.mem_of_getElem? (i := 93) rfl)) (hw _ (List.mem_of_getElem? (i := 94) rfl)) (hw _ (List.mem_of_getElem? (i := 95) rfl)) (hw _ (List.mem_of_getElem? (i := 96) rfl)) (by decide) (rm_eql0 l Z a0 hw [] oa ob ka kb h0 V_a V_b) e7 0 (by decide) (by decide) (by decide) (by decide) [(.ref oa), (.ref ob)] (by rw [hml]; rfl) pd_2 rfl rfl rfl (Nat.le_of_eq rfl) (hb hby d_jdk_42m66_44) (pc' := 47) rfl (fun z8 T8 hz8 X8 e8 => ?_)
  have az8 : z8.toInt = 1 := hz8
  have rz8 := rng32 z8
  refine ow_if_eq X8 hx (z8.toInt) (hb hby d_jdk_42m66_47) rfl (by decide) (pt := 54) (by decide) (pf := 50) rfl (fun c47 => absurd c47 (by omega)) (fun c47 => ?_)
  refine ow_iconst X8 hx (z := (1 : Int32)) (hb hby d_jdk_42m66_50) rfl (pc' := 51) rfl ?_
  refine ow_goto X8 hx (hb hby d_jdk_42m66_51) (by decide) (pc' := 55) (by decide) ?_
  exact ow_retB X8 hx hret hlk (hb hby d_jdk_42m66_55) (by decide) (by decide) (z' := (1 : Int32)) rfl ⟨(1 : Int32), rfl, (show (1 : Int) = 1 from by omega), rfl, e8⟩
theorem d_m5_43 : decode method_5_code 43 = .ok (.iload_n 0, 1) := by decide +kernel
theorem d_m5_44 : decode method_5_code 44 = .ok (.iconst 1, 1) := by decide +kernel
theorem d_m5_45 : decode method_5_code 45 = .ok (.if_icmp .ne 18, 3) := by decide +kernel
theorem d_m5_48 : decode method_5_code 48 = .ok (.new 43, 3) := by decide +kernel
theorem d_m5_51 : decode method_5_code 51 = .ok (.dup, 1) := by decide +kernel
theorem d_m5_52 : decode method_5_code 52 = .ok (.iconst 1, 1) := by decide +kernel
theorem d_m5_53 : decode method_5_code 53 = .ok (.newarray .char, 2) := by decide +kernel
theorem d_m5_55 : decode method_5_code 55 = .ok (.dup, 1) := by decide +kernel
theorem d_m5_56 : decode method_5_code 56 = .ok (.iconst 0, 1) := by decide +kernel
theorem d_m5_57 : decode method_5_code 57 = .ok (.iload_n 2, 1) := by decide +kernel
theorem d_m5_58 : decode method_5_code 58 = .ok (.castore, 1) := by decide +kernel
theorem d_m5_59 : decode method_5_code 59 = .ok (.invokespecial 48, 3) := by decide +kernel
theorem d_m5_62 : decode method_5_code 62 = .ok (.areturn, 1) := by decide +kernel
def Q_so1 (Z : State) (pn : Int32) (pc : Int32) (zc : Int32) (h0 : Heap) (n0 : Nat) (v : Option Value) (h : Heap) (L : List Loc) : Prop := ∃ (ow : Addr), ∃ (ot : Addr), ∃ (kt : ClassId), ∃ (x0 : Int32), (v = some (.ref ow)) ∧ (Fr n0 L) ∧ (Keep h0 h []) ∧ (Exa Z h ow "java/lang/String") ∧ (Fld Z h ow "java/lang/String" "coder" "B" (.int (0 : Int32))) ∧ (Fld Z h ow "java/lang/String" "value" "[B" (.ref ot)) ∧ (Arv Z h ot kt (.byte) (1 : Int32) [(.int x0)] (.int (0 : Int32))) ∧ (h0.size ≤ ow) ∧ (h0.size ≤ ot) ∧ (((x0.toInt - pc.toInt) % 256 = 0 ∧ -128 ≤ x0.toInt ∧ x0.toInt < 128))
set_option maxRecDepth 65536 in
set_option maxHeartbeats 40000000 in
theorem rm_so1 (l : Launch) (Z : State) (a0 : Array Value) (hw : ∀ d ∈ tables_1, d.before a0 Z = true) (ws : List Jvm.Cond) (pn : Int32) (pc : Int32) (zc : Int32) (h0 : Heap) (n0 : Nat) (Z0 : n0 ≤ h0.size) (S_cs : Sta Z h0 "java/lang/String" "COMPACT_STRINGS" "Z" (.int zc)) (hzc : ¬ zc = 0) (hn : pn.toInt = 1) :
    MetFree l (⟨"com/example/inchworm/inchworm/handler/ResultReplacePinLaw", "stringOf", "(II)Ljava/lang/String;"⟩ : MethodName) (head1 (Jvm.Cond.code (⟨"com/example/inchworm/inchworm/handler/ResultReplacePinLaw", "stringOf", "(II)Ljava/lang/String;"⟩ : MethodName) method_5_code 5 (some (.object "java/lang/String")) :: ws) ({ frames := 4, cells := 3, slots := 6, locals := 66 } : Room)) (fun a_ U_ => a_ = #[(.int pn), (.int pc)] ∧ Z.Warmed39 U_.vm ∧ U_.heap = h0) (fun _ _ _ _ _ => True) (fun _ U_ o_ U_' => ∃ v_ L_, o_ = .returned v_ ∧ (Q_so1 Z pn pc zc h0 n0) v_ U_'.heap L_ ∧ FrameEnd U_ o_ U_' L_ 3 6) := by
  refine ow_body (plainFor_of_name pn_0) ?_
  intro p e s m below meth c T0 X0 hx hZ hby hml hown hnm hret hlk e0
  have N0 := Fr.nil n0
  refine Ends.cast (ef_so0a m pn pc) ?_
  have r_pn := rng32 pn
  have r_pc := rng32 pc
  refine ow_iloadN X0 hx (hb hby d_m5_0) rfl (pc' := 1) rfl ?_
  refine ow_sipush X0 hx (z := (255 : Int32)) (hb hby d_m5_1) rfl (pc' := 4) rfl ?_
  refine ow_iand X0 hx (hb hby d_m5_4) (pc' := 5) rfl (fun z1 hz1 => ?_)
  have az1 : z1.toInt = pc.toInt % 256 := by rw [hz1]; exact c_mask pc (255 : Int32) 8 (by decide) (by decide)
  have rz1 := rng32 z1
  refine ow_i2c X0 hx (hb hby d_m5_5) (pc' := 6) rfl (fun z2 hz2 => ?_)
  have az2 : (z2.toInt - z1.toInt) % 65536 = 0 ∧ 0 ≤ z2.toInt ∧ z2.toInt < 65536 := by rw [hz2]; exact c_i2c z1
  have rz2 := rng32 z2
  refine ow_istoreN X0 hx (Ls' := #[.val (.int pn), .val (.int pc), .val (.int z2), .unset, .unset]) (hb hby d_m5_6) rfl (pc' := 7) rfl ?_
  refine ow_iloadN X0 hx (hb hby d_m5_7) rfl (pc' := 8) rfl ?_
  refine ow_bipush X0 hx (z := (8 : Int32)) (hb hby d_m5_8) rfl (pc' := 10) rfl ?_
  refine ow_iushr X0 hx (hb hby d_m5_10) (pc' := 11) rfl (fun z3 hz3 => ?_)
  have az3 : z3.toInt = (pc.toInt % 4294967296) / 256 := by rw [hz3]; exact c_iushr pc (8 : Int32) 8 (by decide) (by decide)
  have rz3 := rng32 z3
  refine ow_sipush X0 hx (z := (255 : Int32)) (hb hby d_m5_11) rfl (pc' := 14) rfl ?_
  refine ow_iand X0 hx (hb hby d_m5_14) (pc' := 15) rfl (fun z4 hz4 => ?_)
  have az4 : z4.toInt = z3.toInt % 256 := by rw [hz4]; exact c_mask z3 (255 : Int32) 8 (by decide) (by decide)
  have rz4 := rng32 z4
  refine ow_i2c X0 hx (hb hby d_m5_15) (pc' := 16) rfl (fun z5 hz5 => ?_)
  have az5 : (z5.toInt - z4.toInt) % 65536 = 0 ∧ 0 ≤ z5.toInt ∧ z5.toInt < 65536 := by rw [hz5]; exact c_i2c z4
  have rz5 := rng32 z5
  refine ow_istoreN X0 hx (Ls' := #[.val (.int pn), .val (.int pc), .val (.int z2), .val (.int z5), .unset]) (hb hby d_m5_16) rfl (pc' := 17) rfl ?_
  refine ow_iloadN X0 hx (hb hby d_m5_17) rfl (pc' := 18) rfl ?_
  refine ow_bipush X0 hx (z := (16 : Int32)) (hb hby d_m5_18) rfl (pc' := 20) rfl ?_
  refine ow_iushr X0 hx (hb hby d_m5_20) (pc' := 21) rfl (fun z6 hz6 => ?_)
  have az6 : z6.toInt = (pc.toInt % 4294967296) / 65536 := by rw [hz6]; exact c_iushr pc (16 : Int32) 16 (by decide) (by decide)
  have rz6 := rng32 z6
  refine ow_sipush X0 hx (z := (255 : Int32)) (hb hby d_m5_21) rfl (pc' := 24) rfl ?_
  refine ow_iand X0 hx (hb hby d_m5_24) (pc' := 25) rfl (fun z7 hz7 => ?_)
  have az7 : z7.toInt = z6.toInt % 256 := by rw [hz7]; exact c_mask z6 (255 : Int32) 8 (by decide) (by decide)
  have rz7 := rng32 z7
  refine ow_i2c X0 hx (hb hby d_m5_25) (pc' := 26) rfl (fun z8 hz8 => ?_)
  have az8 : (z8.toInt - z7.toInt) % 65536 = 0 ∧ 0 ≤ z8.toInt ∧ z8.toInt < 65536 := by rw [hz8]; exact c_i2c z7
  have rz8 := rng32 z8
  refine ow_istore X0 hx (Ls' := #[.val (.int pn), .val (.int pc), .val (.int z2), .val (.int z5), .val (.int z8)]) (hb hby d_m5_26) rfl (pc' := 28) rfl ?_
  refine ow_iloadN X0 hx (hb hby d_m5_28) rfl (pc' := 29) rfl ?_
  refine ow_if_ne X0 hx (pn.toInt) (hb hby d_m5_29) rfl (by decide) (pt := 43) (by decide) (pf := 32) rfl (fun c29 => ?_) (fun c29 => absurd c29 (by omega))
  refine ow_iloadN X0 hx (hb hby d_m5_43) rfl (pc' := 44) rfl ?_
  refine ow_iconst X0 hx (z := (1 : Int32)) (hb hby d_m5_44) rfl (pc' := 45) rfl ?_
  refine ow_icmp_ne X0 hx (pn.toInt) ((1 : Int)) (hb hby d_m5_45) rfl rfl (by decide) (pt := 63) (by decide) (pf := 48) rfl (fun c45 => absurd c45 (by omega)) (fun c45 => ?_)
  refine ow_new X0 hx hZ hown (hw _ (List.mem_of_getElem? (i := 8) rfl)) (hw _ (List.mem_of_getElem? (i := 9) rfl)) (hw _ (List.mem_of_getElem? (i := 10) rfl)) e0 (hb hby d_m5_48) (by decide) (by decide) (pc' := 51) rfl (fun T9 h9 b9 g9 X9 e9 E9 A9 D9 => ?_)
  have g_b9 : n0 ≤ b9 := Nat.le_trans Z0 (Nat.le_of_eq g9.symm)
  have sz_b9 : h0.size ≤ b9 := Nat.le_trans (Keep.refl h0 []).1 (Nat.le_of_eq g9.symm)
  have Zs9 : n0 ≤ h9.size := Nat.le_trans Z0 E9.1
  have K9 := (Keep.refl h0 []).ext E9
  have F_b9_coder : Fld Z h9 b9 "java/lang/String" "coder" "B" (.int (0 : Int32)) := D9 (Or.inr (hw _ (List.mem_of_getElem? (i := 34) rfl))) (ty := .byte) (by decide)
  have F_b9_value : Fld Z h9 b9 "java/lang/String" "value" "[B" .null := D9 (Or.inr (hw _ (List.mem_of_getElem? (i := 36) rfl))) (ty := (.array .byte)) (by decide)
  refine ow_dup X9 hx (hb hby d_m5_51) rfl (pc' := 52) rfl ?_
  refine ow_iconst X9 hx (z := (1 : Int32)) (hb hby d_m5_52) rfl (pc' := 53) rfl ?_
  refine ow_newPE X9 hx hZ (hw _ (List.mem_of_getElem? (i := 11) rfl)) e9 (hb hby d_m5_53) (by decide) 1 (by decide) (by decide) (by decide) (by decide) (ad := "[C") (by decide) (pc' := 55) rfl (fun T10 h10 b10 k10 g10 X10 e10 E10 V10 A10 => ?_)
  have ne_b9_b10 : b9 ≠ b10 := Nat.ne_of_lt (Nat.lt_of_lt_of_le A9.lt (Nat.le_of_eq g10.symm))
  have g_b10 : n0 ≤ b10 := Nat.le_trans Zs9 (Nat.le_of_eq g10.symm)
  have sz_b10 : h0.size ≤ b10 := Nat.le_trans K9.1 (Nat.le_of_eq g10.symm)
  have E_b9_10 := A9.ext E10
  have F_b9_coder_10 := F_b9_coder.ext E10
  have F_b9_value_10 := F_b9_value.ext E10
  have Zs10 : n0 ≤ h10.size := Nat.le_trans Zs9 E10.1
  have K10 := K9.ext E10
  have V_b10 : Arv Z h10 b10 k10 .char (1 : Int32) [(.int (0 : Int32))] (.int (0 : Int32)) := V10.pad (pad_rep [] (.int (0 : Int32)) 1)
  refine ow_dup X10 hx (hb hby d_m5_55) rfl (pc' := 56) rfl ?_
  refine ow_iconst X10 hx (z := (0 : Int32)) (hb hby d_m5_56) rfl (pc' := 57) rfl ?_
  refine ow_iloadN X10 hx (hb hby d_m5_57) rfl (pc' := 58) rfl ?_
  refine ow_stC X10 hx hZ e10 V_b10 0 rfl (by decide) (by decide) (Nat.le_of_ble_eq_true rfl) (hb hby d_m5_58) (pc' := 59) rfl (fun T11 h11 X11 e11 W11 V11 => ?_)
  obtain ⟨y11, hy11⟩ : ∃ y : Int32, y = (nar .char z2) := ⟨_, rfl⟩
  rw [← hy11] at W11 V11
  have ay11 : (y11.toInt - z2.toInt) % 65536 = 0 ∧ 0 ≤ y11.toInt ∧ y11.toInt < 65536 := by rw [hy11]; exact c_i2c z2
  rw [show y11 = z2 from ow_eq (by omega)] at W11 V11
  have V_b10_11 : Arv Z h11 b10 k10 .char (1 : Int32) [(.int z2)] (.int (0 : Int32)) := V11
  have E_b9_11 := E_b9_10.wr W11
  have F_b9_coder_11 := F_b9_coder_10.other W11 (Or.inl ne_b9_b10)
  have F_b9_value_11 := F_b9_value_10.other W11 (Or.inl ne_b9_b10)
  have E_b10_11 := A10.wr W11
  have Zs11 : n0 ≤ h11.size := Nat.le_trans Zs10 (Keep.of_wr W11).1
  have K11 := K10.wr W11 (Or.inr sz_b10)
  have N11 := Fr.snoc X11 N0 g_b10
  have hp12 : ∀ c ∈ ([z2] : List Int32), ¬ c < 0 ∧ ¬ (255 : Int32) < c := fun c hc => by
    simp only [List.mem_cons, List.not_mem_nil, or_false] at hc
    rw [hc]; exact ⟨ow_nlt (y := (0 : Int32)) (show ¬ z2.toInt < 0 from by omega), ow_nlt (x := (255 : Int32)) (show ¬ 255 < z2.toInt from by omega)⟩
  have hws12 : ∀ d ∈ StrChars.Road.words, d.before a0 Z = true := fun d hd => hw d ((by decide +kernel : ∀ d ∈ StrChars.Road.words, d ∈ tables_1) d hd)
  refine ow_callIB X11 hx hZ rfl hown (hw _ (List.mem_of_getElem? (i := 12) rfl)) (hw _ (List.mem_of_getElem? (i := 13) rfl)) (hw _ (List.mem_of_getElem? (i := 14) rfl)) (by decide) (StrChars.Road.backV (W := 1) hZ hws12 (kI := 4) (hw _ (List.mem_of_getElem? (i := 9) rfl)) (x := b9) (b := b10) (cs := [z2]) (bs := ([z2] : List Int32).map (fun c => c.toInt8.toInt32)) (n := 1) (n0 := n0) g_b9 Zs11 E_b9_11 F_b9_value_11 F_b9_coder_11 V_b10_11 (ow_staKeep S_cs K11 all0) hzc rfl rfl (by decide) (by decide) hp12 rfl (by decide) (by decide)) e11 (by decide) (by decide) [(.ref b10)] (by rw [hml]; rfl) pd_1 rfl rfl rfl (Nat.le_of_eq rfl) (hb hby d_m5_59) (pc' := 62) rfl (fun v12 T12 L12 hQ12 X12 => ?_)
  have hQ12 := ow_qv hQ12
  obtain ⟨b12, kb_12, rfl, Nc12, Kc12, P12_0, P12_1, P12_2, P12_3, P12_4, P12_5, P12_6⟩ := hQ12
  have E_b10_12 := E_b10_11.keep Kc12
  have V_b10_12 := V_b10_11.keep Kc12 (ninS (Ne.symm ne_b9_b10) nin0)
  have ne_b9_b12 : b9 ≠ b12 := Nat.ne_of_lt (Nat.lt_of_lt_of_le E_b9_11.lt P12_5)
  have ne_b10_b12 : b10 ≠ b12 := Nat.ne_of_lt (Nat.lt_of_lt_of_le E_b10_11.lt P12_5)
  have sz_b12 : h0.size ≤ b12 := Nat.le_trans K11.1 P12_5
  have Zs12 : n0 ≤ T12.heap.size := Nat.le_trans Zs11 Kc12.1
  have K12 := K11.trans Kc12 (allS (Or.inr sz_b9) all0)
  have N12 := Fr.app N11 Nc12
  show Ends _ _ _ _ T12 (mkF m 62 #[.val (.int pn), .val (.int pc), .val (.int z2), .val (.int z5), .val (.int z8)] [(.ref b9)])
  exact ow_retA X12 hx hret hlk rfl rfl (hb hby d_m5_62) (by decide) (by decide) (show Q_so1 Z pn pc zc h0 n0 _ T12.heap _ from ⟨b9, b12, kb_12, (z2.toInt8.toInt32), rfl, N12, K12, P12_0, P12_1, P12_2, P12_3, sz_b9, sz_b12, (show (((z2.toInt8.toInt32).toInt - pc.toInt) % 256 = 0 ∧ -128 ≤ (z2.toInt8.toInt32).toInt ∧ (z2.toInt8.toInt32).toInt < 128) from by have q0 := c_i2b z2; omega)⟩)
theorem d_jdk_43m13_15 : decode jdk_43_method_13_code 15 = .ok (.aload_n 0, 1) := by decide +kernel
theorem d_jdk_43m13_16 : decode jdk_43_method_13_code 16 = .ok (.iload_n 2, 1) := by decide +kernel
theorem d_jdk_43m13_17 : decode jdk_43_method_13_code 17 = .ok (.baload, 1) := by decide +kernel
theorem d_jdk_43m13_18 : decode jdk_43_method_13_code 18 = .ok (.aload_n 1, 1) := by decide +kernel
theorem d_jdk_43m13_19 : decode jdk_43_method_13_code 19 = .ok (.iload_n 2, 1) := by decide +kernel
theorem d_jdk_43m13_20 : decode jdk_43_method_13_code 20 = .ok (.baload, 1) := by decide +kernel
theorem d_jdk_43m13_21 : decode jdk_43_method_13_code 21 = .ok (.if_icmp .eq 5, 3) := by decide +kernel
theorem d_jdk_43m13_26 : decode jdk_43_method_13_code 26 = .ok (.iinc 2 1, 3) := by decide +kernel
theorem d_jdk_43m13_29 : decode jdk_43_method_13_code 29 = .ok (.goto (-20), 3) := by decide +kernel
set_option maxRecDepth 65536 in
set_option maxHeartbeats 40000000 in
theorem rm_eql1 (l : Launch) (Z : State) (a0 : Array Value) (hw : ∀ d ∈ tables_1, d.before a0 Z = true) (ws : List Jvm.Cond) (oa : Addr) (ob : Addr) (ka : ClassId) (kb : ClassId) (x0 : Int32) (w0 : Int32) (h0 : Heap) (V_a : Arv Z h0 oa ka (.byte) (1 : Int32) [(.int x0)] (.int (0 : Int32))) (V_b : Arv Z h0 ob kb (.byte) (1 : Int32) [(.int w0)] (.int (0 : Int32))) (he0 : x0.toInt = w0.toInt) :
    MetFree l (⟨"java/lang/StringLatin1", "equals", "([B[B)Z"⟩ : MethodName) (head1 (Jvm.Cond.code (⟨"java/lang/StringLatin1", "equals", "([B[B)Z"⟩ : MethodName) jdk_43_method_13_code 3 (some .boolean) :: ws) ({ frames := 0, cells := 0, slots := 0, locals := 0 } : Room)) (fun a_ U_ => a_ = #[(.ref oa), (.ref ob)] ∧ Z.Warmed39 U_.vm ∧ U_.heap = h0) (fun _ _ _ _ _ => True) (fun _ U_ o_ U_' => ∃ v_ L_, o_ = .returned v_ ∧ (QI (fun z => z.toInt = 1) h0) v_ U_'.heap L_ ∧ FrameEnd U_ o_ U_' L_ 0 0) := by
  refine ow_body (plainFor_of_name pn_2) ?_
  intro p e s m below meth c T0 X0 hx hZ hby hml hown hnm hret hlk e0
  refine Ends.cast (ef_eql0 m oa ob) ?_
  refine ow_aloadN X0 hx (hb hby d_jdk_43m13_0) rfl rfl (pc' := 1) rfl ?_
  refine ow_len X0 hx hZ e0 V_a (hb hby d_jdk_43m13_1) (pc' := 2) rfl ?_
  refine ow_aloadN X0 hx (hb hby d_jdk_43m13_2) rfl rfl (pc' := 3) rfl ?_
  refine ow_len X0 hx hZ e0 V_b (hb hby d_jdk_43m13_3) (pc' := 4) rfl ?_
  refine ow_icmpN X0 hx (hb hby d_jdk_43m13_4) (by decide) (pc' := 7) rfl ?_
  refine ow_iconst X0 hx (z := (0 : Int32)) (hb hby d_jdk_43m13_7) rfl (pc' := 8) rfl ?_
  refine ow_istoreN X0 hx (Ls' := #[.val (.ref oa), .val (.ref ob), .val (.int (0 : Int32))]) (hb hby d_jdk_43m13_8) rfl (pc' := 9) rfl ?_
  refine ow_iloadN X0 hx (hb hby d_jdk_43m13_9) rfl (pc' := 10) rfl ?_
  refine ow_aloadN X0 hx (hb hby d_jdk_43m13_10) rfl rfl (pc' := 11) rfl ?_
  refine ow_len X0 hx hZ e0 V_a (hb hby d_jdk_43m13_11) (pc' := 12) rfl ?_
  refine ow_icmpN X0 hx (hb hby d_jdk_43m13_12) (by decide) (pc' := 15) rfl ?_
  refine ow_aloadN X0 hx (hb hby d_jdk_43m13_15) rfl rfl (pc' := 16) rfl ?_
  refine ow_iloadN X0 hx (hb hby d_jdk_43m13_16) rfl (pc' := 17) rfl ?_
  refine ow_ldB X0 hx hZ e0 V_a (by decide) (by decide) rfl (hb hby d_jdk_43m13_17) (pc' := 18) rfl ?_
  refine ow_aloadN X0 hx (hb hby d_jdk_43m13_18) rfl rfl (pc' := 19) rfl ?_
  refine ow_iloadN X0 hx (hb hby d_jdk_43m13_19) rfl (pc' := 20) rfl ?_
  refine ow_ldB X0 hx hZ e0 V_b (by decide) (by decide) rfl (hb hby d_jdk_43m13_20) (pc' := 21) rfl ?_
  refine ow_icmp_eq X0 hx (x0.toInt) (w0.toInt) (hb hby d_jdk_43m13_21) rfl rfl (by decide) (pt := 26) (by decide) (pf := 24) rfl (fun c21 => ?_) (fun c21 => absurd c21 (by omega))
  refine ow_iinc X0 hx (Ls' := #[.val (.ref oa), .val (.ref ob), .val (.int (0 : Int32))]) (hb hby d_jdk_43m13_26) rfl (fun z => rfl) (pc' := 29) rfl (fun z1 hz1 => ?_)
  obtain rfl : z1 = (1 : Int32) := hz1.trans (by decide)
  show Ends _ _ _ _ T0 (mkF m 29 #[.val (.ref oa), .val (.ref ob), .val (.int (1 : Int32))] [])
  refine ow_goto X0 hx (hb hby d_jdk_43m13_29) (by decide) (pc' := 9) (by decide) ?_
  refine ow_iloadN X0 hx (hb hby d_jdk_43m13_9) rfl (pc' := 10) rfl ?_
  refine ow_aloadN X0 hx (hb hby d_jdk_43m13_10) rfl rfl (pc' := 11) rfl ?_
  refine ow_len X0 hx hZ e0 V_a (hb hby d_jdk_43m13_11) (pc' := 12) rfl ?_
  refine ow_icmpY X0 hx (hb hby d_jdk_43m13_12) (by decide) (by decide) (pc' := 32) (by decide) ?_
  refine ow_iconst X0 hx (z := (1 : Int32)) (hb hby d_jdk_43m13_32) rfl (pc' := 33) rfl ?_
  exact ow_retB X0 hx hret hlk (hb hby d_jdk_43m13_33) (by decide) (by decide) (z' := (1 : Int32)) rfl ⟨(1 : Int32), rfl, (show (1 : Int) = 1 from by omega), rfl, e0⟩
set_option maxRecDepth 65536 in
set_option maxHeartbeats 40000000 in
theorem rm_eqs1 (l : Launch) (Z : State) (a0 : Array Value) (hw : ∀ d ∈ tables_1, d.before a0 Z = true) (ws : List Jvm.Cond) (o : Addr) (os : Addr) (zc : Int32) (oa : Addr) (ob : Addr) (ka : ClassId) (kb : ClassId) (x0 : Int32) (w0 : Int32) (h0 : Heap) (S_cs : Sta Z h0 "java/lang/String" "COMPACT_STRINGS" "Z" (.int zc)) (hz0 : ¬ zc.toInt = 0) (E_o : Exa Z h0 o "java/lang/String") (F_c : Fld Z h0 o "java/lang/String" "coder" "B" (.int (0 : Int32))) (F_v : Fld Z h0 o "java/lang/String" "value" "[B" (.ref oa)) (E_s : Exa Z h0 os "java/lang/String") (F_sc : Fld Z h0 os "java/lang/String" "coder" "B" (.int (0 : Int32))) (F_sv : Fld Z h0 os "java/lang/String" "value" "[B" (.ref ob)) (V_a : Arv Z h0 oa ka (.byte) (1 : Int32) [(.int x0)] (.int (0 : Int32))) (V_b : Arv Z h0 ob kb (.byte) (1 : Int32) [(.int w0)] (.int (0 : Int32))) (ne_o_os : o ≠ os) (he0 : x0.toInt = w0.toInt) :
    MetFree l (⟨"java/lang/String", "equals", "(Ljava/lang/Object;)Z"⟩ : MethodName) (head1 (Jvm.Cond.code (⟨"java/lang/String", "equals", "(Ljava/lang/Object;)Z"⟩ : MethodName) jdk_42_method_66_code 3 (some .boolean) :: ws) ({ frames := 1, cells := 0, slots := 0, locals := 14 } : Room)) (fun a_ U_ => a_ = #[(.ref o), (.ref os)] ∧ Z.Warmed39 U_.vm ∧ U_.heap = h0) (fun _ _ _ _ _ => True) (fun _ U_ o_ U_' => ∃ v_ L_, o_ = .returned v_ ∧ (QI (fun z => z.toInt = 1) h0) v_ U_'.heap L_ ∧ FrameEnd U_ o_ U_' L_ 0 0) := by
  refine ow_body (plainFor_of_name pn_1) ?_
  intro p e s m below meth c T0 X0 hx hZ hby hml hown hnm hret hlk e0
  refine Ends.cast (ef_eqs0 m o os) ?_
  refine ow_aloadN X0 hx (hb hby d_jdk_42m66_0) rfl rfl (pc' := 1) rfl ?_
  refine ow_aloadN X0 hx (hb hby d_jdk_42m66_1) rfl rfl (pc' := 2) rfl ?_
  refine ow_acmp X0 hx rfl rfl (same := false) (hb hby d_jdk_42m66_2) (decide_eq_false fun q => ne_o_os (Value.ref.inj q)) (by decide) (pc' := 7) rfl ?_
  refine ow_aloadN X0 hx (hb hby d_jdk_42m66_7) rfl rfl (pc' := 8) rfl ?_
  refine ow_instY X0 hx hZ hown (hw _ (List.mem_of_getElem? (i := 92) rfl)) e0 (Ins.self E_s) (hb hby d_jdk_42m66_8) (pc' := 11) rfl (fun T1 X1 e1 => ?_)
  refine ow_ifN X1 hx (hb hby d_jdk_42m66_11) (by decide) (pc' := 14) rfl ?_
  refine ow_aloadN X1 hx (hb hby d_jdk_42m66_14) rfl rfl (pc' := 15) rfl ?_
  refine ow_castY X1 hx hZ hown (hw _ (List.mem_of_getElem? (i := 92) rfl)) e1 (Ins.self E_s) (hb hby d_jdk_42m66_15) (pc' := 18) rfl (fun T2 X2 e2 => ?_)
  refine ow_astoreN X2 hx (Ls' := #[.val (.ref o), .val (.ref os), .val (.ref os)]) (hb hby d_jdk_42m66_18) rfl rfl (pc' := 19) rfl ?_
  refine ow_getS X2 hx hZ hown (host := "") (Or.inl (hw _ (List.mem_of_getElem? (i := 22) rfl))) Via.refl e2 S_cs (hb hby d_jdk_42m66_19) (pc' := 22) rfl (fun T3 X3 e3 => ?_)
  refine ow_if_eq X3 hx (zc.toInt) (hb hby d_jdk_42m66_22) rfl (by decide) (pt := 36) (by decide) (pf := 25) rfl (fun c22 => absurd c22 (by omega)) (fun c22 => ?_)
  refine ow_aloadN X3 hx (hb hby d_jdk_42m66_25) rfl rfl (pc' := 26) rfl ?_
  refine ow_getF X3 hx hZ hown (host := "") (Or.inl (hw _ (List.mem_of_getElem? (i := 33) rfl))) Via.refl e3 F_c (hb hby d_jdk_42m66_26) (pc' := 29) rfl (fun T4 X4 e4 => ?_)
  refine ow_aloadN X4 hx (hb hby d_jdk_42m66_29) rfl rfl (pc' := 30) rfl ?_
  refine ow_getF X4 hx hZ hown (host := "") (Or.inl (hw _ (List.mem_of_getElem? (i := 33) rfl))) Via.refl e4 F_sc (hb hby d_jdk_42m66_30) (pc' := 33) rfl (fun T5 X5 e5 => ?_)
  refine ow_icmpN X5 hx (hb hby d_jdk_42m66_33) (by decide) (pc' := 36) rfl ?_
  refine ow_aloadN X5 hx (hb hby d_jdk_42m66_36) rfl rfl (pc' := 37) rfl ?_
  refine ow_getF X5 hx hZ hown (host := "") (Or.inl (hw _ (List.mem_of_getElem? (i := 35) rfl))) Via.refl e5 F_v (hb hby d_jdk_42m66_37) (pc' := 40) rfl (fun T6 X6 e6 => ?_)
  refine ow_aloadN X6 hx (hb hby d_jdk_42m66_40) rfl rfl (pc' := 41) rfl ?_
  refine ow_getF X6 hx hZ hown (host := "") (Or.inl (hw _ (List.mem_of_getElem? (i := 35) rfl))) Via.refl e6 F_sv (hb hby d_jdk_42m66_41) (pc' := 44) rfl (fun T7 X7 e7 => ?_)
  refine ow_callPI X7 hx hZ hown (hw _ (List.mem_of_getElem? (i := 93) rfl)) (hw _ (List.mem_of_getElem? (i := 94) rfl)) (hw _ (List.mem_of_getElem? (i := 95) rfl)) (hw _ (List.mem_of_getElem? (i := 96) rfl)) (by decide) (rm_eql1 l Z a0 hw [] oa ob ka kb x0 w0 h0 V_a V_b (by first | assumption | decide | omega)) e7 0 (by decide) (by decide) (by decide) (by decide) [(.ref oa), (.ref ob)] (by rw [hml]; rfl) pd_2 rfl rfl rfl (Nat.le_of_eq rfl) (hb hby d_jdk_42m66_44) (pc' := 47) rfl (fun z8 T8 hz8 X8 e8 => ?_)
  have az8 : z8.toInt = 1 := hz8
  have rz8 := rng32 z8
  refine ow_if_eq X8 hx (z8.toInt) (hb hby d_jdk_42m66_47) rfl (by decide) (pt := 54) (by decide) (pf := 50) rfl (fun c47 => absurd c47 (by omega)) (fun c47 => ?_)
  refine ow_iconst X8 hx (z := (1 : Int32)) (hb hby d_jdk_42m66_50) rfl (pc' := 51) rfl ?_
  refine ow_goto X8 hx (hb hby d_jdk_42m66_51) (by decide) (pc' := 55) (by decide) ?_
  exact ow_retB X8 hx hret hlk (hb hby d_jdk_42m66_55) (by decide) (by decide) (z' := (1 : Int32)) rfl ⟨(1 : Int32), rfl, (show (1 : Int) = 1 from by omega), rfl, e8⟩
theorem d_m5_63 : decode method_5_code 63 = .ok (.iload_n 0, 1) := by decide +kernel
theorem d_m5_64 : decode method_5_code 64 = .ok (.iconst 2, 1) := by decide +kernel
theorem d_m5_65 : decode method_5_code 65 = .ok (.if_icmp .ne 22, 3) := by decide +kernel
theorem d_m5_68 : decode method_5_code 68 = .ok (.new 43, 3) := by decide +kernel
theorem d_m5_71 : decode method_5_code 71 = .ok (.dup, 1) := by decide +kernel
theorem d_m5_72 : decode method_5_code 72 = .ok (.iconst 2, 1) := by decide +kernel
theorem d_m5_73 : decode method_5_code 73 = .ok (.newarray .char, 2) := by decide +kernel
theorem d_m5_75 : decode method_5_code 75 = .ok (.dup, 1) := by decide +kernel
theorem d_m5_76 : decode method_5_code 76 = .ok (.iconst 0, 1) := by decide +kernel
theorem d_m5_77 : decode method_5_code 77 = .ok (.iload_n 2, 1) := by decide +kernel
theorem d_m5_78 : decode method_5_code 78 = .ok (.castore, 1) := by decide +kernel
theorem d_m5_79 : decode method_5_code 79 = .ok (.dup, 1) := by decide +kernel
theorem d_m5_80 : decode method_5_code 80 = .ok (.iconst 1, 1) := by decide +kernel
theorem d_m5_81 : decode method_5_code 81 = .ok (.iload_n 3, 1) := by decide +kernel
theorem d_m5_82 : decode method_5_code 82 = .ok (.castore, 1) := by decide +kernel
theorem d_m5_83 : decode method_5_code 83 = .ok (.invokespecial 48, 3) := by decide +kernel
theorem d_m5_86 : decode method_5_code 86 = .ok (.areturn, 1) := by decide +kernel
def Q_so2 (Z : State) (pn : Int32) (pc : Int32) (zc : Int32) (h0 : Heap) (n0 : Nat) (v : Option Value) (h : Heap) (L : List Loc) : Prop := ∃ (ow : Addr), ∃ (ot : Addr), ∃ (kt : ClassId), ∃ (x0 : Int32), ∃ (x1 : Int32), (v = some (.ref ow)) ∧ (Fr n0 L) ∧ (Keep h0 h []) ∧ (Exa Z h ow "java/lang/String") ∧ (Fld Z h ow "java/lang/String" "coder" "B" (.int (0 : Int32))) ∧ (Fld Z h ow "java/lang/String" "value" "[B" (.ref ot)) ∧ (Arv Z h ot kt (.byte) (2 : Int32) [(.int x0), (.int x1)] (.int (0 : Int32))) ∧ (h0.size ≤ ow) ∧ (h0.size ≤ ot) ∧ (((x0.toInt - pc.toInt) % 256 = 0 ∧ -128 ≤ x0.toInt ∧ x0.toInt < 128) ∧ ((x1.toInt - (pc.toInt % 4294967296) / 256) % 256 = 0 ∧ -128 ≤ x1.toInt ∧ x1.toInt < 128))
set_option maxRecDepth 65536 in
set_option maxHeartbeats 40000000 in
theorem rm_so2 (l : Launch) (Z : State) (a0 : Array Value) (hw : ∀ d ∈ tables_1, d.before a0 Z = true) (ws : List Jvm.Cond) (pn : Int32) (pc : Int32) (zc : Int32) (h0 : Heap) (n0 : Nat) (Z0 : n0 ≤ h0.size) (S_cs : Sta Z h0 "java/lang/String" "COMPACT_STRINGS" "Z" (.int zc)) (hzc : ¬ zc = 0) (hn : pn.toInt = 2) :
    MetFree l (⟨"com/example/inchworm/inchworm/handler/ResultReplacePinLaw", "stringOf", "(II)Ljava/lang/String;"⟩ : MethodName) (head1 (Jvm.Cond.code (⟨"com/example/inchworm/inchworm/handler/ResultReplacePinLaw", "stringOf", "(II)Ljava/lang/String;"⟩ : MethodName) method_5_code 5 (some (.object "java/lang/String")) :: ws) ({ frames := 4, cells := 3, slots := 8, locals := 66 } : Room)) (fun a_ U_ => a_ = #[(.int pn), (.int pc)] ∧ Z.Warmed39 U_.vm ∧ U_.heap = h0) (fun _ _ _ _ _ => True) (fun _ U_ o_ U_' => ∃ v_ L_, o_ = .returned v_ ∧ (Q_so2 Z pn pc zc h0 n0) v_ U_'.heap L_ ∧ FrameEnd U_ o_ U_' L_ 3 8) := by
  refine ow_body (plainFor_of_name pn_0) ?_
  intro p e s m below meth c T0 X0 hx hZ hby hml hown hnm hret hlk e0
  have N0 := Fr.nil n0
  refine Ends.cast (ef_so0a m pn pc) ?_
  have r_pn := rng32 pn
  have r_pc := rng32 pc
  refine ow_iloadN X0 hx (hb hby d_m5_0) rfl (pc' := 1) rfl ?_
  refine ow_sipush X0 hx (z := (255 : Int32)) (hb hby d_m5_1) rfl (pc' := 4) rfl ?_
  refine ow_iand X0 hx (hb hby d_m5_4) (pc' := 5) rfl (fun z1 hz1 => ?_)
  have az1 : z1.toInt = pc.toInt % 256 := by rw [hz1]; exact c_mask pc (255 : Int32) 8 (by decide) (by decide)
  have rz1 := rng32 z1
  refine ow_i2c X0 hx (hb hby d_m5_5) (pc' := 6) rfl (fun z2 hz2 => ?_)
  have az2 : (z2.toInt - z1.toInt) % 65536 = 0 ∧ 0 ≤ z2.toInt ∧ z2.toInt < 65536 := by rw [hz2]; exact c_i2c z1
  have rz2 := rng32 z2
  refine ow_istoreN X0 hx (Ls' := #[.val (.int pn), .val (.int pc), .val (.int z2), .unset, .unset]) (hb hby d_m5_6) rfl (pc' := 7) rfl ?_
  refine ow_iloadN X0 hx (hb hby d_m5_7) rfl (pc' := 8) rfl ?_
  refine ow_bipush X0 hx (z := (8 : Int32)) (hb hby d_m5_8) rfl (pc' := 10) rfl ?_
  refine ow_iushr X0 hx (hb hby d_m5_10) (pc' := 11) rfl (fun z3 hz3 => ?_)
  have az3 : z3.toInt = (pc.toInt % 4294967296) / 256 := by rw [hz3]; exact c_iushr pc (8 : Int32) 8 (by decide) (by decide)
  have rz3 := rng32 z3
  refine ow_sipush X0 hx (z := (255 : Int32)) (hb hby d_m5_11) rfl (pc' := 14) rfl ?_
  refine ow_iand X0 hx (hb hby d_m5_14) (pc' := 15) rfl (fun z4 hz4 => ?_)
  have az4 : z4.toInt = z3.toInt % 256 := by rw [hz4]; exact c_mask z3 (255 : Int32) 8 (by decide) (by decide)
  have rz4 := rng32 z4
  refine ow_i2c X0 hx (hb hby d_m5_15) (pc' := 16) rfl (fun z5 hz5 => ?_)
  have az5 : (z5.toInt - z4.toInt) % 65536 = 0 ∧ 0 ≤ z5.toInt ∧ z5.toInt < 65536 := by rw [hz5]; exact c_i2c z4
  have rz5 := rng32 z5
  refine ow_istoreN X0 hx (Ls' := #[.val (.int pn), .val (.int pc), .val (.int z2), .val (.int z5), .unset]) (hb hby d_m5_16) rfl (pc' := 17) rfl ?_
  refine ow_iloadN X0 hx (hb hby d_m5_17) rfl (pc' := 18) rfl ?_
  refine ow_bipush X0 hx (z := (16 : Int32)) (hb hby d_m5_18) rfl (pc' := 20) rfl ?_
  refine ow_iushr X0 hx (hb hby d_m5_20) (pc' := 21) rfl (fun z6 hz6 => ?_)
  have az6 : z6.toInt = (pc.toInt % 4294967296) / 65536 := by rw [hz6]; exact c_iushr pc (16 : Int32) 16 (by decide) (by decide)
  have rz6 := rng32 z6
  refine ow_sipush X0 hx (z := (255 : Int32)) (hb hby d_m5_21) rfl (pc' := 24) rfl ?_
  refine ow_iand X0 hx (hb hby d_m5_24) (pc' := 25) rfl (fun z7 hz7 => ?_)
  have az7 : z7.toInt = z6.toInt % 256 := by rw [hz7]; exact c_mask z6 (255 : Int32) 8 (by decide) (by decide)
  have rz7 := rng32 z7
  refine ow_i2c X0 hx (hb hby d_m5_25) (pc' := 26) rfl (fun z8 hz8 => ?_)
  have az8 : (z8.toInt - z7.toInt) % 65536 = 0 ∧ 0 ≤ z8.toInt ∧ z8.toInt < 65536 := by rw [hz8]; exact c_i2c z7
  have rz8 := rng32 z8
  refine ow_istore X0 hx (Ls' := #[.val (.int pn), .val (.int pc), .val (.int z2), .val (.int z5), .val (.int z8)]) (hb hby d_m5_26) rfl (pc' := 28) rfl ?_
  refine ow_iloadN X0 hx (hb hby d_m5_28) rfl (pc' := 29) rfl ?_
  refine ow_if_ne X0 hx (pn.toInt) (hb hby d_m5_29) rfl (by decide) (pt := 43) (by decide) (pf := 32) rfl (fun c29 => ?_) (fun c29 => absurd c29 (by omega))
  refine ow_iloadN X0 hx (hb hby d_m5_43) rfl (pc' := 44) rfl ?_
  refine ow_iconst X0 hx (z := (1 : Int32)) (hb hby d_m5_44) rfl (pc' := 45) rfl ?_
  refine ow_icmp_ne X0 hx (pn.toInt) ((1 : Int)) (hb hby d_m5_45) rfl rfl (by decide) (pt := 63) (by decide) (pf := 48) rfl (fun c45 => ?_) (fun c45 => absurd c45 (by omega))
  refine ow_iloadN X0 hx (hb hby d_m5_63) rfl (pc' := 64) rfl ?_
  refine ow_iconst X0 hx (z := (2 : Int32)) (hb hby d_m5_64) rfl (pc' := 65) rfl ?_
  refine ow_icmp_ne X0 hx (pn.toInt) ((2 : Int)) (hb hby d_m5_65) rfl rfl (by decide) (pt := 87) (by decide) (pf := 68) rfl (fun c65 => absurd c65 (by omega)) (fun c65 => ?_)
  refine ow_new X0 hx hZ hown (hw _ (List.mem_of_getElem? (i := 8) rfl)) (hw _ (List.mem_of_getElem? (i := 9) rfl)) (hw _ (List.mem_of_getElem? (i := 10) rfl)) e0 (hb hby d_m5_68) (by decide) (by decide) (pc' := 71) rfl (fun T9 h9 b9 g9 X9 e9 E9 A9 D9 => ?_)
  have g_b9 : n0 ≤ b9 := Nat.le_trans Z0 (Nat.le_of_eq g9.symm)
  have sz_b9 : h0.size ≤ b9 := Nat.le_trans (Keep.refl h0 []).1 (Nat.le_of_eq g9.symm)
  have Zs9 : n0 ≤ h9.size := Nat.le_trans Z0 E9.1
  have K9 := (Keep.refl h0 []).ext E9
  have F_b9_coder : Fld Z h9 b9 "java/lang/String" "coder" "B" (.int (0 : Int32)) := D9 (Or.inr (hw _ (List.mem_of_getElem? (i := 34) rfl))) (ty := .byte) (by decide)
  have F_b9_value : Fld Z h9 b9 "java/lang/String" "value" "[B" .null := D9 (Or.inr (hw _ (List.mem_of_getElem? (i := 36) rfl))) (ty := (.array .byte)) (by decide)
  refine ow_dup X9 hx (hb hby d_m5_71) rfl (pc' := 72) rfl ?_
  refine ow_iconst X9 hx (z := (2 : Int32)) (hb hby d_m5_72) rfl (pc' := 73) rfl ?_
  refine ow_newPE X9 hx hZ (hw _ (List.mem_of_getElem? (i := 11) rfl)) e9 (hb hby d_m5_73) (by decide) 2 (by decide) (by decide) (by decide) (by decide) (ad := "[C") (by decide) (pc' := 75) rfl (fun T10 h10 b10 k10 g10 X10 e10 E10 V10 A10 => ?_)
  have ne_b9_b10 : b9 ≠ b10 := Nat.ne_of_lt (Nat.lt_of_lt_of_le A9.lt (Nat.le_of_eq g10.symm))
  have g_b10 : n0 ≤ b10 := Nat.le_trans Zs9 (Nat.le_of_eq g10.symm)
  have sz_b10 : h0.size ≤ b10 := Nat.le_trans K9.1 (Nat.le_of_eq g10.symm)
  have E_b9_10 := A9.ext E10
  have F_b9_coder_10 := F_b9_coder.ext E10
  have F_b9_value_10 := F_b9_value.ext E10
  have Zs10 : n0 ≤ h10.size := Nat.le_trans Zs9 E10.1
  have K10 := K9.ext E10
  have V_b10 : Arv Z h10 b10 k10 .char (2 : Int32) [(.int (0 : Int32)), (.int (0 : Int32))] (.int (0 : Int32)) := V10.pad (pad_rep [] (.int (0 : Int32)) 2)
  refine ow_dup X10 hx (hb hby d_m5_75) rfl (pc' := 76) rfl ?_
  refine ow_iconst X10 hx (z := (0 : Int32)) (hb hby d_m5_76) rfl (pc' := 77) rfl ?_
  refine ow_iloadN X10 hx (hb hby d_m5_77) rfl (pc' := 78) rfl ?_
  refine ow_stC X10 hx hZ e10 V_b10 0 rfl (by decide) (by decide) (Nat.le_of_ble_eq_true rfl) (hb hby d_m5_78) (pc' := 79) rfl (fun T11 h11 X11 e11 W11 V11 => ?_)
  obtain ⟨y11, hy11⟩ : ∃ y : Int32, y = (nar .char z2) := ⟨_, rfl⟩
  rw [← hy11] at W11 V11
  have ay11 : (y11.toInt - z2.toInt) % 65536 = 0 ∧ 0 ≤ y11.toInt ∧ y11.toInt < 65536 := by rw [hy11]; exact c_i2c z2
  rw [show y11 = z2 from ow_eq (by omega)] at W11 V11
  have V_b10_11 : Arv Z h11 b10 k10 .char (2 : Int32) [(.int z2), (.int (0 : Int32))] (.int (0 : Int32)) := V11
  have E_b9_11 := E_b9_10.wr W11
  have F_b9_coder_11 := F_b9_coder_10.other W11 (Or.inl ne_b9_b10)
  have F_b9_value_11 := F_b9_value_10.other W11 (Or.inl ne_b9_b10)
  have E_b10_11 := A10.wr W11
  have Zs11 : n0 ≤ h11.size := Nat.le_trans Zs10 (Keep.of_wr W11).1
  have K11 := K10.wr W11 (Or.inr sz_b10)
  have N11 := Fr.snoc X11 N0 g_b10
  refine ow_dup X11 hx (hb hby d_m5_79) rfl (pc' := 80) rfl ?_
  refine ow_iconst X11 hx (z := (1 : Int32)) (hb hby d_m5_80) rfl (pc' := 81) rfl ?_
  refine ow_iloadN X11 hx (hb hby d_m5_81) rfl (pc' := 82) rfl ?_
  refine ow_stC X11 hx hZ e11 V_b10_11 1 rfl (by decide) (by decide) (Nat.le_of_ble_eq_true rfl) (hb hby d_m5_82) (pc' := 83) rfl (fun T12 h12 X12 e12 W12 V12 => ?_)
  obtain ⟨y12, hy12⟩ : ∃ y : Int32, y = (nar .char z5) := ⟨_, rfl⟩
  rw [← hy12] at W12 V12
  have ay12 : (y12.toInt - z5.toInt) % 65536 = 0 ∧ 0 ≤ y12.toInt ∧ y12.toInt < 65536 := by rw [hy12]; exact c_i2c z5
  rw [show y12 = z5 from ow_eq (by omega)] at W12 V12
  have V_b10_12 : Arv Z h12 b10 k10 .char (2 : Int32) [(.int z2), (.int z5)] (.int (0 : Int32)) := V12
  have E_b9_12 := E_b9_11.wr W12
  have F_b9_coder_12 := F_b9_coder_11.other W12 (Or.inl ne_b9_b10)
  have F_b9_value_12 := F_b9_value_11.other W12 (Or.inl ne_b9_b10)
  have E_b10_12 := E_b10_11.wr W12
  have Zs12 : n0 ≤ h12.size := Nat.le_trans Zs11 (Keep.of_wr W12).1
  have K12 := K11.wr W12 (Or.inr sz_b10)
  have N12 := Fr.snoc X12 N11 g_b10
  have hp13 : ∀ c ∈ ([z2, z5] : List Int32), ¬ c < 0 ∧ ¬ (255 : Int32) < c := fun c hc => by
    simp only [List.mem_cons, List.not_mem_nil, or_false] at hc
    rcases hc with hc | hc
    · rw [hc]; exact ⟨ow_nlt (y := (0 : Int32)) (show ¬ z2.toInt < 0 from by omega), ow_nlt (x := (255 : Int32)) (show ¬ 255 < z2.toInt from by omega)⟩
    · rw [hc]; exact ⟨ow_nlt (y := (0 : Int32)) (show ¬ z5.toInt < 0 from by omega), ow_nlt (x := (255 : Int32)) (show ¬ 255 < z5.toInt from by omega)⟩
  have hws13 : ∀ d ∈ StrChars.Road.words, d.before a0 Z = true := fun d hd => hw d ((by decide +kernel : ∀ d ∈ StrChars.Road.words, d ∈ tables_1) d hd)
  refine ow_callIB X12 hx hZ rfl hown (hw _ (List.mem_of_getElem? (i := 12) rfl)) (hw _ (List.mem_of_getElem? (i := 13) rfl)) (hw _ (List.mem_of_getElem? (i := 14) rfl)) (by decide) (StrChars.Road.backV (W := 1) hZ hws13 (kI := 4) (hw _ (List.mem_of_getElem? (i := 9) rfl)) (x := b9) (b := b10) (cs := [z2, z5]) (bs := ([z2, z5] : List Int32).map (fun c => c.toInt8.toInt32)) (n := 2) (n0 := n0) g_b9 Zs12 E_b9_12 F_b9_value_12 F_b9_coder_12 V_b10_12 (ow_staKeep S_cs K12 all0) hzc rfl rfl (by decide) (by decide) hp13 rfl (by decide) (by decide)) e12 (by decide) (by decide) [(.ref b10)] (by rw [hml]; rfl) pd_1 rfl rfl rfl (Nat.le_of_eq rfl) (hb hby d_m5_83) (pc' := 86) rfl (fun v13 T13 L13 hQ13 X13 => ?_)
  have hQ13 := ow_qv hQ13
  obtain ⟨b13, kb_13, rfl, Nc13, Kc13, P13_0, P13_1, P13_2, P13_3, P13_4, P13_5, P13_6⟩ := hQ13
  have E_b10_13 := E_b10_12.keep Kc13
  have V_b10_13 := V_b10_12.keep Kc13 (ninS (Ne.symm ne_b9_b10) nin0)
  have ne_b9_b13 : b9 ≠ b13 := Nat.ne_of_lt (Nat.lt_of_lt_of_le E_b9_12.lt P13_5)
  have ne_b10_b13 : b10 ≠ b13 := Nat.ne_of_lt (Nat.lt_of_lt_of_le E_b10_12.lt P13_5)
  have sz_b13 : h0.size ≤ b13 := Nat.le_trans K12.1 P13_5
  have Zs13 : n0 ≤ T13.heap.size := Nat.le_trans Zs12 Kc13.1
  have K13 := K12.trans Kc13 (allS (Or.inr sz_b9) all0)
  have N13 := Fr.app N12 Nc13
  show Ends _ _ _ _ T13 (mkF m 86 #[.val (.int pn), .val (.int pc), .val (.int z2), .val (.int z5), .val (.int z8)] [(.ref b9)])
  exact ow_retA X13 hx hret hlk rfl rfl (hb hby d_m5_86) (by decide) (by decide) (show Q_so2 Z pn pc zc h0 n0 _ T13.heap _ from ⟨b9, b13, kb_13, (z2.toInt8.toInt32), (z5.toInt8.toInt32), rfl, N13, K13, P13_0, P13_1, P13_2, P13_3, sz_b9, sz_b13, (show (((z2.toInt8.toInt32).toInt - pc.toInt) % 256 = 0 ∧ -128 ≤ (z2.toInt8.toInt32).toInt ∧ (z2.toInt8.toInt32).toInt < 128) ∧ (((z5.toInt8.toInt32).toInt - (pc.toInt % 4294967296) / 256) % 256 = 0 ∧ -128 ≤ (z5.toInt8.toInt32).toInt ∧ (z5.toInt8.toInt32).toInt < 128) from by have q0 := c_i2b z2; have q1 := c_i2b z5; omega)⟩)
set_option maxRecDepth 65536 in
set_option maxHeartbeats 40000000 in
theorem rm_eql2 (l : Launch) (Z : State) (a0 : Array Value) (hw : ∀ d ∈ tables_1, d.before a0 Z = true) (ws : List Jvm.Cond) (oa : Addr) (ob : Addr) (ka : ClassId) (kb : ClassId) (x0 : Int32) (x1 : Int32) (w0 : Int32) (w1 : Int32) (h0 : Heap) (V_a : Arv Z h0 oa ka (.byte) (2 : Int32) [(.int x0), (.int x1)] (.int (0 : Int32))) (V_b : Arv Z h0 ob kb (.byte) (2 : Int32) [(.int w0), (.int w1)] (.int (0 : Int32))) (he0 : x0.toInt = w0.toInt) (he1 : x1.toInt = w1.toInt) :
    MetFree l (⟨"java/lang/StringLatin1", "equals", "([B[B)Z"⟩ : MethodName) (head1 (Jvm.Cond.code (⟨"java/lang/StringLatin1", "equals", "([B[B)Z"⟩ : MethodName) jdk_43_method_13_code 3 (some .boolean) :: ws) ({ frames := 0, cells := 0, slots := 0, locals := 0 } : Room)) (fun a_ U_ => a_ = #[(.ref oa), (.ref ob)] ∧ Z.Warmed39 U_.vm ∧ U_.heap = h0) (fun _ _ _ _ _ => True) (fun _ U_ o_ U_' => ∃ v_ L_, o_ = .returned v_ ∧ (QI (fun z => z.toInt = 1) h0) v_ U_'.heap L_ ∧ FrameEnd U_ o_ U_' L_ 0 0) := by
  refine ow_body (plainFor_of_name pn_2) ?_
  intro p e s m below meth c T0 X0 hx hZ hby hml hown hnm hret hlk e0
  refine Ends.cast (ef_eql0 m oa ob) ?_
  refine ow_aloadN X0 hx (hb hby d_jdk_43m13_0) rfl rfl (pc' := 1) rfl ?_
  refine ow_len X0 hx hZ e0 V_a (hb hby d_jdk_43m13_1) (pc' := 2) rfl ?_
  refine ow_aloadN X0 hx (hb hby d_jdk_43m13_2) rfl rfl (pc' := 3) rfl ?_
  refine ow_len X0 hx hZ e0 V_b (hb hby d_jdk_43m13_3) (pc' := 4) rfl ?_
  refine ow_icmpN X0 hx (hb hby d_jdk_43m13_4) (by decide) (pc' := 7) rfl ?_
  refine ow_iconst X0 hx (z := (0 : Int32)) (hb hby d_jdk_43m13_7) rfl (pc' := 8) rfl ?_
  refine ow_istoreN X0 hx (Ls' := #[.val (.ref oa), .val (.ref ob), .val (.int (0 : Int32))]) (hb hby d_jdk_43m13_8) rfl (pc' := 9) rfl ?_
  refine ow_iloadN X0 hx (hb hby d_jdk_43m13_9) rfl (pc' := 10) rfl ?_
  refine ow_aloadN X0 hx (hb hby d_jdk_43m13_10) rfl rfl (pc' := 11) rfl ?_
  refine ow_len X0 hx hZ e0 V_a (hb hby d_jdk_43m13_11) (pc' := 12) rfl ?_
  refine ow_icmpN X0 hx (hb hby d_jdk_43m13_12) (by decide) (pc' := 15) rfl ?_
  refine ow_aloadN X0 hx (hb hby d_jdk_43m13_15) rfl rfl (pc' := 16) rfl ?_
  refine ow_iloadN X0 hx (hb hby d_jdk_43m13_16) rfl (pc' := 17) rfl ?_
  refine ow_ldB X0 hx hZ e0 V_a (by decide) (by decide) rfl (hb hby d_jdk_43m13_17) (pc' := 18) rfl ?_
  refine ow_aloadN X0 hx (hb hby d_jdk_43m13_18) rfl rfl (pc' := 19) rfl ?_
  refine ow_iloadN X0 hx (hb hby d_jdk_43m13_19) rfl (pc' := 20) rfl ?_
  refine ow_ldB X0 hx hZ e0 V_b (by decide) (by decide) rfl (hb hby d_jdk_43m13_20) (pc' := 21) rfl ?_
  refine ow_icmp_eq X0 hx (x0.toInt) (w0.toInt) (hb hby d_jdk_43m13_21) rfl rfl (by decide) (pt := 26) (by decide) (pf := 24) rfl (fun c21 => ?_) (fun c21 => absurd c21 (by omega))
  refine ow_iinc X0 hx (Ls' := #[.val (.ref oa), .val (.ref ob), .val (.int (0 : Int32))]) (hb hby d_jdk_43m13_26) rfl (fun z => rfl) (pc' := 29) rfl (fun z1 hz1 => ?_)
  obtain rfl : z1 = (1 : Int32) := hz1.trans (by decide)
  show Ends _ _ _ _ T0 (mkF m 29 #[.val (.ref oa), .val (.ref ob), .val (.int (1 : Int32))] [])
  refine ow_goto X0 hx (hb hby d_jdk_43m13_29) (by decide) (pc' := 9) (by decide) ?_
  refine ow_iloadN X0 hx (hb hby d_jdk_43m13_9) rfl (pc' := 10) rfl ?_
  refine ow_aloadN X0 hx (hb hby d_jdk_43m13_10) rfl rfl (pc' := 11) rfl ?_
  refine ow_len X0 hx hZ e0 V_a (hb hby d_jdk_43m13_11) (pc' := 12) rfl ?_
  refine ow_icmpN X0 hx (hb hby d_jdk_43m13_12) (by decide) (pc' := 15) rfl ?_
  refine ow_aloadN X0 hx (hb hby d_jdk_43m13_15) rfl rfl (pc' := 16) rfl ?_
  refine ow_iloadN X0 hx (hb hby d_jdk_43m13_16) rfl (pc' := 17) rfl ?_
  refine ow_ldB X0 hx hZ e0 V_a (by decide) (by decide) rfl (hb hby d_jdk_43m13_17) (pc' := 18) rfl ?_
  refine ow_aloadN X0 hx (hb hby d_jdk_43m13_18) rfl rfl (pc' := 19) rfl ?_
  refine ow_iloadN X0 hx (hb hby d_jdk_43m13_19) rfl (pc' := 20) rfl ?_
  refine ow_ldB X0 hx hZ e0 V_b (by decide) (by decide) rfl (hb hby d_jdk_43m13_20) (pc' := 21) rfl ?_
  refine ow_icmp_eq X0 hx (x1.toInt) (w1.toInt) (hb hby d_jdk_43m13_21) rfl rfl (by decide) (pt := 26) (by decide) (pf := 24) rfl (fun c21 => ?_) (fun c21 => absurd c21 (by omega))
  refine ow_iinc X0 hx (Ls' := #[.val (.ref oa), .val (.ref ob), .val (.int (1 : Int32))]) (hb hby d_jdk_43m13_26) rfl (fun z => rfl) (pc' := 29) rfl (fun z2 hz2 => ?_)
  obtain rfl : z2 = (2 : Int32) := hz2.trans (by decide)
  show Ends _ _ _ _ T0 (mkF m 29 #[.val (.ref oa), .val (.ref ob), .val (.int (2 : Int32))] [])
  refine ow_goto X0 hx (hb hby d_jdk_43m13_29) (by decide) (pc' := 9) (by decide) ?_
  refine ow_iloadN X0 hx (hb hby d_jdk_43m13_9) rfl (pc' := 10) rfl ?_
  refine ow_aloadN X0 hx (hb hby d_jdk_43m13_10) rfl rfl (pc' := 11) rfl ?_
  refine ow_len X0 hx hZ e0 V_a (hb hby d_jdk_43m13_11) (pc' := 12) rfl ?_
  refine ow_icmpY X0 hx (hb hby d_jdk_43m13_12) (by decide) (by decide) (pc' := 32) (by decide) ?_
  refine ow_iconst X0 hx (z := (1 : Int32)) (hb hby d_jdk_43m13_32) rfl (pc' := 33) rfl ?_
  exact ow_retB X0 hx hret hlk (hb hby d_jdk_43m13_33) (by decide) (by decide) (z' := (1 : Int32)) rfl ⟨(1 : Int32), rfl, (show (1 : Int) = 1 from by omega), rfl, e0⟩
set_option maxRecDepth 65536 in
set_option maxHeartbeats 40000000 in
theorem rm_eqs2 (l : Launch) (Z : State) (a0 : Array Value) (hw : ∀ d ∈ tables_1, d.before a0 Z = true) (ws : List Jvm.Cond) (o : Addr) (os : Addr) (zc : Int32) (oa : Addr) (ob : Addr) (ka : ClassId) (kb : ClassId) (x0 : Int32) (x1 : Int32) (w0 : Int32) (w1 : Int32) (h0 : Heap) (S_cs : Sta Z h0 "java/lang/String" "COMPACT_STRINGS" "Z" (.int zc)) (hz0 : ¬ zc.toInt = 0) (E_o : Exa Z h0 o "java/lang/String") (F_c : Fld Z h0 o "java/lang/String" "coder" "B" (.int (0 : Int32))) (F_v : Fld Z h0 o "java/lang/String" "value" "[B" (.ref oa)) (E_s : Exa Z h0 os "java/lang/String") (F_sc : Fld Z h0 os "java/lang/String" "coder" "B" (.int (0 : Int32))) (F_sv : Fld Z h0 os "java/lang/String" "value" "[B" (.ref ob)) (V_a : Arv Z h0 oa ka (.byte) (2 : Int32) [(.int x0), (.int x1)] (.int (0 : Int32))) (V_b : Arv Z h0 ob kb (.byte) (2 : Int32) [(.int w0), (.int w1)] (.int (0 : Int32))) (ne_o_os : o ≠ os) (he0 : x0.toInt = w0.toInt) (he1 : x1.toInt = w1.toInt) :
    MetFree l (⟨"java/lang/String", "equals", "(Ljava/lang/Object;)Z"⟩ : MethodName) (head1 (Jvm.Cond.code (⟨"java/lang/String", "equals", "(Ljava/lang/Object;)Z"⟩ : MethodName) jdk_42_method_66_code 3 (some .boolean) :: ws) ({ frames := 1, cells := 0, slots := 0, locals := 14 } : Room)) (fun a_ U_ => a_ = #[(.ref o), (.ref os)] ∧ Z.Warmed39 U_.vm ∧ U_.heap = h0) (fun _ _ _ _ _ => True) (fun _ U_ o_ U_' => ∃ v_ L_, o_ = .returned v_ ∧ (QI (fun z => z.toInt = 1) h0) v_ U_'.heap L_ ∧ FrameEnd U_ o_ U_' L_ 0 0) := by
  refine ow_body (plainFor_of_name pn_1) ?_
  intro p e s m below meth c T0 X0 hx hZ hby hml hown hnm hret hlk e0
  refine Ends.cast (ef_eqs0 m o os) ?_
  refine ow_aloadN X0 hx (hb hby d_jdk_42m66_0) rfl rfl (pc' := 1) rfl ?_
  refine ow_aloadN X0 hx (hb hby d_jdk_42m66_1) rfl rfl (pc' := 2) rfl ?_
  refine ow_acmp X0 hx rfl rfl (same := false) (hb hby d_jdk_42m66_2) (decide_eq_false fun q => ne_o_os (Value.ref.inj q)) (by decide) (pc' := 7) rfl ?_
  refine ow_aloadN X0 hx (hb hby d_jdk_42m66_7) rfl rfl (pc' := 8) rfl ?_
  refine ow_instY X0 hx hZ hown (hw _ (List.mem_of_getElem? (i := 92) rfl)) e0 (Ins.self E_s) (hb hby d_jdk_42m66_8) (pc' := 11) rfl (fun T1 X1 e1 => ?_)
  refine ow_ifN X1 hx (hb hby d_jdk_42m66_11) (by decide) (pc' := 14) rfl ?_
  refine ow_aloadN X1 hx (hb hby d_jdk_42m66_14) rfl rfl (pc' := 15) rfl ?_
  refine ow_castY X1 hx hZ hown (hw _ (List.mem_of_getElem? (i := 92) rfl)) e1 (Ins.self E_s) (hb hby d_jdk_42m66_15) (pc' := 18) rfl (fun T2 X2 e2 => ?_)
  refine ow_astoreN X2 hx (Ls' := #[.val (.ref o), .val (.ref os), .val (.ref os)]) (hb hby d_jdk_42m66_18) rfl rfl (pc' := 19) rfl ?_
  refine ow_getS X2 hx hZ hown (host := "") (Or.inl (hw _ (List.mem_of_getElem? (i := 22) rfl))) Via.refl e2 S_cs (hb hby d_jdk_42m66_19) (pc' := 22) rfl (fun T3 X3 e3 => ?_)
  refine ow_if_eq X3 hx (zc.toInt) (hb hby d_jdk_42m66_22) rfl (by decide) (pt := 36) (by decide) (pf := 25) rfl (fun c22 => absurd c22 (by omega)) (fun c22 => ?_)
  refine ow_aloadN X3 hx (hb hby d_jdk_42m66_25) rfl rfl (pc' := 26) rfl ?_
  refine ow_getF X3 hx hZ hown (host := "") (Or.inl (hw _ (List.mem_of_getElem? (i := 33) rfl))) Via.refl e3 F_c (hb hby d_jdk_42m66_26) (pc' := 29) rfl (fun T4 X4 e4 => ?_)
  refine ow_aloadN X4 hx (hb hby d_jdk_42m66_29) rfl rfl (pc' := 30) rfl ?_
  refine ow_getF X4 hx hZ hown (host := "") (Or.inl (hw _ (List.mem_of_getElem? (i := 33) rfl))) Via.refl e4 F_sc (hb hby d_jdk_42m66_30) (pc' := 33) rfl (fun T5 X5 e5 => ?_)
  refine ow_icmpN X5 hx (hb hby d_jdk_42m66_33) (by decide) (pc' := 36) rfl ?_
  refine ow_aloadN X5 hx (hb hby d_jdk_42m66_36) rfl rfl (pc' := 37) rfl ?_
  refine ow_getF X5 hx hZ hown (host := "") (Or.inl (hw _ (List.mem_of_getElem? (i := 35) rfl))) Via.refl e5 F_v (hb hby d_jdk_42m66_37) (pc' := 40) rfl (fun T6 X6 e6 => ?_)
  refine ow_aloadN X6 hx (hb hby d_jdk_42m66_40) rfl rfl (pc' := 41) rfl ?_
  refine ow_getF X6 hx hZ hown (host := "") (Or.inl (hw _ (List.mem_of_getElem? (i := 35) rfl))) Via.refl e6 F_sv (hb hby d_jdk_42m66_41) (pc' := 44) rfl (fun T7 X7 e7 => ?_)
  refine ow_callPI X7 hx hZ hown (hw _ (List.mem_of_getElem? (i := 93) rfl)) (hw _ (List.mem_of_getElem? (i := 94) rfl)) (hw _ (List.mem_of_getElem? (i := 95) rfl)) (hw _ (List.mem_of_getElem? (i := 96) rfl)) (by decide) (rm_eql2 l Z a0 hw [] oa ob ka kb x0 x1 w0 w1 h0 V_a V_b (by first | assumption | decide | omega) (by first | assumption | decide | omega)) e7 0 (by decide) (by decide) (by decide) (by decide) [(.ref oa), (.ref ob)] (by rw [hml]; rfl) pd_2 rfl rfl rfl (Nat.le_of_eq rfl) (hb hby d_jdk_42m66_44) (pc' := 47) rfl (fun z8 T8 hz8 X8 e8 => ?_)
  have az8 : z8.toInt = 1 := hz8
  have rz8 := rng32 z8
  refine ow_if_eq X8 hx (z8.toInt) (hb hby d_jdk_42m66_47) rfl (by decide) (pt := 54) (by decide) (pf := 50) rfl (fun c47 => absurd c47 (by omega)) (fun c47 => ?_)
  refine ow_iconst X8 hx (z := (1 : Int32)) (hb hby d_jdk_42m66_50) rfl (pc' := 51) rfl ?_
  refine ow_goto X8 hx (hb hby d_jdk_42m66_51) (by decide) (pc' := 55) (by decide) ?_
  exact ow_retB X8 hx hret hlk (hb hby d_jdk_42m66_55) (by decide) (by decide) (z' := (1 : Int32)) rfl ⟨(1 : Int32), rfl, (show (1 : Int) = 1 from by omega), rfl, e8⟩
theorem d_m5_87 : decode method_5_code 87 = .ok (.new 43, 3) := by decide +kernel
theorem d_m5_90 : decode method_5_code 90 = .ok (.dup, 1) := by decide +kernel
theorem d_m5_91 : decode method_5_code 91 = .ok (.iconst 3, 1) := by decide +kernel
theorem d_m5_92 : decode method_5_code 92 = .ok (.newarray .char, 2) := by decide +kernel
theorem d_m5_94 : decode method_5_code 94 = .ok (.dup, 1) := by decide +kernel
theorem d_m5_95 : decode method_5_code 95 = .ok (.iconst 0, 1) := by decide +kernel
theorem d_m5_96 : decode method_5_code 96 = .ok (.iload_n 2, 1) := by decide +kernel
theorem d_m5_97 : decode method_5_code 97 = .ok (.castore, 1) := by decide +kernel
theorem d_m5_98 : decode method_5_code 98 = .ok (.dup, 1) := by decide +kernel
theorem d_m5_99 : decode method_5_code 99 = .ok (.iconst 1, 1) := by decide +kernel
theorem d_m5_100 : decode method_5_code 100 = .ok (.iload_n 3, 1) := by decide +kernel
theorem d_m5_101 : decode method_5_code 101 = .ok (.castore, 1) := by decide +kernel
theorem d_m5_102 : decode method_5_code 102 = .ok (.dup, 1) := by decide +kernel
theorem d_m5_103 : decode method_5_code 103 = .ok (.iconst 2, 1) := by decide +kernel
theorem d_m5_104 : decode method_5_code 104 = .ok (.iload 4, 2) := by decide +kernel
theorem d_m5_106 : decode method_5_code 106 = .ok (.castore, 1) := by decide +kernel
theorem d_m5_107 : decode method_5_code 107 = .ok (.invokespecial 48, 3) := by decide +kernel
theorem d_m5_110 : decode method_5_code 110 = .ok (.areturn, 1) := by decide +kernel
def Q_so3 (Z : State) (pn : Int32) (pc : Int32) (zc : Int32) (h0 : Heap) (n0 : Nat) (v : Option Value) (h : Heap) (L : List Loc) : Prop := ∃ (ow : Addr), ∃ (ot : Addr), ∃ (kt : ClassId), ∃ (x0 : Int32), ∃ (x1 : Int32), ∃ (x2 : Int32), (v = some (.ref ow)) ∧ (Fr n0 L) ∧ (Keep h0 h []) ∧ (Exa Z h ow "java/lang/String") ∧ (Fld Z h ow "java/lang/String" "coder" "B" (.int (0 : Int32))) ∧ (Fld Z h ow "java/lang/String" "value" "[B" (.ref ot)) ∧ (Arv Z h ot kt (.byte) (3 : Int32) [(.int x0), (.int x1), (.int x2)] (.int (0 : Int32))) ∧ (h0.size ≤ ow) ∧ (h0.size ≤ ot) ∧ (((x0.toInt - pc.toInt) % 256 = 0 ∧ -128 ≤ x0.toInt ∧ x0.toInt < 128) ∧ ((x1.toInt - (pc.toInt % 4294967296) / 256) % 256 = 0 ∧ -128 ≤ x1.toInt ∧ x1.toInt < 128) ∧ ((x2.toInt - (pc.toInt % 4294967296) / 65536) % 256 = 0 ∧ -128 ≤ x2.toInt ∧ x2.toInt < 128))
set_option maxRecDepth 65536 in
set_option maxHeartbeats 40000000 in
theorem rm_so3 (l : Launch) (Z : State) (a0 : Array Value) (hw : ∀ d ∈ tables_1, d.before a0 Z = true) (ws : List Jvm.Cond) (pn : Int32) (pc : Int32) (zc : Int32) (h0 : Heap) (n0 : Nat) (Z0 : n0 ≤ h0.size) (S_cs : Sta Z h0 "java/lang/String" "COMPACT_STRINGS" "Z" (.int zc)) (hzc : ¬ zc = 0) (hn : pn.toInt = 3) :
    MetFree l (⟨"com/example/inchworm/inchworm/handler/ResultReplacePinLaw", "stringOf", "(II)Ljava/lang/String;"⟩ : MethodName) (head1 (Jvm.Cond.code (⟨"com/example/inchworm/inchworm/handler/ResultReplacePinLaw", "stringOf", "(II)Ljava/lang/String;"⟩ : MethodName) method_5_code 5 (some (.object "java/lang/String")) :: ws) ({ frames := 4, cells := 3, slots := 10, locals := 66 } : Room)) (fun a_ U_ => a_ = #[(.int pn), (.int pc)] ∧ Z.Warmed39 U_.vm ∧ U_.heap = h0) (fun _ _ _ _ _ => True) (fun _ U_ o_ U_' => ∃ v_ L_, o_ = .returned v_ ∧ (Q_so3 Z pn pc zc h0 n0) v_ U_'.heap L_ ∧ FrameEnd U_ o_ U_' L_ 3 10) := by
  refine ow_body (plainFor_of_name pn_0) ?_
  intro p e s m below meth c T0 X0 hx hZ hby hml hown hnm hret hlk e0
  have N0 := Fr.nil n0
  refine Ends.cast (ef_so0a m pn pc) ?_
  have r_pn := rng32 pn
  have r_pc := rng32 pc
  refine ow_iloadN X0 hx (hb hby d_m5_0) rfl (pc' := 1) rfl ?_
  refine ow_sipush X0 hx (z := (255 : Int32)) (hb hby d_m5_1) rfl (pc' := 4) rfl ?_
  refine ow_iand X0 hx (hb hby d_m5_4) (pc' := 5) rfl (fun z1 hz1 => ?_)
  have az1 : z1.toInt = pc.toInt % 256 := by rw [hz1]; exact c_mask pc (255 : Int32) 8 (by decide) (by decide)
  have rz1 := rng32 z1
  refine ow_i2c X0 hx (hb hby d_m5_5) (pc' := 6) rfl (fun z2 hz2 => ?_)
  have az2 : (z2.toInt - z1.toInt) % 65536 = 0 ∧ 0 ≤ z2.toInt ∧ z2.toInt < 65536 := by rw [hz2]; exact c_i2c z1
  have rz2 := rng32 z2
  refine ow_istoreN X0 hx (Ls' := #[.val (.int pn), .val (.int pc), .val (.int z2), .unset, .unset]) (hb hby d_m5_6) rfl (pc' := 7) rfl ?_
  refine ow_iloadN X0 hx (hb hby d_m5_7) rfl (pc' := 8) rfl ?_
  refine ow_bipush X0 hx (z := (8 : Int32)) (hb hby d_m5_8) rfl (pc' := 10) rfl ?_
  refine ow_iushr X0 hx (hb hby d_m5_10) (pc' := 11) rfl (fun z3 hz3 => ?_)
  have az3 : z3.toInt = (pc.toInt % 4294967296) / 256 := by rw [hz3]; exact c_iushr pc (8 : Int32) 8 (by decide) (by decide)
  have rz3 := rng32 z3
  refine ow_sipush X0 hx (z := (255 : Int32)) (hb hby d_m5_11) rfl (pc' := 14) rfl ?_
  refine ow_iand X0 hx (hb hby d_m5_14) (pc' := 15) rfl (fun z4 hz4 => ?_)
  have az4 : z4.toInt = z3.toInt % 256 := by rw [hz4]; exact c_mask z3 (255 : Int32) 8 (by decide) (by decide)
  have rz4 := rng32 z4
  refine ow_i2c X0 hx (hb hby d_m5_15) (pc' := 16) rfl (fun z5 hz5 => ?_)
  have az5 : (z5.toInt - z4.toInt) % 65536 = 0 ∧ 0 ≤ z5.toInt ∧ z5.toInt < 65536 := by rw [hz5]; exact c_i2c z4
  have rz5 := rng32 z5
  refine ow_istoreN X0 hx (Ls' := #[.val (.int pn), .val (.int pc), .val (.int z2), .val (.int z5), .unset]) (hb hby d_m5_16) rfl (pc' := 17) rfl ?_
  refine ow_iloadN X0 hx (hb hby d_m5_17) rfl (pc' := 18) rfl ?_
  refine ow_bipush X0 hx (z := (16 : Int32)) (hb hby d_m5_18) rfl (pc' := 20) rfl ?_
  refine ow_iushr X0 hx (hb hby d_m5_20) (pc' := 21) rfl (fun z6 hz6 => ?_)
  have az6 : z6.toInt = (pc.toInt % 4294967296) / 65536 := by rw [hz6]; exact c_iushr pc (16 : Int32) 16 (by decide) (by decide)
  have rz6 := rng32 z6
  refine ow_sipush X0 hx (z := (255 : Int32)) (hb hby d_m5_21) rfl (pc' := 24) rfl ?_
  refine ow_iand X0 hx (hb hby d_m5_24) (pc' := 25) rfl (fun z7 hz7 => ?_)
  have az7 : z7.toInt = z6.toInt % 256 := by rw [hz7]; exact c_mask z6 (255 : Int32) 8 (by decide) (by decide)
  have rz7 := rng32 z7
  refine ow_i2c X0 hx (hb hby d_m5_25) (pc' := 26) rfl (fun z8 hz8 => ?_)
  have az8 : (z8.toInt - z7.toInt) % 65536 = 0 ∧ 0 ≤ z8.toInt ∧ z8.toInt < 65536 := by rw [hz8]; exact c_i2c z7
  have rz8 := rng32 z8
  refine ow_istore X0 hx (Ls' := #[.val (.int pn), .val (.int pc), .val (.int z2), .val (.int z5), .val (.int z8)]) (hb hby d_m5_26) rfl (pc' := 28) rfl ?_
  refine ow_iloadN X0 hx (hb hby d_m5_28) rfl (pc' := 29) rfl ?_
  refine ow_if_ne X0 hx (pn.toInt) (hb hby d_m5_29) rfl (by decide) (pt := 43) (by decide) (pf := 32) rfl (fun c29 => ?_) (fun c29 => absurd c29 (by omega))
  refine ow_iloadN X0 hx (hb hby d_m5_43) rfl (pc' := 44) rfl ?_
  refine ow_iconst X0 hx (z := (1 : Int32)) (hb hby d_m5_44) rfl (pc' := 45) rfl ?_
  refine ow_icmp_ne X0 hx (pn.toInt) ((1 : Int)) (hb hby d_m5_45) rfl rfl (by decide) (pt := 63) (by decide) (pf := 48) rfl (fun c45 => ?_) (fun c45 => absurd c45 (by omega))
  refine ow_iloadN X0 hx (hb hby d_m5_63) rfl (pc' := 64) rfl ?_
  refine ow_iconst X0 hx (z := (2 : Int32)) (hb hby d_m5_64) rfl (pc' := 65) rfl ?_
  refine ow_icmp_ne X0 hx (pn.toInt) ((2 : Int)) (hb hby d_m5_65) rfl rfl (by decide) (pt := 87) (by decide) (pf := 68) rfl (fun c65 => ?_) (fun c65 => absurd c65 (by omega))
  refine ow_new X0 hx hZ hown (hw _ (List.mem_of_getElem? (i := 8) rfl)) (hw _ (List.mem_of_getElem? (i := 9) rfl)) (hw _ (List.mem_of_getElem? (i := 10) rfl)) e0 (hb hby d_m5_87) (by decide) (by decide) (pc' := 90) rfl (fun T9 h9 b9 g9 X9 e9 E9 A9 D9 => ?_)
  have g_b9 : n0 ≤ b9 := Nat.le_trans Z0 (Nat.le_of_eq g9.symm)
  have sz_b9 : h0.size ≤ b9 := Nat.le_trans (Keep.refl h0 []).1 (Nat.le_of_eq g9.symm)
  have Zs9 : n0 ≤ h9.size := Nat.le_trans Z0 E9.1
  have K9 := (Keep.refl h0 []).ext E9
  have F_b9_coder : Fld Z h9 b9 "java/lang/String" "coder" "B" (.int (0 : Int32)) := D9 (Or.inr (hw _ (List.mem_of_getElem? (i := 34) rfl))) (ty := .byte) (by decide)
  have F_b9_value : Fld Z h9 b9 "java/lang/String" "value" "[B" .null := D9 (Or.inr (hw _ (List.mem_of_getElem? (i := 36) rfl))) (ty := (.array .byte)) (by decide)
  refine ow_dup X9 hx (hb hby d_m5_90) rfl (pc' := 91) rfl ?_
  refine ow_iconst X9 hx (z := (3 : Int32)) (hb hby d_m5_91) rfl (pc' := 92) rfl ?_
  refine ow_newPE X9 hx hZ (hw _ (List.mem_of_getElem? (i := 11) rfl)) e9 (hb hby d_m5_92) (by decide) 3 (by decide) (by decide) (by decide) (by decide) (ad := "[C") (by decide) (pc' := 94) rfl (fun T10 h10 b10 k10 g10 X10 e10 E10 V10 A10 => ?_)
  have ne_b9_b10 : b9 ≠ b10 := Nat.ne_of_lt (Nat.lt_of_lt_of_le A9.lt (Nat.le_of_eq g10.symm))
  have g_b10 : n0 ≤ b10 := Nat.le_trans Zs9 (Nat.le_of_eq g10.symm)
  have sz_b10 : h0.size ≤ b10 := Nat.le_trans K9.1 (Nat.le_of_eq g10.symm)
  have E_b9_10 := A9.ext E10
  have F_b9_coder_10 := F_b9_coder.ext E10
  have F_b9_value_10 := F_b9_value.ext E10
  have Zs10 : n0 ≤ h10.size := Nat.le_trans Zs9 E10.1
  have K10 := K9.ext E10
  have V_b10 : Arv Z h10 b10 k10 .char (3 : Int32) [(.int (0 : Int32)), (.int (0 : Int32)), (.int (0 : Int32))] (.int (0 : Int32)) := V10.pad (pad_rep [] (.int (0 : Int32)) 3)
  refine ow_dup X10 hx (hb hby d_m5_94) rfl (pc' := 95) rfl ?_
  refine ow_iconst X10 hx (z := (0 : Int32)) (hb hby d_m5_95) rfl (pc' := 96) rfl ?_
  refine ow_iloadN X10 hx (hb hby d_m5_96) rfl (pc' := 97) rfl ?_
  refine ow_stC X10 hx hZ e10 V_b10 0 rfl (by decide) (by decide) (Nat.le_of_ble_eq_true rfl) (hb hby d_m5_97) (pc' := 98) rfl (fun T11 h11 X11 e11 W11 V11 => ?_)
  obtain ⟨y11, hy11⟩ : ∃ y : Int32, y = (nar .char z2) := ⟨_, rfl⟩
  rw [← hy11] at W11 V11
  have ay11 : (y11.toInt - z2.toInt) % 65536 = 0 ∧ 0 ≤ y11.toInt ∧ y11.toInt < 65536 := by rw [hy11]; exact c_i2c z2
  rw [show y11 = z2 from ow_eq (by omega)] at W11 V11
  have V_b10_11 : Arv Z h11 b10 k10 .char (3 : Int32) [(.int z2), (.int (0 : Int32)), (.int (0 : Int32))] (.int (0 : Int32)) := V11
  have E_b9_11 := E_b9_10.wr W11
  have F_b9_coder_11 := F_b9_coder_10.other W11 (Or.inl ne_b9_b10)
  have F_b9_value_11 := F_b9_value_10.other W11 (Or.inl ne_b9_b10)
  have E_b10_11 := A10.wr W11
  have Zs11 : n0 ≤ h11.size := Nat.le_trans Zs10 (Keep.of_wr W11).1
  have K11 := K10.wr W11 (Or.inr sz_b10)
  have N11 := Fr.snoc X11 N0 g_b10
  refine ow_dup X11 hx (hb hby d_m5_98) rfl (pc' := 99) rfl ?_
  refine ow_iconst X11 hx (z := (1 : Int32)) (hb hby d_m5_99) rfl (pc' := 100) rfl ?_
  refine ow_iloadN X11 hx (hb hby d_m5_100) rfl (pc' := 101) rfl ?_
  refine ow_stC X11 hx hZ e11 V_b10_11 1 rfl (by decide) (by decide) (Nat.le_of_ble_eq_true rfl) (hb hby d_m5_101) (pc' := 102) rfl (fun T12 h12 X12 e12 W12 V12 => ?_)
  obtain ⟨y12, hy12⟩ : ∃ y : Int32, y = (nar .char z5) := ⟨_, rfl⟩
  rw [← hy12] at W12 V12
  have ay12 : (y12.toInt - z5.toInt) % 65536 = 0 ∧ 0 ≤ y12.toInt ∧ y12.toInt < 65536 := by rw [hy12]; exact c_i2c z5
  rw [show y12 = z5 from ow_eq (by omega)] at W12 V12
  have V_b10_12 : Arv Z h12 b10 k10 .char (3 : Int32) [(.int z2), (.int z5), (.int (0 : Int32))] (.int (0 : Int32)) := V12
  have E_b9_12 := E_b9_11.wr W12
  have F_b9_coder_12 := F_b9_coder_11.other W12 (Or.inl ne_b9_b10)
  have F_b9_value_12 := F_b9_value_11.other W12 (Or.inl ne_b9_b10)
  have E_b10_12 := E_b10_11.wr W12
  have Zs12 : n0 ≤ h12.size := Nat.le_trans Zs11 (Keep.of_wr W12).1
  have K12 := K11.wr W12 (Or.inr sz_b10)
  have N12 := Fr.snoc X12 N11 g_b10
  refine ow_dup X12 hx (hb hby d_m5_102) rfl (pc' := 103) rfl ?_
  refine ow_iconst X12 hx (z := (2 : Int32)) (hb hby d_m5_103) rfl (pc' := 104) rfl ?_
  refine ow_iload X12 hx (hb hby d_m5_104) rfl (pc' := 106) rfl ?_
  refine ow_stC X12 hx hZ e12 V_b10_12 2 rfl (by decide) (by decide) (Nat.le_of_ble_eq_true rfl) (hb hby d_m5_106) (pc' := 107) rfl (fun T13 h13 X13 e13 W13 V13 => ?_)
  obtain ⟨y13, hy13⟩ : ∃ y : Int32, y = (nar .char z8) := ⟨_, rfl⟩
  rw [← hy13] at W13 V13
  have ay13 : (y13.toInt - z8.toInt) % 65536 = 0 ∧ 0 ≤ y13.toInt ∧ y13.toInt < 65536 := by rw [hy13]; exact c_i2c z8
  rw [show y13 = z8 from ow_eq (by omega)] at W13 V13
  have V_b10_13 : Arv Z h13 b10 k10 .char (3 : Int32) [(.int z2), (.int z5), (.int z8)] (.int (0 : Int32)) := V13
  have E_b9_13 := E_b9_12.wr W13
  have F_b9_coder_13 := F_b9_coder_12.other W13 (Or.inl ne_b9_b10)
  have F_b9_value_13 := F_b9_value_12.other W13 (Or.inl ne_b9_b10)
  have E_b10_13 := E_b10_12.wr W13
  have Zs13 : n0 ≤ h13.size := Nat.le_trans Zs12 (Keep.of_wr W13).1
  have K13 := K12.wr W13 (Or.inr sz_b10)
  have N13 := Fr.snoc X13 N12 g_b10
  have hp14 : ∀ c ∈ ([z2, z5, z8] : List Int32), ¬ c < 0 ∧ ¬ (255 : Int32) < c := fun c hc => by
    simp only [List.mem_cons, List.not_mem_nil, or_false] at hc
    rcases hc with hc | hc | hc
    · rw [hc]; exact ⟨ow_nlt (y := (0 : Int32)) (show ¬ z2.toInt < 0 from by omega), ow_nlt (x := (255 : Int32)) (show ¬ 255 < z2.toInt from by omega)⟩
    · rw [hc]; exact ⟨ow_nlt (y := (0 : Int32)) (show ¬ z5.toInt < 0 from by omega), ow_nlt (x := (255 : Int32)) (show ¬ 255 < z5.toInt from by omega)⟩
    · rw [hc]; exact ⟨ow_nlt (y := (0 : Int32)) (show ¬ z8.toInt < 0 from by omega), ow_nlt (x := (255 : Int32)) (show ¬ 255 < z8.toInt from by omega)⟩
  have hws14 : ∀ d ∈ StrChars.Road.words, d.before a0 Z = true := fun d hd => hw d ((by decide +kernel : ∀ d ∈ StrChars.Road.words, d ∈ tables_1) d hd)
  refine ow_callIB X13 hx hZ rfl hown (hw _ (List.mem_of_getElem? (i := 12) rfl)) (hw _ (List.mem_of_getElem? (i := 13) rfl)) (hw _ (List.mem_of_getElem? (i := 14) rfl)) (by decide) (StrChars.Road.backV (W := 1) hZ hws14 (kI := 4) (hw _ (List.mem_of_getElem? (i := 9) rfl)) (x := b9) (b := b10) (cs := [z2, z5, z8]) (bs := ([z2, z5, z8] : List Int32).map (fun c => c.toInt8.toInt32)) (n := 3) (n0 := n0) g_b9 Zs13 E_b9_13 F_b9_value_13 F_b9_coder_13 V_b10_13 (ow_staKeep S_cs K13 all0) hzc rfl rfl (by decide) (by decide) hp14 rfl (by decide) (by decide)) e13 (by decide) (by decide) [(.ref b10)] (by rw [hml]; rfl) pd_1 rfl rfl rfl (Nat.le_of_eq rfl) (hb hby d_m5_107) (pc' := 110) rfl (fun v14 T14 L14 hQ14 X14 => ?_)
  have hQ14 := ow_qv hQ14
  obtain ⟨b14, kb_14, rfl, Nc14, Kc14, P14_0, P14_1, P14_2, P14_3, P14_4, P14_5, P14_6⟩ := hQ14
  have E_b10_14 := E_b10_13.keep Kc14
  have V_b10_14 := V_b10_13.keep Kc14 (ninS (Ne.symm ne_b9_b10) nin0)
  have ne_b9_b14 : b9 ≠ b14 := Nat.ne_of_lt (Nat.lt_of_lt_of_le E_b9_13.lt P14_5)
  have ne_b10_b14 : b10 ≠ b14 := Nat.ne_of_lt (Nat.lt_of_lt_of_le E_b10_13.lt P14_5)
  have sz_b14 : h0.size ≤ b14 := Nat.le_trans K13.1 P14_5
  have Zs14 : n0 ≤ T14.heap.size := Nat.le_trans Zs13 Kc14.1
  have K14 := K13.trans Kc14 (allS (Or.inr sz_b9) all0)
  have N14 := Fr.app N13 Nc14
  show Ends _ _ _ _ T14 (mkF m 110 #[.val (.int pn), .val (.int pc), .val (.int z2), .val (.int z5), .val (.int z8)] [(.ref b9)])
  exact ow_retA X14 hx hret hlk rfl rfl (hb hby d_m5_110) (by decide) (by decide) (show Q_so3 Z pn pc zc h0 n0 _ T14.heap _ from ⟨b9, b14, kb_14, (z2.toInt8.toInt32), (z5.toInt8.toInt32), (z8.toInt8.toInt32), rfl, N14, K14, P14_0, P14_1, P14_2, P14_3, sz_b9, sz_b14, (show (((z2.toInt8.toInt32).toInt - pc.toInt) % 256 = 0 ∧ -128 ≤ (z2.toInt8.toInt32).toInt ∧ (z2.toInt8.toInt32).toInt < 128) ∧ (((z5.toInt8.toInt32).toInt - (pc.toInt % 4294967296) / 256) % 256 = 0 ∧ -128 ≤ (z5.toInt8.toInt32).toInt ∧ (z5.toInt8.toInt32).toInt < 128) ∧ (((z8.toInt8.toInt32).toInt - (pc.toInt % 4294967296) / 65536) % 256 = 0 ∧ -128 ≤ (z8.toInt8.toInt32).toInt ∧ (z8.toInt8.toInt32).toInt < 128) from by have q0 := c_i2b z2; have q1 := c_i2b z5; have q2 := c_i2b z8; omega)⟩)
set_option maxRecDepth 65536 in
set_option maxHeartbeats 40000000 in
theorem rm_eql3 (l : Launch) (Z : State) (a0 : Array Value) (hw : ∀ d ∈ tables_1, d.before a0 Z = true) (ws : List Jvm.Cond) (oa : Addr) (ob : Addr) (ka : ClassId) (kb : ClassId) (x0 : Int32) (x1 : Int32) (x2 : Int32) (w0 : Int32) (w1 : Int32) (w2 : Int32) (h0 : Heap) (V_a : Arv Z h0 oa ka (.byte) (3 : Int32) [(.int x0), (.int x1), (.int x2)] (.int (0 : Int32))) (V_b : Arv Z h0 ob kb (.byte) (3 : Int32) [(.int w0), (.int w1), (.int w2)] (.int (0 : Int32))) (he0 : x0.toInt = w0.toInt) (he1 : x1.toInt = w1.toInt) (he2 : x2.toInt = w2.toInt) :
    MetFree l (⟨"java/lang/StringLatin1", "equals", "([B[B)Z"⟩ : MethodName) (head1 (Jvm.Cond.code (⟨"java/lang/StringLatin1", "equals", "([B[B)Z"⟩ : MethodName) jdk_43_method_13_code 3 (some .boolean) :: ws) ({ frames := 0, cells := 0, slots := 0, locals := 0 } : Room)) (fun a_ U_ => a_ = #[(.ref oa), (.ref ob)] ∧ Z.Warmed39 U_.vm ∧ U_.heap = h0) (fun _ _ _ _ _ => True) (fun _ U_ o_ U_' => ∃ v_ L_, o_ = .returned v_ ∧ (QI (fun z => z.toInt = 1) h0) v_ U_'.heap L_ ∧ FrameEnd U_ o_ U_' L_ 0 0) := by
  refine ow_body (plainFor_of_name pn_2) ?_
  intro p e s m below meth c T0 X0 hx hZ hby hml hown hnm hret hlk e0
  refine Ends.cast (ef_eql0 m oa ob) ?_
  refine ow_aloadN X0 hx (hb hby d_jdk_43m13_0) rfl rfl (pc' := 1) rfl ?_
  refine ow_len X0 hx hZ e0 V_a (hb hby d_jdk_43m13_1) (pc' := 2) rfl ?_
  refine ow_aloadN X0 hx (hb hby d_jdk_43m13_2) rfl rfl (pc' := 3) rfl ?_
  refine ow_len X0 hx hZ e0 V_b (hb hby d_jdk_43m13_3) (pc' := 4) rfl ?_
  refine ow_icmpN X0 hx (hb hby d_jdk_43m13_4) (by decide) (pc' := 7) rfl ?_
  refine ow_iconst X0 hx (z := (0 : Int32)) (hb hby d_jdk_43m13_7) rfl (pc' := 8) rfl ?_
  refine ow_istoreN X0 hx (Ls' := #[.val (.ref oa), .val (.ref ob), .val (.int (0 : Int32))]) (hb hby d_jdk_43m13_8) rfl (pc' := 9) rfl ?_
  refine ow_iloadN X0 hx (hb hby d_jdk_43m13_9) rfl (pc' := 10) rfl ?_
  refine ow_aloadN X0 hx (hb hby d_jdk_43m13_10) rfl rfl (pc' := 11) rfl ?_
  refine ow_len X0 hx hZ e0 V_a (hb hby d_jdk_43m13_11) (pc' := 12) rfl ?_
  refine ow_icmpN X0 hx (hb hby d_jdk_43m13_12) (by decide) (pc' := 15) rfl ?_
  refine ow_aloadN X0 hx (hb hby d_jdk_43m13_15) rfl rfl (pc' := 16) rfl ?_
  refine ow_iloadN X0 hx (hb hby d_jdk_43m13_16) rfl (pc' := 17) rfl ?_
  refine ow_ldB X0 hx hZ e0 V_a (by decide) (by decide) rfl (hb hby d_jdk_43m13_17) (pc' := 18) rfl ?_
  refine ow_aloadN X0 hx (hb hby d_jdk_43m13_18) rfl rfl (pc' := 19) rfl ?_
  refine ow_iloadN X0 hx (hb hby d_jdk_43m13_19) rfl (pc' := 20) rfl ?_
  refine ow_ldB X0 hx hZ e0 V_b (by decide) (by decide) rfl (hb hby d_jdk_43m13_20) (pc' := 21) rfl ?_
  refine ow_icmp_eq X0 hx (x0.toInt) (w0.toInt) (hb hby d_jdk_43m13_21) rfl rfl (by decide) (pt := 26) (by decide) (pf := 24) rfl (fun c21 => ?_) (fun c21 => absurd c21 (by omega))
  refine ow_iinc X0 hx (Ls' := #[.val (.ref oa), .val (.ref ob), .val (.int (0 : Int32))]) (hb hby d_jdk_43m13_26) rfl (fun z => rfl) (pc' := 29) rfl (fun z1 hz1 => ?_)
  obtain rfl : z1 = (1 : Int32) := hz1.trans (by decide)
  show Ends _ _ _ _ T0 (mkF m 29 #[.val (.ref oa), .val (.ref ob), .val (.int (1 : Int32))] [])
  refine ow_goto X0 hx (hb hby d_jdk_43m13_29) (by decide) (pc' := 9) (by decide) ?_
  refine ow_iloadN X0 hx (hb hby d_jdk_43m13_9) rfl (pc' := 10) rfl ?_
  refine ow_aloadN X0 hx (hb hby d_jdk_43m13_10) rfl rfl (pc' := 11) rfl ?_
  refine ow_len X0 hx hZ e0 V_a (hb hby d_jdk_43m13_11) (pc' := 12) rfl ?_
  refine ow_icmpN X0 hx (hb hby d_jdk_43m13_12) (by decide) (pc' := 15) rfl ?_
  refine ow_aloadN X0 hx (hb hby d_jdk_43m13_15) rfl rfl (pc' := 16) rfl ?_
  refine ow_iloadN X0 hx (hb hby d_jdk_43m13_16) rfl (pc' := 17) rfl ?_
  refine ow_ldB X0 hx hZ e0 V_a (by decide) (by decide) rfl (hb hby d_jdk_43m13_17) (pc' := 18) rfl ?_
  refine ow_aloadN X0 hx (hb hby d_jdk_43m13_18) rfl rfl (pc' := 19) rfl ?_
  refine ow_iloadN X0 hx (hb hby d_jdk_43m13_19) rfl (pc' := 20) rfl ?_
  refine ow_ldB X0 hx hZ e0 V_b (by decide) (by decide) rfl (hb hby d_jdk_43m13_20) (pc' := 21) rfl ?_
  refine ow_icmp_eq X0 hx (x1.toInt) (w1.toInt) (hb hby d_jdk_43m13_21) rfl rfl (by decide) (pt := 26) (by decide) (pf := 24) rfl (fun c21 => ?_) (fun c21 => absurd c21 (by omega))
  refine ow_iinc X0 hx (Ls' := #[.val (.ref oa), .val (.ref ob), .val (.int (1 : Int32))]) (hb hby d_jdk_43m13_26) rfl (fun z => rfl) (pc' := 29) rfl (fun z2 hz2 => ?_)
  obtain rfl : z2 = (2 : Int32) := hz2.trans (by decide)
  show Ends _ _ _ _ T0 (mkF m 29 #[.val (.ref oa), .val (.ref ob), .val (.int (2 : Int32))] [])
  refine ow_goto X0 hx (hb hby d_jdk_43m13_29) (by decide) (pc' := 9) (by decide) ?_
  refine ow_iloadN X0 hx (hb hby d_jdk_43m13_9) rfl (pc' := 10) rfl ?_
  refine ow_aloadN X0 hx (hb hby d_jdk_43m13_10) rfl rfl (pc' := 11) rfl ?_
  refine ow_len X0 hx hZ e0 V_a (hb hby d_jdk_43m13_11) (pc' := 12) rfl ?_
  refine ow_icmpN X0 hx (hb hby d_jdk_43m13_12) (by decide) (pc' := 15) rfl ?_
  refine ow_aloadN X0 hx (hb hby d_jdk_43m13_15) rfl rfl (pc' := 16) rfl ?_
  refine ow_iloadN X0 hx (hb hby d_jdk_43m13_16) rfl (pc' := 17) rfl ?_
  refine ow_ldB X0 hx hZ e0 V_a (by decide) (by decide) rfl (hb hby d_jdk_43m13_17) (pc' := 18) rfl ?_
  refine ow_aloadN X0 hx (hb hby d_jdk_43m13_18) rfl rfl (pc' := 19) rfl ?_
  refine ow_iloadN X0 hx (hb hby d_jdk_43m13_19) rfl (pc' := 20) rfl ?_
  refine ow_ldB X0 hx hZ e0 V_b (by decide) (by decide) rfl (hb hby d_jdk_43m13_20) (pc' := 21) rfl ?_
  refine ow_icmp_eq X0 hx (x2.toInt) (w2.toInt) (hb hby d_jdk_43m13_21) rfl rfl (by decide) (pt := 26) (by decide) (pf := 24) rfl (fun c21 => ?_) (fun c21 => absurd c21 (by omega))
  refine ow_iinc X0 hx (Ls' := #[.val (.ref oa), .val (.ref ob), .val (.int (2 : Int32))]) (hb hby d_jdk_43m13_26) rfl (fun z => rfl) (pc' := 29) rfl (fun z3 hz3 => ?_)
  obtain rfl : z3 = (3 : Int32) := hz3.trans (by decide)
  show Ends _ _ _ _ T0 (mkF m 29 #[.val (.ref oa), .val (.ref ob), .val (.int (3 : Int32))] [])
  refine ow_goto X0 hx (hb hby d_jdk_43m13_29) (by decide) (pc' := 9) (by decide) ?_
  refine ow_iloadN X0 hx (hb hby d_jdk_43m13_9) rfl (pc' := 10) rfl ?_
  refine ow_aloadN X0 hx (hb hby d_jdk_43m13_10) rfl rfl (pc' := 11) rfl ?_
  refine ow_len X0 hx hZ e0 V_a (hb hby d_jdk_43m13_11) (pc' := 12) rfl ?_
  refine ow_icmpY X0 hx (hb hby d_jdk_43m13_12) (by decide) (by decide) (pc' := 32) (by decide) ?_
  refine ow_iconst X0 hx (z := (1 : Int32)) (hb hby d_jdk_43m13_32) rfl (pc' := 33) rfl ?_
  exact ow_retB X0 hx hret hlk (hb hby d_jdk_43m13_33) (by decide) (by decide) (z' := (1 : Int32)) rfl ⟨(1 : Int32), rfl, (show (1 : Int) = 1 from by omega), rfl, e0⟩
set_option maxRecDepth 65536 in
set_option maxHeartbeats 40000000 in
theorem rm_eqs3 (l : Launch) (Z : State) (a0 : Array Value) (hw : ∀ d ∈ tables_1, d.before a0 Z = true) (ws : List Jvm.Cond) (o : Addr) (os : Addr) (zc : Int32) (oa : Addr) (ob : Addr) (ka : ClassId) (kb : ClassId) (x0 : Int32) (x1 : Int32) (x2 : Int32) (w0 : Int32) (w1 : Int32) (w2 : Int32) (h0 : Heap) (S_cs : Sta Z h0 "java/lang/String" "COMPACT_STRINGS" "Z" (.int zc)) (hz0 : ¬ zc.toInt = 0) (E_o : Exa Z h0 o "java/lang/String") (F_c : Fld Z h0 o "java/lang/String" "coder" "B" (.int (0 : Int32))) (F_v : Fld Z h0 o "java/lang/String" "value" "[B" (.ref oa)) (E_s : Exa Z h0 os "java/lang/String") (F_sc : Fld Z h0 os "java/lang/String" "coder" "B" (.int (0 : Int32))) (F_sv : Fld Z h0 os "java/lang/String" "value" "[B" (.ref ob)) (V_a : Arv Z h0 oa ka (.byte) (3 : Int32) [(.int x0), (.int x1), (.int x2)] (.int (0 : Int32))) (V_b : Arv Z h0 ob kb (.byte) (3 : Int32) [(.int w0), (.int w1), (.int w2)] (.int (0 : Int32))) (ne_o_os : o ≠ os) (he0 : x0.toInt = w0.toInt) (he1 : x1.toInt = w1.toInt) (he2 : x2.toInt = w2.toInt) :
    MetFree l (⟨"java/lang/String", "equals", "(Ljava/lang/Object;)Z"⟩ : MethodName) (head1 (Jvm.Cond.code (⟨"java/lang/String", "equals", "(Ljava/lang/Object;)Z"⟩ : MethodName) jdk_42_method_66_code 3 (some .boolean) :: ws) ({ frames := 1, cells := 0, slots := 0, locals := 14 } : Room)) (fun a_ U_ => a_ = #[(.ref o), (.ref os)] ∧ Z.Warmed39 U_.vm ∧ U_.heap = h0) (fun _ _ _ _ _ => True) (fun _ U_ o_ U_' => ∃ v_ L_, o_ = .returned v_ ∧ (QI (fun z => z.toInt = 1) h0) v_ U_'.heap L_ ∧ FrameEnd U_ o_ U_' L_ 0 0) := by
  refine ow_body (plainFor_of_name pn_1) ?_
  intro p e s m below meth c T0 X0 hx hZ hby hml hown hnm hret hlk e0
  refine Ends.cast (ef_eqs0 m o os) ?_
  refine ow_aloadN X0 hx (hb hby d_jdk_42m66_0) rfl rfl (pc' := 1) rfl ?_
  refine ow_aloadN X0 hx (hb hby d_jdk_42m66_1) rfl rfl (pc' := 2) rfl ?_
  refine ow_acmp X0 hx rfl rfl (same := false) (hb hby d_jdk_42m66_2) (decide_eq_false fun q => ne_o_os (Value.ref.inj q)) (by decide) (pc' := 7) rfl ?_
  refine ow_aloadN X0 hx (hb hby d_jdk_42m66_7) rfl rfl (pc' := 8) rfl ?_
  refine ow_instY X0 hx hZ hown (hw _ (List.mem_of_getElem? (i := 92) rfl)) e0 (Ins.self E_s) (hb hby d_jdk_42m66_8) (pc' := 11) rfl (fun T1 X1 e1 => ?_)
  refine ow_ifN X1 hx (hb hby d_jdk_42m66_11) (by decide) (pc' := 14) rfl ?_
  refine ow_aloadN X1 hx (hb hby d_jdk_42m66_14) rfl rfl (pc' := 15) rfl ?_
  refine ow_castY X1 hx hZ hown (hw _ (List.mem_of_getElem? (i := 92) rfl)) e1 (Ins.self E_s) (hb hby d_jdk_42m66_15) (pc' := 18) rfl (fun T2 X2 e2 => ?_)
  refine ow_astoreN X2 hx (Ls' := #[.val (.ref o), .val (.ref os), .val (.ref os)]) (hb hby d_jdk_42m66_18) rfl rfl (pc' := 19) rfl ?_
  refine ow_getS X2 hx hZ hown (host := "") (Or.inl (hw _ (List.mem_of_getElem? (i := 22) rfl))) Via.refl e2 S_cs (hb hby d_jdk_42m66_19) (pc' := 22) rfl (fun T3 X3 e3 => ?_)
  refine ow_if_eq X3 hx (zc.toInt) (hb hby d_jdk_42m66_22) rfl (by decide) (pt := 36) (by decide) (pf := 25) rfl (fun c22 => absurd c22 (by omega)) (fun c22 => ?_)
  refine ow_aloadN X3 hx (hb hby d_jdk_42m66_25) rfl rfl (pc' := 26) rfl ?_
  refine ow_getF X3 hx hZ hown (host := "") (Or.inl (hw _ (List.mem_of_getElem? (i := 33) rfl))) Via.refl e3 F_c (hb hby d_jdk_42m66_26) (pc' := 29) rfl (fun T4 X4 e4 => ?_)
  refine ow_aloadN X4 hx (hb hby d_jdk_42m66_29) rfl rfl (pc' := 30) rfl ?_
  refine ow_getF X4 hx hZ hown (host := "") (Or.inl (hw _ (List.mem_of_getElem? (i := 33) rfl))) Via.refl e4 F_sc (hb hby d_jdk_42m66_30) (pc' := 33) rfl (fun T5 X5 e5 => ?_)
  refine ow_icmpN X5 hx (hb hby d_jdk_42m66_33) (by decide) (pc' := 36) rfl ?_
  refine ow_aloadN X5 hx (hb hby d_jdk_42m66_36) rfl rfl (pc' := 37) rfl ?_
  refine ow_getF X5 hx hZ hown (host := "") (Or.inl (hw _ (List.mem_of_getElem? (i := 35) rfl))) Via.refl e5 F_v (hb hby d_jdk_42m66_37) (pc' := 40) rfl (fun T6 X6 e6 => ?_)
  refine ow_aloadN X6 hx (hb hby d_jdk_42m66_40) rfl rfl (pc' := 41) rfl ?_
  refine ow_getF X6 hx hZ hown (host := "") (Or.inl (hw _ (List.mem_of_getElem? (i := 35) rfl))) Via.refl e6 F_sv (hb hby d_jdk_42m66_41) (pc' := 44) rfl (fun T7 X7 e7 => ?_)
  refine ow_callPI X7 hx hZ hown (hw _ (List.mem_of_getElem? (i := 93) rfl)) (hw _ (List.mem_of_getElem? (i := 94) rfl)) (hw _ (List.mem_of_getElem? (i := 95) rfl)) (hw _ (List.mem_of_getElem? (i := 96) rfl)) (by decide) (rm_eql3 l Z a0 hw [] oa ob ka kb x0 x1 x2 w0 w1 w2 h0 V_a V_b (by first | assumption | decide | omega) (by first | assumption | decide | omega) (by first | assumption | decide | omega)) e7 0 (by decide) (by decide) (by decide) (by decide) [(.ref oa), (.ref ob)] (by rw [hml]; rfl) pd_2 rfl rfl rfl (Nat.le_of_eq rfl) (hb hby d_jdk_42m66_44) (pc' := 47) rfl (fun z8 T8 hz8 X8 e8 => ?_)
  have az8 : z8.toInt = 1 := hz8
  have rz8 := rng32 z8
  refine ow_if_eq X8 hx (z8.toInt) (hb hby d_jdk_42m66_47) rfl (by decide) (pt := 54) (by decide) (pf := 50) rfl (fun c47 => absurd c47 (by omega)) (fun c47 => ?_)
  refine ow_iconst X8 hx (z := (1 : Int32)) (hb hby d_jdk_42m66_50) rfl (pc' := 51) rfl ?_
  refine ow_goto X8 hx (hb hby d_jdk_42m66_51) (by decide) (pc' := 55) (by decide) ?_
  exact ow_retB X8 hx hret hlk (hb hby d_jdk_42m66_55) (by decide) (by decide) (z' := (1 : Int32)) rfl ⟨(1 : Int32), rfl, (show (1 : Int) = 1 from by omega), rfl, e8⟩
theorem d_jdk_31m11_0 : decode jdk_31_method_11_code 0 = .ok (.aload_n 0, 1) := by decide +kernel
theorem d_jdk_31m11_1 : decode jdk_31_method_11_code 1 = .ok (.ifnonnull 12, 3) := by decide +kernel
theorem d_jdk_31m11_13 : decode jdk_31_method_11_code 13 = .ok (.aload_n 0, 1) := by decide +kernel
theorem d_jdk_31m11_14 : decode jdk_31_method_11_code 14 = .ok (.areturn, 1) := by decide +kernel
theorem ef_rnn (m : MethodId) (x0 : Addr) (x1 : Addr) : entryFrame m #[(.ref x0), (.ref x1)] 2 = mkF m 0 #[.val (.ref x0), .val (.ref x1)] [] := by first | (simp [entryFrame, mkF, argsToLocals, Value.category]; done) | rfl
theorem pn_3 : plainName "java/util/Objects" = true := by first | (simp [plainName, overriddenIn]; done) | decide +kernel
set_option maxRecDepth 65536 in
set_option maxHeartbeats 40000000 in
theorem rm_rnn (l : Launch) (Z : State) (a0 : Array Value) (hw : ∀ d ∈ tables_1, d.before a0 Z = true) (ws : List Jvm.Cond) (o : Addr) (os : Addr) (h0 : Heap) :
    MetFree l (⟨"java/util/Objects", "requireNonNull", "(Ljava/lang/Object;Ljava/lang/String;)Ljava/lang/Object;"⟩ : MethodName) (head1 (Jvm.Cond.code (⟨"java/util/Objects", "requireNonNull", "(Ljava/lang/Object;Ljava/lang/String;)Ljava/lang/Object;"⟩ : MethodName) jdk_31_method_11_code 2 (some (.object "java/lang/Object")) :: ws) ({ frames := 0, cells := 0, slots := 0, locals := 0 } : Room)) (fun a_ U_ => a_ = #[(.ref o), (.ref os)] ∧ Z.Warmed39 U_.vm ∧ U_.heap = h0) (fun _ _ _ _ _ => True) (fun _ U_ o_ U_' => ∃ v_ L_, o_ = .returned v_ ∧ (QW (.ref o) h0) v_ U_'.heap L_ ∧ FrameEnd U_ o_ U_' L_ 0 0) := by
  refine ow_body (plainFor_of_name pn_3) ?_
  intro p e s m below meth c T0 X0 hx hZ hby hml hown hnm hret hlk e0
  refine Ends.cast (ef_rnn m o os) ?_
  refine ow_aloadN X0 hx (hb hby d_jdk_31m11_0) rfl rfl (pc' := 1) rfl ?_
  refine ow_ifnonnullY X0 hx (hb hby d_jdk_31m11_1) (by decide) (pc' := 13) (by decide) ?_
  refine ow_aloadN X0 hx (hb hby d_jdk_31m11_13) rfl rfl (pc' := 14) rfl ?_
  exact ow_retA X0 hx hret hlk rfl rfl (hb hby d_jdk_31m11_14) (by decide) (by decide) ⟨rfl, rfl, e0⟩
theorem d_prog_6m1_0 : decode prog_6_method_1_code 0 = .ok (.aload_n 0, 1) := by decide +kernel
theorem d_prog_6m1_1 : decode prog_6_method_1_code 1 = .ok (.invokespecial 1, 3) := by decide +kernel
theorem d_prog_6m1_4 : decode prog_6_method_1_code 4 = .ok (.aload_n 0, 1) := by decide +kernel
theorem d_prog_6m1_5 : decode prog_6_method_1_code 5 = .ok (.aload_n 1, 1) := by decide +kernel
theorem d_prog_6m1_6 : decode prog_6_method_1_code 6 = .ok (.putfield 7, 3) := by decide +kernel
theorem d_prog_6m1_9 : decode prog_6_method_1_code 9 = .ok (.aload_n 0, 1) := by decide +kernel
theorem d_prog_6m1_10 : decode prog_6_method_1_code 10 = .ok (.aload_n 2, 1) := by decide +kernel
theorem d_prog_6m1_11 : decode prog_6_method_1_code 11 = .ok (.putfield 13, 3) := by decide +kernel
theorem d_prog_6m1_14 : decode prog_6_method_1_code 14 = .ok (.aload_n 0, 1) := by decide +kernel
theorem d_prog_6m1_15 : decode prog_6_method_1_code 15 = .ok (.aload_n 3, 1) := by decide +kernel
theorem d_prog_6m1_16 : decode prog_6_method_1_code 16 = .ok (.putfield 17, 3) := by decide +kernel
theorem d_prog_6m1_19 : decode prog_6_method_1_code 19 = .ok (.return_, 1) := by decide +kernel
theorem ef_rsIn (m : MethodId) (x0 : Addr) (x1 : Addr) (x2 : Addr) : entryFrame m #[(.ref x0), (.ref x1), (.ref x2), .null] 4 = mkF m 0 #[.val (.ref x0), .val (.ref x1), .val (.ref x2), .val .null] [] := by first | (simp [entryFrame, mkF, argsToLocals, Value.category]; done) | rfl
def Q_rsIn (Z : State) (o : Addr) (ob : Addr) (os : Addr) (h0 : Heap) (n0 : Nat) (v : Option Value) (h : Heap) (L : List Loc) : Prop := (v = none) ∧ (Fr n0 L) ∧ (Keep h0 h [o]) ∧ (Exa Z h o "com/example/inchworm/inchworm/handler/Action$Result") ∧ (Fld Z h o "com/example/inchworm/inchworm/handler/Action$Result" "bytes" "[B" (.ref ob)) ∧ (Fld Z h o "com/example/inchworm/inchworm/handler/Action$Result" "mediaType" "Ljava/lang/String;" (.ref os)) ∧ (Fld Z h o "com/example/inchworm/inchworm/handler/Action$Result" "reason" "Ljava/lang/String;" .null)
theorem pn_4 : plainName "com/example/inchworm/inchworm/handler/Action$Result" = true := by first | (simp [plainName, overriddenIn]; done) | decide +kernel
set_option maxRecDepth 65536 in
set_option maxHeartbeats 40000000 in
theorem rm_rsIn (l : Launch) (Z : State) (a0 : Array Value) (hw : ∀ d ∈ tables_1, d.before a0 Z = true) (ws : List Jvm.Cond) (o : Addr) (ob : Addr) (os : Addr) (h0 : Heap) (n0 : Nat) (Z0 : n0 ≤ h0.size) (E_o : Exa Z h0 o "com/example/inchworm/inchworm/handler/Action$Result") (F_b : Fld Z h0 o "com/example/inchworm/inchworm/handler/Action$Result" "bytes" "[B" .null) (F_m : Fld Z h0 o "com/example/inchworm/inchworm/handler/Action$Result" "mediaType" "Ljava/lang/String;" .null) (F_r : Fld Z h0 o "com/example/inchworm/inchworm/handler/Action$Result" "reason" "Ljava/lang/String;" .null) (g_o : n0 ≤ o) :
    MetFree l (⟨"com/example/inchworm/inchworm/handler/Action$Result", "<init>", "([BLjava/lang/String;Ljava/lang/String;)V"⟩ : MethodName) (head1 (Jvm.Cond.code (⟨"com/example/inchworm/inchworm/handler/Action$Result", "<init>", "([BLjava/lang/String;Ljava/lang/String;)V"⟩ : MethodName) prog_6_method_1_code 4 none :: ws) ({ frames := 1, cells := 0, slots := 0, locals := 12 } : Room)) (fun a_ U_ => a_ = #[(.ref o), (.ref ob), (.ref os), .null] ∧ Z.Warmed39 U_.vm ∧ U_.heap = h0) (fun _ _ _ _ _ => True) (fun _ U_ o_ U_' => ∃ v_ L_, o_ = .returned v_ ∧ (Q_rsIn Z o ob os h0 n0) v_ U_'.heap L_ ∧ FrameEnd U_ o_ U_' L_ 0 0) := by
  refine ow_body (plainFor_of_name pn_4) ?_
  intro p e s m below meth c T0 X0 hx hZ hby hml hown hnm hret hlk e0
  have N0 := Fr.nil n0
  refine Ends.cast (ef_rsIn m o ob os) ?_
  refine ow_aloadN X0 hx (hb hby d_prog_6m1_0) rfl rfl (pc' := 1) rfl ?_
  refine ow_init0 X0 hx hZ hown (hw _ (List.mem_of_getElem? (i := 57) rfl)) (hw _ (List.mem_of_getElem? (i := 20) rfl)) (hw _ (List.mem_of_getElem? (i := 21) rfl)) e0 0 (by decide) (by decide) (by rw [hml]; rfl) (Nat.le_of_eq rfl) (hb hby d_prog_6m1_1) (pc' := 4) rfl (fun T1 X1 e1 => ?_)
  refine ow_aloadN X1 hx (hb hby d_prog_6m1_4) rfl rfl (pc' := 5) rfl ?_
  refine ow_aloadN X1 hx (hb hby d_prog_6m1_5) rfl rfl (pc' := 6) rfl ?_
  refine ow_putF X1 hx hZ hown (host := "") (Or.inl (hw _ (List.mem_of_getElem? (i := 58) rfl))) Via.refl e1 F_b E_o (Or.inr ⟨(hw _ (List.mem_of_getElem? (i := 59) rfl)), rfl, hnm⟩) (hw _ (List.mem_of_getElem? (i := 42) rfl)) (ty := (.array .byte)) (by decide) rfl rfl (hb hby d_prog_6m1_6) (pc' := 9) rfl (fun T2 h2 X2 e2 W2 => ?_)
  have F_o_bytes_2 := F_b.same W2
  have E_o_2 := E_o.wr W2
  have F_o_mediaType_2 := F_m.other W2 (Or.inr (slot_ne (Or.inr (hw _ (List.mem_of_getElem? (i := 61) rfl))) (Or.inr (hw _ (List.mem_of_getElem? (i := 59) rfl))) (by decide) (t := (.object "java/lang/String")) (t' := (.array .byte)) (by decide) (by decide)))
  have F_o_reason_2 := F_r.other W2 (Or.inr (slot_ne (Or.inr (hw _ (List.mem_of_getElem? (i := 63) rfl))) (Or.inr (hw _ (List.mem_of_getElem? (i := 59) rfl))) (by decide) (t := (.object "java/lang/String")) (t' := (.array .byte)) (by decide) (by decide)))
  have Zs2 : n0 ≤ h2.size := Nat.le_trans Z0 (Keep.of_wr W2).1
  have K2 := (Keep.refl h0 [o]).wr W2 (Or.inl (List.mem_of_getElem? (i := 0) rfl))
  have N2 := Fr.snoc X2 N0 g_o
  refine ow_aloadN X2 hx (hb hby d_prog_6m1_9) rfl rfl (pc' := 10) rfl ?_
  refine ow_aloadN X2 hx (hb hby d_prog_6m1_10) rfl rfl (pc' := 11) rfl ?_
  refine ow_putF X2 hx hZ hown (host := "") (Or.inl (hw _ (List.mem_of_getElem? (i := 60) rfl))) Via.refl e2 F_o_mediaType_2 E_o_2 (Or.inr ⟨(hw _ (List.mem_of_getElem? (i := 61) rfl)), rfl, hnm⟩) (hw _ (List.mem_of_getElem? (i := 42) rfl)) (ty := (.object "java/lang/String")) (by decide) rfl rfl (hb hby d_prog_6m1_11) (pc' := 14) rfl (fun T3 h3 X3 e3 W3 => ?_)
  have F_o_mediaType_3 := F_o_mediaType_2.same W3
  have E_o_3 := E_o_2.wr W3
  have F_o_reason_3 := F_o_reason_2.other W3 (Or.inr (slot_ne (Or.inr (hw _ (List.mem_of_getElem? (i := 63) rfl))) (Or.inr (hw _ (List.mem_of_getElem? (i := 61) rfl))) (by decide) (t := (.object "java/lang/String")) (t' := (.object "java/lang/String")) (by decide) (by decide)))
  have F_o_bytes_3 := F_o_bytes_2.other W3 (Or.inr (slot_ne (Or.inr (hw _ (List.mem_of_getElem? (i := 59) rfl))) (Or.inr (hw _ (List.mem_of_getElem? (i := 61) rfl))) (by decide) (t := (.array .byte)) (t' := (.object "java/lang/String")) (by decide) (by decide)))
  have Zs3 : n0 ≤ h3.size := Nat.le_trans Zs2 (Keep.of_wr W3).1
  have K3 := K2.wr W3 (Or.inl (List.mem_of_getElem? (i := 0) rfl))
  have N3 := Fr.snoc X3 N2 g_o
  refine ow_aloadN X3 hx (hb hby d_prog_6m1_14) rfl rfl (pc' := 15) rfl ?_
  refine ow_aloadN X3 hx (hb hby d_prog_6m1_15) rfl rfl (pc' := 16) rfl ?_
  refine ow_putF X3 hx hZ hown (host := "") (Or.inl (hw _ (List.mem_of_getElem? (i := 62) rfl))) Via.refl e3 F_o_reason_3 E_o_3 (Or.inr ⟨(hw _ (List.mem_of_getElem? (i := 63) rfl)), rfl, hnm⟩) (hw _ (List.mem_of_getElem? (i := 42) rfl)) (ty := (.object "java/lang/String")) (by decide) rfl rfl (hb hby d_prog_6m1_16) (pc' := 19) rfl (fun T4 h4 X4 e4 W4 => ?_)
  have F_o_reason_4 := F_o_reason_3.same W4
  have E_o_4 := E_o_3.wr W4
  have F_o_bytes_4 := F_o_bytes_3.other W4 (Or.inr (slot_ne (Or.inr (hw _ (List.mem_of_getElem? (i := 59) rfl))) (Or.inr (hw _ (List.mem_of_getElem? (i := 63) rfl))) (by decide) (t := (.array .byte)) (t' := (.object "java/lang/String")) (by decide) (by decide)))
  have F_o_mediaType_4 := F_o_mediaType_3.other W4 (Or.inr (slot_ne (Or.inr (hw _ (List.mem_of_getElem? (i := 61) rfl))) (Or.inr (hw _ (List.mem_of_getElem? (i := 63) rfl))) (by decide) (t := (.object "java/lang/String")) (t' := (.object "java/lang/String")) (by decide) (by decide)))
  have Zs4 : n0 ≤ h4.size := Nat.le_trans Zs3 (Keep.of_wr W4).1
  have K4 := K3.wr W4 (Or.inl (List.mem_of_getElem? (i := 0) rfl))
  have N4 := Fr.snoc X4 N3 g_o
  exact ow_retV X4 hx hret hlk (hb hby d_prog_6m1_19) (by decide) (by decide) (show Q_rsIn Z o ob os h0 n0 _ T4.heap _ from by rw [e4]; exact ⟨rfl, N4, K4, E_o_4, F_o_bytes_4, F_o_mediaType_4, F_o_reason_4⟩)
theorem pd_3 : parseMethodDescriptor "(Ljava/lang/Object;Ljava/lang/String;)Ljava/lang/Object;" = some ⟨[(.object "java/lang/Object"), (.object "java/lang/String")], some (.object "java/lang/Object")⟩ := by decide +kernel
theorem pd_4 : parseMethodDescriptor "([BLjava/lang/String;Ljava/lang/String;)V" = some ⟨[(.array .byte), (.object "java/lang/String"), (.object "java/lang/String")], none⟩ := by decide +kernel
theorem d_prog_6m2_0 : decode prog_6_method_2_code 0 = .ok (.new 8, 3) := by decide +kernel
theorem d_prog_6m2_3 : decode prog_6_method_2_code 3 = .ok (.dup, 1) := by decide +kernel
theorem d_prog_6m2_4 : decode prog_6_method_2_code 4 = .ok (.aload_n 0, 1) := by decide +kernel
theorem d_prog_6m2_5 : decode prog_6_method_2_code 5 = .ok (.ldc 20, 2) := by decide +kernel
theorem d_prog_6m2_7 : decode prog_6_method_2_code 7 = .ok (.invokestatic 21, 3) := by decide +kernel
theorem d_prog_6m2_10 : decode prog_6_method_2_code 10 = .ok (.checkcast 27, 3) := by decide +kernel
theorem d_prog_6m2_13 : decode prog_6_method_2_code 13 = .ok (.aload_n 1, 1) := by decide +kernel
theorem d_prog_6m2_14 : decode prog_6_method_2_code 14 = .ok (.ldc 28, 2) := by decide +kernel
theorem d_prog_6m2_16 : decode prog_6_method_2_code 16 = .ok (.invokestatic 21, 3) := by decide +kernel
theorem d_prog_6m2_19 : decode prog_6_method_2_code 19 = .ok (.checkcast 29, 3) := by decide +kernel
theorem d_prog_6m2_22 : decode prog_6_method_2_code 22 = .ok (.aconst_null, 1) := by decide +kernel
theorem d_prog_6m2_23 : decode prog_6_method_2_code 23 = .ok (.invokespecial 31, 3) := by decide +kernel
theorem d_prog_6m2_26 : decode prog_6_method_2_code 26 = .ok (.areturn, 1) := by decide +kernel
theorem ef_repl (m : MethodId) (x0 : Addr) (x1 : Addr) : entryFrame m #[(.ref x0), (.ref x1)] 2 = mkF m 0 #[.val (.ref x0), .val (.ref x1)] [] := by first | (simp [entryFrame, mkF, argsToLocals, Value.category]; done) | rfl
def Q_repl (Z : State) (ob : Addr) (os : Addr) (h0 : Heap) (n0 : Nat) (v : Option Value) (h : Heap) (L : List Loc) (vm : Vm) : Prop := ∃ (ow : Addr), (v = some (.ref ow)) ∧ (Fr n0 L) ∧ (Keep h0 h []) ∧ (Exa Z h ow "com/example/inchworm/inchworm/handler/Action$Result") ∧ (Fld Z h ow "com/example/inchworm/inchworm/handler/Action$Result" "bytes" "[B" (.ref ob)) ∧ (Fld Z h ow "com/example/inchworm/inchworm/handler/Action$Result" "mediaType" "Ljava/lang/String;" (.ref os)) ∧ (Fld Z h ow "com/example/inchworm/inchworm/handler/Action$Result" "reason" "Ljava/lang/String;" .null)
set_option maxRecDepth 65536 in
set_option maxHeartbeats 40000000 in
theorem rm_repl (l : Launch) (Z : State) (a0 : Array Value) (hw : ∀ d ∈ tables_1, d.before a0 Z = true) (ws : List Jvm.Cond) (hcw : Jvm.Lit.compactW.before a0 Z = true) (hch : ∀ q ∈ consts_1, Jvm.Lit.constHeld Z q.1 q.2) (ob : Addr) (os : Addr) (h0 : Heap) (n0 : Nat) (Z0 : n0 ≤ h0.size) (hzk : ∀ (b : Addr) (cl : Cell), Z.heap[b]? = some cl → h0[b]? = some cl) (hzn : Z.heap.size ≤ n0) (E_b : Exa Z h0 ob "[B") (E_s : Exa Z h0 os "java/lang/String") :
    MetFree l (⟨"com/example/inchworm/inchworm/handler/Action$Result", "replace", "([BLjava/lang/String;)Lcom/example/inchworm/inchworm/handler/Action$Result;"⟩ : MethodName) (head1 (Jvm.Cond.code (⟨"com/example/inchworm/inchworm/handler/Action$Result", "replace", "([BLjava/lang/String;)Lcom/example/inchworm/inchworm/handler/Action$Result;"⟩ : MethodName) prog_6_method_2_code 2 (some (.object "com/example/inchworm/inchworm/handler/Action$Result")) :: ws) ({ frames := 2, cells := 5, slots := 67, locals := 28 } : Room)) (fun a_ U_ => a_ = #[(.ref ob), (.ref os)] ∧ Z.Warmed39 U_.vm ∧ U_.heap = h0 ∧ LT Z [""] [] U_.vm) (fun _ _ _ _ _ => True) (fun _ U_ o_ U_' => ∃ v_ L_, o_ = .returned v_ ∧ (Q_repl Z ob os h0 n0) v_ U_'.heap L_ U_'.vm ∧ ReturnedEndW U_ o_ U_' L_ 5 67) := by
  refine ow_bodyI (plainFor_of_name pn_4) ?_
  intro p e s m below meth c T0 X0 hx hZ hby hml hown hnm hret hlk e0 es hS0 hI0
  have N0 := Fr.nil n0
  refine Ends.cast (ef_repl m ob os) ?_
  refine ow_new X0 hx hZ hown (hw _ (List.mem_of_getElem? (i := 41) rfl)) (hw _ (List.mem_of_getElem? (i := 42) rfl)) (hw _ (List.mem_of_getElem? (i := 39) rfl)) e0 (hb hby d_prog_6m2_0) (by decide) (by decide) (pc' := 3) rfl (fun T1 h1 b1 g1 X1 e1 E1 A1 D1 => ?_)
  have ne_ob_b1 : ob ≠ b1 := Nat.ne_of_lt (Nat.lt_of_lt_of_le E_b.lt (Nat.le_of_eq g1.symm))
  have ne_os_b1 : os ≠ b1 := Nat.ne_of_lt (Nat.lt_of_lt_of_le E_s.lt (Nat.le_of_eq g1.symm))
  have g_b1 : n0 ≤ b1 := Nat.le_trans Z0 (Nat.le_of_eq g1.symm)
  have sz_b1 : h0.size ≤ b1 := Nat.le_trans (Keep.refl h0 []).1 (Nat.le_of_eq g1.symm)
  have E_ob_1 := E_b.ext E1
  have E_os_1 := E_s.ext E1
  have Zs1 : n0 ≤ h1.size := Nat.le_trans Z0 E1.1
  have K1 := (Keep.refl h0 []).ext E1
  have F_b1_bytes : Fld Z h1 b1 "com/example/inchworm/inchworm/handler/Action$Result" "bytes" "[B" .null := D1 (Or.inr (hw _ (List.mem_of_getElem? (i := 59) rfl))) (ty := (.array .byte)) (by decide)
  have F_b1_mediaType : Fld Z h1 b1 "com/example/inchworm/inchworm/handler/Action$Result" "mediaType" "Ljava/lang/String;" .null := D1 (Or.inr (hw _ (List.mem_of_getElem? (i := 61) rfl))) (ty := (.object "java/lang/String")) (by decide)
  have F_b1_reason : Fld Z h1 b1 "com/example/inchworm/inchworm/handler/Action$Result" "reason" "Ljava/lang/String;" .null := D1 (Or.inr (hw _ (List.mem_of_getElem? (i := 63) rfl))) (ty := (.object "java/lang/String")) (by decide)
  refine ow_dup X1 hx (hb hby d_prog_6m2_3) rfl (pc' := 4) rfl ?_
  refine ow_aloadN X1 hx (hb hby d_prog_6m2_4) rfl rfl (pc' := 5) rfl ?_
  have wS2 : ∀ a ∈ Bundle.stringAtoms, a.before a0 Z = true := fun a ha => by
    simp only [Bundle.stringAtoms, Bundle.sN, List.mem_cons, List.not_mem_nil, or_false] at ha
    rcases ha with rfl | rfl | rfl | rfl | rfl | rfl | rfl
    · exact (hw _ (List.mem_of_getElem? (i := 10) rfl))
    · exact (hw _ (List.mem_of_getElem? (i := 9) rfl))
    · exact (hw _ (List.mem_of_getElem? (i := 4) rfl))
    · exact (hw _ (List.mem_of_getElem? (i := 36) rfl))
    · exact (hw _ (List.mem_of_getElem? (i := 34) rfl))
    · exact (hw _ (List.mem_of_getElem? (i := 44) rfl))
    · exact (hw _ (List.mem_of_getElem? (i := 45) rfl))
  refine ow_ldcI X1 hx hZ hown (hw _ (List.mem_of_getElem? (i := 43) rfl)) wS2 e1 hS0 (Nat.zero_le _) (Fr.nil _) (by rw [es]; exact hzk) hI0 (by decide) (hch _ (List.mem_of_getElem? (i := 0) rfl)) hcw (vs := [(.int (98 : Int32)), (.int (121 : Int32)), (.int (116 : Int32)), (.int (101 : Int32)), (.int (115 : Int32))]) (z := (5 : Int32)) ⟨by decide, by decide⟩ (by decide) (by decide) (hb hby d_prog_6m2_5) 20 (by decide) (by decide) (by decide) (by decide) (pc' := 7) rfl (fun a2 T2 h2 k2 t2 kt2 X2 e2 E2 hS2 hk2 hZ hown Ea2 Fc2 Fv2 Va2 hI2 => ?_)
  have E_ob_2 := E_ob_1.ext E2
  have E_os_2 := E_os_1.ext E2
  have E_b1_2 := A1.ext E2
  have F_b1_bytes_2 := F_b1_bytes.ext E2
  have F_b1_mediaType_2 := F_b1_mediaType.ext E2
  have F_b1_reason_2 := F_b1_reason.ext E2
  have Zs2 : n0 ≤ h2.size := Nat.le_trans Zs1 E2.1
  have K2 := K1.ext E2
  refine ow_callS X2 hx hZ hown (hw _ (List.mem_of_getElem? (i := 46) rfl)) (hw _ (List.mem_of_getElem? (i := 47) rfl)) (hw _ (List.mem_of_getElem? (i := 48) rfl)) (hw _ (List.mem_of_getElem? (i := 49) rfl)) (by decide) (rm_rnn l Z a0 hw [] ob a2 h2 ) e2 2 (by decide) (by decide) (by decide) (by decide) [(.ref ob), (.ref a2)] (by rw [hml]; rfl) pd_3 rfl rfl rfl (Nat.le_of_eq rfl) (hb hby d_prog_6m2_7) (pc' := 10) rfl (fun v3 T3 L3 hQ3 X3 => ?_)
  obtain ⟨rfl, rfl, e3⟩ := hQ3
  rw [List.append_nil] at X3
  show Ends _ _ _ _ T3 (mkF m 10 #[.val (.ref ob), .val (.ref os)] [(.ref ob), (.ref b1), (.ref b1)])
  refine ow_castY X3 hx hZ hown (hw _ (List.mem_of_getElem? (i := 50) rfl)) e3 (Ins.self E_ob_2) (hb hby d_prog_6m2_10) (pc' := 13) rfl (fun T4 X4 e4 => ?_)
  refine ow_aloadN X4 hx (hb hby d_prog_6m2_13) rfl rfl (pc' := 14) rfl ?_
  have wS5 : ∀ a ∈ Bundle.stringAtoms, a.before a0 Z = true := fun a ha => by
    simp only [Bundle.stringAtoms, Bundle.sN, List.mem_cons, List.not_mem_nil, or_false] at ha
    rcases ha with rfl | rfl | rfl | rfl | rfl | rfl | rfl
    · exact (hw _ (List.mem_of_getElem? (i := 10) rfl))
    · exact (hw _ (List.mem_of_getElem? (i := 9) rfl))
    · exact (hw _ (List.mem_of_getElem? (i := 4) rfl))
    · exact (hw _ (List.mem_of_getElem? (i := 36) rfl))
    · exact (hw _ (List.mem_of_getElem? (i := 34) rfl))
    · exact (hw _ (List.mem_of_getElem? (i := 44) rfl))
    · exact (hw _ (List.mem_of_getElem? (i := 45) rfl))
  refine ow_ldcI X4 hx hZ hown (hw _ (List.mem_of_getElem? (i := 52) rfl)) wS5 e4 hS2 hk2 (Fr.nil _) (by rw [es]; exact hzk) hI2 (by decide) (hch _ (List.mem_of_getElem? (i := 1) rfl)) hcw (vs := [(.int (109 : Int32)), (.int (101 : Int32)), (.int (100 : Int32)), (.int (105 : Int32)), (.int (97 : Int32)), (.int (84 : Int32)), (.int (121 : Int32)), (.int (112 : Int32)), (.int (101 : Int32))]) (z := (9 : Int32)) ⟨by decide, by decide⟩ (by decide) (by decide) (hb hby d_prog_6m2_14) 36 (by decide) (by decide) (by decide) (by decide) (pc' := 16) rfl (fun a5 T5 h5 k5 t5 kt5 X5 e5 E5 hS5 hk5 hZ hown Ea5 Fc5 Fv5 Va5 hI5 => ?_)
  have E_ob_5 := E_ob_2.ext E5
  have E_os_5 := E_os_2.ext E5
  have E_b1_5 := E_b1_2.ext E5
  have F_b1_bytes_5 := F_b1_bytes_2.ext E5
  have F_b1_mediaType_5 := F_b1_mediaType_2.ext E5
  have F_b1_reason_5 := F_b1_reason_2.ext E5
  have Zs5 : n0 ≤ h5.size := Nat.le_trans Zs2 E5.1
  have hks5 : k2 ≤ h5.size := Nat.le_trans hk2 E5.1
  have K5 := K2.ext E5
  refine ow_callS X5 hx hZ hown (hw _ (List.mem_of_getElem? (i := 46) rfl)) (hw _ (List.mem_of_getElem? (i := 47) rfl)) (hw _ (List.mem_of_getElem? (i := 48) rfl)) (hw _ (List.mem_of_getElem? (i := 49) rfl)) (by decide) (rm_rnn l Z a0 hw [] os a5 h5 ) e5 3 (by decide) (by decide) (by decide) (by decide) [(.ref os), (.ref a5)] (by rw [hml]; rfl) pd_3 rfl rfl rfl (Nat.le_of_eq rfl) (hb hby d_prog_6m2_16) (pc' := 19) rfl (fun v6 T6 L6 hQ6 X6 => ?_)
  obtain ⟨rfl, rfl, e6⟩ := hQ6
  rw [List.append_nil] at X6
  show Ends _ _ _ _ T6 (mkF m 19 #[.val (.ref ob), .val (.ref os)] [(.ref os), (.ref ob), (.ref b1), (.ref b1)])
  refine ow_castY X6 hx hZ hown (hw _ (List.mem_of_getElem? (i := 53) rfl)) e6 (Ins.self E_os_5) (hb hby d_prog_6m2_19) (pc' := 22) rfl (fun T7 X7 e7 => ?_)
  refine ow_aconstNull X7 hx (hb hby d_prog_6m2_22) (pc' := 23) rfl ?_
  refine ow_callI X7 hx hZ rfl rfl hown (hw _ (List.mem_of_getElem? (i := 54) rfl)) (hw _ (List.mem_of_getElem? (i := 55) rfl)) (hw _ (List.mem_of_getElem? (i := 39) rfl)) (hw _ (List.mem_of_getElem? (i := 56) rfl)) (by decide) (rm_rsIn l Z a0 hw [] b1 ob os h5 n0 Zs5 E_b1_5 F_b1_bytes_5 F_b1_mediaType_5 F_b1_reason_5 g_b1) e7 1 (by decide) (by decide) (by decide) (by decide) [(.ref ob), (.ref os), .null] (by rw [hml]; rfl) pd_4 rfl rfl rfl (Nat.le_of_eq rfl) (hb hby d_prog_6m2_23) (pc' := 26) rfl (fun v8 T8 L8 hQ8 X8 => ?_)
  obtain ⟨rfl, Nc8, Kc8, P8_0, P8_1, P8_2, P8_3⟩ := hQ8
  have E_ob_8 := E_ob_5.keep Kc8
  have E_os_8 := E_os_5.keep Kc8
  have Zs8 : n0 ≤ T8.heap.size := Nat.le_trans Zs5 Kc8.1
  have hks8 : k5 ≤ T8.heap.size := Nat.le_trans hk5 Kc8.1
  have K8 := K5.trans Kc8 (allS (Or.inr sz_b1) all0)
  have N8 := Fr.app N0 Nc8
  show Ends _ _ _ _ T8 (mkF m 26 #[.val (.ref ob), .val (.ref os)] [(.ref b1)])
  exact ow_retAI X8 hx hret hlk rfl rfl (hb hby d_prog_6m2_26) hS5 hks8 (by decide) (by decide) (show Q_repl Z ob os h0 n0 _ T8.heap _ _ from ⟨b1, rfl, N8, K8, P8_0, P8_1, P8_2, P8_3⟩)
theorem d_prog_6m4_0 : decode prog_6_method_4_code 0 = .ok (.aload_n 0, 1) := by decide +kernel
theorem d_prog_6m4_1 : decode prog_6_method_4_code 1 = .ok (.getfield 17, 3) := by decide +kernel
theorem d_prog_6m4_4 : decode prog_6_method_4_code 4 = .ok (.ifnull 7, 3) := by decide +kernel
theorem d_prog_6m4_11 : decode prog_6_method_4_code 11 = .ok (.iconst 0, 1) := by decide +kernel
theorem d_prog_6m4_12 : decode prog_6_method_4_code 12 = .ok (.ireturn, 1) := by decide +kernel
theorem ef_refd (m : MethodId) (x0 : Addr) : entryFrame m #[(.ref x0)] 1 = mkF m 0 #[.val (.ref x0)] [] := by first | (simp [entryFrame, mkF, argsToLocals, Value.category]; done) | rfl
set_option maxRecDepth 65536 in
set_option maxHeartbeats 40000000 in
theorem rm_refd (l : Launch) (Z : State) (a0 : Array Value) (hw : ∀ d ∈ tables_1, d.before a0 Z = true) (ws : List Jvm.Cond) (o : Addr) (h0 : Heap) (F_r : Fld Z h0 o "com/example/inchworm/inchworm/handler/Action$Result" "reason" "Ljava/lang/String;" .null) :
    MetFree l (⟨"com/example/inchworm/inchworm/handler/Action$Result", "refused", "()Z"⟩ : MethodName) (head1 (Jvm.Cond.code (⟨"com/example/inchworm/inchworm/handler/Action$Result", "refused", "()Z"⟩ : MethodName) prog_6_method_4_code 1 (some .boolean) :: ws) ({ frames := 0, cells := 0, slots := 0, locals := 0 } : Room)) (fun a_ U_ => a_ = #[(.ref o)] ∧ Z.Warmed39 U_.vm ∧ U_.heap = h0) (fun _ _ _ _ _ => True) (fun _ U_ o_ U_' => ∃ v_ L_, o_ = .returned v_ ∧ (QI (fun z => z.toInt = 0) h0) v_ U_'.heap L_ ∧ FrameEnd U_ o_ U_' L_ 0 0) := by
  refine ow_body (plainFor_of_name pn_4) ?_
  intro p e s m below meth c T0 X0 hx hZ hby hml hown hnm hret hlk e0
  refine Ends.cast (ef_refd m o) ?_
  refine ow_aloadN X0 hx (hb hby d_prog_6m4_0) rfl rfl (pc' := 1) rfl ?_
  refine ow_getF X0 hx hZ hown (host := "") (Or.inl (hw _ (List.mem_of_getElem? (i := 62) rfl))) Via.refl e0 F_r (hb hby d_prog_6m4_1) (pc' := 4) rfl (fun T1 X1 e1 => ?_)
  refine ow_ifnullY X1 hx (hb hby d_prog_6m4_4) (by decide) (pc' := 11) (by decide) ?_
  refine ow_iconst X1 hx (z := (0 : Int32)) (hb hby d_prog_6m4_11) rfl (pc' := 12) rfl ?_
  exact ow_retB X1 hx hret hlk (hb hby d_prog_6m4_12) (by decide) (by decide) (z' := (0 : Int32)) rfl ⟨(0 : Int32), rfl, (show (0 : Int) = 0 from by decide), rfl, e1⟩
theorem d_prog_6m5_0 : decode prog_6_method_5_code 0 = .ok (.aload_n 0, 1) := by decide +kernel
theorem d_prog_6m5_1 : decode prog_6_method_5_code 1 = .ok (.getfield 7, 3) := by decide +kernel
theorem d_prog_6m5_4 : decode prog_6_method_5_code 4 = .ok (.areturn, 1) := by decide +kernel
theorem ef_rsB (m : MethodId) (x0 : Addr) : entryFrame m #[(.ref x0)] 1 = mkF m 0 #[.val (.ref x0)] [] := by first | (simp [entryFrame, mkF, argsToLocals, Value.category]; done) | rfl
set_option maxRecDepth 65536 in
set_option maxHeartbeats 40000000 in
theorem rm_rsB (l : Launch) (Z : State) (a0 : Array Value) (hw : ∀ d ∈ tables_1, d.before a0 Z = true) (ws : List Jvm.Cond) (o : Addr) (ob : Addr) (h0 : Heap) (F_b : Fld Z h0 o "com/example/inchworm/inchworm/handler/Action$Result" "bytes" "[B" (.ref ob)) :
    MetFree l (⟨"com/example/inchworm/inchworm/handler/Action$Result", "bytes", "()[B"⟩ : MethodName) (head1 (Jvm.Cond.code (⟨"com/example/inchworm/inchworm/handler/Action$Result", "bytes", "()[B"⟩ : MethodName) prog_6_method_5_code 1 (some (.array .byte)) :: ws) ({ frames := 0, cells := 0, slots := 0, locals := 0 } : Room)) (fun a_ U_ => a_ = #[(.ref o)] ∧ Z.Warmed39 U_.vm ∧ U_.heap = h0) (fun _ _ _ _ _ => True) (fun _ U_ o_ U_' => ∃ v_ L_, o_ = .returned v_ ∧ (QW (.ref ob) h0) v_ U_'.heap L_ ∧ FrameEnd U_ o_ U_' L_ 0 0) := by
  refine ow_body (plainFor_of_name pn_4) ?_
  intro p e s m below meth c T0 X0 hx hZ hby hml hown hnm hret hlk e0
  refine Ends.cast (ef_rsB m o) ?_
  refine ow_aloadN X0 hx (hb hby d_prog_6m5_0) rfl rfl (pc' := 1) rfl ?_
  refine ow_getF X0 hx hZ hown (host := "") (Or.inl (hw _ (List.mem_of_getElem? (i := 58) rfl))) Via.refl e0 F_b (hb hby d_prog_6m5_1) (pc' := 4) rfl (fun T1 X1 e1 => ?_)
  exact ow_retA X1 hx hret hlk rfl rfl (hb hby d_prog_6m5_4) (by decide) (by decide) ⟨rfl, rfl, e1⟩
theorem d_prog_6m6_0 : decode prog_6_method_6_code 0 = .ok (.aload_n 0, 1) := by decide +kernel
theorem d_prog_6m6_1 : decode prog_6_method_6_code 1 = .ok (.getfield 13, 3) := by decide +kernel
theorem d_prog_6m6_4 : decode prog_6_method_6_code 4 = .ok (.areturn, 1) := by decide +kernel
theorem ef_rsM (m : MethodId) (x0 : Addr) : entryFrame m #[(.ref x0)] 1 = mkF m 0 #[.val (.ref x0)] [] := by first | (simp [entryFrame, mkF, argsToLocals, Value.category]; done) | rfl
set_option maxRecDepth 65536 in
set_option maxHeartbeats 40000000 in
theorem rm_rsM (l : Launch) (Z : State) (a0 : Array Value) (hw : ∀ d ∈ tables_1, d.before a0 Z = true) (ws : List Jvm.Cond) (o : Addr) (os : Addr) (h0 : Heap) (F_m : Fld Z h0 o "com/example/inchworm/inchworm/handler/Action$Result" "mediaType" "Ljava/lang/String;" (.ref os)) :
    MetFree l (⟨"com/example/inchworm/inchworm/handler/Action$Result", "mediaType", "()Ljava/lang/String;"⟩ : MethodName) (head1 (Jvm.Cond.code (⟨"com/example/inchworm/inchworm/handler/Action$Result", "mediaType", "()Ljava/lang/String;"⟩ : MethodName) prog_6_method_6_code 1 (some (.object "java/lang/String")) :: ws) ({ frames := 0, cells := 0, slots := 0, locals := 0 } : Room)) (fun a_ U_ => a_ = #[(.ref o)] ∧ Z.Warmed39 U_.vm ∧ U_.heap = h0) (fun _ _ _ _ _ => True) (fun _ U_ o_ U_' => ∃ v_ L_, o_ = .returned v_ ∧ (QW (.ref os) h0) v_ U_'.heap L_ ∧ FrameEnd U_ o_ U_' L_ 0 0) := by
  refine ow_body (plainFor_of_name pn_4) ?_
  intro p e s m below meth c T0 X0 hx hZ hby hml hown hnm hret hlk e0
  refine Ends.cast (ef_rsM m o) ?_
  refine ow_aloadN X0 hx (hb hby d_prog_6m6_0) rfl rfl (pc' := 1) rfl ?_
  refine ow_getF X0 hx hZ hown (host := "") (Or.inl (hw _ (List.mem_of_getElem? (i := 60) rfl))) Via.refl e0 F_m (hb hby d_prog_6m6_1) (pc' := 4) rfl (fun T1 X1 e1 => ?_)
  exact ow_retA X1 hx hret hlk rfl rfl (hb hby d_prog_6m6_4) (by decide) (by decide) ⟨rfl, rfl, e1⟩
theorem d_prog_6m7_0 : decode prog_6_method_7_code 0 = .ok (.aload_n 0, 1) := by decide +kernel
theorem d_prog_6m7_1 : decode prog_6_method_7_code 1 = .ok (.getfield 17, 3) := by decide +kernel
theorem d_prog_6m7_4 : decode prog_6_method_7_code 4 = .ok (.areturn, 1) := by decide +kernel
theorem ef_rsR (m : MethodId) (x0 : Addr) : entryFrame m #[(.ref x0)] 1 = mkF m 0 #[.val (.ref x0)] [] := by first | (simp [entryFrame, mkF, argsToLocals, Value.category]; done) | rfl
set_option maxRecDepth 65536 in
set_option maxHeartbeats 40000000 in
theorem rm_rsR (l : Launch) (Z : State) (a0 : Array Value) (hw : ∀ d ∈ tables_1, d.before a0 Z = true) (ws : List Jvm.Cond) (o : Addr) (h0 : Heap) (F_r : Fld Z h0 o "com/example/inchworm/inchworm/handler/Action$Result" "reason" "Ljava/lang/String;" .null) :
    MetFree l (⟨"com/example/inchworm/inchworm/handler/Action$Result", "reason", "()Ljava/lang/String;"⟩ : MethodName) (head1 (Jvm.Cond.code (⟨"com/example/inchworm/inchworm/handler/Action$Result", "reason", "()Ljava/lang/String;"⟩ : MethodName) prog_6_method_7_code 1 (some (.object "java/lang/String")) :: ws) ({ frames := 0, cells := 0, slots := 0, locals := 0 } : Room)) (fun a_ U_ => a_ = #[(.ref o)] ∧ Z.Warmed39 U_.vm ∧ U_.heap = h0) (fun _ _ _ _ _ => True) (fun _ U_ o_ U_' => ∃ v_ L_, o_ = .returned v_ ∧ (QW .null h0) v_ U_'.heap L_ ∧ FrameEnd U_ o_ U_' L_ 0 0) := by
  refine ow_body (plainFor_of_name pn_4) ?_
  intro p e s m below meth c T0 X0 hx hZ hby hml hown hnm hret hlk e0
  refine Ends.cast (ef_rsR m o) ?_
  refine ow_aloadN X0 hx (hb hby d_prog_6m7_0) rfl rfl (pc' := 1) rfl ?_
  refine ow_getF X0 hx hZ hown (host := "") (Or.inl (hw _ (List.mem_of_getElem? (i := 62) rfl))) Via.refl e0 F_r (hb hby d_prog_6m7_1) (pc' := 4) rfl (fun T1 X1 e1 => ?_)
  exact ow_retA X1 hx hret hlk rfl rfl (hb hby d_prog_6m7_4) (by decide) (by decide) ⟨rfl, rfl, e1⟩
theorem pd_5 : parseMethodDescriptor "(II)[B" = some ⟨[.int, .int], some (.array .byte)⟩ := by decide +kernel
theorem pd_6 : parseMethodDescriptor "(II)Ljava/lang/String;" = some ⟨[.int, .int], some (.object "java/lang/String")⟩ := by decide +kernel
theorem pd_7 : parseMethodDescriptor "([BLjava/lang/String;)Lcom/example/inchworm/inchworm/handler/Action$Result;" = some ⟨[(.array .byte), (.object "java/lang/String")], some (.object "com/example/inchworm/inchworm/handler/Action$Result")⟩ := by decide +kernel
theorem pd_8 : parseMethodDescriptor "()Z" = some ⟨[], some .boolean⟩ := by decide +kernel
theorem pd_9 : parseMethodDescriptor "()[B" = some ⟨[], some (.array .byte)⟩ := by decide +kernel
theorem pd_10 : parseMethodDescriptor "()Ljava/lang/String;" = some ⟨[], some (.object "java/lang/String")⟩ := by decide +kernel
theorem pd_11 : parseMethodDescriptor "([BII)Z" = some ⟨[(.array .byte), .int, .int], some .boolean⟩ := by decide +kernel
theorem pd_12 : parseMethodDescriptor "(Ljava/lang/Object;)Z" = some ⟨[(.object "java/lang/Object")], some .boolean⟩ := by decide +kernel
theorem ef_law (m : MethodId) (x0 : Int32) (x1 : Int32) (x2 : Int32) (x3 : Int32) : entryFrame m #[(.int x0), (.int x1), (.int x2), (.int x3)] maxLocals = mkF m 0 #[.val (.int x0), .val (.int x1), .val (.int x2), .val (.int x3), .unset, .unset, .unset, .unset, .unset, .unset, .unset, .unset, .unset, .unset] [] := by first | (simp [entryFrame, mkF, argsToLocals, Value.category, maxLocals]; done) | rfl
def Q_law (p0 : Int32) (p1 : Int32) (p2 : Int32) (p3 : Int32) (zc : Int32) (h0 : Heap) (n0 : Nat) (v : Option Value) (h : Heap) (L : List Loc) (vm : Vm) : Prop := v = some (.int 1) ∧ Fr n0 L
set_option maxRecDepth 65536 in
set_option maxHeartbeats 40000000 in
theorem rm_law (l : Launch) (Z : State) (a0 : Array Value) (hw : ∀ d ∈ tables_1, d.before a0 Z = true) (ws : List Jvm.Cond) (hcw : Jvm.Lit.compactW.before a0 Z = true) (hch : ∀ q ∈ consts_1, Jvm.Lit.constHeld Z q.1 q.2) (p0 : Int32) (p1 : Int32) (p2 : Int32) (p3 : Int32) (zc : Int32) (h0 : Heap) (n0 : Nat) (Z0 : n0 ≤ h0.size) (hzk : ∀ (b : Addr) (cl : Cell), Z.heap[b]? = some cl → h0[b]? = some cl) (hzn : Z.heap.size ≤ n0) (hn0 : n0 = h0.size) (S_cs : Sta Z h0 "java/lang/String" "COMPACT_STRINGS" "Z" (.int zc)) (hz0 : ¬ zc.toInt = 0) (hzc : ¬ zc = 0) :
    MetFree l x (head1 (Jvm.Cond.code x code maxLocals ret :: ws) room_1) (fun a_ U_ => a_ = #[(.int p0), (.int p1), (.int p2), (.int p3)] ∧ Z.Warmed39 U_.vm ∧ U_.heap = h0 ∧ LT Z [] [] U_.vm) (fun _ _ _ _ _ => True) (fun _ U_ o_ U_' => ∃ v_ L_, o_ = .returned v_ ∧ (Q_law p0 p1 p2 p3 zc h0 n0) v_ U_'.heap L_ U_'.vm ∧ ReturnedEndW U_ o_ U_' L_ 32 3200) := by
  refine ow_bodyI (plainFor_of_name pn_0) ?_
  intro p e s m below meth c T0 X0 hx hZ hby hml hown hnm hret hlk e0 es hS0 hI0
  have N0 := Fr.nil n0
  have hret : meth.sig.returnType = (some .boolean) := hret
  refine Ends.cast (ef_law m p0 p1 p2 p3) ?_
  have r_p0 := rng32 p0
  have r_p1 := rng32 p1
  have r_p2 := rng32 p2
  have r_p3 := rng32 p3
  refine ow_iloadN X0 hx (hb hby at_0) rfl (pc' := 1) rfl ?_
  refine ow_iconst X0 hx (z := (3 : Int32)) (hb hby at_1) rfl (pc' := 2) rfl ?_
  refine ow_iand X0 hx (hb hby at_2) (pc' := 3) rfl (fun z1 hz1 => ?_)
  have az1 : z1.toInt = p0.toInt % 4 := by rw [hz1]; exact c_mask p0 (3 : Int32) 2 (by decide) (by decide)
  have rz1 := rng32 z1
  refine ow_istore X0 hx (Ls' := #[.val (.int p0), .val (.int p1), .val (.int p2), .val (.int p3), .val (.int z1), .unset, .unset, .unset, .unset, .unset, .unset, .unset, .unset, .unset]) (hb hby at_3) rfl (pc' := 5) rfl ?_
  refine ow_iloadN X0 hx (hb hby at_5) rfl (pc' := 6) rfl ?_
  refine ow_iconst X0 hx (z := (3 : Int32)) (hb hby at_6) rfl (pc' := 7) rfl ?_
  refine ow_iand X0 hx (hb hby at_7) (pc' := 8) rfl (fun z2 hz2 => ?_)
  have az2 : z2.toInt = p2.toInt % 4 := by rw [hz2]; exact c_mask p2 (3 : Int32) 2 (by decide) (by decide)
  have rz2 := rng32 z2
  refine ow_istore X0 hx (Ls' := #[.val (.int p0), .val (.int p1), .val (.int p2), .val (.int p3), .val (.int z1), .val (.int z2), .unset, .unset, .unset, .unset, .unset, .unset, .unset, .unset]) (hb hby at_8) rfl (pc' := 10) rfl ?_
  rcases (show z1.toInt = 0 ∨ z1.toInt = 1 ∨ z1.toInt = 2 ∨ z1.toInt = 3 from by omega) with hbn | hbn | hbn | hbn
  · refine ow_iload X0 hx (hb hby at_10) rfl (pc' := 12) rfl ?_
    refine ow_iloadN X0 hx (hb hby at_12) rfl (pc' := 13) rfl ?_
    refine ow_callS X0 hx hZ hown (hw _ (List.mem_of_getElem? (i := 0) rfl)) (hw _ (List.mem_of_getElem? (i := 1) rfl)) (hw _ (List.mem_of_getElem? (i := 2) rfl)) (hw _ (List.mem_of_getElem? (i := 3) rfl)) (by decide) (rm_byt0 l Z a0 hw [] z1 p1 h0 n0 Z0 (by first | assumption | decide | omega)) e0 0 (by decide) (by decide) (by decide) (by decide) [(.int z1), (.int p1)] (by rw [hml]; rfl) pd_5 rfl rfl rfl (Nat.le_of_eq rfl) (hb hby at_13) (pc' := 16) rfl (fun v4 T4 L4 hQ4 X4 => ?_)
    obtain ⟨b4, kw_4, rfl, Nc4, Kc4, P4_0, P4_1, P4_2, P4_3⟩ := hQ4
    have P4_3 : True := P4_3
    have sz_b4 : h0.size ≤ b4 := Nat.le_trans (Keep.refl h0 []).1 P4_2
    have Zs4 : n0 ≤ T4.heap.size := Nat.le_trans Z0 Kc4.1
    have K4 := (Keep.refl h0 []).trans Kc4 all0
    have N4 := Fr.app N0 Nc4
    show Ends _ _ _ _ T4 (mkF m 16 #[.val (.int p0), .val (.int p1), .val (.int p2), .val (.int p3), .val (.int z1), .val (.int z2), .unset, .unset, .unset, .unset, .unset, .unset, .unset, .unset] [(.ref b4)])
    refine ow_astore X4 hx (Ls' := #[.val (.int p0), .val (.int p1), .val (.int p2), .val (.int p3), .val (.int z1), .val (.int z2), .val (.ref b4), .unset, .unset, .unset, .unset, .unset, .unset, .unset]) (hb hby at_16) rfl rfl (pc' := 18) rfl ?_
    rcases (show z2.toInt = 0 ∨ z2.toInt = 1 ∨ z2.toInt = 2 ∨ z2.toInt = 3 from by omega) with hmn | hmn | hmn | hmn
    · refine ow_iload X4 hx (hb hby at_18) rfl (pc' := 20) rfl ?_
      refine ow_iloadN X4 hx (hb hby at_20) rfl (pc' := 21) rfl ?_
      refine ow_callSI X4 hx hZ hown (hw _ (List.mem_of_getElem? (i := 5) rfl)) (hw _ (List.mem_of_getElem? (i := 6) rfl)) (hw _ (List.mem_of_getElem? (i := 2) rfl)) (hw _ (List.mem_of_getElem? (i := 7) rfl)) (by decide) (rm_so0a l Z a0 hw [] hcw hch z2 p3 T4.heap n0 Zs4 (ow_zk hzk hzn K4 all0) hzn (by first | assumption | decide | omega)) (LT.warm hI0) hS0 (Nat.zero_le _) rfl 0 (by decide) (by decide) (by decide) (by decide) [(.int z2), (.int p3)] (by rw [hml]; rfl) pd_6 rfl rfl rfl (Nat.le_of_eq rfl) (hb hby at_21) (pc' := 24) rfl (fun v6 T6 L6 hQ6 X6 hS6 hZ hown => ?_)
      obtain ⟨b6, b6a, b6b, kt_6, rfl, Nc6, Kc6, P6_0, P6_1, P6_2, P6_3, P6_4, P6_5, P6_6, P6_7, hI6⟩ := hQ6
      have E_b4_6 := P4_0.keep Kc6
      have V_b4_6 := P4_1.keep Kc6 nin0
      have ne_b4_b6 : b4 ≠ b6 := Nat.ne_of_lt (Nat.lt_of_lt_of_le P4_0.lt P6_3)
      have sz_b6 : h0.size ≤ b6 := Nat.le_trans K4.1 P6_3
      have Zs6 : n0 ≤ T6.heap.size := Nat.le_trans Zs4 Kc6.1
      have K6 := K4.trans Kc6 all0
      have N6 := Fr.app N4 Nc6
      show Ends _ _ _ _ T6 (mkF m 24 #[.val (.int p0), .val (.int p1), .val (.int p2), .val (.int p3), .val (.int z1), .val (.int z2), .val (.ref b4), .unset, .unset, .unset, .unset, .unset, .unset, .unset] [(.ref b6)])
      refine ow_astore X6 hx (Ls' := #[.val (.int p0), .val (.int p1), .val (.int p2), .val (.int p3), .val (.int z1), .val (.int z2), .val (.ref b4), .val (.ref b6), .unset, .unset, .unset, .unset, .unset, .unset]) (hb hby at_24) rfl rfl (pc' := 26) rfl ?_
      refine ow_iload X6 hx (hb hby at_26) rfl (pc' := 28) rfl ?_
      refine ow_iloadN X6 hx (hb hby at_28) rfl (pc' := 29) rfl ?_
      refine ow_callSI X6 hx hZ hown (hw _ (List.mem_of_getElem? (i := 5) rfl)) (hw _ (List.mem_of_getElem? (i := 6) rfl)) (hw _ (List.mem_of_getElem? (i := 2) rfl)) (hw _ (List.mem_of_getElem? (i := 7) rfl)) (by decide) (rm_so0b l Z a0 hw [] hcw hch z2 p3 b6a b6b kt_6 T6.heap n0 Zs6 (ow_zk hzk hzn K6 all0) hzn P6_4 P6_5 P6_6 P6_7 (by first | assumption | decide | omega)) (LT.warm hI6) hS6 (Nat.le_refl _) rfl 0 (by decide) (by decide) (by decide) (by decide) [(.int z2), (.int p3)] (by rw [hml]; rfl) pd_6 rfl rfl rfl (Nat.le_of_eq rfl) (hb hby at_29) (pc' := 32) rfl (fun v7 T7 L7 hQ7 X7 hS7 hZ hown => ?_)
      obtain ⟨b7, rfl, Nc7, Kc7, P7_0, P7_1, P7_2, P7_3, hI7⟩ := hQ7
      have E_b4_7 := E_b4_6.keep Kc7
      have V_b4_7 := V_b4_6.keep Kc7 nin0
      have E_b6_7 := P6_0.keep Kc7
      have F_b6_coder_7 := P6_1.keep Kc7 nin0
      have F_b6_value_7 := P6_2.keep Kc7 nin0
      have E_b6a_7 := P6_4.keep Kc7
      have F_b6a_coder_7 := P6_5.keep Kc7 nin0
      have F_b6a_value_7 := P6_6.keep Kc7 nin0
      have V_b6b_7 := P6_7.keep Kc7 nin0
      have ne_b4_b7 : b4 ≠ b7 := Nat.ne_of_lt (Nat.lt_of_lt_of_le E_b4_6.lt P7_3)
      have ne_b6_b7 : b6 ≠ b7 := Nat.ne_of_lt (Nat.lt_of_lt_of_le P6_0.lt P7_3)
      have ne_b6a_b7 : b6a ≠ b7 := Nat.ne_of_lt (Nat.lt_of_lt_of_le P6_4.lt P7_3)
      have ne_b6b_b7 : b6b ≠ b7 := Nat.ne_of_lt (Nat.lt_of_lt_of_le P6_7.lt P7_3)
      have sz_b7 : h0.size ≤ b7 := Nat.le_trans K6.1 P7_3
      have Zs7 : n0 ≤ T7.heap.size := Nat.le_trans Zs6 Kc7.1
      have K7 := K6.trans Kc7 all0
      have N7 := Fr.app N6 Nc7
      show Ends _ _ _ _ T7 (mkF m 32 #[.val (.int p0), .val (.int p1), .val (.int p2), .val (.int p3), .val (.int z1), .val (.int z2), .val (.ref b4), .val (.ref b6), .unset, .unset, .unset, .unset, .unset, .unset] [(.ref b7)])
      refine ow_astore X7 hx (Ls' := #[.val (.int p0), .val (.int p1), .val (.int p2), .val (.int p3), .val (.int z1), .val (.int z2), .val (.ref b4), .val (.ref b6), .val (.ref b7), .unset, .unset, .unset, .unset, .unset]) (hb hby at_32) rfl rfl (pc' := 34) rfl ?_
      refine ow_aload X7 hx (hb hby at_34) rfl rfl (pc' := 36) rfl ?_
      refine ow_aload X7 hx (hb hby at_36) rfl rfl (pc' := 38) rfl ?_
      refine ow_callSI X7 hx hZ hown (hw _ (List.mem_of_getElem? (i := 37) rfl)) (hw _ (List.mem_of_getElem? (i := 38) rfl)) (hw _ (List.mem_of_getElem? (i := 39) rfl)) (hw _ (List.mem_of_getElem? (i := 40) rfl)) (by decide) (rm_repl l Z a0 hw [] hcw hch b4 b6 T7.heap n0 Zs7 (ow_zk hzk hzn K7 all0) hzn E_b4_7 E_b6_7) (fun v_ w_ => LT.weaken (LT.warm hI7 v_ w_) (by decide) (fun _ h => absurd h List.not_mem_nil)) hS7 (Nat.le_refl _) rfl 0 (by decide) (by decide) (by decide) (by decide) [(.ref b4), (.ref b6)] (by rw [hml]; rfl) pd_7 rfl rfl rfl (Nat.le_of_eq rfl) (hb hby at_38) (pc' := 41) rfl (fun v8 T8 L8 hQ8 X8 hS8 hZ hown => ?_)
      obtain ⟨b8, rfl, Nc8, Kc8, P8_0, P8_1, P8_2, P8_3⟩ := hQ8
      have E_b4_8 := E_b4_7.keep Kc8
      have V_b4_8 := V_b4_7.keep Kc8 nin0
      have E_b6_8 := E_b6_7.keep Kc8
      have F_b6_coder_8 := F_b6_coder_7.keep Kc8 nin0
      have F_b6_value_8 := F_b6_value_7.keep Kc8 nin0
      have E_b6a_8 := E_b6a_7.keep Kc8
      have F_b6a_coder_8 := F_b6a_coder_7.keep Kc8 nin0
      have F_b6a_value_8 := F_b6a_value_7.keep Kc8 nin0
      have V_b6b_8 := V_b6b_7.keep Kc8 nin0
      have E_b7_8 := P7_0.keep Kc8
      have F_b7_coder_8 := P7_1.keep Kc8 nin0
      have F_b7_value_8 := P7_2.keep Kc8 nin0
      have Zs8 : n0 ≤ T8.heap.size := Nat.le_trans Zs7 Kc8.1
      have K8 := K7.trans Kc8 all0
      have N8 := Fr.app N7 Nc8
      show Ends _ _ _ _ T8 (mkF m 41 #[.val (.int p0), .val (.int p1), .val (.int p2), .val (.int p3), .val (.int z1), .val (.int z2), .val (.ref b4), .val (.ref b6), .val (.ref b7), .unset, .unset, .unset, .unset, .unset] [(.ref b8)])
      refine ow_astore X8 hx (Ls' := #[.val (.int p0), .val (.int p1), .val (.int p2), .val (.int p3), .val (.int z1), .val (.int z2), .val (.ref b4), .val (.ref b6), .val (.ref b7), .val (.ref b8), .unset, .unset, .unset, .unset]) (hb hby at_41) rfl rfl (pc' := 43) rfl ?_
      refine ow_aload X8 hx (hb hby at_43) rfl rfl (pc' := 45) rfl ?_
      refine ow_ifnonnullY X8 hx (hb hby at_45) (by decide) (pc' := 50) (by decide) ?_
      refine ow_aload X8 hx (hb hby at_50) rfl rfl (pc' := 52) rfl ?_
      refine ow_callVPI X8 hx hZ rfl hown (hw _ (List.mem_of_getElem? (i := 64) rfl)) (hw _ (List.mem_of_getElem? (i := 65) rfl)) (hw _ (List.mem_of_getElem? (i := 67) rfl)) (hw _ (List.mem_of_getElem? (i := 66) rfl)) (hw _ (List.mem_of_getElem? (i := 39) rfl)) (hw _ (List.mem_of_getElem? (i := 68) rfl)) (by decide) (rm_refd l Z a0 hw [] b8 T8.heap P8_3) rfl 0 (by decide) (by decide) (by decide) (by decide) [] (by rw [hml]; rfl) pd_8 rfl P8_0 rfl rfl (Nat.le_of_eq rfl) (hb hby at_52) (pc' := 55) rfl (fun z9 T9 hz9 X9 e9 => ?_)
      have az9 : z9.toInt = 0 := hz9
      have rz9 := rng32 z9
      refine ow_istore X9 hx (Ls' := #[.val (.int p0), .val (.int p1), .val (.int p2), .val (.int p3), .val (.int z1), .val (.int z2), .val (.ref b4), .val (.ref b6), .val (.ref b7), .val (.ref b8), .val (.int z9), .unset, .unset, .unset]) (hb hby at_55) rfl (pc' := 57) rfl ?_
      refine ow_aload X9 hx (hb hby at_57) rfl rfl (pc' := 59) rfl ?_
      refine ow_callV X9 hx hZ rfl hown (hw _ (List.mem_of_getElem? (i := 69) rfl)) (hw _ (List.mem_of_getElem? (i := 70) rfl)) (hw _ (List.mem_of_getElem? (i := 72) rfl)) (hw _ (List.mem_of_getElem? (i := 71) rfl)) (hw _ (List.mem_of_getElem? (i := 39) rfl)) (hw _ (List.mem_of_getElem? (i := 73) rfl)) (by decide) (rm_rsB l Z a0 hw [] b8 b4 T8.heap P8_1) e9 0 (by decide) (by decide) (by decide) (by decide) [] (by rw [hml]; rfl) pd_9 rfl P8_0 rfl rfl (Nat.le_of_eq rfl) (hb hby at_59) (pc' := 62) rfl (fun v10 T10 L10 hQ10 X10 => ?_)
      obtain ⟨rfl, rfl, e10⟩ := hQ10
      rw [List.append_nil] at X10
      show Ends _ _ _ _ T10 (mkF m 62 #[.val (.int p0), .val (.int p1), .val (.int p2), .val (.int p3), .val (.int z1), .val (.int z2), .val (.ref b4), .val (.ref b6), .val (.ref b7), .val (.ref b8), .val (.int z9), .unset, .unset, .unset] [(.ref b4)])
      refine ow_astore X10 hx (Ls' := #[.val (.int p0), .val (.int p1), .val (.int p2), .val (.int p3), .val (.int z1), .val (.int z2), .val (.ref b4), .val (.ref b6), .val (.ref b7), .val (.ref b8), .val (.int z9), .val (.ref b4), .unset, .unset]) (hb hby at_62) rfl rfl (pc' := 64) rfl ?_
      refine ow_aload X10 hx (hb hby at_64) rfl rfl (pc' := 66) rfl ?_
      refine ow_callV X10 hx hZ rfl hown (hw _ (List.mem_of_getElem? (i := 74) rfl)) (hw _ (List.mem_of_getElem? (i := 75) rfl)) (hw _ (List.mem_of_getElem? (i := 77) rfl)) (hw _ (List.mem_of_getElem? (i := 76) rfl)) (hw _ (List.mem_of_getElem? (i := 39) rfl)) (hw _ (List.mem_of_getElem? (i := 78) rfl)) (by decide) (rm_rsM l Z a0 hw [] b8 b6 T8.heap P8_2) e10 0 (by decide) (by decide) (by decide) (by decide) [] (by rw [hml]; rfl) pd_10 rfl P8_0 rfl rfl (Nat.le_of_eq rfl) (hb hby at_66) (pc' := 69) rfl (fun v11 T11 L11 hQ11 X11 => ?_)
      obtain ⟨rfl, rfl, e11⟩ := hQ11
      rw [List.append_nil] at X11
      show Ends _ _ _ _ T11 (mkF m 69 #[.val (.int p0), .val (.int p1), .val (.int p2), .val (.int p3), .val (.int z1), .val (.int z2), .val (.ref b4), .val (.ref b6), .val (.ref b7), .val (.ref b8), .val (.int z9), .val (.ref b4), .unset, .unset] [(.ref b6)])
      refine ow_astore X11 hx (Ls' := #[.val (.int p0), .val (.int p1), .val (.int p2), .val (.int p3), .val (.int z1), .val (.int z2), .val (.ref b4), .val (.ref b6), .val (.ref b7), .val (.ref b8), .val (.int z9), .val (.ref b4), .val (.ref b6), .unset]) (hb hby at_69) rfl rfl (pc' := 71) rfl ?_
      refine ow_aload X11 hx (hb hby at_71) rfl rfl (pc' := 73) rfl ?_
      refine ow_callV X11 hx hZ rfl hown (hw _ (List.mem_of_getElem? (i := 79) rfl)) (hw _ (List.mem_of_getElem? (i := 80) rfl)) (hw _ (List.mem_of_getElem? (i := 82) rfl)) (hw _ (List.mem_of_getElem? (i := 81) rfl)) (hw _ (List.mem_of_getElem? (i := 39) rfl)) (hw _ (List.mem_of_getElem? (i := 83) rfl)) (by decide) (rm_rsR l Z a0 hw [] b8 T8.heap P8_3) e11 0 (by decide) (by decide) (by decide) (by decide) [] (by rw [hml]; rfl) pd_10 rfl P8_0 rfl rfl (Nat.le_of_eq rfl) (hb hby at_73) (pc' := 76) rfl (fun v12 T12 L12 hQ12 X12 => ?_)
      obtain ⟨rfl, rfl, e12⟩ := hQ12
      rw [List.append_nil] at X12
      show Ends _ _ _ _ T12 (mkF m 76 #[.val (.int p0), .val (.int p1), .val (.int p2), .val (.int p3), .val (.int z1), .val (.int z2), .val (.ref b4), .val (.ref b6), .val (.ref b7), .val (.ref b8), .val (.int z9), .val (.ref b4), .val (.ref b6), .unset] [.null])
      refine ow_astore X12 hx (Ls' := #[.val (.int p0), .val (.int p1), .val (.int p2), .val (.int p3), .val (.int z1), .val (.int z2), .val (.ref b4), .val (.ref b6), .val (.ref b7), .val (.ref b8), .val (.int z9), .val (.ref b4), .val (.ref b6), .val .null]) (hb hby at_76) rfl rfl (pc' := 78) rfl ?_
      refine ow_iload X12 hx (hb hby at_78) rfl (pc' := 80) rfl ?_
      refine ow_if_ne X12 hx (z9.toInt) (hb hby at_80) rfl (by decide) (pt := 118) (by decide) (pf := 83) rfl (fun c80 => absurd c80 (by omega)) (fun c80 => ?_)
      refine ow_aload X12 hx (hb hby at_83) rfl rfl (pc' := 85) rfl ?_
      refine ow_ifnonnullN X12 hx (hb hby at_85) (pc' := 88) rfl ?_
      refine ow_aload X12 hx (hb hby at_88) rfl rfl (pc' := 90) rfl ?_
      refine ow_iload X12 hx (hb hby at_90) rfl (pc' := 92) rfl ?_
      refine ow_iloadN X12 hx (hb hby at_92) rfl (pc' := 93) rfl ?_
      refine ow_callPI X12 hx hZ hown (hw _ (List.mem_of_getElem? (i := 84) rfl)) (hw _ (List.mem_of_getElem? (i := 85) rfl)) (hw _ (List.mem_of_getElem? (i := 2) rfl)) (hw _ (List.mem_of_getElem? (i := 86) rfl)) (by decide) (rm_sam0 l Z a0 hw [] b4 z1 p1 kw_4 T8.heap V_b4_8 (by first | assumption | decide | omega) (by first | assumption | decide | omega)) e12 0 (by decide) (by decide) (by decide) (by decide) [(.ref b4), (.int z1), (.int p1)] (by rw [hml]; rfl) pd_11 rfl rfl rfl (Nat.le_of_eq rfl) (hb hby at_93) (pc' := 96) rfl (fun z13 T13 hz13 X13 e13 => ?_)
      have az13 : z13.toInt = 1 := hz13
      have rz13 := rng32 z13
      refine ow_if_eq X13 hx (z13.toInt) (hb hby at_96) rfl (by decide) (pt := 118) (by decide) (pf := 99) rfl (fun c96 => absurd c96 (by omega)) (fun c96 => ?_)
      refine ow_aload X13 hx (hb hby at_99) rfl rfl (pc' := 101) rfl ?_
      refine ow_ifnullN X13 hx (hb hby at_101) (pc' := 104) rfl ?_
      refine ow_aload X13 hx (hb hby at_104) rfl rfl (pc' := 106) rfl ?_
      refine ow_aload X13 hx (hb hby at_106) rfl rfl (pc' := 108) rfl ?_
      refine ow_callVPI X13 hx hZ rfl hown (hw _ (List.mem_of_getElem? (i := 87) rfl)) (hw _ (List.mem_of_getElem? (i := 88) rfl)) (hw _ (List.mem_of_getElem? (i := 90) rfl)) (hw _ (List.mem_of_getElem? (i := 89) rfl)) (hw _ (List.mem_of_getElem? (i := 10) rfl)) (hw _ (List.mem_of_getElem? (i := 91) rfl)) (by decide) (rm_eqs0 l Z a0 hw [] b6 b7 zc b6b b6b kt_6 kt_6 T8.heap (ow_staKeep S_cs K8 all0) (by first | assumption | decide | omega) E_b6_8 F_b6_coder_8 F_b6_value_8 E_b7_8 F_b7_coder_8 F_b7_value_8 V_b6b_8 V_b6b_8 ne_b6_b7) e13 0 (by decide) (by decide) (by decide) (by decide) [(.ref b7)] (by rw [hml]; rfl) pd_12 rfl E_b6_8 rfl rfl (Nat.le_of_eq rfl) (hb hby at_108) (pc' := 111) rfl (fun z14 T14 hz14 X14 e14 => ?_)
      have az14 : z14.toInt = 1 := hz14
      have rz14 := rng32 z14
      refine ow_if_eq X14 hx (z14.toInt) (hb hby at_111) rfl (by decide) (pt := 118) (by decide) (pf := 114) rfl (fun c111 => absurd c111 (by omega)) (fun c111 => ?_)
      refine ow_iconst X14 hx (z := (1 : Int32)) (hb hby at_114) rfl (pc' := 115) rfl ?_
      refine ow_goto X14 hx (hb hby at_115) (by decide) (pc' := 119) (by decide) ?_
      exact ow_retBI X14 hx hret hlk (hb hby at_119) hS8 (by rw [e14]; exact (Nat.le_refl _)) (by decide) (by decide) (z' := (1 : Int32)) rfl ⟨rfl, N8⟩
    · refine ow_iload X4 hx (hb hby at_18) rfl (pc' := 20) rfl ?_
      refine ow_iloadN X4 hx (hb hby at_20) rfl (pc' := 21) rfl ?_
      refine ow_callS X4 hx hZ hown (hw _ (List.mem_of_getElem? (i := 5) rfl)) (hw _ (List.mem_of_getElem? (i := 6) rfl)) (hw _ (List.mem_of_getElem? (i := 2) rfl)) (hw _ (List.mem_of_getElem? (i := 7) rfl)) (by decide) (rm_so1 l Z a0 hw [] z2 p3 zc T4.heap n0 Zs4 (ow_staKeep S_cs K4 all0) (by first | assumption | decide | omega) (by first | assumption | decide | omega)) rfl 0 (by decide) (by decide) (by decide) (by decide) [(.int z2), (.int p3)] (by rw [hml]; rfl) pd_6 rfl rfl rfl (Nat.le_of_eq rfl) (hb hby at_21) (pc' := 24) rfl (fun v15 T15 L15 hQ15 X15 => ?_)
      obtain ⟨b15, b15a, kt_15, x0_15, rfl, Nc15, Kc15, P15_0, P15_1, P15_2, P15_3, P15_4, P15_5, P15_6⟩ := hQ15
      have P15_6 : ((x0_15.toInt - p3.toInt) % 256 = 0 ∧ -128 ≤ x0_15.toInt ∧ x0_15.toInt < 128) := P15_6
      have E_b4_15 := P4_0.keep Kc15
      have V_b4_15 := P4_1.keep Kc15 nin0
      have ne_b4_b15 : b4 ≠ b15 := Nat.ne_of_lt (Nat.lt_of_lt_of_le P4_0.lt P15_4)
      have sz_b15 : h0.size ≤ b15 := Nat.le_trans K4.1 P15_4
      have ne_b4_b15a : b4 ≠ b15a := Nat.ne_of_lt (Nat.lt_of_lt_of_le P4_0.lt P15_5)
      have sz_b15a : h0.size ≤ b15a := Nat.le_trans K4.1 P15_5
      have Zs15 : n0 ≤ T15.heap.size := Nat.le_trans Zs4 Kc15.1
      have K15 := K4.trans Kc15 all0
      have N15 := Fr.app N4 Nc15
      show Ends _ _ _ _ T15 (mkF m 24 #[.val (.int p0), .val (.int p1), .val (.int p2), .val (.int p3), .val (.int z1), .val (.int z2), .val (.ref b4), .unset, .unset, .unset, .unset, .unset, .unset, .unset] [(.ref b15)])
      refine ow_astore X15 hx (Ls' := #[.val (.int p0), .val (.int p1), .val (.int p2), .val (.int p3), .val (.int z1), .val (.int z2), .val (.ref b4), .val (.ref b15), .unset, .unset, .unset, .unset, .unset, .unset]) (hb hby at_24) rfl rfl (pc' := 26) rfl ?_
      refine ow_iload X15 hx (hb hby at_26) rfl (pc' := 28) rfl ?_
      refine ow_iloadN X15 hx (hb hby at_28) rfl (pc' := 29) rfl ?_
      refine ow_callS X15 hx hZ hown (hw _ (List.mem_of_getElem? (i := 5) rfl)) (hw _ (List.mem_of_getElem? (i := 6) rfl)) (hw _ (List.mem_of_getElem? (i := 2) rfl)) (hw _ (List.mem_of_getElem? (i := 7) rfl)) (by decide) (rm_so1 l Z a0 hw [] z2 p3 zc T15.heap n0 Zs15 (ow_staKeep S_cs K15 all0) (by first | assumption | decide | omega) (by first | assumption | decide | omega)) rfl 0 (by decide) (by decide) (by decide) (by decide) [(.int z2), (.int p3)] (by rw [hml]; rfl) pd_6 rfl rfl rfl (Nat.le_of_eq rfl) (hb hby at_29) (pc' := 32) rfl (fun v16 T16 L16 hQ16 X16 => ?_)
      obtain ⟨b16, b16a, kt_16, x0_16, rfl, Nc16, Kc16, P16_0, P16_1, P16_2, P16_3, P16_4, P16_5, P16_6⟩ := hQ16
      have P16_6 : ((x0_16.toInt - p3.toInt) % 256 = 0 ∧ -128 ≤ x0_16.toInt ∧ x0_16.toInt < 128) := P16_6
      have E_b4_16 := E_b4_15.keep Kc16
      have V_b4_16 := V_b4_15.keep Kc16 nin0
      have E_b15_16 := P15_0.keep Kc16
      have F_b15_coder_16 := P15_1.keep Kc16 nin0
      have F_b15_value_16 := P15_2.keep Kc16 nin0
      have V_b15a_16 := P15_3.keep Kc16 nin0
      have ne_b4_b16 : b4 ≠ b16 := Nat.ne_of_lt (Nat.lt_of_lt_of_le E_b4_15.lt P16_4)
      have ne_b15_b16 : b15 ≠ b16 := Nat.ne_of_lt (Nat.lt_of_lt_of_le P15_0.lt P16_4)
      have ne_b15a_b16 : b15a ≠ b16 := Nat.ne_of_lt (Nat.lt_of_lt_of_le P15_3.lt P16_4)
      have sz_b16 : h0.size ≤ b16 := Nat.le_trans K15.1 P16_4
      have ne_b4_b16a : b4 ≠ b16a := Nat.ne_of_lt (Nat.lt_of_lt_of_le E_b4_15.lt P16_5)
      have ne_b15_b16a : b15 ≠ b16a := Nat.ne_of_lt (Nat.lt_of_lt_of_le P15_0.lt P16_5)
      have ne_b15a_b16a : b15a ≠ b16a := Nat.ne_of_lt (Nat.lt_of_lt_of_le P15_3.lt P16_5)
      have sz_b16a : h0.size ≤ b16a := Nat.le_trans K15.1 P16_5
      have Zs16 : n0 ≤ T16.heap.size := Nat.le_trans Zs15 Kc16.1
      have K16 := K15.trans Kc16 all0
      have N16 := Fr.app N15 Nc16
      show Ends _ _ _ _ T16 (mkF m 32 #[.val (.int p0), .val (.int p1), .val (.int p2), .val (.int p3), .val (.int z1), .val (.int z2), .val (.ref b4), .val (.ref b15), .unset, .unset, .unset, .unset, .unset, .unset] [(.ref b16)])
      refine ow_astore X16 hx (Ls' := #[.val (.int p0), .val (.int p1), .val (.int p2), .val (.int p3), .val (.int z1), .val (.int z2), .val (.ref b4), .val (.ref b15), .val (.ref b16), .unset, .unset, .unset, .unset, .unset]) (hb hby at_32) rfl rfl (pc' := 34) rfl ?_
      refine ow_aload X16 hx (hb hby at_34) rfl rfl (pc' := 36) rfl ?_
      refine ow_aload X16 hx (hb hby at_36) rfl rfl (pc' := 38) rfl ?_
      refine ow_callSI X16 hx hZ hown (hw _ (List.mem_of_getElem? (i := 37) rfl)) (hw _ (List.mem_of_getElem? (i := 38) rfl)) (hw _ (List.mem_of_getElem? (i := 39) rfl)) (hw _ (List.mem_of_getElem? (i := 40) rfl)) (by decide) (rm_repl l Z a0 hw [] hcw hch b4 b15 T16.heap n0 Zs16 (ow_zk hzk hzn K16 all0) hzn E_b4_16 E_b15_16) (fun v_ w_ => LT.weaken (LT.warm hI0 v_ w_) (by decide) (fun _ h => absurd h List.not_mem_nil)) hS0 (Nat.zero_le _) rfl 0 (by decide) (by decide) (by decide) (by decide) [(.ref b4), (.ref b15)] (by rw [hml]; rfl) pd_7 rfl rfl rfl (Nat.le_of_eq rfl) (hb hby at_38) (pc' := 41) rfl (fun v17 T17 L17 hQ17 X17 hS17 hZ hown => ?_)
      obtain ⟨b17, rfl, Nc17, Kc17, P17_0, P17_1, P17_2, P17_3⟩ := hQ17
      have E_b4_17 := E_b4_16.keep Kc17
      have V_b4_17 := V_b4_16.keep Kc17 nin0
      have E_b15_17 := E_b15_16.keep Kc17
      have F_b15_coder_17 := F_b15_coder_16.keep Kc17 nin0
      have F_b15_value_17 := F_b15_value_16.keep Kc17 nin0
      have V_b15a_17 := V_b15a_16.keep Kc17 nin0
      have E_b16_17 := P16_0.keep Kc17
      have F_b16_coder_17 := P16_1.keep Kc17 nin0
      have F_b16_value_17 := P16_2.keep Kc17 nin0
      have V_b16a_17 := P16_3.keep Kc17 nin0
      have Zs17 : n0 ≤ T17.heap.size := Nat.le_trans Zs16 Kc17.1
      have K17 := K16.trans Kc17 all0
      have N17 := Fr.app N16 Nc17
      show Ends _ _ _ _ T17 (mkF m 41 #[.val (.int p0), .val (.int p1), .val (.int p2), .val (.int p3), .val (.int z1), .val (.int z2), .val (.ref b4), .val (.ref b15), .val (.ref b16), .unset, .unset, .unset, .unset, .unset] [(.ref b17)])
      refine ow_astore X17 hx (Ls' := #[.val (.int p0), .val (.int p1), .val (.int p2), .val (.int p3), .val (.int z1), .val (.int z2), .val (.ref b4), .val (.ref b15), .val (.ref b16), .val (.ref b17), .unset, .unset, .unset, .unset]) (hb hby at_41) rfl rfl (pc' := 43) rfl ?_
      refine ow_aload X17 hx (hb hby at_43) rfl rfl (pc' := 45) rfl ?_
      refine ow_ifnonnullY X17 hx (hb hby at_45) (by decide) (pc' := 50) (by decide) ?_
      refine ow_aload X17 hx (hb hby at_50) rfl rfl (pc' := 52) rfl ?_
      refine ow_callVPI X17 hx hZ rfl hown (hw _ (List.mem_of_getElem? (i := 64) rfl)) (hw _ (List.mem_of_getElem? (i := 65) rfl)) (hw _ (List.mem_of_getElem? (i := 67) rfl)) (hw _ (List.mem_of_getElem? (i := 66) rfl)) (hw _ (List.mem_of_getElem? (i := 39) rfl)) (hw _ (List.mem_of_getElem? (i := 68) rfl)) (by decide) (rm_refd l Z a0 hw [] b17 T17.heap P17_3) rfl 0 (by decide) (by decide) (by decide) (by decide) [] (by rw [hml]; rfl) pd_8 rfl P17_0 rfl rfl (Nat.le_of_eq rfl) (hb hby at_52) (pc' := 55) rfl (fun z18 T18 hz18 X18 e18 => ?_)
      have az18 : z18.toInt = 0 := hz18
      have rz18 := rng32 z18
      refine ow_istore X18 hx (Ls' := #[.val (.int p0), .val (.int p1), .val (.int p2), .val (.int p3), .val (.int z1), .val (.int z2), .val (.ref b4), .val (.ref b15), .val (.ref b16), .val (.ref b17), .val (.int z18), .unset, .unset, .unset]) (hb hby at_55) rfl (pc' := 57) rfl ?_
      refine ow_aload X18 hx (hb hby at_57) rfl rfl (pc' := 59) rfl ?_
      refine ow_callV X18 hx hZ rfl hown (hw _ (List.mem_of_getElem? (i := 69) rfl)) (hw _ (List.mem_of_getElem? (i := 70) rfl)) (hw _ (List.mem_of_getElem? (i := 72) rfl)) (hw _ (List.mem_of_getElem? (i := 71) rfl)) (hw _ (List.mem_of_getElem? (i := 39) rfl)) (hw _ (List.mem_of_getElem? (i := 73) rfl)) (by decide) (rm_rsB l Z a0 hw [] b17 b4 T17.heap P17_1) e18 0 (by decide) (by decide) (by decide) (by decide) [] (by rw [hml]; rfl) pd_9 rfl P17_0 rfl rfl (Nat.le_of_eq rfl) (hb hby at_59) (pc' := 62) rfl (fun v19 T19 L19 hQ19 X19 => ?_)
      obtain ⟨rfl, rfl, e19⟩ := hQ19
      rw [List.append_nil] at X19
      show Ends _ _ _ _ T19 (mkF m 62 #[.val (.int p0), .val (.int p1), .val (.int p2), .val (.int p3), .val (.int z1), .val (.int z2), .val (.ref b4), .val (.ref b15), .val (.ref b16), .val (.ref b17), .val (.int z18), .unset, .unset, .unset] [(.ref b4)])
      refine ow_astore X19 hx (Ls' := #[.val (.int p0), .val (.int p1), .val (.int p2), .val (.int p3), .val (.int z1), .val (.int z2), .val (.ref b4), .val (.ref b15), .val (.ref b16), .val (.ref b17), .val (.int z18), .val (.ref b4), .unset, .unset]) (hb hby at_62) rfl rfl (pc' := 64) rfl ?_
      refine ow_aload X19 hx (hb hby at_64) rfl rfl (pc' := 66) rfl ?_
      refine ow_callV X19 hx hZ rfl hown (hw _ (List.mem_of_getElem? (i := 74) rfl)) (hw _ (List.mem_of_getElem? (i := 75) rfl)) (hw _ (List.mem_of_getElem? (i := 77) rfl)) (hw _ (List.mem_of_getElem? (i := 76) rfl)) (hw _ (List.mem_of_getElem? (i := 39) rfl)) (hw _ (List.mem_of_getElem? (i := 78) rfl)) (by decide) (rm_rsM l Z a0 hw [] b17 b15 T17.heap P17_2) e19 0 (by decide) (by decide) (by decide) (by decide) [] (by rw [hml]; rfl) pd_10 rfl P17_0 rfl rfl (Nat.le_of_eq rfl) (hb hby at_66) (pc' := 69) rfl (fun v20 T20 L20 hQ20 X20 => ?_)
      obtain ⟨rfl, rfl, e20⟩ := hQ20
      rw [List.append_nil] at X20
      show Ends _ _ _ _ T20 (mkF m 69 #[.val (.int p0), .val (.int p1), .val (.int p2), .val (.int p3), .val (.int z1), .val (.int z2), .val (.ref b4), .val (.ref b15), .val (.ref b16), .val (.ref b17), .val (.int z18), .val (.ref b4), .unset, .unset] [(.ref b15)])
      refine ow_astore X20 hx (Ls' := #[.val (.int p0), .val (.int p1), .val (.int p2), .val (.int p3), .val (.int z1), .val (.int z2), .val (.ref b4), .val (.ref b15), .val (.ref b16), .val (.ref b17), .val (.int z18), .val (.ref b4), .val (.ref b15), .unset]) (hb hby at_69) rfl rfl (pc' := 71) rfl ?_
      refine ow_aload X20 hx (hb hby at_71) rfl rfl (pc' := 73) rfl ?_
      refine ow_callV X20 hx hZ rfl hown (hw _ (List.mem_of_getElem? (i := 79) rfl)) (hw _ (List.mem_of_getElem? (i := 80) rfl)) (hw _ (List.mem_of_getElem? (i := 82) rfl)) (hw _ (List.mem_of_getElem? (i := 81) rfl)) (hw _ (List.mem_of_getElem? (i := 39) rfl)) (hw _ (List.mem_of_getElem? (i := 83) rfl)) (by decide) (rm_rsR l Z a0 hw [] b17 T17.heap P17_3) e20 0 (by decide) (by decide) (by decide) (by decide) [] (by rw [hml]; rfl) pd_10 rfl P17_0 rfl rfl (Nat.le_of_eq rfl) (hb hby at_73) (pc' := 76) rfl (fun v21 T21 L21 hQ21 X21 => ?_)
      obtain ⟨rfl, rfl, e21⟩ := hQ21
      rw [List.append_nil] at X21
      show Ends _ _ _ _ T21 (mkF m 76 #[.val (.int p0), .val (.int p1), .val (.int p2), .val (.int p3), .val (.int z1), .val (.int z2), .val (.ref b4), .val (.ref b15), .val (.ref b16), .val (.ref b17), .val (.int z18), .val (.ref b4), .val (.ref b15), .unset] [.null])
      refine ow_astore X21 hx (Ls' := #[.val (.int p0), .val (.int p1), .val (.int p2), .val (.int p3), .val (.int z1), .val (.int z2), .val (.ref b4), .val (.ref b15), .val (.ref b16), .val (.ref b17), .val (.int z18), .val (.ref b4), .val (.ref b15), .val .null]) (hb hby at_76) rfl rfl (pc' := 78) rfl ?_
      refine ow_iload X21 hx (hb hby at_78) rfl (pc' := 80) rfl ?_
      refine ow_if_ne X21 hx (z18.toInt) (hb hby at_80) rfl (by decide) (pt := 118) (by decide) (pf := 83) rfl (fun c80 => absurd c80 (by omega)) (fun c80 => ?_)
      refine ow_aload X21 hx (hb hby at_83) rfl rfl (pc' := 85) rfl ?_
      refine ow_ifnonnullN X21 hx (hb hby at_85) (pc' := 88) rfl ?_
      refine ow_aload X21 hx (hb hby at_88) rfl rfl (pc' := 90) rfl ?_
      refine ow_iload X21 hx (hb hby at_90) rfl (pc' := 92) rfl ?_
      refine ow_iloadN X21 hx (hb hby at_92) rfl (pc' := 93) rfl ?_
      refine ow_callPI X21 hx hZ hown (hw _ (List.mem_of_getElem? (i := 84) rfl)) (hw _ (List.mem_of_getElem? (i := 85) rfl)) (hw _ (List.mem_of_getElem? (i := 2) rfl)) (hw _ (List.mem_of_getElem? (i := 86) rfl)) (by decide) (rm_sam0 l Z a0 hw [] b4 z1 p1 kw_4 T17.heap V_b4_17 (by first | assumption | decide | omega) (by first | assumption | decide | omega)) e21 0 (by decide) (by decide) (by decide) (by decide) [(.ref b4), (.int z1), (.int p1)] (by rw [hml]; rfl) pd_11 rfl rfl rfl (Nat.le_of_eq rfl) (hb hby at_93) (pc' := 96) rfl (fun z22 T22 hz22 X22 e22 => ?_)
      have az22 : z22.toInt = 1 := hz22
      have rz22 := rng32 z22
      refine ow_if_eq X22 hx (z22.toInt) (hb hby at_96) rfl (by decide) (pt := 118) (by decide) (pf := 99) rfl (fun c96 => absurd c96 (by omega)) (fun c96 => ?_)
      refine ow_aload X22 hx (hb hby at_99) rfl rfl (pc' := 101) rfl ?_
      refine ow_ifnullN X22 hx (hb hby at_101) (pc' := 104) rfl ?_
      refine ow_aload X22 hx (hb hby at_104) rfl rfl (pc' := 106) rfl ?_
      refine ow_aload X22 hx (hb hby at_106) rfl rfl (pc' := 108) rfl ?_
      refine ow_callVPI X22 hx hZ rfl hown (hw _ (List.mem_of_getElem? (i := 87) rfl)) (hw _ (List.mem_of_getElem? (i := 88) rfl)) (hw _ (List.mem_of_getElem? (i := 90) rfl)) (hw _ (List.mem_of_getElem? (i := 89) rfl)) (hw _ (List.mem_of_getElem? (i := 10) rfl)) (hw _ (List.mem_of_getElem? (i := 91) rfl)) (by decide) (rm_eqs1 l Z a0 hw [] b15 b16 zc b15a b16a kt_15 kt_16 x0_15 x0_16 T17.heap (ow_staKeep S_cs K17 all0) (by first | assumption | decide | omega) E_b15_17 F_b15_coder_17 F_b15_value_17 E_b16_17 F_b16_coder_17 F_b16_value_17 V_b15a_17 V_b16a_17 ne_b15_b16 (by first | assumption | decide | omega)) e22 0 (by decide) (by decide) (by decide) (by decide) [(.ref b16)] (by rw [hml]; rfl) pd_12 rfl E_b15_17 rfl rfl (Nat.le_of_eq rfl) (hb hby at_108) (pc' := 111) rfl (fun z23 T23 hz23 X23 e23 => ?_)
      have az23 : z23.toInt = 1 := hz23
      have rz23 := rng32 z23
      refine ow_if_eq X23 hx (z23.toInt) (hb hby at_111) rfl (by decide) (pt := 118) (by decide) (pf := 114) rfl (fun c111 => absurd c111 (by omega)) (fun c111 => ?_)
      refine ow_iconst X23 hx (z := (1 : Int32)) (hb hby at_114) rfl (pc' := 115) rfl ?_
      refine ow_goto X23 hx (hb hby at_115) (by decide) (pc' := 119) (by decide) ?_
      exact ow_retBI X23 hx hret hlk (hb hby at_119) hS17 (by rw [e23]; exact (Nat.le_refl _)) (by decide) (by decide) (z' := (1 : Int32)) rfl ⟨rfl, N17⟩
    · refine ow_iload X4 hx (hb hby at_18) rfl (pc' := 20) rfl ?_
      refine ow_iloadN X4 hx (hb hby at_20) rfl (pc' := 21) rfl ?_
      refine ow_callS X4 hx hZ hown (hw _ (List.mem_of_getElem? (i := 5) rfl)) (hw _ (List.mem_of_getElem? (i := 6) rfl)) (hw _ (List.mem_of_getElem? (i := 2) rfl)) (hw _ (List.mem_of_getElem? (i := 7) rfl)) (by decide) (rm_so2 l Z a0 hw [] z2 p3 zc T4.heap n0 Zs4 (ow_staKeep S_cs K4 all0) (by first | assumption | decide | omega) (by first | assumption | decide | omega)) rfl 0 (by decide) (by decide) (by decide) (by decide) [(.int z2), (.int p3)] (by rw [hml]; rfl) pd_6 rfl rfl rfl (Nat.le_of_eq rfl) (hb hby at_21) (pc' := 24) rfl (fun v24 T24 L24 hQ24 X24 => ?_)
      obtain ⟨b24, b24a, kt_24, x0_24, x1_24, rfl, Nc24, Kc24, P24_0, P24_1, P24_2, P24_3, P24_4, P24_5, P24_6⟩ := hQ24
      have P24_6 : ((x0_24.toInt - p3.toInt) % 256 = 0 ∧ -128 ≤ x0_24.toInt ∧ x0_24.toInt < 128) ∧ ((x1_24.toInt - (p3.toInt % 4294967296) / 256) % 256 = 0 ∧ -128 ≤ x1_24.toInt ∧ x1_24.toInt < 128) := P24_6
      have E_b4_24 := P4_0.keep Kc24
      have V_b4_24 := P4_1.keep Kc24 nin0
      have ne_b4_b24 : b4 ≠ b24 := Nat.ne_of_lt (Nat.lt_of_lt_of_le P4_0.lt P24_4)
      have sz_b24 : h0.size ≤ b24 := Nat.le_trans K4.1 P24_4
      have ne_b4_b24a : b4 ≠ b24a := Nat.ne_of_lt (Nat.lt_of_lt_of_le P4_0.lt P24_5)
      have sz_b24a : h0.size ≤ b24a := Nat.le_trans K4.1 P24_5
      have Zs24 : n0 ≤ T24.heap.size := Nat.le_trans Zs4 Kc24.1
      have K24 := K4.trans Kc24 all0
      have N24 := Fr.app N4 Nc24
      show Ends _ _ _ _ T24 (mkF m 24 #[.val (.int p0), .val (.int p1), .val (.int p2), .val (.int p3), .val (.int z1), .val (.int z2), .val (.ref b4), .unset, .unset, .unset, .unset, .unset, .unset, .unset] [(.ref b24)])
      refine ow_astore X24 hx (Ls' := #[.val (.int p0), .val (.int p1), .val (.int p2), .val (.int p3), .val (.int z1), .val (.int z2), .val (.ref b4), .val (.ref b24), .unset, .unset, .unset, .unset, .unset, .unset]) (hb hby at_24) rfl rfl (pc' := 26) rfl ?_
      refine ow_iload X24 hx (hb hby at_26) rfl (pc' := 28) rfl ?_
      refine ow_iloadN X24 hx (hb hby at_28) rfl (pc' := 29) rfl ?_
      refine ow_callS X24 hx hZ hown (hw _ (List.mem_of_getElem? (i := 5) rfl)) (hw _ (List.mem_of_getElem? (i := 6) rfl)) (hw _ (List.mem_of_getElem? (i := 2) rfl)) (hw _ (List.mem_of_getElem? (i := 7) rfl)) (by decide) (rm_so2 l Z a0 hw [] z2 p3 zc T24.heap n0 Zs24 (ow_staKeep S_cs K24 all0) (by first | assumption | decide | omega) (by first | assumption | decide | omega)) rfl 0 (by decide) (by decide) (by decide) (by decide) [(.int z2), (.int p3)] (by rw [hml]; rfl) pd_6 rfl rfl rfl (Nat.le_of_eq rfl) (hb hby at_29) (pc' := 32) rfl (fun v25 T25 L25 hQ25 X25 => ?_)
      obtain ⟨b25, b25a, kt_25, x0_25, x1_25, rfl, Nc25, Kc25, P25_0, P25_1, P25_2, P25_3, P25_4, P25_5, P25_6⟩ := hQ25
      have P25_6 : ((x0_25.toInt - p3.toInt) % 256 = 0 ∧ -128 ≤ x0_25.toInt ∧ x0_25.toInt < 128) ∧ ((x1_25.toInt - (p3.toInt % 4294967296) / 256) % 256 = 0 ∧ -128 ≤ x1_25.toInt ∧ x1_25.toInt < 128) := P25_6
      have E_b4_25 := E_b4_24.keep Kc25
      have V_b4_25 := V_b4_24.keep Kc25 nin0
      have E_b24_25 := P24_0.keep Kc25
      have F_b24_coder_25 := P24_1.keep Kc25 nin0
      have F_b24_value_25 := P24_2.keep Kc25 nin0
      have V_b24a_25 := P24_3.keep Kc25 nin0
      have ne_b4_b25 : b4 ≠ b25 := Nat.ne_of_lt (Nat.lt_of_lt_of_le E_b4_24.lt P25_4)
      have ne_b24_b25 : b24 ≠ b25 := Nat.ne_of_lt (Nat.lt_of_lt_of_le P24_0.lt P25_4)
      have ne_b24a_b25 : b24a ≠ b25 := Nat.ne_of_lt (Nat.lt_of_lt_of_le P24_3.lt P25_4)
      have sz_b25 : h0.size ≤ b25 := Nat.le_trans K24.1 P25_4
      have ne_b4_b25a : b4 ≠ b25a := Nat.ne_of_lt (Nat.lt_of_lt_of_le E_b4_24.lt P25_5)
      have ne_b24_b25a : b24 ≠ b25a := Nat.ne_of_lt (Nat.lt_of_lt_of_le P24_0.lt P25_5)
      have ne_b24a_b25a : b24a ≠ b25a := Nat.ne_of_lt (Nat.lt_of_lt_of_le P24_3.lt P25_5)
      have sz_b25a : h0.size ≤ b25a := Nat.le_trans K24.1 P25_5
      have Zs25 : n0 ≤ T25.heap.size := Nat.le_trans Zs24 Kc25.1
      have K25 := K24.trans Kc25 all0
      have N25 := Fr.app N24 Nc25
      show Ends _ _ _ _ T25 (mkF m 32 #[.val (.int p0), .val (.int p1), .val (.int p2), .val (.int p3), .val (.int z1), .val (.int z2), .val (.ref b4), .val (.ref b24), .unset, .unset, .unset, .unset, .unset, .unset] [(.ref b25)])
      refine ow_astore X25 hx (Ls' := #[.val (.int p0), .val (.int p1), .val (.int p2), .val (.int p3), .val (.int z1), .val (.int z2), .val (.ref b4), .val (.ref b24), .val (.ref b25), .unset, .unset, .unset, .unset, .unset]) (hb hby at_32) rfl rfl (pc' := 34) rfl ?_
      refine ow_aload X25 hx (hb hby at_34) rfl rfl (pc' := 36) rfl ?_
      refine ow_aload X25 hx (hb hby at_36) rfl rfl (pc' := 38) rfl ?_
      refine ow_callSI X25 hx hZ hown (hw _ (List.mem_of_getElem? (i := 37) rfl)) (hw _ (List.mem_of_getElem? (i := 38) rfl)) (hw _ (List.mem_of_getElem? (i := 39) rfl)) (hw _ (List.mem_of_getElem? (i := 40) rfl)) (by decide) (rm_repl l Z a0 hw [] hcw hch b4 b24 T25.heap n0 Zs25 (ow_zk hzk hzn K25 all0) hzn E_b4_25 E_b24_25) (fun v_ w_ => LT.weaken (LT.warm hI0 v_ w_) (by decide) (fun _ h => absurd h List.not_mem_nil)) hS0 (Nat.zero_le _) rfl 0 (by decide) (by decide) (by decide) (by decide) [(.ref b4), (.ref b24)] (by rw [hml]; rfl) pd_7 rfl rfl rfl (Nat.le_of_eq rfl) (hb hby at_38) (pc' := 41) rfl (fun v26 T26 L26 hQ26 X26 hS26 hZ hown => ?_)
      obtain ⟨b26, rfl, Nc26, Kc26, P26_0, P26_1, P26_2, P26_3⟩ := hQ26
      have E_b4_26 := E_b4_25.keep Kc26
      have V_b4_26 := V_b4_25.keep Kc26 nin0
      have E_b24_26 := E_b24_25.keep Kc26
      have F_b24_coder_26 := F_b24_coder_25.keep Kc26 nin0
      have F_b24_value_26 := F_b24_value_25.keep Kc26 nin0
      have V_b24a_26 := V_b24a_25.keep Kc26 nin0
      have E_b25_26 := P25_0.keep Kc26
      have F_b25_coder_26 := P25_1.keep Kc26 nin0
      have F_b25_value_26 := P25_2.keep Kc26 nin0
      have V_b25a_26 := P25_3.keep Kc26 nin0
      have Zs26 : n0 ≤ T26.heap.size := Nat.le_trans Zs25 Kc26.1
      have K26 := K25.trans Kc26 all0
      have N26 := Fr.app N25 Nc26
      show Ends _ _ _ _ T26 (mkF m 41 #[.val (.int p0), .val (.int p1), .val (.int p2), .val (.int p3), .val (.int z1), .val (.int z2), .val (.ref b4), .val (.ref b24), .val (.ref b25), .unset, .unset, .unset, .unset, .unset] [(.ref b26)])
      refine ow_astore X26 hx (Ls' := #[.val (.int p0), .val (.int p1), .val (.int p2), .val (.int p3), .val (.int z1), .val (.int z2), .val (.ref b4), .val (.ref b24), .val (.ref b25), .val (.ref b26), .unset, .unset, .unset, .unset]) (hb hby at_41) rfl rfl (pc' := 43) rfl ?_
      refine ow_aload X26 hx (hb hby at_43) rfl rfl (pc' := 45) rfl ?_
      refine ow_ifnonnullY X26 hx (hb hby at_45) (by decide) (pc' := 50) (by decide) ?_
      refine ow_aload X26 hx (hb hby at_50) rfl rfl (pc' := 52) rfl ?_
      refine ow_callVPI X26 hx hZ rfl hown (hw _ (List.mem_of_getElem? (i := 64) rfl)) (hw _ (List.mem_of_getElem? (i := 65) rfl)) (hw _ (List.mem_of_getElem? (i := 67) rfl)) (hw _ (List.mem_of_getElem? (i := 66) rfl)) (hw _ (List.mem_of_getElem? (i := 39) rfl)) (hw _ (List.mem_of_getElem? (i := 68) rfl)) (by decide) (rm_refd l Z a0 hw [] b26 T26.heap P26_3) rfl 0 (by decide) (by decide) (by decide) (by decide) [] (by rw [hml]; rfl) pd_8 rfl P26_0 rfl rfl (Nat.le_of_eq rfl) (hb hby at_52) (pc' := 55) rfl (fun z27 T27 hz27 X27 e27 => ?_)
      have az27 : z27.toInt = 0 := hz27
      have rz27 := rng32 z27
      refine ow_istore X27 hx (Ls' := #[.val (.int p0), .val (.int p1), .val (.int p2), .val (.int p3), .val (.int z1), .val (.int z2), .val (.ref b4), .val (.ref b24), .val (.ref b25), .val (.ref b26), .val (.int z27), .unset, .unset, .unset]) (hb hby at_55) rfl (pc' := 57) rfl ?_
      refine ow_aload X27 hx (hb hby at_57) rfl rfl (pc' := 59) rfl ?_
      refine ow_callV X27 hx hZ rfl hown (hw _ (List.mem_of_getElem? (i := 69) rfl)) (hw _ (List.mem_of_getElem? (i := 70) rfl)) (hw _ (List.mem_of_getElem? (i := 72) rfl)) (hw _ (List.mem_of_getElem? (i := 71) rfl)) (hw _ (List.mem_of_getElem? (i := 39) rfl)) (hw _ (List.mem_of_getElem? (i := 73) rfl)) (by decide) (rm_rsB l Z a0 hw [] b26 b4 T26.heap P26_1) e27 0 (by decide) (by decide) (by decide) (by decide) [] (by rw [hml]; rfl) pd_9 rfl P26_0 rfl rfl (Nat.le_of_eq rfl) (hb hby at_59) (pc' := 62) rfl (fun v28 T28 L28 hQ28 X28 => ?_)
      obtain ⟨rfl, rfl, e28⟩ := hQ28
      rw [List.append_nil] at X28
      show Ends _ _ _ _ T28 (mkF m 62 #[.val (.int p0), .val (.int p1), .val (.int p2), .val (.int p3), .val (.int z1), .val (.int z2), .val (.ref b4), .val (.ref b24), .val (.ref b25), .val (.ref b26), .val (.int z27), .unset, .unset, .unset] [(.ref b4)])
      refine ow_astore X28 hx (Ls' := #[.val (.int p0), .val (.int p1), .val (.int p2), .val (.int p3), .val (.int z1), .val (.int z2), .val (.ref b4), .val (.ref b24), .val (.ref b25), .val (.ref b26), .val (.int z27), .val (.ref b4), .unset, .unset]) (hb hby at_62) rfl rfl (pc' := 64) rfl ?_
      refine ow_aload X28 hx (hb hby at_64) rfl rfl (pc' := 66) rfl ?_
      refine ow_callV X28 hx hZ rfl hown (hw _ (List.mem_of_getElem? (i := 74) rfl)) (hw _ (List.mem_of_getElem? (i := 75) rfl)) (hw _ (List.mem_of_getElem? (i := 77) rfl)) (hw _ (List.mem_of_getElem? (i := 76) rfl)) (hw _ (List.mem_of_getElem? (i := 39) rfl)) (hw _ (List.mem_of_getElem? (i := 78) rfl)) (by decide) (rm_rsM l Z a0 hw [] b26 b24 T26.heap P26_2) e28 0 (by decide) (by decide) (by decide) (by decide) [] (by rw [hml]; rfl) pd_10 rfl P26_0 rfl rfl (Nat.le_of_eq rfl) (hb hby at_66) (pc' := 69) rfl (fun v29 T29 L29 hQ29 X29 => ?_)
      obtain ⟨rfl, rfl, e29⟩ := hQ29
      rw [List.append_nil] at X29
      show Ends _ _ _ _ T29 (mkF m 69 #[.val (.int p0), .val (.int p1), .val (.int p2), .val (.int p3), .val (.int z1), .val (.int z2), .val (.ref b4), .val (.ref b24), .val (.ref b25), .val (.ref b26), .val (.int z27), .val (.ref b4), .unset, .unset] [(.ref b24)])
      refine ow_astore X29 hx (Ls' := #[.val (.int p0), .val (.int p1), .val (.int p2), .val (.int p3), .val (.int z1), .val (.int z2), .val (.ref b4), .val (.ref b24), .val (.ref b25), .val (.ref b26), .val (.int z27), .val (.ref b4), .val (.ref b24), .unset]) (hb hby at_69) rfl rfl (pc' := 71) rfl ?_
      refine ow_aload X29 hx (hb hby at_71) rfl rfl (pc' := 73) rfl ?_
      refine ow_callV X29 hx hZ rfl hown (hw _ (List.mem_of_getElem? (i := 79) rfl)) (hw _ (List.mem_of_getElem? (i := 80) rfl)) (hw _ (List.mem_of_getElem? (i := 82) rfl)) (hw _ (List.mem_of_getElem? (i := 81) rfl)) (hw _ (List.mem_of_getElem? (i := 39) rfl)) (hw _ (List.mem_of_getElem? (i := 83) rfl)) (by decide) (rm_rsR l Z a0 hw [] b26 T26.heap P26_3) e29 0 (by decide) (by decide) (by decide) (by decide) [] (by rw [hml]; rfl) pd_10 rfl P26_0 rfl rfl (Nat.le_of_eq rfl) (hb hby at_73) (pc' := 76) rfl (fun v30 T30 L30 hQ30 X30 => ?_)
      obtain ⟨rfl, rfl, e30⟩ := hQ30
      rw [List.append_nil] at X30
      show Ends _ _ _ _ T30 (mkF m 76 #[.val (.int p0), .val (.int p1), .val (.int p2), .val (.int p3), .val (.int z1), .val (.int z2), .val (.ref b4), .val (.ref b24), .val (.ref b25), .val (.ref b26), .val (.int z27), .val (.ref b4), .val (.ref b24), .unset] [.null])
      refine ow_astore X30 hx (Ls' := #[.val (.int p0), .val (.int p1), .val (.int p2), .val (.int p3), .val (.int z1), .val (.int z2), .val (.ref b4), .val (.ref b24), .val (.ref b25), .val (.ref b26), .val (.int z27), .val (.ref b4), .val (.ref b24), .val .null]) (hb hby at_76) rfl rfl (pc' := 78) rfl ?_
      refine ow_iload X30 hx (hb hby at_78) rfl (pc' := 80) rfl ?_
      refine ow_if_ne X30 hx (z27.toInt) (hb hby at_80) rfl (by decide) (pt := 118) (by decide) (pf := 83) rfl (fun c80 => absurd c80 (by omega)) (fun c80 => ?_)
      refine ow_aload X30 hx (hb hby at_83) rfl rfl (pc' := 85) rfl ?_
      refine ow_ifnonnullN X30 hx (hb hby at_85) (pc' := 88) rfl ?_
      refine ow_aload X30 hx (hb hby at_88) rfl rfl (pc' := 90) rfl ?_
      refine ow_iload X30 hx (hb hby at_90) rfl (pc' := 92) rfl ?_
      refine ow_iloadN X30 hx (hb hby at_92) rfl (pc' := 93) rfl ?_
      refine ow_callPI X30 hx hZ hown (hw _ (List.mem_of_getElem? (i := 84) rfl)) (hw _ (List.mem_of_getElem? (i := 85) rfl)) (hw _ (List.mem_of_getElem? (i := 2) rfl)) (hw _ (List.mem_of_getElem? (i := 86) rfl)) (by decide) (rm_sam0 l Z a0 hw [] b4 z1 p1 kw_4 T26.heap V_b4_26 (by first | assumption | decide | omega) (by first | assumption | decide | omega)) e30 0 (by decide) (by decide) (by decide) (by decide) [(.ref b4), (.int z1), (.int p1)] (by rw [hml]; rfl) pd_11 rfl rfl rfl (Nat.le_of_eq rfl) (hb hby at_93) (pc' := 96) rfl (fun z31 T31 hz31 X31 e31 => ?_)
      have az31 : z31.toInt = 1 := hz31
      have rz31 := rng32 z31
      refine ow_if_eq X31 hx (z31.toInt) (hb hby at_96) rfl (by decide) (pt := 118) (by decide) (pf := 99) rfl (fun c96 => absurd c96 (by omega)) (fun c96 => ?_)
      refine ow_aload X31 hx (hb hby at_99) rfl rfl (pc' := 101) rfl ?_
      refine ow_ifnullN X31 hx (hb hby at_101) (pc' := 104) rfl ?_
      refine ow_aload X31 hx (hb hby at_104) rfl rfl (pc' := 106) rfl ?_
      refine ow_aload X31 hx (hb hby at_106) rfl rfl (pc' := 108) rfl ?_
      refine ow_callVPI X31 hx hZ rfl hown (hw _ (List.mem_of_getElem? (i := 87) rfl)) (hw _ (List.mem_of_getElem? (i := 88) rfl)) (hw _ (List.mem_of_getElem? (i := 90) rfl)) (hw _ (List.mem_of_getElem? (i := 89) rfl)) (hw _ (List.mem_of_getElem? (i := 10) rfl)) (hw _ (List.mem_of_getElem? (i := 91) rfl)) (by decide) (rm_eqs2 l Z a0 hw [] b24 b25 zc b24a b25a kt_24 kt_25 x0_24 x1_24 x0_25 x1_25 T26.heap (ow_staKeep S_cs K26 all0) (by first | assumption | decide | omega) E_b24_26 F_b24_coder_26 F_b24_value_26 E_b25_26 F_b25_coder_26 F_b25_value_26 V_b24a_26 V_b25a_26 ne_b24_b25 (by first | assumption | decide | omega) (by first | assumption | decide | omega)) e31 0 (by decide) (by decide) (by decide) (by decide) [(.ref b25)] (by rw [hml]; rfl) pd_12 rfl E_b24_26 rfl rfl (Nat.le_of_eq rfl) (hb hby at_108) (pc' := 111) rfl (fun z32 T32 hz32 X32 e32 => ?_)
      have az32 : z32.toInt = 1 := hz32
      have rz32 := rng32 z32
      refine ow_if_eq X32 hx (z32.toInt) (hb hby at_111) rfl (by decide) (pt := 118) (by decide) (pf := 114) rfl (fun c111 => absurd c111 (by omega)) (fun c111 => ?_)
      refine ow_iconst X32 hx (z := (1 : Int32)) (hb hby at_114) rfl (pc' := 115) rfl ?_
      refine ow_goto X32 hx (hb hby at_115) (by decide) (pc' := 119) (by decide) ?_
      exact ow_retBI X32 hx hret hlk (hb hby at_119) hS26 (by rw [e32]; exact (Nat.le_refl _)) (by decide) (by decide) (z' := (1 : Int32)) rfl ⟨rfl, N26⟩
    · refine ow_iload X4 hx (hb hby at_18) rfl (pc' := 20) rfl ?_
      refine ow_iloadN X4 hx (hb hby at_20) rfl (pc' := 21) rfl ?_
      refine ow_callS X4 hx hZ hown (hw _ (List.mem_of_getElem? (i := 5) rfl)) (hw _ (List.mem_of_getElem? (i := 6) rfl)) (hw _ (List.mem_of_getElem? (i := 2) rfl)) (hw _ (List.mem_of_getElem? (i := 7) rfl)) (by decide) (rm_so3 l Z a0 hw [] z2 p3 zc T4.heap n0 Zs4 (ow_staKeep S_cs K4 all0) (by first | assumption | decide | omega) (by first | assumption | decide | omega)) rfl 0 (by decide) (by decide) (by decide) (by decide) [(.int z2), (.int p3)] (by rw [hml]; rfl) pd_6 rfl rfl rfl (Nat.le_of_eq rfl) (hb hby at_21) (pc' := 24) rfl (fun v33 T33 L33 hQ33 X33 => ?_)
      obtain ⟨b33, b33a, kt_33, x0_33, x1_33, x2_33, rfl, Nc33, Kc33, P33_0, P33_1, P33_2, P33_3, P33_4, P33_5, P33_6⟩ := hQ33
      have P33_6 : ((x0_33.toInt - p3.toInt) % 256 = 0 ∧ -128 ≤ x0_33.toInt ∧ x0_33.toInt < 128) ∧ ((x1_33.toInt - (p3.toInt % 4294967296) / 256) % 256 = 0 ∧ -128 ≤ x1_33.toInt ∧ x1_33.toInt < 128) ∧ ((x2_33.toInt - (p3.toInt % 4294967296) / 65536) % 256 = 0 ∧ -128 ≤ x2_33.toInt ∧ x2_33.toInt < 128) := P33_6
      have E_b4_33 := P4_0.keep Kc33
      have V_b4_33 := P4_1.keep Kc33 nin0
      have ne_b4_b33 : b4 ≠ b33 := Nat.ne_of_lt (Nat.lt_of_lt_of_le P4_0.lt P33_4)
      have sz_b33 : h0.size ≤ b33 := Nat.le_trans K4.1 P33_4
      have ne_b4_b33a : b4 ≠ b33a := Nat.ne_of_lt (Nat.lt_of_lt_of_le P4_0.lt P33_5)
      have sz_b33a : h0.size ≤ b33a := Nat.le_trans K4.1 P33_5
      have Zs33 : n0 ≤ T33.heap.size := Nat.le_trans Zs4 Kc33.1
      have K33 := K4.trans Kc33 all0
      have N33 := Fr.app N4 Nc33
      show Ends _ _ _ _ T33 (mkF m 24 #[.val (.int p0), .val (.int p1), .val (.int p2), .val (.int p3), .val (.int z1), .val (.int z2), .val (.ref b4), .unset, .unset, .unset, .unset, .unset, .unset, .unset] [(.ref b33)])
      refine ow_astore X33 hx (Ls' := #[.val (.int p0), .val (.int p1), .val (.int p2), .val (.int p3), .val (.int z1), .val (.int z2), .val (.ref b4), .val (.ref b33), .unset, .unset, .unset, .unset, .unset, .unset]) (hb hby at_24) rfl rfl (pc' := 26) rfl ?_
      refine ow_iload X33 hx (hb hby at_26) rfl (pc' := 28) rfl ?_
      refine ow_iloadN X33 hx (hb hby at_28) rfl (pc' := 29) rfl ?_
      refine ow_callS X33 hx hZ hown (hw _ (List.mem_of_getElem? (i := 5) rfl)) (hw _ (List.mem_of_getElem? (i := 6) rfl)) (hw _ (List.mem_of_getElem? (i := 2) rfl)) (hw _ (List.mem_of_getElem? (i := 7) rfl)) (by decide) (rm_so3 l Z a0 hw [] z2 p3 zc T33.heap n0 Zs33 (ow_staKeep S_cs K33 all0) (by first | assumption | decide | omega) (by first | assumption | decide | omega)) rfl 0 (by decide) (by decide) (by decide) (by decide) [(.int z2), (.int p3)] (by rw [hml]; rfl) pd_6 rfl rfl rfl (Nat.le_of_eq rfl) (hb hby at_29) (pc' := 32) rfl (fun v34 T34 L34 hQ34 X34 => ?_)
      obtain ⟨b34, b34a, kt_34, x0_34, x1_34, x2_34, rfl, Nc34, Kc34, P34_0, P34_1, P34_2, P34_3, P34_4, P34_5, P34_6⟩ := hQ34
      have P34_6 : ((x0_34.toInt - p3.toInt) % 256 = 0 ∧ -128 ≤ x0_34.toInt ∧ x0_34.toInt < 128) ∧ ((x1_34.toInt - (p3.toInt % 4294967296) / 256) % 256 = 0 ∧ -128 ≤ x1_34.toInt ∧ x1_34.toInt < 128) ∧ ((x2_34.toInt - (p3.toInt % 4294967296) / 65536) % 256 = 0 ∧ -128 ≤ x2_34.toInt ∧ x2_34.toInt < 128) := P34_6
      have E_b4_34 := E_b4_33.keep Kc34
      have V_b4_34 := V_b4_33.keep Kc34 nin0
      have E_b33_34 := P33_0.keep Kc34
      have F_b33_coder_34 := P33_1.keep Kc34 nin0
      have F_b33_value_34 := P33_2.keep Kc34 nin0
      have V_b33a_34 := P33_3.keep Kc34 nin0
      have ne_b4_b34 : b4 ≠ b34 := Nat.ne_of_lt (Nat.lt_of_lt_of_le E_b4_33.lt P34_4)
      have ne_b33_b34 : b33 ≠ b34 := Nat.ne_of_lt (Nat.lt_of_lt_of_le P33_0.lt P34_4)
      have ne_b33a_b34 : b33a ≠ b34 := Nat.ne_of_lt (Nat.lt_of_lt_of_le P33_3.lt P34_4)
      have sz_b34 : h0.size ≤ b34 := Nat.le_trans K33.1 P34_4
      have ne_b4_b34a : b4 ≠ b34a := Nat.ne_of_lt (Nat.lt_of_lt_of_le E_b4_33.lt P34_5)
      have ne_b33_b34a : b33 ≠ b34a := Nat.ne_of_lt (Nat.lt_of_lt_of_le P33_0.lt P34_5)
      have ne_b33a_b34a : b33a ≠ b34a := Nat.ne_of_lt (Nat.lt_of_lt_of_le P33_3.lt P34_5)
      have sz_b34a : h0.size ≤ b34a := Nat.le_trans K33.1 P34_5
      have Zs34 : n0 ≤ T34.heap.size := Nat.le_trans Zs33 Kc34.1
      have K34 := K33.trans Kc34 all0
      have N34 := Fr.app N33 Nc34
      show Ends _ _ _ _ T34 (mkF m 32 #[.val (.int p0), .val (.int p1), .val (.int p2), .val (.int p3), .val (.int z1), .val (.int z2), .val (.ref b4), .val (.ref b33), .unset, .unset, .unset, .unset, .unset, .unset] [(.ref b34)])
      refine ow_astore X34 hx (Ls' := #[.val (.int p0), .val (.int p1), .val (.int p2), .val (.int p3), .val (.int z1), .val (.int z2), .val (.ref b4), .val (.ref b33), .val (.ref b34), .unset, .unset, .unset, .unset, .unset]) (hb hby at_32) rfl rfl (pc' := 34) rfl ?_
      refine ow_aload X34 hx (hb hby at_34) rfl rfl (pc' := 36) rfl ?_
      refine ow_aload X34 hx (hb hby at_36) rfl rfl (pc' := 38) rfl ?_
      refine ow_callSI X34 hx hZ hown (hw _ (List.mem_of_getElem? (i := 37) rfl)) (hw _ (List.mem_of_getElem? (i := 38) rfl)) (hw _ (List.mem_of_getElem? (i := 39) rfl)) (hw _ (List.mem_of_getElem? (i := 40) rfl)) (by decide) (rm_repl l Z a0 hw [] hcw hch b4 b33 T34.heap n0 Zs34 (ow_zk hzk hzn K34 all0) hzn E_b4_34 E_b33_34) (fun v_ w_ => LT.weaken (LT.warm hI0 v_ w_) (by decide) (fun _ h => absurd h List.not_mem_nil)) hS0 (Nat.zero_le _) rfl 0 (by decide) (by decide) (by decide) (by decide) [(.ref b4), (.ref b33)] (by rw [hml]; rfl) pd_7 rfl rfl rfl (Nat.le_of_eq rfl) (hb hby at_38) (pc' := 41) rfl (fun v35 T35 L35 hQ35 X35 hS35 hZ hown => ?_)
      obtain ⟨b35, rfl, Nc35, Kc35, P35_0, P35_1, P35_2, P35_3⟩ := hQ35
      have E_b4_35 := E_b4_34.keep Kc35
      have V_b4_35 := V_b4_34.keep Kc35 nin0
      have E_b33_35 := E_b33_34.keep Kc35
      have F_b33_coder_35 := F_b33_coder_34.keep Kc35 nin0
      have F_b33_value_35 := F_b33_value_34.keep Kc35 nin0
      have V_b33a_35 := V_b33a_34.keep Kc35 nin0
      have E_b34_35 := P34_0.keep Kc35
      have F_b34_coder_35 := P34_1.keep Kc35 nin0
      have F_b34_value_35 := P34_2.keep Kc35 nin0
      have V_b34a_35 := P34_3.keep Kc35 nin0
      have Zs35 : n0 ≤ T35.heap.size := Nat.le_trans Zs34 Kc35.1
      have K35 := K34.trans Kc35 all0
      have N35 := Fr.app N34 Nc35
      show Ends _ _ _ _ T35 (mkF m 41 #[.val (.int p0), .val (.int p1), .val (.int p2), .val (.int p3), .val (.int z1), .val (.int z2), .val (.ref b4), .val (.ref b33), .val (.ref b34), .unset, .unset, .unset, .unset, .unset] [(.ref b35)])
      refine ow_astore X35 hx (Ls' := #[.val (.int p0), .val (.int p1), .val (.int p2), .val (.int p3), .val (.int z1), .val (.int z2), .val (.ref b4), .val (.ref b33), .val (.ref b34), .val (.ref b35), .unset, .unset, .unset, .unset]) (hb hby at_41) rfl rfl (pc' := 43) rfl ?_
      refine ow_aload X35 hx (hb hby at_43) rfl rfl (pc' := 45) rfl ?_
      refine ow_ifnonnullY X35 hx (hb hby at_45) (by decide) (pc' := 50) (by decide) ?_
      refine ow_aload X35 hx (hb hby at_50) rfl rfl (pc' := 52) rfl ?_
      refine ow_callVPI X35 hx hZ rfl hown (hw _ (List.mem_of_getElem? (i := 64) rfl)) (hw _ (List.mem_of_getElem? (i := 65) rfl)) (hw _ (List.mem_of_getElem? (i := 67) rfl)) (hw _ (List.mem_of_getElem? (i := 66) rfl)) (hw _ (List.mem_of_getElem? (i := 39) rfl)) (hw _ (List.mem_of_getElem? (i := 68) rfl)) (by decide) (rm_refd l Z a0 hw [] b35 T35.heap P35_3) rfl 0 (by decide) (by decide) (by decide) (by decide) [] (by rw [hml]; rfl) pd_8 rfl P35_0 rfl rfl (Nat.le_of_eq rfl) (hb hby at_52) (pc' := 55) rfl (fun z36 T36 hz36 X36 e36 => ?_)
      have az36 : z36.toInt = 0 := hz36
      have rz36 := rng32 z36
      refine ow_istore X36 hx (Ls' := #[.val (.int p0), .val (.int p1), .val (.int p2), .val (.int p3), .val (.int z1), .val (.int z2), .val (.ref b4), .val (.ref b33), .val (.ref b34), .val (.ref b35), .val (.int z36), .unset, .unset, .unset]) (hb hby at_55) rfl (pc' := 57) rfl ?_
      refine ow_aload X36 hx (hb hby at_57) rfl rfl (pc' := 59) rfl ?_
      refine ow_callV X36 hx hZ rfl hown (hw _ (List.mem_of_getElem? (i := 69) rfl)) (hw _ (List.mem_of_getElem? (i := 70) rfl)) (hw _ (List.mem_of_getElem? (i := 72) rfl)) (hw _ (List.mem_of_getElem? (i := 71) rfl)) (hw _ (List.mem_of_getElem? (i := 39) rfl)) (hw _ (List.mem_of_getElem? (i := 73) rfl)) (by decide) (rm_rsB l Z a0 hw [] b35 b4 T35.heap P35_1) e36 0 (by decide) (by decide) (by decide) (by decide) [] (by rw [hml]; rfl) pd_9 rfl P35_0 rfl rfl (Nat.le_of_eq rfl) (hb hby at_59) (pc' := 62) rfl (fun v37 T37 L37 hQ37 X37 => ?_)
      obtain ⟨rfl, rfl, e37⟩ := hQ37
      rw [List.append_nil] at X37
      show Ends _ _ _ _ T37 (mkF m 62 #[.val (.int p0), .val (.int p1), .val (.int p2), .val (.int p3), .val (.int z1), .val (.int z2), .val (.ref b4), .val (.ref b33), .val (.ref b34), .val (.ref b35), .val (.int z36), .unset, .unset, .unset] [(.ref b4)])
      refine ow_astore X37 hx (Ls' := #[.val (.int p0), .val (.int p1), .val (.int p2), .val (.int p3), .val (.int z1), .val (.int z2), .val (.ref b4), .val (.ref b33), .val (.ref b34), .val (.ref b35), .val (.int z36), .val (.ref b4), .unset, .unset]) (hb hby at_62) rfl rfl (pc' := 64) rfl ?_
      refine ow_aload X37 hx (hb hby at_64) rfl rfl (pc' := 66) rfl ?_
      refine ow_callV X37 hx hZ rfl hown (hw _ (List.mem_of_getElem? (i := 74) rfl)) (hw _ (List.mem_of_getElem? (i := 75) rfl)) (hw _ (List.mem_of_getElem? (i := 77) rfl)) (hw _ (List.mem_of_getElem? (i := 76) rfl)) (hw _ (List.mem_of_getElem? (i := 39) rfl)) (hw _ (List.mem_of_getElem? (i := 78) rfl)) (by decide) (rm_rsM l Z a0 hw [] b35 b33 T35.heap P35_2) e37 0 (by decide) (by decide) (by decide) (by decide) [] (by rw [hml]; rfl) pd_10 rfl P35_0 rfl rfl (Nat.le_of_eq rfl) (hb hby at_66) (pc' := 69) rfl (fun v38 T38 L38 hQ38 X38 => ?_)
      obtain ⟨rfl, rfl, e38⟩ := hQ38
      rw [List.append_nil] at X38
      show Ends _ _ _ _ T38 (mkF m 69 #[.val (.int p0), .val (.int p1), .val (.int p2), .val (.int p3), .val (.int z1), .val (.int z2), .val (.ref b4), .val (.ref b33), .val (.ref b34), .val (.ref b35), .val (.int z36), .val (.ref b4), .unset, .unset] [(.ref b33)])
      refine ow_astore X38 hx (Ls' := #[.val (.int p0), .val (.int p1), .val (.int p2), .val (.int p3), .val (.int z1), .val (.int z2), .val (.ref b4), .val (.ref b33), .val (.ref b34), .val (.ref b35), .val (.int z36), .val (.ref b4), .val (.ref b33), .unset]) (hb hby at_69) rfl rfl (pc' := 71) rfl ?_
      refine ow_aload X38 hx (hb hby at_71) rfl rfl (pc' := 73) rfl ?_
      refine ow_callV X38 hx hZ rfl hown (hw _ (List.mem_of_getElem? (i := 79) rfl)) (hw _ (List.mem_of_getElem? (i := 80) rfl)) (hw _ (List.mem_of_getElem? (i := 82) rfl)) (hw _ (List.mem_of_getElem? (i := 81) rfl)) (hw _ (List.mem_of_getElem? (i := 39) rfl)) (hw _ (List.mem_of_getElem? (i := 83) rfl)) (by decide) (rm_rsR l Z a0 hw [] b35 T35.heap P35_3) e38 0 (by decide) (by decide) (by decide) (by decide) [] (by rw [hml]; rfl) pd_10 rfl P35_0 rfl rfl (Nat.le_of_eq rfl) (hb hby at_73) (pc' := 76) rfl (fun v39 T39 L39 hQ39 X39 => ?_)
      obtain ⟨rfl, rfl, e39⟩ := hQ39
      rw [List.append_nil] at X39
      show Ends _ _ _ _ T39 (mkF m 76 #[.val (.int p0), .val (.int p1), .val (.int p2), .val (.int p3), .val (.int z1), .val (.int z2), .val (.ref b4), .val (.ref b33), .val (.ref b34), .val (.ref b35), .val (.int z36), .val (.ref b4), .val (.ref b33), .unset] [.null])
      refine ow_astore X39 hx (Ls' := #[.val (.int p0), .val (.int p1), .val (.int p2), .val (.int p3), .val (.int z1), .val (.int z2), .val (.ref b4), .val (.ref b33), .val (.ref b34), .val (.ref b35), .val (.int z36), .val (.ref b4), .val (.ref b33), .val .null]) (hb hby at_76) rfl rfl (pc' := 78) rfl ?_
      refine ow_iload X39 hx (hb hby at_78) rfl (pc' := 80) rfl ?_
      refine ow_if_ne X39 hx (z36.toInt) (hb hby at_80) rfl (by decide) (pt := 118) (by decide) (pf := 83) rfl (fun c80 => absurd c80 (by omega)) (fun c80 => ?_)
      refine ow_aload X39 hx (hb hby at_83) rfl rfl (pc' := 85) rfl ?_
      refine ow_ifnonnullN X39 hx (hb hby at_85) (pc' := 88) rfl ?_
      refine ow_aload X39 hx (hb hby at_88) rfl rfl (pc' := 90) rfl ?_
      refine ow_iload X39 hx (hb hby at_90) rfl (pc' := 92) rfl ?_
      refine ow_iloadN X39 hx (hb hby at_92) rfl (pc' := 93) rfl ?_
      refine ow_callPI X39 hx hZ hown (hw _ (List.mem_of_getElem? (i := 84) rfl)) (hw _ (List.mem_of_getElem? (i := 85) rfl)) (hw _ (List.mem_of_getElem? (i := 2) rfl)) (hw _ (List.mem_of_getElem? (i := 86) rfl)) (by decide) (rm_sam0 l Z a0 hw [] b4 z1 p1 kw_4 T35.heap V_b4_35 (by first | assumption | decide | omega) (by first | assumption | decide | omega)) e39 0 (by decide) (by decide) (by decide) (by decide) [(.ref b4), (.int z1), (.int p1)] (by rw [hml]; rfl) pd_11 rfl rfl rfl (Nat.le_of_eq rfl) (hb hby at_93) (pc' := 96) rfl (fun z40 T40 hz40 X40 e40 => ?_)
      have az40 : z40.toInt = 1 := hz40
      have rz40 := rng32 z40
      refine ow_if_eq X40 hx (z40.toInt) (hb hby at_96) rfl (by decide) (pt := 118) (by decide) (pf := 99) rfl (fun c96 => absurd c96 (by omega)) (fun c96 => ?_)
      refine ow_aload X40 hx (hb hby at_99) rfl rfl (pc' := 101) rfl ?_
      refine ow_ifnullN X40 hx (hb hby at_101) (pc' := 104) rfl ?_
      refine ow_aload X40 hx (hb hby at_104) rfl rfl (pc' := 106) rfl ?_
      refine ow_aload X40 hx (hb hby at_106) rfl rfl (pc' := 108) rfl ?_
      refine ow_callVPI X40 hx hZ rfl hown (hw _ (List.mem_of_getElem? (i := 87) rfl)) (hw _ (List.mem_of_getElem? (i := 88) rfl)) (hw _ (List.mem_of_getElem? (i := 90) rfl)) (hw _ (List.mem_of_getElem? (i := 89) rfl)) (hw _ (List.mem_of_getElem? (i := 10) rfl)) (hw _ (List.mem_of_getElem? (i := 91) rfl)) (by decide) (rm_eqs3 l Z a0 hw [] b33 b34 zc b33a b34a kt_33 kt_34 x0_33 x1_33 x2_33 x0_34 x1_34 x2_34 T35.heap (ow_staKeep S_cs K35 all0) (by first | assumption | decide | omega) E_b33_35 F_b33_coder_35 F_b33_value_35 E_b34_35 F_b34_coder_35 F_b34_value_35 V_b33a_35 V_b34a_35 ne_b33_b34 (by first | assumption | decide | omega) (by first | assumption | decide | omega) (by first | assumption | decide | omega)) e40 0 (by decide) (by decide) (by decide) (by decide) [(.ref b34)] (by rw [hml]; rfl) pd_12 rfl E_b33_35 rfl rfl (Nat.le_of_eq rfl) (hb hby at_108) (pc' := 111) rfl (fun z41 T41 hz41 X41 e41 => ?_)
      have az41 : z41.toInt = 1 := hz41
      have rz41 := rng32 z41
      refine ow_if_eq X41 hx (z41.toInt) (hb hby at_111) rfl (by decide) (pt := 118) (by decide) (pf := 114) rfl (fun c111 => absurd c111 (by omega)) (fun c111 => ?_)
      refine ow_iconst X41 hx (z := (1 : Int32)) (hb hby at_114) rfl (pc' := 115) rfl ?_
      refine ow_goto X41 hx (hb hby at_115) (by decide) (pc' := 119) (by decide) ?_
      exact ow_retBI X41 hx hret hlk (hb hby at_119) hS35 (by rw [e41]; exact (Nat.le_refl _)) (by decide) (by decide) (z' := (1 : Int32)) rfl ⟨rfl, N35⟩
  · refine ow_iload X0 hx (hb hby at_10) rfl (pc' := 12) rfl ?_
    refine ow_iloadN X0 hx (hb hby at_12) rfl (pc' := 13) rfl ?_
    refine ow_callS X0 hx hZ hown (hw _ (List.mem_of_getElem? (i := 0) rfl)) (hw _ (List.mem_of_getElem? (i := 1) rfl)) (hw _ (List.mem_of_getElem? (i := 2) rfl)) (hw _ (List.mem_of_getElem? (i := 3) rfl)) (by decide) (rm_byt1 l Z a0 hw [] z1 p1 h0 n0 Z0 (by first | assumption | decide | omega)) e0 0 (by decide) (by decide) (by decide) (by decide) [(.int z1), (.int p1)] (by rw [hml]; rfl) pd_5 rfl rfl rfl (Nat.le_of_eq rfl) (hb hby at_13) (pc' := 16) rfl (fun v42 T42 L42 hQ42 X42 => ?_)
    obtain ⟨b42, kw_42, y0_42, rfl, Nc42, Kc42, P42_0, P42_1, P42_2, P42_3⟩ := hQ42
    have P42_3 : ((y0_42.toInt - p1.toInt) % 256 = 0 ∧ -128 ≤ y0_42.toInt ∧ y0_42.toInt < 128) := P42_3
    have sz_b42 : h0.size ≤ b42 := Nat.le_trans (Keep.refl h0 []).1 P42_2
    have Zs42 : n0 ≤ T42.heap.size := Nat.le_trans Z0 Kc42.1
    have K42 := (Keep.refl h0 []).trans Kc42 all0
    have N42 := Fr.app N0 Nc42
    show Ends _ _ _ _ T42 (mkF m 16 #[.val (.int p0), .val (.int p1), .val (.int p2), .val (.int p3), .val (.int z1), .val (.int z2), .unset, .unset, .unset, .unset, .unset, .unset, .unset, .unset] [(.ref b42)])
    refine ow_astore X42 hx (Ls' := #[.val (.int p0), .val (.int p1), .val (.int p2), .val (.int p3), .val (.int z1), .val (.int z2), .val (.ref b42), .unset, .unset, .unset, .unset, .unset, .unset, .unset]) (hb hby at_16) rfl rfl (pc' := 18) rfl ?_
    rcases (show z2.toInt = 0 ∨ z2.toInt = 1 ∨ z2.toInt = 2 ∨ z2.toInt = 3 from by omega) with hmn | hmn | hmn | hmn
    · refine ow_iload X42 hx (hb hby at_18) rfl (pc' := 20) rfl ?_
      refine ow_iloadN X42 hx (hb hby at_20) rfl (pc' := 21) rfl ?_
      refine ow_callSI X42 hx hZ hown (hw _ (List.mem_of_getElem? (i := 5) rfl)) (hw _ (List.mem_of_getElem? (i := 6) rfl)) (hw _ (List.mem_of_getElem? (i := 2) rfl)) (hw _ (List.mem_of_getElem? (i := 7) rfl)) (by decide) (rm_so0a l Z a0 hw [] hcw hch z2 p3 T42.heap n0 Zs42 (ow_zk hzk hzn K42 all0) hzn (by first | assumption | decide | omega)) (LT.warm hI0) hS0 (Nat.zero_le _) rfl 0 (by decide) (by decide) (by decide) (by decide) [(.int z2), (.int p3)] (by rw [hml]; rfl) pd_6 rfl rfl rfl (Nat.le_of_eq rfl) (hb hby at_21) (pc' := 24) rfl (fun v44 T44 L44 hQ44 X44 hS44 hZ hown => ?_)
      obtain ⟨b44, b44a, b44b, kt_44, rfl, Nc44, Kc44, P44_0, P44_1, P44_2, P44_3, P44_4, P44_5, P44_6, P44_7, hI44⟩ := hQ44
      have E_b42_44 := P42_0.keep Kc44
      have V_b42_44 := P42_1.keep Kc44 nin0
      have ne_b42_b44 : b42 ≠ b44 := Nat.ne_of_lt (Nat.lt_of_lt_of_le P42_0.lt P44_3)
      have sz_b44 : h0.size ≤ b44 := Nat.le_trans K42.1 P44_3
      have Zs44 : n0 ≤ T44.heap.size := Nat.le_trans Zs42 Kc44.1
      have K44 := K42.trans Kc44 all0
      have N44 := Fr.app N42 Nc44
      show Ends _ _ _ _ T44 (mkF m 24 #[.val (.int p0), .val (.int p1), .val (.int p2), .val (.int p3), .val (.int z1), .val (.int z2), .val (.ref b42), .unset, .unset, .unset, .unset, .unset, .unset, .unset] [(.ref b44)])
      refine ow_astore X44 hx (Ls' := #[.val (.int p0), .val (.int p1), .val (.int p2), .val (.int p3), .val (.int z1), .val (.int z2), .val (.ref b42), .val (.ref b44), .unset, .unset, .unset, .unset, .unset, .unset]) (hb hby at_24) rfl rfl (pc' := 26) rfl ?_
      refine ow_iload X44 hx (hb hby at_26) rfl (pc' := 28) rfl ?_
      refine ow_iloadN X44 hx (hb hby at_28) rfl (pc' := 29) rfl ?_
      refine ow_callSI X44 hx hZ hown (hw _ (List.mem_of_getElem? (i := 5) rfl)) (hw _ (List.mem_of_getElem? (i := 6) rfl)) (hw _ (List.mem_of_getElem? (i := 2) rfl)) (hw _ (List.mem_of_getElem? (i := 7) rfl)) (by decide) (rm_so0b l Z a0 hw [] hcw hch z2 p3 b44a b44b kt_44 T44.heap n0 Zs44 (ow_zk hzk hzn K44 all0) hzn P44_4 P44_5 P44_6 P44_7 (by first | assumption | decide | omega)) (LT.warm hI44) hS44 (Nat.le_refl _) rfl 0 (by decide) (by decide) (by decide) (by decide) [(.int z2), (.int p3)] (by rw [hml]; rfl) pd_6 rfl rfl rfl (Nat.le_of_eq rfl) (hb hby at_29) (pc' := 32) rfl (fun v45 T45 L45 hQ45 X45 hS45 hZ hown => ?_)
      obtain ⟨b45, rfl, Nc45, Kc45, P45_0, P45_1, P45_2, P45_3, hI45⟩ := hQ45
      have E_b42_45 := E_b42_44.keep Kc45
      have V_b42_45 := V_b42_44.keep Kc45 nin0
      have E_b44_45 := P44_0.keep Kc45
      have F_b44_coder_45 := P44_1.keep Kc45 nin0
      have F_b44_value_45 := P44_2.keep Kc45 nin0
      have E_b44a_45 := P44_4.keep Kc45
      have F_b44a_coder_45 := P44_5.keep Kc45 nin0
      have F_b44a_value_45 := P44_6.keep Kc45 nin0
      have V_b44b_45 := P44_7.keep Kc45 nin0
      have ne_b42_b45 : b42 ≠ b45 := Nat.ne_of_lt (Nat.lt_of_lt_of_le E_b42_44.lt P45_3)
      have ne_b44_b45 : b44 ≠ b45 := Nat.ne_of_lt (Nat.lt_of_lt_of_le P44_0.lt P45_3)
      have ne_b44a_b45 : b44a ≠ b45 := Nat.ne_of_lt (Nat.lt_of_lt_of_le P44_4.lt P45_3)
      have ne_b44b_b45 : b44b ≠ b45 := Nat.ne_of_lt (Nat.lt_of_lt_of_le P44_7.lt P45_3)
      have sz_b45 : h0.size ≤ b45 := Nat.le_trans K44.1 P45_3
      have Zs45 : n0 ≤ T45.heap.size := Nat.le_trans Zs44 Kc45.1
      have K45 := K44.trans Kc45 all0
      have N45 := Fr.app N44 Nc45
      show Ends _ _ _ _ T45 (mkF m 32 #[.val (.int p0), .val (.int p1), .val (.int p2), .val (.int p3), .val (.int z1), .val (.int z2), .val (.ref b42), .val (.ref b44), .unset, .unset, .unset, .unset, .unset, .unset] [(.ref b45)])
      refine ow_astore X45 hx (Ls' := #[.val (.int p0), .val (.int p1), .val (.int p2), .val (.int p3), .val (.int z1), .val (.int z2), .val (.ref b42), .val (.ref b44), .val (.ref b45), .unset, .unset, .unset, .unset, .unset]) (hb hby at_32) rfl rfl (pc' := 34) rfl ?_
      refine ow_aload X45 hx (hb hby at_34) rfl rfl (pc' := 36) rfl ?_
      refine ow_aload X45 hx (hb hby at_36) rfl rfl (pc' := 38) rfl ?_
      refine ow_callSI X45 hx hZ hown (hw _ (List.mem_of_getElem? (i := 37) rfl)) (hw _ (List.mem_of_getElem? (i := 38) rfl)) (hw _ (List.mem_of_getElem? (i := 39) rfl)) (hw _ (List.mem_of_getElem? (i := 40) rfl)) (by decide) (rm_repl l Z a0 hw [] hcw hch b42 b44 T45.heap n0 Zs45 (ow_zk hzk hzn K45 all0) hzn E_b42_45 E_b44_45) (fun v_ w_ => LT.weaken (LT.warm hI45 v_ w_) (by decide) (fun _ h => absurd h List.not_mem_nil)) hS45 (Nat.le_refl _) rfl 0 (by decide) (by decide) (by decide) (by decide) [(.ref b42), (.ref b44)] (by rw [hml]; rfl) pd_7 rfl rfl rfl (Nat.le_of_eq rfl) (hb hby at_38) (pc' := 41) rfl (fun v46 T46 L46 hQ46 X46 hS46 hZ hown => ?_)
      obtain ⟨b46, rfl, Nc46, Kc46, P46_0, P46_1, P46_2, P46_3⟩ := hQ46
      have E_b42_46 := E_b42_45.keep Kc46
      have V_b42_46 := V_b42_45.keep Kc46 nin0
      have E_b44_46 := E_b44_45.keep Kc46
      have F_b44_coder_46 := F_b44_coder_45.keep Kc46 nin0
      have F_b44_value_46 := F_b44_value_45.keep Kc46 nin0
      have E_b44a_46 := E_b44a_45.keep Kc46
      have F_b44a_coder_46 := F_b44a_coder_45.keep Kc46 nin0
      have F_b44a_value_46 := F_b44a_value_45.keep Kc46 nin0
      have V_b44b_46 := V_b44b_45.keep Kc46 nin0
      have E_b45_46 := P45_0.keep Kc46
      have F_b45_coder_46 := P45_1.keep Kc46 nin0
      have F_b45_value_46 := P45_2.keep Kc46 nin0
      have Zs46 : n0 ≤ T46.heap.size := Nat.le_trans Zs45 Kc46.1
      have K46 := K45.trans Kc46 all0
      have N46 := Fr.app N45 Nc46
      show Ends _ _ _ _ T46 (mkF m 41 #[.val (.int p0), .val (.int p1), .val (.int p2), .val (.int p3), .val (.int z1), .val (.int z2), .val (.ref b42), .val (.ref b44), .val (.ref b45), .unset, .unset, .unset, .unset, .unset] [(.ref b46)])
      refine ow_astore X46 hx (Ls' := #[.val (.int p0), .val (.int p1), .val (.int p2), .val (.int p3), .val (.int z1), .val (.int z2), .val (.ref b42), .val (.ref b44), .val (.ref b45), .val (.ref b46), .unset, .unset, .unset, .unset]) (hb hby at_41) rfl rfl (pc' := 43) rfl ?_
      refine ow_aload X46 hx (hb hby at_43) rfl rfl (pc' := 45) rfl ?_
      refine ow_ifnonnullY X46 hx (hb hby at_45) (by decide) (pc' := 50) (by decide) ?_
      refine ow_aload X46 hx (hb hby at_50) rfl rfl (pc' := 52) rfl ?_
      refine ow_callVPI X46 hx hZ rfl hown (hw _ (List.mem_of_getElem? (i := 64) rfl)) (hw _ (List.mem_of_getElem? (i := 65) rfl)) (hw _ (List.mem_of_getElem? (i := 67) rfl)) (hw _ (List.mem_of_getElem? (i := 66) rfl)) (hw _ (List.mem_of_getElem? (i := 39) rfl)) (hw _ (List.mem_of_getElem? (i := 68) rfl)) (by decide) (rm_refd l Z a0 hw [] b46 T46.heap P46_3) rfl 0 (by decide) (by decide) (by decide) (by decide) [] (by rw [hml]; rfl) pd_8 rfl P46_0 rfl rfl (Nat.le_of_eq rfl) (hb hby at_52) (pc' := 55) rfl (fun z47 T47 hz47 X47 e47 => ?_)
      have az47 : z47.toInt = 0 := hz47
      have rz47 := rng32 z47
      refine ow_istore X47 hx (Ls' := #[.val (.int p0), .val (.int p1), .val (.int p2), .val (.int p3), .val (.int z1), .val (.int z2), .val (.ref b42), .val (.ref b44), .val (.ref b45), .val (.ref b46), .val (.int z47), .unset, .unset, .unset]) (hb hby at_55) rfl (pc' := 57) rfl ?_
      refine ow_aload X47 hx (hb hby at_57) rfl rfl (pc' := 59) rfl ?_
      refine ow_callV X47 hx hZ rfl hown (hw _ (List.mem_of_getElem? (i := 69) rfl)) (hw _ (List.mem_of_getElem? (i := 70) rfl)) (hw _ (List.mem_of_getElem? (i := 72) rfl)) (hw _ (List.mem_of_getElem? (i := 71) rfl)) (hw _ (List.mem_of_getElem? (i := 39) rfl)) (hw _ (List.mem_of_getElem? (i := 73) rfl)) (by decide) (rm_rsB l Z a0 hw [] b46 b42 T46.heap P46_1) e47 0 (by decide) (by decide) (by decide) (by decide) [] (by rw [hml]; rfl) pd_9 rfl P46_0 rfl rfl (Nat.le_of_eq rfl) (hb hby at_59) (pc' := 62) rfl (fun v48 T48 L48 hQ48 X48 => ?_)
      obtain ⟨rfl, rfl, e48⟩ := hQ48
      rw [List.append_nil] at X48
      show Ends _ _ _ _ T48 (mkF m 62 #[.val (.int p0), .val (.int p1), .val (.int p2), .val (.int p3), .val (.int z1), .val (.int z2), .val (.ref b42), .val (.ref b44), .val (.ref b45), .val (.ref b46), .val (.int z47), .unset, .unset, .unset] [(.ref b42)])
      refine ow_astore X48 hx (Ls' := #[.val (.int p0), .val (.int p1), .val (.int p2), .val (.int p3), .val (.int z1), .val (.int z2), .val (.ref b42), .val (.ref b44), .val (.ref b45), .val (.ref b46), .val (.int z47), .val (.ref b42), .unset, .unset]) (hb hby at_62) rfl rfl (pc' := 64) rfl ?_
      refine ow_aload X48 hx (hb hby at_64) rfl rfl (pc' := 66) rfl ?_
      refine ow_callV X48 hx hZ rfl hown (hw _ (List.mem_of_getElem? (i := 74) rfl)) (hw _ (List.mem_of_getElem? (i := 75) rfl)) (hw _ (List.mem_of_getElem? (i := 77) rfl)) (hw _ (List.mem_of_getElem? (i := 76) rfl)) (hw _ (List.mem_of_getElem? (i := 39) rfl)) (hw _ (List.mem_of_getElem? (i := 78) rfl)) (by decide) (rm_rsM l Z a0 hw [] b46 b44 T46.heap P46_2) e48 0 (by decide) (by decide) (by decide) (by decide) [] (by rw [hml]; rfl) pd_10 rfl P46_0 rfl rfl (Nat.le_of_eq rfl) (hb hby at_66) (pc' := 69) rfl (fun v49 T49 L49 hQ49 X49 => ?_)
      obtain ⟨rfl, rfl, e49⟩ := hQ49
      rw [List.append_nil] at X49
      show Ends _ _ _ _ T49 (mkF m 69 #[.val (.int p0), .val (.int p1), .val (.int p2), .val (.int p3), .val (.int z1), .val (.int z2), .val (.ref b42), .val (.ref b44), .val (.ref b45), .val (.ref b46), .val (.int z47), .val (.ref b42), .unset, .unset] [(.ref b44)])
      refine ow_astore X49 hx (Ls' := #[.val (.int p0), .val (.int p1), .val (.int p2), .val (.int p3), .val (.int z1), .val (.int z2), .val (.ref b42), .val (.ref b44), .val (.ref b45), .val (.ref b46), .val (.int z47), .val (.ref b42), .val (.ref b44), .unset]) (hb hby at_69) rfl rfl (pc' := 71) rfl ?_
      refine ow_aload X49 hx (hb hby at_71) rfl rfl (pc' := 73) rfl ?_
      refine ow_callV X49 hx hZ rfl hown (hw _ (List.mem_of_getElem? (i := 79) rfl)) (hw _ (List.mem_of_getElem? (i := 80) rfl)) (hw _ (List.mem_of_getElem? (i := 82) rfl)) (hw _ (List.mem_of_getElem? (i := 81) rfl)) (hw _ (List.mem_of_getElem? (i := 39) rfl)) (hw _ (List.mem_of_getElem? (i := 83) rfl)) (by decide) (rm_rsR l Z a0 hw [] b46 T46.heap P46_3) e49 0 (by decide) (by decide) (by decide) (by decide) [] (by rw [hml]; rfl) pd_10 rfl P46_0 rfl rfl (Nat.le_of_eq rfl) (hb hby at_73) (pc' := 76) rfl (fun v50 T50 L50 hQ50 X50 => ?_)
      obtain ⟨rfl, rfl, e50⟩ := hQ50
      rw [List.append_nil] at X50
      show Ends _ _ _ _ T50 (mkF m 76 #[.val (.int p0), .val (.int p1), .val (.int p2), .val (.int p3), .val (.int z1), .val (.int z2), .val (.ref b42), .val (.ref b44), .val (.ref b45), .val (.ref b46), .val (.int z47), .val (.ref b42), .val (.ref b44), .unset] [.null])
      refine ow_astore X50 hx (Ls' := #[.val (.int p0), .val (.int p1), .val (.int p2), .val (.int p3), .val (.int z1), .val (.int z2), .val (.ref b42), .val (.ref b44), .val (.ref b45), .val (.ref b46), .val (.int z47), .val (.ref b42), .val (.ref b44), .val .null]) (hb hby at_76) rfl rfl (pc' := 78) rfl ?_
      refine ow_iload X50 hx (hb hby at_78) rfl (pc' := 80) rfl ?_
      refine ow_if_ne X50 hx (z47.toInt) (hb hby at_80) rfl (by decide) (pt := 118) (by decide) (pf := 83) rfl (fun c80 => absurd c80 (by omega)) (fun c80 => ?_)
      refine ow_aload X50 hx (hb hby at_83) rfl rfl (pc' := 85) rfl ?_
      refine ow_ifnonnullN X50 hx (hb hby at_85) (pc' := 88) rfl ?_
      refine ow_aload X50 hx (hb hby at_88) rfl rfl (pc' := 90) rfl ?_
      refine ow_iload X50 hx (hb hby at_90) rfl (pc' := 92) rfl ?_
      refine ow_iloadN X50 hx (hb hby at_92) rfl (pc' := 93) rfl ?_
      refine ow_callPI X50 hx hZ hown (hw _ (List.mem_of_getElem? (i := 84) rfl)) (hw _ (List.mem_of_getElem? (i := 85) rfl)) (hw _ (List.mem_of_getElem? (i := 2) rfl)) (hw _ (List.mem_of_getElem? (i := 86) rfl)) (by decide) (rm_sam1 l Z a0 hw [] b42 z1 p1 kw_42 y0_42 T46.heap V_b42_46 (by first | assumption | decide | omega) (by first | assumption | decide | omega)) e50 0 (by decide) (by decide) (by decide) (by decide) [(.ref b42), (.int z1), (.int p1)] (by rw [hml]; rfl) pd_11 rfl rfl rfl (Nat.le_of_eq rfl) (hb hby at_93) (pc' := 96) rfl (fun z51 T51 hz51 X51 e51 => ?_)
      have az51 : z51.toInt = 1 := hz51
      have rz51 := rng32 z51
      refine ow_if_eq X51 hx (z51.toInt) (hb hby at_96) rfl (by decide) (pt := 118) (by decide) (pf := 99) rfl (fun c96 => absurd c96 (by omega)) (fun c96 => ?_)
      refine ow_aload X51 hx (hb hby at_99) rfl rfl (pc' := 101) rfl ?_
      refine ow_ifnullN X51 hx (hb hby at_101) (pc' := 104) rfl ?_
      refine ow_aload X51 hx (hb hby at_104) rfl rfl (pc' := 106) rfl ?_
      refine ow_aload X51 hx (hb hby at_106) rfl rfl (pc' := 108) rfl ?_
      refine ow_callVPI X51 hx hZ rfl hown (hw _ (List.mem_of_getElem? (i := 87) rfl)) (hw _ (List.mem_of_getElem? (i := 88) rfl)) (hw _ (List.mem_of_getElem? (i := 90) rfl)) (hw _ (List.mem_of_getElem? (i := 89) rfl)) (hw _ (List.mem_of_getElem? (i := 10) rfl)) (hw _ (List.mem_of_getElem? (i := 91) rfl)) (by decide) (rm_eqs0 l Z a0 hw [] b44 b45 zc b44b b44b kt_44 kt_44 T46.heap (ow_staKeep S_cs K46 all0) (by first | assumption | decide | omega) E_b44_46 F_b44_coder_46 F_b44_value_46 E_b45_46 F_b45_coder_46 F_b45_value_46 V_b44b_46 V_b44b_46 ne_b44_b45) e51 0 (by decide) (by decide) (by decide) (by decide) [(.ref b45)] (by rw [hml]; rfl) pd_12 rfl E_b44_46 rfl rfl (Nat.le_of_eq rfl) (hb hby at_108) (pc' := 111) rfl (fun z52 T52 hz52 X52 e52 => ?_)
      have az52 : z52.toInt = 1 := hz52
      have rz52 := rng32 z52
      refine ow_if_eq X52 hx (z52.toInt) (hb hby at_111) rfl (by decide) (pt := 118) (by decide) (pf := 114) rfl (fun c111 => absurd c111 (by omega)) (fun c111 => ?_)
      refine ow_iconst X52 hx (z := (1 : Int32)) (hb hby at_114) rfl (pc' := 115) rfl ?_
      refine ow_goto X52 hx (hb hby at_115) (by decide) (pc' := 119) (by decide) ?_
      exact ow_retBI X52 hx hret hlk (hb hby at_119) hS46 (by rw [e52]; exact (Nat.le_refl _)) (by decide) (by decide) (z' := (1 : Int32)) rfl ⟨rfl, N46⟩
    · refine ow_iload X42 hx (hb hby at_18) rfl (pc' := 20) rfl ?_
      refine ow_iloadN X42 hx (hb hby at_20) rfl (pc' := 21) rfl ?_
      refine ow_callS X42 hx hZ hown (hw _ (List.mem_of_getElem? (i := 5) rfl)) (hw _ (List.mem_of_getElem? (i := 6) rfl)) (hw _ (List.mem_of_getElem? (i := 2) rfl)) (hw _ (List.mem_of_getElem? (i := 7) rfl)) (by decide) (rm_so1 l Z a0 hw [] z2 p3 zc T42.heap n0 Zs42 (ow_staKeep S_cs K42 all0) (by first | assumption | decide | omega) (by first | assumption | decide | omega)) rfl 0 (by decide) (by decide) (by decide) (by decide) [(.int z2), (.int p3)] (by rw [hml]; rfl) pd_6 rfl rfl rfl (Nat.le_of_eq rfl) (hb hby at_21) (pc' := 24) rfl (fun v53 T53 L53 hQ53 X53 => ?_)
      obtain ⟨b53, b53a, kt_53, x0_53, rfl, Nc53, Kc53, P53_0, P53_1, P53_2, P53_3, P53_4, P53_5, P53_6⟩ := hQ53
      have P53_6 : ((x0_53.toInt - p3.toInt) % 256 = 0 ∧ -128 ≤ x0_53.toInt ∧ x0_53.toInt < 128) := P53_6
      have E_b42_53 := P42_0.keep Kc53
      have V_b42_53 := P42_1.keep Kc53 nin0
      have ne_b42_b53 : b42 ≠ b53 := Nat.ne_of_lt (Nat.lt_of_lt_of_le P42_0.lt P53_4)
      have sz_b53 : h0.size ≤ b53 := Nat.le_trans K42.1 P53_4
      have ne_b42_b53a : b42 ≠ b53a := Nat.ne_of_lt (Nat.lt_of_lt_of_le P42_0.lt P53_5)
      have sz_b53a : h0.size ≤ b53a := Nat.le_trans K42.1 P53_5
      have Zs53 : n0 ≤ T53.heap.size := Nat.le_trans Zs42 Kc53.1
      have K53 := K42.trans Kc53 all0
      have N53 := Fr.app N42 Nc53
      show Ends _ _ _ _ T53 (mkF m 24 #[.val (.int p0), .val (.int p1), .val (.int p2), .val (.int p3), .val (.int z1), .val (.int z2), .val (.ref b42), .unset, .unset, .unset, .unset, .unset, .unset, .unset] [(.ref b53)])
      refine ow_astore X53 hx (Ls' := #[.val (.int p0), .val (.int p1), .val (.int p2), .val (.int p3), .val (.int z1), .val (.int z2), .val (.ref b42), .val (.ref b53), .unset, .unset, .unset, .unset, .unset, .unset]) (hb hby at_24) rfl rfl (pc' := 26) rfl ?_
      refine ow_iload X53 hx (hb hby at_26) rfl (pc' := 28) rfl ?_
      refine ow_iloadN X53 hx (hb hby at_28) rfl (pc' := 29) rfl ?_
      refine ow_callS X53 hx hZ hown (hw _ (List.mem_of_getElem? (i := 5) rfl)) (hw _ (List.mem_of_getElem? (i := 6) rfl)) (hw _ (List.mem_of_getElem? (i := 2) rfl)) (hw _ (List.mem_of_getElem? (i := 7) rfl)) (by decide) (rm_so1 l Z a0 hw [] z2 p3 zc T53.heap n0 Zs53 (ow_staKeep S_cs K53 all0) (by first | assumption | decide | omega) (by first | assumption | decide | omega)) rfl 0 (by decide) (by decide) (by decide) (by decide) [(.int z2), (.int p3)] (by rw [hml]; rfl) pd_6 rfl rfl rfl (Nat.le_of_eq rfl) (hb hby at_29) (pc' := 32) rfl (fun v54 T54 L54 hQ54 X54 => ?_)
      obtain ⟨b54, b54a, kt_54, x0_54, rfl, Nc54, Kc54, P54_0, P54_1, P54_2, P54_3, P54_4, P54_5, P54_6⟩ := hQ54
      have P54_6 : ((x0_54.toInt - p3.toInt) % 256 = 0 ∧ -128 ≤ x0_54.toInt ∧ x0_54.toInt < 128) := P54_6
      have E_b42_54 := E_b42_53.keep Kc54
      have V_b42_54 := V_b42_53.keep Kc54 nin0
      have E_b53_54 := P53_0.keep Kc54
      have F_b53_coder_54 := P53_1.keep Kc54 nin0
      have F_b53_value_54 := P53_2.keep Kc54 nin0
      have V_b53a_54 := P53_3.keep Kc54 nin0
      have ne_b42_b54 : b42 ≠ b54 := Nat.ne_of_lt (Nat.lt_of_lt_of_le E_b42_53.lt P54_4)
      have ne_b53_b54 : b53 ≠ b54 := Nat.ne_of_lt (Nat.lt_of_lt_of_le P53_0.lt P54_4)
      have ne_b53a_b54 : b53a ≠ b54 := Nat.ne_of_lt (Nat.lt_of_lt_of_le P53_3.lt P54_4)
      have sz_b54 : h0.size ≤ b54 := Nat.le_trans K53.1 P54_4
      have ne_b42_b54a : b42 ≠ b54a := Nat.ne_of_lt (Nat.lt_of_lt_of_le E_b42_53.lt P54_5)
      have ne_b53_b54a : b53 ≠ b54a := Nat.ne_of_lt (Nat.lt_of_lt_of_le P53_0.lt P54_5)
      have ne_b53a_b54a : b53a ≠ b54a := Nat.ne_of_lt (Nat.lt_of_lt_of_le P53_3.lt P54_5)
      have sz_b54a : h0.size ≤ b54a := Nat.le_trans K53.1 P54_5
      have Zs54 : n0 ≤ T54.heap.size := Nat.le_trans Zs53 Kc54.1
      have K54 := K53.trans Kc54 all0
      have N54 := Fr.app N53 Nc54
      show Ends _ _ _ _ T54 (mkF m 32 #[.val (.int p0), .val (.int p1), .val (.int p2), .val (.int p3), .val (.int z1), .val (.int z2), .val (.ref b42), .val (.ref b53), .unset, .unset, .unset, .unset, .unset, .unset] [(.ref b54)])
      refine ow_astore X54 hx (Ls' := #[.val (.int p0), .val (.int p1), .val (.int p2), .val (.int p3), .val (.int z1), .val (.int z2), .val (.ref b42), .val (.ref b53), .val (.ref b54), .unset, .unset, .unset, .unset, .unset]) (hb hby at_32) rfl rfl (pc' := 34) rfl ?_
      refine ow_aload X54 hx (hb hby at_34) rfl rfl (pc' := 36) rfl ?_
      refine ow_aload X54 hx (hb hby at_36) rfl rfl (pc' := 38) rfl ?_
      refine ow_callSI X54 hx hZ hown (hw _ (List.mem_of_getElem? (i := 37) rfl)) (hw _ (List.mem_of_getElem? (i := 38) rfl)) (hw _ (List.mem_of_getElem? (i := 39) rfl)) (hw _ (List.mem_of_getElem? (i := 40) rfl)) (by decide) (rm_repl l Z a0 hw [] hcw hch b42 b53 T54.heap n0 Zs54 (ow_zk hzk hzn K54 all0) hzn E_b42_54 E_b53_54) (fun v_ w_ => LT.weaken (LT.warm hI0 v_ w_) (by decide) (fun _ h => absurd h List.not_mem_nil)) hS0 (Nat.zero_le _) rfl 0 (by decide) (by decide) (by decide) (by decide) [(.ref b42), (.ref b53)] (by rw [hml]; rfl) pd_7 rfl rfl rfl (Nat.le_of_eq rfl) (hb hby at_38) (pc' := 41) rfl (fun v55 T55 L55 hQ55 X55 hS55 hZ hown => ?_)
      obtain ⟨b55, rfl, Nc55, Kc55, P55_0, P55_1, P55_2, P55_3⟩ := hQ55
      have E_b42_55 := E_b42_54.keep Kc55
      have V_b42_55 := V_b42_54.keep Kc55 nin0
      have E_b53_55 := E_b53_54.keep Kc55
      have F_b53_coder_55 := F_b53_coder_54.keep Kc55 nin0
      have F_b53_value_55 := F_b53_value_54.keep Kc55 nin0
      have V_b53a_55 := V_b53a_54.keep Kc55 nin0
      have E_b54_55 := P54_0.keep Kc55
      have F_b54_coder_55 := P54_1.keep Kc55 nin0
      have F_b54_value_55 := P54_2.keep Kc55 nin0
      have V_b54a_55 := P54_3.keep Kc55 nin0
      have Zs55 : n0 ≤ T55.heap.size := Nat.le_trans Zs54 Kc55.1
      have K55 := K54.trans Kc55 all0
      have N55 := Fr.app N54 Nc55
      show Ends _ _ _ _ T55 (mkF m 41 #[.val (.int p0), .val (.int p1), .val (.int p2), .val (.int p3), .val (.int z1), .val (.int z2), .val (.ref b42), .val (.ref b53), .val (.ref b54), .unset, .unset, .unset, .unset, .unset] [(.ref b55)])
      refine ow_astore X55 hx (Ls' := #[.val (.int p0), .val (.int p1), .val (.int p2), .val (.int p3), .val (.int z1), .val (.int z2), .val (.ref b42), .val (.ref b53), .val (.ref b54), .val (.ref b55), .unset, .unset, .unset, .unset]) (hb hby at_41) rfl rfl (pc' := 43) rfl ?_
      refine ow_aload X55 hx (hb hby at_43) rfl rfl (pc' := 45) rfl ?_
      refine ow_ifnonnullY X55 hx (hb hby at_45) (by decide) (pc' := 50) (by decide) ?_
      refine ow_aload X55 hx (hb hby at_50) rfl rfl (pc' := 52) rfl ?_
      refine ow_callVPI X55 hx hZ rfl hown (hw _ (List.mem_of_getElem? (i := 64) rfl)) (hw _ (List.mem_of_getElem? (i := 65) rfl)) (hw _ (List.mem_of_getElem? (i := 67) rfl)) (hw _ (List.mem_of_getElem? (i := 66) rfl)) (hw _ (List.mem_of_getElem? (i := 39) rfl)) (hw _ (List.mem_of_getElem? (i := 68) rfl)) (by decide) (rm_refd l Z a0 hw [] b55 T55.heap P55_3) rfl 0 (by decide) (by decide) (by decide) (by decide) [] (by rw [hml]; rfl) pd_8 rfl P55_0 rfl rfl (Nat.le_of_eq rfl) (hb hby at_52) (pc' := 55) rfl (fun z56 T56 hz56 X56 e56 => ?_)
      have az56 : z56.toInt = 0 := hz56
      have rz56 := rng32 z56
      refine ow_istore X56 hx (Ls' := #[.val (.int p0), .val (.int p1), .val (.int p2), .val (.int p3), .val (.int z1), .val (.int z2), .val (.ref b42), .val (.ref b53), .val (.ref b54), .val (.ref b55), .val (.int z56), .unset, .unset, .unset]) (hb hby at_55) rfl (pc' := 57) rfl ?_
      refine ow_aload X56 hx (hb hby at_57) rfl rfl (pc' := 59) rfl ?_
      refine ow_callV X56 hx hZ rfl hown (hw _ (List.mem_of_getElem? (i := 69) rfl)) (hw _ (List.mem_of_getElem? (i := 70) rfl)) (hw _ (List.mem_of_getElem? (i := 72) rfl)) (hw _ (List.mem_of_getElem? (i := 71) rfl)) (hw _ (List.mem_of_getElem? (i := 39) rfl)) (hw _ (List.mem_of_getElem? (i := 73) rfl)) (by decide) (rm_rsB l Z a0 hw [] b55 b42 T55.heap P55_1) e56 0 (by decide) (by decide) (by decide) (by decide) [] (by rw [hml]; rfl) pd_9 rfl P55_0 rfl rfl (Nat.le_of_eq rfl) (hb hby at_59) (pc' := 62) rfl (fun v57 T57 L57 hQ57 X57 => ?_)
      obtain ⟨rfl, rfl, e57⟩ := hQ57
      rw [List.append_nil] at X57
      show Ends _ _ _ _ T57 (mkF m 62 #[.val (.int p0), .val (.int p1), .val (.int p2), .val (.int p3), .val (.int z1), .val (.int z2), .val (.ref b42), .val (.ref b53), .val (.ref b54), .val (.ref b55), .val (.int z56), .unset, .unset, .unset] [(.ref b42)])
      refine ow_astore X57 hx (Ls' := #[.val (.int p0), .val (.int p1), .val (.int p2), .val (.int p3), .val (.int z1), .val (.int z2), .val (.ref b42), .val (.ref b53), .val (.ref b54), .val (.ref b55), .val (.int z56), .val (.ref b42), .unset, .unset]) (hb hby at_62) rfl rfl (pc' := 64) rfl ?_
      refine ow_aload X57 hx (hb hby at_64) rfl rfl (pc' := 66) rfl ?_
      refine ow_callV X57 hx hZ rfl hown (hw _ (List.mem_of_getElem? (i := 74) rfl)) (hw _ (List.mem_of_getElem? (i := 75) rfl)) (hw _ (List.mem_of_getElem? (i := 77) rfl)) (hw _ (List.mem_of_getElem? (i := 76) rfl)) (hw _ (List.mem_of_getElem? (i := 39) rfl)) (hw _ (List.mem_of_getElem? (i := 78) rfl)) (by decide) (rm_rsM l Z a0 hw [] b55 b53 T55.heap P55_2) e57 0 (by decide) (by decide) (by decide) (by decide) [] (by rw [hml]; rfl) pd_10 rfl P55_0 rfl rfl (Nat.le_of_eq rfl) (hb hby at_66) (pc' := 69) rfl (fun v58 T58 L58 hQ58 X58 => ?_)
      obtain ⟨rfl, rfl, e58⟩ := hQ58
      rw [List.append_nil] at X58
      show Ends _ _ _ _ T58 (mkF m 69 #[.val (.int p0), .val (.int p1), .val (.int p2), .val (.int p3), .val (.int z1), .val (.int z2), .val (.ref b42), .val (.ref b53), .val (.ref b54), .val (.ref b55), .val (.int z56), .val (.ref b42), .unset, .unset] [(.ref b53)])
      refine ow_astore X58 hx (Ls' := #[.val (.int p0), .val (.int p1), .val (.int p2), .val (.int p3), .val (.int z1), .val (.int z2), .val (.ref b42), .val (.ref b53), .val (.ref b54), .val (.ref b55), .val (.int z56), .val (.ref b42), .val (.ref b53), .unset]) (hb hby at_69) rfl rfl (pc' := 71) rfl ?_
      refine ow_aload X58 hx (hb hby at_71) rfl rfl (pc' := 73) rfl ?_
      refine ow_callV X58 hx hZ rfl hown (hw _ (List.mem_of_getElem? (i := 79) rfl)) (hw _ (List.mem_of_getElem? (i := 80) rfl)) (hw _ (List.mem_of_getElem? (i := 82) rfl)) (hw _ (List.mem_of_getElem? (i := 81) rfl)) (hw _ (List.mem_of_getElem? (i := 39) rfl)) (hw _ (List.mem_of_getElem? (i := 83) rfl)) (by decide) (rm_rsR l Z a0 hw [] b55 T55.heap P55_3) e58 0 (by decide) (by decide) (by decide) (by decide) [] (by rw [hml]; rfl) pd_10 rfl P55_0 rfl rfl (Nat.le_of_eq rfl) (hb hby at_73) (pc' := 76) rfl (fun v59 T59 L59 hQ59 X59 => ?_)
      obtain ⟨rfl, rfl, e59⟩ := hQ59
      rw [List.append_nil] at X59
      show Ends _ _ _ _ T59 (mkF m 76 #[.val (.int p0), .val (.int p1), .val (.int p2), .val (.int p3), .val (.int z1), .val (.int z2), .val (.ref b42), .val (.ref b53), .val (.ref b54), .val (.ref b55), .val (.int z56), .val (.ref b42), .val (.ref b53), .unset] [.null])
      refine ow_astore X59 hx (Ls' := #[.val (.int p0), .val (.int p1), .val (.int p2), .val (.int p3), .val (.int z1), .val (.int z2), .val (.ref b42), .val (.ref b53), .val (.ref b54), .val (.ref b55), .val (.int z56), .val (.ref b42), .val (.ref b53), .val .null]) (hb hby at_76) rfl rfl (pc' := 78) rfl ?_
      refine ow_iload X59 hx (hb hby at_78) rfl (pc' := 80) rfl ?_
      refine ow_if_ne X59 hx (z56.toInt) (hb hby at_80) rfl (by decide) (pt := 118) (by decide) (pf := 83) rfl (fun c80 => absurd c80 (by omega)) (fun c80 => ?_)
      refine ow_aload X59 hx (hb hby at_83) rfl rfl (pc' := 85) rfl ?_
      refine ow_ifnonnullN X59 hx (hb hby at_85) (pc' := 88) rfl ?_
      refine ow_aload X59 hx (hb hby at_88) rfl rfl (pc' := 90) rfl ?_
      refine ow_iload X59 hx (hb hby at_90) rfl (pc' := 92) rfl ?_
      refine ow_iloadN X59 hx (hb hby at_92) rfl (pc' := 93) rfl ?_
      refine ow_callPI X59 hx hZ hown (hw _ (List.mem_of_getElem? (i := 84) rfl)) (hw _ (List.mem_of_getElem? (i := 85) rfl)) (hw _ (List.mem_of_getElem? (i := 2) rfl)) (hw _ (List.mem_of_getElem? (i := 86) rfl)) (by decide) (rm_sam1 l Z a0 hw [] b42 z1 p1 kw_42 y0_42 T55.heap V_b42_55 (by first | assumption | decide | omega) (by first | assumption | decide | omega)) e59 0 (by decide) (by decide) (by decide) (by decide) [(.ref b42), (.int z1), (.int p1)] (by rw [hml]; rfl) pd_11 rfl rfl rfl (Nat.le_of_eq rfl) (hb hby at_93) (pc' := 96) rfl (fun z60 T60 hz60 X60 e60 => ?_)
      have az60 : z60.toInt = 1 := hz60
      have rz60 := rng32 z60
      refine ow_if_eq X60 hx (z60.toInt) (hb hby at_96) rfl (by decide) (pt := 118) (by decide) (pf := 99) rfl (fun c96 => absurd c96 (by omega)) (fun c96 => ?_)
      refine ow_aload X60 hx (hb hby at_99) rfl rfl (pc' := 101) rfl ?_
      refine ow_ifnullN X60 hx (hb hby at_101) (pc' := 104) rfl ?_
      refine ow_aload X60 hx (hb hby at_104) rfl rfl (pc' := 106) rfl ?_
      refine ow_aload X60 hx (hb hby at_106) rfl rfl (pc' := 108) rfl ?_
      refine ow_callVPI X60 hx hZ rfl hown (hw _ (List.mem_of_getElem? (i := 87) rfl)) (hw _ (List.mem_of_getElem? (i := 88) rfl)) (hw _ (List.mem_of_getElem? (i := 90) rfl)) (hw _ (List.mem_of_getElem? (i := 89) rfl)) (hw _ (List.mem_of_getElem? (i := 10) rfl)) (hw _ (List.mem_of_getElem? (i := 91) rfl)) (by decide) (rm_eqs1 l Z a0 hw [] b53 b54 zc b53a b54a kt_53 kt_54 x0_53 x0_54 T55.heap (ow_staKeep S_cs K55 all0) (by first | assumption | decide | omega) E_b53_55 F_b53_coder_55 F_b53_value_55 E_b54_55 F_b54_coder_55 F_b54_value_55 V_b53a_55 V_b54a_55 ne_b53_b54 (by first | assumption | decide | omega)) e60 0 (by decide) (by decide) (by decide) (by decide) [(.ref b54)] (by rw [hml]; rfl) pd_12 rfl E_b53_55 rfl rfl (Nat.le_of_eq rfl) (hb hby at_108) (pc' := 111) rfl (fun z61 T61 hz61 X61 e61 => ?_)
      have az61 : z61.toInt = 1 := hz61
      have rz61 := rng32 z61
      refine ow_if_eq X61 hx (z61.toInt) (hb hby at_111) rfl (by decide) (pt := 118) (by decide) (pf := 114) rfl (fun c111 => absurd c111 (by omega)) (fun c111 => ?_)
      refine ow_iconst X61 hx (z := (1 : Int32)) (hb hby at_114) rfl (pc' := 115) rfl ?_
      refine ow_goto X61 hx (hb hby at_115) (by decide) (pc' := 119) (by decide) ?_
      exact ow_retBI X61 hx hret hlk (hb hby at_119) hS55 (by rw [e61]; exact (Nat.le_refl _)) (by decide) (by decide) (z' := (1 : Int32)) rfl ⟨rfl, N55⟩
    · refine ow_iload X42 hx (hb hby at_18) rfl (pc' := 20) rfl ?_
      refine ow_iloadN X42 hx (hb hby at_20) rfl (pc' := 21) rfl ?_
      refine ow_callS X42 hx hZ hown (hw _ (List.mem_of_getElem? (i := 5) rfl)) (hw _ (List.mem_of_getElem? (i := 6) rfl)) (hw _ (List.mem_of_getElem? (i := 2) rfl)) (hw _ (List.mem_of_getElem? (i := 7) rfl)) (by decide) (rm_so2 l Z a0 hw [] z2 p3 zc T42.heap n0 Zs42 (ow_staKeep S_cs K42 all0) (by first | assumption | decide | omega) (by first | assumption | decide | omega)) rfl 0 (by decide) (by decide) (by decide) (by decide) [(.int z2), (.int p3)] (by rw [hml]; rfl) pd_6 rfl rfl rfl (Nat.le_of_eq rfl) (hb hby at_21) (pc' := 24) rfl (fun v62 T62 L62 hQ62 X62 => ?_)
      obtain ⟨b62, b62a, kt_62, x0_62, x1_62, rfl, Nc62, Kc62, P62_0, P62_1, P62_2, P62_3, P62_4, P62_5, P62_6⟩ := hQ62
      have P62_6 : ((x0_62.toInt - p3.toInt) % 256 = 0 ∧ -128 ≤ x0_62.toInt ∧ x0_62.toInt < 128) ∧ ((x1_62.toInt - (p3.toInt % 4294967296) / 256) % 256 = 0 ∧ -128 ≤ x1_62.toInt ∧ x1_62.toInt < 128) := P62_6
      have E_b42_62 := P42_0.keep Kc62
      have V_b42_62 := P42_1.keep Kc62 nin0
      have ne_b42_b62 : b42 ≠ b62 := Nat.ne_of_lt (Nat.lt_of_lt_of_le P42_0.lt P62_4)
      have sz_b62 : h0.size ≤ b62 := Nat.le_trans K42.1 P62_4
      have ne_b42_b62a : b42 ≠ b62a := Nat.ne_of_lt (Nat.lt_of_lt_of_le P42_0.lt P62_5)
      have sz_b62a : h0.size ≤ b62a := Nat.le_trans K42.1 P62_5
      have Zs62 : n0 ≤ T62.heap.size := Nat.le_trans Zs42 Kc62.1
      have K62 := K42.trans Kc62 all0
      have N62 := Fr.app N42 Nc62
      show Ends _ _ _ _ T62 (mkF m 24 #[.val (.int p0), .val (.int p1), .val (.int p2), .val (.int p3), .val (.int z1), .val (.int z2), .val (.ref b42), .unset, .unset, .unset, .unset, .unset, .unset, .unset] [(.ref b62)])
      refine ow_astore X62 hx (Ls' := #[.val (.int p0), .val (.int p1), .val (.int p2), .val (.int p3), .val (.int z1), .val (.int z2), .val (.ref b42), .val (.ref b62), .unset, .unset, .unset, .unset, .unset, .unset]) (hb hby at_24) rfl rfl (pc' := 26) rfl ?_
      refine ow_iload X62 hx (hb hby at_26) rfl (pc' := 28) rfl ?_
      refine ow_iloadN X62 hx (hb hby at_28) rfl (pc' := 29) rfl ?_
      refine ow_callS X62 hx hZ hown (hw _ (List.mem_of_getElem? (i := 5) rfl)) (hw _ (List.mem_of_getElem? (i := 6) rfl)) (hw _ (List.mem_of_getElem? (i := 2) rfl)) (hw _ (List.mem_of_getElem? (i := 7) rfl)) (by decide) (rm_so2 l Z a0 hw [] z2 p3 zc T62.heap n0 Zs62 (ow_staKeep S_cs K62 all0) (by first | assumption | decide | omega) (by first | assumption | decide | omega)) rfl 0 (by decide) (by decide) (by decide) (by decide) [(.int z2), (.int p3)] (by rw [hml]; rfl) pd_6 rfl rfl rfl (Nat.le_of_eq rfl) (hb hby at_29) (pc' := 32) rfl (fun v63 T63 L63 hQ63 X63 => ?_)
      obtain ⟨b63, b63a, kt_63, x0_63, x1_63, rfl, Nc63, Kc63, P63_0, P63_1, P63_2, P63_3, P63_4, P63_5, P63_6⟩ := hQ63
      have P63_6 : ((x0_63.toInt - p3.toInt) % 256 = 0 ∧ -128 ≤ x0_63.toInt ∧ x0_63.toInt < 128) ∧ ((x1_63.toInt - (p3.toInt % 4294967296) / 256) % 256 = 0 ∧ -128 ≤ x1_63.toInt ∧ x1_63.toInt < 128) := P63_6
      have E_b42_63 := E_b42_62.keep Kc63
      have V_b42_63 := V_b42_62.keep Kc63 nin0
      have E_b62_63 := P62_0.keep Kc63
      have F_b62_coder_63 := P62_1.keep Kc63 nin0
      have F_b62_value_63 := P62_2.keep Kc63 nin0
      have V_b62a_63 := P62_3.keep Kc63 nin0
      have ne_b42_b63 : b42 ≠ b63 := Nat.ne_of_lt (Nat.lt_of_lt_of_le E_b42_62.lt P63_4)
      have ne_b62_b63 : b62 ≠ b63 := Nat.ne_of_lt (Nat.lt_of_lt_of_le P62_0.lt P63_4)
      have ne_b62a_b63 : b62a ≠ b63 := Nat.ne_of_lt (Nat.lt_of_lt_of_le P62_3.lt P63_4)
      have sz_b63 : h0.size ≤ b63 := Nat.le_trans K62.1 P63_4
      have ne_b42_b63a : b42 ≠ b63a := Nat.ne_of_lt (Nat.lt_of_lt_of_le E_b42_62.lt P63_5)
      have ne_b62_b63a : b62 ≠ b63a := Nat.ne_of_lt (Nat.lt_of_lt_of_le P62_0.lt P63_5)
      have ne_b62a_b63a : b62a ≠ b63a := Nat.ne_of_lt (Nat.lt_of_lt_of_le P62_3.lt P63_5)
      have sz_b63a : h0.size ≤ b63a := Nat.le_trans K62.1 P63_5
      have Zs63 : n0 ≤ T63.heap.size := Nat.le_trans Zs62 Kc63.1
      have K63 := K62.trans Kc63 all0
      have N63 := Fr.app N62 Nc63
      show Ends _ _ _ _ T63 (mkF m 32 #[.val (.int p0), .val (.int p1), .val (.int p2), .val (.int p3), .val (.int z1), .val (.int z2), .val (.ref b42), .val (.ref b62), .unset, .unset, .unset, .unset, .unset, .unset] [(.ref b63)])
      refine ow_astore X63 hx (Ls' := #[.val (.int p0), .val (.int p1), .val (.int p2), .val (.int p3), .val (.int z1), .val (.int z2), .val (.ref b42), .val (.ref b62), .val (.ref b63), .unset, .unset, .unset, .unset, .unset]) (hb hby at_32) rfl rfl (pc' := 34) rfl ?_
      refine ow_aload X63 hx (hb hby at_34) rfl rfl (pc' := 36) rfl ?_
      refine ow_aload X63 hx (hb hby at_36) rfl rfl (pc' := 38) rfl ?_
      refine ow_callSI X63 hx hZ hown (hw _ (List.mem_of_getElem? (i := 37) rfl)) (hw _ (List.mem_of_getElem? (i := 38) rfl)) (hw _ (List.mem_of_getElem? (i := 39) rfl)) (hw _ (List.mem_of_getElem? (i := 40) rfl)) (by decide) (rm_repl l Z a0 hw [] hcw hch b42 b62 T63.heap n0 Zs63 (ow_zk hzk hzn K63 all0) hzn E_b42_63 E_b62_63) (fun v_ w_ => LT.weaken (LT.warm hI0 v_ w_) (by decide) (fun _ h => absurd h List.not_mem_nil)) hS0 (Nat.zero_le _) rfl 0 (by decide) (by decide) (by decide) (by decide) [(.ref b42), (.ref b62)] (by rw [hml]; rfl) pd_7 rfl rfl rfl (Nat.le_of_eq rfl) (hb hby at_38) (pc' := 41) rfl (fun v64 T64 L64 hQ64 X64 hS64 hZ hown => ?_)
      obtain ⟨b64, rfl, Nc64, Kc64, P64_0, P64_1, P64_2, P64_3⟩ := hQ64
      have E_b42_64 := E_b42_63.keep Kc64
      have V_b42_64 := V_b42_63.keep Kc64 nin0
      have E_b62_64 := E_b62_63.keep Kc64
      have F_b62_coder_64 := F_b62_coder_63.keep Kc64 nin0
      have F_b62_value_64 := F_b62_value_63.keep Kc64 nin0
      have V_b62a_64 := V_b62a_63.keep Kc64 nin0
      have E_b63_64 := P63_0.keep Kc64
      have F_b63_coder_64 := P63_1.keep Kc64 nin0
      have F_b63_value_64 := P63_2.keep Kc64 nin0
      have V_b63a_64 := P63_3.keep Kc64 nin0
      have Zs64 : n0 ≤ T64.heap.size := Nat.le_trans Zs63 Kc64.1
      have K64 := K63.trans Kc64 all0
      have N64 := Fr.app N63 Nc64
      show Ends _ _ _ _ T64 (mkF m 41 #[.val (.int p0), .val (.int p1), .val (.int p2), .val (.int p3), .val (.int z1), .val (.int z2), .val (.ref b42), .val (.ref b62), .val (.ref b63), .unset, .unset, .unset, .unset, .unset] [(.ref b64)])
      refine ow_astore X64 hx (Ls' := #[.val (.int p0), .val (.int p1), .val (.int p2), .val (.int p3), .val (.int z1), .val (.int z2), .val (.ref b42), .val (.ref b62), .val (.ref b63), .val (.ref b64), .unset, .unset, .unset, .unset]) (hb hby at_41) rfl rfl (pc' := 43) rfl ?_
      refine ow_aload X64 hx (hb hby at_43) rfl rfl (pc' := 45) rfl ?_
      refine ow_ifnonnullY X64 hx (hb hby at_45) (by decide) (pc' := 50) (by decide) ?_
      refine ow_aload X64 hx (hb hby at_50) rfl rfl (pc' := 52) rfl ?_
      refine ow_callVPI X64 hx hZ rfl hown (hw _ (List.mem_of_getElem? (i := 64) rfl)) (hw _ (List.mem_of_getElem? (i := 65) rfl)) (hw _ (List.mem_of_getElem? (i := 67) rfl)) (hw _ (List.mem_of_getElem? (i := 66) rfl)) (hw _ (List.mem_of_getElem? (i := 39) rfl)) (hw _ (List.mem_of_getElem? (i := 68) rfl)) (by decide) (rm_refd l Z a0 hw [] b64 T64.heap P64_3) rfl 0 (by decide) (by decide) (by decide) (by decide) [] (by rw [hml]; rfl) pd_8 rfl P64_0 rfl rfl (Nat.le_of_eq rfl) (hb hby at_52) (pc' := 55) rfl (fun z65 T65 hz65 X65 e65 => ?_)
      have az65 : z65.toInt = 0 := hz65
      have rz65 := rng32 z65
      refine ow_istore X65 hx (Ls' := #[.val (.int p0), .val (.int p1), .val (.int p2), .val (.int p3), .val (.int z1), .val (.int z2), .val (.ref b42), .val (.ref b62), .val (.ref b63), .val (.ref b64), .val (.int z65), .unset, .unset, .unset]) (hb hby at_55) rfl (pc' := 57) rfl ?_
      refine ow_aload X65 hx (hb hby at_57) rfl rfl (pc' := 59) rfl ?_
      refine ow_callV X65 hx hZ rfl hown (hw _ (List.mem_of_getElem? (i := 69) rfl)) (hw _ (List.mem_of_getElem? (i := 70) rfl)) (hw _ (List.mem_of_getElem? (i := 72) rfl)) (hw _ (List.mem_of_getElem? (i := 71) rfl)) (hw _ (List.mem_of_getElem? (i := 39) rfl)) (hw _ (List.mem_of_getElem? (i := 73) rfl)) (by decide) (rm_rsB l Z a0 hw [] b64 b42 T64.heap P64_1) e65 0 (by decide) (by decide) (by decide) (by decide) [] (by rw [hml]; rfl) pd_9 rfl P64_0 rfl rfl (Nat.le_of_eq rfl) (hb hby at_59) (pc' := 62) rfl (fun v66 T66 L66 hQ66 X66 => ?_)
      obtain ⟨rfl, rfl, e66⟩ := hQ66
      rw [List.append_nil] at X66
      show Ends _ _ _ _ T66 (mkF m 62 #[.val (.int p0), .val (.int p1), .val (.int p2), .val (.int p3), .val (.int z1), .val (.int z2), .val (.ref b42), .val (.ref b62), .val (.ref b63), .val (.ref b64), .val (.int z65), .unset, .unset, .unset] [(.ref b42)])
      refine ow_astore X66 hx (Ls' := #[.val (.int p0), .val (.int p1), .val (.int p2), .val (.int p3), .val (.int z1), .val (.int z2), .val (.ref b42), .val (.ref b62), .val (.ref b63), .val (.ref b64), .val (.int z65), .val (.ref b42), .unset, .unset]) (hb hby at_62) rfl rfl (pc' := 64) rfl ?_
      refine ow_aload X66 hx (hb hby at_64) rfl rfl (pc' := 66) rfl ?_
      refine ow_callV X66 hx hZ rfl hown (hw _ (List.mem_of_getElem? (i := 74) rfl)) (hw _ (List.mem_of_getElem? (i := 75) rfl)) (hw _ (List.mem_of_getElem? (i := 77) rfl)) (hw _ (List.mem_of_getElem? (i := 76) rfl)) (hw _ (List.mem_of_getElem? (i := 39) rfl)) (hw _ (List.mem_of_getElem? (i := 78) rfl)) (by decide) (rm_rsM l Z a0 hw [] b64 b62 T64.heap P64_2) e66 0 (by decide) (by decide) (by decide) (by decide) [] (by rw [hml]; rfl) pd_10 rfl P64_0 rfl rfl (Nat.le_of_eq rfl) (hb hby at_66) (pc' := 69) rfl (fun v67 T67 L67 hQ67 X67 => ?_)
      obtain ⟨rfl, rfl, e67⟩ := hQ67
      rw [List.append_nil] at X67
      show Ends _ _ _ _ T67 (mkF m 69 #[.val (.int p0), .val (.int p1), .val (.int p2), .val (.int p3), .val (.int z1), .val (.int z2), .val (.ref b42), .val (.ref b62), .val (.ref b63), .val (.ref b64), .val (.int z65), .val (.ref b42), .unset, .unset] [(.ref b62)])
      refine ow_astore X67 hx (Ls' := #[.val (.int p0), .val (.int p1), .val (.int p2), .val (.int p3), .val (.int z1), .val (.int z2), .val (.ref b42), .val (.ref b62), .val (.ref b63), .val (.ref b64), .val (.int z65), .val (.ref b42), .val (.ref b62), .unset]) (hb hby at_69) rfl rfl (pc' := 71) rfl ?_
      refine ow_aload X67 hx (hb hby at_71) rfl rfl (pc' := 73) rfl ?_
      refine ow_callV X67 hx hZ rfl hown (hw _ (List.mem_of_getElem? (i := 79) rfl)) (hw _ (List.mem_of_getElem? (i := 80) rfl)) (hw _ (List.mem_of_getElem? (i := 82) rfl)) (hw _ (List.mem_of_getElem? (i := 81) rfl)) (hw _ (List.mem_of_getElem? (i := 39) rfl)) (hw _ (List.mem_of_getElem? (i := 83) rfl)) (by decide) (rm_rsR l Z a0 hw [] b64 T64.heap P64_3) e67 0 (by decide) (by decide) (by decide) (by decide) [] (by rw [hml]; rfl) pd_10 rfl P64_0 rfl rfl (Nat.le_of_eq rfl) (hb hby at_73) (pc' := 76) rfl (fun v68 T68 L68 hQ68 X68 => ?_)
      obtain ⟨rfl, rfl, e68⟩ := hQ68
      rw [List.append_nil] at X68
      show Ends _ _ _ _ T68 (mkF m 76 #[.val (.int p0), .val (.int p1), .val (.int p2), .val (.int p3), .val (.int z1), .val (.int z2), .val (.ref b42), .val (.ref b62), .val (.ref b63), .val (.ref b64), .val (.int z65), .val (.ref b42), .val (.ref b62), .unset] [.null])
      refine ow_astore X68 hx (Ls' := #[.val (.int p0), .val (.int p1), .val (.int p2), .val (.int p3), .val (.int z1), .val (.int z2), .val (.ref b42), .val (.ref b62), .val (.ref b63), .val (.ref b64), .val (.int z65), .val (.ref b42), .val (.ref b62), .val .null]) (hb hby at_76) rfl rfl (pc' := 78) rfl ?_
      refine ow_iload X68 hx (hb hby at_78) rfl (pc' := 80) rfl ?_
      refine ow_if_ne X68 hx (z65.toInt) (hb hby at_80) rfl (by decide) (pt := 118) (by decide) (pf := 83) rfl (fun c80 => absurd c80 (by omega)) (fun c80 => ?_)
      refine ow_aload X68 hx (hb hby at_83) rfl rfl (pc' := 85) rfl ?_
      refine ow_ifnonnullN X68 hx (hb hby at_85) (pc' := 88) rfl ?_
      refine ow_aload X68 hx (hb hby at_88) rfl rfl (pc' := 90) rfl ?_
      refine ow_iload X68 hx (hb hby at_90) rfl (pc' := 92) rfl ?_
      refine ow_iloadN X68 hx (hb hby at_92) rfl (pc' := 93) rfl ?_
      refine ow_callPI X68 hx hZ hown (hw _ (List.mem_of_getElem? (i := 84) rfl)) (hw _ (List.mem_of_getElem? (i := 85) rfl)) (hw _ (List.mem_of_getElem? (i := 2) rfl)) (hw _ (List.mem_of_getElem? (i := 86) rfl)) (by decide) (rm_sam1 l Z a0 hw [] b42 z1 p1 kw_42 y0_42 T64.heap V_b42_64 (by first | assumption | decide | omega) (by first | assumption | decide | omega)) e68 0 (by decide) (by decide) (by decide) (by decide) [(.ref b42), (.int z1), (.int p1)] (by rw [hml]; rfl) pd_11 rfl rfl rfl (Nat.le_of_eq rfl) (hb hby at_93) (pc' := 96) rfl (fun z69 T69 hz69 X69 e69 => ?_)
      have az69 : z69.toInt = 1 := hz69
      have rz69 := rng32 z69
      refine ow_if_eq X69 hx (z69.toInt) (hb hby at_96) rfl (by decide) (pt := 118) (by decide) (pf := 99) rfl (fun c96 => absurd c96 (by omega)) (fun c96 => ?_)
      refine ow_aload X69 hx (hb hby at_99) rfl rfl (pc' := 101) rfl ?_
      refine ow_ifnullN X69 hx (hb hby at_101) (pc' := 104) rfl ?_
      refine ow_aload X69 hx (hb hby at_104) rfl rfl (pc' := 106) rfl ?_
      refine ow_aload X69 hx (hb hby at_106) rfl rfl (pc' := 108) rfl ?_
      refine ow_callVPI X69 hx hZ rfl hown (hw _ (List.mem_of_getElem? (i := 87) rfl)) (hw _ (List.mem_of_getElem? (i := 88) rfl)) (hw _ (List.mem_of_getElem? (i := 90) rfl)) (hw _ (List.mem_of_getElem? (i := 89) rfl)) (hw _ (List.mem_of_getElem? (i := 10) rfl)) (hw _ (List.mem_of_getElem? (i := 91) rfl)) (by decide) (rm_eqs2 l Z a0 hw [] b62 b63 zc b62a b63a kt_62 kt_63 x0_62 x1_62 x0_63 x1_63 T64.heap (ow_staKeep S_cs K64 all0) (by first | assumption | decide | omega) E_b62_64 F_b62_coder_64 F_b62_value_64 E_b63_64 F_b63_coder_64 F_b63_value_64 V_b62a_64 V_b63a_64 ne_b62_b63 (by first | assumption | decide | omega) (by first | assumption | decide | omega)) e69 0 (by decide) (by decide) (by decide) (by decide) [(.ref b63)] (by rw [hml]; rfl) pd_12 rfl E_b62_64 rfl rfl (Nat.le_of_eq rfl) (hb hby at_108) (pc' := 111) rfl (fun z70 T70 hz70 X70 e70 => ?_)
      have az70 : z70.toInt = 1 := hz70
      have rz70 := rng32 z70
      refine ow_if_eq X70 hx (z70.toInt) (hb hby at_111) rfl (by decide) (pt := 118) (by decide) (pf := 114) rfl (fun c111 => absurd c111 (by omega)) (fun c111 => ?_)
      refine ow_iconst X70 hx (z := (1 : Int32)) (hb hby at_114) rfl (pc' := 115) rfl ?_
      refine ow_goto X70 hx (hb hby at_115) (by decide) (pc' := 119) (by decide) ?_
      exact ow_retBI X70 hx hret hlk (hb hby at_119) hS64 (by rw [e70]; exact (Nat.le_refl _)) (by decide) (by decide) (z' := (1 : Int32)) rfl ⟨rfl, N64⟩
    · refine ow_iload X42 hx (hb hby at_18) rfl (pc' := 20) rfl ?_
      refine ow_iloadN X42 hx (hb hby at_20) rfl (pc' := 21) rfl ?_
      refine ow_callS X42 hx hZ hown (hw _ (List.mem_of_getElem? (i := 5) rfl)) (hw _ (List.mem_of_getElem? (i := 6) rfl)) (hw _ (List.mem_of_getElem? (i := 2) rfl)) (hw _ (List.mem_of_getElem? (i := 7) rfl)) (by decide) (rm_so3 l Z a0 hw [] z2 p3 zc T42.heap n0 Zs42 (ow_staKeep S_cs K42 all0) (by first | assumption | decide | omega) (by first | assumption | decide | omega)) rfl 0 (by decide) (by decide) (by decide) (by decide) [(.int z2), (.int p3)] (by rw [hml]; rfl) pd_6 rfl rfl rfl (Nat.le_of_eq rfl) (hb hby at_21) (pc' := 24) rfl (fun v71 T71 L71 hQ71 X71 => ?_)
      obtain ⟨b71, b71a, kt_71, x0_71, x1_71, x2_71, rfl, Nc71, Kc71, P71_0, P71_1, P71_2, P71_3, P71_4, P71_5, P71_6⟩ := hQ71
      have P71_6 : ((x0_71.toInt - p3.toInt) % 256 = 0 ∧ -128 ≤ x0_71.toInt ∧ x0_71.toInt < 128) ∧ ((x1_71.toInt - (p3.toInt % 4294967296) / 256) % 256 = 0 ∧ -128 ≤ x1_71.toInt ∧ x1_71.toInt < 128) ∧ ((x2_71.toInt - (p3.toInt % 4294967296) / 65536) % 256 = 0 ∧ -128 ≤ x2_71.toInt ∧ x2_71.toInt < 128) := P71_6
      have E_b42_71 := P42_0.keep Kc71
      have V_b42_71 := P42_1.keep Kc71 nin0
      have ne_b42_b71 : b42 ≠ b71 := Nat.ne_of_lt (Nat.lt_of_lt_of_le P42_0.lt P71_4)
      have sz_b71 : h0.size ≤ b71 := Nat.le_trans K42.1 P71_4
      have ne_b42_b71a : b42 ≠ b71a := Nat.ne_of_lt (Nat.lt_of_lt_of_le P42_0.lt P71_5)
      have sz_b71a : h0.size ≤ b71a := Nat.le_trans K42.1 P71_5
      have Zs71 : n0 ≤ T71.heap.size := Nat.le_trans Zs42 Kc71.1
      have K71 := K42.trans Kc71 all0
      have N71 := Fr.app N42 Nc71
      show Ends _ _ _ _ T71 (mkF m 24 #[.val (.int p0), .val (.int p1), .val (.int p2), .val (.int p3), .val (.int z1), .val (.int z2), .val (.ref b42), .unset, .unset, .unset, .unset, .unset, .unset, .unset] [(.ref b71)])
      refine ow_astore X71 hx (Ls' := #[.val (.int p0), .val (.int p1), .val (.int p2), .val (.int p3), .val (.int z1), .val (.int z2), .val (.ref b42), .val (.ref b71), .unset, .unset, .unset, .unset, .unset, .unset]) (hb hby at_24) rfl rfl (pc' := 26) rfl ?_
      refine ow_iload X71 hx (hb hby at_26) rfl (pc' := 28) rfl ?_
      refine ow_iloadN X71 hx (hb hby at_28) rfl (pc' := 29) rfl ?_
      refine ow_callS X71 hx hZ hown (hw _ (List.mem_of_getElem? (i := 5) rfl)) (hw _ (List.mem_of_getElem? (i := 6) rfl)) (hw _ (List.mem_of_getElem? (i := 2) rfl)) (hw _ (List.mem_of_getElem? (i := 7) rfl)) (by decide) (rm_so3 l Z a0 hw [] z2 p3 zc T71.heap n0 Zs71 (ow_staKeep S_cs K71 all0) (by first | assumption | decide | omega) (by first | assumption | decide | omega)) rfl 0 (by decide) (by decide) (by decide) (by decide) [(.int z2), (.int p3)] (by rw [hml]; rfl) pd_6 rfl rfl rfl (Nat.le_of_eq rfl) (hb hby at_29) (pc' := 32) rfl (fun v72 T72 L72 hQ72 X72 => ?_)
      obtain ⟨b72, b72a, kt_72, x0_72, x1_72, x2_72, rfl, Nc72, Kc72, P72_0, P72_1, P72_2, P72_3, P72_4, P72_5, P72_6⟩ := hQ72
      have P72_6 : ((x0_72.toInt - p3.toInt) % 256 = 0 ∧ -128 ≤ x0_72.toInt ∧ x0_72.toInt < 128) ∧ ((x1_72.toInt - (p3.toInt % 4294967296) / 256) % 256 = 0 ∧ -128 ≤ x1_72.toInt ∧ x1_72.toInt < 128) ∧ ((x2_72.toInt - (p3.toInt % 4294967296) / 65536) % 256 = 0 ∧ -128 ≤ x2_72.toInt ∧ x2_72.toInt < 128) := P72_6
      have E_b42_72 := E_b42_71.keep Kc72
      have V_b42_72 := V_b42_71.keep Kc72 nin0
      have E_b71_72 := P71_0.keep Kc72
      have F_b71_coder_72 := P71_1.keep Kc72 nin0
      have F_b71_value_72 := P71_2.keep Kc72 nin0
      have V_b71a_72 := P71_3.keep Kc72 nin0
      have ne_b42_b72 : b42 ≠ b72 := Nat.ne_of_lt (Nat.lt_of_lt_of_le E_b42_71.lt P72_4)
      have ne_b71_b72 : b71 ≠ b72 := Nat.ne_of_lt (Nat.lt_of_lt_of_le P71_0.lt P72_4)
      have ne_b71a_b72 : b71a ≠ b72 := Nat.ne_of_lt (Nat.lt_of_lt_of_le P71_3.lt P72_4)
      have sz_b72 : h0.size ≤ b72 := Nat.le_trans K71.1 P72_4
      have ne_b42_b72a : b42 ≠ b72a := Nat.ne_of_lt (Nat.lt_of_lt_of_le E_b42_71.lt P72_5)
      have ne_b71_b72a : b71 ≠ b72a := Nat.ne_of_lt (Nat.lt_of_lt_of_le P71_0.lt P72_5)
      have ne_b71a_b72a : b71a ≠ b72a := Nat.ne_of_lt (Nat.lt_of_lt_of_le P71_3.lt P72_5)
      have sz_b72a : h0.size ≤ b72a := Nat.le_trans K71.1 P72_5
      have Zs72 : n0 ≤ T72.heap.size := Nat.le_trans Zs71 Kc72.1
      have K72 := K71.trans Kc72 all0
      have N72 := Fr.app N71 Nc72
      show Ends _ _ _ _ T72 (mkF m 32 #[.val (.int p0), .val (.int p1), .val (.int p2), .val (.int p3), .val (.int z1), .val (.int z2), .val (.ref b42), .val (.ref b71), .unset, .unset, .unset, .unset, .unset, .unset] [(.ref b72)])
      refine ow_astore X72 hx (Ls' := #[.val (.int p0), .val (.int p1), .val (.int p2), .val (.int p3), .val (.int z1), .val (.int z2), .val (.ref b42), .val (.ref b71), .val (.ref b72), .unset, .unset, .unset, .unset, .unset]) (hb hby at_32) rfl rfl (pc' := 34) rfl ?_
      refine ow_aload X72 hx (hb hby at_34) rfl rfl (pc' := 36) rfl ?_
      refine ow_aload X72 hx (hb hby at_36) rfl rfl (pc' := 38) rfl ?_
      refine ow_callSI X72 hx hZ hown (hw _ (List.mem_of_getElem? (i := 37) rfl)) (hw _ (List.mem_of_getElem? (i := 38) rfl)) (hw _ (List.mem_of_getElem? (i := 39) rfl)) (hw _ (List.mem_of_getElem? (i := 40) rfl)) (by decide) (rm_repl l Z a0 hw [] hcw hch b42 b71 T72.heap n0 Zs72 (ow_zk hzk hzn K72 all0) hzn E_b42_72 E_b71_72) (fun v_ w_ => LT.weaken (LT.warm hI0 v_ w_) (by decide) (fun _ h => absurd h List.not_mem_nil)) hS0 (Nat.zero_le _) rfl 0 (by decide) (by decide) (by decide) (by decide) [(.ref b42), (.ref b71)] (by rw [hml]; rfl) pd_7 rfl rfl rfl (Nat.le_of_eq rfl) (hb hby at_38) (pc' := 41) rfl (fun v73 T73 L73 hQ73 X73 hS73 hZ hown => ?_)
      obtain ⟨b73, rfl, Nc73, Kc73, P73_0, P73_1, P73_2, P73_3⟩ := hQ73
      have E_b42_73 := E_b42_72.keep Kc73
      have V_b42_73 := V_b42_72.keep Kc73 nin0
      have E_b71_73 := E_b71_72.keep Kc73
      have F_b71_coder_73 := F_b71_coder_72.keep Kc73 nin0
      have F_b71_value_73 := F_b71_value_72.keep Kc73 nin0
      have V_b71a_73 := V_b71a_72.keep Kc73 nin0
      have E_b72_73 := P72_0.keep Kc73
      have F_b72_coder_73 := P72_1.keep Kc73 nin0
      have F_b72_value_73 := P72_2.keep Kc73 nin0
      have V_b72a_73 := P72_3.keep Kc73 nin0
      have Zs73 : n0 ≤ T73.heap.size := Nat.le_trans Zs72 Kc73.1
      have K73 := K72.trans Kc73 all0
      have N73 := Fr.app N72 Nc73
      show Ends _ _ _ _ T73 (mkF m 41 #[.val (.int p0), .val (.int p1), .val (.int p2), .val (.int p3), .val (.int z1), .val (.int z2), .val (.ref b42), .val (.ref b71), .val (.ref b72), .unset, .unset, .unset, .unset, .unset] [(.ref b73)])
      refine ow_astore X73 hx (Ls' := #[.val (.int p0), .val (.int p1), .val (.int p2), .val (.int p3), .val (.int z1), .val (.int z2), .val (.ref b42), .val (.ref b71), .val (.ref b72), .val (.ref b73), .unset, .unset, .unset, .unset]) (hb hby at_41) rfl rfl (pc' := 43) rfl ?_
      refine ow_aload X73 hx (hb hby at_43) rfl rfl (pc' := 45) rfl ?_
      refine ow_ifnonnullY X73 hx (hb hby at_45) (by decide) (pc' := 50) (by decide) ?_
      refine ow_aload X73 hx (hb hby at_50) rfl rfl (pc' := 52) rfl ?_
      refine ow_callVPI X73 hx hZ rfl hown (hw _ (List.mem_of_getElem? (i := 64) rfl)) (hw _ (List.mem_of_getElem? (i := 65) rfl)) (hw _ (List.mem_of_getElem? (i := 67) rfl)) (hw _ (List.mem_of_getElem? (i := 66) rfl)) (hw _ (List.mem_of_getElem? (i := 39) rfl)) (hw _ (List.mem_of_getElem? (i := 68) rfl)) (by decide) (rm_refd l Z a0 hw [] b73 T73.heap P73_3) rfl 0 (by decide) (by decide) (by decide) (by decide) [] (by rw [hml]; rfl) pd_8 rfl P73_0 rfl rfl (Nat.le_of_eq rfl) (hb hby at_52) (pc' := 55) rfl (fun z74 T74 hz74 X74 e74 => ?_)
      have az74 : z74.toInt = 0 := hz74
      have rz74 := rng32 z74
      refine ow_istore X74 hx (Ls' := #[.val (.int p0), .val (.int p1), .val (.int p2), .val (.int p3), .val (.int z1), .val (.int z2), .val (.ref b42), .val (.ref b71), .val (.ref b72), .val (.ref b73), .val (.int z74), .unset, .unset, .unset]) (hb hby at_55) rfl (pc' := 57) rfl ?_
      refine ow_aload X74 hx (hb hby at_57) rfl rfl (pc' := 59) rfl ?_
      refine ow_callV X74 hx hZ rfl hown (hw _ (List.mem_of_getElem? (i := 69) rfl)) (hw _ (List.mem_of_getElem? (i := 70) rfl)) (hw _ (List.mem_of_getElem? (i := 72) rfl)) (hw _ (List.mem_of_getElem? (i := 71) rfl)) (hw _ (List.mem_of_getElem? (i := 39) rfl)) (hw _ (List.mem_of_getElem? (i := 73) rfl)) (by decide) (rm_rsB l Z a0 hw [] b73 b42 T73.heap P73_1) e74 0 (by decide) (by decide) (by decide) (by decide) [] (by rw [hml]; rfl) pd_9 rfl P73_0 rfl rfl (Nat.le_of_eq rfl) (hb hby at_59) (pc' := 62) rfl (fun v75 T75 L75 hQ75 X75 => ?_)
      obtain ⟨rfl, rfl, e75⟩ := hQ75
      rw [List.append_nil] at X75
      show Ends _ _ _ _ T75 (mkF m 62 #[.val (.int p0), .val (.int p1), .val (.int p2), .val (.int p3), .val (.int z1), .val (.int z2), .val (.ref b42), .val (.ref b71), .val (.ref b72), .val (.ref b73), .val (.int z74), .unset, .unset, .unset] [(.ref b42)])
      refine ow_astore X75 hx (Ls' := #[.val (.int p0), .val (.int p1), .val (.int p2), .val (.int p3), .val (.int z1), .val (.int z2), .val (.ref b42), .val (.ref b71), .val (.ref b72), .val (.ref b73), .val (.int z74), .val (.ref b42), .unset, .unset]) (hb hby at_62) rfl rfl (pc' := 64) rfl ?_
      refine ow_aload X75 hx (hb hby at_64) rfl rfl (pc' := 66) rfl ?_
      refine ow_callV X75 hx hZ rfl hown (hw _ (List.mem_of_getElem? (i := 74) rfl)) (hw _ (List.mem_of_getElem? (i := 75) rfl)) (hw _ (List.mem_of_getElem? (i := 77) rfl)) (hw _ (List.mem_of_getElem? (i := 76) rfl)) (hw _ (List.mem_of_getElem? (i := 39) rfl)) (hw _ (List.mem_of_getElem? (i := 78) rfl)) (by decide) (rm_rsM l Z a0 hw [] b73 b71 T73.heap P73_2) e75 0 (by decide) (by decide) (by decide) (by decide) [] (by rw [hml]; rfl) pd_10 rfl P73_0 rfl rfl (Nat.le_of_eq rfl) (hb hby at_66) (pc' := 69) rfl (fun v76 T76 L76 hQ76 X76 => ?_)
      obtain ⟨rfl, rfl, e76⟩ := hQ76
      rw [List.append_nil] at X76
      show Ends _ _ _ _ T76 (mkF m 69 #[.val (.int p0), .val (.int p1), .val (.int p2), .val (.int p3), .val (.int z1), .val (.int z2), .val (.ref b42), .val (.ref b71), .val (.ref b72), .val (.ref b73), .val (.int z74), .val (.ref b42), .unset, .unset] [(.ref b71)])
      refine ow_astore X76 hx (Ls' := #[.val (.int p0), .val (.int p1), .val (.int p2), .val (.int p3), .val (.int z1), .val (.int z2), .val (.ref b42), .val (.ref b71), .val (.ref b72), .val (.ref b73), .val (.int z74), .val (.ref b42), .val (.ref b71), .unset]) (hb hby at_69) rfl rfl (pc' := 71) rfl ?_
      refine ow_aload X76 hx (hb hby at_71) rfl rfl (pc' := 73) rfl ?_
      refine ow_callV X76 hx hZ rfl hown (hw _ (List.mem_of_getElem? (i := 79) rfl)) (hw _ (List.mem_of_getElem? (i := 80) rfl)) (hw _ (List.mem_of_getElem? (i := 82) rfl)) (hw _ (List.mem_of_getElem? (i := 81) rfl)) (hw _ (List.mem_of_getElem? (i := 39) rfl)) (hw _ (List.mem_of_getElem? (i := 83) rfl)) (by decide) (rm_rsR l Z a0 hw [] b73 T73.heap P73_3) e76 0 (by decide) (by decide) (by decide) (by decide) [] (by rw [hml]; rfl) pd_10 rfl P73_0 rfl rfl (Nat.le_of_eq rfl) (hb hby at_73) (pc' := 76) rfl (fun v77 T77 L77 hQ77 X77 => ?_)
      obtain ⟨rfl, rfl, e77⟩ := hQ77
      rw [List.append_nil] at X77
      show Ends _ _ _ _ T77 (mkF m 76 #[.val (.int p0), .val (.int p1), .val (.int p2), .val (.int p3), .val (.int z1), .val (.int z2), .val (.ref b42), .val (.ref b71), .val (.ref b72), .val (.ref b73), .val (.int z74), .val (.ref b42), .val (.ref b71), .unset] [.null])
      refine ow_astore X77 hx (Ls' := #[.val (.int p0), .val (.int p1), .val (.int p2), .val (.int p3), .val (.int z1), .val (.int z2), .val (.ref b42), .val (.ref b71), .val (.ref b72), .val (.ref b73), .val (.int z74), .val (.ref b42), .val (.ref b71), .val .null]) (hb hby at_76) rfl rfl (pc' := 78) rfl ?_
      refine ow_iload X77 hx (hb hby at_78) rfl (pc' := 80) rfl ?_
      refine ow_if_ne X77 hx (z74.toInt) (hb hby at_80) rfl (by decide) (pt := 118) (by decide) (pf := 83) rfl (fun c80 => absurd c80 (by omega)) (fun c80 => ?_)
      refine ow_aload X77 hx (hb hby at_83) rfl rfl (pc' := 85) rfl ?_
      refine ow_ifnonnullN X77 hx (hb hby at_85) (pc' := 88) rfl ?_
      refine ow_aload X77 hx (hb hby at_88) rfl rfl (pc' := 90) rfl ?_
      refine ow_iload X77 hx (hb hby at_90) rfl (pc' := 92) rfl ?_
      refine ow_iloadN X77 hx (hb hby at_92) rfl (pc' := 93) rfl ?_
      refine ow_callPI X77 hx hZ hown (hw _ (List.mem_of_getElem? (i := 84) rfl)) (hw _ (List.mem_of_getElem? (i := 85) rfl)) (hw _ (List.mem_of_getElem? (i := 2) rfl)) (hw _ (List.mem_of_getElem? (i := 86) rfl)) (by decide) (rm_sam1 l Z a0 hw [] b42 z1 p1 kw_42 y0_42 T73.heap V_b42_73 (by first | assumption | decide | omega) (by first | assumption | decide | omega)) e77 0 (by decide) (by decide) (by decide) (by decide) [(.ref b42), (.int z1), (.int p1)] (by rw [hml]; rfl) pd_11 rfl rfl rfl (Nat.le_of_eq rfl) (hb hby at_93) (pc' := 96) rfl (fun z78 T78 hz78 X78 e78 => ?_)
      have az78 : z78.toInt = 1 := hz78
      have rz78 := rng32 z78
      refine ow_if_eq X78 hx (z78.toInt) (hb hby at_96) rfl (by decide) (pt := 118) (by decide) (pf := 99) rfl (fun c96 => absurd c96 (by omega)) (fun c96 => ?_)
      refine ow_aload X78 hx (hb hby at_99) rfl rfl (pc' := 101) rfl ?_
      refine ow_ifnullN X78 hx (hb hby at_101) (pc' := 104) rfl ?_
      refine ow_aload X78 hx (hb hby at_104) rfl rfl (pc' := 106) rfl ?_
      refine ow_aload X78 hx (hb hby at_106) rfl rfl (pc' := 108) rfl ?_
      refine ow_callVPI X78 hx hZ rfl hown (hw _ (List.mem_of_getElem? (i := 87) rfl)) (hw _ (List.mem_of_getElem? (i := 88) rfl)) (hw _ (List.mem_of_getElem? (i := 90) rfl)) (hw _ (List.mem_of_getElem? (i := 89) rfl)) (hw _ (List.mem_of_getElem? (i := 10) rfl)) (hw _ (List.mem_of_getElem? (i := 91) rfl)) (by decide) (rm_eqs3 l Z a0 hw [] b71 b72 zc b71a b72a kt_71 kt_72 x0_71 x1_71 x2_71 x0_72 x1_72 x2_72 T73.heap (ow_staKeep S_cs K73 all0) (by first | assumption | decide | omega) E_b71_73 F_b71_coder_73 F_b71_value_73 E_b72_73 F_b72_coder_73 F_b72_value_73 V_b71a_73 V_b72a_73 ne_b71_b72 (by first | assumption | decide | omega) (by first | assumption | decide | omega) (by first | assumption | decide | omega)) e78 0 (by decide) (by decide) (by decide) (by decide) [(.ref b72)] (by rw [hml]; rfl) pd_12 rfl E_b71_73 rfl rfl (Nat.le_of_eq rfl) (hb hby at_108) (pc' := 111) rfl (fun z79 T79 hz79 X79 e79 => ?_)
      have az79 : z79.toInt = 1 := hz79
      have rz79 := rng32 z79
      refine ow_if_eq X79 hx (z79.toInt) (hb hby at_111) rfl (by decide) (pt := 118) (by decide) (pf := 114) rfl (fun c111 => absurd c111 (by omega)) (fun c111 => ?_)
      refine ow_iconst X79 hx (z := (1 : Int32)) (hb hby at_114) rfl (pc' := 115) rfl ?_
      refine ow_goto X79 hx (hb hby at_115) (by decide) (pc' := 119) (by decide) ?_
      exact ow_retBI X79 hx hret hlk (hb hby at_119) hS73 (by rw [e79]; exact (Nat.le_refl _)) (by decide) (by decide) (z' := (1 : Int32)) rfl ⟨rfl, N73⟩
  · refine ow_iload X0 hx (hb hby at_10) rfl (pc' := 12) rfl ?_
    refine ow_iloadN X0 hx (hb hby at_12) rfl (pc' := 13) rfl ?_
    refine ow_callS X0 hx hZ hown (hw _ (List.mem_of_getElem? (i := 0) rfl)) (hw _ (List.mem_of_getElem? (i := 1) rfl)) (hw _ (List.mem_of_getElem? (i := 2) rfl)) (hw _ (List.mem_of_getElem? (i := 3) rfl)) (by decide) (rm_byt2 l Z a0 hw [] z1 p1 h0 n0 Z0 (by first | assumption | decide | omega)) e0 0 (by decide) (by decide) (by decide) (by decide) [(.int z1), (.int p1)] (by rw [hml]; rfl) pd_5 rfl rfl rfl (Nat.le_of_eq rfl) (hb hby at_13) (pc' := 16) rfl (fun v80 T80 L80 hQ80 X80 => ?_)
    obtain ⟨b80, kw_80, y0_80, y1_80, rfl, Nc80, Kc80, P80_0, P80_1, P80_2, P80_3⟩ := hQ80
    have P80_3 : ((y0_80.toInt - p1.toInt) % 256 = 0 ∧ -128 ≤ y0_80.toInt ∧ y0_80.toInt < 128) ∧ ((y1_80.toInt - (p1.toInt % 4294967296) / 256) % 256 = 0 ∧ -128 ≤ y1_80.toInt ∧ y1_80.toInt < 128) := P80_3
    have sz_b80 : h0.size ≤ b80 := Nat.le_trans (Keep.refl h0 []).1 P80_2
    have Zs80 : n0 ≤ T80.heap.size := Nat.le_trans Z0 Kc80.1
    have K80 := (Keep.refl h0 []).trans Kc80 all0
    have N80 := Fr.app N0 Nc80
    show Ends _ _ _ _ T80 (mkF m 16 #[.val (.int p0), .val (.int p1), .val (.int p2), .val (.int p3), .val (.int z1), .val (.int z2), .unset, .unset, .unset, .unset, .unset, .unset, .unset, .unset] [(.ref b80)])
    refine ow_astore X80 hx (Ls' := #[.val (.int p0), .val (.int p1), .val (.int p2), .val (.int p3), .val (.int z1), .val (.int z2), .val (.ref b80), .unset, .unset, .unset, .unset, .unset, .unset, .unset]) (hb hby at_16) rfl rfl (pc' := 18) rfl ?_
    rcases (show z2.toInt = 0 ∨ z2.toInt = 1 ∨ z2.toInt = 2 ∨ z2.toInt = 3 from by omega) with hmn | hmn | hmn | hmn
    · refine ow_iload X80 hx (hb hby at_18) rfl (pc' := 20) rfl ?_
      refine ow_iloadN X80 hx (hb hby at_20) rfl (pc' := 21) rfl ?_
      refine ow_callSI X80 hx hZ hown (hw _ (List.mem_of_getElem? (i := 5) rfl)) (hw _ (List.mem_of_getElem? (i := 6) rfl)) (hw _ (List.mem_of_getElem? (i := 2) rfl)) (hw _ (List.mem_of_getElem? (i := 7) rfl)) (by decide) (rm_so0a l Z a0 hw [] hcw hch z2 p3 T80.heap n0 Zs80 (ow_zk hzk hzn K80 all0) hzn (by first | assumption | decide | omega)) (LT.warm hI0) hS0 (Nat.zero_le _) rfl 0 (by decide) (by decide) (by decide) (by decide) [(.int z2), (.int p3)] (by rw [hml]; rfl) pd_6 rfl rfl rfl (Nat.le_of_eq rfl) (hb hby at_21) (pc' := 24) rfl (fun v82 T82 L82 hQ82 X82 hS82 hZ hown => ?_)
      obtain ⟨b82, b82a, b82b, kt_82, rfl, Nc82, Kc82, P82_0, P82_1, P82_2, P82_3, P82_4, P82_5, P82_6, P82_7, hI82⟩ := hQ82
      have E_b80_82 := P80_0.keep Kc82
      have V_b80_82 := P80_1.keep Kc82 nin0
      have ne_b80_b82 : b80 ≠ b82 := Nat.ne_of_lt (Nat.lt_of_lt_of_le P80_0.lt P82_3)
      have sz_b82 : h0.size ≤ b82 := Nat.le_trans K80.1 P82_3
      have Zs82 : n0 ≤ T82.heap.size := Nat.le_trans Zs80 Kc82.1
      have K82 := K80.trans Kc82 all0
      have N82 := Fr.app N80 Nc82
      show Ends _ _ _ _ T82 (mkF m 24 #[.val (.int p0), .val (.int p1), .val (.int p2), .val (.int p3), .val (.int z1), .val (.int z2), .val (.ref b80), .unset, .unset, .unset, .unset, .unset, .unset, .unset] [(.ref b82)])
      refine ow_astore X82 hx (Ls' := #[.val (.int p0), .val (.int p1), .val (.int p2), .val (.int p3), .val (.int z1), .val (.int z2), .val (.ref b80), .val (.ref b82), .unset, .unset, .unset, .unset, .unset, .unset]) (hb hby at_24) rfl rfl (pc' := 26) rfl ?_
      refine ow_iload X82 hx (hb hby at_26) rfl (pc' := 28) rfl ?_
      refine ow_iloadN X82 hx (hb hby at_28) rfl (pc' := 29) rfl ?_
      refine ow_callSI X82 hx hZ hown (hw _ (List.mem_of_getElem? (i := 5) rfl)) (hw _ (List.mem_of_getElem? (i := 6) rfl)) (hw _ (List.mem_of_getElem? (i := 2) rfl)) (hw _ (List.mem_of_getElem? (i := 7) rfl)) (by decide) (rm_so0b l Z a0 hw [] hcw hch z2 p3 b82a b82b kt_82 T82.heap n0 Zs82 (ow_zk hzk hzn K82 all0) hzn P82_4 P82_5 P82_6 P82_7 (by first | assumption | decide | omega)) (LT.warm hI82) hS82 (Nat.le_refl _) rfl 0 (by decide) (by decide) (by decide) (by decide) [(.int z2), (.int p3)] (by rw [hml]; rfl) pd_6 rfl rfl rfl (Nat.le_of_eq rfl) (hb hby at_29) (pc' := 32) rfl (fun v83 T83 L83 hQ83 X83 hS83 hZ hown => ?_)
      obtain ⟨b83, rfl, Nc83, Kc83, P83_0, P83_1, P83_2, P83_3, hI83⟩ := hQ83
      have E_b80_83 := E_b80_82.keep Kc83
      have V_b80_83 := V_b80_82.keep Kc83 nin0
      have E_b82_83 := P82_0.keep Kc83
      have F_b82_coder_83 := P82_1.keep Kc83 nin0
      have F_b82_value_83 := P82_2.keep Kc83 nin0
      have E_b82a_83 := P82_4.keep Kc83
      have F_b82a_coder_83 := P82_5.keep Kc83 nin0
      have F_b82a_value_83 := P82_6.keep Kc83 nin0
      have V_b82b_83 := P82_7.keep Kc83 nin0
      have ne_b80_b83 : b80 ≠ b83 := Nat.ne_of_lt (Nat.lt_of_lt_of_le E_b80_82.lt P83_3)
      have ne_b82_b83 : b82 ≠ b83 := Nat.ne_of_lt (Nat.lt_of_lt_of_le P82_0.lt P83_3)
      have ne_b82a_b83 : b82a ≠ b83 := Nat.ne_of_lt (Nat.lt_of_lt_of_le P82_4.lt P83_3)
      have ne_b82b_b83 : b82b ≠ b83 := Nat.ne_of_lt (Nat.lt_of_lt_of_le P82_7.lt P83_3)
      have sz_b83 : h0.size ≤ b83 := Nat.le_trans K82.1 P83_3
      have Zs83 : n0 ≤ T83.heap.size := Nat.le_trans Zs82 Kc83.1
      have K83 := K82.trans Kc83 all0
      have N83 := Fr.app N82 Nc83
      show Ends _ _ _ _ T83 (mkF m 32 #[.val (.int p0), .val (.int p1), .val (.int p2), .val (.int p3), .val (.int z1), .val (.int z2), .val (.ref b80), .val (.ref b82), .unset, .unset, .unset, .unset, .unset, .unset] [(.ref b83)])
      refine ow_astore X83 hx (Ls' := #[.val (.int p0), .val (.int p1), .val (.int p2), .val (.int p3), .val (.int z1), .val (.int z2), .val (.ref b80), .val (.ref b82), .val (.ref b83), .unset, .unset, .unset, .unset, .unset]) (hb hby at_32) rfl rfl (pc' := 34) rfl ?_
      refine ow_aload X83 hx (hb hby at_34) rfl rfl (pc' := 36) rfl ?_
      refine ow_aload X83 hx (hb hby at_36) rfl rfl (pc' := 38) rfl ?_
      refine ow_callSI X83 hx hZ hown (hw _ (List.mem_of_getElem? (i := 37) rfl)) (hw _ (List.mem_of_getElem? (i := 38) rfl)) (hw _ (List.mem_of_getElem? (i := 39) rfl)) (hw _ (List.mem_of_getElem? (i := 40) rfl)) (by decide) (rm_repl l Z a0 hw [] hcw hch b80 b82 T83.heap n0 Zs83 (ow_zk hzk hzn K83 all0) hzn E_b80_83 E_b82_83) (fun v_ w_ => LT.weaken (LT.warm hI83 v_ w_) (by decide) (fun _ h => absurd h List.not_mem_nil)) hS83 (Nat.le_refl _) rfl 0 (by decide) (by decide) (by decide) (by decide) [(.ref b80), (.ref b82)] (by rw [hml]; rfl) pd_7 rfl rfl rfl (Nat.le_of_eq rfl) (hb hby at_38) (pc' := 41) rfl (fun v84 T84 L84 hQ84 X84 hS84 hZ hown => ?_)
      obtain ⟨b84, rfl, Nc84, Kc84, P84_0, P84_1, P84_2, P84_3⟩ := hQ84
      have E_b80_84 := E_b80_83.keep Kc84
      have V_b80_84 := V_b80_83.keep Kc84 nin0
      have E_b82_84 := E_b82_83.keep Kc84
      have F_b82_coder_84 := F_b82_coder_83.keep Kc84 nin0
      have F_b82_value_84 := F_b82_value_83.keep Kc84 nin0
      have E_b82a_84 := E_b82a_83.keep Kc84
      have F_b82a_coder_84 := F_b82a_coder_83.keep Kc84 nin0
      have F_b82a_value_84 := F_b82a_value_83.keep Kc84 nin0
      have V_b82b_84 := V_b82b_83.keep Kc84 nin0
      have E_b83_84 := P83_0.keep Kc84
      have F_b83_coder_84 := P83_1.keep Kc84 nin0
      have F_b83_value_84 := P83_2.keep Kc84 nin0
      have Zs84 : n0 ≤ T84.heap.size := Nat.le_trans Zs83 Kc84.1
      have K84 := K83.trans Kc84 all0
      have N84 := Fr.app N83 Nc84
      show Ends _ _ _ _ T84 (mkF m 41 #[.val (.int p0), .val (.int p1), .val (.int p2), .val (.int p3), .val (.int z1), .val (.int z2), .val (.ref b80), .val (.ref b82), .val (.ref b83), .unset, .unset, .unset, .unset, .unset] [(.ref b84)])
      refine ow_astore X84 hx (Ls' := #[.val (.int p0), .val (.int p1), .val (.int p2), .val (.int p3), .val (.int z1), .val (.int z2), .val (.ref b80), .val (.ref b82), .val (.ref b83), .val (.ref b84), .unset, .unset, .unset, .unset]) (hb hby at_41) rfl rfl (pc' := 43) rfl ?_
      refine ow_aload X84 hx (hb hby at_43) rfl rfl (pc' := 45) rfl ?_
      refine ow_ifnonnullY X84 hx (hb hby at_45) (by decide) (pc' := 50) (by decide) ?_
      refine ow_aload X84 hx (hb hby at_50) rfl rfl (pc' := 52) rfl ?_
      refine ow_callVPI X84 hx hZ rfl hown (hw _ (List.mem_of_getElem? (i := 64) rfl)) (hw _ (List.mem_of_getElem? (i := 65) rfl)) (hw _ (List.mem_of_getElem? (i := 67) rfl)) (hw _ (List.mem_of_getElem? (i := 66) rfl)) (hw _ (List.mem_of_getElem? (i := 39) rfl)) (hw _ (List.mem_of_getElem? (i := 68) rfl)) (by decide) (rm_refd l Z a0 hw [] b84 T84.heap P84_3) rfl 0 (by decide) (by decide) (by decide) (by decide) [] (by rw [hml]; rfl) pd_8 rfl P84_0 rfl rfl (Nat.le_of_eq rfl) (hb hby at_52) (pc' := 55) rfl (fun z85 T85 hz85 X85 e85 => ?_)
      have az85 : z85.toInt = 0 := hz85
      have rz85 := rng32 z85
      refine ow_istore X85 hx (Ls' := #[.val (.int p0), .val (.int p1), .val (.int p2), .val (.int p3), .val (.int z1), .val (.int z2), .val (.ref b80), .val (.ref b82), .val (.ref b83), .val (.ref b84), .val (.int z85), .unset, .unset, .unset]) (hb hby at_55) rfl (pc' := 57) rfl ?_
      refine ow_aload X85 hx (hb hby at_57) rfl rfl (pc' := 59) rfl ?_
      refine ow_callV X85 hx hZ rfl hown (hw _ (List.mem_of_getElem? (i := 69) rfl)) (hw _ (List.mem_of_getElem? (i := 70) rfl)) (hw _ (List.mem_of_getElem? (i := 72) rfl)) (hw _ (List.mem_of_getElem? (i := 71) rfl)) (hw _ (List.mem_of_getElem? (i := 39) rfl)) (hw _ (List.mem_of_getElem? (i := 73) rfl)) (by decide) (rm_rsB l Z a0 hw [] b84 b80 T84.heap P84_1) e85 0 (by decide) (by decide) (by decide) (by decide) [] (by rw [hml]; rfl) pd_9 rfl P84_0 rfl rfl (Nat.le_of_eq rfl) (hb hby at_59) (pc' := 62) rfl (fun v86 T86 L86 hQ86 X86 => ?_)
      obtain ⟨rfl, rfl, e86⟩ := hQ86
      rw [List.append_nil] at X86
      show Ends _ _ _ _ T86 (mkF m 62 #[.val (.int p0), .val (.int p1), .val (.int p2), .val (.int p3), .val (.int z1), .val (.int z2), .val (.ref b80), .val (.ref b82), .val (.ref b83), .val (.ref b84), .val (.int z85), .unset, .unset, .unset] [(.ref b80)])
      refine ow_astore X86 hx (Ls' := #[.val (.int p0), .val (.int p1), .val (.int p2), .val (.int p3), .val (.int z1), .val (.int z2), .val (.ref b80), .val (.ref b82), .val (.ref b83), .val (.ref b84), .val (.int z85), .val (.ref b80), .unset, .unset]) (hb hby at_62) rfl rfl (pc' := 64) rfl ?_
      refine ow_aload X86 hx (hb hby at_64) rfl rfl (pc' := 66) rfl ?_
      refine ow_callV X86 hx hZ rfl hown (hw _ (List.mem_of_getElem? (i := 74) rfl)) (hw _ (List.mem_of_getElem? (i := 75) rfl)) (hw _ (List.mem_of_getElem? (i := 77) rfl)) (hw _ (List.mem_of_getElem? (i := 76) rfl)) (hw _ (List.mem_of_getElem? (i := 39) rfl)) (hw _ (List.mem_of_getElem? (i := 78) rfl)) (by decide) (rm_rsM l Z a0 hw [] b84 b82 T84.heap P84_2) e86 0 (by decide) (by decide) (by decide) (by decide) [] (by rw [hml]; rfl) pd_10 rfl P84_0 rfl rfl (Nat.le_of_eq rfl) (hb hby at_66) (pc' := 69) rfl (fun v87 T87 L87 hQ87 X87 => ?_)
      obtain ⟨rfl, rfl, e87⟩ := hQ87
      rw [List.append_nil] at X87
      show Ends _ _ _ _ T87 (mkF m 69 #[.val (.int p0), .val (.int p1), .val (.int p2), .val (.int p3), .val (.int z1), .val (.int z2), .val (.ref b80), .val (.ref b82), .val (.ref b83), .val (.ref b84), .val (.int z85), .val (.ref b80), .unset, .unset] [(.ref b82)])
      refine ow_astore X87 hx (Ls' := #[.val (.int p0), .val (.int p1), .val (.int p2), .val (.int p3), .val (.int z1), .val (.int z2), .val (.ref b80), .val (.ref b82), .val (.ref b83), .val (.ref b84), .val (.int z85), .val (.ref b80), .val (.ref b82), .unset]) (hb hby at_69) rfl rfl (pc' := 71) rfl ?_
      refine ow_aload X87 hx (hb hby at_71) rfl rfl (pc' := 73) rfl ?_
      refine ow_callV X87 hx hZ rfl hown (hw _ (List.mem_of_getElem? (i := 79) rfl)) (hw _ (List.mem_of_getElem? (i := 80) rfl)) (hw _ (List.mem_of_getElem? (i := 82) rfl)) (hw _ (List.mem_of_getElem? (i := 81) rfl)) (hw _ (List.mem_of_getElem? (i := 39) rfl)) (hw _ (List.mem_of_getElem? (i := 83) rfl)) (by decide) (rm_rsR l Z a0 hw [] b84 T84.heap P84_3) e87 0 (by decide) (by decide) (by decide) (by decide) [] (by rw [hml]; rfl) pd_10 rfl P84_0 rfl rfl (Nat.le_of_eq rfl) (hb hby at_73) (pc' := 76) rfl (fun v88 T88 L88 hQ88 X88 => ?_)
      obtain ⟨rfl, rfl, e88⟩ := hQ88
      rw [List.append_nil] at X88
      show Ends _ _ _ _ T88 (mkF m 76 #[.val (.int p0), .val (.int p1), .val (.int p2), .val (.int p3), .val (.int z1), .val (.int z2), .val (.ref b80), .val (.ref b82), .val (.ref b83), .val (.ref b84), .val (.int z85), .val (.ref b80), .val (.ref b82), .unset] [.null])
      refine ow_astore X88 hx (Ls' := #[.val (.int p0), .val (.int p1), .val (.int p2), .val (.int p3), .val (.int z1), .val (.int z2), .val (.ref b80), .val (.ref b82), .val (.ref b83), .val (.ref b84), .val (.int z85), .val (.ref b80), .val (.ref b82), .val .null]) (hb hby at_76) rfl rfl (pc' := 78) rfl ?_
      refine ow_iload X88 hx (hb hby at_78) rfl (pc' := 80) rfl ?_
      refine ow_if_ne X88 hx (z85.toInt) (hb hby at_80) rfl (by decide) (pt := 118) (by decide) (pf := 83) rfl (fun c80 => absurd c80 (by omega)) (fun c80 => ?_)
      refine ow_aload X88 hx (hb hby at_83) rfl rfl (pc' := 85) rfl ?_
      refine ow_ifnonnullN X88 hx (hb hby at_85) (pc' := 88) rfl ?_
      refine ow_aload X88 hx (hb hby at_88) rfl rfl (pc' := 90) rfl ?_
      refine ow_iload X88 hx (hb hby at_90) rfl (pc' := 92) rfl ?_
      refine ow_iloadN X88 hx (hb hby at_92) rfl (pc' := 93) rfl ?_
      refine ow_callPI X88 hx hZ hown (hw _ (List.mem_of_getElem? (i := 84) rfl)) (hw _ (List.mem_of_getElem? (i := 85) rfl)) (hw _ (List.mem_of_getElem? (i := 2) rfl)) (hw _ (List.mem_of_getElem? (i := 86) rfl)) (by decide) (rm_sam2 l Z a0 hw [] b80 z1 p1 kw_80 y0_80 y1_80 T84.heap V_b80_84 (by first | assumption | decide | omega) (by first | assumption | decide | omega)) e88 0 (by decide) (by decide) (by decide) (by decide) [(.ref b80), (.int z1), (.int p1)] (by rw [hml]; rfl) pd_11 rfl rfl rfl (Nat.le_of_eq rfl) (hb hby at_93) (pc' := 96) rfl (fun z89 T89 hz89 X89 e89 => ?_)
      have az89 : z89.toInt = 1 := hz89
      have rz89 := rng32 z89
      refine ow_if_eq X89 hx (z89.toInt) (hb hby at_96) rfl (by decide) (pt := 118) (by decide) (pf := 99) rfl (fun c96 => absurd c96 (by omega)) (fun c96 => ?_)
      refine ow_aload X89 hx (hb hby at_99) rfl rfl (pc' := 101) rfl ?_
      refine ow_ifnullN X89 hx (hb hby at_101) (pc' := 104) rfl ?_
      refine ow_aload X89 hx (hb hby at_104) rfl rfl (pc' := 106) rfl ?_
      refine ow_aload X89 hx (hb hby at_106) rfl rfl (pc' := 108) rfl ?_
      refine ow_callVPI X89 hx hZ rfl hown (hw _ (List.mem_of_getElem? (i := 87) rfl)) (hw _ (List.mem_of_getElem? (i := 88) rfl)) (hw _ (List.mem_of_getElem? (i := 90) rfl)) (hw _ (List.mem_of_getElem? (i := 89) rfl)) (hw _ (List.mem_of_getElem? (i := 10) rfl)) (hw _ (List.mem_of_getElem? (i := 91) rfl)) (by decide) (rm_eqs0 l Z a0 hw [] b82 b83 zc b82b b82b kt_82 kt_82 T84.heap (ow_staKeep S_cs K84 all0) (by first | assumption | decide | omega) E_b82_84 F_b82_coder_84 F_b82_value_84 E_b83_84 F_b83_coder_84 F_b83_value_84 V_b82b_84 V_b82b_84 ne_b82_b83) e89 0 (by decide) (by decide) (by decide) (by decide) [(.ref b83)] (by rw [hml]; rfl) pd_12 rfl E_b82_84 rfl rfl (Nat.le_of_eq rfl) (hb hby at_108) (pc' := 111) rfl (fun z90 T90 hz90 X90 e90 => ?_)
      have az90 : z90.toInt = 1 := hz90
      have rz90 := rng32 z90
      refine ow_if_eq X90 hx (z90.toInt) (hb hby at_111) rfl (by decide) (pt := 118) (by decide) (pf := 114) rfl (fun c111 => absurd c111 (by omega)) (fun c111 => ?_)
      refine ow_iconst X90 hx (z := (1 : Int32)) (hb hby at_114) rfl (pc' := 115) rfl ?_
      refine ow_goto X90 hx (hb hby at_115) (by decide) (pc' := 119) (by decide) ?_
      exact ow_retBI X90 hx hret hlk (hb hby at_119) hS84 (by rw [e90]; exact (Nat.le_refl _)) (by decide) (by decide) (z' := (1 : Int32)) rfl ⟨rfl, N84⟩
    · refine ow_iload X80 hx (hb hby at_18) rfl (pc' := 20) rfl ?_
      refine ow_iloadN X80 hx (hb hby at_20) rfl (pc' := 21) rfl ?_
      refine ow_callS X80 hx hZ hown (hw _ (List.mem_of_getElem? (i := 5) rfl)) (hw _ (List.mem_of_getElem? (i := 6) rfl)) (hw _ (List.mem_of_getElem? (i := 2) rfl)) (hw _ (List.mem_of_getElem? (i := 7) rfl)) (by decide) (rm_so1 l Z a0 hw [] z2 p3 zc T80.heap n0 Zs80 (ow_staKeep S_cs K80 all0) (by first | assumption | decide | omega) (by first | assumption | decide | omega)) rfl 0 (by decide) (by decide) (by decide) (by decide) [(.int z2), (.int p3)] (by rw [hml]; rfl) pd_6 rfl rfl rfl (Nat.le_of_eq rfl) (hb hby at_21) (pc' := 24) rfl (fun v91 T91 L91 hQ91 X91 => ?_)
      obtain ⟨b91, b91a, kt_91, x0_91, rfl, Nc91, Kc91, P91_0, P91_1, P91_2, P91_3, P91_4, P91_5, P91_6⟩ := hQ91
      have P91_6 : ((x0_91.toInt - p3.toInt) % 256 = 0 ∧ -128 ≤ x0_91.toInt ∧ x0_91.toInt < 128) := P91_6
      have E_b80_91 := P80_0.keep Kc91
      have V_b80_91 := P80_1.keep Kc91 nin0
      have ne_b80_b91 : b80 ≠ b91 := Nat.ne_of_lt (Nat.lt_of_lt_of_le P80_0.lt P91_4)
      have sz_b91 : h0.size ≤ b91 := Nat.le_trans K80.1 P91_4
      have ne_b80_b91a : b80 ≠ b91a := Nat.ne_of_lt (Nat.lt_of_lt_of_le P80_0.lt P91_5)
      have sz_b91a : h0.size ≤ b91a := Nat.le_trans K80.1 P91_5
      have Zs91 : n0 ≤ T91.heap.size := Nat.le_trans Zs80 Kc91.1
      have K91 := K80.trans Kc91 all0
      have N91 := Fr.app N80 Nc91
      show Ends _ _ _ _ T91 (mkF m 24 #[.val (.int p0), .val (.int p1), .val (.int p2), .val (.int p3), .val (.int z1), .val (.int z2), .val (.ref b80), .unset, .unset, .unset, .unset, .unset, .unset, .unset] [(.ref b91)])
      refine ow_astore X91 hx (Ls' := #[.val (.int p0), .val (.int p1), .val (.int p2), .val (.int p3), .val (.int z1), .val (.int z2), .val (.ref b80), .val (.ref b91), .unset, .unset, .unset, .unset, .unset, .unset]) (hb hby at_24) rfl rfl (pc' := 26) rfl ?_
      refine ow_iload X91 hx (hb hby at_26) rfl (pc' := 28) rfl ?_
      refine ow_iloadN X91 hx (hb hby at_28) rfl (pc' := 29) rfl ?_
      refine ow_callS X91 hx hZ hown (hw _ (List.mem_of_getElem? (i := 5) rfl)) (hw _ (List.mem_of_getElem? (i := 6) rfl)) (hw _ (List.mem_of_getElem? (i := 2) rfl)) (hw _ (List.mem_of_getElem? (i := 7) rfl)) (by decide) (rm_so1 l Z a0 hw [] z2 p3 zc T91.heap n0 Zs91 (ow_staKeep S_cs K91 all0) (by first | assumption | decide | omega) (by first | assumption | decide | omega)) rfl 0 (by decide) (by decide) (by decide) (by decide) [(.int z2), (.int p3)] (by rw [hml]; rfl) pd_6 rfl rfl rfl (Nat.le_of_eq rfl) (hb hby at_29) (pc' := 32) rfl (fun v92 T92 L92 hQ92 X92 => ?_)
      obtain ⟨b92, b92a, kt_92, x0_92, rfl, Nc92, Kc92, P92_0, P92_1, P92_2, P92_3, P92_4, P92_5, P92_6⟩ := hQ92
      have P92_6 : ((x0_92.toInt - p3.toInt) % 256 = 0 ∧ -128 ≤ x0_92.toInt ∧ x0_92.toInt < 128) := P92_6
      have E_b80_92 := E_b80_91.keep Kc92
      have V_b80_92 := V_b80_91.keep Kc92 nin0
      have E_b91_92 := P91_0.keep Kc92
      have F_b91_coder_92 := P91_1.keep Kc92 nin0
      have F_b91_value_92 := P91_2.keep Kc92 nin0
      have V_b91a_92 := P91_3.keep Kc92 nin0
      have ne_b80_b92 : b80 ≠ b92 := Nat.ne_of_lt (Nat.lt_of_lt_of_le E_b80_91.lt P92_4)
      have ne_b91_b92 : b91 ≠ b92 := Nat.ne_of_lt (Nat.lt_of_lt_of_le P91_0.lt P92_4)
      have ne_b91a_b92 : b91a ≠ b92 := Nat.ne_of_lt (Nat.lt_of_lt_of_le P91_3.lt P92_4)
      have sz_b92 : h0.size ≤ b92 := Nat.le_trans K91.1 P92_4
      have ne_b80_b92a : b80 ≠ b92a := Nat.ne_of_lt (Nat.lt_of_lt_of_le E_b80_91.lt P92_5)
      have ne_b91_b92a : b91 ≠ b92a := Nat.ne_of_lt (Nat.lt_of_lt_of_le P91_0.lt P92_5)
      have ne_b91a_b92a : b91a ≠ b92a := Nat.ne_of_lt (Nat.lt_of_lt_of_le P91_3.lt P92_5)
      have sz_b92a : h0.size ≤ b92a := Nat.le_trans K91.1 P92_5
      have Zs92 : n0 ≤ T92.heap.size := Nat.le_trans Zs91 Kc92.1
      have K92 := K91.trans Kc92 all0
      have N92 := Fr.app N91 Nc92
      show Ends _ _ _ _ T92 (mkF m 32 #[.val (.int p0), .val (.int p1), .val (.int p2), .val (.int p3), .val (.int z1), .val (.int z2), .val (.ref b80), .val (.ref b91), .unset, .unset, .unset, .unset, .unset, .unset] [(.ref b92)])
      refine ow_astore X92 hx (Ls' := #[.val (.int p0), .val (.int p1), .val (.int p2), .val (.int p3), .val (.int z1), .val (.int z2), .val (.ref b80), .val (.ref b91), .val (.ref b92), .unset, .unset, .unset, .unset, .unset]) (hb hby at_32) rfl rfl (pc' := 34) rfl ?_
      refine ow_aload X92 hx (hb hby at_34) rfl rfl (pc' := 36) rfl ?_
      refine ow_aload X92 hx (hb hby at_36) rfl rfl (pc' := 38) rfl ?_
      refine ow_callSI X92 hx hZ hown (hw _ (List.mem_of_getElem? (i := 37) rfl)) (hw _ (List.mem_of_getElem? (i := 38) rfl)) (hw _ (List.mem_of_getElem? (i := 39) rfl)) (hw _ (List.mem_of_getElem? (i := 40) rfl)) (by decide) (rm_repl l Z a0 hw [] hcw hch b80 b91 T92.heap n0 Zs92 (ow_zk hzk hzn K92 all0) hzn E_b80_92 E_b91_92) (fun v_ w_ => LT.weaken (LT.warm hI0 v_ w_) (by decide) (fun _ h => absurd h List.not_mem_nil)) hS0 (Nat.zero_le _) rfl 0 (by decide) (by decide) (by decide) (by decide) [(.ref b80), (.ref b91)] (by rw [hml]; rfl) pd_7 rfl rfl rfl (Nat.le_of_eq rfl) (hb hby at_38) (pc' := 41) rfl (fun v93 T93 L93 hQ93 X93 hS93 hZ hown => ?_)
      obtain ⟨b93, rfl, Nc93, Kc93, P93_0, P93_1, P93_2, P93_3⟩ := hQ93
      have E_b80_93 := E_b80_92.keep Kc93
      have V_b80_93 := V_b80_92.keep Kc93 nin0
      have E_b91_93 := E_b91_92.keep Kc93
      have F_b91_coder_93 := F_b91_coder_92.keep Kc93 nin0
      have F_b91_value_93 := F_b91_value_92.keep Kc93 nin0
      have V_b91a_93 := V_b91a_92.keep Kc93 nin0
      have E_b92_93 := P92_0.keep Kc93
      have F_b92_coder_93 := P92_1.keep Kc93 nin0
      have F_b92_value_93 := P92_2.keep Kc93 nin0
      have V_b92a_93 := P92_3.keep Kc93 nin0
      have Zs93 : n0 ≤ T93.heap.size := Nat.le_trans Zs92 Kc93.1
      have K93 := K92.trans Kc93 all0
      have N93 := Fr.app N92 Nc93
      show Ends _ _ _ _ T93 (mkF m 41 #[.val (.int p0), .val (.int p1), .val (.int p2), .val (.int p3), .val (.int z1), .val (.int z2), .val (.ref b80), .val (.ref b91), .val (.ref b92), .unset, .unset, .unset, .unset, .unset] [(.ref b93)])
      refine ow_astore X93 hx (Ls' := #[.val (.int p0), .val (.int p1), .val (.int p2), .val (.int p3), .val (.int z1), .val (.int z2), .val (.ref b80), .val (.ref b91), .val (.ref b92), .val (.ref b93), .unset, .unset, .unset, .unset]) (hb hby at_41) rfl rfl (pc' := 43) rfl ?_
      refine ow_aload X93 hx (hb hby at_43) rfl rfl (pc' := 45) rfl ?_
      refine ow_ifnonnullY X93 hx (hb hby at_45) (by decide) (pc' := 50) (by decide) ?_
      refine ow_aload X93 hx (hb hby at_50) rfl rfl (pc' := 52) rfl ?_
      refine ow_callVPI X93 hx hZ rfl hown (hw _ (List.mem_of_getElem? (i := 64) rfl)) (hw _ (List.mem_of_getElem? (i := 65) rfl)) (hw _ (List.mem_of_getElem? (i := 67) rfl)) (hw _ (List.mem_of_getElem? (i := 66) rfl)) (hw _ (List.mem_of_getElem? (i := 39) rfl)) (hw _ (List.mem_of_getElem? (i := 68) rfl)) (by decide) (rm_refd l Z a0 hw [] b93 T93.heap P93_3) rfl 0 (by decide) (by decide) (by decide) (by decide) [] (by rw [hml]; rfl) pd_8 rfl P93_0 rfl rfl (Nat.le_of_eq rfl) (hb hby at_52) (pc' := 55) rfl (fun z94 T94 hz94 X94 e94 => ?_)
      have az94 : z94.toInt = 0 := hz94
      have rz94 := rng32 z94
      refine ow_istore X94 hx (Ls' := #[.val (.int p0), .val (.int p1), .val (.int p2), .val (.int p3), .val (.int z1), .val (.int z2), .val (.ref b80), .val (.ref b91), .val (.ref b92), .val (.ref b93), .val (.int z94), .unset, .unset, .unset]) (hb hby at_55) rfl (pc' := 57) rfl ?_
      refine ow_aload X94 hx (hb hby at_57) rfl rfl (pc' := 59) rfl ?_
      refine ow_callV X94 hx hZ rfl hown (hw _ (List.mem_of_getElem? (i := 69) rfl)) (hw _ (List.mem_of_getElem? (i := 70) rfl)) (hw _ (List.mem_of_getElem? (i := 72) rfl)) (hw _ (List.mem_of_getElem? (i := 71) rfl)) (hw _ (List.mem_of_getElem? (i := 39) rfl)) (hw _ (List.mem_of_getElem? (i := 73) rfl)) (by decide) (rm_rsB l Z a0 hw [] b93 b80 T93.heap P93_1) e94 0 (by decide) (by decide) (by decide) (by decide) [] (by rw [hml]; rfl) pd_9 rfl P93_0 rfl rfl (Nat.le_of_eq rfl) (hb hby at_59) (pc' := 62) rfl (fun v95 T95 L95 hQ95 X95 => ?_)
      obtain ⟨rfl, rfl, e95⟩ := hQ95
      rw [List.append_nil] at X95
      show Ends _ _ _ _ T95 (mkF m 62 #[.val (.int p0), .val (.int p1), .val (.int p2), .val (.int p3), .val (.int z1), .val (.int z2), .val (.ref b80), .val (.ref b91), .val (.ref b92), .val (.ref b93), .val (.int z94), .unset, .unset, .unset] [(.ref b80)])
      refine ow_astore X95 hx (Ls' := #[.val (.int p0), .val (.int p1), .val (.int p2), .val (.int p3), .val (.int z1), .val (.int z2), .val (.ref b80), .val (.ref b91), .val (.ref b92), .val (.ref b93), .val (.int z94), .val (.ref b80), .unset, .unset]) (hb hby at_62) rfl rfl (pc' := 64) rfl ?_
      refine ow_aload X95 hx (hb hby at_64) rfl rfl (pc' := 66) rfl ?_
      refine ow_callV X95 hx hZ rfl hown (hw _ (List.mem_of_getElem? (i := 74) rfl)) (hw _ (List.mem_of_getElem? (i := 75) rfl)) (hw _ (List.mem_of_getElem? (i := 77) rfl)) (hw _ (List.mem_of_getElem? (i := 76) rfl)) (hw _ (List.mem_of_getElem? (i := 39) rfl)) (hw _ (List.mem_of_getElem? (i := 78) rfl)) (by decide) (rm_rsM l Z a0 hw [] b93 b91 T93.heap P93_2) e95 0 (by decide) (by decide) (by decide) (by decide) [] (by rw [hml]; rfl) pd_10 rfl P93_0 rfl rfl (Nat.le_of_eq rfl) (hb hby at_66) (pc' := 69) rfl (fun v96 T96 L96 hQ96 X96 => ?_)
      obtain ⟨rfl, rfl, e96⟩ := hQ96
      rw [List.append_nil] at X96
      show Ends _ _ _ _ T96 (mkF m 69 #[.val (.int p0), .val (.int p1), .val (.int p2), .val (.int p3), .val (.int z1), .val (.int z2), .val (.ref b80), .val (.ref b91), .val (.ref b92), .val (.ref b93), .val (.int z94), .val (.ref b80), .unset, .unset] [(.ref b91)])
      refine ow_astore X96 hx (Ls' := #[.val (.int p0), .val (.int p1), .val (.int p2), .val (.int p3), .val (.int z1), .val (.int z2), .val (.ref b80), .val (.ref b91), .val (.ref b92), .val (.ref b93), .val (.int z94), .val (.ref b80), .val (.ref b91), .unset]) (hb hby at_69) rfl rfl (pc' := 71) rfl ?_
      refine ow_aload X96 hx (hb hby at_71) rfl rfl (pc' := 73) rfl ?_
      refine ow_callV X96 hx hZ rfl hown (hw _ (List.mem_of_getElem? (i := 79) rfl)) (hw _ (List.mem_of_getElem? (i := 80) rfl)) (hw _ (List.mem_of_getElem? (i := 82) rfl)) (hw _ (List.mem_of_getElem? (i := 81) rfl)) (hw _ (List.mem_of_getElem? (i := 39) rfl)) (hw _ (List.mem_of_getElem? (i := 83) rfl)) (by decide) (rm_rsR l Z a0 hw [] b93 T93.heap P93_3) e96 0 (by decide) (by decide) (by decide) (by decide) [] (by rw [hml]; rfl) pd_10 rfl P93_0 rfl rfl (Nat.le_of_eq rfl) (hb hby at_73) (pc' := 76) rfl (fun v97 T97 L97 hQ97 X97 => ?_)
      obtain ⟨rfl, rfl, e97⟩ := hQ97
      rw [List.append_nil] at X97
      show Ends _ _ _ _ T97 (mkF m 76 #[.val (.int p0), .val (.int p1), .val (.int p2), .val (.int p3), .val (.int z1), .val (.int z2), .val (.ref b80), .val (.ref b91), .val (.ref b92), .val (.ref b93), .val (.int z94), .val (.ref b80), .val (.ref b91), .unset] [.null])
      refine ow_astore X97 hx (Ls' := #[.val (.int p0), .val (.int p1), .val (.int p2), .val (.int p3), .val (.int z1), .val (.int z2), .val (.ref b80), .val (.ref b91), .val (.ref b92), .val (.ref b93), .val (.int z94), .val (.ref b80), .val (.ref b91), .val .null]) (hb hby at_76) rfl rfl (pc' := 78) rfl ?_
      refine ow_iload X97 hx (hb hby at_78) rfl (pc' := 80) rfl ?_
      refine ow_if_ne X97 hx (z94.toInt) (hb hby at_80) rfl (by decide) (pt := 118) (by decide) (pf := 83) rfl (fun c80 => absurd c80 (by omega)) (fun c80 => ?_)
      refine ow_aload X97 hx (hb hby at_83) rfl rfl (pc' := 85) rfl ?_
      refine ow_ifnonnullN X97 hx (hb hby at_85) (pc' := 88) rfl ?_
      refine ow_aload X97 hx (hb hby at_88) rfl rfl (pc' := 90) rfl ?_
      refine ow_iload X97 hx (hb hby at_90) rfl (pc' := 92) rfl ?_
      refine ow_iloadN X97 hx (hb hby at_92) rfl (pc' := 93) rfl ?_
      refine ow_callPI X97 hx hZ hown (hw _ (List.mem_of_getElem? (i := 84) rfl)) (hw _ (List.mem_of_getElem? (i := 85) rfl)) (hw _ (List.mem_of_getElem? (i := 2) rfl)) (hw _ (List.mem_of_getElem? (i := 86) rfl)) (by decide) (rm_sam2 l Z a0 hw [] b80 z1 p1 kw_80 y0_80 y1_80 T93.heap V_b80_93 (by first | assumption | decide | omega) (by first | assumption | decide | omega)) e97 0 (by decide) (by decide) (by decide) (by decide) [(.ref b80), (.int z1), (.int p1)] (by rw [hml]; rfl) pd_11 rfl rfl rfl (Nat.le_of_eq rfl) (hb hby at_93) (pc' := 96) rfl (fun z98 T98 hz98 X98 e98 => ?_)
      have az98 : z98.toInt = 1 := hz98
      have rz98 := rng32 z98
      refine ow_if_eq X98 hx (z98.toInt) (hb hby at_96) rfl (by decide) (pt := 118) (by decide) (pf := 99) rfl (fun c96 => absurd c96 (by omega)) (fun c96 => ?_)
      refine ow_aload X98 hx (hb hby at_99) rfl rfl (pc' := 101) rfl ?_
      refine ow_ifnullN X98 hx (hb hby at_101) (pc' := 104) rfl ?_
      refine ow_aload X98 hx (hb hby at_104) rfl rfl (pc' := 106) rfl ?_
      refine ow_aload X98 hx (hb hby at_106) rfl rfl (pc' := 108) rfl ?_
      refine ow_callVPI X98 hx hZ rfl hown (hw _ (List.mem_of_getElem? (i := 87) rfl)) (hw _ (List.mem_of_getElem? (i := 88) rfl)) (hw _ (List.mem_of_getElem? (i := 90) rfl)) (hw _ (List.mem_of_getElem? (i := 89) rfl)) (hw _ (List.mem_of_getElem? (i := 10) rfl)) (hw _ (List.mem_of_getElem? (i := 91) rfl)) (by decide) (rm_eqs1 l Z a0 hw [] b91 b92 zc b91a b92a kt_91 kt_92 x0_91 x0_92 T93.heap (ow_staKeep S_cs K93 all0) (by first | assumption | decide | omega) E_b91_93 F_b91_coder_93 F_b91_value_93 E_b92_93 F_b92_coder_93 F_b92_value_93 V_b91a_93 V_b92a_93 ne_b91_b92 (by first | assumption | decide | omega)) e98 0 (by decide) (by decide) (by decide) (by decide) [(.ref b92)] (by rw [hml]; rfl) pd_12 rfl E_b91_93 rfl rfl (Nat.le_of_eq rfl) (hb hby at_108) (pc' := 111) rfl (fun z99 T99 hz99 X99 e99 => ?_)
      have az99 : z99.toInt = 1 := hz99
      have rz99 := rng32 z99
      refine ow_if_eq X99 hx (z99.toInt) (hb hby at_111) rfl (by decide) (pt := 118) (by decide) (pf := 114) rfl (fun c111 => absurd c111 (by omega)) (fun c111 => ?_)
      refine ow_iconst X99 hx (z := (1 : Int32)) (hb hby at_114) rfl (pc' := 115) rfl ?_
      refine ow_goto X99 hx (hb hby at_115) (by decide) (pc' := 119) (by decide) ?_
      exact ow_retBI X99 hx hret hlk (hb hby at_119) hS93 (by rw [e99]; exact (Nat.le_refl _)) (by decide) (by decide) (z' := (1 : Int32)) rfl ⟨rfl, N93⟩
    · refine ow_iload X80 hx (hb hby at_18) rfl (pc' := 20) rfl ?_
      refine ow_iloadN X80 hx (hb hby at_20) rfl (pc' := 21) rfl ?_
      refine ow_callS X80 hx hZ hown (hw _ (List.mem_of_getElem? (i := 5) rfl)) (hw _ (List.mem_of_getElem? (i := 6) rfl)) (hw _ (List.mem_of_getElem? (i := 2) rfl)) (hw _ (List.mem_of_getElem? (i := 7) rfl)) (by decide) (rm_so2 l Z a0 hw [] z2 p3 zc T80.heap n0 Zs80 (ow_staKeep S_cs K80 all0) (by first | assumption | decide | omega) (by first | assumption | decide | omega)) rfl 0 (by decide) (by decide) (by decide) (by decide) [(.int z2), (.int p3)] (by rw [hml]; rfl) pd_6 rfl rfl rfl (Nat.le_of_eq rfl) (hb hby at_21) (pc' := 24) rfl (fun v100 T100 L100 hQ100 X100 => ?_)
      obtain ⟨b100, b100a, kt_100, x0_100, x1_100, rfl, Nc100, Kc100, P100_0, P100_1, P100_2, P100_3, P100_4, P100_5, P100_6⟩ := hQ100
      have P100_6 : ((x0_100.toInt - p3.toInt) % 256 = 0 ∧ -128 ≤ x0_100.toInt ∧ x0_100.toInt < 128) ∧ ((x1_100.toInt - (p3.toInt % 4294967296) / 256) % 256 = 0 ∧ -128 ≤ x1_100.toInt ∧ x1_100.toInt < 128) := P100_6
      have E_b80_100 := P80_0.keep Kc100
      have V_b80_100 := P80_1.keep Kc100 nin0
      have ne_b80_b100 : b80 ≠ b100 := Nat.ne_of_lt (Nat.lt_of_lt_of_le P80_0.lt P100_4)
      have sz_b100 : h0.size ≤ b100 := Nat.le_trans K80.1 P100_4
      have ne_b80_b100a : b80 ≠ b100a := Nat.ne_of_lt (Nat.lt_of_lt_of_le P80_0.lt P100_5)
      have sz_b100a : h0.size ≤ b100a := Nat.le_trans K80.1 P100_5
      have Zs100 : n0 ≤ T100.heap.size := Nat.le_trans Zs80 Kc100.1
      have K100 := K80.trans Kc100 all0
      have N100 := Fr.app N80 Nc100
      show Ends _ _ _ _ T100 (mkF m 24 #[.val (.int p0), .val (.int p1), .val (.int p2), .val (.int p3), .val (.int z1), .val (.int z2), .val (.ref b80), .unset, .unset, .unset, .unset, .unset, .unset, .unset] [(.ref b100)])
      refine ow_astore X100 hx (Ls' := #[.val (.int p0), .val (.int p1), .val (.int p2), .val (.int p3), .val (.int z1), .val (.int z2), .val (.ref b80), .val (.ref b100), .unset, .unset, .unset, .unset, .unset, .unset]) (hb hby at_24) rfl rfl (pc' := 26) rfl ?_
      refine ow_iload X100 hx (hb hby at_26) rfl (pc' := 28) rfl ?_
      refine ow_iloadN X100 hx (hb hby at_28) rfl (pc' := 29) rfl ?_
      refine ow_callS X100 hx hZ hown (hw _ (List.mem_of_getElem? (i := 5) rfl)) (hw _ (List.mem_of_getElem? (i := 6) rfl)) (hw _ (List.mem_of_getElem? (i := 2) rfl)) (hw _ (List.mem_of_getElem? (i := 7) rfl)) (by decide) (rm_so2 l Z a0 hw [] z2 p3 zc T100.heap n0 Zs100 (ow_staKeep S_cs K100 all0) (by first | assumption | decide | omega) (by first | assumption | decide | omega)) rfl 0 (by decide) (by decide) (by decide) (by decide) [(.int z2), (.int p3)] (by rw [hml]; rfl) pd_6 rfl rfl rfl (Nat.le_of_eq rfl) (hb hby at_29) (pc' := 32) rfl (fun v101 T101 L101 hQ101 X101 => ?_)
      obtain ⟨b101, b101a, kt_101, x0_101, x1_101, rfl, Nc101, Kc101, P101_0, P101_1, P101_2, P101_3, P101_4, P101_5, P101_6⟩ := hQ101
      have P101_6 : ((x0_101.toInt - p3.toInt) % 256 = 0 ∧ -128 ≤ x0_101.toInt ∧ x0_101.toInt < 128) ∧ ((x1_101.toInt - (p3.toInt % 4294967296) / 256) % 256 = 0 ∧ -128 ≤ x1_101.toInt ∧ x1_101.toInt < 128) := P101_6
      have E_b80_101 := E_b80_100.keep Kc101
      have V_b80_101 := V_b80_100.keep Kc101 nin0
      have E_b100_101 := P100_0.keep Kc101
      have F_b100_coder_101 := P100_1.keep Kc101 nin0
      have F_b100_value_101 := P100_2.keep Kc101 nin0
      have V_b100a_101 := P100_3.keep Kc101 nin0
      have ne_b80_b101 : b80 ≠ b101 := Nat.ne_of_lt (Nat.lt_of_lt_of_le E_b80_100.lt P101_4)
      have ne_b100_b101 : b100 ≠ b101 := Nat.ne_of_lt (Nat.lt_of_lt_of_le P100_0.lt P101_4)
      have ne_b100a_b101 : b100a ≠ b101 := Nat.ne_of_lt (Nat.lt_of_lt_of_le P100_3.lt P101_4)
      have sz_b101 : h0.size ≤ b101 := Nat.le_trans K100.1 P101_4
      have ne_b80_b101a : b80 ≠ b101a := Nat.ne_of_lt (Nat.lt_of_lt_of_le E_b80_100.lt P101_5)
      have ne_b100_b101a : b100 ≠ b101a := Nat.ne_of_lt (Nat.lt_of_lt_of_le P100_0.lt P101_5)
      have ne_b100a_b101a : b100a ≠ b101a := Nat.ne_of_lt (Nat.lt_of_lt_of_le P100_3.lt P101_5)
      have sz_b101a : h0.size ≤ b101a := Nat.le_trans K100.1 P101_5
      have Zs101 : n0 ≤ T101.heap.size := Nat.le_trans Zs100 Kc101.1
      have K101 := K100.trans Kc101 all0
      have N101 := Fr.app N100 Nc101
      show Ends _ _ _ _ T101 (mkF m 32 #[.val (.int p0), .val (.int p1), .val (.int p2), .val (.int p3), .val (.int z1), .val (.int z2), .val (.ref b80), .val (.ref b100), .unset, .unset, .unset, .unset, .unset, .unset] [(.ref b101)])
      refine ow_astore X101 hx (Ls' := #[.val (.int p0), .val (.int p1), .val (.int p2), .val (.int p3), .val (.int z1), .val (.int z2), .val (.ref b80), .val (.ref b100), .val (.ref b101), .unset, .unset, .unset, .unset, .unset]) (hb hby at_32) rfl rfl (pc' := 34) rfl ?_
      refine ow_aload X101 hx (hb hby at_34) rfl rfl (pc' := 36) rfl ?_
      refine ow_aload X101 hx (hb hby at_36) rfl rfl (pc' := 38) rfl ?_
      refine ow_callSI X101 hx hZ hown (hw _ (List.mem_of_getElem? (i := 37) rfl)) (hw _ (List.mem_of_getElem? (i := 38) rfl)) (hw _ (List.mem_of_getElem? (i := 39) rfl)) (hw _ (List.mem_of_getElem? (i := 40) rfl)) (by decide) (rm_repl l Z a0 hw [] hcw hch b80 b100 T101.heap n0 Zs101 (ow_zk hzk hzn K101 all0) hzn E_b80_101 E_b100_101) (fun v_ w_ => LT.weaken (LT.warm hI0 v_ w_) (by decide) (fun _ h => absurd h List.not_mem_nil)) hS0 (Nat.zero_le _) rfl 0 (by decide) (by decide) (by decide) (by decide) [(.ref b80), (.ref b100)] (by rw [hml]; rfl) pd_7 rfl rfl rfl (Nat.le_of_eq rfl) (hb hby at_38) (pc' := 41) rfl (fun v102 T102 L102 hQ102 X102 hS102 hZ hown => ?_)
      obtain ⟨b102, rfl, Nc102, Kc102, P102_0, P102_1, P102_2, P102_3⟩ := hQ102
      have E_b80_102 := E_b80_101.keep Kc102
      have V_b80_102 := V_b80_101.keep Kc102 nin0
      have E_b100_102 := E_b100_101.keep Kc102
      have F_b100_coder_102 := F_b100_coder_101.keep Kc102 nin0
      have F_b100_value_102 := F_b100_value_101.keep Kc102 nin0
      have V_b100a_102 := V_b100a_101.keep Kc102 nin0
      have E_b101_102 := P101_0.keep Kc102
      have F_b101_coder_102 := P101_1.keep Kc102 nin0
      have F_b101_value_102 := P101_2.keep Kc102 nin0
      have V_b101a_102 := P101_3.keep Kc102 nin0
      have Zs102 : n0 ≤ T102.heap.size := Nat.le_trans Zs101 Kc102.1
      have K102 := K101.trans Kc102 all0
      have N102 := Fr.app N101 Nc102
      show Ends _ _ _ _ T102 (mkF m 41 #[.val (.int p0), .val (.int p1), .val (.int p2), .val (.int p3), .val (.int z1), .val (.int z2), .val (.ref b80), .val (.ref b100), .val (.ref b101), .unset, .unset, .unset, .unset, .unset] [(.ref b102)])
      refine ow_astore X102 hx (Ls' := #[.val (.int p0), .val (.int p1), .val (.int p2), .val (.int p3), .val (.int z1), .val (.int z2), .val (.ref b80), .val (.ref b100), .val (.ref b101), .val (.ref b102), .unset, .unset, .unset, .unset]) (hb hby at_41) rfl rfl (pc' := 43) rfl ?_
      refine ow_aload X102 hx (hb hby at_43) rfl rfl (pc' := 45) rfl ?_
      refine ow_ifnonnullY X102 hx (hb hby at_45) (by decide) (pc' := 50) (by decide) ?_
      refine ow_aload X102 hx (hb hby at_50) rfl rfl (pc' := 52) rfl ?_
      refine ow_callVPI X102 hx hZ rfl hown (hw _ (List.mem_of_getElem? (i := 64) rfl)) (hw _ (List.mem_of_getElem? (i := 65) rfl)) (hw _ (List.mem_of_getElem? (i := 67) rfl)) (hw _ (List.mem_of_getElem? (i := 66) rfl)) (hw _ (List.mem_of_getElem? (i := 39) rfl)) (hw _ (List.mem_of_getElem? (i := 68) rfl)) (by decide) (rm_refd l Z a0 hw [] b102 T102.heap P102_3) rfl 0 (by decide) (by decide) (by decide) (by decide) [] (by rw [hml]; rfl) pd_8 rfl P102_0 rfl rfl (Nat.le_of_eq rfl) (hb hby at_52) (pc' := 55) rfl (fun z103 T103 hz103 X103 e103 => ?_)
      have az103 : z103.toInt = 0 := hz103
      have rz103 := rng32 z103
      refine ow_istore X103 hx (Ls' := #[.val (.int p0), .val (.int p1), .val (.int p2), .val (.int p3), .val (.int z1), .val (.int z2), .val (.ref b80), .val (.ref b100), .val (.ref b101), .val (.ref b102), .val (.int z103), .unset, .unset, .unset]) (hb hby at_55) rfl (pc' := 57) rfl ?_
      refine ow_aload X103 hx (hb hby at_57) rfl rfl (pc' := 59) rfl ?_
      refine ow_callV X103 hx hZ rfl hown (hw _ (List.mem_of_getElem? (i := 69) rfl)) (hw _ (List.mem_of_getElem? (i := 70) rfl)) (hw _ (List.mem_of_getElem? (i := 72) rfl)) (hw _ (List.mem_of_getElem? (i := 71) rfl)) (hw _ (List.mem_of_getElem? (i := 39) rfl)) (hw _ (List.mem_of_getElem? (i := 73) rfl)) (by decide) (rm_rsB l Z a0 hw [] b102 b80 T102.heap P102_1) e103 0 (by decide) (by decide) (by decide) (by decide) [] (by rw [hml]; rfl) pd_9 rfl P102_0 rfl rfl (Nat.le_of_eq rfl) (hb hby at_59) (pc' := 62) rfl (fun v104 T104 L104 hQ104 X104 => ?_)
      obtain ⟨rfl, rfl, e104⟩ := hQ104
      rw [List.append_nil] at X104
      show Ends _ _ _ _ T104 (mkF m 62 #[.val (.int p0), .val (.int p1), .val (.int p2), .val (.int p3), .val (.int z1), .val (.int z2), .val (.ref b80), .val (.ref b100), .val (.ref b101), .val (.ref b102), .val (.int z103), .unset, .unset, .unset] [(.ref b80)])
      refine ow_astore X104 hx (Ls' := #[.val (.int p0), .val (.int p1), .val (.int p2), .val (.int p3), .val (.int z1), .val (.int z2), .val (.ref b80), .val (.ref b100), .val (.ref b101), .val (.ref b102), .val (.int z103), .val (.ref b80), .unset, .unset]) (hb hby at_62) rfl rfl (pc' := 64) rfl ?_
      refine ow_aload X104 hx (hb hby at_64) rfl rfl (pc' := 66) rfl ?_
      refine ow_callV X104 hx hZ rfl hown (hw _ (List.mem_of_getElem? (i := 74) rfl)) (hw _ (List.mem_of_getElem? (i := 75) rfl)) (hw _ (List.mem_of_getElem? (i := 77) rfl)) (hw _ (List.mem_of_getElem? (i := 76) rfl)) (hw _ (List.mem_of_getElem? (i := 39) rfl)) (hw _ (List.mem_of_getElem? (i := 78) rfl)) (by decide) (rm_rsM l Z a0 hw [] b102 b100 T102.heap P102_2) e104 0 (by decide) (by decide) (by decide) (by decide) [] (by rw [hml]; rfl) pd_10 rfl P102_0 rfl rfl (Nat.le_of_eq rfl) (hb hby at_66) (pc' := 69) rfl (fun v105 T105 L105 hQ105 X105 => ?_)
      obtain ⟨rfl, rfl, e105⟩ := hQ105
      rw [List.append_nil] at X105
      show Ends _ _ _ _ T105 (mkF m 69 #[.val (.int p0), .val (.int p1), .val (.int p2), .val (.int p3), .val (.int z1), .val (.int z2), .val (.ref b80), .val (.ref b100), .val (.ref b101), .val (.ref b102), .val (.int z103), .val (.ref b80), .unset, .unset] [(.ref b100)])
      refine ow_astore X105 hx (Ls' := #[.val (.int p0), .val (.int p1), .val (.int p2), .val (.int p3), .val (.int z1), .val (.int z2), .val (.ref b80), .val (.ref b100), .val (.ref b101), .val (.ref b102), .val (.int z103), .val (.ref b80), .val (.ref b100), .unset]) (hb hby at_69) rfl rfl (pc' := 71) rfl ?_
      refine ow_aload X105 hx (hb hby at_71) rfl rfl (pc' := 73) rfl ?_
      refine ow_callV X105 hx hZ rfl hown (hw _ (List.mem_of_getElem? (i := 79) rfl)) (hw _ (List.mem_of_getElem? (i := 80) rfl)) (hw _ (List.mem_of_getElem? (i := 82) rfl)) (hw _ (List.mem_of_getElem? (i := 81) rfl)) (hw _ (List.mem_of_getElem? (i := 39) rfl)) (hw _ (List.mem_of_getElem? (i := 83) rfl)) (by decide) (rm_rsR l Z a0 hw [] b102 T102.heap P102_3) e105 0 (by decide) (by decide) (by decide) (by decide) [] (by rw [hml]; rfl) pd_10 rfl P102_0 rfl rfl (Nat.le_of_eq rfl) (hb hby at_73) (pc' := 76) rfl (fun v106 T106 L106 hQ106 X106 => ?_)
      obtain ⟨rfl, rfl, e106⟩ := hQ106
      rw [List.append_nil] at X106
      show Ends _ _ _ _ T106 (mkF m 76 #[.val (.int p0), .val (.int p1), .val (.int p2), .val (.int p3), .val (.int z1), .val (.int z2), .val (.ref b80), .val (.ref b100), .val (.ref b101), .val (.ref b102), .val (.int z103), .val (.ref b80), .val (.ref b100), .unset] [.null])
      refine ow_astore X106 hx (Ls' := #[.val (.int p0), .val (.int p1), .val (.int p2), .val (.int p3), .val (.int z1), .val (.int z2), .val (.ref b80), .val (.ref b100), .val (.ref b101), .val (.ref b102), .val (.int z103), .val (.ref b80), .val (.ref b100), .val .null]) (hb hby at_76) rfl rfl (pc' := 78) rfl ?_
      refine ow_iload X106 hx (hb hby at_78) rfl (pc' := 80) rfl ?_
      refine ow_if_ne X106 hx (z103.toInt) (hb hby at_80) rfl (by decide) (pt := 118) (by decide) (pf := 83) rfl (fun c80 => absurd c80 (by omega)) (fun c80 => ?_)
      refine ow_aload X106 hx (hb hby at_83) rfl rfl (pc' := 85) rfl ?_
      refine ow_ifnonnullN X106 hx (hb hby at_85) (pc' := 88) rfl ?_
      refine ow_aload X106 hx (hb hby at_88) rfl rfl (pc' := 90) rfl ?_
      refine ow_iload X106 hx (hb hby at_90) rfl (pc' := 92) rfl ?_
      refine ow_iloadN X106 hx (hb hby at_92) rfl (pc' := 93) rfl ?_
      refine ow_callPI X106 hx hZ hown (hw _ (List.mem_of_getElem? (i := 84) rfl)) (hw _ (List.mem_of_getElem? (i := 85) rfl)) (hw _ (List.mem_of_getElem? (i := 2) rfl)) (hw _ (List.mem_of_getElem? (i := 86) rfl)) (by decide) (rm_sam2 l Z a0 hw [] b80 z1 p1 kw_80 y0_80 y1_80 T102.heap V_b80_102 (by first | assumption | decide | omega) (by first | assumption | decide | omega)) e106 0 (by decide) (by decide) (by decide) (by decide) [(.ref b80), (.int z1), (.int p1)] (by rw [hml]; rfl) pd_11 rfl rfl rfl (Nat.le_of_eq rfl) (hb hby at_93) (pc' := 96) rfl (fun z107 T107 hz107 X107 e107 => ?_)
      have az107 : z107.toInt = 1 := hz107
      have rz107 := rng32 z107
      refine ow_if_eq X107 hx (z107.toInt) (hb hby at_96) rfl (by decide) (pt := 118) (by decide) (pf := 99) rfl (fun c96 => absurd c96 (by omega)) (fun c96 => ?_)
      refine ow_aload X107 hx (hb hby at_99) rfl rfl (pc' := 101) rfl ?_
      refine ow_ifnullN X107 hx (hb hby at_101) (pc' := 104) rfl ?_
      refine ow_aload X107 hx (hb hby at_104) rfl rfl (pc' := 106) rfl ?_
      refine ow_aload X107 hx (hb hby at_106) rfl rfl (pc' := 108) rfl ?_
      refine ow_callVPI X107 hx hZ rfl hown (hw _ (List.mem_of_getElem? (i := 87) rfl)) (hw _ (List.mem_of_getElem? (i := 88) rfl)) (hw _ (List.mem_of_getElem? (i := 90) rfl)) (hw _ (List.mem_of_getElem? (i := 89) rfl)) (hw _ (List.mem_of_getElem? (i := 10) rfl)) (hw _ (List.mem_of_getElem? (i := 91) rfl)) (by decide) (rm_eqs2 l Z a0 hw [] b100 b101 zc b100a b101a kt_100 kt_101 x0_100 x1_100 x0_101 x1_101 T102.heap (ow_staKeep S_cs K102 all0) (by first | assumption | decide | omega) E_b100_102 F_b100_coder_102 F_b100_value_102 E_b101_102 F_b101_coder_102 F_b101_value_102 V_b100a_102 V_b101a_102 ne_b100_b101 (by first | assumption | decide | omega) (by first | assumption | decide | omega)) e107 0 (by decide) (by decide) (by decide) (by decide) [(.ref b101)] (by rw [hml]; rfl) pd_12 rfl E_b100_102 rfl rfl (Nat.le_of_eq rfl) (hb hby at_108) (pc' := 111) rfl (fun z108 T108 hz108 X108 e108 => ?_)
      have az108 : z108.toInt = 1 := hz108
      have rz108 := rng32 z108
      refine ow_if_eq X108 hx (z108.toInt) (hb hby at_111) rfl (by decide) (pt := 118) (by decide) (pf := 114) rfl (fun c111 => absurd c111 (by omega)) (fun c111 => ?_)
      refine ow_iconst X108 hx (z := (1 : Int32)) (hb hby at_114) rfl (pc' := 115) rfl ?_
      refine ow_goto X108 hx (hb hby at_115) (by decide) (pc' := 119) (by decide) ?_
      exact ow_retBI X108 hx hret hlk (hb hby at_119) hS102 (by rw [e108]; exact (Nat.le_refl _)) (by decide) (by decide) (z' := (1 : Int32)) rfl ⟨rfl, N102⟩
    · refine ow_iload X80 hx (hb hby at_18) rfl (pc' := 20) rfl ?_
      refine ow_iloadN X80 hx (hb hby at_20) rfl (pc' := 21) rfl ?_
      refine ow_callS X80 hx hZ hown (hw _ (List.mem_of_getElem? (i := 5) rfl)) (hw _ (List.mem_of_getElem? (i := 6) rfl)) (hw _ (List.mem_of_getElem? (i := 2) rfl)) (hw _ (List.mem_of_getElem? (i := 7) rfl)) (by decide) (rm_so3 l Z a0 hw [] z2 p3 zc T80.heap n0 Zs80 (ow_staKeep S_cs K80 all0) (by first | assumption | decide | omega) (by first | assumption | decide | omega)) rfl 0 (by decide) (by decide) (by decide) (by decide) [(.int z2), (.int p3)] (by rw [hml]; rfl) pd_6 rfl rfl rfl (Nat.le_of_eq rfl) (hb hby at_21) (pc' := 24) rfl (fun v109 T109 L109 hQ109 X109 => ?_)
      obtain ⟨b109, b109a, kt_109, x0_109, x1_109, x2_109, rfl, Nc109, Kc109, P109_0, P109_1, P109_2, P109_3, P109_4, P109_5, P109_6⟩ := hQ109
      have P109_6 : ((x0_109.toInt - p3.toInt) % 256 = 0 ∧ -128 ≤ x0_109.toInt ∧ x0_109.toInt < 128) ∧ ((x1_109.toInt - (p3.toInt % 4294967296) / 256) % 256 = 0 ∧ -128 ≤ x1_109.toInt ∧ x1_109.toInt < 128) ∧ ((x2_109.toInt - (p3.toInt % 4294967296) / 65536) % 256 = 0 ∧ -128 ≤ x2_109.toInt ∧ x2_109.toInt < 128) := P109_6
      have E_b80_109 := P80_0.keep Kc109
      have V_b80_109 := P80_1.keep Kc109 nin0
      have ne_b80_b109 : b80 ≠ b109 := Nat.ne_of_lt (Nat.lt_of_lt_of_le P80_0.lt P109_4)
      have sz_b109 : h0.size ≤ b109 := Nat.le_trans K80.1 P109_4
      have ne_b80_b109a : b80 ≠ b109a := Nat.ne_of_lt (Nat.lt_of_lt_of_le P80_0.lt P109_5)
      have sz_b109a : h0.size ≤ b109a := Nat.le_trans K80.1 P109_5
      have Zs109 : n0 ≤ T109.heap.size := Nat.le_trans Zs80 Kc109.1
      have K109 := K80.trans Kc109 all0
      have N109 := Fr.app N80 Nc109
      show Ends _ _ _ _ T109 (mkF m 24 #[.val (.int p0), .val (.int p1), .val (.int p2), .val (.int p3), .val (.int z1), .val (.int z2), .val (.ref b80), .unset, .unset, .unset, .unset, .unset, .unset, .unset] [(.ref b109)])
      refine ow_astore X109 hx (Ls' := #[.val (.int p0), .val (.int p1), .val (.int p2), .val (.int p3), .val (.int z1), .val (.int z2), .val (.ref b80), .val (.ref b109), .unset, .unset, .unset, .unset, .unset, .unset]) (hb hby at_24) rfl rfl (pc' := 26) rfl ?_
      refine ow_iload X109 hx (hb hby at_26) rfl (pc' := 28) rfl ?_
      refine ow_iloadN X109 hx (hb hby at_28) rfl (pc' := 29) rfl ?_
      refine ow_callS X109 hx hZ hown (hw _ (List.mem_of_getElem? (i := 5) rfl)) (hw _ (List.mem_of_getElem? (i := 6) rfl)) (hw _ (List.mem_of_getElem? (i := 2) rfl)) (hw _ (List.mem_of_getElem? (i := 7) rfl)) (by decide) (rm_so3 l Z a0 hw [] z2 p3 zc T109.heap n0 Zs109 (ow_staKeep S_cs K109 all0) (by first | assumption | decide | omega) (by first | assumption | decide | omega)) rfl 0 (by decide) (by decide) (by decide) (by decide) [(.int z2), (.int p3)] (by rw [hml]; rfl) pd_6 rfl rfl rfl (Nat.le_of_eq rfl) (hb hby at_29) (pc' := 32) rfl (fun v110 T110 L110 hQ110 X110 => ?_)
      obtain ⟨b110, b110a, kt_110, x0_110, x1_110, x2_110, rfl, Nc110, Kc110, P110_0, P110_1, P110_2, P110_3, P110_4, P110_5, P110_6⟩ := hQ110
      have P110_6 : ((x0_110.toInt - p3.toInt) % 256 = 0 ∧ -128 ≤ x0_110.toInt ∧ x0_110.toInt < 128) ∧ ((x1_110.toInt - (p3.toInt % 4294967296) / 256) % 256 = 0 ∧ -128 ≤ x1_110.toInt ∧ x1_110.toInt < 128) ∧ ((x2_110.toInt - (p3.toInt % 4294967296) / 65536) % 256 = 0 ∧ -128 ≤ x2_110.toInt ∧ x2_110.toInt < 128) := P110_6
      have E_b80_110 := E_b80_109.keep Kc110
      have V_b80_110 := V_b80_109.keep Kc110 nin0
      have E_b109_110 := P109_0.keep Kc110
      have F_b109_coder_110 := P109_1.keep Kc110 nin0
      have F_b109_value_110 := P109_2.keep Kc110 nin0
      have V_b109a_110 := P109_3.keep Kc110 nin0
      have ne_b80_b110 : b80 ≠ b110 := Nat.ne_of_lt (Nat.lt_of_lt_of_le E_b80_109.lt P110_4)
      have ne_b109_b110 : b109 ≠ b110 := Nat.ne_of_lt (Nat.lt_of_lt_of_le P109_0.lt P110_4)
      have ne_b109a_b110 : b109a ≠ b110 := Nat.ne_of_lt (Nat.lt_of_lt_of_le P109_3.lt P110_4)
      have sz_b110 : h0.size ≤ b110 := Nat.le_trans K109.1 P110_4
      have ne_b80_b110a : b80 ≠ b110a := Nat.ne_of_lt (Nat.lt_of_lt_of_le E_b80_109.lt P110_5)
      have ne_b109_b110a : b109 ≠ b110a := Nat.ne_of_lt (Nat.lt_of_lt_of_le P109_0.lt P110_5)
      have ne_b109a_b110a : b109a ≠ b110a := Nat.ne_of_lt (Nat.lt_of_lt_of_le P109_3.lt P110_5)
      have sz_b110a : h0.size ≤ b110a := Nat.le_trans K109.1 P110_5
      have Zs110 : n0 ≤ T110.heap.size := Nat.le_trans Zs109 Kc110.1
      have K110 := K109.trans Kc110 all0
      have N110 := Fr.app N109 Nc110
      show Ends _ _ _ _ T110 (mkF m 32 #[.val (.int p0), .val (.int p1), .val (.int p2), .val (.int p3), .val (.int z1), .val (.int z2), .val (.ref b80), .val (.ref b109), .unset, .unset, .unset, .unset, .unset, .unset] [(.ref b110)])
      refine ow_astore X110 hx (Ls' := #[.val (.int p0), .val (.int p1), .val (.int p2), .val (.int p3), .val (.int z1), .val (.int z2), .val (.ref b80), .val (.ref b109), .val (.ref b110), .unset, .unset, .unset, .unset, .unset]) (hb hby at_32) rfl rfl (pc' := 34) rfl ?_
      refine ow_aload X110 hx (hb hby at_34) rfl rfl (pc' := 36) rfl ?_
      refine ow_aload X110 hx (hb hby at_36) rfl rfl (pc' := 38) rfl ?_
      refine ow_callSI X110 hx hZ hown (hw _ (List.mem_of_getElem? (i := 37) rfl)) (hw _ (List.mem_of_getElem? (i := 38) rfl)) (hw _ (List.mem_of_getElem? (i := 39) rfl)) (hw _ (List.mem_of_getElem? (i := 40) rfl)) (by decide) (rm_repl l Z a0 hw [] hcw hch b80 b109 T110.heap n0 Zs110 (ow_zk hzk hzn K110 all0) hzn E_b80_110 E_b109_110) (fun v_ w_ => LT.weaken (LT.warm hI0 v_ w_) (by decide) (fun _ h => absurd h List.not_mem_nil)) hS0 (Nat.zero_le _) rfl 0 (by decide) (by decide) (by decide) (by decide) [(.ref b80), (.ref b109)] (by rw [hml]; rfl) pd_7 rfl rfl rfl (Nat.le_of_eq rfl) (hb hby at_38) (pc' := 41) rfl (fun v111 T111 L111 hQ111 X111 hS111 hZ hown => ?_)
      obtain ⟨b111, rfl, Nc111, Kc111, P111_0, P111_1, P111_2, P111_3⟩ := hQ111
      have E_b80_111 := E_b80_110.keep Kc111
      have V_b80_111 := V_b80_110.keep Kc111 nin0
      have E_b109_111 := E_b109_110.keep Kc111
      have F_b109_coder_111 := F_b109_coder_110.keep Kc111 nin0
      have F_b109_value_111 := F_b109_value_110.keep Kc111 nin0
      have V_b109a_111 := V_b109a_110.keep Kc111 nin0
      have E_b110_111 := P110_0.keep Kc111
      have F_b110_coder_111 := P110_1.keep Kc111 nin0
      have F_b110_value_111 := P110_2.keep Kc111 nin0
      have V_b110a_111 := P110_3.keep Kc111 nin0
      have Zs111 : n0 ≤ T111.heap.size := Nat.le_trans Zs110 Kc111.1
      have K111 := K110.trans Kc111 all0
      have N111 := Fr.app N110 Nc111
      show Ends _ _ _ _ T111 (mkF m 41 #[.val (.int p0), .val (.int p1), .val (.int p2), .val (.int p3), .val (.int z1), .val (.int z2), .val (.ref b80), .val (.ref b109), .val (.ref b110), .unset, .unset, .unset, .unset, .unset] [(.ref b111)])
      refine ow_astore X111 hx (Ls' := #[.val (.int p0), .val (.int p1), .val (.int p2), .val (.int p3), .val (.int z1), .val (.int z2), .val (.ref b80), .val (.ref b109), .val (.ref b110), .val (.ref b111), .unset, .unset, .unset, .unset]) (hb hby at_41) rfl rfl (pc' := 43) rfl ?_
      refine ow_aload X111 hx (hb hby at_43) rfl rfl (pc' := 45) rfl ?_
      refine ow_ifnonnullY X111 hx (hb hby at_45) (by decide) (pc' := 50) (by decide) ?_
      refine ow_aload X111 hx (hb hby at_50) rfl rfl (pc' := 52) rfl ?_
      refine ow_callVPI X111 hx hZ rfl hown (hw _ (List.mem_of_getElem? (i := 64) rfl)) (hw _ (List.mem_of_getElem? (i := 65) rfl)) (hw _ (List.mem_of_getElem? (i := 67) rfl)) (hw _ (List.mem_of_getElem? (i := 66) rfl)) (hw _ (List.mem_of_getElem? (i := 39) rfl)) (hw _ (List.mem_of_getElem? (i := 68) rfl)) (by decide) (rm_refd l Z a0 hw [] b111 T111.heap P111_3) rfl 0 (by decide) (by decide) (by decide) (by decide) [] (by rw [hml]; rfl) pd_8 rfl P111_0 rfl rfl (Nat.le_of_eq rfl) (hb hby at_52) (pc' := 55) rfl (fun z112 T112 hz112 X112 e112 => ?_)
      have az112 : z112.toInt = 0 := hz112
      have rz112 := rng32 z112
      refine ow_istore X112 hx (Ls' := #[.val (.int p0), .val (.int p1), .val (.int p2), .val (.int p3), .val (.int z1), .val (.int z2), .val (.ref b80), .val (.ref b109), .val (.ref b110), .val (.ref b111), .val (.int z112), .unset, .unset, .unset]) (hb hby at_55) rfl (pc' := 57) rfl ?_
      refine ow_aload X112 hx (hb hby at_57) rfl rfl (pc' := 59) rfl ?_
      refine ow_callV X112 hx hZ rfl hown (hw _ (List.mem_of_getElem? (i := 69) rfl)) (hw _ (List.mem_of_getElem? (i := 70) rfl)) (hw _ (List.mem_of_getElem? (i := 72) rfl)) (hw _ (List.mem_of_getElem? (i := 71) rfl)) (hw _ (List.mem_of_getElem? (i := 39) rfl)) (hw _ (List.mem_of_getElem? (i := 73) rfl)) (by decide) (rm_rsB l Z a0 hw [] b111 b80 T111.heap P111_1) e112 0 (by decide) (by decide) (by decide) (by decide) [] (by rw [hml]; rfl) pd_9 rfl P111_0 rfl rfl (Nat.le_of_eq rfl) (hb hby at_59) (pc' := 62) rfl (fun v113 T113 L113 hQ113 X113 => ?_)
      obtain ⟨rfl, rfl, e113⟩ := hQ113
      rw [List.append_nil] at X113
      show Ends _ _ _ _ T113 (mkF m 62 #[.val (.int p0), .val (.int p1), .val (.int p2), .val (.int p3), .val (.int z1), .val (.int z2), .val (.ref b80), .val (.ref b109), .val (.ref b110), .val (.ref b111), .val (.int z112), .unset, .unset, .unset] [(.ref b80)])
      refine ow_astore X113 hx (Ls' := #[.val (.int p0), .val (.int p1), .val (.int p2), .val (.int p3), .val (.int z1), .val (.int z2), .val (.ref b80), .val (.ref b109), .val (.ref b110), .val (.ref b111), .val (.int z112), .val (.ref b80), .unset, .unset]) (hb hby at_62) rfl rfl (pc' := 64) rfl ?_
      refine ow_aload X113 hx (hb hby at_64) rfl rfl (pc' := 66) rfl ?_
      refine ow_callV X113 hx hZ rfl hown (hw _ (List.mem_of_getElem? (i := 74) rfl)) (hw _ (List.mem_of_getElem? (i := 75) rfl)) (hw _ (List.mem_of_getElem? (i := 77) rfl)) (hw _ (List.mem_of_getElem? (i := 76) rfl)) (hw _ (List.mem_of_getElem? (i := 39) rfl)) (hw _ (List.mem_of_getElem? (i := 78) rfl)) (by decide) (rm_rsM l Z a0 hw [] b111 b109 T111.heap P111_2) e113 0 (by decide) (by decide) (by decide) (by decide) [] (by rw [hml]; rfl) pd_10 rfl P111_0 rfl rfl (Nat.le_of_eq rfl) (hb hby at_66) (pc' := 69) rfl (fun v114 T114 L114 hQ114 X114 => ?_)
      obtain ⟨rfl, rfl, e114⟩ := hQ114
      rw [List.append_nil] at X114
      show Ends _ _ _ _ T114 (mkF m 69 #[.val (.int p0), .val (.int p1), .val (.int p2), .val (.int p3), .val (.int z1), .val (.int z2), .val (.ref b80), .val (.ref b109), .val (.ref b110), .val (.ref b111), .val (.int z112), .val (.ref b80), .unset, .unset] [(.ref b109)])
      refine ow_astore X114 hx (Ls' := #[.val (.int p0), .val (.int p1), .val (.int p2), .val (.int p3), .val (.int z1), .val (.int z2), .val (.ref b80), .val (.ref b109), .val (.ref b110), .val (.ref b111), .val (.int z112), .val (.ref b80), .val (.ref b109), .unset]) (hb hby at_69) rfl rfl (pc' := 71) rfl ?_
      refine ow_aload X114 hx (hb hby at_71) rfl rfl (pc' := 73) rfl ?_
      refine ow_callV X114 hx hZ rfl hown (hw _ (List.mem_of_getElem? (i := 79) rfl)) (hw _ (List.mem_of_getElem? (i := 80) rfl)) (hw _ (List.mem_of_getElem? (i := 82) rfl)) (hw _ (List.mem_of_getElem? (i := 81) rfl)) (hw _ (List.mem_of_getElem? (i := 39) rfl)) (hw _ (List.mem_of_getElem? (i := 83) rfl)) (by decide) (rm_rsR l Z a0 hw [] b111 T111.heap P111_3) e114 0 (by decide) (by decide) (by decide) (by decide) [] (by rw [hml]; rfl) pd_10 rfl P111_0 rfl rfl (Nat.le_of_eq rfl) (hb hby at_73) (pc' := 76) rfl (fun v115 T115 L115 hQ115 X115 => ?_)
      obtain ⟨rfl, rfl, e115⟩ := hQ115
      rw [List.append_nil] at X115
      show Ends _ _ _ _ T115 (mkF m 76 #[.val (.int p0), .val (.int p1), .val (.int p2), .val (.int p3), .val (.int z1), .val (.int z2), .val (.ref b80), .val (.ref b109), .val (.ref b110), .val (.ref b111), .val (.int z112), .val (.ref b80), .val (.ref b109), .unset] [.null])
      refine ow_astore X115 hx (Ls' := #[.val (.int p0), .val (.int p1), .val (.int p2), .val (.int p3), .val (.int z1), .val (.int z2), .val (.ref b80), .val (.ref b109), .val (.ref b110), .val (.ref b111), .val (.int z112), .val (.ref b80), .val (.ref b109), .val .null]) (hb hby at_76) rfl rfl (pc' := 78) rfl ?_
      refine ow_iload X115 hx (hb hby at_78) rfl (pc' := 80) rfl ?_
      refine ow_if_ne X115 hx (z112.toInt) (hb hby at_80) rfl (by decide) (pt := 118) (by decide) (pf := 83) rfl (fun c80 => absurd c80 (by omega)) (fun c80 => ?_)
      refine ow_aload X115 hx (hb hby at_83) rfl rfl (pc' := 85) rfl ?_
      refine ow_ifnonnullN X115 hx (hb hby at_85) (pc' := 88) rfl ?_
      refine ow_aload X115 hx (hb hby at_88) rfl rfl (pc' := 90) rfl ?_
      refine ow_iload X115 hx (hb hby at_90) rfl (pc' := 92) rfl ?_
      refine ow_iloadN X115 hx (hb hby at_92) rfl (pc' := 93) rfl ?_
      refine ow_callPI X115 hx hZ hown (hw _ (List.mem_of_getElem? (i := 84) rfl)) (hw _ (List.mem_of_getElem? (i := 85) rfl)) (hw _ (List.mem_of_getElem? (i := 2) rfl)) (hw _ (List.mem_of_getElem? (i := 86) rfl)) (by decide) (rm_sam2 l Z a0 hw [] b80 z1 p1 kw_80 y0_80 y1_80 T111.heap V_b80_111 (by first | assumption | decide | omega) (by first | assumption | decide | omega)) e115 0 (by decide) (by decide) (by decide) (by decide) [(.ref b80), (.int z1), (.int p1)] (by rw [hml]; rfl) pd_11 rfl rfl rfl (Nat.le_of_eq rfl) (hb hby at_93) (pc' := 96) rfl (fun z116 T116 hz116 X116 e116 => ?_)
      have az116 : z116.toInt = 1 := hz116
      have rz116 := rng32 z116
      refine ow_if_eq X116 hx (z116.toInt) (hb hby at_96) rfl (by decide) (pt := 118) (by decide) (pf := 99) rfl (fun c96 => absurd c96 (by omega)) (fun c96 => ?_)
      refine ow_aload X116 hx (hb hby at_99) rfl rfl (pc' := 101) rfl ?_
      refine ow_ifnullN X116 hx (hb hby at_101) (pc' := 104) rfl ?_
      refine ow_aload X116 hx (hb hby at_104) rfl rfl (pc' := 106) rfl ?_
      refine ow_aload X116 hx (hb hby at_106) rfl rfl (pc' := 108) rfl ?_
      refine ow_callVPI X116 hx hZ rfl hown (hw _ (List.mem_of_getElem? (i := 87) rfl)) (hw _ (List.mem_of_getElem? (i := 88) rfl)) (hw _ (List.mem_of_getElem? (i := 90) rfl)) (hw _ (List.mem_of_getElem? (i := 89) rfl)) (hw _ (List.mem_of_getElem? (i := 10) rfl)) (hw _ (List.mem_of_getElem? (i := 91) rfl)) (by decide) (rm_eqs3 l Z a0 hw [] b109 b110 zc b109a b110a kt_109 kt_110 x0_109 x1_109 x2_109 x0_110 x1_110 x2_110 T111.heap (ow_staKeep S_cs K111 all0) (by first | assumption | decide | omega) E_b109_111 F_b109_coder_111 F_b109_value_111 E_b110_111 F_b110_coder_111 F_b110_value_111 V_b109a_111 V_b110a_111 ne_b109_b110 (by first | assumption | decide | omega) (by first | assumption | decide | omega) (by first | assumption | decide | omega)) e116 0 (by decide) (by decide) (by decide) (by decide) [(.ref b110)] (by rw [hml]; rfl) pd_12 rfl E_b109_111 rfl rfl (Nat.le_of_eq rfl) (hb hby at_108) (pc' := 111) rfl (fun z117 T117 hz117 X117 e117 => ?_)
      have az117 : z117.toInt = 1 := hz117
      have rz117 := rng32 z117
      refine ow_if_eq X117 hx (z117.toInt) (hb hby at_111) rfl (by decide) (pt := 118) (by decide) (pf := 114) rfl (fun c111 => absurd c111 (by omega)) (fun c111 => ?_)
      refine ow_iconst X117 hx (z := (1 : Int32)) (hb hby at_114) rfl (pc' := 115) rfl ?_
      refine ow_goto X117 hx (hb hby at_115) (by decide) (pc' := 119) (by decide) ?_
      exact ow_retBI X117 hx hret hlk (hb hby at_119) hS111 (by rw [e117]; exact (Nat.le_refl _)) (by decide) (by decide) (z' := (1 : Int32)) rfl ⟨rfl, N111⟩
  · refine ow_iload X0 hx (hb hby at_10) rfl (pc' := 12) rfl ?_
    refine ow_iloadN X0 hx (hb hby at_12) rfl (pc' := 13) rfl ?_
    refine ow_callS X0 hx hZ hown (hw _ (List.mem_of_getElem? (i := 0) rfl)) (hw _ (List.mem_of_getElem? (i := 1) rfl)) (hw _ (List.mem_of_getElem? (i := 2) rfl)) (hw _ (List.mem_of_getElem? (i := 3) rfl)) (by decide) (rm_byt3 l Z a0 hw [] z1 p1 h0 n0 Z0 (by first | assumption | decide | omega)) e0 0 (by decide) (by decide) (by decide) (by decide) [(.int z1), (.int p1)] (by rw [hml]; rfl) pd_5 rfl rfl rfl (Nat.le_of_eq rfl) (hb hby at_13) (pc' := 16) rfl (fun v118 T118 L118 hQ118 X118 => ?_)
    obtain ⟨b118, kw_118, y0_118, y1_118, y2_118, rfl, Nc118, Kc118, P118_0, P118_1, P118_2, P118_3⟩ := hQ118
    have P118_3 : ((y0_118.toInt - p1.toInt) % 256 = 0 ∧ -128 ≤ y0_118.toInt ∧ y0_118.toInt < 128) ∧ ((y1_118.toInt - (p1.toInt % 4294967296) / 256) % 256 = 0 ∧ -128 ≤ y1_118.toInt ∧ y1_118.toInt < 128) ∧ ((y2_118.toInt - (p1.toInt % 4294967296) / 65536) % 256 = 0 ∧ -128 ≤ y2_118.toInt ∧ y2_118.toInt < 128) := P118_3
    have sz_b118 : h0.size ≤ b118 := Nat.le_trans (Keep.refl h0 []).1 P118_2
    have Zs118 : n0 ≤ T118.heap.size := Nat.le_trans Z0 Kc118.1
    have K118 := (Keep.refl h0 []).trans Kc118 all0
    have N118 := Fr.app N0 Nc118
    show Ends _ _ _ _ T118 (mkF m 16 #[.val (.int p0), .val (.int p1), .val (.int p2), .val (.int p3), .val (.int z1), .val (.int z2), .unset, .unset, .unset, .unset, .unset, .unset, .unset, .unset] [(.ref b118)])
    refine ow_astore X118 hx (Ls' := #[.val (.int p0), .val (.int p1), .val (.int p2), .val (.int p3), .val (.int z1), .val (.int z2), .val (.ref b118), .unset, .unset, .unset, .unset, .unset, .unset, .unset]) (hb hby at_16) rfl rfl (pc' := 18) rfl ?_
    rcases (show z2.toInt = 0 ∨ z2.toInt = 1 ∨ z2.toInt = 2 ∨ z2.toInt = 3 from by omega) with hmn | hmn | hmn | hmn
    · refine ow_iload X118 hx (hb hby at_18) rfl (pc' := 20) rfl ?_
      refine ow_iloadN X118 hx (hb hby at_20) rfl (pc' := 21) rfl ?_
      refine ow_callSI X118 hx hZ hown (hw _ (List.mem_of_getElem? (i := 5) rfl)) (hw _ (List.mem_of_getElem? (i := 6) rfl)) (hw _ (List.mem_of_getElem? (i := 2) rfl)) (hw _ (List.mem_of_getElem? (i := 7) rfl)) (by decide) (rm_so0a l Z a0 hw [] hcw hch z2 p3 T118.heap n0 Zs118 (ow_zk hzk hzn K118 all0) hzn (by first | assumption | decide | omega)) (LT.warm hI0) hS0 (Nat.zero_le _) rfl 0 (by decide) (by decide) (by decide) (by decide) [(.int z2), (.int p3)] (by rw [hml]; rfl) pd_6 rfl rfl rfl (Nat.le_of_eq rfl) (hb hby at_21) (pc' := 24) rfl (fun v120 T120 L120 hQ120 X120 hS120 hZ hown => ?_)
      obtain ⟨b120, b120a, b120b, kt_120, rfl, Nc120, Kc120, P120_0, P120_1, P120_2, P120_3, P120_4, P120_5, P120_6, P120_7, hI120⟩ := hQ120
      have E_b118_120 := P118_0.keep Kc120
      have V_b118_120 := P118_1.keep Kc120 nin0
      have ne_b118_b120 : b118 ≠ b120 := Nat.ne_of_lt (Nat.lt_of_lt_of_le P118_0.lt P120_3)
      have sz_b120 : h0.size ≤ b120 := Nat.le_trans K118.1 P120_3
      have Zs120 : n0 ≤ T120.heap.size := Nat.le_trans Zs118 Kc120.1
      have K120 := K118.trans Kc120 all0
      have N120 := Fr.app N118 Nc120
      show Ends _ _ _ _ T120 (mkF m 24 #[.val (.int p0), .val (.int p1), .val (.int p2), .val (.int p3), .val (.int z1), .val (.int z2), .val (.ref b118), .unset, .unset, .unset, .unset, .unset, .unset, .unset] [(.ref b120)])
      refine ow_astore X120 hx (Ls' := #[.val (.int p0), .val (.int p1), .val (.int p2), .val (.int p3), .val (.int z1), .val (.int z2), .val (.ref b118), .val (.ref b120), .unset, .unset, .unset, .unset, .unset, .unset]) (hb hby at_24) rfl rfl (pc' := 26) rfl ?_
      refine ow_iload X120 hx (hb hby at_26) rfl (pc' := 28) rfl ?_
      refine ow_iloadN X120 hx (hb hby at_28) rfl (pc' := 29) rfl ?_
      refine ow_callSI X120 hx hZ hown (hw _ (List.mem_of_getElem? (i := 5) rfl)) (hw _ (List.mem_of_getElem? (i := 6) rfl)) (hw _ (List.mem_of_getElem? (i := 2) rfl)) (hw _ (List.mem_of_getElem? (i := 7) rfl)) (by decide) (rm_so0b l Z a0 hw [] hcw hch z2 p3 b120a b120b kt_120 T120.heap n0 Zs120 (ow_zk hzk hzn K120 all0) hzn P120_4 P120_5 P120_6 P120_7 (by first | assumption | decide | omega)) (LT.warm hI120) hS120 (Nat.le_refl _) rfl 0 (by decide) (by decide) (by decide) (by decide) [(.int z2), (.int p3)] (by rw [hml]; rfl) pd_6 rfl rfl rfl (Nat.le_of_eq rfl) (hb hby at_29) (pc' := 32) rfl (fun v121 T121 L121 hQ121 X121 hS121 hZ hown => ?_)
      obtain ⟨b121, rfl, Nc121, Kc121, P121_0, P121_1, P121_2, P121_3, hI121⟩ := hQ121
      have E_b118_121 := E_b118_120.keep Kc121
      have V_b118_121 := V_b118_120.keep Kc121 nin0
      have E_b120_121 := P120_0.keep Kc121
      have F_b120_coder_121 := P120_1.keep Kc121 nin0
      have F_b120_value_121 := P120_2.keep Kc121 nin0
      have E_b120a_121 := P120_4.keep Kc121
      have F_b120a_coder_121 := P120_5.keep Kc121 nin0
      have F_b120a_value_121 := P120_6.keep Kc121 nin0
      have V_b120b_121 := P120_7.keep Kc121 nin0
      have ne_b118_b121 : b118 ≠ b121 := Nat.ne_of_lt (Nat.lt_of_lt_of_le E_b118_120.lt P121_3)
      have ne_b120_b121 : b120 ≠ b121 := Nat.ne_of_lt (Nat.lt_of_lt_of_le P120_0.lt P121_3)
      have ne_b120a_b121 : b120a ≠ b121 := Nat.ne_of_lt (Nat.lt_of_lt_of_le P120_4.lt P121_3)
      have ne_b120b_b121 : b120b ≠ b121 := Nat.ne_of_lt (Nat.lt_of_lt_of_le P120_7.lt P121_3)
      have sz_b121 : h0.size ≤ b121 := Nat.le_trans K120.1 P121_3
      have Zs121 : n0 ≤ T121.heap.size := Nat.le_trans Zs120 Kc121.1
      have K121 := K120.trans Kc121 all0
      have N121 := Fr.app N120 Nc121
      show Ends _ _ _ _ T121 (mkF m 32 #[.val (.int p0), .val (.int p1), .val (.int p2), .val (.int p3), .val (.int z1), .val (.int z2), .val (.ref b118), .val (.ref b120), .unset, .unset, .unset, .unset, .unset, .unset] [(.ref b121)])
      refine ow_astore X121 hx (Ls' := #[.val (.int p0), .val (.int p1), .val (.int p2), .val (.int p3), .val (.int z1), .val (.int z2), .val (.ref b118), .val (.ref b120), .val (.ref b121), .unset, .unset, .unset, .unset, .unset]) (hb hby at_32) rfl rfl (pc' := 34) rfl ?_
      refine ow_aload X121 hx (hb hby at_34) rfl rfl (pc' := 36) rfl ?_
      refine ow_aload X121 hx (hb hby at_36) rfl rfl (pc' := 38) rfl ?_
      refine ow_callSI X121 hx hZ hown (hw _ (List.mem_of_getElem? (i := 37) rfl)) (hw _ (List.mem_of_getElem? (i := 38) rfl)) (hw _ (List.mem_of_getElem? (i := 39) rfl)) (hw _ (List.mem_of_getElem? (i := 40) rfl)) (by decide) (rm_repl l Z a0 hw [] hcw hch b118 b120 T121.heap n0 Zs121 (ow_zk hzk hzn K121 all0) hzn E_b118_121 E_b120_121) (fun v_ w_ => LT.weaken (LT.warm hI121 v_ w_) (by decide) (fun _ h => absurd h List.not_mem_nil)) hS121 (Nat.le_refl _) rfl 0 (by decide) (by decide) (by decide) (by decide) [(.ref b118), (.ref b120)] (by rw [hml]; rfl) pd_7 rfl rfl rfl (Nat.le_of_eq rfl) (hb hby at_38) (pc' := 41) rfl (fun v122 T122 L122 hQ122 X122 hS122 hZ hown => ?_)
      obtain ⟨b122, rfl, Nc122, Kc122, P122_0, P122_1, P122_2, P122_3⟩ := hQ122
      have E_b118_122 := E_b118_121.keep Kc122
      have V_b118_122 := V_b118_121.keep Kc122 nin0
      have E_b120_122 := E_b120_121.keep Kc122
      have F_b120_coder_122 := F_b120_coder_121.keep Kc122 nin0
      have F_b120_value_122 := F_b120_value_121.keep Kc122 nin0
      have E_b120a_122 := E_b120a_121.keep Kc122
      have F_b120a_coder_122 := F_b120a_coder_121.keep Kc122 nin0
      have F_b120a_value_122 := F_b120a_value_121.keep Kc122 nin0
      have V_b120b_122 := V_b120b_121.keep Kc122 nin0
      have E_b121_122 := P121_0.keep Kc122
      have F_b121_coder_122 := P121_1.keep Kc122 nin0
      have F_b121_value_122 := P121_2.keep Kc122 nin0
      have Zs122 : n0 ≤ T122.heap.size := Nat.le_trans Zs121 Kc122.1
      have K122 := K121.trans Kc122 all0
      have N122 := Fr.app N121 Nc122
      show Ends _ _ _ _ T122 (mkF m 41 #[.val (.int p0), .val (.int p1), .val (.int p2), .val (.int p3), .val (.int z1), .val (.int z2), .val (.ref b118), .val (.ref b120), .val (.ref b121), .unset, .unset, .unset, .unset, .unset] [(.ref b122)])
      refine ow_astore X122 hx (Ls' := #[.val (.int p0), .val (.int p1), .val (.int p2), .val (.int p3), .val (.int z1), .val (.int z2), .val (.ref b118), .val (.ref b120), .val (.ref b121), .val (.ref b122), .unset, .unset, .unset, .unset]) (hb hby at_41) rfl rfl (pc' := 43) rfl ?_
      refine ow_aload X122 hx (hb hby at_43) rfl rfl (pc' := 45) rfl ?_
      refine ow_ifnonnullY X122 hx (hb hby at_45) (by decide) (pc' := 50) (by decide) ?_
      refine ow_aload X122 hx (hb hby at_50) rfl rfl (pc' := 52) rfl ?_
      refine ow_callVPI X122 hx hZ rfl hown (hw _ (List.mem_of_getElem? (i := 64) rfl)) (hw _ (List.mem_of_getElem? (i := 65) rfl)) (hw _ (List.mem_of_getElem? (i := 67) rfl)) (hw _ (List.mem_of_getElem? (i := 66) rfl)) (hw _ (List.mem_of_getElem? (i := 39) rfl)) (hw _ (List.mem_of_getElem? (i := 68) rfl)) (by decide) (rm_refd l Z a0 hw [] b122 T122.heap P122_3) rfl 0 (by decide) (by decide) (by decide) (by decide) [] (by rw [hml]; rfl) pd_8 rfl P122_0 rfl rfl (Nat.le_of_eq rfl) (hb hby at_52) (pc' := 55) rfl (fun z123 T123 hz123 X123 e123 => ?_)
      have az123 : z123.toInt = 0 := hz123
      have rz123 := rng32 z123
      refine ow_istore X123 hx (Ls' := #[.val (.int p0), .val (.int p1), .val (.int p2), .val (.int p3), .val (.int z1), .val (.int z2), .val (.ref b118), .val (.ref b120), .val (.ref b121), .val (.ref b122), .val (.int z123), .unset, .unset, .unset]) (hb hby at_55) rfl (pc' := 57) rfl ?_
      refine ow_aload X123 hx (hb hby at_57) rfl rfl (pc' := 59) rfl ?_
      refine ow_callV X123 hx hZ rfl hown (hw _ (List.mem_of_getElem? (i := 69) rfl)) (hw _ (List.mem_of_getElem? (i := 70) rfl)) (hw _ (List.mem_of_getElem? (i := 72) rfl)) (hw _ (List.mem_of_getElem? (i := 71) rfl)) (hw _ (List.mem_of_getElem? (i := 39) rfl)) (hw _ (List.mem_of_getElem? (i := 73) rfl)) (by decide) (rm_rsB l Z a0 hw [] b122 b118 T122.heap P122_1) e123 0 (by decide) (by decide) (by decide) (by decide) [] (by rw [hml]; rfl) pd_9 rfl P122_0 rfl rfl (Nat.le_of_eq rfl) (hb hby at_59) (pc' := 62) rfl (fun v124 T124 L124 hQ124 X124 => ?_)
      obtain ⟨rfl, rfl, e124⟩ := hQ124
      rw [List.append_nil] at X124
      show Ends _ _ _ _ T124 (mkF m 62 #[.val (.int p0), .val (.int p1), .val (.int p2), .val (.int p3), .val (.int z1), .val (.int z2), .val (.ref b118), .val (.ref b120), .val (.ref b121), .val (.ref b122), .val (.int z123), .unset, .unset, .unset] [(.ref b118)])
      refine ow_astore X124 hx (Ls' := #[.val (.int p0), .val (.int p1), .val (.int p2), .val (.int p3), .val (.int z1), .val (.int z2), .val (.ref b118), .val (.ref b120), .val (.ref b121), .val (.ref b122), .val (.int z123), .val (.ref b118), .unset, .unset]) (hb hby at_62) rfl rfl (pc' := 64) rfl ?_
      refine ow_aload X124 hx (hb hby at_64) rfl rfl (pc' := 66) rfl ?_
      refine ow_callV X124 hx hZ rfl hown (hw _ (List.mem_of_getElem? (i := 74) rfl)) (hw _ (List.mem_of_getElem? (i := 75) rfl)) (hw _ (List.mem_of_getElem? (i := 77) rfl)) (hw _ (List.mem_of_getElem? (i := 76) rfl)) (hw _ (List.mem_of_getElem? (i := 39) rfl)) (hw _ (List.mem_of_getElem? (i := 78) rfl)) (by decide) (rm_rsM l Z a0 hw [] b122 b120 T122.heap P122_2) e124 0 (by decide) (by decide) (by decide) (by decide) [] (by rw [hml]; rfl) pd_10 rfl P122_0 rfl rfl (Nat.le_of_eq rfl) (hb hby at_66) (pc' := 69) rfl (fun v125 T125 L125 hQ125 X125 => ?_)
      obtain ⟨rfl, rfl, e125⟩ := hQ125
      rw [List.append_nil] at X125
      show Ends _ _ _ _ T125 (mkF m 69 #[.val (.int p0), .val (.int p1), .val (.int p2), .val (.int p3), .val (.int z1), .val (.int z2), .val (.ref b118), .val (.ref b120), .val (.ref b121), .val (.ref b122), .val (.int z123), .val (.ref b118), .unset, .unset] [(.ref b120)])
      refine ow_astore X125 hx (Ls' := #[.val (.int p0), .val (.int p1), .val (.int p2), .val (.int p3), .val (.int z1), .val (.int z2), .val (.ref b118), .val (.ref b120), .val (.ref b121), .val (.ref b122), .val (.int z123), .val (.ref b118), .val (.ref b120), .unset]) (hb hby at_69) rfl rfl (pc' := 71) rfl ?_
      refine ow_aload X125 hx (hb hby at_71) rfl rfl (pc' := 73) rfl ?_
      refine ow_callV X125 hx hZ rfl hown (hw _ (List.mem_of_getElem? (i := 79) rfl)) (hw _ (List.mem_of_getElem? (i := 80) rfl)) (hw _ (List.mem_of_getElem? (i := 82) rfl)) (hw _ (List.mem_of_getElem? (i := 81) rfl)) (hw _ (List.mem_of_getElem? (i := 39) rfl)) (hw _ (List.mem_of_getElem? (i := 83) rfl)) (by decide) (rm_rsR l Z a0 hw [] b122 T122.heap P122_3) e125 0 (by decide) (by decide) (by decide) (by decide) [] (by rw [hml]; rfl) pd_10 rfl P122_0 rfl rfl (Nat.le_of_eq rfl) (hb hby at_73) (pc' := 76) rfl (fun v126 T126 L126 hQ126 X126 => ?_)
      obtain ⟨rfl, rfl, e126⟩ := hQ126
      rw [List.append_nil] at X126
      show Ends _ _ _ _ T126 (mkF m 76 #[.val (.int p0), .val (.int p1), .val (.int p2), .val (.int p3), .val (.int z1), .val (.int z2), .val (.ref b118), .val (.ref b120), .val (.ref b121), .val (.ref b122), .val (.int z123), .val (.ref b118), .val (.ref b120), .unset] [.null])
      refine ow_astore X126 hx (Ls' := #[.val (.int p0), .val (.int p1), .val (.int p2), .val (.int p3), .val (.int z1), .val (.int z2), .val (.ref b118), .val (.ref b120), .val (.ref b121), .val (.ref b122), .val (.int z123), .val (.ref b118), .val (.ref b120), .val .null]) (hb hby at_76) rfl rfl (pc' := 78) rfl ?_
      refine ow_iload X126 hx (hb hby at_78) rfl (pc' := 80) rfl ?_
      refine ow_if_ne X126 hx (z123.toInt) (hb hby at_80) rfl (by decide) (pt := 118) (by decide) (pf := 83) rfl (fun c80 => absurd c80 (by omega)) (fun c80 => ?_)
      refine ow_aload X126 hx (hb hby at_83) rfl rfl (pc' := 85) rfl ?_
      refine ow_ifnonnullN X126 hx (hb hby at_85) (pc' := 88) rfl ?_
      refine ow_aload X126 hx (hb hby at_88) rfl rfl (pc' := 90) rfl ?_
      refine ow_iload X126 hx (hb hby at_90) rfl (pc' := 92) rfl ?_
      refine ow_iloadN X126 hx (hb hby at_92) rfl (pc' := 93) rfl ?_
      refine ow_callPI X126 hx hZ hown (hw _ (List.mem_of_getElem? (i := 84) rfl)) (hw _ (List.mem_of_getElem? (i := 85) rfl)) (hw _ (List.mem_of_getElem? (i := 2) rfl)) (hw _ (List.mem_of_getElem? (i := 86) rfl)) (by decide) (rm_sam3 l Z a0 hw [] b118 z1 p1 kw_118 y0_118 y1_118 y2_118 T122.heap V_b118_122 (by first | assumption | decide | omega) (by first | assumption | decide | omega)) e126 0 (by decide) (by decide) (by decide) (by decide) [(.ref b118), (.int z1), (.int p1)] (by rw [hml]; rfl) pd_11 rfl rfl rfl (Nat.le_of_eq rfl) (hb hby at_93) (pc' := 96) rfl (fun z127 T127 hz127 X127 e127 => ?_)
      have az127 : z127.toInt = 1 := hz127
      have rz127 := rng32 z127
      refine ow_if_eq X127 hx (z127.toInt) (hb hby at_96) rfl (by decide) (pt := 118) (by decide) (pf := 99) rfl (fun c96 => absurd c96 (by omega)) (fun c96 => ?_)
      refine ow_aload X127 hx (hb hby at_99) rfl rfl (pc' := 101) rfl ?_
      refine ow_ifnullN X127 hx (hb hby at_101) (pc' := 104) rfl ?_
      refine ow_aload X127 hx (hb hby at_104) rfl rfl (pc' := 106) rfl ?_
      refine ow_aload X127 hx (hb hby at_106) rfl rfl (pc' := 108) rfl ?_
      refine ow_callVPI X127 hx hZ rfl hown (hw _ (List.mem_of_getElem? (i := 87) rfl)) (hw _ (List.mem_of_getElem? (i := 88) rfl)) (hw _ (List.mem_of_getElem? (i := 90) rfl)) (hw _ (List.mem_of_getElem? (i := 89) rfl)) (hw _ (List.mem_of_getElem? (i := 10) rfl)) (hw _ (List.mem_of_getElem? (i := 91) rfl)) (by decide) (rm_eqs0 l Z a0 hw [] b120 b121 zc b120b b120b kt_120 kt_120 T122.heap (ow_staKeep S_cs K122 all0) (by first | assumption | decide | omega) E_b120_122 F_b120_coder_122 F_b120_value_122 E_b121_122 F_b121_coder_122 F_b121_value_122 V_b120b_122 V_b120b_122 ne_b120_b121) e127 0 (by decide) (by decide) (by decide) (by decide) [(.ref b121)] (by rw [hml]; rfl) pd_12 rfl E_b120_122 rfl rfl (Nat.le_of_eq rfl) (hb hby at_108) (pc' := 111) rfl (fun z128 T128 hz128 X128 e128 => ?_)
      have az128 : z128.toInt = 1 := hz128
      have rz128 := rng32 z128
      refine ow_if_eq X128 hx (z128.toInt) (hb hby at_111) rfl (by decide) (pt := 118) (by decide) (pf := 114) rfl (fun c111 => absurd c111 (by omega)) (fun c111 => ?_)
      refine ow_iconst X128 hx (z := (1 : Int32)) (hb hby at_114) rfl (pc' := 115) rfl ?_
      refine ow_goto X128 hx (hb hby at_115) (by decide) (pc' := 119) (by decide) ?_
      exact ow_retBI X128 hx hret hlk (hb hby at_119) hS122 (by rw [e128]; exact (Nat.le_refl _)) (by decide) (by decide) (z' := (1 : Int32)) rfl ⟨rfl, N122⟩
    · refine ow_iload X118 hx (hb hby at_18) rfl (pc' := 20) rfl ?_
      refine ow_iloadN X118 hx (hb hby at_20) rfl (pc' := 21) rfl ?_
      refine ow_callS X118 hx hZ hown (hw _ (List.mem_of_getElem? (i := 5) rfl)) (hw _ (List.mem_of_getElem? (i := 6) rfl)) (hw _ (List.mem_of_getElem? (i := 2) rfl)) (hw _ (List.mem_of_getElem? (i := 7) rfl)) (by decide) (rm_so1 l Z a0 hw [] z2 p3 zc T118.heap n0 Zs118 (ow_staKeep S_cs K118 all0) (by first | assumption | decide | omega) (by first | assumption | decide | omega)) rfl 0 (by decide) (by decide) (by decide) (by decide) [(.int z2), (.int p3)] (by rw [hml]; rfl) pd_6 rfl rfl rfl (Nat.le_of_eq rfl) (hb hby at_21) (pc' := 24) rfl (fun v129 T129 L129 hQ129 X129 => ?_)
      obtain ⟨b129, b129a, kt_129, x0_129, rfl, Nc129, Kc129, P129_0, P129_1, P129_2, P129_3, P129_4, P129_5, P129_6⟩ := hQ129
      have P129_6 : ((x0_129.toInt - p3.toInt) % 256 = 0 ∧ -128 ≤ x0_129.toInt ∧ x0_129.toInt < 128) := P129_6
      have E_b118_129 := P118_0.keep Kc129
      have V_b118_129 := P118_1.keep Kc129 nin0
      have ne_b118_b129 : b118 ≠ b129 := Nat.ne_of_lt (Nat.lt_of_lt_of_le P118_0.lt P129_4)
      have sz_b129 : h0.size ≤ b129 := Nat.le_trans K118.1 P129_4
      have ne_b118_b129a : b118 ≠ b129a := Nat.ne_of_lt (Nat.lt_of_lt_of_le P118_0.lt P129_5)
      have sz_b129a : h0.size ≤ b129a := Nat.le_trans K118.1 P129_5
      have Zs129 : n0 ≤ T129.heap.size := Nat.le_trans Zs118 Kc129.1
      have K129 := K118.trans Kc129 all0
      have N129 := Fr.app N118 Nc129
      show Ends _ _ _ _ T129 (mkF m 24 #[.val (.int p0), .val (.int p1), .val (.int p2), .val (.int p3), .val (.int z1), .val (.int z2), .val (.ref b118), .unset, .unset, .unset, .unset, .unset, .unset, .unset] [(.ref b129)])
      refine ow_astore X129 hx (Ls' := #[.val (.int p0), .val (.int p1), .val (.int p2), .val (.int p3), .val (.int z1), .val (.int z2), .val (.ref b118), .val (.ref b129), .unset, .unset, .unset, .unset, .unset, .unset]) (hb hby at_24) rfl rfl (pc' := 26) rfl ?_
      refine ow_iload X129 hx (hb hby at_26) rfl (pc' := 28) rfl ?_
      refine ow_iloadN X129 hx (hb hby at_28) rfl (pc' := 29) rfl ?_
      refine ow_callS X129 hx hZ hown (hw _ (List.mem_of_getElem? (i := 5) rfl)) (hw _ (List.mem_of_getElem? (i := 6) rfl)) (hw _ (List.mem_of_getElem? (i := 2) rfl)) (hw _ (List.mem_of_getElem? (i := 7) rfl)) (by decide) (rm_so1 l Z a0 hw [] z2 p3 zc T129.heap n0 Zs129 (ow_staKeep S_cs K129 all0) (by first | assumption | decide | omega) (by first | assumption | decide | omega)) rfl 0 (by decide) (by decide) (by decide) (by decide) [(.int z2), (.int p3)] (by rw [hml]; rfl) pd_6 rfl rfl rfl (Nat.le_of_eq rfl) (hb hby at_29) (pc' := 32) rfl (fun v130 T130 L130 hQ130 X130 => ?_)
      obtain ⟨b130, b130a, kt_130, x0_130, rfl, Nc130, Kc130, P130_0, P130_1, P130_2, P130_3, P130_4, P130_5, P130_6⟩ := hQ130
      have P130_6 : ((x0_130.toInt - p3.toInt) % 256 = 0 ∧ -128 ≤ x0_130.toInt ∧ x0_130.toInt < 128) := P130_6
      have E_b118_130 := E_b118_129.keep Kc130
      have V_b118_130 := V_b118_129.keep Kc130 nin0
      have E_b129_130 := P129_0.keep Kc130
      have F_b129_coder_130 := P129_1.keep Kc130 nin0
      have F_b129_value_130 := P129_2.keep Kc130 nin0
      have V_b129a_130 := P129_3.keep Kc130 nin0
      have ne_b118_b130 : b118 ≠ b130 := Nat.ne_of_lt (Nat.lt_of_lt_of_le E_b118_129.lt P130_4)
      have ne_b129_b130 : b129 ≠ b130 := Nat.ne_of_lt (Nat.lt_of_lt_of_le P129_0.lt P130_4)
      have ne_b129a_b130 : b129a ≠ b130 := Nat.ne_of_lt (Nat.lt_of_lt_of_le P129_3.lt P130_4)
      have sz_b130 : h0.size ≤ b130 := Nat.le_trans K129.1 P130_4
      have ne_b118_b130a : b118 ≠ b130a := Nat.ne_of_lt (Nat.lt_of_lt_of_le E_b118_129.lt P130_5)
      have ne_b129_b130a : b129 ≠ b130a := Nat.ne_of_lt (Nat.lt_of_lt_of_le P129_0.lt P130_5)
      have ne_b129a_b130a : b129a ≠ b130a := Nat.ne_of_lt (Nat.lt_of_lt_of_le P129_3.lt P130_5)
      have sz_b130a : h0.size ≤ b130a := Nat.le_trans K129.1 P130_5
      have Zs130 : n0 ≤ T130.heap.size := Nat.le_trans Zs129 Kc130.1
      have K130 := K129.trans Kc130 all0
      have N130 := Fr.app N129 Nc130
      show Ends _ _ _ _ T130 (mkF m 32 #[.val (.int p0), .val (.int p1), .val (.int p2), .val (.int p3), .val (.int z1), .val (.int z2), .val (.ref b118), .val (.ref b129), .unset, .unset, .unset, .unset, .unset, .unset] [(.ref b130)])
      refine ow_astore X130 hx (Ls' := #[.val (.int p0), .val (.int p1), .val (.int p2), .val (.int p3), .val (.int z1), .val (.int z2), .val (.ref b118), .val (.ref b129), .val (.ref b130), .unset, .unset, .unset, .unset, .unset]) (hb hby at_32) rfl rfl (pc' := 34) rfl ?_
      refine ow_aload X130 hx (hb hby at_34) rfl rfl (pc' := 36) rfl ?_
      refine ow_aload X130 hx (hb hby at_36) rfl rfl (pc' := 38) rfl ?_
      refine ow_callSI X130 hx hZ hown (hw _ (List.mem_of_getElem? (i := 37) rfl)) (hw _ (List.mem_of_getElem? (i := 38) rfl)) (hw _ (List.mem_of_getElem? (i := 39) rfl)) (hw _ (List.mem_of_getElem? (i := 40) rfl)) (by decide) (rm_repl l Z a0 hw [] hcw hch b118 b129 T130.heap n0 Zs130 (ow_zk hzk hzn K130 all0) hzn E_b118_130 E_b129_130) (fun v_ w_ => LT.weaken (LT.warm hI0 v_ w_) (by decide) (fun _ h => absurd h List.not_mem_nil)) hS0 (Nat.zero_le _) rfl 0 (by decide) (by decide) (by decide) (by decide) [(.ref b118), (.ref b129)] (by rw [hml]; rfl) pd_7 rfl rfl rfl (Nat.le_of_eq rfl) (hb hby at_38) (pc' := 41) rfl (fun v131 T131 L131 hQ131 X131 hS131 hZ hown => ?_)
      obtain ⟨b131, rfl, Nc131, Kc131, P131_0, P131_1, P131_2, P131_3⟩ := hQ131
      have E_b118_131 := E_b118_130.keep Kc131
      have V_b118_131 := V_b118_130.keep Kc131 nin0
      have E_b129_131 := E_b129_130.keep Kc131
      have F_b129_coder_131 := F_b129_coder_130.keep Kc131 nin0
      have F_b129_value_131 := F_b129_value_130.keep Kc131 nin0
      have V_b129a_131 := V_b129a_130.keep Kc131 nin0
      have E_b130_131 := P130_0.keep Kc131
      have F_b130_coder_131 := P130_1.keep Kc131 nin0
      have F_b130_value_131 := P130_2.keep Kc131 nin0
      have V_b130a_131 := P130_3.keep Kc131 nin0
      have Zs131 : n0 ≤ T131.heap.size := Nat.le_trans Zs130 Kc131.1
      have K131 := K130.trans Kc131 all0
      have N131 := Fr.app N130 Nc131
      show Ends _ _ _ _ T131 (mkF m 41 #[.val (.int p0), .val (.int p1), .val (.int p2), .val (.int p3), .val (.int z1), .val (.int z2), .val (.ref b118), .val (.ref b129), .val (.ref b130), .unset, .unset, .unset, .unset, .unset] [(.ref b131)])
      refine ow_astore X131 hx (Ls' := #[.val (.int p0), .val (.int p1), .val (.int p2), .val (.int p3), .val (.int z1), .val (.int z2), .val (.ref b118), .val (.ref b129), .val (.ref b130), .val (.ref b131), .unset, .unset, .unset, .unset]) (hb hby at_41) rfl rfl (pc' := 43) rfl ?_
      refine ow_aload X131 hx (hb hby at_43) rfl rfl (pc' := 45) rfl ?_
      refine ow_ifnonnullY X131 hx (hb hby at_45) (by decide) (pc' := 50) (by decide) ?_
      refine ow_aload X131 hx (hb hby at_50) rfl rfl (pc' := 52) rfl ?_
      refine ow_callVPI X131 hx hZ rfl hown (hw _ (List.mem_of_getElem? (i := 64) rfl)) (hw _ (List.mem_of_getElem? (i := 65) rfl)) (hw _ (List.mem_of_getElem? (i := 67) rfl)) (hw _ (List.mem_of_getElem? (i := 66) rfl)) (hw _ (List.mem_of_getElem? (i := 39) rfl)) (hw _ (List.mem_of_getElem? (i := 68) rfl)) (by decide) (rm_refd l Z a0 hw [] b131 T131.heap P131_3) rfl 0 (by decide) (by decide) (by decide) (by decide) [] (by rw [hml]; rfl) pd_8 rfl P131_0 rfl rfl (Nat.le_of_eq rfl) (hb hby at_52) (pc' := 55) rfl (fun z132 T132 hz132 X132 e132 => ?_)
      have az132 : z132.toInt = 0 := hz132
      have rz132 := rng32 z132
      refine ow_istore X132 hx (Ls' := #[.val (.int p0), .val (.int p1), .val (.int p2), .val (.int p3), .val (.int z1), .val (.int z2), .val (.ref b118), .val (.ref b129), .val (.ref b130), .val (.ref b131), .val (.int z132), .unset, .unset, .unset]) (hb hby at_55) rfl (pc' := 57) rfl ?_
      refine ow_aload X132 hx (hb hby at_57) rfl rfl (pc' := 59) rfl ?_
      refine ow_callV X132 hx hZ rfl hown (hw _ (List.mem_of_getElem? (i := 69) rfl)) (hw _ (List.mem_of_getElem? (i := 70) rfl)) (hw _ (List.mem_of_getElem? (i := 72) rfl)) (hw _ (List.mem_of_getElem? (i := 71) rfl)) (hw _ (List.mem_of_getElem? (i := 39) rfl)) (hw _ (List.mem_of_getElem? (i := 73) rfl)) (by decide) (rm_rsB l Z a0 hw [] b131 b118 T131.heap P131_1) e132 0 (by decide) (by decide) (by decide) (by decide) [] (by rw [hml]; rfl) pd_9 rfl P131_0 rfl rfl (Nat.le_of_eq rfl) (hb hby at_59) (pc' := 62) rfl (fun v133 T133 L133 hQ133 X133 => ?_)
      obtain ⟨rfl, rfl, e133⟩ := hQ133
      rw [List.append_nil] at X133
      show Ends _ _ _ _ T133 (mkF m 62 #[.val (.int p0), .val (.int p1), .val (.int p2), .val (.int p3), .val (.int z1), .val (.int z2), .val (.ref b118), .val (.ref b129), .val (.ref b130), .val (.ref b131), .val (.int z132), .unset, .unset, .unset] [(.ref b118)])
      refine ow_astore X133 hx (Ls' := #[.val (.int p0), .val (.int p1), .val (.int p2), .val (.int p3), .val (.int z1), .val (.int z2), .val (.ref b118), .val (.ref b129), .val (.ref b130), .val (.ref b131), .val (.int z132), .val (.ref b118), .unset, .unset]) (hb hby at_62) rfl rfl (pc' := 64) rfl ?_
      refine ow_aload X133 hx (hb hby at_64) rfl rfl (pc' := 66) rfl ?_
      refine ow_callV X133 hx hZ rfl hown (hw _ (List.mem_of_getElem? (i := 74) rfl)) (hw _ (List.mem_of_getElem? (i := 75) rfl)) (hw _ (List.mem_of_getElem? (i := 77) rfl)) (hw _ (List.mem_of_getElem? (i := 76) rfl)) (hw _ (List.mem_of_getElem? (i := 39) rfl)) (hw _ (List.mem_of_getElem? (i := 78) rfl)) (by decide) (rm_rsM l Z a0 hw [] b131 b129 T131.heap P131_2) e133 0 (by decide) (by decide) (by decide) (by decide) [] (by rw [hml]; rfl) pd_10 rfl P131_0 rfl rfl (Nat.le_of_eq rfl) (hb hby at_66) (pc' := 69) rfl (fun v134 T134 L134 hQ134 X134 => ?_)
      obtain ⟨rfl, rfl, e134⟩ := hQ134
      rw [List.append_nil] at X134
      show Ends _ _ _ _ T134 (mkF m 69 #[.val (.int p0), .val (.int p1), .val (.int p2), .val (.int p3), .val (.int z1), .val (.int z2), .val (.ref b118), .val (.ref b129), .val (.ref b130), .val (.ref b131), .val (.int z132), .val (.ref b118), .unset, .unset] [(.ref b129)])
      refine ow_astore X134 hx (Ls' := #[.val (.int p0), .val (.int p1), .val (.int p2), .val (.int p3), .val (.int z1), .val (.int z2), .val (.ref b118), .val (.ref b129), .val (.ref b130), .val (.ref b131), .val (.int z132), .val (.ref b118), .val (.ref b129), .unset]) (hb hby at_69) rfl rfl (pc' := 71) rfl ?_
      refine ow_aload X134 hx (hb hby at_71) rfl rfl (pc' := 73) rfl ?_
      refine ow_callV X134 hx hZ rfl hown (hw _ (List.mem_of_getElem? (i := 79) rfl)) (hw _ (List.mem_of_getElem? (i := 80) rfl)) (hw _ (List.mem_of_getElem? (i := 82) rfl)) (hw _ (List.mem_of_getElem? (i := 81) rfl)) (hw _ (List.mem_of_getElem? (i := 39) rfl)) (hw _ (List.mem_of_getElem? (i := 83) rfl)) (by decide) (rm_rsR l Z a0 hw [] b131 T131.heap P131_3) e134 0 (by decide) (by decide) (by decide) (by decide) [] (by rw [hml]; rfl) pd_10 rfl P131_0 rfl rfl (Nat.le_of_eq rfl) (hb hby at_73) (pc' := 76) rfl (fun v135 T135 L135 hQ135 X135 => ?_)
      obtain ⟨rfl, rfl, e135⟩ := hQ135
      rw [List.append_nil] at X135
      show Ends _ _ _ _ T135 (mkF m 76 #[.val (.int p0), .val (.int p1), .val (.int p2), .val (.int p3), .val (.int z1), .val (.int z2), .val (.ref b118), .val (.ref b129), .val (.ref b130), .val (.ref b131), .val (.int z132), .val (.ref b118), .val (.ref b129), .unset] [.null])
      refine ow_astore X135 hx (Ls' := #[.val (.int p0), .val (.int p1), .val (.int p2), .val (.int p3), .val (.int z1), .val (.int z2), .val (.ref b118), .val (.ref b129), .val (.ref b130), .val (.ref b131), .val (.int z132), .val (.ref b118), .val (.ref b129), .val .null]) (hb hby at_76) rfl rfl (pc' := 78) rfl ?_
      refine ow_iload X135 hx (hb hby at_78) rfl (pc' := 80) rfl ?_
      refine ow_if_ne X135 hx (z132.toInt) (hb hby at_80) rfl (by decide) (pt := 118) (by decide) (pf := 83) rfl (fun c80 => absurd c80 (by omega)) (fun c80 => ?_)
      refine ow_aload X135 hx (hb hby at_83) rfl rfl (pc' := 85) rfl ?_
      refine ow_ifnonnullN X135 hx (hb hby at_85) (pc' := 88) rfl ?_
      refine ow_aload X135 hx (hb hby at_88) rfl rfl (pc' := 90) rfl ?_
      refine ow_iload X135 hx (hb hby at_90) rfl (pc' := 92) rfl ?_
      refine ow_iloadN X135 hx (hb hby at_92) rfl (pc' := 93) rfl ?_
      refine ow_callPI X135 hx hZ hown (hw _ (List.mem_of_getElem? (i := 84) rfl)) (hw _ (List.mem_of_getElem? (i := 85) rfl)) (hw _ (List.mem_of_getElem? (i := 2) rfl)) (hw _ (List.mem_of_getElem? (i := 86) rfl)) (by decide) (rm_sam3 l Z a0 hw [] b118 z1 p1 kw_118 y0_118 y1_118 y2_118 T131.heap V_b118_131 (by first | assumption | decide | omega) (by first | assumption | decide | omega)) e135 0 (by decide) (by decide) (by decide) (by decide) [(.ref b118), (.int z1), (.int p1)] (by rw [hml]; rfl) pd_11 rfl rfl rfl (Nat.le_of_eq rfl) (hb hby at_93) (pc' := 96) rfl (fun z136 T136 hz136 X136 e136 => ?_)
      have az136 : z136.toInt = 1 := hz136
      have rz136 := rng32 z136
      refine ow_if_eq X136 hx (z136.toInt) (hb hby at_96) rfl (by decide) (pt := 118) (by decide) (pf := 99) rfl (fun c96 => absurd c96 (by omega)) (fun c96 => ?_)
      refine ow_aload X136 hx (hb hby at_99) rfl rfl (pc' := 101) rfl ?_
      refine ow_ifnullN X136 hx (hb hby at_101) (pc' := 104) rfl ?_
      refine ow_aload X136 hx (hb hby at_104) rfl rfl (pc' := 106) rfl ?_
      refine ow_aload X136 hx (hb hby at_106) rfl rfl (pc' := 108) rfl ?_
      refine ow_callVPI X136 hx hZ rfl hown (hw _ (List.mem_of_getElem? (i := 87) rfl)) (hw _ (List.mem_of_getElem? (i := 88) rfl)) (hw _ (List.mem_of_getElem? (i := 90) rfl)) (hw _ (List.mem_of_getElem? (i := 89) rfl)) (hw _ (List.mem_of_getElem? (i := 10) rfl)) (hw _ (List.mem_of_getElem? (i := 91) rfl)) (by decide) (rm_eqs1 l Z a0 hw [] b129 b130 zc b129a b130a kt_129 kt_130 x0_129 x0_130 T131.heap (ow_staKeep S_cs K131 all0) (by first | assumption | decide | omega) E_b129_131 F_b129_coder_131 F_b129_value_131 E_b130_131 F_b130_coder_131 F_b130_value_131 V_b129a_131 V_b130a_131 ne_b129_b130 (by first | assumption | decide | omega)) e136 0 (by decide) (by decide) (by decide) (by decide) [(.ref b130)] (by rw [hml]; rfl) pd_12 rfl E_b129_131 rfl rfl (Nat.le_of_eq rfl) (hb hby at_108) (pc' := 111) rfl (fun z137 T137 hz137 X137 e137 => ?_)
      have az137 : z137.toInt = 1 := hz137
      have rz137 := rng32 z137
      refine ow_if_eq X137 hx (z137.toInt) (hb hby at_111) rfl (by decide) (pt := 118) (by decide) (pf := 114) rfl (fun c111 => absurd c111 (by omega)) (fun c111 => ?_)
      refine ow_iconst X137 hx (z := (1 : Int32)) (hb hby at_114) rfl (pc' := 115) rfl ?_
      refine ow_goto X137 hx (hb hby at_115) (by decide) (pc' := 119) (by decide) ?_
      exact ow_retBI X137 hx hret hlk (hb hby at_119) hS131 (by rw [e137]; exact (Nat.le_refl _)) (by decide) (by decide) (z' := (1 : Int32)) rfl ⟨rfl, N131⟩
    · refine ow_iload X118 hx (hb hby at_18) rfl (pc' := 20) rfl ?_
      refine ow_iloadN X118 hx (hb hby at_20) rfl (pc' := 21) rfl ?_
      refine ow_callS X118 hx hZ hown (hw _ (List.mem_of_getElem? (i := 5) rfl)) (hw _ (List.mem_of_getElem? (i := 6) rfl)) (hw _ (List.mem_of_getElem? (i := 2) rfl)) (hw _ (List.mem_of_getElem? (i := 7) rfl)) (by decide) (rm_so2 l Z a0 hw [] z2 p3 zc T118.heap n0 Zs118 (ow_staKeep S_cs K118 all0) (by first | assumption | decide | omega) (by first | assumption | decide | omega)) rfl 0 (by decide) (by decide) (by decide) (by decide) [(.int z2), (.int p3)] (by rw [hml]; rfl) pd_6 rfl rfl rfl (Nat.le_of_eq rfl) (hb hby at_21) (pc' := 24) rfl (fun v138 T138 L138 hQ138 X138 => ?_)
      obtain ⟨b138, b138a, kt_138, x0_138, x1_138, rfl, Nc138, Kc138, P138_0, P138_1, P138_2, P138_3, P138_4, P138_5, P138_6⟩ := hQ138
      have P138_6 : ((x0_138.toInt - p3.toInt) % 256 = 0 ∧ -128 ≤ x0_138.toInt ∧ x0_138.toInt < 128) ∧ ((x1_138.toInt - (p3.toInt % 4294967296) / 256) % 256 = 0 ∧ -128 ≤ x1_138.toInt ∧ x1_138.toInt < 128) := P138_6
      have E_b118_138 := P118_0.keep Kc138
      have V_b118_138 := P118_1.keep Kc138 nin0
      have ne_b118_b138 : b118 ≠ b138 := Nat.ne_of_lt (Nat.lt_of_lt_of_le P118_0.lt P138_4)
      have sz_b138 : h0.size ≤ b138 := Nat.le_trans K118.1 P138_4
      have ne_b118_b138a : b118 ≠ b138a := Nat.ne_of_lt (Nat.lt_of_lt_of_le P118_0.lt P138_5)
      have sz_b138a : h0.size ≤ b138a := Nat.le_trans K118.1 P138_5
      have Zs138 : n0 ≤ T138.heap.size := Nat.le_trans Zs118 Kc138.1
      have K138 := K118.trans Kc138 all0
      have N138 := Fr.app N118 Nc138
      show Ends _ _ _ _ T138 (mkF m 24 #[.val (.int p0), .val (.int p1), .val (.int p2), .val (.int p3), .val (.int z1), .val (.int z2), .val (.ref b118), .unset, .unset, .unset, .unset, .unset, .unset, .unset] [(.ref b138)])
      refine ow_astore X138 hx (Ls' := #[.val (.int p0), .val (.int p1), .val (.int p2), .val (.int p3), .val (.int z1), .val (.int z2), .val (.ref b118), .val (.ref b138), .unset, .unset, .unset, .unset, .unset, .unset]) (hb hby at_24) rfl rfl (pc' := 26) rfl ?_
      refine ow_iload X138 hx (hb hby at_26) rfl (pc' := 28) rfl ?_
      refine ow_iloadN X138 hx (hb hby at_28) rfl (pc' := 29) rfl ?_
      refine ow_callS X138 hx hZ hown (hw _ (List.mem_of_getElem? (i := 5) rfl)) (hw _ (List.mem_of_getElem? (i := 6) rfl)) (hw _ (List.mem_of_getElem? (i := 2) rfl)) (hw _ (List.mem_of_getElem? (i := 7) rfl)) (by decide) (rm_so2 l Z a0 hw [] z2 p3 zc T138.heap n0 Zs138 (ow_staKeep S_cs K138 all0) (by first | assumption | decide | omega) (by first | assumption | decide | omega)) rfl 0 (by decide) (by decide) (by decide) (by decide) [(.int z2), (.int p3)] (by rw [hml]; rfl) pd_6 rfl rfl rfl (Nat.le_of_eq rfl) (hb hby at_29) (pc' := 32) rfl (fun v139 T139 L139 hQ139 X139 => ?_)
      obtain ⟨b139, b139a, kt_139, x0_139, x1_139, rfl, Nc139, Kc139, P139_0, P139_1, P139_2, P139_3, P139_4, P139_5, P139_6⟩ := hQ139
      have P139_6 : ((x0_139.toInt - p3.toInt) % 256 = 0 ∧ -128 ≤ x0_139.toInt ∧ x0_139.toInt < 128) ∧ ((x1_139.toInt - (p3.toInt % 4294967296) / 256) % 256 = 0 ∧ -128 ≤ x1_139.toInt ∧ x1_139.toInt < 128) := P139_6
      have E_b118_139 := E_b118_138.keep Kc139
      have V_b118_139 := V_b118_138.keep Kc139 nin0
      have E_b138_139 := P138_0.keep Kc139
      have F_b138_coder_139 := P138_1.keep Kc139 nin0
      have F_b138_value_139 := P138_2.keep Kc139 nin0
      have V_b138a_139 := P138_3.keep Kc139 nin0
      have ne_b118_b139 : b118 ≠ b139 := Nat.ne_of_lt (Nat.lt_of_lt_of_le E_b118_138.lt P139_4)
      have ne_b138_b139 : b138 ≠ b139 := Nat.ne_of_lt (Nat.lt_of_lt_of_le P138_0.lt P139_4)
      have ne_b138a_b139 : b138a ≠ b139 := Nat.ne_of_lt (Nat.lt_of_lt_of_le P138_3.lt P139_4)
      have sz_b139 : h0.size ≤ b139 := Nat.le_trans K138.1 P139_4
      have ne_b118_b139a : b118 ≠ b139a := Nat.ne_of_lt (Nat.lt_of_lt_of_le E_b118_138.lt P139_5)
      have ne_b138_b139a : b138 ≠ b139a := Nat.ne_of_lt (Nat.lt_of_lt_of_le P138_0.lt P139_5)
      have ne_b138a_b139a : b138a ≠ b139a := Nat.ne_of_lt (Nat.lt_of_lt_of_le P138_3.lt P139_5)
      have sz_b139a : h0.size ≤ b139a := Nat.le_trans K138.1 P139_5
      have Zs139 : n0 ≤ T139.heap.size := Nat.le_trans Zs138 Kc139.1
      have K139 := K138.trans Kc139 all0
      have N139 := Fr.app N138 Nc139
      show Ends _ _ _ _ T139 (mkF m 32 #[.val (.int p0), .val (.int p1), .val (.int p2), .val (.int p3), .val (.int z1), .val (.int z2), .val (.ref b118), .val (.ref b138), .unset, .unset, .unset, .unset, .unset, .unset] [(.ref b139)])
      refine ow_astore X139 hx (Ls' := #[.val (.int p0), .val (.int p1), .val (.int p2), .val (.int p3), .val (.int z1), .val (.int z2), .val (.ref b118), .val (.ref b138), .val (.ref b139), .unset, .unset, .unset, .unset, .unset]) (hb hby at_32) rfl rfl (pc' := 34) rfl ?_
      refine ow_aload X139 hx (hb hby at_34) rfl rfl (pc' := 36) rfl ?_
      refine ow_aload X139 hx (hb hby at_36) rfl rfl (pc' := 38) rfl ?_
      refine ow_callSI X139 hx hZ hown (hw _ (List.mem_of_getElem? (i := 37) rfl)) (hw _ (List.mem_of_getElem? (i := 38) rfl)) (hw _ (List.mem_of_getElem? (i := 39) rfl)) (hw _ (List.mem_of_getElem? (i := 40) rfl)) (by decide) (rm_repl l Z a0 hw [] hcw hch b118 b138 T139.heap n0 Zs139 (ow_zk hzk hzn K139 all0) hzn E_b118_139 E_b138_139) (fun v_ w_ => LT.weaken (LT.warm hI0 v_ w_) (by decide) (fun _ h => absurd h List.not_mem_nil)) hS0 (Nat.zero_le _) rfl 0 (by decide) (by decide) (by decide) (by decide) [(.ref b118), (.ref b138)] (by rw [hml]; rfl) pd_7 rfl rfl rfl (Nat.le_of_eq rfl) (hb hby at_38) (pc' := 41) rfl (fun v140 T140 L140 hQ140 X140 hS140 hZ hown => ?_)
      obtain ⟨b140, rfl, Nc140, Kc140, P140_0, P140_1, P140_2, P140_3⟩ := hQ140
      have E_b118_140 := E_b118_139.keep Kc140
      have V_b118_140 := V_b118_139.keep Kc140 nin0
      have E_b138_140 := E_b138_139.keep Kc140
      have F_b138_coder_140 := F_b138_coder_139.keep Kc140 nin0
      have F_b138_value_140 := F_b138_value_139.keep Kc140 nin0
      have V_b138a_140 := V_b138a_139.keep Kc140 nin0
      have E_b139_140 := P139_0.keep Kc140
      have F_b139_coder_140 := P139_1.keep Kc140 nin0
      have F_b139_value_140 := P139_2.keep Kc140 nin0
      have V_b139a_140 := P139_3.keep Kc140 nin0
      have Zs140 : n0 ≤ T140.heap.size := Nat.le_trans Zs139 Kc140.1
      have K140 := K139.trans Kc140 all0
      have N140 := Fr.app N139 Nc140
      show Ends _ _ _ _ T140 (mkF m 41 #[.val (.int p0), .val (.int p1), .val (.int p2), .val (.int p3), .val (.int z1), .val (.int z2), .val (.ref b118), .val (.ref b138), .val (.ref b139), .unset, .unset, .unset, .unset, .unset] [(.ref b140)])
      refine ow_astore X140 hx (Ls' := #[.val (.int p0), .val (.int p1), .val (.int p2), .val (.int p3), .val (.int z1), .val (.int z2), .val (.ref b118), .val (.ref b138), .val (.ref b139), .val (.ref b140), .unset, .unset, .unset, .unset]) (hb hby at_41) rfl rfl (pc' := 43) rfl ?_
      refine ow_aload X140 hx (hb hby at_43) rfl rfl (pc' := 45) rfl ?_
      refine ow_ifnonnullY X140 hx (hb hby at_45) (by decide) (pc' := 50) (by decide) ?_
      refine ow_aload X140 hx (hb hby at_50) rfl rfl (pc' := 52) rfl ?_
      refine ow_callVPI X140 hx hZ rfl hown (hw _ (List.mem_of_getElem? (i := 64) rfl)) (hw _ (List.mem_of_getElem? (i := 65) rfl)) (hw _ (List.mem_of_getElem? (i := 67) rfl)) (hw _ (List.mem_of_getElem? (i := 66) rfl)) (hw _ (List.mem_of_getElem? (i := 39) rfl)) (hw _ (List.mem_of_getElem? (i := 68) rfl)) (by decide) (rm_refd l Z a0 hw [] b140 T140.heap P140_3) rfl 0 (by decide) (by decide) (by decide) (by decide) [] (by rw [hml]; rfl) pd_8 rfl P140_0 rfl rfl (Nat.le_of_eq rfl) (hb hby at_52) (pc' := 55) rfl (fun z141 T141 hz141 X141 e141 => ?_)
      have az141 : z141.toInt = 0 := hz141
      have rz141 := rng32 z141
      refine ow_istore X141 hx (Ls' := #[.val (.int p0), .val (.int p1), .val (.int p2), .val (.int p3), .val (.int z1), .val (.int z2), .val (.ref b118), .val (.ref b138), .val (.ref b139), .val (.ref b140), .val (.int z141), .unset, .unset, .unset]) (hb hby at_55) rfl (pc' := 57) rfl ?_
      refine ow_aload X141 hx (hb hby at_57) rfl rfl (pc' := 59) rfl ?_
      refine ow_callV X141 hx hZ rfl hown (hw _ (List.mem_of_getElem? (i := 69) rfl)) (hw _ (List.mem_of_getElem? (i := 70) rfl)) (hw _ (List.mem_of_getElem? (i := 72) rfl)) (hw _ (List.mem_of_getElem? (i := 71) rfl)) (hw _ (List.mem_of_getElem? (i := 39) rfl)) (hw _ (List.mem_of_getElem? (i := 73) rfl)) (by decide) (rm_rsB l Z a0 hw [] b140 b118 T140.heap P140_1) e141 0 (by decide) (by decide) (by decide) (by decide) [] (by rw [hml]; rfl) pd_9 rfl P140_0 rfl rfl (Nat.le_of_eq rfl) (hb hby at_59) (pc' := 62) rfl (fun v142 T142 L142 hQ142 X142 => ?_)
      obtain ⟨rfl, rfl, e142⟩ := hQ142
      rw [List.append_nil] at X142
      show Ends _ _ _ _ T142 (mkF m 62 #[.val (.int p0), .val (.int p1), .val (.int p2), .val (.int p3), .val (.int z1), .val (.int z2), .val (.ref b118), .val (.ref b138), .val (.ref b139), .val (.ref b140), .val (.int z141), .unset, .unset, .unset] [(.ref b118)])
      refine ow_astore X142 hx (Ls' := #[.val (.int p0), .val (.int p1), .val (.int p2), .val (.int p3), .val (.int z1), .val (.int z2), .val (.ref b118), .val (.ref b138), .val (.ref b139), .val (.ref b140), .val (.int z141), .val (.ref b118), .unset, .unset]) (hb hby at_62) rfl rfl (pc' := 64) rfl ?_
      refine ow_aload X142 hx (hb hby at_64) rfl rfl (pc' := 66) rfl ?_
      refine ow_callV X142 hx hZ rfl hown (hw _ (List.mem_of_getElem? (i := 74) rfl)) (hw _ (List.mem_of_getElem? (i := 75) rfl)) (hw _ (List.mem_of_getElem? (i := 77) rfl)) (hw _ (List.mem_of_getElem? (i := 76) rfl)) (hw _ (List.mem_of_getElem? (i := 39) rfl)) (hw _ (List.mem_of_getElem? (i := 78) rfl)) (by decide) (rm_rsM l Z a0 hw [] b140 b138 T140.heap P140_2) e142 0 (by decide) (by decide) (by decide) (by decide) [] (by rw [hml]; rfl) pd_10 rfl P140_0 rfl rfl (Nat.le_of_eq rfl) (hb hby at_66) (pc' := 69) rfl (fun v143 T143 L143 hQ143 X143 => ?_)
      obtain ⟨rfl, rfl, e143⟩ := hQ143
      rw [List.append_nil] at X143
      show Ends _ _ _ _ T143 (mkF m 69 #[.val (.int p0), .val (.int p1), .val (.int p2), .val (.int p3), .val (.int z1), .val (.int z2), .val (.ref b118), .val (.ref b138), .val (.ref b139), .val (.ref b140), .val (.int z141), .val (.ref b118), .unset, .unset] [(.ref b138)])
      refine ow_astore X143 hx (Ls' := #[.val (.int p0), .val (.int p1), .val (.int p2), .val (.int p3), .val (.int z1), .val (.int z2), .val (.ref b118), .val (.ref b138), .val (.ref b139), .val (.ref b140), .val (.int z141), .val (.ref b118), .val (.ref b138), .unset]) (hb hby at_69) rfl rfl (pc' := 71) rfl ?_
      refine ow_aload X143 hx (hb hby at_71) rfl rfl (pc' := 73) rfl ?_
      refine ow_callV X143 hx hZ rfl hown (hw _ (List.mem_of_getElem? (i := 79) rfl)) (hw _ (List.mem_of_getElem? (i := 80) rfl)) (hw _ (List.mem_of_getElem? (i := 82) rfl)) (hw _ (List.mem_of_getElem? (i := 81) rfl)) (hw _ (List.mem_of_getElem? (i := 39) rfl)) (hw _ (List.mem_of_getElem? (i := 83) rfl)) (by decide) (rm_rsR l Z a0 hw [] b140 T140.heap P140_3) e143 0 (by decide) (by decide) (by decide) (by decide) [] (by rw [hml]; rfl) pd_10 rfl P140_0 rfl rfl (Nat.le_of_eq rfl) (hb hby at_73) (pc' := 76) rfl (fun v144 T144 L144 hQ144 X144 => ?_)
      obtain ⟨rfl, rfl, e144⟩ := hQ144
      rw [List.append_nil] at X144
      show Ends _ _ _ _ T144 (mkF m 76 #[.val (.int p0), .val (.int p1), .val (.int p2), .val (.int p3), .val (.int z1), .val (.int z2), .val (.ref b118), .val (.ref b138), .val (.ref b139), .val (.ref b140), .val (.int z141), .val (.ref b118), .val (.ref b138), .unset] [.null])
      refine ow_astore X144 hx (Ls' := #[.val (.int p0), .val (.int p1), .val (.int p2), .val (.int p3), .val (.int z1), .val (.int z2), .val (.ref b118), .val (.ref b138), .val (.ref b139), .val (.ref b140), .val (.int z141), .val (.ref b118), .val (.ref b138), .val .null]) (hb hby at_76) rfl rfl (pc' := 78) rfl ?_
      refine ow_iload X144 hx (hb hby at_78) rfl (pc' := 80) rfl ?_
      refine ow_if_ne X144 hx (z141.toInt) (hb hby at_80) rfl (by decide) (pt := 118) (by decide) (pf := 83) rfl (fun c80 => absurd c80 (by omega)) (fun c80 => ?_)
      refine ow_aload X144 hx (hb hby at_83) rfl rfl (pc' := 85) rfl ?_
      refine ow_ifnonnullN X144 hx (hb hby at_85) (pc' := 88) rfl ?_
      refine ow_aload X144 hx (hb hby at_88) rfl rfl (pc' := 90) rfl ?_
      refine ow_iload X144 hx (hb hby at_90) rfl (pc' := 92) rfl ?_
      refine ow_iloadN X144 hx (hb hby at_92) rfl (pc' := 93) rfl ?_
      refine ow_callPI X144 hx hZ hown (hw _ (List.mem_of_getElem? (i := 84) rfl)) (hw _ (List.mem_of_getElem? (i := 85) rfl)) (hw _ (List.mem_of_getElem? (i := 2) rfl)) (hw _ (List.mem_of_getElem? (i := 86) rfl)) (by decide) (rm_sam3 l Z a0 hw [] b118 z1 p1 kw_118 y0_118 y1_118 y2_118 T140.heap V_b118_140 (by first | assumption | decide | omega) (by first | assumption | decide | omega)) e144 0 (by decide) (by decide) (by decide) (by decide) [(.ref b118), (.int z1), (.int p1)] (by rw [hml]; rfl) pd_11 rfl rfl rfl (Nat.le_of_eq rfl) (hb hby at_93) (pc' := 96) rfl (fun z145 T145 hz145 X145 e145 => ?_)
      have az145 : z145.toInt = 1 := hz145
      have rz145 := rng32 z145
      refine ow_if_eq X145 hx (z145.toInt) (hb hby at_96) rfl (by decide) (pt := 118) (by decide) (pf := 99) rfl (fun c96 => absurd c96 (by omega)) (fun c96 => ?_)
      refine ow_aload X145 hx (hb hby at_99) rfl rfl (pc' := 101) rfl ?_
      refine ow_ifnullN X145 hx (hb hby at_101) (pc' := 104) rfl ?_
      refine ow_aload X145 hx (hb hby at_104) rfl rfl (pc' := 106) rfl ?_
      refine ow_aload X145 hx (hb hby at_106) rfl rfl (pc' := 108) rfl ?_
      refine ow_callVPI X145 hx hZ rfl hown (hw _ (List.mem_of_getElem? (i := 87) rfl)) (hw _ (List.mem_of_getElem? (i := 88) rfl)) (hw _ (List.mem_of_getElem? (i := 90) rfl)) (hw _ (List.mem_of_getElem? (i := 89) rfl)) (hw _ (List.mem_of_getElem? (i := 10) rfl)) (hw _ (List.mem_of_getElem? (i := 91) rfl)) (by decide) (rm_eqs2 l Z a0 hw [] b138 b139 zc b138a b139a kt_138 kt_139 x0_138 x1_138 x0_139 x1_139 T140.heap (ow_staKeep S_cs K140 all0) (by first | assumption | decide | omega) E_b138_140 F_b138_coder_140 F_b138_value_140 E_b139_140 F_b139_coder_140 F_b139_value_140 V_b138a_140 V_b139a_140 ne_b138_b139 (by first | assumption | decide | omega) (by first | assumption | decide | omega)) e145 0 (by decide) (by decide) (by decide) (by decide) [(.ref b139)] (by rw [hml]; rfl) pd_12 rfl E_b138_140 rfl rfl (Nat.le_of_eq rfl) (hb hby at_108) (pc' := 111) rfl (fun z146 T146 hz146 X146 e146 => ?_)
      have az146 : z146.toInt = 1 := hz146
      have rz146 := rng32 z146
      refine ow_if_eq X146 hx (z146.toInt) (hb hby at_111) rfl (by decide) (pt := 118) (by decide) (pf := 114) rfl (fun c111 => absurd c111 (by omega)) (fun c111 => ?_)
      refine ow_iconst X146 hx (z := (1 : Int32)) (hb hby at_114) rfl (pc' := 115) rfl ?_
      refine ow_goto X146 hx (hb hby at_115) (by decide) (pc' := 119) (by decide) ?_
      exact ow_retBI X146 hx hret hlk (hb hby at_119) hS140 (by rw [e146]; exact (Nat.le_refl _)) (by decide) (by decide) (z' := (1 : Int32)) rfl ⟨rfl, N140⟩
    · refine ow_iload X118 hx (hb hby at_18) rfl (pc' := 20) rfl ?_
      refine ow_iloadN X118 hx (hb hby at_20) rfl (pc' := 21) rfl ?_
      refine ow_callS X118 hx hZ hown (hw _ (List.mem_of_getElem? (i := 5) rfl)) (hw _ (List.mem_of_getElem? (i := 6) rfl)) (hw _ (List.mem_of_getElem? (i := 2) rfl)) (hw _ (List.mem_of_getElem? (i := 7) rfl)) (by decide) (rm_so3 l Z a0 hw [] z2 p3 zc T118.heap n0 Zs118 (ow_staKeep S_cs K118 all0) (by first | assumption | decide | omega) (by first | assumption | decide | omega)) rfl 0 (by decide) (by decide) (by decide) (by decide) [(.int z2), (.int p3)] (by rw [hml]; rfl) pd_6 rfl rfl rfl (Nat.le_of_eq rfl) (hb hby at_21) (pc' := 24) rfl (fun v147 T147 L147 hQ147 X147 => ?_)
      obtain ⟨b147, b147a, kt_147, x0_147, x1_147, x2_147, rfl, Nc147, Kc147, P147_0, P147_1, P147_2, P147_3, P147_4, P147_5, P147_6⟩ := hQ147
      have P147_6 : ((x0_147.toInt - p3.toInt) % 256 = 0 ∧ -128 ≤ x0_147.toInt ∧ x0_147.toInt < 128) ∧ ((x1_147.toInt - (p3.toInt % 4294967296) / 256) % 256 = 0 ∧ -128 ≤ x1_147.toInt ∧ x1_147.toInt < 128) ∧ ((x2_147.toInt - (p3.toInt % 4294967296) / 65536) % 256 = 0 ∧ -128 ≤ x2_147.toInt ∧ x2_147.toInt < 128) := P147_6
      have E_b118_147 := P118_0.keep Kc147
      have V_b118_147 := P118_1.keep Kc147 nin0
      have ne_b118_b147 : b118 ≠ b147 := Nat.ne_of_lt (Nat.lt_of_lt_of_le P118_0.lt P147_4)
      have sz_b147 : h0.size ≤ b147 := Nat.le_trans K118.1 P147_4
      have ne_b118_b147a : b118 ≠ b147a := Nat.ne_of_lt (Nat.lt_of_lt_of_le P118_0.lt P147_5)
      have sz_b147a : h0.size ≤ b147a := Nat.le_trans K118.1 P147_5
      have Zs147 : n0 ≤ T147.heap.size := Nat.le_trans Zs118 Kc147.1
      have K147 := K118.trans Kc147 all0
      have N147 := Fr.app N118 Nc147
      show Ends _ _ _ _ T147 (mkF m 24 #[.val (.int p0), .val (.int p1), .val (.int p2), .val (.int p3), .val (.int z1), .val (.int z2), .val (.ref b118), .unset, .unset, .unset, .unset, .unset, .unset, .unset] [(.ref b147)])
      refine ow_astore X147 hx (Ls' := #[.val (.int p0), .val (.int p1), .val (.int p2), .val (.int p3), .val (.int z1), .val (.int z2), .val (.ref b118), .val (.ref b147), .unset, .unset, .unset, .unset, .unset, .unset]) (hb hby at_24) rfl rfl (pc' := 26) rfl ?_
      refine ow_iload X147 hx (hb hby at_26) rfl (pc' := 28) rfl ?_
      refine ow_iloadN X147 hx (hb hby at_28) rfl (pc' := 29) rfl ?_
      refine ow_callS X147 hx hZ hown (hw _ (List.mem_of_getElem? (i := 5) rfl)) (hw _ (List.mem_of_getElem? (i := 6) rfl)) (hw _ (List.mem_of_getElem? (i := 2) rfl)) (hw _ (List.mem_of_getElem? (i := 7) rfl)) (by decide) (rm_so3 l Z a0 hw [] z2 p3 zc T147.heap n0 Zs147 (ow_staKeep S_cs K147 all0) (by first | assumption | decide | omega) (by first | assumption | decide | omega)) rfl 0 (by decide) (by decide) (by decide) (by decide) [(.int z2), (.int p3)] (by rw [hml]; rfl) pd_6 rfl rfl rfl (Nat.le_of_eq rfl) (hb hby at_29) (pc' := 32) rfl (fun v148 T148 L148 hQ148 X148 => ?_)
      obtain ⟨b148, b148a, kt_148, x0_148, x1_148, x2_148, rfl, Nc148, Kc148, P148_0, P148_1, P148_2, P148_3, P148_4, P148_5, P148_6⟩ := hQ148
      have P148_6 : ((x0_148.toInt - p3.toInt) % 256 = 0 ∧ -128 ≤ x0_148.toInt ∧ x0_148.toInt < 128) ∧ ((x1_148.toInt - (p3.toInt % 4294967296) / 256) % 256 = 0 ∧ -128 ≤ x1_148.toInt ∧ x1_148.toInt < 128) ∧ ((x2_148.toInt - (p3.toInt % 4294967296) / 65536) % 256 = 0 ∧ -128 ≤ x2_148.toInt ∧ x2_148.toInt < 128) := P148_6
      have E_b118_148 := E_b118_147.keep Kc148
      have V_b118_148 := V_b118_147.keep Kc148 nin0
      have E_b147_148 := P147_0.keep Kc148
      have F_b147_coder_148 := P147_1.keep Kc148 nin0
      have F_b147_value_148 := P147_2.keep Kc148 nin0
      have V_b147a_148 := P147_3.keep Kc148 nin0
      have ne_b118_b148 : b118 ≠ b148 := Nat.ne_of_lt (Nat.lt_of_lt_of_le E_b118_147.lt P148_4)
      have ne_b147_b148 : b147 ≠ b148 := Nat.ne_of_lt (Nat.lt_of_lt_of_le P147_0.lt P148_4)
      have ne_b147a_b148 : b147a ≠ b148 := Nat.ne_of_lt (Nat.lt_of_lt_of_le P147_3.lt P148_4)
      have sz_b148 : h0.size ≤ b148 := Nat.le_trans K147.1 P148_4
      have ne_b118_b148a : b118 ≠ b148a := Nat.ne_of_lt (Nat.lt_of_lt_of_le E_b118_147.lt P148_5)
      have ne_b147_b148a : b147 ≠ b148a := Nat.ne_of_lt (Nat.lt_of_lt_of_le P147_0.lt P148_5)
      have ne_b147a_b148a : b147a ≠ b148a := Nat.ne_of_lt (Nat.lt_of_lt_of_le P147_3.lt P148_5)
      have sz_b148a : h0.size ≤ b148a := Nat.le_trans K147.1 P148_5
      have Zs148 : n0 ≤ T148.heap.size := Nat.le_trans Zs147 Kc148.1
      have K148 := K147.trans Kc148 all0
      have N148 := Fr.app N147 Nc148
      show Ends _ _ _ _ T148 (mkF m 32 #[.val (.int p0), .val (.int p1), .val (.int p2), .val (.int p3), .val (.int z1), .val (.int z2), .val (.ref b118), .val (.ref b147), .unset, .unset, .unset, .unset, .unset, .unset] [(.ref b148)])
      refine ow_astore X148 hx (Ls' := #[.val (.int p0), .val (.int p1), .val (.int p2), .val (.int p3), .val (.int z1), .val (.int z2), .val (.ref b118), .val (.ref b147), .val (.ref b148), .unset, .unset, .unset, .unset, .unset]) (hb hby at_32) rfl rfl (pc' := 34) rfl ?_
      refine ow_aload X148 hx (hb hby at_34) rfl rfl (pc' := 36) rfl ?_
      refine ow_aload X148 hx (hb hby at_36) rfl rfl (pc' := 38) rfl ?_
      refine ow_callSI X148 hx hZ hown (hw _ (List.mem_of_getElem? (i := 37) rfl)) (hw _ (List.mem_of_getElem? (i := 38) rfl)) (hw _ (List.mem_of_getElem? (i := 39) rfl)) (hw _ (List.mem_of_getElem? (i := 40) rfl)) (by decide) (rm_repl l Z a0 hw [] hcw hch b118 b147 T148.heap n0 Zs148 (ow_zk hzk hzn K148 all0) hzn E_b118_148 E_b147_148) (fun v_ w_ => LT.weaken (LT.warm hI0 v_ w_) (by decide) (fun _ h => absurd h List.not_mem_nil)) hS0 (Nat.zero_le _) rfl 0 (by decide) (by decide) (by decide) (by decide) [(.ref b118), (.ref b147)] (by rw [hml]; rfl) pd_7 rfl rfl rfl (Nat.le_of_eq rfl) (hb hby at_38) (pc' := 41) rfl (fun v149 T149 L149 hQ149 X149 hS149 hZ hown => ?_)
      obtain ⟨b149, rfl, Nc149, Kc149, P149_0, P149_1, P149_2, P149_3⟩ := hQ149
      have E_b118_149 := E_b118_148.keep Kc149
      have V_b118_149 := V_b118_148.keep Kc149 nin0
      have E_b147_149 := E_b147_148.keep Kc149
      have F_b147_coder_149 := F_b147_coder_148.keep Kc149 nin0
      have F_b147_value_149 := F_b147_value_148.keep Kc149 nin0
      have V_b147a_149 := V_b147a_148.keep Kc149 nin0
      have E_b148_149 := P148_0.keep Kc149
      have F_b148_coder_149 := P148_1.keep Kc149 nin0
      have F_b148_value_149 := P148_2.keep Kc149 nin0
      have V_b148a_149 := P148_3.keep Kc149 nin0
      have Zs149 : n0 ≤ T149.heap.size := Nat.le_trans Zs148 Kc149.1
      have K149 := K148.trans Kc149 all0
      have N149 := Fr.app N148 Nc149
      show Ends _ _ _ _ T149 (mkF m 41 #[.val (.int p0), .val (.int p1), .val (.int p2), .val (.int p3), .val (.int z1), .val (.int z2), .val (.ref b118), .val (.ref b147), .val (.ref b148), .unset, .unset, .unset, .unset, .unset] [(.ref b149)])
      refine ow_astore X149 hx (Ls' := #[.val (.int p0), .val (.int p1), .val (.int p2), .val (.int p3), .val (.int z1), .val (.int z2), .val (.ref b118), .val (.ref b147), .val (.ref b148), .val (.ref b149), .unset, .unset, .unset, .unset]) (hb hby at_41) rfl rfl (pc' := 43) rfl ?_
      refine ow_aload X149 hx (hb hby at_43) rfl rfl (pc' := 45) rfl ?_
      refine ow_ifnonnullY X149 hx (hb hby at_45) (by decide) (pc' := 50) (by decide) ?_
      refine ow_aload X149 hx (hb hby at_50) rfl rfl (pc' := 52) rfl ?_
      refine ow_callVPI X149 hx hZ rfl hown (hw _ (List.mem_of_getElem? (i := 64) rfl)) (hw _ (List.mem_of_getElem? (i := 65) rfl)) (hw _ (List.mem_of_getElem? (i := 67) rfl)) (hw _ (List.mem_of_getElem? (i := 66) rfl)) (hw _ (List.mem_of_getElem? (i := 39) rfl)) (hw _ (List.mem_of_getElem? (i := 68) rfl)) (by decide) (rm_refd l Z a0 hw [] b149 T149.heap P149_3) rfl 0 (by decide) (by decide) (by decide) (by decide) [] (by rw [hml]; rfl) pd_8 rfl P149_0 rfl rfl (Nat.le_of_eq rfl) (hb hby at_52) (pc' := 55) rfl (fun z150 T150 hz150 X150 e150 => ?_)
      have az150 : z150.toInt = 0 := hz150
      have rz150 := rng32 z150
      refine ow_istore X150 hx (Ls' := #[.val (.int p0), .val (.int p1), .val (.int p2), .val (.int p3), .val (.int z1), .val (.int z2), .val (.ref b118), .val (.ref b147), .val (.ref b148), .val (.ref b149), .val (.int z150), .unset, .unset, .unset]) (hb hby at_55) rfl (pc' := 57) rfl ?_
      refine ow_aload X150 hx (hb hby at_57) rfl rfl (pc' := 59) rfl ?_
      refine ow_callV X150 hx hZ rfl hown (hw _ (List.mem_of_getElem? (i := 69) rfl)) (hw _ (List.mem_of_getElem? (i := 70) rfl)) (hw _ (List.mem_of_getElem? (i := 72) rfl)) (hw _ (List.mem_of_getElem? (i := 71) rfl)) (hw _ (List.mem_of_getElem? (i := 39) rfl)) (hw _ (List.mem_of_getElem? (i := 73) rfl)) (by decide) (rm_rsB l Z a0 hw [] b149 b118 T149.heap P149_1) e150 0 (by decide) (by decide) (by decide) (by decide) [] (by rw [hml]; rfl) pd_9 rfl P149_0 rfl rfl (Nat.le_of_eq rfl) (hb hby at_59) (pc' := 62) rfl (fun v151 T151 L151 hQ151 X151 => ?_)
      obtain ⟨rfl, rfl, e151⟩ := hQ151
      rw [List.append_nil] at X151
      show Ends _ _ _ _ T151 (mkF m 62 #[.val (.int p0), .val (.int p1), .val (.int p2), .val (.int p3), .val (.int z1), .val (.int z2), .val (.ref b118), .val (.ref b147), .val (.ref b148), .val (.ref b149), .val (.int z150), .unset, .unset, .unset] [(.ref b118)])
      refine ow_astore X151 hx (Ls' := #[.val (.int p0), .val (.int p1), .val (.int p2), .val (.int p3), .val (.int z1), .val (.int z2), .val (.ref b118), .val (.ref b147), .val (.ref b148), .val (.ref b149), .val (.int z150), .val (.ref b118), .unset, .unset]) (hb hby at_62) rfl rfl (pc' := 64) rfl ?_
      refine ow_aload X151 hx (hb hby at_64) rfl rfl (pc' := 66) rfl ?_
      refine ow_callV X151 hx hZ rfl hown (hw _ (List.mem_of_getElem? (i := 74) rfl)) (hw _ (List.mem_of_getElem? (i := 75) rfl)) (hw _ (List.mem_of_getElem? (i := 77) rfl)) (hw _ (List.mem_of_getElem? (i := 76) rfl)) (hw _ (List.mem_of_getElem? (i := 39) rfl)) (hw _ (List.mem_of_getElem? (i := 78) rfl)) (by decide) (rm_rsM l Z a0 hw [] b149 b147 T149.heap P149_2) e151 0 (by decide) (by decide) (by decide) (by decide) [] (by rw [hml]; rfl) pd_10 rfl P149_0 rfl rfl (Nat.le_of_eq rfl) (hb hby at_66) (pc' := 69) rfl (fun v152 T152 L152 hQ152 X152 => ?_)
      obtain ⟨rfl, rfl, e152⟩ := hQ152
      rw [List.append_nil] at X152
      show Ends _ _ _ _ T152 (mkF m 69 #[.val (.int p0), .val (.int p1), .val (.int p2), .val (.int p3), .val (.int z1), .val (.int z2), .val (.ref b118), .val (.ref b147), .val (.ref b148), .val (.ref b149), .val (.int z150), .val (.ref b118), .unset, .unset] [(.ref b147)])
      refine ow_astore X152 hx (Ls' := #[.val (.int p0), .val (.int p1), .val (.int p2), .val (.int p3), .val (.int z1), .val (.int z2), .val (.ref b118), .val (.ref b147), .val (.ref b148), .val (.ref b149), .val (.int z150), .val (.ref b118), .val (.ref b147), .unset]) (hb hby at_69) rfl rfl (pc' := 71) rfl ?_
      refine ow_aload X152 hx (hb hby at_71) rfl rfl (pc' := 73) rfl ?_
      refine ow_callV X152 hx hZ rfl hown (hw _ (List.mem_of_getElem? (i := 79) rfl)) (hw _ (List.mem_of_getElem? (i := 80) rfl)) (hw _ (List.mem_of_getElem? (i := 82) rfl)) (hw _ (List.mem_of_getElem? (i := 81) rfl)) (hw _ (List.mem_of_getElem? (i := 39) rfl)) (hw _ (List.mem_of_getElem? (i := 83) rfl)) (by decide) (rm_rsR l Z a0 hw [] b149 T149.heap P149_3) e152 0 (by decide) (by decide) (by decide) (by decide) [] (by rw [hml]; rfl) pd_10 rfl P149_0 rfl rfl (Nat.le_of_eq rfl) (hb hby at_73) (pc' := 76) rfl (fun v153 T153 L153 hQ153 X153 => ?_)
      obtain ⟨rfl, rfl, e153⟩ := hQ153
      rw [List.append_nil] at X153
      show Ends _ _ _ _ T153 (mkF m 76 #[.val (.int p0), .val (.int p1), .val (.int p2), .val (.int p3), .val (.int z1), .val (.int z2), .val (.ref b118), .val (.ref b147), .val (.ref b148), .val (.ref b149), .val (.int z150), .val (.ref b118), .val (.ref b147), .unset] [.null])
      refine ow_astore X153 hx (Ls' := #[.val (.int p0), .val (.int p1), .val (.int p2), .val (.int p3), .val (.int z1), .val (.int z2), .val (.ref b118), .val (.ref b147), .val (.ref b148), .val (.ref b149), .val (.int z150), .val (.ref b118), .val (.ref b147), .val .null]) (hb hby at_76) rfl rfl (pc' := 78) rfl ?_
      refine ow_iload X153 hx (hb hby at_78) rfl (pc' := 80) rfl ?_
      refine ow_if_ne X153 hx (z150.toInt) (hb hby at_80) rfl (by decide) (pt := 118) (by decide) (pf := 83) rfl (fun c80 => absurd c80 (by omega)) (fun c80 => ?_)
      refine ow_aload X153 hx (hb hby at_83) rfl rfl (pc' := 85) rfl ?_
      refine ow_ifnonnullN X153 hx (hb hby at_85) (pc' := 88) rfl ?_
      refine ow_aload X153 hx (hb hby at_88) rfl rfl (pc' := 90) rfl ?_
      refine ow_iload X153 hx (hb hby at_90) rfl (pc' := 92) rfl ?_
      refine ow_iloadN X153 hx (hb hby at_92) rfl (pc' := 93) rfl ?_
      refine ow_callPI X153 hx hZ hown (hw _ (List.mem_of_getElem? (i := 84) rfl)) (hw _ (List.mem_of_getElem? (i := 85) rfl)) (hw _ (List.mem_of_getElem? (i := 2) rfl)) (hw _ (List.mem_of_getElem? (i := 86) rfl)) (by decide) (rm_sam3 l Z a0 hw [] b118 z1 p1 kw_118 y0_118 y1_118 y2_118 T149.heap V_b118_149 (by first | assumption | decide | omega) (by first | assumption | decide | omega)) e153 0 (by decide) (by decide) (by decide) (by decide) [(.ref b118), (.int z1), (.int p1)] (by rw [hml]; rfl) pd_11 rfl rfl rfl (Nat.le_of_eq rfl) (hb hby at_93) (pc' := 96) rfl (fun z154 T154 hz154 X154 e154 => ?_)
      have az154 : z154.toInt = 1 := hz154
      have rz154 := rng32 z154
      refine ow_if_eq X154 hx (z154.toInt) (hb hby at_96) rfl (by decide) (pt := 118) (by decide) (pf := 99) rfl (fun c96 => absurd c96 (by omega)) (fun c96 => ?_)
      refine ow_aload X154 hx (hb hby at_99) rfl rfl (pc' := 101) rfl ?_
      refine ow_ifnullN X154 hx (hb hby at_101) (pc' := 104) rfl ?_
      refine ow_aload X154 hx (hb hby at_104) rfl rfl (pc' := 106) rfl ?_
      refine ow_aload X154 hx (hb hby at_106) rfl rfl (pc' := 108) rfl ?_
      refine ow_callVPI X154 hx hZ rfl hown (hw _ (List.mem_of_getElem? (i := 87) rfl)) (hw _ (List.mem_of_getElem? (i := 88) rfl)) (hw _ (List.mem_of_getElem? (i := 90) rfl)) (hw _ (List.mem_of_getElem? (i := 89) rfl)) (hw _ (List.mem_of_getElem? (i := 10) rfl)) (hw _ (List.mem_of_getElem? (i := 91) rfl)) (by decide) (rm_eqs3 l Z a0 hw [] b147 b148 zc b147a b148a kt_147 kt_148 x0_147 x1_147 x2_147 x0_148 x1_148 x2_148 T149.heap (ow_staKeep S_cs K149 all0) (by first | assumption | decide | omega) E_b147_149 F_b147_coder_149 F_b147_value_149 E_b148_149 F_b148_coder_149 F_b148_value_149 V_b147a_149 V_b148a_149 ne_b147_b148 (by first | assumption | decide | omega) (by first | assumption | decide | omega) (by first | assumption | decide | omega)) e154 0 (by decide) (by decide) (by decide) (by decide) [(.ref b148)] (by rw [hml]; rfl) pd_12 rfl E_b147_149 rfl rfl (Nat.le_of_eq rfl) (hb hby at_108) (pc' := 111) rfl (fun z155 T155 hz155 X155 e155 => ?_)
      have az155 : z155.toInt = 1 := hz155
      have rz155 := rng32 z155
      refine ow_if_eq X155 hx (z155.toInt) (hb hby at_111) rfl (by decide) (pt := 118) (by decide) (pf := 114) rfl (fun c111 => absurd c111 (by omega)) (fun c111 => ?_)
      refine ow_iconst X155 hx (z := (1 : Int32)) (hb hby at_114) rfl (pc' := 115) rfl ?_
      refine ow_goto X155 hx (hb hby at_115) (by decide) (pc' := 119) (by decide) ?_
      exact ow_retBI X155 hx hret hlk (hb hby at_119) hS149 (by rw [e155]; exact (Nat.le_refl _)) (by decide) (by decide) (z' := (1 : Int32)) rfl ⟨rfl, N149⟩
set_option maxRecDepth 65536 in
set_option maxHeartbeats 40000000 in
theorem comes_1 {Post : Tables → Env → Array Value → State → Outcome → State → Prop} (hpost : ∀ tb e args s v u, (limb_1_1.after args s (.returned v) u = true ∧ limb_1_2.after args s (.returned v) u = true ∧ True) → ReturnedEndW s (.returned v) u (Jvm.fieldLocs frame_1_writes args s ++ Jvm.arrayLocs frame_1_arrays args s ++ Jvm.staticLocs frame_1_statics s) 32 3200 → Post tb e args s (.returned v) u) :
    ArmFor flags0 classFile x code maxLocals ret World_1 tables_1 room_1 Calls_1 rest_1 Pre_1 Post := by
  intro l hfl _ _ p e ha hc hk s m args below hf hA hF happ hP
  obtain ⟨hcalls, hrest, hpre⟩ := hP
  obtain ⟨-, -, -, hnamed, -, -, -, hat⟩ := (Spec.applies_iff hf).mp happ
  obtain ⟨hg, hn⟩ := and_e (Cond.before_iff.mp (show (Jvm.Cond.and given_1 narrow_1).before args s = true from hpre))
  obtain ⟨gc, gr0⟩ := and_e hg
  obtain ⟨ga0, gr1⟩ := and_e gr0
  obtain ⟨ga1, gr2⟩ := and_e gr1
  obtain ⟨ga2, ga3⟩ := and_e gr2
  obtain ⟨w0, w1, w2, w3, rfl⟩ : ∃ w0 w1 w2 w3 : Value, args = #[w0, w1, w2, w3] := by
    have hs : args.size = 4 := by simpa [Cond.value, given_1] using gc
    obtain ⟨L⟩ := args
    match L, hs with
    | [w0, w1, w2, w3], _ => exact ⟨w0, w1, w2, w3, rfl⟩
  have hw := fun d (hd : d ∈ tables_1) => atoms_spec (ws := Jvm.Cond.code x code maxLocals ret :: tables_1) hat d (List.mem_cons_of_mem _ hd)
  have hfit : Fit s := fun {y c} hc i hi => by
    obtain ⟨ha, rfl⟩ := Array.getElem?_eq_some_iff.mp hc
    have q := List.all_eq_true.mp ((Array.all_eq_true_iff_forall_mem.mp hF) _ (Array.getElem_mem ha)) i (List.mem_range.mpr hi)
    simpa [Array.getElem?_eq_getElem hi] using q
  obtain ⟨hsets, hown0⟩ := atoms_of _ (rest_1_c_eq ▸ (show rest_1_c.before _ s = true from hrest))
  have hr0 := Cond.before_iff.mp hown0
  obtain ⟨i0, ei0⟩ := is_v ga0
  obtain rfl : w0 = (.int i0) := Option.some.inj ei0
  obtain ⟨i1, ei1⟩ := is_v ga1
  obtain rfl : w1 = (.int i1) := Option.some.inj ei1
  obtain ⟨i2, ei2⟩ := is_v ga2
  obtain rfl : w2 = (.int i2) := Option.some.inj ei2
  obtain ⟨i3, ei3⟩ := is_v ga3
  obtain rfl : w3 = (.int i3) := Option.some.inj ei3
  have nz := not_v (Cond.before_iff.mp (hsets _ (List.mem_of_getElem? (i := 2) rfl)))
  obtain ⟨zc, ez⟩ := is_v (Cond.before_iff.mp (hsets _ (List.mem_of_getElem? (i := 1) rfl)))
  have Scs : Sta s s.heap "java/lang/String" "COMPACT_STRINGS" "Z" (.int zc) := Sta.start ez (Or.inl (hsets _ (List.mem_of_getElem? (i := 0) rfl)))
  have hzc : ¬ (zc = (0 : Int32)) := gotF (Cond.eq_ints ez (Term.int_eval (0))) nz
  have hcw : Jvm.Lit.compactW.before _ s = true := hsets _ (List.mem_of_getElem? (i := 2) rfl)
  have hz0 : ¬ zc.toInt = 0 := fun q => hzc (ow_eq q)
  obtain ⟨n, o, h1, h2, h3, _, L, rfl, ⟨rfl, N⟩, hq⟩ := rm_law l s _ hw tables_1 hcw hcalls.1 i0 i1 i2 i3 zc s.heap s.heap.size (Nat.le_refl _) (fun _ _ q => q) (Nat.le_refl _) rfl Scs hz0 hzc p e ha hc hk s m _ below hf ((Spec.applies_iff_loose hf).mp happ).1 ⟨rfl, State.Warmed39.refl s, rfl, LT.start⟩ trivial
  refine ⟨n, _, h1, h2, h3, hpost _ _ _ _ _ _ ⟨Cond.after_iff.mpr rfl, Cond.after_iff.mpr (eq_i res_at (Term.int_eval (1)) rfl), trivial⟩ ⟨hq.1, hq.2.1, hq.2.2.1, (hq.2.2.2.sift fun y hy => Or.inr (N y hy)).mono (by decide) (by decide)⟩⟩
theorem main_1_1 : Claimed_1_1 := comes_1 fun _ _ _ _ _ _ h hF => ⟨h.1, hF⟩
theorem main_1_2 : Claimed_1_2 := comes_1 fun _ _ _ _ _ _ h hF => ⟨h.2.1, hF⟩
end Jvm.Pilot.@@N@@
namespace Jvm.Pilot.@@N@@
open Jvm Jvm.ClassFile Sem Op Lib Jvm.Free Jvm.Stand Jvm.Pilot.@@N@@.Jvm.D
/-! MADE BY PROGRAM (witnessworld.py) out of the Statement's table words and the real class files: 19 classes; the members and pool entries that the words name. The judged class is class 1, her method 1. -/
namespace start1
open Jvm.ClassFile
def u (s : String) : CpInfo := .utf8 (stringToUtf16 s)
/-- a pool by its gaps: so many unusable entries, then the entry; so many at the end -/
def gap : Nat → List CpInfo → List CpInfo
  | 0, r => r
  | n + 1, r => .unusable :: gap n r
def poolList (es : List (Nat × CpInfo)) (last : Nat) : List CpInfo := es.foldr (fun e r => gap e.1 (e.2 :: r)) (gap last [])
def pool (es : List (Nat × CpInfo)) (last : Nat) : Array CpInfo := ⟨poolList es last⟩
def fileOf (pool : Array CpInfo) (this : Nat) (attrs : Array Attribute := #[]) (ms : Array MethodInfo := #[]) (fl : Nat := 33) (sup : Nat := 0) (ifs : Array Nat := #[]) (fds : Array FieldInfo := #[]) : ClassFile where
  minorVersion := 0
  majorVersion := 65
  constantPool := pool
  accessFlags := fl
  thisClass := this
  superClass := sup
  interfaces := ifs
  fields := fds
  methods := ms
  attributes := attrs
def plain (name : String) (sup : Option ClassId) : Class where
  name := name
  kind := .ordinary
  loader := none
  accessFlags := 33
  super := sup
  interfaces := #[]
  cf := none
  fields := #[]
  methods := #[]
  instanceTypes := #[]
  staticTypes := #[]
  resolved := #[]
  callSites := []
  init := .initialized
  statics := none
  mirror := none

def pool0 : Array CpInfo := pool [(5, u "<init>"), (0, u "()V"), (1, .class_ 10), (1, u "java/lang/Object")] 113

def k0c0 : Code := { maxStack := 0, maxLocals := 1, code := object_method_1_code, exceptionTable := #[], attributes := #[] }
def k0m0 : Method := { name := "<init>", desc := "()V", sig := { parameters := [], returnType := none }, accessFlags := 1, code := some k0c0 }
/-- java/lang/Object -/
def k0 : Class := { plain "java/lang/Object" none with
  accessFlags := 33
  interfaces := #[]
  cf := some (fileOf pool0 8 #[] #[{ accessFlags := 1, nameIndex := 5, descriptorIndex := 6, attributes := #[] }] 33 0 #[] #[])
  fields := #[]
  methods := #[k0m0]
  instanceTypes := #[]
  staticTypes := #[]
  resolved := Array.replicate 124 none
  statics := none }

def pool1 : Array CpInfo := pool [(2, .class_ 4), (1, u "java/lang/Object"), (0, u "<init>"), (0, u "()V"), (0, .methodref 8 9), (0, .class_ 10), (0, .nameAndType 11 12), (0, u "com/example/inchworm/inchworm/handler/ResultReplacePinLaw"), (0, u "bytesOf"), (0, u "(II)[B"), (0, .methodref 8 14), (0, .nameAndType 15 16), (0, u "stringOf"), (0, u "(II)Ljava/lang/String;"), (0, .methodref 18 19), (0, .class_ 20), (0, .nameAndType 21 22), (0, u "com/example/inchworm/inchworm/handler/Action$Result"), (0, u "replace"), (0, u "([BLjava/lang/String;)Lcom/example/inchworm/inchworm/handler/Action$Result;"), (0, .methodref 18 24), (0, .nameAndType 25 26), (0, u "refused"), (0, u "()Z"), (0, .methodref 18 28), (0, .nameAndType 29 30), (0, u "bytes"), (0, u "()[B"), (0, .methodref 18 32), (0, .nameAndType 33 34), (0, u "mediaType"), (0, u "()Ljava/lang/String;"), (0, .methodref 18 36), (0, .nameAndType 37 34), (0, u "reason"), (0, .methodref 8 39), (0, .nameAndType 40 41), (0, u "sameBytes"), (0, u "([BII)Z"), (0, .methodref 43 44), (0, .class_ 45), (0, .nameAndType 46 47), (0, u "java/lang/String"), (0, u "equals"), (0, u "(Ljava/lang/Object;)Z"), (0, .methodref 43 49), (0, .nameAndType 5 50), (0, u "([C)V"), (2, u "law"), (0, u "(IIII)Z")] 9

def k1m0 : Method := { name := "<init>", desc := "()V", sig := { parameters := [], returnType := none }, accessFlags := 1, code := none }
def k1c1 : Code := { maxStack := 3, maxLocals := 14, code := code, exceptionTable := #[], attributes := #[] }
def k1m1 : Method := { name := "law", desc := "(IIII)Z", sig := { parameters := [.int, .int, .int, .int], returnType := some .boolean }, accessFlags := 9, code := some k1c1 }
def k1c2 : Code := { maxStack := 4, maxLocals := 5, code := method_3_code, exceptionTable := #[], attributes := #[] }
def k1m2 : Method := { name := "bytesOf", desc := "(II)[B", sig := { parameters := [.int, .int], returnType := some (.array .byte) }, accessFlags := 10, code := some k1c2 }
def k1c3 : Code := { maxStack := 3, maxLocals := 3, code := method_4_code, exceptionTable := #[], attributes := #[] }
def k1m3 : Method := { name := "sameBytes", desc := "([BII)Z", sig := { parameters := [(.array .byte), .int, .int], returnType := some .boolean }, accessFlags := 10, code := some k1c3 }
def k1c4 : Code := { maxStack := 6, maxLocals := 5, code := method_5_code, exceptionTable := #[], attributes := #[] }
def k1m4 : Method := { name := "stringOf", desc := "(II)Ljava/lang/String;", sig := { parameters := [.int, .int], returnType := some (.object "java/lang/String") }, accessFlags := 10, code := some k1c4 }
/-- com/example/inchworm/inchworm/handler/ResultReplacePinLaw -/
def k1 : Class := { plain "com/example/inchworm/inchworm/handler/ResultReplacePinLaw" (some 0) with
  accessFlags := 49
  interfaces := #[]
  cf := some (fileOf pool1 8 #[] #[{ accessFlags := 1, nameIndex := 5, descriptorIndex := 6, attributes := #[] }, { accessFlags := 9, nameIndex := 53, descriptorIndex := 54, attributes := #[] }, { accessFlags := 10, nameIndex := 11, descriptorIndex := 12, attributes := #[] }, { accessFlags := 10, nameIndex := 40, descriptorIndex := 41, attributes := #[] }, { accessFlags := 10, nameIndex := 15, descriptorIndex := 16, attributes := #[] }] 49 2 #[] #[])
  fields := #[]
  methods := #[k1m0, k1m1, k1m2, k1m3, k1m4]
  instanceTypes := #[]
  staticTypes := #[]
  resolved := Array.replicate 64 none
  statics := none }

def pool2 : Array CpInfo := pool [(1, .class_ 2), (0, u "java/io/Serializable"), (0, .class_ 4), (0, u "java/lang/Object")] 2

/-- java/io/Serializable -/
def k2 : Class := { plain "java/io/Serializable" (some 0) with
  accessFlags := 1537
  interfaces := #[]
  cf := some (fileOf pool2 1 #[] #[] 1537 3 #[] #[])
  fields := #[]
  methods := #[]
  instanceTypes := #[]
  staticTypes := #[]
  resolved := Array.replicate 7 none
  statics := none }

def pool3 : Array CpInfo := pool [(1, .class_ 2), (0, u "java/lang/Comparable"), (0, .class_ 4), (0, u "java/lang/Object")] 7

/-- java/lang/Comparable -/
def k3 : Class := { plain "java/lang/Comparable" (some 0) with
  accessFlags := 1537
  interfaces := #[]
  cf := some (fileOf pool3 1 #[] #[] 1537 3 #[] #[])
  fields := #[]
  methods := #[]
  instanceTypes := #[]
  staticTypes := #[]
  resolved := Array.replicate 12 none
  statics := none }

def pool4 : Array CpInfo := pool [(2, .class_ 4), (1, u "java/lang/CharSequence"), (42, .class_ 48), (0, u "java/lang/CharSequence$1CodePointIterator"), (10, .class_ 60), (0, u "java/lang/CharSequence$1CharIterator"), (5, .class_ 67), (0, u "java/lang/Object")] 63

/-- java/lang/CharSequence -/
def k4 : Class := { plain "java/lang/CharSequence" (some 0) with
  accessFlags := 1537
  interfaces := #[]
  cf := some (fileOf pool4 2 #[.nestMembers #[47, 59]] #[] 1537 66 #[] #[])
  fields := #[]
  methods := #[]
  instanceTypes := #[]
  staticTypes := #[]
  resolved := Array.replicate 131 none
  statics := none }

def pool5 : Array CpInfo := pool [(1, .class_ 2), (0, u "java/lang/constant/Constable"), (0, .class_ 4), (0, u "java/lang/Object")] 6

/-- java/lang/constant/Constable -/
def k5 : Class := { plain "java/lang/constant/Constable" (some 0) with
  accessFlags := 1537
  interfaces := #[]
  cf := some (fileOf pool5 1 #[] #[] 1537 3 #[] #[])
  fields := #[]
  methods := #[]
  instanceTypes := #[]
  staticTypes := #[]
  resolved := Array.replicate 11 none
  statics := none }

def pool6 : Array CpInfo := pool [(1, .class_ 2), (0, u "java/lang/constant/ConstantDesc"), (0, .class_ 4), (0, u "java/lang/Object")] 32

/-- java/lang/constant/ConstantDesc -/
def k6 : Class := { plain "java/lang/constant/ConstantDesc" (some 0) with
  accessFlags := 1537
  interfaces := #[]
  cf := some (fileOf pool6 1 #[] #[] 1537 3 #[] #[])
  fields := #[]
  methods := #[]
  instanceTypes := #[]
  staticTypes := #[]
  resolved := Array.replicate 37 none
  statics := none }

def pool7 : Array CpInfo := pool [(1, .methodref 2 3), (0, .class_ 4), (0, .nameAndType 5 6), (0, u "java/lang/Object"), (0, u "<init>"), (0, u "()V"), (0, .string 8), (0, u ""), (0, .fieldref 10 11), (0, .class_ 12), (0, .nameAndType 13 14), (0, u "java/lang/String"), (0, u "value"), (0, u "[B"), (0, .fieldref 10 16), (0, .nameAndType 17 18), (0, u "coder"), (0, u "B"), (2, u "hash"), (0, u "I"), (2, u "hashIsZero"), (0, u "Z"), (0, .methodref 10 28), (0, .nameAndType 5 29), (0, u "([CIILjava/lang/Void;)V"), (8, .fieldref 10 39), (0, .nameAndType 40 26), (0, u "COMPACT_STRINGS"), (1, .class_ 44), (1, u "java/lang/StringUTF16"), (0, u "compress"), (1, .methodref 42 48), (0, .nameAndType 49 50), (0, u "coderFromArrayLen"), (0, u "([BI)B"), (56, .class_ 109), (1, u "java/lang/StringLatin1"), (67, .methodref 42 178), (0, .nameAndType 45 179), (0, u "([CII)[B"), (361, .methodref 107 542), (0, .nameAndType 543 544), (0, u "equals"), (0, u "([B[B)Z"), (28, u "(Ljava/lang/Object;)Z"), (1, .class_ 576), (0, u "java/lang/CharSequence"), (22, u "CASE_INSENSITIVE_ORDER"), (0, u "Ljava/util/Comparator;"), (409, u "([C)V"), (90, u "serialPersistentFields"), (0, u "[Ljava/io/ObjectStreamField;"), (0, .class_ 1104), (0, u "java/lang/String$CaseInsensitiveComparator"), (1, .class_ 1107), (0, u "java/io/Serializable"), (0, .class_ 1109), (0, u "java/lang/Comparable"), (0, .class_ 1111), (0, u "java/lang/constant/Constable"), (0, .class_ 1113), (0, u "java/lang/constant/ConstantDesc"), (2, u "serialVersionUID"), (0, u "J"), (3, u "REPL"), (0, u "C"), (2, u "LATIN1"), (1, u "UTF16")] 323

def k7m0 : Method := { name := "<init>", desc := "()V", sig := { parameters := [], returnType := none }, accessFlags := 1, code := none }
def k7c1 : Code := { maxStack := 5, maxLocals := 2, code := jdk_42_method_3_code, exceptionTable := #[], attributes := #[] }
def k7m1 : Method := { name := "<init>", desc := "([C)V", sig := { parameters := [(.array .char)], returnType := none }, accessFlags := 1, code := some k7c1 }
def k7c2 : Code := { maxStack := 2, maxLocals := 3, code := jdk_42_method_66_code, exceptionTable := #[], attributes := #[] }
def k7m2 : Method := { name := "equals", desc := "(Ljava/lang/Object;)Z", sig := { parameters := [(.object "java/lang/Object")], returnType := some .boolean }, accessFlags := 1, code := some k7c2 }
def k7c3 : Code := { maxStack := 4, maxLocals := 6, code := jdk_42_method_149_code, exceptionTable := #[], attributes := #[] }
def k7m3 : Method := { name := "<init>", desc := "([CIILjava/lang/Void;)V", sig := { parameters := [(.array .char), .int, .int, (.object "java/lang/Void")], returnType := none }, accessFlags := 2, code := some k7c3 }
/-- java/lang/String -/
def k7 : Class := { plain "java/lang/String" (some 0) with
  accessFlags := 49
  interfaces := #[2, 3, 4, 5, 6]
  cf := some (fileOf pool7 10 #[.nestMembers #[1103]] #[{ accessFlags := 1, nameIndex := 5, descriptorIndex := 6, attributes := #[] }, { accessFlags := 1, nameIndex := 5, descriptorIndex := 1010, attributes := #[] }, { accessFlags := 1, nameIndex := 543, descriptorIndex := 573, attributes := #[] }, { accessFlags := 2, nameIndex := 5, descriptorIndex := 29, attributes := #[] }] 49 2 #[1106, 1108, 575, 1110, 1112] #[{ accessFlags := 18, nameIndex := 13, descriptorIndex := 14, attributes := #[] }, { accessFlags := 18, nameIndex := 17, descriptorIndex := 18, attributes := #[] }, { accessFlags := 2, nameIndex := 21, descriptorIndex := 22, attributes := #[] }, { accessFlags := 2, nameIndex := 25, descriptorIndex := 26, attributes := #[] }, { accessFlags := 26, nameIndex := 1116, descriptorIndex := 1117, attributes := #[] }, { accessFlags := 24, nameIndex := 40, descriptorIndex := 26, attributes := #[] }, { accessFlags := 26, nameIndex := 1101, descriptorIndex := 1102, attributes := #[] }, { accessFlags := 26, nameIndex := 1121, descriptorIndex := 1122, attributes := #[] }, { accessFlags := 25, nameIndex := 599, descriptorIndex := 600, attributes := #[] }, { accessFlags := 24, nameIndex := 1125, descriptorIndex := 18, attributes := #[] }, { accessFlags := 24, nameIndex := 1127, descriptorIndex := 18, attributes := #[] }])
  fields := #[{ name := "value", type := (.array .byte), accessFlags := 18, slot := 0, constantValue := 0 }, { name := "coder", type := .byte, accessFlags := 18, slot := 1, constantValue := 0 }, { name := "hash", type := .int, accessFlags := 2, slot := 2, constantValue := 0 }, { name := "hashIsZero", type := .boolean, accessFlags := 2, slot := 3, constantValue := 0 }, { name := "serialVersionUID", type := .long, accessFlags := 26, slot := 0, constantValue := 0 }, { name := "COMPACT_STRINGS", type := .boolean, accessFlags := 24, slot := 1, constantValue := 0 }, { name := "serialPersistentFields", type := (.array (.object "java/io/ObjectStreamField")), accessFlags := 26, slot := 2, constantValue := 0 }, { name := "REPL", type := .char, accessFlags := 26, slot := 3, constantValue := 0 }, { name := "CASE_INSENSITIVE_ORDER", type := (.object "java/util/Comparator"), accessFlags := 25, slot := 4, constantValue := 0 }, { name := "LATIN1", type := .byte, accessFlags := 24, slot := 5, constantValue := 0 }, { name := "UTF16", type := .byte, accessFlags := 24, slot := 6, constantValue := 0 }]
  methods := #[k7m0, k7m1, k7m2, k7m3]
  instanceTypes := #[(.array .byte), .byte, .int, .boolean]
  staticTypes := #[.long, .boolean, (.array (.object "java/io/ObjectStreamField")), .char, (.object "java/util/Comparator"), .byte, .byte]
  resolved := Array.replicate 1451 none
  statics := some 0 }

def pool8 : Array CpInfo := pool [(6, .class_ 8), (1, u "java/lang/Object"), (0, u "<init>"), (0, u "()V"), (1, .class_ 14), (1, u "java/lang/StringUTF16"), (31, u "$assertionsDisabled"), (0, u "Z"), (13, u "HI_BYTE_SHIFT"), (0, u "I"), (2, u "LO_BYTE_SHIFT"), (49, .methodref 12 116), (0, .nameAndType 117 118), (0, u "compress"), (0, u "([CI[BII)I"), (3, u "([CII)[B"), (138, u "coderFromArrayLen"), (0, u "([BI)B"), (106, .class_ 371), (1, u "java/lang/StringUTF16$LinesSpliterator"), (58, u "MAX_LENGTH"), (196, .class_ 628), (0, u "java/lang/StringUTF16$CodePointsSpliterator"), (0, .class_ 630), (0, u "java/lang/StringUTF16$CharsSpliterator")] 4

def k8m0 : Method := { name := "<init>", desc := "()V", sig := { parameters := [], returnType := none }, accessFlags := 0, code := none }
def k8c1 : Code := { maxStack := 2, maxLocals := 2, code := jdk_52_method_15_code, exceptionTable := #[], attributes := #[] }
def k8m1 : Method := { name := "coderFromArrayLen", desc := "([BI)B", sig := { parameters := [(.array .byte), .int], returnType := some .byte }, accessFlags := 8, code := some k8c1 }
def k8c2 : Code := { maxStack := 5, maxLocals := 6, code := jdk_52_method_16_code, exceptionTable := #[], attributes := #[] }
def k8m2 : Method := { name := "compress", desc := "([CII)[B", sig := { parameters := [(.array .char), .int, .int], returnType := some (.array .byte) }, accessFlags := 9, code := some k8c2 }
def k8c3 : Code := { maxStack := 3, maxLocals := 7, code := jdk_52_method_21_code, exceptionTable := #[], attributes := #[] }
def k8m3 : Method := { name := "compress", desc := "([CI[BII)I", sig := { parameters := [(.array .char), .int, (.array .byte), .int, .int], returnType := some .int }, accessFlags := 9, code := some k8c3 }
/-- java/lang/StringUTF16 -/
def k8 : Class := { plain "java/lang/StringUTF16" (some 0) with
  accessFlags := 48
  interfaces := #[]
  cf := some (fileOf pool8 12 #[.nestMembers #[627, 629, 369]] #[{ accessFlags := 0, nameIndex := 9, descriptorIndex := 10, attributes := #[] }, { accessFlags := 8, nameIndex := 261, descriptorIndex := 262, attributes := #[] }, { accessFlags := 9, nameIndex := 117, descriptorIndex := 122, attributes := #[] }, { accessFlags := 9, nameIndex := 117, descriptorIndex := 118, attributes := #[] }] 48 6 #[] #[{ accessFlags := 26, nameIndex := 61, descriptorIndex := 62, attributes := #[] }, { accessFlags := 26, nameIndex := 65, descriptorIndex := 62, attributes := #[] }, { accessFlags := 24, nameIndex := 430, descriptorIndex := 62, attributes := #[] }, { accessFlags := 4120, nameIndex := 46, descriptorIndex := 47, attributes := #[] }])
  fields := #[{ name := "HI_BYTE_SHIFT", type := .int, accessFlags := 26, slot := 0, constantValue := 0 }, { name := "LO_BYTE_SHIFT", type := .int, accessFlags := 26, slot := 1, constantValue := 0 }, { name := "MAX_LENGTH", type := .int, accessFlags := 24, slot := 2, constantValue := 0 }, { name := "$assertionsDisabled", type := .boolean, accessFlags := 4120, slot := 3, constantValue := 0 }]
  methods := #[k8m0, k8m1, k8m2, k8m3]
  instanceTypes := #[]
  staticTypes := #[.int, .int, .int, .boolean]
  resolved := Array.replicate 635 none
  statics := none }

def pool9 : Array CpInfo := pool [(1, .methodref 2 3), (0, .class_ 4), (0, .nameAndType 5 6), (0, u "java/lang/Object"), (0, u "<init>"), (0, u "()V"), (0, .fieldref 8 9), (0, .class_ 10), (0, .nameAndType 11 12), (0, u "com/example/inchworm/inchworm/handler/Action$Result"), (0, u "bytes"), (0, u "[B"), (0, .fieldref 8 14), (0, .nameAndType 15 16), (0, u "mediaType"), (0, u "Ljava/lang/String;"), (0, .fieldref 8 18), (0, .nameAndType 19 16), (0, u "reason"), (0, .string 11), (0, .methodref 22 23), (0, .class_ 24), (0, .nameAndType 25 26), (0, u "java/util/Objects"), (0, u "requireNonNull"), (0, u "(Ljava/lang/Object;Ljava/lang/String;)Ljava/lang/Object;"), (0, .class_ 12), (0, .string 15), (0, .class_ 30), (0, u "java/lang/String"), (0, .methodref 8 32), (0, .nameAndType 5 33), (0, u "([BLjava/lang/String;Ljava/lang/String;)V"), (3, u "replace"), (0, u "([BLjava/lang/String;)Lcom/example/inchworm/inchworm/handler/Action$Result;"), (2, u "refused"), (0, u "()Z"), (1, u "()[B"), (0, u "()Ljava/lang/String;"), (3, .class_ 50), (0, u "com/example/inchworm/inchworm/handler/Action")] 2

def k9c0 : Code := { maxStack := 2, maxLocals := 4, code := prog_6_method_1_code, exceptionTable := #[], attributes := #[] }
def k9m0 : Method := { name := "<init>", desc := "([BLjava/lang/String;Ljava/lang/String;)V", sig := { parameters := [(.array .byte), (.object "java/lang/String"), (.object "java/lang/String")], returnType := none }, accessFlags := 2, code := some k9c0 }
def k9c1 : Code := { maxStack := 5, maxLocals := 2, code := prog_6_method_2_code, exceptionTable := #[], attributes := #[] }
def k9m1 : Method := { name := "replace", desc := "([BLjava/lang/String;)Lcom/example/inchworm/inchworm/handler/Action$Result;", sig := { parameters := [(.array .byte), (.object "java/lang/String")], returnType := some (.object "com/example/inchworm/inchworm/handler/Action$Result") }, accessFlags := 9, code := some k9c1 }
def k9c2 : Code := { maxStack := 1, maxLocals := 1, code := prog_6_method_4_code, exceptionTable := #[], attributes := #[] }
def k9m2 : Method := { name := "refused", desc := "()Z", sig := { parameters := [], returnType := some .boolean }, accessFlags := 0, code := some k9c2 }
def k9c3 : Code := { maxStack := 1, maxLocals := 1, code := prog_6_method_5_code, exceptionTable := #[], attributes := #[] }
def k9m3 : Method := { name := "bytes", desc := "()[B", sig := { parameters := [], returnType := some (.array .byte) }, accessFlags := 0, code := some k9c3 }
def k9c4 : Code := { maxStack := 1, maxLocals := 1, code := prog_6_method_6_code, exceptionTable := #[], attributes := #[] }
def k9m4 : Method := { name := "mediaType", desc := "()Ljava/lang/String;", sig := { parameters := [], returnType := some (.object "java/lang/String") }, accessFlags := 0, code := some k9c4 }
def k9c5 : Code := { maxStack := 1, maxLocals := 1, code := prog_6_method_7_code, exceptionTable := #[], attributes := #[] }
def k9m5 : Method := { name := "reason", desc := "()Ljava/lang/String;", sig := { parameters := [], returnType := some (.object "java/lang/String") }, accessFlags := 0, code := some k9c5 }
/-- com/example/inchworm/inchworm/handler/Action$Result -/
def k9 : Class := { plain "com/example/inchworm/inchworm/handler/Action$Result" (some 0) with
  accessFlags := 49
  interfaces := #[]
  cf := some (fileOf pool9 8 #[.nestHost 49] #[{ accessFlags := 2, nameIndex := 5, descriptorIndex := 33, attributes := #[] }, { accessFlags := 9, nameIndex := 37, descriptorIndex := 38, attributes := #[] }, { accessFlags := 0, nameIndex := 41, descriptorIndex := 42, attributes := #[] }, { accessFlags := 0, nameIndex := 11, descriptorIndex := 44, attributes := #[] }, { accessFlags := 0, nameIndex := 15, descriptorIndex := 45, attributes := #[] }, { accessFlags := 0, nameIndex := 19, descriptorIndex := 45, attributes := #[] }] 49 2 #[] #[{ accessFlags := 18, nameIndex := 11, descriptorIndex := 12, attributes := #[] }, { accessFlags := 18, nameIndex := 15, descriptorIndex := 16, attributes := #[] }, { accessFlags := 18, nameIndex := 19, descriptorIndex := 16, attributes := #[] }])
  fields := #[{ name := "bytes", type := (.array .byte), accessFlags := 18, slot := 0, constantValue := 0 }, { name := "mediaType", type := (.object "java/lang/String"), accessFlags := 18, slot := 1, constantValue := 0 }, { name := "reason", type := (.object "java/lang/String"), accessFlags := 18, slot := 2, constantValue := 0 }]
  methods := #[k9m0, k9m1, k9m2, k9m3, k9m4, k9m5]
  instanceTypes := #[(.array .byte), (.object "java/lang/String"), (.object "java/lang/String")]
  staticTypes := #[]
  resolved := Array.replicate 53 none
  statics := none }

def pool10 : Array CpInfo := pool [(2, .class_ 4), (1, u "java/lang/Object"), (0, u "<init>"), (0, u "()V"), (35, .class_ 44), (1, u "java/util/Objects"), (0, u "requireNonNull"), (48, u "(Ljava/lang/Object;Ljava/lang/String;)Ljava/lang/Object;")] 89

def k10m0 : Method := { name := "<init>", desc := "()V", sig := { parameters := [], returnType := none }, accessFlags := 2, code := none }
def k10c1 : Code := { maxStack := 3, maxLocals := 2, code := jdk_31_method_11_code, exceptionTable := #[], attributes := #[] }
def k10m1 : Method := { name := "requireNonNull", desc := "(Ljava/lang/Object;Ljava/lang/String;)Ljava/lang/Object;", sig := { parameters := [(.object "java/lang/Object"), (.object "java/lang/String")], returnType := some (.object "java/lang/Object") }, accessFlags := 9, code := some k10c1 }
/-- java/util/Objects -/
def k10 : Class := { plain "java/util/Objects" (some 0) with
  accessFlags := 49
  interfaces := #[]
  cf := some (fileOf pool10 42 #[] #[{ accessFlags := 2, nameIndex := 5, descriptorIndex := 6, attributes := #[] }, { accessFlags := 9, nameIndex := 45, descriptorIndex := 94, attributes := #[] }] 49 2 #[] #[])
  fields := #[]
  methods := #[k10m0, k10m1]
  instanceTypes := #[]
  staticTypes := #[]
  resolved := Array.replicate 184 none
  statics := none }

def pool11 : Array CpInfo := pool [(4, .class_ 6), (1, u "java/lang/Object"), (0, u "<init>"), (0, u "()V"), (5, .class_ 16), (1, u "java/lang/StringLatin1"), (104, u "$assertionsDisabled"), (0, u "Z"), (98, .class_ 223), (1, u "java/lang/StringLatin1$LinesSpliterator"), (57, u "equals"), (0, u "([B[B)Z"), (107, .class_ 391), (0, u "java/lang/StringLatin1$CharsSpliterator")] 3

def k11m0 : Method := { name := "<init>", desc := "()V", sig := { parameters := [], returnType := none }, accessFlags := 0, code := none }
def k11c1 : Code := { maxStack := 3, maxLocals := 3, code := jdk_43_method_13_code, exceptionTable := #[], attributes := #[] }
def k11m1 : Method := { name := "equals", desc := "([B[B)Z", sig := { parameters := [(.array .byte), (.array .byte)], returnType := some .boolean }, accessFlags := 9, code := some k11c1 }
/-- java/lang/StringLatin1 -/
def k11 : Class := { plain "java/lang/StringLatin1" (some 0) with
  accessFlags := 48
  interfaces := #[]
  cf := some (fileOf pool11 14 #[.nestMembers #[390, 221]] #[{ accessFlags := 0, nameIndex := 7, descriptorIndex := 8, attributes := #[] }, { accessFlags := 9, nameIndex := 281, descriptorIndex := 282, attributes := #[] }] 48 4 #[] #[{ accessFlags := 4120, nameIndex := 121, descriptorIndex := 122, attributes := #[] }])
  fields := #[{ name := "$assertionsDisabled", type := .boolean, accessFlags := 4120, slot := 0, constantValue := 0 }]
  methods := #[k11m0, k11m1]
  instanceTypes := #[]
  staticTypes := #[.boolean]
  resolved := Array.replicate 395 none
  statics := none }

def pool12 : Array CpInfo := pool [(2, .class_ 4), (1, u "java/lang/Object"), (0, u "<init>"), (0, u "()V"), (17, .class_ 26), (1, u "jdk/internal/util/Preconditions"), (28, .class_ 56), (0, u "jdk/internal/util/Preconditions$4"), (57, .class_ 115), (0, u "jdk/internal/util/Preconditions$1"), (7, u "SIOOBE_FORMATTER"), (0, u "Ljava/util/function/BiFunction;"), (0, .class_ 126), (0, u "jdk/internal/util/Preconditions$2"), (3, u "AIOOBE_FORMATTER"), (0, .class_ 132), (0, u "jdk/internal/util/Preconditions$3"), (3, u "IOOBE_FORMATTER")] 57

def k12m0 : Method := { name := "<init>", desc := "()V", sig := { parameters := [], returnType := none }, accessFlags := 1, code := none }
/-- jdk/internal/util/Preconditions -/
def k12 : Class := { plain "jdk/internal/util/Preconditions" (some 0) with
  accessFlags := 33
  interfaces := #[]
  cf := some (fileOf pool12 24 #[.nestMembers #[55, 131, 125, 114]] #[{ accessFlags := 1, nameIndex := 5, descriptorIndex := 6, attributes := #[] }] 33 2 #[] #[{ accessFlags := 25, nameIndex := 123, descriptorIndex := 124, attributes := #[] }, { accessFlags := 25, nameIndex := 130, descriptorIndex := 124, attributes := #[] }, { accessFlags := 25, nameIndex := 136, descriptorIndex := 124, attributes := #[] }])
  fields := #[{ name := "SIOOBE_FORMATTER", type := (.object "java/util/function/BiFunction"), accessFlags := 25, slot := 0, constantValue := 0 }, { name := "AIOOBE_FORMATTER", type := (.object "java/util/function/BiFunction"), accessFlags := 25, slot := 1, constantValue := 0 }, { name := "IOOBE_FORMATTER", type := (.object "java/util/function/BiFunction"), accessFlags := 25, slot := 2, constantValue := 0 }]
  methods := #[k12m0]
  instanceTypes := #[]
  staticTypes := #[(.object "java/util/function/BiFunction"), (.object "java/util/function/BiFunction"), (.object "java/util/function/BiFunction")]
  resolved := Array.replicate 194 none
  statics := some 1 }

def pool13 : Array CpInfo := pool [(9, u "<init>"), (6, .class_ 18), (1, u "java/lang/Object"), (0, u "()V"), (1, .class_ 23), (1, u "jdk/internal/util/ArraysSupport"), (0, u "LOG2_ARRAY_LONG_INDEX_SCALE"), (0, u "I"), (2, u "U"), (0, u "Ljdk/internal/misc/Unsafe;"), (8, u "BIG_ENDIAN"), (0, u "Z"), (8, u "LOG2_BYTE_BIT_SIZE"), (4, u "LOG2_ARRAY_INT_INDEX_SCALE"), (54, u "JLA"), (0, u "Ljdk/internal/access/JavaLangAccess;"), (11, u "LOG2_ARRAY_BOOLEAN_INDEX_SCALE"), (9, u "LOG2_ARRAY_BYTE_INDEX_SCALE"), (5, u "LOG2_ARRAY_CHAR_INDEX_SCALE"), (5, u "LOG2_ARRAY_SHORT_INDEX_SCALE"), (18, u "LOG2_ARRAY_FLOAT_INDEX_SCALE"), (24, u "LOG2_ARRAY_DOUBLE_INDEX_SCALE"), (89, u "T_BOOLEAN"), (2, u "T_CHAR"), (1, u "T_FLOAT"), (1, u "T_DOUBLE"), (1, u "T_BYTE"), (1, u "T_SHORT"), (1, u "T_INT"), (1, u "T_LONG"), (1, u "SOFT_MAX_ARRAY_LENGTH")] 83

def k13m0 : Method := { name := "<init>", desc := "()V", sig := { parameters := [], returnType := none }, accessFlags := 2, code := none }
/-- jdk/internal/util/ArraysSupport -/
def k13 : Class := { plain "jdk/internal/util/ArraysSupport" (some 0) with
  accessFlags := 33
  interfaces := #[]
  cf := some (fileOf pool13 21 #[] #[{ accessFlags := 2, nameIndex := 9, descriptorIndex := 19, attributes := #[] }] 33 16 #[] #[{ accessFlags := 24, nameIndex := 28, descriptorIndex := 29, attributes := #[] }, { accessFlags := 26, nameIndex := 38, descriptorIndex := 39, attributes := #[] }, { accessFlags := 25, nameIndex := 121, descriptorIndex := 25, attributes := #[] }, { accessFlags := 25, nameIndex := 131, descriptorIndex := 25, attributes := #[] }, { accessFlags := 25, nameIndex := 137, descriptorIndex := 25, attributes := #[] }, { accessFlags := 25, nameIndex := 143, descriptorIndex := 25, attributes := #[] }, { accessFlags := 25, nameIndex := 53, descriptorIndex := 25, attributes := #[] }, { accessFlags := 25, nameIndex := 24, descriptorIndex := 25, attributes := #[] }, { accessFlags := 25, nameIndex := 162, descriptorIndex := 25, attributes := #[] }, { accessFlags := 25, nameIndex := 187, descriptorIndex := 25, attributes := #[] }, { accessFlags := 26, nameIndex := 48, descriptorIndex := 25, attributes := #[] }, { accessFlags := 25, nameIndex := 277, descriptorIndex := 25, attributes := #[] }, { accessFlags := 25, nameIndex := 280, descriptorIndex := 25, attributes := #[] }, { accessFlags := 25, nameIndex := 282, descriptorIndex := 25, attributes := #[] }, { accessFlags := 25, nameIndex := 284, descriptorIndex := 25, attributes := #[] }, { accessFlags := 25, nameIndex := 286, descriptorIndex := 25, attributes := #[] }, { accessFlags := 25, nameIndex := 288, descriptorIndex := 25, attributes := #[] }, { accessFlags := 25, nameIndex := 290, descriptorIndex := 25, attributes := #[] }, { accessFlags := 25, nameIndex := 292, descriptorIndex := 25, attributes := #[] }, { accessFlags := 26, nameIndex := 108, descriptorIndex := 109, attributes := #[] }, { accessFlags := 25, nameIndex := 294, descriptorIndex := 25, attributes := #[] }])
  fields := #[{ name := "U", type := (.object "jdk/internal/misc/Unsafe"), accessFlags := 24, slot := 0, constantValue := 0 }, { name := "BIG_ENDIAN", type := .boolean, accessFlags := 26, slot := 1, constantValue := 0 }, { name := "LOG2_ARRAY_BOOLEAN_INDEX_SCALE", type := .int, accessFlags := 25, slot := 2, constantValue := 0 }, { name := "LOG2_ARRAY_BYTE_INDEX_SCALE", type := .int, accessFlags := 25, slot := 3, constantValue := 0 }, { name := "LOG2_ARRAY_CHAR_INDEX_SCALE", type := .int, accessFlags := 25, slot := 4, constantValue := 0 }, { name := "LOG2_ARRAY_SHORT_INDEX_SCALE", type := .int, accessFlags := 25, slot := 5, constantValue := 0 }, { name := "LOG2_ARRAY_INT_INDEX_SCALE", type := .int, accessFlags := 25, slot := 6, constantValue := 0 }, { name := "LOG2_ARRAY_LONG_INDEX_SCALE", type := .int, accessFlags := 25, slot := 7, constantValue := 0 }, { name := "LOG2_ARRAY_FLOAT_INDEX_SCALE", type := .int, accessFlags := 25, slot := 8, constantValue := 0 }, { name := "LOG2_ARRAY_DOUBLE_INDEX_SCALE", type := .int, accessFlags := 25, slot := 9, constantValue := 0 }, { name := "LOG2_BYTE_BIT_SIZE", type := .int, accessFlags := 26, slot := 10, constantValue := 0 }, { name := "T_BOOLEAN", type := .int, accessFlags := 25, slot := 11, constantValue := 0 }, { name := "T_CHAR", type := .int, accessFlags := 25, slot := 12, constantValue := 0 }, { name := "T_FLOAT", type := .int, accessFlags := 25, slot := 13, constantValue := 0 }, { name := "T_DOUBLE", type := .int, accessFlags := 25, slot := 14, constantValue := 0 }, { name := "T_BYTE", type := .int, accessFlags := 25, slot := 15, constantValue := 0 }, { name := "T_SHORT", type := .int, accessFlags := 25, slot := 16, constantValue := 0 }, { name := "T_INT", type := .int, accessFlags := 25, slot := 17, constantValue := 0 }, { name := "T_LONG", type := .int, accessFlags := 25, slot := 18, constantValue := 0 }, { name := "JLA", type := (.object "jdk/internal/access/JavaLangAccess"), accessFlags := 26, slot := 19, constantValue := 0 }, { name := "SOFT_MAX_ARRAY_LENGTH", type := .int, accessFlags := 25, slot := 20, constantValue := 0 }]
  methods := #[k13m0]
  instanceTypes := #[]
  staticTypes := #[(.object "jdk/internal/misc/Unsafe"), .boolean, .int, .int, .int, .int, .int, .int, .int, .int, .int, .int, .int, .int, .int, .int, .int, .int, .int, (.object "jdk/internal/access/JavaLangAccess"), .int]
  resolved := Array.replicate 378 none
  statics := none }

def pool14 : Array CpInfo := pool [(1, u "java/lang/Cloneable"), (0, .class_ 1), (0, u "java/lang/Object"), (0, .class_ 3)] 3

/-- java/lang/Cloneable -/
def k14 : Class := { plain "java/lang/Cloneable" (some 0) with
  accessFlags := 1537
  interfaces := #[]
  cf := some (fileOf pool14 2 #[] #[] 1537 4 #[] #[])
  fields := #[]
  methods := #[]
  instanceTypes := #[]
  staticTypes := #[]
  resolved := Array.replicate 8 none
  statics := none }

/-- the primitive byte -/
def k15 : Class := { plain "byte" none with kind := .primitive 'B', accessFlags := 0x411 }
/-- [B -/
def k16 : Class := { plain "[B" (some 0) with kind := .array 15 .byte, interfaces := #[14, 2], accessFlags := 1041 }

/-- the primitive char -/
def k17 : Class := { plain "char" none with kind := .primitive 'C', accessFlags := 0x411 }
/-- [C -/
def k18 : Class := { plain "[C" (some 0) with kind := .array 17 .char, interfaces := #[14, 2], accessFlags := 1041 }

def heap : Heap := #[{ cls := 7, slots := #[.long 0, .int 1, .null, .int 0, .null, .int 0, .int 0], vm := .statics 7 },
  { cls := 12, slots := #[.null, .null, .null], vm := .statics 12 }]
def classes : Array Class := #[k0, k1, k2, k3, k4, k5, k6, k7, k8, k9, k10, k11, k12, k13, k14, k15, k16, k17, k18]
def interned : List (Array UInt16 × Addr) := []
def slotsUsed : Nat := 10
def theMethod : MethodId := ⟨1, 1⟩
def args0 : Array Value := #[.int 1, .int 5, .int 2, .int 7]
def aboutOver (below : List Frame) : State where
  vm := { classes := classes, interned := interned.toArray }
  heap := heap
  slotsUsed := slotsUsed
  threads := #[{ frames := .invoking theMethod args0 :: below }]
def below0 : List Frame := [.native { method := ⟨0, 0⟩, args := #[] }]
def about1 : State := aboutOver below0
def p0 : Program := .bare "" "" ""
def e0 : Env := launch0.env 0 0 0
theorem w_frames : about1.frames = Frame.invoking theMethod args0 :: below0 := rfl
set_option maxRecDepth 65536 in
theorem w_args : argsFit about1.vm theMethod args0 = true := by decide +kernel
set_option maxRecDepth 65536 in
theorem w_heap : heapFits about1 = true := by decide +kernel
set_option maxRecDepth 65536 in
theorem w_runnable : about1.curStatus? = some .runnable := by decide +kernel
set_option maxRecDepth 65536 in
theorem w_alone : about1.alone = true := by decide +kernel
set_option maxRecDepth 65536 in
theorem w_named : about1.methodNamed? x = some theMethod := by decide +kernel
set_option maxRecDepth 65536 in
theorem w_hears : about1.hears theMethod below0 = true := by decide +kernel
set_option maxRecDepth 65536 in
theorem w_ripe : about1.ripe theMethod args0 below0 = true := by decide +kernel
theorem w_running : about1.status = .running := rfl
set_option maxRecDepth 65536 in
theorem w_room : about1.hasRoom e0.platform room_1 = true :=
  launch0.hasRoom_least _ room_1 (by decide +kernel) (by decide +kernel) (by decide +kernel) (by decide +kernel) (by decide +kernel) (by decide +kernel)
theorem allAtoms_all (ts : List Jvm.Cond) (a : Array Jvm.Value) (st : Jvm.State) : (allAtoms ts).before a st = ts.all (fun c => c.before a st) := by
  induction ts with
  | nil => rfl
  | cons c t ih =>
    show (Jvm.Cond.and c (allAtoms t)).before a st = _
    rw [Jvm.Cond.before_and, ih, List.all_cons]
def words1 : List Jvm.Cond := Jvm.Cond.code x code maxLocals ret :: tables_1
/-- a 'code' word, met by the world's own term for the bytes: nothing is compared byte by byte -/
theorem code_word {y : MethodName} {bytes : ByteArray} {mx : Nat} {rt : Option FieldType} {a : Array Value} {s : State} {m : MethodId} {meth : Method} {c : Code} (h1 : s.methodNamed? y = some m) (h2 : s.vm.method? m = some meth) (h3 : meth.code = some c) (h4 : c.code = bytes)
    (h5 : (c.maxLocals == mx && c.exceptionTable.isEmpty && decide (c.maxStack ≤ mostOperands) && decide (meth.sig.returnType = rt) && !meth.locks && decide (parseMethodDescriptor y.desc = some meth.sig)) = true) : (Jvm.Cond.code y bytes mx rt).before a s = true := by
  simp only [Bool.and_eq_true, beq_iff_eq, Bool.not_eq_true', decide_eq_true_eq] at h5
  obtain ⟨⟨⟨⟨⟨g1, g2⟩, g3⟩, g4⟩, g5⟩, g6⟩ := h5
  simp [Cond.before, Cond.holds, Cond.value, h1, h2, h3, h4, g1, g2, g3, g4, g5, g6]
def isCode : Jvm.Cond → Bool
  | .code _ _ _ _ => true
  | _ => false
theorem all_split {L : List Jvm.Cond} {P : Jvm.Cond → Bool} (h1 : L.all (fun c => isCode c || P c) = true) (h2 : ∀ c ∈ L.filter isCode, P c = true) : L.all P = true := by
  refine List.all_eq_true.mpr fun c hc => ?_
  have h := List.all_eq_true.mp h1 c hc
  rcases Bool.eq_false_or_eq_true (isCode c) with hi | hi
  · exact h2 c (List.mem_filter.mpr ⟨hc, hi⟩)
  · simpa [hi] using h
set_option maxRecDepth 65536 in
theorem w_c0 : (Jvm.Cond.code x code maxLocals ret).before args0 about1 = true := code_word (m := ⟨1, 1⟩) (meth := k1m1) (c := k1c1) (by decide +kernel) rfl rfl rfl (by decide +kernel)
set_option maxRecDepth 65536 in
theorem w_c1 : (Jvm.Cond.code ({ cls := "com/example/inchworm/inchworm/handler/ResultReplacePinLaw", name := "bytesOf", desc := "(II)[B" } : Jvm.MethodName) method_3_code (5 : Nat) (Option.some (Jvm.ClassFile.FieldType.array Jvm.ClassFile.FieldType.byte))).before args0 about1 = true := code_word (m := ⟨1, 2⟩) (meth := k1m2) (c := k1c2) (by decide +kernel) rfl rfl rfl (by decide +kernel)
set_option maxRecDepth 65536 in
theorem w_c2 : (Jvm.Cond.code ({ cls := "com/example/inchworm/inchworm/handler/ResultReplacePinLaw", name := "stringOf", desc := "(II)Ljava/lang/String;" } : Jvm.MethodName) method_5_code (5 : Nat) (Option.some (Jvm.ClassFile.FieldType.object "java/lang/String"))).before args0 about1 = true := code_word (m := ⟨1, 4⟩) (meth := k1m4) (c := k1c4) (by decide +kernel) rfl rfl rfl (by decide +kernel)
set_option maxRecDepth 65536 in
theorem w_c3 : (Jvm.Cond.code ({ cls := "java/lang/String", name := "<init>", desc := "([C)V" } : Jvm.MethodName) jdk_42_method_3_code (2 : Nat) (Option.none : Option Jvm.ClassFile.FieldType)).before args0 about1 = true := code_word (m := ⟨7, 1⟩) (meth := k7m1) (c := k7c1) (by decide +kernel) rfl rfl rfl (by decide +kernel)
set_option maxRecDepth 65536 in
theorem w_c4 : (Jvm.Cond.code ({ cls := "java/lang/String", name := "<init>", desc := "([CIILjava/lang/Void;)V" } : Jvm.MethodName) jdk_42_method_149_code (6 : Nat) (Option.none : Option Jvm.ClassFile.FieldType)).before args0 about1 = true := code_word (m := ⟨7, 3⟩) (meth := k7m3) (c := k7c3) (by decide +kernel) rfl rfl rfl (by decide +kernel)
set_option maxRecDepth 65536 in
theorem w_c5 : (Jvm.Cond.code ({ cls := "java/lang/Object", name := "<init>", desc := "()V" } : Jvm.MethodName) object_method_1_code (1 : Nat) (Option.none : Option Jvm.ClassFile.FieldType)).before args0 about1 = true := code_word (m := ⟨0, 0⟩) (meth := k0m0) (c := k0c0) (by decide +kernel) rfl rfl rfl (by decide +kernel)
set_option maxRecDepth 65536 in
theorem w_c6 : (Jvm.Cond.code ({ cls := "java/lang/StringUTF16", name := "compress", desc := "([CII)[B" } : Jvm.MethodName) jdk_52_method_16_code (6 : Nat) (Option.some (Jvm.ClassFile.FieldType.array Jvm.ClassFile.FieldType.byte))).before args0 about1 = true := code_word (m := ⟨8, 2⟩) (meth := k8m2) (c := k8c2) (by decide +kernel) rfl rfl rfl (by decide +kernel)
set_option maxRecDepth 65536 in
theorem w_c7 : (Jvm.Cond.code ({ cls := "java/lang/StringUTF16", name := "compress", desc := "([CI[BII)I" } : Jvm.MethodName) jdk_52_method_21_code (7 : Nat) (Option.some Jvm.ClassFile.FieldType.int)).before args0 about1 = true := code_word (m := ⟨8, 3⟩) (meth := k8m3) (c := k8c3) (by decide +kernel) rfl rfl rfl (by decide +kernel)
set_option maxRecDepth 65536 in
theorem w_c8 : (Jvm.Cond.code ({ cls := "java/lang/StringUTF16", name := "coderFromArrayLen", desc := "([BI)B" } : Jvm.MethodName) jdk_52_method_15_code (2 : Nat) (Option.some Jvm.ClassFile.FieldType.byte)).before args0 about1 = true := code_word (m := ⟨8, 1⟩) (meth := k8m1) (c := k8c1) (by decide +kernel) rfl rfl rfl (by decide +kernel)
set_option maxRecDepth 65536 in
theorem w_c9 : (Jvm.Cond.code ({ cls := "com/example/inchworm/inchworm/handler/Action$Result", name := "replace", desc := "([BLjava/lang/String;)Lcom/example/inchworm/inchworm/handler/Action$Result;" } : Jvm.MethodName) prog_6_method_2_code (2 : Nat) (Option.some (Jvm.ClassFile.FieldType.object "com/example/inchworm/inchworm/handler/Action$Result"))).before args0 about1 = true := code_word (m := ⟨9, 1⟩) (meth := k9m1) (c := k9c1) (by decide +kernel) rfl rfl rfl (by decide +kernel)
set_option maxRecDepth 65536 in
theorem w_c10 : (Jvm.Cond.code ({ cls := "java/util/Objects", name := "requireNonNull", desc := "(Ljava/lang/Object;Ljava/lang/String;)Ljava/lang/Object;" } : Jvm.MethodName) jdk_31_method_11_code (2 : Nat) (Option.some (Jvm.ClassFile.FieldType.object "java/lang/Object"))).before args0 about1 = true := code_word (m := ⟨10, 1⟩) (meth := k10m1) (c := k10c1) (by decide +kernel) rfl rfl rfl (by decide +kernel)
set_option maxRecDepth 65536 in
theorem w_c11 : (Jvm.Cond.code ({ cls := "com/example/inchworm/inchworm/handler/Action$Result", name := "<init>", desc := "([BLjava/lang/String;Ljava/lang/String;)V" } : Jvm.MethodName) prog_6_method_1_code (4 : Nat) (Option.none : Option Jvm.ClassFile.FieldType)).before args0 about1 = true := code_word (m := ⟨9, 0⟩) (meth := k9m0) (c := k9c0) (by decide +kernel) rfl rfl rfl (by decide +kernel)
set_option maxRecDepth 65536 in
theorem w_c12 : (Jvm.Cond.code ({ cls := "com/example/inchworm/inchworm/handler/Action$Result", name := "refused", desc := "()Z" } : Jvm.MethodName) prog_6_method_4_code (1 : Nat) (Option.some Jvm.ClassFile.FieldType.boolean)).before args0 about1 = true := code_word (m := ⟨9, 2⟩) (meth := k9m2) (c := k9c2) (by decide +kernel) rfl rfl rfl (by decide +kernel)
set_option maxRecDepth 65536 in
theorem w_c13 : (Jvm.Cond.code ({ cls := "com/example/inchworm/inchworm/handler/Action$Result", name := "bytes", desc := "()[B" } : Jvm.MethodName) prog_6_method_5_code (1 : Nat) (Option.some (Jvm.ClassFile.FieldType.array Jvm.ClassFile.FieldType.byte))).before args0 about1 = true := code_word (m := ⟨9, 3⟩) (meth := k9m3) (c := k9c3) (by decide +kernel) rfl rfl rfl (by decide +kernel)
set_option maxRecDepth 65536 in
theorem w_c14 : (Jvm.Cond.code ({ cls := "com/example/inchworm/inchworm/handler/Action$Result", name := "mediaType", desc := "()Ljava/lang/String;" } : Jvm.MethodName) prog_6_method_6_code (1 : Nat) (Option.some (Jvm.ClassFile.FieldType.object "java/lang/String"))).before args0 about1 = true := code_word (m := ⟨9, 4⟩) (meth := k9m4) (c := k9c4) (by decide +kernel) rfl rfl rfl (by decide +kernel)
set_option maxRecDepth 65536 in
theorem w_c15 : (Jvm.Cond.code ({ cls := "com/example/inchworm/inchworm/handler/Action$Result", name := "reason", desc := "()Ljava/lang/String;" } : Jvm.MethodName) prog_6_method_7_code (1 : Nat) (Option.some (Jvm.ClassFile.FieldType.object "java/lang/String"))).before args0 about1 = true := code_word (m := ⟨9, 5⟩) (meth := k9m5) (c := k9c5) (by decide +kernel) rfl rfl rfl (by decide +kernel)
set_option maxRecDepth 65536 in
theorem w_c16 : (Jvm.Cond.code ({ cls := "com/example/inchworm/inchworm/handler/ResultReplacePinLaw", name := "sameBytes", desc := "([BII)Z" } : Jvm.MethodName) method_4_code (3 : Nat) (Option.some Jvm.ClassFile.FieldType.boolean)).before args0 about1 = true := code_word (m := ⟨1, 3⟩) (meth := k1m3) (c := k1c3) (by decide +kernel) rfl rfl rfl (by decide +kernel)
set_option maxRecDepth 65536 in
theorem w_c17 : (Jvm.Cond.code ({ cls := "java/lang/String", name := "equals", desc := "(Ljava/lang/Object;)Z" } : Jvm.MethodName) jdk_42_method_66_code (3 : Nat) (Option.some Jvm.ClassFile.FieldType.boolean)).before args0 about1 = true := code_word (m := ⟨7, 2⟩) (meth := k7m2) (c := k7c2) (by decide +kernel) rfl rfl rfl (by decide +kernel)
set_option maxRecDepth 65536 in
theorem w_c18 : (Jvm.Cond.code ({ cls := "java/lang/StringLatin1", name := "equals", desc := "([B[B)Z" } : Jvm.MethodName) jdk_43_method_13_code (3 : Nat) (Option.some Jvm.ClassFile.FieldType.boolean)).before args0 about1 = true := code_word (m := ⟨11, 1⟩) (meth := k11m1) (c := k11c1) (by decide +kernel) rfl rfl rfl (by decide +kernel)
def codes1 : List Jvm.Cond := [Jvm.Cond.code x code maxLocals ret, Jvm.Cond.code ({ cls := "com/example/inchworm/inchworm/handler/ResultReplacePinLaw", name := "bytesOf", desc := "(II)[B" } : Jvm.MethodName) method_3_code (5 : Nat) (Option.some (Jvm.ClassFile.FieldType.array Jvm.ClassFile.FieldType.byte)), Jvm.Cond.code ({ cls := "com/example/inchworm/inchworm/handler/ResultReplacePinLaw", name := "stringOf", desc := "(II)Ljava/lang/String;" } : Jvm.MethodName) method_5_code (5 : Nat) (Option.some (Jvm.ClassFile.FieldType.object "java/lang/String")), Jvm.Cond.code ({ cls := "java/lang/String", name := "<init>", desc := "([C)V" } : Jvm.MethodName) jdk_42_method_3_code (2 : Nat) (Option.none : Option Jvm.ClassFile.FieldType), Jvm.Cond.code ({ cls := "java/lang/String", name := "<init>", desc := "([CIILjava/lang/Void;)V" } : Jvm.MethodName) jdk_42_method_149_code (6 : Nat) (Option.none : Option Jvm.ClassFile.FieldType), Jvm.Cond.code ({ cls := "java/lang/Object", name := "<init>", desc := "()V" } : Jvm.MethodName) object_method_1_code (1 : Nat) (Option.none : Option Jvm.ClassFile.FieldType), Jvm.Cond.code ({ cls := "java/lang/StringUTF16", name := "compress", desc := "([CII)[B" } : Jvm.MethodName) jdk_52_method_16_code (6 : Nat) (Option.some (Jvm.ClassFile.FieldType.array Jvm.ClassFile.FieldType.byte)), Jvm.Cond.code ({ cls := "java/lang/StringUTF16", name := "compress", desc := "([CI[BII)I" } : Jvm.MethodName) jdk_52_method_21_code (7 : Nat) (Option.some Jvm.ClassFile.FieldType.int), Jvm.Cond.code ({ cls := "java/lang/StringUTF16", name := "coderFromArrayLen", desc := "([BI)B" } : Jvm.MethodName) jdk_52_method_15_code (2 : Nat) (Option.some Jvm.ClassFile.FieldType.byte), Jvm.Cond.code ({ cls := "com/example/inchworm/inchworm/handler/Action$Result", name := "replace", desc := "([BLjava/lang/String;)Lcom/example/inchworm/inchworm/handler/Action$Result;" } : Jvm.MethodName) prog_6_method_2_code (2 : Nat) (Option.some (Jvm.ClassFile.FieldType.object "com/example/inchworm/inchworm/handler/Action$Result")), Jvm.Cond.code ({ cls := "java/util/Objects", name := "requireNonNull", desc := "(Ljava/lang/Object;Ljava/lang/String;)Ljava/lang/Object;" } : Jvm.MethodName) jdk_31_method_11_code (2 : Nat) (Option.some (Jvm.ClassFile.FieldType.object "java/lang/Object")), Jvm.Cond.code ({ cls := "com/example/inchworm/inchworm/handler/Action$Result", name := "<init>", desc := "([BLjava/lang/String;Ljava/lang/String;)V" } : Jvm.MethodName) prog_6_method_1_code (4 : Nat) (Option.none : Option Jvm.ClassFile.FieldType), Jvm.Cond.code ({ cls := "com/example/inchworm/inchworm/handler/Action$Result", name := "refused", desc := "()Z" } : Jvm.MethodName) prog_6_method_4_code (1 : Nat) (Option.some Jvm.ClassFile.FieldType.boolean), Jvm.Cond.code ({ cls := "com/example/inchworm/inchworm/handler/Action$Result", name := "bytes", desc := "()[B" } : Jvm.MethodName) prog_6_method_5_code (1 : Nat) (Option.some (Jvm.ClassFile.FieldType.array Jvm.ClassFile.FieldType.byte)), Jvm.Cond.code ({ cls := "com/example/inchworm/inchworm/handler/Action$Result", name := "mediaType", desc := "()Ljava/lang/String;" } : Jvm.MethodName) prog_6_method_6_code (1 : Nat) (Option.some (Jvm.ClassFile.FieldType.object "java/lang/String")), Jvm.Cond.code ({ cls := "com/example/inchworm/inchworm/handler/Action$Result", name := "reason", desc := "()Ljava/lang/String;" } : Jvm.MethodName) prog_6_method_7_code (1 : Nat) (Option.some (Jvm.ClassFile.FieldType.object "java/lang/String")), Jvm.Cond.code ({ cls := "com/example/inchworm/inchworm/handler/ResultReplacePinLaw", name := "sameBytes", desc := "([BII)Z" } : Jvm.MethodName) method_4_code (3 : Nat) (Option.some Jvm.ClassFile.FieldType.boolean), Jvm.Cond.code ({ cls := "java/lang/String", name := "equals", desc := "(Ljava/lang/Object;)Z" } : Jvm.MethodName) jdk_42_method_66_code (3 : Nat) (Option.some Jvm.ClassFile.FieldType.boolean), Jvm.Cond.code ({ cls := "java/lang/StringLatin1", name := "equals", desc := "([B[B)Z" } : Jvm.MethodName) jdk_43_method_13_code (3 : Nat) (Option.some Jvm.ClassFile.FieldType.boolean)]
set_option maxRecDepth 65536 in
theorem codes_eq : words1.filter isCode = codes1 := rfl
theorem w_codes : ∀ c ∈ words1.filter isCode, c.before args0 about1 = true := by
  rw [codes_eq]
  intro c hc
  simp only [codes1, List.mem_cons, List.not_mem_nil, or_false] at hc
  rcases hc with rfl | rfl | rfl | rfl | rfl | rfl | rfl | rfl | rfl | rfl | rfl | rfl | rfl | rfl | rfl | rfl | rfl | rfl | rfl
  · exact w_c0
  · exact w_c1
  · exact w_c2
  · exact w_c3
  · exact w_c4
  · exact w_c5
  · exact w_c6
  · exact w_c7
  · exact w_c8
  · exact w_c9
  · exact w_c10
  · exact w_c11
  · exact w_c12
  · exact w_c13
  · exact w_c14
  · exact w_c15
  · exact w_c16
  · exact w_c17
  · exact w_c18
set_option maxRecDepth 65536 in
theorem w_t1 : (words1.take 24).all (fun c => isCode c || c.before args0 about1) = true := by decide +kernel
set_option maxRecDepth 65536 in
theorem w_t2 : ((words1.drop 24).take 24).all (fun c => isCode c || c.before args0 about1) = true := by decide +kernel
set_option maxRecDepth 65536 in
theorem w_t3 : (((words1.drop 24).drop 24).take 24).all (fun c => isCode c || c.before args0 about1) = true := by decide +kernel
set_option maxRecDepth 65536 in
theorem w_t4 : ((((words1.drop 24).drop 24).drop 24).take 24).all (fun c => isCode c || c.before args0 about1) = true := by decide +kernel
set_option maxRecDepth 65536 in
theorem w_t5 : ((((words1.drop 24).drop 24).drop 24).drop 24).all (fun c => isCode c || c.before args0 about1) = true := by decide +kernel
theorem w_tables : (allAtoms (Jvm.Cond.code x code maxLocals ret :: tables_1)).before args0 about1 = true := by
  rw [allAtoms_all]
  show words1.all (fun c => c.before args0 about1) = true
  refine all_split ?_ w_codes
  rw [← List.take_append_drop 24 words1, List.all_append, w_t1, ← List.take_append_drop 24 (words1.drop 24), List.all_append, w_t2, ← List.take_append_drop 24 ((words1.drop 24).drop 24), List.all_append, w_t3, ← List.take_append_drop 24 (((words1.drop 24).drop 24).drop 24), List.all_append, w_t4, w_t5]
  rfl
set_option maxRecDepth 65536 in
theorem w_rest : rest_1_c.before args0 about1 = true := by decide +kernel
set_option maxRecDepth 65536 in
theorem w_case : (Jvm.Cond.and given_1 narrow_1).before args0 about1 = true := by decide +kernel
set_option maxRecDepth 65536 in
theorem w_consts : constsHeld consts_1 about1 := Jvm.Lit.constsHeldB_iff.mp (by decide +kernel)
theorem w_applies : (headSpec (Jvm.Cond.code x code maxLocals ret :: tables_1) room_1).applies x e0.platform about1 = true :=
  (Spec.applies_iff w_frames).mpr ⟨w_running, w_runnable, w_alone, w_named, w_hears, w_ripe, w_room, w_tables⟩
theorem atStart : AtStart classFile x code maxLocals ret World_1 tables_1 room_1 Calls_1 rest_1 Pre_1 launch0 p0 e0 about1 theMethod args0 below0 :=
  ⟨lists_1, trivial, launch0.admits_env _ _ _, launch0.least_env, fairChoices_fair.cas, fairChoices_fair.clock, w_frames, w_args, w_heap, w_applies, ⟨w_consts, trivial⟩, w_rest, w_case⟩
end start1
theorem witness_1 : WitnessClaimed_1 := ⟨start1.p0, start1.e0, start1.about1, start1.theMethod, start1.args0, start1.below0, start1.atStart⟩
end Jvm.Pilot.@@N@@
