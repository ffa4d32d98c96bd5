import JvmDerived
import JvmDerived.Pilot.@@N@@Statement
import JvmDerived.Pilot.@@N@@Code
set_option linter.unusedVariables false
set_option linter.unusedSimpArgs false
/- laws to paste: Road.backV (cut by pick.py; bodies as the Statement names them) -/
namespace Jvm.Pilot.@@N@@
namespace StrChars
open Jvm Sem ClassFile Op Lib Jvm.Stand Jvm.Free.XT Jvm.Free.ALB Jvm.Free.JM Jvm.Free
open Jvm.Lib.Cold (StaticIs)
/-- a char array whose places are chars -/
def Ch (a : Addr) (A : Cell) (U : State) : Prop := Arr .char a A U ∧ Typed .char A
theorem Ch.mv {a : Addr} {A : Cell} {U U' : State} (h : Ch a A U) (hal : U.vm.Alike U'.vm) (hh : U'.heap = U.heap) : Ch a A U' := ⟨h.1.mv hal hh, h.2⟩
theorem Ch.keep {a : Addr} {A : Cell} {U U' : State} (h : Ch a A U) (hal : U.vm.Alike U'.vm) (hk : U'.heap[a]? = some A) : Ch a A U' := ⟨h.1.keep hal hk, h.2⟩
/-- what place i of a char[]'s cell holds -/
def cv (A : Cell) (i : Nat) : Int32 := match A.slots[i]? with | some (.int x) => x | _ => 0
theorem Ch.get {a : Addr} {A : Cell} {U : State} (h : Ch a A U) {i : Nat} (hi : i < A.slots.size) : A.slots[i]? = some (.int (cv A i)) := by
  have e := Array.getElem?_eq_getElem hi
  have f := h.2 i _ e
  unfold cv; rw [e]
  generalize A.slots[i] = v at f
  cases v <;> simp [fits] at f ⊢
/-- the byte that i2b leaves of a char -/
def lo8 (x : Int32) : Int32 := x.toInt8.toInt32
theorem fits_lo8 (y : Int32) : fits .byte (.int (lo8 y)) = true := by
  have h1 := y.toInt8.le_toInt
  have h2 := y.toInt8.toInt_lt
  simp only [lo8, fits, Bool.and_eq_true, decide_eq_true_eq, Int32.le_iff_toInt_le, Int8.toInt_toInt32, show (-128 : Int32).toInt = -128 from by decide, show (127 : Int32).toInt = 127 from by decide]
  omega
/-- A' is A but that each place j of lo .. hi - 1 holds f j -/
def Laid (A A' : Cell) (lo hi : Nat) (f : Nat → Value) : Prop := A'.cls = A.cls ∧ A'.vm = A.vm ∧ A'.slots.size = A.slots.size ∧ ∀ i, A'.slots[i]? = if lo ≤ i ∧ i < hi then some (f i) else A.slots[i]?
theorem Laid.zero (A : Cell) (lo : Nat) (f : Nat → Value) : Laid A A lo (lo + 0) f := ⟨rfl, rfl, rfl, fun i => by rw [if_neg (by omega)]⟩
theorem Laid.step {A Ak : Cell} {lo k : Nat} {f : Nat → Value} {v : Value} (h : Laid A Ak lo k f) (hlo : lo ≤ k) (hk : k < Ak.slots.size) (hv : v = f k) : Laid A (Ak.setSlot k v) lo (k + 1) f := by
  refine ⟨h.1, h.2.1, by simpa [Cell.setSlot] using h.2.2.1, fun i => ?_⟩
  by_cases e : k = i
  · subst e; rw [Cell.slots_setSlot_self v hk, if_pos (by omega), hv]
  · rw [Cell.slots_setSlot_ne v e, h.2.2.2 i]
    by_cases q : lo ≤ i ∧ i < k
    · rw [if_pos q, if_pos (by omega)]
    · rw [if_neg q, if_neg (by omega)]
def U16 : String := "java/lang/StringUTF16"
namespace Cmp5
def yN : MethodName := ⟨"java/lang/StringUTF16", "compress", "([CI[BII)I"⟩
abbrev yB : ByteArray := jdk_52_method_21_code
theorem d0 : decode yB 0 = .ok (.iconst 0, 1) := by decide +kernel
theorem d1 : decode yB 1 = .ok (.istore 5, 2) := by decide +kernel
theorem d3 : decode yB 3 = .ok (.iload 5, 2) := by decide +kernel
theorem d5 : decode yB 5 = .ok (.iload 4, 2) := by decide +kernel
theorem d7 : decode yB 7 = .ok (.if_icmp (.ge) 37, 3) := by decide +kernel
theorem d10 : decode yB 10 = .ok (.aload_n 0, 1) := by decide +kernel
theorem d11 : decode yB 11 = .ok (.iload_n 1, 1) := by decide +kernel
theorem d12 : decode yB 12 = .ok (.caload, 1) := by decide +kernel
theorem d13 : decode yB 13 = .ok (.istore 6, 2) := by decide +kernel
theorem d15 : decode yB 15 = .ok (.iload 6, 2) := by decide +kernel
theorem d17 : decode yB 17 = .ok (.sipush 255, 3) := by decide +kernel
theorem d20 : decode yB 20 = .ok (.if_icmp (.le) 6, 3) := by decide +kernel
theorem d26 : decode yB 26 = .ok (.aload_n 2, 1) := by decide +kernel
theorem d27 : decode yB 27 = .ok (.iload_n 3, 1) := by decide +kernel
theorem d28 : decode yB 28 = .ok (.iload 6, 2) := by decide +kernel
theorem d30 : decode yB 30 = .ok (.i2b, 1) := by decide +kernel
theorem d31 : decode yB 31 = .ok (.bastore, 1) := by decide +kernel
theorem d32 : decode yB 32 = .ok (.iinc 1 1, 3) := by decide +kernel
theorem d35 : decode yB 35 = .ok (.iinc 3 1, 3) := by decide +kernel
theorem d38 : decode yB 38 = .ok (.iinc 5 1, 3) := by decide +kernel
theorem d41 : decode yB 41 = .ok (.goto (-38), 3) := by decide +kernel
theorem d44 : decode yB 44 = .ok (.iload 4, 2) := by decide +kernel
theorem d46 : decode yB 46 = .ok (.ireturn, 1) := by decide +kernel
def site : List Cond := []
def tab : Cond := tabOf yN yB 7 (some .int) site
def P (b : Addr) (A : Cell) (d : Addr) (B : Cell) (o q len : Nat) (args : Array Value) (s : State) : Prop := args = #[.ref b, .int (Int32.ofNat o), .ref d, .int (Int32.ofNat q), .int (Int32.ofNat len)] ∧ Ch b A s ∧ Arr .byte d B s ∧ b ≠ d ∧ o + len ≤ A.slots.size ∧ q + len ≤ B.slots.size ∧ ∀ i, i < len → ¬ 255 < cv A (o + i)
def E (b : Addr) (A : Cell) (d : Addr) (B : Cell) (o q len : Nat) (r : Option Value) (s u : State) : Prop := r = some (.int (Int32.ofNat len)) ∧ ∃ B', Put d B' s u ∧ Laid B B' q (q + len) (fun j => Value.int (lo8 (cv A (o + (j - q)))))
/-- no char of the range above 255: len; the places written hold each char's low byte -/
theorem law (l : Launch) (b : Addr) (A : Cell) (d : Addr) (B : Cell) (o q len : Nat) : Law l yN 5 5 0 0 yB 7 (some .int) site (P b A d B o q len) (E b A d B o q len) (copyLocs d q len) 0 0 := by
  refine Law.of_walk (plainFor_of_name (by decide +kernel)) (by decide +kernel) (by decide +kernel) (by decide) (fun _ _ h => by rw [h.1]; rfl) (fun _ U U' hal hh h => ⟨h.1, h.2.1.mv hal hh, h.2.2.1.mv hal hh, h.2.2.2⟩) (fun r U U' V V' h1 hal h2 h => ⟨h.1, h.2.elim fun B' q => ⟨B', q.1.mv h1 h2, q.2⟩⟩) ?_
  intro p e s m args below meth c s₁ X0 hexec hbytes hml hret hlk hnm hown hh0 W hP
  obtain ⟨rfl, hA, hB, hne, l1, l2, hp⟩ := hP
  have c1 : Steps p.tables e below (s₁.setTop (entryFrame m #[.ref b, .int (Int32.ofNat o), .ref d, .int (Int32.ofNat q), .int (Int32.ofNat len)] 7)) (s₁.setTop (mkF m 0 #[.val (.ref b), .val (.int (Int32.ofNat o)), .val (.ref d), .val (.int (Int32.ofNat q)), .val (.int (Int32.ofNat len)), .unset, .unset] [])) := entry rfl
  have hA0 := hA.1.mv X0.warmed.alike hh0
  have hB0 := hB.mv X0.warmed.alike hh0
  have a31 := hA.1.2.2.2
  have c2 : Steps p.tables e below (s₁.setTop (entryFrame m #[.ref b, .int (Int32.ofNat o), .ref d, .int (Int32.ofNat q), .int (Int32.ofNat len)] 7)) (s₁.setTop (mkF m 3 #[.val (.ref b), .val (.int (Int32.ofNat o)), .val (.ref d), .val (.int (Int32.ofNat q)), .val (.int (Int32.ofNat len)), .val (.int 0), .unset] [])) := c1.trans (by
    refine iconstV X0.here hexec rfl 0 (hb hbytes d0) (by decide) ?_
    refine XS.istore X0.here hexec rfl (hb hbytes d1) rfl rfl ?_
    exact Steps.refl _)
  have loop : ∀ (r i : Nat), i + r = len → ∀ (z : Slot), (z = .unset ∨ ∃ w, z = .val w ∧ w.category = 1) → ∀ (Tl : State) (Bk : Cell), Stand p l e { frames := 0, locals := 0, cells := 0, slots := 0 } s m #[.ref b, .int (Int32.ofNat o), .ref d, .int (Int32.ofNat q), .int (Int32.ofNat len)] below meth c Tl ([] ++ copyLocs d q i) 0 0 → Put d Bk s₁ Tl → Laid B Bk q (q + i) (fun j => Value.int (lo8 (cv A (o + (j - q))))) →
      Steps p.tables e below (s₁.setTop (entryFrame m #[.ref b, .int (Int32.ofNat o), .ref d, .int (Int32.ofNat q), .int (Int32.ofNat len)] 7)) (Tl.setTop (mkF m 3 #[.val (.ref b), .val (.int (Int32.ofNat (o + i))), .val (.ref d), .val (.int (Int32.ofNat (q + i))), .val (.int (Int32.ofNat len)), .val (.int (Int32.ofNat i)), z] [])) → ∃ (T' : State) (B' : Cell) (z' : Slot), Stand p l e { frames := 0, locals := 0, cells := 0, slots := 0 } s m #[.ref b, .int (Int32.ofNat o), .ref d, .int (Int32.ofNat q), .int (Int32.ofNat len)] below meth c T' ([] ++ copyLocs d q len) 0 0 ∧ Put d B' s₁ T' ∧ Laid B B' q (q + len) (fun j => Value.int (lo8 (cv A (o + (j - q))))) ∧
      Steps p.tables e below (s₁.setTop (entryFrame m #[.ref b, .int (Int32.ofNat o), .ref d, .int (Int32.ofNat q), .int (Int32.ofNat len)] 7)) (T'.setTop (mkF m 3 #[.val (.ref b), .val (.int (Int32.ofNat (o + len))), .val (.ref d), .val (.int (Int32.ofNat (q + len))), .val (.int (Int32.ofNat len)), .val (.int (Int32.ofNat len)), z'] [])) := by
    intro r
    induction r with
    | zero =>
      intro i hi z hz Tl Bk Xl pl fl cl
      have hil : i = len := by omega
      rw [hil] at Xl fl cl
      exact ⟨Tl, Bk, z, Xl, pl, fl, cl⟩
    | succ r ih =>
      intro i hi z hz Tl Bk Xl pl fl cl
      have all := X0.warmed.alike.symm.trans Xl.warmed.alike
      have hAl := hA0.keep all (pl.other hne hA0.1)
      have hBk := hB0.like all pl.1 fl.1 fl.2.1 fl.2.2.1
      have hlt : q + i < Bk.slots.size := by rw [fl.2.2.1]; omega
      have c3 : Steps p.tables e below (s₁.setTop (entryFrame m #[.ref b, .int (Int32.ofNat o), .ref d, .int (Int32.ofNat q), .int (Int32.ofNat len)] 7)) (Tl.setTop (mkF m 12 #[.val (.ref b), .val (.int (Int32.ofNat (o + i))), .val (.ref d), .val (.int (Int32.ofNat (q + i))), .val (.int (Int32.ofNat len)), .val (.int (Int32.ofNat i)), z] [.int (Int32.ofNat (o + i)), .ref b])) := cl.trans (by
        refine XS.iload Xl.here hexec rfl (hb hbytes d3) rfl ?_
        refine XS.iload Xl.here hexec rfl (hb hbytes d5) rfl ?_
        refine XS.icmpNo Xl.here hexec rfl (hb hbytes d7) rfl (ii_ge_f (lt32 (by omega) (by omega))) ?_
        refine XS.aloadN Xl.here hexec rfl (hb hbytes d10) rfl rfl ?_
        refine XS.iloadN Xl.here hexec rfl (hb hbytes d11) rfl ?_
        exact Steps.refl _)
      have c4 : Steps p.tables e below (s₁.setTop (entryFrame m #[.ref b, .int (Int32.ofNat o), .ref d, .int (Int32.ofNat q), .int (Int32.ofNat len)] 7)) (Tl.setTop (mkF m 13 #[.val (.ref b), .val (.int (Int32.ofNat (o + i))), .val (.ref d), .val (.int (Int32.ofNat (q + i))), .val (.int (Int32.ofNat len)), .val (.int (Int32.ofNat i)), z] [.int (cv A (o + i))])) := c3.trans (by
        refine Xl.aget hexec hAl rfl (hA.get (i := o + i) (by omega)) rfl rfl (hb hbytes d12) ?_
        exact Steps.refl _)
      have c5 : Steps p.tables e below (s₁.setTop (entryFrame m #[.ref b, .int (Int32.ofNat o), .ref d, .int (Int32.ofNat q), .int (Int32.ofNat len)] 7)) (Tl.setTop (mkF m 15 #[.val (.ref b), .val (.int (Int32.ofNat (o + i))), .val (.ref d), .val (.int (Int32.ofNat (q + i))), .val (.int (Int32.ofNat len)), .val (.int (Int32.ofNat i)), .val (.int (cv A (o + i)))] [])) := c4.trans (by
        refine XS.istoreS Xl.here hexec rfl (hb hbytes d13) rfl rfl hz ?_
        exact Steps.refl _)
      have c6 : Steps p.tables e below (s₁.setTop (entryFrame m #[.ref b, .int (Int32.ofNat o), .ref d, .int (Int32.ofNat q), .int (Int32.ofNat len)] 7)) (Tl.setTop (mkF m 31 #[.val (.ref b), .val (.int (Int32.ofNat (o + i))), .val (.ref d), .val (.int (Int32.ofNat (q + i))), .val (.int (Int32.ofNat len)), .val (.int (Int32.ofNat i)), .val (.int (cv A (o + i)))] [.int (lo8 (cv A (o + i))), .int (Int32.ofNat (q + i)), .ref d])) := c5.trans (by
        refine XS.iload Xl.here hexec rfl (hb hbytes d15) rfl ?_
        refine sipushV Xl.here hexec rfl 255 (hb hbytes d17) (by decide) ?_
        refine XS.icmpYes Xl.here hexec rfl (pc0 := 20) rfl (hb hbytes d20) rfl (ii_le_t (hp i (by omega))) (by decide) rfl ?_
        refine XS.aloadN Xl.here hexec rfl (hb hbytes d26) rfl rfl ?_
        refine XS.iloadN Xl.here hexec rfl (hb hbytes d27) rfl ?_
        refine XS.iload Xl.here hexec rfl (hb hbytes d28) rfl ?_
        refine i2b Xl.here hexec rfl (hb hbytes d30) rfl ?_
        exact Steps.refl _)
      obtain ⟨T7, X7, p7, st7⟩ := Xl.aput hexec hBk rfl hlt rfl (fits_lo8 (cv A (o + i))) (g := (mkF m 31 #[.val (.ref b), .val (.int (Int32.ofNat (o + i))), .val (.ref d), .val (.int (Int32.ofNat (q + i))), .val (.int (Int32.ofNat len)), .val (.int (Int32.ofNat i)), .val (.int (cv A (o + i)))] [.int (lo8 (cv A (o + i))), .int (Int32.ofNat (q + i)), .ref d])) rfl (rest := []) rfl (hb hbytes d31)
      have c8 : Steps p.tables e below (s₁.setTop (entryFrame m #[.ref b, .int (Int32.ofNat o), .ref d, .int (Int32.ofNat q), .int (Int32.ofNat len)] 7)) (T7.setTop (mkF m 32 #[.val (.ref b), .val (.int (Int32.ofNat (o + i))), .val (.ref d), .val (.int (Int32.ofNat (q + i))), .val (.int (Int32.ofNat len)), .val (.int (Int32.ofNat i)), .val (.int (cv A (o + i)))] [])) := c6.trans (st7 _ (Steps.refl _))
      have c9 : Steps p.tables e below (s₁.setTop (entryFrame m #[.ref b, .int (Int32.ofNat o), .ref d, .int (Int32.ofNat q), .int (Int32.ofNat len)] 7)) (T7.setTop (mkF m 3 #[.val (.ref b), .val (.int (Int32.ofNat (o + i) + 1)), .val (.ref d), .val (.int (Int32.ofNat (q + i) + 1)), .val (.int (Int32.ofNat len)), .val (.int (Int32.ofNat i + 1)), .val (.int (cv A (o + i)))] [])) := c8.trans (by
        refine iincV X7.here hexec rfl 1 (hb hbytes d32) (by decide) rfl rfl ?_
        refine iincV X7.here hexec rfl 1 (hb hbytes d35) (by decide) rfl rfl ?_
        refine iincV X7.here hexec rfl 1 (hb hbytes d38) (by decide) rfl rfl ?_
        refine XS.goto X7.here hexec rfl (pc0 := 41) rfl (hb hbytes d41) (by decide) rfl ?_
        exact Steps.refl _)
      have c10 : Steps p.tables e below (s₁.setTop (entryFrame m #[.ref b, .int (Int32.ofNat o), .ref d, .int (Int32.ofNat q), .int (Int32.ofNat len)] 7)) (T7.setTop (mkF m 3 #[.val (.ref b), .val (.int (Int32.ofNat (o + (i + 1)))), .val (.ref d), .val (.int (Int32.ofNat (q + (i + 1)))), .val (.int (Int32.ofNat len)), .val (.int (Int32.ofNat (i + 1))), .val (.int (cv A (o + i)))] [])) := by
        have := c9
        rw [succ32, succ32, succ32] at this
        exact this
      exact ih (i + 1) (by omega) _ (Or.inr ⟨_, rfl, rfl⟩) T7 _ (by rw [copyLocs_step, ← List.append_assoc]; exact X7) (pl.trans p7) (fl.step (by omega) hlt (by simp)) c10
  obtain ⟨T9, B9, z9, X9, p9, f9, g9⟩ := loop len 0 (by omega) .unset (Or.inl rfl) s₁ B (by simpa [copyLocs] using X0) ⟨hB0.1, fun _ _ => rfl, rfl⟩ (Laid.zero _ _ _) c2
  have c11 : Steps p.tables e below (s₁.setTop (entryFrame m #[.ref b, .int (Int32.ofNat o), .ref d, .int (Int32.ofNat q), .int (Int32.ofNat len)] 7)) (T9.setTop (mkF m 46 #[.val (.ref b), .val (.int (Int32.ofNat (o + len))), .val (.ref d), .val (.int (Int32.ofNat (q + len))), .val (.int (Int32.ofNat len)), .val (.int (Int32.ofNat len)), z9] [.int (Int32.ofNat len)])) := g9.trans (by
    refine XS.iload X9.here hexec rfl (hb hbytes d3) rfl ?_
    refine XS.iload X9.here hexec rfl (hb hbytes d5) rfl ?_
    refine XS.icmpYes X9.here hexec rfl (pc0 := 7) rfl (hb hbytes d7) rfl (ii_ge_t (nlt32 (by omega) (Nat.le_refl _))) (by decide) rfl ?_
    refine XS.iload X9.here hexec rfl (hb hbytes d44) rfl ?_
    exact Steps.refl _)
  exact ⟨T9, some (.int (Int32.ofNat len)), _, _, _, X9, by simp, rfl, rfl, (fun h => by cases h), ⟨rfl, B9, p9.from hh0, f9⟩, fun fs hl => c11.trans (X9.ireturnOut hexec hret rfl (Or.inl rfl) (hb hbytes d46) hl)⟩
end Cmp5
namespace Cmp3
def yN : MethodName := ⟨"java/lang/StringUTF16", "compress", "([CII)[B"⟩
abbrev yB : ByteArray := jdk_52_method_16_code
theorem d0 : decode yB 0 = .ok (.iload_n 2, 1) := by decide +kernel
theorem d1 : decode yB 1 = .ok (.newarray .byte, 2) := by decide +kernel
theorem d3 : decode yB 3 = .ok (.astore_n 3, 1) := by decide +kernel
theorem d4 : decode yB 4 = .ok (.aload_n 0, 1) := by decide +kernel
theorem d5 : decode yB 5 = .ok (.iload_n 1, 1) := by decide +kernel
theorem d6 : decode yB 6 = .ok (.aload_n 3, 1) := by decide +kernel
theorem d7 : decode yB 7 = .ok (.iconst 0, 1) := by decide +kernel
theorem d8 : decode yB 8 = .ok (.iload_n 2, 1) := by decide +kernel
theorem d9 : decode yB 9 = .ok (.invokestatic 115, 3) := by decide +kernel
theorem d12 : decode yB 12 = .ok (.istore 4, 2) := by decide +kernel
theorem d14 : decode yB 14 = .ok (.iload 4, 2) := by decide +kernel
theorem d16 : decode yB 16 = .ok (.iload_n 2, 1) := by decide +kernel
theorem d17 : decode yB 17 = .ok (.if_icmp (.eq) 40, 3) := by decide +kernel
theorem d57 : decode yB 57 = .ok (.aload_n 3, 1) := by decide +kernel
theorem d58 : decode yB 58 = .ok (.areturn, 1) := by decide +kernel
def site : List Cond := [.arrayClass .byte, Cmp5.tab] ++ staticW U16 115 Cmp5.yN
def tab : Cond := tabOf yN yB 6 (some (.array .byte)) site
def P (b : Addr) (A : Cell) (o len : Nat) (args : Array Value) (s : State) : Prop := args = #[.ref b, .int (Int32.ofNat o), .int (Int32.ofNat len)] ∧ Ch b A s ∧ o + len ≤ A.slots.size ∧ len ≤ 536870912 ∧ ∀ i, i < len → ¬ 255 < cv A (o + i)
def E (b : Addr) (A : Cell) (o len : Nat) (r : Option Value) (s u : State) : Prop := NewArr .byte "[B" len (fun j => .int (lo8 (cv A (o + j)))) r s u ∧ u.heap.size = s.heap.size + 1
/-- no char of the range above 255: a new byte[] of their low bytes -/
theorem law (l : Launch) (b : Addr) (A : Cell) (o len : Nat) : Law l yN 3 3 1 18 yB 6 (some (.array .byte)) site (P b A o len) (E b A o len) [] 1 len := by
  refine Law.of_walk (plainFor_of_name (by decide +kernel)) (by decide +kernel) (by decide +kernel) (by decide) (fun _ _ h => by rw [h.1]; rfl) (fun _ U U' hal hh h => ⟨h.1, h.2.1.mv hal hh, h.2.2⟩) (fun r U U' V V' h1 hal h2 h => ⟨NewArr.mv r U U' V V' h1 hal h2 h.1, by rw [h1, h2]; exact h.2⟩) ?_
  intro p e s m args below meth c s₁ X0 hexec hbytes hml hret hlk hnm hown hh0 W hP
  obtain ⟨rfl, hA, l1, l2, hp⟩ := hP
  have a31 := hA.1.2.2.2
  have c1 : Steps p.tables e below (s₁.setTop (entryFrame m #[.ref b, .int (Int32.ofNat o), .int (Int32.ofNat len)] 6)) (s₁.setTop (mkF m 0 #[.val (.ref b), .val (.int (Int32.ofNat o)), .val (.int (Int32.ofNat len)), .unset, .unset, .unset] [])) := entry rfl
  have c2 : Steps p.tables e below (s₁.setTop (entryFrame m #[.ref b, .int (Int32.ofNat o), .int (Int32.ofNat len)] 6)) (s₁.setTop (mkF m 1 #[.val (.ref b), .val (.int (Int32.ofNat o)), .val (.int (Int32.ofNat len)), .unset, .unset, .unset] [.int (Int32.ofNat len)])) := c1.trans (by
    refine XS.iloadN X0.here hexec rfl (hb hbytes d0) rfl ?_
    exact Steps.refl _)
  obtain ⟨T3, B3, X3, ba3, bs3, bv3, bh3, bf3, st3⟩ := X0.anew hexec (atype := .byte) (wk W (.arrayClass .byte)) rfl (by show len * 1 ≤ _; omega) (by omega) (g := (mkF m 1 #[.val (.ref b), .val (.int (Int32.ofNat o)), .val (.int (Int32.ofNat len)), .unset, .unset, .unset] [.int (Int32.ofNat len)])) rfl (hb hbytes d1) (rest := []) rfl (Nat.le_refl _) (by show 0 + len ≤ len; omega)
  rw [hh0] at ba3 st3
  have kp3 : XT.Kept s T3 := (XT.Kept.of_eq hh0).push bh3
  have hA3 := hA.keep X3.warmed.alike (kp3 _ _ hA.1.1)
  have hne : b ≠ s.heap.size := hA.1.ne
  have c4 : Steps p.tables e below (s₁.setTop (entryFrame m #[.ref b, .int (Int32.ofNat o), .int (Int32.ofNat len)] 6)) (T3.setTop (mkF m 3 #[.val (.ref b), .val (.int (Int32.ofNat o)), .val (.int (Int32.ofNat len)), .unset, .unset, .unset] [.ref s.heap.size])) := c2.trans (st3 _ (Steps.refl _))
  have c5 : Steps p.tables e below (s₁.setTop (entryFrame m #[.ref b, .int (Int32.ofNat o), .int (Int32.ofNat len)] 6)) (T3.setTop (mkF m 9 #[.val (.ref b), .val (.int (Int32.ofNat o)), .val (.int (Int32.ofNat len)), .val (.ref s.heap.size), .unset, .unset] [.int (Int32.ofNat len), .int 0, .ref s.heap.size, .int (Int32.ofNat o), .ref b])) := c4.trans (by
    refine XS.astoreN X3.here hexec rfl (hb hbytes d3) rfl rfl rfl ?_
    refine XS.aloadN X3.here hexec rfl (hb hbytes d4) rfl rfl ?_
    refine XS.iloadN X3.here hexec rfl (hb hbytes d5) rfl ?_
    refine XS.aloadN X3.here hexec rfl (hb hbytes d6) rfl rfl ?_
    refine iconstV X3.here hexec rfl 0 (hb hbytes d7) (by decide) ?_
    refine XS.iloadN X3.here hexec rfl (hb hbytes d8) rfl ?_
    exact Steps.refl _)
  obtain ⟨v6, T6, X6, E6, g6⟩ := X3.callS hexec (Cmp5.law l b A s.heap.size B3 o 0 len) hown (wks W (staticW U16 115 Cmp5.yN)) (wk W Cmp5.tab) (W := 0) (Nat.le_of_ble_eq_true rfl) (Nat.le_of_ble_eq_true rfl) (Nat.le_refl _) (by show 0 + len + 0 ≤ len; omega) (g := (mkF m 9 #[.val (.ref b), .val (.int (Int32.ofNat o)), .val (.int (Int32.ofNat len)), .val (.ref s.heap.size), .unset, .unset] [.int (Int32.ofNat len), .int (Int32.ofNat 0), .ref s.heap.size, .int (Int32.ofNat o), .ref b])) rfl (by rw [hml]; rfl) c5 (argsL := [.ref b, .int (Int32.ofNat o), .ref s.heap.size, .int (Int32.ofNat 0), .int (Int32.ofNat len)]) (rest := []) rfl rfl (by show 2 * 0 + 0 ≤ _; decide) (hb hbytes d9) (⟨rfl, hA3, ba3, hne, l1, by rw [bs3]; simp, hp⟩)
  obtain ⟨rfl, B6, p6, f6⟩ := E6
  have c7 : Steps p.tables e below (s₁.setTop (entryFrame m #[.ref b, .int (Int32.ofNat o), .int (Int32.ofNat len)] 6)) (T6.setTop (mkF m 12 #[.val (.ref b), .val (.int (Int32.ofNat o)), .val (.int (Int32.ofNat len)), .val (.ref s.heap.size), .unset, .unset] [.int (Int32.ofNat len)])) := g6
  have c8 : Steps p.tables e below (s₁.setTop (entryFrame m #[.ref b, .int (Int32.ofNat o), .int (Int32.ofNat len)] 6)) (T6.setTop (mkF m 58 #[.val (.ref b), .val (.int (Int32.ofNat o)), .val (.int (Int32.ofNat len)), .val (.ref s.heap.size), .val (.int (Int32.ofNat len)), .unset] [.ref s.heap.size])) := c7.trans (by
    refine XS.istore X6.here hexec rfl (hb hbytes d12) rfl rfl ?_
    refine XS.iload X6.here hexec rfl (hb hbytes d14) rfl ?_
    refine XS.iloadN X6.here hexec rfl (hb hbytes d16) rfl ?_
    refine XS.icmpYes X6.here hexec rfl (pc0 := 17) rfl (hb hbytes d17) rfl (ii_eq_t rfl) (by decide) rfl ?_
    refine XS.aloadN X6.here hexec rfl (hb hbytes d57) rfl rfl ?_
    exact Steps.refl _)
  have X8 := X6.wide (L' := []) (cells' := 1) (slots' := len) (fun x hx hlt => by
    simp only [List.nil_append, copyLocs, List.mem_map, List.mem_range] at hx
    obtain ⟨i, -, rfl⟩ := hx
    exact absurd hlt (Nat.lt_irrefl _)) (Nat.le_refl _) (by omega)
  exact ⟨T6, some (.ref s.heap.size), _, _, _, X8, rfl, rfl, rfl, (fun h => by cases h), ⟨⟨rfl, B6, ba3.like (X3.warmed.alike.symm.trans X6.warmed.alike) p6.1 f6.1 f6.2.1 f6.2.2.1, f6.2.1.trans bv3, by rw [X6.warmed.alike.findClass, f6.1]; exact bf3, by rw [f6.2.2.1, bs3]; simp, fun j hj => by rw [f6.2.2.2 j, if_pos (by omega)]; rfl, kp3.put p6 (Nat.le_refl _)⟩, by rw [p6.2.2, bh3, hh0]; simp⟩, fun fs hl => c8.trans (X8.areturnOut hexec rfl hret rfl (hb hbytes d58) hl)⟩
end Cmp3
namespace CodL
def yN : MethodName := ⟨"java/lang/StringUTF16", "coderFromArrayLen", "([BI)B"⟩
abbrev yB : ByteArray := jdk_52_method_15_code
theorem d0 : decode yB 0 = .ok (.iload_n 1, 1) := by decide +kernel
theorem d1 : decode yB 1 = .ok (.aload_n 0, 1) := by decide +kernel
theorem d2 : decode yB 2 = .ok (.arraylength, 1) := by decide +kernel
theorem d3 : decode yB 3 = .ok (.isub, 1) := by decide +kernel
theorem d4 : decode yB 4 = .ok (.bipush 31, 2) := by decide +kernel
theorem d6 : decode yB 6 = .ok (.iushr, 1) := by decide +kernel
theorem d7 : decode yB 7 = .ok (.i2b, 1) := by decide +kernel
theorem d8 : decode yB 8 = .ok (.ireturn, 1) := by decide +kernel
def site : List Cond := []
def tab : Cond := tabOf yN yB 2 (some .byte) site
def P (d : Addr) (B : Cell) (args : Array Value) (s : State) : Prop := args = #[.ref d, .int (Int32.ofNat B.slots.size)] ∧ Arr .byte d B s
def E (r : Option Value) (s u : State) : Prop := XT.PureE (some (.int 0)) r s u
/-- an array as long as the number of chars: LATIN1 -/
theorem law (l : Launch) (d : Addr) (B : Cell) : Law l yN 2 2 0 0 yB 2 (some .byte) site (P d B) E [] 0 0 := by
  refine Law.of_walk (plainFor_of_name (by decide +kernel)) (by decide +kernel) (by decide +kernel) (by decide) (fun _ _ h => by rw [h.1]; rfl) (fun _ U U' hal hh h => ⟨h.1, h.2.mv hal hh⟩) (fun r U U' V V' h1 hal h2 h => XT.PureE.mv r U U' V V' h1 hal h2 h) ?_
  intro p e s m args below meth c s₁ X0 hexec hbytes hml hret hlk hnm hown hh0 W hP
  obtain ⟨rfl, hB⟩ := hP
  have hB0 := hB.mv X0.warmed.alike hh0
  have c1 : Steps p.tables e below (s₁.setTop (entryFrame m #[.ref d, .int (Int32.ofNat B.slots.size)] 2)) (s₁.setTop (mkF m 0 #[.val (.ref d), .val (.int (Int32.ofNat B.slots.size))] [])) := entry rfl
  have c2 : Steps p.tables e below (s₁.setTop (entryFrame m #[.ref d, .int (Int32.ofNat B.slots.size)] 2)) (s₁.setTop (mkF m 2 #[.val (.ref d), .val (.int (Int32.ofNat B.slots.size))] [.ref d, .int (Int32.ofNat B.slots.size)])) := c1.trans (by
    refine XS.iloadN X0.here hexec rfl (hb hbytes d0) rfl ?_
    refine XS.aloadN X0.here hexec rfl (hb hbytes d1) rfl rfl ?_
    exact Steps.refl _)
  have c3 : Steps p.tables e below (s₁.setTop (entryFrame m #[.ref d, .int (Int32.ofNat B.slots.size)] 2)) (s₁.setTop (mkF m 8 #[.val (.ref d), .val (.int (Int32.ofNat B.slots.size))] [.int (lo8 (ushr (Int32.ofNat B.slots.size - Int32.ofNat B.slots.size) 31))])) := c2.trans (by
    refine X0.alen hexec hB0 rfl rfl (hb hbytes d2) ?_
    refine XS.isub X0.here hexec rfl (hb hbytes d3) rfl ?_
    refine bipushV X0.here hexec rfl 31 (hb hbytes d4) (by decide) ?_
    refine iushr X0.here hexec rfl (hb hbytes d6) rfl ?_
    refine i2b X0.here hexec rfl (hb hbytes d7) rfl ?_
    exact Steps.refl _)
  have e0 : lo8 (ushr (Int32.ofNat B.slots.size - Int32.ofNat B.slots.size) 31) = 0 := by rw [Int32.sub_self]; decide
  rw [e0] at c3
  exact ⟨s₁, some (.int 0), _, _, _, X0, rfl, rfl, rfl, (fun h => by cases h), ⟨rfl, hh0⟩, fun fs hl => c3.trans (X0.ireturnOut hexec hret rfl (Or.inr (Or.inr (Or.inl rfl))) (hb hbytes d8) hl)⟩
end CodL
/-- the String at a is Latin-1 over a new byte[] (the heap's one new cell): the low bytes of the len chars of A from o on; every cell but a is kept -/
def Got (a : Addr) (D : Cell) (fV fC : Field) (A : Cell) (o len : Nat) (r : Option Value) (s u : State) : Prop := r = none ∧ ∃ D' V : Cell, Blank "java/lang/String" a D' u ∧ Same D D' [fV.slot, fC.slot] ∧ D'.slots[fV.slot]? = some (.ref s.heap.size) ∧ D'.slots[fC.slot]? = some (.int 0) ∧ Arr .byte s.heap.size V u ∧ V.vm = .none ∧ u.vm.findClass "[B" = some V.cls ∧ V.slots.size = len ∧ (∀ j, j < len → V.slots[j]? = some (.int (lo8 (cv A (o + j))))) ∧ (∀ (y : Addr) (c : Cell), y ≠ a → s.heap[y]? = some c → u.heap[y]? = some c) ∧ u.heap.size = s.heap.size + 1
theorem Got.mv {a : Addr} {D A : Cell} {fV fC : Field} {o len : Nat} : ∀ r (U U' V V' : State), U'.heap = U.heap → V.vm.Alike V'.vm → V'.heap = V.heap → Got a D fV fC A o len r U V → Got a D fV fC A o len r U' V' :=
  fun r U U' V V' h1 hal h2 ⟨e0, D', X, a1, a2, a3, a4, a5, a6, a7, a8, a9, a10, a11⟩ => ⟨e0, D', X, a1.mv hal h2, a2, by rw [h1]; exact a3, a4, by rw [h1]; exact a5.mv hal h2, a6, by rw [hal.findClass]; exact a7, a8, a9, by rw [h1, h2]; exact a10, by rw [h1, h2]; exact a11⟩
namespace New4
def yN : MethodName := ⟨"java/lang/String", "<init>", "([CIILjava/lang/Void;)V"⟩
abbrev yB : ByteArray := jdk_42_method_149_code
theorem d0 : decode yB 0 = .ok (.aload_n 0, 1) := by decide +kernel
theorem d1 : decode yB 1 = .ok (.invokespecial 1, 3) := by decide +kernel
theorem d4 : decode yB 4 = .ok (.iload_n 3, 1) := by decide +kernel
theorem d5 : decode yB 5 = .ok (.ifCond (.ne) 22, 3) := by decide +kernel
theorem d27 : decode yB 27 = .ok (.getstatic 38, 3) := by decide +kernel
theorem d30 : decode yB 30 = .ok (.ifCond (.eq) 28, 3) := by decide +kernel
theorem d33 : decode yB 33 = .ok (.aload_n 1, 1) := by decide +kernel
theorem d34 : decode yB 34 = .ok (.iload_n 2, 1) := by decide +kernel
theorem d35 : decode yB 35 = .ok (.iload_n 3, 1) := by decide +kernel
theorem d36 : decode yB 36 = .ok (.invokestatic 177, 3) := by decide +kernel
theorem d39 : decode yB 39 = .ok (.astore 5, 2) := by decide +kernel
theorem d41 : decode yB 41 = .ok (.aload_n 0, 1) := by decide +kernel
theorem d42 : decode yB 42 = .ok (.aload 5, 2) := by decide +kernel
theorem d44 : decode yB 44 = .ok (.iload_n 3, 1) := by decide +kernel
theorem d45 : decode yB 45 = .ok (.invokestatic 47, 3) := by decide +kernel
theorem d48 : decode yB 48 = .ok (.putfield 15, 3) := by decide +kernel
theorem d51 : decode yB 51 = .ok (.aload_n 0, 1) := by decide +kernel
theorem d52 : decode yB 52 = .ok (.aload 5, 2) := by decide +kernel
theorem d54 : decode yB 54 = .ok (.putfield 9, 3) := by decide +kernel
theorem d57 : decode yB 57 = .ok (.return_, 1) := by decide +kernel
def site : List Cond := [.fieldLink "java/lang/String" 38 "java/lang/String" "COMPACT_STRINGS" "Z", Cmp3.tab, CodL.tab, .laysFinal "java/lang/String" "java/lang/String" "value" "[B", .fieldLink "java/lang/String" 9 "java/lang/String" "value" "[B", .laysFinal "java/lang/String" "java/lang/String" "coder" "B", .fieldLink "java/lang/String" 15 "java/lang/String" "coder" "B"] ++ objW "java/lang/String" 1 ++ staticW "java/lang/String" 177 Cmp3.yN ++ staticW "java/lang/String" 47 CodL.yN
def tab : Cond := tabOf yN yB 6 none site
def P (a : Addr) (D : Cell) (fV fC : Field) (b : Addr) (A : Cell) (z : Int32) (o len : Nat) (args : Array Value) (s : State) : Prop := args = #[.ref a, .ref b, .int (Int32.ofNat o), .int (Int32.ofNat len), .null] ∧ Blank "java/lang/String" a D s ∧ Found "java/lang/String" "value" "[B" fV s ∧ Found "java/lang/String" "coder" "B" fC s ∧ Ch b A s ∧ StaticIs s "java/lang/String" "COMPACT_STRINGS" "Z" (.int z) ∧ ¬ z = 0 ∧ 0 < len ∧ o + len ≤ A.slots.size ∧ len ≤ 536870912 ∧ ∀ i, i < len → ¬ 255 < cv A (o + i)
def E (a : Addr) (D : Cell) (fV fC : Field) (A : Cell) (o len : Nat) (r : Option Value) (s u : State) : Prop := Got a D fV fC A o len r s u
/-- len > 0, no char of the range above 255: a Latin-1 String of their low bytes -/
theorem law (l : Launch) (a : Addr) (D : Cell) (fV fC : Field) (b : Addr) (A : Cell) (z : Int32) (o len : Nat) : Law l yN 5 4 2 35 yB 6 none site (P a D fV fC b A z o len) (E a D fV fC A o len) [⟨a, fC.slot⟩, ⟨a, fV.slot⟩] 1 len := by
  refine Law.of_walk (plainFor_of_name (by decide +kernel)) (by decide +kernel) (by decide +kernel) (by decide) (fun _ _ h => by rw [h.1]; rfl) (fun _ U U' hal hh h => ⟨h.1, h.2.1.mv hal hh, h.2.2.1.al hal, h.2.2.2.1.al hal, h.2.2.2.2.1.mv hal hh, h.2.2.2.2.2.1.there hal hh, h.2.2.2.2.2.2⟩) (fun r U U' V V' h1 hal h2 h => Got.mv r U U' V V' h1 hal h2 h) ?_
  intro p e s m args below meth c s₁ X0 hexec hbytes hml hret hlk hnm hown hh0 W hP
  obtain ⟨rfl, hB, f1, f2, hA, s1, hz, l0, l1, l2, hp⟩ := hP
  have a31 := hA.1.2.2.2
  have c1 : Steps p.tables e below (s₁.setTop (entryFrame m #[.ref a, .ref b, .int (Int32.ofNat o), .int (Int32.ofNat len), .null] 6)) (s₁.setTop (mkF m 0 #[.val (.ref a), .val (.ref b), .val (.int (Int32.ofNat o)), .val (.int (Int32.ofNat len)), .val .null, .unset] [])) := entry rfl
  have c2 : Steps p.tables e below (s₁.setTop (entryFrame m #[.ref a, .ref b, .int (Int32.ofNat o), .int (Int32.ofNat len), .null] 6)) (s₁.setTop (mkF m 1 #[.val (.ref a), .val (.ref b), .val (.int (Int32.ofNat o)), .val (.int (Int32.ofNat len)), .val .null, .unset] [.ref a])) := c1.trans (by
    refine XS.aloadN X0.here hexec rfl (hb hbytes d0) rfl rfl ?_
    exact Steps.refl _)
  obtain ⟨T3, X3, q3, st3⟩ := X0.oinit hexec hown (wks W (objW "java/lang/String" 1)) (g := (mkF m 1 #[.val (.ref a), .val (.ref b), .val (.int (Int32.ofNat o)), .val (.int (Int32.ofNat len)), .val .null, .unset] [.ref a])) rfl (by rw [hml]; rfl) (rest := []) rfl (hb hbytes d1) (W := 0) (by show 2 * 0 + 0 ≤ _; decide) (Nat.le_of_ble_eq_true rfl) (Nat.le_of_ble_eq_true rfl)
  have hh3 := q3.trans hh0
  have c4 : Steps p.tables e below (s₁.setTop (entryFrame m #[.ref a, .ref b, .int (Int32.ofNat o), .int (Int32.ofNat len), .null] 6)) (T3.setTop (mkF m 27 #[.val (.ref a), .val (.ref b), .val (.int (Int32.ofNat o)), .val (.int (Int32.ofNat len)), .val .null, .unset] [])) := (c2.trans (st3 _ (Steps.refl _))).trans (by
    refine XS.iloadN X3.here hexec rfl (hb hbytes d4) rfl ?_
    refine XS.ifYes X3.here hexec rfl (pc0 := 5) rfl (hb hbytes d5) rfl (i0_ne_t (nz32 (by omega) l0)) (by decide) rfl ?_
    exact Steps.refl _)
  obtain ⟨T5, X5, q5, st5⟩ := X3.sget hexec hown (wk W (.fieldLink "java/lang/String" 38 "java/lang/String" "COMPACT_STRINGS" "Z")) s1 (fun _ _ h => by rw [hh3]; exact h) (g := (mkF m 27 #[.val (.ref a), .val (.ref b), .val (.int (Int32.ofNat o)), .val (.int (Int32.ofNat len)), .val .null, .unset] [])) rfl (hb hbytes d27)
  have hh5 := q5.trans hh3
  have c6 : Steps p.tables e below (s₁.setTop (entryFrame m #[.ref a, .ref b, .int (Int32.ofNat o), .int (Int32.ofNat len), .null] 6)) (T5.setTop (mkF m 30 #[.val (.ref a), .val (.ref b), .val (.int (Int32.ofNat o)), .val (.int (Int32.ofNat len)), .val .null, .unset] [.int z])) := c4.trans (st5 _ (Steps.refl _))
  have c7 : Steps p.tables e below (s₁.setTop (entryFrame m #[.ref a, .ref b, .int (Int32.ofNat o), .int (Int32.ofNat len), .null] 6)) (T5.setTop (mkF m 36 #[.val (.ref a), .val (.ref b), .val (.int (Int32.ofNat o)), .val (.int (Int32.ofNat len)), .val .null, .unset] [.int (Int32.ofNat len), .int (Int32.ofNat o), .ref b])) := c6.trans (by
    refine XS.ifNo X5.here hexec rfl (hb hbytes d30) rfl (i0_eq_f hz) ?_
    refine XS.aloadN X5.here hexec rfl (hb hbytes d33) rfl rfl ?_
    refine XS.iloadN X5.here hexec rfl (hb hbytes d34) rfl ?_
    refine XS.iloadN X5.here hexec rfl (hb hbytes d35) rfl ?_
    exact Steps.refl _)
  obtain ⟨v8, T8, X8, E8, g8⟩ := X5.callS hexec (Cmp3.law l b A o len) hown (wks W (staticW "java/lang/String" 177 Cmp3.yN)) (wk W Cmp3.tab) (W := 0) (Nat.le_of_ble_eq_true rfl) (Nat.le_of_ble_eq_true rfl) (Nat.le_refl _) (by show 0 + len ≤ len; omega) (g := (mkF m 36 #[.val (.ref a), .val (.ref b), .val (.int (Int32.ofNat o)), .val (.int (Int32.ofNat len)), .val .null, .unset] [.int (Int32.ofNat len), .int (Int32.ofNat o), .ref b])) rfl (by rw [hml]; rfl) c7 (argsL := [.ref b, .int (Int32.ofNat o), .int (Int32.ofNat len)]) (rest := []) rfl rfl (by show 2 * 0 + 0 ≤ _; decide) (hb hbytes d36) (⟨rfl, hA.mv X5.warmed.alike hh5, l1, l2, hp⟩)
  obtain ⟨e8, z8⟩ := E8
  obtain ⟨rfl, N, n1, n2, n3, n4, n5, n6⟩ := NewArr.mv _ T5 s _ _ hh5.symm (Vm.Alike.refl _) rfl e8
  rw [hh5] at z8
  have hB1 := hB.keep X8.warmed.alike (n6 _ _ hB.1)
  have hne : s.heap.size ≠ a := (Nat.ne_of_lt (Array.getElem?_eq_some_iff.mp hB.1).1).symm
  have c9 : Steps p.tables e below (s₁.setTop (entryFrame m #[.ref a, .ref b, .int (Int32.ofNat o), .int (Int32.ofNat len), .null] 6)) (T8.setTop (mkF m 39 #[.val (.ref a), .val (.ref b), .val (.int (Int32.ofNat o)), .val (.int (Int32.ofNat len)), .val .null, .unset] [.ref s.heap.size])) := g8
  have c10 : Steps p.tables e below (s₁.setTop (entryFrame m #[.ref a, .ref b, .int (Int32.ofNat o), .int (Int32.ofNat len), .null] 6)) (T8.setTop (mkF m 45 #[.val (.ref a), .val (.ref b), .val (.int (Int32.ofNat o)), .val (.int (Int32.ofNat len)), .val .null, .val (.ref s.heap.size)] [.int (Int32.ofNat N.slots.size), .ref s.heap.size, .ref a])) := by
    have hc : Steps p.tables e below (s₁.setTop (entryFrame m #[.ref a, .ref b, .int (Int32.ofNat o), .int (Int32.ofNat len), .null] 6)) (T8.setTop (mkF m 45 #[.val (.ref a), .val (.ref b), .val (.int (Int32.ofNat o)), .val (.int (Int32.ofNat len)), .val .null, .val (.ref s.heap.size)] [.int (Int32.ofNat len), .ref s.heap.size, .ref a])) := c9.trans (by
      refine XS.astore X8.here hexec rfl (hb hbytes d39) rfl rfl rfl ?_
      refine XS.aloadN X8.here hexec rfl (hb hbytes d41) rfl rfl ?_
      refine XS.aload X8.here hexec rfl (hb hbytes d42) rfl rfl ?_
      refine XS.iloadN X8.here hexec rfl (hb hbytes d44) rfl ?_
      exact Steps.refl _)
    rw [n4]; exact hc
  obtain ⟨v11, T11, X11, E11, g11⟩ := X8.callS hexec (CodL.law l s.heap.size N) hown (wks W (staticW "java/lang/String" 47 CodL.yN)) (wk W CodL.tab) (W := 1) (Nat.le_of_ble_eq_true rfl) (Nat.le_of_ble_eq_true rfl) (Nat.le_refl _) (by show 0 + len + 0 ≤ len; omega) (g := (mkF m 45 #[.val (.ref a), .val (.ref b), .val (.int (Int32.ofNat o)), .val (.int (Int32.ofNat len)), .val .null, .val (.ref s.heap.size)] [.int (Int32.ofNat N.slots.size), .ref s.heap.size, .ref a])) rfl (by rw [hml]; rfl) c10 (argsL := [.ref s.heap.size, .int (Int32.ofNat N.slots.size)]) (rest := [.ref a]) rfl rfl (by show 2 * 0 + (1 + 0) ≤ _; decide) (hb hbytes d45) (⟨rfl, n1⟩)
  obtain ⟨rfl, q11⟩ := E11
  have hB11 := hB1.mv (X8.warmed.alike.symm.trans X11.warmed.alike) q11
  have c12 : Steps p.tables e below (s₁.setTop (entryFrame m #[.ref a, .ref b, .int (Int32.ofNat o), .int (Int32.ofNat len), .null] 6)) (T11.setTop (mkF m 48 #[.val (.ref a), .val (.ref b), .val (.int (Int32.ofNat o)), .val (.int (Int32.ofNat len)), .val .null, .val (.ref s.heap.size)] [.int 0, .ref a])) := g11
  obtain ⟨T13, X13, p13, bl13, sl13, st13⟩ := X11.finit hexec hown (wk W (.fieldLink "java/lang/String" 15 "java/lang/String" "coder" "B")) (Or.inr ⟨_, (wk W (.laysFinal "java/lang/String" "java/lang/String" "coder" "B"))⟩) (Or.inl ⟨rfl, hnm⟩) f2 (Or.inl rfl) hB11 (t := .byte) (by decide +kernel) rfl (g := (mkF m 48 #[.val (.ref a), .val (.ref b), .val (.int (Int32.ofNat o)), .val (.int (Int32.ofNat len)), .val .null, .val (.ref s.heap.size)] [.int 0, .ref a])) rfl (rest := []) rfl (hb hbytes d48)
  have c14 : Steps p.tables e below (s₁.setTop (entryFrame m #[.ref a, .ref b, .int (Int32.ofNat o), .int (Int32.ofNat len), .null] 6)) (T13.setTop (mkF m 54 #[.val (.ref a), .val (.ref b), .val (.int (Int32.ofNat o)), .val (.int (Int32.ofNat len)), .val .null, .val (.ref s.heap.size)] [.ref s.heap.size, .ref a])) := (c12.trans (st13 _ (Steps.refl _))).trans (by
    refine XS.aloadN X13.here hexec rfl (hb hbytes d51) rfl rfl ?_
    refine XS.aload X13.here hexec rfl (hb hbytes d52) rfl rfl ?_
    exact Steps.refl _)
  obtain ⟨T15, X15, p15, bl15, sl15, st15⟩ := X13.finit hexec hown (wk W (.fieldLink "java/lang/String" 9 "java/lang/String" "value" "[B")) (Or.inr ⟨_, (wk W (.laysFinal "java/lang/String" "java/lang/String" "value" "[B"))⟩) (Or.inl ⟨rfl, hnm⟩) f1 (Or.inl rfl) bl13 (t := (.array .byte)) (by decide +kernel) rfl (g := (mkF m 54 #[.val (.ref a), .val (.ref b), .val (.int (Int32.ofNat o)), .val (.int (Int32.ofNat len)), .val .null, .val (.ref s.heap.size)] [.ref s.heap.size, .ref a])) rfl (rest := []) rfl (hb hbytes d54)
  have c16 : Steps p.tables e below (s₁.setTop (entryFrame m #[.ref a, .ref b, .int (Int32.ofNat o), .int (Int32.ofNat len), .null] 6)) (T15.setTop (mkF m 57 #[.val (.ref a), .val (.ref b), .val (.int (Int32.ofNat o)), .val (.int (Int32.ofNat len)), .val .null, .val (.ref s.heap.size)] [])) := c14.trans (st15 _ (Steps.refl _))
  have ap := apart (Or.inr ⟨_, (wk W (.laysFinal "java/lang/String" "java/lang/String" "value" "[B"))⟩) (Or.inr ⟨_, (wk W (.laysFinal "java/lang/String" "java/lang/String" "coder" "B"))⟩) f1 f2 (t₁ := .array .byte) (t₂ := .byte) (by decide +kernel) (by decide +kernel) (by decide)
  have al := X8.warmed.alike.symm.trans X15.warmed.alike
  have n7 : T11.heap[s.heap.size]? = some N := by rw [q11]; exact n1.1
  exact ⟨T15, none, _, _, _, X15, by simp, rfl, by omega, (fun _ => rfl), ⟨rfl, _, N, bl15, ((Same.refl D _).set _ (by simp)).set _ (by simp), sl15, (Cell.slots_setSlot_ne _ ap).trans sl13, n1.keep al (p15.other hne (p13.other hne n7)), n2, by rw [al.findClass]; exact n3, n4, n5, fun y c h1 h2 => p15.other h1 (p13.other h1 (by rw [q11]; exact n6 y c h2)), by rw [p15.2.2, p13.2.2, q11]; exact z8⟩, fun fs hl => c16.trans (X15.returnOut hexec hret (hb hbytes d57) hl)⟩
end New4
namespace New1
def yN : MethodName := ⟨"java/lang/String", "<init>", "([C)V"⟩
abbrev yB : ByteArray := jdk_42_method_3_code
theorem d0 : decode yB 0 = .ok (.aload_n 0, 1) := by decide +kernel
theorem d1 : decode yB 1 = .ok (.aload_n 1, 1) := by decide +kernel
theorem d2 : decode yB 2 = .ok (.iconst 0, 1) := by decide +kernel
theorem d3 : decode yB 3 = .ok (.aload_n 1, 1) := by decide +kernel
theorem d4 : decode yB 4 = .ok (.arraylength, 1) := by decide +kernel
theorem d5 : decode yB 5 = .ok (.aconst_null, 1) := by decide +kernel
theorem d6 : decode yB 6 = .ok (.invokespecial 27, 3) := by decide +kernel
theorem d9 : decode yB 9 = .ok (.return_, 1) := by decide +kernel
def site : List Cond := [New4.tab] ++ initW "java/lang/String" 27 New4.yN
def tab : Cond := tabOf yN yB 2 none site
def P (a : Addr) (D : Cell) (fV fC : Field) (b : Addr) (A : Cell) (z : Int32) (args : Array Value) (s : State) : Prop := args = #[.ref a, .ref b] ∧ Blank "java/lang/String" a D s ∧ Found "java/lang/String" "value" "[B" fV s ∧ Found "java/lang/String" "coder" "B" fC s ∧ Ch b A s ∧ StaticIs s "java/lang/String" "COMPACT_STRINGS" "Z" (.int z) ∧ ¬ z = 0 ∧ 0 < A.slots.size ∧ A.slots.size ≤ 536870912 ∧ ∀ i, i < A.slots.size → ¬ 255 < cv A i
def E (a : Addr) (D : Cell) (fV fC : Field) (A : Cell) (r : Option Value) (s u : State) : Prop := Got a D fV fC A 0 A.slots.size r s u
/-- new String(chars), not empty, no char above 255: a Latin-1 String of their low bytes -/
theorem law (l : Launch) (a : Addr) (D : Cell) (fV fC : Field) (b : Addr) (A : Cell) (z : Int32) : Law l yN 2 1 3 52 yB 2 none site (P a D fV fC b A z) (E a D fV fC A) [⟨a, fC.slot⟩, ⟨a, fV.slot⟩] 1 A.slots.size := by
  refine Law.of_walk (plainFor_of_name (by decide +kernel)) (by decide +kernel) (by decide +kernel) (by decide) (fun _ _ h => by rw [h.1]; rfl) (fun _ U U' hal hh h => ⟨h.1, h.2.1.mv hal hh, h.2.2.1.al hal, h.2.2.2.1.al hal, h.2.2.2.2.1.mv hal hh, h.2.2.2.2.2.1.there hal hh, h.2.2.2.2.2.2⟩) (fun r U U' V V' h1 hal h2 h => Got.mv r U U' V V' h1 hal h2 h) ?_
  intro p e s m args below meth c s₁ X0 hexec hbytes hml hret hlk hnm hown hh0 W hP
  obtain ⟨rfl, hB, f1, f2, hA, s1, hz, l0, l2, hp⟩ := hP
  have c1 : Steps p.tables e below (s₁.setTop (entryFrame m #[.ref a, .ref b] 2)) (s₁.setTop (mkF m 0 #[.val (.ref a), .val (.ref b)] [])) := entry rfl
  have c2 : Steps p.tables e below (s₁.setTop (entryFrame m #[.ref a, .ref b] 2)) (s₁.setTop (mkF m 6 #[.val (.ref a), .val (.ref b)] [.null, .int (Int32.ofNat A.slots.size), .int 0, .ref b, .ref a])) := c1.trans (by
    refine XS.aloadN X0.here hexec rfl (hb hbytes d0) rfl rfl ?_
    refine XS.aloadN X0.here hexec rfl (hb hbytes d1) rfl rfl ?_
    refine iconstV X0.here hexec rfl 0 (hb hbytes d2) (by decide) ?_
    refine XS.aloadN X0.here hexec rfl (hb hbytes d3) rfl rfl ?_
    refine X0.alen hexec (hA.1.mv X0.warmed.alike hh0) rfl rfl (hb hbytes d4) ?_
    refine XS.aconstNull X0.here hexec rfl (hb hbytes d5) ?_
    exact Steps.refl _)
  obtain ⟨v3, T3, X3, E3, g3⟩ := X0.callN hexec (New4.law l a D fV fC b A z 0 A.slots.size) rfl hown (wks W (initW "java/lang/String" 27 New4.yN)) (W New4.tab (by simp only [site, List.mem_cons, List.mem_append, true_or, or_true])) (W := 0) (Nat.le_of_ble_eq_true rfl) (Nat.le_of_ble_eq_true rfl) (Nat.le_refl _) (by show 0 + A.slots.size ≤ A.slots.size; omega) (g := (mkF m 6 #[.val (.ref a), .val (.ref b)] [.null, .int (Int32.ofNat A.slots.size), .int (Int32.ofNat 0), .ref b, .ref a])) rfl (by rw [hml]; rfl) c2 (argsL := [.ref b, .int (Int32.ofNat 0), .int (Int32.ofNat A.slots.size), .null]) (rest := []) rfl rfl (by show 2 * 0 + 0 ≤ _; decide) (hb hbytes d6) (⟨rfl, hB.mv X0.warmed.alike hh0, f1.al X0.warmed.alike, f2.al X0.warmed.alike, hA.mv X0.warmed.alike hh0, s1.there X0.warmed.alike hh0, hz, l0, by omega, l2, fun i hi => by rw [Nat.zero_add]; exact hp i hi⟩)
  have e0 := Got.mv _ s₁ s _ _ hh0.symm (Vm.Alike.refl _) rfl E3
  obtain rfl := e0.1
  have c4 : Steps p.tables e below (s₁.setTop (entryFrame m #[.ref a, .ref b] 2)) (T3.setTop (mkF m 9 #[.val (.ref a), .val (.ref b)] [])) := g3
  exact ⟨T3, none, _, _, _, X3, by simp, rfl, by omega, (fun _ => rfl), e0, fun fs hl => c4.trans (X3.returnOut hexec hret (hb hbytes d9) hl)⟩
theorem pays {l : Launch} {R : Room} {p : Program} {e : Env} {below : List Frame} {s : State} {sargs : Array Value} {len W : Nat} (a : Addr) (D : Cell) (fV fC : Field) (b : Addr) (A : Cell) (z : Int32) (htab : tab.before sargs s = true) (hfr : 4 ≤ R.frames) (hlo : W + 65 ≤ R.locals) :
    Back l R p e below s sargs yN len W (fun A₁ a₁ => A₁.cells + 1 ≤ R.cells ∧ A₁.slots + A.slots.size ≤ R.slots ∧ P a D fV fC b A z a₁ A₁.U) (fun A₁ _ v₁ B₁ => E a D fV fC A v₁ A₁.U B₁.U ∧ B₁.locs = A₁.locs ++ [⟨a, fC.slot⟩, ⟨a, fV.slot⟩] ∧ B₁.cells = A₁.cells + 1 ∧ B₁.slots = A₁.slots + A.slots.size) :=
  (law l a D fV fC b A z).pays htab hfr (by omega)
end New1
end StrChars
namespace StrChars.Road
open Jvm Sem ClassFile Op Lib Jvm.Stand Jvm.Free Jvm.Free.XT
open Jvm.Lib.Cold (StaticIs)
abbrev ST : String := "java/lang/String"
/-- every table word that New1's law asks, flat -/
abbrev words : List Jvm.Cond := [.code New1.yN New1.yB 2 none, .initialized ST, .methodLink ST 27 New4.yN, .instanceMethod New4.yN,
  .code New4.yN New4.yB 6 none, .fieldLink ST 38 ST "COMPACT_STRINGS" "Z", .laysFinal ST ST "value" "[B", .fieldLink ST 9 ST "value" "[B", .laysFinal ST ST "coder" "B", .fieldLink ST 15 ST "coder" "B",
  .methodLink ST 1 Lib.objectInit, .instanceMethod Lib.objectInit, .code Lib.objectInit ⟨#[0xb1]⟩ 1 none, .methodLink ST 177 Cmp3.yN, .static Cmp3.yN, .methodLink ST 47 CodL.yN, .static CodL.yN,
  .code Cmp3.yN Cmp3.yB 6 (some (.array .byte)), .initialized U16, .arrayClass .byte, .methodLink U16 115 Cmp5.yN, .static Cmp5.yN, .code Cmp5.yN Cmp5.yB 7 (some .int), .code CodL.yN CodL.yB 2 (some .byte)]
theorem tab_of {a : Array Value} {s : State} (h : ∀ w ∈ words, w.before a s = true) : New1.tab.before a s = true := by
  have h5 : Cmp5.tab.before a s = true := unparts (wk h (.code Cmp5.yN Cmp5.yB 7 (some .int))) (wks h (.initialized Cmp5.yN.cls :: Cmp5.site))
  have hc : CodL.tab.before a s = true := unparts (wk h (.code CodL.yN CodL.yB 2 (some .byte))) (wks h (.initialized CodL.yN.cls :: CodL.site))
  have q5 : ∀ w ∈ Cmp5.tab :: words, w.before a s = true := fun w hw => (List.mem_cons.mp hw).elim (fun e => e ▸ h5) (h w)
  have h3 : Cmp3.tab.before a s = true := unparts (wk q5 (.code Cmp3.yN Cmp3.yB 6 (some (.array .byte)))) (wks q5 (.initialized Cmp3.yN.cls :: Cmp3.site))
  have q3 : ∀ w ∈ Cmp3.tab :: CodL.tab :: words, w.before a s = true := fun w hw => (List.mem_cons.mp hw).elim (fun e => e ▸ h3) fun hw => (List.mem_cons.mp hw).elim (fun e => e ▸ hc) (h w)
  have h4 : New4.tab.before a s = true := unparts (wk q3 (.code New4.yN New4.yB 6 none)) (wks q3 (.initialized New4.yN.cls :: New4.site))
  have q4 : ∀ w ∈ New4.tab :: words, w.before a s = true := fun w hw => (List.mem_cons.mp hw).elim (fun e => e ▸ h4) (h w)
  exact unparts (wk q4 (.code New1.yN New1.yB 2 none)) (wks q4 (.initialized New1.yN.cls :: New1.site))
/-- the words ride from the start Z to the walk's own state -/
theorem moved {Z s : State} {a0 args : Array Value} (hZ : Z.Warmed39 s.vm) (hw : ∀ d ∈ words, d.before a0 Z = true) : ∀ d ∈ words, d.before args s = true := fun d hd => by
  have q := hw d hd
  have t : ∀ d ∈ words, d = .arrayClass .byte ∨ (d.onTables && d.keepsFace) = true := by decide +kernel
  rcases t d hd with rfl | t
  · exact RoadKit.mvA hZ q
  · exact RoadKit.mv hZ q t
/-- WHAT COMES BACK, over the tables of the start Z: h the heap at the call, h' behind it -/
def Q (Z : State) (x : Addr) (A : Cell) (h : Heap) (v : Option Value) (h' : Heap) (L : List Loc) : Prop := v = none ∧ (∀ y ∈ L, y.base = x) ∧ RoadKit.Keep h h' [x] ∧ h'.size = h.size + 1 ∧ RoadKit.Exa Z h' x ST ∧ RoadKit.Fld Z h' x ST "value" "[B" (.ref h.size) ∧ RoadKit.Fld Z h' x ST "coder" "B" (.int 0) ∧
  (∃ V : Cell, RoadKit.Arr Z h' h.size V .byte ∧ V.vm = .none ∧ Z.vm.findClass "[B" = some V.cls ∧ V.slots.size = A.slots.size ∧ ∀ j, j < A.slots.size → V.slots[j]? = some (.int (lo8 (cv A j)))) ∧
  ∀ (O n d : String) (w : Value), RoadKit.Fld Z h x O n d w → RoadKit.slotOf Z O n d ≠ RoadKit.slotOf Z ST "value" "[B" → RoadKit.slotOf Z O n d ≠ RoadKit.slotOf Z ST "coder" "B" → RoadKit.Fld Z h' x O n d w
/-- **new String(chars) AT A CALL, IN THE ROAD'S FORM**: for specialBack behind newO: x the fresh String, b the char[] with the cell A -/
theorem back {p : Program} {l : Launch} {e : Env} {R : Room} {s : State} {args : Array Value} {below : List Frame} {len W : Nat} {Z : State} {a0 : Array Value} {h : Heap} (hZ : Z.Warmed39 s.vm) (hw : ∀ d ∈ words, d.before a0 Z = true) {kI : Nat} (wi : (Jvm.Cond.instantiable ST kI).before a0 Z = true)
    {x b : Addr} {A : Cell} {z : Int32} {v0 c0 : Value} (E : RoadKit.Exa Z h x ST) (V : RoadKit.Fld Z h x ST "value" "[B" v0) (C : RoadKit.Fld Z h x ST "coder" "B" c0) (K : RoadKit.Arr Z h b A .char) (hty : Typed .char A) (S : RoadKit.Sta Z h ST "COMPACT_STRINGS" "Z" (.int z)) (hz : ¬ z = 0)
    (l0 : 0 < A.slots.size) (l2 : A.slots.size ≤ 536870912) (hp : ∀ i, i < A.slots.size → ¬ 255 < cv A i) (hfr : 4 ≤ R.frames) (hlo : W + 65 ≤ R.locals) :
    Back l R p e below s args New1.yN len W (fun P a => a = #[.ref x, .ref b] ∧ P.U.heap = h ∧ P.cells + 1 ≤ R.cells ∧ P.slots + A.slots.size ≤ R.slots)
      (fun P _ v B => ∃ L, Q Z x A h v B.U.heap L ∧ B.locs = P.locs ++ L ∧ B.cells = P.cells + 1 ∧ B.slots = P.slots + A.slots.size) := by
  intro m meth c P g ig mk a X hg hsize hdg hW hn hp'
  obtain ⟨rfl, rfl, r1, r2⟩ := hp'
  have al : Z.vm.Alike P.U.vm := hZ.alike.trans X.warmed.alike
  obtain ⟨D, cfV, kV, iV, fV, hD, gV, stV, knV, obV, asV, slV⟩ := id V
  obtain ⟨D', cfC, kC, iC, fC, hD', gC, stC, -, -, asC, slC⟩ := id C
  cases hD.symm.trans hD'
  obtain ⟨D2, kD, e1, e2, e3, e4, e5⟩ := id E
  cases hD.symm.trans e1
  obtain ⟨c2, k2, i1, i2, i3, -⟩ := Cond.instantiable_spec wi
  cases e2.symm.trans i1
  cases e3.symm.trans i2
  obtain ⟨kU, u1, u2⟩ := al.2.2 _ _ e3
  have hB : Blank ST x D P.U := ⟨hD, ⟨knV, fun q hq => by rw [hq] at obV; cases obV⟩, by rw [al.findClass]; exact e2, kU, u1, by rw [u2]; exact i3, by rw [u2]; exact e5 i3⟩
  have F1 : Found ST "value" "[B" fV P.U := ⟨SBG.found_only al ⟨cfV, kV, iV, gV⟩, stV⟩
  have F2 : Found ST "coder" "B" fC P.U := ⟨SBG.found_only al ⟨cfC, kC, iC, gC⟩, stC⟩
  have hA : Ch b A P.U := ⟨⟨K.1, State.isArrayOf_alike al K.2.1, K.2.2, by omega⟩, hty⟩
  have hS : StaticIs P.U ST "COMPACT_STRINGS" "Z" (.int z) := by
    obtain ⟨cfS, iS, kS, fS, st, cS, t1, t2, t3, t4, t5, t6, t7⟩ := S
    exact StaticIs.there (s := { Z with heap := P.U.heap }) ⟨cfS, iS, kS, fS, st, cS, t1, t2, t3, t4, t5, (fun q => by rw [q] at t6; cases t6), t7⟩ al rfl
  obtain ⟨v, B, X', ⟨⟨hv, E', V', q1, q2, q3, q4, q5, q6, q7, q8, q9, q10, q11⟩, hl, hc, hs⟩, st⟩ := New1.pays x D fV fC b A z (tab_of (moved hZ hw)) hfr hlo m meth c P g ig mk _ X hg hsize hdg hW hn ⟨r1, r2, rfl, hB, F1, F2, hA, hS, hz, l0, l2, hp⟩
  have al' : Z.vm.Alike B.U.vm := hZ.alike.trans X'.warmed.alike
  have hsz : E'.slots.size = D.slots.size := by
    obtain ⟨-, -, -, kB, w1, w2, w3⟩ := q1
    obtain ⟨kB', y1, y2⟩ := al'.2.2 _ _ e3
    rw [q2.2.1] at w1
    cases w1.symm.trans y1
    rw [w3, e5 i3, y2]
  refine ⟨v, B, X', ⟨_, ⟨hv, ?_, ⟨by omega, fun y cy hy hn' => q10 y cy (by simpa using hn') hy, fun y cy hy => ?_⟩, q11, ⟨E', _, q1.1, by rw [q2.2.1]; exact e2, by rw [q2.2.1]; exact e3, by rw [q2.1]; exact obV, fun _ => by rw [hsz]; exact e5 i3⟩,
    ⟨E', cfV, kV, iV, fV, q1.1, gV, stV, by rw [q2.1]; exact knV, by rw [q2.1]; exact obV, by rw [q2.2.1]; exact asV, q3⟩, ⟨E', cfC, kC, iC, fC, q1.1, gC, stC, by rw [q2.1]; exact knV, by rw [q2.1]; exact obV, by rw [q2.2.1]; exact asC, q4⟩,
    ⟨V', ⟨q5.1, State.isArrayOf_alike al'.symm q5.2.1, q5.2.2.1⟩, q6, by rw [← al'.findClass]; exact q7, q8, fun j hj => by have := q9 j hj; rwa [Nat.zero_add] at this⟩, fun O n d w F n1 n2 => ?_⟩, hl, hc, hs⟩, st⟩
  · intro y hy
    simp only [List.mem_cons, List.not_mem_nil, or_false] at hy
    rcases hy with rfl | rfl <;> rfl
  · by_cases q : y = x
    · subst q
      cases hD.symm.trans hy
      exact ⟨E', q1.1, q2.2.1, q2.1, hsz⟩
    · exact ⟨cy, q10 y cy q hy, rfl, rfl, rfl⟩
  · obtain ⟨D3, cf, k, i, f, g1, g2, g3, g4, g5, g6, g7⟩ := F
    cases hD.symm.trans g1
    simp only [RoadKit.slotOf, g2, gV, gC, Option.map_some, Option.getD_some] at n1 n2
    exact ⟨E', cf, k, i, f, q1.1, g2, g3, by rw [q2.1]; exact g4, by rw [q2.1]; exact g5, by rw [q2.2.1]; exact g6, by rw [q2.2.2 f.slot (by simp [n1, n2])]; exact g7⟩
end StrChars.Road
namespace StrChars.Road
open Jvm Sem ClassFile Op Lib Jvm.Stand Jvm.Free Jvm.Free.XT
/-- WHAT COMES BACK, the byte[] as a list of values -/
def QA (Z : State) (x : Addr) (zn : Int32) (cs : List Int32) (h : Heap) (v : Option Value) (h' : Heap) (L : List Loc) : Prop := v = none ∧ (∀ y ∈ L, y.base = x) ∧ RoadKit.Keep h h' [x] ∧ h'.size = h.size + 1 ∧ RoadKit.Exa Z h' x ST ∧ RoadKit.Fld Z h' x ST "value" "[B" (.ref h.size) ∧ RoadKit.Fld Z h' x ST "coder" "B" (.int 0) ∧
  (∃ kb, Z.vm.findClass "[B" = some kb ∧ RoadKit.Arv Z h' h.size kb .byte zn (cs.map fun c => .int (lo8 c)) (.int 0)) ∧
  ∀ (O n d : String) (w : Value), RoadKit.Fld Z h x O n d w → RoadKit.slotOf Z O n d ≠ RoadKit.slotOf Z ST "value" "[B" → RoadKit.slotOf Z O n d ≠ RoadKit.slotOf Z ST "coder" "B" → RoadKit.Fld Z h' x O n d w
/-- **new String(chars) AT A CALL, THE ARRAYS AS LISTS**: the char[] at b holds cs, not empty, no char above 255 -/
theorem backArv {p : Program} {l : Launch} {e : Env} {R : Room} {s : State} {args : Array Value} {below : List Frame} {len W : Nat} {Z : State} {a0 : Array Value} {h : Heap} (hZ : Z.Warmed39 s.vm) (hw : ∀ d ∈ words, d.before a0 Z = true) {kI : Nat} (wi : (Jvm.Cond.instantiable ST kI).before a0 Z = true)
    {x b : Addr} {k : ClassId} {zn z : Int32} {cs : List Int32} {dv v0 c0 : Value} (E : RoadKit.Exa Z h x ST) (V : RoadKit.Fld Z h x ST "value" "[B" v0) (C : RoadKit.Fld Z h x ST "coder" "B" c0) (K : RoadKit.Arv Z h b k .char zn (cs.map Value.int) dv) (S : RoadKit.Sta Z h ST "COMPACT_STRINGS" "Z" (.int z)) (hz : ¬ z = 0)
    (hlen : zn.toNatClampNeg = cs.length) (h0 : 0 < cs.length) (hbig : cs.length ≤ 536870912) (hall : ∀ c ∈ cs, ¬ 255 < c) (hfr : 4 ≤ R.frames) (hlo : W + 65 ≤ R.locals) :
    Back l R p e below s args New1.yN len W (fun P a => a = #[.ref x, .ref b] ∧ P.U.heap = h ∧ P.cells + 1 ≤ R.cells ∧ P.slots + cs.length ≤ R.slots)
      (fun P _ v B => ∃ L, QA Z x zn cs h v B.U.heap L ∧ B.locs = P.locs ++ L ∧ B.cells = P.cells + 1 ∧ B.slots = P.slots + cs.length) := by
  obtain ⟨A, K1, K2, K3, K4, K5, K6⟩ := K
  have e : A.slots.size = cs.length := K3.trans hlen
  have hat : ∀ (i : Nat) (hi : i < cs.length), A.slots[i]? = some (.int cs[i]) := fun i hi => by rw [K5 i (by omega)]; simp [List.getD_eq_getElem?_getD, hi]
  have hcv : ∀ (i : Nat) (hi : i < cs.length), cv A i = cs[i] := fun i hi => by unfold cv; rw [hat i hi]
  have hty : Typed .char A := fun i v hv => by
    have hi : i < A.slots.size := (Array.getElem?_eq_some_iff.mp hv).1
    have q := K5 i hi
    rw [hv] at q
    rw [Option.some.inj q]
    exact K6 i hi
  refine Back.mono (back hZ hw wi E V C K1 hty S hz (by omega) (by omega) (fun i hi => by rw [hcv i (by omega)]; exact hall _ (List.getElem_mem _)) hfr hlo) (fun P a hp => ⟨hp.1, hp.2.1, hp.2.2.1, by rw [e]; exact hp.2.2.2⟩) (fun P a v B hp hq => ?_)
  obtain ⟨L, ⟨q1, q2, q3, q4, q5, q6, q7, ⟨V', v1, v2, v3, v4, v5⟩, q9⟩, hl, hc, hs⟩ := hq
  refine ⟨L, ⟨q1, q2, q3, q4, q5, q6, q7, ⟨V'.cls, v3, V', v1, rfl, by rw [v4, e, hlen], K4, fun i hi => ?_, fun i hi => ?_⟩, q9⟩, hl, hc, by rw [hs, e]⟩
  · have hi' : i < cs.length := by omega
    rw [v5 i (by omega), hcv i hi']; simp [List.getD_eq_getElem?_getD, hi']
  · have hi' : i < cs.length := by omega
    simp only [List.getD_eq_getElem?_getD, List.getElem?_map, List.getElem?_eq_getElem hi', Option.map_some, Option.getD_some]
    exact fits_lo8 _
end StrChars.Road
namespace StrChars.Road
open Jvm Sem ClassFile Op Lib Jvm.Stand Jvm.Free Jvm.Free.XT
/-- WHAT COMES BACK, in the writer's own shape -/
def QV (Z : State) (x : Addr) (N : Int32) (bs : List Int32) (h : Heap) (n0 : Nat) (v : Option Value) (h' : Heap) (L : List Loc) : Prop := v = none ∧ RoadKit.Fr n0 L ∧ RoadKit.Keep h h' [x] ∧ RoadKit.Exa Z h' x ST ∧ RoadKit.Fld Z h' x ST "coder" "B" (.int 0) ∧
  ∃ (t : Addr) (kb : ClassId), n0 ≤ t ∧ h.size ≤ t ∧ ¬ t = x ∧ RoadKit.Fld Z h' x ST "value" "[B" (.ref t) ∧ RoadKit.Arv Z h' t kb .byte N (bs.map Value.int) (.int 0)
/-- **new String(chars) AT A CALL, FOR THE WRITER**: a char[] of n known ints, each 0 to 255 -/
theorem backV {p : Program} {l : Launch} {e : Env} {R : Room} {s : State} {args : Array Value} {below : List Frame} {len W : Nat} {Z : State} {a0 : Array Value} {h : Heap} (hZ : Z.Warmed39 s.vm) (hw : ∀ d ∈ words, d.before a0 Z = true) {kI : Nat} (wi : (Jvm.Cond.instantiable ST kI).before a0 Z = true)
    {x b : Addr} {kC : ClassId} {cs bs : List Int32} {d v0 c0 : Value} {z N : Int32} {n n0 : Nat} (hx0 : n0 ≤ x) (hh0 : n0 ≤ h.size) (E : RoadKit.Exa Z h x ST) (V : RoadKit.Fld Z h x ST "value" "[B" v0) (C : RoadKit.Fld Z h x ST "coder" "B" c0) (K : RoadKit.Arv Z h b kC .char N (cs.map Value.int) d) (S : RoadKit.Sta Z h ST "COMPACT_STRINGS" "Z" (.int z)) (hz : ¬ z = 0)
    (hn : cs.length = n) (hN : N = Int32.ofNat n) (l0 : 0 < n) (l2 : n ≤ 4000) (hp : ∀ c ∈ cs, ¬ c < 0 ∧ ¬ (255 : Int32) < c) (hb : bs = cs.map (fun c => c.toInt8.toInt32)) (hfr : 4 ≤ R.frames) (hlo : W + 65 ≤ R.locals) :
    Back l R p e below s args (⟨"java/lang/String", "<init>", "([C)V"⟩ : MethodName) len W (fun P a => a = #[.ref x, .ref b] ∧ P.U.heap = h ∧ P.cells + 1 ≤ R.cells ∧ P.slots + n ≤ R.slots)
      (fun P _ v B => ∃ L, QV Z x N bs h n0 v B.U.heap L ∧ B.locs = P.locs ++ L ∧ B.cells = P.cells + 1 ∧ B.slots = P.slots + n) := by
  subst hn hN hb
  refine Back.mono (backArv hZ hw wi E V C K S hz (n32 (by omega)) l0 (by omega) (fun c hc => (hp c hc).2) hfr hlo) (fun P a hp => hp) (fun P a v B hp hq => ?_)
  obtain ⟨L, ⟨q1, q2, q3, q4, q5, q6, q7, ⟨kb, v1, v2⟩, q9⟩, hl, hc, hs⟩ := hq
  exact ⟨L, ⟨q1, fun y hy => by rw [q2 y hy]; exact hx0, q3, q5, q7, h.size, kb, hh0, Nat.le_refl _, Nat.ne_of_gt E.lt, q6, by rw [List.map_map]; exact v2⟩, hl, hc, hs⟩
end StrChars.Road
end Jvm.Pilot.@@N@@
namespace Jvm.Pilot.@@N@@
open Jvm Jvm.ClassFile Sem Op Lib Jvm.Free Jvm.Stand Jvm.LawKit Jvm.RoadKit Bundle Jvm.Pilot.@@N@@.Jvm.D
/-! ints of small ranges -/
theorem ofRange {x : Int32} {n : Nat} (h0 : 0 ≤ x.toInt) (h1 : x.toInt < n) (hn : n ≤ 2147483648) : ∃ j : Fin n, x = Int32.ofNat j.val := by
  refine ⟨⟨x.toInt.toNat, by omega⟩, Int32.toInt_inj.mp ?_⟩
  rw [Int32.toInt_ofNat_of_lt (by show x.toInt.toNat < _; omega)]
  show x.toInt = (x.toInt.toNat : Int)
  omega
theorem andB (x m : Int32) (hm : 0 ≤ m.toInt) : 0 ≤ (x &&& m).toInt ∧ (x &&& m).toInt ≤ m.toInt := by
  have h1 : (x &&& m).toBitVec.toNat ≤ m.toBitVec.toNat := by
    simp only [Int32.toBitVec_and, BitVec.toNat_and]; exact Nat.and_le_right
  have h2 : m.toBitVec.toNat < 2 ^ 32 := m.toBitVec.isLt
  have e1 : m.toInt = m.toBitVec.toInt := rfl
  have e2 : (x &&& m).toInt = (x &&& m).toBitVec.toInt := rfl
  rw [BitVec.toInt_eq_toNat_cond] at e1 e2
  split at e1 <;> split at e2 <;> omega
/-- x & (2^k - 1) is one of 2^k numbers -/
theorem andR (x m : Int32) {n : Nat} (hm : m.toInt + 1 = n) (hn : 0 < n) : ∃ j : Fin n, x &&& m = Int32.ofNat j.val := by
  have h := andB x m (by omega)
  have := Int32.toInt_lt m
  exact ofRange h.1 (by omega) (by omega)
/-- (x & 0x7fffffff) % c is one of c numbers -/
theorem modR (x c : Int32) {n : Nat} (hc : c.toInt = n) (hn : 0 < n) : ∃ j : Fin n, (x &&& (2147483647 : Int32)) % c = Int32.ofNat j.val := by
  have h := andB x (2147483647 : Int32) (by decide)
  have e : ((x &&& (2147483647 : Int32)) % c).toInt = (x &&& (2147483647 : Int32)).toInt.tmod c.toInt := Int32.toInt_mod _ _
  have hp : (0 : Int) < c.toInt := by omega
  have h1 := Int.tmod_nonneg c.toInt h.1
  have h2 := Int.tmod_lt_of_pos (x &&& (2147483647 : Int32)).toInt hp
  have := Int32.toInt_lt c
  exact ofRange (by rw [e]; exact h1) (by rw [e]; omega) (by omega)
/-- a number of 0 to n-1 modulo c -/
theorem ofNat_lt {i n : Nat} (h : i < n) (hn : n ≤ 4000) : Int32.ofNat i < Int32.ofNat n := by
  rw [Int32.lt_iff_toInt_lt, Int32.toInt_ofNat_of_lt (by omega), Int32.toInt_ofNat_of_lt (by omega)]; omega
theorem ofNat_succ (i : Nat) : Int32.ofNat i + (1 : Int32) = Int32.ofNat (i + 1) := by
  apply Int32.toBitVec_inj.mp
  show BitVec.ofNat 32 i + BitVec.ofNat 32 1 = BitVec.ofNat 32 (i + 1)
  rw [BitVec.ofNat_add]
/-! the walk, its state bundled: one proposition carries the Stand (re-based behind a load that may intern), the heap, the tables' growth, and the steps from the start -/
section WkKit
variable {p : Program} {l : Launch} {e : Env} {R : Room} {s : State} {m : MethodId} {args : Array Value} {below : List Frame} {meth : Method} {c : Code} {Z : State} {a0 : Array Value} {EL : List (String × Nat)} {own : String} {B : ByteArray} {mx : Nat} {s₁ : State} {g0 g g' : JFrame} {h h' : Heap} {cells slots pc q : Nat} {sf : List Addr} {Ls Ls' : Array Slot} {st rest : List Value} {x y z : Int32} {v w : Value} {a b : Addr}
def Wk (p : Program) (l : Launch) (e : Env) (R : Room) (s : State) (m : MethodId) (args : Array Value) (below : List Frame) (meth : Method) (c : Code) (Z : State) (EL : List (String × Nat)) (own : String) (B : ByteArray) (mx : Nat) (s₁ : State) (g0 g : JFrame) (h : Heap) (cells slots : Nat) (sf : List Addr) : Prop :=
  p.tables.exec = Jvm.exec ∧ c.code = B ∧ c.maxLocals = mx ∧ ∃ (T : State) (vm : Vm) (locs : List Loc) (k : Nat),
    Stand p l e R (s.setVm vm) m args below meth c T locs cells slots ∧ T.heap = h ∧ Z.Warmed39 vm ∧ vm.findClass own = some m.cls ∧ s.Since vm k ∧ k ≤ h.size ∧ CHr Z EL s.vm s.heap vm h ∧ Ext Z.heap h ∧ Fr Z.heap.size locs ∧ (∀ x ∈ sf, x < h.size ∧ Safe Z EL vm h x) ∧ Steps p.tables e below (s₁.setTop g0) (T.setTop g)
/-- what a walk owes at its end -/
def Dn (p : Program) (e : Env) (below : List Frame) (s s₁ : State) (g0 : JFrame) (Z : State) (EL : List (String × Nat)) (R : Room) (Q : Option Value → Heap → Prop) : Prop :=
  ∃ s₂ o, Steps p.tables e below (s₁.setTop g0) s₂ ∧ s₂.status = .running ∧ Ended s₂ below o ∧ ∃ v L, o = .returned v ∧ (Q v s₂.heap ∧ Fr Z.heap.size L ∧ Ext Z.heap s₂.heap) ∧ CHr Z EL s.vm s.heap s₂.vm s₂.heap ∧ ReturnedEndW s o s₂ L R.cells R.slots
/-- a method's contract: called with as' over the heap hp it comes back, and Q holds of what it answers and of the heap -/
def Ctr (l : Launch) (Z : State) (EL : List (String × Nat)) (y : MethodName) (bytes : ByteArray) (maxL : Nat) (ret : Option FieldType) (ws : List Jvm.Cond) (rm : Room) (as' : Array Value) (hp : Heap) (sf0 : List Addr) (Q : Option Value → Heap → Prop) : Prop :=
  MetFree l y (head1 (Jvm.Cond.code y bytes maxL ret :: ws) rm) (fun a U => a = as' ∧ Z.Warmed39 U.vm ∧ U.heap = hp ∧ CHv Z EL U.vm hp ∧ ∀ x ∈ sf0, x < hp.size ∧ Safe Z EL U.vm hp x) (fun _ _ _ _ _ => True)
    (fun _ U o U' => ∃ v L, o = .returned v ∧ (Q v U'.heap ∧ Fr Z.heap.size L ∧ Ext Z.heap U'.heap) ∧ CHr Z EL U.vm U.heap U'.vm U'.heap ∧ ReturnedEndW U o U' L rm.cells rm.slots)
theorem Ctr.of {y : MethodName} {bytes : ByteArray} {maxL : Nat} {ret : Option FieldType} {ws : List Jvm.Cond} {rm : Room} {as' : Array Value} {hp : Heap} {sf0 : List Addr} {Q : Option Value → Heap → Prop} (hpn : plainName y.cls = true) (O : Ext Z.heap hp)
    (body : ∀ p e s m below meth c s₁, meth.sig.returnType = ret → meth.locks = false → meth.name = y.name → Wk p l e rm s m as' below meth c Z EL y.cls bytes maxL s₁ (entryFrame m as' maxL) (entryFrame m as' maxL) hp 0 0 sf0 → Dn p e below s s₁ (entryFrame m as' maxL) Z EL rm Q) :
    Ctr l Z EL y bytes maxL ret ws rm as' hp sf0 Q := by
  refine MetFree.of_bodySF (plainFor_of_name hpn) hisR ?_
  intro p e s m args below meth c s₁ Bd hml0 hP hK
  obtain ⟨hargs, hZ, hh, hH, hS0⟩ := hP
  subst hargs
  have X0 : Stand p l e rm s m args below meth c s₁ [] 0 0 := Stand.of_body Bd
  have e0 : s₁.heap = hp := by rw [← hh, Bd.state]; rfl
  have C0 : CHr Z EL s.vm s.heap s.vm hp := by rw [hh]; exact CHr.refl hH
  exact body p e s m below meth c s₁ Bd.returns Bd.notSynchronized (name_of_methodNamed Bd.named Bd.method).1 ⟨Bd.exec, Bd.bytes, hml0, s₁, s.vm, [], 0, X0, e0, hZ, findClass_of_methodNamed Bd.named, (State.WarmedH.refl s).since 0, Nat.zero_le _, C0, O, Fr.nil _, hS0, Steps.refl _⟩
theorem Wk.go (X : Wk p l e R s m args below meth c Z EL own B mx s₁ g0 g h cells slots sf)
    (f : p.tables.exec = Jvm.exec → c.code = B → ∀ T, At T m c below → ∀ t, Steps p.tables e below (T.setTop g') t → Steps p.tables e below (T.setTop g) t) :
    Wk p l e R s m args below meth c Z EL own B mx s₁ g0 g' h cells slots sf := by
  obtain ⟨hx, hB, hm, T, vm, locs, k, X, r1, r2, r3, r4, r5, r6, r7, r8, r9, st⟩ := X
  exact ⟨hx, hB, hm, T, vm, locs, k, X, r1, r2, r3, r4, r5, r6, r7, r8, r9, st.trans (f hx hB T X.here _ (Steps.refl _))⟩
theorem Wk.cast (X : Wk p l e R s m args below meth c Z EL own B mx s₁ g0 g h cells slots sf) (hg : g = g') : Wk p l e R s m args below meth c Z EL own B mx s₁ g0 g' h cells slots sf := hg ▸ X
theorem Wk.more {cells' slots' : Nat} (X : Wk p l e R s m args below meth c Z EL own B mx s₁ g0 g h cells slots sf) (hc : cells ≤ cells') (hs : slots ≤ slots') : Wk p l e R s m args below meth c Z EL own B mx s₁ g0 g h cells' slots' sf := by
  obtain ⟨hx, hB, hm, T, vm, locs, k, X, r⟩ := X
  exact ⟨hx, hB, hm, T, vm, locs, k, X.more hc hs, r⟩
theorem Wk.drop {sf' : List Addr} (X : Wk p l e R s m args below meth c Z EL own B mx s₁ g0 g h cells slots sf) (hs : ∀ x ∈ sf', x ∈ sf) : Wk p l e R s m args below meth c Z EL own B mx s₁ g0 g h cells slots sf' := by
  obtain ⟨hx, hB, hm, T, vm, locs, k, X, r1, r2, r3, r4, r5, r6, r7, r8, r9, st⟩ := X
  exact ⟨hx, hB, hm, T, vm, locs, k, X, r1, r2, r3, r4, r5, r6, r7, r8, fun x q => r9 x (hs x q), st⟩
theorem Wk.old (X : Wk p l e R s m args below meth c Z EL own B mx s₁ g0 g h cells slots sf) : Ext Z.heap h := by
  obtain ⟨hx, hB, hm, T, vm, locs, k, X, r1, r2, r3, r4, r5, r6, r7, r8, r9, st⟩ := X
  exact r7
theorem cat_of_ref {v : Value} (h : v.isRef = true) : v.category = 1 := by cases v <;> first | rfl | cases h
/-! plain steps -/
theorem Wk.aload_n (X : Wk p l e R s m args below meth c Z EL own B mx s₁ g0 (mkF m pc Ls st) h cells slots sf) {k : Fin 4} (d : decode B pc = .ok (.aload_n k, 1)) (hl : Ls[k.val]? = some (.val v)) (hv : v.isRef = true) (hq : pc + 1 = q) : Wk p l e R s m args below meth c Z EL own B mx s₁ g0 (mkF m q Ls (v :: st)) h cells slots sf := by
  subst hq; exact X.go fun hx hB T A t r => XS.aloadN A hx rfl (hb hB d) hl hv r
theorem Wk.aload (X : Wk p l e R s m args below meth c Z EL own B mx s₁ g0 (mkF m pc Ls st) h cells slots sf) {k : Nat} (d : decode B pc = .ok (.aload k, 2)) (hl : Ls[k]? = some (.val v)) (hv : v.isRef = true) (hq : pc + 2 = q) : Wk p l e R s m args below meth c Z EL own B mx s₁ g0 (mkF m q Ls (v :: st)) h cells slots sf := by
  subst hq; exact X.go fun hx hB T A t r => XS.aload A hx rfl (hb hB d) hl hv r
theorem Wk.iload_n (X : Wk p l e R s m args below meth c Z EL own B mx s₁ g0 (mkF m pc Ls st) h cells slots sf) {k : Fin 4} (d : decode B pc = .ok (.iload_n k, 1)) (hl : Ls[k.val]? = some (.val (.int x))) (hq : pc + 1 = q) : Wk p l e R s m args below meth c Z EL own B mx s₁ g0 (mkF m q Ls (.int x :: st)) h cells slots sf := by
  subst hq; exact X.go fun hx hB T A t r => XS.iloadN A hx rfl (hb hB d) hl r
theorem Wk.iload (X : Wk p l e R s m args below meth c Z EL own B mx s₁ g0 (mkF m pc Ls st) h cells slots sf) {k : Nat} (d : decode B pc = .ok (.iload k, 2)) (hl : Ls[k]? = some (.val (.int x))) (hq : pc + 2 = q) : Wk p l e R s m args below meth c Z EL own B mx s₁ g0 (mkF m q Ls (.int x :: st)) h cells slots sf := by
  subst hq; exact X.go fun hx hB T A t r => XS.iload A hx rfl (hb hB d) hl r
theorem Wk.iconst (X : Wk p l e R s m args below meth c Z EL own B mx s₁ g0 (mkF m pc Ls st) h cells slots sf) {i : Int} (d : decode B pc = .ok (.iconst i, 1)) (hz : Int32.ofInt i = z) (hq : pc + 1 = q) : Wk p l e R s m args below meth c Z EL own B mx s₁ g0 (mkF m q Ls (.int z :: st)) h cells slots sf := by
  subst hq hz; exact X.go fun hx hB T A t r => XS.iconst A hx rfl (hb hB d) r
theorem Wk.bipush (X : Wk p l e R s m args below meth c Z EL own B mx s₁ g0 (mkF m pc Ls st) h cells slots sf) {i : Int} (d : decode B pc = .ok (.bipush i, 2)) (hz : (Int8.ofInt i).toInt32 = z) (hq : pc + 2 = q) : Wk p l e R s m args below meth c Z EL own B mx s₁ g0 (mkF m q Ls (.int z :: st)) h cells slots sf := by
  subst hq hz; exact X.go fun hx hB T A t r => XS.bipush A hx rfl (hb hB d) r
theorem Wk.sipush (X : Wk p l e R s m args below meth c Z EL own B mx s₁ g0 (mkF m pc Ls st) h cells slots sf) {i : Int} (d : decode B pc = .ok (.sipush i, 3)) (hz : (Int16.ofInt i).toInt32 = z) (hq : pc + 3 = q) : Wk p l e R s m args below meth c Z EL own B mx s₁ g0 (mkF m q Ls (.int z :: st)) h cells slots sf := by
  subst hq hz; exact X.go fun hx hB T A t r => XS.sipush A hx rfl (hb hB d) r
theorem Wk.aconst_null (X : Wk p l e R s m args below meth c Z EL own B mx s₁ g0 (mkF m pc Ls st) h cells slots sf) (d : decode B pc = .ok (.aconst_null, 1)) (hq : pc + 1 = q) : Wk p l e R s m args below meth c Z EL own B mx s₁ g0 (mkF m q Ls (.null :: st)) h cells slots sf := by
  subst hq; exact X.go fun hx hB T A t r => XS.aconstNull A hx rfl (hb hB d) r
theorem Wk.iadd (X : Wk p l e R s m args below meth c Z EL own B mx s₁ g0 (mkF m pc Ls (.int y :: .int x :: st)) h cells slots sf) (d : decode B pc = .ok (.iadd, 1)) (hz : x + y = z) (hq : pc + 1 = q) : Wk p l e R s m args below meth c Z EL own B mx s₁ g0 (mkF m q Ls (.int z :: st)) h cells slots sf := by
  subst hq hz; exact X.go fun hx hB T A t r => XS.iadd A hx rfl (hb hB d) rfl r
theorem Wk.isub (X : Wk p l e R s m args below meth c Z EL own B mx s₁ g0 (mkF m pc Ls (.int y :: .int x :: st)) h cells slots sf) (d : decode B pc = .ok (.isub, 1)) (hz : x - y = z) (hq : pc + 1 = q) : Wk p l e R s m args below meth c Z EL own B mx s₁ g0 (mkF m q Ls (.int z :: st)) h cells slots sf := by
  subst hq hz; exact X.go fun hx hB T A t r => XS.isub A hx rfl (hb hB d) rfl r
theorem Wk.iand (X : Wk p l e R s m args below meth c Z EL own B mx s₁ g0 (mkF m pc Ls (.int y :: .int x :: st)) h cells slots sf) (d : decode B pc = .ok (.iand, 1)) (hz : x &&& y = z) (hq : pc + 1 = q) : Wk p l e R s m args below meth c Z EL own B mx s₁ g0 (mkF m q Ls (.int z :: st)) h cells slots sf := by
  subst hq hz; exact X.go fun hx hB T A t r => XS.iand A hx rfl (hb hB d) rfl r
theorem Wk.iushr (X : Wk p l e R s m args below meth c Z EL own B mx s₁ g0 (mkF m pc Ls (.int y :: .int x :: st)) h cells slots sf) (d : decode B pc = .ok (.iushr, 1)) (hz : XT.ushr x y = z) (hq : pc + 1 = q) : Wk p l e R s m args below meth c Z EL own B mx s₁ g0 (mkF m q Ls (.int z :: st)) h cells slots sf := by
  subst hq hz; exact X.go fun hx hB T A t r => XT.iushr A hx rfl (hb hB d) rfl r
theorem Wk.irem (X : Wk p l e R s m args below meth c Z EL own B mx s₁ g0 (mkF m pc Ls (.int y :: .int x :: st)) h cells slots sf) (d : decode B pc = .ok (.irem, 1)) (hy : y ≠ 0) (hz : x % y = z) (hq : pc + 1 = q) : Wk p l e R s m args below meth c Z EL own B mx s₁ g0 (mkF m q Ls (.int z :: st)) h cells slots sf := by
  subst hq hz
  have q0 : x - x / y * y = x % y := irem_eq_mod x y
  exact X.go fun hx hB T A t r => XS.irem A hx rfl (hb hB d) rfl hy (by rw [q0]; exact r)
theorem Wk.i2c (X : Wk p l e R s m args below meth c Z EL own B mx s₁ g0 (mkF m pc Ls (.int x :: st)) h cells slots sf) (d : decode B pc = .ok (.i2c, 1)) (hz : x.toUInt32.toUInt16.toUInt32.toInt32 = z) (hq : pc + 1 = q) : Wk p l e R s m args below meth c Z EL own B mx s₁ g0 (mkF m q Ls (.int z :: st)) h cells slots sf := by
  subst hq hz; exact X.go fun hx hB T A t r => XT.i2c A hx rfl (hb hB d) rfl r
theorem Wk.i2b (X : Wk p l e R s m args below meth c Z EL own B mx s₁ g0 (mkF m pc Ls (.int x :: st)) h cells slots sf) (d : decode B pc = .ok (.i2b, 1)) (hz : x.toInt8.toInt32 = z) (hq : pc + 1 = q) : Wk p l e R s m args below meth c Z EL own B mx s₁ g0 (mkF m q Ls (.int z :: st)) h cells slots sf := by
  subst hq hz; exact X.go fun hx hB T A t r => XT.i2b A hx rfl (hb hB d) rfl r
theorem Wk.dup (X : Wk p l e R s m args below meth c Z EL own B mx s₁ g0 (mkF m pc Ls (v :: st)) h cells slots sf) (d : decode B pc = .ok (.dup, 1)) (hc : v.category = 1) (hq : pc + 1 = q) : Wk p l e R s m args below meth c Z EL own B mx s₁ g0 (mkF m q Ls (v :: v :: st)) h cells slots sf := by
  subst hq; exact X.go fun hx hB T A t r => XS.dup A hx rfl (hb hB d) rfl hc r
theorem Wk.pop (X : Wk p l e R s m args below meth c Z EL own B mx s₁ g0 (mkF m pc Ls (v :: st)) h cells slots sf) (d : decode B pc = .ok (.pop, 1)) (hc : v.category = 1) (hq : pc + 1 = q) : Wk p l e R s m args below meth c Z EL own B mx s₁ g0 (mkF m q Ls st) h cells slots sf := by
  subst hq; exact X.go fun hx hB T A t r => XT.pop A hx rfl (hb hB d) rfl hc r
theorem Wk.istore_n (X : Wk p l e R s m args below meth c Z EL own B mx s₁ g0 (mkF m pc Ls (.int x :: st)) h cells slots sf) {k : Fin 4} (d : decode B pc = .ok (.istore_n k, 1)) (hl : storeLocals Ls k.val (.int x) = some Ls') (hq : pc + 1 = q) : Wk p l e R s m args below meth c Z EL own B mx s₁ g0 (mkF m q Ls' st) h cells slots sf := by
  subst hq; exact X.go fun hx hB T A t r => XS.istoreN A hx rfl (hb hB d) rfl hl r
theorem Wk.istore (X : Wk p l e R s m args below meth c Z EL own B mx s₁ g0 (mkF m pc Ls (.int x :: st)) h cells slots sf) {k : Nat} (d : decode B pc = .ok (.istore k, 2)) (hl : storeLocals Ls k (.int x) = some Ls') (hq : pc + 2 = q) : Wk p l e R s m args below meth c Z EL own B mx s₁ g0 (mkF m q Ls' st) h cells slots sf := by
  subst hq; exact X.go fun hx hB T A t r => XS.istore A hx rfl (hb hB d) rfl hl r
theorem Wk.astore_n (X : Wk p l e R s m args below meth c Z EL own B mx s₁ g0 (mkF m pc Ls (v :: st)) h cells slots sf) {k : Fin 4} (d : decode B pc = .ok (.astore_n k, 1)) (hv : v.isRef = true) (hl : storeLocals Ls k.val v = some Ls') (hq : pc + 1 = q) : Wk p l e R s m args below meth c Z EL own B mx s₁ g0 (mkF m q Ls' st) h cells slots sf := by
  subst hq; exact X.go fun hx hB T A t r => XS.astoreN A hx rfl (hb hB d) rfl hv hl r
theorem Wk.astore (X : Wk p l e R s m args below meth c Z EL own B mx s₁ g0 (mkF m pc Ls (v :: st)) h cells slots sf) {k : Nat} (d : decode B pc = .ok (.astore k, 2)) (hv : v.isRef = true) (hl : storeLocals Ls k v = some Ls') (hq : pc + 2 = q) : Wk p l e R s m args below meth c Z EL own B mx s₁ g0 (mkF m q Ls' st) h cells slots sf := by
  subst hq; exact X.go fun hx hB T A t r => XS.astore A hx rfl (hb hB d) rfl hv hl r
theorem Wk.iinc (X : Wk p l e R s m args below meth c Z EL own B mx s₁ g0 (mkF m pc Ls st) h cells slots sf) {k : Nat} {cst : Int} (d : decode B pc = .ok (.iinc k cst, 3)) (hl : Ls[k]? = some (.val (.int x))) (hz : x + Int32.ofInt cst = z) (hl' : storeLocals Ls k (.int z) = some Ls') (hq : pc + 3 = q) : Wk p l e R s m args below meth c Z EL own B mx s₁ g0 (mkF m q Ls' st) h cells slots sf := by
  subst hq hz; exact X.go fun hx hB T A t r => XS.iinc A hx rfl (hb hB d) hl hl' r
theorem Wk.goto (X : Wk p l e R s m args below meth c Z EL own B mx s₁ g0 (mkF m pc Ls st) h cells slots sf) {o : Int} (d : decode B pc = .ok (.goto o, 3)) (ho : 0 ≤ (pc : Int) + o) (hq : ((pc : Int) + o).toNat = q) : Wk p l e R s m args below meth c Z EL own B mx s₁ g0 (mkF m q Ls st) h cells slots sf :=
  X.go fun hx hB T A t r => XS.goto A hx rfl rfl (hb hB d) ho hq r
theorem Wk.ifYes (X : Wk p l e R s m args below meth c Z EL own B mx s₁ g0 (mkF m pc Ls (.int x :: st)) h cells slots sf) {cd : ClassFile.Cond} {o : Int} (d : decode B pc = .ok (.ifCond cd o, 3)) (hc : if_icmp.holds cd x 0 = true) (ho : 0 ≤ (pc : Int) + o) (hq : ((pc : Int) + o).toNat = q) : Wk p l e R s m args below meth c Z EL own B mx s₁ g0 (mkF m q Ls st) h cells slots sf :=
  X.go fun hx hB T A t r => XS.ifYes A hx rfl rfl (hb hB d) rfl ((if0 _ _).trans hc) ho hq r
theorem Wk.ifNo (X : Wk p l e R s m args below meth c Z EL own B mx s₁ g0 (mkF m pc Ls (.int x :: st)) h cells slots sf) {cd : ClassFile.Cond} {o : Int} (d : decode B pc = .ok (.ifCond cd o, 3)) (hc : if_icmp.holds cd x 0 = false) (hq : pc + 3 = q) : Wk p l e R s m args below meth c Z EL own B mx s₁ g0 (mkF m q Ls st) h cells slots sf := by
  subst hq; exact X.go fun hx hB T A t r => XS.ifNo A hx rfl (hb hB d) rfl ((if0 _ _).trans hc) r
theorem Wk.icmpYes (X : Wk p l e R s m args below meth c Z EL own B mx s₁ g0 (mkF m pc Ls (.int y :: .int x :: st)) h cells slots sf) {cd : ClassFile.Cond} {o : Int} (d : decode B pc = .ok (.if_icmp cd o, 3)) (hc : if_icmp.holds cd x y = true) (ho : 0 ≤ (pc : Int) + o) (hq : ((pc : Int) + o).toNat = q) : Wk p l e R s m args below meth c Z EL own B mx s₁ g0 (mkF m q Ls st) h cells slots sf :=
  X.go fun hx hB T A t r => XS.icmpYes A hx rfl rfl (hb hB d) rfl hc ho hq r
theorem Wk.icmpNo (X : Wk p l e R s m args below meth c Z EL own B mx s₁ g0 (mkF m pc Ls (.int y :: .int x :: st)) h cells slots sf) {cd : ClassFile.Cond} {o : Int} (d : decode B pc = .ok (.if_icmp cd o, 3)) (hc : if_icmp.holds cd x y = false) (hq : pc + 3 = q) : Wk p l e R s m args below meth c Z EL own B mx s₁ g0 (mkF m q Ls st) h cells slots sf := by
  subst hq; exact X.go fun hx hB T A t r => XS.icmpNo A hx rfl (hb hB d) rfl hc r
theorem Wk.ifnullYes (X : Wk p l e R s m args below meth c Z EL own B mx s₁ g0 (mkF m pc Ls (.null :: st)) h cells slots sf) {o : Int} (d : decode B pc = .ok (.ifnull o, 3)) (ho : 0 ≤ (pc : Int) + o) (hq : ((pc : Int) + o).toNat = q) : Wk p l e R s m args below meth c Z EL own B mx s₁ g0 (mkF m q Ls st) h cells slots sf :=
  X.go fun hx hB T A t r => XS.ifnullYes A hx rfl rfl (hb hB d) rfl ho hq r
theorem Wk.ifnullNo (X : Wk p l e R s m args below meth c Z EL own B mx s₁ g0 (mkF m pc Ls (.ref a :: st)) h cells slots sf) {o : Int} (d : decode B pc = .ok (.ifnull o, 3)) (hq : pc + 3 = q) : Wk p l e R s m args below meth c Z EL own B mx s₁ g0 (mkF m q Ls st) h cells slots sf := by
  subst hq; exact X.go fun hx hB T A t r => XS.ifnullNo A hx rfl (hb hB d) rfl r
theorem Wk.ifnonnullYes (X : Wk p l e R s m args below meth c Z EL own B mx s₁ g0 (mkF m pc Ls (.ref a :: st)) h cells slots sf) {o : Int} (d : decode B pc = .ok (.ifnonnull o, 3)) (ho : 0 ≤ (pc : Int) + o) (hq : ((pc : Int) + o).toNat = q) : Wk p l e R s m args below meth c Z EL own B mx s₁ g0 (mkF m q Ls st) h cells slots sf :=
  X.go fun hx hB T A t r => XT.ifnonnullYes A hx rfl rfl (hb hB d) rfl ho hq r
theorem Wk.ifnonnullNo (X : Wk p l e R s m args below meth c Z EL own B mx s₁ g0 (mkF m pc Ls (.null :: st)) h cells slots sf) {o : Int} (d : decode B pc = .ok (.ifnonnull o, 3)) (hq : pc + 3 = q) : Wk p l e R s m args below meth c Z EL own B mx s₁ g0 (mkF m q Ls st) h cells slots sf := by
  subst hq; exact X.go fun hx hB T A t r => XT.ifnonnullNo A hx rfl (hb hB d) rfl r
theorem Wk.acmpYes (X : Wk p l e R s m args below meth c Z EL own B mx s₁ g0 (mkF m pc Ls (w :: v :: st)) h cells slots sf) {cd : ClassFile.ACond} {o : Int} (d : decode B pc = .ok (.if_acmp cd o, 3)) (hv : v.isRef = true) (hw : w.isRef = true) (hc : XT.acmp cd v w = true) (ho : 0 ≤ (pc : Int) + o) (hq : ((pc : Int) + o).toNat = q) : Wk p l e R s m args below meth c Z EL own B mx s₁ g0 (mkF m q Ls st) h cells slots sf :=
  X.go fun hx hB T A t r => XT.acmpYes A hx rfl rfl (hb hB d) rfl hv hw hc ho hq r
theorem Wk.acmpNo (X : Wk p l e R s m args below meth c Z EL own B mx s₁ g0 (mkF m pc Ls (w :: v :: st)) h cells slots sf) {cd : ClassFile.ACond} {o : Int} (d : decode B pc = .ok (.if_acmp cd o, 3)) (hv : v.isRef = true) (hw : w.isRef = true) (hc : XT.acmp cd v w = false) (hq : pc + 3 = q) : Wk p l e R s m args below meth c Z EL own B mx s₁ g0 (mkF m q Ls st) h cells slots sf := by
  subst hq; exact X.go fun hx hB T A t r => XT.acmpNo A hx rfl (hb hB d) rfl hv hw hc r
/-! the end of a walk -/
theorem Wk.leave {Q : Option Value → Heap → Prop} (X : Wk p l e R s m args below meth c Z EL own B mx s₁ g0 g h cells slots sf) (hEL : EW Z a0 EL) {v : Option Value} (hv : meth.sig.returnType = none → v = none) (hlk : meth.locks = false) (hc : cells ≤ R.cells) (hs : slots ≤ R.slots) (hQ : Q v h)
    (fin : p.tables.exec = Jvm.exec → c.code = B → ∀ (vm : Vm) (T : State) (locs : List Loc), Stand p l e R (s.setVm vm) m args below meth c T locs R.cells R.slots → ∀ fs, (∀ (f : JFrame) (acts : List Action), f.method = m → f.locked = none → f.entered = [] → (doReturn e (T.setTop f) acts v).1 = T.setFrames fs) → Steps p.tables e below (T.setTop g) (T.setFrames fs)) :
    Dn p e below s s₁ g0 Z EL R Q := by
  obtain ⟨hx, hB, hm, T, vm, locs, k, X, eT, hZ, ho, hS, hk, hC, hO, hF, hsf, st⟩ := X
  have X' := X.more hc hs
  obtain ⟨fs, hr, hrun, hended, hE⟩ := X'.leaveW hS (by rw [eT]; exact hk) hv hlk
  refine ⟨_, _, st.trans (fin hx hB vm T locs X' fs hr), hrun, hended, v, locs, rfl, ⟨?_, hF, ?_⟩, ?_, hE⟩
  · show Q v T.heap
    rw [eT]; exact hQ
  · show Ext Z.heap T.heap
    rw [eT]; exact hO
  · show CHr Z EL s.vm s.heap T.vm T.heap
    rw [eT]; exact hC.trans (CHv.at X hZ hEL hC.1)
theorem Wk.ret {Q : Option Value → Heap → Prop} (X : Wk p l e R s m args below meth c Z EL own B mx s₁ g0 (mkF m pc Ls []) h cells slots sf) (hEL : EW Z a0 EL) (hr : meth.sig.returnType = none) (hlk : meth.locks = false) (d : decode B pc = .ok (.return_, 1)) (hc : cells ≤ R.cells) (hs : slots ≤ R.slots) (hQ : Q none h) : Dn p e below s s₁ g0 Z EL R Q :=
  X.leave hEL (fun _ => rfl) hlk hc hs hQ fun hx hB vm T locs X fs hl => X.returnOut hx hr (hb hB d) hl
theorem retOut' {T : State} {locs : List Loc} (X : Stand p l e R s m args below meth c T locs cells slots) (hx : p.tables.exec = Jvm.exec) {t : FieldType} {i : Instr} (hret : meth.sig.returnType = some t) (hn : narrow t w = w)
    (hi : (i = .ireturn ∧ (t = .int ∨ t = .boolean ∨ t = .byte ∨ t = .char ∨ t = .short) ∧ ∃ z, w = .int z) ∨ (i = .areturn ∧ t.isReference = true ∧ w.isRef = true))
    (hd : decode c.code pc = .ok (i, 1)) {fs : List Frame} (hl : ∀ (f : JFrame) (acts : List Action), f.method = m → f.locked = none → f.entered = [] → (doReturn e (T.setTop f) acts (some w)).1 = T.setFrames fs) :
    Steps p.tables e below (T.setTop (mkF m pc Ls (w :: rest))) (T.setFrames fs) :=
  retOut X hx hret hn (hi.imp id fun q => Or.inr (Or.inr (Or.inr q))) hd hl
theorem Wk.ireturn {Q : Option Value → Heap → Prop} {t : FieldType} (X : Wk p l e R s m args below meth c Z EL own B mx s₁ g0 (mkF m pc Ls (.int x :: rest)) h cells slots sf) (hEL : EW Z a0 EL) (hr : meth.sig.returnType = some t) (ht : t = .int ∨ t = .boolean ∨ t = .byte ∨ t = .char ∨ t = .short) (hn : narrow t (.int x) = .int x) (hlk : meth.locks = false) (d : decode B pc = .ok (.ireturn, 1)) (hc : cells ≤ R.cells) (hs : slots ≤ R.slots) (hQ : Q (some (.int x)) h) : Dn p e below s s₁ g0 Z EL R Q :=
  X.leave hEL (fun q => by rw [hr] at q; cases q) hlk hc hs hQ fun hx hB vm T locs X fs hl => retOut' X hx hr hn (Or.inl ⟨rfl, ht, x, rfl⟩) (hb hB d) hl
theorem Wk.areturn {Q : Option Value → Heap → Prop} {t : FieldType} (X : Wk p l e R s m args below meth c Z EL own B mx s₁ g0 (mkF m pc Ls (v :: rest)) h cells slots sf) (hEL : EW Z a0 EL) (hr : meth.sig.returnType = some t) (ht : t.isReference = true) (hv : v.isRef = true) (hn : narrow t v = v) (hlk : meth.locks = false) (d : decode B pc = .ok (.areturn, 1)) (hc : cells ≤ R.cells) (hs : slots ≤ R.slots) (hQ : Q (some v) h) : Dn p e below s s₁ g0 Z EL R Q :=
  X.leave hEL (fun q => by rw [hr] at q; cases q) hlk hc hs hQ fun hx hB vm T locs X fs hl => retOut' X hx hr hn (Or.inr ⟨rfl, ht, hv⟩) (hb hB d) hl
/-! steps that leave the heap -/
theorem Wk.goS (X : Wk p l e R s m args below meth c Z EL own B mx s₁ g0 g h cells slots sf)
    (f : p.tables.exec = Jvm.exec → c.code = B → c.maxLocals = mx → ∀ (vm : Vm) (T : State) (locs : List Loc), Z.Warmed39 (s.setVm vm).vm → (s.setVm vm).vm.findClass own = some m.cls → T.heap = h → Stand p l e R (s.setVm vm) m args below meth c T locs cells slots →
      ∃ T', Stand p l e R (s.setVm vm) m args below meth c T' locs cells slots ∧ T'.heap = h ∧ ∀ t, Steps p.tables e below (T'.setTop g') t → Steps p.tables e below (T.setTop g) t) :
    Wk p l e R s m args below meth c Z EL own B mx s₁ g0 g' h cells slots sf := by
  obtain ⟨hx, hB, hm, T, vm, locs, k, X, eT, hZ, ho, hS, hk, hC, hO, hF, hsf, st⟩ := X
  obtain ⟨T', X', e', st'⟩ := f hx hB hm vm T locs hZ ho eT X
  exact ⟨hx, hB, hm, T', vm, locs, k, X', e', hZ, ho, hS, hk, hC, hO, hF, hsf, st.trans (st' _ (Steps.refl _))⟩
theorem Wk.getfield (X : Wk p l e R s m args below meth c Z EL own B mx s₁ g0 (mkF m pc Ls (.ref a :: st)) h cells slots sf) {O n d : String} {index : Nat} (wl : (Jvm.Cond.fieldLink own index O n d).before a0 Z = true) (F : Fld Z h a O n d v) (dc : decode B pc = .ok (.getfield index, 3)) (hq : pc + 3 = q) : Wk p l e R s m args below meth c Z EL own B mx s₁ g0 (mkF m q Ls (v :: st)) h cells slots sf := by
  subst hq; exact X.goS fun hx hB hm vm T locs hZ ho eT X => getF X hx hZ ho (host := "") (Or.inl wl) Via.refl eT F (g := mkF m pc Ls (.ref a :: st)) rfl rfl (hb hB dc)
theorem Wk.getstatic (X : Wk p l e R s m args below meth c Z EL own B mx s₁ g0 (mkF m pc Ls st) h cells slots sf) {O n d : String} {index : Nat} (wl : (Jvm.Cond.fieldLink own index O n d).before a0 Z = true) (F : Sta Z Z.heap O n d v) (dc : decode B pc = .ok (.getstatic index, 3)) (hq : pc + 3 = q) : Wk p l e R s m args below meth c Z EL own B mx s₁ g0 (mkF m q Ls (v :: st)) h cells slots sf := by
  subst hq
  have O := X.old
  exact X.goS fun hx hB hm vm T locs hZ ho eT X => getS (host := "") X hx hZ ho wl Via.refl eT (F.ext O) (g := mkF m pc Ls st) rfl (hb hB dc)
theorem Wk.initObj (X : Wk p l e R s m args below meth c Z EL own B mx s₁ g0 (mkF m pc Ls (.ref a :: st)) h cells slots sf) {index : Nat} (w1 : (Jvm.Cond.methodLink own index Lib.objectInit).before a0 Z = true) (w2 : (Jvm.Cond.instanceMethod Lib.objectInit).before a0 Z = true) (w3 : (Jvm.Cond.code Lib.objectInit ⟨#[0xb1]⟩ 1 none).before a0 Z = true)
    (hLs : Ls.size = mx) (dc : decode B pc = .ok (.invokespecial index, 3)) (hf : 1 ≤ R.frames) (hl : (st.map fun v => v.category).sum + 12 ≤ R.locals) (hq : pc + 3 = q) : Wk p l e R s m args below meth c Z EL own B mx s₁ g0 (mkF m q Ls st) h cells slots sf := by
  subst hq
  exact X.goS fun hx hB hm vm T locs hZ ho eT X => initO X hx hZ ho w1 w2 w3 eT (g := mkF m pc Ls (.ref a :: st)) rfl (by rw [hm]; exact hLs) rfl (hb hB dc) hf (W := (st.map fun v => v.category).sum) (by show 2 * 0 + _ ≤ _; omega) hl
theorem Wk.ldcI (X : Wk p l e R s m args below meth c Z EL own B mx s₁ g0 (mkF m pc Ls st) h cells slots sf) {index : Nat} (wl : (Jvm.Cond.constant own index z).before a0 Z = true) (dc : decode B pc = .ok (.ldc index, 2)) (hq : pc + 2 = q) : Wk p l e R s m args below meth c Z EL own B mx s₁ g0 (mkF m q Ls (.int z :: st)) h cells slots sf := by
  subst hq
  exact X.goS fun hx hB hm vm T locs hZ ho eT X => ⟨T, X, eT, X.ldcInt hx ho (mvT hZ wl) (g := mkF m pc Ls st) rfl (hb hB dc)⟩
theorem Wk.arraylength (X : Wk p l e R s m args below meth c Z EL own B mx s₁ g0 (mkF m pc Ls (.ref a :: st)) h cells slots sf) {k : ClassId} {ty : FieldType} {vs : List Value} {dv : Value} (A : Arv Z h a k ty z vs dv) (dc : decode B pc = .ok (.arraylength, 1)) (hq : pc + 1 = q) : Wk p l e R s m args below meth c Z EL own B mx s₁ g0 (mkF m q Ls (.int z :: st)) h cells slots sf := by
  subst hq
  obtain ⟨cc, A1, q1, S1, M1, H1, U1⟩ := A
  exact X.goS fun hx hB hm vm T locs hZ ho eT X => ⟨T, X, eT, fun t r => X.arraylength hx (by rw [eT]; exact A1.1) (State.isArrayOf_alike (T := s.setVm vm) hZ.alike A1.2.1) (g := mkF m pc Ls (.ref a :: st)) rfl rfl (hb hB dc) _ (by rw [len_of S1 M1]; exact r)⟩
theorem Wk.caload (X : Wk p l e R s m args below meth c Z EL own B mx s₁ g0 (mkF m pc Ls (.int y :: .ref a :: st)) h cells slots sf) {k : ClassId} {vs : List Value} {dv : Value} (A : Arv Z h a k .char z vs dv) (hj : ¬ y < 0 ∧ y < z) (hv : vs.getD y.toNatClampNeg dv = v) (dc : decode B pc = .ok (.caload, 1)) (hq : pc + 1 = q) : Wk p l e R s m args below meth c Z EL own B mx s₁ g0 (mkF m q Ls (v :: st)) h cells slots sf := by
  subst hq
  obtain ⟨cc, A1, q1, S1, M1, H1, U1⟩ := A
  exact X.goS fun hx hB hm vm T locs hZ ho eT X => ⟨T, X, eT, X.caload hx (j := y) (v := v) (by rw [eT]; exact A1.1) (State.isArrayOf_alike (T := s.setVm vm) hZ.alike A1.2.1) A1.2.2 (inb_of S1 hj) (H1.at (inb_of S1 hj) hv) (g := mkF m pc Ls (.int y :: .ref a :: st)) rfl rfl (hb hB dc)⟩
theorem Wk.baload (X : Wk p l e R s m args below meth c Z EL own B mx s₁ g0 (mkF m pc Ls (.int y :: .ref a :: st)) h cells slots sf) {k : ClassId} {vs : List Value} {dv : Value} (A : Arv Z h a k .byte z vs dv) (hj : ¬ y < 0 ∧ y < z) (hv : vs.getD y.toNatClampNeg dv = v) (dc : decode B pc = .ok (.baload, 1)) (hq : pc + 1 = q) : Wk p l e R s m args below meth c Z EL own B mx s₁ g0 (mkF m q Ls (v :: st)) h cells slots sf := by
  subst hq
  obtain ⟨cc, A1, q1, S1, M1, H1, U1⟩ := A
  exact X.goS fun hx hB hm vm T locs hZ ho eT X => ⟨T, X, eT, X.baloadBytes hx (j := y) (v := v) (by rw [eT]; exact A1.1) (State.isArrayOf_alike (T := s.setVm vm) hZ.alike A1.2.1) A1.2.2 (inb_of S1 hj) (H1.at (inb_of S1 hj) hv) (g := mkF m pc Ls (.int y :: .ref a :: st)) rfl rfl (hb hB dc)⟩
theorem Wk.aaload (X : Wk p l e R s m args below meth c Z EL own B mx s₁ g0 (mkF m pc Ls (.int y :: .ref a :: st)) h cells slots sf) {k : ClassId} {ty : FieldType} {vs : List Value} {dv : Value} (A : Arv Z h a k ty z vs dv) (ht : ty.isReference = true) (hj : ¬ y < 0 ∧ y < z) (hv : vs.getD y.toNatClampNeg dv = v) (dc : decode B pc = .ok (.aaload, 1)) (hq : pc + 1 = q) : Wk p l e R s m args below meth c Z EL own B mx s₁ g0 (mkF m q Ls (v :: st)) h cells slots sf := by
  subst hq
  obtain ⟨cc, A1, q1, S1, M1, H1, U1⟩ := A
  exact X.goS fun hx hB hm vm T locs hZ ho eT X => ⟨T, X, eT, X.aaload hx (j := y) (v := v) (by rw [eT]; exact A1.1) (State.isArrayOf_alike (T := s.setVm vm) hZ.alike A1.2.1) ht A1.2.2 (inb_of S1 hj) (H1.at (inb_of S1 hj) hv) (g := mkF m pc Ls (.int y :: .ref a :: st)) rfl rfl (hb hB dc)⟩
theorem Wk.checkcast (X : Wk p l e R s m args below meth c Z EL own B mx s₁ g0 (mkF m pc Ls (.ref a :: st)) h cells slots sf) {K : String} {index : Nat} (wl : (Jvm.Cond.classLink own index K).before a0 Z = true) (F : Ins Z h a K true) (dc : decode B pc = .ok (.checkcast index, 3)) (hq : pc + 3 = q) : Wk p l e R s m args below meth c Z EL own B mx s₁ g0 (mkF m q Ls (.ref a :: st)) h cells slots sf := by
  subst hq; exact X.goS fun hx hB hm vm T locs hZ ho eT X => castY X hx hZ ho wl eT F (g := mkF m pc Ls (.ref a :: st)) rfl rfl (hb hB dc)
theorem Wk.instNull (X : Wk p l e R s m args below meth c Z EL own B mx s₁ g0 (mkF m pc Ls (.null :: st)) h cells slots sf) {index : Nat} (dc : decode B pc = .ok (.instanceof index, 3)) (hq : pc + 3 = q) : Wk p l e R s m args below meth c Z EL own B mx s₁ g0 (mkF m q Ls (.int 0 :: st)) h cells slots sf := by
  subst hq; exact X.goS fun hx hB hm vm T locs hZ ho eT X => ⟨T, X, eT, X.instanceofNull hx (g := mkF m pc Ls (.null :: st)) rfl rfl (hb hB dc)⟩
/-! steps that make or write cells -/
theorem Wk.clone (X : Wk p l e R s m args below meth c Z EL own B mx s₁ g0 (mkF m pc Ls (.ref a :: st)) h cells slots sf) {ad : String} {index : Nat} (w1 : (Jvm.Cond.methodLink own index ⟨ad, "clone", "()Ljava/lang/Object;"⟩).before a0 Z = true) (w2 : (Jvm.Cond.sameMethod ad "java/lang/Object" "clone" "()Ljava/lang/Object;").before a0 Z = true) (w3 : (Jvm.Cond.native ⟨"java/lang/Object", "clone", "()Ljava/lang/Object;"⟩).before a0 Z = true)
    (w4 : (Jvm.Cond.instanceMethod ⟨"java/lang/Object", "clone", "()Ljava/lang/Object;"⟩).before a0 Z = true) (w5 : (Jvm.Cond.selects ad ⟨ad, "clone", "()Ljava/lang/Object;"⟩ ⟨"java/lang/Object", "clone", "()Ljava/lang/Object;"⟩).before a0 Z = true) (w6 : (Jvm.Cond.castable ad "java/lang/Cloneable").before a0 Z = true)
    {k : ClassId} {ty : FieldType} {vs : List Value} {dv : Value} (A : Arv Z h a k ty z vs dv) (E : Exa Z h a ad) (hLs : Ls.size = mx) (dc : decode B pc = .ok (.invokevirtual index, 3)) {cap : Nat} (hcap : z.toNatClampNeg ≤ cap) (hf : 1 ≤ R.frames) (hl : (st.map fun v => v.category).sum + 14 ≤ R.locals) (hc : cells + 1 ≤ R.cells) (hs : slots + cap ≤ R.slots) (hq : pc + 3 = q) :
    ∃ (b : Addr) (h' : Heap), b = h.size ∧ Z.heap.size ≤ b ∧ Ext h h' ∧ Arv Z h' b k ty z vs dv ∧ Exa Z h' b ad ∧ Wk p l e R s m args below meth c Z EL own B mx s₁ g0 (mkF m q Ls (.ref b :: st)) h' (cells + 1) (slots + cap) (b :: sf) := by
  subst hq
  obtain ⟨hx, hB, hm, T, vm, locs, k', X, eT, hZ, ho, hS, hk, hC, hO, hF, hsf, st0⟩ := X
  obtain ⟨cc, A1, q1, S1, M1, H1, U1⟩ := A
  obtain ⟨T', h', X', e', Ex, A2, E2, st'⟩ := cloneA X hx (s := s.setVm vm) hZ ho w1 w2 w3 w4 w5 w6 eT A1 E (fitC_of A1 fun i hi v hv => by rw [H1 i hi] at hv; cases hv; exact U1 i hi) (g := mkF m pc Ls (.ref a :: st)) rfl (by rw [hm]; exact hLs) rfl (hb hB dc) hf (W := (st.map fun v => v.category).sum) (by show 2 * 0 + _ ≤ _; omega) hl (by rw [S1]; exact hcap) hc hs
  refine ⟨h.size, h', rfl, hO.1, Ex, ⟨_, A2, q1, S1, M1, H1, U1⟩, E2, hx, hB, hm, T', vm, locs, k', X', e', hZ, ho, hS, Nat.le_trans hk Ex.1, hC.trans (CHr.ext Ex hC.1), ⟨Nat.le_trans hO.1 Ex.1, fun x c q => Ex.2 x c (hO.2 x c q)⟩, hF, fun x hx => ?_, st0.trans (st' _ (Steps.refl _))⟩
  rcases List.mem_cons.mp hx with rfl | hx
  · exact ⟨A2.lt, Safe.ext Ex hC.1 (Safe.new (Nat.le_refl _))⟩
  · exact ⟨Nat.lt_of_lt_of_le (hsf x hx).1 Ex.1, Safe.ext Ex hC.1 (hsf x hx).2⟩
theorem Wk.new (X : Wk p l e R s m args below meth c Z EL own B mx s₁ g0 (mkF m pc Ls st) h cells slots sf) {C : String} {index n : Nat} (wl : (Jvm.Cond.classLink own index C).before a0 Z = true) (wi : (Jvm.Cond.instantiable C n).before a0 Z = true) (wz : (Jvm.Cond.initialized C).before a0 Z = true)
    (dc : decode B pc = .ok (.new index, 3)) (hq : pc + 3 = q) (hc : cells + 1 ≤ R.cells) (hs : slots + n ≤ R.slots) :
    ∃ (a : Addr) (h' : Heap), a = h.size ∧ Z.heap.size ≤ a ∧ Ext h h' ∧ Exa Z h' a C ∧ (∀ {O nm d : String} {ty : FieldType}, Laid Z a0 C O nm d → parseFieldDescriptor d = some ty → Fld Z h' a O nm d (defaultValue ty)) ∧
      Wk p l e R s m args below meth c Z EL own B mx s₁ g0 (mkF m q Ls (.ref a :: st)) h' (cells + 1) (slots + n) (a :: sf) := by
  subst hq
  obtain ⟨hx, hB, hm, T, vm, locs, k, X, eT, hZ, ho, hS, hk, hC, hO, hF, hsf, st0⟩ := X
  obtain ⟨T', h', X', e', E, A, D, -, st'⟩ := newO X hx (s := s.setVm vm) hZ ho wl wi wz eT (g := mkF m pc Ls st) rfl (hb hB dc) hc hs
  refine ⟨h.size, h', rfl, hO.1, E, A, D, hx, hB, hm, T', vm, locs, k, X', e', hZ, ho, hS, Nat.le_trans hk E.1, hC.trans (CHr.ext E hC.1), ⟨Nat.le_trans hO.1 E.1, fun x c q => E.2 x c (hO.2 x c q)⟩, hF, fun x hx => ?_, st0.trans (st' _ (Steps.refl _))⟩
  rcases List.mem_cons.mp hx with rfl | hx
  · exact ⟨A.lt, Safe.ext E hC.1 (Safe.new (Nat.le_refl _))⟩
  · exact ⟨Nat.lt_of_lt_of_le (hsf x hx).1 E.1, Safe.ext E hC.1 (hsf x hx).2⟩
theorem Wk.newarray (X : Wk p l e R s m args below meth c Z EL own B mx s₁ g0 (mkF m pc Ls (.int z :: st)) h cells slots sf) {aty : ArrayType} (wl : (Jvm.Cond.arrayClass (newarray.typeOf aty)).before a0 Z = true)
    (dc : decode B pc = .ok (.newarray aty, 2)) (hq : pc + 2 = q) (hz : ¬ z < 0) {cap : Nat} (hcap : z.toNatClampNeg ≤ cap) (hbig : cap * 8 ≤ 536870912) (hc : cells + 1 ≤ R.cells) (hs : slots + cap ≤ R.slots) (n : Nat) :
    ∃ (a : Addr) (h' : Heap) (k : ClassId), a = h.size ∧ Z.heap.size ≤ a ∧ Ext h h' ∧ Arv Z h' a k (newarray.typeOf aty) z (List.replicate n (defaultValue (newarray.typeOf aty))) (defaultValue (newarray.typeOf aty)) ∧
      Wk p l e R s m args below meth c Z EL own B mx s₁ g0 (mkF m q Ls (.ref a :: st)) h' (cells + 1) (slots + cap) (a :: sf) := by
  subst hq
  obtain ⟨hx, hB, hm, T, vm, locs, k, X, eT, hZ, ho, hS, hk, hC, hO, hF, hsf, st0⟩ := X
  obtain ⟨T', h', cA, X', e', E, A, st'⟩ := newP X hx (s := s.setVm vm) hZ wl eT (g := mkF m pc Ls (.int z :: st)) rfl (hb hB dc) rfl hz hcap hbig hc hs
  refine ⟨h.size, h', cA, rfl, hO.1, E, (Arv.new A hz).pad (pad_rep [] _ n), hx, hB, hm, T', vm, locs, k, X', e', hZ, ho, hS, Nat.le_trans hk E.1, hC.trans (CHr.ext E hC.1), ⟨Nat.le_trans hO.1 E.1, fun x c q => E.2 x c (hO.2 x c q)⟩, hF, fun x hx => ?_, st0.trans (st' _ (Steps.refl _))⟩
  rcases List.mem_cons.mp hx with rfl | hx
  · exact ⟨A.lt, Safe.ext E hC.1 (Safe.new (Nat.le_refl _))⟩
  · exact ⟨Nat.lt_of_lt_of_le (hsf x hx).1 E.1, Safe.ext E hC.1 (hsf x hx).2⟩
theorem Wk.castore (X : Wk p l e R s m args below meth c Z EL own B mx s₁ g0 (mkF m pc Ls (.int x :: .int y :: .ref a :: st)) h cells slots sf) {k : ClassId} {vs : List Value} {dv : Value} (A : Arv Z h a k .char z vs dv) (ha : Z.heap.size ≤ a) (hj : ¬ y < 0 ∧ y < z) {x' : Int32} (hx' : nar .char x = x') {i : Nat} (hi : y.toNatClampNeg = i) (hv : i < vs.length)
    (dc : decode B pc = .ok (.castore, 1)) (hq : pc + 1 = q) :
    ∃ h' : Heap, Keep h h' [a] ∧ h'.size = h.size ∧ Arv Z h' a k .char z (vs.set i (.int x')) dv ∧ Wk p l e R s m args below meth c Z EL own B mx s₁ g0 (mkF m q Ls st) h' cells slots sf := by
  subst hq hx'
  obtain ⟨hx, hB, hm, T, vm, locs, k', X, eT, hZ, ho, hS, hk, hC, hO, hF, hsf, st0⟩ := X
  obtain ⟨cc, A1, q1, S1, M1, H1, U1⟩ := id A
  obtain ⟨T', h', X', e', W, st'⟩ := stC X hx (s := s.setVm vm) hZ eT A1 (j := y) (inb_of S1 hj) (g := mkF m pc Ls (.int x :: .int y :: .ref a :: st)) rfl rfl (hb hB dc)
  have Sa : Safe Z EL vm h a := Safe.arr hZ.alike A1 (by simp)
  have K := Keep.of_wr W
  refine ⟨h', K, W.size, Arv.set A1 q1 S1 M1 H1 U1 (fits_nar_char _) W i hi hv, hx, hB, hm, T', vm, _, k', X', e', hZ, ho, hS, Nat.le_trans hk K.1, hC.trans (CHr.wr W Sa hC.1), (Old.wr (show Old Z Z.heap.size h from ⟨rfl, hO⟩) W ha).2, Fr.snoc X' hF ha, fun x hx => ?_, st0.trans (st' _ (Steps.refl _))⟩
  exact ⟨Nat.lt_of_lt_of_le (hsf x hx).1 K.1, Safe.wr W Sa hC.1 (hsf x hx).2⟩
theorem Wk.bastore (X : Wk p l e R s m args below meth c Z EL own B mx s₁ g0 (mkF m pc Ls (.int x :: .int y :: .ref a :: st)) h cells slots sf) {k : ClassId} {vs : List Value} {dv : Value} (A : Arv Z h a k .byte z vs dv) (ha : Z.heap.size ≤ a) (hsa : a ∈ sf) (hj : ¬ y < 0 ∧ y < z) {x' : Int32} (hx' : nar .byte x = x') (hfit : fits .byte (.int x') = true) {i : Nat} (hi : y.toNatClampNeg = i) (hv : i < vs.length)
    (dc : decode B pc = .ok (.bastore, 1)) (hq : pc + 1 = q) :
    ∃ h' : Heap, Keep h h' [a] ∧ h'.size = h.size ∧ Arv Z h' a k .byte z (vs.set i (.int x')) dv ∧ Wk p l e R s m args below meth c Z EL own B mx s₁ g0 (mkF m q Ls st) h' cells slots sf := by
  subst hq hx'
  obtain ⟨hx, hB, hm, T, vm, locs, k', X, eT, hZ, ho, hS, hk, hC, hO, hF, hsf, st0⟩ := X
  obtain ⟨cc, A1, q1, S1, M1, H1, U1⟩ := id A
  obtain ⟨T', h', X', e', W, st'⟩ := stB X hx (s := s.setVm vm) hZ eT A1 (j := y) (inb_of S1 hj) (g := mkF m pc Ls (.int x :: .int y :: .ref a :: st)) rfl rfl (hb hB dc)
  have Sa : Safe Z EL vm h a := (hsf a hsa).2
  have K := Keep.of_wr W
  refine ⟨h', K, W.size, Arv.set A1 q1 S1 M1 H1 U1 hfit W i hi hv, hx, hB, hm, T', vm, _, k', X', e', hZ, ho, hS, Nat.le_trans hk K.1, hC.trans (CHr.wr W Sa hC.1), (Old.wr (show Old Z Z.heap.size h from ⟨rfl, hO⟩) W ha).2, Fr.snoc X' hF ha, fun x hx => ?_, st0.trans (st' _ (Steps.refl _))⟩
  exact ⟨Nat.lt_of_lt_of_le (hsf x hx).1 K.1, Safe.wr W Sa hC.1 (hsf x hx).2⟩
theorem Wk.putfieldS (X : Wk p l e R s m args below meth c Z EL own B mx s₁ g0 (mkF m pc Ls (v :: .ref a :: st)) h cells slots sf) {O n d C : String} {index kk : Nat} {ty : FieldType} {old : Value} (wl : (Jvm.Cond.fieldLink own index O n d).before a0 Z = true) (F : Fld Z h a O n d old) (E : Exa Z h a C)
    (L : (Jvm.Cond.lays C O n d).before a0 Z = true ∨ ((Jvm.Cond.laysFinal C O n d).before a0 Z = true ∧ own = O ∧ meth.name = "<init>")) (wi : (Jvm.Cond.instantiable C kk).before a0 Z = true) (hty : parseFieldDescriptor d = some ty) (hn : narrow ty v = v) (hf : fits ty v = true) (ha : Z.heap.size ≤ a)
    (hC0 : ∀ vm : Vm, Z.vm.Alike vm → (∀ x ∈ sf, Safe Z EL vm h x) → Safe Z EL vm h a) (dc : decode B pc = .ok (.putfield index, 3)) (hq : pc + 3 = q) :
    ∃ h' : Heap, Wr h h' a (RoadKit.slotOf Z O n d) v ∧ Wk p l e R s m args below meth c Z EL own B mx s₁ g0 (mkF m q Ls st) h' cells slots sf := by
  subst hq
  obtain ⟨hx, hB, hm, T, vm, locs, k', X, eT, hZ, ho, hS, hk, hC, hO, hF, hsf, st0⟩ := X
  obtain ⟨T', h', X', e', W, st'⟩ := putF X hx (s := s.setVm vm) hZ ho (host := "") (Or.inl wl) Via.refl eT F E L wi hty hn hf (g := mkF m pc Ls (v :: .ref a :: st)) rfl rfl (hb hB dc)
  have Sa : Safe Z EL vm h a := hC0 vm hZ.alike fun x hx => (hsf x hx).2
  have K := Keep.of_wr W
  refine ⟨h', W, hx, hB, hm, T', vm, _, k', X', e', hZ, ho, hS, Nat.le_trans hk K.1, hC.trans (CHr.wr W Sa hC.1), (Old.wr (show Old Z Z.heap.size h from ⟨rfl, hO⟩) W ha).2, Fr.snoc X' hF ha, fun x hx => ?_, st0.trans (st' _ (Steps.refl _))⟩
  exact ⟨Nat.lt_of_lt_of_le (hsf x hx).1 K.1, Safe.wr W Sa hC.1 (hsf x hx).2⟩
/-- a field of an object that is no String and no byte[] -/
theorem Wk.putfield (X : Wk p l e R s m args below meth c Z EL own B mx s₁ g0 (mkF m pc Ls (v :: .ref a :: st)) h cells slots sf) {O n d C : String} {index kk : Nat} {ty : FieldType} {old : Value} (wl : (Jvm.Cond.fieldLink own index O n d).before a0 Z = true) (F : Fld Z h a O n d old) (E : Exa Z h a C)
    (L : (Jvm.Cond.lays C O n d).before a0 Z = true ∨ ((Jvm.Cond.laysFinal C O n d).before a0 Z = true ∧ own = O ∧ meth.name = "<init>")) (wi : (Jvm.Cond.instantiable C kk).before a0 Z = true) (hty : parseFieldDescriptor d = some ty) (hn : narrow ty v = v) (hf : fits ty v = true) (ha : Z.heap.size ≤ a)
    (h1 : C ≠ "java/lang/String") (h2 : C ≠ "[B") (dc : decode B pc = .ok (.putfield index, 3)) (hq : pc + 3 = q) :
    ∃ h' : Heap, Wr h h' a (RoadKit.slotOf Z O n d) v ∧ Wk p l e R s m args below meth c Z EL own B mx s₁ g0 (mkF m q Ls st) h' cells slots sf :=
  X.putfieldS wl F E L wi hty hn hf ha (fun vm al _ => Safe.exa al E h1 h2) dc hq
theorem Wk.arraycopy (X : Wk p l e R s m args below meth c Z EL own B mx s₁ g0 (mkF m pc Ls (.int z :: .int y :: .ref b :: .int x :: .ref a :: st)) h cells slots sf) {index : Nat} (w1 : (Jvm.Cond.methodLink own index Jvm.Stand.acN).before a0 Z = true) (w2 : (Jvm.Cond.native Jvm.Stand.acN).before a0 Z = true) (w3 : (Jvm.Cond.static Jvm.Stand.acN).before a0 Z = true) (w4 : (Jvm.Cond.initialized "java/lang/System").before a0 Z = true)
    {k k' : ClassId} {ty ty' : FieldType} {z1 z2 : Int32} {vs vd us : List Value} {d1 d2 : Value} (A : Arv Z h a k ty z1 vs d1) (A' : Arv Z h b k' ty' z2 vd d2) (hty : (ty = ty' ∧ refKind ty = false) ∨ (refKind ty = true ∧ refKind ty' = true ∧ StoL Z h b us))
    (h1 : ¬ x < 0) (h2 : ¬ y < 0) (h3 : ¬ z < 0) (h4 : x.toNatClampNeg + z.toNatClampNeg ≤ z1.toNatClampNeg) (h5 : y.toNatClampNeg + z.toNatClampNeg ≤ z2.toNatClampNeg) (hus : us = (List.range z.toNatClampNeg).map fun i => vs.getD (x.toNatClampNeg + i) d1) (hl : y.toNatClampNeg + z.toNatClampNeg ≤ vd.length)
    (hb0 : Z.heap.size ≤ b) (hsb : ∀ vm : Vm, Z.Warmed39 vm → (∀ x ∈ sf, Safe Z EL vm h x) → Safe Z EL vm h b) (hLs : Ls.size = mx) (dc : decode B pc = .ok (.invokestatic index, 3)) (hf : 1 ≤ R.frames) (hlo : (st.map fun v => v.category).sum + (nativeFrameWords "java/lang/System" "arraycopy" 5 + 11) ≤ R.locals) (hq : pc + 3 = q) :
    ∃ h' : Heap, Keep h h' [b] ∧ Arv Z h' b k' ty' z2 (vd.take y.toNatClampNeg ++ us ++ vd.drop (y.toNatClampNeg + z.toNatClampNeg)) d2 ∧ Wk p l e R s m args below meth c Z EL own B mx s₁ g0 (mkF m q Ls st) h' cells slots sf := by
  subst hq
  obtain ⟨hx, hB, hm, T, vm, locs, k0, X, eT, hZ, ho, hS, hk, hC, hO, hF, hsf, st0⟩ := X
  obtain ⟨T', h', L, X', e', hL, K, A2, st'⟩ := cpA X hx (s := s.setVm vm) hZ ho w1 w2 w3 w4 eT A A' hty h1 h2 h3 h4 h5 hus hl hF hb0 (g := mkF m pc Ls (.int z :: .int y :: .ref b :: .int x :: .ref a :: st)) rfl (by rw [hm]; exact hLs) rfl (hb hB dc) hf (W := (st.map fun v => v.category).sum) (by show 2 * 0 + _ ≤ _; omega) hlo
  have Sb : Safe Z EL vm h b := hsb vm hZ fun x hx => (hsf x hx).2
  have hs' : ∀ x ∈ [b], Safe Z EL vm h x := fun x q => by cases List.mem_singleton.mp q; exact Sb
  exact ⟨h', K, A2, hx, hB, hm, T', vm, L, k0, X', e', hZ, ho, hS, Nat.le_trans hk K.1, hC.trans (CHr.keep K hs' hC.1), (Old.keep (show Old Z Z.heap.size h from ⟨rfl, hO⟩) K (fun x q => by cases List.mem_singleton.mp q; exact hb0)).2, hL, fun x hx => ⟨Nat.lt_of_lt_of_le (hsf x hx).1 K.1, Safe.keep K hs' hC.1 (hsf x hx).2⟩, st0.trans (st' _ (Steps.refl _))⟩
/-! String constants -/
theorem Wk.ldcO (X : Wk p l e R s m args below meth c Z EL own B mx s₁ g0 (mkF m pc Ls st) h cells slots sf) {text : String} {index : Nat} (hEL : EW Z a0 EL) (wl : (Jvm.Cond.stringLink own index text).before a0 Z = true) (wS : ∀ a ∈ Bundle.stringAtoms, a.before a0 Z = true)
    (dc : decode B pc = .ok (.ldc index, 2)) {n : Nat} (hn : 4 * text.toList.length ≤ n) (hbig : n ≤ 536870912) (hc : cells + 2 ≤ R.cells) (hs : slots + (n + 4) ≤ R.slots) (hq : pc + 2 = q) :
    ∃ (a : Addr) (h' : Heap), Ext h h' ∧ Wk p l e R s m args below meth c Z EL own B mx s₁ g0 (mkF m q Ls (.ref a :: st)) h' (cells + 2) (slots + (n + 4)) sf := by
  subst hq
  obtain ⟨hx, hB, hm, T, vm, locs, k, X, eT, hZ, ho, hS, hk, hC, hO, hF, hsf, st0⟩ := X
  obtain ⟨a, T', h', k1, X', e', E, hS', hk', hZ', ho', hCr, -, st'⟩ := ldcOH X hx hZ ho wl wS eT hS hk hEL hC.1 (g := mkF m pc Ls st) rfl (hb hB dc) hn hbig hc hs
  exact ⟨a, h', E, hx, hB, hm, T', T'.vm, locs, k1, X', e', hZ', ho', hS', hk', hC.trans hCr, ⟨Nat.le_trans hO.1 E.1, fun x c q => E.2 x c (hO.2 x c q)⟩, hF, fun x hx => ⟨Nat.lt_of_lt_of_le (hsf x hx).1 E.1, hCr.safe (hsf x hx).1 (hsf x hx).2⟩, st0.trans (st' _ (Steps.refl _))⟩
theorem Wk.ldcR (X : Wk p l e R s m args below meth c Z EL own B mx s₁ g0 (mkF m pc Ls st) h cells slots sf) {text : String} {index : Nat} (hEL : EW Z a0 EL) (hmem : (own, index) ∈ EL) (wl : (Jvm.Cond.stringLink own index text).before a0 Z = true) (wS : ∀ a ∈ Bundle.stringAtoms, a.before a0 Z = true)
    {vs : List Value} {z : Int32} (ht : (∀ c ∈ text.toList, c.toNat < 256) ∧ text.toList.map (fun c => Value.int (Jvm.Lit.byteI c.toNat.toUInt16)) = vs) (hz : ¬ z < 0) (hl : z.toNatClampNeg = vs.length)
    (dc : decode B pc = .ok (.ldc index, 2)) {n : Nat} (hn : 4 * text.toList.length ≤ n) (hbig : n ≤ 536870912) (hc : cells + 2 ≤ R.cells) (hs : slots + (n + 4) ≤ R.slots) (hq : pc + 2 = q) :
    ∃ (a : Addr) (h' : Heap) (b : Addr) (k : ClassId), Ext h h' ∧ Exa Z h' a "java/lang/String" ∧ Fld Z h' a "java/lang/String" "coder" "B" (.int 0) ∧ Fld Z h' a "java/lang/String" "value" "[B" (.ref b) ∧ Arv Z h' b k .byte z vs (.int 0) ∧ (∀ x ∈ sf, x ≠ a ∧ x ≠ b) ∧
      Wk p l e R s m args below meth c Z EL own B mx s₁ g0 (mkF m q Ls (.ref a :: st)) h' (cells + 2) (slots + (n + 4)) sf := by
  subst hq
  obtain ⟨hx, hB, hm, T, vm, locs, k, X, eT, hZ, ho, hS, hk, hC, hO, hF, hsf, st0⟩ := X
  obtain ⟨a, T', h', k1, b, kb, X', e', E, hS', hk', hZ', ho', A1, A2, A3, A4, -, -, hCr, -, hne, st'⟩ := ldcCH X hx hZ ho wl wS eT hS hk hEL hmem hC.1 ht hz hl (g := mkF m pc Ls st) rfl (hb hB dc) hn hbig hc hs
  have sf' : ∀ x ∈ sf, x < h'.size ∧ Safe Z EL T'.vm h' x := fun x hx => ⟨Nat.lt_of_lt_of_le (hsf x hx).1 E.1, hCr.safe (hsf x hx).1 (hsf x hx).2⟩
  exact ⟨a, h', b, kb, E, A1, A2, A3, A4, fun x hx => hne x (sf' x hx).2, hx, hB, hm, T', T'.vm, locs, k1, X', e', hZ', ho', hS', hk', hC.trans hCr, ⟨Nat.le_trans hO.1 E.1, fun x c q => E.2 x c (hO.2 x c q)⟩, hF, sf', st0.trans (st' _ (Steps.refl _))⟩
/-! calls by a contract -/
/-- the library's backOfSH, for a callee that also asks that some cells are no booked literal's -/
theorem backSF {vm0 : Vm} {y : MethodName} {bytes : ByteArray} {maxL : Nat} {ret : Option FieldType} {rm : Room} {len W : Nat} {as' : Array Value} {sf0 : List Addr} {Q : Option Value → Heap → Prop} (hM : Ctr l Z EL y bytes maxL ret [] rm as' h sf0 Q)
    (hZ : Z.Warmed39 vm0) (wc : (Jvm.Cond.code y bytes maxL ret).before a0 Z = true) (wz : (Jvm.Cond.initialized y.cls).before a0 Z = true) (hf : rm.frames + 1 ≤ R.frames) (hl : W + (maxL + 11) + rm.locals ≤ R.locals) (hEL : EW Z a0 EL) (H : CHv Z EL vm0 h) (hs0 : ∀ x ∈ sf0, x < h.size ∧ Safe Z EL vm0 h x) :
    BackS l R p e below (s.setVm vm0) args y len W (fun A a => a = as' ∧ A.U.heap = h ∧ A.cells + rm.cells ≤ R.cells ∧ A.slots + rm.slots ≤ R.slots)
      (fun A _ v B => ∃ L, (Q v B.U.heap ∧ Fr Z.heap.size L ∧ Ext Z.heap B.U.heap) ∧ B.locs = A.locs ++ L ∧ B.cells = A.cells + rm.cells ∧ B.slots = A.slots + rm.slots ∧ CHr Z EL vm0 h B.U.vm B.U.heap) :=
  BackS.of_freeW (bytes := bytes) (maxL := maxL) (ret := ret) (E := fun _ first o t L k n => k = rm.cells ∧ n = rm.slots ∧ (∃ v, o = .returned v ∧ (Q v t.heap ∧ Fr Z.heap.size L ∧ Ext Z.heap t.heap)) ∧ CHr Z EL first.vm first.heap t.vm t.heap) hM hf hl
    (fun m meth c A a Y hp => have hU : Z.Warmed39 A.U.vm := wtrans (s := s.setVm vm0) hZ Y.warmed
      ⟨by show (Jvm.Cond.and _ .tt).before a A.U = true; rw [Cond.before_and, mv hU wc]; rfl, mv hU wc, mv hU wz, hp.2.2.1, hp.2.2.2⟩)
    (fun m meth c A a g mk Y hp => have C1 := CHv.at Y hZ hEL H
      ⟨hp.1, wtrans (s := s.setVm vm0) hZ Y.warmed, hp.2.1, C1.1, fun x q => ⟨(hs0 x q).1, C1.safe (hs0 x q).1 (hs0 x q).2⟩⟩) (fun _ _ _ _ _ _ _ _ _ => trivial)
    (fun _ _ _ _ ⟨v, L, h1, h2, h3, h4⟩ => ⟨L, _, _, h4, rfl, rfl, ⟨v, h1, h2⟩, h3⟩)
    (fun m meth c A a g mk v t L k n Y hp _ _ ⟨e1, e2, ⟨v', e3, e4⟩, e5⟩ => by
      cases e3; subst e1 e2
      refine ⟨L, e4, rfl, rfl, rfl, (CHv.at Y hZ hEL H).trans ?_⟩
      rw [← hp.2.1]; exact e5)
theorem Wk.behind {B1 : Pt} {vm : Vm} {k : Nat} {locs : List Loc} {rc rs : Nat} {Lc : List Loc} {Q : Option Value → Heap → Prop} {ov : Option Value} (hx : p.tables.exec = Jvm.exec) (hB : c.code = B) (hm : c.maxLocals = mx) (hS : s.Since vm k) (hk : k ≤ h.size) (hZ : Z.Warmed39 vm) (ho : vm.findClass own = some m.cls) (hC : CHr Z EL s.vm s.heap vm h) (hF : Fr Z.heap.size locs) (hsf : ∀ x ∈ sf, x < h.size ∧ Safe Z EL vm h x)
    (X' : Stand p l e R ((s.setVm vm).setVm B1.U.vm) m args below meth c B1.U B1.locs B1.cells B1.slots) (h2 : (s.setVm vm).Since B1.U.vm B1.U.heap.size) (hgr : h.size ≤ B1.U.heap.size) (hQ : Q ov B1.U.heap ∧ Fr Z.heap.size Lc ∧ Ext Z.heap B1.U.heap) (el : B1.locs = locs ++ Lc) (ec : B1.cells = cells + rc) (es : B1.slots = slots + rs) (hCr : CHr Z EL vm h B1.U.vm B1.U.heap)
    (st : Steps p.tables e below (s₁.setTop g0) (B1.U.setTop g')) : Wk p l e R s m args below meth c Z EL own B mx s₁ g0 g' B1.U.heap (cells + rc) (slots + rs) sf := by
  refine ⟨hx, hB, hm, B1.U, B1.U.vm, locs ++ Lc, B1.U.heap.size, ?_, rfl, State.Warmed39.trans (t := s.setVm vm) hZ h2.1, (h2.1.alike.findClass _ _).trans ho, hS.trans h2 (Nat.le_trans hk hgr), Nat.le_refl _, hC.trans hCr, hQ.2.2, Fr.app hF hQ.2.1, fun x hx => ⟨Nat.lt_of_lt_of_le (hsf x hx).1 hgr, hCr.safe (hsf x hx).1 (hsf x hx).2⟩, st⟩
  rw [← el, ← ec, ← es]; exact X'
theorem Wk.callS (X : Wk p l e R s m args below meth c Z EL own B mx s₁ g0 (mkF m pc Ls st) h cells slots sf) {index : Nat} {y : MethodName} {bytes : ByteArray} {maxL : Nat} {ret : Option FieldType} {rm : Room} {as' : Array Value} {sf0 : List Addr} {Q : Option Value → Heap → Prop} (hM : Ctr l Z EL y bytes maxL ret [] rm as' h sf0 Q) (hEL : EW Z a0 EL) (hs0 : ∀ x ∈ sf0, x ∈ sf)
    (w1 : (Jvm.Cond.methodLink own index y).before a0 Z = true) (w2 : (Jvm.Cond.static y).before a0 Z = true) (w3 : (Jvm.Cond.initialized y.cls).before a0 Z = true) (w4 : (Jvm.Cond.code y bytes maxL ret).before a0 Z = true) (hy : y.cls ≠ "java/lang/invoke/MethodHandle" ∧ y.cls ≠ "java/lang/invoke/VarHandle")
    {ps : List FieldType} {r : Option FieldType} (pd : parseMethodDescriptor y.desc = some ⟨ps, r⟩) {argsL rest : List Value} (hlen : argsL.length = ps.length) (hst : st = argsL.reverse ++ rest) (has : argsL.toArray = as') (hLs : Ls.size = mx) (dc : decode B pc = .ok (.invokestatic index, 3))
    (hf : rm.frames + 1 ≤ R.frames) (hl : (rest.map fun v => v.category).sum + (maxL + 11) + rm.locals ≤ R.locals) (hc : cells + rm.cells ≤ R.cells) (hs : slots + rm.slots ≤ R.slots) (hq : pc + 3 = q) :
    ∃ (ov : Option Value) (h' : Heap), Q ov h' ∧ ∀ st', ov.toList ++ rest = st' → Wk p l e R s m args below meth c Z EL own B mx s₁ g0 (mkF m q Ls st') h' (cells + rm.cells) (slots + rm.slots) sf := by
  subst hq hst has
  obtain ⟨hx, hB, hm, T, vm, locs, k, X, eT, hZ, ho, hS, hk, hC, hO, hF, hsf, st0⟩ := X
  obtain ⟨ov, vm1, B1, -, X', h2, hgr, ⟨Lc, hQ, el, ec, es, hCr⟩, st'⟩ := callSS (s := s.setVm vm) X hx ho (mvT hZ w1) (mvT hZ w2) (mvT hZ w3) (mvT hZ w4) hy (backSF (W := (rest.map fun v => v.category).sum) (s := s) hM hZ w4 w3 hf hl hEL hC.1 (fun x q => hsf x (hs0 x q))) (g := mkF m pc Ls (argsL.reverse ++ rest)) rfl (by rw [hm]; exact hLs) (argsL := argsL) (rest := rest) (lenOf pd hlen) rfl (by show 2 * 0 + _ ≤ _; omega) (hb hB dc) (fun _ _ => ⟨rfl, eT, hc, hs⟩)
  refine ⟨ov, B1.U.heap, hQ.1, fun st1 e1 => ?_⟩
  subst e1
  rw [eT] at hgr
  exact Wk.behind hx hB hm hS hk hZ ho hC hF hsf X' h2 hgr hQ el ec es hCr (st0.trans st')
theorem Wk.callI (X : Wk p l e R s m args below meth c Z EL own B mx s₁ g0 (mkF m pc Ls st) h cells slots sf) {index : Nat} {y : MethodName} {bytes : ByteArray} {maxL : Nat} {rm : Room} {as' : Array Value} {sf0 : List Addr} {Q : Option Value → Heap → Prop} (hM : Ctr l Z EL y bytes maxL none [] rm as' h sf0 Q) (hEL : EW Z a0 EL) (hs0 : ∀ x ∈ sf0, x ∈ sf) (hy1 : y.name = "<init>")
    (w1 : (Jvm.Cond.methodLink own index y).before a0 Z = true) (w2 : (Jvm.Cond.instanceMethod y).before a0 Z = true) (w3 : (Jvm.Cond.initialized y.cls).before a0 Z = true) (w4 : (Jvm.Cond.code y bytes maxL none).before a0 Z = true) (hy : y.cls ≠ "java/lang/invoke/MethodHandle" ∧ y.cls ≠ "java/lang/invoke/VarHandle")
    {ps : List FieldType} {r : Option FieldType} (pd : parseMethodDescriptor y.desc = some ⟨ps, r⟩) {a : Addr} {argsL rest : List Value} (hlen : argsL.length = ps.length) (hst : st = argsL.reverse ++ .ref a :: rest) (has : (.ref a :: argsL).toArray = as') (hLs : Ls.size = mx) (dc : decode B pc = .ok (.invokespecial index, 3))
    (hf : rm.frames + 1 ≤ R.frames) (hl : (rest.map fun v => v.category).sum + (maxL + 11) + rm.locals ≤ R.locals) (hc : cells + rm.cells ≤ R.cells) (hs : slots + rm.slots ≤ R.slots) (hq : pc + 3 = q) :
    ∃ (ov : Option Value) (h' : Heap), Q ov h' ∧ ∀ st', ov.toList ++ rest = st' → Wk p l e R s m args below meth c Z EL own B mx s₁ g0 (mkF m q Ls st') h' (cells + rm.cells) (slots + rm.slots) sf := by
  subst hq hst has
  obtain ⟨hx, hB, hm, T, vm, locs, k, X, eT, hZ, ho, hS, hk, hC, hO, hF, hsf, st0⟩ := X
  obtain ⟨ov, vm1, B1, -, X', h2, hgr, ⟨Lc, hQ, el, ec, es, hCr⟩, st'⟩ := X.specialBackS (s := s.setVm vm) hx hy1 ho (mvT hZ w1) (mvT hZ w2) (mvT hZ w4) hy (backSF (W := (rest.map fun v => v.category).sum) (s := s) hM hZ w4 w3 hf hl hEL hC.1 (fun x q => hsf x (hs0 x q))) (g := mkF m pc Ls (argsL.reverse ++ .ref a :: rest)) rfl (by rw [hm]; exact hLs) (Steps.refl _) (a := a) (argsL := argsL) (rest := rest) (lenOf pd hlen) rfl (by show 2 * 0 + _ ≤ _; omega) (hb hB dc) (fun _ _ => ⟨rfl, eT, hc, hs⟩)
  refine ⟨ov, B1.U.heap, hQ.1, fun st1 e1 => ?_⟩
  subst e1
  rw [eT] at hgr
  exact Wk.behind hx hB hm hS hk hZ ho hC hF hsf X' h2 hgr hQ el ec es hCr (st0.trans st')
theorem Wk.callV (X : Wk p l e R s m args below meth c Z EL own B mx s₁ g0 (mkF m pc Ls st) h cells slots sf) {index : Nat} {C : String} {y z : MethodName} {bytes : ByteArray} {maxL : Nat} {ret : Option FieldType} {rm : Room} {as' : Array Value} {sf0 : List Addr} {Q : Option Value → Heap → Prop} (hM : Ctr l Z EL z bytes maxL ret [] rm as' h sf0 Q) (hEL : EW Z a0 EL) (hs0 : ∀ x ∈ sf0, x ∈ sf)
    (w1 : (Jvm.Cond.methodLink own index y).before a0 Z = true) (w2 : (Jvm.Cond.declares y).before a0 Z = true) {CF : String} (wF : (Jvm.Cond.selects CF y y).before a0 Z = true) (w5 : (Jvm.Cond.selects C y z).before a0 Z = true) (w6 : (Jvm.Cond.instanceMethod z).before a0 Z = true) (w3 : (Jvm.Cond.initialized z.cls).before a0 Z = true) (w4 : (Jvm.Cond.code z bytes maxL ret).before a0 Z = true) (hy : y.cls ≠ "java/lang/invoke/MethodHandle" ∧ y.cls ≠ "java/lang/invoke/VarHandle")
    {ps : List FieldType} {r : Option FieldType} (pd : parseMethodDescriptor y.desc = some ⟨ps, r⟩) {a : Addr} (E : Exa Z h a C) {argsL rest : List Value} (hlen : argsL.length = ps.length) (hst : st = argsL.reverse ++ .ref a :: rest) (has : (.ref a :: argsL).toArray = as') (hLs : Ls.size = mx) (dc : decode B pc = .ok (.invokevirtual index, 3))
    (hf : rm.frames + 1 ≤ R.frames) (hl : (rest.map fun v => v.category).sum + (maxL + 11) + rm.locals ≤ R.locals) (hc : cells + rm.cells ≤ R.cells) (hs : slots + rm.slots ≤ R.slots) (hq : pc + 3 = q) :
    ∃ (ov : Option Value) (h' : Heap), Q ov h' ∧ ∀ st', ov.toList ++ rest = st' → Wk p l e R s m args below meth c Z EL own B mx s₁ g0 (mkF m q Ls st') h' (cells + rm.cells) (slots + rm.slots) sf := by
  subst hq hst has
  obtain ⟨hx, hB, hm, T, vm, locs, k, X, eT, hZ, ho, hS, hk, hC, hO, hF, hsf, st0⟩ := X
  obtain ⟨cq, kq, qa, qb, qc⟩ := isOf (s := s.setVm vm) hZ eT E
  obtain ⟨ov, vm1, B1, -, X', h2, hgr, ⟨Lc, hQ, el, ec, es, hCr⟩, st'⟩ := X.virtualBackS (s := s.setVm vm) hx ho (mvT hZ w1) (mvT hZ w2) (notFace_of_selects (args := #[]) (mvT hZ wF)) (mvT hZ w5) (mvT hZ w6) hy (backSF (W := (rest.map fun v => v.category).sum) (s := s) hM hZ w4 w3 hf hl hEL hC.1 (fun x q => hsf x (hs0 x q))) qa qc (g := mkF m pc Ls (argsL.reverse ++ .ref a :: rest)) rfl (by rw [hm]; exact hLs) (Steps.refl _) (argsL := argsL) (rest := rest) (lenOf pd hlen) rfl (by show 2 * 0 + _ ≤ _; omega) (hb hB dc) (fun _ _ => ⟨rfl, eT, hc, hs⟩)
  refine ⟨ov, B1.U.heap, hQ.1, fun st1 e1 => ?_⟩
  subst e1
  rw [eT] at hgr
  exact Wk.behind hx hB hm hS hk hZ ho hC hF hsf X' h2 hgr hQ el ec es hCr (st0.trans st')
theorem Wk.callF (X : Wk p l e R s m args below meth c Z EL own B mx s₁ g0 (mkF m pc Ls st) h cells slots sf) {index count : Nat} {C : String} {xi y : MethodName} {bytes : ByteArray} {maxL : Nat} {ret : Option FieldType} {rm : Room} {as' : Array Value} {sf0 : List Addr} {Q : Option Value → Heap → Prop} (hM : Ctr l Z EL y bytes maxL ret [] rm as' h sf0 Q) (hEL : EW Z a0 EL) (hs0 : ∀ x ∈ sf0, x ∈ sf)
    (w1 : (Jvm.Cond.methodLink own index xi).before a0 Z = true) (w2 : (Jvm.Cond.declares xi).before a0 Z = true) (w7 : (Jvm.Cond.interfaceMethod xi.cls xi.cls xi.name xi.desc).before a0 Z = true) (hw7 : ((Jvm.Cond.interfaceMethod xi.cls xi.cls xi.name xi.desc).onTables && (Jvm.Cond.interfaceMethod xi.cls xi.cls xi.name xi.desc).keepsFace) = true) (w5 : (Jvm.Cond.selects C xi y).before a0 Z = true) (w6 : (Jvm.Cond.instanceMethod y).before a0 Z = true) (w8 : (Jvm.Cond.publicMethod y).before a0 Z = true) (w9 : (Jvm.Cond.unhidden C xi.name xi.desc).before a0 Z = true) (w10 : (Jvm.Cond.castable C xi.cls).before a0 Z = true)
    (w3 : (Jvm.Cond.initialized y.cls).before a0 Z = true) (w4 : (Jvm.Cond.code y bytes maxL ret).before a0 Z = true) (hy : xi.cls ≠ "java/lang/invoke/MethodHandle" ∧ xi.cls ≠ "java/lang/invoke/VarHandle")
    {ps : List FieldType} {r : Option FieldType} (pd : parseMethodDescriptor xi.desc = some ⟨ps, r⟩) {a : Addr} (E : Exa Z h a C) {argsL rest : List Value} (hlen : argsL.length = ps.length) (hst : st = argsL.reverse ++ .ref a :: rest) (has : (.ref a :: argsL).toArray = as') (hLs : Ls.size = mx) (dc : decode B pc = .ok (.invokeinterface index count, 5))
    (hf : rm.frames + 1 ≤ R.frames) (hl : (rest.map fun v => v.category).sum + (maxL + 11) + rm.locals ≤ R.locals) (hc : cells + rm.cells ≤ R.cells) (hs : slots + rm.slots ≤ R.slots) (hq : pc + 5 = q) :
    ∃ (ov : Option Value) (h' : Heap), Q ov h' ∧ ∀ st', ov.toList ++ rest = st' → Wk p l e R s m args below meth c Z EL own B mx s₁ g0 (mkF m q Ls st') h' (cells + rm.cells) (slots + rm.slots) sf := by
  subst hq hst has
  obtain ⟨hx, hB, hm, T, vm, locs, k, X, eT, hZ, ho, hS, hk, hC, hO, hF, hsf, st0⟩ := X
  obtain ⟨cq, kq, qa, qb, qc⟩ := isOf (s := s.setVm vm) hZ eT E
  obtain ⟨ov, vm1, B1, -, X', h2, hgr, ⟨Lc, hQ, el, ec, es, hCr⟩, st'⟩ := X.interfaceBackS (s := s.setVm vm) hx ho (mvT hZ w1) (mvT hZ w2) (mvT hZ w7 hw7) (mvT hZ w5) (mvT hZ w6) (mvT hZ w8) (mvT hZ w9) (mvT hZ w10) hy (backSF (W := (rest.map fun v => v.category).sum) (s := s) hM hZ w4 w3 hf hl hEL hC.1 (fun x q => hsf x (hs0 x q))) qa qb qc (g := mkF m pc Ls (argsL.reverse ++ .ref a :: rest)) rfl (by rw [hm]; exact hLs) (Steps.refl _) (argsL := argsL) (rest := rest) (lenOf pd hlen) rfl (by show 2 * 0 + _ ≤ _; omega) (hb hB dc) (fun _ _ => ⟨rfl, eT, hc, hs⟩)
  refine ⟨ov, B1.U.heap, hQ.1, fun st1 e1 => ?_⟩
  subst e1
  rw [eT] at hgr
  exact Wk.behind hx hB hm hS hk hZ ho hC hF hsf X' h2 hgr hQ el ec es hCr (st0.trans st')
theorem Wk.callU (X : Wk p l e R s m args below meth c Z EL own B mx s₁ g0 (mkF m pc Ls st) h cells slots sf) {index : Nat} {K : String} {y : MethodName} {bytes : ByteArray} {maxL : Nat} {ret : Option FieldType} {rm : Room} {as' : Array Value} {sf0 : List Addr} {Q : Option Value → Heap → Prop} (hM : Ctr l Z EL y bytes maxL ret [] rm as' h sf0 Q) (hEL : EW Z a0 EL) (hs0 : ∀ x ∈ sf0, x ∈ sf)
    (w1 : (Jvm.Cond.methodLink own index y).before a0 Z = true) (w2 : (Jvm.Cond.sameMethod y.cls y.cls y.name y.desc).before a0 Z = true) (w6 : (Jvm.Cond.instanceMethod y).before a0 Z = true) (w5 : (Jvm.Cond.superclass own y.cls).before a0 Z = true) (hn : y.name ≠ "<init>") (w3 : (Jvm.Cond.initialized y.cls).before a0 Z = true) (w4 : (Jvm.Cond.code y bytes maxL ret).before a0 Z = true)
    {ps : List FieldType} {r : Option FieldType} (pd : parseMethodDescriptor y.desc = some ⟨ps, r⟩) {a : Addr} (F : Ins Z h a K true) {argsL rest : List Value} (hlen : argsL.length = ps.length) (hst : st = argsL.reverse ++ .ref a :: rest) (has : (.ref a :: argsL).toArray = as') (hLs : Ls.size = mx) (dc : decode B pc = .ok (.invokespecial index, 3))
    (hf : rm.frames + 1 ≤ R.frames) (hl : (rest.map fun v => v.category).sum + (maxL + 11) + rm.locals ≤ R.locals) (hc : cells + rm.cells ≤ R.cells) (hs : slots + rm.slots ≤ R.slots) (hq : pc + 3 = q) :
    ∃ (ov : Option Value) (h' : Heap), Q ov h' ∧ ∀ st', ov.toList ++ rest = st' → Wk p l e R s m args below meth c Z EL own B mx s₁ g0 (mkF m q Ls st') h' (cells + rm.cells) (slots + rm.slots) sf := by
  subst hq hst has
  obtain ⟨hx, hB, hm, T, vm, locs, k, X, eT, hZ, ho, hS, hk, hC, hO, hF, hsf, st0⟩ := X
  obtain ⟨ov, vm1, B1, -, X', h2, hgr, ⟨Lc, hQ, el, ec, es, hCr⟩, st'⟩ := superBackS (s := s.setVm vm) X hx hZ ho w1 w2 w6 w5 hn (backSF (W := (rest.map fun v => v.category).sum) (s := s) hM hZ w4 w3 hf hl hEL hC.1 (fun x q => hsf x (hs0 x q))) eT F (g := mkF m pc Ls (argsL.reverse ++ .ref a :: rest)) rfl (by rw [hm]; exact hLs) w4 (argsL := argsL) (rest := rest) (lenOf pd hlen) rfl (by show 2 * 0 + _ ≤ _; omega) (hb hB dc) (fun _ _ => ⟨rfl, eT, hc, hs⟩)
  refine ⟨ov, B1.U.heap, hQ.1, fun st1 e1 => ?_⟩
  subst e1
  rw [eT] at hgr
  exact Wk.behind hx hB hm hS hk hZ ho hC hF hsf X' h2 hgr hQ el ec es hCr (st0.trans st')
/-! calls paid by a Back of the pasted String laws -/
theorem Wk.behindB {B1 : Pt} {vm : Vm} {k : Nat} {locs : List Loc} {rc rs : Nat} {Lc : List Loc} {ws : List Addr} (hx : p.tables.exec = Jvm.exec) (hB : c.code = B) (hm : c.maxLocals = mx) (hS : s.Since vm k) (hk : k ≤ h.size) (hZ : Z.Warmed39 vm) (ho : vm.findClass own = some m.cls) (hC : CHr Z EL s.vm s.heap vm h) (hO : Ext Z.heap h) (hF : Fr Z.heap.size locs) (hsf : ∀ x ∈ sf, x < h.size ∧ Safe Z EL vm h x)
    (X' : Stand p l e R (s.setVm vm) m args below meth c B1.U B1.locs B1.cells B1.slots) (hL : Fr Z.heap.size Lc) (K : Keep h B1.U.heap ws) (hw : ∀ x ∈ ws, x ∈ sf ∧ Z.heap.size ≤ x) (el : B1.locs = locs ++ Lc) (ec : B1.cells = cells + rc) (es : B1.slots = slots + rs)
    (st : Steps p.tables e below (s₁.setTop g0) (B1.U.setTop g')) : Wk p l e R s m args below meth c Z EL own B mx s₁ g0 g' B1.U.heap (cells + rc) (slots + rs) sf := by
  have hs' : ∀ x ∈ ws, Safe Z EL vm h x := fun x q => (hsf x (hw x q).1).2
  refine ⟨hx, hB, hm, B1.U, vm, locs ++ Lc, k, ?_, rfl, hZ, ho, hS, Nat.le_trans hk K.1, hC.trans (CHr.keep K hs' hC.1), (Old.keep (show Old Z Z.heap.size h from ⟨rfl, hO⟩) K (fun x q => (hw x q).2)).2, Fr.app hF hL, fun x hx => ⟨Nat.lt_of_lt_of_le (hsf x hx).1 K.1, Safe.keep K hs' hC.1 (hsf x hx).2⟩, st⟩
  rw [← el, ← ec, ← es]; exact X'
theorem Wk.backV (X : Wk p l e R s m args below meth c Z EL own B mx s₁ g0 (mkF m pc Ls st) h cells slots sf) {index : Nat} {C : String} {y z : MethodName} {rc rs : Nat} {as' : Array Value} {Q : Option Value → Heap → List Loc → Prop} {ws : List Addr} {rest : List Value}
    (hK : ∀ vm, Z.Warmed39 (s.setVm vm).vm → Back l R p e below (s.setVm vm) args z 3 ((rest.map fun v => v.category).sum) (fun A a => a = as' ∧ A.U.heap = h ∧ A.cells + rc ≤ R.cells ∧ A.slots + rs ≤ R.slots) (fun A _ v B => ∃ L, Q v B.U.heap L ∧ B.locs = A.locs ++ L ∧ B.cells = A.cells + rc ∧ B.slots = A.slots + rs))
    (hKeep : ∀ v h' L, Q v h' L → Fr Z.heap.size L ∧ Keep h h' ws) (hw : ∀ x ∈ ws, x ∈ sf ∧ Z.heap.size ≤ x)
    (w1 : (Jvm.Cond.methodLink own index y).before a0 Z = true) (w2 : (Jvm.Cond.declares y).before a0 Z = true) {CF : String} (wF : (Jvm.Cond.selects CF y y).before a0 Z = true) (w5 : (Jvm.Cond.selects C y z).before a0 Z = true) (w6 : (Jvm.Cond.instanceMethod z).before a0 Z = true) (hy : y.cls ≠ "java/lang/invoke/MethodHandle" ∧ y.cls ≠ "java/lang/invoke/VarHandle")
    {ps : List FieldType} {r : Option FieldType} (pd : parseMethodDescriptor y.desc = some ⟨ps, r⟩) {a : Addr} (E : Exa Z h a C) {argsL : List Value} (hlen : argsL.length = ps.length) (hst : st = argsL.reverse ++ .ref a :: rest) (has : (.ref a :: argsL).toArray = as') (hLs : Ls.size = mx) (dc : decode B pc = .ok (.invokevirtual index, 3))
    (hc : cells + rc ≤ R.cells) (hs : slots + rs ≤ R.slots) (hq : pc + 3 = q) :
    ∃ (ov : Option Value) (h' : Heap) (L : List Loc), Q ov h' L ∧ ∀ st', ov.toList ++ rest = st' → Wk p l e R s m args below meth c Z EL own B mx s₁ g0 (mkF m q Ls st') h' (cells + rc) (slots + rs) sf := by
  subst hq hst has
  obtain ⟨hx, hB, hm, T, vm, locs, k, X, eT, hZ, ho, hS, hk, hC, hO, hF, hsf, st0⟩ := X
  obtain ⟨cq, kq, qa, qb, qc⟩ := isOf (s := s.setVm vm) hZ eT E
  obtain ⟨ov, vm1, B1, -, X', ⟨Lc, hQ, el, ec, es⟩, st'⟩ := X.virtualBack (s := s.setVm vm) hx ho (mvT hZ w1) (mvT hZ w2) (notFace_of_selects (args := #[]) (mvT hZ wF)) (mvT hZ w5) (mvT hZ w6) hy (hK vm hZ) qa qc (g := mkF m pc Ls (argsL.reverse ++ .ref a :: rest)) rfl (by rw [hm]; exact hLs) (Steps.refl _) (argsL := argsL) (rest := rest) (lenOf pd hlen) rfl (by show 2 * 0 + _ ≤ _; omega) (hb hB dc) (fun _ _ => ⟨rfl, eT, hc, hs⟩)
  refine ⟨ov, B1.U.heap, Lc, hQ, fun st1 e1 => ?_⟩
  subst e1
  obtain ⟨hL, K⟩ := hKeep _ _ _ hQ
  exact Wk.behindB hx hB hm hS hk hZ ho hC hO hF hsf X' hL K hw el ec es (st0.trans st')
theorem Wk.backI (X : Wk p l e R s m args below meth c Z EL own B mx s₁ g0 (mkF m pc Ls st) h cells slots sf) {index : Nat} {y : MethodName} {bytes : ByteArray} {maxL : Nat} {rc rs : Nat} {as' : Array Value} {Q : Option Value → Heap → List Loc → Prop} {ws : List Addr} {rest : List Value} (hy1 : y.name = "<init>")
    (hK : ∀ vm, Z.Warmed39 (s.setVm vm).vm → Back l R p e below (s.setVm vm) args y 3 ((rest.map fun v => v.category).sum) (fun A a => a = as' ∧ A.U.heap = h ∧ A.cells + rc ≤ R.cells ∧ A.slots + rs ≤ R.slots) (fun A _ v B => ∃ L, Q v B.U.heap L ∧ B.locs = A.locs ++ L ∧ B.cells = A.cells + rc ∧ B.slots = A.slots + rs))
    (hKeep : ∀ v h' L, Q v h' L → Fr Z.heap.size L ∧ Keep h h' ws) (hw : ∀ x ∈ ws, x ∈ sf ∧ Z.heap.size ≤ x)
    (w1 : (Jvm.Cond.methodLink own index y).before a0 Z = true) (w2 : (Jvm.Cond.instanceMethod y).before a0 Z = true) (w4 : (Jvm.Cond.code y bytes maxL none).before a0 Z = true) (hy : y.cls ≠ "java/lang/invoke/MethodHandle" ∧ y.cls ≠ "java/lang/invoke/VarHandle")
    {ps : List FieldType} {r : Option FieldType} (pd : parseMethodDescriptor y.desc = some ⟨ps, r⟩) {a : Addr} {argsL : List Value} (hlen : argsL.length = ps.length) (hst : st = argsL.reverse ++ .ref a :: rest) (has : (.ref a :: argsL).toArray = as') (hLs : Ls.size = mx) (dc : decode B pc = .ok (.invokespecial index, 3))
    (hc : cells + rc ≤ R.cells) (hs : slots + rs ≤ R.slots) (hq : pc + 3 = q) :
    ∃ (ov : Option Value) (h' : Heap) (L : List Loc), Q ov h' L ∧ ∀ st', ov.toList ++ rest = st' → Wk p l e R s m args below meth c Z EL own B mx s₁ g0 (mkF m q Ls st') h' (cells + rc) (slots + rs) sf := by
  subst hq hst has
  obtain ⟨hx, hB, hm, T, vm, locs, k, X, eT, hZ, ho, hS, hk, hC, hO, hF, hsf, st0⟩ := X
  obtain ⟨ov, vm1, B1, -, X', ⟨Lc, hQ, el, ec, es⟩, st'⟩ := X.specialBack (s := s.setVm vm) hx hy1 ho (mvT hZ w1) (mvT hZ w2) (mvT hZ w4) hy (hK vm hZ) (g := mkF m pc Ls (argsL.reverse ++ .ref a :: rest)) rfl (by rw [hm]; exact hLs) (Steps.refl _) (a := a) (argsL := argsL) (rest := rest) (lenOf pd hlen) rfl (by show 2 * 0 + _ ≤ _; omega) (hb hB dc) (fun _ _ => ⟨rfl, eT, hc, hs⟩)
  refine ⟨ov, B1.U.heap, Lc, hQ, fun st1 e1 => ?_⟩
  subst e1
  obtain ⟨hL, K⟩ := hKeep _ _ _ hQ
  exact Wk.behindB hx hB hm hS hk hZ ho hC hO hF hsf X' hL K hw el ec es (st0.trans st')
end WkKit
section StrKit
variable {p : Program} {l : Launch} {e : Env} {R : Room} {s : State} {m : MethodId} {args : Array Value} {below : List Frame} {meth : Method} {c : Code} {Z : State} {a0 : Array Value} {EL : List (String × Nat)} {own : String} {B : ByteArray} {mx : Nat} {s₁ : State} {g0 g g' : JFrame} {h h' : Heap} {cells slots pc q : Nat} {sf : List Addr} {Ls Ls' : Array Slot} {st rest : List Value} {x y z : Int32} {v w : Value} {a b : Addr} {ws : List Addr} {cs : List Int32}
/-- a String of Latin-1 chars -/
def Str (Z : State) (h : Heap) (a : Addr) (cs : List Int32) : Prop :=
  cs.length ≤ 4000 ∧ (∀ c ∈ cs, ¬ c < 0 ∧ ¬ (255 : Int32) < c) ∧ Exa Z h a "java/lang/String" ∧ Fld Z h a "java/lang/String" "coder" "B" (.int 0) ∧ ∃ (t : Addr) (kb : ClassId), Fld Z h a "java/lang/String" "value" "[B" (.ref t) ∧ Arv Z h t kb .byte (Int32.ofNat cs.length) ((cs.map (fun c => c.toInt8.toInt32)).map Value.int) (.int 0)
/-- no String and no byte[] lies at x -/
def Nst (Z : State) (h : Heap) (x : Addr) : Prop := (∀ a, Exa Z h a "java/lang/String" → a ≠ x) ∧ ∀ t kb z vs d, Arv Z h t kb .byte z vs d → t ≠ x
theorem Nst.exa {C : String} {n : Nat} {x : Addr} (E : Exa Z h x C) (hC : C ≠ "java/lang/String") (wi : (Jvm.Cond.instantiable C n).before a0 Z = true) : Nst Z h x :=
  ⟨fun a F => F.ne E (Ne.symm hC), fun t kb z vs d F => Ne.symm (E.neArv F wi)⟩
theorem Nst.new {x : Addr} (hx : h.size ≤ x) : Nst Z h x := ⟨fun a F => Nat.ne_of_lt (Nat.lt_of_lt_of_le F.lt hx), fun t kb z vs d F => Nat.ne_of_lt (Nat.lt_of_lt_of_le F.lt hx)⟩
theorem Nst.arv {n : Nat} {x : Addr} {k : ClassId} {ty : FieldType} {z : Int32} {vs : List Value} {d : Value} (A : Arv Z h x k ty z vs d) (ht : ty ≠ .byte) (wi : (Jvm.Cond.instantiable "java/lang/String" n).before a0 Z = true) : Nst Z h x := by
  refine ⟨fun a F => F.neArv A wi, fun t kb z' vs' d' F q => ?_⟩
  subst q
  obtain ⟨c1, ⟨e1, ⟨-, k1, i1, co1, j1⟩, -⟩, -⟩ := A
  obtain ⟨c2, ⟨e2, ⟨-, k2, i2, co2, j2⟩, -⟩, -⟩ := F
  cases e1.symm.trans e2
  cases i1.symm.trans i2
  rw [j1] at j2
  cases j2
  exact ht rfl
theorem Str.ext (S : Str Z h a cs) (E : Ext h h') : Str Z h' a cs := by
  obtain ⟨l, b, A, C, t, kb, V, K⟩ := S
  exact ⟨l, b, A.ext E, C.ext E, t, kb, V.ext E, K.ext E⟩
theorem Str.keep (S : Str Z h a cs) (K : Keep h h' ws) (n : ∀ x ∈ ws, Nst Z h x) : Str Z h' a cs := by
  obtain ⟨l, b, A, C, t, kb, V, F⟩ := S
  have na : a ∉ ws := fun q => (n a q).1 a A rfl
  have nt : t ∉ ws := fun q => (n t q).2 t _ _ _ _ F rfl
  exact ⟨l, b, A.keep K, C.keep K na, t, kb, V.keep K na, F.keep K nt⟩
theorem Str.keepS {n : Nat} (S : Str Z h a cs) (K : Keep h h' [b]) (hne : a ≠ b) (E : Exa Z h b "java/lang/String") (wi : (Jvm.Cond.instantiable "java/lang/String" n).before a0 Z = true) : Str Z h' a cs := by
  obtain ⟨l, b0, A, C, t, kb, V, F⟩ := S
  have na : a ∉ [b] := fun q => hne (List.mem_singleton.mp q)
  have nt : t ∉ [b] := fun q => E.neArv F wi (List.mem_singleton.mp q).symm
  exact ⟨l, b0, A.keep K, C.keep K na, t, kb, V.keep K na, F.keep K nt⟩
theorem Str.exa (S : Str Z h a cs) : Exa Z h a "java/lang/String" := S.2.2.1
theorem Str.lt (S : Str Z h a cs) : a < h.size := S.exa.lt
theorem Keep.ofExt (E : Ext h h') : Keep h h' [] := (Keep.refl h []).ext E
theorem Ext.ofKeep (K : Keep h h' []) : Ext h h' := ⟨K.1, fun x c q => K.2.1 x c q (fun r => nomatch r)⟩
theorem Ext.refl (h : Heap) : Ext h h := ⟨Nat.le_refl _, fun _ _ q => q⟩
theorem Ext.trans {h2 : Heap} (A : Ext h h') (B : Ext h' h2) : Ext h h2 := ⟨Nat.le_trans A.1 B.1, fun x c q => B.2 x c (A.2 x c q)⟩
/-- null, or a String -/
def NmOk (Z : State) (h : Heap) (v : Value) : Prop := v = .null ∨ ∃ a, v = .ref a ∧ Exa Z h a "java/lang/String"
theorem NmOk.ext (S : NmOk Z h v) (E : Ext h h') : NmOk Z h' v := S.imp id fun ⟨a, e, F⟩ => ⟨a, e, F.ext E⟩
theorem NmOk.keep (S : NmOk Z h v) (K : Keep h h' ws) : NmOk Z h' v := S.imp id fun ⟨a, e, F⟩ => ⟨a, e, F.keep K⟩
theorem NmOk.ref (S : NmOk Z h v) : v.isRef = true := by rcases S with rfl | ⟨a, rfl, -⟩ <;> rfl
/-! small facts on ints -/
theorem lt32 {x y : Int32} : x < y ↔ x.toInt < y.toInt := Int32.lt_iff_toInt_lt
theorem and255 (x : Int32) : ¬ (x &&& (255 : Int32)) < 0 ∧ ¬ (255 : Int32) < (x &&& (255 : Int32)) := by
  have h := andB x (255 : Int32) (by decide)
  have e : (255 : Int32).toInt = 255 := rfl
  have e0 : (0 : Int32).toInt = 0 := rfl
  exact ⟨fun q => by rw [lt32] at q; omega, fun q => by rw [lt32] at q; omega⟩
/-- an int of 0 to 255 is one of these -/
theorem of255 {x : Int32} (h : ¬ x < 0 ∧ ¬ (255 : Int32) < x) : ∃ k : Fin 256, x = Int32.ofNat k.val := by
  have e : (255 : Int32).toInt = 255 := rfl
  have e0 : (0 : Int32).toInt = 0 := rfl
  obtain ⟨h1, h2⟩ := h
  rw [lt32] at h1 h2
  exact ofRange (by omega) (by omega) (by decide)
theorem nar8 {x : Int32} (h : ¬ x < 0 ∧ ¬ (255 : Int32) < x) : nar .char x = x := by
  obtain ⟨k, rfl⟩ := of255 h
  exact (by decide +kernel : ∀ k : Fin 256, nar .char (Int32.ofNat k.val) = Int32.ofNat k.val) k
theorem narrow8 {x : Int32} (h : ¬ x < 0 ∧ ¬ (255 : Int32) < x) : narrow .char (.int x) = .int x := by
  obtain ⟨k, rfl⟩ := of255 h
  exact (by decide +kernel : ∀ k : Fin 256, narrow .char (.int (Int32.ofNat k.val)) = .int (Int32.ofNat k.val)) k
theorem i2c8 {x : Int32} (h : ¬ x < 0 ∧ ¬ (255 : Int32) < x) : x.toUInt32.toUInt16.toUInt32.toInt32 = x := by
  obtain ⟨k, rfl⟩ := of255 h
  exact (by decide +kernel : ∀ k : Fin 256, (Int32.ofNat k.val).toUInt32.toUInt16.toUInt32.toInt32 = Int32.ofNat k.val) k
theorem up8 (cs : List Int32) (h : ∀ c ∈ cs, ¬ c < 0 ∧ ¬ (255 : Int32) < c) : ∀ c ∈ cs, ¬ c < 0 ∧ ¬ (65535 : Int32) < c := fun c hc => ⟨(h c hc).1, fun q => (h c hc).2 (by rw [Int32.lt_iff_toInt_lt] at q ⊢; have e1 : (65535 : Int32).toInt = 65535 := rfl; have e2 : (255 : Int32).toInt = 255 := rfl; omega)⟩
theorem pdInit : parseMethodDescriptor "([C)V" = some ⟨[.array .char], none⟩ := by decide +kernel
theorem pdLen : parseMethodDescriptor "()I" = some ⟨[], some .int⟩ := by decide +kernel
theorem pdCh : parseMethodDescriptor "(I)C" = some ⟨[.int], some .char⟩ := by decide +kernel
theorem pdEmp : parseMethodDescriptor "()Z" = some ⟨[], some .boolean⟩ := by decide +kernel
theorem pdEq : parseMethodDescriptor "(Ljava/lang/Object;)Z" = some ⟨[.object "java/lang/Object"], some .boolean⟩ := by decide +kernel
theorem Wk.strInit (X : Wk p l e R s m args below meth c Z EL own B mx s₁ g0 (mkF m pc Ls (.ref b :: .ref a :: st)) h cells slots sf) (hws : ∀ d ∈ StrChars.Road.words, d.before a0 Z = true) (wi : (Jvm.Cond.instantiable "java/lang/String" 4).before a0 Z = true) {index : Nat} {bytes : ByteArray} {maxL : Nat}
    (w1 : (Jvm.Cond.methodLink own index ⟨"java/lang/String", "<init>", "([C)V"⟩).before a0 Z = true) (w2 : (Jvm.Cond.instanceMethod ⟨"java/lang/String", "<init>", "([C)V"⟩).before a0 Z = true) (w4 : (Jvm.Cond.code ⟨"java/lang/String", "<init>", "([C)V"⟩ bytes maxL none).before a0 Z = true)
    (E : Exa Z h a "java/lang/String") {v0 c0 d : Value} (V : Fld Z h a "java/lang/String" "value" "[B" v0) (C : Fld Z h a "java/lang/String" "coder" "B" c0) {kC : ClassId} {N : Int32} (K : Arv Z h b kC .char N (cs.map Value.int) d) {G : Int32} (S : Sta Z Z.heap "java/lang/String" "COMPACT_STRINGS" "Z" (.int G)) (hG : ¬ G = 0) (ha : Z.heap.size ≤ a) (hsf : a ∈ sf)
    {n : Nat} (hn : cs.length = n) (hN : N = Int32.ofNat n) (l0 : 0 < n) (l2 : n ≤ 4000) (hp : ∀ c ∈ cs, ¬ c < 0 ∧ ¬ (255 : Int32) < c) (hLs : Ls.size = mx) (dc : decode B pc = .ok (.invokespecial index, 3)) (hf : 4 ≤ R.frames) (hl : (st.map fun v => v.category).sum + 65 ≤ R.locals) (hc : cells + 1 ≤ R.cells) (hs : slots + n ≤ R.slots) (hq : pc + 3 = q) :
    ∃ h' : Heap, Keep h h' [a] ∧ Str Z h' a cs ∧ Wk p l e R s m args below meth c Z EL own B mx s₁ g0 (mkF m q Ls st) h' (cells + 1) (slots + n) sf := by
  subst hn hN
  have O := X.old
  obtain ⟨ov, h', L, ⟨rfl, -, K', E', C', t, kb, -, -, -, V', A'⟩, X'⟩ := X.backI (y := ⟨"java/lang/String", "<init>", "([C)V"⟩) (rest := st) (ws := [a]) (Q := fun v h' L => StrChars.Road.QV Z a (Int32.ofNat cs.length) (cs.map (fun c => c.toInt8.toInt32)) h Z.heap.size v h' L) rfl
    (fun vm hZ => StrChars.Road.backV (n0 := Z.heap.size) hZ hws wi ha O.1 E V C K (S.ext O) hG rfl rfl l0 l2 hp rfl hf hl) (fun v h' L q => ⟨q.2.1, q.2.2.1⟩) (fun x q => by cases List.mem_singleton.mp q; exact ⟨hsf, ha⟩) w1 w2 w4 (by decide) pdInit (a := a) (argsL := [.ref b]) rfl rfl rfl hLs dc hc hs hq
  exact ⟨h', K', ⟨l2, hp, E', C', t, kb, V', A'⟩, X' _ rfl⟩
end StrKit
theorem wS_of {Z : State} {a0 : Array Value} (hw : ∀ d ∈ tables_1, d.before a0 Z = true) : ∀ d ∈ Bundle.stringAtoms, d.before a0 Z = true := fun d hd => hw d ((by decide +kernel : ∀ d ∈ Bundle.stringAtoms, d ∈ tables_1) d hd)
theorem hws_of {Z : State} {a0 : Array Value} (hw : ∀ d ∈ tables_1, d.before a0 Z = true) : ∀ d ∈ StrChars.Road.words, d.before a0 Z = true := fun d hd => hw d ((by decide +kernel : ∀ d ∈ StrChars.Road.words, d ∈ tables_1) d hd)
theorem static_exa {s : State} {args : Array Value} {C n d K : String} (hx : (Jvm.Cond.exactly (.static C n d) K).value args s none s [] = some true) (hi : (Jvm.Cond.initializedFor C n d).before args s = true ∨ ((Jvm.Cond.initialized C).before args s = true ∧ (Jvm.Cond.laysStatic C n d).before args s = true)) : ∃ a, Sta s s.heap C n d (.ref a) ∧ a < s.heap.size ∧ Exa s s.heap a K := by
  obtain ⟨a, c, cell, k, e1, e2, e3, e4, e5, e6, e7⟩ := Cond.exactly_spec (Cond.before_iff.mpr hx)
  exact ⟨a, Sta.start e1 hi, (Array.getElem?_eq_some_iff.mp e3).1, Exa.start e1 hx⟩
theorem pn0 : plainName "java/lang/String" = true := by first | (simp [plainName, overriddenIn]; done) | decide +kernel
theorem d0_0 : decode jdk_42_method_149_code 0 = .ok (.aload_n 0, 1) := by decide +kernel
theorem d0_1 : decode jdk_42_method_149_code 1 = .ok (.invokespecial 1, 3) := by decide +kernel
theorem d0_4 : decode jdk_42_method_149_code 4 = .ok (.iload_n 3, 1) := by decide +kernel
theorem d0_5 : decode jdk_42_method_149_code 5 = .ok (.ifCond .ne 22, 3) := by decide +kernel
theorem d0_8 : decode jdk_42_method_149_code 8 = .ok (.aload_n 0, 1) := by decide +kernel
theorem d0_9 : decode jdk_42_method_149_code 9 = .ok (.ldc 7, 2) := by decide +kernel
theorem d0_11 : decode jdk_42_method_149_code 11 = .ok (.getfield 9, 3) := by decide +kernel
theorem d0_14 : decode jdk_42_method_149_code 14 = .ok (.putfield 9, 3) := by decide +kernel
theorem d0_17 : decode jdk_42_method_149_code 17 = .ok (.aload_n 0, 1) := by decide +kernel
theorem d0_18 : decode jdk_42_method_149_code 18 = .ok (.ldc 7, 2) := by decide +kernel
theorem d0_20 : decode jdk_42_method_149_code 20 = .ok (.getfield 15, 3) := by decide +kernel
theorem d0_23 : decode jdk_42_method_149_code 23 = .ok (.putfield 15, 3) := by decide +kernel
theorem d0_26 : decode jdk_42_method_149_code 26 = .ok (.return_, 1) := by decide +kernel
theorem d0_27 : decode jdk_42_method_149_code 27 = .ok (.getstatic 38, 3) := by decide +kernel
theorem d0_30 : decode jdk_42_method_149_code 30 = .ok (.ifCond .eq 28, 3) := by decide +kernel
theorem d0_33 : decode jdk_42_method_149_code 33 = .ok (.aload_n 1, 1) := by decide +kernel
theorem d0_34 : decode jdk_42_method_149_code 34 = .ok (.iload_n 2, 1) := by decide +kernel
theorem d0_35 : decode jdk_42_method_149_code 35 = .ok (.iload_n 3, 1) := by decide +kernel
theorem d0_36 : decode jdk_42_method_149_code 36 = .ok (.invokestatic 177, 3) := by decide +kernel
theorem d0_39 : decode jdk_42_method_149_code 39 = .ok (.astore 5, 2) := by decide +kernel
theorem d0_41 : decode jdk_42_method_149_code 41 = .ok (.aload_n 0, 1) := by decide +kernel
theorem d0_42 : decode jdk_42_method_149_code 42 = .ok (.aload 5, 2) := by decide +kernel
theorem d0_44 : decode jdk_42_method_149_code 44 = .ok (.iload_n 3, 1) := by decide +kernel
theorem d0_45 : decode jdk_42_method_149_code 45 = .ok (.invokestatic 47, 3) := by decide +kernel
theorem d0_48 : decode jdk_42_method_149_code 48 = .ok (.putfield 15, 3) := by decide +kernel
theorem d0_51 : decode jdk_42_method_149_code 51 = .ok (.aload_n 0, 1) := by decide +kernel
theorem d0_52 : decode jdk_42_method_149_code 52 = .ok (.aload 5, 2) := by decide +kernel
theorem d0_54 : decode jdk_42_method_149_code 54 = .ok (.putfield 9, 3) := by decide +kernel
theorem d0_57 : decode jdk_42_method_149_code 57 = .ok (.return_, 1) := by decide +kernel
theorem d0_58 : decode jdk_42_method_149_code 58 = .ok (.aload_n 0, 1) := by decide +kernel
theorem d0_59 : decode jdk_42_method_149_code 59 = .ok (.iconst 1, 1) := by decide +kernel
theorem d0_60 : decode jdk_42_method_149_code 60 = .ok (.putfield 15, 3) := by decide +kernel
theorem d0_63 : decode jdk_42_method_149_code 63 = .ok (.aload_n 0, 1) := by decide +kernel
theorem d0_64 : decode jdk_42_method_149_code 64 = .ok (.aload_n 1, 1) := by decide +kernel
theorem d0_65 : decode jdk_42_method_149_code 65 = .ok (.iload_n 2, 1) := by decide +kernel
theorem d0_66 : decode jdk_42_method_149_code 66 = .ok (.iload_n 3, 1) := by decide +kernel
theorem d0_67 : decode jdk_42_method_149_code 67 = .ok (.invokestatic 180, 3) := by decide +kernel
theorem d0_70 : decode jdk_42_method_149_code 70 = .ok (.putfield 9, 3) := by decide +kernel
theorem d0_73 : decode jdk_42_method_149_code 73 = .ok (.return_, 1) := by decide +kernel
theorem d1_0 : decode jdk_42_method_3_code 0 = .ok (.aload_n 0, 1) := by decide +kernel
theorem d1_1 : decode jdk_42_method_3_code 1 = .ok (.aload_n 1, 1) := by decide +kernel
theorem d1_2 : decode jdk_42_method_3_code 2 = .ok (.iconst 0, 1) := by decide +kernel
theorem d1_3 : decode jdk_42_method_3_code 3 = .ok (.aload_n 1, 1) := by decide +kernel
theorem d1_4 : decode jdk_42_method_3_code 4 = .ok (.arraylength, 1) := by decide +kernel
theorem d1_5 : decode jdk_42_method_3_code 5 = .ok (.aconst_null, 1) := by decide +kernel
theorem d1_6 : decode jdk_42_method_3_code 6 = .ok (.invokespecial 27, 3) := by decide +kernel
theorem d1_9 : decode jdk_42_method_3_code 9 = .ok (.return_, 1) := by decide +kernel
theorem pd0 : parseMethodDescriptor "([CIILjava/lang/Void;)V" = some ⟨[(.array .char), .int, .int, (.object "java/lang/Void")], none⟩ := by decide +kernel
theorem d2_0 : decode jdk_42_method_66_code 0 = .ok (.aload_n 0, 1) := by decide +kernel
theorem d2_1 : decode jdk_42_method_66_code 1 = .ok (.aload_n 1, 1) := by decide +kernel
theorem d2_2 : decode jdk_42_method_66_code 2 = .ok (.if_acmp .ne 5, 3) := by decide +kernel
theorem d2_5 : decode jdk_42_method_66_code 5 = .ok (.iconst 1, 1) := by decide +kernel
theorem d2_6 : decode jdk_42_method_66_code 6 = .ok (.ireturn, 1) := by decide +kernel
theorem d2_7 : decode jdk_42_method_66_code 7 = .ok (.aload_n 1, 1) := by decide +kernel
theorem d2_8 : decode jdk_42_method_66_code 8 = .ok (.instanceof 10, 3) := by decide +kernel
theorem d2_11 : decode jdk_42_method_66_code 11 = .ok (.ifCond .eq 43, 3) := by decide +kernel
theorem d2_14 : decode jdk_42_method_66_code 14 = .ok (.aload_n 1, 1) := by decide +kernel
theorem d2_15 : decode jdk_42_method_66_code 15 = .ok (.checkcast 10, 3) := by decide +kernel
theorem d2_18 : decode jdk_42_method_66_code 18 = .ok (.astore_n 2, 1) := by decide +kernel
theorem d2_19 : decode jdk_42_method_66_code 19 = .ok (.getstatic 38, 3) := by decide +kernel
theorem d2_22 : decode jdk_42_method_66_code 22 = .ok (.ifCond .eq 14, 3) := by decide +kernel
theorem d2_25 : decode jdk_42_method_66_code 25 = .ok (.aload_n 0, 1) := by decide +kernel
theorem d2_26 : decode jdk_42_method_66_code 26 = .ok (.getfield 15, 3) := by decide +kernel
theorem d2_29 : decode jdk_42_method_66_code 29 = .ok (.aload_n 2, 1) := by decide +kernel
theorem d2_30 : decode jdk_42_method_66_code 30 = .ok (.getfield 15, 3) := by decide +kernel
theorem d2_33 : decode jdk_42_method_66_code 33 = .ok (.if_icmp .ne 21, 3) := by decide +kernel
theorem d2_36 : decode jdk_42_method_66_code 36 = .ok (.aload_n 0, 1) := by decide +kernel
theorem d2_37 : decode jdk_42_method_66_code 37 = .ok (.getfield 9, 3) := by decide +kernel
theorem d2_40 : decode jdk_42_method_66_code 40 = .ok (.aload_n 2, 1) := by decide +kernel
theorem d2_41 : decode jdk_42_method_66_code 41 = .ok (.getfield 9, 3) := by decide +kernel
theorem d2_44 : decode jdk_42_method_66_code 44 = .ok (.invokestatic 541, 3) := by decide +kernel
theorem d2_47 : decode jdk_42_method_66_code 47 = .ok (.ifCond .eq 7, 3) := by decide +kernel
theorem d2_50 : decode jdk_42_method_66_code 50 = .ok (.iconst 1, 1) := by decide +kernel
theorem d2_51 : decode jdk_42_method_66_code 51 = .ok (.goto 4, 3) := by decide +kernel
theorem d2_54 : decode jdk_42_method_66_code 54 = .ok (.iconst 0, 1) := by decide +kernel
theorem d2_55 : decode jdk_42_method_66_code 55 = .ok (.ireturn, 1) := by decide +kernel
theorem pn1 : plainName "java/util/Objects" = true := by first | (simp [plainName, overriddenIn]; done) | decide +kernel
theorem d3_0 : decode jdk_31_method_11_code 0 = .ok (.aload_n 0, 1) := by decide +kernel
theorem d3_1 : decode jdk_31_method_11_code 1 = .ok (.ifnonnull 12, 3) := by decide +kernel
theorem d3_4 : decode jdk_31_method_11_code 4 = .ok (.new 84, 3) := by decide +kernel
theorem d3_7 : decode jdk_31_method_11_code 7 = .ok (.dup, 1) := by decide +kernel
theorem d3_8 : decode jdk_31_method_11_code 8 = .ok (.aload_n 1, 1) := by decide +kernel
theorem d3_9 : decode jdk_31_method_11_code 9 = .ok (.invokespecial 87, 3) := by decide +kernel
theorem d3_12 : decode jdk_31_method_11_code 12 = .ok (.athrow, 1) := by decide +kernel
theorem d3_13 : decode jdk_31_method_11_code 13 = .ok (.aload_n 0, 1) := by decide +kernel
theorem d3_14 : decode jdk_31_method_11_code 14 = .ok (.areturn, 1) := by decide +kernel
theorem pn2 : plainName "java/lang/StringLatin1" = true := by first | (simp [plainName, overriddenIn]; done) | decide +kernel
theorem d4_0 : decode jdk_43_method_3_code 0 = .ok (.iload_n 0, 1) := by decide +kernel
theorem d4_1 : decode jdk_43_method_3_code 1 = .ok (.sipush 255, 3) := by decide +kernel
theorem d4_4 : decode jdk_43_method_3_code 4 = .ok (.if_icmp .gt 7, 3) := by decide +kernel
theorem d4_7 : decode jdk_43_method_3_code 7 = .ok (.iconst 1, 1) := by decide +kernel
theorem d4_8 : decode jdk_43_method_3_code 8 = .ok (.goto 4, 3) := by decide +kernel
theorem d4_11 : decode jdk_43_method_3_code 11 = .ok (.iconst 0, 1) := by decide +kernel
theorem d4_12 : decode jdk_43_method_3_code 12 = .ok (.ireturn, 1) := by decide +kernel
theorem d5_0 : decode jdk_43_method_46_code 0 = .ok (.iconst 1, 1) := by decide +kernel
theorem d5_1 : decode jdk_43_method_46_code 1 = .ok (.newarray .byte, 2) := by decide +kernel
theorem d5_3 : decode jdk_43_method_46_code 3 = .ok (.dup, 1) := by decide +kernel
theorem d5_4 : decode jdk_43_method_46_code 4 = .ok (.iconst 0, 1) := by decide +kernel
theorem d5_5 : decode jdk_43_method_46_code 5 = .ok (.iload_n 0, 1) := by decide +kernel
theorem d5_6 : decode jdk_43_method_46_code 6 = .ok (.i2b, 1) := by decide +kernel
theorem d5_7 : decode jdk_43_method_46_code 7 = .ok (.bastore, 1) := by decide +kernel
theorem d5_8 : decode jdk_43_method_46_code 8 = .ok (.areturn, 1) := by decide +kernel
theorem d6_0 : decode jdk_42_method_151_code 0 = .ok (.aload_n 0, 1) := by decide +kernel
theorem d6_1 : decode jdk_42_method_151_code 1 = .ok (.invokespecial 1, 3) := by decide +kernel
theorem d6_4 : decode jdk_42_method_151_code 4 = .ok (.aload_n 0, 1) := by decide +kernel
theorem d6_5 : decode jdk_42_method_151_code 5 = .ok (.aload_n 1, 1) := by decide +kernel
theorem d6_6 : decode jdk_42_method_151_code 6 = .ok (.putfield 9, 3) := by decide +kernel
theorem d6_9 : decode jdk_42_method_151_code 9 = .ok (.aload_n 0, 1) := by decide +kernel
theorem d6_10 : decode jdk_42_method_151_code 10 = .ok (.iload_n 2, 1) := by decide +kernel
theorem d6_11 : decode jdk_42_method_151_code 11 = .ok (.putfield 15, 3) := by decide +kernel
theorem d6_14 : decode jdk_42_method_151_code 14 = .ok (.return_, 1) := by decide +kernel
theorem d7_0 : decode jdk_42_method_139_code 0 = .ok (.getstatic 38, 3) := by decide +kernel
theorem d7_3 : decode jdk_42_method_139_code 3 = .ok (.ifCond .eq 23, 3) := by decide +kernel
theorem d7_6 : decode jdk_42_method_139_code 6 = .ok (.iload_n 0, 1) := by decide +kernel
theorem d7_7 : decode jdk_42_method_139_code 7 = .ok (.invokestatic 1015, 3) := by decide +kernel
theorem d7_10 : decode jdk_42_method_139_code 10 = .ok (.ifCond .eq 16, 3) := by decide +kernel
theorem d7_13 : decode jdk_42_method_139_code 13 = .ok (.new 10, 3) := by decide +kernel
theorem d7_16 : decode jdk_42_method_139_code 16 = .ok (.dup, 1) := by decide +kernel
theorem d7_17 : decode jdk_42_method_139_code 17 = .ok (.iload_n 0, 1) := by decide +kernel
theorem d7_18 : decode jdk_42_method_139_code 18 = .ok (.invokestatic 1018, 3) := by decide +kernel
theorem d7_21 : decode jdk_42_method_139_code 21 = .ok (.iconst 0, 1) := by decide +kernel
theorem d7_22 : decode jdk_42_method_139_code 22 = .ok (.invokespecial 209, 3) := by decide +kernel
theorem d7_25 : decode jdk_42_method_139_code 25 = .ok (.areturn, 1) := by decide +kernel
theorem d7_26 : decode jdk_42_method_139_code 26 = .ok (.new 10, 3) := by decide +kernel
theorem d7_29 : decode jdk_42_method_139_code 29 = .ok (.dup, 1) := by decide +kernel
theorem d7_30 : decode jdk_42_method_139_code 30 = .ok (.iload_n 0, 1) := by decide +kernel
theorem d7_31 : decode jdk_42_method_139_code 31 = .ok (.invokestatic 1021, 3) := by decide +kernel
theorem d7_34 : decode jdk_42_method_139_code 34 = .ok (.iconst 1, 1) := by decide +kernel
theorem d7_35 : decode jdk_42_method_139_code 35 = .ok (.invokespecial 209, 3) := by decide +kernel
theorem d7_38 : decode jdk_42_method_139_code 38 = .ok (.areturn, 1) := by decide +kernel
theorem pd1 : parseMethodDescriptor "(C)Z" = some ⟨[.char], some .boolean⟩ := by decide +kernel
theorem pd2 : parseMethodDescriptor "(C)[B" = some ⟨[.char], some (.array .byte)⟩ := by decide +kernel
theorem pd3 : parseMethodDescriptor "([BB)V" = some ⟨[(.array .byte), .byte], none⟩ := by decide +kernel
theorem pn3 : plainName "com/example/demarc/demarc/TransactionDefinitionWithPropagationPinLaw" = true := by first | (simp [plainName, overriddenIn]; done) | decide +kernel
theorem d8_0 : decode method_2_code 0 = .ok (.iload_n 0, 1) := by decide +kernel
theorem d8_1 : decode method_2_code 1 = .ok (.ldc 7, 2) := by decide +kernel
theorem d8_3 : decode method_2_code 3 = .ok (.iand, 1) := by decide +kernel
theorem d8_4 : decode method_2_code 4 = .ok (.bipush 7, 2) := by decide +kernel
theorem d8_6 : decode method_2_code 6 = .ok (.irem, 1) := by decide +kernel
theorem d8_7 : decode method_2_code 7 = .ok (.istore_n 1, 1) := by decide +kernel
theorem d8_8 : decode method_2_code 8 = .ok (.iload_n 1, 1) := by decide +kernel
theorem d8_9 : decode method_2_code 9 = .ok (.ifCond .ne 7, 3) := by decide +kernel
theorem d8_12 : decode method_2_code 12 = .ok (.getstatic 8, 3) := by decide +kernel
theorem d8_15 : decode method_2_code 15 = .ok (.areturn, 1) := by decide +kernel
theorem d8_16 : decode method_2_code 16 = .ok (.iload_n 1, 1) := by decide +kernel
theorem d8_17 : decode method_2_code 17 = .ok (.iconst 1, 1) := by decide +kernel
theorem d8_18 : decode method_2_code 18 = .ok (.if_icmp .ne 7, 3) := by decide +kernel
theorem d8_21 : decode method_2_code 21 = .ok (.getstatic 14, 3) := by decide +kernel
theorem d8_24 : decode method_2_code 24 = .ok (.areturn, 1) := by decide +kernel
theorem d8_25 : decode method_2_code 25 = .ok (.iload_n 1, 1) := by decide +kernel
theorem d8_26 : decode method_2_code 26 = .ok (.iconst 2, 1) := by decide +kernel
theorem d8_27 : decode method_2_code 27 = .ok (.if_icmp .ne 7, 3) := by decide +kernel
theorem d8_30 : decode method_2_code 30 = .ok (.getstatic 17, 3) := by decide +kernel
theorem d8_33 : decode method_2_code 33 = .ok (.areturn, 1) := by decide +kernel
theorem d8_34 : decode method_2_code 34 = .ok (.iload_n 1, 1) := by decide +kernel
theorem d8_35 : decode method_2_code 35 = .ok (.iconst 3, 1) := by decide +kernel
theorem d8_36 : decode method_2_code 36 = .ok (.if_icmp .ne 7, 3) := by decide +kernel
theorem d8_39 : decode method_2_code 39 = .ok (.getstatic 20, 3) := by decide +kernel
theorem d8_42 : decode method_2_code 42 = .ok (.areturn, 1) := by decide +kernel
theorem d8_43 : decode method_2_code 43 = .ok (.iload_n 1, 1) := by decide +kernel
theorem d8_44 : decode method_2_code 44 = .ok (.iconst 4, 1) := by decide +kernel
theorem d8_45 : decode method_2_code 45 = .ok (.if_icmp .ne 7, 3) := by decide +kernel
theorem d8_48 : decode method_2_code 48 = .ok (.getstatic 23, 3) := by decide +kernel
theorem d8_51 : decode method_2_code 51 = .ok (.areturn, 1) := by decide +kernel
theorem d8_52 : decode method_2_code 52 = .ok (.iload_n 1, 1) := by decide +kernel
theorem d8_53 : decode method_2_code 53 = .ok (.iconst 5, 1) := by decide +kernel
theorem d8_54 : decode method_2_code 54 = .ok (.if_icmp .ne 7, 3) := by decide +kernel
theorem d8_57 : decode method_2_code 57 = .ok (.getstatic 26, 3) := by decide +kernel
theorem d8_60 : decode method_2_code 60 = .ok (.areturn, 1) := by decide +kernel
theorem d8_61 : decode method_2_code 61 = .ok (.getstatic 29, 3) := by decide +kernel
theorem d8_64 : decode method_2_code 64 = .ok (.areturn, 1) := by decide +kernel
theorem d9_0 : decode method_3_code 0 = .ok (.iload_n 0, 1) := by decide +kernel
theorem d9_1 : decode method_3_code 1 = .ok (.ldc 7, 2) := by decide +kernel
theorem d9_3 : decode method_3_code 3 = .ok (.iand, 1) := by decide +kernel
theorem d9_4 : decode method_3_code 4 = .ok (.iconst 5, 1) := by decide +kernel
theorem d9_5 : decode method_3_code 5 = .ok (.irem, 1) := by decide +kernel
theorem d9_6 : decode method_3_code 6 = .ok (.istore_n 1, 1) := by decide +kernel
theorem d9_7 : decode method_3_code 7 = .ok (.iload_n 1, 1) := by decide +kernel
theorem d9_8 : decode method_3_code 8 = .ok (.ifCond .ne 7, 3) := by decide +kernel
theorem d9_11 : decode method_3_code 11 = .ok (.getstatic 32, 3) := by decide +kernel
theorem d9_14 : decode method_3_code 14 = .ok (.areturn, 1) := by decide +kernel
theorem d9_15 : decode method_3_code 15 = .ok (.iload_n 1, 1) := by decide +kernel
theorem d9_16 : decode method_3_code 16 = .ok (.iconst 1, 1) := by decide +kernel
theorem d9_17 : decode method_3_code 17 = .ok (.if_icmp .ne 7, 3) := by decide +kernel
theorem d9_20 : decode method_3_code 20 = .ok (.getstatic 38, 3) := by decide +kernel
theorem d9_23 : decode method_3_code 23 = .ok (.areturn, 1) := by decide +kernel
theorem d9_24 : decode method_3_code 24 = .ok (.iload_n 1, 1) := by decide +kernel
theorem d9_25 : decode method_3_code 25 = .ok (.iconst 2, 1) := by decide +kernel
theorem d9_26 : decode method_3_code 26 = .ok (.if_icmp .ne 7, 3) := by decide +kernel
theorem d9_29 : decode method_3_code 29 = .ok (.getstatic 41, 3) := by decide +kernel
theorem d9_32 : decode method_3_code 32 = .ok (.areturn, 1) := by decide +kernel
theorem d9_33 : decode method_3_code 33 = .ok (.iload_n 1, 1) := by decide +kernel
theorem d9_34 : decode method_3_code 34 = .ok (.iconst 3, 1) := by decide +kernel
theorem d9_35 : decode method_3_code 35 = .ok (.if_icmp .ne 7, 3) := by decide +kernel
theorem d9_38 : decode method_3_code 38 = .ok (.getstatic 44, 3) := by decide +kernel
theorem d9_41 : decode method_3_code 41 = .ok (.areturn, 1) := by decide +kernel
theorem d9_42 : decode method_3_code 42 = .ok (.getstatic 47, 3) := by decide +kernel
theorem d9_45 : decode method_3_code 45 = .ok (.areturn, 1) := by decide +kernel
theorem pn4 : plainName "java/lang/Record" = true := by first | (simp [plainName, overriddenIn]; done) | decide +kernel
theorem d10_0 : decode jdk_30_method_1_code 0 = .ok (.aload_n 0, 1) := by decide +kernel
theorem d10_1 : decode jdk_30_method_1_code 1 = .ok (.invokespecial 1, 3) := by decide +kernel
theorem d10_4 : decode jdk_30_method_1_code 4 = .ok (.return_, 1) := by decide +kernel
theorem pn5 : plainName "com/example/demarc/demarc/TransactionDefinition" = true := by first | (simp [plainName, overriddenIn]; done) | decide +kernel
theorem d11_0 : decode prog_9_method_1_code 0 = .ok (.aload_n 0, 1) := by decide +kernel
theorem d11_1 : decode prog_9_method_1_code 1 = .ok (.invokespecial 1, 3) := by decide +kernel
theorem d11_4 : decode prog_9_method_1_code 4 = .ok (.aload_n 1, 1) := by decide +kernel
theorem d11_5 : decode prog_9_method_1_code 5 = .ok (.ldc 7, 2) := by decide +kernel
theorem d11_7 : decode prog_9_method_1_code 7 = .ok (.invokestatic 9, 3) := by decide +kernel
theorem d11_10 : decode prog_9_method_1_code 10 = .ok (.pop, 1) := by decide +kernel
theorem d11_11 : decode prog_9_method_1_code 11 = .ok (.aload_n 2, 1) := by decide +kernel
theorem d11_12 : decode prog_9_method_1_code 12 = .ok (.ldc 15, 2) := by decide +kernel
theorem d11_14 : decode prog_9_method_1_code 14 = .ok (.invokestatic 9, 3) := by decide +kernel
theorem d11_17 : decode prog_9_method_1_code 17 = .ok (.pop, 1) := by decide +kernel
theorem d11_18 : decode prog_9_method_1_code 18 = .ok (.iload_n 3, 1) := by decide +kernel
theorem d11_19 : decode prog_9_method_1_code 19 = .ok (.ifCond .gt 22, 3) := by decide +kernel
theorem d11_22 : decode prog_9_method_1_code 22 = .ok (.iload_n 3, 1) := by decide +kernel
theorem d11_23 : decode prog_9_method_1_code 23 = .ok (.iconst (-1), 1) := by decide +kernel
theorem d11_24 : decode prog_9_method_1_code 24 = .ok (.if_icmp .eq 17, 3) := by decide +kernel
theorem d11_27 : decode prog_9_method_1_code 27 = .ok (.new 19, 3) := by decide +kernel
theorem d11_30 : decode prog_9_method_1_code 30 = .ok (.dup, 1) := by decide +kernel
theorem d11_31 : decode prog_9_method_1_code 31 = .ok (.iload_n 3, 1) := by decide +kernel
theorem d11_32 : decode prog_9_method_1_code 32 = .ok (.invokedynamic 21, 5) := by decide +kernel
theorem d11_37 : decode prog_9_method_1_code 37 = .ok (.invokespecial 25, 3) := by decide +kernel
theorem d11_40 : decode prog_9_method_1_code 40 = .ok (.athrow, 1) := by decide +kernel
theorem d11_41 : decode prog_9_method_1_code 41 = .ok (.aload_n 0, 1) := by decide +kernel
theorem d11_42 : decode prog_9_method_1_code 42 = .ok (.aload_n 1, 1) := by decide +kernel
theorem d11_43 : decode prog_9_method_1_code 43 = .ok (.putfield 28, 3) := by decide +kernel
theorem d11_46 : decode prog_9_method_1_code 46 = .ok (.aload_n 0, 1) := by decide +kernel
theorem d11_47 : decode prog_9_method_1_code 47 = .ok (.aload_n 2, 1) := by decide +kernel
theorem d11_48 : decode prog_9_method_1_code 48 = .ok (.putfield 31, 3) := by decide +kernel
theorem d11_51 : decode prog_9_method_1_code 51 = .ok (.aload_n 0, 1) := by decide +kernel
theorem d11_52 : decode prog_9_method_1_code 52 = .ok (.iload_n 3, 1) := by decide +kernel
theorem d11_53 : decode prog_9_method_1_code 53 = .ok (.putfield 34, 3) := by decide +kernel
theorem d11_56 : decode prog_9_method_1_code 56 = .ok (.aload_n 0, 1) := by decide +kernel
theorem d11_57 : decode prog_9_method_1_code 57 = .ok (.iload 4, 2) := by decide +kernel
theorem d11_59 : decode prog_9_method_1_code 59 = .ok (.putfield 38, 3) := by decide +kernel
theorem d11_62 : decode prog_9_method_1_code 62 = .ok (.aload_n 0, 1) := by decide +kernel
theorem d11_63 : decode prog_9_method_1_code 63 = .ok (.aload 5, 2) := by decide +kernel
theorem d11_65 : decode prog_9_method_1_code 65 = .ok (.putfield 42, 3) := by decide +kernel
theorem d11_68 : decode prog_9_method_1_code 68 = .ok (.return_, 1) := by decide +kernel
theorem pd4 : parseMethodDescriptor "()V" = some ⟨[], none⟩ := by decide +kernel
theorem pd5 : parseMethodDescriptor "(Ljava/lang/Object;Ljava/lang/String;)Ljava/lang/Object;" = some ⟨[(.object "java/lang/Object"), (.object "java/lang/String")], some (.object "java/lang/Object")⟩ := by decide +kernel
theorem d12_0 : decode prog_9_method_2_code 0 = .ok (.new 17, 3) := by decide +kernel
theorem d12_3 : decode prog_9_method_2_code 3 = .ok (.dup, 1) := by decide +kernel
theorem d12_4 : decode prog_9_method_2_code 4 = .ok (.aload_n 1, 1) := by decide +kernel
theorem d12_5 : decode prog_9_method_2_code 5 = .ok (.aload_n 0, 1) := by decide +kernel
theorem d12_6 : decode prog_9_method_2_code 6 = .ok (.getfield 31, 3) := by decide +kernel
theorem d12_9 : decode prog_9_method_2_code 9 = .ok (.aload_n 0, 1) := by decide +kernel
theorem d12_10 : decode prog_9_method_2_code 10 = .ok (.getfield 34, 3) := by decide +kernel
theorem d12_13 : decode prog_9_method_2_code 13 = .ok (.aload_n 0, 1) := by decide +kernel
theorem d12_14 : decode prog_9_method_2_code 14 = .ok (.getfield 38, 3) := by decide +kernel
theorem d12_17 : decode prog_9_method_2_code 17 = .ok (.aload_n 0, 1) := by decide +kernel
theorem d12_18 : decode prog_9_method_2_code 18 = .ok (.getfield 42, 3) := by decide +kernel
theorem d12_21 : decode prog_9_method_2_code 21 = .ok (.invokespecial 46, 3) := by decide +kernel
theorem d12_24 : decode prog_9_method_2_code 24 = .ok (.areturn, 1) := by decide +kernel
theorem pd6 : parseMethodDescriptor "(Lcom/example/demarc/demarc/Propagation;Lcom/example/demarc/demarc/Isolation;IZLjava/lang/String;)V" = some ⟨[(.object "com/example/demarc/demarc/Propagation"), (.object "com/example/demarc/demarc/Isolation"), .int, .boolean, (.object "java/lang/String")], none⟩ := by decide +kernel
theorem d13_0 : decode prog_9_method_10_code 0 = .ok (.aload_n 0, 1) := by decide +kernel
theorem d13_1 : decode prog_9_method_10_code 1 = .ok (.getfield 28, 3) := by decide +kernel
theorem d13_4 : decode prog_9_method_10_code 4 = .ok (.areturn, 1) := by decide +kernel
theorem d14_0 : decode prog_9_method_11_code 0 = .ok (.aload_n 0, 1) := by decide +kernel
theorem d14_1 : decode prog_9_method_11_code 1 = .ok (.getfield 31, 3) := by decide +kernel
theorem d14_4 : decode prog_9_method_11_code 4 = .ok (.areturn, 1) := by decide +kernel
theorem d15_0 : decode prog_9_method_12_code 0 = .ok (.aload_n 0, 1) := by decide +kernel
theorem d15_1 : decode prog_9_method_12_code 1 = .ok (.getfield 34, 3) := by decide +kernel
theorem d15_4 : decode prog_9_method_12_code 4 = .ok (.ireturn, 1) := by decide +kernel
theorem d16_0 : decode prog_9_method_13_code 0 = .ok (.aload_n 0, 1) := by decide +kernel
theorem d16_1 : decode prog_9_method_13_code 1 = .ok (.getfield 38, 3) := by decide +kernel
theorem d16_4 : decode prog_9_method_13_code 4 = .ok (.ireturn, 1) := by decide +kernel
theorem d17_0 : decode prog_9_method_14_code 0 = .ok (.aload_n 0, 1) := by decide +kernel
theorem d17_1 : decode prog_9_method_14_code 1 = .ok (.getfield 42, 3) := by decide +kernel
theorem d17_4 : decode prog_9_method_14_code 4 = .ok (.areturn, 1) := by decide +kernel
theorem d18_0 : decode method_4_code 0 = .ok (.iload_n 0, 1) := by decide +kernel
theorem d18_1 : decode method_4_code 1 = .ok (.ifCond .ne 5, 3) := by decide +kernel
theorem d18_4 : decode method_4_code 4 = .ok (.aconst_null, 1) := by decide +kernel
theorem d18_5 : decode method_4_code 5 = .ok (.areturn, 1) := by decide +kernel
theorem d18_6 : decode method_4_code 6 = .ok (.iload_n 0, 1) := by decide +kernel
theorem d18_7 : decode method_4_code 7 = .ok (.iconst 1, 1) := by decide +kernel
theorem d18_8 : decode method_4_code 8 = .ok (.if_icmp .ne 14, 3) := by decide +kernel
theorem d18_11 : decode method_4_code 11 = .ok (.new 50, 3) := by decide +kernel
theorem d18_14 : decode method_4_code 14 = .ok (.dup, 1) := by decide +kernel
theorem d18_15 : decode method_4_code 15 = .ok (.iconst 0, 1) := by decide +kernel
theorem d18_16 : decode method_4_code 16 = .ok (.newarray .char, 2) := by decide +kernel
theorem d18_18 : decode method_4_code 18 = .ok (.invokespecial 52, 3) := by decide +kernel
theorem d18_21 : decode method_4_code 21 = .ok (.areturn, 1) := by decide +kernel
theorem d18_22 : decode method_4_code 22 = .ok (.iload_n 0, 1) := by decide +kernel
theorem d18_23 : decode method_4_code 23 = .ok (.iconst 2, 1) := by decide +kernel
theorem d18_24 : decode method_4_code 24 = .ok (.if_icmp .ne 13, 3) := by decide +kernel
theorem d18_27 : decode method_4_code 27 = .ok (.iload_n 1, 1) := by decide +kernel
theorem d18_28 : decode method_4_code 28 = .ok (.sipush 255, 3) := by decide +kernel
theorem d18_31 : decode method_4_code 31 = .ok (.iand, 1) := by decide +kernel
theorem d18_32 : decode method_4_code 32 = .ok (.i2c, 1) := by decide +kernel
theorem d18_33 : decode method_4_code 33 = .ok (.invokestatic 55, 3) := by decide +kernel
theorem d18_36 : decode method_4_code 36 = .ok (.areturn, 1) := by decide +kernel
theorem d18_37 : decode method_4_code 37 = .ok (.new 50, 3) := by decide +kernel
theorem d18_40 : decode method_4_code 40 = .ok (.dup, 1) := by decide +kernel
theorem d18_41 : decode method_4_code 41 = .ok (.iconst 2, 1) := by decide +kernel
theorem d18_42 : decode method_4_code 42 = .ok (.newarray .char, 2) := by decide +kernel
theorem d18_44 : decode method_4_code 44 = .ok (.dup, 1) := by decide +kernel
theorem d18_45 : decode method_4_code 45 = .ok (.iconst 0, 1) := by decide +kernel
theorem d18_46 : decode method_4_code 46 = .ok (.iload_n 1, 1) := by decide +kernel
theorem d18_47 : decode method_4_code 47 = .ok (.sipush 255, 3) := by decide +kernel
theorem d18_50 : decode method_4_code 50 = .ok (.iand, 1) := by decide +kernel
theorem d18_51 : decode method_4_code 51 = .ok (.i2c, 1) := by decide +kernel
theorem d18_52 : decode method_4_code 52 = .ok (.castore, 1) := by decide +kernel
theorem d18_53 : decode method_4_code 53 = .ok (.dup, 1) := by decide +kernel
theorem d18_54 : decode method_4_code 54 = .ok (.iconst 1, 1) := by decide +kernel
theorem d18_55 : decode method_4_code 55 = .ok (.iload_n 1, 1) := by decide +kernel
theorem d18_56 : decode method_4_code 56 = .ok (.bipush 8, 2) := by decide +kernel
theorem d18_58 : decode method_4_code 58 = .ok (.iushr, 1) := by decide +kernel
theorem d18_59 : decode method_4_code 59 = .ok (.sipush 255, 3) := by decide +kernel
theorem d18_62 : decode method_4_code 62 = .ok (.iand, 1) := by decide +kernel
theorem d18_63 : decode method_4_code 63 = .ok (.i2c, 1) := by decide +kernel
theorem d18_64 : decode method_4_code 64 = .ok (.castore, 1) := by decide +kernel
theorem d18_65 : decode method_4_code 65 = .ok (.invokespecial 52, 3) := by decide +kernel
theorem d18_68 : decode method_4_code 68 = .ok (.areturn, 1) := by decide +kernel
theorem pd7 : parseMethodDescriptor "([C)V" = some ⟨[(.array .char)], none⟩ := by decide +kernel
theorem pd8 : parseMethodDescriptor "(C)Ljava/lang/String;" = some ⟨[.char], some (.object "java/lang/String")⟩ := by decide +kernel
theorem pd9 : parseMethodDescriptor "(I)Lcom/example/demarc/demarc/Propagation;" = some ⟨[.int], some (.object "com/example/demarc/demarc/Propagation")⟩ := by decide +kernel
theorem pd10 : parseMethodDescriptor "(I)Lcom/example/demarc/demarc/Isolation;" = some ⟨[.int], some (.object "com/example/demarc/demarc/Isolation")⟩ := by decide +kernel
theorem pd11 : parseMethodDescriptor "(II)Ljava/lang/String;" = some ⟨[.int, .int], some (.object "java/lang/String")⟩ := by decide +kernel
theorem pd12 : parseMethodDescriptor "(Lcom/example/demarc/demarc/Propagation;)Lcom/example/demarc/demarc/TransactionDefinition;" = some ⟨[(.object "com/example/demarc/demarc/Propagation")], some (.object "com/example/demarc/demarc/TransactionDefinition")⟩ := by decide +kernel
theorem pd13 : parseMethodDescriptor "()Ljava/lang/String;" = some ⟨[], some (.object "java/lang/String")⟩ := by decide +kernel
theorem pd14 : parseMethodDescriptor "(Ljava/lang/Object;)Z" = some ⟨[(.object "java/lang/Object")], some .boolean⟩ := by decide +kernel
theorem pd15 : parseMethodDescriptor "()Lcom/example/demarc/demarc/Propagation;" = some ⟨[], some (.object "com/example/demarc/demarc/Propagation")⟩ := by decide +kernel
theorem pd16 : parseMethodDescriptor "()Lcom/example/demarc/demarc/Isolation;" = some ⟨[], some (.object "com/example/demarc/demarc/Isolation")⟩ := by decide +kernel
theorem pd17 : parseMethodDescriptor "()I" = some ⟨[], some .int⟩ := by decide +kernel
theorem pd18 : parseMethodDescriptor "()Z" = some ⟨[], some .boolean⟩ := by decide +kernel
abbrev EL0 : List (String × Nat) := consts_1
theorem hEL0 {Z : State} {a0 : Array Value} (hw : ∀ d ∈ tables_1, d.before a0 Z = true) : EW Z a0 EL0 := EW.cons (own := "com/example/demarc/demarc/TransactionDefinition") (index := 7) (hw _ (List.mem_of_getElem? (i := 33) rfl)) (by decide) (EW.cons (own := "com/example/demarc/demarc/TransactionDefinition") (index := 15) (hw _ (List.mem_of_getElem? (i := 45) rfl)) (by decide) (EW.cons (own := "java/lang/String") (index := 7) (hw _ (List.mem_of_getElem? (i := 146) rfl)) (by decide) (EW.nil)))
theorem narO {v : Value} (h : v.isRef = true) (C : String) : narrow (.object C) v = v ∧ fits (.object C) v = true := by
  rcases ref_cases h with rfl | ⟨a, rfl⟩ <;> exact ⟨rfl, rfl⟩
theorem narZ {r : Int32} (h : r = 0 ∨ r = 1) : narrow .boolean (.int r) = .int r ∧ fits .boolean (.int r) = true := by
  rcases h with rfl | rfl <;> exact ⟨rfl, rfl⟩
theorem acRefl (v : Value) : XT.acmp .ne v v = false ∧ XT.acmp .eq v v = true := by simp [XT.acmp]
set_option maxRecDepth 65536 in
set_option maxHeartbeats 40000000 in
theorem rm_s2 {l : Launch} {Z : State} {a0 : Array Value} (hw : ∀ d ∈ tables_1, d.before a0 Z = true) {G1 : Int32} {G3 : Value} (O2 : Sta Z Z.heap "java/lang/String" "COMPACT_STRINGS" "Z" (.int G1)) (P5 : ¬ G1 = 0) (O4 : Sta Z Z.heap "jdk/internal/util/Preconditions" "SIOOBE_FORMATTER" "Ljava/util/function/BiFunction;" G3) (rG3 : G3.isRef = true) (PS : ∀ n ∈ ["REQUIRED", "SUPPORTS", "MANDATORY", "REQUIRES_NEW", "NOT_SUPPORTED", "NEVER", "NESTED"], ∃ r, Sta Z Z.heap "com/example/demarc/demarc/Propagation" n "Lcom/example/demarc/demarc/Propagation;" (.ref r)) (IS : ∀ n ∈ ["DEFAULT", "READ_UNCOMMITTED", "READ_COMMITTED", "REPEATABLE_READ", "SERIALIZABLE"], ∃ r, Sta Z Z.heap "com/example/demarc/demarc/Isolation" n "Lcom/example/demarc/demarc/Isolation;" (.ref r)) {h : Heap} (O : Ext Z.heap h) {a b : Addr} {v1 v2 : Value} (Aa : Exa Z h a "java/lang/String") (Fa_value : Fld Z h a "java/lang/String" "value" "[B" v1) (Fa_coder : Fld Z h a "java/lang/String" "coder" "B" v2) (na : Z.heap.size ≤ a) :
    Ctr l Z EL0 (⟨"java/lang/String", "<init>", "([CIILjava/lang/Void;)V"⟩ : MethodName) jdk_42_method_149_code 6 none [] ({ frames := 1, cells := 4, slots := 8, locals := 14 } : Room) #[(.ref a), (.ref b), (.int (0 : Int32)), (.int (0 : Int32)), .null] h [a] (fun v h' => v = none ∧ Keep h h' [a] ∧ Str Z h' a []) := by
  refine Ctr.of pn0 O ?_
  intro p e s m below meth c s₁ hret hlk hnm X
  have hEL := hEL0 hw
  have KX : Keep h h [a] := Keep.refl _ _
  replace X := X.cast (g' := (mkF m 0 #[.val (.ref a), .val (.ref b), .val (.int (0 : Int32)), .val (.int (0 : Int32)), .val .null, .unset] [])) (by first | (simp [entryFrame, mkF, argsToLocals, Value.category]; done) | rfl)
  replace X := X.aload_n (q := 1) d0_0 rfl rfl rfl
  replace X := X.initObj (q := 4) (hw _ (List.mem_of_getElem? (i := 112) rfl)) (hw _ (List.mem_of_getElem? (i := 31) rfl)) (hw _ (List.mem_of_getElem? (i := 32) rfl)) rfl d0_1 (by decide) (by decide) rfl
  replace X := X.iload_n (q := 5) d0_4 rfl rfl
  replace X := X.ifNo (q := 8) d0_5 (teq rfl).2 rfl
  replace X := X.aload_n (q := 9) d0_8 rfl rfl rfl
  obtain ⟨c1, hp1, tc1, kc1, E2, Ac1, Cc1, Vc1, Tc1, Nc1, X⟩ := X.ldcR (q := 11) hEL (List.mem_of_getElem? (i := 2) rfl) (hw _ (List.mem_of_getElem? (i := 146) rfl)) (wS_of hw) (vs := (([] : List Int32).map (fun c => c.toInt8.toInt32)).map Value.int) (z := Int32.ofNat 0) ⟨by decide, by decide +kernel⟩ (by decide) (by decide) d0_9 (n := 0) (by decide) (by first | decide | exact Nat.le_of_ble_eq_true rfl) (by decide) (by decide) rfl
  replace KX := KX.ext E2
  replace Aa := Aa.ext E2
  replace Fa_value := Fa_value.ext E2
  replace Fa_coder := Fa_coder.ext E2
  have Sc1 : Str Z hp1 c1 ([] : List Int32) := ⟨by decide, by decide, Ac1, Cc1, tc1, kc1, Vc1, Tc1⟩
  have ne_c1_a : c1 ≠ a := Ne.symm (Nc1 a (by simp)).1
  have ne_tc1_a : tc1 ≠ a := Ne.symm (Nc1 a (by simp)).2
  replace X := X.getfield (q := 14) (hw _ (List.mem_of_getElem? (i := 113) rfl)) Vc1 d0_11 rfl
  obtain ⟨hp3, W4, X⟩ := X.putfieldS (q := 17) (hw _ (List.mem_of_getElem? (i := 113) rfl)) Fa_value Aa (Or.inr ⟨(hw _ (List.mem_of_getElem? (i := 37) rfl)), rfl, hnm⟩) (hw _ (List.mem_of_getElem? (i := 35) rfl)) (ty := (.array .byte)) (by decide) rfl rfl na (fun vm _ hs => hs a (by simp)) d0_14 rfl
  replace KX := KX.wr W4 (Or.inl (by simp))
  replace Aa := Aa.wr W4
  replace Fa_value := Fa_value.same W4
  replace Fa_coder := Fa_coder.other W4 (Or.inr (RoadKit.slot_ne (Or.inr (hw _ (List.mem_of_getElem? (i := 38) rfl))) (Or.inr (hw _ (List.mem_of_getElem? (i := 37) rfl))) (by decide) (t := .byte) (t' := (.array .byte)) (by decide) (by decide)))
  replace Tc1 := Tc1.other W4 ne_tc1_a
  replace X := X.aload_n (q := 18) d0_17 rfl rfl rfl
  obtain ⟨c2, hp5, tc2, kc2, E6, Ac2, Cc2, Vc2, Tc2, Nc2, X⟩ := X.ldcR (q := 20) hEL (List.mem_of_getElem? (i := 2) rfl) (hw _ (List.mem_of_getElem? (i := 146) rfl)) (wS_of hw) (vs := (([] : List Int32).map (fun c => c.toInt8.toInt32)).map Value.int) (z := Int32.ofNat 0) ⟨by decide, by decide +kernel⟩ (by decide) (by decide) d0_18 (n := 0) (by decide) (by first | decide | exact Nat.le_of_ble_eq_true rfl) (by decide) (by decide) rfl
  replace KX := KX.ext E6
  replace Aa := Aa.ext E6
  replace Fa_value := Fa_value.ext E6
  replace Fa_coder := Fa_coder.ext E6
  replace Tc1 := Tc1.ext E6
  have Sc2 : Str Z hp5 c2 ([] : List Int32) := ⟨by decide, by decide, Ac2, Cc2, tc2, kc2, Vc2, Tc2⟩
  replace X := X.getfield (q := 23) (hw _ (List.mem_of_getElem? (i := 114) rfl)) Cc2 d0_20 rfl
  obtain ⟨hp7, W8, X⟩ := X.putfieldS (q := 26) (hw _ (List.mem_of_getElem? (i := 114) rfl)) Fa_coder Aa (Or.inr ⟨(hw _ (List.mem_of_getElem? (i := 38) rfl)), rfl, hnm⟩) (hw _ (List.mem_of_getElem? (i := 35) rfl)) (ty := .byte) (by decide) rfl rfl na (fun vm _ hs => hs a (by simp)) d0_23 rfl
  replace KX := KX.wr W8 (Or.inl (by simp))
  replace Aa := Aa.wr W8
  replace Fa_coder := Fa_coder.same W8
  replace Fa_value := Fa_value.other W8 (Or.inr (RoadKit.slot_ne (Or.inr (hw _ (List.mem_of_getElem? (i := 37) rfl))) (Or.inr (hw _ (List.mem_of_getElem? (i := 38) rfl))) (by decide) (t := (.array .byte)) (t' := .byte) (by decide) (by decide)))
  replace Tc1 := Tc1.other W8 ne_tc1_a
  exact X.ret hEL hret hlk d0_26 (by decide) (by decide) ⟨rfl, KX, by decide, (fun _ q => nomatch q), Aa, Fa_coder, tc1, kc1, Fa_value, Tc1⟩
set_option maxRecDepth 65536 in
set_option maxHeartbeats 40000000 in
theorem rm_s1 {l : Launch} {Z : State} {a0 : Array Value} (hw : ∀ d ∈ tables_1, d.before a0 Z = true) {G1 : Int32} {G3 : Value} (O2 : Sta Z Z.heap "java/lang/String" "COMPACT_STRINGS" "Z" (.int G1)) (P5 : ¬ G1 = 0) (O4 : Sta Z Z.heap "jdk/internal/util/Preconditions" "SIOOBE_FORMATTER" "Ljava/util/function/BiFunction;" G3) (rG3 : G3.isRef = true) (PS : ∀ n ∈ ["REQUIRED", "SUPPORTS", "MANDATORY", "REQUIRES_NEW", "NOT_SUPPORTED", "NEVER", "NESTED"], ∃ r, Sta Z Z.heap "com/example/demarc/demarc/Propagation" n "Lcom/example/demarc/demarc/Propagation;" (.ref r)) (IS : ∀ n ∈ ["DEFAULT", "READ_UNCOMMITTED", "READ_COMMITTED", "REPEATABLE_READ", "SERIALIZABLE"], ∃ r, Sta Z Z.heap "com/example/demarc/demarc/Isolation" n "Lcom/example/demarc/demarc/Isolation;" (.ref r)) {h : Heap} (O : Ext Z.heap h) {a b : Addr} {v1 v2 : Value} (Aa : Exa Z h a "java/lang/String") (Fa_value : Fld Z h a "java/lang/String" "value" "[B" v1) (Fa_coder : Fld Z h a "java/lang/String" "coder" "B" v2) (na : Z.heap.size ≤ a) {kb : ClassId} {vs : List Value} {dv : Value} (Vb : Arv Z h b kb .char (0 : Int32) vs dv) :
    Ctr l Z EL0 (⟨"java/lang/String", "<init>", "([C)V"⟩ : MethodName) jdk_42_method_3_code 2 none [] ({ frames := 2, cells := 4, slots := 8, locals := 31 } : Room) #[(.ref a), (.ref b)] h [a] (fun v h' => v = none ∧ Keep h h' [a] ∧ Str Z h' a []) := by
  refine Ctr.of pn0 O ?_
  intro p e s m below meth c s₁ hret hlk hnm X
  have hEL := hEL0 hw
  have KX : Keep h h [a] := Keep.refl _ _
  replace X := X.cast (g' := (mkF m 0 #[.val (.ref a), .val (.ref b)] [])) (by first | (simp [entryFrame, mkF, argsToLocals, Value.category]; done) | rfl)
  replace X := X.aload_n (q := 1) d1_0 rfl rfl rfl
  replace X := X.aload_n (q := 2) d1_1 rfl rfl rfl
  replace X := X.iconst (q := 3) (z := (0 : Int32)) d1_2 rfl rfl
  replace X := X.aload_n (q := 4) d1_3 rfl rfl rfl
  replace X := X.arraylength (q := 5) Vb d1_4 rfl
  replace X := X.aconst_null (q := 6) d1_5 rfl
  obtain ⟨_, hp1, ⟨rfl, K1, S⟩, X⟩ := X.callI (q := 9) (rm_s2 hw O2 P5 O4 rG3 PS IS X.old (b := b) Aa Fa_value Fa_coder na) hEL (by simp) rfl (hw _ (List.mem_of_getElem? (i := 127) rfl)) (hw _ (List.mem_of_getElem? (i := 128) rfl)) (hw _ (List.mem_of_getElem? (i := 34) rfl)) (hw _ (List.mem_of_getElem? (i := 129) rfl)) (by decide) pd0 (a := a) (argsL := [(.ref b), (.int (0 : Int32)), (.int (0 : Int32)), .null]) (rest := []) rfl rfl rfl rfl d1_6 (by decide) (by first | decide | exact Nat.le_of_ble_eq_true rfl) (by decide) (by decide) rfl
  replace X := X [] rfl
  exact X.ret hEL hret hlk d1_9 (by decide) (by decide) ⟨rfl, K1, S⟩
set_option maxRecDepth 65536 in
set_option maxHeartbeats 40000000 in
theorem rm_eq {l : Launch} {Z : State} {a0 : Array Value} (hw : ∀ d ∈ tables_1, d.before a0 Z = true) {G1 : Int32} {G3 : Value} (O2 : Sta Z Z.heap "java/lang/String" "COMPACT_STRINGS" "Z" (.int G1)) (P5 : ¬ G1 = 0) (O4 : Sta Z Z.heap "jdk/internal/util/Preconditions" "SIOOBE_FORMATTER" "Ljava/util/function/BiFunction;" G3) (rG3 : G3.isRef = true) (PS : ∀ n ∈ ["REQUIRED", "SUPPORTS", "MANDATORY", "REQUIRES_NEW", "NOT_SUPPORTED", "NEVER", "NESTED"], ∃ r, Sta Z Z.heap "com/example/demarc/demarc/Propagation" n "Lcom/example/demarc/demarc/Propagation;" (.ref r)) (IS : ∀ n ∈ ["DEFAULT", "READ_UNCOMMITTED", "READ_COMMITTED", "REPEATABLE_READ", "SERIALIZABLE"], ∃ r, Sta Z Z.heap "com/example/demarc/demarc/Isolation" n "Lcom/example/demarc/demarc/Isolation;" (.ref r)) {h : Heap} (O : Ext Z.heap h) {a : Addr} :
    Ctr l Z EL0 (⟨"java/lang/String", "equals", "(Ljava/lang/Object;)Z"⟩ : MethodName) jdk_42_method_66_code 3 (some .boolean) [] ({ frames := 0, cells := 0, slots := 0, locals := 0 } : Room) #[(.ref a), (.ref a)] h [] (fun v h' => v = some (.int 1) ∧ h = h') := by
  refine Ctr.of pn0 O ?_
  intro p e s m below meth c s₁ hret hlk hnm X
  have hEL := hEL0 hw
  have KX : Keep h h [] := Keep.refl _ _
  replace X := X.cast (g' := (mkF m 0 #[.val (.ref a), .val (.ref a), .unset] [])) (by first | (simp [entryFrame, mkF, argsToLocals, Value.category]; done) | rfl)
  replace X := X.aload_n (q := 1) d2_0 rfl rfl rfl
  replace X := X.aload_n (q := 2) d2_1 rfl rfl rfl
  replace X := X.acmpNo (q := 5) d2_2 rfl rfl (by simp [XT.acmp]) rfl
  replace X := X.iconst (q := 6) (z := (1 : Int32)) d2_5 rfl rfl
  exact X.ireturn hEL hret (Or.inr (Or.inl rfl)) rfl hlk d2_6 (by decide) (by decide) ⟨rfl, rfl⟩
set_option maxRecDepth 65536 in
set_option maxHeartbeats 40000000 in
theorem rm_rnn {l : Launch} {Z : State} {a0 : Array Value} (hw : ∀ d ∈ tables_1, d.before a0 Z = true) {G1 : Int32} {G3 : Value} (O2 : Sta Z Z.heap "java/lang/String" "COMPACT_STRINGS" "Z" (.int G1)) (P5 : ¬ G1 = 0) (O4 : Sta Z Z.heap "jdk/internal/util/Preconditions" "SIOOBE_FORMATTER" "Ljava/util/function/BiFunction;" G3) (rG3 : G3.isRef = true) (PS : ∀ n ∈ ["REQUIRED", "SUPPORTS", "MANDATORY", "REQUIRES_NEW", "NOT_SUPPORTED", "NEVER", "NESTED"], ∃ r, Sta Z Z.heap "com/example/demarc/demarc/Propagation" n "Lcom/example/demarc/demarc/Propagation;" (.ref r)) (IS : ∀ n ∈ ["DEFAULT", "READ_UNCOMMITTED", "READ_COMMITTED", "REPEATABLE_READ", "SERIALIZABLE"], ∃ r, Sta Z Z.heap "com/example/demarc/demarc/Isolation" n "Lcom/example/demarc/demarc/Isolation;" (.ref r)) {h : Heap} (O : Ext Z.heap h) {a b : Addr} :
    Ctr l Z EL0 (⟨"java/util/Objects", "requireNonNull", "(Ljava/lang/Object;Ljava/lang/String;)Ljava/lang/Object;"⟩ : MethodName) jdk_31_method_11_code 2 (some (.object "java/lang/Object")) [] ({ frames := 0, cells := 0, slots := 0, locals := 0 } : Room) #[(.ref a), (.ref b)] h [] (fun v h' => v = some (.ref a) ∧ h = h') := by
  refine Ctr.of pn1 O ?_
  intro p e s m below meth c s₁ hret hlk hnm X
  have hEL := hEL0 hw
  have KX : Keep h h [] := Keep.refl _ _
  replace X := X.cast (g' := (mkF m 0 #[.val (.ref a), .val (.ref b)] [])) (by first | (simp [entryFrame, mkF, argsToLocals, Value.category]; done) | rfl)
  replace X := X.aload_n (q := 1) d3_0 rfl rfl rfl
  replace X := X.ifnonnullYes (q := 13) d3_1 (by decide) (by decide)
  replace X := X.aload_n (q := 14) d3_13 rfl rfl rfl
  exact X.areturn hEL hret rfl rfl rfl hlk d3_14 (by decide) (by decide) ⟨rfl, rfl⟩
set_option maxRecDepth 65536 in
set_option maxHeartbeats 40000000 in
theorem rm_can {l : Launch} {Z : State} {a0 : Array Value} (hw : ∀ d ∈ tables_1, d.before a0 Z = true) {G1 : Int32} {G3 : Value} (O2 : Sta Z Z.heap "java/lang/String" "COMPACT_STRINGS" "Z" (.int G1)) (P5 : ¬ G1 = 0) (O4 : Sta Z Z.heap "jdk/internal/util/Preconditions" "SIOOBE_FORMATTER" "Ljava/util/function/BiFunction;" G3) (rG3 : G3.isRef = true) (PS : ∀ n ∈ ["REQUIRED", "SUPPORTS", "MANDATORY", "REQUIRES_NEW", "NOT_SUPPORTED", "NEVER", "NESTED"], ∃ r, Sta Z Z.heap "com/example/demarc/demarc/Propagation" n "Lcom/example/demarc/demarc/Propagation;" (.ref r)) (IS : ∀ n ∈ ["DEFAULT", "READ_UNCOMMITTED", "READ_COMMITTED", "REPEATABLE_READ", "SERIALIZABLE"], ∃ r, Sta Z Z.heap "com/example/demarc/demarc/Isolation" n "Lcom/example/demarc/demarc/Isolation;" (.ref r)) {h : Heap} (O : Ext Z.heap h) {c0 : Int32} (b0 : ¬ c0 < 0 ∧ ¬ (255 : Int32) < c0) :
    Ctr l Z EL0 (⟨"java/lang/StringLatin1", "canEncode", "(C)Z"⟩ : MethodName) jdk_43_method_3_code 1 (some .boolean) [] ({ frames := 0, cells := 0, slots := 0, locals := 0 } : Room) #[(.int c0)] h [] (fun v h' => v = some (.int 1) ∧ h = h') := by
  refine Ctr.of pn2 O ?_
  intro p e s m below meth c s₁ hret hlk hnm X
  have hEL := hEL0 hw
  have KX : Keep h h [] := Keep.refl _ _
  replace X := X.cast (g' := (mkF m 0 #[.val (.int c0)] [])) (by first | (simp [entryFrame, mkF, argsToLocals, Value.category]; done) | rfl)
  replace X := X.iload_n (q := 1) d4_0 rfl rfl
  replace X := X.sipush (q := 4) (z := (255 : Int32)) d4_1 rfl rfl
  replace X := X.icmpNo (q := 7) d4_4 (flt b0.2).2.2.1 rfl
  replace X := X.iconst (q := 8) (z := (1 : Int32)) d4_7 rfl rfl
  replace X := X.goto (q := 12) d4_8 (by decide) (by decide)
  exact X.ireturn hEL hret (Or.inr (Or.inl rfl)) rfl hlk d4_12 (by decide) (by decide) ⟨rfl, rfl⟩
theorem nar8b {x : Int32} : nar .byte x.toInt8.toInt32 = x.toInt8.toInt32 := by
  show x.toInt8.toInt32.toInt8.toInt32 = _
  rw [Int8.toInt8_toInt32]
set_option maxRecDepth 65536 in
set_option maxHeartbeats 40000000 in
theorem rm_tob {l : Launch} {Z : State} {a0 : Array Value} (hw : ∀ d ∈ tables_1, d.before a0 Z = true) {G1 : Int32} {G3 : Value} (O2 : Sta Z Z.heap "java/lang/String" "COMPACT_STRINGS" "Z" (.int G1)) (P5 : ¬ G1 = 0) (O4 : Sta Z Z.heap "jdk/internal/util/Preconditions" "SIOOBE_FORMATTER" "Ljava/util/function/BiFunction;" G3) (rG3 : G3.isRef = true) (PS : ∀ n ∈ ["REQUIRED", "SUPPORTS", "MANDATORY", "REQUIRES_NEW", "NOT_SUPPORTED", "NEVER", "NESTED"], ∃ r, Sta Z Z.heap "com/example/demarc/demarc/Propagation" n "Lcom/example/demarc/demarc/Propagation;" (.ref r)) (IS : ∀ n ∈ ["DEFAULT", "READ_UNCOMMITTED", "READ_COMMITTED", "REPEATABLE_READ", "SERIALIZABLE"], ∃ r, Sta Z Z.heap "com/example/demarc/demarc/Isolation" n "Lcom/example/demarc/demarc/Isolation;" (.ref r)) {h : Heap} (O : Ext Z.heap h) {c0 : Int32} :
    Ctr l Z EL0 (⟨"java/lang/StringLatin1", "toBytes", "(C)[B"⟩ : MethodName) jdk_43_method_46_code 1 (some (.array .byte)) [] ({ frames := 0, cells := 1, slots := 1, locals := 0 } : Room) #[(.int c0)] h [] (fun v h' => ∃ r k, v = some (.ref r) ∧ Keep h h' [] ∧ Arv Z h' r k .byte (1 : Int32) [.int c0.toInt8.toInt32] (.int 0)) := by
  refine Ctr.of pn2 O ?_
  intro p e s m below meth c s₁ hret hlk hnm X
  have hEL := hEL0 hw
  have KX : Keep h h [] := Keep.refl _ _
  replace X := X.cast (g' := (mkF m 0 #[.val (.int c0)] [])) (by first | (simp [entryFrame, mkF, argsToLocals, Value.category]; done) | rfl)
  replace X := X.iconst (q := 1) (z := (1 : Int32)) d5_0 rfl rfl
  obtain ⟨r, hp1, k3, gr, nr, E2, Vr, X⟩ := X.newarray (q := 3) (aty := .byte) (hw _ (List.mem_of_getElem? (i := 36) rfl)) d5_1 rfl (by decide) (cap := 1) (by decide) (by decide) (by decide) (by decide) 1
  have s_r : h.size ≤ r := by rw [gr]; exact KX.1
  replace KX := KX.ext E2
  replace X := X.dup (q := 4) d5_3 rfl rfl
  replace X := X.iconst (q := 5) (z := (0 : Int32)) d5_4 rfl rfl
  replace X := X.iload_n (q := 6) d5_5 rfl rfl
  replace X := X.i2b (q := 7) (z := c0.toInt8.toInt32) d5_6 rfl rfl
  obtain ⟨hp4, K1, z1, Vr', X⟩ := X.bastore (q := 8) Vr nr (by simp) (by decide) nar8b (fits_nar_byte _) (i := 0) rfl (by decide) d5_7 rfl
  replace KX := KX.trans K1 (fun x q => by cases List.mem_singleton.mp q; exact Or.inr s_r)
  exact X.areturn hEL hret rfl rfl rfl hlk d5_8 (by decide) (by decide) ⟨r, _, rfl, KX, Vr'⟩
set_option maxRecDepth 65536 in
set_option maxHeartbeats 40000000 in
theorem rm_sbb {l : Launch} {Z : State} {a0 : Array Value} (hw : ∀ d ∈ tables_1, d.before a0 Z = true) {G1 : Int32} {G3 : Value} (O2 : Sta Z Z.heap "java/lang/String" "COMPACT_STRINGS" "Z" (.int G1)) (P5 : ¬ G1 = 0) (O4 : Sta Z Z.heap "jdk/internal/util/Preconditions" "SIOOBE_FORMATTER" "Ljava/util/function/BiFunction;" G3) (rG3 : G3.isRef = true) (PS : ∀ n ∈ ["REQUIRED", "SUPPORTS", "MANDATORY", "REQUIRES_NEW", "NOT_SUPPORTED", "NEVER", "NESTED"], ∃ r, Sta Z Z.heap "com/example/demarc/demarc/Propagation" n "Lcom/example/demarc/demarc/Propagation;" (.ref r)) (IS : ∀ n ∈ ["DEFAULT", "READ_UNCOMMITTED", "READ_COMMITTED", "REPEATABLE_READ", "SERIALIZABLE"], ∃ r, Sta Z Z.heap "com/example/demarc/demarc/Isolation" n "Lcom/example/demarc/demarc/Isolation;" (.ref r)) {h : Heap} (O : Ext Z.heap h) {a t : Addr} {v1 v2 : Value} (Aa : Exa Z h a "java/lang/String") (Fa_value : Fld Z h a "java/lang/String" "value" "[B" v1) (Fa_coder : Fld Z h a "java/lang/String" "coder" "B" v2) (na : Z.heap.size ≤ a) :
    Ctr l Z EL0 (⟨"java/lang/String", "<init>", "([BB)V"⟩ : MethodName) jdk_42_method_151_code 3 none [] ({ frames := 1, cells := 0, slots := 0, locals := 14 } : Room) #[(.ref a), (.ref t), (.int (0 : Int32))] h [a] (fun v h' => v = none ∧ Keep h h' [a] ∧ Exa Z h' a "java/lang/String" ∧ Fld Z h' a "java/lang/String" "value" "[B" (.ref t) ∧ Fld Z h' a "java/lang/String" "coder" "B" (.int 0)) := by
  refine Ctr.of pn0 O ?_
  intro p e s m below meth c s₁ hret hlk hnm X
  have hEL := hEL0 hw
  have KX : Keep h h [a] := Keep.refl _ _
  replace X := X.cast (g' := (mkF m 0 #[.val (.ref a), .val (.ref t), .val (.int (0 : Int32))] [])) (by first | (simp [entryFrame, mkF, argsToLocals, Value.category]; done) | rfl)
  replace X := X.aload_n (q := 1) d6_0 rfl rfl rfl
  replace X := X.initObj (q := 4) (hw _ (List.mem_of_getElem? (i := 112) rfl)) (hw _ (List.mem_of_getElem? (i := 31) rfl)) (hw _ (List.mem_of_getElem? (i := 32) rfl)) rfl d6_1 (by decide) (by decide) rfl
  replace X := X.aload_n (q := 5) d6_4 rfl rfl rfl
  replace X := X.aload_n (q := 6) d6_5 rfl rfl rfl
  obtain ⟨hp1, W2, X⟩ := X.putfieldS (q := 9) (hw _ (List.mem_of_getElem? (i := 113) rfl)) Fa_value Aa (Or.inr ⟨(hw _ (List.mem_of_getElem? (i := 37) rfl)), rfl, hnm⟩) (hw _ (List.mem_of_getElem? (i := 35) rfl)) (ty := (.array .byte)) (by decide) rfl rfl na (fun vm _ hs => hs a (by simp)) d6_6 rfl
  replace KX := KX.wr W2 (Or.inl (by simp))
  replace Aa := Aa.wr W2
  replace Fa_value := Fa_value.same W2
  replace Fa_coder := Fa_coder.other W2 (Or.inr (RoadKit.slot_ne (Or.inr (hw _ (List.mem_of_getElem? (i := 38) rfl))) (Or.inr (hw _ (List.mem_of_getElem? (i := 37) rfl))) (by decide) (t := .byte) (t' := (.array .byte)) (by decide) (by decide)))
  replace X := X.aload_n (q := 10) d6_9 rfl rfl rfl
  replace X := X.iload_n (q := 11) d6_10 rfl rfl
  obtain ⟨hp3, W4, X⟩ := X.putfieldS (q := 14) (hw _ (List.mem_of_getElem? (i := 114) rfl)) Fa_coder Aa (Or.inr ⟨(hw _ (List.mem_of_getElem? (i := 38) rfl)), rfl, hnm⟩) (hw _ (List.mem_of_getElem? (i := 35) rfl)) (ty := .byte) (by decide) rfl rfl na (fun vm _ hs => hs a (by simp)) d6_11 rfl
  replace KX := KX.wr W4 (Or.inl (by simp))
  replace Aa := Aa.wr W4
  replace Fa_coder := Fa_coder.same W4
  replace Fa_value := Fa_value.other W4 (Or.inr (RoadKit.slot_ne (Or.inr (hw _ (List.mem_of_getElem? (i := 37) rfl))) (Or.inr (hw _ (List.mem_of_getElem? (i := 38) rfl))) (by decide) (t := (.array .byte)) (t' := .byte) (by decide) (by decide)))
  exact X.ret hEL hret hlk d6_14 (by decide) (by decide) ⟨rfl, KX, Aa, Fa_value, Fa_coder⟩
set_option maxRecDepth 65536 in
set_option maxHeartbeats 40000000 in
theorem rm_vof {l : Launch} {Z : State} {a0 : Array Value} (hw : ∀ d ∈ tables_1, d.before a0 Z = true) {G1 : Int32} {G3 : Value} (O2 : Sta Z Z.heap "java/lang/String" "COMPACT_STRINGS" "Z" (.int G1)) (P5 : ¬ G1 = 0) (O4 : Sta Z Z.heap "jdk/internal/util/Preconditions" "SIOOBE_FORMATTER" "Ljava/util/function/BiFunction;" G3) (rG3 : G3.isRef = true) (PS : ∀ n ∈ ["REQUIRED", "SUPPORTS", "MANDATORY", "REQUIRES_NEW", "NOT_SUPPORTED", "NEVER", "NESTED"], ∃ r, Sta Z Z.heap "com/example/demarc/demarc/Propagation" n "Lcom/example/demarc/demarc/Propagation;" (.ref r)) (IS : ∀ n ∈ ["DEFAULT", "READ_UNCOMMITTED", "READ_COMMITTED", "REPEATABLE_READ", "SERIALIZABLE"], ∃ r, Sta Z Z.heap "com/example/demarc/demarc/Isolation" n "Lcom/example/demarc/demarc/Isolation;" (.ref r)) {h : Heap} (O : Ext Z.heap h) {c0 : Int32} (b0 : ¬ c0 < 0 ∧ ¬ (255 : Int32) < c0) :
    Ctr l Z EL0 (⟨"java/lang/String", "valueOf", "(C)Ljava/lang/String;"⟩ : MethodName) jdk_42_method_139_code 1 (some (.object "java/lang/String")) [] ({ frames := 2, cells := 2, slots := 5, locals := 40 } : Room) #[(.int c0)] h [] (fun v h' => ∃ a, v = some (.ref a) ∧ Keep h h' [] ∧ Str Z h' a [c0]) := by
  refine Ctr.of pn0 O ?_
  intro p e s m below meth c s₁ hret hlk hnm X
  have hEL := hEL0 hw
  have KX : Keep h h [] := Keep.refl _ _
  replace X := X.cast (g' := (mkF m 0 #[.val (.int c0)] [])) (by first | (simp [entryFrame, mkF, argsToLocals, Value.category]; done) | rfl)
  replace X := X.getstatic (q := 3) (hw _ (List.mem_of_getElem? (i := 99) rfl)) O2 d7_0 rfl
  replace X := X.ifNo (q := 6) d7_3 (feq P5).1 rfl
  replace X := X.iload_n (q := 7) d7_6 rfl rfl
  obtain ⟨_, hp1, ⟨rfl, rfl⟩, X⟩ := X.callS (q := 10) (rm_can hw O2 P5 O4 rG3 PS IS X.old b0) hEL (fun _ q => nomatch q) (hw _ (List.mem_of_getElem? (i := 100) rfl)) (hw _ (List.mem_of_getElem? (i := 101) rfl)) (hw _ (List.mem_of_getElem? (i := 102) rfl)) (hw _ (List.mem_of_getElem? (i := 103) rfl)) (by decide) pd1 (argsL := [(.int c0)]) (rest := []) rfl rfl rfl rfl d7_7 (by decide) (by first | decide | exact Nat.le_of_ble_eq_true rfl) (by decide) (by decide) rfl
  replace X := X [(.int (1 : Int32))] rfl
  replace X := X.ifNo (q := 13) d7_10 (feq (by decide : ¬ (1 : Int32) = 0)).1 rfl
  obtain ⟨a, hp2, ga, na, E3, Aa, Da, X⟩ := X.new (C := "java/lang/String") (q := 16) (hw _ (List.mem_of_getElem? (i := 104) rfl)) (hw _ (List.mem_of_getElem? (i := 35) rfl)) (hw _ (List.mem_of_getElem? (i := 34) rfl)) d7_13 rfl (by decide) (by decide)
  have s_a : h.size ≤ a := by rw [ga]; exact KX.1
  replace KX := KX.ext E3
  have Fa_value := Da (Or.inr (hw _ (List.mem_of_getElem? (i := 37) rfl))) (ty := (.array .byte)) (by decide)
  have Fa_coder := Da (Or.inr (hw _ (List.mem_of_getElem? (i := 38) rfl))) (ty := .byte) (by decide)
  replace X := X.dup (q := 17) d7_16 rfl rfl
  replace X := X.iload_n (q := 18) d7_17 rfl rfl
  obtain ⟨_, hp4, ⟨r, kr, rfl, K1, Vr⟩, X⟩ := X.callS (q := 21) (rm_tob hw O2 P5 O4 rG3 PS IS X.old (c0 := c0)) hEL (fun _ q => nomatch q) (hw _ (List.mem_of_getElem? (i := 105) rfl)) (hw _ (List.mem_of_getElem? (i := 106) rfl)) (hw _ (List.mem_of_getElem? (i := 102) rfl)) (hw _ (List.mem_of_getElem? (i := 107) rfl)) (by decide) pd2 (argsL := [(.int c0)]) (rest := [(.ref a), (.ref a)]) rfl rfl rfl rfl d7_18 (by decide) (by first | decide | exact Nat.le_of_ble_eq_true rfl) (by decide) (by decide) rfl
  replace X := X [(.ref r), (.ref a), (.ref a)] rfl
  replace KX := KX.trans K1 (fun _ q => nomatch q)
  replace Aa := Aa.keep K1
  replace Fa_value := Fa_value.keep K1 nin0
  replace Fa_coder := Fa_coder.keep K1 nin0
  have ne_r_a : r ≠ a := Ne.symm (Aa.neArv Vr (hw _ (List.mem_of_getElem? (i := 35) rfl)))
  replace X := X.iconst (q := 22) (z := (0 : Int32)) d7_21 rfl rfl
  obtain ⟨_, hp5, ⟨rfl, K2, Ea, Ev, Ec⟩, X⟩ := X.callI (q := 25) (rm_sbb hw O2 P5 O4 rG3 PS IS X.old (t := r) Aa Fa_value Fa_coder na) hEL (by simp) rfl (hw _ (List.mem_of_getElem? (i := 108) rfl)) (hw _ (List.mem_of_getElem? (i := 109) rfl)) (hw _ (List.mem_of_getElem? (i := 34) rfl)) (hw _ (List.mem_of_getElem? (i := 111) rfl)) (by decide) pd3 (a := a) (argsL := [(.ref r), (.int (0 : Int32))]) (rest := [(.ref a)]) rfl rfl rfl rfl d7_22 (by decide) (by first | decide | exact Nat.le_of_ble_eq_true rfl) (by decide) (by decide) rfl
  replace X := X [(.ref a)] rfl
  replace KX := KX.trans K2 (fun x q => by cases List.mem_singleton.mp q; exact Or.inr s_a)
  replace Vr := Vr.keep K2 (ninS ne_r_a nin0)
  exact X.areturn hEL hret rfl rfl rfl hlk d7_25 (by decide) (by decide) ⟨a, rfl, KX, (by show 1 ≤ 4000; decide), (by intro c hc; cases List.mem_singleton.mp hc; exact b0), Ea, Ec, r, kr, Ev, Vr⟩
set_option maxRecDepth 65536 in
set_option maxHeartbeats 40000000 in
theorem rm_prop {l : Launch} {Z : State} {a0 : Array Value} (hw : ∀ d ∈ tables_1, d.before a0 Z = true) {G1 : Int32} {G3 : Value} (O2 : Sta Z Z.heap "java/lang/String" "COMPACT_STRINGS" "Z" (.int G1)) (P5 : ¬ G1 = 0) (O4 : Sta Z Z.heap "jdk/internal/util/Preconditions" "SIOOBE_FORMATTER" "Ljava/util/function/BiFunction;" G3) (rG3 : G3.isRef = true) (PS : ∀ n ∈ ["REQUIRED", "SUPPORTS", "MANDATORY", "REQUIRES_NEW", "NOT_SUPPORTED", "NEVER", "NESTED"], ∃ r, Sta Z Z.heap "com/example/demarc/demarc/Propagation" n "Lcom/example/demarc/demarc/Propagation;" (.ref r)) (IS : ∀ n ∈ ["DEFAULT", "READ_UNCOMMITTED", "READ_COMMITTED", "REPEATABLE_READ", "SERIALIZABLE"], ∃ r, Sta Z Z.heap "com/example/demarc/demarc/Isolation" n "Lcom/example/demarc/demarc/Isolation;" (.ref r)) {h : Heap} (O : Ext Z.heap h) {x0 : Int32} :
    Ctr l Z EL0 (⟨"com/example/demarc/demarc/TransactionDefinitionWithPropagationPinLaw", "prop", "(I)Lcom/example/demarc/demarc/Propagation;"⟩ : MethodName) method_2_code 2 (some (.object "com/example/demarc/demarc/Propagation")) [] ({ frames := 0, cells := 0, slots := 0, locals := 0 } : Room) #[(.int x0)] h [] (fun v h' => ∃ r, v = some (.ref r) ∧ h = h') := by
  refine Ctr.of pn3 O ?_
  intro p e s m below meth c s₁ hret hlk hnm X
  have hEL := hEL0 hw
  have KX : Keep h h [] := Keep.refl _ _
  replace X := X.cast (g' := (mkF m 0 #[.val (.int x0), .unset] [])) (by first | (simp [entryFrame, mkF, argsToLocals, Value.category]; done) | rfl)
  replace X := X.iload_n (q := 1) d8_0 rfl rfl
  replace X := X.ldcI (q := 3) (hw _ (List.mem_of_getElem? (i := 4) rfl)) d8_1 rfl
  obtain ⟨k, hk⟩ : ∃ k, k = (x0 &&& (2147483647 : Int32)) % (7 : Int32) := ⟨_, rfl⟩
  replace X := X.iand (q := 4) (z := (x0 &&& (2147483647 : Int32))) d8_3 rfl rfl
  replace X := X.bipush (q := 6) (z := (7 : Int32)) d8_4 rfl rfl
  replace X := X.irem (q := 7) (z := k) d8_6 (by decide) hk.symm rfl
  replace X := X.istore_n (q := 8) (Ls' := #[.val (.int x0), .val (.int k)]) d8_7 rfl rfl
  replace X := X.iload_n (q := 9) d8_8 rfl rfl
  rcases Decidable.em (k = (0 : Int32)) with h0 | h0
  · skip
    replace X := X.ifNo (q := 12) d8_9 (teq h0).2 rfl
    obtain ⟨r, hr⟩ := PS "REQUIRED" (by simp)
    replace X := X.getstatic (q := 15) (hw _ (List.mem_of_getElem? (i := 5) rfl)) hr d8_12 rfl
    exact X.areturn hEL hret rfl rfl rfl hlk d8_15 (by decide) (by decide) ⟨r, rfl, rfl⟩
  · skip
    replace X := X.ifYes (q := 16) d8_9 (feq h0).2 (by decide) (by decide)
    replace X := X.iload_n (q := 17) d8_16 rfl rfl
    replace X := X.iconst (q := 18) (z := (1 : Int32)) d8_17 rfl rfl
    rcases Decidable.em (k = (1 : Int32)) with h1 | h1
    · skip
      replace X := X.icmpNo (q := 21) d8_18 (teq h1).2 rfl
      obtain ⟨r, hr⟩ := PS "SUPPORTS" (by simp)
      replace X := X.getstatic (q := 24) (hw _ (List.mem_of_getElem? (i := 120) rfl)) hr d8_21 rfl
      exact X.areturn hEL hret rfl rfl rfl hlk d8_24 (by decide) (by decide) ⟨r, rfl, rfl⟩
    · skip
      replace X := X.icmpYes (q := 25) d8_18 (feq h1).2 (by decide) (by decide)
      replace X := X.iload_n (q := 26) d8_25 rfl rfl
      replace X := X.iconst (q := 27) (z := (2 : Int32)) d8_26 rfl rfl
      rcases Decidable.em (k = (2 : Int32)) with h2 | h2
      · skip
        replace X := X.icmpNo (q := 30) d8_27 (teq h2).2 rfl
        obtain ⟨r, hr⟩ := PS "MANDATORY" (by simp)
        replace X := X.getstatic (q := 33) (hw _ (List.mem_of_getElem? (i := 92) rfl)) hr d8_30 rfl
        exact X.areturn hEL hret rfl rfl rfl hlk d8_33 (by decide) (by decide) ⟨r, rfl, rfl⟩
      · skip
        replace X := X.icmpYes (q := 34) d8_27 (feq h2).2 (by decide) (by decide)
        replace X := X.iload_n (q := 35) d8_34 rfl rfl
        replace X := X.iconst (q := 36) (z := (3 : Int32)) d8_35 rfl rfl
        rcases Decidable.em (k = (3 : Int32)) with h3 | h3
        · skip
          replace X := X.icmpNo (q := 39) d8_36 (teq h3).2 rfl
          obtain ⟨r, hr⟩ := PS "REQUIRES_NEW" (by simp)
          replace X := X.getstatic (q := 42) (hw _ (List.mem_of_getElem? (i := 8) rfl)) hr d8_39 rfl
          exact X.areturn hEL hret rfl rfl rfl hlk d8_42 (by decide) (by decide) ⟨r, rfl, rfl⟩
        · skip
          replace X := X.icmpYes (q := 43) d8_36 (feq h3).2 (by decide) (by decide)
          replace X := X.iload_n (q := 44) d8_43 rfl rfl
          replace X := X.iconst (q := 45) (z := (4 : Int32)) d8_44 rfl rfl
          rcases Decidable.em (k = (4 : Int32)) with h4 | h4
          · skip
            replace X := X.icmpNo (q := 48) d8_45 (teq h4).2 rfl
            obtain ⟨r, hr⟩ := PS "NOT_SUPPORTED" (by simp)
            replace X := X.getstatic (q := 51) (hw _ (List.mem_of_getElem? (i := 88) rfl)) hr d8_48 rfl
            exact X.areturn hEL hret rfl rfl rfl hlk d8_51 (by decide) (by decide) ⟨r, rfl, rfl⟩
          · skip
            replace X := X.icmpYes (q := 52) d8_45 (feq h4).2 (by decide) (by decide)
            replace X := X.iload_n (q := 53) d8_52 rfl rfl
            replace X := X.iconst (q := 54) (z := (5 : Int32)) d8_53 rfl rfl
            rcases Decidable.em (k = (5 : Int32)) with h5 | h5
            · skip
              replace X := X.icmpNo (q := 57) d8_54 (teq h5).2 rfl
              obtain ⟨r, hr⟩ := PS "NEVER" (by simp)
              replace X := X.getstatic (q := 60) (hw _ (List.mem_of_getElem? (i := 142) rfl)) hr d8_57 rfl
              exact X.areturn hEL hret rfl rfl rfl hlk d8_60 (by decide) (by decide) ⟨r, rfl, rfl⟩
            · skip
              replace X := X.icmpYes (q := 61) d8_54 (feq h5).2 (by decide) (by decide)
              obtain ⟨r, hr⟩ := PS "NESTED" (by simp)
              replace X := X.getstatic (q := 64) (hw _ (List.mem_of_getElem? (i := 140) rfl)) hr d8_61 rfl
              exact X.areturn hEL hret rfl rfl rfl hlk d8_64 (by decide) (by decide) ⟨r, rfl, rfl⟩
set_option maxRecDepth 65536 in
set_option maxHeartbeats 40000000 in
theorem rm_iso {l : Launch} {Z : State} {a0 : Array Value} (hw : ∀ d ∈ tables_1, d.before a0 Z = true) {G1 : Int32} {G3 : Value} (O2 : Sta Z Z.heap "java/lang/String" "COMPACT_STRINGS" "Z" (.int G1)) (P5 : ¬ G1 = 0) (O4 : Sta Z Z.heap "jdk/internal/util/Preconditions" "SIOOBE_FORMATTER" "Ljava/util/function/BiFunction;" G3) (rG3 : G3.isRef = true) (PS : ∀ n ∈ ["REQUIRED", "SUPPORTS", "MANDATORY", "REQUIRES_NEW", "NOT_SUPPORTED", "NEVER", "NESTED"], ∃ r, Sta Z Z.heap "com/example/demarc/demarc/Propagation" n "Lcom/example/demarc/demarc/Propagation;" (.ref r)) (IS : ∀ n ∈ ["DEFAULT", "READ_UNCOMMITTED", "READ_COMMITTED", "REPEATABLE_READ", "SERIALIZABLE"], ∃ r, Sta Z Z.heap "com/example/demarc/demarc/Isolation" n "Lcom/example/demarc/demarc/Isolation;" (.ref r)) {h : Heap} (O : Ext Z.heap h) {x0 : Int32} :
    Ctr l Z EL0 (⟨"com/example/demarc/demarc/TransactionDefinitionWithPropagationPinLaw", "iso", "(I)Lcom/example/demarc/demarc/Isolation;"⟩ : MethodName) method_3_code 2 (some (.object "com/example/demarc/demarc/Isolation")) [] ({ frames := 0, cells := 0, slots := 0, locals := 0 } : Room) #[(.int x0)] h [] (fun v h' => ∃ r, v = some (.ref r) ∧ h = h') := by
  refine Ctr.of pn3 O ?_
  intro p e s m below meth c s₁ hret hlk hnm X
  have hEL := hEL0 hw
  have KX : Keep h h [] := Keep.refl _ _
  replace X := X.cast (g' := (mkF m 0 #[.val (.int x0), .unset] [])) (by first | (simp [entryFrame, mkF, argsToLocals, Value.category]; done) | rfl)
  replace X := X.iload_n (q := 1) d9_0 rfl rfl
  replace X := X.ldcI (q := 3) (hw _ (List.mem_of_getElem? (i := 4) rfl)) d9_1 rfl
  obtain ⟨k, hk⟩ : ∃ k, k = (x0 &&& (2147483647 : Int32)) % (5 : Int32) := ⟨_, rfl⟩
  replace X := X.iand (q := 4) (z := (x0 &&& (2147483647 : Int32))) d9_3 rfl rfl
  replace X := X.iconst (q := 5) (z := (5 : Int32)) d9_4 rfl rfl
  replace X := X.irem (q := 6) (z := k) d9_5 (by decide) hk.symm rfl
  replace X := X.istore_n (q := 7) (Ls' := #[.val (.int x0), .val (.int k)]) d9_6 rfl rfl
  replace X := X.iload_n (q := 8) d9_7 rfl rfl
  rcases Decidable.em (k = (0 : Int32)) with h0 | h0
  · skip
    replace X := X.ifNo (q := 11) d9_8 (teq h0).2 rfl
    obtain ⟨r, hr⟩ := IS "DEFAULT" (by simp)
    replace X := X.getstatic (q := 14) (hw _ (List.mem_of_getElem? (i := 90) rfl)) hr d9_11 rfl
    exact X.areturn hEL hret rfl rfl rfl hlk d9_14 (by decide) (by decide) ⟨r, rfl, rfl⟩
  · skip
    replace X := X.ifYes (q := 15) d9_8 (feq h0).2 (by decide) (by decide)
    replace X := X.iload_n (q := 16) d9_15 rfl rfl
    replace X := X.iconst (q := 17) (z := (1 : Int32)) d9_16 rfl rfl
    rcases Decidable.em (k = (1 : Int32)) with h1 | h1
    · skip
      replace X := X.icmpNo (q := 20) d9_17 (teq h1).2 rfl
      obtain ⟨r, hr⟩ := IS "READ_UNCOMMITTED" (by simp)
      replace X := X.getstatic (q := 23) (hw _ (List.mem_of_getElem? (i := 94) rfl)) hr d9_20 rfl
      exact X.areturn hEL hret rfl rfl rfl hlk d9_23 (by decide) (by decide) ⟨r, rfl, rfl⟩
    · skip
      replace X := X.icmpYes (q := 24) d9_17 (feq h1).2 (by decide) (by decide)
      replace X := X.iload_n (q := 25) d9_24 rfl rfl
      replace X := X.iconst (q := 26) (z := (2 : Int32)) d9_25 rfl rfl
      rcases Decidable.em (k = (2 : Int32)) with h2 | h2
      · skip
        replace X := X.icmpNo (q := 29) d9_26 (teq h2).2 rfl
        obtain ⟨r, hr⟩ := IS "READ_COMMITTED" (by simp)
        replace X := X.getstatic (q := 32) (hw _ (List.mem_of_getElem? (i := 13) rfl)) hr d9_29 rfl
        exact X.areturn hEL hret rfl rfl rfl hlk d9_32 (by decide) (by decide) ⟨r, rfl, rfl⟩
      · skip
        replace X := X.icmpYes (q := 33) d9_26 (feq h2).2 (by decide) (by decide)
        replace X := X.iload_n (q := 34) d9_33 rfl rfl
        replace X := X.iconst (q := 35) (z := (3 : Int32)) d9_34 rfl rfl
        rcases Decidable.em (k = (3 : Int32)) with h3 | h3
        · skip
          replace X := X.icmpNo (q := 38) d9_35 (teq h3).2 rfl
          obtain ⟨r, hr⟩ := IS "REPEATABLE_READ" (by simp)
          replace X := X.getstatic (q := 41) (hw _ (List.mem_of_getElem? (i := 147) rfl)) hr d9_38 rfl
          exact X.areturn hEL hret rfl rfl rfl hlk d9_41 (by decide) (by decide) ⟨r, rfl, rfl⟩
        · skip
          replace X := X.icmpYes (q := 42) d9_35 (feq h3).2 (by decide) (by decide)
          obtain ⟨r, hr⟩ := IS "SERIALIZABLE" (by simp)
          replace X := X.getstatic (q := 45) (hw _ (List.mem_of_getElem? (i := 144) rfl)) hr d9_42 rfl
          exact X.areturn hEL hret rfl rfl rfl hlk d9_45 (by decide) (by decide) ⟨r, rfl, rfl⟩
set_option maxRecDepth 65536 in
set_option maxHeartbeats 40000000 in
theorem rm_rec {l : Launch} {Z : State} {a0 : Array Value} (hw : ∀ d ∈ tables_1, d.before a0 Z = true) {G1 : Int32} {G3 : Value} (O2 : Sta Z Z.heap "java/lang/String" "COMPACT_STRINGS" "Z" (.int G1)) (P5 : ¬ G1 = 0) (O4 : Sta Z Z.heap "jdk/internal/util/Preconditions" "SIOOBE_FORMATTER" "Ljava/util/function/BiFunction;" G3) (rG3 : G3.isRef = true) (PS : ∀ n ∈ ["REQUIRED", "SUPPORTS", "MANDATORY", "REQUIRES_NEW", "NOT_SUPPORTED", "NEVER", "NESTED"], ∃ r, Sta Z Z.heap "com/example/demarc/demarc/Propagation" n "Lcom/example/demarc/demarc/Propagation;" (.ref r)) (IS : ∀ n ∈ ["DEFAULT", "READ_UNCOMMITTED", "READ_COMMITTED", "REPEATABLE_READ", "SERIALIZABLE"], ∃ r, Sta Z Z.heap "com/example/demarc/demarc/Isolation" n "Lcom/example/demarc/demarc/Isolation;" (.ref r)) {h : Heap} (O : Ext Z.heap h) {a : Addr} :
    Ctr l Z EL0 (⟨"java/lang/Record", "<init>", "()V"⟩ : MethodName) jdk_30_method_1_code 1 none [] ({ frames := 1, cells := 0, slots := 0, locals := 14 } : Room) #[(.ref a)] h [] (fun v h' => v = none ∧ h = h') := by
  refine Ctr.of pn4 O ?_
  intro p e s m below meth c s₁ hret hlk hnm X
  have hEL := hEL0 hw
  have KX : Keep h h [] := Keep.refl _ _
  replace X := X.cast (g' := (mkF m 0 #[.val (.ref a)] [])) (by first | (simp [entryFrame, mkF, argsToLocals, Value.category]; done) | rfl)
  replace X := X.aload_n (q := 1) d10_0 rfl rfl rfl
  replace X := X.initObj (q := 4) (hw _ (List.mem_of_getElem? (i := 30) rfl)) (hw _ (List.mem_of_getElem? (i := 31) rfl)) (hw _ (List.mem_of_getElem? (i := 32) rfl)) rfl d10_1 (by decide) (by decide) rfl
  exact X.ret hEL hret hlk d10_4 (by decide) (by decide) ⟨rfl, rfl⟩
set_option maxRecDepth 65536 in
set_option maxHeartbeats 40000000 in
theorem rm_tdinit {l : Launch} {Z : State} {a0 : Array Value} (hw : ∀ d ∈ tables_1, d.before a0 Z = true) {G1 : Int32} {G3 : Value} (O2 : Sta Z Z.heap "java/lang/String" "COMPACT_STRINGS" "Z" (.int G1)) (P5 : ¬ G1 = 0) (O4 : Sta Z Z.heap "jdk/internal/util/Preconditions" "SIOOBE_FORMATTER" "Ljava/util/function/BiFunction;" G3) (rG3 : G3.isRef = true) (PS : ∀ n ∈ ["REQUIRED", "SUPPORTS", "MANDATORY", "REQUIRES_NEW", "NOT_SUPPORTED", "NEVER", "NESTED"], ∃ r, Sta Z Z.heap "com/example/demarc/demarc/Propagation" n "Lcom/example/demarc/demarc/Propagation;" (.ref r)) (IS : ∀ n ∈ ["DEFAULT", "READ_UNCOMMITTED", "READ_COMMITTED", "REPEATABLE_READ", "SERIALIZABLE"], ∃ r, Sta Z Z.heap "com/example/demarc/demarc/Isolation" n "Lcom/example/demarc/demarc/Isolation;" (.ref r)) {h : Heap} (O : Ext Z.heap h) {d rp ri : Addr} {tm ro : Int32} {nv v1 v2 v3 v4 v5 : Value} (Ad : Exa Z h d "com/example/demarc/demarc/TransactionDefinition") (Fd_propagation : Fld Z h d "com/example/demarc/demarc/TransactionDefinition" "propagation" "Lcom/example/demarc/demarc/Propagation;" v1) (Fd_isolation : Fld Z h d "com/example/demarc/demarc/TransactionDefinition" "isolation" "Lcom/example/demarc/demarc/Isolation;" v2) (Fd_timeout : Fld Z h d "com/example/demarc/demarc/TransactionDefinition" "timeout" "I" v3) (Fd_readOnly : Fld Z h d "com/example/demarc/demarc/TransactionDefinition" "readOnly" "Z" v4) (Fd_name : Fld Z h d "com/example/demarc/demarc/TransactionDefinition" "name" "Ljava/lang/String;" v5) (nd : Z.heap.size ≤ d) (ht : 0 < tm ∨ tm = -1) (hr : ro = 0 ∨ ro = 1) (rN : nv.isRef = true) :
    Ctr l Z EL0 (⟨"com/example/demarc/demarc/TransactionDefinition", "<init>", "(Lcom/example/demarc/demarc/Propagation;Lcom/example/demarc/demarc/Isolation;IZLjava/lang/String;)V"⟩ : MethodName) prog_9_method_1_code 6 none [] ({ frames := 2, cells := 4, slots := 88, locals := 40 } : Room) #[(.ref d), (.ref rp), (.ref ri), (.int tm), (.int ro), nv] h [] (fun v h' => v = none ∧ Keep h h' [d] ∧ Fld Z h' d "com/example/demarc/demarc/TransactionDefinition" "propagation" "Lcom/example/demarc/demarc/Propagation;" (.ref rp) ∧ Fld Z h' d "com/example/demarc/demarc/TransactionDefinition" "isolation" "Lcom/example/demarc/demarc/Isolation;" (.ref ri) ∧ Fld Z h' d "com/example/demarc/demarc/TransactionDefinition" "timeout" "I" (.int tm) ∧ Fld Z h' d "com/example/demarc/demarc/TransactionDefinition" "readOnly" "Z" (.int ro) ∧ Fld Z h' d "com/example/demarc/demarc/TransactionDefinition" "name" "Ljava/lang/String;" nv) := by
  refine Ctr.of pn5 O ?_
  intro p e s m below meth c s₁ hret hlk hnm X
  have hEL := hEL0 hw
  have KX : Keep h h [d] := Keep.refl _ _
  replace X := X.cast (g' := (mkF m 0 #[.val (.ref d), .val (.ref rp), .val (.ref ri), .val (.int tm), .val (.int ro), .val nv] [])) (by cases nv <;> first | (simp [entryFrame, mkF, argsToLocals, Value.category]; done) | rfl | cases rN)
  replace X := X.aload_n (q := 1) d11_0 rfl rfl rfl
  obtain ⟨_, hp1, ⟨rfl, rfl⟩, X⟩ := X.callI (q := 4) (rm_rec hw O2 P5 O4 rG3 PS IS X.old (a := d)) hEL (fun _ q => nomatch q) rfl (hw _ (List.mem_of_getElem? (i := 25) rfl)) (hw _ (List.mem_of_getElem? (i := 26) rfl)) (hw _ (List.mem_of_getElem? (i := 28) rfl)) (hw _ (List.mem_of_getElem? (i := 29) rfl)) (by decide) pd4 (a := d) (argsL := []) (rest := []) rfl rfl rfl rfl d11_1 (by decide) (by first | decide | exact Nat.le_of_ble_eq_true rfl) (by decide) (by decide) rfl
  replace X := X [] rfl
  replace X := X.aload_n (q := 5) d11_4 rfl rfl rfl
  obtain ⟨c2, hp3, E4, X⟩ := X.ldcO (q := 7) hEL (hw _ (List.mem_of_getElem? (i := 33) rfl)) (wS_of hw) d11_5 (n := 44) (by decide) (by first | decide | exact Nat.le_of_ble_eq_true rfl) (by decide) (by decide) rfl
  replace KX := KX.ext E4
  replace Ad := Ad.ext E4
  replace Fd_propagation := Fd_propagation.ext E4
  replace Fd_isolation := Fd_isolation.ext E4
  replace Fd_timeout := Fd_timeout.ext E4
  replace Fd_readOnly := Fd_readOnly.ext E4
  replace Fd_name := Fd_name.ext E4
  obtain ⟨_, hp5, ⟨rfl, rfl⟩, X⟩ := X.callS (q := 10) (rm_rnn hw O2 P5 O4 rG3 PS IS X.old (a := rp)) hEL (fun _ q => nomatch q) (hw _ (List.mem_of_getElem? (i := 41) rfl)) (hw _ (List.mem_of_getElem? (i := 42) rfl)) (hw _ (List.mem_of_getElem? (i := 43) rfl)) (hw _ (List.mem_of_getElem? (i := 44) rfl)) (by decide) pd5 (argsL := [(.ref rp), (.ref c2)]) (rest := []) rfl rfl rfl rfl d11_7 (by decide) (by first | decide | exact Nat.le_of_ble_eq_true rfl) (by decide) (by decide) rfl
  replace X := X [(.ref rp)] rfl
  replace X := X.pop (q := 11) d11_10 rfl rfl
  replace X := X.aload_n (q := 12) d11_11 rfl rfl rfl
  obtain ⟨c6, hp7, E8, X⟩ := X.ldcO (q := 14) hEL (hw _ (List.mem_of_getElem? (i := 45) rfl)) (wS_of hw) d11_12 (n := 36) (by decide) (by first | decide | exact Nat.le_of_ble_eq_true rfl) (by decide) (by decide) rfl
  replace KX := KX.ext E8
  replace Ad := Ad.ext E8
  replace Fd_propagation := Fd_propagation.ext E8
  replace Fd_isolation := Fd_isolation.ext E8
  replace Fd_timeout := Fd_timeout.ext E8
  replace Fd_readOnly := Fd_readOnly.ext E8
  replace Fd_name := Fd_name.ext E8
  obtain ⟨_, hp9, ⟨rfl, rfl⟩, X⟩ := X.callS (q := 17) (rm_rnn hw O2 P5 O4 rG3 PS IS X.old (a := ri)) hEL (fun _ q => nomatch q) (hw _ (List.mem_of_getElem? (i := 41) rfl)) (hw _ (List.mem_of_getElem? (i := 42) rfl)) (hw _ (List.mem_of_getElem? (i := 43) rfl)) (hw _ (List.mem_of_getElem? (i := 44) rfl)) (by decide) pd5 (argsL := [(.ref ri), (.ref c6)]) (rest := []) rfl rfl rfl rfl d11_14 (by decide) (by first | decide | exact Nat.le_of_ble_eq_true rfl) (by decide) (by decide) rfl
  replace X := X [(.ref ri)] rfl
  replace X := X.pop (q := 18) d11_17 rfl rfl
  replace X := X.iload_n (q := 19) d11_18 rfl rfl
  have J : Wk p l e ({ frames := 2, cells := 4, slots := 88, locals := 40 } : Room) s m #[(.ref d), (.ref rp), (.ref ri), (.int tm), (.int ro), nv] below meth c Z EL0 (⟨"com/example/demarc/demarc/TransactionDefinition", "<init>", "(Lcom/example/demarc/demarc/Propagation;Lcom/example/demarc/demarc/Isolation;IZLjava/lang/String;)V"⟩ : MethodName).cls prog_9_method_1_code 6 s₁ (entryFrame m #[(.ref d), (.ref rp), (.ref ri), (.int tm), (.int ro), nv] 6) (mkF m 41 #[.val (.ref d), .val (.ref rp), .val (.ref ri), .val (.int tm), .val (.int ro), .val nv] []) hp7 (0 + 0 + 2 + 0 + 2 + 0) (0 + 0 + (44 + 4) + 0 + (36 + 4) + 0) [] := by
    rcases ht with h1 | h1
    · skip
      replace X := X.ifYes (q := 41) d11_19 (tlt h1).2.2.1 (by decide) (by decide)
      exact X
    · skip
      have h2 : ¬ 0 < tm := by rw [h1]; decide
      replace X := X.ifNo (q := 22) d11_19 (flt h2).2.2.1 rfl
      replace X := X.iload_n (q := 23) d11_22 rfl rfl
      replace X := X.iconst (q := 24) (z := (-1 : Int32)) d11_23 rfl rfl
      replace X := X.icmpYes (q := 41) d11_24 (teq h1).1 (by decide) (by decide)
      exact X
  clear X
  have X := J
  replace X := X.aload_n (q := 42) d11_41 rfl rfl rfl
  replace X := X.aload_n (q := 43) d11_42 rfl rfl rfl
  obtain ⟨hp10, W11, X⟩ := X.putfield (q := 46) (hw _ (List.mem_of_getElem? (i := 46) rfl)) Fd_propagation Ad (Or.inr ⟨(hw _ (List.mem_of_getElem? (i := 47) rfl)), rfl, hnm⟩) (hw _ (List.mem_of_getElem? (i := 20) rfl)) (ty := (.object "com/example/demarc/demarc/Propagation")) (by decide) rfl rfl nd (by decide) (by decide) d11_43 rfl
  replace Fd_isolation := Fd_isolation.other W11 (Or.inr (RoadKit.slot_ne (Or.inr (hw _ (List.mem_of_getElem? (i := 49) rfl))) (Or.inr (hw _ (List.mem_of_getElem? (i := 47) rfl))) (by decide) (t := (.object "com/example/demarc/demarc/Isolation")) (t' := (.object "com/example/demarc/demarc/Propagation")) (by decide) (by decide)))
  replace Fd_timeout := Fd_timeout.other W11 (Or.inr (RoadKit.slot_ne (Or.inr (hw _ (List.mem_of_getElem? (i := 51) rfl))) (Or.inr (hw _ (List.mem_of_getElem? (i := 47) rfl))) (by decide) (t := .int) (t' := (.object "com/example/demarc/demarc/Propagation")) (by decide) (by decide)))
  replace Fd_readOnly := Fd_readOnly.other W11 (Or.inr (RoadKit.slot_ne (Or.inr (hw _ (List.mem_of_getElem? (i := 53) rfl))) (Or.inr (hw _ (List.mem_of_getElem? (i := 47) rfl))) (by decide) (t := .boolean) (t' := (.object "com/example/demarc/demarc/Propagation")) (by decide) (by decide)))
  replace Fd_name := Fd_name.other W11 (Or.inr (RoadKit.slot_ne (Or.inr (hw _ (List.mem_of_getElem? (i := 55) rfl))) (Or.inr (hw _ (List.mem_of_getElem? (i := 47) rfl))) (by decide) (t := (.object "java/lang/String")) (t' := (.object "com/example/demarc/demarc/Propagation")) (by decide) (by decide)))
  replace KX := KX.wr W11 (Or.inl (by simp))
  replace Fd_propagation := Fd_propagation.same W11
  replace Ad := Ad.wr W11
  replace X := X.aload_n (q := 47) d11_46 rfl rfl rfl
  replace X := X.aload_n (q := 48) d11_47 rfl rfl rfl
  obtain ⟨hp12, W13, X⟩ := X.putfield (q := 51) (hw _ (List.mem_of_getElem? (i := 48) rfl)) Fd_isolation Ad (Or.inr ⟨(hw _ (List.mem_of_getElem? (i := 49) rfl)), rfl, hnm⟩) (hw _ (List.mem_of_getElem? (i := 20) rfl)) (ty := (.object "com/example/demarc/demarc/Isolation")) (by decide) rfl rfl nd (by decide) (by decide) d11_48 rfl
  replace Fd_propagation := Fd_propagation.other W13 (Or.inr (RoadKit.slot_ne (Or.inr (hw _ (List.mem_of_getElem? (i := 47) rfl))) (Or.inr (hw _ (List.mem_of_getElem? (i := 49) rfl))) (by decide) (t := (.object "com/example/demarc/demarc/Propagation")) (t' := (.object "com/example/demarc/demarc/Isolation")) (by decide) (by decide)))
  replace Fd_timeout := Fd_timeout.other W13 (Or.inr (RoadKit.slot_ne (Or.inr (hw _ (List.mem_of_getElem? (i := 51) rfl))) (Or.inr (hw _ (List.mem_of_getElem? (i := 49) rfl))) (by decide) (t := .int) (t' := (.object "com/example/demarc/demarc/Isolation")) (by decide) (by decide)))
  replace Fd_readOnly := Fd_readOnly.other W13 (Or.inr (RoadKit.slot_ne (Or.inr (hw _ (List.mem_of_getElem? (i := 53) rfl))) (Or.inr (hw _ (List.mem_of_getElem? (i := 49) rfl))) (by decide) (t := .boolean) (t' := (.object "com/example/demarc/demarc/Isolation")) (by decide) (by decide)))
  replace Fd_name := Fd_name.other W13 (Or.inr (RoadKit.slot_ne (Or.inr (hw _ (List.mem_of_getElem? (i := 55) rfl))) (Or.inr (hw _ (List.mem_of_getElem? (i := 49) rfl))) (by decide) (t := (.object "java/lang/String")) (t' := (.object "com/example/demarc/demarc/Isolation")) (by decide) (by decide)))
  replace KX := KX.wr W13 (Or.inl (by simp))
  replace Fd_isolation := Fd_isolation.same W13
  replace Ad := Ad.wr W13
  replace X := X.aload_n (q := 52) d11_51 rfl rfl rfl
  replace X := X.iload_n (q := 53) d11_52 rfl rfl
  obtain ⟨hp14, W15, X⟩ := X.putfield (q := 56) (hw _ (List.mem_of_getElem? (i := 50) rfl)) Fd_timeout Ad (Or.inr ⟨(hw _ (List.mem_of_getElem? (i := 51) rfl)), rfl, hnm⟩) (hw _ (List.mem_of_getElem? (i := 20) rfl)) (ty := .int) (by decide) rfl rfl nd (by decide) (by decide) d11_53 rfl
  replace Fd_propagation := Fd_propagation.other W15 (Or.inr (RoadKit.slot_ne (Or.inr (hw _ (List.mem_of_getElem? (i := 47) rfl))) (Or.inr (hw _ (List.mem_of_getElem? (i := 51) rfl))) (by decide) (t := (.object "com/example/demarc/demarc/Propagation")) (t' := .int) (by decide) (by decide)))
  replace Fd_isolation := Fd_isolation.other W15 (Or.inr (RoadKit.slot_ne (Or.inr (hw _ (List.mem_of_getElem? (i := 49) rfl))) (Or.inr (hw _ (List.mem_of_getElem? (i := 51) rfl))) (by decide) (t := (.object "com/example/demarc/demarc/Isolation")) (t' := .int) (by decide) (by decide)))
  replace Fd_readOnly := Fd_readOnly.other W15 (Or.inr (RoadKit.slot_ne (Or.inr (hw _ (List.mem_of_getElem? (i := 53) rfl))) (Or.inr (hw _ (List.mem_of_getElem? (i := 51) rfl))) (by decide) (t := .boolean) (t' := .int) (by decide) (by decide)))
  replace Fd_name := Fd_name.other W15 (Or.inr (RoadKit.slot_ne (Or.inr (hw _ (List.mem_of_getElem? (i := 55) rfl))) (Or.inr (hw _ (List.mem_of_getElem? (i := 51) rfl))) (by decide) (t := (.object "java/lang/String")) (t' := .int) (by decide) (by decide)))
  replace KX := KX.wr W15 (Or.inl (by simp))
  replace Fd_timeout := Fd_timeout.same W15
  replace Ad := Ad.wr W15
  replace X := X.aload_n (q := 57) d11_56 rfl rfl rfl
  replace X := X.iload (q := 59) d11_57 rfl rfl
  obtain ⟨hp16, W17, X⟩ := X.putfield (q := 62) (hw _ (List.mem_of_getElem? (i := 52) rfl)) Fd_readOnly Ad (Or.inr ⟨(hw _ (List.mem_of_getElem? (i := 53) rfl)), rfl, hnm⟩) (hw _ (List.mem_of_getElem? (i := 20) rfl)) (ty := .boolean) (by decide) (narZ hr).1 (narZ hr).2 nd (by decide) (by decide) d11_59 rfl
  replace Fd_propagation := Fd_propagation.other W17 (Or.inr (RoadKit.slot_ne (Or.inr (hw _ (List.mem_of_getElem? (i := 47) rfl))) (Or.inr (hw _ (List.mem_of_getElem? (i := 53) rfl))) (by decide) (t := (.object "com/example/demarc/demarc/Propagation")) (t' := .boolean) (by decide) (by decide)))
  replace Fd_isolation := Fd_isolation.other W17 (Or.inr (RoadKit.slot_ne (Or.inr (hw _ (List.mem_of_getElem? (i := 49) rfl))) (Or.inr (hw _ (List.mem_of_getElem? (i := 53) rfl))) (by decide) (t := (.object "com/example/demarc/demarc/Isolation")) (t' := .boolean) (by decide) (by decide)))
  replace Fd_timeout := Fd_timeout.other W17 (Or.inr (RoadKit.slot_ne (Or.inr (hw _ (List.mem_of_getElem? (i := 51) rfl))) (Or.inr (hw _ (List.mem_of_getElem? (i := 53) rfl))) (by decide) (t := .int) (t' := .boolean) (by decide) (by decide)))
  replace Fd_name := Fd_name.other W17 (Or.inr (RoadKit.slot_ne (Or.inr (hw _ (List.mem_of_getElem? (i := 55) rfl))) (Or.inr (hw _ (List.mem_of_getElem? (i := 53) rfl))) (by decide) (t := (.object "java/lang/String")) (t' := .boolean) (by decide) (by decide)))
  replace KX := KX.wr W17 (Or.inl (by simp))
  replace Fd_readOnly := Fd_readOnly.same W17
  replace Ad := Ad.wr W17
  replace X := X.aload_n (q := 63) d11_62 rfl rfl rfl
  replace X := X.aload (q := 65) d11_63 rfl rN rfl
  obtain ⟨hp18, W19, X⟩ := X.putfield (q := 68) (hw _ (List.mem_of_getElem? (i := 54) rfl)) Fd_name Ad (Or.inr ⟨(hw _ (List.mem_of_getElem? (i := 55) rfl)), rfl, hnm⟩) (hw _ (List.mem_of_getElem? (i := 20) rfl)) (ty := (.object "java/lang/String")) (by decide) (narO rN _).1 (narO rN _).2 nd (by decide) (by decide) d11_65 rfl
  replace Fd_propagation := Fd_propagation.other W19 (Or.inr (RoadKit.slot_ne (Or.inr (hw _ (List.mem_of_getElem? (i := 47) rfl))) (Or.inr (hw _ (List.mem_of_getElem? (i := 55) rfl))) (by decide) (t := (.object "com/example/demarc/demarc/Propagation")) (t' := (.object "java/lang/String")) (by decide) (by decide)))
  replace Fd_isolation := Fd_isolation.other W19 (Or.inr (RoadKit.slot_ne (Or.inr (hw _ (List.mem_of_getElem? (i := 49) rfl))) (Or.inr (hw _ (List.mem_of_getElem? (i := 55) rfl))) (by decide) (t := (.object "com/example/demarc/demarc/Isolation")) (t' := (.object "java/lang/String")) (by decide) (by decide)))
  replace Fd_timeout := Fd_timeout.other W19 (Or.inr (RoadKit.slot_ne (Or.inr (hw _ (List.mem_of_getElem? (i := 51) rfl))) (Or.inr (hw _ (List.mem_of_getElem? (i := 55) rfl))) (by decide) (t := .int) (t' := (.object "java/lang/String")) (by decide) (by decide)))
  replace Fd_readOnly := Fd_readOnly.other W19 (Or.inr (RoadKit.slot_ne (Or.inr (hw _ (List.mem_of_getElem? (i := 53) rfl))) (Or.inr (hw _ (List.mem_of_getElem? (i := 55) rfl))) (by decide) (t := .boolean) (t' := (.object "java/lang/String")) (by decide) (by decide)))
  replace KX := KX.wr W19 (Or.inl (by simp))
  replace Fd_name := Fd_name.same W19
  replace Ad := Ad.wr W19
  exact X.ret hEL hret hlk d11_68 (by decide) (by decide) ⟨rfl, KX, Fd_propagation, Fd_isolation, Fd_timeout, Fd_readOnly, Fd_name⟩
set_option maxRecDepth 65536 in
set_option maxHeartbeats 40000000 in
theorem rm_with {l : Launch} {Z : State} {a0 : Array Value} (hw : ∀ d ∈ tables_1, d.before a0 Z = true) {G1 : Int32} {G3 : Value} (O2 : Sta Z Z.heap "java/lang/String" "COMPACT_STRINGS" "Z" (.int G1)) (P5 : ¬ G1 = 0) (O4 : Sta Z Z.heap "jdk/internal/util/Preconditions" "SIOOBE_FORMATTER" "Ljava/util/function/BiFunction;" G3) (rG3 : G3.isRef = true) (PS : ∀ n ∈ ["REQUIRED", "SUPPORTS", "MANDATORY", "REQUIRES_NEW", "NOT_SUPPORTED", "NEVER", "NESTED"], ∃ r, Sta Z Z.heap "com/example/demarc/demarc/Propagation" n "Lcom/example/demarc/demarc/Propagation;" (.ref r)) (IS : ∀ n ∈ ["DEFAULT", "READ_UNCOMMITTED", "READ_COMMITTED", "REPEATABLE_READ", "SERIALIZABLE"], ∃ r, Sta Z Z.heap "com/example/demarc/demarc/Isolation" n "Lcom/example/demarc/demarc/Isolation;" (.ref r)) {h : Heap} (O : Ext Z.heap h) {d rp ri : Addr} {tm ro : Int32} {nv : Value}  {x1 : Addr} {w1 : Value} (Ad : Exa Z h d "com/example/demarc/demarc/TransactionDefinition") (Fd_propagation : Fld Z h d "com/example/demarc/demarc/TransactionDefinition" "propagation" "Lcom/example/demarc/demarc/Propagation;" (.ref rp)) (Fd_isolation : Fld Z h d "com/example/demarc/demarc/TransactionDefinition" "isolation" "Lcom/example/demarc/demarc/Isolation;" (.ref ri)) (Fd_timeout : Fld Z h d "com/example/demarc/demarc/TransactionDefinition" "timeout" "I" (.int tm)) (Fd_readOnly : Fld Z h d "com/example/demarc/demarc/TransactionDefinition" "readOnly" "Z" (.int ro)) (Fd_name : Fld Z h d "com/example/demarc/demarc/TransactionDefinition" "name" "Ljava/lang/String;" nv) (ht : 0 < tm ∨ tm = -1) (hr : ro = 0 ∨ ro = 1) (rN : nv.isRef = true) (rW : w1.isRef = true) :
    Ctr l Z EL0 (⟨"com/example/demarc/demarc/TransactionDefinition", "withPropagation", "(Lcom/example/demarc/demarc/Propagation;)Lcom/example/demarc/demarc/TransactionDefinition;"⟩ : MethodName) prog_9_method_2_code 2 (some (.object "com/example/demarc/demarc/TransactionDefinition")) [] ({ frames := 3, cells := 5, slots := 93, locals := 70 } : Room) #[(.ref d), (.ref x1)] h [] (fun v h' => ∃ d2, v = some (.ref d2) ∧ Keep h h' [] ∧ h.size ≤ d2 ∧ Exa Z h' d2 "com/example/demarc/demarc/TransactionDefinition" ∧ Fld Z h' d2 "com/example/demarc/demarc/TransactionDefinition" "propagation" "Lcom/example/demarc/demarc/Propagation;" (.ref x1) ∧ Fld Z h' d2 "com/example/demarc/demarc/TransactionDefinition" "isolation" "Lcom/example/demarc/demarc/Isolation;" (.ref ri) ∧ Fld Z h' d2 "com/example/demarc/demarc/TransactionDefinition" "timeout" "I" (.int tm) ∧ Fld Z h' d2 "com/example/demarc/demarc/TransactionDefinition" "readOnly" "Z" (.int ro) ∧ Fld Z h' d2 "com/example/demarc/demarc/TransactionDefinition" "name" "Ljava/lang/String;" nv) := by
  refine Ctr.of pn5 O ?_
  intro p e s m below meth c s₁ hret hlk hnm X
  have hEL := hEL0 hw
  have KX : Keep h h [] := Keep.refl _ _
  replace X := X.cast (g' := (mkF m 0 #[.val (.ref d), .val (.ref x1)] [])) (by first | (simp [entryFrame, mkF, argsToLocals, Value.category]; done) | rfl)
  obtain ⟨d2, hp1, gd2, nd2, E2, Ad2, Dd2, X⟩ := X.new (C := "com/example/demarc/demarc/TransactionDefinition") (q := 3) (hw _ (List.mem_of_getElem? (i := 61) rfl)) (hw _ (List.mem_of_getElem? (i := 20) rfl)) (hw _ (List.mem_of_getElem? (i := 21) rfl)) d12_0 rfl (by decide) (by decide)
  have s_d2 : h.size ≤ d2 := by rw [gd2]; exact KX.1
  have ne_d_d2 : d ≠ d2 := by rw [gd2]; exact Nat.ne_of_lt Ad.lt
  replace KX := KX.ext E2
  replace Ad := Ad.ext E2
  replace Fd_propagation := Fd_propagation.ext E2
  replace Fd_isolation := Fd_isolation.ext E2
  replace Fd_timeout := Fd_timeout.ext E2
  replace Fd_readOnly := Fd_readOnly.ext E2
  replace Fd_name := Fd_name.ext E2
  have Fd2_propagation := Dd2 (Or.inr (hw _ (List.mem_of_getElem? (i := 47) rfl))) (ty := (.object "com/example/demarc/demarc/Propagation")) (by decide)
  have Fd2_isolation := Dd2 (Or.inr (hw _ (List.mem_of_getElem? (i := 49) rfl))) (ty := (.object "com/example/demarc/demarc/Isolation")) (by decide)
  have Fd2_timeout := Dd2 (Or.inr (hw _ (List.mem_of_getElem? (i := 51) rfl))) (ty := .int) (by decide)
  have Fd2_readOnly := Dd2 (Or.inr (hw _ (List.mem_of_getElem? (i := 53) rfl))) (ty := .boolean) (by decide)
  have Fd2_name := Dd2 (Or.inr (hw _ (List.mem_of_getElem? (i := 55) rfl))) (ty := (.object "java/lang/String")) (by decide)
  replace X := X.dup (q := 4) d12_3 rfl rfl
  replace X := X.aload_n (q := 5) d12_4 rfl rfl rfl
  replace X := X.aload_n (q := 6) d12_5 rfl rfl rfl
  replace X := X.getfield (q := 9) (hw _ (List.mem_of_getElem? (i := 48) rfl)) Fd_isolation d12_6 rfl
  replace X := X.aload_n (q := 10) d12_9 rfl rfl rfl
  replace X := X.getfield (q := 13) (hw _ (List.mem_of_getElem? (i := 50) rfl)) Fd_timeout d12_10 rfl
  replace X := X.aload_n (q := 14) d12_13 rfl rfl rfl
  replace X := X.getfield (q := 17) (hw _ (List.mem_of_getElem? (i := 52) rfl)) Fd_readOnly d12_14 rfl
  replace X := X.aload_n (q := 18) d12_17 rfl rfl rfl
  replace X := X.getfield (q := 21) (hw _ (List.mem_of_getElem? (i := 54) rfl)) Fd_name d12_18 rfl
  obtain ⟨_, hp3, ⟨rfl, K9, G0, G1, G2, G3, G4⟩, X⟩ := X.callI (q := 24) (rm_tdinit hw O2 P5 O4 rG3 PS IS X.old Ad2 Fd2_propagation Fd2_isolation Fd2_timeout Fd2_readOnly Fd2_name nd2 ht hr rN) hEL (fun _ q => nomatch q) rfl (hw _ (List.mem_of_getElem? (i := 62) rfl)) (hw _ (List.mem_of_getElem? (i := 23) rfl)) (hw _ (List.mem_of_getElem? (i := 21) rfl)) (hw _ (List.mem_of_getElem? (i := 24) rfl)) (by decide) pd6 (a := d2) (argsL := [(.ref x1), (.ref ri), (.int tm), (.int ro), nv]) (rest := [(.ref d2)]) rfl rfl rfl rfl d12_21 (by decide) (by first | decide | exact Nat.le_of_ble_eq_true rfl) (by decide) (by decide) rfl
  replace X := X [(.ref d2)] rfl
  replace Ad2 := Ad2.keep K9
  replace KX := KX.trans K9 (fun x q => by cases List.mem_singleton.mp q; exact Or.inr s_d2)
  exact X.areturn hEL hret rfl rfl rfl hlk d12_24 (by decide) (by decide) ⟨d2, rfl, KX, s_d2, Ad2, G0, G1, G2, G3, G4⟩
set_option maxRecDepth 65536 in
set_option maxHeartbeats 40000000 in
theorem rm_g_propagation {l : Launch} {Z : State} {a0 : Array Value} (hw : ∀ d ∈ tables_1, d.before a0 Z = true) {G1 : Int32} {G3 : Value} (O2 : Sta Z Z.heap "java/lang/String" "COMPACT_STRINGS" "Z" (.int G1)) (P5 : ¬ G1 = 0) (O4 : Sta Z Z.heap "jdk/internal/util/Preconditions" "SIOOBE_FORMATTER" "Ljava/util/function/BiFunction;" G3) (rG3 : G3.isRef = true) (PS : ∀ n ∈ ["REQUIRED", "SUPPORTS", "MANDATORY", "REQUIRES_NEW", "NOT_SUPPORTED", "NEVER", "NESTED"], ∃ r, Sta Z Z.heap "com/example/demarc/demarc/Propagation" n "Lcom/example/demarc/demarc/Propagation;" (.ref r)) (IS : ∀ n ∈ ["DEFAULT", "READ_UNCOMMITTED", "READ_COMMITTED", "REPEATABLE_READ", "SERIALIZABLE"], ∃ r, Sta Z Z.heap "com/example/demarc/demarc/Isolation" n "Lcom/example/demarc/demarc/Isolation;" (.ref r)) {h : Heap} (O : Ext Z.heap h) {d r : Addr} (F : Fld Z h d "com/example/demarc/demarc/TransactionDefinition" "propagation" "Lcom/example/demarc/demarc/Propagation;" (.ref r)) :
    Ctr l Z EL0 (⟨"com/example/demarc/demarc/TransactionDefinition", "propagation", "()Lcom/example/demarc/demarc/Propagation;"⟩ : MethodName) prog_9_method_10_code 1 (some (.object "com/example/demarc/demarc/Propagation")) [] ({ frames := 0, cells := 0, slots := 0, locals := 0 } : Room) #[(.ref d)] h [] (fun v h' => v = some (.ref r) ∧ h = h') := by
  refine Ctr.of pn5 O ?_
  intro p e s m below meth c s₁ hret hlk hnm X
  have hEL := hEL0 hw
  have KX : Keep h h [] := Keep.refl _ _
  replace X := X.cast (g' := (mkF m 0 #[.val (.ref d)] [])) (by first | (simp [entryFrame, mkF, argsToLocals, Value.category]; done) | rfl)
  replace X := X.aload_n (q := 1) d13_0 rfl rfl rfl
  replace X := X.getfield (q := 4) (hw _ (List.mem_of_getElem? (i := 46) rfl)) F d13_1 rfl
  exact X.areturn hEL hret rfl rfl rfl hlk d13_4 (by decide) (by decide) ⟨rfl, rfl⟩
set_option maxRecDepth 65536 in
set_option maxHeartbeats 40000000 in
theorem rm_g_isolation {l : Launch} {Z : State} {a0 : Array Value} (hw : ∀ d ∈ tables_1, d.before a0 Z = true) {G1 : Int32} {G3 : Value} (O2 : Sta Z Z.heap "java/lang/String" "COMPACT_STRINGS" "Z" (.int G1)) (P5 : ¬ G1 = 0) (O4 : Sta Z Z.heap "jdk/internal/util/Preconditions" "SIOOBE_FORMATTER" "Ljava/util/function/BiFunction;" G3) (rG3 : G3.isRef = true) (PS : ∀ n ∈ ["REQUIRED", "SUPPORTS", "MANDATORY", "REQUIRES_NEW", "NOT_SUPPORTED", "NEVER", "NESTED"], ∃ r, Sta Z Z.heap "com/example/demarc/demarc/Propagation" n "Lcom/example/demarc/demarc/Propagation;" (.ref r)) (IS : ∀ n ∈ ["DEFAULT", "READ_UNCOMMITTED", "READ_COMMITTED", "REPEATABLE_READ", "SERIALIZABLE"], ∃ r, Sta Z Z.heap "com/example/demarc/demarc/Isolation" n "Lcom/example/demarc/demarc/Isolation;" (.ref r)) {h : Heap} (O : Ext Z.heap h) {d r : Addr} (F : Fld Z h d "com/example/demarc/demarc/TransactionDefinition" "isolation" "Lcom/example/demarc/demarc/Isolation;" (.ref r)) :
    Ctr l Z EL0 (⟨"com/example/demarc/demarc/TransactionDefinition", "isolation", "()Lcom/example/demarc/demarc/Isolation;"⟩ : MethodName) prog_9_method_11_code 1 (some (.object "com/example/demarc/demarc/Isolation")) [] ({ frames := 0, cells := 0, slots := 0, locals := 0 } : Room) #[(.ref d)] h [] (fun v h' => v = some (.ref r) ∧ h = h') := by
  refine Ctr.of pn5 O ?_
  intro p e s m below meth c s₁ hret hlk hnm X
  have hEL := hEL0 hw
  have KX : Keep h h [] := Keep.refl _ _
  replace X := X.cast (g' := (mkF m 0 #[.val (.ref d)] [])) (by first | (simp [entryFrame, mkF, argsToLocals, Value.category]; done) | rfl)
  replace X := X.aload_n (q := 1) d14_0 rfl rfl rfl
  replace X := X.getfield (q := 4) (hw _ (List.mem_of_getElem? (i := 48) rfl)) F d14_1 rfl
  exact X.areturn hEL hret rfl rfl rfl hlk d14_4 (by decide) (by decide) ⟨rfl, rfl⟩
set_option maxRecDepth 65536 in
set_option maxHeartbeats 40000000 in
theorem rm_g_timeout {l : Launch} {Z : State} {a0 : Array Value} (hw : ∀ d ∈ tables_1, d.before a0 Z = true) {G1 : Int32} {G3 : Value} (O2 : Sta Z Z.heap "java/lang/String" "COMPACT_STRINGS" "Z" (.int G1)) (P5 : ¬ G1 = 0) (O4 : Sta Z Z.heap "jdk/internal/util/Preconditions" "SIOOBE_FORMATTER" "Ljava/util/function/BiFunction;" G3) (rG3 : G3.isRef = true) (PS : ∀ n ∈ ["REQUIRED", "SUPPORTS", "MANDATORY", "REQUIRES_NEW", "NOT_SUPPORTED", "NEVER", "NESTED"], ∃ r, Sta Z Z.heap "com/example/demarc/demarc/Propagation" n "Lcom/example/demarc/demarc/Propagation;" (.ref r)) (IS : ∀ n ∈ ["DEFAULT", "READ_UNCOMMITTED", "READ_COMMITTED", "REPEATABLE_READ", "SERIALIZABLE"], ∃ r, Sta Z Z.heap "com/example/demarc/demarc/Isolation" n "Lcom/example/demarc/demarc/Isolation;" (.ref r)) {h : Heap} (O : Ext Z.heap h) {d : Addr} {r : Int32} (F : Fld Z h d "com/example/demarc/demarc/TransactionDefinition" "timeout" "I" (.int r)) :
    Ctr l Z EL0 (⟨"com/example/demarc/demarc/TransactionDefinition", "timeout", "()I"⟩ : MethodName) prog_9_method_12_code 1 (some .int) [] ({ frames := 0, cells := 0, slots := 0, locals := 0 } : Room) #[(.ref d)] h [] (fun v h' => v = some (.int r) ∧ h = h') := by
  refine Ctr.of pn5 O ?_
  intro p e s m below meth c s₁ hret hlk hnm X
  have hEL := hEL0 hw
  have KX : Keep h h [] := Keep.refl _ _
  replace X := X.cast (g' := (mkF m 0 #[.val (.ref d)] [])) (by first | (simp [entryFrame, mkF, argsToLocals, Value.category]; done) | rfl)
  replace X := X.aload_n (q := 1) d15_0 rfl rfl rfl
  replace X := X.getfield (q := 4) (hw _ (List.mem_of_getElem? (i := 50) rfl)) F d15_1 rfl
  exact X.ireturn hEL hret (Or.inl rfl) rfl hlk d15_4 (by decide) (by decide) ⟨rfl, rfl⟩
set_option maxRecDepth 65536 in
set_option maxHeartbeats 40000000 in
theorem rm_g_readOnly {l : Launch} {Z : State} {a0 : Array Value} (hw : ∀ d ∈ tables_1, d.before a0 Z = true) {G1 : Int32} {G3 : Value} (O2 : Sta Z Z.heap "java/lang/String" "COMPACT_STRINGS" "Z" (.int G1)) (P5 : ¬ G1 = 0) (O4 : Sta Z Z.heap "jdk/internal/util/Preconditions" "SIOOBE_FORMATTER" "Ljava/util/function/BiFunction;" G3) (rG3 : G3.isRef = true) (PS : ∀ n ∈ ["REQUIRED", "SUPPORTS", "MANDATORY", "REQUIRES_NEW", "NOT_SUPPORTED", "NEVER", "NESTED"], ∃ r, Sta Z Z.heap "com/example/demarc/demarc/Propagation" n "Lcom/example/demarc/demarc/Propagation;" (.ref r)) (IS : ∀ n ∈ ["DEFAULT", "READ_UNCOMMITTED", "READ_COMMITTED", "REPEATABLE_READ", "SERIALIZABLE"], ∃ r, Sta Z Z.heap "com/example/demarc/demarc/Isolation" n "Lcom/example/demarc/demarc/Isolation;" (.ref r)) {h : Heap} (O : Ext Z.heap h) {d : Addr} {r : Int32} (hr : r = 0 ∨ r = 1) (F : Fld Z h d "com/example/demarc/demarc/TransactionDefinition" "readOnly" "Z" (.int r)) :
    Ctr l Z EL0 (⟨"com/example/demarc/demarc/TransactionDefinition", "readOnly", "()Z"⟩ : MethodName) prog_9_method_13_code 1 (some .boolean) [] ({ frames := 0, cells := 0, slots := 0, locals := 0 } : Room) #[(.ref d)] h [] (fun v h' => v = some (.int r) ∧ h = h') := by
  refine Ctr.of pn5 O ?_
  intro p e s m below meth c s₁ hret hlk hnm X
  have hEL := hEL0 hw
  have KX : Keep h h [] := Keep.refl _ _
  replace X := X.cast (g' := (mkF m 0 #[.val (.ref d)] [])) (by first | (simp [entryFrame, mkF, argsToLocals, Value.category]; done) | rfl)
  replace X := X.aload_n (q := 1) d16_0 rfl rfl rfl
  replace X := X.getfield (q := 4) (hw _ (List.mem_of_getElem? (i := 52) rfl)) F d16_1 rfl
  exact X.ireturn hEL hret (Or.inr (Or.inl rfl)) (narZ hr).1 hlk d16_4 (by decide) (by decide) ⟨rfl, rfl⟩
set_option maxRecDepth 65536 in
set_option maxHeartbeats 40000000 in
theorem rm_g_name {l : Launch} {Z : State} {a0 : Array Value} (hw : ∀ d ∈ tables_1, d.before a0 Z = true) {G1 : Int32} {G3 : Value} (O2 : Sta Z Z.heap "java/lang/String" "COMPACT_STRINGS" "Z" (.int G1)) (P5 : ¬ G1 = 0) (O4 : Sta Z Z.heap "jdk/internal/util/Preconditions" "SIOOBE_FORMATTER" "Ljava/util/function/BiFunction;" G3) (rG3 : G3.isRef = true) (PS : ∀ n ∈ ["REQUIRED", "SUPPORTS", "MANDATORY", "REQUIRES_NEW", "NOT_SUPPORTED", "NEVER", "NESTED"], ∃ r, Sta Z Z.heap "com/example/demarc/demarc/Propagation" n "Lcom/example/demarc/demarc/Propagation;" (.ref r)) (IS : ∀ n ∈ ["DEFAULT", "READ_UNCOMMITTED", "READ_COMMITTED", "REPEATABLE_READ", "SERIALIZABLE"], ∃ r, Sta Z Z.heap "com/example/demarc/demarc/Isolation" n "Lcom/example/demarc/demarc/Isolation;" (.ref r)) {h : Heap} (O : Ext Z.heap h) {d : Addr} {r : Value} (rN : r.isRef = true) (F : Fld Z h d "com/example/demarc/demarc/TransactionDefinition" "name" "Ljava/lang/String;" r) :
    Ctr l Z EL0 (⟨"com/example/demarc/demarc/TransactionDefinition", "name", "()Ljava/lang/String;"⟩ : MethodName) prog_9_method_14_code 1 (some (.object "java/lang/String")) [] ({ frames := 0, cells := 0, slots := 0, locals := 0 } : Room) #[(.ref d)] h [] (fun v h' => v = some r ∧ h = h') := by
  refine Ctr.of pn5 O ?_
  intro p e s m below meth c s₁ hret hlk hnm X
  have hEL := hEL0 hw
  have KX : Keep h h [] := Keep.refl _ _
  replace X := X.cast (g' := (mkF m 0 #[.val (.ref d)] [])) (by first | (simp [entryFrame, mkF, argsToLocals, Value.category]; done) | rfl)
  replace X := X.aload_n (q := 1) d17_0 rfl rfl rfl
  replace X := X.getfield (q := 4) (hw _ (List.mem_of_getElem? (i := 54) rfl)) F d17_1 rfl
  exact X.areturn hEL hret rfl rN (narO rN _).1 hlk d17_4 (by decide) (by decide) ⟨rfl, rfl⟩
set_option maxRecDepth 65536 in
set_option maxHeartbeats 40000000 in
theorem rm_mk {l : Launch} {Z : State} {a0 : Array Value} (hw : ∀ d ∈ tables_1, d.before a0 Z = true) {G1 : Int32} {G3 : Value} (O2 : Sta Z Z.heap "java/lang/String" "COMPACT_STRINGS" "Z" (.int G1)) (P5 : ¬ G1 = 0) (O4 : Sta Z Z.heap "jdk/internal/util/Preconditions" "SIOOBE_FORMATTER" "Ljava/util/function/BiFunction;" G3) (rG3 : G3.isRef = true) (PS : ∀ n ∈ ["REQUIRED", "SUPPORTS", "MANDATORY", "REQUIRES_NEW", "NOT_SUPPORTED", "NEVER", "NESTED"], ∃ r, Sta Z Z.heap "com/example/demarc/demarc/Propagation" n "Lcom/example/demarc/demarc/Propagation;" (.ref r)) (IS : ∀ n ∈ ["DEFAULT", "READ_UNCOMMITTED", "READ_COMMITTED", "REPEATABLE_READ", "SERIALIZABLE"], ∃ r, Sta Z Z.heap "com/example/demarc/demarc/Isolation" n "Lcom/example/demarc/demarc/Isolation;" (.ref r)) {h : Heap} (O : Ext Z.heap h) {nk x0 : Int32} :
    Ctr l Z EL0 (⟨"com/example/demarc/demarc/TransactionDefinitionWithPropagationPinLaw", "name", "(II)Ljava/lang/String;"⟩ : MethodName) method_4_code 2 (some (.object "java/lang/String")) [] ({ frames := 4, cells := 6, slots := 12, locals := 80 } : Room) #[(.int nk), (.int x0)] h [] (fun v h' => ∃ nv, v = some nv ∧ NmOk Z h' nv ∧ Keep h h' []) := by
  refine Ctr.of pn3 O ?_
  intro p e s m below meth c s₁ hret hlk hnm X
  have hEL := hEL0 hw
  have KX : Keep h h [] := Keep.refl _ _
  replace X := X.cast (g' := (mkF m 0 #[.val (.int nk), .val (.int x0)] [])) (by first | (simp [entryFrame, mkF, argsToLocals, Value.category]; done) | rfl)
  obtain ⟨c1, hc1⟩ : ∃ z, z = x0 &&& (255 : Int32) := ⟨_, rfl⟩
  obtain ⟨c2, hc2⟩ : ∃ z, z = (XT.ushr x0 (8 : Int32)) &&& (255 : Int32) := ⟨_, rfl⟩
  have b1 : ¬ c1 < 0 ∧ ¬ (255 : Int32) < c1 := by rw [hc1]; exact and255 _
  have b2 : ¬ c2 < 0 ∧ ¬ (255 : Int32) < c2 := by rw [hc2]; exact and255 _
  replace X := X.iload_n (q := 1) d18_0 rfl rfl
  rcases Decidable.em (nk = 0) with h0 | h0
  · skip
    replace X := X.ifNo (q := 4) d18_1 (teq h0).2 rfl
    replace X := X.aconst_null (q := 5) d18_4 rfl
    exact X.areturn hEL hret rfl rfl rfl hlk d18_5 (by decide) (by decide) ⟨_, rfl, Or.inl rfl, KX⟩
  · skip
    replace X := X.ifYes (q := 6) d18_1 (feq h0).2 (by decide) (by decide)
    replace X := X.iload_n (q := 7) d18_6 rfl rfl
    replace X := X.iconst (q := 8) (z := (1 : Int32)) d18_7 rfl rfl
    rcases Decidable.em (nk = 1) with h1 | h1
    · skip
      replace X := X.icmpNo (q := 11) d18_8 (teq h1).2 rfl
      obtain ⟨a1, hp1, ga1, na1, E2, Aa1, Da1, X⟩ := X.new (C := "java/lang/String") (q := 14) (hw _ (List.mem_of_getElem? (i := 122) rfl)) (hw _ (List.mem_of_getElem? (i := 35) rfl)) (hw _ (List.mem_of_getElem? (i := 34) rfl)) d18_11 rfl (by decide) (by decide)
      have s_a1 : h.size ≤ a1 := by rw [ga1]; exact KX.1
      replace KX := KX.ext E2
      have Fa1_value := Da1 (Or.inr (hw _ (List.mem_of_getElem? (i := 37) rfl))) (ty := (.array .byte)) (by decide)
      have Fa1_coder := Da1 (Or.inr (hw _ (List.mem_of_getElem? (i := 38) rfl))) (ty := .byte) (by decide)
      replace X := X.dup (q := 15) d18_14 rfl rfl
      replace X := X.iconst (q := 16) (z := (0 : Int32)) d18_15 rfl rfl
      obtain ⟨ar1, hp3, k5, gar1, nar1, E4, Var1, X⟩ := X.newarray (q := 18) (aty := .char) (hw _ (List.mem_of_getElem? (i := 123) rfl)) d18_16 rfl (by decide) (cap := 0) (by decide) (by decide) (by decide) (by decide) 0
      have s_ar1 : h.size ≤ ar1 := by rw [gar1]; exact KX.1
      have ne_a1_ar1 : a1 ≠ ar1 := by rw [gar1]; exact Nat.ne_of_lt Aa1.lt
      replace KX := KX.ext E4
      replace Aa1 := Aa1.ext E4
      replace Fa1_value := Fa1_value.ext E4
      replace Fa1_coder := Fa1_coder.ext E4
      obtain ⟨_, hp7, ⟨rfl, K6, Sa1⟩, X⟩ := X.callI (q := 21) (rm_s1 hw O2 P5 O4 rG3 PS IS X.old Aa1 Fa1_value Fa1_coder na1 Var1) hEL (by simp) rfl (hw _ (List.mem_of_getElem? (i := 124) rfl)) (hw _ (List.mem_of_getElem? (i := 125) rfl)) (hw _ (List.mem_of_getElem? (i := 34) rfl)) (hw _ (List.mem_of_getElem? (i := 126) rfl)) (by decide) pd7 (a := a1) (argsL := [(.ref ar1)]) (rest := [(.ref a1)]) rfl rfl rfl rfl d18_18 (by decide) (by first | decide | exact Nat.le_of_ble_eq_true rfl) (by decide) (by decide) rfl
      replace X := X [(.ref a1)] rfl
      replace KX := KX.trans K6 (fun x q => by cases List.mem_singleton.mp q; exact Or.inr s_a1)
      exact X.areturn hEL hret rfl rfl rfl hlk d18_21 (by decide) (by decide) ⟨_, rfl, Or.inr ⟨a1, rfl, Sa1.exa⟩, KX⟩
    · skip
      replace X := X.icmpYes (q := 22) d18_8 (feq h1).2 (by decide) (by decide)
      replace X := X.iload_n (q := 23) d18_22 rfl rfl
      replace X := X.iconst (q := 24) (z := (2 : Int32)) d18_23 rfl rfl
      rcases Decidable.em (nk = 2) with h2 | h2
      · skip
        replace X := X.icmpNo (q := 27) d18_24 (teq h2).2 rfl
        replace X := X.iload_n (q := 28) d18_27 rfl rfl
        replace X := X.sipush (q := 31) (z := (255 : Int32)) d18_28 rfl rfl
        replace X := X.iand (q := 32) (z := c1) d18_31 hc1.symm rfl
        replace X := X.i2c (q := 33) (z := c1) d18_32 (i2c8 b1) rfl
        obtain ⟨_, hp1, ⟨a1, rfl, K1, Sa1⟩, X⟩ := X.callS (q := 36) (rm_vof hw O2 P5 O4 rG3 PS IS X.old b1) hEL (fun _ q => nomatch q) (hw _ (List.mem_of_getElem? (i := 96) rfl)) (hw _ (List.mem_of_getElem? (i := 97) rfl)) (hw _ (List.mem_of_getElem? (i := 34) rfl)) (hw _ (List.mem_of_getElem? (i := 98) rfl)) (by decide) pd8 (argsL := [(.int c1)]) (rest := []) rfl rfl rfl rfl d18_33 (by decide) (by first | decide | exact Nat.le_of_ble_eq_true rfl) (by decide) (by decide) rfl
        replace X := X [(.ref a1)] rfl
        replace KX := KX.trans K1 (fun _ q => nomatch q)
        exact X.areturn hEL hret rfl rfl rfl hlk d18_36 (by decide) (by decide) ⟨_, rfl, Or.inr ⟨a1, rfl, Sa1.exa⟩, KX⟩
      · skip
        replace X := X.icmpYes (q := 37) d18_24 (feq h2).2 (by decide) (by decide)
        obtain ⟨a1, hp1, ga1, na1, E2, Aa1, Da1, X⟩ := X.new (C := "java/lang/String") (q := 40) (hw _ (List.mem_of_getElem? (i := 122) rfl)) (hw _ (List.mem_of_getElem? (i := 35) rfl)) (hw _ (List.mem_of_getElem? (i := 34) rfl)) d18_37 rfl (by decide) (by decide)
        have s_a1 : h.size ≤ a1 := by rw [ga1]; exact KX.1
        replace KX := KX.ext E2
        have Fa1_value := Da1 (Or.inr (hw _ (List.mem_of_getElem? (i := 37) rfl))) (ty := (.array .byte)) (by decide)
        have Fa1_coder := Da1 (Or.inr (hw _ (List.mem_of_getElem? (i := 38) rfl))) (ty := .byte) (by decide)
        replace X := X.dup (q := 41) d18_40 rfl rfl
        replace X := X.iconst (q := 42) (z := (2 : Int32)) d18_41 rfl rfl
        obtain ⟨ar1, hp3, k5, gar1, nar1, E4, Var1, X⟩ := X.newarray (q := 44) (aty := .char) (hw _ (List.mem_of_getElem? (i := 123) rfl)) d18_42 rfl (by decide) (cap := 2) (by decide) (by decide) (by decide) (by decide) 2
        have s_ar1 : h.size ≤ ar1 := by rw [gar1]; exact KX.1
        have ne_a1_ar1 : a1 ≠ ar1 := by rw [gar1]; exact Nat.ne_of_lt Aa1.lt
        replace KX := KX.ext E4
        replace Aa1 := Aa1.ext E4
        replace Fa1_value := Fa1_value.ext E4
        replace Fa1_coder := Fa1_coder.ext E4
        replace X := X.dup (q := 45) d18_44 rfl rfl
        replace X := X.iconst (q := 46) (z := (0 : Int32)) d18_45 rfl rfl
        replace X := X.iload_n (q := 47) d18_46 rfl rfl
        replace X := X.sipush (q := 50) (z := (255 : Int32)) d18_47 rfl rfl
        replace X := X.iand (q := 51) (z := c1) d18_50 hc1.symm rfl
        replace X := X.i2c (q := 52) (z := c1) d18_51 (i2c8 b1) rfl
        obtain ⟨hp6, K7, zhp6, Var1', X⟩ := X.castore (q := 53) Var1 nar1 (by decide) (nar8 b1) (i := 0) rfl (by first | decide | exact Nat.le_of_ble_eq_true rfl) d18_52 rfl
        replace KX := KX.trans K7 (fun x q => by cases List.mem_singleton.mp q; exact Or.inr s_ar1)
        replace Aa1 := Aa1.keep K7
        replace Fa1_value := Fa1_value.keep K7 (ninS ne_a1_ar1 nin0)
        replace Fa1_coder := Fa1_coder.keep K7 (ninS ne_a1_ar1 nin0)
        replace Var1 := Var1'
        replace X := X.dup (q := 54) d18_53 rfl rfl
        replace X := X.iconst (q := 55) (z := (1 : Int32)) d18_54 rfl rfl
        replace X := X.iload_n (q := 56) d18_55 rfl rfl
        replace X := X.bipush (q := 58) (z := (8 : Int32)) d18_56 rfl rfl
        replace X := X.iushr (q := 59) (z := (XT.ushr x0 (8 : Int32))) d18_58 rfl rfl
        replace X := X.sipush (q := 62) (z := (255 : Int32)) d18_59 rfl rfl
        replace X := X.iand (q := 63) (z := c2) d18_62 hc2.symm rfl
        replace X := X.i2c (q := 64) (z := c2) d18_63 (i2c8 b2) rfl
        obtain ⟨hp8, K9, zhp8, Var1', X⟩ := X.castore (q := 65) Var1 nar1 (by decide) (nar8 b2) (i := 1) rfl (by first | decide | exact Nat.le_of_ble_eq_true rfl) d18_64 rfl
        replace KX := KX.trans K9 (fun x q => by cases List.mem_singleton.mp q; exact Or.inr s_ar1)
        replace Aa1 := Aa1.keep K9
        replace Fa1_value := Fa1_value.keep K9 (ninS ne_a1_ar1 nin0)
        replace Fa1_coder := Fa1_coder.keep K9 (ninS ne_a1_ar1 nin0)
        replace Var1 := Var1'
        replace Var1 : Arv Z _ ar1 k5 .char (2 : Int32) (([c1, c2] : List Int32).map Value.int) (.int 0) := Var1
        obtain ⟨hp10, K11, Sa1, X⟩ := X.strInit (q := 68) (hws_of hw) (hw _ (List.mem_of_getElem? (i := 35) rfl)) (hw _ (List.mem_of_getElem? (i := 124) rfl)) (hw _ (List.mem_of_getElem? (i := 125) rfl)) (hw _ (List.mem_of_getElem? (i := 126) rfl)) Aa1 Fa1_value Fa1_coder Var1 O2 P5 na1 (by simp) (n := 2) rfl rfl (by decide) (by decide) (by intro c hc; simp only [List.mem_cons, List.not_mem_nil, or_false] at hc; rcases hc with rfl | rfl <;> assumption) rfl d18_65 (by decide) (by first | decide | exact Nat.le_of_ble_eq_true rfl) (by decide) (by decide) rfl
        replace KX := KX.trans K11 (fun x q => by cases List.mem_singleton.mp q; exact Or.inr s_a1)
        exact X.areturn hEL hret rfl rfl rfl hlk d18_68 (by decide) (by decide) ⟨_, rfl, Or.inr ⟨a1, rfl, Sa1.exa⟩, KX⟩
set_option maxRecDepth 65536 in
set_option maxHeartbeats 40000000 in
theorem rm_law {l : Launch} {Z : State} {a0 : Array Value} (hw : ∀ d ∈ tables_1, d.before a0 Z = true) {G1 : Int32} {G3 : Value} (O2 : Sta Z Z.heap "java/lang/String" "COMPACT_STRINGS" "Z" (.int G1)) (P5 : ¬ G1 = 0) (O4 : Sta Z Z.heap "jdk/internal/util/Preconditions" "SIOOBE_FORMATTER" "Ljava/util/function/BiFunction;" G3) (rG3 : G3.isRef = true) (PS : ∀ n ∈ ["REQUIRED", "SUPPORTS", "MANDATORY", "REQUIRES_NEW", "NOT_SUPPORTED", "NEVER", "NESTED"], ∃ r, Sta Z Z.heap "com/example/demarc/demarc/Propagation" n "Lcom/example/demarc/demarc/Propagation;" (.ref r)) (IS : ∀ n ∈ ["DEFAULT", "READ_UNCOMMITTED", "READ_COMMITTED", "REPEATABLE_READ", "SERIALIZABLE"], ∃ r, Sta Z Z.heap "com/example/demarc/demarc/Isolation" n "Lcom/example/demarc/demarc/Isolation;" (.ref r)) {h : Heap} (O : Ext Z.heap h) {p0 p1 p2 p3 p4 p5 : Int32} :
    Ctr l Z EL0 x code maxLocals ret tables_1 room_1 #[(.int p0), (.int p1), (.int p2), (.int p3), (.int p4), (.int p5)] h [] (fun v h' => v = some (.int 1)) := by
  refine Ctr.of pn3 O ?_
  intro p e s m below meth c s₁ hret hlk hnm X
  have hEL := hEL0 hw
  have KX : Keep h h [] := Keep.refl _ _
  replace X := X.cast (g' := (mkF m 0 #[.val (.int p0), .val (.int p1), .val (.int p2), .val (.int p3), .val (.int p4), .val (.int p5), .unset, .unset, .unset, .unset, .unset, .unset, .unset, .unset, .unset, .unset] [])) (by first | (simp [entryFrame, mkF, argsToLocals, Value.category, maxLocals]; done) | rfl)
  replace X := X.iload_n (q := 1) at_0 rfl rfl
  obtain ⟨_, hp1, ⟨rp, rfl, rfl⟩, X⟩ := X.callS (q := 4) (rm_prop hw O2 P5 O4 rG3 PS IS X.old (x0 := p0)) hEL (fun _ q => nomatch q) (hw _ (List.mem_of_getElem? (i := 0) rfl)) (hw _ (List.mem_of_getElem? (i := 1) rfl)) (hw _ (List.mem_of_getElem? (i := 2) rfl)) (hw _ (List.mem_of_getElem? (i := 3) rfl)) (by decide) pd9 (argsL := [(.int p0)]) (rest := []) rfl rfl rfl rfl at_1 (by decide) (by first | decide | exact Nat.le_of_ble_eq_true rfl) (by decide) (by decide) rfl
  replace X := X [(.ref rp)] rfl
  replace X := X.astore (q := 6) (Ls' := #[.val (.int p0), .val (.int p1), .val (.int p2), .val (.int p3), .val (.int p4), .val (.int p5), .val (.ref rp), .unset, .unset, .unset, .unset, .unset, .unset, .unset, .unset, .unset]) at_4 rfl rfl rfl
  replace X := X.iload_n (q := 7) at_6 rfl rfl
  obtain ⟨_, hp2, ⟨rq, rfl, rfl⟩, X⟩ := X.callS (q := 10) (rm_prop hw O2 P5 O4 rG3 PS IS X.old (x0 := p1)) hEL (fun _ q => nomatch q) (hw _ (List.mem_of_getElem? (i := 0) rfl)) (hw _ (List.mem_of_getElem? (i := 1) rfl)) (hw _ (List.mem_of_getElem? (i := 2) rfl)) (hw _ (List.mem_of_getElem? (i := 3) rfl)) (by decide) pd9 (argsL := [(.int p1)]) (rest := []) rfl rfl rfl rfl at_7 (by decide) (by first | decide | exact Nat.le_of_ble_eq_true rfl) (by decide) (by decide) rfl
  replace X := X [(.ref rq)] rfl
  replace X := X.astore (q := 12) (Ls' := #[.val (.int p0), .val (.int p1), .val (.int p2), .val (.int p3), .val (.int p4), .val (.int p5), .val (.ref rp), .val (.ref rq), .unset, .unset, .unset, .unset, .unset, .unset, .unset, .unset]) at_10 rfl rfl rfl
  replace X := X.iload_n (q := 13) at_12 rfl rfl
  obtain ⟨_, hp3, ⟨ri, rfl, rfl⟩, X⟩ := X.callS (q := 16) (rm_iso hw O2 P5 O4 rG3 PS IS X.old (x0 := p2)) hEL (fun _ q => nomatch q) (hw _ (List.mem_of_getElem? (i := 10) rfl)) (hw _ (List.mem_of_getElem? (i := 11) rfl)) (hw _ (List.mem_of_getElem? (i := 2) rfl)) (hw _ (List.mem_of_getElem? (i := 12) rfl)) (by decide) pd10 (argsL := [(.int p2)]) (rest := []) rfl rfl rfl rfl at_13 (by decide) (by first | decide | exact Nat.le_of_ble_eq_true rfl) (by decide) (by decide) rfl
  replace X := X [(.ref ri)] rfl
  replace X := X.astore (q := 18) (Ls' := #[.val (.int p0), .val (.int p1), .val (.int p2), .val (.int p3), .val (.int p4), .val (.int p5), .val (.ref rp), .val (.ref rq), .val (.ref ri), .unset, .unset, .unset, .unset, .unset, .unset, .unset]) at_16 rfl rfl rfl
  replace X := X.iload_n (q := 19) at_18 rfl rfl
  replace X := X.more (cells' := 0) (slots' := 0) (by decide) (by decide)
  have J : ∃ tm : Int32, (0 < tm ∨ tm = -1) ∧ Wk p l e room_1 s m #[(.int p0), (.int p1), (.int p2), (.int p3), (.int p4), (.int p5)] below meth c Z EL0 x.cls code maxLocals s₁ (entryFrame m #[(.int p0), (.int p1), (.int p2), (.int p3), (.int p4), (.int p5)] maxLocals) (mkF m 29 #[.val (.int p0), .val (.int p1), .val (.int p2), .val (.int p3), .val (.int p4), .val (.int p5), .val (.ref rp), .val (.ref rq), .val (.ref ri), .val (.int tm), .unset, .unset, .unset, .unset, .unset, .unset] []) h 0 0 [] := by
    rcases Decidable.em (0 < p3) with h1 | h1
    · skip
      replace X := X.ifYes (q := 26) at_19 (tlt h1).2.2.1 (by decide) (by decide)
      replace X := X.iload_n (q := 27) at_26 rfl rfl
      replace X := X.istore (q := 29) (Ls' := #[.val (.int p0), .val (.int p1), .val (.int p2), .val (.int p3), .val (.int p4), .val (.int p5), .val (.ref rp), .val (.ref rq), .val (.ref ri), .val (.int p3), .unset, .unset, .unset, .unset, .unset, .unset]) at_27 rfl rfl
      exact ⟨_, Or.inl h1, X⟩
    · skip
      replace X := X.ifNo (q := 22) at_19 (flt h1).2.2.1 rfl
      replace X := X.iconst (q := 23) (z := (-1 : Int32)) at_22 rfl rfl
      replace X := X.goto (q := 27) at_23 (by decide) (by decide)
      replace X := X.istore (q := 29) (Ls' := #[.val (.int p0), .val (.int p1), .val (.int p2), .val (.int p3), .val (.int p4), .val (.int p5), .val (.ref rp), .val (.ref rq), .val (.ref ri), .val (.int (-1 : Int32)), .unset, .unset, .unset, .unset, .unset, .unset]) at_27 rfl rfl
      exact ⟨_, Or.inr rfl, X⟩
  clear X
  obtain ⟨tm, htm, X⟩ := J
  replace X := X.iload (q := 31) at_29 rfl rfl
  replace X := X.iconst (q := 32) (z := (1 : Int32)) at_31 rfl rfl
  replace X := X.iand (q := 33) (z := (p4 &&& (1 : Int32))) at_32 rfl rfl
  have J : ∃ ro : Int32, (ro = 0 ∨ ro = 1) ∧ Wk p l e room_1 s m #[(.int p0), (.int p1), (.int p2), (.int p3), (.int p4), (.int p5)] below meth c Z EL0 x.cls code maxLocals s₁ (entryFrame m #[(.int p0), (.int p1), (.int p2), (.int p3), (.int p4), (.int p5)] maxLocals) (mkF m 43 #[.val (.int p0), .val (.int p1), .val (.int p2), .val (.int p3), .val (.int p4), .val (.int p5), .val (.ref rp), .val (.ref rq), .val (.ref ri), .val (.int tm), .val (.int ro), .unset, .unset, .unset, .unset, .unset] []) h 0 0 [] := by
    rcases Decidable.em ((p4 &&& (1 : Int32)) = 0) with h1 | h1
    · skip
      replace X := X.ifYes (q := 40) at_33 (teq h1).1 (by decide) (by decide)
      replace X := X.iconst (q := 41) (z := (0 : Int32)) at_40 rfl rfl
      replace X := X.istore (q := 43) (Ls' := #[.val (.int p0), .val (.int p1), .val (.int p2), .val (.int p3), .val (.int p4), .val (.int p5), .val (.ref rp), .val (.ref rq), .val (.ref ri), .val (.int tm), .val (.int (0 : Int32)), .unset, .unset, .unset, .unset, .unset]) at_41 rfl rfl
      exact ⟨_, Or.inl rfl, X⟩
    · skip
      replace X := X.ifNo (q := 36) at_33 (feq h1).1 rfl
      replace X := X.iconst (q := 37) (z := (1 : Int32)) at_36 rfl rfl
      replace X := X.goto (q := 41) at_37 (by decide) (by decide)
      replace X := X.istore (q := 43) (Ls' := #[.val (.int p0), .val (.int p1), .val (.int p2), .val (.int p3), .val (.int p4), .val (.int p5), .val (.ref rp), .val (.ref rq), .val (.ref ri), .val (.int tm), .val (.int (1 : Int32)), .unset, .unset, .unset, .unset, .unset]) at_41 rfl rfl
      exact ⟨_, Or.inr rfl, X⟩
  clear X
  obtain ⟨ro, hro, X⟩ := J
  replace X := X.iload (q := 45) at_43 rfl rfl
  replace X := X.iconst (q := 46) (z := (1 : Int32)) at_45 rfl rfl
  replace X := X.iushr (q := 47) (z := (XT.ushr p4 (1 : Int32))) at_46 rfl rfl
  replace X := X.iconst (q := 48) (z := (3 : Int32)) at_47 rfl rfl
  replace X := X.iand (q := 49) (z := ((XT.ushr p4 (1 : Int32)) &&& (3 : Int32))) at_48 rfl rfl
  replace X := X.iload (q := 51) at_49 rfl rfl
  obtain ⟨_, hpy4, ⟨nv, rfl, Nm, KN⟩, X⟩ := X.callS (q := 54) (rm_mk hw O2 P5 O4 rG3 PS IS X.old) hEL (fun _ q => nomatch q) (hw _ (List.mem_of_getElem? (i := 16) rfl)) (hw _ (List.mem_of_getElem? (i := 17) rfl)) (hw _ (List.mem_of_getElem? (i := 2) rfl)) (hw _ (List.mem_of_getElem? (i := 18) rfl)) (by decide) pd11 (argsL := [(.int ((XT.ushr p4 (1 : Int32)) &&& (3 : Int32))), (.int p5)]) (rest := []) rfl rfl rfl rfl at_51 (by decide) (by first | decide | exact Nat.le_of_ble_eq_true rfl) (by decide) (by decide) rfl
  replace X := X [nv] rfl
  replace KX := KX.trans KN (fun _ q => nomatch q)
  replace X := X.astore (q := 56) (Ls' := #[.val (.int p0), .val (.int p1), .val (.int p2), .val (.int p3), .val (.int p4), .val (.int p5), .val (.ref rp), .val (.ref rq), .val (.ref ri), .val (.int tm), .val (.int ro), .val nv, .unset, .unset, .unset, .unset]) at_54 Nm.ref (storeLocals_cat1 (x := .unset) rfl (cat_of_ref Nm.ref) trivial) rfl
  obtain ⟨d, hpy5, gd, nd, Ey6, Ad, Dd, X⟩ := X.new (C := "com/example/demarc/demarc/TransactionDefinition") (q := 59) (hw _ (List.mem_of_getElem? (i := 19) rfl)) (hw _ (List.mem_of_getElem? (i := 20) rfl)) (hw _ (List.mem_of_getElem? (i := 21) rfl)) at_56 rfl (by decide) (by decide)
  have s_d : h.size ≤ d := by rw [gd]; exact KX.1
  replace KX := KX.ext Ey6
  replace Nm := Nm.ext Ey6
  have Fd_propagation := Dd (Or.inr (hw _ (List.mem_of_getElem? (i := 47) rfl))) (ty := (.object "com/example/demarc/demarc/Propagation")) (by decide)
  have Fd_isolation := Dd (Or.inr (hw _ (List.mem_of_getElem? (i := 49) rfl))) (ty := (.object "com/example/demarc/demarc/Isolation")) (by decide)
  have Fd_timeout := Dd (Or.inr (hw _ (List.mem_of_getElem? (i := 51) rfl))) (ty := .int) (by decide)
  have Fd_readOnly := Dd (Or.inr (hw _ (List.mem_of_getElem? (i := 53) rfl))) (ty := .boolean) (by decide)
  have Fd_name := Dd (Or.inr (hw _ (List.mem_of_getElem? (i := 55) rfl))) (ty := (.object "java/lang/String")) (by decide)
  replace X := X.dup (q := 60) at_59 rfl rfl
  replace X := X.aload (q := 62) at_60 rfl rfl rfl
  replace X := X.aload (q := 64) at_62 rfl rfl rfl
  replace X := X.iload (q := 66) at_64 rfl rfl
  replace X := X.iload (q := 68) at_66 rfl rfl
  replace X := X.aload (q := 70) at_68 rfl Nm.ref rfl
  obtain ⟨_, hpy7, ⟨rfl, K9, G_propagation, G_isolation, G_timeout, G_readOnly, G_name⟩, X⟩ := X.callI (q := 73) (rm_tdinit hw O2 P5 O4 rG3 PS IS X.old Ad Fd_propagation Fd_isolation Fd_timeout Fd_readOnly Fd_name nd htm hro Nm.ref) hEL (fun _ q => nomatch q) rfl (hw _ (List.mem_of_getElem? (i := 22) rfl)) (hw _ (List.mem_of_getElem? (i := 23) rfl)) (hw _ (List.mem_of_getElem? (i := 21) rfl)) (hw _ (List.mem_of_getElem? (i := 24) rfl)) (by decide) pd6 (a := d) (argsL := [(.ref rp), (.ref ri), (.int tm), (.int ro), nv]) (rest := [(.ref d)]) rfl rfl rfl rfl at_70 (by decide) (by first | decide | exact Nat.le_of_ble_eq_true rfl) (by decide) (by decide) rfl
  replace X := X [(.ref d)] rfl
  replace KX := KX.trans K9 (fun x q => by cases List.mem_singleton.mp q; exact Or.inr s_d)
  replace Nm := Nm.keep K9
  replace Ad := Ad.keep K9
  replace X := X.astore (q := 75) (Ls' := #[.val (.int p0), .val (.int p1), .val (.int p2), .val (.int p3), .val (.int p4), .val (.int p5), .val (.ref rp), .val (.ref rq), .val (.ref ri), .val (.int tm), .val (.int ro), .val nv, .val (.ref d), .unset, .unset, .unset]) at_73 rfl rfl rfl
  replace X := X.aload (q := 77) at_75 rfl rfl rfl
  replace X := X.aload (q := 79) at_77 rfl rfl rfl
  obtain ⟨_, hpy8, ⟨d2, rfl, K8, s_d2, Ad2, R_propagation, R_isolation, R_timeout, R_readOnly, R_name⟩, X⟩ := X.callV (q := 82) (rm_with hw O2 P5 O4 rG3 PS IS X.old (x1 := rq) (w1 := .null) Ad G_propagation G_isolation G_timeout G_readOnly G_name htm hro Nm.ref rfl) hEL (fun _ q => nomatch q) (hw _ (List.mem_of_getElem? (i := 56) rfl)) (hw _ (List.mem_of_getElem? (i := 57) rfl)) (hw _ (List.mem_of_getElem? (i := 59) rfl)) (hw _ (List.mem_of_getElem? (i := 59) rfl)) (hw _ (List.mem_of_getElem? (i := 58) rfl)) (hw _ (List.mem_of_getElem? (i := 21) rfl)) (hw _ (List.mem_of_getElem? (i := 60) rfl)) (by decide) pd12 Ad (argsL := [(.ref rq)]) (rest := []) rfl rfl rfl rfl at_79 (by decide) (by first | decide | exact Nat.le_of_ble_eq_true rfl) (by decide) (by decide) rfl
  replace X := X [(.ref d2)] rfl
  replace KX := KX.trans K8 (fun _ q => nomatch q)
  replace Nm := Nm.keep K8
  replace Ad := Ad.keep K8
  replace G_propagation := G_propagation.keep K8 nin0
  replace G_isolation := G_isolation.keep K8 nin0
  replace G_timeout := G_timeout.keep K8 nin0
  replace G_readOnly := G_readOnly.keep K8 nin0
  replace G_name := G_name.keep K8 nin0
  replace X := X.astore (q := 84) (Ls' := #[.val (.int p0), .val (.int p1), .val (.int p2), .val (.int p3), .val (.int p4), .val (.int p5), .val (.ref rp), .val (.ref rq), .val (.ref ri), .val (.int tm), .val (.int ro), .val nv, .val (.ref d), .val (.ref d2), .unset, .unset]) at_82 rfl rfl rfl
  replace X := X.aload (q := 86) at_84 rfl rfl rfl
  replace X := X.ifnonnullYes (q := 91) at_86 (by decide) (by decide)
  replace X := X.aload (q := 93) at_91 rfl rfl rfl
  obtain ⟨_, hpy9, ⟨rfl, rfl⟩, X⟩ := X.callV (q := 96) (rm_g_name hw O2 P5 O4 rG3 PS IS X.old Nm.ref R_name) hEL (fun _ q => nomatch q) (hw _ (List.mem_of_getElem? (i := 63) rfl)) (hw _ (List.mem_of_getElem? (i := 64) rfl)) (hw _ (List.mem_of_getElem? (i := 66) rfl)) (hw _ (List.mem_of_getElem? (i := 66) rfl)) (hw _ (List.mem_of_getElem? (i := 65) rfl)) (hw _ (List.mem_of_getElem? (i := 21) rfl)) (hw _ (List.mem_of_getElem? (i := 67) rfl)) (by decide) pd13 Ad2 (argsL := []) (rest := []) rfl rfl rfl rfl at_93 (by decide) (by first | decide | exact Nat.le_of_ble_eq_true rfl) (by decide) (by decide) rfl
  replace X := X [nv] rfl
  replace X := X.astore (q := 98) (Ls' := #[.val (.int p0), .val (.int p1), .val (.int p2), .val (.int p3), .val (.int p4), .val (.int p5), .val (.ref rp), .val (.ref rq), .val (.ref ri), .val (.int tm), .val (.int ro), .val nv, .val (.ref d), .val (.ref d2), .val nv, .unset]) at_96 Nm.ref (storeLocals_cat1 (x := .unset) rfl (cat_of_ref Nm.ref) trivial) rfl
  replace X := X.more (cells' := 20) (slots' := 300) (by decide) (by decide)
  replace X := X.drop (sf' := []) (fun _ q => nomatch q)
  have J : Wk p l e room_1 s m #[(.int p0), (.int p1), (.int p2), (.int p3), (.int p4), (.int p5)] below meth c Z EL0 x.cls code maxLocals s₁ (entryFrame m #[(.int p0), (.int p1), (.int p2), (.int p3), (.int p4), (.int p5)] maxLocals) (mkF m 125 #[.val (.int p0), .val (.int p1), .val (.int p2), .val (.int p3), .val (.int p4), .val (.int p5), .val (.ref rp), .val (.ref rq), .val (.ref ri), .val (.int tm), .val (.int ro), .val nv, .val (.ref d), .val (.ref d2), .val nv, .val (.int (1 : Int32))] []) hpy8 20 300 [] := by
    rcases Nm with rfl | ⟨q, rfl, Eq⟩
    · skip
      replace X := X.aload (q := 100) at_98 rfl rfl rfl
      replace X := X.ifnonnullNo (q := 103) at_100 rfl
      replace X := X.aload (q := 105) at_103 rfl rfl rfl
      replace X := X.ifnonnullNo (q := 108) at_105 rfl
      replace X := X.iconst (q := 109) (z := (1 : Int32)) at_108 rfl rfl
      replace X := X.goto (q := 123) at_109 (by decide) (by decide)
      replace X := X.istore (q := 125) (Ls' := #[.val (.int p0), .val (.int p1), .val (.int p2), .val (.int p3), .val (.int p4), .val (.int p5), .val (.ref rp), .val (.ref rq), .val (.ref ri), .val (.int tm), .val (.int ro), .val .null, .val (.ref d), .val (.ref d2), .val .null, .val (.int (1 : Int32))]) at_123 rfl rfl
      exact X
    · skip
      replace X := X.aload (q := 100) at_98 rfl rfl rfl
      replace X := X.ifnonnullYes (q := 116) at_100 (by decide) (by decide)
      replace X := X.aload (q := 118) at_116 rfl rfl rfl
      replace X := X.aload (q := 120) at_118 rfl rfl rfl
      obtain ⟨_, hpy10, ⟨rfl, rfl⟩, X⟩ := X.callV (q := 123) (rm_eq hw O2 P5 O4 rG3 PS IS X.old (a := q)) hEL (fun _ q => nomatch q) (hw _ (List.mem_of_getElem? (i := 115) rfl)) (hw _ (List.mem_of_getElem? (i := 116) rfl)) (hw _ (List.mem_of_getElem? (i := 118) rfl)) (hw _ (List.mem_of_getElem? (i := 118) rfl)) (hw _ (List.mem_of_getElem? (i := 117) rfl)) (hw _ (List.mem_of_getElem? (i := 34) rfl)) (hw _ (List.mem_of_getElem? (i := 119) rfl)) (by decide) pd14 Eq (argsL := [(.ref q)]) (rest := []) rfl rfl rfl rfl at_120 (by decide) (by first | decide | exact Nat.le_of_ble_eq_true rfl) (by decide) (by decide) rfl
      replace X := X [(.int (1 : Int32))] rfl
      replace X := X.istore (q := 125) (Ls' := #[.val (.int p0), .val (.int p1), .val (.int p2), .val (.int p3), .val (.int p4), .val (.int p5), .val (.ref rp), .val (.ref rq), .val (.ref ri), .val (.int tm), .val (.int ro), .val (.ref q), .val (.ref d), .val (.ref d2), .val (.ref q), .val (.int (1 : Int32))]) at_123 rfl rfl
      exact X
  clear X
  have X := J
  replace X := X.aload (q := 127) at_125 rfl rfl rfl
  obtain ⟨_, hpy10, ⟨rfl, rfl⟩, X⟩ := X.callV (q := 130) (rm_g_propagation hw O2 P5 O4 rG3 PS IS X.old R_propagation) hEL (fun _ q => nomatch q) (hw _ (List.mem_of_getElem? (i := 68) rfl)) (hw _ (List.mem_of_getElem? (i := 69) rfl)) (hw _ (List.mem_of_getElem? (i := 71) rfl)) (hw _ (List.mem_of_getElem? (i := 71) rfl)) (hw _ (List.mem_of_getElem? (i := 70) rfl)) (hw _ (List.mem_of_getElem? (i := 21) rfl)) (hw _ (List.mem_of_getElem? (i := 72) rfl)) (by decide) pd15 Ad2 (argsL := []) (rest := []) rfl rfl rfl rfl at_127 (by decide) (by first | decide | exact Nat.le_of_ble_eq_true rfl) (by decide) (by decide) rfl
  replace X := X [(.ref rq)] rfl
  replace X := X.aload (q := 132) at_130 rfl rfl rfl
  replace X := X.acmpNo (q := 135) at_132 rfl rfl (acRefl _).1 rfl
  replace X := X.aload (q := 137) at_135 rfl rfl rfl
  obtain ⟨_, hpy11, ⟨rfl, rfl⟩, X⟩ := X.callV (q := 140) (rm_g_isolation hw O2 P5 O4 rG3 PS IS X.old R_isolation) hEL (fun _ q => nomatch q) (hw _ (List.mem_of_getElem? (i := 73) rfl)) (hw _ (List.mem_of_getElem? (i := 74) rfl)) (hw _ (List.mem_of_getElem? (i := 76) rfl)) (hw _ (List.mem_of_getElem? (i := 76) rfl)) (hw _ (List.mem_of_getElem? (i := 75) rfl)) (hw _ (List.mem_of_getElem? (i := 21) rfl)) (hw _ (List.mem_of_getElem? (i := 77) rfl)) (by decide) pd16 Ad2 (argsL := []) (rest := []) rfl rfl rfl rfl at_137 (by decide) (by first | decide | exact Nat.le_of_ble_eq_true rfl) (by decide) (by decide) rfl
  replace X := X [(.ref ri)] rfl
  replace X := X.aload (q := 142) at_140 rfl rfl rfl
  replace X := X.acmpNo (q := 145) at_142 rfl rfl (acRefl _).1 rfl
  replace X := X.aload (q := 147) at_145 rfl rfl rfl
  obtain ⟨_, hpy12, ⟨rfl, rfl⟩, X⟩ := X.callV (q := 150) (rm_g_timeout hw O2 P5 O4 rG3 PS IS X.old R_timeout) hEL (fun _ q => nomatch q) (hw _ (List.mem_of_getElem? (i := 78) rfl)) (hw _ (List.mem_of_getElem? (i := 79) rfl)) (hw _ (List.mem_of_getElem? (i := 81) rfl)) (hw _ (List.mem_of_getElem? (i := 81) rfl)) (hw _ (List.mem_of_getElem? (i := 80) rfl)) (hw _ (List.mem_of_getElem? (i := 21) rfl)) (hw _ (List.mem_of_getElem? (i := 82) rfl)) (by decide) pd17 Ad2 (argsL := []) (rest := []) rfl rfl rfl rfl at_147 (by decide) (by first | decide | exact Nat.le_of_ble_eq_true rfl) (by decide) (by decide) rfl
  replace X := X [(.int tm)] rfl
  replace X := X.iload (q := 152) at_150 rfl rfl
  replace X := X.icmpNo (q := 155) at_152 (teq rfl).2 rfl
  replace X := X.aload (q := 157) at_155 rfl rfl rfl
  obtain ⟨_, hpy13, ⟨rfl, rfl⟩, X⟩ := X.callV (q := 160) (rm_g_readOnly hw O2 P5 O4 rG3 PS IS X.old hro R_readOnly) hEL (fun _ q => nomatch q) (hw _ (List.mem_of_getElem? (i := 83) rfl)) (hw _ (List.mem_of_getElem? (i := 84) rfl)) (hw _ (List.mem_of_getElem? (i := 86) rfl)) (hw _ (List.mem_of_getElem? (i := 86) rfl)) (hw _ (List.mem_of_getElem? (i := 85) rfl)) (hw _ (List.mem_of_getElem? (i := 21) rfl)) (hw _ (List.mem_of_getElem? (i := 87) rfl)) (by decide) pd18 Ad2 (argsL := []) (rest := []) rfl rfl rfl rfl at_157 (by decide) (by first | decide | exact Nat.le_of_ble_eq_true rfl) (by decide) (by decide) rfl
  replace X := X [(.int ro)] rfl
  replace X := X.iload (q := 162) at_160 rfl rfl
  replace X := X.icmpNo (q := 165) at_162 (teq rfl).2 rfl
  replace X := X.iload (q := 167) at_165 rfl rfl
  replace X := X.ifNo (q := 170) at_167 (feq (by decide : ¬ (1 : Int32) = 0)).1 rfl
  replace X := X.aload (q := 172) at_170 rfl rfl rfl
  obtain ⟨_, hpy14, ⟨rfl, rfl⟩, X⟩ := X.callV (q := 175) (rm_g_propagation hw O2 P5 O4 rG3 PS IS X.old G_propagation) hEL (fun _ q => nomatch q) (hw _ (List.mem_of_getElem? (i := 68) rfl)) (hw _ (List.mem_of_getElem? (i := 69) rfl)) (hw _ (List.mem_of_getElem? (i := 71) rfl)) (hw _ (List.mem_of_getElem? (i := 71) rfl)) (hw _ (List.mem_of_getElem? (i := 70) rfl)) (hw _ (List.mem_of_getElem? (i := 21) rfl)) (hw _ (List.mem_of_getElem? (i := 72) rfl)) (by decide) pd15 Ad (argsL := []) (rest := []) rfl rfl rfl rfl at_172 (by decide) (by first | decide | exact Nat.le_of_ble_eq_true rfl) (by decide) (by decide) rfl
  replace X := X [(.ref rp)] rfl
  replace X := X.aload (q := 177) at_175 rfl rfl rfl
  replace X := X.acmpNo (q := 180) at_177 rfl rfl (acRefl _).1 rfl
  replace X := X.iconst (q := 181) (z := (1 : Int32)) at_180 rfl rfl
  replace X := X.goto (q := 185) at_181 (by decide) (by decide)
  exact X.ireturn hEL hret (Or.inr (Or.inl rfl)) rfl hlk at_185 (by decide) (by decide) rfl
set_option maxRecDepth 65536 in
set_option maxHeartbeats 40000000 in
theorem comes_1 {Post : Tables → Env → Array Value → State → Outcome → State → Prop} (hpost : ∀ tb e args s v u, (limb_1_1.after args s (.returned v) u = true ∧ limb_1_2.after args s (.returned v) u = true ∧ True) → FramedW s (.returned v) u (Jvm.fieldLocs frame_1_writes args s ++ Jvm.arrayLocs frame_1_arrays args s ++ Jvm.staticLocs frame_1_statics s) 24 3200 → Post tb e args s (.returned v) u) :
    ArmFor flags0 classFile x code maxLocals ret World_1 tables_1 room_1 Calls_1 rest_1 Pre_1 Post := by
  intro l hfl _ _ p e ha hc hk s m args below hf hA hF happ hP
  obtain ⟨hcalls, hrest, hpre⟩ := hP
  obtain ⟨-, -, -, hnamed, -, -, -, hat⟩ := (Spec.applies_iff hf).mp happ
  obtain ⟨hg, hn⟩ := and_e (Cond.before_iff.mp (show (Jvm.Cond.and given_1 narrow_1).before args s = true from hpre))
  obtain ⟨h1, h2⟩ := and_e hg
  obtain ⟨w0, w1, w2, w3, w4, w5, rfl⟩ : ∃ w0 w1 w2 w3 w4 w5 : Value, args = #[w0, w1, w2, w3, w4, w5] := by
    have hs : args.size = 6 := by simpa [Cond.value, given_1] using h1
    obtain ⟨L⟩ := args
    match L, hs with
    | [w0, w1, w2, w3, w4, w5], _ => exact ⟨w0, w1, w2, w3, w4, w5, rfl⟩
  have hw := fun d (hd : d ∈ tables_1) => atoms_spec (ws := Jvm.Cond.code x code maxLocals ret :: tables_1) hat d (List.mem_cons_of_mem _ hd)
  obtain ⟨hsets, hown0⟩ := atoms_of _ (rest_1_c_eq ▸ (show rest_1_c.before _ s = true from hrest))
  obtain ⟨g0, k0⟩ := and_e h2
  obtain ⟨p0, e0⟩ := is_v g0
  obtain rfl : w0 = (.int p0) := Option.some.inj e0
  obtain ⟨g1, k1⟩ := and_e k0
  obtain ⟨p1, e1⟩ := is_v g1
  obtain rfl : w1 = (.int p1) := Option.some.inj e1
  obtain ⟨g2, k2⟩ := and_e k1
  obtain ⟨p2, e2⟩ := is_v g2
  obtain rfl : w2 = (.int p2) := Option.some.inj e2
  obtain ⟨g3, k3⟩ := and_e k2
  obtain ⟨p3, e3⟩ := is_v g3
  obtain rfl : w3 = (.int p3) := Option.some.inj e3
  obtain ⟨g4, k4⟩ := and_e k3
  obtain ⟨p4, e4⟩ := is_v g4
  obtain rfl : w4 = (.int p4) := Option.some.inj e4
  obtain ⟨p5, e5⟩ := is_v k4
  obtain rfl : w5 = (.int p5) := Option.some.inj e5
  have n3 := not_v (Cond.before_iff.mp (hsets _ (List.mem_of_getElem? (i := 2) rfl)))
  obtain ⟨i7, e6'⟩ := is_v (Cond.before_iff.mp (hsets _ (List.mem_of_getElem? (i := 1) rfl)))
  have S8 : Sta s s.heap "java/lang/String" "COMPACT_STRINGS" "Z" (.int i7) := Sta.start e6' (Or.inl (hsets _ (List.mem_of_getElem? (i := 0) rfl)))
  obtain ⟨v9, e10, r11⟩ := isR_v (Cond.before_iff.mp (hsets _ (List.mem_of_getElem? (i := 8) rfl)))
  have S12 : Sta s s.heap "jdk/internal/util/Preconditions" "SIOOBE_FORMATTER" "Ljava/util/function/BiFunction;" v9 := Sta.start e10 (Or.inl (hsets _ (List.mem_of_getElem? (i := 7) rfl)))
  have c13 : ¬ (i7 = (0 : Int32)) := gotF (Cond.eq_ints e6' (Term.int_eval (0))) n3
  obtain ⟨x0, y0⟩ := and_e hn
  obtain ⟨q0, SN0, -, -⟩ := static_exa x0 (Or.inr ⟨(hw _ (List.mem_of_getElem? (i := 6) rfl)), (hw _ (List.mem_of_getElem? (i := 7) rfl))⟩)
  obtain ⟨x1, y1⟩ := and_e y0
  obtain ⟨q1, SN1, -, -⟩ := static_exa x1 (Or.inr ⟨(hw _ (List.mem_of_getElem? (i := 6) rfl)), (hw _ (List.mem_of_getElem? (i := 9) rfl))⟩)
  obtain ⟨x2, y2⟩ := and_e y1
  obtain ⟨q2, SN2, -, -⟩ := static_exa x2 (Or.inr ⟨(hw _ (List.mem_of_getElem? (i := 14) rfl)), (hw _ (List.mem_of_getElem? (i := 15) rfl))⟩)
  obtain ⟨x3, y3⟩ := and_e y2
  obtain ⟨q3, SN3, -, -⟩ := static_exa x3 (Or.inr ⟨(hw _ (List.mem_of_getElem? (i := 6) rfl)), (hw _ (List.mem_of_getElem? (i := 89) rfl))⟩)
  obtain ⟨x4, y4⟩ := and_e y3
  obtain ⟨q4, SN4, -, -⟩ := static_exa x4 (Or.inr ⟨(hw _ (List.mem_of_getElem? (i := 14) rfl)), (hw _ (List.mem_of_getElem? (i := 91) rfl))⟩)
  obtain ⟨x5, y5⟩ := and_e y4
  obtain ⟨q5, SN5, -, -⟩ := static_exa x5 (Or.inr ⟨(hw _ (List.mem_of_getElem? (i := 6) rfl)), (hw _ (List.mem_of_getElem? (i := 93) rfl))⟩)
  obtain ⟨x6, y6⟩ := and_e y5
  obtain ⟨q6, SN6, -, -⟩ := static_exa x6 (Or.inr ⟨(hw _ (List.mem_of_getElem? (i := 14) rfl)), (hw _ (List.mem_of_getElem? (i := 95) rfl))⟩)
  obtain ⟨x7, y7⟩ := and_e y6
  obtain ⟨q7, SN7, -, -⟩ := static_exa x7 (Or.inr ⟨(hw _ (List.mem_of_getElem? (i := 6) rfl)), (hw _ (List.mem_of_getElem? (i := 121) rfl))⟩)
  obtain ⟨x8, y8⟩ := and_e y7
  obtain ⟨q8, SN8, -, -⟩ := static_exa x8 (Or.inr ⟨(hw _ (List.mem_of_getElem? (i := 6) rfl)), (hw _ (List.mem_of_getElem? (i := 141) rfl))⟩)
  obtain ⟨x9, y9⟩ := and_e y8
  obtain ⟨q9, SN9, -, -⟩ := static_exa x9 (Or.inr ⟨(hw _ (List.mem_of_getElem? (i := 6) rfl)), (hw _ (List.mem_of_getElem? (i := 143) rfl))⟩)
  obtain ⟨x10, y10⟩ := and_e y9
  obtain ⟨q10, SN10, -, -⟩ := static_exa x10 (Or.inr ⟨(hw _ (List.mem_of_getElem? (i := 14) rfl)), (hw _ (List.mem_of_getElem? (i := 145) rfl))⟩)
  obtain ⟨q11, SN11, -, -⟩ := static_exa y10 (Or.inr ⟨(hw _ (List.mem_of_getElem? (i := 14) rfl)), (hw _ (List.mem_of_getElem? (i := 148) rfl))⟩)
  have PS : ∀ n ∈ ["REQUIRED", "SUPPORTS", "MANDATORY", "REQUIRES_NEW", "NOT_SUPPORTED", "NEVER", "NESTED"], ∃ r, Sta s s.heap "com/example/demarc/demarc/Propagation" n "Lcom/example/demarc/demarc/Propagation;" (.ref r) := by
    intro n hn
    simp only [List.mem_cons, List.not_mem_nil, or_false] at hn
    rcases hn with rfl | rfl | rfl | rfl | rfl | rfl | rfl
    · exact ⟨_, SN0⟩
    · exact ⟨_, SN7⟩
    · exact ⟨_, SN5⟩
    · exact ⟨_, SN1⟩
    · exact ⟨_, SN3⟩
    · exact ⟨_, SN9⟩
    · exact ⟨_, SN8⟩
  have IS : ∀ n ∈ ["DEFAULT", "READ_UNCOMMITTED", "READ_COMMITTED", "REPEATABLE_READ", "SERIALIZABLE"], ∃ r, Sta s s.heap "com/example/demarc/demarc/Isolation" n "Lcom/example/demarc/demarc/Isolation;" (.ref r) := by
    intro n hn
    simp only [List.mem_cons, List.not_mem_nil, or_false] at hn
    rcases hn with rfl | rfl | rfl | rfl | rfl
    · exact ⟨_, SN4⟩
    · exact ⟨_, SN6⟩
    · exact ⟨_, SN2⟩
    · exact ⟨_, SN11⟩
    · exact ⟨_, SN10⟩
  have R := rm_law (l := l) hw S8 c13 S12 r11 PS IS (Ext.refl s.heap) (p0 := p0) (p1 := p1) (p2 := p2) (p3 := p3) (p4 := p4) (p5 := p5) 
  obtain ⟨n, o, h1, h2, h3, _, L, rfl, ⟨rfl, N, -⟩, -, hq⟩ := R p e ha hc hk s m _ below hf ((Spec.applies_iff_loose hf).mp happ).1 ⟨rfl, State.Warmed39.refl s, rfl, CHv.start (hEL0 hw) (fun p hp => hcalls.1 p hp) (hsets _ (List.mem_of_getElem? (i := 2) rfl)) (hw _ (List.mem_of_getElem? (i := 36) rfl)) (hw _ (List.mem_of_getElem? (i := 35) rfl)), fun _ q => nomatch q⟩ trivial
  refine ⟨n, _, h1, h2, h3, hpost _ _ _ _ _ _ ⟨Cond.after_iff.mpr rfl, Cond.after_iff.mpr (eq_i res_at (Term.int_eval (1)) rfl), trivial⟩ ⟨hq.1, hq.2.1, hq.2.2.1, (hq.2.2.2.sift fun y hy => Or.inr (N y hy)).mono (by decide) (by decide)⟩⟩
theorem main_1_1 : Claimed_1_1 := comes_1 fun _ _ _ _ _ _ h hF => ⟨h.1, hF⟩
theorem main_1_2 : Claimed_1_2 := comes_1 fun _ _ _ _ _ _ h hF => ⟨h.2.1, hF⟩
end Jvm.Pilot.@@N@@
namespace Jvm.Pilot.@@N@@
open Jvm Jvm.ClassFile Sem Op Lib Jvm.Free Jvm.Stand Jvm.Pilot.@@N@@.Jvm.D
/-! MADE BY PROGRAM (witnessworld.py) out of the Statement's table words and the real class files: 25 classes; the members and pool entries that the words name. The judged class is class 1, her method 4. -/
namespace start1
open Jvm.ClassFile
def u (s : String) : CpInfo := .utf8 (stringToUtf16 s)
/-- a pool by its gaps: so many unusable entries, then the entry; so many at the end -/
def gap : Nat → List CpInfo → List CpInfo
  | 0, r => r
  | n + 1, r => .unusable :: gap n r
def poolList (es : List (Nat × CpInfo)) (last : Nat) : List CpInfo := es.foldr (fun e r => gap e.1 (e.2 :: r)) (gap last [])
def pool (es : List (Nat × CpInfo)) (last : Nat) : Array CpInfo := ⟨poolList es last⟩
def fileOf (pool : Array CpInfo) (this : Nat) (attrs : Array Attribute := #[]) (ms : Array MethodInfo := #[]) (fl : Nat := 33) (sup : Nat := 0) (ifs : Array Nat := #[]) (fds : Array FieldInfo := #[]) : ClassFile where
  minorVersion := 0
  majorVersion := 65
  constantPool := pool
  accessFlags := fl
  thisClass := this
  superClass := sup
  interfaces := ifs
  fields := fds
  methods := ms
  attributes := attrs
def plain (name : String) (sup : Option ClassId) : Class where
  name := name
  kind := .ordinary
  loader := none
  accessFlags := 33
  super := sup
  interfaces := #[]
  cf := none
  fields := #[]
  methods := #[]
  instanceTypes := #[]
  staticTypes := #[]
  resolved := #[]
  callSites := []
  init := .initialized
  statics := none
  mirror := none

def pool0 : Array CpInfo := pool [(5, u "<init>"), (0, u "()V"), (1, .class_ 10), (1, u "java/lang/Object")] 113

def k0c0 : Code := { maxStack := 0, maxLocals := 1, code := object_method_1_code, exceptionTable := #[], attributes := #[] }
def k0m0 : Method := { name := "<init>", desc := "()V", sig := { parameters := [], returnType := none }, accessFlags := 1, code := some k0c0 }
/-- java/lang/Object -/
def k0 : Class := { plain "java/lang/Object" none with
  accessFlags := 33
  interfaces := #[]
  cf := some (fileOf pool0 8 #[] #[{ accessFlags := 1, nameIndex := 5, descriptorIndex := 6, attributes := #[] }] 33 0 #[] #[])
  fields := #[]
  methods := #[k0m0]
  instanceTypes := #[]
  staticTypes := #[]
  resolved := Array.replicate 124 none
  statics := none }

def pool1 : Array CpInfo := pool [(2, .class_ 4), (1, u "java/lang/Object"), (0, u "<init>"), (0, u "()V"), (0, .integer 2147483647), (0, .fieldref 9 10), (0, .class_ 11), (0, .nameAndType 12 13), (0, u "com/example/demarc/demarc/Propagation"), (0, u "REQUIRED"), (0, u "Lcom/example/demarc/demarc/Propagation;"), (0, .fieldref 9 15), (0, .nameAndType 16 13), (0, u "SUPPORTS"), (0, .fieldref 9 18), (0, .nameAndType 19 13), (0, u "MANDATORY"), (0, .fieldref 9 21), (0, .nameAndType 22 13), (0, u "REQUIRES_NEW"), (0, .fieldref 9 24), (0, .nameAndType 25 13), (0, u "NOT_SUPPORTED"), (0, .fieldref 9 27), (0, .nameAndType 28 13), (0, u "NEVER"), (0, .fieldref 9 30), (0, .nameAndType 31 13), (0, u "NESTED"), (0, .fieldref 33 34), (0, .class_ 35), (0, .nameAndType 36 37), (0, u "com/example/demarc/demarc/Isolation"), (0, u "DEFAULT"), (0, u "Lcom/example/demarc/demarc/Isolation;"), (0, .fieldref 33 39), (0, .nameAndType 40 37), (0, u "READ_UNCOMMITTED"), (0, .fieldref 33 42), (0, .nameAndType 43 37), (0, u "READ_COMMITTED"), (0, .fieldref 33 45), (0, .nameAndType 46 37), (0, u "REPEATABLE_READ"), (0, .fieldref 33 48), (0, .nameAndType 49 37), (0, u "SERIALIZABLE"), (0, .class_ 51), (0, u "java/lang/String"), (0, .methodref 50 53), (0, .nameAndType 5 54), (0, u "([C)V"), (0, .methodref 50 56), (0, .nameAndType 57 58), (0, u "valueOf"), (0, u "(C)Ljava/lang/String;"), (0, .methodref 60 61), (0, .class_ 62), (0, .nameAndType 63 64), (0, u "com/example/demarc/demarc/TransactionDefinitionWithPropagationPinLaw"), (0, u "prop"), (0, u "(I)Lcom/example/demarc/demarc/Propagation;"), (0, .methodref 60 66), (0, .nameAndType 67 68), (0, u "iso"), (0, u "(I)Lcom/example/demarc/demarc/Isolation;"), (0, .class_ 70), (0, u "com/example/demarc/demarc/TransactionDefinition"), (0, .methodref 60 72), (0, .nameAndType 73 74), (0, u "name"), (0, u "(II)Ljava/lang/String;"), (0, .methodref 69 76), (0, .nameAndType 5 77), (0, u "(Lcom/example/demarc/demarc/Propagation;Lcom/example/demarc/demarc/Isolation;IZLjava/lang/String;)V"), (0, .methodref 69 79), (0, .nameAndType 80 81), (0, u "withPropagation"), (0, u "(Lcom/example/demarc/demarc/Propagation;)Lcom/example/demarc/demarc/TransactionDefinition;"), (0, .methodref 69 83), (0, .nameAndType 73 84), (0, u "()Ljava/lang/String;"), (0, .methodref 50 86), (0, .nameAndType 87 88), (0, u "equals"), (0, u "(Ljava/lang/Object;)Z"), (0, .methodref 69 90), (0, .nameAndType 91 92), (0, u "propagation"), (0, u "()Lcom/example/demarc/demarc/Propagation;"), (0, .methodref 69 94), (0, .nameAndType 95 96), (0, u "isolation"), (0, u "()Lcom/example/demarc/demarc/Isolation;"), (0, .methodref 69 98), (0, .nameAndType 99 100), (0, u "timeout"), (0, u "()I"), (0, .methodref 69 102), (0, .nameAndType 103 104), (0, u "readOnly"), (0, u "()Z"), (3, u "law"), (0, u "(IIIIII)Z")] 2

def k1m0 : Method := { name := "<init>", desc := "()V", sig := { parameters := [], returnType := none }, accessFlags := 1, code := none }
def k1c1 : Code := { maxStack := 2, maxLocals := 2, code := method_2_code, exceptionTable := #[], attributes := #[] }
def k1m1 : Method := { name := "prop", desc := "(I)Lcom/example/demarc/demarc/Propagation;", sig := { parameters := [.int], returnType := some (.object "com/example/demarc/demarc/Propagation") }, accessFlags := 10, code := some k1c1 }
def k1c2 : Code := { maxStack := 2, maxLocals := 2, code := method_3_code, exceptionTable := #[], attributes := #[] }
def k1m2 : Method := { name := "iso", desc := "(I)Lcom/example/demarc/demarc/Isolation;", sig := { parameters := [.int], returnType := some (.object "com/example/demarc/demarc/Isolation") }, accessFlags := 10, code := some k1c2 }
def k1c3 : Code := { maxStack := 7, maxLocals := 2, code := method_4_code, exceptionTable := #[], attributes := #[] }
def k1m3 : Method := { name := "name", desc := "(II)Ljava/lang/String;", sig := { parameters := [.int, .int], returnType := some (.object "java/lang/String") }, accessFlags := 10, code := some k1c3 }
def k1c4 : Code := { maxStack := 7, maxLocals := 16, code := code, exceptionTable := #[], attributes := #[] }
def k1m4 : Method := { name := "law", desc := "(IIIIII)Z", sig := { parameters := [.int, .int, .int, .int, .int, .int], returnType := some .boolean }, accessFlags := 9, code := some k1c4 }
/-- com/example/demarc/demarc/TransactionDefinitionWithPropagationPinLaw -/
def k1 : Class := { plain "com/example/demarc/demarc/TransactionDefinitionWithPropagationPinLaw" (some 0) with
  accessFlags := 49
  interfaces := #[]
  cf := some (fileOf pool1 60 #[] #[{ accessFlags := 1, nameIndex := 5, descriptorIndex := 6, attributes := #[] }, { accessFlags := 10, nameIndex := 63, descriptorIndex := 64, attributes := #[] }, { accessFlags := 10, nameIndex := 67, descriptorIndex := 68, attributes := #[] }, { accessFlags := 10, nameIndex := 73, descriptorIndex := 74, attributes := #[] }, { accessFlags := 9, nameIndex := 108, descriptorIndex := 109, attributes := #[] }] 49 2 #[] #[])
  fields := #[]
  methods := #[k1m0, k1m1, k1m2, k1m3, k1m4]
  instanceTypes := #[]
  staticTypes := #[]
  resolved := Array.replicate 112 none
  statics := none }

def pool2 : Array CpInfo := pool [(1, .class_ 2), (0, u "java/lang/constant/Constable"), (0, .class_ 4), (0, u "java/lang/Object")] 6

/-- java/lang/constant/Constable -/
def k2 : Class := { plain "java/lang/constant/Constable" (some 0) with
  accessFlags := 1537
  interfaces := #[]
  cf := some (fileOf pool2 1 #[] #[] 1537 3 #[] #[])
  fields := #[]
  methods := #[]
  instanceTypes := #[]
  staticTypes := #[]
  resolved := Array.replicate 11 none
  statics := none }

def pool3 : Array CpInfo := pool [(1, .class_ 2), (0, u "java/lang/Comparable"), (0, .class_ 4), (0, u "java/lang/Object")] 7

/-- java/lang/Comparable -/
def k3 : Class := { plain "java/lang/Comparable" (some 0) with
  accessFlags := 1537
  interfaces := #[]
  cf := some (fileOf pool3 1 #[] #[] 1537 3 #[] #[])
  fields := #[]
  methods := #[]
  instanceTypes := #[]
  staticTypes := #[]
  resolved := Array.replicate 12 none
  statics := none }

def pool4 : Array CpInfo := pool [(1, .class_ 2), (0, u "java/io/Serializable"), (0, .class_ 4), (0, u "java/lang/Object")] 2

/-- java/io/Serializable -/
def k4 : Class := { plain "java/io/Serializable" (some 0) with
  accessFlags := 1537
  interfaces := #[]
  cf := some (fileOf pool4 1 #[] #[] 1537 3 #[] #[])
  fields := #[]
  methods := #[]
  instanceTypes := #[]
  staticTypes := #[]
  resolved := Array.replicate 7 none
  statics := none }

def pool5 : Array CpInfo := pool [(2, .class_ 4), (1, u "java/lang/Enum"), (0, u "name"), (0, u "Ljava/lang/String;"), (2, u "ordinal"), (0, u "I"), (1, .class_ 14), (1, u "java/lang/Object"), (4, u "hash"), (86, .class_ 108), (1, u "java/lang/Enum$EnumDesc"), (2, .class_ 112), (0, u "java/lang/constant/Constable"), (0, .class_ 114), (0, u "java/lang/Comparable"), (0, .class_ 116), (0, u "java/io/Serializable")] 87

/-- java/lang/Enum -/
def k5 : Class := { plain "java/lang/Enum" (some 0) with
  accessFlags := 1057
  interfaces := #[2, 3, 4]
  cf := some (fileOf pool5 2 #[.nestMembers #[106]] #[] 1057 12 #[111, 113, 115] #[{ accessFlags := 18, nameIndex := 5, descriptorIndex := 6, attributes := #[] }, { accessFlags := 18, nameIndex := 9, descriptorIndex := 10, attributes := #[] }, { accessFlags := 2, nameIndex := 19, descriptorIndex := 10, attributes := #[] }])
  fields := #[{ name := "name", type := (.object "java/lang/String"), accessFlags := 18, slot := 0, constantValue := 0 }, { name := "ordinal", type := .int, accessFlags := 18, slot := 1, constantValue := 0 }, { name := "hash", type := .int, accessFlags := 2, slot := 2, constantValue := 0 }]
  methods := #[]
  instanceTypes := #[(.object "java/lang/String"), .int, .int]
  staticTypes := #[]
  resolved := Array.replicate 204 none
  statics := none }

def pool6 : Array CpInfo := pool [(1, .class_ 2), (0, u "com/example/demarc/demarc/Propagation"), (2, u "REQUIRED"), (0, u "Lcom/example/demarc/demarc/Propagation;"), (2, u "SUPPORTS"), (2, u "MANDATORY"), (2, u "REQUIRES_NEW"), (2, u "NOT_SUPPORTED"), (2, u "NEVER"), (2, u "NESTED"), (2, u "$VALUES"), (0, u "[Lcom/example/demarc/demarc/Propagation;"), (6, .class_ 37), (1, u "java/lang/Enum")] 29

/-- com/example/demarc/demarc/Propagation -/
def k6 : Class := { plain "com/example/demarc/demarc/Propagation" (some 5) with
  accessFlags := 16433
  interfaces := #[]
  cf := some (fileOf pool6 1 #[] #[] 16433 35 #[] #[{ accessFlags := 16409, nameIndex := 5, descriptorIndex := 6, attributes := #[] }, { accessFlags := 16409, nameIndex := 9, descriptorIndex := 6, attributes := #[] }, { accessFlags := 16409, nameIndex := 12, descriptorIndex := 6, attributes := #[] }, { accessFlags := 16409, nameIndex := 15, descriptorIndex := 6, attributes := #[] }, { accessFlags := 16409, nameIndex := 18, descriptorIndex := 6, attributes := #[] }, { accessFlags := 16409, nameIndex := 21, descriptorIndex := 6, attributes := #[] }, { accessFlags := 16409, nameIndex := 24, descriptorIndex := 6, attributes := #[] }, { accessFlags := 4122, nameIndex := 27, descriptorIndex := 28, attributes := #[] }])
  fields := #[{ name := "REQUIRED", type := (.object "com/example/demarc/demarc/Propagation"), accessFlags := 16409, slot := 0, constantValue := 0 }, { name := "SUPPORTS", type := (.object "com/example/demarc/demarc/Propagation"), accessFlags := 16409, slot := 1, constantValue := 0 }, { name := "MANDATORY", type := (.object "com/example/demarc/demarc/Propagation"), accessFlags := 16409, slot := 2, constantValue := 0 }, { name := "REQUIRES_NEW", type := (.object "com/example/demarc/demarc/Propagation"), accessFlags := 16409, slot := 3, constantValue := 0 }, { name := "NOT_SUPPORTED", type := (.object "com/example/demarc/demarc/Propagation"), accessFlags := 16409, slot := 4, constantValue := 0 }, { name := "NEVER", type := (.object "com/example/demarc/demarc/Propagation"), accessFlags := 16409, slot := 5, constantValue := 0 }, { name := "NESTED", type := (.object "com/example/demarc/demarc/Propagation"), accessFlags := 16409, slot := 6, constantValue := 0 }, { name := "$VALUES", type := (.array (.object "com/example/demarc/demarc/Propagation")), accessFlags := 4122, slot := 7, constantValue := 0 }]
  methods := #[]
  instanceTypes := #[(.object "java/lang/String"), .int, .int]
  staticTypes := #[(.object "com/example/demarc/demarc/Propagation"), (.object "com/example/demarc/demarc/Propagation"), (.object "com/example/demarc/demarc/Propagation"), (.object "com/example/demarc/demarc/Propagation"), (.object "com/example/demarc/demarc/Propagation"), (.object "com/example/demarc/demarc/Propagation"), (.object "com/example/demarc/demarc/Propagation"), (.array (.object "com/example/demarc/demarc/Propagation"))]
  resolved := Array.replicate 67 none
  statics := some 0 }

def pool7 : Array CpInfo := pool [(1, .class_ 2), (0, u "com/example/demarc/demarc/Isolation"), (2, u "DEFAULT"), (0, u "Lcom/example/demarc/demarc/Isolation;"), (2, u "READ_UNCOMMITTED"), (2, u "READ_COMMITTED"), (2, u "REPEATABLE_READ"), (2, u "SERIALIZABLE"), (2, u "$VALUES"), (0, u "[Lcom/example/demarc/demarc/Isolation;"), (6, .class_ 31), (1, u "java/lang/Enum")] 27

/-- com/example/demarc/demarc/Isolation -/
def k7 : Class := { plain "com/example/demarc/demarc/Isolation" (some 5) with
  accessFlags := 16433
  interfaces := #[]
  cf := some (fileOf pool7 1 #[] #[] 16433 29 #[] #[{ accessFlags := 16409, nameIndex := 5, descriptorIndex := 6, attributes := #[] }, { accessFlags := 16409, nameIndex := 9, descriptorIndex := 6, attributes := #[] }, { accessFlags := 16409, nameIndex := 12, descriptorIndex := 6, attributes := #[] }, { accessFlags := 16409, nameIndex := 15, descriptorIndex := 6, attributes := #[] }, { accessFlags := 16409, nameIndex := 18, descriptorIndex := 6, attributes := #[] }, { accessFlags := 4122, nameIndex := 21, descriptorIndex := 22, attributes := #[] }])
  fields := #[{ name := "DEFAULT", type := (.object "com/example/demarc/demarc/Isolation"), accessFlags := 16409, slot := 0, constantValue := 0 }, { name := "READ_UNCOMMITTED", type := (.object "com/example/demarc/demarc/Isolation"), accessFlags := 16409, slot := 1, constantValue := 0 }, { name := "READ_COMMITTED", type := (.object "com/example/demarc/demarc/Isolation"), accessFlags := 16409, slot := 2, constantValue := 0 }, { name := "REPEATABLE_READ", type := (.object "com/example/demarc/demarc/Isolation"), accessFlags := 16409, slot := 3, constantValue := 0 }, { name := "SERIALIZABLE", type := (.object "com/example/demarc/demarc/Isolation"), accessFlags := 16409, slot := 4, constantValue := 0 }, { name := "$VALUES", type := (.array (.object "com/example/demarc/demarc/Isolation")), accessFlags := 4122, slot := 5, constantValue := 0 }]
  methods := #[]
  instanceTypes := #[(.object "java/lang/String"), .int, .int]
  staticTypes := #[(.object "com/example/demarc/demarc/Isolation"), (.object "com/example/demarc/demarc/Isolation"), (.object "com/example/demarc/demarc/Isolation"), (.object "com/example/demarc/demarc/Isolation"), (.object "com/example/demarc/demarc/Isolation"), (.array (.object "com/example/demarc/demarc/Isolation"))]
  resolved := Array.replicate 59 none
  statics := some 1 }

def pool8 : Array CpInfo := pool [(1, .methodref 2 3), (0, .class_ 4), (0, .nameAndType 5 6), (0, u "java/lang/Object"), (0, u "<init>"), (0, u "()V"), (0, .class_ 8), (0, u "java/lang/Record")] 13

def k8c0 : Code := { maxStack := 1, maxLocals := 1, code := jdk_30_method_1_code, exceptionTable := #[], attributes := #[] }
def k8m0 : Method := { name := "<init>", desc := "()V", sig := { parameters := [], returnType := none }, accessFlags := 4, code := some k8c0 }
/-- java/lang/Record -/
def k8 : Class := { plain "java/lang/Record" (some 0) with
  accessFlags := 1057
  interfaces := #[]
  cf := some (fileOf pool8 7 #[] #[{ accessFlags := 4, nameIndex := 5, descriptorIndex := 6, attributes := #[] }] 1057 2 #[] #[])
  fields := #[]
  methods := #[k8m0]
  instanceTypes := #[]
  staticTypes := #[]
  resolved := Array.replicate 22 none
  statics := none }

def pool9 : Array CpInfo := pool [(1, .methodref 2 3), (0, .class_ 4), (0, .nameAndType 5 6), (0, u "java/lang/Record"), (0, u "<init>"), (0, u "()V"), (0, .string 8), (0, u "propagation"), (0, .methodref 10 11), (0, .class_ 12), (0, .nameAndType 13 14), (0, u "java/util/Objects"), (0, u "requireNonNull"), (0, u "(Ljava/lang/Object;Ljava/lang/String;)Ljava/lang/Object;"), (0, .string 16), (0, u "isolation"), (0, .class_ 18), (0, u "com/example/demarc/demarc/TransactionDefinition"), (9, .fieldref 17 29), (0, .nameAndType 8 30), (0, u "Lcom/example/demarc/demarc/Propagation;"), (0, .fieldref 17 32), (0, .nameAndType 16 33), (0, u "Lcom/example/demarc/demarc/Isolation;"), (0, .fieldref 17 35), (0, .nameAndType 36 37), (0, u "timeout"), (0, u "I"), (0, .fieldref 17 39), (0, .nameAndType 40 41), (0, u "readOnly"), (0, u "Z"), (0, .fieldref 17 43), (0, .nameAndType 44 45), (0, u "name"), (0, u "Ljava/lang/String;"), (0, .methodref 17 47), (0, .nameAndType 5 48), (0, u "(Lcom/example/demarc/demarc/Propagation;Lcom/example/demarc/demarc/Isolation;IZLjava/lang/String;)V"), (21, u "DEFAULT"), (2, u "Lcom/example/demarc/demarc/TransactionDefinition;"), (0, u "TIMEOUT_NONE"), (8, u "withPropagation"), (0, u "(Lcom/example/demarc/demarc/Propagation;)Lcom/example/demarc/demarc/TransactionDefinition;"), (8, u "()Ljava/lang/String;"), (0, u "()I"), (1, u "()Lcom/example/demarc/demarc/Propagation;"), (0, u "()Lcom/example/demarc/demarc/Isolation;"), (0, u "()Z")] 33

def k9c0 : Code := { maxStack := 3, maxLocals := 6, code := prog_9_method_1_code, exceptionTable := #[], attributes := #[] }
def k9m0 : Method := { name := "<init>", desc := "(Lcom/example/demarc/demarc/Propagation;Lcom/example/demarc/demarc/Isolation;IZLjava/lang/String;)V", sig := { parameters := [(.object "com/example/demarc/demarc/Propagation"), (.object "com/example/demarc/demarc/Isolation"), .int, .boolean, (.object "java/lang/String")], returnType := none }, accessFlags := 1, code := some k9c0 }
def k9c1 : Code := { maxStack := 7, maxLocals := 2, code := prog_9_method_2_code, exceptionTable := #[], attributes := #[] }
def k9m1 : Method := { name := "withPropagation", desc := "(Lcom/example/demarc/demarc/Propagation;)Lcom/example/demarc/demarc/TransactionDefinition;", sig := { parameters := [(.object "com/example/demarc/demarc/Propagation")], returnType := some (.object "com/example/demarc/demarc/TransactionDefinition") }, accessFlags := 1, code := some k9c1 }
def k9c2 : Code := { maxStack := 1, maxLocals := 1, code := prog_9_method_10_code, exceptionTable := #[], attributes := #[] }
def k9m2 : Method := { name := "propagation", desc := "()Lcom/example/demarc/demarc/Propagation;", sig := { parameters := [], returnType := some (.object "com/example/demarc/demarc/Propagation") }, accessFlags := 1, code := some k9c2 }
def k9c3 : Code := { maxStack := 1, maxLocals := 1, code := prog_9_method_11_code, exceptionTable := #[], attributes := #[] }
def k9m3 : Method := { name := "isolation", desc := "()Lcom/example/demarc/demarc/Isolation;", sig := { parameters := [], returnType := some (.object "com/example/demarc/demarc/Isolation") }, accessFlags := 1, code := some k9c3 }
def k9c4 : Code := { maxStack := 1, maxLocals := 1, code := prog_9_method_12_code, exceptionTable := #[], attributes := #[] }
def k9m4 : Method := { name := "timeout", desc := "()I", sig := { parameters := [], returnType := some .int }, accessFlags := 1, code := some k9c4 }
def k9c5 : Code := { maxStack := 1, maxLocals := 1, code := prog_9_method_13_code, exceptionTable := #[], attributes := #[] }
def k9m5 : Method := { name := "readOnly", desc := "()Z", sig := { parameters := [], returnType := some .boolean }, accessFlags := 1, code := some k9c5 }
def k9c6 : Code := { maxStack := 1, maxLocals := 1, code := prog_9_method_14_code, exceptionTable := #[], attributes := #[] }
def k9m6 : Method := { name := "name", desc := "()Ljava/lang/String;", sig := { parameters := [], returnType := some (.object "java/lang/String") }, accessFlags := 1, code := some k9c6 }
/-- com/example/demarc/demarc/TransactionDefinition -/
def k9 : Class := { plain "com/example/demarc/demarc/TransactionDefinition" (some 8) with
  accessFlags := 49
  interfaces := #[]
  cf := some (fileOf pool9 17 #[] #[{ accessFlags := 1, nameIndex := 5, descriptorIndex := 48, attributes := #[] }, { accessFlags := 1, nameIndex := 83, descriptorIndex := 84, attributes := #[] }, { accessFlags := 1, nameIndex := 8, descriptorIndex := 96, attributes := #[] }, { accessFlags := 1, nameIndex := 16, descriptorIndex := 97, attributes := #[] }, { accessFlags := 1, nameIndex := 36, descriptorIndex := 94, attributes := #[] }, { accessFlags := 1, nameIndex := 40, descriptorIndex := 98, attributes := #[] }, { accessFlags := 1, nameIndex := 44, descriptorIndex := 93, attributes := #[] }] 49 2 #[] #[{ accessFlags := 18, nameIndex := 8, descriptorIndex := 30, attributes := #[] }, { accessFlags := 18, nameIndex := 16, descriptorIndex := 33, attributes := #[] }, { accessFlags := 18, nameIndex := 36, descriptorIndex := 37, attributes := #[] }, { accessFlags := 18, nameIndex := 40, descriptorIndex := 41, attributes := #[] }, { accessFlags := 18, nameIndex := 44, descriptorIndex := 45, attributes := #[] }, { accessFlags := 25, nameIndex := 74, descriptorIndex := 37, attributes := #[] }, { accessFlags := 25, nameIndex := 70, descriptorIndex := 73, attributes := #[] }])
  fields := #[{ name := "propagation", type := (.object "com/example/demarc/demarc/Propagation"), accessFlags := 18, slot := 0, constantValue := 0 }, { name := "isolation", type := (.object "com/example/demarc/demarc/Isolation"), accessFlags := 18, slot := 1, constantValue := 0 }, { name := "timeout", type := .int, accessFlags := 18, slot := 2, constantValue := 0 }, { name := "readOnly", type := .boolean, accessFlags := 18, slot := 3, constantValue := 0 }, { name := "name", type := (.object "java/lang/String"), accessFlags := 18, slot := 4, constantValue := 0 }, { name := "TIMEOUT_NONE", type := .int, accessFlags := 25, slot := 0, constantValue := 0 }, { name := "DEFAULT", type := (.object "com/example/demarc/demarc/TransactionDefinition"), accessFlags := 25, slot := 1, constantValue := 0 }]
  methods := #[k9m0, k9m1, k9m2, k9m3, k9m4, k9m5, k9m6]
  instanceTypes := #[(.object "com/example/demarc/demarc/Propagation"), (.object "com/example/demarc/demarc/Isolation"), .int, .boolean, (.object "java/lang/String")]
  staticTypes := #[.int, (.object "com/example/demarc/demarc/TransactionDefinition")]
  resolved := Array.replicate 132 none
  statics := none }

def pool10 : Array CpInfo := pool [(2, .class_ 4), (1, u "java/lang/CharSequence"), (42, .class_ 48), (0, u "java/lang/CharSequence$1CodePointIterator"), (10, .class_ 60), (0, u "java/lang/CharSequence$1CharIterator"), (5, .class_ 67), (0, u "java/lang/Object")] 63

/-- java/lang/CharSequence -/
def k10 : Class := { plain "java/lang/CharSequence" (some 0) with
  accessFlags := 1537
  interfaces := #[]
  cf := some (fileOf pool10 2 #[.nestMembers #[47, 59]] #[] 1537 66 #[] #[])
  fields := #[]
  methods := #[]
  instanceTypes := #[]
  staticTypes := #[]
  resolved := Array.replicate 131 none
  statics := none }

def pool11 : Array CpInfo := pool [(1, .class_ 2), (0, u "java/lang/constant/ConstantDesc"), (0, .class_ 4), (0, u "java/lang/Object")] 32

/-- java/lang/constant/ConstantDesc -/
def k11 : Class := { plain "java/lang/constant/ConstantDesc" (some 0) with
  accessFlags := 1537
  interfaces := #[]
  cf := some (fileOf pool11 1 #[] #[] 1537 3 #[] #[])
  fields := #[]
  methods := #[]
  instanceTypes := #[]
  staticTypes := #[]
  resolved := Array.replicate 37 none
  statics := none }

def pool12 : Array CpInfo := pool [(1, .methodref 2 3), (0, .class_ 4), (0, .nameAndType 5 6), (0, u "java/lang/Object"), (0, u "<init>"), (0, u "()V"), (0, .string 8), (0, u ""), (0, .fieldref 10 11), (0, .class_ 12), (0, .nameAndType 13 14), (0, u "java/lang/String"), (0, u "value"), (0, u "[B"), (0, .fieldref 10 16), (0, .nameAndType 17 18), (0, u "coder"), (0, u "B"), (2, u "hash"), (0, u "I"), (2, u "hashIsZero"), (0, u "Z"), (0, .methodref 10 28), (0, .nameAndType 5 29), (0, u "([CIILjava/lang/Void;)V"), (8, .fieldref 10 39), (0, .nameAndType 40 26), (0, u "COMPACT_STRINGS"), (1, .class_ 44), (1, u "java/lang/StringUTF16"), (0, u "compress"), (1, .methodref 42 48), (0, .nameAndType 49 50), (0, u "coderFromArrayLen"), (0, u "([BI)B"), (2, u "toBytes"), (53, .class_ 109), (1, u "java/lang/StringLatin1"), (67, .methodref 42 178), (0, .nameAndType 45 179), (0, u "([CII)[B"), (29, .methodref 10 210), (0, .nameAndType 5 211), (0, u "([BB)V"), (157, u "(C)Z"), (173, u "equals"), (29, u "(Ljava/lang/Object;)Z"), (1, .class_ 576), (0, u "java/lang/CharSequence"), (22, u "CASE_INSENSITIVE_ORDER"), (0, u "Ljava/util/Comparator;"), (181, u "valueOf"), (0, u "(C)Ljava/lang/String;"), (226, u "([C)V"), (4, .methodref 107 1016), (0, .nameAndType 1017 369), (0, u "canEncode"), (0, .methodref 107 1019), (0, .nameAndType 53 1020), (0, u "(C)[B"), (80, u "serialPersistentFields"), (0, u "[Ljava/io/ObjectStreamField;"), (0, .class_ 1104), (0, u "java/lang/String$CaseInsensitiveComparator"), (1, .class_ 1107), (0, u "java/io/Serializable"), (0, .class_ 1109), (0, u "java/lang/Comparable"), (0, .class_ 1111), (0, u "java/lang/constant/Constable"), (0, .class_ 1113), (0, u "java/lang/constant/ConstantDesc"), (2, u "serialVersionUID"), (0, u "J"), (3, u "REPL"), (0, u "C"), (2, u "LATIN1"), (1, u "UTF16")] 323

def k12m0 : Method := { name := "<init>", desc := "()V", sig := { parameters := [], returnType := none }, accessFlags := 1, code := none }
def k12c1 : Code := { maxStack := 5, maxLocals := 2, code := jdk_42_method_3_code, exceptionTable := #[], attributes := #[] }
def k12m1 : Method := { name := "<init>", desc := "([C)V", sig := { parameters := [(.array .char)], returnType := none }, accessFlags := 1, code := some k12c1 }
def k12c2 : Code := { maxStack := 2, maxLocals := 3, code := jdk_42_method_66_code, exceptionTable := #[], attributes := #[] }
def k12m2 : Method := { name := "equals", desc := "(Ljava/lang/Object;)Z", sig := { parameters := [(.object "java/lang/Object")], returnType := some .boolean }, accessFlags := 1, code := some k12c2 }
def k12c3 : Code := { maxStack := 4, maxLocals := 1, code := jdk_42_method_139_code, exceptionTable := #[], attributes := #[] }
def k12m3 : Method := { name := "valueOf", desc := "(C)Ljava/lang/String;", sig := { parameters := [.char], returnType := some (.object "java/lang/String") }, accessFlags := 9, code := some k12c3 }
def k12c4 : Code := { maxStack := 4, maxLocals := 6, code := jdk_42_method_149_code, exceptionTable := #[], attributes := #[] }
def k12m4 : Method := { name := "<init>", desc := "([CIILjava/lang/Void;)V", sig := { parameters := [(.array .char), .int, .int, (.object "java/lang/Void")], returnType := none }, accessFlags := 2, code := some k12c4 }
def k12c5 : Code := { maxStack := 2, maxLocals := 3, code := jdk_42_method_151_code, exceptionTable := #[], attributes := #[] }
def k12m5 : Method := { name := "<init>", desc := "([BB)V", sig := { parameters := [(.array .byte), .byte], returnType := none }, accessFlags := 0, code := some k12c5 }
/-- java/lang/String -/
def k12 : Class := { plain "java/lang/String" (some 0) with
  accessFlags := 49
  interfaces := #[4, 3, 10, 2, 11]
  cf := some (fileOf pool12 10 #[.nestMembers #[1103]] #[{ accessFlags := 1, nameIndex := 5, descriptorIndex := 6, attributes := #[] }, { accessFlags := 1, nameIndex := 5, descriptorIndex := 1010, attributes := #[] }, { accessFlags := 1, nameIndex := 543, descriptorIndex := 573, attributes := #[] }, { accessFlags := 9, nameIndex := 782, descriptorIndex := 783, attributes := #[] }, { accessFlags := 2, nameIndex := 5, descriptorIndex := 29, attributes := #[] }, { accessFlags := 0, nameIndex := 5, descriptorIndex := 211, attributes := #[] }] 49 2 #[1106, 1108, 575, 1110, 1112] #[{ accessFlags := 18, nameIndex := 13, descriptorIndex := 14, attributes := #[] }, { accessFlags := 18, nameIndex := 17, descriptorIndex := 18, attributes := #[] }, { accessFlags := 2, nameIndex := 21, descriptorIndex := 22, attributes := #[] }, { accessFlags := 2, nameIndex := 25, descriptorIndex := 26, attributes := #[] }, { accessFlags := 26, nameIndex := 1116, descriptorIndex := 1117, attributes := #[] }, { accessFlags := 24, nameIndex := 40, descriptorIndex := 26, attributes := #[] }, { accessFlags := 26, nameIndex := 1101, descriptorIndex := 1102, attributes := #[] }, { accessFlags := 26, nameIndex := 1121, descriptorIndex := 1122, attributes := #[] }, { accessFlags := 25, nameIndex := 599, descriptorIndex := 600, attributes := #[] }, { accessFlags := 24, nameIndex := 1125, descriptorIndex := 18, attributes := #[] }, { accessFlags := 24, nameIndex := 1127, descriptorIndex := 18, attributes := #[] }])
  fields := #[{ name := "value", type := (.array .byte), accessFlags := 18, slot := 0, constantValue := 0 }, { name := "coder", type := .byte, accessFlags := 18, slot := 1, constantValue := 0 }, { name := "hash", type := .int, accessFlags := 2, slot := 2, constantValue := 0 }, { name := "hashIsZero", type := .boolean, accessFlags := 2, slot := 3, constantValue := 0 }, { name := "serialVersionUID", type := .long, accessFlags := 26, slot := 0, constantValue := 0 }, { name := "COMPACT_STRINGS", type := .boolean, accessFlags := 24, slot := 1, constantValue := 0 }, { name := "serialPersistentFields", type := (.array (.object "java/io/ObjectStreamField")), accessFlags := 26, slot := 2, constantValue := 0 }, { name := "REPL", type := .char, accessFlags := 26, slot := 3, constantValue := 0 }, { name := "CASE_INSENSITIVE_ORDER", type := (.object "java/util/Comparator"), accessFlags := 25, slot := 4, constantValue := 0 }, { name := "LATIN1", type := .byte, accessFlags := 24, slot := 5, constantValue := 0 }, { name := "UTF16", type := .byte, accessFlags := 24, slot := 6, constantValue := 0 }]
  methods := #[k12m0, k12m1, k12m2, k12m3, k12m4, k12m5]
  instanceTypes := #[(.array .byte), .byte, .int, .boolean]
  staticTypes := #[.long, .boolean, (.array (.object "java/io/ObjectStreamField")), .char, (.object "java/util/Comparator"), .byte, .byte]
  resolved := Array.replicate 1451 none
  statics := some 2 }

def pool13 : Array CpInfo := pool [(2, .class_ 4), (1, u "java/lang/Object"), (0, u "<init>"), (0, u "()V"), (35, .class_ 44), (1, u "java/util/Objects"), (0, u "requireNonNull"), (48, u "(Ljava/lang/Object;Ljava/lang/String;)Ljava/lang/Object;")] 89

def k13m0 : Method := { name := "<init>", desc := "()V", sig := { parameters := [], returnType := none }, accessFlags := 2, code := none }
def k13c1 : Code := { maxStack := 3, maxLocals := 2, code := jdk_31_method_11_code, exceptionTable := #[], attributes := #[] }
def k13m1 : Method := { name := "requireNonNull", desc := "(Ljava/lang/Object;Ljava/lang/String;)Ljava/lang/Object;", sig := { parameters := [(.object "java/lang/Object"), (.object "java/lang/String")], returnType := some (.object "java/lang/Object") }, accessFlags := 9, code := some k13c1 }
/-- java/util/Objects -/
def k13 : Class := { plain "java/util/Objects" (some 0) with
  accessFlags := 49
  interfaces := #[]
  cf := some (fileOf pool13 42 #[] #[{ accessFlags := 2, nameIndex := 5, descriptorIndex := 6, attributes := #[] }, { accessFlags := 9, nameIndex := 45, descriptorIndex := 94, attributes := #[] }] 49 2 #[] #[])
  fields := #[]
  methods := #[k13m0, k13m1]
  instanceTypes := #[]
  staticTypes := #[]
  resolved := Array.replicate 184 none
  statics := none }

def pool14 : Array CpInfo := pool [(4, .class_ 6), (1, u "java/lang/Object"), (0, u "<init>"), (0, u "()V"), (5, .class_ 16), (1, u "java/lang/StringLatin1"), (73, u "canEncode"), (14, u "(C)Z"), (15, u "$assertionsDisabled"), (0, u "Z"), (98, .class_ 223), (1, u "java/lang/StringLatin1$LinesSpliterator"), (156, u "toBytes"), (1, u "(C)[B"), (7, .class_ 391), (0, u "java/lang/StringLatin1$CharsSpliterator")] 3

def k14m0 : Method := { name := "<init>", desc := "()V", sig := { parameters := [], returnType := none }, accessFlags := 0, code := none }
def k14c1 : Code := { maxStack := 2, maxLocals := 1, code := jdk_43_method_3_code, exceptionTable := #[], attributes := #[] }
def k14m1 : Method := { name := "canEncode", desc := "(C)Z", sig := { parameters := [.char], returnType := some .boolean }, accessFlags := 9, code := some k14c1 }
def k14c2 : Code := { maxStack := 4, maxLocals := 1, code := jdk_43_method_46_code, exceptionTable := #[], attributes := #[] }
def k14m2 : Method := { name := "toBytes", desc := "(C)[B", sig := { parameters := [.char], returnType := some (.array .byte) }, accessFlags := 9, code := some k14c2 }
/-- java/lang/StringLatin1 -/
def k14 : Class := { plain "java/lang/StringLatin1" (some 0) with
  accessFlags := 48
  interfaces := #[]
  cf := some (fileOf pool14 14 #[.nestMembers #[390, 221]] #[{ accessFlags := 0, nameIndex := 7, descriptorIndex := 8, attributes := #[] }, { accessFlags := 9, nameIndex := 90, descriptorIndex := 105, attributes := #[] }, { accessFlags := 9, nameIndex := 380, descriptorIndex := 382, attributes := #[] }] 48 4 #[] #[{ accessFlags := 4120, nameIndex := 121, descriptorIndex := 122, attributes := #[] }])
  fields := #[{ name := "$assertionsDisabled", type := .boolean, accessFlags := 4120, slot := 0, constantValue := 0 }]
  methods := #[k14m0, k14m1, k14m2]
  instanceTypes := #[]
  staticTypes := #[.boolean]
  resolved := Array.replicate 395 none
  statics := none }

def pool15 : Array CpInfo := pool [(6, .class_ 8), (1, u "java/lang/Object"), (0, u "<init>"), (0, u "()V"), (1, .class_ 14), (1, u "java/lang/StringUTF16"), (31, u "$assertionsDisabled"), (0, u "Z"), (13, u "HI_BYTE_SHIFT"), (0, u "I"), (2, u "LO_BYTE_SHIFT"), (49, .methodref 12 116), (0, .nameAndType 117 118), (0, u "compress"), (0, u "([CI[BII)I"), (3, u "([CII)[B"), (138, u "coderFromArrayLen"), (0, u "([BI)B"), (106, .class_ 371), (1, u "java/lang/StringUTF16$LinesSpliterator"), (58, u "MAX_LENGTH"), (196, .class_ 628), (0, u "java/lang/StringUTF16$CodePointsSpliterator"), (0, .class_ 630), (0, u "java/lang/StringUTF16$CharsSpliterator")] 4

def k15m0 : Method := { name := "<init>", desc := "()V", sig := { parameters := [], returnType := none }, accessFlags := 0, code := none }
def k15c1 : Code := { maxStack := 2, maxLocals := 2, code := jdk_52_method_15_code, exceptionTable := #[], attributes := #[] }
def k15m1 : Method := { name := "coderFromArrayLen", desc := "([BI)B", sig := { parameters := [(.array .byte), .int], returnType := some .byte }, accessFlags := 8, code := some k15c1 }
def k15c2 : Code := { maxStack := 5, maxLocals := 6, code := jdk_52_method_16_code, exceptionTable := #[], attributes := #[] }
def k15m2 : Method := { name := "compress", desc := "([CII)[B", sig := { parameters := [(.array .char), .int, .int], returnType := some (.array .byte) }, accessFlags := 9, code := some k15c2 }
def k15c3 : Code := { maxStack := 3, maxLocals := 7, code := jdk_52_method_21_code, exceptionTable := #[], attributes := #[] }
def k15m3 : Method := { name := "compress", desc := "([CI[BII)I", sig := { parameters := [(.array .char), .int, (.array .byte), .int, .int], returnType := some .int }, accessFlags := 9, code := some k15c3 }
/-- java/lang/StringUTF16 -/
def k15 : Class := { plain "java/lang/StringUTF16" (some 0) with
  accessFlags := 48
  interfaces := #[]
  cf := some (fileOf pool15 12 #[.nestMembers #[627, 629, 369]] #[{ accessFlags := 0, nameIndex := 9, descriptorIndex := 10, attributes := #[] }, { accessFlags := 8, nameIndex := 261, descriptorIndex := 262, attributes := #[] }, { accessFlags := 9, nameIndex := 117, descriptorIndex := 122, attributes := #[] }, { accessFlags := 9, nameIndex := 117, descriptorIndex := 118, attributes := #[] }] 48 6 #[] #[{ accessFlags := 26, nameIndex := 61, descriptorIndex := 62, attributes := #[] }, { accessFlags := 26, nameIndex := 65, descriptorIndex := 62, attributes := #[] }, { accessFlags := 24, nameIndex := 430, descriptorIndex := 62, attributes := #[] }, { accessFlags := 4120, nameIndex := 46, descriptorIndex := 47, attributes := #[] }])
  fields := #[{ name := "HI_BYTE_SHIFT", type := .int, accessFlags := 26, slot := 0, constantValue := 0 }, { name := "LO_BYTE_SHIFT", type := .int, accessFlags := 26, slot := 1, constantValue := 0 }, { name := "MAX_LENGTH", type := .int, accessFlags := 24, slot := 2, constantValue := 0 }, { name := "$assertionsDisabled", type := .boolean, accessFlags := 4120, slot := 3, constantValue := 0 }]
  methods := #[k15m0, k15m1, k15m2, k15m3]
  instanceTypes := #[]
  staticTypes := #[.int, .int, .int, .boolean]
  resolved := Array.replicate 635 none
  statics := none }

def pool16 : Array CpInfo := pool [(2, .class_ 4), (1, u "java/lang/Object"), (0, u "<init>"), (0, u "()V"), (17, .class_ 26), (1, u "jdk/internal/util/Preconditions"), (28, .class_ 56), (0, u "jdk/internal/util/Preconditions$4"), (57, .class_ 115), (0, u "jdk/internal/util/Preconditions$1"), (7, u "SIOOBE_FORMATTER"), (0, u "Ljava/util/function/BiFunction;"), (0, .class_ 126), (0, u "jdk/internal/util/Preconditions$2"), (3, u "AIOOBE_FORMATTER"), (0, .class_ 132), (0, u "jdk/internal/util/Preconditions$3"), (3, u "IOOBE_FORMATTER")] 57

def k16m0 : Method := { name := "<init>", desc := "()V", sig := { parameters := [], returnType := none }, accessFlags := 1, code := none }
/-- jdk/internal/util/Preconditions -/
def k16 : Class := { plain "jdk/internal/util/Preconditions" (some 0) with
  accessFlags := 33
  interfaces := #[]
  cf := some (fileOf pool16 24 #[.nestMembers #[55, 131, 125, 114]] #[{ accessFlags := 1, nameIndex := 5, descriptorIndex := 6, attributes := #[] }] 33 2 #[] #[{ accessFlags := 25, nameIndex := 123, descriptorIndex := 124, attributes := #[] }, { accessFlags := 25, nameIndex := 130, descriptorIndex := 124, attributes := #[] }, { accessFlags := 25, nameIndex := 136, descriptorIndex := 124, attributes := #[] }])
  fields := #[{ name := "SIOOBE_FORMATTER", type := (.object "java/util/function/BiFunction"), accessFlags := 25, slot := 0, constantValue := 0 }, { name := "AIOOBE_FORMATTER", type := (.object "java/util/function/BiFunction"), accessFlags := 25, slot := 1, constantValue := 0 }, { name := "IOOBE_FORMATTER", type := (.object "java/util/function/BiFunction"), accessFlags := 25, slot := 2, constantValue := 0 }]
  methods := #[k16m0]
  instanceTypes := #[]
  staticTypes := #[(.object "java/util/function/BiFunction"), (.object "java/util/function/BiFunction"), (.object "java/util/function/BiFunction")]
  resolved := Array.replicate 194 none
  statics := some 3 }

def pool17 : Array CpInfo := pool [(9, u "<init>"), (6, .class_ 18), (1, u "java/lang/Object"), (0, u "()V"), (1, .class_ 23), (1, u "jdk/internal/util/ArraysSupport"), (0, u "LOG2_ARRAY_LONG_INDEX_SCALE"), (0, u "I"), (2, u "U"), (0, u "Ljdk/internal/misc/Unsafe;"), (8, u "BIG_ENDIAN"), (0, u "Z"), (8, u "LOG2_BYTE_BIT_SIZE"), (4, u "LOG2_ARRAY_INT_INDEX_SCALE"), (54, u "JLA"), (0, u "Ljdk/internal/access/JavaLangAccess;"), (11, u "LOG2_ARRAY_BOOLEAN_INDEX_SCALE"), (9, u "LOG2_ARRAY_BYTE_INDEX_SCALE"), (5, u "LOG2_ARRAY_CHAR_INDEX_SCALE"), (5, u "LOG2_ARRAY_SHORT_INDEX_SCALE"), (18, u "LOG2_ARRAY_FLOAT_INDEX_SCALE"), (24, u "LOG2_ARRAY_DOUBLE_INDEX_SCALE"), (89, u "T_BOOLEAN"), (2, u "T_CHAR"), (1, u "T_FLOAT"), (1, u "T_DOUBLE"), (1, u "T_BYTE"), (1, u "T_SHORT"), (1, u "T_INT"), (1, u "T_LONG"), (1, u "SOFT_MAX_ARRAY_LENGTH")] 83

def k17m0 : Method := { name := "<init>", desc := "()V", sig := { parameters := [], returnType := none }, accessFlags := 2, code := none }
/-- jdk/internal/util/ArraysSupport -/
def k17 : Class := { plain "jdk/internal/util/ArraysSupport" (some 0) with
  accessFlags := 33
  interfaces := #[]
  cf := some (fileOf pool17 21 #[] #[{ accessFlags := 2, nameIndex := 9, descriptorIndex := 19, attributes := #[] }] 33 16 #[] #[{ accessFlags := 24, nameIndex := 28, descriptorIndex := 29, attributes := #[] }, { accessFlags := 26, nameIndex := 38, descriptorIndex := 39, attributes := #[] }, { accessFlags := 25, nameIndex := 121, descriptorIndex := 25, attributes := #[] }, { accessFlags := 25, nameIndex := 131, descriptorIndex := 25, attributes := #[] }, { accessFlags := 25, nameIndex := 137, descriptorIndex := 25, attributes := #[] }, { accessFlags := 25, nameIndex := 143, descriptorIndex := 25, attributes := #[] }, { accessFlags := 25, nameIndex := 53, descriptorIndex := 25, attributes := #[] }, { accessFlags := 25, nameIndex := 24, descriptorIndex := 25, attributes := #[] }, { accessFlags := 25, nameIndex := 162, descriptorIndex := 25, attributes := #[] }, { accessFlags := 25, nameIndex := 187, descriptorIndex := 25, attributes := #[] }, { accessFlags := 26, nameIndex := 48, descriptorIndex := 25, attributes := #[] }, { accessFlags := 25, nameIndex := 277, descriptorIndex := 25, attributes := #[] }, { accessFlags := 25, nameIndex := 280, descriptorIndex := 25, attributes := #[] }, { accessFlags := 25, nameIndex := 282, descriptorIndex := 25, attributes := #[] }, { accessFlags := 25, nameIndex := 284, descriptorIndex := 25, attributes := #[] }, { accessFlags := 25, nameIndex := 286, descriptorIndex := 25, attributes := #[] }, { accessFlags := 25, nameIndex := 288, descriptorIndex := 25, attributes := #[] }, { accessFlags := 25, nameIndex := 290, descriptorIndex := 25, attributes := #[] }, { accessFlags := 25, nameIndex := 292, descriptorIndex := 25, attributes := #[] }, { accessFlags := 26, nameIndex := 108, descriptorIndex := 109, attributes := #[] }, { accessFlags := 25, nameIndex := 294, descriptorIndex := 25, attributes := #[] }])
  fields := #[{ name := "U", type := (.object "jdk/internal/misc/Unsafe"), accessFlags := 24, slot := 0, constantValue := 0 }, { name := "BIG_ENDIAN", type := .boolean, accessFlags := 26, slot := 1, constantValue := 0 }, { name := "LOG2_ARRAY_BOOLEAN_INDEX_SCALE", type := .int, accessFlags := 25, slot := 2, constantValue := 0 }, { name := "LOG2_ARRAY_BYTE_INDEX_SCALE", type := .int, accessFlags := 25, slot := 3, constantValue := 0 }, { name := "LOG2_ARRAY_CHAR_INDEX_SCALE", type := .int, accessFlags := 25, slot := 4, constantValue := 0 }, { name := "LOG2_ARRAY_SHORT_INDEX_SCALE", type := .int, accessFlags := 25, slot := 5, constantValue := 0 }, { name := "LOG2_ARRAY_INT_INDEX_SCALE", type := .int, accessFlags := 25, slot := 6, constantValue := 0 }, { name := "LOG2_ARRAY_LONG_INDEX_SCALE", type := .int, accessFlags := 25, slot := 7, constantValue := 0 }, { name := "LOG2_ARRAY_FLOAT_INDEX_SCALE", type := .int, accessFlags := 25, slot := 8, constantValue := 0 }, { name := "LOG2_ARRAY_DOUBLE_INDEX_SCALE", type := .int, accessFlags := 25, slot := 9, constantValue := 0 }, { name := "LOG2_BYTE_BIT_SIZE", type := .int, accessFlags := 26, slot := 10, constantValue := 0 }, { name := "T_BOOLEAN", type := .int, accessFlags := 25, slot := 11, constantValue := 0 }, { name := "T_CHAR", type := .int, accessFlags := 25, slot := 12, constantValue := 0 }, { name := "T_FLOAT", type := .int, accessFlags := 25, slot := 13, constantValue := 0 }, { name := "T_DOUBLE", type := .int, accessFlags := 25, slot := 14, constantValue := 0 }, { name := "T_BYTE", type := .int, accessFlags := 25, slot := 15, constantValue := 0 }, { name := "T_SHORT", type := .int, accessFlags := 25, slot := 16, constantValue := 0 }, { name := "T_INT", type := .int, accessFlags := 25, slot := 17, constantValue := 0 }, { name := "T_LONG", type := .int, accessFlags := 25, slot := 18, constantValue := 0 }, { name := "JLA", type := (.object "jdk/internal/access/JavaLangAccess"), accessFlags := 26, slot := 19, constantValue := 0 }, { name := "SOFT_MAX_ARRAY_LENGTH", type := .int, accessFlags := 25, slot := 20, constantValue := 0 }]
  methods := #[k17m0]
  instanceTypes := #[]
  staticTypes := #[(.object "jdk/internal/misc/Unsafe"), .boolean, .int, .int, .int, .int, .int, .int, .int, .int, .int, .int, .int, .int, .int, .int, .int, .int, .int, (.object "jdk/internal/access/JavaLangAccess"), .int]
  resolved := Array.replicate 378 none
  statics := none }

def pool18 : Array CpInfo := pool [(1, u "java/lang/Cloneable"), (0, .class_ 1), (0, u "java/lang/Object"), (0, .class_ 3)] 3

/-- java/lang/Cloneable -/
def k18 : Class := { plain "java/lang/Cloneable" (some 0) with
  accessFlags := 1537
  interfaces := #[]
  cf := some (fileOf pool18 2 #[] #[] 1537 4 #[] #[])
  fields := #[]
  methods := #[]
  instanceTypes := #[]
  staticTypes := #[]
  resolved := Array.replicate 8 none
  statics := none }

/-- the primitive byte -/
def k19 : Class := { plain "byte" none with kind := .primitive 'B', accessFlags := 0x411 }
/-- [B -/
def k20 : Class := { plain "[B" (some 0) with kind := .array 19 .byte, interfaces := #[18, 4], accessFlags := 1041 }

/-- the primitive char -/
def k21 : Class := { plain "char" none with kind := .primitive 'C', accessFlags := 0x411 }
/-- [C -/
def k22 : Class := { plain "[C" (some 0) with kind := .array 21 .char, interfaces := #[18, 4], accessFlags := 1041 }

/-- the primitive int -/
def k23 : Class := { plain "int" none with kind := .primitive 'I', accessFlags := 0x411 }
/-- [I -/
def k24 : Class := { plain "[I" (some 0) with kind := .array 23 .int, interfaces := #[18, 4], accessFlags := 1041 }

def heap : Heap := #[{ cls := 6, slots := #[.ref 4, .ref 5, .ref 6, .ref 7, .ref 8, .ref 9, .ref 10, .null], vm := .statics 6 },
  { cls := 7, slots := #[.ref 11, .ref 12, .ref 13, .ref 14, .ref 15, .null], vm := .statics 7 },
  { cls := 12, slots := #[.long 0, .int 1, .null, .int 0, .null, .int 0, .int 0], vm := .statics 12 },
  { cls := 16, slots := #[.null, .null, .null], vm := .statics 16 },
  { cls := 6, slots := #[.null, .int 0, .int 0], vm := .none },
  { cls := 6, slots := #[.null, .int 1, .int 0], vm := .none },
  { cls := 6, slots := #[.null, .int 2, .int 0], vm := .none },
  { cls := 6, slots := #[.null, .int 3, .int 0], vm := .none },
  { cls := 6, slots := #[.null, .int 4, .int 0], vm := .none },
  { cls := 6, slots := #[.null, .int 5, .int 0], vm := .none },
  { cls := 6, slots := #[.null, .int 6, .int 0], vm := .none },
  { cls := 7, slots := #[.null, .int 0, .int 0], vm := .none },
  { cls := 7, slots := #[.null, .int 1, .int 0], vm := .none },
  { cls := 7, slots := #[.null, .int 2, .int 0], vm := .none },
  { cls := 7, slots := #[.null, .int 3, .int 0], vm := .none },
  { cls := 7, slots := #[.null, .int 4, .int 0], vm := .none }]
def classes : Array Class := #[k0, k1, k2, k3, k4, k5, k6, k7, k8, k9, k10, k11, k12, k13, k14, k15, k16, k17, k18, k19, k20, k21, k22, k23, k24]
def interned : List (Array UInt16 × Addr) := []
def slotsUsed : Nat := 60
def theMethod : MethodId := ⟨1, 4⟩
def args0 : Array Value := #[.int 5, .int 6, .int 7, .int 8, .int 9, .int 10]
def aboutOver (below : List Frame) : State where
  vm := { classes := classes, interned := interned.toArray }
  heap := heap
  slotsUsed := slotsUsed
  threads := #[{ frames := .invoking theMethod args0 :: below }]
def below0 : List Frame := [.native { method := ⟨0, 0⟩, args := #[] }]
def about1 : State := aboutOver below0
def p0 : Program := .bare "" "" ""
def e0 : Env := launch0.env 0 0 0
theorem w_frames : about1.frames = Frame.invoking theMethod args0 :: below0 := rfl
set_option maxRecDepth 65536 in
theorem w_args : argsFit about1.vm theMethod args0 = true := by decide +kernel
set_option maxRecDepth 65536 in
theorem w_heap : heapFits about1 = true := by decide +kernel
set_option maxRecDepth 65536 in
theorem w_runnable : about1.curStatus? = some .runnable := by decide +kernel
set_option maxRecDepth 65536 in
theorem w_alone : about1.alone = true := by decide +kernel
set_option maxRecDepth 65536 in
theorem w_named : about1.methodNamed? x = some theMethod := by decide +kernel
set_option maxRecDepth 65536 in
theorem w_hears : about1.hears theMethod below0 = true := by decide +kernel
set_option maxRecDepth 65536 in
theorem w_ripe : about1.ripe theMethod args0 below0 = true := by decide +kernel
theorem w_running : about1.status = .running := rfl
set_option maxRecDepth 65536 in
theorem w_room : about1.hasRoom e0.platform room_1 = true :=
  launch0.hasRoom_least _ room_1 (by decide +kernel) (by decide +kernel) (by decide +kernel) (by decide +kernel) (by decide +kernel) (by decide +kernel)
theorem allAtoms_all (ts : List Jvm.Cond) (a : Array Jvm.Value) (st : Jvm.State) : (allAtoms ts).before a st = ts.all (fun c => c.before a st) := by
  induction ts with
  | nil => rfl
  | cons c t ih =>
    show (Jvm.Cond.and c (allAtoms t)).before a st = _
    rw [Jvm.Cond.before_and, ih, List.all_cons]
def words1 : List Jvm.Cond := Jvm.Cond.code x code maxLocals ret :: tables_1
/-- a 'code' word, met by the world's own term for the bytes: nothing is compared byte by byte -/
theorem code_word {y : MethodName} {bytes : ByteArray} {mx : Nat} {rt : Option FieldType} {a : Array Value} {s : State} {m : MethodId} {meth : Method} {c : Code} (h1 : s.methodNamed? y = some m) (h2 : s.vm.method? m = some meth) (h3 : meth.code = some c) (h4 : c.code = bytes)
    (h5 : (c.maxLocals == mx && c.exceptionTable.isEmpty && decide (c.maxStack ≤ mostOperands) && decide (meth.sig.returnType = rt) && !meth.locks && decide (parseMethodDescriptor y.desc = some meth.sig)) = true) : (Jvm.Cond.code y bytes mx rt).before a s = true := by
  simp only [Bool.and_eq_true, beq_iff_eq, Bool.not_eq_true', decide_eq_true_eq] at h5
  obtain ⟨⟨⟨⟨⟨g1, g2⟩, g3⟩, g4⟩, g5⟩, g6⟩ := h5
  simp [Cond.before, Cond.holds, Cond.value, h1, h2, h3, h4, g1, g2, g3, g4, g5, g6]
def isCode : Jvm.Cond → Bool
  | .code _ _ _ _ => true
  | _ => false
theorem all_split {L : List Jvm.Cond} {P : Jvm.Cond → Bool} (h1 : L.all (fun c => isCode c || P c) = true) (h2 : ∀ c ∈ L.filter isCode, P c = true) : L.all P = true := by
  refine List.all_eq_true.mpr fun c hc => ?_
  have h := List.all_eq_true.mp h1 c hc
  rcases Bool.eq_false_or_eq_true (isCode c) with hi | hi
  · exact h2 c (List.mem_filter.mpr ⟨hc, hi⟩)
  · simpa [hi] using h
set_option maxRecDepth 65536 in
theorem w_c0 : (Jvm.Cond.code x code maxLocals ret).before args0 about1 = true := code_word (m := ⟨1, 4⟩) (meth := k1m4) (c := k1c4) (by decide +kernel) rfl rfl rfl (by decide +kernel)
set_option maxRecDepth 65536 in
theorem w_c1 : (Jvm.Cond.code ({ cls := "com/example/demarc/demarc/TransactionDefinitionWithPropagationPinLaw", name := "prop", desc := "(I)Lcom/example/demarc/demarc/Propagation;" } : Jvm.MethodName) method_2_code (2 : Nat) (Option.some (Jvm.ClassFile.FieldType.object "com/example/demarc/demarc/Propagation"))).before args0 about1 = true := code_word (m := ⟨1, 1⟩) (meth := k1m1) (c := k1c1) (by decide +kernel) rfl rfl rfl (by decide +kernel)
set_option maxRecDepth 65536 in
theorem w_c2 : (Jvm.Cond.code ({ cls := "com/example/demarc/demarc/TransactionDefinitionWithPropagationPinLaw", name := "iso", desc := "(I)Lcom/example/demarc/demarc/Isolation;" } : Jvm.MethodName) method_3_code (2 : Nat) (Option.some (Jvm.ClassFile.FieldType.object "com/example/demarc/demarc/Isolation"))).before args0 about1 = true := code_word (m := ⟨1, 2⟩) (meth := k1m2) (c := k1c2) (by decide +kernel) rfl rfl rfl (by decide +kernel)
set_option maxRecDepth 65536 in
theorem w_c3 : (Jvm.Cond.code ({ cls := "com/example/demarc/demarc/TransactionDefinitionWithPropagationPinLaw", name := "name", desc := "(II)Ljava/lang/String;" } : Jvm.MethodName) method_4_code (2 : Nat) (Option.some (Jvm.ClassFile.FieldType.object "java/lang/String"))).before args0 about1 = true := code_word (m := ⟨1, 3⟩) (meth := k1m3) (c := k1c3) (by decide +kernel) rfl rfl rfl (by decide +kernel)
set_option maxRecDepth 65536 in
theorem w_c4 : (Jvm.Cond.code ({ cls := "com/example/demarc/demarc/TransactionDefinition", name := "<init>", desc := "(Lcom/example/demarc/demarc/Propagation;Lcom/example/demarc/demarc/Isolation;IZLjava/lang/String;)V" } : Jvm.MethodName) prog_9_method_1_code (6 : Nat) (Option.none : Option Jvm.ClassFile.FieldType)).before args0 about1 = true := code_word (m := ⟨9, 0⟩) (meth := k9m0) (c := k9c0) (by decide +kernel) rfl rfl rfl (by decide +kernel)
set_option maxRecDepth 65536 in
theorem w_c5 : (Jvm.Cond.code ({ cls := "java/lang/Record", name := "<init>", desc := "()V" } : Jvm.MethodName) jdk_30_method_1_code (1 : Nat) (Option.none : Option Jvm.ClassFile.FieldType)).before args0 about1 = true := code_word (m := ⟨8, 0⟩) (meth := k8m0) (c := k8c0) (by decide +kernel) rfl rfl rfl (by decide +kernel)
set_option maxRecDepth 65536 in
theorem w_c6 : (Jvm.Cond.code ({ cls := "java/lang/Object", name := "<init>", desc := "()V" } : Jvm.MethodName) object_method_1_code (1 : Nat) (Option.none : Option Jvm.ClassFile.FieldType)).before args0 about1 = true := code_word (m := ⟨0, 0⟩) (meth := k0m0) (c := k0c0) (by decide +kernel) rfl rfl rfl (by decide +kernel)
set_option maxRecDepth 65536 in
theorem w_c7 : (Jvm.Cond.code ({ cls := "java/util/Objects", name := "requireNonNull", desc := "(Ljava/lang/Object;Ljava/lang/String;)Ljava/lang/Object;" } : Jvm.MethodName) jdk_31_method_11_code (2 : Nat) (Option.some (Jvm.ClassFile.FieldType.object "java/lang/Object"))).before args0 about1 = true := code_word (m := ⟨13, 1⟩) (meth := k13m1) (c := k13c1) (by decide +kernel) rfl rfl rfl (by decide +kernel)
set_option maxRecDepth 65536 in
theorem w_c8 : (Jvm.Cond.code ({ cls := "com/example/demarc/demarc/TransactionDefinition", name := "withPropagation", desc := "(Lcom/example/demarc/demarc/Propagation;)Lcom/example/demarc/demarc/TransactionDefinition;" } : Jvm.MethodName) prog_9_method_2_code (2 : Nat) (Option.some (Jvm.ClassFile.FieldType.object "com/example/demarc/demarc/TransactionDefinition"))).before args0 about1 = true := code_word (m := ⟨9, 1⟩) (meth := k9m1) (c := k9c1) (by decide +kernel) rfl rfl rfl (by decide +kernel)
set_option maxRecDepth 65536 in
theorem w_c9 : (Jvm.Cond.code ({ cls := "com/example/demarc/demarc/TransactionDefinition", name := "name", desc := "()Ljava/lang/String;" } : Jvm.MethodName) prog_9_method_14_code (1 : Nat) (Option.some (Jvm.ClassFile.FieldType.object "java/lang/String"))).before args0 about1 = true := code_word (m := ⟨9, 6⟩) (meth := k9m6) (c := k9c6) (by decide +kernel) rfl rfl rfl (by decide +kernel)
set_option maxRecDepth 65536 in
theorem w_c10 : (Jvm.Cond.code ({ cls := "com/example/demarc/demarc/TransactionDefinition", name := "propagation", desc := "()Lcom/example/demarc/demarc/Propagation;" } : Jvm.MethodName) prog_9_method_10_code (1 : Nat) (Option.some (Jvm.ClassFile.FieldType.object "com/example/demarc/demarc/Propagation"))).before args0 about1 = true := code_word (m := ⟨9, 2⟩) (meth := k9m2) (c := k9c2) (by decide +kernel) rfl rfl rfl (by decide +kernel)
set_option maxRecDepth 65536 in
theorem w_c11 : (Jvm.Cond.code ({ cls := "com/example/demarc/demarc/TransactionDefinition", name := "isolation", desc := "()Lcom/example/demarc/demarc/Isolation;" } : Jvm.MethodName) prog_9_method_11_code (1 : Nat) (Option.some (Jvm.ClassFile.FieldType.object "com/example/demarc/demarc/Isolation"))).before args0 about1 = true := code_word (m := ⟨9, 3⟩) (meth := k9m3) (c := k9c3) (by decide +kernel) rfl rfl rfl (by decide +kernel)
set_option maxRecDepth 65536 in
theorem w_c12 : (Jvm.Cond.code ({ cls := "com/example/demarc/demarc/TransactionDefinition", name := "timeout", desc := "()I" } : Jvm.MethodName) prog_9_method_12_code (1 : Nat) (Option.some Jvm.ClassFile.FieldType.int)).before args0 about1 = true := code_word (m := ⟨9, 4⟩) (meth := k9m4) (c := k9c4) (by decide +kernel) rfl rfl rfl (by decide +kernel)
set_option maxRecDepth 65536 in
theorem w_c13 : (Jvm.Cond.code ({ cls := "com/example/demarc/demarc/TransactionDefinition", name := "readOnly", desc := "()Z" } : Jvm.MethodName) prog_9_method_13_code (1 : Nat) (Option.some Jvm.ClassFile.FieldType.boolean)).before args0 about1 = true := code_word (m := ⟨9, 5⟩) (meth := k9m5) (c := k9c5) (by decide +kernel) rfl rfl rfl (by decide +kernel)
set_option maxRecDepth 65536 in
theorem w_c14 : (Jvm.Cond.code ({ cls := "java/lang/String", name := "valueOf", desc := "(C)Ljava/lang/String;" } : Jvm.MethodName) jdk_42_method_139_code (1 : Nat) (Option.some (Jvm.ClassFile.FieldType.object "java/lang/String"))).before args0 about1 = true := code_word (m := ⟨12, 3⟩) (meth := k12m3) (c := k12c3) (by decide +kernel) rfl rfl rfl (by decide +kernel)
set_option maxRecDepth 65536 in
theorem w_c15 : (Jvm.Cond.code ({ cls := "java/lang/StringLatin1", name := "canEncode", desc := "(C)Z" } : Jvm.MethodName) jdk_43_method_3_code (1 : Nat) (Option.some Jvm.ClassFile.FieldType.boolean)).before args0 about1 = true := code_word (m := ⟨14, 1⟩) (meth := k14m1) (c := k14c1) (by decide +kernel) rfl rfl rfl (by decide +kernel)
set_option maxRecDepth 65536 in
theorem w_c16 : (Jvm.Cond.code ({ cls := "java/lang/StringLatin1", name := "toBytes", desc := "(C)[B" } : Jvm.MethodName) jdk_43_method_46_code (1 : Nat) (Option.some (Jvm.ClassFile.FieldType.array Jvm.ClassFile.FieldType.byte))).before args0 about1 = true := code_word (m := ⟨14, 2⟩) (meth := k14m2) (c := k14c2) (by decide +kernel) rfl rfl rfl (by decide +kernel)
set_option maxRecDepth 65536 in
theorem w_c17 : (Jvm.Cond.code ({ cls := "java/lang/String", name := "<init>", desc := "([BB)V" } : Jvm.MethodName) jdk_42_method_151_code (3 : Nat) (Option.none : Option Jvm.ClassFile.FieldType)).before args0 about1 = true := code_word (m := ⟨12, 5⟩) (meth := k12m5) (c := k12c5) (by decide +kernel) rfl rfl rfl (by decide +kernel)
set_option maxRecDepth 65536 in
theorem w_c18 : (Jvm.Cond.code ({ cls := "java/lang/String", name := "equals", desc := "(Ljava/lang/Object;)Z" } : Jvm.MethodName) jdk_42_method_66_code (3 : Nat) (Option.some Jvm.ClassFile.FieldType.boolean)).before args0 about1 = true := code_word (m := ⟨12, 2⟩) (meth := k12m2) (c := k12c2) (by decide +kernel) rfl rfl rfl (by decide +kernel)
set_option maxRecDepth 65536 in
theorem w_c19 : (Jvm.Cond.code ({ cls := "java/lang/String", name := "<init>", desc := "([C)V" } : Jvm.MethodName) jdk_42_method_3_code (2 : Nat) (Option.none : Option Jvm.ClassFile.FieldType)).before args0 about1 = true := code_word (m := ⟨12, 1⟩) (meth := k12m1) (c := k12c1) (by decide +kernel) rfl rfl rfl (by decide +kernel)
set_option maxRecDepth 65536 in
theorem w_c20 : (Jvm.Cond.code ({ cls := "java/lang/String", name := "<init>", desc := "([CIILjava/lang/Void;)V" } : Jvm.MethodName) jdk_42_method_149_code (6 : Nat) (Option.none : Option Jvm.ClassFile.FieldType)).before args0 about1 = true := code_word (m := ⟨12, 4⟩) (meth := k12m4) (c := k12c4) (by decide +kernel) rfl rfl rfl (by decide +kernel)
set_option maxRecDepth 65536 in
theorem w_c21 : (Jvm.Cond.code ({ cls := "java/lang/StringUTF16", name := "compress", desc := "([CII)[B" } : Jvm.MethodName) jdk_52_method_16_code (6 : Nat) (Option.some (Jvm.ClassFile.FieldType.array Jvm.ClassFile.FieldType.byte))).before args0 about1 = true := code_word (m := ⟨15, 2⟩) (meth := k15m2) (c := k15c2) (by decide +kernel) rfl rfl rfl (by decide +kernel)
set_option maxRecDepth 65536 in
theorem w_c22 : (Jvm.Cond.code ({ cls := "java/lang/StringUTF16", name := "compress", desc := "([CI[BII)I" } : Jvm.MethodName) jdk_52_method_21_code (7 : Nat) (Option.some Jvm.ClassFile.FieldType.int)).before args0 about1 = true := code_word (m := ⟨15, 3⟩) (meth := k15m3) (c := k15c3) (by decide +kernel) rfl rfl rfl (by decide +kernel)
set_option maxRecDepth 65536 in
theorem w_c23 : (Jvm.Cond.code ({ cls := "java/lang/StringUTF16", name := "coderFromArrayLen", desc := "([BI)B" } : Jvm.MethodName) jdk_52_method_15_code (2 : Nat) (Option.some Jvm.ClassFile.FieldType.byte)).before args0 about1 = true := code_word (m := ⟨15, 1⟩) (meth := k15m1) (c := k15c1) (by decide +kernel) rfl rfl rfl (by decide +kernel)
def codes1 : List Jvm.Cond := [Jvm.Cond.code x code maxLocals ret, Jvm.Cond.code ({ cls := "com/example/demarc/demarc/TransactionDefinitionWithPropagationPinLaw", name := "prop", desc := "(I)Lcom/example/demarc/demarc/Propagation;" } : Jvm.MethodName) method_2_code (2 : Nat) (Option.some (Jvm.ClassFile.FieldType.object "com/example/demarc/demarc/Propagation")), Jvm.Cond.code ({ cls := "com/example/demarc/demarc/TransactionDefinitionWithPropagationPinLaw", name := "iso", desc := "(I)Lcom/example/demarc/demarc/Isolation;" } : Jvm.MethodName) method_3_code (2 : Nat) (Option.some (Jvm.ClassFile.FieldType.object "com/example/demarc/demarc/Isolation")), Jvm.Cond.code ({ cls := "com/example/demarc/demarc/TransactionDefinitionWithPropagationPinLaw", name := "name", desc := "(II)Ljava/lang/String;" } : Jvm.MethodName) method_4_code (2 : Nat) (Option.some (Jvm.ClassFile.FieldType.object "java/lang/String")), Jvm.Cond.code ({ cls := "com/example/demarc/demarc/TransactionDefinition", name := "<init>", desc := "(Lcom/example/demarc/demarc/Propagation;Lcom/example/demarc/demarc/Isolation;IZLjava/lang/String;)V" } : Jvm.MethodName) prog_9_method_1_code (6 : Nat) (Option.none : Option Jvm.ClassFile.FieldType), Jvm.Cond.code ({ cls := "java/lang/Record", name := "<init>", desc := "()V" } : Jvm.MethodName) jdk_30_method_1_code (1 : Nat) (Option.none : Option Jvm.ClassFile.FieldType), Jvm.Cond.code ({ cls := "java/lang/Object", name := "<init>", desc := "()V" } : Jvm.MethodName) object_method_1_code (1 : Nat) (Option.none : Option Jvm.ClassFile.FieldType), Jvm.Cond.code ({ cls := "java/util/Objects", name := "requireNonNull", desc := "(Ljava/lang/Object;Ljava/lang/String;)Ljava/lang/Object;" } : Jvm.MethodName) jdk_31_method_11_code (2 : Nat) (Option.some (Jvm.ClassFile.FieldType.object "java/lang/Object")), Jvm.Cond.code ({ cls := "com/example/demarc/demarc/TransactionDefinition", name := "withPropagation", desc := "(Lcom/example/demarc/demarc/Propagation;)Lcom/example/demarc/demarc/TransactionDefinition;" } : Jvm.MethodName) prog_9_method_2_code (2 : Nat) (Option.some (Jvm.ClassFile.FieldType.object "com/example/demarc/demarc/TransactionDefinition")), Jvm.Cond.code ({ cls := "com/example/demarc/demarc/TransactionDefinition", name := "name", desc := "()Ljava/lang/String;" } : Jvm.MethodName) prog_9_method_14_code (1 : Nat) (Option.some (Jvm.ClassFile.FieldType.object "java/lang/String")), Jvm.Cond.code ({ cls := "com/example/demarc/demarc/TransactionDefinition", name := "propagation", desc := "()Lcom/example/demarc/demarc/Propagation;" } : Jvm.MethodName) prog_9_method_10_code (1 : Nat) (Option.some (Jvm.ClassFile.FieldType.object "com/example/demarc/demarc/Propagation")), Jvm.Cond.code ({ cls := "com/example/demarc/demarc/TransactionDefinition", name := "isolation", desc := "()Lcom/example/demarc/demarc/Isolation;" } : Jvm.MethodName) prog_9_method_11_code (1 : Nat) (Option.some (Jvm.ClassFile.FieldType.object "com/example/demarc/demarc/Isolation")), Jvm.Cond.code ({ cls := "com/example/demarc/demarc/TransactionDefinition", name := "timeout", desc := "()I" } : Jvm.MethodName) prog_9_method_12_code (1 : Nat) (Option.some Jvm.ClassFile.FieldType.int), Jvm.Cond.code ({ cls := "com/example/demarc/demarc/TransactionDefinition", name := "readOnly", desc := "()Z" } : Jvm.MethodName) prog_9_method_13_code (1 : Nat) (Option.some Jvm.ClassFile.FieldType.boolean), Jvm.Cond.code ({ cls := "java/lang/String", name := "valueOf", desc := "(C)Ljava/lang/String;" } : Jvm.MethodName) jdk_42_method_139_code (1 : Nat) (Option.some (Jvm.ClassFile.FieldType.object "java/lang/String")), Jvm.Cond.code ({ cls := "java/lang/StringLatin1", name := "canEncode", desc := "(C)Z" } : Jvm.MethodName) jdk_43_method_3_code (1 : Nat) (Option.some Jvm.ClassFile.FieldType.boolean), Jvm.Cond.code ({ cls := "java/lang/StringLatin1", name := "toBytes", desc := "(C)[B" } : Jvm.MethodName) jdk_43_method_46_code (1 : Nat) (Option.some (Jvm.ClassFile.FieldType.array Jvm.ClassFile.FieldType.byte)), Jvm.Cond.code ({ cls := "java/lang/String", name := "<init>", desc := "([BB)V" } : Jvm.MethodName) jdk_42_method_151_code (3 : Nat) (Option.none : Option Jvm.ClassFile.FieldType), Jvm.Cond.code ({ cls := "java/lang/String", name := "equals", desc := "(Ljava/lang/Object;)Z" } : Jvm.MethodName) jdk_42_method_66_code (3 : Nat) (Option.some Jvm.ClassFile.FieldType.boolean), Jvm.Cond.code ({ cls := "java/lang/String", name := "<init>", desc := "([C)V" } : Jvm.MethodName) jdk_42_method_3_code (2 : Nat) (Option.none : Option Jvm.ClassFile.FieldType), Jvm.Cond.code ({ cls := "java/lang/String", name := "<init>", desc := "([CIILjava/lang/Void;)V" } : Jvm.MethodName) jdk_42_method_149_code (6 : Nat) (Option.none : Option Jvm.ClassFile.FieldType), Jvm.Cond.code ({ cls := "java/lang/StringUTF16", name := "compress", desc := "([CII)[B" } : Jvm.MethodName) jdk_52_method_16_code (6 : Nat) (Option.some (Jvm.ClassFile.FieldType.array Jvm.ClassFile.FieldType.byte)), Jvm.Cond.code ({ cls := "java/lang/StringUTF16", name := "compress", desc := "([CI[BII)I" } : Jvm.MethodName) jdk_52_method_21_code (7 : Nat) (Option.some Jvm.ClassFile.FieldType.int), Jvm.Cond.code ({ cls := "java/lang/StringUTF16", name := "coderFromArrayLen", desc := "([BI)B" } : Jvm.MethodName) jdk_52_method_15_code (2 : Nat) (Option.some Jvm.ClassFile.FieldType.byte)]
set_option maxRecDepth 65536 in
theorem codes_eq : words1.filter isCode = codes1 := rfl
theorem w_codes : ∀ c ∈ words1.filter isCode, c.before args0 about1 = true := by
  rw [codes_eq]
  intro c hc
  simp only [codes1, List.mem_cons, List.not_mem_nil, or_false] at hc
  rcases hc with rfl | rfl | rfl | rfl | rfl | rfl | rfl | rfl | rfl | rfl | rfl | rfl | rfl | rfl | rfl | rfl | rfl | rfl | rfl | rfl | rfl | rfl | rfl | rfl
  · exact w_c0
  · exact w_c1
  · exact w_c2
  · exact w_c3
  · exact w_c4
  · exact w_c5
  · exact w_c6
  · exact w_c7
  · exact w_c8
  · exact w_c9
  · exact w_c10
  · exact w_c11
  · exact w_c12
  · exact w_c13
  · exact w_c14
  · exact w_c15
  · exact w_c16
  · exact w_c17
  · exact w_c18
  · exact w_c19
  · exact w_c20
  · exact w_c21
  · exact w_c22
  · exact w_c23
set_option maxRecDepth 65536 in
theorem w_t1 : (words1.take 24).all (fun c => isCode c || c.before args0 about1) = true := by decide +kernel
set_option maxRecDepth 65536 in
theorem w_t2 : ((words1.drop 24).take 24).all (fun c => isCode c || c.before args0 about1) = true := by decide +kernel
set_option maxRecDepth 65536 in
theorem w_t3 : (((words1.drop 24).drop 24).take 24).all (fun c => isCode c || c.before args0 about1) = true := by decide +kernel
set_option maxRecDepth 65536 in
theorem w_t4 : ((((words1.drop 24).drop 24).drop 24).take 24).all (fun c => isCode c || c.before args0 about1) = true := by decide +kernel
set_option maxRecDepth 65536 in
theorem w_t5 : (((((words1.drop 24).drop 24).drop 24).drop 24).take 24).all (fun c => isCode c || c.before args0 about1) = true := by decide +kernel
set_option maxRecDepth 65536 in
theorem w_t6 : ((((((words1.drop 24).drop 24).drop 24).drop 24).drop 24).take 24).all (fun c => isCode c || c.before args0 about1) = true := by decide +kernel
set_option maxRecDepth 65536 in
theorem w_t7 : ((((((words1.drop 24).drop 24).drop 24).drop 24).drop 24).drop 24).all (fun c => isCode c || c.before args0 about1) = true := by decide +kernel
theorem w_tables : (allAtoms (Jvm.Cond.code x code maxLocals ret :: tables_1)).before args0 about1 = true := by
  rw [allAtoms_all]
  show words1.all (fun c => c.before args0 about1) = true
  refine all_split ?_ w_codes
  rw [← List.take_append_drop 24 words1, List.all_append, w_t1, ← List.take_append_drop 24 (words1.drop 24), List.all_append, w_t2, ← List.take_append_drop 24 ((words1.drop 24).drop 24), List.all_append, w_t3, ← List.take_append_drop 24 (((words1.drop 24).drop 24).drop 24), List.all_append, w_t4, ← List.take_append_drop 24 ((((words1.drop 24).drop 24).drop 24).drop 24), List.all_append, w_t5, ← List.take_append_drop 24 (((((words1.drop 24).drop 24).drop 24).drop 24).drop 24), List.all_append, w_t6, w_t7]
  rfl
set_option maxRecDepth 65536 in
theorem w_rest : rest_1_c.before args0 about1 = true := by decide +kernel
set_option maxRecDepth 65536 in
theorem w_case : (Jvm.Cond.and given_1 narrow_1).before args0 about1 = true := by decide +kernel
set_option maxRecDepth 65536 in
theorem w_consts : constsHeld consts_1 about1 := Jvm.Lit.constsHeldB_iff.mp (by decide +kernel)
theorem w_applies : (headSpec (Jvm.Cond.code x code maxLocals ret :: tables_1) room_1).applies x e0.platform about1 = true :=
  (Spec.applies_iff w_frames).mpr ⟨w_running, w_runnable, w_alone, w_named, w_hears, w_ripe, w_room, w_tables⟩
theorem atStart : AtStart classFile x code maxLocals ret World_1 tables_1 room_1 Calls_1 rest_1 Pre_1 launch0 p0 e0 about1 theMethod args0 below0 :=
  ⟨lists_1, trivial, launch0.admits_env _ _ _, launch0.least_env, fairChoices_fair.cas, fairChoices_fair.clock, w_frames, w_args, w_heap, w_applies, ⟨w_consts, trivial⟩, w_rest, w_case⟩
end start1
theorem witness_1 : WitnessClaimed_1 := ⟨start1.p0, start1.e0, start1.about1, start1.theMethod, start1.args0, start1.below0, start1.atStart⟩
end Jvm.Pilot.@@N@@
