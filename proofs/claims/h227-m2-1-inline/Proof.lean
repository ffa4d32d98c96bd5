import JvmDerived
import JvmDerived.Pilot.@@N@@Statement
import JvmDerived.Pilot.@@N@@Code
set_option linter.unusedVariables false
set_option linter.unusedSimpArgs false
/- laws to paste: Road.backV, Road.lenW, Road.chN, Road.codOf (cut by pick.py; bodies as the Statement names them) -/
namespace Jvm.Pilot.@@N@@
namespace StrChars
open Jvm Sem ClassFile Op Lib Jvm.Stand Jvm.Free.XT Jvm.Free.ALB Jvm.Free.JM Jvm.Free
open Jvm.Lib.Cold (StaticIs)
/-- a char array whose places are chars -/
def Ch (a : Addr) (A : Cell) (U : State) : Prop := Arr .char a A U ∧ Typed .char A
theorem Ch.mv {a : Addr} {A : Cell} {U U' : State} (h : Ch a A U) (hal : U.vm.Alike U'.vm) (hh : U'.heap = U.heap) : Ch a A U' := ⟨h.1.mv hal hh, h.2⟩
theorem Ch.keep {a : Addr} {A : Cell} {U U' : State} (h : Ch a A U) (hal : U.vm.Alike U'.vm) (hk : U'.heap[a]? = some A) : Ch a A U' := ⟨h.1.keep hal hk, h.2⟩
/-- what place i of a char[]'s cell holds -/
def cv (A : Cell) (i : Nat) : Int32 := match A.slots[i]? with | some (.int x) => x | _ => 0
theorem Ch.get {a : Addr} {A : Cell} {U : State} (h : Ch a A U) {i : Nat} (hi : i < A.slots.size) : A.slots[i]? = some (.int (cv A i)) := by
  have e := Array.getElem?_eq_getElem hi
  have f := h.2 i _ e
  unfold cv; rw [e]
  generalize A.slots[i] = v at f
  cases v <;> simp [fits] at f ⊢
/-- the byte that i2b leaves of a char -/
def lo8 (x : Int32) : Int32 := x.toInt8.toInt32
theorem fits_lo8 (y : Int32) : fits .byte (.int (lo8 y)) = true := by
  have h1 := y.toInt8.le_toInt
  have h2 := y.toInt8.toInt_lt
  simp only [lo8, fits, Bool.and_eq_true, decide_eq_true_eq, Int32.le_iff_toInt_le, Int8.toInt_toInt32, show (-128 : Int32).toInt = -128 from by decide, show (127 : Int32).toInt = 127 from by decide]
  omega
/-- A' is A but that each place j of lo .. hi - 1 holds f j -/
def Laid (A A' : Cell) (lo hi : Nat) (f : Nat → Value) : Prop := A'.cls = A.cls ∧ A'.vm = A.vm ∧ A'.slots.size = A.slots.size ∧ ∀ i, A'.slots[i]? = if lo ≤ i ∧ i < hi then some (f i) else A.slots[i]?
theorem Laid.zero (A : Cell) (lo : Nat) (f : Nat → Value) : Laid A A lo (lo + 0) f := ⟨rfl, rfl, rfl, fun i => by rw [if_neg (by omega)]⟩
theorem Laid.step {A Ak : Cell} {lo k : Nat} {f : Nat → Value} {v : Value} (h : Laid A Ak lo k f) (hlo : lo ≤ k) (hk : k < Ak.slots.size) (hv : v = f k) : Laid A (Ak.setSlot k v) lo (k + 1) f := by
  refine ⟨h.1, h.2.1, by simpa [Cell.setSlot] using h.2.2.1, fun i => ?_⟩
  by_cases e : k = i
  · subst e; rw [Cell.slots_setSlot_self v hk, if_pos (by omega), hv]
  · rw [Cell.slots_setSlot_ne v e, h.2.2.2 i]
    by_cases q : lo ≤ i ∧ i < k
    · rw [if_pos q, if_pos (by omega)]
    · rw [if_neg q, if_neg (by omega)]
def U16 : String := "java/lang/StringUTF16"
namespace Cmp5
def yN : MethodName := ⟨"java/lang/StringUTF16", "compress", "([CI[BII)I"⟩
abbrev yB : ByteArray := jdk_52_method_21_code
theorem d0 : decode yB 0 = .ok (.iconst 0, 1) := by decide +kernel
theorem d1 : decode yB 1 = .ok (.istore 5, 2) := by decide +kernel
theorem d3 : decode yB 3 = .ok (.iload 5, 2) := by decide +kernel
theorem d5 : decode yB 5 = .ok (.iload 4, 2) := by decide +kernel
theorem d7 : decode yB 7 = .ok (.if_icmp (.ge) 37, 3) := by decide +kernel
theorem d10 : decode yB 10 = .ok (.aload_n 0, 1) := by decide +kernel
theorem d11 : decode yB 11 = .ok (.iload_n 1, 1) := by decide +kernel
theorem d12 : decode yB 12 = .ok (.caload, 1) := by decide +kernel
theorem d13 : decode yB 13 = .ok (.istore 6, 2) := by decide +kernel
theorem d15 : decode yB 15 = .ok (.iload 6, 2) := by decide +kernel
theorem d17 : decode yB 17 = .ok (.sipush 255, 3) := by decide +kernel
theorem d20 : decode yB 20 = .ok (.if_icmp (.le) 6, 3) := by decide +kernel
theorem d26 : decode yB 26 = .ok (.aload_n 2, 1) := by decide +kernel
theorem d27 : decode yB 27 = .ok (.iload_n 3, 1) := by decide +kernel
theorem d28 : decode yB 28 = .ok (.iload 6, 2) := by decide +kernel
theorem d30 : decode yB 30 = .ok (.i2b, 1) := by decide +kernel
theorem d31 : decode yB 31 = .ok (.bastore, 1) := by decide +kernel
theorem d32 : decode yB 32 = .ok (.iinc 1 1, 3) := by decide +kernel
theorem d35 : decode yB 35 = .ok (.iinc 3 1, 3) := by decide +kernel
theorem d38 : decode yB 38 = .ok (.iinc 5 1, 3) := by decide +kernel
theorem d41 : decode yB 41 = .ok (.goto (-38), 3) := by decide +kernel
theorem d44 : decode yB 44 = .ok (.iload 4, 2) := by decide +kernel
theorem d46 : decode yB 46 = .ok (.ireturn, 1) := by decide +kernel
def site : List Cond := []
def tab : Cond := tabOf yN yB 7 (some .int) site
def P (b : Addr) (A : Cell) (d : Addr) (B : Cell) (o q len : Nat) (args : Array Value) (s : State) : Prop := args = #[.ref b, .int (Int32.ofNat o), .ref d, .int (Int32.ofNat q), .int (Int32.ofNat len)] ∧ Ch b A s ∧ Arr .byte d B s ∧ b ≠ d ∧ o + len ≤ A.slots.size ∧ q + len ≤ B.slots.size ∧ ∀ i, i < len → ¬ 255 < cv A (o + i)
def E (b : Addr) (A : Cell) (d : Addr) (B : Cell) (o q len : Nat) (r : Option Value) (s u : State) : Prop := r = some (.int (Int32.ofNat len)) ∧ ∃ B', Put d B' s u ∧ Laid B B' q (q + len) (fun j => Value.int (lo8 (cv A (o + (j - q)))))
/-- no char of the range above 255: len; the places written hold each char's low byte -/
theorem law (l : Launch) (b : Addr) (A : Cell) (d : Addr) (B : Cell) (o q len : Nat) : Law l yN 5 5 0 0 yB 7 (some .int) site (P b A d B o q len) (E b A d B o q len) (copyLocs d q len) 0 0 := by
  refine Law.of_walk (plainFor_of_name (by decide +kernel)) (by decide +kernel) (by decide +kernel) (by decide) (fun _ _ h => by rw [h.1]; rfl) (fun _ U U' hal hh h => ⟨h.1, h.2.1.mv hal hh, h.2.2.1.mv hal hh, h.2.2.2⟩) (fun r U U' V V' h1 hal h2 h => ⟨h.1, h.2.elim fun B' q => ⟨B', q.1.mv h1 h2, q.2⟩⟩) ?_
  intro p e s m args below meth c s₁ X0 hexec hbytes hml hret hlk hnm hown hh0 W hP
  obtain ⟨rfl, hA, hB, hne, l1, l2, hp⟩ := hP
  have c1 : Steps p.tables e below (s₁.setTop (entryFrame m #[.ref b, .int (Int32.ofNat o), .ref d, .int (Int32.ofNat q), .int (Int32.ofNat len)] 7)) (s₁.setTop (mkF m 0 #[.val (.ref b), .val (.int (Int32.ofNat o)), .val (.ref d), .val (.int (Int32.ofNat q)), .val (.int (Int32.ofNat len)), .unset, .unset] [])) := entry rfl
  have hA0 := hA.1.mv X0.warmed.alike hh0
  have hB0 := hB.mv X0.warmed.alike hh0
  have a31 := hA.1.2.2.2
  have c2 : Steps p.tables e below (s₁.setTop (entryFrame m #[.ref b, .int (Int32.ofNat o), .ref d, .int (Int32.ofNat q), .int (Int32.ofNat len)] 7)) (s₁.setTop (mkF m 3 #[.val (.ref b), .val (.int (Int32.ofNat o)), .val (.ref d), .val (.int (Int32.ofNat q)), .val (.int (Int32.ofNat len)), .val (.int 0), .unset] [])) := c1.trans (by
    refine iconstV X0.here hexec rfl 0 (hb hbytes d0) (by decide) ?_
    refine XS.istore X0.here hexec rfl (hb hbytes d1) rfl rfl ?_
    exact Steps.refl _)
  have loop : ∀ (r i : Nat), i + r = len → ∀ (z : Slot), (z = .unset ∨ ∃ w, z = .val w ∧ w.category = 1) → ∀ (Tl : State) (Bk : Cell), Stand p l e { frames := 0, locals := 0, cells := 0, slots := 0 } s m #[.ref b, .int (Int32.ofNat o), .ref d, .int (Int32.ofNat q), .int (Int32.ofNat len)] below meth c Tl ([] ++ copyLocs d q i) 0 0 → Put d Bk s₁ Tl → Laid B Bk q (q + i) (fun j => Value.int (lo8 (cv A (o + (j - q))))) →
      Steps p.tables e below (s₁.setTop (entryFrame m #[.ref b, .int (Int32.ofNat o), .ref d, .int (Int32.ofNat q), .int (Int32.ofNat len)] 7)) (Tl.setTop (mkF m 3 #[.val (.ref b), .val (.int (Int32.ofNat (o + i))), .val (.ref d), .val (.int (Int32.ofNat (q + i))), .val (.int (Int32.ofNat len)), .val (.int (Int32.ofNat i)), z] [])) → ∃ (T' : State) (B' : Cell) (z' : Slot), Stand p l e { frames := 0, locals := 0, cells := 0, slots := 0 } s m #[.ref b, .int (Int32.ofNat o), .ref d, .int (Int32.ofNat q), .int (Int32.ofNat len)] below meth c T' ([] ++ copyLocs d q len) 0 0 ∧ Put d B' s₁ T' ∧ Laid B B' q (q + len) (fun j => Value.int (lo8 (cv A (o + (j - q))))) ∧
      Steps p.tables e below (s₁.setTop (entryFrame m #[.ref b, .int (Int32.ofNat o), .ref d, .int (Int32.ofNat q), .int (Int32.ofNat len)] 7)) (T'.setTop (mkF m 3 #[.val (.ref b), .val (.int (Int32.ofNat (o + len))), .val (.ref d), .val (.int (Int32.ofNat (q + len))), .val (.int (Int32.ofNat len)), .val (.int (Int32.ofNat len)), z'] [])) := by
    intro r
    induction r with
    | zero =>
      intro i hi z hz Tl Bk Xl pl fl cl
      have hil : i = len := by omega
      rw [hil] at Xl fl cl
      exact ⟨Tl, Bk, z, Xl, pl, fl, cl⟩
    | succ r ih =>
      intro i hi z hz Tl Bk Xl pl fl cl
      have all := X0.warmed.alike.symm.trans Xl.warmed.alike
      have hAl := hA0.keep all (pl.other hne hA0.1)
      have hBk := hB0.like all pl.1 fl.1 fl.2.1 fl.2.2.1
      have hlt : q + i < Bk.slots.size := by rw [fl.2.2.1]; omega
      have c3 : Steps p.tables e below (s₁.setTop (entryFrame m #[.ref b, .int (Int32.ofNat o), .ref d, .int (Int32.ofNat q), .int (Int32.ofNat len)] 7)) (Tl.setTop (mkF m 12 #[.val (.ref b), .val (.int (Int32.ofNat (o + i))), .val (.ref d), .val (.int (Int32.ofNat (q + i))), .val (.int (Int32.ofNat len)), .val (.int (Int32.ofNat i)), z] [.int (Int32.ofNat (o + i)), .ref b])) := cl.trans (by
        refine XS.iload Xl.here hexec rfl (hb hbytes d3) rfl ?_
        refine XS.iload Xl.here hexec rfl (hb hbytes d5) rfl ?_
        refine XS.icmpNo Xl.here hexec rfl (hb hbytes d7) rfl (ii_ge_f (lt32 (by omega) (by omega))) ?_
        refine XS.aloadN Xl.here hexec rfl (hb hbytes d10) rfl rfl ?_
        refine XS.iloadN Xl.here hexec rfl (hb hbytes d11) rfl ?_
        exact Steps.refl _)
      have c4 : Steps p.tables e below (s₁.setTop (entryFrame m #[.ref b, .int (Int32.ofNat o), .ref d, .int (Int32.ofNat q), .int (Int32.ofNat len)] 7)) (Tl.setTop (mkF m 13 #[.val (.ref b), .val (.int (Int32.ofNat (o + i))), .val (.ref d), .val (.int (Int32.ofNat (q + i))), .val (.int (Int32.ofNat len)), .val (.int (Int32.ofNat i)), z] [.int (cv A (o + i))])) := c3.trans (by
        refine Xl.aget hexec hAl rfl (hA.get (i := o + i) (by omega)) rfl rfl (hb hbytes d12) ?_
        exact Steps.refl _)
      have c5 : Steps p.tables e below (s₁.setTop (entryFrame m #[.ref b, .int (Int32.ofNat o), .ref d, .int (Int32.ofNat q), .int (Int32.ofNat len)] 7)) (Tl.setTop (mkF m 15 #[.val (.ref b), .val (.int (Int32.ofNat (o + i))), .val (.ref d), .val (.int (Int32.ofNat (q + i))), .val (.int (Int32.ofNat len)), .val (.int (Int32.ofNat i)), .val (.int (cv A (o + i)))] [])) := c4.trans (by
        refine XS.istoreS Xl.here hexec rfl (hb hbytes d13) rfl rfl hz ?_
        exact Steps.refl _)
      have c6 : Steps p.tables e below (s₁.setTop (entryFrame m #[.ref b, .int (Int32.ofNat o), .ref d, .int (Int32.ofNat q), .int (Int32.ofNat len)] 7)) (Tl.setTop (mkF m 31 #[.val (.ref b), .val (.int (Int32.ofNat (o + i))), .val (.ref d), .val (.int (Int32.ofNat (q + i))), .val (.int (Int32.ofNat len)), .val (.int (Int32.ofNat i)), .val (.int (cv A (o + i)))] [.int (lo8 (cv A (o + i))), .int (Int32.ofNat (q + i)), .ref d])) := c5.trans (by
        refine XS.iload Xl.here hexec rfl (hb hbytes d15) rfl ?_
        refine sipushV Xl.here hexec rfl 255 (hb hbytes d17) (by decide) ?_
        refine XS.icmpYes Xl.here hexec rfl (pc0 := 20) rfl (hb hbytes d20) rfl (ii_le_t (hp i (by omega))) (by decide) rfl ?_
        refine XS.aloadN Xl.here hexec rfl (hb hbytes d26) rfl rfl ?_
        refine XS.iloadN Xl.here hexec rfl (hb hbytes d27) rfl ?_
        refine XS.iload Xl.here hexec rfl (hb hbytes d28) rfl ?_
        refine i2b Xl.here hexec rfl (hb hbytes d30) rfl ?_
        exact Steps.refl _)
      obtain ⟨T7, X7, p7, st7⟩ := Xl.aput hexec hBk rfl hlt rfl (fits_lo8 (cv A (o + i))) (g := (mkF m 31 #[.val (.ref b), .val (.int (Int32.ofNat (o + i))), .val (.ref d), .val (.int (Int32.ofNat (q + i))), .val (.int (Int32.ofNat len)), .val (.int (Int32.ofNat i)), .val (.int (cv A (o + i)))] [.int (lo8 (cv A (o + i))), .int (Int32.ofNat (q + i)), .ref d])) rfl (rest := []) rfl (hb hbytes d31)
      have c8 : Steps p.tables e below (s₁.setTop (entryFrame m #[.ref b, .int (Int32.ofNat o), .ref d, .int (Int32.ofNat q), .int (Int32.ofNat len)] 7)) (T7.setTop (mkF m 32 #[.val (.ref b), .val (.int (Int32.ofNat (o + i))), .val (.ref d), .val (.int (Int32.ofNat (q + i))), .val (.int (Int32.ofNat len)), .val (.int (Int32.ofNat i)), .val (.int (cv A (o + i)))] [])) := c6.trans (st7 _ (Steps.refl _))
      have c9 : Steps p.tables e below (s₁.setTop (entryFrame m #[.ref b, .int (Int32.ofNat o), .ref d, .int (Int32.ofNat q), .int (Int32.ofNat len)] 7)) (T7.setTop (mkF m 3 #[.val (.ref b), .val (.int (Int32.ofNat (o + i) + 1)), .val (.ref d), .val (.int (Int32.ofNat (q + i) + 1)), .val (.int (Int32.ofNat len)), .val (.int (Int32.ofNat i + 1)), .val (.int (cv A (o + i)))] [])) := c8.trans (by
        refine iincV X7.here hexec rfl 1 (hb hbytes d32) (by decide) rfl rfl ?_
        refine iincV X7.here hexec rfl 1 (hb hbytes d35) (by decide) rfl rfl ?_
        refine iincV X7.here hexec rfl 1 (hb hbytes d38) (by decide) rfl rfl ?_
        refine XS.goto X7.here hexec rfl (pc0 := 41) rfl (hb hbytes d41) (by decide) rfl ?_
        exact Steps.refl _)
      have c10 : Steps p.tables e below (s₁.setTop (entryFrame m #[.ref b, .int (Int32.ofNat o), .ref d, .int (Int32.ofNat q), .int (Int32.ofNat len)] 7)) (T7.setTop (mkF m 3 #[.val (.ref b), .val (.int (Int32.ofNat (o + (i + 1)))), .val (.ref d), .val (.int (Int32.ofNat (q + (i + 1)))), .val (.int (Int32.ofNat len)), .val (.int (Int32.ofNat (i + 1))), .val (.int (cv A (o + i)))] [])) := by
        have := c9
        rw [succ32, succ32, succ32] at this
        exact this
      exact ih (i + 1) (by omega) _ (Or.inr ⟨_, rfl, rfl⟩) T7 _ (by rw [copyLocs_step, ← List.append_assoc]; exact X7) (pl.trans p7) (fl.step (by omega) hlt (by simp)) c10
  obtain ⟨T9, B9, z9, X9, p9, f9, g9⟩ := loop len 0 (by omega) .unset (Or.inl rfl) s₁ B (by simpa [copyLocs] using X0) ⟨hB0.1, fun _ _ => rfl, rfl⟩ (Laid.zero _ _ _) c2
  have c11 : Steps p.tables e below (s₁.setTop (entryFrame m #[.ref b, .int (Int32.ofNat o), .ref d, .int (Int32.ofNat q), .int (Int32.ofNat len)] 7)) (T9.setTop (mkF m 46 #[.val (.ref b), .val (.int (Int32.ofNat (o + len))), .val (.ref d), .val (.int (Int32.ofNat (q + len))), .val (.int (Int32.ofNat len)), .val (.int (Int32.ofNat len)), z9] [.int (Int32.ofNat len)])) := g9.trans (by
    refine XS.iload X9.here hexec rfl (hb hbytes d3) rfl ?_
    refine XS.iload X9.here hexec rfl (hb hbytes d5) rfl ?_
    refine XS.icmpYes X9.here hexec rfl (pc0 := 7) rfl (hb hbytes d7) rfl (ii_ge_t (nlt32 (by omega) (Nat.le_refl _))) (by decide) rfl ?_
    refine XS.iload X9.here hexec rfl (hb hbytes d44) rfl ?_
    exact Steps.refl _)
  exact ⟨T9, some (.int (Int32.ofNat len)), _, _, _, X9, by simp, rfl, rfl, (fun h => by cases h), ⟨rfl, B9, p9.from hh0, f9⟩, fun fs hl => c11.trans (X9.ireturnOut hexec hret rfl (Or.inl rfl) (hb hbytes d46) hl)⟩
end Cmp5
namespace Cmp3
def yN : MethodName := ⟨"java/lang/StringUTF16", "compress", "([CII)[B"⟩
abbrev yB : ByteArray := jdk_52_method_16_code
theorem d0 : decode yB 0 = .ok (.iload_n 2, 1) := by decide +kernel
theorem d1 : decode yB 1 = .ok (.newarray .byte, 2) := by decide +kernel
theorem d3 : decode yB 3 = .ok (.astore_n 3, 1) := by decide +kernel
theorem d4 : decode yB 4 = .ok (.aload_n 0, 1) := by decide +kernel
theorem d5 : decode yB 5 = .ok (.iload_n 1, 1) := by decide +kernel
theorem d6 : decode yB 6 = .ok (.aload_n 3, 1) := by decide +kernel
theorem d7 : decode yB 7 = .ok (.iconst 0, 1) := by decide +kernel
theorem d8 : decode yB 8 = .ok (.iload_n 2, 1) := by decide +kernel
theorem d9 : decode yB 9 = .ok (.invokestatic 115, 3) := by decide +kernel
theorem d12 : decode yB 12 = .ok (.istore 4, 2) := by decide +kernel
theorem d14 : decode yB 14 = .ok (.iload 4, 2) := by decide +kernel
theorem d16 : decode yB 16 = .ok (.iload_n 2, 1) := by decide +kernel
theorem d17 : decode yB 17 = .ok (.if_icmp (.eq) 40, 3) := by decide +kernel
theorem d57 : decode yB 57 = .ok (.aload_n 3, 1) := by decide +kernel
theorem d58 : decode yB 58 = .ok (.areturn, 1) := by decide +kernel
def site : List Cond := [.arrayClass .byte, Cmp5.tab] ++ staticW U16 115 Cmp5.yN
def tab : Cond := tabOf yN yB 6 (some (.array .byte)) site
def P (b : Addr) (A : Cell) (o len : Nat) (args : Array Value) (s : State) : Prop := args = #[.ref b, .int (Int32.ofNat o), .int (Int32.ofNat len)] ∧ Ch b A s ∧ o + len ≤ A.slots.size ∧ len ≤ 536870912 ∧ ∀ i, i < len → ¬ 255 < cv A (o + i)
def E (b : Addr) (A : Cell) (o len : Nat) (r : Option Value) (s u : State) : Prop := NewArr .byte "[B" len (fun j => .int (lo8 (cv A (o + j)))) r s u ∧ u.heap.size = s.heap.size + 1
/-- no char of the range above 255: a new byte[] of their low bytes -/
theorem law (l : Launch) (b : Addr) (A : Cell) (o len : Nat) : Law l yN 3 3 1 18 yB 6 (some (.array .byte)) site (P b A o len) (E b A o len) [] 1 len := by
  refine Law.of_walk (plainFor_of_name (by decide +kernel)) (by decide +kernel) (by decide +kernel) (by decide) (fun _ _ h => by rw [h.1]; rfl) (fun _ U U' hal hh h => ⟨h.1, h.2.1.mv hal hh, h.2.2⟩) (fun r U U' V V' h1 hal h2 h => ⟨NewArr.mv r U U' V V' h1 hal h2 h.1, by rw [h1, h2]; exact h.2⟩) ?_
  intro p e s m args below meth c s₁ X0 hexec hbytes hml hret hlk hnm hown hh0 W hP
  obtain ⟨rfl, hA, l1, l2, hp⟩ := hP
  have a31 := hA.1.2.2.2
  have c1 : Steps p.tables e below (s₁.setTop (entryFrame m #[.ref b, .int (Int32.ofNat o), .int (Int32.ofNat len)] 6)) (s₁.setTop (mkF m 0 #[.val (.ref b), .val (.int (Int32.ofNat o)), .val (.int (Int32.ofNat len)), .unset, .unset, .unset] [])) := entry rfl
  have c2 : Steps p.tables e below (s₁.setTop (entryFrame m #[.ref b, .int (Int32.ofNat o), .int (Int32.ofNat len)] 6)) (s₁.setTop (mkF m 1 #[.val (.ref b), .val (.int (Int32.ofNat o)), .val (.int (Int32.ofNat len)), .unset, .unset, .unset] [.int (Int32.ofNat len)])) := c1.trans (by
    refine XS.iloadN X0.here hexec rfl (hb hbytes d0) rfl ?_
    exact Steps.refl _)
  obtain ⟨T3, B3, X3, ba3, bs3, bv3, bh3, bf3, st3⟩ := X0.anew hexec (atype := .byte) (wk W (.arrayClass .byte)) rfl (by show len * 1 ≤ _; omega) (by omega) (g := (mkF m 1 #[.val (.ref b), .val (.int (Int32.ofNat o)), .val (.int (Int32.ofNat len)), .unset, .unset, .unset] [.int (Int32.ofNat len)])) rfl (hb hbytes d1) (rest := []) rfl (Nat.le_refl _) (by show 0 + len ≤ len; omega)
  rw [hh0] at ba3 st3
  have kp3 : XT.Kept s T3 := (XT.Kept.of_eq hh0).push bh3
  have hA3 := hA.keep X3.warmed.alike (kp3 _ _ hA.1.1)
  have hne : b ≠ s.heap.size := hA.1.ne
  have c4 : Steps p.tables e below (s₁.setTop (entryFrame m #[.ref b, .int (Int32.ofNat o), .int (Int32.ofNat len)] 6)) (T3.setTop (mkF m 3 #[.val (.ref b), .val (.int (Int32.ofNat o)), .val (.int (Int32.ofNat len)), .unset, .unset, .unset] [.ref s.heap.size])) := c2.trans (st3 _ (Steps.refl _))
  have c5 : Steps p.tables e below (s₁.setTop (entryFrame m #[.ref b, .int (Int32.ofNat o), .int (Int32.ofNat len)] 6)) (T3.setTop (mkF m 9 #[.val (.ref b), .val (.int (Int32.ofNat o)), .val (.int (Int32.ofNat len)), .val (.ref s.heap.size), .unset, .unset] [.int (Int32.ofNat len), .int 0, .ref s.heap.size, .int (Int32.ofNat o), .ref b])) := c4.trans (by
    refine XS.astoreN X3.here hexec rfl (hb hbytes d3) rfl rfl rfl ?_
    refine XS.aloadN X3.here hexec rfl (hb hbytes d4) rfl rfl ?_
    refine XS.iloadN X3.here hexec rfl (hb hbytes d5) rfl ?_
    refine XS.aloadN X3.here hexec rfl (hb hbytes d6) rfl rfl ?_
    refine iconstV X3.here hexec rfl 0 (hb hbytes d7) (by decide) ?_
    refine XS.iloadN X3.here hexec rfl (hb hbytes d8) rfl ?_
    exact Steps.refl _)
  obtain ⟨v6, T6, X6, E6, g6⟩ := X3.callS hexec (Cmp5.law l b A s.heap.size B3 o 0 len) hown (wks W (staticW U16 115 Cmp5.yN)) (wk W Cmp5.tab) (W := 0) (Nat.le_of_ble_eq_true rfl) (Nat.le_of_ble_eq_true rfl) (Nat.le_refl _) (by show 0 + len + 0 ≤ len; omega) (g := (mkF m 9 #[.val (.ref b), .val (.int (Int32.ofNat o)), .val (.int (Int32.ofNat len)), .val (.ref s.heap.size), .unset, .unset] [.int (Int32.ofNat len), .int (Int32.ofNat 0), .ref s.heap.size, .int (Int32.ofNat o), .ref b])) rfl (by rw [hml]; rfl) c5 (argsL := [.ref b, .int (Int32.ofNat o), .ref s.heap.size, .int (Int32.ofNat 0), .int (Int32.ofNat len)]) (rest := []) rfl rfl (by show 2 * 0 + 0 ≤ _; decide) (hb hbytes d9) (⟨rfl, hA3, ba3, hne, l1, by rw [bs3]; simp, hp⟩)
  obtain ⟨rfl, B6, p6, f6⟩ := E6
  have c7 : Steps p.tables e below (s₁.setTop (entryFrame m #[.ref b, .int (Int32.ofNat o), .int (Int32.ofNat len)] 6)) (T6.setTop (mkF m 12 #[.val (.ref b), .val (.int (Int32.ofNat o)), .val (.int (Int32.ofNat len)), .val (.ref s.heap.size), .unset, .unset] [.int (Int32.ofNat len)])) := g6
  have c8 : Steps p.tables e below (s₁.setTop (entryFrame m #[.ref b, .int (Int32.ofNat o), .int (Int32.ofNat len)] 6)) (T6.setTop (mkF m 58 #[.val (.ref b), .val (.int (Int32.ofNat o)), .val (.int (Int32.ofNat len)), .val (.ref s.heap.size), .val (.int (Int32.ofNat len)), .unset] [.ref s.heap.size])) := c7.trans (by
    refine XS.istore X6.here hexec rfl (hb hbytes d12) rfl rfl ?_
    refine XS.iload X6.here hexec rfl (hb hbytes d14) rfl ?_
    refine XS.iloadN X6.here hexec rfl (hb hbytes d16) rfl ?_
    refine XS.icmpYes X6.here hexec rfl (pc0 := 17) rfl (hb hbytes d17) rfl (ii_eq_t rfl) (by decide) rfl ?_
    refine XS.aloadN X6.here hexec rfl (hb hbytes d57) rfl rfl ?_
    exact Steps.refl _)
  have X8 := X6.wide (L' := []) (cells' := 1) (slots' := len) (fun x hx hlt => by
    simp only [List.nil_append, copyLocs, List.mem_map, List.mem_range] at hx
    obtain ⟨i, -, rfl⟩ := hx
    exact absurd hlt (Nat.lt_irrefl _)) (Nat.le_refl _) (by omega)
  exact ⟨T6, some (.ref s.heap.size), _, _, _, X8, rfl, rfl, rfl, (fun h => by cases h), ⟨⟨rfl, B6, ba3.like (X3.warmed.alike.symm.trans X6.warmed.alike) p6.1 f6.1 f6.2.1 f6.2.2.1, f6.2.1.trans bv3, by rw [X6.warmed.alike.findClass, f6.1]; exact bf3, by rw [f6.2.2.1, bs3]; simp, fun j hj => by rw [f6.2.2.2 j, if_pos (by omega)]; rfl, kp3.put p6 (Nat.le_refl _)⟩, by rw [p6.2.2, bh3, hh0]; simp⟩, fun fs hl => c8.trans (X8.areturnOut hexec rfl hret rfl (hb hbytes d58) hl)⟩
end Cmp3
namespace CodL
def yN : MethodName := ⟨"java/lang/StringUTF16", "coderFromArrayLen", "([BI)B"⟩
abbrev yB : ByteArray := jdk_52_method_15_code
theorem d0 : decode yB 0 = .ok (.iload_n 1, 1) := by decide +kernel
theorem d1 : decode yB 1 = .ok (.aload_n 0, 1) := by decide +kernel
theorem d2 : decode yB 2 = .ok (.arraylength, 1) := by decide +kernel
theorem d3 : decode yB 3 = .ok (.isub, 1) := by decide +kernel
theorem d4 : decode yB 4 = .ok (.bipush 31, 2) := by decide +kernel
theorem d6 : decode yB 6 = .ok (.iushr, 1) := by decide +kernel
theorem d7 : decode yB 7 = .ok (.i2b, 1) := by decide +kernel
theorem d8 : decode yB 8 = .ok (.ireturn, 1) := by decide +kernel
def site : List Cond := []
def tab : Cond := tabOf yN yB 2 (some .byte) site
def P (d : Addr) (B : Cell) (args : Array Value) (s : State) : Prop := args = #[.ref d, .int (Int32.ofNat B.slots.size)] ∧ Arr .byte d B s
def E (r : Option Value) (s u : State) : Prop := XT.PureE (some (.int 0)) r s u
/-- an array as long as the number of chars: LATIN1 -/
theorem law (l : Launch) (d : Addr) (B : Cell) : Law l yN 2 2 0 0 yB 2 (some .byte) site (P d B) E [] 0 0 := by
  refine Law.of_walk (plainFor_of_name (by decide +kernel)) (by decide +kernel) (by decide +kernel) (by decide) (fun _ _ h => by rw [h.1]; rfl) (fun _ U U' hal hh h => ⟨h.1, h.2.mv hal hh⟩) (fun r U U' V V' h1 hal h2 h => XT.PureE.mv r U U' V V' h1 hal h2 h) ?_
  intro p e s m args below meth c s₁ X0 hexec hbytes hml hret hlk hnm hown hh0 W hP
  obtain ⟨rfl, hB⟩ := hP
  have hB0 := hB.mv X0.warmed.alike hh0
  have c1 : Steps p.tables e below (s₁.setTop (entryFrame m #[.ref d, .int (Int32.ofNat B.slots.size)] 2)) (s₁.setTop (mkF m 0 #[.val (.ref d), .val (.int (Int32.ofNat B.slots.size))] [])) := entry rfl
  have c2 : Steps p.tables e below (s₁.setTop (entryFrame m #[.ref d, .int (Int32.ofNat B.slots.size)] 2)) (s₁.setTop (mkF m 2 #[.val (.ref d), .val (.int (Int32.ofNat B.slots.size))] [.ref d, .int (Int32.ofNat B.slots.size)])) := c1.trans (by
    refine XS.iloadN X0.here hexec rfl (hb hbytes d0) rfl ?_
    refine XS.aloadN X0.here hexec rfl (hb hbytes d1) rfl rfl ?_
    exact Steps.refl _)
  have c3 : Steps p.tables e below (s₁.setTop (entryFrame m #[.ref d, .int (Int32.ofNat B.slots.size)] 2)) (s₁.setTop (mkF m 8 #[.val (.ref d), .val (.int (Int32.ofNat B.slots.size))] [.int (lo8 (ushr (Int32.ofNat B.slots.size - Int32.ofNat B.slots.size) 31))])) := c2.trans (by
    refine X0.alen hexec hB0 rfl rfl (hb hbytes d2) ?_
    refine XS.isub X0.here hexec rfl (hb hbytes d3) rfl ?_
    refine bipushV X0.here hexec rfl 31 (hb hbytes d4) (by decide) ?_
    refine iushr X0.here hexec rfl (hb hbytes d6) rfl ?_
    refine i2b X0.here hexec rfl (hb hbytes d7) rfl ?_
    exact Steps.refl _)
  have e0 : lo8 (ushr (Int32.ofNat B.slots.size - Int32.ofNat B.slots.size) 31) = 0 := by rw [Int32.sub_self]; decide
  rw [e0] at c3
  exact ⟨s₁, some (.int 0), _, _, _, X0, rfl, rfl, rfl, (fun h => by cases h), ⟨rfl, hh0⟩, fun fs hl => c3.trans (X0.ireturnOut hexec hret rfl (Or.inr (Or.inr (Or.inl rfl))) (hb hbytes d8) hl)⟩
end CodL
/-- the String at a is Latin-1 over a new byte[] (the heap's one new cell): the low bytes of the len chars of A from o on; every cell but a is kept -/
def Got (a : Addr) (D : Cell) (fV fC : Field) (A : Cell) (o len : Nat) (r : Option Value) (s u : State) : Prop := r = none ∧ ∃ D' V : Cell, Blank "java/lang/String" a D' u ∧ Same D D' [fV.slot, fC.slot] ∧ D'.slots[fV.slot]? = some (.ref s.heap.size) ∧ D'.slots[fC.slot]? = some (.int 0) ∧ Arr .byte s.heap.size V u ∧ V.vm = .none ∧ u.vm.findClass "[B" = some V.cls ∧ V.slots.size = len ∧ (∀ j, j < len → V.slots[j]? = some (.int (lo8 (cv A (o + j))))) ∧ (∀ (y : Addr) (c : Cell), y ≠ a → s.heap[y]? = some c → u.heap[y]? = some c) ∧ u.heap.size = s.heap.size + 1
theorem Got.mv {a : Addr} {D A : Cell} {fV fC : Field} {o len : Nat} : ∀ r (U U' V V' : State), U'.heap = U.heap → V.vm.Alike V'.vm → V'.heap = V.heap → Got a D fV fC A o len r U V → Got a D fV fC A o len r U' V' :=
  fun r U U' V V' h1 hal h2 ⟨e0, D', X, a1, a2, a3, a4, a5, a6, a7, a8, a9, a10, a11⟩ => ⟨e0, D', X, a1.mv hal h2, a2, by rw [h1]; exact a3, a4, by rw [h1]; exact a5.mv hal h2, a6, by rw [hal.findClass]; exact a7, a8, a9, by rw [h1, h2]; exact a10, by rw [h1, h2]; exact a11⟩
namespace New4
def yN : MethodName := ⟨"java/lang/String", "<init>", "([CIILjava/lang/Void;)V"⟩
abbrev yB : ByteArray := jdk_42_method_149_code
theorem d0 : decode yB 0 = .ok (.aload_n 0, 1) := by decide +kernel
theorem d1 : decode yB 1 = .ok (.invokespecial 1, 3) := by decide +kernel
theorem d4 : decode yB 4 = .ok (.iload_n 3, 1) := by decide +kernel
theorem d5 : decode yB 5 = .ok (.ifCond (.ne) 22, 3) := by decide +kernel
theorem d27 : decode yB 27 = .ok (.getstatic 38, 3) := by decide +kernel
theorem d30 : decode yB 30 = .ok (.ifCond (.eq) 28, 3) := by decide +kernel
theorem d33 : decode yB 33 = .ok (.aload_n 1, 1) := by decide +kernel
theorem d34 : decode yB 34 = .ok (.iload_n 2, 1) := by decide +kernel
theorem d35 : decode yB 35 = .ok (.iload_n 3, 1) := by decide +kernel
theorem d36 : decode yB 36 = .ok (.invokestatic 177, 3) := by decide +kernel
theorem d39 : decode yB 39 = .ok (.astore 5, 2) := by decide +kernel
theorem d41 : decode yB 41 = .ok (.aload_n 0, 1) := by decide +kernel
theorem d42 : decode yB 42 = .ok (.aload 5, 2) := by decide +kernel
theorem d44 : decode yB 44 = .ok (.iload_n 3, 1) := by decide +kernel
theorem d45 : decode yB 45 = .ok (.invokestatic 47, 3) := by decide +kernel
theorem d48 : decode yB 48 = .ok (.putfield 15, 3) := by decide +kernel
theorem d51 : decode yB 51 = .ok (.aload_n 0, 1) := by decide +kernel
theorem d52 : decode yB 52 = .ok (.aload 5, 2) := by decide +kernel
theorem d54 : decode yB 54 = .ok (.putfield 9, 3) := by decide +kernel
theorem d57 : decode yB 57 = .ok (.return_, 1) := by decide +kernel
def site : List Cond := [.fieldLink "java/lang/String" 38 "java/lang/String" "COMPACT_STRINGS" "Z", Cmp3.tab, CodL.tab, .laysFinal "java/lang/String" "java/lang/String" "value" "[B", .fieldLink "java/lang/String" 9 "java/lang/String" "value" "[B", .laysFinal "java/lang/String" "java/lang/String" "coder" "B", .fieldLink "java/lang/String" 15 "java/lang/String" "coder" "B"] ++ objW "java/lang/String" 1 ++ staticW "java/lang/String" 177 Cmp3.yN ++ staticW "java/lang/String" 47 CodL.yN
def tab : Cond := tabOf yN yB 6 none site
def P (a : Addr) (D : Cell) (fV fC : Field) (b : Addr) (A : Cell) (z : Int32) (o len : Nat) (args : Array Value) (s : State) : Prop := args = #[.ref a, .ref b, .int (Int32.ofNat o), .int (Int32.ofNat len), .null] ∧ Blank "java/lang/String" a D s ∧ Found "java/lang/String" "value" "[B" fV s ∧ Found "java/lang/String" "coder" "B" fC s ∧ Ch b A s ∧ StaticIs s "java/lang/String" "COMPACT_STRINGS" "Z" (.int z) ∧ ¬ z = 0 ∧ 0 < len ∧ o + len ≤ A.slots.size ∧ len ≤ 536870912 ∧ ∀ i, i < len → ¬ 255 < cv A (o + i)
def E (a : Addr) (D : Cell) (fV fC : Field) (A : Cell) (o len : Nat) (r : Option Value) (s u : State) : Prop := Got a D fV fC A o len r s u
/-- len > 0, no char of the range above 255: a Latin-1 String of their low bytes -/
theorem law (l : Launch) (a : Addr) (D : Cell) (fV fC : Field) (b : Addr) (A : Cell) (z : Int32) (o len : Nat) : Law l yN 5 4 2 35 yB 6 none site (P a D fV fC b A z o len) (E a D fV fC A o len) [⟨a, fC.slot⟩, ⟨a, fV.slot⟩] 1 len := by
  refine Law.of_walk (plainFor_of_name (by decide +kernel)) (by decide +kernel) (by decide +kernel) (by decide) (fun _ _ h => by rw [h.1]; rfl) (fun _ U U' hal hh h => ⟨h.1, h.2.1.mv hal hh, h.2.2.1.al hal, h.2.2.2.1.al hal, h.2.2.2.2.1.mv hal hh, h.2.2.2.2.2.1.there hal hh, h.2.2.2.2.2.2⟩) (fun r U U' V V' h1 hal h2 h => Got.mv r U U' V V' h1 hal h2 h) ?_
  intro p e s m args below meth c s₁ X0 hexec hbytes hml hret hlk hnm hown hh0 W hP
  obtain ⟨rfl, hB, f1, f2, hA, s1, hz, l0, l1, l2, hp⟩ := hP
  have a31 := hA.1.2.2.2
  have c1 : Steps p.tables e below (s₁.setTop (entryFrame m #[.ref a, .ref b, .int (Int32.ofNat o), .int (Int32.ofNat len), .null] 6)) (s₁.setTop (mkF m 0 #[.val (.ref a), .val (.ref b), .val (.int (Int32.ofNat o)), .val (.int (Int32.ofNat len)), .val .null, .unset] [])) := entry rfl
  have c2 : Steps p.tables e below (s₁.setTop (entryFrame m #[.ref a, .ref b, .int (Int32.ofNat o), .int (Int32.ofNat len), .null] 6)) (s₁.setTop (mkF m 1 #[.val (.ref a), .val (.ref b), .val (.int (Int32.ofNat o)), .val (.int (Int32.ofNat len)), .val .null, .unset] [.ref a])) := c1.trans (by
    refine XS.aloadN X0.here hexec rfl (hb hbytes d0) rfl rfl ?_
    exact Steps.refl _)
  obtain ⟨T3, X3, q3, st3⟩ := X0.oinit hexec hown (wks W (objW "java/lang/String" 1)) (g := (mkF m 1 #[.val (.ref a), .val (.ref b), .val (.int (Int32.ofNat o)), .val (.int (Int32.ofNat len)), .val .null, .unset] [.ref a])) rfl (by rw [hml]; rfl) (rest := []) rfl (hb hbytes d1) (W := 0) (by show 2 * 0 + 0 ≤ _; decide) (Nat.le_of_ble_eq_true rfl) (Nat.le_of_ble_eq_true rfl)
  have hh3 := q3.trans hh0
  have c4 : Steps p.tables e below (s₁.setTop (entryFrame m #[.ref a, .ref b, .int (Int32.ofNat o), .int (Int32.ofNat len), .null] 6)) (T3.setTop (mkF m 27 #[.val (.ref a), .val (.ref b), .val (.int (Int32.ofNat o)), .val (.int (Int32.ofNat len)), .val .null, .unset] [])) := (c2.trans (st3 _ (Steps.refl _))).trans (by
    refine XS.iloadN X3.here hexec rfl (hb hbytes d4) rfl ?_
    refine XS.ifYes X3.here hexec rfl (pc0 := 5) rfl (hb hbytes d5) rfl (i0_ne_t (nz32 (by omega) l0)) (by decide) rfl ?_
    exact Steps.refl _)
  obtain ⟨T5, X5, q5, st5⟩ := X3.sget hexec hown (wk W (.fieldLink "java/lang/String" 38 "java/lang/String" "COMPACT_STRINGS" "Z")) s1 (fun _ _ h => by rw [hh3]; exact h) (g := (mkF m 27 #[.val (.ref a), .val (.ref b), .val (.int (Int32.ofNat o)), .val (.int (Int32.ofNat len)), .val .null, .unset] [])) rfl (hb hbytes d27)
  have hh5 := q5.trans hh3
  have c6 : Steps p.tables e below (s₁.setTop (entryFrame m #[.ref a, .ref b, .int (Int32.ofNat o), .int (Int32.ofNat len), .null] 6)) (T5.setTop (mkF m 30 #[.val (.ref a), .val (.ref b), .val (.int (Int32.ofNat o)), .val (.int (Int32.ofNat len)), .val .null, .unset] [.int z])) := c4.trans (st5 _ (Steps.refl _))
  have c7 : Steps p.tables e below (s₁.setTop (entryFrame m #[.ref a, .ref b, .int (Int32.ofNat o), .int (Int32.ofNat len), .null] 6)) (T5.setTop (mkF m 36 #[.val (.ref a), .val (.ref b), .val (.int (Int32.ofNat o)), .val (.int (Int32.ofNat len)), .val .null, .unset] [.int (Int32.ofNat len), .int (Int32.ofNat o), .ref b])) := c6.trans (by
    refine XS.ifNo X5.here hexec rfl (hb hbytes d30) rfl (i0_eq_f hz) ?_
    refine XS.aloadN X5.here hexec rfl (hb hbytes d33) rfl rfl ?_
    refine XS.iloadN X5.here hexec rfl (hb hbytes d34) rfl ?_
    refine XS.iloadN X5.here hexec rfl (hb hbytes d35) rfl ?_
    exact Steps.refl _)
  obtain ⟨v8, T8, X8, E8, g8⟩ := X5.callS hexec (Cmp3.law l b A o len) hown (wks W (staticW "java/lang/String" 177 Cmp3.yN)) (wk W Cmp3.tab) (W := 0) (Nat.le_of_ble_eq_true rfl) (Nat.le_of_ble_eq_true rfl) (Nat.le_refl _) (by show 0 + len ≤ len; omega) (g := (mkF m 36 #[.val (.ref a), .val (.ref b), .val (.int (Int32.ofNat o)), .val (.int (Int32.ofNat len)), .val .null, .unset] [.int (Int32.ofNat len), .int (Int32.ofNat o), .ref b])) rfl (by rw [hml]; rfl) c7 (argsL := [.ref b, .int (Int32.ofNat o), .int (Int32.ofNat len)]) (rest := []) rfl rfl (by show 2 * 0 + 0 ≤ _; decide) (hb hbytes d36) (⟨rfl, hA.mv X5.warmed.alike hh5, l1, l2, hp⟩)
  obtain ⟨e8, z8⟩ := E8
  obtain ⟨rfl, N, n1, n2, n3, n4, n5, n6⟩ := NewArr.mv _ T5 s _ _ hh5.symm (Vm.Alike.refl _) rfl e8
  rw [hh5] at z8
  have hB1 := hB.keep X8.warmed.alike (n6 _ _ hB.1)
  have hne : s.heap.size ≠ a := (Nat.ne_of_lt (Array.getElem?_eq_some_iff.mp hB.1).1).symm
  have c9 : Steps p.tables e below (s₁.setTop (entryFrame m #[.ref a, .ref b, .int (Int32.ofNat o), .int (Int32.ofNat len), .null] 6)) (T8.setTop (mkF m 39 #[.val (.ref a), .val (.ref b), .val (.int (Int32.ofNat o)), .val (.int (Int32.ofNat len)), .val .null, .unset] [.ref s.heap.size])) := g8
  have c10 : Steps p.tables e below (s₁.setTop (entryFrame m #[.ref a, .ref b, .int (Int32.ofNat o), .int (Int32.ofNat len), .null] 6)) (T8.setTop (mkF m 45 #[.val (.ref a), .val (.ref b), .val (.int (Int32.ofNat o)), .val (.int (Int32.ofNat len)), .val .null, .val (.ref s.heap.size)] [.int (Int32.ofNat N.slots.size), .ref s.heap.size, .ref a])) := by
    have hc : Steps p.tables e below (s₁.setTop (entryFrame m #[.ref a, .ref b, .int (Int32.ofNat o), .int (Int32.ofNat len), .null] 6)) (T8.setTop (mkF m 45 #[.val (.ref a), .val (.ref b), .val (.int (Int32.ofNat o)), .val (.int (Int32.ofNat len)), .val .null, .val (.ref s.heap.size)] [.int (Int32.ofNat len), .ref s.heap.size, .ref a])) := c9.trans (by
      refine XS.astore X8.here hexec rfl (hb hbytes d39) rfl rfl rfl ?_
      refine XS.aloadN X8.here hexec rfl (hb hbytes d41) rfl rfl ?_
      refine XS.aload X8.here hexec rfl (hb hbytes d42) rfl rfl ?_
      refine XS.iloadN X8.here hexec rfl (hb hbytes d44) rfl ?_
      exact Steps.refl _)
    rw [n4]; exact hc
  obtain ⟨v11, T11, X11, E11, g11⟩ := X8.callS hexec (CodL.law l s.heap.size N) hown (wks W (staticW "java/lang/String" 47 CodL.yN)) (wk W CodL.tab) (W := 1) (Nat.le_of_ble_eq_true rfl) (Nat.le_of_ble_eq_true rfl) (Nat.le_refl _) (by show 0 + len + 0 ≤ len; omega) (g := (mkF m 45 #[.val (.ref a), .val (.ref b), .val (.int (Int32.ofNat o)), .val (.int (Int32.ofNat len)), .val .null, .val (.ref s.heap.size)] [.int (Int32.ofNat N.slots.size), .ref s.heap.size, .ref a])) rfl (by rw [hml]; rfl) c10 (argsL := [.ref s.heap.size, .int (Int32.ofNat N.slots.size)]) (rest := [.ref a]) rfl rfl (by show 2 * 0 + (1 + 0) ≤ _; decide) (hb hbytes d45) (⟨rfl, n1⟩)
  obtain ⟨rfl, q11⟩ := E11
  have hB11 := hB1.mv (X8.warmed.alike.symm.trans X11.warmed.alike) q11
  have c12 : Steps p.tables e below (s₁.setTop (entryFrame m #[.ref a, .ref b, .int (Int32.ofNat o), .int (Int32.ofNat len), .null] 6)) (T11.setTop (mkF m 48 #[.val (.ref a), .val (.ref b), .val (.int (Int32.ofNat o)), .val (.int (Int32.ofNat len)), .val .null, .val (.ref s.heap.size)] [.int 0, .ref a])) := g11
  obtain ⟨T13, X13, p13, bl13, sl13, st13⟩ := X11.finit hexec hown (wk W (.fieldLink "java/lang/String" 15 "java/lang/String" "coder" "B")) (Or.inr ⟨_, (wk W (.laysFinal "java/lang/String" "java/lang/String" "coder" "B"))⟩) (Or.inl ⟨rfl, hnm⟩) f2 (Or.inl rfl) hB11 (t := .byte) (by decide +kernel) rfl (g := (mkF m 48 #[.val (.ref a), .val (.ref b), .val (.int (Int32.ofNat o)), .val (.int (Int32.ofNat len)), .val .null, .val (.ref s.heap.size)] [.int 0, .ref a])) rfl (rest := []) rfl (hb hbytes d48)
  have c14 : Steps p.tables e below (s₁.setTop (entryFrame m #[.ref a, .ref b, .int (Int32.ofNat o), .int (Int32.ofNat len), .null] 6)) (T13.setTop (mkF m 54 #[.val (.ref a), .val (.ref b), .val (.int (Int32.ofNat o)), .val (.int (Int32.ofNat len)), .val .null, .val (.ref s.heap.size)] [.ref s.heap.size, .ref a])) := (c12.trans (st13 _ (Steps.refl _))).trans (by
    refine XS.aloadN X13.here hexec rfl (hb hbytes d51) rfl rfl ?_
    refine XS.aload X13.here hexec rfl (hb hbytes d52) rfl rfl ?_
    exact Steps.refl _)
  obtain ⟨T15, X15, p15, bl15, sl15, st15⟩ := X13.finit hexec hown (wk W (.fieldLink "java/lang/String" 9 "java/lang/String" "value" "[B")) (Or.inr ⟨_, (wk W (.laysFinal "java/lang/String" "java/lang/String" "value" "[B"))⟩) (Or.inl ⟨rfl, hnm⟩) f1 (Or.inl rfl) bl13 (t := (.array .byte)) (by decide +kernel) rfl (g := (mkF m 54 #[.val (.ref a), .val (.ref b), .val (.int (Int32.ofNat o)), .val (.int (Int32.ofNat len)), .val .null, .val (.ref s.heap.size)] [.ref s.heap.size, .ref a])) rfl (rest := []) rfl (hb hbytes d54)
  have c16 : Steps p.tables e below (s₁.setTop (entryFrame m #[.ref a, .ref b, .int (Int32.ofNat o), .int (Int32.ofNat len), .null] 6)) (T15.setTop (mkF m 57 #[.val (.ref a), .val (.ref b), .val (.int (Int32.ofNat o)), .val (.int (Int32.ofNat len)), .val .null, .val (.ref s.heap.size)] [])) := c14.trans (st15 _ (Steps.refl _))
  have ap := apart (Or.inr ⟨_, (wk W (.laysFinal "java/lang/String" "java/lang/String" "value" "[B"))⟩) (Or.inr ⟨_, (wk W (.laysFinal "java/lang/String" "java/lang/String" "coder" "B"))⟩) f1 f2 (t₁ := .array .byte) (t₂ := .byte) (by decide +kernel) (by decide +kernel) (by decide)
  have al := X8.warmed.alike.symm.trans X15.warmed.alike
  have n7 : T11.heap[s.heap.size]? = some N := by rw [q11]; exact n1.1
  exact ⟨T15, none, _, _, _, X15, by simp, rfl, by omega, (fun _ => rfl), ⟨rfl, _, N, bl15, ((Same.refl D _).set _ (by simp)).set _ (by simp), sl15, (Cell.slots_setSlot_ne _ ap).trans sl13, n1.keep al (p15.other hne (p13.other hne n7)), n2, by rw [al.findClass]; exact n3, n4, n5, fun y c h1 h2 => p15.other h1 (p13.other h1 (by rw [q11]; exact n6 y c h2)), by rw [p15.2.2, p13.2.2, q11]; exact z8⟩, fun fs hl => c16.trans (X15.returnOut hexec hret (hb hbytes d57) hl)⟩
end New4
namespace New1
def yN : MethodName := ⟨"java/lang/String", "<init>", "([C)V"⟩
abbrev yB : ByteArray := jdk_42_method_3_code
theorem d0 : decode yB 0 = .ok (.aload_n 0, 1) := by decide +kernel
theorem d1 : decode yB 1 = .ok (.aload_n 1, 1) := by decide +kernel
theorem d2 : decode yB 2 = .ok (.iconst 0, 1) := by decide +kernel
theorem d3 : decode yB 3 = .ok (.aload_n 1, 1) := by decide +kernel
theorem d4 : decode yB 4 = .ok (.arraylength, 1) := by decide +kernel
theorem d5 : decode yB 5 = .ok (.aconst_null, 1) := by decide +kernel
theorem d6 : decode yB 6 = .ok (.invokespecial 27, 3) := by decide +kernel
theorem d9 : decode yB 9 = .ok (.return_, 1) := by decide +kernel
def site : List Cond := [New4.tab] ++ initW "java/lang/String" 27 New4.yN
def tab : Cond := tabOf yN yB 2 none site
def P (a : Addr) (D : Cell) (fV fC : Field) (b : Addr) (A : Cell) (z : Int32) (args : Array Value) (s : State) : Prop := args = #[.ref a, .ref b] ∧ Blank "java/lang/String" a D s ∧ Found "java/lang/String" "value" "[B" fV s ∧ Found "java/lang/String" "coder" "B" fC s ∧ Ch b A s ∧ StaticIs s "java/lang/String" "COMPACT_STRINGS" "Z" (.int z) ∧ ¬ z = 0 ∧ 0 < A.slots.size ∧ A.slots.size ≤ 536870912 ∧ ∀ i, i < A.slots.size → ¬ 255 < cv A i
def E (a : Addr) (D : Cell) (fV fC : Field) (A : Cell) (r : Option Value) (s u : State) : Prop := Got a D fV fC A 0 A.slots.size r s u
/-- new String(chars), not empty, no char above 255: a Latin-1 String of their low bytes -/
theorem law (l : Launch) (a : Addr) (D : Cell) (fV fC : Field) (b : Addr) (A : Cell) (z : Int32) : Law l yN 2 1 3 52 yB 2 none site (P a D fV fC b A z) (E a D fV fC A) [⟨a, fC.slot⟩, ⟨a, fV.slot⟩] 1 A.slots.size := by
  refine Law.of_walk (plainFor_of_name (by decide +kernel)) (by decide +kernel) (by decide +kernel) (by decide) (fun _ _ h => by rw [h.1]; rfl) (fun _ U U' hal hh h => ⟨h.1, h.2.1.mv hal hh, h.2.2.1.al hal, h.2.2.2.1.al hal, h.2.2.2.2.1.mv hal hh, h.2.2.2.2.2.1.there hal hh, h.2.2.2.2.2.2⟩) (fun r U U' V V' h1 hal h2 h => Got.mv r U U' V V' h1 hal h2 h) ?_
  intro p e s m args below meth c s₁ X0 hexec hbytes hml hret hlk hnm hown hh0 W hP
  obtain ⟨rfl, hB, f1, f2, hA, s1, hz, l0, l2, hp⟩ := hP
  have c1 : Steps p.tables e below (s₁.setTop (entryFrame m #[.ref a, .ref b] 2)) (s₁.setTop (mkF m 0 #[.val (.ref a), .val (.ref b)] [])) := entry rfl
  have c2 : Steps p.tables e below (s₁.setTop (entryFrame m #[.ref a, .ref b] 2)) (s₁.setTop (mkF m 6 #[.val (.ref a), .val (.ref b)] [.null, .int (Int32.ofNat A.slots.size), .int 0, .ref b, .ref a])) := c1.trans (by
    refine XS.aloadN X0.here hexec rfl (hb hbytes d0) rfl rfl ?_
    refine XS.aloadN X0.here hexec rfl (hb hbytes d1) rfl rfl ?_
    refine iconstV X0.here hexec rfl 0 (hb hbytes d2) (by decide) ?_
    refine XS.aloadN X0.here hexec rfl (hb hbytes d3) rfl rfl ?_
    refine X0.alen hexec (hA.1.mv X0.warmed.alike hh0) rfl rfl (hb hbytes d4) ?_
    refine XS.aconstNull X0.here hexec rfl (hb hbytes d5) ?_
    exact Steps.refl _)
  obtain ⟨v3, T3, X3, E3, g3⟩ := X0.callN hexec (New4.law l a D fV fC b A z 0 A.slots.size) rfl hown (wks W (initW "java/lang/String" 27 New4.yN)) (W New4.tab (by simp only [site, List.mem_cons, List.mem_append, true_or, or_true])) (W := 0) (Nat.le_of_ble_eq_true rfl) (Nat.le_of_ble_eq_true rfl) (Nat.le_refl _) (by show 0 + A.slots.size ≤ A.slots.size; omega) (g := (mkF m 6 #[.val (.ref a), .val (.ref b)] [.null, .int (Int32.ofNat A.slots.size), .int (Int32.ofNat 0), .ref b, .ref a])) rfl (by rw [hml]; rfl) c2 (argsL := [.ref b, .int (Int32.ofNat 0), .int (Int32.ofNat A.slots.size), .null]) (rest := []) rfl rfl (by show 2 * 0 + 0 ≤ _; decide) (hb hbytes d6) (⟨rfl, hB.mv X0.warmed.alike hh0, f1.al X0.warmed.alike, f2.al X0.warmed.alike, hA.mv X0.warmed.alike hh0, s1.there X0.warmed.alike hh0, hz, l0, by omega, l2, fun i hi => by rw [Nat.zero_add]; exact hp i hi⟩)
  have e0 := Got.mv _ s₁ s _ _ hh0.symm (Vm.Alike.refl _) rfl E3
  obtain rfl := e0.1
  have c4 : Steps p.tables e below (s₁.setTop (entryFrame m #[.ref a, .ref b] 2)) (T3.setTop (mkF m 9 #[.val (.ref a), .val (.ref b)] [])) := g3
  exact ⟨T3, none, _, _, _, X3, by simp, rfl, by omega, (fun _ => rfl), e0, fun fs hl => c4.trans (X3.returnOut hexec hret (hb hbytes d9) hl)⟩
theorem pays {l : Launch} {R : Room} {p : Program} {e : Env} {below : List Frame} {s : State} {sargs : Array Value} {len W : Nat} (a : Addr) (D : Cell) (fV fC : Field) (b : Addr) (A : Cell) (z : Int32) (htab : tab.before sargs s = true) (hfr : 4 ≤ R.frames) (hlo : W + 65 ≤ R.locals) :
    Back l R p e below s sargs yN len W (fun A₁ a₁ => A₁.cells + 1 ≤ R.cells ∧ A₁.slots + A.slots.size ≤ R.slots ∧ P a D fV fC b A z a₁ A₁.U) (fun A₁ _ v₁ B₁ => E a D fV fC A v₁ A₁.U B₁.U ∧ B₁.locs = A₁.locs ++ [⟨a, fC.slot⟩, ⟨a, fV.slot⟩] ∧ B₁.cells = A₁.cells + 1 ∧ B₁.slots = A₁.slots + A.slots.size) :=
  (law l a D fV fC b A z).pays htab hfr (by omega)
end New1
/-- the byte, read back as charAt reads it, is the char -/
theorem lo8_mask {x : Int32} (h0 : ¬ x < 0) (h1 : ¬ 255 < x) : lo8 x &&& 255 = x := by
  have t : ∀ k : Fin 256, lo8 (Int32.ofNat k.val) &&& 255 = Int32.ofNat k.val := by decide +kernel
  rw [Int32.lt_iff_toInt_lt] at h0 h1
  have e0 : (0 : Int32).toInt = 0 := rfl
  have e1 : (255 : Int32).toInt = 255 := rfl
  obtain ⟨k, hk⟩ : ∃ k : Nat, x.toInt = k := ⟨x.toInt.toNat, by omega⟩
  have hx : x = Int32.ofNat k := Int32.toInt_inj.mp (by rw [hk, Int32.toInt_ofNat_small (by omega)])
  rw [hx]
  exact t ⟨k, by omega⟩
end StrChars
namespace StrChars.Road
open Jvm Sem ClassFile Op Lib Jvm.Stand Jvm.Free Jvm.Free.XT
open Jvm.Lib.Cold (StaticIs)
abbrev ST : String := "java/lang/String"
/-- every table word that New1's law asks, flat -/
abbrev words : List Jvm.Cond := [.code New1.yN New1.yB 2 none, .initialized ST, .methodLink ST 27 New4.yN, .instanceMethod New4.yN,
  .code New4.yN New4.yB 6 none, .fieldLink ST 38 ST "COMPACT_STRINGS" "Z", .laysFinal ST ST "value" "[B", .fieldLink ST 9 ST "value" "[B", .laysFinal ST ST "coder" "B", .fieldLink ST 15 ST "coder" "B",
  .methodLink ST 1 Lib.objectInit, .instanceMethod Lib.objectInit, .code Lib.objectInit ⟨#[0xb1]⟩ 1 none, .methodLink ST 177 Cmp3.yN, .static Cmp3.yN, .methodLink ST 47 CodL.yN, .static CodL.yN,
  .code Cmp3.yN Cmp3.yB 6 (some (.array .byte)), .initialized U16, .arrayClass .byte, .methodLink U16 115 Cmp5.yN, .static Cmp5.yN, .code Cmp5.yN Cmp5.yB 7 (some .int), .code CodL.yN CodL.yB 2 (some .byte)]
theorem tab_of {a : Array Value} {s : State} (h : ∀ w ∈ words, w.before a s = true) : New1.tab.before a s = true := by
  have h5 : Cmp5.tab.before a s = true := unparts (wk h (.code Cmp5.yN Cmp5.yB 7 (some .int))) (wks h (.initialized Cmp5.yN.cls :: Cmp5.site))
  have hc : CodL.tab.before a s = true := unparts (wk h (.code CodL.yN CodL.yB 2 (some .byte))) (wks h (.initialized CodL.yN.cls :: CodL.site))
  have q5 : ∀ w ∈ Cmp5.tab :: words, w.before a s = true := fun w hw => (List.mem_cons.mp hw).elim (fun e => e ▸ h5) (h w)
  have h3 : Cmp3.tab.before a s = true := unparts (wk q5 (.code Cmp3.yN Cmp3.yB 6 (some (.array .byte)))) (wks q5 (.initialized Cmp3.yN.cls :: Cmp3.site))
  have q3 : ∀ w ∈ Cmp3.tab :: CodL.tab :: words, w.before a s = true := fun w hw => (List.mem_cons.mp hw).elim (fun e => e ▸ h3) fun hw => (List.mem_cons.mp hw).elim (fun e => e ▸ hc) (h w)
  have h4 : New4.tab.before a s = true := unparts (wk q3 (.code New4.yN New4.yB 6 none)) (wks q3 (.initialized New4.yN.cls :: New4.site))
  have q4 : ∀ w ∈ New4.tab :: words, w.before a s = true := fun w hw => (List.mem_cons.mp hw).elim (fun e => e ▸ h4) (h w)
  exact unparts (wk q4 (.code New1.yN New1.yB 2 none)) (wks q4 (.initialized New1.yN.cls :: New1.site))
/-- the words ride from the start Z to the walk's own state -/
theorem moved {Z s : State} {a0 args : Array Value} (hZ : Z.Warmed39 s.vm) (hw : ∀ d ∈ words, d.before a0 Z = true) : ∀ d ∈ words, d.before args s = true := fun d hd => by
  have q := hw d hd
  have t : ∀ d ∈ words, d = .arrayClass .byte ∨ (d.onTables && d.keepsFace) = true := by decide +kernel
  rcases t d hd with rfl | t
  · exact RoadKit.mvA hZ q
  · exact RoadKit.mv hZ q t
/-- WHAT COMES BACK, over the tables of the start Z: h the heap at the call, h' behind it -/
def Q (Z : State) (x : Addr) (A : Cell) (h : Heap) (v : Option Value) (h' : Heap) (L : List Loc) : Prop := v = none ∧ (∀ y ∈ L, y.base = x) ∧ RoadKit.Keep h h' [x] ∧ h'.size = h.size + 1 ∧ RoadKit.Exa Z h' x ST ∧ RoadKit.Fld Z h' x ST "value" "[B" (.ref h.size) ∧ RoadKit.Fld Z h' x ST "coder" "B" (.int 0) ∧
  (∃ V : Cell, RoadKit.Arr Z h' h.size V .byte ∧ V.vm = .none ∧ Z.vm.findClass "[B" = some V.cls ∧ V.slots.size = A.slots.size ∧ ∀ j, j < A.slots.size → V.slots[j]? = some (.int (lo8 (cv A j)))) ∧
  ∀ (O n d : String) (w : Value), RoadKit.Fld Z h x O n d w → RoadKit.slotOf Z O n d ≠ RoadKit.slotOf Z ST "value" "[B" → RoadKit.slotOf Z O n d ≠ RoadKit.slotOf Z ST "coder" "B" → RoadKit.Fld Z h' x O n d w
/-- **new String(chars) AT A CALL, IN THE ROAD'S FORM**: for specialBack behind newO: x the fresh String, b the char[] with the cell A -/
theorem back {p : Program} {l : Launch} {e : Env} {R : Room} {s : State} {args : Array Value} {below : List Frame} {len W : Nat} {Z : State} {a0 : Array Value} {h : Heap} (hZ : Z.Warmed39 s.vm) (hw : ∀ d ∈ words, d.before a0 Z = true) {kI : Nat} (wi : (Jvm.Cond.instantiable ST kI).before a0 Z = true)
    {x b : Addr} {A : Cell} {z : Int32} {v0 c0 : Value} (E : RoadKit.Exa Z h x ST) (V : RoadKit.Fld Z h x ST "value" "[B" v0) (C : RoadKit.Fld Z h x ST "coder" "B" c0) (K : RoadKit.Arr Z h b A .char) (hty : Typed .char A) (S : RoadKit.Sta Z h ST "COMPACT_STRINGS" "Z" (.int z)) (hz : ¬ z = 0)
    (l0 : 0 < A.slots.size) (l2 : A.slots.size ≤ 536870912) (hp : ∀ i, i < A.slots.size → ¬ 255 < cv A i) (hfr : 4 ≤ R.frames) (hlo : W + 65 ≤ R.locals) :
    Back l R p e below s args New1.yN len W (fun P a => a = #[.ref x, .ref b] ∧ P.U.heap = h ∧ P.cells + 1 ≤ R.cells ∧ P.slots + A.slots.size ≤ R.slots)
      (fun P _ v B => ∃ L, Q Z x A h v B.U.heap L ∧ B.locs = P.locs ++ L ∧ B.cells = P.cells + 1 ∧ B.slots = P.slots + A.slots.size) := by
  intro m meth c P g ig mk a X hg hsize hdg hW hn hp'
  obtain ⟨rfl, rfl, r1, r2⟩ := hp'
  have al : Z.vm.Alike P.U.vm := hZ.alike.trans X.warmed.alike
  obtain ⟨D, cfV, kV, iV, fV, hD, gV, stV, knV, obV, asV, slV⟩ := id V
  obtain ⟨D', cfC, kC, iC, fC, hD', gC, stC, -, -, asC, slC⟩ := id C
  cases hD.symm.trans hD'
  obtain ⟨D2, kD, e1, e2, e3, e4, e5⟩ := id E
  cases hD.symm.trans e1
  obtain ⟨c2, k2, i1, i2, i3, -⟩ := Cond.instantiable_spec wi
  cases e2.symm.trans i1
  cases e3.symm.trans i2
  obtain ⟨kU, u1, u2⟩ := al.2.2 _ _ e3
  have hB : Blank ST x D P.U := ⟨hD, ⟨knV, fun q hq => by rw [hq] at obV; cases obV⟩, by rw [al.findClass]; exact e2, kU, u1, by rw [u2]; exact i3, by rw [u2]; exact e5 i3⟩
  have F1 : Found ST "value" "[B" fV P.U := ⟨SBG.found_only al ⟨cfV, kV, iV, gV⟩, stV⟩
  have F2 : Found ST "coder" "B" fC P.U := ⟨SBG.found_only al ⟨cfC, kC, iC, gC⟩, stC⟩
  have hA : Ch b A P.U := ⟨⟨K.1, State.isArrayOf_alike al K.2.1, K.2.2, by omega⟩, hty⟩
  have hS : StaticIs P.U ST "COMPACT_STRINGS" "Z" (.int z) := by
    obtain ⟨cfS, iS, kS, fS, st, cS, t1, t2, t3, t4, t5, t6, t7⟩ := S
    exact StaticIs.there (s := { Z with heap := P.U.heap }) ⟨cfS, iS, kS, fS, st, cS, t1, t2, t3, t4, t5, (fun q => by rw [q] at t6; cases t6), t7⟩ al rfl
  obtain ⟨v, B, X', ⟨⟨hv, E', V', q1, q2, q3, q4, q5, q6, q7, q8, q9, q10, q11⟩, hl, hc, hs⟩, st⟩ := New1.pays x D fV fC b A z (tab_of (moved hZ hw)) hfr hlo m meth c P g ig mk _ X hg hsize hdg hW hn ⟨r1, r2, rfl, hB, F1, F2, hA, hS, hz, l0, l2, hp⟩
  have al' : Z.vm.Alike B.U.vm := hZ.alike.trans X'.warmed.alike
  have hsz : E'.slots.size = D.slots.size := by
    obtain ⟨-, -, -, kB, w1, w2, w3⟩ := q1
    obtain ⟨kB', y1, y2⟩ := al'.2.2 _ _ e3
    rw [q2.2.1] at w1
    cases w1.symm.trans y1
    rw [w3, e5 i3, y2]
  refine ⟨v, B, X', ⟨_, ⟨hv, ?_, ⟨by omega, fun y cy hy hn' => q10 y cy (by simpa using hn') hy, fun y cy hy => ?_⟩, q11, ⟨E', _, q1.1, by rw [q2.2.1]; exact e2, by rw [q2.2.1]; exact e3, by rw [q2.1]; exact obV, fun _ => by rw [hsz]; exact e5 i3⟩,
    ⟨E', cfV, kV, iV, fV, q1.1, gV, stV, by rw [q2.1]; exact knV, by rw [q2.1]; exact obV, by rw [q2.2.1]; exact asV, q3⟩, ⟨E', cfC, kC, iC, fC, q1.1, gC, stC, by rw [q2.1]; exact knV, by rw [q2.1]; exact obV, by rw [q2.2.1]; exact asC, q4⟩,
    ⟨V', ⟨q5.1, State.isArrayOf_alike al'.symm q5.2.1, q5.2.2.1⟩, q6, by rw [← al'.findClass]; exact q7, q8, fun j hj => by have := q9 j hj; rwa [Nat.zero_add] at this⟩, fun O n d w F n1 n2 => ?_⟩, hl, hc, hs⟩, st⟩
  · intro y hy
    simp only [List.mem_cons, List.not_mem_nil, or_false] at hy
    rcases hy with rfl | rfl <;> rfl
  · by_cases q : y = x
    · subst q
      cases hD.symm.trans hy
      exact ⟨E', q1.1, q2.2.1, q2.1, hsz⟩
    · exact ⟨cy, q10 y cy q hy, rfl, rfl, rfl⟩
  · obtain ⟨D3, cf, k, i, f, g1, g2, g3, g4, g5, g6, g7⟩ := F
    cases hD.symm.trans g1
    simp only [RoadKit.slotOf, g2, gV, gC, Option.map_some, Option.getD_some] at n1 n2
    exact ⟨E', cf, k, i, f, q1.1, g2, g3, by rw [q2.1]; exact g4, by rw [q2.1]; exact g5, by rw [q2.2.1]; exact g6, by rw [q2.2.2 f.slot (by simp [n1, n2])]; exact g7⟩
end StrChars.Road
namespace StrChars.Road
open Jvm Sem ClassFile Op Lib Jvm.Stand Jvm.Free Jvm.Free.XT
/-- WHAT COMES BACK, the byte[] as a list of values -/
def QA (Z : State) (x : Addr) (zn : Int32) (cs : List Int32) (h : Heap) (v : Option Value) (h' : Heap) (L : List Loc) : Prop := v = none ∧ (∀ y ∈ L, y.base = x) ∧ RoadKit.Keep h h' [x] ∧ h'.size = h.size + 1 ∧ RoadKit.Exa Z h' x ST ∧ RoadKit.Fld Z h' x ST "value" "[B" (.ref h.size) ∧ RoadKit.Fld Z h' x ST "coder" "B" (.int 0) ∧
  (∃ kb, Z.vm.findClass "[B" = some kb ∧ RoadKit.Arv Z h' h.size kb .byte zn (cs.map fun c => .int (lo8 c)) (.int 0)) ∧
  ∀ (O n d : String) (w : Value), RoadKit.Fld Z h x O n d w → RoadKit.slotOf Z O n d ≠ RoadKit.slotOf Z ST "value" "[B" → RoadKit.slotOf Z O n d ≠ RoadKit.slotOf Z ST "coder" "B" → RoadKit.Fld Z h' x O n d w
/-- **new String(chars) AT A CALL, THE ARRAYS AS LISTS**: the char[] at b holds cs, not empty, no char above 255 -/
theorem backArv {p : Program} {l : Launch} {e : Env} {R : Room} {s : State} {args : Array Value} {below : List Frame} {len W : Nat} {Z : State} {a0 : Array Value} {h : Heap} (hZ : Z.Warmed39 s.vm) (hw : ∀ d ∈ words, d.before a0 Z = true) {kI : Nat} (wi : (Jvm.Cond.instantiable ST kI).before a0 Z = true)
    {x b : Addr} {k : ClassId} {zn z : Int32} {cs : List Int32} {dv v0 c0 : Value} (E : RoadKit.Exa Z h x ST) (V : RoadKit.Fld Z h x ST "value" "[B" v0) (C : RoadKit.Fld Z h x ST "coder" "B" c0) (K : RoadKit.Arv Z h b k .char zn (cs.map Value.int) dv) (S : RoadKit.Sta Z h ST "COMPACT_STRINGS" "Z" (.int z)) (hz : ¬ z = 0)
    (hlen : zn.toNatClampNeg = cs.length) (h0 : 0 < cs.length) (hbig : cs.length ≤ 536870912) (hall : ∀ c ∈ cs, ¬ 255 < c) (hfr : 4 ≤ R.frames) (hlo : W + 65 ≤ R.locals) :
    Back l R p e below s args New1.yN len W (fun P a => a = #[.ref x, .ref b] ∧ P.U.heap = h ∧ P.cells + 1 ≤ R.cells ∧ P.slots + cs.length ≤ R.slots)
      (fun P _ v B => ∃ L, QA Z x zn cs h v B.U.heap L ∧ B.locs = P.locs ++ L ∧ B.cells = P.cells + 1 ∧ B.slots = P.slots + cs.length) := by
  obtain ⟨A, K1, K2, K3, K4, K5, K6⟩ := K
  have e : A.slots.size = cs.length := K3.trans hlen
  have hat : ∀ (i : Nat) (hi : i < cs.length), A.slots[i]? = some (.int cs[i]) := fun i hi => by rw [K5 i (by omega)]; simp [List.getD_eq_getElem?_getD, hi]
  have hcv : ∀ (i : Nat) (hi : i < cs.length), cv A i = cs[i] := fun i hi => by unfold cv; rw [hat i hi]
  have hty : Typed .char A := fun i v hv => by
    have hi : i < A.slots.size := (Array.getElem?_eq_some_iff.mp hv).1
    have q := K5 i hi
    rw [hv] at q
    rw [Option.some.inj q]
    exact K6 i hi
  refine Back.mono (back hZ hw wi E V C K1 hty S hz (by omega) (by omega) (fun i hi => by rw [hcv i (by omega)]; exact hall _ (List.getElem_mem _)) hfr hlo) (fun P a hp => ⟨hp.1, hp.2.1, hp.2.2.1, by rw [e]; exact hp.2.2.2⟩) (fun P a v B hp hq => ?_)
  obtain ⟨L, ⟨q1, q2, q3, q4, q5, q6, q7, ⟨V', v1, v2, v3, v4, v5⟩, q9⟩, hl, hc, hs⟩ := hq
  refine ⟨L, ⟨q1, q2, q3, q4, q5, q6, q7, ⟨V'.cls, v3, V', v1, rfl, by rw [v4, e, hlen], K4, fun i hi => ?_, fun i hi => ?_⟩, q9⟩, hl, hc, by rw [hs, e]⟩
  · have hi' : i < cs.length := by omega
    rw [v5 i (by omega), hcv i hi']; simp [List.getD_eq_getElem?_getD, hi']
  · have hi' : i < cs.length := by omega
    simp only [List.getD_eq_getElem?_getD, List.getElem?_map, List.getElem?_eq_getElem hi', Option.map_some, Option.getD_some]
    exact fits_lo8 _
end StrChars.Road
namespace StrChars.Road
open Jvm Sem ClassFile Op Lib Jvm.Stand Jvm.Free Jvm.Free.XT
/-- WHAT COMES BACK, in the writer's own shape -/
def QV (Z : State) (x : Addr) (N : Int32) (bs : List Int32) (h : Heap) (n0 : Nat) (v : Option Value) (h' : Heap) (L : List Loc) : Prop := v = none ∧ RoadKit.Fr n0 L ∧ RoadKit.Keep h h' [x] ∧ RoadKit.Exa Z h' x ST ∧ RoadKit.Fld Z h' x ST "coder" "B" (.int 0) ∧
  ∃ (t : Addr) (kb : ClassId), n0 ≤ t ∧ h.size ≤ t ∧ ¬ t = x ∧ RoadKit.Fld Z h' x ST "value" "[B" (.ref t) ∧ RoadKit.Arv Z h' t kb .byte N (bs.map Value.int) (.int 0)
/-- **new String(chars) AT A CALL, FOR THE WRITER**: a char[] of n known ints, each 0 to 255 -/
theorem backV {p : Program} {l : Launch} {e : Env} {R : Room} {s : State} {args : Array Value} {below : List Frame} {len W : Nat} {Z : State} {a0 : Array Value} {h : Heap} (hZ : Z.Warmed39 s.vm) (hw : ∀ d ∈ words, d.before a0 Z = true) {kI : Nat} (wi : (Jvm.Cond.instantiable ST kI).before a0 Z = true)
    {x b : Addr} {kC : ClassId} {cs bs : List Int32} {d v0 c0 : Value} {z N : Int32} {n n0 : Nat} (hx0 : n0 ≤ x) (hh0 : n0 ≤ h.size) (E : RoadKit.Exa Z h x ST) (V : RoadKit.Fld Z h x ST "value" "[B" v0) (C : RoadKit.Fld Z h x ST "coder" "B" c0) (K : RoadKit.Arv Z h b kC .char N (cs.map Value.int) d) (S : RoadKit.Sta Z h ST "COMPACT_STRINGS" "Z" (.int z)) (hz : ¬ z = 0)
    (hn : cs.length = n) (hN : N = Int32.ofNat n) (l0 : 0 < n) (l2 : n ≤ 4000) (hp : ∀ c ∈ cs, ¬ c < 0 ∧ ¬ (255 : Int32) < c) (hb : bs = cs.map (fun c => c.toInt8.toInt32)) (hfr : 4 ≤ R.frames) (hlo : W + 65 ≤ R.locals) :
    Back l R p e below s args (⟨"java/lang/String", "<init>", "([C)V"⟩ : MethodName) len W (fun P a => a = #[.ref x, .ref b] ∧ P.U.heap = h ∧ P.cells + 1 ≤ R.cells ∧ P.slots + n ≤ R.slots)
      (fun P _ v B => ∃ L, QV Z x N bs h n0 v B.U.heap L ∧ B.locs = P.locs ++ L ∧ B.cells = P.cells + 1 ∧ B.slots = P.slots + n) := by
  subst hn hN hb
  refine Back.mono (backArv hZ hw wi E V C K S hz (n32 (by omega)) l0 (by omega) (fun c hc => (hp c hc).2) hfr hlo) (fun P a hp => hp) (fun P a v B hp hq => ?_)
  obtain ⟨L, ⟨q1, q2, q3, q4, q5, q6, q7, ⟨kb, v1, v2⟩, q9⟩, hl, hc, hs⟩ := hq
  exact ⟨L, ⟨q1, fun y hy => by rw [q2 y hy]; exact hx0, q3, q5, q7, h.size, kb, hh0, Nat.le_refl _, Nat.ne_of_gt E.lt, q6, by rw [List.map_map]; exact v2⟩, hl, hc, hs⟩
end StrChars.Road
namespace StrChars
open Jvm Sem ClassFile Op Lib Jvm.Stand Jvm.Free.XT Jvm.Free.ALB Jvm.Free.JM Jvm.Free
open Jvm.Lib.Cold (StaticIs)
def hi8 (x : Int32) : Int32 := lo8 (x >>> ((8 : Int32) &&& 31))
/-- what StringUTF16.getChar makes of two bytes -/
def pairCh (u v : Int32) : Int32 := (((u &&& 255) <<< ((0 : Int32) &&& 31)) ||| ((v &&& 255) <<< ((8 : Int32) &&& 31))).toUInt32.toUInt16.toUInt32.toInt32
theorem shr0 (c : Int32) : c >>> ((0 : Int32) &&& 31) = c := by
  have e : ((0 : Int32) &&& 31) = 0 := by decide
  rw [e]
  apply Int32.toBitVec_inj.mp
  rw [Int32.toBitVec_shiftRight]
  have e1 : ((0 : Int32).toBitVec.smod 32) = 0#32 := by decide
  rw [e1, BitVec.sshiftRight_eq']
  exact BitVec.sshiftRight_zero
theorem lo8_and (x : Int32) : (lo8 x &&& 255).toBitVec.toNat = x.toBitVec.toNat % 256 := by
  have h : (lo8 x).toBitVec = (x.toBitVec.signExtend 8).signExtend 32 := by rw [lo8, Int8.toBitVec_toInt32, Int32.toBitVec_toInt8]
  rw [Int32.toBitVec_and, BitVec.toNat_and, h]
  have e : ((x.toBitVec.signExtend 8).signExtend 32).toNat % 256 = x.toBitVec.toNat % 256 := by
    rw [BitVec.toNat_signExtend]
    have hlt := x.toBitVec.isLt
    simp only [BitVec.toNat_setWidth, BitVec.toNat_signExtend]
    split <;> split <;> omega
  rw [← e]
  exact Nat.and_two_pow_sub_one_eq_mod _ 8
theorem pair_says {c : Int32} (h0 : ¬ c < 0) (h1 : ¬ 65535 < c) : pairCh (lo8 c) (hi8 c) = c := by
  rw [Int32.lt_iff_toInt_lt] at h0 h1
  have e0 : (0 : Int32).toInt = 0 := rfl
  have e1 : (65535 : Int32).toInt = 65535 := rfl
  have hc : c.toInt = c.toBitVec.toNat := by
    have := c.toBitVec.isLt
    have e : c.toInt = c.toBitVec.toInt := rfl
    rw [e] at h0 h1
    rw [e]
    rw [BitVec.toInt_eq_toNat_cond] at h0 h1 ⊢
    split at h0 <;> split <;> omega
  have hn : c.toBitVec.toNat < 65536 := by omega
  have a1 := lo8_and c
  have a2 : (hi8 c &&& 255).toBitVec.toNat = c.toBitVec.toNat / 256 := by
    rw [hi8, lo8_and]
    have e : ((8 : Int32) &&& 31) = 8 := by decide
    rw [e, Int32.toBitVec_shiftRight]
    have e2 : ((8 : Int32).toBitVec.smod 32) = 8#32 := by decide
    rw [e2, BitVec.sshiftRight_eq', BitVec.toNat_sshiftRight_of_msb_false (by rw [BitVec.msb_eq_false_iff_two_mul_lt]; omega)]
    show c.toBitVec.toNat >>> 8 % 256 = _
    rw [Nat.shiftRight_eq_div_pow]
    omega
  unfold pairCh
  apply Int32.toBitVec_inj.mp
  apply BitVec.eq_of_toNat_eq
  have f0 : ((0 : Int32) &&& 31) = 0 := by decide
  have f8 : ((8 : Int32) &&& 31) = 8 := by decide
  rw [f0, f8]
  have g : (((lo8 c &&& 255) <<< (0 : Int32)) ||| ((hi8 c &&& 255) <<< (8 : Int32))).toBitVec.toNat = c.toBitVec.toNat := by
    rw [Int32.toBitVec_or, Int32.toBitVec_shiftLeft, Int32.toBitVec_shiftLeft]
    have s0 : ((0 : Int32).toBitVec.smod 32) = 0#32 := by decide
    have s8 : ((8 : Int32).toBitVec.smod 32) = 8#32 := by decide
    rw [s0, s8, BitVec.toNat_or]
    simp only [BitVec.shiftLeft_eq', BitVec.toNat_shiftLeft, a1, a2]
    show (c.toBitVec.toNat % 256) <<< 0 % 2 ^ 32 ||| (c.toBitVec.toNat / 256) <<< 8 % 2 ^ 32 = _
    rw [Nat.shiftLeft_zero, Nat.mod_eq_of_lt (show c.toBitVec.toNat % 256 < 2 ^ 32 by omega), Nat.mod_eq_of_lt (show (c.toBitVec.toNat / 256) <<< 8 < 2 ^ 32 by rw [Nat.shiftLeft_eq]; omega), Nat.or_comm, ← Nat.shiftLeft_add_eq_or_of_lt (by omega), Nat.shiftLeft_eq]
    omega
  show BitVec.toNat (((((lo8 c &&& 255) <<< (0 : Int32)) ||| ((hi8 c &&& 255) <<< (8 : Int32))).toBitVec.setWidth 16).setWidth 32) = _
  rw [BitVec.toNat_setWidth, BitVec.toNat_setWidth, g]
  omega
end StrChars
namespace StrChars
open Jvm Sem ClassFile Op Lib Jvm.Stand Jvm.Free.XT Jvm.Free.ALB Jvm.Free.JM Jvm.Free
open Jvm.Lib.Cold (StaticIs)
theorem shr1 {n : Nat} (h : 2 * n < 2 ^ 31) : Int32.ofNat (2 * n) >>> ((1 : Int32) &&& 31) = Int32.ofNat n := by
  have e : ((1 : Int32) &&& 31) = 1 := by decide
  rw [e]
  apply Int32.toBitVec_inj.mp
  rw [Int32.toBitVec_shiftRight]
  have e1 : ((1 : Int32).toBitVec.smod 32) = 1#32 := by decide
  have hm : (BitVec.ofNat 32 (2 * n)).toNat = 2 * n := by rw [BitVec.toNat_ofNat, Nat.mod_eq_of_lt (by omega)]
  rw [e1, BitVec.sshiftRight_eq']
  apply BitVec.eq_of_toNat_eq
  show ((BitVec.ofNat 32 (2 * n)).sshiftRight 1).toNat = (BitVec.ofNat 32 n).toNat
  rw [BitVec.toNat_sshiftRight_of_msb_false (by rw [BitVec.msb_eq_false_iff_two_mul_lt, hm]; omega), hm, BitVec.toNat_ofNat, Nat.shiftRight_eq_div_pow]
  omega
/-- charAt's cast of a byte read back -/
def chr8 (u : Int32) : Int32 := (u &&& 255).toUInt32.toUInt16.toUInt32.toInt32
theorem chr8_lo8 {c : Int32} (h0 : ¬ c < 0) (h1 : ¬ 255 < c) : chr8 (lo8 c) = c := by
  have t : ∀ k : Fin 256, (Int32.ofNat k.val).toUInt32.toUInt16.toUInt32.toInt32 = Int32.ofNat k.val := by decide +kernel
  unfold chr8
  rw [lo8_mask h0 h1]
  rw [Int32.lt_iff_toInt_lt] at h0 h1
  have e0 : (0 : Int32).toInt = 0 := rfl
  have e1 : (255 : Int32).toInt = 255 := rfl
  obtain ⟨k, hk⟩ : ∃ k : Nat, c.toInt = k := ⟨c.toInt.toNat, by omega⟩
  have hx : c = Int32.ofNat k := Int32.toInt_inj.mp (by rw [hk, Int32.toInt_ofNat_small (by omega)])
  rw [hx]
  exact t ⟨k, by omega⟩
theorem narrow_ch {c : Int32} (h0 : ¬ c < 0) (h1 : ¬ 65535 < c) : narrow .char (.int c) = .int c := by
  have q : narrow .char (.int (pairCh (lo8 c) (hi8 c))) = .int (pairCh (lo8 c) (hi8 c)) := narrow_c _
  rwa [pair_says h0 h1] at q
/-- the array's cell V codes the n chars f 0 .. f (n - 1) by the coder cd, as the JDK does: coder 1 just where some char is above 255 -/
def Cod (cd : Int32) (n : Nat) (f : Nat → Int32) (V : Cell) : Prop := (cd = 0 ∧ V.slots.size = n ∧ ∀ j, j < n → V.slots[j]? = some (.int (lo8 (f j))) ∧ ¬ 255 < f j) ∨ (cd = 1 ∧ V.slots.size = 2 * n ∧ (∀ j, j < n → V.slots[2 * j]? = some (.int (lo8 (f j))) ∧ V.slots[2 * j + 1]? = some (.int (hi8 (f j)))) ∧ ∃ j, j < n ∧ 255 < f j)
theorem Cod.cd {cd : Int32} {n : Nat} {f : Nat → Int32} {V : Cell} (h : Cod cd n f V) : cd = 0 ∨ cd = 1 := h.imp (fun q => q.1) fun q => q.1
theorem Cod.len {cd : Int32} {n : Nat} {f : Nat → Int32} {V : Cell} (h : Cod cd n f V) (hs : V.slots.size < 2 ^ 31) : Int32.ofNat V.slots.size >>> (cd &&& 31) = Int32.ofNat n := by
  rcases h with ⟨rfl, h, -⟩ | ⟨rfl, h, -⟩
  · rw [shr0, h]
  · rw [h, shr1 (by omega)]
/-- **x is a String of the n chars f 0 .. f (n - 1)**, Latin-1 or UTF-16; its array at t has the cell V -/
def Txt (x t : Addr) (V : Cell) (cd : Int32) (n : Nat) (f : Nat → Int32) (U : State) : Prop := Exact "java/lang/String" x U ∧ Has x "java/lang/String" "value" "[B" (.ref t) U ∧ Has x "java/lang/String" "coder" "B" (.int cd) U ∧ XT.Arr .byte t V U ∧ Cod cd n f V ∧ ∀ j, j < n → ¬ f j < 0 ∧ ¬ 65535 < f j
theorem Txt.mv {x t : Addr} {V : Cell} {cd : Int32} {n : Nat} {f : Nat → Int32} {U U' : State} (h : Txt x t V cd n f U) (hal : U.vm.Alike U'.vm) (hh : U'.heap = U.heap) : Txt x t V cd n f U' := ⟨h.1.mv hal hh, h.2.1.mv hal hh, h.2.2.1.mv hal hh, h.2.2.2.1.mv hal hh, h.2.2.2.2⟩
namespace Cdr
def yN : MethodName := ⟨"java/lang/String", "coder", "()B"⟩
abbrev yB : ByteArray := jdk_42_method_152_code
theorem d0 : decode yB 0 = .ok (.getstatic 38, 3) := by decide +kernel
theorem d3 : decode yB 3 = .ok (.ifCond (.eq) 10, 3) := by decide +kernel
theorem d6 : decode yB 6 = .ok (.aload_n 0, 1) := by decide +kernel
theorem d7 : decode yB 7 = .ok (.getfield 15, 3) := by decide +kernel
theorem d10 : decode yB 10 = .ok (.goto 4, 3) := by decide +kernel
theorem d14 : decode yB 14 = .ok (.ireturn, 1) := by decide +kernel
def site : List Cond := [.fieldLink "java/lang/String" 38 "java/lang/String" "COMPACT_STRINGS" "Z", .fieldLink "java/lang/String" 15 "java/lang/String" "coder" "B"]
def tab : Cond := tabOf yN yB 1 (some .byte) site
def P (x : Addr) (cd z : Int32) (args : Array Value) (s : State) : Prop := args = #[.ref x] ∧ Has x "java/lang/String" "coder" "B" (.int cd) s ∧ (cd = 0 ∨ cd = 1) ∧ StaticIs s "java/lang/String" "COMPACT_STRINGS" "Z" (.int z) ∧ ¬ z = 0
def E (cd : Int32) (r : Option Value) (s u : State) : Prop := XT.PureE (some (.int cd)) r s u
theorem law (l : Launch) (x : Addr) (cd z : Int32) : Law l yN 1 0 0 0 yB 1 (some .byte) site (P x cd z) (E cd) [] 0 0 := by
  refine Law.of_walk (plainFor_of_name (by decide +kernel)) (by decide +kernel) (by decide +kernel) (by decide) (fun _ _ h => by rw [h.1]; rfl) (fun _ U U' hal hh h => ⟨h.1, h.2.1.mv hal hh, h.2.2.1, h.2.2.2.1.there hal hh, h.2.2.2.2⟩) (fun r U U' V V' h1 hal h2 h => XT.PureE.mv r U U' V V' h1 hal h2 h) ?_
  intro p e s m args below meth c s₁ X0 hexec hbytes hml hret hlk hnm hown hh0 W hP
  obtain ⟨rfl, hx, hc, s1, hz⟩ := hP
  have c1 : Steps p.tables e below (s₁.setTop (entryFrame m #[.ref x] 1)) (s₁.setTop (mkF m 0 #[.val (.ref x)] [])) := entry rfl
  obtain ⟨T2, X2, q2, st2⟩ := X0.sget hexec hown (wk W (.fieldLink "java/lang/String" 38 "java/lang/String" "COMPACT_STRINGS" "Z")) s1 (fun _ _ h => by rw [hh0]; exact h) (g := (mkF m 0 #[.val (.ref x)] [])) rfl (hb hbytes d0)
  have hh2 := q2.trans hh0
  have c3 : Steps p.tables e below (s₁.setTop (entryFrame m #[.ref x] 1)) (T2.setTop (mkF m 7 #[.val (.ref x)] [.ref x])) := (c1.trans (st2 _ (Steps.refl _))).trans (by
    refine XS.ifNo X2.here hexec rfl (hb hbytes d3) rfl (i0_eq_f hz) ?_
    refine XS.aloadN X2.here hexec rfl (hb hbytes d6) rfl rfl ?_
    exact Steps.refl _)
  obtain ⟨T4, X4, q4, st4⟩ := X2.hget hexec hown (wk W (.fieldLink "java/lang/String" 15 "java/lang/String" "coder" "B")) (hx.mv X2.warmed.alike hh2) (g := (mkF m 7 #[.val (.ref x)] [.ref x])) rfl (rest := []) rfl (hb hbytes d7)
  have c5 : Steps p.tables e below (s₁.setTop (entryFrame m #[.ref x] 1)) (T4.setTop (mkF m 14 #[.val (.ref x)] [.int cd])) := (c3.trans (st4 _ (Steps.refl _))).trans (by
    refine XS.goto X4.here hexec rfl (pc0 := 10) rfl (hb hbytes d10) (by decide) rfl ?_
    exact Steps.refl _)
  exact ⟨T4, some (.int cd), _, _, _, X4, rfl, rfl, rfl, (fun h => by cases h), ⟨rfl, q4.trans hh2⟩, fun fs hl => c5.trans (X4.ireturnOut hexec hret (by rcases hc with rfl | rfl <;> rfl) (Or.inr (Or.inr (Or.inl rfl))) (hb hbytes d14) hl)⟩
end Cdr
namespace Len
def yN : MethodName := ⟨"java/lang/String", "length", "()I"⟩
abbrev yB : ByteArray := jdk_42_method_54_code
theorem d0 : decode yB 0 = .ok (.aload_n 0, 1) := by decide +kernel
theorem d1 : decode yB 1 = .ok (.getfield 9, 3) := by decide +kernel
theorem d4 : decode yB 4 = .ok (.arraylength, 1) := by decide +kernel
theorem d5 : decode yB 5 = .ok (.aload_n 0, 1) := by decide +kernel
theorem d6 : decode yB 6 = .ok (.invokevirtual 335, 3) := by decide +kernel
theorem d9 : decode yB 9 = .ok (.ishr, 1) := by decide +kernel
theorem d10 : decode yB 10 = .ok (.ireturn, 1) := by decide +kernel
def site : List Cond := [.fieldLink "java/lang/String" 9 "java/lang/String" "value" "[B", Cdr.tab] ++ virtW "java/lang/String" 335 "java/lang/String" Cdr.yN Cdr.yN
def tab : Cond := tabOf yN yB 1 (some .int) site
def P (x t : Addr) (V : Cell) (cd : Int32) (n : Nat) (f : Nat → Int32) (z : Int32) (args : Array Value) (s : State) : Prop := args = #[.ref x] ∧ Txt x t V cd n f s ∧ StaticIs s "java/lang/String" "COMPACT_STRINGS" "Z" (.int z) ∧ ¬ z = 0
def E (n : Nat) (r : Option Value) (s u : State) : Prop := XT.PureE (some (.int (Int32.ofNat n))) r s u
/-- length() of a String of n chars, in either coding -/
theorem law (l : Launch) (x t : Addr) (V : Cell) (cd : Int32) (n : Nat) (f : Nat → Int32) (z : Int32) : Law l yN 1 0 1 13 yB 1 (some .int) site (P x t V cd n f z) (E n) [] 0 0 := by
  refine Law.of_walk (plainFor_of_name (by decide +kernel)) (by decide +kernel) (by decide +kernel) (by decide) (fun _ _ h => by rw [h.1]; rfl) (fun _ U U' hal hh h => ⟨h.1, h.2.1.mv hal hh, h.2.2.1.there hal hh, h.2.2.2⟩) (fun r U U' V V' h1 hal h2 h => XT.PureE.mv r U U' V V' h1 hal h2 h) ?_
  intro p e s m args below meth c s₁ X0 hexec hbytes hml hret hlk hnm hown hh0 W hP
  obtain ⟨rfl, hx, s1, hz⟩ := hP
  have v31 := hx.2.2.2.1.2.2.2
  have c1 : Steps p.tables e below (s₁.setTop (entryFrame m #[.ref x] 1)) (s₁.setTop (mkF m 1 #[.val (.ref x)] [.ref x])) := Steps.trans (entry rfl) (by
    show Steps p.tables e below (s₁.setTop (mkF m 0 #[.val (.ref x)] [])) _
    refine XS.aloadN X0.here hexec rfl (hb hbytes d0) rfl rfl ?_
    exact Steps.refl _)
  obtain ⟨T2, X2, q2, st2⟩ := X0.hget hexec hown (wk W (.fieldLink "java/lang/String" 9 "java/lang/String" "value" "[B")) (hx.mv X0.warmed.alike hh0).2.1 (g := (mkF m 1 #[.val (.ref x)] [.ref x])) rfl (rest := []) rfl (hb hbytes d1)
  have hh2 := q2.trans hh0
  have hx2 := hx.mv X2.warmed.alike hh2
  have c3 : Steps p.tables e below (s₁.setTop (entryFrame m #[.ref x] 1)) (T2.setTop (mkF m 6 #[.val (.ref x)] [.ref x, .int (Int32.ofNat V.slots.size)])) := (c1.trans (st2 _ (Steps.refl _))).trans (by
    refine X2.alen hexec hx2.2.2.2.1 rfl rfl (hb hbytes d4) ?_
    refine XS.aloadN X2.here hexec rfl (hb hbytes d5) rfl rfl ?_
    exact Steps.refl _)
  obtain ⟨v4, T4, X4, E4, g4⟩ := X2.callV hexec (Cdr.law l x cd z) hown (wks W (virtW "java/lang/String" 335 "java/lang/String" Cdr.yN Cdr.yN)) rfl (by decide) (wk W Cdr.tab) (W := 1) (Nat.le_of_ble_eq_true rfl) (Nat.le_of_ble_eq_true rfl) (Nat.le_refl _) (Nat.le_refl _) (hx2.1.fc X2.warmed.alike) hx2.1.is (g := (mkF m 6 #[.val (.ref x)] [.ref x, .int (Int32.ofNat V.slots.size)])) rfl (by rw [hml]; rfl) c3 (argsL := []) (rest := [.int (Int32.ofNat V.slots.size)]) rfl rfl (by show 2 * 0 + (1 + 0) ≤ _; decide) (hb hbytes d6) (⟨rfl, hx2.2.2.1, hx.2.2.2.2.1.cd, s1.there X2.warmed.alike hh2, hz⟩)
  obtain ⟨rfl, q4⟩ := E4
  have c5 : Steps p.tables e below (s₁.setTop (entryFrame m #[.ref x] 1)) (T4.setTop (mkF m 10 #[.val (.ref x)] [.int (Int32.ofNat V.slots.size >>> (cd &&& 31))])) := Steps.trans g4 (by
    refine ishr X4.here hexec rfl (hb hbytes d9) rfl ?_
    exact Steps.refl _)
  rw [hx.2.2.2.2.1.len v31] at c5
  exact ⟨T4, some (.int (Int32.ofNat n)), _, _, _, X4, rfl, rfl, rfl, (fun h => by cases h), ⟨rfl, q4.trans hh2⟩, fun fs hl => c5.trans (X4.ireturnOut hexec hret rfl (Or.inl rfl) (hb hbytes d10) hl)⟩
theorem pays {l : Launch} {R : Room} {p : Program} {e : Env} {below : List Frame} {s : State} {sargs : Array Value} {len W : Nat} (x t : Addr) (V : Cell) (cd : Int32) (n : Nat) (f : Nat → Int32) (z : Int32) (htab : tab.before sargs s = true) (hfr : 2 ≤ R.frames) (hlo : W + 25 ≤ R.locals) :
    Back l R p e below s sargs yN len W (fun A₁ a₁ => A₁.cells + 0 ≤ R.cells ∧ A₁.slots + 0 ≤ R.slots ∧ P x t V cd n f z a₁ A₁.U) (fun A₁ _ v₁ B₁ => E n v₁ A₁.U B₁.U ∧ B₁.locs = A₁.locs ++ [] ∧ B₁.cells = A₁.cells + 0 ∧ B₁.slots = A₁.slots + 0) :=
  (law l x t V cd n f z).pays htab hfr (by omega)
end Len
namespace IsL
def yN : MethodName := ⟨"java/lang/String", "isLatin1", "()Z"⟩
abbrev yB : ByteArray := jdk_42_method_154_code
theorem d0 : decode yB 0 = .ok (.getstatic 38, 3) := by decide +kernel
theorem d3 : decode yB 3 = .ok (.ifCond (.eq) 14, 3) := by decide +kernel
theorem d6 : decode yB 6 = .ok (.aload_n 0, 1) := by decide +kernel
theorem d7 : decode yB 7 = .ok (.getfield 15, 3) := by decide +kernel
theorem d10 : decode yB 10 = .ok (.ifCond (.ne) 7, 3) := by decide +kernel
theorem d13 : decode yB 13 = .ok (.iconst 1, 1) := by decide +kernel
theorem d14 : decode yB 14 = .ok (.goto 4, 3) := by decide +kernel
theorem d17 : decode yB 17 = .ok (.iconst 0, 1) := by decide +kernel
theorem d18 : decode yB 18 = .ok (.ireturn, 1) := by decide +kernel
def site : List Cond := [.fieldLink "java/lang/String" 38 "java/lang/String" "COMPACT_STRINGS" "Z", .fieldLink "java/lang/String" 15 "java/lang/String" "coder" "B"]
def tab : Cond := tabOf yN yB 1 (some .boolean) site
def P (x : Addr) (cd z : Int32) (args : Array Value) (s : State) : Prop := args = #[.ref x] ∧ Has x "java/lang/String" "coder" "B" (.int cd) s ∧ (cd = 0 ∨ cd = 1) ∧ StaticIs s "java/lang/String" "COMPACT_STRINGS" "Z" (.int z) ∧ ¬ z = 0
def E (cd : Int32) (r : Option Value) (s u : State) : Prop := XT.PureE (some (.int (1 - cd))) r s u
theorem law (l : Launch) (x : Addr) (cd z : Int32) : Law l yN 1 0 0 0 yB 1 (some .boolean) site (P x cd z) (E cd) [] 0 0 := by
  refine Law.of_walk (plainFor_of_name (by decide +kernel)) (by decide +kernel) (by decide +kernel) (by decide) (fun _ _ h => by rw [h.1]; rfl) (fun _ U U' hal hh h => ⟨h.1, h.2.1.mv hal hh, h.2.2.1, h.2.2.2.1.there hal hh, h.2.2.2.2⟩) (fun r U U' V V' h1 hal h2 h => XT.PureE.mv r U U' V V' h1 hal h2 h) ?_
  intro p e s m args below meth c s₁ X0 hexec hbytes hml hret hlk hnm hown hh0 W hP
  obtain ⟨rfl, hx, hc, s1, hz⟩ := hP
  have c1 : Steps p.tables e below (s₁.setTop (entryFrame m #[.ref x] 1)) (s₁.setTop (mkF m 0 #[.val (.ref x)] [])) := entry rfl
  obtain ⟨T2, X2, q2, st2⟩ := X0.sget hexec hown (wk W (.fieldLink "java/lang/String" 38 "java/lang/String" "COMPACT_STRINGS" "Z")) s1 (fun _ _ h => by rw [hh0]; exact h) (g := (mkF m 0 #[.val (.ref x)] [])) rfl (hb hbytes d0)
  have hh2 := q2.trans hh0
  have c3 : Steps p.tables e below (s₁.setTop (entryFrame m #[.ref x] 1)) (T2.setTop (mkF m 7 #[.val (.ref x)] [.ref x])) := (c1.trans (st2 _ (Steps.refl _))).trans (by
    refine XS.ifNo X2.here hexec rfl (hb hbytes d3) rfl (i0_eq_f hz) ?_
    refine XS.aloadN X2.here hexec rfl (hb hbytes d6) rfl rfl ?_
    exact Steps.refl _)
  obtain ⟨T4, X4, q4, st4⟩ := X2.hget hexec hown (wk W (.fieldLink "java/lang/String" 15 "java/lang/String" "coder" "B")) (hx.mv X2.warmed.alike hh2) (g := (mkF m 7 #[.val (.ref x)] [.ref x])) rfl (rest := []) rfl (hb hbytes d7)
  have c5 : Steps p.tables e below (s₁.setTop (entryFrame m #[.ref x] 1)) (T4.setTop (mkF m 10 #[.val (.ref x)] [.int cd])) := c3.trans (st4 _ (Steps.refl _))
  have c6 : Steps p.tables e below (s₁.setTop (entryFrame m #[.ref x] 1)) (T4.setTop (mkF m 18 #[.val (.ref x)] [.int (1 - cd)])) := by
    rcases hc with rfl | rfl
    · exact c5.trans (by
        refine XS.ifNo X4.here hexec rfl (hb hbytes d10) rfl (i0_ne_f rfl) ?_
        refine iconstV X4.here hexec rfl 1 (hb hbytes d13) (by decide) ?_
        refine XS.goto X4.here hexec rfl (pc0 := 14) rfl (hb hbytes d14) (by decide) rfl ?_
        exact Steps.refl _)
    · exact c5.trans (by
        refine XS.ifYes X4.here hexec rfl (pc0 := 10) rfl (hb hbytes d10) rfl (i0_ne_t (by decide)) (by decide) rfl ?_
        refine iconstV X4.here hexec rfl 0 (hb hbytes d17) (by decide) ?_
        exact Steps.refl _)
  exact ⟨T4, some (.int (1 - cd)), _, _, _, X4, rfl, rfl, rfl, (fun h => by cases h), ⟨rfl, q4.trans hh2⟩, fun fs hl => c6.trans (X4.ireturnOut hexec hret (by rcases hc with rfl | rfl <;> rfl) (Or.inr (Or.inl rfl)) (hb hbytes d18) hl)⟩
end IsL
namespace LChA
def yN : MethodName := ⟨"java/lang/StringLatin1", "charAt", "([BI)C"⟩
abbrev yB : ByteArray := jdk_43_method_2_code
theorem d0 : decode yB 0 = .ok (.iload_n 1, 1) := by decide +kernel
theorem d1 : decode yB 1 = .ok (.aload_n 0, 1) := by decide +kernel
theorem d2 : decode yB 2 = .ok (.arraylength, 1) := by decide +kernel
theorem d3 : decode yB 3 = .ok (.invokestatic 9, 3) := by decide +kernel
theorem d6 : decode yB 6 = .ok (.aload_n 0, 1) := by decide +kernel
theorem d7 : decode yB 7 = .ok (.iload_n 1, 1) := by decide +kernel
theorem d8 : decode yB 8 = .ok (.baload, 1) := by decide +kernel
theorem d9 : decode yB 9 = .ok (.sipush 255, 3) := by decide +kernel
theorem d12 : decode yB 12 = .ok (.iand, 1) := by decide +kernel
theorem d13 : decode yB 13 = .ok (.i2c, 1) := by decide +kernel
theorem d14 : decode yB 14 = .ok (.ireturn, 1) := by decide +kernel
def site : List Cond := [JO.Str_checkIndex.tab] ++ staticW "java/lang/StringLatin1" 9 JO.Str_checkIndex.yN
def tab : Cond := tabOf yN yB 2 (some .char) site
def P (t : Addr) (V : Cell) (i : Nat) (u : Int32) (fm : Value) (args : Array Value) (s : State) : Prop := args = #[.ref t, .int (Int32.ofNat i)] ∧ XT.Arr .byte t V s ∧ V.slots[i]? = some (.int u) ∧ (StaticIs s "jdk/internal/util/Preconditions" "SIOOBE_FORMATTER" "Ljava/util/function/BiFunction;" fm ∧ fm.isRef = true)
def E (u : Int32) (r : Option Value) (s w : State) : Prop := XT.PureE (some (.int (chr8 u))) r s w
theorem law (l : Launch) (t : Addr) (V : Cell) (i : Nat) (u : Int32) (fm : Value) : Law l yN 2 2 2 27 yB 2 (some .char) site (P t V i u fm) (E u) [] 0 0 := by
  refine Law.of_walk (plainFor_of_name (by decide +kernel)) (by decide +kernel) (by decide +kernel) (by decide) (fun _ _ h => by rw [h.1]; rfl) (fun _ U U' hal hh h => ⟨h.1, h.2.1.mv hal hh, h.2.2.1, h.2.2.2.1.there hal hh, h.2.2.2.2⟩) (fun r U U' V V' h1 hal h2 h => XT.PureE.mv r U U' V V' h1 hal h2 h) ?_
  intro p e s m args below meth c s₁ X0 hexec hbytes hml hret hlk hnm hown hh0 W hP
  obtain ⟨rfl, hV, hu, s1, rf⟩ := hP
  have v31 := hV.2.2.2
  have hi : i < V.slots.size := (Array.getElem?_eq_some_iff.mp hu).1
  have c1 : Steps p.tables e below (s₁.setTop (entryFrame m #[.ref t, .int (Int32.ofNat i)] 2)) (s₁.setTop (mkF m 0 #[.val (.ref t), .val (.int (Int32.ofNat i))] [])) := entry rfl
  have c2 : Steps p.tables e below (s₁.setTop (entryFrame m #[.ref t, .int (Int32.ofNat i)] 2)) (s₁.setTop (mkF m 3 #[.val (.ref t), .val (.int (Int32.ofNat i))] [.int (Int32.ofNat V.slots.size), .int (Int32.ofNat i)])) := c1.trans (by
    refine XS.iloadN X0.here hexec rfl (hb hbytes d0) rfl ?_
    refine XS.aloadN X0.here hexec rfl (hb hbytes d1) rfl rfl ?_
    refine X0.alen hexec (hV.mv X0.warmed.alike hh0) rfl rfl (hb hbytes d2) ?_
    exact Steps.refl _)
  obtain ⟨v3, T3, X3, E3, g3⟩ := X0.callS hexec (JO.Str_checkIndex.law l (Int32.ofNat i) (Int32.ofNat V.slots.size) fm) hown (wks W (staticW "java/lang/StringLatin1" 9 JO.Str_checkIndex.yN)) (wk W JO.Str_checkIndex.tab) (W := 0) (Nat.le_of_ble_eq_true rfl) (Nat.le_of_ble_eq_true rfl) (Nat.le_refl _) (Nat.le_refl _) (g := (mkF m 3 #[.val (.ref t), .val (.int (Int32.ofNat i))] [.int (Int32.ofNat V.slots.size), .int (Int32.ofNat i)])) rfl (by rw [hml]; rfl) c2 (argsL := [.int (Int32.ofNat i), .int (Int32.ofNat V.slots.size)]) (rest := []) rfl rfl (by show 2 * 0 + 0 ≤ _; decide) (hb hbytes d3) (⟨rfl, rf, s1.there X0.warmed.alike hh0, Int32.ofNat_not_neg (by omega), lt32 v31 hi⟩)
  obtain ⟨rfl, q3⟩ := E3
  have hh3 := q3.trans hh0
  have c4 : Steps p.tables e below (s₁.setTop (entryFrame m #[.ref t, .int (Int32.ofNat i)] 2)) (T3.setTop (mkF m 14 #[.val (.ref t), .val (.int (Int32.ofNat i))] [.int (chr8 u)])) := Steps.trans g3 (by
    refine XS.aloadN X3.here hexec rfl (hb hbytes d6) rfl rfl ?_
    refine XS.iloadN X3.here hexec rfl (hb hbytes d7) rfl ?_
    refine X3.aget hexec (hV.mv X3.warmed.alike hh3) rfl hu rfl rfl (hb hbytes d8) ?_
    refine sipushV X3.here hexec rfl 255 (hb hbytes d9) (by decide) ?_
    refine XS.iand X3.here hexec rfl (hb hbytes d12) rfl ?_
    refine i2c X3.here hexec rfl (hb hbytes d13) rfl ?_
    exact Steps.refl _)
  exact ⟨T3, some (.int (chr8 u)), _, _, _, X3, rfl, rfl, rfl, (fun h => by cases h), ⟨rfl, hh3⟩, fun fs hl => c4.trans (X3.ireturnOut hexec hret (narrow_c _) (Or.inr (Or.inr (Or.inr (Or.inl rfl)))) (hb hbytes d14) hl)⟩
end LChA
end StrChars
namespace StrChars.Road
open Jvm Sem ClassFile Op Lib Jvm.Stand Jvm.Free Jvm.Free.XT
open Jvm.Lib.Cold (StaticIs)
theorem consq {a : Array Value} {s : State} {c : Jvm.Cond} {L : List Jvm.Cond} (h0 : c.before a s = true) (h : ∀ w ∈ L, w.before a s = true) : ∀ w ∈ c :: L, w.before a s = true := fun w hw => (List.mem_cons.mp hw).elim (fun e => e ▸ h0) (h w)
/-- the words of String.length(), either coding -/
abbrev wordsLen : List Jvm.Cond := [.code Len.yN Len.yB 1 (some .int), .initialized ST, .fieldLink ST 9 ST "value" "[B", .fieldLink ST 38 ST "COMPACT_STRINGS" "Z", .fieldLink ST 15 ST "coder" "B", .code Cdr.yN Cdr.yB 1 (some .byte), .methodLink ST 335 Cdr.yN, .declares Cdr.yN, .selects ST Cdr.yN Cdr.yN, .instanceMethod Cdr.yN]
theorem tabLen_of {a : Array Value} {s : State} (h : ∀ w ∈ wordsLen, w.before a s = true) : Len.tab.before a s = true := by
  have hc : Cdr.tab.before a s = true := unparts (wk h (.code Cdr.yN Cdr.yB 1 (some .byte))) (wks h (.initialized Cdr.yN.cls :: Cdr.site))
  have q := consq hc h
  exact unparts (wk q (.code Len.yN Len.yB 1 (some .int))) (wks q (.initialized Len.yN.cls :: Len.site))
theorem movedLen {Z s : State} {a0 args : Array Value} (hZ : Z.Warmed39 s.vm) (hw : ∀ d ∈ wordsLen, d.before a0 Z = true) : ∀ d ∈ wordsLen, d.before args s = true := fun d hd => by
  have q := hw d hd
  have t : ∀ d ∈ wordsLen, d = .arrayClass .byte ∨ (d.onTables && d.keepsFace) = true := by decide +kernel
  rcases t d hd with rfl | t
  · exact RoadKit.mvA hZ q
  · exact RoadKit.mv hZ q t
/-- the bytes of the chars cs, low before high -/
def wideBytes : List Int32 → List Value
  | [] => []
  | c :: cs => .int (lo8 c) :: .int (hi8 c) :: wideBytes cs
theorem wide_lo (d : Value) : ∀ (cs : List Int32) (j : Nat), j < cs.length → (wideBytes cs).getD (2 * j) d = .int (lo8 (cs.getD j 0))
  | [], j, h => absurd h (Nat.not_lt_zero j)
  | c :: cs, 0, _ => rfl
  | c :: cs, j + 1, h => by
    have q := wide_lo d cs j (by simpa using h)
    rw [show 2 * (j + 1) = 2 * j + 1 + 1 from by omega]
    simpa [wideBytes] using q
theorem wide_hi (d : Value) : ∀ (cs : List Int32) (j : Nat), j < cs.length → (wideBytes cs).getD (2 * j + 1) d = .int (hi8 (cs.getD j 0))
  | [], j, h => absurd h (Nat.not_lt_zero j)
  | c :: cs, 0, _ => rfl
  | c :: cs, j + 1, h => by
    have q := wide_hi d cs j (by simpa using h)
    rw [show 2 * (j + 1) + 1 = 2 * j + 1 + 1 + 1 from by omega]
    simpa [wideBytes] using q
theorem low_at (d : Value) (cs : List Int32) (j : Nat) (h : j < cs.length) : (cs.map fun c => Value.int (lo8 c)).getD j d = .int (lo8 (cs.getD j 0)) := by
  simp [List.getD_eq_getElem?_getD, h]
/-- an array of N2 bytes vs codes the chars cs by the coder cd -/
def CodA (cs : List Int32) (cd N2 : Int32) (vs : List Value) : Prop := (cd = 0 ∧ N2 = Int32.ofNat cs.length ∧ vs = (cs.map fun c => Value.int (lo8 c)) ∧ ∀ c ∈ cs, ¬ 255 < c) ∨ (cd = 1 ∧ N2 = Int32.ofNat (2 * cs.length) ∧ vs = wideBytes cs ∧ ∃ c ∈ cs, 255 < c)
theorem CodA.cod {cs : List Int32} {cd N2 : Int32} {vs : List Value} {V : Cell} (h : CodA cs cd N2 vs) (hn : 2 * cs.length < 2 ^ 31) (hs : V.slots.size = N2.toNatClampNeg) (hv : RoadKit.Has V vs (.int 0)) : Cod cd cs.length (fun j => cs.getD j 0) V := by
  rcases h with ⟨rfl, rfl, rfl, h⟩ | ⟨rfl, rfl, rfl, c, hc, hw⟩
  · rw [n32 (by omega)] at hs
    exact Or.inl ⟨rfl, hs, fun j hj => ⟨by rw [hv j (by omega), low_at _ _ _ hj], by
      have e : cs.getD j 0 = cs[j] := by simp [List.getD_eq_getElem?_getD, hj]
      show ¬ 255 < cs.getD j 0
      rw [e]; exact h _ (List.getElem_mem _)⟩⟩
  · rw [n32 (by omega)] at hs
    obtain ⟨j, hj, rfl⟩ := List.getElem_of_mem hc
    exact Or.inr ⟨rfl, hs, fun j hj => ⟨by rw [hv _ (by omega), wide_lo _ _ _ hj], by rw [hv _ (by omega), wide_hi _ _ _ hj]⟩, j, hj, by
      have e : cs.getD j 0 = cs[j] := by simp [List.getD_eq_getElem?_getD, hj]
      show 255 < cs.getD j 0
      rw [e]; exact hw⟩
/-- an object of exactly java/lang/String, its two fields found: as the laws ask it -/
theorem strObj {Z U : State} {a0 : Array Value} {kI : Nat} (wi : (Jvm.Cond.instantiable ST kI).before a0 Z = true) (al : Z.vm.Alike U.vm) {x : Addr} {v0 c0 : Value} (E : RoadKit.Exa Z U.heap x ST) (V : RoadKit.Fld Z U.heap x ST "value" "[B" v0) (C : RoadKit.Fld Z U.heap x ST "coder" "B" c0) :
    ∃ (D : Cell) (fV fC : Field), Blank ST x D U ∧ Found ST "value" "[B" fV U ∧ Found ST "coder" "B" fC U ∧ D.slots[fV.slot]? = some v0 ∧ D.slots[fC.slot]? = some c0 ∧ RoadKit.slotOf Z ST "value" "[B" = fV.slot ∧ RoadKit.slotOf Z ST "coder" "B" = fC.slot := by
  obtain ⟨D, cfV, kV, iV, fV, hD, gV, stV, knV, obV, asV, slV⟩ := V
  obtain ⟨D', cfC, kC, iC, fC, hD', gC, stC, -, -, asC, slC⟩ := C
  cases hD.symm.trans hD'
  obtain ⟨D2, kD, e1, e2, e3, e4, e5⟩ := E
  cases hD.symm.trans e1
  obtain ⟨c2, k2, i1, i2, i3, -⟩ := Cond.instantiable_spec wi
  cases e2.symm.trans i1
  cases e3.symm.trans i2
  obtain ⟨kU, u1, u2⟩ := al.2.2 _ _ e3
  exact ⟨D, fV, fC, ⟨hD, ⟨knV, fun q hq => by rw [hq] at obV; cases obV⟩, by rw [al.findClass]; exact e2, kU, u1, by rw [u2]; exact i3, by rw [u2]; exact e5 i3⟩, ⟨SBG.found_only al ⟨cfV, kV, iV, gV⟩, stV⟩, ⟨SBG.found_only al ⟨cfC, kC, iC, gC⟩, stC⟩, slV, slC, by simp [RoadKit.slotOf, gV], by simp [RoadKit.slotOf, gC]⟩
theorem sta_is {Z U : State} (al : Z.vm.Alike U.vm) {C n d : String} {v : Value} (S : RoadKit.Sta Z U.heap C n d v) : StaticIs U C n d v := by
  obtain ⟨cfS, iS, kS, fS, st, cS, t1, t2, t3, t4, t5, t6, t7⟩ := S
  exact StaticIs.there (s := { Z with heap := U.heap }) ⟨cfS, iS, kS, fS, st, cS, t1, t2, t3, t4, t5, (fun q => by rw [q] at t6; cases t6), t7⟩ al rfl
/-- **length() OF SUCH A STRING** -/
theorem lenW {p : Program} {l : Launch} {e : Env} {R : Room} {s : State} {args : Array Value} {below : List Frame} {len W : Nat} {Z : State} {a0 : Array Value} {h : Heap} (hZ : Z.Warmed39 s.vm) (hw : ∀ d ∈ wordsLen, d.before a0 Z = true) {kI : Nat} (wi : (Jvm.Cond.instantiable ST kI).before a0 Z = true)
    {x t : Addr} {kb : ClassId} {cs : List Int32} {cd N2 z : Int32} {vs : List Value} (E : RoadKit.Exa Z h x ST) (V : RoadKit.Fld Z h x ST "value" "[B" (.ref t)) (C : RoadKit.Fld Z h x ST "coder" "B" (.int cd)) (K : RoadKit.Arv Z h t kb .byte N2 vs (.int 0)) (hc : CodA cs cd N2 vs) (hb : ∀ c ∈ cs, ¬ c < 0 ∧ ¬ (65535 : Int32) < c)
    (S : RoadKit.Sta Z h ST "COMPACT_STRINGS" "Z" (.int z)) (hz : ¬ z = 0) (l2 : cs.length ≤ 4000) (hfr : 2 ≤ R.frames) (hlo : W + 25 ≤ R.locals) :
    Back l R p e below s args (⟨"java/lang/String", "length", "()I"⟩ : MethodName) len W (fun P a => a = #[.ref x] ∧ P.U.heap = h ∧ P.cells + 0 ≤ R.cells ∧ P.slots + 0 ≤ R.slots)
      (fun P _ v B => ∃ L, (v = some (.int (Int32.ofNat cs.length)) ∧ L = [] ∧ B.U.heap = h) ∧ B.locs = P.locs ++ L ∧ B.cells = P.cells + 0 ∧ B.slots = P.slots + 0) := by
  obtain ⟨A, K1, K2, K3, K4, K5, K6⟩ := K
  have hcod := hc.cod (by omega) K3 K5
  intro m meth c P g ig mk a X hg hsize hdg hW hn hp'
  obtain ⟨rfl, rfl, r1, r2⟩ := hp'
  have al : Z.vm.Alike P.U.vm := hZ.alike.trans X.warmed.alike
  obtain ⟨D, fV, fC, hB, F1, F2, g1, g2, -, -⟩ := strObj wi al E V C
  have hx : Txt x t A cd cs.length (fun j => cs.getD j 0) P.U := ⟨⟨_, hB.2.2.1, D, hB.1, rfl, by cases q : D.vm <;> first | rfl | exact absurd q (hB.2.1.2 _)⟩, Has.of hB F1 g1, Has.of hB F2 g2, ⟨K1.1, State.isArrayOf_alike al K1.2.1, K1.2.2, by rcases hcod with ⟨-, q, -⟩ | ⟨-, q, -⟩ <;> omega⟩, hcod, fun j hj => by
    have e : cs.getD j 0 = cs[j] := by simp [List.getD_eq_getElem?_getD, hj]
    show ¬ cs.getD j 0 < 0 ∧ ¬ 65535 < cs.getD j 0
    rw [e]; exact hb _ (List.getElem_mem _)⟩
  obtain ⟨v, B, X', ⟨⟨hv, hh⟩, hl, hk, hs⟩, st⟩ := Len.pays x t A cd cs.length (fun j => cs.getD j 0) z (tabLen_of (movedLen hZ hw)) hfr hlo m meth c P g ig mk _ X hg hsize hdg hW hn ⟨r1, r2, rfl, hx, sta_is al S, hz⟩
  exact ⟨v, B, X', ⟨[], ⟨hv, rfl, hh⟩, hl, hk, hs⟩, st⟩
end StrChars.Road
namespace StrChars.Road
open Jvm Sem ClassFile Op Lib Jvm.Stand Jvm.Free Jvm.Free.XT
open Jvm.Lib.Cold (StaticIs)
/-- the road's facts of a String, as the laws ask it -/
theorem txt_of {Z U : State} {a0 : Array Value} {kI : Nat} (wi : (Jvm.Cond.instantiable ST kI).before a0 Z = true) (al : Z.vm.Alike U.vm) {x t : Addr} {kb : ClassId} {cs : List Int32} {cd N2 : Int32} {vs : List Value} (E : RoadKit.Exa Z U.heap x ST) (V : RoadKit.Fld Z U.heap x ST "value" "[B" (.ref t)) (C : RoadKit.Fld Z U.heap x ST "coder" "B" (.int cd)) (K : RoadKit.Arv Z U.heap t kb .byte N2 vs (.int 0)) (hc : CodA cs cd N2 vs) (hb : ∀ c ∈ cs, ¬ c < 0 ∧ ¬ (65535 : Int32) < c) (l2 : cs.length ≤ 4000) :
    ∃ A, Txt x t A cd cs.length (fun j => cs.getD j 0) U := by
  obtain ⟨A, K1, K2, K3, K4, K5, K6⟩ := K
  have hcod := hc.cod (by omega) K3 K5
  obtain ⟨D, fV, fC, hB, F1, F2, g1, g2, -, -⟩ := strObj wi al E V C
  exact ⟨A, ⟨_, hB.2.2.1, D, hB.1, rfl, by cases q : D.vm <;> first | rfl | exact absurd q (hB.2.1.2 _)⟩, Has.of hB F1 g1, Has.of hB F2 g2, ⟨K1.1, State.isArrayOf_alike al K1.2.1, K1.2.2, by rcases hcod with ⟨-, q, -⟩ | ⟨-, q, -⟩ <;> omega⟩, hcod, fun j hj => by
    have e : cs.getD j 0 = cs[j] := by simp [List.getD_eq_getElem?_getD, hj]
    show ¬ cs.getD j 0 < 0 ∧ ¬ 65535 < cs.getD j 0
    rw [e]; exact hb _ (List.getElem_mem _)⟩
end StrChars.Road
namespace StrChars
open Jvm Sem ClassFile Op Lib Jvm.Stand Jvm.Free.XT Jvm.Free.ALB Jvm.Free.JM Jvm.Free
open Jvm.Lib.Cold (StaticIs)
namespace ChN
def yN : MethodName := ⟨"java/lang/String", "charAt", "(I)C"⟩
abbrev yB : ByteArray := jdk_42_method_56_code
theorem d0 : decode yB 0 = .ok (.aload_n 0, 1) := by decide +kernel
theorem d1 : decode yB 1 = .ok (.invokevirtual 492, 3) := by decide +kernel
theorem d4 : decode yB 4 = .ok (.ifCond (.eq) 12, 3) := by decide +kernel
theorem d7 : decode yB 7 = .ok (.aload_n 0, 1) := by decide +kernel
theorem d8 : decode yB 8 = .ok (.getfield 9, 3) := by decide +kernel
theorem d11 : decode yB 11 = .ok (.iload_n 1, 1) := by decide +kernel
theorem d12 : decode yB 12 = .ok (.invokestatic 495, 3) := by decide +kernel
theorem d15 : decode yB 15 = .ok (.ireturn, 1) := by decide +kernel
def site : List Cond := [.fieldLink "java/lang/String" 9 "java/lang/String" "value" "[B", IsL.tab, LChA.tab] ++ virtW "java/lang/String" 492 "java/lang/String" IsL.yN IsL.yN ++ staticW "java/lang/String" 495 LChA.yN
def tab : Cond := tabOf yN yB 2 (some .char) site
def P (x t : Addr) (V : Cell) (n : Nat) (f : Nat → Int32) (z : Int32) (fm : Value) (i : Nat) (args : Array Value) (s : State) : Prop := args = #[.ref x, .int (Int32.ofNat i)] ∧ Txt x t V 0 n f s ∧ i < n ∧ StaticIs s "java/lang/String" "COMPACT_STRINGS" "Z" (.int z) ∧ ¬ z = 0 ∧ StaticIs s "jdk/internal/util/Preconditions" "SIOOBE_FORMATTER" "Ljava/util/function/BiFunction;" fm ∧ fm.isRef = true
def E (f : Nat → Int32) (i : Nat) (r : Option Value) (s u : State) : Prop := XT.PureE (some (.int (f i))) r s u
/-- charAt(i) of a Latin-1 String of n chars, i < n: f i -/
theorem law (l : Launch) (x t : Addr) (V : Cell) (n : Nat) (f : Nat → Int32) (z : Int32) (fm : Value) (i : Nat) : Law l yN 2 1 3 40 yB 2 (some .char) site (P x t V n f z fm i) (E f i) [] 0 0 := by
  refine Law.of_walk (plainFor_of_name (by decide +kernel)) (by decide +kernel) (by decide +kernel) (by decide) (fun _ _ h => by rw [h.1]; rfl) (fun _ U U' hal hh h => ⟨h.1, h.2.1.mv hal hh, h.2.2.1, h.2.2.2.1.there hal hh, h.2.2.2.2.1, h.2.2.2.2.2.1.there hal hh, h.2.2.2.2.2.2⟩) (fun r U U' V V' h1 hal h2 h => XT.PureE.mv r U U' V V' h1 hal h2 h) ?_
  intro p e s m args below meth c s₁ X0 hexec hbytes hml hret hlk hnm hown hh0 W hP
  obtain ⟨rfl, hx, hi, s1, hz, s3, rf⟩ := hP
  have v31 := hx.2.2.2.1.2.2.2
  have hr := hx.2.2.2.2.2 i hi
  have hx0 := hx.mv X0.warmed.alike hh0
  have c1 : Steps p.tables e below (s₁.setTop (entryFrame m #[.ref x, .int (Int32.ofNat i)] 2)) (s₁.setTop (mkF m 1 #[.val (.ref x), .val (.int (Int32.ofNat i))] [.ref x])) := Steps.trans (entry rfl) (by
    show Steps p.tables e below (s₁.setTop (mkF m 0 #[.val (.ref x), .val (.int (Int32.ofNat i))] [])) _
    refine XS.aloadN X0.here hexec rfl (hb hbytes d0) rfl rfl ?_
    exact Steps.refl _)
  obtain ⟨v2, T2, X2, E2, g2⟩ := X0.callV hexec (IsL.law l x 0 z) hown (wks W (virtW "java/lang/String" 492 "java/lang/String" IsL.yN IsL.yN)) rfl (by decide) (wk W IsL.tab) (W := 0) (Nat.le_of_ble_eq_true rfl) (Nat.le_of_ble_eq_true rfl) (Nat.le_refl _) (Nat.le_refl _) (hx0.1.fc X0.warmed.alike) hx0.1.is (g := (mkF m 1 #[.val (.ref x), .val (.int (Int32.ofNat i))] [.ref x])) rfl (by rw [hml]; rfl) c1 (argsL := []) (rest := []) rfl rfl (by show 2 * 0 + 0 ≤ _; decide) (hb hbytes d1) (⟨rfl, hx0.2.2.1, hx.2.2.2.2.1.cd, s1.there X0.warmed.alike hh0, hz⟩)
  obtain ⟨rfl, q2⟩ := E2
  have hh2 := q2.trans hh0
  have hx2 := hx.mv X2.warmed.alike hh2
  obtain ⟨-, k1, k2⟩ | ⟨k0, -⟩ := hx.2.2.2.2.1
  · have c3 : Steps p.tables e below (s₁.setTop (entryFrame m #[.ref x, .int (Int32.ofNat i)] 2)) (T2.setTop (mkF m 8 #[.val (.ref x), .val (.int (Int32.ofNat i))] [.ref x])) := Steps.trans g2 (by
      refine XS.ifNo X2.here hexec rfl (hb hbytes d4) rfl (i0_eq_f (by decide)) ?_
      refine XS.aloadN X2.here hexec rfl (hb hbytes d7) rfl rfl ?_
      exact Steps.refl _)
    obtain ⟨T4, X4, q4, st4⟩ := X2.hget hexec hown (wk W (.fieldLink "java/lang/String" 9 "java/lang/String" "value" "[B")) hx2.2.1 (g := (mkF m 8 #[.val (.ref x), .val (.int (Int32.ofNat i))] [.ref x])) rfl (rest := []) rfl (hb hbytes d8)
    have hh4 := q4.trans hh2
    have c5 : Steps p.tables e below (s₁.setTop (entryFrame m #[.ref x, .int (Int32.ofNat i)] 2)) (T4.setTop (mkF m 12 #[.val (.ref x), .val (.int (Int32.ofNat i))] [.int (Int32.ofNat i), .ref t])) := (c3.trans (st4 _ (Steps.refl _))).trans (by
      refine XS.iloadN X4.here hexec rfl (hb hbytes d11) rfl ?_
      exact Steps.refl _)
    obtain ⟨v6, T6, X6, E6, g6⟩ := X4.callS hexec (LChA.law l t V i (lo8 (f i)) fm) hown (wks W (staticW "java/lang/String" 495 LChA.yN)) (wk W LChA.tab) (W := 0) (Nat.le_of_ble_eq_true rfl) (Nat.le_of_ble_eq_true rfl) (Nat.le_refl _) (Nat.le_refl _) (g := (mkF m 12 #[.val (.ref x), .val (.int (Int32.ofNat i))] [.int (Int32.ofNat i), .ref t])) rfl (by rw [hml]; rfl) c5 (argsL := [.ref t, .int (Int32.ofNat i)]) (rest := []) rfl rfl (by show 2 * 0 + 0 ≤ _; decide) (hb hbytes d12) (⟨rfl, hx.2.2.2.1.mv X4.warmed.alike hh4, (k2 i hi).1, s3.there X4.warmed.alike hh4, rf⟩)
    obtain ⟨rfl, q6⟩ := E6
    rw [chr8_lo8 hr.1 (k2 i hi).2] at g6
    exact ⟨T6, some (.int (f i)), _, _, _, X6, rfl, rfl, rfl, (fun h => by cases h), ⟨rfl, q6.trans hh4⟩, fun fs hl => Steps.trans g6 (X6.ireturnOut hexec hret (narrow_ch hr.1 hr.2) (Or.inr (Or.inr (Or.inr (Or.inl rfl)))) (hb hbytes d15) hl)⟩
  · exact absurd k0 (by decide)
theorem pays {l : Launch} {R : Room} {p : Program} {e : Env} {below : List Frame} {s : State} {sargs : Array Value} {len W : Nat} (x t : Addr) (V : Cell) (n : Nat) (f : Nat → Int32) (z : Int32) (fm : Value) (i : Nat) (htab : tab.before sargs s = true) (hfr : 4 ≤ R.frames) (hlo : W + 53 ≤ R.locals) :
    Back l R p e below s sargs yN len W (fun A₁ a₁ => A₁.cells + 0 ≤ R.cells ∧ A₁.slots + 0 ≤ R.slots ∧ P x t V n f z fm i a₁ A₁.U) (fun A₁ _ v₁ B₁ => E f i v₁ A₁.U B₁.U ∧ B₁.locs = A₁.locs ++ [] ∧ B₁.cells = A₁.cells + 0 ∧ B₁.slots = A₁.slots + 0) :=
  (law l x t V n f z fm i).pays htab hfr (by omega)
end ChN
end StrChars
namespace StrChars.Road
open Jvm Sem ClassFile Op Lib Jvm.Stand Jvm.Free Jvm.Free.XT
open Jvm.Lib.Cold (StaticIs)
/-- the words of String.charAt(int), the Latin-1 road alone -/
abbrev wordsChN : List Jvm.Cond := [.code ChN.yN ChN.yB 2 (some .char), .initialized ST, .fieldLink ST 9 ST "value" "[B", .fieldLink ST 38 ST "COMPACT_STRINGS" "Z", .fieldLink ST 15 ST "coder" "B", .code IsL.yN IsL.yB 1 (some .boolean), .methodLink ST 492 IsL.yN, .declares IsL.yN, .selects ST IsL.yN IsL.yN, .instanceMethod IsL.yN,
  .methodLink ST 495 LChA.yN, .static LChA.yN, .code LChA.yN LChA.yB 2 (some .char), .initialized "java/lang/StringLatin1", .methodLink "java/lang/StringLatin1" 9 JO.Str_checkIndex.yN, .static JO.Str_checkIndex.yN, .code JO.Str_checkIndex.yN JO.Str_checkIndex.yB 2 none,
  .fieldLink ST 1053 "jdk/internal/util/Preconditions" "SIOOBE_FORMATTER" "Ljava/util/function/BiFunction;", .methodLink ST 1059 JC.PreCheck.yN, .static JC.PreCheck.yN, .code JC.PreCheck.yN JC.PreCheck.yB 3 (some .int), .initialized "jdk/internal/util/Preconditions"]
theorem tabChN_of {a : Array Value} {s : State} (h : ∀ w ∈ wordsChN, w.before a s = true) : ChN.tab.before a s = true := by
  have hp : JC.PreCheck.tab.before a s = true := unparts (wk h (.code JC.PreCheck.yN JC.PreCheck.yB 3 (some .int))) (wks h (.initialized JC.PreCheck.yN.cls :: JC.PreCheck.site))
  have qk := consq hp h
  have hk : JO.Str_checkIndex.tab.before a s = true := unparts (wk qk (.code JO.Str_checkIndex.yN JO.Str_checkIndex.yB 2 none)) (wks qk (.initialized JO.Str_checkIndex.yN.cls :: JO.Str_checkIndex.site))
  have ql := consq hk h
  have hl : LChA.tab.before a s = true := unparts (wk ql (.code LChA.yN LChA.yB 2 (some .char))) (wks ql (.initialized LChA.yN.cls :: LChA.site))
  have hi : IsL.tab.before a s = true := unparts (wk h (.code IsL.yN IsL.yB 1 (some .boolean))) (wks h (.initialized IsL.yN.cls :: IsL.site))
  have q := consq hi (consq hl h)
  exact unparts (wk q (.code ChN.yN ChN.yB 2 (some .char))) (wks q (.initialized ChN.yN.cls :: ChN.site))
theorem movedChN {Z s : State} {a0 args : Array Value} (hZ : Z.Warmed39 s.vm) (hw : ∀ d ∈ wordsChN, d.before a0 Z = true) : ∀ d ∈ wordsChN, d.before args s = true := fun d hd => by
  have t : ∀ d ∈ wordsChN, (d.onTables && d.keepsFace) = true := by decide +kernel
  exact RoadKit.mv hZ (hw d hd) (t d hd)
/-- **charAt(i) OF A LATIN-1 STRING**, i < n: the char -/
theorem chN {p : Program} {l : Launch} {e : Env} {R : Room} {s : State} {args : Array Value} {below : List Frame} {len W : Nat} {Z : State} {a0 : Array Value} {h : Heap} (hZ : Z.Warmed39 s.vm) (hw : ∀ d ∈ wordsChN, d.before a0 Z = true) {kI : Nat} (wi : (Jvm.Cond.instantiable ST kI).before a0 Z = true)
    {x t : Addr} {kb : ClassId} {cs : List Int32} {N2 z : Int32} {vs : List Value} {fm : Value} {i : Nat} {j : Int32} (E : RoadKit.Exa Z h x ST) (V : RoadKit.Fld Z h x ST "value" "[B" (.ref t)) (C : RoadKit.Fld Z h x ST "coder" "B" (.int 0)) (K : RoadKit.Arv Z h t kb .byte N2 vs (.int 0)) (hc : CodA cs 0 N2 vs) (hb : ∀ c ∈ cs, ¬ c < 0 ∧ ¬ (65535 : Int32) < c)
    (S : RoadKit.Sta Z h ST "COMPACT_STRINGS" "Z" (.int z)) (hz : ¬ z = 0) (F : RoadKit.Sta Z h "jdk/internal/util/Preconditions" "SIOOBE_FORMATTER" "Ljava/util/function/BiFunction;" fm) (rf : fm.isRef = true) (l2 : cs.length ≤ 4000) (hi : i < cs.length) (hj : j = Int32.ofNat i) (hfr : 4 ≤ R.frames) (hlo : W + 53 ≤ R.locals) :
    Back l R p e below s args (⟨"java/lang/String", "charAt", "(I)C"⟩ : MethodName) len W (fun P a => a = #[.ref x, .int j] ∧ P.U.heap = h ∧ P.cells + 0 ≤ R.cells ∧ P.slots + 0 ≤ R.slots)
      (fun P _ v B => ∃ L, (v = some (.int (cs.getD i 0)) ∧ L = [] ∧ B.U.heap = h) ∧ B.locs = P.locs ++ L ∧ B.cells = P.cells + 0 ∧ B.slots = P.slots + 0) := by
  subst hj
  intro m meth c P g ig mk a X hg hsize hdg hW hn hp'
  obtain ⟨rfl, rfl, r1, r2⟩ := hp'
  have al : Z.vm.Alike P.U.vm := hZ.alike.trans X.warmed.alike
  obtain ⟨A, hx⟩ := txt_of wi al E V C K hc hb l2
  obtain ⟨v, B, X', ⟨⟨hv, hh⟩, hl, hk, hs⟩, st⟩ := ChN.pays x t A cs.length (fun j => cs.getD j 0) z fm i (tabChN_of (movedChN hZ hw)) hfr hlo m meth c P g ig mk _ X hg hsize hdg hW hn ⟨r1, r2, rfl, hx, hi, sta_is al S, hz, sta_is al F, rf⟩
  exact ⟨v, B, X', ⟨[], ⟨hv, rfl, hh⟩, hl, hk, hs⟩, st⟩
/-- what backV says of its String, as the contracts of this text ask it: cs's low bytes, coder 0 -/
theorem codOf {cs : List Int32} {n : Nat} (hn : cs.length = n) (hb : ∀ c ∈ cs, ¬ 255 < c) : CodA cs 0 (Int32.ofNat n) ((cs.map lo8).map Value.int) := Or.inl ⟨rfl, by rw [hn], by simp [List.map_map, Function.comp_def], hb⟩
end StrChars.Road
end Jvm.Pilot.@@N@@
namespace Jvm.Pilot.@@N@@
open Jvm Jvm.ClassFile Sem Op Lib Jvm.Free Jvm.Stand Jvm.LawKit Jvm.RoadKit Bundle Jvm.Pilot.@@N@@.Jvm.D
/-! ints of small ranges -/
theorem ofRange {x : Int32} {n : Nat} (h0 : 0 ≤ x.toInt) (h1 : x.toInt < n) (hn : n ≤ 2147483648) : ∃ j : Fin n, x = Int32.ofNat j.val := by
  refine ⟨⟨x.toInt.toNat, by omega⟩, Int32.toInt_inj.mp ?_⟩
  rw [Int32.toInt_ofNat_of_lt (by show x.toInt.toNat < _; omega)]
  show x.toInt = (x.toInt.toNat : Int)
  omega
theorem andB (x m : Int32) (hm : 0 ≤ m.toInt) : 0 ≤ (x &&& m).toInt ∧ (x &&& m).toInt ≤ m.toInt := by
  have h1 : (x &&& m).toBitVec.toNat ≤ m.toBitVec.toNat := by
    simp only [Int32.toBitVec_and, BitVec.toNat_and]; exact Nat.and_le_right
  have h2 : m.toBitVec.toNat < 2 ^ 32 := m.toBitVec.isLt
  have e1 : m.toInt = m.toBitVec.toInt := rfl
  have e2 : (x &&& m).toInt = (x &&& m).toBitVec.toInt := rfl
  rw [BitVec.toInt_eq_toNat_cond] at e1 e2
  split at e1 <;> split at e2 <;> omega
/-- x & (2^k - 1) is one of 2^k numbers -/
theorem andR (x m : Int32) {n : Nat} (hm : m.toInt + 1 = n) (hn : 0 < n) : ∃ j : Fin n, x &&& m = Int32.ofNat j.val := by
  have h := andB x m (by omega)
  have := Int32.toInt_lt m
  exact ofRange h.1 (by omega) (by omega)
/-- (x & 0x7fffffff) % c is one of c numbers -/
theorem modR (x c : Int32) {n : Nat} (hc : c.toInt = n) (hn : 0 < n) : ∃ j : Fin n, (x &&& (2147483647 : Int32)) % c = Int32.ofNat j.val := by
  have h := andB x (2147483647 : Int32) (by decide)
  have e : ((x &&& (2147483647 : Int32)) % c).toInt = (x &&& (2147483647 : Int32)).toInt.tmod c.toInt := Int32.toInt_mod _ _
  have hp : (0 : Int) < c.toInt := by omega
  have h1 := Int.tmod_nonneg c.toInt h.1
  have h2 := Int.tmod_lt_of_pos (x &&& (2147483647 : Int32)).toInt hp
  have := Int32.toInt_lt c
  exact ofRange (by rw [e]; exact h1) (by rw [e]; omega) (by omega)
/-- a number of 0 to n-1 modulo c -/
theorem ofNat_lt {i n : Nat} (h : i < n) (hn : n ≤ 4000) : Int32.ofNat i < Int32.ofNat n := by
  rw [Int32.lt_iff_toInt_lt, Int32.toInt_ofNat_of_lt (by omega), Int32.toInt_ofNat_of_lt (by omega)]; omega
theorem ofNat_succ (i : Nat) : Int32.ofNat i + (1 : Int32) = Int32.ofNat (i + 1) := by
  apply Int32.toBitVec_inj.mp
  show BitVec.ofNat 32 i + BitVec.ofNat 32 1 = BitVec.ofNat 32 (i + 1)
  rw [BitVec.ofNat_add]
/-! the walk, its state bundled: one proposition carries the Stand (re-based behind a load that may intern), the heap, the tables' growth, and the steps from the start -/
section WkKit
variable {p : Program} {l : Launch} {e : Env} {R : Room} {s : State} {m : MethodId} {args : Array Value} {below : List Frame} {meth : Method} {c : Code} {Z : State} {a0 : Array Value} {EL : List (String × Nat)} {own : String} {B : ByteArray} {mx : Nat} {s₁ : State} {g0 g g' : JFrame} {h h' : Heap} {cells slots pc q : Nat} {sf : List Addr} {Ls Ls' : Array Slot} {st rest : List Value} {x y z : Int32} {v w : Value} {a b : Addr}
def Wk (p : Program) (l : Launch) (e : Env) (R : Room) (s : State) (m : MethodId) (args : Array Value) (below : List Frame) (meth : Method) (c : Code) (Z : State) (EL : List (String × Nat)) (own : String) (B : ByteArray) (mx : Nat) (s₁ : State) (g0 g : JFrame) (h : Heap) (cells slots : Nat) (sf : List Addr) : Prop :=
  p.tables.exec = Jvm.exec ∧ c.code = B ∧ c.maxLocals = mx ∧ ∃ (T : State) (vm : Vm) (locs : List Loc) (k : Nat),
    Stand p l e R (s.setVm vm) m args below meth c T locs cells slots ∧ T.heap = h ∧ Z.Warmed39 vm ∧ vm.findClass own = some m.cls ∧ s.Since vm k ∧ k ≤ h.size ∧ CHr Z EL s.vm s.heap vm h ∧ Ext Z.heap h ∧ Fr Z.heap.size locs ∧ (∀ x ∈ sf, x < h.size ∧ Safe Z EL vm h x) ∧ Steps p.tables e below (s₁.setTop g0) (T.setTop g)
/-- what a walk owes at its end -/
def Dn (p : Program) (e : Env) (below : List Frame) (s s₁ : State) (g0 : JFrame) (Z : State) (EL : List (String × Nat)) (R : Room) (Q : Option Value → Heap → Prop) : Prop :=
  ∃ s₂ o, Steps p.tables e below (s₁.setTop g0) s₂ ∧ s₂.status = .running ∧ Ended s₂ below o ∧ ∃ v L, o = .returned v ∧ (Q v s₂.heap ∧ Fr Z.heap.size L ∧ Ext Z.heap s₂.heap) ∧ CHr Z EL s.vm s.heap s₂.vm s₂.heap ∧ ReturnedEndW s o s₂ L R.cells R.slots
/-- a method's contract: called with as' over the heap hp it comes back, and Q holds of what it answers and of the heap -/
def Ctr (l : Launch) (Z : State) (EL : List (String × Nat)) (y : MethodName) (bytes : ByteArray) (maxL : Nat) (ret : Option FieldType) (ws : List Jvm.Cond) (rm : Room) (as' : Array Value) (hp : Heap) (sf0 : List Addr) (Q : Option Value → Heap → Prop) : Prop :=
  MetFree l y (head1 (Jvm.Cond.code y bytes maxL ret :: ws) rm) (fun a U => a = as' ∧ Z.Warmed39 U.vm ∧ U.heap = hp ∧ CHv Z EL U.vm hp ∧ ∀ x ∈ sf0, x < hp.size ∧ Safe Z EL U.vm hp x) (fun _ _ _ _ _ => True)
    (fun _ U o U' => ∃ v L, o = .returned v ∧ (Q v U'.heap ∧ Fr Z.heap.size L ∧ Ext Z.heap U'.heap) ∧ CHr Z EL U.vm U.heap U'.vm U'.heap ∧ ReturnedEndW U o U' L rm.cells rm.slots)
theorem Ctr.of {y : MethodName} {bytes : ByteArray} {maxL : Nat} {ret : Option FieldType} {ws : List Jvm.Cond} {rm : Room} {as' : Array Value} {hp : Heap} {sf0 : List Addr} {Q : Option Value → Heap → Prop} (hpn : plainName y.cls = true) (O : Ext Z.heap hp)
    (body : ∀ p e s m below meth c s₁, meth.sig.returnType = ret → meth.locks = false → meth.name = y.name → Wk p l e rm s m as' below meth c Z EL y.cls bytes maxL s₁ (entryFrame m as' maxL) (entryFrame m as' maxL) hp 0 0 sf0 → Dn p e below s s₁ (entryFrame m as' maxL) Z EL rm Q) :
    Ctr l Z EL y bytes maxL ret ws rm as' hp sf0 Q := by
  refine MetFree.of_bodySF (plainFor_of_name hpn) hisR ?_
  intro p e s m args below meth c s₁ Bd hml0 hP hK
  obtain ⟨hargs, hZ, hh, hH, hS0⟩ := hP
  subst hargs
  have X0 : Stand p l e rm s m args below meth c s₁ [] 0 0 := Stand.of_body Bd
  have e0 : s₁.heap = hp := by rw [← hh, Bd.state]; rfl
  have C0 : CHr Z EL s.vm s.heap s.vm hp := by rw [hh]; exact CHr.refl hH
  exact body p e s m below meth c s₁ Bd.returns Bd.notSynchronized (name_of_methodNamed Bd.named Bd.method).1 ⟨Bd.exec, Bd.bytes, hml0, s₁, s.vm, [], 0, X0, e0, hZ, findClass_of_methodNamed Bd.named, (State.WarmedH.refl s).since 0, Nat.zero_le _, C0, O, Fr.nil _, hS0, Steps.refl _⟩
theorem Wk.go (X : Wk p l e R s m args below meth c Z EL own B mx s₁ g0 g h cells slots sf)
    (f : p.tables.exec = Jvm.exec → c.code = B → ∀ T, At T m c below → ∀ t, Steps p.tables e below (T.setTop g') t → Steps p.tables e below (T.setTop g) t) :
    Wk p l e R s m args below meth c Z EL own B mx s₁ g0 g' h cells slots sf := by
  obtain ⟨hx, hB, hm, T, vm, locs, k, X, r1, r2, r3, r4, r5, r6, r7, r8, r9, st⟩ := X
  exact ⟨hx, hB, hm, T, vm, locs, k, X, r1, r2, r3, r4, r5, r6, r7, r8, r9, st.trans (f hx hB T X.here _ (Steps.refl _))⟩
theorem Wk.cast (X : Wk p l e R s m args below meth c Z EL own B mx s₁ g0 g h cells slots sf) (hg : g = g') : Wk p l e R s m args below meth c Z EL own B mx s₁ g0 g' h cells slots sf := hg ▸ X
theorem Wk.more {cells' slots' : Nat} (X : Wk p l e R s m args below meth c Z EL own B mx s₁ g0 g h cells slots sf) (hc : cells ≤ cells') (hs : slots ≤ slots') : Wk p l e R s m args below meth c Z EL own B mx s₁ g0 g h cells' slots' sf := by
  obtain ⟨hx, hB, hm, T, vm, locs, k, X, r⟩ := X
  exact ⟨hx, hB, hm, T, vm, locs, k, X.more hc hs, r⟩
theorem Wk.drop {sf' : List Addr} (X : Wk p l e R s m args below meth c Z EL own B mx s₁ g0 g h cells slots sf) (hs : ∀ x ∈ sf', x ∈ sf) : Wk p l e R s m args below meth c Z EL own B mx s₁ g0 g h cells slots sf' := by
  obtain ⟨hx, hB, hm, T, vm, locs, k, X, r1, r2, r3, r4, r5, r6, r7, r8, r9, st⟩ := X
  exact ⟨hx, hB, hm, T, vm, locs, k, X, r1, r2, r3, r4, r5, r6, r7, r8, fun x q => r9 x (hs x q), st⟩
theorem Wk.old (X : Wk p l e R s m args below meth c Z EL own B mx s₁ g0 g h cells slots sf) : Ext Z.heap h := by
  obtain ⟨hx, hB, hm, T, vm, locs, k, X, r1, r2, r3, r4, r5, r6, r7, r8, r9, st⟩ := X
  exact r7
theorem cat_of_ref {v : Value} (h : v.isRef = true) : v.category = 1 := by cases v <;> first | rfl | cases h
/-! plain steps -/
theorem Wk.aload_n (X : Wk p l e R s m args below meth c Z EL own B mx s₁ g0 (mkF m pc Ls st) h cells slots sf) {k : Fin 4} (d : decode B pc = .ok (.aload_n k, 1)) (hl : Ls[k.val]? = some (.val v)) (hv : v.isRef = true) (hq : pc + 1 = q) : Wk p l e R s m args below meth c Z EL own B mx s₁ g0 (mkF m q Ls (v :: st)) h cells slots sf := by
  subst hq; exact X.go fun hx hB T A t r => XS.aloadN A hx rfl (hb hB d) hl hv r
theorem Wk.aload (X : Wk p l e R s m args below meth c Z EL own B mx s₁ g0 (mkF m pc Ls st) h cells slots sf) {k : Nat} (d : decode B pc = .ok (.aload k, 2)) (hl : Ls[k]? = some (.val v)) (hv : v.isRef = true) (hq : pc + 2 = q) : Wk p l e R s m args below meth c Z EL own B mx s₁ g0 (mkF m q Ls (v :: st)) h cells slots sf := by
  subst hq; exact X.go fun hx hB T A t r => XS.aload A hx rfl (hb hB d) hl hv r
theorem Wk.iload_n (X : Wk p l e R s m args below meth c Z EL own B mx s₁ g0 (mkF m pc Ls st) h cells slots sf) {k : Fin 4} (d : decode B pc = .ok (.iload_n k, 1)) (hl : Ls[k.val]? = some (.val (.int x))) (hq : pc + 1 = q) : Wk p l e R s m args below meth c Z EL own B mx s₁ g0 (mkF m q Ls (.int x :: st)) h cells slots sf := by
  subst hq; exact X.go fun hx hB T A t r => XS.iloadN A hx rfl (hb hB d) hl r
theorem Wk.iload (X : Wk p l e R s m args below meth c Z EL own B mx s₁ g0 (mkF m pc Ls st) h cells slots sf) {k : Nat} (d : decode B pc = .ok (.iload k, 2)) (hl : Ls[k]? = some (.val (.int x))) (hq : pc + 2 = q) : Wk p l e R s m args below meth c Z EL own B mx s₁ g0 (mkF m q Ls (.int x :: st)) h cells slots sf := by
  subst hq; exact X.go fun hx hB T A t r => XS.iload A hx rfl (hb hB d) hl r
theorem Wk.iconst (X : Wk p l e R s m args below meth c Z EL own B mx s₁ g0 (mkF m pc Ls st) h cells slots sf) {i : Int} (d : decode B pc = .ok (.iconst i, 1)) (hz : Int32.ofInt i = z) (hq : pc + 1 = q) : Wk p l e R s m args below meth c Z EL own B mx s₁ g0 (mkF m q Ls (.int z :: st)) h cells slots sf := by
  subst hq hz; exact X.go fun hx hB T A t r => XS.iconst A hx rfl (hb hB d) r
theorem Wk.bipush (X : Wk p l e R s m args below meth c Z EL own B mx s₁ g0 (mkF m pc Ls st) h cells slots sf) {i : Int} (d : decode B pc = .ok (.bipush i, 2)) (hz : (Int8.ofInt i).toInt32 = z) (hq : pc + 2 = q) : Wk p l e R s m args below meth c Z EL own B mx s₁ g0 (mkF m q Ls (.int z :: st)) h cells slots sf := by
  subst hq hz; exact X.go fun hx hB T A t r => XS.bipush A hx rfl (hb hB d) r
theorem Wk.sipush (X : Wk p l e R s m args below meth c Z EL own B mx s₁ g0 (mkF m pc Ls st) h cells slots sf) {i : Int} (d : decode B pc = .ok (.sipush i, 3)) (hz : (Int16.ofInt i).toInt32 = z) (hq : pc + 3 = q) : Wk p l e R s m args below meth c Z EL own B mx s₁ g0 (mkF m q Ls (.int z :: st)) h cells slots sf := by
  subst hq hz; exact X.go fun hx hB T A t r => XS.sipush A hx rfl (hb hB d) r
theorem Wk.aconst_null (X : Wk p l e R s m args below meth c Z EL own B mx s₁ g0 (mkF m pc Ls st) h cells slots sf) (d : decode B pc = .ok (.aconst_null, 1)) (hq : pc + 1 = q) : Wk p l e R s m args below meth c Z EL own B mx s₁ g0 (mkF m q Ls (.null :: st)) h cells slots sf := by
  subst hq; exact X.go fun hx hB T A t r => XS.aconstNull A hx rfl (hb hB d) r
theorem Wk.iadd (X : Wk p l e R s m args below meth c Z EL own B mx s₁ g0 (mkF m pc Ls (.int y :: .int x :: st)) h cells slots sf) (d : decode B pc = .ok (.iadd, 1)) (hz : x + y = z) (hq : pc + 1 = q) : Wk p l e R s m args below meth c Z EL own B mx s₁ g0 (mkF m q Ls (.int z :: st)) h cells slots sf := by
  subst hq hz; exact X.go fun hx hB T A t r => XS.iadd A hx rfl (hb hB d) rfl r
theorem Wk.isub (X : Wk p l e R s m args below meth c Z EL own B mx s₁ g0 (mkF m pc Ls (.int y :: .int x :: st)) h cells slots sf) (d : decode B pc = .ok (.isub, 1)) (hz : x - y = z) (hq : pc + 1 = q) : Wk p l e R s m args below meth c Z EL own B mx s₁ g0 (mkF m q Ls (.int z :: st)) h cells slots sf := by
  subst hq hz; exact X.go fun hx hB T A t r => XS.isub A hx rfl (hb hB d) rfl r
theorem Wk.iand (X : Wk p l e R s m args below meth c Z EL own B mx s₁ g0 (mkF m pc Ls (.int y :: .int x :: st)) h cells slots sf) (d : decode B pc = .ok (.iand, 1)) (hz : x &&& y = z) (hq : pc + 1 = q) : Wk p l e R s m args below meth c Z EL own B mx s₁ g0 (mkF m q Ls (.int z :: st)) h cells slots sf := by
  subst hq hz; exact X.go fun hx hB T A t r => XS.iand A hx rfl (hb hB d) rfl r
theorem Wk.iushr (X : Wk p l e R s m args below meth c Z EL own B mx s₁ g0 (mkF m pc Ls (.int y :: .int x :: st)) h cells slots sf) (d : decode B pc = .ok (.iushr, 1)) (hz : XT.ushr x y = z) (hq : pc + 1 = q) : Wk p l e R s m args below meth c Z EL own B mx s₁ g0 (mkF m q Ls (.int z :: st)) h cells slots sf := by
  subst hq hz; exact X.go fun hx hB T A t r => XT.iushr A hx rfl (hb hB d) rfl r
theorem Wk.irem (X : Wk p l e R s m args below meth c Z EL own B mx s₁ g0 (mkF m pc Ls (.int y :: .int x :: st)) h cells slots sf) (d : decode B pc = .ok (.irem, 1)) (hy : y ≠ 0) (hz : x % y = z) (hq : pc + 1 = q) : Wk p l e R s m args below meth c Z EL own B mx s₁ g0 (mkF m q Ls (.int z :: st)) h cells slots sf := by
  subst hq hz
  have q0 : x - x / y * y = x % y := irem_eq_mod x y
  exact X.go fun hx hB T A t r => XS.irem A hx rfl (hb hB d) rfl hy (by rw [q0]; exact r)
theorem Wk.i2c (X : Wk p l e R s m args below meth c Z EL own B mx s₁ g0 (mkF m pc Ls (.int x :: st)) h cells slots sf) (d : decode B pc = .ok (.i2c, 1)) (hz : x.toUInt32.toUInt16.toUInt32.toInt32 = z) (hq : pc + 1 = q) : Wk p l e R s m args below meth c Z EL own B mx s₁ g0 (mkF m q Ls (.int z :: st)) h cells slots sf := by
  subst hq hz; exact X.go fun hx hB T A t r => XT.i2c A hx rfl (hb hB d) rfl r
theorem Wk.i2b (X : Wk p l e R s m args below meth c Z EL own B mx s₁ g0 (mkF m pc Ls (.int x :: st)) h cells slots sf) (d : decode B pc = .ok (.i2b, 1)) (hz : x.toInt8.toInt32 = z) (hq : pc + 1 = q) : Wk p l e R s m args below meth c Z EL own B mx s₁ g0 (mkF m q Ls (.int z :: st)) h cells slots sf := by
  subst hq hz; exact X.go fun hx hB T A t r => XT.i2b A hx rfl (hb hB d) rfl r
theorem Wk.dup (X : Wk p l e R s m args below meth c Z EL own B mx s₁ g0 (mkF m pc Ls (v :: st)) h cells slots sf) (d : decode B pc = .ok (.dup, 1)) (hc : v.category = 1) (hq : pc + 1 = q) : Wk p l e R s m args below meth c Z EL own B mx s₁ g0 (mkF m q Ls (v :: v :: st)) h cells slots sf := by
  subst hq; exact X.go fun hx hB T A t r => XS.dup A hx rfl (hb hB d) rfl hc r
theorem Wk.pop (X : Wk p l e R s m args below meth c Z EL own B mx s₁ g0 (mkF m pc Ls (v :: st)) h cells slots sf) (d : decode B pc = .ok (.pop, 1)) (hc : v.category = 1) (hq : pc + 1 = q) : Wk p l e R s m args below meth c Z EL own B mx s₁ g0 (mkF m q Ls st) h cells slots sf := by
  subst hq; exact X.go fun hx hB T A t r => XT.pop A hx rfl (hb hB d) rfl hc r
theorem Wk.istore_n (X : Wk p l e R s m args below meth c Z EL own B mx s₁ g0 (mkF m pc Ls (.int x :: st)) h cells slots sf) {k : Fin 4} (d : decode B pc = .ok (.istore_n k, 1)) (hl : storeLocals Ls k.val (.int x) = some Ls') (hq : pc + 1 = q) : Wk p l e R s m args below meth c Z EL own B mx s₁ g0 (mkF m q Ls' st) h cells slots sf := by
  subst hq; exact X.go fun hx hB T A t r => XS.istoreN A hx rfl (hb hB d) rfl hl r
theorem Wk.istore (X : Wk p l e R s m args below meth c Z EL own B mx s₁ g0 (mkF m pc Ls (.int x :: st)) h cells slots sf) {k : Nat} (d : decode B pc = .ok (.istore k, 2)) (hl : storeLocals Ls k (.int x) = some Ls') (hq : pc + 2 = q) : Wk p l e R s m args below meth c Z EL own B mx s₁ g0 (mkF m q Ls' st) h cells slots sf := by
  subst hq; exact X.go fun hx hB T A t r => XS.istore A hx rfl (hb hB d) rfl hl r
theorem Wk.astore_n (X : Wk p l e R s m args below meth c Z EL own B mx s₁ g0 (mkF m pc Ls (v :: st)) h cells slots sf) {k : Fin 4} (d : decode B pc = .ok (.astore_n k, 1)) (hv : v.isRef = true) (hl : storeLocals Ls k.val v = some Ls') (hq : pc + 1 = q) : Wk p l e R s m args below meth c Z EL own B mx s₁ g0 (mkF m q Ls' st) h cells slots sf := by
  subst hq; exact X.go fun hx hB T A t r => XS.astoreN A hx rfl (hb hB d) rfl hv hl r
theorem Wk.astore (X : Wk p l e R s m args below meth c Z EL own B mx s₁ g0 (mkF m pc Ls (v :: st)) h cells slots sf) {k : Nat} (d : decode B pc = .ok (.astore k, 2)) (hv : v.isRef = true) (hl : storeLocals Ls k v = some Ls') (hq : pc + 2 = q) : Wk p l e R s m args below meth c Z EL own B mx s₁ g0 (mkF m q Ls' st) h cells slots sf := by
  subst hq; exact X.go fun hx hB T A t r => XS.astore A hx rfl (hb hB d) rfl hv hl r
theorem Wk.iinc (X : Wk p l e R s m args below meth c Z EL own B mx s₁ g0 (mkF m pc Ls st) h cells slots sf) {k : Nat} {cst : Int} (d : decode B pc = .ok (.iinc k cst, 3)) (hl : Ls[k]? = some (.val (.int x))) (hz : x + Int32.ofInt cst = z) (hl' : storeLocals Ls k (.int z) = some Ls') (hq : pc + 3 = q) : Wk p l e R s m args below meth c Z EL own B mx s₁ g0 (mkF m q Ls' st) h cells slots sf := by
  subst hq hz; exact X.go fun hx hB T A t r => XS.iinc A hx rfl (hb hB d) hl hl' r
theorem Wk.goto (X : Wk p l e R s m args below meth c Z EL own B mx s₁ g0 (mkF m pc Ls st) h cells slots sf) {o : Int} (d : decode B pc = .ok (.goto o, 3)) (ho : 0 ≤ (pc : Int) + o) (hq : ((pc : Int) + o).toNat = q) : Wk p l e R s m args below meth c Z EL own B mx s₁ g0 (mkF m q Ls st) h cells slots sf :=
  X.go fun hx hB T A t r => XS.goto A hx rfl rfl (hb hB d) ho hq r
theorem Wk.ifYes (X : Wk p l e R s m args below meth c Z EL own B mx s₁ g0 (mkF m pc Ls (.int x :: st)) h cells slots sf) {cd : ClassFile.Cond} {o : Int} (d : decode B pc = .ok (.ifCond cd o, 3)) (hc : if_icmp.holds cd x 0 = true) (ho : 0 ≤ (pc : Int) + o) (hq : ((pc : Int) + o).toNat = q) : Wk p l e R s m args below meth c Z EL own B mx s₁ g0 (mkF m q Ls st) h cells slots sf :=
  X.go fun hx hB T A t r => XS.ifYes A hx rfl rfl (hb hB d) rfl ((if0 _ _).trans hc) ho hq r
theorem Wk.ifNo (X : Wk p l e R s m args below meth c Z EL own B mx s₁ g0 (mkF m pc Ls (.int x :: st)) h cells slots sf) {cd : ClassFile.Cond} {o : Int} (d : decode B pc = .ok (.ifCond cd o, 3)) (hc : if_icmp.holds cd x 0 = false) (hq : pc + 3 = q) : Wk p l e R s m args below meth c Z EL own B mx s₁ g0 (mkF m q Ls st) h cells slots sf := by
  subst hq; exact X.go fun hx hB T A t r => XS.ifNo A hx rfl (hb hB d) rfl ((if0 _ _).trans hc) r
theorem Wk.icmpYes (X : Wk p l e R s m args below meth c Z EL own B mx s₁ g0 (mkF m pc Ls (.int y :: .int x :: st)) h cells slots sf) {cd : ClassFile.Cond} {o : Int} (d : decode B pc = .ok (.if_icmp cd o, 3)) (hc : if_icmp.holds cd x y = true) (ho : 0 ≤ (pc : Int) + o) (hq : ((pc : Int) + o).toNat = q) : Wk p l e R s m args below meth c Z EL own B mx s₁ g0 (mkF m q Ls st) h cells slots sf :=
  X.go fun hx hB T A t r => XS.icmpYes A hx rfl rfl (hb hB d) rfl hc ho hq r
theorem Wk.icmpNo (X : Wk p l e R s m args below meth c Z EL own B mx s₁ g0 (mkF m pc Ls (.int y :: .int x :: st)) h cells slots sf) {cd : ClassFile.Cond} {o : Int} (d : decode B pc = .ok (.if_icmp cd o, 3)) (hc : if_icmp.holds cd x y = false) (hq : pc + 3 = q) : Wk p l e R s m args below meth c Z EL own B mx s₁ g0 (mkF m q Ls st) h cells slots sf := by
  subst hq; exact X.go fun hx hB T A t r => XS.icmpNo A hx rfl (hb hB d) rfl hc r
theorem Wk.ifnullYes (X : Wk p l e R s m args below meth c Z EL own B mx s₁ g0 (mkF m pc Ls (.null :: st)) h cells slots sf) {o : Int} (d : decode B pc = .ok (.ifnull o, 3)) (ho : 0 ≤ (pc : Int) + o) (hq : ((pc : Int) + o).toNat = q) : Wk p l e R s m args below meth c Z EL own B mx s₁ g0 (mkF m q Ls st) h cells slots sf :=
  X.go fun hx hB T A t r => XS.ifnullYes A hx rfl rfl (hb hB d) rfl ho hq r
theorem Wk.ifnullNo (X : Wk p l e R s m args below meth c Z EL own B mx s₁ g0 (mkF m pc Ls (.ref a :: st)) h cells slots sf) {o : Int} (d : decode B pc = .ok (.ifnull o, 3)) (hq : pc + 3 = q) : Wk p l e R s m args below meth c Z EL own B mx s₁ g0 (mkF m q Ls st) h cells slots sf := by
  subst hq; exact X.go fun hx hB T A t r => XS.ifnullNo A hx rfl (hb hB d) rfl r
theorem Wk.ifnonnullYes (X : Wk p l e R s m args below meth c Z EL own B mx s₁ g0 (mkF m pc Ls (.ref a :: st)) h cells slots sf) {o : Int} (d : decode B pc = .ok (.ifnonnull o, 3)) (ho : 0 ≤ (pc : Int) + o) (hq : ((pc : Int) + o).toNat = q) : Wk p l e R s m args below meth c Z EL own B mx s₁ g0 (mkF m q Ls st) h cells slots sf :=
  X.go fun hx hB T A t r => XT.ifnonnullYes A hx rfl rfl (hb hB d) rfl ho hq r
theorem Wk.ifnonnullNo (X : Wk p l e R s m args below meth c Z EL own B mx s₁ g0 (mkF m pc Ls (.null :: st)) h cells slots sf) {o : Int} (d : decode B pc = .ok (.ifnonnull o, 3)) (hq : pc + 3 = q) : Wk p l e R s m args below meth c Z EL own B mx s₁ g0 (mkF m q Ls st) h cells slots sf := by
  subst hq; exact X.go fun hx hB T A t r => XT.ifnonnullNo A hx rfl (hb hB d) rfl r
theorem Wk.acmpYes (X : Wk p l e R s m args below meth c Z EL own B mx s₁ g0 (mkF m pc Ls (w :: v :: st)) h cells slots sf) {cd : ClassFile.ACond} {o : Int} (d : decode B pc = .ok (.if_acmp cd o, 3)) (hv : v.isRef = true) (hw : w.isRef = true) (hc : XT.acmp cd v w = true) (ho : 0 ≤ (pc : Int) + o) (hq : ((pc : Int) + o).toNat = q) : Wk p l e R s m args below meth c Z EL own B mx s₁ g0 (mkF m q Ls st) h cells slots sf :=
  X.go fun hx hB T A t r => XT.acmpYes A hx rfl rfl (hb hB d) rfl hv hw hc ho hq r
theorem Wk.acmpNo (X : Wk p l e R s m args below meth c Z EL own B mx s₁ g0 (mkF m pc Ls (w :: v :: st)) h cells slots sf) {cd : ClassFile.ACond} {o : Int} (d : decode B pc = .ok (.if_acmp cd o, 3)) (hv : v.isRef = true) (hw : w.isRef = true) (hc : XT.acmp cd v w = false) (hq : pc + 3 = q) : Wk p l e R s m args below meth c Z EL own B mx s₁ g0 (mkF m q Ls st) h cells slots sf := by
  subst hq; exact X.go fun hx hB T A t r => XT.acmpNo A hx rfl (hb hB d) rfl hv hw hc r
/-! the end of a walk -/
theorem Wk.leave {Q : Option Value → Heap → Prop} (X : Wk p l e R s m args below meth c Z EL own B mx s₁ g0 g h cells slots sf) (hEL : EW Z a0 EL) {v : Option Value} (hv : meth.sig.returnType = none → v = none) (hlk : meth.locks = false) (hc : cells ≤ R.cells) (hs : slots ≤ R.slots) (hQ : Q v h)
    (fin : p.tables.exec = Jvm.exec → c.code = B → ∀ (vm : Vm) (T : State) (locs : List Loc), Stand p l e R (s.setVm vm) m args below meth c T locs R.cells R.slots → ∀ fs, (∀ (f : JFrame) (acts : List Action), f.method = m → f.locked = none → f.entered = [] → (doReturn e (T.setTop f) acts v).1 = T.setFrames fs) → Steps p.tables e below (T.setTop g) (T.setFrames fs)) :
    Dn p e below s s₁ g0 Z EL R Q := by
  obtain ⟨hx, hB, hm, T, vm, locs, k, X, eT, hZ, ho, hS, hk, hC, hO, hF, hsf, st⟩ := X
  have X' := X.more hc hs
  obtain ⟨fs, hr, hrun, hended, hE⟩ := X'.leaveW hS (by rw [eT]; exact hk) hv hlk
  refine ⟨_, _, st.trans (fin hx hB vm T locs X' fs hr), hrun, hended, v, locs, rfl, ⟨?_, hF, ?_⟩, ?_, hE⟩
  · show Q v T.heap
    rw [eT]; exact hQ
  · show Ext Z.heap T.heap
    rw [eT]; exact hO
  · show CHr Z EL s.vm s.heap T.vm T.heap
    rw [eT]; exact hC.trans (CHv.at X hZ hEL hC.1)
theorem Wk.ret {Q : Option Value → Heap → Prop} (X : Wk p l e R s m args below meth c Z EL own B mx s₁ g0 (mkF m pc Ls []) h cells slots sf) (hEL : EW Z a0 EL) (hr : meth.sig.returnType = none) (hlk : meth.locks = false) (d : decode B pc = .ok (.return_, 1)) (hc : cells ≤ R.cells) (hs : slots ≤ R.slots) (hQ : Q none h) : Dn p e below s s₁ g0 Z EL R Q :=
  X.leave hEL (fun _ => rfl) hlk hc hs hQ fun hx hB vm T locs X fs hl => X.returnOut hx hr (hb hB d) hl
theorem retOut' {T : State} {locs : List Loc} (X : Stand p l e R s m args below meth c T locs cells slots) (hx : p.tables.exec = Jvm.exec) {t : FieldType} {i : Instr} (hret : meth.sig.returnType = some t) (hn : narrow t w = w)
    (hi : (i = .ireturn ∧ (t = .int ∨ t = .boolean ∨ t = .byte ∨ t = .char ∨ t = .short) ∧ ∃ z, w = .int z) ∨ (i = .areturn ∧ t.isReference = true ∧ w.isRef = true))
    (hd : decode c.code pc = .ok (i, 1)) {fs : List Frame} (hl : ∀ (f : JFrame) (acts : List Action), f.method = m → f.locked = none → f.entered = [] → (doReturn e (T.setTop f) acts (some w)).1 = T.setFrames fs) :
    Steps p.tables e below (T.setTop (mkF m pc Ls (w :: rest))) (T.setFrames fs) :=
  retOut X hx hret hn (hi.imp id fun q => Or.inr (Or.inr (Or.inr q))) hd hl
theorem Wk.ireturn {Q : Option Value → Heap → Prop} {t : FieldType} (X : Wk p l e R s m args below meth c Z EL own B mx s₁ g0 (mkF m pc Ls (.int x :: rest)) h cells slots sf) (hEL : EW Z a0 EL) (hr : meth.sig.returnType = some t) (ht : t = .int ∨ t = .boolean ∨ t = .byte ∨ t = .char ∨ t = .short) (hn : narrow t (.int x) = .int x) (hlk : meth.locks = false) (d : decode B pc = .ok (.ireturn, 1)) (hc : cells ≤ R.cells) (hs : slots ≤ R.slots) (hQ : Q (some (.int x)) h) : Dn p e below s s₁ g0 Z EL R Q :=
  X.leave hEL (fun q => by rw [hr] at q; cases q) hlk hc hs hQ fun hx hB vm T locs X fs hl => retOut' X hx hr hn (Or.inl ⟨rfl, ht, x, rfl⟩) (hb hB d) hl
theorem Wk.areturn {Q : Option Value → Heap → Prop} {t : FieldType} (X : Wk p l e R s m args below meth c Z EL own B mx s₁ g0 (mkF m pc Ls (v :: rest)) h cells slots sf) (hEL : EW Z a0 EL) (hr : meth.sig.returnType = some t) (ht : t.isReference = true) (hv : v.isRef = true) (hn : narrow t v = v) (hlk : meth.locks = false) (d : decode B pc = .ok (.areturn, 1)) (hc : cells ≤ R.cells) (hs : slots ≤ R.slots) (hQ : Q (some v) h) : Dn p e below s s₁ g0 Z EL R Q :=
  X.leave hEL (fun q => by rw [hr] at q; cases q) hlk hc hs hQ fun hx hB vm T locs X fs hl => retOut' X hx hr hn (Or.inr ⟨rfl, ht, hv⟩) (hb hB d) hl
/-! steps that leave the heap -/
theorem Wk.goS (X : Wk p l e R s m args below meth c Z EL own B mx s₁ g0 g h cells slots sf)
    (f : p.tables.exec = Jvm.exec → c.code = B → c.maxLocals = mx → ∀ (vm : Vm) (T : State) (locs : List Loc), Z.Warmed39 (s.setVm vm).vm → (s.setVm vm).vm.findClass own = some m.cls → T.heap = h → Stand p l e R (s.setVm vm) m args below meth c T locs cells slots →
      ∃ T', Stand p l e R (s.setVm vm) m args below meth c T' locs cells slots ∧ T'.heap = h ∧ ∀ t, Steps p.tables e below (T'.setTop g') t → Steps p.tables e below (T.setTop g) t) :
    Wk p l e R s m args below meth c Z EL own B mx s₁ g0 g' h cells slots sf := by
  obtain ⟨hx, hB, hm, T, vm, locs, k, X, eT, hZ, ho, hS, hk, hC, hO, hF, hsf, st⟩ := X
  obtain ⟨T', X', e', st'⟩ := f hx hB hm vm T locs hZ ho eT X
  exact ⟨hx, hB, hm, T', vm, locs, k, X', e', hZ, ho, hS, hk, hC, hO, hF, hsf, st.trans (st' _ (Steps.refl _))⟩
theorem Wk.getfield (X : Wk p l e R s m args below meth c Z EL own B mx s₁ g0 (mkF m pc Ls (.ref a :: st)) h cells slots sf) {O n d : String} {index : Nat} (wl : (Jvm.Cond.fieldLink own index O n d).before a0 Z = true) (F : Fld Z h a O n d v) (dc : decode B pc = .ok (.getfield index, 3)) (hq : pc + 3 = q) : Wk p l e R s m args below meth c Z EL own B mx s₁ g0 (mkF m q Ls (v :: st)) h cells slots sf := by
  subst hq; exact X.goS fun hx hB hm vm T locs hZ ho eT X => getF X hx hZ ho (host := "") (Or.inl wl) Via.refl eT F (g := mkF m pc Ls (.ref a :: st)) rfl rfl (hb hB dc)
theorem Wk.getstatic (X : Wk p l e R s m args below meth c Z EL own B mx s₁ g0 (mkF m pc Ls st) h cells slots sf) {O n d : String} {index : Nat} (wl : (Jvm.Cond.fieldLink own index O n d).before a0 Z = true) (F : Sta Z Z.heap O n d v) (dc : decode B pc = .ok (.getstatic index, 3)) (hq : pc + 3 = q) : Wk p l e R s m args below meth c Z EL own B mx s₁ g0 (mkF m q Ls (v :: st)) h cells slots sf := by
  subst hq
  have O := X.old
  exact X.goS fun hx hB hm vm T locs hZ ho eT X => getS (host := "") X hx hZ ho wl Via.refl eT (F.ext O) (g := mkF m pc Ls st) rfl (hb hB dc)
theorem Wk.initObj (X : Wk p l e R s m args below meth c Z EL own B mx s₁ g0 (mkF m pc Ls (.ref a :: st)) h cells slots sf) {index : Nat} (w1 : (Jvm.Cond.methodLink own index Lib.objectInit).before a0 Z = true) (w2 : (Jvm.Cond.instanceMethod Lib.objectInit).before a0 Z = true) (w3 : (Jvm.Cond.code Lib.objectInit ⟨#[0xb1]⟩ 1 none).before a0 Z = true)
    (hLs : Ls.size = mx) (dc : decode B pc = .ok (.invokespecial index, 3)) (hf : 1 ≤ R.frames) (hl : (st.map fun v => v.category).sum + 12 ≤ R.locals) (hq : pc + 3 = q) : Wk p l e R s m args below meth c Z EL own B mx s₁ g0 (mkF m q Ls st) h cells slots sf := by
  subst hq
  exact X.goS fun hx hB hm vm T locs hZ ho eT X => initO X hx hZ ho w1 w2 w3 eT (g := mkF m pc Ls (.ref a :: st)) rfl (by rw [hm]; exact hLs) rfl (hb hB dc) hf (W := (st.map fun v => v.category).sum) (by show 2 * 0 + _ ≤ _; omega) hl
theorem Wk.ldcI (X : Wk p l e R s m args below meth c Z EL own B mx s₁ g0 (mkF m pc Ls st) h cells slots sf) {index : Nat} (wl : (Jvm.Cond.constant own index z).before a0 Z = true) (dc : decode B pc = .ok (.ldc index, 2)) (hq : pc + 2 = q) : Wk p l e R s m args below meth c Z EL own B mx s₁ g0 (mkF m q Ls (.int z :: st)) h cells slots sf := by
  subst hq
  exact X.goS fun hx hB hm vm T locs hZ ho eT X => ⟨T, X, eT, X.ldcInt hx ho (mvT hZ wl) (g := mkF m pc Ls st) rfl (hb hB dc)⟩
theorem Wk.arraylength (X : Wk p l e R s m args below meth c Z EL own B mx s₁ g0 (mkF m pc Ls (.ref a :: st)) h cells slots sf) {k : ClassId} {ty : FieldType} {vs : List Value} {dv : Value} (A : Arv Z h a k ty z vs dv) (dc : decode B pc = .ok (.arraylength, 1)) (hq : pc + 1 = q) : Wk p l e R s m args below meth c Z EL own B mx s₁ g0 (mkF m q Ls (.int z :: st)) h cells slots sf := by
  subst hq
  obtain ⟨cc, A1, q1, S1, M1, H1, U1⟩ := A
  exact X.goS fun hx hB hm vm T locs hZ ho eT X => ⟨T, X, eT, fun t r => X.arraylength hx (by rw [eT]; exact A1.1) (State.isArrayOf_alike (T := s.setVm vm) hZ.alike A1.2.1) (g := mkF m pc Ls (.ref a :: st)) rfl rfl (hb hB dc) _ (by rw [len_of S1 M1]; exact r)⟩
theorem Wk.caload (X : Wk p l e R s m args below meth c Z EL own B mx s₁ g0 (mkF m pc Ls (.int y :: .ref a :: st)) h cells slots sf) {k : ClassId} {vs : List Value} {dv : Value} (A : Arv Z h a k .char z vs dv) (hj : ¬ y < 0 ∧ y < z) (hv : vs.getD y.toNatClampNeg dv = v) (dc : decode B pc = .ok (.caload, 1)) (hq : pc + 1 = q) : Wk p l e R s m args below meth c Z EL own B mx s₁ g0 (mkF m q Ls (v :: st)) h cells slots sf := by
  subst hq
  obtain ⟨cc, A1, q1, S1, M1, H1, U1⟩ := A
  exact X.goS fun hx hB hm vm T locs hZ ho eT X => ⟨T, X, eT, X.caload hx (j := y) (v := v) (by rw [eT]; exact A1.1) (State.isArrayOf_alike (T := s.setVm vm) hZ.alike A1.2.1) A1.2.2 (inb_of S1 hj) (H1.at (inb_of S1 hj) hv) (g := mkF m pc Ls (.int y :: .ref a :: st)) rfl rfl (hb hB dc)⟩
theorem Wk.baload (X : Wk p l e R s m args below meth c Z EL own B mx s₁ g0 (mkF m pc Ls (.int y :: .ref a :: st)) h cells slots sf) {k : ClassId} {vs : List Value} {dv : Value} (A : Arv Z h a k .byte z vs dv) (hj : ¬ y < 0 ∧ y < z) (hv : vs.getD y.toNatClampNeg dv = v) (dc : decode B pc = .ok (.baload, 1)) (hq : pc + 1 = q) : Wk p l e R s m args below meth c Z EL own B mx s₁ g0 (mkF m q Ls (v :: st)) h cells slots sf := by
  subst hq
  obtain ⟨cc, A1, q1, S1, M1, H1, U1⟩ := A
  exact X.goS fun hx hB hm vm T locs hZ ho eT X => ⟨T, X, eT, X.baloadBytes hx (j := y) (v := v) (by rw [eT]; exact A1.1) (State.isArrayOf_alike (T := s.setVm vm) hZ.alike A1.2.1) A1.2.2 (inb_of S1 hj) (H1.at (inb_of S1 hj) hv) (g := mkF m pc Ls (.int y :: .ref a :: st)) rfl rfl (hb hB dc)⟩
theorem Wk.aaload (X : Wk p l e R s m args below meth c Z EL own B mx s₁ g0 (mkF m pc Ls (.int y :: .ref a :: st)) h cells slots sf) {k : ClassId} {ty : FieldType} {vs : List Value} {dv : Value} (A : Arv Z h a k ty z vs dv) (ht : ty.isReference = true) (hj : ¬ y < 0 ∧ y < z) (hv : vs.getD y.toNatClampNeg dv = v) (dc : decode B pc = .ok (.aaload, 1)) (hq : pc + 1 = q) : Wk p l e R s m args below meth c Z EL own B mx s₁ g0 (mkF m q Ls (v :: st)) h cells slots sf := by
  subst hq
  obtain ⟨cc, A1, q1, S1, M1, H1, U1⟩ := A
  exact X.goS fun hx hB hm vm T locs hZ ho eT X => ⟨T, X, eT, X.aaload hx (j := y) (v := v) (by rw [eT]; exact A1.1) (State.isArrayOf_alike (T := s.setVm vm) hZ.alike A1.2.1) ht A1.2.2 (inb_of S1 hj) (H1.at (inb_of S1 hj) hv) (g := mkF m pc Ls (.int y :: .ref a :: st)) rfl rfl (hb hB dc)⟩
theorem Wk.checkcast (X : Wk p l e R s m args below meth c Z EL own B mx s₁ g0 (mkF m pc Ls (.ref a :: st)) h cells slots sf) {K : String} {index : Nat} (wl : (Jvm.Cond.classLink own index K).before a0 Z = true) (F : Ins Z h a K true) (dc : decode B pc = .ok (.checkcast index, 3)) (hq : pc + 3 = q) : Wk p l e R s m args below meth c Z EL own B mx s₁ g0 (mkF m q Ls (.ref a :: st)) h cells slots sf := by
  subst hq; exact X.goS fun hx hB hm vm T locs hZ ho eT X => castY X hx hZ ho wl eT F (g := mkF m pc Ls (.ref a :: st)) rfl rfl (hb hB dc)
theorem Wk.instNull (X : Wk p l e R s m args below meth c Z EL own B mx s₁ g0 (mkF m pc Ls (.null :: st)) h cells slots sf) {index : Nat} (dc : decode B pc = .ok (.instanceof index, 3)) (hq : pc + 3 = q) : Wk p l e R s m args below meth c Z EL own B mx s₁ g0 (mkF m q Ls (.int 0 :: st)) h cells slots sf := by
  subst hq; exact X.goS fun hx hB hm vm T locs hZ ho eT X => ⟨T, X, eT, X.instanceofNull hx (g := mkF m pc Ls (.null :: st)) rfl rfl (hb hB dc)⟩
/-! steps that make or write cells -/
theorem Wk.clone (X : Wk p l e R s m args below meth c Z EL own B mx s₁ g0 (mkF m pc Ls (.ref a :: st)) h cells slots sf) {ad : String} {index : Nat} (w1 : (Jvm.Cond.methodLink own index ⟨ad, "clone", "()Ljava/lang/Object;"⟩).before a0 Z = true) (w2 : (Jvm.Cond.sameMethod ad "java/lang/Object" "clone" "()Ljava/lang/Object;").before a0 Z = true) (w3 : (Jvm.Cond.native ⟨"java/lang/Object", "clone", "()Ljava/lang/Object;"⟩).before a0 Z = true)
    (w4 : (Jvm.Cond.instanceMethod ⟨"java/lang/Object", "clone", "()Ljava/lang/Object;"⟩).before a0 Z = true) (w5 : (Jvm.Cond.selects ad ⟨ad, "clone", "()Ljava/lang/Object;"⟩ ⟨"java/lang/Object", "clone", "()Ljava/lang/Object;"⟩).before a0 Z = true) (w6 : (Jvm.Cond.castable ad "java/lang/Cloneable").before a0 Z = true)
    {k : ClassId} {ty : FieldType} {vs : List Value} {dv : Value} (A : Arv Z h a k ty z vs dv) (E : Exa Z h a ad) (hLs : Ls.size = mx) (dc : decode B pc = .ok (.invokevirtual index, 3)) {cap : Nat} (hcap : z.toNatClampNeg ≤ cap) (hf : 1 ≤ R.frames) (hl : (st.map fun v => v.category).sum + 14 ≤ R.locals) (hc : cells + 1 ≤ R.cells) (hs : slots + cap ≤ R.slots) (hq : pc + 3 = q) :
    ∃ (b : Addr) (h' : Heap), b = h.size ∧ Z.heap.size ≤ b ∧ Ext h h' ∧ Arv Z h' b k ty z vs dv ∧ Exa Z h' b ad ∧ Wk p l e R s m args below meth c Z EL own B mx s₁ g0 (mkF m q Ls (.ref b :: st)) h' (cells + 1) (slots + cap) (b :: sf) := by
  subst hq
  obtain ⟨hx, hB, hm, T, vm, locs, k', X, eT, hZ, ho, hS, hk, hC, hO, hF, hsf, st0⟩ := X
  obtain ⟨cc, A1, q1, S1, M1, H1, U1⟩ := A
  obtain ⟨T', h', X', e', Ex, A2, E2, st'⟩ := cloneA X hx (s := s.setVm vm) hZ ho w1 w2 w3 w4 w5 w6 eT A1 E (fitC_of A1 fun i hi v hv => by rw [H1 i hi] at hv; cases hv; exact U1 i hi) (g := mkF m pc Ls (.ref a :: st)) rfl (by rw [hm]; exact hLs) rfl (hb hB dc) hf (W := (st.map fun v => v.category).sum) (by show 2 * 0 + _ ≤ _; omega) hl (by rw [S1]; exact hcap) hc hs
  refine ⟨h.size, h', rfl, hO.1, Ex, ⟨_, A2, q1, S1, M1, H1, U1⟩, E2, hx, hB, hm, T', vm, locs, k', X', e', hZ, ho, hS, Nat.le_trans hk Ex.1, hC.trans (CHr.ext Ex hC.1), ⟨Nat.le_trans hO.1 Ex.1, fun x c q => Ex.2 x c (hO.2 x c q)⟩, hF, fun x hx => ?_, st0.trans (st' _ (Steps.refl _))⟩
  rcases List.mem_cons.mp hx with rfl | hx
  · exact ⟨A2.lt, Safe.ext Ex hC.1 (Safe.new (Nat.le_refl _))⟩
  · exact ⟨Nat.lt_of_lt_of_le (hsf x hx).1 Ex.1, Safe.ext Ex hC.1 (hsf x hx).2⟩
theorem Wk.new (X : Wk p l e R s m args below meth c Z EL own B mx s₁ g0 (mkF m pc Ls st) h cells slots sf) {C : String} {index n : Nat} (wl : (Jvm.Cond.classLink own index C).before a0 Z = true) (wi : (Jvm.Cond.instantiable C n).before a0 Z = true) (wz : (Jvm.Cond.initialized C).before a0 Z = true)
    (dc : decode B pc = .ok (.new index, 3)) (hq : pc + 3 = q) (hc : cells + 1 ≤ R.cells) (hs : slots + n ≤ R.slots) :
    ∃ (a : Addr) (h' : Heap), a = h.size ∧ Z.heap.size ≤ a ∧ Ext h h' ∧ Exa Z h' a C ∧ (∀ {O nm d : String} {ty : FieldType}, Laid Z a0 C O nm d → parseFieldDescriptor d = some ty → Fld Z h' a O nm d (defaultValue ty)) ∧
      Wk p l e R s m args below meth c Z EL own B mx s₁ g0 (mkF m q Ls (.ref a :: st)) h' (cells + 1) (slots + n) (a :: sf) := by
  subst hq
  obtain ⟨hx, hB, hm, T, vm, locs, k, X, eT, hZ, ho, hS, hk, hC, hO, hF, hsf, st0⟩ := X
  obtain ⟨T', h', X', e', E, A, D, -, st'⟩ := newO X hx (s := s.setVm vm) hZ ho wl wi wz eT (g := mkF m pc Ls st) rfl (hb hB dc) hc hs
  refine ⟨h.size, h', rfl, hO.1, E, A, D, hx, hB, hm, T', vm, locs, k, X', e', hZ, ho, hS, Nat.le_trans hk E.1, hC.trans (CHr.ext E hC.1), ⟨Nat.le_trans hO.1 E.1, fun x c q => E.2 x c (hO.2 x c q)⟩, hF, fun x hx => ?_, st0.trans (st' _ (Steps.refl _))⟩
  rcases List.mem_cons.mp hx with rfl | hx
  · exact ⟨A.lt, Safe.ext E hC.1 (Safe.new (Nat.le_refl _))⟩
  · exact ⟨Nat.lt_of_lt_of_le (hsf x hx).1 E.1, Safe.ext E hC.1 (hsf x hx).2⟩
theorem Wk.newarray (X : Wk p l e R s m args below meth c Z EL own B mx s₁ g0 (mkF m pc Ls (.int z :: st)) h cells slots sf) {aty : ArrayType} (wl : (Jvm.Cond.arrayClass (newarray.typeOf aty)).before a0 Z = true)
    (dc : decode B pc = .ok (.newarray aty, 2)) (hq : pc + 2 = q) (hz : ¬ z < 0) {cap : Nat} (hcap : z.toNatClampNeg ≤ cap) (hbig : cap * 8 ≤ 536870912) (hc : cells + 1 ≤ R.cells) (hs : slots + cap ≤ R.slots) (n : Nat) :
    ∃ (a : Addr) (h' : Heap) (k : ClassId), a = h.size ∧ Z.heap.size ≤ a ∧ Ext h h' ∧ Arv Z h' a k (newarray.typeOf aty) z (List.replicate n (defaultValue (newarray.typeOf aty))) (defaultValue (newarray.typeOf aty)) ∧
      Wk p l e R s m args below meth c Z EL own B mx s₁ g0 (mkF m q Ls (.ref a :: st)) h' (cells + 1) (slots + cap) (a :: sf) := by
  subst hq
  obtain ⟨hx, hB, hm, T, vm, locs, k, X, eT, hZ, ho, hS, hk, hC, hO, hF, hsf, st0⟩ := X
  obtain ⟨T', h', cA, X', e', E, A, st'⟩ := newP X hx (s := s.setVm vm) hZ wl eT (g := mkF m pc Ls (.int z :: st)) rfl (hb hB dc) rfl hz hcap hbig hc hs
  refine ⟨h.size, h', cA, rfl, hO.1, E, (Arv.new A hz).pad (pad_rep [] _ n), hx, hB, hm, T', vm, locs, k, X', e', hZ, ho, hS, Nat.le_trans hk E.1, hC.trans (CHr.ext E hC.1), ⟨Nat.le_trans hO.1 E.1, fun x c q => E.2 x c (hO.2 x c q)⟩, hF, fun x hx => ?_, st0.trans (st' _ (Steps.refl _))⟩
  rcases List.mem_cons.mp hx with rfl | hx
  · exact ⟨A.lt, Safe.ext E hC.1 (Safe.new (Nat.le_refl _))⟩
  · exact ⟨Nat.lt_of_lt_of_le (hsf x hx).1 E.1, Safe.ext E hC.1 (hsf x hx).2⟩
theorem Wk.castore (X : Wk p l e R s m args below meth c Z EL own B mx s₁ g0 (mkF m pc Ls (.int x :: .int y :: .ref a :: st)) h cells slots sf) {k : ClassId} {vs : List Value} {dv : Value} (A : Arv Z h a k .char z vs dv) (ha : Z.heap.size ≤ a) (hj : ¬ y < 0 ∧ y < z) {x' : Int32} (hx' : nar .char x = x') {i : Nat} (hi : y.toNatClampNeg = i) (hv : i < vs.length)
    (dc : decode B pc = .ok (.castore, 1)) (hq : pc + 1 = q) :
    ∃ h' : Heap, Keep h h' [a] ∧ h'.size = h.size ∧ Arv Z h' a k .char z (vs.set i (.int x')) dv ∧ Wk p l e R s m args below meth c Z EL own B mx s₁ g0 (mkF m q Ls st) h' cells slots sf := by
  subst hq hx'
  obtain ⟨hx, hB, hm, T, vm, locs, k', X, eT, hZ, ho, hS, hk, hC, hO, hF, hsf, st0⟩ := X
  obtain ⟨cc, A1, q1, S1, M1, H1, U1⟩ := id A
  obtain ⟨T', h', X', e', W, st'⟩ := stC X hx (s := s.setVm vm) hZ eT A1 (j := y) (inb_of S1 hj) (g := mkF m pc Ls (.int x :: .int y :: .ref a :: st)) rfl rfl (hb hB dc)
  have Sa : Safe Z EL vm h a := Safe.arr hZ.alike A1 (by simp)
  have K := Keep.of_wr W
  refine ⟨h', K, W.size, Arv.set A1 q1 S1 M1 H1 U1 (fits_nar_char _) W i hi hv, hx, hB, hm, T', vm, _, k', X', e', hZ, ho, hS, Nat.le_trans hk K.1, hC.trans (CHr.wr W Sa hC.1), (Old.wr (show Old Z Z.heap.size h from ⟨rfl, hO⟩) W ha).2, Fr.snoc X' hF ha, fun x hx => ?_, st0.trans (st' _ (Steps.refl _))⟩
  exact ⟨Nat.lt_of_lt_of_le (hsf x hx).1 K.1, Safe.wr W Sa hC.1 (hsf x hx).2⟩
theorem Wk.bastore (X : Wk p l e R s m args below meth c Z EL own B mx s₁ g0 (mkF m pc Ls (.int x :: .int y :: .ref a :: st)) h cells slots sf) {k : ClassId} {vs : List Value} {dv : Value} (A : Arv Z h a k .byte z vs dv) (ha : Z.heap.size ≤ a) (hsa : a ∈ sf) (hj : ¬ y < 0 ∧ y < z) {x' : Int32} (hx' : nar .byte x = x') (hfit : fits .byte (.int x') = true) {i : Nat} (hi : y.toNatClampNeg = i) (hv : i < vs.length)
    (dc : decode B pc = .ok (.bastore, 1)) (hq : pc + 1 = q) :
    ∃ h' : Heap, Keep h h' [a] ∧ h'.size = h.size ∧ Arv Z h' a k .byte z (vs.set i (.int x')) dv ∧ Wk p l e R s m args below meth c Z EL own B mx s₁ g0 (mkF m q Ls st) h' cells slots sf := by
  subst hq hx'
  obtain ⟨hx, hB, hm, T, vm, locs, k', X, eT, hZ, ho, hS, hk, hC, hO, hF, hsf, st0⟩ := X
  obtain ⟨cc, A1, q1, S1, M1, H1, U1⟩ := id A
  obtain ⟨T', h', X', e', W, st'⟩ := stB X hx (s := s.setVm vm) hZ eT A1 (j := y) (inb_of S1 hj) (g := mkF m pc Ls (.int x :: .int y :: .ref a :: st)) rfl rfl (hb hB dc)
  have Sa : Safe Z EL vm h a := (hsf a hsa).2
  have K := Keep.of_wr W
  refine ⟨h', K, W.size, Arv.set A1 q1 S1 M1 H1 U1 hfit W i hi hv, hx, hB, hm, T', vm, _, k', X', e', hZ, ho, hS, Nat.le_trans hk K.1, hC.trans (CHr.wr W Sa hC.1), (Old.wr (show Old Z Z.heap.size h from ⟨rfl, hO⟩) W ha).2, Fr.snoc X' hF ha, fun x hx => ?_, st0.trans (st' _ (Steps.refl _))⟩
  exact ⟨Nat.lt_of_lt_of_le (hsf x hx).1 K.1, Safe.wr W Sa hC.1 (hsf x hx).2⟩
theorem Wk.putfieldS (X : Wk p l e R s m args below meth c Z EL own B mx s₁ g0 (mkF m pc Ls (v :: .ref a :: st)) h cells slots sf) {O n d C : String} {index kk : Nat} {ty : FieldType} {old : Value} (wl : (Jvm.Cond.fieldLink own index O n d).before a0 Z = true) (F : Fld Z h a O n d old) (E : Exa Z h a C)
    (L : (Jvm.Cond.lays C O n d).before a0 Z = true ∨ ((Jvm.Cond.laysFinal C O n d).before a0 Z = true ∧ own = O ∧ meth.name = "<init>")) (wi : (Jvm.Cond.instantiable C kk).before a0 Z = true) (hty : parseFieldDescriptor d = some ty) (hn : narrow ty v = v) (hf : fits ty v = true) (ha : Z.heap.size ≤ a)
    (hC0 : ∀ vm : Vm, Z.vm.Alike vm → (∀ x ∈ sf, Safe Z EL vm h x) → Safe Z EL vm h a) (dc : decode B pc = .ok (.putfield index, 3)) (hq : pc + 3 = q) :
    ∃ h' : Heap, Wr h h' a (RoadKit.slotOf Z O n d) v ∧ Wk p l e R s m args below meth c Z EL own B mx s₁ g0 (mkF m q Ls st) h' cells slots sf := by
  subst hq
  obtain ⟨hx, hB, hm, T, vm, locs, k', X, eT, hZ, ho, hS, hk, hC, hO, hF, hsf, st0⟩ := X
  obtain ⟨T', h', X', e', W, st'⟩ := putF X hx (s := s.setVm vm) hZ ho (host := "") (Or.inl wl) Via.refl eT F E L wi hty hn hf (g := mkF m pc Ls (v :: .ref a :: st)) rfl rfl (hb hB dc)
  have Sa : Safe Z EL vm h a := hC0 vm hZ.alike fun x hx => (hsf x hx).2
  have K := Keep.of_wr W
  refine ⟨h', W, hx, hB, hm, T', vm, _, k', X', e', hZ, ho, hS, Nat.le_trans hk K.1, hC.trans (CHr.wr W Sa hC.1), (Old.wr (show Old Z Z.heap.size h from ⟨rfl, hO⟩) W ha).2, Fr.snoc X' hF ha, fun x hx => ?_, st0.trans (st' _ (Steps.refl _))⟩
  exact ⟨Nat.lt_of_lt_of_le (hsf x hx).1 K.1, Safe.wr W Sa hC.1 (hsf x hx).2⟩
/-- a field of an object that is no String and no byte[] -/
theorem Wk.putfield (X : Wk p l e R s m args below meth c Z EL own B mx s₁ g0 (mkF m pc Ls (v :: .ref a :: st)) h cells slots sf) {O n d C : String} {index kk : Nat} {ty : FieldType} {old : Value} (wl : (Jvm.Cond.fieldLink own index O n d).before a0 Z = true) (F : Fld Z h a O n d old) (E : Exa Z h a C)
    (L : (Jvm.Cond.lays C O n d).before a0 Z = true ∨ ((Jvm.Cond.laysFinal C O n d).before a0 Z = true ∧ own = O ∧ meth.name = "<init>")) (wi : (Jvm.Cond.instantiable C kk).before a0 Z = true) (hty : parseFieldDescriptor d = some ty) (hn : narrow ty v = v) (hf : fits ty v = true) (ha : Z.heap.size ≤ a)
    (h1 : C ≠ "java/lang/String") (h2 : C ≠ "[B") (dc : decode B pc = .ok (.putfield index, 3)) (hq : pc + 3 = q) :
    ∃ h' : Heap, Wr h h' a (RoadKit.slotOf Z O n d) v ∧ Wk p l e R s m args below meth c Z EL own B mx s₁ g0 (mkF m q Ls st) h' cells slots sf :=
  X.putfieldS wl F E L wi hty hn hf ha (fun vm al _ => Safe.exa al E h1 h2) dc hq
theorem Wk.arraycopy (X : Wk p l e R s m args below meth c Z EL own B mx s₁ g0 (mkF m pc Ls (.int z :: .int y :: .ref b :: .int x :: .ref a :: st)) h cells slots sf) {index : Nat} (w1 : (Jvm.Cond.methodLink own index Jvm.Stand.acN).before a0 Z = true) (w2 : (Jvm.Cond.native Jvm.Stand.acN).before a0 Z = true) (w3 : (Jvm.Cond.static Jvm.Stand.acN).before a0 Z = true) (w4 : (Jvm.Cond.initialized "java/lang/System").before a0 Z = true)
    {k k' : ClassId} {ty ty' : FieldType} {z1 z2 : Int32} {vs vd us : List Value} {d1 d2 : Value} (A : Arv Z h a k ty z1 vs d1) (A' : Arv Z h b k' ty' z2 vd d2) (hty : (ty = ty' ∧ refKind ty = false) ∨ (refKind ty = true ∧ refKind ty' = true ∧ StoL Z h b us))
    (h1 : ¬ x < 0) (h2 : ¬ y < 0) (h3 : ¬ z < 0) (h4 : x.toNatClampNeg + z.toNatClampNeg ≤ z1.toNatClampNeg) (h5 : y.toNatClampNeg + z.toNatClampNeg ≤ z2.toNatClampNeg) (hus : us = (List.range z.toNatClampNeg).map fun i => vs.getD (x.toNatClampNeg + i) d1) (hl : y.toNatClampNeg + z.toNatClampNeg ≤ vd.length)
    (hb0 : Z.heap.size ≤ b) (hsb : ∀ vm : Vm, Z.Warmed39 vm → (∀ x ∈ sf, Safe Z EL vm h x) → Safe Z EL vm h b) (hLs : Ls.size = mx) (dc : decode B pc = .ok (.invokestatic index, 3)) (hf : 1 ≤ R.frames) (hlo : (st.map fun v => v.category).sum + (nativeFrameWords "java/lang/System" "arraycopy" 5 + 11) ≤ R.locals) (hq : pc + 3 = q) :
    ∃ h' : Heap, Keep h h' [b] ∧ Arv Z h' b k' ty' z2 (vd.take y.toNatClampNeg ++ us ++ vd.drop (y.toNatClampNeg + z.toNatClampNeg)) d2 ∧ Wk p l e R s m args below meth c Z EL own B mx s₁ g0 (mkF m q Ls st) h' cells slots sf := by
  subst hq
  obtain ⟨hx, hB, hm, T, vm, locs, k0, X, eT, hZ, ho, hS, hk, hC, hO, hF, hsf, st0⟩ := X
  obtain ⟨T', h', L, X', e', hL, K, A2, st'⟩ := cpA X hx (s := s.setVm vm) hZ ho w1 w2 w3 w4 eT A A' hty h1 h2 h3 h4 h5 hus hl hF hb0 (g := mkF m pc Ls (.int z :: .int y :: .ref b :: .int x :: .ref a :: st)) rfl (by rw [hm]; exact hLs) rfl (hb hB dc) hf (W := (st.map fun v => v.category).sum) (by show 2 * 0 + _ ≤ _; omega) hlo
  have Sb : Safe Z EL vm h b := hsb vm hZ fun x hx => (hsf x hx).2
  have hs' : ∀ x ∈ [b], Safe Z EL vm h x := fun x q => by cases List.mem_singleton.mp q; exact Sb
  exact ⟨h', K, A2, hx, hB, hm, T', vm, L, k0, X', e', hZ, ho, hS, Nat.le_trans hk K.1, hC.trans (CHr.keep K hs' hC.1), (Old.keep (show Old Z Z.heap.size h from ⟨rfl, hO⟩) K (fun x q => by cases List.mem_singleton.mp q; exact hb0)).2, hL, fun x hx => ⟨Nat.lt_of_lt_of_le (hsf x hx).1 K.1, Safe.keep K hs' hC.1 (hsf x hx).2⟩, st0.trans (st' _ (Steps.refl _))⟩
/-! String constants -/
theorem Wk.ldcO (X : Wk p l e R s m args below meth c Z EL own B mx s₁ g0 (mkF m pc Ls st) h cells slots sf) {text : String} {index : Nat} (hEL : EW Z a0 EL) (wl : (Jvm.Cond.stringLink own index text).before a0 Z = true) (wS : ∀ a ∈ Bundle.stringAtoms, a.before a0 Z = true)
    (dc : decode B pc = .ok (.ldc index, 2)) {n : Nat} (hn : 4 * text.toList.length ≤ n) (hbig : n ≤ 536870912) (hc : cells + 2 ≤ R.cells) (hs : slots + (n + 4) ≤ R.slots) (hq : pc + 2 = q) :
    ∃ (a : Addr) (h' : Heap), Ext h h' ∧ Wk p l e R s m args below meth c Z EL own B mx s₁ g0 (mkF m q Ls (.ref a :: st)) h' (cells + 2) (slots + (n + 4)) sf := by
  subst hq
  obtain ⟨hx, hB, hm, T, vm, locs, k, X, eT, hZ, ho, hS, hk, hC, hO, hF, hsf, st0⟩ := X
  obtain ⟨a, T', h', k1, X', e', E, hS', hk', hZ', ho', hCr, -, st'⟩ := ldcOH X hx hZ ho wl wS eT hS hk hEL hC.1 (g := mkF m pc Ls st) rfl (hb hB dc) hn hbig hc hs
  exact ⟨a, h', E, hx, hB, hm, T', T'.vm, locs, k1, X', e', hZ', ho', hS', hk', hC.trans hCr, ⟨Nat.le_trans hO.1 E.1, fun x c q => E.2 x c (hO.2 x c q)⟩, hF, fun x hx => ⟨Nat.lt_of_lt_of_le (hsf x hx).1 E.1, hCr.safe (hsf x hx).1 (hsf x hx).2⟩, st0.trans (st' _ (Steps.refl _))⟩
theorem Wk.ldcR (X : Wk p l e R s m args below meth c Z EL own B mx s₁ g0 (mkF m pc Ls st) h cells slots sf) {text : String} {index : Nat} (hEL : EW Z a0 EL) (hmem : (own, index) ∈ EL) (wl : (Jvm.Cond.stringLink own index text).before a0 Z = true) (wS : ∀ a ∈ Bundle.stringAtoms, a.before a0 Z = true)
    {vs : List Value} {z : Int32} (ht : (∀ c ∈ text.toList, c.toNat < 256) ∧ text.toList.map (fun c => Value.int (Jvm.Lit.byteI c.toNat.toUInt16)) = vs) (hz : ¬ z < 0) (hl : z.toNatClampNeg = vs.length)
    (dc : decode B pc = .ok (.ldc index, 2)) {n : Nat} (hn : 4 * text.toList.length ≤ n) (hbig : n ≤ 536870912) (hc : cells + 2 ≤ R.cells) (hs : slots + (n + 4) ≤ R.slots) (hq : pc + 2 = q) :
    ∃ (a : Addr) (h' : Heap) (b : Addr) (k : ClassId), Ext h h' ∧ Exa Z h' a "java/lang/String" ∧ Fld Z h' a "java/lang/String" "coder" "B" (.int 0) ∧ Fld Z h' a "java/lang/String" "value" "[B" (.ref b) ∧ Arv Z h' b k .byte z vs (.int 0) ∧ (∀ x ∈ sf, x ≠ a ∧ x ≠ b) ∧
      Wk p l e R s m args below meth c Z EL own B mx s₁ g0 (mkF m q Ls (.ref a :: st)) h' (cells + 2) (slots + (n + 4)) sf := by
  subst hq
  obtain ⟨hx, hB, hm, T, vm, locs, k, X, eT, hZ, ho, hS, hk, hC, hO, hF, hsf, st0⟩ := X
  obtain ⟨a, T', h', k1, b, kb, X', e', E, hS', hk', hZ', ho', A1, A2, A3, A4, -, -, hCr, -, hne, st'⟩ := ldcCH X hx hZ ho wl wS eT hS hk hEL hmem hC.1 ht hz hl (g := mkF m pc Ls st) rfl (hb hB dc) hn hbig hc hs
  have sf' : ∀ x ∈ sf, x < h'.size ∧ Safe Z EL T'.vm h' x := fun x hx => ⟨Nat.lt_of_lt_of_le (hsf x hx).1 E.1, hCr.safe (hsf x hx).1 (hsf x hx).2⟩
  exact ⟨a, h', b, kb, E, A1, A2, A3, A4, fun x hx => hne x (sf' x hx).2, hx, hB, hm, T', T'.vm, locs, k1, X', e', hZ', ho', hS', hk', hC.trans hCr, ⟨Nat.le_trans hO.1 E.1, fun x c q => E.2 x c (hO.2 x c q)⟩, hF, sf', st0.trans (st' _ (Steps.refl _))⟩
/-! calls by a contract -/
/-- the library's backOfSH, for a callee that also asks that some cells are no booked literal's -/
theorem backSF {vm0 : Vm} {y : MethodName} {bytes : ByteArray} {maxL : Nat} {ret : Option FieldType} {rm : Room} {len W : Nat} {as' : Array Value} {sf0 : List Addr} {Q : Option Value → Heap → Prop} (hM : Ctr l Z EL y bytes maxL ret [] rm as' h sf0 Q)
    (hZ : Z.Warmed39 vm0) (wc : (Jvm.Cond.code y bytes maxL ret).before a0 Z = true) (wz : (Jvm.Cond.initialized y.cls).before a0 Z = true) (hf : rm.frames + 1 ≤ R.frames) (hl : W + (maxL + 11) + rm.locals ≤ R.locals) (hEL : EW Z a0 EL) (H : CHv Z EL vm0 h) (hs0 : ∀ x ∈ sf0, x < h.size ∧ Safe Z EL vm0 h x) :
    BackS l R p e below (s.setVm vm0) args y len W (fun A a => a = as' ∧ A.U.heap = h ∧ A.cells + rm.cells ≤ R.cells ∧ A.slots + rm.slots ≤ R.slots)
      (fun A _ v B => ∃ L, (Q v B.U.heap ∧ Fr Z.heap.size L ∧ Ext Z.heap B.U.heap) ∧ B.locs = A.locs ++ L ∧ B.cells = A.cells + rm.cells ∧ B.slots = A.slots + rm.slots ∧ CHr Z EL vm0 h B.U.vm B.U.heap) :=
  BackS.of_freeW (bytes := bytes) (maxL := maxL) (ret := ret) (E := fun _ first o t L k n => k = rm.cells ∧ n = rm.slots ∧ (∃ v, o = .returned v ∧ (Q v t.heap ∧ Fr Z.heap.size L ∧ Ext Z.heap t.heap)) ∧ CHr Z EL first.vm first.heap t.vm t.heap) hM hf hl
    (fun m meth c A a Y hp => have hU : Z.Warmed39 A.U.vm := wtrans (s := s.setVm vm0) hZ Y.warmed
      ⟨by show (Jvm.Cond.and _ .tt).before a A.U = true; rw [Cond.before_and, mv hU wc]; rfl, mv hU wc, mv hU wz, hp.2.2.1, hp.2.2.2⟩)
    (fun m meth c A a g mk Y hp => have C1 := CHv.at Y hZ hEL H
      ⟨hp.1, wtrans (s := s.setVm vm0) hZ Y.warmed, hp.2.1, C1.1, fun x q => ⟨(hs0 x q).1, C1.safe (hs0 x q).1 (hs0 x q).2⟩⟩) (fun _ _ _ _ _ _ _ _ _ => trivial)
    (fun _ _ _ _ ⟨v, L, h1, h2, h3, h4⟩ => ⟨L, _, _, h4, rfl, rfl, ⟨v, h1, h2⟩, h3⟩)
    (fun m meth c A a g mk v t L k n Y hp _ _ ⟨e1, e2, ⟨v', e3, e4⟩, e5⟩ => by
      cases e3; subst e1 e2
      refine ⟨L, e4, rfl, rfl, rfl, (CHv.at Y hZ hEL H).trans ?_⟩
      rw [← hp.2.1]; exact e5)
theorem Wk.behind {B1 : Pt} {vm : Vm} {k : Nat} {locs : List Loc} {rc rs : Nat} {Lc : List Loc} {Q : Option Value → Heap → Prop} {ov : Option Value} (hx : p.tables.exec = Jvm.exec) (hB : c.code = B) (hm : c.maxLocals = mx) (hS : s.Since vm k) (hk : k ≤ h.size) (hZ : Z.Warmed39 vm) (ho : vm.findClass own = some m.cls) (hC : CHr Z EL s.vm s.heap vm h) (hF : Fr Z.heap.size locs) (hsf : ∀ x ∈ sf, x < h.size ∧ Safe Z EL vm h x)
    (X' : Stand p l e R ((s.setVm vm).setVm B1.U.vm) m args below meth c B1.U B1.locs B1.cells B1.slots) (h2 : (s.setVm vm).Since B1.U.vm B1.U.heap.size) (hgr : h.size ≤ B1.U.heap.size) (hQ : Q ov B1.U.heap ∧ Fr Z.heap.size Lc ∧ Ext Z.heap B1.U.heap) (el : B1.locs = locs ++ Lc) (ec : B1.cells = cells + rc) (es : B1.slots = slots + rs) (hCr : CHr Z EL vm h B1.U.vm B1.U.heap)
    (st : Steps p.tables e below (s₁.setTop g0) (B1.U.setTop g')) : Wk p l e R s m args below meth c Z EL own B mx s₁ g0 g' B1.U.heap (cells + rc) (slots + rs) sf := by
  refine ⟨hx, hB, hm, B1.U, B1.U.vm, locs ++ Lc, B1.U.heap.size, ?_, rfl, State.Warmed39.trans (t := s.setVm vm) hZ h2.1, (h2.1.alike.findClass _ _).trans ho, hS.trans h2 (Nat.le_trans hk hgr), Nat.le_refl _, hC.trans hCr, hQ.2.2, Fr.app hF hQ.2.1, fun x hx => ⟨Nat.lt_of_lt_of_le (hsf x hx).1 hgr, hCr.safe (hsf x hx).1 (hsf x hx).2⟩, st⟩
  rw [← el, ← ec, ← es]; exact X'
theorem Wk.callS (X : Wk p l e R s m args below meth c Z EL own B mx s₁ g0 (mkF m pc Ls st) h cells slots sf) {index : Nat} {y : MethodName} {bytes : ByteArray} {maxL : Nat} {ret : Option FieldType} {rm : Room} {as' : Array Value} {sf0 : List Addr} {Q : Option Value → Heap → Prop} (hM : Ctr l Z EL y bytes maxL ret [] rm as' h sf0 Q) (hEL : EW Z a0 EL) (hs0 : ∀ x ∈ sf0, x ∈ sf)
    (w1 : (Jvm.Cond.methodLink own index y).before a0 Z = true) (w2 : (Jvm.Cond.static y).before a0 Z = true) (w3 : (Jvm.Cond.initialized y.cls).before a0 Z = true) (w4 : (Jvm.Cond.code y bytes maxL ret).before a0 Z = true) (hy : y.cls ≠ "java/lang/invoke/MethodHandle" ∧ y.cls ≠ "java/lang/invoke/VarHandle")
    {ps : List FieldType} {r : Option FieldType} (pd : parseMethodDescriptor y.desc = some ⟨ps, r⟩) {argsL rest : List Value} (hlen : argsL.length = ps.length) (hst : st = argsL.reverse ++ rest) (has : argsL.toArray = as') (hLs : Ls.size = mx) (dc : decode B pc = .ok (.invokestatic index, 3))
    (hf : rm.frames + 1 ≤ R.frames) (hl : (rest.map fun v => v.category).sum + (maxL + 11) + rm.locals ≤ R.locals) (hc : cells + rm.cells ≤ R.cells) (hs : slots + rm.slots ≤ R.slots) (hq : pc + 3 = q) :
    ∃ (ov : Option Value) (h' : Heap), Q ov h' ∧ ∀ st', ov.toList ++ rest = st' → Wk p l e R s m args below meth c Z EL own B mx s₁ g0 (mkF m q Ls st') h' (cells + rm.cells) (slots + rm.slots) sf := by
  subst hq hst has
  obtain ⟨hx, hB, hm, T, vm, locs, k, X, eT, hZ, ho, hS, hk, hC, hO, hF, hsf, st0⟩ := X
  obtain ⟨ov, vm1, B1, -, X', h2, hgr, ⟨Lc, hQ, el, ec, es, hCr⟩, st'⟩ := callSS (s := s.setVm vm) X hx ho (mvT hZ w1) (mvT hZ w2) (mvT hZ w3) (mvT hZ w4) hy (backSF (W := (rest.map fun v => v.category).sum) (s := s) hM hZ w4 w3 hf hl hEL hC.1 (fun x q => hsf x (hs0 x q))) (g := mkF m pc Ls (argsL.reverse ++ rest)) rfl (by rw [hm]; exact hLs) (argsL := argsL) (rest := rest) (lenOf pd hlen) rfl (by show 2 * 0 + _ ≤ _; omega) (hb hB dc) (fun _ _ => ⟨rfl, eT, hc, hs⟩)
  refine ⟨ov, B1.U.heap, hQ.1, fun st1 e1 => ?_⟩
  subst e1
  rw [eT] at hgr
  exact Wk.behind hx hB hm hS hk hZ ho hC hF hsf X' h2 hgr hQ el ec es hCr (st0.trans st')
theorem Wk.callI (X : Wk p l e R s m args below meth c Z EL own B mx s₁ g0 (mkF m pc Ls st) h cells slots sf) {index : Nat} {y : MethodName} {bytes : ByteArray} {maxL : Nat} {rm : Room} {as' : Array Value} {sf0 : List Addr} {Q : Option Value → Heap → Prop} (hM : Ctr l Z EL y bytes maxL none [] rm as' h sf0 Q) (hEL : EW Z a0 EL) (hs0 : ∀ x ∈ sf0, x ∈ sf) (hy1 : y.name = "<init>")
    (w1 : (Jvm.Cond.methodLink own index y).before a0 Z = true) (w2 : (Jvm.Cond.instanceMethod y).before a0 Z = true) (w3 : (Jvm.Cond.initialized y.cls).before a0 Z = true) (w4 : (Jvm.Cond.code y bytes maxL none).before a0 Z = true) (hy : y.cls ≠ "java/lang/invoke/MethodHandle" ∧ y.cls ≠ "java/lang/invoke/VarHandle")
    {ps : List FieldType} {r : Option FieldType} (pd : parseMethodDescriptor y.desc = some ⟨ps, r⟩) {a : Addr} {argsL rest : List Value} (hlen : argsL.length = ps.length) (hst : st = argsL.reverse ++ .ref a :: rest) (has : (.ref a :: argsL).toArray = as') (hLs : Ls.size = mx) (dc : decode B pc = .ok (.invokespecial index, 3))
    (hf : rm.frames + 1 ≤ R.frames) (hl : (rest.map fun v => v.category).sum + (maxL + 11) + rm.locals ≤ R.locals) (hc : cells + rm.cells ≤ R.cells) (hs : slots + rm.slots ≤ R.slots) (hq : pc + 3 = q) :
    ∃ (ov : Option Value) (h' : Heap), Q ov h' ∧ ∀ st', ov.toList ++ rest = st' → Wk p l e R s m args below meth c Z EL own B mx s₁ g0 (mkF m q Ls st') h' (cells + rm.cells) (slots + rm.slots) sf := by
  subst hq hst has
  obtain ⟨hx, hB, hm, T, vm, locs, k, X, eT, hZ, ho, hS, hk, hC, hO, hF, hsf, st0⟩ := X
  obtain ⟨ov, vm1, B1, -, X', h2, hgr, ⟨Lc, hQ, el, ec, es, hCr⟩, st'⟩ := X.specialBackS (s := s.setVm vm) hx hy1 ho (mvT hZ w1) (mvT hZ w2) (mvT hZ w4) hy (backSF (W := (rest.map fun v => v.category).sum) (s := s) hM hZ w4 w3 hf hl hEL hC.1 (fun x q => hsf x (hs0 x q))) (g := mkF m pc Ls (argsL.reverse ++ .ref a :: rest)) rfl (by rw [hm]; exact hLs) (Steps.refl _) (a := a) (argsL := argsL) (rest := rest) (lenOf pd hlen) rfl (by show 2 * 0 + _ ≤ _; omega) (hb hB dc) (fun _ _ => ⟨rfl, eT, hc, hs⟩)
  refine ⟨ov, B1.U.heap, hQ.1, fun st1 e1 => ?_⟩
  subst e1
  rw [eT] at hgr
  exact Wk.behind hx hB hm hS hk hZ ho hC hF hsf X' h2 hgr hQ el ec es hCr (st0.trans st')
theorem Wk.callV (X : Wk p l e R s m args below meth c Z EL own B mx s₁ g0 (mkF m pc Ls st) h cells slots sf) {index : Nat} {C : String} {y z : MethodName} {bytes : ByteArray} {maxL : Nat} {ret : Option FieldType} {rm : Room} {as' : Array Value} {sf0 : List Addr} {Q : Option Value → Heap → Prop} (hM : Ctr l Z EL z bytes maxL ret [] rm as' h sf0 Q) (hEL : EW Z a0 EL) (hs0 : ∀ x ∈ sf0, x ∈ sf)
    (w1 : (Jvm.Cond.methodLink own index y).before a0 Z = true) (w2 : (Jvm.Cond.declares y).before a0 Z = true) {CF : String} (wF : (Jvm.Cond.selects CF y y).before a0 Z = true) (w5 : (Jvm.Cond.selects C y z).before a0 Z = true) (w6 : (Jvm.Cond.instanceMethod z).before a0 Z = true) (w3 : (Jvm.Cond.initialized z.cls).before a0 Z = true) (w4 : (Jvm.Cond.code z bytes maxL ret).before a0 Z = true) (hy : y.cls ≠ "java/lang/invoke/MethodHandle" ∧ y.cls ≠ "java/lang/invoke/VarHandle")
    {ps : List FieldType} {r : Option FieldType} (pd : parseMethodDescriptor y.desc = some ⟨ps, r⟩) {a : Addr} (E : Exa Z h a C) {argsL rest : List Value} (hlen : argsL.length = ps.length) (hst : st = argsL.reverse ++ .ref a :: rest) (has : (.ref a :: argsL).toArray = as') (hLs : Ls.size = mx) (dc : decode B pc = .ok (.invokevirtual index, 3))
    (hf : rm.frames + 1 ≤ R.frames) (hl : (rest.map fun v => v.category).sum + (maxL + 11) + rm.locals ≤ R.locals) (hc : cells + rm.cells ≤ R.cells) (hs : slots + rm.slots ≤ R.slots) (hq : pc + 3 = q) :
    ∃ (ov : Option Value) (h' : Heap), Q ov h' ∧ ∀ st', ov.toList ++ rest = st' → Wk p l e R s m args below meth c Z EL own B mx s₁ g0 (mkF m q Ls st') h' (cells + rm.cells) (slots + rm.slots) sf := by
  subst hq hst has
  obtain ⟨hx, hB, hm, T, vm, locs, k, X, eT, hZ, ho, hS, hk, hC, hO, hF, hsf, st0⟩ := X
  obtain ⟨cq, kq, qa, qb, qc⟩ := isOf (s := s.setVm vm) hZ eT E
  obtain ⟨ov, vm1, B1, -, X', h2, hgr, ⟨Lc, hQ, el, ec, es, hCr⟩, st'⟩ := X.virtualBackS (s := s.setVm vm) hx ho (mvT hZ w1) (mvT hZ w2) (notFace_of_selects (args := #[]) (mvT hZ wF)) (mvT hZ w5) (mvT hZ w6) hy (backSF (W := (rest.map fun v => v.category).sum) (s := s) hM hZ w4 w3 hf hl hEL hC.1 (fun x q => hsf x (hs0 x q))) qa qc (g := mkF m pc Ls (argsL.reverse ++ .ref a :: rest)) rfl (by rw [hm]; exact hLs) (Steps.refl _) (argsL := argsL) (rest := rest) (lenOf pd hlen) rfl (by show 2 * 0 + _ ≤ _; omega) (hb hB dc) (fun _ _ => ⟨rfl, eT, hc, hs⟩)
  refine ⟨ov, B1.U.heap, hQ.1, fun st1 e1 => ?_⟩
  subst e1
  rw [eT] at hgr
  exact Wk.behind hx hB hm hS hk hZ ho hC hF hsf X' h2 hgr hQ el ec es hCr (st0.trans st')
theorem Wk.callF (X : Wk p l e R s m args below meth c Z EL own B mx s₁ g0 (mkF m pc Ls st) h cells slots sf) {index count : Nat} {C : String} {xi y : MethodName} {bytes : ByteArray} {maxL : Nat} {ret : Option FieldType} {rm : Room} {as' : Array Value} {sf0 : List Addr} {Q : Option Value → Heap → Prop} (hM : Ctr l Z EL y bytes maxL ret [] rm as' h sf0 Q) (hEL : EW Z a0 EL) (hs0 : ∀ x ∈ sf0, x ∈ sf)
    (w1 : (Jvm.Cond.methodLink own index xi).before a0 Z = true) (w2 : (Jvm.Cond.declares xi).before a0 Z = true) (w7 : (Jvm.Cond.interfaceMethod xi.cls xi.cls xi.name xi.desc).before a0 Z = true) (hw7 : ((Jvm.Cond.interfaceMethod xi.cls xi.cls xi.name xi.desc).onTables && (Jvm.Cond.interfaceMethod xi.cls xi.cls xi.name xi.desc).keepsFace) = true) (w5 : (Jvm.Cond.selects C xi y).before a0 Z = true) (w6 : (Jvm.Cond.instanceMethod y).before a0 Z = true) (w8 : (Jvm.Cond.publicMethod y).before a0 Z = true) (w9 : (Jvm.Cond.unhidden C xi.name xi.desc).before a0 Z = true) (w10 : (Jvm.Cond.castable C xi.cls).before a0 Z = true)
    (w3 : (Jvm.Cond.initialized y.cls).before a0 Z = true) (w4 : (Jvm.Cond.code y bytes maxL ret).before a0 Z = true) (hy : xi.cls ≠ "java/lang/invoke/MethodHandle" ∧ xi.cls ≠ "java/lang/invoke/VarHandle")
    {ps : List FieldType} {r : Option FieldType} (pd : parseMethodDescriptor xi.desc = some ⟨ps, r⟩) {a : Addr} (E : Exa Z h a C) {argsL rest : List Value} (hlen : argsL.length = ps.length) (hst : st = argsL.reverse ++ .ref a :: rest) (has : (.ref a :: argsL).toArray = as') (hLs : Ls.size = mx) (dc : decode B pc = .ok (.invokeinterface index count, 5))
    (hf : rm.frames + 1 ≤ R.frames) (hl : (rest.map fun v => v.category).sum + (maxL + 11) + rm.locals ≤ R.locals) (hc : cells + rm.cells ≤ R.cells) (hs : slots + rm.slots ≤ R.slots) (hq : pc + 5 = q) :
    ∃ (ov : Option Value) (h' : Heap), Q ov h' ∧ ∀ st', ov.toList ++ rest = st' → Wk p l e R s m args below meth c Z EL own B mx s₁ g0 (mkF m q Ls st') h' (cells + rm.cells) (slots + rm.slots) sf := by
  subst hq hst has
  obtain ⟨hx, hB, hm, T, vm, locs, k, X, eT, hZ, ho, hS, hk, hC, hO, hF, hsf, st0⟩ := X
  obtain ⟨cq, kq, qa, qb, qc⟩ := isOf (s := s.setVm vm) hZ eT E
  obtain ⟨ov, vm1, B1, -, X', h2, hgr, ⟨Lc, hQ, el, ec, es, hCr⟩, st'⟩ := X.interfaceBackS (s := s.setVm vm) hx ho (mvT hZ w1) (mvT hZ w2) (mvT hZ w7 hw7) (mvT hZ w5) (mvT hZ w6) (mvT hZ w8) (mvT hZ w9) (mvT hZ w10) hy (backSF (W := (rest.map fun v => v.category).sum) (s := s) hM hZ w4 w3 hf hl hEL hC.1 (fun x q => hsf x (hs0 x q))) qa qb qc (g := mkF m pc Ls (argsL.reverse ++ .ref a :: rest)) rfl (by rw [hm]; exact hLs) (Steps.refl _) (argsL := argsL) (rest := rest) (lenOf pd hlen) rfl (by show 2 * 0 + _ ≤ _; omega) (hb hB dc) (fun _ _ => ⟨rfl, eT, hc, hs⟩)
  refine ⟨ov, B1.U.heap, hQ.1, fun st1 e1 => ?_⟩
  subst e1
  rw [eT] at hgr
  exact Wk.behind hx hB hm hS hk hZ ho hC hF hsf X' h2 hgr hQ el ec es hCr (st0.trans st')
theorem Wk.callU (X : Wk p l e R s m args below meth c Z EL own B mx s₁ g0 (mkF m pc Ls st) h cells slots sf) {index : Nat} {K : String} {y : MethodName} {bytes : ByteArray} {maxL : Nat} {ret : Option FieldType} {rm : Room} {as' : Array Value} {sf0 : List Addr} {Q : Option Value → Heap → Prop} (hM : Ctr l Z EL y bytes maxL ret [] rm as' h sf0 Q) (hEL : EW Z a0 EL) (hs0 : ∀ x ∈ sf0, x ∈ sf)
    (w1 : (Jvm.Cond.methodLink own index y).before a0 Z = true) (w2 : (Jvm.Cond.sameMethod y.cls y.cls y.name y.desc).before a0 Z = true) (w6 : (Jvm.Cond.instanceMethod y).before a0 Z = true) (w5 : (Jvm.Cond.superclass own y.cls).before a0 Z = true) (hn : y.name ≠ "<init>") (w3 : (Jvm.Cond.initialized y.cls).before a0 Z = true) (w4 : (Jvm.Cond.code y bytes maxL ret).before a0 Z = true)
    {ps : List FieldType} {r : Option FieldType} (pd : parseMethodDescriptor y.desc = some ⟨ps, r⟩) {a : Addr} (F : Ins Z h a K true) {argsL rest : List Value} (hlen : argsL.length = ps.length) (hst : st = argsL.reverse ++ .ref a :: rest) (has : (.ref a :: argsL).toArray = as') (hLs : Ls.size = mx) (dc : decode B pc = .ok (.invokespecial index, 3))
    (hf : rm.frames + 1 ≤ R.frames) (hl : (rest.map fun v => v.category).sum + (maxL + 11) + rm.locals ≤ R.locals) (hc : cells + rm.cells ≤ R.cells) (hs : slots + rm.slots ≤ R.slots) (hq : pc + 3 = q) :
    ∃ (ov : Option Value) (h' : Heap), Q ov h' ∧ ∀ st', ov.toList ++ rest = st' → Wk p l e R s m args below meth c Z EL own B mx s₁ g0 (mkF m q Ls st') h' (cells + rm.cells) (slots + rm.slots) sf := by
  subst hq hst has
  obtain ⟨hx, hB, hm, T, vm, locs, k, X, eT, hZ, ho, hS, hk, hC, hO, hF, hsf, st0⟩ := X
  obtain ⟨ov, vm1, B1, -, X', h2, hgr, ⟨Lc, hQ, el, ec, es, hCr⟩, st'⟩ := superBackS (s := s.setVm vm) X hx hZ ho w1 w2 w6 w5 hn (backSF (W := (rest.map fun v => v.category).sum) (s := s) hM hZ w4 w3 hf hl hEL hC.1 (fun x q => hsf x (hs0 x q))) eT F (g := mkF m pc Ls (argsL.reverse ++ .ref a :: rest)) rfl (by rw [hm]; exact hLs) w4 (argsL := argsL) (rest := rest) (lenOf pd hlen) rfl (by show 2 * 0 + _ ≤ _; omega) (hb hB dc) (fun _ _ => ⟨rfl, eT, hc, hs⟩)
  refine ⟨ov, B1.U.heap, hQ.1, fun st1 e1 => ?_⟩
  subst e1
  rw [eT] at hgr
  exact Wk.behind hx hB hm hS hk hZ ho hC hF hsf X' h2 hgr hQ el ec es hCr (st0.trans st')
/-! calls paid by a Back of the pasted String laws -/
theorem Wk.behindB {B1 : Pt} {vm : Vm} {k : Nat} {locs : List Loc} {rc rs : Nat} {Lc : List Loc} {ws : List Addr} (hx : p.tables.exec = Jvm.exec) (hB : c.code = B) (hm : c.maxLocals = mx) (hS : s.Since vm k) (hk : k ≤ h.size) (hZ : Z.Warmed39 vm) (ho : vm.findClass own = some m.cls) (hC : CHr Z EL s.vm s.heap vm h) (hO : Ext Z.heap h) (hF : Fr Z.heap.size locs) (hsf : ∀ x ∈ sf, x < h.size ∧ Safe Z EL vm h x)
    (X' : Stand p l e R (s.setVm vm) m args below meth c B1.U B1.locs B1.cells B1.slots) (hL : Fr Z.heap.size Lc) (K : Keep h B1.U.heap ws) (hw : ∀ x ∈ ws, x ∈ sf ∧ Z.heap.size ≤ x) (el : B1.locs = locs ++ Lc) (ec : B1.cells = cells + rc) (es : B1.slots = slots + rs)
    (st : Steps p.tables e below (s₁.setTop g0) (B1.U.setTop g')) : Wk p l e R s m args below meth c Z EL own B mx s₁ g0 g' B1.U.heap (cells + rc) (slots + rs) sf := by
  have hs' : ∀ x ∈ ws, Safe Z EL vm h x := fun x q => (hsf x (hw x q).1).2
  refine ⟨hx, hB, hm, B1.U, vm, locs ++ Lc, k, ?_, rfl, hZ, ho, hS, Nat.le_trans hk K.1, hC.trans (CHr.keep K hs' hC.1), (Old.keep (show Old Z Z.heap.size h from ⟨rfl, hO⟩) K (fun x q => (hw x q).2)).2, Fr.app hF hL, fun x hx => ⟨Nat.lt_of_lt_of_le (hsf x hx).1 K.1, Safe.keep K hs' hC.1 (hsf x hx).2⟩, st⟩
  rw [← el, ← ec, ← es]; exact X'
theorem Wk.backV (X : Wk p l e R s m args below meth c Z EL own B mx s₁ g0 (mkF m pc Ls st) h cells slots sf) {index : Nat} {C : String} {y z : MethodName} {rc rs : Nat} {as' : Array Value} {Q : Option Value → Heap → List Loc → Prop} {ws : List Addr} {rest : List Value}
    (hK : ∀ vm, Z.Warmed39 (s.setVm vm).vm → Back l R p e below (s.setVm vm) args z 3 ((rest.map fun v => v.category).sum) (fun A a => a = as' ∧ A.U.heap = h ∧ A.cells + rc ≤ R.cells ∧ A.slots + rs ≤ R.slots) (fun A _ v B => ∃ L, Q v B.U.heap L ∧ B.locs = A.locs ++ L ∧ B.cells = A.cells + rc ∧ B.slots = A.slots + rs))
    (hKeep : ∀ v h' L, Q v h' L → Fr Z.heap.size L ∧ Keep h h' ws) (hw : ∀ x ∈ ws, x ∈ sf ∧ Z.heap.size ≤ x)
    (w1 : (Jvm.Cond.methodLink own index y).before a0 Z = true) (w2 : (Jvm.Cond.declares y).before a0 Z = true) {CF : String} (wF : (Jvm.Cond.selects CF y y).before a0 Z = true) (w5 : (Jvm.Cond.selects C y z).before a0 Z = true) (w6 : (Jvm.Cond.instanceMethod z).before a0 Z = true) (hy : y.cls ≠ "java/lang/invoke/MethodHandle" ∧ y.cls ≠ "java/lang/invoke/VarHandle")
    {ps : List FieldType} {r : Option FieldType} (pd : parseMethodDescriptor y.desc = some ⟨ps, r⟩) {a : Addr} (E : Exa Z h a C) {argsL : List Value} (hlen : argsL.length = ps.length) (hst : st = argsL.reverse ++ .ref a :: rest) (has : (.ref a :: argsL).toArray = as') (hLs : Ls.size = mx) (dc : decode B pc = .ok (.invokevirtual index, 3))
    (hc : cells + rc ≤ R.cells) (hs : slots + rs ≤ R.slots) (hq : pc + 3 = q) :
    ∃ (ov : Option Value) (h' : Heap) (L : List Loc), Q ov h' L ∧ ∀ st', ov.toList ++ rest = st' → Wk p l e R s m args below meth c Z EL own B mx s₁ g0 (mkF m q Ls st') h' (cells + rc) (slots + rs) sf := by
  subst hq hst has
  obtain ⟨hx, hB, hm, T, vm, locs, k, X, eT, hZ, ho, hS, hk, hC, hO, hF, hsf, st0⟩ := X
  obtain ⟨cq, kq, qa, qb, qc⟩ := isOf (s := s.setVm vm) hZ eT E
  obtain ⟨ov, vm1, B1, -, X', ⟨Lc, hQ, el, ec, es⟩, st'⟩ := X.virtualBack (s := s.setVm vm) hx ho (mvT hZ w1) (mvT hZ w2) (notFace_of_selects (args := #[]) (mvT hZ wF)) (mvT hZ w5) (mvT hZ w6) hy (hK vm hZ) qa qc (g := mkF m pc Ls (argsL.reverse ++ .ref a :: rest)) rfl (by rw [hm]; exact hLs) (Steps.refl _) (argsL := argsL) (rest := rest) (lenOf pd hlen) rfl (by show 2 * 0 + _ ≤ _; omega) (hb hB dc) (fun _ _ => ⟨rfl, eT, hc, hs⟩)
  refine ⟨ov, B1.U.heap, Lc, hQ, fun st1 e1 => ?_⟩
  subst e1
  obtain ⟨hL, K⟩ := hKeep _ _ _ hQ
  exact Wk.behindB hx hB hm hS hk hZ ho hC hO hF hsf X' hL K hw el ec es (st0.trans st')
theorem Wk.backI (X : Wk p l e R s m args below meth c Z EL own B mx s₁ g0 (mkF m pc Ls st) h cells slots sf) {index : Nat} {y : MethodName} {bytes : ByteArray} {maxL : Nat} {rc rs : Nat} {as' : Array Value} {Q : Option Value → Heap → List Loc → Prop} {ws : List Addr} {rest : List Value} (hy1 : y.name = "<init>")
    (hK : ∀ vm, Z.Warmed39 (s.setVm vm).vm → Back l R p e below (s.setVm vm) args y 3 ((rest.map fun v => v.category).sum) (fun A a => a = as' ∧ A.U.heap = h ∧ A.cells + rc ≤ R.cells ∧ A.slots + rs ≤ R.slots) (fun A _ v B => ∃ L, Q v B.U.heap L ∧ B.locs = A.locs ++ L ∧ B.cells = A.cells + rc ∧ B.slots = A.slots + rs))
    (hKeep : ∀ v h' L, Q v h' L → Fr Z.heap.size L ∧ Keep h h' ws) (hw : ∀ x ∈ ws, x ∈ sf ∧ Z.heap.size ≤ x)
    (w1 : (Jvm.Cond.methodLink own index y).before a0 Z = true) (w2 : (Jvm.Cond.instanceMethod y).before a0 Z = true) (w4 : (Jvm.Cond.code y bytes maxL none).before a0 Z = true) (hy : y.cls ≠ "java/lang/invoke/MethodHandle" ∧ y.cls ≠ "java/lang/invoke/VarHandle")
    {ps : List FieldType} {r : Option FieldType} (pd : parseMethodDescriptor y.desc = some ⟨ps, r⟩) {a : Addr} {argsL : List Value} (hlen : argsL.length = ps.length) (hst : st = argsL.reverse ++ .ref a :: rest) (has : (.ref a :: argsL).toArray = as') (hLs : Ls.size = mx) (dc : decode B pc = .ok (.invokespecial index, 3))
    (hc : cells + rc ≤ R.cells) (hs : slots + rs ≤ R.slots) (hq : pc + 3 = q) :
    ∃ (ov : Option Value) (h' : Heap) (L : List Loc), Q ov h' L ∧ ∀ st', ov.toList ++ rest = st' → Wk p l e R s m args below meth c Z EL own B mx s₁ g0 (mkF m q Ls st') h' (cells + rc) (slots + rs) sf := by
  subst hq hst has
  obtain ⟨hx, hB, hm, T, vm, locs, k, X, eT, hZ, ho, hS, hk, hC, hO, hF, hsf, st0⟩ := X
  obtain ⟨ov, vm1, B1, -, X', ⟨Lc, hQ, el, ec, es⟩, st'⟩ := X.specialBack (s := s.setVm vm) hx hy1 ho (mvT hZ w1) (mvT hZ w2) (mvT hZ w4) hy (hK vm hZ) (g := mkF m pc Ls (argsL.reverse ++ .ref a :: rest)) rfl (by rw [hm]; exact hLs) (Steps.refl _) (a := a) (argsL := argsL) (rest := rest) (lenOf pd hlen) rfl (by show 2 * 0 + _ ≤ _; omega) (hb hB dc) (fun _ _ => ⟨rfl, eT, hc, hs⟩)
  refine ⟨ov, B1.U.heap, Lc, hQ, fun st1 e1 => ?_⟩
  subst e1
  obtain ⟨hL, K⟩ := hKeep _ _ _ hQ
  exact Wk.behindB hx hB hm hS hk hZ ho hC hO hF hsf X' hL K hw el ec es (st0.trans st')
end WkKit
section StrKit
variable {p : Program} {l : Launch} {e : Env} {R : Room} {s : State} {m : MethodId} {args : Array Value} {below : List Frame} {meth : Method} {c : Code} {Z : State} {a0 : Array Value} {EL : List (String × Nat)} {own : String} {B : ByteArray} {mx : Nat} {s₁ : State} {g0 g g' : JFrame} {h h' : Heap} {cells slots pc q : Nat} {sf : List Addr} {Ls Ls' : Array Slot} {st rest : List Value} {x y z : Int32} {v w : Value} {a b : Addr} {ws : List Addr} {cs : List Int32}
/-- a String of Latin-1 chars -/
def Str (Z : State) (h : Heap) (a : Addr) (cs : List Int32) : Prop :=
  cs.length ≤ 4000 ∧ (∀ c ∈ cs, ¬ c < 0 ∧ ¬ (255 : Int32) < c) ∧ Exa Z h a "java/lang/String" ∧ Fld Z h a "java/lang/String" "coder" "B" (.int 0) ∧ ∃ (t : Addr) (kb : ClassId), Fld Z h a "java/lang/String" "value" "[B" (.ref t) ∧ Arv Z h t kb .byte (Int32.ofNat cs.length) ((cs.map (fun c => c.toInt8.toInt32)).map Value.int) (.int 0)
/-- no String and no byte[] lies at x -/
def Nst (Z : State) (h : Heap) (x : Addr) : Prop := (∀ a, Exa Z h a "java/lang/String" → a ≠ x) ∧ ∀ t kb z vs d, Arv Z h t kb .byte z vs d → t ≠ x
theorem Nst.exa {C : String} {n : Nat} {x : Addr} (E : Exa Z h x C) (hC : C ≠ "java/lang/String") (wi : (Jvm.Cond.instantiable C n).before a0 Z = true) : Nst Z h x :=
  ⟨fun a F => F.ne E (Ne.symm hC), fun t kb z vs d F => Ne.symm (E.neArv F wi)⟩
theorem Nst.new {x : Addr} (hx : h.size ≤ x) : Nst Z h x := ⟨fun a F => Nat.ne_of_lt (Nat.lt_of_lt_of_le F.lt hx), fun t kb z vs d F => Nat.ne_of_lt (Nat.lt_of_lt_of_le F.lt hx)⟩
theorem Nst.arv {n : Nat} {x : Addr} {k : ClassId} {ty : FieldType} {z : Int32} {vs : List Value} {d : Value} (A : Arv Z h x k ty z vs d) (ht : ty ≠ .byte) (wi : (Jvm.Cond.instantiable "java/lang/String" n).before a0 Z = true) : Nst Z h x := by
  refine ⟨fun a F => F.neArv A wi, fun t kb z' vs' d' F q => ?_⟩
  subst q
  obtain ⟨c1, ⟨e1, ⟨-, k1, i1, co1, j1⟩, -⟩, -⟩ := A
  obtain ⟨c2, ⟨e2, ⟨-, k2, i2, co2, j2⟩, -⟩, -⟩ := F
  cases e1.symm.trans e2
  cases i1.symm.trans i2
  rw [j1] at j2
  cases j2
  exact ht rfl
theorem Str.ext (S : Str Z h a cs) (E : Ext h h') : Str Z h' a cs := by
  obtain ⟨l, b, A, C, t, kb, V, K⟩ := S
  exact ⟨l, b, A.ext E, C.ext E, t, kb, V.ext E, K.ext E⟩
theorem Str.keep (S : Str Z h a cs) (K : Keep h h' ws) (n : ∀ x ∈ ws, Nst Z h x) : Str Z h' a cs := by
  obtain ⟨l, b, A, C, t, kb, V, F⟩ := S
  have na : a ∉ ws := fun q => (n a q).1 a A rfl
  have nt : t ∉ ws := fun q => (n t q).2 t _ _ _ _ F rfl
  exact ⟨l, b, A.keep K, C.keep K na, t, kb, V.keep K na, F.keep K nt⟩
theorem Str.keepS {n : Nat} (S : Str Z h a cs) (K : Keep h h' [b]) (hne : a ≠ b) (E : Exa Z h b "java/lang/String") (wi : (Jvm.Cond.instantiable "java/lang/String" n).before a0 Z = true) : Str Z h' a cs := by
  obtain ⟨l, b0, A, C, t, kb, V, F⟩ := S
  have na : a ∉ [b] := fun q => hne (List.mem_singleton.mp q)
  have nt : t ∉ [b] := fun q => E.neArv F wi (List.mem_singleton.mp q).symm
  exact ⟨l, b0, A.keep K, C.keep K na, t, kb, V.keep K na, F.keep K nt⟩
theorem Str.exa (S : Str Z h a cs) : Exa Z h a "java/lang/String" := S.2.2.1
theorem Str.lt (S : Str Z h a cs) : a < h.size := S.exa.lt
theorem Keep.ofExt (E : Ext h h') : Keep h h' [] := (Keep.refl h []).ext E
theorem Ext.ofKeep (K : Keep h h' []) : Ext h h' := ⟨K.1, fun x c q => K.2.1 x c q (fun r => nomatch r)⟩
theorem Ext.refl (h : Heap) : Ext h h := ⟨Nat.le_refl _, fun _ _ q => q⟩
theorem Ext.trans {h2 : Heap} (A : Ext h h') (B : Ext h' h2) : Ext h h2 := ⟨Nat.le_trans A.1 B.1, fun x c q => B.2 x c (A.2 x c q)⟩
/-- null, or a String -/
def NmOk (Z : State) (h : Heap) (v : Value) : Prop := v = .null ∨ ∃ a, v = .ref a ∧ Exa Z h a "java/lang/String"
theorem NmOk.ext (S : NmOk Z h v) (E : Ext h h') : NmOk Z h' v := S.imp id fun ⟨a, e, F⟩ => ⟨a, e, F.ext E⟩
theorem NmOk.keep (S : NmOk Z h v) (K : Keep h h' ws) : NmOk Z h' v := S.imp id fun ⟨a, e, F⟩ => ⟨a, e, F.keep K⟩
theorem NmOk.ref (S : NmOk Z h v) : v.isRef = true := by rcases S with rfl | ⟨a, rfl, -⟩ <;> rfl
/-! small facts on ints -/
theorem lt32 {x y : Int32} : x < y ↔ x.toInt < y.toInt := Int32.lt_iff_toInt_lt
theorem and255 (x : Int32) : ¬ (x &&& (255 : Int32)) < 0 ∧ ¬ (255 : Int32) < (x &&& (255 : Int32)) := by
  have h := andB x (255 : Int32) (by decide)
  have e : (255 : Int32).toInt = 255 := rfl
  have e0 : (0 : Int32).toInt = 0 := rfl
  exact ⟨fun q => by rw [lt32] at q; omega, fun q => by rw [lt32] at q; omega⟩
/-- an int of 0 to 255 is one of these -/
theorem of255 {x : Int32} (h : ¬ x < 0 ∧ ¬ (255 : Int32) < x) : ∃ k : Fin 256, x = Int32.ofNat k.val := by
  have e : (255 : Int32).toInt = 255 := rfl
  have e0 : (0 : Int32).toInt = 0 := rfl
  obtain ⟨h1, h2⟩ := h
  rw [lt32] at h1 h2
  exact ofRange (by omega) (by omega) (by decide)
theorem nar8 {x : Int32} (h : ¬ x < 0 ∧ ¬ (255 : Int32) < x) : nar .char x = x := by
  obtain ⟨k, rfl⟩ := of255 h
  exact (by decide +kernel : ∀ k : Fin 256, nar .char (Int32.ofNat k.val) = Int32.ofNat k.val) k
theorem narrow8 {x : Int32} (h : ¬ x < 0 ∧ ¬ (255 : Int32) < x) : narrow .char (.int x) = .int x := by
  obtain ⟨k, rfl⟩ := of255 h
  exact (by decide +kernel : ∀ k : Fin 256, narrow .char (.int (Int32.ofNat k.val)) = .int (Int32.ofNat k.val)) k
theorem i2c8 {x : Int32} (h : ¬ x < 0 ∧ ¬ (255 : Int32) < x) : x.toUInt32.toUInt16.toUInt32.toInt32 = x := by
  obtain ⟨k, rfl⟩ := of255 h
  exact (by decide +kernel : ∀ k : Fin 256, (Int32.ofNat k.val).toUInt32.toUInt16.toUInt32.toInt32 = Int32.ofNat k.val) k
theorem up8 (cs : List Int32) (h : ∀ c ∈ cs, ¬ c < 0 ∧ ¬ (255 : Int32) < c) : ∀ c ∈ cs, ¬ c < 0 ∧ ¬ (65535 : Int32) < c := fun c hc => ⟨(h c hc).1, fun q => (h c hc).2 (by rw [Int32.lt_iff_toInt_lt] at q ⊢; have e1 : (65535 : Int32).toInt = 65535 := rfl; have e2 : (255 : Int32).toInt = 255 := rfl; omega)⟩
theorem pdInit : parseMethodDescriptor "([C)V" = some ⟨[.array .char], none⟩ := by decide +kernel
theorem pdLen : parseMethodDescriptor "()I" = some ⟨[], some .int⟩ := by decide +kernel
theorem pdCh : parseMethodDescriptor "(I)C" = some ⟨[.int], some .char⟩ := by decide +kernel
theorem pdEmp : parseMethodDescriptor "()Z" = some ⟨[], some .boolean⟩ := by decide +kernel
theorem pdEq : parseMethodDescriptor "(Ljava/lang/Object;)Z" = some ⟨[.object "java/lang/Object"], some .boolean⟩ := by decide +kernel
theorem Wk.strInit (X : Wk p l e R s m args below meth c Z EL own B mx s₁ g0 (mkF m pc Ls (.ref b :: .ref a :: st)) h cells slots sf) (hws : ∀ d ∈ StrChars.Road.words, d.before a0 Z = true) (wi : (Jvm.Cond.instantiable "java/lang/String" 4).before a0 Z = true) {index : Nat} {bytes : ByteArray} {maxL : Nat}
    (w1 : (Jvm.Cond.methodLink own index ⟨"java/lang/String", "<init>", "([C)V"⟩).before a0 Z = true) (w2 : (Jvm.Cond.instanceMethod ⟨"java/lang/String", "<init>", "([C)V"⟩).before a0 Z = true) (w4 : (Jvm.Cond.code ⟨"java/lang/String", "<init>", "([C)V"⟩ bytes maxL none).before a0 Z = true)
    (E : Exa Z h a "java/lang/String") {v0 c0 d : Value} (V : Fld Z h a "java/lang/String" "value" "[B" v0) (C : Fld Z h a "java/lang/String" "coder" "B" c0) {kC : ClassId} {N : Int32} (K : Arv Z h b kC .char N (cs.map Value.int) d) {G : Int32} (S : Sta Z Z.heap "java/lang/String" "COMPACT_STRINGS" "Z" (.int G)) (hG : ¬ G = 0) (ha : Z.heap.size ≤ a) (hsf : a ∈ sf)
    {n : Nat} (hn : cs.length = n) (hN : N = Int32.ofNat n) (l0 : 0 < n) (l2 : n ≤ 4000) (hp : ∀ c ∈ cs, ¬ c < 0 ∧ ¬ (255 : Int32) < c) (hLs : Ls.size = mx) (dc : decode B pc = .ok (.invokespecial index, 3)) (hf : 4 ≤ R.frames) (hl : (st.map fun v => v.category).sum + 65 ≤ R.locals) (hc : cells + 1 ≤ R.cells) (hs : slots + n ≤ R.slots) (hq : pc + 3 = q) :
    ∃ h' : Heap, Keep h h' [a] ∧ Str Z h' a cs ∧ Wk p l e R s m args below meth c Z EL own B mx s₁ g0 (mkF m q Ls st) h' (cells + 1) (slots + n) sf := by
  subst hn hN
  have O := X.old
  obtain ⟨ov, h', L, ⟨rfl, -, K', E', C', t, kb, -, -, -, V', A'⟩, X'⟩ := X.backI (y := ⟨"java/lang/String", "<init>", "([C)V"⟩) (rest := st) (ws := [a]) (Q := fun v h' L => StrChars.Road.QV Z a (Int32.ofNat cs.length) (cs.map (fun c => c.toInt8.toInt32)) h Z.heap.size v h' L) rfl
    (fun vm hZ => StrChars.Road.backV (n0 := Z.heap.size) hZ hws wi ha O.1 E V C K (S.ext O) hG rfl rfl l0 l2 hp rfl hf hl) (fun v h' L q => ⟨q.2.1, q.2.2.1⟩) (fun x q => by cases List.mem_singleton.mp q; exact ⟨hsf, ha⟩) w1 w2 w4 (by decide) pdInit (a := a) (argsL := [.ref b]) rfl rfl rfl hLs dc hc hs hq
  exact ⟨h', K', ⟨l2, hp, E', C', t, kb, V', A'⟩, X' _ rfl⟩
theorem Wk.strLen (X : Wk p l e R s m args below meth c Z EL own B mx s₁ g0 (mkF m pc Ls (.ref a :: st)) h cells slots sf) (S : Str Z h a cs) (hln : ∀ d ∈ StrChars.Road.wordsLen, d.before a0 Z = true) (wi : (Jvm.Cond.instantiable "java/lang/String" 4).before a0 Z = true) {G : Int32} (Sg : Sta Z Z.heap "java/lang/String" "COMPACT_STRINGS" "Z" (.int G)) (hG : ¬ G = 0) {index : Nat}
    (w1 : (Jvm.Cond.methodLink own index ⟨"java/lang/String", "length", "()I"⟩).before a0 Z = true) (w2 : (Jvm.Cond.declares ⟨"java/lang/String", "length", "()I"⟩).before a0 Z = true) (w5 : (Jvm.Cond.selects "java/lang/String" ⟨"java/lang/String", "length", "()I"⟩ ⟨"java/lang/String", "length", "()I"⟩).before a0 Z = true) (w6 : (Jvm.Cond.instanceMethod ⟨"java/lang/String", "length", "()I"⟩).before a0 Z = true)
    (hLs : Ls.size = mx) (dc : decode B pc = .ok (.invokevirtual index, 3)) (hf : 2 ≤ R.frames) (hl : (st.map fun v => v.category).sum + 25 ≤ R.locals) (hc : cells ≤ R.cells) (hs : slots ≤ R.slots) (hz : Int32.ofNat cs.length = z) (hq : pc + 3 = q) :
    Wk p l e R s m args below meth c Z EL own B mx s₁ g0 (mkF m q Ls (.int z :: st)) h cells slots sf := by
  subst hz
  have O := X.old
  obtain ⟨l2, hp, E, C, t, kb, V, K⟩ := S
  obtain ⟨ov, h', L, ⟨rfl, rfl, rfl⟩, X'⟩ := X.backV (C := "java/lang/String") (y := ⟨"java/lang/String", "length", "()I"⟩) (z := ⟨"java/lang/String", "length", "()I"⟩) (rest := st) (rc := 0) (rs := 0) (ws := []) (Q := fun v h' L => v = some (.int (Int32.ofNat cs.length)) ∧ L = [] ∧ h' = h)
    (fun vm hZ => StrChars.Road.lenW hZ hln wi E V C K (StrChars.Road.codOf rfl fun c hc => (hp c hc).2) (up8 cs hp) (Sg.ext O) hG l2 hf hl) (fun v h' L q => ⟨by rw [q.2.1]; exact Fr.nil _, by rw [q.2.2]; exact Keep.refl _ _⟩) (fun _ q => nomatch q) w1 w2 w5 w5 w6 (by decide) pdLen E (argsL := []) rfl rfl rfl hLs dc hc hs hq
  exact X' _ rfl
theorem Wk.strCh (X : Wk p l e R s m args below meth c Z EL own B mx s₁ g0 (mkF m pc Ls (.int x :: .ref a :: st)) h cells slots sf) (S : Str Z h a cs) (hch : ∀ d ∈ StrChars.Road.wordsChN, d.before a0 Z = true) (wi : (Jvm.Cond.instantiable "java/lang/String" 4).before a0 Z = true) {G : Int32} (Sg : Sta Z Z.heap "java/lang/String" "COMPACT_STRINGS" "Z" (.int G)) (hG : ¬ G = 0) {G3 : Value} (Sf : Sta Z Z.heap "jdk/internal/util/Preconditions" "SIOOBE_FORMATTER" "Ljava/util/function/BiFunction;" G3) (rG : G3.isRef = true) {index : Nat}
    (w1 : (Jvm.Cond.methodLink own index ⟨"java/lang/String", "charAt", "(I)C"⟩).before a0 Z = true) (w2 : (Jvm.Cond.declares ⟨"java/lang/String", "charAt", "(I)C"⟩).before a0 Z = true) (w5 : (Jvm.Cond.selects "java/lang/String" ⟨"java/lang/String", "charAt", "(I)C"⟩ ⟨"java/lang/String", "charAt", "(I)C"⟩).before a0 Z = true) (w6 : (Jvm.Cond.instanceMethod ⟨"java/lang/String", "charAt", "(I)C"⟩).before a0 Z = true)
    {i : Nat} (hi : i < cs.length) (hj : x = Int32.ofNat i) (hLs : Ls.size = mx) (dc : decode B pc = .ok (.invokevirtual index, 3)) (hf : 4 ≤ R.frames) (hl : (st.map fun v => v.category).sum + 53 ≤ R.locals) (hc : cells ≤ R.cells) (hs : slots ≤ R.slots) (hz : cs.getD i 0 = z) (hq : pc + 3 = q) :
    Wk p l e R s m args below meth c Z EL own B mx s₁ g0 (mkF m q Ls (.int z :: st)) h cells slots sf := by
  subst hz
  have O := X.old
  obtain ⟨l2, hp, E, C, t, kb, V, K⟩ := S
  obtain ⟨ov, h', L, ⟨rfl, rfl, rfl⟩, X'⟩ := X.backV (C := "java/lang/String") (y := ⟨"java/lang/String", "charAt", "(I)C"⟩) (z := ⟨"java/lang/String", "charAt", "(I)C"⟩) (rest := st) (rc := 0) (rs := 0) (ws := []) (Q := fun v h' L => v = some (.int (cs.getD i 0)) ∧ L = [] ∧ h' = h)
    (fun vm hZ => StrChars.Road.chN hZ hch wi E V C K (StrChars.Road.codOf rfl fun c hc => (hp c hc).2) (up8 cs hp) (Sg.ext O) hG (Sf.ext O) rG l2 hi hj hf hl) (fun v h' L q => ⟨by rw [q.2.1]; exact Fr.nil _, by rw [q.2.2]; exact Keep.refl _ _⟩) (fun _ q => nomatch q) w1 w2 w5 w5 w6 (by decide) pdCh E (argsL := [.int x]) rfl rfl rfl hLs dc hc hs hq
  exact X' _ rfl
end StrKit
theorem wS_of {Z : State} {a0 : Array Value} (hw : ∀ d ∈ tables_1, d.before a0 Z = true) : ∀ d ∈ Bundle.stringAtoms, d.before a0 Z = true := fun d hd => hw d ((by decide +kernel : ∀ d ∈ Bundle.stringAtoms, d ∈ tables_1) d hd)
theorem hws_of {Z : State} {a0 : Array Value} (hw : ∀ d ∈ tables_1, d.before a0 Z = true) : ∀ d ∈ StrChars.Road.words, d.before a0 Z = true := fun d hd => hw d ((by decide +kernel : ∀ d ∈ StrChars.Road.words, d ∈ tables_1) d hd)
theorem hln_of {Z : State} {a0 : Array Value} (hw : ∀ d ∈ tables_1, d.before a0 Z = true) : ∀ d ∈ StrChars.Road.wordsLen, d.before a0 Z = true := fun d hd => hw d ((by decide +kernel : ∀ d ∈ StrChars.Road.wordsLen, d ∈ tables_1) d hd)
theorem hch_of {Z : State} {a0 : Array Value} (hw : ∀ d ∈ tables_1, d.before a0 Z = true) : ∀ d ∈ StrChars.Road.wordsChN, d.before a0 Z = true := fun d hd => hw d ((by decide +kernel : ∀ d ∈ StrChars.Road.wordsChN, d ∈ tables_1) d hd)
theorem static_exa {s : State} {args : Array Value} {C n d K : String} (hx : (Jvm.Cond.exactly (.static C n d) K).value args s none s [] = some true) (hi : (Jvm.Cond.initializedFor C n d).before args s = true ∨ ((Jvm.Cond.initialized C).before args s = true ∧ (Jvm.Cond.laysStatic C n d).before args s = true)) : ∃ a, Sta s s.heap C n d (.ref a) ∧ a < s.heap.size ∧ Exa s s.heap a K := by
  obtain ⟨a, c, cell, k, e1, e2, e3, e4, e5, e6, e7⟩ := Cond.exactly_spec (Cond.before_iff.mpr hx)
  exact ⟨a, Sta.start e1 hi, (Array.getElem?_eq_some_iff.mp e3).1, Exa.start e1 hx⟩
theorem pn0 : plainName "java/lang/AbstractStringBuilder" = true := by first | (simp [plainName, overriddenIn]; done) | decide +kernel
theorem d0_0 : decode jdk_68_method_2_code 0 = .ok (.aload_n 0, 1) := by decide +kernel
theorem d0_1 : decode jdk_68_method_2_code 1 = .ok (.invokespecial 3, 3) := by decide +kernel
theorem d0_4 : decode jdk_68_method_2_code 4 = .ok (.getstatic 18, 3) := by decide +kernel
theorem d0_7 : decode jdk_68_method_2_code 7 = .ok (.ifCond .eq 18, 3) := by decide +kernel
theorem d0_10 : decode jdk_68_method_2_code 10 = .ok (.aload_n 0, 1) := by decide +kernel
theorem d0_11 : decode jdk_68_method_2_code 11 = .ok (.iload_n 1, 1) := by decide +kernel
theorem d0_12 : decode jdk_68_method_2_code 12 = .ok (.newarray .byte, 2) := by decide +kernel
theorem d0_14 : decode jdk_68_method_2_code 14 = .ok (.putfield 15, 3) := by decide +kernel
theorem d0_17 : decode jdk_68_method_2_code 17 = .ok (.aload_n 0, 1) := by decide +kernel
theorem d0_18 : decode jdk_68_method_2_code 18 = .ok (.iconst 0, 1) := by decide +kernel
theorem d0_19 : decode jdk_68_method_2_code 19 = .ok (.putfield 22, 3) := by decide +kernel
theorem d0_22 : decode jdk_68_method_2_code 22 = .ok (.goto 16, 3) := by decide +kernel
theorem d0_25 : decode jdk_68_method_2_code 25 = .ok (.aload_n 0, 1) := by decide +kernel
theorem d0_26 : decode jdk_68_method_2_code 26 = .ok (.iload_n 1, 1) := by decide +kernel
theorem d0_27 : decode jdk_68_method_2_code 27 = .ok (.invokestatic 26, 3) := by decide +kernel
theorem d0_30 : decode jdk_68_method_2_code 30 = .ok (.putfield 15, 3) := by decide +kernel
theorem d0_33 : decode jdk_68_method_2_code 33 = .ok (.aload_n 0, 1) := by decide +kernel
theorem d0_34 : decode jdk_68_method_2_code 34 = .ok (.iconst 1, 1) := by decide +kernel
theorem d0_35 : decode jdk_68_method_2_code 35 = .ok (.putfield 22, 3) := by decide +kernel
theorem d0_38 : decode jdk_68_method_2_code 38 = .ok (.return_, 1) := by decide +kernel
theorem pn1 : plainName "java/lang/StringBuilder" = true := by first | (simp [plainName, overriddenIn]; done) | decide +kernel
theorem d1_0 : decode jdk_67_method_1_code 0 = .ok (.aload_n 0, 1) := by decide +kernel
theorem d1_1 : decode jdk_67_method_1_code 1 = .ok (.bipush 16, 2) := by decide +kernel
theorem d1_3 : decode jdk_67_method_1_code 3 = .ok (.invokespecial 1, 3) := by decide +kernel
theorem d1_6 : decode jdk_67_method_1_code 6 = .ok (.return_, 1) := by decide +kernel
theorem pd0 : parseMethodDescriptor "(I)V" = some ⟨[.int], none⟩ := by decide +kernel
theorem pn2 : plainName "java/lang/String" = true := by first | (simp [plainName, overriddenIn]; done) | decide +kernel
theorem d2_0 : decode jdk_42_method_152_code 0 = .ok (.getstatic 38, 3) := by decide +kernel
theorem d2_3 : decode jdk_42_method_152_code 3 = .ok (.ifCond .eq 10, 3) := by decide +kernel
theorem d2_6 : decode jdk_42_method_152_code 6 = .ok (.aload_n 0, 1) := by decide +kernel
theorem d2_7 : decode jdk_42_method_152_code 7 = .ok (.getfield 15, 3) := by decide +kernel
theorem d2_10 : decode jdk_42_method_152_code 10 = .ok (.goto 4, 3) := by decide +kernel
theorem d2_13 : decode jdk_42_method_152_code 13 = .ok (.iconst 1, 1) := by decide +kernel
theorem d2_14 : decode jdk_42_method_152_code 14 = .ok (.ireturn, 1) := by decide +kernel
theorem d3_0 : decode jdk_68_method_64_code 0 = .ok (.aload_n 0, 1) := by decide +kernel
theorem d3_1 : decode jdk_68_method_64_code 1 = .ok (.getfield 15, 3) := by decide +kernel
theorem d3_4 : decode jdk_68_method_64_code 4 = .ok (.areturn, 1) := by decide +kernel
theorem d4_0 : decode jdk_68_method_6_code 0 = .ok (.aload_n 0, 1) := by decide +kernel
theorem d4_1 : decode jdk_68_method_6_code 1 = .ok (.getfield 79, 3) := by decide +kernel
theorem d4_4 : decode jdk_68_method_6_code 4 = .ok (.ireturn, 1) := by decide +kernel
theorem d5_0 : decode jdk_67_method_93_code 0 = .ok (.aload_n 0, 1) := by decide +kernel
theorem d5_1 : decode jdk_67_method_93_code 1 = .ok (.invokespecial 343, 3) := by decide +kernel
theorem d5_4 : decode jdk_67_method_93_code 4 = .ok (.ireturn, 1) := by decide +kernel
theorem pd1 : parseMethodDescriptor "()I" = some ⟨[], some .int⟩ := by decide +kernel
theorem d6_0 : decode jdk_68_method_68_code 0 = .ok (.getstatic 18, 3) := by decide +kernel
theorem d6_3 : decode jdk_68_method_68_code 3 = .ok (.ifCond .eq 14, 3) := by decide +kernel
theorem d6_6 : decode jdk_68_method_68_code 6 = .ok (.aload_n 0, 1) := by decide +kernel
theorem d6_7 : decode jdk_68_method_68_code 7 = .ok (.getfield 22, 3) := by decide +kernel
theorem d6_10 : decode jdk_68_method_68_code 10 = .ok (.ifCond .ne 7, 3) := by decide +kernel
theorem d6_13 : decode jdk_68_method_68_code 13 = .ok (.iconst 1, 1) := by decide +kernel
theorem d6_14 : decode jdk_68_method_68_code 14 = .ok (.goto 4, 3) := by decide +kernel
theorem d6_17 : decode jdk_68_method_68_code 17 = .ok (.iconst 0, 1) := by decide +kernel
theorem d6_18 : decode jdk_68_method_68_code 18 = .ok (.ireturn, 1) := by decide +kernel
theorem d7_0 : decode jdk_68_method_9_code 0 = .ok (.aload_n 0, 1) := by decide +kernel
theorem d7_1 : decode jdk_68_method_9_code 1 = .ok (.getfield 15, 3) := by decide +kernel
theorem d7_4 : decode jdk_68_method_9_code 4 = .ok (.arraylength, 1) := by decide +kernel
theorem d7_5 : decode jdk_68_method_9_code 5 = .ok (.aload_n 0, 1) := by decide +kernel
theorem d7_6 : decode jdk_68_method_9_code 6 = .ok (.getfield 22, 3) := by decide +kernel
theorem d7_9 : decode jdk_68_method_9_code 9 = .ok (.ishr, 1) := by decide +kernel
theorem d7_10 : decode jdk_68_method_9_code 10 = .ok (.istore_n 2, 1) := by decide +kernel
theorem d7_11 : decode jdk_68_method_9_code 11 = .ok (.iload_n 1, 1) := by decide +kernel
theorem d7_12 : decode jdk_68_method_9_code 12 = .ok (.iload_n 2, 1) := by decide +kernel
theorem d7_13 : decode jdk_68_method_9_code 13 = .ok (.isub, 1) := by decide +kernel
theorem d7_14 : decode jdk_68_method_9_code 14 = .ok (.ifCond .le 24, 3) := by decide +kernel
theorem d7_17 : decode jdk_68_method_9_code 17 = .ok (.aload_n 0, 1) := by decide +kernel
theorem d7_18 : decode jdk_68_method_9_code 18 = .ok (.aload_n 0, 1) := by decide +kernel
theorem d7_19 : decode jdk_68_method_9_code 19 = .ok (.getfield 15, 3) := by decide +kernel
theorem d7_22 : decode jdk_68_method_9_code 22 = .ok (.aload_n 0, 1) := by decide +kernel
theorem d7_23 : decode jdk_68_method_9_code 23 = .ok (.iload_n 1, 1) := by decide +kernel
theorem d7_24 : decode jdk_68_method_9_code 24 = .ok (.invokevirtual 104, 3) := by decide +kernel
theorem d7_27 : decode jdk_68_method_9_code 27 = .ok (.aload_n 0, 1) := by decide +kernel
theorem d7_28 : decode jdk_68_method_9_code 28 = .ok (.getfield 22, 3) := by decide +kernel
theorem d7_31 : decode jdk_68_method_9_code 31 = .ok (.ishl, 1) := by decide +kernel
theorem d7_32 : decode jdk_68_method_9_code 32 = .ok (.invokestatic 108, 3) := by decide +kernel
theorem d7_35 : decode jdk_68_method_9_code 35 = .ok (.putfield 15, 3) := by decide +kernel
theorem d7_38 : decode jdk_68_method_9_code 38 = .ok (.return_, 1) := by decide +kernel
theorem d8_0 : decode jdk_68_method_71_code 0 = .ok (.getstatic 18, 3) := by decide +kernel
theorem d8_3 : decode jdk_68_method_71_code 3 = .ok (.ifCond .eq 18, 3) := by decide +kernel
theorem d8_6 : decode jdk_68_method_71_code 6 = .ok (.aload_n 0, 1) := by decide +kernel
theorem d8_7 : decode jdk_68_method_71_code 7 = .ok (.getfield 22, 3) := by decide +kernel
theorem d8_10 : decode jdk_68_method_71_code 10 = .ok (.aload_n 1, 1) := by decide +kernel
theorem d8_11 : decode jdk_68_method_71_code 11 = .ok (.invokevirtual 40, 3) := by decide +kernel
theorem d8_14 : decode jdk_68_method_71_code 14 = .ok (.if_icmp .eq 7, 3) := by decide +kernel
theorem d8_17 : decode jdk_68_method_71_code 17 = .ok (.aload_n 0, 1) := by decide +kernel
theorem d8_18 : decode jdk_68_method_71_code 18 = .ok (.invokevirtual 195, 3) := by decide +kernel
theorem d8_21 : decode jdk_68_method_71_code 21 = .ok (.return_, 1) := by decide +kernel
theorem pd2 : parseMethodDescriptor "()B" = some ⟨[], some .byte⟩ := by decide +kernel
theorem d9_0 : decode jdk_42_method_147_code 0 = .ok (.aload_n 0, 1) := by decide +kernel
theorem d9_1 : decode jdk_42_method_147_code 1 = .ok (.invokevirtual 335, 3) := by decide +kernel
theorem d9_4 : decode jdk_42_method_147_code 4 = .ok (.iload_n 3, 1) := by decide +kernel
theorem d9_5 : decode jdk_42_method_147_code 5 = .ok (.if_icmp .ne 23, 3) := by decide +kernel
theorem d9_8 : decode jdk_42_method_147_code 8 = .ok (.aload_n 0, 1) := by decide +kernel
theorem d9_9 : decode jdk_42_method_147_code 9 = .ok (.getfield 9, 3) := by decide +kernel
theorem d9_12 : decode jdk_42_method_147_code 12 = .ok (.iconst 0, 1) := by decide +kernel
theorem d9_13 : decode jdk_42_method_147_code 13 = .ok (.aload_n 1, 1) := by decide +kernel
theorem d9_14 : decode jdk_42_method_147_code 14 = .ok (.iload_n 2, 1) := by decide +kernel
theorem d9_15 : decode jdk_42_method_147_code 15 = .ok (.iload_n 3, 1) := by decide +kernel
theorem d9_16 : decode jdk_42_method_147_code 16 = .ok (.ishl, 1) := by decide +kernel
theorem d9_17 : decode jdk_42_method_147_code 17 = .ok (.aload_n 0, 1) := by decide +kernel
theorem d9_18 : decode jdk_42_method_147_code 18 = .ok (.getfield 9, 3) := by decide +kernel
theorem d9_21 : decode jdk_42_method_147_code 21 = .ok (.arraylength, 1) := by decide +kernel
theorem d9_22 : decode jdk_42_method_147_code 22 = .ok (.invokestatic 212, 3) := by decide +kernel
theorem d9_25 : decode jdk_42_method_147_code 25 = .ok (.goto 18, 3) := by decide +kernel
theorem d9_28 : decode jdk_42_method_147_code 28 = .ok (.aload_n 0, 1) := by decide +kernel
theorem d9_29 : decode jdk_42_method_147_code 29 = .ok (.getfield 9, 3) := by decide +kernel
theorem d9_32 : decode jdk_42_method_147_code 32 = .ok (.iconst 0, 1) := by decide +kernel
theorem d9_33 : decode jdk_42_method_147_code 33 = .ok (.aload_n 1, 1) := by decide +kernel
theorem d9_34 : decode jdk_42_method_147_code 34 = .ok (.iload_n 2, 1) := by decide +kernel
theorem d9_35 : decode jdk_42_method_147_code 35 = .ok (.aload_n 0, 1) := by decide +kernel
theorem d9_36 : decode jdk_42_method_147_code 36 = .ok (.getfield 9, 3) := by decide +kernel
theorem d9_39 : decode jdk_42_method_147_code 39 = .ok (.arraylength, 1) := by decide +kernel
theorem d9_40 : decode jdk_42_method_147_code 40 = .ok (.invokestatic 106, 3) := by decide +kernel
theorem d9_43 : decode jdk_42_method_147_code 43 = .ok (.return_, 1) := by decide +kernel
theorem d10_0 : decode jdk_68_method_73_code 0 = .ok (.aload_n 0, 1) := by decide +kernel
theorem d10_1 : decode jdk_68_method_73_code 1 = .ok (.aload_n 2, 1) := by decide +kernel
theorem d10_2 : decode jdk_68_method_73_code 2 = .ok (.invokevirtual 397, 3) := by decide +kernel
theorem d10_5 : decode jdk_68_method_73_code 5 = .ok (.aload_n 2, 1) := by decide +kernel
theorem d10_6 : decode jdk_68_method_73_code 6 = .ok (.aload_n 0, 1) := by decide +kernel
theorem d10_7 : decode jdk_68_method_73_code 7 = .ok (.getfield 15, 3) := by decide +kernel
theorem d10_10 : decode jdk_68_method_73_code 10 = .ok (.iload_n 1, 1) := by decide +kernel
theorem d10_11 : decode jdk_68_method_73_code 11 = .ok (.aload_n 0, 1) := by decide +kernel
theorem d10_12 : decode jdk_68_method_73_code 12 = .ok (.getfield 22, 3) := by decide +kernel
theorem d10_15 : decode jdk_68_method_73_code 15 = .ok (.invokevirtual 399, 3) := by decide +kernel
theorem d10_18 : decode jdk_68_method_73_code 18 = .ok (.return_, 1) := by decide +kernel
theorem pd3 : parseMethodDescriptor "(Ljava/lang/String;)V" = some ⟨[(.object "java/lang/String")], none⟩ := by decide +kernel
theorem pd4 : parseMethodDescriptor "([BIB)V" = some ⟨[(.array .byte), .int, .byte], none⟩ := by decide +kernel
theorem d11_0 : decode jdk_68_method_22_code 0 = .ok (.aload_n 1, 1) := by decide +kernel
theorem d11_1 : decode jdk_68_method_22_code 1 = .ok (.ifnonnull 8, 3) := by decide +kernel
theorem d11_4 : decode jdk_68_method_22_code 4 = .ok (.aload_n 0, 1) := by decide +kernel
theorem d11_5 : decode jdk_68_method_22_code 5 = .ok (.invokevirtual 204, 3) := by decide +kernel
theorem d11_8 : decode jdk_68_method_22_code 8 = .ok (.areturn, 1) := by decide +kernel
theorem d11_9 : decode jdk_68_method_22_code 9 = .ok (.aload_n 1, 1) := by decide +kernel
theorem d11_10 : decode jdk_68_method_22_code 10 = .ok (.invokevirtual 32, 3) := by decide +kernel
theorem d11_13 : decode jdk_68_method_22_code 13 = .ok (.istore_n 2, 1) := by decide +kernel
theorem d11_14 : decode jdk_68_method_22_code 14 = .ok (.aload_n 0, 1) := by decide +kernel
theorem d11_15 : decode jdk_68_method_22_code 15 = .ok (.aload_n 0, 1) := by decide +kernel
theorem d11_16 : decode jdk_68_method_22_code 16 = .ok (.getfield 79, 3) := by decide +kernel
theorem d11_19 : decode jdk_68_method_22_code 19 = .ok (.iload_n 2, 1) := by decide +kernel
theorem d11_20 : decode jdk_68_method_22_code 20 = .ok (.iadd, 1) := by decide +kernel
theorem d11_21 : decode jdk_68_method_22_code 21 = .ok (.invokevirtual 100, 3) := by decide +kernel
theorem d11_24 : decode jdk_68_method_22_code 24 = .ok (.aload_n 0, 1) := by decide +kernel
theorem d11_25 : decode jdk_68_method_22_code 25 = .ok (.aload_n 0, 1) := by decide +kernel
theorem d11_26 : decode jdk_68_method_22_code 26 = .ok (.getfield 79, 3) := by decide +kernel
theorem d11_29 : decode jdk_68_method_22_code 29 = .ok (.aload_n 1, 1) := by decide +kernel
theorem d11_30 : decode jdk_68_method_22_code 30 = .ok (.invokevirtual 208, 3) := by decide +kernel
theorem d11_33 : decode jdk_68_method_22_code 33 = .ok (.aload_n 0, 1) := by decide +kernel
theorem d11_34 : decode jdk_68_method_22_code 34 = .ok (.dup, 1) := by decide +kernel
theorem d11_35 : decode jdk_68_method_22_code 35 = .ok (.getfield 79, 3) := by decide +kernel
theorem d11_38 : decode jdk_68_method_22_code 38 = .ok (.iload_n 2, 1) := by decide +kernel
theorem d11_39 : decode jdk_68_method_22_code 39 = .ok (.iadd, 1) := by decide +kernel
theorem d11_40 : decode jdk_68_method_22_code 40 = .ok (.putfield 79, 3) := by decide +kernel
theorem d11_43 : decode jdk_68_method_22_code 43 = .ok (.aload_n 0, 1) := by decide +kernel
theorem d11_44 : decode jdk_68_method_22_code 44 = .ok (.areturn, 1) := by decide +kernel
theorem pd5 : parseMethodDescriptor "(ILjava/lang/String;)V" = some ⟨[.int, (.object "java/lang/String")], none⟩ := by decide +kernel
theorem d12_0 : decode jdk_67_method_7_code 0 = .ok (.aload_n 0, 1) := by decide +kernel
theorem d12_1 : decode jdk_67_method_7_code 1 = .ok (.aload_n 1, 1) := by decide +kernel
theorem d12_2 : decode jdk_67_method_7_code 2 = .ok (.invokespecial 29, 3) := by decide +kernel
theorem d12_5 : decode jdk_67_method_7_code 5 = .ok (.pop, 1) := by decide +kernel
theorem d12_6 : decode jdk_67_method_7_code 6 = .ok (.aload_n 0, 1) := by decide +kernel
theorem d12_7 : decode jdk_67_method_7_code 7 = .ok (.areturn, 1) := by decide +kernel
theorem pd6 : parseMethodDescriptor "(Ljava/lang/String;)Ljava/lang/AbstractStringBuilder;" = some ⟨[(.object "java/lang/String")], some (.object "java/lang/AbstractStringBuilder")⟩ := by decide +kernel
theorem pn3 : plainName "java/util/Arrays" = true := by first | (simp [plainName, overriddenIn]; done) | decide +kernel
theorem d13_0 : decode jdk_65_method_131_code 0 = .ok (.iload_n 1, 1) := by decide +kernel
theorem d13_1 : decode jdk_65_method_131_code 1 = .ok (.iload_n 0, 1) := by decide +kernel
theorem d13_2 : decode jdk_65_method_131_code 2 = .ok (.if_icmp .ge 35, 3) := by decide +kernel
theorem d13_5 : decode jdk_65_method_131_code 5 = .ok (.new 43, 3) := by decide +kernel
theorem d13_8 : decode jdk_65_method_131_code 8 = .ok (.dup, 1) := by decide +kernel
theorem d13_9 : decode jdk_65_method_131_code 9 = .ok (.new 45, 3) := by decide +kernel
theorem d13_12 : decode jdk_65_method_131_code 12 = .ok (.dup, 1) := by decide +kernel
theorem d13_13 : decode jdk_65_method_131_code 13 = .ok (.invokespecial 47, 3) := by decide +kernel
theorem d13_16 : decode jdk_65_method_131_code 16 = .ok (.iload_n 0, 1) := by decide +kernel
theorem d13_17 : decode jdk_65_method_131_code 17 = .ok (.invokevirtual 54, 3) := by decide +kernel
theorem d13_20 : decode jdk_65_method_131_code 20 = .ok (.ldc_w 337, 3) := by decide +kernel
theorem d13_23 : decode jdk_65_method_131_code 23 = .ok (.invokevirtual 50, 3) := by decide +kernel
theorem d13_26 : decode jdk_65_method_131_code 26 = .ok (.iload_n 1, 1) := by decide +kernel
theorem d13_27 : decode jdk_65_method_131_code 27 = .ok (.invokevirtual 54, 3) := by decide +kernel
theorem d13_30 : decode jdk_65_method_131_code 30 = .ok (.invokevirtual 61, 3) := by decide +kernel
theorem d13_33 : decode jdk_65_method_131_code 33 = .ok (.invokespecial 65, 3) := by decide +kernel
theorem d13_36 : decode jdk_65_method_131_code 36 = .ok (.athrow, 1) := by decide +kernel
theorem d13_37 : decode jdk_65_method_131_code 37 = .ok (.return_, 1) := by decide +kernel
theorem d14_0 : decode jdk_29_method_69_code 0 = .ok (.iload_n 0, 1) := by decide +kernel
theorem d14_1 : decode jdk_29_method_69_code 1 = .ok (.iload_n 1, 1) := by decide +kernel
theorem d14_2 : decode jdk_29_method_69_code 2 = .ok (.if_icmp .gt 7, 3) := by decide +kernel
theorem d14_5 : decode jdk_29_method_69_code 5 = .ok (.iload_n 0, 1) := by decide +kernel
theorem d14_6 : decode jdk_29_method_69_code 6 = .ok (.goto 4, 3) := by decide +kernel
theorem d14_9 : decode jdk_29_method_69_code 9 = .ok (.iload_n 1, 1) := by decide +kernel
theorem d14_10 : decode jdk_29_method_69_code 10 = .ok (.ireturn, 1) := by decide +kernel
theorem d15_0 : decode jdk_65_method_133_code 0 = .ok (.iload_n 1, 1) := by decide +kernel
theorem d15_1 : decode jdk_65_method_133_code 1 = .ok (.iload_n 2, 1) := by decide +kernel
theorem d15_2 : decode jdk_65_method_133_code 2 = .ok (.invokestatic 343, 3) := by decide +kernel
theorem d15_5 : decode jdk_65_method_133_code 5 = .ok (.iload_n 2, 1) := by decide +kernel
theorem d15_6 : decode jdk_65_method_133_code 6 = .ok (.iload_n 1, 1) := by decide +kernel
theorem d15_7 : decode jdk_65_method_133_code 7 = .ok (.isub, 1) := by decide +kernel
theorem d15_8 : decode jdk_65_method_133_code 8 = .ok (.istore_n 3, 1) := by decide +kernel
theorem d15_9 : decode jdk_65_method_133_code 9 = .ok (.iload_n 3, 1) := by decide +kernel
theorem d15_10 : decode jdk_65_method_133_code 10 = .ok (.newarray .byte, 2) := by decide +kernel
theorem d15_12 : decode jdk_65_method_133_code 12 = .ok (.astore 4, 2) := by decide +kernel
theorem d15_14 : decode jdk_65_method_133_code 14 = .ok (.aload_n 0, 1) := by decide +kernel
theorem d15_15 : decode jdk_65_method_133_code 15 = .ok (.iload_n 1, 1) := by decide +kernel
theorem d15_16 : decode jdk_65_method_133_code 16 = .ok (.aload 4, 2) := by decide +kernel
theorem d15_18 : decode jdk_65_method_133_code 18 = .ok (.iconst 0, 1) := by decide +kernel
theorem d15_19 : decode jdk_65_method_133_code 19 = .ok (.aload_n 0, 1) := by decide +kernel
theorem d15_20 : decode jdk_65_method_133_code 20 = .ok (.arraylength, 1) := by decide +kernel
theorem d15_21 : decode jdk_65_method_133_code 21 = .ok (.iload_n 1, 1) := by decide +kernel
theorem d15_22 : decode jdk_65_method_133_code 22 = .ok (.isub, 1) := by decide +kernel
theorem d15_23 : decode jdk_65_method_133_code 23 = .ok (.iload_n 3, 1) := by decide +kernel
theorem d15_24 : decode jdk_65_method_133_code 24 = .ok (.invokestatic 304, 3) := by decide +kernel
theorem d15_27 : decode jdk_65_method_133_code 27 = .ok (.invokestatic 150, 3) := by decide +kernel
theorem d15_30 : decode jdk_65_method_133_code 30 = .ok (.aload 4, 2) := by decide +kernel
theorem d15_32 : decode jdk_65_method_133_code 32 = .ok (.areturn, 1) := by decide +kernel
theorem pd7 : parseMethodDescriptor "(II)V" = some ⟨[.int, .int], none⟩ := by decide +kernel
theorem pd8 : parseMethodDescriptor "(II)I" = some ⟨[.int, .int], some .int⟩ := by decide +kernel
theorem d16_0 : decode jdk_65_method_132_code 0 = .ok (.iload_n 1, 1) := by decide +kernel
theorem d16_1 : decode jdk_65_method_132_code 1 = .ok (.ifCond .ne 9, 3) := by decide +kernel
theorem d16_4 : decode jdk_65_method_132_code 4 = .ok (.iload_n 2, 1) := by decide +kernel
theorem d16_5 : decode jdk_65_method_132_code 5 = .ok (.aload_n 0, 1) := by decide +kernel
theorem d16_6 : decode jdk_65_method_132_code 6 = .ok (.arraylength, 1) := by decide +kernel
theorem d16_7 : decode jdk_65_method_132_code 7 = .ok (.if_icmp .eq 10, 3) := by decide +kernel
theorem d16_10 : decode jdk_65_method_132_code 10 = .ok (.aload_n 0, 1) := by decide +kernel
theorem d16_11 : decode jdk_65_method_132_code 11 = .ok (.iload_n 1, 1) := by decide +kernel
theorem d16_12 : decode jdk_65_method_132_code 12 = .ok (.iload_n 2, 1) := by decide +kernel
theorem d16_13 : decode jdk_65_method_132_code 13 = .ok (.invokestatic 339, 3) := by decide +kernel
theorem d16_16 : decode jdk_65_method_132_code 16 = .ok (.areturn, 1) := by decide +kernel
theorem d16_17 : decode jdk_65_method_132_code 17 = .ok (.aload_n 0, 1) := by decide +kernel
theorem d16_18 : decode jdk_65_method_132_code 18 = .ok (.invokevirtual 310, 3) := by decide +kernel
theorem d16_21 : decode jdk_65_method_132_code 21 = .ok (.checkcast 311, 3) := by decide +kernel
theorem d16_24 : decode jdk_65_method_132_code 24 = .ok (.areturn, 1) := by decide +kernel
theorem pd9 : parseMethodDescriptor "([BII)[B" = some ⟨[(.array .byte), .int, .int], some (.array .byte)⟩ := by decide +kernel
theorem d17_0 : decode jdk_42_method_150_code 0 = .ok (.aload_n 0, 1) := by decide +kernel
theorem d17_1 : decode jdk_42_method_150_code 1 = .ok (.invokespecial 1, 3) := by decide +kernel
theorem d17_4 : decode jdk_42_method_150_code 4 = .ok (.aload_n 1, 1) := by decide +kernel
theorem d17_5 : decode jdk_42_method_150_code 5 = .ok (.invokevirtual 552, 3) := by decide +kernel
theorem d17_8 : decode jdk_42_method_150_code 8 = .ok (.astore_n 3, 1) := by decide +kernel
theorem d17_9 : decode jdk_42_method_150_code 9 = .ok (.aload_n 1, 1) := by decide +kernel
theorem d17_10 : decode jdk_42_method_150_code 10 = .ok (.invokevirtual 549, 3) := by decide +kernel
theorem d17_13 : decode jdk_42_method_150_code 13 = .ok (.istore 4, 2) := by decide +kernel
theorem d17_15 : decode jdk_42_method_150_code 15 = .ok (.aload_n 1, 1) := by decide +kernel
theorem d17_16 : decode jdk_42_method_150_code 16 = .ok (.invokevirtual 1047, 3) := by decide +kernel
theorem d17_19 : decode jdk_42_method_150_code 19 = .ok (.ifCond .eq 22, 3) := by decide +kernel
theorem d17_22 : decode jdk_42_method_150_code 22 = .ok (.aload_n 0, 1) := by decide +kernel
theorem d17_23 : decode jdk_42_method_150_code 23 = .ok (.iconst 0, 1) := by decide +kernel
theorem d17_24 : decode jdk_42_method_150_code 24 = .ok (.putfield 15, 3) := by decide +kernel
theorem d17_27 : decode jdk_42_method_150_code 27 = .ok (.aload_n 0, 1) := by decide +kernel
theorem d17_28 : decode jdk_42_method_150_code 28 = .ok (.aload_n 3, 1) := by decide +kernel
theorem d17_29 : decode jdk_42_method_150_code 29 = .ok (.iconst 0, 1) := by decide +kernel
theorem d17_30 : decode jdk_42_method_150_code 30 = .ok (.iload 4, 2) := by decide +kernel
theorem d17_32 : decode jdk_42_method_150_code 32 = .ok (.invokestatic 54, 3) := by decide +kernel
theorem d17_35 : decode jdk_42_method_150_code 35 = .ok (.putfield 9, 3) := by decide +kernel
theorem d17_38 : decode jdk_42_method_150_code 38 = .ok (.goto 59, 3) := by decide +kernel
theorem d17_41 : decode jdk_42_method_150_code 41 = .ok (.getstatic 38, 3) := by decide +kernel
theorem d17_44 : decode jdk_42_method_150_code 44 = .ok (.ifCond .eq 35, 3) := by decide +kernel
theorem d17_47 : decode jdk_42_method_150_code 47 = .ok (.aload_n 1, 1) := by decide +kernel
theorem d17_48 : decode jdk_42_method_150_code 48 = .ok (.getfield 1048, 3) := by decide +kernel
theorem d17_51 : decode jdk_42_method_150_code 51 = .ok (.ifCond .eq 28, 3) := by decide +kernel
theorem d17_54 : decode jdk_42_method_150_code 54 = .ok (.aload_n 0, 1) := by decide +kernel
theorem d17_55 : decode jdk_42_method_150_code 55 = .ok (.aload_n 3, 1) := by decide +kernel
theorem d17_56 : decode jdk_42_method_150_code 56 = .ok (.iconst 0, 1) := by decide +kernel
theorem d17_57 : decode jdk_42_method_150_code 57 = .ok (.iload 4, 2) := by decide +kernel
theorem d17_59 : decode jdk_42_method_150_code 59 = .ok (.invokestatic 1051, 3) := by decide +kernel
theorem d17_62 : decode jdk_42_method_150_code 62 = .ok (.putfield 9, 3) := by decide +kernel
theorem d17_65 : decode jdk_42_method_150_code 65 = .ok (.aload_n 0, 1) := by decide +kernel
theorem d17_66 : decode jdk_42_method_150_code 66 = .ok (.aload_n 0, 1) := by decide +kernel
theorem d17_67 : decode jdk_42_method_150_code 67 = .ok (.getfield 9, 3) := by decide +kernel
theorem d17_70 : decode jdk_42_method_150_code 70 = .ok (.iload 4, 2) := by decide +kernel
theorem d17_72 : decode jdk_42_method_150_code 72 = .ok (.invokestatic 47, 3) := by decide +kernel
theorem d17_75 : decode jdk_42_method_150_code 75 = .ok (.putfield 15, 3) := by decide +kernel
theorem d17_78 : decode jdk_42_method_150_code 78 = .ok (.return_, 1) := by decide +kernel
theorem d17_79 : decode jdk_42_method_150_code 79 = .ok (.aload_n 0, 1) := by decide +kernel
theorem d17_80 : decode jdk_42_method_150_code 80 = .ok (.iconst 1, 1) := by decide +kernel
theorem d17_81 : decode jdk_42_method_150_code 81 = .ok (.putfield 15, 3) := by decide +kernel
theorem d17_84 : decode jdk_42_method_150_code 84 = .ok (.aload_n 0, 1) := by decide +kernel
theorem d17_85 : decode jdk_42_method_150_code 85 = .ok (.aload_n 3, 1) := by decide +kernel
theorem d17_86 : decode jdk_42_method_150_code 86 = .ok (.iconst 0, 1) := by decide +kernel
theorem d17_87 : decode jdk_42_method_150_code 87 = .ok (.iload 4, 2) := by decide +kernel
theorem d17_89 : decode jdk_42_method_150_code 89 = .ok (.iconst 1, 1) := by decide +kernel
theorem d17_90 : decode jdk_42_method_150_code 90 = .ok (.ishl, 1) := by decide +kernel
theorem d17_91 : decode jdk_42_method_150_code 91 = .ok (.invokestatic 54, 3) := by decide +kernel
theorem d17_94 : decode jdk_42_method_150_code 94 = .ok (.putfield 9, 3) := by decide +kernel
theorem d17_97 : decode jdk_42_method_150_code 97 = .ok (.return_, 1) := by decide +kernel
theorem pd10 : parseMethodDescriptor "()[B" = some ⟨[], some (.array .byte)⟩ := by decide +kernel
theorem pd11 : parseMethodDescriptor "()Z" = some ⟨[], some .boolean⟩ := by decide +kernel
theorem d18_0 : decode jdk_42_method_53_code 0 = .ok (.aload_n 0, 1) := by decide +kernel
theorem d18_1 : decode jdk_42_method_53_code 1 = .ok (.aload_n 1, 1) := by decide +kernel
theorem d18_2 : decode jdk_42_method_53_code 2 = .ok (.aconst_null, 1) := by decide +kernel
theorem d18_3 : decode jdk_42_method_53_code 3 = .ok (.invokespecial 489, 3) := by decide +kernel
theorem d18_6 : decode jdk_42_method_53_code 6 = .ok (.return_, 1) := by decide +kernel
theorem pd12 : parseMethodDescriptor "(Ljava/lang/AbstractStringBuilder;Ljava/lang/Void;)V" = some ⟨[(.object "java/lang/AbstractStringBuilder"), (.object "java/lang/Void")], none⟩ := by decide +kernel
theorem d19_0 : decode jdk_67_method_42_code 0 = .ok (.new 18, 3) := by decide +kernel
theorem d19_3 : decode jdk_67_method_42_code 3 = .ok (.dup, 1) := by decide +kernel
theorem d19_4 : decode jdk_67_method_42_code 4 = .ok (.aload_n 0, 1) := by decide +kernel
theorem d19_5 : decode jdk_67_method_42_code 5 = .ok (.invokespecial 137, 3) := by decide +kernel
theorem d19_8 : decode jdk_67_method_42_code 8 = .ok (.areturn, 1) := by decide +kernel
theorem pd13 : parseMethodDescriptor "(Ljava/lang/StringBuilder;)V" = some ⟨[(.object "java/lang/StringBuilder")], none⟩ := by decide +kernel
theorem pn4 : plainName "com/example/lectern/lectern/demo/Profile" = true := by first | (simp [plainName, overriddenIn]; done) | decide +kernel
theorem d20_0 : decode prog_31_method_1_code 0 = .ok (.aload_n 0, 1) := by decide +kernel
theorem d20_1 : decode prog_31_method_1_code 1 = .ok (.invokespecial 1, 3) := by decide +kernel
theorem d20_4 : decode prog_31_method_1_code 4 = .ok (.aload_n 0, 1) := by decide +kernel
theorem d20_5 : decode prog_31_method_1_code 5 = .ok (.ldc 7, 2) := by decide +kernel
theorem d20_7 : decode prog_31_method_1_code 7 = .ok (.putfield 9, 3) := by decide +kernel
theorem d20_10 : decode prog_31_method_1_code 10 = .ok (.aload_n 0, 1) := by decide +kernel
theorem d20_11 : decode prog_31_method_1_code 11 = .ok (.ldc 7, 2) := by decide +kernel
theorem d20_13 : decode prog_31_method_1_code 13 = .ok (.putfield 15, 3) := by decide +kernel
theorem d20_16 : decode prog_31_method_1_code 16 = .ok (.return_, 1) := by decide +kernel
theorem d21_0 : decode prog_31_method_3_code 0 = .ok (.aload_n 0, 1) := by decide +kernel
theorem d21_1 : decode prog_31_method_3_code 1 = .ok (.aload_n 1, 1) := by decide +kernel
theorem d21_2 : decode prog_31_method_3_code 2 = .ok (.putfield 9, 3) := by decide +kernel
theorem d21_5 : decode prog_31_method_3_code 5 = .ok (.return_, 1) := by decide +kernel
theorem d22_0 : decode prog_31_method_4_code 0 = .ok (.aload_n 0, 1) := by decide +kernel
theorem d22_1 : decode prog_31_method_4_code 1 = .ok (.aload_n 1, 1) := by decide +kernel
theorem d22_2 : decode prog_31_method_4_code 2 = .ok (.putfield 15, 3) := by decide +kernel
theorem d22_5 : decode prog_31_method_4_code 5 = .ok (.return_, 1) := by decide +kernel
theorem d23_0 : decode prog_31_method_6_code 0 = .ok (.aload_n 0, 1) := by decide +kernel
theorem d23_1 : decode prog_31_method_6_code 1 = .ok (.aload_n 0, 1) := by decide +kernel
theorem d23_2 : decode prog_31_method_6_code 2 = .ok (.getfield 9, 3) := by decide +kernel
theorem d23_5 : decode prog_31_method_6_code 5 = .ok (.putfield 56, 3) := by decide +kernel
theorem d23_8 : decode prog_31_method_6_code 8 = .ok (.aload_n 0, 1) := by decide +kernel
theorem d23_9 : decode prog_31_method_6_code 9 = .ok (.aload_n 0, 1) := by decide +kernel
theorem d23_10 : decode prog_31_method_6_code 10 = .ok (.getfield 15, 3) := by decide +kernel
theorem d23_13 : decode prog_31_method_6_code 13 = .ok (.putfield 59, 3) := by decide +kernel
theorem d23_16 : decode prog_31_method_6_code 16 = .ok (.return_, 1) := by decide +kernel
theorem d24_0 : decode prog_31_method_8_code 0 = .ok (.aload_n 0, 1) := by decide +kernel
theorem d24_1 : decode prog_31_method_8_code 1 = .ok (.getfield 9, 3) := by decide +kernel
theorem d24_4 : decode prog_31_method_8_code 4 = .ok (.areturn, 1) := by decide +kernel
theorem d25_0 : decode prog_31_method_9_code 0 = .ok (.aload_n 0, 1) := by decide +kernel
theorem d25_1 : decode prog_31_method_9_code 1 = .ok (.getfield 15, 3) := by decide +kernel
theorem d25_4 : decode prog_31_method_9_code 4 = .ok (.areturn, 1) := by decide +kernel
theorem d26_0 : decode prog_31_method_10_code 0 = .ok (.aload_n 0, 1) := by decide +kernel
theorem d26_1 : decode prog_31_method_10_code 1 = .ok (.getfield 56, 3) := by decide +kernel
theorem d26_4 : decode prog_31_method_10_code 4 = .ok (.ifnonnull 7, 3) := by decide +kernel
theorem d26_7 : decode prog_31_method_10_code 7 = .ok (.aconst_null, 1) := by decide +kernel
theorem d26_8 : decode prog_31_method_10_code 8 = .ok (.goto 32, 3) := by decide +kernel
theorem d26_11 : decode prog_31_method_10_code 11 = .ok (.new 62, 3) := by decide +kernel
theorem d26_14 : decode prog_31_method_10_code 14 = .ok (.dup, 1) := by decide +kernel
theorem d26_15 : decode prog_31_method_10_code 15 = .ok (.invokespecial 64, 3) := by decide +kernel
theorem d26_18 : decode prog_31_method_10_code 18 = .ok (.aload_n 0, 1) := by decide +kernel
theorem d26_19 : decode prog_31_method_10_code 19 = .ok (.getfield 56, 3) := by decide +kernel
theorem d26_22 : decode prog_31_method_10_code 22 = .ok (.invokevirtual 65, 3) := by decide +kernel
theorem d26_25 : decode prog_31_method_10_code 25 = .ok (.ldc 69, 2) := by decide +kernel
theorem d26_27 : decode prog_31_method_10_code 27 = .ok (.invokevirtual 65, 3) := by decide +kernel
theorem d26_30 : decode prog_31_method_10_code 30 = .ok (.aload_n 0, 1) := by decide +kernel
theorem d26_31 : decode prog_31_method_10_code 31 = .ok (.getfield 59, 3) := by decide +kernel
theorem d26_34 : decode prog_31_method_10_code 34 = .ok (.invokevirtual 65, 3) := by decide +kernel
theorem d26_37 : decode prog_31_method_10_code 37 = .ok (.invokevirtual 71, 3) := by decide +kernel
theorem d26_40 : decode prog_31_method_10_code 40 = .ok (.areturn, 1) := by decide +kernel
theorem pd14 : parseMethodDescriptor "()V" = some ⟨[], none⟩ := by decide +kernel
theorem pd15 : parseMethodDescriptor "(Ljava/lang/String;)Ljava/lang/StringBuilder;" = some ⟨[(.object "java/lang/String")], some (.object "java/lang/StringBuilder")⟩ := by decide +kernel
theorem pd16 : parseMethodDescriptor "()Ljava/lang/String;" = some ⟨[], some (.object "java/lang/String")⟩ := by decide +kernel
theorem pn5 : plainName "java/lang/StringLatin1" = true := by first | (simp [plainName, overriddenIn]; done) | decide +kernel
theorem d27_0 : decode jdk_43_method_3_code 0 = .ok (.iload_n 0, 1) := by decide +kernel
theorem d27_1 : decode jdk_43_method_3_code 1 = .ok (.sipush 255, 3) := by decide +kernel
theorem d27_4 : decode jdk_43_method_3_code 4 = .ok (.if_icmp .gt 7, 3) := by decide +kernel
theorem d27_7 : decode jdk_43_method_3_code 7 = .ok (.iconst 1, 1) := by decide +kernel
theorem d27_8 : decode jdk_43_method_3_code 8 = .ok (.goto 4, 3) := by decide +kernel
theorem d27_11 : decode jdk_43_method_3_code 11 = .ok (.iconst 0, 1) := by decide +kernel
theorem d27_12 : decode jdk_43_method_3_code 12 = .ok (.ireturn, 1) := by decide +kernel
theorem d28_0 : decode jdk_43_method_46_code 0 = .ok (.iconst 1, 1) := by decide +kernel
theorem d28_1 : decode jdk_43_method_46_code 1 = .ok (.newarray .byte, 2) := by decide +kernel
theorem d28_3 : decode jdk_43_method_46_code 3 = .ok (.dup, 1) := by decide +kernel
theorem d28_4 : decode jdk_43_method_46_code 4 = .ok (.iconst 0, 1) := by decide +kernel
theorem d28_5 : decode jdk_43_method_46_code 5 = .ok (.iload_n 0, 1) := by decide +kernel
theorem d28_6 : decode jdk_43_method_46_code 6 = .ok (.i2b, 1) := by decide +kernel
theorem d28_7 : decode jdk_43_method_46_code 7 = .ok (.bastore, 1) := by decide +kernel
theorem d28_8 : decode jdk_43_method_46_code 8 = .ok (.areturn, 1) := by decide +kernel
theorem d29_0 : decode jdk_42_method_151_code 0 = .ok (.aload_n 0, 1) := by decide +kernel
theorem d29_1 : decode jdk_42_method_151_code 1 = .ok (.invokespecial 1, 3) := by decide +kernel
theorem d29_4 : decode jdk_42_method_151_code 4 = .ok (.aload_n 0, 1) := by decide +kernel
theorem d29_5 : decode jdk_42_method_151_code 5 = .ok (.aload_n 1, 1) := by decide +kernel
theorem d29_6 : decode jdk_42_method_151_code 6 = .ok (.putfield 9, 3) := by decide +kernel
theorem d29_9 : decode jdk_42_method_151_code 9 = .ok (.aload_n 0, 1) := by decide +kernel
theorem d29_10 : decode jdk_42_method_151_code 10 = .ok (.iload_n 2, 1) := by decide +kernel
theorem d29_11 : decode jdk_42_method_151_code 11 = .ok (.putfield 15, 3) := by decide +kernel
theorem d29_14 : decode jdk_42_method_151_code 14 = .ok (.return_, 1) := by decide +kernel
theorem d30_0 : decode jdk_42_method_139_code 0 = .ok (.getstatic 38, 3) := by decide +kernel
theorem d30_3 : decode jdk_42_method_139_code 3 = .ok (.ifCond .eq 23, 3) := by decide +kernel
theorem d30_6 : decode jdk_42_method_139_code 6 = .ok (.iload_n 0, 1) := by decide +kernel
theorem d30_7 : decode jdk_42_method_139_code 7 = .ok (.invokestatic 1015, 3) := by decide +kernel
theorem d30_10 : decode jdk_42_method_139_code 10 = .ok (.ifCond .eq 16, 3) := by decide +kernel
theorem d30_13 : decode jdk_42_method_139_code 13 = .ok (.new 10, 3) := by decide +kernel
theorem d30_16 : decode jdk_42_method_139_code 16 = .ok (.dup, 1) := by decide +kernel
theorem d30_17 : decode jdk_42_method_139_code 17 = .ok (.iload_n 0, 1) := by decide +kernel
theorem d30_18 : decode jdk_42_method_139_code 18 = .ok (.invokestatic 1018, 3) := by decide +kernel
theorem d30_21 : decode jdk_42_method_139_code 21 = .ok (.iconst 0, 1) := by decide +kernel
theorem d30_22 : decode jdk_42_method_139_code 22 = .ok (.invokespecial 209, 3) := by decide +kernel
theorem d30_25 : decode jdk_42_method_139_code 25 = .ok (.areturn, 1) := by decide +kernel
theorem d30_26 : decode jdk_42_method_139_code 26 = .ok (.new 10, 3) := by decide +kernel
theorem d30_29 : decode jdk_42_method_139_code 29 = .ok (.dup, 1) := by decide +kernel
theorem d30_30 : decode jdk_42_method_139_code 30 = .ok (.iload_n 0, 1) := by decide +kernel
theorem d30_31 : decode jdk_42_method_139_code 31 = .ok (.invokestatic 1021, 3) := by decide +kernel
theorem d30_34 : decode jdk_42_method_139_code 34 = .ok (.iconst 1, 1) := by decide +kernel
theorem d30_35 : decode jdk_42_method_139_code 35 = .ok (.invokespecial 209, 3) := by decide +kernel
theorem d30_38 : decode jdk_42_method_139_code 38 = .ok (.areturn, 1) := by decide +kernel
theorem pd17 : parseMethodDescriptor "(C)Z" = some ⟨[.char], some .boolean⟩ := by decide +kernel
theorem pd18 : parseMethodDescriptor "(C)[B" = some ⟨[.char], some (.array .byte)⟩ := by decide +kernel
theorem pd19 : parseMethodDescriptor "([BB)V" = some ⟨[(.array .byte), .byte], none⟩ := by decide +kernel
theorem pn6 : plainName "com/example/lectern/lectern/demo/ProfileSaveNetPinLaw" = true := by first | (simp [plainName, overriddenIn]; done) | decide +kernel
theorem d31_0 : decode method_3_code 0 = .ok (.iload_n 0, 1) := by decide +kernel
theorem d31_1 : decode method_3_code 1 = .ok (.sipush 255, 3) := by decide +kernel
theorem d31_4 : decode method_3_code 4 = .ok (.iand, 1) := by decide +kernel
theorem d31_5 : decode method_3_code 5 = .ok (.i2c, 1) := by decide +kernel
theorem d31_6 : decode method_3_code 6 = .ok (.istore_n 2, 1) := by decide +kernel
theorem d31_7 : decode method_3_code 7 = .ok (.iload_n 0, 1) := by decide +kernel
theorem d31_8 : decode method_3_code 8 = .ok (.bipush 8, 2) := by decide +kernel
theorem d31_10 : decode method_3_code 10 = .ok (.iushr, 1) := by decide +kernel
theorem d31_11 : decode method_3_code 11 = .ok (.sipush 255, 3) := by decide +kernel
theorem d31_14 : decode method_3_code 14 = .ok (.iand, 1) := by decide +kernel
theorem d31_15 : decode method_3_code 15 = .ok (.i2c, 1) := by decide +kernel
theorem d31_16 : decode method_3_code 16 = .ok (.istore_n 3, 1) := by decide +kernel
theorem d31_17 : decode method_3_code 17 = .ok (.iload_n 1, 1) := by decide +kernel
theorem d31_18 : decode method_3_code 18 = .ok (.ifCond .ne 6, 3) := by decide +kernel
theorem d31_21 : decode method_3_code 21 = .ok (.ldc 46, 2) := by decide +kernel
theorem d31_23 : decode method_3_code 23 = .ok (.areturn, 1) := by decide +kernel
theorem d31_24 : decode method_3_code 24 = .ok (.iload_n 1, 1) := by decide +kernel
theorem d31_25 : decode method_3_code 25 = .ok (.iconst 1, 1) := by decide +kernel
theorem d31_26 : decode method_3_code 26 = .ok (.if_icmp .ne 8, 3) := by decide +kernel
theorem d31_29 : decode method_3_code 29 = .ok (.iload_n 2, 1) := by decide +kernel
theorem d31_30 : decode method_3_code 30 = .ok (.invokestatic 48, 3) := by decide +kernel
theorem d31_33 : decode method_3_code 33 = .ok (.areturn, 1) := by decide +kernel
theorem d31_34 : decode method_3_code 34 = .ok (.new 38, 3) := by decide +kernel
theorem d31_37 : decode method_3_code 37 = .ok (.dup, 1) := by decide +kernel
theorem d31_38 : decode method_3_code 38 = .ok (.iconst 2, 1) := by decide +kernel
theorem d31_39 : decode method_3_code 39 = .ok (.newarray .char, 2) := by decide +kernel
theorem d31_41 : decode method_3_code 41 = .ok (.dup, 1) := by decide +kernel
theorem d31_42 : decode method_3_code 42 = .ok (.iconst 0, 1) := by decide +kernel
theorem d31_43 : decode method_3_code 43 = .ok (.iload_n 2, 1) := by decide +kernel
theorem d31_44 : decode method_3_code 44 = .ok (.castore, 1) := by decide +kernel
theorem d31_45 : decode method_3_code 45 = .ok (.dup, 1) := by decide +kernel
theorem d31_46 : decode method_3_code 46 = .ok (.iconst 1, 1) := by decide +kernel
theorem d31_47 : decode method_3_code 47 = .ok (.iload_n 3, 1) := by decide +kernel
theorem d31_48 : decode method_3_code 48 = .ok (.castore, 1) := by decide +kernel
theorem d31_49 : decode method_3_code 49 = .ok (.invokespecial 52, 3) := by decide +kernel
theorem d31_52 : decode method_3_code 52 = .ok (.areturn, 1) := by decide +kernel
theorem pd20 : parseMethodDescriptor "(C)Ljava/lang/String;" = some ⟨[.char], some (.object "java/lang/String")⟩ := by decide +kernel
theorem d32_0 : decode method_5_code 0 = .ok (.iload_n 3, 1) := by decide +kernel
theorem d32_1 : decode method_5_code 1 = .ok (.aload_n 0, 1) := by decide +kernel
theorem d32_2 : decode method_5_code 2 = .ok (.invokevirtual 55, 3) := by decide +kernel
theorem d32_5 : decode method_5_code 5 = .ok (.if_icmp .lt 5, 3) := by decide +kernel
theorem d32_8 : decode method_5_code 8 = .ok (.iconst 1, 1) := by decide +kernel
theorem d32_9 : decode method_5_code 9 = .ok (.ireturn, 1) := by decide +kernel
theorem d32_10 : decode method_5_code 10 = .ok (.iload_n 3, 1) := by decide +kernel
theorem d32_11 : decode method_5_code 11 = .ok (.aload_n 1, 1) := by decide +kernel
theorem d32_12 : decode method_5_code 12 = .ok (.invokevirtual 55, 3) := by decide +kernel
theorem d32_15 : decode method_5_code 15 = .ok (.if_icmp .ge 13, 3) := by decide +kernel
theorem d32_18 : decode method_5_code 18 = .ok (.aload_n 1, 1) := by decide +kernel
theorem d32_19 : decode method_5_code 19 = .ok (.iload_n 3, 1) := by decide +kernel
theorem d32_20 : decode method_5_code 20 = .ok (.invokevirtual 63, 3) := by decide +kernel
theorem d32_23 : decode method_5_code 23 = .ok (.istore 4, 2) := by decide +kernel
theorem d32_25 : decode method_5_code 25 = .ok (.goto 49, 3) := by decide +kernel
theorem d32_28 : decode method_5_code 28 = .ok (.iload_n 3, 1) := by decide +kernel
theorem d32_29 : decode method_5_code 29 = .ok (.aload_n 1, 1) := by decide +kernel
theorem d32_30 : decode method_5_code 30 = .ok (.invokevirtual 55, 3) := by decide +kernel
theorem d32_33 : decode method_5_code 33 = .ok (.if_icmp .ne 10, 3) := by decide +kernel
theorem d32_36 : decode method_5_code 36 = .ok (.bipush 44, 2) := by decide +kernel
theorem d32_38 : decode method_5_code 38 = .ok (.istore 4, 2) := by decide +kernel
theorem d32_40 : decode method_5_code 40 = .ok (.goto 34, 3) := by decide +kernel
theorem d32_43 : decode method_5_code 43 = .ok (.iload_n 3, 1) := by decide +kernel
theorem d32_44 : decode method_5_code 44 = .ok (.aload_n 1, 1) := by decide +kernel
theorem d32_45 : decode method_5_code 45 = .ok (.invokevirtual 55, 3) := by decide +kernel
theorem d32_48 : decode method_5_code 48 = .ok (.iconst 1, 1) := by decide +kernel
theorem d32_49 : decode method_5_code 49 = .ok (.iadd, 1) := by decide +kernel
theorem d32_50 : decode method_5_code 50 = .ok (.if_icmp .ne 10, 3) := by decide +kernel
theorem d32_53 : decode method_5_code 53 = .ok (.bipush 32, 2) := by decide +kernel
theorem d32_55 : decode method_5_code 55 = .ok (.istore 4, 2) := by decide +kernel
theorem d32_57 : decode method_5_code 57 = .ok (.goto 17, 3) := by decide +kernel
theorem d32_60 : decode method_5_code 60 = .ok (.aload_n 2, 1) := by decide +kernel
theorem d32_61 : decode method_5_code 61 = .ok (.iload_n 3, 1) := by decide +kernel
theorem d32_62 : decode method_5_code 62 = .ok (.aload_n 1, 1) := by decide +kernel
theorem d32_63 : decode method_5_code 63 = .ok (.invokevirtual 55, 3) := by decide +kernel
theorem d32_66 : decode method_5_code 66 = .ok (.isub, 1) := by decide +kernel
theorem d32_67 : decode method_5_code 67 = .ok (.iconst 2, 1) := by decide +kernel
theorem d32_68 : decode method_5_code 68 = .ok (.isub, 1) := by decide +kernel
theorem d32_69 : decode method_5_code 69 = .ok (.invokevirtual 63, 3) := by decide +kernel
theorem d32_72 : decode method_5_code 72 = .ok (.istore 4, 2) := by decide +kernel
theorem d32_74 : decode method_5_code 74 = .ok (.aload_n 0, 1) := by decide +kernel
theorem d32_75 : decode method_5_code 75 = .ok (.iload_n 3, 1) := by decide +kernel
theorem d32_76 : decode method_5_code 76 = .ok (.invokevirtual 63, 3) := by decide +kernel
theorem d32_79 : decode method_5_code 79 = .ok (.iload 4, 2) := by decide +kernel
theorem d32_81 : decode method_5_code 81 = .ok (.if_icmp .ne 7, 3) := by decide +kernel
theorem d32_84 : decode method_5_code 84 = .ok (.iconst 1, 1) := by decide +kernel
theorem d32_85 : decode method_5_code 85 = .ok (.goto 4, 3) := by decide +kernel
theorem d32_88 : decode method_5_code 88 = .ok (.iconst 0, 1) := by decide +kernel
theorem d32_89 : decode method_5_code 89 = .ok (.ireturn, 1) := by decide +kernel
theorem d33_0 : decode method_4_code 0 = .ok (.aload_n 0, 1) := by decide +kernel
theorem d33_1 : decode method_4_code 1 = .ok (.ifnonnull 5, 3) := by decide +kernel
theorem d33_4 : decode method_4_code 4 = .ok (.iconst 0, 1) := by decide +kernel
theorem d33_5 : decode method_4_code 5 = .ok (.ireturn, 1) := by decide +kernel
theorem d33_6 : decode method_4_code 6 = .ok (.aload_n 0, 1) := by decide +kernel
theorem d33_7 : decode method_4_code 7 = .ok (.invokevirtual 55, 3) := by decide +kernel
theorem d33_10 : decode method_4_code 10 = .ok (.aload_n 1, 1) := by decide +kernel
theorem d33_11 : decode method_4_code 11 = .ok (.invokevirtual 55, 3) := by decide +kernel
theorem d33_14 : decode method_4_code 14 = .ok (.iconst 2, 1) := by decide +kernel
theorem d33_15 : decode method_4_code 15 = .ok (.iadd, 1) := by decide +kernel
theorem d33_16 : decode method_4_code 16 = .ok (.aload_n 2, 1) := by decide +kernel
theorem d33_17 : decode method_4_code 17 = .ok (.invokevirtual 55, 3) := by decide +kernel
theorem d33_20 : decode method_4_code 20 = .ok (.iadd, 1) := by decide +kernel
theorem d33_21 : decode method_4_code 21 = .ok (.if_icmp .eq 5, 3) := by decide +kernel
theorem d33_24 : decode method_4_code 24 = .ok (.iconst 0, 1) := by decide +kernel
theorem d33_25 : decode method_4_code 25 = .ok (.ireturn, 1) := by decide +kernel
theorem d33_26 : decode method_4_code 26 = .ok (.aload_n 0, 1) := by decide +kernel
theorem d33_27 : decode method_4_code 27 = .ok (.aload_n 1, 1) := by decide +kernel
theorem d33_28 : decode method_4_code 28 = .ok (.aload_n 2, 1) := by decide +kernel
theorem d33_29 : decode method_4_code 29 = .ok (.iconst 0, 1) := by decide +kernel
theorem d33_30 : decode method_4_code 30 = .ok (.invokestatic 59, 3) := by decide +kernel
theorem d33_33 : decode method_4_code 33 = .ok (.ifCond .eq 57, 3) := by decide +kernel
theorem d33_36 : decode method_4_code 36 = .ok (.aload_n 0, 1) := by decide +kernel
theorem d33_37 : decode method_4_code 37 = .ok (.aload_n 1, 1) := by decide +kernel
theorem d33_38 : decode method_4_code 38 = .ok (.aload_n 2, 1) := by decide +kernel
theorem d33_39 : decode method_4_code 39 = .ok (.iconst 1, 1) := by decide +kernel
theorem d33_40 : decode method_4_code 40 = .ok (.invokestatic 59, 3) := by decide +kernel
theorem d33_43 : decode method_4_code 43 = .ok (.ifCond .eq 47, 3) := by decide +kernel
theorem d33_46 : decode method_4_code 46 = .ok (.aload_n 0, 1) := by decide +kernel
theorem d33_47 : decode method_4_code 47 = .ok (.aload_n 1, 1) := by decide +kernel
theorem d33_48 : decode method_4_code 48 = .ok (.aload_n 2, 1) := by decide +kernel
theorem d33_49 : decode method_4_code 49 = .ok (.iconst 2, 1) := by decide +kernel
theorem d33_50 : decode method_4_code 50 = .ok (.invokestatic 59, 3) := by decide +kernel
theorem d33_53 : decode method_4_code 53 = .ok (.ifCond .eq 37, 3) := by decide +kernel
theorem d33_56 : decode method_4_code 56 = .ok (.aload_n 0, 1) := by decide +kernel
theorem d33_57 : decode method_4_code 57 = .ok (.aload_n 1, 1) := by decide +kernel
theorem d33_58 : decode method_4_code 58 = .ok (.aload_n 2, 1) := by decide +kernel
theorem d33_59 : decode method_4_code 59 = .ok (.iconst 3, 1) := by decide +kernel
theorem d33_60 : decode method_4_code 60 = .ok (.invokestatic 59, 3) := by decide +kernel
theorem d33_63 : decode method_4_code 63 = .ok (.ifCond .eq 27, 3) := by decide +kernel
theorem d33_66 : decode method_4_code 66 = .ok (.aload_n 0, 1) := by decide +kernel
theorem d33_67 : decode method_4_code 67 = .ok (.aload_n 1, 1) := by decide +kernel
theorem d33_68 : decode method_4_code 68 = .ok (.aload_n 2, 1) := by decide +kernel
theorem d33_69 : decode method_4_code 69 = .ok (.iconst 4, 1) := by decide +kernel
theorem d33_70 : decode method_4_code 70 = .ok (.invokestatic 59, 3) := by decide +kernel
theorem d33_73 : decode method_4_code 73 = .ok (.ifCond .eq 17, 3) := by decide +kernel
theorem d33_76 : decode method_4_code 76 = .ok (.aload_n 0, 1) := by decide +kernel
theorem d33_77 : decode method_4_code 77 = .ok (.aload_n 1, 1) := by decide +kernel
theorem d33_78 : decode method_4_code 78 = .ok (.aload_n 2, 1) := by decide +kernel
theorem d33_79 : decode method_4_code 79 = .ok (.iconst 5, 1) := by decide +kernel
theorem d33_80 : decode method_4_code 80 = .ok (.invokestatic 59, 3) := by decide +kernel
theorem d33_83 : decode method_4_code 83 = .ok (.ifCond .eq 7, 3) := by decide +kernel
theorem d33_86 : decode method_4_code 86 = .ok (.iconst 1, 1) := by decide +kernel
theorem d33_87 : decode method_4_code 87 = .ok (.goto 4, 3) := by decide +kernel
theorem d33_90 : decode method_4_code 90 = .ok (.iconst 0, 1) := by decide +kernel
theorem d33_91 : decode method_4_code 91 = .ok (.ireturn, 1) := by decide +kernel
theorem pd21 : parseMethodDescriptor "(Ljava/lang/String;Ljava/lang/String;Ljava/lang/String;I)Z" = some ⟨[(.object "java/lang/String"), (.object "java/lang/String"), (.object "java/lang/String"), .int], some .boolean⟩ := by decide +kernel
theorem d34_0 : decode jdk_42_method_66_code 0 = .ok (.aload_n 0, 1) := by decide +kernel
theorem d34_1 : decode jdk_42_method_66_code 1 = .ok (.aload_n 1, 1) := by decide +kernel
theorem d34_2 : decode jdk_42_method_66_code 2 = .ok (.if_acmp .ne 5, 3) := by decide +kernel
theorem d34_5 : decode jdk_42_method_66_code 5 = .ok (.iconst 1, 1) := by decide +kernel
theorem d34_6 : decode jdk_42_method_66_code 6 = .ok (.ireturn, 1) := by decide +kernel
theorem d34_7 : decode jdk_42_method_66_code 7 = .ok (.aload_n 1, 1) := by decide +kernel
theorem d34_8 : decode jdk_42_method_66_code 8 = .ok (.instanceof 10, 3) := by decide +kernel
theorem d34_11 : decode jdk_42_method_66_code 11 = .ok (.ifCond .eq 43, 3) := by decide +kernel
theorem d34_14 : decode jdk_42_method_66_code 14 = .ok (.aload_n 1, 1) := by decide +kernel
theorem d34_15 : decode jdk_42_method_66_code 15 = .ok (.checkcast 10, 3) := by decide +kernel
theorem d34_18 : decode jdk_42_method_66_code 18 = .ok (.astore_n 2, 1) := by decide +kernel
theorem d34_19 : decode jdk_42_method_66_code 19 = .ok (.getstatic 38, 3) := by decide +kernel
theorem d34_22 : decode jdk_42_method_66_code 22 = .ok (.ifCond .eq 14, 3) := by decide +kernel
theorem d34_25 : decode jdk_42_method_66_code 25 = .ok (.aload_n 0, 1) := by decide +kernel
theorem d34_26 : decode jdk_42_method_66_code 26 = .ok (.getfield 15, 3) := by decide +kernel
theorem d34_29 : decode jdk_42_method_66_code 29 = .ok (.aload_n 2, 1) := by decide +kernel
theorem d34_30 : decode jdk_42_method_66_code 30 = .ok (.getfield 15, 3) := by decide +kernel
theorem d34_33 : decode jdk_42_method_66_code 33 = .ok (.if_icmp .ne 21, 3) := by decide +kernel
theorem d34_36 : decode jdk_42_method_66_code 36 = .ok (.aload_n 0, 1) := by decide +kernel
theorem d34_37 : decode jdk_42_method_66_code 37 = .ok (.getfield 9, 3) := by decide +kernel
theorem d34_40 : decode jdk_42_method_66_code 40 = .ok (.aload_n 2, 1) := by decide +kernel
theorem d34_41 : decode jdk_42_method_66_code 41 = .ok (.getfield 9, 3) := by decide +kernel
theorem d34_44 : decode jdk_42_method_66_code 44 = .ok (.invokestatic 541, 3) := by decide +kernel
theorem d34_47 : decode jdk_42_method_66_code 47 = .ok (.ifCond .eq 7, 3) := by decide +kernel
theorem d34_50 : decode jdk_42_method_66_code 50 = .ok (.iconst 1, 1) := by decide +kernel
theorem d34_51 : decode jdk_42_method_66_code 51 = .ok (.goto 4, 3) := by decide +kernel
theorem d34_54 : decode jdk_42_method_66_code 54 = .ok (.iconst 0, 1) := by decide +kernel
theorem d34_55 : decode jdk_42_method_66_code 55 = .ok (.ireturn, 1) := by decide +kernel
theorem pd22 : parseMethodDescriptor "(II)Ljava/lang/String;" = some ⟨[.int, .int], some (.object "java/lang/String")⟩ := by decide +kernel
theorem pd23 : parseMethodDescriptor "(Ljava/lang/String;Ljava/lang/String;Ljava/lang/String;)Z" = some ⟨[(.object "java/lang/String"), (.object "java/lang/String"), (.object "java/lang/String")], some .boolean⟩ := by decide +kernel
theorem pd24 : parseMethodDescriptor "(Ljava/lang/Object;)Z" = some ⟨[(.object "java/lang/Object")], some .boolean⟩ := by decide +kernel
section SbKit
variable {p : Program} {l : Launch} {e : Env} {R : Room} {s : State} {m : MethodId} {args : Array Value} {below : List Frame} {meth : Method} {c : Code} {Z : State} {a0 : Array Value} {EL : List (String × Nat)} {own : String} {B : ByteArray} {mx : Nat} {s₁ : State} {g0 g g' : JFrame} {h h' : Heap} {cells slots pc q : Nat} {sf : List Addr} {Ls Ls' : Array Slot} {st rest : List Value} {x y z : Int32} {v w : Value} {a b : Addr} {ws : List Addr} {cs : List Int32}
theorem Ctr.ofF {y : MethodName} {bytes : ByteArray} {maxL : Nat} {ret : Option FieldType} {ws : List Jvm.Cond} {rm : Room} {as' : Array Value} {hp : Heap} {sf0 : List Addr} {Q : Option Value → Heap → Prop} (hpn : plainFor y = true) (O : Ext Z.heap hp)
    (body : ∀ p e s m below meth c s₁, meth.sig.returnType = ret → meth.locks = false → meth.name = y.name → Wk p l e rm s m as' below meth c Z EL y.cls bytes maxL s₁ (entryFrame m as' maxL) (entryFrame m as' maxL) hp 0 0 sf0 → Dn p e below s s₁ (entryFrame m as' maxL) Z EL rm Q) :
    Ctr l Z EL y bytes maxL ret ws rm as' hp sf0 Q := by
  refine MetFree.of_bodySF hpn hisR ?_
  intro p e s m args below meth c s₁ Bd hml0 hP hK
  obtain ⟨hargs, hZ, hh, hH, hS0⟩ := hP
  subst hargs
  have X0 : Stand p l e rm s m args below meth c s₁ [] 0 0 := Stand.of_body Bd
  have e0 : s₁.heap = hp := by rw [← hh, Bd.state]; rfl
  have C0 : CHr Z EL s.vm s.heap s.vm hp := by rw [hh]; exact CHr.refl hH
  exact body p e s m below meth c s₁ Bd.returns Bd.notSynchronized (name_of_methodNamed Bd.named Bd.method).1 ⟨Bd.exec, Bd.bytes, hml0, s₁, s.vm, [], 0, X0, e0, hZ, findClass_of_methodNamed Bd.named, (State.WarmedH.refl s).since 0, Nat.zero_le _, C0, O, Fr.nil _, hS0, Steps.refl _⟩
theorem Wk.ishr (X : Wk p l e R s m args below meth c Z EL own B mx s₁ g0 (mkF m pc Ls (.int y :: .int x :: st)) h cells slots sf) (d : decode B pc = .ok (.ishr, 1)) (hz : x >>> (y &&& 31) = z) (hq : pc + 1 = q) : Wk p l e R s m args below meth c Z EL own B mx s₁ g0 (mkF m q Ls (.int z :: st)) h cells slots sf := by
  subst hq hz; exact X.go fun hx hB T A t r => XT.ishr A hx rfl (hb hB d) rfl r
theorem Wk.ishl (X : Wk p l e R s m args below meth c Z EL own B mx s₁ g0 (mkF m pc Ls (.int y :: .int x :: st)) h cells slots sf) (d : decode B pc = .ok (.ishl, 1)) (hz : x <<< (y &&& 31) = z) (hq : pc + 1 = q) : Wk p l e R s m args below meth c Z EL own B mx s₁ g0 (mkF m q Ls (.int z :: st)) h cells slots sf := by
  subst hq hz; exact X.go fun hx hB T A t r => XT.ishl A hx rfl (hb hB d) rfl r
/-- a class that one method's choice shows to be no interface is none for another of its methods -/
theorem notFace_like {CF : String} {y yF : MethodName} {args : Array Value} {s : State} (hc : y.cls = yF.cls) (hsel : (Jvm.Cond.selects CF yF yF).before args s = true) : NotFace s y := fun r0 h0 => by
  obtain ⟨c2, r2, m2, q1, q2, q3, q4, kP, hkP, hkPi⟩ := Cond.selects_spec hsel
  have e0 := findClass_of_methodNamed h0
  have e1 := findClass_of_methodNamed q3
  rw [hc, e1] at e0
  rw [← Option.some.inj e0]
  exact ⟨kP, hkP, hkPi⟩
theorem same_self {CF : String} {y yF : MethodName} {args : Array Value} {s : State} (w6 : (Jvm.Cond.instanceMethod y).before args s = true) (hsel : (Jvm.Cond.selects CF yF yF).before args s = true) (hc : y.cls = yF.cls) (hy : y.cls ≠ "java/lang/invoke/MethodHandle" ∧ y.cls ≠ "java/lang/invoke/VarHandle") : (Jvm.Cond.sameMethod y.cls y.cls y.name y.desc).before args s = true := by
  obtain ⟨mk, methM, hnamed, hmethM, -, -⟩ := Cond.instanceMethod_spec w6
  have hfound : s.methodFound? y.cls y.name y.desc = some mk := State.methodFound?_of_named hnamed hy
  obtain ⟨c2, r2, m2, q1, q2, q3, q4, kP, hkP, hkPi⟩ := Cond.selects_spec hsel
  have hc1 : s.vm.findClass y.cls = some m2.cls := by rw [hc]; exact findClass_of_methodNamed q3
  have hn2 : s.methodNamed? ⟨y.cls, y.name, y.desc⟩ = some mk := hnamed
  simp only [Cond.before, Cond.holds, Cond.value, hc1, hfound, hn2, hkP]
  simp [hkPi]
theorem Wk.callW (X : Wk p l e R s m args below meth c Z EL own B mx s₁ g0 (mkF m pc Ls st) h cells slots sf) {index : Nat} {C : String} {y z : MethodName} {bytes : ByteArray} {maxL : Nat} {ret : Option FieldType} {rm : Room} {as' : Array Value} {sf0 : List Addr} {Q : Option Value → Heap → Prop} (hM : Ctr l Z EL z bytes maxL ret [] rm as' h sf0 Q) (hEL : EW Z a0 EL) (hs0 : ∀ x ∈ sf0, x ∈ sf)
    (w1 : (Jvm.Cond.methodLink own index y).before a0 Z = true) (w2 : (Jvm.Cond.declares y).before a0 Z = true) {CF : String} {yF : MethodName} (wF : (Jvm.Cond.selects CF yF yF).before a0 Z = true) (hcF : y.cls = yF.cls) (w5 : (Jvm.Cond.selects C y z).before a0 Z = true) (w6 : (Jvm.Cond.instanceMethod z).before a0 Z = true) (w3 : (Jvm.Cond.initialized z.cls).before a0 Z = true) (w4 : (Jvm.Cond.code z bytes maxL ret).before a0 Z = true) (hy : y.cls ≠ "java/lang/invoke/MethodHandle" ∧ y.cls ≠ "java/lang/invoke/VarHandle")
    {ps : List FieldType} {r : Option FieldType} (pd : parseMethodDescriptor y.desc = some ⟨ps, r⟩) {a : Addr} (E : Exa Z h a C) {argsL rest : List Value} (hlen : argsL.length = ps.length) (hst : st = argsL.reverse ++ .ref a :: rest) (has : (.ref a :: argsL).toArray = as') (hLs : Ls.size = mx) (dc : decode B pc = .ok (.invokevirtual index, 3))
    (hf : rm.frames + 1 ≤ R.frames) (hl : (rest.map fun v => v.category).sum + (maxL + 11) + rm.locals ≤ R.locals) (hc : cells + rm.cells ≤ R.cells) (hs : slots + rm.slots ≤ R.slots) (hq : pc + 3 = q) :
    ∃ (ov : Option Value) (h' : Heap), Q ov h' ∧ ∀ st', ov.toList ++ rest = st' → Wk p l e R s m args below meth c Z EL own B mx s₁ g0 (mkF m q Ls st') h' (cells + rm.cells) (slots + rm.slots) sf := by
  subst hq hst has
  obtain ⟨hx, hB, hm, T, vm, locs, k, X, eT, hZ, ho, hS, hk, hC, hO, hF, hsf, st0⟩ := X
  obtain ⟨cq, kq, qa, qb, qc⟩ := isOf (s := s.setVm vm) hZ eT E
  obtain ⟨ov, vm1, B1, -, X', h2, hgr, ⟨Lc, hQ, el, ec, es, hCr⟩, st'⟩ := X.virtualBackS (s := s.setVm vm) hx ho (mvT hZ w1) (mvT hZ w2) (notFace_like (args := #[]) hcF (mvT hZ wF)) (mvT hZ w5) (mvT hZ w6) hy (backSF (W := (rest.map fun v => v.category).sum) (s := s) hM hZ w4 w3 hf hl hEL hC.1 (fun x q => hsf x (hs0 x q))) qa qc (g := mkF m pc Ls (argsL.reverse ++ .ref a :: rest)) rfl (by rw [hm]; exact hLs) (Steps.refl _) (argsL := argsL) (rest := rest) (lenOf pd hlen) rfl (by show 2 * 0 + _ ≤ _; omega) (hb hB dc) (fun _ _ => ⟨rfl, eT, hc, hs⟩)
  refine ⟨ov, B1.U.heap, hQ.1, fun st1 e1 => ?_⟩
  subst e1
  rw [eT] at hgr
  exact Wk.behind hx hB hm hS hk hZ ho hC hF hsf X' h2 hgr hQ el ec es hCr (st0.trans st')
/-- invokevirtual of a private method -/
theorem Wk.callP (X : Wk p l e R s m args below meth c Z EL own B mx s₁ g0 (mkF m pc Ls st) h cells slots sf) {index : Nat} {C CF : String} {y : MethodName} {bytes : ByteArray} {maxL : Nat} {ret : Option FieldType} {rm : Room} {as' : Array Value} {sf0 : List Addr} {Q : Option Value → Heap → Prop} (hM : Ctr l Z EL y bytes maxL ret [] rm as' h sf0 Q) (hEL : EW Z a0 EL) (hs0 : ∀ x ∈ sf0, x ∈ sf)
    (w1 : (Jvm.Cond.methodLink own index y).before a0 Z = true) (w6 : (Jvm.Cond.instanceMethod y).before a0 Z = true) (wp : (Jvm.Cond.privateMethod y).before a0 Z = true) (wF : (Jvm.Cond.selects CF y y).before a0 Z = true) (w3 : (Jvm.Cond.initialized y.cls).before a0 Z = true) (w4 : (Jvm.Cond.code y bytes maxL ret).before a0 Z = true) (hy : y.cls ≠ "java/lang/invoke/MethodHandle" ∧ y.cls ≠ "java/lang/invoke/VarHandle")
    {ps : List FieldType} {r : Option FieldType} (pd : parseMethodDescriptor y.desc = some ⟨ps, r⟩) {a : Addr} (E : Exa Z h a C) {argsL rest : List Value} (hlen : argsL.length = ps.length) (hst : st = argsL.reverse ++ .ref a :: rest) (has : (.ref a :: argsL).toArray = as') (hLs : Ls.size = mx) (dc : decode B pc = .ok (.invokevirtual index, 3))
    (hf : rm.frames + 1 ≤ R.frames) (hl : (rest.map fun v => v.category).sum + (maxL + 11) + rm.locals ≤ R.locals) (hc : cells + rm.cells ≤ R.cells) (hs : slots + rm.slots ≤ R.slots) (hq : pc + 3 = q) :
    ∃ (ov : Option Value) (h' : Heap), Q ov h' ∧ ∀ st', ov.toList ++ rest = st' → Wk p l e R s m args below meth c Z EL own B mx s₁ g0 (mkF m q Ls st') h' (cells + rm.cells) (slots + rm.slots) sf := by
  subst hq hst has
  obtain ⟨hx, hB, hm, T, vm, locs, k, X, eT, hZ, ho, hS, hk, hC, hO, hF, hsf, st0⟩ := X
  obtain ⟨cl, hcl, hob⟩ := E.cell
  have hp := Cond.privateMethod_at (mvP (s := s.setVm vm) (args := args) hZ wp)
  have hi : (Jvm.Cond.instanceMethod y).before args (s.setVm vm) = true := mvT hZ w6
  have hsF : (Jvm.Cond.selects CF y y).before args (s.setVm vm) = true := mvT hZ wF
  obtain ⟨c2, r2, m2, q1, q2, q3, q4, kP, hkP, hkPi⟩ := Cond.selects_spec hsF
  have hsel := Jvm.Stand.selects_self_of_private (findClass_of_methodNamed q3) hkP hkPi hp hi hy
  obtain ⟨ov, vm1, B1, -, X', h2, hgr, ⟨Lc, hQ, el, ec, es, hCr⟩, st'⟩ := X.privateBackS (s := s.setVm vm) hx ho (mvT hZ w1) hi hsel hp (mvT hZ w4) hy (backSF (W := (rest.map fun v => v.category).sum) (s := s) hM hZ w4 w3 hf hl hEL hC.1 (fun x q => hsf x (hs0 x q))) (g := mkF m pc Ls (argsL.reverse ++ .ref a :: rest)) rfl (by rw [hm]; exact hLs) (Steps.refl _) (a := a) (cell := cl) (by rw [eT]; exact hcl) hob (argsL := argsL) (rest := rest) (lenOf pd hlen) rfl (by show 2 * 0 + _ ≤ _; omega) (hb hB dc) (fun _ _ => ⟨rfl, eT, hc, hs⟩)
  refine ⟨ov, B1.U.heap, hQ.1, fun st1 e1 => ?_⟩
  subst e1
  rw [eT] at hgr
  exact Wk.behind hx hB hm hS hk hZ ho hC hF hsf X' h2 hgr hQ el ec es hCr (st0.trans st')
/-- a byte[] of a length that no booked text has is no booked one -/
theorem Safe.len {vm : Vm} {n : Nat} (hZ : Z.Warmed39 vm) (hT : ∀ p ∈ EL, ∃ text : String, (Jvm.Cond.stringLink p.1 p.2 text).before a0 Z = true ∧ (∀ c ∈ text.toList, c.toNat < 256) ∧ text.toList.length ≠ n) {k : ClassId} {vs : List Value} {d : Value} (A : Arv Z h b k .byte z vs d) (hz : z.toNatClampNeg = n) : Safe Z EL vm h b := fun Bk0 => by
  obtain ⟨cl, ⟨A1, ⟨-, kA, hkA, compA, hkindA⟩, -⟩, -, hsz, -⟩ := A
  have hal : Z.vm.Alike vm := hZ.alike
  obtain ⟨p, hp, u, a, hb, q, -, F, rfl | rfl⟩ := Bk0
  · obtain ⟨kA', hkA', ekA⟩ := hal.2.2 _ _ hkA
    cases (show h[q.sa]? = some q.sC from F.ha).symm.trans A1
    obtain ⟨cS, ⟨-, -, e⟩, ⟨kS, g1, g2, -⟩, -⟩ := F
    subst e
    cases (show vm.classes[q.sC.cls]? = some kS from g1).symm.trans hkA'
    rw [ekA] at g2
    have := hkindA.symm.trans g2
    cases this
  · cases (show h[q.sd]? = some q.SA from F.hd).symm.trans A1
    obtain ⟨text, wl, ht, hne⟩ := hT p hp
    obtain ⟨c, k', cf, i, hc', hk', hcf', hpool, hu, -⟩ := hb
    have wl' : (Jvm.Cond.stringLink p.1 p.2 text).before a0 (Wst Z vm h) = true := mvS (s := { Z with heap := h }) hZ wl
    obtain ⟨k, cf0, i0, units0, hk, hcf, hp0, hu0, hnm, htext, -⟩ := Cond.stringLink_spec (s := Wst Z vm h) hc' wl'
    cases hk'.symm.trans hk
    cases hcf'.symm.trans hcf
    cases hpool.symm.trans hp0
    cases hu.symm.trans hu0
    obtain ⟨cS, -, -, -, hbyt⟩ := F
    have hlat := Jvm.ClassFile.lat_of_text htext ht
    have e1 : q.SA.slots.size = u.size := by rw [hbyt, SBG.stringBytes_lat hlat, Array.size_map]
    have e2 : u.toList.length = text.toList.length := by rw [Jvm.ClassFile.units_of_text htext ht, List.length_map]
    have e3 : u.toList.length = u.size := Array.length_toList
    exact hne (by omega)
theorem Arv.len {k : ClassId} {ty : FieldType} {vs : List Value} {d : Value} {k2 : ClassId} {ty2 : FieldType} {z2 : Int32} {vs2 : List Value} {d2 : Value} (A : Arv Z h a k ty z vs d) (A2 : Arv Z h a k2 ty2 z2 vs2 d2) : z.toNatClampNeg = z2.toNatClampNeg := by
  obtain ⟨c1, ⟨e1, -⟩, -, s1, -⟩ := A
  obtain ⟨c2, ⟨e2, -⟩, -, s2, -⟩ := A2
  cases e1.symm.trans e2
  exact s1.symm.trans s2
/-- a String stays where the written cells are no Strings, and no byte[] but of 16 -/
theorem Str.keepB {n : Nat} (S : Str Z h a cs) (hlen : cs.length < 16) (wi : (Jvm.Cond.instantiable "java/lang/String" n).before a0 Z = true) (K : Keep h h' ws) (hn : ∀ x ∈ ws, Nst Z h x ∨ ∃ k vs d, Arv Z h x k .byte (16 : Int32) vs d) : Str Z h' a cs := by
  obtain ⟨l, b0, A, C, t, kb, V, F⟩ := S
  have na : a ∉ ws := fun q => by
    rcases hn a q with r | ⟨k, vs, d, r⟩
    · exact r.1 a A rfl
    · exact A.neArv r wi rfl
  have nt : t ∉ ws := fun q => by
    rcases hn t q with r | ⟨k, vs, d, r⟩
    · exact r.2 t _ _ _ _ F rfl
    · have e := Arv.len F r
      rw [Int32.toNatClampNeg, Int32.toInt_ofNat_of_lt (by omega)] at e
      have e2 : (16 : Int32).toNatClampNeg = 16 := rfl
      rw [e2] at e
      have e3 : (cs.length : Int).toNat = cs.length := rfl
      omega
  exact ⟨l, b0, A.keep K, C.keep K na, t, kb, V.keep K na, F.keep K nt⟩
abbrev SB : String := "java/lang/StringBuilder"
abbrev ASB : String := "java/lang/AbstractStringBuilder"
abbrev byts (cs : List Int32) : List Value := (cs.map (fun c => c.toInt8.toInt32)).map Value.int
/-- a StringBuilder of room 16 that holds these chars -/
def Sbd (Z : State) (h : Heap) (o t : Addr) (cs : List Int32) : Prop :=
  cs.length ≤ 16 ∧ (∀ c ∈ cs, ¬ c < 0 ∧ ¬ (255 : Int32) < c) ∧ Z.heap.size ≤ o ∧ Z.heap.size ≤ t ∧ Exa Z h o SB ∧ Fld Z h o ASB "value" "[B" (.ref t) ∧ Fld Z h o ASB "coder" "B" (.int 0) ∧ Fld Z h o ASB "count" "I" (.int (Int32.ofNat cs.length)) ∧ ∃ kt, Arv Z h t kt .byte (16 : Int32) (byts cs ++ List.replicate (16 - cs.length) (.int 0)) (.int 0)
variable {o t : Addr}
theorem Sbd.ext (S : Sbd Z h o t cs) (E : Ext h h') : Sbd Z h' o t cs := by
  obtain ⟨l, b, n1, n2, A, V, C, N, k, F⟩ := S
  exact ⟨l, b, n1, n2, A.ext E, V.ext E, C.ext E, N.ext E, k, F.ext E⟩
theorem Sbd.exa (S : Sbd Z h o t cs) : Exa Z h o SB := S.2.2.2.2.1
theorem Sbd.arv (S : Sbd Z h o t cs) : ∃ k vs d, Arv Z h t k .byte (16 : Int32) vs d := by obtain ⟨l, b, n1, n2, A, V, C, N, k, F⟩ := S; exact ⟨k, _, _, F⟩
theorem Sbd.nst {n : Nat} (S : Sbd Z h o t cs) (wi : (Jvm.Cond.instantiable SB n).before a0 Z = true) : ∀ x ∈ [o, t], Nst Z h x ∨ ∃ k vs d, Arv Z h x k .byte (16 : Int32) vs d := by
  intro x q
  simp only [List.mem_cons, List.not_mem_nil, or_false] at q
  rcases q with rfl | rfl
  · exact Or.inl (Nst.exa S.exa (by decide) wi)
  · exact Or.inr S.arv
theorem sb_eq (cs ds : List Int32) (hk : cs.length + ds.length ≤ 16) : (byts cs ++ List.replicate (16 - cs.length) (Value.int 0)).take cs.length ++ byts ds ++ (byts cs ++ List.replicate (16 - cs.length) (Value.int 0)).drop (cs.length + ds.length) = byts (cs ++ ds) ++ List.replicate (16 - (cs ++ ds).length) (Value.int 0) := by
  have hl : (byts cs).length = cs.length := by simp
  rw [List.take_append_of_le_length (by omega), List.take_of_length_le (by omega), List.drop_append, List.drop_eq_nil_of_le (by omega), List.nil_append, List.drop_replicate, hl, List.length_append]
  congr 1
  · simp
  · congr 1; omega
theorem range_getD {L M : List Value} {d : Value} {n : Nat} (hn : L.length = n) : ((List.range n).map fun i => (L ++ M).getD (0 + i) d) = L := by
  subst hn
  apply List.ext_getElem (by simp)
  intro i h1 h2
  have h3 : i < L.length := h2
  simp [List.getD_eq_getElem?_getD, List.getElem?_append_left h3, List.getElem?_eq_getElem h3]
theorem range_self {L : List Value} {d : Value} {n : Nat} (hn : L.length = n) : ((List.range n).map fun i => L.getD (0 + i) d) = L := by
  have := range_getD (M := []) (d := d) hn
  simpa using this
theorem clampN {n : Nat} (hn : n ≤ 4000) : (Int32.ofNat n).toNatClampNeg = n := by
  rw [Int32.toNatClampNeg, Int32.toInt_ofNat_of_lt (by omega)]; rfl
theorem ofNat_add (i j : Nat) (h : i + j ≤ 4000) : Int32.ofNat i + Int32.ofNat j = Int32.ofNat (i + j) := by
  apply Int32.toInt_inj.mp
  rw [Int32.toInt_add, Int32.toInt_ofNat_of_lt (by omega), Int32.toInt_ofNat_of_lt (by omega), Int32.toInt_ofNat_of_lt (by omega)]
  rw [Int.bmod_eq_of_le (by omega) (by omega)]; rfl
theorem ofNat_sub {i j : Nat} (h : j ≤ i) (hi : i ≤ 4000) : Int32.ofNat i - Int32.ofNat j = Int32.ofNat (i - j) := by
  apply Int32.toInt_inj.mp
  rw [Int32.toInt_sub, Int32.toInt_ofNat_of_lt (by omega), Int32.toInt_ofNat_of_lt (by omega), Int32.toInt_ofNat_of_lt (by omega)]
  rw [Int.bmod_eq_of_le (by omega) (by omega)]; omega
theorem ofNat_nn {n : Nat} (hn : n ≤ 4000) : ¬ Int32.ofNat n < 0 := fun q => by
  rw [lt32, Int32.toInt_ofNat_of_lt (by omega)] at q
  have e0 : (0 : Int32).toInt = 0 := rfl
  omega
theorem ofNat_nlt {i n : Nat} (h : ¬ i < n) (hn : i ≤ 4000) : ¬ Int32.ofNat i < Int32.ofNat n := by
  rw [Int32.lt_iff_toInt_lt, Int32.toInt_ofNat_of_lt (by omega), Int32.toInt_ofNat_of_lt (by omega)]; omega
theorem ofNat_ne {i n : Nat} (h : i ≠ n) (hi : i ≤ 4000) (hn : n ≤ 4000) : ¬ Int32.ofNat i = Int32.ofNat n := fun q => by
  have e := congrArg Int32.toInt q
  rw [Int32.toInt_ofNat_of_lt (by omega), Int32.toInt_ofNat_of_lt (by omega)] at e; omega
theorem shr0 (x : Int32) : x >>> ((0 : Int32) &&& 31) = x := by
  rw [show (0 : Int32) &&& 31 = 0 from rfl]; simp
theorem shl0 (x : Int32) : x <<< ((0 : Int32) &&& 31) = x := by
  rw [show (0 : Int32) &&& 31 = 0 from rfl]; simp
theorem ens16 {k : Nat} (h : k ≤ 16) : ¬ (0 : Int32) < Int32.ofNat k - (16 : Int32) := (by decide +kernel : ∀ k : Fin 17, ¬ (0 : Int32) < Int32.ofNat k.val - (16 : Int32)) ⟨k, by omega⟩
theorem ne16 {k : Nat} (h : k < 16) : ¬ Int32.ofNat k = (16 : Int32) := (by decide +kernel : ∀ k : Fin 16, ¬ Int32.ofNat k.val = (16 : Int32)) ⟨k, h⟩
theorem sub0 (x : Int32) : x - (0 : Int32) = x := by simp
theorem at_l {A B : List Int32} {k : Nat} (h : k < A.length) : (A ++ B).getD k 0 = A.getD k 0 := by simp [List.getD_eq_getElem?_getD, List.getElem?_append_left h]
theorem at_r {A B : List Int32} {k : Nat} (h : A.length ≤ k) : (A ++ B).getD k 0 = B.getD (k - A.length) 0 := by simp [List.getD_eq_getElem?_getD, List.getElem?_append_right h]
theorem mod3 (x : Int32) : (x &&& (3 : Int32)) % (3 : Int32) = 0 ∨ (x &&& (3 : Int32)) % (3 : Int32) = 1 ∨ (x &&& (3 : Int32)) % (3 : Int32) = 2 := by
  obtain ⟨j, e⟩ := andR x (3 : Int32) (n := 4) (by decide) (by decide)
  rw [e]
  exact (by decide +kernel : ∀ j : Fin 4, Int32.ofNat j.val % (3 : Int32) = 0 ∨ Int32.ofNat j.val % (3 : Int32) = 1 ∨ Int32.ofNat j.val % (3 : Int32) = 2) j
theorem Sbd.lt (S : Sbd Z h o t cs) : o < h.size := S.exa.lt
theorem two {n : Nat} {ws : List Addr} (h1 : n ≤ o) (h2 : n ≤ t) : ∀ x ∈ [o, t], x ∈ ws ∨ n ≤ x := by
  intro x q
  simp only [List.mem_cons, List.not_mem_nil, or_false] at q
  rcases q with rfl | rfl
  · exact Or.inr h1
  · exact Or.inr h2
end SbKit

abbrev EL0 : List (String × Nat) := consts_1
theorem hEL0 {Z : State} {a0 : Array Value} (hw : ∀ d ∈ tables_1, d.before a0 Z = true) : EW Z a0 EL0 := EW.cons (own := "com/example/lectern/lectern/demo/Profile") (index := 7) (hw _ (List.mem_of_getElem? (i := 21) rfl)) (by decide) (EW.cons (own := "com/example/lectern/lectern/demo/Profile") (index := 69) (hw _ (List.mem_of_getElem? (i := 118) rfl)) (by decide) (EW.cons (own := "com/example/lectern/lectern/demo/ProfileSaveNetPinLaw") (index := 46) (hw _ (List.mem_of_getElem? (i := 4) rfl)) (by decide) (EW.nil)))
theorem hT16 {Z : State} {a0 : Array Value} (hw : ∀ d ∈ tables_1, d.before a0 Z = true) : ∀ p ∈ EL0, ∃ text : String, (Jvm.Cond.stringLink p.1 p.2 text).before a0 Z = true ∧ (∀ c ∈ text.toList, c.toNat < 256) ∧ text.toList.length ≠ 16 := by
  intro p hp
  have hp' : p ∈ [("com/example/lectern/lectern/demo/Profile", 7), ("com/example/lectern/lectern/demo/Profile", 69), ("com/example/lectern/lectern/demo/ProfileSaveNetPinLaw", 46)] := hp
  simp only [List.mem_cons, List.not_mem_nil, or_false] at hp'
  rcases hp' with rfl | rfl | rfl
  · exact ⟨"", (hw _ (List.mem_of_getElem? (i := 21) rfl)), by decide, by decide⟩
  · exact ⟨", ", (hw _ (List.mem_of_getElem? (i := 118) rfl)), by decide, by decide⟩
  · exact ⟨"", (hw _ (List.mem_of_getElem? (i := 4) rfl)), by decide, by decide⟩
set_option maxRecDepth 65536 in
set_option maxHeartbeats 40000000 in
theorem rm_asbinit {l : Launch} {Z : State} {a0 : Array Value} (hw : ∀ d ∈ tables_1, d.before a0 Z = true) {G1 : Int32} {G3 : Value} (O2 : Sta Z Z.heap "java/lang/String" "COMPACT_STRINGS" "Z" (.int G1)) (P5 : ¬ G1 = 0) (O4 : Sta Z Z.heap "jdk/internal/util/Preconditions" "SIOOBE_FORMATTER" "Ljava/util/function/BiFunction;" G3) (rG3 : G3.isRef = true) {h : Heap} (O : Ext Z.heap h) {o : Addr} {v1 v2 : Value} (Ao : Exa Z h o SB) (Fo_value : Fld Z h o ASB "value" "[B" v1) (Fo_coder : Fld Z h o ASB "coder" "B" v2) (Fo_count : Fld Z h o ASB "count" "I" (.int 0)) (no : Z.heap.size ≤ o) :
    Ctr l Z EL0 (⟨"java/lang/AbstractStringBuilder", "<init>", "(I)V"⟩ : MethodName) jdk_68_method_2_code 2 none [] ({ frames := 1, cells := 1, slots := 16, locals := 14 } : Room) #[(.ref o), (.int (16 : Int32))] h [] (fun v h' => v = none ∧ Keep h h' [o] ∧ ∃ t, h.size ≤ t ∧ Sbd Z h' o t []) := by
  refine Ctr.of pn0 O ?_
  intro p e s m below meth c s₁ hret hlk hnm X
  have hEL := hEL0 hw
  have KX : Keep h h [o] := Keep.refl _ _
  replace X := X.cast (g' := (mkF m 0 #[.val (.ref o), .val (.int (16 : Int32))] [])) (by first | (simp [entryFrame, mkF, argsToLocals, Value.category]; done) | rfl)
  replace X := X.aload_n (q := 1) d0_0 rfl rfl rfl
  replace X := X.initObj (q := 4) (hw _ (List.mem_of_getElem? (i := 62) rfl)) (hw _ (List.mem_of_getElem? (i := 19) rfl)) (hw _ (List.mem_of_getElem? (i := 20) rfl)) rfl d0_1 (by decide) (by decide) rfl
  replace X := X.getstatic (q := 7) (hw _ (List.mem_of_getElem? (i := 63) rfl)) O2 d0_4 rfl
  replace X := X.ifNo (q := 10) d0_7 (feq P5).1 rfl
  replace X := X.aload_n (q := 11) d0_10 rfl rfl rfl
  replace X := X.iload_n (q := 12) d0_11 rfl rfl
  obtain ⟨t, hp1, k3, gt, nt, E2, Vt, X⟩ := X.newarray (q := 14) (aty := .byte) (hw _ (List.mem_of_getElem? (i := 7) rfl)) d0_12 rfl (by decide) (cap := 16) (by decide) (by decide) (by decide) (by decide) 16
  have s_t : h.size ≤ t := by rw [gt]; exact KX.1
  have ne_o_t : o ≠ t := by rw [gt]; exact Nat.ne_of_lt Ao.lt
  replace KX := KX.ext E2
  replace Ao := Ao.ext E2
  replace Fo_value := Fo_value.ext E2
  replace Fo_coder := Fo_coder.ext E2
  replace Fo_count := Fo_count.ext E2
  obtain ⟨hp4, W5, X⟩ := X.putfield (q := 17) (hw _ (List.mem_of_getElem? (i := 64) rfl)) Fo_value Ao (Or.inl (hw _ (List.mem_of_getElem? (i := 65) rfl))) (hw _ (List.mem_of_getElem? (i := 51) rfl)) (ty := (.array .byte)) (by decide) rfl rfl no (by decide) (by decide) d0_14 rfl
  replace KX := KX.wr W5 (Or.inl (by simp))
  replace Fo_coder := Fo_coder.other W5 (Or.inr (RoadKit.slot_ne (Or.inl (hw _ (List.mem_of_getElem? (i := 67) rfl))) (Or.inl (hw _ (List.mem_of_getElem? (i := 65) rfl))) (by decide) (t := .byte) (t' := (.array .byte)) (by decide) (by decide)))
  replace Fo_count := Fo_count.other W5 (Or.inr (RoadKit.slot_ne (Or.inl (hw _ (List.mem_of_getElem? (i := 92) rfl))) (Or.inl (hw _ (List.mem_of_getElem? (i := 65) rfl))) (by decide) (t := .int) (t' := (.array .byte)) (by decide) (by decide)))
  replace Fo_value := Fo_value.same W5
  replace Ao := Ao.wr W5
  replace Vt := Vt.other W5 (Ne.symm ne_o_t)
  replace X := X.aload_n (q := 18) d0_17 rfl rfl rfl
  replace X := X.iconst (q := 19) (z := (0 : Int32)) d0_18 rfl rfl
  obtain ⟨hp6, W7, X⟩ := X.putfield (q := 22) (hw _ (List.mem_of_getElem? (i := 66) rfl)) Fo_coder Ao (Or.inl (hw _ (List.mem_of_getElem? (i := 67) rfl))) (hw _ (List.mem_of_getElem? (i := 51) rfl)) (ty := .byte) (by decide) rfl rfl no (by decide) (by decide) d0_19 rfl
  replace KX := KX.wr W7 (Or.inl (by simp))
  replace Fo_value := Fo_value.other W7 (Or.inr (RoadKit.slot_ne (Or.inl (hw _ (List.mem_of_getElem? (i := 65) rfl))) (Or.inl (hw _ (List.mem_of_getElem? (i := 67) rfl))) (by decide) (t := (.array .byte)) (t' := .byte) (by decide) (by decide)))
  replace Fo_count := Fo_count.other W7 (Or.inr (RoadKit.slot_ne (Or.inl (hw _ (List.mem_of_getElem? (i := 92) rfl))) (Or.inl (hw _ (List.mem_of_getElem? (i := 67) rfl))) (by decide) (t := .int) (t' := .byte) (by decide) (by decide)))
  replace Fo_coder := Fo_coder.same W7
  replace Ao := Ao.wr W7
  replace Vt := Vt.other W7 (Ne.symm ne_o_t)
  replace X := X.goto (q := 38) d0_22 (by decide) (by decide)
  exact X.ret hEL hret hlk d0_38 (by decide) (by decide) ⟨rfl, KX, t, s_t, by decide, (fun _ q => nomatch q), no, nt, Ao, Fo_value, Fo_coder, Fo_count, _, Vt⟩
set_option maxRecDepth 65536 in
set_option maxHeartbeats 40000000 in
theorem rm_sbinit {l : Launch} {Z : State} {a0 : Array Value} (hw : ∀ d ∈ tables_1, d.before a0 Z = true) {G1 : Int32} {G3 : Value} (O2 : Sta Z Z.heap "java/lang/String" "COMPACT_STRINGS" "Z" (.int G1)) (P5 : ¬ G1 = 0) (O4 : Sta Z Z.heap "jdk/internal/util/Preconditions" "SIOOBE_FORMATTER" "Ljava/util/function/BiFunction;" G3) (rG3 : G3.isRef = true) {h : Heap} (O : Ext Z.heap h) {o : Addr} {v1 v2 : Value} (Ao : Exa Z h o SB) (Fo_value : Fld Z h o ASB "value" "[B" v1) (Fo_coder : Fld Z h o ASB "coder" "B" v2) (Fo_count : Fld Z h o ASB "count" "I" (.int 0)) (no : Z.heap.size ≤ o) :
    Ctr l Z EL0 (⟨"java/lang/StringBuilder", "<init>", "()V"⟩ : MethodName) jdk_67_method_1_code 1 none [] ({ frames := 2, cells := 1, slots := 16, locals := 30 } : Room) #[(.ref o)] h [] (fun v h' => v = none ∧ Keep h h' [o] ∧ ∃ t, h.size ≤ t ∧ Sbd Z h' o t []) := by
  refine Ctr.of pn1 O ?_
  intro p e s m below meth c s₁ hret hlk hnm X
  have hEL := hEL0 hw
  have KX : Keep h h [o] := Keep.refl _ _
  replace X := X.cast (g' := (mkF m 0 #[.val (.ref o)] [])) (by first | (simp [entryFrame, mkF, argsToLocals, Value.category]; done) | rfl)
  replace X := X.aload_n (q := 1) d1_0 rfl rfl rfl
  replace X := X.bipush (q := 3) (z := (16 : Int32)) d1_1 rfl rfl
  obtain ⟨_, hp1, ⟨rfl, K1, t, s_t, B1⟩, X⟩ := X.callI (q := 6) (rm_asbinit hw O2 P5 O4 rG3 X.old Ao Fo_value Fo_coder Fo_count no) hEL (fun _ q => nomatch q) rfl (hw _ (List.mem_of_getElem? (i := 56) rfl)) (hw _ (List.mem_of_getElem? (i := 57) rfl)) (hw _ (List.mem_of_getElem? (i := 60) rfl)) (hw _ (List.mem_of_getElem? (i := 61) rfl)) (by decide) pd0 (a := o) (argsL := [(.int (16 : Int32))]) (rest := []) rfl rfl rfl rfl d1_3 (by decide) (by first | decide | exact Nat.le_of_ble_eq_true rfl) (by decide) (by decide) rfl
  replace X := X [] rfl
  exact X.ret hEL hret hlk d1_6 (by decide) (by decide) ⟨rfl, K1, t, s_t, B1⟩
set_option maxRecDepth 65536 in
set_option maxHeartbeats 40000000 in
theorem rm_cod {l : Launch} {Z : State} {a0 : Array Value} (hw : ∀ d ∈ tables_1, d.before a0 Z = true) {G1 : Int32} {G3 : Value} (O2 : Sta Z Z.heap "java/lang/String" "COMPACT_STRINGS" "Z" (.int G1)) (P5 : ¬ G1 = 0) (O4 : Sta Z Z.heap "jdk/internal/util/Preconditions" "SIOOBE_FORMATTER" "Ljava/util/function/BiFunction;" G3) (rG3 : G3.isRef = true) {h : Heap} (O : Ext Z.heap h) {a : Addr} {ds : List Int32} (S : Str Z h a ds) :
    Ctr l Z EL0 (⟨"java/lang/String", "coder", "()B"⟩ : MethodName) jdk_42_method_152_code 1 (some .byte) [] ({ frames := 0, cells := 0, slots := 0, locals := 0 } : Room) #[(.ref a)] h [] (fun v h' => v = some (.int 0) ∧ h = h') := by
  refine Ctr.of pn2 O ?_
  intro p e s m below meth c s₁ hret hlk hnm X
  have hEL := hEL0 hw
  have KX : Keep h h [] := Keep.refl _ _
  replace X := X.cast (g' := (mkF m 0 #[.val (.ref a)] [])) (by first | (simp [entryFrame, mkF, argsToLocals, Value.category]; done) | rfl)
  obtain ⟨-, -, -, C1, -⟩ := id S
  replace X := X.getstatic (q := 3) (hw _ (List.mem_of_getElem? (i := 89) rfl)) O2 d2_0 rfl
  replace X := X.ifNo (q := 6) d2_3 (feq P5).1 rfl
  replace X := X.aload_n (q := 7) d2_6 rfl rfl rfl
  replace X := X.getfield (q := 10) (hw _ (List.mem_of_getElem? (i := 90) rfl)) C1 d2_7 rfl
  replace X := X.goto (q := 14) d2_10 (by decide) (by decide)
  exact X.ireturn hEL hret (Or.inr (Or.inr (Or.inl rfl))) rfl hlk d2_14 (by decide) (by decide) ⟨rfl, rfl⟩
set_option maxRecDepth 65536 in
set_option maxHeartbeats 40000000 in
theorem rm_gv {l : Launch} {Z : State} {a0 : Array Value} (hw : ∀ d ∈ tables_1, d.before a0 Z = true) {G1 : Int32} {G3 : Value} (O2 : Sta Z Z.heap "java/lang/String" "COMPACT_STRINGS" "Z" (.int G1)) (P5 : ¬ G1 = 0) (O4 : Sta Z Z.heap "jdk/internal/util/Preconditions" "SIOOBE_FORMATTER" "Ljava/util/function/BiFunction;" G3) (rG3 : G3.isRef = true) {h : Heap} (O : Ext Z.heap h) {o t : Addr} {cs : List Int32} (Bo : Sbd Z h o t cs) :
    Ctr l Z EL0 (⟨"java/lang/AbstractStringBuilder", "getValue", "()[B"⟩ : MethodName) jdk_68_method_64_code 1 (some (.array .byte)) [] ({ frames := 0, cells := 0, slots := 0, locals := 0 } : Room) #[(.ref o)] h [] (fun v h' => v = some (.ref t) ∧ h = h') := by
  refine Ctr.of pn0 O ?_
  intro p e s m below meth c s₁ hret hlk hnm X
  have hEL := hEL0 hw
  have KX : Keep h h [] := Keep.refl _ _
  replace X := X.cast (g' := (mkF m 0 #[.val (.ref o)] [])) (by first | (simp [entryFrame, mkF, argsToLocals, Value.category]; done) | rfl)
  obtain ⟨lB, bB, no, nt, Ao, Fo_value, Fo_coder, Fo_count, kt, Vt⟩ := id Bo
  replace X := X.aload_n (q := 1) d3_0 rfl rfl rfl
  replace X := X.getfield (q := 4) (hw _ (List.mem_of_getElem? (i := 64) rfl)) Fo_value d3_1 rfl
  exact X.areturn hEL hret rfl rfl rfl hlk d3_4 (by decide) (by decide) ⟨rfl, rfl⟩
set_option maxRecDepth 65536 in
set_option maxHeartbeats 40000000 in
theorem rm_len {l : Launch} {Z : State} {a0 : Array Value} (hw : ∀ d ∈ tables_1, d.before a0 Z = true) {G1 : Int32} {G3 : Value} (O2 : Sta Z Z.heap "java/lang/String" "COMPACT_STRINGS" "Z" (.int G1)) (P5 : ¬ G1 = 0) (O4 : Sta Z Z.heap "jdk/internal/util/Preconditions" "SIOOBE_FORMATTER" "Ljava/util/function/BiFunction;" G3) (rG3 : G3.isRef = true) {h : Heap} (O : Ext Z.heap h) {o t : Addr} {cs : List Int32} (Bo : Sbd Z h o t cs) :
    Ctr l Z EL0 (⟨"java/lang/AbstractStringBuilder", "length", "()I"⟩ : MethodName) jdk_68_method_6_code 1 (some .int) [] ({ frames := 0, cells := 0, slots := 0, locals := 0 } : Room) #[(.ref o)] h [] (fun v h' => v = some (.int (Int32.ofNat cs.length)) ∧ h = h') := by
  refine Ctr.of pn0 O ?_
  intro p e s m below meth c s₁ hret hlk hnm X
  have hEL := hEL0 hw
  have KX : Keep h h [] := Keep.refl _ _
  replace X := X.cast (g' := (mkF m 0 #[.val (.ref o)] [])) (by first | (simp [entryFrame, mkF, argsToLocals, Value.category]; done) | rfl)
  obtain ⟨lB, bB, no, nt, Ao, Fo_value, Fo_coder, Fo_count, kt, Vt⟩ := id Bo
  replace X := X.aload_n (q := 1) d4_0 rfl rfl rfl
  replace X := X.getfield (q := 4) (hw _ (List.mem_of_getElem? (i := 91) rfl)) Fo_count d4_1 rfl
  exact X.ireturn hEL hret (Or.inl rfl) rfl hlk d4_4 (by decide) (by decide) ⟨rfl, rfl⟩
set_option maxRecDepth 65536 in
set_option maxHeartbeats 40000000 in
theorem rm_len2 {l : Launch} {Z : State} {a0 : Array Value} (hw : ∀ d ∈ tables_1, d.before a0 Z = true) {G1 : Int32} {G3 : Value} (O2 : Sta Z Z.heap "java/lang/String" "COMPACT_STRINGS" "Z" (.int G1)) (P5 : ¬ G1 = 0) (O4 : Sta Z Z.heap "jdk/internal/util/Preconditions" "SIOOBE_FORMATTER" "Ljava/util/function/BiFunction;" G3) (rG3 : G3.isRef = true) {h : Heap} (O : Ext Z.heap h) {o t : Addr} {cs : List Int32} (Bo : Sbd Z h o t cs) :
    Ctr l Z EL0 (⟨"java/lang/StringBuilder", "length", "()I"⟩ : MethodName) jdk_67_method_93_code 1 (some .int) [] ({ frames := 1, cells := 0, slots := 0, locals := 14 } : Room) #[(.ref o)] h [] (fun v h' => v = some (.int (Int32.ofNat cs.length)) ∧ h = h') := by
  refine Ctr.of pn1 O ?_
  intro p e s m below meth c s₁ hret hlk hnm X
  have hEL := hEL0 hw
  have KX : Keep h h [] := Keep.refl _ _
  replace X := X.cast (g' := (mkF m 0 #[.val (.ref o)] [])) (by first | (simp [entryFrame, mkF, argsToLocals, Value.category]; done) | rfl)
  replace X := X.aload_n (q := 1) d5_0 rfl rfl rfl
  obtain ⟨_, hp1, ⟨rfl, rfl⟩, X⟩ := X.callU (q := 4) (rm_len hw O2 P5 O4 rG3 X.old Bo) hEL (fun _ q => nomatch q) (hw _ (List.mem_of_getElem? (i := 144) rfl)) (same_self (hw _ (List.mem_of_getElem? (i := 140) rfl)) (hw _ (List.mem_of_getElem? (i := 136) rfl)) rfl (by decide)) (hw _ (List.mem_of_getElem? (i := 140) rfl)) (hw _ (List.mem_of_getElem? (i := 75) rfl)) (by decide) (hw _ (List.mem_of_getElem? (i := 60) rfl)) (hw _ (List.mem_of_getElem? (i := 145) rfl)) pd1 (Ins.self Bo.exa) (argsL := []) (rest := []) rfl rfl rfl rfl d5_1 (by decide) (by first | decide | exact Nat.le_of_ble_eq_true rfl) (by decide) (by decide) rfl
  replace X := X [(.int (Int32.ofNat cs.length))] rfl
  exact X.ireturn hEL hret (Or.inl rfl) rfl hlk d5_4 (by decide) (by decide) ⟨rfl, rfl⟩
set_option maxRecDepth 65536 in
set_option maxHeartbeats 40000000 in
theorem rm_isl {l : Launch} {Z : State} {a0 : Array Value} (hw : ∀ d ∈ tables_1, d.before a0 Z = true) {G1 : Int32} {G3 : Value} (O2 : Sta Z Z.heap "java/lang/String" "COMPACT_STRINGS" "Z" (.int G1)) (P5 : ¬ G1 = 0) (O4 : Sta Z Z.heap "jdk/internal/util/Preconditions" "SIOOBE_FORMATTER" "Ljava/util/function/BiFunction;" G3) (rG3 : G3.isRef = true) {h : Heap} (O : Ext Z.heap h) {o t : Addr} {cs : List Int32} (Bo : Sbd Z h o t cs) :
    Ctr l Z EL0 (⟨"java/lang/AbstractStringBuilder", "isLatin1", "()Z"⟩ : MethodName) jdk_68_method_68_code 1 (some .boolean) [] ({ frames := 0, cells := 0, slots := 0, locals := 0 } : Room) #[(.ref o)] h [] (fun v h' => v = some (.int 1) ∧ h = h') := by
  refine Ctr.of pn0 O ?_
  intro p e s m below meth c s₁ hret hlk hnm X
  have hEL := hEL0 hw
  have KX : Keep h h [] := Keep.refl _ _
  replace X := X.cast (g' := (mkF m 0 #[.val (.ref o)] [])) (by first | (simp [entryFrame, mkF, argsToLocals, Value.category]; done) | rfl)
  obtain ⟨lB, bB, no, nt, Ao, Fo_value, Fo_coder, Fo_count, kt, Vt⟩ := id Bo
  replace X := X.getstatic (q := 3) (hw _ (List.mem_of_getElem? (i := 63) rfl)) O2 d6_0 rfl
  replace X := X.ifNo (q := 6) d6_3 (feq P5).1 rfl
  replace X := X.aload_n (q := 7) d6_6 rfl rfl rfl
  replace X := X.getfield (q := 10) (hw _ (List.mem_of_getElem? (i := 66) rfl)) Fo_coder d6_7 rfl
  replace X := X.ifNo (q := 13) d6_10 (teq rfl).2 rfl
  replace X := X.iconst (q := 14) (z := (1 : Int32)) d6_13 rfl rfl
  replace X := X.goto (q := 18) d6_14 (by decide) (by decide)
  exact X.ireturn hEL hret (Or.inr (Or.inl rfl)) rfl hlk d6_18 (by decide) (by decide) ⟨rfl, rfl⟩
set_option maxRecDepth 65536 in
set_option maxHeartbeats 40000000 in
theorem rm_ens {l : Launch} {Z : State} {a0 : Array Value} (hw : ∀ d ∈ tables_1, d.before a0 Z = true) {G1 : Int32} {G3 : Value} (O2 : Sta Z Z.heap "java/lang/String" "COMPACT_STRINGS" "Z" (.int G1)) (P5 : ¬ G1 = 0) (O4 : Sta Z Z.heap "jdk/internal/util/Preconditions" "SIOOBE_FORMATTER" "Ljava/util/function/BiFunction;" G3) (rG3 : G3.isRef = true) {h : Heap} (O : Ext Z.heap h) {o t : Addr} {cs : List Int32} (Bo : Sbd Z h o t cs) {k : Nat} (hk : k ≤ 16) :
    Ctr l Z EL0 (⟨"java/lang/AbstractStringBuilder", "ensureCapacityInternal", "(I)V"⟩ : MethodName) jdk_68_method_9_code 3 none [] ({ frames := 0, cells := 0, slots := 0, locals := 0 } : Room) #[(.ref o), (.int (Int32.ofNat k))] h [] (fun v h' => v = none ∧ h = h') := by
  refine Ctr.of pn0 O ?_
  intro p e s m below meth c s₁ hret hlk hnm X
  have hEL := hEL0 hw
  have KX : Keep h h [] := Keep.refl _ _
  replace X := X.cast (g' := (mkF m 0 #[.val (.ref o), .val (.int (Int32.ofNat k)), .unset] [])) (by first | (simp [entryFrame, mkF, argsToLocals, Value.category]; done) | rfl)
  obtain ⟨lB, bB, no, nt, Ao, Fo_value, Fo_coder, Fo_count, kt, Vt⟩ := id Bo
  replace X := X.aload_n (q := 1) d7_0 rfl rfl rfl
  replace X := X.getfield (q := 4) (hw _ (List.mem_of_getElem? (i := 64) rfl)) Fo_value d7_1 rfl
  replace X := X.arraylength (q := 5) Vt d7_4 rfl
  replace X := X.aload_n (q := 6) d7_5 rfl rfl rfl
  replace X := X.getfield (q := 9) (hw _ (List.mem_of_getElem? (i := 66) rfl)) Fo_coder d7_6 rfl
  replace X := X.ishr (q := 10) (z := (16 : Int32)) d7_9 (shr0 _) rfl
  replace X := X.istore_n (q := 11) (Ls' := #[.val (.ref o), .val (.int (Int32.ofNat k)), .val (.int (16 : Int32))]) d7_10 rfl rfl
  replace X := X.iload_n (q := 12) d7_11 rfl rfl
  replace X := X.iload_n (q := 13) d7_12 rfl rfl
  replace X := X.isub (q := 14) (z := ((Int32.ofNat k) - (16 : Int32))) d7_13 rfl rfl
  replace X := X.ifYes (q := 38) d7_14 (flt (ens16 hk)).2.2.2 (by decide) (by decide)
  exact X.ret hEL hret hlk d7_38 (by decide) (by decide) ⟨rfl, rfl⟩
set_option maxRecDepth 65536 in
set_option maxHeartbeats 40000000 in
theorem rm_inf {l : Launch} {Z : State} {a0 : Array Value} (hw : ∀ d ∈ tables_1, d.before a0 Z = true) {G1 : Int32} {G3 : Value} (O2 : Sta Z Z.heap "java/lang/String" "COMPACT_STRINGS" "Z" (.int G1)) (P5 : ¬ G1 = 0) (O4 : Sta Z Z.heap "jdk/internal/util/Preconditions" "SIOOBE_FORMATTER" "Ljava/util/function/BiFunction;" G3) (rG3 : G3.isRef = true) {h : Heap} (O : Ext Z.heap h) {o t : Addr} {cs : List Int32} (Bo : Sbd Z h o t cs) {a : Addr} {ds : List Int32} (S : Str Z h a ds) :
    Ctr l Z EL0 (⟨"java/lang/AbstractStringBuilder", "inflateIfNeededFor", "(Ljava/lang/String;)V"⟩ : MethodName) jdk_68_method_71_code 2 none [] ({ frames := 1, cells := 0, slots := 0, locals := 14 } : Room) #[(.ref o), (.ref a)] h [] (fun v h' => v = none ∧ h = h') := by
  refine Ctr.of pn0 O ?_
  intro p e s m below meth c s₁ hret hlk hnm X
  have hEL := hEL0 hw
  have KX : Keep h h [] := Keep.refl _ _
  replace X := X.cast (g' := (mkF m 0 #[.val (.ref o), .val (.ref a)] [])) (by first | (simp [entryFrame, mkF, argsToLocals, Value.category]; done) | rfl)
  obtain ⟨lB, bB, no, nt, Ao, Fo_value, Fo_coder, Fo_count, kt, Vt⟩ := id Bo
  replace X := X.getstatic (q := 3) (hw _ (List.mem_of_getElem? (i := 63) rfl)) O2 d8_0 rfl
  replace X := X.ifNo (q := 6) d8_3 (feq P5).1 rfl
  replace X := X.aload_n (q := 7) d8_6 rfl rfl rfl
  replace X := X.getfield (q := 10) (hw _ (List.mem_of_getElem? (i := 66) rfl)) Fo_coder d8_7 rfl
  replace X := X.aload_n (q := 11) d8_10 rfl rfl rfl
  obtain ⟨_, hp1, ⟨rfl, rfl⟩, X⟩ := X.callV (q := 14) (rm_cod hw O2 P5 O4 rG3 X.old S) hEL (fun _ q => nomatch q) (hw _ (List.mem_of_getElem? (i := 108) rfl)) (hw _ (List.mem_of_getElem? (i := 85) rfl)) (hw _ (List.mem_of_getElem? (i := 87) rfl)) (hw _ (List.mem_of_getElem? (i := 87) rfl)) (hw _ (List.mem_of_getElem? (i := 86) rfl)) (hw _ (List.mem_of_getElem? (i := 5) rfl)) (hw _ (List.mem_of_getElem? (i := 88) rfl)) (by decide) pd2 S.exa (argsL := []) (rest := [(.int (0 : Int32))]) rfl rfl rfl rfl d8_11 (by decide) (by first | decide | exact Nat.le_of_ble_eq_true rfl) (by decide) (by decide) rfl
  replace X := X [(.int (0 : Int32)), (.int (0 : Int32))] rfl
  replace X := X.icmpYes (q := 21) d8_14 (teq rfl).1 (by decide) (by decide)
  exact X.ret hEL hret hlk d8_21 (by decide) (by decide) ⟨rfl, rfl⟩
set_option maxRecDepth 65536 in
set_option maxHeartbeats 40000000 in
theorem rm_getb {l : Launch} {Z : State} {a0 : Array Value} (hw : ∀ d ∈ tables_1, d.before a0 Z = true) {G1 : Int32} {G3 : Value} (O2 : Sta Z Z.heap "java/lang/String" "COMPACT_STRINGS" "Z" (.int G1)) (P5 : ¬ G1 = 0) (O4 : Sta Z Z.heap "jdk/internal/util/Preconditions" "SIOOBE_FORMATTER" "Ljava/util/function/BiFunction;" G3) (rG3 : G3.isRef = true) {h : Heap} (O : Ext Z.heap h) {a : Addr} {ds : List Int32} (S : Str Z h a ds) (hd : ds.length < 16) {t : Addr} {kt : ClassId} {vd : List Value} {k : Nat} (Vt : Arv Z h t kt .byte (16 : Int32) vd (.int 0)) (hvd : vd.length = 16) (nt : Z.heap.size ≤ t) (hk : k + ds.length ≤ 16) :
    Ctr l Z EL0 (⟨"java/lang/String", "getBytes", "([BIB)V"⟩ : MethodName) jdk_42_method_147_code 4 none [] ({ frames := 1, cells := 0, slots := 0, locals := 40 } : Room) #[(.ref a), (.ref t), (.int (Int32.ofNat k)), (.int (0 : Int32))] h [] (fun v h' => v = none ∧ Keep h h' [t] ∧ Arv Z h' t kt .byte (16 : Int32) (vd.take k ++ byts ds ++ vd.drop (k + ds.length)) (.int 0)) := by
  refine Ctr.of pn2 O ?_
  intro p e s m below meth c s₁ hret hlk hnm X
  have hEL := hEL0 hw
  have KX : Keep h h [t] := Keep.refl _ _
  replace X := X.cast (g' := (mkF m 0 #[.val (.ref a), .val (.ref t), .val (.int (Int32.ofNat k)), .val (.int (0 : Int32))] [])) (by first | (simp [entryFrame, mkF, argsToLocals, Value.category]; done) | rfl)
  obtain ⟨lS, bS, eS, cS, ta, ka, vS, tS⟩ := id S
  replace X := X.aload_n (q := 1) d9_0 rfl rfl rfl
  obtain ⟨_, hp1, ⟨rfl, rfl⟩, X⟩ := X.callV (q := 4) (rm_cod hw O2 P5 O4 rG3 X.old S) hEL (fun _ q => nomatch q) (hw _ (List.mem_of_getElem? (i := 84) rfl)) (hw _ (List.mem_of_getElem? (i := 85) rfl)) (hw _ (List.mem_of_getElem? (i := 87) rfl)) (hw _ (List.mem_of_getElem? (i := 87) rfl)) (hw _ (List.mem_of_getElem? (i := 86) rfl)) (hw _ (List.mem_of_getElem? (i := 5) rfl)) (hw _ (List.mem_of_getElem? (i := 88) rfl)) (by decide) pd2 eS (argsL := []) (rest := []) rfl rfl rfl rfl d9_1 (by decide) (by first | decide | exact Nat.le_of_ble_eq_true rfl) (by decide) (by decide) rfl
  replace X := X [(.int (0 : Int32))] rfl
  replace X := X.iload_n (q := 5) d9_4 rfl rfl
  replace X := X.icmpNo (q := 8) d9_5 (teq rfl).2 rfl
  replace X := X.aload_n (q := 9) d9_8 rfl rfl rfl
  replace X := X.getfield (q := 12) (hw _ (List.mem_of_getElem? (i := 83) rfl)) vS d9_9 rfl
  replace X := X.iconst (q := 13) (z := (0 : Int32)) d9_12 rfl rfl
  replace X := X.aload_n (q := 14) d9_13 rfl rfl rfl
  replace X := X.iload_n (q := 15) d9_14 rfl rfl
  replace X := X.iload_n (q := 16) d9_15 rfl rfl
  replace X := X.ishl (q := 17) (z := (Int32.ofNat k)) d9_16 (shl0 _) rfl
  replace X := X.aload_n (q := 18) d9_17 rfl rfl rfl
  replace X := X.getfield (q := 21) (hw _ (List.mem_of_getElem? (i := 83) rfl)) vS d9_18 rfl
  replace X := X.arraylength (q := 22) tS d9_21 rfl
  obtain ⟨hp3, K2, V4, X⟩ := X.arraycopy (q := 25) (hw _ (List.mem_of_getElem? (i := 114) rfl)) (hw _ (List.mem_of_getElem? (i := 117) rfl)) (hw _ (List.mem_of_getElem? (i := 115) rfl)) (hw _ (List.mem_of_getElem? (i := 116) rfl)) tS Vt (us := byts ds) (Or.inl ⟨rfl, rfl⟩) (by decide) (ofNat_nn (by omega)) (ofNat_nn (by omega)) (by show 0 + _ ≤ _; omega) (by rw [clampN (n := k) (by omega), clampN (n := ds.length) (by omega)]; show _ ≤ 16; omega) (by rw [clampN (n := ds.length) (by omega)]; exact (range_self (by simp)).symm) (by rw [clampN (n := k) (by omega), clampN (n := ds.length) (by omega), hvd]; omega) nt (fun vm hZ _ => Safe.len hZ (hT16 hw) Vt rfl) rfl d9_22 (by decide) (by first | decide | exact Nat.le_of_ble_eq_true rfl) rfl
  replace X := X.goto (q := 43) d9_25 (by decide) (by decide)
  rw [clampN (n := k) (by omega), clampN (n := ds.length) (by omega)] at V4
  exact X.ret hEL hret hlk d9_43 (by decide) (by decide) ⟨rfl, K2, V4⟩
set_option maxRecDepth 65536 in
set_option maxHeartbeats 40000000 in
theorem rm_pst {l : Launch} {Z : State} {a0 : Array Value} (hw : ∀ d ∈ tables_1, d.before a0 Z = true) {G1 : Int32} {G3 : Value} (O2 : Sta Z Z.heap "java/lang/String" "COMPACT_STRINGS" "Z" (.int G1)) (P5 : ¬ G1 = 0) (O4 : Sta Z Z.heap "jdk/internal/util/Preconditions" "SIOOBE_FORMATTER" "Ljava/util/function/BiFunction;" G3) (rG3 : G3.isRef = true) {h : Heap} (O : Ext Z.heap h) {o t : Addr} {cs : List Int32} (Bo : Sbd Z h o t cs) {a : Addr} {ds : List Int32} (S : Str Z h a ds) (hd : ds.length < 16) (hk : cs.length + ds.length ≤ 16) :
    Ctr l Z EL0 (⟨"java/lang/AbstractStringBuilder", "putStringAt", "(ILjava/lang/String;)V"⟩ : MethodName) jdk_68_method_73_code 3 none [] ({ frames := 2, cells := 0, slots := 0, locals := 60 } : Room) #[(.ref o), (.int (Int32.ofNat cs.length)), (.ref a)] h [] (fun v h' => v = none ∧ Keep h h' [t] ∧ ∃ kt, Arv Z h' t kt .byte (16 : Int32) (byts (cs ++ ds) ++ List.replicate (16 - (cs ++ ds).length) (.int 0)) (.int 0)) := by
  refine Ctr.of pn0 O ?_
  intro p e s m below meth c s₁ hret hlk hnm X
  have hEL := hEL0 hw
  have KX : Keep h h [t] := Keep.refl _ _
  replace X := X.cast (g' := (mkF m 0 #[.val (.ref o), .val (.int (Int32.ofNat cs.length)), .val (.ref a)] [])) (by first | (simp [entryFrame, mkF, argsToLocals, Value.category]; done) | rfl)
  obtain ⟨lB, bB, no, nt, Ao, Fo_value, Fo_coder, Fo_count, kt, Vt⟩ := id Bo
  have hlV : (byts cs ++ List.replicate (16 - cs.length) (Value.int 0)).length = 16 := by simp; omega
  replace X := X.aload_n (q := 1) d10_0 rfl rfl rfl
  replace X := X.aload_n (q := 2) d10_1 rfl rfl rfl
  obtain ⟨_, hp1, ⟨rfl, rfl⟩, X⟩ := X.callP (q := 5) (rm_inf hw O2 P5 O4 rG3 X.old Bo S) hEL (fun _ q => nomatch q) (hw _ (List.mem_of_getElem? (i := 103) rfl)) (hw _ (List.mem_of_getElem? (i := 104) rfl)) (hw _ (List.mem_of_getElem? (i := 105) rfl)) (hw _ (List.mem_of_getElem? (i := 106) rfl)) (hw _ (List.mem_of_getElem? (i := 60) rfl)) (hw _ (List.mem_of_getElem? (i := 107) rfl)) (by decide) pd3 Ao (argsL := [(.ref a)]) (rest := []) rfl rfl rfl rfl d10_2 (by decide) (by first | decide | exact Nat.le_of_ble_eq_true rfl) (by decide) (by decide) rfl
  replace X := X [] rfl
  replace X := X.aload_n (q := 6) d10_5 rfl rfl rfl
  replace X := X.aload_n (q := 7) d10_6 rfl rfl rfl
  replace X := X.getfield (q := 10) (hw _ (List.mem_of_getElem? (i := 64) rfl)) Fo_value d10_7 rfl
  replace X := X.iload_n (q := 11) d10_10 rfl rfl
  replace X := X.aload_n (q := 12) d10_11 rfl rfl rfl
  replace X := X.getfield (q := 15) (hw _ (List.mem_of_getElem? (i := 66) rfl)) Fo_coder d10_12 rfl
  obtain ⟨_, hp2, ⟨rfl, K1, A1⟩, X⟩ := X.callV (q := 18) (rm_getb hw O2 P5 O4 rG3 X.old S hd Vt hlV nt hk) hEL (fun _ q => nomatch q) (hw _ (List.mem_of_getElem? (i := 109) rfl)) (hw _ (List.mem_of_getElem? (i := 110) rfl)) (hw _ (List.mem_of_getElem? (i := 112) rfl)) (hw _ (List.mem_of_getElem? (i := 112) rfl)) (hw _ (List.mem_of_getElem? (i := 111) rfl)) (hw _ (List.mem_of_getElem? (i := 5) rfl)) (hw _ (List.mem_of_getElem? (i := 113) rfl)) (by decide) pd4 S.exa (argsL := [(.ref t), (.int (Int32.ofNat cs.length)), (.int (0 : Int32))]) (rest := []) rfl rfl rfl rfl d10_15 (by decide) (by first | decide | exact Nat.le_of_ble_eq_true rfl) (by decide) (by decide) rfl
  replace X := X [] rfl
  rw [sb_eq cs ds hk] at A1
  exact X.ret hEL hret hlk d10_18 (by decide) (by decide) ⟨rfl, K1, kt, A1⟩
set_option maxRecDepth 65536 in
set_option maxHeartbeats 40000000 in
theorem rm_app0 {l : Launch} {Z : State} {a0 : Array Value} (hw : ∀ d ∈ tables_1, d.before a0 Z = true) {G1 : Int32} {G3 : Value} (O2 : Sta Z Z.heap "java/lang/String" "COMPACT_STRINGS" "Z" (.int G1)) (P5 : ¬ G1 = 0) (O4 : Sta Z Z.heap "jdk/internal/util/Preconditions" "SIOOBE_FORMATTER" "Ljava/util/function/BiFunction;" G3) (rG3 : G3.isRef = true) {h : Heap} (O : Ext Z.heap h) {o t : Addr} {cs : List Int32} (Bo : Sbd Z h o t cs) {a : Addr} {ds : List Int32} (S : Str Z h a ds) (hd : ds.length < 16) (hk : cs.length + ds.length ≤ 16) :
    Ctr l Z EL0 (⟨"java/lang/AbstractStringBuilder", "append", "(Ljava/lang/String;)Ljava/lang/AbstractStringBuilder;"⟩ : MethodName) jdk_68_method_22_code 3 (some (.object "java/lang/AbstractStringBuilder")) [] ({ frames := 3, cells := 0, slots := 0, locals := 80 } : Room) #[(.ref o), (.ref a)] h [] (fun v h' => v = some (.ref o) ∧ Keep h h' [o, t] ∧ Sbd Z h' o t (cs ++ ds)) := by
  refine Ctr.of pn0 O ?_
  intro p e s m below meth c s₁ hret hlk hnm X
  have hEL := hEL0 hw
  have KX : Keep h h [o, t] := Keep.refl _ _
  replace X := X.cast (g' := (mkF m 0 #[.val (.ref o), .val (.ref a), .unset] [])) (by first | (simp [entryFrame, mkF, argsToLocals, Value.category]; done) | rfl)
  obtain ⟨lB, bB, no, nt, Ao, Fo_value, Fo_coder, Fo_count, kt, Vt⟩ := id Bo
  have ne_o_t : o ≠ t := Ao.neArv Vt (hw _ (List.mem_of_getElem? (i := 51) rfl))
  have bS := S.2.1
  replace X := X.aload_n (q := 1) d11_0 rfl rfl rfl
  replace X := X.ifnonnullYes (q := 9) d11_1 (by decide) (by decide)
  replace X := X.aload_n (q := 10) d11_9 rfl rfl rfl
  replace X := X.strLen (q := 13) (z := (Int32.ofNat ds.length)) S (hln_of hw) (hw _ (List.mem_of_getElem? (i := 6) rfl)) O2 P5 (hw _ (List.mem_of_getElem? (i := 78) rfl)) (hw _ (List.mem_of_getElem? (i := 79) rfl)) (hw _ (List.mem_of_getElem? (i := 81) rfl)) (hw _ (List.mem_of_getElem? (i := 80) rfl)) rfl d11_10 (by decide) (by first | decide | exact Nat.le_of_ble_eq_true rfl) (by decide) (by decide) rfl rfl
  replace X := X.istore_n (q := 14) (Ls' := #[.val (.ref o), .val (.ref a), .val (.int (Int32.ofNat ds.length))]) d11_13 rfl rfl
  replace X := X.aload_n (q := 15) d11_14 rfl rfl rfl
  replace X := X.aload_n (q := 16) d11_15 rfl rfl rfl
  replace X := X.getfield (q := 19) (hw _ (List.mem_of_getElem? (i := 91) rfl)) Fo_count d11_16 rfl
  replace X := X.iload_n (q := 20) d11_19 rfl rfl
  replace X := X.iadd (q := 21) (z := (Int32.ofNat (cs.length + ds.length))) d11_20 (ofNat_add _ _ (by omega)) rfl
  obtain ⟨_, hp1, ⟨rfl, rfl⟩, X⟩ := X.callP (q := 24) (rm_ens hw O2 P5 O4 rG3 X.old (k := cs.length + ds.length) Bo (by omega)) hEL (fun _ q => nomatch q) (hw _ (List.mem_of_getElem? (i := 93) rfl)) (hw _ (List.mem_of_getElem? (i := 94) rfl)) (hw _ (List.mem_of_getElem? (i := 95) rfl)) (hw _ (List.mem_of_getElem? (i := 96) rfl)) (hw _ (List.mem_of_getElem? (i := 60) rfl)) (hw _ (List.mem_of_getElem? (i := 97) rfl)) (by decide) pd0 Ao (argsL := [(.int (Int32.ofNat (cs.length + ds.length)))]) (rest := []) rfl rfl rfl rfl d11_21 (by decide) (by first | decide | exact Nat.le_of_ble_eq_true rfl) (by decide) (by decide) rfl
  replace X := X [] rfl
  replace X := X.aload_n (q := 25) d11_24 rfl rfl rfl
  replace X := X.aload_n (q := 26) d11_25 rfl rfl rfl
  replace X := X.getfield (q := 29) (hw _ (List.mem_of_getElem? (i := 91) rfl)) Fo_count d11_26 rfl
  replace X := X.aload_n (q := 30) d11_29 rfl rfl rfl
  obtain ⟨_, hp2, ⟨rfl, K1, kt2, V2⟩, X⟩ := X.callP (q := 33) (rm_pst hw O2 P5 O4 rG3 X.old Bo S hd hk) hEL (fun _ q => nomatch q) (hw _ (List.mem_of_getElem? (i := 98) rfl)) (hw _ (List.mem_of_getElem? (i := 99) rfl)) (hw _ (List.mem_of_getElem? (i := 100) rfl)) (hw _ (List.mem_of_getElem? (i := 101) rfl)) (hw _ (List.mem_of_getElem? (i := 60) rfl)) (hw _ (List.mem_of_getElem? (i := 102) rfl)) (by decide) pd5 Ao (argsL := [(.int (Int32.ofNat cs.length)), (.ref a)]) (rest := []) rfl rfl rfl rfl d11_30 (by decide) (by first | decide | exact Nat.le_of_ble_eq_true rfl) (by decide) (by decide) rfl
  replace X := X [] rfl
  replace KX := KX.trans K1 (fun x q => by cases List.mem_singleton.mp q; exact Or.inl (by simp))
  replace Ao := Ao.keep K1
  replace Fo_value := Fo_value.keep K1 (ninS ne_o_t nin0)
  replace Fo_coder := Fo_coder.keep K1 (ninS ne_o_t nin0)
  replace Fo_count := Fo_count.keep K1 (ninS ne_o_t nin0)
  replace X := X.aload_n (q := 34) d11_33 rfl rfl rfl
  replace X := X.dup (q := 35) d11_34 rfl rfl
  replace X := X.getfield (q := 38) (hw _ (List.mem_of_getElem? (i := 91) rfl)) Fo_count d11_35 rfl
  replace X := X.iload_n (q := 39) d11_38 rfl rfl
  replace X := X.iadd (q := 40) (z := (Int32.ofNat (cs.length + ds.length))) d11_39 (ofNat_add _ _ (by omega)) rfl
  obtain ⟨hp3, W4, X⟩ := X.putfield (q := 43) (hw _ (List.mem_of_getElem? (i := 91) rfl)) Fo_count Ao (Or.inl (hw _ (List.mem_of_getElem? (i := 92) rfl))) (hw _ (List.mem_of_getElem? (i := 51) rfl)) (ty := .int) (by decide) rfl rfl no (by decide) (by decide) d11_40 rfl
  replace KX := KX.wr W4 (Or.inl (by simp))
  replace Fo_value := Fo_value.other W4 (Or.inr (RoadKit.slot_ne (Or.inl (hw _ (List.mem_of_getElem? (i := 65) rfl))) (Or.inl (hw _ (List.mem_of_getElem? (i := 92) rfl))) (by decide) (t := (.array .byte)) (t' := .int) (by decide) (by decide)))
  replace Fo_coder := Fo_coder.other W4 (Or.inr (RoadKit.slot_ne (Or.inl (hw _ (List.mem_of_getElem? (i := 67) rfl))) (Or.inl (hw _ (List.mem_of_getElem? (i := 92) rfl))) (by decide) (t := .byte) (t' := .int) (by decide) (by decide)))
  replace Fo_count := Fo_count.same W4
  replace Ao := Ao.wr W4
  replace V2 := V2.other W4 (Ne.symm ne_o_t)
  replace X := X.aload_n (q := 44) d11_43 rfl rfl rfl
  have hb2 : ∀ c ∈ cs ++ ds, ¬ c < 0 ∧ ¬ (255 : Int32) < c := fun c hc => (List.mem_append.mp hc).elim (bB c) (bS c)
  exact X.areturn hEL hret rfl rfl rfl hlk d11_44 (by decide) (by decide) ⟨rfl, KX, (by rw [List.length_append]; exact hk), hb2, no, nt, Ao, Fo_value, Fo_coder, (by rw [List.length_append]; exact Fo_count), kt2, V2⟩
set_option maxRecDepth 65536 in
set_option maxHeartbeats 40000000 in
theorem rm_app {l : Launch} {Z : State} {a0 : Array Value} (hw : ∀ d ∈ tables_1, d.before a0 Z = true) {G1 : Int32} {G3 : Value} (O2 : Sta Z Z.heap "java/lang/String" "COMPACT_STRINGS" "Z" (.int G1)) (P5 : ¬ G1 = 0) (O4 : Sta Z Z.heap "jdk/internal/util/Preconditions" "SIOOBE_FORMATTER" "Ljava/util/function/BiFunction;" G3) (rG3 : G3.isRef = true) {h : Heap} (O : Ext Z.heap h) {o t : Addr} {cs : List Int32} (Bo : Sbd Z h o t cs) {a : Addr} {ds : List Int32} (S : Str Z h a ds) (hd : ds.length < 16) (hk : cs.length + ds.length ≤ 16) :
    Ctr l Z EL0 (⟨"java/lang/StringBuilder", "append", "(Ljava/lang/String;)Ljava/lang/StringBuilder;"⟩ : MethodName) jdk_67_method_7_code 2 (some (.object "java/lang/StringBuilder")) [] ({ frames := 4, cells := 0, slots := 0, locals := 100 } : Room) #[(.ref o), (.ref a)] h [] (fun v h' => v = some (.ref o) ∧ Keep h h' [o, t] ∧ Sbd Z h' o t (cs ++ ds)) := by
  refine Ctr.of pn1 O ?_
  intro p e s m below meth c s₁ hret hlk hnm X
  have hEL := hEL0 hw
  have KX : Keep h h [] := Keep.refl _ _
  replace X := X.cast (g' := (mkF m 0 #[.val (.ref o), .val (.ref a)] [])) (by first | (simp [entryFrame, mkF, argsToLocals, Value.category]; done) | rfl)
  replace X := X.aload_n (q := 1) d12_0 rfl rfl rfl
  replace X := X.aload_n (q := 2) d12_1 rfl rfl rfl
  obtain ⟨_, hp1, ⟨rfl, K1, B1⟩, X⟩ := X.callU (q := 5) (rm_app0 hw O2 P5 O4 rG3 X.old Bo S hd hk) hEL (fun _ q => nomatch q) (hw _ (List.mem_of_getElem? (i := 73) rfl)) (same_self (hw _ (List.mem_of_getElem? (i := 74) rfl)) (hw _ (List.mem_of_getElem? (i := 136) rfl)) rfl (by decide)) (hw _ (List.mem_of_getElem? (i := 74) rfl)) (hw _ (List.mem_of_getElem? (i := 75) rfl)) (by decide) (hw _ (List.mem_of_getElem? (i := 60) rfl)) (hw _ (List.mem_of_getElem? (i := 77) rfl)) pd6 (Ins.self Bo.exa) (argsL := [(.ref a)]) (rest := []) rfl rfl rfl rfl d12_2 (by decide) (by first | decide | exact Nat.le_of_ble_eq_true rfl) (by decide) (by decide) rfl
  replace X := X [(.ref o)] rfl
  replace X := X.pop (q := 6) d12_5 rfl rfl
  replace X := X.aload_n (q := 7) d12_6 rfl rfl rfl
  exact X.areturn hEL hret rfl rfl rfl hlk d12_7 (by decide) (by decide) ⟨rfl, K1, B1⟩
set_option maxRecDepth 65536 in
set_option maxHeartbeats 40000000 in
theorem rm_chk {l : Launch} {Z : State} {a0 : Array Value} (hw : ∀ d ∈ tables_1, d.before a0 Z = true) {G1 : Int32} {G3 : Value} (O2 : Sta Z Z.heap "java/lang/String" "COMPACT_STRINGS" "Z" (.int G1)) (P5 : ¬ G1 = 0) (O4 : Sta Z Z.heap "jdk/internal/util/Preconditions" "SIOOBE_FORMATTER" "Ljava/util/function/BiFunction;" G3) (rG3 : G3.isRef = true) {h : Heap} (O : Ext Z.heap h) {k : Nat} (hk : k ≤ 4000) :
    Ctr l Z EL0 (⟨"java/util/Arrays", "checkLength", "(II)V"⟩ : MethodName) jdk_65_method_131_code 2 none [] ({ frames := 0, cells := 0, slots := 0, locals := 0 } : Room) #[(.int (0 : Int32)), (.int (Int32.ofNat k))] h [] (fun v h' => v = none ∧ h = h') := by
  refine Ctr.of pn3 O ?_
  intro p e s m below meth c s₁ hret hlk hnm X
  have hEL := hEL0 hw
  have KX : Keep h h [] := Keep.refl _ _
  replace X := X.cast (g' := (mkF m 0 #[.val (.int (0 : Int32)), .val (.int (Int32.ofNat k))] [])) (by first | (simp [entryFrame, mkF, argsToLocals, Value.category]; done) | rfl)
  replace X := X.iload_n (q := 1) d13_0 rfl rfl
  replace X := X.iload_n (q := 2) d13_1 rfl rfl
  replace X := X.icmpYes (q := 37) d13_2 (flt (ofNat_nn hk)).2.1 (by decide) (by decide)
  exact X.ret hEL hret hlk d13_37 (by decide) (by decide) ⟨rfl, rfl⟩
set_option maxRecDepth 65536 in
set_option maxHeartbeats 40000000 in
theorem rm_min {l : Launch} {Z : State} {a0 : Array Value} (hw : ∀ d ∈ tables_1, d.before a0 Z = true) {G1 : Int32} {G3 : Value} (O2 : Sta Z Z.heap "java/lang/String" "COMPACT_STRINGS" "Z" (.int G1)) (P5 : ¬ G1 = 0) (O4 : Sta Z Z.heap "jdk/internal/util/Preconditions" "SIOOBE_FORMATTER" "Ljava/util/function/BiFunction;" G3) (rG3 : G3.isRef = true) {h : Heap} (O : Ext Z.heap h) {k : Nat} (hk : k < 16) :
    Ctr l Z EL0 (⟨"java/lang/Math", "min", "(II)I"⟩ : MethodName) jdk_29_method_69_code 2 (some .int) [] ({ frames := 0, cells := 0, slots := 0, locals := 0 } : Room) #[(.int (16 : Int32)), (.int (Int32.ofNat k))] h [] (fun v h' => v = some (.int (Int32.ofNat k)) ∧ h = h') := by
  refine Ctr.ofF (Jvm.Free.JP.mathPlain rfl (by decide)) O ?_
  intro p e s m below meth c s₁ hret hlk hnm X
  have hEL := hEL0 hw
  have KX : Keep h h [] := Keep.refl _ _
  replace X := X.cast (g' := (mkF m 0 #[.val (.int (16 : Int32)), .val (.int (Int32.ofNat k))] [])) (by first | (simp [entryFrame, mkF, argsToLocals, Value.category]; done) | rfl)
  replace X := X.iload_n (q := 1) d14_0 rfl rfl
  replace X := X.iload_n (q := 2) d14_1 rfl rfl
  replace X := X.icmpYes (q := 9) d14_2 (tlt (ofNat_lt hk (by decide))).2.2.1 (by decide) (by decide)
  replace X := X.iload_n (q := 10) d14_9 rfl rfl
  exact X.ireturn hEL hret (Or.inl rfl) rfl hlk d14_10 (by decide) (by decide) ⟨rfl, rfl⟩
set_option maxRecDepth 65536 in
set_option maxHeartbeats 40000000 in
theorem rm_corb {l : Launch} {Z : State} {a0 : Array Value} (hw : ∀ d ∈ tables_1, d.before a0 Z = true) {G1 : Int32} {G3 : Value} (O2 : Sta Z Z.heap "java/lang/String" "COMPACT_STRINGS" "Z" (.int G1)) (P5 : ¬ G1 = 0) (O4 : Sta Z Z.heap "jdk/internal/util/Preconditions" "SIOOBE_FORMATTER" "Ljava/util/function/BiFunction;" G3) (rG3 : G3.isRef = true) {h : Heap} (O : Ext Z.heap h) {t : Addr} {kt : ClassId} {cs : List Int32} {M : List Value} (Vt : Arv Z h t kt .byte (16 : Int32) (byts cs ++ M) (.int 0)) (hl : cs.length < 16) :
    Ctr l Z EL0 (⟨"java/util/Arrays", "copyOfRangeByte", "([BII)[B"⟩ : MethodName) jdk_65_method_133_code 5 (some (.array .byte)) [] ({ frames := 1, cells := 1, slots := 16, locals := 40 } : Room) #[(.ref t), (.int (0 : Int32)), (.int (Int32.ofNat cs.length))] h [] (fun v h' => ∃ r k, v = some (.ref r) ∧ Keep h h' [] ∧ h.size ≤ r ∧ Arv Z h' r k .byte (Int32.ofNat cs.length) (byts cs) (.int 0)) := by
  refine Ctr.of pn3 O ?_
  intro p e s m below meth c s₁ hret hlk hnm X
  have hEL := hEL0 hw
  have KX : Keep h h [] := Keep.refl _ _
  replace X := X.cast (g' := (mkF m 0 #[.val (.ref t), .val (.int (0 : Int32)), .val (.int (Int32.ofNat cs.length)), .unset, .unset] [])) (by first | (simp [entryFrame, mkF, argsToLocals, Value.category]; done) | rfl)
  replace X := X.iload_n (q := 1) d15_0 rfl rfl
  replace X := X.iload_n (q := 2) d15_1 rfl rfl
  obtain ⟨_, hp1, ⟨rfl, rfl⟩, X⟩ := X.callS (q := 5) (rm_chk hw O2 P5 O4 rG3 X.old (k := cs.length) (by omega)) hEL (fun _ q => nomatch q) (hw _ (List.mem_of_getElem? (i := 158) rfl)) (hw _ (List.mem_of_getElem? (i := 159) rfl)) (hw _ (List.mem_of_getElem? (i := 153) rfl)) (hw _ (List.mem_of_getElem? (i := 160) rfl)) (by decide) pd7 (argsL := [(.int (0 : Int32)), (.int (Int32.ofNat cs.length))]) (rest := []) rfl rfl rfl rfl d15_2 (by decide) (by first | decide | exact Nat.le_of_ble_eq_true rfl) (by decide) (by decide) rfl
  replace X := X [] rfl
  replace X := X.iload_n (q := 6) d15_5 rfl rfl
  replace X := X.iload_n (q := 7) d15_6 rfl rfl
  replace X := X.isub (q := 8) (z := (Int32.ofNat cs.length)) d15_7 (sub0 _) rfl
  replace X := X.istore_n (q := 9) (Ls' := #[.val (.ref t), .val (.int (0 : Int32)), .val (.int (Int32.ofNat cs.length)), .val (.int (Int32.ofNat cs.length)), .unset]) d15_8 rfl rfl
  replace X := X.iload_n (q := 10) d15_9 rfl rfl
  obtain ⟨r, hp2, kr, gr, nr, E3, Vr, X⟩ := X.newarray (q := 12) (aty := .byte) (hw _ (List.mem_of_getElem? (i := 7) rfl)) d15_10 rfl (ofNat_nn (by omega)) (cap := 16) (by rw [clampN (n := cs.length) (by omega)]; omega) (by decide) (by decide) (by decide) cs.length
  have s_r : h.size ≤ r := by rw [gr]; exact KX.1
  have ne_t_r : t ≠ r := by rw [gr]; exact Nat.ne_of_lt Vt.lt
  replace KX := KX.ext E3
  replace Vt := Vt.ext E3
  replace X := X.astore (q := 14) (Ls' := #[.val (.ref t), .val (.int (0 : Int32)), .val (.int (Int32.ofNat cs.length)), .val (.int (Int32.ofNat cs.length)), .val (.ref r)]) d15_12 rfl rfl rfl
  replace X := X.aload_n (q := 15) d15_14 rfl rfl rfl
  replace X := X.iload_n (q := 16) d15_15 rfl rfl
  replace X := X.aload (q := 18) d15_16 rfl rfl rfl
  replace X := X.iconst (q := 19) (z := (0 : Int32)) d15_18 rfl rfl
  replace X := X.aload_n (q := 20) d15_19 rfl rfl rfl
  replace X := X.arraylength (q := 21) Vt d15_20 rfl
  replace X := X.iload_n (q := 22) d15_21 rfl rfl
  replace X := X.isub (q := 23) (z := (16 : Int32)) d15_22 (by decide) rfl
  replace X := X.iload_n (q := 24) d15_23 rfl rfl
  obtain ⟨_, hp4, ⟨rfl, rfl⟩, X⟩ := X.callS (q := 27) (rm_min hw O2 P5 O4 rG3 X.old (k := cs.length) hl) hEL (fun _ q => nomatch q) (hw _ (List.mem_of_getElem? (i := 161) rfl)) (hw _ (List.mem_of_getElem? (i := 162) rfl)) (hw _ (List.mem_of_getElem? (i := 163) rfl)) (hw _ (List.mem_of_getElem? (i := 164) rfl)) (by decide) pd8 (argsL := [(.int (16 : Int32)), (.int (Int32.ofNat cs.length))]) (rest := [(.int (0 : Int32)), (.ref r), (.int (0 : Int32)), (.ref t)]) rfl rfl rfl rfl d15_24 (by decide) (by first | decide | exact Nat.le_of_ble_eq_true rfl) (by decide) (by decide) rfl
  replace X := X [(.int (Int32.ofNat cs.length)), (.int (0 : Int32)), (.ref r), (.int (0 : Int32)), (.ref t)] rfl
  obtain ⟨hp6, K5, V7, X⟩ := X.arraycopy (q := 30) (hw _ (List.mem_of_getElem? (i := 165) rfl)) (hw _ (List.mem_of_getElem? (i := 117) rfl)) (hw _ (List.mem_of_getElem? (i := 115) rfl)) (hw _ (List.mem_of_getElem? (i := 116) rfl)) Vt Vr (us := byts cs) (Or.inl ⟨rfl, rfl⟩) (by decide) (by decide) (ofNat_nn (by omega)) (by rw [clampN (n := cs.length) (by omega)]; show 0 + _ ≤ 16; omega) (by show 0 + _ ≤ _; omega) (by rw [clampN (n := cs.length) (by omega)]; exact (range_getD (by simp)).symm) (by rw [clampN (n := cs.length) (by omega), List.length_replicate]; show 0 + _ ≤ _; omega) nr (fun vm _ hs => hs r (by simp)) rfl d15_27 (by decide) (by first | decide | exact Nat.le_of_ble_eq_true rfl) rfl
  have A3 : Arv Z _ r kr .byte (Int32.ofNat cs.length) ((List.replicate cs.length (Value.int 0)).take 0 ++ byts cs ++ (List.replicate cs.length (Value.int 0)).drop (0 + (Int32.ofNat cs.length).toNatClampNeg)) (.int 0) := V7
  rw [clampN (n := cs.length) (by omega), List.take_zero, List.nil_append, Nat.zero_add, List.drop_eq_nil_of_le (by simp), List.append_nil] at A3
  replace KX := KX.trans K5 (fun x q => by cases List.mem_singleton.mp q; exact Or.inr s_r)
  replace X := X.aload (q := 32) d15_30 rfl rfl rfl
  exact X.areturn hEL hret rfl rfl rfl hlk d15_32 (by decide) (by decide) ⟨r, kr, rfl, KX, s_r, A3⟩
set_option maxRecDepth 65536 in
set_option maxHeartbeats 40000000 in
theorem rm_cor {l : Launch} {Z : State} {a0 : Array Value} (hw : ∀ d ∈ tables_1, d.before a0 Z = true) {G1 : Int32} {G3 : Value} (O2 : Sta Z Z.heap "java/lang/String" "COMPACT_STRINGS" "Z" (.int G1)) (P5 : ¬ G1 = 0) (O4 : Sta Z Z.heap "jdk/internal/util/Preconditions" "SIOOBE_FORMATTER" "Ljava/util/function/BiFunction;" G3) (rG3 : G3.isRef = true) {h : Heap} (O : Ext Z.heap h) {t : Addr} {kt : ClassId} {cs : List Int32} {M : List Value} (Vt : Arv Z h t kt .byte (16 : Int32) (byts cs ++ M) (.int 0)) (hl : cs.length < 16) :
    Ctr l Z EL0 (⟨"java/util/Arrays", "copyOfRange", "([BII)[B"⟩ : MethodName) jdk_65_method_132_code 3 (some (.array .byte)) [] ({ frames := 2, cells := 1, slots := 16, locals := 60 } : Room) #[(.ref t), (.int (0 : Int32)), (.int (Int32.ofNat cs.length))] h [] (fun v h' => ∃ r k, v = some (.ref r) ∧ Keep h h' [] ∧ h.size ≤ r ∧ Arv Z h' r k .byte (Int32.ofNat cs.length) (byts cs) (.int 0)) := by
  refine Ctr.of pn3 O ?_
  intro p e s m below meth c s₁ hret hlk hnm X
  have hEL := hEL0 hw
  have KX : Keep h h [] := Keep.refl _ _
  replace X := X.cast (g' := (mkF m 0 #[.val (.ref t), .val (.int (0 : Int32)), .val (.int (Int32.ofNat cs.length))] [])) (by first | (simp [entryFrame, mkF, argsToLocals, Value.category]; done) | rfl)
  replace X := X.iload_n (q := 1) d16_0 rfl rfl
  replace X := X.ifNo (q := 4) d16_1 (teq rfl).2 rfl
  replace X := X.iload_n (q := 5) d16_4 rfl rfl
  replace X := X.aload_n (q := 6) d16_5 rfl rfl rfl
  replace X := X.arraylength (q := 7) Vt d16_6 rfl
  replace X := X.icmpNo (q := 10) d16_7 (feq (ne16 hl)).1 rfl
  replace X := X.aload_n (q := 11) d16_10 rfl rfl rfl
  replace X := X.iload_n (q := 12) d16_11 rfl rfl
  replace X := X.iload_n (q := 13) d16_12 rfl rfl
  obtain ⟨_, hp1, ⟨r, kr, rfl, K1, s_r, Vr⟩, X⟩ := X.callS (q := 16) (rm_corb hw O2 P5 O4 rG3 X.old Vt hl) hEL (fun _ q => nomatch q) (hw _ (List.mem_of_getElem? (i := 155) rfl)) (hw _ (List.mem_of_getElem? (i := 156) rfl)) (hw _ (List.mem_of_getElem? (i := 153) rfl)) (hw _ (List.mem_of_getElem? (i := 157) rfl)) (by decide) pd9 (argsL := [(.ref t), (.int (0 : Int32)), (.int (Int32.ofNat cs.length))]) (rest := []) rfl rfl rfl rfl d16_13 (by decide) (by first | decide | exact Nat.le_of_ble_eq_true rfl) (by decide) (by decide) rfl
  replace X := X [(.ref r)] rfl
  exact X.areturn hEL hret rfl rfl rfl hlk d16_16 (by decide) (by decide) ⟨r, kr, rfl, K1, s_r, Vr⟩
set_option maxRecDepth 65536 in
set_option maxHeartbeats 40000000 in
theorem rm_sin2 {l : Launch} {Z : State} {a0 : Array Value} (hw : ∀ d ∈ tables_1, d.before a0 Z = true) {G1 : Int32} {G3 : Value} (O2 : Sta Z Z.heap "java/lang/String" "COMPACT_STRINGS" "Z" (.int G1)) (P5 : ¬ G1 = 0) (O4 : Sta Z Z.heap "jdk/internal/util/Preconditions" "SIOOBE_FORMATTER" "Ljava/util/function/BiFunction;" G3) (rG3 : G3.isRef = true) {h : Heap} (O : Ext Z.heap h) {a : Addr} {v1 v2 : Value} (Aa : Exa Z h a "java/lang/String") (Fa_value : Fld Z h a "java/lang/String" "value" "[B" v1) (Fa_coder : Fld Z h a "java/lang/String" "coder" "B" v2) (na : Z.heap.size ≤ a) {o t : Addr} {cs : List Int32} (Bo : Sbd Z h o t cs) (hl : cs.length < 16) :
    Ctr l Z EL0 (⟨"java/lang/String", "<init>", "(Ljava/lang/AbstractStringBuilder;Ljava/lang/Void;)V"⟩ : MethodName) jdk_42_method_150_code 5 none [] ({ frames := 3, cells := 1, slots := 16, locals := 80 } : Room) #[(.ref a), (.ref o), .null] h [a] (fun v h' => v = none ∧ Keep h h' [a] ∧ Str Z h' a cs) := by
  refine Ctr.of pn2 O ?_
  intro p e s m below meth c s₁ hret hlk hnm X
  have hEL := hEL0 hw
  have KX : Keep h h [a] := Keep.refl _ _
  replace X := X.cast (g' := (mkF m 0 #[.val (.ref a), .val (.ref o), .val .null, .unset, .unset] [])) (by first | (simp [entryFrame, mkF, argsToLocals, Value.category]; done) | rfl)
  obtain ⟨lB, bB, no, nt, Ao, Fo_value, Fo_coder, Fo_count, kt, Vt⟩ := id Bo
  have ne_t_a : t ≠ a := Ne.symm (Aa.neArv Vt (hw _ (List.mem_of_getElem? (i := 6) rfl)))
  replace X := X.aload_n (q := 1) d17_0 rfl rfl rfl
  replace X := X.initObj (q := 4) (hw _ (List.mem_of_getElem? (i := 132) rfl)) (hw _ (List.mem_of_getElem? (i := 19) rfl)) (hw _ (List.mem_of_getElem? (i := 20) rfl)) rfl d17_1 (by decide) (by decide) rfl
  replace X := X.aload_n (q := 5) d17_4 rfl rfl rfl
  obtain ⟨_, hp1, ⟨rfl, rfl⟩, X⟩ := X.callV (q := 8) (rm_gv hw O2 P5 O4 rG3 X.old Bo) hEL (fun _ q => nomatch q) (hw _ (List.mem_of_getElem? (i := 133) rfl)) (hw _ (List.mem_of_getElem? (i := 134) rfl)) (hw _ (List.mem_of_getElem? (i := 136) rfl)) (hw _ (List.mem_of_getElem? (i := 136) rfl)) (hw _ (List.mem_of_getElem? (i := 135) rfl)) (hw _ (List.mem_of_getElem? (i := 60) rfl)) (hw _ (List.mem_of_getElem? (i := 137) rfl)) (by decide) pd10 Ao (argsL := []) (rest := []) rfl rfl rfl rfl d17_5 (by decide) (by first | decide | exact Nat.le_of_ble_eq_true rfl) (by decide) (by decide) rfl
  replace X := X [(.ref t)] rfl
  replace X := X.astore_n (q := 9) (Ls' := #[.val (.ref a), .val (.ref o), .val .null, .val (.ref t), .unset]) d17_8 rfl rfl rfl
  replace X := X.aload_n (q := 10) d17_9 rfl rfl rfl
  obtain ⟨_, hp2, ⟨rfl, rfl⟩, X⟩ := X.callW (q := 13) (rm_len2 hw O2 P5 O4 rG3 X.old Bo) hEL (fun _ q => nomatch q) (hw _ (List.mem_of_getElem? (i := 138) rfl)) (hw _ (List.mem_of_getElem? (i := 139) rfl)) (hw _ (List.mem_of_getElem? (i := 136) rfl)) rfl (hw _ (List.mem_of_getElem? (i := 141) rfl)) (hw _ (List.mem_of_getElem? (i := 142) rfl)) (hw _ (List.mem_of_getElem? (i := 52) rfl)) (hw _ (List.mem_of_getElem? (i := 143) rfl)) (by decide) pd1 Ao (argsL := []) (rest := []) rfl rfl rfl rfl d17_10 (by decide) (by first | decide | exact Nat.le_of_ble_eq_true rfl) (by decide) (by decide) rfl
  replace X := X [(.int (Int32.ofNat cs.length))] rfl
  replace X := X.istore (q := 15) (Ls' := #[.val (.ref a), .val (.ref o), .val .null, .val (.ref t), .val (.int (Int32.ofNat cs.length))]) d17_13 rfl rfl
  replace X := X.aload_n (q := 16) d17_15 rfl rfl rfl
  obtain ⟨_, hp3, ⟨rfl, rfl⟩, X⟩ := X.callV (q := 19) (rm_isl hw O2 P5 O4 rG3 X.old Bo) hEL (fun _ q => nomatch q) (hw _ (List.mem_of_getElem? (i := 146) rfl)) (hw _ (List.mem_of_getElem? (i := 147) rfl)) (hw _ (List.mem_of_getElem? (i := 149) rfl)) (hw _ (List.mem_of_getElem? (i := 149) rfl)) (hw _ (List.mem_of_getElem? (i := 148) rfl)) (hw _ (List.mem_of_getElem? (i := 60) rfl)) (hw _ (List.mem_of_getElem? (i := 150) rfl)) (by decide) pd11 Ao (argsL := []) (rest := []) rfl rfl rfl rfl d17_16 (by decide) (by first | decide | exact Nat.le_of_ble_eq_true rfl) (by decide) (by decide) rfl
  replace X := X [(.int (1 : Int32))] rfl
  replace X := X.ifNo (q := 22) d17_19 (feq (by decide : ¬ (1 : Int32) = 0)).1 rfl
  replace X := X.aload_n (q := 23) d17_22 rfl rfl rfl
  replace X := X.iconst (q := 24) (z := (0 : Int32)) d17_23 rfl rfl
  obtain ⟨hp4, W5, X⟩ := X.putfieldS (q := 27) (hw _ (List.mem_of_getElem? (i := 90) rfl)) Fa_coder Aa (Or.inr ⟨(hw _ (List.mem_of_getElem? (i := 9) rfl)), rfl, hnm⟩) (hw _ (List.mem_of_getElem? (i := 6) rfl)) (ty := .byte) (by decide) rfl rfl na (fun vm _ hs => hs a (by simp)) d17_24 rfl
  replace KX := KX.wr W5 (Or.inl (by simp))
  replace Aa := Aa.wr W5
  replace Fa_coder := Fa_coder.same W5
  replace Fa_value := Fa_value.other W5 (Or.inr (RoadKit.slot_ne (Or.inr (hw _ (List.mem_of_getElem? (i := 8) rfl))) (Or.inr (hw _ (List.mem_of_getElem? (i := 9) rfl))) (by decide) (t := (.array .byte)) (t' := .byte) (by decide) (by decide)))
  replace Vt := Vt.other W5 ne_t_a
  replace X := X.aload_n (q := 28) d17_27 rfl rfl rfl
  replace X := X.aload_n (q := 29) d17_28 rfl rfl rfl
  replace X := X.iconst (q := 30) (z := (0 : Int32)) d17_29 rfl rfl
  replace X := X.iload (q := 32) d17_30 rfl rfl
  obtain ⟨_, hp6, ⟨r, kr, rfl, K2, s_r, Vr⟩, X⟩ := X.callS (q := 35) (rm_cor hw O2 P5 O4 rG3 X.old Vt hl) hEL (fun _ q => nomatch q) (hw _ (List.mem_of_getElem? (i := 151) rfl)) (hw _ (List.mem_of_getElem? (i := 152) rfl)) (hw _ (List.mem_of_getElem? (i := 153) rfl)) (hw _ (List.mem_of_getElem? (i := 154) rfl)) (by decide) pd9 (argsL := [(.ref t), (.int (0 : Int32)), (.int (Int32.ofNat cs.length))]) (rest := [(.ref a)]) rfl rfl rfl rfl d17_32 (by decide) (by first | decide | exact Nat.le_of_ble_eq_true rfl) (by decide) (by decide) rfl
  replace X := X [(.ref r), (.ref a)] rfl
  replace KX := KX.trans K2 (fun _ q => nomatch q)
  replace Aa := Aa.keep K2
  replace Fa_value := Fa_value.keep K2 nin0
  replace Fa_coder := Fa_coder.keep K2 nin0
  have ne_r_a : r ≠ a := Ne.symm (Aa.neArv Vr (hw _ (List.mem_of_getElem? (i := 6) rfl)))
  obtain ⟨hp7, W8, X⟩ := X.putfieldS (q := 38) (hw _ (List.mem_of_getElem? (i := 83) rfl)) Fa_value Aa (Or.inr ⟨(hw _ (List.mem_of_getElem? (i := 8) rfl)), rfl, hnm⟩) (hw _ (List.mem_of_getElem? (i := 6) rfl)) (ty := (.array .byte)) (by decide) rfl rfl na (fun vm _ hs => hs a (by simp)) d17_35 rfl
  replace KX := KX.wr W8 (Or.inl (by simp))
  replace Aa := Aa.wr W8
  replace Fa_value := Fa_value.same W8
  replace Fa_coder := Fa_coder.other W8 (Or.inr (RoadKit.slot_ne (Or.inr (hw _ (List.mem_of_getElem? (i := 9) rfl))) (Or.inr (hw _ (List.mem_of_getElem? (i := 8) rfl))) (by decide) (t := .byte) (t' := (.array .byte)) (by decide) (by decide)))
  replace Vr := Vr.other W8 ne_r_a
  replace X := X.goto (q := 97) d17_38 (by decide) (by decide)
  exact X.ret hEL hret hlk d17_97 (by decide) (by decide) ⟨rfl, KX, by omega, bB, Aa, Fa_coder, r, kr, Fa_value, Vr⟩
set_option maxRecDepth 65536 in
set_option maxHeartbeats 40000000 in
theorem rm_sin1 {l : Launch} {Z : State} {a0 : Array Value} (hw : ∀ d ∈ tables_1, d.before a0 Z = true) {G1 : Int32} {G3 : Value} (O2 : Sta Z Z.heap "java/lang/String" "COMPACT_STRINGS" "Z" (.int G1)) (P5 : ¬ G1 = 0) (O4 : Sta Z Z.heap "jdk/internal/util/Preconditions" "SIOOBE_FORMATTER" "Ljava/util/function/BiFunction;" G3) (rG3 : G3.isRef = true) {h : Heap} (O : Ext Z.heap h) {a : Addr} {v1 v2 : Value} (Aa : Exa Z h a "java/lang/String") (Fa_value : Fld Z h a "java/lang/String" "value" "[B" v1) (Fa_coder : Fld Z h a "java/lang/String" "coder" "B" v2) (na : Z.heap.size ≤ a) {o t : Addr} {cs : List Int32} (Bo : Sbd Z h o t cs) (hl : cs.length < 16) :
    Ctr l Z EL0 (⟨"java/lang/String", "<init>", "(Ljava/lang/StringBuilder;)V"⟩ : MethodName) jdk_42_method_53_code 2 none [] ({ frames := 4, cells := 1, slots := 16, locals := 100 } : Room) #[(.ref a), (.ref o)] h [a] (fun v h' => v = none ∧ Keep h h' [a] ∧ Str Z h' a cs) := by
  refine Ctr.of pn2 O ?_
  intro p e s m below meth c s₁ hret hlk hnm X
  have hEL := hEL0 hw
  have KX : Keep h h [a] := Keep.refl _ _
  replace X := X.cast (g' := (mkF m 0 #[.val (.ref a), .val (.ref o)] [])) (by first | (simp [entryFrame, mkF, argsToLocals, Value.category]; done) | rfl)
  replace X := X.aload_n (q := 1) d18_0 rfl rfl rfl
  replace X := X.aload_n (q := 2) d18_1 rfl rfl rfl
  replace X := X.aconst_null (q := 3) d18_2 rfl
  obtain ⟨_, hp1, ⟨rfl, K1, S1⟩, X⟩ := X.callI (q := 6) (rm_sin2 hw O2 P5 O4 rG3 X.old Aa Fa_value Fa_coder na Bo hl) hEL (by simp) rfl (hw _ (List.mem_of_getElem? (i := 129) rfl)) (hw _ (List.mem_of_getElem? (i := 130) rfl)) (hw _ (List.mem_of_getElem? (i := 5) rfl)) (hw _ (List.mem_of_getElem? (i := 131) rfl)) (by decide) pd12 (a := a) (argsL := [(.ref o), .null]) (rest := []) rfl rfl rfl rfl d18_3 (by decide) (by first | decide | exact Nat.le_of_ble_eq_true rfl) (by decide) (by decide) rfl
  replace X := X [] rfl
  exact X.ret hEL hret hlk d18_6 (by decide) (by decide) ⟨rfl, K1, S1⟩
set_option maxRecDepth 65536 in
set_option maxHeartbeats 40000000 in
theorem rm_tos {l : Launch} {Z : State} {a0 : Array Value} (hw : ∀ d ∈ tables_1, d.before a0 Z = true) {G1 : Int32} {G3 : Value} (O2 : Sta Z Z.heap "java/lang/String" "COMPACT_STRINGS" "Z" (.int G1)) (P5 : ¬ G1 = 0) (O4 : Sta Z Z.heap "jdk/internal/util/Preconditions" "SIOOBE_FORMATTER" "Ljava/util/function/BiFunction;" G3) (rG3 : G3.isRef = true) {h : Heap} (O : Ext Z.heap h) {o t : Addr} {cs : List Int32} (Bo : Sbd Z h o t cs) (hl : cs.length < 16) :
    Ctr l Z EL0 (⟨"java/lang/StringBuilder", "toString", "()Ljava/lang/String;"⟩ : MethodName) jdk_67_method_42_code 1 (some (.object "java/lang/String")) [] ({ frames := 5, cells := 2, slots := 20, locals := 120 } : Room) #[(.ref o)] h [] (fun v h' => ∃ a, v = some (.ref a) ∧ Keep h h' [] ∧ Str Z h' a cs) := by
  refine Ctr.of pn1 O ?_
  intro p e s m below meth c s₁ hret hlk hnm X
  have hEL := hEL0 hw
  have KX : Keep h h [] := Keep.refl _ _
  replace X := X.cast (g' := (mkF m 0 #[.val (.ref o)] [])) (by first | (simp [entryFrame, mkF, argsToLocals, Value.category]; done) | rfl)
  obtain ⟨a, hp1, ga, na, E2, Aa, Da, X⟩ := X.new (C := "java/lang/String") (q := 3) (hw _ (List.mem_of_getElem? (i := 124) rfl)) (hw _ (List.mem_of_getElem? (i := 6) rfl)) (hw _ (List.mem_of_getElem? (i := 5) rfl)) d19_0 rfl (by decide) (by decide)
  have s_a : h.size ≤ a := by rw [ga]; exact KX.1
  have ne_o_a : o ≠ a := by rw [ga]; exact Nat.ne_of_lt Bo.lt
  replace KX := KX.ext E2
  replace Bo := Bo.ext E2
  have Fa_value := Da (Or.inr (hw _ (List.mem_of_getElem? (i := 8) rfl))) (ty := (.array .byte)) (by decide)
  have Fa_coder := Da (Or.inr (hw _ (List.mem_of_getElem? (i := 9) rfl))) (ty := .byte) (by decide)
  replace X := X.dup (q := 4) d19_3 rfl rfl
  replace X := X.aload_n (q := 5) d19_4 rfl rfl rfl
  obtain ⟨_, hp3, ⟨rfl, K1, S1⟩, X⟩ := X.callI (q := 8) (rm_sin1 hw O2 P5 O4 rG3 X.old Aa Fa_value Fa_coder na Bo hl) hEL (by simp) rfl (hw _ (List.mem_of_getElem? (i := 125) rfl)) (hw _ (List.mem_of_getElem? (i := 126) rfl)) (hw _ (List.mem_of_getElem? (i := 5) rfl)) (hw _ (List.mem_of_getElem? (i := 128) rfl)) (by decide) pd13 (a := a) (argsL := [(.ref o)]) (rest := [(.ref a)]) rfl rfl rfl rfl d19_5 (by decide) (by first | decide | exact Nat.le_of_ble_eq_true rfl) (by decide) (by decide) rfl
  replace X := X [(.ref a)] rfl
  replace KX := KX.trans K1 (fun x q => by cases List.mem_singleton.mp q; exact Or.inr s_a)
  exact X.areturn hEL hret rfl rfl rfl hlk d19_8 (by decide) (by decide) ⟨a, rfl, KX, S1⟩
set_option maxRecDepth 65536 in
set_option maxHeartbeats 40000000 in
theorem rm_pinit {l : Launch} {Z : State} {a0 : Array Value} (hw : ∀ d ∈ tables_1, d.before a0 Z = true) {G1 : Int32} {G3 : Value} (O2 : Sta Z Z.heap "java/lang/String" "COMPACT_STRINGS" "Z" (.int G1)) (P5 : ¬ G1 = 0) (O4 : Sta Z Z.heap "jdk/internal/util/Preconditions" "SIOOBE_FORMATTER" "Ljava/util/function/BiFunction;" G3) (rG3 : G3.isRef = true) {h : Heap} (O : Ext Z.heap h) {v1 v2 v3 v4 : Value} {p0 : Addr} (Ap0 : Exa Z h p0 "com/example/lectern/lectern/demo/Profile") (Fp0_nickname : Fld Z h p0 "com/example/lectern/lectern/demo/Profile" "nickname" "Ljava/lang/String;" v1) (Fp0_age : Fld Z h p0 "com/example/lectern/lectern/demo/Profile" "age" "Ljava/lang/String;" v2) (Fp0_savedNickname : Fld Z h p0 "com/example/lectern/lectern/demo/Profile" "savedNickname" "Ljava/lang/String;" v3) (Fp0_savedAge : Fld Z h p0 "com/example/lectern/lectern/demo/Profile" "savedAge" "Ljava/lang/String;" v4) (np0 : Z.heap.size ≤ p0) :
    Ctr l Z EL0 (⟨"com/example/lectern/lectern/demo/Profile", "<init>", "()V"⟩ : MethodName) prog_31_method_1_code 1 none [] ({ frames := 1, cells := 4, slots := 8, locals := 14 } : Room) #[(.ref p0)] h [] (fun v h' => v = none ∧ Keep h h' [p0] ∧ ∃ c1 c2, Fld Z h' p0 "com/example/lectern/lectern/demo/Profile" "nickname" "Ljava/lang/String;" (.ref c1) ∧ Fld Z h' p0 "com/example/lectern/lectern/demo/Profile" "age" "Ljava/lang/String;" (.ref c2) ∧ Fld Z h' p0 "com/example/lectern/lectern/demo/Profile" "savedNickname" "Ljava/lang/String;" v3 ∧ Fld Z h' p0 "com/example/lectern/lectern/demo/Profile" "savedAge" "Ljava/lang/String;" v4) := by
  refine Ctr.of pn4 O ?_
  intro p e s m below meth c s₁ hret hlk hnm X
  have hEL := hEL0 hw
  have KX : Keep h h [p0] := Keep.refl _ _
  replace X := X.cast (g' := (mkF m 0 #[.val (.ref p0)] [])) (by first | (simp [entryFrame, mkF, argsToLocals, Value.category]; done) | rfl)
  replace X := X.aload_n (q := 1) d20_0 rfl rfl rfl
  replace X := X.initObj (q := 4) (hw _ (List.mem_of_getElem? (i := 18) rfl)) (hw _ (List.mem_of_getElem? (i := 19) rfl)) (hw _ (List.mem_of_getElem? (i := 20) rfl)) rfl d20_1 (by decide) (by decide) rfl
  replace X := X.aload_n (q := 5) d20_4 rfl rfl rfl
  obtain ⟨c1, hp2, E3, X⟩ := X.ldcO (q := 7) hEL (hw _ (List.mem_of_getElem? (i := 21) rfl)) (wS_of hw) d20_5 (n := 0) (by decide) (by first | decide | exact Nat.le_of_ble_eq_true rfl) (by decide) (by decide) rfl
  replace KX := KX.ext E3
  replace Ap0 := Ap0.ext E3
  replace Fp0_nickname := Fp0_nickname.ext E3
  replace Fp0_age := Fp0_age.ext E3
  replace Fp0_savedNickname := Fp0_savedNickname.ext E3
  replace Fp0_savedAge := Fp0_savedAge.ext E3
  obtain ⟨hp4, W5, X⟩ := X.putfield (q := 10) (hw _ (List.mem_of_getElem? (i := 22) rfl)) Fp0_nickname Ap0 (Or.inl (hw _ (List.mem_of_getElem? (i := 23) rfl))) (hw _ (List.mem_of_getElem? (i := 13) rfl)) (ty := (.object "java/lang/String")) (by decide) rfl rfl np0 (by decide) (by decide) d20_7 rfl
  replace Fp0_age := Fp0_age.other W5 (Or.inr (RoadKit.slot_ne (Or.inl (hw _ (List.mem_of_getElem? (i := 25) rfl))) (Or.inl (hw _ (List.mem_of_getElem? (i := 23) rfl))) (by decide) (t := (.object "java/lang/String")) (t' := (.object "java/lang/String")) (by decide) (by decide)))
  replace Fp0_savedNickname := Fp0_savedNickname.other W5 (Or.inr (RoadKit.slot_ne (Or.inl (hw _ (List.mem_of_getElem? (i := 42) rfl))) (Or.inl (hw _ (List.mem_of_getElem? (i := 23) rfl))) (by decide) (t := (.object "java/lang/String")) (t' := (.object "java/lang/String")) (by decide) (by decide)))
  replace Fp0_savedAge := Fp0_savedAge.other W5 (Or.inr (RoadKit.slot_ne (Or.inl (hw _ (List.mem_of_getElem? (i := 44) rfl))) (Or.inl (hw _ (List.mem_of_getElem? (i := 23) rfl))) (by decide) (t := (.object "java/lang/String")) (t' := (.object "java/lang/String")) (by decide) (by decide)))
  replace KX := KX.wr W5 (Or.inl (by simp))
  replace Fp0_nickname := Fp0_nickname.same W5
  replace Ap0 := Ap0.wr W5
  replace X := X.aload_n (q := 11) d20_10 rfl rfl rfl
  obtain ⟨c6, hp7, E8, X⟩ := X.ldcO (q := 13) hEL (hw _ (List.mem_of_getElem? (i := 21) rfl)) (wS_of hw) d20_11 (n := 0) (by decide) (by first | decide | exact Nat.le_of_ble_eq_true rfl) (by decide) (by decide) rfl
  replace KX := KX.ext E8
  replace Ap0 := Ap0.ext E8
  replace Fp0_nickname := Fp0_nickname.ext E8
  replace Fp0_age := Fp0_age.ext E8
  replace Fp0_savedNickname := Fp0_savedNickname.ext E8
  replace Fp0_savedAge := Fp0_savedAge.ext E8
  obtain ⟨hp9, W10, X⟩ := X.putfield (q := 16) (hw _ (List.mem_of_getElem? (i := 24) rfl)) Fp0_age Ap0 (Or.inl (hw _ (List.mem_of_getElem? (i := 25) rfl))) (hw _ (List.mem_of_getElem? (i := 13) rfl)) (ty := (.object "java/lang/String")) (by decide) rfl rfl np0 (by decide) (by decide) d20_13 rfl
  replace Fp0_nickname := Fp0_nickname.other W10 (Or.inr (RoadKit.slot_ne (Or.inl (hw _ (List.mem_of_getElem? (i := 23) rfl))) (Or.inl (hw _ (List.mem_of_getElem? (i := 25) rfl))) (by decide) (t := (.object "java/lang/String")) (t' := (.object "java/lang/String")) (by decide) (by decide)))
  replace Fp0_savedNickname := Fp0_savedNickname.other W10 (Or.inr (RoadKit.slot_ne (Or.inl (hw _ (List.mem_of_getElem? (i := 42) rfl))) (Or.inl (hw _ (List.mem_of_getElem? (i := 25) rfl))) (by decide) (t := (.object "java/lang/String")) (t' := (.object "java/lang/String")) (by decide) (by decide)))
  replace Fp0_savedAge := Fp0_savedAge.other W10 (Or.inr (RoadKit.slot_ne (Or.inl (hw _ (List.mem_of_getElem? (i := 44) rfl))) (Or.inl (hw _ (List.mem_of_getElem? (i := 25) rfl))) (by decide) (t := (.object "java/lang/String")) (t' := (.object "java/lang/String")) (by decide) (by decide)))
  replace KX := KX.wr W10 (Or.inl (by simp))
  replace Fp0_age := Fp0_age.same W10
  replace Ap0 := Ap0.wr W10
  exact X.ret hEL hret hlk d20_16 (by decide) (by decide) ⟨rfl, KX, _, _, Fp0_nickname, Fp0_age, Fp0_savedNickname, Fp0_savedAge⟩
set_option maxRecDepth 65536 in
set_option maxHeartbeats 40000000 in
theorem rm_setn {l : Launch} {Z : State} {a0 : Array Value} (hw : ∀ d ∈ tables_1, d.before a0 Z = true) {G1 : Int32} {G3 : Value} (O2 : Sta Z Z.heap "java/lang/String" "COMPACT_STRINGS" "Z" (.int G1)) (P5 : ¬ G1 = 0) (O4 : Sta Z Z.heap "jdk/internal/util/Preconditions" "SIOOBE_FORMATTER" "Ljava/util/function/BiFunction;" G3) (rG3 : G3.isRef = true) {h : Heap} (O : Ext Z.heap h) {v1 v2 v3 v4 : Value} {q : Addr} {p0 : Addr} (Ap0 : Exa Z h p0 "com/example/lectern/lectern/demo/Profile") (Fp0_nickname : Fld Z h p0 "com/example/lectern/lectern/demo/Profile" "nickname" "Ljava/lang/String;" v1) (Fp0_age : Fld Z h p0 "com/example/lectern/lectern/demo/Profile" "age" "Ljava/lang/String;" v2) (Fp0_savedNickname : Fld Z h p0 "com/example/lectern/lectern/demo/Profile" "savedNickname" "Ljava/lang/String;" v3) (Fp0_savedAge : Fld Z h p0 "com/example/lectern/lectern/demo/Profile" "savedAge" "Ljava/lang/String;" v4) (np0 : Z.heap.size ≤ p0) :
    Ctr l Z EL0 (⟨"com/example/lectern/lectern/demo/Profile", "setNicknameNet", "(Ljava/lang/String;)V"⟩ : MethodName) prog_31_method_3_code 2 none [] ({ frames := 0, cells := 0, slots := 0, locals := 0 } : Room) #[(.ref p0), (.ref q)] h [] (fun v h' => v = none ∧ Keep h h' [p0] ∧ Fld Z h' p0 "com/example/lectern/lectern/demo/Profile" "nickname" "Ljava/lang/String;" (.ref q) ∧ Fld Z h' p0 "com/example/lectern/lectern/demo/Profile" "age" "Ljava/lang/String;" v2 ∧ Fld Z h' p0 "com/example/lectern/lectern/demo/Profile" "savedNickname" "Ljava/lang/String;" v3 ∧ Fld Z h' p0 "com/example/lectern/lectern/demo/Profile" "savedAge" "Ljava/lang/String;" v4) := by
  refine Ctr.of pn4 O ?_
  intro p e s m below meth c s₁ hret hlk hnm X
  have hEL := hEL0 hw
  have KX : Keep h h [p0] := Keep.refl _ _
  replace X := X.cast (g' := (mkF m 0 #[.val (.ref p0), .val (.ref q)] [])) (by first | (simp [entryFrame, mkF, argsToLocals, Value.category]; done) | rfl)
  replace X := X.aload_n (q := 1) d21_0 rfl rfl rfl
  replace X := X.aload_n (q := 2) d21_1 rfl rfl rfl
  obtain ⟨hp1, W2, X⟩ := X.putfield (q := 5) (hw _ (List.mem_of_getElem? (i := 22) rfl)) Fp0_nickname Ap0 (Or.inl (hw _ (List.mem_of_getElem? (i := 23) rfl))) (hw _ (List.mem_of_getElem? (i := 13) rfl)) (ty := (.object "java/lang/String")) (by decide) rfl rfl np0 (by decide) (by decide) d21_2 rfl
  replace Fp0_age := Fp0_age.other W2 (Or.inr (RoadKit.slot_ne (Or.inl (hw _ (List.mem_of_getElem? (i := 25) rfl))) (Or.inl (hw _ (List.mem_of_getElem? (i := 23) rfl))) (by decide) (t := (.object "java/lang/String")) (t' := (.object "java/lang/String")) (by decide) (by decide)))
  replace Fp0_savedNickname := Fp0_savedNickname.other W2 (Or.inr (RoadKit.slot_ne (Or.inl (hw _ (List.mem_of_getElem? (i := 42) rfl))) (Or.inl (hw _ (List.mem_of_getElem? (i := 23) rfl))) (by decide) (t := (.object "java/lang/String")) (t' := (.object "java/lang/String")) (by decide) (by decide)))
  replace Fp0_savedAge := Fp0_savedAge.other W2 (Or.inr (RoadKit.slot_ne (Or.inl (hw _ (List.mem_of_getElem? (i := 44) rfl))) (Or.inl (hw _ (List.mem_of_getElem? (i := 23) rfl))) (by decide) (t := (.object "java/lang/String")) (t' := (.object "java/lang/String")) (by decide) (by decide)))
  replace KX := KX.wr W2 (Or.inl (by simp))
  replace Fp0_nickname := Fp0_nickname.same W2
  replace Ap0 := Ap0.wr W2
  exact X.ret hEL hret hlk d21_5 (by decide) (by decide) ⟨rfl, KX, Fp0_nickname, Fp0_age, Fp0_savedNickname, Fp0_savedAge⟩
set_option maxRecDepth 65536 in
set_option maxHeartbeats 40000000 in
theorem rm_seta {l : Launch} {Z : State} {a0 : Array Value} (hw : ∀ d ∈ tables_1, d.before a0 Z = true) {G1 : Int32} {G3 : Value} (O2 : Sta Z Z.heap "java/lang/String" "COMPACT_STRINGS" "Z" (.int G1)) (P5 : ¬ G1 = 0) (O4 : Sta Z Z.heap "jdk/internal/util/Preconditions" "SIOOBE_FORMATTER" "Ljava/util/function/BiFunction;" G3) (rG3 : G3.isRef = true) {h : Heap} (O : Ext Z.heap h) {v1 v2 v3 v4 : Value} {q : Addr} {p0 : Addr} (Ap0 : Exa Z h p0 "com/example/lectern/lectern/demo/Profile") (Fp0_nickname : Fld Z h p0 "com/example/lectern/lectern/demo/Profile" "nickname" "Ljava/lang/String;" v1) (Fp0_age : Fld Z h p0 "com/example/lectern/lectern/demo/Profile" "age" "Ljava/lang/String;" v2) (Fp0_savedNickname : Fld Z h p0 "com/example/lectern/lectern/demo/Profile" "savedNickname" "Ljava/lang/String;" v3) (Fp0_savedAge : Fld Z h p0 "com/example/lectern/lectern/demo/Profile" "savedAge" "Ljava/lang/String;" v4) (np0 : Z.heap.size ≤ p0) :
    Ctr l Z EL0 (⟨"com/example/lectern/lectern/demo/Profile", "setAgeNet", "(Ljava/lang/String;)V"⟩ : MethodName) prog_31_method_4_code 2 none [] ({ frames := 0, cells := 0, slots := 0, locals := 0 } : Room) #[(.ref p0), (.ref q)] h [] (fun v h' => v = none ∧ Keep h h' [p0] ∧ Fld Z h' p0 "com/example/lectern/lectern/demo/Profile" "nickname" "Ljava/lang/String;" v1 ∧ Fld Z h' p0 "com/example/lectern/lectern/demo/Profile" "age" "Ljava/lang/String;" (.ref q) ∧ Fld Z h' p0 "com/example/lectern/lectern/demo/Profile" "savedNickname" "Ljava/lang/String;" v3 ∧ Fld Z h' p0 "com/example/lectern/lectern/demo/Profile" "savedAge" "Ljava/lang/String;" v4) := by
  refine Ctr.of pn4 O ?_
  intro p e s m below meth c s₁ hret hlk hnm X
  have hEL := hEL0 hw
  have KX : Keep h h [p0] := Keep.refl _ _
  replace X := X.cast (g' := (mkF m 0 #[.val (.ref p0), .val (.ref q)] [])) (by first | (simp [entryFrame, mkF, argsToLocals, Value.category]; done) | rfl)
  replace X := X.aload_n (q := 1) d22_0 rfl rfl rfl
  replace X := X.aload_n (q := 2) d22_1 rfl rfl rfl
  obtain ⟨hp1, W2, X⟩ := X.putfield (q := 5) (hw _ (List.mem_of_getElem? (i := 24) rfl)) Fp0_age Ap0 (Or.inl (hw _ (List.mem_of_getElem? (i := 25) rfl))) (hw _ (List.mem_of_getElem? (i := 13) rfl)) (ty := (.object "java/lang/String")) (by decide) rfl rfl np0 (by decide) (by decide) d22_2 rfl
  replace Fp0_nickname := Fp0_nickname.other W2 (Or.inr (RoadKit.slot_ne (Or.inl (hw _ (List.mem_of_getElem? (i := 23) rfl))) (Or.inl (hw _ (List.mem_of_getElem? (i := 25) rfl))) (by decide) (t := (.object "java/lang/String")) (t' := (.object "java/lang/String")) (by decide) (by decide)))
  replace Fp0_savedNickname := Fp0_savedNickname.other W2 (Or.inr (RoadKit.slot_ne (Or.inl (hw _ (List.mem_of_getElem? (i := 42) rfl))) (Or.inl (hw _ (List.mem_of_getElem? (i := 25) rfl))) (by decide) (t := (.object "java/lang/String")) (t' := (.object "java/lang/String")) (by decide) (by decide)))
  replace Fp0_savedAge := Fp0_savedAge.other W2 (Or.inr (RoadKit.slot_ne (Or.inl (hw _ (List.mem_of_getElem? (i := 44) rfl))) (Or.inl (hw _ (List.mem_of_getElem? (i := 25) rfl))) (by decide) (t := (.object "java/lang/String")) (t' := (.object "java/lang/String")) (by decide) (by decide)))
  replace KX := KX.wr W2 (Or.inl (by simp))
  replace Fp0_age := Fp0_age.same W2
  replace Ap0 := Ap0.wr W2
  exact X.ret hEL hret hlk d22_5 (by decide) (by decide) ⟨rfl, KX, Fp0_nickname, Fp0_age, Fp0_savedNickname, Fp0_savedAge⟩
set_option maxRecDepth 65536 in
set_option maxHeartbeats 40000000 in
theorem rm_save {l : Launch} {Z : State} {a0 : Array Value} (hw : ∀ d ∈ tables_1, d.before a0 Z = true) {G1 : Int32} {G3 : Value} (O2 : Sta Z Z.heap "java/lang/String" "COMPACT_STRINGS" "Z" (.int G1)) (P5 : ¬ G1 = 0) (O4 : Sta Z Z.heap "jdk/internal/util/Preconditions" "SIOOBE_FORMATTER" "Ljava/util/function/BiFunction;" G3) (rG3 : G3.isRef = true) {h : Heap} (O : Ext Z.heap h) {v3 v4 : Value} {q r : Addr} {p0 : Addr} (Ap0 : Exa Z h p0 "com/example/lectern/lectern/demo/Profile") (Fp0_nickname : Fld Z h p0 "com/example/lectern/lectern/demo/Profile" "nickname" "Ljava/lang/String;" (.ref q)) (Fp0_age : Fld Z h p0 "com/example/lectern/lectern/demo/Profile" "age" "Ljava/lang/String;" (.ref r)) (Fp0_savedNickname : Fld Z h p0 "com/example/lectern/lectern/demo/Profile" "savedNickname" "Ljava/lang/String;" v3) (Fp0_savedAge : Fld Z h p0 "com/example/lectern/lectern/demo/Profile" "savedAge" "Ljava/lang/String;" v4) (np0 : Z.heap.size ≤ p0) :
    Ctr l Z EL0 (⟨"com/example/lectern/lectern/demo/Profile", "saveNet", "()V"⟩ : MethodName) prog_31_method_6_code 1 none [] ({ frames := 0, cells := 0, slots := 0, locals := 0 } : Room) #[(.ref p0)] h [] (fun v h' => v = none ∧ Keep h h' [p0] ∧ Fld Z h' p0 "com/example/lectern/lectern/demo/Profile" "nickname" "Ljava/lang/String;" (.ref q) ∧ Fld Z h' p0 "com/example/lectern/lectern/demo/Profile" "age" "Ljava/lang/String;" (.ref r) ∧ Fld Z h' p0 "com/example/lectern/lectern/demo/Profile" "savedNickname" "Ljava/lang/String;" (.ref q) ∧ Fld Z h' p0 "com/example/lectern/lectern/demo/Profile" "savedAge" "Ljava/lang/String;" (.ref r)) := by
  refine Ctr.of pn4 O ?_
  intro p e s m below meth c s₁ hret hlk hnm X
  have hEL := hEL0 hw
  have KX : Keep h h [p0] := Keep.refl _ _
  replace X := X.cast (g' := (mkF m 0 #[.val (.ref p0)] [])) (by first | (simp [entryFrame, mkF, argsToLocals, Value.category]; done) | rfl)
  replace X := X.aload_n (q := 1) d23_0 rfl rfl rfl
  replace X := X.aload_n (q := 2) d23_1 rfl rfl rfl
  replace X := X.getfield (q := 5) (hw _ (List.mem_of_getElem? (i := 22) rfl)) Fp0_nickname d23_2 rfl
  obtain ⟨hp1, W2, X⟩ := X.putfield (q := 8) (hw _ (List.mem_of_getElem? (i := 41) rfl)) Fp0_savedNickname Ap0 (Or.inl (hw _ (List.mem_of_getElem? (i := 42) rfl))) (hw _ (List.mem_of_getElem? (i := 13) rfl)) (ty := (.object "java/lang/String")) (by decide) rfl rfl np0 (by decide) (by decide) d23_5 rfl
  replace Fp0_nickname := Fp0_nickname.other W2 (Or.inr (RoadKit.slot_ne (Or.inl (hw _ (List.mem_of_getElem? (i := 23) rfl))) (Or.inl (hw _ (List.mem_of_getElem? (i := 42) rfl))) (by decide) (t := (.object "java/lang/String")) (t' := (.object "java/lang/String")) (by decide) (by decide)))
  replace Fp0_age := Fp0_age.other W2 (Or.inr (RoadKit.slot_ne (Or.inl (hw _ (List.mem_of_getElem? (i := 25) rfl))) (Or.inl (hw _ (List.mem_of_getElem? (i := 42) rfl))) (by decide) (t := (.object "java/lang/String")) (t' := (.object "java/lang/String")) (by decide) (by decide)))
  replace Fp0_savedAge := Fp0_savedAge.other W2 (Or.inr (RoadKit.slot_ne (Or.inl (hw _ (List.mem_of_getElem? (i := 44) rfl))) (Or.inl (hw _ (List.mem_of_getElem? (i := 42) rfl))) (by decide) (t := (.object "java/lang/String")) (t' := (.object "java/lang/String")) (by decide) (by decide)))
  replace KX := KX.wr W2 (Or.inl (by simp))
  replace Fp0_savedNickname := Fp0_savedNickname.same W2
  replace Ap0 := Ap0.wr W2
  replace X := X.aload_n (q := 9) d23_8 rfl rfl rfl
  replace X := X.aload_n (q := 10) d23_9 rfl rfl rfl
  replace X := X.getfield (q := 13) (hw _ (List.mem_of_getElem? (i := 24) rfl)) Fp0_age d23_10 rfl
  obtain ⟨hp3, W4, X⟩ := X.putfield (q := 16) (hw _ (List.mem_of_getElem? (i := 43) rfl)) Fp0_savedAge Ap0 (Or.inl (hw _ (List.mem_of_getElem? (i := 44) rfl))) (hw _ (List.mem_of_getElem? (i := 13) rfl)) (ty := (.object "java/lang/String")) (by decide) rfl rfl np0 (by decide) (by decide) d23_13 rfl
  replace Fp0_nickname := Fp0_nickname.other W4 (Or.inr (RoadKit.slot_ne (Or.inl (hw _ (List.mem_of_getElem? (i := 23) rfl))) (Or.inl (hw _ (List.mem_of_getElem? (i := 44) rfl))) (by decide) (t := (.object "java/lang/String")) (t' := (.object "java/lang/String")) (by decide) (by decide)))
  replace Fp0_age := Fp0_age.other W4 (Or.inr (RoadKit.slot_ne (Or.inl (hw _ (List.mem_of_getElem? (i := 25) rfl))) (Or.inl (hw _ (List.mem_of_getElem? (i := 44) rfl))) (by decide) (t := (.object "java/lang/String")) (t' := (.object "java/lang/String")) (by decide) (by decide)))
  replace Fp0_savedNickname := Fp0_savedNickname.other W4 (Or.inr (RoadKit.slot_ne (Or.inl (hw _ (List.mem_of_getElem? (i := 42) rfl))) (Or.inl (hw _ (List.mem_of_getElem? (i := 44) rfl))) (by decide) (t := (.object "java/lang/String")) (t' := (.object "java/lang/String")) (by decide) (by decide)))
  replace KX := KX.wr W4 (Or.inl (by simp))
  replace Fp0_savedAge := Fp0_savedAge.same W4
  replace Ap0 := Ap0.wr W4
  exact X.ret hEL hret hlk d23_16 (by decide) (by decide) ⟨rfl, KX, Fp0_nickname, Fp0_age, Fp0_savedNickname, Fp0_savedAge⟩
set_option maxRecDepth 65536 in
set_option maxHeartbeats 40000000 in
theorem rm_nick {l : Launch} {Z : State} {a0 : Array Value} (hw : ∀ d ∈ tables_1, d.before a0 Z = true) {G1 : Int32} {G3 : Value} (O2 : Sta Z Z.heap "java/lang/String" "COMPACT_STRINGS" "Z" (.int G1)) (P5 : ¬ G1 = 0) (O4 : Sta Z Z.heap "jdk/internal/util/Preconditions" "SIOOBE_FORMATTER" "Ljava/util/function/BiFunction;" G3) (rG3 : G3.isRef = true) {h : Heap} (O : Ext Z.heap h) {p0 r : Addr} (F : Fld Z h p0 "com/example/lectern/lectern/demo/Profile" "nickname" "Ljava/lang/String;" (.ref r)) :
    Ctr l Z EL0 (⟨"com/example/lectern/lectern/demo/Profile", "nickname", "()Ljava/lang/String;"⟩ : MethodName) prog_31_method_8_code 1 (some (.object "java/lang/String")) [] ({ frames := 0, cells := 0, slots := 0, locals := 0 } : Room) #[(.ref p0)] h [] (fun v h' => v = some (.ref r) ∧ h = h') := by
  refine Ctr.of pn4 O ?_
  intro p e s m below meth c s₁ hret hlk hnm X
  have hEL := hEL0 hw
  have KX : Keep h h [] := Keep.refl _ _
  replace X := X.cast (g' := (mkF m 0 #[.val (.ref p0)] [])) (by first | (simp [entryFrame, mkF, argsToLocals, Value.category]; done) | rfl)
  replace X := X.aload_n (q := 1) d24_0 rfl rfl rfl
  replace X := X.getfield (q := 4) (hw _ (List.mem_of_getElem? (i := 22) rfl)) F d24_1 rfl
  exact X.areturn hEL hret rfl rfl rfl hlk d24_4 (by decide) (by decide) ⟨rfl, rfl⟩
set_option maxRecDepth 65536 in
set_option maxHeartbeats 40000000 in
theorem rm_age {l : Launch} {Z : State} {a0 : Array Value} (hw : ∀ d ∈ tables_1, d.before a0 Z = true) {G1 : Int32} {G3 : Value} (O2 : Sta Z Z.heap "java/lang/String" "COMPACT_STRINGS" "Z" (.int G1)) (P5 : ¬ G1 = 0) (O4 : Sta Z Z.heap "jdk/internal/util/Preconditions" "SIOOBE_FORMATTER" "Ljava/util/function/BiFunction;" G3) (rG3 : G3.isRef = true) {h : Heap} (O : Ext Z.heap h) {p0 r : Addr} (F : Fld Z h p0 "com/example/lectern/lectern/demo/Profile" "age" "Ljava/lang/String;" (.ref r)) :
    Ctr l Z EL0 (⟨"com/example/lectern/lectern/demo/Profile", "age", "()Ljava/lang/String;"⟩ : MethodName) prog_31_method_9_code 1 (some (.object "java/lang/String")) [] ({ frames := 0, cells := 0, slots := 0, locals := 0 } : Room) #[(.ref p0)] h [] (fun v h' => v = some (.ref r) ∧ h = h') := by
  refine Ctr.of pn4 O ?_
  intro p e s m below meth c s₁ hret hlk hnm X
  have hEL := hEL0 hw
  have KX : Keep h h [] := Keep.refl _ _
  replace X := X.cast (g' := (mkF m 0 #[.val (.ref p0)] [])) (by first | (simp [entryFrame, mkF, argsToLocals, Value.category]; done) | rfl)
  replace X := X.aload_n (q := 1) d25_0 rfl rfl rfl
  replace X := X.getfield (q := 4) (hw _ (List.mem_of_getElem? (i := 24) rfl)) F d25_1 rfl
  exact X.areturn hEL hret rfl rfl rfl hlk d25_4 (by decide) (by decide) ⟨rfl, rfl⟩
set_option maxRecDepth 65536 in
set_option maxHeartbeats 40000000 in
theorem rm_saved {l : Launch} {Z : State} {a0 : Array Value} (hw : ∀ d ∈ tables_1, d.before a0 Z = true) {G1 : Int32} {G3 : Value} (O2 : Sta Z Z.heap "java/lang/String" "COMPACT_STRINGS" "Z" (.int G1)) (P5 : ¬ G1 = 0) (O4 : Sta Z Z.heap "jdk/internal/util/Preconditions" "SIOOBE_FORMATTER" "Ljava/util/function/BiFunction;" G3) (rG3 : G3.isRef = true) {h : Heap} (O : Ext Z.heap h) {p0 r1 r2 : Addr} {c1s c2s : List Int32} (Ap0 : Exa Z h p0 "com/example/lectern/lectern/demo/Profile") (F1 : Fld Z h p0 "com/example/lectern/lectern/demo/Profile" "savedNickname" "Ljava/lang/String;" (.ref r1)) (F2 : Fld Z h p0 "com/example/lectern/lectern/demo/Profile" "savedAge" "Ljava/lang/String;" (.ref r2)) (S1 : Str Z h r1 c1s) (S2 : Str Z h r2 c2s) (l1 : c1s.length ≤ 2) (l2 : c2s.length ≤ 2) :
    Ctr l Z EL0 (⟨"com/example/lectern/lectern/demo/Profile", "saved", "()Ljava/lang/String;"⟩ : MethodName) prog_31_method_10_code 1 (some (.object "java/lang/String")) [] ({ frames := 6, cells := 6, slots := 60, locals := 140 } : Room) #[(.ref p0)] h [] (fun v h' => ∃ a, v = some (.ref a) ∧ Keep h h' [] ∧ Str Z h' a (c1s ++ [44, 32] ++ c2s)) := by
  refine Ctr.of pn4 O ?_
  intro p e s m below meth c s₁ hret hlk hnm X
  have hEL := hEL0 hw
  have KX : Keep h h [] := Keep.refl _ _
  replace X := X.cast (g' := (mkF m 0 #[.val (.ref p0)] [])) (by first | (simp [entryFrame, mkF, argsToLocals, Value.category]; done) | rfl)
  replace X := X.aload_n (q := 1) d26_0 rfl rfl rfl
  replace X := X.getfield (q := 4) (hw _ (List.mem_of_getElem? (i := 41) rfl)) F1 d26_1 rfl
  replace X := X.ifnonnullYes (q := 11) d26_4 (by decide) (by decide)
  obtain ⟨o, hp1, go, no, E2, Ao, Do, X⟩ := X.new (C := "java/lang/StringBuilder") (q := 14) (hw _ (List.mem_of_getElem? (i := 50) rfl)) (hw _ (List.mem_of_getElem? (i := 51) rfl)) (hw _ (List.mem_of_getElem? (i := 52) rfl)) d26_11 rfl (by decide) (by decide)
  have s_o : h.size ≤ o := by rw [go]; exact KX.1
  have ne_p0_o : p0 ≠ o := by rw [go]; exact Nat.ne_of_lt Ap0.lt
  have ne_r1_o : r1 ≠ o := by rw [go]; exact Nat.ne_of_lt S1.lt
  have ne_r2_o : r2 ≠ o := by rw [go]; exact Nat.ne_of_lt S2.lt
  replace KX := KX.ext E2
  replace Ap0 := Ap0.ext E2
  replace F1 := F1.ext E2
  replace F2 := F2.ext E2
  replace S1 := S1.ext E2
  replace S2 := S2.ext E2
  have Fo_value := Do (Or.inl (hw _ (List.mem_of_getElem? (i := 65) rfl))) (ty := (.array .byte)) (by decide)
  have Fo_coder := Do (Or.inl (hw _ (List.mem_of_getElem? (i := 67) rfl))) (ty := .byte) (by decide)
  have Fo_count := Do (Or.inl (hw _ (List.mem_of_getElem? (i := 92) rfl))) (ty := .int) (by decide)
  replace X := X.dup (q := 15) d26_14 rfl rfl
  have N1 : ∀ x ∈ [o], Nst Z _ x := fun x q => by cases List.mem_singleton.mp q; exact Nst.exa Ao (by decide) (hw _ (List.mem_of_getElem? (i := 51) rfl))
  have kx0 := KX.1
  obtain ⟨_, hp3, ⟨rfl, K1, t, s_t0, Bo⟩, X⟩ := X.callI (q := 18) (rm_sbinit hw O2 P5 O4 rG3 X.old Ao Fo_value Fo_coder Fo_count no) hEL (fun _ q => nomatch q) rfl (hw _ (List.mem_of_getElem? (i := 53) rfl)) (hw _ (List.mem_of_getElem? (i := 54) rfl)) (hw _ (List.mem_of_getElem? (i := 52) rfl)) (hw _ (List.mem_of_getElem? (i := 55) rfl)) (by decide) pd14 (a := o) (argsL := []) (rest := [(.ref o)]) rfl rfl rfl rfl d26_15 (by decide) (by first | decide | exact Nat.le_of_ble_eq_true rfl) (by decide) (by decide) rfl
  replace X := X [(.ref o)] rfl
  replace KX := KX.trans K1 (fun x q => by cases List.mem_singleton.mp q; exact Or.inr s_o)
  replace Ap0 := Ap0.keep K1
  replace F1 := F1.keep K1 (ninS ne_p0_o nin0)
  replace F2 := F2.keep K1 (ninS ne_p0_o nin0)
  replace S1 := S1.keep K1 N1
  replace S2 := S2.keep K1 N1
  have s_t : h.size ≤ t := Nat.le_trans kx0 s_t0
  clear Ao Fo_value Fo_coder Fo_count
  replace X := X.aload_n (q := 19) d26_18 rfl rfl rfl
  replace X := X.getfield (q := 22) (hw _ (List.mem_of_getElem? (i := 41) rfl)) F1 d26_19 rfl
  have np : p0 ∉ [o, t] := by
    obtain ⟨_, _, _, A⟩ := Bo.arv
    exact ninS ne_p0_o (ninS (Ap0.neArv A (hw _ (List.mem_of_getElem? (i := 13) rfl))) nin0)
  have N2 := Bo.nst (n := 4) (hw _ (List.mem_of_getElem? (i := 51) rfl))
  obtain ⟨_, hp4, ⟨rfl, K2, Bo'⟩, X⟩ := X.callV (q := 25) (rm_app hw O2 P5 O4 rG3 X.old Bo S1 (by omega) (by simp; omega)) hEL (fun _ q => nomatch q) (hw _ (List.mem_of_getElem? (i := 68) rfl)) (hw _ (List.mem_of_getElem? (i := 69) rfl)) (hw _ (List.mem_of_getElem? (i := 71) rfl)) (hw _ (List.mem_of_getElem? (i := 71) rfl)) (hw _ (List.mem_of_getElem? (i := 70) rfl)) (hw _ (List.mem_of_getElem? (i := 52) rfl)) (hw _ (List.mem_of_getElem? (i := 72) rfl)) (by decide) pd15 Bo.exa (argsL := [(.ref r1)]) (rest := []) rfl rfl rfl rfl d26_22 (by decide) (by first | decide | exact Nat.le_of_ble_eq_true rfl) (by decide) (by decide) rfl
  replace X := X [(.ref o)] rfl
  replace KX := KX.trans K2 (two s_o s_t)
  replace Ap0 := Ap0.keep K2
  replace F1 := F1.keep K2 np
  replace F2 := F2.keep K2 np
  replace S1 := S1.keepB (by omega) (hw _ (List.mem_of_getElem? (i := 6) rfl)) K2 N2
  replace S2 := S2.keepB (by omega) (hw _ (List.mem_of_getElem? (i := 6) rfl)) K2 N2
  clear Bo np
  have Bo := Bo'
  clear Bo'
  obtain ⟨c1, hp5, tc1, kc1, E6, Ac1, Cc1, Vc1, Tc1, Nc1, X⟩ := X.ldcR (q := 27) hEL (List.mem_of_getElem? (i := 1) rfl) (hw _ (List.mem_of_getElem? (i := 118) rfl)) (wS_of hw) (vs := (([44, 32] : List Int32).map (fun c => c.toInt8.toInt32)).map Value.int) (z := Int32.ofNat 2) ⟨by decide, by decide +kernel⟩ (by decide) (by decide) d26_25 (n := 8) (by decide) (by first | decide | exact Nat.le_of_ble_eq_true rfl) (by decide) (by decide) rfl
  replace KX := KX.ext E6
  replace Ap0 := Ap0.ext E6
  replace F1 := F1.ext E6
  replace F2 := F2.ext E6
  replace S1 := S1.ext E6
  replace S2 := S2.ext E6
  replace Bo := Bo.ext E6
  have Sc1 : Str Z hp5 c1 ([44, 32] : List Int32) := ⟨by decide, by decide, Ac1, Cc1, tc1, kc1, Vc1, Tc1⟩
  have np : p0 ∉ [o, t] := by
    obtain ⟨_, _, _, A⟩ := Bo.arv
    exact ninS ne_p0_o (ninS (Ap0.neArv A (hw _ (List.mem_of_getElem? (i := 13) rfl))) nin0)
  have N3 := Bo.nst (n := 4) (hw _ (List.mem_of_getElem? (i := 51) rfl))
  obtain ⟨_, hp7, ⟨rfl, K3, Bo'⟩, X⟩ := X.callV (q := 30) (rm_app hw O2 P5 O4 rG3 X.old Bo Sc1 (by decide) (by simp; omega)) hEL (fun _ q => nomatch q) (hw _ (List.mem_of_getElem? (i := 68) rfl)) (hw _ (List.mem_of_getElem? (i := 69) rfl)) (hw _ (List.mem_of_getElem? (i := 71) rfl)) (hw _ (List.mem_of_getElem? (i := 71) rfl)) (hw _ (List.mem_of_getElem? (i := 70) rfl)) (hw _ (List.mem_of_getElem? (i := 52) rfl)) (hw _ (List.mem_of_getElem? (i := 72) rfl)) (by decide) pd15 Bo.exa (argsL := [(.ref c1)]) (rest := []) rfl rfl rfl rfl d26_27 (by decide) (by first | decide | exact Nat.le_of_ble_eq_true rfl) (by decide) (by decide) rfl
  replace X := X [(.ref o)] rfl
  replace KX := KX.trans K3 (two s_o s_t)
  replace Ap0 := Ap0.keep K3
  replace F1 := F1.keep K3 np
  replace F2 := F2.keep K3 np
  replace S1 := S1.keepB (by omega) (hw _ (List.mem_of_getElem? (i := 6) rfl)) K3 N3
  replace S2 := S2.keepB (by omega) (hw _ (List.mem_of_getElem? (i := 6) rfl)) K3 N3
  clear Bo np
  have Bo := Bo'
  clear Bo'
  replace X := X.aload_n (q := 31) d26_30 rfl rfl rfl
  replace X := X.getfield (q := 34) (hw _ (List.mem_of_getElem? (i := 43) rfl)) F2 d26_31 rfl
  have np : p0 ∉ [o, t] := by
    obtain ⟨_, _, _, A⟩ := Bo.arv
    exact ninS ne_p0_o (ninS (Ap0.neArv A (hw _ (List.mem_of_getElem? (i := 13) rfl))) nin0)
  have N4 := Bo.nst (n := 4) (hw _ (List.mem_of_getElem? (i := 51) rfl))
  obtain ⟨_, hp8, ⟨rfl, K4, Bo'⟩, X⟩ := X.callV (q := 37) (rm_app hw O2 P5 O4 rG3 X.old Bo S2 (by omega) (by simp; omega)) hEL (fun _ q => nomatch q) (hw _ (List.mem_of_getElem? (i := 68) rfl)) (hw _ (List.mem_of_getElem? (i := 69) rfl)) (hw _ (List.mem_of_getElem? (i := 71) rfl)) (hw _ (List.mem_of_getElem? (i := 71) rfl)) (hw _ (List.mem_of_getElem? (i := 70) rfl)) (hw _ (List.mem_of_getElem? (i := 52) rfl)) (hw _ (List.mem_of_getElem? (i := 72) rfl)) (by decide) pd15 Bo.exa (argsL := [(.ref r2)]) (rest := []) rfl rfl rfl rfl d26_34 (by decide) (by first | decide | exact Nat.le_of_ble_eq_true rfl) (by decide) (by decide) rfl
  replace X := X [(.ref o)] rfl
  replace KX := KX.trans K4 (two s_o s_t)
  replace Ap0 := Ap0.keep K4
  replace F1 := F1.keep K4 np
  replace F2 := F2.keep K4 np
  replace S1 := S1.keepB (by omega) (hw _ (List.mem_of_getElem? (i := 6) rfl)) K4 N4
  replace S2 := S2.keepB (by omega) (hw _ (List.mem_of_getElem? (i := 6) rfl)) K4 N4
  clear Bo np
  have Bo := Bo'
  clear Bo'
  obtain ⟨_, hp9, ⟨a, rfl, K5, Sa⟩, X⟩ := X.callV (q := 40) (rm_tos hw O2 P5 O4 rG3 X.old Bo (by simp; omega)) hEL (fun _ q => nomatch q) (hw _ (List.mem_of_getElem? (i := 119) rfl)) (hw _ (List.mem_of_getElem? (i := 120) rfl)) (hw _ (List.mem_of_getElem? (i := 122) rfl)) (hw _ (List.mem_of_getElem? (i := 122) rfl)) (hw _ (List.mem_of_getElem? (i := 121) rfl)) (hw _ (List.mem_of_getElem? (i := 52) rfl)) (hw _ (List.mem_of_getElem? (i := 123) rfl)) (by decide) pd16 Bo.exa (argsL := []) (rest := []) rfl rfl rfl rfl d26_37 (by decide) (by first | decide | exact Nat.le_of_ble_eq_true rfl) (by decide) (by decide) rfl
  replace X := X [(.ref a)] rfl
  replace KX := KX.trans K5 (fun _ q => nomatch q)
  exact X.areturn hEL hret rfl rfl rfl hlk d26_40 (by decide) (by decide) ⟨a, rfl, KX, Sa⟩
set_option maxRecDepth 65536 in
set_option maxHeartbeats 40000000 in
theorem rm_can {l : Launch} {Z : State} {a0 : Array Value} (hw : ∀ d ∈ tables_1, d.before a0 Z = true) {G1 : Int32} {G3 : Value} (O2 : Sta Z Z.heap "java/lang/String" "COMPACT_STRINGS" "Z" (.int G1)) (P5 : ¬ G1 = 0) (O4 : Sta Z Z.heap "jdk/internal/util/Preconditions" "SIOOBE_FORMATTER" "Ljava/util/function/BiFunction;" G3) (rG3 : G3.isRef = true) {h : Heap} (O : Ext Z.heap h) {c0 : Int32} (b0 : ¬ c0 < 0 ∧ ¬ (255 : Int32) < c0) :
    Ctr l Z EL0 (⟨"java/lang/StringLatin1", "canEncode", "(C)Z"⟩ : MethodName) jdk_43_method_3_code 1 (some .boolean) [] ({ frames := 0, cells := 0, slots := 0, locals := 0 } : Room) #[(.int c0)] h [] (fun v h' => v = some (.int 1) ∧ h = h') := by
  refine Ctr.of pn5 O ?_
  intro p e s m below meth c s₁ hret hlk hnm X
  have hEL := hEL0 hw
  have KX : Keep h h [] := Keep.refl _ _
  replace X := X.cast (g' := (mkF m 0 #[.val (.int c0)] [])) (by first | (simp [entryFrame, mkF, argsToLocals, Value.category]; done) | rfl)
  replace X := X.iload_n (q := 1) d27_0 rfl rfl
  replace X := X.sipush (q := 4) (z := (255 : Int32)) d27_1 rfl rfl
  replace X := X.icmpNo (q := 7) d27_4 (flt b0.2).2.2.1 rfl
  replace X := X.iconst (q := 8) (z := (1 : Int32)) d27_7 rfl rfl
  replace X := X.goto (q := 12) d27_8 (by decide) (by decide)
  exact X.ireturn hEL hret (Or.inr (Or.inl rfl)) rfl hlk d27_12 (by decide) (by decide) ⟨rfl, rfl⟩
theorem nar8b {x : Int32} : nar .byte x.toInt8.toInt32 = x.toInt8.toInt32 := by
  show x.toInt8.toInt32.toInt8.toInt32 = _
  rw [Int8.toInt8_toInt32]
set_option maxRecDepth 65536 in
set_option maxHeartbeats 40000000 in
theorem rm_tob {l : Launch} {Z : State} {a0 : Array Value} (hw : ∀ d ∈ tables_1, d.before a0 Z = true) {G1 : Int32} {G3 : Value} (O2 : Sta Z Z.heap "java/lang/String" "COMPACT_STRINGS" "Z" (.int G1)) (P5 : ¬ G1 = 0) (O4 : Sta Z Z.heap "jdk/internal/util/Preconditions" "SIOOBE_FORMATTER" "Ljava/util/function/BiFunction;" G3) (rG3 : G3.isRef = true) {h : Heap} (O : Ext Z.heap h) {c0 : Int32} :
    Ctr l Z EL0 (⟨"java/lang/StringLatin1", "toBytes", "(C)[B"⟩ : MethodName) jdk_43_method_46_code 1 (some (.array .byte)) [] ({ frames := 0, cells := 1, slots := 1, locals := 0 } : Room) #[(.int c0)] h [] (fun v h' => ∃ r k, v = some (.ref r) ∧ Keep h h' [] ∧ Arv Z h' r k .byte (1 : Int32) [.int c0.toInt8.toInt32] (.int 0)) := by
  refine Ctr.of pn5 O ?_
  intro p e s m below meth c s₁ hret hlk hnm X
  have hEL := hEL0 hw
  have KX : Keep h h [] := Keep.refl _ _
  replace X := X.cast (g' := (mkF m 0 #[.val (.int c0)] [])) (by first | (simp [entryFrame, mkF, argsToLocals, Value.category]; done) | rfl)
  replace X := X.iconst (q := 1) (z := (1 : Int32)) d28_0 rfl rfl
  obtain ⟨r, hp1, k3, gr, nr, E2, Vr, X⟩ := X.newarray (q := 3) (aty := .byte) (hw _ (List.mem_of_getElem? (i := 7) rfl)) d28_1 rfl (by decide) (cap := 1) (by decide) (by decide) (by decide) (by decide) 1
  have s_r : h.size ≤ r := by rw [gr]; exact KX.1
  replace KX := KX.ext E2
  replace X := X.dup (q := 4) d28_3 rfl rfl
  replace X := X.iconst (q := 5) (z := (0 : Int32)) d28_4 rfl rfl
  replace X := X.iload_n (q := 6) d28_5 rfl rfl
  replace X := X.i2b (q := 7) (z := c0.toInt8.toInt32) d28_6 rfl rfl
  obtain ⟨hp4, K1, z1, Vr', X⟩ := X.bastore (q := 8) Vr nr (by simp) (by decide) nar8b (fits_nar_byte _) (i := 0) rfl (by decide) d28_7 rfl
  replace KX := KX.trans K1 (fun x q => by cases List.mem_singleton.mp q; exact Or.inr s_r)
  exact X.areturn hEL hret rfl rfl rfl hlk d28_8 (by decide) (by decide) ⟨r, _, rfl, KX, Vr'⟩
set_option maxRecDepth 65536 in
set_option maxHeartbeats 40000000 in
theorem rm_sbb {l : Launch} {Z : State} {a0 : Array Value} (hw : ∀ d ∈ tables_1, d.before a0 Z = true) {G1 : Int32} {G3 : Value} (O2 : Sta Z Z.heap "java/lang/String" "COMPACT_STRINGS" "Z" (.int G1)) (P5 : ¬ G1 = 0) (O4 : Sta Z Z.heap "jdk/internal/util/Preconditions" "SIOOBE_FORMATTER" "Ljava/util/function/BiFunction;" G3) (rG3 : G3.isRef = true) {h : Heap} (O : Ext Z.heap h) {a t : Addr} {v1 v2 : Value} (Aa : Exa Z h a "java/lang/String") (Fa_value : Fld Z h a "java/lang/String" "value" "[B" v1) (Fa_coder : Fld Z h a "java/lang/String" "coder" "B" v2) (na : Z.heap.size ≤ a) :
    Ctr l Z EL0 (⟨"java/lang/String", "<init>", "([BB)V"⟩ : MethodName) jdk_42_method_151_code 3 none [] ({ frames := 1, cells := 0, slots := 0, locals := 14 } : Room) #[(.ref a), (.ref t), (.int (0 : Int32))] h [a] (fun v h' => v = none ∧ Keep h h' [a] ∧ Exa Z h' a "java/lang/String" ∧ Fld Z h' a "java/lang/String" "value" "[B" (.ref t) ∧ Fld Z h' a "java/lang/String" "coder" "B" (.int 0)) := by
  refine Ctr.of pn2 O ?_
  intro p e s m below meth c s₁ hret hlk hnm X
  have hEL := hEL0 hw
  have KX : Keep h h [a] := Keep.refl _ _
  replace X := X.cast (g' := (mkF m 0 #[.val (.ref a), .val (.ref t), .val (.int (0 : Int32))] [])) (by first | (simp [entryFrame, mkF, argsToLocals, Value.category]; done) | rfl)
  replace X := X.aload_n (q := 1) d29_0 rfl rfl rfl
  replace X := X.initObj (q := 4) (hw _ (List.mem_of_getElem? (i := 132) rfl)) (hw _ (List.mem_of_getElem? (i := 19) rfl)) (hw _ (List.mem_of_getElem? (i := 20) rfl)) rfl d29_1 (by decide) (by decide) rfl
  replace X := X.aload_n (q := 5) d29_4 rfl rfl rfl
  replace X := X.aload_n (q := 6) d29_5 rfl rfl rfl
  obtain ⟨hp1, W2, X⟩ := X.putfieldS (q := 9) (hw _ (List.mem_of_getElem? (i := 83) rfl)) Fa_value Aa (Or.inr ⟨(hw _ (List.mem_of_getElem? (i := 8) rfl)), rfl, hnm⟩) (hw _ (List.mem_of_getElem? (i := 6) rfl)) (ty := (.array .byte)) (by decide) rfl rfl na (fun vm _ hs => hs a (by simp)) d29_6 rfl
  replace KX := KX.wr W2 (Or.inl (by simp))
  replace Aa := Aa.wr W2
  replace Fa_value := Fa_value.same W2
  replace Fa_coder := Fa_coder.other W2 (Or.inr (RoadKit.slot_ne (Or.inr (hw _ (List.mem_of_getElem? (i := 9) rfl))) (Or.inr (hw _ (List.mem_of_getElem? (i := 8) rfl))) (by decide) (t := .byte) (t' := (.array .byte)) (by decide) (by decide)))
  replace X := X.aload_n (q := 10) d29_9 rfl rfl rfl
  replace X := X.iload_n (q := 11) d29_10 rfl rfl
  obtain ⟨hp3, W4, X⟩ := X.putfieldS (q := 14) (hw _ (List.mem_of_getElem? (i := 90) rfl)) Fa_coder Aa (Or.inr ⟨(hw _ (List.mem_of_getElem? (i := 9) rfl)), rfl, hnm⟩) (hw _ (List.mem_of_getElem? (i := 6) rfl)) (ty := .byte) (by decide) rfl rfl na (fun vm _ hs => hs a (by simp)) d29_11 rfl
  replace KX := KX.wr W4 (Or.inl (by simp))
  replace Aa := Aa.wr W4
  replace Fa_coder := Fa_coder.same W4
  replace Fa_value := Fa_value.other W4 (Or.inr (RoadKit.slot_ne (Or.inr (hw _ (List.mem_of_getElem? (i := 8) rfl))) (Or.inr (hw _ (List.mem_of_getElem? (i := 9) rfl))) (by decide) (t := (.array .byte)) (t' := .byte) (by decide) (by decide)))
  exact X.ret hEL hret hlk d29_14 (by decide) (by decide) ⟨rfl, KX, Aa, Fa_value, Fa_coder⟩
set_option maxRecDepth 65536 in
set_option maxHeartbeats 40000000 in
theorem rm_vof {l : Launch} {Z : State} {a0 : Array Value} (hw : ∀ d ∈ tables_1, d.before a0 Z = true) {G1 : Int32} {G3 : Value} (O2 : Sta Z Z.heap "java/lang/String" "COMPACT_STRINGS" "Z" (.int G1)) (P5 : ¬ G1 = 0) (O4 : Sta Z Z.heap "jdk/internal/util/Preconditions" "SIOOBE_FORMATTER" "Ljava/util/function/BiFunction;" G3) (rG3 : G3.isRef = true) {h : Heap} (O : Ext Z.heap h) {c0 : Int32} (b0 : ¬ c0 < 0 ∧ ¬ (255 : Int32) < c0) :
    Ctr l Z EL0 (⟨"java/lang/String", "valueOf", "(C)Ljava/lang/String;"⟩ : MethodName) jdk_42_method_139_code 1 (some (.object "java/lang/String")) [] ({ frames := 2, cells := 2, slots := 5, locals := 40 } : Room) #[(.int c0)] h [] (fun v h' => ∃ a, v = some (.ref a) ∧ Keep h h' [] ∧ Str Z h' a [c0]) := by
  refine Ctr.of pn2 O ?_
  intro p e s m below meth c s₁ hret hlk hnm X
  have hEL := hEL0 hw
  have KX : Keep h h [] := Keep.refl _ _
  replace X := X.cast (g' := (mkF m 0 #[.val (.int c0)] [])) (by first | (simp [entryFrame, mkF, argsToLocals, Value.category]; done) | rfl)
  replace X := X.getstatic (q := 3) (hw _ (List.mem_of_getElem? (i := 89) rfl)) O2 d30_0 rfl
  replace X := X.ifNo (q := 6) d30_3 (feq P5).1 rfl
  replace X := X.iload_n (q := 7) d30_6 rfl rfl
  obtain ⟨_, hp1, ⟨rfl, rfl⟩, X⟩ := X.callS (q := 10) (rm_can hw O2 P5 O4 rG3 X.old b0) hEL (fun _ q => nomatch q) (hw _ (List.mem_of_getElem? (i := 213) rfl)) (hw _ (List.mem_of_getElem? (i := 214) rfl)) (hw _ (List.mem_of_getElem? (i := 185) rfl)) (hw _ (List.mem_of_getElem? (i := 215) rfl)) (by decide) pd17 (argsL := [(.int c0)]) (rest := []) rfl rfl rfl rfl d30_7 (by decide) (by first | decide | exact Nat.le_of_ble_eq_true rfl) (by decide) (by decide) rfl
  replace X := X [(.int (1 : Int32))] rfl
  replace X := X.ifNo (q := 13) d30_10 (feq (by decide : ¬ (1 : Int32) = 0)).1 rfl
  obtain ⟨a, hp2, ga, na, E3, Aa, Da, X⟩ := X.new (C := "java/lang/String") (q := 16) (hw _ (List.mem_of_getElem? (i := 216) rfl)) (hw _ (List.mem_of_getElem? (i := 6) rfl)) (hw _ (List.mem_of_getElem? (i := 5) rfl)) d30_13 rfl (by decide) (by decide)
  have s_a : h.size ≤ a := by rw [ga]; exact KX.1
  replace KX := KX.ext E3
  have Fa_value := Da (Or.inr (hw _ (List.mem_of_getElem? (i := 8) rfl))) (ty := (.array .byte)) (by decide)
  have Fa_coder := Da (Or.inr (hw _ (List.mem_of_getElem? (i := 9) rfl))) (ty := .byte) (by decide)
  replace X := X.dup (q := 17) d30_16 rfl rfl
  replace X := X.iload_n (q := 18) d30_17 rfl rfl
  obtain ⟨_, hp4, ⟨r, kr, rfl, K1, Vr⟩, X⟩ := X.callS (q := 21) (rm_tob hw O2 P5 O4 rG3 X.old (c0 := c0)) hEL (fun _ q => nomatch q) (hw _ (List.mem_of_getElem? (i := 217) rfl)) (hw _ (List.mem_of_getElem? (i := 218) rfl)) (hw _ (List.mem_of_getElem? (i := 185) rfl)) (hw _ (List.mem_of_getElem? (i := 219) rfl)) (by decide) pd18 (argsL := [(.int c0)]) (rest := [(.ref a), (.ref a)]) rfl rfl rfl rfl d30_18 (by decide) (by first | decide | exact Nat.le_of_ble_eq_true rfl) (by decide) (by decide) rfl
  replace X := X [(.ref r), (.ref a), (.ref a)] rfl
  replace KX := KX.trans K1 (fun _ q => nomatch q)
  replace Aa := Aa.keep K1
  replace Fa_value := Fa_value.keep K1 nin0
  replace Fa_coder := Fa_coder.keep K1 nin0
  have ne_r_a : r ≠ a := Ne.symm (Aa.neArv Vr (hw _ (List.mem_of_getElem? (i := 6) rfl)))
  replace X := X.iconst (q := 22) (z := (0 : Int32)) d30_21 rfl rfl
  obtain ⟨_, hp5, ⟨rfl, K2, Ea, Ev, Ec⟩, X⟩ := X.callI (q := 25) (rm_sbb hw O2 P5 O4 rG3 X.old (t := r) Aa Fa_value Fa_coder na) hEL (by simp) rfl (hw _ (List.mem_of_getElem? (i := 220) rfl)) (hw _ (List.mem_of_getElem? (i := 221) rfl)) (hw _ (List.mem_of_getElem? (i := 5) rfl)) (hw _ (List.mem_of_getElem? (i := 222) rfl)) (by decide) pd19 (a := a) (argsL := [(.ref r), (.int (0 : Int32))]) (rest := [(.ref a)]) rfl rfl rfl rfl d30_22 (by decide) (by first | decide | exact Nat.le_of_ble_eq_true rfl) (by decide) (by decide) rfl
  replace X := X [(.ref a)] rfl
  replace KX := KX.trans K2 (fun x q => by cases List.mem_singleton.mp q; exact Or.inr s_a)
  replace Vr := Vr.keep K2 (ninS ne_r_a nin0)
  exact X.areturn hEL hret rfl rfl rfl hlk d30_25 (by decide) (by decide) ⟨a, rfl, KX, (by show 1 ≤ 4000; decide), (by intro c hc; cases List.mem_singleton.mp hc; exact b0), Ea, Ec, r, kr, Ev, Vr⟩
set_option maxRecDepth 65536 in
set_option maxHeartbeats 40000000 in
theorem rm_str {l : Launch} {Z : State} {a0 : Array Value} (hw : ∀ d ∈ tables_1, d.before a0 Z = true) {G1 : Int32} {G3 : Value} (O2 : Sta Z Z.heap "java/lang/String" "COMPACT_STRINGS" "Z" (.int G1)) (P5 : ¬ G1 = 0) (O4 : Sta Z Z.heap "jdk/internal/util/Preconditions" "SIOOBE_FORMATTER" "Ljava/util/function/BiFunction;" G3) (rG3 : G3.isRef = true) {h : Heap} (O : Ext Z.heap h) {x0 n : Int32} (hn : n = 0 ∨ n = 1 ∨ n = 2) :
    Ctr l Z EL0 (⟨"com/example/lectern/lectern/demo/ProfileSaveNetPinLaw", "str", "(II)Ljava/lang/String;"⟩ : MethodName) method_3_code 4 (some (.object "java/lang/String")) [] ({ frames := 4, cells := 3, slots := 10, locals := 80 } : Room) #[(.int x0), (.int n)] h [] (fun v h' => ∃ a cs, v = some (.ref a) ∧ Keep h h' [] ∧ Str Z h' a cs ∧ cs.length ≤ 2) := by
  refine Ctr.of pn6 O ?_
  intro p e s m below meth c s₁ hret hlk hnm X
  have hEL := hEL0 hw
  have KX : Keep h h [] := Keep.refl _ _
  replace X := X.cast (g' := (mkF m 0 #[.val (.int x0), .val (.int n), .unset, .unset] [])) (by first | (simp [entryFrame, mkF, argsToLocals, Value.category]; done) | rfl)
  obtain ⟨c1, hc1⟩ : ∃ z, z = x0 &&& (255 : Int32) := ⟨_, rfl⟩
  have b1 : ¬ c1 < 0 ∧ ¬ (255 : Int32) < c1 := by rw [hc1]; exact and255 _
  obtain ⟨c2, hc2⟩ : ∃ z, z = (XT.ushr x0 (8 : Int32)) &&& (255 : Int32) := ⟨_, rfl⟩
  have b2 : ¬ c2 < 0 ∧ ¬ (255 : Int32) < c2 := by rw [hc2]; exact and255 _
  replace X := X.iload_n (q := 1) d31_0 rfl rfl
  replace X := X.sipush (q := 4) (z := (255 : Int32)) d31_1 rfl rfl
  replace X := X.iand (q := 5) (z := c1) d31_4 hc1.symm rfl
  replace X := X.i2c (q := 6) (z := c1) d31_5 (i2c8 b1) rfl
  replace X := X.istore_n (q := 7) (Ls' := #[.val (.int x0), .val (.int n), .val (.int c1), .unset]) d31_6 rfl rfl
  replace X := X.iload_n (q := 8) d31_7 rfl rfl
  replace X := X.bipush (q := 10) (z := (8 : Int32)) d31_8 rfl rfl
  replace X := X.iushr (q := 11) (z := (XT.ushr x0 (8 : Int32))) d31_10 rfl rfl
  replace X := X.sipush (q := 14) (z := (255 : Int32)) d31_11 rfl rfl
  replace X := X.iand (q := 15) (z := c2) d31_14 hc2.symm rfl
  replace X := X.i2c (q := 16) (z := c2) d31_15 (i2c8 b2) rfl
  replace X := X.istore_n (q := 17) (Ls' := #[.val (.int x0), .val (.int n), .val (.int c1), .val (.int c2)]) d31_16 rfl rfl
  replace X := X.iload_n (q := 18) d31_17 rfl rfl
  rcases Decidable.em (n = 0) with h0 | h0
  · skip
    replace X := X.ifNo (q := 21) d31_18 (teq h0).2 rfl
    obtain ⟨e1, hp1, te1, ke1, E2, Ae1, Ce1, Ve1, Te1, Ne1, X⟩ := X.ldcR (q := 23) hEL (List.mem_of_getElem? (i := 2) rfl) (hw _ (List.mem_of_getElem? (i := 4) rfl)) (wS_of hw) (vs := (([] : List Int32).map (fun c => c.toInt8.toInt32)).map Value.int) (z := Int32.ofNat 0) ⟨by decide, by decide +kernel⟩ (by decide) (by decide) d31_21 (n := 0) (by decide) (by first | decide | exact Nat.le_of_ble_eq_true rfl) (by decide) (by decide) rfl
    replace KX := KX.ext E2
    have Se1 : Str Z hp1 e1 ([] : List Int32) := ⟨by decide, by decide, Ae1, Ce1, te1, ke1, Ve1, Te1⟩
    exact X.areturn hEL hret rfl rfl rfl hlk d31_23 (by decide) (by decide) ⟨e1, _, rfl, KX, Se1, by decide⟩
  · skip
    replace X := X.ifYes (q := 24) d31_18 (feq h0).2 (by decide) (by decide)
    replace X := X.iload_n (q := 25) d31_24 rfl rfl
    replace X := X.iconst (q := 26) (z := (1 : Int32)) d31_25 rfl rfl
    rcases Decidable.em (n = 1) with h1 | h1
    · skip
      replace X := X.icmpNo (q := 29) d31_26 (teq h1).2 rfl
      replace X := X.iload_n (q := 30) d31_29 rfl rfl
      obtain ⟨_, hp1, ⟨a1, rfl, K1, Sa1⟩, X⟩ := X.callS (q := 33) (rm_vof hw O2 P5 O4 rG3 X.old b1) hEL (fun _ q => nomatch q) (hw _ (List.mem_of_getElem? (i := 210) rfl)) (hw _ (List.mem_of_getElem? (i := 211) rfl)) (hw _ (List.mem_of_getElem? (i := 5) rfl)) (hw _ (List.mem_of_getElem? (i := 212) rfl)) (by decide) pd20 (argsL := [(.int c1)]) (rest := []) rfl rfl rfl rfl d31_30 (by decide) (by first | decide | exact Nat.le_of_ble_eq_true rfl) (by decide) (by decide) rfl
      replace X := X [(.ref a1)] rfl
      replace KX := KX.trans K1 (fun _ q => nomatch q)
      exact X.areturn hEL hret rfl rfl rfl hlk d31_33 (by decide) (by decide) ⟨a1, _, rfl, KX, Sa1, (by show 1 ≤ 2; decide)⟩
    · skip
      replace X := X.icmpYes (q := 34) d31_26 (feq h1).2 (by decide) (by decide)
      obtain ⟨a1, hp1, ga1, na1, E2, Aa1, Da1, X⟩ := X.new (C := "java/lang/String") (q := 37) (hw _ (List.mem_of_getElem? (i := 223) rfl)) (hw _ (List.mem_of_getElem? (i := 6) rfl)) (hw _ (List.mem_of_getElem? (i := 5) rfl)) d31_34 rfl (by decide) (by decide)
      have s_a1 : h.size ≤ a1 := by rw [ga1]; exact KX.1
      replace KX := KX.ext E2
      have Fa1_value := Da1 (Or.inr (hw _ (List.mem_of_getElem? (i := 8) rfl))) (ty := (.array .byte)) (by decide)
      have Fa1_coder := Da1 (Or.inr (hw _ (List.mem_of_getElem? (i := 9) rfl))) (ty := .byte) (by decide)
      replace X := X.dup (q := 38) d31_37 rfl rfl
      replace X := X.iconst (q := 39) (z := (2 : Int32)) d31_38 rfl rfl
      obtain ⟨ar1, hp3, k5, gar1, nar1, E4, Var1, X⟩ := X.newarray (q := 41) (aty := .char) (hw _ (List.mem_of_getElem? (i := 224) rfl)) d31_39 rfl (by decide) (cap := 2) (by decide) (by decide) (by decide) (by decide) 2
      have s_ar1 : h.size ≤ ar1 := by rw [gar1]; exact KX.1
      have ne_a1_ar1 : a1 ≠ ar1 := by rw [gar1]; exact Nat.ne_of_lt Aa1.lt
      replace KX := KX.ext E4
      replace Aa1 := Aa1.ext E4
      replace Fa1_value := Fa1_value.ext E4
      replace Fa1_coder := Fa1_coder.ext E4
      replace X := X.dup (q := 42) d31_41 rfl rfl
      replace X := X.iconst (q := 43) (z := (0 : Int32)) d31_42 rfl rfl
      replace X := X.iload_n (q := 44) d31_43 rfl rfl
      obtain ⟨hp6, K7, zhp6, Var1', X⟩ := X.castore (q := 45) Var1 nar1 (by decide) (nar8 b1) (i := 0) rfl (by first | decide | exact Nat.le_of_ble_eq_true rfl) d31_44 rfl
      replace KX := KX.trans K7 (fun x q => by cases List.mem_singleton.mp q; exact Or.inr s_ar1)
      replace Aa1 := Aa1.keep K7
      replace Fa1_value := Fa1_value.keep K7 (ninS ne_a1_ar1 nin0)
      replace Fa1_coder := Fa1_coder.keep K7 (ninS ne_a1_ar1 nin0)
      replace Var1 := Var1'
      replace X := X.dup (q := 46) d31_45 rfl rfl
      replace X := X.iconst (q := 47) (z := (1 : Int32)) d31_46 rfl rfl
      replace X := X.iload_n (q := 48) d31_47 rfl rfl
      obtain ⟨hp8, K9, zhp8, Var1', X⟩ := X.castore (q := 49) Var1 nar1 (by decide) (nar8 b2) (i := 1) rfl (by first | decide | exact Nat.le_of_ble_eq_true rfl) d31_48 rfl
      replace KX := KX.trans K9 (fun x q => by cases List.mem_singleton.mp q; exact Or.inr s_ar1)
      replace Aa1 := Aa1.keep K9
      replace Fa1_value := Fa1_value.keep K9 (ninS ne_a1_ar1 nin0)
      replace Fa1_coder := Fa1_coder.keep K9 (ninS ne_a1_ar1 nin0)
      replace Var1 := Var1'
      replace Var1 : Arv Z _ ar1 k5 .char (2 : Int32) (([c1, c2] : List Int32).map Value.int) (.int 0) := Var1
      obtain ⟨hp10, K11, Sa1, X⟩ := X.strInit (q := 52) (hws_of hw) (hw _ (List.mem_of_getElem? (i := 6) rfl)) (hw _ (List.mem_of_getElem? (i := 225) rfl)) (hw _ (List.mem_of_getElem? (i := 226) rfl)) (hw _ (List.mem_of_getElem? (i := 227) rfl)) Aa1 Fa1_value Fa1_coder Var1 O2 P5 na1 (by simp) (n := 2) rfl rfl (by decide) (by decide) (by intro c hc; simp only [List.mem_cons, List.not_mem_nil, or_false] at hc; rcases hc with rfl | rfl <;> assumption) rfl d31_49 (by decide) (by first | decide | exact Nat.le_of_ble_eq_true rfl) (by decide) (by decide) rfl
      replace KX := KX.trans K11 (fun x q => by cases List.mem_singleton.mp q; exact Or.inr s_a1)
      exact X.areturn hEL hret rfl rfl rfl hlk d31_52 (by decide) (by decide) ⟨a1, _, rfl, KX, Sa1, (by show 2 ≤ 2; decide)⟩
set_option maxRecDepth 65536 in
set_option maxHeartbeats 40000000 in
theorem rm_at {l : Launch} {Z : State} {a0 : Array Value} (hw : ∀ d ∈ tables_1, d.before a0 Z = true) {G1 : Int32} {G3 : Value} (O2 : Sta Z Z.heap "java/lang/String" "COMPACT_STRINGS" "Z" (.int G1)) (P5 : ¬ G1 = 0) (O4 : Sta Z Z.heap "jdk/internal/util/Preconditions" "SIOOBE_FORMATTER" "Ljava/util/function/BiFunction;" G3) (rG3 : G3.isRef = true) {h : Heap} (O : Ext Z.heap h) {r0 r1 r2 : Addr} {c1s c2s : List Int32} (S0 : Str Z h r0 (c1s ++ [44, 32] ++ c2s)) (S1 : Str Z h r1 c1s) (S2 : Str Z h r2 c2s) (l1 : c1s.length ≤ 2) (l2 : c2s.length ≤ 2) {k : Nat} (hk : k ≤ 5) :
    Ctr l Z EL0 (⟨"com/example/lectern/lectern/demo/ProfileSaveNetPinLaw", "at", "(Ljava/lang/String;Ljava/lang/String;Ljava/lang/String;I)Z"⟩ : MethodName) method_5_code 5 (some .boolean) [] ({ frames := 4, cells := 0, slots := 0, locals := 60 } : Room) #[(.ref r0), (.ref r1), (.ref r2), (.int (Int32.ofNat k))] h [] (fun v h' => v = some (.int 1) ∧ h = h') := by
  refine Ctr.of pn6 O ?_
  intro p e s m below meth c s₁ hret hlk hnm X
  have hEL := hEL0 hw
  have KX : Keep h h [] := Keep.refl _ _
  replace X := X.cast (g' := (mkF m 0 #[.val (.ref r0), .val (.ref r1), .val (.ref r2), .val (.int (Int32.ofNat k)), .unset] [])) (by first | (simp [entryFrame, mkF, argsToLocals, Value.category]; done) | rfl)
  have hL : (c1s ++ [44, 32] ++ c2s).length = c1s.length + 2 + c2s.length := by rw [List.length_append, List.length_append]; rfl
  replace X := X.iload_n (q := 1) d32_0 rfl rfl
  replace X := X.aload_n (q := 2) d32_1 rfl rfl rfl
  replace X := X.strLen (q := 5) (z := (Int32.ofNat (c1s.length + 2 + c2s.length))) S0 (hln_of hw) (hw _ (List.mem_of_getElem? (i := 6) rfl)) O2 P5 (hw _ (List.mem_of_getElem? (i := 169) rfl)) (hw _ (List.mem_of_getElem? (i := 79) rfl)) (hw _ (List.mem_of_getElem? (i := 81) rfl)) (hw _ (List.mem_of_getElem? (i := 80) rfl)) rfl d32_2 (by decide) (by first | decide | exact Nat.le_of_ble_eq_true rfl) (by decide) (by decide) (by rw [hL]) rfl
  rcases Decidable.em (¬ k < c1s.length + 2 + c2s.length) with h1 | h1
  · skip
    replace X := X.icmpNo (q := 8) d32_5 (flt (ofNat_nlt h1 (by omega))).1 rfl
    replace X := X.iconst (q := 9) (z := (1 : Int32)) d32_8 rfl rfl
    exact X.ireturn hEL hret (Or.inr (Or.inl rfl)) rfl hlk d32_9 (by decide) (by decide) ⟨rfl, rfl⟩
  · skip
    replace h1 := Decidable.of_not_not h1
    replace X := X.icmpYes (q := 10) d32_5 (tlt (ofNat_lt h1 (by omega))).1 (by decide) (by decide)
    replace X := X.iload_n (q := 11) d32_10 rfl rfl
    replace X := X.aload_n (q := 12) d32_11 rfl rfl rfl
    replace X := X.strLen (q := 15) (z := (Int32.ofNat c1s.length)) S1 (hln_of hw) (hw _ (List.mem_of_getElem? (i := 6) rfl)) O2 P5 (hw _ (List.mem_of_getElem? (i := 169) rfl)) (hw _ (List.mem_of_getElem? (i := 79) rfl)) (hw _ (List.mem_of_getElem? (i := 81) rfl)) (hw _ (List.mem_of_getElem? (i := 80) rfl)) rfl d32_12 (by decide) (by first | decide | exact Nat.le_of_ble_eq_true rfl) (by decide) (by decide) rfl rfl
    rcases Decidable.em (k < c1s.length) with h2 | h2
    · skip
      replace X := X.icmpNo (q := 18) d32_15 (tlt (ofNat_lt h2 (by omega))).2.1 rfl
      replace X := X.aload_n (q := 19) d32_18 rfl rfl rfl
      replace X := X.iload_n (q := 20) d32_19 rfl rfl
      replace X := X.strCh (q := 23) (z := (c1s.getD k 0)) S1 (hch_of hw) (hw _ (List.mem_of_getElem? (i := 6) rfl)) O2 P5 O4 rG3 (hw _ (List.mem_of_getElem? (i := 173) rfl)) (hw _ (List.mem_of_getElem? (i := 174) rfl)) (hw _ (List.mem_of_getElem? (i := 176) rfl)) (hw _ (List.mem_of_getElem? (i := 175) rfl)) (i := k) h2 rfl rfl d32_20 (by decide) (by first | decide | exact Nat.le_of_ble_eq_true rfl) (by decide) (by decide) rfl rfl
      replace X := X.istore (q := 25) (Ls' := #[.val (.ref r0), .val (.ref r1), .val (.ref r2), .val (.int (Int32.ofNat k)), .val (.int (c1s.getD k 0))]) d32_23 rfl rfl
      replace X := X.goto (q := 74) d32_25 (by decide) (by decide)
      replace X := X.aload_n (q := 75) d32_74 rfl rfl rfl
      replace X := X.iload_n (q := 76) d32_75 rfl rfl
      replace X := X.strCh (q := 79) (z := (c1s.getD k 0)) S0 (hch_of hw) (hw _ (List.mem_of_getElem? (i := 6) rfl)) O2 P5 O4 rG3 (hw _ (List.mem_of_getElem? (i := 173) rfl)) (hw _ (List.mem_of_getElem? (i := 174) rfl)) (hw _ (List.mem_of_getElem? (i := 176) rfl)) (hw _ (List.mem_of_getElem? (i := 175) rfl)) (i := k) (by omega) rfl rfl d32_76 (by decide) (by first | decide | exact Nat.le_of_ble_eq_true rfl) (by decide) (by decide) (by rw [at_l (by simp; omega), at_l h2]) rfl
      replace X := X.iload (q := 81) d32_79 rfl rfl
      replace X := X.icmpNo (q := 84) d32_81 (teq rfl).2 rfl
      replace X := X.iconst (q := 85) (z := (1 : Int32)) d32_84 rfl rfl
      replace X := X.goto (q := 89) d32_85 (by decide) (by decide)
      exact X.ireturn hEL hret (Or.inr (Or.inl rfl)) rfl hlk d32_89 (by decide) (by decide) ⟨rfl, rfl⟩
    · skip
      replace X := X.icmpYes (q := 28) d32_15 (flt (ofNat_nlt h2 (by omega))).2.1 (by decide) (by decide)
      replace X := X.iload_n (q := 29) d32_28 rfl rfl
      replace X := X.aload_n (q := 30) d32_29 rfl rfl rfl
      replace X := X.strLen (q := 33) (z := (Int32.ofNat c1s.length)) S1 (hln_of hw) (hw _ (List.mem_of_getElem? (i := 6) rfl)) O2 P5 (hw _ (List.mem_of_getElem? (i := 169) rfl)) (hw _ (List.mem_of_getElem? (i := 79) rfl)) (hw _ (List.mem_of_getElem? (i := 81) rfl)) (hw _ (List.mem_of_getElem? (i := 80) rfl)) rfl d32_30 (by decide) (by first | decide | exact Nat.le_of_ble_eq_true rfl) (by decide) (by decide) rfl rfl
      rcases Decidable.em (k = c1s.length) with h3 | h3
      · skip
        replace X := X.icmpNo (q := 36) d32_33 (teq (by rw [h3])).2 rfl
        replace X := X.bipush (q := 38) (z := (44 : Int32)) d32_36 rfl rfl
        replace X := X.istore (q := 40) (Ls' := #[.val (.ref r0), .val (.ref r1), .val (.ref r2), .val (.int (Int32.ofNat k)), .val (.int (44 : Int32))]) d32_38 rfl rfl
        replace X := X.goto (q := 74) d32_40 (by decide) (by decide)
        replace X := X.aload_n (q := 75) d32_74 rfl rfl rfl
        replace X := X.iload_n (q := 76) d32_75 rfl rfl
        replace X := X.strCh (q := 79) (z := (44 : Int32)) S0 (hch_of hw) (hw _ (List.mem_of_getElem? (i := 6) rfl)) O2 P5 O4 rG3 (hw _ (List.mem_of_getElem? (i := 173) rfl)) (hw _ (List.mem_of_getElem? (i := 174) rfl)) (hw _ (List.mem_of_getElem? (i := 176) rfl)) (hw _ (List.mem_of_getElem? (i := 175) rfl)) (i := k) (by omega) rfl rfl d32_76 (by decide) (by first | decide | exact Nat.le_of_ble_eq_true rfl) (by decide) (by decide) (by rw [at_l (by simp; omega), at_r (by omega), h3, Nat.sub_self]; rfl) rfl
        replace X := X.iload (q := 81) d32_79 rfl rfl
        replace X := X.icmpNo (q := 84) d32_81 (teq rfl).2 rfl
        replace X := X.iconst (q := 85) (z := (1 : Int32)) d32_84 rfl rfl
        replace X := X.goto (q := 89) d32_85 (by decide) (by decide)
        exact X.ireturn hEL hret (Or.inr (Or.inl rfl)) rfl hlk d32_89 (by decide) (by decide) ⟨rfl, rfl⟩
      · skip
        replace X := X.icmpYes (q := 43) d32_33 (feq (ofNat_ne h3 (by omega) (by omega))).2 (by decide) (by decide)
        replace X := X.iload_n (q := 44) d32_43 rfl rfl
        replace X := X.aload_n (q := 45) d32_44 rfl rfl rfl
        replace X := X.strLen (q := 48) (z := (Int32.ofNat c1s.length)) S1 (hln_of hw) (hw _ (List.mem_of_getElem? (i := 6) rfl)) O2 P5 (hw _ (List.mem_of_getElem? (i := 169) rfl)) (hw _ (List.mem_of_getElem? (i := 79) rfl)) (hw _ (List.mem_of_getElem? (i := 81) rfl)) (hw _ (List.mem_of_getElem? (i := 80) rfl)) rfl d32_45 (by decide) (by first | decide | exact Nat.le_of_ble_eq_true rfl) (by decide) (by decide) rfl rfl
        replace X := X.iconst (q := 49) (z := (1 : Int32)) d32_48 rfl rfl
        replace X := X.iadd (q := 50) (z := (Int32.ofNat (c1s.length + 1))) d32_49 (ofNat_succ _) rfl
        rcases Decidable.em (k = c1s.length + 1) with h4 | h4
        · skip
          replace X := X.icmpNo (q := 53) d32_50 (teq (by rw [h4])).2 rfl
          replace X := X.bipush (q := 55) (z := (32 : Int32)) d32_53 rfl rfl
          replace X := X.istore (q := 57) (Ls' := #[.val (.ref r0), .val (.ref r1), .val (.ref r2), .val (.int (Int32.ofNat k)), .val (.int (32 : Int32))]) d32_55 rfl rfl
          replace X := X.goto (q := 74) d32_57 (by decide) (by decide)
          replace X := X.aload_n (q := 75) d32_74 rfl rfl rfl
          replace X := X.iload_n (q := 76) d32_75 rfl rfl
          replace X := X.strCh (q := 79) (z := (32 : Int32)) S0 (hch_of hw) (hw _ (List.mem_of_getElem? (i := 6) rfl)) O2 P5 O4 rG3 (hw _ (List.mem_of_getElem? (i := 173) rfl)) (hw _ (List.mem_of_getElem? (i := 174) rfl)) (hw _ (List.mem_of_getElem? (i := 176) rfl)) (hw _ (List.mem_of_getElem? (i := 175) rfl)) (i := k) (by omega) rfl rfl d32_76 (by decide) (by first | decide | exact Nat.le_of_ble_eq_true rfl) (by decide) (by decide) (by rw [at_l (by simp; omega), at_r (by omega), h4, Nat.add_sub_cancel_left]; rfl) rfl
          replace X := X.iload (q := 81) d32_79 rfl rfl
          replace X := X.icmpNo (q := 84) d32_81 (teq rfl).2 rfl
          replace X := X.iconst (q := 85) (z := (1 : Int32)) d32_84 rfl rfl
          replace X := X.goto (q := 89) d32_85 (by decide) (by decide)
          exact X.ireturn hEL hret (Or.inr (Or.inl rfl)) rfl hlk d32_89 (by decide) (by decide) ⟨rfl, rfl⟩
        · skip
          replace X := X.icmpYes (q := 60) d32_50 (feq (ofNat_ne h4 (by omega) (by omega))).2 (by decide) (by decide)
          replace X := X.aload_n (q := 61) d32_60 rfl rfl rfl
          replace X := X.iload_n (q := 62) d32_61 rfl rfl
          replace X := X.aload_n (q := 63) d32_62 rfl rfl rfl
          replace X := X.strLen (q := 66) (z := (Int32.ofNat c1s.length)) S1 (hln_of hw) (hw _ (List.mem_of_getElem? (i := 6) rfl)) O2 P5 (hw _ (List.mem_of_getElem? (i := 169) rfl)) (hw _ (List.mem_of_getElem? (i := 79) rfl)) (hw _ (List.mem_of_getElem? (i := 81) rfl)) (hw _ (List.mem_of_getElem? (i := 80) rfl)) rfl d32_63 (by decide) (by first | decide | exact Nat.le_of_ble_eq_true rfl) (by decide) (by decide) rfl rfl
          replace X := X.isub (q := 67) (z := (Int32.ofNat (k - c1s.length))) d32_66 (ofNat_sub (by omega) (by omega)) rfl
          replace X := X.iconst (q := 68) (z := (2 : Int32)) d32_67 rfl rfl
          replace X := X.isub (q := 69) (z := (Int32.ofNat (k - c1s.length - 2))) d32_68 (ofNat_sub (j := 2) (by omega) (by omega)) rfl
          replace X := X.strCh (q := 72) (z := (c2s.getD (k - c1s.length - 2) 0)) S2 (hch_of hw) (hw _ (List.mem_of_getElem? (i := 6) rfl)) O2 P5 O4 rG3 (hw _ (List.mem_of_getElem? (i := 173) rfl)) (hw _ (List.mem_of_getElem? (i := 174) rfl)) (hw _ (List.mem_of_getElem? (i := 176) rfl)) (hw _ (List.mem_of_getElem? (i := 175) rfl)) (i := (k - c1s.length - 2)) (by omega) rfl rfl d32_69 (by decide) (by first | decide | exact Nat.le_of_ble_eq_true rfl) (by decide) (by decide) rfl rfl
          replace X := X.istore (q := 74) (Ls' := #[.val (.ref r0), .val (.ref r1), .val (.ref r2), .val (.int (Int32.ofNat k)), .val (.int (c2s.getD (k - c1s.length - 2) 0))]) d32_72 rfl rfl
          replace X := X.aload_n (q := 75) d32_74 rfl rfl rfl
          replace X := X.iload_n (q := 76) d32_75 rfl rfl
          replace X := X.strCh (q := 79) (z := (c2s.getD (k - c1s.length - 2) 0)) S0 (hch_of hw) (hw _ (List.mem_of_getElem? (i := 6) rfl)) O2 P5 O4 rG3 (hw _ (List.mem_of_getElem? (i := 173) rfl)) (hw _ (List.mem_of_getElem? (i := 174) rfl)) (hw _ (List.mem_of_getElem? (i := 176) rfl)) (hw _ (List.mem_of_getElem? (i := 175) rfl)) (i := k) (by omega) rfl rfl d32_76 (by decide) (by first | decide | exact Nat.le_of_ble_eq_true rfl) (by decide) (by decide) (by rw [at_r (by simp; omega)]; congr 1; simp; omega) rfl
          replace X := X.iload (q := 81) d32_79 rfl rfl
          replace X := X.icmpNo (q := 84) d32_81 (teq rfl).2 rfl
          replace X := X.iconst (q := 85) (z := (1 : Int32)) d32_84 rfl rfl
          replace X := X.goto (q := 89) d32_85 (by decide) (by decide)
          exact X.ireturn hEL hret (Or.inr (Or.inl rfl)) rfl hlk d32_89 (by decide) (by decide) ⟨rfl, rfl⟩
set_option maxRecDepth 65536 in
set_option maxHeartbeats 40000000 in
theorem rm_mat {l : Launch} {Z : State} {a0 : Array Value} (hw : ∀ d ∈ tables_1, d.before a0 Z = true) {G1 : Int32} {G3 : Value} (O2 : Sta Z Z.heap "java/lang/String" "COMPACT_STRINGS" "Z" (.int G1)) (P5 : ¬ G1 = 0) (O4 : Sta Z Z.heap "jdk/internal/util/Preconditions" "SIOOBE_FORMATTER" "Ljava/util/function/BiFunction;" G3) (rG3 : G3.isRef = true) {h : Heap} (O : Ext Z.heap h) {r0 r1 r2 : Addr} {c1s c2s : List Int32} (S0 : Str Z h r0 (c1s ++ [44, 32] ++ c2s)) (S1 : Str Z h r1 c1s) (S2 : Str Z h r2 c2s) (l1 : c1s.length ≤ 2) (l2 : c2s.length ≤ 2) :
    Ctr l Z EL0 (⟨"com/example/lectern/lectern/demo/ProfileSaveNetPinLaw", "matches", "(Ljava/lang/String;Ljava/lang/String;Ljava/lang/String;)Z"⟩ : MethodName) method_4_code 3 (some .boolean) [] ({ frames := 5, cells := 0, slots := 0, locals := 80 } : Room) #[(.ref r0), (.ref r1), (.ref r2)] h [] (fun v h' => v = some (.int 1) ∧ h = h') := by
  refine Ctr.of pn6 O ?_
  intro p e s m below meth c s₁ hret hlk hnm X
  have hEL := hEL0 hw
  have KX : Keep h h [] := Keep.refl _ _
  replace X := X.cast (g' := (mkF m 0 #[.val (.ref r0), .val (.ref r1), .val (.ref r2)] [])) (by first | (simp [entryFrame, mkF, argsToLocals, Value.category]; done) | rfl)
  have hL : (c1s ++ [44, 32] ++ c2s).length = c1s.length + 2 + c2s.length := by rw [List.length_append, List.length_append]; rfl
  replace X := X.aload_n (q := 1) d33_0 rfl rfl rfl
  replace X := X.ifnonnullYes (q := 6) d33_1 (by decide) (by decide)
  replace X := X.aload_n (q := 7) d33_6 rfl rfl rfl
  replace X := X.strLen (q := 10) (z := (Int32.ofNat (c1s.length + 2 + c2s.length))) S0 (hln_of hw) (hw _ (List.mem_of_getElem? (i := 6) rfl)) O2 P5 (hw _ (List.mem_of_getElem? (i := 169) rfl)) (hw _ (List.mem_of_getElem? (i := 79) rfl)) (hw _ (List.mem_of_getElem? (i := 81) rfl)) (hw _ (List.mem_of_getElem? (i := 80) rfl)) rfl d33_7 (by decide) (by first | decide | exact Nat.le_of_ble_eq_true rfl) (by decide) (by decide) (by rw [hL]) rfl
  replace X := X.aload_n (q := 11) d33_10 rfl rfl rfl
  replace X := X.strLen (q := 14) (z := (Int32.ofNat c1s.length)) S1 (hln_of hw) (hw _ (List.mem_of_getElem? (i := 6) rfl)) O2 P5 (hw _ (List.mem_of_getElem? (i := 169) rfl)) (hw _ (List.mem_of_getElem? (i := 79) rfl)) (hw _ (List.mem_of_getElem? (i := 81) rfl)) (hw _ (List.mem_of_getElem? (i := 80) rfl)) rfl d33_11 (by decide) (by first | decide | exact Nat.le_of_ble_eq_true rfl) (by decide) (by decide) rfl rfl
  replace X := X.iconst (q := 15) (z := (2 : Int32)) d33_14 rfl rfl
  replace X := X.iadd (q := 16) (z := (Int32.ofNat (c1s.length + 2))) d33_15 (ofNat_add _ 2 (by omega)) rfl
  replace X := X.aload_n (q := 17) d33_16 rfl rfl rfl
  replace X := X.strLen (q := 20) (z := (Int32.ofNat c2s.length)) S2 (hln_of hw) (hw _ (List.mem_of_getElem? (i := 6) rfl)) O2 P5 (hw _ (List.mem_of_getElem? (i := 169) rfl)) (hw _ (List.mem_of_getElem? (i := 79) rfl)) (hw _ (List.mem_of_getElem? (i := 81) rfl)) (hw _ (List.mem_of_getElem? (i := 80) rfl)) rfl d33_17 (by decide) (by first | decide | exact Nat.le_of_ble_eq_true rfl) (by decide) (by decide) rfl rfl
  replace X := X.iadd (q := 21) (z := (Int32.ofNat (c1s.length + 2 + c2s.length))) d33_20 (ofNat_add _ _ (by omega)) rfl
  replace X := X.icmpYes (q := 26) d33_21 (teq rfl).1 (by decide) (by decide)
  replace X := X.aload_n (q := 27) d33_26 rfl rfl rfl
  replace X := X.aload_n (q := 28) d33_27 rfl rfl rfl
  replace X := X.aload_n (q := 29) d33_28 rfl rfl rfl
  replace X := X.iconst (q := 30) (z := (0 : Int32)) d33_29 rfl rfl
  obtain ⟨_, hp1, ⟨rfl, rfl⟩, X⟩ := X.callS (q := 33) (rm_at hw O2 P5 O4 rG3 X.old S0 S1 S2 l1 l2 (k := 0) (by decide)) hEL (fun _ q => nomatch q) (hw _ (List.mem_of_getElem? (i := 170) rfl)) (hw _ (List.mem_of_getElem? (i := 171) rfl)) (hw _ (List.mem_of_getElem? (i := 2) rfl)) (hw _ (List.mem_of_getElem? (i := 172) rfl)) (by decide) pd21 (argsL := [(.ref r0), (.ref r1), (.ref r2), (.int (Int32.ofNat 0))]) (rest := []) rfl rfl rfl rfl d33_30 (by decide) (by first | decide | exact Nat.le_of_ble_eq_true rfl) (by decide) (by decide) rfl
  replace X := X [(.int (1 : Int32))] rfl
  replace X := X.ifNo (q := 36) d33_33 (feq (by decide : ¬ (1 : Int32) = 0)).1 rfl
  replace X := X.aload_n (q := 37) d33_36 rfl rfl rfl
  replace X := X.aload_n (q := 38) d33_37 rfl rfl rfl
  replace X := X.aload_n (q := 39) d33_38 rfl rfl rfl
  replace X := X.iconst (q := 40) (z := (1 : Int32)) d33_39 rfl rfl
  obtain ⟨_, hp2, ⟨rfl, rfl⟩, X⟩ := X.callS (q := 43) (rm_at hw O2 P5 O4 rG3 X.old S0 S1 S2 l1 l2 (k := 1) (by decide)) hEL (fun _ q => nomatch q) (hw _ (List.mem_of_getElem? (i := 170) rfl)) (hw _ (List.mem_of_getElem? (i := 171) rfl)) (hw _ (List.mem_of_getElem? (i := 2) rfl)) (hw _ (List.mem_of_getElem? (i := 172) rfl)) (by decide) pd21 (argsL := [(.ref r0), (.ref r1), (.ref r2), (.int (Int32.ofNat 1))]) (rest := []) rfl rfl rfl rfl d33_40 (by decide) (by first | decide | exact Nat.le_of_ble_eq_true rfl) (by decide) (by decide) rfl
  replace X := X [(.int (1 : Int32))] rfl
  replace X := X.ifNo (q := 46) d33_43 (feq (by decide : ¬ (1 : Int32) = 0)).1 rfl
  replace X := X.aload_n (q := 47) d33_46 rfl rfl rfl
  replace X := X.aload_n (q := 48) d33_47 rfl rfl rfl
  replace X := X.aload_n (q := 49) d33_48 rfl rfl rfl
  replace X := X.iconst (q := 50) (z := (2 : Int32)) d33_49 rfl rfl
  obtain ⟨_, hp3, ⟨rfl, rfl⟩, X⟩ := X.callS (q := 53) (rm_at hw O2 P5 O4 rG3 X.old S0 S1 S2 l1 l2 (k := 2) (by decide)) hEL (fun _ q => nomatch q) (hw _ (List.mem_of_getElem? (i := 170) rfl)) (hw _ (List.mem_of_getElem? (i := 171) rfl)) (hw _ (List.mem_of_getElem? (i := 2) rfl)) (hw _ (List.mem_of_getElem? (i := 172) rfl)) (by decide) pd21 (argsL := [(.ref r0), (.ref r1), (.ref r2), (.int (Int32.ofNat 2))]) (rest := []) rfl rfl rfl rfl d33_50 (by decide) (by first | decide | exact Nat.le_of_ble_eq_true rfl) (by decide) (by decide) rfl
  replace X := X [(.int (1 : Int32))] rfl
  replace X := X.ifNo (q := 56) d33_53 (feq (by decide : ¬ (1 : Int32) = 0)).1 rfl
  replace X := X.aload_n (q := 57) d33_56 rfl rfl rfl
  replace X := X.aload_n (q := 58) d33_57 rfl rfl rfl
  replace X := X.aload_n (q := 59) d33_58 rfl rfl rfl
  replace X := X.iconst (q := 60) (z := (3 : Int32)) d33_59 rfl rfl
  obtain ⟨_, hp4, ⟨rfl, rfl⟩, X⟩ := X.callS (q := 63) (rm_at hw O2 P5 O4 rG3 X.old S0 S1 S2 l1 l2 (k := 3) (by decide)) hEL (fun _ q => nomatch q) (hw _ (List.mem_of_getElem? (i := 170) rfl)) (hw _ (List.mem_of_getElem? (i := 171) rfl)) (hw _ (List.mem_of_getElem? (i := 2) rfl)) (hw _ (List.mem_of_getElem? (i := 172) rfl)) (by decide) pd21 (argsL := [(.ref r0), (.ref r1), (.ref r2), (.int (Int32.ofNat 3))]) (rest := []) rfl rfl rfl rfl d33_60 (by decide) (by first | decide | exact Nat.le_of_ble_eq_true rfl) (by decide) (by decide) rfl
  replace X := X [(.int (1 : Int32))] rfl
  replace X := X.ifNo (q := 66) d33_63 (feq (by decide : ¬ (1 : Int32) = 0)).1 rfl
  replace X := X.aload_n (q := 67) d33_66 rfl rfl rfl
  replace X := X.aload_n (q := 68) d33_67 rfl rfl rfl
  replace X := X.aload_n (q := 69) d33_68 rfl rfl rfl
  replace X := X.iconst (q := 70) (z := (4 : Int32)) d33_69 rfl rfl
  obtain ⟨_, hp5, ⟨rfl, rfl⟩, X⟩ := X.callS (q := 73) (rm_at hw O2 P5 O4 rG3 X.old S0 S1 S2 l1 l2 (k := 4) (by decide)) hEL (fun _ q => nomatch q) (hw _ (List.mem_of_getElem? (i := 170) rfl)) (hw _ (List.mem_of_getElem? (i := 171) rfl)) (hw _ (List.mem_of_getElem? (i := 2) rfl)) (hw _ (List.mem_of_getElem? (i := 172) rfl)) (by decide) pd21 (argsL := [(.ref r0), (.ref r1), (.ref r2), (.int (Int32.ofNat 4))]) (rest := []) rfl rfl rfl rfl d33_70 (by decide) (by first | decide | exact Nat.le_of_ble_eq_true rfl) (by decide) (by decide) rfl
  replace X := X [(.int (1 : Int32))] rfl
  replace X := X.ifNo (q := 76) d33_73 (feq (by decide : ¬ (1 : Int32) = 0)).1 rfl
  replace X := X.aload_n (q := 77) d33_76 rfl rfl rfl
  replace X := X.aload_n (q := 78) d33_77 rfl rfl rfl
  replace X := X.aload_n (q := 79) d33_78 rfl rfl rfl
  replace X := X.iconst (q := 80) (z := (5 : Int32)) d33_79 rfl rfl
  obtain ⟨_, hp6, ⟨rfl, rfl⟩, X⟩ := X.callS (q := 83) (rm_at hw O2 P5 O4 rG3 X.old S0 S1 S2 l1 l2 (k := 5) (by decide)) hEL (fun _ q => nomatch q) (hw _ (List.mem_of_getElem? (i := 170) rfl)) (hw _ (List.mem_of_getElem? (i := 171) rfl)) (hw _ (List.mem_of_getElem? (i := 2) rfl)) (hw _ (List.mem_of_getElem? (i := 172) rfl)) (by decide) pd21 (argsL := [(.ref r0), (.ref r1), (.ref r2), (.int (Int32.ofNat 5))]) (rest := []) rfl rfl rfl rfl d33_80 (by decide) (by first | decide | exact Nat.le_of_ble_eq_true rfl) (by decide) (by decide) rfl
  replace X := X [(.int (1 : Int32))] rfl
  replace X := X.ifNo (q := 86) d33_83 (feq (by decide : ¬ (1 : Int32) = 0)).1 rfl
  replace X := X.iconst (q := 87) (z := (1 : Int32)) d33_86 rfl rfl
  replace X := X.goto (q := 91) d33_87 (by decide) (by decide)
  exact X.ireturn hEL hret (Or.inr (Or.inl rfl)) rfl hlk d33_91 (by decide) (by decide) ⟨rfl, rfl⟩
set_option maxRecDepth 65536 in
set_option maxHeartbeats 40000000 in
theorem rm_eq {l : Launch} {Z : State} {a0 : Array Value} (hw : ∀ d ∈ tables_1, d.before a0 Z = true) {G1 : Int32} {G3 : Value} (O2 : Sta Z Z.heap "java/lang/String" "COMPACT_STRINGS" "Z" (.int G1)) (P5 : ¬ G1 = 0) (O4 : Sta Z Z.heap "jdk/internal/util/Preconditions" "SIOOBE_FORMATTER" "Ljava/util/function/BiFunction;" G3) (rG3 : G3.isRef = true) {h : Heap} (O : Ext Z.heap h) {a : Addr} :
    Ctr l Z EL0 (⟨"java/lang/String", "equals", "(Ljava/lang/Object;)Z"⟩ : MethodName) jdk_42_method_66_code 3 (some .boolean) [] ({ frames := 0, cells := 0, slots := 0, locals := 0 } : Room) #[(.ref a), (.ref a)] h [] (fun v h' => v = some (.int 1) ∧ h = h') := by
  refine Ctr.of pn2 O ?_
  intro p e s m below meth c s₁ hret hlk hnm X
  have hEL := hEL0 hw
  have KX : Keep h h [] := Keep.refl _ _
  replace X := X.cast (g' := (mkF m 0 #[.val (.ref a), .val (.ref a), .unset] [])) (by first | (simp [entryFrame, mkF, argsToLocals, Value.category]; done) | rfl)
  replace X := X.aload_n (q := 1) d34_0 rfl rfl rfl
  replace X := X.aload_n (q := 2) d34_1 rfl rfl rfl
  replace X := X.acmpNo (q := 5) d34_2 rfl rfl (by simp [XT.acmp]) rfl
  replace X := X.iconst (q := 6) (z := (1 : Int32)) d34_5 rfl rfl
  exact X.ireturn hEL hret (Or.inr (Or.inl rfl)) rfl hlk d34_6 (by decide) (by decide) ⟨rfl, rfl⟩
set_option maxRecDepth 65536 in
set_option maxHeartbeats 40000000 in
theorem rm_law {l : Launch} {Z : State} {a0 : Array Value} (hw : ∀ d ∈ tables_1, d.before a0 Z = true) {G1 : Int32} {G3 : Value} (O2 : Sta Z Z.heap "java/lang/String" "COMPACT_STRINGS" "Z" (.int G1)) (P5 : ¬ G1 = 0) (O4 : Sta Z Z.heap "jdk/internal/util/Preconditions" "SIOOBE_FORMATTER" "Ljava/util/function/BiFunction;" G3) (rG3 : G3.isRef = true) {h : Heap} (O : Ext Z.heap h) {p0 p1 p2 p3 p4 : Int32} :
    Ctr l Z EL0 x code maxLocals ret tables_1 room_1 #[(.int p0), (.int p1), (.int p2), (.int p3), (.int p4)] h [] (fun v h' => v = some (.int 1)) := by
  refine Ctr.of pn6 O ?_
  intro p e s m below meth c s₁ hret hlk hnm X
  have hEL := hEL0 hw
  have KX : Keep h h [] := Keep.refl _ _
  replace X := X.cast (g' := (mkF m 0 #[.val (.int p0), .val (.int p1), .val (.int p2), .val (.int p3), .val (.int p4), .unset, .unset, .unset, .unset, .unset, .unset, .unset, .unset, .unset, .unset] [])) (by first | (simp [entryFrame, mkF, argsToLocals, Value.category, maxLocals]; done) | rfl)
  replace X := X.iload_n (q := 1) at_0 rfl rfl
  replace X := X.iload (q := 3) at_1 rfl rfl
  replace X := X.iconst (q := 4) (z := (3 : Int32)) at_3 rfl rfl
  replace X := X.iand (q := 5) (z := (p4 &&& (3 : Int32))) at_4 rfl rfl
  replace X := X.iconst (q := 6) (z := (3 : Int32)) at_5 rfl rfl
  replace X := X.irem (q := 7) (z := ((p4 &&& (3 : Int32)) % (3 : Int32))) at_6 (by decide) rfl rfl
  obtain ⟨_, hp1, ⟨r0, z0s, rfl, K0, S0, L0⟩, X⟩ := X.callS (q := 10) (rm_str hw O2 P5 O4 rG3 X.old (mod3 _)) hEL (fun _ q => nomatch q) (hw _ (List.mem_of_getElem? (i := 0) rfl)) (hw _ (List.mem_of_getElem? (i := 1) rfl)) (hw _ (List.mem_of_getElem? (i := 2) rfl)) (hw _ (List.mem_of_getElem? (i := 3) rfl)) (by decide) pd22 (argsL := [(.int p0), (.int ((p4 &&& (3 : Int32)) % (3 : Int32)))]) (rest := []) rfl rfl rfl rfl at_7 (by decide) (by first | decide | exact Nat.le_of_ble_eq_true rfl) (by decide) (by decide) rfl
  replace X := X [(.ref r0)] rfl
  replace KX := KX.trans K0 (fun _ q => nomatch q)
  replace X := X.astore (q := 12) (Ls' := #[.val (.int p0), .val (.int p1), .val (.int p2), .val (.int p3), .val (.int p4), .val (.ref r0), .unset, .unset, .unset, .unset, .unset, .unset, .unset, .unset, .unset]) at_10 rfl rfl rfl
  replace X := X.iload_n (q := 13) at_12 rfl rfl
  replace X := X.iload (q := 15) at_13 rfl rfl
  replace X := X.iconst (q := 16) (z := (2 : Int32)) at_15 rfl rfl
  replace X := X.iushr (q := 17) (z := (XT.ushr p4 (2 : Int32))) at_16 rfl rfl
  replace X := X.iconst (q := 18) (z := (3 : Int32)) at_17 rfl rfl
  replace X := X.iand (q := 19) (z := ((XT.ushr p4 (2 : Int32)) &&& (3 : Int32))) at_18 rfl rfl
  replace X := X.iconst (q := 20) (z := (3 : Int32)) at_19 rfl rfl
  replace X := X.irem (q := 21) (z := (((XT.ushr p4 (2 : Int32)) &&& (3 : Int32)) % (3 : Int32))) at_20 (by decide) rfl rfl
  obtain ⟨_, hp2, ⟨r1, z1s, rfl, K1, S1, L1⟩, X⟩ := X.callS (q := 24) (rm_str hw O2 P5 O4 rG3 X.old (mod3 _)) hEL (fun _ q => nomatch q) (hw _ (List.mem_of_getElem? (i := 0) rfl)) (hw _ (List.mem_of_getElem? (i := 1) rfl)) (hw _ (List.mem_of_getElem? (i := 2) rfl)) (hw _ (List.mem_of_getElem? (i := 3) rfl)) (by decide) pd22 (argsL := [(.int p1), (.int (((XT.ushr p4 (2 : Int32)) &&& (3 : Int32)) % (3 : Int32)))]) (rest := []) rfl rfl rfl rfl at_21 (by decide) (by first | decide | exact Nat.le_of_ble_eq_true rfl) (by decide) (by decide) rfl
  replace X := X [(.ref r1)] rfl
  replace KX := KX.trans K1 (fun _ q => nomatch q)
  replace S0 := S0.keep K1 (fun _ q => nomatch q)
  replace X := X.astore (q := 26) (Ls' := #[.val (.int p0), .val (.int p1), .val (.int p2), .val (.int p3), .val (.int p4), .val (.ref r0), .val (.ref r1), .unset, .unset, .unset, .unset, .unset, .unset, .unset, .unset]) at_24 rfl rfl rfl
  replace X := X.iload_n (q := 27) at_26 rfl rfl
  replace X := X.iload (q := 29) at_27 rfl rfl
  replace X := X.iconst (q := 30) (z := (4 : Int32)) at_29 rfl rfl
  replace X := X.iushr (q := 31) (z := (XT.ushr p4 (4 : Int32))) at_30 rfl rfl
  replace X := X.iconst (q := 32) (z := (3 : Int32)) at_31 rfl rfl
  replace X := X.iand (q := 33) (z := ((XT.ushr p4 (4 : Int32)) &&& (3 : Int32))) at_32 rfl rfl
  replace X := X.iconst (q := 34) (z := (3 : Int32)) at_33 rfl rfl
  replace X := X.irem (q := 35) (z := (((XT.ushr p4 (4 : Int32)) &&& (3 : Int32)) % (3 : Int32))) at_34 (by decide) rfl rfl
  obtain ⟨_, hp3, ⟨r2, z2s, rfl, K2, S2, L2⟩, X⟩ := X.callS (q := 38) (rm_str hw O2 P5 O4 rG3 X.old (mod3 _)) hEL (fun _ q => nomatch q) (hw _ (List.mem_of_getElem? (i := 0) rfl)) (hw _ (List.mem_of_getElem? (i := 1) rfl)) (hw _ (List.mem_of_getElem? (i := 2) rfl)) (hw _ (List.mem_of_getElem? (i := 3) rfl)) (by decide) pd22 (argsL := [(.int p2), (.int (((XT.ushr p4 (4 : Int32)) &&& (3 : Int32)) % (3 : Int32)))]) (rest := []) rfl rfl rfl rfl at_35 (by decide) (by first | decide | exact Nat.le_of_ble_eq_true rfl) (by decide) (by decide) rfl
  replace X := X [(.ref r2)] rfl
  replace KX := KX.trans K2 (fun _ q => nomatch q)
  replace S0 := S0.keep K2 (fun _ q => nomatch q)
  replace S1 := S1.keep K2 (fun _ q => nomatch q)
  replace X := X.astore (q := 40) (Ls' := #[.val (.int p0), .val (.int p1), .val (.int p2), .val (.int p3), .val (.int p4), .val (.ref r0), .val (.ref r1), .val (.ref r2), .unset, .unset, .unset, .unset, .unset, .unset, .unset]) at_38 rfl rfl rfl
  replace X := X.iload_n (q := 41) at_40 rfl rfl
  replace X := X.iload (q := 43) at_41 rfl rfl
  replace X := X.bipush (q := 45) (z := (6 : Int32)) at_43 rfl rfl
  replace X := X.iushr (q := 46) (z := (XT.ushr p4 (6 : Int32))) at_45 rfl rfl
  replace X := X.iconst (q := 47) (z := (3 : Int32)) at_46 rfl rfl
  replace X := X.iand (q := 48) (z := ((XT.ushr p4 (6 : Int32)) &&& (3 : Int32))) at_47 rfl rfl
  replace X := X.iconst (q := 49) (z := (3 : Int32)) at_48 rfl rfl
  replace X := X.irem (q := 50) (z := (((XT.ushr p4 (6 : Int32)) &&& (3 : Int32)) % (3 : Int32))) at_49 (by decide) rfl rfl
  obtain ⟨_, hp4, ⟨r3, z3s, rfl, K3, S3, L3⟩, X⟩ := X.callS (q := 53) (rm_str hw O2 P5 O4 rG3 X.old (mod3 _)) hEL (fun _ q => nomatch q) (hw _ (List.mem_of_getElem? (i := 0) rfl)) (hw _ (List.mem_of_getElem? (i := 1) rfl)) (hw _ (List.mem_of_getElem? (i := 2) rfl)) (hw _ (List.mem_of_getElem? (i := 3) rfl)) (by decide) pd22 (argsL := [(.int p3), (.int (((XT.ushr p4 (6 : Int32)) &&& (3 : Int32)) % (3 : Int32)))]) (rest := []) rfl rfl rfl rfl at_50 (by decide) (by first | decide | exact Nat.le_of_ble_eq_true rfl) (by decide) (by decide) rfl
  replace X := X [(.ref r3)] rfl
  replace KX := KX.trans K3 (fun _ q => nomatch q)
  replace S0 := S0.keep K3 (fun _ q => nomatch q)
  replace S1 := S1.keep K3 (fun _ q => nomatch q)
  replace S2 := S2.keep K3 (fun _ q => nomatch q)
  replace X := X.astore (q := 55) (Ls' := #[.val (.int p0), .val (.int p1), .val (.int p2), .val (.int p3), .val (.int p4), .val (.ref r0), .val (.ref r1), .val (.ref r2), .val (.ref r3), .unset, .unset, .unset, .unset, .unset, .unset]) at_53 rfl rfl rfl
  obtain ⟨o1, hp5, go1, no1, E6, Ao1, Do1, X⟩ := X.new (C := "com/example/lectern/lectern/demo/Profile") (q := 58) (hw _ (List.mem_of_getElem? (i := 12) rfl)) (hw _ (List.mem_of_getElem? (i := 13) rfl)) (hw _ (List.mem_of_getElem? (i := 14) rfl)) at_55 rfl (by decide) (by decide)
  have s_o1 : h.size ≤ o1 := by rw [go1]; exact KX.1
  have ne_r0_o1 : r0 ≠ o1 := by rw [go1]; exact Nat.ne_of_lt S0.lt
  have ne_r1_o1 : r1 ≠ o1 := by rw [go1]; exact Nat.ne_of_lt S1.lt
  have ne_r2_o1 : r2 ≠ o1 := by rw [go1]; exact Nat.ne_of_lt S2.lt
  have ne_r3_o1 : r3 ≠ o1 := by rw [go1]; exact Nat.ne_of_lt S3.lt
  replace KX := KX.ext E6
  replace S0 := S0.ext E6
  replace S1 := S1.ext E6
  replace S2 := S2.ext E6
  replace S3 := S3.ext E6
  have Fo1_nickname := Do1 (Or.inl (hw _ (List.mem_of_getElem? (i := 23) rfl))) (ty := (.object "java/lang/String")) (by decide)
  have Fo1_age := Do1 (Or.inl (hw _ (List.mem_of_getElem? (i := 25) rfl))) (ty := (.object "java/lang/String")) (by decide)
  have Fo1_savedNickname := Do1 (Or.inl (hw _ (List.mem_of_getElem? (i := 42) rfl))) (ty := (.object "java/lang/String")) (by decide)
  have Fo1_savedAge := Do1 (Or.inl (hw _ (List.mem_of_getElem? (i := 44) rfl))) (ty := (.object "java/lang/String")) (by decide)
  replace X := X.dup (q := 59) at_58 rfl rfl
  have N7 : ∀ x ∈ [o1], Nst Z _ x := fun x q => by cases List.mem_singleton.mp q; exact Nst.exa Ao1 (by decide) (hw _ (List.mem_of_getElem? (i := 13) rfl))
  obtain ⟨_, hp8, ⟨rfl, K5, x1, x2, Fo1_nickname', Fo1_age', Fo1_savedNickname', Fo1_savedAge'⟩, X⟩ := X.callI (q := 62) (rm_pinit hw O2 P5 O4 rG3 X.old Ao1 Fo1_nickname Fo1_age Fo1_savedNickname Fo1_savedAge no1) hEL (fun _ q => nomatch q) rfl (hw _ (List.mem_of_getElem? (i := 15) rfl)) (hw _ (List.mem_of_getElem? (i := 16) rfl)) (hw _ (List.mem_of_getElem? (i := 14) rfl)) (hw _ (List.mem_of_getElem? (i := 17) rfl)) (by decide) pd14 (a := o1) (argsL := []) (rest := [(.ref o1)]) rfl rfl rfl rfl at_59 (by decide) (by first | decide | exact Nat.le_of_ble_eq_true rfl) (by decide) (by decide) rfl
  replace X := X [(.ref o1)] rfl
  replace Ao1 := Ao1.keep K5
  replace KX := KX.trans K5 (fun x q => by cases List.mem_singleton.mp q; exact Or.inr s_o1)
  replace Fo1_nickname := Fo1_nickname'
  replace Fo1_age := Fo1_age'
  replace Fo1_savedNickname := Fo1_savedNickname'
  replace Fo1_savedAge := Fo1_savedAge'
  replace S0 := S0.keep K5 N7
  replace S1 := S1.keep K5 N7
  replace S2 := S2.keep K5 N7
  replace S3 := S3.keep K5 N7
  replace X := X.astore (q := 64) (Ls' := #[.val (.int p0), .val (.int p1), .val (.int p2), .val (.int p3), .val (.int p4), .val (.ref r0), .val (.ref r1), .val (.ref r2), .val (.ref r3), .val (.ref o1), .unset, .unset, .unset, .unset, .unset]) at_62 rfl rfl rfl
  replace X := X.aload (q := 66) at_64 rfl rfl rfl
  replace X := X.aload (q := 68) at_66 rfl rfl rfl
  have N9 : ∀ x ∈ [o1], Nst Z _ x := fun x q => by cases List.mem_singleton.mp q; exact Nst.exa Ao1 (by decide) (hw _ (List.mem_of_getElem? (i := 13) rfl))
  obtain ⟨_, hp10, ⟨rfl, K6, Fo1_nickname', Fo1_age', Fo1_savedNickname', Fo1_savedAge'⟩, X⟩ := X.callV (q := 71) (rm_setn hw O2 P5 O4 rG3 X.old (q := r0) Ao1 Fo1_nickname Fo1_age Fo1_savedNickname Fo1_savedAge no1) hEL (fun _ q => nomatch q) (hw _ (List.mem_of_getElem? (i := 26) rfl)) (hw _ (List.mem_of_getElem? (i := 27) rfl)) (hw _ (List.mem_of_getElem? (i := 29) rfl)) (hw _ (List.mem_of_getElem? (i := 29) rfl)) (hw _ (List.mem_of_getElem? (i := 28) rfl)) (hw _ (List.mem_of_getElem? (i := 14) rfl)) (hw _ (List.mem_of_getElem? (i := 30) rfl)) (by decide) pd3 Ao1 (argsL := [(.ref r0)]) (rest := []) rfl rfl rfl rfl at_68 (by decide) (by first | decide | exact Nat.le_of_ble_eq_true rfl) (by decide) (by decide) rfl
  replace X := X [] rfl
  replace Ao1 := Ao1.keep K6
  replace KX := KX.trans K6 (fun x q => by cases List.mem_singleton.mp q; exact Or.inr s_o1)
  replace Fo1_nickname := Fo1_nickname'
  replace Fo1_age := Fo1_age'
  replace Fo1_savedNickname := Fo1_savedNickname'
  replace Fo1_savedAge := Fo1_savedAge'
  replace S0 := S0.keep K6 N9
  replace S1 := S1.keep K6 N9
  replace S2 := S2.keep K6 N9
  replace S3 := S3.keep K6 N9
  replace X := X.aload (q := 73) at_71 rfl rfl rfl
  replace X := X.aload (q := 75) at_73 rfl rfl rfl
  have N11 : ∀ x ∈ [o1], Nst Z _ x := fun x q => by cases List.mem_singleton.mp q; exact Nst.exa Ao1 (by decide) (hw _ (List.mem_of_getElem? (i := 13) rfl))
  obtain ⟨_, hp12, ⟨rfl, K7, Fo1_nickname', Fo1_age', Fo1_savedNickname', Fo1_savedAge'⟩, X⟩ := X.callV (q := 78) (rm_seta hw O2 P5 O4 rG3 X.old (q := r1) Ao1 Fo1_nickname Fo1_age Fo1_savedNickname Fo1_savedAge no1) hEL (fun _ q => nomatch q) (hw _ (List.mem_of_getElem? (i := 31) rfl)) (hw _ (List.mem_of_getElem? (i := 32) rfl)) (hw _ (List.mem_of_getElem? (i := 34) rfl)) (hw _ (List.mem_of_getElem? (i := 34) rfl)) (hw _ (List.mem_of_getElem? (i := 33) rfl)) (hw _ (List.mem_of_getElem? (i := 14) rfl)) (hw _ (List.mem_of_getElem? (i := 35) rfl)) (by decide) pd3 Ao1 (argsL := [(.ref r1)]) (rest := []) rfl rfl rfl rfl at_75 (by decide) (by first | decide | exact Nat.le_of_ble_eq_true rfl) (by decide) (by decide) rfl
  replace X := X [] rfl
  replace Ao1 := Ao1.keep K7
  replace KX := KX.trans K7 (fun x q => by cases List.mem_singleton.mp q; exact Or.inr s_o1)
  replace Fo1_nickname := Fo1_nickname'
  replace Fo1_age := Fo1_age'
  replace Fo1_savedNickname := Fo1_savedNickname'
  replace Fo1_savedAge := Fo1_savedAge'
  replace S0 := S0.keep K7 N11
  replace S1 := S1.keep K7 N11
  replace S2 := S2.keep K7 N11
  replace S3 := S3.keep K7 N11
  replace X := X.aload (q := 80) at_78 rfl rfl rfl
  have N13 : ∀ x ∈ [o1], Nst Z _ x := fun x q => by cases List.mem_singleton.mp q; exact Nst.exa Ao1 (by decide) (hw _ (List.mem_of_getElem? (i := 13) rfl))
  obtain ⟨_, hp14, ⟨rfl, K8, Fo1_nickname', Fo1_age', Fo1_savedNickname', Fo1_savedAge'⟩, X⟩ := X.callV (q := 83) (rm_save hw O2 P5 O4 rG3 X.old Ao1 Fo1_nickname Fo1_age Fo1_savedNickname Fo1_savedAge no1) hEL (fun _ q => nomatch q) (hw _ (List.mem_of_getElem? (i := 36) rfl)) (hw _ (List.mem_of_getElem? (i := 37) rfl)) (hw _ (List.mem_of_getElem? (i := 39) rfl)) (hw _ (List.mem_of_getElem? (i := 39) rfl)) (hw _ (List.mem_of_getElem? (i := 38) rfl)) (hw _ (List.mem_of_getElem? (i := 14) rfl)) (hw _ (List.mem_of_getElem? (i := 40) rfl)) (by decide) pd14 Ao1 (argsL := []) (rest := []) rfl rfl rfl rfl at_80 (by decide) (by first | decide | exact Nat.le_of_ble_eq_true rfl) (by decide) (by decide) rfl
  replace X := X [] rfl
  replace Ao1 := Ao1.keep K8
  replace KX := KX.trans K8 (fun x q => by cases List.mem_singleton.mp q; exact Or.inr s_o1)
  replace Fo1_nickname := Fo1_nickname'
  replace Fo1_age := Fo1_age'
  replace Fo1_savedNickname := Fo1_savedNickname'
  replace Fo1_savedAge := Fo1_savedAge'
  replace S0 := S0.keep K8 N13
  replace S1 := S1.keep K8 N13
  replace S2 := S2.keep K8 N13
  replace S3 := S3.keep K8 N13
  replace X := X.aload (q := 85) at_83 rfl rfl rfl
  obtain ⟨_, hp15, ⟨t1, rfl, K9, Qt1⟩, X⟩ := X.callV (q := 88) (rm_saved hw O2 P5 O4 rG3 X.old Ao1 Fo1_savedNickname Fo1_savedAge S0 S1 L0 L1) hEL (fun _ q => nomatch q) (hw _ (List.mem_of_getElem? (i := 45) rfl)) (hw _ (List.mem_of_getElem? (i := 46) rfl)) (hw _ (List.mem_of_getElem? (i := 48) rfl)) (hw _ (List.mem_of_getElem? (i := 48) rfl)) (hw _ (List.mem_of_getElem? (i := 47) rfl)) (hw _ (List.mem_of_getElem? (i := 14) rfl)) (hw _ (List.mem_of_getElem? (i := 49) rfl)) (by decide) pd16 Ao1 (argsL := []) (rest := []) rfl rfl rfl rfl at_85 (by decide) (by first | decide | exact Nat.le_of_ble_eq_true rfl) (by decide) (by decide) rfl
  replace X := X [(.ref t1)] rfl
  replace KX := KX.trans K9 (fun _ q => nomatch q)
  replace Ao1 := Ao1.keep K9
  replace Fo1_nickname := Fo1_nickname.keep K9 nin0
  replace Fo1_age := Fo1_age.keep K9 nin0
  replace Fo1_savedNickname := Fo1_savedNickname.keep K9 nin0
  replace Fo1_savedAge := Fo1_savedAge.keep K9 nin0
  replace S0 := S0.keep K9 (fun _ q => nomatch q)
  replace S1 := S1.keep K9 (fun _ q => nomatch q)
  replace S2 := S2.keep K9 (fun _ q => nomatch q)
  replace S3 := S3.keep K9 (fun _ q => nomatch q)
  replace X := X.astore (q := 90) (Ls' := #[.val (.int p0), .val (.int p1), .val (.int p2), .val (.int p3), .val (.int p4), .val (.ref r0), .val (.ref r1), .val (.ref r2), .val (.ref r3), .val (.ref o1), .val (.ref t1), .unset, .unset, .unset, .unset]) at_88 rfl rfl rfl
  replace X := X.aload (q := 92) at_90 rfl rfl rfl
  replace X := X.aload (q := 94) at_92 rfl rfl rfl
  replace X := X.aload (q := 96) at_94 rfl rfl rfl
  obtain ⟨_, hp16, ⟨rfl, rfl⟩, X⟩ := X.callS (q := 99) (rm_mat hw O2 P5 O4 rG3 X.old Qt1 S0 S1 L0 L1) hEL (fun _ q => nomatch q) (hw _ (List.mem_of_getElem? (i := 166) rfl)) (hw _ (List.mem_of_getElem? (i := 167) rfl)) (hw _ (List.mem_of_getElem? (i := 2) rfl)) (hw _ (List.mem_of_getElem? (i := 168) rfl)) (by decide) pd23 (argsL := [(.ref t1), (.ref r0), (.ref r1)]) (rest := []) rfl rfl rfl rfl at_96 (by decide) (by first | decide | exact Nat.le_of_ble_eq_true rfl) (by decide) (by decide) rfl
  replace X := X [(.int (1 : Int32))] rfl
  replace X := X.istore (q := 101) (Ls' := #[.val (.int p0), .val (.int p1), .val (.int p2), .val (.int p3), .val (.int p4), .val (.ref r0), .val (.ref r1), .val (.ref r2), .val (.ref r3), .val (.ref o1), .val (.ref t1), .val (.int (1 : Int32)), .unset, .unset, .unset]) at_99 rfl rfl
  replace X := X.aload (q := 103) at_101 rfl rfl rfl
  replace X := X.aload (q := 105) at_103 rfl rfl rfl
  obtain ⟨_, hp17, ⟨rfl, rfl⟩, X⟩ := X.callV (q := 108) (rm_nick hw O2 P5 O4 rG3 X.old Fo1_nickname) hEL (fun _ q => nomatch q) (hw _ (List.mem_of_getElem? (i := 195) rfl)) (hw _ (List.mem_of_getElem? (i := 196) rfl)) (hw _ (List.mem_of_getElem? (i := 198) rfl)) (hw _ (List.mem_of_getElem? (i := 198) rfl)) (hw _ (List.mem_of_getElem? (i := 197) rfl)) (hw _ (List.mem_of_getElem? (i := 14) rfl)) (hw _ (List.mem_of_getElem? (i := 199) rfl)) (by decide) pd16 Ao1 (argsL := []) (rest := [(.ref r0)]) rfl rfl rfl rfl at_105 (by decide) (by first | decide | exact Nat.le_of_ble_eq_true rfl) (by decide) (by decide) rfl
  replace X := X [(.ref r0), (.ref r0)] rfl
  obtain ⟨_, hp18, ⟨rfl, rfl⟩, X⟩ := X.callV (q := 111) (rm_eq hw O2 P5 O4 rG3 X.old (a := r0)) hEL (fun _ q => nomatch q) (hw _ (List.mem_of_getElem? (i := 200) rfl)) (hw _ (List.mem_of_getElem? (i := 201) rfl)) (hw _ (List.mem_of_getElem? (i := 203) rfl)) (hw _ (List.mem_of_getElem? (i := 203) rfl)) (hw _ (List.mem_of_getElem? (i := 202) rfl)) (hw _ (List.mem_of_getElem? (i := 5) rfl)) (hw _ (List.mem_of_getElem? (i := 204) rfl)) (by decide) pd24 S0.exa (argsL := [(.ref r0)]) (rest := []) rfl rfl rfl rfl at_108 (by decide) (by first | decide | exact Nat.le_of_ble_eq_true rfl) (by decide) (by decide) rfl
  replace X := X [(.int (1 : Int32))] rfl
  replace X := X.ifNo (q := 114) at_111 (feq (by decide : ¬ (1 : Int32) = 0)).1 rfl
  replace X := X.aload (q := 116) at_114 rfl rfl rfl
  replace X := X.aload (q := 118) at_116 rfl rfl rfl
  obtain ⟨_, hp19, ⟨rfl, rfl⟩, X⟩ := X.callV (q := 121) (rm_age hw O2 P5 O4 rG3 X.old Fo1_age) hEL (fun _ q => nomatch q) (hw _ (List.mem_of_getElem? (i := 205) rfl)) (hw _ (List.mem_of_getElem? (i := 206) rfl)) (hw _ (List.mem_of_getElem? (i := 208) rfl)) (hw _ (List.mem_of_getElem? (i := 208) rfl)) (hw _ (List.mem_of_getElem? (i := 207) rfl)) (hw _ (List.mem_of_getElem? (i := 14) rfl)) (hw _ (List.mem_of_getElem? (i := 209) rfl)) (by decide) pd16 Ao1 (argsL := []) (rest := [(.ref r1)]) rfl rfl rfl rfl at_118 (by decide) (by first | decide | exact Nat.le_of_ble_eq_true rfl) (by decide) (by decide) rfl
  replace X := X [(.ref r1), (.ref r1)] rfl
  obtain ⟨_, hp20, ⟨rfl, rfl⟩, X⟩ := X.callV (q := 124) (rm_eq hw O2 P5 O4 rG3 X.old (a := r1)) hEL (fun _ q => nomatch q) (hw _ (List.mem_of_getElem? (i := 200) rfl)) (hw _ (List.mem_of_getElem? (i := 201) rfl)) (hw _ (List.mem_of_getElem? (i := 203) rfl)) (hw _ (List.mem_of_getElem? (i := 203) rfl)) (hw _ (List.mem_of_getElem? (i := 202) rfl)) (hw _ (List.mem_of_getElem? (i := 5) rfl)) (hw _ (List.mem_of_getElem? (i := 204) rfl)) (by decide) pd24 S1.exa (argsL := [(.ref r1)]) (rest := []) rfl rfl rfl rfl at_121 (by decide) (by first | decide | exact Nat.le_of_ble_eq_true rfl) (by decide) (by decide) rfl
  replace X := X [(.int (1 : Int32))] rfl
  replace X := X.ifNo (q := 127) at_124 (feq (by decide : ¬ (1 : Int32) = 0)).1 rfl
  replace X := X.iconst (q := 128) (z := (1 : Int32)) at_127 rfl rfl
  replace X := X.goto (q := 132) at_128 (by decide) (by decide)
  replace X := X.istore (q := 134) (Ls' := #[.val (.int p0), .val (.int p1), .val (.int p2), .val (.int p3), .val (.int p4), .val (.ref r0), .val (.ref r1), .val (.ref r2), .val (.ref r3), .val (.ref o1), .val (.ref t1), .val (.int (1 : Int32)), .val (.int (1 : Int32)), .unset, .unset]) at_132 rfl rfl
  replace X := X.aload (q := 136) at_134 rfl rfl rfl
  replace X := X.aload (q := 138) at_136 rfl rfl rfl
  have N21 : ∀ x ∈ [o1], Nst Z _ x := fun x q => by cases List.mem_singleton.mp q; exact Nst.exa Ao1 (by decide) (hw _ (List.mem_of_getElem? (i := 13) rfl))
  obtain ⟨_, hp22, ⟨rfl, K10, Fo1_nickname', Fo1_age', Fo1_savedNickname', Fo1_savedAge'⟩, X⟩ := X.callV (q := 141) (rm_setn hw O2 P5 O4 rG3 X.old (q := r2) Ao1 Fo1_nickname Fo1_age Fo1_savedNickname Fo1_savedAge no1) hEL (fun _ q => nomatch q) (hw _ (List.mem_of_getElem? (i := 26) rfl)) (hw _ (List.mem_of_getElem? (i := 27) rfl)) (hw _ (List.mem_of_getElem? (i := 29) rfl)) (hw _ (List.mem_of_getElem? (i := 29) rfl)) (hw _ (List.mem_of_getElem? (i := 28) rfl)) (hw _ (List.mem_of_getElem? (i := 14) rfl)) (hw _ (List.mem_of_getElem? (i := 30) rfl)) (by decide) pd3 Ao1 (argsL := [(.ref r2)]) (rest := []) rfl rfl rfl rfl at_138 (by decide) (by first | decide | exact Nat.le_of_ble_eq_true rfl) (by decide) (by decide) rfl
  replace X := X [] rfl
  replace Ao1 := Ao1.keep K10
  replace KX := KX.trans K10 (fun x q => by cases List.mem_singleton.mp q; exact Or.inr s_o1)
  replace Fo1_nickname := Fo1_nickname'
  replace Fo1_age := Fo1_age'
  replace Fo1_savedNickname := Fo1_savedNickname'
  replace Fo1_savedAge := Fo1_savedAge'
  replace S0 := S0.keep K10 N21
  replace S1 := S1.keep K10 N21
  replace S2 := S2.keep K10 N21
  replace S3 := S3.keep K10 N21
  replace X := X.aload (q := 143) at_141 rfl rfl rfl
  replace X := X.aload (q := 145) at_143 rfl rfl rfl
  have N23 : ∀ x ∈ [o1], Nst Z _ x := fun x q => by cases List.mem_singleton.mp q; exact Nst.exa Ao1 (by decide) (hw _ (List.mem_of_getElem? (i := 13) rfl))
  obtain ⟨_, hp24, ⟨rfl, K11, Fo1_nickname', Fo1_age', Fo1_savedNickname', Fo1_savedAge'⟩, X⟩ := X.callV (q := 148) (rm_seta hw O2 P5 O4 rG3 X.old (q := r3) Ao1 Fo1_nickname Fo1_age Fo1_savedNickname Fo1_savedAge no1) hEL (fun _ q => nomatch q) (hw _ (List.mem_of_getElem? (i := 31) rfl)) (hw _ (List.mem_of_getElem? (i := 32) rfl)) (hw _ (List.mem_of_getElem? (i := 34) rfl)) (hw _ (List.mem_of_getElem? (i := 34) rfl)) (hw _ (List.mem_of_getElem? (i := 33) rfl)) (hw _ (List.mem_of_getElem? (i := 14) rfl)) (hw _ (List.mem_of_getElem? (i := 35) rfl)) (by decide) pd3 Ao1 (argsL := [(.ref r3)]) (rest := []) rfl rfl rfl rfl at_145 (by decide) (by first | decide | exact Nat.le_of_ble_eq_true rfl) (by decide) (by decide) rfl
  replace X := X [] rfl
  replace Ao1 := Ao1.keep K11
  replace KX := KX.trans K11 (fun x q => by cases List.mem_singleton.mp q; exact Or.inr s_o1)
  replace Fo1_nickname := Fo1_nickname'
  replace Fo1_age := Fo1_age'
  replace Fo1_savedNickname := Fo1_savedNickname'
  replace Fo1_savedAge := Fo1_savedAge'
  replace S0 := S0.keep K11 N23
  replace S1 := S1.keep K11 N23
  replace S2 := S2.keep K11 N23
  replace S3 := S3.keep K11 N23
  replace X := X.aload (q := 150) at_148 rfl rfl rfl
  have N25 : ∀ x ∈ [o1], Nst Z _ x := fun x q => by cases List.mem_singleton.mp q; exact Nst.exa Ao1 (by decide) (hw _ (List.mem_of_getElem? (i := 13) rfl))
  obtain ⟨_, hp26, ⟨rfl, K12, Fo1_nickname', Fo1_age', Fo1_savedNickname', Fo1_savedAge'⟩, X⟩ := X.callV (q := 153) (rm_save hw O2 P5 O4 rG3 X.old Ao1 Fo1_nickname Fo1_age Fo1_savedNickname Fo1_savedAge no1) hEL (fun _ q => nomatch q) (hw _ (List.mem_of_getElem? (i := 36) rfl)) (hw _ (List.mem_of_getElem? (i := 37) rfl)) (hw _ (List.mem_of_getElem? (i := 39) rfl)) (hw _ (List.mem_of_getElem? (i := 39) rfl)) (hw _ (List.mem_of_getElem? (i := 38) rfl)) (hw _ (List.mem_of_getElem? (i := 14) rfl)) (hw _ (List.mem_of_getElem? (i := 40) rfl)) (by decide) pd14 Ao1 (argsL := []) (rest := []) rfl rfl rfl rfl at_150 (by decide) (by first | decide | exact Nat.le_of_ble_eq_true rfl) (by decide) (by decide) rfl
  replace X := X [] rfl
  replace Ao1 := Ao1.keep K12
  replace KX := KX.trans K12 (fun x q => by cases List.mem_singleton.mp q; exact Or.inr s_o1)
  replace Fo1_nickname := Fo1_nickname'
  replace Fo1_age := Fo1_age'
  replace Fo1_savedNickname := Fo1_savedNickname'
  replace Fo1_savedAge := Fo1_savedAge'
  replace S0 := S0.keep K12 N25
  replace S1 := S1.keep K12 N25
  replace S2 := S2.keep K12 N25
  replace S3 := S3.keep K12 N25
  replace X := X.aload (q := 155) at_153 rfl rfl rfl
  obtain ⟨_, hp27, ⟨t2, rfl, K13, Qt2⟩, X⟩ := X.callV (q := 158) (rm_saved hw O2 P5 O4 rG3 X.old Ao1 Fo1_savedNickname Fo1_savedAge S2 S3 L2 L3) hEL (fun _ q => nomatch q) (hw _ (List.mem_of_getElem? (i := 45) rfl)) (hw _ (List.mem_of_getElem? (i := 46) rfl)) (hw _ (List.mem_of_getElem? (i := 48) rfl)) (hw _ (List.mem_of_getElem? (i := 48) rfl)) (hw _ (List.mem_of_getElem? (i := 47) rfl)) (hw _ (List.mem_of_getElem? (i := 14) rfl)) (hw _ (List.mem_of_getElem? (i := 49) rfl)) (by decide) pd16 Ao1 (argsL := []) (rest := []) rfl rfl rfl rfl at_155 (by decide) (by first | decide | exact Nat.le_of_ble_eq_true rfl) (by decide) (by decide) rfl
  replace X := X [(.ref t2)] rfl
  replace KX := KX.trans K13 (fun _ q => nomatch q)
  replace Ao1 := Ao1.keep K13
  replace Fo1_nickname := Fo1_nickname.keep K13 nin0
  replace Fo1_age := Fo1_age.keep K13 nin0
  replace Fo1_savedNickname := Fo1_savedNickname.keep K13 nin0
  replace Fo1_savedAge := Fo1_savedAge.keep K13 nin0
  replace S0 := S0.keep K13 (fun _ q => nomatch q)
  replace S1 := S1.keep K13 (fun _ q => nomatch q)
  replace S2 := S2.keep K13 (fun _ q => nomatch q)
  replace S3 := S3.keep K13 (fun _ q => nomatch q)
  replace X := X.astore (q := 160) (Ls' := #[.val (.int p0), .val (.int p1), .val (.int p2), .val (.int p3), .val (.int p4), .val (.ref r0), .val (.ref r1), .val (.ref r2), .val (.ref r3), .val (.ref o1), .val (.ref t1), .val (.int (1 : Int32)), .val (.int (1 : Int32)), .val (.ref t2), .unset]) at_158 rfl rfl rfl
  replace X := X.aload (q := 162) at_160 rfl rfl rfl
  replace X := X.aload (q := 164) at_162 rfl rfl rfl
  replace X := X.aload (q := 166) at_164 rfl rfl rfl
  obtain ⟨_, hp28, ⟨rfl, rfl⟩, X⟩ := X.callS (q := 169) (rm_mat hw O2 P5 O4 rG3 X.old Qt2 S2 S3 L2 L3) hEL (fun _ q => nomatch q) (hw _ (List.mem_of_getElem? (i := 166) rfl)) (hw _ (List.mem_of_getElem? (i := 167) rfl)) (hw _ (List.mem_of_getElem? (i := 2) rfl)) (hw _ (List.mem_of_getElem? (i := 168) rfl)) (by decide) pd23 (argsL := [(.ref t2), (.ref r2), (.ref r3)]) (rest := []) rfl rfl rfl rfl at_166 (by decide) (by first | decide | exact Nat.le_of_ble_eq_true rfl) (by decide) (by decide) rfl
  replace X := X [(.int (1 : Int32))] rfl
  replace X := X.istore (q := 171) (Ls' := #[.val (.int p0), .val (.int p1), .val (.int p2), .val (.int p3), .val (.int p4), .val (.ref r0), .val (.ref r1), .val (.ref r2), .val (.ref r3), .val (.ref o1), .val (.ref t1), .val (.int (1 : Int32)), .val (.int (1 : Int32)), .val (.ref t2), .val (.int (1 : Int32))]) at_169 rfl rfl
  replace X := X.iload (q := 173) at_171 rfl rfl
  replace X := X.ifNo (q := 176) at_173 (feq (by decide : ¬ (1 : Int32) = 0)).1 rfl
  replace X := X.iload (q := 178) at_176 rfl rfl
  replace X := X.ifNo (q := 181) at_178 (feq (by decide : ¬ (1 : Int32) = 0)).1 rfl
  replace X := X.iload (q := 183) at_181 rfl rfl
  replace X := X.ifNo (q := 186) at_183 (feq (by decide : ¬ (1 : Int32) = 0)).1 rfl
  replace X := X.iconst (q := 187) (z := (1 : Int32)) at_186 rfl rfl
  replace X := X.goto (q := 191) at_187 (by decide) (by decide)
  exact X.ireturn hEL hret (Or.inr (Or.inl rfl)) rfl hlk at_191 (by decide) (by decide) rfl
set_option maxRecDepth 65536 in
set_option maxHeartbeats 40000000 in
theorem comes_1 {Post : Tables → Env → Array Value → State → Outcome → State → Prop} (hpost : ∀ tb e args s v u, (limb_1_1.after args s (.returned v) u = true ∧ limb_1_2.after args s (.returned v) u = true ∧ True) → FramedW s (.returned v) u (Jvm.fieldLocs frame_1_writes args s ++ Jvm.arrayLocs frame_1_arrays args s ++ Jvm.staticLocs frame_1_statics s) 56 3392 → Post tb e args s (.returned v) u) :
    ArmFor flags0 classFile x code maxLocals ret World_1 tables_1 room_1 Calls_1 rest_1 Pre_1 Post := by
  intro l hfl _ _ p e ha hc hk s m args below hf hA hF happ hP
  obtain ⟨hcalls, hrest, hpre⟩ := hP
  obtain ⟨-, -, -, hnamed, -, -, -, hat⟩ := (Spec.applies_iff hf).mp happ
  obtain ⟨hg, hn⟩ := and_e (Cond.before_iff.mp (show (Jvm.Cond.and given_1 narrow_1).before args s = true from hpre))
  obtain ⟨h1, h2⟩ := and_e hg
  obtain ⟨w0, w1, w2, w3, w4, rfl⟩ : ∃ w0 w1 w2 w3 w4 : Value, args = #[w0, w1, w2, w3, w4] := by
    have hs : args.size = 5 := by simpa [Cond.value, given_1] using h1
    obtain ⟨L⟩ := args
    match L, hs with
    | [w0, w1, w2, w3, w4], _ => exact ⟨w0, w1, w2, w3, w4, rfl⟩
  have hw := fun d (hd : d ∈ tables_1) => atoms_spec (ws := Jvm.Cond.code x code maxLocals ret :: tables_1) hat d (List.mem_cons_of_mem _ hd)
  obtain ⟨hsets, hown0⟩ := atoms_of _ (rest_1_c_eq ▸ (show rest_1_c.before _ s = true from hrest))
  obtain ⟨g0, k0⟩ := and_e h2
  obtain ⟨p0, e0⟩ := is_v g0
  obtain rfl : w0 = (.int p0) := Option.some.inj e0
  obtain ⟨g1, k1⟩ := and_e k0
  obtain ⟨p1, e1⟩ := is_v g1
  obtain rfl : w1 = (.int p1) := Option.some.inj e1
  obtain ⟨g2, k2⟩ := and_e k1
  obtain ⟨p2, e2⟩ := is_v g2
  obtain rfl : w2 = (.int p2) := Option.some.inj e2
  obtain ⟨g3, k3⟩ := and_e k2
  obtain ⟨p3, e3⟩ := is_v g3
  obtain rfl : w3 = (.int p3) := Option.some.inj e3
  obtain ⟨p4, e4⟩ := is_v k3
  obtain rfl : w4 = (.int p4) := Option.some.inj e4
  have n3 := not_v (Cond.before_iff.mp (hsets _ (List.mem_of_getElem? (i := 2) rfl)))
  obtain ⟨i7, e6'⟩ := is_v (Cond.before_iff.mp (hsets _ (List.mem_of_getElem? (i := 1) rfl)))
  have S8 : Sta s s.heap "java/lang/String" "COMPACT_STRINGS" "Z" (.int i7) := Sta.start e6' (Or.inl (hsets _ (List.mem_of_getElem? (i := 0) rfl)))
  obtain ⟨v9, e10, r11⟩ := isR_v (Cond.before_iff.mp (hsets _ (List.mem_of_getElem? (i := 8) rfl)))
  have S12 : Sta s s.heap "jdk/internal/util/Preconditions" "SIOOBE_FORMATTER" "Ljava/util/function/BiFunction;" v9 := Sta.start e10 (Or.inl (hsets _ (List.mem_of_getElem? (i := 7) rfl)))
  have c13 : ¬ (i7 = (0 : Int32)) := gotF (Cond.eq_ints e6' (Term.int_eval (0))) n3
  have R := rm_law (l := l) hw S8 c13 S12 r11  (Ext.refl s.heap) (p0 := p0) (p1 := p1) (p2 := p2) (p3 := p3) (p4 := p4) 
  obtain ⟨n, o, h1, h2, h3, _, L, rfl, ⟨rfl, N, -⟩, -, hq⟩ := R p e ha hc hk s m _ below hf ((Spec.applies_iff_loose hf).mp happ).1 ⟨rfl, State.Warmed39.refl s, rfl, CHv.start (hEL0 hw) (fun p hp => hcalls.1 p hp) (hsets _ (List.mem_of_getElem? (i := 2) rfl)) (hw _ (List.mem_of_getElem? (i := 7) rfl)) (hw _ (List.mem_of_getElem? (i := 6) rfl)), fun _ q => nomatch q⟩ trivial
  refine ⟨n, _, h1, h2, h3, hpost _ _ _ _ _ _ ⟨Cond.after_iff.mpr rfl, Cond.after_iff.mpr (eq_i res_at (Term.int_eval (1)) rfl), trivial⟩ ⟨hq.1, hq.2.1, hq.2.2.1, (hq.2.2.2.sift fun y hy => Or.inr (N y hy)).mono (by decide) (by decide)⟩⟩
theorem main_1_1 : Claimed_1_1 := comes_1 fun _ _ _ _ _ _ h hF => ⟨h.1, hF⟩
theorem main_1_2 : Claimed_1_2 := comes_1 fun _ _ _ _ _ _ h hF => ⟨h.2.1, hF⟩
end Jvm.Pilot.@@N@@
namespace Jvm.Pilot.@@N@@
open Jvm Jvm.ClassFile Sem Op Lib Jvm.Free Jvm.Stand Jvm.Pilot.@@N@@.Jvm.D
/-! MADE BY PROGRAM (witnessworld.py) out of the Statement's table words and the real class files: 29 classes; the members and pool entries that the words name. The judged class is class 1, her method 1. -/
namespace start1
open Jvm.ClassFile
def u (s : String) : CpInfo := .utf8 (stringToUtf16 s)
/-- a pool by its gaps: so many unusable entries, then the entry; so many at the end -/
def gap : Nat → List CpInfo → List CpInfo
  | 0, r => r
  | n + 1, r => .unusable :: gap n r
def poolList (es : List (Nat × CpInfo)) (last : Nat) : List CpInfo := es.foldr (fun e r => gap e.1 (e.2 :: r)) (gap last [])
def pool (es : List (Nat × CpInfo)) (last : Nat) : Array CpInfo := ⟨poolList es last⟩
def fileOf (pool : Array CpInfo) (this : Nat) (attrs : Array Attribute := #[]) (ms : Array MethodInfo := #[]) (fl : Nat := 33) (sup : Nat := 0) (ifs : Array Nat := #[]) (fds : Array FieldInfo := #[]) : ClassFile where
  minorVersion := 0
  majorVersion := 65
  constantPool := pool
  accessFlags := fl
  thisClass := this
  superClass := sup
  interfaces := ifs
  fields := fds
  methods := ms
  attributes := attrs
def plain (name : String) (sup : Option ClassId) : Class where
  name := name
  kind := .ordinary
  loader := none
  accessFlags := 33
  super := sup
  interfaces := #[]
  cf := none
  fields := #[]
  methods := #[]
  instanceTypes := #[]
  staticTypes := #[]
  resolved := #[]
  callSites := []
  init := .initialized
  statics := none
  mirror := none

def pool0 : Array CpInfo := pool [(5, u "<init>"), (0, u "()V"), (1, .class_ 10), (1, u "java/lang/Object")] 113

def k0c0 : Code := { maxStack := 0, maxLocals := 1, code := object_method_1_code, exceptionTable := #[], attributes := #[] }
def k0m0 : Method := { name := "<init>", desc := "()V", sig := { parameters := [], returnType := none }, accessFlags := 1, code := some k0c0 }
/-- java/lang/Object -/
def k0 : Class := { plain "java/lang/Object" none with
  accessFlags := 33
  interfaces := #[]
  cf := some (fileOf pool0 8 #[] #[{ accessFlags := 1, nameIndex := 5, descriptorIndex := 6, attributes := #[] }] 33 0 #[] #[])
  fields := #[]
  methods := #[k0m0]
  instanceTypes := #[]
  staticTypes := #[]
  resolved := Array.replicate 124 none
  statics := none }

def pool1 : Array CpInfo := pool [(2, .class_ 4), (0, .nameAndType 5 6), (0, u "java/lang/Object"), (0, u "<init>"), (0, u "()V"), (0, .methodref 8 9), (0, .class_ 10), (0, .nameAndType 11 12), (0, u "com/example/lectern/lectern/demo/ProfileSaveNetPinLaw"), (0, u "str"), (0, u "(II)Ljava/lang/String;"), (0, .class_ 14), (0, u "com/example/lectern/lectern/demo/Profile"), (0, .methodref 13 3), (0, .methodref 13 17), (0, .nameAndType 18 19), (0, u "setNicknameNet"), (0, u "(Ljava/lang/String;)V"), (0, .methodref 13 21), (0, .nameAndType 22 19), (0, u "setAgeNet"), (0, .methodref 13 24), (0, .nameAndType 25 6), (0, u "saveNet"), (0, .methodref 13 27), (0, .nameAndType 28 29), (0, u "saved"), (0, u "()Ljava/lang/String;"), (0, .methodref 8 31), (0, .nameAndType 32 33), (0, u "matches"), (0, u "(Ljava/lang/String;Ljava/lang/String;Ljava/lang/String;)Z"), (0, .methodref 13 35), (0, .nameAndType 36 29), (0, u "nickname"), (0, .methodref 38 39), (0, .class_ 40), (0, .nameAndType 41 42), (0, u "java/lang/String"), (0, u "equals"), (0, u "(Ljava/lang/Object;)Z"), (0, .methodref 13 44), (0, .nameAndType 45 29), (0, u "age"), (0, .string 47), (0, u ""), (0, .methodref 38 49), (0, .nameAndType 50 51), (0, u "valueOf"), (0, u "(C)Ljava/lang/String;"), (0, .methodref 38 53), (0, .nameAndType 5 54), (0, u "([C)V"), (0, .methodref 38 56), (0, .nameAndType 57 58), (0, u "length"), (0, u "()I"), (0, .methodref 8 60), (0, .nameAndType 61 62), (0, u "at"), (0, u "(Ljava/lang/String;Ljava/lang/String;Ljava/lang/String;I)Z"), (0, .methodref 38 64), (0, .nameAndType 65 66), (0, u "charAt"), (0, u "(I)C"), (2, u "law"), (0, u "(IIIII)Z")] 3

def k1m0 : Method := { name := "<init>", desc := "()V", sig := { parameters := [], returnType := none }, accessFlags := 2, code := none }
def k1c1 : Code := { maxStack := 3, maxLocals := 15, code := code, exceptionTable := #[], attributes := #[] }
def k1m1 : Method := { name := "law", desc := "(IIIII)Z", sig := { parameters := [.int, .int, .int, .int, .int], returnType := some .boolean }, accessFlags := 9, code := some k1c1 }
def k1c2 : Code := { maxStack := 6, maxLocals := 4, code := method_3_code, exceptionTable := #[], attributes := #[] }
def k1m2 : Method := { name := "str", desc := "(II)Ljava/lang/String;", sig := { parameters := [.int, .int], returnType := some (.object "java/lang/String") }, accessFlags := 10, code := some k1c2 }
def k1c3 : Code := { maxStack := 4, maxLocals := 3, code := method_4_code, exceptionTable := #[], attributes := #[] }
def k1m3 : Method := { name := "matches", desc := "(Ljava/lang/String;Ljava/lang/String;Ljava/lang/String;)Z", sig := { parameters := [(.object "java/lang/String"), (.object "java/lang/String"), (.object "java/lang/String")], returnType := some .boolean }, accessFlags := 10, code := some k1c3 }
def k1c4 : Code := { maxStack := 3, maxLocals := 5, code := method_5_code, exceptionTable := #[], attributes := #[] }
def k1m4 : Method := { name := "at", desc := "(Ljava/lang/String;Ljava/lang/String;Ljava/lang/String;I)Z", sig := { parameters := [(.object "java/lang/String"), (.object "java/lang/String"), (.object "java/lang/String"), .int], returnType := some .boolean }, accessFlags := 10, code := some k1c4 }
/-- com/example/lectern/lectern/demo/ProfileSaveNetPinLaw -/
def k1 : Class := { plain "com/example/lectern/lectern/demo/ProfileSaveNetPinLaw" (some 0) with
  accessFlags := 49
  interfaces := #[]
  cf := some (fileOf pool1 8 #[] #[{ accessFlags := 2, nameIndex := 5, descriptorIndex := 6, attributes := #[] }, { accessFlags := 9, nameIndex := 69, descriptorIndex := 70, attributes := #[] }, { accessFlags := 10, nameIndex := 11, descriptorIndex := 12, attributes := #[] }, { accessFlags := 10, nameIndex := 32, descriptorIndex := 33, attributes := #[] }, { accessFlags := 10, nameIndex := 61, descriptorIndex := 62, attributes := #[] }] 49 2 #[] #[])
  fields := #[]
  methods := #[k1m0, k1m1, k1m2, k1m3, k1m4]
  instanceTypes := #[]
  staticTypes := #[]
  resolved := Array.replicate 74 none
  statics := none }

def pool2 : Array CpInfo := pool [(1, .class_ 2), (0, u "java/io/Serializable"), (0, .class_ 4), (0, u "java/lang/Object")] 2

/-- java/io/Serializable -/
def k2 : Class := { plain "java/io/Serializable" (some 0) with
  accessFlags := 1537
  interfaces := #[]
  cf := some (fileOf pool2 1 #[] #[] 1537 3 #[] #[])
  fields := #[]
  methods := #[]
  instanceTypes := #[]
  staticTypes := #[]
  resolved := Array.replicate 7 none
  statics := none }

def pool3 : Array CpInfo := pool [(1, .class_ 2), (0, u "java/lang/Comparable"), (0, .class_ 4), (0, u "java/lang/Object")] 7

/-- java/lang/Comparable -/
def k3 : Class := { plain "java/lang/Comparable" (some 0) with
  accessFlags := 1537
  interfaces := #[]
  cf := some (fileOf pool3 1 #[] #[] 1537 3 #[] #[])
  fields := #[]
  methods := #[]
  instanceTypes := #[]
  staticTypes := #[]
  resolved := Array.replicate 12 none
  statics := none }

def pool4 : Array CpInfo := pool [(2, .class_ 4), (1, u "java/lang/CharSequence"), (42, .class_ 48), (0, u "java/lang/CharSequence$1CodePointIterator"), (10, .class_ 60), (0, u "java/lang/CharSequence$1CharIterator"), (5, .class_ 67), (0, u "java/lang/Object")] 63

/-- java/lang/CharSequence -/
def k4 : Class := { plain "java/lang/CharSequence" (some 0) with
  accessFlags := 1537
  interfaces := #[]
  cf := some (fileOf pool4 2 #[.nestMembers #[47, 59]] #[] 1537 66 #[] #[])
  fields := #[]
  methods := #[]
  instanceTypes := #[]
  staticTypes := #[]
  resolved := Array.replicate 131 none
  statics := none }

def pool5 : Array CpInfo := pool [(1, .class_ 2), (0, u "java/lang/constant/Constable"), (0, .class_ 4), (0, u "java/lang/Object")] 6

/-- java/lang/constant/Constable -/
def k5 : Class := { plain "java/lang/constant/Constable" (some 0) with
  accessFlags := 1537
  interfaces := #[]
  cf := some (fileOf pool5 1 #[] #[] 1537 3 #[] #[])
  fields := #[]
  methods := #[]
  instanceTypes := #[]
  staticTypes := #[]
  resolved := Array.replicate 11 none
  statics := none }

def pool6 : Array CpInfo := pool [(1, .class_ 2), (0, u "java/lang/constant/ConstantDesc"), (0, .class_ 4), (0, u "java/lang/Object")] 32

/-- java/lang/constant/ConstantDesc -/
def k6 : Class := { plain "java/lang/constant/ConstantDesc" (some 0) with
  accessFlags := 1537
  interfaces := #[]
  cf := some (fileOf pool6 1 #[] #[] 1537 3 #[] #[])
  fields := #[]
  methods := #[]
  instanceTypes := #[]
  staticTypes := #[]
  resolved := Array.replicate 37 none
  statics := none }

def pool7 : Array CpInfo := pool [(1, .methodref 2 3), (0, .class_ 4), (0, .nameAndType 5 6), (0, u "java/lang/Object"), (0, u "<init>"), (0, u "()V"), (2, .fieldref 10 11), (0, .class_ 12), (0, .nameAndType 13 14), (0, u "java/lang/String"), (0, u "value"), (0, u "[B"), (0, .fieldref 10 16), (0, .nameAndType 17 18), (0, u "coder"), (0, u "B"), (2, u "hash"), (0, u "I"), (2, u "hashIsZero"), (0, u "Z"), (0, .methodref 10 28), (0, .nameAndType 5 29), (0, u "([CIILjava/lang/Void;)V"), (8, .fieldref 10 39), (0, .nameAndType 40 26), (0, u "COMPACT_STRINGS"), (1, .class_ 44), (1, u "java/lang/StringUTF16"), (0, u "compress"), (1, .methodref 42 48), (0, .nameAndType 49 50), (0, u "coderFromArrayLen"), (0, u "([BI)B"), (2, u "toBytes"), (0, .methodref 55 56), (0, .class_ 57), (0, .nameAndType 58 59), (0, u "java/util/Arrays"), (0, u "copyOfRange"), (0, u "([BII)[B"), (47, .class_ 109), (1, u "java/lang/StringLatin1"), (32, u "()Z"), (34, .methodref 42 178), (0, .nameAndType 45 179), (0, u "([CII)[B"), (13, .class_ 195), (1, u "java/lang/System"), (13, .methodref 10 210), (0, .nameAndType 5 211), (0, u "([BB)V"), (0, .methodref 193 213), (0, .nameAndType 214 215), (0, u "arraycopy"), (0, u "(Ljava/lang/Object;ILjava/lang/Object;II)V"), (118, u "()I"), (0, .methodref 10 336), (0, .nameAndType 17 337), (0, u "()B"), (2, u "()[B"), (22, u "([BI)C"), (5, u "(C)Z"), (21, u "(II)V"), (35, u "(I)C"), (61, .methodref 10 490), (0, .nameAndType 5 491), (0, u "(Ljava/lang/AbstractStringBuilder;Ljava/lang/Void;)V"), (0, .methodref 10 493), (0, .nameAndType 494 142), (0, u "isLatin1"), (0, .methodref 107 496), (0, .nameAndType 497 363), (0, u "charAt"), (3, u "checkIndex"), (4, .nameAndType 507 334), (0, u "length"), (24, u "getBytes"), (10, u "equals"), (5, .methodref 550 506), (0, .class_ 551), (0, u "java/lang/AbstractStringBuilder"), (0, .methodref 550 553), (0, .nameAndType 554 340), (0, u "getValue"), (18, u "(Ljava/lang/Object;)Z"), (1, .class_ 576), (0, u "java/lang/CharSequence"), (22, u "CASE_INSENSITIVE_ORDER"), (0, u "Ljava/util/Comparator;"), (181, u "valueOf"), (0, u "(C)Ljava/lang/String;"), (37, u "([BIB)V"), (188, u "([C)V"), (4, .methodref 107 1016), (0, .nameAndType 1017 369), (0, u "canEncode"), (0, .methodref 107 1019), (0, .nameAndType 53 1020), (0, u "(C)[B"), (26, .methodref 550 493), (5, .fieldref 1054 1055), (0, .class_ 1056), (0, .nameAndType 1057 1058), (0, u "jdk/internal/util/Preconditions"), (0, u "SIOOBE_FORMATTER"), (0, u "Ljava/util/function/BiFunction;"), (0, .methodref 1054 1060), (0, .nameAndType 501 1061), (0, u "(IILjava/util/function/BiFunction;)I"), (39, u "serialPersistentFields"), (0, u "[Ljava/io/ObjectStreamField;"), (0, .class_ 1104), (0, u "java/lang/String$CaseInsensitiveComparator"), (1, .class_ 1107), (0, u "java/io/Serializable"), (0, .class_ 1109), (0, u "java/lang/Comparable"), (0, .class_ 1111), (0, u "java/lang/constant/Constable"), (0, .class_ 1113), (0, u "java/lang/constant/ConstantDesc"), (2, u "serialVersionUID"), (0, u "J"), (3, u "REPL"), (0, u "C"), (2, u "LATIN1"), (1, u "UTF16"), (105, u "(Ljava/lang/StringBuilder;)V")] 217

def k7m0 : Method := { name := "<init>", desc := "()V", sig := { parameters := [], returnType := none }, accessFlags := 1, code := none }
def k7c1 : Code := { maxStack := 5, maxLocals := 2, code := jdk_42_method_3_code, exceptionTable := #[], attributes := #[] }
def k7m1 : Method := { name := "<init>", desc := "([C)V", sig := { parameters := [(.array .char)], returnType := none }, accessFlags := 1, code := some k7c1 }
def k7c2 : Code := { maxStack := 3, maxLocals := 2, code := jdk_42_method_53_code, exceptionTable := #[], attributes := #[] }
def k7m2 : Method := { name := "<init>", desc := "(Ljava/lang/StringBuilder;)V", sig := { parameters := [(.object "java/lang/StringBuilder")], returnType := none }, accessFlags := 1, code := some k7c2 }
def k7c3 : Code := { maxStack := 2, maxLocals := 1, code := jdk_42_method_54_code, exceptionTable := #[], attributes := #[] }
def k7m3 : Method := { name := "length", desc := "()I", sig := { parameters := [], returnType := some .int }, accessFlags := 1, code := some k7c3 }
def k7c4 : Code := { maxStack := 2, maxLocals := 2, code := jdk_42_method_56_code, exceptionTable := #[], attributes := #[] }
def k7m4 : Method := { name := "charAt", desc := "(I)C", sig := { parameters := [.int], returnType := some .char }, accessFlags := 1, code := some k7c4 }
def k7c5 : Code := { maxStack := 2, maxLocals := 3, code := jdk_42_method_66_code, exceptionTable := #[], attributes := #[] }
def k7m5 : Method := { name := "equals", desc := "(Ljava/lang/Object;)Z", sig := { parameters := [(.object "java/lang/Object")], returnType := some .boolean }, accessFlags := 1, code := some k7c5 }
def k7c6 : Code := { maxStack := 4, maxLocals := 1, code := jdk_42_method_139_code, exceptionTable := #[], attributes := #[] }
def k7m6 : Method := { name := "valueOf", desc := "(C)Ljava/lang/String;", sig := { parameters := [.char], returnType := some (.object "java/lang/String") }, accessFlags := 9, code := some k7c6 }
def k7c7 : Code := { maxStack := 5, maxLocals := 4, code := jdk_42_method_147_code, exceptionTable := #[], attributes := #[] }
def k7m7 : Method := { name := "getBytes", desc := "([BIB)V", sig := { parameters := [(.array .byte), .int, .byte], returnType := none }, accessFlags := 0, code := some k7c7 }
def k7c8 : Code := { maxStack := 4, maxLocals := 6, code := jdk_42_method_149_code, exceptionTable := #[], attributes := #[] }
def k7m8 : Method := { name := "<init>", desc := "([CIILjava/lang/Void;)V", sig := { parameters := [(.array .char), .int, .int, (.object "java/lang/Void")], returnType := none }, accessFlags := 2, code := some k7c8 }
def k7c9 : Code := { maxStack := 5, maxLocals := 5, code := jdk_42_method_150_code, exceptionTable := #[], attributes := #[] }
def k7m9 : Method := { name := "<init>", desc := "(Ljava/lang/AbstractStringBuilder;Ljava/lang/Void;)V", sig := { parameters := [(.object "java/lang/AbstractStringBuilder"), (.object "java/lang/Void")], returnType := none }, accessFlags := 0, code := some k7c9 }
def k7c10 : Code := { maxStack := 2, maxLocals := 3, code := jdk_42_method_151_code, exceptionTable := #[], attributes := #[] }
def k7m10 : Method := { name := "<init>", desc := "([BB)V", sig := { parameters := [(.array .byte), .byte], returnType := none }, accessFlags := 0, code := some k7c10 }
def k7c11 : Code := { maxStack := 1, maxLocals := 1, code := jdk_42_method_152_code, exceptionTable := #[], attributes := #[] }
def k7m11 : Method := { name := "coder", desc := "()B", sig := { parameters := [], returnType := some .byte }, accessFlags := 0, code := some k7c11 }
def k7c12 : Code := { maxStack := 1, maxLocals := 1, code := jdk_42_method_154_code, exceptionTable := #[], attributes := #[] }
def k7m12 : Method := { name := "isLatin1", desc := "()Z", sig := { parameters := [], returnType := some .boolean }, accessFlags := 0, code := some k7c12 }
def k7c13 : Code := { maxStack := 3, maxLocals := 2, code := jdk_42_method_155_code, exceptionTable := #[], attributes := #[] }
def k7m13 : Method := { name := "checkIndex", desc := "(II)V", sig := { parameters := [.int, .int], returnType := none }, accessFlags := 8, code := some k7c13 }
/-- java/lang/String -/
def k7 : Class := { plain "java/lang/String" (some 0) with
  accessFlags := 49
  interfaces := #[2, 3, 4, 5, 6]
  cf := some (fileOf pool7 10 #[.nestMembers #[1103]] #[{ accessFlags := 1, nameIndex := 5, descriptorIndex := 6, attributes := #[] }, { accessFlags := 1, nameIndex := 5, descriptorIndex := 1010, attributes := #[] }, { accessFlags := 1, nameIndex := 5, descriptorIndex := 1233, attributes := #[] }, { accessFlags := 1, nameIndex := 507, descriptorIndex := 334, attributes := #[] }, { accessFlags := 1, nameIndex := 497, descriptorIndex := 427, attributes := #[] }, { accessFlags := 1, nameIndex := 543, descriptorIndex := 573, attributes := #[] }, { accessFlags := 9, nameIndex := 782, descriptorIndex := 783, attributes := #[] }, { accessFlags := 0, nameIndex := 532, descriptorIndex := 821, attributes := #[] }, { accessFlags := 2, nameIndex := 5, descriptorIndex := 29, attributes := #[] }, { accessFlags := 0, nameIndex := 5, descriptorIndex := 491, attributes := #[] }, { accessFlags := 0, nameIndex := 5, descriptorIndex := 211, attributes := #[] }, { accessFlags := 0, nameIndex := 17, descriptorIndex := 337, attributes := #[] }, { accessFlags := 0, nameIndex := 494, descriptorIndex := 142, attributes := #[] }, { accessFlags := 8, nameIndex := 501, descriptorIndex := 391, attributes := #[] }] 49 2 #[1106, 1108, 575, 1110, 1112] #[{ accessFlags := 18, nameIndex := 13, descriptorIndex := 14, attributes := #[] }, { accessFlags := 18, nameIndex := 17, descriptorIndex := 18, attributes := #[] }, { accessFlags := 2, nameIndex := 21, descriptorIndex := 22, attributes := #[] }, { accessFlags := 2, nameIndex := 25, descriptorIndex := 26, attributes := #[] }, { accessFlags := 26, nameIndex := 1116, descriptorIndex := 1117, attributes := #[] }, { accessFlags := 24, nameIndex := 40, descriptorIndex := 26, attributes := #[] }, { accessFlags := 26, nameIndex := 1101, descriptorIndex := 1102, attributes := #[] }, { accessFlags := 26, nameIndex := 1121, descriptorIndex := 1122, attributes := #[] }, { accessFlags := 25, nameIndex := 599, descriptorIndex := 600, attributes := #[] }, { accessFlags := 24, nameIndex := 1125, descriptorIndex := 18, attributes := #[] }, { accessFlags := 24, nameIndex := 1127, descriptorIndex := 18, attributes := #[] }])
  fields := #[{ name := "value", type := (.array .byte), accessFlags := 18, slot := 0, constantValue := 0 }, { name := "coder", type := .byte, accessFlags := 18, slot := 1, constantValue := 0 }, { name := "hash", type := .int, accessFlags := 2, slot := 2, constantValue := 0 }, { name := "hashIsZero", type := .boolean, accessFlags := 2, slot := 3, constantValue := 0 }, { name := "serialVersionUID", type := .long, accessFlags := 26, slot := 0, constantValue := 0 }, { name := "COMPACT_STRINGS", type := .boolean, accessFlags := 24, slot := 1, constantValue := 0 }, { name := "serialPersistentFields", type := (.array (.object "java/io/ObjectStreamField")), accessFlags := 26, slot := 2, constantValue := 0 }, { name := "REPL", type := .char, accessFlags := 26, slot := 3, constantValue := 0 }, { name := "CASE_INSENSITIVE_ORDER", type := (.object "java/util/Comparator"), accessFlags := 25, slot := 4, constantValue := 0 }, { name := "LATIN1", type := .byte, accessFlags := 24, slot := 5, constantValue := 0 }, { name := "UTF16", type := .byte, accessFlags := 24, slot := 6, constantValue := 0 }]
  methods := #[k7m0, k7m1, k7m2, k7m3, k7m4, k7m5, k7m6, k7m7, k7m8, k7m9, k7m10, k7m11, k7m12, k7m13]
  instanceTypes := #[(.array .byte), .byte, .int, .boolean]
  staticTypes := #[.long, .boolean, (.array (.object "java/io/ObjectStreamField")), .char, (.object "java/util/Comparator"), .byte, .byte]
  resolved := Array.replicate 1451 none
  statics := some 0 }

def pool8 : Array CpInfo := pool [(1, .class_ 2), (0, u "com/example/lectern/lectern/Bean"), (0, .class_ 4), (0, u "java/lang/Object")] 8

/-- com/example/lectern/lectern/Bean -/
def k8 : Class := { plain "com/example/lectern/lectern/Bean" (some 0) with
  accessFlags := 1537
  interfaces := #[]
  cf := some (fileOf pool8 1 #[] #[] 1537 3 #[] #[])
  fields := #[]
  methods := #[]
  instanceTypes := #[]
  staticTypes := #[]
  resolved := Array.replicate 13 none
  statics := none }

def pool9 : Array CpInfo := pool [(1, .class_ 2), (0, u "com/example/lectern/lectern/Peer"), (0, .class_ 4), (0, u "java/lang/Object")] 6

/-- com/example/lectern/lectern/Peer -/
def k9 : Class := { plain "com/example/lectern/lectern/Peer" (some 0) with
  accessFlags := 1537
  interfaces := #[]
  cf := some (fileOf pool9 1 #[] #[] 1537 3 #[] #[])
  fields := #[]
  methods := #[]
  instanceTypes := #[]
  staticTypes := #[]
  resolved := Array.replicate 11 none
  statics := none }

def pool10 : Array CpInfo := pool [(1, .class_ 2), (0, u "com/example/lectern/lectern/Validating"), (0, .class_ 4), (0, u "java/lang/Object"), (0, .class_ 6), (0, u "com/example/lectern/lectern/Peer")] 4

/-- com/example/lectern/lectern/Validating -/
def k10 : Class := { plain "com/example/lectern/lectern/Validating" (some 0) with
  accessFlags := 1537
  interfaces := #[9]
  cf := some (fileOf pool10 1 #[] #[] 1537 3 #[5] #[])
  fields := #[]
  methods := #[]
  instanceTypes := #[]
  staticTypes := #[]
  resolved := Array.replicate 11 none
  statics := none }

def pool11 : Array CpInfo := pool [(1, .methodref 2 3), (0, .class_ 4), (0, .nameAndType 5 6), (0, u "java/lang/Object"), (0, u "<init>"), (0, u "()V"), (0, .string 8), (0, u ""), (0, .fieldref 10 11), (0, .class_ 12), (0, .nameAndType 13 14), (0, u "com/example/lectern/lectern/demo/Profile"), (0, u "nickname"), (0, u "Ljava/lang/String;"), (0, .fieldref 10 16), (0, .nameAndType 17 14), (0, u "age"), (38, .fieldref 10 57), (0, .nameAndType 58 14), (0, u "savedNickname"), (0, .fieldref 10 60), (0, .nameAndType 61 14), (0, u "savedAge"), (0, .class_ 63), (0, u "java/lang/StringBuilder"), (0, .methodref 62 3), (0, .methodref 62 66), (0, .nameAndType 67 68), (0, u "append"), (0, u "(Ljava/lang/String;)Ljava/lang/StringBuilder;"), (0, .string 70), (0, u ", "), (0, .methodref 62 72), (0, .nameAndType 73 74), (0, u "toString"), (0, u "()Ljava/lang/String;"), (11, .class_ 87), (0, u "com/example/lectern/lectern/Bean"), (0, .class_ 89), (0, u "com/example/lectern/lectern/Validating"), (0, u "NICKNAME_MAX"), (0, u "I"), (2, u "AGE_MAX"), (5, u "setNicknameNet"), (0, u "(Ljava/lang/String;)V"), (0, u "setAgeNet"), (3, u "saveNet"), (1, u "saved")] 2

def k11c0 : Code := { maxStack := 2, maxLocals := 1, code := prog_31_method_1_code, exceptionTable := #[], attributes := #[] }
def k11m0 : Method := { name := "<init>", desc := "()V", sig := { parameters := [], returnType := none }, accessFlags := 1, code := some k11c0 }
def k11c1 : Code := { maxStack := 2, maxLocals := 2, code := prog_31_method_3_code, exceptionTable := #[], attributes := #[] }
def k11m1 : Method := { name := "setNicknameNet", desc := "(Ljava/lang/String;)V", sig := { parameters := [(.object "java/lang/String")], returnType := none }, accessFlags := 1, code := some k11c1 }
def k11c2 : Code := { maxStack := 2, maxLocals := 2, code := prog_31_method_4_code, exceptionTable := #[], attributes := #[] }
def k11m2 : Method := { name := "setAgeNet", desc := "(Ljava/lang/String;)V", sig := { parameters := [(.object "java/lang/String")], returnType := none }, accessFlags := 1, code := some k11c2 }
def k11c3 : Code := { maxStack := 2, maxLocals := 1, code := prog_31_method_6_code, exceptionTable := #[], attributes := #[] }
def k11m3 : Method := { name := "saveNet", desc := "()V", sig := { parameters := [], returnType := none }, accessFlags := 1, code := some k11c3 }
def k11c4 : Code := { maxStack := 1, maxLocals := 1, code := prog_31_method_8_code, exceptionTable := #[], attributes := #[] }
def k11m4 : Method := { name := "nickname", desc := "()Ljava/lang/String;", sig := { parameters := [], returnType := some (.object "java/lang/String") }, accessFlags := 0, code := some k11c4 }
def k11c5 : Code := { maxStack := 1, maxLocals := 1, code := prog_31_method_9_code, exceptionTable := #[], attributes := #[] }
def k11m5 : Method := { name := "age", desc := "()Ljava/lang/String;", sig := { parameters := [], returnType := some (.object "java/lang/String") }, accessFlags := 0, code := some k11c5 }
def k11c6 : Code := { maxStack := 2, maxLocals := 1, code := prog_31_method_10_code, exceptionTable := #[], attributes := #[] }
def k11m6 : Method := { name := "saved", desc := "()Ljava/lang/String;", sig := { parameters := [], returnType := some (.object "java/lang/String") }, accessFlags := 0, code := some k11c6 }
/-- com/example/lectern/lectern/demo/Profile -/
def k11 : Class := { plain "com/example/lectern/lectern/demo/Profile" (some 0) with
  accessFlags := 49
  interfaces := #[8, 10]
  cf := some (fileOf pool11 10 #[] #[{ accessFlags := 1, nameIndex := 5, descriptorIndex := 6, attributes := #[] }, { accessFlags := 1, nameIndex := 100, descriptorIndex := 101, attributes := #[] }, { accessFlags := 1, nameIndex := 102, descriptorIndex := 101, attributes := #[] }, { accessFlags := 1, nameIndex := 106, descriptorIndex := 6, attributes := #[] }, { accessFlags := 0, nameIndex := 13, descriptorIndex := 74, attributes := #[] }, { accessFlags := 0, nameIndex := 17, descriptorIndex := 74, attributes := #[] }, { accessFlags := 0, nameIndex := 108, descriptorIndex := 74, attributes := #[] }] 49 2 #[86, 88] #[{ accessFlags := 26, nameIndex := 90, descriptorIndex := 91, attributes := #[] }, { accessFlags := 26, nameIndex := 94, descriptorIndex := 91, attributes := #[] }, { accessFlags := 2, nameIndex := 13, descriptorIndex := 14, attributes := #[] }, { accessFlags := 2, nameIndex := 17, descriptorIndex := 14, attributes := #[] }, { accessFlags := 2, nameIndex := 58, descriptorIndex := 14, attributes := #[] }, { accessFlags := 2, nameIndex := 61, descriptorIndex := 14, attributes := #[] }])
  fields := #[{ name := "NICKNAME_MAX", type := .int, accessFlags := 26, slot := 0, constantValue := 0 }, { name := "AGE_MAX", type := .int, accessFlags := 26, slot := 1, constantValue := 0 }, { name := "nickname", type := (.object "java/lang/String"), accessFlags := 2, slot := 0, constantValue := 0 }, { name := "age", type := (.object "java/lang/String"), accessFlags := 2, slot := 1, constantValue := 0 }, { name := "savedNickname", type := (.object "java/lang/String"), accessFlags := 2, slot := 2, constantValue := 0 }, { name := "savedAge", type := (.object "java/lang/String"), accessFlags := 2, slot := 3, constantValue := 0 }]
  methods := #[k11m0, k11m1, k11m2, k11m3, k11m4, k11m5, k11m6]
  instanceTypes := #[(.object "java/lang/String"), (.object "java/lang/String"), (.object "java/lang/String"), (.object "java/lang/String")]
  staticTypes := #[.int, .int]
  resolved := Array.replicate 111 none
  statics := none }

def pool12 : Array CpInfo := pool [(1, .class_ 2), (0, u "java/lang/Appendable"), (0, .class_ 4), (0, u "java/lang/Object")] 9

/-- java/lang/Appendable -/
def k12 : Class := { plain "java/lang/Appendable" (some 0) with
  accessFlags := 1537
  interfaces := #[]
  cf := some (fileOf pool12 1 #[] #[] 1537 3 #[] #[])
  fields := #[]
  methods := #[]
  instanceTypes := #[]
  staticTypes := #[]
  resolved := Array.replicate 14 none
  statics := none }

def pool13 : Array CpInfo := pool [(1, .class_ 2), (0, u "java/lang/String"), (0, .methodref 4 5), (0, .class_ 6), (0, .nameAndType 7 8), (0, u "java/lang/Object"), (0, u "<init>"), (0, u "()V"), (1, .class_ 12), (1, u "java/lang/AbstractStringBuilder"), (0, u "EMPTYVALUE"), (0, u "[B"), (0, .fieldref 10 16), (0, .nameAndType 17 14), (0, u "value"), (0, .fieldref 1 19), (0, .nameAndType 20 21), (0, u "COMPACT_STRINGS"), (0, u "Z"), (0, .fieldref 10 23), (0, .nameAndType 24 25), (0, u "coder"), (0, u "B"), (6, .methodref 1 33), (0, .nameAndType 34 35), (0, u "length"), (0, u "()I"), (4, .methodref 1 41), (0, .nameAndType 24 42), (0, u "()B"), (2, u "append"), (0, u "(Ljava/lang/String;)Ljava/lang/AbstractStringBuilder;"), (1, .class_ 49), (0, u "java/lang/CharSequence"), (19, u "(Ljava/lang/String;)V"), (5, u "maybeLatin1"), (3, .fieldref 10 80), (0, .nameAndType 81 82), (0, u "count"), (0, u "I"), (2, u "isLatin1"), (0, u "()Z"), (13, .methodref 10 101), (0, .nameAndType 102 103), (0, u "ensureCapacityInternal"), (0, u "(I)V"), (104, .methodref 10 209), (0, .nameAndType 210 211), (0, u "putStringAt"), (0, u "(ILjava/lang/String;)V"), (5, u "inflateIfNeededFor"), (2, .nameAndType 221 222), (0, u "getBytes"), (0, u "([BIB)V"), (174, .methodref 10 398), (0, .nameAndType 217 69), (0, .methodref 1 220), (3, u "()[B"), (40, .class_ 445), (0, u "java/lang/Appendable"), (106, u "getValue")] 56

def k13m0 : Method := { name := "<init>", desc := "()V", sig := { parameters := [], returnType := none }, accessFlags := 0, code := none }
def k13c1 : Code := { maxStack := 2, maxLocals := 2, code := jdk_68_method_2_code, exceptionTable := #[], attributes := #[] }
def k13m1 : Method := { name := "<init>", desc := "(I)V", sig := { parameters := [.int], returnType := none }, accessFlags := 0, code := some k13c1 }
def k13c2 : Code := { maxStack := 1, maxLocals := 1, code := jdk_68_method_6_code, exceptionTable := #[], attributes := #[] }
def k13m2 : Method := { name := "length", desc := "()I", sig := { parameters := [], returnType := some .int }, accessFlags := 1, code := some k13c2 }
def k13c3 : Code := { maxStack := 4, maxLocals := 3, code := jdk_68_method_9_code, exceptionTable := #[], attributes := #[] }
def k13m3 : Method := { name := "ensureCapacityInternal", desc := "(I)V", sig := { parameters := [.int], returnType := none }, accessFlags := 2, code := some k13c3 }
def k13c4 : Code := { maxStack := 3, maxLocals := 3, code := jdk_68_method_22_code, exceptionTable := #[], attributes := #[] }
def k13m4 : Method := { name := "append", desc := "(Ljava/lang/String;)Ljava/lang/AbstractStringBuilder;", sig := { parameters := [(.object "java/lang/String")], returnType := some (.object "java/lang/AbstractStringBuilder") }, accessFlags := 1, code := some k13c4 }
def k13c5 : Code := { maxStack := 1, maxLocals := 1, code := jdk_68_method_64_code, exceptionTable := #[], attributes := #[] }
def k13m5 : Method := { name := "getValue", desc := "()[B", sig := { parameters := [], returnType := some (.array .byte) }, accessFlags := 16, code := some k13c5 }
def k13c6 : Code := { maxStack := 1, maxLocals := 1, code := jdk_68_method_68_code, exceptionTable := #[], attributes := #[] }
def k13m6 : Method := { name := "isLatin1", desc := "()Z", sig := { parameters := [], returnType := some .boolean }, accessFlags := 16, code := some k13c6 }
def k13c7 : Code := { maxStack := 2, maxLocals := 2, code := jdk_68_method_71_code, exceptionTable := #[], attributes := #[] }
def k13m7 : Method := { name := "inflateIfNeededFor", desc := "(Ljava/lang/String;)V", sig := { parameters := [(.object "java/lang/String")], returnType := none }, accessFlags := 2, code := some k13c7 }
def k13c8 : Code := { maxStack := 4, maxLocals := 3, code := jdk_68_method_73_code, exceptionTable := #[], attributes := #[] }
def k13m8 : Method := { name := "putStringAt", desc := "(ILjava/lang/String;)V", sig := { parameters := [.int, (.object "java/lang/String")], returnType := none }, accessFlags := 2, code := some k13c8 }
/-- java/lang/AbstractStringBuilder -/
def k13 : Class := { plain "java/lang/AbstractStringBuilder" (some 0) with
  accessFlags := 1056
  interfaces := #[12, 4]
  cf := some (fileOf pool13 10 #[] #[{ accessFlags := 0, nameIndex := 7, descriptorIndex := 8, attributes := #[] }, { accessFlags := 0, nameIndex := 7, descriptorIndex := 103, attributes := #[] }, { accessFlags := 1, nameIndex := 34, descriptorIndex := 35, attributes := #[] }, { accessFlags := 2, nameIndex := 102, descriptorIndex := 103, attributes := #[] }, { accessFlags := 1, nameIndex := 45, descriptorIndex := 46, attributes := #[] }, { accessFlags := 16, nameIndex := 552, descriptorIndex := 403, attributes := #[] }, { accessFlags := 16, nameIndex := 85, descriptorIndex := 86, attributes := #[] }, { accessFlags := 2, nameIndex := 217, descriptorIndex := 69, attributes := #[] }, { accessFlags := 2, nameIndex := 210, descriptorIndex := 211, attributes := #[] }] 1056 4 #[444, 48] #[{ accessFlags := 0, nameIndex := 17, descriptorIndex := 14, attributes := #[] }, { accessFlags := 0, nameIndex := 24, descriptorIndex := 25, attributes := #[] }, { accessFlags := 0, nameIndex := 75, descriptorIndex := 21, attributes := #[] }, { accessFlags := 0, nameIndex := 81, descriptorIndex := 82, attributes := #[] }, { accessFlags := 26, nameIndex := 13, descriptorIndex := 14, attributes := #[] }])
  fields := #[{ name := "value", type := (.array .byte), accessFlags := 0, slot := 0, constantValue := 0 }, { name := "coder", type := .byte, accessFlags := 0, slot := 1, constantValue := 0 }, { name := "maybeLatin1", type := .boolean, accessFlags := 0, slot := 2, constantValue := 0 }, { name := "count", type := .int, accessFlags := 0, slot := 3, constantValue := 0 }, { name := "EMPTYVALUE", type := (.array .byte), accessFlags := 26, slot := 0, constantValue := 0 }]
  methods := #[k13m0, k13m1, k13m2, k13m3, k13m4, k13m5, k13m6, k13m7, k13m8]
  instanceTypes := #[(.array .byte), .byte, .boolean, .int]
  staticTypes := #[(.array .byte)]
  resolved := Array.replicate 609 none
  statics := none }

def pool14 : Array CpInfo := pool [(1, .methodref 2 3), (0, .class_ 4), (0, .nameAndType 5 6), (0, u "java/lang/AbstractStringBuilder"), (0, u "<init>"), (0, u "(I)V"), (11, .class_ 20), (1, u "java/lang/String"), (3, .class_ 26), (1, u "java/lang/StringBuilder"), (0, u "append"), (0, u "(Ljava/lang/String;)Ljava/lang/StringBuilder;"), (0, .methodref 2 30), (0, .nameAndType 27 31), (0, u "(Ljava/lang/String;)Ljava/lang/AbstractStringBuilder;"), (105, .methodref 18 138), (0, .nameAndType 5 139), (0, u "(Ljava/lang/StringBuilder;)V"), (5, u "()V"), (10, u "()I"), (186, .methodref 2 344), (0, .nameAndType 345 156), (0, u "length"), (3, .class_ 350), (0, u "java/lang/Appendable"), (0, .class_ 352), (0, u "java/io/Serializable"), (0, .class_ 354), (0, u "java/lang/Comparable"), (0, .class_ 356), (0, u "java/lang/CharSequence"), (0, u "serialVersionUID"), (0, u "J"), (40, u "toString"), (0, u "()Ljava/lang/String;")] 21

def k14c0 : Code := { maxStack := 2, maxLocals := 1, code := jdk_67_method_1_code, exceptionTable := #[], attributes := #[] }
def k14m0 : Method := { name := "<init>", desc := "()V", sig := { parameters := [], returnType := none }, accessFlags := 1, code := some k14c0 }
def k14c1 : Code := { maxStack := 2, maxLocals := 2, code := jdk_67_method_7_code, exceptionTable := #[], attributes := #[] }
def k14m1 : Method := { name := "append", desc := "(Ljava/lang/String;)Ljava/lang/StringBuilder;", sig := { parameters := [(.object "java/lang/String")], returnType := some (.object "java/lang/StringBuilder") }, accessFlags := 1, code := some k14c1 }
def k14c2 : Code := { maxStack := 3, maxLocals := 1, code := jdk_67_method_42_code, exceptionTable := #[], attributes := #[] }
def k14m2 : Method := { name := "toString", desc := "()Ljava/lang/String;", sig := { parameters := [], returnType := some (.object "java/lang/String") }, accessFlags := 1, code := some k14c2 }
def k14c3 : Code := { maxStack := 1, maxLocals := 1, code := jdk_67_method_93_code, exceptionTable := #[], attributes := #[] }
def k14m3 : Method := { name := "length", desc := "()I", sig := { parameters := [], returnType := some .int }, accessFlags := 4161, code := some k14c3 }
/-- java/lang/StringBuilder -/
def k14 : Class := { plain "java/lang/StringBuilder" (some 13) with
  accessFlags := 49
  interfaces := #[12, 2, 3, 4]
  cf := some (fileOf pool14 24 #[] #[{ accessFlags := 1, nameIndex := 5, descriptorIndex := 145, attributes := #[] }, { accessFlags := 1, nameIndex := 27, descriptorIndex := 28, attributes := #[] }, { accessFlags := 1, nameIndex := 399, descriptorIndex := 400, attributes := #[] }, { accessFlags := 4161, nameIndex := 345, descriptorIndex := 156, attributes := #[] }] 49 2 #[349, 351, 353, 355] #[{ accessFlags := 24, nameIndex := 357, descriptorIndex := 358, attributes := #[] }])
  fields := #[{ name := "serialVersionUID", type := .long, accessFlags := 24, slot := 0, constantValue := 0 }]
  methods := #[k14m0, k14m1, k14m2, k14m3]
  instanceTypes := #[(.array .byte), .byte, .boolean, .int]
  staticTypes := #[.long]
  resolved := Array.replicate 422 none
  statics := none }

def pool15 : Array CpInfo := pool [(2, .class_ 4), (1, u "java/lang/Object"), (0, u "<init>"), (0, u "()V"), (1, .class_ 10), (1, u "java/lang/System"), (0, u "allowSecurityManager"), (0, u "I"), (16, u "cons"), (0, u "Ljava/io/Console;"), (77, .class_ 110), (1, u "java/lang/System$CallersHolder"), (43, u "initialErrStream"), (0, u "Ljava/io/PrintStream;"), (19, u "security"), (0, u "Ljava/lang/SecurityManager;"), (31, .class_ 209), (0, u "java/lang/System$1"), (7, u "props"), (0, u "Ljava/util/Properties;"), (2, u "lineSeparator"), (0, u "Ljava/lang/String;"), (96, .class_ 321), (1, u "java/lang/System$LoggerFinder"), (5, .class_ 328), (0, u "java/lang/System$Logger"), (67, u "err"), (2, u "out"), (91, u "notSupportedJnuEncoding"), (15, u "in"), (17, u "initialIn"), (0, u "Ljava/io/InputStream;"), (35, u "bootLayer"), (0, u "Ljava/lang/ModuleLayer;"), (99, .class_ 664), (0, u "java/lang/System$2"), (9, u "NEVER"), (2, u "MAYBE"), (49, u "arraycopy"), (0, u "(Ljava/lang/Object;ILjava/lang/Object;II)V"), (72, .class_ 802), (0, u "java/lang/System$Logger$Level")] 31

def k15m0 : Method := { name := "<init>", desc := "()V", sig := { parameters := [], returnType := none }, accessFlags := 2, code := none }
def k15m1 : Method := { name := "arraycopy", desc := "(Ljava/lang/Object;ILjava/lang/Object;II)V", sig := { parameters := [(.object "java/lang/Object"), .int, (.object "java/lang/Object"), .int, .int], returnType := none }, accessFlags := 265, code := none }
/-- java/lang/System -/
def k15 : Class := { plain "java/lang/System" (some 0) with
  accessFlags := 49
  interfaces := #[]
  cf := some (fileOf pool15 8 #[.nestMembers #[319, 327, 801, 108, 663, 208]] #[{ accessFlags := 2, nameIndex := 5, descriptorIndex := 6, attributes := #[] }, { accessFlags := 265, nameIndex := 727, descriptorIndex := 728, attributes := #[] }] 49 2 #[] #[{ accessFlags := 25, nameIndex := 507, descriptorIndex := 526, attributes := #[] }, { accessFlags := 25, nameIndex := 399, descriptorIndex := 155, attributes := #[] }, { accessFlags := 25, nameIndex := 396, descriptorIndex := 155, attributes := #[] }, { accessFlags := 10, nameIndex := 525, descriptorIndex := 526, attributes := #[] }, { accessFlags := 26, nameIndex := 674, descriptorIndex := 12, attributes := #[] }, { accessFlags := 26, nameIndex := 677, descriptorIndex := 12, attributes := #[] }, { accessFlags := 10, nameIndex := 11, descriptorIndex := 12, attributes := #[] }, { accessFlags := 74, nameIndex := 175, descriptorIndex := 176, attributes := #[] }, { accessFlags := 10, nameIndex := 491, descriptorIndex := 222, attributes := #[] }, { accessFlags := 74, nameIndex := 29, descriptorIndex := 30, attributes := #[] }, { accessFlags := 74, nameIndex := 154, descriptorIndex := 155, attributes := #[] }, { accessFlags := 10, nameIndex := 217, descriptorIndex := 218, attributes := #[] }, { accessFlags := 10, nameIndex := 221, descriptorIndex := 222, attributes := #[] }, { accessFlags := 8, nameIndex := 562, descriptorIndex := 563, attributes := #[] }])
  fields := #[{ name := "in", type := (.object "java/io/InputStream"), accessFlags := 25, slot := 0, constantValue := 0 }, { name := "out", type := (.object "java/io/PrintStream"), accessFlags := 25, slot := 1, constantValue := 0 }, { name := "err", type := (.object "java/io/PrintStream"), accessFlags := 25, slot := 2, constantValue := 0 }, { name := "initialIn", type := (.object "java/io/InputStream"), accessFlags := 10, slot := 3, constantValue := 0 }, { name := "NEVER", type := .int, accessFlags := 26, slot := 4, constantValue := 0 }, { name := "MAYBE", type := .int, accessFlags := 26, slot := 5, constantValue := 0 }, { name := "allowSecurityManager", type := .int, accessFlags := 10, slot := 6, constantValue := 0 }, { name := "security", type := (.object "java/lang/SecurityManager"), accessFlags := 74, slot := 7, constantValue := 0 }, { name := "notSupportedJnuEncoding", type := (.object "java/lang/String"), accessFlags := 10, slot := 8, constantValue := 0 }, { name := "cons", type := (.object "java/io/Console"), accessFlags := 74, slot := 9, constantValue := 0 }, { name := "initialErrStream", type := (.object "java/io/PrintStream"), accessFlags := 74, slot := 10, constantValue := 0 }, { name := "props", type := (.object "java/util/Properties"), accessFlags := 10, slot := 11, constantValue := 0 }, { name := "lineSeparator", type := (.object "java/lang/String"), accessFlags := 10, slot := 12, constantValue := 0 }, { name := "bootLayer", type := (.object "java/lang/ModuleLayer"), accessFlags := 8, slot := 13, constantValue := 0 }]
  methods := #[k15m0, k15m1]
  instanceTypes := #[]
  staticTypes := #[(.object "java/io/InputStream"), (.object "java/io/PrintStream"), (.object "java/io/PrintStream"), (.object "java/io/InputStream"), .int, .int, .int, (.object "java/lang/SecurityManager"), (.object "java/lang/String"), (.object "java/io/Console"), (.object "java/io/PrintStream"), (.object "java/util/Properties"), (.object "java/lang/String"), (.object "java/lang/ModuleLayer")]
  resolved := Array.replicate 834 none
  statics := none }

def pool16 : Array CpInfo := pool [(2, .class_ 4), (1, u "java/lang/Object"), (0, u "<init>"), (0, u "()V"), (7, .class_ 16), (1, u "java/util/Arrays"), (57, .class_ 76), (1, u "java/util/Arrays$NaturalOrder"), (36, .class_ 115), (1, u "java/util/Arrays$LegacyMergeSort"), (1, u "Z"), (21, u "copyOfRange"), (10, .methodref 151 152), (0, .class_ 153), (0, .nameAndType 154 155), (0, u "java/lang/System"), (0, u "arraycopy"), (0, u "(Ljava/lang/Object;ILjava/lang/Object;II)V"), (148, .methodref 305 306), (0, .class_ 307), (0, .nameAndType 308 309), (0, u "java/lang/Math"), (0, u "min"), (0, u "(II)I"), (29, .methodref 14 340), (0, .nameAndType 341 342), (0, u "copyOfRangeByte"), (0, u "([BII)[B"), (0, .methodref 14 344), (0, .nameAndType 345 346), (0, u "checkLength"), (0, u "(II)V"), (28, .class_ 376), (0, u "java/util/Arrays$ArrayList"), (68, u "$assertionsDisabled"), (269, u "MIN_ARRAY_SORT_GRAN"), (0, u "I"), (2, u "INSERTIONSORT_THRESHOLD"), (255, .class_ 976), (0, u "java/util/Arrays$ArrayItr")] 52

def k16m0 : Method := { name := "<init>", desc := "()V", sig := { parameters := [], returnType := none }, accessFlags := 2, code := none }
def k16c1 : Code := { maxStack := 4, maxLocals := 2, code := jdk_65_method_131_code, exceptionTable := #[], attributes := #[] }
def k16m1 : Method := { name := "checkLength", desc := "(II)V", sig := { parameters := [.int, .int], returnType := none }, accessFlags := 10, code := some k16c1 }
def k16c2 : Code := { maxStack := 3, maxLocals := 3, code := jdk_65_method_132_code, exceptionTable := #[], attributes := #[] }
def k16m2 : Method := { name := "copyOfRange", desc := "([BII)[B", sig := { parameters := [(.array .byte), .int, .int], returnType := some (.array .byte) }, accessFlags := 9, code := some k16c2 }
def k16c3 : Code := { maxStack := 6, maxLocals := 5, code := jdk_65_method_133_code, exceptionTable := #[], attributes := #[] }
def k16m3 : Method := { name := "copyOfRangeByte", desc := "([BII)[B", sig := { parameters := [(.array .byte), .int, .int], returnType := some (.array .byte) }, accessFlags := 10, code := some k16c3 }
/-- java/util/Arrays -/
def k16 : Class := { plain "java/util/Arrays" (some 0) with
  accessFlags := 49
  interfaces := #[]
  cf := some (fileOf pool16 14 #[.nestMembers #[975, 375, 113, 74]] #[{ accessFlags := 2, nameIndex := 5, descriptorIndex := 6, attributes := #[] }, { accessFlags := 10, nameIndex := 345, descriptorIndex := 346, attributes := #[] }, { accessFlags := 9, nameIndex := 139, descriptorIndex := 342, attributes := #[] }, { accessFlags := 10, nameIndex := 341, descriptorIndex := 342, attributes := #[] }] 49 2 #[] #[{ accessFlags := 26, nameIndex := 715, descriptorIndex := 716, attributes := #[] }, { accessFlags := 26, nameIndex := 719, descriptorIndex := 716, attributes := #[] }, { accessFlags := 4120, nameIndex := 445, descriptorIndex := 117, attributes := #[] }])
  fields := #[{ name := "MIN_ARRAY_SORT_GRAN", type := .int, accessFlags := 26, slot := 0, constantValue := 0 }, { name := "INSERTIONSORT_THRESHOLD", type := .int, accessFlags := 26, slot := 1, constantValue := 0 }, { name := "$assertionsDisabled", type := .boolean, accessFlags := 4120, slot := 2, constantValue := 0 }]
  methods := #[k16m0, k16m1, k16m2, k16m3]
  instanceTypes := #[]
  staticTypes := #[.int, .int, .boolean]
  resolved := Array.replicate 1029 none
  statics := none }

def pool17 : Array CpInfo := pool [(1, .class_ 2), (0, u "java/lang/Math"), (1, .class_ 6), (1, u "java/lang/Object"), (0, u "<init>"), (0, u "()V"), (89, .class_ 100), (1, u "java/lang/Math$RandomNumberGeneratorHolder"), (71, u "negativeZeroFloatBits"), (0, u "J"), (2, u "negativeZeroDoubleBits"), (24, u "min"), (43, u "$assertionsDisabled"), (0, u "Z"), (88, u "(II)I"), (2, u "twoToTheDoubleScaleDown"), (0, u "D"), (4, u "twoToTheDoubleScaleUp"), (9, u "E"), (3, u "PI"), (2, u "TAU"), (2, u "DEGREES_TO_RADIANS"), (0, u "RADIANS_TO_DEGREES")] 94

def k17m0 : Method := { name := "<init>", desc := "()V", sig := { parameters := [], returnType := none }, accessFlags := 2, code := none }
def k17c1 : Code := { maxStack := 2, maxLocals := 2, code := jdk_29_method_69_code, exceptionTable := #[], attributes := #[] }
def k17m1 : Method := { name := "min", desc := "(II)I", sig := { parameters := [.int, .int], returnType := some .int }, accessFlags := 9, code := some k17c1 }
/-- java/lang/Math -/
def k17 : Class := { plain "java/lang/Math" (some 0) with
  accessFlags := 49
  interfaces := #[]
  cf := some (fileOf pool17 1 #[.nestMembers #[98]] #[{ accessFlags := 2, nameIndex := 7, descriptorIndex := 8, attributes := #[] }, { accessFlags := 9, nameIndex := 201, descriptorIndex := 335, attributes := #[] }] 49 4 #[] #[{ accessFlags := 25, nameIndex := 354, descriptorIndex := 339, attributes := #[] }, { accessFlags := 25, nameIndex := 358, descriptorIndex := 339, attributes := #[] }, { accessFlags := 25, nameIndex := 361, descriptorIndex := 339, attributes := #[] }, { accessFlags := 26, nameIndex := 364, descriptorIndex := 339, attributes := #[] }, { accessFlags := 26, nameIndex := 365, descriptorIndex := 339, attributes := #[] }, { accessFlags := 26, nameIndex := 172, descriptorIndex := 173, attributes := #[] }, { accessFlags := 26, nameIndex := 176, descriptorIndex := 173, attributes := #[] }, { accessFlags := 8, nameIndex := 344, descriptorIndex := 339, attributes := #[] }, { accessFlags := 8, nameIndex := 338, descriptorIndex := 339, attributes := #[] }, { accessFlags := 4120, nameIndex := 245, descriptorIndex := 246, attributes := #[] }])
  fields := #[{ name := "E", type := .double, accessFlags := 25, slot := 0, constantValue := 0 }, { name := "PI", type := .double, accessFlags := 25, slot := 1, constantValue := 0 }, { name := "TAU", type := .double, accessFlags := 25, slot := 2, constantValue := 0 }, { name := "DEGREES_TO_RADIANS", type := .double, accessFlags := 26, slot := 3, constantValue := 0 }, { name := "RADIANS_TO_DEGREES", type := .double, accessFlags := 26, slot := 4, constantValue := 0 }, { name := "negativeZeroFloatBits", type := .long, accessFlags := 26, slot := 5, constantValue := 0 }, { name := "negativeZeroDoubleBits", type := .long, accessFlags := 26, slot := 6, constantValue := 0 }, { name := "twoToTheDoubleScaleUp", type := .double, accessFlags := 8, slot := 7, constantValue := 0 }, { name := "twoToTheDoubleScaleDown", type := .double, accessFlags := 8, slot := 8, constantValue := 0 }, { name := "$assertionsDisabled", type := .boolean, accessFlags := 4120, slot := 9, constantValue := 0 }]
  methods := #[k17m0, k17m1]
  instanceTypes := #[]
  staticTypes := #[.double, .double, .double, .double, .double, .long, .long, .double, .double, .boolean]
  resolved := Array.replicate 460 none
  statics := none }

def pool18 : Array CpInfo := pool [(1, .class_ 2), (0, u "java/lang/String"), (1, .class_ 6), (1, u "java/lang/Object"), (0, u "<init>"), (0, u "()V"), (0, .methodref 1 10), (0, .nameAndType 11 12), (0, u "checkIndex"), (0, u "(II)V"), (1, .class_ 16), (1, u "java/lang/StringLatin1"), (36, u "([BI)C"), (36, u "canEncode"), (14, u "(C)Z"), (15, u "$assertionsDisabled"), (0, u "Z"), (98, .class_ 223), (1, u "java/lang/StringLatin1$LinesSpliterator"), (28, u "charAt"), (127, u "toBytes"), (1, u "(C)[B"), (7, .class_ 391), (0, u "java/lang/StringLatin1$CharsSpliterator")] 3

def k18m0 : Method := { name := "<init>", desc := "()V", sig := { parameters := [], returnType := none }, accessFlags := 0, code := none }
def k18c1 : Code := { maxStack := 2, maxLocals := 2, code := jdk_43_method_2_code, exceptionTable := #[], attributes := #[] }
def k18m1 : Method := { name := "charAt", desc := "([BI)C", sig := { parameters := [(.array .byte), .int], returnType := some .char }, accessFlags := 9, code := some k18c1 }
def k18c2 : Code := { maxStack := 2, maxLocals := 1, code := jdk_43_method_3_code, exceptionTable := #[], attributes := #[] }
def k18m2 : Method := { name := "canEncode", desc := "(C)Z", sig := { parameters := [.char], returnType := some .boolean }, accessFlags := 9, code := some k18c2 }
def k18c3 : Code := { maxStack := 4, maxLocals := 1, code := jdk_43_method_46_code, exceptionTable := #[], attributes := #[] }
def k18m3 : Method := { name := "toBytes", desc := "(C)[B", sig := { parameters := [.char], returnType := some (.array .byte) }, accessFlags := 9, code := some k18c3 }
/-- java/lang/StringLatin1 -/
def k18 : Class := { plain "java/lang/StringLatin1" (some 0) with
  accessFlags := 48
  interfaces := #[]
  cf := some (fileOf pool18 14 #[.nestMembers #[390, 221]] #[{ accessFlags := 0, nameIndex := 7, descriptorIndex := 8, attributes := #[] }, { accessFlags := 9, nameIndex := 252, descriptorIndex := 53, attributes := #[] }, { accessFlags := 9, nameIndex := 90, descriptorIndex := 105, attributes := #[] }, { accessFlags := 9, nameIndex := 380, descriptorIndex := 382, attributes := #[] }] 48 4 #[] #[{ accessFlags := 4120, nameIndex := 121, descriptorIndex := 122, attributes := #[] }])
  fields := #[{ name := "$assertionsDisabled", type := .boolean, accessFlags := 4120, slot := 0, constantValue := 0 }]
  methods := #[k18m0, k18m1, k18m2, k18m3]
  instanceTypes := #[]
  staticTypes := #[.boolean]
  resolved := Array.replicate 395 none
  statics := none }

def pool19 : Array CpInfo := pool [(2, .class_ 4), (1, u "java/lang/Object"), (0, u "<init>"), (0, u "()V"), (17, .class_ 26), (1, u "jdk/internal/util/Preconditions"), (6, u "checkIndex"), (21, .class_ 56), (0, u "jdk/internal/util/Preconditions$4"), (57, .class_ 115), (0, u "jdk/internal/util/Preconditions$1"), (7, u "SIOOBE_FORMATTER"), (0, u "Ljava/util/function/BiFunction;"), (0, .class_ 126), (0, u "jdk/internal/util/Preconditions$2"), (3, u "AIOOBE_FORMATTER"), (0, .class_ 132), (0, u "jdk/internal/util/Preconditions$3"), (3, u "IOOBE_FORMATTER"), (41, u "(IILjava/util/function/BiFunction;)I")] 15

def k19m0 : Method := { name := "<init>", desc := "()V", sig := { parameters := [], returnType := none }, accessFlags := 1, code := none }
def k19c1 : Code := { maxStack := 3, maxLocals := 3, code := jdk_41_method_11_code, exceptionTable := #[], attributes := #[] }
def k19m1 : Method := { name := "checkIndex", desc := "(IILjava/util/function/BiFunction;)I", sig := { parameters := [.int, .int, (.object "java/util/function/BiFunction")], returnType := some .int }, accessFlags := 9, code := some k19c1 }
/-- jdk/internal/util/Preconditions -/
def k19 : Class := { plain "jdk/internal/util/Preconditions" (some 0) with
  accessFlags := 33
  interfaces := #[]
  cf := some (fileOf pool19 24 #[.nestMembers #[55, 131, 125, 114]] #[{ accessFlags := 1, nameIndex := 5, descriptorIndex := 6, attributes := #[] }, { accessFlags := 9, nameIndex := 33, descriptorIndex := 178, attributes := #[] }] 33 2 #[] #[{ accessFlags := 25, nameIndex := 123, descriptorIndex := 124, attributes := #[] }, { accessFlags := 25, nameIndex := 130, descriptorIndex := 124, attributes := #[] }, { accessFlags := 25, nameIndex := 136, descriptorIndex := 124, attributes := #[] }])
  fields := #[{ name := "SIOOBE_FORMATTER", type := (.object "java/util/function/BiFunction"), accessFlags := 25, slot := 0, constantValue := 0 }, { name := "AIOOBE_FORMATTER", type := (.object "java/util/function/BiFunction"), accessFlags := 25, slot := 1, constantValue := 0 }, { name := "IOOBE_FORMATTER", type := (.object "java/util/function/BiFunction"), accessFlags := 25, slot := 2, constantValue := 0 }]
  methods := #[k19m0, k19m1]
  instanceTypes := #[]
  staticTypes := #[(.object "java/util/function/BiFunction"), (.object "java/util/function/BiFunction"), (.object "java/util/function/BiFunction")]
  resolved := Array.replicate 194 none
  statics := some 1 }

def pool20 : Array CpInfo := pool [(6, .class_ 8), (1, u "java/lang/Object"), (0, u "<init>"), (0, u "()V"), (1, .class_ 14), (1, u "java/lang/StringUTF16"), (31, u "$assertionsDisabled"), (0, u "Z"), (13, u "HI_BYTE_SHIFT"), (0, u "I"), (2, u "LO_BYTE_SHIFT"), (49, .methodref 12 116), (0, .nameAndType 117 118), (0, u "compress"), (0, u "([CI[BII)I"), (3, u "([CII)[B"), (138, u "coderFromArrayLen"), (0, u "([BI)B"), (106, .class_ 371), (1, u "java/lang/StringUTF16$LinesSpliterator"), (58, u "MAX_LENGTH"), (196, .class_ 628), (0, u "java/lang/StringUTF16$CodePointsSpliterator"), (0, .class_ 630), (0, u "java/lang/StringUTF16$CharsSpliterator")] 4

def k20m0 : Method := { name := "<init>", desc := "()V", sig := { parameters := [], returnType := none }, accessFlags := 0, code := none }
def k20c1 : Code := { maxStack := 2, maxLocals := 2, code := jdk_52_method_15_code, exceptionTable := #[], attributes := #[] }
def k20m1 : Method := { name := "coderFromArrayLen", desc := "([BI)B", sig := { parameters := [(.array .byte), .int], returnType := some .byte }, accessFlags := 8, code := some k20c1 }
def k20c2 : Code := { maxStack := 5, maxLocals := 6, code := jdk_52_method_16_code, exceptionTable := #[], attributes := #[] }
def k20m2 : Method := { name := "compress", desc := "([CII)[B", sig := { parameters := [(.array .char), .int, .int], returnType := some (.array .byte) }, accessFlags := 9, code := some k20c2 }
def k20c3 : Code := { maxStack := 3, maxLocals := 7, code := jdk_52_method_21_code, exceptionTable := #[], attributes := #[] }
def k20m3 : Method := { name := "compress", desc := "([CI[BII)I", sig := { parameters := [(.array .char), .int, (.array .byte), .int, .int], returnType := some .int }, accessFlags := 9, code := some k20c3 }
/-- java/lang/StringUTF16 -/
def k20 : Class := { plain "java/lang/StringUTF16" (some 0) with
  accessFlags := 48
  interfaces := #[]
  cf := some (fileOf pool20 12 #[.nestMembers #[627, 629, 369]] #[{ accessFlags := 0, nameIndex := 9, descriptorIndex := 10, attributes := #[] }, { accessFlags := 8, nameIndex := 261, descriptorIndex := 262, attributes := #[] }, { accessFlags := 9, nameIndex := 117, descriptorIndex := 122, attributes := #[] }, { accessFlags := 9, nameIndex := 117, descriptorIndex := 118, attributes := #[] }] 48 6 #[] #[{ accessFlags := 26, nameIndex := 61, descriptorIndex := 62, attributes := #[] }, { accessFlags := 26, nameIndex := 65, descriptorIndex := 62, attributes := #[] }, { accessFlags := 24, nameIndex := 430, descriptorIndex := 62, attributes := #[] }, { accessFlags := 4120, nameIndex := 46, descriptorIndex := 47, attributes := #[] }])
  fields := #[{ name := "HI_BYTE_SHIFT", type := .int, accessFlags := 26, slot := 0, constantValue := 0 }, { name := "LO_BYTE_SHIFT", type := .int, accessFlags := 26, slot := 1, constantValue := 0 }, { name := "MAX_LENGTH", type := .int, accessFlags := 24, slot := 2, constantValue := 0 }, { name := "$assertionsDisabled", type := .boolean, accessFlags := 4120, slot := 3, constantValue := 0 }]
  methods := #[k20m0, k20m1, k20m2, k20m3]
  instanceTypes := #[]
  staticTypes := #[.int, .int, .int, .boolean]
  resolved := Array.replicate 635 none
  statics := none }

def pool21 : Array CpInfo := pool [(9, u "<init>"), (6, .class_ 18), (1, u "java/lang/Object"), (0, u "()V"), (1, .class_ 23), (1, u "jdk/internal/util/ArraysSupport"), (0, u "LOG2_ARRAY_LONG_INDEX_SCALE"), (0, u "I"), (2, u "U"), (0, u "Ljdk/internal/misc/Unsafe;"), (8, u "BIG_ENDIAN"), (0, u "Z"), (8, u "LOG2_BYTE_BIT_SIZE"), (4, u "LOG2_ARRAY_INT_INDEX_SCALE"), (54, u "JLA"), (0, u "Ljdk/internal/access/JavaLangAccess;"), (11, u "LOG2_ARRAY_BOOLEAN_INDEX_SCALE"), (9, u "LOG2_ARRAY_BYTE_INDEX_SCALE"), (5, u "LOG2_ARRAY_CHAR_INDEX_SCALE"), (5, u "LOG2_ARRAY_SHORT_INDEX_SCALE"), (18, u "LOG2_ARRAY_FLOAT_INDEX_SCALE"), (24, u "LOG2_ARRAY_DOUBLE_INDEX_SCALE"), (89, u "T_BOOLEAN"), (2, u "T_CHAR"), (1, u "T_FLOAT"), (1, u "T_DOUBLE"), (1, u "T_BYTE"), (1, u "T_SHORT"), (1, u "T_INT"), (1, u "T_LONG"), (1, u "SOFT_MAX_ARRAY_LENGTH")] 83

def k21m0 : Method := { name := "<init>", desc := "()V", sig := { parameters := [], returnType := none }, accessFlags := 2, code := none }
/-- jdk/internal/util/ArraysSupport -/
def k21 : Class := { plain "jdk/internal/util/ArraysSupport" (some 0) with
  accessFlags := 33
  interfaces := #[]
  cf := some (fileOf pool21 21 #[] #[{ accessFlags := 2, nameIndex := 9, descriptorIndex := 19, attributes := #[] }] 33 16 #[] #[{ accessFlags := 24, nameIndex := 28, descriptorIndex := 29, attributes := #[] }, { accessFlags := 26, nameIndex := 38, descriptorIndex := 39, attributes := #[] }, { accessFlags := 25, nameIndex := 121, descriptorIndex := 25, attributes := #[] }, { accessFlags := 25, nameIndex := 131, descriptorIndex := 25, attributes := #[] }, { accessFlags := 25, nameIndex := 137, descriptorIndex := 25, attributes := #[] }, { accessFlags := 25, nameIndex := 143, descriptorIndex := 25, attributes := #[] }, { accessFlags := 25, nameIndex := 53, descriptorIndex := 25, attributes := #[] }, { accessFlags := 25, nameIndex := 24, descriptorIndex := 25, attributes := #[] }, { accessFlags := 25, nameIndex := 162, descriptorIndex := 25, attributes := #[] }, { accessFlags := 25, nameIndex := 187, descriptorIndex := 25, attributes := #[] }, { accessFlags := 26, nameIndex := 48, descriptorIndex := 25, attributes := #[] }, { accessFlags := 25, nameIndex := 277, descriptorIndex := 25, attributes := #[] }, { accessFlags := 25, nameIndex := 280, descriptorIndex := 25, attributes := #[] }, { accessFlags := 25, nameIndex := 282, descriptorIndex := 25, attributes := #[] }, { accessFlags := 25, nameIndex := 284, descriptorIndex := 25, attributes := #[] }, { accessFlags := 25, nameIndex := 286, descriptorIndex := 25, attributes := #[] }, { accessFlags := 25, nameIndex := 288, descriptorIndex := 25, attributes := #[] }, { accessFlags := 25, nameIndex := 290, descriptorIndex := 25, attributes := #[] }, { accessFlags := 25, nameIndex := 292, descriptorIndex := 25, attributes := #[] }, { accessFlags := 26, nameIndex := 108, descriptorIndex := 109, attributes := #[] }, { accessFlags := 25, nameIndex := 294, descriptorIndex := 25, attributes := #[] }])
  fields := #[{ name := "U", type := (.object "jdk/internal/misc/Unsafe"), accessFlags := 24, slot := 0, constantValue := 0 }, { name := "BIG_ENDIAN", type := .boolean, accessFlags := 26, slot := 1, constantValue := 0 }, { name := "LOG2_ARRAY_BOOLEAN_INDEX_SCALE", type := .int, accessFlags := 25, slot := 2, constantValue := 0 }, { name := "LOG2_ARRAY_BYTE_INDEX_SCALE", type := .int, accessFlags := 25, slot := 3, constantValue := 0 }, { name := "LOG2_ARRAY_CHAR_INDEX_SCALE", type := .int, accessFlags := 25, slot := 4, constantValue := 0 }, { name := "LOG2_ARRAY_SHORT_INDEX_SCALE", type := .int, accessFlags := 25, slot := 5, constantValue := 0 }, { name := "LOG2_ARRAY_INT_INDEX_SCALE", type := .int, accessFlags := 25, slot := 6, constantValue := 0 }, { name := "LOG2_ARRAY_LONG_INDEX_SCALE", type := .int, accessFlags := 25, slot := 7, constantValue := 0 }, { name := "LOG2_ARRAY_FLOAT_INDEX_SCALE", type := .int, accessFlags := 25, slot := 8, constantValue := 0 }, { name := "LOG2_ARRAY_DOUBLE_INDEX_SCALE", type := .int, accessFlags := 25, slot := 9, constantValue := 0 }, { name := "LOG2_BYTE_BIT_SIZE", type := .int, accessFlags := 26, slot := 10, constantValue := 0 }, { name := "T_BOOLEAN", type := .int, accessFlags := 25, slot := 11, constantValue := 0 }, { name := "T_CHAR", type := .int, accessFlags := 25, slot := 12, constantValue := 0 }, { name := "T_FLOAT", type := .int, accessFlags := 25, slot := 13, constantValue := 0 }, { name := "T_DOUBLE", type := .int, accessFlags := 25, slot := 14, constantValue := 0 }, { name := "T_BYTE", type := .int, accessFlags := 25, slot := 15, constantValue := 0 }, { name := "T_SHORT", type := .int, accessFlags := 25, slot := 16, constantValue := 0 }, { name := "T_INT", type := .int, accessFlags := 25, slot := 17, constantValue := 0 }, { name := "T_LONG", type := .int, accessFlags := 25, slot := 18, constantValue := 0 }, { name := "JLA", type := (.object "jdk/internal/access/JavaLangAccess"), accessFlags := 26, slot := 19, constantValue := 0 }, { name := "SOFT_MAX_ARRAY_LENGTH", type := .int, accessFlags := 25, slot := 20, constantValue := 0 }]
  methods := #[k21m0]
  instanceTypes := #[]
  staticTypes := #[(.object "jdk/internal/misc/Unsafe"), .boolean, .int, .int, .int, .int, .int, .int, .int, .int, .int, .int, .int, .int, .int, .int, .int, .int, .int, (.object "jdk/internal/access/JavaLangAccess"), .int]
  resolved := Array.replicate 378 none
  statics := none }

def pool22 : Array CpInfo := pool [(1, u "java/lang/Cloneable"), (0, .class_ 1), (0, u "java/lang/Object"), (0, .class_ 3)] 3

/-- java/lang/Cloneable -/
def k22 : Class := { plain "java/lang/Cloneable" (some 0) with
  accessFlags := 1537
  interfaces := #[]
  cf := some (fileOf pool22 2 #[] #[] 1537 4 #[] #[])
  fields := #[]
  methods := #[]
  instanceTypes := #[]
  staticTypes := #[]
  resolved := Array.replicate 8 none
  statics := none }

/-- the primitive byte -/
def k23 : Class := { plain "byte" none with kind := .primitive 'B', accessFlags := 0x411 }
/-- [B -/
def k24 : Class := { plain "[B" (some 0) with kind := .array 23 .byte, interfaces := #[22, 2], accessFlags := 1041 }

/-- the primitive char -/
def k25 : Class := { plain "char" none with kind := .primitive 'C', accessFlags := 0x411 }
/-- [C -/
def k26 : Class := { plain "[C" (some 0) with kind := .array 25 .char, interfaces := #[22, 2], accessFlags := 1041 }

/-- the primitive int -/
def k27 : Class := { plain "int" none with kind := .primitive 'I', accessFlags := 0x411 }
/-- [I -/
def k28 : Class := { plain "[I" (some 0) with kind := .array 27 .int, interfaces := #[22, 2], accessFlags := 1041 }

def heap : Heap := #[{ cls := 7, slots := #[.long 0, .int 1, .null, .int 0, .null, .int 0, .int 0], vm := .statics 7 },
  { cls := 19, slots := #[.null, .null, .null], vm := .statics 19 }]
def classes : Array Class := #[k0, k1, k2, k3, k4, k5, k6, k7, k8, k9, k10, k11, k12, k13, k14, k15, k16, k17, k18, k19, k20, k21, k22, k23, k24, k25, k26, k27, k28]
def interned : List (Array UInt16 × Addr) := []
def slotsUsed : Nat := 10
def theMethod : MethodId := ⟨1, 1⟩
def args0 : Array Value := #[.int 5, .int 6, .int 7, .int 8, .int 9]
def aboutOver (below : List Frame) : State where
  vm := { classes := classes, interned := interned.toArray }
  heap := heap
  slotsUsed := slotsUsed
  threads := #[{ frames := .invoking theMethod args0 :: below }]
def below0 : List Frame := [.native { method := ⟨0, 0⟩, args := #[] }]
def about1 : State := aboutOver below0
def p0 : Program := .bare "" "" ""
def e0 : Env := launch0.env 0 0 0
theorem w_frames : about1.frames = Frame.invoking theMethod args0 :: below0 := rfl
set_option maxRecDepth 65536 in
theorem w_args : argsFit about1.vm theMethod args0 = true := by decide +kernel
set_option maxRecDepth 65536 in
theorem w_heap : heapFits about1 = true := by decide +kernel
set_option maxRecDepth 65536 in
theorem w_runnable : about1.curStatus? = some .runnable := by decide +kernel
set_option maxRecDepth 65536 in
theorem w_alone : about1.alone = true := by decide +kernel
set_option maxRecDepth 65536 in
theorem w_named : about1.methodNamed? x = some theMethod := by decide +kernel
set_option maxRecDepth 65536 in
theorem w_hears : about1.hears theMethod below0 = true := by decide +kernel
set_option maxRecDepth 65536 in
theorem w_ripe : about1.ripe theMethod args0 below0 = true := by decide +kernel
theorem w_running : about1.status = .running := rfl
set_option maxRecDepth 65536 in
theorem w_room : about1.hasRoom e0.platform room_1 = true :=
  launch0.hasRoom_least _ room_1 (by decide +kernel) (by decide +kernel) (by decide +kernel) (by decide +kernel) (by decide +kernel) (by decide +kernel)
theorem allAtoms_all (ts : List Jvm.Cond) (a : Array Jvm.Value) (st : Jvm.State) : (allAtoms ts).before a st = ts.all (fun c => c.before a st) := by
  induction ts with
  | nil => rfl
  | cons c t ih =>
    show (Jvm.Cond.and c (allAtoms t)).before a st = _
    rw [Jvm.Cond.before_and, ih, List.all_cons]
def words1 : List Jvm.Cond := Jvm.Cond.code x code maxLocals ret :: tables_1
/-- a 'code' word, met by the world's own term for the bytes: nothing is compared byte by byte -/
theorem code_word {y : MethodName} {bytes : ByteArray} {mx : Nat} {rt : Option FieldType} {a : Array Value} {s : State} {m : MethodId} {meth : Method} {c : Code} (h1 : s.methodNamed? y = some m) (h2 : s.vm.method? m = some meth) (h3 : meth.code = some c) (h4 : c.code = bytes)
    (h5 : (c.maxLocals == mx && c.exceptionTable.isEmpty && decide (c.maxStack ≤ mostOperands) && decide (meth.sig.returnType = rt) && !meth.locks && decide (parseMethodDescriptor y.desc = some meth.sig)) = true) : (Jvm.Cond.code y bytes mx rt).before a s = true := by
  simp only [Bool.and_eq_true, beq_iff_eq, Bool.not_eq_true', decide_eq_true_eq] at h5
  obtain ⟨⟨⟨⟨⟨g1, g2⟩, g3⟩, g4⟩, g5⟩, g6⟩ := h5
  simp [Cond.before, Cond.holds, Cond.value, h1, h2, h3, h4, g1, g2, g3, g4, g5, g6]
def isCode : Jvm.Cond → Bool
  | .code _ _ _ _ => true
  | _ => false
theorem all_split {L : List Jvm.Cond} {P : Jvm.Cond → Bool} (h1 : L.all (fun c => isCode c || P c) = true) (h2 : ∀ c ∈ L.filter isCode, P c = true) : L.all P = true := by
  refine List.all_eq_true.mpr fun c hc => ?_
  have h := List.all_eq_true.mp h1 c hc
  rcases Bool.eq_false_or_eq_true (isCode c) with hi | hi
  · exact h2 c (List.mem_filter.mpr ⟨hc, hi⟩)
  · simpa [hi] using h
set_option maxRecDepth 65536 in
theorem w_c0 : (Jvm.Cond.code x code maxLocals ret).before args0 about1 = true := code_word (m := ⟨1, 1⟩) (meth := k1m1) (c := k1c1) (by decide +kernel) rfl rfl rfl (by decide +kernel)
set_option maxRecDepth 65536 in
theorem w_c1 : (Jvm.Cond.code ({ cls := "com/example/lectern/lectern/demo/ProfileSaveNetPinLaw", name := "str", desc := "(II)Ljava/lang/String;" } : Jvm.MethodName) method_3_code (4 : Nat) (Option.some (Jvm.ClassFile.FieldType.object "java/lang/String"))).before args0 about1 = true := code_word (m := ⟨1, 2⟩) (meth := k1m2) (c := k1c2) (by decide +kernel) rfl rfl rfl (by decide +kernel)
set_option maxRecDepth 65536 in
theorem w_c2 : (Jvm.Cond.code ({ cls := "com/example/lectern/lectern/demo/Profile", name := "<init>", desc := "()V" } : Jvm.MethodName) prog_31_method_1_code (1 : Nat) (Option.none : Option Jvm.ClassFile.FieldType)).before args0 about1 = true := code_word (m := ⟨11, 0⟩) (meth := k11m0) (c := k11c0) (by decide +kernel) rfl rfl rfl (by decide +kernel)
set_option maxRecDepth 65536 in
theorem w_c3 : (Jvm.Cond.code ({ cls := "java/lang/Object", name := "<init>", desc := "()V" } : Jvm.MethodName) object_method_1_code (1 : Nat) (Option.none : Option Jvm.ClassFile.FieldType)).before args0 about1 = true := code_word (m := ⟨0, 0⟩) (meth := k0m0) (c := k0c0) (by decide +kernel) rfl rfl rfl (by decide +kernel)
set_option maxRecDepth 65536 in
theorem w_c4 : (Jvm.Cond.code ({ cls := "com/example/lectern/lectern/demo/Profile", name := "setNicknameNet", desc := "(Ljava/lang/String;)V" } : Jvm.MethodName) prog_31_method_3_code (2 : Nat) (Option.none : Option Jvm.ClassFile.FieldType)).before args0 about1 = true := code_word (m := ⟨11, 1⟩) (meth := k11m1) (c := k11c1) (by decide +kernel) rfl rfl rfl (by decide +kernel)
set_option maxRecDepth 65536 in
theorem w_c5 : (Jvm.Cond.code ({ cls := "com/example/lectern/lectern/demo/Profile", name := "setAgeNet", desc := "(Ljava/lang/String;)V" } : Jvm.MethodName) prog_31_method_4_code (2 : Nat) (Option.none : Option Jvm.ClassFile.FieldType)).before args0 about1 = true := code_word (m := ⟨11, 2⟩) (meth := k11m2) (c := k11c2) (by decide +kernel) rfl rfl rfl (by decide +kernel)
set_option maxRecDepth 65536 in
theorem w_c6 : (Jvm.Cond.code ({ cls := "com/example/lectern/lectern/demo/Profile", name := "saveNet", desc := "()V" } : Jvm.MethodName) prog_31_method_6_code (1 : Nat) (Option.none : Option Jvm.ClassFile.FieldType)).before args0 about1 = true := code_word (m := ⟨11, 3⟩) (meth := k11m3) (c := k11c3) (by decide +kernel) rfl rfl rfl (by decide +kernel)
set_option maxRecDepth 65536 in
theorem w_c7 : (Jvm.Cond.code ({ cls := "com/example/lectern/lectern/demo/Profile", name := "saved", desc := "()Ljava/lang/String;" } : Jvm.MethodName) prog_31_method_10_code (1 : Nat) (Option.some (Jvm.ClassFile.FieldType.object "java/lang/String"))).before args0 about1 = true := code_word (m := ⟨11, 6⟩) (meth := k11m6) (c := k11c6) (by decide +kernel) rfl rfl rfl (by decide +kernel)
set_option maxRecDepth 65536 in
theorem w_c8 : (Jvm.Cond.code ({ cls := "java/lang/StringBuilder", name := "<init>", desc := "()V" } : Jvm.MethodName) jdk_67_method_1_code (1 : Nat) (Option.none : Option Jvm.ClassFile.FieldType)).before args0 about1 = true := code_word (m := ⟨14, 0⟩) (meth := k14m0) (c := k14c0) (by decide +kernel) rfl rfl rfl (by decide +kernel)
set_option maxRecDepth 65536 in
theorem w_c9 : (Jvm.Cond.code ({ cls := "java/lang/AbstractStringBuilder", name := "<init>", desc := "(I)V" } : Jvm.MethodName) jdk_68_method_2_code (2 : Nat) (Option.none : Option Jvm.ClassFile.FieldType)).before args0 about1 = true := code_word (m := ⟨13, 1⟩) (meth := k13m1) (c := k13c1) (by decide +kernel) rfl rfl rfl (by decide +kernel)
set_option maxRecDepth 65536 in
theorem w_c10 : (Jvm.Cond.code ({ cls := "java/lang/StringBuilder", name := "append", desc := "(Ljava/lang/String;)Ljava/lang/StringBuilder;" } : Jvm.MethodName) jdk_67_method_7_code (2 : Nat) (Option.some (Jvm.ClassFile.FieldType.object "java/lang/StringBuilder"))).before args0 about1 = true := code_word (m := ⟨14, 1⟩) (meth := k14m1) (c := k14c1) (by decide +kernel) rfl rfl rfl (by decide +kernel)
set_option maxRecDepth 65536 in
theorem w_c11 : (Jvm.Cond.code ({ cls := "java/lang/AbstractStringBuilder", name := "append", desc := "(Ljava/lang/String;)Ljava/lang/AbstractStringBuilder;" } : Jvm.MethodName) jdk_68_method_22_code (3 : Nat) (Option.some (Jvm.ClassFile.FieldType.object "java/lang/AbstractStringBuilder"))).before args0 about1 = true := code_word (m := ⟨13, 4⟩) (meth := k13m4) (c := k13c4) (by decide +kernel) rfl rfl rfl (by decide +kernel)
set_option maxRecDepth 65536 in
theorem w_c12 : (Jvm.Cond.code ({ cls := "java/lang/String", name := "length", desc := "()I" } : Jvm.MethodName) jdk_42_method_54_code (1 : Nat) (Option.some Jvm.ClassFile.FieldType.int)).before args0 about1 = true := code_word (m := ⟨7, 3⟩) (meth := k7m3) (c := k7c3) (by decide +kernel) rfl rfl rfl (by decide +kernel)
set_option maxRecDepth 65536 in
theorem w_c13 : (Jvm.Cond.code ({ cls := "java/lang/String", name := "coder", desc := "()B" } : Jvm.MethodName) jdk_42_method_152_code (1 : Nat) (Option.some Jvm.ClassFile.FieldType.byte)).before args0 about1 = true := code_word (m := ⟨7, 11⟩) (meth := k7m11) (c := k7c11) (by decide +kernel) rfl rfl rfl (by decide +kernel)
set_option maxRecDepth 65536 in
theorem w_c14 : (Jvm.Cond.code ({ cls := "java/lang/AbstractStringBuilder", name := "ensureCapacityInternal", desc := "(I)V" } : Jvm.MethodName) jdk_68_method_9_code (3 : Nat) (Option.none : Option Jvm.ClassFile.FieldType)).before args0 about1 = true := code_word (m := ⟨13, 3⟩) (meth := k13m3) (c := k13c3) (by decide +kernel) rfl rfl rfl (by decide +kernel)
set_option maxRecDepth 65536 in
theorem w_c15 : (Jvm.Cond.code ({ cls := "java/lang/AbstractStringBuilder", name := "putStringAt", desc := "(ILjava/lang/String;)V" } : Jvm.MethodName) jdk_68_method_73_code (3 : Nat) (Option.none : Option Jvm.ClassFile.FieldType)).before args0 about1 = true := code_word (m := ⟨13, 8⟩) (meth := k13m8) (c := k13c8) (by decide +kernel) rfl rfl rfl (by decide +kernel)
set_option maxRecDepth 65536 in
theorem w_c16 : (Jvm.Cond.code ({ cls := "java/lang/AbstractStringBuilder", name := "inflateIfNeededFor", desc := "(Ljava/lang/String;)V" } : Jvm.MethodName) jdk_68_method_71_code (2 : Nat) (Option.none : Option Jvm.ClassFile.FieldType)).before args0 about1 = true := code_word (m := ⟨13, 7⟩) (meth := k13m7) (c := k13c7) (by decide +kernel) rfl rfl rfl (by decide +kernel)
set_option maxRecDepth 65536 in
theorem w_c17 : (Jvm.Cond.code ({ cls := "java/lang/String", name := "getBytes", desc := "([BIB)V" } : Jvm.MethodName) jdk_42_method_147_code (4 : Nat) (Option.none : Option Jvm.ClassFile.FieldType)).before args0 about1 = true := code_word (m := ⟨7, 7⟩) (meth := k7m7) (c := k7c7) (by decide +kernel) rfl rfl rfl (by decide +kernel)
set_option maxRecDepth 65536 in
theorem w_c18 : (Jvm.Cond.code ({ cls := "java/lang/StringBuilder", name := "toString", desc := "()Ljava/lang/String;" } : Jvm.MethodName) jdk_67_method_42_code (1 : Nat) (Option.some (Jvm.ClassFile.FieldType.object "java/lang/String"))).before args0 about1 = true := code_word (m := ⟨14, 2⟩) (meth := k14m2) (c := k14c2) (by decide +kernel) rfl rfl rfl (by decide +kernel)
set_option maxRecDepth 65536 in
theorem w_c19 : (Jvm.Cond.code ({ cls := "java/lang/String", name := "<init>", desc := "(Ljava/lang/StringBuilder;)V" } : Jvm.MethodName) jdk_42_method_53_code (2 : Nat) (Option.none : Option Jvm.ClassFile.FieldType)).before args0 about1 = true := code_word (m := ⟨7, 2⟩) (meth := k7m2) (c := k7c2) (by decide +kernel) rfl rfl rfl (by decide +kernel)
set_option maxRecDepth 65536 in
theorem w_c20 : (Jvm.Cond.code ({ cls := "java/lang/String", name := "<init>", desc := "(Ljava/lang/AbstractStringBuilder;Ljava/lang/Void;)V" } : Jvm.MethodName) jdk_42_method_150_code (5 : Nat) (Option.none : Option Jvm.ClassFile.FieldType)).before args0 about1 = true := code_word (m := ⟨7, 9⟩) (meth := k7m9) (c := k7c9) (by decide +kernel) rfl rfl rfl (by decide +kernel)
set_option maxRecDepth 65536 in
theorem w_c21 : (Jvm.Cond.code ({ cls := "java/lang/AbstractStringBuilder", name := "getValue", desc := "()[B" } : Jvm.MethodName) jdk_68_method_64_code (1 : Nat) (Option.some (Jvm.ClassFile.FieldType.array Jvm.ClassFile.FieldType.byte))).before args0 about1 = true := code_word (m := ⟨13, 5⟩) (meth := k13m5) (c := k13c5) (by decide +kernel) rfl rfl rfl (by decide +kernel)
set_option maxRecDepth 65536 in
theorem w_c22 : (Jvm.Cond.code ({ cls := "java/lang/StringBuilder", name := "length", desc := "()I" } : Jvm.MethodName) jdk_67_method_93_code (1 : Nat) (Option.some Jvm.ClassFile.FieldType.int)).before args0 about1 = true := code_word (m := ⟨14, 3⟩) (meth := k14m3) (c := k14c3) (by decide +kernel) rfl rfl rfl (by decide +kernel)
set_option maxRecDepth 65536 in
theorem w_c23 : (Jvm.Cond.code ({ cls := "java/lang/AbstractStringBuilder", name := "length", desc := "()I" } : Jvm.MethodName) jdk_68_method_6_code (1 : Nat) (Option.some Jvm.ClassFile.FieldType.int)).before args0 about1 = true := code_word (m := ⟨13, 2⟩) (meth := k13m2) (c := k13c2) (by decide +kernel) rfl rfl rfl (by decide +kernel)
set_option maxRecDepth 65536 in
theorem w_c24 : (Jvm.Cond.code ({ cls := "java/lang/AbstractStringBuilder", name := "isLatin1", desc := "()Z" } : Jvm.MethodName) jdk_68_method_68_code (1 : Nat) (Option.some Jvm.ClassFile.FieldType.boolean)).before args0 about1 = true := code_word (m := ⟨13, 6⟩) (meth := k13m6) (c := k13c6) (by decide +kernel) rfl rfl rfl (by decide +kernel)
set_option maxRecDepth 65536 in
theorem w_c25 : (Jvm.Cond.code ({ cls := "java/util/Arrays", name := "copyOfRange", desc := "([BII)[B" } : Jvm.MethodName) jdk_65_method_132_code (3 : Nat) (Option.some (Jvm.ClassFile.FieldType.array Jvm.ClassFile.FieldType.byte))).before args0 about1 = true := code_word (m := ⟨16, 2⟩) (meth := k16m2) (c := k16c2) (by decide +kernel) rfl rfl rfl (by decide +kernel)
set_option maxRecDepth 65536 in
theorem w_c26 : (Jvm.Cond.code ({ cls := "java/util/Arrays", name := "copyOfRangeByte", desc := "([BII)[B" } : Jvm.MethodName) jdk_65_method_133_code (5 : Nat) (Option.some (Jvm.ClassFile.FieldType.array Jvm.ClassFile.FieldType.byte))).before args0 about1 = true := code_word (m := ⟨16, 3⟩) (meth := k16m3) (c := k16c3) (by decide +kernel) rfl rfl rfl (by decide +kernel)
set_option maxRecDepth 65536 in
theorem w_c27 : (Jvm.Cond.code ({ cls := "java/util/Arrays", name := "checkLength", desc := "(II)V" } : Jvm.MethodName) jdk_65_method_131_code (2 : Nat) (Option.none : Option Jvm.ClassFile.FieldType)).before args0 about1 = true := code_word (m := ⟨16, 1⟩) (meth := k16m1) (c := k16c1) (by decide +kernel) rfl rfl rfl (by decide +kernel)
set_option maxRecDepth 65536 in
theorem w_c28 : (Jvm.Cond.code ({ cls := "java/lang/Math", name := "min", desc := "(II)I" } : Jvm.MethodName) jdk_29_method_69_code (2 : Nat) (Option.some Jvm.ClassFile.FieldType.int)).before args0 about1 = true := code_word (m := ⟨17, 1⟩) (meth := k17m1) (c := k17c1) (by decide +kernel) rfl rfl rfl (by decide +kernel)
set_option maxRecDepth 65536 in
theorem w_c29 : (Jvm.Cond.code ({ cls := "com/example/lectern/lectern/demo/ProfileSaveNetPinLaw", name := "matches", desc := "(Ljava/lang/String;Ljava/lang/String;Ljava/lang/String;)Z" } : Jvm.MethodName) method_4_code (3 : Nat) (Option.some Jvm.ClassFile.FieldType.boolean)).before args0 about1 = true := code_word (m := ⟨1, 3⟩) (meth := k1m3) (c := k1c3) (by decide +kernel) rfl rfl rfl (by decide +kernel)
set_option maxRecDepth 65536 in
theorem w_c30 : (Jvm.Cond.code ({ cls := "com/example/lectern/lectern/demo/ProfileSaveNetPinLaw", name := "at", desc := "(Ljava/lang/String;Ljava/lang/String;Ljava/lang/String;I)Z" } : Jvm.MethodName) method_5_code (5 : Nat) (Option.some Jvm.ClassFile.FieldType.boolean)).before args0 about1 = true := code_word (m := ⟨1, 4⟩) (meth := k1m4) (c := k1c4) (by decide +kernel) rfl rfl rfl (by decide +kernel)
set_option maxRecDepth 65536 in
theorem w_c31 : (Jvm.Cond.code ({ cls := "java/lang/String", name := "charAt", desc := "(I)C" } : Jvm.MethodName) jdk_42_method_56_code (2 : Nat) (Option.some Jvm.ClassFile.FieldType.char)).before args0 about1 = true := code_word (m := ⟨7, 4⟩) (meth := k7m4) (c := k7c4) (by decide +kernel) rfl rfl rfl (by decide +kernel)
set_option maxRecDepth 65536 in
theorem w_c32 : (Jvm.Cond.code ({ cls := "java/lang/String", name := "isLatin1", desc := "()Z" } : Jvm.MethodName) jdk_42_method_154_code (1 : Nat) (Option.some Jvm.ClassFile.FieldType.boolean)).before args0 about1 = true := code_word (m := ⟨7, 12⟩) (meth := k7m12) (c := k7c12) (by decide +kernel) rfl rfl rfl (by decide +kernel)
set_option maxRecDepth 65536 in
theorem w_c33 : (Jvm.Cond.code ({ cls := "java/lang/StringLatin1", name := "charAt", desc := "([BI)C" } : Jvm.MethodName) jdk_43_method_2_code (2 : Nat) (Option.some Jvm.ClassFile.FieldType.char)).before args0 about1 = true := code_word (m := ⟨18, 1⟩) (meth := k18m1) (c := k18c1) (by decide +kernel) rfl rfl rfl (by decide +kernel)
set_option maxRecDepth 65536 in
theorem w_c34 : (Jvm.Cond.code ({ cls := "java/lang/String", name := "checkIndex", desc := "(II)V" } : Jvm.MethodName) jdk_42_method_155_code (2 : Nat) (Option.none : Option Jvm.ClassFile.FieldType)).before args0 about1 = true := code_word (m := ⟨7, 13⟩) (meth := k7m13) (c := k7c13) (by decide +kernel) rfl rfl rfl (by decide +kernel)
set_option maxRecDepth 65536 in
theorem w_c35 : (Jvm.Cond.code ({ cls := "jdk/internal/util/Preconditions", name := "checkIndex", desc := "(IILjava/util/function/BiFunction;)I" } : Jvm.MethodName) jdk_41_method_11_code (3 : Nat) (Option.some Jvm.ClassFile.FieldType.int)).before args0 about1 = true := code_word (m := ⟨19, 1⟩) (meth := k19m1) (c := k19c1) (by decide +kernel) rfl rfl rfl (by decide +kernel)
set_option maxRecDepth 65536 in
theorem w_c36 : (Jvm.Cond.code ({ cls := "com/example/lectern/lectern/demo/Profile", name := "nickname", desc := "()Ljava/lang/String;" } : Jvm.MethodName) prog_31_method_8_code (1 : Nat) (Option.some (Jvm.ClassFile.FieldType.object "java/lang/String"))).before args0 about1 = true := code_word (m := ⟨11, 4⟩) (meth := k11m4) (c := k11c4) (by decide +kernel) rfl rfl rfl (by decide +kernel)
set_option maxRecDepth 65536 in
theorem w_c37 : (Jvm.Cond.code ({ cls := "java/lang/String", name := "equals", desc := "(Ljava/lang/Object;)Z" } : Jvm.MethodName) jdk_42_method_66_code (3 : Nat) (Option.some Jvm.ClassFile.FieldType.boolean)).before args0 about1 = true := code_word (m := ⟨7, 5⟩) (meth := k7m5) (c := k7c5) (by decide +kernel) rfl rfl rfl (by decide +kernel)
set_option maxRecDepth 65536 in
theorem w_c38 : (Jvm.Cond.code ({ cls := "com/example/lectern/lectern/demo/Profile", name := "age", desc := "()Ljava/lang/String;" } : Jvm.MethodName) prog_31_method_9_code (1 : Nat) (Option.some (Jvm.ClassFile.FieldType.object "java/lang/String"))).before args0 about1 = true := code_word (m := ⟨11, 5⟩) (meth := k11m5) (c := k11c5) (by decide +kernel) rfl rfl rfl (by decide +kernel)
set_option maxRecDepth 65536 in
theorem w_c39 : (Jvm.Cond.code ({ cls := "java/lang/String", name := "valueOf", desc := "(C)Ljava/lang/String;" } : Jvm.MethodName) jdk_42_method_139_code (1 : Nat) (Option.some (Jvm.ClassFile.FieldType.object "java/lang/String"))).before args0 about1 = true := code_word (m := ⟨7, 6⟩) (meth := k7m6) (c := k7c6) (by decide +kernel) rfl rfl rfl (by decide +kernel)
set_option maxRecDepth 65536 in
theorem w_c40 : (Jvm.Cond.code ({ cls := "java/lang/StringLatin1", name := "canEncode", desc := "(C)Z" } : Jvm.MethodName) jdk_43_method_3_code (1 : Nat) (Option.some Jvm.ClassFile.FieldType.boolean)).before args0 about1 = true := code_word (m := ⟨18, 2⟩) (meth := k18m2) (c := k18c2) (by decide +kernel) rfl rfl rfl (by decide +kernel)
set_option maxRecDepth 65536 in
theorem w_c41 : (Jvm.Cond.code ({ cls := "java/lang/StringLatin1", name := "toBytes", desc := "(C)[B" } : Jvm.MethodName) jdk_43_method_46_code (1 : Nat) (Option.some (Jvm.ClassFile.FieldType.array Jvm.ClassFile.FieldType.byte))).before args0 about1 = true := code_word (m := ⟨18, 3⟩) (meth := k18m3) (c := k18c3) (by decide +kernel) rfl rfl rfl (by decide +kernel)
set_option maxRecDepth 65536 in
theorem w_c42 : (Jvm.Cond.code ({ cls := "java/lang/String", name := "<init>", desc := "([BB)V" } : Jvm.MethodName) jdk_42_method_151_code (3 : Nat) (Option.none : Option Jvm.ClassFile.FieldType)).before args0 about1 = true := code_word (m := ⟨7, 10⟩) (meth := k7m10) (c := k7c10) (by decide +kernel) rfl rfl rfl (by decide +kernel)
set_option maxRecDepth 65536 in
theorem w_c43 : (Jvm.Cond.code ({ cls := "java/lang/String", name := "<init>", desc := "([C)V" } : Jvm.MethodName) jdk_42_method_3_code (2 : Nat) (Option.none : Option Jvm.ClassFile.FieldType)).before args0 about1 = true := code_word (m := ⟨7, 1⟩) (meth := k7m1) (c := k7c1) (by decide +kernel) rfl rfl rfl (by decide +kernel)
set_option maxRecDepth 65536 in
theorem w_c44 : (Jvm.Cond.code ({ cls := "java/lang/String", name := "<init>", desc := "([CIILjava/lang/Void;)V" } : Jvm.MethodName) jdk_42_method_149_code (6 : Nat) (Option.none : Option Jvm.ClassFile.FieldType)).before args0 about1 = true := code_word (m := ⟨7, 8⟩) (meth := k7m8) (c := k7c8) (by decide +kernel) rfl rfl rfl (by decide +kernel)
set_option maxRecDepth 65536 in
theorem w_c45 : (Jvm.Cond.code ({ cls := "java/lang/StringUTF16", name := "compress", desc := "([CII)[B" } : Jvm.MethodName) jdk_52_method_16_code (6 : Nat) (Option.some (Jvm.ClassFile.FieldType.array Jvm.ClassFile.FieldType.byte))).before args0 about1 = true := code_word (m := ⟨20, 2⟩) (meth := k20m2) (c := k20c2) (by decide +kernel) rfl rfl rfl (by decide +kernel)
set_option maxRecDepth 65536 in
theorem w_c46 : (Jvm.Cond.code ({ cls := "java/lang/StringUTF16", name := "compress", desc := "([CI[BII)I" } : Jvm.MethodName) jdk_52_method_21_code (7 : Nat) (Option.some Jvm.ClassFile.FieldType.int)).before args0 about1 = true := code_word (m := ⟨20, 3⟩) (meth := k20m3) (c := k20c3) (by decide +kernel) rfl rfl rfl (by decide +kernel)
set_option maxRecDepth 65536 in
theorem w_c47 : (Jvm.Cond.code ({ cls := "java/lang/StringUTF16", name := "coderFromArrayLen", desc := "([BI)B" } : Jvm.MethodName) jdk_52_method_15_code (2 : Nat) (Option.some Jvm.ClassFile.FieldType.byte)).before args0 about1 = true := code_word (m := ⟨20, 1⟩) (meth := k20m1) (c := k20c1) (by decide +kernel) rfl rfl rfl (by decide +kernel)
def codes1 : List Jvm.Cond := [Jvm.Cond.code x code maxLocals ret, Jvm.Cond.code ({ cls := "com/example/lectern/lectern/demo/ProfileSaveNetPinLaw", name := "str", desc := "(II)Ljava/lang/String;" } : Jvm.MethodName) method_3_code (4 : Nat) (Option.some (Jvm.ClassFile.FieldType.object "java/lang/String")), Jvm.Cond.code ({ cls := "com/example/lectern/lectern/demo/Profile", name := "<init>", desc := "()V" } : Jvm.MethodName) prog_31_method_1_code (1 : Nat) (Option.none : Option Jvm.ClassFile.FieldType), Jvm.Cond.code ({ cls := "java/lang/Object", name := "<init>", desc := "()V" } : Jvm.MethodName) object_method_1_code (1 : Nat) (Option.none : Option Jvm.ClassFile.FieldType), Jvm.Cond.code ({ cls := "com/example/lectern/lectern/demo/Profile", name := "setNicknameNet", desc := "(Ljava/lang/String;)V" } : Jvm.MethodName) prog_31_method_3_code (2 : Nat) (Option.none : Option Jvm.ClassFile.FieldType), Jvm.Cond.code ({ cls := "com/example/lectern/lectern/demo/Profile", name := "setAgeNet", desc := "(Ljava/lang/String;)V" } : Jvm.MethodName) prog_31_method_4_code (2 : Nat) (Option.none : Option Jvm.ClassFile.FieldType), Jvm.Cond.code ({ cls := "com/example/lectern/lectern/demo/Profile", name := "saveNet", desc := "()V" } : Jvm.MethodName) prog_31_method_6_code (1 : Nat) (Option.none : Option Jvm.ClassFile.FieldType), Jvm.Cond.code ({ cls := "com/example/lectern/lectern/demo/Profile", name := "saved", desc := "()Ljava/lang/String;" } : Jvm.MethodName) prog_31_method_10_code (1 : Nat) (Option.some (Jvm.ClassFile.FieldType.object "java/lang/String")), Jvm.Cond.code ({ cls := "java/lang/StringBuilder", name := "<init>", desc := "()V" } : Jvm.MethodName) jdk_67_method_1_code (1 : Nat) (Option.none : Option Jvm.ClassFile.FieldType), Jvm.Cond.code ({ cls := "java/lang/AbstractStringBuilder", name := "<init>", desc := "(I)V" } : Jvm.MethodName) jdk_68_method_2_code (2 : Nat) (Option.none : Option Jvm.ClassFile.FieldType), Jvm.Cond.code ({ cls := "java/lang/StringBuilder", name := "append", desc := "(Ljava/lang/String;)Ljava/lang/StringBuilder;" } : Jvm.MethodName) jdk_67_method_7_code (2 : Nat) (Option.some (Jvm.ClassFile.FieldType.object "java/lang/StringBuilder")), Jvm.Cond.code ({ cls := "java/lang/AbstractStringBuilder", name := "append", desc := "(Ljava/lang/String;)Ljava/lang/AbstractStringBuilder;" } : Jvm.MethodName) jdk_68_method_22_code (3 : Nat) (Option.some (Jvm.ClassFile.FieldType.object "java/lang/AbstractStringBuilder")), Jvm.Cond.code ({ cls := "java/lang/String", name := "length", desc := "()I" } : Jvm.MethodName) jdk_42_method_54_code (1 : Nat) (Option.some Jvm.ClassFile.FieldType.int), Jvm.Cond.code ({ cls := "java/lang/String", name := "coder", desc := "()B" } : Jvm.MethodName) jdk_42_method_152_code (1 : Nat) (Option.some Jvm.ClassFile.FieldType.byte), Jvm.Cond.code ({ cls := "java/lang/AbstractStringBuilder", name := "ensureCapacityInternal", desc := "(I)V" } : Jvm.MethodName) jdk_68_method_9_code (3 : Nat) (Option.none : Option Jvm.ClassFile.FieldType), Jvm.Cond.code ({ cls := "java/lang/AbstractStringBuilder", name := "putStringAt", desc := "(ILjava/lang/String;)V" } : Jvm.MethodName) jdk_68_method_73_code (3 : Nat) (Option.none : Option Jvm.ClassFile.FieldType), Jvm.Cond.code ({ cls := "java/lang/AbstractStringBuilder", name := "inflateIfNeededFor", desc := "(Ljava/lang/String;)V" } : Jvm.MethodName) jdk_68_method_71_code (2 : Nat) (Option.none : Option Jvm.ClassFile.FieldType), Jvm.Cond.code ({ cls := "java/lang/String", name := "getBytes", desc := "([BIB)V" } : Jvm.MethodName) jdk_42_method_147_code (4 : Nat) (Option.none : Option Jvm.ClassFile.FieldType), Jvm.Cond.code ({ cls := "java/lang/StringBuilder", name := "toString", desc := "()Ljava/lang/String;" } : Jvm.MethodName) jdk_67_method_42_code (1 : Nat) (Option.some (Jvm.ClassFile.FieldType.object "java/lang/String")), Jvm.Cond.code ({ cls := "java/lang/String", name := "<init>", desc := "(Ljava/lang/StringBuilder;)V" } : Jvm.MethodName) jdk_42_method_53_code (2 : Nat) (Option.none : Option Jvm.ClassFile.FieldType), Jvm.Cond.code ({ cls := "java/lang/String", name := "<init>", desc := "(Ljava/lang/AbstractStringBuilder;Ljava/lang/Void;)V" } : Jvm.MethodName) jdk_42_method_150_code (5 : Nat) (Option.none : Option Jvm.ClassFile.FieldType), Jvm.Cond.code ({ cls := "java/lang/AbstractStringBuilder", name := "getValue", desc := "()[B" } : Jvm.MethodName) jdk_68_method_64_code (1 : Nat) (Option.some (Jvm.ClassFile.FieldType.array Jvm.ClassFile.FieldType.byte)), Jvm.Cond.code ({ cls := "java/lang/StringBuilder", name := "length", desc := "()I" } : Jvm.MethodName) jdk_67_method_93_code (1 : Nat) (Option.some Jvm.ClassFile.FieldType.int), Jvm.Cond.code ({ cls := "java/lang/AbstractStringBuilder", name := "length", desc := "()I" } : Jvm.MethodName) jdk_68_method_6_code (1 : Nat) (Option.some Jvm.ClassFile.FieldType.int), Jvm.Cond.code ({ cls := "java/lang/AbstractStringBuilder", name := "isLatin1", desc := "()Z" } : Jvm.MethodName) jdk_68_method_68_code (1 : Nat) (Option.some Jvm.ClassFile.FieldType.boolean), Jvm.Cond.code ({ cls := "java/util/Arrays", name := "copyOfRange", desc := "([BII)[B" } : Jvm.MethodName) jdk_65_method_132_code (3 : Nat) (Option.some (Jvm.ClassFile.FieldType.array Jvm.ClassFile.FieldType.byte)), Jvm.Cond.code ({ cls := "java/util/Arrays", name := "copyOfRangeByte", desc := "([BII)[B" } : Jvm.MethodName) jdk_65_method_133_code (5 : Nat) (Option.some (Jvm.ClassFile.FieldType.array Jvm.ClassFile.FieldType.byte)), Jvm.Cond.code ({ cls := "java/util/Arrays", name := "checkLength", desc := "(II)V" } : Jvm.MethodName) jdk_65_method_131_code (2 : Nat) (Option.none : Option Jvm.ClassFile.FieldType), Jvm.Cond.code ({ cls := "java/lang/Math", name := "min", desc := "(II)I" } : Jvm.MethodName) jdk_29_method_69_code (2 : Nat) (Option.some Jvm.ClassFile.FieldType.int), Jvm.Cond.code ({ cls := "com/example/lectern/lectern/demo/ProfileSaveNetPinLaw", name := "matches", desc := "(Ljava/lang/String;Ljava/lang/String;Ljava/lang/String;)Z" } : Jvm.MethodName) method_4_code (3 : Nat) (Option.some Jvm.ClassFile.FieldType.boolean), Jvm.Cond.code ({ cls := "com/example/lectern/lectern/demo/ProfileSaveNetPinLaw", name := "at", desc := "(Ljava/lang/String;Ljava/lang/String;Ljava/lang/String;I)Z" } : Jvm.MethodName) method_5_code (5 : Nat) (Option.some Jvm.ClassFile.FieldType.boolean), Jvm.Cond.code ({ cls := "java/lang/String", name := "charAt", desc := "(I)C" } : Jvm.MethodName) jdk_42_method_56_code (2 : Nat) (Option.some Jvm.ClassFile.FieldType.char), Jvm.Cond.code ({ cls := "java/lang/String", name := "isLatin1", desc := "()Z" } : Jvm.MethodName) jdk_42_method_154_code (1 : Nat) (Option.some Jvm.ClassFile.FieldType.boolean), Jvm.Cond.code ({ cls := "java/lang/StringLatin1", name := "charAt", desc := "([BI)C" } : Jvm.MethodName) jdk_43_method_2_code (2 : Nat) (Option.some Jvm.ClassFile.FieldType.char), Jvm.Cond.code ({ cls := "java/lang/String", name := "checkIndex", desc := "(II)V" } : Jvm.MethodName) jdk_42_method_155_code (2 : Nat) (Option.none : Option Jvm.ClassFile.FieldType), Jvm.Cond.code ({ cls := "jdk/internal/util/Preconditions", name := "checkIndex", desc := "(IILjava/util/function/BiFunction;)I" } : Jvm.MethodName) jdk_41_method_11_code (3 : Nat) (Option.some Jvm.ClassFile.FieldType.int), Jvm.Cond.code ({ cls := "com/example/lectern/lectern/demo/Profile", name := "nickname", desc := "()Ljava/lang/String;" } : Jvm.MethodName) prog_31_method_8_code (1 : Nat) (Option.some (Jvm.ClassFile.FieldType.object "java/lang/String")), Jvm.Cond.code ({ cls := "java/lang/String", name := "equals", desc := "(Ljava/lang/Object;)Z" } : Jvm.MethodName) jdk_42_method_66_code (3 : Nat) (Option.some Jvm.ClassFile.FieldType.boolean), Jvm.Cond.code ({ cls := "com/example/lectern/lectern/demo/Profile", name := "age", desc := "()Ljava/lang/String;" } : Jvm.MethodName) prog_31_method_9_code (1 : Nat) (Option.some (Jvm.ClassFile.FieldType.object "java/lang/String")), Jvm.Cond.code ({ cls := "java/lang/String", name := "valueOf", desc := "(C)Ljava/lang/String;" } : Jvm.MethodName) jdk_42_method_139_code (1 : Nat) (Option.some (Jvm.ClassFile.FieldType.object "java/lang/String")), Jvm.Cond.code ({ cls := "java/lang/StringLatin1", name := "canEncode", desc := "(C)Z" } : Jvm.MethodName) jdk_43_method_3_code (1 : Nat) (Option.some Jvm.ClassFile.FieldType.boolean), Jvm.Cond.code ({ cls := "java/lang/StringLatin1", name := "toBytes", desc := "(C)[B" } : Jvm.MethodName) jdk_43_method_46_code (1 : Nat) (Option.some (Jvm.ClassFile.FieldType.array Jvm.ClassFile.FieldType.byte)), Jvm.Cond.code ({ cls := "java/lang/String", name := "<init>", desc := "([BB)V" } : Jvm.MethodName) jdk_42_method_151_code (3 : Nat) (Option.none : Option Jvm.ClassFile.FieldType), Jvm.Cond.code ({ cls := "java/lang/String", name := "<init>", desc := "([C)V" } : Jvm.MethodName) jdk_42_method_3_code (2 : Nat) (Option.none : Option Jvm.ClassFile.FieldType), Jvm.Cond.code ({ cls := "java/lang/String", name := "<init>", desc := "([CIILjava/lang/Void;)V" } : Jvm.MethodName) jdk_42_method_149_code (6 : Nat) (Option.none : Option Jvm.ClassFile.FieldType), Jvm.Cond.code ({ cls := "java/lang/StringUTF16", name := "compress", desc := "([CII)[B" } : Jvm.MethodName) jdk_52_method_16_code (6 : Nat) (Option.some (Jvm.ClassFile.FieldType.array Jvm.ClassFile.FieldType.byte)), Jvm.Cond.code ({ cls := "java/lang/StringUTF16", name := "compress", desc := "([CI[BII)I" } : Jvm.MethodName) jdk_52_method_21_code (7 : Nat) (Option.some Jvm.ClassFile.FieldType.int), Jvm.Cond.code ({ cls := "java/lang/StringUTF16", name := "coderFromArrayLen", desc := "([BI)B" } : Jvm.MethodName) jdk_52_method_15_code (2 : Nat) (Option.some Jvm.ClassFile.FieldType.byte)]
set_option maxRecDepth 65536 in
theorem codes_eq : words1.filter isCode = codes1 := rfl
theorem w_codes : ∀ c ∈ words1.filter isCode, c.before args0 about1 = true := by
  rw [codes_eq]
  intro c hc
  simp only [codes1, List.mem_cons, List.not_mem_nil, or_false] at hc
  rcases hc with rfl | rfl | rfl | rfl | rfl | rfl | rfl | rfl | rfl | rfl | rfl | rfl | rfl | rfl | rfl | rfl | rfl | rfl | rfl | rfl | rfl | rfl | rfl | rfl | rfl | rfl | rfl | rfl | rfl | rfl | rfl | rfl | rfl | rfl | rfl | rfl | rfl | rfl | rfl | rfl | rfl | rfl | rfl | rfl | rfl | rfl | rfl | rfl
  · exact w_c0
  · exact w_c1
  · exact w_c2
  · exact w_c3
  · exact w_c4
  · exact w_c5
  · exact w_c6
  · exact w_c7
  · exact w_c8
  · exact w_c9
  · exact w_c10
  · exact w_c11
  · exact w_c12
  · exact w_c13
  · exact w_c14
  · exact w_c15
  · exact w_c16
  · exact w_c17
  · exact w_c18
  · exact w_c19
  · exact w_c20
  · exact w_c21
  · exact w_c22
  · exact w_c23
  · exact w_c24
  · exact w_c25
  · exact w_c26
  · exact w_c27
  · exact w_c28
  · exact w_c29
  · exact w_c30
  · exact w_c31
  · exact w_c32
  · exact w_c33
  · exact w_c34
  · exact w_c35
  · exact w_c36
  · exact w_c37
  · exact w_c38
  · exact w_c39
  · exact w_c40
  · exact w_c41
  · exact w_c42
  · exact w_c43
  · exact w_c44
  · exact w_c45
  · exact w_c46
  · exact w_c47
set_option maxRecDepth 65536 in
theorem w_t1 : (words1.take 24).all (fun c => isCode c || c.before args0 about1) = true := by decide +kernel
set_option maxRecDepth 65536 in
theorem w_t2 : ((words1.drop 24).take 24).all (fun c => isCode c || c.before args0 about1) = true := by decide +kernel
set_option maxRecDepth 65536 in
theorem w_t3 : (((words1.drop 24).drop 24).take 24).all (fun c => isCode c || c.before args0 about1) = true := by decide +kernel
set_option maxRecDepth 65536 in
theorem w_t4 : ((((words1.drop 24).drop 24).drop 24).take 24).all (fun c => isCode c || c.before args0 about1) = true := by decide +kernel
set_option maxRecDepth 65536 in
theorem w_t5 : (((((words1.drop 24).drop 24).drop 24).drop 24).take 24).all (fun c => isCode c || c.before args0 about1) = true := by decide +kernel
set_option maxRecDepth 65536 in
theorem w_t6 : ((((((words1.drop 24).drop 24).drop 24).drop 24).drop 24).take 24).all (fun c => isCode c || c.before args0 about1) = true := by decide +kernel
set_option maxRecDepth 65536 in
theorem w_t7 : (((((((words1.drop 24).drop 24).drop 24).drop 24).drop 24).drop 24).take 24).all (fun c => isCode c || c.before args0 about1) = true := by decide +kernel
set_option maxRecDepth 65536 in
theorem w_t8 : ((((((((words1.drop 24).drop 24).drop 24).drop 24).drop 24).drop 24).drop 24).take 24).all (fun c => isCode c || c.before args0 about1) = true := by decide +kernel
set_option maxRecDepth 65536 in
theorem w_t9 : (((((((((words1.drop 24).drop 24).drop 24).drop 24).drop 24).drop 24).drop 24).drop 24).take 24).all (fun c => isCode c || c.before args0 about1) = true := by decide +kernel
set_option maxRecDepth 65536 in
theorem w_t10 : ((((((((((words1.drop 24).drop 24).drop 24).drop 24).drop 24).drop 24).drop 24).drop 24).drop 24).take 24).all (fun c => isCode c || c.before args0 about1) = true := by decide +kernel
set_option maxRecDepth 65536 in
theorem w_t11 : ((((((((((words1.drop 24).drop 24).drop 24).drop 24).drop 24).drop 24).drop 24).drop 24).drop 24).drop 24).all (fun c => isCode c || c.before args0 about1) = true := by decide +kernel
theorem w_tables : (allAtoms (Jvm.Cond.code x code maxLocals ret :: tables_1)).before args0 about1 = true := by
  rw [allAtoms_all]
  show words1.all (fun c => c.before args0 about1) = true
  refine all_split ?_ w_codes
  rw [← List.take_append_drop 24 words1, List.all_append, w_t1, ← List.take_append_drop 24 (words1.drop 24), List.all_append, w_t2, ← List.take_append_drop 24 ((words1.drop 24).drop 24), List.all_append, w_t3, ← List.take_append_drop 24 (((words1.drop 24).drop 24).drop 24), List.all_append, w_t4, ← List.take_append_drop 24 ((((words1.drop 24).drop 24).drop 24).drop 24), List.all_append, w_t5, ← List.take_append_drop 24 (((((words1.drop 24).drop 24).drop 24).drop 24).drop 24), List.all_append, w_t6, ← List.take_append_drop 24 ((((((words1.drop 24).drop 24).drop 24).drop 24).drop 24).drop 24), List.all_append, w_t7, ← List.take_append_drop 24 (((((((words1.drop 24).drop 24).drop 24).drop 24).drop 24).drop 24).drop 24), List.all_append, w_t8, ← List.take_append_drop 24 ((((((((words1.drop 24).drop 24).drop 24).drop 24).drop 24).drop 24).drop 24).drop 24), List.all_append, w_t9, ← List.take_append_drop 24 (((((((((words1.drop 24).drop 24).drop 24).drop 24).drop 24).drop 24).drop 24).drop 24).drop 24), List.all_append, w_t10, w_t11]
  rfl
set_option maxRecDepth 65536 in
theorem w_rest : rest_1_c.before args0 about1 = true := by decide +kernel
set_option maxRecDepth 65536 in
theorem w_case : (Jvm.Cond.and given_1 narrow_1).before args0 about1 = true := by decide +kernel
set_option maxRecDepth 65536 in
theorem w_consts : constsHeld consts_1 about1 := Jvm.Lit.constsHeldB_iff.mp (by decide +kernel)
theorem w_applies : (headSpec (Jvm.Cond.code x code maxLocals ret :: tables_1) room_1).applies x e0.platform about1 = true :=
  (Spec.applies_iff w_frames).mpr ⟨w_running, w_runnable, w_alone, w_named, w_hears, w_ripe, w_room, w_tables⟩
theorem atStart : AtStart classFile x code maxLocals ret World_1 tables_1 room_1 Calls_1 rest_1 Pre_1 launch0 p0 e0 about1 theMethod args0 below0 :=
  ⟨lists_1, trivial, launch0.admits_env _ _ _, launch0.least_env, fairChoices_fair.cas, fairChoices_fair.clock, w_frames, w_args, w_heap, w_applies, ⟨w_consts, trivial⟩, w_rest, w_case⟩
end start1
theorem witness_1 : WitnessClaimed_1 := ⟨start1.p0, start1.e0, start1.about1, start1.theMethod, start1.args0, start1.below0, start1.atStart⟩
end Jvm.Pilot.@@N@@
