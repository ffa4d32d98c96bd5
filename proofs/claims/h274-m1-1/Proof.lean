import JvmDerived
import JvmDerived.Pilot.@@N@@Statement
import JvmDerived.Pilot.@@N@@Code
set_option linter.unusedVariables false
set_option linter.unusedSimpArgs false
/- laws to paste: Road.backV, Road.chN, Road.eqW, Road.codOf (cut by pick.py; bodies as the Statement names them) -/
namespace Jvm.Pilot.@@N@@
namespace StrChars
open Jvm Sem ClassFile Op Lib Jvm.Stand Jvm.Free.XT Jvm.Free.ALB Jvm.Free.JM Jvm.Free
open Jvm.Lib.Cold (StaticIs)
/-- a char array whose places are chars -/
def Ch (a : Addr) (A : Cell) (U : State) : Prop := Arr .char a A U ∧ Typed .char A
theorem Ch.mv {a : Addr} {A : Cell} {U U' : State} (h : Ch a A U) (hal : U.vm.Alike U'.vm) (hh : U'.heap = U.heap) : Ch a A U' := ⟨h.1.mv hal hh, h.2⟩
theorem Ch.keep {a : Addr} {A : Cell} {U U' : State} (h : Ch a A U) (hal : U.vm.Alike U'.vm) (hk : U'.heap[a]? = some A) : Ch a A U' := ⟨h.1.keep hal hk, h.2⟩
/-- what place i of a char[]'s cell holds -/
def cv (A : Cell) (i : Nat) : Int32 := match A.slots[i]? with | some (.int x) => x | _ => 0
theorem Ch.get {a : Addr} {A : Cell} {U : State} (h : Ch a A U) {i : Nat} (hi : i < A.slots.size) : A.slots[i]? = some (.int (cv A i)) := by
  have e := Array.getElem?_eq_getElem hi
  have f := h.2 i _ e
  unfold cv; rw [e]
  generalize A.slots[i] = v at f
  cases v <;> simp [fits] at f ⊢
/-- the byte that i2b leaves of a char -/
def lo8 (x : Int32) : Int32 := x.toInt8.toInt32
theorem fits_lo8 (y : Int32) : fits .byte (.int (lo8 y)) = true := by
  have h1 := y.toInt8.le_toInt
  have h2 := y.toInt8.toInt_lt
  simp only [lo8, fits, Bool.and_eq_true, decide_eq_true_eq, Int32.le_iff_toInt_le, Int8.toInt_toInt32, show (-128 : Int32).toInt = -128 from by decide, show (127 : Int32).toInt = 127 from by decide]
  omega
/-- A' is A but that each place j of lo .. hi - 1 holds f j -/
def Laid (A A' : Cell) (lo hi : Nat) (f : Nat → Value) : Prop := A'.cls = A.cls ∧ A'.vm = A.vm ∧ A'.slots.size = A.slots.size ∧ ∀ i, A'.slots[i]? = if lo ≤ i ∧ i < hi then some (f i) else A.slots[i]?
theorem Laid.zero (A : Cell) (lo : Nat) (f : Nat → Value) : Laid A A lo (lo + 0) f := ⟨rfl, rfl, rfl, fun i => by rw [if_neg (by omega)]⟩
theorem Laid.step {A Ak : Cell} {lo k : Nat} {f : Nat → Value} {v : Value} (h : Laid A Ak lo k f) (hlo : lo ≤ k) (hk : k < Ak.slots.size) (hv : v = f k) : Laid A (Ak.setSlot k v) lo (k + 1) f := by
  refine ⟨h.1, h.2.1, by simpa [Cell.setSlot] using h.2.2.1, fun i => ?_⟩
  by_cases e : k = i
  · subst e; rw [Cell.slots_setSlot_self v hk, if_pos (by omega), hv]
  · rw [Cell.slots_setSlot_ne v e, h.2.2.2 i]
    by_cases q : lo ≤ i ∧ i < k
    · rw [if_pos q, if_pos (by omega)]
    · rw [if_neg q, if_neg (by omega)]
def U16 : String := "java/lang/StringUTF16"
namespace Cmp5
def yN : MethodName := ⟨"java/lang/StringUTF16", "compress", "([CI[BII)I"⟩
abbrev yB : ByteArray := jdk_52_method_21_code
theorem d0 : decode yB 0 = .ok (.iconst 0, 1) := by decide +kernel
theorem d1 : decode yB 1 = .ok (.istore 5, 2) := by decide +kernel
theorem d3 : decode yB 3 = .ok (.iload 5, 2) := by decide +kernel
theorem d5 : decode yB 5 = .ok (.iload 4, 2) := by decide +kernel
theorem d7 : decode yB 7 = .ok (.if_icmp (.ge) 37, 3) := by decide +kernel
theorem d10 : decode yB 10 = .ok (.aload_n 0, 1) := by decide +kernel
theorem d11 : decode yB 11 = .ok (.iload_n 1, 1) := by decide +kernel
theorem d12 : decode yB 12 = .ok (.caload, 1) := by decide +kernel
theorem d13 : decode yB 13 = .ok (.istore 6, 2) := by decide +kernel
theorem d15 : decode yB 15 = .ok (.iload 6, 2) := by decide +kernel
theorem d17 : decode yB 17 = .ok (.sipush 255, 3) := by decide +kernel
theorem d20 : decode yB 20 = .ok (.if_icmp (.le) 6, 3) := by decide +kernel
theorem d26 : decode yB 26 = .ok (.aload_n 2, 1) := by decide +kernel
theorem d27 : decode yB 27 = .ok (.iload_n 3, 1) := by decide +kernel
theorem d28 : decode yB 28 = .ok (.iload 6, 2) := by decide +kernel
theorem d30 : decode yB 30 = .ok (.i2b, 1) := by decide +kernel
theorem d31 : decode yB 31 = .ok (.bastore, 1) := by decide +kernel
theorem d32 : decode yB 32 = .ok (.iinc 1 1, 3) := by decide +kernel
theorem d35 : decode yB 35 = .ok (.iinc 3 1, 3) := by decide +kernel
theorem d38 : decode yB 38 = .ok (.iinc 5 1, 3) := by decide +kernel
theorem d41 : decode yB 41 = .ok (.goto (-38), 3) := by decide +kernel
theorem d44 : decode yB 44 = .ok (.iload 4, 2) := by decide +kernel
theorem d46 : decode yB 46 = .ok (.ireturn, 1) := by decide +kernel
def site : List Cond := []
def tab : Cond := tabOf yN yB 7 (some .int) site
def P (b : Addr) (A : Cell) (d : Addr) (B : Cell) (o q len : Nat) (args : Array Value) (s : State) : Prop := args = #[.ref b, .int (Int32.ofNat o), .ref d, .int (Int32.ofNat q), .int (Int32.ofNat len)] ∧ Ch b A s ∧ Arr .byte d B s ∧ b ≠ d ∧ o + len ≤ A.slots.size ∧ q + len ≤ B.slots.size ∧ ∀ i, i < len → ¬ 255 < cv A (o + i)
def E (b : Addr) (A : Cell) (d : Addr) (B : Cell) (o q len : Nat) (r : Option Value) (s u : State) : Prop := r = some (.int (Int32.ofNat len)) ∧ ∃ B', Put d B' s u ∧ Laid B B' q (q + len) (fun j => Value.int (lo8 (cv A (o + (j - q)))))
/-- no char of the range above 255: len; the places written hold each char's low byte -/
theorem law (l : Launch) (b : Addr) (A : Cell) (d : Addr) (B : Cell) (o q len : Nat) : Law l yN 5 5 0 0 yB 7 (some .int) site (P b A d B o q len) (E b A d B o q len) (copyLocs d q len) 0 0 := by
  refine Law.of_walk (plainFor_of_name (by decide +kernel)) (by decide +kernel) (by decide +kernel) (by decide) (fun _ _ h => by rw [h.1]; rfl) (fun _ U U' hal hh h => ⟨h.1, h.2.1.mv hal hh, h.2.2.1.mv hal hh, h.2.2.2⟩) (fun r U U' V V' h1 hal h2 h => ⟨h.1, h.2.elim fun B' q => ⟨B', q.1.mv h1 h2, q.2⟩⟩) ?_
  intro p e s m args below meth c s₁ X0 hexec hbytes hml hret hlk hnm hown hh0 W hP
  obtain ⟨rfl, hA, hB, hne, l1, l2, hp⟩ := hP
  have c1 : Steps p.tables e below (s₁.setTop (entryFrame m #[.ref b, .int (Int32.ofNat o), .ref d, .int (Int32.ofNat q), .int (Int32.ofNat len)] 7)) (s₁.setTop (mkF m 0 #[.val (.ref b), .val (.int (Int32.ofNat o)), .val (.ref d), .val (.int (Int32.ofNat q)), .val (.int (Int32.ofNat len)), .unset, .unset] [])) := entry rfl
  have hA0 := hA.1.mv X0.warmed.alike hh0
  have hB0 := hB.mv X0.warmed.alike hh0
  have a31 := hA.1.2.2.2
  have c2 : Steps p.tables e below (s₁.setTop (entryFrame m #[.ref b, .int (Int32.ofNat o), .ref d, .int (Int32.ofNat q), .int (Int32.ofNat len)] 7)) (s₁.setTop (mkF m 3 #[.val (.ref b), .val (.int (Int32.ofNat o)), .val (.ref d), .val (.int (Int32.ofNat q)), .val (.int (Int32.ofNat len)), .val (.int 0), .unset] [])) := c1.trans (by
    refine iconstV X0.here hexec rfl 0 (hb hbytes d0) (by decide) ?_
    refine XS.istore X0.here hexec rfl (hb hbytes d1) rfl rfl ?_
    exact Steps.refl _)
  have loop : ∀ (r i : Nat), i + r = len → ∀ (z : Slot), (z = .unset ∨ ∃ w, z = .val w ∧ w.category = 1) → ∀ (Tl : State) (Bk : Cell), Stand p l e { frames := 0, locals := 0, cells := 0, slots := 0 } s m #[.ref b, .int (Int32.ofNat o), .ref d, .int (Int32.ofNat q), .int (Int32.ofNat len)] below meth c Tl ([] ++ copyLocs d q i) 0 0 → Put d Bk s₁ Tl → Laid B Bk q (q + i) (fun j => Value.int (lo8 (cv A (o + (j - q))))) →
      Steps p.tables e below (s₁.setTop (entryFrame m #[.ref b, .int (Int32.ofNat o), .ref d, .int (Int32.ofNat q), .int (Int32.ofNat len)] 7)) (Tl.setTop (mkF m 3 #[.val (.ref b), .val (.int (Int32.ofNat (o + i))), .val (.ref d), .val (.int (Int32.ofNat (q + i))), .val (.int (Int32.ofNat len)), .val (.int (Int32.ofNat i)), z] [])) → ∃ (T' : State) (B' : Cell) (z' : Slot), Stand p l e { frames := 0, locals := 0, cells := 0, slots := 0 } s m #[.ref b, .int (Int32.ofNat o), .ref d, .int (Int32.ofNat q), .int (Int32.ofNat len)] below meth c T' ([] ++ copyLocs d q len) 0 0 ∧ Put d B' s₁ T' ∧ Laid B B' q (q + len) (fun j => Value.int (lo8 (cv A (o + (j - q))))) ∧
      Steps p.tables e below (s₁.setTop (entryFrame m #[.ref b, .int (Int32.ofNat o), .ref d, .int (Int32.ofNat q), .int (Int32.ofNat len)] 7)) (T'.setTop (mkF m 3 #[.val (.ref b), .val (.int (Int32.ofNat (o + len))), .val (.ref d), .val (.int (Int32.ofNat (q + len))), .val (.int (Int32.ofNat len)), .val (.int (Int32.ofNat len)), z'] [])) := by
    intro r
    induction r with
    | zero =>
      intro i hi z hz Tl Bk Xl pl fl cl
      have hil : i = len := by omega
      rw [hil] at Xl fl cl
      exact ⟨Tl, Bk, z, Xl, pl, fl, cl⟩
    | succ r ih =>
      intro i hi z hz Tl Bk Xl pl fl cl
      have all := X0.warmed.alike.symm.trans Xl.warmed.alike
      have hAl := hA0.keep all (pl.other hne hA0.1)
      have hBk := hB0.like all pl.1 fl.1 fl.2.1 fl.2.2.1
      have hlt : q + i < Bk.slots.size := by rw [fl.2.2.1]; omega
      have c3 : Steps p.tables e below (s₁.setTop (entryFrame m #[.ref b, .int (Int32.ofNat o), .ref d, .int (Int32.ofNat q), .int (Int32.ofNat len)] 7)) (Tl.setTop (mkF m 12 #[.val (.ref b), .val (.int (Int32.ofNat (o + i))), .val (.ref d), .val (.int (Int32.ofNat (q + i))), .val (.int (Int32.ofNat len)), .val (.int (Int32.ofNat i)), z] [.int (Int32.ofNat (o + i)), .ref b])) := cl.trans (by
        refine XS.iload Xl.here hexec rfl (hb hbytes d3) rfl ?_
        refine XS.iload Xl.here hexec rfl (hb hbytes d5) rfl ?_
        refine XS.icmpNo Xl.here hexec rfl (hb hbytes d7) rfl (ii_ge_f (lt32 (by omega) (by omega))) ?_
        refine XS.aloadN Xl.here hexec rfl (hb hbytes d10) rfl rfl ?_
        refine XS.iloadN Xl.here hexec rfl (hb hbytes d11) rfl ?_
        exact Steps.refl _)
      have c4 : Steps p.tables e below (s₁.setTop (entryFrame m #[.ref b, .int (Int32.ofNat o), .ref d, .int (Int32.ofNat q), .int (Int32.ofNat len)] 7)) (Tl.setTop (mkF m 13 #[.val (.ref b), .val (.int (Int32.ofNat (o + i))), .val (.ref d), .val (.int (Int32.ofNat (q + i))), .val (.int (Int32.ofNat len)), .val (.int (Int32.ofNat i)), z] [.int (cv A (o + i))])) := c3.trans (by
        refine Xl.aget hexec hAl rfl (hA.get (i := o + i) (by omega)) rfl rfl (hb hbytes d12) ?_
        exact Steps.refl _)
      have c5 : Steps p.tables e below (s₁.setTop (entryFrame m #[.ref b, .int (Int32.ofNat o), .ref d, .int (Int32.ofNat q), .int (Int32.ofNat len)] 7)) (Tl.setTop (mkF m 15 #[.val (.ref b), .val (.int (Int32.ofNat (o + i))), .val (.ref d), .val (.int (Int32.ofNat (q + i))), .val (.int (Int32.ofNat len)), .val (.int (Int32.ofNat i)), .val (.int (cv A (o + i)))] [])) := c4.trans (by
        refine XS.istoreS Xl.here hexec rfl (hb hbytes d13) rfl rfl hz ?_
        exact Steps.refl _)
      have c6 : Steps p.tables e below (s₁.setTop (entryFrame m #[.ref b, .int (Int32.ofNat o), .ref d, .int (Int32.ofNat q), .int (Int32.ofNat len)] 7)) (Tl.setTop (mkF m 31 #[.val (.ref b), .val (.int (Int32.ofNat (o + i))), .val (.ref d), .val (.int (Int32.ofNat (q + i))), .val (.int (Int32.ofNat len)), .val (.int (Int32.ofNat i)), .val (.int (cv A (o + i)))] [.int (lo8 (cv A (o + i))), .int (Int32.ofNat (q + i)), .ref d])) := c5.trans (by
        refine XS.iload Xl.here hexec rfl (hb hbytes d15) rfl ?_
        refine sipushV Xl.here hexec rfl 255 (hb hbytes d17) (by decide) ?_
        refine XS.icmpYes Xl.here hexec rfl (pc0 := 20) rfl (hb hbytes d20) rfl (ii_le_t (hp i (by omega))) (by decide) rfl ?_
        refine XS.aloadN Xl.here hexec rfl (hb hbytes d26) rfl rfl ?_
        refine XS.iloadN Xl.here hexec rfl (hb hbytes d27) rfl ?_
        refine XS.iload Xl.here hexec rfl (hb hbytes d28) rfl ?_
        refine i2b Xl.here hexec rfl (hb hbytes d30) rfl ?_
        exact Steps.refl _)
      obtain ⟨T7, X7, p7, st7⟩ := Xl.aput hexec hBk rfl hlt rfl (fits_lo8 (cv A (o + i))) (g := (mkF m 31 #[.val (.ref b), .val (.int (Int32.ofNat (o + i))), .val (.ref d), .val (.int (Int32.ofNat (q + i))), .val (.int (Int32.ofNat len)), .val (.int (Int32.ofNat i)), .val (.int (cv A (o + i)))] [.int (lo8 (cv A (o + i))), .int (Int32.ofNat (q + i)), .ref d])) rfl (rest := []) rfl (hb hbytes d31)
      have c8 : Steps p.tables e below (s₁.setTop (entryFrame m #[.ref b, .int (Int32.ofNat o), .ref d, .int (Int32.ofNat q), .int (Int32.ofNat len)] 7)) (T7.setTop (mkF m 32 #[.val (.ref b), .val (.int (Int32.ofNat (o + i))), .val (.ref d), .val (.int (Int32.ofNat (q + i))), .val (.int (Int32.ofNat len)), .val (.int (Int32.ofNat i)), .val (.int (cv A (o + i)))] [])) := c6.trans (st7 _ (Steps.refl _))
      have c9 : Steps p.tables e below (s₁.setTop (entryFrame m #[.ref b, .int (Int32.ofNat o), .ref d, .int (Int32.ofNat q), .int (Int32.ofNat len)] 7)) (T7.setTop (mkF m 3 #[.val (.ref b), .val (.int (Int32.ofNat (o + i) + 1)), .val (.ref d), .val (.int (Int32.ofNat (q + i) + 1)), .val (.int (Int32.ofNat len)), .val (.int (Int32.ofNat i + 1)), .val (.int (cv A (o + i)))] [])) := c8.trans (by
        refine iincV X7.here hexec rfl 1 (hb hbytes d32) (by decide) rfl rfl ?_
        refine iincV X7.here hexec rfl 1 (hb hbytes d35) (by decide) rfl rfl ?_
        refine iincV X7.here hexec rfl 1 (hb hbytes d38) (by decide) rfl rfl ?_
        refine XS.goto X7.here hexec rfl (pc0 := 41) rfl (hb hbytes d41) (by decide) rfl ?_
        exact Steps.refl _)
      have c10 : Steps p.tables e below (s₁.setTop (entryFrame m #[.ref b, .int (Int32.ofNat o), .ref d, .int (Int32.ofNat q), .int (Int32.ofNat len)] 7)) (T7.setTop (mkF m 3 #[.val (.ref b), .val (.int (Int32.ofNat (o + (i + 1)))), .val (.ref d), .val (.int (Int32.ofNat (q + (i + 1)))), .val (.int (Int32.ofNat len)), .val (.int (Int32.ofNat (i + 1))), .val (.int (cv A (o + i)))] [])) := by
        have := c9
        rw [succ32, succ32, succ32] at this
        exact this
      exact ih (i + 1) (by omega) _ (Or.inr ⟨_, rfl, rfl⟩) T7 _ (by rw [copyLocs_step, ← List.append_assoc]; exact X7) (pl.trans p7) (fl.step (by omega) hlt (by simp)) c10
  obtain ⟨T9, B9, z9, X9, p9, f9, g9⟩ := loop len 0 (by omega) .unset (Or.inl rfl) s₁ B (by simpa [copyLocs] using X0) ⟨hB0.1, fun _ _ => rfl, rfl⟩ (Laid.zero _ _ _) c2
  have c11 : Steps p.tables e below (s₁.setTop (entryFrame m #[.ref b, .int (Int32.ofNat o), .ref d, .int (Int32.ofNat q), .int (Int32.ofNat len)] 7)) (T9.setTop (mkF m 46 #[.val (.ref b), .val (.int (Int32.ofNat (o + len))), .val (.ref d), .val (.int (Int32.ofNat (q + len))), .val (.int (Int32.ofNat len)), .val (.int (Int32.ofNat len)), z9] [.int (Int32.ofNat len)])) := g9.trans (by
    refine XS.iload X9.here hexec rfl (hb hbytes d3) rfl ?_
    refine XS.iload X9.here hexec rfl (hb hbytes d5) rfl ?_
    refine XS.icmpYes X9.here hexec rfl (pc0 := 7) rfl (hb hbytes d7) rfl (ii_ge_t (nlt32 (by omega) (Nat.le_refl _))) (by decide) rfl ?_
    refine XS.iload X9.here hexec rfl (hb hbytes d44) rfl ?_
    exact Steps.refl _)
  exact ⟨T9, some (.int (Int32.ofNat len)), _, _, _, X9, by simp, rfl, rfl, (fun h => by cases h), ⟨rfl, B9, p9.from hh0, f9⟩, fun fs hl => c11.trans (X9.ireturnOut hexec hret rfl (Or.inl rfl) (hb hbytes d46) hl)⟩
end Cmp5
namespace Cmp3
def yN : MethodName := ⟨"java/lang/StringUTF16", "compress", "([CII)[B"⟩
abbrev yB : ByteArray := jdk_52_method_16_code
theorem d0 : decode yB 0 = .ok (.iload_n 2, 1) := by decide +kernel
theorem d1 : decode yB 1 = .ok (.newarray .byte, 2) := by decide +kernel
theorem d3 : decode yB 3 = .ok (.astore_n 3, 1) := by decide +kernel
theorem d4 : decode yB 4 = .ok (.aload_n 0, 1) := by decide +kernel
theorem d5 : decode yB 5 = .ok (.iload_n 1, 1) := by decide +kernel
theorem d6 : decode yB 6 = .ok (.aload_n 3, 1) := by decide +kernel
theorem d7 : decode yB 7 = .ok (.iconst 0, 1) := by decide +kernel
theorem d8 : decode yB 8 = .ok (.iload_n 2, 1) := by decide +kernel
theorem d9 : decode yB 9 = .ok (.invokestatic 115, 3) := by decide +kernel
theorem d12 : decode yB 12 = .ok (.istore 4, 2) := by decide +kernel
theorem d14 : decode yB 14 = .ok (.iload 4, 2) := by decide +kernel
theorem d16 : decode yB 16 = .ok (.iload_n 2, 1) := by decide +kernel
theorem d17 : decode yB 17 = .ok (.if_icmp (.eq) 40, 3) := by decide +kernel
theorem d57 : decode yB 57 = .ok (.aload_n 3, 1) := by decide +kernel
theorem d58 : decode yB 58 = .ok (.areturn, 1) := by decide +kernel
def site : List Cond := [.arrayClass .byte, Cmp5.tab] ++ staticW U16 115 Cmp5.yN
def tab : Cond := tabOf yN yB 6 (some (.array .byte)) site
def P (b : Addr) (A : Cell) (o len : Nat) (args : Array Value) (s : State) : Prop := args = #[.ref b, .int (Int32.ofNat o), .int (Int32.ofNat len)] ∧ Ch b A s ∧ o + len ≤ A.slots.size ∧ len ≤ 536870912 ∧ ∀ i, i < len → ¬ 255 < cv A (o + i)
def E (b : Addr) (A : Cell) (o len : Nat) (r : Option Value) (s u : State) : Prop := NewArr .byte "[B" len (fun j => .int (lo8 (cv A (o + j)))) r s u ∧ u.heap.size = s.heap.size + 1
/-- no char of the range above 255: a new byte[] of their low bytes -/
theorem law (l : Launch) (b : Addr) (A : Cell) (o len : Nat) : Law l yN 3 3 1 18 yB 6 (some (.array .byte)) site (P b A o len) (E b A o len) [] 1 len := by
  refine Law.of_walk (plainFor_of_name (by decide +kernel)) (by decide +kernel) (by decide +kernel) (by decide) (fun _ _ h => by rw [h.1]; rfl) (fun _ U U' hal hh h => ⟨h.1, h.2.1.mv hal hh, h.2.2⟩) (fun r U U' V V' h1 hal h2 h => ⟨NewArr.mv r U U' V V' h1 hal h2 h.1, by rw [h1, h2]; exact h.2⟩) ?_
  intro p e s m args below meth c s₁ X0 hexec hbytes hml hret hlk hnm hown hh0 W hP
  obtain ⟨rfl, hA, l1, l2, hp⟩ := hP
  have a31 := hA.1.2.2.2
  have c1 : Steps p.tables e below (s₁.setTop (entryFrame m #[.ref b, .int (Int32.ofNat o), .int (Int32.ofNat len)] 6)) (s₁.setTop (mkF m 0 #[.val (.ref b), .val (.int (Int32.ofNat o)), .val (.int (Int32.ofNat len)), .unset, .unset, .unset] [])) := entry rfl
  have c2 : Steps p.tables e below (s₁.setTop (entryFrame m #[.ref b, .int (Int32.ofNat o), .int (Int32.ofNat len)] 6)) (s₁.setTop (mkF m 1 #[.val (.ref b), .val (.int (Int32.ofNat o)), .val (.int (Int32.ofNat len)), .unset, .unset, .unset] [.int (Int32.ofNat len)])) := c1.trans (by
    refine XS.iloadN X0.here hexec rfl (hb hbytes d0) rfl ?_
    exact Steps.refl _)
  obtain ⟨T3, B3, X3, ba3, bs3, bv3, bh3, bf3, st3⟩ := X0.anew hexec (atype := .byte) (wk W (.arrayClass .byte)) rfl (by show len * 1 ≤ _; omega) (by omega) (g := (mkF m 1 #[.val (.ref b), .val (.int (Int32.ofNat o)), .val (.int (Int32.ofNat len)), .unset, .unset, .unset] [.int (Int32.ofNat len)])) rfl (hb hbytes d1) (rest := []) rfl (Nat.le_refl _) (by show 0 + len ≤ len; omega)
  rw [hh0] at ba3 st3
  have kp3 : XT.Kept s T3 := (XT.Kept.of_eq hh0).push bh3
  have hA3 := hA.keep X3.warmed.alike (kp3 _ _ hA.1.1)
  have hne : b ≠ s.heap.size := hA.1.ne
  have c4 : Steps p.tables e below (s₁.setTop (entryFrame m #[.ref b, .int (Int32.ofNat o), .int (Int32.ofNat len)] 6)) (T3.setTop (mkF m 3 #[.val (.ref b), .val (.int (Int32.ofNat o)), .val (.int (Int32.ofNat len)), .unset, .unset, .unset] [.ref s.heap.size])) := c2.trans (st3 _ (Steps.refl _))
  have c5 : Steps p.tables e below (s₁.setTop (entryFrame m #[.ref b, .int (Int32.ofNat o), .int (Int32.ofNat len)] 6)) (T3.setTop (mkF m 9 #[.val (.ref b), .val (.int (Int32.ofNat o)), .val (.int (Int32.ofNat len)), .val (.ref s.heap.size), .unset, .unset] [.int (Int32.ofNat len), .int 0, .ref s.heap.size, .int (Int32.ofNat o), .ref b])) := c4.trans (by
    refine XS.astoreN X3.here hexec rfl (hb hbytes d3) rfl rfl rfl ?_
    refine XS.aloadN X3.here hexec rfl (hb hbytes d4) rfl rfl ?_
    refine XS.iloadN X3.here hexec rfl (hb hbytes d5) rfl ?_
    refine XS.aloadN X3.here hexec rfl (hb hbytes d6) rfl rfl ?_
    refine iconstV X3.here hexec rfl 0 (hb hbytes d7) (by decide) ?_
    refine XS.iloadN X3.here hexec rfl (hb hbytes d8) rfl ?_
    exact Steps.refl _)
  obtain ⟨v6, T6, X6, E6, g6⟩ := X3.callS hexec (Cmp5.law l b A s.heap.size B3 o 0 len) hown (wks W (staticW U16 115 Cmp5.yN)) (wk W Cmp5.tab) (W := 0) (Nat.le_of_ble_eq_true rfl) (Nat.le_of_ble_eq_true rfl) (Nat.le_refl _) (by show 0 + len + 0 ≤ len; omega) (g := (mkF m 9 #[.val (.ref b), .val (.int (Int32.ofNat o)), .val (.int (Int32.ofNat len)), .val (.ref s.heap.size), .unset, .unset] [.int (Int32.ofNat len), .int (Int32.ofNat 0), .ref s.heap.size, .int (Int32.ofNat o), .ref b])) rfl (by rw [hml]; rfl) c5 (argsL := [.ref b, .int (Int32.ofNat o), .ref s.heap.size, .int (Int32.ofNat 0), .int (Int32.ofNat len)]) (rest := []) rfl rfl (by show 2 * 0 + 0 ≤ _; decide) (hb hbytes d9) (⟨rfl, hA3, ba3, hne, l1, by rw [bs3]; simp, hp⟩)
  obtain ⟨rfl, B6, p6, f6⟩ := E6
  have c7 : Steps p.tables e below (s₁.setTop (entryFrame m #[.ref b, .int (Int32.ofNat o), .int (Int32.ofNat len)] 6)) (T6.setTop (mkF m 12 #[.val (.ref b), .val (.int (Int32.ofNat o)), .val (.int (Int32.ofNat len)), .val (.ref s.heap.size), .unset, .unset] [.int (Int32.ofNat len)])) := g6
  have c8 : Steps p.tables e below (s₁.setTop (entryFrame m #[.ref b, .int (Int32.ofNat o), .int (Int32.ofNat len)] 6)) (T6.setTop (mkF m 58 #[.val (.ref b), .val (.int (Int32.ofNat o)), .val (.int (Int32.ofNat len)), .val (.ref s.heap.size), .val (.int (Int32.ofNat len)), .unset] [.ref s.heap.size])) := c7.trans (by
    refine XS.istore X6.here hexec rfl (hb hbytes d12) rfl rfl ?_
    refine XS.iload X6.here hexec rfl (hb hbytes d14) rfl ?_
    refine XS.iloadN X6.here hexec rfl (hb hbytes d16) rfl ?_
    refine XS.icmpYes X6.here hexec rfl (pc0 := 17) rfl (hb hbytes d17) rfl (ii_eq_t rfl) (by decide) rfl ?_
    refine XS.aloadN X6.here hexec rfl (hb hbytes d57) rfl rfl ?_
    exact Steps.refl _)
  have X8 := X6.wide (L' := []) (cells' := 1) (slots' := len) (fun x hx hlt => by
    simp only [List.nil_append, copyLocs, List.mem_map, List.mem_range] at hx
    obtain ⟨i, -, rfl⟩ := hx
    exact absurd hlt (Nat.lt_irrefl _)) (Nat.le_refl _) (by omega)
  exact ⟨T6, some (.ref s.heap.size), _, _, _, X8, rfl, rfl, rfl, (fun h => by cases h), ⟨⟨rfl, B6, ba3.like (X3.warmed.alike.symm.trans X6.warmed.alike) p6.1 f6.1 f6.2.1 f6.2.2.1, f6.2.1.trans bv3, by rw [X6.warmed.alike.findClass, f6.1]; exact bf3, by rw [f6.2.2.1, bs3]; simp, fun j hj => by rw [f6.2.2.2 j, if_pos (by omega)]; rfl, kp3.put p6 (Nat.le_refl _)⟩, by rw [p6.2.2, bh3, hh0]; simp⟩, fun fs hl => c8.trans (X8.areturnOut hexec rfl hret rfl (hb hbytes d58) hl)⟩
end Cmp3
namespace CodL
def yN : MethodName := ⟨"java/lang/StringUTF16", "coderFromArrayLen", "([BI)B"⟩
abbrev yB : ByteArray := jdk_52_method_15_code
theorem d0 : decode yB 0 = .ok (.iload_n 1, 1) := by decide +kernel
theorem d1 : decode yB 1 = .ok (.aload_n 0, 1) := by decide +kernel
theorem d2 : decode yB 2 = .ok (.arraylength, 1) := by decide +kernel
theorem d3 : decode yB 3 = .ok (.isub, 1) := by decide +kernel
theorem d4 : decode yB 4 = .ok (.bipush 31, 2) := by decide +kernel
theorem d6 : decode yB 6 = .ok (.iushr, 1) := by decide +kernel
theorem d7 : decode yB 7 = .ok (.i2b, 1) := by decide +kernel
theorem d8 : decode yB 8 = .ok (.ireturn, 1) := by decide +kernel
def site : List Cond := []
def tab : Cond := tabOf yN yB 2 (some .byte) site
def P (d : Addr) (B : Cell) (args : Array Value) (s : State) : Prop := args = #[.ref d, .int (Int32.ofNat B.slots.size)] ∧ Arr .byte d B s
def E (r : Option Value) (s u : State) : Prop := XT.PureE (some (.int 0)) r s u
/-- an array as long as the number of chars: LATIN1 -/
theorem law (l : Launch) (d : Addr) (B : Cell) : Law l yN 2 2 0 0 yB 2 (some .byte) site (P d B) E [] 0 0 := by
  refine Law.of_walk (plainFor_of_name (by decide +kernel)) (by decide +kernel) (by decide +kernel) (by decide) (fun _ _ h => by rw [h.1]; rfl) (fun _ U U' hal hh h => ⟨h.1, h.2.mv hal hh⟩) (fun r U U' V V' h1 hal h2 h => XT.PureE.mv r U U' V V' h1 hal h2 h) ?_
  intro p e s m args below meth c s₁ X0 hexec hbytes hml hret hlk hnm hown hh0 W hP
  obtain ⟨rfl, hB⟩ := hP
  have hB0 := hB.mv X0.warmed.alike hh0
  have c1 : Steps p.tables e below (s₁.setTop (entryFrame m #[.ref d, .int (Int32.ofNat B.slots.size)] 2)) (s₁.setTop (mkF m 0 #[.val (.ref d), .val (.int (Int32.ofNat B.slots.size))] [])) := entry rfl
  have c2 : Steps p.tables e below (s₁.setTop (entryFrame m #[.ref d, .int (Int32.ofNat B.slots.size)] 2)) (s₁.setTop (mkF m 2 #[.val (.ref d), .val (.int (Int32.ofNat B.slots.size))] [.ref d, .int (Int32.ofNat B.slots.size)])) := c1.trans (by
    refine XS.iloadN X0.here hexec rfl (hb hbytes d0) rfl ?_
    refine XS.aloadN X0.here hexec rfl (hb hbytes d1) rfl rfl ?_
    exact Steps.refl _)
  have c3 : Steps p.tables e below (s₁.setTop (entryFrame m #[.ref d, .int (Int32.ofNat B.slots.size)] 2)) (s₁.setTop (mkF m 8 #[.val (.ref d), .val (.int (Int32.ofNat B.slots.size))] [.int (lo8 (ushr (Int32.ofNat B.slots.size - Int32.ofNat B.slots.size) 31))])) := c2.trans (by
    refine X0.alen hexec hB0 rfl rfl (hb hbytes d2) ?_
    refine XS.isub X0.here hexec rfl (hb hbytes d3) rfl ?_
    refine bipushV X0.here hexec rfl 31 (hb hbytes d4) (by decide) ?_
    refine iushr X0.here hexec rfl (hb hbytes d6) rfl ?_
    refine i2b X0.here hexec rfl (hb hbytes d7) rfl ?_
    exact Steps.refl _)
  have e0 : lo8 (ushr (Int32.ofNat B.slots.size - Int32.ofNat B.slots.size) 31) = 0 := by rw [Int32.sub_self]; decide
  rw [e0] at c3
  exact ⟨s₁, some (.int 0), _, _, _, X0, rfl, rfl, rfl, (fun h => by cases h), ⟨rfl, hh0⟩, fun fs hl => c3.trans (X0.ireturnOut hexec hret rfl (Or.inr (Or.inr (Or.inl rfl))) (hb hbytes d8) hl)⟩
end CodL
/-- the String at a is Latin-1 over a new byte[] (the heap's one new cell): the low bytes of the len chars of A from o on; every cell but a is kept -/
def Got (a : Addr) (D : Cell) (fV fC : Field) (A : Cell) (o len : Nat) (r : Option Value) (s u : State) : Prop := r = none ∧ ∃ D' V : Cell, Blank "java/lang/String" a D' u ∧ Same D D' [fV.slot, fC.slot] ∧ D'.slots[fV.slot]? = some (.ref s.heap.size) ∧ D'.slots[fC.slot]? = some (.int 0) ∧ Arr .byte s.heap.size V u ∧ V.vm = .none ∧ u.vm.findClass "[B" = some V.cls ∧ V.slots.size = len ∧ (∀ j, j < len → V.slots[j]? = some (.int (lo8 (cv A (o + j))))) ∧ (∀ (y : Addr) (c : Cell), y ≠ a → s.heap[y]? = some c → u.heap[y]? = some c) ∧ u.heap.size = s.heap.size + 1
theorem Got.mv {a : Addr} {D A : Cell} {fV fC : Field} {o len : Nat} : ∀ r (U U' V V' : State), U'.heap = U.heap → V.vm.Alike V'.vm → V'.heap = V.heap → Got a D fV fC A o len r U V → Got a D fV fC A o len r U' V' :=
  fun r U U' V V' h1 hal h2 ⟨e0, D', X, a1, a2, a3, a4, a5, a6, a7, a8, a9, a10, a11⟩ => ⟨e0, D', X, a1.mv hal h2, a2, by rw [h1]; exact a3, a4, by rw [h1]; exact a5.mv hal h2, a6, by rw [hal.findClass]; exact a7, a8, a9, by rw [h1, h2]; exact a10, by rw [h1, h2]; exact a11⟩
namespace New4
def yN : MethodName := ⟨"java/lang/String", "<init>", "([CIILjava/lang/Void;)V"⟩
abbrev yB : ByteArray := jdk_42_method_149_code
theorem d0 : decode yB 0 = .ok (.aload_n 0, 1) := by decide +kernel
theorem d1 : decode yB 1 = .ok (.invokespecial 1, 3) := by decide +kernel
theorem d4 : decode yB 4 = .ok (.iload_n 3, 1) := by decide +kernel
theorem d5 : decode yB 5 = .ok (.ifCond (.ne) 22, 3) := by decide +kernel
theorem d27 : decode yB 27 = .ok (.getstatic 38, 3) := by decide +kernel
theorem d30 : decode yB 30 = .ok (.ifCond (.eq) 28, 3) := by decide +kernel
theorem d33 : decode yB 33 = .ok (.aload_n 1, 1) := by decide +kernel
theorem d34 : decode yB 34 = .ok (.iload_n 2, 1) := by decide +kernel
theorem d35 : decode yB 35 = .ok (.iload_n 3, 1) := by decide +kernel
theorem d36 : decode yB 36 = .ok (.invokestatic 177, 3) := by decide +kernel
theorem d39 : decode yB 39 = .ok (.astore 5, 2) := by decide +kernel
theorem d41 : decode yB 41 = .ok (.aload_n 0, 1) := by decide +kernel
theorem d42 : decode yB 42 = .ok (.aload 5, 2) := by decide +kernel
theorem d44 : decode yB 44 = .ok (.iload_n 3, 1) := by decide +kernel
theorem d45 : decode yB 45 = .ok (.invokestatic 47, 3) := by decide +kernel
theorem d48 : decode yB 48 = .ok (.putfield 15, 3) := by decide +kernel
theorem d51 : decode yB 51 = .ok (.aload_n 0, 1) := by decide +kernel
theorem d52 : decode yB 52 = .ok (.aload 5, 2) := by decide +kernel
theorem d54 : decode yB 54 = .ok (.putfield 9, 3) := by decide +kernel
theorem d57 : decode yB 57 = .ok (.return_, 1) := by decide +kernel
def site : List Cond := [.fieldLink "java/lang/String" 38 "java/lang/String" "COMPACT_STRINGS" "Z", Cmp3.tab, CodL.tab, .laysFinal "java/lang/String" "java/lang/String" "value" "[B", .fieldLink "java/lang/String" 9 "java/lang/String" "value" "[B", .laysFinal "java/lang/String" "java/lang/String" "coder" "B", .fieldLink "java/lang/String" 15 "java/lang/String" "coder" "B"] ++ objW "java/lang/String" 1 ++ staticW "java/lang/String" 177 Cmp3.yN ++ staticW "java/lang/String" 47 CodL.yN
def tab : Cond := tabOf yN yB 6 none site
def P (a : Addr) (D : Cell) (fV fC : Field) (b : Addr) (A : Cell) (z : Int32) (o len : Nat) (args : Array Value) (s : State) : Prop := args = #[.ref a, .ref b, .int (Int32.ofNat o), .int (Int32.ofNat len), .null] ∧ Blank "java/lang/String" a D s ∧ Found "java/lang/String" "value" "[B" fV s ∧ Found "java/lang/String" "coder" "B" fC s ∧ Ch b A s ∧ StaticIs s "java/lang/String" "COMPACT_STRINGS" "Z" (.int z) ∧ ¬ z = 0 ∧ 0 < len ∧ o + len ≤ A.slots.size ∧ len ≤ 536870912 ∧ ∀ i, i < len → ¬ 255 < cv A (o + i)
def E (a : Addr) (D : Cell) (fV fC : Field) (A : Cell) (o len : Nat) (r : Option Value) (s u : State) : Prop := Got a D fV fC A o len r s u
/-- len > 0, no char of the range above 255: a Latin-1 String of their low bytes -/
theorem law (l : Launch) (a : Addr) (D : Cell) (fV fC : Field) (b : Addr) (A : Cell) (z : Int32) (o len : Nat) : Law l yN 5 4 2 35 yB 6 none site (P a D fV fC b A z o len) (E a D fV fC A o len) [⟨a, fC.slot⟩, ⟨a, fV.slot⟩] 1 len := by
  refine Law.of_walk (plainFor_of_name (by decide +kernel)) (by decide +kernel) (by decide +kernel) (by decide) (fun _ _ h => by rw [h.1]; rfl) (fun _ U U' hal hh h => ⟨h.1, h.2.1.mv hal hh, h.2.2.1.al hal, h.2.2.2.1.al hal, h.2.2.2.2.1.mv hal hh, h.2.2.2.2.2.1.there hal hh, h.2.2.2.2.2.2⟩) (fun r U U' V V' h1 hal h2 h => Got.mv r U U' V V' h1 hal h2 h) ?_
  intro p e s m args below meth c s₁ X0 hexec hbytes hml hret hlk hnm hown hh0 W hP
  obtain ⟨rfl, hB, f1, f2, hA, s1, hz, l0, l1, l2, hp⟩ := hP
  have a31 := hA.1.2.2.2
  have c1 : Steps p.tables e below (s₁.setTop (entryFrame m #[.ref a, .ref b, .int (Int32.ofNat o), .int (Int32.ofNat len), .null] 6)) (s₁.setTop (mkF m 0 #[.val (.ref a), .val (.ref b), .val (.int (Int32.ofNat o)), .val (.int (Int32.ofNat len)), .val .null, .unset] [])) := entry rfl
  have c2 : Steps p.tables e below (s₁.setTop (entryFrame m #[.ref a, .ref b, .int (Int32.ofNat o), .int (Int32.ofNat len), .null] 6)) (s₁.setTop (mkF m 1 #[.val (.ref a), .val (.ref b), .val (.int (Int32.ofNat o)), .val (.int (Int32.ofNat len)), .val .null, .unset] [.ref a])) := c1.trans (by
    refine XS.aloadN X0.here hexec rfl (hb hbytes d0) rfl rfl ?_
    exact Steps.refl _)
  obtain ⟨T3, X3, q3, st3⟩ := X0.oinit hexec hown (wks W (objW "java/lang/String" 1)) (g := (mkF m 1 #[.val (.ref a), .val (.ref b), .val (.int (Int32.ofNat o)), .val (.int (Int32.ofNat len)), .val .null, .unset] [.ref a])) rfl (by rw [hml]; rfl) (rest := []) rfl (hb hbytes d1) (W := 0) (by show 2 * 0 + 0 ≤ _; decide) (Nat.le_of_ble_eq_true rfl) (Nat.le_of_ble_eq_true rfl)
  have hh3 := q3.trans hh0
  have c4 : Steps p.tables e below (s₁.setTop (entryFrame m #[.ref a, .ref b, .int (Int32.ofNat o), .int (Int32.ofNat len), .null] 6)) (T3.setTop (mkF m 27 #[.val (.ref a), .val (.ref b), .val (.int (Int32.ofNat o)), .val (.int (Int32.ofNat len)), .val .null, .unset] [])) := (c2.trans (st3 _ (Steps.refl _))).trans (by
    refine XS.iloadN X3.here hexec rfl (hb hbytes d4) rfl ?_
    refine XS.ifYes X3.here hexec rfl (pc0 := 5) rfl (hb hbytes d5) rfl (i0_ne_t (nz32 (by omega) l0)) (by decide) rfl ?_
    exact Steps.refl _)
  obtain ⟨T5, X5, q5, st5⟩ := X3.sget hexec hown (wk W (.fieldLink "java/lang/String" 38 "java/lang/String" "COMPACT_STRINGS" "Z")) s1 (fun _ _ h => by rw [hh3]; exact h) (g := (mkF m 27 #[.val (.ref a), .val (.ref b), .val (.int (Int32.ofNat o)), .val (.int (Int32.ofNat len)), .val .null, .unset] [])) rfl (hb hbytes d27)
  have hh5 := q5.trans hh3
  have c6 : Steps p.tables e below (s₁.setTop (entryFrame m #[.ref a, .ref b, .int (Int32.ofNat o), .int (Int32.ofNat len), .null] 6)) (T5.setTop (mkF m 30 #[.val (.ref a), .val (.ref b), .val (.int (Int32.ofNat o)), .val (.int (Int32.ofNat len)), .val .null, .unset] [.int z])) := c4.trans (st5 _ (Steps.refl _))
  have c7 : Steps p.tables e below (s₁.setTop (entryFrame m #[.ref a, .ref b, .int (Int32.ofNat o), .int (Int32.ofNat len), .null] 6)) (T5.setTop (mkF m 36 #[.val (.ref a), .val (.ref b), .val (.int (Int32.ofNat o)), .val (.int (Int32.ofNat len)), .val .null, .unset] [.int (Int32.ofNat len), .int (Int32.ofNat o), .ref b])) := c6.trans (by
    refine XS.ifNo X5.here hexec rfl (hb hbytes d30) rfl (i0_eq_f hz) ?_
    refine XS.aloadN X5.here hexec rfl (hb hbytes d33) rfl rfl ?_
    refine XS.iloadN X5.here hexec rfl (hb hbytes d34) rfl ?_
    refine XS.iloadN X5.here hexec rfl (hb hbytes d35) rfl ?_
    exact Steps.refl _)
  obtain ⟨v8, T8, X8, E8, g8⟩ := X5.callS hexec (Cmp3.law l b A o len) hown (wks W (staticW "java/lang/String" 177 Cmp3.yN)) (wk W Cmp3.tab) (W := 0) (Nat.le_of_ble_eq_true rfl) (Nat.le_of_ble_eq_true rfl) (Nat.le_refl _) (by show 0 + len ≤ len; omega) (g := (mkF m 36 #[.val (.ref a), .val (.ref b), .val (.int (Int32.ofNat o)), .val (.int (Int32.ofNat len)), .val .null, .unset] [.int (Int32.ofNat len), .int (Int32.ofNat o), .ref b])) rfl (by rw [hml]; rfl) c7 (argsL := [.ref b, .int (Int32.ofNat o), .int (Int32.ofNat len)]) (rest := []) rfl rfl (by show 2 * 0 + 0 ≤ _; decide) (hb hbytes d36) (⟨rfl, hA.mv X5.warmed.alike hh5, l1, l2, hp⟩)
  obtain ⟨e8, z8⟩ := E8
  obtain ⟨rfl, N, n1, n2, n3, n4, n5, n6⟩ := NewArr.mv _ T5 s _ _ hh5.symm (Vm.Alike.refl _) rfl e8
  rw [hh5] at z8
  have hB1 := hB.keep X8.warmed.alike (n6 _ _ hB.1)
  have hne : s.heap.size ≠ a := (Nat.ne_of_lt (Array.getElem?_eq_some_iff.mp hB.1).1).symm
  have c9 : Steps p.tables e below (s₁.setTop (entryFrame m #[.ref a, .ref b, .int (Int32.ofNat o), .int (Int32.ofNat len), .null] 6)) (T8.setTop (mkF m 39 #[.val (.ref a), .val (.ref b), .val (.int (Int32.ofNat o)), .val (.int (Int32.ofNat len)), .val .null, .unset] [.ref s.heap.size])) := g8
  have c10 : Steps p.tables e below (s₁.setTop (entryFrame m #[.ref a, .ref b, .int (Int32.ofNat o), .int (Int32.ofNat len), .null] 6)) (T8.setTop (mkF m 45 #[.val (.ref a), .val (.ref b), .val (.int (Int32.ofNat o)), .val (.int (Int32.ofNat len)), .val .null, .val (.ref s.heap.size)] [.int (Int32.ofNat N.slots.size), .ref s.heap.size, .ref a])) := by
    have hc : Steps p.tables e below (s₁.setTop (entryFrame m #[.ref a, .ref b, .int (Int32.ofNat o), .int (Int32.ofNat len), .null] 6)) (T8.setTop (mkF m 45 #[.val (.ref a), .val (.ref b), .val (.int (Int32.ofNat o)), .val (.int (Int32.ofNat len)), .val .null, .val (.ref s.heap.size)] [.int (Int32.ofNat len), .ref s.heap.size, .ref a])) := c9.trans (by
      refine XS.astore X8.here hexec rfl (hb hbytes d39) rfl rfl rfl ?_
      refine XS.aloadN X8.here hexec rfl (hb hbytes d41) rfl rfl ?_
      refine XS.aload X8.here hexec rfl (hb hbytes d42) rfl rfl ?_
      refine XS.iloadN X8.here hexec rfl (hb hbytes d44) rfl ?_
      exact Steps.refl _)
    rw [n4]; exact hc
  obtain ⟨v11, T11, X11, E11, g11⟩ := X8.callS hexec (CodL.law l s.heap.size N) hown (wks W (staticW "java/lang/String" 47 CodL.yN)) (wk W CodL.tab) (W := 1) (Nat.le_of_ble_eq_true rfl) (Nat.le_of_ble_eq_true rfl) (Nat.le_refl _) (by show 0 + len + 0 ≤ len; omega) (g := (mkF m 45 #[.val (.ref a), .val (.ref b), .val (.int (Int32.ofNat o)), .val (.int (Int32.ofNat len)), .val .null, .val (.ref s.heap.size)] [.int (Int32.ofNat N.slots.size), .ref s.heap.size, .ref a])) rfl (by rw [hml]; rfl) c10 (argsL := [.ref s.heap.size, .int (Int32.ofNat N.slots.size)]) (rest := [.ref a]) rfl rfl (by show 2 * 0 + (1 + 0) ≤ _; decide) (hb hbytes d45) (⟨rfl, n1⟩)
  obtain ⟨rfl, q11⟩ := E11
  have hB11 := hB1.mv (X8.warmed.alike.symm.trans X11.warmed.alike) q11
  have c12 : Steps p.tables e below (s₁.setTop (entryFrame m #[.ref a, .ref b, .int (Int32.ofNat o), .int (Int32.ofNat len), .null] 6)) (T11.setTop (mkF m 48 #[.val (.ref a), .val (.ref b), .val (.int (Int32.ofNat o)), .val (.int (Int32.ofNat len)), .val .null, .val (.ref s.heap.size)] [.int 0, .ref a])) := g11
  obtain ⟨T13, X13, p13, bl13, sl13, st13⟩ := X11.finit hexec hown (wk W (.fieldLink "java/lang/String" 15 "java/lang/String" "coder" "B")) (Or.inr ⟨_, (wk W (.laysFinal "java/lang/String" "java/lang/String" "coder" "B"))⟩) (Or.inl ⟨rfl, hnm⟩) f2 (Or.inl rfl) hB11 (t := .byte) (by decide +kernel) rfl (g := (mkF m 48 #[.val (.ref a), .val (.ref b), .val (.int (Int32.ofNat o)), .val (.int (Int32.ofNat len)), .val .null, .val (.ref s.heap.size)] [.int 0, .ref a])) rfl (rest := []) rfl (hb hbytes d48)
  have c14 : Steps p.tables e below (s₁.setTop (entryFrame m #[.ref a, .ref b, .int (Int32.ofNat o), .int (Int32.ofNat len), .null] 6)) (T13.setTop (mkF m 54 #[.val (.ref a), .val (.ref b), .val (.int (Int32.ofNat o)), .val (.int (Int32.ofNat len)), .val .null, .val (.ref s.heap.size)] [.ref s.heap.size, .ref a])) := (c12.trans (st13 _ (Steps.refl _))).trans (by
    refine XS.aloadN X13.here hexec rfl (hb hbytes d51) rfl rfl ?_
    refine XS.aload X13.here hexec rfl (hb hbytes d52) rfl rfl ?_
    exact Steps.refl _)
  obtain ⟨T15, X15, p15, bl15, sl15, st15⟩ := X13.finit hexec hown (wk W (.fieldLink "java/lang/String" 9 "java/lang/String" "value" "[B")) (Or.inr ⟨_, (wk W (.laysFinal "java/lang/String" "java/lang/String" "value" "[B"))⟩) (Or.inl ⟨rfl, hnm⟩) f1 (Or.inl rfl) bl13 (t := (.array .byte)) (by decide +kernel) rfl (g := (mkF m 54 #[.val (.ref a), .val (.ref b), .val (.int (Int32.ofNat o)), .val (.int (Int32.ofNat len)), .val .null, .val (.ref s.heap.size)] [.ref s.heap.size, .ref a])) rfl (rest := []) rfl (hb hbytes d54)
  have c16 : Steps p.tables e below (s₁.setTop (entryFrame m #[.ref a, .ref b, .int (Int32.ofNat o), .int (Int32.ofNat len), .null] 6)) (T15.setTop (mkF m 57 #[.val (.ref a), .val (.ref b), .val (.int (Int32.ofNat o)), .val (.int (Int32.ofNat len)), .val .null, .val (.ref s.heap.size)] [])) := c14.trans (st15 _ (Steps.refl _))
  have ap := apart (Or.inr ⟨_, (wk W (.laysFinal "java/lang/String" "java/lang/String" "value" "[B"))⟩) (Or.inr ⟨_, (wk W (.laysFinal "java/lang/String" "java/lang/String" "coder" "B"))⟩) f1 f2 (t₁ := .array .byte) (t₂ := .byte) (by decide +kernel) (by decide +kernel) (by decide)
  have al := X8.warmed.alike.symm.trans X15.warmed.alike
  have n7 : T11.heap[s.heap.size]? = some N := by rw [q11]; exact n1.1
  exact ⟨T15, none, _, _, _, X15, by simp, rfl, by omega, (fun _ => rfl), ⟨rfl, _, N, bl15, ((Same.refl D _).set _ (by simp)).set _ (by simp), sl15, (Cell.slots_setSlot_ne _ ap).trans sl13, n1.keep al (p15.other hne (p13.other hne n7)), n2, by rw [al.findClass]; exact n3, n4, n5, fun y c h1 h2 => p15.other h1 (p13.other h1 (by rw [q11]; exact n6 y c h2)), by rw [p15.2.2, p13.2.2, q11]; exact z8⟩, fun fs hl => c16.trans (X15.returnOut hexec hret (hb hbytes d57) hl)⟩
end New4
namespace New1
def yN : MethodName := ⟨"java/lang/String", "<init>", "([C)V"⟩
abbrev yB : ByteArray := jdk_42_method_3_code
theorem d0 : decode yB 0 = .ok (.aload_n 0, 1) := by decide +kernel
theorem d1 : decode yB 1 = .ok (.aload_n 1, 1) := by decide +kernel
theorem d2 : decode yB 2 = .ok (.iconst 0, 1) := by decide +kernel
theorem d3 : decode yB 3 = .ok (.aload_n 1, 1) := by decide +kernel
theorem d4 : decode yB 4 = .ok (.arraylength, 1) := by decide +kernel
theorem d5 : decode yB 5 = .ok (.aconst_null, 1) := by decide +kernel
theorem d6 : decode yB 6 = .ok (.invokespecial 27, 3) := by decide +kernel
theorem d9 : decode yB 9 = .ok (.return_, 1) := by decide +kernel
def site : List Cond := [New4.tab] ++ initW "java/lang/String" 27 New4.yN
def tab : Cond := tabOf yN yB 2 none site
def P (a : Addr) (D : Cell) (fV fC : Field) (b : Addr) (A : Cell) (z : Int32) (args : Array Value) (s : State) : Prop := args = #[.ref a, .ref b] ∧ Blank "java/lang/String" a D s ∧ Found "java/lang/String" "value" "[B" fV s ∧ Found "java/lang/String" "coder" "B" fC s ∧ Ch b A s ∧ StaticIs s "java/lang/String" "COMPACT_STRINGS" "Z" (.int z) ∧ ¬ z = 0 ∧ 0 < A.slots.size ∧ A.slots.size ≤ 536870912 ∧ ∀ i, i < A.slots.size → ¬ 255 < cv A i
def E (a : Addr) (D : Cell) (fV fC : Field) (A : Cell) (r : Option Value) (s u : State) : Prop := Got a D fV fC A 0 A.slots.size r s u
/-- new String(chars), not empty, no char above 255: a Latin-1 String of their low bytes -/
theorem law (l : Launch) (a : Addr) (D : Cell) (fV fC : Field) (b : Addr) (A : Cell) (z : Int32) : Law l yN 2 1 3 52 yB 2 none site (P a D fV fC b A z) (E a D fV fC A) [⟨a, fC.slot⟩, ⟨a, fV.slot⟩] 1 A.slots.size := by
  refine Law.of_walk (plainFor_of_name (by decide +kernel)) (by decide +kernel) (by decide +kernel) (by decide) (fun _ _ h => by rw [h.1]; rfl) (fun _ U U' hal hh h => ⟨h.1, h.2.1.mv hal hh, h.2.2.1.al hal, h.2.2.2.1.al hal, h.2.2.2.2.1.mv hal hh, h.2.2.2.2.2.1.there hal hh, h.2.2.2.2.2.2⟩) (fun r U U' V V' h1 hal h2 h => Got.mv r U U' V V' h1 hal h2 h) ?_
  intro p e s m args below meth c s₁ X0 hexec hbytes hml hret hlk hnm hown hh0 W hP
  obtain ⟨rfl, hB, f1, f2, hA, s1, hz, l0, l2, hp⟩ := hP
  have c1 : Steps p.tables e below (s₁.setTop (entryFrame m #[.ref a, .ref b] 2)) (s₁.setTop (mkF m 0 #[.val (.ref a), .val (.ref b)] [])) := entry rfl
  have c2 : Steps p.tables e below (s₁.setTop (entryFrame m #[.ref a, .ref b] 2)) (s₁.setTop (mkF m 6 #[.val (.ref a), .val (.ref b)] [.null, .int (Int32.ofNat A.slots.size), .int 0, .ref b, .ref a])) := c1.trans (by
    refine XS.aloadN X0.here hexec rfl (hb hbytes d0) rfl rfl ?_
    refine XS.aloadN X0.here hexec rfl (hb hbytes d1) rfl rfl ?_
    refine iconstV X0.here hexec rfl 0 (hb hbytes d2) (by decide) ?_
    refine XS.aloadN X0.here hexec rfl (hb hbytes d3) rfl rfl ?_
    refine X0.alen hexec (hA.1.mv X0.warmed.alike hh0) rfl rfl (hb hbytes d4) ?_
    refine XS.aconstNull X0.here hexec rfl (hb hbytes d5) ?_
    exact Steps.refl _)
  obtain ⟨v3, T3, X3, E3, g3⟩ := X0.callN hexec (New4.law l a D fV fC b A z 0 A.slots.size) rfl hown (wks W (initW "java/lang/String" 27 New4.yN)) (W New4.tab (by simp only [site, List.mem_cons, List.mem_append, true_or, or_true])) (W := 0) (Nat.le_of_ble_eq_true rfl) (Nat.le_of_ble_eq_true rfl) (Nat.le_refl _) (by show 0 + A.slots.size ≤ A.slots.size; omega) (g := (mkF m 6 #[.val (.ref a), .val (.ref b)] [.null, .int (Int32.ofNat A.slots.size), .int (Int32.ofNat 0), .ref b, .ref a])) rfl (by rw [hml]; rfl) c2 (argsL := [.ref b, .int (Int32.ofNat 0), .int (Int32.ofNat A.slots.size), .null]) (rest := []) rfl rfl (by show 2 * 0 + 0 ≤ _; decide) (hb hbytes d6) (⟨rfl, hB.mv X0.warmed.alike hh0, f1.al X0.warmed.alike, f2.al X0.warmed.alike, hA.mv X0.warmed.alike hh0, s1.there X0.warmed.alike hh0, hz, l0, by omega, l2, fun i hi => by rw [Nat.zero_add]; exact hp i hi⟩)
  have e0 := Got.mv _ s₁ s _ _ hh0.symm (Vm.Alike.refl _) rfl E3
  obtain rfl := e0.1
  have c4 : Steps p.tables e below (s₁.setTop (entryFrame m #[.ref a, .ref b] 2)) (T3.setTop (mkF m 9 #[.val (.ref a), .val (.ref b)] [])) := g3
  exact ⟨T3, none, _, _, _, X3, by simp, rfl, by omega, (fun _ => rfl), e0, fun fs hl => c4.trans (X3.returnOut hexec hret (hb hbytes d9) hl)⟩
theorem pays {l : Launch} {R : Room} {p : Program} {e : Env} {below : List Frame} {s : State} {sargs : Array Value} {len W : Nat} (a : Addr) (D : Cell) (fV fC : Field) (b : Addr) (A : Cell) (z : Int32) (htab : tab.before sargs s = true) (hfr : 4 ≤ R.frames) (hlo : W + 65 ≤ R.locals) :
    Back l R p e below s sargs yN len W (fun A₁ a₁ => A₁.cells + 1 ≤ R.cells ∧ A₁.slots + A.slots.size ≤ R.slots ∧ P a D fV fC b A z a₁ A₁.U) (fun A₁ _ v₁ B₁ => E a D fV fC A v₁ A₁.U B₁.U ∧ B₁.locs = A₁.locs ++ [⟨a, fC.slot⟩, ⟨a, fV.slot⟩] ∧ B₁.cells = A₁.cells + 1 ∧ B₁.slots = A₁.slots + A.slots.size) :=
  (law l a D fV fC b A z).pays htab hfr (by omega)
end New1
/-- the byte, read back as charAt reads it, is the char -/
theorem lo8_mask {x : Int32} (h0 : ¬ x < 0) (h1 : ¬ 255 < x) : lo8 x &&& 255 = x := by
  have t : ∀ k : Fin 256, lo8 (Int32.ofNat k.val) &&& 255 = Int32.ofNat k.val := by decide +kernel
  rw [Int32.lt_iff_toInt_lt] at h0 h1
  have e0 : (0 : Int32).toInt = 0 := rfl
  have e1 : (255 : Int32).toInt = 255 := rfl
  obtain ⟨k, hk⟩ : ∃ k : Nat, x.toInt = k := ⟨x.toInt.toNat, by omega⟩
  have hx : x = Int32.ofNat k := Int32.toInt_inj.mp (by rw [hk, Int32.toInt_ofNat_small (by omega)])
  rw [hx]
  exact t ⟨k, by omega⟩
end StrChars
namespace StrChars.Road
open Jvm Sem ClassFile Op Lib Jvm.Stand Jvm.Free Jvm.Free.XT
open Jvm.Lib.Cold (StaticIs)
abbrev ST : String := "java/lang/String"
/-- every table word that New1's law asks, flat -/
abbrev words : List Jvm.Cond := [.code New1.yN New1.yB 2 none, .initialized ST, .methodLink ST 27 New4.yN, .instanceMethod New4.yN,
  .code New4.yN New4.yB 6 none, .fieldLink ST 38 ST "COMPACT_STRINGS" "Z", .laysFinal ST ST "value" "[B", .fieldLink ST 9 ST "value" "[B", .laysFinal ST ST "coder" "B", .fieldLink ST 15 ST "coder" "B",
  .methodLink ST 1 Lib.objectInit, .instanceMethod Lib.objectInit, .code Lib.objectInit ⟨#[0xb1]⟩ 1 none, .methodLink ST 177 Cmp3.yN, .static Cmp3.yN, .methodLink ST 47 CodL.yN, .static CodL.yN,
  .code Cmp3.yN Cmp3.yB 6 (some (.array .byte)), .initialized U16, .arrayClass .byte, .methodLink U16 115 Cmp5.yN, .static Cmp5.yN, .code Cmp5.yN Cmp5.yB 7 (some .int), .code CodL.yN CodL.yB 2 (some .byte)]
theorem tab_of {a : Array Value} {s : State} (h : ∀ w ∈ words, w.before a s = true) : New1.tab.before a s = true := by
  have h5 : Cmp5.tab.before a s = true := unparts (wk h (.code Cmp5.yN Cmp5.yB 7 (some .int))) (wks h (.initialized Cmp5.yN.cls :: Cmp5.site))
  have hc : CodL.tab.before a s = true := unparts (wk h (.code CodL.yN CodL.yB 2 (some .byte))) (wks h (.initialized CodL.yN.cls :: CodL.site))
  have q5 : ∀ w ∈ Cmp5.tab :: words, w.before a s = true := fun w hw => (List.mem_cons.mp hw).elim (fun e => e ▸ h5) (h w)
  have h3 : Cmp3.tab.before a s = true := unparts (wk q5 (.code Cmp3.yN Cmp3.yB 6 (some (.array .byte)))) (wks q5 (.initialized Cmp3.yN.cls :: Cmp3.site))
  have q3 : ∀ w ∈ Cmp3.tab :: CodL.tab :: words, w.before a s = true := fun w hw => (List.mem_cons.mp hw).elim (fun e => e ▸ h3) fun hw => (List.mem_cons.mp hw).elim (fun e => e ▸ hc) (h w)
  have h4 : New4.tab.before a s = true := unparts (wk q3 (.code New4.yN New4.yB 6 none)) (wks q3 (.initialized New4.yN.cls :: New4.site))
  have q4 : ∀ w ∈ New4.tab :: words, w.before a s = true := fun w hw => (List.mem_cons.mp hw).elim (fun e => e ▸ h4) (h w)
  exact unparts (wk q4 (.code New1.yN New1.yB 2 none)) (wks q4 (.initialized New1.yN.cls :: New1.site))
/-- the words ride from the start Z to the walk's own state -/
theorem moved {Z s : State} {a0 args : Array Value} (hZ : Z.Warmed39 s.vm) (hw : ∀ d ∈ words, d.before a0 Z = true) : ∀ d ∈ words, d.before args s = true := fun d hd => by
  have q := hw d hd
  have t : ∀ d ∈ words, d = .arrayClass .byte ∨ (d.onTables && d.keepsFace) = true := by decide +kernel
  rcases t d hd with rfl | t
  · exact RoadKit.mvA hZ q
  · exact RoadKit.mv hZ q t
/-- WHAT COMES BACK, over the tables of the start Z: h the heap at the call, h' behind it -/
def Q (Z : State) (x : Addr) (A : Cell) (h : Heap) (v : Option Value) (h' : Heap) (L : List Loc) : Prop := v = none ∧ (∀ y ∈ L, y.base = x) ∧ RoadKit.Keep h h' [x] ∧ h'.size = h.size + 1 ∧ RoadKit.Exa Z h' x ST ∧ RoadKit.Fld Z h' x ST "value" "[B" (.ref h.size) ∧ RoadKit.Fld Z h' x ST "coder" "B" (.int 0) ∧
  (∃ V : Cell, RoadKit.Arr Z h' h.size V .byte ∧ V.vm = .none ∧ Z.vm.findClass "[B" = some V.cls ∧ V.slots.size = A.slots.size ∧ ∀ j, j < A.slots.size → V.slots[j]? = some (.int (lo8 (cv A j)))) ∧
  ∀ (O n d : String) (w : Value), RoadKit.Fld Z h x O n d w → RoadKit.slotOf Z O n d ≠ RoadKit.slotOf Z ST "value" "[B" → RoadKit.slotOf Z O n d ≠ RoadKit.slotOf Z ST "coder" "B" → RoadKit.Fld Z h' x O n d w
/-- **new String(chars) AT A CALL, IN THE ROAD'S FORM**: for specialBack behind newO: x the fresh String, b the char[] with the cell A -/
theorem back {p : Program} {l : Launch} {e : Env} {R : Room} {s : State} {args : Array Value} {below : List Frame} {len W : Nat} {Z : State} {a0 : Array Value} {h : Heap} (hZ : Z.Warmed39 s.vm) (hw : ∀ d ∈ words, d.before a0 Z = true) {kI : Nat} (wi : (Jvm.Cond.instantiable ST kI).before a0 Z = true)
    {x b : Addr} {A : Cell} {z : Int32} {v0 c0 : Value} (E : RoadKit.Exa Z h x ST) (V : RoadKit.Fld Z h x ST "value" "[B" v0) (C : RoadKit.Fld Z h x ST "coder" "B" c0) (K : RoadKit.Arr Z h b A .char) (hty : Typed .char A) (S : RoadKit.Sta Z h ST "COMPACT_STRINGS" "Z" (.int z)) (hz : ¬ z = 0)
    (l0 : 0 < A.slots.size) (l2 : A.slots.size ≤ 536870912) (hp : ∀ i, i < A.slots.size → ¬ 255 < cv A i) (hfr : 4 ≤ R.frames) (hlo : W + 65 ≤ R.locals) :
    Back l R p e below s args New1.yN len W (fun P a => a = #[.ref x, .ref b] ∧ P.U.heap = h ∧ P.cells + 1 ≤ R.cells ∧ P.slots + A.slots.size ≤ R.slots)
      (fun P _ v B => ∃ L, Q Z x A h v B.U.heap L ∧ B.locs = P.locs ++ L ∧ B.cells = P.cells + 1 ∧ B.slots = P.slots + A.slots.size) := by
  intro m meth c P g ig mk a X hg hsize hdg hW hn hp'
  obtain ⟨rfl, rfl, r1, r2⟩ := hp'
  have al : Z.vm.Alike P.U.vm := hZ.alike.trans X.warmed.alike
  obtain ⟨D, cfV, kV, iV, fV, hD, gV, stV, knV, obV, asV, slV⟩ := id V
  obtain ⟨D', cfC, kC, iC, fC, hD', gC, stC, -, -, asC, slC⟩ := id C
  cases hD.symm.trans hD'
  obtain ⟨D2, kD, e1, e2, e3, e4, e5⟩ := id E
  cases hD.symm.trans e1
  obtain ⟨c2, k2, i1, i2, i3, -⟩ := Cond.instantiable_spec wi
  cases e2.symm.trans i1
  cases e3.symm.trans i2
  obtain ⟨kU, u1, u2⟩ := al.2.2 _ _ e3
  have hB : Blank ST x D P.U := ⟨hD, ⟨knV, fun q hq => by rw [hq] at obV; cases obV⟩, by rw [al.findClass]; exact e2, kU, u1, by rw [u2]; exact i3, by rw [u2]; exact e5 i3⟩
  have F1 : Found ST "value" "[B" fV P.U := ⟨SBG.found_only al ⟨cfV, kV, iV, gV⟩, stV⟩
  have F2 : Found ST "coder" "B" fC P.U := ⟨SBG.found_only al ⟨cfC, kC, iC, gC⟩, stC⟩
  have hA : Ch b A P.U := ⟨⟨K.1, State.isArrayOf_alike al K.2.1, K.2.2, by omega⟩, hty⟩
  have hS : StaticIs P.U ST "COMPACT_STRINGS" "Z" (.int z) := by
    obtain ⟨cfS, iS, kS, fS, st, cS, t1, t2, t3, t4, t5, t6, t7⟩ := S
    exact StaticIs.there (s := { Z with heap := P.U.heap }) ⟨cfS, iS, kS, fS, st, cS, t1, t2, t3, t4, t5, (fun q => by rw [q] at t6; cases t6), t7⟩ al rfl
  obtain ⟨v, B, X', ⟨⟨hv, E', V', q1, q2, q3, q4, q5, q6, q7, q8, q9, q10, q11⟩, hl, hc, hs⟩, st⟩ := New1.pays x D fV fC b A z (tab_of (moved hZ hw)) hfr hlo m meth c P g ig mk _ X hg hsize hdg hW hn ⟨r1, r2, rfl, hB, F1, F2, hA, hS, hz, l0, l2, hp⟩
  have al' : Z.vm.Alike B.U.vm := hZ.alike.trans X'.warmed.alike
  have hsz : E'.slots.size = D.slots.size := by
    obtain ⟨-, -, -, kB, w1, w2, w3⟩ := q1
    obtain ⟨kB', y1, y2⟩ := al'.2.2 _ _ e3
    rw [q2.2.1] at w1
    cases w1.symm.trans y1
    rw [w3, e5 i3, y2]
  refine ⟨v, B, X', ⟨_, ⟨hv, ?_, ⟨by omega, fun y cy hy hn' => q10 y cy (by simpa using hn') hy, fun y cy hy => ?_⟩, q11, ⟨E', _, q1.1, by rw [q2.2.1]; exact e2, by rw [q2.2.1]; exact e3, by rw [q2.1]; exact obV, fun _ => by rw [hsz]; exact e5 i3⟩,
    ⟨E', cfV, kV, iV, fV, q1.1, gV, stV, by rw [q2.1]; exact knV, by rw [q2.1]; exact obV, by rw [q2.2.1]; exact asV, q3⟩, ⟨E', cfC, kC, iC, fC, q1.1, gC, stC, by rw [q2.1]; exact knV, by rw [q2.1]; exact obV, by rw [q2.2.1]; exact asC, q4⟩,
    ⟨V', ⟨q5.1, State.isArrayOf_alike al'.symm q5.2.1, q5.2.2.1⟩, q6, by rw [← al'.findClass]; exact q7, q8, fun j hj => by have := q9 j hj; rwa [Nat.zero_add] at this⟩, fun O n d w F n1 n2 => ?_⟩, hl, hc, hs⟩, st⟩
  · intro y hy
    simp only [List.mem_cons, List.not_mem_nil, or_false] at hy
    rcases hy with rfl | rfl <;> rfl
  · by_cases q : y = x
    · subst q
      cases hD.symm.trans hy
      exact ⟨E', q1.1, q2.2.1, q2.1, hsz⟩
    · exact ⟨cy, q10 y cy q hy, rfl, rfl, rfl⟩
  · obtain ⟨D3, cf, k, i, f, g1, g2, g3, g4, g5, g6, g7⟩ := F
    cases hD.symm.trans g1
    simp only [RoadKit.slotOf, g2, gV, gC, Option.map_some, Option.getD_some] at n1 n2
    exact ⟨E', cf, k, i, f, q1.1, g2, g3, by rw [q2.1]; exact g4, by rw [q2.1]; exact g5, by rw [q2.2.1]; exact g6, by rw [q2.2.2 f.slot (by simp [n1, n2])]; exact g7⟩
end StrChars.Road
namespace StrChars.Road
open Jvm Sem ClassFile Op Lib Jvm.Stand Jvm.Free Jvm.Free.XT
/-- WHAT COMES BACK, the byte[] as a list of values -/
def QA (Z : State) (x : Addr) (zn : Int32) (cs : List Int32) (h : Heap) (v : Option Value) (h' : Heap) (L : List Loc) : Prop := v = none ∧ (∀ y ∈ L, y.base = x) ∧ RoadKit.Keep h h' [x] ∧ h'.size = h.size + 1 ∧ RoadKit.Exa Z h' x ST ∧ RoadKit.Fld Z h' x ST "value" "[B" (.ref h.size) ∧ RoadKit.Fld Z h' x ST "coder" "B" (.int 0) ∧
  (∃ kb, Z.vm.findClass "[B" = some kb ∧ RoadKit.Arv Z h' h.size kb .byte zn (cs.map fun c => .int (lo8 c)) (.int 0)) ∧
  ∀ (O n d : String) (w : Value), RoadKit.Fld Z h x O n d w → RoadKit.slotOf Z O n d ≠ RoadKit.slotOf Z ST "value" "[B" → RoadKit.slotOf Z O n d ≠ RoadKit.slotOf Z ST "coder" "B" → RoadKit.Fld Z h' x O n d w
/-- **new String(chars) AT A CALL, THE ARRAYS AS LISTS**: the char[] at b holds cs, not empty, no char above 255 -/
theorem backArv {p : Program} {l : Launch} {e : Env} {R : Room} {s : State} {args : Array Value} {below : List Frame} {len W : Nat} {Z : State} {a0 : Array Value} {h : Heap} (hZ : Z.Warmed39 s.vm) (hw : ∀ d ∈ words, d.before a0 Z = true) {kI : Nat} (wi : (Jvm.Cond.instantiable ST kI).before a0 Z = true)
    {x b : Addr} {k : ClassId} {zn z : Int32} {cs : List Int32} {dv v0 c0 : Value} (E : RoadKit.Exa Z h x ST) (V : RoadKit.Fld Z h x ST "value" "[B" v0) (C : RoadKit.Fld Z h x ST "coder" "B" c0) (K : RoadKit.Arv Z h b k .char zn (cs.map Value.int) dv) (S : RoadKit.Sta Z h ST "COMPACT_STRINGS" "Z" (.int z)) (hz : ¬ z = 0)
    (hlen : zn.toNatClampNeg = cs.length) (h0 : 0 < cs.length) (hbig : cs.length ≤ 536870912) (hall : ∀ c ∈ cs, ¬ 255 < c) (hfr : 4 ≤ R.frames) (hlo : W + 65 ≤ R.locals) :
    Back l R p e below s args New1.yN len W (fun P a => a = #[.ref x, .ref b] ∧ P.U.heap = h ∧ P.cells + 1 ≤ R.cells ∧ P.slots + cs.length ≤ R.slots)
      (fun P _ v B => ∃ L, QA Z x zn cs h v B.U.heap L ∧ B.locs = P.locs ++ L ∧ B.cells = P.cells + 1 ∧ B.slots = P.slots + cs.length) := by
  obtain ⟨A, K1, K2, K3, K4, K5, K6⟩ := K
  have e : A.slots.size = cs.length := K3.trans hlen
  have hat : ∀ (i : Nat) (hi : i < cs.length), A.slots[i]? = some (.int cs[i]) := fun i hi => by rw [K5 i (by omega)]; simp [List.getD_eq_getElem?_getD, hi]
  have hcv : ∀ (i : Nat) (hi : i < cs.length), cv A i = cs[i] := fun i hi => by unfold cv; rw [hat i hi]
  have hty : Typed .char A := fun i v hv => by
    have hi : i < A.slots.size := (Array.getElem?_eq_some_iff.mp hv).1
    have q := K5 i hi
    rw [hv] at q
    rw [Option.some.inj q]
    exact K6 i hi
  refine Back.mono (back hZ hw wi E V C K1 hty S hz (by omega) (by omega) (fun i hi => by rw [hcv i (by omega)]; exact hall _ (List.getElem_mem _)) hfr hlo) (fun P a hp => ⟨hp.1, hp.2.1, hp.2.2.1, by rw [e]; exact hp.2.2.2⟩) (fun P a v B hp hq => ?_)
  obtain ⟨L, ⟨q1, q2, q3, q4, q5, q6, q7, ⟨V', v1, v2, v3, v4, v5⟩, q9⟩, hl, hc, hs⟩ := hq
  refine ⟨L, ⟨q1, q2, q3, q4, q5, q6, q7, ⟨V'.cls, v3, V', v1, rfl, by rw [v4, e, hlen], K4, fun i hi => ?_, fun i hi => ?_⟩, q9⟩, hl, hc, by rw [hs, e]⟩
  · have hi' : i < cs.length := by omega
    rw [v5 i (by omega), hcv i hi']; simp [List.getD_eq_getElem?_getD, hi']
  · have hi' : i < cs.length := by omega
    simp only [List.getD_eq_getElem?_getD, List.getElem?_map, List.getElem?_eq_getElem hi', Option.map_some, Option.getD_some]
    exact fits_lo8 _
end StrChars.Road
namespace StrChars.Road
open Jvm Sem ClassFile Op Lib Jvm.Stand Jvm.Free Jvm.Free.XT
/-- WHAT COMES BACK, in the writer's own shape -/
def QV (Z : State) (x : Addr) (N : Int32) (bs : List Int32) (h : Heap) (n0 : Nat) (v : Option Value) (h' : Heap) (L : List Loc) : Prop := v = none ∧ RoadKit.Fr n0 L ∧ RoadKit.Keep h h' [x] ∧ RoadKit.Exa Z h' x ST ∧ RoadKit.Fld Z h' x ST "coder" "B" (.int 0) ∧
  ∃ (t : Addr) (kb : ClassId), n0 ≤ t ∧ h.size ≤ t ∧ ¬ t = x ∧ RoadKit.Fld Z h' x ST "value" "[B" (.ref t) ∧ RoadKit.Arv Z h' t kb .byte N (bs.map Value.int) (.int 0)
/-- **new String(chars) AT A CALL, FOR THE WRITER**: a char[] of n known ints, each 0 to 255 -/
theorem backV {p : Program} {l : Launch} {e : Env} {R : Room} {s : State} {args : Array Value} {below : List Frame} {len W : Nat} {Z : State} {a0 : Array Value} {h : Heap} (hZ : Z.Warmed39 s.vm) (hw : ∀ d ∈ words, d.before a0 Z = true) {kI : Nat} (wi : (Jvm.Cond.instantiable ST kI).before a0 Z = true)
    {x b : Addr} {kC : ClassId} {cs bs : List Int32} {d v0 c0 : Value} {z N : Int32} {n n0 : Nat} (hx0 : n0 ≤ x) (hh0 : n0 ≤ h.size) (E : RoadKit.Exa Z h x ST) (V : RoadKit.Fld Z h x ST "value" "[B" v0) (C : RoadKit.Fld Z h x ST "coder" "B" c0) (K : RoadKit.Arv Z h b kC .char N (cs.map Value.int) d) (S : RoadKit.Sta Z h ST "COMPACT_STRINGS" "Z" (.int z)) (hz : ¬ z = 0)
    (hn : cs.length = n) (hN : N = Int32.ofNat n) (l0 : 0 < n) (l2 : n ≤ 4000) (hp : ∀ c ∈ cs, ¬ c < 0 ∧ ¬ (255 : Int32) < c) (hb : bs = cs.map (fun c => c.toInt8.toInt32)) (hfr : 4 ≤ R.frames) (hlo : W + 65 ≤ R.locals) :
    Back l R p e below s args (⟨"java/lang/String", "<init>", "([C)V"⟩ : MethodName) len W (fun P a => a = #[.ref x, .ref b] ∧ P.U.heap = h ∧ P.cells + 1 ≤ R.cells ∧ P.slots + n ≤ R.slots)
      (fun P _ v B => ∃ L, QV Z x N bs h n0 v B.U.heap L ∧ B.locs = P.locs ++ L ∧ B.cells = P.cells + 1 ∧ B.slots = P.slots + n) := by
  subst hn hN hb
  refine Back.mono (backArv hZ hw wi E V C K S hz (n32 (by omega)) l0 (by omega) (fun c hc => (hp c hc).2) hfr hlo) (fun P a hp => hp) (fun P a v B hp hq => ?_)
  obtain ⟨L, ⟨q1, q2, q3, q4, q5, q6, q7, ⟨kb, v1, v2⟩, q9⟩, hl, hc, hs⟩ := hq
  exact ⟨L, ⟨q1, fun y hy => by rw [q2 y hy]; exact hx0, q3, q5, q7, h.size, kb, hh0, Nat.le_refl _, Nat.ne_of_gt E.lt, q6, by rw [List.map_map]; exact v2⟩, hl, hc, hs⟩
end StrChars.Road
namespace StrChars
open Jvm Sem ClassFile Op Lib Jvm.Stand Jvm.Free.XT Jvm.Free.ALB Jvm.Free.JM Jvm.Free
open Jvm.Lib.Cold (StaticIs)
def hi8 (x : Int32) : Int32 := lo8 (x >>> ((8 : Int32) &&& 31))
/-- what StringUTF16.getChar makes of two bytes -/
def pairCh (u v : Int32) : Int32 := (((u &&& 255) <<< ((0 : Int32) &&& 31)) ||| ((v &&& 255) <<< ((8 : Int32) &&& 31))).toUInt32.toUInt16.toUInt32.toInt32
theorem lo8_and (x : Int32) : (lo8 x &&& 255).toBitVec.toNat = x.toBitVec.toNat % 256 := by
  have h : (lo8 x).toBitVec = (x.toBitVec.signExtend 8).signExtend 32 := by rw [lo8, Int8.toBitVec_toInt32, Int32.toBitVec_toInt8]
  rw [Int32.toBitVec_and, BitVec.toNat_and, h]
  have e : ((x.toBitVec.signExtend 8).signExtend 32).toNat % 256 = x.toBitVec.toNat % 256 := by
    rw [BitVec.toNat_signExtend]
    have hlt := x.toBitVec.isLt
    simp only [BitVec.toNat_setWidth, BitVec.toNat_signExtend]
    split <;> split <;> omega
  rw [← e]
  exact Nat.and_two_pow_sub_one_eq_mod _ 8
theorem pair_says {c : Int32} (h0 : ¬ c < 0) (h1 : ¬ 65535 < c) : pairCh (lo8 c) (hi8 c) = c := by
  rw [Int32.lt_iff_toInt_lt] at h0 h1
  have e0 : (0 : Int32).toInt = 0 := rfl
  have e1 : (65535 : Int32).toInt = 65535 := rfl
  have hc : c.toInt = c.toBitVec.toNat := by
    have := c.toBitVec.isLt
    have e : c.toInt = c.toBitVec.toInt := rfl
    rw [e] at h0 h1
    rw [e]
    rw [BitVec.toInt_eq_toNat_cond] at h0 h1 ⊢
    split at h0 <;> split <;> omega
  have hn : c.toBitVec.toNat < 65536 := by omega
  have a1 := lo8_and c
  have a2 : (hi8 c &&& 255).toBitVec.toNat = c.toBitVec.toNat / 256 := by
    rw [hi8, lo8_and]
    have e : ((8 : Int32) &&& 31) = 8 := by decide
    rw [e, Int32.toBitVec_shiftRight]
    have e2 : ((8 : Int32).toBitVec.smod 32) = 8#32 := by decide
    rw [e2, BitVec.sshiftRight_eq', BitVec.toNat_sshiftRight_of_msb_false (by rw [BitVec.msb_eq_false_iff_two_mul_lt]; omega)]
    show c.toBitVec.toNat >>> 8 % 256 = _
    rw [Nat.shiftRight_eq_div_pow]
    omega
  unfold pairCh
  apply Int32.toBitVec_inj.mp
  apply BitVec.eq_of_toNat_eq
  have f0 : ((0 : Int32) &&& 31) = 0 := by decide
  have f8 : ((8 : Int32) &&& 31) = 8 := by decide
  rw [f0, f8]
  have g : (((lo8 c &&& 255) <<< (0 : Int32)) ||| ((hi8 c &&& 255) <<< (8 : Int32))).toBitVec.toNat = c.toBitVec.toNat := by
    rw [Int32.toBitVec_or, Int32.toBitVec_shiftLeft, Int32.toBitVec_shiftLeft]
    have s0 : ((0 : Int32).toBitVec.smod 32) = 0#32 := by decide
    have s8 : ((8 : Int32).toBitVec.smod 32) = 8#32 := by decide
    rw [s0, s8, BitVec.toNat_or]
    simp only [BitVec.shiftLeft_eq', BitVec.toNat_shiftLeft, a1, a2]
    show (c.toBitVec.toNat % 256) <<< 0 % 2 ^ 32 ||| (c.toBitVec.toNat / 256) <<< 8 % 2 ^ 32 = _
    rw [Nat.shiftLeft_zero, Nat.mod_eq_of_lt (show c.toBitVec.toNat % 256 < 2 ^ 32 by omega), Nat.mod_eq_of_lt (show (c.toBitVec.toNat / 256) <<< 8 < 2 ^ 32 by rw [Nat.shiftLeft_eq]; omega), Nat.or_comm, ← Nat.shiftLeft_add_eq_or_of_lt (by omega), Nat.shiftLeft_eq]
    omega
  show BitVec.toNat (((((lo8 c &&& 255) <<< (0 : Int32)) ||| ((hi8 c &&& 255) <<< (8 : Int32))).toBitVec.setWidth 16).setWidth 32) = _
  rw [BitVec.toNat_setWidth, BitVec.toNat_setWidth, g]
  omega
end StrChars
namespace StrChars
open Jvm Sem ClassFile Op Lib Jvm.Stand Jvm.Free.XT Jvm.Free.ALB Jvm.Free.JM Jvm.Free
open Jvm.Lib.Cold (StaticIs)
/-- charAt's cast of a byte read back -/
def chr8 (u : Int32) : Int32 := (u &&& 255).toUInt32.toUInt16.toUInt32.toInt32
theorem chr8_lo8 {c : Int32} (h0 : ¬ c < 0) (h1 : ¬ 255 < c) : chr8 (lo8 c) = c := by
  have t : ∀ k : Fin 256, (Int32.ofNat k.val).toUInt32.toUInt16.toUInt32.toInt32 = Int32.ofNat k.val := by decide +kernel
  unfold chr8
  rw [lo8_mask h0 h1]
  rw [Int32.lt_iff_toInt_lt] at h0 h1
  have e0 : (0 : Int32).toInt = 0 := rfl
  have e1 : (255 : Int32).toInt = 255 := rfl
  obtain ⟨k, hk⟩ : ∃ k : Nat, c.toInt = k := ⟨c.toInt.toNat, by omega⟩
  have hx : c = Int32.ofNat k := Int32.toInt_inj.mp (by rw [hk, Int32.toInt_ofNat_small (by omega)])
  rw [hx]
  exact t ⟨k, by omega⟩
theorem narrow_ch {c : Int32} (h0 : ¬ c < 0) (h1 : ¬ 65535 < c) : narrow .char (.int c) = .int c := by
  have q : narrow .char (.int (pairCh (lo8 c) (hi8 c))) = .int (pairCh (lo8 c) (hi8 c)) := narrow_c _
  rwa [pair_says h0 h1] at q
/-- the array's cell V codes the n chars f 0 .. f (n - 1) by the coder cd, as the JDK does: coder 1 just where some char is above 255 -/
def Cod (cd : Int32) (n : Nat) (f : Nat → Int32) (V : Cell) : Prop := (cd = 0 ∧ V.slots.size = n ∧ ∀ j, j < n → V.slots[j]? = some (.int (lo8 (f j))) ∧ ¬ 255 < f j) ∨ (cd = 1 ∧ V.slots.size = 2 * n ∧ (∀ j, j < n → V.slots[2 * j]? = some (.int (lo8 (f j))) ∧ V.slots[2 * j + 1]? = some (.int (hi8 (f j)))) ∧ ∃ j, j < n ∧ 255 < f j)
theorem Cod.cd {cd : Int32} {n : Nat} {f : Nat → Int32} {V : Cell} (h : Cod cd n f V) : cd = 0 ∨ cd = 1 := h.imp (fun q => q.1) fun q => q.1
/-- **x is a String of the n chars f 0 .. f (n - 1)**, Latin-1 or UTF-16; its array at t has the cell V -/
def Txt (x t : Addr) (V : Cell) (cd : Int32) (n : Nat) (f : Nat → Int32) (U : State) : Prop := Exact "java/lang/String" x U ∧ Has x "java/lang/String" "value" "[B" (.ref t) U ∧ Has x "java/lang/String" "coder" "B" (.int cd) U ∧ XT.Arr .byte t V U ∧ Cod cd n f V ∧ ∀ j, j < n → ¬ f j < 0 ∧ ¬ 65535 < f j
theorem Txt.mv {x t : Addr} {V : Cell} {cd : Int32} {n : Nat} {f : Nat → Int32} {U U' : State} (h : Txt x t V cd n f U) (hal : U.vm.Alike U'.vm) (hh : U'.heap = U.heap) : Txt x t V cd n f U' := ⟨h.1.mv hal hh, h.2.1.mv hal hh, h.2.2.1.mv hal hh, h.2.2.2.1.mv hal hh, h.2.2.2.2⟩
namespace IsL
def yN : MethodName := ⟨"java/lang/String", "isLatin1", "()Z"⟩
abbrev yB : ByteArray := jdk_42_method_154_code
theorem d0 : decode yB 0 = .ok (.getstatic 38, 3) := by decide +kernel
theorem d3 : decode yB 3 = .ok (.ifCond (.eq) 14, 3) := by decide +kernel
theorem d6 : decode yB 6 = .ok (.aload_n 0, 1) := by decide +kernel
theorem d7 : decode yB 7 = .ok (.getfield 15, 3) := by decide +kernel
theorem d10 : decode yB 10 = .ok (.ifCond (.ne) 7, 3) := by decide +kernel
theorem d13 : decode yB 13 = .ok (.iconst 1, 1) := by decide +kernel
theorem d14 : decode yB 14 = .ok (.goto 4, 3) := by decide +kernel
theorem d17 : decode yB 17 = .ok (.iconst 0, 1) := by decide +kernel
theorem d18 : decode yB 18 = .ok (.ireturn, 1) := by decide +kernel
def site : List Cond := [.fieldLink "java/lang/String" 38 "java/lang/String" "COMPACT_STRINGS" "Z", .fieldLink "java/lang/String" 15 "java/lang/String" "coder" "B"]
def tab : Cond := tabOf yN yB 1 (some .boolean) site
def P (x : Addr) (cd z : Int32) (args : Array Value) (s : State) : Prop := args = #[.ref x] ∧ Has x "java/lang/String" "coder" "B" (.int cd) s ∧ (cd = 0 ∨ cd = 1) ∧ StaticIs s "java/lang/String" "COMPACT_STRINGS" "Z" (.int z) ∧ ¬ z = 0
def E (cd : Int32) (r : Option Value) (s u : State) : Prop := XT.PureE (some (.int (1 - cd))) r s u
theorem law (l : Launch) (x : Addr) (cd z : Int32) : Law l yN 1 0 0 0 yB 1 (some .boolean) site (P x cd z) (E cd) [] 0 0 := by
  refine Law.of_walk (plainFor_of_name (by decide +kernel)) (by decide +kernel) (by decide +kernel) (by decide) (fun _ _ h => by rw [h.1]; rfl) (fun _ U U' hal hh h => ⟨h.1, h.2.1.mv hal hh, h.2.2.1, h.2.2.2.1.there hal hh, h.2.2.2.2⟩) (fun r U U' V V' h1 hal h2 h => XT.PureE.mv r U U' V V' h1 hal h2 h) ?_
  intro p e s m args below meth c s₁ X0 hexec hbytes hml hret hlk hnm hown hh0 W hP
  obtain ⟨rfl, hx, hc, s1, hz⟩ := hP
  have c1 : Steps p.tables e below (s₁.setTop (entryFrame m #[.ref x] 1)) (s₁.setTop (mkF m 0 #[.val (.ref x)] [])) := entry rfl
  obtain ⟨T2, X2, q2, st2⟩ := X0.sget hexec hown (wk W (.fieldLink "java/lang/String" 38 "java/lang/String" "COMPACT_STRINGS" "Z")) s1 (fun _ _ h => by rw [hh0]; exact h) (g := (mkF m 0 #[.val (.ref x)] [])) rfl (hb hbytes d0)
  have hh2 := q2.trans hh0
  have c3 : Steps p.tables e below (s₁.setTop (entryFrame m #[.ref x] 1)) (T2.setTop (mkF m 7 #[.val (.ref x)] [.ref x])) := (c1.trans (st2 _ (Steps.refl _))).trans (by
    refine XS.ifNo X2.here hexec rfl (hb hbytes d3) rfl (i0_eq_f hz) ?_
    refine XS.aloadN X2.here hexec rfl (hb hbytes d6) rfl rfl ?_
    exact Steps.refl _)
  obtain ⟨T4, X4, q4, st4⟩ := X2.hget hexec hown (wk W (.fieldLink "java/lang/String" 15 "java/lang/String" "coder" "B")) (hx.mv X2.warmed.alike hh2) (g := (mkF m 7 #[.val (.ref x)] [.ref x])) rfl (rest := []) rfl (hb hbytes d7)
  have c5 : Steps p.tables e below (s₁.setTop (entryFrame m #[.ref x] 1)) (T4.setTop (mkF m 10 #[.val (.ref x)] [.int cd])) := c3.trans (st4 _ (Steps.refl _))
  have c6 : Steps p.tables e below (s₁.setTop (entryFrame m #[.ref x] 1)) (T4.setTop (mkF m 18 #[.val (.ref x)] [.int (1 - cd)])) := by
    rcases hc with rfl | rfl
    · exact c5.trans (by
        refine XS.ifNo X4.here hexec rfl (hb hbytes d10) rfl (i0_ne_f rfl) ?_
        refine iconstV X4.here hexec rfl 1 (hb hbytes d13) (by decide) ?_
        refine XS.goto X4.here hexec rfl (pc0 := 14) rfl (hb hbytes d14) (by decide) rfl ?_
        exact Steps.refl _)
    · exact c5.trans (by
        refine XS.ifYes X4.here hexec rfl (pc0 := 10) rfl (hb hbytes d10) rfl (i0_ne_t (by decide)) (by decide) rfl ?_
        refine iconstV X4.here hexec rfl 0 (hb hbytes d17) (by decide) ?_
        exact Steps.refl _)
  exact ⟨T4, some (.int (1 - cd)), _, _, _, X4, rfl, rfl, rfl, (fun h => by cases h), ⟨rfl, q4.trans hh2⟩, fun fs hl => c6.trans (X4.ireturnOut hexec hret (by rcases hc with rfl | rfl <;> rfl) (Or.inr (Or.inl rfl)) (hb hbytes d18) hl)⟩
end IsL
namespace LChA
def yN : MethodName := ⟨"java/lang/StringLatin1", "charAt", "([BI)C"⟩
abbrev yB : ByteArray := jdk_43_method_2_code
theorem d0 : decode yB 0 = .ok (.iload_n 1, 1) := by decide +kernel
theorem d1 : decode yB 1 = .ok (.aload_n 0, 1) := by decide +kernel
theorem d2 : decode yB 2 = .ok (.arraylength, 1) := by decide +kernel
theorem d3 : decode yB 3 = .ok (.invokestatic 9, 3) := by decide +kernel
theorem d6 : decode yB 6 = .ok (.aload_n 0, 1) := by decide +kernel
theorem d7 : decode yB 7 = .ok (.iload_n 1, 1) := by decide +kernel
theorem d8 : decode yB 8 = .ok (.baload, 1) := by decide +kernel
theorem d9 : decode yB 9 = .ok (.sipush 255, 3) := by decide +kernel
theorem d12 : decode yB 12 = .ok (.iand, 1) := by decide +kernel
theorem d13 : decode yB 13 = .ok (.i2c, 1) := by decide +kernel
theorem d14 : decode yB 14 = .ok (.ireturn, 1) := by decide +kernel
def site : List Cond := [JO.Str_checkIndex.tab] ++ staticW "java/lang/StringLatin1" 9 JO.Str_checkIndex.yN
def tab : Cond := tabOf yN yB 2 (some .char) site
def P (t : Addr) (V : Cell) (i : Nat) (u : Int32) (fm : Value) (args : Array Value) (s : State) : Prop := args = #[.ref t, .int (Int32.ofNat i)] ∧ XT.Arr .byte t V s ∧ V.slots[i]? = some (.int u) ∧ (StaticIs s "jdk/internal/util/Preconditions" "SIOOBE_FORMATTER" "Ljava/util/function/BiFunction;" fm ∧ fm.isRef = true)
def E (u : Int32) (r : Option Value) (s w : State) : Prop := XT.PureE (some (.int (chr8 u))) r s w
theorem law (l : Launch) (t : Addr) (V : Cell) (i : Nat) (u : Int32) (fm : Value) : Law l yN 2 2 2 27 yB 2 (some .char) site (P t V i u fm) (E u) [] 0 0 := by
  refine Law.of_walk (plainFor_of_name (by decide +kernel)) (by decide +kernel) (by decide +kernel) (by decide) (fun _ _ h => by rw [h.1]; rfl) (fun _ U U' hal hh h => ⟨h.1, h.2.1.mv hal hh, h.2.2.1, h.2.2.2.1.there hal hh, h.2.2.2.2⟩) (fun r U U' V V' h1 hal h2 h => XT.PureE.mv r U U' V V' h1 hal h2 h) ?_
  intro p e s m args below meth c s₁ X0 hexec hbytes hml hret hlk hnm hown hh0 W hP
  obtain ⟨rfl, hV, hu, s1, rf⟩ := hP
  have v31 := hV.2.2.2
  have hi : i < V.slots.size := (Array.getElem?_eq_some_iff.mp hu).1
  have c1 : Steps p.tables e below (s₁.setTop (entryFrame m #[.ref t, .int (Int32.ofNat i)] 2)) (s₁.setTop (mkF m 0 #[.val (.ref t), .val (.int (Int32.ofNat i))] [])) := entry rfl
  have c2 : Steps p.tables e below (s₁.setTop (entryFrame m #[.ref t, .int (Int32.ofNat i)] 2)) (s₁.setTop (mkF m 3 #[.val (.ref t), .val (.int (Int32.ofNat i))] [.int (Int32.ofNat V.slots.size), .int (Int32.ofNat i)])) := c1.trans (by
    refine XS.iloadN X0.here hexec rfl (hb hbytes d0) rfl ?_
    refine XS.aloadN X0.here hexec rfl (hb hbytes d1) rfl rfl ?_
    refine X0.alen hexec (hV.mv X0.warmed.alike hh0) rfl rfl (hb hbytes d2) ?_
    exact Steps.refl _)
  obtain ⟨v3, T3, X3, E3, g3⟩ := X0.callS hexec (JO.Str_checkIndex.law l (Int32.ofNat i) (Int32.ofNat V.slots.size) fm) hown (wks W (staticW "java/lang/StringLatin1" 9 JO.Str_checkIndex.yN)) (wk W JO.Str_checkIndex.tab) (W := 0) (Nat.le_of_ble_eq_true rfl) (Nat.le_of_ble_eq_true rfl) (Nat.le_refl _) (Nat.le_refl _) (g := (mkF m 3 #[.val (.ref t), .val (.int (Int32.ofNat i))] [.int (Int32.ofNat V.slots.size), .int (Int32.ofNat i)])) rfl (by rw [hml]; rfl) c2 (argsL := [.int (Int32.ofNat i), .int (Int32.ofNat V.slots.size)]) (rest := []) rfl rfl (by show 2 * 0 + 0 ≤ _; decide) (hb hbytes d3) (⟨rfl, rf, s1.there X0.warmed.alike hh0, Int32.ofNat_not_neg (by omega), lt32 v31 hi⟩)
  obtain ⟨rfl, q3⟩ := E3
  have hh3 := q3.trans hh0
  have c4 : Steps p.tables e below (s₁.setTop (entryFrame m #[.ref t, .int (Int32.ofNat i)] 2)) (T3.setTop (mkF m 14 #[.val (.ref t), .val (.int (Int32.ofNat i))] [.int (chr8 u)])) := Steps.trans g3 (by
    refine XS.aloadN X3.here hexec rfl (hb hbytes d6) rfl rfl ?_
    refine XS.iloadN X3.here hexec rfl (hb hbytes d7) rfl ?_
    refine X3.aget hexec (hV.mv X3.warmed.alike hh3) rfl hu rfl rfl (hb hbytes d8) ?_
    refine sipushV X3.here hexec rfl 255 (hb hbytes d9) (by decide) ?_
    refine XS.iand X3.here hexec rfl (hb hbytes d12) rfl ?_
    refine i2c X3.here hexec rfl (hb hbytes d13) rfl ?_
    exact Steps.refl _)
  exact ⟨T3, some (.int (chr8 u)), _, _, _, X3, rfl, rfl, rfl, (fun h => by cases h), ⟨rfl, hh3⟩, fun fs hl => c4.trans (X3.ireturnOut hexec hret (narrow_c _) (Or.inr (Or.inr (Or.inr (Or.inl rfl)))) (hb hbytes d14) hl)⟩
end LChA
end StrChars
namespace StrChars.Road
open Jvm Sem ClassFile Op Lib Jvm.Stand Jvm.Free Jvm.Free.XT
open Jvm.Lib.Cold (StaticIs)
theorem consq {a : Array Value} {s : State} {c : Jvm.Cond} {L : List Jvm.Cond} (h0 : c.before a s = true) (h : ∀ w ∈ L, w.before a s = true) : ∀ w ∈ c :: L, w.before a s = true := fun w hw => (List.mem_cons.mp hw).elim (fun e => e ▸ h0) (h w)
/-- the bytes of the chars cs, low before high -/
def wideBytes : List Int32 → List Value
  | [] => []
  | c :: cs => .int (lo8 c) :: .int (hi8 c) :: wideBytes cs
theorem wide_lo (d : Value) : ∀ (cs : List Int32) (j : Nat), j < cs.length → (wideBytes cs).getD (2 * j) d = .int (lo8 (cs.getD j 0))
  | [], j, h => absurd h (Nat.not_lt_zero j)
  | c :: cs, 0, _ => rfl
  | c :: cs, j + 1, h => by
    have q := wide_lo d cs j (by simpa using h)
    rw [show 2 * (j + 1) = 2 * j + 1 + 1 from by omega]
    simpa [wideBytes] using q
theorem wide_hi (d : Value) : ∀ (cs : List Int32) (j : Nat), j < cs.length → (wideBytes cs).getD (2 * j + 1) d = .int (hi8 (cs.getD j 0))
  | [], j, h => absurd h (Nat.not_lt_zero j)
  | c :: cs, 0, _ => rfl
  | c :: cs, j + 1, h => by
    have q := wide_hi d cs j (by simpa using h)
    rw [show 2 * (j + 1) + 1 = 2 * j + 1 + 1 + 1 from by omega]
    simpa [wideBytes] using q
theorem low_at (d : Value) (cs : List Int32) (j : Nat) (h : j < cs.length) : (cs.map fun c => Value.int (lo8 c)).getD j d = .int (lo8 (cs.getD j 0)) := by
  simp [List.getD_eq_getElem?_getD, h]
/-- an array of N2 bytes vs codes the chars cs by the coder cd -/
def CodA (cs : List Int32) (cd N2 : Int32) (vs : List Value) : Prop := (cd = 0 ∧ N2 = Int32.ofNat cs.length ∧ vs = (cs.map fun c => Value.int (lo8 c)) ∧ ∀ c ∈ cs, ¬ 255 < c) ∨ (cd = 1 ∧ N2 = Int32.ofNat (2 * cs.length) ∧ vs = wideBytes cs ∧ ∃ c ∈ cs, 255 < c)
theorem CodA.cod {cs : List Int32} {cd N2 : Int32} {vs : List Value} {V : Cell} (h : CodA cs cd N2 vs) (hn : 2 * cs.length < 2 ^ 31) (hs : V.slots.size = N2.toNatClampNeg) (hv : RoadKit.Has V vs (.int 0)) : Cod cd cs.length (fun j => cs.getD j 0) V := by
  rcases h with ⟨rfl, rfl, rfl, h⟩ | ⟨rfl, rfl, rfl, c, hc, hw⟩
  · rw [n32 (by omega)] at hs
    exact Or.inl ⟨rfl, hs, fun j hj => ⟨by rw [hv j (by omega), low_at _ _ _ hj], by
      have e : cs.getD j 0 = cs[j] := by simp [List.getD_eq_getElem?_getD, hj]
      show ¬ 255 < cs.getD j 0
      rw [e]; exact h _ (List.getElem_mem _)⟩⟩
  · rw [n32 (by omega)] at hs
    obtain ⟨j, hj, rfl⟩ := List.getElem_of_mem hc
    exact Or.inr ⟨rfl, hs, fun j hj => ⟨by rw [hv _ (by omega), wide_lo _ _ _ hj], by rw [hv _ (by omega), wide_hi _ _ _ hj]⟩, j, hj, by
      have e : cs.getD j 0 = cs[j] := by simp [List.getD_eq_getElem?_getD, hj]
      show 255 < cs.getD j 0
      rw [e]; exact hw⟩
/-- an object of exactly java/lang/String, its two fields found: as the laws ask it -/
theorem strObj {Z U : State} {a0 : Array Value} {kI : Nat} (wi : (Jvm.Cond.instantiable ST kI).before a0 Z = true) (al : Z.vm.Alike U.vm) {x : Addr} {v0 c0 : Value} (E : RoadKit.Exa Z U.heap x ST) (V : RoadKit.Fld Z U.heap x ST "value" "[B" v0) (C : RoadKit.Fld Z U.heap x ST "coder" "B" c0) :
    ∃ (D : Cell) (fV fC : Field), Blank ST x D U ∧ Found ST "value" "[B" fV U ∧ Found ST "coder" "B" fC U ∧ D.slots[fV.slot]? = some v0 ∧ D.slots[fC.slot]? = some c0 ∧ RoadKit.slotOf Z ST "value" "[B" = fV.slot ∧ RoadKit.slotOf Z ST "coder" "B" = fC.slot := by
  obtain ⟨D, cfV, kV, iV, fV, hD, gV, stV, knV, obV, asV, slV⟩ := V
  obtain ⟨D', cfC, kC, iC, fC, hD', gC, stC, -, -, asC, slC⟩ := C
  cases hD.symm.trans hD'
  obtain ⟨D2, kD, e1, e2, e3, e4, e5⟩ := E
  cases hD.symm.trans e1
  obtain ⟨c2, k2, i1, i2, i3, -⟩ := Cond.instantiable_spec wi
  cases e2.symm.trans i1
  cases e3.symm.trans i2
  obtain ⟨kU, u1, u2⟩ := al.2.2 _ _ e3
  exact ⟨D, fV, fC, ⟨hD, ⟨knV, fun q hq => by rw [hq] at obV; cases obV⟩, by rw [al.findClass]; exact e2, kU, u1, by rw [u2]; exact i3, by rw [u2]; exact e5 i3⟩, ⟨SBG.found_only al ⟨cfV, kV, iV, gV⟩, stV⟩, ⟨SBG.found_only al ⟨cfC, kC, iC, gC⟩, stC⟩, slV, slC, by simp [RoadKit.slotOf, gV], by simp [RoadKit.slotOf, gC]⟩
theorem sta_is {Z U : State} (al : Z.vm.Alike U.vm) {C n d : String} {v : Value} (S : RoadKit.Sta Z U.heap C n d v) : StaticIs U C n d v := by
  obtain ⟨cfS, iS, kS, fS, st, cS, t1, t2, t3, t4, t5, t6, t7⟩ := S
  exact StaticIs.there (s := { Z with heap := U.heap }) ⟨cfS, iS, kS, fS, st, cS, t1, t2, t3, t4, t5, (fun q => by rw [q] at t6; cases t6), t7⟩ al rfl
end StrChars.Road
namespace StrChars
open Jvm Sem ClassFile Op Lib Jvm.Stand Jvm.Free.XT Jvm.Free.ALB Jvm.Free.JM Jvm.Free
open Jvm.Lib.Cold (StaticIs)
/-- what place i of a byte[]'s cell holds -/
def yv (A : Cell) (i : Nat) : Int32 := match A.slots[i]? with | some (.int x) => x | _ => 0
theorem yv_get {a : Addr} {A : Cell} {U : State} (h : XT.Arr .byte a A U) (ht : Typed .byte A) {i : Nat} (hi : i < A.slots.size) : A.slots[i]? = some (.int (yv A i)) := by
  have e := Array.getElem?_eq_getElem hi
  have f := ht i _ e
  unfold yv; rw [e]
  generalize A.slots[i] = v at f
  cases v <;> simp [fits] at f ⊢
/-- the two arrays are equal, place for place -/
def EqC (A B : Cell) : Prop := A.slots.size = B.slots.size ∧ ∀ i, i < A.slots.size → yv A i = yv B i
/-- a boolean that says whether p -/
def Says01 (q : Prop) (r : Option Value) (s u : State) : Prop := ∃ v : Int32, r = some (.int v) ∧ u.heap = s.heap ∧ ((v = 1 ∧ q) ∨ (v = 0 ∧ ¬ q))
theorem Says01.mv {q : Prop} : ∀ r (U U' V V' : State), U'.heap = U.heap → V.vm.Alike V'.vm → V'.heap = V.heap → Says01 q r U V → Says01 q r U' V' :=
  fun r U U' V V' h1 _ h2 ⟨v, a, b, c⟩ => ⟨v, a, by rw [h1, h2]; exact b, c⟩
namespace LEq
def yN : MethodName := ⟨"java/lang/StringLatin1", "equals", "([B[B)Z"⟩
abbrev yB : ByteArray := jdk_43_method_13_code
theorem d0 : decode yB 0 = .ok (.aload_n 0, 1) := by decide +kernel
theorem d1 : decode yB 1 = .ok (.arraylength, 1) := by decide +kernel
theorem d2 : decode yB 2 = .ok (.aload_n 1, 1) := by decide +kernel
theorem d3 : decode yB 3 = .ok (.arraylength, 1) := by decide +kernel
theorem d4 : decode yB 4 = .ok (.if_icmp (.ne) 30, 3) := by decide +kernel
theorem d7 : decode yB 7 = .ok (.iconst 0, 1) := by decide +kernel
theorem d8 : decode yB 8 = .ok (.istore_n 2, 1) := by decide +kernel
theorem d9 : decode yB 9 = .ok (.iload_n 2, 1) := by decide +kernel
theorem d10 : decode yB 10 = .ok (.aload_n 0, 1) := by decide +kernel
theorem d11 : decode yB 11 = .ok (.arraylength, 1) := by decide +kernel
theorem d12 : decode yB 12 = .ok (.if_icmp (.ge) 20, 3) := by decide +kernel
theorem d15 : decode yB 15 = .ok (.aload_n 0, 1) := by decide +kernel
theorem d16 : decode yB 16 = .ok (.iload_n 2, 1) := by decide +kernel
theorem d17 : decode yB 17 = .ok (.baload, 1) := by decide +kernel
theorem d18 : decode yB 18 = .ok (.aload_n 1, 1) := by decide +kernel
theorem d19 : decode yB 19 = .ok (.iload_n 2, 1) := by decide +kernel
theorem d20 : decode yB 20 = .ok (.baload, 1) := by decide +kernel
theorem d21 : decode yB 21 = .ok (.if_icmp (.eq) 5, 3) := by decide +kernel
theorem d24 : decode yB 24 = .ok (.iconst 0, 1) := by decide +kernel
theorem d25 : decode yB 25 = .ok (.ireturn, 1) := by decide +kernel
theorem d26 : decode yB 26 = .ok (.iinc 2 1, 3) := by decide +kernel
theorem d29 : decode yB 29 = .ok (.goto (-20), 3) := by decide +kernel
theorem d32 : decode yB 32 = .ok (.iconst 1, 1) := by decide +kernel
theorem d33 : decode yB 33 = .ok (.ireturn, 1) := by decide +kernel
theorem d34 : decode yB 34 = .ok (.iconst 0, 1) := by decide +kernel
theorem d35 : decode yB 35 = .ok (.ireturn, 1) := by decide +kernel
def site : List Cond := []
def tab : Cond := tabOf yN yB 3 (some .boolean) site
def P (a : Addr) (A : Cell) (b : Addr) (B : Cell) (args : Array Value) (s : State) : Prop := args = #[.ref a, .ref b] ∧ XT.Arr .byte a A s ∧ Typed .byte A ∧ XT.Arr .byte b B s ∧ Typed .byte B
/-- whether two byte[] are equal, place for place -/
theorem law (l : Launch) (a : Addr) (A : Cell) (b : Addr) (B : Cell) : Law l yN 2 2 0 0 yB 3 (some .boolean) site (P a A b B) (Says01 (EqC A B)) [] 0 0 := by
  refine Law.of_walk (plainFor_of_name (by decide +kernel)) (by decide +kernel) (by decide +kernel) (by decide) (fun _ _ h => by rw [h.1]; rfl) (fun _ U U' hal hh h => ⟨h.1, h.2.1.mv hal hh, h.2.2.1, h.2.2.2.1.mv hal hh, h.2.2.2.2⟩) (fun r U U' V V' h1 hal h2 h => Says01.mv r U U' V V' h1 hal h2 h) ?_
  intro p e s m args below meth c s₁ X0 hexec hbytes hml hret hlk hnm hown hh0 W hP
  obtain ⟨rfl, hA, tA, hB, tB⟩ := hP
  have a31 := hA.2.2.2
  have b31 := hB.2.2.2
  have hA0 := hA.mv X0.warmed.alike hh0
  have hB0 := hB.mv X0.warmed.alike hh0
  have c1 : Steps p.tables e below (s₁.setTop (entryFrame m #[.ref a, .ref b] 3)) (s₁.setTop (mkF m 0 #[.val (.ref a), .val (.ref b), .unset] [])) := entry rfl
  have c2 : Steps p.tables e below (s₁.setTop (entryFrame m #[.ref a, .ref b] 3)) (s₁.setTop (mkF m 4 #[.val (.ref a), .val (.ref b), .unset] [.int (Int32.ofNat B.slots.size), .int (Int32.ofNat A.slots.size)])) := c1.trans (by
    refine XS.aloadN X0.here hexec rfl (hb hbytes d0) rfl rfl ?_
    refine X0.alen hexec hA0 rfl rfl (hb hbytes d1) ?_
    refine XS.aloadN X0.here hexec rfl (hb hbytes d2) rfl rfl ?_
    refine X0.alen hexec hB0 rfl rfl (hb hbytes d3) ?_
    exact Steps.refl _)
  by_cases hs : A.slots.size = B.slots.size
  · have c3 : Steps p.tables e below (s₁.setTop (entryFrame m #[.ref a, .ref b] 3)) (s₁.setTop (mkF m 9 #[.val (.ref a), .val (.ref b), .val (.int 0)] [])) := c2.trans (by
      refine XS.icmpNo X0.here hexec rfl (hb hbytes d4) rfl (ii_ne_f (by rw [hs])) ?_
      refine iconstV X0.here hexec rfl 0 (hb hbytes d7) (by decide) ?_
      refine XS.istoreN X0.here hexec rfl (hb hbytes d8) rfl rfl ?_
      exact Steps.refl _)
    have loop : ∀ (r i : Nat), i + r = A.slots.size → (∀ j, j < i → yv A j = yv B j) → Steps p.tables e below (s₁.setTop (entryFrame m #[.ref a, .ref b] 3)) (s₁.setTop (mkF m 9 #[.val (.ref a), .val (.ref b), .val (.int (Int32.ofNat i))] [])) → ∃ (pc : Nat) (Ls : Array Slot) (v : Int32), (pc = 25 ∨ pc = 33) ∧ ((v = 1 ∧ EqC A B) ∨ (v = 0 ∧ ¬ EqC A B)) ∧ Steps p.tables e below (s₁.setTop (entryFrame m #[.ref a, .ref b] 3)) (s₁.setTop (mkF m pc Ls [.int v])) := by
      intro r
      induction r with
      | zero =>
        intro i hi he cl
        exact ⟨33, _, 1, Or.inr rfl, Or.inl ⟨rfl, hs, fun j hj => he j (by omega)⟩, cl.trans (by
          refine XS.iloadN X0.here hexec rfl (hb hbytes d9) rfl ?_
          refine XS.aloadN X0.here hexec rfl (hb hbytes d10) rfl rfl ?_
          refine X0.alen hexec hA0 rfl rfl (hb hbytes d11) ?_
          refine XS.icmpYes X0.here hexec rfl (pc0 := 12) rfl (hb hbytes d12) rfl (ii_ge_t (nlt32 (by omega) (by omega))) (by decide) rfl ?_
          refine iconstV X0.here hexec rfl 1 (hb hbytes d32) (by decide) ?_
          exact Steps.refl _)⟩
      | succ r ih =>
        intro i hi he cl
        have c4 : Steps p.tables e below (s₁.setTop (entryFrame m #[.ref a, .ref b] 3)) (s₁.setTop (mkF m 21 #[.val (.ref a), .val (.ref b), .val (.int (Int32.ofNat i))] [.int (yv B i), .int (yv A i)])) := cl.trans (by
          refine XS.iloadN X0.here hexec rfl (hb hbytes d9) rfl ?_
          refine XS.aloadN X0.here hexec rfl (hb hbytes d10) rfl rfl ?_
          refine X0.alen hexec hA0 rfl rfl (hb hbytes d11) ?_
          refine XS.icmpNo X0.here hexec rfl (hb hbytes d12) rfl (ii_ge_f (lt32 (by omega) (by omega))) ?_
          refine XS.aloadN X0.here hexec rfl (hb hbytes d15) rfl rfl ?_
          refine XS.iloadN X0.here hexec rfl (hb hbytes d16) rfl ?_
          refine X0.aget hexec hA0 rfl (yv_get hA tA (i := i) (by omega)) rfl rfl (hb hbytes d17) ?_
          refine XS.aloadN X0.here hexec rfl (hb hbytes d18) rfl rfl ?_
          refine XS.iloadN X0.here hexec rfl (hb hbytes d19) rfl ?_
          refine X0.aget hexec hB0 rfl (yv_get hB tB (i := i) (by omega)) rfl rfl (hb hbytes d20) ?_
          exact Steps.refl _)
        by_cases hv : yv A i = yv B i
        · have c5 : Steps p.tables e below (s₁.setTop (entryFrame m #[.ref a, .ref b] 3)) (s₁.setTop (mkF m 9 #[.val (.ref a), .val (.ref b), .val (.int (Int32.ofNat i + 1))] [])) := c4.trans (by
            refine XS.icmpYes X0.here hexec rfl (pc0 := 21) rfl (hb hbytes d21) rfl (ii_eq_t hv) (by decide) rfl ?_
            refine iincV X0.here hexec rfl 1 (hb hbytes d26) (by decide) rfl rfl ?_
            refine XS.goto X0.here hexec rfl (pc0 := 29) rfl (hb hbytes d29) (by decide) rfl ?_
            exact Steps.refl _)
          rw [succ32] at c5
          exact ih (i + 1) (by omega) (fun j hj => by
            by_cases e : j = i
            · rw [e]; exact hv
            · exact he j (by omega)) c5
        · exact ⟨25, _, 0, Or.inl rfl, Or.inr ⟨rfl, fun q => hv (q.2 i (by omega))⟩, c4.trans (by
            refine XS.icmpNo X0.here hexec rfl (hb hbytes d21) rfl (ii_eq_f hv) ?_
            refine iconstV X0.here hexec rfl 0 (hb hbytes d24) (by decide) ?_
            exact Steps.refl _)⟩
    obtain ⟨pc, Ls, v, hpc, hv, cz⟩ := loop A.slots.size 0 (by omega) (fun j hj => absurd hj (Nat.not_lt_zero j)) c3
    have nv : narrow .boolean (.int v) = .int v := by rcases hv with ⟨rfl, -⟩ | ⟨rfl, -⟩ <;> rfl
    rcases hpc with rfl | rfl
    · exact ⟨s₁, some (.int v), _, _, _, X0, rfl, rfl, rfl, (fun h => by cases h), ⟨v, rfl, hh0, hv⟩, fun fs hl => cz.trans (X0.ireturnOut hexec hret nv (Or.inr (Or.inl rfl)) (hb hbytes d25) hl)⟩
    · exact ⟨s₁, some (.int v), _, _, _, X0, rfl, rfl, rfl, (fun h => by cases h), ⟨v, rfl, hh0, hv⟩, fun fs hl => cz.trans (X0.ireturnOut hexec hret nv (Or.inr (Or.inl rfl)) (hb hbytes d33) hl)⟩
  · have c3 : Steps p.tables e below (s₁.setTop (entryFrame m #[.ref a, .ref b] 3)) (s₁.setTop (mkF m 35 #[.val (.ref a), .val (.ref b), .unset] [.int 0])) := c2.trans (by
      refine XS.icmpYes X0.here hexec rfl (pc0 := 4) rfl (hb hbytes d4) rfl (ii_ne_t (ne32 a31 b31 hs)) (by decide) rfl ?_
      refine iconstV X0.here hexec rfl 0 (hb hbytes d34) (by decide) ?_
      exact Steps.refl _)
    exact ⟨s₁, some (.int 0), _, _, _, X0, rfl, rfl, rfl, (fun h => by cases h), ⟨0, rfl, hh0, Or.inr ⟨rfl, fun q => hs q.1⟩⟩, fun fs hl => c3.trans (X0.ireturnOut hexec hret rfl (Or.inr (Or.inl rfl)) (hb hbytes d35) hl)⟩
end LEq
theorem Cod.ty {cd : Int32} {n : Nat} {f : Nat → Int32} {V : Cell} (h : Cod cd n f V) : Typed .byte V := fun i v hv => by
  have hi : i < V.slots.size := (Array.getElem?_eq_some_iff.mp hv).1
  rcases h with ⟨-, k1, k2⟩ | ⟨-, k1, k2, -⟩
  · rw [(k2 i (by omega)).1] at hv; cases hv; exact fits_lo8 _
  · rcases Nat.mod_two_eq_zero_or_one i with e | e
    · obtain ⟨j, rfl⟩ : ∃ j, i = 2 * j := ⟨i / 2, by omega⟩
      rw [(k2 j (by omega)).1] at hv; cases hv; exact fits_lo8 _
    · obtain ⟨j, rfl⟩ : ∃ j, i = 2 * j + 1 := ⟨i / 2, by omega⟩
      rw [(k2 j (by omega)).2] at hv; cases hv; exact fits_lo8 _
/-- the same text -/
def SameT (n : Nat) (f : Nat → Int32) (k : Nat) (g : Nat → Int32) : Prop := n = k ∧ ∀ j, j < n → f j = g j
theorem lo8_inj {x y : Int32} (h0 : ¬ x < 0) (h1 : ¬ 255 < x) (k0 : ¬ y < 0) (k1 : ¬ 255 < y) (h : lo8 x = lo8 y) : x = y := by
  rw [← lo8_mask h0 h1, ← lo8_mask k0 k1, h]
/-- arrays coded by one coder are equal just where the texts are -/
theorem Cod.eqv {cd : Int32} {n k : Nat} {f g : Nat → Int32} {V V' : Cell} (h : Cod cd n f V) (h' : Cod cd k g V') (hf : ∀ j, j < n → ¬ f j < 0 ∧ ¬ 65535 < f j) (hg : ∀ j, j < k → ¬ g j < 0 ∧ ¬ 65535 < g j) : EqC V V' ↔ SameT n f k g := by
  have yvv : ∀ {W : Cell} {i : Nat} {x : Int32}, W.slots[i]? = some (.int x) → yv W i = x := fun q => by unfold yv; rw [q]
  rcases h with ⟨rfl, k1, k2⟩ | ⟨rfl, k1, k2, -⟩
  · rcases h' with ⟨-, m1, m2⟩ | ⟨e, -⟩
    · constructor
      · rintro ⟨e1, e2⟩
        refine ⟨by omega, fun j hj => ?_⟩
        have q := e2 j (by omega)
        rw [yvv (k2 j hj).1, yvv (m2 j (by omega)).1] at q
        exact lo8_inj (hf j hj).1 (k2 j hj).2 (hg j (by omega)).1 (m2 j (by omega)).2 q
      · rintro ⟨rfl, e2⟩
        refine ⟨by omega, fun j hj => ?_⟩
        rw [yvv (k2 j (by omega)).1, yvv (m2 j (by omega)).1, e2 j (by omega)]
    · exact absurd e (by decide)
  · rcases h' with ⟨e, -⟩ | ⟨-, m1, m2, -⟩
    · exact absurd e (by decide)
    · constructor
      · rintro ⟨e1, e2⟩
        refine ⟨by omega, fun j hj => ?_⟩
        have q1 := e2 (2 * j) (by omega)
        have q2 := e2 (2 * j + 1) (by omega)
        rw [yvv (k2 j hj).1, yvv (m2 j (by omega)).1] at q1
        rw [yvv (k2 j hj).2, yvv (m2 j (by omega)).2] at q2
        rw [← pair_says (hf j hj).1 (hf j hj).2, ← pair_says (hg j (by omega)).1 (hg j (by omega)).2, q1, q2]
      · rintro ⟨rfl, e2⟩
        refine ⟨by omega, fun i hi => ?_⟩
        rcases Nat.mod_two_eq_zero_or_one i with e | e
        · obtain ⟨j, rfl⟩ : ∃ j, i = 2 * j := ⟨i / 2, by omega⟩
          rw [yvv (k2 j (by omega)).1, yvv (m2 j (by omega)).1, e2 j (by omega)]
        · obtain ⟨j, rfl⟩ : ∃ j, i = 2 * j + 1 := ⟨i / 2, by omega⟩
          rw [yvv (k2 j (by omega)).2, yvv (m2 j (by omega)).2, e2 j (by omega)]
/-- two codings differ: so do the texts -/
theorem Cod.dif {cd cd' : Int32} {n k : Nat} {f g : Nat → Int32} {V V' : Cell} (h : Cod cd n f V) (h' : Cod cd' k g V') (hne : ¬ cd = cd') : ¬ SameT n f k g := by
  rintro ⟨rfl, e⟩
  rcases h with ⟨rfl, -, k2⟩ | ⟨rfl, -, -, j, hj, hw⟩
  · rcases h' with ⟨rfl, -⟩ | ⟨-, -, -, j, hj, hw⟩
    · exact hne rfl
    · exact (k2 j hj).2 (by rw [e j hj]; exact hw)
  · rcases h' with ⟨-, -, m2⟩ | ⟨rfl, -⟩
    · exact (m2 j hj).2 (by rw [← e j hj]; exact hw)
    · exact hne rfl
/-- an object of exactly C is an instance of C -/
theorem cinst {p : Program} {l : Launch} {e : Env} {R : Room} {s : State} {m : MethodId} {args : Array Value} {below : List Frame} {meth : Method} {c : Code} {T : State} {locs : List Loc} {cells slots : Nat} (X : Stand p l e R s m args below meth c T locs cells slots) (hexec : p.tables.exec = Jvm.exec) {own C : String} {index : Nat} (hown : s.vm.findClass own = some m.cls) (hlink : (Cond.classLink own index C).before args s = true) {a : Addr} (hE : Exact C a T)
    {g : JFrame} (hg : g.method = m) {rest : List Value} (hstack : g.stack = .ref a :: rest) (hdg : decode c.code g.pc = .ok (.instanceof index, 3)) :
    ∃ T', Stand p l e R s m args below meth c T' locs cells slots ∧ T'.heap = T.heap ∧ ∀ target, Steps p.tables e below (T'.setTop { g with pc := g.pc + 3, stack := .int 1 :: rest }) target → Steps p.tables e below (T.setTop g) target := by
  obtain ⟨cB, h1, D, h2, h3, h4⟩ := hE
  have h1' : s.vm.findClass C = some cB := by rw [← X.warmed.alike.findClass]; exact h1
  obtain ⟨vm', X', st⟩ := X.instanceofYes hexec hown hlink h2 h4 h1' (by rw [h3]; exact Jvm.Free.SB.assignable_self _ _) hg hstack hdg
  exact ⟨_, X', rfl, st⟩
theorem cself {p : Program} {l : Launch} {e : Env} {R : Room} {s : State} {m : MethodId} {args : Array Value} {below : List Frame} {meth : Method} {c : Code} {T : State} {locs : List Loc} {cells slots : Nat} (X : Stand p l e R s m args below meth c T locs cells slots) (hexec : p.tables.exec = Jvm.exec) {own C : String} {index : Nat} (hown : s.vm.findClass own = some m.cls) (hlink : (Cond.classLink own index C).before args s = true) {a : Addr} (hE : Exact C a T)
    {g : JFrame} (hg : g.method = m) {rest : List Value} (hstack : g.stack = .ref a :: rest) (hdg : decode c.code g.pc = .ok (.checkcast index, 3)) :
    ∃ T', Stand p l e R s m args below meth c T' locs cells slots ∧ T'.heap = T.heap ∧ ∀ target, Steps p.tables e below (T'.setTop { g with pc := g.pc + 3, stack := .ref a :: rest }) target → Steps p.tables e below (T.setTop g) target := by
  obtain ⟨cB, h1, D, h2, h3, h4⟩ := hE
  have h1' : s.vm.findClass C = some cB := by rw [← X.warmed.alike.findClass]; exact h1
  obtain ⟨vm', X', st⟩ := X.checkcastYes hexec hown hlink h2 h4 h1' (by rw [h3]; exact Jvm.Free.SB.assignable_self _ _) hg hstack hdg
  exact ⟨_, X', rfl, fun t h => st t (by rw [← hstack] at h; exact h)⟩
namespace SEq
def yN : MethodName := ⟨"java/lang/String", "equals", "(Ljava/lang/Object;)Z"⟩
abbrev yB : ByteArray := jdk_42_method_66_code
theorem d0 : decode yB 0 = .ok (.aload_n 0, 1) := by decide +kernel
theorem d1 : decode yB 1 = .ok (.aload_n 1, 1) := by decide +kernel
theorem d2 : decode yB 2 = .ok (.if_acmp (.ne) 5, 3) := by decide +kernel
theorem d5 : decode yB 5 = .ok (.iconst 1, 1) := by decide +kernel
theorem d6 : decode yB 6 = .ok (.ireturn, 1) := by decide +kernel
theorem d7 : decode yB 7 = .ok (.aload_n 1, 1) := by decide +kernel
theorem d8 : decode yB 8 = .ok (.instanceof 10, 3) := by decide +kernel
theorem d11 : decode yB 11 = .ok (.ifCond (.eq) 43, 3) := by decide +kernel
theorem d14 : decode yB 14 = .ok (.aload_n 1, 1) := by decide +kernel
theorem d15 : decode yB 15 = .ok (.checkcast 10, 3) := by decide +kernel
theorem d18 : decode yB 18 = .ok (.astore_n 2, 1) := by decide +kernel
theorem d19 : decode yB 19 = .ok (.getstatic 38, 3) := by decide +kernel
theorem d22 : decode yB 22 = .ok (.ifCond (.eq) 14, 3) := by decide +kernel
theorem d25 : decode yB 25 = .ok (.aload_n 0, 1) := by decide +kernel
theorem d26 : decode yB 26 = .ok (.getfield 15, 3) := by decide +kernel
theorem d29 : decode yB 29 = .ok (.aload_n 2, 1) := by decide +kernel
theorem d30 : decode yB 30 = .ok (.getfield 15, 3) := by decide +kernel
theorem d33 : decode yB 33 = .ok (.if_icmp (.ne) 21, 3) := by decide +kernel
theorem d36 : decode yB 36 = .ok (.aload_n 0, 1) := by decide +kernel
theorem d37 : decode yB 37 = .ok (.getfield 9, 3) := by decide +kernel
theorem d40 : decode yB 40 = .ok (.aload_n 2, 1) := by decide +kernel
theorem d41 : decode yB 41 = .ok (.getfield 9, 3) := by decide +kernel
theorem d44 : decode yB 44 = .ok (.invokestatic 541, 3) := by decide +kernel
theorem d47 : decode yB 47 = .ok (.ifCond (.eq) 7, 3) := by decide +kernel
theorem d50 : decode yB 50 = .ok (.iconst 1, 1) := by decide +kernel
theorem d51 : decode yB 51 = .ok (.goto 4, 3) := by decide +kernel
theorem d54 : decode yB 54 = .ok (.iconst 0, 1) := by decide +kernel
theorem d55 : decode yB 55 = .ok (.ireturn, 1) := by decide +kernel
def site : List Cond := [.classLink "java/lang/String" 10 "java/lang/String", .fieldLink "java/lang/String" 38 "java/lang/String" "COMPACT_STRINGS" "Z", .fieldLink "java/lang/String" 15 "java/lang/String" "coder" "B", .fieldLink "java/lang/String" 9 "java/lang/String" "value" "[B", LEq.tab] ++ staticW "java/lang/String" 541 LEq.yN
def tab : Cond := tabOf yN yB 3 (some .boolean) site
def P (x t : Addr) (V : Cell) (cd : Int32) (n : Nat) (f : Nat → Int32) (y t' : Addr) (V' : Cell) (cd' : Int32) (k : Nat) (g : Nat → Int32) (z : Int32) (args : Array Value) (s : State) : Prop := args = #[.ref x, .ref y] ∧ Txt x t V cd n f s ∧ Txt y t' V' cd' k g s ∧ StaticIs s "java/lang/String" "COMPACT_STRINGS" "Z" (.int z) ∧ ¬ z = 0
/-- equals(Object) of two Strings: whether the texts are the same -/
theorem law (l : Launch) (x t : Addr) (V : Cell) (cd : Int32) (n : Nat) (f : Nat → Int32) (y t' : Addr) (V' : Cell) (cd' : Int32) (k : Nat) (g : Nat → Int32) (z : Int32) : Law l yN 2 1 1 14 yB 3 (some .boolean) site (P x t V cd n f y t' V' cd' k g z) (Says01 (SameT n f k g)) [] 0 0 := by
  refine Law.of_walk (plainFor_of_name (by decide +kernel)) (by decide +kernel) (by decide +kernel) (by decide) (fun _ _ h => by rw [h.1]; rfl) (fun _ U U' hal hh h => ⟨h.1, h.2.1.mv hal hh, h.2.2.1.mv hal hh, h.2.2.2.1.there hal hh, h.2.2.2.2⟩) (fun r U U' V V' h1 hal h2 h => Says01.mv r U U' V V' h1 hal h2 h) ?_
  intro p e s m args below meth c s₁ X0 hexec hbytes hml hret hlk hnm hown hh0 W hP
  obtain ⟨rfl, hx, hy, s1, hz⟩ := hP
  have c1 : Steps p.tables e below (s₁.setTop (entryFrame m #[.ref x, .ref y] 3)) (s₁.setTop (mkF m 2 #[.val (.ref x), .val (.ref y), .unset] [.ref y, .ref x])) := Steps.trans (entry rfl) (by
    show Steps p.tables e below (s₁.setTop (mkF m 0 #[.val (.ref x), .val (.ref y), .unset] [])) _
    refine XS.aloadN X0.here hexec rfl (hb hbytes d0) rfl rfl ?_
    refine XS.aloadN X0.here hexec rfl (hb hbytes d1) rfl rfl ?_
    exact Steps.refl _)
  by_cases hxy : x = y
  · have c2 : Steps p.tables e below (s₁.setTop (entryFrame m #[.ref x, .ref y] 3)) (s₁.setTop (mkF m 6 #[.val (.ref x), .val (.ref y), .unset] [.int 1])) := c1.trans (by
      refine acmpNo X0.here hexec rfl (hb hbytes d2) rfl rfl rfl (by simp [acmp, hxy]) ?_
      refine iconstV X0.here hexec rfl 1 (hb hbytes d5) (by decide) ?_
      exact Steps.refl _)
    subst hxy
    have ec : cd = cd' := by
      obtain ⟨D, fd, a1, a2, a3⟩ := hx.2.2.1
      obtain ⟨D', fd', b1, b2, b3⟩ := hy.2.2.1
      cases a1.symm.trans b1
      obtain ⟨q1, q2, q3, q4⟩ := a2.1
      obtain ⟨r1, r2, r3, r4⟩ := b2.1
      cases q4.symm.trans r4
      cases a3.symm.trans b3; rfl
    have et : t = t' := by
      obtain ⟨D, fd, a1, a2, a3⟩ := hx.2.1
      obtain ⟨D', fd', b1, b2, b3⟩ := hy.2.1
      cases a1.symm.trans b1
      obtain ⟨q1, q2, q3, q4⟩ := a2.1
      obtain ⟨r1, r2, r3, r4⟩ := b2.1
      cases q4.symm.trans r4
      cases a3.symm.trans b3; rfl
    subst ec et
    have ev : V = V' := by cases hx.2.2.2.1.1.symm.trans hy.2.2.2.1.1; rfl
    subst ev
    have hs : SameT n f k g := (Cod.eqv hx.2.2.2.2.1 hy.2.2.2.2.1 hx.2.2.2.2.2 hy.2.2.2.2.2).mp ⟨rfl, fun _ _ => rfl⟩
    exact ⟨s₁, some (.int 1), _, _, _, X0, rfl, rfl, rfl, (fun h => by cases h), ⟨1, rfl, hh0, Or.inl ⟨rfl, hs⟩⟩, fun fs hl => c2.trans (X0.ireturnOut hexec hret rfl (Or.inr (Or.inl rfl)) (hb hbytes d6) hl)⟩
  · have c2 : Steps p.tables e below (s₁.setTop (entryFrame m #[.ref x, .ref y] 3)) (s₁.setTop (mkF m 8 #[.val (.ref x), .val (.ref y), .unset] [.ref y])) := c1.trans (by
      refine acmpYes X0.here hexec rfl (pc0 := 2) rfl (hb hbytes d2) rfl rfl rfl (by simp [acmp, hxy]) (by decide) rfl ?_
      refine XS.aloadN X0.here hexec rfl (hb hbytes d7) rfl rfl ?_
      exact Steps.refl _)
    obtain ⟨T3, X3, q3, st3⟩ := cinst X0 hexec hown (wk W (.classLink "java/lang/String" 10 "java/lang/String")) (hy.mv X0.warmed.alike hh0).1 (g := (mkF m 8 #[.val (.ref x), .val (.ref y), .unset] [.ref y])) rfl (rest := []) rfl (hb hbytes d8)
    have hh3 := q3.trans hh0
    have c4 : Steps p.tables e below (s₁.setTop (entryFrame m #[.ref x, .ref y] 3)) (T3.setTop (mkF m 15 #[.val (.ref x), .val (.ref y), .unset] [.ref y])) := (c2.trans (st3 _ (Steps.refl _))).trans (by
      refine XS.ifNo X3.here hexec rfl (hb hbytes d11) rfl (i0_eq_f (by decide)) ?_
      refine XS.aloadN X3.here hexec rfl (hb hbytes d14) rfl rfl ?_
      exact Steps.refl _)
    obtain ⟨T5, X5, q5, st5⟩ := cself X3 hexec hown (wk W (.classLink "java/lang/String" 10 "java/lang/String")) (hy.mv X3.warmed.alike hh3).1 (g := (mkF m 15 #[.val (.ref x), .val (.ref y), .unset] [.ref y])) rfl (rest := []) rfl (hb hbytes d15)
    have hh5 := q5.trans hh3
    have c6 : Steps p.tables e below (s₁.setTop (entryFrame m #[.ref x, .ref y] 3)) (T5.setTop (mkF m 19 #[.val (.ref x), .val (.ref y), .val (.ref y)] [])) := (c4.trans (st5 _ (Steps.refl _))).trans (by
      refine XS.astoreN X5.here hexec rfl (hb hbytes d18) rfl rfl rfl ?_
      exact Steps.refl _)
    obtain ⟨T7, X7, q7, st7⟩ := X5.sget hexec hown (wk W (.fieldLink "java/lang/String" 38 "java/lang/String" "COMPACT_STRINGS" "Z")) s1 (fun _ _ h => by rw [hh5]; exact h) (g := (mkF m 19 #[.val (.ref x), .val (.ref y), .val (.ref y)] [])) rfl (hb hbytes d19)
    have hh7 := q7.trans hh5
    have c8 : Steps p.tables e below (s₁.setTop (entryFrame m #[.ref x, .ref y] 3)) (T7.setTop (mkF m 26 #[.val (.ref x), .val (.ref y), .val (.ref y)] [.ref x])) := (c6.trans (st7 _ (Steps.refl _))).trans (by
      refine XS.ifNo X7.here hexec rfl (hb hbytes d22) rfl (i0_eq_f hz) ?_
      refine XS.aloadN X7.here hexec rfl (hb hbytes d25) rfl rfl ?_
      exact Steps.refl _)
    obtain ⟨T9, X9, q9, st9⟩ := X7.hget hexec hown (wk W (.fieldLink "java/lang/String" 15 "java/lang/String" "coder" "B")) (hx.mv X7.warmed.alike hh7).2.2.1 (g := (mkF m 26 #[.val (.ref x), .val (.ref y), .val (.ref y)] [.ref x])) rfl (rest := []) rfl (hb hbytes d26)
    have hh9 := q9.trans hh7
    have c10 : Steps p.tables e below (s₁.setTop (entryFrame m #[.ref x, .ref y] 3)) (T9.setTop (mkF m 30 #[.val (.ref x), .val (.ref y), .val (.ref y)] [.ref y, .int cd])) := (c8.trans (st9 _ (Steps.refl _))).trans (by
      refine XS.aloadN X9.here hexec rfl (hb hbytes d29) rfl rfl ?_
      exact Steps.refl _)
    obtain ⟨T11, X11, q11, st11⟩ := X9.hget hexec hown (wk W (.fieldLink "java/lang/String" 15 "java/lang/String" "coder" "B")) (hy.mv X9.warmed.alike hh9).2.2.1 (g := (mkF m 30 #[.val (.ref x), .val (.ref y), .val (.ref y)] [.ref y, .int cd])) rfl (rest := [.int cd]) rfl (hb hbytes d30)
    have hh11 := q11.trans hh9
    have c12 : Steps p.tables e below (s₁.setTop (entryFrame m #[.ref x, .ref y] 3)) (T11.setTop (mkF m 33 #[.val (.ref x), .val (.ref y), .val (.ref y)] [.int cd', .int cd])) := c10.trans (st11 _ (Steps.refl _))
    by_cases hcd : cd = cd'
    · subst hcd
      have c13 : Steps p.tables e below (s₁.setTop (entryFrame m #[.ref x, .ref y] 3)) (T11.setTop (mkF m 37 #[.val (.ref x), .val (.ref y), .val (.ref y)] [.ref x])) := c12.trans (by
        refine XS.icmpNo X11.here hexec rfl (hb hbytes d33) rfl (ii_ne_f rfl) ?_
        refine XS.aloadN X11.here hexec rfl (hb hbytes d36) rfl rfl ?_
        exact Steps.refl _)
      obtain ⟨T14, X14, q14, st14⟩ := X11.hget hexec hown (wk W (.fieldLink "java/lang/String" 9 "java/lang/String" "value" "[B")) (hx.mv X11.warmed.alike hh11).2.1 (g := (mkF m 37 #[.val (.ref x), .val (.ref y), .val (.ref y)] [.ref x])) rfl (rest := []) rfl (hb hbytes d37)
      have hh14 := q14.trans hh11
      have c15 : Steps p.tables e below (s₁.setTop (entryFrame m #[.ref x, .ref y] 3)) (T14.setTop (mkF m 41 #[.val (.ref x), .val (.ref y), .val (.ref y)] [.ref y, .ref t])) := (c13.trans (st14 _ (Steps.refl _))).trans (by
        refine XS.aloadN X14.here hexec rfl (hb hbytes d40) rfl rfl ?_
        exact Steps.refl _)
      obtain ⟨T16, X16, q16, st16⟩ := X14.hget hexec hown (wk W (.fieldLink "java/lang/String" 9 "java/lang/String" "value" "[B")) (hy.mv X14.warmed.alike hh14).2.1 (g := (mkF m 41 #[.val (.ref x), .val (.ref y), .val (.ref y)] [.ref y, .ref t])) rfl (rest := [.ref t]) rfl (hb hbytes d41)
      have hh16 := q16.trans hh14
      have c17 : Steps p.tables e below (s₁.setTop (entryFrame m #[.ref x, .ref y] 3)) (T16.setTop (mkF m 44 #[.val (.ref x), .val (.ref y), .val (.ref y)] [.ref t', .ref t])) := c15.trans (st16 _ (Steps.refl _))
      obtain ⟨v18, T18, X18, E18, g18⟩ := X16.callS hexec (LEq.law l t V t' V') hown (wks W (staticW "java/lang/String" 541 LEq.yN)) (wk W LEq.tab) (W := 0) (Nat.le_of_ble_eq_true rfl) (Nat.le_of_ble_eq_true rfl) (Nat.le_refl _) (Nat.le_refl _) (g := (mkF m 44 #[.val (.ref x), .val (.ref y), .val (.ref y)] [.ref t', .ref t])) rfl (by rw [hml]; rfl) c17 (argsL := [.ref t, .ref t']) (rest := []) rfl rfl (by show 2 * 0 + 0 ≤ _; decide) (hb hbytes d44) (⟨rfl, hx.2.2.2.1.mv X16.warmed.alike hh16, hx.2.2.2.2.1.ty, hy.2.2.2.1.mv X16.warmed.alike hh16, hy.2.2.2.2.1.ty⟩)
      obtain ⟨v, rfl, q18, hv⟩ := E18
      have iff := Cod.eqv hx.2.2.2.2.1 hy.2.2.2.2.1 hx.2.2.2.2.2 hy.2.2.2.2.2
      rcases hv with ⟨rfl, he⟩ | ⟨rfl, he⟩
      · have c19 : Steps p.tables e below (s₁.setTop (entryFrame m #[.ref x, .ref y] 3)) (T18.setTop (mkF m 55 #[.val (.ref x), .val (.ref y), .val (.ref y)] [.int 1])) := Steps.trans g18 (by
          refine XS.ifNo X18.here hexec rfl (hb hbytes d47) rfl (i0_eq_f (by decide)) ?_
          refine iconstV X18.here hexec rfl 1 (hb hbytes d50) (by decide) ?_
          refine XS.goto X18.here hexec rfl (pc0 := 51) rfl (hb hbytes d51) (by decide) rfl ?_
          exact Steps.refl _)
        exact ⟨T18, some (.int 1), _, _, _, X18, rfl, rfl, rfl, (fun h => by cases h), ⟨1, rfl, q18.trans hh16, Or.inl ⟨rfl, iff.mp he⟩⟩, fun fs hl => c19.trans (X18.ireturnOut hexec hret rfl (Or.inr (Or.inl rfl)) (hb hbytes d55) hl)⟩
      · have c19 : Steps p.tables e below (s₁.setTop (entryFrame m #[.ref x, .ref y] 3)) (T18.setTop (mkF m 55 #[.val (.ref x), .val (.ref y), .val (.ref y)] [.int 0])) := Steps.trans g18 (by
          refine XS.ifYes X18.here hexec rfl (pc0 := 47) rfl (hb hbytes d47) rfl (i0_eq_t rfl) (by decide) rfl ?_
          refine iconstV X18.here hexec rfl 0 (hb hbytes d54) (by decide) ?_
          exact Steps.refl _)
        exact ⟨T18, some (.int 0), _, _, _, X18, rfl, rfl, rfl, (fun h => by cases h), ⟨0, rfl, q18.trans hh16, Or.inr ⟨rfl, fun q => he (iff.mpr q)⟩⟩, fun fs hl => c19.trans (X18.ireturnOut hexec hret rfl (Or.inr (Or.inl rfl)) (hb hbytes d55) hl)⟩
    · have c13 : Steps p.tables e below (s₁.setTop (entryFrame m #[.ref x, .ref y] 3)) (T11.setTop (mkF m 55 #[.val (.ref x), .val (.ref y), .val (.ref y)] [.int 0])) := c12.trans (by
        refine XS.icmpYes X11.here hexec rfl (pc0 := 33) rfl (hb hbytes d33) rfl (ii_ne_t hcd) (by decide) rfl ?_
        refine iconstV X11.here hexec rfl 0 (hb hbytes d54) (by decide) ?_
        exact Steps.refl _)
      exact ⟨T11, some (.int 0), _, _, _, X11, rfl, rfl, rfl, (fun h => by cases h), ⟨0, rfl, hh11, Or.inr ⟨rfl, Cod.dif hx.2.2.2.2.1 hy.2.2.2.2.1 hcd⟩⟩, fun fs hl => c13.trans (X11.ireturnOut hexec hret rfl (Or.inr (Or.inl rfl)) (hb hbytes d55) hl)⟩
theorem pays {l : Launch} {R : Room} {p : Program} {e : Env} {below : List Frame} {s : State} {sargs : Array Value} {len W : Nat} (x t : Addr) (V : Cell) (cd : Int32) (n : Nat) (f : Nat → Int32) (y t' : Addr) (V' : Cell) (cd' : Int32) (k : Nat) (g : Nat → Int32) (z : Int32) (htab : tab.before sargs s = true) (hfr : 2 ≤ R.frames) (hlo : W + 28 ≤ R.locals) :
    Back l R p e below s sargs yN len W (fun A₁ a₁ => A₁.cells + 0 ≤ R.cells ∧ A₁.slots + 0 ≤ R.slots ∧ P x t V cd n f y t' V' cd' k g z a₁ A₁.U) (fun A₁ _ v₁ B₁ => Says01 (SameT n f k g) v₁ A₁.U B₁.U ∧ B₁.locs = A₁.locs ++ [] ∧ B₁.cells = A₁.cells + 0 ∧ B₁.slots = A₁.slots + 0) :=
  (law l x t V cd n f y t' V' cd' k g z).pays htab hfr (by omega)
end SEq
end StrChars
namespace StrChars.Road
open Jvm Sem ClassFile Op Lib Jvm.Stand Jvm.Free Jvm.Free.XT
open Jvm.Lib.Cold (StaticIs)
/-- the words of String.equals(Object) -/
abbrev wordsEq : List Jvm.Cond := [.code SEq.yN SEq.yB 3 (some .boolean), .initialized ST, .classLink ST 10 ST, .fieldLink ST 38 ST "COMPACT_STRINGS" "Z", .fieldLink ST 15 ST "coder" "B", .fieldLink ST 9 ST "value" "[B", .methodLink ST 541 LEq.yN, .static LEq.yN, .code LEq.yN LEq.yB 3 (some .boolean), .initialized "java/lang/StringLatin1"]
theorem tabEq_of {a : Array Value} {s : State} (h : ∀ w ∈ wordsEq, w.before a s = true) : SEq.tab.before a s = true := by
  have hl : LEq.tab.before a s = true := unparts (wk h (.code LEq.yN LEq.yB 3 (some .boolean))) (wks h (.initialized LEq.yN.cls :: LEq.site))
  have q := consq hl h
  exact unparts (wk q (.code SEq.yN SEq.yB 3 (some .boolean))) (wks q (.initialized SEq.yN.cls :: SEq.site))
theorem movedEq {Z s : State} {a0 args : Array Value} (hZ : Z.Warmed39 s.vm) (hw : ∀ d ∈ wordsEq, d.before a0 Z = true) : ∀ d ∈ wordsEq, d.before args s = true := fun d hd => by
  have t : ∀ d ∈ wordsEq, (d.onTables && d.keepsFace) = true := by decide +kernel
  exact RoadKit.mv hZ (hw d hd) (t d hd)
/-- the road's facts of a String, as the laws ask it -/
theorem txt_of {Z U : State} {a0 : Array Value} {kI : Nat} (wi : (Jvm.Cond.instantiable ST kI).before a0 Z = true) (al : Z.vm.Alike U.vm) {x t : Addr} {kb : ClassId} {cs : List Int32} {cd N2 : Int32} {vs : List Value} (E : RoadKit.Exa Z U.heap x ST) (V : RoadKit.Fld Z U.heap x ST "value" "[B" (.ref t)) (C : RoadKit.Fld Z U.heap x ST "coder" "B" (.int cd)) (K : RoadKit.Arv Z U.heap t kb .byte N2 vs (.int 0)) (hc : CodA cs cd N2 vs) (hb : ∀ c ∈ cs, ¬ c < 0 ∧ ¬ (65535 : Int32) < c) (l2 : cs.length ≤ 4000) :
    ∃ A, Txt x t A cd cs.length (fun j => cs.getD j 0) U := by
  obtain ⟨A, K1, K2, K3, K4, K5, K6⟩ := K
  have hcod := hc.cod (by omega) K3 K5
  obtain ⟨D, fV, fC, hB, F1, F2, g1, g2, -, -⟩ := strObj wi al E V C
  exact ⟨A, ⟨_, hB.2.2.1, D, hB.1, rfl, by cases q : D.vm <;> first | rfl | exact absurd q (hB.2.1.2 _)⟩, Has.of hB F1 g1, Has.of hB F2 g2, ⟨K1.1, State.isArrayOf_alike al K1.2.1, K1.2.2, by rcases hcod with ⟨-, q, -⟩ | ⟨-, q, -⟩ <;> omega⟩, hcod, fun j hj => by
    have e : cs.getD j 0 = cs[j] := by simp [List.getD_eq_getElem?_getD, hj]
    show ¬ cs.getD j 0 < 0 ∧ ¬ 65535 < cs.getD j 0
    rw [e]; exact hb _ (List.getElem_mem _)⟩
theorem same_list (cs ds : List Int32) : SameT cs.length (fun j => cs.getD j 0) ds.length (fun j => ds.getD j 0) ↔ cs = ds := by
  constructor
  · rintro ⟨e, q⟩
    refine List.ext_getElem e fun j h1 h2 => ?_
    have := q j h1
    simpa [List.getD_eq_getElem?_getD, h1, h2] using this
  · rintro rfl
    exact ⟨rfl, fun _ _ => rfl⟩
/-- **equals(Object) OF TWO SUCH STRINGS**: 1 just where the chars are the same -/
theorem eqW {p : Program} {l : Launch} {e : Env} {R : Room} {s : State} {args : Array Value} {below : List Frame} {len W : Nat} {Z : State} {a0 : Array Value} {h : Heap} (hZ : Z.Warmed39 s.vm) (hw : ∀ d ∈ wordsEq, d.before a0 Z = true) {kI : Nat} (wi : (Jvm.Cond.instantiable ST kI).before a0 Z = true)
    {x t : Addr} {kb : ClassId} {cs : List Int32} {cd N2 : Int32} {vs : List Value} (E : RoadKit.Exa Z h x ST) (V : RoadKit.Fld Z h x ST "value" "[B" (.ref t)) (C : RoadKit.Fld Z h x ST "coder" "B" (.int cd)) (K : RoadKit.Arv Z h t kb .byte N2 vs (.int 0)) (hc : CodA cs cd N2 vs) (hb : ∀ c ∈ cs, ¬ c < 0 ∧ ¬ (65535 : Int32) < c) (l2 : cs.length ≤ 4000)
    {y t' : Addr} {kb' : ClassId} {ds : List Int32} {cd' N2' : Int32} {vs' : List Value} (E' : RoadKit.Exa Z h y ST) (V' : RoadKit.Fld Z h y ST "value" "[B" (.ref t')) (C' : RoadKit.Fld Z h y ST "coder" "B" (.int cd')) (K' : RoadKit.Arv Z h t' kb' .byte N2' vs' (.int 0)) (hc' : CodA ds cd' N2' vs') (hb' : ∀ c ∈ ds, ¬ c < 0 ∧ ¬ (65535 : Int32) < c) (l2' : ds.length ≤ 4000)
    {z : Int32} (S : RoadKit.Sta Z h ST "COMPACT_STRINGS" "Z" (.int z)) (hz : ¬ z = 0) (hfr : 2 ≤ R.frames) (hlo : W + 28 ≤ R.locals) :
    Back l R p e below s args (⟨"java/lang/String", "equals", "(Ljava/lang/Object;)Z"⟩ : MethodName) len W (fun P a => a = #[.ref x, .ref y] ∧ P.U.heap = h ∧ P.cells + 0 ≤ R.cells ∧ P.slots + 0 ≤ R.slots)
      (fun P _ v B => ∃ L, (((v = some (.int 1) ∧ cs = ds) ∨ (v = some (.int 0) ∧ ¬ cs = ds)) ∧ L = [] ∧ B.U.heap = h) ∧ B.locs = P.locs ++ L ∧ B.cells = P.cells + 0 ∧ B.slots = P.slots + 0) := by
  intro m meth c P g ig mk a X hg hsize hdg hW hn hp'
  obtain ⟨rfl, rfl, r1, r2⟩ := hp'
  have al : Z.vm.Alike P.U.vm := hZ.alike.trans X.warmed.alike
  obtain ⟨A, hx⟩ := txt_of wi al E V C K hc hb l2
  obtain ⟨A', hy⟩ := txt_of wi al E' V' C' K' hc' hb' l2'
  obtain ⟨v, B, X', ⟨⟨w, hv, hh, hq⟩, hl, hk, hs⟩, st⟩ := SEq.pays x t A cd cs.length (fun j => cs.getD j 0) y t' A' cd' ds.length (fun j => ds.getD j 0) z (tabEq_of (movedEq hZ hw)) hfr hlo m meth c P g ig mk _ X hg hsize hdg hW hn ⟨r1, r2, rfl, hx, hy, sta_is al S, hz⟩
  refine ⟨v, B, X', ⟨[], ⟨?_, rfl, hh⟩, hl, hk, hs⟩, st⟩
  rcases hq with ⟨rfl, q⟩ | ⟨rfl, q⟩
  · exact Or.inl ⟨hv, (same_list cs ds).mp q⟩
  · exact Or.inr ⟨hv, fun e => q ((same_list cs ds).mpr e)⟩
end StrChars.Road
namespace StrChars
open Jvm Sem ClassFile Op Lib Jvm.Stand Jvm.Free.XT Jvm.Free.ALB Jvm.Free.JM Jvm.Free
open Jvm.Lib.Cold (StaticIs)
namespace ChN
def yN : MethodName := ⟨"java/lang/String", "charAt", "(I)C"⟩
abbrev yB : ByteArray := jdk_42_method_56_code
theorem d0 : decode yB 0 = .ok (.aload_n 0, 1) := by decide +kernel
theorem d1 : decode yB 1 = .ok (.invokevirtual 492, 3) := by decide +kernel
theorem d4 : decode yB 4 = .ok (.ifCond (.eq) 12, 3) := by decide +kernel
theorem d7 : decode yB 7 = .ok (.aload_n 0, 1) := by decide +kernel
theorem d8 : decode yB 8 = .ok (.getfield 9, 3) := by decide +kernel
theorem d11 : decode yB 11 = .ok (.iload_n 1, 1) := by decide +kernel
theorem d12 : decode yB 12 = .ok (.invokestatic 495, 3) := by decide +kernel
theorem d15 : decode yB 15 = .ok (.ireturn, 1) := by decide +kernel
def site : List Cond := [.fieldLink "java/lang/String" 9 "java/lang/String" "value" "[B", IsL.tab, LChA.tab] ++ virtW "java/lang/String" 492 "java/lang/String" IsL.yN IsL.yN ++ staticW "java/lang/String" 495 LChA.yN
def tab : Cond := tabOf yN yB 2 (some .char) site
def P (x t : Addr) (V : Cell) (n : Nat) (f : Nat → Int32) (z : Int32) (fm : Value) (i : Nat) (args : Array Value) (s : State) : Prop := args = #[.ref x, .int (Int32.ofNat i)] ∧ Txt x t V 0 n f s ∧ i < n ∧ StaticIs s "java/lang/String" "COMPACT_STRINGS" "Z" (.int z) ∧ ¬ z = 0 ∧ StaticIs s "jdk/internal/util/Preconditions" "SIOOBE_FORMATTER" "Ljava/util/function/BiFunction;" fm ∧ fm.isRef = true
def E (f : Nat → Int32) (i : Nat) (r : Option Value) (s u : State) : Prop := XT.PureE (some (.int (f i))) r s u
/-- charAt(i) of a Latin-1 String of n chars, i < n: f i -/
theorem law (l : Launch) (x t : Addr) (V : Cell) (n : Nat) (f : Nat → Int32) (z : Int32) (fm : Value) (i : Nat) : Law l yN 2 1 3 40 yB 2 (some .char) site (P x t V n f z fm i) (E f i) [] 0 0 := by
  refine Law.of_walk (plainFor_of_name (by decide +kernel)) (by decide +kernel) (by decide +kernel) (by decide) (fun _ _ h => by rw [h.1]; rfl) (fun _ U U' hal hh h => ⟨h.1, h.2.1.mv hal hh, h.2.2.1, h.2.2.2.1.there hal hh, h.2.2.2.2.1, h.2.2.2.2.2.1.there hal hh, h.2.2.2.2.2.2⟩) (fun r U U' V V' h1 hal h2 h => XT.PureE.mv r U U' V V' h1 hal h2 h) ?_
  intro p e s m args below meth c s₁ X0 hexec hbytes hml hret hlk hnm hown hh0 W hP
  obtain ⟨rfl, hx, hi, s1, hz, s3, rf⟩ := hP
  have v31 := hx.2.2.2.1.2.2.2
  have hr := hx.2.2.2.2.2 i hi
  have hx0 := hx.mv X0.warmed.alike hh0
  have c1 : Steps p.tables e below (s₁.setTop (entryFrame m #[.ref x, .int (Int32.ofNat i)] 2)) (s₁.setTop (mkF m 1 #[.val (.ref x), .val (.int (Int32.ofNat i))] [.ref x])) := Steps.trans (entry rfl) (by
    show Steps p.tables e below (s₁.setTop (mkF m 0 #[.val (.ref x), .val (.int (Int32.ofNat i))] [])) _
    refine XS.aloadN X0.here hexec rfl (hb hbytes d0) rfl rfl ?_
    exact Steps.refl _)
  obtain ⟨v2, T2, X2, E2, g2⟩ := X0.callV hexec (IsL.law l x 0 z) hown (wks W (virtW "java/lang/String" 492 "java/lang/String" IsL.yN IsL.yN)) rfl (by decide) (wk W IsL.tab) (W := 0) (Nat.le_of_ble_eq_true rfl) (Nat.le_of_ble_eq_true rfl) (Nat.le_refl _) (Nat.le_refl _) (hx0.1.fc X0.warmed.alike) hx0.1.is (g := (mkF m 1 #[.val (.ref x), .val (.int (Int32.ofNat i))] [.ref x])) rfl (by rw [hml]; rfl) c1 (argsL := []) (rest := []) rfl rfl (by show 2 * 0 + 0 ≤ _; decide) (hb hbytes d1) (⟨rfl, hx0.2.2.1, hx.2.2.2.2.1.cd, s1.there X0.warmed.alike hh0, hz⟩)
  obtain ⟨rfl, q2⟩ := E2
  have hh2 := q2.trans hh0
  have hx2 := hx.mv X2.warmed.alike hh2
  obtain ⟨-, k1, k2⟩ | ⟨k0, -⟩ := hx.2.2.2.2.1
  · have c3 : Steps p.tables e below (s₁.setTop (entryFrame m #[.ref x, .int (Int32.ofNat i)] 2)) (T2.setTop (mkF m 8 #[.val (.ref x), .val (.int (Int32.ofNat i))] [.ref x])) := Steps.trans g2 (by
      refine XS.ifNo X2.here hexec rfl (hb hbytes d4) rfl (i0_eq_f (by decide)) ?_
      refine XS.aloadN X2.here hexec rfl (hb hbytes d7) rfl rfl ?_
      exact Steps.refl _)
    obtain ⟨T4, X4, q4, st4⟩ := X2.hget hexec hown (wk W (.fieldLink "java/lang/String" 9 "java/lang/String" "value" "[B")) hx2.2.1 (g := (mkF m 8 #[.val (.ref x), .val (.int (Int32.ofNat i))] [.ref x])) rfl (rest := []) rfl (hb hbytes d8)
    have hh4 := q4.trans hh2
    have c5 : Steps p.tables e below (s₁.setTop (entryFrame m #[.ref x, .int (Int32.ofNat i)] 2)) (T4.setTop (mkF m 12 #[.val (.ref x), .val (.int (Int32.ofNat i))] [.int (Int32.ofNat i), .ref t])) := (c3.trans (st4 _ (Steps.refl _))).trans (by
      refine XS.iloadN X4.here hexec rfl (hb hbytes d11) rfl ?_
      exact Steps.refl _)
    obtain ⟨v6, T6, X6, E6, g6⟩ := X4.callS hexec (LChA.law l t V i (lo8 (f i)) fm) hown (wks W (staticW "java/lang/String" 495 LChA.yN)) (wk W LChA.tab) (W := 0) (Nat.le_of_ble_eq_true rfl) (Nat.le_of_ble_eq_true rfl) (Nat.le_refl _) (Nat.le_refl _) (g := (mkF m 12 #[.val (.ref x), .val (.int (Int32.ofNat i))] [.int (Int32.ofNat i), .ref t])) rfl (by rw [hml]; rfl) c5 (argsL := [.ref t, .int (Int32.ofNat i)]) (rest := []) rfl rfl (by show 2 * 0 + 0 ≤ _; decide) (hb hbytes d12) (⟨rfl, hx.2.2.2.1.mv X4.warmed.alike hh4, (k2 i hi).1, s3.there X4.warmed.alike hh4, rf⟩)
    obtain ⟨rfl, q6⟩ := E6
    rw [chr8_lo8 hr.1 (k2 i hi).2] at g6
    exact ⟨T6, some (.int (f i)), _, _, _, X6, rfl, rfl, rfl, (fun h => by cases h), ⟨rfl, q6.trans hh4⟩, fun fs hl => Steps.trans g6 (X6.ireturnOut hexec hret (narrow_ch hr.1 hr.2) (Or.inr (Or.inr (Or.inr (Or.inl rfl)))) (hb hbytes d15) hl)⟩
  · exact absurd k0 (by decide)
theorem pays {l : Launch} {R : Room} {p : Program} {e : Env} {below : List Frame} {s : State} {sargs : Array Value} {len W : Nat} (x t : Addr) (V : Cell) (n : Nat) (f : Nat → Int32) (z : Int32) (fm : Value) (i : Nat) (htab : tab.before sargs s = true) (hfr : 4 ≤ R.frames) (hlo : W + 53 ≤ R.locals) :
    Back l R p e below s sargs yN len W (fun A₁ a₁ => A₁.cells + 0 ≤ R.cells ∧ A₁.slots + 0 ≤ R.slots ∧ P x t V n f z fm i a₁ A₁.U) (fun A₁ _ v₁ B₁ => E f i v₁ A₁.U B₁.U ∧ B₁.locs = A₁.locs ++ [] ∧ B₁.cells = A₁.cells + 0 ∧ B₁.slots = A₁.slots + 0) :=
  (law l x t V n f z fm i).pays htab hfr (by omega)
end ChN
end StrChars
namespace StrChars.Road
open Jvm Sem ClassFile Op Lib Jvm.Stand Jvm.Free Jvm.Free.XT
open Jvm.Lib.Cold (StaticIs)
/-- the words of String.charAt(int), the Latin-1 road alone -/
abbrev wordsChN : List Jvm.Cond := [.code ChN.yN ChN.yB 2 (some .char), .initialized ST, .fieldLink ST 9 ST "value" "[B", .fieldLink ST 38 ST "COMPACT_STRINGS" "Z", .fieldLink ST 15 ST "coder" "B", .code IsL.yN IsL.yB 1 (some .boolean), .methodLink ST 492 IsL.yN, .declares IsL.yN, .selects ST IsL.yN IsL.yN, .instanceMethod IsL.yN,
  .methodLink ST 495 LChA.yN, .static LChA.yN, .code LChA.yN LChA.yB 2 (some .char), .initialized "java/lang/StringLatin1", .methodLink "java/lang/StringLatin1" 9 JO.Str_checkIndex.yN, .static JO.Str_checkIndex.yN, .code JO.Str_checkIndex.yN JO.Str_checkIndex.yB 2 none,
  .fieldLink ST 1053 "jdk/internal/util/Preconditions" "SIOOBE_FORMATTER" "Ljava/util/function/BiFunction;", .methodLink ST 1059 JC.PreCheck.yN, .static JC.PreCheck.yN, .code JC.PreCheck.yN JC.PreCheck.yB 3 (some .int), .initialized "jdk/internal/util/Preconditions"]
theorem tabChN_of {a : Array Value} {s : State} (h : ∀ w ∈ wordsChN, w.before a s = true) : ChN.tab.before a s = true := by
  have hp : JC.PreCheck.tab.before a s = true := unparts (wk h (.code JC.PreCheck.yN JC.PreCheck.yB 3 (some .int))) (wks h (.initialized JC.PreCheck.yN.cls :: JC.PreCheck.site))
  have qk := consq hp h
  have hk : JO.Str_checkIndex.tab.before a s = true := unparts (wk qk (.code JO.Str_checkIndex.yN JO.Str_checkIndex.yB 2 none)) (wks qk (.initialized JO.Str_checkIndex.yN.cls :: JO.Str_checkIndex.site))
  have ql := consq hk h
  have hl : LChA.tab.before a s = true := unparts (wk ql (.code LChA.yN LChA.yB 2 (some .char))) (wks ql (.initialized LChA.yN.cls :: LChA.site))
  have hi : IsL.tab.before a s = true := unparts (wk h (.code IsL.yN IsL.yB 1 (some .boolean))) (wks h (.initialized IsL.yN.cls :: IsL.site))
  have q := consq hi (consq hl h)
  exact unparts (wk q (.code ChN.yN ChN.yB 2 (some .char))) (wks q (.initialized ChN.yN.cls :: ChN.site))
theorem movedChN {Z s : State} {a0 args : Array Value} (hZ : Z.Warmed39 s.vm) (hw : ∀ d ∈ wordsChN, d.before a0 Z = true) : ∀ d ∈ wordsChN, d.before args s = true := fun d hd => by
  have t : ∀ d ∈ wordsChN, (d.onTables && d.keepsFace) = true := by decide +kernel
  exact RoadKit.mv hZ (hw d hd) (t d hd)
/-- **charAt(i) OF A LATIN-1 STRING**, i < n: the char -/
theorem chN {p : Program} {l : Launch} {e : Env} {R : Room} {s : State} {args : Array Value} {below : List Frame} {len W : Nat} {Z : State} {a0 : Array Value} {h : Heap} (hZ : Z.Warmed39 s.vm) (hw : ∀ d ∈ wordsChN, d.before a0 Z = true) {kI : Nat} (wi : (Jvm.Cond.instantiable ST kI).before a0 Z = true)
    {x t : Addr} {kb : ClassId} {cs : List Int32} {N2 z : Int32} {vs : List Value} {fm : Value} {i : Nat} {j : Int32} (E : RoadKit.Exa Z h x ST) (V : RoadKit.Fld Z h x ST "value" "[B" (.ref t)) (C : RoadKit.Fld Z h x ST "coder" "B" (.int 0)) (K : RoadKit.Arv Z h t kb .byte N2 vs (.int 0)) (hc : CodA cs 0 N2 vs) (hb : ∀ c ∈ cs, ¬ c < 0 ∧ ¬ (65535 : Int32) < c)
    (S : RoadKit.Sta Z h ST "COMPACT_STRINGS" "Z" (.int z)) (hz : ¬ z = 0) (F : RoadKit.Sta Z h "jdk/internal/util/Preconditions" "SIOOBE_FORMATTER" "Ljava/util/function/BiFunction;" fm) (rf : fm.isRef = true) (l2 : cs.length ≤ 4000) (hi : i < cs.length) (hj : j = Int32.ofNat i) (hfr : 4 ≤ R.frames) (hlo : W + 53 ≤ R.locals) :
    Back l R p e below s args (⟨"java/lang/String", "charAt", "(I)C"⟩ : MethodName) len W (fun P a => a = #[.ref x, .int j] ∧ P.U.heap = h ∧ P.cells + 0 ≤ R.cells ∧ P.slots + 0 ≤ R.slots)
      (fun P _ v B => ∃ L, (v = some (.int (cs.getD i 0)) ∧ L = [] ∧ B.U.heap = h) ∧ B.locs = P.locs ++ L ∧ B.cells = P.cells + 0 ∧ B.slots = P.slots + 0) := by
  subst hj
  intro m meth c P g ig mk a X hg hsize hdg hW hn hp'
  obtain ⟨rfl, rfl, r1, r2⟩ := hp'
  have al : Z.vm.Alike P.U.vm := hZ.alike.trans X.warmed.alike
  obtain ⟨A, hx⟩ := txt_of wi al E V C K hc hb l2
  obtain ⟨v, B, X', ⟨⟨hv, hh⟩, hl, hk, hs⟩, st⟩ := ChN.pays x t A cs.length (fun j => cs.getD j 0) z fm i (tabChN_of (movedChN hZ hw)) hfr hlo m meth c P g ig mk _ X hg hsize hdg hW hn ⟨r1, r2, rfl, hx, hi, sta_is al S, hz, sta_is al F, rf⟩
  exact ⟨v, B, X', ⟨[], ⟨hv, rfl, hh⟩, hl, hk, hs⟩, st⟩
/-- what backV says of its String, as the contracts of this text ask it: cs's low bytes, coder 0 -/
theorem codOf {cs : List Int32} {n : Nat} (hn : cs.length = n) (hb : ∀ c ∈ cs, ¬ 255 < c) : CodA cs 0 (Int32.ofNat n) ((cs.map lo8).map Value.int) := Or.inl ⟨rfl, by rw [hn], by simp [List.map_map, Function.comp_def], hb⟩
end StrChars.Road
end Jvm.Pilot.@@N@@
namespace Jvm.Pilot.@@N@@
open Jvm Jvm.ClassFile Sem Op Lib Jvm.Free Jvm.Stand Jvm.LawKit Jvm.RoadKit Bundle Jvm.Pilot.@@N@@.Jvm.D
/-! ints of small ranges -/
theorem ofRange {x : Int32} {n : Nat} (h0 : 0 ≤ x.toInt) (h1 : x.toInt < n) (hn : n ≤ 2147483648) : ∃ j : Fin n, x = Int32.ofNat j.val := by
  refine ⟨⟨x.toInt.toNat, by omega⟩, Int32.toInt_inj.mp ?_⟩
  rw [Int32.toInt_ofNat_of_lt (by show x.toInt.toNat < _; omega)]
  show x.toInt = (x.toInt.toNat : Int)
  omega
theorem andB (x m : Int32) (hm : 0 ≤ m.toInt) : 0 ≤ (x &&& m).toInt ∧ (x &&& m).toInt ≤ m.toInt := by
  have h1 : (x &&& m).toBitVec.toNat ≤ m.toBitVec.toNat := by
    simp only [Int32.toBitVec_and, BitVec.toNat_and]; exact Nat.and_le_right
  have h2 : m.toBitVec.toNat < 2 ^ 32 := m.toBitVec.isLt
  have e1 : m.toInt = m.toBitVec.toInt := rfl
  have e2 : (x &&& m).toInt = (x &&& m).toBitVec.toInt := rfl
  rw [BitVec.toInt_eq_toNat_cond] at e1 e2
  split at e1 <;> split at e2 <;> omega
/-- x & (2^k - 1) is one of 2^k numbers -/
theorem andR (x m : Int32) {n : Nat} (hm : m.toInt + 1 = n) (hn : 0 < n) : ∃ j : Fin n, x &&& m = Int32.ofNat j.val := by
  have h := andB x m (by omega)
  have := Int32.toInt_lt m
  exact ofRange h.1 (by omega) (by omega)
/-- (x & 0x7fffffff) % c is one of c numbers -/
theorem modR (x c : Int32) {n : Nat} (hc : c.toInt = n) (hn : 0 < n) : ∃ j : Fin n, (x &&& (2147483647 : Int32)) % c = Int32.ofNat j.val := by
  have h := andB x (2147483647 : Int32) (by decide)
  have e : ((x &&& (2147483647 : Int32)) % c).toInt = (x &&& (2147483647 : Int32)).toInt.tmod c.toInt := Int32.toInt_mod _ _
  have hp : (0 : Int) < c.toInt := by omega
  have h1 := Int.tmod_nonneg c.toInt h.1
  have h2 := Int.tmod_lt_of_pos (x &&& (2147483647 : Int32)).toInt hp
  have := Int32.toInt_lt c
  exact ofRange (by rw [e]; exact h1) (by rw [e]; omega) (by omega)
/-- a number of 0 to n-1 modulo c -/
theorem ofNat_lt {i n : Nat} (h : i < n) (hn : n ≤ 4000) : Int32.ofNat i < Int32.ofNat n := by
  rw [Int32.lt_iff_toInt_lt, Int32.toInt_ofNat_of_lt (by omega), Int32.toInt_ofNat_of_lt (by omega)]; omega
theorem ofNat_succ (i : Nat) : Int32.ofNat i + (1 : Int32) = Int32.ofNat (i + 1) := by
  apply Int32.toBitVec_inj.mp
  show BitVec.ofNat 32 i + BitVec.ofNat 32 1 = BitVec.ofNat 32 (i + 1)
  rw [BitVec.ofNat_add]
/-! the walk, its state bundled: one proposition carries the Stand (re-based behind a load that may intern), the heap, the tables' growth, and the steps from the start -/
section WkKit
variable {p : Program} {l : Launch} {e : Env} {R : Room} {s : State} {m : MethodId} {args : Array Value} {below : List Frame} {meth : Method} {c : Code} {Z : State} {a0 : Array Value} {EL : List (String × Nat)} {own : String} {B : ByteArray} {mx : Nat} {s₁ : State} {g0 g g' : JFrame} {h h' : Heap} {cells slots pc q : Nat} {sf : List Addr} {Ls Ls' : Array Slot} {st rest : List Value} {x y z : Int32} {v w : Value} {a b : Addr}
def Wk (p : Program) (l : Launch) (e : Env) (R : Room) (s : State) (m : MethodId) (args : Array Value) (below : List Frame) (meth : Method) (c : Code) (Z : State) (EL : List (String × Nat)) (own : String) (B : ByteArray) (mx : Nat) (s₁ : State) (g0 g : JFrame) (h : Heap) (cells slots : Nat) (sf : List Addr) : Prop :=
  p.tables.exec = Jvm.exec ∧ c.code = B ∧ c.maxLocals = mx ∧ ∃ (T : State) (vm : Vm) (locs : List Loc) (k : Nat),
    Stand p l e R (s.setVm vm) m args below meth c T locs cells slots ∧ T.heap = h ∧ Z.Warmed39 vm ∧ vm.findClass own = some m.cls ∧ s.Since vm k ∧ k ≤ h.size ∧ CHr Z EL s.vm s.heap vm h ∧ Ext Z.heap h ∧ Fr Z.heap.size locs ∧ (∀ x ∈ sf, x < h.size ∧ Safe Z EL vm h x) ∧ Steps p.tables e below (s₁.setTop g0) (T.setTop g)
/-- what a walk owes at its end -/
def Dn (p : Program) (e : Env) (below : List Frame) (s s₁ : State) (g0 : JFrame) (Z : State) (EL : List (String × Nat)) (R : Room) (Q : Option Value → Heap → Prop) : Prop :=
  ∃ s₂ o, Steps p.tables e below (s₁.setTop g0) s₂ ∧ s₂.status = .running ∧ Ended s₂ below o ∧ ∃ v L, o = .returned v ∧ (Q v s₂.heap ∧ Fr Z.heap.size L ∧ Ext Z.heap s₂.heap) ∧ CHr Z EL s.vm s.heap s₂.vm s₂.heap ∧ ReturnedEndW s o s₂ L R.cells R.slots
/-- a method's contract: called with as' over the heap hp it comes back, and Q holds of what it answers and of the heap -/
def Ctr (l : Launch) (Z : State) (EL : List (String × Nat)) (y : MethodName) (bytes : ByteArray) (maxL : Nat) (ret : Option FieldType) (ws : List Jvm.Cond) (rm : Room) (as' : Array Value) (hp : Heap) (sf0 : List Addr) (Q : Option Value → Heap → Prop) : Prop :=
  MetFree l y (head1 (Jvm.Cond.code y bytes maxL ret :: ws) rm) (fun a U => a = as' ∧ Z.Warmed39 U.vm ∧ U.heap = hp ∧ CHv Z EL U.vm hp ∧ ∀ x ∈ sf0, x < hp.size ∧ Safe Z EL U.vm hp x) (fun _ _ _ _ _ => True)
    (fun _ U o U' => ∃ v L, o = .returned v ∧ (Q v U'.heap ∧ Fr Z.heap.size L ∧ Ext Z.heap U'.heap) ∧ CHr Z EL U.vm U.heap U'.vm U'.heap ∧ ReturnedEndW U o U' L rm.cells rm.slots)
theorem Ctr.of {y : MethodName} {bytes : ByteArray} {maxL : Nat} {ret : Option FieldType} {ws : List Jvm.Cond} {rm : Room} {as' : Array Value} {hp : Heap} {sf0 : List Addr} {Q : Option Value → Heap → Prop} (hpn : plainName y.cls = true) (O : Ext Z.heap hp)
    (body : ∀ p e s m below meth c s₁, meth.sig.returnType = ret → meth.locks = false → meth.name = y.name → Wk p l e rm s m as' below meth c Z EL y.cls bytes maxL s₁ (entryFrame m as' maxL) (entryFrame m as' maxL) hp 0 0 sf0 → Dn p e below s s₁ (entryFrame m as' maxL) Z EL rm Q) :
    Ctr l Z EL y bytes maxL ret ws rm as' hp sf0 Q := by
  refine MetFree.of_bodySF (plainFor_of_name hpn) hisR ?_
  intro p e s m args below meth c s₁ Bd hml0 hP hK
  obtain ⟨hargs, hZ, hh, hH, hS0⟩ := hP
  subst hargs
  have X0 : Stand p l e rm s m args below meth c s₁ [] 0 0 := Stand.of_body Bd
  have e0 : s₁.heap = hp := by rw [← hh, Bd.state]; rfl
  have C0 : CHr Z EL s.vm s.heap s.vm hp := by rw [hh]; exact CHr.refl hH
  exact body p e s m below meth c s₁ Bd.returns Bd.notSynchronized (name_of_methodNamed Bd.named Bd.method).1 ⟨Bd.exec, Bd.bytes, hml0, s₁, s.vm, [], 0, X0, e0, hZ, findClass_of_methodNamed Bd.named, (State.WarmedH.refl s).since 0, Nat.zero_le _, C0, O, Fr.nil _, hS0, Steps.refl _⟩
theorem Wk.go (X : Wk p l e R s m args below meth c Z EL own B mx s₁ g0 g h cells slots sf)
    (f : p.tables.exec = Jvm.exec → c.code = B → ∀ T, At T m c below → ∀ t, Steps p.tables e below (T.setTop g') t → Steps p.tables e below (T.setTop g) t) :
    Wk p l e R s m args below meth c Z EL own B mx s₁ g0 g' h cells slots sf := by
  obtain ⟨hx, hB, hm, T, vm, locs, k, X, r1, r2, r3, r4, r5, r6, r7, r8, r9, st⟩ := X
  exact ⟨hx, hB, hm, T, vm, locs, k, X, r1, r2, r3, r4, r5, r6, r7, r8, r9, st.trans (f hx hB T X.here _ (Steps.refl _))⟩
theorem Wk.cast (X : Wk p l e R s m args below meth c Z EL own B mx s₁ g0 g h cells slots sf) (hg : g = g') : Wk p l e R s m args below meth c Z EL own B mx s₁ g0 g' h cells slots sf := hg ▸ X
theorem Wk.more {cells' slots' : Nat} (X : Wk p l e R s m args below meth c Z EL own B mx s₁ g0 g h cells slots sf) (hc : cells ≤ cells') (hs : slots ≤ slots') : Wk p l e R s m args below meth c Z EL own B mx s₁ g0 g h cells' slots' sf := by
  obtain ⟨hx, hB, hm, T, vm, locs, k, X, r⟩ := X
  exact ⟨hx, hB, hm, T, vm, locs, k, X.more hc hs, r⟩
theorem Wk.drop {sf' : List Addr} (X : Wk p l e R s m args below meth c Z EL own B mx s₁ g0 g h cells slots sf) (hs : ∀ x ∈ sf', x ∈ sf) : Wk p l e R s m args below meth c Z EL own B mx s₁ g0 g h cells slots sf' := by
  obtain ⟨hx, hB, hm, T, vm, locs, k, X, r1, r2, r3, r4, r5, r6, r7, r8, r9, st⟩ := X
  exact ⟨hx, hB, hm, T, vm, locs, k, X, r1, r2, r3, r4, r5, r6, r7, r8, fun x q => r9 x (hs x q), st⟩
theorem Wk.old (X : Wk p l e R s m args below meth c Z EL own B mx s₁ g0 g h cells slots sf) : Ext Z.heap h := by
  obtain ⟨hx, hB, hm, T, vm, locs, k, X, r1, r2, r3, r4, r5, r6, r7, r8, r9, st⟩ := X
  exact r7
theorem cat_of_ref {v : Value} (h : v.isRef = true) : v.category = 1 := by cases v <;> first | rfl | cases h
/-! plain steps -/
theorem Wk.aload_n (X : Wk p l e R s m args below meth c Z EL own B mx s₁ g0 (mkF m pc Ls st) h cells slots sf) {k : Fin 4} (d : decode B pc = .ok (.aload_n k, 1)) (hl : Ls[k.val]? = some (.val v)) (hv : v.isRef = true) (hq : pc + 1 = q) : Wk p l e R s m args below meth c Z EL own B mx s₁ g0 (mkF m q Ls (v :: st)) h cells slots sf := by
  subst hq; exact X.go fun hx hB T A t r => XS.aloadN A hx rfl (hb hB d) hl hv r
theorem Wk.aload (X : Wk p l e R s m args below meth c Z EL own B mx s₁ g0 (mkF m pc Ls st) h cells slots sf) {k : Nat} (d : decode B pc = .ok (.aload k, 2)) (hl : Ls[k]? = some (.val v)) (hv : v.isRef = true) (hq : pc + 2 = q) : Wk p l e R s m args below meth c Z EL own B mx s₁ g0 (mkF m q Ls (v :: st)) h cells slots sf := by
  subst hq; exact X.go fun hx hB T A t r => XS.aload A hx rfl (hb hB d) hl hv r
theorem Wk.iload_n (X : Wk p l e R s m args below meth c Z EL own B mx s₁ g0 (mkF m pc Ls st) h cells slots sf) {k : Fin 4} (d : decode B pc = .ok (.iload_n k, 1)) (hl : Ls[k.val]? = some (.val (.int x))) (hq : pc + 1 = q) : Wk p l e R s m args below meth c Z EL own B mx s₁ g0 (mkF m q Ls (.int x :: st)) h cells slots sf := by
  subst hq; exact X.go fun hx hB T A t r => XS.iloadN A hx rfl (hb hB d) hl r
theorem Wk.iload (X : Wk p l e R s m args below meth c Z EL own B mx s₁ g0 (mkF m pc Ls st) h cells slots sf) {k : Nat} (d : decode B pc = .ok (.iload k, 2)) (hl : Ls[k]? = some (.val (.int x))) (hq : pc + 2 = q) : Wk p l e R s m args below meth c Z EL own B mx s₁ g0 (mkF m q Ls (.int x :: st)) h cells slots sf := by
  subst hq; exact X.go fun hx hB T A t r => XS.iload A hx rfl (hb hB d) hl r
theorem Wk.iconst (X : Wk p l e R s m args below meth c Z EL own B mx s₁ g0 (mkF m pc Ls st) h cells slots sf) {i : Int} (d : decode B pc = .ok (.iconst i, 1)) (hz : Int32.ofInt i = z) (hq : pc + 1 = q) : Wk p l e R s m args below meth c Z EL own B mx s₁ g0 (mkF m q Ls (.int z :: st)) h cells slots sf := by
  subst hq hz; exact X.go fun hx hB T A t r => XS.iconst A hx rfl (hb hB d) r
theorem Wk.bipush (X : Wk p l e R s m args below meth c Z EL own B mx s₁ g0 (mkF m pc Ls st) h cells slots sf) {i : Int} (d : decode B pc = .ok (.bipush i, 2)) (hz : (Int8.ofInt i).toInt32 = z) (hq : pc + 2 = q) : Wk p l e R s m args below meth c Z EL own B mx s₁ g0 (mkF m q Ls (.int z :: st)) h cells slots sf := by
  subst hq hz; exact X.go fun hx hB T A t r => XS.bipush A hx rfl (hb hB d) r
theorem Wk.sipush (X : Wk p l e R s m args below meth c Z EL own B mx s₁ g0 (mkF m pc Ls st) h cells slots sf) {i : Int} (d : decode B pc = .ok (.sipush i, 3)) (hz : (Int16.ofInt i).toInt32 = z) (hq : pc + 3 = q) : Wk p l e R s m args below meth c Z EL own B mx s₁ g0 (mkF m q Ls (.int z :: st)) h cells slots sf := by
  subst hq hz; exact X.go fun hx hB T A t r => XS.sipush A hx rfl (hb hB d) r
theorem Wk.aconst_null (X : Wk p l e R s m args below meth c Z EL own B mx s₁ g0 (mkF m pc Ls st) h cells slots sf) (d : decode B pc = .ok (.aconst_null, 1)) (hq : pc + 1 = q) : Wk p l e R s m args below meth c Z EL own B mx s₁ g0 (mkF m q Ls (.null :: st)) h cells slots sf := by
  subst hq; exact X.go fun hx hB T A t r => XS.aconstNull A hx rfl (hb hB d) r
theorem Wk.iadd (X : Wk p l e R s m args below meth c Z EL own B mx s₁ g0 (mkF m pc Ls (.int y :: .int x :: st)) h cells slots sf) (d : decode B pc = .ok (.iadd, 1)) (hz : x + y = z) (hq : pc + 1 = q) : Wk p l e R s m args below meth c Z EL own B mx s₁ g0 (mkF m q Ls (.int z :: st)) h cells slots sf := by
  subst hq hz; exact X.go fun hx hB T A t r => XS.iadd A hx rfl (hb hB d) rfl r
theorem Wk.isub (X : Wk p l e R s m args below meth c Z EL own B mx s₁ g0 (mkF m pc Ls (.int y :: .int x :: st)) h cells slots sf) (d : decode B pc = .ok (.isub, 1)) (hz : x - y = z) (hq : pc + 1 = q) : Wk p l e R s m args below meth c Z EL own B mx s₁ g0 (mkF m q Ls (.int z :: st)) h cells slots sf := by
  subst hq hz; exact X.go fun hx hB T A t r => XS.isub A hx rfl (hb hB d) rfl r
theorem Wk.iand (X : Wk p l e R s m args below meth c Z EL own B mx s₁ g0 (mkF m pc Ls (.int y :: .int x :: st)) h cells slots sf) (d : decode B pc = .ok (.iand, 1)) (hz : x &&& y = z) (hq : pc + 1 = q) : Wk p l e R s m args below meth c Z EL own B mx s₁ g0 (mkF m q Ls (.int z :: st)) h cells slots sf := by
  subst hq hz; exact X.go fun hx hB T A t r => XS.iand A hx rfl (hb hB d) rfl r
theorem Wk.iushr (X : Wk p l e R s m args below meth c Z EL own B mx s₁ g0 (mkF m pc Ls (.int y :: .int x :: st)) h cells slots sf) (d : decode B pc = .ok (.iushr, 1)) (hz : XT.ushr x y = z) (hq : pc + 1 = q) : Wk p l e R s m args below meth c Z EL own B mx s₁ g0 (mkF m q Ls (.int z :: st)) h cells slots sf := by
  subst hq hz; exact X.go fun hx hB T A t r => XT.iushr A hx rfl (hb hB d) rfl r
theorem Wk.irem (X : Wk p l e R s m args below meth c Z EL own B mx s₁ g0 (mkF m pc Ls (.int y :: .int x :: st)) h cells slots sf) (d : decode B pc = .ok (.irem, 1)) (hy : y ≠ 0) (hz : x % y = z) (hq : pc + 1 = q) : Wk p l e R s m args below meth c Z EL own B mx s₁ g0 (mkF m q Ls (.int z :: st)) h cells slots sf := by
  subst hq hz
  have q0 : x - x / y * y = x % y := irem_eq_mod x y
  exact X.go fun hx hB T A t r => XS.irem A hx rfl (hb hB d) rfl hy (by rw [q0]; exact r)
theorem Wk.i2c (X : Wk p l e R s m args below meth c Z EL own B mx s₁ g0 (mkF m pc Ls (.int x :: st)) h cells slots sf) (d : decode B pc = .ok (.i2c, 1)) (hz : x.toUInt32.toUInt16.toUInt32.toInt32 = z) (hq : pc + 1 = q) : Wk p l e R s m args below meth c Z EL own B mx s₁ g0 (mkF m q Ls (.int z :: st)) h cells slots sf := by
  subst hq hz; exact X.go fun hx hB T A t r => XT.i2c A hx rfl (hb hB d) rfl r
theorem Wk.i2b (X : Wk p l e R s m args below meth c Z EL own B mx s₁ g0 (mkF m pc Ls (.int x :: st)) h cells slots sf) (d : decode B pc = .ok (.i2b, 1)) (hz : x.toInt8.toInt32 = z) (hq : pc + 1 = q) : Wk p l e R s m args below meth c Z EL own B mx s₁ g0 (mkF m q Ls (.int z :: st)) h cells slots sf := by
  subst hq hz; exact X.go fun hx hB T A t r => XT.i2b A hx rfl (hb hB d) rfl r
theorem Wk.dup (X : Wk p l e R s m args below meth c Z EL own B mx s₁ g0 (mkF m pc Ls (v :: st)) h cells slots sf) (d : decode B pc = .ok (.dup, 1)) (hc : v.category = 1) (hq : pc + 1 = q) : Wk p l e R s m args below meth c Z EL own B mx s₁ g0 (mkF m q Ls (v :: v :: st)) h cells slots sf := by
  subst hq; exact X.go fun hx hB T A t r => XS.dup A hx rfl (hb hB d) rfl hc r
theorem Wk.pop (X : Wk p l e R s m args below meth c Z EL own B mx s₁ g0 (mkF m pc Ls (v :: st)) h cells slots sf) (d : decode B pc = .ok (.pop, 1)) (hc : v.category = 1) (hq : pc + 1 = q) : Wk p l e R s m args below meth c Z EL own B mx s₁ g0 (mkF m q Ls st) h cells slots sf := by
  subst hq; exact X.go fun hx hB T A t r => XT.pop A hx rfl (hb hB d) rfl hc r
theorem Wk.istore_n (X : Wk p l e R s m args below meth c Z EL own B mx s₁ g0 (mkF m pc Ls (.int x :: st)) h cells slots sf) {k : Fin 4} (d : decode B pc = .ok (.istore_n k, 1)) (hl : storeLocals Ls k.val (.int x) = some Ls') (hq : pc + 1 = q) : Wk p l e R s m args below meth c Z EL own B mx s₁ g0 (mkF m q Ls' st) h cells slots sf := by
  subst hq; exact X.go fun hx hB T A t r => XS.istoreN A hx rfl (hb hB d) rfl hl r
theorem Wk.istore (X : Wk p l e R s m args below meth c Z EL own B mx s₁ g0 (mkF m pc Ls (.int x :: st)) h cells slots sf) {k : Nat} (d : decode B pc = .ok (.istore k, 2)) (hl : storeLocals Ls k (.int x) = some Ls') (hq : pc + 2 = q) : Wk p l e R s m args below meth c Z EL own B mx s₁ g0 (mkF m q Ls' st) h cells slots sf := by
  subst hq; exact X.go fun hx hB T A t r => XS.istore A hx rfl (hb hB d) rfl hl r
theorem Wk.astore_n (X : Wk p l e R s m args below meth c Z EL own B mx s₁ g0 (mkF m pc Ls (v :: st)) h cells slots sf) {k : Fin 4} (d : decode B pc = .ok (.astore_n k, 1)) (hv : v.isRef = true) (hl : storeLocals Ls k.val v = some Ls') (hq : pc + 1 = q) : Wk p l e R s m args below meth c Z EL own B mx s₁ g0 (mkF m q Ls' st) h cells slots sf := by
  subst hq; exact X.go fun hx hB T A t r => XS.astoreN A hx rfl (hb hB d) rfl hv hl r
theorem Wk.astore (X : Wk p l e R s m args below meth c Z EL own B mx s₁ g0 (mkF m pc Ls (v :: st)) h cells slots sf) {k : Nat} (d : decode B pc = .ok (.astore k, 2)) (hv : v.isRef = true) (hl : storeLocals Ls k v = some Ls') (hq : pc + 2 = q) : Wk p l e R s m args below meth c Z EL own B mx s₁ g0 (mkF m q Ls' st) h cells slots sf := by
  subst hq; exact X.go fun hx hB T A t r => XS.astore A hx rfl (hb hB d) rfl hv hl r
theorem Wk.iinc (X : Wk p l e R s m args below meth c Z EL own B mx s₁ g0 (mkF m pc Ls st) h cells slots sf) {k : Nat} {cst : Int} (d : decode B pc = .ok (.iinc k cst, 3)) (hl : Ls[k]? = some (.val (.int x))) (hz : x + Int32.ofInt cst = z) (hl' : storeLocals Ls k (.int z) = some Ls') (hq : pc + 3 = q) : Wk p l e R s m args below meth c Z EL own B mx s₁ g0 (mkF m q Ls' st) h cells slots sf := by
  subst hq hz; exact X.go fun hx hB T A t r => XS.iinc A hx rfl (hb hB d) hl hl' r
theorem Wk.goto (X : Wk p l e R s m args below meth c Z EL own B mx s₁ g0 (mkF m pc Ls st) h cells slots sf) {o : Int} (d : decode B pc = .ok (.goto o, 3)) (ho : 0 ≤ (pc : Int) + o) (hq : ((pc : Int) + o).toNat = q) : Wk p l e R s m args below meth c Z EL own B mx s₁ g0 (mkF m q Ls st) h cells slots sf :=
  X.go fun hx hB T A t r => XS.goto A hx rfl rfl (hb hB d) ho hq r
theorem Wk.ifYes (X : Wk p l e R s m args below meth c Z EL own B mx s₁ g0 (mkF m pc Ls (.int x :: st)) h cells slots sf) {cd : ClassFile.Cond} {o : Int} (d : decode B pc = .ok (.ifCond cd o, 3)) (hc : if_icmp.holds cd x 0 = true) (ho : 0 ≤ (pc : Int) + o) (hq : ((pc : Int) + o).toNat = q) : Wk p l e R s m args below meth c Z EL own B mx s₁ g0 (mkF m q Ls st) h cells slots sf :=
  X.go fun hx hB T A t r => XS.ifYes A hx rfl rfl (hb hB d) rfl ((if0 _ _).trans hc) ho hq r
theorem Wk.ifNo (X : Wk p l e R s m args below meth c Z EL own B mx s₁ g0 (mkF m pc Ls (.int x :: st)) h cells slots sf) {cd : ClassFile.Cond} {o : Int} (d : decode B pc = .ok (.ifCond cd o, 3)) (hc : if_icmp.holds cd x 0 = false) (hq : pc + 3 = q) : Wk p l e R s m args below meth c Z EL own B mx s₁ g0 (mkF m q Ls st) h cells slots sf := by
  subst hq; exact X.go fun hx hB T A t r => XS.ifNo A hx rfl (hb hB d) rfl ((if0 _ _).trans hc) r
theorem Wk.icmpYes (X : Wk p l e R s m args below meth c Z EL own B mx s₁ g0 (mkF m pc Ls (.int y :: .int x :: st)) h cells slots sf) {cd : ClassFile.Cond} {o : Int} (d : decode B pc = .ok (.if_icmp cd o, 3)) (hc : if_icmp.holds cd x y = true) (ho : 0 ≤ (pc : Int) + o) (hq : ((pc : Int) + o).toNat = q) : Wk p l e R s m args below meth c Z EL own B mx s₁ g0 (mkF m q Ls st) h cells slots sf :=
  X.go fun hx hB T A t r => XS.icmpYes A hx rfl rfl (hb hB d) rfl hc ho hq r
theorem Wk.icmpNo (X : Wk p l e R s m args below meth c Z EL own B mx s₁ g0 (mkF m pc Ls (.int y :: .int x :: st)) h cells slots sf) {cd : ClassFile.Cond} {o : Int} (d : decode B pc = .ok (.if_icmp cd o, 3)) (hc : if_icmp.holds cd x y = false) (hq : pc + 3 = q) : Wk p l e R s m args below meth c Z EL own B mx s₁ g0 (mkF m q Ls st) h cells slots sf := by
  subst hq; exact X.go fun hx hB T A t r => XS.icmpNo A hx rfl (hb hB d) rfl hc r
theorem Wk.ifnullYes (X : Wk p l e R s m args below meth c Z EL own B mx s₁ g0 (mkF m pc Ls (.null :: st)) h cells slots sf) {o : Int} (d : decode B pc = .ok (.ifnull o, 3)) (ho : 0 ≤ (pc : Int) + o) (hq : ((pc : Int) + o).toNat = q) : Wk p l e R s m args below meth c Z EL own B mx s₁ g0 (mkF m q Ls st) h cells slots sf :=
  X.go fun hx hB T A t r => XS.ifnullYes A hx rfl rfl (hb hB d) rfl ho hq r
theorem Wk.ifnullNo (X : Wk p l e R s m args below meth c Z EL own B mx s₁ g0 (mkF m pc Ls (.ref a :: st)) h cells slots sf) {o : Int} (d : decode B pc = .ok (.ifnull o, 3)) (hq : pc + 3 = q) : Wk p l e R s m args below meth c Z EL own B mx s₁ g0 (mkF m q Ls st) h cells slots sf := by
  subst hq; exact X.go fun hx hB T A t r => XS.ifnullNo A hx rfl (hb hB d) rfl r
theorem Wk.ifnonnullYes (X : Wk p l e R s m args below meth c Z EL own B mx s₁ g0 (mkF m pc Ls (.ref a :: st)) h cells slots sf) {o : Int} (d : decode B pc = .ok (.ifnonnull o, 3)) (ho : 0 ≤ (pc : Int) + o) (hq : ((pc : Int) + o).toNat = q) : Wk p l e R s m args below meth c Z EL own B mx s₁ g0 (mkF m q Ls st) h cells slots sf :=
  X.go fun hx hB T A t r => XT.ifnonnullYes A hx rfl rfl (hb hB d) rfl ho hq r
theorem Wk.ifnonnullNo (X : Wk p l e R s m args below meth c Z EL own B mx s₁ g0 (mkF m pc Ls (.null :: st)) h cells slots sf) {o : Int} (d : decode B pc = .ok (.ifnonnull o, 3)) (hq : pc + 3 = q) : Wk p l e R s m args below meth c Z EL own B mx s₁ g0 (mkF m q Ls st) h cells slots sf := by
  subst hq; exact X.go fun hx hB T A t r => XT.ifnonnullNo A hx rfl (hb hB d) rfl r
theorem Wk.acmpYes (X : Wk p l e R s m args below meth c Z EL own B mx s₁ g0 (mkF m pc Ls (w :: v :: st)) h cells slots sf) {cd : ClassFile.ACond} {o : Int} (d : decode B pc = .ok (.if_acmp cd o, 3)) (hv : v.isRef = true) (hw : w.isRef = true) (hc : XT.acmp cd v w = true) (ho : 0 ≤ (pc : Int) + o) (hq : ((pc : Int) + o).toNat = q) : Wk p l e R s m args below meth c Z EL own B mx s₁ g0 (mkF m q Ls st) h cells slots sf :=
  X.go fun hx hB T A t r => XT.acmpYes A hx rfl rfl (hb hB d) rfl hv hw hc ho hq r
theorem Wk.acmpNo (X : Wk p l e R s m args below meth c Z EL own B mx s₁ g0 (mkF m pc Ls (w :: v :: st)) h cells slots sf) {cd : ClassFile.ACond} {o : Int} (d : decode B pc = .ok (.if_acmp cd o, 3)) (hv : v.isRef = true) (hw : w.isRef = true) (hc : XT.acmp cd v w = false) (hq : pc + 3 = q) : Wk p l e R s m args below meth c Z EL own B mx s₁ g0 (mkF m q Ls st) h cells slots sf := by
  subst hq; exact X.go fun hx hB T A t r => XT.acmpNo A hx rfl (hb hB d) rfl hv hw hc r
/-! the end of a walk -/
theorem Wk.leave {Q : Option Value → Heap → Prop} (X : Wk p l e R s m args below meth c Z EL own B mx s₁ g0 g h cells slots sf) (hEL : EW Z a0 EL) {v : Option Value} (hv : meth.sig.returnType = none → v = none) (hlk : meth.locks = false) (hc : cells ≤ R.cells) (hs : slots ≤ R.slots) (hQ : Q v h)
    (fin : p.tables.exec = Jvm.exec → c.code = B → ∀ (vm : Vm) (T : State) (locs : List Loc), Stand p l e R (s.setVm vm) m args below meth c T locs R.cells R.slots → ∀ fs, (∀ (f : JFrame) (acts : List Action), f.method = m → f.locked = none → f.entered = [] → (doReturn e (T.setTop f) acts v).1 = T.setFrames fs) → Steps p.tables e below (T.setTop g) (T.setFrames fs)) :
    Dn p e below s s₁ g0 Z EL R Q := by
  obtain ⟨hx, hB, hm, T, vm, locs, k, X, eT, hZ, ho, hS, hk, hC, hO, hF, hsf, st⟩ := X
  have X' := X.more hc hs
  obtain ⟨fs, hr, hrun, hended, hE⟩ := X'.leaveW hS (by rw [eT]; exact hk) hv hlk
  refine ⟨_, _, st.trans (fin hx hB vm T locs X' fs hr), hrun, hended, v, locs, rfl, ⟨?_, hF, ?_⟩, ?_, hE⟩
  · show Q v T.heap
    rw [eT]; exact hQ
  · show Ext Z.heap T.heap
    rw [eT]; exact hO
  · show CHr Z EL s.vm s.heap T.vm T.heap
    rw [eT]; exact hC.trans (CHv.at X hZ hEL hC.1)
theorem Wk.ret {Q : Option Value → Heap → Prop} (X : Wk p l e R s m args below meth c Z EL own B mx s₁ g0 (mkF m pc Ls []) h cells slots sf) (hEL : EW Z a0 EL) (hr : meth.sig.returnType = none) (hlk : meth.locks = false) (d : decode B pc = .ok (.return_, 1)) (hc : cells ≤ R.cells) (hs : slots ≤ R.slots) (hQ : Q none h) : Dn p e below s s₁ g0 Z EL R Q :=
  X.leave hEL (fun _ => rfl) hlk hc hs hQ fun hx hB vm T locs X fs hl => X.returnOut hx hr (hb hB d) hl
theorem retOut' {T : State} {locs : List Loc} (X : Stand p l e R s m args below meth c T locs cells slots) (hx : p.tables.exec = Jvm.exec) {t : FieldType} {i : Instr} (hret : meth.sig.returnType = some t) (hn : narrow t w = w)
    (hi : (i = .ireturn ∧ (t = .int ∨ t = .boolean ∨ t = .byte ∨ t = .char ∨ t = .short) ∧ ∃ z, w = .int z) ∨ (i = .areturn ∧ t.isReference = true ∧ w.isRef = true))
    (hd : decode c.code pc = .ok (i, 1)) {fs : List Frame} (hl : ∀ (f : JFrame) (acts : List Action), f.method = m → f.locked = none → f.entered = [] → (doReturn e (T.setTop f) acts (some w)).1 = T.setFrames fs) :
    Steps p.tables e below (T.setTop (mkF m pc Ls (w :: rest))) (T.setFrames fs) :=
  retOut X hx hret hn (hi.imp id fun q => Or.inr (Or.inr (Or.inr q))) hd hl
theorem Wk.ireturn {Q : Option Value → Heap → Prop} {t : FieldType} (X : Wk p l e R s m args below meth c Z EL own B mx s₁ g0 (mkF m pc Ls (.int x :: rest)) h cells slots sf) (hEL : EW Z a0 EL) (hr : meth.sig.returnType = some t) (ht : t = .int ∨ t = .boolean ∨ t = .byte ∨ t = .char ∨ t = .short) (hn : narrow t (.int x) = .int x) (hlk : meth.locks = false) (d : decode B pc = .ok (.ireturn, 1)) (hc : cells ≤ R.cells) (hs : slots ≤ R.slots) (hQ : Q (some (.int x)) h) : Dn p e below s s₁ g0 Z EL R Q :=
  X.leave hEL (fun q => by rw [hr] at q; cases q) hlk hc hs hQ fun hx hB vm T locs X fs hl => retOut' X hx hr hn (Or.inl ⟨rfl, ht, x, rfl⟩) (hb hB d) hl
theorem Wk.areturn {Q : Option Value → Heap → Prop} {t : FieldType} (X : Wk p l e R s m args below meth c Z EL own B mx s₁ g0 (mkF m pc Ls (v :: rest)) h cells slots sf) (hEL : EW Z a0 EL) (hr : meth.sig.returnType = some t) (ht : t.isReference = true) (hv : v.isRef = true) (hn : narrow t v = v) (hlk : meth.locks = false) (d : decode B pc = .ok (.areturn, 1)) (hc : cells ≤ R.cells) (hs : slots ≤ R.slots) (hQ : Q (some v) h) : Dn p e below s s₁ g0 Z EL R Q :=
  X.leave hEL (fun q => by rw [hr] at q; cases q) hlk hc hs hQ fun hx hB vm T locs X fs hl => retOut' X hx hr hn (Or.inr ⟨rfl, ht, hv⟩) (hb hB d) hl
/-! steps that leave the heap -/
theorem Wk.goS (X : Wk p l e R s m args below meth c Z EL own B mx s₁ g0 g h cells slots sf)
    (f : p.tables.exec = Jvm.exec → c.code = B → c.maxLocals = mx → ∀ (vm : Vm) (T : State) (locs : List Loc), Z.Warmed39 (s.setVm vm).vm → (s.setVm vm).vm.findClass own = some m.cls → T.heap = h → Stand p l e R (s.setVm vm) m args below meth c T locs cells slots →
      ∃ T', Stand p l e R (s.setVm vm) m args below meth c T' locs cells slots ∧ T'.heap = h ∧ ∀ t, Steps p.tables e below (T'.setTop g') t → Steps p.tables e below (T.setTop g) t) :
    Wk p l e R s m args below meth c Z EL own B mx s₁ g0 g' h cells slots sf := by
  obtain ⟨hx, hB, hm, T, vm, locs, k, X, eT, hZ, ho, hS, hk, hC, hO, hF, hsf, st⟩ := X
  obtain ⟨T', X', e', st'⟩ := f hx hB hm vm T locs hZ ho eT X
  exact ⟨hx, hB, hm, T', vm, locs, k, X', e', hZ, ho, hS, hk, hC, hO, hF, hsf, st.trans (st' _ (Steps.refl _))⟩
theorem Wk.getfield (X : Wk p l e R s m args below meth c Z EL own B mx s₁ g0 (mkF m pc Ls (.ref a :: st)) h cells slots sf) {O n d : String} {index : Nat} (wl : (Jvm.Cond.fieldLink own index O n d).before a0 Z = true) (F : Fld Z h a O n d v) (dc : decode B pc = .ok (.getfield index, 3)) (hq : pc + 3 = q) : Wk p l e R s m args below meth c Z EL own B mx s₁ g0 (mkF m q Ls (v :: st)) h cells slots sf := by
  subst hq; exact X.goS fun hx hB hm vm T locs hZ ho eT X => getF X hx hZ ho (host := "") (Or.inl wl) Via.refl eT F (g := mkF m pc Ls (.ref a :: st)) rfl rfl (hb hB dc)
theorem Wk.getstatic (X : Wk p l e R s m args below meth c Z EL own B mx s₁ g0 (mkF m pc Ls st) h cells slots sf) {O n d : String} {index : Nat} (wl : (Jvm.Cond.fieldLink own index O n d).before a0 Z = true) (F : Sta Z Z.heap O n d v) (dc : decode B pc = .ok (.getstatic index, 3)) (hq : pc + 3 = q) : Wk p l e R s m args below meth c Z EL own B mx s₁ g0 (mkF m q Ls (v :: st)) h cells slots sf := by
  subst hq
  have O := X.old
  exact X.goS fun hx hB hm vm T locs hZ ho eT X => getS (host := "") X hx hZ ho wl Via.refl eT (F.ext O) (g := mkF m pc Ls st) rfl (hb hB dc)
theorem Wk.initObj (X : Wk p l e R s m args below meth c Z EL own B mx s₁ g0 (mkF m pc Ls (.ref a :: st)) h cells slots sf) {index : Nat} (w1 : (Jvm.Cond.methodLink own index Lib.objectInit).before a0 Z = true) (w2 : (Jvm.Cond.instanceMethod Lib.objectInit).before a0 Z = true) (w3 : (Jvm.Cond.code Lib.objectInit ⟨#[0xb1]⟩ 1 none).before a0 Z = true)
    (hLs : Ls.size = mx) (dc : decode B pc = .ok (.invokespecial index, 3)) (hf : 1 ≤ R.frames) (hl : (st.map fun v => v.category).sum + 12 ≤ R.locals) (hq : pc + 3 = q) : Wk p l e R s m args below meth c Z EL own B mx s₁ g0 (mkF m q Ls st) h cells slots sf := by
  subst hq
  exact X.goS fun hx hB hm vm T locs hZ ho eT X => initO X hx hZ ho w1 w2 w3 eT (g := mkF m pc Ls (.ref a :: st)) rfl (by rw [hm]; exact hLs) rfl (hb hB dc) hf (W := (st.map fun v => v.category).sum) (by show 2 * 0 + _ ≤ _; omega) hl
theorem Wk.ldcI (X : Wk p l e R s m args below meth c Z EL own B mx s₁ g0 (mkF m pc Ls st) h cells slots sf) {index : Nat} (wl : (Jvm.Cond.constant own index z).before a0 Z = true) (dc : decode B pc = .ok (.ldc index, 2)) (hq : pc + 2 = q) : Wk p l e R s m args below meth c Z EL own B mx s₁ g0 (mkF m q Ls (.int z :: st)) h cells slots sf := by
  subst hq
  exact X.goS fun hx hB hm vm T locs hZ ho eT X => ⟨T, X, eT, X.ldcInt hx ho (mvT hZ wl) (g := mkF m pc Ls st) rfl (hb hB dc)⟩
theorem Wk.arraylength (X : Wk p l e R s m args below meth c Z EL own B mx s₁ g0 (mkF m pc Ls (.ref a :: st)) h cells slots sf) {k : ClassId} {ty : FieldType} {vs : List Value} {dv : Value} (A : Arv Z h a k ty z vs dv) (dc : decode B pc = .ok (.arraylength, 1)) (hq : pc + 1 = q) : Wk p l e R s m args below meth c Z EL own B mx s₁ g0 (mkF m q Ls (.int z :: st)) h cells slots sf := by
  subst hq
  obtain ⟨cc, A1, q1, S1, M1, H1, U1⟩ := A
  exact X.goS fun hx hB hm vm T locs hZ ho eT X => ⟨T, X, eT, fun t r => X.arraylength hx (by rw [eT]; exact A1.1) (State.isArrayOf_alike (T := s.setVm vm) hZ.alike A1.2.1) (g := mkF m pc Ls (.ref a :: st)) rfl rfl (hb hB dc) _ (by rw [len_of S1 M1]; exact r)⟩
theorem Wk.caload (X : Wk p l e R s m args below meth c Z EL own B mx s₁ g0 (mkF m pc Ls (.int y :: .ref a :: st)) h cells slots sf) {k : ClassId} {vs : List Value} {dv : Value} (A : Arv Z h a k .char z vs dv) (hj : ¬ y < 0 ∧ y < z) (hv : vs.getD y.toNatClampNeg dv = v) (dc : decode B pc = .ok (.caload, 1)) (hq : pc + 1 = q) : Wk p l e R s m args below meth c Z EL own B mx s₁ g0 (mkF m q Ls (v :: st)) h cells slots sf := by
  subst hq
  obtain ⟨cc, A1, q1, S1, M1, H1, U1⟩ := A
  exact X.goS fun hx hB hm vm T locs hZ ho eT X => ⟨T, X, eT, X.caload hx (j := y) (v := v) (by rw [eT]; exact A1.1) (State.isArrayOf_alike (T := s.setVm vm) hZ.alike A1.2.1) A1.2.2 (inb_of S1 hj) (H1.at (inb_of S1 hj) hv) (g := mkF m pc Ls (.int y :: .ref a :: st)) rfl rfl (hb hB dc)⟩
theorem Wk.baload (X : Wk p l e R s m args below meth c Z EL own B mx s₁ g0 (mkF m pc Ls (.int y :: .ref a :: st)) h cells slots sf) {k : ClassId} {vs : List Value} {dv : Value} (A : Arv Z h a k .byte z vs dv) (hj : ¬ y < 0 ∧ y < z) (hv : vs.getD y.toNatClampNeg dv = v) (dc : decode B pc = .ok (.baload, 1)) (hq : pc + 1 = q) : Wk p l e R s m args below meth c Z EL own B mx s₁ g0 (mkF m q Ls (v :: st)) h cells slots sf := by
  subst hq
  obtain ⟨cc, A1, q1, S1, M1, H1, U1⟩ := A
  exact X.goS fun hx hB hm vm T locs hZ ho eT X => ⟨T, X, eT, X.baloadBytes hx (j := y) (v := v) (by rw [eT]; exact A1.1) (State.isArrayOf_alike (T := s.setVm vm) hZ.alike A1.2.1) A1.2.2 (inb_of S1 hj) (H1.at (inb_of S1 hj) hv) (g := mkF m pc Ls (.int y :: .ref a :: st)) rfl rfl (hb hB dc)⟩
theorem Wk.aaload (X : Wk p l e R s m args below meth c Z EL own B mx s₁ g0 (mkF m pc Ls (.int y :: .ref a :: st)) h cells slots sf) {k : ClassId} {ty : FieldType} {vs : List Value} {dv : Value} (A : Arv Z h a k ty z vs dv) (ht : ty.isReference = true) (hj : ¬ y < 0 ∧ y < z) (hv : vs.getD y.toNatClampNeg dv = v) (dc : decode B pc = .ok (.aaload, 1)) (hq : pc + 1 = q) : Wk p l e R s m args below meth c Z EL own B mx s₁ g0 (mkF m q Ls (v :: st)) h cells slots sf := by
  subst hq
  obtain ⟨cc, A1, q1, S1, M1, H1, U1⟩ := A
  exact X.goS fun hx hB hm vm T locs hZ ho eT X => ⟨T, X, eT, X.aaload hx (j := y) (v := v) (by rw [eT]; exact A1.1) (State.isArrayOf_alike (T := s.setVm vm) hZ.alike A1.2.1) ht A1.2.2 (inb_of S1 hj) (H1.at (inb_of S1 hj) hv) (g := mkF m pc Ls (.int y :: .ref a :: st)) rfl rfl (hb hB dc)⟩
theorem Wk.checkcast (X : Wk p l e R s m args below meth c Z EL own B mx s₁ g0 (mkF m pc Ls (.ref a :: st)) h cells slots sf) {K : String} {index : Nat} (wl : (Jvm.Cond.classLink own index K).before a0 Z = true) (F : Ins Z h a K true) (dc : decode B pc = .ok (.checkcast index, 3)) (hq : pc + 3 = q) : Wk p l e R s m args below meth c Z EL own B mx s₁ g0 (mkF m q Ls (.ref a :: st)) h cells slots sf := by
  subst hq; exact X.goS fun hx hB hm vm T locs hZ ho eT X => castY X hx hZ ho wl eT F (g := mkF m pc Ls (.ref a :: st)) rfl rfl (hb hB dc)
theorem Wk.instNull (X : Wk p l e R s m args below meth c Z EL own B mx s₁ g0 (mkF m pc Ls (.null :: st)) h cells slots sf) {index : Nat} (dc : decode B pc = .ok (.instanceof index, 3)) (hq : pc + 3 = q) : Wk p l e R s m args below meth c Z EL own B mx s₁ g0 (mkF m q Ls (.int 0 :: st)) h cells slots sf := by
  subst hq; exact X.goS fun hx hB hm vm T locs hZ ho eT X => ⟨T, X, eT, X.instanceofNull hx (g := mkF m pc Ls (.null :: st)) rfl rfl (hb hB dc)⟩
/-! steps that make or write cells -/
theorem Wk.clone (X : Wk p l e R s m args below meth c Z EL own B mx s₁ g0 (mkF m pc Ls (.ref a :: st)) h cells slots sf) {ad : String} {index : Nat} (w1 : (Jvm.Cond.methodLink own index ⟨ad, "clone", "()Ljava/lang/Object;"⟩).before a0 Z = true) (w2 : (Jvm.Cond.sameMethod ad "java/lang/Object" "clone" "()Ljava/lang/Object;").before a0 Z = true) (w3 : (Jvm.Cond.native ⟨"java/lang/Object", "clone", "()Ljava/lang/Object;"⟩).before a0 Z = true)
    (w4 : (Jvm.Cond.instanceMethod ⟨"java/lang/Object", "clone", "()Ljava/lang/Object;"⟩).before a0 Z = true) (w5 : (Jvm.Cond.selects ad ⟨ad, "clone", "()Ljava/lang/Object;"⟩ ⟨"java/lang/Object", "clone", "()Ljava/lang/Object;"⟩).before a0 Z = true) (w6 : (Jvm.Cond.castable ad "java/lang/Cloneable").before a0 Z = true)
    {k : ClassId} {ty : FieldType} {vs : List Value} {dv : Value} (A : Arv Z h a k ty z vs dv) (E : Exa Z h a ad) (hLs : Ls.size = mx) (dc : decode B pc = .ok (.invokevirtual index, 3)) {cap : Nat} (hcap : z.toNatClampNeg ≤ cap) (hf : 1 ≤ R.frames) (hl : (st.map fun v => v.category).sum + 14 ≤ R.locals) (hc : cells + 1 ≤ R.cells) (hs : slots + cap ≤ R.slots) (hq : pc + 3 = q) :
    ∃ (b : Addr) (h' : Heap), b = h.size ∧ Z.heap.size ≤ b ∧ Ext h h' ∧ Arv Z h' b k ty z vs dv ∧ Exa Z h' b ad ∧ Wk p l e R s m args below meth c Z EL own B mx s₁ g0 (mkF m q Ls (.ref b :: st)) h' (cells + 1) (slots + cap) (b :: sf) := by
  subst hq
  obtain ⟨hx, hB, hm, T, vm, locs, k', X, eT, hZ, ho, hS, hk, hC, hO, hF, hsf, st0⟩ := X
  obtain ⟨cc, A1, q1, S1, M1, H1, U1⟩ := A
  obtain ⟨T', h', X', e', Ex, A2, E2, st'⟩ := cloneA X hx (s := s.setVm vm) hZ ho w1 w2 w3 w4 w5 w6 eT A1 E (fitC_of A1 fun i hi v hv => by rw [H1 i hi] at hv; cases hv; exact U1 i hi) (g := mkF m pc Ls (.ref a :: st)) rfl (by rw [hm]; exact hLs) rfl (hb hB dc) hf (W := (st.map fun v => v.category).sum) (by show 2 * 0 + _ ≤ _; omega) hl (by rw [S1]; exact hcap) hc hs
  refine ⟨h.size, h', rfl, hO.1, Ex, ⟨_, A2, q1, S1, M1, H1, U1⟩, E2, hx, hB, hm, T', vm, locs, k', X', e', hZ, ho, hS, Nat.le_trans hk Ex.1, hC.trans (CHr.ext Ex hC.1), ⟨Nat.le_trans hO.1 Ex.1, fun x c q => Ex.2 x c (hO.2 x c q)⟩, hF, fun x hx => ?_, st0.trans (st' _ (Steps.refl _))⟩
  rcases List.mem_cons.mp hx with rfl | hx
  · exact ⟨A2.lt, Safe.ext Ex hC.1 (Safe.new (Nat.le_refl _))⟩
  · exact ⟨Nat.lt_of_lt_of_le (hsf x hx).1 Ex.1, Safe.ext Ex hC.1 (hsf x hx).2⟩
theorem Wk.new (X : Wk p l e R s m args below meth c Z EL own B mx s₁ g0 (mkF m pc Ls st) h cells slots sf) {C : String} {index n : Nat} (wl : (Jvm.Cond.classLink own index C).before a0 Z = true) (wi : (Jvm.Cond.instantiable C n).before a0 Z = true) (wz : (Jvm.Cond.initialized C).before a0 Z = true)
    (dc : decode B pc = .ok (.new index, 3)) (hq : pc + 3 = q) (hc : cells + 1 ≤ R.cells) (hs : slots + n ≤ R.slots) :
    ∃ (a : Addr) (h' : Heap), a = h.size ∧ Z.heap.size ≤ a ∧ Ext h h' ∧ Exa Z h' a C ∧ (∀ {O nm d : String} {ty : FieldType}, Laid Z a0 C O nm d → parseFieldDescriptor d = some ty → Fld Z h' a O nm d (defaultValue ty)) ∧
      Wk p l e R s m args below meth c Z EL own B mx s₁ g0 (mkF m q Ls (.ref a :: st)) h' (cells + 1) (slots + n) (a :: sf) := by
  subst hq
  obtain ⟨hx, hB, hm, T, vm, locs, k, X, eT, hZ, ho, hS, hk, hC, hO, hF, hsf, st0⟩ := X
  obtain ⟨T', h', X', e', E, A, D, -, st'⟩ := newO X hx (s := s.setVm vm) hZ ho wl wi wz eT (g := mkF m pc Ls st) rfl (hb hB dc) hc hs
  refine ⟨h.size, h', rfl, hO.1, E, A, D, hx, hB, hm, T', vm, locs, k, X', e', hZ, ho, hS, Nat.le_trans hk E.1, hC.trans (CHr.ext E hC.1), ⟨Nat.le_trans hO.1 E.1, fun x c q => E.2 x c (hO.2 x c q)⟩, hF, fun x hx => ?_, st0.trans (st' _ (Steps.refl _))⟩
  rcases List.mem_cons.mp hx with rfl | hx
  · exact ⟨A.lt, Safe.ext E hC.1 (Safe.new (Nat.le_refl _))⟩
  · exact ⟨Nat.lt_of_lt_of_le (hsf x hx).1 E.1, Safe.ext E hC.1 (hsf x hx).2⟩
theorem Wk.newarray (X : Wk p l e R s m args below meth c Z EL own B mx s₁ g0 (mkF m pc Ls (.int z :: st)) h cells slots sf) {aty : ArrayType} (wl : (Jvm.Cond.arrayClass (newarray.typeOf aty)).before a0 Z = true)
    (dc : decode B pc = .ok (.newarray aty, 2)) (hq : pc + 2 = q) (hz : ¬ z < 0) {cap : Nat} (hcap : z.toNatClampNeg ≤ cap) (hbig : cap * 8 ≤ 536870912) (hc : cells + 1 ≤ R.cells) (hs : slots + cap ≤ R.slots) (n : Nat) :
    ∃ (a : Addr) (h' : Heap) (k : ClassId), a = h.size ∧ Z.heap.size ≤ a ∧ Ext h h' ∧ Arv Z h' a k (newarray.typeOf aty) z (List.replicate n (defaultValue (newarray.typeOf aty))) (defaultValue (newarray.typeOf aty)) ∧
      Wk p l e R s m args below meth c Z EL own B mx s₁ g0 (mkF m q Ls (.ref a :: st)) h' (cells + 1) (slots + cap) (a :: sf) := by
  subst hq
  obtain ⟨hx, hB, hm, T, vm, locs, k, X, eT, hZ, ho, hS, hk, hC, hO, hF, hsf, st0⟩ := X
  obtain ⟨T', h', cA, X', e', E, A, st'⟩ := newP X hx (s := s.setVm vm) hZ wl eT (g := mkF m pc Ls (.int z :: st)) rfl (hb hB dc) rfl hz hcap hbig hc hs
  refine ⟨h.size, h', cA, rfl, hO.1, E, (Arv.new A hz).pad (pad_rep [] _ n), hx, hB, hm, T', vm, locs, k, X', e', hZ, ho, hS, Nat.le_trans hk E.1, hC.trans (CHr.ext E hC.1), ⟨Nat.le_trans hO.1 E.1, fun x c q => E.2 x c (hO.2 x c q)⟩, hF, fun x hx => ?_, st0.trans (st' _ (Steps.refl _))⟩
  rcases List.mem_cons.mp hx with rfl | hx
  · exact ⟨A.lt, Safe.ext E hC.1 (Safe.new (Nat.le_refl _))⟩
  · exact ⟨Nat.lt_of_lt_of_le (hsf x hx).1 E.1, Safe.ext E hC.1 (hsf x hx).2⟩
theorem Wk.castore (X : Wk p l e R s m args below meth c Z EL own B mx s₁ g0 (mkF m pc Ls (.int x :: .int y :: .ref a :: st)) h cells slots sf) {k : ClassId} {vs : List Value} {dv : Value} (A : Arv Z h a k .char z vs dv) (ha : Z.heap.size ≤ a) (hj : ¬ y < 0 ∧ y < z) {x' : Int32} (hx' : nar .char x = x') {i : Nat} (hi : y.toNatClampNeg = i) (hv : i < vs.length)
    (dc : decode B pc = .ok (.castore, 1)) (hq : pc + 1 = q) :
    ∃ h' : Heap, Keep h h' [a] ∧ h'.size = h.size ∧ Arv Z h' a k .char z (vs.set i (.int x')) dv ∧ Wk p l e R s m args below meth c Z EL own B mx s₁ g0 (mkF m q Ls st) h' cells slots sf := by
  subst hq hx'
  obtain ⟨hx, hB, hm, T, vm, locs, k', X, eT, hZ, ho, hS, hk, hC, hO, hF, hsf, st0⟩ := X
  obtain ⟨cc, A1, q1, S1, M1, H1, U1⟩ := id A
  obtain ⟨T', h', X', e', W, st'⟩ := stC X hx (s := s.setVm vm) hZ eT A1 (j := y) (inb_of S1 hj) (g := mkF m pc Ls (.int x :: .int y :: .ref a :: st)) rfl rfl (hb hB dc)
  have Sa : Safe Z EL vm h a := Safe.arr hZ.alike A1 (by simp)
  have K := Keep.of_wr W
  refine ⟨h', K, W.size, Arv.set A1 q1 S1 M1 H1 U1 (fits_nar_char _) W i hi hv, hx, hB, hm, T', vm, _, k', X', e', hZ, ho, hS, Nat.le_trans hk K.1, hC.trans (CHr.wr W Sa hC.1), (Old.wr (show Old Z Z.heap.size h from ⟨rfl, hO⟩) W ha).2, Fr.snoc X' hF ha, fun x hx => ?_, st0.trans (st' _ (Steps.refl _))⟩
  exact ⟨Nat.lt_of_lt_of_le (hsf x hx).1 K.1, Safe.wr W Sa hC.1 (hsf x hx).2⟩
theorem Wk.bastore (X : Wk p l e R s m args below meth c Z EL own B mx s₁ g0 (mkF m pc Ls (.int x :: .int y :: .ref a :: st)) h cells slots sf) {k : ClassId} {vs : List Value} {dv : Value} (A : Arv Z h a k .byte z vs dv) (ha : Z.heap.size ≤ a) (hsa : a ∈ sf) (hj : ¬ y < 0 ∧ y < z) {x' : Int32} (hx' : nar .byte x = x') (hfit : fits .byte (.int x') = true) {i : Nat} (hi : y.toNatClampNeg = i) (hv : i < vs.length)
    (dc : decode B pc = .ok (.bastore, 1)) (hq : pc + 1 = q) :
    ∃ h' : Heap, Keep h h' [a] ∧ h'.size = h.size ∧ Arv Z h' a k .byte z (vs.set i (.int x')) dv ∧ Wk p l e R s m args below meth c Z EL own B mx s₁ g0 (mkF m q Ls st) h' cells slots sf := by
  subst hq hx'
  obtain ⟨hx, hB, hm, T, vm, locs, k', X, eT, hZ, ho, hS, hk, hC, hO, hF, hsf, st0⟩ := X
  obtain ⟨cc, A1, q1, S1, M1, H1, U1⟩ := id A
  obtain ⟨T', h', X', e', W, st'⟩ := stB X hx (s := s.setVm vm) hZ eT A1 (j := y) (inb_of S1 hj) (g := mkF m pc Ls (.int x :: .int y :: .ref a :: st)) rfl rfl (hb hB dc)
  have Sa : Safe Z EL vm h a := (hsf a hsa).2
  have K := Keep.of_wr W
  refine ⟨h', K, W.size, Arv.set A1 q1 S1 M1 H1 U1 hfit W i hi hv, hx, hB, hm, T', vm, _, k', X', e', hZ, ho, hS, Nat.le_trans hk K.1, hC.trans (CHr.wr W Sa hC.1), (Old.wr (show Old Z Z.heap.size h from ⟨rfl, hO⟩) W ha).2, Fr.snoc X' hF ha, fun x hx => ?_, st0.trans (st' _ (Steps.refl _))⟩
  exact ⟨Nat.lt_of_lt_of_le (hsf x hx).1 K.1, Safe.wr W Sa hC.1 (hsf x hx).2⟩
theorem Wk.putfieldS (X : Wk p l e R s m args below meth c Z EL own B mx s₁ g0 (mkF m pc Ls (v :: .ref a :: st)) h cells slots sf) {O n d C : String} {index kk : Nat} {ty : FieldType} {old : Value} (wl : (Jvm.Cond.fieldLink own index O n d).before a0 Z = true) (F : Fld Z h a O n d old) (E : Exa Z h a C)
    (L : (Jvm.Cond.lays C O n d).before a0 Z = true ∨ ((Jvm.Cond.laysFinal C O n d).before a0 Z = true ∧ own = O ∧ meth.name = "<init>")) (wi : (Jvm.Cond.instantiable C kk).before a0 Z = true) (hty : parseFieldDescriptor d = some ty) (hn : narrow ty v = v) (hf : fits ty v = true) (ha : Z.heap.size ≤ a)
    (hC0 : ∀ vm : Vm, Z.vm.Alike vm → (∀ x ∈ sf, Safe Z EL vm h x) → Safe Z EL vm h a) (dc : decode B pc = .ok (.putfield index, 3)) (hq : pc + 3 = q) :
    ∃ h' : Heap, Wr h h' a (RoadKit.slotOf Z O n d) v ∧ Wk p l e R s m args below meth c Z EL own B mx s₁ g0 (mkF m q Ls st) h' cells slots sf := by
  subst hq
  obtain ⟨hx, hB, hm, T, vm, locs, k', X, eT, hZ, ho, hS, hk, hC, hO, hF, hsf, st0⟩ := X
  obtain ⟨T', h', X', e', W, st'⟩ := putF X hx (s := s.setVm vm) hZ ho (host := "") (Or.inl wl) Via.refl eT F E L wi hty hn hf (g := mkF m pc Ls (v :: .ref a :: st)) rfl rfl (hb hB dc)
  have Sa : Safe Z EL vm h a := hC0 vm hZ.alike fun x hx => (hsf x hx).2
  have K := Keep.of_wr W
  refine ⟨h', W, hx, hB, hm, T', vm, _, k', X', e', hZ, ho, hS, Nat.le_trans hk K.1, hC.trans (CHr.wr W Sa hC.1), (Old.wr (show Old Z Z.heap.size h from ⟨rfl, hO⟩) W ha).2, Fr.snoc X' hF ha, fun x hx => ?_, st0.trans (st' _ (Steps.refl _))⟩
  exact ⟨Nat.lt_of_lt_of_le (hsf x hx).1 K.1, Safe.wr W Sa hC.1 (hsf x hx).2⟩
/-- a field of an object that is no String and no byte[] -/
theorem Wk.putfield (X : Wk p l e R s m args below meth c Z EL own B mx s₁ g0 (mkF m pc Ls (v :: .ref a :: st)) h cells slots sf) {O n d C : String} {index kk : Nat} {ty : FieldType} {old : Value} (wl : (Jvm.Cond.fieldLink own index O n d).before a0 Z = true) (F : Fld Z h a O n d old) (E : Exa Z h a C)
    (L : (Jvm.Cond.lays C O n d).before a0 Z = true ∨ ((Jvm.Cond.laysFinal C O n d).before a0 Z = true ∧ own = O ∧ meth.name = "<init>")) (wi : (Jvm.Cond.instantiable C kk).before a0 Z = true) (hty : parseFieldDescriptor d = some ty) (hn : narrow ty v = v) (hf : fits ty v = true) (ha : Z.heap.size ≤ a)
    (h1 : C ≠ "java/lang/String") (h2 : C ≠ "[B") (dc : decode B pc = .ok (.putfield index, 3)) (hq : pc + 3 = q) :
    ∃ h' : Heap, Wr h h' a (RoadKit.slotOf Z O n d) v ∧ Wk p l e R s m args below meth c Z EL own B mx s₁ g0 (mkF m q Ls st) h' cells slots sf :=
  X.putfieldS wl F E L wi hty hn hf ha (fun vm al _ => Safe.exa al E h1 h2) dc hq
theorem Wk.arraycopy (X : Wk p l e R s m args below meth c Z EL own B mx s₁ g0 (mkF m pc Ls (.int z :: .int y :: .ref b :: .int x :: .ref a :: st)) h cells slots sf) {index : Nat} (w1 : (Jvm.Cond.methodLink own index Jvm.Stand.acN).before a0 Z = true) (w2 : (Jvm.Cond.native Jvm.Stand.acN).before a0 Z = true) (w3 : (Jvm.Cond.static Jvm.Stand.acN).before a0 Z = true) (w4 : (Jvm.Cond.initialized "java/lang/System").before a0 Z = true)
    {k k' : ClassId} {ty ty' : FieldType} {z1 z2 : Int32} {vs vd us : List Value} {d1 d2 : Value} (A : Arv Z h a k ty z1 vs d1) (A' : Arv Z h b k' ty' z2 vd d2) (hty : (ty = ty' ∧ refKind ty = false) ∨ (refKind ty = true ∧ refKind ty' = true ∧ StoL Z h b us))
    (h1 : ¬ x < 0) (h2 : ¬ y < 0) (h3 : ¬ z < 0) (h4 : x.toNatClampNeg + z.toNatClampNeg ≤ z1.toNatClampNeg) (h5 : y.toNatClampNeg + z.toNatClampNeg ≤ z2.toNatClampNeg) (hus : us = (List.range z.toNatClampNeg).map fun i => vs.getD (x.toNatClampNeg + i) d1) (hl : y.toNatClampNeg + z.toNatClampNeg ≤ vd.length)
    (hb0 : Z.heap.size ≤ b) (hsb : ∀ vm : Vm, Z.Warmed39 vm → (∀ x ∈ sf, Safe Z EL vm h x) → Safe Z EL vm h b) (hLs : Ls.size = mx) (dc : decode B pc = .ok (.invokestatic index, 3)) (hf : 1 ≤ R.frames) (hlo : (st.map fun v => v.category).sum + (nativeFrameWords "java/lang/System" "arraycopy" 5 + 11) ≤ R.locals) (hq : pc + 3 = q) :
    ∃ h' : Heap, Keep h h' [b] ∧ Arv Z h' b k' ty' z2 (vd.take y.toNatClampNeg ++ us ++ vd.drop (y.toNatClampNeg + z.toNatClampNeg)) d2 ∧ Wk p l e R s m args below meth c Z EL own B mx s₁ g0 (mkF m q Ls st) h' cells slots sf := by
  subst hq
  obtain ⟨hx, hB, hm, T, vm, locs, k0, X, eT, hZ, ho, hS, hk, hC, hO, hF, hsf, st0⟩ := X
  obtain ⟨T', h', L, X', e', hL, K, A2, st'⟩ := cpA X hx (s := s.setVm vm) hZ ho w1 w2 w3 w4 eT A A' hty h1 h2 h3 h4 h5 hus hl hF hb0 (g := mkF m pc Ls (.int z :: .int y :: .ref b :: .int x :: .ref a :: st)) rfl (by rw [hm]; exact hLs) rfl (hb hB dc) hf (W := (st.map fun v => v.category).sum) (by show 2 * 0 + _ ≤ _; omega) hlo
  have Sb : Safe Z EL vm h b := hsb vm hZ fun x hx => (hsf x hx).2
  have hs' : ∀ x ∈ [b], Safe Z EL vm h x := fun x q => by cases List.mem_singleton.mp q; exact Sb
  exact ⟨h', K, A2, hx, hB, hm, T', vm, L, k0, X', e', hZ, ho, hS, Nat.le_trans hk K.1, hC.trans (CHr.keep K hs' hC.1), (Old.keep (show Old Z Z.heap.size h from ⟨rfl, hO⟩) K (fun x q => by cases List.mem_singleton.mp q; exact hb0)).2, hL, fun x hx => ⟨Nat.lt_of_lt_of_le (hsf x hx).1 K.1, Safe.keep K hs' hC.1 (hsf x hx).2⟩, st0.trans (st' _ (Steps.refl _))⟩
/-! String constants -/
theorem Wk.ldcO (X : Wk p l e R s m args below meth c Z EL own B mx s₁ g0 (mkF m pc Ls st) h cells slots sf) {text : String} {index : Nat} (hEL : EW Z a0 EL) (wl : (Jvm.Cond.stringLink own index text).before a0 Z = true) (wS : ∀ a ∈ Bundle.stringAtoms, a.before a0 Z = true)
    (dc : decode B pc = .ok (.ldc index, 2)) {n : Nat} (hn : 4 * text.toList.length ≤ n) (hbig : n ≤ 536870912) (hc : cells + 2 ≤ R.cells) (hs : slots + (n + 4) ≤ R.slots) (hq : pc + 2 = q) :
    ∃ (a : Addr) (h' : Heap), Ext h h' ∧ Wk p l e R s m args below meth c Z EL own B mx s₁ g0 (mkF m q Ls (.ref a :: st)) h' (cells + 2) (slots + (n + 4)) sf := by
  subst hq
  obtain ⟨hx, hB, hm, T, vm, locs, k, X, eT, hZ, ho, hS, hk, hC, hO, hF, hsf, st0⟩ := X
  obtain ⟨a, T', h', k1, X', e', E, hS', hk', hZ', ho', hCr, -, st'⟩ := ldcOH X hx hZ ho wl wS eT hS hk hEL hC.1 (g := mkF m pc Ls st) rfl (hb hB dc) hn hbig hc hs
  exact ⟨a, h', E, hx, hB, hm, T', T'.vm, locs, k1, X', e', hZ', ho', hS', hk', hC.trans hCr, ⟨Nat.le_trans hO.1 E.1, fun x c q => E.2 x c (hO.2 x c q)⟩, hF, fun x hx => ⟨Nat.lt_of_lt_of_le (hsf x hx).1 E.1, hCr.safe (hsf x hx).1 (hsf x hx).2⟩, st0.trans (st' _ (Steps.refl _))⟩
theorem Wk.ldcR (X : Wk p l e R s m args below meth c Z EL own B mx s₁ g0 (mkF m pc Ls st) h cells slots sf) {text : String} {index : Nat} (hEL : EW Z a0 EL) (hmem : (own, index) ∈ EL) (wl : (Jvm.Cond.stringLink own index text).before a0 Z = true) (wS : ∀ a ∈ Bundle.stringAtoms, a.before a0 Z = true)
    {vs : List Value} {z : Int32} (ht : (∀ c ∈ text.toList, c.toNat < 256) ∧ text.toList.map (fun c => Value.int (Jvm.Lit.byteI c.toNat.toUInt16)) = vs) (hz : ¬ z < 0) (hl : z.toNatClampNeg = vs.length)
    (dc : decode B pc = .ok (.ldc index, 2)) {n : Nat} (hn : 4 * text.toList.length ≤ n) (hbig : n ≤ 536870912) (hc : cells + 2 ≤ R.cells) (hs : slots + (n + 4) ≤ R.slots) (hq : pc + 2 = q) :
    ∃ (a : Addr) (h' : Heap) (b : Addr) (k : ClassId), Ext h h' ∧ Exa Z h' a "java/lang/String" ∧ Fld Z h' a "java/lang/String" "coder" "B" (.int 0) ∧ Fld Z h' a "java/lang/String" "value" "[B" (.ref b) ∧ Arv Z h' b k .byte z vs (.int 0) ∧ (∀ x ∈ sf, x ≠ a ∧ x ≠ b) ∧
      Wk p l e R s m args below meth c Z EL own B mx s₁ g0 (mkF m q Ls (.ref a :: st)) h' (cells + 2) (slots + (n + 4)) sf := by
  subst hq
  obtain ⟨hx, hB, hm, T, vm, locs, k, X, eT, hZ, ho, hS, hk, hC, hO, hF, hsf, st0⟩ := X
  obtain ⟨a, T', h', k1, b, kb, X', e', E, hS', hk', hZ', ho', A1, A2, A3, A4, -, -, hCr, -, hne, st'⟩ := ldcCH X hx hZ ho wl wS eT hS hk hEL hmem hC.1 ht hz hl (g := mkF m pc Ls st) rfl (hb hB dc) hn hbig hc hs
  have sf' : ∀ x ∈ sf, x < h'.size ∧ Safe Z EL T'.vm h' x := fun x hx => ⟨Nat.lt_of_lt_of_le (hsf x hx).1 E.1, hCr.safe (hsf x hx).1 (hsf x hx).2⟩
  exact ⟨a, h', b, kb, E, A1, A2, A3, A4, fun x hx => hne x (sf' x hx).2, hx, hB, hm, T', T'.vm, locs, k1, X', e', hZ', ho', hS', hk', hC.trans hCr, ⟨Nat.le_trans hO.1 E.1, fun x c q => E.2 x c (hO.2 x c q)⟩, hF, sf', st0.trans (st' _ (Steps.refl _))⟩
/-! calls by a contract -/
/-- the library's backOfSH, for a callee that also asks that some cells are no booked literal's -/
theorem backSF {vm0 : Vm} {y : MethodName} {bytes : ByteArray} {maxL : Nat} {ret : Option FieldType} {rm : Room} {len W : Nat} {as' : Array Value} {sf0 : List Addr} {Q : Option Value → Heap → Prop} (hM : Ctr l Z EL y bytes maxL ret [] rm as' h sf0 Q)
    (hZ : Z.Warmed39 vm0) (wc : (Jvm.Cond.code y bytes maxL ret).before a0 Z = true) (wz : (Jvm.Cond.initialized y.cls).before a0 Z = true) (hf : rm.frames + 1 ≤ R.frames) (hl : W + (maxL + 11) + rm.locals ≤ R.locals) (hEL : EW Z a0 EL) (H : CHv Z EL vm0 h) (hs0 : ∀ x ∈ sf0, x < h.size ∧ Safe Z EL vm0 h x) :
    BackS l R p e below (s.setVm vm0) args y len W (fun A a => a = as' ∧ A.U.heap = h ∧ A.cells + rm.cells ≤ R.cells ∧ A.slots + rm.slots ≤ R.slots)
      (fun A _ v B => ∃ L, (Q v B.U.heap ∧ Fr Z.heap.size L ∧ Ext Z.heap B.U.heap) ∧ B.locs = A.locs ++ L ∧ B.cells = A.cells + rm.cells ∧ B.slots = A.slots + rm.slots ∧ CHr Z EL vm0 h B.U.vm B.U.heap) :=
  BackS.of_freeW (bytes := bytes) (maxL := maxL) (ret := ret) (E := fun _ first o t L k n => k = rm.cells ∧ n = rm.slots ∧ (∃ v, o = .returned v ∧ (Q v t.heap ∧ Fr Z.heap.size L ∧ Ext Z.heap t.heap)) ∧ CHr Z EL first.vm first.heap t.vm t.heap) hM hf hl
    (fun m meth c A a Y hp => have hU : Z.Warmed39 A.U.vm := wtrans (s := s.setVm vm0) hZ Y.warmed
      ⟨by show (Jvm.Cond.and _ .tt).before a A.U = true; rw [Cond.before_and, mv hU wc]; rfl, mv hU wc, mv hU wz, hp.2.2.1, hp.2.2.2⟩)
    (fun m meth c A a g mk Y hp => have C1 := CHv.at Y hZ hEL H
      ⟨hp.1, wtrans (s := s.setVm vm0) hZ Y.warmed, hp.2.1, C1.1, fun x q => ⟨(hs0 x q).1, C1.safe (hs0 x q).1 (hs0 x q).2⟩⟩) (fun _ _ _ _ _ _ _ _ _ => trivial)
    (fun _ _ _ _ ⟨v, L, h1, h2, h3, h4⟩ => ⟨L, _, _, h4, rfl, rfl, ⟨v, h1, h2⟩, h3⟩)
    (fun m meth c A a g mk v t L k n Y hp _ _ ⟨e1, e2, ⟨v', e3, e4⟩, e5⟩ => by
      cases e3; subst e1 e2
      refine ⟨L, e4, rfl, rfl, rfl, (CHv.at Y hZ hEL H).trans ?_⟩
      rw [← hp.2.1]; exact e5)
theorem Wk.behind {B1 : Pt} {vm : Vm} {k : Nat} {locs : List Loc} {rc rs : Nat} {Lc : List Loc} {Q : Option Value → Heap → Prop} {ov : Option Value} (hx : p.tables.exec = Jvm.exec) (hB : c.code = B) (hm : c.maxLocals = mx) (hS : s.Since vm k) (hk : k ≤ h.size) (hZ : Z.Warmed39 vm) (ho : vm.findClass own = some m.cls) (hC : CHr Z EL s.vm s.heap vm h) (hF : Fr Z.heap.size locs) (hsf : ∀ x ∈ sf, x < h.size ∧ Safe Z EL vm h x)
    (X' : Stand p l e R ((s.setVm vm).setVm B1.U.vm) m args below meth c B1.U B1.locs B1.cells B1.slots) (h2 : (s.setVm vm).Since B1.U.vm B1.U.heap.size) (hgr : h.size ≤ B1.U.heap.size) (hQ : Q ov B1.U.heap ∧ Fr Z.heap.size Lc ∧ Ext Z.heap B1.U.heap) (el : B1.locs = locs ++ Lc) (ec : B1.cells = cells + rc) (es : B1.slots = slots + rs) (hCr : CHr Z EL vm h B1.U.vm B1.U.heap)
    (st : Steps p.tables e below (s₁.setTop g0) (B1.U.setTop g')) : Wk p l e R s m args below meth c Z EL own B mx s₁ g0 g' B1.U.heap (cells + rc) (slots + rs) sf := by
  refine ⟨hx, hB, hm, B1.U, B1.U.vm, locs ++ Lc, B1.U.heap.size, ?_, rfl, State.Warmed39.trans (t := s.setVm vm) hZ h2.1, (h2.1.alike.findClass _ _).trans ho, hS.trans h2 (Nat.le_trans hk hgr), Nat.le_refl _, hC.trans hCr, hQ.2.2, Fr.app hF hQ.2.1, fun x hx => ⟨Nat.lt_of_lt_of_le (hsf x hx).1 hgr, hCr.safe (hsf x hx).1 (hsf x hx).2⟩, st⟩
  rw [← el, ← ec, ← es]; exact X'
theorem Wk.callS (X : Wk p l e R s m args below meth c Z EL own B mx s₁ g0 (mkF m pc Ls st) h cells slots sf) {index : Nat} {y : MethodName} {bytes : ByteArray} {maxL : Nat} {ret : Option FieldType} {rm : Room} {as' : Array Value} {sf0 : List Addr} {Q : Option Value → Heap → Prop} (hM : Ctr l Z EL y bytes maxL ret [] rm as' h sf0 Q) (hEL : EW Z a0 EL) (hs0 : ∀ x ∈ sf0, x ∈ sf)
    (w1 : (Jvm.Cond.methodLink own index y).before a0 Z = true) (w2 : (Jvm.Cond.static y).before a0 Z = true) (w3 : (Jvm.Cond.initialized y.cls).before a0 Z = true) (w4 : (Jvm.Cond.code y bytes maxL ret).before a0 Z = true) (hy : y.cls ≠ "java/lang/invoke/MethodHandle" ∧ y.cls ≠ "java/lang/invoke/VarHandle")
    {ps : List FieldType} {r : Option FieldType} (pd : parseMethodDescriptor y.desc = some ⟨ps, r⟩) {argsL rest : List Value} (hlen : argsL.length = ps.length) (hst : st = argsL.reverse ++ rest) (has : argsL.toArray = as') (hLs : Ls.size = mx) (dc : decode B pc = .ok (.invokestatic index, 3))
    (hf : rm.frames + 1 ≤ R.frames) (hl : (rest.map fun v => v.category).sum + (maxL + 11) + rm.locals ≤ R.locals) (hc : cells + rm.cells ≤ R.cells) (hs : slots + rm.slots ≤ R.slots) (hq : pc + 3 = q) :
    ∃ (ov : Option Value) (h' : Heap), Q ov h' ∧ ∀ st', ov.toList ++ rest = st' → Wk p l e R s m args below meth c Z EL own B mx s₁ g0 (mkF m q Ls st') h' (cells + rm.cells) (slots + rm.slots) sf := by
  subst hq hst has
  obtain ⟨hx, hB, hm, T, vm, locs, k, X, eT, hZ, ho, hS, hk, hC, hO, hF, hsf, st0⟩ := X
  obtain ⟨ov, vm1, B1, -, X', h2, hgr, ⟨Lc, hQ, el, ec, es, hCr⟩, st'⟩ := callSS (s := s.setVm vm) X hx ho (mvT hZ w1) (mvT hZ w2) (mvT hZ w3) (mvT hZ w4) hy (backSF (W := (rest.map fun v => v.category).sum) (s := s) hM hZ w4 w3 hf hl hEL hC.1 (fun x q => hsf x (hs0 x q))) (g := mkF m pc Ls (argsL.reverse ++ rest)) rfl (by rw [hm]; exact hLs) (argsL := argsL) (rest := rest) (lenOf pd hlen) rfl (by show 2 * 0 + _ ≤ _; omega) (hb hB dc) (fun _ _ => ⟨rfl, eT, hc, hs⟩)
  refine ⟨ov, B1.U.heap, hQ.1, fun st1 e1 => ?_⟩
  subst e1
  rw [eT] at hgr
  exact Wk.behind hx hB hm hS hk hZ ho hC hF hsf X' h2 hgr hQ el ec es hCr (st0.trans st')
theorem Wk.callI (X : Wk p l e R s m args below meth c Z EL own B mx s₁ g0 (mkF m pc Ls st) h cells slots sf) {index : Nat} {y : MethodName} {bytes : ByteArray} {maxL : Nat} {rm : Room} {as' : Array Value} {sf0 : List Addr} {Q : Option Value → Heap → Prop} (hM : Ctr l Z EL y bytes maxL none [] rm as' h sf0 Q) (hEL : EW Z a0 EL) (hs0 : ∀ x ∈ sf0, x ∈ sf) (hy1 : y.name = "<init>")
    (w1 : (Jvm.Cond.methodLink own index y).before a0 Z = true) (w2 : (Jvm.Cond.instanceMethod y).before a0 Z = true) (w3 : (Jvm.Cond.initialized y.cls).before a0 Z = true) (w4 : (Jvm.Cond.code y bytes maxL none).before a0 Z = true) (hy : y.cls ≠ "java/lang/invoke/MethodHandle" ∧ y.cls ≠ "java/lang/invoke/VarHandle")
    {ps : List FieldType} {r : Option FieldType} (pd : parseMethodDescriptor y.desc = some ⟨ps, r⟩) {a : Addr} {argsL rest : List Value} (hlen : argsL.length = ps.length) (hst : st = argsL.reverse ++ .ref a :: rest) (has : (.ref a :: argsL).toArray = as') (hLs : Ls.size = mx) (dc : decode B pc = .ok (.invokespecial index, 3))
    (hf : rm.frames + 1 ≤ R.frames) (hl : (rest.map fun v => v.category).sum + (maxL + 11) + rm.locals ≤ R.locals) (hc : cells + rm.cells ≤ R.cells) (hs : slots + rm.slots ≤ R.slots) (hq : pc + 3 = q) :
    ∃ (ov : Option Value) (h' : Heap), Q ov h' ∧ ∀ st', ov.toList ++ rest = st' → Wk p l e R s m args below meth c Z EL own B mx s₁ g0 (mkF m q Ls st') h' (cells + rm.cells) (slots + rm.slots) sf := by
  subst hq hst has
  obtain ⟨hx, hB, hm, T, vm, locs, k, X, eT, hZ, ho, hS, hk, hC, hO, hF, hsf, st0⟩ := X
  obtain ⟨ov, vm1, B1, -, X', h2, hgr, ⟨Lc, hQ, el, ec, es, hCr⟩, st'⟩ := X.specialBackS (s := s.setVm vm) hx hy1 ho (mvT hZ w1) (mvT hZ w2) (mvT hZ w4) hy (backSF (W := (rest.map fun v => v.category).sum) (s := s) hM hZ w4 w3 hf hl hEL hC.1 (fun x q => hsf x (hs0 x q))) (g := mkF m pc Ls (argsL.reverse ++ .ref a :: rest)) rfl (by rw [hm]; exact hLs) (Steps.refl _) (a := a) (argsL := argsL) (rest := rest) (lenOf pd hlen) rfl (by show 2 * 0 + _ ≤ _; omega) (hb hB dc) (fun _ _ => ⟨rfl, eT, hc, hs⟩)
  refine ⟨ov, B1.U.heap, hQ.1, fun st1 e1 => ?_⟩
  subst e1
  rw [eT] at hgr
  exact Wk.behind hx hB hm hS hk hZ ho hC hF hsf X' h2 hgr hQ el ec es hCr (st0.trans st')
theorem Wk.callV (X : Wk p l e R s m args below meth c Z EL own B mx s₁ g0 (mkF m pc Ls st) h cells slots sf) {index : Nat} {C : String} {y z : MethodName} {bytes : ByteArray} {maxL : Nat} {ret : Option FieldType} {rm : Room} {as' : Array Value} {sf0 : List Addr} {Q : Option Value → Heap → Prop} (hM : Ctr l Z EL z bytes maxL ret [] rm as' h sf0 Q) (hEL : EW Z a0 EL) (hs0 : ∀ x ∈ sf0, x ∈ sf)
    (w1 : (Jvm.Cond.methodLink own index y).before a0 Z = true) (w2 : (Jvm.Cond.declares y).before a0 Z = true) {CF : String} (wF : (Jvm.Cond.selects CF y y).before a0 Z = true) (w5 : (Jvm.Cond.selects C y z).before a0 Z = true) (w6 : (Jvm.Cond.instanceMethod z).before a0 Z = true) (w3 : (Jvm.Cond.initialized z.cls).before a0 Z = true) (w4 : (Jvm.Cond.code z bytes maxL ret).before a0 Z = true) (hy : y.cls ≠ "java/lang/invoke/MethodHandle" ∧ y.cls ≠ "java/lang/invoke/VarHandle")
    {ps : List FieldType} {r : Option FieldType} (pd : parseMethodDescriptor y.desc = some ⟨ps, r⟩) {a : Addr} (E : Exa Z h a C) {argsL rest : List Value} (hlen : argsL.length = ps.length) (hst : st = argsL.reverse ++ .ref a :: rest) (has : (.ref a :: argsL).toArray = as') (hLs : Ls.size = mx) (dc : decode B pc = .ok (.invokevirtual index, 3))
    (hf : rm.frames + 1 ≤ R.frames) (hl : (rest.map fun v => v.category).sum + (maxL + 11) + rm.locals ≤ R.locals) (hc : cells + rm.cells ≤ R.cells) (hs : slots + rm.slots ≤ R.slots) (hq : pc + 3 = q) :
    ∃ (ov : Option Value) (h' : Heap), Q ov h' ∧ ∀ st', ov.toList ++ rest = st' → Wk p l e R s m args below meth c Z EL own B mx s₁ g0 (mkF m q Ls st') h' (cells + rm.cells) (slots + rm.slots) sf := by
  subst hq hst has
  obtain ⟨hx, hB, hm, T, vm, locs, k, X, eT, hZ, ho, hS, hk, hC, hO, hF, hsf, st0⟩ := X
  obtain ⟨cq, kq, qa, qb, qc⟩ := isOf (s := s.setVm vm) hZ eT E
  obtain ⟨ov, vm1, B1, -, X', h2, hgr, ⟨Lc, hQ, el, ec, es, hCr⟩, st'⟩ := X.virtualBackS (s := s.setVm vm) hx ho (mvT hZ w1) (mvT hZ w2) (notFace_of_selects (args := #[]) (mvT hZ wF)) (mvT hZ w5) (mvT hZ w6) hy (backSF (W := (rest.map fun v => v.category).sum) (s := s) hM hZ w4 w3 hf hl hEL hC.1 (fun x q => hsf x (hs0 x q))) qa qc (g := mkF m pc Ls (argsL.reverse ++ .ref a :: rest)) rfl (by rw [hm]; exact hLs) (Steps.refl _) (argsL := argsL) (rest := rest) (lenOf pd hlen) rfl (by show 2 * 0 + _ ≤ _; omega) (hb hB dc) (fun _ _ => ⟨rfl, eT, hc, hs⟩)
  refine ⟨ov, B1.U.heap, hQ.1, fun st1 e1 => ?_⟩
  subst e1
  rw [eT] at hgr
  exact Wk.behind hx hB hm hS hk hZ ho hC hF hsf X' h2 hgr hQ el ec es hCr (st0.trans st')
theorem Wk.callF (X : Wk p l e R s m args below meth c Z EL own B mx s₁ g0 (mkF m pc Ls st) h cells slots sf) {index count : Nat} {C : String} {xi y : MethodName} {bytes : ByteArray} {maxL : Nat} {ret : Option FieldType} {rm : Room} {as' : Array Value} {sf0 : List Addr} {Q : Option Value → Heap → Prop} (hM : Ctr l Z EL y bytes maxL ret [] rm as' h sf0 Q) (hEL : EW Z a0 EL) (hs0 : ∀ x ∈ sf0, x ∈ sf)
    (w1 : (Jvm.Cond.methodLink own index xi).before a0 Z = true) (w2 : (Jvm.Cond.declares xi).before a0 Z = true) (w7 : (Jvm.Cond.interfaceMethod xi.cls xi.cls xi.name xi.desc).before a0 Z = true) (hw7 : ((Jvm.Cond.interfaceMethod xi.cls xi.cls xi.name xi.desc).onTables && (Jvm.Cond.interfaceMethod xi.cls xi.cls xi.name xi.desc).keepsFace) = true) (w5 : (Jvm.Cond.selects C xi y).before a0 Z = true) (w6 : (Jvm.Cond.instanceMethod y).before a0 Z = true) (w8 : (Jvm.Cond.publicMethod y).before a0 Z = true) (w9 : (Jvm.Cond.unhidden C xi.name xi.desc).before a0 Z = true) (w10 : (Jvm.Cond.castable C xi.cls).before a0 Z = true)
    (w3 : (Jvm.Cond.initialized y.cls).before a0 Z = true) (w4 : (Jvm.Cond.code y bytes maxL ret).before a0 Z = true) (hy : xi.cls ≠ "java/lang/invoke/MethodHandle" ∧ xi.cls ≠ "java/lang/invoke/VarHandle")
    {ps : List FieldType} {r : Option FieldType} (pd : parseMethodDescriptor xi.desc = some ⟨ps, r⟩) {a : Addr} (E : Exa Z h a C) {argsL rest : List Value} (hlen : argsL.length = ps.length) (hst : st = argsL.reverse ++ .ref a :: rest) (has : (.ref a :: argsL).toArray = as') (hLs : Ls.size = mx) (dc : decode B pc = .ok (.invokeinterface index count, 5))
    (hf : rm.frames + 1 ≤ R.frames) (hl : (rest.map fun v => v.category).sum + (maxL + 11) + rm.locals ≤ R.locals) (hc : cells + rm.cells ≤ R.cells) (hs : slots + rm.slots ≤ R.slots) (hq : pc + 5 = q) :
    ∃ (ov : Option Value) (h' : Heap), Q ov h' ∧ ∀ st', ov.toList ++ rest = st' → Wk p l e R s m args below meth c Z EL own B mx s₁ g0 (mkF m q Ls st') h' (cells + rm.cells) (slots + rm.slots) sf := by
  subst hq hst has
  obtain ⟨hx, hB, hm, T, vm, locs, k, X, eT, hZ, ho, hS, hk, hC, hO, hF, hsf, st0⟩ := X
  obtain ⟨cq, kq, qa, qb, qc⟩ := isOf (s := s.setVm vm) hZ eT E
  obtain ⟨ov, vm1, B1, -, X', h2, hgr, ⟨Lc, hQ, el, ec, es, hCr⟩, st'⟩ := X.interfaceBackS (s := s.setVm vm) hx ho (mvT hZ w1) (mvT hZ w2) (mvT hZ w7 hw7) (mvT hZ w5) (mvT hZ w6) (mvT hZ w8) (mvT hZ w9) (mvT hZ w10) hy (backSF (W := (rest.map fun v => v.category).sum) (s := s) hM hZ w4 w3 hf hl hEL hC.1 (fun x q => hsf x (hs0 x q))) qa qb qc (g := mkF m pc Ls (argsL.reverse ++ .ref a :: rest)) rfl (by rw [hm]; exact hLs) (Steps.refl _) (argsL := argsL) (rest := rest) (lenOf pd hlen) rfl (by show 2 * 0 + _ ≤ _; omega) (hb hB dc) (fun _ _ => ⟨rfl, eT, hc, hs⟩)
  refine ⟨ov, B1.U.heap, hQ.1, fun st1 e1 => ?_⟩
  subst e1
  rw [eT] at hgr
  exact Wk.behind hx hB hm hS hk hZ ho hC hF hsf X' h2 hgr hQ el ec es hCr (st0.trans st')
theorem Wk.callU (X : Wk p l e R s m args below meth c Z EL own B mx s₁ g0 (mkF m pc Ls st) h cells slots sf) {index : Nat} {K : String} {y : MethodName} {bytes : ByteArray} {maxL : Nat} {ret : Option FieldType} {rm : Room} {as' : Array Value} {sf0 : List Addr} {Q : Option Value → Heap → Prop} (hM : Ctr l Z EL y bytes maxL ret [] rm as' h sf0 Q) (hEL : EW Z a0 EL) (hs0 : ∀ x ∈ sf0, x ∈ sf)
    (w1 : (Jvm.Cond.methodLink own index y).before a0 Z = true) (w2 : (Jvm.Cond.sameMethod y.cls y.cls y.name y.desc).before a0 Z = true) (w6 : (Jvm.Cond.instanceMethod y).before a0 Z = true) (w5 : (Jvm.Cond.superclass own y.cls).before a0 Z = true) (hn : y.name ≠ "<init>") (w3 : (Jvm.Cond.initialized y.cls).before a0 Z = true) (w4 : (Jvm.Cond.code y bytes maxL ret).before a0 Z = true)
    {ps : List FieldType} {r : Option FieldType} (pd : parseMethodDescriptor y.desc = some ⟨ps, r⟩) {a : Addr} (F : Ins Z h a K true) {argsL rest : List Value} (hlen : argsL.length = ps.length) (hst : st = argsL.reverse ++ .ref a :: rest) (has : (.ref a :: argsL).toArray = as') (hLs : Ls.size = mx) (dc : decode B pc = .ok (.invokespecial index, 3))
    (hf : rm.frames + 1 ≤ R.frames) (hl : (rest.map fun v => v.category).sum + (maxL + 11) + rm.locals ≤ R.locals) (hc : cells + rm.cells ≤ R.cells) (hs : slots + rm.slots ≤ R.slots) (hq : pc + 3 = q) :
    ∃ (ov : Option Value) (h' : Heap), Q ov h' ∧ ∀ st', ov.toList ++ rest = st' → Wk p l e R s m args below meth c Z EL own B mx s₁ g0 (mkF m q Ls st') h' (cells + rm.cells) (slots + rm.slots) sf := by
  subst hq hst has
  obtain ⟨hx, hB, hm, T, vm, locs, k, X, eT, hZ, ho, hS, hk, hC, hO, hF, hsf, st0⟩ := X
  obtain ⟨ov, vm1, B1, -, X', h2, hgr, ⟨Lc, hQ, el, ec, es, hCr⟩, st'⟩ := superBackS (s := s.setVm vm) X hx hZ ho w1 w2 w6 w5 hn (backSF (W := (rest.map fun v => v.category).sum) (s := s) hM hZ w4 w3 hf hl hEL hC.1 (fun x q => hsf x (hs0 x q))) eT F (g := mkF m pc Ls (argsL.reverse ++ .ref a :: rest)) rfl (by rw [hm]; exact hLs) w4 (argsL := argsL) (rest := rest) (lenOf pd hlen) rfl (by show 2 * 0 + _ ≤ _; omega) (hb hB dc) (fun _ _ => ⟨rfl, eT, hc, hs⟩)
  refine ⟨ov, B1.U.heap, hQ.1, fun st1 e1 => ?_⟩
  subst e1
  rw [eT] at hgr
  exact Wk.behind hx hB hm hS hk hZ ho hC hF hsf X' h2 hgr hQ el ec es hCr (st0.trans st')
/-! calls paid by a Back of the pasted String laws -/
theorem Wk.behindB {B1 : Pt} {vm : Vm} {k : Nat} {locs : List Loc} {rc rs : Nat} {Lc : List Loc} {ws : List Addr} (hx : p.tables.exec = Jvm.exec) (hB : c.code = B) (hm : c.maxLocals = mx) (hS : s.Since vm k) (hk : k ≤ h.size) (hZ : Z.Warmed39 vm) (ho : vm.findClass own = some m.cls) (hC : CHr Z EL s.vm s.heap vm h) (hO : Ext Z.heap h) (hF : Fr Z.heap.size locs) (hsf : ∀ x ∈ sf, x < h.size ∧ Safe Z EL vm h x)
    (X' : Stand p l e R (s.setVm vm) m args below meth c B1.U B1.locs B1.cells B1.slots) (hL : Fr Z.heap.size Lc) (K : Keep h B1.U.heap ws) (hw : ∀ x ∈ ws, x ∈ sf ∧ Z.heap.size ≤ x) (el : B1.locs = locs ++ Lc) (ec : B1.cells = cells + rc) (es : B1.slots = slots + rs)
    (st : Steps p.tables e below (s₁.setTop g0) (B1.U.setTop g')) : Wk p l e R s m args below meth c Z EL own B mx s₁ g0 g' B1.U.heap (cells + rc) (slots + rs) sf := by
  have hs' : ∀ x ∈ ws, Safe Z EL vm h x := fun x q => (hsf x (hw x q).1).2
  refine ⟨hx, hB, hm, B1.U, vm, locs ++ Lc, k, ?_, rfl, hZ, ho, hS, Nat.le_trans hk K.1, hC.trans (CHr.keep K hs' hC.1), (Old.keep (show Old Z Z.heap.size h from ⟨rfl, hO⟩) K (fun x q => (hw x q).2)).2, Fr.app hF hL, fun x hx => ⟨Nat.lt_of_lt_of_le (hsf x hx).1 K.1, Safe.keep K hs' hC.1 (hsf x hx).2⟩, st⟩
  rw [← el, ← ec, ← es]; exact X'
theorem Wk.backV (X : Wk p l e R s m args below meth c Z EL own B mx s₁ g0 (mkF m pc Ls st) h cells slots sf) {index : Nat} {C : String} {y z : MethodName} {rc rs : Nat} {as' : Array Value} {Q : Option Value → Heap → List Loc → Prop} {ws : List Addr} {rest : List Value}
    (hK : ∀ vm, Z.Warmed39 (s.setVm vm).vm → Back l R p e below (s.setVm vm) args z 3 ((rest.map fun v => v.category).sum) (fun A a => a = as' ∧ A.U.heap = h ∧ A.cells + rc ≤ R.cells ∧ A.slots + rs ≤ R.slots) (fun A _ v B => ∃ L, Q v B.U.heap L ∧ B.locs = A.locs ++ L ∧ B.cells = A.cells + rc ∧ B.slots = A.slots + rs))
    (hKeep : ∀ v h' L, Q v h' L → Fr Z.heap.size L ∧ Keep h h' ws) (hw : ∀ x ∈ ws, x ∈ sf ∧ Z.heap.size ≤ x)
    (w1 : (Jvm.Cond.methodLink own index y).before a0 Z = true) (w2 : (Jvm.Cond.declares y).before a0 Z = true) {CF : String} (wF : (Jvm.Cond.selects CF y y).before a0 Z = true) (w5 : (Jvm.Cond.selects C y z).before a0 Z = true) (w6 : (Jvm.Cond.instanceMethod z).before a0 Z = true) (hy : y.cls ≠ "java/lang/invoke/MethodHandle" ∧ y.cls ≠ "java/lang/invoke/VarHandle")
    {ps : List FieldType} {r : Option FieldType} (pd : parseMethodDescriptor y.desc = some ⟨ps, r⟩) {a : Addr} (E : Exa Z h a C) {argsL : List Value} (hlen : argsL.length = ps.length) (hst : st = argsL.reverse ++ .ref a :: rest) (has : (.ref a :: argsL).toArray = as') (hLs : Ls.size = mx) (dc : decode B pc = .ok (.invokevirtual index, 3))
    (hc : cells + rc ≤ R.cells) (hs : slots + rs ≤ R.slots) (hq : pc + 3 = q) :
    ∃ (ov : Option Value) (h' : Heap) (L : List Loc), Q ov h' L ∧ ∀ st', ov.toList ++ rest = st' → Wk p l e R s m args below meth c Z EL own B mx s₁ g0 (mkF m q Ls st') h' (cells + rc) (slots + rs) sf := by
  subst hq hst has
  obtain ⟨hx, hB, hm, T, vm, locs, k, X, eT, hZ, ho, hS, hk, hC, hO, hF, hsf, st0⟩ := X
  obtain ⟨cq, kq, qa, qb, qc⟩ := isOf (s := s.setVm vm) hZ eT E
  obtain ⟨ov, vm1, B1, -, X', ⟨Lc, hQ, el, ec, es⟩, st'⟩ := X.virtualBack (s := s.setVm vm) hx ho (mvT hZ w1) (mvT hZ w2) (notFace_of_selects (args := #[]) (mvT hZ wF)) (mvT hZ w5) (mvT hZ w6) hy (hK vm hZ) qa qc (g := mkF m pc Ls (argsL.reverse ++ .ref a :: rest)) rfl (by rw [hm]; exact hLs) (Steps.refl _) (argsL := argsL) (rest := rest) (lenOf pd hlen) rfl (by show 2 * 0 + _ ≤ _; omega) (hb hB dc) (fun _ _ => ⟨rfl, eT, hc, hs⟩)
  refine ⟨ov, B1.U.heap, Lc, hQ, fun st1 e1 => ?_⟩
  subst e1
  obtain ⟨hL, K⟩ := hKeep _ _ _ hQ
  exact Wk.behindB hx hB hm hS hk hZ ho hC hO hF hsf X' hL K hw el ec es (st0.trans st')
theorem Wk.backI (X : Wk p l e R s m args below meth c Z EL own B mx s₁ g0 (mkF m pc Ls st) h cells slots sf) {index : Nat} {y : MethodName} {bytes : ByteArray} {maxL : Nat} {rc rs : Nat} {as' : Array Value} {Q : Option Value → Heap → List Loc → Prop} {ws : List Addr} {rest : List Value} (hy1 : y.name = "<init>")
    (hK : ∀ vm, Z.Warmed39 (s.setVm vm).vm → Back l R p e below (s.setVm vm) args y 3 ((rest.map fun v => v.category).sum) (fun A a => a = as' ∧ A.U.heap = h ∧ A.cells + rc ≤ R.cells ∧ A.slots + rs ≤ R.slots) (fun A _ v B => ∃ L, Q v B.U.heap L ∧ B.locs = A.locs ++ L ∧ B.cells = A.cells + rc ∧ B.slots = A.slots + rs))
    (hKeep : ∀ v h' L, Q v h' L → Fr Z.heap.size L ∧ Keep h h' ws) (hw : ∀ x ∈ ws, x ∈ sf ∧ Z.heap.size ≤ x)
    (w1 : (Jvm.Cond.methodLink own index y).before a0 Z = true) (w2 : (Jvm.Cond.instanceMethod y).before a0 Z = true) (w4 : (Jvm.Cond.code y bytes maxL none).before a0 Z = true) (hy : y.cls ≠ "java/lang/invoke/MethodHandle" ∧ y.cls ≠ "java/lang/invoke/VarHandle")
    {ps : List FieldType} {r : Option FieldType} (pd : parseMethodDescriptor y.desc = some ⟨ps, r⟩) {a : Addr} {argsL : List Value} (hlen : argsL.length = ps.length) (hst : st = argsL.reverse ++ .ref a :: rest) (has : (.ref a :: argsL).toArray = as') (hLs : Ls.size = mx) (dc : decode B pc = .ok (.invokespecial index, 3))
    (hc : cells + rc ≤ R.cells) (hs : slots + rs ≤ R.slots) (hq : pc + 3 = q) :
    ∃ (ov : Option Value) (h' : Heap) (L : List Loc), Q ov h' L ∧ ∀ st', ov.toList ++ rest = st' → Wk p l e R s m args below meth c Z EL own B mx s₁ g0 (mkF m q Ls st') h' (cells + rc) (slots + rs) sf := by
  subst hq hst has
  obtain ⟨hx, hB, hm, T, vm, locs, k, X, eT, hZ, ho, hS, hk, hC, hO, hF, hsf, st0⟩ := X
  obtain ⟨ov, vm1, B1, -, X', ⟨Lc, hQ, el, ec, es⟩, st'⟩ := X.specialBack (s := s.setVm vm) hx hy1 ho (mvT hZ w1) (mvT hZ w2) (mvT hZ w4) hy (hK vm hZ) (g := mkF m pc Ls (argsL.reverse ++ .ref a :: rest)) rfl (by rw [hm]; exact hLs) (Steps.refl _) (a := a) (argsL := argsL) (rest := rest) (lenOf pd hlen) rfl (by show 2 * 0 + _ ≤ _; omega) (hb hB dc) (fun _ _ => ⟨rfl, eT, hc, hs⟩)
  refine ⟨ov, B1.U.heap, Lc, hQ, fun st1 e1 => ?_⟩
  subst e1
  obtain ⟨hL, K⟩ := hKeep _ _ _ hQ
  exact Wk.behindB hx hB hm hS hk hZ ho hC hO hF hsf X' hL K hw el ec es (st0.trans st')
end WkKit
section StrKit
variable {p : Program} {l : Launch} {e : Env} {R : Room} {s : State} {m : MethodId} {args : Array Value} {below : List Frame} {meth : Method} {c : Code} {Z : State} {a0 : Array Value} {EL : List (String × Nat)} {own : String} {B : ByteArray} {mx : Nat} {s₁ : State} {g0 g g' : JFrame} {h h' : Heap} {cells slots pc q : Nat} {sf : List Addr} {Ls Ls' : Array Slot} {st rest : List Value} {x y z : Int32} {v w : Value} {a b : Addr} {ws : List Addr} {cs : List Int32}
/-- a String of Latin-1 chars -/
def Str (Z : State) (h : Heap) (a : Addr) (cs : List Int32) : Prop :=
  cs.length ≤ 4000 ∧ (∀ c ∈ cs, ¬ c < 0 ∧ ¬ (255 : Int32) < c) ∧ Exa Z h a "java/lang/String" ∧ Fld Z h a "java/lang/String" "coder" "B" (.int 0) ∧ ∃ (t : Addr) (kb : ClassId), Fld Z h a "java/lang/String" "value" "[B" (.ref t) ∧ Arv Z h t kb .byte (Int32.ofNat cs.length) ((cs.map (fun c => c.toInt8.toInt32)).map Value.int) (.int 0)
/-- no String and no byte[] lies at x -/
def Nst (Z : State) (h : Heap) (x : Addr) : Prop := (∀ a, Exa Z h a "java/lang/String" → a ≠ x) ∧ ∀ t kb z vs d, Arv Z h t kb .byte z vs d → t ≠ x
theorem Nst.exa {C : String} {n : Nat} {x : Addr} (E : Exa Z h x C) (hC : C ≠ "java/lang/String") (wi : (Jvm.Cond.instantiable C n).before a0 Z = true) : Nst Z h x :=
  ⟨fun a F => F.ne E (Ne.symm hC), fun t kb z vs d F => Ne.symm (E.neArv F wi)⟩
theorem Nst.new {x : Addr} (hx : h.size ≤ x) : Nst Z h x := ⟨fun a F => Nat.ne_of_lt (Nat.lt_of_lt_of_le F.lt hx), fun t kb z vs d F => Nat.ne_of_lt (Nat.lt_of_lt_of_le F.lt hx)⟩
theorem Nst.arv {n : Nat} {x : Addr} {k : ClassId} {ty : FieldType} {z : Int32} {vs : List Value} {d : Value} (A : Arv Z h x k ty z vs d) (ht : ty ≠ .byte) (wi : (Jvm.Cond.instantiable "java/lang/String" n).before a0 Z = true) : Nst Z h x := by
  refine ⟨fun a F => F.neArv A wi, fun t kb z' vs' d' F q => ?_⟩
  subst q
  obtain ⟨c1, ⟨e1, ⟨-, k1, i1, co1, j1⟩, -⟩, -⟩ := A
  obtain ⟨c2, ⟨e2, ⟨-, k2, i2, co2, j2⟩, -⟩, -⟩ := F
  cases e1.symm.trans e2
  cases i1.symm.trans i2
  rw [j1] at j2
  cases j2
  exact ht rfl
theorem Str.ext (S : Str Z h a cs) (E : Ext h h') : Str Z h' a cs := by
  obtain ⟨l, b, A, C, t, kb, V, K⟩ := S
  exact ⟨l, b, A.ext E, C.ext E, t, kb, V.ext E, K.ext E⟩
theorem Str.keep (S : Str Z h a cs) (K : Keep h h' ws) (n : ∀ x ∈ ws, Nst Z h x) : Str Z h' a cs := by
  obtain ⟨l, b, A, C, t, kb, V, F⟩ := S
  have na : a ∉ ws := fun q => (n a q).1 a A rfl
  have nt : t ∉ ws := fun q => (n t q).2 t _ _ _ _ F rfl
  exact ⟨l, b, A.keep K, C.keep K na, t, kb, V.keep K na, F.keep K nt⟩
theorem Str.keepS {n : Nat} (S : Str Z h a cs) (K : Keep h h' [b]) (hne : a ≠ b) (E : Exa Z h b "java/lang/String") (wi : (Jvm.Cond.instantiable "java/lang/String" n).before a0 Z = true) : Str Z h' a cs := by
  obtain ⟨l, b0, A, C, t, kb, V, F⟩ := S
  have na : a ∉ [b] := fun q => hne (List.mem_singleton.mp q)
  have nt : t ∉ [b] := fun q => E.neArv F wi (List.mem_singleton.mp q).symm
  exact ⟨l, b0, A.keep K, C.keep K na, t, kb, V.keep K na, F.keep K nt⟩
theorem Str.exa (S : Str Z h a cs) : Exa Z h a "java/lang/String" := S.2.2.1
theorem Str.lt (S : Str Z h a cs) : a < h.size := S.exa.lt
theorem Keep.ofExt (E : Ext h h') : Keep h h' [] := (Keep.refl h []).ext E
theorem Ext.ofKeep (K : Keep h h' []) : Ext h h' := ⟨K.1, fun x c q => K.2.1 x c q (fun r => nomatch r)⟩
theorem Ext.refl (h : Heap) : Ext h h := ⟨Nat.le_refl _, fun _ _ q => q⟩
theorem Ext.trans {h2 : Heap} (A : Ext h h') (B : Ext h' h2) : Ext h h2 := ⟨Nat.le_trans A.1 B.1, fun x c q => B.2 x c (A.2 x c q)⟩
/-- null, or a String -/
def NmOk (Z : State) (h : Heap) (v : Value) : Prop := v = .null ∨ ∃ a, v = .ref a ∧ Exa Z h a "java/lang/String"
theorem NmOk.ext (S : NmOk Z h v) (E : Ext h h') : NmOk Z h' v := S.imp id fun ⟨a, e, F⟩ => ⟨a, e, F.ext E⟩
theorem NmOk.keep (S : NmOk Z h v) (K : Keep h h' ws) : NmOk Z h' v := S.imp id fun ⟨a, e, F⟩ => ⟨a, e, F.keep K⟩
theorem NmOk.ref (S : NmOk Z h v) : v.isRef = true := by rcases S with rfl | ⟨a, rfl, -⟩ <;> rfl
/-! small facts on ints -/
theorem lt32 {x y : Int32} : x < y ↔ x.toInt < y.toInt := Int32.lt_iff_toInt_lt
theorem and255 (x : Int32) : ¬ (x &&& (255 : Int32)) < 0 ∧ ¬ (255 : Int32) < (x &&& (255 : Int32)) := by
  have h := andB x (255 : Int32) (by decide)
  have e : (255 : Int32).toInt = 255 := rfl
  have e0 : (0 : Int32).toInt = 0 := rfl
  exact ⟨fun q => by rw [lt32] at q; omega, fun q => by rw [lt32] at q; omega⟩
/-- an int of 0 to 255 is one of these -/
theorem of255 {x : Int32} (h : ¬ x < 0 ∧ ¬ (255 : Int32) < x) : ∃ k : Fin 256, x = Int32.ofNat k.val := by
  have e : (255 : Int32).toInt = 255 := rfl
  have e0 : (0 : Int32).toInt = 0 := rfl
  obtain ⟨h1, h2⟩ := h
  rw [lt32] at h1 h2
  exact ofRange (by omega) (by omega) (by decide)
theorem nar8 {x : Int32} (h : ¬ x < 0 ∧ ¬ (255 : Int32) < x) : nar .char x = x := by
  obtain ⟨k, rfl⟩ := of255 h
  exact (by decide +kernel : ∀ k : Fin 256, nar .char (Int32.ofNat k.val) = Int32.ofNat k.val) k
theorem narrow8 {x : Int32} (h : ¬ x < 0 ∧ ¬ (255 : Int32) < x) : narrow .char (.int x) = .int x := by
  obtain ⟨k, rfl⟩ := of255 h
  exact (by decide +kernel : ∀ k : Fin 256, narrow .char (.int (Int32.ofNat k.val)) = .int (Int32.ofNat k.val)) k
theorem i2c8 {x : Int32} (h : ¬ x < 0 ∧ ¬ (255 : Int32) < x) : x.toUInt32.toUInt16.toUInt32.toInt32 = x := by
  obtain ⟨k, rfl⟩ := of255 h
  exact (by decide +kernel : ∀ k : Fin 256, (Int32.ofNat k.val).toUInt32.toUInt16.toUInt32.toInt32 = Int32.ofNat k.val) k
theorem up8 (cs : List Int32) (h : ∀ c ∈ cs, ¬ c < 0 ∧ ¬ (255 : Int32) < c) : ∀ c ∈ cs, ¬ c < 0 ∧ ¬ (65535 : Int32) < c := fun c hc => ⟨(h c hc).1, fun q => (h c hc).2 (by rw [Int32.lt_iff_toInt_lt] at q ⊢; have e1 : (65535 : Int32).toInt = 65535 := rfl; have e2 : (255 : Int32).toInt = 255 := rfl; omega)⟩
theorem pdInit : parseMethodDescriptor "([C)V" = some ⟨[.array .char], none⟩ := by decide +kernel
theorem pdLen : parseMethodDescriptor "()I" = some ⟨[], some .int⟩ := by decide +kernel
theorem pdCh : parseMethodDescriptor "(I)C" = some ⟨[.int], some .char⟩ := by decide +kernel
theorem pdEmp : parseMethodDescriptor "()Z" = some ⟨[], some .boolean⟩ := by decide +kernel
theorem pdEq : parseMethodDescriptor "(Ljava/lang/Object;)Z" = some ⟨[.object "java/lang/Object"], some .boolean⟩ := by decide +kernel
theorem Wk.strInit (X : Wk p l e R s m args below meth c Z EL own B mx s₁ g0 (mkF m pc Ls (.ref b :: .ref a :: st)) h cells slots sf) (hws : ∀ d ∈ StrChars.Road.words, d.before a0 Z = true) (wi : (Jvm.Cond.instantiable "java/lang/String" 4).before a0 Z = true) {index : Nat} {bytes : ByteArray} {maxL : Nat}
    (w1 : (Jvm.Cond.methodLink own index ⟨"java/lang/String", "<init>", "([C)V"⟩).before a0 Z = true) (w2 : (Jvm.Cond.instanceMethod ⟨"java/lang/String", "<init>", "([C)V"⟩).before a0 Z = true) (w4 : (Jvm.Cond.code ⟨"java/lang/String", "<init>", "([C)V"⟩ bytes maxL none).before a0 Z = true)
    (E : Exa Z h a "java/lang/String") {v0 c0 d : Value} (V : Fld Z h a "java/lang/String" "value" "[B" v0) (C : Fld Z h a "java/lang/String" "coder" "B" c0) {kC : ClassId} {N : Int32} (K : Arv Z h b kC .char N (cs.map Value.int) d) {G : Int32} (S : Sta Z Z.heap "java/lang/String" "COMPACT_STRINGS" "Z" (.int G)) (hG : ¬ G = 0) (ha : Z.heap.size ≤ a) (hsf : a ∈ sf)
    {n : Nat} (hn : cs.length = n) (hN : N = Int32.ofNat n) (l0 : 0 < n) (l2 : n ≤ 4000) (hp : ∀ c ∈ cs, ¬ c < 0 ∧ ¬ (255 : Int32) < c) (hLs : Ls.size = mx) (dc : decode B pc = .ok (.invokespecial index, 3)) (hf : 4 ≤ R.frames) (hl : (st.map fun v => v.category).sum + 65 ≤ R.locals) (hc : cells + 1 ≤ R.cells) (hs : slots + n ≤ R.slots) (hq : pc + 3 = q) :
    ∃ h' : Heap, Keep h h' [a] ∧ Str Z h' a cs ∧ Wk p l e R s m args below meth c Z EL own B mx s₁ g0 (mkF m q Ls st) h' (cells + 1) (slots + n) sf := by
  subst hn hN
  have O := X.old
  obtain ⟨ov, h', L, ⟨rfl, -, K', E', C', t, kb, -, -, -, V', A'⟩, X'⟩ := X.backI (y := ⟨"java/lang/String", "<init>", "([C)V"⟩) (rest := st) (ws := [a]) (Q := fun v h' L => StrChars.Road.QV Z a (Int32.ofNat cs.length) (cs.map (fun c => c.toInt8.toInt32)) h Z.heap.size v h' L) rfl
    (fun vm hZ => StrChars.Road.backV (n0 := Z.heap.size) hZ hws wi ha O.1 E V C K (S.ext O) hG rfl rfl l0 l2 hp rfl hf hl) (fun v h' L q => ⟨q.2.1, q.2.2.1⟩) (fun x q => by cases List.mem_singleton.mp q; exact ⟨hsf, ha⟩) w1 w2 w4 (by decide) pdInit (a := a) (argsL := [.ref b]) rfl rfl rfl hLs dc hc hs hq
  exact ⟨h', K', ⟨l2, hp, E', C', t, kb, V', A'⟩, X' _ rfl⟩
theorem Wk.strCh (X : Wk p l e R s m args below meth c Z EL own B mx s₁ g0 (mkF m pc Ls (.int x :: .ref a :: st)) h cells slots sf) (S : Str Z h a cs) (hch : ∀ d ∈ StrChars.Road.wordsChN, d.before a0 Z = true) (wi : (Jvm.Cond.instantiable "java/lang/String" 4).before a0 Z = true) {G : Int32} (Sg : Sta Z Z.heap "java/lang/String" "COMPACT_STRINGS" "Z" (.int G)) (hG : ¬ G = 0) {G3 : Value} (Sf : Sta Z Z.heap "jdk/internal/util/Preconditions" "SIOOBE_FORMATTER" "Ljava/util/function/BiFunction;" G3) (rG : G3.isRef = true) {index : Nat}
    (w1 : (Jvm.Cond.methodLink own index ⟨"java/lang/String", "charAt", "(I)C"⟩).before a0 Z = true) (w2 : (Jvm.Cond.declares ⟨"java/lang/String", "charAt", "(I)C"⟩).before a0 Z = true) (w5 : (Jvm.Cond.selects "java/lang/String" ⟨"java/lang/String", "charAt", "(I)C"⟩ ⟨"java/lang/String", "charAt", "(I)C"⟩).before a0 Z = true) (w6 : (Jvm.Cond.instanceMethod ⟨"java/lang/String", "charAt", "(I)C"⟩).before a0 Z = true)
    {i : Nat} (hi : i < cs.length) (hj : x = Int32.ofNat i) (hLs : Ls.size = mx) (dc : decode B pc = .ok (.invokevirtual index, 3)) (hf : 4 ≤ R.frames) (hl : (st.map fun v => v.category).sum + 53 ≤ R.locals) (hc : cells ≤ R.cells) (hs : slots ≤ R.slots) (hz : cs.getD i 0 = z) (hq : pc + 3 = q) :
    Wk p l e R s m args below meth c Z EL own B mx s₁ g0 (mkF m q Ls (.int z :: st)) h cells slots sf := by
  subst hz
  have O := X.old
  obtain ⟨l2, hp, E, C, t, kb, V, K⟩ := S
  obtain ⟨ov, h', L, ⟨rfl, rfl, rfl⟩, X'⟩ := X.backV (C := "java/lang/String") (y := ⟨"java/lang/String", "charAt", "(I)C"⟩) (z := ⟨"java/lang/String", "charAt", "(I)C"⟩) (rest := st) (rc := 0) (rs := 0) (ws := []) (Q := fun v h' L => v = some (.int (cs.getD i 0)) ∧ L = [] ∧ h' = h)
    (fun vm hZ => StrChars.Road.chN hZ hch wi E V C K (StrChars.Road.codOf rfl fun c hc => (hp c hc).2) (up8 cs hp) (Sg.ext O) hG (Sf.ext O) rG l2 hi hj hf hl) (fun v h' L q => ⟨by rw [q.2.1]; exact Fr.nil _, by rw [q.2.2]; exact Keep.refl _ _⟩) (fun _ q => nomatch q) w1 w2 w5 w5 w6 (by decide) pdCh E (argsL := [.int x]) rfl rfl rfl hLs dc hc hs hq
  exact X' _ rfl
theorem Wk.strEq (X : Wk p l e R s m args below meth c Z EL own B mx s₁ g0 (mkF m pc Ls (.ref b :: .ref a :: st)) h cells slots sf) (S : Str Z h a cs) {ds : List Int32} (S2 : Str Z h b ds) (heq : ∀ d ∈ StrChars.Road.wordsEq, d.before a0 Z = true) (wi : (Jvm.Cond.instantiable "java/lang/String" 4).before a0 Z = true) {G : Int32} (Sg : Sta Z Z.heap "java/lang/String" "COMPACT_STRINGS" "Z" (.int G)) (hG : ¬ G = 0) {index : Nat}
    (w1 : (Jvm.Cond.methodLink own index ⟨"java/lang/String", "equals", "(Ljava/lang/Object;)Z"⟩).before a0 Z = true) (w2 : (Jvm.Cond.declares ⟨"java/lang/String", "equals", "(Ljava/lang/Object;)Z"⟩).before a0 Z = true) (w5 : (Jvm.Cond.selects "java/lang/String" ⟨"java/lang/String", "equals", "(Ljava/lang/Object;)Z"⟩ ⟨"java/lang/String", "equals", "(Ljava/lang/Object;)Z"⟩).before a0 Z = true) (w6 : (Jvm.Cond.instanceMethod ⟨"java/lang/String", "equals", "(Ljava/lang/Object;)Z"⟩).before a0 Z = true)
    (hLs : Ls.size = mx) (dc : decode B pc = .ok (.invokevirtual index, 3)) (hf : 2 ≤ R.frames) (hl : (st.map fun v => v.category).sum + 28 ≤ R.locals) (hc : cells ≤ R.cells) (hs : slots ≤ R.slots) (hz : (if cs = ds then (1 : Int32) else 0) = z) (hq : pc + 3 = q) :
    Wk p l e R s m args below meth c Z EL own B mx s₁ g0 (mkF m q Ls (.int z :: st)) h cells slots sf := by
  subst hz
  have O := X.old
  obtain ⟨l2, hp, E, C, t, kb, V, K⟩ := S
  obtain ⟨l3, hp', E', C', t', kb', V', K'⟩ := S2
  obtain ⟨ov, h', L, ⟨hv, rfl, rfl⟩, X'⟩ := X.backV (C := "java/lang/String") (y := ⟨"java/lang/String", "equals", "(Ljava/lang/Object;)Z"⟩) (z := ⟨"java/lang/String", "equals", "(Ljava/lang/Object;)Z"⟩) (rest := st) (rc := 0) (rs := 0) (ws := []) (Q := fun v h' L => ((v = some (.int 1) ∧ cs = ds) ∨ (v = some (.int 0) ∧ ¬ cs = ds)) ∧ L = [] ∧ h' = h)
    (fun vm hZ => StrChars.Road.eqW hZ heq wi E V C K (StrChars.Road.codOf rfl fun c hc => (hp c hc).2) (up8 cs hp) l2 E' V' C' K' (StrChars.Road.codOf rfl fun c hc => (hp' c hc).2) (up8 ds hp') l3 (Sg.ext O) hG hf hl) (fun v h' L q => ⟨by rw [q.2.1]; exact Fr.nil _, by rw [q.2.2]; exact Keep.refl _ _⟩) (fun _ q => nomatch q) w1 w2 w5 w5 w6 (by decide) pdEq E (argsL := [.ref b]) rfl rfl rfl hLs dc hc hs hq
  rcases hv with ⟨rfl, hcd⟩ | ⟨rfl, hcd⟩
  · rw [if_pos hcd]; exact X' _ rfl
  · rw [if_neg hcd]; exact X' _ rfl
end StrKit
theorem wS_of {Z : State} {a0 : Array Value} (hw : ∀ d ∈ tables_1, d.before a0 Z = true) : ∀ d ∈ Bundle.stringAtoms, d.before a0 Z = true := fun d hd => hw d ((by decide +kernel : ∀ d ∈ Bundle.stringAtoms, d ∈ tables_1) d hd)
theorem hws_of {Z : State} {a0 : Array Value} (hw : ∀ d ∈ tables_1, d.before a0 Z = true) : ∀ d ∈ StrChars.Road.words, d.before a0 Z = true := fun d hd => hw d ((by decide +kernel : ∀ d ∈ StrChars.Road.words, d ∈ tables_1) d hd)
theorem hch_of {Z : State} {a0 : Array Value} (hw : ∀ d ∈ tables_1, d.before a0 Z = true) : ∀ d ∈ StrChars.Road.wordsChN, d.before a0 Z = true := fun d hd => hw d ((by decide +kernel : ∀ d ∈ StrChars.Road.wordsChN, d ∈ tables_1) d hd)
theorem heq_of {Z : State} {a0 : Array Value} (hw : ∀ d ∈ tables_1, d.before a0 Z = true) : ∀ d ∈ StrChars.Road.wordsEq, d.before a0 Z = true := fun d hd => hw d ((by decide +kernel : ∀ d ∈ StrChars.Road.wordsEq, d ∈ tables_1) d hd)
theorem static_exa {s : State} {args : Array Value} {C n d K : String} (hx : (Jvm.Cond.exactly (.static C n d) K).value args s none s [] = some true) (hi : (Jvm.Cond.initializedFor C n d).before args s = true ∨ ((Jvm.Cond.initialized C).before args s = true ∧ (Jvm.Cond.laysStatic C n d).before args s = true)) : ∃ a, Sta s s.heap C n d (.ref a) ∧ a < s.heap.size ∧ Exa s s.heap a K := by
  obtain ⟨a, c, cell, k, e1, e2, e3, e4, e5, e6, e7⟩ := Cond.exactly_spec (Cond.before_iff.mpr hx)
  exact ⟨a, Sta.start e1 hi, (Array.getElem?_eq_some_iff.mp e3).1, Exa.start e1 hx⟩
theorem fld_eval {s : State} {args : Array Value} {t : Term} {a : Addr} {C n d : String} {v : Value} (ev : t.eval args s none [] s = some (.ref a)) (hh : (Term.field t C n d).eval args s none [] s = some v) : s.fieldOf? a C n d = some v := by
  simp only [Term.eval] at hh
  rw [ev] at hh
  exact hh
theorem exact_ref {s : State} {args : Array Value} {t : Term} {K : String} (hx : (Jvm.Cond.exactly t K).value args s none s [] = some true) : ∃ a, t.eval args s none [] s = some (.ref a) ∧ a < s.heap.size := by
  obtain ⟨a, c, cell, k, e1, e2, e3, -⟩ := Cond.exactly_spec (Cond.before_iff.mpr hx)
  exact ⟨a, e1, (Array.getElem?_eq_some_iff.mp e3).1⟩
theorem arr_start {s : State} {args : Array Value} (hf : Fit s) {t : Term} {a : Addr} {ty : FieldType} {n : Int32} {vs : List Value} {dv : Value} (ev : t.eval args s none [] s = some (.ref a)) (ha : (Jvm.Cond.arrayOf t ty).value args s none s [] = some true) (hl : (Jvm.Cond.eq (.length t) (.int n)).value args s none s [] = some true) (hn : ¬ n < 0 ∧ n.toNatClampNeg = vs.length)
    (he : ∀ j, j < vs.length → (Term.elem t (.int (Int32.ofNat j))).eval args s none [] s = some (vs.getD j .null)) : ∃ k, Arv s s.heap a k ty n vs dv := by
  obtain ⟨cl, A⟩ := Arr.start ev ha
  have hlen := Cond.eq_int (Cond.before_iff.mpr hl) rfl
  obtain ⟨sd, SA, hev, harr, -⟩ := Term.length_spec hlen
  cases ev.symm.trans hev
  have h31 := SBG.length_lt hev harr hlen
  have hSA : SA = cl := by
    have q := A.fin (Vm.Alike.refl _)
    exact Option.some.inj (harr.symm.trans q)
  subst hSA
  have e : (Term.length t).eval args s none [] s = some (.int (Int32.ofNat SA.slots.size)) := by simp [Term.eval, hev, harr, h31]
  have h2 : Int32.ofNat SA.slots.size = n := by simpa using Option.some.inj (e.symm.trans hlen)
  have hsz : SA.slots.size = vs.length := by
    rw [← hn.2, ← h2, Int32.toNatClampNeg, Int32.toInt_ofNat_of_lt (by omega)]; rfl
  refine ⟨SA.cls, SA, A, rfl, by rw [hsz, hn.2], hn.1, fun j hj => ?_, fun j hj => ?_⟩
  · have e1 := he j (by omega)
    rw [SBG.elem_at (ix := .int (Int32.ofNat j)) hev harr (by omega) h31 rfl] at e1
    rw [e1]
    congr 1
    rw [List.getD_eq_getElem?_getD, List.getD_eq_getElem?_getD, List.getElem?_eq_getElem (by omega : j < vs.length)]; rfl
  · have e1 := he j (by omega)
    rw [SBG.elem_at (ix := .int (Int32.ofNat j)) hev harr (by omega) h31 rfl] at e1
    have hj' : ¬ ((Int32.ofNat j) < 0 ∨ SA.slots.size ≤ (Int32.ofNat j).toNatClampNeg) := by
      have q : (Int32.ofNat j).toInt = j := Int32.toInt_ofNat_of_lt (by omega)
      rw [lt32, Int32.toNatClampNeg, q]
      show ¬ ((j : Int) < 0 ∨ SA.slots.size ≤ (j : Int).toNat)
      omega
    have q := elem_fits hf A hj' (v := vs.getD j dv) (by
      rw [show (Int32.ofNat j).toNatClampNeg = j by rw [Int32.toNatClampNeg, Int32.toInt_ofNat_of_lt (by omega)]; rfl, e1]
      congr 1
      rw [List.getD_eq_getElem?_getD, List.getD_eq_getElem?_getD, List.getElem?_eq_getElem (by omega : j < vs.length)]; rfl)
    exact q
theorem elem_ref {s : State} {args : Array Value} {t u : Term} {v : Value} (h : (Jvm.Cond.eq t u).value args s none s [] = some true) (hu : u.eval args s none [] s = some v) : t.eval args s none [] s = some v := by
  simp only [Cond.value, hu] at h
  cases ht : t.eval args s none [] s with
  | none => simp [ht] at h
  | some w => simp [ht] at h; cases v <;> cases w <;> simp_all
theorem str_start {s : State} {args : Array Value} (hf : Fit s) {t : Term} {a : Addr} {cs : List Int32} (ev : t.eval args s none [] s = some (.ref a)) (hx : (Jvm.Cond.exactly t "java/lang/String").value args s none s [] = some true) (hc : (Jvm.Cond.eq (.field t "java/lang/String" "coder" "B") (.int 0)).value args s none s [] = some true) (ha : (Jvm.Cond.arrayOf (.field t "java/lang/String" "value" "[B") .byte).value args s none s [] = some true)
    (hl : (Jvm.Cond.eq (.length (.field t "java/lang/String" "value" "[B")) (.int (Int32.ofNat cs.length))).value args s none s [] = some true) (hb : cs.length ≤ 4000) (hbd : ∀ c ∈ cs, ¬ c < 0 ∧ ¬ (255 : Int32) < c) (he : ∀ j, j < cs.length → (Jvm.Cond.eq (.elem (.field t "java/lang/String" "value" "[B") (.int (Int32.ofNat j))) (.int (cs.getD j 0).toInt8.toInt32)).value args s none s [] = some true) : Str s s.heap a cs := by
  have FC : Fld s s.heap a "java/lang/String" "coder" "B" (.int 0) := Fld.start (by have q := Cond.eq_int (Cond.before_iff.mpr hc) rfl; simp only [Term.eval, ev] at q; exact q)
  have hlen := Cond.eq_int (Cond.before_iff.mpr hl) rfl
  obtain ⟨sd, SA, hev, -⟩ := Term.length_spec hlen
  have FV : Fld s s.heap a "java/lang/String" "value" "[B" (.ref sd) := Fld.start (by have q := hev; simp only [Term.eval, ev] at q; exact q)
  obtain ⟨k, V⟩ := arr_start (dv := .int 0) (vs := (cs.map (fun c => c.toInt8.toInt32)).map Value.int) hf hev ha hl ⟨by rw [lt32, Int32.toInt_ofNat_of_lt (by omega)]; show ¬ (cs.length : Int) < 0; omega, by rw [Int32.toNatClampNeg, Int32.toInt_ofNat_of_lt (by omega)]; simp⟩ (fun j hj => by
    have hj' : j < cs.length := by simpa using hj
    rw [Cond.eq_int (Cond.before_iff.mpr (he j hj')) rfl]
    simp [List.getD_eq_getElem?_getD, hj'])
  exact ⟨hb, hbd, Exa.start ev hx, FC, sd, k, FV, V⟩
theorem pn0 : plainName "java/lang/String" = true := by first | (simp [plainName, overriddenIn]; done) | decide +kernel
theorem d0_0 : decode jdk_42_method_149_code 0 = .ok (.aload_n 0, 1) := by decide +kernel
theorem d0_1 : decode jdk_42_method_149_code 1 = .ok (.invokespecial 1, 3) := by decide +kernel
theorem d0_4 : decode jdk_42_method_149_code 4 = .ok (.iload_n 3, 1) := by decide +kernel
theorem d0_5 : decode jdk_42_method_149_code 5 = .ok (.ifCond .ne 22, 3) := by decide +kernel
theorem d0_8 : decode jdk_42_method_149_code 8 = .ok (.aload_n 0, 1) := by decide +kernel
theorem d0_9 : decode jdk_42_method_149_code 9 = .ok (.ldc 7, 2) := by decide +kernel
theorem d0_11 : decode jdk_42_method_149_code 11 = .ok (.getfield 9, 3) := by decide +kernel
theorem d0_14 : decode jdk_42_method_149_code 14 = .ok (.putfield 9, 3) := by decide +kernel
theorem d0_17 : decode jdk_42_method_149_code 17 = .ok (.aload_n 0, 1) := by decide +kernel
theorem d0_18 : decode jdk_42_method_149_code 18 = .ok (.ldc 7, 2) := by decide +kernel
theorem d0_20 : decode jdk_42_method_149_code 20 = .ok (.getfield 15, 3) := by decide +kernel
theorem d0_23 : decode jdk_42_method_149_code 23 = .ok (.putfield 15, 3) := by decide +kernel
theorem d0_26 : decode jdk_42_method_149_code 26 = .ok (.return_, 1) := by decide +kernel
theorem d0_27 : decode jdk_42_method_149_code 27 = .ok (.getstatic 38, 3) := by decide +kernel
theorem d0_30 : decode jdk_42_method_149_code 30 = .ok (.ifCond .eq 28, 3) := by decide +kernel
theorem d0_33 : decode jdk_42_method_149_code 33 = .ok (.aload_n 1, 1) := by decide +kernel
theorem d0_34 : decode jdk_42_method_149_code 34 = .ok (.iload_n 2, 1) := by decide +kernel
theorem d0_35 : decode jdk_42_method_149_code 35 = .ok (.iload_n 3, 1) := by decide +kernel
theorem d0_36 : decode jdk_42_method_149_code 36 = .ok (.invokestatic 177, 3) := by decide +kernel
theorem d0_39 : decode jdk_42_method_149_code 39 = .ok (.astore 5, 2) := by decide +kernel
theorem d0_41 : decode jdk_42_method_149_code 41 = .ok (.aload_n 0, 1) := by decide +kernel
theorem d0_42 : decode jdk_42_method_149_code 42 = .ok (.aload 5, 2) := by decide +kernel
theorem d0_44 : decode jdk_42_method_149_code 44 = .ok (.iload_n 3, 1) := by decide +kernel
theorem d0_45 : decode jdk_42_method_149_code 45 = .ok (.invokestatic 47, 3) := by decide +kernel
theorem d0_48 : decode jdk_42_method_149_code 48 = .ok (.putfield 15, 3) := by decide +kernel
theorem d0_51 : decode jdk_42_method_149_code 51 = .ok (.aload_n 0, 1) := by decide +kernel
theorem d0_52 : decode jdk_42_method_149_code 52 = .ok (.aload 5, 2) := by decide +kernel
theorem d0_54 : decode jdk_42_method_149_code 54 = .ok (.putfield 9, 3) := by decide +kernel
theorem d0_57 : decode jdk_42_method_149_code 57 = .ok (.return_, 1) := by decide +kernel
theorem d0_58 : decode jdk_42_method_149_code 58 = .ok (.aload_n 0, 1) := by decide +kernel
theorem d0_59 : decode jdk_42_method_149_code 59 = .ok (.iconst 1, 1) := by decide +kernel
theorem d0_60 : decode jdk_42_method_149_code 60 = .ok (.putfield 15, 3) := by decide +kernel
theorem d0_63 : decode jdk_42_method_149_code 63 = .ok (.aload_n 0, 1) := by decide +kernel
theorem d0_64 : decode jdk_42_method_149_code 64 = .ok (.aload_n 1, 1) := by decide +kernel
theorem d0_65 : decode jdk_42_method_149_code 65 = .ok (.iload_n 2, 1) := by decide +kernel
theorem d0_66 : decode jdk_42_method_149_code 66 = .ok (.iload_n 3, 1) := by decide +kernel
theorem d0_67 : decode jdk_42_method_149_code 67 = .ok (.invokestatic 180, 3) := by decide +kernel
theorem d0_70 : decode jdk_42_method_149_code 70 = .ok (.putfield 9, 3) := by decide +kernel
theorem d0_73 : decode jdk_42_method_149_code 73 = .ok (.return_, 1) := by decide +kernel
theorem d1_0 : decode jdk_42_method_3_code 0 = .ok (.aload_n 0, 1) := by decide +kernel
theorem d1_1 : decode jdk_42_method_3_code 1 = .ok (.aload_n 1, 1) := by decide +kernel
theorem d1_2 : decode jdk_42_method_3_code 2 = .ok (.iconst 0, 1) := by decide +kernel
theorem d1_3 : decode jdk_42_method_3_code 3 = .ok (.aload_n 1, 1) := by decide +kernel
theorem d1_4 : decode jdk_42_method_3_code 4 = .ok (.arraylength, 1) := by decide +kernel
theorem d1_5 : decode jdk_42_method_3_code 5 = .ok (.aconst_null, 1) := by decide +kernel
theorem d1_6 : decode jdk_42_method_3_code 6 = .ok (.invokespecial 27, 3) := by decide +kernel
theorem d1_9 : decode jdk_42_method_3_code 9 = .ok (.return_, 1) := by decide +kernel
theorem pd0 : parseMethodDescriptor "([CIILjava/lang/Void;)V" = some ⟨[(.array .char), .int, .int, (.object "java/lang/Void")], none⟩ := by decide +kernel
theorem pn1 : plainName "com/example/lifecycle/lifecycle/internal/definition/BeanScopeNamedPinLaw" = true := by first | (simp [plainName, overriddenIn]; done) | decide +kernel
theorem d2_0 : decode method_3_code 0 = .ok (.aload_n 0, 1) := by decide +kernel
theorem d2_1 : decode method_3_code 1 = .ok (.iconst 0, 1) := by decide +kernel
theorem d2_2 : decode method_3_code 2 = .ok (.aload_n 1, 1) := by decide +kernel
theorem d2_3 : decode method_3_code 3 = .ok (.iconst 0, 1) := by decide +kernel
theorem d2_4 : decode method_3_code 4 = .ok (.invokevirtual 45, 3) := by decide +kernel
theorem d2_7 : decode method_3_code 7 = .ok (.castore, 1) := by decide +kernel
theorem d2_8 : decode method_3_code 8 = .ok (.aload_n 0, 1) := by decide +kernel
theorem d2_9 : decode method_3_code 9 = .ok (.iconst 1, 1) := by decide +kernel
theorem d2_10 : decode method_3_code 10 = .ok (.aload_n 1, 1) := by decide +kernel
theorem d2_11 : decode method_3_code 11 = .ok (.iconst 1, 1) := by decide +kernel
theorem d2_12 : decode method_3_code 12 = .ok (.invokevirtual 45, 3) := by decide +kernel
theorem d2_15 : decode method_3_code 15 = .ok (.castore, 1) := by decide +kernel
theorem d2_16 : decode method_3_code 16 = .ok (.aload_n 0, 1) := by decide +kernel
theorem d2_17 : decode method_3_code 17 = .ok (.iconst 2, 1) := by decide +kernel
theorem d2_18 : decode method_3_code 18 = .ok (.aload_n 1, 1) := by decide +kernel
theorem d2_19 : decode method_3_code 19 = .ok (.iconst 2, 1) := by decide +kernel
theorem d2_20 : decode method_3_code 20 = .ok (.invokevirtual 45, 3) := by decide +kernel
theorem d2_23 : decode method_3_code 23 = .ok (.castore, 1) := by decide +kernel
theorem d2_24 : decode method_3_code 24 = .ok (.aload_n 0, 1) := by decide +kernel
theorem d2_25 : decode method_3_code 25 = .ok (.iconst 3, 1) := by decide +kernel
theorem d2_26 : decode method_3_code 26 = .ok (.aload_n 1, 1) := by decide +kernel
theorem d2_27 : decode method_3_code 27 = .ok (.iconst 3, 1) := by decide +kernel
theorem d2_28 : decode method_3_code 28 = .ok (.invokevirtual 45, 3) := by decide +kernel
theorem d2_31 : decode method_3_code 31 = .ok (.castore, 1) := by decide +kernel
theorem d2_32 : decode method_3_code 32 = .ok (.aload_n 0, 1) := by decide +kernel
theorem d2_33 : decode method_3_code 33 = .ok (.iconst 4, 1) := by decide +kernel
theorem d2_34 : decode method_3_code 34 = .ok (.aload_n 1, 1) := by decide +kernel
theorem d2_35 : decode method_3_code 35 = .ok (.iconst 4, 1) := by decide +kernel
theorem d2_36 : decode method_3_code 36 = .ok (.invokevirtual 45, 3) := by decide +kernel
theorem d2_39 : decode method_3_code 39 = .ok (.castore, 1) := by decide +kernel
theorem d2_40 : decode method_3_code 40 = .ok (.aload_n 0, 1) := by decide +kernel
theorem d2_41 : decode method_3_code 41 = .ok (.iconst 5, 1) := by decide +kernel
theorem d2_42 : decode method_3_code 42 = .ok (.aload_n 1, 1) := by decide +kernel
theorem d2_43 : decode method_3_code 43 = .ok (.iconst 5, 1) := by decide +kernel
theorem d2_44 : decode method_3_code 44 = .ok (.invokevirtual 45, 3) := by decide +kernel
theorem d2_47 : decode method_3_code 47 = .ok (.castore, 1) := by decide +kernel
theorem d2_48 : decode method_3_code 48 = .ok (.aload_n 0, 1) := by decide +kernel
theorem d2_49 : decode method_3_code 49 = .ok (.bipush 6, 2) := by decide +kernel
theorem d2_51 : decode method_3_code 51 = .ok (.aload_n 1, 1) := by decide +kernel
theorem d2_52 : decode method_3_code 52 = .ok (.bipush 6, 2) := by decide +kernel
theorem d2_54 : decode method_3_code 54 = .ok (.invokevirtual 45, 3) := by decide +kernel
theorem d2_57 : decode method_3_code 57 = .ok (.castore, 1) := by decide +kernel
theorem d2_58 : decode method_3_code 58 = .ok (.aload_n 0, 1) := by decide +kernel
theorem d2_59 : decode method_3_code 59 = .ok (.bipush 7, 2) := by decide +kernel
theorem d2_61 : decode method_3_code 61 = .ok (.aload_n 1, 1) := by decide +kernel
theorem d2_62 : decode method_3_code 62 = .ok (.bipush 7, 2) := by decide +kernel
theorem d2_64 : decode method_3_code 64 = .ok (.invokevirtual 45, 3) := by decide +kernel
theorem d2_67 : decode method_3_code 67 = .ok (.castore, 1) := by decide +kernel
theorem d2_68 : decode method_3_code 68 = .ok (.aload_n 0, 1) := by decide +kernel
theorem d2_69 : decode method_3_code 69 = .ok (.bipush 8, 2) := by decide +kernel
theorem d2_71 : decode method_3_code 71 = .ok (.aload_n 1, 1) := by decide +kernel
theorem d2_72 : decode method_3_code 72 = .ok (.bipush 8, 2) := by decide +kernel
theorem d2_74 : decode method_3_code 74 = .ok (.invokevirtual 45, 3) := by decide +kernel
theorem d2_77 : decode method_3_code 77 = .ok (.castore, 1) := by decide +kernel
theorem d2_78 : decode method_3_code 78 = .ok (.return_, 1) := by decide +kernel
theorem d3_0 : decode method_4_code 0 = .ok (.iload_n 1, 1) := by decide +kernel
theorem d3_1 : decode method_4_code 1 = .ok (.newarray .char, 2) := by decide +kernel
theorem d3_3 : decode method_4_code 3 = .ok (.astore_n 2, 1) := by decide +kernel
theorem d3_4 : decode method_4_code 4 = .ok (.iload_n 1, 1) := by decide +kernel
theorem d3_5 : decode method_4_code 5 = .ok (.ifCond .le 9, 3) := by decide +kernel
theorem d3_8 : decode method_4_code 8 = .ok (.aload_n 2, 1) := by decide +kernel
theorem d3_9 : decode method_4_code 9 = .ok (.iconst 0, 1) := by decide +kernel
theorem d3_10 : decode method_4_code 10 = .ok (.aload_n 0, 1) := by decide +kernel
theorem d3_11 : decode method_4_code 11 = .ok (.iconst 0, 1) := by decide +kernel
theorem d3_12 : decode method_4_code 12 = .ok (.caload, 1) := by decide +kernel
theorem d3_13 : decode method_4_code 13 = .ok (.castore, 1) := by decide +kernel
theorem d3_14 : decode method_4_code 14 = .ok (.iload_n 1, 1) := by decide +kernel
theorem d3_15 : decode method_4_code 15 = .ok (.iconst 1, 1) := by decide +kernel
theorem d3_16 : decode method_4_code 16 = .ok (.if_icmp .le 9, 3) := by decide +kernel
theorem d3_19 : decode method_4_code 19 = .ok (.aload_n 2, 1) := by decide +kernel
theorem d3_20 : decode method_4_code 20 = .ok (.iconst 1, 1) := by decide +kernel
theorem d3_21 : decode method_4_code 21 = .ok (.aload_n 0, 1) := by decide +kernel
theorem d3_22 : decode method_4_code 22 = .ok (.iconst 1, 1) := by decide +kernel
theorem d3_23 : decode method_4_code 23 = .ok (.caload, 1) := by decide +kernel
theorem d3_24 : decode method_4_code 24 = .ok (.castore, 1) := by decide +kernel
theorem d3_25 : decode method_4_code 25 = .ok (.iload_n 1, 1) := by decide +kernel
theorem d3_26 : decode method_4_code 26 = .ok (.iconst 2, 1) := by decide +kernel
theorem d3_27 : decode method_4_code 27 = .ok (.if_icmp .le 9, 3) := by decide +kernel
theorem d3_30 : decode method_4_code 30 = .ok (.aload_n 2, 1) := by decide +kernel
theorem d3_31 : decode method_4_code 31 = .ok (.iconst 2, 1) := by decide +kernel
theorem d3_32 : decode method_4_code 32 = .ok (.aload_n 0, 1) := by decide +kernel
theorem d3_33 : decode method_4_code 33 = .ok (.iconst 2, 1) := by decide +kernel
theorem d3_34 : decode method_4_code 34 = .ok (.caload, 1) := by decide +kernel
theorem d3_35 : decode method_4_code 35 = .ok (.castore, 1) := by decide +kernel
theorem d3_36 : decode method_4_code 36 = .ok (.iload_n 1, 1) := by decide +kernel
theorem d3_37 : decode method_4_code 37 = .ok (.iconst 3, 1) := by decide +kernel
theorem d3_38 : decode method_4_code 38 = .ok (.if_icmp .le 9, 3) := by decide +kernel
theorem d3_41 : decode method_4_code 41 = .ok (.aload_n 2, 1) := by decide +kernel
theorem d3_42 : decode method_4_code 42 = .ok (.iconst 3, 1) := by decide +kernel
theorem d3_43 : decode method_4_code 43 = .ok (.aload_n 0, 1) := by decide +kernel
theorem d3_44 : decode method_4_code 44 = .ok (.iconst 3, 1) := by decide +kernel
theorem d3_45 : decode method_4_code 45 = .ok (.caload, 1) := by decide +kernel
theorem d3_46 : decode method_4_code 46 = .ok (.castore, 1) := by decide +kernel
theorem d3_47 : decode method_4_code 47 = .ok (.iload_n 1, 1) := by decide +kernel
theorem d3_48 : decode method_4_code 48 = .ok (.iconst 4, 1) := by decide +kernel
theorem d3_49 : decode method_4_code 49 = .ok (.if_icmp .le 9, 3) := by decide +kernel
theorem d3_52 : decode method_4_code 52 = .ok (.aload_n 2, 1) := by decide +kernel
theorem d3_53 : decode method_4_code 53 = .ok (.iconst 4, 1) := by decide +kernel
theorem d3_54 : decode method_4_code 54 = .ok (.aload_n 0, 1) := by decide +kernel
theorem d3_55 : decode method_4_code 55 = .ok (.iconst 4, 1) := by decide +kernel
theorem d3_56 : decode method_4_code 56 = .ok (.caload, 1) := by decide +kernel
theorem d3_57 : decode method_4_code 57 = .ok (.castore, 1) := by decide +kernel
theorem d3_58 : decode method_4_code 58 = .ok (.iload_n 1, 1) := by decide +kernel
theorem d3_59 : decode method_4_code 59 = .ok (.iconst 5, 1) := by decide +kernel
theorem d3_60 : decode method_4_code 60 = .ok (.if_icmp .le 9, 3) := by decide +kernel
theorem d3_63 : decode method_4_code 63 = .ok (.aload_n 2, 1) := by decide +kernel
theorem d3_64 : decode method_4_code 64 = .ok (.iconst 5, 1) := by decide +kernel
theorem d3_65 : decode method_4_code 65 = .ok (.aload_n 0, 1) := by decide +kernel
theorem d3_66 : decode method_4_code 66 = .ok (.iconst 5, 1) := by decide +kernel
theorem d3_67 : decode method_4_code 67 = .ok (.caload, 1) := by decide +kernel
theorem d3_68 : decode method_4_code 68 = .ok (.castore, 1) := by decide +kernel
theorem d3_69 : decode method_4_code 69 = .ok (.iload_n 1, 1) := by decide +kernel
theorem d3_70 : decode method_4_code 70 = .ok (.bipush 6, 2) := by decide +kernel
theorem d3_72 : decode method_4_code 72 = .ok (.if_icmp .le 11, 3) := by decide +kernel
theorem d3_75 : decode method_4_code 75 = .ok (.aload_n 2, 1) := by decide +kernel
theorem d3_76 : decode method_4_code 76 = .ok (.bipush 6, 2) := by decide +kernel
theorem d3_78 : decode method_4_code 78 = .ok (.aload_n 0, 1) := by decide +kernel
theorem d3_79 : decode method_4_code 79 = .ok (.bipush 6, 2) := by decide +kernel
theorem d3_81 : decode method_4_code 81 = .ok (.caload, 1) := by decide +kernel
theorem d3_82 : decode method_4_code 82 = .ok (.castore, 1) := by decide +kernel
theorem d3_83 : decode method_4_code 83 = .ok (.iload_n 1, 1) := by decide +kernel
theorem d3_84 : decode method_4_code 84 = .ok (.bipush 7, 2) := by decide +kernel
theorem d3_86 : decode method_4_code 86 = .ok (.if_icmp .le 11, 3) := by decide +kernel
theorem d3_89 : decode method_4_code 89 = .ok (.aload_n 2, 1) := by decide +kernel
theorem d3_90 : decode method_4_code 90 = .ok (.bipush 7, 2) := by decide +kernel
theorem d3_92 : decode method_4_code 92 = .ok (.aload_n 0, 1) := by decide +kernel
theorem d3_93 : decode method_4_code 93 = .ok (.bipush 7, 2) := by decide +kernel
theorem d3_95 : decode method_4_code 95 = .ok (.caload, 1) := by decide +kernel
theorem d3_96 : decode method_4_code 96 = .ok (.castore, 1) := by decide +kernel
theorem d3_97 : decode method_4_code 97 = .ok (.iload_n 1, 1) := by decide +kernel
theorem d3_98 : decode method_4_code 98 = .ok (.bipush 8, 2) := by decide +kernel
theorem d3_100 : decode method_4_code 100 = .ok (.if_icmp .le 11, 3) := by decide +kernel
theorem d3_103 : decode method_4_code 103 = .ok (.aload_n 2, 1) := by decide +kernel
theorem d3_104 : decode method_4_code 104 = .ok (.bipush 8, 2) := by decide +kernel
theorem d3_106 : decode method_4_code 106 = .ok (.aload_n 0, 1) := by decide +kernel
theorem d3_107 : decode method_4_code 107 = .ok (.bipush 8, 2) := by decide +kernel
theorem d3_109 : decode method_4_code 109 = .ok (.caload, 1) := by decide +kernel
theorem d3_110 : decode method_4_code 110 = .ok (.castore, 1) := by decide +kernel
theorem d3_111 : decode method_4_code 111 = .ok (.iload_n 1, 1) := by decide +kernel
theorem d3_112 : decode method_4_code 112 = .ok (.bipush 9, 2) := by decide +kernel
theorem d3_114 : decode method_4_code 114 = .ok (.if_icmp .le 11, 3) := by decide +kernel
theorem d3_117 : decode method_4_code 117 = .ok (.aload_n 2, 1) := by decide +kernel
theorem d3_118 : decode method_4_code 118 = .ok (.bipush 9, 2) := by decide +kernel
theorem d3_120 : decode method_4_code 120 = .ok (.aload_n 0, 1) := by decide +kernel
theorem d3_121 : decode method_4_code 121 = .ok (.bipush 9, 2) := by decide +kernel
theorem d3_123 : decode method_4_code 123 = .ok (.caload, 1) := by decide +kernel
theorem d3_124 : decode method_4_code 124 = .ok (.castore, 1) := by decide +kernel
theorem d3_125 : decode method_4_code 125 = .ok (.new 29, 3) := by decide +kernel
theorem d3_128 : decode method_4_code 128 = .ok (.dup, 1) := by decide +kernel
theorem d3_129 : decode method_4_code 129 = .ok (.aload_n 2, 1) := by decide +kernel
theorem d3_130 : decode method_4_code 130 = .ok (.invokespecial 49, 3) := by decide +kernel
theorem d3_133 : decode method_4_code 133 = .ok (.areturn, 1) := by decide +kernel
theorem pd1 : parseMethodDescriptor "([C)V" = some ⟨[(.array .char)], none⟩ := by decide +kernel
theorem pn2 : plainName "com/example/lifecycle/lifecycle/internal/definition/BeanScope" = true := by first | (simp [plainName, overriddenIn]; done) | decide +kernel
theorem d4_0 : decode prog_39_method_1_code 0 = .ok (.getstatic 10, 3) := by decide +kernel
theorem d4_3 : decode prog_39_method_1_code 3 = .ok (.invokevirtual 14, 3) := by decide +kernel
theorem d4_6 : decode prog_39_method_1_code 6 = .ok (.checkcast 15, 3) := by decide +kernel
theorem d4_9 : decode prog_39_method_1_code 9 = .ok (.areturn, 1) := by decide +kernel
theorem d5_0 : decode jdk_42_method_66_code 0 = .ok (.aload_n 0, 1) := by decide +kernel
theorem d5_1 : decode jdk_42_method_66_code 1 = .ok (.aload_n 1, 1) := by decide +kernel
theorem d5_2 : decode jdk_42_method_66_code 2 = .ok (.if_acmp .ne 5, 3) := by decide +kernel
theorem d5_5 : decode jdk_42_method_66_code 5 = .ok (.iconst 1, 1) := by decide +kernel
theorem d5_6 : decode jdk_42_method_66_code 6 = .ok (.ireturn, 1) := by decide +kernel
theorem d5_7 : decode jdk_42_method_66_code 7 = .ok (.aload_n 1, 1) := by decide +kernel
theorem d5_8 : decode jdk_42_method_66_code 8 = .ok (.instanceof 10, 3) := by decide +kernel
theorem d5_11 : decode jdk_42_method_66_code 11 = .ok (.ifCond .eq 43, 3) := by decide +kernel
theorem d5_14 : decode jdk_42_method_66_code 14 = .ok (.aload_n 1, 1) := by decide +kernel
theorem d5_15 : decode jdk_42_method_66_code 15 = .ok (.checkcast 10, 3) := by decide +kernel
theorem d5_18 : decode jdk_42_method_66_code 18 = .ok (.astore_n 2, 1) := by decide +kernel
theorem d5_19 : decode jdk_42_method_66_code 19 = .ok (.getstatic 38, 3) := by decide +kernel
theorem d5_22 : decode jdk_42_method_66_code 22 = .ok (.ifCond .eq 14, 3) := by decide +kernel
theorem d5_25 : decode jdk_42_method_66_code 25 = .ok (.aload_n 0, 1) := by decide +kernel
theorem d5_26 : decode jdk_42_method_66_code 26 = .ok (.getfield 15, 3) := by decide +kernel
theorem d5_29 : decode jdk_42_method_66_code 29 = .ok (.aload_n 2, 1) := by decide +kernel
theorem d5_30 : decode jdk_42_method_66_code 30 = .ok (.getfield 15, 3) := by decide +kernel
theorem d5_33 : decode jdk_42_method_66_code 33 = .ok (.if_icmp .ne 21, 3) := by decide +kernel
theorem d5_36 : decode jdk_42_method_66_code 36 = .ok (.aload_n 0, 1) := by decide +kernel
theorem d5_37 : decode jdk_42_method_66_code 37 = .ok (.getfield 9, 3) := by decide +kernel
theorem d5_40 : decode jdk_42_method_66_code 40 = .ok (.aload_n 2, 1) := by decide +kernel
theorem d5_41 : decode jdk_42_method_66_code 41 = .ok (.getfield 9, 3) := by decide +kernel
theorem d5_44 : decode jdk_42_method_66_code 44 = .ok (.invokestatic 541, 3) := by decide +kernel
theorem d5_47 : decode jdk_42_method_66_code 47 = .ok (.ifCond .eq 7, 3) := by decide +kernel
theorem d5_50 : decode jdk_42_method_66_code 50 = .ok (.iconst 1, 1) := by decide +kernel
theorem d5_51 : decode jdk_42_method_66_code 51 = .ok (.goto 4, 3) := by decide +kernel
theorem d5_54 : decode jdk_42_method_66_code 54 = .ok (.iconst 0, 1) := by decide +kernel
theorem d5_55 : decode jdk_42_method_66_code 55 = .ok (.ireturn, 1) := by decide +kernel
theorem d6_0 : decode prog_39_method_4_code 0 = .ok (.invokestatic 33, 3) := by decide +kernel
theorem d6_3 : decode prog_39_method_4_code 3 = .ok (.astore_n 1, 1) := by decide +kernel
theorem d6_4 : decode prog_39_method_4_code 4 = .ok (.aload_n 1, 1) := by decide +kernel
theorem d6_5 : decode prog_39_method_4_code 5 = .ok (.arraylength, 1) := by decide +kernel
theorem d6_6 : decode prog_39_method_4_code 6 = .ok (.istore_n 2, 1) := by decide +kernel
theorem d6_7 : decode prog_39_method_4_code 7 = .ok (.iconst 0, 1) := by decide +kernel
theorem d6_8 : decode prog_39_method_4_code 8 = .ok (.istore_n 3, 1) := by decide +kernel
theorem d6_9 : decode prog_39_method_4_code 9 = .ok (.iload_n 3, 1) := by decide +kernel
theorem d6_10 : decode prog_39_method_4_code 10 = .ok (.iload_n 2, 1) := by decide +kernel
theorem d6_11 : decode prog_39_method_4_code 11 = .ok (.if_icmp .ge 29, 3) := by decide +kernel
theorem d6_14 : decode prog_39_method_4_code 14 = .ok (.aload_n 1, 1) := by decide +kernel
theorem d6_15 : decode prog_39_method_4_code 15 = .ok (.iload_n 3, 1) := by decide +kernel
theorem d6_16 : decode prog_39_method_4_code 16 = .ok (.aaload, 1) := by decide +kernel
theorem d6_17 : decode prog_39_method_4_code 17 = .ok (.astore 4, 2) := by decide +kernel
theorem d6_19 : decode prog_39_method_4_code 19 = .ok (.aload 4, 2) := by decide +kernel
theorem d6_21 : decode prog_39_method_4_code 21 = .ok (.getfield 29, 3) := by decide +kernel
theorem d6_24 : decode prog_39_method_4_code 24 = .ok (.aload_n 0, 1) := by decide +kernel
theorem d6_25 : decode prog_39_method_4_code 25 = .ok (.invokevirtual 37, 3) := by decide +kernel
theorem d6_28 : decode prog_39_method_4_code 28 = .ok (.ifCond .eq 6, 3) := by decide +kernel
theorem d6_31 : decode prog_39_method_4_code 31 = .ok (.aload 4, 2) := by decide +kernel
theorem d6_33 : decode prog_39_method_4_code 33 = .ok (.areturn, 1) := by decide +kernel
theorem d6_34 : decode prog_39_method_4_code 34 = .ok (.iinc 3 1, 3) := by decide +kernel
theorem d6_37 : decode prog_39_method_4_code 37 = .ok (.goto (-28), 3) := by decide +kernel
theorem d6_40 : decode prog_39_method_4_code 40 = .ok (.aconst_null, 1) := by decide +kernel
theorem d6_41 : decode prog_39_method_4_code 41 = .ok (.areturn, 1) := by decide +kernel
theorem pd2 : parseMethodDescriptor "()[Lcom/example/lifecycle/lifecycle/internal/definition/BeanScope;" = some ⟨[], some (.array (.object "com/example/lifecycle/lifecycle/internal/definition/BeanScope"))⟩ := by decide +kernel
theorem pd3 : parseMethodDescriptor "(Ljava/lang/Object;)Z" = some ⟨[(.object "java/lang/Object")], some .boolean⟩ := by decide +kernel
theorem d7_0 : decode prog_39_method_5_code 0 = .ok (.aload_n 0, 1) := by decide +kernel
theorem d7_1 : decode prog_39_method_5_code 1 = .ok (.getfield 29, 3) := by decide +kernel
theorem d7_4 : decode prog_39_method_5_code 4 = .ok (.areturn, 1) := by decide +kernel
theorem pd4 : parseMethodDescriptor "([CLjava/lang/String;)V" = some ⟨[(.array .char), (.object "java/lang/String")], none⟩ := by decide +kernel
theorem pd5 : parseMethodDescriptor "(Ljava/lang/String;)Lcom/example/lifecycle/lifecycle/internal/definition/BeanScope;" = some ⟨[(.object "java/lang/String")], some (.object "com/example/lifecycle/lifecycle/internal/definition/BeanScope")⟩ := by decide +kernel
theorem pd6 : parseMethodDescriptor "([CI)Ljava/lang/String;" = some ⟨[(.array .char), .int], some (.object "java/lang/String")⟩ := by decide +kernel
theorem pd7 : parseMethodDescriptor "()Ljava/lang/String;" = some ⟨[], some (.object "java/lang/String")⟩ := by decide +kernel
def Sc (Z : State) (aV aS aP nS nP : Addr) (kV : ClassId) : Prop := Sta Z Z.heap "com/example/lifecycle/lifecycle/internal/definition/BeanScope" "$VALUES" "[Lcom/example/lifecycle/lifecycle/internal/definition/BeanScope;" (.ref aV) ∧ Exa Z Z.heap aV "[Lcom/example/lifecycle/lifecycle/internal/definition/BeanScope;" ∧ Arv Z Z.heap aV kV (.object "com/example/lifecycle/lifecycle/internal/definition/BeanScope") (2 : Int32) [.ref aS, .ref aP] .null ∧
  Sta Z Z.heap "com/example/lifecycle/lifecycle/internal/definition/BeanScope" "SINGLETON" "Lcom/example/lifecycle/lifecycle/internal/definition/BeanScope;" (.ref aS) ∧ Exa Z Z.heap aS "com/example/lifecycle/lifecycle/internal/definition/BeanScope" ∧ Fld Z Z.heap aS "com/example/lifecycle/lifecycle/internal/definition/BeanScope" "scopeName" "Ljava/lang/String;" (.ref nS) ∧ Str Z Z.heap nS ([115, 105, 110, 103, 108, 101, 116, 111, 110] : List Int32) ∧
  Sta Z Z.heap "com/example/lifecycle/lifecycle/internal/definition/BeanScope" "PROTOTYPE" "Lcom/example/lifecycle/lifecycle/internal/definition/BeanScope;" (.ref aP) ∧ Exa Z Z.heap aP "com/example/lifecycle/lifecycle/internal/definition/BeanScope" ∧ Fld Z Z.heap aP "com/example/lifecycle/lifecycle/internal/definition/BeanScope" "scopeName" "Ljava/lang/String;" (.ref nP) ∧ Str Z Z.heap nP ([112, 114, 111, 116, 111, 116, 121, 112, 101] : List Int32)
abbrev EL0 : List (String × Nat) := consts_1
theorem hEL0 {Z : State} {a0 : Array Value} (hw : ∀ d ∈ tables_1, d.before a0 Z = true) : EW Z a0 EL0 := EW.cons (own := "com/example/lifecycle/lifecycle/internal/definition/BeanScopeNamedPinLaw") (index := 7) (hw _ (List.mem_of_getElem? (i := 1) rfl)) (by decide) (EW.cons (own := "com/example/lifecycle/lifecycle/internal/definition/BeanScopeNamedPinLaw") (index := 15) (hw _ (List.mem_of_getElem? (i := 96) rfl)) (by decide) (EW.cons (own := "java/lang/String") (index := 7) (hw _ (List.mem_of_getElem? (i := 103) rfl)) (by decide) (EW.nil)))
/-- a char[10] of Latin-1 chars -/
def Tar (Z : State) (h : Heap) (b : Addr) : Prop := ∃ (k : ClassId) (ts : List Int32), ts.length = 10 ∧ (∀ c ∈ ts, ¬ c < 0 ∧ ¬ (255 : Int32) < c) ∧ Arv Z h b k .char (10 : Int32) (ts.map Value.int) (.int 0)
theorem Tar.ext {Z : State} {h h' : Heap} {b : Addr} (F : Tar Z h b) (E : Ext h h') : Tar Z h' b := by obtain ⟨k, ts, a1, a2, V⟩ := F; exact ⟨k, ts, a1, a2, V.ext E⟩
theorem Tar.keep {Z : State} {h h' : Heap} {b : Addr} {ws : List Addr} (F : Tar Z h b) (K : Keep h h' ws) (n : b ∉ ws) : Tar Z h' b := by obtain ⟨k, ts, a1, a2, V⟩ := F; exact ⟨k, ts, a1, a2, V.keep K n⟩
theorem Tar.lt {Z : State} {h : Heap} {b : Addr} (F : Tar Z h b) : b < h.size := by obtain ⟨k, ts, a1, a2, V⟩ := F; exact V.lt
theorem Tar.nst {Z : State} {h : Heap} {b : Addr} {a0 : Array Value} {n : Nat} (F : Tar Z h b) (wi : (Jvm.Cond.instantiable "java/lang/String" n).before a0 Z = true) : Nst Z h b := by obtain ⟨k, ts, a1, a2, V⟩ := F; exact Nst.arv V (by decide) wi
theorem Wk.tstore {p : Program} {l : Launch} {e : Env} {R : Room} {s : State} {m : MethodId} {args : Array Value} {below : List Frame} {meth : Method} {c : Code} {Z : State} {EL : List (String × Nat)} {own : String} {B : ByteArray} {mx : Nat} {s₁ : State} {g0 : JFrame} {h : Heap} {cells slots pc q : Nat} {sf : List Addr} {Ls : Array Slot} {st : List Value} {x y : Int32} {a : Addr}
    (X : Wk p l e R s m args below meth c Z EL own B mx s₁ g0 (mkF m pc Ls (.int x :: .int y :: .ref a :: st)) h cells slots sf) (A : Tar Z h a) (ha : Z.heap.size ≤ a) (hj : ¬ y < 0 ∧ y < 10) (bx : ¬ x < 0 ∧ ¬ (255 : Int32) < x) (dc : decode B pc = .ok (.castore, 1)) (hq : pc + 1 = q) :
    ∃ h' : Heap, Keep h h' [a] ∧ Tar Z h' a ∧ Wk p l e R s m args below meth c Z EL own B mx s₁ g0 (mkF m q Ls st) h' cells slots sf := by
  obtain ⟨k, ts, a1, a2, V⟩ := A
  have hi : y.toNatClampNeg < (ts.map Value.int).length := by
    rw [List.length_map, a1]
    have h1 := hj.1
    have h2 := hj.2
    rw [lt32] at h1 h2
    have e1 : (10 : Int32).toInt = 10 := rfl
    have e0 : (0 : Int32).toInt = 0 := rfl
    show y.toInt.toNat < 10
    omega
  obtain ⟨h', K, -, V', X'⟩ := X.castore (q := q) V ha hj (nar8 bx) rfl hi dc hq
  refine ⟨h', K, ⟨k, ts.set y.toNatClampNeg x, by rw [List.length_set, a1], fun c hc => ?_, by rw [List.map_set]; exact V'⟩, X'⟩
  rcases List.mem_or_eq_of_mem_set hc with hc | rfl
  · exact a2 c hc
  · exact bx
set_option maxRecDepth 65536 in
set_option maxHeartbeats 40000000 in
theorem rm_s2 {l : Launch} {Z : State} {a0 : Array Value} (hw : ∀ d ∈ tables_1, d.before a0 Z = true) {G1 : Int32} {G3 : Value} {aV aS aP nS nP : Addr} {kV : ClassId} (O2 : Sta Z Z.heap "java/lang/String" "COMPACT_STRINGS" "Z" (.int G1)) (P5 : ¬ G1 = 0) (O4 : Sta Z Z.heap "jdk/internal/util/Preconditions" "SIOOBE_FORMATTER" "Ljava/util/function/BiFunction;" G3) (rG3 : G3.isRef = true) (SC : Sc Z aV aS aP nS nP kV) {h : Heap} (O : Ext Z.heap h) {a b : Addr} {v1 v2 : Value} (Aa : Exa Z h a "java/lang/String") (Fa_value : Fld Z h a "java/lang/String" "value" "[B" v1) (Fa_coder : Fld Z h a "java/lang/String" "coder" "B" v2) (na : Z.heap.size ≤ a) :
    Ctr l Z EL0 (⟨"java/lang/String", "<init>", "([CIILjava/lang/Void;)V"⟩ : MethodName) jdk_42_method_149_code 6 none [] ({ frames := 1, cells := 4, slots := 8, locals := 14 } : Room) #[(.ref a), (.ref b), (.int (0 : Int32)), (.int (0 : Int32)), .null] h [a] (fun v h' => v = none ∧ Keep h h' [a] ∧ Str Z h' a []) := by
  refine Ctr.of pn0 O ?_
  intro p e s m below meth c s₁ hret hlk hnm X
  have hEL := hEL0 hw
  have KX : Keep h h [a] := Keep.refl _ _
  replace X := X.cast (g' := (mkF m 0 #[.val (.ref a), .val (.ref b), .val (.int (0 : Int32)), .val (.int (0 : Int32)), .val .null, .unset] [])) (by first | (simp [entryFrame, mkF, argsToLocals, Value.category]; done) | rfl)
  replace X := X.aload_n (q := 1) d0_0 rfl rfl rfl
  replace X := X.initObj (q := 4) (hw _ (List.mem_of_getElem? (i := 50) rfl)) (hw _ (List.mem_of_getElem? (i := 51) rfl)) (hw _ (List.mem_of_getElem? (i := 52) rfl)) rfl d0_1 (by decide) (by decide) rfl
  replace X := X.iload_n (q := 5) d0_4 rfl rfl
  replace X := X.ifNo (q := 8) d0_5 (teq rfl).2 rfl
  replace X := X.aload_n (q := 9) d0_8 rfl rfl rfl
  obtain ⟨c1, hp1, tc1, kc1, E2, Ac1, Cc1, Vc1, Tc1, Nc1, X⟩ := X.ldcR (q := 11) hEL (List.mem_of_getElem? (i := 2) rfl) (hw _ (List.mem_of_getElem? (i := 103) rfl)) (wS_of hw) (vs := (([] : List Int32).map (fun c => c.toInt8.toInt32)).map Value.int) (z := Int32.ofNat 0) ⟨by decide, by decide +kernel⟩ (by decide) (by decide) d0_9 (n := 0) (by decide) (by first | decide | exact Nat.le_of_ble_eq_true rfl) (by decide) (by decide) rfl
  replace KX := KX.ext E2
  replace Aa := Aa.ext E2
  replace Fa_value := Fa_value.ext E2
  replace Fa_coder := Fa_coder.ext E2
  have Sc1 : Str Z hp1 c1 ([] : List Int32) := ⟨by decide, by decide, Ac1, Cc1, tc1, kc1, Vc1, Tc1⟩
  have ne_c1_a : c1 ≠ a := Ne.symm (Nc1 a (by simp)).1
  have ne_tc1_a : tc1 ≠ a := Ne.symm (Nc1 a (by simp)).2
  replace X := X.getfield (q := 14) (hw _ (List.mem_of_getElem? (i := 25) rfl)) Vc1 d0_11 rfl
  obtain ⟨hp3, W4, X⟩ := X.putfieldS (q := 17) (hw _ (List.mem_of_getElem? (i := 25) rfl)) Fa_value Aa (Or.inr ⟨(hw _ (List.mem_of_getElem? (i := 5) rfl)), rfl, hnm⟩) (hw _ (List.mem_of_getElem? (i := 3) rfl)) (ty := (.array .byte)) (by decide) rfl rfl na (fun vm _ hs => hs a (by simp)) d0_14 rfl
  replace KX := KX.wr W4 (Or.inl (by simp))
  replace Aa := Aa.wr W4
  replace Fa_value := Fa_value.same W4
  replace Fa_coder := Fa_coder.other W4 (Or.inr (RoadKit.slot_ne (Or.inr (hw _ (List.mem_of_getElem? (i := 6) rfl))) (Or.inr (hw _ (List.mem_of_getElem? (i := 5) rfl))) (by decide) (t := .byte) (t' := (.array .byte)) (by decide) (by decide)))
  replace Tc1 := Tc1.other W4 ne_tc1_a
  replace X := X.aload_n (q := 18) d0_17 rfl rfl rfl
  obtain ⟨c2, hp5, tc2, kc2, E6, Ac2, Cc2, Vc2, Tc2, Nc2, X⟩ := X.ldcR (q := 20) hEL (List.mem_of_getElem? (i := 2) rfl) (hw _ (List.mem_of_getElem? (i := 103) rfl)) (wS_of hw) (vs := (([] : List Int32).map (fun c => c.toInt8.toInt32)).map Value.int) (z := Int32.ofNat 0) ⟨by decide, by decide +kernel⟩ (by decide) (by decide) d0_18 (n := 0) (by decide) (by first | decide | exact Nat.le_of_ble_eq_true rfl) (by decide) (by decide) rfl
  replace KX := KX.ext E6
  replace Aa := Aa.ext E6
  replace Fa_value := Fa_value.ext E6
  replace Fa_coder := Fa_coder.ext E6
  replace Tc1 := Tc1.ext E6
  have Sc2 : Str Z hp5 c2 ([] : List Int32) := ⟨by decide, by decide, Ac2, Cc2, tc2, kc2, Vc2, Tc2⟩
  replace X := X.getfield (q := 23) (hw _ (List.mem_of_getElem? (i := 24) rfl)) Cc2 d0_20 rfl
  obtain ⟨hp7, W8, X⟩ := X.putfieldS (q := 26) (hw _ (List.mem_of_getElem? (i := 24) rfl)) Fa_coder Aa (Or.inr ⟨(hw _ (List.mem_of_getElem? (i := 6) rfl)), rfl, hnm⟩) (hw _ (List.mem_of_getElem? (i := 3) rfl)) (ty := .byte) (by decide) rfl rfl na (fun vm _ hs => hs a (by simp)) d0_23 rfl
  replace KX := KX.wr W8 (Or.inl (by simp))
  replace Aa := Aa.wr W8
  replace Fa_coder := Fa_coder.same W8
  replace Fa_value := Fa_value.other W8 (Or.inr (RoadKit.slot_ne (Or.inr (hw _ (List.mem_of_getElem? (i := 5) rfl))) (Or.inr (hw _ (List.mem_of_getElem? (i := 6) rfl))) (by decide) (t := (.array .byte)) (t' := .byte) (by decide) (by decide)))
  replace Tc1 := Tc1.other W8 ne_tc1_a
  exact X.ret hEL hret hlk d0_26 (by decide) (by decide) ⟨rfl, KX, by decide, (fun _ q => nomatch q), Aa, Fa_coder, tc1, kc1, Fa_value, Tc1⟩
set_option maxRecDepth 65536 in
set_option maxHeartbeats 40000000 in
theorem rm_s1 {l : Launch} {Z : State} {a0 : Array Value} (hw : ∀ d ∈ tables_1, d.before a0 Z = true) {G1 : Int32} {G3 : Value} {aV aS aP nS nP : Addr} {kV : ClassId} (O2 : Sta Z Z.heap "java/lang/String" "COMPACT_STRINGS" "Z" (.int G1)) (P5 : ¬ G1 = 0) (O4 : Sta Z Z.heap "jdk/internal/util/Preconditions" "SIOOBE_FORMATTER" "Ljava/util/function/BiFunction;" G3) (rG3 : G3.isRef = true) (SC : Sc Z aV aS aP nS nP kV) {h : Heap} (O : Ext Z.heap h) {a b : Addr} {v1 v2 : Value} (Aa : Exa Z h a "java/lang/String") (Fa_value : Fld Z h a "java/lang/String" "value" "[B" v1) (Fa_coder : Fld Z h a "java/lang/String" "coder" "B" v2) (na : Z.heap.size ≤ a) {kb : ClassId} {vs : List Value} {dv : Value} (Vb : Arv Z h b kb .char (0 : Int32) vs dv) :
    Ctr l Z EL0 (⟨"java/lang/String", "<init>", "([C)V"⟩ : MethodName) jdk_42_method_3_code 2 none [] ({ frames := 2, cells := 4, slots := 8, locals := 31 } : Room) #[(.ref a), (.ref b)] h [a] (fun v h' => v = none ∧ Keep h h' [a] ∧ Str Z h' a []) := by
  refine Ctr.of pn0 O ?_
  intro p e s m below meth c s₁ hret hlk hnm X
  have hEL := hEL0 hw
  have KX : Keep h h [a] := Keep.refl _ _
  replace X := X.cast (g' := (mkF m 0 #[.val (.ref a), .val (.ref b)] [])) (by first | (simp [entryFrame, mkF, argsToLocals, Value.category]; done) | rfl)
  replace X := X.aload_n (q := 1) d1_0 rfl rfl rfl
  replace X := X.aload_n (q := 2) d1_1 rfl rfl rfl
  replace X := X.iconst (q := 3) (z := (0 : Int32)) d1_2 rfl rfl
  replace X := X.aload_n (q := 4) d1_3 rfl rfl rfl
  replace X := X.arraylength (q := 5) Vb d1_4 rfl
  replace X := X.aconst_null (q := 6) d1_5 rfl
  obtain ⟨_, hp1, ⟨rfl, K1, S⟩, X⟩ := X.callI (q := 9) (rm_s2 hw O2 P5 O4 rG3 SC X.old (b := b) Aa Fa_value Fa_coder na) hEL (by simp) rfl (hw _ (List.mem_of_getElem? (i := 46) rfl)) (hw _ (List.mem_of_getElem? (i := 47) rfl)) (hw _ (List.mem_of_getElem? (i := 2) rfl)) (hw _ (List.mem_of_getElem? (i := 49) rfl)) (by decide) pd0 (a := a) (argsL := [(.ref b), (.int (0 : Int32)), (.int (0 : Int32)), .null]) (rest := []) rfl rfl rfl rfl d1_6 (by decide) (by first | decide | exact Nat.le_of_ble_eq_true rfl) (by decide) (by decide) rfl
  replace X := X [] rfl
  exact X.ret hEL hret hlk d1_9 (by decide) (by decide) ⟨rfl, K1, S⟩
set_option maxRecDepth 65536 in
set_option maxHeartbeats 40000000 in
theorem rm_fill {l : Launch} {Z : State} {a0 : Array Value} (hw : ∀ d ∈ tables_1, d.before a0 Z = true) {G1 : Int32} {G3 : Value} {aV aS aP nS nP : Addr} {kV : ClassId} (O2 : Sta Z Z.heap "java/lang/String" "COMPACT_STRINGS" "Z" (.int G1)) (P5 : ¬ G1 = 0) (O4 : Sta Z Z.heap "jdk/internal/util/Preconditions" "SIOOBE_FORMATTER" "Ljava/util/function/BiFunction;" G3) (rG3 : G3.isRef = true) (SC : Sc Z aV aS aP nS nP kV) {h : Heap} (O : Ext Z.heap h) {t w : Addr} {cs : List Int32} (TT : Tar Z h t) (nt : Z.heap.size ≤ t) (S : Str Z h w cs) (hl : cs.length = 9) :
    Ctr l Z EL0 (⟨"com/example/lifecycle/lifecycle/internal/definition/BeanScopeNamedPinLaw", "fillFrom", "([CLjava/lang/String;)V"⟩ : MethodName) method_3_code 2 none [] ({ frames := 4, cells := 0, slots := 0, locals := 60 } : Room) #[(.ref t), (.ref w)] h [] (fun v h' => v = none ∧ Keep h h' [t] ∧ Tar Z h' t) := by
  refine Ctr.of pn1 O ?_
  intro p e s m below meth c s₁ hret hlk hnm X
  have hEL := hEL0 hw
  have KX : Keep h h [t] := Keep.refl _ _
  replace X := X.cast (g' := (mkF m 0 #[.val (.ref t), .val (.ref w)] [])) (by first | (simp [entryFrame, mkF, argsToLocals, Value.category]; done) | rfl)
  have bc : ∀ i, i < 9 → ¬ cs.getD i 0 < 0 ∧ ¬ (255 : Int32) < cs.getD i 0 := fun i hi => S.2.1 _ (by rw [List.getD_eq_getElem?_getD, List.getElem?_eq_getElem (by omega)]; exact List.getElem_mem _)
  replace X := X.aload_n (q := 1) d2_0 rfl rfl rfl
  replace X := X.iconst (q := 2) (z := (0 : Int32)) d2_1 rfl rfl
  replace X := X.aload_n (q := 3) d2_2 rfl rfl rfl
  replace X := X.iconst (q := 4) (z := (0 : Int32)) d2_3 rfl rfl
  replace X := X.strCh (q := 7) (z := (cs.getD 0 0)) S (hch_of hw) (hw _ (List.mem_of_getElem? (i := 3) rfl)) O2 P5 O4 rG3 (hw _ (List.mem_of_getElem? (i := 13) rfl)) (hw _ (List.mem_of_getElem? (i := 14) rfl)) (hw _ (List.mem_of_getElem? (i := 16) rfl)) (hw _ (List.mem_of_getElem? (i := 15) rfl)) (i := 0) (by omega) rfl rfl d2_4 (by decide) (by first | decide | exact Nat.le_of_ble_eq_true rfl) (by decide) (by decide) rfl rfl
  have N3 : ∀ x ∈ [t], Nst Z _ x := fun x q => by cases List.mem_singleton.mp q; exact TT.nst (hw _ (List.mem_of_getElem? (i := 3) rfl))
  obtain ⟨hp1, K2, TT', X⟩ := X.tstore (q := 8) TT nt (by decide) (bc 0 (by decide)) d2_7 rfl
  replace KX := KX.trans K2 (fun x q => by cases List.mem_singleton.mp q; exact Or.inl (by simp))
  replace S := S.keep K2 N3
  replace TT := TT'
  replace X := X.aload_n (q := 9) d2_8 rfl rfl rfl
  replace X := X.iconst (q := 10) (z := (1 : Int32)) d2_9 rfl rfl
  replace X := X.aload_n (q := 11) d2_10 rfl rfl rfl
  replace X := X.iconst (q := 12) (z := (1 : Int32)) d2_11 rfl rfl
  replace X := X.strCh (q := 15) (z := (cs.getD 1 0)) S (hch_of hw) (hw _ (List.mem_of_getElem? (i := 3) rfl)) O2 P5 O4 rG3 (hw _ (List.mem_of_getElem? (i := 13) rfl)) (hw _ (List.mem_of_getElem? (i := 14) rfl)) (hw _ (List.mem_of_getElem? (i := 16) rfl)) (hw _ (List.mem_of_getElem? (i := 15) rfl)) (i := 1) (by omega) rfl rfl d2_12 (by decide) (by first | decide | exact Nat.le_of_ble_eq_true rfl) (by decide) (by decide) rfl rfl
  have N6 : ∀ x ∈ [t], Nst Z _ x := fun x q => by cases List.mem_singleton.mp q; exact TT.nst (hw _ (List.mem_of_getElem? (i := 3) rfl))
  obtain ⟨hp4, K5, TT', X⟩ := X.tstore (q := 16) TT nt (by decide) (bc 1 (by decide)) d2_15 rfl
  replace KX := KX.trans K5 (fun x q => by cases List.mem_singleton.mp q; exact Or.inl (by simp))
  replace S := S.keep K5 N6
  replace TT := TT'
  replace X := X.aload_n (q := 17) d2_16 rfl rfl rfl
  replace X := X.iconst (q := 18) (z := (2 : Int32)) d2_17 rfl rfl
  replace X := X.aload_n (q := 19) d2_18 rfl rfl rfl
  replace X := X.iconst (q := 20) (z := (2 : Int32)) d2_19 rfl rfl
  replace X := X.strCh (q := 23) (z := (cs.getD 2 0)) S (hch_of hw) (hw _ (List.mem_of_getElem? (i := 3) rfl)) O2 P5 O4 rG3 (hw _ (List.mem_of_getElem? (i := 13) rfl)) (hw _ (List.mem_of_getElem? (i := 14) rfl)) (hw _ (List.mem_of_getElem? (i := 16) rfl)) (hw _ (List.mem_of_getElem? (i := 15) rfl)) (i := 2) (by omega) rfl rfl d2_20 (by decide) (by first | decide | exact Nat.le_of_ble_eq_true rfl) (by decide) (by decide) rfl rfl
  have N9 : ∀ x ∈ [t], Nst Z _ x := fun x q => by cases List.mem_singleton.mp q; exact TT.nst (hw _ (List.mem_of_getElem? (i := 3) rfl))
  obtain ⟨hp7, K8, TT', X⟩ := X.tstore (q := 24) TT nt (by decide) (bc 2 (by decide)) d2_23 rfl
  replace KX := KX.trans K8 (fun x q => by cases List.mem_singleton.mp q; exact Or.inl (by simp))
  replace S := S.keep K8 N9
  replace TT := TT'
  replace X := X.aload_n (q := 25) d2_24 rfl rfl rfl
  replace X := X.iconst (q := 26) (z := (3 : Int32)) d2_25 rfl rfl
  replace X := X.aload_n (q := 27) d2_26 rfl rfl rfl
  replace X := X.iconst (q := 28) (z := (3 : Int32)) d2_27 rfl rfl
  replace X := X.strCh (q := 31) (z := (cs.getD 3 0)) S (hch_of hw) (hw _ (List.mem_of_getElem? (i := 3) rfl)) O2 P5 O4 rG3 (hw _ (List.mem_of_getElem? (i := 13) rfl)) (hw _ (List.mem_of_getElem? (i := 14) rfl)) (hw _ (List.mem_of_getElem? (i := 16) rfl)) (hw _ (List.mem_of_getElem? (i := 15) rfl)) (i := 3) (by omega) rfl rfl d2_28 (by decide) (by first | decide | exact Nat.le_of_ble_eq_true rfl) (by decide) (by decide) rfl rfl
  have N12 : ∀ x ∈ [t], Nst Z _ x := fun x q => by cases List.mem_singleton.mp q; exact TT.nst (hw _ (List.mem_of_getElem? (i := 3) rfl))
  obtain ⟨hp10, K11, TT', X⟩ := X.tstore (q := 32) TT nt (by decide) (bc 3 (by decide)) d2_31 rfl
  replace KX := KX.trans K11 (fun x q => by cases List.mem_singleton.mp q; exact Or.inl (by simp))
  replace S := S.keep K11 N12
  replace TT := TT'
  replace X := X.aload_n (q := 33) d2_32 rfl rfl rfl
  replace X := X.iconst (q := 34) (z := (4 : Int32)) d2_33 rfl rfl
  replace X := X.aload_n (q := 35) d2_34 rfl rfl rfl
  replace X := X.iconst (q := 36) (z := (4 : Int32)) d2_35 rfl rfl
  replace X := X.strCh (q := 39) (z := (cs.getD 4 0)) S (hch_of hw) (hw _ (List.mem_of_getElem? (i := 3) rfl)) O2 P5 O4 rG3 (hw _ (List.mem_of_getElem? (i := 13) rfl)) (hw _ (List.mem_of_getElem? (i := 14) rfl)) (hw _ (List.mem_of_getElem? (i := 16) rfl)) (hw _ (List.mem_of_getElem? (i := 15) rfl)) (i := 4) (by omega) rfl rfl d2_36 (by decide) (by first | decide | exact Nat.le_of_ble_eq_true rfl) (by decide) (by decide) rfl rfl
  have N15 : ∀ x ∈ [t], Nst Z _ x := fun x q => by cases List.mem_singleton.mp q; exact TT.nst (hw _ (List.mem_of_getElem? (i := 3) rfl))
  obtain ⟨hp13, K14, TT', X⟩ := X.tstore (q := 40) TT nt (by decide) (bc 4 (by decide)) d2_39 rfl
  replace KX := KX.trans K14 (fun x q => by cases List.mem_singleton.mp q; exact Or.inl (by simp))
  replace S := S.keep K14 N15
  replace TT := TT'
  replace X := X.aload_n (q := 41) d2_40 rfl rfl rfl
  replace X := X.iconst (q := 42) (z := (5 : Int32)) d2_41 rfl rfl
  replace X := X.aload_n (q := 43) d2_42 rfl rfl rfl
  replace X := X.iconst (q := 44) (z := (5 : Int32)) d2_43 rfl rfl
  replace X := X.strCh (q := 47) (z := (cs.getD 5 0)) S (hch_of hw) (hw _ (List.mem_of_getElem? (i := 3) rfl)) O2 P5 O4 rG3 (hw _ (List.mem_of_getElem? (i := 13) rfl)) (hw _ (List.mem_of_getElem? (i := 14) rfl)) (hw _ (List.mem_of_getElem? (i := 16) rfl)) (hw _ (List.mem_of_getElem? (i := 15) rfl)) (i := 5) (by omega) rfl rfl d2_44 (by decide) (by first | decide | exact Nat.le_of_ble_eq_true rfl) (by decide) (by decide) rfl rfl
  have N18 : ∀ x ∈ [t], Nst Z _ x := fun x q => by cases List.mem_singleton.mp q; exact TT.nst (hw _ (List.mem_of_getElem? (i := 3) rfl))
  obtain ⟨hp16, K17, TT', X⟩ := X.tstore (q := 48) TT nt (by decide) (bc 5 (by decide)) d2_47 rfl
  replace KX := KX.trans K17 (fun x q => by cases List.mem_singleton.mp q; exact Or.inl (by simp))
  replace S := S.keep K17 N18
  replace TT := TT'
  replace X := X.aload_n (q := 49) d2_48 rfl rfl rfl
  replace X := X.bipush (q := 51) (z := (6 : Int32)) d2_49 rfl rfl
  replace X := X.aload_n (q := 52) d2_51 rfl rfl rfl
  replace X := X.bipush (q := 54) (z := (6 : Int32)) d2_52 rfl rfl
  replace X := X.strCh (q := 57) (z := (cs.getD 6 0)) S (hch_of hw) (hw _ (List.mem_of_getElem? (i := 3) rfl)) O2 P5 O4 rG3 (hw _ (List.mem_of_getElem? (i := 13) rfl)) (hw _ (List.mem_of_getElem? (i := 14) rfl)) (hw _ (List.mem_of_getElem? (i := 16) rfl)) (hw _ (List.mem_of_getElem? (i := 15) rfl)) (i := 6) (by omega) rfl rfl d2_54 (by decide) (by first | decide | exact Nat.le_of_ble_eq_true rfl) (by decide) (by decide) rfl rfl
  have N21 : ∀ x ∈ [t], Nst Z _ x := fun x q => by cases List.mem_singleton.mp q; exact TT.nst (hw _ (List.mem_of_getElem? (i := 3) rfl))
  obtain ⟨hp19, K20, TT', X⟩ := X.tstore (q := 58) TT nt (by decide) (bc 6 (by decide)) d2_57 rfl
  replace KX := KX.trans K20 (fun x q => by cases List.mem_singleton.mp q; exact Or.inl (by simp))
  replace S := S.keep K20 N21
  replace TT := TT'
  replace X := X.aload_n (q := 59) d2_58 rfl rfl rfl
  replace X := X.bipush (q := 61) (z := (7 : Int32)) d2_59 rfl rfl
  replace X := X.aload_n (q := 62) d2_61 rfl rfl rfl
  replace X := X.bipush (q := 64) (z := (7 : Int32)) d2_62 rfl rfl
  replace X := X.strCh (q := 67) (z := (cs.getD 7 0)) S (hch_of hw) (hw _ (List.mem_of_getElem? (i := 3) rfl)) O2 P5 O4 rG3 (hw _ (List.mem_of_getElem? (i := 13) rfl)) (hw _ (List.mem_of_getElem? (i := 14) rfl)) (hw _ (List.mem_of_getElem? (i := 16) rfl)) (hw _ (List.mem_of_getElem? (i := 15) rfl)) (i := 7) (by omega) rfl rfl d2_64 (by decide) (by first | decide | exact Nat.le_of_ble_eq_true rfl) (by decide) (by decide) rfl rfl
  have N24 : ∀ x ∈ [t], Nst Z _ x := fun x q => by cases List.mem_singleton.mp q; exact TT.nst (hw _ (List.mem_of_getElem? (i := 3) rfl))
  obtain ⟨hp22, K23, TT', X⟩ := X.tstore (q := 68) TT nt (by decide) (bc 7 (by decide)) d2_67 rfl
  replace KX := KX.trans K23 (fun x q => by cases List.mem_singleton.mp q; exact Or.inl (by simp))
  replace S := S.keep K23 N24
  replace TT := TT'
  replace X := X.aload_n (q := 69) d2_68 rfl rfl rfl
  replace X := X.bipush (q := 71) (z := (8 : Int32)) d2_69 rfl rfl
  replace X := X.aload_n (q := 72) d2_71 rfl rfl rfl
  replace X := X.bipush (q := 74) (z := (8 : Int32)) d2_72 rfl rfl
  replace X := X.strCh (q := 77) (z := (cs.getD 8 0)) S (hch_of hw) (hw _ (List.mem_of_getElem? (i := 3) rfl)) O2 P5 O4 rG3 (hw _ (List.mem_of_getElem? (i := 13) rfl)) (hw _ (List.mem_of_getElem? (i := 14) rfl)) (hw _ (List.mem_of_getElem? (i := 16) rfl)) (hw _ (List.mem_of_getElem? (i := 15) rfl)) (i := 8) (by omega) rfl rfl d2_74 (by decide) (by first | decide | exact Nat.le_of_ble_eq_true rfl) (by decide) (by decide) rfl rfl
  have N27 : ∀ x ∈ [t], Nst Z _ x := fun x q => by cases List.mem_singleton.mp q; exact TT.nst (hw _ (List.mem_of_getElem? (i := 3) rfl))
  obtain ⟨hp25, K26, TT', X⟩ := X.tstore (q := 78) TT nt (by decide) (bc 8 (by decide)) d2_77 rfl
  replace KX := KX.trans K26 (fun x q => by cases List.mem_singleton.mp q; exact Or.inl (by simp))
  replace S := S.keep K26 N27
  replace TT := TT'
  exact X.ret hEL hret hlk d2_78 (by decide) (by decide) ⟨rfl, KX, TT⟩
set_option maxRecDepth 65536 in
set_option maxHeartbeats 40000000 in
theorem rm_cut {l : Launch} {Z : State} {a0 : Array Value} (hw : ∀ d ∈ tables_1, d.before a0 Z = true) {G1 : Int32} {G3 : Value} {aV aS aP nS nP : Addr} {kV : ClassId} (O2 : Sta Z Z.heap "java/lang/String" "COMPACT_STRINGS" "Z" (.int G1)) (P5 : ¬ G1 = 0) (O4 : Sta Z Z.heap "jdk/internal/util/Preconditions" "SIOOBE_FORMATTER" "Ljava/util/function/BiFunction;" G3) (rG3 : G3.isRef = true) (SC : Sc Z aV aS aP nS nP kV) {h : Heap} (O : Ext Z.heap h) {t : Addr} {n : Int32} (TT : Tar Z h t) (hn : n = 0 ∨ n = 1 ∨ n = 2 ∨ n = 3 ∨ n = 4 ∨ n = 5 ∨ n = 6 ∨ n = 7 ∨ n = 8 ∨ n = 9 ∨ n = 10) :
    Ctr l Z EL0 (⟨"com/example/lifecycle/lifecycle/internal/definition/BeanScopeNamedPinLaw", "cut", "([CI)Ljava/lang/String;"⟩ : MethodName) method_4_code 3 (some (.object "java/lang/String")) [] ({ frames := 4, cells := 6, slots := 34, locals := 90 } : Room) #[(.ref t), (.int n)] h [] (fun v h' => ∃ a cs, v = some (.ref a) ∧ Keep h h' [] ∧ Str Z h' a cs) := by
  refine Ctr.of pn1 O ?_
  intro p e s m below meth c s₁ hret hlk hnm X
  have hEL := hEL0 hw
  have KX : Keep h h [] := Keep.refl _ _
  replace X := X.cast (g' := (mkF m 0 #[.val (.ref t), .val (.int n), .unset] [])) (by first | (simp [entryFrame, mkF, argsToLocals, Value.category]; done) | rfl)
  obtain ⟨kt, ts, hlen, hbd, Vt⟩ := TT
  obtain ⟨t0, t1, t2, t3, t4, t5, t6, t7, t8, t9, rfl⟩ : ∃ t0 t1 t2 t3 t4 t5 t6 t7 t8 t9 : Int32, ts = [t0, t1, t2, t3, t4, t5, t6, t7, t8, t9] := by
    match ts, hlen with
    | [t0, t1, t2, t3, t4, t5, t6, t7, t8, t9], _ => exact ⟨t0, t1, t2, t3, t4, t5, t6, t7, t8, t9, rfl⟩
  have bt0 := hbd t0 (by simp)
  have bt1 := hbd t1 (by simp)
  have bt2 := hbd t2 (by simp)
  have bt3 := hbd t3 (by simp)
  have bt4 := hbd t4 (by simp)
  have bt5 := hbd t5 (by simp)
  have bt6 := hbd t6 (by simp)
  have bt7 := hbd t7 (by simp)
  have bt8 := hbd t8 (by simp)
  have bt9 := hbd t9 (by simp)
  rcases hn with rfl | rfl | rfl | rfl | rfl | rfl | rfl | rfl | rfl | rfl | rfl
  · skip
    replace X := X.iload_n (q := 1) d3_0 rfl rfl
    obtain ⟨b1, hpn0_1, kn0_3, gb1, nb1, En0_2, Vb1, X⟩ := X.newarray (q := 3) (aty := .char) (hw _ (List.mem_of_getElem? (i := 0) rfl)) d3_1 rfl (by decide) (cap := 0) (by decide) (by decide) (by decide) (by decide) 0
    have s_b1 : h.size ≤ b1 := by rw [gb1]; exact KX.1
    have ne_t_b1 : t ≠ b1 := by rw [gb1]; exact Nat.ne_of_lt Vt.lt
    replace KX := KX.ext En0_2
    replace Vt := Vt.ext En0_2
    replace X := X.astore_n (q := 4) (Ls' := #[.val (.ref t), .val (.int (0 : Int32)), .val (.ref b1)]) d3_3 rfl rfl rfl
    replace X := X.iload_n (q := 5) d3_4 rfl rfl
    replace X := X.ifYes (q := 14) d3_5 (flt (by decide : ¬ (0 : Int32) < (0 : Int32))).2.2.2 (by decide) (by decide)
    replace X := X.iload_n (q := 15) d3_14 rfl rfl
    replace X := X.iconst (q := 16) (z := (1 : Int32)) d3_15 rfl rfl
    replace X := X.icmpYes (q := 25) d3_16 (flt (by decide : ¬ (1 : Int32) < (0 : Int32))).2.2.2 (by decide) (by decide)
    replace X := X.iload_n (q := 26) d3_25 rfl rfl
    replace X := X.iconst (q := 27) (z := (2 : Int32)) d3_26 rfl rfl
    replace X := X.icmpYes (q := 36) d3_27 (flt (by decide : ¬ (2 : Int32) < (0 : Int32))).2.2.2 (by decide) (by decide)
    replace X := X.iload_n (q := 37) d3_36 rfl rfl
    replace X := X.iconst (q := 38) (z := (3 : Int32)) d3_37 rfl rfl
    replace X := X.icmpYes (q := 47) d3_38 (flt (by decide : ¬ (3 : Int32) < (0 : Int32))).2.2.2 (by decide) (by decide)
    replace X := X.iload_n (q := 48) d3_47 rfl rfl
    replace X := X.iconst (q := 49) (z := (4 : Int32)) d3_48 rfl rfl
    replace X := X.icmpYes (q := 58) d3_49 (flt (by decide : ¬ (4 : Int32) < (0 : Int32))).2.2.2 (by decide) (by decide)
    replace X := X.iload_n (q := 59) d3_58 rfl rfl
    replace X := X.iconst (q := 60) (z := (5 : Int32)) d3_59 rfl rfl
    replace X := X.icmpYes (q := 69) d3_60 (flt (by decide : ¬ (5 : Int32) < (0 : Int32))).2.2.2 (by decide) (by decide)
    replace X := X.iload_n (q := 70) d3_69 rfl rfl
    replace X := X.bipush (q := 72) (z := (6 : Int32)) d3_70 rfl rfl
    replace X := X.icmpYes (q := 83) d3_72 (flt (by decide : ¬ (6 : Int32) < (0 : Int32))).2.2.2 (by decide) (by decide)
    replace X := X.iload_n (q := 84) d3_83 rfl rfl
    replace X := X.bipush (q := 86) (z := (7 : Int32)) d3_84 rfl rfl
    replace X := X.icmpYes (q := 97) d3_86 (flt (by decide : ¬ (7 : Int32) < (0 : Int32))).2.2.2 (by decide) (by decide)
    replace X := X.iload_n (q := 98) d3_97 rfl rfl
    replace X := X.bipush (q := 100) (z := (8 : Int32)) d3_98 rfl rfl
    replace X := X.icmpYes (q := 111) d3_100 (flt (by decide : ¬ (8 : Int32) < (0 : Int32))).2.2.2 (by decide) (by decide)
    replace X := X.iload_n (q := 112) d3_111 rfl rfl
    replace X := X.bipush (q := 114) (z := (9 : Int32)) d3_112 rfl rfl
    replace X := X.icmpYes (q := 125) d3_114 (flt (by decide : ¬ (9 : Int32) < (0 : Int32))).2.2.2 (by decide) (by decide)
    obtain ⟨a1, hpn0_4, ga1, na1, En0_5, Aa1, Da1, X⟩ := X.new (C := "java/lang/String") (q := 128) (hw _ (List.mem_of_getElem? (i := 42) rfl)) (hw _ (List.mem_of_getElem? (i := 3) rfl)) (hw _ (List.mem_of_getElem? (i := 2) rfl)) d3_125 rfl (by decide) (by decide)
    have s_a1 : h.size ≤ a1 := by rw [ga1]; exact KX.1
    have ne_t_a1 : t ≠ a1 := by rw [ga1]; exact Nat.ne_of_lt Vt.lt
    have ne_b1_a1 : b1 ≠ a1 := by rw [ga1]; exact Nat.ne_of_lt Vb1.lt
    replace KX := KX.ext En0_5
    replace Vt := Vt.ext En0_5
    replace Vb1 := Vb1.ext En0_5
    have Fa1_value := Da1 (Or.inr (hw _ (List.mem_of_getElem? (i := 5) rfl))) (ty := (.array .byte)) (by decide)
    have Fa1_coder := Da1 (Or.inr (hw _ (List.mem_of_getElem? (i := 6) rfl))) (ty := .byte) (by decide)
    replace X := X.dup (q := 129) d3_128 rfl rfl
    replace X := X.aload_n (q := 130) d3_129 rfl rfl rfl
    obtain ⟨_, hpn0_7, ⟨rfl, Kn0_6, Sa1⟩, X⟩ := X.callI (q := 133) (rm_s1 hw O2 P5 O4 rG3 SC X.old Aa1 Fa1_value Fa1_coder na1 Vb1) hEL (by simp) rfl (hw _ (List.mem_of_getElem? (i := 43) rfl)) (hw _ (List.mem_of_getElem? (i := 44) rfl)) (hw _ (List.mem_of_getElem? (i := 2) rfl)) (hw _ (List.mem_of_getElem? (i := 45) rfl)) (by decide) pd1 (a := a1) (argsL := [(.ref b1)]) (rest := [(.ref a1)]) rfl rfl rfl rfl d3_130 (by decide) (by first | decide | exact Nat.le_of_ble_eq_true rfl) (by decide) (by decide) rfl
    replace X := X [(.ref a1)] rfl
    replace KX := KX.trans Kn0_6 (fun x q => by cases List.mem_singleton.mp q; exact Or.inr s_a1)
    replace Vt := Vt.keep Kn0_6 (ninS ne_t_a1 nin0)
    exact X.areturn hEL hret rfl rfl rfl hlk d3_133 (by decide) (by decide) ⟨a1, _, rfl, KX, Sa1⟩
  · skip
    replace X := X.iload_n (q := 1) d3_0 rfl rfl
    obtain ⟨b1, hpn1_1, kn1_3, gb1, nb1, En1_2, Vb1, X⟩ := X.newarray (q := 3) (aty := .char) (hw _ (List.mem_of_getElem? (i := 0) rfl)) d3_1 rfl (by decide) (cap := 1) (by decide) (by decide) (by decide) (by decide) 1
    have s_b1 : h.size ≤ b1 := by rw [gb1]; exact KX.1
    have ne_t_b1 : t ≠ b1 := by rw [gb1]; exact Nat.ne_of_lt Vt.lt
    replace KX := KX.ext En1_2
    replace Vt := Vt.ext En1_2
    replace X := X.astore_n (q := 4) (Ls' := #[.val (.ref t), .val (.int (1 : Int32)), .val (.ref b1)]) d3_3 rfl rfl rfl
    replace X := X.iload_n (q := 5) d3_4 rfl rfl
    replace X := X.ifNo (q := 8) d3_5 (tlt (by decide : (0 : Int32) < (1 : Int32))).2.2.2 rfl
    replace X := X.aload_n (q := 9) d3_8 rfl rfl rfl
    replace X := X.iconst (q := 10) (z := (0 : Int32)) d3_9 rfl rfl
    replace X := X.aload_n (q := 11) d3_10 rfl rfl rfl
    replace X := X.iconst (q := 12) (z := (0 : Int32)) d3_11 rfl rfl
    replace X := X.caload (q := 13) (v := .int t0) Vt (by decide) rfl d3_12 rfl
    obtain ⟨hpn1_4, Kn1_5, zhpn1_4, Vb1', X⟩ := X.castore (q := 14) Vb1 nb1 (by decide) (nar8 bt0) (i := 0) rfl (by first | decide | exact Nat.le_of_ble_eq_true rfl) d3_13 rfl
    replace KX := KX.trans Kn1_5 (fun x q => by cases List.mem_singleton.mp q; exact Or.inr s_b1)
    replace Vt := Vt.keep Kn1_5 (ninS ne_t_b1 nin0)
    replace Vb1 := Vb1'
    replace X := X.iload_n (q := 15) d3_14 rfl rfl
    replace X := X.iconst (q := 16) (z := (1 : Int32)) d3_15 rfl rfl
    replace X := X.icmpYes (q := 25) d3_16 (flt (by decide : ¬ (1 : Int32) < (1 : Int32))).2.2.2 (by decide) (by decide)
    replace X := X.iload_n (q := 26) d3_25 rfl rfl
    replace X := X.iconst (q := 27) (z := (2 : Int32)) d3_26 rfl rfl
    replace X := X.icmpYes (q := 36) d3_27 (flt (by decide : ¬ (2 : Int32) < (1 : Int32))).2.2.2 (by decide) (by decide)
    replace X := X.iload_n (q := 37) d3_36 rfl rfl
    replace X := X.iconst (q := 38) (z := (3 : Int32)) d3_37 rfl rfl
    replace X := X.icmpYes (q := 47) d3_38 (flt (by decide : ¬ (3 : Int32) < (1 : Int32))).2.2.2 (by decide) (by decide)
    replace X := X.iload_n (q := 48) d3_47 rfl rfl
    replace X := X.iconst (q := 49) (z := (4 : Int32)) d3_48 rfl rfl
    replace X := X.icmpYes (q := 58) d3_49 (flt (by decide : ¬ (4 : Int32) < (1 : Int32))).2.2.2 (by decide) (by decide)
    replace X := X.iload_n (q := 59) d3_58 rfl rfl
    replace X := X.iconst (q := 60) (z := (5 : Int32)) d3_59 rfl rfl
    replace X := X.icmpYes (q := 69) d3_60 (flt (by decide : ¬ (5 : Int32) < (1 : Int32))).2.2.2 (by decide) (by decide)
    replace X := X.iload_n (q := 70) d3_69 rfl rfl
    replace X := X.bipush (q := 72) (z := (6 : Int32)) d3_70 rfl rfl
    replace X := X.icmpYes (q := 83) d3_72 (flt (by decide : ¬ (6 : Int32) < (1 : Int32))).2.2.2 (by decide) (by decide)
    replace X := X.iload_n (q := 84) d3_83 rfl rfl
    replace X := X.bipush (q := 86) (z := (7 : Int32)) d3_84 rfl rfl
    replace X := X.icmpYes (q := 97) d3_86 (flt (by decide : ¬ (7 : Int32) < (1 : Int32))).2.2.2 (by decide) (by decide)
    replace X := X.iload_n (q := 98) d3_97 rfl rfl
    replace X := X.bipush (q := 100) (z := (8 : Int32)) d3_98 rfl rfl
    replace X := X.icmpYes (q := 111) d3_100 (flt (by decide : ¬ (8 : Int32) < (1 : Int32))).2.2.2 (by decide) (by decide)
    replace X := X.iload_n (q := 112) d3_111 rfl rfl
    replace X := X.bipush (q := 114) (z := (9 : Int32)) d3_112 rfl rfl
    replace X := X.icmpYes (q := 125) d3_114 (flt (by decide : ¬ (9 : Int32) < (1 : Int32))).2.2.2 (by decide) (by decide)
    obtain ⟨a1, hpn1_6, ga1, na1, En1_7, Aa1, Da1, X⟩ := X.new (C := "java/lang/String") (q := 128) (hw _ (List.mem_of_getElem? (i := 42) rfl)) (hw _ (List.mem_of_getElem? (i := 3) rfl)) (hw _ (List.mem_of_getElem? (i := 2) rfl)) d3_125 rfl (by decide) (by decide)
    have s_a1 : h.size ≤ a1 := by rw [ga1]; exact KX.1
    have ne_t_a1 : t ≠ a1 := by rw [ga1]; exact Nat.ne_of_lt Vt.lt
    have ne_b1_a1 : b1 ≠ a1 := by rw [ga1]; exact Nat.ne_of_lt Vb1.lt
    replace KX := KX.ext En1_7
    replace Vt := Vt.ext En1_7
    replace Vb1 := Vb1.ext En1_7
    have Fa1_value := Da1 (Or.inr (hw _ (List.mem_of_getElem? (i := 5) rfl))) (ty := (.array .byte)) (by decide)
    have Fa1_coder := Da1 (Or.inr (hw _ (List.mem_of_getElem? (i := 6) rfl))) (ty := .byte) (by decide)
    replace X := X.dup (q := 129) d3_128 rfl rfl
    replace X := X.aload_n (q := 130) d3_129 rfl rfl rfl
    replace Vb1 : Arv Z _ b1 kn1_3 .char (1 : Int32) (([t0] : List Int32).map Value.int) (.int 0) := Vb1
    obtain ⟨hpn1_8, Kn1_9, Sa1, X⟩ := X.strInit (q := 133) (hws_of hw) (hw _ (List.mem_of_getElem? (i := 3) rfl)) (hw _ (List.mem_of_getElem? (i := 43) rfl)) (hw _ (List.mem_of_getElem? (i := 44) rfl)) (hw _ (List.mem_of_getElem? (i := 45) rfl)) Aa1 Fa1_value Fa1_coder Vb1 O2 P5 na1 (by simp) (n := 1) rfl rfl (by decide) (by decide) (by intro c hc; simp only [List.mem_cons, List.not_mem_nil, or_false] at hc; rcases hc with rfl <;> assumption) rfl d3_130 (by decide) (by first | decide | exact Nat.le_of_ble_eq_true rfl) (by decide) (by decide) rfl
    replace KX := KX.trans Kn1_9 (fun x q => by cases List.mem_singleton.mp q; exact Or.inr s_a1)
    replace Vt := Vt.keep Kn1_9 (ninS ne_t_a1 nin0)
    exact X.areturn hEL hret rfl rfl rfl hlk d3_133 (by decide) (by decide) ⟨a1, _, rfl, KX, Sa1⟩
  · skip
    replace X := X.iload_n (q := 1) d3_0 rfl rfl
    obtain ⟨b1, hpn2_1, kn2_3, gb1, nb1, En2_2, Vb1, X⟩ := X.newarray (q := 3) (aty := .char) (hw _ (List.mem_of_getElem? (i := 0) rfl)) d3_1 rfl (by decide) (cap := 2) (by decide) (by decide) (by decide) (by decide) 2
    have s_b1 : h.size ≤ b1 := by rw [gb1]; exact KX.1
    have ne_t_b1 : t ≠ b1 := by rw [gb1]; exact Nat.ne_of_lt Vt.lt
    replace KX := KX.ext En2_2
    replace Vt := Vt.ext En2_2
    replace X := X.astore_n (q := 4) (Ls' := #[.val (.ref t), .val (.int (2 : Int32)), .val (.ref b1)]) d3_3 rfl rfl rfl
    replace X := X.iload_n (q := 5) d3_4 rfl rfl
    replace X := X.ifNo (q := 8) d3_5 (tlt (by decide : (0 : Int32) < (2 : Int32))).2.2.2 rfl
    replace X := X.aload_n (q := 9) d3_8 rfl rfl rfl
    replace X := X.iconst (q := 10) (z := (0 : Int32)) d3_9 rfl rfl
    replace X := X.aload_n (q := 11) d3_10 rfl rfl rfl
    replace X := X.iconst (q := 12) (z := (0 : Int32)) d3_11 rfl rfl
    replace X := X.caload (q := 13) (v := .int t0) Vt (by decide) rfl d3_12 rfl
    obtain ⟨hpn2_4, Kn2_5, zhpn2_4, Vb1', X⟩ := X.castore (q := 14) Vb1 nb1 (by decide) (nar8 bt0) (i := 0) rfl (by first | decide | exact Nat.le_of_ble_eq_true rfl) d3_13 rfl
    replace KX := KX.trans Kn2_5 (fun x q => by cases List.mem_singleton.mp q; exact Or.inr s_b1)
    replace Vt := Vt.keep Kn2_5 (ninS ne_t_b1 nin0)
    replace Vb1 := Vb1'
    replace X := X.iload_n (q := 15) d3_14 rfl rfl
    replace X := X.iconst (q := 16) (z := (1 : Int32)) d3_15 rfl rfl
    replace X := X.icmpNo (q := 19) d3_16 (tlt (by decide : (1 : Int32) < (2 : Int32))).2.2.2 rfl
    replace X := X.aload_n (q := 20) d3_19 rfl rfl rfl
    replace X := X.iconst (q := 21) (z := (1 : Int32)) d3_20 rfl rfl
    replace X := X.aload_n (q := 22) d3_21 rfl rfl rfl
    replace X := X.iconst (q := 23) (z := (1 : Int32)) d3_22 rfl rfl
    replace X := X.caload (q := 24) (v := .int t1) Vt (by decide) rfl d3_23 rfl
    obtain ⟨hpn2_6, Kn2_7, zhpn2_6, Vb1', X⟩ := X.castore (q := 25) Vb1 nb1 (by decide) (nar8 bt1) (i := 1) rfl (by first | decide | exact Nat.le_of_ble_eq_true rfl) d3_24 rfl
    replace KX := KX.trans Kn2_7 (fun x q => by cases List.mem_singleton.mp q; exact Or.inr s_b1)
    replace Vt := Vt.keep Kn2_7 (ninS ne_t_b1 nin0)
    replace Vb1 := Vb1'
    replace X := X.iload_n (q := 26) d3_25 rfl rfl
    replace X := X.iconst (q := 27) (z := (2 : Int32)) d3_26 rfl rfl
    replace X := X.icmpYes (q := 36) d3_27 (flt (by decide : ¬ (2 : Int32) < (2 : Int32))).2.2.2 (by decide) (by decide)
    replace X := X.iload_n (q := 37) d3_36 rfl rfl
    replace X := X.iconst (q := 38) (z := (3 : Int32)) d3_37 rfl rfl
    replace X := X.icmpYes (q := 47) d3_38 (flt (by decide : ¬ (3 : Int32) < (2 : Int32))).2.2.2 (by decide) (by decide)
    replace X := X.iload_n (q := 48) d3_47 rfl rfl
    replace X := X.iconst (q := 49) (z := (4 : Int32)) d3_48 rfl rfl
    replace X := X.icmpYes (q := 58) d3_49 (flt (by decide : ¬ (4 : Int32) < (2 : Int32))).2.2.2 (by decide) (by decide)
    replace X := X.iload_n (q := 59) d3_58 rfl rfl
    replace X := X.iconst (q := 60) (z := (5 : Int32)) d3_59 rfl rfl
    replace X := X.icmpYes (q := 69) d3_60 (flt (by decide : ¬ (5 : Int32) < (2 : Int32))).2.2.2 (by decide) (by decide)
    replace X := X.iload_n (q := 70) d3_69 rfl rfl
    replace X := X.bipush (q := 72) (z := (6 : Int32)) d3_70 rfl rfl
    replace X := X.icmpYes (q := 83) d3_72 (flt (by decide : ¬ (6 : Int32) < (2 : Int32))).2.2.2 (by decide) (by decide)
    replace X := X.iload_n (q := 84) d3_83 rfl rfl
    replace X := X.bipush (q := 86) (z := (7 : Int32)) d3_84 rfl rfl
    replace X := X.icmpYes (q := 97) d3_86 (flt (by decide : ¬ (7 : Int32) < (2 : Int32))).2.2.2 (by decide) (by decide)
    replace X := X.iload_n (q := 98) d3_97 rfl rfl
    replace X := X.bipush (q := 100) (z := (8 : Int32)) d3_98 rfl rfl
    replace X := X.icmpYes (q := 111) d3_100 (flt (by decide : ¬ (8 : Int32) < (2 : Int32))).2.2.2 (by decide) (by decide)
    replace X := X.iload_n (q := 112) d3_111 rfl rfl
    replace X := X.bipush (q := 114) (z := (9 : Int32)) d3_112 rfl rfl
    replace X := X.icmpYes (q := 125) d3_114 (flt (by decide : ¬ (9 : Int32) < (2 : Int32))).2.2.2 (by decide) (by decide)
    obtain ⟨a1, hpn2_8, ga1, na1, En2_9, Aa1, Da1, X⟩ := X.new (C := "java/lang/String") (q := 128) (hw _ (List.mem_of_getElem? (i := 42) rfl)) (hw _ (List.mem_of_getElem? (i := 3) rfl)) (hw _ (List.mem_of_getElem? (i := 2) rfl)) d3_125 rfl (by decide) (by decide)
    have s_a1 : h.size ≤ a1 := by rw [ga1]; exact KX.1
    have ne_t_a1 : t ≠ a1 := by rw [ga1]; exact Nat.ne_of_lt Vt.lt
    have ne_b1_a1 : b1 ≠ a1 := by rw [ga1]; exact Nat.ne_of_lt Vb1.lt
    replace KX := KX.ext En2_9
    replace Vt := Vt.ext En2_9
    replace Vb1 := Vb1.ext En2_9
    have Fa1_value := Da1 (Or.inr (hw _ (List.mem_of_getElem? (i := 5) rfl))) (ty := (.array .byte)) (by decide)
    have Fa1_coder := Da1 (Or.inr (hw _ (List.mem_of_getElem? (i := 6) rfl))) (ty := .byte) (by decide)
    replace X := X.dup (q := 129) d3_128 rfl rfl
    replace X := X.aload_n (q := 130) d3_129 rfl rfl rfl
    replace Vb1 : Arv Z _ b1 kn2_3 .char (2 : Int32) (([t0, t1] : List Int32).map Value.int) (.int 0) := Vb1
    obtain ⟨hpn2_10, Kn2_11, Sa1, X⟩ := X.strInit (q := 133) (hws_of hw) (hw _ (List.mem_of_getElem? (i := 3) rfl)) (hw _ (List.mem_of_getElem? (i := 43) rfl)) (hw _ (List.mem_of_getElem? (i := 44) rfl)) (hw _ (List.mem_of_getElem? (i := 45) rfl)) Aa1 Fa1_value Fa1_coder Vb1 O2 P5 na1 (by simp) (n := 2) rfl rfl (by decide) (by decide) (by intro c hc; simp only [List.mem_cons, List.not_mem_nil, or_false] at hc; rcases hc with rfl | rfl <;> assumption) rfl d3_130 (by decide) (by first | decide | exact Nat.le_of_ble_eq_true rfl) (by decide) (by decide) rfl
    replace KX := KX.trans Kn2_11 (fun x q => by cases List.mem_singleton.mp q; exact Or.inr s_a1)
    replace Vt := Vt.keep Kn2_11 (ninS ne_t_a1 nin0)
    exact X.areturn hEL hret rfl rfl rfl hlk d3_133 (by decide) (by decide) ⟨a1, _, rfl, KX, Sa1⟩
  · skip
    replace X := X.iload_n (q := 1) d3_0 rfl rfl
    obtain ⟨b1, hpn3_1, kn3_3, gb1, nb1, En3_2, Vb1, X⟩ := X.newarray (q := 3) (aty := .char) (hw _ (List.mem_of_getElem? (i := 0) rfl)) d3_1 rfl (by decide) (cap := 3) (by decide) (by decide) (by decide) (by decide) 3
    have s_b1 : h.size ≤ b1 := by rw [gb1]; exact KX.1
    have ne_t_b1 : t ≠ b1 := by rw [gb1]; exact Nat.ne_of_lt Vt.lt
    replace KX := KX.ext En3_2
    replace Vt := Vt.ext En3_2
    replace X := X.astore_n (q := 4) (Ls' := #[.val (.ref t), .val (.int (3 : Int32)), .val (.ref b1)]) d3_3 rfl rfl rfl
    replace X := X.iload_n (q := 5) d3_4 rfl rfl
    replace X := X.ifNo (q := 8) d3_5 (tlt (by decide : (0 : Int32) < (3 : Int32))).2.2.2 rfl
    replace X := X.aload_n (q := 9) d3_8 rfl rfl rfl
    replace X := X.iconst (q := 10) (z := (0 : Int32)) d3_9 rfl rfl
    replace X := X.aload_n (q := 11) d3_10 rfl rfl rfl
    replace X := X.iconst (q := 12) (z := (0 : Int32)) d3_11 rfl rfl
    replace X := X.caload (q := 13) (v := .int t0) Vt (by decide) rfl d3_12 rfl
    obtain ⟨hpn3_4, Kn3_5, zhpn3_4, Vb1', X⟩ := X.castore (q := 14) Vb1 nb1 (by decide) (nar8 bt0) (i := 0) rfl (by first | decide | exact Nat.le_of_ble_eq_true rfl) d3_13 rfl
    replace KX := KX.trans Kn3_5 (fun x q => by cases List.mem_singleton.mp q; exact Or.inr s_b1)
    replace Vt := Vt.keep Kn3_5 (ninS ne_t_b1 nin0)
    replace Vb1 := Vb1'
    replace X := X.iload_n (q := 15) d3_14 rfl rfl
    replace X := X.iconst (q := 16) (z := (1 : Int32)) d3_15 rfl rfl
    replace X := X.icmpNo (q := 19) d3_16 (tlt (by decide : (1 : Int32) < (3 : Int32))).2.2.2 rfl
    replace X := X.aload_n (q := 20) d3_19 rfl rfl rfl
    replace X := X.iconst (q := 21) (z := (1 : Int32)) d3_20 rfl rfl
    replace X := X.aload_n (q := 22) d3_21 rfl rfl rfl
    replace X := X.iconst (q := 23) (z := (1 : Int32)) d3_22 rfl rfl
    replace X := X.caload (q := 24) (v := .int t1) Vt (by decide) rfl d3_23 rfl
    obtain ⟨hpn3_6, Kn3_7, zhpn3_6, Vb1', X⟩ := X.castore (q := 25) Vb1 nb1 (by decide) (nar8 bt1) (i := 1) rfl (by first | decide | exact Nat.le_of_ble_eq_true rfl) d3_24 rfl
    replace KX := KX.trans Kn3_7 (fun x q => by cases List.mem_singleton.mp q; exact Or.inr s_b1)
    replace Vt := Vt.keep Kn3_7 (ninS ne_t_b1 nin0)
    replace Vb1 := Vb1'
    replace X := X.iload_n (q := 26) d3_25 rfl rfl
    replace X := X.iconst (q := 27) (z := (2 : Int32)) d3_26 rfl rfl
    replace X := X.icmpNo (q := 30) d3_27 (tlt (by decide : (2 : Int32) < (3 : Int32))).2.2.2 rfl
    replace X := X.aload_n (q := 31) d3_30 rfl rfl rfl
    replace X := X.iconst (q := 32) (z := (2 : Int32)) d3_31 rfl rfl
    replace X := X.aload_n (q := 33) d3_32 rfl rfl rfl
    replace X := X.iconst (q := 34) (z := (2 : Int32)) d3_33 rfl rfl
    replace X := X.caload (q := 35) (v := .int t2) Vt (by decide) rfl d3_34 rfl
    obtain ⟨hpn3_8, Kn3_9, zhpn3_8, Vb1', X⟩ := X.castore (q := 36) Vb1 nb1 (by decide) (nar8 bt2) (i := 2) rfl (by first | decide | exact Nat.le_of_ble_eq_true rfl) d3_35 rfl
    replace KX := KX.trans Kn3_9 (fun x q => by cases List.mem_singleton.mp q; exact Or.inr s_b1)
    replace Vt := Vt.keep Kn3_9 (ninS ne_t_b1 nin0)
    replace Vb1 := Vb1'
    replace X := X.iload_n (q := 37) d3_36 rfl rfl
    replace X := X.iconst (q := 38) (z := (3 : Int32)) d3_37 rfl rfl
    replace X := X.icmpYes (q := 47) d3_38 (flt (by decide : ¬ (3 : Int32) < (3 : Int32))).2.2.2 (by decide) (by decide)
    replace X := X.iload_n (q := 48) d3_47 rfl rfl
    replace X := X.iconst (q := 49) (z := (4 : Int32)) d3_48 rfl rfl
    replace X := X.icmpYes (q := 58) d3_49 (flt (by decide : ¬ (4 : Int32) < (3 : Int32))).2.2.2 (by decide) (by decide)
    replace X := X.iload_n (q := 59) d3_58 rfl rfl
    replace X := X.iconst (q := 60) (z := (5 : Int32)) d3_59 rfl rfl
    replace X := X.icmpYes (q := 69) d3_60 (flt (by decide : ¬ (5 : Int32) < (3 : Int32))).2.2.2 (by decide) (by decide)
    replace X := X.iload_n (q := 70) d3_69 rfl rfl
    replace X := X.bipush (q := 72) (z := (6 : Int32)) d3_70 rfl rfl
    replace X := X.icmpYes (q := 83) d3_72 (flt (by decide : ¬ (6 : Int32) < (3 : Int32))).2.2.2 (by decide) (by decide)
    replace X := X.iload_n (q := 84) d3_83 rfl rfl
    replace X := X.bipush (q := 86) (z := (7 : Int32)) d3_84 rfl rfl
    replace X := X.icmpYes (q := 97) d3_86 (flt (by decide : ¬ (7 : Int32) < (3 : Int32))).2.2.2 (by decide) (by decide)
    replace X := X.iload_n (q := 98) d3_97 rfl rfl
    replace X := X.bipush (q := 100) (z := (8 : Int32)) d3_98 rfl rfl
    replace X := X.icmpYes (q := 111) d3_100 (flt (by decide : ¬ (8 : Int32) < (3 : Int32))).2.2.2 (by decide) (by decide)
    replace X := X.iload_n (q := 112) d3_111 rfl rfl
    replace X := X.bipush (q := 114) (z := (9 : Int32)) d3_112 rfl rfl
    replace X := X.icmpYes (q := 125) d3_114 (flt (by decide : ¬ (9 : Int32) < (3 : Int32))).2.2.2 (by decide) (by decide)
    obtain ⟨a1, hpn3_10, ga1, na1, En3_11, Aa1, Da1, X⟩ := X.new (C := "java/lang/String") (q := 128) (hw _ (List.mem_of_getElem? (i := 42) rfl)) (hw _ (List.mem_of_getElem? (i := 3) rfl)) (hw _ (List.mem_of_getElem? (i := 2) rfl)) d3_125 rfl (by decide) (by decide)
    have s_a1 : h.size ≤ a1 := by rw [ga1]; exact KX.1
    have ne_t_a1 : t ≠ a1 := by rw [ga1]; exact Nat.ne_of_lt Vt.lt
    have ne_b1_a1 : b1 ≠ a1 := by rw [ga1]; exact Nat.ne_of_lt Vb1.lt
    replace KX := KX.ext En3_11
    replace Vt := Vt.ext En3_11
    replace Vb1 := Vb1.ext En3_11
    have Fa1_value := Da1 (Or.inr (hw _ (List.mem_of_getElem? (i := 5) rfl))) (ty := (.array .byte)) (by decide)
    have Fa1_coder := Da1 (Or.inr (hw _ (List.mem_of_getElem? (i := 6) rfl))) (ty := .byte) (by decide)
    replace X := X.dup (q := 129) d3_128 rfl rfl
    replace X := X.aload_n (q := 130) d3_129 rfl rfl rfl
    replace Vb1 : Arv Z _ b1 kn3_3 .char (3 : Int32) (([t0, t1, t2] : List Int32).map Value.int) (.int 0) := Vb1
    obtain ⟨hpn3_12, Kn3_13, Sa1, X⟩ := X.strInit (q := 133) (hws_of hw) (hw _ (List.mem_of_getElem? (i := 3) rfl)) (hw _ (List.mem_of_getElem? (i := 43) rfl)) (hw _ (List.mem_of_getElem? (i := 44) rfl)) (hw _ (List.mem_of_getElem? (i := 45) rfl)) Aa1 Fa1_value Fa1_coder Vb1 O2 P5 na1 (by simp) (n := 3) rfl rfl (by decide) (by decide) (by intro c hc; simp only [List.mem_cons, List.not_mem_nil, or_false] at hc; rcases hc with rfl | rfl | rfl <;> assumption) rfl d3_130 (by decide) (by first | decide | exact Nat.le_of_ble_eq_true rfl) (by decide) (by decide) rfl
    replace KX := KX.trans Kn3_13 (fun x q => by cases List.mem_singleton.mp q; exact Or.inr s_a1)
    replace Vt := Vt.keep Kn3_13 (ninS ne_t_a1 nin0)
    exact X.areturn hEL hret rfl rfl rfl hlk d3_133 (by decide) (by decide) ⟨a1, _, rfl, KX, Sa1⟩
  · skip
    replace X := X.iload_n (q := 1) d3_0 rfl rfl
    obtain ⟨b1, hpn4_1, kn4_3, gb1, nb1, En4_2, Vb1, X⟩ := X.newarray (q := 3) (aty := .char) (hw _ (List.mem_of_getElem? (i := 0) rfl)) d3_1 rfl (by decide) (cap := 4) (by decide) (by decide) (by decide) (by decide) 4
    have s_b1 : h.size ≤ b1 := by rw [gb1]; exact KX.1
    have ne_t_b1 : t ≠ b1 := by rw [gb1]; exact Nat.ne_of_lt Vt.lt
    replace KX := KX.ext En4_2
    replace Vt := Vt.ext En4_2
    replace X := X.astore_n (q := 4) (Ls' := #[.val (.ref t), .val (.int (4 : Int32)), .val (.ref b1)]) d3_3 rfl rfl rfl
    replace X := X.iload_n (q := 5) d3_4 rfl rfl
    replace X := X.ifNo (q := 8) d3_5 (tlt (by decide : (0 : Int32) < (4 : Int32))).2.2.2 rfl
    replace X := X.aload_n (q := 9) d3_8 rfl rfl rfl
    replace X := X.iconst (q := 10) (z := (0 : Int32)) d3_9 rfl rfl
    replace X := X.aload_n (q := 11) d3_10 rfl rfl rfl
    replace X := X.iconst (q := 12) (z := (0 : Int32)) d3_11 rfl rfl
    replace X := X.caload (q := 13) (v := .int t0) Vt (by decide) rfl d3_12 rfl
    obtain ⟨hpn4_4, Kn4_5, zhpn4_4, Vb1', X⟩ := X.castore (q := 14) Vb1 nb1 (by decide) (nar8 bt0) (i := 0) rfl (by first | decide | exact Nat.le_of_ble_eq_true rfl) d3_13 rfl
    replace KX := KX.trans Kn4_5 (fun x q => by cases List.mem_singleton.mp q; exact Or.inr s_b1)
    replace Vt := Vt.keep Kn4_5 (ninS ne_t_b1 nin0)
    replace Vb1 := Vb1'
    replace X := X.iload_n (q := 15) d3_14 rfl rfl
    replace X := X.iconst (q := 16) (z := (1 : Int32)) d3_15 rfl rfl
    replace X := X.icmpNo (q := 19) d3_16 (tlt (by decide : (1 : Int32) < (4 : Int32))).2.2.2 rfl
    replace X := X.aload_n (q := 20) d3_19 rfl rfl rfl
    replace X := X.iconst (q := 21) (z := (1 : Int32)) d3_20 rfl rfl
    replace X := X.aload_n (q := 22) d3_21 rfl rfl rfl
    replace X := X.iconst (q := 23) (z := (1 : Int32)) d3_22 rfl rfl
    replace X := X.caload (q := 24) (v := .int t1) Vt (by decide) rfl d3_23 rfl
    obtain ⟨hpn4_6, Kn4_7, zhpn4_6, Vb1', X⟩ := X.castore (q := 25) Vb1 nb1 (by decide) (nar8 bt1) (i := 1) rfl (by first | decide | exact Nat.le_of_ble_eq_true rfl) d3_24 rfl
    replace KX := KX.trans Kn4_7 (fun x q => by cases List.mem_singleton.mp q; exact Or.inr s_b1)
    replace Vt := Vt.keep Kn4_7 (ninS ne_t_b1 nin0)
    replace Vb1 := Vb1'
    replace X := X.iload_n (q := 26) d3_25 rfl rfl
    replace X := X.iconst (q := 27) (z := (2 : Int32)) d3_26 rfl rfl
    replace X := X.icmpNo (q := 30) d3_27 (tlt (by decide : (2 : Int32) < (4 : Int32))).2.2.2 rfl
    replace X := X.aload_n (q := 31) d3_30 rfl rfl rfl
    replace X := X.iconst (q := 32) (z := (2 : Int32)) d3_31 rfl rfl
    replace X := X.aload_n (q := 33) d3_32 rfl rfl rfl
    replace X := X.iconst (q := 34) (z := (2 : Int32)) d3_33 rfl rfl
    replace X := X.caload (q := 35) (v := .int t2) Vt (by decide) rfl d3_34 rfl
    obtain ⟨hpn4_8, Kn4_9, zhpn4_8, Vb1', X⟩ := X.castore (q := 36) Vb1 nb1 (by decide) (nar8 bt2) (i := 2) rfl (by first | decide | exact Nat.le_of_ble_eq_true rfl) d3_35 rfl
    replace KX := KX.trans Kn4_9 (fun x q => by cases List.mem_singleton.mp q; exact Or.inr s_b1)
    replace Vt := Vt.keep Kn4_9 (ninS ne_t_b1 nin0)
    replace Vb1 := Vb1'
    replace X := X.iload_n (q := 37) d3_36 rfl rfl
    replace X := X.iconst (q := 38) (z := (3 : Int32)) d3_37 rfl rfl
    replace X := X.icmpNo (q := 41) d3_38 (tlt (by decide : (3 : Int32) < (4 : Int32))).2.2.2 rfl
    replace X := X.aload_n (q := 42) d3_41 rfl rfl rfl
    replace X := X.iconst (q := 43) (z := (3 : Int32)) d3_42 rfl rfl
    replace X := X.aload_n (q := 44) d3_43 rfl rfl rfl
    replace X := X.iconst (q := 45) (z := (3 : Int32)) d3_44 rfl rfl
    replace X := X.caload (q := 46) (v := .int t3) Vt (by decide) rfl d3_45 rfl
    obtain ⟨hpn4_10, Kn4_11, zhpn4_10, Vb1', X⟩ := X.castore (q := 47) Vb1 nb1 (by decide) (nar8 bt3) (i := 3) rfl (by first | decide | exact Nat.le_of_ble_eq_true rfl) d3_46 rfl
    replace KX := KX.trans Kn4_11 (fun x q => by cases List.mem_singleton.mp q; exact Or.inr s_b1)
    replace Vt := Vt.keep Kn4_11 (ninS ne_t_b1 nin0)
    replace Vb1 := Vb1'
    replace X := X.iload_n (q := 48) d3_47 rfl rfl
    replace X := X.iconst (q := 49) (z := (4 : Int32)) d3_48 rfl rfl
    replace X := X.icmpYes (q := 58) d3_49 (flt (by decide : ¬ (4 : Int32) < (4 : Int32))).2.2.2 (by decide) (by decide)
    replace X := X.iload_n (q := 59) d3_58 rfl rfl
    replace X := X.iconst (q := 60) (z := (5 : Int32)) d3_59 rfl rfl
    replace X := X.icmpYes (q := 69) d3_60 (flt (by decide : ¬ (5 : Int32) < (4 : Int32))).2.2.2 (by decide) (by decide)
    replace X := X.iload_n (q := 70) d3_69 rfl rfl
    replace X := X.bipush (q := 72) (z := (6 : Int32)) d3_70 rfl rfl
    replace X := X.icmpYes (q := 83) d3_72 (flt (by decide : ¬ (6 : Int32) < (4 : Int32))).2.2.2 (by decide) (by decide)
    replace X := X.iload_n (q := 84) d3_83 rfl rfl
    replace X := X.bipush (q := 86) (z := (7 : Int32)) d3_84 rfl rfl
    replace X := X.icmpYes (q := 97) d3_86 (flt (by decide : ¬ (7 : Int32) < (4 : Int32))).2.2.2 (by decide) (by decide)
    replace X := X.iload_n (q := 98) d3_97 rfl rfl
    replace X := X.bipush (q := 100) (z := (8 : Int32)) d3_98 rfl rfl
    replace X := X.icmpYes (q := 111) d3_100 (flt (by decide : ¬ (8 : Int32) < (4 : Int32))).2.2.2 (by decide) (by decide)
    replace X := X.iload_n (q := 112) d3_111 rfl rfl
    replace X := X.bipush (q := 114) (z := (9 : Int32)) d3_112 rfl rfl
    replace X := X.icmpYes (q := 125) d3_114 (flt (by decide : ¬ (9 : Int32) < (4 : Int32))).2.2.2 (by decide) (by decide)
    obtain ⟨a1, hpn4_12, ga1, na1, En4_13, Aa1, Da1, X⟩ := X.new (C := "java/lang/String") (q := 128) (hw _ (List.mem_of_getElem? (i := 42) rfl)) (hw _ (List.mem_of_getElem? (i := 3) rfl)) (hw _ (List.mem_of_getElem? (i := 2) rfl)) d3_125 rfl (by decide) (by decide)
    have s_a1 : h.size ≤ a1 := by rw [ga1]; exact KX.1
    have ne_t_a1 : t ≠ a1 := by rw [ga1]; exact Nat.ne_of_lt Vt.lt
    have ne_b1_a1 : b1 ≠ a1 := by rw [ga1]; exact Nat.ne_of_lt Vb1.lt
    replace KX := KX.ext En4_13
    replace Vt := Vt.ext En4_13
    replace Vb1 := Vb1.ext En4_13
    have Fa1_value := Da1 (Or.inr (hw _ (List.mem_of_getElem? (i := 5) rfl))) (ty := (.array .byte)) (by decide)
    have Fa1_coder := Da1 (Or.inr (hw _ (List.mem_of_getElem? (i := 6) rfl))) (ty := .byte) (by decide)
    replace X := X.dup (q := 129) d3_128 rfl rfl
    replace X := X.aload_n (q := 130) d3_129 rfl rfl rfl
    replace Vb1 : Arv Z _ b1 kn4_3 .char (4 : Int32) (([t0, t1, t2, t3] : List Int32).map Value.int) (.int 0) := Vb1
    obtain ⟨hpn4_14, Kn4_15, Sa1, X⟩ := X.strInit (q := 133) (hws_of hw) (hw _ (List.mem_of_getElem? (i := 3) rfl)) (hw _ (List.mem_of_getElem? (i := 43) rfl)) (hw _ (List.mem_of_getElem? (i := 44) rfl)) (hw _ (List.mem_of_getElem? (i := 45) rfl)) Aa1 Fa1_value Fa1_coder Vb1 O2 P5 na1 (by simp) (n := 4) rfl rfl (by decide) (by decide) (by intro c hc; simp only [List.mem_cons, List.not_mem_nil, or_false] at hc; rcases hc with rfl | rfl | rfl | rfl <;> assumption) rfl d3_130 (by decide) (by first | decide | exact Nat.le_of_ble_eq_true rfl) (by decide) (by decide) rfl
    replace KX := KX.trans Kn4_15 (fun x q => by cases List.mem_singleton.mp q; exact Or.inr s_a1)
    replace Vt := Vt.keep Kn4_15 (ninS ne_t_a1 nin0)
    exact X.areturn hEL hret rfl rfl rfl hlk d3_133 (by decide) (by decide) ⟨a1, _, rfl, KX, Sa1⟩
  · skip
    replace X := X.iload_n (q := 1) d3_0 rfl rfl
    obtain ⟨b1, hpn5_1, kn5_3, gb1, nb1, En5_2, Vb1, X⟩ := X.newarray (q := 3) (aty := .char) (hw _ (List.mem_of_getElem? (i := 0) rfl)) d3_1 rfl (by decide) (cap := 5) (by decide) (by decide) (by decide) (by decide) 5
    have s_b1 : h.size ≤ b1 := by rw [gb1]; exact KX.1
    have ne_t_b1 : t ≠ b1 := by rw [gb1]; exact Nat.ne_of_lt Vt.lt
    replace KX := KX.ext En5_2
    replace Vt := Vt.ext En5_2
    replace X := X.astore_n (q := 4) (Ls' := #[.val (.ref t), .val (.int (5 : Int32)), .val (.ref b1)]) d3_3 rfl rfl rfl
    replace X := X.iload_n (q := 5) d3_4 rfl rfl
    replace X := X.ifNo (q := 8) d3_5 (tlt (by decide : (0 : Int32) < (5 : Int32))).2.2.2 rfl
    replace X := X.aload_n (q := 9) d3_8 rfl rfl rfl
    replace X := X.iconst (q := 10) (z := (0 : Int32)) d3_9 rfl rfl
    replace X := X.aload_n (q := 11) d3_10 rfl rfl rfl
    replace X := X.iconst (q := 12) (z := (0 : Int32)) d3_11 rfl rfl
    replace X := X.caload (q := 13) (v := .int t0) Vt (by decide) rfl d3_12 rfl
    obtain ⟨hpn5_4, Kn5_5, zhpn5_4, Vb1', X⟩ := X.castore (q := 14) Vb1 nb1 (by decide) (nar8 bt0) (i := 0) rfl (by first | decide | exact Nat.le_of_ble_eq_true rfl) d3_13 rfl
    replace KX := KX.trans Kn5_5 (fun x q => by cases List.mem_singleton.mp q; exact Or.inr s_b1)
    replace Vt := Vt.keep Kn5_5 (ninS ne_t_b1 nin0)
    replace Vb1 := Vb1'
    replace X := X.iload_n (q := 15) d3_14 rfl rfl
    replace X := X.iconst (q := 16) (z := (1 : Int32)) d3_15 rfl rfl
    replace X := X.icmpNo (q := 19) d3_16 (tlt (by decide : (1 : Int32) < (5 : Int32))).2.2.2 rfl
    replace X := X.aload_n (q := 20) d3_19 rfl rfl rfl
    replace X := X.iconst (q := 21) (z := (1 : Int32)) d3_20 rfl rfl
    replace X := X.aload_n (q := 22) d3_21 rfl rfl rfl
    replace X := X.iconst (q := 23) (z := (1 : Int32)) d3_22 rfl rfl
    replace X := X.caload (q := 24) (v := .int t1) Vt (by decide) rfl d3_23 rfl
    obtain ⟨hpn5_6, Kn5_7, zhpn5_6, Vb1', X⟩ := X.castore (q := 25) Vb1 nb1 (by decide) (nar8 bt1) (i := 1) rfl (by first | decide | exact Nat.le_of_ble_eq_true rfl) d3_24 rfl
    replace KX := KX.trans Kn5_7 (fun x q => by cases List.mem_singleton.mp q; exact Or.inr s_b1)
    replace Vt := Vt.keep Kn5_7 (ninS ne_t_b1 nin0)
    replace Vb1 := Vb1'
    replace X := X.iload_n (q := 26) d3_25 rfl rfl
    replace X := X.iconst (q := 27) (z := (2 : Int32)) d3_26 rfl rfl
    replace X := X.icmpNo (q := 30) d3_27 (tlt (by decide : (2 : Int32) < (5 : Int32))).2.2.2 rfl
    replace X := X.aload_n (q := 31) d3_30 rfl rfl rfl
    replace X := X.iconst (q := 32) (z := (2 : Int32)) d3_31 rfl rfl
    replace X := X.aload_n (q := 33) d3_32 rfl rfl rfl
    replace X := X.iconst (q := 34) (z := (2 : Int32)) d3_33 rfl rfl
    replace X := X.caload (q := 35) (v := .int t2) Vt (by decide) rfl d3_34 rfl
    obtain ⟨hpn5_8, Kn5_9, zhpn5_8, Vb1', X⟩ := X.castore (q := 36) Vb1 nb1 (by decide) (nar8 bt2) (i := 2) rfl (by first | decide | exact Nat.le_of_ble_eq_true rfl) d3_35 rfl
    replace KX := KX.trans Kn5_9 (fun x q => by cases List.mem_singleton.mp q; exact Or.inr s_b1)
    replace Vt := Vt.keep Kn5_9 (ninS ne_t_b1 nin0)
    replace Vb1 := Vb1'
    replace X := X.iload_n (q := 37) d3_36 rfl rfl
    replace X := X.iconst (q := 38) (z := (3 : Int32)) d3_37 rfl rfl
    replace X := X.icmpNo (q := 41) d3_38 (tlt (by decide : (3 : Int32) < (5 : Int32))).2.2.2 rfl
    replace X := X.aload_n (q := 42) d3_41 rfl rfl rfl
    replace X := X.iconst (q := 43) (z := (3 : Int32)) d3_42 rfl rfl
    replace X := X.aload_n (q := 44) d3_43 rfl rfl rfl
    replace X := X.iconst (q := 45) (z := (3 : Int32)) d3_44 rfl rfl
    replace X := X.caload (q := 46) (v := .int t3) Vt (by decide) rfl d3_45 rfl
    obtain ⟨hpn5_10, Kn5_11, zhpn5_10, Vb1', X⟩ := X.castore (q := 47) Vb1 nb1 (by decide) (nar8 bt3) (i := 3) rfl (by first | decide | exact Nat.le_of_ble_eq_true rfl) d3_46 rfl
    replace KX := KX.trans Kn5_11 (fun x q => by cases List.mem_singleton.mp q; exact Or.inr s_b1)
    replace Vt := Vt.keep Kn5_11 (ninS ne_t_b1 nin0)
    replace Vb1 := Vb1'
    replace X := X.iload_n (q := 48) d3_47 rfl rfl
    replace X := X.iconst (q := 49) (z := (4 : Int32)) d3_48 rfl rfl
    replace X := X.icmpNo (q := 52) d3_49 (tlt (by decide : (4 : Int32) < (5 : Int32))).2.2.2 rfl
    replace X := X.aload_n (q := 53) d3_52 rfl rfl rfl
    replace X := X.iconst (q := 54) (z := (4 : Int32)) d3_53 rfl rfl
    replace X := X.aload_n (q := 55) d3_54 rfl rfl rfl
    replace X := X.iconst (q := 56) (z := (4 : Int32)) d3_55 rfl rfl
    replace X := X.caload (q := 57) (v := .int t4) Vt (by decide) rfl d3_56 rfl
    obtain ⟨hpn5_12, Kn5_13, zhpn5_12, Vb1', X⟩ := X.castore (q := 58) Vb1 nb1 (by decide) (nar8 bt4) (i := 4) rfl (by first | decide | exact Nat.le_of_ble_eq_true rfl) d3_57 rfl
    replace KX := KX.trans Kn5_13 (fun x q => by cases List.mem_singleton.mp q; exact Or.inr s_b1)
    replace Vt := Vt.keep Kn5_13 (ninS ne_t_b1 nin0)
    replace Vb1 := Vb1'
    replace X := X.iload_n (q := 59) d3_58 rfl rfl
    replace X := X.iconst (q := 60) (z := (5 : Int32)) d3_59 rfl rfl
    replace X := X.icmpYes (q := 69) d3_60 (flt (by decide : ¬ (5 : Int32) < (5 : Int32))).2.2.2 (by decide) (by decide)
    replace X := X.iload_n (q := 70) d3_69 rfl rfl
    replace X := X.bipush (q := 72) (z := (6 : Int32)) d3_70 rfl rfl
    replace X := X.icmpYes (q := 83) d3_72 (flt (by decide : ¬ (6 : Int32) < (5 : Int32))).2.2.2 (by decide) (by decide)
    replace X := X.iload_n (q := 84) d3_83 rfl rfl
    replace X := X.bipush (q := 86) (z := (7 : Int32)) d3_84 rfl rfl
    replace X := X.icmpYes (q := 97) d3_86 (flt (by decide : ¬ (7 : Int32) < (5 : Int32))).2.2.2 (by decide) (by decide)
    replace X := X.iload_n (q := 98) d3_97 rfl rfl
    replace X := X.bipush (q := 100) (z := (8 : Int32)) d3_98 rfl rfl
    replace X := X.icmpYes (q := 111) d3_100 (flt (by decide : ¬ (8 : Int32) < (5 : Int32))).2.2.2 (by decide) (by decide)
    replace X := X.iload_n (q := 112) d3_111 rfl rfl
    replace X := X.bipush (q := 114) (z := (9 : Int32)) d3_112 rfl rfl
    replace X := X.icmpYes (q := 125) d3_114 (flt (by decide : ¬ (9 : Int32) < (5 : Int32))).2.2.2 (by decide) (by decide)
    obtain ⟨a1, hpn5_14, ga1, na1, En5_15, Aa1, Da1, X⟩ := X.new (C := "java/lang/String") (q := 128) (hw _ (List.mem_of_getElem? (i := 42) rfl)) (hw _ (List.mem_of_getElem? (i := 3) rfl)) (hw _ (List.mem_of_getElem? (i := 2) rfl)) d3_125 rfl (by decide) (by decide)
    have s_a1 : h.size ≤ a1 := by rw [ga1]; exact KX.1
    have ne_t_a1 : t ≠ a1 := by rw [ga1]; exact Nat.ne_of_lt Vt.lt
    have ne_b1_a1 : b1 ≠ a1 := by rw [ga1]; exact Nat.ne_of_lt Vb1.lt
    replace KX := KX.ext En5_15
    replace Vt := Vt.ext En5_15
    replace Vb1 := Vb1.ext En5_15
    have Fa1_value := Da1 (Or.inr (hw _ (List.mem_of_getElem? (i := 5) rfl))) (ty := (.array .byte)) (by decide)
    have Fa1_coder := Da1 (Or.inr (hw _ (List.mem_of_getElem? (i := 6) rfl))) (ty := .byte) (by decide)
    replace X := X.dup (q := 129) d3_128 rfl rfl
    replace X := X.aload_n (q := 130) d3_129 rfl rfl rfl
    replace Vb1 : Arv Z _ b1 kn5_3 .char (5 : Int32) (([t0, t1, t2, t3, t4] : List Int32).map Value.int) (.int 0) := Vb1
    obtain ⟨hpn5_16, Kn5_17, Sa1, X⟩ := X.strInit (q := 133) (hws_of hw) (hw _ (List.mem_of_getElem? (i := 3) rfl)) (hw _ (List.mem_of_getElem? (i := 43) rfl)) (hw _ (List.mem_of_getElem? (i := 44) rfl)) (hw _ (List.mem_of_getElem? (i := 45) rfl)) Aa1 Fa1_value Fa1_coder Vb1 O2 P5 na1 (by simp) (n := 5) rfl rfl (by decide) (by decide) (by intro c hc; simp only [List.mem_cons, List.not_mem_nil, or_false] at hc; rcases hc with rfl | rfl | rfl | rfl | rfl <;> assumption) rfl d3_130 (by decide) (by first | decide | exact Nat.le_of_ble_eq_true rfl) (by decide) (by decide) rfl
    replace KX := KX.trans Kn5_17 (fun x q => by cases List.mem_singleton.mp q; exact Or.inr s_a1)
    replace Vt := Vt.keep Kn5_17 (ninS ne_t_a1 nin0)
    exact X.areturn hEL hret rfl rfl rfl hlk d3_133 (by decide) (by decide) ⟨a1, _, rfl, KX, Sa1⟩
  · skip
    replace X := X.iload_n (q := 1) d3_0 rfl rfl
    obtain ⟨b1, hpn6_1, kn6_3, gb1, nb1, En6_2, Vb1, X⟩ := X.newarray (q := 3) (aty := .char) (hw _ (List.mem_of_getElem? (i := 0) rfl)) d3_1 rfl (by decide) (cap := 6) (by decide) (by decide) (by decide) (by decide) 6
    have s_b1 : h.size ≤ b1 := by rw [gb1]; exact KX.1
    have ne_t_b1 : t ≠ b1 := by rw [gb1]; exact Nat.ne_of_lt Vt.lt
    replace KX := KX.ext En6_2
    replace Vt := Vt.ext En6_2
    replace X := X.astore_n (q := 4) (Ls' := #[.val (.ref t), .val (.int (6 : Int32)), .val (.ref b1)]) d3_3 rfl rfl rfl
    replace X := X.iload_n (q := 5) d3_4 rfl rfl
    replace X := X.ifNo (q := 8) d3_5 (tlt (by decide : (0 : Int32) < (6 : Int32))).2.2.2 rfl
    replace X := X.aload_n (q := 9) d3_8 rfl rfl rfl
    replace X := X.iconst (q := 10) (z := (0 : Int32)) d3_9 rfl rfl
    replace X := X.aload_n (q := 11) d3_10 rfl rfl rfl
    replace X := X.iconst (q := 12) (z := (0 : Int32)) d3_11 rfl rfl
    replace X := X.caload (q := 13) (v := .int t0) Vt (by decide) rfl d3_12 rfl
    obtain ⟨hpn6_4, Kn6_5, zhpn6_4, Vb1', X⟩ := X.castore (q := 14) Vb1 nb1 (by decide) (nar8 bt0) (i := 0) rfl (by first | decide | exact Nat.le_of_ble_eq_true rfl) d3_13 rfl
    replace KX := KX.trans Kn6_5 (fun x q => by cases List.mem_singleton.mp q; exact Or.inr s_b1)
    replace Vt := Vt.keep Kn6_5 (ninS ne_t_b1 nin0)
    replace Vb1 := Vb1'
    replace X := X.iload_n (q := 15) d3_14 rfl rfl
    replace X := X.iconst (q := 16) (z := (1 : Int32)) d3_15 rfl rfl
    replace X := X.icmpNo (q := 19) d3_16 (tlt (by decide : (1 : Int32) < (6 : Int32))).2.2.2 rfl
    replace X := X.aload_n (q := 20) d3_19 rfl rfl rfl
    replace X := X.iconst (q := 21) (z := (1 : Int32)) d3_20 rfl rfl
    replace X := X.aload_n (q := 22) d3_21 rfl rfl rfl
    replace X := X.iconst (q := 23) (z := (1 : Int32)) d3_22 rfl rfl
    replace X := X.caload (q := 24) (v := .int t1) Vt (by decide) rfl d3_23 rfl
    obtain ⟨hpn6_6, Kn6_7, zhpn6_6, Vb1', X⟩ := X.castore (q := 25) Vb1 nb1 (by decide) (nar8 bt1) (i := 1) rfl (by first | decide | exact Nat.le_of_ble_eq_true rfl) d3_24 rfl
    replace KX := KX.trans Kn6_7 (fun x q => by cases List.mem_singleton.mp q; exact Or.inr s_b1)
    replace Vt := Vt.keep Kn6_7 (ninS ne_t_b1 nin0)
    replace Vb1 := Vb1'
    replace X := X.iload_n (q := 26) d3_25 rfl rfl
    replace X := X.iconst (q := 27) (z := (2 : Int32)) d3_26 rfl rfl
    replace X := X.icmpNo (q := 30) d3_27 (tlt (by decide : (2 : Int32) < (6 : Int32))).2.2.2 rfl
    replace X := X.aload_n (q := 31) d3_30 rfl rfl rfl
    replace X := X.iconst (q := 32) (z := (2 : Int32)) d3_31 rfl rfl
    replace X := X.aload_n (q := 33) d3_32 rfl rfl rfl
    replace X := X.iconst (q := 34) (z := (2 : Int32)) d3_33 rfl rfl
    replace X := X.caload (q := 35) (v := .int t2) Vt (by decide) rfl d3_34 rfl
    obtain ⟨hpn6_8, Kn6_9, zhpn6_8, Vb1', X⟩ := X.castore (q := 36) Vb1 nb1 (by decide) (nar8 bt2) (i := 2) rfl (by first | decide | exact Nat.le_of_ble_eq_true rfl) d3_35 rfl
    replace KX := KX.trans Kn6_9 (fun x q => by cases List.mem_singleton.mp q; exact Or.inr s_b1)
    replace Vt := Vt.keep Kn6_9 (ninS ne_t_b1 nin0)
    replace Vb1 := Vb1'
    replace X := X.iload_n (q := 37) d3_36 rfl rfl
    replace X := X.iconst (q := 38) (z := (3 : Int32)) d3_37 rfl rfl
    replace X := X.icmpNo (q := 41) d3_38 (tlt (by decide : (3 : Int32) < (6 : Int32))).2.2.2 rfl
    replace X := X.aload_n (q := 42) d3_41 rfl rfl rfl
    replace X := X.iconst (q := 43) (z := (3 : Int32)) d3_42 rfl rfl
    replace X := X.aload_n (q := 44) d3_43 rfl rfl rfl
    replace X := X.iconst (q := 45) (z := (3 : Int32)) d3_44 rfl rfl
    replace X := X.caload (q := 46) (v := .int t3) Vt (by decide) rfl d3_45 rfl
    obtain ⟨hpn6_10, Kn6_11, zhpn6_10, Vb1', X⟩ := X.castore (q := 47) Vb1 nb1 (by decide) (nar8 bt3) (i := 3) rfl (by first | decide | exact Nat.le_of_ble_eq_true rfl) d3_46 rfl
    replace KX := KX.trans Kn6_11 (fun x q => by cases List.mem_singleton.mp q; exact Or.inr s_b1)
    replace Vt := Vt.keep Kn6_11 (ninS ne_t_b1 nin0)
    replace Vb1 := Vb1'
    replace X := X.iload_n (q := 48) d3_47 rfl rfl
    replace X := X.iconst (q := 49) (z := (4 : Int32)) d3_48 rfl rfl
    replace X := X.icmpNo (q := 52) d3_49 (tlt (by decide : (4 : Int32) < (6 : Int32))).2.2.2 rfl
    replace X := X.aload_n (q := 53) d3_52 rfl rfl rfl
    replace X := X.iconst (q := 54) (z := (4 : Int32)) d3_53 rfl rfl
    replace X := X.aload_n (q := 55) d3_54 rfl rfl rfl
    replace X := X.iconst (q := 56) (z := (4 : Int32)) d3_55 rfl rfl
    replace X := X.caload (q := 57) (v := .int t4) Vt (by decide) rfl d3_56 rfl
    obtain ⟨hpn6_12, Kn6_13, zhpn6_12, Vb1', X⟩ := X.castore (q := 58) Vb1 nb1 (by decide) (nar8 bt4) (i := 4) rfl (by first | decide | exact Nat.le_of_ble_eq_true rfl) d3_57 rfl
    replace KX := KX.trans Kn6_13 (fun x q => by cases List.mem_singleton.mp q; exact Or.inr s_b1)
    replace Vt := Vt.keep Kn6_13 (ninS ne_t_b1 nin0)
    replace Vb1 := Vb1'
    replace X := X.iload_n (q := 59) d3_58 rfl rfl
    replace X := X.iconst (q := 60) (z := (5 : Int32)) d3_59 rfl rfl
    replace X := X.icmpNo (q := 63) d3_60 (tlt (by decide : (5 : Int32) < (6 : Int32))).2.2.2 rfl
    replace X := X.aload_n (q := 64) d3_63 rfl rfl rfl
    replace X := X.iconst (q := 65) (z := (5 : Int32)) d3_64 rfl rfl
    replace X := X.aload_n (q := 66) d3_65 rfl rfl rfl
    replace X := X.iconst (q := 67) (z := (5 : Int32)) d3_66 rfl rfl
    replace X := X.caload (q := 68) (v := .int t5) Vt (by decide) rfl d3_67 rfl
    obtain ⟨hpn6_14, Kn6_15, zhpn6_14, Vb1', X⟩ := X.castore (q := 69) Vb1 nb1 (by decide) (nar8 bt5) (i := 5) rfl (by first | decide | exact Nat.le_of_ble_eq_true rfl) d3_68 rfl
    replace KX := KX.trans Kn6_15 (fun x q => by cases List.mem_singleton.mp q; exact Or.inr s_b1)
    replace Vt := Vt.keep Kn6_15 (ninS ne_t_b1 nin0)
    replace Vb1 := Vb1'
    replace X := X.iload_n (q := 70) d3_69 rfl rfl
    replace X := X.bipush (q := 72) (z := (6 : Int32)) d3_70 rfl rfl
    replace X := X.icmpYes (q := 83) d3_72 (flt (by decide : ¬ (6 : Int32) < (6 : Int32))).2.2.2 (by decide) (by decide)
    replace X := X.iload_n (q := 84) d3_83 rfl rfl
    replace X := X.bipush (q := 86) (z := (7 : Int32)) d3_84 rfl rfl
    replace X := X.icmpYes (q := 97) d3_86 (flt (by decide : ¬ (7 : Int32) < (6 : Int32))).2.2.2 (by decide) (by decide)
    replace X := X.iload_n (q := 98) d3_97 rfl rfl
    replace X := X.bipush (q := 100) (z := (8 : Int32)) d3_98 rfl rfl
    replace X := X.icmpYes (q := 111) d3_100 (flt (by decide : ¬ (8 : Int32) < (6 : Int32))).2.2.2 (by decide) (by decide)
    replace X := X.iload_n (q := 112) d3_111 rfl rfl
    replace X := X.bipush (q := 114) (z := (9 : Int32)) d3_112 rfl rfl
    replace X := X.icmpYes (q := 125) d3_114 (flt (by decide : ¬ (9 : Int32) < (6 : Int32))).2.2.2 (by decide) (by decide)
    obtain ⟨a1, hpn6_16, ga1, na1, En6_17, Aa1, Da1, X⟩ := X.new (C := "java/lang/String") (q := 128) (hw _ (List.mem_of_getElem? (i := 42) rfl)) (hw _ (List.mem_of_getElem? (i := 3) rfl)) (hw _ (List.mem_of_getElem? (i := 2) rfl)) d3_125 rfl (by decide) (by decide)
    have s_a1 : h.size ≤ a1 := by rw [ga1]; exact KX.1
    have ne_t_a1 : t ≠ a1 := by rw [ga1]; exact Nat.ne_of_lt Vt.lt
    have ne_b1_a1 : b1 ≠ a1 := by rw [ga1]; exact Nat.ne_of_lt Vb1.lt
    replace KX := KX.ext En6_17
    replace Vt := Vt.ext En6_17
    replace Vb1 := Vb1.ext En6_17
    have Fa1_value := Da1 (Or.inr (hw _ (List.mem_of_getElem? (i := 5) rfl))) (ty := (.array .byte)) (by decide)
    have Fa1_coder := Da1 (Or.inr (hw _ (List.mem_of_getElem? (i := 6) rfl))) (ty := .byte) (by decide)
    replace X := X.dup (q := 129) d3_128 rfl rfl
    replace X := X.aload_n (q := 130) d3_129 rfl rfl rfl
    replace Vb1 : Arv Z _ b1 kn6_3 .char (6 : Int32) (([t0, t1, t2, t3, t4, t5] : List Int32).map Value.int) (.int 0) := Vb1
    obtain ⟨hpn6_18, Kn6_19, Sa1, X⟩ := X.strInit (q := 133) (hws_of hw) (hw _ (List.mem_of_getElem? (i := 3) rfl)) (hw _ (List.mem_of_getElem? (i := 43) rfl)) (hw _ (List.mem_of_getElem? (i := 44) rfl)) (hw _ (List.mem_of_getElem? (i := 45) rfl)) Aa1 Fa1_value Fa1_coder Vb1 O2 P5 na1 (by simp) (n := 6) rfl rfl (by decide) (by decide) (by intro c hc; simp only [List.mem_cons, List.not_mem_nil, or_false] at hc; rcases hc with rfl | rfl | rfl | rfl | rfl | rfl <;> assumption) rfl d3_130 (by decide) (by first | decide | exact Nat.le_of_ble_eq_true rfl) (by decide) (by decide) rfl
    replace KX := KX.trans Kn6_19 (fun x q => by cases List.mem_singleton.mp q; exact Or.inr s_a1)
    replace Vt := Vt.keep Kn6_19 (ninS ne_t_a1 nin0)
    exact X.areturn hEL hret rfl rfl rfl hlk d3_133 (by decide) (by decide) ⟨a1, _, rfl, KX, Sa1⟩
  · skip
    replace X := X.iload_n (q := 1) d3_0 rfl rfl
    obtain ⟨b1, hpn7_1, kn7_3, gb1, nb1, En7_2, Vb1, X⟩ := X.newarray (q := 3) (aty := .char) (hw _ (List.mem_of_getElem? (i := 0) rfl)) d3_1 rfl (by decide) (cap := 7) (by decide) (by decide) (by decide) (by decide) 7
    have s_b1 : h.size ≤ b1 := by rw [gb1]; exact KX.1
    have ne_t_b1 : t ≠ b1 := by rw [gb1]; exact Nat.ne_of_lt Vt.lt
    replace KX := KX.ext En7_2
    replace Vt := Vt.ext En7_2
    replace X := X.astore_n (q := 4) (Ls' := #[.val (.ref t), .val (.int (7 : Int32)), .val (.ref b1)]) d3_3 rfl rfl rfl
    replace X := X.iload_n (q := 5) d3_4 rfl rfl
    replace X := X.ifNo (q := 8) d3_5 (tlt (by decide : (0 : Int32) < (7 : Int32))).2.2.2 rfl
    replace X := X.aload_n (q := 9) d3_8 rfl rfl rfl
    replace X := X.iconst (q := 10) (z := (0 : Int32)) d3_9 rfl rfl
    replace X := X.aload_n (q := 11) d3_10 rfl rfl rfl
    replace X := X.iconst (q := 12) (z := (0 : Int32)) d3_11 rfl rfl
    replace X := X.caload (q := 13) (v := .int t0) Vt (by decide) rfl d3_12 rfl
    obtain ⟨hpn7_4, Kn7_5, zhpn7_4, Vb1', X⟩ := X.castore (q := 14) Vb1 nb1 (by decide) (nar8 bt0) (i := 0) rfl (by first | decide | exact Nat.le_of_ble_eq_true rfl) d3_13 rfl
    replace KX := KX.trans Kn7_5 (fun x q => by cases List.mem_singleton.mp q; exact Or.inr s_b1)
    replace Vt := Vt.keep Kn7_5 (ninS ne_t_b1 nin0)
    replace Vb1 := Vb1'
    replace X := X.iload_n (q := 15) d3_14 rfl rfl
    replace X := X.iconst (q := 16) (z := (1 : Int32)) d3_15 rfl rfl
    replace X := X.icmpNo (q := 19) d3_16 (tlt (by decide : (1 : Int32) < (7 : Int32))).2.2.2 rfl
    replace X := X.aload_n (q := 20) d3_19 rfl rfl rfl
    replace X := X.iconst (q := 21) (z := (1 : Int32)) d3_20 rfl rfl
    replace X := X.aload_n (q := 22) d3_21 rfl rfl rfl
    replace X := X.iconst (q := 23) (z := (1 : Int32)) d3_22 rfl rfl
    replace X := X.caload (q := 24) (v := .int t1) Vt (by decide) rfl d3_23 rfl
    obtain ⟨hpn7_6, Kn7_7, zhpn7_6, Vb1', X⟩ := X.castore (q := 25) Vb1 nb1 (by decide) (nar8 bt1) (i := 1) rfl (by first | decide | exact Nat.le_of_ble_eq_true rfl) d3_24 rfl
    replace KX := KX.trans Kn7_7 (fun x q => by cases List.mem_singleton.mp q; exact Or.inr s_b1)
    replace Vt := Vt.keep Kn7_7 (ninS ne_t_b1 nin0)
    replace Vb1 := Vb1'
    replace X := X.iload_n (q := 26) d3_25 rfl rfl
    replace X := X.iconst (q := 27) (z := (2 : Int32)) d3_26 rfl rfl
    replace X := X.icmpNo (q := 30) d3_27 (tlt (by decide : (2 : Int32) < (7 : Int32))).2.2.2 rfl
    replace X := X.aload_n (q := 31) d3_30 rfl rfl rfl
    replace X := X.iconst (q := 32) (z := (2 : Int32)) d3_31 rfl rfl
    replace X := X.aload_n (q := 33) d3_32 rfl rfl rfl
    replace X := X.iconst (q := 34) (z := (2 : Int32)) d3_33 rfl rfl
    replace X := X.caload (q := 35) (v := .int t2) Vt (by decide) rfl d3_34 rfl
    obtain ⟨hpn7_8, Kn7_9, zhpn7_8, Vb1', X⟩ := X.castore (q := 36) Vb1 nb1 (by decide) (nar8 bt2) (i := 2) rfl (by first | decide | exact Nat.le_of_ble_eq_true rfl) d3_35 rfl
    replace KX := KX.trans Kn7_9 (fun x q => by cases List.mem_singleton.mp q; exact Or.inr s_b1)
    replace Vt := Vt.keep Kn7_9 (ninS ne_t_b1 nin0)
    replace Vb1 := Vb1'
    replace X := X.iload_n (q := 37) d3_36 rfl rfl
    replace X := X.iconst (q := 38) (z := (3 : Int32)) d3_37 rfl rfl
    replace X := X.icmpNo (q := 41) d3_38 (tlt (by decide : (3 : Int32) < (7 : Int32))).2.2.2 rfl
    replace X := X.aload_n (q := 42) d3_41 rfl rfl rfl
    replace X := X.iconst (q := 43) (z := (3 : Int32)) d3_42 rfl rfl
    replace X := X.aload_n (q := 44) d3_43 rfl rfl rfl
    replace X := X.iconst (q := 45) (z := (3 : Int32)) d3_44 rfl rfl
    replace X := X.caload (q := 46) (v := .int t3) Vt (by decide) rfl d3_45 rfl
    obtain ⟨hpn7_10, Kn7_11, zhpn7_10, Vb1', X⟩ := X.castore (q := 47) Vb1 nb1 (by decide) (nar8 bt3) (i := 3) rfl (by first | decide | exact Nat.le_of_ble_eq_true rfl) d3_46 rfl
    replace KX := KX.trans Kn7_11 (fun x q => by cases List.mem_singleton.mp q; exact Or.inr s_b1)
    replace Vt := Vt.keep Kn7_11 (ninS ne_t_b1 nin0)
    replace Vb1 := Vb1'
    replace X := X.iload_n (q := 48) d3_47 rfl rfl
    replace X := X.iconst (q := 49) (z := (4 : Int32)) d3_48 rfl rfl
    replace X := X.icmpNo (q := 52) d3_49 (tlt (by decide : (4 : Int32) < (7 : Int32))).2.2.2 rfl
    replace X := X.aload_n (q := 53) d3_52 rfl rfl rfl
    replace X := X.iconst (q := 54) (z := (4 : Int32)) d3_53 rfl rfl
    replace X := X.aload_n (q := 55) d3_54 rfl rfl rfl
    replace X := X.iconst (q := 56) (z := (4 : Int32)) d3_55 rfl rfl
    replace X := X.caload (q := 57) (v := .int t4) Vt (by decide) rfl d3_56 rfl
    obtain ⟨hpn7_12, Kn7_13, zhpn7_12, Vb1', X⟩ := X.castore (q := 58) Vb1 nb1 (by decide) (nar8 bt4) (i := 4) rfl (by first | decide | exact Nat.le_of_ble_eq_true rfl) d3_57 rfl
    replace KX := KX.trans Kn7_13 (fun x q => by cases List.mem_singleton.mp q; exact Or.inr s_b1)
    replace Vt := Vt.keep Kn7_13 (ninS ne_t_b1 nin0)
    replace Vb1 := Vb1'
    replace X := X.iload_n (q := 59) d3_58 rfl rfl
    replace X := X.iconst (q := 60) (z := (5 : Int32)) d3_59 rfl rfl
    replace X := X.icmpNo (q := 63) d3_60 (tlt (by decide : (5 : Int32) < (7 : Int32))).2.2.2 rfl
    replace X := X.aload_n (q := 64) d3_63 rfl rfl rfl
    replace X := X.iconst (q := 65) (z := (5 : Int32)) d3_64 rfl rfl
    replace X := X.aload_n (q := 66) d3_65 rfl rfl rfl
    replace X := X.iconst (q := 67) (z := (5 : Int32)) d3_66 rfl rfl
    replace X := X.caload (q := 68) (v := .int t5) Vt (by decide) rfl d3_67 rfl
    obtain ⟨hpn7_14, Kn7_15, zhpn7_14, Vb1', X⟩ := X.castore (q := 69) Vb1 nb1 (by decide) (nar8 bt5) (i := 5) rfl (by first | decide | exact Nat.le_of_ble_eq_true rfl) d3_68 rfl
    replace KX := KX.trans Kn7_15 (fun x q => by cases List.mem_singleton.mp q; exact Or.inr s_b1)
    replace Vt := Vt.keep Kn7_15 (ninS ne_t_b1 nin0)
    replace Vb1 := Vb1'
    replace X := X.iload_n (q := 70) d3_69 rfl rfl
    replace X := X.bipush (q := 72) (z := (6 : Int32)) d3_70 rfl rfl
    replace X := X.icmpNo (q := 75) d3_72 (tlt (by decide : (6 : Int32) < (7 : Int32))).2.2.2 rfl
    replace X := X.aload_n (q := 76) d3_75 rfl rfl rfl
    replace X := X.bipush (q := 78) (z := (6 : Int32)) d3_76 rfl rfl
    replace X := X.aload_n (q := 79) d3_78 rfl rfl rfl
    replace X := X.bipush (q := 81) (z := (6 : Int32)) d3_79 rfl rfl
    replace X := X.caload (q := 82) (v := .int t6) Vt (by decide) rfl d3_81 rfl
    obtain ⟨hpn7_16, Kn7_17, zhpn7_16, Vb1', X⟩ := X.castore (q := 83) Vb1 nb1 (by decide) (nar8 bt6) (i := 6) rfl (by first | decide | exact Nat.le_of_ble_eq_true rfl) d3_82 rfl
    replace KX := KX.trans Kn7_17 (fun x q => by cases List.mem_singleton.mp q; exact Or.inr s_b1)
    replace Vt := Vt.keep Kn7_17 (ninS ne_t_b1 nin0)
    replace Vb1 := Vb1'
    replace X := X.iload_n (q := 84) d3_83 rfl rfl
    replace X := X.bipush (q := 86) (z := (7 : Int32)) d3_84 rfl rfl
    replace X := X.icmpYes (q := 97) d3_86 (flt (by decide : ¬ (7 : Int32) < (7 : Int32))).2.2.2 (by decide) (by decide)
    replace X := X.iload_n (q := 98) d3_97 rfl rfl
    replace X := X.bipush (q := 100) (z := (8 : Int32)) d3_98 rfl rfl
    replace X := X.icmpYes (q := 111) d3_100 (flt (by decide : ¬ (8 : Int32) < (7 : Int32))).2.2.2 (by decide) (by decide)
    replace X := X.iload_n (q := 112) d3_111 rfl rfl
    replace X := X.bipush (q := 114) (z := (9 : Int32)) d3_112 rfl rfl
    replace X := X.icmpYes (q := 125) d3_114 (flt (by decide : ¬ (9 : Int32) < (7 : Int32))).2.2.2 (by decide) (by decide)
    obtain ⟨a1, hpn7_18, ga1, na1, En7_19, Aa1, Da1, X⟩ := X.new (C := "java/lang/String") (q := 128) (hw _ (List.mem_of_getElem? (i := 42) rfl)) (hw _ (List.mem_of_getElem? (i := 3) rfl)) (hw _ (List.mem_of_getElem? (i := 2) rfl)) d3_125 rfl (by decide) (by decide)
    have s_a1 : h.size ≤ a1 := by rw [ga1]; exact KX.1
    have ne_t_a1 : t ≠ a1 := by rw [ga1]; exact Nat.ne_of_lt Vt.lt
    have ne_b1_a1 : b1 ≠ a1 := by rw [ga1]; exact Nat.ne_of_lt Vb1.lt
    replace KX := KX.ext En7_19
    replace Vt := Vt.ext En7_19
    replace Vb1 := Vb1.ext En7_19
    have Fa1_value := Da1 (Or.inr (hw _ (List.mem_of_getElem? (i := 5) rfl))) (ty := (.array .byte)) (by decide)
    have Fa1_coder := Da1 (Or.inr (hw _ (List.mem_of_getElem? (i := 6) rfl))) (ty := .byte) (by decide)
    replace X := X.dup (q := 129) d3_128 rfl rfl
    replace X := X.aload_n (q := 130) d3_129 rfl rfl rfl
    replace Vb1 : Arv Z _ b1 kn7_3 .char (7 : Int32) (([t0, t1, t2, t3, t4, t5, t6] : List Int32).map Value.int) (.int 0) := Vb1
    obtain ⟨hpn7_20, Kn7_21, Sa1, X⟩ := X.strInit (q := 133) (hws_of hw) (hw _ (List.mem_of_getElem? (i := 3) rfl)) (hw _ (List.mem_of_getElem? (i := 43) rfl)) (hw _ (List.mem_of_getElem? (i := 44) rfl)) (hw _ (List.mem_of_getElem? (i := 45) rfl)) Aa1 Fa1_value Fa1_coder Vb1 O2 P5 na1 (by simp) (n := 7) rfl rfl (by decide) (by decide) (by intro c hc; simp only [List.mem_cons, List.not_mem_nil, or_false] at hc; rcases hc with rfl | rfl | rfl | rfl | rfl | rfl | rfl <;> assumption) rfl d3_130 (by decide) (by first | decide | exact Nat.le_of_ble_eq_true rfl) (by decide) (by decide) rfl
    replace KX := KX.trans Kn7_21 (fun x q => by cases List.mem_singleton.mp q; exact Or.inr s_a1)
    replace Vt := Vt.keep Kn7_21 (ninS ne_t_a1 nin0)
    exact X.areturn hEL hret rfl rfl rfl hlk d3_133 (by decide) (by decide) ⟨a1, _, rfl, KX, Sa1⟩
  · skip
    replace X := X.iload_n (q := 1) d3_0 rfl rfl
    obtain ⟨b1, hpn8_1, kn8_3, gb1, nb1, En8_2, Vb1, X⟩ := X.newarray (q := 3) (aty := .char) (hw _ (List.mem_of_getElem? (i := 0) rfl)) d3_1 rfl (by decide) (cap := 8) (by decide) (by decide) (by decide) (by decide) 8
    have s_b1 : h.size ≤ b1 := by rw [gb1]; exact KX.1
    have ne_t_b1 : t ≠ b1 := by rw [gb1]; exact Nat.ne_of_lt Vt.lt
    replace KX := KX.ext En8_2
    replace Vt := Vt.ext En8_2
    replace X := X.astore_n (q := 4) (Ls' := #[.val (.ref t), .val (.int (8 : Int32)), .val (.ref b1)]) d3_3 rfl rfl rfl
    replace X := X.iload_n (q := 5) d3_4 rfl rfl
    replace X := X.ifNo (q := 8) d3_5 (tlt (by decide : (0 : Int32) < (8 : Int32))).2.2.2 rfl
    replace X := X.aload_n (q := 9) d3_8 rfl rfl rfl
    replace X := X.iconst (q := 10) (z := (0 : Int32)) d3_9 rfl rfl
    replace X := X.aload_n (q := 11) d3_10 rfl rfl rfl
    replace X := X.iconst (q := 12) (z := (0 : Int32)) d3_11 rfl rfl
    replace X := X.caload (q := 13) (v := .int t0) Vt (by decide) rfl d3_12 rfl
    obtain ⟨hpn8_4, Kn8_5, zhpn8_4, Vb1', X⟩ := X.castore (q := 14) Vb1 nb1 (by decide) (nar8 bt0) (i := 0) rfl (by first | decide | exact Nat.le_of_ble_eq_true rfl) d3_13 rfl
    replace KX := KX.trans Kn8_5 (fun x q => by cases List.mem_singleton.mp q; exact Or.inr s_b1)
    replace Vt := Vt.keep Kn8_5 (ninS ne_t_b1 nin0)
    replace Vb1 := Vb1'
    replace X := X.iload_n (q := 15) d3_14 rfl rfl
    replace X := X.iconst (q := 16) (z := (1 : Int32)) d3_15 rfl rfl
    replace X := X.icmpNo (q := 19) d3_16 (tlt (by decide : (1 : Int32) < (8 : Int32))).2.2.2 rfl
    replace X := X.aload_n (q := 20) d3_19 rfl rfl rfl
    replace X := X.iconst (q := 21) (z := (1 : Int32)) d3_20 rfl rfl
    replace X := X.aload_n (q := 22) d3_21 rfl rfl rfl
    replace X := X.iconst (q := 23) (z := (1 : Int32)) d3_22 rfl rfl
    replace X := X.caload (q := 24) (v := .int t1) Vt (by decide) rfl d3_23 rfl
    obtain ⟨hpn8_6, Kn8_7, zhpn8_6, Vb1', X⟩ := X.castore (q := 25) Vb1 nb1 (by decide) (nar8 bt1) (i := 1) rfl (by first | decide | exact Nat.le_of_ble_eq_true rfl) d3_24 rfl
    replace KX := KX.trans Kn8_7 (fun x q => by cases List.mem_singleton.mp q; exact Or.inr s_b1)
    replace Vt := Vt.keep Kn8_7 (ninS ne_t_b1 nin0)
    replace Vb1 := Vb1'
    replace X := X.iload_n (q := 26) d3_25 rfl rfl
    replace X := X.iconst (q := 27) (z := (2 : Int32)) d3_26 rfl rfl
    replace X := X.icmpNo (q := 30) d3_27 (tlt (by decide : (2 : Int32) < (8 : Int32))).2.2.2 rfl
    replace X := X.aload_n (q := 31) d3_30 rfl rfl rfl
    replace X := X.iconst (q := 32) (z := (2 : Int32)) d3_31 rfl rfl
    replace X := X.aload_n (q := 33) d3_32 rfl rfl rfl
    replace X := X.iconst (q := 34) (z := (2 : Int32)) d3_33 rfl rfl
    replace X := X.caload (q := 35) (v := .int t2) Vt (by decide) rfl d3_34 rfl
    obtain ⟨hpn8_8, Kn8_9, zhpn8_8, Vb1', X⟩ := X.castore (q := 36) Vb1 nb1 (by decide) (nar8 bt2) (i := 2) rfl (by first | decide | exact Nat.le_of_ble_eq_true rfl) d3_35 rfl
    replace KX := KX.trans Kn8_9 (fun x q => by cases List.mem_singleton.mp q; exact Or.inr s_b1)
    replace Vt := Vt.keep Kn8_9 (ninS ne_t_b1 nin0)
    replace Vb1 := Vb1'
    replace X := X.iload_n (q := 37) d3_36 rfl rfl
    replace X := X.iconst (q := 38) (z := (3 : Int32)) d3_37 rfl rfl
    replace X := X.icmpNo (q := 41) d3_38 (tlt (by decide : (3 : Int32) < (8 : Int32))).2.2.2 rfl
    replace X := X.aload_n (q := 42) d3_41 rfl rfl rfl
    replace X := X.iconst (q := 43) (z := (3 : Int32)) d3_42 rfl rfl
    replace X := X.aload_n (q := 44) d3_43 rfl rfl rfl
    replace X := X.iconst (q := 45) (z := (3 : Int32)) d3_44 rfl rfl
    replace X := X.caload (q := 46) (v := .int t3) Vt (by decide) rfl d3_45 rfl
    obtain ⟨hpn8_10, Kn8_11, zhpn8_10, Vb1', X⟩ := X.castore (q := 47) Vb1 nb1 (by decide) (nar8 bt3) (i := 3) rfl (by first | decide | exact Nat.le_of_ble_eq_true rfl) d3_46 rfl
    replace KX := KX.trans Kn8_11 (fun x q => by cases List.mem_singleton.mp q; exact Or.inr s_b1)
    replace Vt := Vt.keep Kn8_11 (ninS ne_t_b1 nin0)
    replace Vb1 := Vb1'
    replace X := X.iload_n (q := 48) d3_47 rfl rfl
    replace X := X.iconst (q := 49) (z := (4 : Int32)) d3_48 rfl rfl
    replace X := X.icmpNo (q := 52) d3_49 (tlt (by decide : (4 : Int32) < (8 : Int32))).2.2.2 rfl
    replace X := X.aload_n (q := 53) d3_52 rfl rfl rfl
    replace X := X.iconst (q := 54) (z := (4 : Int32)) d3_53 rfl rfl
    replace X := X.aload_n (q := 55) d3_54 rfl rfl rfl
    replace X := X.iconst (q := 56) (z := (4 : Int32)) d3_55 rfl rfl
    replace X := X.caload (q := 57) (v := .int t4) Vt (by decide) rfl d3_56 rfl
    obtain ⟨hpn8_12, Kn8_13, zhpn8_12, Vb1', X⟩ := X.castore (q := 58) Vb1 nb1 (by decide) (nar8 bt4) (i := 4) rfl (by first | decide | exact Nat.le_of_ble_eq_true rfl) d3_57 rfl
    replace KX := KX.trans Kn8_13 (fun x q => by cases List.mem_singleton.mp q; exact Or.inr s_b1)
    replace Vt := Vt.keep Kn8_13 (ninS ne_t_b1 nin0)
    replace Vb1 := Vb1'
    replace X := X.iload_n (q := 59) d3_58 rfl rfl
    replace X := X.iconst (q := 60) (z := (5 : Int32)) d3_59 rfl rfl
    replace X := X.icmpNo (q := 63) d3_60 (tlt (by decide : (5 : Int32) < (8 : Int32))).2.2.2 rfl
    replace X := X.aload_n (q := 64) d3_63 rfl rfl rfl
    replace X := X.iconst (q := 65) (z := (5 : Int32)) d3_64 rfl rfl
    replace X := X.aload_n (q := 66) d3_65 rfl rfl rfl
    replace X := X.iconst (q := 67) (z := (5 : Int32)) d3_66 rfl rfl
    replace X := X.caload (q := 68) (v := .int t5) Vt (by decide) rfl d3_67 rfl
    obtain ⟨hpn8_14, Kn8_15, zhpn8_14, Vb1', X⟩ := X.castore (q := 69) Vb1 nb1 (by decide) (nar8 bt5) (i := 5) rfl (by first | decide | exact Nat.le_of_ble_eq_true rfl) d3_68 rfl
    replace KX := KX.trans Kn8_15 (fun x q => by cases List.mem_singleton.mp q; exact Or.inr s_b1)
    replace Vt := Vt.keep Kn8_15 (ninS ne_t_b1 nin0)
    replace Vb1 := Vb1'
    replace X := X.iload_n (q := 70) d3_69 rfl rfl
    replace X := X.bipush (q := 72) (z := (6 : Int32)) d3_70 rfl rfl
    replace X := X.icmpNo (q := 75) d3_72 (tlt (by decide : (6 : Int32) < (8 : Int32))).2.2.2 rfl
    replace X := X.aload_n (q := 76) d3_75 rfl rfl rfl
    replace X := X.bipush (q := 78) (z := (6 : Int32)) d3_76 rfl rfl
    replace X := X.aload_n (q := 79) d3_78 rfl rfl rfl
    replace X := X.bipush (q := 81) (z := (6 : Int32)) d3_79 rfl rfl
    replace X := X.caload (q := 82) (v := .int t6) Vt (by decide) rfl d3_81 rfl
    obtain ⟨hpn8_16, Kn8_17, zhpn8_16, Vb1', X⟩ := X.castore (q := 83) Vb1 nb1 (by decide) (nar8 bt6) (i := 6) rfl (by first | decide | exact Nat.le_of_ble_eq_true rfl) d3_82 rfl
    replace KX := KX.trans Kn8_17 (fun x q => by cases List.mem_singleton.mp q; exact Or.inr s_b1)
    replace Vt := Vt.keep Kn8_17 (ninS ne_t_b1 nin0)
    replace Vb1 := Vb1'
    replace X := X.iload_n (q := 84) d3_83 rfl rfl
    replace X := X.bipush (q := 86) (z := (7 : Int32)) d3_84 rfl rfl
    replace X := X.icmpNo (q := 89) d3_86 (tlt (by decide : (7 : Int32) < (8 : Int32))).2.2.2 rfl
    replace X := X.aload_n (q := 90) d3_89 rfl rfl rfl
    replace X := X.bipush (q := 92) (z := (7 : Int32)) d3_90 rfl rfl
    replace X := X.aload_n (q := 93) d3_92 rfl rfl rfl
    replace X := X.bipush (q := 95) (z := (7 : Int32)) d3_93 rfl rfl
    replace X := X.caload (q := 96) (v := .int t7) Vt (by decide) rfl d3_95 rfl
    obtain ⟨hpn8_18, Kn8_19, zhpn8_18, Vb1', X⟩ := X.castore (q := 97) Vb1 nb1 (by decide) (nar8 bt7) (i := 7) rfl (by first | decide | exact Nat.le_of_ble_eq_true rfl) d3_96 rfl
    replace KX := KX.trans Kn8_19 (fun x q => by cases List.mem_singleton.mp q; exact Or.inr s_b1)
    replace Vt := Vt.keep Kn8_19 (ninS ne_t_b1 nin0)
    replace Vb1 := Vb1'
    replace X := X.iload_n (q := 98) d3_97 rfl rfl
    replace X := X.bipush (q := 100) (z := (8 : Int32)) d3_98 rfl rfl
    replace X := X.icmpYes (q := 111) d3_100 (flt (by decide : ¬ (8 : Int32) < (8 : Int32))).2.2.2 (by decide) (by decide)
    replace X := X.iload_n (q := 112) d3_111 rfl rfl
    replace X := X.bipush (q := 114) (z := (9 : Int32)) d3_112 rfl rfl
    replace X := X.icmpYes (q := 125) d3_114 (flt (by decide : ¬ (9 : Int32) < (8 : Int32))).2.2.2 (by decide) (by decide)
    obtain ⟨a1, hpn8_20, ga1, na1, En8_21, Aa1, Da1, X⟩ := X.new (C := "java/lang/String") (q := 128) (hw _ (List.mem_of_getElem? (i := 42) rfl)) (hw _ (List.mem_of_getElem? (i := 3) rfl)) (hw _ (List.mem_of_getElem? (i := 2) rfl)) d3_125 rfl (by decide) (by decide)
    have s_a1 : h.size ≤ a1 := by rw [ga1]; exact KX.1
    have ne_t_a1 : t ≠ a1 := by rw [ga1]; exact Nat.ne_of_lt Vt.lt
    have ne_b1_a1 : b1 ≠ a1 := by rw [ga1]; exact Nat.ne_of_lt Vb1.lt
    replace KX := KX.ext En8_21
    replace Vt := Vt.ext En8_21
    replace Vb1 := Vb1.ext En8_21
    have Fa1_value := Da1 (Or.inr (hw _ (List.mem_of_getElem? (i := 5) rfl))) (ty := (.array .byte)) (by decide)
    have Fa1_coder := Da1 (Or.inr (hw _ (List.mem_of_getElem? (i := 6) rfl))) (ty := .byte) (by decide)
    replace X := X.dup (q := 129) d3_128 rfl rfl
    replace X := X.aload_n (q := 130) d3_129 rfl rfl rfl
    replace Vb1 : Arv Z _ b1 kn8_3 .char (8 : Int32) (([t0, t1, t2, t3, t4, t5, t6, t7] : List Int32).map Value.int) (.int 0) := Vb1
    obtain ⟨hpn8_22, Kn8_23, Sa1, X⟩ := X.strInit (q := 133) (hws_of hw) (hw _ (List.mem_of_getElem? (i := 3) rfl)) (hw _ (List.mem_of_getElem? (i := 43) rfl)) (hw _ (List.mem_of_getElem? (i := 44) rfl)) (hw _ (List.mem_of_getElem? (i := 45) rfl)) Aa1 Fa1_value Fa1_coder Vb1 O2 P5 na1 (by simp) (n := 8) rfl rfl (by decide) (by decide) (by intro c hc; simp only [List.mem_cons, List.not_mem_nil, or_false] at hc; rcases hc with rfl | rfl | rfl | rfl | rfl | rfl | rfl | rfl <;> assumption) rfl d3_130 (by decide) (by first | decide | exact Nat.le_of_ble_eq_true rfl) (by decide) (by decide) rfl
    replace KX := KX.trans Kn8_23 (fun x q => by cases List.mem_singleton.mp q; exact Or.inr s_a1)
    replace Vt := Vt.keep Kn8_23 (ninS ne_t_a1 nin0)
    exact X.areturn hEL hret rfl rfl rfl hlk d3_133 (by decide) (by decide) ⟨a1, _, rfl, KX, Sa1⟩
  · skip
    replace X := X.iload_n (q := 1) d3_0 rfl rfl
    obtain ⟨b1, hpn9_1, kn9_3, gb1, nb1, En9_2, Vb1, X⟩ := X.newarray (q := 3) (aty := .char) (hw _ (List.mem_of_getElem? (i := 0) rfl)) d3_1 rfl (by decide) (cap := 9) (by decide) (by decide) (by decide) (by decide) 9
    have s_b1 : h.size ≤ b1 := by rw [gb1]; exact KX.1
    have ne_t_b1 : t ≠ b1 := by rw [gb1]; exact Nat.ne_of_lt Vt.lt
    replace KX := KX.ext En9_2
    replace Vt := Vt.ext En9_2
    replace X := X.astore_n (q := 4) (Ls' := #[.val (.ref t), .val (.int (9 : Int32)), .val (.ref b1)]) d3_3 rfl rfl rfl
    replace X := X.iload_n (q := 5) d3_4 rfl rfl
    replace X := X.ifNo (q := 8) d3_5 (tlt (by decide : (0 : Int32) < (9 : Int32))).2.2.2 rfl
    replace X := X.aload_n (q := 9) d3_8 rfl rfl rfl
    replace X := X.iconst (q := 10) (z := (0 : Int32)) d3_9 rfl rfl
    replace X := X.aload_n (q := 11) d3_10 rfl rfl rfl
    replace X := X.iconst (q := 12) (z := (0 : Int32)) d3_11 rfl rfl
    replace X := X.caload (q := 13) (v := .int t0) Vt (by decide) rfl d3_12 rfl
    obtain ⟨hpn9_4, Kn9_5, zhpn9_4, Vb1', X⟩ := X.castore (q := 14) Vb1 nb1 (by decide) (nar8 bt0) (i := 0) rfl (by first | decide | exact Nat.le_of_ble_eq_true rfl) d3_13 rfl
    replace KX := KX.trans Kn9_5 (fun x q => by cases List.mem_singleton.mp q; exact Or.inr s_b1)
    replace Vt := Vt.keep Kn9_5 (ninS ne_t_b1 nin0)
    replace Vb1 := Vb1'
    replace X := X.iload_n (q := 15) d3_14 rfl rfl
    replace X := X.iconst (q := 16) (z := (1 : Int32)) d3_15 rfl rfl
    replace X := X.icmpNo (q := 19) d3_16 (tlt (by decide : (1 : Int32) < (9 : Int32))).2.2.2 rfl
    replace X := X.aload_n (q := 20) d3_19 rfl rfl rfl
    replace X := X.iconst (q := 21) (z := (1 : Int32)) d3_20 rfl rfl
    replace X := X.aload_n (q := 22) d3_21 rfl rfl rfl
    replace X := X.iconst (q := 23) (z := (1 : Int32)) d3_22 rfl rfl
    replace X := X.caload (q := 24) (v := .int t1) Vt (by decide) rfl d3_23 rfl
    obtain ⟨hpn9_6, Kn9_7, zhpn9_6, Vb1', X⟩ := X.castore (q := 25) Vb1 nb1 (by decide) (nar8 bt1) (i := 1) rfl (by first | decide | exact Nat.le_of_ble_eq_true rfl) d3_24 rfl
    replace KX := KX.trans Kn9_7 (fun x q => by cases List.mem_singleton.mp q; exact Or.inr s_b1)
    replace Vt := Vt.keep Kn9_7 (ninS ne_t_b1 nin0)
    replace Vb1 := Vb1'
    replace X := X.iload_n (q := 26) d3_25 rfl rfl
    replace X := X.iconst (q := 27) (z := (2 : Int32)) d3_26 rfl rfl
    replace X := X.icmpNo (q := 30) d3_27 (tlt (by decide : (2 : Int32) < (9 : Int32))).2.2.2 rfl
    replace X := X.aload_n (q := 31) d3_30 rfl rfl rfl
    replace X := X.iconst (q := 32) (z := (2 : Int32)) d3_31 rfl rfl
    replace X := X.aload_n (q := 33) d3_32 rfl rfl rfl
    replace X := X.iconst (q := 34) (z := (2 : Int32)) d3_33 rfl rfl
    replace X := X.caload (q := 35) (v := .int t2) Vt (by decide) rfl d3_34 rfl
    obtain ⟨hpn9_8, Kn9_9, zhpn9_8, Vb1', X⟩ := X.castore (q := 36) Vb1 nb1 (by decide) (nar8 bt2) (i := 2) rfl (by first | decide | exact Nat.le_of_ble_eq_true rfl) d3_35 rfl
    replace KX := KX.trans Kn9_9 (fun x q => by cases List.mem_singleton.mp q; exact Or.inr s_b1)
    replace Vt := Vt.keep Kn9_9 (ninS ne_t_b1 nin0)
    replace Vb1 := Vb1'
    replace X := X.iload_n (q := 37) d3_36 rfl rfl
    replace X := X.iconst (q := 38) (z := (3 : Int32)) d3_37 rfl rfl
    replace X := X.icmpNo (q := 41) d3_38 (tlt (by decide : (3 : Int32) < (9 : Int32))).2.2.2 rfl
    replace X := X.aload_n (q := 42) d3_41 rfl rfl rfl
    replace X := X.iconst (q := 43) (z := (3 : Int32)) d3_42 rfl rfl
    replace X := X.aload_n (q := 44) d3_43 rfl rfl rfl
    replace X := X.iconst (q := 45) (z := (3 : Int32)) d3_44 rfl rfl
    replace X := X.caload (q := 46) (v := .int t3) Vt (by decide) rfl d3_45 rfl
    obtain ⟨hpn9_10, Kn9_11, zhpn9_10, Vb1', X⟩ := X.castore (q := 47) Vb1 nb1 (by decide) (nar8 bt3) (i := 3) rfl (by first | decide | exact Nat.le_of_ble_eq_true rfl) d3_46 rfl
    replace KX := KX.trans Kn9_11 (fun x q => by cases List.mem_singleton.mp q; exact Or.inr s_b1)
    replace Vt := Vt.keep Kn9_11 (ninS ne_t_b1 nin0)
    replace Vb1 := Vb1'
    replace X := X.iload_n (q := 48) d3_47 rfl rfl
    replace X := X.iconst (q := 49) (z := (4 : Int32)) d3_48 rfl rfl
    replace X := X.icmpNo (q := 52) d3_49 (tlt (by decide : (4 : Int32) < (9 : Int32))).2.2.2 rfl
    replace X := X.aload_n (q := 53) d3_52 rfl rfl rfl
    replace X := X.iconst (q := 54) (z := (4 : Int32)) d3_53 rfl rfl
    replace X := X.aload_n (q := 55) d3_54 rfl rfl rfl
    replace X := X.iconst (q := 56) (z := (4 : Int32)) d3_55 rfl rfl
    replace X := X.caload (q := 57) (v := .int t4) Vt (by decide) rfl d3_56 rfl
    obtain ⟨hpn9_12, Kn9_13, zhpn9_12, Vb1', X⟩ := X.castore (q := 58) Vb1 nb1 (by decide) (nar8 bt4) (i := 4) rfl (by first | decide | exact Nat.le_of_ble_eq_true rfl) d3_57 rfl
    replace KX := KX.trans Kn9_13 (fun x q => by cases List.mem_singleton.mp q; exact Or.inr s_b1)
    replace Vt := Vt.keep Kn9_13 (ninS ne_t_b1 nin0)
    replace Vb1 := Vb1'
    replace X := X.iload_n (q := 59) d3_58 rfl rfl
    replace X := X.iconst (q := 60) (z := (5 : Int32)) d3_59 rfl rfl
    replace X := X.icmpNo (q := 63) d3_60 (tlt (by decide : (5 : Int32) < (9 : Int32))).2.2.2 rfl
    replace X := X.aload_n (q := 64) d3_63 rfl rfl rfl
    replace X := X.iconst (q := 65) (z := (5 : Int32)) d3_64 rfl rfl
    replace X := X.aload_n (q := 66) d3_65 rfl rfl rfl
    replace X := X.iconst (q := 67) (z := (5 : Int32)) d3_66 rfl rfl
    replace X := X.caload (q := 68) (v := .int t5) Vt (by decide) rfl d3_67 rfl
    obtain ⟨hpn9_14, Kn9_15, zhpn9_14, Vb1', X⟩ := X.castore (q := 69) Vb1 nb1 (by decide) (nar8 bt5) (i := 5) rfl (by first | decide | exact Nat.le_of_ble_eq_true rfl) d3_68 rfl
    replace KX := KX.trans Kn9_15 (fun x q => by cases List.mem_singleton.mp q; exact Or.inr s_b1)
    replace Vt := Vt.keep Kn9_15 (ninS ne_t_b1 nin0)
    replace Vb1 := Vb1'
    replace X := X.iload_n (q := 70) d3_69 rfl rfl
    replace X := X.bipush (q := 72) (z := (6 : Int32)) d3_70 rfl rfl
    replace X := X.icmpNo (q := 75) d3_72 (tlt (by decide : (6 : Int32) < (9 : Int32))).2.2.2 rfl
    replace X := X.aload_n (q := 76) d3_75 rfl rfl rfl
    replace X := X.bipush (q := 78) (z := (6 : Int32)) d3_76 rfl rfl
    replace X := X.aload_n (q := 79) d3_78 rfl rfl rfl
    replace X := X.bipush (q := 81) (z := (6 : Int32)) d3_79 rfl rfl
    replace X := X.caload (q := 82) (v := .int t6) Vt (by decide) rfl d3_81 rfl
    obtain ⟨hpn9_16, Kn9_17, zhpn9_16, Vb1', X⟩ := X.castore (q := 83) Vb1 nb1 (by decide) (nar8 bt6) (i := 6) rfl (by first | decide | exact Nat.le_of_ble_eq_true rfl) d3_82 rfl
    replace KX := KX.trans Kn9_17 (fun x q => by cases List.mem_singleton.mp q; exact Or.inr s_b1)
    replace Vt := Vt.keep Kn9_17 (ninS ne_t_b1 nin0)
    replace Vb1 := Vb1'
    replace X := X.iload_n (q := 84) d3_83 rfl rfl
    replace X := X.bipush (q := 86) (z := (7 : Int32)) d3_84 rfl rfl
    replace X := X.icmpNo (q := 89) d3_86 (tlt (by decide : (7 : Int32) < (9 : Int32))).2.2.2 rfl
    replace X := X.aload_n (q := 90) d3_89 rfl rfl rfl
    replace X := X.bipush (q := 92) (z := (7 : Int32)) d3_90 rfl rfl
    replace X := X.aload_n (q := 93) d3_92 rfl rfl rfl
    replace X := X.bipush (q := 95) (z := (7 : Int32)) d3_93 rfl rfl
    replace X := X.caload (q := 96) (v := .int t7) Vt (by decide) rfl d3_95 rfl
    obtain ⟨hpn9_18, Kn9_19, zhpn9_18, Vb1', X⟩ := X.castore (q := 97) Vb1 nb1 (by decide) (nar8 bt7) (i := 7) rfl (by first | decide | exact Nat.le_of_ble_eq_true rfl) d3_96 rfl
    replace KX := KX.trans Kn9_19 (fun x q => by cases List.mem_singleton.mp q; exact Or.inr s_b1)
    replace Vt := Vt.keep Kn9_19 (ninS ne_t_b1 nin0)
    replace Vb1 := Vb1'
    replace X := X.iload_n (q := 98) d3_97 rfl rfl
    replace X := X.bipush (q := 100) (z := (8 : Int32)) d3_98 rfl rfl
    replace X := X.icmpNo (q := 103) d3_100 (tlt (by decide : (8 : Int32) < (9 : Int32))).2.2.2 rfl
    replace X := X.aload_n (q := 104) d3_103 rfl rfl rfl
    replace X := X.bipush (q := 106) (z := (8 : Int32)) d3_104 rfl rfl
    replace X := X.aload_n (q := 107) d3_106 rfl rfl rfl
    replace X := X.bipush (q := 109) (z := (8 : Int32)) d3_107 rfl rfl
    replace X := X.caload (q := 110) (v := .int t8) Vt (by decide) rfl d3_109 rfl
    obtain ⟨hpn9_20, Kn9_21, zhpn9_20, Vb1', X⟩ := X.castore (q := 111) Vb1 nb1 (by decide) (nar8 bt8) (i := 8) rfl (by first | decide | exact Nat.le_of_ble_eq_true rfl) d3_110 rfl
    replace KX := KX.trans Kn9_21 (fun x q => by cases List.mem_singleton.mp q; exact Or.inr s_b1)
    replace Vt := Vt.keep Kn9_21 (ninS ne_t_b1 nin0)
    replace Vb1 := Vb1'
    replace X := X.iload_n (q := 112) d3_111 rfl rfl
    replace X := X.bipush (q := 114) (z := (9 : Int32)) d3_112 rfl rfl
    replace X := X.icmpYes (q := 125) d3_114 (flt (by decide : ¬ (9 : Int32) < (9 : Int32))).2.2.2 (by decide) (by decide)
    obtain ⟨a1, hpn9_22, ga1, na1, En9_23, Aa1, Da1, X⟩ := X.new (C := "java/lang/String") (q := 128) (hw _ (List.mem_of_getElem? (i := 42) rfl)) (hw _ (List.mem_of_getElem? (i := 3) rfl)) (hw _ (List.mem_of_getElem? (i := 2) rfl)) d3_125 rfl (by decide) (by decide)
    have s_a1 : h.size ≤ a1 := by rw [ga1]; exact KX.1
    have ne_t_a1 : t ≠ a1 := by rw [ga1]; exact Nat.ne_of_lt Vt.lt
    have ne_b1_a1 : b1 ≠ a1 := by rw [ga1]; exact Nat.ne_of_lt Vb1.lt
    replace KX := KX.ext En9_23
    replace Vt := Vt.ext En9_23
    replace Vb1 := Vb1.ext En9_23
    have Fa1_value := Da1 (Or.inr (hw _ (List.mem_of_getElem? (i := 5) rfl))) (ty := (.array .byte)) (by decide)
    have Fa1_coder := Da1 (Or.inr (hw _ (List.mem_of_getElem? (i := 6) rfl))) (ty := .byte) (by decide)
    replace X := X.dup (q := 129) d3_128 rfl rfl
    replace X := X.aload_n (q := 130) d3_129 rfl rfl rfl
    replace Vb1 : Arv Z _ b1 kn9_3 .char (9 : Int32) (([t0, t1, t2, t3, t4, t5, t6, t7, t8] : List Int32).map Value.int) (.int 0) := Vb1
    obtain ⟨hpn9_24, Kn9_25, Sa1, X⟩ := X.strInit (q := 133) (hws_of hw) (hw _ (List.mem_of_getElem? (i := 3) rfl)) (hw _ (List.mem_of_getElem? (i := 43) rfl)) (hw _ (List.mem_of_getElem? (i := 44) rfl)) (hw _ (List.mem_of_getElem? (i := 45) rfl)) Aa1 Fa1_value Fa1_coder Vb1 O2 P5 na1 (by simp) (n := 9) rfl rfl (by decide) (by decide) (by intro c hc; simp only [List.mem_cons, List.not_mem_nil, or_false] at hc; rcases hc with rfl | rfl | rfl | rfl | rfl | rfl | rfl | rfl | rfl <;> assumption) rfl d3_130 (by decide) (by first | decide | exact Nat.le_of_ble_eq_true rfl) (by decide) (by decide) rfl
    replace KX := KX.trans Kn9_25 (fun x q => by cases List.mem_singleton.mp q; exact Or.inr s_a1)
    replace Vt := Vt.keep Kn9_25 (ninS ne_t_a1 nin0)
    exact X.areturn hEL hret rfl rfl rfl hlk d3_133 (by decide) (by decide) ⟨a1, _, rfl, KX, Sa1⟩
  · skip
    replace X := X.iload_n (q := 1) d3_0 rfl rfl
    obtain ⟨b1, hpn10_1, kn10_3, gb1, nb1, En10_2, Vb1, X⟩ := X.newarray (q := 3) (aty := .char) (hw _ (List.mem_of_getElem? (i := 0) rfl)) d3_1 rfl (by decide) (cap := 10) (by decide) (by decide) (by decide) (by decide) 10
    have s_b1 : h.size ≤ b1 := by rw [gb1]; exact KX.1
    have ne_t_b1 : t ≠ b1 := by rw [gb1]; exact Nat.ne_of_lt Vt.lt
    replace KX := KX.ext En10_2
    replace Vt := Vt.ext En10_2
    replace X := X.astore_n (q := 4) (Ls' := #[.val (.ref t), .val (.int (10 : Int32)), .val (.ref b1)]) d3_3 rfl rfl rfl
    replace X := X.iload_n (q := 5) d3_4 rfl rfl
    replace X := X.ifNo (q := 8) d3_5 (tlt (by decide : (0 : Int32) < (10 : Int32))).2.2.2 rfl
    replace X := X.aload_n (q := 9) d3_8 rfl rfl rfl
    replace X := X.iconst (q := 10) (z := (0 : Int32)) d3_9 rfl rfl
    replace X := X.aload_n (q := 11) d3_10 rfl rfl rfl
    replace X := X.iconst (q := 12) (z := (0 : Int32)) d3_11 rfl rfl
    replace X := X.caload (q := 13) (v := .int t0) Vt (by decide) rfl d3_12 rfl
    obtain ⟨hpn10_4, Kn10_5, zhpn10_4, Vb1', X⟩ := X.castore (q := 14) Vb1 nb1 (by decide) (nar8 bt0) (i := 0) rfl (by first | decide | exact Nat.le_of_ble_eq_true rfl) d3_13 rfl
    replace KX := KX.trans Kn10_5 (fun x q => by cases List.mem_singleton.mp q; exact Or.inr s_b1)
    replace Vt := Vt.keep Kn10_5 (ninS ne_t_b1 nin0)
    replace Vb1 := Vb1'
    replace X := X.iload_n (q := 15) d3_14 rfl rfl
    replace X := X.iconst (q := 16) (z := (1 : Int32)) d3_15 rfl rfl
    replace X := X.icmpNo (q := 19) d3_16 (tlt (by decide : (1 : Int32) < (10 : Int32))).2.2.2 rfl
    replace X := X.aload_n (q := 20) d3_19 rfl rfl rfl
    replace X := X.iconst (q := 21) (z := (1 : Int32)) d3_20 rfl rfl
    replace X := X.aload_n (q := 22) d3_21 rfl rfl rfl
    replace X := X.iconst (q := 23) (z := (1 : Int32)) d3_22 rfl rfl
    replace X := X.caload (q := 24) (v := .int t1) Vt (by decide) rfl d3_23 rfl
    obtain ⟨hpn10_6, Kn10_7, zhpn10_6, Vb1', X⟩ := X.castore (q := 25) Vb1 nb1 (by decide) (nar8 bt1) (i := 1) rfl (by first | decide | exact Nat.le_of_ble_eq_true rfl) d3_24 rfl
    replace KX := KX.trans Kn10_7 (fun x q => by cases List.mem_singleton.mp q; exact Or.inr s_b1)
    replace Vt := Vt.keep Kn10_7 (ninS ne_t_b1 nin0)
    replace Vb1 := Vb1'
    replace X := X.iload_n (q := 26) d3_25 rfl rfl
    replace X := X.iconst (q := 27) (z := (2 : Int32)) d3_26 rfl rfl
    replace X := X.icmpNo (q := 30) d3_27 (tlt (by decide : (2 : Int32) < (10 : Int32))).2.2.2 rfl
    replace X := X.aload_n (q := 31) d3_30 rfl rfl rfl
    replace X := X.iconst (q := 32) (z := (2 : Int32)) d3_31 rfl rfl
    replace X := X.aload_n (q := 33) d3_32 rfl rfl rfl
    replace X := X.iconst (q := 34) (z := (2 : Int32)) d3_33 rfl rfl
    replace X := X.caload (q := 35) (v := .int t2) Vt (by decide) rfl d3_34 rfl
    obtain ⟨hpn10_8, Kn10_9, zhpn10_8, Vb1', X⟩ := X.castore (q := 36) Vb1 nb1 (by decide) (nar8 bt2) (i := 2) rfl (by first | decide | exact Nat.le_of_ble_eq_true rfl) d3_35 rfl
    replace KX := KX.trans Kn10_9 (fun x q => by cases List.mem_singleton.mp q; exact Or.inr s_b1)
    replace Vt := Vt.keep Kn10_9 (ninS ne_t_b1 nin0)
    replace Vb1 := Vb1'
    replace X := X.iload_n (q := 37) d3_36 rfl rfl
    replace X := X.iconst (q := 38) (z := (3 : Int32)) d3_37 rfl rfl
    replace X := X.icmpNo (q := 41) d3_38 (tlt (by decide : (3 : Int32) < (10 : Int32))).2.2.2 rfl
    replace X := X.aload_n (q := 42) d3_41 rfl rfl rfl
    replace X := X.iconst (q := 43) (z := (3 : Int32)) d3_42 rfl rfl
    replace X := X.aload_n (q := 44) d3_43 rfl rfl rfl
    replace X := X.iconst (q := 45) (z := (3 : Int32)) d3_44 rfl rfl
    replace X := X.caload (q := 46) (v := .int t3) Vt (by decide) rfl d3_45 rfl
    obtain ⟨hpn10_10, Kn10_11, zhpn10_10, Vb1', X⟩ := X.castore (q := 47) Vb1 nb1 (by decide) (nar8 bt3) (i := 3) rfl (by first | decide | exact Nat.le_of_ble_eq_true rfl) d3_46 rfl
    replace KX := KX.trans Kn10_11 (fun x q => by cases List.mem_singleton.mp q; exact Or.inr s_b1)
    replace Vt := Vt.keep Kn10_11 (ninS ne_t_b1 nin0)
    replace Vb1 := Vb1'
    replace X := X.iload_n (q := 48) d3_47 rfl rfl
    replace X := X.iconst (q := 49) (z := (4 : Int32)) d3_48 rfl rfl
    replace X := X.icmpNo (q := 52) d3_49 (tlt (by decide : (4 : Int32) < (10 : Int32))).2.2.2 rfl
    replace X := X.aload_n (q := 53) d3_52 rfl rfl rfl
    replace X := X.iconst (q := 54) (z := (4 : Int32)) d3_53 rfl rfl
    replace X := X.aload_n (q := 55) d3_54 rfl rfl rfl
    replace X := X.iconst (q := 56) (z := (4 : Int32)) d3_55 rfl rfl
    replace X := X.caload (q := 57) (v := .int t4) Vt (by decide) rfl d3_56 rfl
    obtain ⟨hpn10_12, Kn10_13, zhpn10_12, Vb1', X⟩ := X.castore (q := 58) Vb1 nb1 (by decide) (nar8 bt4) (i := 4) rfl (by first | decide | exact Nat.le_of_ble_eq_true rfl) d3_57 rfl
    replace KX := KX.trans Kn10_13 (fun x q => by cases List.mem_singleton.mp q; exact Or.inr s_b1)
    replace Vt := Vt.keep Kn10_13 (ninS ne_t_b1 nin0)
    replace Vb1 := Vb1'
    replace X := X.iload_n (q := 59) d3_58 rfl rfl
    replace X := X.iconst (q := 60) (z := (5 : Int32)) d3_59 rfl rfl
    replace X := X.icmpNo (q := 63) d3_60 (tlt (by decide : (5 : Int32) < (10 : Int32))).2.2.2 rfl
    replace X := X.aload_n (q := 64) d3_63 rfl rfl rfl
    replace X := X.iconst (q := 65) (z := (5 : Int32)) d3_64 rfl rfl
    replace X := X.aload_n (q := 66) d3_65 rfl rfl rfl
    replace X := X.iconst (q := 67) (z := (5 : Int32)) d3_66 rfl rfl
    replace X := X.caload (q := 68) (v := .int t5) Vt (by decide) rfl d3_67 rfl
    obtain ⟨hpn10_14, Kn10_15, zhpn10_14, Vb1', X⟩ := X.castore (q := 69) Vb1 nb1 (by decide) (nar8 bt5) (i := 5) rfl (by first | decide | exact Nat.le_of_ble_eq_true rfl) d3_68 rfl
    replace KX := KX.trans Kn10_15 (fun x q => by cases List.mem_singleton.mp q; exact Or.inr s_b1)
    replace Vt := Vt.keep Kn10_15 (ninS ne_t_b1 nin0)
    replace Vb1 := Vb1'
    replace X := X.iload_n (q := 70) d3_69 rfl rfl
    replace X := X.bipush (q := 72) (z := (6 : Int32)) d3_70 rfl rfl
    replace X := X.icmpNo (q := 75) d3_72 (tlt (by decide : (6 : Int32) < (10 : Int32))).2.2.2 rfl
    replace X := X.aload_n (q := 76) d3_75 rfl rfl rfl
    replace X := X.bipush (q := 78) (z := (6 : Int32)) d3_76 rfl rfl
    replace X := X.aload_n (q := 79) d3_78 rfl rfl rfl
    replace X := X.bipush (q := 81) (z := (6 : Int32)) d3_79 rfl rfl
    replace X := X.caload (q := 82) (v := .int t6) Vt (by decide) rfl d3_81 rfl
    obtain ⟨hpn10_16, Kn10_17, zhpn10_16, Vb1', X⟩ := X.castore (q := 83) Vb1 nb1 (by decide) (nar8 bt6) (i := 6) rfl (by first | decide | exact Nat.le_of_ble_eq_true rfl) d3_82 rfl
    replace KX := KX.trans Kn10_17 (fun x q => by cases List.mem_singleton.mp q; exact Or.inr s_b1)
    replace Vt := Vt.keep Kn10_17 (ninS ne_t_b1 nin0)
    replace Vb1 := Vb1'
    replace X := X.iload_n (q := 84) d3_83 rfl rfl
    replace X := X.bipush (q := 86) (z := (7 : Int32)) d3_84 rfl rfl
    replace X := X.icmpNo (q := 89) d3_86 (tlt (by decide : (7 : Int32) < (10 : Int32))).2.2.2 rfl
    replace X := X.aload_n (q := 90) d3_89 rfl rfl rfl
    replace X := X.bipush (q := 92) (z := (7 : Int32)) d3_90 rfl rfl
    replace X := X.aload_n (q := 93) d3_92 rfl rfl rfl
    replace X := X.bipush (q := 95) (z := (7 : Int32)) d3_93 rfl rfl
    replace X := X.caload (q := 96) (v := .int t7) Vt (by decide) rfl d3_95 rfl
    obtain ⟨hpn10_18, Kn10_19, zhpn10_18, Vb1', X⟩ := X.castore (q := 97) Vb1 nb1 (by decide) (nar8 bt7) (i := 7) rfl (by first | decide | exact Nat.le_of_ble_eq_true rfl) d3_96 rfl
    replace KX := KX.trans Kn10_19 (fun x q => by cases List.mem_singleton.mp q; exact Or.inr s_b1)
    replace Vt := Vt.keep Kn10_19 (ninS ne_t_b1 nin0)
    replace Vb1 := Vb1'
    replace X := X.iload_n (q := 98) d3_97 rfl rfl
    replace X := X.bipush (q := 100) (z := (8 : Int32)) d3_98 rfl rfl
    replace X := X.icmpNo (q := 103) d3_100 (tlt (by decide : (8 : Int32) < (10 : Int32))).2.2.2 rfl
    replace X := X.aload_n (q := 104) d3_103 rfl rfl rfl
    replace X := X.bipush (q := 106) (z := (8 : Int32)) d3_104 rfl rfl
    replace X := X.aload_n (q := 107) d3_106 rfl rfl rfl
    replace X := X.bipush (q := 109) (z := (8 : Int32)) d3_107 rfl rfl
    replace X := X.caload (q := 110) (v := .int t8) Vt (by decide) rfl d3_109 rfl
    obtain ⟨hpn10_20, Kn10_21, zhpn10_20, Vb1', X⟩ := X.castore (q := 111) Vb1 nb1 (by decide) (nar8 bt8) (i := 8) rfl (by first | decide | exact Nat.le_of_ble_eq_true rfl) d3_110 rfl
    replace KX := KX.trans Kn10_21 (fun x q => by cases List.mem_singleton.mp q; exact Or.inr s_b1)
    replace Vt := Vt.keep Kn10_21 (ninS ne_t_b1 nin0)
    replace Vb1 := Vb1'
    replace X := X.iload_n (q := 112) d3_111 rfl rfl
    replace X := X.bipush (q := 114) (z := (9 : Int32)) d3_112 rfl rfl
    replace X := X.icmpNo (q := 117) d3_114 (tlt (by decide : (9 : Int32) < (10 : Int32))).2.2.2 rfl
    replace X := X.aload_n (q := 118) d3_117 rfl rfl rfl
    replace X := X.bipush (q := 120) (z := (9 : Int32)) d3_118 rfl rfl
    replace X := X.aload_n (q := 121) d3_120 rfl rfl rfl
    replace X := X.bipush (q := 123) (z := (9 : Int32)) d3_121 rfl rfl
    replace X := X.caload (q := 124) (v := .int t9) Vt (by decide) rfl d3_123 rfl
    obtain ⟨hpn10_22, Kn10_23, zhpn10_22, Vb1', X⟩ := X.castore (q := 125) Vb1 nb1 (by decide) (nar8 bt9) (i := 9) rfl (by first | decide | exact Nat.le_of_ble_eq_true rfl) d3_124 rfl
    replace KX := KX.trans Kn10_23 (fun x q => by cases List.mem_singleton.mp q; exact Or.inr s_b1)
    replace Vt := Vt.keep Kn10_23 (ninS ne_t_b1 nin0)
    replace Vb1 := Vb1'
    obtain ⟨a1, hpn10_24, ga1, na1, En10_25, Aa1, Da1, X⟩ := X.new (C := "java/lang/String") (q := 128) (hw _ (List.mem_of_getElem? (i := 42) rfl)) (hw _ (List.mem_of_getElem? (i := 3) rfl)) (hw _ (List.mem_of_getElem? (i := 2) rfl)) d3_125 rfl (by decide) (by decide)
    have s_a1 : h.size ≤ a1 := by rw [ga1]; exact KX.1
    have ne_t_a1 : t ≠ a1 := by rw [ga1]; exact Nat.ne_of_lt Vt.lt
    have ne_b1_a1 : b1 ≠ a1 := by rw [ga1]; exact Nat.ne_of_lt Vb1.lt
    replace KX := KX.ext En10_25
    replace Vt := Vt.ext En10_25
    replace Vb1 := Vb1.ext En10_25
    have Fa1_value := Da1 (Or.inr (hw _ (List.mem_of_getElem? (i := 5) rfl))) (ty := (.array .byte)) (by decide)
    have Fa1_coder := Da1 (Or.inr (hw _ (List.mem_of_getElem? (i := 6) rfl))) (ty := .byte) (by decide)
    replace X := X.dup (q := 129) d3_128 rfl rfl
    replace X := X.aload_n (q := 130) d3_129 rfl rfl rfl
    replace Vb1 : Arv Z _ b1 kn10_3 .char (10 : Int32) (([t0, t1, t2, t3, t4, t5, t6, t7, t8, t9] : List Int32).map Value.int) (.int 0) := Vb1
    obtain ⟨hpn10_26, Kn10_27, Sa1, X⟩ := X.strInit (q := 133) (hws_of hw) (hw _ (List.mem_of_getElem? (i := 3) rfl)) (hw _ (List.mem_of_getElem? (i := 43) rfl)) (hw _ (List.mem_of_getElem? (i := 44) rfl)) (hw _ (List.mem_of_getElem? (i := 45) rfl)) Aa1 Fa1_value Fa1_coder Vb1 O2 P5 na1 (by simp) (n := 10) rfl rfl (by decide) (by decide) (by intro c hc; simp only [List.mem_cons, List.not_mem_nil, or_false] at hc; rcases hc with rfl | rfl | rfl | rfl | rfl | rfl | rfl | rfl | rfl | rfl <;> assumption) rfl d3_130 (by decide) (by first | decide | exact Nat.le_of_ble_eq_true rfl) (by decide) (by decide) rfl
    replace KX := KX.trans Kn10_27 (fun x q => by cases List.mem_singleton.mp q; exact Or.inr s_a1)
    replace Vt := Vt.keep Kn10_27 (ninS ne_t_a1 nin0)
    exact X.areturn hEL hret rfl rfl rfl hlk d3_133 (by decide) (by decide) ⟨a1, _, rfl, KX, Sa1⟩
set_option maxRecDepth 65536 in
set_option maxHeartbeats 40000000 in
theorem rm_values {l : Launch} {Z : State} {a0 : Array Value} (hw : ∀ d ∈ tables_1, d.before a0 Z = true) {G1 : Int32} {G3 : Value} {aV aS aP nS nP : Addr} {kV : ClassId} (O2 : Sta Z Z.heap "java/lang/String" "COMPACT_STRINGS" "Z" (.int G1)) (P5 : ¬ G1 = 0) (O4 : Sta Z Z.heap "jdk/internal/util/Preconditions" "SIOOBE_FORMATTER" "Ljava/util/function/BiFunction;" G3) (rG3 : G3.isRef = true) (SC : Sc Z aV aS aP nS nP kV) {h : Heap} (O : Ext Z.heap h)  :
    Ctr l Z EL0 (⟨"com/example/lifecycle/lifecycle/internal/definition/BeanScope", "values", "()[Lcom/example/lifecycle/lifecycle/internal/definition/BeanScope;"⟩ : MethodName) prog_39_method_1_code 0 (some (.array (.object "com/example/lifecycle/lifecycle/internal/definition/BeanScope"))) [] ({ frames := 1, cells := 1, slots := 2, locals := 16 } : Room) #[] h [] (fun v h' => ∃ b k, v = some (.ref b) ∧ Keep h h' [] ∧ Arv Z h' b k (.object "com/example/lifecycle/lifecycle/internal/definition/BeanScope") (2 : Int32) [.ref aS, .ref aP] .null) := by
  refine Ctr.of pn2 O ?_
  intro p e s m below meth c s₁ hret hlk hnm X
  have hEL := hEL0 hw
  have KX : Keep h h [] := Keep.refl _ _
  replace X := X.cast (g' := (mkF m 0 #[] [])) (by first | (simp [entryFrame, mkF, argsToLocals, Value.category]; done) | rfl)
  obtain ⟨sV, eV, vV, sS, eS, fS, gS, sP, eP, fP, gP⟩ := id SC
  replace X := X.getstatic (q := 3) (hw _ (List.mem_of_getElem? (i := 70) rfl)) sV d4_0 rfl
  obtain ⟨b1, h1, gb1, nb1, E1, V1, A1, X⟩ := X.clone (q := 6) (hw _ (List.mem_of_getElem? (i := 72) rfl)) (hw _ (List.mem_of_getElem? (i := 73) rfl)) (hw _ (List.mem_of_getElem? (i := 77) rfl)) (hw _ (List.mem_of_getElem? (i := 75) rfl)) (hw _ (List.mem_of_getElem? (i := 76) rfl)) (hw _ (List.mem_of_getElem? (i := 78) rfl)) (vV.ext X.old) (eV.ext X.old) rfl d4_3 (cap := 2) (by decide) (by decide) (by decide) (by decide) (by decide) rfl
  replace KX := KX.ext E1
  replace X := X.checkcast (q := 9) (hw _ (List.mem_of_getElem? (i := 82) rfl)) (Ins.self A1) d4_6 rfl
  exact X.areturn hEL hret rfl rfl rfl hlk d4_9 (by decide) (by decide) ⟨b1, _, rfl, KX, V1⟩
set_option maxRecDepth 65536 in
set_option maxHeartbeats 40000000 in
theorem rm_eqn {l : Launch} {Z : State} {a0 : Array Value} (hw : ∀ d ∈ tables_1, d.before a0 Z = true) {G1 : Int32} {G3 : Value} {aV aS aP nS nP : Addr} {kV : ClassId} (O2 : Sta Z Z.heap "java/lang/String" "COMPACT_STRINGS" "Z" (.int G1)) (P5 : ¬ G1 = 0) (O4 : Sta Z Z.heap "jdk/internal/util/Preconditions" "SIOOBE_FORMATTER" "Ljava/util/function/BiFunction;" G3) (rG3 : G3.isRef = true) (SC : Sc Z aV aS aP nS nP kV) {h : Heap} (O : Ext Z.heap h) {a : Addr} :
    Ctr l Z EL0 (⟨"java/lang/String", "equals", "(Ljava/lang/Object;)Z"⟩ : MethodName) jdk_42_method_66_code 3 (some .boolean) [] ({ frames := 0, cells := 0, slots := 0, locals := 0 } : Room) #[(.ref a), .null] h [] (fun v h' => v = some (.int 0) ∧ h = h') := by
  refine Ctr.of pn0 O ?_
  intro p e s m below meth c s₁ hret hlk hnm X
  have hEL := hEL0 hw
  have KX : Keep h h [] := Keep.refl _ _
  replace X := X.cast (g' := (mkF m 0 #[.val (.ref a), .val .null, .unset] [])) (by first | (simp [entryFrame, mkF, argsToLocals, Value.category]; done) | rfl)
  replace X := X.aload_n (q := 1) d5_0 rfl rfl rfl
  replace X := X.aload_n (q := 2) d5_1 rfl rfl rfl
  replace X := X.acmpYes (q := 7) d5_2 rfl rfl (by simp [XT.acmp]) (by decide) (by decide)
  replace X := X.aload_n (q := 8) d5_7 rfl rfl rfl
  replace X := X.instNull (q := 11) d5_8 rfl
  replace X := X.ifYes (q := 54) d5_11 (teq rfl).1 (by decide) (by decide)
  replace X := X.iconst (q := 55) (z := (0 : Int32)) d5_54 rfl rfl
  exact X.ireturn hEL hret (Or.inr (Or.inl rfl)) rfl hlk d5_55 (by decide) (by decide) ⟨rfl, rfl⟩
set_option maxRecDepth 65536 in
set_option maxHeartbeats 40000000 in
theorem rm_named0 {l : Launch} {Z : State} {a0 : Array Value} (hw : ∀ d ∈ tables_1, d.before a0 Z = true) {G1 : Int32} {G3 : Value} {aV aS aP nS nP : Addr} {kV : ClassId} (O2 : Sta Z Z.heap "java/lang/String" "COMPACT_STRINGS" "Z" (.int G1)) (P5 : ¬ G1 = 0) (O4 : Sta Z Z.heap "jdk/internal/util/Preconditions" "SIOOBE_FORMATTER" "Ljava/util/function/BiFunction;" G3) (rG3 : G3.isRef = true) (SC : Sc Z aV aS aP nS nP kV) {h : Heap} (O : Ext Z.heap h)  :
    Ctr l Z EL0 (⟨"com/example/lifecycle/lifecycle/internal/definition/BeanScope", "named", "(Ljava/lang/String;)Lcom/example/lifecycle/lifecycle/internal/definition/BeanScope;"⟩ : MethodName) prog_39_method_4_code 5 (some (.object "com/example/lifecycle/lifecycle/internal/definition/BeanScope")) [] ({ frames := 3, cells := 1, slots := 2, locals := 60 } : Room) #[.null] h [] (fun v h' => v = some .null ∧ Keep h h' []) := by
  refine Ctr.of pn2 O ?_
  intro p e s m below meth c s₁ hret hlk hnm X
  have hEL := hEL0 hw
  have KX : Keep h h [] := Keep.refl _ _
  replace X := X.cast (g' := (mkF m 0 #[.val .null, .unset, .unset, .unset, .unset] [])) (by first | (simp [entryFrame, mkF, argsToLocals, Value.category]; done) | rfl)
  obtain ⟨sV, eV, vV, sS, eS, fS, gS, sP, eP, fP, gP⟩ := id SC
  obtain ⟨_, hp1, ⟨b1, kb, rfl, K1, V1⟩, X⟩ := X.callS (q := 3) (rm_values hw O2 P5 O4 rG3 SC X.old) hEL (fun _ q => nomatch q) (hw _ (List.mem_of_getElem? (i := 67) rfl)) (hw _ (List.mem_of_getElem? (i := 68) rfl)) (hw _ (List.mem_of_getElem? (i := 65) rfl)) (hw _ (List.mem_of_getElem? (i := 69) rfl)) (by decide) pd2 (argsL := []) (rest := []) rfl rfl rfl rfl d6_0 (by decide) (by first | decide | exact Nat.le_of_ble_eq_true rfl) (by decide) (by decide) rfl
  replace X := X [(.ref b1)] rfl
  replace KX := KX.trans K1 (fun _ q => nomatch q)
  replace X := X.astore_n (q := 4) (Ls' := #[.val .null, .val (.ref b1), .unset, .unset, .unset]) d6_3 rfl rfl rfl
  replace X := X.aload_n (q := 5) d6_4 rfl rfl rfl
  replace X := X.arraylength (q := 6) V1 d6_5 rfl
  replace X := X.istore_n (q := 7) (Ls' := #[.val .null, .val (.ref b1), .val (.int (2 : Int32)), .unset, .unset]) d6_6 rfl rfl
  replace X := X.iconst (q := 8) (z := (0 : Int32)) d6_7 rfl rfl
  replace X := X.istore_n (q := 9) (Ls' := #[.val .null, .val (.ref b1), .val (.int (2 : Int32)), .val (.int (0 : Int32)), .unset]) d6_8 rfl rfl
  replace X := X.iload_n (q := 10) d6_9 rfl rfl
  replace X := X.iload_n (q := 11) d6_10 rfl rfl
  replace X := X.icmpNo (q := 14) d6_11 (tlt (by decide : (0 : Int32) < (2 : Int32))).2.1 rfl
  replace X := X.aload_n (q := 15) d6_14 rfl rfl rfl
  replace X := X.iload_n (q := 16) d6_15 rfl rfl
  replace X := X.aaload (q := 17) (v := .ref aS) V1 rfl (by decide) rfl d6_16 rfl
  replace X := X.astore (q := 19) (Ls' := #[.val .null, .val (.ref b1), .val (.int (2 : Int32)), .val (.int (0 : Int32)), .val (.ref aS)]) d6_17 rfl rfl rfl
  replace X := X.aload (q := 21) d6_19 rfl rfl rfl
  replace X := X.getfield (q := 24) (hw _ (List.mem_of_getElem? (i := 84) rfl)) (fS.ext X.old) d6_21 rfl
  replace X := X.aload_n (q := 25) d6_24 rfl rfl rfl
  obtain ⟨_, hp2, ⟨rfl, rfl⟩, X⟩ := X.callV (q := 28) (rm_eqn hw O2 P5 O4 rG3 SC X.old (a := nS)) hEL (fun _ q => nomatch q) (hw _ (List.mem_of_getElem? (i := 86) rfl)) (hw _ (List.mem_of_getElem? (i := 87) rfl)) (hw _ (List.mem_of_getElem? (i := 89) rfl)) (hw _ (List.mem_of_getElem? (i := 89) rfl)) (hw _ (List.mem_of_getElem? (i := 88) rfl)) (hw _ (List.mem_of_getElem? (i := 2) rfl)) (hw _ (List.mem_of_getElem? (i := 90) rfl)) (by decide) pd3 (gS.ext X.old).exa (argsL := [.null]) (rest := []) rfl rfl rfl rfl d6_25 (by decide) (by first | decide | exact Nat.le_of_ble_eq_true rfl) (by decide) (by decide) rfl
  replace X := X [(.int (0 : Int32))] rfl
  replace X := X.ifYes (q := 34) d6_28 (teq rfl).1 (by decide) (by decide)
  replace X := X.iinc (q := 37) (z := (1 : Int32)) (Ls' := #[.val .null, .val (.ref b1), .val (.int (2 : Int32)), .val (.int (1 : Int32)), .val (.ref aS)]) d6_34 rfl (by decide) rfl rfl
  replace X := X.goto (q := 9) d6_37 (by decide) (by decide)
  replace X := X.iload_n (q := 10) d6_9 rfl rfl
  replace X := X.iload_n (q := 11) d6_10 rfl rfl
  replace X := X.icmpNo (q := 14) d6_11 (tlt (by decide : (1 : Int32) < (2 : Int32))).2.1 rfl
  replace X := X.aload_n (q := 15) d6_14 rfl rfl rfl
  replace X := X.iload_n (q := 16) d6_15 rfl rfl
  replace X := X.aaload (q := 17) (v := .ref aP) V1 rfl (by decide) rfl d6_16 rfl
  replace X := X.astore (q := 19) (Ls' := #[.val .null, .val (.ref b1), .val (.int (2 : Int32)), .val (.int (1 : Int32)), .val (.ref aP)]) d6_17 rfl rfl rfl
  replace X := X.aload (q := 21) d6_19 rfl rfl rfl
  replace X := X.getfield (q := 24) (hw _ (List.mem_of_getElem? (i := 84) rfl)) (fP.ext X.old) d6_21 rfl
  replace X := X.aload_n (q := 25) d6_24 rfl rfl rfl
  obtain ⟨_, hp3, ⟨rfl, rfl⟩, X⟩ := X.callV (q := 28) (rm_eqn hw O2 P5 O4 rG3 SC X.old (a := nP)) hEL (fun _ q => nomatch q) (hw _ (List.mem_of_getElem? (i := 86) rfl)) (hw _ (List.mem_of_getElem? (i := 87) rfl)) (hw _ (List.mem_of_getElem? (i := 89) rfl)) (hw _ (List.mem_of_getElem? (i := 89) rfl)) (hw _ (List.mem_of_getElem? (i := 88) rfl)) (hw _ (List.mem_of_getElem? (i := 2) rfl)) (hw _ (List.mem_of_getElem? (i := 90) rfl)) (by decide) pd3 (gP.ext X.old).exa (argsL := [.null]) (rest := []) rfl rfl rfl rfl d6_25 (by decide) (by first | decide | exact Nat.le_of_ble_eq_true rfl) (by decide) (by decide) rfl
  replace X := X [(.int (0 : Int32))] rfl
  replace X := X.ifYes (q := 34) d6_28 (teq rfl).1 (by decide) (by decide)
  replace X := X.iinc (q := 37) (z := (2 : Int32)) (Ls' := #[.val .null, .val (.ref b1), .val (.int (2 : Int32)), .val (.int (2 : Int32)), .val (.ref aP)]) d6_34 rfl (by decide) rfl rfl
  replace X := X.goto (q := 9) d6_37 (by decide) (by decide)
  replace X := X.iload_n (q := 10) d6_9 rfl rfl
  replace X := X.iload_n (q := 11) d6_10 rfl rfl
  replace X := X.icmpYes (q := 40) d6_11 (flt (by decide : ¬ (2 : Int32) < (2 : Int32))).2.1 (by decide) (by decide)
  replace X := X.aconst_null (q := 41) d6_40 rfl
  exact X.areturn hEL hret rfl rfl rfl hlk d6_41 (by decide) (by decide) ⟨rfl, KX⟩
set_option maxRecDepth 65536 in
set_option maxHeartbeats 40000000 in
theorem rm_named1 {l : Launch} {Z : State} {a0 : Array Value} (hw : ∀ d ∈ tables_1, d.before a0 Z = true) {G1 : Int32} {G3 : Value} {aV aS aP nS nP : Addr} {kV : ClassId} (O2 : Sta Z Z.heap "java/lang/String" "COMPACT_STRINGS" "Z" (.int G1)) (P5 : ¬ G1 = 0) (O4 : Sta Z Z.heap "jdk/internal/util/Preconditions" "SIOOBE_FORMATTER" "Ljava/util/function/BiFunction;" G3) (rG3 : G3.isRef = true) (SC : Sc Z aV aS aP nS nP kV) {h : Heap} (O : Ext Z.heap h) {a : Addr} {cs : List Int32} (S : Str Z h a cs) :
    Ctr l Z EL0 (⟨"com/example/lifecycle/lifecycle/internal/definition/BeanScope", "named", "(Ljava/lang/String;)Lcom/example/lifecycle/lifecycle/internal/definition/BeanScope;"⟩ : MethodName) prog_39_method_4_code 5 (some (.object "com/example/lifecycle/lifecycle/internal/definition/BeanScope")) [] ({ frames := 3, cells := 1, slots := 2, locals := 60 } : Room) #[(.ref a)] h [] (fun v h' => v = some (if cs = ([115, 105, 110, 103, 108, 101, 116, 111, 110] : List Int32) then .ref aS else if cs = ([112, 114, 111, 116, 111, 116, 121, 112, 101] : List Int32) then .ref aP else .null) ∧ Keep h h' []) := by
  refine Ctr.of pn2 O ?_
  intro p e s m below meth c s₁ hret hlk hnm X
  have hEL := hEL0 hw
  have KX : Keep h h [] := Keep.refl _ _
  replace X := X.cast (g' := (mkF m 0 #[.val (.ref a), .unset, .unset, .unset, .unset] [])) (by first | (simp [entryFrame, mkF, argsToLocals, Value.category]; done) | rfl)
  obtain ⟨sV, eV, vV, sS, eS, fS, gS, sP, eP, fP, gP⟩ := id SC
  obtain ⟨_, hp1, ⟨b1, kb, rfl, K1, V1⟩, X⟩ := X.callS (q := 3) (rm_values hw O2 P5 O4 rG3 SC X.old) hEL (fun _ q => nomatch q) (hw _ (List.mem_of_getElem? (i := 67) rfl)) (hw _ (List.mem_of_getElem? (i := 68) rfl)) (hw _ (List.mem_of_getElem? (i := 65) rfl)) (hw _ (List.mem_of_getElem? (i := 69) rfl)) (by decide) pd2 (argsL := []) (rest := []) rfl rfl rfl rfl d6_0 (by decide) (by first | decide | exact Nat.le_of_ble_eq_true rfl) (by decide) (by decide) rfl
  replace X := X [(.ref b1)] rfl
  replace KX := KX.trans K1 (fun _ q => nomatch q)
  replace S := S.keep K1 (fun _ q => nomatch q)
  replace X := X.astore_n (q := 4) (Ls' := #[.val (.ref a), .val (.ref b1), .unset, .unset, .unset]) d6_3 rfl rfl rfl
  replace X := X.aload_n (q := 5) d6_4 rfl rfl rfl
  replace X := X.arraylength (q := 6) V1 d6_5 rfl
  replace X := X.istore_n (q := 7) (Ls' := #[.val (.ref a), .val (.ref b1), .val (.int (2 : Int32)), .unset, .unset]) d6_6 rfl rfl
  replace X := X.iconst (q := 8) (z := (0 : Int32)) d6_7 rfl rfl
  replace X := X.istore_n (q := 9) (Ls' := #[.val (.ref a), .val (.ref b1), .val (.int (2 : Int32)), .val (.int (0 : Int32)), .unset]) d6_8 rfl rfl
  replace X := X.iload_n (q := 10) d6_9 rfl rfl
  replace X := X.iload_n (q := 11) d6_10 rfl rfl
  replace X := X.icmpNo (q := 14) d6_11 (tlt (by decide : (0 : Int32) < (2 : Int32))).2.1 rfl
  replace X := X.aload_n (q := 15) d6_14 rfl rfl rfl
  replace X := X.iload_n (q := 16) d6_15 rfl rfl
  replace X := X.aaload (q := 17) (v := .ref aS) V1 rfl (by decide) rfl d6_16 rfl
  replace X := X.astore (q := 19) (Ls' := #[.val (.ref a), .val (.ref b1), .val (.int (2 : Int32)), .val (.int (0 : Int32)), .val (.ref aS)]) d6_17 rfl rfl rfl
  replace X := X.aload (q := 21) d6_19 rfl rfl rfl
  replace X := X.getfield (q := 24) (hw _ (List.mem_of_getElem? (i := 84) rfl)) (fS.ext X.old) d6_21 rfl
  replace X := X.aload_n (q := 25) d6_24 rfl rfl rfl
  rcases Decidable.em (cs = ([115, 105, 110, 103, 108, 101, 116, 111, 110] : List Int32)) with q0 | q0
  · skip
    replace X := X.strEq (q := 28) (z := (1 : Int32)) (gS.ext X.old) S (heq_of hw) (hw _ (List.mem_of_getElem? (i := 3) rfl)) O2 P5 (hw _ (List.mem_of_getElem? (i := 86) rfl)) (hw _ (List.mem_of_getElem? (i := 87) rfl)) (hw _ (List.mem_of_getElem? (i := 89) rfl)) (hw _ (List.mem_of_getElem? (i := 88) rfl)) rfl d6_25 (by decide) (by first | decide | exact Nat.le_of_ble_eq_true rfl) (by decide) (by decide) (if_pos q0.symm) rfl
    replace X := X.ifNo (q := 31) d6_28 (feq (by decide : ¬ (1 : Int32) = 0)).1 rfl
    replace X := X.aload (q := 33) d6_31 rfl rfl rfl
    exact X.areturn hEL hret rfl rfl rfl hlk d6_33 (by decide) (by decide) ⟨by rw [if_pos q0], KX⟩
  · skip
    replace X := X.strEq (q := 28) (z := (0 : Int32)) (gS.ext X.old) S (heq_of hw) (hw _ (List.mem_of_getElem? (i := 3) rfl)) O2 P5 (hw _ (List.mem_of_getElem? (i := 86) rfl)) (hw _ (List.mem_of_getElem? (i := 87) rfl)) (hw _ (List.mem_of_getElem? (i := 89) rfl)) (hw _ (List.mem_of_getElem? (i := 88) rfl)) rfl d6_25 (by decide) (by first | decide | exact Nat.le_of_ble_eq_true rfl) (by decide) (by decide) (if_neg (fun q => q0 q.symm)) rfl
    replace X := X.ifYes (q := 34) d6_28 (teq rfl).1 (by decide) (by decide)
    replace X := X.iinc (q := 37) (z := (1 : Int32)) (Ls' := #[.val (.ref a), .val (.ref b1), .val (.int (2 : Int32)), .val (.int (1 : Int32)), .val (.ref aS)]) d6_34 rfl (by decide) rfl rfl
    replace X := X.goto (q := 9) d6_37 (by decide) (by decide)
    replace X := X.iload_n (q := 10) d6_9 rfl rfl
    replace X := X.iload_n (q := 11) d6_10 rfl rfl
    replace X := X.icmpNo (q := 14) d6_11 (tlt (by decide : (1 : Int32) < (2 : Int32))).2.1 rfl
    replace X := X.aload_n (q := 15) d6_14 rfl rfl rfl
    replace X := X.iload_n (q := 16) d6_15 rfl rfl
    replace X := X.aaload (q := 17) (v := .ref aP) V1 rfl (by decide) rfl d6_16 rfl
    replace X := X.astore (q := 19) (Ls' := #[.val (.ref a), .val (.ref b1), .val (.int (2 : Int32)), .val (.int (1 : Int32)), .val (.ref aP)]) d6_17 rfl rfl rfl
    replace X := X.aload (q := 21) d6_19 rfl rfl rfl
    replace X := X.getfield (q := 24) (hw _ (List.mem_of_getElem? (i := 84) rfl)) (fP.ext X.old) d6_21 rfl
    replace X := X.aload_n (q := 25) d6_24 rfl rfl rfl
    rcases Decidable.em (cs = ([112, 114, 111, 116, 111, 116, 121, 112, 101] : List Int32)) with q1 | q1
    · skip
      replace X := X.strEq (q := 28) (z := (1 : Int32)) (gP.ext X.old) S (heq_of hw) (hw _ (List.mem_of_getElem? (i := 3) rfl)) O2 P5 (hw _ (List.mem_of_getElem? (i := 86) rfl)) (hw _ (List.mem_of_getElem? (i := 87) rfl)) (hw _ (List.mem_of_getElem? (i := 89) rfl)) (hw _ (List.mem_of_getElem? (i := 88) rfl)) rfl d6_25 (by decide) (by first | decide | exact Nat.le_of_ble_eq_true rfl) (by decide) (by decide) (if_pos q1.symm) rfl
      replace X := X.ifNo (q := 31) d6_28 (feq (by decide : ¬ (1 : Int32) = 0)).1 rfl
      replace X := X.aload (q := 33) d6_31 rfl rfl rfl
      exact X.areturn hEL hret rfl rfl rfl hlk d6_33 (by decide) (by decide) ⟨by rw [if_neg q0, if_pos q1], KX⟩
    · skip
      replace X := X.strEq (q := 28) (z := (0 : Int32)) (gP.ext X.old) S (heq_of hw) (hw _ (List.mem_of_getElem? (i := 3) rfl)) O2 P5 (hw _ (List.mem_of_getElem? (i := 86) rfl)) (hw _ (List.mem_of_getElem? (i := 87) rfl)) (hw _ (List.mem_of_getElem? (i := 89) rfl)) (hw _ (List.mem_of_getElem? (i := 88) rfl)) rfl d6_25 (by decide) (by first | decide | exact Nat.le_of_ble_eq_true rfl) (by decide) (by decide) (if_neg (fun q => q1 q.symm)) rfl
      replace X := X.ifYes (q := 34) d6_28 (teq rfl).1 (by decide) (by decide)
      replace X := X.iinc (q := 37) (z := (2 : Int32)) (Ls' := #[.val (.ref a), .val (.ref b1), .val (.int (2 : Int32)), .val (.int (2 : Int32)), .val (.ref aP)]) d6_34 rfl (by decide) rfl rfl
      replace X := X.goto (q := 9) d6_37 (by decide) (by decide)
      replace X := X.iload_n (q := 10) d6_9 rfl rfl
      replace X := X.iload_n (q := 11) d6_10 rfl rfl
      replace X := X.icmpYes (q := 40) d6_11 (flt (by decide : ¬ (2 : Int32) < (2 : Int32))).2.1 (by decide) (by decide)
      replace X := X.aconst_null (q := 41) d6_40 rfl
      exact X.areturn hEL hret rfl rfl rfl hlk d6_41 (by decide) (by decide) ⟨by rw [if_neg q0, if_neg q1], KX⟩
set_option maxRecDepth 65536 in
set_option maxHeartbeats 40000000 in
theorem rm_sname {l : Launch} {Z : State} {a0 : Array Value} (hw : ∀ d ∈ tables_1, d.before a0 Z = true) {G1 : Int32} {G3 : Value} {aV aS aP nS nP : Addr} {kV : ClassId} (O2 : Sta Z Z.heap "java/lang/String" "COMPACT_STRINGS" "Z" (.int G1)) (P5 : ¬ G1 = 0) (O4 : Sta Z Z.heap "jdk/internal/util/Preconditions" "SIOOBE_FORMATTER" "Ljava/util/function/BiFunction;" G3) (rG3 : G3.isRef = true) (SC : Sc Z aV aS aP nS nP kV) {h : Heap} (O : Ext Z.heap h) {d r : Addr} (F : Fld Z h d "com/example/lifecycle/lifecycle/internal/definition/BeanScope" "scopeName" "Ljava/lang/String;" (.ref r)) :
    Ctr l Z EL0 (⟨"com/example/lifecycle/lifecycle/internal/definition/BeanScope", "scopeName", "()Ljava/lang/String;"⟩ : MethodName) prog_39_method_5_code 1 (some (.object "java/lang/String")) [] ({ frames := 0, cells := 0, slots := 0, locals := 0 } : Room) #[(.ref d)] h [] (fun v h' => v = some (.ref r) ∧ h = h') := by
  refine Ctr.of pn2 O ?_
  intro p e s m below meth c s₁ hret hlk hnm X
  have hEL := hEL0 hw
  have KX : Keep h h [] := Keep.refl _ _
  replace X := X.cast (g' := (mkF m 0 #[.val (.ref d)] [])) (by first | (simp [entryFrame, mkF, argsToLocals, Value.category]; done) | rfl)
  replace X := X.aload_n (q := 1) d7_0 rfl rfl rfl
  replace X := X.getfield (q := 4) (hw _ (List.mem_of_getElem? (i := 84) rfl)) F d7_1 rfl
  exact X.areturn hEL hret rfl rfl rfl hlk d7_4 (by decide) (by decide) ⟨rfl, rfl⟩
theorem m10 (x : Int32) : ¬ (x &&& (2147483647 : Int32)) % (10 : Int32) < 0 ∧ (x &&& (2147483647 : Int32)) % (10 : Int32) < 10 := by
  obtain ⟨j, hj⟩ := modR x (10 : Int32) (n := 10) (by decide) (by decide)
  rw [hj]
  exact (by decide +kernel : ∀ j : Fin 10, ¬ Int32.ofNat j.val < 0 ∧ Int32.ofNat j.val < 10) j
theorem m11 (x : Int32) : (x &&& (2147483647 : Int32)) % (11 : Int32) = 0 ∨ (x &&& (2147483647 : Int32)) % (11 : Int32) = 1 ∨ (x &&& (2147483647 : Int32)) % (11 : Int32) = 2 ∨ (x &&& (2147483647 : Int32)) % (11 : Int32) = 3 ∨ (x &&& (2147483647 : Int32)) % (11 : Int32) = 4 ∨ (x &&& (2147483647 : Int32)) % (11 : Int32) = 5 ∨ (x &&& (2147483647 : Int32)) % (11 : Int32) = 6 ∨ (x &&& (2147483647 : Int32)) % (11 : Int32) = 7 ∨ (x &&& (2147483647 : Int32)) % (11 : Int32) = 8 ∨ (x &&& (2147483647 : Int32)) % (11 : Int32) = 9 ∨ (x &&& (2147483647 : Int32)) % (11 : Int32) = 10 := by
  obtain ⟨j, hj⟩ := modR x (11 : Int32) (n := 11) (by decide) (by decide)
  rw [hj]
  exact (by decide +kernel : ∀ j : Fin 11, Int32.ofNat j.val = 0 ∨ Int32.ofNat j.val = 1 ∨ Int32.ofNat j.val = 2 ∨ Int32.ofNat j.val = 3 ∨ Int32.ofNat j.val = 4 ∨ Int32.ofNat j.val = 5 ∨ Int32.ofNat j.val = 6 ∨ Int32.ofNat j.val = 7 ∨ Int32.ofNat j.val = 8 ∨ Int32.ofNat j.val = 9 ∨ Int32.ofNat j.val = 10) j
set_option maxRecDepth 65536 in
set_option maxHeartbeats 40000000 in
theorem rm_law {l : Launch} {Z : State} {a0 : Array Value} (hw : ∀ d ∈ tables_1, d.before a0 Z = true) {G1 : Int32} {G3 : Value} {aV aS aP nS nP : Addr} {kV : ClassId} (O2 : Sta Z Z.heap "java/lang/String" "COMPACT_STRINGS" "Z" (.int G1)) (P5 : ¬ G1 = 0) (O4 : Sta Z Z.heap "jdk/internal/util/Preconditions" "SIOOBE_FORMATTER" "Ljava/util/function/BiFunction;" G3) (rG3 : G3.isRef = true) (SC : Sc Z aV aS aP nS nP kV) {h : Heap} (O : Ext Z.heap h) {p0 p1 p2 p3 p4 p5 : Int32} :
    Ctr l Z EL0 x code maxLocals ret tables_1 room_1 #[(.int p0), (.int p1), (.int p2), (.int p3), (.int p4), (.int p5)] h [] (fun v h' => v = some (.int 1)) := by
  refine Ctr.of pn1 O ?_
  intro p e s m below meth c s₁ hret hlk hnm X
  have hEL := hEL0 hw
  have KX : Keep h h [] := Keep.refl _ _
  replace X := X.cast (g' := (mkF m 0 #[.val (.int p0), .val (.int p1), .val (.int p2), .val (.int p3), .val (.int p4), .val (.int p5), .unset, .unset, .unset, .unset, .unset, .unset] [])) (by first | (simp [entryFrame, mkF, argsToLocals, Value.category, maxLocals]; done) | rfl)
  obtain ⟨sV, eV, vV, sS, eS, fS, gS, sP, eP, fP, gP⟩ := id SC
  obtain ⟨md, hmd⟩ : ∃ z, z = p0 &&& (3 : Int32) := ⟨_, rfl⟩
  replace X := X.iload_n (q := 1) at_0 rfl rfl
  replace X := X.iconst (q := 2) (z := (3 : Int32)) at_1 rfl rfl
  replace X := X.iand (q := 3) (z := md) at_2 hmd.symm rfl
  replace X := X.istore (q := 5) (Ls' := #[.val (.int p0), .val (.int p1), .val (.int p2), .val (.int p3), .val (.int p4), .val (.int p5), .val (.int md), .unset, .unset, .unset, .unset, .unset]) at_3 rfl rfl
  replace X := X.bipush (q := 7) (z := (10 : Int32)) at_5 rfl rfl
  obtain ⟨b1, hp1, k3, gb1, nb1, E2, Vb1, X⟩ := X.newarray (q := 9) (aty := .char) (hw _ (List.mem_of_getElem? (i := 0) rfl)) at_7 rfl (by decide) (cap := 10) (by decide) (by decide) (by decide) (by decide) 10
  have s_b1 : h.size ≤ b1 := by rw [gb1]; exact KX.1
  replace KX := KX.ext E2
  have TT : Tar Z _ b1 := ⟨_, List.replicate 10 0, rfl, by intro c hc; rw [List.eq_of_mem_replicate hc]; decide, Vb1⟩
  replace X := X.astore (q := 11) (Ls' := #[.val (.int p0), .val (.int p1), .val (.int p2), .val (.int p3), .val (.int p4), .val (.int p5), .val (.int md), .val (.ref b1), .unset, .unset, .unset, .unset]) at_9 rfl rfl rfl
  replace X := X.iload (q := 13) at_11 rfl rfl
  have J : ∃ h1 : Heap, Keep h h1 [] ∧ Tar Z h1 b1 ∧ Wk p l e room_1 s m #[(.int p0), (.int p1), (.int p2), (.int p3), (.int p4), (.int p5)] below meth c Z EL0 x.cls code maxLocals s₁ (entryFrame m #[(.int p0), (.int p1), (.int p2), (.int p3), (.int p4), (.int p5)] maxLocals) (mkF m 164 #[.val (.int p0), .val (.int p1), .val (.int p2), .val (.int p3), .val (.int p4), .val (.int p5), .val (.int md), .val (.ref b1), .unset, .unset, .unset, .unset] []) h1 5 60 [] := by
    rcases Decidable.em (md = 0) with m0 | m0
    · skip
      replace X := X.ifNo (q := 16) at_13 (teq m0).2 rfl
      replace X := X.aload (q := 18) at_16 rfl rfl rfl
      obtain ⟨c1, hp4, tc1, kc1, E5, Ac1, Cc1, Vc1, Tc1, Nc1, X⟩ := X.ldcR (q := 20) hEL (List.mem_of_getElem? (i := 0) rfl) (hw _ (List.mem_of_getElem? (i := 1) rfl)) (wS_of hw) (vs := (([115, 105, 110, 103, 108, 101, 116, 111, 110] : List Int32).map (fun c => c.toInt8.toInt32)).map Value.int) (z := Int32.ofNat 9) ⟨by decide, by decide +kernel⟩ (by decide) (by decide) at_18 (n := 36) (by decide) (by first | decide | exact Nat.le_of_ble_eq_true rfl) (by decide) (by decide) rfl
      replace KX := KX.ext E5
      replace TT := TT.ext E5
      have Sc1 : Str Z hp4 c1 ([115, 105, 110, 103, 108, 101, 116, 111, 110] : List Int32) := ⟨by decide, by decide, Ac1, Cc1, tc1, kc1, Vc1, Tc1⟩
      obtain ⟨_, hp6, ⟨rfl, K1, TT'⟩, X⟩ := X.callS (q := 23) (rm_fill hw O2 P5 O4 rG3 SC X.old TT nb1 Sc1 rfl) hEL (fun _ q => nomatch q) (hw _ (List.mem_of_getElem? (i := 9) rfl)) (hw _ (List.mem_of_getElem? (i := 10) rfl)) (hw _ (List.mem_of_getElem? (i := 11) rfl)) (hw _ (List.mem_of_getElem? (i := 12) rfl)) (by decide) pd4 (argsL := [(.ref b1), (.ref c1)]) (rest := []) rfl rfl rfl rfl at_20 (by decide) (by first | decide | exact Nat.le_of_ble_eq_true rfl) (by decide) (by decide) rfl
      replace X := X [] rfl
      replace KX := KX.trans K1 (fun x q => by cases List.mem_singleton.mp q; exact Or.inr s_b1)
      replace X := X.goto (q := 164) at_23 (by decide) (by decide)
      exact ⟨_, KX, TT', (X.more (by decide) (by decide)).drop (fun _ q => nomatch q)⟩
    · skip
      replace X := X.ifYes (q := 26) at_13 (feq m0).2 (by decide) (by decide)
      replace X := X.iload (q := 28) at_26 rfl rfl
      replace X := X.iconst (q := 29) (z := (1 : Int32)) at_28 rfl rfl
      rcases Decidable.em (md = 1) with m1 | m1
      · skip
        replace X := X.icmpNo (q := 32) at_29 (teq m1).2 rfl
        replace X := X.aload (q := 34) at_32 rfl rfl rfl
        obtain ⟨c1, hp4, tc1, kc1, E5, Ac1, Cc1, Vc1, Tc1, Nc1, X⟩ := X.ldcR (q := 36) hEL (List.mem_of_getElem? (i := 1) rfl) (hw _ (List.mem_of_getElem? (i := 96) rfl)) (wS_of hw) (vs := (([112, 114, 111, 116, 111, 116, 121, 112, 101] : List Int32).map (fun c => c.toInt8.toInt32)).map Value.int) (z := Int32.ofNat 9) ⟨by decide, by decide +kernel⟩ (by decide) (by decide) at_34 (n := 36) (by decide) (by first | decide | exact Nat.le_of_ble_eq_true rfl) (by decide) (by decide) rfl
        replace KX := KX.ext E5
        replace TT := TT.ext E5
        have Sc1 : Str Z hp4 c1 ([112, 114, 111, 116, 111, 116, 121, 112, 101] : List Int32) := ⟨by decide, by decide, Ac1, Cc1, tc1, kc1, Vc1, Tc1⟩
        obtain ⟨_, hp6, ⟨rfl, K1, TT'⟩, X⟩ := X.callS (q := 39) (rm_fill hw O2 P5 O4 rG3 SC X.old TT nb1 Sc1 rfl) hEL (fun _ q => nomatch q) (hw _ (List.mem_of_getElem? (i := 9) rfl)) (hw _ (List.mem_of_getElem? (i := 10) rfl)) (hw _ (List.mem_of_getElem? (i := 11) rfl)) (hw _ (List.mem_of_getElem? (i := 12) rfl)) (by decide) pd4 (argsL := [(.ref b1), (.ref c1)]) (rest := []) rfl rfl rfl rfl at_36 (by decide) (by first | decide | exact Nat.le_of_ble_eq_true rfl) (by decide) (by decide) rfl
        replace X := X [] rfl
        replace KX := KX.trans K1 (fun x q => by cases List.mem_singleton.mp q; exact Or.inr s_b1)
        replace X := X.goto (q := 164) at_39 (by decide) (by decide)
        exact ⟨_, KX, TT', (X.more (by decide) (by decide)).drop (fun _ q => nomatch q)⟩
      · skip
        replace X := X.icmpYes (q := 42) at_29 (feq m1).2 (by decide) (by decide)
        replace X := X.aload (q := 44) at_42 rfl rfl rfl
        replace X := X.iconst (q := 45) (z := (0 : Int32)) at_44 rfl rfl
        replace X := X.iload (q := 47) at_45 rfl rfl
        replace X := X.sipush (q := 50) (z := (255 : Int32)) at_47 rfl rfl
        replace X := X.iand (q := 51) (z := (p4 &&& (255 : Int32))) at_50 rfl rfl
        replace X := X.i2c (q := 52) (z := (p4 &&& (255 : Int32))) at_51 (i2c_mask _) rfl
        have N6 : ∀ x ∈ [b1], Nst Z _ x := fun x q => by cases List.mem_singleton.mp q; exact TT.nst (hw _ (List.mem_of_getElem? (i := 3) rfl))
        obtain ⟨hp4, K5, TT', X⟩ := X.tstore (q := 53) TT nb1 (by decide) (and255 _) at_52 rfl
        replace KX := KX.trans K5 (fun x q => by cases List.mem_singleton.mp q; exact Or.inr s_b1)
        replace TT := TT'
        replace X := X.aload (q := 55) at_53 rfl rfl rfl
        replace X := X.iconst (q := 56) (z := (1 : Int32)) at_55 rfl rfl
        replace X := X.iload (q := 58) at_56 rfl rfl
        replace X := X.bipush (q := 60) (z := (8 : Int32)) at_58 rfl rfl
        replace X := X.iushr (q := 61) (z := (XT.ushr p4 (8 : Int32))) at_60 rfl rfl
        replace X := X.sipush (q := 64) (z := (255 : Int32)) at_61 rfl rfl
        replace X := X.iand (q := 65) (z := ((XT.ushr p4 (8 : Int32)) &&& (255 : Int32))) at_64 rfl rfl
        replace X := X.i2c (q := 66) (z := ((XT.ushr p4 (8 : Int32)) &&& (255 : Int32))) at_65 (i2c_mask _) rfl
        have N9 : ∀ x ∈ [b1], Nst Z _ x := fun x q => by cases List.mem_singleton.mp q; exact TT.nst (hw _ (List.mem_of_getElem? (i := 3) rfl))
        obtain ⟨hp7, K8, TT', X⟩ := X.tstore (q := 67) TT nb1 (by decide) (and255 _) at_66 rfl
        replace KX := KX.trans K8 (fun x q => by cases List.mem_singleton.mp q; exact Or.inr s_b1)
        replace TT := TT'
        replace X := X.aload (q := 69) at_67 rfl rfl rfl
        replace X := X.iconst (q := 70) (z := (2 : Int32)) at_69 rfl rfl
        replace X := X.iload (q := 72) at_70 rfl rfl
        replace X := X.bipush (q := 74) (z := (16 : Int32)) at_72 rfl rfl
        replace X := X.iushr (q := 75) (z := (XT.ushr p4 (16 : Int32))) at_74 rfl rfl
        replace X := X.sipush (q := 78) (z := (255 : Int32)) at_75 rfl rfl
        replace X := X.iand (q := 79) (z := ((XT.ushr p4 (16 : Int32)) &&& (255 : Int32))) at_78 rfl rfl
        replace X := X.i2c (q := 80) (z := ((XT.ushr p4 (16 : Int32)) &&& (255 : Int32))) at_79 (i2c_mask _) rfl
        have N12 : ∀ x ∈ [b1], Nst Z _ x := fun x q => by cases List.mem_singleton.mp q; exact TT.nst (hw _ (List.mem_of_getElem? (i := 3) rfl))
        obtain ⟨hp10, K11, TT', X⟩ := X.tstore (q := 81) TT nb1 (by decide) (and255 _) at_80 rfl
        replace KX := KX.trans K11 (fun x q => by cases List.mem_singleton.mp q; exact Or.inr s_b1)
        replace TT := TT'
        replace X := X.aload (q := 83) at_81 rfl rfl rfl
        replace X := X.iconst (q := 84) (z := (3 : Int32)) at_83 rfl rfl
        replace X := X.iload (q := 86) at_84 rfl rfl
        replace X := X.bipush (q := 88) (z := (24 : Int32)) at_86 rfl rfl
        replace X := X.iushr (q := 89) (z := (XT.ushr p4 (24 : Int32))) at_88 rfl rfl
        replace X := X.sipush (q := 92) (z := (255 : Int32)) at_89 rfl rfl
        replace X := X.iand (q := 93) (z := ((XT.ushr p4 (24 : Int32)) &&& (255 : Int32))) at_92 rfl rfl
        replace X := X.i2c (q := 94) (z := ((XT.ushr p4 (24 : Int32)) &&& (255 : Int32))) at_93 (i2c_mask _) rfl
        have N15 : ∀ x ∈ [b1], Nst Z _ x := fun x q => by cases List.mem_singleton.mp q; exact TT.nst (hw _ (List.mem_of_getElem? (i := 3) rfl))
        obtain ⟨hp13, K14, TT', X⟩ := X.tstore (q := 95) TT nb1 (by decide) (and255 _) at_94 rfl
        replace KX := KX.trans K14 (fun x q => by cases List.mem_singleton.mp q; exact Or.inr s_b1)
        replace TT := TT'
        replace X := X.aload (q := 97) at_95 rfl rfl rfl
        replace X := X.iconst (q := 98) (z := (4 : Int32)) at_97 rfl rfl
        replace X := X.iload (q := 100) at_98 rfl rfl
        replace X := X.sipush (q := 103) (z := (255 : Int32)) at_100 rfl rfl
        replace X := X.iand (q := 104) (z := (p5 &&& (255 : Int32))) at_103 rfl rfl
        replace X := X.i2c (q := 105) (z := (p5 &&& (255 : Int32))) at_104 (i2c_mask _) rfl
        have N18 : ∀ x ∈ [b1], Nst Z _ x := fun x q => by cases List.mem_singleton.mp q; exact TT.nst (hw _ (List.mem_of_getElem? (i := 3) rfl))
        obtain ⟨hp16, K17, TT', X⟩ := X.tstore (q := 106) TT nb1 (by decide) (and255 _) at_105 rfl
        replace KX := KX.trans K17 (fun x q => by cases List.mem_singleton.mp q; exact Or.inr s_b1)
        replace TT := TT'
        replace X := X.aload (q := 108) at_106 rfl rfl rfl
        replace X := X.iconst (q := 109) (z := (5 : Int32)) at_108 rfl rfl
        replace X := X.iload (q := 111) at_109 rfl rfl
        replace X := X.bipush (q := 113) (z := (8 : Int32)) at_111 rfl rfl
        replace X := X.iushr (q := 114) (z := (XT.ushr p5 (8 : Int32))) at_113 rfl rfl
        replace X := X.sipush (q := 117) (z := (255 : Int32)) at_114 rfl rfl
        replace X := X.iand (q := 118) (z := ((XT.ushr p5 (8 : Int32)) &&& (255 : Int32))) at_117 rfl rfl
        replace X := X.i2c (q := 119) (z := ((XT.ushr p5 (8 : Int32)) &&& (255 : Int32))) at_118 (i2c_mask _) rfl
        have N21 : ∀ x ∈ [b1], Nst Z _ x := fun x q => by cases List.mem_singleton.mp q; exact TT.nst (hw _ (List.mem_of_getElem? (i := 3) rfl))
        obtain ⟨hp19, K20, TT', X⟩ := X.tstore (q := 120) TT nb1 (by decide) (and255 _) at_119 rfl
        replace KX := KX.trans K20 (fun x q => by cases List.mem_singleton.mp q; exact Or.inr s_b1)
        replace TT := TT'
        replace X := X.aload (q := 122) at_120 rfl rfl rfl
        replace X := X.bipush (q := 124) (z := (6 : Int32)) at_122 rfl rfl
        replace X := X.iload (q := 126) at_124 rfl rfl
        replace X := X.bipush (q := 128) (z := (16 : Int32)) at_126 rfl rfl
        replace X := X.iushr (q := 129) (z := (XT.ushr p5 (16 : Int32))) at_128 rfl rfl
        replace X := X.sipush (q := 132) (z := (255 : Int32)) at_129 rfl rfl
        replace X := X.iand (q := 133) (z := ((XT.ushr p5 (16 : Int32)) &&& (255 : Int32))) at_132 rfl rfl
        replace X := X.i2c (q := 134) (z := ((XT.ushr p5 (16 : Int32)) &&& (255 : Int32))) at_133 (i2c_mask _) rfl
        have N24 : ∀ x ∈ [b1], Nst Z _ x := fun x q => by cases List.mem_singleton.mp q; exact TT.nst (hw _ (List.mem_of_getElem? (i := 3) rfl))
        obtain ⟨hp22, K23, TT', X⟩ := X.tstore (q := 135) TT nb1 (by decide) (and255 _) at_134 rfl
        replace KX := KX.trans K23 (fun x q => by cases List.mem_singleton.mp q; exact Or.inr s_b1)
        replace TT := TT'
        replace X := X.aload (q := 137) at_135 rfl rfl rfl
        replace X := X.bipush (q := 139) (z := (7 : Int32)) at_137 rfl rfl
        replace X := X.iload (q := 141) at_139 rfl rfl
        replace X := X.bipush (q := 143) (z := (24 : Int32)) at_141 rfl rfl
        replace X := X.iushr (q := 144) (z := (XT.ushr p5 (24 : Int32))) at_143 rfl rfl
        replace X := X.sipush (q := 147) (z := (255 : Int32)) at_144 rfl rfl
        replace X := X.iand (q := 148) (z := ((XT.ushr p5 (24 : Int32)) &&& (255 : Int32))) at_147 rfl rfl
        replace X := X.i2c (q := 149) (z := ((XT.ushr p5 (24 : Int32)) &&& (255 : Int32))) at_148 (i2c_mask _) rfl
        have N27 : ∀ x ∈ [b1], Nst Z _ x := fun x q => by cases List.mem_singleton.mp q; exact TT.nst (hw _ (List.mem_of_getElem? (i := 3) rfl))
        obtain ⟨hp25, K26, TT', X⟩ := X.tstore (q := 150) TT nb1 (by decide) (and255 _) at_149 rfl
        replace KX := KX.trans K26 (fun x q => by cases List.mem_singleton.mp q; exact Or.inr s_b1)
        replace TT := TT'
        replace X := X.aload (q := 152) at_150 rfl rfl rfl
        replace X := X.bipush (q := 154) (z := (8 : Int32)) at_152 rfl rfl
        replace X := X.iload_n (q := 155) at_154 rfl rfl
        replace X := X.bipush (q := 157) (z := (16 : Int32)) at_155 rfl rfl
        replace X := X.iushr (q := 158) (z := (XT.ushr p2 (16 : Int32))) at_157 rfl rfl
        replace X := X.sipush (q := 161) (z := (255 : Int32)) at_158 rfl rfl
        replace X := X.iand (q := 162) (z := ((XT.ushr p2 (16 : Int32)) &&& (255 : Int32))) at_161 rfl rfl
        replace X := X.i2c (q := 163) (z := ((XT.ushr p2 (16 : Int32)) &&& (255 : Int32))) at_162 (i2c_mask _) rfl
        have N30 : ∀ x ∈ [b1], Nst Z _ x := fun x q => by cases List.mem_singleton.mp q; exact TT.nst (hw _ (List.mem_of_getElem? (i := 3) rfl))
        obtain ⟨hp28, K29, TT', X⟩ := X.tstore (q := 164) TT nb1 (by decide) (and255 _) at_163 rfl
        replace KX := KX.trans K29 (fun x q => by cases List.mem_singleton.mp q; exact Or.inr s_b1)
        replace TT := TT'
        exact ⟨_, KX, TT, (X.more (by decide) (by decide)).drop (fun _ q => nomatch q)⟩
  clear X KX TT
  obtain ⟨h1, KX, TT, X⟩ := J
  replace X := X.aload (q := 166) at_164 rfl rfl rfl
  replace X := X.bipush (q := 168) (z := (9 : Int32)) at_166 rfl rfl
  replace X := X.iload_n (q := 169) at_168 rfl rfl
  replace X := X.bipush (q := 171) (z := (8 : Int32)) at_169 rfl rfl
  replace X := X.iushr (q := 172) (z := (XT.ushr p2 (8 : Int32))) at_171 rfl rfl
  replace X := X.sipush (q := 175) (z := (255 : Int32)) at_172 rfl rfl
  replace X := X.iand (q := 176) (z := ((XT.ushr p2 (8 : Int32)) &&& (255 : Int32))) at_175 rfl rfl
  replace X := X.i2c (q := 177) (z := ((XT.ushr p2 (8 : Int32)) &&& (255 : Int32))) at_176 (i2c_mask _) rfl
  have Ny6 : ∀ x ∈ [b1], Nst Z _ x := fun x q => by cases List.mem_singleton.mp q; exact TT.nst (hw _ (List.mem_of_getElem? (i := 3) rfl))
  obtain ⟨hpy4, Ky5, TT', X⟩ := X.tstore (q := 178) TT nb1 (by decide) (and255 _) at_177 rfl
  replace KX := KX.trans Ky5 (fun x q => by cases List.mem_singleton.mp q; exact Or.inr s_b1)
  replace TT := TT'
  replace X := X.iload_n (q := 179) at_178 rfl rfl
  replace X := X.bipush (q := 181) (z := (16 : Int32)) at_179 rfl rfl
  replace X := X.iand (q := 182) (z := (p1 &&& (16 : Int32))) at_181 rfl rfl
  have J : ∃ h2 : Heap, Keep h h2 [] ∧ Tar Z h2 b1 ∧ Wk p l e room_1 s m #[(.int p0), (.int p1), (.int p2), (.int p3), (.int p4), (.int p5)] below meth c Z EL0 x.cls code maxLocals s₁ (entryFrame m #[(.int p0), (.int p1), (.int p2), (.int p3), (.int p4), (.int p5)] maxLocals) (mkF m 201 #[.val (.int p0), .val (.int p1), .val (.int p2), .val (.int p3), .val (.int p4), .val (.int p5), .val (.int md), .val (.ref b1), .unset, .unset, .unset, .unset] []) h2 5 60 [] := by
    rcases Decidable.em ((p1 &&& (16 : Int32)) = 0) with m2 | m2
    · skip
      replace X := X.ifYes (q := 201) at_182 (teq m2).1 (by decide) (by decide)
      exact ⟨_, KX, TT, X⟩
    · skip
      replace X := X.ifNo (q := 185) at_182 (feq m2).1 rfl
      replace X := X.aload (q := 187) at_185 rfl rfl rfl
      replace X := X.iload_n (q := 188) at_187 rfl rfl
      replace X := X.ldcI (q := 190) (hw _ (List.mem_of_getElem? (i := 38) rfl)) at_188 rfl
      replace X := X.iand (q := 191) (z := (p1 &&& (2147483647 : Int32))) at_190 rfl rfl
      replace X := X.bipush (q := 193) (z := (10 : Int32)) at_191 rfl rfl
      replace X := X.irem (q := 194) (z := ((p1 &&& (2147483647 : Int32)) % (10 : Int32))) at_193 (by decide) rfl rfl
      replace X := X.iload_n (q := 195) at_194 rfl rfl
      replace X := X.sipush (q := 198) (z := (255 : Int32)) at_195 rfl rfl
      replace X := X.iand (q := 199) (z := (p2 &&& (255 : Int32))) at_198 rfl rfl
      replace X := X.i2c (q := 200) (z := (p2 &&& (255 : Int32))) at_199 (i2c_mask _) rfl
      have Ny9 : ∀ x ∈ [b1], Nst Z _ x := fun x q => by cases List.mem_singleton.mp q; exact TT.nst (hw _ (List.mem_of_getElem? (i := 3) rfl))
      obtain ⟨hpy7, Ky8, TT', X⟩ := X.tstore (q := 201) TT nb1 (m10 p1) (and255 _) at_200 rfl
      replace KX := KX.trans Ky8 (fun x q => by cases List.mem_singleton.mp q; exact Or.inr s_b1)
      replace TT := TT'
      exact ⟨_, KX, TT, X⟩
  clear X KX TT
  obtain ⟨h2, KX, TT, X⟩ := J
  obtain ⟨n, hn0⟩ : ∃ z, z = (p3 &&& (2147483647 : Int32)) % (11 : Int32) := ⟨_, rfl⟩
  have hn : n = 0 ∨ n = 1 ∨ n = 2 ∨ n = 3 ∨ n = 4 ∨ n = 5 ∨ n = 6 ∨ n = 7 ∨ n = 8 ∨ n = 9 ∨ n = 10 := by rw [hn0]; exact m11 p3
  replace X := X.iload_n (q := 202) at_201 rfl rfl
  replace X := X.ldcI (q := 204) (hw _ (List.mem_of_getElem? (i := 38) rfl)) at_202 rfl
  replace X := X.iand (q := 205) (z := (p3 &&& (2147483647 : Int32))) at_204 rfl rfl
  replace X := X.bipush (q := 207) (z := (11 : Int32)) at_205 rfl rfl
  replace X := X.irem (q := 208) (z := n) at_207 (by decide) hn0.symm rfl
  replace X := X.istore (q := 210) (Ls' := #[.val (.int p0), .val (.int p1), .val (.int p2), .val (.int p3), .val (.int p4), .val (.int p5), .val (.int md), .val (.ref b1), .val (.int n), .unset, .unset, .unset]) at_208 rfl rfl
  replace X := X.iload (q := 212) at_210 rfl rfl
  replace X := X.iconst (q := 213) (z := (3 : Int32)) at_212 rfl rfl
  rcases Decidable.em (md = 3) with m3 | m3
  · skip
    replace X := X.icmpNo (q := 216) at_213 (teq m3).2 rfl
    replace X := X.aconst_null (q := 217) at_216 rfl
    replace X := X.goto (q := 227) at_217 (by decide) (by decide)
    replace X := X.astore (q := 229) (Ls' := #[.val (.int p0), .val (.int p1), .val (.int p2), .val (.int p3), .val (.int p4), .val (.int p5), .val (.int md), .val (.ref b1), .val (.int n), .val .null, .unset, .unset]) at_227 rfl rfl rfl
    replace X := X.aload (q := 231) at_229 rfl rfl rfl
    obtain ⟨_, hpz7, ⟨rfl, K2⟩, X⟩ := X.callS (q := 234) (rm_named0 hw O2 P5 O4 rG3 SC X.old) hEL (fun _ q => nomatch q) (hw _ (List.mem_of_getElem? (i := 63) rfl)) (hw _ (List.mem_of_getElem? (i := 64) rfl)) (hw _ (List.mem_of_getElem? (i := 65) rfl)) (hw _ (List.mem_of_getElem? (i := 66) rfl)) (by decide) pd5 (argsL := [.null]) (rest := []) rfl rfl rfl rfl at_231 (by decide) (by first | decide | exact Nat.le_of_ble_eq_true rfl) (by decide) (by decide) rfl
    replace X := X [.null] rfl
    replace KX := KX.trans K2 (fun _ q => nomatch q)
    replace TT := TT.keep K2 nin0
    replace X := X.astore (q := 236) (Ls' := #[.val (.int p0), .val (.int p1), .val (.int p2), .val (.int p3), .val (.int p4), .val (.int p5), .val (.int md), .val (.ref b1), .val (.int n), .val .null, .val .null, .unset]) at_234 rfl rfl rfl
    replace X := X.aload (q := 238) at_236 rfl rfl rfl
    replace X := X.ifnonnullNo (q := 241) at_238 rfl
    replace X := X.aconst_null (q := 242) at_241 rfl
    replace X := X.astore (q := 244) (Ls' := #[.val (.int p0), .val (.int p1), .val (.int p2), .val (.int p3), .val (.int p4), .val (.int p5), .val (.int md), .val (.ref b1), .val (.int n), .val .null, .val .null, .val .null]) at_242 rfl rfl rfl
    replace X := X.goto (q := 286) at_244 (by decide) (by decide)
    replace X := X.aload (q := 288) at_286 rfl rfl rfl
    replace X := X.aload (q := 290) at_288 rfl rfl rfl
    replace X := X.acmpYes (q := 295) at_290 rfl rfl (by simp [XT.acmp]) (by decide) (by decide)
    replace X := X.aload (q := 297) at_295 rfl rfl rfl
    replace X := X.ifnullYes (q := 313) at_297 (by decide) (by decide)
    replace X := X.iconst (q := 314) (z := (1 : Int32)) at_313 rfl rfl
    replace X := X.goto (q := 318) at_314 (by decide) (by decide)
    exact X.ireturn hEL hret (Or.inr (Or.inl rfl)) rfl hlk at_318 (by decide) (by decide) rfl
  · skip
    replace X := X.icmpYes (q := 220) at_213 (feq m3).2 (by decide) (by decide)
    replace X := X.aload (q := 222) at_220 rfl rfl rfl
    replace X := X.iload (q := 224) at_222 rfl rfl
    obtain ⟨_, hpz7, ⟨s1, cs, rfl, K2, S1⟩, X⟩ := X.callS (q := 227) (rm_cut hw O2 P5 O4 rG3 SC X.old TT hn) hEL (fun _ q => nomatch q) (hw _ (List.mem_of_getElem? (i := 39) rfl)) (hw _ (List.mem_of_getElem? (i := 40) rfl)) (hw _ (List.mem_of_getElem? (i := 11) rfl)) (hw _ (List.mem_of_getElem? (i := 41) rfl)) (by decide) pd6 (argsL := [(.ref b1), (.int n)]) (rest := []) rfl rfl rfl rfl at_224 (by decide) (by first | decide | exact Nat.le_of_ble_eq_true rfl) (by decide) (by decide) rfl
    replace X := X [(.ref s1)] rfl
    replace KX := KX.trans K2 (fun _ q => nomatch q)
    replace TT := TT.keep K2 nin0
    replace X := X.astore (q := 229) (Ls' := #[.val (.int p0), .val (.int p1), .val (.int p2), .val (.int p3), .val (.int p4), .val (.int p5), .val (.int md), .val (.ref b1), .val (.int n), .val (.ref s1), .unset, .unset]) at_227 rfl rfl rfl
    replace X := X.aload (q := 231) at_229 rfl rfl rfl
    obtain ⟨_, hpz8, ⟨rfl, K3⟩, X⟩ := X.callS (q := 234) (rm_named1 hw O2 P5 O4 rG3 SC X.old S1) hEL (fun _ q => nomatch q) (hw _ (List.mem_of_getElem? (i := 63) rfl)) (hw _ (List.mem_of_getElem? (i := 64) rfl)) (hw _ (List.mem_of_getElem? (i := 65) rfl)) (hw _ (List.mem_of_getElem? (i := 66) rfl)) (by decide) pd5 (argsL := [(.ref s1)]) (rest := []) rfl rfl rfl rfl at_231 (by decide) (by first | decide | exact Nat.le_of_ble_eq_true rfl) (by decide) (by decide) rfl
    replace X := X [(if cs = ([115, 105, 110, 103, 108, 101, 116, 111, 110] : List Int32) then .ref aS else if cs = ([112, 114, 111, 116, 111, 116, 121, 112, 101] : List Int32) then .ref aP else .null)] rfl
    replace KX := KX.trans K3 (fun _ q => nomatch q)
    replace S1 := S1.keep K3 (fun _ q => nomatch q)
    rcases Decidable.em (cs = ([115, 105, 110, 103, 108, 101, 116, 111, 110] : List Int32)) with q0 | q0
    · skip
      rw [if_pos q0] at X
      replace X := X.astore (q := 236) (Ls' := #[.val (.int p0), .val (.int p1), .val (.int p2), .val (.int p3), .val (.int p4), .val (.int p5), .val (.int md), .val (.ref b1), .val (.int n), .val (.ref s1), .val (.ref aS), .unset]) at_234 rfl rfl rfl
      replace X := X.aload (q := 238) at_236 rfl rfl rfl
      replace X := X.ifnonnullYes (q := 247) at_238 (by decide) (by decide)
      replace X := X.aload (q := 249) at_247 rfl rfl rfl
      obtain ⟨c3, hps9, tc3, kc3, Es10, Ac3, Cc3, Vc3, Tc3, Nc3, X⟩ := X.ldcR (q := 251) hEL (List.mem_of_getElem? (i := 0) rfl) (hw _ (List.mem_of_getElem? (i := 1) rfl)) (wS_of hw) (vs := (([115, 105, 110, 103, 108, 101, 116, 111, 110] : List Int32).map (fun c => c.toInt8.toInt32)).map Value.int) (z := Int32.ofNat 9) ⟨by decide, by decide +kernel⟩ (by decide) (by decide) at_249 (n := 36) (by decide) (by first | decide | exact Nat.le_of_ble_eq_true rfl) (by decide) (by decide) rfl
      replace KX := KX.ext Es10
      replace S1 := S1.ext Es10
      have Sc3 : Str Z hps9 c3 ([115, 105, 110, 103, 108, 101, 116, 111, 110] : List Int32) := ⟨by decide, by decide, Ac3, Cc3, tc3, kc3, Vc3, Tc3⟩
      replace X := X.strEq (q := 254) (z := (1 : Int32)) S1 Sc3 (heq_of hw) (hw _ (List.mem_of_getElem? (i := 3) rfl)) O2 P5 (hw _ (List.mem_of_getElem? (i := 95) rfl)) (hw _ (List.mem_of_getElem? (i := 87) rfl)) (hw _ (List.mem_of_getElem? (i := 89) rfl)) (hw _ (List.mem_of_getElem? (i := 88) rfl)) rfl at_251 (by decide) (by first | decide | exact Nat.le_of_ble_eq_true rfl) (by decide) (by decide) (if_pos q0) rfl
      replace X := X.ifNo (q := 257) at_254 (feq (by decide : ¬ (1 : Int32) = 0)).1 rfl
      replace X := X.getstatic (q := 260) (hw _ (List.mem_of_getElem? (i := 97) rfl)) sS at_257 rfl
      replace X := X.astore (q := 262) (Ls' := #[.val (.int p0), .val (.int p1), .val (.int p2), .val (.int p3), .val (.int p4), .val (.int p5), .val (.int md), .val (.ref b1), .val (.int n), .val (.ref s1), .val (.ref aS), .val (.ref aS)]) at_260 rfl rfl rfl
      replace X := X.goto (q := 286) at_262 (by decide) (by decide)
      replace X := X.aload (q := 288) at_286 rfl rfl rfl
      replace X := X.aload (q := 290) at_288 rfl rfl rfl
      replace X := X.acmpYes (q := 295) at_290 rfl rfl (by simp [XT.acmp]) (by decide) (by decide)
      replace X := X.aload (q := 297) at_295 rfl rfl rfl
      replace X := X.ifnullNo (q := 300) at_297 rfl
      replace X := X.aload (q := 302) at_300 rfl rfl rfl
      obtain ⟨_, hps11, ⟨rfl, rfl⟩, X⟩ := X.callV (q := 305) (rm_sname hw O2 P5 O4 rG3 SC X.old (fS.ext X.old)) hEL (fun _ q => nomatch q) (hw _ (List.mem_of_getElem? (i := 98) rfl)) (hw _ (List.mem_of_getElem? (i := 99) rfl)) (hw _ (List.mem_of_getElem? (i := 101) rfl)) (hw _ (List.mem_of_getElem? (i := 101) rfl)) (hw _ (List.mem_of_getElem? (i := 100) rfl)) (hw _ (List.mem_of_getElem? (i := 65) rfl)) (hw _ (List.mem_of_getElem? (i := 102) rfl)) (by decide) pd7 (eS.ext X.old) (argsL := []) (rest := []) rfl rfl rfl rfl at_302 (by decide) (by first | decide | exact Nat.le_of_ble_eq_true rfl) (by decide) (by decide) rfl
      replace X := X [(.ref nS)] rfl
      replace X := X.aload (q := 307) at_305 rfl rfl rfl
      replace X := X.strEq (q := 310) (z := (1 : Int32)) (gS.ext X.old) S1 (heq_of hw) (hw _ (List.mem_of_getElem? (i := 3) rfl)) O2 P5 (hw _ (List.mem_of_getElem? (i := 95) rfl)) (hw _ (List.mem_of_getElem? (i := 87) rfl)) (hw _ (List.mem_of_getElem? (i := 89) rfl)) (hw _ (List.mem_of_getElem? (i := 88) rfl)) rfl at_307 (by decide) (by first | decide | exact Nat.le_of_ble_eq_true rfl) (by decide) (by decide) (if_pos q0.symm) rfl
      replace X := X.ifNo (q := 313) at_310 (feq (by decide : ¬ (1 : Int32) = 0)).1 rfl
      replace X := X.iconst (q := 314) (z := (1 : Int32)) at_313 rfl rfl
      replace X := X.goto (q := 318) at_314 (by decide) (by decide)
      exact X.ireturn hEL hret (Or.inr (Or.inl rfl)) rfl hlk at_318 (by decide) (by decide) rfl
    · skip
      rw [if_neg q0] at X
      rcases Decidable.em (cs = ([112, 114, 111, 116, 111, 116, 121, 112, 101] : List Int32)) with q1 | q1
      · skip
        rw [if_pos q1] at X
        replace X := X.astore (q := 236) (Ls' := #[.val (.int p0), .val (.int p1), .val (.int p2), .val (.int p3), .val (.int p4), .val (.int p5), .val (.int md), .val (.ref b1), .val (.int n), .val (.ref s1), .val (.ref aP), .unset]) at_234 rfl rfl rfl
        replace X := X.aload (q := 238) at_236 rfl rfl rfl
        replace X := X.ifnonnullYes (q := 247) at_238 (by decide) (by decide)
        replace X := X.aload (q := 249) at_247 rfl rfl rfl
        obtain ⟨c3, hpt9, tc3, kc3, Et10, Ac3, Cc3, Vc3, Tc3, Nc3, X⟩ := X.ldcR (q := 251) hEL (List.mem_of_getElem? (i := 0) rfl) (hw _ (List.mem_of_getElem? (i := 1) rfl)) (wS_of hw) (vs := (([115, 105, 110, 103, 108, 101, 116, 111, 110] : List Int32).map (fun c => c.toInt8.toInt32)).map Value.int) (z := Int32.ofNat 9) ⟨by decide, by decide +kernel⟩ (by decide) (by decide) at_249 (n := 36) (by decide) (by first | decide | exact Nat.le_of_ble_eq_true rfl) (by decide) (by decide) rfl
        replace KX := KX.ext Et10
        replace S1 := S1.ext Et10
        have Sc3 : Str Z hpt9 c3 ([115, 105, 110, 103, 108, 101, 116, 111, 110] : List Int32) := ⟨by decide, by decide, Ac3, Cc3, tc3, kc3, Vc3, Tc3⟩
        replace X := X.strEq (q := 254) (z := (0 : Int32)) S1 Sc3 (heq_of hw) (hw _ (List.mem_of_getElem? (i := 3) rfl)) O2 P5 (hw _ (List.mem_of_getElem? (i := 95) rfl)) (hw _ (List.mem_of_getElem? (i := 87) rfl)) (hw _ (List.mem_of_getElem? (i := 89) rfl)) (hw _ (List.mem_of_getElem? (i := 88) rfl)) rfl at_251 (by decide) (by first | decide | exact Nat.le_of_ble_eq_true rfl) (by decide) (by decide) (if_neg q0) rfl
        replace X := X.ifYes (q := 265) at_254 (teq rfl).1 (by decide) (by decide)
        replace X := X.aload (q := 267) at_265 rfl rfl rfl
        obtain ⟨c4, hpt11, tc4, kc4, Et12, Ac4, Cc4, Vc4, Tc4, Nc4, X⟩ := X.ldcR (q := 269) hEL (List.mem_of_getElem? (i := 1) rfl) (hw _ (List.mem_of_getElem? (i := 96) rfl)) (wS_of hw) (vs := (([112, 114, 111, 116, 111, 116, 121, 112, 101] : List Int32).map (fun c => c.toInt8.toInt32)).map Value.int) (z := Int32.ofNat 9) ⟨by decide, by decide +kernel⟩ (by decide) (by decide) at_267 (n := 36) (by decide) (by first | decide | exact Nat.le_of_ble_eq_true rfl) (by decide) (by decide) rfl
        replace KX := KX.ext Et12
        replace S1 := S1.ext Et12
        have Sc4 : Str Z hpt11 c4 ([112, 114, 111, 116, 111, 116, 121, 112, 101] : List Int32) := ⟨by decide, by decide, Ac4, Cc4, tc4, kc4, Vc4, Tc4⟩
        replace X := X.strEq (q := 272) (z := (1 : Int32)) S1 Sc4 (heq_of hw) (hw _ (List.mem_of_getElem? (i := 3) rfl)) O2 P5 (hw _ (List.mem_of_getElem? (i := 95) rfl)) (hw _ (List.mem_of_getElem? (i := 87) rfl)) (hw _ (List.mem_of_getElem? (i := 89) rfl)) (hw _ (List.mem_of_getElem? (i := 88) rfl)) rfl at_269 (by decide) (by first | decide | exact Nat.le_of_ble_eq_true rfl) (by decide) (by decide) (if_pos q1) rfl
        replace X := X.ifNo (q := 275) at_272 (feq (by decide : ¬ (1 : Int32) = 0)).1 rfl
        replace X := X.getstatic (q := 278) (hw _ (List.mem_of_getElem? (i := 104) rfl)) sP at_275 rfl
        replace X := X.astore (q := 280) (Ls' := #[.val (.int p0), .val (.int p1), .val (.int p2), .val (.int p3), .val (.int p4), .val (.int p5), .val (.int md), .val (.ref b1), .val (.int n), .val (.ref s1), .val (.ref aP), .val (.ref aP)]) at_278 rfl rfl rfl
        replace X := X.goto (q := 286) at_280 (by decide) (by decide)
        replace X := X.aload (q := 288) at_286 rfl rfl rfl
        replace X := X.aload (q := 290) at_288 rfl rfl rfl
        replace X := X.acmpYes (q := 295) at_290 rfl rfl (by simp [XT.acmp]) (by decide) (by decide)
        replace X := X.aload (q := 297) at_295 rfl rfl rfl
        replace X := X.ifnullNo (q := 300) at_297 rfl
        replace X := X.aload (q := 302) at_300 rfl rfl rfl
        obtain ⟨_, hpt13, ⟨rfl, rfl⟩, X⟩ := X.callV (q := 305) (rm_sname hw O2 P5 O4 rG3 SC X.old (fP.ext X.old)) hEL (fun _ q => nomatch q) (hw _ (List.mem_of_getElem? (i := 98) rfl)) (hw _ (List.mem_of_getElem? (i := 99) rfl)) (hw _ (List.mem_of_getElem? (i := 101) rfl)) (hw _ (List.mem_of_getElem? (i := 101) rfl)) (hw _ (List.mem_of_getElem? (i := 100) rfl)) (hw _ (List.mem_of_getElem? (i := 65) rfl)) (hw _ (List.mem_of_getElem? (i := 102) rfl)) (by decide) pd7 (eP.ext X.old) (argsL := []) (rest := []) rfl rfl rfl rfl at_302 (by decide) (by first | decide | exact Nat.le_of_ble_eq_true rfl) (by decide) (by decide) rfl
        replace X := X [(.ref nP)] rfl
        replace X := X.aload (q := 307) at_305 rfl rfl rfl
        replace X := X.strEq (q := 310) (z := (1 : Int32)) (gP.ext X.old) S1 (heq_of hw) (hw _ (List.mem_of_getElem? (i := 3) rfl)) O2 P5 (hw _ (List.mem_of_getElem? (i := 95) rfl)) (hw _ (List.mem_of_getElem? (i := 87) rfl)) (hw _ (List.mem_of_getElem? (i := 89) rfl)) (hw _ (List.mem_of_getElem? (i := 88) rfl)) rfl at_307 (by decide) (by first | decide | exact Nat.le_of_ble_eq_true rfl) (by decide) (by decide) (if_pos q1.symm) rfl
        replace X := X.ifNo (q := 313) at_310 (feq (by decide : ¬ (1 : Int32) = 0)).1 rfl
        replace X := X.iconst (q := 314) (z := (1 : Int32)) at_313 rfl rfl
        replace X := X.goto (q := 318) at_314 (by decide) (by decide)
        exact X.ireturn hEL hret (Or.inr (Or.inl rfl)) rfl hlk at_318 (by decide) (by decide) rfl
      · skip
        rw [if_neg q1] at X
        replace X := X.astore (q := 236) (Ls' := #[.val (.int p0), .val (.int p1), .val (.int p2), .val (.int p3), .val (.int p4), .val (.int p5), .val (.int md), .val (.ref b1), .val (.int n), .val (.ref s1), .val .null, .unset]) at_234 rfl rfl rfl
        replace X := X.aload (q := 238) at_236 rfl rfl rfl
        replace X := X.ifnonnullYes (q := 247) at_238 (by decide) (by decide)
        replace X := X.aload (q := 249) at_247 rfl rfl rfl
        obtain ⟨c3, hpu9, tc3, kc3, Eu10, Ac3, Cc3, Vc3, Tc3, Nc3, X⟩ := X.ldcR (q := 251) hEL (List.mem_of_getElem? (i := 0) rfl) (hw _ (List.mem_of_getElem? (i := 1) rfl)) (wS_of hw) (vs := (([115, 105, 110, 103, 108, 101, 116, 111, 110] : List Int32).map (fun c => c.toInt8.toInt32)).map Value.int) (z := Int32.ofNat 9) ⟨by decide, by decide +kernel⟩ (by decide) (by decide) at_249 (n := 36) (by decide) (by first | decide | exact Nat.le_of_ble_eq_true rfl) (by decide) (by decide) rfl
        replace KX := KX.ext Eu10
        replace S1 := S1.ext Eu10
        have Sc3 : Str Z hpu9 c3 ([115, 105, 110, 103, 108, 101, 116, 111, 110] : List Int32) := ⟨by decide, by decide, Ac3, Cc3, tc3, kc3, Vc3, Tc3⟩
        replace X := X.strEq (q := 254) (z := (0 : Int32)) S1 Sc3 (heq_of hw) (hw _ (List.mem_of_getElem? (i := 3) rfl)) O2 P5 (hw _ (List.mem_of_getElem? (i := 95) rfl)) (hw _ (List.mem_of_getElem? (i := 87) rfl)) (hw _ (List.mem_of_getElem? (i := 89) rfl)) (hw _ (List.mem_of_getElem? (i := 88) rfl)) rfl at_251 (by decide) (by first | decide | exact Nat.le_of_ble_eq_true rfl) (by decide) (by decide) (if_neg q0) rfl
        replace X := X.ifYes (q := 265) at_254 (teq rfl).1 (by decide) (by decide)
        replace X := X.aload (q := 267) at_265 rfl rfl rfl
        obtain ⟨c4, hpu11, tc4, kc4, Eu12, Ac4, Cc4, Vc4, Tc4, Nc4, X⟩ := X.ldcR (q := 269) hEL (List.mem_of_getElem? (i := 1) rfl) (hw _ (List.mem_of_getElem? (i := 96) rfl)) (wS_of hw) (vs := (([112, 114, 111, 116, 111, 116, 121, 112, 101] : List Int32).map (fun c => c.toInt8.toInt32)).map Value.int) (z := Int32.ofNat 9) ⟨by decide, by decide +kernel⟩ (by decide) (by decide) at_267 (n := 36) (by decide) (by first | decide | exact Nat.le_of_ble_eq_true rfl) (by decide) (by decide) rfl
        replace KX := KX.ext Eu12
        replace S1 := S1.ext Eu12
        have Sc4 : Str Z hpu11 c4 ([112, 114, 111, 116, 111, 116, 121, 112, 101] : List Int32) := ⟨by decide, by decide, Ac4, Cc4, tc4, kc4, Vc4, Tc4⟩
        replace X := X.strEq (q := 272) (z := (0 : Int32)) S1 Sc4 (heq_of hw) (hw _ (List.mem_of_getElem? (i := 3) rfl)) O2 P5 (hw _ (List.mem_of_getElem? (i := 95) rfl)) (hw _ (List.mem_of_getElem? (i := 87) rfl)) (hw _ (List.mem_of_getElem? (i := 89) rfl)) (hw _ (List.mem_of_getElem? (i := 88) rfl)) rfl at_269 (by decide) (by first | decide | exact Nat.le_of_ble_eq_true rfl) (by decide) (by decide) (if_neg q1) rfl
        replace X := X.ifYes (q := 283) at_272 (teq rfl).1 (by decide) (by decide)
        replace X := X.aconst_null (q := 284) at_283 rfl
        replace X := X.astore (q := 286) (Ls' := #[.val (.int p0), .val (.int p1), .val (.int p2), .val (.int p3), .val (.int p4), .val (.int p5), .val (.int md), .val (.ref b1), .val (.int n), .val (.ref s1), .val .null, .val .null]) at_284 rfl rfl rfl
        replace X := X.aload (q := 288) at_286 rfl rfl rfl
        replace X := X.aload (q := 290) at_288 rfl rfl rfl
        replace X := X.acmpYes (q := 295) at_290 rfl rfl (by simp [XT.acmp]) (by decide) (by decide)
        replace X := X.aload (q := 297) at_295 rfl rfl rfl
        replace X := X.ifnullYes (q := 313) at_297 (by decide) (by decide)
        replace X := X.iconst (q := 314) (z := (1 : Int32)) at_313 rfl rfl
        replace X := X.goto (q := 318) at_314 (by decide) (by decide)
        exact X.ireturn hEL hret (Or.inr (Or.inl rfl)) rfl hlk at_318 (by decide) (by decide) rfl
set_option maxRecDepth 65536 in
set_option maxHeartbeats 40000000 in
theorem comes_1 {Post : Tables → Env → Array Value → State → Outcome → State → Prop} (hpost : ∀ tb e args s v u, (limb_1_1.after args s (.returned v) u = true ∧ limb_1_2.after args s (.returned v) u = true ∧ True) → FramedW s (.returned v) u (Jvm.fieldLocs frame_1_writes args s ++ Jvm.arrayLocs frame_1_arrays args s ++ Jvm.staticLocs frame_1_statics s) 24 3264 → Post tb e args s (.returned v) u) :
    ArmFor flags0 classFile x code maxLocals ret World_1 tables_1 room_1 Calls_1 rest_1 Pre_1 Post := by
  intro l hfl _ _ p e ha hc hk s m args below hf hA hF happ hP
  obtain ⟨hcalls, hrest, hpre⟩ := hP
  obtain ⟨-, -, -, hnamed, -, -, -, hat⟩ := (Spec.applies_iff hf).mp happ
  obtain ⟨hg, hn⟩ := and_e (Cond.before_iff.mp (show (Jvm.Cond.and given_1 narrow_1).before args s = true from hpre))
  obtain ⟨h1, h2⟩ := and_e hg
  obtain ⟨w0, w1, w2, w3, w4, w5, rfl⟩ : ∃ w0 w1 w2 w3 w4 w5 : Value, args = #[w0, w1, w2, w3, w4, w5] := by
    have hs : args.size = 6 := by simpa [Cond.value, given_1] using h1
    obtain ⟨L⟩ := args
    match L, hs with
    | [w0, w1, w2, w3, w4, w5], _ => exact ⟨w0, w1, w2, w3, w4, w5, rfl⟩
  have hw := fun d (hd : d ∈ tables_1) => atoms_spec (ws := Jvm.Cond.code x code maxLocals ret :: tables_1) hat d (List.mem_cons_of_mem _ hd)
  obtain ⟨hsets, hown0⟩ := atoms_of _ (rest_1_c_eq ▸ (show rest_1_c.before _ s = true from hrest))
  obtain ⟨g0, k0⟩ := and_e h2
  obtain ⟨p0, e0⟩ := is_v g0
  obtain rfl : w0 = (.int p0) := Option.some.inj e0
  obtain ⟨g1, k1⟩ := and_e k0
  obtain ⟨p1, e1⟩ := is_v g1
  obtain rfl : w1 = (.int p1) := Option.some.inj e1
  obtain ⟨g2, k2⟩ := and_e k1
  obtain ⟨p2, e2⟩ := is_v g2
  obtain rfl : w2 = (.int p2) := Option.some.inj e2
  obtain ⟨g3, k3⟩ := and_e k2
  obtain ⟨p3, e3⟩ := is_v g3
  obtain rfl : w3 = (.int p3) := Option.some.inj e3
  obtain ⟨g4, k4⟩ := and_e k3
  obtain ⟨p4, e4⟩ := is_v g4
  obtain rfl : w4 = (.int p4) := Option.some.inj e4
  obtain ⟨p5, e5⟩ := is_v k4
  obtain rfl : w5 = (.int p5) := Option.some.inj e5
  have n3 := not_v (Cond.before_iff.mp (hsets _ (List.mem_of_getElem? (i := 2) rfl)))
  obtain ⟨i7, e6'⟩ := is_v (Cond.before_iff.mp (hsets _ (List.mem_of_getElem? (i := 1) rfl)))
  have S8 : Sta s s.heap "java/lang/String" "COMPACT_STRINGS" "Z" (.int i7) := Sta.start e6' (Or.inl (hsets _ (List.mem_of_getElem? (i := 0) rfl)))
  obtain ⟨v9, e10, r11⟩ := isR_v (Cond.before_iff.mp (hsets _ (List.mem_of_getElem? (i := 8) rfl)))
  have S12 : Sta s s.heap "jdk/internal/util/Preconditions" "SIOOBE_FORMATTER" "Ljava/util/function/BiFunction;" v9 := Sta.start e10 (Or.inl (hsets _ (List.mem_of_getElem? (i := 7) rfl)))
  have c13 : ¬ (i7 = (0 : Int32)) := gotF (Cond.eq_ints e6' (Term.int_eval (0))) n3
  obtain ⟨x0, y0⟩ := and_e hn
  obtain ⟨x1, y1⟩ := and_e y0
  obtain ⟨x2, y2⟩ := and_e y1
  obtain ⟨x3, y3⟩ := and_e y2
  obtain ⟨x4, y4⟩ := and_e y3
  obtain ⟨x5, y5⟩ := and_e y4
  obtain ⟨x6, y6⟩ := and_e y5
  obtain ⟨x7, y7⟩ := and_e y6
  obtain ⟨x8, y8⟩ := and_e y7
  obtain ⟨x9, y9⟩ := and_e y8
  obtain ⟨x10, y10⟩ := and_e y9
  obtain ⟨x11, y11⟩ := and_e y10
  obtain ⟨x12, y12⟩ := and_e y11
  obtain ⟨x13, y13⟩ := and_e y12
  obtain ⟨x14, y14⟩ := and_e y13
  obtain ⟨x15, y15⟩ := and_e y14
  obtain ⟨x16, y16⟩ := and_e y15
  obtain ⟨x17, y17⟩ := and_e y16
  obtain ⟨x18, y18⟩ := and_e y17
  obtain ⟨x19, y19⟩ := and_e y18
  obtain ⟨x20, y20⟩ := and_e y19
  obtain ⟨x21, y21⟩ := and_e y20
  obtain ⟨x22, y22⟩ := and_e y21
  obtain ⟨x23, y23⟩ := and_e y22
  obtain ⟨x24, y24⟩ := and_e y23
  obtain ⟨x25, y25⟩ := and_e y24
  obtain ⟨x26, y26⟩ := and_e y25
  obtain ⟨x27, y27⟩ := and_e y26
  obtain ⟨x28, y28⟩ := and_e y27
  obtain ⟨x29, y29⟩ := and_e y28
  obtain ⟨x30, y30⟩ := and_e y29
  obtain ⟨x31, y31⟩ := and_e y30
  have hfit : Fit s := fun {y c} hc i hi => by
    obtain ⟨ha, rfl⟩ := Array.getElem?_eq_some_iff.mp hc
    have q := List.all_eq_true.mp ((Array.all_eq_true_iff_forall_mem.mp hF) _ (Array.getElem_mem ha)) i (List.mem_range.mpr hi)
    simpa [Array.getElem?_eq_getElem hi] using q
  have IV : (Jvm.Cond.initialized "com/example/lifecycle/lifecycle/internal/definition/BeanScope").before _ s = true := (hw _ (List.mem_of_getElem? (i := 65) rfl))
  obtain ⟨aV, SV, -, EV⟩ := static_exa x1 (Or.inr ⟨IV, (hw _ (List.mem_of_getElem? (i := 71) rfl))⟩)
  obtain ⟨aS, SS, -, ES⟩ := static_exa x3 (Or.inr ⟨IV, (hw _ (List.mem_of_getElem? (i := 79) rfl))⟩)
  obtain ⟨aP, SP, -, EP⟩ := static_exa x5 (Or.inr ⟨IV, (hw _ (List.mem_of_getElem? (i := 80) rfl))⟩)
  have evV := SV.fin (args := #[(.int p0), (.int p1), (.int p2), (.int p3), (.int p4), (.int p5)]) (o := none) (Vm.Alike.refl _)
  have evS := SS.fin (args := #[(.int p0), (.int p1), (.int p2), (.int p3), (.int p4), (.int p5)]) (o := none) (Vm.Alike.refl _)
  have evP := SP.fin (args := #[(.int p0), (.int p1), (.int p2), (.int p3), (.int p4), (.int p5)]) (o := none) (Vm.Alike.refl _)
  obtain ⟨kV, VV⟩ := arr_start hfit evV x0 x2 (vs := [.ref aS, .ref aP]) ⟨by decide, rfl⟩ (fun j hj => by
    match j, hj with
    | 0, _ => exact elem_ref x4 evS
    | 1, _ => exact elem_ref x6 evP)
  obtain ⟨nS, evNS, -⟩ := exact_ref x7
  obtain ⟨nP, evNP, -⟩ := exact_ref x11
  have FS : Fld s s.heap aS "com/example/lifecycle/lifecycle/internal/definition/BeanScope" "scopeName" "Ljava/lang/String;" (.ref nS) := Fld.start (fld_eval evS evNS)
  have FP : Fld s s.heap aP "com/example/lifecycle/lifecycle/internal/definition/BeanScope" "scopeName" "Ljava/lang/String;" (.ref nP) := Fld.start (fld_eval evP evNP)
  have GS : Str s s.heap nS ([115, 105, 110, 103, 108, 101, 116, 111, 110] : List Int32) := str_start hfit evNS x7 x8 x9 x10 (by decide) (by decide) (fun j hj => by
    match j, hj with
    | 0, _ => exact x15
    | 1, _ => exact x16
    | 2, _ => exact x17
    | 3, _ => exact x18
    | 4, _ => exact x19
    | 5, _ => exact x20
    | 6, _ => exact x21
    | 7, _ => exact x22
    | 8, _ => exact x23)
  have GP : Str s s.heap nP ([112, 114, 111, 116, 111, 116, 121, 112, 101] : List Int32) := str_start hfit evNP x11 x12 x13 x14 (by decide) (by decide) (fun j hj => by
    match j, hj with
    | 0, _ => exact x24
    | 1, _ => exact x25
    | 2, _ => exact x26
    | 3, _ => exact x27
    | 4, _ => exact x28
    | 5, _ => exact x29
    | 6, _ => exact x30
    | 7, _ => exact x31
    | 8, _ => exact y31)
  have SC : Sc s aV aS aP nS nP kV := ⟨SV, EV, VV, SS, ES, FS, GS, SP, EP, FP, GP⟩
  have R := rm_law (l := l) hw S8 c13 S12 r11 SC (Ext.refl s.heap) (p0 := p0) (p1 := p1) (p2 := p2) (p3 := p3) (p4 := p4) (p5 := p5) 
  obtain ⟨n, o, h1, h2, h3, _, L, rfl, ⟨rfl, N, -⟩, -, hq⟩ := R p e ha hc hk s m _ below hf ((Spec.applies_iff_loose hf).mp happ).1 ⟨rfl, State.Warmed39.refl s, rfl, CHv.start (hEL0 hw) (fun p hp => hcalls.1 p hp) (hsets _ (List.mem_of_getElem? (i := 2) rfl)) (hw _ (List.mem_of_getElem? (i := 4) rfl)) (hw _ (List.mem_of_getElem? (i := 3) rfl)), fun _ q => nomatch q⟩ trivial
  refine ⟨n, _, h1, h2, h3, hpost _ _ _ _ _ _ ⟨Cond.after_iff.mpr rfl, Cond.after_iff.mpr (eq_i res_at (Term.int_eval (1)) rfl), trivial⟩ ⟨hq.1, hq.2.1, hq.2.2.1, (hq.2.2.2.sift fun y hy => Or.inr (N y hy)).mono (by decide) (by decide)⟩⟩
theorem main_1_1 : Claimed_1_1 := comes_1 fun _ _ _ _ _ _ h hF => ⟨h.1, hF⟩
theorem main_1_2 : Claimed_1_2 := comes_1 fun _ _ _ _ _ _ h hF => ⟨h.2.1, hF⟩
end Jvm.Pilot.@@N@@
namespace Jvm.Pilot.@@N@@
open Jvm Jvm.ClassFile Sem Op Lib Jvm.Free Jvm.Stand Jvm.Pilot.@@N@@.Jvm.D
/-! MADE BY PROGRAM (witnessworld.py) out of the Statement's table words and the real class files: 22 classes; the members and pool entries that the words name. The judged class is class 1, her method 1. -/
namespace start1
open Jvm.ClassFile
def u (s : String) : CpInfo := .utf8 (stringToUtf16 s)
/-- a pool by its gaps: so many unusable entries, then the entry; so many at the end -/
def gap : Nat → List CpInfo → List CpInfo
  | 0, r => r
  | n + 1, r => .unusable :: gap n r
def poolList (es : List (Nat × CpInfo)) (last : Nat) : List CpInfo := es.foldr (fun e r => gap e.1 (e.2 :: r)) (gap last [])
def pool (es : List (Nat × CpInfo)) (last : Nat) : Array CpInfo := ⟨poolList es last⟩
def fileOf (pool : Array CpInfo) (this : Nat) (attrs : Array Attribute := #[]) (ms : Array MethodInfo := #[]) (fl : Nat := 33) (sup : Nat := 0) (ifs : Array Nat := #[]) (fds : Array FieldInfo := #[]) : ClassFile where
  minorVersion := 0
  majorVersion := 65
  constantPool := pool
  accessFlags := fl
  thisClass := this
  superClass := sup
  interfaces := ifs
  fields := fds
  methods := ms
  attributes := attrs
def plain (name : String) (sup : Option ClassId) : Class where
  name := name
  kind := .ordinary
  loader := none
  accessFlags := 33
  super := sup
  interfaces := #[]
  cf := none
  fields := #[]
  methods := #[]
  instanceTypes := #[]
  staticTypes := #[]
  resolved := #[]
  callSites := []
  init := .initialized
  statics := none
  mirror := none

def pool0 : Array CpInfo := pool [(5, u "<init>"), (0, u "()V"), (1, .class_ 10), (1, u "java/lang/Object"), (85, u "clone"), (0, u "()Ljava/lang/Object;")] 26

def k0c0 : Code := { maxStack := 0, maxLocals := 1, code := object_method_1_code, exceptionTable := #[], attributes := #[] }
def k0m0 : Method := { name := "<init>", desc := "()V", sig := { parameters := [], returnType := none }, accessFlags := 1, code := some k0c0 }
def k0m1 : Method := { name := "clone", desc := "()Ljava/lang/Object;", sig := { parameters := [], returnType := some (.object "java/lang/Object") }, accessFlags := 260, code := none }
/-- java/lang/Object -/
def k0 : Class := { plain "java/lang/Object" none with
  accessFlags := 33
  interfaces := #[]
  cf := some (fileOf pool0 8 #[] #[{ accessFlags := 1, nameIndex := 5, descriptorIndex := 6, attributes := #[] }, { accessFlags := 260, nameIndex := 96, descriptorIndex := 97, attributes := #[] }] 33 0 #[] #[])
  fields := #[]
  methods := #[k0m0, k0m1]
  instanceTypes := #[]
  staticTypes := #[]
  resolved := Array.replicate 124 none
  statics := none }

def pool1 : Array CpInfo := pool [(2, .class_ 4), (1, u "java/lang/Object"), (0, u "<init>"), (0, u "()V"), (0, .string 8), (0, u "singleton"), (0, .methodref 10 11), (0, .class_ 12), (0, .nameAndType 13 14), (0, u "com/example/lifecycle/lifecycle/internal/definition/BeanScopeNamedPinLaw"), (0, u "fillFrom"), (0, u "([CLjava/lang/String;)V"), (0, .string 16), (0, u "prototype"), (0, .integer 2147483647), (0, .methodref 10 19), (0, .nameAndType 20 21), (0, u "cut"), (0, u "([CI)Ljava/lang/String;"), (0, .methodref 23 24), (0, .class_ 25), (0, .nameAndType 26 27), (0, u "com/example/lifecycle/lifecycle/internal/definition/BeanScope"), (0, u "named"), (0, u "(Ljava/lang/String;)Lcom/example/lifecycle/lifecycle/internal/definition/BeanScope;"), (0, .methodref 29 30), (0, .class_ 31), (0, .nameAndType 32 33), (0, u "java/lang/String"), (0, u "equals"), (0, u "(Ljava/lang/Object;)Z"), (0, .fieldref 23 35), (0, .nameAndType 36 37), (0, u "SINGLETON"), (0, u "Lcom/example/lifecycle/lifecycle/internal/definition/BeanScope;"), (0, .fieldref 23 39), (0, .nameAndType 40 37), (0, u "PROTOTYPE"), (0, .methodref 23 42), (0, .nameAndType 43 44), (0, u "scopeName"), (0, u "()Ljava/lang/String;"), (0, .methodref 29 46), (0, .nameAndType 47 48), (0, u "charAt"), (0, u "(I)C"), (0, .methodref 29 50), (0, .nameAndType 5 51), (0, u "([C)V"), (2, u "law"), (0, u "(IIIIII)Z")] 5

def k1m0 : Method := { name := "<init>", desc := "()V", sig := { parameters := [], returnType := none }, accessFlags := 1, code := none }
def k1c1 : Code := { maxStack := 4, maxLocals := 12, code := code, exceptionTable := #[], attributes := #[] }
def k1m1 : Method := { name := "law", desc := "(IIIIII)Z", sig := { parameters := [.int, .int, .int, .int, .int, .int], returnType := some .boolean }, accessFlags := 9, code := some k1c1 }
def k1c2 : Code := { maxStack := 4, maxLocals := 2, code := method_3_code, exceptionTable := #[], attributes := #[] }
def k1m2 : Method := { name := "fillFrom", desc := "([CLjava/lang/String;)V", sig := { parameters := [(.array .char), (.object "java/lang/String")], returnType := none }, accessFlags := 10, code := some k1c2 }
def k1c3 : Code := { maxStack := 4, maxLocals := 3, code := method_4_code, exceptionTable := #[], attributes := #[] }
def k1m3 : Method := { name := "cut", desc := "([CI)Ljava/lang/String;", sig := { parameters := [(.array .char), .int], returnType := some (.object "java/lang/String") }, accessFlags := 10, code := some k1c3 }
/-- com/example/lifecycle/lifecycle/internal/definition/BeanScopeNamedPinLaw -/
def k1 : Class := { plain "com/example/lifecycle/lifecycle/internal/definition/BeanScopeNamedPinLaw" (some 0) with
  accessFlags := 49
  interfaces := #[]
  cf := some (fileOf pool1 10 #[] #[{ accessFlags := 1, nameIndex := 5, descriptorIndex := 6, attributes := #[] }, { accessFlags := 9, nameIndex := 54, descriptorIndex := 55, attributes := #[] }, { accessFlags := 10, nameIndex := 13, descriptorIndex := 14, attributes := #[] }, { accessFlags := 10, nameIndex := 20, descriptorIndex := 21, attributes := #[] }] 49 2 #[] #[])
  fields := #[]
  methods := #[k1m0, k1m1, k1m2, k1m3]
  instanceTypes := #[]
  staticTypes := #[]
  resolved := Array.replicate 61 none
  statics := none }

def pool2 : Array CpInfo := pool [(1, .class_ 2), (0, u "java/io/Serializable"), (0, .class_ 4), (0, u "java/lang/Object")] 2

/-- java/io/Serializable -/
def k2 : Class := { plain "java/io/Serializable" (some 0) with
  accessFlags := 1537
  interfaces := #[]
  cf := some (fileOf pool2 1 #[] #[] 1537 3 #[] #[])
  fields := #[]
  methods := #[]
  instanceTypes := #[]
  staticTypes := #[]
  resolved := Array.replicate 7 none
  statics := none }

def pool3 : Array CpInfo := pool [(1, .class_ 2), (0, u "java/lang/Comparable"), (0, .class_ 4), (0, u "java/lang/Object")] 7

/-- java/lang/Comparable -/
def k3 : Class := { plain "java/lang/Comparable" (some 0) with
  accessFlags := 1537
  interfaces := #[]
  cf := some (fileOf pool3 1 #[] #[] 1537 3 #[] #[])
  fields := #[]
  methods := #[]
  instanceTypes := #[]
  staticTypes := #[]
  resolved := Array.replicate 12 none
  statics := none }

def pool4 : Array CpInfo := pool [(2, .class_ 4), (1, u "java/lang/CharSequence"), (42, .class_ 48), (0, u "java/lang/CharSequence$1CodePointIterator"), (10, .class_ 60), (0, u "java/lang/CharSequence$1CharIterator"), (5, .class_ 67), (0, u "java/lang/Object")] 63

/-- java/lang/CharSequence -/
def k4 : Class := { plain "java/lang/CharSequence" (some 0) with
  accessFlags := 1537
  interfaces := #[]
  cf := some (fileOf pool4 2 #[.nestMembers #[47, 59]] #[] 1537 66 #[] #[])
  fields := #[]
  methods := #[]
  instanceTypes := #[]
  staticTypes := #[]
  resolved := Array.replicate 131 none
  statics := none }

def pool5 : Array CpInfo := pool [(1, .class_ 2), (0, u "java/lang/constant/Constable"), (0, .class_ 4), (0, u "java/lang/Object")] 6

/-- java/lang/constant/Constable -/
def k5 : Class := { plain "java/lang/constant/Constable" (some 0) with
  accessFlags := 1537
  interfaces := #[]
  cf := some (fileOf pool5 1 #[] #[] 1537 3 #[] #[])
  fields := #[]
  methods := #[]
  instanceTypes := #[]
  staticTypes := #[]
  resolved := Array.replicate 11 none
  statics := none }

def pool6 : Array CpInfo := pool [(1, .class_ 2), (0, u "java/lang/constant/ConstantDesc"), (0, .class_ 4), (0, u "java/lang/Object")] 32

/-- java/lang/constant/ConstantDesc -/
def k6 : Class := { plain "java/lang/constant/ConstantDesc" (some 0) with
  accessFlags := 1537
  interfaces := #[]
  cf := some (fileOf pool6 1 #[] #[] 1537 3 #[] #[])
  fields := #[]
  methods := #[]
  instanceTypes := #[]
  staticTypes := #[]
  resolved := Array.replicate 37 none
  statics := none }

def pool7 : Array CpInfo := pool [(1, .methodref 2 3), (0, .class_ 4), (0, .nameAndType 5 6), (0, u "java/lang/Object"), (0, u "<init>"), (0, u "()V"), (0, .string 8), (0, u ""), (0, .fieldref 10 11), (0, .class_ 12), (0, .nameAndType 13 14), (0, u "java/lang/String"), (0, u "value"), (0, u "[B"), (0, .fieldref 10 16), (0, .nameAndType 17 18), (0, u "coder"), (0, u "B"), (2, u "hash"), (0, u "I"), (2, u "hashIsZero"), (0, u "Z"), (0, .methodref 10 28), (0, .nameAndType 5 29), (0, u "([CIILjava/lang/Void;)V"), (8, .fieldref 10 39), (0, .nameAndType 40 26), (0, u "COMPACT_STRINGS"), (1, .class_ 44), (1, u "java/lang/StringUTF16"), (0, u "compress"), (1, .methodref 42 48), (0, .nameAndType 49 50), (0, u "coderFromArrayLen"), (0, u "([BI)B"), (56, .class_ 109), (1, u "java/lang/StringLatin1"), (32, u "()Z"), (34, .methodref 42 178), (0, .nameAndType 45 179), (0, u "([CII)[B"), (183, u "([BI)C"), (27, u "(II)V"), (35, u "(I)C"), (64, .methodref 10 493), (0, .nameAndType 494 142), (0, u "isLatin1"), (0, .methodref 107 496), (0, .nameAndType 497 363), (0, u "charAt"), (3, u "checkIndex"), (39, .methodref 107 542), (0, .nameAndType 543 544), (0, u "equals"), (0, u "([B[B)Z"), (28, u "(Ljava/lang/Object;)Z"), (1, .class_ 576), (0, u "java/lang/CharSequence"), (22, u "CASE_INSENSITIVE_ORDER"), (0, u "Ljava/util/Comparator;"), (409, u "([C)V"), (42, .fieldref 1054 1055), (0, .class_ 1056), (0, .nameAndType 1057 1058), (0, u "jdk/internal/util/Preconditions"), (0, u "SIOOBE_FORMATTER"), (0, u "Ljava/util/function/BiFunction;"), (0, .methodref 1054 1060), (0, .nameAndType 501 1061), (0, u "(IILjava/util/function/BiFunction;)I"), (39, u "serialPersistentFields"), (0, u "[Ljava/io/ObjectStreamField;"), (0, .class_ 1104), (0, u "java/lang/String$CaseInsensitiveComparator"), (1, .class_ 1107), (0, u "java/io/Serializable"), (0, .class_ 1109), (0, u "java/lang/Comparable"), (0, .class_ 1111), (0, u "java/lang/constant/Constable"), (0, .class_ 1113), (0, u "java/lang/constant/ConstantDesc"), (2, u "serialVersionUID"), (0, u "J"), (3, u "REPL"), (0, u "C"), (2, u "LATIN1"), (1, u "UTF16")] 323

def k7m0 : Method := { name := "<init>", desc := "()V", sig := { parameters := [], returnType := none }, accessFlags := 1, code := none }
def k7c1 : Code := { maxStack := 5, maxLocals := 2, code := jdk_42_method_3_code, exceptionTable := #[], attributes := #[] }
def k7m1 : Method := { name := "<init>", desc := "([C)V", sig := { parameters := [(.array .char)], returnType := none }, accessFlags := 1, code := some k7c1 }
def k7c2 : Code := { maxStack := 2, maxLocals := 2, code := jdk_42_method_56_code, exceptionTable := #[], attributes := #[] }
def k7m2 : Method := { name := "charAt", desc := "(I)C", sig := { parameters := [.int], returnType := some .char }, accessFlags := 1, code := some k7c2 }
def k7c3 : Code := { maxStack := 2, maxLocals := 3, code := jdk_42_method_66_code, exceptionTable := #[], attributes := #[] }
def k7m3 : Method := { name := "equals", desc := "(Ljava/lang/Object;)Z", sig := { parameters := [(.object "java/lang/Object")], returnType := some .boolean }, accessFlags := 1, code := some k7c3 }
def k7c4 : Code := { maxStack := 4, maxLocals := 6, code := jdk_42_method_149_code, exceptionTable := #[], attributes := #[] }
def k7m4 : Method := { name := "<init>", desc := "([CIILjava/lang/Void;)V", sig := { parameters := [(.array .char), .int, .int, (.object "java/lang/Void")], returnType := none }, accessFlags := 2, code := some k7c4 }
def k7c5 : Code := { maxStack := 1, maxLocals := 1, code := jdk_42_method_154_code, exceptionTable := #[], attributes := #[] }
def k7m5 : Method := { name := "isLatin1", desc := "()Z", sig := { parameters := [], returnType := some .boolean }, accessFlags := 0, code := some k7c5 }
def k7c6 : Code := { maxStack := 3, maxLocals := 2, code := jdk_42_method_155_code, exceptionTable := #[], attributes := #[] }
def k7m6 : Method := { name := "checkIndex", desc := "(II)V", sig := { parameters := [.int, .int], returnType := none }, accessFlags := 8, code := some k7c6 }
/-- java/lang/String -/
def k7 : Class := { plain "java/lang/String" (some 0) with
  accessFlags := 49
  interfaces := #[2, 3, 4, 5, 6]
  cf := some (fileOf pool7 10 #[.nestMembers #[1103]] #[{ accessFlags := 1, nameIndex := 5, descriptorIndex := 6, attributes := #[] }, { accessFlags := 1, nameIndex := 5, descriptorIndex := 1010, attributes := #[] }, { accessFlags := 1, nameIndex := 497, descriptorIndex := 427, attributes := #[] }, { accessFlags := 1, nameIndex := 543, descriptorIndex := 573, attributes := #[] }, { accessFlags := 2, nameIndex := 5, descriptorIndex := 29, attributes := #[] }, { accessFlags := 0, nameIndex := 494, descriptorIndex := 142, attributes := #[] }, { accessFlags := 8, nameIndex := 501, descriptorIndex := 391, attributes := #[] }] 49 2 #[1106, 1108, 575, 1110, 1112] #[{ accessFlags := 18, nameIndex := 13, descriptorIndex := 14, attributes := #[] }, { accessFlags := 18, nameIndex := 17, descriptorIndex := 18, attributes := #[] }, { accessFlags := 2, nameIndex := 21, descriptorIndex := 22, attributes := #[] }, { accessFlags := 2, nameIndex := 25, descriptorIndex := 26, attributes := #[] }, { accessFlags := 26, nameIndex := 1116, descriptorIndex := 1117, attributes := #[] }, { accessFlags := 24, nameIndex := 40, descriptorIndex := 26, attributes := #[] }, { accessFlags := 26, nameIndex := 1101, descriptorIndex := 1102, attributes := #[] }, { accessFlags := 26, nameIndex := 1121, descriptorIndex := 1122, attributes := #[] }, { accessFlags := 25, nameIndex := 599, descriptorIndex := 600, attributes := #[] }, { accessFlags := 24, nameIndex := 1125, descriptorIndex := 18, attributes := #[] }, { accessFlags := 24, nameIndex := 1127, descriptorIndex := 18, attributes := #[] }])
  fields := #[{ name := "value", type := (.array .byte), accessFlags := 18, slot := 0, constantValue := 0 }, { name := "coder", type := .byte, accessFlags := 18, slot := 1, constantValue := 0 }, { name := "hash", type := .int, accessFlags := 2, slot := 2, constantValue := 0 }, { name := "hashIsZero", type := .boolean, accessFlags := 2, slot := 3, constantValue := 0 }, { name := "serialVersionUID", type := .long, accessFlags := 26, slot := 0, constantValue := 0 }, { name := "COMPACT_STRINGS", type := .boolean, accessFlags := 24, slot := 1, constantValue := 0 }, { name := "serialPersistentFields", type := (.array (.object "java/io/ObjectStreamField")), accessFlags := 26, slot := 2, constantValue := 0 }, { name := "REPL", type := .char, accessFlags := 26, slot := 3, constantValue := 0 }, { name := "CASE_INSENSITIVE_ORDER", type := (.object "java/util/Comparator"), accessFlags := 25, slot := 4, constantValue := 0 }, { name := "LATIN1", type := .byte, accessFlags := 24, slot := 5, constantValue := 0 }, { name := "UTF16", type := .byte, accessFlags := 24, slot := 6, constantValue := 0 }]
  methods := #[k7m0, k7m1, k7m2, k7m3, k7m4, k7m5, k7m6]
  instanceTypes := #[(.array .byte), .byte, .int, .boolean]
  staticTypes := #[.long, .boolean, (.array (.object "java/io/ObjectStreamField")), .char, (.object "java/util/Comparator"), .byte, .byte]
  resolved := Array.replicate 1451 none
  statics := some 0 }

def pool8 : Array CpInfo := pool [(1, .class_ 2), (0, u "java/lang/String"), (1, .class_ 6), (1, u "java/lang/Object"), (0, u "<init>"), (0, u "()V"), (0, .methodref 1 10), (0, .nameAndType 11 12), (0, u "checkIndex"), (0, u "(II)V"), (1, .class_ 16), (1, u "java/lang/StringLatin1"), (36, u "([BI)C"), (67, u "$assertionsDisabled"), (0, u "Z"), (98, .class_ 223), (1, u "java/lang/StringLatin1$LinesSpliterator"), (28, u "charAt"), (28, u "equals"), (0, u "([B[B)Z"), (107, .class_ 391), (0, u "java/lang/StringLatin1$CharsSpliterator")] 3

def k8m0 : Method := { name := "<init>", desc := "()V", sig := { parameters := [], returnType := none }, accessFlags := 0, code := none }
def k8c1 : Code := { maxStack := 2, maxLocals := 2, code := jdk_43_method_2_code, exceptionTable := #[], attributes := #[] }
def k8m1 : Method := { name := "charAt", desc := "([BI)C", sig := { parameters := [(.array .byte), .int], returnType := some .char }, accessFlags := 9, code := some k8c1 }
def k8c2 : Code := { maxStack := 3, maxLocals := 3, code := jdk_43_method_13_code, exceptionTable := #[], attributes := #[] }
def k8m2 : Method := { name := "equals", desc := "([B[B)Z", sig := { parameters := [(.array .byte), (.array .byte)], returnType := some .boolean }, accessFlags := 9, code := some k8c2 }
/-- java/lang/StringLatin1 -/
def k8 : Class := { plain "java/lang/StringLatin1" (some 0) with
  accessFlags := 48
  interfaces := #[]
  cf := some (fileOf pool8 14 #[.nestMembers #[390, 221]] #[{ accessFlags := 0, nameIndex := 7, descriptorIndex := 8, attributes := #[] }, { accessFlags := 9, nameIndex := 252, descriptorIndex := 53, attributes := #[] }, { accessFlags := 9, nameIndex := 281, descriptorIndex := 282, attributes := #[] }] 48 4 #[] #[{ accessFlags := 4120, nameIndex := 121, descriptorIndex := 122, attributes := #[] }])
  fields := #[{ name := "$assertionsDisabled", type := .boolean, accessFlags := 4120, slot := 0, constantValue := 0 }]
  methods := #[k8m0, k8m1, k8m2]
  instanceTypes := #[]
  staticTypes := #[.boolean]
  resolved := Array.replicate 395 none
  statics := none }

def pool9 : Array CpInfo := pool [(2, .class_ 4), (1, u "java/lang/Object"), (0, u "<init>"), (0, u "()V"), (17, .class_ 26), (1, u "jdk/internal/util/Preconditions"), (6, u "checkIndex"), (21, .class_ 56), (0, u "jdk/internal/util/Preconditions$4"), (57, .class_ 115), (0, u "jdk/internal/util/Preconditions$1"), (7, u "SIOOBE_FORMATTER"), (0, u "Ljava/util/function/BiFunction;"), (0, .class_ 126), (0, u "jdk/internal/util/Preconditions$2"), (3, u "AIOOBE_FORMATTER"), (0, .class_ 132), (0, u "jdk/internal/util/Preconditions$3"), (3, u "IOOBE_FORMATTER"), (41, u "(IILjava/util/function/BiFunction;)I")] 15

def k9m0 : Method := { name := "<init>", desc := "()V", sig := { parameters := [], returnType := none }, accessFlags := 1, code := none }
def k9c1 : Code := { maxStack := 3, maxLocals := 3, code := jdk_41_method_11_code, exceptionTable := #[], attributes := #[] }
def k9m1 : Method := { name := "checkIndex", desc := "(IILjava/util/function/BiFunction;)I", sig := { parameters := [.int, .int, (.object "java/util/function/BiFunction")], returnType := some .int }, accessFlags := 9, code := some k9c1 }
/-- jdk/internal/util/Preconditions -/
def k9 : Class := { plain "jdk/internal/util/Preconditions" (some 0) with
  accessFlags := 33
  interfaces := #[]
  cf := some (fileOf pool9 24 #[.nestMembers #[55, 131, 125, 114]] #[{ accessFlags := 1, nameIndex := 5, descriptorIndex := 6, attributes := #[] }, { accessFlags := 9, nameIndex := 33, descriptorIndex := 178, attributes := #[] }] 33 2 #[] #[{ accessFlags := 25, nameIndex := 123, descriptorIndex := 124, attributes := #[] }, { accessFlags := 25, nameIndex := 130, descriptorIndex := 124, attributes := #[] }, { accessFlags := 25, nameIndex := 136, descriptorIndex := 124, attributes := #[] }])
  fields := #[{ name := "SIOOBE_FORMATTER", type := (.object "java/util/function/BiFunction"), accessFlags := 25, slot := 0, constantValue := 0 }, { name := "AIOOBE_FORMATTER", type := (.object "java/util/function/BiFunction"), accessFlags := 25, slot := 1, constantValue := 0 }, { name := "IOOBE_FORMATTER", type := (.object "java/util/function/BiFunction"), accessFlags := 25, slot := 2, constantValue := 0 }]
  methods := #[k9m0, k9m1]
  instanceTypes := #[]
  staticTypes := #[(.object "java/util/function/BiFunction"), (.object "java/util/function/BiFunction"), (.object "java/util/function/BiFunction")]
  resolved := Array.replicate 194 none
  statics := some 1 }

def pool10 : Array CpInfo := pool [(6, .class_ 8), (1, u "java/lang/Object"), (0, u "<init>"), (0, u "()V"), (1, .class_ 14), (1, u "java/lang/StringUTF16"), (31, u "$assertionsDisabled"), (0, u "Z"), (13, u "HI_BYTE_SHIFT"), (0, u "I"), (2, u "LO_BYTE_SHIFT"), (49, .methodref 12 116), (0, .nameAndType 117 118), (0, u "compress"), (0, u "([CI[BII)I"), (3, u "([CII)[B"), (138, u "coderFromArrayLen"), (0, u "([BI)B"), (106, .class_ 371), (1, u "java/lang/StringUTF16$LinesSpliterator"), (58, u "MAX_LENGTH"), (196, .class_ 628), (0, u "java/lang/StringUTF16$CodePointsSpliterator"), (0, .class_ 630), (0, u "java/lang/StringUTF16$CharsSpliterator")] 4

def k10m0 : Method := { name := "<init>", desc := "()V", sig := { parameters := [], returnType := none }, accessFlags := 0, code := none }
def k10c1 : Code := { maxStack := 2, maxLocals := 2, code := jdk_52_method_15_code, exceptionTable := #[], attributes := #[] }
def k10m1 : Method := { name := "coderFromArrayLen", desc := "([BI)B", sig := { parameters := [(.array .byte), .int], returnType := some .byte }, accessFlags := 8, code := some k10c1 }
def k10c2 : Code := { maxStack := 5, maxLocals := 6, code := jdk_52_method_16_code, exceptionTable := #[], attributes := #[] }
def k10m2 : Method := { name := "compress", desc := "([CII)[B", sig := { parameters := [(.array .char), .int, .int], returnType := some (.array .byte) }, accessFlags := 9, code := some k10c2 }
def k10c3 : Code := { maxStack := 3, maxLocals := 7, code := jdk_52_method_21_code, exceptionTable := #[], attributes := #[] }
def k10m3 : Method := { name := "compress", desc := "([CI[BII)I", sig := { parameters := [(.array .char), .int, (.array .byte), .int, .int], returnType := some .int }, accessFlags := 9, code := some k10c3 }
/-- java/lang/StringUTF16 -/
def k10 : Class := { plain "java/lang/StringUTF16" (some 0) with
  accessFlags := 48
  interfaces := #[]
  cf := some (fileOf pool10 12 #[.nestMembers #[627, 629, 369]] #[{ accessFlags := 0, nameIndex := 9, descriptorIndex := 10, attributes := #[] }, { accessFlags := 8, nameIndex := 261, descriptorIndex := 262, attributes := #[] }, { accessFlags := 9, nameIndex := 117, descriptorIndex := 122, attributes := #[] }, { accessFlags := 9, nameIndex := 117, descriptorIndex := 118, attributes := #[] }] 48 6 #[] #[{ accessFlags := 26, nameIndex := 61, descriptorIndex := 62, attributes := #[] }, { accessFlags := 26, nameIndex := 65, descriptorIndex := 62, attributes := #[] }, { accessFlags := 24, nameIndex := 430, descriptorIndex := 62, attributes := #[] }, { accessFlags := 4120, nameIndex := 46, descriptorIndex := 47, attributes := #[] }])
  fields := #[{ name := "HI_BYTE_SHIFT", type := .int, accessFlags := 26, slot := 0, constantValue := 0 }, { name := "LO_BYTE_SHIFT", type := .int, accessFlags := 26, slot := 1, constantValue := 0 }, { name := "MAX_LENGTH", type := .int, accessFlags := 24, slot := 2, constantValue := 0 }, { name := "$assertionsDisabled", type := .boolean, accessFlags := 4120, slot := 3, constantValue := 0 }]
  methods := #[k10m0, k10m1, k10m2, k10m3]
  instanceTypes := #[]
  staticTypes := #[.int, .int, .int, .boolean]
  resolved := Array.replicate 635 none
  statics := none }

def pool11 : Array CpInfo := pool [(2, .class_ 4), (1, u "java/lang/Enum"), (0, u "name"), (0, u "Ljava/lang/String;"), (2, u "ordinal"), (0, u "I"), (1, .class_ 14), (1, u "java/lang/Object"), (4, u "hash"), (86, .class_ 108), (1, u "java/lang/Enum$EnumDesc"), (2, .class_ 112), (0, u "java/lang/constant/Constable"), (0, .class_ 114), (0, u "java/lang/Comparable"), (0, .class_ 116), (0, u "java/io/Serializable")] 87

/-- java/lang/Enum -/
def k11 : Class := { plain "java/lang/Enum" (some 0) with
  accessFlags := 1057
  interfaces := #[5, 3, 2]
  cf := some (fileOf pool11 2 #[.nestMembers #[106]] #[] 1057 12 #[111, 113, 115] #[{ accessFlags := 18, nameIndex := 5, descriptorIndex := 6, attributes := #[] }, { accessFlags := 18, nameIndex := 9, descriptorIndex := 10, attributes := #[] }, { accessFlags := 2, nameIndex := 19, descriptorIndex := 10, attributes := #[] }])
  fields := #[{ name := "name", type := (.object "java/lang/String"), accessFlags := 18, slot := 0, constantValue := 0 }, { name := "ordinal", type := .int, accessFlags := 18, slot := 1, constantValue := 0 }, { name := "hash", type := .int, accessFlags := 2, slot := 2, constantValue := 0 }]
  methods := #[]
  instanceTypes := #[(.object "java/lang/String"), .int, .int]
  staticTypes := #[]
  resolved := Array.replicate 204 none
  statics := none }

def pool12 : Array CpInfo := pool [(1, .class_ 2), (0, u "com/example/lifecycle/lifecycle/internal/definition/BeanScope"), (2, u "SINGLETON"), (0, u "Lcom/example/lifecycle/lifecycle/internal/definition/BeanScope;"), (2, u "PROTOTYPE"), (0, .fieldref 1 11), (0, .nameAndType 12 13), (0, u "$VALUES"), (0, u "[Lcom/example/lifecycle/lifecycle/internal/definition/BeanScope;"), (0, .methodref 15 16), (0, .class_ 13), (0, .nameAndType 17 18), (0, u "clone"), (0, u "()Ljava/lang/Object;"), (1, .class_ 22), (1, u "java/lang/Enum"), (6, .fieldref 1 30), (0, .nameAndType 31 32), (0, u "scopeName"), (0, u "Ljava/lang/String;"), (0, .methodref 1 34), (0, .nameAndType 35 36), (0, u "values"), (0, u "()[Lcom/example/lifecycle/lifecycle/internal/definition/BeanScope;"), (0, .methodref 38 39), (0, .class_ 40), (0, .nameAndType 41 42), (0, u "java/lang/String"), (0, u "equals"), (0, u "(Ljava/lang/Object;)Z"), (14, u "(Ljava/lang/String;)Lcom/example/lifecycle/lifecycle/internal/definition/BeanScope;"), (3, u "named"), (1, u "()Ljava/lang/String;")] 5

def k12c0 : Code := { maxStack := 1, maxLocals := 0, code := prog_39_method_1_code, exceptionTable := #[], attributes := #[] }
def k12m0 : Method := { name := "values", desc := "()[Lcom/example/lifecycle/lifecycle/internal/definition/BeanScope;", sig := { parameters := [], returnType := some (.array (.object "com/example/lifecycle/lifecycle/internal/definition/BeanScope")) }, accessFlags := 9, code := some k12c0 }
def k12c1 : Code := { maxStack := 2, maxLocals := 5, code := prog_39_method_4_code, exceptionTable := #[], attributes := #[] }
def k12m1 : Method := { name := "named", desc := "(Ljava/lang/String;)Lcom/example/lifecycle/lifecycle/internal/definition/BeanScope;", sig := { parameters := [(.object "java/lang/String")], returnType := some (.object "com/example/lifecycle/lifecycle/internal/definition/BeanScope") }, accessFlags := 9, code := some k12c1 }
def k12c2 : Code := { maxStack := 1, maxLocals := 1, code := prog_39_method_5_code, exceptionTable := #[], attributes := #[] }
def k12m2 : Method := { name := "scopeName", desc := "()Ljava/lang/String;", sig := { parameters := [], returnType := some (.object "java/lang/String") }, accessFlags := 1, code := some k12c2 }
/-- com/example/lifecycle/lifecycle/internal/definition/BeanScope -/
def k12 : Class := { plain "com/example/lifecycle/lifecycle/internal/definition/BeanScope" (some 11) with
  accessFlags := 16433
  interfaces := #[]
  cf := some (fileOf pool12 1 #[] #[{ accessFlags := 9, nameIndex := 35, descriptorIndex := 36, attributes := #[] }, { accessFlags := 9, nameIndex := 61, descriptorIndex := 57, attributes := #[] }, { accessFlags := 1, nameIndex := 31, descriptorIndex := 63, attributes := #[] }] 16433 20 #[] #[{ accessFlags := 16409, nameIndex := 5, descriptorIndex := 6, attributes := #[] }, { accessFlags := 16409, nameIndex := 9, descriptorIndex := 6, attributes := #[] }, { accessFlags := 18, nameIndex := 31, descriptorIndex := 32, attributes := #[] }, { accessFlags := 4122, nameIndex := 12, descriptorIndex := 13, attributes := #[] }])
  fields := #[{ name := "SINGLETON", type := (.object "com/example/lifecycle/lifecycle/internal/definition/BeanScope"), accessFlags := 16409, slot := 0, constantValue := 0 }, { name := "PROTOTYPE", type := (.object "com/example/lifecycle/lifecycle/internal/definition/BeanScope"), accessFlags := 16409, slot := 1, constantValue := 0 }, { name := "scopeName", type := (.object "java/lang/String"), accessFlags := 18, slot := 3, constantValue := 0 }, { name := "$VALUES", type := (.array (.object "com/example/lifecycle/lifecycle/internal/definition/BeanScope")), accessFlags := 4122, slot := 2, constantValue := 0 }]
  methods := #[k12m0, k12m1, k12m2]
  instanceTypes := #[(.object "java/lang/String"), .int, .int, (.object "java/lang/String")]
  staticTypes := #[(.object "com/example/lifecycle/lifecycle/internal/definition/BeanScope"), (.object "com/example/lifecycle/lifecycle/internal/definition/BeanScope"), (.array (.object "com/example/lifecycle/lifecycle/internal/definition/BeanScope"))]
  resolved := Array.replicate 69 none
  statics := some 2 }

def pool13 : Array CpInfo := pool [(1, .class_ 2), (0, u "java/lang/Cloneable"), (0, .class_ 4), (0, u "java/lang/Object")] 2

/-- java/lang/Cloneable -/
def k13 : Class := { plain "java/lang/Cloneable" (some 0) with
  accessFlags := 1537
  interfaces := #[]
  cf := some (fileOf pool13 1 #[] #[] 1537 3 #[] #[])
  fields := #[]
  methods := #[]
  instanceTypes := #[]
  staticTypes := #[]
  resolved := Array.replicate 7 none
  statics := none }

def pool14 : Array CpInfo := pool [(9, u "<init>"), (6, .class_ 18), (1, u "java/lang/Object"), (0, u "()V"), (1, .class_ 23), (1, u "jdk/internal/util/ArraysSupport"), (0, u "LOG2_ARRAY_LONG_INDEX_SCALE"), (0, u "I"), (2, u "U"), (0, u "Ljdk/internal/misc/Unsafe;"), (8, u "BIG_ENDIAN"), (0, u "Z"), (8, u "LOG2_BYTE_BIT_SIZE"), (4, u "LOG2_ARRAY_INT_INDEX_SCALE"), (54, u "JLA"), (0, u "Ljdk/internal/access/JavaLangAccess;"), (11, u "LOG2_ARRAY_BOOLEAN_INDEX_SCALE"), (9, u "LOG2_ARRAY_BYTE_INDEX_SCALE"), (5, u "LOG2_ARRAY_CHAR_INDEX_SCALE"), (5, u "LOG2_ARRAY_SHORT_INDEX_SCALE"), (18, u "LOG2_ARRAY_FLOAT_INDEX_SCALE"), (24, u "LOG2_ARRAY_DOUBLE_INDEX_SCALE"), (89, u "T_BOOLEAN"), (2, u "T_CHAR"), (1, u "T_FLOAT"), (1, u "T_DOUBLE"), (1, u "T_BYTE"), (1, u "T_SHORT"), (1, u "T_INT"), (1, u "T_LONG"), (1, u "SOFT_MAX_ARRAY_LENGTH")] 83

def k14m0 : Method := { name := "<init>", desc := "()V", sig := { parameters := [], returnType := none }, accessFlags := 2, code := none }
/-- jdk/internal/util/ArraysSupport -/
def k14 : Class := { plain "jdk/internal/util/ArraysSupport" (some 0) with
  accessFlags := 33
  interfaces := #[]
  cf := some (fileOf pool14 21 #[] #[{ accessFlags := 2, nameIndex := 9, descriptorIndex := 19, attributes := #[] }] 33 16 #[] #[{ accessFlags := 24, nameIndex := 28, descriptorIndex := 29, attributes := #[] }, { accessFlags := 26, nameIndex := 38, descriptorIndex := 39, attributes := #[] }, { accessFlags := 25, nameIndex := 121, descriptorIndex := 25, attributes := #[] }, { accessFlags := 25, nameIndex := 131, descriptorIndex := 25, attributes := #[] }, { accessFlags := 25, nameIndex := 137, descriptorIndex := 25, attributes := #[] }, { accessFlags := 25, nameIndex := 143, descriptorIndex := 25, attributes := #[] }, { accessFlags := 25, nameIndex := 53, descriptorIndex := 25, attributes := #[] }, { accessFlags := 25, nameIndex := 24, descriptorIndex := 25, attributes := #[] }, { accessFlags := 25, nameIndex := 162, descriptorIndex := 25, attributes := #[] }, { accessFlags := 25, nameIndex := 187, descriptorIndex := 25, attributes := #[] }, { accessFlags := 26, nameIndex := 48, descriptorIndex := 25, attributes := #[] }, { accessFlags := 25, nameIndex := 277, descriptorIndex := 25, attributes := #[] }, { accessFlags := 25, nameIndex := 280, descriptorIndex := 25, attributes := #[] }, { accessFlags := 25, nameIndex := 282, descriptorIndex := 25, attributes := #[] }, { accessFlags := 25, nameIndex := 284, descriptorIndex := 25, attributes := #[] }, { accessFlags := 25, nameIndex := 286, descriptorIndex := 25, attributes := #[] }, { accessFlags := 25, nameIndex := 288, descriptorIndex := 25, attributes := #[] }, { accessFlags := 25, nameIndex := 290, descriptorIndex := 25, attributes := #[] }, { accessFlags := 25, nameIndex := 292, descriptorIndex := 25, attributes := #[] }, { accessFlags := 26, nameIndex := 108, descriptorIndex := 109, attributes := #[] }, { accessFlags := 25, nameIndex := 294, descriptorIndex := 25, attributes := #[] }])
  fields := #[{ name := "U", type := (.object "jdk/internal/misc/Unsafe"), accessFlags := 24, slot := 0, constantValue := 0 }, { name := "BIG_ENDIAN", type := .boolean, accessFlags := 26, slot := 1, constantValue := 0 }, { name := "LOG2_ARRAY_BOOLEAN_INDEX_SCALE", type := .int, accessFlags := 25, slot := 2, constantValue := 0 }, { name := "LOG2_ARRAY_BYTE_INDEX_SCALE", type := .int, accessFlags := 25, slot := 3, constantValue := 0 }, { name := "LOG2_ARRAY_CHAR_INDEX_SCALE", type := .int, accessFlags := 25, slot := 4, constantValue := 0 }, { name := "LOG2_ARRAY_SHORT_INDEX_SCALE", type := .int, accessFlags := 25, slot := 5, constantValue := 0 }, { name := "LOG2_ARRAY_INT_INDEX_SCALE", type := .int, accessFlags := 25, slot := 6, constantValue := 0 }, { name := "LOG2_ARRAY_LONG_INDEX_SCALE", type := .int, accessFlags := 25, slot := 7, constantValue := 0 }, { name := "LOG2_ARRAY_FLOAT_INDEX_SCALE", type := .int, accessFlags := 25, slot := 8, constantValue := 0 }, { name := "LOG2_ARRAY_DOUBLE_INDEX_SCALE", type := .int, accessFlags := 25, slot := 9, constantValue := 0 }, { name := "LOG2_BYTE_BIT_SIZE", type := .int, accessFlags := 26, slot := 10, constantValue := 0 }, { name := "T_BOOLEAN", type := .int, accessFlags := 25, slot := 11, constantValue := 0 }, { name := "T_CHAR", type := .int, accessFlags := 25, slot := 12, constantValue := 0 }, { name := "T_FLOAT", type := .int, accessFlags := 25, slot := 13, constantValue := 0 }, { name := "T_DOUBLE", type := .int, accessFlags := 25, slot := 14, constantValue := 0 }, { name := "T_BYTE", type := .int, accessFlags := 25, slot := 15, constantValue := 0 }, { name := "T_SHORT", type := .int, accessFlags := 25, slot := 16, constantValue := 0 }, { name := "T_INT", type := .int, accessFlags := 25, slot := 17, constantValue := 0 }, { name := "T_LONG", type := .int, accessFlags := 25, slot := 18, constantValue := 0 }, { name := "JLA", type := (.object "jdk/internal/access/JavaLangAccess"), accessFlags := 26, slot := 19, constantValue := 0 }, { name := "SOFT_MAX_ARRAY_LENGTH", type := .int, accessFlags := 25, slot := 20, constantValue := 0 }]
  methods := #[k14m0]
  instanceTypes := #[]
  staticTypes := #[(.object "jdk/internal/misc/Unsafe"), .boolean, .int, .int, .int, .int, .int, .int, .int, .int, .int, .int, .int, .int, .int, .int, .int, .int, .int, (.object "jdk/internal/access/JavaLangAccess"), .int]
  resolved := Array.replicate 378 none
  statics := none }

/-- the primitive byte -/
def k15 : Class := { plain "byte" none with kind := .primitive 'B', accessFlags := 0x411 }
/-- [B -/
def k16 : Class := { plain "[B" (some 0) with kind := .array 15 .byte, interfaces := #[13, 2], accessFlags := 1041 }

/-- the primitive char -/
def k17 : Class := { plain "char" none with kind := .primitive 'C', accessFlags := 0x411 }
/-- [C -/
def k18 : Class := { plain "[C" (some 0) with kind := .array 17 .char, interfaces := #[13, 2], accessFlags := 1041 }

/-- the primitive int -/
def k19 : Class := { plain "int" none with kind := .primitive 'I', accessFlags := 0x411 }
/-- [I -/
def k20 : Class := { plain "[I" (some 0) with kind := .array 19 .int, interfaces := #[13, 2], accessFlags := 1041 }

/-- [Lcom/example/lifecycle/lifecycle/internal/definition/BeanScope; -/
def k21 : Class := { plain "[Lcom/example/lifecycle/lifecycle/internal/definition/BeanScope;" (some 0) with kind := .array 12 (.object "com/example/lifecycle/lifecycle/internal/definition/BeanScope"), interfaces := #[13, 2], accessFlags := 1041 }

def heap : Heap := #[{ cls := 7, slots := #[.long 0, .int 1, .null, .int 0, .null, .int 0, .int 0], vm := .statics 7 },
  { cls := 9, slots := #[.null, .null, .null], vm := .statics 9 },
  { cls := 12, slots := #[.ref 4, .ref 5, .ref 3], vm := .statics 12 },
  { cls := 21, slots := #[.ref 4, .ref 5], vm := .none },
  { cls := 12, slots := #[.null, .int 0, .int 0, .ref 6], vm := .none },
  { cls := 12, slots := #[.null, .int 1, .int 0, .ref 7], vm := .none },
  { cls := 7, slots := #[.ref 8, .int 0, .int 0, .int 0], vm := .none },
  { cls := 7, slots := #[.ref 9, .int 0, .int 0, .int 0], vm := .none },
  { cls := 16, slots := #[.int 115, .int 105, .int 110, .int 103, .int 108, .int 101, .int 116, .int 111, .int 110], vm := .none },
  { cls := 16, slots := #[.int 112, .int 114, .int 111, .int 116, .int 111, .int 116, .int 121, .int 112, .int 101], vm := .none }]
def classes : Array Class := #[k0, k1, k2, k3, k4, k5, k6, k7, k8, k9, k10, k11, k12, k13, k14, k15, k16, k17, k18, k19, k20, k21]
def interned : List (Array UInt16 × Addr) := []
def slotsUsed : Nat := 49
def theMethod : MethodId := ⟨1, 1⟩
def args0 : Array Value := #[.int 5, .int 6, .int 7, .int 8, .int 9, .int 10]
def aboutOver (below : List Frame) : State where
  vm := { classes := classes, interned := interned.toArray }
  heap := heap
  slotsUsed := slotsUsed
  threads := #[{ frames := .invoking theMethod args0 :: below }]
def below0 : List Frame := [.native { method := ⟨0, 0⟩, args := #[] }]
def about1 : State := aboutOver below0
def p0 : Program := .bare "" "" ""
def e0 : Env := launch0.env 0 0 0
theorem w_frames : about1.frames = Frame.invoking theMethod args0 :: below0 := rfl
set_option maxRecDepth 65536 in
theorem w_args : argsFit about1.vm theMethod args0 = true := by decide +kernel
set_option maxRecDepth 65536 in
theorem w_heap : heapFits about1 = true := by decide +kernel
set_option maxRecDepth 65536 in
theorem w_runnable : about1.curStatus? = some .runnable := by decide +kernel
set_option maxRecDepth 65536 in
theorem w_alone : about1.alone = true := by decide +kernel
set_option maxRecDepth 65536 in
theorem w_named : about1.methodNamed? x = some theMethod := by decide +kernel
set_option maxRecDepth 65536 in
theorem w_hears : about1.hears theMethod below0 = true := by decide +kernel
set_option maxRecDepth 65536 in
theorem w_ripe : about1.ripe theMethod args0 below0 = true := by decide +kernel
theorem w_running : about1.status = .running := rfl
set_option maxRecDepth 65536 in
theorem w_room : about1.hasRoom e0.platform room_1 = true :=
  launch0.hasRoom_least _ room_1 (by decide +kernel) (by decide +kernel) (by decide +kernel) (by decide +kernel) (by decide +kernel) (by decide +kernel)
theorem allAtoms_all (ts : List Jvm.Cond) (a : Array Jvm.Value) (st : Jvm.State) : (allAtoms ts).before a st = ts.all (fun c => c.before a st) := by
  induction ts with
  | nil => rfl
  | cons c t ih =>
    show (Jvm.Cond.and c (allAtoms t)).before a st = _
    rw [Jvm.Cond.before_and, ih, List.all_cons]
def words1 : List Jvm.Cond := Jvm.Cond.code x code maxLocals ret :: tables_1
/-- a 'code' word, met by the world's own term for the bytes: nothing is compared byte by byte -/
theorem code_word {y : MethodName} {bytes : ByteArray} {mx : Nat} {rt : Option FieldType} {a : Array Value} {s : State} {m : MethodId} {meth : Method} {c : Code} (h1 : s.methodNamed? y = some m) (h2 : s.vm.method? m = some meth) (h3 : meth.code = some c) (h4 : c.code = bytes)
    (h5 : (c.maxLocals == mx && c.exceptionTable.isEmpty && decide (c.maxStack ≤ mostOperands) && decide (meth.sig.returnType = rt) && !meth.locks && decide (parseMethodDescriptor y.desc = some meth.sig)) = true) : (Jvm.Cond.code y bytes mx rt).before a s = true := by
  simp only [Bool.and_eq_true, beq_iff_eq, Bool.not_eq_true', decide_eq_true_eq] at h5
  obtain ⟨⟨⟨⟨⟨g1, g2⟩, g3⟩, g4⟩, g5⟩, g6⟩ := h5
  simp [Cond.before, Cond.holds, Cond.value, h1, h2, h3, h4, g1, g2, g3, g4, g5, g6]
def isCode : Jvm.Cond → Bool
  | .code _ _ _ _ => true
  | _ => false
theorem all_split {L : List Jvm.Cond} {P : Jvm.Cond → Bool} (h1 : L.all (fun c => isCode c || P c) = true) (h2 : ∀ c ∈ L.filter isCode, P c = true) : L.all P = true := by
  refine List.all_eq_true.mpr fun c hc => ?_
  have h := List.all_eq_true.mp h1 c hc
  rcases Bool.eq_false_or_eq_true (isCode c) with hi | hi
  · exact h2 c (List.mem_filter.mpr ⟨hc, hi⟩)
  · simpa [hi] using h
set_option maxRecDepth 65536 in
theorem w_c0 : (Jvm.Cond.code x code maxLocals ret).before args0 about1 = true := code_word (m := ⟨1, 1⟩) (meth := k1m1) (c := k1c1) (by decide +kernel) rfl rfl rfl (by decide +kernel)
set_option maxRecDepth 65536 in
theorem w_c1 : (Jvm.Cond.code ({ cls := "com/example/lifecycle/lifecycle/internal/definition/BeanScopeNamedPinLaw", name := "fillFrom", desc := "([CLjava/lang/String;)V" } : Jvm.MethodName) method_3_code (2 : Nat) (Option.none : Option Jvm.ClassFile.FieldType)).before args0 about1 = true := code_word (m := ⟨1, 2⟩) (meth := k1m2) (c := k1c2) (by decide +kernel) rfl rfl rfl (by decide +kernel)
set_option maxRecDepth 65536 in
theorem w_c2 : (Jvm.Cond.code ({ cls := "java/lang/String", name := "charAt", desc := "(I)C" } : Jvm.MethodName) jdk_42_method_56_code (2 : Nat) (Option.some Jvm.ClassFile.FieldType.char)).before args0 about1 = true := code_word (m := ⟨7, 2⟩) (meth := k7m2) (c := k7c2) (by decide +kernel) rfl rfl rfl (by decide +kernel)
set_option maxRecDepth 65536 in
theorem w_c3 : (Jvm.Cond.code ({ cls := "java/lang/String", name := "isLatin1", desc := "()Z" } : Jvm.MethodName) jdk_42_method_154_code (1 : Nat) (Option.some Jvm.ClassFile.FieldType.boolean)).before args0 about1 = true := code_word (m := ⟨7, 5⟩) (meth := k7m5) (c := k7c5) (by decide +kernel) rfl rfl rfl (by decide +kernel)
set_option maxRecDepth 65536 in
theorem w_c4 : (Jvm.Cond.code ({ cls := "java/lang/StringLatin1", name := "charAt", desc := "([BI)C" } : Jvm.MethodName) jdk_43_method_2_code (2 : Nat) (Option.some Jvm.ClassFile.FieldType.char)).before args0 about1 = true := code_word (m := ⟨8, 1⟩) (meth := k8m1) (c := k8c1) (by decide +kernel) rfl rfl rfl (by decide +kernel)
set_option maxRecDepth 65536 in
theorem w_c5 : (Jvm.Cond.code ({ cls := "java/lang/String", name := "checkIndex", desc := "(II)V" } : Jvm.MethodName) jdk_42_method_155_code (2 : Nat) (Option.none : Option Jvm.ClassFile.FieldType)).before args0 about1 = true := code_word (m := ⟨7, 6⟩) (meth := k7m6) (c := k7c6) (by decide +kernel) rfl rfl rfl (by decide +kernel)
set_option maxRecDepth 65536 in
theorem w_c6 : (Jvm.Cond.code ({ cls := "jdk/internal/util/Preconditions", name := "checkIndex", desc := "(IILjava/util/function/BiFunction;)I" } : Jvm.MethodName) jdk_41_method_11_code (3 : Nat) (Option.some Jvm.ClassFile.FieldType.int)).before args0 about1 = true := code_word (m := ⟨9, 1⟩) (meth := k9m1) (c := k9c1) (by decide +kernel) rfl rfl rfl (by decide +kernel)
set_option maxRecDepth 65536 in
theorem w_c7 : (Jvm.Cond.code ({ cls := "com/example/lifecycle/lifecycle/internal/definition/BeanScopeNamedPinLaw", name := "cut", desc := "([CI)Ljava/lang/String;" } : Jvm.MethodName) method_4_code (3 : Nat) (Option.some (Jvm.ClassFile.FieldType.object "java/lang/String"))).before args0 about1 = true := code_word (m := ⟨1, 3⟩) (meth := k1m3) (c := k1c3) (by decide +kernel) rfl rfl rfl (by decide +kernel)
set_option maxRecDepth 65536 in
theorem w_c8 : (Jvm.Cond.code ({ cls := "java/lang/String", name := "<init>", desc := "([C)V" } : Jvm.MethodName) jdk_42_method_3_code (2 : Nat) (Option.none : Option Jvm.ClassFile.FieldType)).before args0 about1 = true := code_word (m := ⟨7, 1⟩) (meth := k7m1) (c := k7c1) (by decide +kernel) rfl rfl rfl (by decide +kernel)
set_option maxRecDepth 65536 in
theorem w_c9 : (Jvm.Cond.code ({ cls := "java/lang/String", name := "<init>", desc := "([CIILjava/lang/Void;)V" } : Jvm.MethodName) jdk_42_method_149_code (6 : Nat) (Option.none : Option Jvm.ClassFile.FieldType)).before args0 about1 = true := code_word (m := ⟨7, 4⟩) (meth := k7m4) (c := k7c4) (by decide +kernel) rfl rfl rfl (by decide +kernel)
set_option maxRecDepth 65536 in
theorem w_c10 : (Jvm.Cond.code ({ cls := "java/lang/Object", name := "<init>", desc := "()V" } : Jvm.MethodName) object_method_1_code (1 : Nat) (Option.none : Option Jvm.ClassFile.FieldType)).before args0 about1 = true := code_word (m := ⟨0, 0⟩) (meth := k0m0) (c := k0c0) (by decide +kernel) rfl rfl rfl (by decide +kernel)
set_option maxRecDepth 65536 in
theorem w_c11 : (Jvm.Cond.code ({ cls := "java/lang/StringUTF16", name := "compress", desc := "([CII)[B" } : Jvm.MethodName) jdk_52_method_16_code (6 : Nat) (Option.some (Jvm.ClassFile.FieldType.array Jvm.ClassFile.FieldType.byte))).before args0 about1 = true := code_word (m := ⟨10, 2⟩) (meth := k10m2) (c := k10c2) (by decide +kernel) rfl rfl rfl (by decide +kernel)
set_option maxRecDepth 65536 in
theorem w_c12 : (Jvm.Cond.code ({ cls := "java/lang/StringUTF16", name := "compress", desc := "([CI[BII)I" } : Jvm.MethodName) jdk_52_method_21_code (7 : Nat) (Option.some Jvm.ClassFile.FieldType.int)).before args0 about1 = true := code_word (m := ⟨10, 3⟩) (meth := k10m3) (c := k10c3) (by decide +kernel) rfl rfl rfl (by decide +kernel)
set_option maxRecDepth 65536 in
theorem w_c13 : (Jvm.Cond.code ({ cls := "java/lang/StringUTF16", name := "coderFromArrayLen", desc := "([BI)B" } : Jvm.MethodName) jdk_52_method_15_code (2 : Nat) (Option.some Jvm.ClassFile.FieldType.byte)).before args0 about1 = true := code_word (m := ⟨10, 1⟩) (meth := k10m1) (c := k10c1) (by decide +kernel) rfl rfl rfl (by decide +kernel)
set_option maxRecDepth 65536 in
theorem w_c14 : (Jvm.Cond.code ({ cls := "com/example/lifecycle/lifecycle/internal/definition/BeanScope", name := "named", desc := "(Ljava/lang/String;)Lcom/example/lifecycle/lifecycle/internal/definition/BeanScope;" } : Jvm.MethodName) prog_39_method_4_code (5 : Nat) (Option.some (Jvm.ClassFile.FieldType.object "com/example/lifecycle/lifecycle/internal/definition/BeanScope"))).before args0 about1 = true := code_word (m := ⟨12, 1⟩) (meth := k12m1) (c := k12c1) (by decide +kernel) rfl rfl rfl (by decide +kernel)
set_option maxRecDepth 65536 in
theorem w_c15 : (Jvm.Cond.code ({ cls := "com/example/lifecycle/lifecycle/internal/definition/BeanScope", name := "values", desc := "()[Lcom/example/lifecycle/lifecycle/internal/definition/BeanScope;" } : Jvm.MethodName) prog_39_method_1_code (0 : Nat) (Option.some (Jvm.ClassFile.FieldType.array (Jvm.ClassFile.FieldType.object "com/example/lifecycle/lifecycle/internal/definition/BeanScope")))).before args0 about1 = true := code_word (m := ⟨12, 0⟩) (meth := k12m0) (c := k12c0) (by decide +kernel) rfl rfl rfl (by decide +kernel)
set_option maxRecDepth 65536 in
theorem w_c16 : (Jvm.Cond.code ({ cls := "java/lang/String", name := "equals", desc := "(Ljava/lang/Object;)Z" } : Jvm.MethodName) jdk_42_method_66_code (3 : Nat) (Option.some Jvm.ClassFile.FieldType.boolean)).before args0 about1 = true := code_word (m := ⟨7, 3⟩) (meth := k7m3) (c := k7c3) (by decide +kernel) rfl rfl rfl (by decide +kernel)
set_option maxRecDepth 65536 in
theorem w_c17 : (Jvm.Cond.code ({ cls := "java/lang/StringLatin1", name := "equals", desc := "([B[B)Z" } : Jvm.MethodName) jdk_43_method_13_code (3 : Nat) (Option.some Jvm.ClassFile.FieldType.boolean)).before args0 about1 = true := code_word (m := ⟨8, 2⟩) (meth := k8m2) (c := k8c2) (by decide +kernel) rfl rfl rfl (by decide +kernel)
set_option maxRecDepth 65536 in
theorem w_c18 : (Jvm.Cond.code ({ cls := "com/example/lifecycle/lifecycle/internal/definition/BeanScope", name := "scopeName", desc := "()Ljava/lang/String;" } : Jvm.MethodName) prog_39_method_5_code (1 : Nat) (Option.some (Jvm.ClassFile.FieldType.object "java/lang/String"))).before args0 about1 = true := code_word (m := ⟨12, 2⟩) (meth := k12m2) (c := k12c2) (by decide +kernel) rfl rfl rfl (by decide +kernel)
def codes1 : List Jvm.Cond := [Jvm.Cond.code x code maxLocals ret, Jvm.Cond.code ({ cls := "com/example/lifecycle/lifecycle/internal/definition/BeanScopeNamedPinLaw", name := "fillFrom", desc := "([CLjava/lang/String;)V" } : Jvm.MethodName) method_3_code (2 : Nat) (Option.none : Option Jvm.ClassFile.FieldType), Jvm.Cond.code ({ cls := "java/lang/String", name := "charAt", desc := "(I)C" } : Jvm.MethodName) jdk_42_method_56_code (2 : Nat) (Option.some Jvm.ClassFile.FieldType.char), Jvm.Cond.code ({ cls := "java/lang/String", name := "isLatin1", desc := "()Z" } : Jvm.MethodName) jdk_42_method_154_code (1 : Nat) (Option.some Jvm.ClassFile.FieldType.boolean), Jvm.Cond.code ({ cls := "java/lang/StringLatin1", name := "charAt", desc := "([BI)C" } : Jvm.MethodName) jdk_43_method_2_code (2 : Nat) (Option.some Jvm.ClassFile.FieldType.char), Jvm.Cond.code ({ cls := "java/lang/String", name := "checkIndex", desc := "(II)V" } : Jvm.MethodName) jdk_42_method_155_code (2 : Nat) (Option.none : Option Jvm.ClassFile.FieldType), Jvm.Cond.code ({ cls := "jdk/internal/util/Preconditions", name := "checkIndex", desc := "(IILjava/util/function/BiFunction;)I" } : Jvm.MethodName) jdk_41_method_11_code (3 : Nat) (Option.some Jvm.ClassFile.FieldType.int), Jvm.Cond.code ({ cls := "com/example/lifecycle/lifecycle/internal/definition/BeanScopeNamedPinLaw", name := "cut", desc := "([CI)Ljava/lang/String;" } : Jvm.MethodName) method_4_code (3 : Nat) (Option.some (Jvm.ClassFile.FieldType.object "java/lang/String")), Jvm.Cond.code ({ cls := "java/lang/String", name := "<init>", desc := "([C)V" } : Jvm.MethodName) jdk_42_method_3_code (2 : Nat) (Option.none : Option Jvm.ClassFile.FieldType), Jvm.Cond.code ({ cls := "java/lang/String", name := "<init>", desc := "([CIILjava/lang/Void;)V" } : Jvm.MethodName) jdk_42_method_149_code (6 : Nat) (Option.none : Option Jvm.ClassFile.FieldType), Jvm.Cond.code ({ cls := "java/lang/Object", name := "<init>", desc := "()V" } : Jvm.MethodName) object_method_1_code (1 : Nat) (Option.none : Option Jvm.ClassFile.FieldType), Jvm.Cond.code ({ cls := "java/lang/StringUTF16", name := "compress", desc := "([CII)[B" } : Jvm.MethodName) jdk_52_method_16_code (6 : Nat) (Option.some (Jvm.ClassFile.FieldType.array Jvm.ClassFile.FieldType.byte)), Jvm.Cond.code ({ cls := "java/lang/StringUTF16", name := "compress", desc := "([CI[BII)I" } : Jvm.MethodName) jdk_52_method_21_code (7 : Nat) (Option.some Jvm.ClassFile.FieldType.int), Jvm.Cond.code ({ cls := "java/lang/StringUTF16", name := "coderFromArrayLen", desc := "([BI)B" } : Jvm.MethodName) jdk_52_method_15_code (2 : Nat) (Option.some Jvm.ClassFile.FieldType.byte), Jvm.Cond.code ({ cls := "com/example/lifecycle/lifecycle/internal/definition/BeanScope", name := "named", desc := "(Ljava/lang/String;)Lcom/example/lifecycle/lifecycle/internal/definition/BeanScope;" } : Jvm.MethodName) prog_39_method_4_code (5 : Nat) (Option.some (Jvm.ClassFile.FieldType.object "com/example/lifecycle/lifecycle/internal/definition/BeanScope")), Jvm.Cond.code ({ cls := "com/example/lifecycle/lifecycle/internal/definition/BeanScope", name := "values", desc := "()[Lcom/example/lifecycle/lifecycle/internal/definition/BeanScope;" } : Jvm.MethodName) prog_39_method_1_code (0 : Nat) (Option.some (Jvm.ClassFile.FieldType.array (Jvm.ClassFile.FieldType.object "com/example/lifecycle/lifecycle/internal/definition/BeanScope"))), Jvm.Cond.code ({ cls := "java/lang/String", name := "equals", desc := "(Ljava/lang/Object;)Z" } : Jvm.MethodName) jdk_42_method_66_code (3 : Nat) (Option.some Jvm.ClassFile.FieldType.boolean), Jvm.Cond.code ({ cls := "java/lang/StringLatin1", name := "equals", desc := "([B[B)Z" } : Jvm.MethodName) jdk_43_method_13_code (3 : Nat) (Option.some Jvm.ClassFile.FieldType.boolean), Jvm.Cond.code ({ cls := "com/example/lifecycle/lifecycle/internal/definition/BeanScope", name := "scopeName", desc := "()Ljava/lang/String;" } : Jvm.MethodName) prog_39_method_5_code (1 : Nat) (Option.some (Jvm.ClassFile.FieldType.object "java/lang/String"))]
set_option maxRecDepth 65536 in
theorem codes_eq : words1.filter isCode = codes1 := rfl
theorem w_codes : ∀ c ∈ words1.filter isCode, c.before args0 about1 = true := by
  rw [codes_eq]
  intro c hc
  simp only [codes1, List.mem_cons, List.not_mem_nil, or_false] at hc
  rcases hc with rfl | rfl | rfl | rfl | rfl | rfl | rfl | rfl | rfl | rfl | rfl | rfl | rfl | rfl | rfl | rfl | rfl | rfl | rfl
  · exact w_c0
  · exact w_c1
  · exact w_c2
  · exact w_c3
  · exact w_c4
  · exact w_c5
  · exact w_c6
  · exact w_c7
  · exact w_c8
  · exact w_c9
  · exact w_c10
  · exact w_c11
  · exact w_c12
  · exact w_c13
  · exact w_c14
  · exact w_c15
  · exact w_c16
  · exact w_c17
  · exact w_c18
set_option maxRecDepth 65536 in
theorem w_t1 : (words1.take 24).all (fun c => isCode c || c.before args0 about1) = true := by decide +kernel
set_option maxRecDepth 65536 in
theorem w_t2 : ((words1.drop 24).take 24).all (fun c => isCode c || c.before args0 about1) = true := by decide +kernel
set_option maxRecDepth 65536 in
theorem w_t3 : (((words1.drop 24).drop 24).take 24).all (fun c => isCode c || c.before args0 about1) = true := by decide +kernel
set_option maxRecDepth 65536 in
theorem w_t4 : ((((words1.drop 24).drop 24).drop 24).take 24).all (fun c => isCode c || c.before args0 about1) = true := by decide +kernel
set_option maxRecDepth 65536 in
theorem w_t5 : ((((words1.drop 24).drop 24).drop 24).drop 24).all (fun c => isCode c || c.before args0 about1) = true := by decide +kernel
theorem w_tables : (allAtoms (Jvm.Cond.code x code maxLocals ret :: tables_1)).before args0 about1 = true := by
  rw [allAtoms_all]
  show words1.all (fun c => c.before args0 about1) = true
  refine all_split ?_ w_codes
  rw [← List.take_append_drop 24 words1, List.all_append, w_t1, ← List.take_append_drop 24 (words1.drop 24), List.all_append, w_t2, ← List.take_append_drop 24 ((words1.drop 24).drop 24), List.all_append, w_t3, ← List.take_append_drop 24 (((words1.drop 24).drop 24).drop 24), List.all_append, w_t4, w_t5]
  rfl
set_option maxRecDepth 65536 in
theorem w_rest : rest_1_c.before args0 about1 = true := by decide +kernel
set_option maxRecDepth 65536 in
theorem w_case : (Jvm.Cond.and given_1 narrow_1).before args0 about1 = true := by decide +kernel
set_option maxRecDepth 65536 in
theorem w_consts : constsHeld consts_1 about1 := Jvm.Lit.constsHeldB_iff.mp (by decide +kernel)
theorem w_applies : (headSpec (Jvm.Cond.code x code maxLocals ret :: tables_1) room_1).applies x e0.platform about1 = true :=
  (Spec.applies_iff w_frames).mpr ⟨w_running, w_runnable, w_alone, w_named, w_hears, w_ripe, w_room, w_tables⟩
theorem atStart : AtStart classFile x code maxLocals ret World_1 tables_1 room_1 Calls_1 rest_1 Pre_1 launch0 p0 e0 about1 theMethod args0 below0 :=
  ⟨lists_1, trivial, launch0.admits_env _ _ _, launch0.least_env, fairChoices_fair.cas, fairChoices_fair.clock, w_frames, w_args, w_heap, w_applies, ⟨w_consts, trivial⟩, w_rest, w_case⟩
end start1
theorem witness_1 : WitnessClaimed_1 := ⟨start1.p0, start1.e0, start1.about1, start1.theMethod, start1.args0, start1.below0, start1.atStart⟩
end Jvm.Pilot.@@N@@
