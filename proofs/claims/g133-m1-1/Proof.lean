import JvmDerived
import JvmDerived.Pilot.@@N@@Statement
import JvmDerived.Pilot.@@N@@Code
set_option linter.unusedVariables false
set_option linter.unusedSimpArgs false
/- laws to paste: Road.backV, Road.codOf (cut by pick.py; bodies as the Statement names them) -/
namespace Jvm.Pilot.@@N@@
namespace StrChars
open Jvm Sem ClassFile Op Lib Jvm.Stand Jvm.Free.XT Jvm.Free.ALB Jvm.Free.JM Jvm.Free
open Jvm.Lib.Cold (StaticIs)
/-- a char array whose places are chars -/
def Ch (a : Addr) (A : Cell) (U : State) : Prop := Arr .char a A U ∧ Typed .char A
theorem Ch.mv {a : Addr} {A : Cell} {U U' : State} (h : Ch a A U) (hal : U.vm.Alike U'.vm) (hh : U'.heap = U.heap) : Ch a A U' := ⟨h.1.mv hal hh, h.2⟩
theorem Ch.keep {a : Addr} {A : Cell} {U U' : State} (h : Ch a A U) (hal : U.vm.Alike U'.vm) (hk : U'.heap[a]? = some A) : Ch a A U' := ⟨h.1.keep hal hk, h.2⟩
/-- what place i of a char[]'s cell holds -/
def cv (A : Cell) (i : Nat) : Int32 := match A.slots[i]? with | some (.int x) => x | _ => 0
theorem Ch.get {a : Addr} {A : Cell} {U : State} (h : Ch a A U) {i : Nat} (hi : i < A.slots.size) : A.slots[i]? = some (.int (cv A i)) := by
  have e := Array.getElem?_eq_getElem hi
  have f := h.2 i _ e
  unfold cv; rw [e]
  generalize A.slots[i] = v at f
  cases v <;> simp [fits] at f ⊢
/-- the byte that i2b leaves of a char -/
def lo8 (x : Int32) : Int32 := x.toInt8.toInt32
theorem fits_lo8 (y : Int32) : fits .byte (.int (lo8 y)) = true := by
  have h1 := y.toInt8.le_toInt
  have h2 := y.toInt8.toInt_lt
  simp only [lo8, fits, Bool.and_eq_true, decide_eq_true_eq, Int32.le_iff_toInt_le, Int8.toInt_toInt32, show (-128 : Int32).toInt = -128 from by decide, show (127 : Int32).toInt = 127 from by decide]
  omega
/-- A' is A but that each place j of lo .. hi - 1 holds f j -/
def Laid (A A' : Cell) (lo hi : Nat) (f : Nat → Value) : Prop := A'.cls = A.cls ∧ A'.vm = A.vm ∧ A'.slots.size = A.slots.size ∧ ∀ i, A'.slots[i]? = if lo ≤ i ∧ i < hi then some (f i) else A.slots[i]?
theorem Laid.zero (A : Cell) (lo : Nat) (f : Nat → Value) : Laid A A lo (lo + 0) f := ⟨rfl, rfl, rfl, fun i => by rw [if_neg (by omega)]⟩
theorem Laid.step {A Ak : Cell} {lo k : Nat} {f : Nat → Value} {v : Value} (h : Laid A Ak lo k f) (hlo : lo ≤ k) (hk : k < Ak.slots.size) (hv : v = f k) : Laid A (Ak.setSlot k v) lo (k + 1) f := by
  refine ⟨h.1, h.2.1, by simpa [Cell.setSlot] using h.2.2.1, fun i => ?_⟩
  by_cases e : k = i
  · subst e; rw [Cell.slots_setSlot_self v hk, if_pos (by omega), hv]
  · rw [Cell.slots_setSlot_ne v e, h.2.2.2 i]
    by_cases q : lo ≤ i ∧ i < k
    · rw [if_pos q, if_pos (by omega)]
    · rw [if_neg q, if_neg (by omega)]
def U16 : String := "java/lang/StringUTF16"
namespace Cmp5
def yN : MethodName := ⟨"java/lang/StringUTF16", "compress", "([CI[BII)I"⟩
abbrev yB : ByteArray := jdk_52_method_21_code
theorem d0 : decode yB 0 = .ok (.iconst 0, 1) := by decide +kernel
theorem d1 : decode yB 1 = .ok (.istore 5, 2) := by decide +kernel
theorem d3 : decode yB 3 = .ok (.iload 5, 2) := by decide +kernel
theorem d5 : decode yB 5 = .ok (.iload 4, 2) := by decide +kernel
theorem d7 : decode yB 7 = .ok (.if_icmp (.ge) 37, 3) := by decide +kernel
theorem d10 : decode yB 10 = .ok (.aload_n 0, 1) := by decide +kernel
theorem d11 : decode yB 11 = .ok (.iload_n 1, 1) := by decide +kernel
theorem d12 : decode yB 12 = .ok (.caload, 1) := by decide +kernel
theorem d13 : decode yB 13 = .ok (.istore 6, 2) := by decide +kernel
theorem d15 : decode yB 15 = .ok (.iload 6, 2) := by decide +kernel
theorem d17 : decode yB 17 = .ok (.sipush 255, 3) := by decide +kernel
theorem d20 : decode yB 20 = .ok (.if_icmp (.le) 6, 3) := by decide +kernel
theorem d26 : decode yB 26 = .ok (.aload_n 2, 1) := by decide +kernel
theorem d27 : decode yB 27 = .ok (.iload_n 3, 1) := by decide +kernel
theorem d28 : decode yB 28 = .ok (.iload 6, 2) := by decide +kernel
theorem d30 : decode yB 30 = .ok (.i2b, 1) := by decide +kernel
theorem d31 : decode yB 31 = .ok (.bastore, 1) := by decide +kernel
theorem d32 : decode yB 32 = .ok (.iinc 1 1, 3) := by decide +kernel
theorem d35 : decode yB 35 = .ok (.iinc 3 1, 3) := by decide +kernel
theorem d38 : decode yB 38 = .ok (.iinc 5 1, 3) := by decide +kernel
theorem d41 : decode yB 41 = .ok (.goto (-38), 3) := by decide +kernel
theorem d44 : decode yB 44 = .ok (.iload 4, 2) := by decide +kernel
theorem d46 : decode yB 46 = .ok (.ireturn, 1) := by decide +kernel
def site : List Cond := []
def tab : Cond := tabOf yN yB 7 (some .int) site
def P (b : Addr) (A : Cell) (d : Addr) (B : Cell) (o q len : Nat) (args : Array Value) (s : State) : Prop := args = #[.ref b, .int (Int32.ofNat o), .ref d, .int (Int32.ofNat q), .int (Int32.ofNat len)] ∧ Ch b A s ∧ Arr .byte d B s ∧ b ≠ d ∧ o + len ≤ A.slots.size ∧ q + len ≤ B.slots.size ∧ ∀ i, i < len → ¬ 255 < cv A (o + i)
def E (b : Addr) (A : Cell) (d : Addr) (B : Cell) (o q len : Nat) (r : Option Value) (s u : State) : Prop := r = some (.int (Int32.ofNat len)) ∧ ∃ B', Put d B' s u ∧ Laid B B' q (q + len) (fun j => Value.int (lo8 (cv A (o + (j - q)))))
/-- no char of the range above 255: len; the places written hold each char's low byte -/
theorem law (l : Launch) (b : Addr) (A : Cell) (d : Addr) (B : Cell) (o q len : Nat) : Law l yN 5 5 0 0 yB 7 (some .int) site (P b A d B o q len) (E b A d B o q len) (copyLocs d q len) 0 0 := by
  refine Law.of_walk (plainFor_of_name (by decide +kernel)) (by decide +kernel) (by decide +kernel) (by decide) (fun _ _ h => by rw [h.1]; rfl) (fun _ U U' hal hh h => ⟨h.1, h.2.1.mv hal hh, h.2.2.1.mv hal hh, h.2.2.2⟩) (fun r U U' V V' h1 hal h2 h => ⟨h.1, h.2.elim fun B' q => ⟨B', q.1.mv h1 h2, q.2⟩⟩) ?_
  intro p e s m args below meth c s₁ X0 hexec hbytes hml hret hlk hnm hown hh0 W hP
  obtain ⟨rfl, hA, hB, hne, l1, l2, hp⟩ := hP
  have c1 : Steps p.tables e below (s₁.setTop (entryFrame m #[.ref b, .int (Int32.ofNat o), .ref d, .int (Int32.ofNat q), .int (Int32.ofNat len)] 7)) (s₁.setTop (mkF m 0 #[.val (.ref b), .val (.int (Int32.ofNat o)), .val (.ref d), .val (.int (Int32.ofNat q)), .val (.int (Int32.ofNat len)), .unset, .unset] [])) := entry rfl
  have hA0 := hA.1.mv X0.warmed.alike hh0
  have hB0 := hB.mv X0.warmed.alike hh0
  have a31 := hA.1.2.2.2
  have c2 : Steps p.tables e below (s₁.setTop (entryFrame m #[.ref b, .int (Int32.ofNat o), .ref d, .int (Int32.ofNat q), .int (Int32.ofNat len)] 7)) (s₁.setTop (mkF m 3 #[.val (.ref b), .val (.int (Int32.ofNat o)), .val (.ref d), .val (.int (Int32.ofNat q)), .val (.int (Int32.ofNat len)), .val (.int 0), .unset] [])) := c1.trans (by
    refine iconstV X0.here hexec rfl 0 (hb hbytes d0) (by decide) ?_
    refine XS.istore X0.here hexec rfl (hb hbytes d1) rfl rfl ?_
    exact Steps.refl _)
  have loop : ∀ (r i : Nat), i + r = len → ∀ (z : Slot), (z = .unset ∨ ∃ w, z = .val w ∧ w.category = 1) → ∀ (Tl : State) (Bk : Cell), Stand p l e { frames := 0, locals := 0, cells := 0, slots := 0 } s m #[.ref b, .int (Int32.ofNat o), .ref d, .int (Int32.ofNat q), .int (Int32.ofNat len)] below meth c Tl ([] ++ copyLocs d q i) 0 0 → Put d Bk s₁ Tl → Laid B Bk q (q + i) (fun j => Value.int (lo8 (cv A (o + (j - q))))) →
      Steps p.tables e below (s₁.setTop (entryFrame m #[.ref b, .int (Int32.ofNat o), .ref d, .int (Int32.ofNat q), .int (Int32.ofNat len)] 7)) (Tl.setTop (mkF m 3 #[.val (.ref b), .val (.int (Int32.ofNat (o + i))), .val (.ref d), .val (.int (Int32.ofNat (q + i))), .val (.int (Int32.ofNat len)), .val (.int (Int32.ofNat i)), z] [])) → ∃ (T' : State) (B' : Cell) (z' : Slot), Stand p l e { frames := 0, locals := 0, cells := 0, slots := 0 } s m #[.ref b, .int (Int32.ofNat o), .ref d, .int (Int32.ofNat q), .int (Int32.ofNat len)] below meth c T' ([] ++ copyLocs d q len) 0 0 ∧ Put d B' s₁ T' ∧ Laid B B' q (q + len) (fun j => Value.int (lo8 (cv A (o + (j - q))))) ∧
      Steps p.tables e below (s₁.setTop (entryFrame m #[.ref b, .int (Int32.ofNat o), .ref d, .int (Int32.ofNat q), .int (Int32.ofNat len)] 7)) (T'.setTop (mkF m 3 #[.val (.ref b), .val (.int (Int32.ofNat (o + len))), .val (.ref d), .val (.int (Int32.ofNat (q + len))), .val (.int (Int32.ofNat len)), .val (.int (Int32.ofNat len)), z'] [])) := by
    intro r
    induction r with
    | zero =>
      intro i hi z hz Tl Bk Xl pl fl cl
      have hil : i = len := by omega
      rw [hil] at Xl fl cl
      exact ⟨Tl, Bk, z, Xl, pl, fl, cl⟩
    | succ r ih =>
      intro i hi z hz Tl Bk Xl pl fl cl
      have all := X0.warmed.alike.symm.trans Xl.warmed.alike
      have hAl := hA0.keep all (pl.other hne hA0.1)
      have hBk := hB0.like all pl.1 fl.1 fl.2.1 fl.2.2.1
      have hlt : q + i < Bk.slots.size := by rw [fl.2.2.1]; omega
      have c3 : Steps p.tables e below (s₁.setTop (entryFrame m #[.ref b, .int (Int32.ofNat o), .ref d, .int (Int32.ofNat q), .int (Int32.ofNat len)] 7)) (Tl.setTop (mkF m 12 #[.val (.ref b), .val (.int (Int32.ofNat (o + i))), .val (.ref d), .val (.int (Int32.ofNat (q + i))), .val (.int (Int32.ofNat len)), .val (.int (Int32.ofNat i)), z] [.int (Int32.ofNat (o + i)), .ref b])) := cl.trans (by
        refine XS.iload Xl.here hexec rfl (hb hbytes d3) rfl ?_
        refine XS.iload Xl.here hexec rfl (hb hbytes d5) rfl ?_
        refine XS.icmpNo Xl.here hexec rfl (hb hbytes d7) rfl (ii_ge_f (lt32 (by omega) (by omega))) ?_
        refine XS.aloadN Xl.here hexec rfl (hb hbytes d10) rfl rfl ?_
        refine XS.iloadN Xl.here hexec rfl (hb hbytes d11) rfl ?_
        exact Steps.refl _)
      have c4 : Steps p.tables e below (s₁.setTop (entryFrame m #[.ref b, .int (Int32.ofNat o), .ref d, .int (Int32.ofNat q), .int (Int32.ofNat len)] 7)) (Tl.setTop (mkF m 13 #[.val (.ref b), .val (.int (Int32.ofNat (o + i))), .val (.ref d), .val (.int (Int32.ofNat (q + i))), .val (.int (Int32.ofNat len)), .val (.int (Int32.ofNat i)), z] [.int (cv A (o + i))])) := c3.trans (by
        refine Xl.aget hexec hAl rfl (hA.get (i := o + i) (by omega)) rfl rfl (hb hbytes d12) ?_
        exact Steps.refl _)
      have c5 : Steps p.tables e below (s₁.setTop (entryFrame m #[.ref b, .int (Int32.ofNat o), .ref d, .int (Int32.ofNat q), .int (Int32.ofNat len)] 7)) (Tl.setTop (mkF m 15 #[.val (.ref b), .val (.int (Int32.ofNat (o + i))), .val (.ref d), .val (.int (Int32.ofNat (q + i))), .val (.int (Int32.ofNat len)), .val (.int (Int32.ofNat i)), .val (.int (cv A (o + i)))] [])) := c4.trans (by
        refine XS.istoreS Xl.here hexec rfl (hb hbytes d13) rfl rfl hz ?_
        exact Steps.refl _)
      have c6 : Steps p.tables e below (s₁.setTop (entryFrame m #[.ref b, .int (Int32.ofNat o), .ref d, .int (Int32.ofNat q), .int (Int32.ofNat len)] 7)) (Tl.setTop (mkF m 31 #[.val (.ref b), .val (.int (Int32.ofNat (o + i))), .val (.ref d), .val (.int (Int32.ofNat (q + i))), .val (.int (Int32.ofNat len)), .val (.int (Int32.ofNat i)), .val (.int (cv A (o + i)))] [.int (lo8 (cv A (o + i))), .int (Int32.ofNat (q + i)), .ref d])) := c5.trans (by
        refine XS.iload Xl.here hexec rfl (hb hbytes d15) rfl ?_
        refine sipushV Xl.here hexec rfl 255 (hb hbytes d17) (by decide) ?_
        refine XS.icmpYes Xl.here hexec rfl (pc0 := 20) rfl (hb hbytes d20) rfl (ii_le_t (hp i (by omega))) (by decide) rfl ?_
        refine XS.aloadN Xl.here hexec rfl (hb hbytes d26) rfl rfl ?_
        refine XS.iloadN Xl.here hexec rfl (hb hbytes d27) rfl ?_
        refine XS.iload Xl.here hexec rfl (hb hbytes d28) rfl ?_
        refine i2b Xl.here hexec rfl (hb hbytes d30) rfl ?_
        exact Steps.refl _)
      obtain ⟨T7, X7, p7, st7⟩ := Xl.aput hexec hBk rfl hlt rfl (fits_lo8 (cv A (o + i))) (g := (mkF m 31 #[.val (.ref b), .val (.int (Int32.ofNat (o + i))), .val (.ref d), .val (.int (Int32.ofNat (q + i))), .val (.int (Int32.ofNat len)), .val (.int (Int32.ofNat i)), .val (.int (cv A (o + i)))] [.int (lo8 (cv A (o + i))), .int (Int32.ofNat (q + i)), .ref d])) rfl (rest := []) rfl (hb hbytes d31)
      have c8 : Steps p.tables e below (s₁.setTop (entryFrame m #[.ref b, .int (Int32.ofNat o), .ref d, .int (Int32.ofNat q), .int (Int32.ofNat len)] 7)) (T7.setTop (mkF m 32 #[.val (.ref b), .val (.int (Int32.ofNat (o + i))), .val (.ref d), .val (.int (Int32.ofNat (q + i))), .val (.int (Int32.ofNat len)), .val (.int (Int32.ofNat i)), .val (.int (cv A (o + i)))] [])) := c6.trans (st7 _ (Steps.refl _))
      have c9 : Steps p.tables e below (s₁.setTop (entryFrame m #[.ref b, .int (Int32.ofNat o), .ref d, .int (Int32.ofNat q), .int (Int32.ofNat len)] 7)) (T7.setTop (mkF m 3 #[.val (.ref b), .val (.int (Int32.ofNat (o + i) + 1)), .val (.ref d), .val (.int (Int32.ofNat (q + i) + 1)), .val (.int (Int32.ofNat len)), .val (.int (Int32.ofNat i + 1)), .val (.int (cv A (o + i)))] [])) := c8.trans (by
        refine iincV X7.here hexec rfl 1 (hb hbytes d32) (by decide) rfl rfl ?_
        refine iincV X7.here hexec rfl 1 (hb hbytes d35) (by decide) rfl rfl ?_
        refine iincV X7.here hexec rfl 1 (hb hbytes d38) (by decide) rfl rfl ?_
        refine XS.goto X7.here hexec rfl (pc0 := 41) rfl (hb hbytes d41) (by decide) rfl ?_
        exact Steps.refl _)
      have c10 : Steps p.tables e below (s₁.setTop (entryFrame m #[.ref b, .int (Int32.ofNat o), .ref d, .int (Int32.ofNat q), .int (Int32.ofNat len)] 7)) (T7.setTop (mkF m 3 #[.val (.ref b), .val (.int (Int32.ofNat (o + (i + 1)))), .val (.ref d), .val (.int (Int32.ofNat (q + (i + 1)))), .val (.int (Int32.ofNat len)), .val (.int (Int32.ofNat (i + 1))), .val (.int (cv A (o + i)))] [])) := by
        have := c9
        rw [succ32, succ32, succ32] at this
        exact this
      exact ih (i + 1) (by omega) _ (Or.inr ⟨_, rfl, rfl⟩) T7 _ (by rw [copyLocs_step, ← List.append_assoc]; exact X7) (pl.trans p7) (fl.step (by omega) hlt (by simp)) c10
  obtain ⟨T9, B9, z9, X9, p9, f9, g9⟩ := loop len 0 (by omega) .unset (Or.inl rfl) s₁ B (by simpa [copyLocs] using X0) ⟨hB0.1, fun _ _ => rfl, rfl⟩ (Laid.zero _ _ _) c2
  have c11 : Steps p.tables e below (s₁.setTop (entryFrame m #[.ref b, .int (Int32.ofNat o), .ref d, .int (Int32.ofNat q), .int (Int32.ofNat len)] 7)) (T9.setTop (mkF m 46 #[.val (.ref b), .val (.int (Int32.ofNat (o + len))), .val (.ref d), .val (.int (Int32.ofNat (q + len))), .val (.int (Int32.ofNat len)), .val (.int (Int32.ofNat len)), z9] [.int (Int32.ofNat len)])) := g9.trans (by
    refine XS.iload X9.here hexec rfl (hb hbytes d3) rfl ?_
    refine XS.iload X9.here hexec rfl (hb hbytes d5) rfl ?_
    refine XS.icmpYes X9.here hexec rfl (pc0 := 7) rfl (hb hbytes d7) rfl (ii_ge_t (nlt32 (by omega) (Nat.le_refl _))) (by decide) rfl ?_
    refine XS.iload X9.here hexec rfl (hb hbytes d44) rfl ?_
    exact Steps.refl _)
  exact ⟨T9, some (.int (Int32.ofNat len)), _, _, _, X9, by simp, rfl, rfl, (fun h => by cases h), ⟨rfl, B9, p9.from hh0, f9⟩, fun fs hl => c11.trans (X9.ireturnOut hexec hret rfl (Or.inl rfl) (hb hbytes d46) hl)⟩
end Cmp5
namespace Cmp3
def yN : MethodName := ⟨"java/lang/StringUTF16", "compress", "([CII)[B"⟩
abbrev yB : ByteArray := jdk_52_method_16_code
theorem d0 : decode yB 0 = .ok (.iload_n 2, 1) := by decide +kernel
theorem d1 : decode yB 1 = .ok (.newarray .byte, 2) := by decide +kernel
theorem d3 : decode yB 3 = .ok (.astore_n 3, 1) := by decide +kernel
theorem d4 : decode yB 4 = .ok (.aload_n 0, 1) := by decide +kernel
theorem d5 : decode yB 5 = .ok (.iload_n 1, 1) := by decide +kernel
theorem d6 : decode yB 6 = .ok (.aload_n 3, 1) := by decide +kernel
theorem d7 : decode yB 7 = .ok (.iconst 0, 1) := by decide +kernel
theorem d8 : decode yB 8 = .ok (.iload_n 2, 1) := by decide +kernel
theorem d9 : decode yB 9 = .ok (.invokestatic 115, 3) := by decide +kernel
theorem d12 : decode yB 12 = .ok (.istore 4, 2) := by decide +kernel
theorem d14 : decode yB 14 = .ok (.iload 4, 2) := by decide +kernel
theorem d16 : decode yB 16 = .ok (.iload_n 2, 1) := by decide +kernel
theorem d17 : decode yB 17 = .ok (.if_icmp (.eq) 40, 3) := by decide +kernel
theorem d57 : decode yB 57 = .ok (.aload_n 3, 1) := by decide +kernel
theorem d58 : decode yB 58 = .ok (.areturn, 1) := by decide +kernel
def site : List Cond := [.arrayClass .byte, Cmp5.tab] ++ staticW U16 115 Cmp5.yN
def tab : Cond := tabOf yN yB 6 (some (.array .byte)) site
def P (b : Addr) (A : Cell) (o len : Nat) (args : Array Value) (s : State) : Prop := args = #[.ref b, .int (Int32.ofNat o), .int (Int32.ofNat len)] ∧ Ch b A s ∧ o + len ≤ A.slots.size ∧ len ≤ 536870912 ∧ ∀ i, i < len → ¬ 255 < cv A (o + i)
def E (b : Addr) (A : Cell) (o len : Nat) (r : Option Value) (s u : State) : Prop := NewArr .byte "[B" len (fun j => .int (lo8 (cv A (o + j)))) r s u ∧ u.heap.size = s.heap.size + 1
/-- no char of the range above 255: a new byte[] of their low bytes -/
theorem law (l : Launch) (b : Addr) (A : Cell) (o len : Nat) : Law l yN 3 3 1 18 yB 6 (some (.array .byte)) site (P b A o len) (E b A o len) [] 1 len := by
  refine Law.of_walk (plainFor_of_name (by decide +kernel)) (by decide +kernel) (by decide +kernel) (by decide) (fun _ _ h => by rw [h.1]; rfl) (fun _ U U' hal hh h => ⟨h.1, h.2.1.mv hal hh, h.2.2⟩) (fun r U U' V V' h1 hal h2 h => ⟨NewArr.mv r U U' V V' h1 hal h2 h.1, by rw [h1, h2]; exact h.2⟩) ?_
  intro p e s m args below meth c s₁ X0 hexec hbytes hml hret hlk hnm hown hh0 W hP
  obtain ⟨rfl, hA, l1, l2, hp⟩ := hP
  have a31 := hA.1.2.2.2
  have c1 : Steps p.tables e below (s₁.setTop (entryFrame m #[.ref b, .int (Int32.ofNat o), .int (Int32.ofNat len)] 6)) (s₁.setTop (mkF m 0 #[.val (.ref b), .val (.int (Int32.ofNat o)), .val (.int (Int32.ofNat len)), .unset, .unset, .unset] [])) := entry rfl
  have c2 : Steps p.tables e below (s₁.setTop (entryFrame m #[.ref b, .int (Int32.ofNat o), .int (Int32.ofNat len)] 6)) (s₁.setTop (mkF m 1 #[.val (.ref b), .val (.int (Int32.ofNat o)), .val (.int (Int32.ofNat len)), .unset, .unset, .unset] [.int (Int32.ofNat len)])) := c1.trans (by
    refine XS.iloadN X0.here hexec rfl (hb hbytes d0) rfl ?_
    exact Steps.refl _)
  obtain ⟨T3, B3, X3, ba3, bs3, bv3, bh3, bf3, st3⟩ := X0.anew hexec (atype := .byte) (wk W (.arrayClass .byte)) rfl (by show len * 1 ≤ _; omega) (by omega) (g := (mkF m 1 #[.val (.ref b), .val (.int (Int32.ofNat o)), .val (.int (Int32.ofNat len)), .unset, .unset, .unset] [.int (Int32.ofNat len)])) rfl (hb hbytes d1) (rest := []) rfl (Nat.le_refl _) (by show 0 + len ≤ len; omega)
  rw [hh0] at ba3 st3
  have kp3 : XT.Kept s T3 := (XT.Kept.of_eq hh0).push bh3
  have hA3 := hA.keep X3.warmed.alike (kp3 _ _ hA.1.1)
  have hne : b ≠ s.heap.size := hA.1.ne
  have c4 : Steps p.tables e below (s₁.setTop (entryFrame m #[.ref b, .int (Int32.ofNat o), .int (Int32.ofNat len)] 6)) (T3.setTop (mkF m 3 #[.val (.ref b), .val (.int (Int32.ofNat o)), .val (.int (Int32.ofNat len)), .unset, .unset, .unset] [.ref s.heap.size])) := c2.trans (st3 _ (Steps.refl _))
  have c5 : Steps p.tables e below (s₁.setTop (entryFrame m #[.ref b, .int (Int32.ofNat o), .int (Int32.ofNat len)] 6)) (T3.setTop (mkF m 9 #[.val (.ref b), .val (.int (Int32.ofNat o)), .val (.int (Int32.ofNat len)), .val (.ref s.heap.size), .unset, .unset] [.int (Int32.ofNat len), .int 0, .ref s.heap.size, .int (Int32.ofNat o), .ref b])) := c4.trans (by
    refine XS.astoreN X3.here hexec rfl (hb hbytes d3) rfl rfl rfl ?_
    refine XS.aloadN X3.here hexec rfl (hb hbytes d4) rfl rfl ?_
    refine XS.iloadN X3.here hexec rfl (hb hbytes d5) rfl ?_
    refine XS.aloadN X3.here hexec rfl (hb hbytes d6) rfl rfl ?_
    refine iconstV X3.here hexec rfl 0 (hb hbytes d7) (by decide) ?_
    refine XS.iloadN X3.here hexec rfl (hb hbytes d8) rfl ?_
    exact Steps.refl _)
  obtain ⟨v6, T6, X6, E6, g6⟩ := X3.callS hexec (Cmp5.law l b A s.heap.size B3 o 0 len) hown (wks W (staticW U16 115 Cmp5.yN)) (wk W Cmp5.tab) (W := 0) (Nat.le_of_ble_eq_true rfl) (Nat.le_of_ble_eq_true rfl) (Nat.le_refl _) (by show 0 + len + 0 ≤ len; omega) (g := (mkF m 9 #[.val (.ref b), .val (.int (Int32.ofNat o)), .val (.int (Int32.ofNat len)), .val (.ref s.heap.size), .unset, .unset] [.int (Int32.ofNat len), .int (Int32.ofNat 0), .ref s.heap.size, .int (Int32.ofNat o), .ref b])) rfl (by rw [hml]; rfl) c5 (argsL := [.ref b, .int (Int32.ofNat o), .ref s.heap.size, .int (Int32.ofNat 0), .int (Int32.ofNat len)]) (rest := []) rfl rfl (by show 2 * 0 + 0 ≤ _; decide) (hb hbytes d9) (⟨rfl, hA3, ba3, hne, l1, by rw [bs3]; simp, hp⟩)
  obtain ⟨rfl, B6, p6, f6⟩ := E6
  have c7 : Steps p.tables e below (s₁.setTop (entryFrame m #[.ref b, .int (Int32.ofNat o), .int (Int32.ofNat len)] 6)) (T6.setTop (mkF m 12 #[.val (.ref b), .val (.int (Int32.ofNat o)), .val (.int (Int32.ofNat len)), .val (.ref s.heap.size), .unset, .unset] [.int (Int32.ofNat len)])) := g6
  have c8 : Steps p.tables e below (s₁.setTop (entryFrame m #[.ref b, .int (Int32.ofNat o), .int (Int32.ofNat len)] 6)) (T6.setTop (mkF m 58 #[.val (.ref b), .val (.int (Int32.ofNat o)), .val (.int (Int32.ofNat len)), .val (.ref s.heap.size), .val (.int (Int32.ofNat len)), .unset] [.ref s.heap.size])) := c7.trans (by
    refine XS.istore X6.here hexec rfl (hb hbytes d12) rfl rfl ?_
    refine XS.iload X6.here hexec rfl (hb hbytes d14) rfl ?_
    refine XS.iloadN X6.here hexec rfl (hb hbytes d16) rfl ?_
    refine XS.icmpYes X6.here hexec rfl (pc0 := 17) rfl (hb hbytes d17) rfl (ii_eq_t rfl) (by decide) rfl ?_
    refine XS.aloadN X6.here hexec rfl (hb hbytes d57) rfl rfl ?_
    exact Steps.refl _)
  have X8 := X6.wide (L' := []) (cells' := 1) (slots' := len) (fun x hx hlt => by
    simp only [List.nil_append, copyLocs, List.mem_map, List.mem_range] at hx
    obtain ⟨i, -, rfl⟩ := hx
    exact absurd hlt (Nat.lt_irrefl _)) (Nat.le_refl _) (by omega)
  exact ⟨T6, some (.ref s.heap.size), _, _, _, X8, rfl, rfl, rfl, (fun h => by cases h), ⟨⟨rfl, B6, ba3.like (X3.warmed.alike.symm.trans X6.warmed.alike) p6.1 f6.1 f6.2.1 f6.2.2.1, f6.2.1.trans bv3, by rw [X6.warmed.alike.findClass, f6.1]; exact bf3, by rw [f6.2.2.1, bs3]; simp, fun j hj => by rw [f6.2.2.2 j, if_pos (by omega)]; rfl, kp3.put p6 (Nat.le_refl _)⟩, by rw [p6.2.2, bh3, hh0]; simp⟩, fun fs hl => c8.trans (X8.areturnOut hexec rfl hret rfl (hb hbytes d58) hl)⟩
end Cmp3
namespace CodL
def yN : MethodName := ⟨"java/lang/StringUTF16", "coderFromArrayLen", "([BI)B"⟩
abbrev yB : ByteArray := jdk_52_method_15_code
theorem d0 : decode yB 0 = .ok (.iload_n 1, 1) := by decide +kernel
theorem d1 : decode yB 1 = .ok (.aload_n 0, 1) := by decide +kernel
theorem d2 : decode yB 2 = .ok (.arraylength, 1) := by decide +kernel
theorem d3 : decode yB 3 = .ok (.isub, 1) := by decide +kernel
theorem d4 : decode yB 4 = .ok (.bipush 31, 2) := by decide +kernel
theorem d6 : decode yB 6 = .ok (.iushr, 1) := by decide +kernel
theorem d7 : decode yB 7 = .ok (.i2b, 1) := by decide +kernel
theorem d8 : decode yB 8 = .ok (.ireturn, 1) := by decide +kernel
def site : List Cond := []
def tab : Cond := tabOf yN yB 2 (some .byte) site
def P (d : Addr) (B : Cell) (args : Array Value) (s : State) : Prop := args = #[.ref d, .int (Int32.ofNat B.slots.size)] ∧ Arr .byte d B s
def E (r : Option Value) (s u : State) : Prop := XT.PureE (some (.int 0)) r s u
/-- an array as long as the number of chars: LATIN1 -/
theorem law (l : Launch) (d : Addr) (B : Cell) : Law l yN 2 2 0 0 yB 2 (some .byte) site (P d B) E [] 0 0 := by
  refine Law.of_walk (plainFor_of_name (by decide +kernel)) (by decide +kernel) (by decide +kernel) (by decide) (fun _ _ h => by rw [h.1]; rfl) (fun _ U U' hal hh h => ⟨h.1, h.2.mv hal hh⟩) (fun r U U' V V' h1 hal h2 h => XT.PureE.mv r U U' V V' h1 hal h2 h) ?_
  intro p e s m args below meth c s₁ X0 hexec hbytes hml hret hlk hnm hown hh0 W hP
  obtain ⟨rfl, hB⟩ := hP
  have hB0 := hB.mv X0.warmed.alike hh0
  have c1 : Steps p.tables e below (s₁.setTop (entryFrame m #[.ref d, .int (Int32.ofNat B.slots.size)] 2)) (s₁.setTop (mkF m 0 #[.val (.ref d), .val (.int (Int32.ofNat B.slots.size))] [])) := entry rfl
  have c2 : Steps p.tables e below (s₁.setTop (entryFrame m #[.ref d, .int (Int32.ofNat B.slots.size)] 2)) (s₁.setTop (mkF m 2 #[.val (.ref d), .val (.int (Int32.ofNat B.slots.size))] [.ref d, .int (Int32.ofNat B.slots.size)])) := c1.trans (by
    refine XS.iloadN X0.here hexec rfl (hb hbytes d0) rfl ?_
    refine XS.aloadN X0.here hexec rfl (hb hbytes d1) rfl rfl ?_
    exact Steps.refl _)
  have c3 : Steps p.tables e below (s₁.setTop (entryFrame m #[.ref d, .int (Int32.ofNat B.slots.size)] 2)) (s₁.setTop (mkF m 8 #[.val (.ref d), .val (.int (Int32.ofNat B.slots.size))] [.int (lo8 (ushr (Int32.ofNat B.slots.size - Int32.ofNat B.slots.size) 31))])) := c2.trans (by
    refine X0.alen hexec hB0 rfl rfl (hb hbytes d2) ?_
    refine XS.isub X0.here hexec rfl (hb hbytes d3) rfl ?_
    refine bipushV X0.here hexec rfl 31 (hb hbytes d4) (by decide) ?_
    refine iushr X0.here hexec rfl (hb hbytes d6) rfl ?_
    refine i2b X0.here hexec rfl (hb hbytes d7) rfl ?_
    exact Steps.refl _)
  have e0 : lo8 (ushr (Int32.ofNat B.slots.size - Int32.ofNat B.slots.size) 31) = 0 := by rw [Int32.sub_self]; decide
  rw [e0] at c3
  exact ⟨s₁, some (.int 0), _, _, _, X0, rfl, rfl, rfl, (fun h => by cases h), ⟨rfl, hh0⟩, fun fs hl => c3.trans (X0.ireturnOut hexec hret rfl (Or.inr (Or.inr (Or.inl rfl))) (hb hbytes d8) hl)⟩
end CodL
/-- the String at a is Latin-1 over a new byte[] (the heap's one new cell): the low bytes of the len chars of A from o on; every cell but a is kept -/
def Got (a : Addr) (D : Cell) (fV fC : Field) (A : Cell) (o len : Nat) (r : Option Value) (s u : State) : Prop := r = none ∧ ∃ D' V : Cell, Blank "java/lang/String" a D' u ∧ Same D D' [fV.slot, fC.slot] ∧ D'.slots[fV.slot]? = some (.ref s.heap.size) ∧ D'.slots[fC.slot]? = some (.int 0) ∧ Arr .byte s.heap.size V u ∧ V.vm = .none ∧ u.vm.findClass "[B" = some V.cls ∧ V.slots.size = len ∧ (∀ j, j < len → V.slots[j]? = some (.int (lo8 (cv A (o + j))))) ∧ (∀ (y : Addr) (c : Cell), y ≠ a → s.heap[y]? = some c → u.heap[y]? = some c) ∧ u.heap.size = s.heap.size + 1
theorem Got.mv {a : Addr} {D A : Cell} {fV fC : Field} {o len : Nat} : ∀ r (U U' V V' : State), U'.heap = U.heap → V.vm.Alike V'.vm → V'.heap = V.heap → Got a D fV fC A o len r U V → Got a D fV fC A o len r U' V' :=
  fun r U U' V V' h1 hal h2 ⟨e0, D', X, a1, a2, a3, a4, a5, a6, a7, a8, a9, a10, a11⟩ => ⟨e0, D', X, a1.mv hal h2, a2, by rw [h1]; exact a3, a4, by rw [h1]; exact a5.mv hal h2, a6, by rw [hal.findClass]; exact a7, a8, a9, by rw [h1, h2]; exact a10, by rw [h1, h2]; exact a11⟩
namespace New4
def yN : MethodName := ⟨"java/lang/String", "<init>", "([CIILjava/lang/Void;)V"⟩
abbrev yB : ByteArray := jdk_42_method_149_code
theorem d0 : decode yB 0 = .ok (.aload_n 0, 1) := by decide +kernel
theorem d1 : decode yB 1 = .ok (.invokespecial 1, 3) := by decide +kernel
theorem d4 : decode yB 4 = .ok (.iload_n 3, 1) := by decide +kernel
theorem d5 : decode yB 5 = .ok (.ifCond (.ne) 22, 3) := by decide +kernel
theorem d27 : decode yB 27 = .ok (.getstatic 38, 3) := by decide +kernel
theorem d30 : decode yB 30 = .ok (.ifCond (.eq) 28, 3) := by decide +kernel
theorem d33 : decode yB 33 = .ok (.aload_n 1, 1) := by decide +kernel
theorem d34 : decode yB 34 = .ok (.iload_n 2, 1) := by decide +kernel
theorem d35 : decode yB 35 = .ok (.iload_n 3, 1) := by decide +kernel
theorem d36 : decode yB 36 = .ok (.invokestatic 177, 3) := by decide +kernel
theorem d39 : decode yB 39 = .ok (.astore 5, 2) := by decide +kernel
theorem d41 : decode yB 41 = .ok (.aload_n 0, 1) := by decide +kernel
theorem d42 : decode yB 42 = .ok (.aload 5, 2) := by decide +kernel
theorem d44 : decode yB 44 = .ok (.iload_n 3, 1) := by decide +kernel
theorem d45 : decode yB 45 = .ok (.invokestatic 47, 3) := by decide +kernel
theorem d48 : decode yB 48 = .ok (.putfield 15, 3) := by decide +kernel
theorem d51 : decode yB 51 = .ok (.aload_n 0, 1) := by decide +kernel
theorem d52 : decode yB 52 = .ok (.aload 5, 2) := by decide +kernel
theorem d54 : decode yB 54 = .ok (.putfield 9, 3) := by decide +kernel
theorem d57 : decode yB 57 = .ok (.return_, 1) := by decide +kernel
def site : List Cond := [.fieldLink "java/lang/String" 38 "java/lang/String" "COMPACT_STRINGS" "Z", Cmp3.tab, CodL.tab, .laysFinal "java/lang/String" "java/lang/String" "value" "[B", .fieldLink "java/lang/String" 9 "java/lang/String" "value" "[B", .laysFinal "java/lang/String" "java/lang/String" "coder" "B", .fieldLink "java/lang/String" 15 "java/lang/String" "coder" "B"] ++ objW "java/lang/String" 1 ++ staticW "java/lang/String" 177 Cmp3.yN ++ staticW "java/lang/String" 47 CodL.yN
def tab : Cond := tabOf yN yB 6 none site
def P (a : Addr) (D : Cell) (fV fC : Field) (b : Addr) (A : Cell) (z : Int32) (o len : Nat) (args : Array Value) (s : State) : Prop := args = #[.ref a, .ref b, .int (Int32.ofNat o), .int (Int32.ofNat len), .null] ∧ Blank "java/lang/String" a D s ∧ Found "java/lang/String" "value" "[B" fV s ∧ Found "java/lang/String" "coder" "B" fC s ∧ Ch b A s ∧ StaticIs s "java/lang/String" "COMPACT_STRINGS" "Z" (.int z) ∧ ¬ z = 0 ∧ 0 < len ∧ o + len ≤ A.slots.size ∧ len ≤ 536870912 ∧ ∀ i, i < len → ¬ 255 < cv A (o + i)
def E (a : Addr) (D : Cell) (fV fC : Field) (A : Cell) (o len : Nat) (r : Option Value) (s u : State) : Prop := Got a D fV fC A o len r s u
/-- len > 0, no char of the range above 255: a Latin-1 String of their low bytes -/
theorem law (l : Launch) (a : Addr) (D : Cell) (fV fC : Field) (b : Addr) (A : Cell) (z : Int32) (o len : Nat) : Law l yN 5 4 2 35 yB 6 none site (P a D fV fC b A z o len) (E a D fV fC A o len) [⟨a, fC.slot⟩, ⟨a, fV.slot⟩] 1 len := by
  refine Law.of_walk (plainFor_of_name (by decide +kernel)) (by decide +kernel) (by decide +kernel) (by decide) (fun _ _ h => by rw [h.1]; rfl) (fun _ U U' hal hh h => ⟨h.1, h.2.1.mv hal hh, h.2.2.1.al hal, h.2.2.2.1.al hal, h.2.2.2.2.1.mv hal hh, h.2.2.2.2.2.1.there hal hh, h.2.2.2.2.2.2⟩) (fun r U U' V V' h1 hal h2 h => Got.mv r U U' V V' h1 hal h2 h) ?_
  intro p e s m args below meth c s₁ X0 hexec hbytes hml hret hlk hnm hown hh0 W hP
  obtain ⟨rfl, hB, f1, f2, hA, s1, hz, l0, l1, l2, hp⟩ := hP
  have a31 := hA.1.2.2.2
  have c1 : Steps p.tables e below (s₁.setTop (entryFrame m #[.ref a, .ref b, .int (Int32.ofNat o), .int (Int32.ofNat len), .null] 6)) (s₁.setTop (mkF m 0 #[.val (.ref a), .val (.ref b), .val (.int (Int32.ofNat o)), .val (.int (Int32.ofNat len)), .val .null, .unset] [])) := entry rfl
  have c2 : Steps p.tables e below (s₁.setTop (entryFrame m #[.ref a, .ref b, .int (Int32.ofNat o), .int (Int32.ofNat len), .null] 6)) (s₁.setTop (mkF m 1 #[.val (.ref a), .val (.ref b), .val (.int (Int32.ofNat o)), .val (.int (Int32.ofNat len)), .val .null, .unset] [.ref a])) := c1.trans (by
    refine XS.aloadN X0.here hexec rfl (hb hbytes d0) rfl rfl ?_
    exact Steps.refl _)
  obtain ⟨T3, X3, q3, st3⟩ := X0.oinit hexec hown (wks W (objW "java/lang/String" 1)) (g := (mkF m 1 #[.val (.ref a), .val (.ref b), .val (.int (Int32.ofNat o)), .val (.int (Int32.ofNat len)), .val .null, .unset] [.ref a])) rfl (by rw [hml]; rfl) (rest := []) rfl (hb hbytes d1) (W := 0) (by show 2 * 0 + 0 ≤ _; decide) (Nat.le_of_ble_eq_true rfl) (Nat.le_of_ble_eq_true rfl)
  have hh3 := q3.trans hh0
  have c4 : Steps p.tables e below (s₁.setTop (entryFrame m #[.ref a, .ref b, .int (Int32.ofNat o), .int (Int32.ofNat len), .null] 6)) (T3.setTop (mkF m 27 #[.val (.ref a), .val (.ref b), .val (.int (Int32.ofNat o)), .val (.int (Int32.ofNat len)), .val .null, .unset] [])) := (c2.trans (st3 _ (Steps.refl _))).trans (by
    refine XS.iloadN X3.here hexec rfl (hb hbytes d4) rfl ?_
    refine XS.ifYes X3.here hexec rfl (pc0 := 5) rfl (hb hbytes d5) rfl (i0_ne_t (nz32 (by omega) l0)) (by decide) rfl ?_
    exact Steps.refl _)
  obtain ⟨T5, X5, q5, st5⟩ := X3.sget hexec hown (wk W (.fieldLink "java/lang/String" 38 "java/lang/String" "COMPACT_STRINGS" "Z")) s1 (fun _ _ h => by rw [hh3]; exact h) (g := (mkF m 27 #[.val (.ref a), .val (.ref b), .val (.int (Int32.ofNat o)), .val (.int (Int32.ofNat len)), .val .null, .unset] [])) rfl (hb hbytes d27)
  have hh5 := q5.trans hh3
  have c6 : Steps p.tables e below (s₁.setTop (entryFrame m #[.ref a, .ref b, .int (Int32.ofNat o), .int (Int32.ofNat len), .null] 6)) (T5.setTop (mkF m 30 #[.val (.ref a), .val (.ref b), .val (.int (Int32.ofNat o)), .val (.int (Int32.ofNat len)), .val .null, .unset] [.int z])) := c4.trans (st5 _ (Steps.refl _))
  have c7 : Steps p.tables e below (s₁.setTop (entryFrame m #[.ref a, .ref b, .int (Int32.ofNat o), .int (Int32.ofNat len), .null] 6)) (T5.setTop (mkF m 36 #[.val (.ref a), .val (.ref b), .val (.int (Int32.ofNat o)), .val (.int (Int32.ofNat len)), .val .null, .unset] [.int (Int32.ofNat len), .int (Int32.ofNat o), .ref b])) := c6.trans (by
    refine XS.ifNo X5.here hexec rfl (hb hbytes d30) rfl (i0_eq_f hz) ?_
    refine XS.aloadN X5.here hexec rfl (hb hbytes d33) rfl rfl ?_
    refine XS.iloadN X5.here hexec rfl (hb hbytes d34) rfl ?_
    refine XS.iloadN X5.here hexec rfl (hb hbytes d35) rfl ?_
    exact Steps.refl _)
  obtain ⟨v8, T8, X8, E8, g8⟩ := X5.callS hexec (Cmp3.law l b A o len) hown (wks W (staticW "java/lang/String" 177 Cmp3.yN)) (wk W Cmp3.tab) (W := 0) (Nat.le_of_ble_eq_true rfl) (Nat.le_of_ble_eq_true rfl) (Nat.le_refl _) (by show 0 + len ≤ len; omega) (g := (mkF m 36 #[.val (.ref a), .val (.ref b), .val (.int (Int32.ofNat o)), .val (.int (Int32.ofNat len)), .val .null, .unset] [.int (Int32.ofNat len), .int (Int32.ofNat o), .ref b])) rfl (by rw [hml]; rfl) c7 (argsL := [.ref b, .int (Int32.ofNat o), .int (Int32.ofNat len)]) (rest := []) rfl rfl (by show 2 * 0 + 0 ≤ _; decide) (hb hbytes d36) (⟨rfl, hA.mv X5.warmed.alike hh5, l1, l2, hp⟩)
  obtain ⟨e8, z8⟩ := E8
  obtain ⟨rfl, N, n1, n2, n3, n4, n5, n6⟩ := NewArr.mv _ T5 s _ _ hh5.symm (Vm.Alike.refl _) rfl e8
  rw [hh5] at z8
  have hB1 := hB.keep X8.warmed.alike (n6 _ _ hB.1)
  have hne : s.heap.size ≠ a := (Nat.ne_of_lt (Array.getElem?_eq_some_iff.mp hB.1).1).symm
  have c9 : Steps p.tables e below (s₁.setTop (entryFrame m #[.ref a, .ref b, .int (Int32.ofNat o), .int (Int32.ofNat len), .null] 6)) (T8.setTop (mkF m 39 #[.val (.ref a), .val (.ref b), .val (.int (Int32.ofNat o)), .val (.int (Int32.ofNat len)), .val .null, .unset] [.ref s.heap.size])) := g8
  have c10 : Steps p.tables e below (s₁.setTop (entryFrame m #[.ref a, .ref b, .int (Int32.ofNat o), .int (Int32.ofNat len), .null] 6)) (T8.setTop (mkF m 45 #[.val (.ref a), .val (.ref b), .val (.int (Int32.ofNat o)), .val (.int (Int32.ofNat len)), .val .null, .val (.ref s.heap.size)] [.int (Int32.ofNat N.slots.size), .ref s.heap.size, .ref a])) := by
    have hc : Steps p.tables e below (s₁.setTop (entryFrame m #[.ref a, .ref b, .int (Int32.ofNat o), .int (Int32.ofNat len), .null] 6)) (T8.setTop (mkF m 45 #[.val (.ref a), .val (.ref b), .val (.int (Int32.ofNat o)), .val (.int (Int32.ofNat len)), .val .null, .val (.ref s.heap.size)] [.int (Int32.ofNat len), .ref s.heap.size, .ref a])) := c9.trans (by
      refine XS.astore X8.here hexec rfl (hb hbytes d39) rfl rfl rfl ?_
      refine XS.aloadN X8.here hexec rfl (hb hbytes d41) rfl rfl ?_
      refine XS.aload X8.here hexec rfl (hb hbytes d42) rfl rfl ?_
      refine XS.iloadN X8.here hexec rfl (hb hbytes d44) rfl ?_
      exact Steps.refl _)
    rw [n4]; exact hc
  obtain ⟨v11, T11, X11, E11, g11⟩ := X8.callS hexec (CodL.law l s.heap.size N) hown (wks W (staticW "java/lang/String" 47 CodL.yN)) (wk W CodL.tab) (W := 1) (Nat.le_of_ble_eq_true rfl) (Nat.le_of_ble_eq_true rfl) (Nat.le_refl _) (by show 0 + len + 0 ≤ len; omega) (g := (mkF m 45 #[.val (.ref a), .val (.ref b), .val (.int (Int32.ofNat o)), .val (.int (Int32.ofNat len)), .val .null, .val (.ref s.heap.size)] [.int (Int32.ofNat N.slots.size), .ref s.heap.size, .ref a])) rfl (by rw [hml]; rfl) c10 (argsL := [.ref s.heap.size, .int (Int32.ofNat N.slots.size)]) (rest := [.ref a]) rfl rfl (by show 2 * 0 + (1 + 0) ≤ _; decide) (hb hbytes d45) (⟨rfl, n1⟩)
  obtain ⟨rfl, q11⟩ := E11
  have hB11 := hB1.mv (X8.warmed.alike.symm.trans X11.warmed.alike) q11
  have c12 : Steps p.tables e below (s₁.setTop (entryFrame m #[.ref a, .ref b, .int (Int32.ofNat o), .int (Int32.ofNat len), .null] 6)) (T11.setTop (mkF m 48 #[.val (.ref a), .val (.ref b), .val (.int (Int32.ofNat o)), .val (.int (Int32.ofNat len)), .val .null, .val (.ref s.heap.size)] [.int 0, .ref a])) := g11
  obtain ⟨T13, X13, p13, bl13, sl13, st13⟩ := X11.finit hexec hown (wk W (.fieldLink "java/lang/String" 15 "java/lang/String" "coder" "B")) (Or.inr ⟨_, (wk W (.laysFinal "java/lang/String" "java/lang/String" "coder" "B"))⟩) (Or.inl ⟨rfl, hnm⟩) f2 (Or.inl rfl) hB11 (t := .byte) (by decide +kernel) rfl (g := (mkF m 48 #[.val (.ref a), .val (.ref b), .val (.int (Int32.ofNat o)), .val (.int (Int32.ofNat len)), .val .null, .val (.ref s.heap.size)] [.int 0, .ref a])) rfl (rest := []) rfl (hb hbytes d48)
  have c14 : Steps p.tables e below (s₁.setTop (entryFrame m #[.ref a, .ref b, .int (Int32.ofNat o), .int (Int32.ofNat len), .null] 6)) (T13.setTop (mkF m 54 #[.val (.ref a), .val (.ref b), .val (.int (Int32.ofNat o)), .val (.int (Int32.ofNat len)), .val .null, .val (.ref s.heap.size)] [.ref s.heap.size, .ref a])) := (c12.trans (st13 _ (Steps.refl _))).trans (by
    refine XS.aloadN X13.here hexec rfl (hb hbytes d51) rfl rfl ?_
    refine XS.aload X13.here hexec rfl (hb hbytes d52) rfl rfl ?_
    exact Steps.refl _)
  obtain ⟨T15, X15, p15, bl15, sl15, st15⟩ := X13.finit hexec hown (wk W (.fieldLink "java/lang/String" 9 "java/lang/String" "value" "[B")) (Or.inr ⟨_, (wk W (.laysFinal "java/lang/String" "java/lang/String" "value" "[B"))⟩) (Or.inl ⟨rfl, hnm⟩) f1 (Or.inl rfl) bl13 (t := (.array .byte)) (by decide +kernel) rfl (g := (mkF m 54 #[.val (.ref a), .val (.ref b), .val (.int (Int32.ofNat o)), .val (.int (Int32.ofNat len)), .val .null, .val (.ref s.heap.size)] [.ref s.heap.size, .ref a])) rfl (rest := []) rfl (hb hbytes d54)
  have c16 : Steps p.tables e below (s₁.setTop (entryFrame m #[.ref a, .ref b, .int (Int32.ofNat o), .int (Int32.ofNat len), .null] 6)) (T15.setTop (mkF m 57 #[.val (.ref a), .val (.ref b), .val (.int (Int32.ofNat o)), .val (.int (Int32.ofNat len)), .val .null, .val (.ref s.heap.size)] [])) := c14.trans (st15 _ (Steps.refl _))
  have ap := apart (Or.inr ⟨_, (wk W (.laysFinal "java/lang/String" "java/lang/String" "value" "[B"))⟩) (Or.inr ⟨_, (wk W (.laysFinal "java/lang/String" "java/lang/String" "coder" "B"))⟩) f1 f2 (t₁ := .array .byte) (t₂ := .byte) (by decide +kernel) (by decide +kernel) (by decide)
  have al := X8.warmed.alike.symm.trans X15.warmed.alike
  have n7 : T11.heap[s.heap.size]? = some N := by rw [q11]; exact n1.1
  exact ⟨T15, none, _, _, _, X15, by simp, rfl, by omega, (fun _ => rfl), ⟨rfl, _, N, bl15, ((Same.refl D _).set _ (by simp)).set _ (by simp), sl15, (Cell.slots_setSlot_ne _ ap).trans sl13, n1.keep al (p15.other hne (p13.other hne n7)), n2, by rw [al.findClass]; exact n3, n4, n5, fun y c h1 h2 => p15.other h1 (p13.other h1 (by rw [q11]; exact n6 y c h2)), by rw [p15.2.2, p13.2.2, q11]; exact z8⟩, fun fs hl => c16.trans (X15.returnOut hexec hret (hb hbytes d57) hl)⟩
end New4
namespace New1
def yN : MethodName := ⟨"java/lang/String", "<init>", "([C)V"⟩
abbrev yB : ByteArray := jdk_42_method_3_code
theorem d0 : decode yB 0 = .ok (.aload_n 0, 1) := by decide +kernel
theorem d1 : decode yB 1 = .ok (.aload_n 1, 1) := by decide +kernel
theorem d2 : decode yB 2 = .ok (.iconst 0, 1) := by decide +kernel
theorem d3 : decode yB 3 = .ok (.aload_n 1, 1) := by decide +kernel
theorem d4 : decode yB 4 = .ok (.arraylength, 1) := by decide +kernel
theorem d5 : decode yB 5 = .ok (.aconst_null, 1) := by decide +kernel
theorem d6 : decode yB 6 = .ok (.invokespecial 27, 3) := by decide +kernel
theorem d9 : decode yB 9 = .ok (.return_, 1) := by decide +kernel
def site : List Cond := [New4.tab] ++ initW "java/lang/String" 27 New4.yN
def tab : Cond := tabOf yN yB 2 none site
def P (a : Addr) (D : Cell) (fV fC : Field) (b : Addr) (A : Cell) (z : Int32) (args : Array Value) (s : State) : Prop := args = #[.ref a, .ref b] ∧ Blank "java/lang/String" a D s ∧ Found "java/lang/String" "value" "[B" fV s ∧ Found "java/lang/String" "coder" "B" fC s ∧ Ch b A s ∧ StaticIs s "java/lang/String" "COMPACT_STRINGS" "Z" (.int z) ∧ ¬ z = 0 ∧ 0 < A.slots.size ∧ A.slots.size ≤ 536870912 ∧ ∀ i, i < A.slots.size → ¬ 255 < cv A i
def E (a : Addr) (D : Cell) (fV fC : Field) (A : Cell) (r : Option Value) (s u : State) : Prop := Got a D fV fC A 0 A.slots.size r s u
/-- new String(chars), not empty, no char above 255: a Latin-1 String of their low bytes -/
theorem law (l : Launch) (a : Addr) (D : Cell) (fV fC : Field) (b : Addr) (A : Cell) (z : Int32) : Law l yN 2 1 3 52 yB 2 none site (P a D fV fC b A z) (E a D fV fC A) [⟨a, fC.slot⟩, ⟨a, fV.slot⟩] 1 A.slots.size := by
  refine Law.of_walk (plainFor_of_name (by decide +kernel)) (by decide +kernel) (by decide +kernel) (by decide) (fun _ _ h => by rw [h.1]; rfl) (fun _ U U' hal hh h => ⟨h.1, h.2.1.mv hal hh, h.2.2.1.al hal, h.2.2.2.1.al hal, h.2.2.2.2.1.mv hal hh, h.2.2.2.2.2.1.there hal hh, h.2.2.2.2.2.2⟩) (fun r U U' V V' h1 hal h2 h => Got.mv r U U' V V' h1 hal h2 h) ?_
  intro p e s m args below meth c s₁ X0 hexec hbytes hml hret hlk hnm hown hh0 W hP
  obtain ⟨rfl, hB, f1, f2, hA, s1, hz, l0, l2, hp⟩ := hP
  have c1 : Steps p.tables e below (s₁.setTop (entryFrame m #[.ref a, .ref b] 2)) (s₁.setTop (mkF m 0 #[.val (.ref a), .val (.ref b)] [])) := entry rfl
  have c2 : Steps p.tables e below (s₁.setTop (entryFrame m #[.ref a, .ref b] 2)) (s₁.setTop (mkF m 6 #[.val (.ref a), .val (.ref b)] [.null, .int (Int32.ofNat A.slots.size), .int 0, .ref b, .ref a])) := c1.trans (by
    refine XS.aloadN X0.here hexec rfl (hb hbytes d0) rfl rfl ?_
    refine XS.aloadN X0.here hexec rfl (hb hbytes d1) rfl rfl ?_
    refine iconstV X0.here hexec rfl 0 (hb hbytes d2) (by decide) ?_
    refine XS.aloadN X0.here hexec rfl (hb hbytes d3) rfl rfl ?_
    refine X0.alen hexec (hA.1.mv X0.warmed.alike hh0) rfl rfl (hb hbytes d4) ?_
    refine XS.aconstNull X0.here hexec rfl (hb hbytes d5) ?_
    exact Steps.refl _)
  obtain ⟨v3, T3, X3, E3, g3⟩ := X0.callN hexec (New4.law l a D fV fC b A z 0 A.slots.size) rfl hown (wks W (initW "java/lang/String" 27 New4.yN)) (W New4.tab (by simp only [site, List.mem_cons, List.mem_append, true_or, or_true])) (W := 0) (Nat.le_of_ble_eq_true rfl) (Nat.le_of_ble_eq_true rfl) (Nat.le_refl _) (by show 0 + A.slots.size ≤ A.slots.size; omega) (g := (mkF m 6 #[.val (.ref a), .val (.ref b)] [.null, .int (Int32.ofNat A.slots.size), .int (Int32.ofNat 0), .ref b, .ref a])) rfl (by rw [hml]; rfl) c2 (argsL := [.ref b, .int (Int32.ofNat 0), .int (Int32.ofNat A.slots.size), .null]) (rest := []) rfl rfl (by show 2 * 0 + 0 ≤ _; decide) (hb hbytes d6) (⟨rfl, hB.mv X0.warmed.alike hh0, f1.al X0.warmed.alike, f2.al X0.warmed.alike, hA.mv X0.warmed.alike hh0, s1.there X0.warmed.alike hh0, hz, l0, by omega, l2, fun i hi => by rw [Nat.zero_add]; exact hp i hi⟩)
  have e0 := Got.mv _ s₁ s _ _ hh0.symm (Vm.Alike.refl _) rfl E3
  obtain rfl := e0.1
  have c4 : Steps p.tables e below (s₁.setTop (entryFrame m #[.ref a, .ref b] 2)) (T3.setTop (mkF m 9 #[.val (.ref a), .val (.ref b)] [])) := g3
  exact ⟨T3, none, _, _, _, X3, by simp, rfl, by omega, (fun _ => rfl), e0, fun fs hl => c4.trans (X3.returnOut hexec hret (hb hbytes d9) hl)⟩
theorem pays {l : Launch} {R : Room} {p : Program} {e : Env} {below : List Frame} {s : State} {sargs : Array Value} {len W : Nat} (a : Addr) (D : Cell) (fV fC : Field) (b : Addr) (A : Cell) (z : Int32) (htab : tab.before sargs s = true) (hfr : 4 ≤ R.frames) (hlo : W + 65 ≤ R.locals) :
    Back l R p e below s sargs yN len W (fun A₁ a₁ => A₁.cells + 1 ≤ R.cells ∧ A₁.slots + A.slots.size ≤ R.slots ∧ P a D fV fC b A z a₁ A₁.U) (fun A₁ _ v₁ B₁ => E a D fV fC A v₁ A₁.U B₁.U ∧ B₁.locs = A₁.locs ++ [⟨a, fC.slot⟩, ⟨a, fV.slot⟩] ∧ B₁.cells = A₁.cells + 1 ∧ B₁.slots = A₁.slots + A.slots.size) :=
  (law l a D fV fC b A z).pays htab hfr (by omega)
end New1
end StrChars
namespace StrChars.Road
open Jvm Sem ClassFile Op Lib Jvm.Stand Jvm.Free Jvm.Free.XT
open Jvm.Lib.Cold (StaticIs)
abbrev ST : String := "java/lang/String"
/-- every table word that New1's law asks, flat -/
abbrev words : List Jvm.Cond := [.code New1.yN New1.yB 2 none, .initialized ST, .methodLink ST 27 New4.yN, .instanceMethod New4.yN,
  .code New4.yN New4.yB 6 none, .fieldLink ST 38 ST "COMPACT_STRINGS" "Z", .laysFinal ST ST "value" "[B", .fieldLink ST 9 ST "value" "[B", .laysFinal ST ST "coder" "B", .fieldLink ST 15 ST "coder" "B",
  .methodLink ST 1 Lib.objectInit, .instanceMethod Lib.objectInit, .code Lib.objectInit ⟨#[0xb1]⟩ 1 none, .methodLink ST 177 Cmp3.yN, .static Cmp3.yN, .methodLink ST 47 CodL.yN, .static CodL.yN,
  .code Cmp3.yN Cmp3.yB 6 (some (.array .byte)), .initialized U16, .arrayClass .byte, .methodLink U16 115 Cmp5.yN, .static Cmp5.yN, .code Cmp5.yN Cmp5.yB 7 (some .int), .code CodL.yN CodL.yB 2 (some .byte)]
theorem tab_of {a : Array Value} {s : State} (h : ∀ w ∈ words, w.before a s = true) : New1.tab.before a s = true := by
  have h5 : Cmp5.tab.before a s = true := unparts (wk h (.code Cmp5.yN Cmp5.yB 7 (some .int))) (wks h (.initialized Cmp5.yN.cls :: Cmp5.site))
  have hc : CodL.tab.before a s = true := unparts (wk h (.code CodL.yN CodL.yB 2 (some .byte))) (wks h (.initialized CodL.yN.cls :: CodL.site))
  have q5 : ∀ w ∈ Cmp5.tab :: words, w.before a s = true := fun w hw => (List.mem_cons.mp hw).elim (fun e => e ▸ h5) (h w)
  have h3 : Cmp3.tab.before a s = true := unparts (wk q5 (.code Cmp3.yN Cmp3.yB 6 (some (.array .byte)))) (wks q5 (.initialized Cmp3.yN.cls :: Cmp3.site))
  have q3 : ∀ w ∈ Cmp3.tab :: CodL.tab :: words, w.before a s = true := fun w hw => (List.mem_cons.mp hw).elim (fun e => e ▸ h3) fun hw => (List.mem_cons.mp hw).elim (fun e => e ▸ hc) (h w)
  have h4 : New4.tab.before a s = true := unparts (wk q3 (.code New4.yN New4.yB 6 none)) (wks q3 (.initialized New4.yN.cls :: New4.site))
  have q4 : ∀ w ∈ New4.tab :: words, w.before a s = true := fun w hw => (List.mem_cons.mp hw).elim (fun e => e ▸ h4) (h w)
  exact unparts (wk q4 (.code New1.yN New1.yB 2 none)) (wks q4 (.initialized New1.yN.cls :: New1.site))
/-- the words ride from the start Z to the walk's own state -/
theorem moved {Z s : State} {a0 args : Array Value} (hZ : Z.Warmed39 s.vm) (hw : ∀ d ∈ words, d.before a0 Z = true) : ∀ d ∈ words, d.before args s = true := fun d hd => by
  have q := hw d hd
  have t : ∀ d ∈ words, d = .arrayClass .byte ∨ (d.onTables && d.keepsFace) = true := by decide +kernel
  rcases t d hd with rfl | t
  · exact RoadKit.mvA hZ q
  · exact RoadKit.mv hZ q t
/-- WHAT COMES BACK, over the tables of the start Z: h the heap at the call, h' behind it -/
def Q (Z : State) (x : Addr) (A : Cell) (h : Heap) (v : Option Value) (h' : Heap) (L : List Loc) : Prop := v = none ∧ (∀ y ∈ L, y.base = x) ∧ RoadKit.Keep h h' [x] ∧ h'.size = h.size + 1 ∧ RoadKit.Exa Z h' x ST ∧ RoadKit.Fld Z h' x ST "value" "[B" (.ref h.size) ∧ RoadKit.Fld Z h' x ST "coder" "B" (.int 0) ∧
  (∃ V : Cell, RoadKit.Arr Z h' h.size V .byte ∧ V.vm = .none ∧ Z.vm.findClass "[B" = some V.cls ∧ V.slots.size = A.slots.size ∧ ∀ j, j < A.slots.size → V.slots[j]? = some (.int (lo8 (cv A j)))) ∧
  ∀ (O n d : String) (w : Value), RoadKit.Fld Z h x O n d w → RoadKit.slotOf Z O n d ≠ RoadKit.slotOf Z ST "value" "[B" → RoadKit.slotOf Z O n d ≠ RoadKit.slotOf Z ST "coder" "B" → RoadKit.Fld Z h' x O n d w
/-- **new String(chars) AT A CALL, IN THE ROAD'S FORM**: for specialBack behind newO: x the fresh String, b the char[] with the cell A -/
theorem back {p : Program} {l : Launch} {e : Env} {R : Room} {s : State} {args : Array Value} {below : List Frame} {len W : Nat} {Z : State} {a0 : Array Value} {h : Heap} (hZ : Z.Warmed39 s.vm) (hw : ∀ d ∈ words, d.before a0 Z = true) {kI : Nat} (wi : (Jvm.Cond.instantiable ST kI).before a0 Z = true)
    {x b : Addr} {A : Cell} {z : Int32} {v0 c0 : Value} (E : RoadKit.Exa Z h x ST) (V : RoadKit.Fld Z h x ST "value" "[B" v0) (C : RoadKit.Fld Z h x ST "coder" "B" c0) (K : RoadKit.Arr Z h b A .char) (hty : Typed .char A) (S : RoadKit.Sta Z h ST "COMPACT_STRINGS" "Z" (.int z)) (hz : ¬ z = 0)
    (l0 : 0 < A.slots.size) (l2 : A.slots.size ≤ 536870912) (hp : ∀ i, i < A.slots.size → ¬ 255 < cv A i) (hfr : 4 ≤ R.frames) (hlo : W + 65 ≤ R.locals) :
    Back l R p e below s args New1.yN len W (fun P a => a = #[.ref x, .ref b] ∧ P.U.heap = h ∧ P.cells + 1 ≤ R.cells ∧ P.slots + A.slots.size ≤ R.slots)
      (fun P _ v B => ∃ L, Q Z x A h v B.U.heap L ∧ B.locs = P.locs ++ L ∧ B.cells = P.cells + 1 ∧ B.slots = P.slots + A.slots.size) := by
  intro m meth c P g ig mk a X hg hsize hdg hW hn hp'
  obtain ⟨rfl, rfl, r1, r2⟩ := hp'
  have al : Z.vm.Alike P.U.vm := hZ.alike.trans X.warmed.alike
  obtain ⟨D, cfV, kV, iV, fV, hD, gV, stV, knV, obV, asV, slV⟩ := id V
  obtain ⟨D', cfC, kC, iC, fC, hD', gC, stC, -, -, asC, slC⟩ := id C
  cases hD.symm.trans hD'
  obtain ⟨D2, kD, e1, e2, e3, e4, e5⟩ := id E
  cases hD.symm.trans e1
  obtain ⟨c2, k2, i1, i2, i3, -⟩ := Cond.instantiable_spec wi
  cases e2.symm.trans i1
  cases e3.symm.trans i2
  obtain ⟨kU, u1, u2⟩ := al.2.2 _ _ e3
  have hB : Blank ST x D P.U := ⟨hD, ⟨knV, fun q hq => by rw [hq] at obV; cases obV⟩, by rw [al.findClass]; exact e2, kU, u1, by rw [u2]; exact i3, by rw [u2]; exact e5 i3⟩
  have F1 : Found ST "value" "[B" fV P.U := ⟨SBG.found_only al ⟨cfV, kV, iV, gV⟩, stV⟩
  have F2 : Found ST "coder" "B" fC P.U := ⟨SBG.found_only al ⟨cfC, kC, iC, gC⟩, stC⟩
  have hA : Ch b A P.U := ⟨⟨K.1, State.isArrayOf_alike al K.2.1, K.2.2, by omega⟩, hty⟩
  have hS : StaticIs P.U ST "COMPACT_STRINGS" "Z" (.int z) := by
    obtain ⟨cfS, iS, kS, fS, st, cS, t1, t2, t3, t4, t5, t6, t7⟩ := S
    exact StaticIs.there (s := { Z with heap := P.U.heap }) ⟨cfS, iS, kS, fS, st, cS, t1, t2, t3, t4, t5, (fun q => by rw [q] at t6; cases t6), t7⟩ al rfl
  obtain ⟨v, B, X', ⟨⟨hv, E', V', q1, q2, q3, q4, q5, q6, q7, q8, q9, q10, q11⟩, hl, hc, hs⟩, st⟩ := New1.pays x D fV fC b A z (tab_of (moved hZ hw)) hfr hlo m meth c P g ig mk _ X hg hsize hdg hW hn ⟨r1, r2, rfl, hB, F1, F2, hA, hS, hz, l0, l2, hp⟩
  have al' : Z.vm.Alike B.U.vm := hZ.alike.trans X'.warmed.alike
  have hsz : E'.slots.size = D.slots.size := by
    obtain ⟨-, -, -, kB, w1, w2, w3⟩ := q1
    obtain ⟨kB', y1, y2⟩ := al'.2.2 _ _ e3
    rw [q2.2.1] at w1
    cases w1.symm.trans y1
    rw [w3, e5 i3, y2]
  refine ⟨v, B, X', ⟨_, ⟨hv, ?_, ⟨by omega, fun y cy hy hn' => q10 y cy (by simpa using hn') hy, fun y cy hy => ?_⟩, q11, ⟨E', _, q1.1, by rw [q2.2.1]; exact e2, by rw [q2.2.1]; exact e3, by rw [q2.1]; exact obV, fun _ => by rw [hsz]; exact e5 i3⟩,
    ⟨E', cfV, kV, iV, fV, q1.1, gV, stV, by rw [q2.1]; exact knV, by rw [q2.1]; exact obV, by rw [q2.2.1]; exact asV, q3⟩, ⟨E', cfC, kC, iC, fC, q1.1, gC, stC, by rw [q2.1]; exact knV, by rw [q2.1]; exact obV, by rw [q2.2.1]; exact asC, q4⟩,
    ⟨V', ⟨q5.1, State.isArrayOf_alike al'.symm q5.2.1, q5.2.2.1⟩, q6, by rw [← al'.findClass]; exact q7, q8, fun j hj => by have := q9 j hj; rwa [Nat.zero_add] at this⟩, fun O n d w F n1 n2 => ?_⟩, hl, hc, hs⟩, st⟩
  · intro y hy
    simp only [List.mem_cons, List.not_mem_nil, or_false] at hy
    rcases hy with rfl | rfl <;> rfl
  · by_cases q : y = x
    · subst q
      cases hD.symm.trans hy
      exact ⟨E', q1.1, q2.2.1, q2.1, hsz⟩
    · exact ⟨cy, q10 y cy q hy, rfl, rfl, rfl⟩
  · obtain ⟨D3, cf, k, i, f, g1, g2, g3, g4, g5, g6, g7⟩ := F
    cases hD.symm.trans g1
    simp only [RoadKit.slotOf, g2, gV, gC, Option.map_some, Option.getD_some] at n1 n2
    exact ⟨E', cf, k, i, f, q1.1, g2, g3, by rw [q2.1]; exact g4, by rw [q2.1]; exact g5, by rw [q2.2.1]; exact g6, by rw [q2.2.2 f.slot (by simp [n1, n2])]; exact g7⟩
end StrChars.Road
namespace StrChars.Road
open Jvm Sem ClassFile Op Lib Jvm.Stand Jvm.Free Jvm.Free.XT
/-- WHAT COMES BACK, the byte[] as a list of values -/
def QA (Z : State) (x : Addr) (zn : Int32) (cs : List Int32) (h : Heap) (v : Option Value) (h' : Heap) (L : List Loc) : Prop := v = none ∧ (∀ y ∈ L, y.base = x) ∧ RoadKit.Keep h h' [x] ∧ h'.size = h.size + 1 ∧ RoadKit.Exa Z h' x ST ∧ RoadKit.Fld Z h' x ST "value" "[B" (.ref h.size) ∧ RoadKit.Fld Z h' x ST "coder" "B" (.int 0) ∧
  (∃ kb, Z.vm.findClass "[B" = some kb ∧ RoadKit.Arv Z h' h.size kb .byte zn (cs.map fun c => .int (lo8 c)) (.int 0)) ∧
  ∀ (O n d : String) (w : Value), RoadKit.Fld Z h x O n d w → RoadKit.slotOf Z O n d ≠ RoadKit.slotOf Z ST "value" "[B" → RoadKit.slotOf Z O n d ≠ RoadKit.slotOf Z ST "coder" "B" → RoadKit.Fld Z h' x O n d w
/-- **new String(chars) AT A CALL, THE ARRAYS AS LISTS**: the char[] at b holds cs, not empty, no char above 255 -/
theorem backArv {p : Program} {l : Launch} {e : Env} {R : Room} {s : State} {args : Array Value} {below : List Frame} {len W : Nat} {Z : State} {a0 : Array Value} {h : Heap} (hZ : Z.Warmed39 s.vm) (hw : ∀ d ∈ words, d.before a0 Z = true) {kI : Nat} (wi : (Jvm.Cond.instantiable ST kI).before a0 Z = true)
    {x b : Addr} {k : ClassId} {zn z : Int32} {cs : List Int32} {dv v0 c0 : Value} (E : RoadKit.Exa Z h x ST) (V : RoadKit.Fld Z h x ST "value" "[B" v0) (C : RoadKit.Fld Z h x ST "coder" "B" c0) (K : RoadKit.Arv Z h b k .char zn (cs.map Value.int) dv) (S : RoadKit.Sta Z h ST "COMPACT_STRINGS" "Z" (.int z)) (hz : ¬ z = 0)
    (hlen : zn.toNatClampNeg = cs.length) (h0 : 0 < cs.length) (hbig : cs.length ≤ 536870912) (hall : ∀ c ∈ cs, ¬ 255 < c) (hfr : 4 ≤ R.frames) (hlo : W + 65 ≤ R.locals) :
    Back l R p e below s args New1.yN len W (fun P a => a = #[.ref x, .ref b] ∧ P.U.heap = h ∧ P.cells + 1 ≤ R.cells ∧ P.slots + cs.length ≤ R.slots)
      (fun P _ v B => ∃ L, QA Z x zn cs h v B.U.heap L ∧ B.locs = P.locs ++ L ∧ B.cells = P.cells + 1 ∧ B.slots = P.slots + cs.length) := by
  obtain ⟨A, K1, K2, K3, K4, K5, K6⟩ := K
  have e : A.slots.size = cs.length := K3.trans hlen
  have hat : ∀ (i : Nat) (hi : i < cs.length), A.slots[i]? = some (.int cs[i]) := fun i hi => by rw [K5 i (by omega)]; simp [List.getD_eq_getElem?_getD, hi]
  have hcv : ∀ (i : Nat) (hi : i < cs.length), cv A i = cs[i] := fun i hi => by unfold cv; rw [hat i hi]
  have hty : Typed .char A := fun i v hv => by
    have hi : i < A.slots.size := (Array.getElem?_eq_some_iff.mp hv).1
    have q := K5 i hi
    rw [hv] at q
    rw [Option.some.inj q]
    exact K6 i hi
  refine Back.mono (back hZ hw wi E V C K1 hty S hz (by omega) (by omega) (fun i hi => by rw [hcv i (by omega)]; exact hall _ (List.getElem_mem _)) hfr hlo) (fun P a hp => ⟨hp.1, hp.2.1, hp.2.2.1, by rw [e]; exact hp.2.2.2⟩) (fun P a v B hp hq => ?_)
  obtain ⟨L, ⟨q1, q2, q3, q4, q5, q6, q7, ⟨V', v1, v2, v3, v4, v5⟩, q9⟩, hl, hc, hs⟩ := hq
  refine ⟨L, ⟨q1, q2, q3, q4, q5, q6, q7, ⟨V'.cls, v3, V', v1, rfl, by rw [v4, e, hlen], K4, fun i hi => ?_, fun i hi => ?_⟩, q9⟩, hl, hc, by rw [hs, e]⟩
  · have hi' : i < cs.length := by omega
    rw [v5 i (by omega), hcv i hi']; simp [List.getD_eq_getElem?_getD, hi']
  · have hi' : i < cs.length := by omega
    simp only [List.getD_eq_getElem?_getD, List.getElem?_map, List.getElem?_eq_getElem hi', Option.map_some, Option.getD_some]
    exact fits_lo8 _
end StrChars.Road
namespace StrChars.Road
open Jvm Sem ClassFile Op Lib Jvm.Stand Jvm.Free Jvm.Free.XT
/-- WHAT COMES BACK, in the writer's own shape -/
def QV (Z : State) (x : Addr) (N : Int32) (bs : List Int32) (h : Heap) (n0 : Nat) (v : Option Value) (h' : Heap) (L : List Loc) : Prop := v = none ∧ RoadKit.Fr n0 L ∧ RoadKit.Keep h h' [x] ∧ RoadKit.Exa Z h' x ST ∧ RoadKit.Fld Z h' x ST "coder" "B" (.int 0) ∧
  ∃ (t : Addr) (kb : ClassId), n0 ≤ t ∧ h.size ≤ t ∧ ¬ t = x ∧ RoadKit.Fld Z h' x ST "value" "[B" (.ref t) ∧ RoadKit.Arv Z h' t kb .byte N (bs.map Value.int) (.int 0)
/-- **new String(chars) AT A CALL, FOR THE WRITER**: a char[] of n known ints, each 0 to 255 -/
theorem backV {p : Program} {l : Launch} {e : Env} {R : Room} {s : State} {args : Array Value} {below : List Frame} {len W : Nat} {Z : State} {a0 : Array Value} {h : Heap} (hZ : Z.Warmed39 s.vm) (hw : ∀ d ∈ words, d.before a0 Z = true) {kI : Nat} (wi : (Jvm.Cond.instantiable ST kI).before a0 Z = true)
    {x b : Addr} {kC : ClassId} {cs bs : List Int32} {d v0 c0 : Value} {z N : Int32} {n n0 : Nat} (hx0 : n0 ≤ x) (hh0 : n0 ≤ h.size) (E : RoadKit.Exa Z h x ST) (V : RoadKit.Fld Z h x ST "value" "[B" v0) (C : RoadKit.Fld Z h x ST "coder" "B" c0) (K : RoadKit.Arv Z h b kC .char N (cs.map Value.int) d) (S : RoadKit.Sta Z h ST "COMPACT_STRINGS" "Z" (.int z)) (hz : ¬ z = 0)
    (hn : cs.length = n) (hN : N = Int32.ofNat n) (l0 : 0 < n) (l2 : n ≤ 4000) (hp : ∀ c ∈ cs, ¬ c < 0 ∧ ¬ (255 : Int32) < c) (hb : bs = cs.map (fun c => c.toInt8.toInt32)) (hfr : 4 ≤ R.frames) (hlo : W + 65 ≤ R.locals) :
    Back l R p e below s args (⟨"java/lang/String", "<init>", "([C)V"⟩ : MethodName) len W (fun P a => a = #[.ref x, .ref b] ∧ P.U.heap = h ∧ P.cells + 1 ≤ R.cells ∧ P.slots + n ≤ R.slots)
      (fun P _ v B => ∃ L, QV Z x N bs h n0 v B.U.heap L ∧ B.locs = P.locs ++ L ∧ B.cells = P.cells + 1 ∧ B.slots = P.slots + n) := by
  subst hn hN hb
  refine Back.mono (backArv hZ hw wi E V C K S hz (n32 (by omega)) l0 (by omega) (fun c hc => (hp c hc).2) hfr hlo) (fun P a hp => hp) (fun P a v B hp hq => ?_)
  obtain ⟨L, ⟨q1, q2, q3, q4, q5, q6, q7, ⟨kb, v1, v2⟩, q9⟩, hl, hc, hs⟩ := hq
  exact ⟨L, ⟨q1, fun y hy => by rw [q2 y hy]; exact hx0, q3, q5, q7, h.size, kb, hh0, Nat.le_refl _, Nat.ne_of_gt E.lt, q6, by rw [List.map_map]; exact v2⟩, hl, hc, hs⟩
end StrChars.Road
namespace StrChars
open Jvm Sem ClassFile Op Lib Jvm.Stand Jvm.Free.XT Jvm.Free.ALB Jvm.Free.JM Jvm.Free
open Jvm.Lib.Cold (StaticIs)
def hi8 (x : Int32) : Int32 := lo8 (x >>> ((8 : Int32) &&& 31))
end StrChars
namespace StrChars.Road
open Jvm Sem ClassFile Op Lib Jvm.Stand Jvm.Free Jvm.Free.XT
open Jvm.Lib.Cold (StaticIs)
/-- the bytes of the chars cs, low before high -/
def wideBytes : List Int32 → List Value
  | [] => []
  | c :: cs => .int (lo8 c) :: .int (hi8 c) :: wideBytes cs
/-- an array of N2 bytes vs codes the chars cs by the coder cd -/
def CodA (cs : List Int32) (cd N2 : Int32) (vs : List Value) : Prop := (cd = 0 ∧ N2 = Int32.ofNat cs.length ∧ vs = (cs.map fun c => Value.int (lo8 c)) ∧ ∀ c ∈ cs, ¬ 255 < c) ∨ (cd = 1 ∧ N2 = Int32.ofNat (2 * cs.length) ∧ vs = wideBytes cs ∧ ∃ c ∈ cs, 255 < c)
end StrChars.Road
namespace StrChars.Road
open Jvm Sem ClassFile Op Lib Jvm.Stand Jvm.Free Jvm.Free.XT
open Jvm.Lib.Cold (StaticIs)
/-- what backV says of its String, as the contracts of this text ask it: cs's low bytes, coder 0 -/
theorem codOf {cs : List Int32} {n : Nat} (hn : cs.length = n) (hb : ∀ c ∈ cs, ¬ 255 < c) : CodA cs 0 (Int32.ofNat n) ((cs.map lo8).map Value.int) := Or.inl ⟨rfl, by rw [hn], by simp [List.map_map, Function.comp_def], hb⟩
end StrChars.Road
end Jvm.Pilot.@@N@@

namespace Jvm.Pilot.@@N@@
open Jvm Jvm.ClassFile Sem Op Lib Jvm.Free Jvm.Stand Jvm.LawKit Jvm.RoadKit Bundle Jvm.Pilot.@@N@@.Jvm.D
abbrev oi (x : Int32) : Slot := .val (.int x)
abbrev oa (x : Addr) : Slot := .val (.ref x)
abbrev oRm (f c s l : Nat) : Room := { frames := f, cells := c, slots := s, locals := l }
/-- from here the run comes to its end with what P says -/
def oGo (p : Program) (e : Env) (below : List Frame) (P : Outcome → State → Prop) (T : State) (g : JFrame) : Prop := ∃ s₂ o, Steps p.tables e below (T.setTop g) s₂ ∧ s₂.status = .running ∧ Ended s₂ below o ∧ P o s₂
theorem oby {p : Program} {e : Env} {below : List Frame} {P : Outcome → State → Prop} {T T' : State} {g g' : JFrame} (k : ∀ t, Steps p.tables e below (T'.setTop g') t → Steps p.tables e below (T.setTop g) t) (h : oGo p e below P T' g') : oGo p e below P T g := by
  obtain ⟨s₂, o, h1, h2⟩ := h
  exact ⟨s₂, o, k _ h1, h2⟩
theorem ostart {p : Program} {e : Env} {below : List Frame} {P : Outcome → State → Prop} {T : State} {g g' : JFrame} (q : g = g') (h : oGo p e below P T g') : ∃ s₂ o, Steps p.tables e below (T.setTop g) s₂ ∧ s₂.status = .running ∧ Ended s₂ below o ∧ P o s₂ := by subst q; exact h
theorem oout {p : Program} {e : Env} {below : List Frame} {P : Outcome → State → Prop} {T s₂ : State} {g : JFrame} {o : Outcome} (h1 : Steps p.tables e below (T.setTop g) s₂) (h2 : s₂.status = .running) (h3 : Ended s₂ below o) (h4 : P o s₂) : oGo p e below P T g := ⟨s₂, o, h1, h2, h3, h4⟩
theorem ob {p : Program} {e : Env} {below : List Frame} {P : Outcome → State → Prop} {T : State} {g : JFrame} (T' : State) (g' : JFrame) (k : ∀ t, Steps p.tables e below (T'.setTop g') t → Steps p.tables e below (T.setTop g) t) (h : oGo p e below P T' g') : oGo p e below P T g := oby k h
theorem osuff {p : Program} {e : Env} {below : List Frame} {P : Outcome → State → Prop} {T T' : State} {g g' : JFrame} (h1 : oGo p e below P T' g' → oGo p e below P T g) (h2 : oGo p e below P T' g') : oGo p e below P T g := h1 h2
theorem oname {p : Program} {e : Env} {below : List Frame} {P : Outcome → State → Prop} {T : State} {g : JFrame} (h : ∀ PP : Outcome → State → Prop, (∀ o s, P o s → PP o s) → oGo p e below PP T g) : oGo p e below P T g := h P (fun _ _ q => q)
theorem ow {L : List Jvm.Cond} {Z : State} {a0 : Array Value} (hw : ∀ d ∈ L, d.before a0 Z = true) (k : Nat) {d : Jvm.Cond} (h : L[k]? = some d) : d.before a0 Z = true := hw d (List.mem_of_getElem? h)
theorem on0 {Z : State} {n0 : Nat} {h : Heap} (O : Old Z n0 h) : n0 ≤ h.size := by have h1 := O.1; have h2 := O.2.1; omega
theorem oretA {p : Program} {l : Launch} {e : Env} {R : Room} {s : State} {m : MethodId} {args : Array Value} {below : List Frame} {meth : Method} {c : Code} {T : State} {locs : List Loc} {cells slots : Nat} (X : Stand p l e R s m args below meth c T locs cells slots) (hx : p.tables.exec = Jvm.exec) {pc : Nat} {Ls : Array Slot} {w : Value} {t : FieldType} {rest : List Value} (hret : meth.sig.returnType = some t) (ht : t.isReference = true) (hw : w.isRef = true)
    (hd : decode c.code pc = .ok (.areturn, 1)) {fs : List Frame} (hl : ∀ (f : JFrame) (acts : List Action), f.method = m → f.locked = none → f.entered = [] → (doReturn e (T.setTop f) acts (some w)).1 = T.setFrames fs) :
    Steps p.tables e below (T.setTop (mkF m pc Ls (w :: rest))) (T.setFrames fs) :=
  retOut X hx hret (by cases w <;> first | (simp [Value.isRef] at hw; done) | (cases t <;> rfl)) (Or.inr (Or.inr (Or.inr (Or.inr ⟨rfl, ht, hw⟩)))) hd hl

theorem own_sta {s : State} {args : Array Value} {C n d K : String} (h : (Cond.exactly (.static C n d) K).value args s none s [] = some true) (hi : (Cond.initializedFor C n d).before args s = true ∨ ((Cond.initialized C).before args s = true ∧ (Cond.laysStatic C n d).before args s = true)) :
    ∃ a, (Term.static C n d).eval args s none [] s = some (.ref a) ∧ Sta s s.heap C n d (.ref a) ∧ Exa s s.heap a K := by
  obtain ⟨a, ev⟩ := exa_v h
  exact ⟨a, ev, Sta.start ev hi, Exa.start ev h⟩
theorem own_fldI {s : State} {args : Array Value} {t : Term} {a : Addr} {C n d : String} {k : Int32} (ev : t.eval args s none [] s = some (.ref a)) (h : (Cond.eq (.field t C n d) (.int k)).value args s none s [] = some true) : Fld s s.heap a C n d (.int k) := by
  obtain ⟨x, y, ex, ey, k1, k2⟩ := cmp_v (Or.inl h)
  have e2 : y = .int k := (Option.some.inj ((Term.int_eval k).symm.trans ey)).symm
  subst e2
  obtain ⟨z, rfl⟩ := k2
  have e3 : z = k := gotT (Cond.eq_ints ex ey) h
  subst e3
  exact Fld.start ((fld_at ev).symm.trans ex)
theorem own_fldL {s : State} {args : Array Value} {t : Term} {a : Addr} {C n d : String} {k : Int64} (ev : t.eval args s none [] s = some (.ref a)) (h : (Cond.eq (.field t C n d) (.long k)).value args s none s [] = some true) : Fld s s.heap a C n d (.long k) := by
  obtain ⟨x, y, ex, ey, k1, k2⟩ := cmp_v (Or.inl h)
  have e2 : y = .long k := by simpa [Term.eval] using ey.symm
  subst e2
  obtain ⟨z, rfl⟩ := k2
  have e3 : z = k := gotT (eq_L ex ey) h
  subst e3
  exact Fld.start ((fld_at ev).symm.trans ex)
theorem own_fldN {s : State} {args : Array Value} {t : Term} {a : Addr} {C n d : String} (ev : t.eval args s none [] s = some (.ref a)) (h : (Cond.eq (.field t C n d) .null).value args s none s [] = some true) : Fld s s.heap a C n d .null :=
  Fld.start ((fld_at ev).symm.trans (null_v h))
theorem pn_0 : plainName "java/lang/String" = true := by first | (simp [plainName, overriddenIn]; done) | decide +kernel
theorem pn_1 : plainName "java/lang/StringLatin1" = true := by first | (simp [plainName, overriddenIn]; done) | decide +kernel
theorem pn_2 : plainName "java/lang/CharacterDataLatin1" = true := by first | (simp [plainName, overriddenIn]; done) | decide +kernel
theorem pn_3 : plainName "java/util/Arrays" = true := by first | (simp [plainName, overriddenIn]; done) | decide +kernel
theorem pn_4 : plainName "com/example/rigorous_sourcing/rigoroussourcing/domain/RecordReferenceIsEmptyPinLaw" = true := by first | (simp [plainName, overriddenIn]; done) | decide +kernel
theorem pn_5 : plainName "com/example/rigorous_sourcing/rigoroussourcing/domain/RecordReference" = true := by first | (simp [plainName, overriddenIn]; done) | decide +kernel
theorem own_len {s : State} {args : Array Value} {t : Term} {a : Addr} {c : Cell} {z : Int32} (A : s.arrayAt? a = some c) (ev : t.eval args s none [] s = some (.ref a)) (h : (Cond.eq (.length t) (.int z)).value args s none s [] = some true) : c.slots.size < 2 ^ 31 ∧ c.slots.size.toInt32 = z := by
  have e := eqv_i (Term.int_eval z) h
  have hl : c.slots.size < 2 ^ 31 := by
    by_cases q : c.slots.size < 2 ^ 31
    · exact q
    · exfalso
      have q' : ¬ c.slots.size < 2147483648 := q
      simp [Term.eval, ev, A, q'] at e
  rw [len_f ev A hl] at e
  exact ⟨hl, by simpa using e⟩
theorem own_eqR {s : State} {args : Array Value} {X Y : Term} {w : Addr} (hY : Y.eval args s none [] s = some (.ref w)) (h : (Cond.eq X Y).value args s none s [] = some true) : X.eval args s none [] s = some (.ref w) := by
  obtain ⟨x, y, e1, e2, k1, k2⟩ := cmp_v (Or.inl h)
  cases hY.symm.trans e2
  have hx : x.isRef = true := k2.2
  rw [e1]
  exact congrArg some (gotT (eq_R e1 hY hx rfl) h)
theorem own_and255 (x : Int32) : ¬ nar .char ((x &&& (255 : Int32)).toUInt32.toUInt16.toUInt32.toInt32) < 0 ∧ ¬ (255 : Int32) < nar .char ((x &&& (255 : Int32)).toUInt32.toUInt16.toUInt32.toInt32) := by
  have t : ∀ k : Fin 256, ¬ nar .char ((Int32.ofNat k.val).toUInt32.toUInt16.toUInt32.toInt32) < 0 ∧ ¬ (255 : Int32) < nar .char ((Int32.ofNat k.val).toUInt32.toUInt16.toUInt32.toInt32) := by decide +kernel
  have h : (x &&& 255).toBitVec.toNat < 256 := by
    simp only [Int32.toBitVec_and, BitVec.toNat_and]
    exact Nat.lt_succ_of_le Nat.and_le_right
  have e : (x &&& 255) = Int32.ofNat (x &&& 255).toBitVec.toNat := by
    apply Int32.toBitVec_inj.mp
    show _ = BitVec.ofNat 32 _
    rw [BitVec.ofNat_toNat]; simp
  rw [e]
  exact t ⟨_, h⟩
theorem own_up (cs : List Int32) (h : ∀ c ∈ cs, ¬ c < 0 ∧ ¬ (255 : Int32) < c) : ∀ c ∈ cs, ¬ c < 0 ∧ ¬ (65535 : Int32) < c := fun c hc => ⟨(h c hc).1, fun q => (h c hc).2 (by rw [Int32.lt_iff_toInt_lt] at q ⊢; have e1 : (65535 : Int32).toInt = 65535 := rfl; have e2 : (255 : Int32).toInt = 255 := rfl; omega)⟩
theorem own_words : ∀ d ∈ StrChars.Road.words, d ∈ tables_1 := by decide +kernel

def oTab : List Value := [(.int (1207963663 : Int32)), (.int (1207963663 : Int32)), (.int (1207963663 : Int32)), (.int (1207963663 : Int32)), (.int (1207963663 : Int32)), (.int (1207963663 : Int32)), (.int (1207963663 : Int32)), (.int (1207963663 : Int32)), (.int (1207963663 : Int32)), (.int (1476411407 : Int32)), (.int (1342193679 : Int32)), (.int (1476411407 : Int32)), (.int (1610629135 : Int32)), (.int (1342193679 : Int32)), (.int (1207963663 : Int32)), (.int (1207963663 : Int32)), (.int (1207963663 : Int32)), (.int (1207963663 : Int32)), (.int (1207963663 : Int32)), (.int (1207963663 : Int32)), (.int (1207963663 : Int32)), (.int (1207963663 : Int32)), (.int (1207963663 : Int32)), (.int (1207963663 : Int32)), (.int (1207963663 : Int32)), (.int (1207963663 : Int32)), (.int (1207963663 : Int32)), (.int (1207963663 : Int32)), (.int (1342193679 : Int32)), (.int (1342193679 : Int32)), (.int (1342193679 : Int32)), (.int (1476411407 : Int32)), (.int (1610629132 : Int32)), (.int (1744830488 : Int32)), (.int (1744830488 : Int32)), (.int (671088664 : Int32)), (.int (671113242 : Int32)), (.int (671088664 : Int32)), (.int (1744830488 : Int32)), (.int (1744830488 : Int32)), (.int (-402653163 : Int32)), (.int (-402653162 : Int32)), (.int (1744830488 : Int32)), (.int (536870937 : Int32)), (.int (939524120 : Int32)), (.int (536870932 : Int32)), (.int (939524120 : Int32)), (.int (939524120 : Int32)), (.int (402667017 : Int32)), (.int (402667017 : Int32)), (.int (402667017 : Int32)), (.int (402667017 : Int32)), (.int (402667017 : Int32)), (.int (402667017 : Int32)), (.int (402667017 : Int32)), (.int (402667017 : Int32)), (.int (402667017 : Int32)), (.int (402667017 : Int32)), (.int (939524120 : Int32)), (.int (1744830488 : Int32)), (.int (-402653159 : Int32)), (.int (1744830489 : Int32)), (.int (-402653159 : Int32)), (.int (1744830488 : Int32)), (.int (1744830488 : Int32)), (.int (8552417 : Int32)), (.int (8552417 : Int32)), (.int (8552417 : Int32)), (.int (8552417 : Int32)), (.int (8552417 : Int32)), (.int (8552417 : Int32)), (.int (8552417 : Int32)), (.int (8552417 : Int32)), (.int (8552417 : Int32)), (.int (8552417 : Int32)), (.int (8552417 : Int32)), (.int (8552417 : Int32)), (.int (8552417 : Int32)), (.int (8552417 : Int32)), (.int (8552417 : Int32)), (.int (8552417 : Int32)), (.int (8552417 : Int32)), (.int (8552417 : Int32)), (.int (8552417 : Int32)), (.int (8552417 : Int32)), (.int (8552417 : Int32)), (.int (8552417 : Int32)), (.int (8552417 : Int32)), (.int (8552417 : Int32)), (.int (8552417 : Int32)), (.int (8552417 : Int32)), (.int (-402653163 : Int32)), (.int (1744830488 : Int32)), (.int (-402653162 : Int32)), (.int (1744830491 : Int32)), (.int (1744850967 : Int32)), (.int (1744830491 : Int32)), (.int (8486882 : Int32)), (.int (8486882 : Int32)), (.int (8486882 : Int32)), (.int (8486882 : Int32)), (.int (8486882 : Int32)), (.int (8486882 : Int32)), (.int (8486882 : Int32)), (.int (8486882 : Int32)), (.int (8486882 : Int32)), (.int (8486882 : Int32)), (.int (8486882 : Int32)), (.int (8486882 : Int32)), (.int (8486882 : Int32)), (.int (8486882 : Int32)), (.int (8486882 : Int32)), (.int (8486882 : Int32)), (.int (8486882 : Int32)), (.int (8486882 : Int32)), (.int (8486882 : Int32)), (.int (8486882 : Int32)), (.int (8486882 : Int32)), (.int (8486882 : Int32)), (.int (8486882 : Int32)), (.int (8486882 : Int32)), (.int (8486882 : Int32)), (.int (8486882 : Int32)), (.int (-402653163 : Int32)), (.int (1744830489 : Int32)), (.int (-402653162 : Int32)), (.int (1744830489 : Int32)), (.int (1207963663 : Int32)), (.int (1207963663 : Int32)), (.int (1207963663 : Int32)), (.int (1207963663 : Int32)), (.int (1207963663 : Int32)), (.int (1207963663 : Int32)), (.int (1342181391 : Int32)), (.int (1207963663 : Int32)), (.int (1207963663 : Int32)), (.int (1207963663 : Int32)), (.int (1207963663 : Int32)), (.int (1207963663 : Int32)), (.int (1207963663 : Int32)), (.int (1207963663 : Int32)), (.int (1207963663 : Int32)), (.int (1207963663 : Int32)), (.int (1207963663 : Int32)), (.int (1207963663 : Int32)), (.int (1207963663 : Int32)), (.int (1207963663 : Int32)), (.int (1207963663 : Int32)), (.int (1207963663 : Int32)), (.int (1207963663 : Int32)), (.int (1207963663 : Int32)), (.int (1207963663 : Int32)), (.int (1207963663 : Int32)), (.int (1207963663 : Int32)), (.int (1207963663 : Int32)), (.int (1207963663 : Int32)), (.int (1207963663 : Int32)), (.int (1207963663 : Int32)), (.int (1207963663 : Int32)), (.int (1207963663 : Int32)), (.int (939524108 : Int32)), (.int (1744830488 : Int32)), (.int (671113242 : Int32)), (.int (671113242 : Int32)), (.int (671113242 : Int32)), (.int (671113242 : Int32)), (.int (1744830492 : Int32)), (.int (1744830488 : Int32)), (.int (1744830491 : Int32)), (.int (1744830492 : Int32)), (.int (28677 : Int32)), (.int (-402653155 : Int32)), (.int (1744830489 : Int32)), (.int (1207963664 : Int32)), (.int (1744830492 : Int32)), (.int (1744830491 : Int32)), (.int (671088668 : Int32)), (.int (671088665 : Int32)), (.int (402654731 : Int32)), (.int (402654731 : Int32)), (.int (1744830491 : Int32)), (.int (134049794 : Int32)), (.int (1744830488 : Int32)), (.int (1744830488 : Int32)), (.int (1744830491 : Int32)), (.int (402654475 : Int32)), (.int (28677 : Int32)), (.int (-402653154 : Int32)), (.int (1744832523 : Int32)), (.int (1744832523 : Int32)), (.int (1744832523 : Int32)), (.int (1744830488 : Int32)), (.int (8548353 : Int32)), (.int (8548353 : Int32)), (.int (8548353 : Int32)), (.int (8548353 : Int32)), (.int (8548353 : Int32)), (.int (8548353 : Int32)), (.int (8548353 : Int32)), (.int (8548353 : Int32)), (.int (8548353 : Int32)), (.int (8548353 : Int32)), (.int (8548353 : Int32)), (.int (8548353 : Int32)), (.int (8548353 : Int32)), (.int (8548353 : Int32)), (.int (8548353 : Int32)), (.int (8548353 : Int32)), (.int (8548353 : Int32)), (.int (8548353 : Int32)), (.int (8548353 : Int32)), (.int (8548353 : Int32)), (.int (8548353 : Int32)), (.int (8548353 : Int32)), (.int (8548353 : Int32)), (.int (1744830489 : Int32)), (.int (8548353 : Int32)), (.int (8548353 : Int32)), (.int (8548353 : Int32)), (.int (8548353 : Int32)), (.int (8548353 : Int32)), (.int (8548353 : Int32)), (.int (8548353 : Int32)), (.int (134049794 : Int32)), (.int (8482818 : Int32)), (.int (8482818 : Int32)), (.int (8482818 : Int32)), (.int (8482818 : Int32)), (.int (8482818 : Int32)), (.int (8482818 : Int32)), (.int (8482818 : Int32)), (.int (8482818 : Int32)), (.int (8482818 : Int32)), (.int (8482818 : Int32)), (.int (8482818 : Int32)), (.int (8482818 : Int32)), (.int (8482818 : Int32)), (.int (8482818 : Int32)), (.int (8482818 : Int32)), (.int (8482818 : Int32)), (.int (8482818 : Int32)), (.int (8482818 : Int32)), (.int (8482818 : Int32)), (.int (8482818 : Int32)), (.int (8482818 : Int32)), (.int (8482818 : Int32)), (.int (8482818 : Int32)), (.int (1744830489 : Int32)), (.int (8482818 : Int32)), (.int (8482818 : Int32)), (.int (8482818 : Int32)), (.int (8482818 : Int32)), (.int (8482818 : Int32)), (.int (8482818 : Int32)), (.int (8482818 : Int32)), (.int (102592514 : Int32))]

def oWs (c : Int32) : Bool := (!decide (c < (9 : Int32)) && !decide ((13 : Int32) < c)) || (!decide (c < (28 : Int32)) && !decide ((32 : Int32) < c))
def oRg (c : Int32) : Prop := ¬ c < 0 ∧ ¬ (255 : Int32) < c
theorem own_fin {P : Int32 → Prop} (h : ∀ k : Fin 256, P (Int32.ofNat k.val)) (c : Int32) (hr : oRg c) : P c := by
  have h1 := hr.1
  have h2 := hr.2
  rw [Int32.lt_iff_toInt_lt] at h1 h2
  have e1 : (0 : Int32).toInt = 0 := by decide
  have e2 : (255 : Int32).toInt = 255 := by decide
  have hk : c.toInt.toNat < 256 := by omega
  have e : Int32.ofNat c.toInt.toNat = c := by
    apply Int32.toInt_inj.mp
    rw [Int32.toInt_ofNat_small (by omega)]
    omega
  exact e ▸ h ⟨c.toInt.toNat, hk⟩
theorem own_byte (c : Int32) (hr : oRg c) : nar .char (((c.toInt8.toInt32) &&& (255 : Int32)).toUInt32.toUInt16.toUInt32.toInt32) = c := own_fin (P := fun c => nar .char (((c.toInt8.toInt32) &&& (255 : Int32)).toUInt32.toUInt16.toUInt32.toInt32) = c) (by decide +kernel) c hr
theorem own_nar (c : Int32) (hr : oRg c) : nar .char c = c := own_fin (P := fun c => nar .char c = c) (by decide +kernel) c hr
theorem own_i2c (c : Int32) (hr : oRg c) : (c.toUInt32.toUInt16.toUInt32.toInt32) = c := own_fin (P := fun c => (c.toUInt32.toUInt16.toUInt32.toInt32) = c) (by decide +kernel) c hr
def oProp (c : Int32) : Int32 := match oTab.getD c.toNatClampNeg (.int 0) with | .int z => z | _ => 0
theorem own_at (c : Int32) (hr : oRg c) : oTab.getD c.toNatClampNeg (.int (0 : Int32)) = .int (oProp c) := own_fin (P := fun c => oTab.getD c.toNatClampNeg (.int (0 : Int32)) = .int (oProp c)) (by decide +kernel) c hr
theorem own_prop (c : Int32) (hr : oRg c) : decide (((oProp c) &&& (28672 : Int32)) = (16384 : Int32)) = oWs c := own_fin (P := fun c => decide (((oProp c) &&& (28672 : Int32)) = (16384 : Int32)) = oWs c) (by decide +kernel) c hr
theorem own_propW {c : Int32} (hr : oRg c) (h : oWs c = true) : ((oProp c) &&& (28672 : Int32)) = (16384 : Int32) := of_decide_eq_true ((own_prop c hr).trans h)
theorem own_propN {c : Int32} (hr : oRg c) (h : oWs c = false) : ¬ ((oProp c) &&& (28672 : Int32)) = (16384 : Int32) := of_decide_eq_false ((own_prop c hr).trans h)
theorem own_n32 {c : Int32} (h : oWs c = false) : ¬ c = (32 : Int32) := fun q => by rw [q] at h; exact absurd h (by decide)
theorem own_n9 {c : Int32} (h : oWs c = false) : ¬ c = (9 : Int32) := fun q => by rw [q] at h; exact absurd h (by decide)
theorem own_256 {c : Int32} (hr : oRg c) : ¬ c < 0 ∧ c < (256 : Int32) := by
  refine ⟨hr.1, ?_⟩
  have h2 := hr.2
  rw [Int32.lt_iff_toInt_lt] at *
  have e2 : (255 : Int32).toInt = 255 := by decide
  have e3 : (256 : Int32).toInt = 256 := by decide
  omega
theorem own_rg (x : Int32) : oRg ((x &&& (255 : Int32)).toUInt32.toUInt16.toUInt32.toInt32) := by
  have t : ∀ k : Fin 256, ¬ ((Int32.ofNat k.val).toUInt32.toUInt16.toUInt32.toInt32) < 0 ∧ ¬ (255 : Int32) < ((Int32.ofNat k.val).toUInt32.toUInt16.toUInt32.toInt32) := by decide +kernel
  have h : (x &&& 255).toBitVec.toNat < 256 := by
    simp only [Int32.toBitVec_and, BitVec.toNat_and]
    exact Nat.lt_succ_of_le Nat.and_le_right
  have e : (x &&& 255) = Int32.ofNat (x &&& 255).toBitVec.toNat := by
    apply Int32.toBitVec_inj.mp
    show _ = BitVec.ofNat 32 _
    rw [BitVec.ofNat_toNat]; simp
  rw [e]
  exact t ⟨_, h⟩
def oS (Z : State) (h : Heap) (a : Addr) (bl : Bool) : Prop := Exa Z h a "java/lang/String" ∧ Fld Z h a "java/lang/String" "coder" "B" (.int (0 : Int32)) ∧ ∃ (t : Addr) (kb : ClassId), Fld Z h a "java/lang/String" "value" "[B" (.ref t) ∧
  ((Arv Z h t kb .byte (0 : Int32) [] (.int (0 : Int32)) ∧ bl = true) ∨ (∃ c, oRg c ∧ Arv Z h t kb .byte (1 : Int32) [(.int (c.toInt8.toInt32))] (.int (0 : Int32)) ∧ bl = oWs c) ∨ (∃ c d, oRg c ∧ oRg d ∧ Arv Z h t kb .byte (2 : Int32) [(.int (c.toInt8.toInt32)), (.int (d.toInt8.toInt32))] (.int (0 : Int32)) ∧ bl = (oWs c && oWs d)))
theorem oS.lt {Z : State} {h : Heap} {a : Addr} {bl : Bool} (F : oS Z h a bl) : a < h.size := F.1.lt
theorem oS.ext {Z : State} {h h' : Heap} {a : Addr} {bl : Bool} (F : oS Z h a bl) (E : Ext h h') : oS Z h' a bl := by
  obtain ⟨A, C, t, kb, V, R⟩ := F
  refine ⟨A.ext E, C.ext E, t, kb, V.ext E, ?_⟩
  rcases R with ⟨B, r⟩ | ⟨c, hc, B, r⟩ | ⟨c, d, hc, hd, B, r⟩
  · exact Or.inl ⟨B.ext E, r⟩
  · exact Or.inr (Or.inl ⟨c, hc, B.ext E, r⟩)
  · exact Or.inr (Or.inr ⟨c, d, hc, hd, B.ext E, r⟩)
theorem oS.keep0 {Z : State} {h h' : Heap} {a : Addr} {bl : Bool} (F : oS Z h a bl) (K : Keep h h' []) : oS Z h' a bl := by
  obtain ⟨A, C, t, kb, V, R⟩ := F
  refine ⟨A.keep K, C.keep K nin0, t, kb, V.keep K nin0, ?_⟩
  rcases R with ⟨B, r⟩ | ⟨c, hc, B, r⟩ | ⟨c, d, hc, hd, B, r⟩
  · exact Or.inl ⟨B.keep K nin0, r⟩
  · exact Or.inr (Or.inl ⟨c, hc, B.keep K nin0, r⟩)
  · exact Or.inr (Or.inr ⟨c, d, hc, hd, B.keep K nin0, r⟩)
theorem oS.keepX {Z : State} {a0 : Array Value} {h h' : Heap} {a x : Addr} {bl : Bool} {C : String} {n : Nat} (F : oS Z h a bl) (K : Keep h h' [x]) (E : Exa Z h x C) (hC : C ≠ "java/lang/String") (wi : (Jvm.Cond.instantiable C n).before a0 Z = true) : oS Z h' a bl := by
  obtain ⟨A, Cc, t, kb, V, R⟩ := F
  have n1 : a ∉ [x] := ninS (Ne.symm (ne_exa E A hC)) nin0
  refine ⟨A.keep K, Cc.keep K n1, t, kb, V.keep K n1, ?_⟩
  rcases R with ⟨B, r⟩ | ⟨c, hc, B, r⟩ | ⟨c, d, hc, hd, B, r⟩
  · exact Or.inl ⟨B.keep K (ninS (Ne.symm (E.neArv B wi)) nin0), r⟩
  · exact Or.inr (Or.inl ⟨c, hc, B.keep K (ninS (Ne.symm (E.neArv B wi)) nin0), r⟩)
  · exact Or.inr (Or.inr ⟨c, d, hc, hd, B.keep K (ninS (Ne.symm (E.neArv B wi)) nin0), r⟩)

def St0 (Z : State) (w_instance : Addr) (w_A : Addr) (c_A : Cell) (zc : Int32) : Prop := Sta Z Z.heap "java/lang/CharacterDataLatin1" "instance" "Ljava/lang/CharacterDataLatin1;" (.ref w_instance) ∧ Exa Z Z.heap w_instance "java/lang/CharacterDataLatin1" ∧ Sta Z Z.heap "java/lang/CharacterDataLatin1" "A" "[I" (.ref w_A) ∧ Exa Z Z.heap w_A "[I" ∧ Arv Z Z.heap w_A c_A.cls .int (256 : Int32) oTab (.int (0 : Int32)) ∧ Sta Z Z.heap "java/lang/String" "COMPACT_STRINGS" "Z" (.int zc) ∧ ¬ (zc = (0 : Int32))

def oEL : List (String × Nat) := [("java/lang/String", 7)]
theorem own_EW {Z : State} {a0 : Array Value} (hw : ∀ d ∈ tables_1, d.before a0 Z = true) : EW Z a0 oEL := (EW.cons (ow hw 18 rfl) (by decide) EW.nil)
theorem own_atoms : ∀ d ∈ Bundle.stringAtoms, d ∈ tables_1 := by decide +kernel

theorem d9_0 : decode jdk_42_method_154_code 0 = .ok (.getstatic 38, 3) := by decide +kernel
theorem d9_3 : decode jdk_42_method_154_code 3 = .ok (.ifCond .eq 14, 3) := by decide +kernel
theorem d9_6 : decode jdk_42_method_154_code 6 = .ok (.aload_n 0, 1) := by decide +kernel
theorem d9_7 : decode jdk_42_method_154_code 7 = .ok (.getfield 15, 3) := by decide +kernel
theorem d9_10 : decode jdk_42_method_154_code 10 = .ok (.ifCond .ne 7, 3) := by decide +kernel
theorem d9_13 : decode jdk_42_method_154_code 13 = .ok (.iconst 1, 1) := by decide +kernel
theorem d9_14 : decode jdk_42_method_154_code 14 = .ok (.goto 4, 3) := by decide +kernel
theorem d9_18 : decode jdk_42_method_154_code 18 = .ok (.ireturn, 1) := by decide +kernel
def Q_rm_lat (Z : State) (w_instance : Addr) (w_A : Addr) (c_A : Cell) (zc : Int32) (a : Addr) (h0 : Heap) (n0 : Nat) (v : Option Value) (h : Heap) (L : List Loc) : Prop := v = some (.int (1 : Int32)) ∧ Fr n0 L ∧ h = h0
set_option maxRecDepth 65536 in
set_option maxHeartbeats 40000000 in
theorem rm_lat (l : Launch) (Z : State) (a0 : Array Value) (hw : ∀ d ∈ tables_1, d.before a0 Z = true) (ws : List Jvm.Cond) (w_instance : Addr) (w_A : Addr) (c_A : Cell) (zc : Int32) (a : Addr) (h0 : Heap) (n0 : Nat) (O0 : Old Z n0 h0) (hS : St0 Z w_instance w_A c_A zc ) (F_c : Fld Z h0 a "java/lang/String" "coder" "B" (.int (0 : Int32))) :
    MetFree l (⟨"java/lang/String", "isLatin1", "()Z"⟩ : MethodName) (head1 (Jvm.Cond.code (⟨"java/lang/String", "isLatin1", "()Z"⟩ : MethodName) jdk_42_method_154_code 1 (some .boolean) :: ws) ({ frames := 0, cells := 0, slots := 0, locals := 0 } : Room)) (fun aG UG => aG = #[(.ref a)] ∧ Z.Warmed39 UG.vm ∧ UG.heap = h0) (fun _ _ _ _ _ => True) (fun _ UG oG UG' => ∃ vG LG, oG = .returned vG ∧ Q_rm_lat Z w_instance w_A c_A zc a h0 n0 vG UG'.heap LG ∧ FrameEnd UG oG UG' LG ({ frames := 0, cells := 0, slots := 0, locals := 0 } : Room).cells ({ frames := 0, cells := 0, slots := 0, locals := 0 } : Room).slots) := by
  refine MetFree.of_bodySF (plainFor_of_name pn_0) hisR ?_
  intro pG eG sG mG rG bG fG cG s₁ Bd hml0 hP hK
  obtain ⟨rfl, hZ, hh⟩ := hP
  have hx := Bd.exec
  have yb := Bd.bytes
  have hml : cG.maxLocals = 1 := hml0
  have hown : sG.vm.findClass "java/lang/String" = some mG.cls := findClass_of_methodNamed Bd.named
  have hnm := (name_of_methodNamed Bd.named Bd.method).1
  have X0 : Stand pG l eG ({ frames := 0, cells := 0, slots := 0, locals := 0 } : Room) sG mG #[(.ref a)] bG fG cG s₁ [] 0 0 := Stand.of_body Bd
  have e0 : s₁.heap = h0 := by rw [← hh, Bd.state]; rfl
  have N0 := Fr.nil n0
  have K0 := Keep.refl h0 []
  obtain ⟨S_w_instance, E_w_instance, S_w_A, E_w_A, V_w_A, S_zc, hzc⟩ := (id hS : St0 Z w_instance w_A c_A zc )
  refine ostart (g' := (mkF mG 0 #[oa a] [])) (by first | (simp [entryFrame, mkF, argsToLocals, Value.category]; done) | rfl) ?_
  obtain ⟨T1, X1, e1, st1⟩ := getS2 X0 hx hZ hown (host := "") (Or.inl (ow hw 53 rfl)) Via.refl e0 (S_zc.ext O0.2) (g := (mkF mG 0 #[oa a] [])) rfl (hb yb d9_0)
  refine ob T1 (mkF mG 3 #[oa a] [(.int zc)]) (fun _ kk => st1 _ kk) ?_
  refine ob T1 (mkF mG 6 #[oa a] []) (fun _ kk => XS.ifNo X1.here hx rfl (hb yb d9_3) rfl ((if0 _ _).trans (feq hzc).1) kk) ?_
  refine ob T1 (mkF mG 7 #[oa a] [(.ref a)]) (fun _ kk => XS.aloadN X1.here hx rfl (hb yb d9_6) rfl rfl kk) ?_
  obtain ⟨T2, X2, e2, st2⟩ := getF X1 hx hZ hown (host := "") (Or.inl (ow hw 25 rfl)) Via.refl e1 F_c (g := (mkF mG 7 #[oa a] [(.ref a)])) rfl rfl (hb yb d9_7)
  refine ob T2 (mkF mG 10 #[oa a] [(.int (0 : Int32))]) (fun _ kk => st2 _ kk) ?_
  refine ob T2 (mkF mG 13 #[oa a] []) (fun _ kk => XS.ifNo X2.here hx rfl (hb yb d9_10) rfl ((if0 _ _).trans (teq (by decide : (0 : Int32) = (0 : Int32))).2) kk) ?_
  refine ob T2 (mkF mG 14 #[oa a] [(.int (1 : Int32))]) (fun _ kk => XS.iconst X2.here hx rfl (hb yb d9_13) kk) ?_
  refine ob T2 (mkF mG 18 #[oa a] [(.int (1 : Int32))]) (fun _ kk => XS.goto X2.here hx rfl (pc0 := 14) (pc' := 18) rfl (hb yb d9_14) (by decide) (by decide) kk) ?_
  obtain ⟨fs, hr, hrun, hended, hW, hsame⟩ := X2.leave (v := some (.int (1 : Int32))) (fun h => by rw [Bd.returns] at h; cases h)
  refine oout (retN X2 hx (t := .boolean) Bd.returns (by simp) (hb yb d9_18) hr) hrun hended ⟨_, _, rfl, ?_, ⟨_, rfl⟩, hW, hsame.mono (by decide) (by decide)⟩
  show Q_rm_lat Z w_instance w_A c_A zc a h0 n0 _ T2.heap _
  rw [e2]
  exact ⟨rfl, N0, rfl⟩

theorem d12_0 : decode jdk_42_method_152_code 0 = .ok (.getstatic 38, 3) := by decide +kernel
theorem d12_3 : decode jdk_42_method_152_code 3 = .ok (.ifCond .eq 10, 3) := by decide +kernel
theorem d12_6 : decode jdk_42_method_152_code 6 = .ok (.aload_n 0, 1) := by decide +kernel
theorem d12_7 : decode jdk_42_method_152_code 7 = .ok (.getfield 15, 3) := by decide +kernel
theorem d12_10 : decode jdk_42_method_152_code 10 = .ok (.goto 4, 3) := by decide +kernel
theorem d12_14 : decode jdk_42_method_152_code 14 = .ok (.ireturn, 1) := by decide +kernel
def Q_rm_cod (Z : State) (w_instance : Addr) (w_A : Addr) (c_A : Cell) (zc : Int32) (a : Addr) (h0 : Heap) (n0 : Nat) (v : Option Value) (h : Heap) (L : List Loc) : Prop := v = some (.int (0 : Int32)) ∧ Fr n0 L ∧ h = h0
set_option maxRecDepth 65536 in
set_option maxHeartbeats 40000000 in
theorem rm_cod (l : Launch) (Z : State) (a0 : Array Value) (hw : ∀ d ∈ tables_1, d.before a0 Z = true) (ws : List Jvm.Cond) (w_instance : Addr) (w_A : Addr) (c_A : Cell) (zc : Int32) (a : Addr) (h0 : Heap) (n0 : Nat) (O0 : Old Z n0 h0) (hS : St0 Z w_instance w_A c_A zc ) (F_c : Fld Z h0 a "java/lang/String" "coder" "B" (.int (0 : Int32))) :
    MetFree l (⟨"java/lang/String", "coder", "()B"⟩ : MethodName) (head1 (Jvm.Cond.code (⟨"java/lang/String", "coder", "()B"⟩ : MethodName) jdk_42_method_152_code 1 (some .byte) :: ws) ({ frames := 0, cells := 0, slots := 0, locals := 0 } : Room)) (fun aG UG => aG = #[(.ref a)] ∧ Z.Warmed39 UG.vm ∧ UG.heap = h0) (fun _ _ _ _ _ => True) (fun _ UG oG UG' => ∃ vG LG, oG = .returned vG ∧ Q_rm_cod Z w_instance w_A c_A zc a h0 n0 vG UG'.heap LG ∧ FrameEnd UG oG UG' LG ({ frames := 0, cells := 0, slots := 0, locals := 0 } : Room).cells ({ frames := 0, cells := 0, slots := 0, locals := 0 } : Room).slots) := by
  refine MetFree.of_bodySF (plainFor_of_name pn_0) hisR ?_
  intro pG eG sG mG rG bG fG cG s₁ Bd hml0 hP hK
  obtain ⟨rfl, hZ, hh⟩ := hP
  have hx := Bd.exec
  have yb := Bd.bytes
  have hml : cG.maxLocals = 1 := hml0
  have hown : sG.vm.findClass "java/lang/String" = some mG.cls := findClass_of_methodNamed Bd.named
  have hnm := (name_of_methodNamed Bd.named Bd.method).1
  have X0 : Stand pG l eG ({ frames := 0, cells := 0, slots := 0, locals := 0 } : Room) sG mG #[(.ref a)] bG fG cG s₁ [] 0 0 := Stand.of_body Bd
  have e0 : s₁.heap = h0 := by rw [← hh, Bd.state]; rfl
  have N0 := Fr.nil n0
  have K0 := Keep.refl h0 []
  obtain ⟨S_w_instance, E_w_instance, S_w_A, E_w_A, V_w_A, S_zc, hzc⟩ := (id hS : St0 Z w_instance w_A c_A zc )
  refine ostart (g' := (mkF mG 0 #[oa a] [])) (by first | (simp [entryFrame, mkF, argsToLocals, Value.category]; done) | rfl) ?_
  obtain ⟨T1, X1, e1, st1⟩ := getS2 X0 hx hZ hown (host := "") (Or.inl (ow hw 53 rfl)) Via.refl e0 (S_zc.ext O0.2) (g := (mkF mG 0 #[oa a] [])) rfl (hb yb d12_0)
  refine ob T1 (mkF mG 3 #[oa a] [(.int zc)]) (fun _ kk => st1 _ kk) ?_
  refine ob T1 (mkF mG 6 #[oa a] []) (fun _ kk => XS.ifNo X1.here hx rfl (hb yb d12_3) rfl ((if0 _ _).trans (feq hzc).1) kk) ?_
  refine ob T1 (mkF mG 7 #[oa a] [(.ref a)]) (fun _ kk => XS.aloadN X1.here hx rfl (hb yb d12_6) rfl rfl kk) ?_
  obtain ⟨T2, X2, e2, st2⟩ := getF X1 hx hZ hown (host := "") (Or.inl (ow hw 25 rfl)) Via.refl e1 F_c (g := (mkF mG 7 #[oa a] [(.ref a)])) rfl rfl (hb yb d12_7)
  refine ob T2 (mkF mG 10 #[oa a] [(.int (0 : Int32))]) (fun _ kk => st2 _ kk) ?_
  refine ob T2 (mkF mG 14 #[oa a] [(.int (0 : Int32))]) (fun _ kk => XS.goto X2.here hx rfl (pc0 := 10) (pc' := 14) rfl (hb yb d12_10) (by decide) (by decide) kk) ?_
  obtain ⟨fs, hr, hrun, hended, hW, hsame⟩ := X2.leave (v := some (.int (0 : Int32))) (fun h => by rw [Bd.returns] at h; cases h)
  refine oout (retN X2 hx (t := .byte) Bd.returns (by simp) (hb yb d12_14) hr) hrun hended ⟨_, _, rfl, ?_, ⟨_, rfl⟩, hW, hsame.mono (by decide) (by decide)⟩
  show Q_rm_cod Z w_instance w_A c_A zc a h0 n0 _ T2.heap _
  rw [e2]
  exact ⟨rfl, N0, rfl⟩

theorem d11_0 : decode jdk_42_method_54_code 0 = .ok (.aload_n 0, 1) := by decide +kernel
theorem d11_1 : decode jdk_42_method_54_code 1 = .ok (.getfield 9, 3) := by decide +kernel
theorem d11_4 : decode jdk_42_method_54_code 4 = .ok (.arraylength, 1) := by decide +kernel
theorem d11_5 : decode jdk_42_method_54_code 5 = .ok (.aload_n 0, 1) := by decide +kernel
theorem d11_6 : decode jdk_42_method_54_code 6 = .ok (.invokevirtual 335, 3) := by decide +kernel
theorem d11_9 : decode jdk_42_method_54_code 9 = .ok (.ishr, 1) := by decide +kernel
theorem d11_10 : decode jdk_42_method_54_code 10 = .ok (.ireturn, 1) := by decide +kernel
theorem pd_0 : parseMethodDescriptor "()B" = some ⟨[], some .byte⟩ := by decide +kernel
def Q_rm_len0 (Z : State) (w_instance : Addr) (w_A : Addr) (c_A : Cell) (zc : Int32) (a : Addr) (t : Addr) (kb : ClassId) (h0 : Heap) (n0 : Nat) (v : Option Value) (h : Heap) (L : List Loc) : Prop := v = some (.int (0 : Int32)) ∧ Fr n0 L ∧ h = h0
set_option maxRecDepth 65536 in
set_option maxHeartbeats 40000000 in
theorem rm_len0 (l : Launch) (Z : State) (a0 : Array Value) (hw : ∀ d ∈ tables_1, d.before a0 Z = true) (ws : List Jvm.Cond) (w_instance : Addr) (w_A : Addr) (c_A : Cell) (zc : Int32) (a : Addr) (t : Addr) (kb : ClassId) (h0 : Heap) (n0 : Nat) (O0 : Old Z n0 h0) (hS : St0 Z w_instance w_A c_A zc ) (E_a : Exa Z h0 a "java/lang/String") (F_c : Fld Z h0 a "java/lang/String" "coder" "B" (.int (0 : Int32))) (F_v : Fld Z h0 a "java/lang/String" "value" "[B" (.ref t)) (V_t : Arv Z h0 t kb .byte (0 : Int32) [] (.int (0 : Int32))) :
    MetFree l (⟨"java/lang/String", "length", "()I"⟩ : MethodName) (head1 (Jvm.Cond.code (⟨"java/lang/String", "length", "()I"⟩ : MethodName) jdk_42_method_54_code 1 (some .int) :: ws) ({ frames := 1, cells := 0, slots := 0, locals := 13 } : Room)) (fun aG UG => aG = #[(.ref a)] ∧ Z.Warmed39 UG.vm ∧ UG.heap = h0) (fun _ _ _ _ _ => True) (fun _ UG oG UG' => ∃ vG LG, oG = .returned vG ∧ Q_rm_len0 Z w_instance w_A c_A zc a t kb h0 n0 vG UG'.heap LG ∧ FrameEnd UG oG UG' LG ({ frames := 1, cells := 0, slots := 0, locals := 13 } : Room).cells ({ frames := 1, cells := 0, slots := 0, locals := 13 } : Room).slots) := by
  refine MetFree.of_bodySF (plainFor_of_name pn_0) hisR ?_
  intro pG eG sG mG rG bG fG cG s₁ Bd hml0 hP hK
  obtain ⟨rfl, hZ, hh⟩ := hP
  have hx := Bd.exec
  have yb := Bd.bytes
  have hml : cG.maxLocals = 1 := hml0
  have hown : sG.vm.findClass "java/lang/String" = some mG.cls := findClass_of_methodNamed Bd.named
  have hnm := (name_of_methodNamed Bd.named Bd.method).1
  have X0 : Stand pG l eG ({ frames := 1, cells := 0, slots := 0, locals := 13 } : Room) sG mG #[(.ref a)] bG fG cG s₁ [] 0 0 := Stand.of_body Bd
  have e0 : s₁.heap = h0 := by rw [← hh, Bd.state]; rfl
  have N0 := Fr.nil n0
  have K0 := Keep.refl h0 []
  obtain ⟨S_w_instance, E_w_instance, S_w_A, E_w_A, V_w_A, S_zc, hzc⟩ := (id hS : St0 Z w_instance w_A c_A zc )
  refine ostart (g' := (mkF mG 0 #[oa a] [])) (by first | (simp [entryFrame, mkF, argsToLocals, Value.category]; done) | rfl) ?_
  refine ob s₁ (mkF mG 1 #[oa a] [(.ref a)]) (fun _ kk => XS.aloadN X0.here hx rfl (hb yb d11_0) rfl rfl kk) ?_
  obtain ⟨T1, X1, e1, st1⟩ := getF X0 hx hZ hown (host := "") (Or.inl (ow hw 24 rfl)) Via.refl e0 F_v (g := (mkF mG 1 #[oa a] [(.ref a)])) rfl rfl (hb yb d11_1)
  refine ob T1 (mkF mG 4 #[oa a] [(.ref t)]) (fun _ kk => st1 _ kk) ?_
  obtain ⟨cl2, Ar2, -, S2, N2a, -, -⟩ := id V_t
  refine oby (T' := T1) (g' := (mkF mG 5 #[oa a] [(.int (0 : Int32))])) (fun ot ok => X1.arraylength hx (by rw [e1]; exact Ar2.1) (State.isArrayOf_alike hZ.alike Ar2.2.1) (g := (mkF mG 4 #[oa a] [(.ref t)])) rfl rfl (hb yb d11_4) _ (by rw [len_of S2 N2a]; exact ok)) ?_
  refine ob T1 (mkF mG 6 #[oa a] [(.ref a), (.int (0 : Int32))]) (fun _ kk => XS.aloadN X1.here hx rfl (hb yb d11_5) rfl rfl kk) ?_
  obtain ⟨cq3, kq3, q3a, q3b, q3c⟩ := isOf hZ e1 E_a
  obtain ⟨_, _, ⟨T3, L3, k3, n3⟩, -, X3, ⟨Lc3, hQ3, l3, y3, z3⟩, st3⟩ := X1.virtualBack hx (y := (⟨"java/lang/String", "coder", "()B"⟩ : MethodName)) (z := (⟨"java/lang/String", "coder", "()B"⟩ : MethodName)) hown (mvT hZ (ow hw 63 rfl)) (mvT hZ (ow hw 64 rfl)) (notFace_of_selects (args := #[]) (mvT hZ (ow hw 66 rfl))) (mvT hZ (ow hw 66 rfl)) (mvT hZ (ow hw 65 rfl)) (by decide) (backOf (W := 1) (rm_cod l Z a0 hw [] w_instance w_A c_A zc a h0 n0 O0 hS F_c) hZ (ow hw 67 rfl) (ow hw 6 rfl) (by decide) (by decide)) q3a q3c (g := (mkF mG 6 #[oa a] [(.ref a), (.int (0 : Int32))])) rfl (by rw [hml]; rfl) (Steps.refl _) (argsL := []) (rest := [(.int (0 : Int32))]) (lenOf pd_0 rfl) rfl (by show 2 * 0 + _ ≤ _; exact Nat.le_of_eq rfl) (hb yb d11_6) (fun _ _ => ⟨rfl, e1, (by decide : 0 + 0 ≤ _), (by decide : 0 + 0 ≤ _)⟩)
  dsimp only [Pt.U, Pt.locs, Pt.cells, Pt.slots] at X3 l3 y3 z3 st3 hQ3
  subst l3 y3 z3
  obtain ⟨rfl, N3q, e3⟩ := hQ3
  have N3 := Fr.app N0 N3q
  refine ob T3 (mkF mG 9 #[oa a] [(.int (0 : Int32)), (.int (0 : Int32))]) (fun _ kk => st3.trans kk) ?_
  refine ob T3 (mkF mG 10 #[oa a] [(.int ((0 : Int32) >>> ((0 : Int32) &&& 31)))]) (fun _ kk => XS.ishr X3.here hx rfl (hb yb d11_9) rfl kk) ?_
  obtain ⟨fs, hr, hrun, hended, hW, hsame⟩ := X3.leave (v := some (.int ((0 : Int32) >>> ((0 : Int32) &&& 31)))) (fun h => by rw [Bd.returns] at h; cases h)
  refine oout (retOut X3 hx Bd.returns rfl (Or.inl ⟨rfl, Or.inl rfl, _, rfl⟩) (hb yb d11_10) hr) hrun hended ⟨_, _, rfl, ?_, ⟨_, rfl⟩, hW, hsame.mono (by decide) (by decide)⟩
  show Q_rm_len0 Z w_instance w_A c_A zc a t kb h0 n0 _ T3.heap _
  rw [e3]
  exact ⟨rfl, N3, rfl⟩

def Q_rm_len1 (Z : State) (w_instance : Addr) (w_A : Addr) (c_A : Cell) (zc : Int32) (a : Addr) (t : Addr) (kb : ClassId) (c : Int32) (h0 : Heap) (n0 : Nat) (v : Option Value) (h : Heap) (L : List Loc) : Prop := v = some (.int (1 : Int32)) ∧ Fr n0 L ∧ h = h0
set_option maxRecDepth 65536 in
set_option maxHeartbeats 40000000 in
theorem rm_len1 (l : Launch) (Z : State) (a0 : Array Value) (hw : ∀ d ∈ tables_1, d.before a0 Z = true) (ws : List Jvm.Cond) (w_instance : Addr) (w_A : Addr) (c_A : Cell) (zc : Int32) (a : Addr) (t : Addr) (kb : ClassId) (c : Int32) (h0 : Heap) (n0 : Nat) (O0 : Old Z n0 h0) (hS : St0 Z w_instance w_A c_A zc ) (E_a : Exa Z h0 a "java/lang/String") (F_c : Fld Z h0 a "java/lang/String" "coder" "B" (.int (0 : Int32))) (F_v : Fld Z h0 a "java/lang/String" "value" "[B" (.ref t)) (V_t : Arv Z h0 t kb .byte (1 : Int32) [(.int (c.toInt8.toInt32))] (.int (0 : Int32))) :
    MetFree l (⟨"java/lang/String", "length", "()I"⟩ : MethodName) (head1 (Jvm.Cond.code (⟨"java/lang/String", "length", "()I"⟩ : MethodName) jdk_42_method_54_code 1 (some .int) :: ws) ({ frames := 1, cells := 0, slots := 0, locals := 13 } : Room)) (fun aG UG => aG = #[(.ref a)] ∧ Z.Warmed39 UG.vm ∧ UG.heap = h0) (fun _ _ _ _ _ => True) (fun _ UG oG UG' => ∃ vG LG, oG = .returned vG ∧ Q_rm_len1 Z w_instance w_A c_A zc a t kb c h0 n0 vG UG'.heap LG ∧ FrameEnd UG oG UG' LG ({ frames := 1, cells := 0, slots := 0, locals := 13 } : Room).cells ({ frames := 1, cells := 0, slots := 0, locals := 13 } : Room).slots) := by
  refine MetFree.of_bodySF (plainFor_of_name pn_0) hisR ?_
  intro pG eG sG mG rG bG fG cG s₁ Bd hml0 hP hK
  obtain ⟨rfl, hZ, hh⟩ := hP
  have hx := Bd.exec
  have yb := Bd.bytes
  have hml : cG.maxLocals = 1 := hml0
  have hown : sG.vm.findClass "java/lang/String" = some mG.cls := findClass_of_methodNamed Bd.named
  have hnm := (name_of_methodNamed Bd.named Bd.method).1
  have X0 : Stand pG l eG ({ frames := 1, cells := 0, slots := 0, locals := 13 } : Room) sG mG #[(.ref a)] bG fG cG s₁ [] 0 0 := Stand.of_body Bd
  have e0 : s₁.heap = h0 := by rw [← hh, Bd.state]; rfl
  have N0 := Fr.nil n0
  have K0 := Keep.refl h0 []
  obtain ⟨S_w_instance, E_w_instance, S_w_A, E_w_A, V_w_A, S_zc, hzc⟩ := (id hS : St0 Z w_instance w_A c_A zc )
  refine ostart (g' := (mkF mG 0 #[oa a] [])) (by first | (simp [entryFrame, mkF, argsToLocals, Value.category]; done) | rfl) ?_
  refine ob s₁ (mkF mG 1 #[oa a] [(.ref a)]) (fun _ kk => XS.aloadN X0.here hx rfl (hb yb d11_0) rfl rfl kk) ?_
  obtain ⟨T1, X1, e1, st1⟩ := getF X0 hx hZ hown (host := "") (Or.inl (ow hw 24 rfl)) Via.refl e0 F_v (g := (mkF mG 1 #[oa a] [(.ref a)])) rfl rfl (hb yb d11_1)
  refine ob T1 (mkF mG 4 #[oa a] [(.ref t)]) (fun _ kk => st1 _ kk) ?_
  obtain ⟨cl2, Ar2, -, S2, N2a, -, -⟩ := id V_t
  refine oby (T' := T1) (g' := (mkF mG 5 #[oa a] [(.int (1 : Int32))])) (fun ot ok => X1.arraylength hx (by rw [e1]; exact Ar2.1) (State.isArrayOf_alike hZ.alike Ar2.2.1) (g := (mkF mG 4 #[oa a] [(.ref t)])) rfl rfl (hb yb d11_4) _ (by rw [len_of S2 N2a]; exact ok)) ?_
  refine ob T1 (mkF mG 6 #[oa a] [(.ref a), (.int (1 : Int32))]) (fun _ kk => XS.aloadN X1.here hx rfl (hb yb d11_5) rfl rfl kk) ?_
  obtain ⟨cq3, kq3, q3a, q3b, q3c⟩ := isOf hZ e1 E_a
  obtain ⟨_, _, ⟨T3, L3, k3, n3⟩, -, X3, ⟨Lc3, hQ3, l3, y3, z3⟩, st3⟩ := X1.virtualBack hx (y := (⟨"java/lang/String", "coder", "()B"⟩ : MethodName)) (z := (⟨"java/lang/String", "coder", "()B"⟩ : MethodName)) hown (mvT hZ (ow hw 63 rfl)) (mvT hZ (ow hw 64 rfl)) (notFace_of_selects (args := #[]) (mvT hZ (ow hw 66 rfl))) (mvT hZ (ow hw 66 rfl)) (mvT hZ (ow hw 65 rfl)) (by decide) (backOf (W := 1) (rm_cod l Z a0 hw [] w_instance w_A c_A zc a h0 n0 O0 hS F_c) hZ (ow hw 67 rfl) (ow hw 6 rfl) (by decide) (by decide)) q3a q3c (g := (mkF mG 6 #[oa a] [(.ref a), (.int (1 : Int32))])) rfl (by rw [hml]; rfl) (Steps.refl _) (argsL := []) (rest := [(.int (1 : Int32))]) (lenOf pd_0 rfl) rfl (by show 2 * 0 + _ ≤ _; exact Nat.le_of_eq rfl) (hb yb d11_6) (fun _ _ => ⟨rfl, e1, (by decide : 0 + 0 ≤ _), (by decide : 0 + 0 ≤ _)⟩)
  dsimp only [Pt.U, Pt.locs, Pt.cells, Pt.slots] at X3 l3 y3 z3 st3 hQ3
  subst l3 y3 z3
  obtain ⟨rfl, N3q, e3⟩ := hQ3
  have N3 := Fr.app N0 N3q
  refine ob T3 (mkF mG 9 #[oa a] [(.int (0 : Int32)), (.int (1 : Int32))]) (fun _ kk => st3.trans kk) ?_
  refine ob T3 (mkF mG 10 #[oa a] [(.int ((1 : Int32) >>> ((0 : Int32) &&& 31)))]) (fun _ kk => XS.ishr X3.here hx rfl (hb yb d11_9) rfl kk) ?_
  obtain ⟨fs, hr, hrun, hended, hW, hsame⟩ := X3.leave (v := some (.int ((1 : Int32) >>> ((0 : Int32) &&& 31)))) (fun h => by rw [Bd.returns] at h; cases h)
  refine oout (retOut X3 hx Bd.returns rfl (Or.inl ⟨rfl, Or.inl rfl, _, rfl⟩) (hb yb d11_10) hr) hrun hended ⟨_, _, rfl, ?_, ⟨_, rfl⟩, hW, hsame.mono (by decide) (by decide)⟩
  show Q_rm_len1 Z w_instance w_A c_A zc a t kb c h0 n0 _ T3.heap _
  rw [e3]
  exact ⟨rfl, N3, rfl⟩

def Q_rm_len2 (Z : State) (w_instance : Addr) (w_A : Addr) (c_A : Cell) (zc : Int32) (a : Addr) (t : Addr) (kb : ClassId) (c : Int32) (d : Int32) (h0 : Heap) (n0 : Nat) (v : Option Value) (h : Heap) (L : List Loc) : Prop := v = some (.int (2 : Int32)) ∧ Fr n0 L ∧ h = h0
set_option maxRecDepth 65536 in
set_option maxHeartbeats 40000000 in
theorem rm_len2 (l : Launch) (Z : State) (a0 : Array Value) (hw : ∀ d ∈ tables_1, d.before a0 Z = true) (ws : List Jvm.Cond) (w_instance : Addr) (w_A : Addr) (c_A : Cell) (zc : Int32) (a : Addr) (t : Addr) (kb : ClassId) (c : Int32) (d : Int32) (h0 : Heap) (n0 : Nat) (O0 : Old Z n0 h0) (hS : St0 Z w_instance w_A c_A zc ) (E_a : Exa Z h0 a "java/lang/String") (F_c : Fld Z h0 a "java/lang/String" "coder" "B" (.int (0 : Int32))) (F_v : Fld Z h0 a "java/lang/String" "value" "[B" (.ref t)) (V_t : Arv Z h0 t kb .byte (2 : Int32) [(.int (c.toInt8.toInt32)), (.int (d.toInt8.toInt32))] (.int (0 : Int32))) :
    MetFree l (⟨"java/lang/String", "length", "()I"⟩ : MethodName) (head1 (Jvm.Cond.code (⟨"java/lang/String", "length", "()I"⟩ : MethodName) jdk_42_method_54_code 1 (some .int) :: ws) ({ frames := 1, cells := 0, slots := 0, locals := 13 } : Room)) (fun aG UG => aG = #[(.ref a)] ∧ Z.Warmed39 UG.vm ∧ UG.heap = h0) (fun _ _ _ _ _ => True) (fun _ UG oG UG' => ∃ vG LG, oG = .returned vG ∧ Q_rm_len2 Z w_instance w_A c_A zc a t kb c d h0 n0 vG UG'.heap LG ∧ FrameEnd UG oG UG' LG ({ frames := 1, cells := 0, slots := 0, locals := 13 } : Room).cells ({ frames := 1, cells := 0, slots := 0, locals := 13 } : Room).slots) := by
  refine MetFree.of_bodySF (plainFor_of_name pn_0) hisR ?_
  intro pG eG sG mG rG bG fG cG s₁ Bd hml0 hP hK
  obtain ⟨rfl, hZ, hh⟩ := hP
  have hx := Bd.exec
  have yb := Bd.bytes
  have hml : cG.maxLocals = 1 := hml0
  have hown : sG.vm.findClass "java/lang/String" = some mG.cls := findClass_of_methodNamed Bd.named
  have hnm := (name_of_methodNamed Bd.named Bd.method).1
  have X0 : Stand pG l eG ({ frames := 1, cells := 0, slots := 0, locals := 13 } : Room) sG mG #[(.ref a)] bG fG cG s₁ [] 0 0 := Stand.of_body Bd
  have e0 : s₁.heap = h0 := by rw [← hh, Bd.state]; rfl
  have N0 := Fr.nil n0
  have K0 := Keep.refl h0 []
  obtain ⟨S_w_instance, E_w_instance, S_w_A, E_w_A, V_w_A, S_zc, hzc⟩ := (id hS : St0 Z w_instance w_A c_A zc )
  refine ostart (g' := (mkF mG 0 #[oa a] [])) (by first | (simp [entryFrame, mkF, argsToLocals, Value.category]; done) | rfl) ?_
  refine ob s₁ (mkF mG 1 #[oa a] [(.ref a)]) (fun _ kk => XS.aloadN X0.here hx rfl (hb yb d11_0) rfl rfl kk) ?_
  obtain ⟨T1, X1, e1, st1⟩ := getF X0 hx hZ hown (host := "") (Or.inl (ow hw 24 rfl)) Via.refl e0 F_v (g := (mkF mG 1 #[oa a] [(.ref a)])) rfl rfl (hb yb d11_1)
  refine ob T1 (mkF mG 4 #[oa a] [(.ref t)]) (fun _ kk => st1 _ kk) ?_
  obtain ⟨cl2, Ar2, -, S2, N2a, -, -⟩ := id V_t
  refine oby (T' := T1) (g' := (mkF mG 5 #[oa a] [(.int (2 : Int32))])) (fun ot ok => X1.arraylength hx (by rw [e1]; exact Ar2.1) (State.isArrayOf_alike hZ.alike Ar2.2.1) (g := (mkF mG 4 #[oa a] [(.ref t)])) rfl rfl (hb yb d11_4) _ (by rw [len_of S2 N2a]; exact ok)) ?_
  refine ob T1 (mkF mG 6 #[oa a] [(.ref a), (.int (2 : Int32))]) (fun _ kk => XS.aloadN X1.here hx rfl (hb yb d11_5) rfl rfl kk) ?_
  obtain ⟨cq3, kq3, q3a, q3b, q3c⟩ := isOf hZ e1 E_a
  obtain ⟨_, _, ⟨T3, L3, k3, n3⟩, -, X3, ⟨Lc3, hQ3, l3, y3, z3⟩, st3⟩ := X1.virtualBack hx (y := (⟨"java/lang/String", "coder", "()B"⟩ : MethodName)) (z := (⟨"java/lang/String", "coder", "()B"⟩ : MethodName)) hown (mvT hZ (ow hw 63 rfl)) (mvT hZ (ow hw 64 rfl)) (notFace_of_selects (args := #[]) (mvT hZ (ow hw 66 rfl))) (mvT hZ (ow hw 66 rfl)) (mvT hZ (ow hw 65 rfl)) (by decide) (backOf (W := 1) (rm_cod l Z a0 hw [] w_instance w_A c_A zc a h0 n0 O0 hS F_c) hZ (ow hw 67 rfl) (ow hw 6 rfl) (by decide) (by decide)) q3a q3c (g := (mkF mG 6 #[oa a] [(.ref a), (.int (2 : Int32))])) rfl (by rw [hml]; rfl) (Steps.refl _) (argsL := []) (rest := [(.int (2 : Int32))]) (lenOf pd_0 rfl) rfl (by show 2 * 0 + _ ≤ _; exact Nat.le_of_eq rfl) (hb yb d11_6) (fun _ _ => ⟨rfl, e1, (by decide : 0 + 0 ≤ _), (by decide : 0 + 0 ≤ _)⟩)
  dsimp only [Pt.U, Pt.locs, Pt.cells, Pt.slots] at X3 l3 y3 z3 st3 hQ3
  subst l3 y3 z3
  obtain ⟨rfl, N3q, e3⟩ := hQ3
  have N3 := Fr.app N0 N3q
  refine ob T3 (mkF mG 9 #[oa a] [(.int (0 : Int32)), (.int (2 : Int32))]) (fun _ kk => st3.trans kk) ?_
  refine ob T3 (mkF mG 10 #[oa a] [(.int ((2 : Int32) >>> ((0 : Int32) &&& 31)))]) (fun _ kk => XS.ishr X3.here hx rfl (hb yb d11_9) rfl kk) ?_
  obtain ⟨fs, hr, hrun, hended, hW, hsame⟩ := X3.leave (v := some (.int ((2 : Int32) >>> ((0 : Int32) &&& 31)))) (fun h => by rw [Bd.returns] at h; cases h)
  refine oout (retOut X3 hx Bd.returns rfl (Or.inl ⟨rfl, Or.inl rfl, _, rfl⟩) (hb yb d11_10) hr) hrun hended ⟨_, _, rfl, ?_, ⟨_, rfl⟩, hW, hsame.mono (by decide) (by decide)⟩
  show Q_rm_len2 Z w_instance w_A c_A zc a t kb c d h0 n0 _ T3.heap _
  rw [e3]
  exact ⟨rfl, N3, rfl⟩

theorem d18_0 : decode jdk_43_method_44_code 0 = .ok (.aload_n 0, 1) := by decide +kernel
theorem d18_1 : decode jdk_43_method_44_code 1 = .ok (.iload_n 1, 1) := by decide +kernel
theorem d18_2 : decode jdk_43_method_44_code 2 = .ok (.baload, 1) := by decide +kernel
theorem d18_3 : decode jdk_43_method_44_code 3 = .ok (.sipush 255, 3) := by decide +kernel
theorem d18_6 : decode jdk_43_method_44_code 6 = .ok (.iand, 1) := by decide +kernel
theorem d18_7 : decode jdk_43_method_44_code 7 = .ok (.i2c, 1) := by decide +kernel
theorem d18_8 : decode jdk_43_method_44_code 8 = .ok (.ireturn, 1) := by decide +kernel
def Q_rm_gc10 (Z : State) (w_instance : Addr) (w_A : Addr) (c_A : Cell) (zc : Int32) (t : Addr) (kb : ClassId) (c : Int32) (h0 : Heap) (n0 : Nat) (v : Option Value) (h : Heap) (L : List Loc) : Prop := v = some (.int c) ∧ Fr n0 L ∧ h = h0
set_option maxRecDepth 65536 in
set_option maxHeartbeats 40000000 in
theorem rm_gc10 (l : Launch) (Z : State) (a0 : Array Value) (hw : ∀ d ∈ tables_1, d.before a0 Z = true) (ws : List Jvm.Cond) (w_instance : Addr) (w_A : Addr) (c_A : Cell) (zc : Int32) (t : Addr) (kb : ClassId) (c : Int32) (h0 : Heap) (n0 : Nat) (O0 : Old Z n0 h0) (hS : St0 Z w_instance w_A c_A zc ) (V_t : Arv Z h0 t kb .byte (1 : Int32) [(.int (c.toInt8.toInt32))] (.int (0 : Int32))) (rc : oRg c) :
    MetFree l (⟨"java/lang/StringLatin1", "getChar", "([BI)C"⟩ : MethodName) (head1 (Jvm.Cond.code (⟨"java/lang/StringLatin1", "getChar", "([BI)C"⟩ : MethodName) jdk_43_method_44_code 2 (some .char) :: ws) ({ frames := 0, cells := 0, slots := 0, locals := 0 } : Room)) (fun aG UG => aG = #[(.ref t), (.int (0 : Int32))] ∧ Z.Warmed39 UG.vm ∧ UG.heap = h0) (fun _ _ _ _ _ => True) (fun _ UG oG UG' => ∃ vG LG, oG = .returned vG ∧ Q_rm_gc10 Z w_instance w_A c_A zc t kb c h0 n0 vG UG'.heap LG ∧ FrameEnd UG oG UG' LG ({ frames := 0, cells := 0, slots := 0, locals := 0 } : Room).cells ({ frames := 0, cells := 0, slots := 0, locals := 0 } : Room).slots) := by
  refine MetFree.of_bodySF (plainFor_of_name pn_1) hisR ?_
  intro pG eG sG mG rG bG fG cG s₁ Bd hml0 hP hK
  obtain ⟨rfl, hZ, hh⟩ := hP
  have hx := Bd.exec
  have yb := Bd.bytes
  have hml : cG.maxLocals = 2 := hml0
  have hown : sG.vm.findClass "java/lang/StringLatin1" = some mG.cls := findClass_of_methodNamed Bd.named
  have hnm := (name_of_methodNamed Bd.named Bd.method).1
  have X0 : Stand pG l eG ({ frames := 0, cells := 0, slots := 0, locals := 0 } : Room) sG mG #[(.ref t), (.int (0 : Int32))] bG fG cG s₁ [] 0 0 := Stand.of_body Bd
  have e0 : s₁.heap = h0 := by rw [← hh, Bd.state]; rfl
  have N0 := Fr.nil n0
  have K0 := Keep.refl h0 []
  obtain ⟨S_w_instance, E_w_instance, S_w_A, E_w_A, V_w_A, S_zc, hzc⟩ := (id hS : St0 Z w_instance w_A c_A zc )
  refine ostart (g' := (mkF mG 0 #[oa t, oi (0 : Int32)] [])) (by first | (simp [entryFrame, mkF, argsToLocals, Value.category]; done) | rfl) ?_
  refine ob s₁ (mkF mG 1 #[oa t, oi (0 : Int32)] [(.ref t)]) (fun _ kk => XS.aloadN X0.here hx rfl (hb yb d18_0) rfl rfl kk) ?_
  refine ob s₁ (mkF mG 2 #[oa t, oi (0 : Int32)] [(.int (0 : Int32)), (.ref t)]) (fun _ kk => XS.iloadN X0.here hx rfl (hb yb d18_1) rfl kk) ?_
  obtain ⟨cl1, Ar1, -, S1, N1a, H1, -⟩ := id V_t
  have hin1 : ¬ ((0 : Int32) < 0 ∨ cl1.slots.size ≤ ((0 : Int32)).toNatClampNeg) := inb_of S1 ⟨by decide, by decide⟩
  refine ob s₁ (mkF mG 3 #[oa t, oi (0 : Int32)] [(.int (c.toInt8.toInt32))]) (fun _ kk => X0.baloadBytes hx (j := (0 : Int32)) (v := (.int (c.toInt8.toInt32))) (by rw [e0]; exact Ar1.1) (State.isArrayOf_alike hZ.alike Ar1.2.1) Ar1.2.2 hin1 (Has.at H1 hin1 rfl) (g := (mkF mG 2 #[oa t, oi (0 : Int32)] [(.int (0 : Int32)), (.ref t)])) rfl rfl (hb yb d18_2) _ kk) ?_
  refine ob s₁ (mkF mG 6 #[oa t, oi (0 : Int32)] [(.int (255 : Int32)), (.int (c.toInt8.toInt32))]) (fun _ kk => XS.sipush X0.here hx rfl (hb yb d18_3) kk) ?_
  refine ob s₁ (mkF mG 7 #[oa t, oi (0 : Int32)] [(.int ((c.toInt8.toInt32) &&& (255 : Int32)))]) (fun _ kk => XS.iand X0.here hx rfl (hb yb d18_6) rfl kk) ?_
  refine ob s₁ (mkF mG 8 #[oa t, oi (0 : Int32)] [(.int (((c.toInt8.toInt32) &&& (255 : Int32)).toUInt32.toUInt16.toUInt32.toInt32))]) (fun _ kk => XS.i2c X0.here hx rfl (hb yb d18_7) rfl kk) ?_
  obtain ⟨fs, hr, hrun, hended, hW, hsame⟩ := X0.leave (v := some (.int (nar .char (((c.toInt8.toInt32) &&& (255 : Int32)).toUInt32.toUInt16.toUInt32.toInt32)))) (fun h => by rw [Bd.returns] at h; cases h)
  refine oout (retN X0 hx (t := .char) Bd.returns (by simp) (hb yb d18_8) hr) hrun hended ⟨_, _, rfl, ?_, ⟨_, rfl⟩, hW, hsame.mono (by decide) (by decide)⟩
  show Q_rm_gc10 Z w_instance w_A c_A zc t kb c h0 n0 _ s₁.heap _
  rw [e0]
  exact ⟨(congrArg (fun z => some (Value.int z)) (own_byte c rc)), N0, rfl⟩

def Q_rm_gc20 (Z : State) (w_instance : Addr) (w_A : Addr) (c_A : Cell) (zc : Int32) (t : Addr) (kb : ClassId) (c : Int32) (d : Int32) (h0 : Heap) (n0 : Nat) (v : Option Value) (h : Heap) (L : List Loc) : Prop := v = some (.int c) ∧ Fr n0 L ∧ h = h0
set_option maxRecDepth 65536 in
set_option maxHeartbeats 40000000 in
theorem rm_gc20 (l : Launch) (Z : State) (a0 : Array Value) (hw : ∀ d ∈ tables_1, d.before a0 Z = true) (ws : List Jvm.Cond) (w_instance : Addr) (w_A : Addr) (c_A : Cell) (zc : Int32) (t : Addr) (kb : ClassId) (c : Int32) (d : Int32) (h0 : Heap) (n0 : Nat) (O0 : Old Z n0 h0) (hS : St0 Z w_instance w_A c_A zc ) (V_t : Arv Z h0 t kb .byte (2 : Int32) [(.int (c.toInt8.toInt32)), (.int (d.toInt8.toInt32))] (.int (0 : Int32))) (rc : oRg c) :
    MetFree l (⟨"java/lang/StringLatin1", "getChar", "([BI)C"⟩ : MethodName) (head1 (Jvm.Cond.code (⟨"java/lang/StringLatin1", "getChar", "([BI)C"⟩ : MethodName) jdk_43_method_44_code 2 (some .char) :: ws) ({ frames := 0, cells := 0, slots := 0, locals := 0 } : Room)) (fun aG UG => aG = #[(.ref t), (.int (0 : Int32))] ∧ Z.Warmed39 UG.vm ∧ UG.heap = h0) (fun _ _ _ _ _ => True) (fun _ UG oG UG' => ∃ vG LG, oG = .returned vG ∧ Q_rm_gc20 Z w_instance w_A c_A zc t kb c d h0 n0 vG UG'.heap LG ∧ FrameEnd UG oG UG' LG ({ frames := 0, cells := 0, slots := 0, locals := 0 } : Room).cells ({ frames := 0, cells := 0, slots := 0, locals := 0 } : Room).slots) := by
  refine MetFree.of_bodySF (plainFor_of_name pn_1) hisR ?_
  intro pG eG sG mG rG bG fG cG s₁ Bd hml0 hP hK
  obtain ⟨rfl, hZ, hh⟩ := hP
  have hx := Bd.exec
  have yb := Bd.bytes
  have hml : cG.maxLocals = 2 := hml0
  have hown : sG.vm.findClass "java/lang/StringLatin1" = some mG.cls := findClass_of_methodNamed Bd.named
  have hnm := (name_of_methodNamed Bd.named Bd.method).1
  have X0 : Stand pG l eG ({ frames := 0, cells := 0, slots := 0, locals := 0 } : Room) sG mG #[(.ref t), (.int (0 : Int32))] bG fG cG s₁ [] 0 0 := Stand.of_body Bd
  have e0 : s₁.heap = h0 := by rw [← hh, Bd.state]; rfl
  have N0 := Fr.nil n0
  have K0 := Keep.refl h0 []
  obtain ⟨S_w_instance, E_w_instance, S_w_A, E_w_A, V_w_A, S_zc, hzc⟩ := (id hS : St0 Z w_instance w_A c_A zc )
  refine ostart (g' := (mkF mG 0 #[oa t, oi (0 : Int32)] [])) (by first | (simp [entryFrame, mkF, argsToLocals, Value.category]; done) | rfl) ?_
  refine ob s₁ (mkF mG 1 #[oa t, oi (0 : Int32)] [(.ref t)]) (fun _ kk => XS.aloadN X0.here hx rfl (hb yb d18_0) rfl rfl kk) ?_
  refine ob s₁ (mkF mG 2 #[oa t, oi (0 : Int32)] [(.int (0 : Int32)), (.ref t)]) (fun _ kk => XS.iloadN X0.here hx rfl (hb yb d18_1) rfl kk) ?_
  obtain ⟨cl1, Ar1, -, S1, N1a, H1, -⟩ := id V_t
  have hin1 : ¬ ((0 : Int32) < 0 ∨ cl1.slots.size ≤ ((0 : Int32)).toNatClampNeg) := inb_of S1 ⟨by decide, by decide⟩
  refine ob s₁ (mkF mG 3 #[oa t, oi (0 : Int32)] [(.int (c.toInt8.toInt32))]) (fun _ kk => X0.baloadBytes hx (j := (0 : Int32)) (v := (.int (c.toInt8.toInt32))) (by rw [e0]; exact Ar1.1) (State.isArrayOf_alike hZ.alike Ar1.2.1) Ar1.2.2 hin1 (Has.at H1 hin1 rfl) (g := (mkF mG 2 #[oa t, oi (0 : Int32)] [(.int (0 : Int32)), (.ref t)])) rfl rfl (hb yb d18_2) _ kk) ?_
  refine ob s₁ (mkF mG 6 #[oa t, oi (0 : Int32)] [(.int (255 : Int32)), (.int (c.toInt8.toInt32))]) (fun _ kk => XS.sipush X0.here hx rfl (hb yb d18_3) kk) ?_
  refine ob s₁ (mkF mG 7 #[oa t, oi (0 : Int32)] [(.int ((c.toInt8.toInt32) &&& (255 : Int32)))]) (fun _ kk => XS.iand X0.here hx rfl (hb yb d18_6) rfl kk) ?_
  refine ob s₁ (mkF mG 8 #[oa t, oi (0 : Int32)] [(.int (((c.toInt8.toInt32) &&& (255 : Int32)).toUInt32.toUInt16.toUInt32.toInt32))]) (fun _ kk => XS.i2c X0.here hx rfl (hb yb d18_7) rfl kk) ?_
  obtain ⟨fs, hr, hrun, hended, hW, hsame⟩ := X0.leave (v := some (.int (nar .char (((c.toInt8.toInt32) &&& (255 : Int32)).toUInt32.toUInt16.toUInt32.toInt32)))) (fun h => by rw [Bd.returns] at h; cases h)
  refine oout (retN X0 hx (t := .char) Bd.returns (by simp) (hb yb d18_8) hr) hrun hended ⟨_, _, rfl, ?_, ⟨_, rfl⟩, hW, hsame.mono (by decide) (by decide)⟩
  show Q_rm_gc20 Z w_instance w_A c_A zc t kb c d h0 n0 _ s₁.heap _
  rw [e0]
  exact ⟨(congrArg (fun z => some (Value.int z)) (own_byte c rc)), N0, rfl⟩

def Q_rm_gc21 (Z : State) (w_instance : Addr) (w_A : Addr) (c_A : Cell) (zc : Int32) (t : Addr) (kb : ClassId) (c : Int32) (d : Int32) (h0 : Heap) (n0 : Nat) (v : Option Value) (h : Heap) (L : List Loc) : Prop := v = some (.int d) ∧ Fr n0 L ∧ h = h0
set_option maxRecDepth 65536 in
set_option maxHeartbeats 40000000 in
theorem rm_gc21 (l : Launch) (Z : State) (a0 : Array Value) (hw : ∀ d ∈ tables_1, d.before a0 Z = true) (ws : List Jvm.Cond) (w_instance : Addr) (w_A : Addr) (c_A : Cell) (zc : Int32) (t : Addr) (kb : ClassId) (c : Int32) (d : Int32) (h0 : Heap) (n0 : Nat) (O0 : Old Z n0 h0) (hS : St0 Z w_instance w_A c_A zc ) (V_t : Arv Z h0 t kb .byte (2 : Int32) [(.int (c.toInt8.toInt32)), (.int (d.toInt8.toInt32))] (.int (0 : Int32))) (rd : oRg d) :
    MetFree l (⟨"java/lang/StringLatin1", "getChar", "([BI)C"⟩ : MethodName) (head1 (Jvm.Cond.code (⟨"java/lang/StringLatin1", "getChar", "([BI)C"⟩ : MethodName) jdk_43_method_44_code 2 (some .char) :: ws) ({ frames := 0, cells := 0, slots := 0, locals := 0 } : Room)) (fun aG UG => aG = #[(.ref t), (.int (1 : Int32))] ∧ Z.Warmed39 UG.vm ∧ UG.heap = h0) (fun _ _ _ _ _ => True) (fun _ UG oG UG' => ∃ vG LG, oG = .returned vG ∧ Q_rm_gc21 Z w_instance w_A c_A zc t kb c d h0 n0 vG UG'.heap LG ∧ FrameEnd UG oG UG' LG ({ frames := 0, cells := 0, slots := 0, locals := 0 } : Room).cells ({ frames := 0, cells := 0, slots := 0, locals := 0 } : Room).slots) := by
  refine MetFree.of_bodySF (plainFor_of_name pn_1) hisR ?_
  intro pG eG sG mG rG bG fG cG s₁ Bd hml0 hP hK
  obtain ⟨rfl, hZ, hh⟩ := hP
  have hx := Bd.exec
  have yb := Bd.bytes
  have hml : cG.maxLocals = 2 := hml0
  have hown : sG.vm.findClass "java/lang/StringLatin1" = some mG.cls := findClass_of_methodNamed Bd.named
  have hnm := (name_of_methodNamed Bd.named Bd.method).1
  have X0 : Stand pG l eG ({ frames := 0, cells := 0, slots := 0, locals := 0 } : Room) sG mG #[(.ref t), (.int (1 : Int32))] bG fG cG s₁ [] 0 0 := Stand.of_body Bd
  have e0 : s₁.heap = h0 := by rw [← hh, Bd.state]; rfl
  have N0 := Fr.nil n0
  have K0 := Keep.refl h0 []
  obtain ⟨S_w_instance, E_w_instance, S_w_A, E_w_A, V_w_A, S_zc, hzc⟩ := (id hS : St0 Z w_instance w_A c_A zc )
  refine ostart (g' := (mkF mG 0 #[oa t, oi (1 : Int32)] [])) (by first | (simp [entryFrame, mkF, argsToLocals, Value.category]; done) | rfl) ?_
  refine ob s₁ (mkF mG 1 #[oa t, oi (1 : Int32)] [(.ref t)]) (fun _ kk => XS.aloadN X0.here hx rfl (hb yb d18_0) rfl rfl kk) ?_
  refine ob s₁ (mkF mG 2 #[oa t, oi (1 : Int32)] [(.int (1 : Int32)), (.ref t)]) (fun _ kk => XS.iloadN X0.here hx rfl (hb yb d18_1) rfl kk) ?_
  obtain ⟨cl1, Ar1, -, S1, N1a, H1, -⟩ := id V_t
  have hin1 : ¬ ((1 : Int32) < 0 ∨ cl1.slots.size ≤ ((1 : Int32)).toNatClampNeg) := inb_of S1 ⟨by decide, by decide⟩
  refine ob s₁ (mkF mG 3 #[oa t, oi (1 : Int32)] [(.int (d.toInt8.toInt32))]) (fun _ kk => X0.baloadBytes hx (j := (1 : Int32)) (v := (.int (d.toInt8.toInt32))) (by rw [e0]; exact Ar1.1) (State.isArrayOf_alike hZ.alike Ar1.2.1) Ar1.2.2 hin1 (Has.at H1 hin1 rfl) (g := (mkF mG 2 #[oa t, oi (1 : Int32)] [(.int (1 : Int32)), (.ref t)])) rfl rfl (hb yb d18_2) _ kk) ?_
  refine ob s₁ (mkF mG 6 #[oa t, oi (1 : Int32)] [(.int (255 : Int32)), (.int (d.toInt8.toInt32))]) (fun _ kk => XS.sipush X0.here hx rfl (hb yb d18_3) kk) ?_
  refine ob s₁ (mkF mG 7 #[oa t, oi (1 : Int32)] [(.int ((d.toInt8.toInt32) &&& (255 : Int32)))]) (fun _ kk => XS.iand X0.here hx rfl (hb yb d18_6) rfl kk) ?_
  refine ob s₁ (mkF mG 8 #[oa t, oi (1 : Int32)] [(.int (((d.toInt8.toInt32) &&& (255 : Int32)).toUInt32.toUInt16.toUInt32.toInt32))]) (fun _ kk => XS.i2c X0.here hx rfl (hb yb d18_7) rfl kk) ?_
  obtain ⟨fs, hr, hrun, hended, hW, hsame⟩ := X0.leave (v := some (.int (nar .char (((d.toInt8.toInt32) &&& (255 : Int32)).toUInt32.toUInt16.toUInt32.toInt32)))) (fun h => by rw [Bd.returns] at h; cases h)
  refine oout (retN X0 hx (t := .char) Bd.returns (by simp) (hb yb d18_8) hr) hrun hended ⟨_, _, rfl, ?_, ⟨_, rfl⟩, hW, hsame.mono (by decide) (by decide)⟩
  show Q_rm_gc21 Z w_instance w_A c_A zc t kb c d h0 n0 _ s₁.heap _
  rw [e0]
  exact ⟨(congrArg (fun z => some (Value.int z)) (own_byte d rd)), N0, rfl⟩

theorem d20_0 : decode jdk_116_method_1_code 0 = .ok (.iload_n 1, 1) := by decide +kernel
theorem d20_1 : decode jdk_116_method_1_code 1 = .ok (.i2c, 1) := by decide +kernel
theorem d20_2 : decode jdk_116_method_1_code 2 = .ok (.istore_n 2, 1) := by decide +kernel
theorem d20_3 : decode jdk_116_method_1_code 3 = .ok (.getstatic 1, 3) := by decide +kernel
theorem d20_6 : decode jdk_116_method_1_code 6 = .ok (.iload_n 2, 1) := by decide +kernel
theorem d20_7 : decode jdk_116_method_1_code 7 = .ok (.iaload, 1) := by decide +kernel
theorem d20_8 : decode jdk_116_method_1_code 8 = .ok (.istore_n 3, 1) := by decide +kernel
theorem d20_9 : decode jdk_116_method_1_code 9 = .ok (.iload_n 3, 1) := by decide +kernel
theorem d20_10 : decode jdk_116_method_1_code 10 = .ok (.ireturn, 1) := by decide +kernel
def Q_rm_gp (Z : State) (w_instance : Addr) (w_A : Addr) (c_A : Cell) (zc : Int32) (c : Int32) (h0 : Heap) (n0 : Nat) (v : Option Value) (h : Heap) (L : List Loc) : Prop := v = some (.int (oProp c)) ∧ Fr n0 L ∧ h = h0
set_option maxRecDepth 65536 in
set_option maxHeartbeats 40000000 in
theorem rm_gp (l : Launch) (Z : State) (a0 : Array Value) (hw : ∀ d ∈ tables_1, d.before a0 Z = true) (ws : List Jvm.Cond) (w_instance : Addr) (w_A : Addr) (c_A : Cell) (zc : Int32) (c : Int32) (h0 : Heap) (n0 : Nat) (O0 : Old Z n0 h0) (hS : St0 Z w_instance w_A c_A zc ) (rc : oRg c) :
    MetFree l (⟨"java/lang/CharacterDataLatin1", "getProperties", "(I)I"⟩ : MethodName) (head1 (Jvm.Cond.code (⟨"java/lang/CharacterDataLatin1", "getProperties", "(I)I"⟩ : MethodName) jdk_116_method_1_code 4 (some .int) :: ws) ({ frames := 0, cells := 0, slots := 0, locals := 0 } : Room)) (fun aG UG => aG = #[(.ref w_instance), (.int c)] ∧ Z.Warmed39 UG.vm ∧ UG.heap = h0) (fun _ _ _ _ _ => True) (fun _ UG oG UG' => ∃ vG LG, oG = .returned vG ∧ Q_rm_gp Z w_instance w_A c_A zc c h0 n0 vG UG'.heap LG ∧ FrameEnd UG oG UG' LG ({ frames := 0, cells := 0, slots := 0, locals := 0 } : Room).cells ({ frames := 0, cells := 0, slots := 0, locals := 0 } : Room).slots) := by
  refine MetFree.of_bodySF (plainFor_of_name pn_2) hisR ?_
  intro pG eG sG mG rG bG fG cG s₁ Bd hml0 hP hK
  obtain ⟨rfl, hZ, hh⟩ := hP
  have hx := Bd.exec
  have yb := Bd.bytes
  have hml : cG.maxLocals = 4 := hml0
  have hown : sG.vm.findClass "java/lang/CharacterDataLatin1" = some mG.cls := findClass_of_methodNamed Bd.named
  have hnm := (name_of_methodNamed Bd.named Bd.method).1
  have X0 : Stand pG l eG ({ frames := 0, cells := 0, slots := 0, locals := 0 } : Room) sG mG #[(.ref w_instance), (.int c)] bG fG cG s₁ [] 0 0 := Stand.of_body Bd
  have e0 : s₁.heap = h0 := by rw [← hh, Bd.state]; rfl
  have N0 := Fr.nil n0
  have K0 := Keep.refl h0 []
  obtain ⟨S_w_instance, E_w_instance, S_w_A, E_w_A, V_w_A, S_zc, hzc⟩ := (id hS : St0 Z w_instance w_A c_A zc )
  refine ostart (g' := (mkF mG 0 #[oa w_instance, oi c, .unset, .unset] [])) (by first | (simp [entryFrame, mkF, argsToLocals, Value.category]; done) | rfl) ?_
  refine ob s₁ (mkF mG 1 #[oa w_instance, oi c, .unset, .unset] [(.int c)]) (fun _ kk => XS.iloadN X0.here hx rfl (hb yb d20_0) rfl kk) ?_
  refine ob s₁ (mkF mG 2 #[oa w_instance, oi c, .unset, .unset] [(.int (c.toUInt32.toUInt16.toUInt32.toInt32))]) (fun _ kk => XS.i2c X0.here hx rfl (hb yb d20_1) rfl kk) ?_
  refine ob s₁ (mkF mG 3 #[oa w_instance, oi c, oi (c.toUInt32.toUInt16.toUInt32.toInt32), .unset] []) (fun _ kk => XS.istoreN X0.here hx rfl (hb yb d20_2) rfl (l' := #[oa w_instance, oi c, oi (c.toUInt32.toUInt16.toUInt32.toInt32), .unset]) rfl kk) ?_
  obtain ⟨T1, X1, e1, st1⟩ := getS2 X0 hx hZ hown (host := "") (Or.inl (ow hw 103 rfl)) Via.refl e0 (S_w_A.ext O0.2) (g := (mkF mG 3 #[oa w_instance, oi c, oi (c.toUInt32.toUInt16.toUInt32.toInt32), .unset] [])) rfl (hb yb d20_3)
  refine ob T1 (mkF mG 6 #[oa w_instance, oi c, oi (c.toUInt32.toUInt16.toUInt32.toInt32), .unset] [(.ref w_A)]) (fun _ kk => st1 _ kk) ?_
  refine ob T1 (mkF mG 7 #[oa w_instance, oi c, oi (c.toUInt32.toUInt16.toUInt32.toInt32), .unset] [(.int (c.toUInt32.toUInt16.toUInt32.toInt32)), (.ref w_A)]) (fun _ kk => XS.iloadN X1.here hx rfl (hb yb d20_6) rfl kk) ?_
  rw [own_i2c c rc]
  show oGo pG eG bG _ T1 (mkF mG 7 #[oa w_instance, oi c, oi c, .unset] [(.int c), (.ref w_A)])
  obtain ⟨cl2, Ar2, -, S2, N2a, H2, -⟩ := id (V_w_A.ext O0.2)
  have hin2 : ¬ (c < 0 ∨ cl2.slots.size ≤ c.toNatClampNeg) := inb_of S2 (own_256 rc)
  refine oby (T' := T1) (g' := (mkF mG 8 #[oa w_instance, oi c, oi c, .unset] [(.int (oProp c))])) (fun ot ok => X1.iaload hx (j := c) (v := (.int (oProp c))) (by rw [e1]; exact Ar2.1) (State.isArrayOf_alike hZ.alike Ar2.2.1) Ar2.2.2 hin2 (Has.at H2 hin2 (own_at c rc)) (g := (mkF mG 7 #[oa w_instance, oi c, oi c, .unset] [(.int c), (.ref w_A)])) rfl rfl (hb yb d20_7) _ ok) ?_
  refine ob T1 (mkF mG 9 #[oa w_instance, oi c, oi c, oi (oProp c)] []) (fun _ kk => XS.istoreN X1.here hx rfl (hb yb d20_8) rfl (l' := #[oa w_instance, oi c, oi c, oi (oProp c)]) rfl kk) ?_
  refine ob T1 (mkF mG 10 #[oa w_instance, oi c, oi c, oi (oProp c)] [(.int (oProp c))]) (fun _ kk => XS.iloadN X1.here hx rfl (hb yb d20_9) rfl kk) ?_
  obtain ⟨fs, hr, hrun, hended, hW, hsame⟩ := X1.leave (v := some (.int (oProp c))) (fun h => by rw [Bd.returns] at h; cases h)
  refine oout (retOut X1 hx Bd.returns rfl (Or.inl ⟨rfl, Or.inl rfl, _, rfl⟩) (hb yb d20_10) hr) hrun hended ⟨_, _, rfl, ?_, ⟨_, rfl⟩, hW, hsame.mono (by decide) (by decide)⟩
  show Q_rm_gp Z w_instance w_A c_A zc c h0 n0 _ T1.heap _
  rw [e1]
  exact ⟨rfl, N0, rfl⟩

theorem d19_0 : decode jdk_116_method_26_code 0 = .ok (.aload_n 0, 1) := by decide +kernel
theorem d19_1 : decode jdk_116_method_26_code 1 = .ok (.iload_n 1, 1) := by decide +kernel
theorem d19_2 : decode jdk_116_method_26_code 2 = .ok (.invokevirtual 15, 3) := by decide +kernel
theorem d19_5 : decode jdk_116_method_26_code 5 = .ok (.istore_n 2, 1) := by decide +kernel
theorem d19_6 : decode jdk_116_method_26_code 6 = .ok (.iload_n 2, 1) := by decide +kernel
theorem d19_7 : decode jdk_116_method_26_code 7 = .ok (.sipush 28672, 3) := by decide +kernel
theorem d19_10 : decode jdk_116_method_26_code 10 = .ok (.iand, 1) := by decide +kernel
theorem d19_11 : decode jdk_116_method_26_code 11 = .ok (.sipush 16384, 3) := by decide +kernel
theorem d19_14 : decode jdk_116_method_26_code 14 = .ok (.if_icmp .ne 7, 3) := by decide +kernel
theorem d19_17 : decode jdk_116_method_26_code 17 = .ok (.iconst 1, 1) := by decide +kernel
theorem d19_18 : decode jdk_116_method_26_code 18 = .ok (.goto 4, 3) := by decide +kernel
theorem d19_22 : decode jdk_116_method_26_code 22 = .ok (.ireturn, 1) := by decide +kernel
theorem pd_1 : parseMethodDescriptor "(I)I" = some ⟨[.int], some .int⟩ := by decide +kernel
def Q_rm_iswW (Z : State) (w_instance : Addr) (w_A : Addr) (c_A : Cell) (zc : Int32) (c : Int32) (h0 : Heap) (n0 : Nat) (v : Option Value) (h : Heap) (L : List Loc) : Prop := v = some (.int (1 : Int32)) ∧ Fr n0 L ∧ h = h0
set_option maxRecDepth 65536 in
set_option maxHeartbeats 40000000 in
theorem rm_iswW (l : Launch) (Z : State) (a0 : Array Value) (hw : ∀ d ∈ tables_1, d.before a0 Z = true) (ws : List Jvm.Cond) (w_instance : Addr) (w_A : Addr) (c_A : Cell) (zc : Int32) (c : Int32) (h0 : Heap) (n0 : Nat) (O0 : Old Z n0 h0) (hS : St0 Z w_instance w_A c_A zc ) (rc : oRg c) (wc : oWs c = true) :
    MetFree l (⟨"java/lang/CharacterDataLatin1", "isWhitespace", "(I)Z"⟩ : MethodName) (head1 (Jvm.Cond.code (⟨"java/lang/CharacterDataLatin1", "isWhitespace", "(I)Z"⟩ : MethodName) jdk_116_method_26_code 3 (some .boolean) :: ws) ({ frames := 1, cells := 0, slots := 0, locals := 15 } : Room)) (fun aG UG => aG = #[(.ref w_instance), (.int c)] ∧ Z.Warmed39 UG.vm ∧ UG.heap = h0) (fun _ _ _ _ _ => True) (fun _ UG oG UG' => ∃ vG LG, oG = .returned vG ∧ Q_rm_iswW Z w_instance w_A c_A zc c h0 n0 vG UG'.heap LG ∧ FrameEnd UG oG UG' LG ({ frames := 1, cells := 0, slots := 0, locals := 15 } : Room).cells ({ frames := 1, cells := 0, slots := 0, locals := 15 } : Room).slots) := by
  refine MetFree.of_bodySF (plainFor_of_name pn_2) hisR ?_
  intro pG eG sG mG rG bG fG cG s₁ Bd hml0 hP hK
  obtain ⟨rfl, hZ, hh⟩ := hP
  have hx := Bd.exec
  have yb := Bd.bytes
  have hml : cG.maxLocals = 3 := hml0
  have hown : sG.vm.findClass "java/lang/CharacterDataLatin1" = some mG.cls := findClass_of_methodNamed Bd.named
  have hnm := (name_of_methodNamed Bd.named Bd.method).1
  have X0 : Stand pG l eG ({ frames := 1, cells := 0, slots := 0, locals := 15 } : Room) sG mG #[(.ref w_instance), (.int c)] bG fG cG s₁ [] 0 0 := Stand.of_body Bd
  have e0 : s₁.heap = h0 := by rw [← hh, Bd.state]; rfl
  have N0 := Fr.nil n0
  have K0 := Keep.refl h0 []
  obtain ⟨S_w_instance, E_w_instance, S_w_A, E_w_A, V_w_A, S_zc, hzc⟩ := (id hS : St0 Z w_instance w_A c_A zc )
  refine ostart (g' := (mkF mG 0 #[oa w_instance, oi c, .unset] [])) (by first | (simp [entryFrame, mkF, argsToLocals, Value.category]; done) | rfl) ?_
  refine ob s₁ (mkF mG 1 #[oa w_instance, oi c, .unset] [(.ref w_instance)]) (fun _ kk => XS.aloadN X0.here hx rfl (hb yb d19_0) rfl rfl kk) ?_
  refine ob s₁ (mkF mG 2 #[oa w_instance, oi c, .unset] [(.int c), (.ref w_instance)]) (fun _ kk => XS.iloadN X0.here hx rfl (hb yb d19_1) rfl kk) ?_
  obtain ⟨cq1, kq1, q1a, q1b, q1c⟩ := isOf hZ e0 (E_w_instance.ext O0.2)
  obtain ⟨_, _, ⟨T1, L1, k1, n1⟩, -, X1, ⟨Lc1, hQ1, l1, y1, z1⟩, st1⟩ := X0.virtualBack hx (y := (⟨"java/lang/CharacterDataLatin1", "getProperties", "(I)I"⟩ : MethodName)) (z := (⟨"java/lang/CharacterDataLatin1", "getProperties", "(I)I"⟩ : MethodName)) hown (mvT hZ (ow hw 98 rfl)) (mvT hZ (ow hw 99 rfl)) (notFace_of_selects (args := #[]) (mvT hZ (ow hw 101 rfl))) (mvT hZ (ow hw 101 rfl)) (mvT hZ (ow hw 100 rfl)) (by decide) (backOf (W := 0) (rm_gp l Z a0 hw [] w_instance w_A c_A zc c h0 n0 O0 hS rc) hZ (ow hw 102 rfl) (ow hw 92 rfl) (by decide) (by decide)) q1a q1c (g := (mkF mG 2 #[oa w_instance, oi c, .unset] [(.int c), (.ref w_instance)])) rfl (by rw [hml]; rfl) (Steps.refl _) (argsL := [(.int c)]) (rest := []) (lenOf pd_1 rfl) rfl (by show 2 * 0 + _ ≤ _; exact Nat.le_of_eq rfl) (hb yb d19_2) (fun _ _ => ⟨rfl, e0, (by decide : 0 + 0 ≤ _), (by decide : 0 + 0 ≤ _)⟩)
  dsimp only [Pt.U, Pt.locs, Pt.cells, Pt.slots] at X1 l1 y1 z1 st1 hQ1
  subst l1 y1 z1
  obtain ⟨rfl, N1q, e1⟩ := hQ1
  have N1 := Fr.app N0 N1q
  refine ob T1 (mkF mG 5 #[oa w_instance, oi c, .unset] [(.int (oProp c))]) (fun _ kk => st1.trans kk) ?_
  refine ob T1 (mkF mG 6 #[oa w_instance, oi c, oi (oProp c)] []) (fun _ kk => XS.istoreN X1.here hx rfl (hb yb d19_5) rfl (l' := #[oa w_instance, oi c, oi (oProp c)]) rfl kk) ?_
  refine ob T1 (mkF mG 7 #[oa w_instance, oi c, oi (oProp c)] [(.int (oProp c))]) (fun _ kk => XS.iloadN X1.here hx rfl (hb yb d19_6) rfl kk) ?_
  refine ob T1 (mkF mG 10 #[oa w_instance, oi c, oi (oProp c)] [(.int (28672 : Int32)), (.int (oProp c))]) (fun _ kk => XS.sipush X1.here hx rfl (hb yb d19_7) kk) ?_
  refine ob T1 (mkF mG 11 #[oa w_instance, oi c, oi (oProp c)] [(.int ((oProp c) &&& (28672 : Int32)))]) (fun _ kk => XS.iand X1.here hx rfl (hb yb d19_10) rfl kk) ?_
  refine ob T1 (mkF mG 14 #[oa w_instance, oi c, oi (oProp c)] [(.int (16384 : Int32)), (.int ((oProp c) &&& (28672 : Int32)))]) (fun _ kk => XS.sipush X1.here hx rfl (hb yb d19_11) kk) ?_
  refine ob T1 (mkF mG 17 #[oa w_instance, oi c, oi (oProp c)] []) (fun _ kk => XS.icmpNo X1.here hx rfl (hb yb d19_14) rfl (teq (own_propW rc wc)).2 kk) ?_
  refine ob T1 (mkF mG 18 #[oa w_instance, oi c, oi (oProp c)] [(.int (1 : Int32))]) (fun _ kk => XS.iconst X1.here hx rfl (hb yb d19_17) kk) ?_
  refine ob T1 (mkF mG 22 #[oa w_instance, oi c, oi (oProp c)] [(.int (1 : Int32))]) (fun _ kk => XS.goto X1.here hx rfl (pc0 := 18) (pc' := 22) rfl (hb yb d19_18) (by decide) (by decide) kk) ?_
  obtain ⟨fs, hr, hrun, hended, hW, hsame⟩ := X1.leave (v := some (.int (1 : Int32))) (fun h => by rw [Bd.returns] at h; cases h)
  refine oout (retN X1 hx (t := .boolean) Bd.returns (by simp) (hb yb d19_22) hr) hrun hended ⟨_, _, rfl, ?_, ⟨_, rfl⟩, hW, hsame.mono (by decide) (by decide)⟩
  show Q_rm_iswW Z w_instance w_A c_A zc c h0 n0 _ T1.heap _
  rw [e1]
  exact ⟨rfl, N1, rfl⟩

theorem d19_21 : decode jdk_116_method_26_code 21 = .ok (.iconst 0, 1) := by decide +kernel
def Q_rm_iswN (Z : State) (w_instance : Addr) (w_A : Addr) (c_A : Cell) (zc : Int32) (c : Int32) (h0 : Heap) (n0 : Nat) (v : Option Value) (h : Heap) (L : List Loc) : Prop := v = some (.int (0 : Int32)) ∧ Fr n0 L ∧ h = h0
set_option maxRecDepth 65536 in
set_option maxHeartbeats 40000000 in
theorem rm_iswN (l : Launch) (Z : State) (a0 : Array Value) (hw : ∀ d ∈ tables_1, d.before a0 Z = true) (ws : List Jvm.Cond) (w_instance : Addr) (w_A : Addr) (c_A : Cell) (zc : Int32) (c : Int32) (h0 : Heap) (n0 : Nat) (O0 : Old Z n0 h0) (hS : St0 Z w_instance w_A c_A zc ) (rc : oRg c) (wc : oWs c = false) :
    MetFree l (⟨"java/lang/CharacterDataLatin1", "isWhitespace", "(I)Z"⟩ : MethodName) (head1 (Jvm.Cond.code (⟨"java/lang/CharacterDataLatin1", "isWhitespace", "(I)Z"⟩ : MethodName) jdk_116_method_26_code 3 (some .boolean) :: ws) ({ frames := 1, cells := 0, slots := 0, locals := 15 } : Room)) (fun aG UG => aG = #[(.ref w_instance), (.int c)] ∧ Z.Warmed39 UG.vm ∧ UG.heap = h0) (fun _ _ _ _ _ => True) (fun _ UG oG UG' => ∃ vG LG, oG = .returned vG ∧ Q_rm_iswN Z w_instance w_A c_A zc c h0 n0 vG UG'.heap LG ∧ FrameEnd UG oG UG' LG ({ frames := 1, cells := 0, slots := 0, locals := 15 } : Room).cells ({ frames := 1, cells := 0, slots := 0, locals := 15 } : Room).slots) := by
  refine MetFree.of_bodySF (plainFor_of_name pn_2) hisR ?_
  intro pG eG sG mG rG bG fG cG s₁ Bd hml0 hP hK
  obtain ⟨rfl, hZ, hh⟩ := hP
  have hx := Bd.exec
  have yb := Bd.bytes
  have hml : cG.maxLocals = 3 := hml0
  have hown : sG.vm.findClass "java/lang/CharacterDataLatin1" = some mG.cls := findClass_of_methodNamed Bd.named
  have hnm := (name_of_methodNamed Bd.named Bd.method).1
  have X0 : Stand pG l eG ({ frames := 1, cells := 0, slots := 0, locals := 15 } : Room) sG mG #[(.ref w_instance), (.int c)] bG fG cG s₁ [] 0 0 := Stand.of_body Bd
  have e0 : s₁.heap = h0 := by rw [← hh, Bd.state]; rfl
  have N0 := Fr.nil n0
  have K0 := Keep.refl h0 []
  obtain ⟨S_w_instance, E_w_instance, S_w_A, E_w_A, V_w_A, S_zc, hzc⟩ := (id hS : St0 Z w_instance w_A c_A zc )
  refine ostart (g' := (mkF mG 0 #[oa w_instance, oi c, .unset] [])) (by first | (simp [entryFrame, mkF, argsToLocals, Value.category]; done) | rfl) ?_
  refine ob s₁ (mkF mG 1 #[oa w_instance, oi c, .unset] [(.ref w_instance)]) (fun _ kk => XS.aloadN X0.here hx rfl (hb yb d19_0) rfl rfl kk) ?_
  refine ob s₁ (mkF mG 2 #[oa w_instance, oi c, .unset] [(.int c), (.ref w_instance)]) (fun _ kk => XS.iloadN X0.here hx rfl (hb yb d19_1) rfl kk) ?_
  obtain ⟨cq1, kq1, q1a, q1b, q1c⟩ := isOf hZ e0 (E_w_instance.ext O0.2)
  obtain ⟨_, _, ⟨T1, L1, k1, n1⟩, -, X1, ⟨Lc1, hQ1, l1, y1, z1⟩, st1⟩ := X0.virtualBack hx (y := (⟨"java/lang/CharacterDataLatin1", "getProperties", "(I)I"⟩ : MethodName)) (z := (⟨"java/lang/CharacterDataLatin1", "getProperties", "(I)I"⟩ : MethodName)) hown (mvT hZ (ow hw 98 rfl)) (mvT hZ (ow hw 99 rfl)) (notFace_of_selects (args := #[]) (mvT hZ (ow hw 101 rfl))) (mvT hZ (ow hw 101 rfl)) (mvT hZ (ow hw 100 rfl)) (by decide) (backOf (W := 0) (rm_gp l Z a0 hw [] w_instance w_A c_A zc c h0 n0 O0 hS rc) hZ (ow hw 102 rfl) (ow hw 92 rfl) (by decide) (by decide)) q1a q1c (g := (mkF mG 2 #[oa w_instance, oi c, .unset] [(.int c), (.ref w_instance)])) rfl (by rw [hml]; rfl) (Steps.refl _) (argsL := [(.int c)]) (rest := []) (lenOf pd_1 rfl) rfl (by show 2 * 0 + _ ≤ _; exact Nat.le_of_eq rfl) (hb yb d19_2) (fun _ _ => ⟨rfl, e0, (by decide : 0 + 0 ≤ _), (by decide : 0 + 0 ≤ _)⟩)
  dsimp only [Pt.U, Pt.locs, Pt.cells, Pt.slots] at X1 l1 y1 z1 st1 hQ1
  subst l1 y1 z1
  obtain ⟨rfl, N1q, e1⟩ := hQ1
  have N1 := Fr.app N0 N1q
  refine ob T1 (mkF mG 5 #[oa w_instance, oi c, .unset] [(.int (oProp c))]) (fun _ kk => st1.trans kk) ?_
  refine ob T1 (mkF mG 6 #[oa w_instance, oi c, oi (oProp c)] []) (fun _ kk => XS.istoreN X1.here hx rfl (hb yb d19_5) rfl (l' := #[oa w_instance, oi c, oi (oProp c)]) rfl kk) ?_
  refine ob T1 (mkF mG 7 #[oa w_instance, oi c, oi (oProp c)] [(.int (oProp c))]) (fun _ kk => XS.iloadN X1.here hx rfl (hb yb d19_6) rfl kk) ?_
  refine ob T1 (mkF mG 10 #[oa w_instance, oi c, oi (oProp c)] [(.int (28672 : Int32)), (.int (oProp c))]) (fun _ kk => XS.sipush X1.here hx rfl (hb yb d19_7) kk) ?_
  refine ob T1 (mkF mG 11 #[oa w_instance, oi c, oi (oProp c)] [(.int ((oProp c) &&& (28672 : Int32)))]) (fun _ kk => XS.iand X1.here hx rfl (hb yb d19_10) rfl kk) ?_
  refine ob T1 (mkF mG 14 #[oa w_instance, oi c, oi (oProp c)] [(.int (16384 : Int32)), (.int ((oProp c) &&& (28672 : Int32)))]) (fun _ kk => XS.sipush X1.here hx rfl (hb yb d19_11) kk) ?_
  refine ob T1 (mkF mG 21 #[oa w_instance, oi c, oi (oProp c)] []) (fun _ kk => XS.icmpYes X1.here hx rfl (pc0 := 14) (pc' := 21) rfl (hb yb d19_14) rfl (feq (own_propN rc wc)).2 (by decide) (by decide) kk) ?_
  refine ob T1 (mkF mG 22 #[oa w_instance, oi c, oi (oProp c)] [(.int (0 : Int32))]) (fun _ kk => XS.iconst X1.here hx rfl (hb yb d19_21) kk) ?_
  obtain ⟨fs, hr, hrun, hended, hW, hsame⟩ := X1.leave (v := some (.int (0 : Int32))) (fun h => by rw [Bd.returns] at h; cases h)
  refine oout (retN X1 hx (t := .boolean) Bd.returns (by simp) (hb yb d19_22) hr) hrun hended ⟨_, _, rfl, ?_, ⟨_, rfl⟩, hW, hsame.mono (by decide) (by decide)⟩
  show Q_rm_iswN Z w_instance w_A c_A zc c h0 n0 _ T1.heap _
  rw [e1]
  exact ⟨rfl, N1, rfl⟩

theorem d10_0 : decode jdk_43_method_37_code 0 = .ok (.aload_n 0, 1) := by decide +kernel
theorem d10_1 : decode jdk_43_method_37_code 1 = .ok (.arraylength, 1) := by decide +kernel
theorem d10_2 : decode jdk_43_method_37_code 2 = .ok (.istore_n 1, 1) := by decide +kernel
theorem d10_3 : decode jdk_43_method_37_code 3 = .ok (.iconst 0, 1) := by decide +kernel
theorem d10_4 : decode jdk_43_method_37_code 4 = .ok (.istore_n 2, 1) := by decide +kernel
theorem d10_5 : decode jdk_43_method_37_code 5 = .ok (.iload_n 2, 1) := by decide +kernel
theorem d10_6 : decode jdk_43_method_37_code 6 = .ok (.iload_n 1, 1) := by decide +kernel
theorem d10_7 : decode jdk_43_method_37_code 7 = .ok (.if_icmp .ge 40, 3) := by decide +kernel
theorem d10_47 : decode jdk_43_method_37_code 47 = .ok (.iload_n 2, 1) := by decide +kernel
theorem d10_48 : decode jdk_43_method_37_code 48 = .ok (.ireturn, 1) := by decide +kernel
def Q_rm_ix0 (Z : State) (w_instance : Addr) (w_A : Addr) (c_A : Cell) (zc : Int32) (t : Addr) (kb : ClassId) (h0 : Heap) (n0 : Nat) (v : Option Value) (h : Heap) (L : List Loc) : Prop := v = some (.int (0 : Int32)) ∧ Fr n0 L ∧ h = h0
set_option maxRecDepth 65536 in
set_option maxHeartbeats 40000000 in
theorem rm_ix0 (l : Launch) (Z : State) (a0 : Array Value) (hw : ∀ d ∈ tables_1, d.before a0 Z = true) (ws : List Jvm.Cond) (w_instance : Addr) (w_A : Addr) (c_A : Cell) (zc : Int32) (t : Addr) (kb : ClassId) (h0 : Heap) (n0 : Nat) (O0 : Old Z n0 h0) (hS : St0 Z w_instance w_A c_A zc ) (V_t : Arv Z h0 t kb .byte (0 : Int32) [] (.int (0 : Int32))) :
    MetFree l (⟨"java/lang/StringLatin1", "indexOfNonWhitespace", "([B)I"⟩ : MethodName) (head1 (Jvm.Cond.code (⟨"java/lang/StringLatin1", "indexOfNonWhitespace", "([B)I"⟩ : MethodName) jdk_43_method_37_code 4 (some .int) :: ws) ({ frames := 0, cells := 0, slots := 0, locals := 0 } : Room)) (fun aG UG => aG = #[(.ref t)] ∧ Z.Warmed39 UG.vm ∧ UG.heap = h0) (fun _ _ _ _ _ => True) (fun _ UG oG UG' => ∃ vG LG, oG = .returned vG ∧ Q_rm_ix0 Z w_instance w_A c_A zc t kb h0 n0 vG UG'.heap LG ∧ FrameEnd UG oG UG' LG ({ frames := 0, cells := 0, slots := 0, locals := 0 } : Room).cells ({ frames := 0, cells := 0, slots := 0, locals := 0 } : Room).slots) := by
  refine MetFree.of_bodySF (plainFor_of_name pn_1) hisR ?_
  intro pG eG sG mG rG bG fG cG s₁ Bd hml0 hP hK
  obtain ⟨rfl, hZ, hh⟩ := hP
  have hx := Bd.exec
  have yb := Bd.bytes
  have hml : cG.maxLocals = 4 := hml0
  have hown : sG.vm.findClass "java/lang/StringLatin1" = some mG.cls := findClass_of_methodNamed Bd.named
  have hnm := (name_of_methodNamed Bd.named Bd.method).1
  have X0 : Stand pG l eG ({ frames := 0, cells := 0, slots := 0, locals := 0 } : Room) sG mG #[(.ref t)] bG fG cG s₁ [] 0 0 := Stand.of_body Bd
  have e0 : s₁.heap = h0 := by rw [← hh, Bd.state]; rfl
  have N0 := Fr.nil n0
  have K0 := Keep.refl h0 []
  obtain ⟨S_w_instance, E_w_instance, S_w_A, E_w_A, V_w_A, S_zc, hzc⟩ := (id hS : St0 Z w_instance w_A c_A zc )
  refine ostart (g' := (mkF mG 0 #[oa t, .unset, .unset, .unset] [])) (by first | (simp [entryFrame, mkF, argsToLocals, Value.category]; done) | rfl) ?_
  refine ob s₁ (mkF mG 1 #[oa t, .unset, .unset, .unset] [(.ref t)]) (fun _ kk => XS.aloadN X0.here hx rfl (hb yb d10_0) rfl rfl kk) ?_
  obtain ⟨cl1, Ar1, -, S1, N1a, -, -⟩ := id V_t
  refine oby (T' := s₁) (g' := (mkF mG 2 #[oa t, .unset, .unset, .unset] [(.int (0 : Int32))])) (fun ot ok => X0.arraylength hx (by rw [e0]; exact Ar1.1) (State.isArrayOf_alike hZ.alike Ar1.2.1) (g := (mkF mG 1 #[oa t, .unset, .unset, .unset] [(.ref t)])) rfl rfl (hb yb d10_1) _ (by rw [len_of S1 N1a]; exact ok)) ?_
  refine ob s₁ (mkF mG 3 #[oa t, oi (0 : Int32), .unset, .unset] []) (fun _ kk => XS.istoreN X0.here hx rfl (hb yb d10_2) rfl (l' := #[oa t, oi (0 : Int32), .unset, .unset]) rfl kk) ?_
  refine ob s₁ (mkF mG 4 #[oa t, oi (0 : Int32), .unset, .unset] [(.int (0 : Int32))]) (fun _ kk => XS.iconst X0.here hx rfl (hb yb d10_3) kk) ?_
  refine ob s₁ (mkF mG 5 #[oa t, oi (0 : Int32), oi (0 : Int32), .unset] []) (fun _ kk => XS.istoreN X0.here hx rfl (hb yb d10_4) rfl (l' := #[oa t, oi (0 : Int32), oi (0 : Int32), .unset]) rfl kk) ?_
  refine ob s₁ (mkF mG 6 #[oa t, oi (0 : Int32), oi (0 : Int32), .unset] [(.int (0 : Int32))]) (fun _ kk => XS.iloadN X0.here hx rfl (hb yb d10_5) rfl kk) ?_
  refine ob s₁ (mkF mG 7 #[oa t, oi (0 : Int32), oi (0 : Int32), .unset] [(.int (0 : Int32)), (.int (0 : Int32))]) (fun _ kk => XS.iloadN X0.here hx rfl (hb yb d10_6) rfl kk) ?_
  refine ob s₁ (mkF mG 47 #[oa t, oi (0 : Int32), oi (0 : Int32), .unset] []) (fun _ kk => XS.icmpYes X0.here hx rfl (pc0 := 7) (pc' := 47) rfl (hb yb d10_7) rfl (flt (by decide : ¬ ((0 : Int32) < (0 : Int32)))).2.1 (by decide) (by decide) kk) ?_
  refine ob s₁ (mkF mG 48 #[oa t, oi (0 : Int32), oi (0 : Int32), .unset] [(.int (0 : Int32))]) (fun _ kk => XS.iloadN X0.here hx rfl (hb yb d10_47) rfl kk) ?_
  obtain ⟨fs, hr, hrun, hended, hW, hsame⟩ := X0.leave (v := some (.int (0 : Int32))) (fun h => by rw [Bd.returns] at h; cases h)
  refine oout (retOut X0 hx Bd.returns rfl (Or.inl ⟨rfl, Or.inl rfl, _, rfl⟩) (hb yb d10_48) hr) hrun hended ⟨_, _, rfl, ?_, ⟨_, rfl⟩, hW, hsame.mono (by decide) (by decide)⟩
  show Q_rm_ix0 Z w_instance w_A c_A zc t kb h0 n0 _ s₁.heap _
  rw [e0]
  exact ⟨rfl, N0, rfl⟩

theorem d8_0 : decode jdk_42_method_120_code 0 = .ok (.aload_n 0, 1) := by decide +kernel
theorem d8_1 : decode jdk_42_method_120_code 1 = .ok (.invokevirtual 492, 3) := by decide +kernel
theorem d8_4 : decode jdk_42_method_120_code 4 = .ok (.ifCond .eq 13, 3) := by decide +kernel
theorem d8_7 : decode jdk_42_method_120_code 7 = .ok (.aload_n 0, 1) := by decide +kernel
theorem d8_8 : decode jdk_42_method_120_code 8 = .ok (.getfield 9, 3) := by decide +kernel
theorem d8_11 : decode jdk_42_method_120_code 11 = .ok (.invokestatic 924, 3) := by decide +kernel
theorem d8_14 : decode jdk_42_method_120_code 14 = .ok (.goto 10, 3) := by decide +kernel
theorem d8_24 : decode jdk_42_method_120_code 24 = .ok (.ireturn, 1) := by decide +kernel
theorem pd_2 : parseMethodDescriptor "()Z" = some ⟨[], some .boolean⟩ := by decide +kernel
theorem pd_3 : parseMethodDescriptor "([B)I" = some ⟨[(.array .byte)], some .int⟩ := by decide +kernel
def Q_rm_six0 (Z : State) (w_instance : Addr) (w_A : Addr) (c_A : Cell) (zc : Int32) (a : Addr) (t : Addr) (kb : ClassId) (h0 : Heap) (n0 : Nat) (v : Option Value) (h : Heap) (L : List Loc) : Prop := v = some (.int (0 : Int32)) ∧ Fr n0 L ∧ h = h0
set_option maxRecDepth 65536 in
set_option maxHeartbeats 40000000 in
theorem rm_six0 (l : Launch) (Z : State) (a0 : Array Value) (hw : ∀ d ∈ tables_1, d.before a0 Z = true) (ws : List Jvm.Cond) (w_instance : Addr) (w_A : Addr) (c_A : Cell) (zc : Int32) (a : Addr) (t : Addr) (kb : ClassId) (h0 : Heap) (n0 : Nat) (O0 : Old Z n0 h0) (hS : St0 Z w_instance w_A c_A zc ) (E_a : Exa Z h0 a "java/lang/String") (F_c : Fld Z h0 a "java/lang/String" "coder" "B" (.int (0 : Int32))) (F_v : Fld Z h0 a "java/lang/String" "value" "[B" (.ref t)) (V_t : Arv Z h0 t kb .byte (0 : Int32) [] (.int (0 : Int32))) :
    MetFree l (⟨"java/lang/String", "indexOfNonWhitespace", "()I"⟩ : MethodName) (head1 (Jvm.Cond.code (⟨"java/lang/String", "indexOfNonWhitespace", "()I"⟩ : MethodName) jdk_42_method_120_code 1 (some .int) :: ws) ({ frames := 1, cells := 0, slots := 0, locals := 15 } : Room)) (fun aG UG => aG = #[(.ref a)] ∧ Z.Warmed39 UG.vm ∧ UG.heap = h0) (fun _ _ _ _ _ => True) (fun _ UG oG UG' => ∃ vG LG, oG = .returned vG ∧ Q_rm_six0 Z w_instance w_A c_A zc a t kb h0 n0 vG UG'.heap LG ∧ FrameEnd UG oG UG' LG ({ frames := 1, cells := 0, slots := 0, locals := 15 } : Room).cells ({ frames := 1, cells := 0, slots := 0, locals := 15 } : Room).slots) := by
  refine MetFree.of_bodySF (plainFor_of_name pn_0) hisR ?_
  intro pG eG sG mG rG bG fG cG s₁ Bd hml0 hP hK
  obtain ⟨rfl, hZ, hh⟩ := hP
  have hx := Bd.exec
  have yb := Bd.bytes
  have hml : cG.maxLocals = 1 := hml0
  have hown : sG.vm.findClass "java/lang/String" = some mG.cls := findClass_of_methodNamed Bd.named
  have hnm := (name_of_methodNamed Bd.named Bd.method).1
  have X0 : Stand pG l eG ({ frames := 1, cells := 0, slots := 0, locals := 15 } : Room) sG mG #[(.ref a)] bG fG cG s₁ [] 0 0 := Stand.of_body Bd
  have e0 : s₁.heap = h0 := by rw [← hh, Bd.state]; rfl
  have N0 := Fr.nil n0
  have K0 := Keep.refl h0 []
  obtain ⟨S_w_instance, E_w_instance, S_w_A, E_w_A, V_w_A, S_zc, hzc⟩ := (id hS : St0 Z w_instance w_A c_A zc )
  refine ostart (g' := (mkF mG 0 #[oa a] [])) (by first | (simp [entryFrame, mkF, argsToLocals, Value.category]; done) | rfl) ?_
  refine ob s₁ (mkF mG 1 #[oa a] [(.ref a)]) (fun _ kk => XS.aloadN X0.here hx rfl (hb yb d8_0) rfl rfl kk) ?_
  obtain ⟨cq1, kq1, q1a, q1b, q1c⟩ := isOf hZ e0 E_a
  obtain ⟨_, _, ⟨T1, L1, k1, n1⟩, -, X1, ⟨Lc1, hQ1, l1, y1, z1⟩, st1⟩ := X0.virtualBack hx (y := (⟨"java/lang/String", "isLatin1", "()Z"⟩ : MethodName)) (z := (⟨"java/lang/String", "isLatin1", "()Z"⟩ : MethodName)) hown (mvT hZ (ow hw 48 rfl)) (mvT hZ (ow hw 49 rfl)) (notFace_of_selects (args := #[]) (mvT hZ (ow hw 51 rfl))) (mvT hZ (ow hw 51 rfl)) (mvT hZ (ow hw 50 rfl)) (by decide) (backOf (W := 0) (rm_lat l Z a0 hw [] w_instance w_A c_A zc a h0 n0 O0 hS F_c) hZ (ow hw 52 rfl) (ow hw 6 rfl) (by decide) (by decide)) q1a q1c (g := (mkF mG 1 #[oa a] [(.ref a)])) rfl (by rw [hml]; rfl) (Steps.refl _) (argsL := []) (rest := []) (lenOf pd_2 rfl) rfl (by show 2 * 0 + _ ≤ _; exact Nat.le_of_eq rfl) (hb yb d8_1) (fun _ _ => ⟨rfl, e0, (by decide : 0 + 0 ≤ _), (by decide : 0 + 0 ≤ _)⟩)
  dsimp only [Pt.U, Pt.locs, Pt.cells, Pt.slots] at X1 l1 y1 z1 st1 hQ1
  subst l1 y1 z1
  obtain ⟨rfl, N1q, e1⟩ := hQ1
  have N1 := Fr.app N0 N1q
  refine ob T1 (mkF mG 4 #[oa a] [(.int (1 : Int32))]) (fun _ kk => st1.trans kk) ?_
  refine ob T1 (mkF mG 7 #[oa a] []) (fun _ kk => XS.ifNo X1.here hx rfl (hb yb d8_4) rfl ((if0 _ _).trans (feq (by decide : ¬ ((1 : Int32) = (0 : Int32)))).1) kk) ?_
  refine ob T1 (mkF mG 8 #[oa a] [(.ref a)]) (fun _ kk => XS.aloadN X1.here hx rfl (hb yb d8_7) rfl rfl kk) ?_
  obtain ⟨T2, X2, e2, st2⟩ := getF X1 hx hZ hown (host := "") (Or.inl (ow hw 24 rfl)) Via.refl e1 F_v (g := (mkF mG 8 #[oa a] [(.ref a)])) rfl rfl (hb yb d8_8)
  refine ob T2 (mkF mG 11 #[oa a] [(.ref t)]) (fun _ kk => st2 _ kk) ?_
  obtain ⟨_, _, ⟨T3, L3, k3, n3⟩, -, X3, ⟨Lc3, hQ3, l3, y3, z3⟩, st3⟩ := Jvm.LawKit.callS X2 hx (y := (⟨"java/lang/StringLatin1", "indexOfNonWhitespace", "([B)I"⟩ : MethodName)) hown (mvT hZ (ow hw 54 rfl)) (mvT hZ (ow hw 55 rfl)) (mvT hZ (ow hw 56 rfl)) (mvT hZ (ow hw 57 rfl)) (by decide) (backOf (W := 0) (rm_ix0 l Z a0 hw [] w_instance w_A c_A zc t kb h0 n0 O0 hS V_t) hZ (ow hw 57 rfl) (ow hw 56 rfl) (by decide) (by decide)) (g := (mkF mG 11 #[oa a] [(.ref t)])) rfl (by rw [hml]; rfl) (argsL := [(.ref t)]) (rest := []) (lenOf pd_3 rfl) rfl (by show 2 * 0 + _ ≤ _; exact Nat.le_of_eq rfl) (hb yb d8_11) (fun _ _ => ⟨rfl, e2, (by decide : 0 + 0 ≤ _), (by decide : 0 + 0 ≤ _)⟩)
  dsimp only [Pt.U, Pt.locs, Pt.cells, Pt.slots] at X3 l3 y3 z3 st3 hQ3
  subst l3 y3 z3
  obtain ⟨rfl, N3q, e3⟩ := hQ3
  have N3 := Fr.app N1 N3q
  refine ob T3 (mkF mG 14 #[oa a] [(.int (0 : Int32))]) (fun _ kk => st3 _ kk) ?_
  refine ob T3 (mkF mG 24 #[oa a] [(.int (0 : Int32))]) (fun _ kk => XS.goto X3.here hx rfl (pc0 := 14) (pc' := 24) rfl (hb yb d8_14) (by decide) (by decide) kk) ?_
  obtain ⟨fs, hr, hrun, hended, hW, hsame⟩ := X3.leave (v := some (.int (0 : Int32))) (fun h => by rw [Bd.returns] at h; cases h)
  refine oout (retOut X3 hx Bd.returns rfl (Or.inl ⟨rfl, Or.inl rfl, _, rfl⟩) (hb yb d8_24) hr) hrun hended ⟨_, _, rfl, ?_, ⟨_, rfl⟩, hW, hsame.mono (by decide) (by decide)⟩
  show Q_rm_six0 Z w_instance w_A c_A zc a t kb h0 n0 _ T3.heap _
  rw [e3]
  exact ⟨rfl, N3, rfl⟩

theorem d10_10 : decode jdk_43_method_37_code 10 = .ok (.aload_n 0, 1) := by decide +kernel
theorem d10_11 : decode jdk_43_method_37_code 11 = .ok (.iload_n 2, 1) := by decide +kernel
theorem d10_12 : decode jdk_43_method_37_code 12 = .ok (.invokestatic 50, 3) := by decide +kernel
theorem d10_15 : decode jdk_43_method_37_code 15 = .ok (.istore_n 3, 1) := by decide +kernel
theorem d10_16 : decode jdk_43_method_37_code 16 = .ok (.iload_n 3, 1) := by decide +kernel
theorem d10_17 : decode jdk_43_method_37_code 17 = .ok (.bipush 32, 2) := by decide +kernel
theorem d10_19 : decode jdk_43_method_37_code 19 = .ok (.if_icmp .eq 22, 3) := by decide +kernel
theorem d10_22 : decode jdk_43_method_37_code 22 = .ok (.iload_n 3, 1) := by decide +kernel
theorem d10_23 : decode jdk_43_method_37_code 23 = .ok (.bipush 9, 2) := by decide +kernel
theorem d10_25 : decode jdk_43_method_37_code 25 = .ok (.if_icmp .eq 16, 3) := by decide +kernel
theorem d10_28 : decode jdk_43_method_37_code 28 = .ok (.getstatic 66, 3) := by decide +kernel
theorem d10_31 : decode jdk_43_method_37_code 31 = .ok (.iload_n 3, 1) := by decide +kernel
theorem d10_32 : decode jdk_43_method_37_code 32 = .ok (.invokevirtual 211, 3) := by decide +kernel
theorem d10_35 : decode jdk_43_method_37_code 35 = .ok (.ifCond .ne 6, 3) := by decide +kernel
theorem d10_41 : decode jdk_43_method_37_code 41 = .ok (.iinc 2 1, 3) := by decide +kernel
theorem d10_44 : decode jdk_43_method_37_code 44 = .ok (.goto (-39), 3) := by decide +kernel
theorem pd_4 : parseMethodDescriptor "([BI)C" = some ⟨[(.array .byte), .int], some .char⟩ := by decide +kernel
theorem pd_5 : parseMethodDescriptor "(I)Z" = some ⟨[.int], some .boolean⟩ := by decide +kernel
def Q_rm_ix1W (Z : State) (w_instance : Addr) (w_A : Addr) (c_A : Cell) (zc : Int32) (t : Addr) (kb : ClassId) (c : Int32) (h0 : Heap) (n0 : Nat) (v : Option Value) (h : Heap) (L : List Loc) : Prop := v = some (.int (1 : Int32)) ∧ Fr n0 L ∧ h = h0
set_option maxRecDepth 65536 in
set_option maxHeartbeats 40000000 in
theorem rm_ix1W (l : Launch) (Z : State) (a0 : Array Value) (hw : ∀ d ∈ tables_1, d.before a0 Z = true) (ws : List Jvm.Cond) (w_instance : Addr) (w_A : Addr) (c_A : Cell) (zc : Int32) (t : Addr) (kb : ClassId) (c : Int32) (h0 : Heap) (n0 : Nat) (O0 : Old Z n0 h0) (hS : St0 Z w_instance w_A c_A zc ) (V_t : Arv Z h0 t kb .byte (1 : Int32) [(.int (c.toInt8.toInt32))] (.int (0 : Int32))) (rc : oRg c) (wc : oWs c = true) :
    MetFree l (⟨"java/lang/StringLatin1", "indexOfNonWhitespace", "([B)I"⟩ : MethodName) (head1 (Jvm.Cond.code (⟨"java/lang/StringLatin1", "indexOfNonWhitespace", "([B)I"⟩ : MethodName) jdk_43_method_37_code 4 (some .int) :: ws) ({ frames := 2, cells := 0, slots := 0, locals := 29 } : Room)) (fun aG UG => aG = #[(.ref t)] ∧ Z.Warmed39 UG.vm ∧ UG.heap = h0) (fun _ _ _ _ _ => True) (fun _ UG oG UG' => ∃ vG LG, oG = .returned vG ∧ Q_rm_ix1W Z w_instance w_A c_A zc t kb c h0 n0 vG UG'.heap LG ∧ FrameEnd UG oG UG' LG ({ frames := 2, cells := 0, slots := 0, locals := 29 } : Room).cells ({ frames := 2, cells := 0, slots := 0, locals := 29 } : Room).slots) := by
  refine MetFree.of_bodySF (plainFor_of_name pn_1) hisR ?_
  intro pG eG sG mG rG bG fG cG s₁ Bd hml0 hP hK
  obtain ⟨rfl, hZ, hh⟩ := hP
  have hx := Bd.exec
  have yb := Bd.bytes
  have hml : cG.maxLocals = 4 := hml0
  have hown : sG.vm.findClass "java/lang/StringLatin1" = some mG.cls := findClass_of_methodNamed Bd.named
  have hnm := (name_of_methodNamed Bd.named Bd.method).1
  have X0 : Stand pG l eG ({ frames := 2, cells := 0, slots := 0, locals := 29 } : Room) sG mG #[(.ref t)] bG fG cG s₁ [] 0 0 := Stand.of_body Bd
  have e0 : s₁.heap = h0 := by rw [← hh, Bd.state]; rfl
  have N0 := Fr.nil n0
  have K0 := Keep.refl h0 []
  obtain ⟨S_w_instance, E_w_instance, S_w_A, E_w_A, V_w_A, S_zc, hzc⟩ := (id hS : St0 Z w_instance w_A c_A zc )
  refine ostart (g' := (mkF mG 0 #[oa t, .unset, .unset, .unset] [])) (by first | (simp [entryFrame, mkF, argsToLocals, Value.category]; done) | rfl) ?_
  refine ob s₁ (mkF mG 1 #[oa t, .unset, .unset, .unset] [(.ref t)]) (fun _ kk => XS.aloadN X0.here hx rfl (hb yb d10_0) rfl rfl kk) ?_
  obtain ⟨cl1, Ar1, -, S1, N1a, -, -⟩ := id V_t
  refine oby (T' := s₁) (g' := (mkF mG 2 #[oa t, .unset, .unset, .unset] [(.int (1 : Int32))])) (fun ot ok => X0.arraylength hx (by rw [e0]; exact Ar1.1) (State.isArrayOf_alike hZ.alike Ar1.2.1) (g := (mkF mG 1 #[oa t, .unset, .unset, .unset] [(.ref t)])) rfl rfl (hb yb d10_1) _ (by rw [len_of S1 N1a]; exact ok)) ?_
  refine ob s₁ (mkF mG 3 #[oa t, oi (1 : Int32), .unset, .unset] []) (fun _ kk => XS.istoreN X0.here hx rfl (hb yb d10_2) rfl (l' := #[oa t, oi (1 : Int32), .unset, .unset]) rfl kk) ?_
  refine ob s₁ (mkF mG 4 #[oa t, oi (1 : Int32), .unset, .unset] [(.int (0 : Int32))]) (fun _ kk => XS.iconst X0.here hx rfl (hb yb d10_3) kk) ?_
  refine ob s₁ (mkF mG 5 #[oa t, oi (1 : Int32), oi (0 : Int32), .unset] []) (fun _ kk => XS.istoreN X0.here hx rfl (hb yb d10_4) rfl (l' := #[oa t, oi (1 : Int32), oi (0 : Int32), .unset]) rfl kk) ?_
  refine ob s₁ (mkF mG 6 #[oa t, oi (1 : Int32), oi (0 : Int32), .unset] [(.int (0 : Int32))]) (fun _ kk => XS.iloadN X0.here hx rfl (hb yb d10_5) rfl kk) ?_
  refine ob s₁ (mkF mG 7 #[oa t, oi (1 : Int32), oi (0 : Int32), .unset] [(.int (1 : Int32)), (.int (0 : Int32))]) (fun _ kk => XS.iloadN X0.here hx rfl (hb yb d10_6) rfl kk) ?_
  refine ob s₁ (mkF mG 10 #[oa t, oi (1 : Int32), oi (0 : Int32), .unset] []) (fun _ kk => XS.icmpNo X0.here hx rfl (hb yb d10_7) rfl (tlt (by decide : (0 : Int32) < (1 : Int32))).2.1 kk) ?_
  refine ob s₁ (mkF mG 11 #[oa t, oi (1 : Int32), oi (0 : Int32), .unset] [(.ref t)]) (fun _ kk => XS.aloadN X0.here hx rfl (hb yb d10_10) rfl rfl kk) ?_
  refine ob s₁ (mkF mG 12 #[oa t, oi (1 : Int32), oi (0 : Int32), .unset] [(.int (0 : Int32)), (.ref t)]) (fun _ kk => XS.iloadN X0.here hx rfl (hb yb d10_11) rfl kk) ?_
  obtain ⟨_, _, ⟨T2, L2, k2, n2⟩, -, X2, ⟨Lc2, hQ2, l2, y2, z2⟩, st2⟩ := Jvm.LawKit.callS X0 hx (y := (⟨"java/lang/StringLatin1", "getChar", "([BI)C"⟩ : MethodName)) hown (mvT hZ (ow hw 88 rfl)) (mvT hZ (ow hw 89 rfl)) (mvT hZ (ow hw 56 rfl)) (mvT hZ (ow hw 90 rfl)) (by decide) (backOf (W := 0) (rm_gc10 l Z a0 hw [] w_instance w_A c_A zc t kb c h0 n0 O0 hS V_t rc) hZ (ow hw 90 rfl) (ow hw 56 rfl) (by decide) (by decide)) (g := (mkF mG 12 #[oa t, oi (1 : Int32), oi (0 : Int32), .unset] [(.int (0 : Int32)), (.ref t)])) rfl (by rw [hml]; rfl) (argsL := [(.ref t), (.int (0 : Int32))]) (rest := []) (lenOf pd_4 rfl) rfl (by show 2 * 0 + _ ≤ _; exact Nat.le_of_eq rfl) (hb yb d10_12) (fun _ _ => ⟨rfl, e0, (by decide : 0 + 0 ≤ _), (by decide : 0 + 0 ≤ _)⟩)
  dsimp only [Pt.U, Pt.locs, Pt.cells, Pt.slots] at X2 l2 y2 z2 st2 hQ2
  subst l2 y2 z2
  obtain ⟨rfl, N2q, e2⟩ := hQ2
  have N2 := Fr.app N0 N2q
  refine ob T2 (mkF mG 15 #[oa t, oi (1 : Int32), oi (0 : Int32), .unset] [(.int c)]) (fun _ kk => st2 _ kk) ?_
  refine ob T2 (mkF mG 16 #[oa t, oi (1 : Int32), oi (0 : Int32), oi c] []) (fun _ kk => XS.istoreN X2.here hx rfl (hb yb d10_15) rfl (l' := #[oa t, oi (1 : Int32), oi (0 : Int32), oi c]) rfl kk) ?_
  refine ob T2 (mkF mG 17 #[oa t, oi (1 : Int32), oi (0 : Int32), oi c] [(.int c)]) (fun _ kk => XS.iloadN X2.here hx rfl (hb yb d10_16) rfl kk) ?_
  refine ob T2 (mkF mG 19 #[oa t, oi (1 : Int32), oi (0 : Int32), oi c] [(.int (32 : Int32)), (.int c)]) (fun _ kk => XS.bipush X2.here hx rfl (hb yb d10_17) kk) ?_
  by_cases hc3 : c = (32 : Int32)
  · skip
    refine ob T2 (mkF mG 41 #[oa t, oi (1 : Int32), oi (0 : Int32), oi c] []) (fun _ kk => XS.icmpYes X2.here hx rfl (pc0 := 19) (pc' := 41) rfl (hb yb d10_19) rfl (teq hc3).1 (by decide) (by decide) kk) ?_
    refine ob T2 (mkF mG 44 #[oa t, oi (1 : Int32), oi (1 : Int32), oi c] []) (fun _ kk => XS.iinc X2.here hx rfl (hb yb d10_41) rfl (l' := #[oa t, oi (1 : Int32), oi (1 : Int32), oi c]) rfl kk) ?_
    refine ob T2 (mkF mG 5 #[oa t, oi (1 : Int32), oi (1 : Int32), oi c] []) (fun _ kk => XS.goto X2.here hx rfl (pc0 := 44) (pc' := 5) rfl (hb yb d10_44) (by decide) (by decide) kk) ?_
    refine ob T2 (mkF mG 6 #[oa t, oi (1 : Int32), oi (1 : Int32), oi c] [(.int (1 : Int32))]) (fun _ kk => XS.iloadN X2.here hx rfl (hb yb d10_5) rfl kk) ?_
    refine ob T2 (mkF mG 7 #[oa t, oi (1 : Int32), oi (1 : Int32), oi c] [(.int (1 : Int32)), (.int (1 : Int32))]) (fun _ kk => XS.iloadN X2.here hx rfl (hb yb d10_6) rfl kk) ?_
    refine ob T2 (mkF mG 47 #[oa t, oi (1 : Int32), oi (1 : Int32), oi c] []) (fun _ kk => XS.icmpYes X2.here hx rfl (pc0 := 7) (pc' := 47) rfl (hb yb d10_7) rfl (flt (by decide : ¬ ((1 : Int32) < (1 : Int32)))).2.1 (by decide) (by decide) kk) ?_
    refine ob T2 (mkF mG 48 #[oa t, oi (1 : Int32), oi (1 : Int32), oi c] [(.int (1 : Int32))]) (fun _ kk => XS.iloadN X2.here hx rfl (hb yb d10_47) rfl kk) ?_
    obtain ⟨fs, hr, hrun, hended, hW, hsame⟩ := X2.leave (v := some (.int (1 : Int32))) (fun h => by rw [Bd.returns] at h; cases h)
    refine oout (retOut X2 hx Bd.returns rfl (Or.inl ⟨rfl, Or.inl rfl, _, rfl⟩) (hb yb d10_48) hr) hrun hended ⟨_, _, rfl, ?_, ⟨_, rfl⟩, hW, hsame.mono (by decide) (by decide)⟩
    show Q_rm_ix1W Z w_instance w_A c_A zc t kb c h0 n0 _ T2.heap _
    rw [e2]
    exact ⟨rfl, N2, rfl⟩
  · skip
    refine ob T2 (mkF mG 22 #[oa t, oi (1 : Int32), oi (0 : Int32), oi c] []) (fun _ kk => XS.icmpNo X2.here hx rfl (hb yb d10_19) rfl (feq hc3).1 kk) ?_
    refine ob T2 (mkF mG 23 #[oa t, oi (1 : Int32), oi (0 : Int32), oi c] [(.int c)]) (fun _ kk => XS.iloadN X2.here hx rfl (hb yb d10_22) rfl kk) ?_
    refine ob T2 (mkF mG 25 #[oa t, oi (1 : Int32), oi (0 : Int32), oi c] [(.int (9 : Int32)), (.int c)]) (fun _ kk => XS.bipush X2.here hx rfl (hb yb d10_23) kk) ?_
    by_cases hc4 : c = (9 : Int32)
    · skip
      refine ob T2 (mkF mG 41 #[oa t, oi (1 : Int32), oi (0 : Int32), oi c] []) (fun _ kk => XS.icmpYes X2.here hx rfl (pc0 := 25) (pc' := 41) rfl (hb yb d10_25) rfl (teq hc4).1 (by decide) (by decide) kk) ?_
      refine ob T2 (mkF mG 44 #[oa t, oi (1 : Int32), oi (1 : Int32), oi c] []) (fun _ kk => XS.iinc X2.here hx rfl (hb yb d10_41) rfl (l' := #[oa t, oi (1 : Int32), oi (1 : Int32), oi c]) rfl kk) ?_
      refine ob T2 (mkF mG 5 #[oa t, oi (1 : Int32), oi (1 : Int32), oi c] []) (fun _ kk => XS.goto X2.here hx rfl (pc0 := 44) (pc' := 5) rfl (hb yb d10_44) (by decide) (by decide) kk) ?_
      refine ob T2 (mkF mG 6 #[oa t, oi (1 : Int32), oi (1 : Int32), oi c] [(.int (1 : Int32))]) (fun _ kk => XS.iloadN X2.here hx rfl (hb yb d10_5) rfl kk) ?_
      refine ob T2 (mkF mG 7 #[oa t, oi (1 : Int32), oi (1 : Int32), oi c] [(.int (1 : Int32)), (.int (1 : Int32))]) (fun _ kk => XS.iloadN X2.here hx rfl (hb yb d10_6) rfl kk) ?_
      refine ob T2 (mkF mG 47 #[oa t, oi (1 : Int32), oi (1 : Int32), oi c] []) (fun _ kk => XS.icmpYes X2.here hx rfl (pc0 := 7) (pc' := 47) rfl (hb yb d10_7) rfl (flt (by decide : ¬ ((1 : Int32) < (1 : Int32)))).2.1 (by decide) (by decide) kk) ?_
      refine ob T2 (mkF mG 48 #[oa t, oi (1 : Int32), oi (1 : Int32), oi c] [(.int (1 : Int32))]) (fun _ kk => XS.iloadN X2.here hx rfl (hb yb d10_47) rfl kk) ?_
      obtain ⟨fs, hr, hrun, hended, hW, hsame⟩ := X2.leave (v := some (.int (1 : Int32))) (fun h => by rw [Bd.returns] at h; cases h)
      refine oout (retOut X2 hx Bd.returns rfl (Or.inl ⟨rfl, Or.inl rfl, _, rfl⟩) (hb yb d10_48) hr) hrun hended ⟨_, _, rfl, ?_, ⟨_, rfl⟩, hW, hsame.mono (by decide) (by decide)⟩
      show Q_rm_ix1W Z w_instance w_A c_A zc t kb c h0 n0 _ T2.heap _
      rw [e2]
      exact ⟨rfl, N2, rfl⟩
    · skip
      refine ob T2 (mkF mG 28 #[oa t, oi (1 : Int32), oi (0 : Int32), oi c] []) (fun _ kk => XS.icmpNo X2.here hx rfl (hb yb d10_25) rfl (feq hc4).1 kk) ?_
      obtain ⟨T5, X5, e5, st5⟩ := getS2 X2 hx hZ hown (host := "") (Or.inl (ow hw 91 rfl)) Via.refl e2 (S_w_instance.ext O0.2) (g := (mkF mG 28 #[oa t, oi (1 : Int32), oi (0 : Int32), oi c] [])) rfl (hb yb d10_28)
      refine ob T5 (mkF mG 31 #[oa t, oi (1 : Int32), oi (0 : Int32), oi c] [(.ref w_instance)]) (fun _ kk => st5 _ kk) ?_
      refine ob T5 (mkF mG 32 #[oa t, oi (1 : Int32), oi (0 : Int32), oi c] [(.int c), (.ref w_instance)]) (fun _ kk => XS.iloadN X5.here hx rfl (hb yb d10_31) rfl kk) ?_
      obtain ⟨cq6, kq6, q6a, q6b, q6c⟩ := isOf hZ e5 (E_w_instance.ext O0.2)
      obtain ⟨_, _, ⟨T6, L6, k6, n6⟩, -, X6, ⟨Lc6, hQ6, l6, y6, z6⟩, st6⟩ := X5.virtualBack hx (y := (⟨"java/lang/CharacterDataLatin1", "isWhitespace", "(I)Z"⟩ : MethodName)) (z := (⟨"java/lang/CharacterDataLatin1", "isWhitespace", "(I)Z"⟩ : MethodName)) hown (mvT hZ (ow hw 93 rfl)) (mvT hZ (ow hw 94 rfl)) (notFace_of_selects (args := #[]) (mvT hZ (ow hw 96 rfl))) (mvT hZ (ow hw 96 rfl)) (mvT hZ (ow hw 95 rfl)) (by decide) (backOf (W := 0) (rm_iswW l Z a0 hw [] w_instance w_A c_A zc c h0 n0 O0 hS rc wc) hZ (ow hw 97 rfl) (ow hw 92 rfl) (by decide) (by decide)) q6a q6c (g := (mkF mG 32 #[oa t, oi (1 : Int32), oi (0 : Int32), oi c] [(.int c), (.ref w_instance)])) rfl (by rw [hml]; rfl) (Steps.refl _) (argsL := [(.int c)]) (rest := []) (lenOf pd_5 rfl) rfl (by show 2 * 0 + _ ≤ _; exact Nat.le_of_eq rfl) (hb yb d10_32) (fun _ _ => ⟨rfl, e5, (by decide : 0 + 0 ≤ _), (by decide : 0 + 0 ≤ _)⟩)
      dsimp only [Pt.U, Pt.locs, Pt.cells, Pt.slots] at X6 l6 y6 z6 st6 hQ6
      subst l6 y6 z6
      obtain ⟨rfl, N6q, e6⟩ := hQ6
      have N6 := Fr.app N2 N6q
      refine ob T6 (mkF mG 35 #[oa t, oi (1 : Int32), oi (0 : Int32), oi c] [(.int (1 : Int32))]) (fun _ kk => st6.trans kk) ?_
      refine ob T6 (mkF mG 41 #[oa t, oi (1 : Int32), oi (0 : Int32), oi c] []) (fun _ kk => XS.ifYes X6.here hx rfl (pc0 := 35) (pc' := 41) rfl (hb yb d10_35) rfl ((if0 _ _).trans (feq (by decide : ¬ ((1 : Int32) = (0 : Int32)))).2) (by decide) (by decide) kk) ?_
      refine ob T6 (mkF mG 44 #[oa t, oi (1 : Int32), oi (1 : Int32), oi c] []) (fun _ kk => XS.iinc X6.here hx rfl (hb yb d10_41) rfl (l' := #[oa t, oi (1 : Int32), oi (1 : Int32), oi c]) rfl kk) ?_
      refine ob T6 (mkF mG 5 #[oa t, oi (1 : Int32), oi (1 : Int32), oi c] []) (fun _ kk => XS.goto X6.here hx rfl (pc0 := 44) (pc' := 5) rfl (hb yb d10_44) (by decide) (by decide) kk) ?_
      refine ob T6 (mkF mG 6 #[oa t, oi (1 : Int32), oi (1 : Int32), oi c] [(.int (1 : Int32))]) (fun _ kk => XS.iloadN X6.here hx rfl (hb yb d10_5) rfl kk) ?_
      refine ob T6 (mkF mG 7 #[oa t, oi (1 : Int32), oi (1 : Int32), oi c] [(.int (1 : Int32)), (.int (1 : Int32))]) (fun _ kk => XS.iloadN X6.here hx rfl (hb yb d10_6) rfl kk) ?_
      refine ob T6 (mkF mG 47 #[oa t, oi (1 : Int32), oi (1 : Int32), oi c] []) (fun _ kk => XS.icmpYes X6.here hx rfl (pc0 := 7) (pc' := 47) rfl (hb yb d10_7) rfl (flt (by decide : ¬ ((1 : Int32) < (1 : Int32)))).2.1 (by decide) (by decide) kk) ?_
      refine ob T6 (mkF mG 48 #[oa t, oi (1 : Int32), oi (1 : Int32), oi c] [(.int (1 : Int32))]) (fun _ kk => XS.iloadN X6.here hx rfl (hb yb d10_47) rfl kk) ?_
      obtain ⟨fs, hr, hrun, hended, hW, hsame⟩ := X6.leave (v := some (.int (1 : Int32))) (fun h => by rw [Bd.returns] at h; cases h)
      refine oout (retOut X6 hx Bd.returns rfl (Or.inl ⟨rfl, Or.inl rfl, _, rfl⟩) (hb yb d10_48) hr) hrun hended ⟨_, _, rfl, ?_, ⟨_, rfl⟩, hW, hsame.mono (by decide) (by decide)⟩
      show Q_rm_ix1W Z w_instance w_A c_A zc t kb c h0 n0 _ T6.heap _
      rw [e6]
      exact ⟨rfl, N6, rfl⟩

def Q_rm_six1W (Z : State) (w_instance : Addr) (w_A : Addr) (c_A : Cell) (zc : Int32) (a : Addr) (t : Addr) (kb : ClassId) (c : Int32) (h0 : Heap) (n0 : Nat) (v : Option Value) (h : Heap) (L : List Loc) : Prop := v = some (.int (1 : Int32)) ∧ Fr n0 L ∧ h = h0
set_option maxRecDepth 65536 in
set_option maxHeartbeats 40000000 in
theorem rm_six1W (l : Launch) (Z : State) (a0 : Array Value) (hw : ∀ d ∈ tables_1, d.before a0 Z = true) (ws : List Jvm.Cond) (w_instance : Addr) (w_A : Addr) (c_A : Cell) (zc : Int32) (a : Addr) (t : Addr) (kb : ClassId) (c : Int32) (h0 : Heap) (n0 : Nat) (O0 : Old Z n0 h0) (hS : St0 Z w_instance w_A c_A zc ) (E_a : Exa Z h0 a "java/lang/String") (F_c : Fld Z h0 a "java/lang/String" "coder" "B" (.int (0 : Int32))) (F_v : Fld Z h0 a "java/lang/String" "value" "[B" (.ref t)) (V_t : Arv Z h0 t kb .byte (1 : Int32) [(.int (c.toInt8.toInt32))] (.int (0 : Int32))) (rc : oRg c) (wc : oWs c = true) :
    MetFree l (⟨"java/lang/String", "indexOfNonWhitespace", "()I"⟩ : MethodName) (head1 (Jvm.Cond.code (⟨"java/lang/String", "indexOfNonWhitespace", "()I"⟩ : MethodName) jdk_42_method_120_code 1 (some .int) :: ws) ({ frames := 3, cells := 0, slots := 0, locals := 44 } : Room)) (fun aG UG => aG = #[(.ref a)] ∧ Z.Warmed39 UG.vm ∧ UG.heap = h0) (fun _ _ _ _ _ => True) (fun _ UG oG UG' => ∃ vG LG, oG = .returned vG ∧ Q_rm_six1W Z w_instance w_A c_A zc a t kb c h0 n0 vG UG'.heap LG ∧ FrameEnd UG oG UG' LG ({ frames := 3, cells := 0, slots := 0, locals := 44 } : Room).cells ({ frames := 3, cells := 0, slots := 0, locals := 44 } : Room).slots) := by
  refine MetFree.of_bodySF (plainFor_of_name pn_0) hisR ?_
  intro pG eG sG mG rG bG fG cG s₁ Bd hml0 hP hK
  obtain ⟨rfl, hZ, hh⟩ := hP
  have hx := Bd.exec
  have yb := Bd.bytes
  have hml : cG.maxLocals = 1 := hml0
  have hown : sG.vm.findClass "java/lang/String" = some mG.cls := findClass_of_methodNamed Bd.named
  have hnm := (name_of_methodNamed Bd.named Bd.method).1
  have X0 : Stand pG l eG ({ frames := 3, cells := 0, slots := 0, locals := 44 } : Room) sG mG #[(.ref a)] bG fG cG s₁ [] 0 0 := Stand.of_body Bd
  have e0 : s₁.heap = h0 := by rw [← hh, Bd.state]; rfl
  have N0 := Fr.nil n0
  have K0 := Keep.refl h0 []
  obtain ⟨S_w_instance, E_w_instance, S_w_A, E_w_A, V_w_A, S_zc, hzc⟩ := (id hS : St0 Z w_instance w_A c_A zc )
  refine ostart (g' := (mkF mG 0 #[oa a] [])) (by first | (simp [entryFrame, mkF, argsToLocals, Value.category]; done) | rfl) ?_
  refine ob s₁ (mkF mG 1 #[oa a] [(.ref a)]) (fun _ kk => XS.aloadN X0.here hx rfl (hb yb d8_0) rfl rfl kk) ?_
  obtain ⟨cq1, kq1, q1a, q1b, q1c⟩ := isOf hZ e0 E_a
  obtain ⟨_, _, ⟨T1, L1, k1, n1⟩, -, X1, ⟨Lc1, hQ1, l1, y1, z1⟩, st1⟩ := X0.virtualBack hx (y := (⟨"java/lang/String", "isLatin1", "()Z"⟩ : MethodName)) (z := (⟨"java/lang/String", "isLatin1", "()Z"⟩ : MethodName)) hown (mvT hZ (ow hw 48 rfl)) (mvT hZ (ow hw 49 rfl)) (notFace_of_selects (args := #[]) (mvT hZ (ow hw 51 rfl))) (mvT hZ (ow hw 51 rfl)) (mvT hZ (ow hw 50 rfl)) (by decide) (backOf (W := 0) (rm_lat l Z a0 hw [] w_instance w_A c_A zc a h0 n0 O0 hS F_c) hZ (ow hw 52 rfl) (ow hw 6 rfl) (by decide) (by decide)) q1a q1c (g := (mkF mG 1 #[oa a] [(.ref a)])) rfl (by rw [hml]; rfl) (Steps.refl _) (argsL := []) (rest := []) (lenOf pd_2 rfl) rfl (by show 2 * 0 + _ ≤ _; exact Nat.le_of_eq rfl) (hb yb d8_1) (fun _ _ => ⟨rfl, e0, (by decide : 0 + 0 ≤ _), (by decide : 0 + 0 ≤ _)⟩)
  dsimp only [Pt.U, Pt.locs, Pt.cells, Pt.slots] at X1 l1 y1 z1 st1 hQ1
  subst l1 y1 z1
  obtain ⟨rfl, N1q, e1⟩ := hQ1
  have N1 := Fr.app N0 N1q
  refine ob T1 (mkF mG 4 #[oa a] [(.int (1 : Int32))]) (fun _ kk => st1.trans kk) ?_
  refine ob T1 (mkF mG 7 #[oa a] []) (fun _ kk => XS.ifNo X1.here hx rfl (hb yb d8_4) rfl ((if0 _ _).trans (feq (by decide : ¬ ((1 : Int32) = (0 : Int32)))).1) kk) ?_
  refine ob T1 (mkF mG 8 #[oa a] [(.ref a)]) (fun _ kk => XS.aloadN X1.here hx rfl (hb yb d8_7) rfl rfl kk) ?_
  obtain ⟨T2, X2, e2, st2⟩ := getF X1 hx hZ hown (host := "") (Or.inl (ow hw 24 rfl)) Via.refl e1 F_v (g := (mkF mG 8 #[oa a] [(.ref a)])) rfl rfl (hb yb d8_8)
  refine ob T2 (mkF mG 11 #[oa a] [(.ref t)]) (fun _ kk => st2 _ kk) ?_
  obtain ⟨_, _, ⟨T3, L3, k3, n3⟩, -, X3, ⟨Lc3, hQ3, l3, y3, z3⟩, st3⟩ := Jvm.LawKit.callS X2 hx (y := (⟨"java/lang/StringLatin1", "indexOfNonWhitespace", "([B)I"⟩ : MethodName)) hown (mvT hZ (ow hw 54 rfl)) (mvT hZ (ow hw 55 rfl)) (mvT hZ (ow hw 56 rfl)) (mvT hZ (ow hw 57 rfl)) (by decide) (backOf (W := 0) (rm_ix1W l Z a0 hw [] w_instance w_A c_A zc t kb c h0 n0 O0 hS V_t rc wc) hZ (ow hw 57 rfl) (ow hw 56 rfl) (by decide) (by decide)) (g := (mkF mG 11 #[oa a] [(.ref t)])) rfl (by rw [hml]; rfl) (argsL := [(.ref t)]) (rest := []) (lenOf pd_3 rfl) rfl (by show 2 * 0 + _ ≤ _; exact Nat.le_of_eq rfl) (hb yb d8_11) (fun _ _ => ⟨rfl, e2, (by decide : 0 + 0 ≤ _), (by decide : 0 + 0 ≤ _)⟩)
  dsimp only [Pt.U, Pt.locs, Pt.cells, Pt.slots] at X3 l3 y3 z3 st3 hQ3
  subst l3 y3 z3
  obtain ⟨rfl, N3q, e3⟩ := hQ3
  have N3 := Fr.app N1 N3q
  refine ob T3 (mkF mG 14 #[oa a] [(.int (1 : Int32))]) (fun _ kk => st3 _ kk) ?_
  refine ob T3 (mkF mG 24 #[oa a] [(.int (1 : Int32))]) (fun _ kk => XS.goto X3.here hx rfl (pc0 := 14) (pc' := 24) rfl (hb yb d8_14) (by decide) (by decide) kk) ?_
  obtain ⟨fs, hr, hrun, hended, hW, hsame⟩ := X3.leave (v := some (.int (1 : Int32))) (fun h => by rw [Bd.returns] at h; cases h)
  refine oout (retOut X3 hx Bd.returns rfl (Or.inl ⟨rfl, Or.inl rfl, _, rfl⟩) (hb yb d8_24) hr) hrun hended ⟨_, _, rfl, ?_, ⟨_, rfl⟩, hW, hsame.mono (by decide) (by decide)⟩
  show Q_rm_six1W Z w_instance w_A c_A zc a t kb c h0 n0 _ T3.heap _
  rw [e3]
  exact ⟨rfl, N3, rfl⟩

theorem d10_38 : decode jdk_43_method_37_code 38 = .ok (.goto 9, 3) := by decide +kernel
def Q_rm_ix1N (Z : State) (w_instance : Addr) (w_A : Addr) (c_A : Cell) (zc : Int32) (t : Addr) (kb : ClassId) (c : Int32) (h0 : Heap) (n0 : Nat) (v : Option Value) (h : Heap) (L : List Loc) : Prop := v = some (.int (0 : Int32)) ∧ Fr n0 L ∧ h = h0
set_option maxRecDepth 65536 in
set_option maxHeartbeats 40000000 in
theorem rm_ix1N (l : Launch) (Z : State) (a0 : Array Value) (hw : ∀ d ∈ tables_1, d.before a0 Z = true) (ws : List Jvm.Cond) (w_instance : Addr) (w_A : Addr) (c_A : Cell) (zc : Int32) (t : Addr) (kb : ClassId) (c : Int32) (h0 : Heap) (n0 : Nat) (O0 : Old Z n0 h0) (hS : St0 Z w_instance w_A c_A zc ) (V_t : Arv Z h0 t kb .byte (1 : Int32) [(.int (c.toInt8.toInt32))] (.int (0 : Int32))) (rc : oRg c) (wc : oWs c = false) :
    MetFree l (⟨"java/lang/StringLatin1", "indexOfNonWhitespace", "([B)I"⟩ : MethodName) (head1 (Jvm.Cond.code (⟨"java/lang/StringLatin1", "indexOfNonWhitespace", "([B)I"⟩ : MethodName) jdk_43_method_37_code 4 (some .int) :: ws) ({ frames := 2, cells := 0, slots := 0, locals := 29 } : Room)) (fun aG UG => aG = #[(.ref t)] ∧ Z.Warmed39 UG.vm ∧ UG.heap = h0) (fun _ _ _ _ _ => True) (fun _ UG oG UG' => ∃ vG LG, oG = .returned vG ∧ Q_rm_ix1N Z w_instance w_A c_A zc t kb c h0 n0 vG UG'.heap LG ∧ FrameEnd UG oG UG' LG ({ frames := 2, cells := 0, slots := 0, locals := 29 } : Room).cells ({ frames := 2, cells := 0, slots := 0, locals := 29 } : Room).slots) := by
  refine MetFree.of_bodySF (plainFor_of_name pn_1) hisR ?_
  intro pG eG sG mG rG bG fG cG s₁ Bd hml0 hP hK
  obtain ⟨rfl, hZ, hh⟩ := hP
  have hx := Bd.exec
  have yb := Bd.bytes
  have hml : cG.maxLocals = 4 := hml0
  have hown : sG.vm.findClass "java/lang/StringLatin1" = some mG.cls := findClass_of_methodNamed Bd.named
  have hnm := (name_of_methodNamed Bd.named Bd.method).1
  have X0 : Stand pG l eG ({ frames := 2, cells := 0, slots := 0, locals := 29 } : Room) sG mG #[(.ref t)] bG fG cG s₁ [] 0 0 := Stand.of_body Bd
  have e0 : s₁.heap = h0 := by rw [← hh, Bd.state]; rfl
  have N0 := Fr.nil n0
  have K0 := Keep.refl h0 []
  obtain ⟨S_w_instance, E_w_instance, S_w_A, E_w_A, V_w_A, S_zc, hzc⟩ := (id hS : St0 Z w_instance w_A c_A zc )
  refine ostart (g' := (mkF mG 0 #[oa t, .unset, .unset, .unset] [])) (by first | (simp [entryFrame, mkF, argsToLocals, Value.category]; done) | rfl) ?_
  refine ob s₁ (mkF mG 1 #[oa t, .unset, .unset, .unset] [(.ref t)]) (fun _ kk => XS.aloadN X0.here hx rfl (hb yb d10_0) rfl rfl kk) ?_
  obtain ⟨cl1, Ar1, -, S1, N1a, -, -⟩ := id V_t
  refine oby (T' := s₁) (g' := (mkF mG 2 #[oa t, .unset, .unset, .unset] [(.int (1 : Int32))])) (fun ot ok => X0.arraylength hx (by rw [e0]; exact Ar1.1) (State.isArrayOf_alike hZ.alike Ar1.2.1) (g := (mkF mG 1 #[oa t, .unset, .unset, .unset] [(.ref t)])) rfl rfl (hb yb d10_1) _ (by rw [len_of S1 N1a]; exact ok)) ?_
  refine ob s₁ (mkF mG 3 #[oa t, oi (1 : Int32), .unset, .unset] []) (fun _ kk => XS.istoreN X0.here hx rfl (hb yb d10_2) rfl (l' := #[oa t, oi (1 : Int32), .unset, .unset]) rfl kk) ?_
  refine ob s₁ (mkF mG 4 #[oa t, oi (1 : Int32), .unset, .unset] [(.int (0 : Int32))]) (fun _ kk => XS.iconst X0.here hx rfl (hb yb d10_3) kk) ?_
  refine ob s₁ (mkF mG 5 #[oa t, oi (1 : Int32), oi (0 : Int32), .unset] []) (fun _ kk => XS.istoreN X0.here hx rfl (hb yb d10_4) rfl (l' := #[oa t, oi (1 : Int32), oi (0 : Int32), .unset]) rfl kk) ?_
  refine ob s₁ (mkF mG 6 #[oa t, oi (1 : Int32), oi (0 : Int32), .unset] [(.int (0 : Int32))]) (fun _ kk => XS.iloadN X0.here hx rfl (hb yb d10_5) rfl kk) ?_
  refine ob s₁ (mkF mG 7 #[oa t, oi (1 : Int32), oi (0 : Int32), .unset] [(.int (1 : Int32)), (.int (0 : Int32))]) (fun _ kk => XS.iloadN X0.here hx rfl (hb yb d10_6) rfl kk) ?_
  refine ob s₁ (mkF mG 10 #[oa t, oi (1 : Int32), oi (0 : Int32), .unset] []) (fun _ kk => XS.icmpNo X0.here hx rfl (hb yb d10_7) rfl (tlt (by decide : (0 : Int32) < (1 : Int32))).2.1 kk) ?_
  refine ob s₁ (mkF mG 11 #[oa t, oi (1 : Int32), oi (0 : Int32), .unset] [(.ref t)]) (fun _ kk => XS.aloadN X0.here hx rfl (hb yb d10_10) rfl rfl kk) ?_
  refine ob s₁ (mkF mG 12 #[oa t, oi (1 : Int32), oi (0 : Int32), .unset] [(.int (0 : Int32)), (.ref t)]) (fun _ kk => XS.iloadN X0.here hx rfl (hb yb d10_11) rfl kk) ?_
  obtain ⟨_, _, ⟨T2, L2, k2, n2⟩, -, X2, ⟨Lc2, hQ2, l2, y2, z2⟩, st2⟩ := Jvm.LawKit.callS X0 hx (y := (⟨"java/lang/StringLatin1", "getChar", "([BI)C"⟩ : MethodName)) hown (mvT hZ (ow hw 88 rfl)) (mvT hZ (ow hw 89 rfl)) (mvT hZ (ow hw 56 rfl)) (mvT hZ (ow hw 90 rfl)) (by decide) (backOf (W := 0) (rm_gc10 l Z a0 hw [] w_instance w_A c_A zc t kb c h0 n0 O0 hS V_t rc) hZ (ow hw 90 rfl) (ow hw 56 rfl) (by decide) (by decide)) (g := (mkF mG 12 #[oa t, oi (1 : Int32), oi (0 : Int32), .unset] [(.int (0 : Int32)), (.ref t)])) rfl (by rw [hml]; rfl) (argsL := [(.ref t), (.int (0 : Int32))]) (rest := []) (lenOf pd_4 rfl) rfl (by show 2 * 0 + _ ≤ _; exact Nat.le_of_eq rfl) (hb yb d10_12) (fun _ _ => ⟨rfl, e0, (by decide : 0 + 0 ≤ _), (by decide : 0 + 0 ≤ _)⟩)
  dsimp only [Pt.U, Pt.locs, Pt.cells, Pt.slots] at X2 l2 y2 z2 st2 hQ2
  subst l2 y2 z2
  obtain ⟨rfl, N2q, e2⟩ := hQ2
  have N2 := Fr.app N0 N2q
  refine ob T2 (mkF mG 15 #[oa t, oi (1 : Int32), oi (0 : Int32), .unset] [(.int c)]) (fun _ kk => st2 _ kk) ?_
  refine ob T2 (mkF mG 16 #[oa t, oi (1 : Int32), oi (0 : Int32), oi c] []) (fun _ kk => XS.istoreN X2.here hx rfl (hb yb d10_15) rfl (l' := #[oa t, oi (1 : Int32), oi (0 : Int32), oi c]) rfl kk) ?_
  refine ob T2 (mkF mG 17 #[oa t, oi (1 : Int32), oi (0 : Int32), oi c] [(.int c)]) (fun _ kk => XS.iloadN X2.here hx rfl (hb yb d10_16) rfl kk) ?_
  refine ob T2 (mkF mG 19 #[oa t, oi (1 : Int32), oi (0 : Int32), oi c] [(.int (32 : Int32)), (.int c)]) (fun _ kk => XS.bipush X2.here hx rfl (hb yb d10_17) kk) ?_
  refine ob T2 (mkF mG 22 #[oa t, oi (1 : Int32), oi (0 : Int32), oi c] []) (fun _ kk => XS.icmpNo X2.here hx rfl (hb yb d10_19) rfl (feq (own_n32 wc)).1 kk) ?_
  refine ob T2 (mkF mG 23 #[oa t, oi (1 : Int32), oi (0 : Int32), oi c] [(.int c)]) (fun _ kk => XS.iloadN X2.here hx rfl (hb yb d10_22) rfl kk) ?_
  refine ob T2 (mkF mG 25 #[oa t, oi (1 : Int32), oi (0 : Int32), oi c] [(.int (9 : Int32)), (.int c)]) (fun _ kk => XS.bipush X2.here hx rfl (hb yb d10_23) kk) ?_
  refine ob T2 (mkF mG 28 #[oa t, oi (1 : Int32), oi (0 : Int32), oi c] []) (fun _ kk => XS.icmpNo X2.here hx rfl (hb yb d10_25) rfl (feq (own_n9 wc)).1 kk) ?_
  obtain ⟨T3, X3, e3, st3⟩ := getS2 X2 hx hZ hown (host := "") (Or.inl (ow hw 91 rfl)) Via.refl e2 (S_w_instance.ext O0.2) (g := (mkF mG 28 #[oa t, oi (1 : Int32), oi (0 : Int32), oi c] [])) rfl (hb yb d10_28)
  refine ob T3 (mkF mG 31 #[oa t, oi (1 : Int32), oi (0 : Int32), oi c] [(.ref w_instance)]) (fun _ kk => st3 _ kk) ?_
  refine ob T3 (mkF mG 32 #[oa t, oi (1 : Int32), oi (0 : Int32), oi c] [(.int c), (.ref w_instance)]) (fun _ kk => XS.iloadN X3.here hx rfl (hb yb d10_31) rfl kk) ?_
  obtain ⟨cq4, kq4, q4a, q4b, q4c⟩ := isOf hZ e3 (E_w_instance.ext O0.2)
  obtain ⟨_, _, ⟨T4, L4, k4, n4⟩, -, X4, ⟨Lc4, hQ4, l4, y4, z4⟩, st4⟩ := X3.virtualBack hx (y := (⟨"java/lang/CharacterDataLatin1", "isWhitespace", "(I)Z"⟩ : MethodName)) (z := (⟨"java/lang/CharacterDataLatin1", "isWhitespace", "(I)Z"⟩ : MethodName)) hown (mvT hZ (ow hw 93 rfl)) (mvT hZ (ow hw 94 rfl)) (notFace_of_selects (args := #[]) (mvT hZ (ow hw 96 rfl))) (mvT hZ (ow hw 96 rfl)) (mvT hZ (ow hw 95 rfl)) (by decide) (backOf (W := 0) (rm_iswN l Z a0 hw [] w_instance w_A c_A zc c h0 n0 O0 hS rc wc) hZ (ow hw 97 rfl) (ow hw 92 rfl) (by decide) (by decide)) q4a q4c (g := (mkF mG 32 #[oa t, oi (1 : Int32), oi (0 : Int32), oi c] [(.int c), (.ref w_instance)])) rfl (by rw [hml]; rfl) (Steps.refl _) (argsL := [(.int c)]) (rest := []) (lenOf pd_5 rfl) rfl (by show 2 * 0 + _ ≤ _; exact Nat.le_of_eq rfl) (hb yb d10_32) (fun _ _ => ⟨rfl, e3, (by decide : 0 + 0 ≤ _), (by decide : 0 + 0 ≤ _)⟩)
  dsimp only [Pt.U, Pt.locs, Pt.cells, Pt.slots] at X4 l4 y4 z4 st4 hQ4
  subst l4 y4 z4
  obtain ⟨rfl, N4q, e4⟩ := hQ4
  have N4 := Fr.app N2 N4q
  refine ob T4 (mkF mG 35 #[oa t, oi (1 : Int32), oi (0 : Int32), oi c] [(.int (0 : Int32))]) (fun _ kk => st4.trans kk) ?_
  refine ob T4 (mkF mG 38 #[oa t, oi (1 : Int32), oi (0 : Int32), oi c] []) (fun _ kk => XS.ifNo X4.here hx rfl (hb yb d10_35) rfl ((if0 _ _).trans (teq (by decide : (0 : Int32) = (0 : Int32))).2) kk) ?_
  refine ob T4 (mkF mG 47 #[oa t, oi (1 : Int32), oi (0 : Int32), oi c] []) (fun _ kk => XS.goto X4.here hx rfl (pc0 := 38) (pc' := 47) rfl (hb yb d10_38) (by decide) (by decide) kk) ?_
  refine ob T4 (mkF mG 48 #[oa t, oi (1 : Int32), oi (0 : Int32), oi c] [(.int (0 : Int32))]) (fun _ kk => XS.iloadN X4.here hx rfl (hb yb d10_47) rfl kk) ?_
  obtain ⟨fs, hr, hrun, hended, hW, hsame⟩ := X4.leave (v := some (.int (0 : Int32))) (fun h => by rw [Bd.returns] at h; cases h)
  refine oout (retOut X4 hx Bd.returns rfl (Or.inl ⟨rfl, Or.inl rfl, _, rfl⟩) (hb yb d10_48) hr) hrun hended ⟨_, _, rfl, ?_, ⟨_, rfl⟩, hW, hsame.mono (by decide) (by decide)⟩
  show Q_rm_ix1N Z w_instance w_A c_A zc t kb c h0 n0 _ T4.heap _
  rw [e4]
  exact ⟨rfl, N4, rfl⟩

def Q_rm_six1N (Z : State) (w_instance : Addr) (w_A : Addr) (c_A : Cell) (zc : Int32) (a : Addr) (t : Addr) (kb : ClassId) (c : Int32) (h0 : Heap) (n0 : Nat) (v : Option Value) (h : Heap) (L : List Loc) : Prop := v = some (.int (0 : Int32)) ∧ Fr n0 L ∧ h = h0
set_option maxRecDepth 65536 in
set_option maxHeartbeats 40000000 in
theorem rm_six1N (l : Launch) (Z : State) (a0 : Array Value) (hw : ∀ d ∈ tables_1, d.before a0 Z = true) (ws : List Jvm.Cond) (w_instance : Addr) (w_A : Addr) (c_A : Cell) (zc : Int32) (a : Addr) (t : Addr) (kb : ClassId) (c : Int32) (h0 : Heap) (n0 : Nat) (O0 : Old Z n0 h0) (hS : St0 Z w_instance w_A c_A zc ) (E_a : Exa Z h0 a "java/lang/String") (F_c : Fld Z h0 a "java/lang/String" "coder" "B" (.int (0 : Int32))) (F_v : Fld Z h0 a "java/lang/String" "value" "[B" (.ref t)) (V_t : Arv Z h0 t kb .byte (1 : Int32) [(.int (c.toInt8.toInt32))] (.int (0 : Int32))) (rc : oRg c) (wc : oWs c = false) :
    MetFree l (⟨"java/lang/String", "indexOfNonWhitespace", "()I"⟩ : MethodName) (head1 (Jvm.Cond.code (⟨"java/lang/String", "indexOfNonWhitespace", "()I"⟩ : MethodName) jdk_42_method_120_code 1 (some .int) :: ws) ({ frames := 3, cells := 0, slots := 0, locals := 44 } : Room)) (fun aG UG => aG = #[(.ref a)] ∧ Z.Warmed39 UG.vm ∧ UG.heap = h0) (fun _ _ _ _ _ => True) (fun _ UG oG UG' => ∃ vG LG, oG = .returned vG ∧ Q_rm_six1N Z w_instance w_A c_A zc a t kb c h0 n0 vG UG'.heap LG ∧ FrameEnd UG oG UG' LG ({ frames := 3, cells := 0, slots := 0, locals := 44 } : Room).cells ({ frames := 3, cells := 0, slots := 0, locals := 44 } : Room).slots) := by
  refine MetFree.of_bodySF (plainFor_of_name pn_0) hisR ?_
  intro pG eG sG mG rG bG fG cG s₁ Bd hml0 hP hK
  obtain ⟨rfl, hZ, hh⟩ := hP
  have hx := Bd.exec
  have yb := Bd.bytes
  have hml : cG.maxLocals = 1 := hml0
  have hown : sG.vm.findClass "java/lang/String" = some mG.cls := findClass_of_methodNamed Bd.named
  have hnm := (name_of_methodNamed Bd.named Bd.method).1
  have X0 : Stand pG l eG ({ frames := 3, cells := 0, slots := 0, locals := 44 } : Room) sG mG #[(.ref a)] bG fG cG s₁ [] 0 0 := Stand.of_body Bd
  have e0 : s₁.heap = h0 := by rw [← hh, Bd.state]; rfl
  have N0 := Fr.nil n0
  have K0 := Keep.refl h0 []
  obtain ⟨S_w_instance, E_w_instance, S_w_A, E_w_A, V_w_A, S_zc, hzc⟩ := (id hS : St0 Z w_instance w_A c_A zc )
  refine ostart (g' := (mkF mG 0 #[oa a] [])) (by first | (simp [entryFrame, mkF, argsToLocals, Value.category]; done) | rfl) ?_
  refine ob s₁ (mkF mG 1 #[oa a] [(.ref a)]) (fun _ kk => XS.aloadN X0.here hx rfl (hb yb d8_0) rfl rfl kk) ?_
  obtain ⟨cq1, kq1, q1a, q1b, q1c⟩ := isOf hZ e0 E_a
  obtain ⟨_, _, ⟨T1, L1, k1, n1⟩, -, X1, ⟨Lc1, hQ1, l1, y1, z1⟩, st1⟩ := X0.virtualBack hx (y := (⟨"java/lang/String", "isLatin1", "()Z"⟩ : MethodName)) (z := (⟨"java/lang/String", "isLatin1", "()Z"⟩ : MethodName)) hown (mvT hZ (ow hw 48 rfl)) (mvT hZ (ow hw 49 rfl)) (notFace_of_selects (args := #[]) (mvT hZ (ow hw 51 rfl))) (mvT hZ (ow hw 51 rfl)) (mvT hZ (ow hw 50 rfl)) (by decide) (backOf (W := 0) (rm_lat l Z a0 hw [] w_instance w_A c_A zc a h0 n0 O0 hS F_c) hZ (ow hw 52 rfl) (ow hw 6 rfl) (by decide) (by decide)) q1a q1c (g := (mkF mG 1 #[oa a] [(.ref a)])) rfl (by rw [hml]; rfl) (Steps.refl _) (argsL := []) (rest := []) (lenOf pd_2 rfl) rfl (by show 2 * 0 + _ ≤ _; exact Nat.le_of_eq rfl) (hb yb d8_1) (fun _ _ => ⟨rfl, e0, (by decide : 0 + 0 ≤ _), (by decide : 0 + 0 ≤ _)⟩)
  dsimp only [Pt.U, Pt.locs, Pt.cells, Pt.slots] at X1 l1 y1 z1 st1 hQ1
  subst l1 y1 z1
  obtain ⟨rfl, N1q, e1⟩ := hQ1
  have N1 := Fr.app N0 N1q
  refine ob T1 (mkF mG 4 #[oa a] [(.int (1 : Int32))]) (fun _ kk => st1.trans kk) ?_
  refine ob T1 (mkF mG 7 #[oa a] []) (fun _ kk => XS.ifNo X1.here hx rfl (hb yb d8_4) rfl ((if0 _ _).trans (feq (by decide : ¬ ((1 : Int32) = (0 : Int32)))).1) kk) ?_
  refine ob T1 (mkF mG 8 #[oa a] [(.ref a)]) (fun _ kk => XS.aloadN X1.here hx rfl (hb yb d8_7) rfl rfl kk) ?_
  obtain ⟨T2, X2, e2, st2⟩ := getF X1 hx hZ hown (host := "") (Or.inl (ow hw 24 rfl)) Via.refl e1 F_v (g := (mkF mG 8 #[oa a] [(.ref a)])) rfl rfl (hb yb d8_8)
  refine ob T2 (mkF mG 11 #[oa a] [(.ref t)]) (fun _ kk => st2 _ kk) ?_
  obtain ⟨_, _, ⟨T3, L3, k3, n3⟩, -, X3, ⟨Lc3, hQ3, l3, y3, z3⟩, st3⟩ := Jvm.LawKit.callS X2 hx (y := (⟨"java/lang/StringLatin1", "indexOfNonWhitespace", "([B)I"⟩ : MethodName)) hown (mvT hZ (ow hw 54 rfl)) (mvT hZ (ow hw 55 rfl)) (mvT hZ (ow hw 56 rfl)) (mvT hZ (ow hw 57 rfl)) (by decide) (backOf (W := 0) (rm_ix1N l Z a0 hw [] w_instance w_A c_A zc t kb c h0 n0 O0 hS V_t rc wc) hZ (ow hw 57 rfl) (ow hw 56 rfl) (by decide) (by decide)) (g := (mkF mG 11 #[oa a] [(.ref t)])) rfl (by rw [hml]; rfl) (argsL := [(.ref t)]) (rest := []) (lenOf pd_3 rfl) rfl (by show 2 * 0 + _ ≤ _; exact Nat.le_of_eq rfl) (hb yb d8_11) (fun _ _ => ⟨rfl, e2, (by decide : 0 + 0 ≤ _), (by decide : 0 + 0 ≤ _)⟩)
  dsimp only [Pt.U, Pt.locs, Pt.cells, Pt.slots] at X3 l3 y3 z3 st3 hQ3
  subst l3 y3 z3
  obtain ⟨rfl, N3q, e3⟩ := hQ3
  have N3 := Fr.app N1 N3q
  refine ob T3 (mkF mG 14 #[oa a] [(.int (0 : Int32))]) (fun _ kk => st3 _ kk) ?_
  refine ob T3 (mkF mG 24 #[oa a] [(.int (0 : Int32))]) (fun _ kk => XS.goto X3.here hx rfl (pc0 := 14) (pc' := 24) rfl (hb yb d8_14) (by decide) (by decide) kk) ?_
  obtain ⟨fs, hr, hrun, hended, hW, hsame⟩ := X3.leave (v := some (.int (0 : Int32))) (fun h => by rw [Bd.returns] at h; cases h)
  refine oout (retOut X3 hx Bd.returns rfl (Or.inl ⟨rfl, Or.inl rfl, _, rfl⟩) (hb yb d8_24) hr) hrun hended ⟨_, _, rfl, ?_, ⟨_, rfl⟩, hW, hsame.mono (by decide) (by decide)⟩
  show Q_rm_six1N Z w_instance w_A c_A zc a t kb c h0 n0 _ T3.heap _
  rw [e3]
  exact ⟨rfl, N3, rfl⟩

def Q_rm_ix2N (Z : State) (w_instance : Addr) (w_A : Addr) (c_A : Cell) (zc : Int32) (t : Addr) (kb : ClassId) (c : Int32) (d : Int32) (h0 : Heap) (n0 : Nat) (v : Option Value) (h : Heap) (L : List Loc) : Prop := v = some (.int (0 : Int32)) ∧ Fr n0 L ∧ h = h0
set_option maxRecDepth 65536 in
set_option maxHeartbeats 40000000 in
theorem rm_ix2N (l : Launch) (Z : State) (a0 : Array Value) (hw : ∀ d ∈ tables_1, d.before a0 Z = true) (ws : List Jvm.Cond) (w_instance : Addr) (w_A : Addr) (c_A : Cell) (zc : Int32) (t : Addr) (kb : ClassId) (c : Int32) (d : Int32) (h0 : Heap) (n0 : Nat) (O0 : Old Z n0 h0) (hS : St0 Z w_instance w_A c_A zc ) (V_t : Arv Z h0 t kb .byte (2 : Int32) [(.int (c.toInt8.toInt32)), (.int (d.toInt8.toInt32))] (.int (0 : Int32))) (rc : oRg c) (wc : oWs c = false) :
    MetFree l (⟨"java/lang/StringLatin1", "indexOfNonWhitespace", "([B)I"⟩ : MethodName) (head1 (Jvm.Cond.code (⟨"java/lang/StringLatin1", "indexOfNonWhitespace", "([B)I"⟩ : MethodName) jdk_43_method_37_code 4 (some .int) :: ws) ({ frames := 2, cells := 0, slots := 0, locals := 29 } : Room)) (fun aG UG => aG = #[(.ref t)] ∧ Z.Warmed39 UG.vm ∧ UG.heap = h0) (fun _ _ _ _ _ => True) (fun _ UG oG UG' => ∃ vG LG, oG = .returned vG ∧ Q_rm_ix2N Z w_instance w_A c_A zc t kb c d h0 n0 vG UG'.heap LG ∧ FrameEnd UG oG UG' LG ({ frames := 2, cells := 0, slots := 0, locals := 29 } : Room).cells ({ frames := 2, cells := 0, slots := 0, locals := 29 } : Room).slots) := by
  refine MetFree.of_bodySF (plainFor_of_name pn_1) hisR ?_
  intro pG eG sG mG rG bG fG cG s₁ Bd hml0 hP hK
  obtain ⟨rfl, hZ, hh⟩ := hP
  have hx := Bd.exec
  have yb := Bd.bytes
  have hml : cG.maxLocals = 4 := hml0
  have hown : sG.vm.findClass "java/lang/StringLatin1" = some mG.cls := findClass_of_methodNamed Bd.named
  have hnm := (name_of_methodNamed Bd.named Bd.method).1
  have X0 : Stand pG l eG ({ frames := 2, cells := 0, slots := 0, locals := 29 } : Room) sG mG #[(.ref t)] bG fG cG s₁ [] 0 0 := Stand.of_body Bd
  have e0 : s₁.heap = h0 := by rw [← hh, Bd.state]; rfl
  have N0 := Fr.nil n0
  have K0 := Keep.refl h0 []
  obtain ⟨S_w_instance, E_w_instance, S_w_A, E_w_A, V_w_A, S_zc, hzc⟩ := (id hS : St0 Z w_instance w_A c_A zc )
  refine ostart (g' := (mkF mG 0 #[oa t, .unset, .unset, .unset] [])) (by first | (simp [entryFrame, mkF, argsToLocals, Value.category]; done) | rfl) ?_
  refine ob s₁ (mkF mG 1 #[oa t, .unset, .unset, .unset] [(.ref t)]) (fun _ kk => XS.aloadN X0.here hx rfl (hb yb d10_0) rfl rfl kk) ?_
  obtain ⟨cl1, Ar1, -, S1, N1a, -, -⟩ := id V_t
  refine oby (T' := s₁) (g' := (mkF mG 2 #[oa t, .unset, .unset, .unset] [(.int (2 : Int32))])) (fun ot ok => X0.arraylength hx (by rw [e0]; exact Ar1.1) (State.isArrayOf_alike hZ.alike Ar1.2.1) (g := (mkF mG 1 #[oa t, .unset, .unset, .unset] [(.ref t)])) rfl rfl (hb yb d10_1) _ (by rw [len_of S1 N1a]; exact ok)) ?_
  refine ob s₁ (mkF mG 3 #[oa t, oi (2 : Int32), .unset, .unset] []) (fun _ kk => XS.istoreN X0.here hx rfl (hb yb d10_2) rfl (l' := #[oa t, oi (2 : Int32), .unset, .unset]) rfl kk) ?_
  refine ob s₁ (mkF mG 4 #[oa t, oi (2 : Int32), .unset, .unset] [(.int (0 : Int32))]) (fun _ kk => XS.iconst X0.here hx rfl (hb yb d10_3) kk) ?_
  refine ob s₁ (mkF mG 5 #[oa t, oi (2 : Int32), oi (0 : Int32), .unset] []) (fun _ kk => XS.istoreN X0.here hx rfl (hb yb d10_4) rfl (l' := #[oa t, oi (2 : Int32), oi (0 : Int32), .unset]) rfl kk) ?_
  refine ob s₁ (mkF mG 6 #[oa t, oi (2 : Int32), oi (0 : Int32), .unset] [(.int (0 : Int32))]) (fun _ kk => XS.iloadN X0.here hx rfl (hb yb d10_5) rfl kk) ?_
  refine ob s₁ (mkF mG 7 #[oa t, oi (2 : Int32), oi (0 : Int32), .unset] [(.int (2 : Int32)), (.int (0 : Int32))]) (fun _ kk => XS.iloadN X0.here hx rfl (hb yb d10_6) rfl kk) ?_
  refine ob s₁ (mkF mG 10 #[oa t, oi (2 : Int32), oi (0 : Int32), .unset] []) (fun _ kk => XS.icmpNo X0.here hx rfl (hb yb d10_7) rfl (tlt (by decide : (0 : Int32) < (2 : Int32))).2.1 kk) ?_
  refine ob s₁ (mkF mG 11 #[oa t, oi (2 : Int32), oi (0 : Int32), .unset] [(.ref t)]) (fun _ kk => XS.aloadN X0.here hx rfl (hb yb d10_10) rfl rfl kk) ?_
  refine ob s₁ (mkF mG 12 #[oa t, oi (2 : Int32), oi (0 : Int32), .unset] [(.int (0 : Int32)), (.ref t)]) (fun _ kk => XS.iloadN X0.here hx rfl (hb yb d10_11) rfl kk) ?_
  obtain ⟨_, _, ⟨T2, L2, k2, n2⟩, -, X2, ⟨Lc2, hQ2, l2, y2, z2⟩, st2⟩ := Jvm.LawKit.callS X0 hx (y := (⟨"java/lang/StringLatin1", "getChar", "([BI)C"⟩ : MethodName)) hown (mvT hZ (ow hw 88 rfl)) (mvT hZ (ow hw 89 rfl)) (mvT hZ (ow hw 56 rfl)) (mvT hZ (ow hw 90 rfl)) (by decide) (backOf (W := 0) (rm_gc20 l Z a0 hw [] w_instance w_A c_A zc t kb c d h0 n0 O0 hS V_t rc) hZ (ow hw 90 rfl) (ow hw 56 rfl) (by decide) (by decide)) (g := (mkF mG 12 #[oa t, oi (2 : Int32), oi (0 : Int32), .unset] [(.int (0 : Int32)), (.ref t)])) rfl (by rw [hml]; rfl) (argsL := [(.ref t), (.int (0 : Int32))]) (rest := []) (lenOf pd_4 rfl) rfl (by show 2 * 0 + _ ≤ _; exact Nat.le_of_eq rfl) (hb yb d10_12) (fun _ _ => ⟨rfl, e0, (by decide : 0 + 0 ≤ _), (by decide : 0 + 0 ≤ _)⟩)
  dsimp only [Pt.U, Pt.locs, Pt.cells, Pt.slots] at X2 l2 y2 z2 st2 hQ2
  subst l2 y2 z2
  obtain ⟨rfl, N2q, e2⟩ := hQ2
  have N2 := Fr.app N0 N2q
  refine ob T2 (mkF mG 15 #[oa t, oi (2 : Int32), oi (0 : Int32), .unset] [(.int c)]) (fun _ kk => st2 _ kk) ?_
  refine ob T2 (mkF mG 16 #[oa t, oi (2 : Int32), oi (0 : Int32), oi c] []) (fun _ kk => XS.istoreN X2.here hx rfl (hb yb d10_15) rfl (l' := #[oa t, oi (2 : Int32), oi (0 : Int32), oi c]) rfl kk) ?_
  refine ob T2 (mkF mG 17 #[oa t, oi (2 : Int32), oi (0 : Int32), oi c] [(.int c)]) (fun _ kk => XS.iloadN X2.here hx rfl (hb yb d10_16) rfl kk) ?_
  refine ob T2 (mkF mG 19 #[oa t, oi (2 : Int32), oi (0 : Int32), oi c] [(.int (32 : Int32)), (.int c)]) (fun _ kk => XS.bipush X2.here hx rfl (hb yb d10_17) kk) ?_
  refine ob T2 (mkF mG 22 #[oa t, oi (2 : Int32), oi (0 : Int32), oi c] []) (fun _ kk => XS.icmpNo X2.here hx rfl (hb yb d10_19) rfl (feq (own_n32 wc)).1 kk) ?_
  refine ob T2 (mkF mG 23 #[oa t, oi (2 : Int32), oi (0 : Int32), oi c] [(.int c)]) (fun _ kk => XS.iloadN X2.here hx rfl (hb yb d10_22) rfl kk) ?_
  refine ob T2 (mkF mG 25 #[oa t, oi (2 : Int32), oi (0 : Int32), oi c] [(.int (9 : Int32)), (.int c)]) (fun _ kk => XS.bipush X2.here hx rfl (hb yb d10_23) kk) ?_
  refine ob T2 (mkF mG 28 #[oa t, oi (2 : Int32), oi (0 : Int32), oi c] []) (fun _ kk => XS.icmpNo X2.here hx rfl (hb yb d10_25) rfl (feq (own_n9 wc)).1 kk) ?_
  obtain ⟨T3, X3, e3, st3⟩ := getS2 X2 hx hZ hown (host := "") (Or.inl (ow hw 91 rfl)) Via.refl e2 (S_w_instance.ext O0.2) (g := (mkF mG 28 #[oa t, oi (2 : Int32), oi (0 : Int32), oi c] [])) rfl (hb yb d10_28)
  refine ob T3 (mkF mG 31 #[oa t, oi (2 : Int32), oi (0 : Int32), oi c] [(.ref w_instance)]) (fun _ kk => st3 _ kk) ?_
  refine ob T3 (mkF mG 32 #[oa t, oi (2 : Int32), oi (0 : Int32), oi c] [(.int c), (.ref w_instance)]) (fun _ kk => XS.iloadN X3.here hx rfl (hb yb d10_31) rfl kk) ?_
  obtain ⟨cq4, kq4, q4a, q4b, q4c⟩ := isOf hZ e3 (E_w_instance.ext O0.2)
  obtain ⟨_, _, ⟨T4, L4, k4, n4⟩, -, X4, ⟨Lc4, hQ4, l4, y4, z4⟩, st4⟩ := X3.virtualBack hx (y := (⟨"java/lang/CharacterDataLatin1", "isWhitespace", "(I)Z"⟩ : MethodName)) (z := (⟨"java/lang/CharacterDataLatin1", "isWhitespace", "(I)Z"⟩ : MethodName)) hown (mvT hZ (ow hw 93 rfl)) (mvT hZ (ow hw 94 rfl)) (notFace_of_selects (args := #[]) (mvT hZ (ow hw 96 rfl))) (mvT hZ (ow hw 96 rfl)) (mvT hZ (ow hw 95 rfl)) (by decide) (backOf (W := 0) (rm_iswN l Z a0 hw [] w_instance w_A c_A zc c h0 n0 O0 hS rc wc) hZ (ow hw 97 rfl) (ow hw 92 rfl) (by decide) (by decide)) q4a q4c (g := (mkF mG 32 #[oa t, oi (2 : Int32), oi (0 : Int32), oi c] [(.int c), (.ref w_instance)])) rfl (by rw [hml]; rfl) (Steps.refl _) (argsL := [(.int c)]) (rest := []) (lenOf pd_5 rfl) rfl (by show 2 * 0 + _ ≤ _; exact Nat.le_of_eq rfl) (hb yb d10_32) (fun _ _ => ⟨rfl, e3, (by decide : 0 + 0 ≤ _), (by decide : 0 + 0 ≤ _)⟩)
  dsimp only [Pt.U, Pt.locs, Pt.cells, Pt.slots] at X4 l4 y4 z4 st4 hQ4
  subst l4 y4 z4
  obtain ⟨rfl, N4q, e4⟩ := hQ4
  have N4 := Fr.app N2 N4q
  refine ob T4 (mkF mG 35 #[oa t, oi (2 : Int32), oi (0 : Int32), oi c] [(.int (0 : Int32))]) (fun _ kk => st4.trans kk) ?_
  refine ob T4 (mkF mG 38 #[oa t, oi (2 : Int32), oi (0 : Int32), oi c] []) (fun _ kk => XS.ifNo X4.here hx rfl (hb yb d10_35) rfl ((if0 _ _).trans (teq (by decide : (0 : Int32) = (0 : Int32))).2) kk) ?_
  refine ob T4 (mkF mG 47 #[oa t, oi (2 : Int32), oi (0 : Int32), oi c] []) (fun _ kk => XS.goto X4.here hx rfl (pc0 := 38) (pc' := 47) rfl (hb yb d10_38) (by decide) (by decide) kk) ?_
  refine ob T4 (mkF mG 48 #[oa t, oi (2 : Int32), oi (0 : Int32), oi c] [(.int (0 : Int32))]) (fun _ kk => XS.iloadN X4.here hx rfl (hb yb d10_47) rfl kk) ?_
  obtain ⟨fs, hr, hrun, hended, hW, hsame⟩ := X4.leave (v := some (.int (0 : Int32))) (fun h => by rw [Bd.returns] at h; cases h)
  refine oout (retOut X4 hx Bd.returns rfl (Or.inl ⟨rfl, Or.inl rfl, _, rfl⟩) (hb yb d10_48) hr) hrun hended ⟨_, _, rfl, ?_, ⟨_, rfl⟩, hW, hsame.mono (by decide) (by decide)⟩
  show Q_rm_ix2N Z w_instance w_A c_A zc t kb c d h0 n0 _ T4.heap _
  rw [e4]
  exact ⟨rfl, N4, rfl⟩

def Q_rm_six2N (Z : State) (w_instance : Addr) (w_A : Addr) (c_A : Cell) (zc : Int32) (a : Addr) (t : Addr) (kb : ClassId) (c : Int32) (d : Int32) (h0 : Heap) (n0 : Nat) (v : Option Value) (h : Heap) (L : List Loc) : Prop := v = some (.int (0 : Int32)) ∧ Fr n0 L ∧ h = h0
set_option maxRecDepth 65536 in
set_option maxHeartbeats 40000000 in
theorem rm_six2N (l : Launch) (Z : State) (a0 : Array Value) (hw : ∀ d ∈ tables_1, d.before a0 Z = true) (ws : List Jvm.Cond) (w_instance : Addr) (w_A : Addr) (c_A : Cell) (zc : Int32) (a : Addr) (t : Addr) (kb : ClassId) (c : Int32) (d : Int32) (h0 : Heap) (n0 : Nat) (O0 : Old Z n0 h0) (hS : St0 Z w_instance w_A c_A zc ) (E_a : Exa Z h0 a "java/lang/String") (F_c : Fld Z h0 a "java/lang/String" "coder" "B" (.int (0 : Int32))) (F_v : Fld Z h0 a "java/lang/String" "value" "[B" (.ref t)) (V_t : Arv Z h0 t kb .byte (2 : Int32) [(.int (c.toInt8.toInt32)), (.int (d.toInt8.toInt32))] (.int (0 : Int32))) (rc : oRg c) (wc : oWs c = false) :
    MetFree l (⟨"java/lang/String", "indexOfNonWhitespace", "()I"⟩ : MethodName) (head1 (Jvm.Cond.code (⟨"java/lang/String", "indexOfNonWhitespace", "()I"⟩ : MethodName) jdk_42_method_120_code 1 (some .int) :: ws) ({ frames := 3, cells := 0, slots := 0, locals := 44 } : Room)) (fun aG UG => aG = #[(.ref a)] ∧ Z.Warmed39 UG.vm ∧ UG.heap = h0) (fun _ _ _ _ _ => True) (fun _ UG oG UG' => ∃ vG LG, oG = .returned vG ∧ Q_rm_six2N Z w_instance w_A c_A zc a t kb c d h0 n0 vG UG'.heap LG ∧ FrameEnd UG oG UG' LG ({ frames := 3, cells := 0, slots := 0, locals := 44 } : Room).cells ({ frames := 3, cells := 0, slots := 0, locals := 44 } : Room).slots) := by
  refine MetFree.of_bodySF (plainFor_of_name pn_0) hisR ?_
  intro pG eG sG mG rG bG fG cG s₁ Bd hml0 hP hK
  obtain ⟨rfl, hZ, hh⟩ := hP
  have hx := Bd.exec
  have yb := Bd.bytes
  have hml : cG.maxLocals = 1 := hml0
  have hown : sG.vm.findClass "java/lang/String" = some mG.cls := findClass_of_methodNamed Bd.named
  have hnm := (name_of_methodNamed Bd.named Bd.method).1
  have X0 : Stand pG l eG ({ frames := 3, cells := 0, slots := 0, locals := 44 } : Room) sG mG #[(.ref a)] bG fG cG s₁ [] 0 0 := Stand.of_body Bd
  have e0 : s₁.heap = h0 := by rw [← hh, Bd.state]; rfl
  have N0 := Fr.nil n0
  have K0 := Keep.refl h0 []
  obtain ⟨S_w_instance, E_w_instance, S_w_A, E_w_A, V_w_A, S_zc, hzc⟩ := (id hS : St0 Z w_instance w_A c_A zc )
  refine ostart (g' := (mkF mG 0 #[oa a] [])) (by first | (simp [entryFrame, mkF, argsToLocals, Value.category]; done) | rfl) ?_
  refine ob s₁ (mkF mG 1 #[oa a] [(.ref a)]) (fun _ kk => XS.aloadN X0.here hx rfl (hb yb d8_0) rfl rfl kk) ?_
  obtain ⟨cq1, kq1, q1a, q1b, q1c⟩ := isOf hZ e0 E_a
  obtain ⟨_, _, ⟨T1, L1, k1, n1⟩, -, X1, ⟨Lc1, hQ1, l1, y1, z1⟩, st1⟩ := X0.virtualBack hx (y := (⟨"java/lang/String", "isLatin1", "()Z"⟩ : MethodName)) (z := (⟨"java/lang/String", "isLatin1", "()Z"⟩ : MethodName)) hown (mvT hZ (ow hw 48 rfl)) (mvT hZ (ow hw 49 rfl)) (notFace_of_selects (args := #[]) (mvT hZ (ow hw 51 rfl))) (mvT hZ (ow hw 51 rfl)) (mvT hZ (ow hw 50 rfl)) (by decide) (backOf (W := 0) (rm_lat l Z a0 hw [] w_instance w_A c_A zc a h0 n0 O0 hS F_c) hZ (ow hw 52 rfl) (ow hw 6 rfl) (by decide) (by decide)) q1a q1c (g := (mkF mG 1 #[oa a] [(.ref a)])) rfl (by rw [hml]; rfl) (Steps.refl _) (argsL := []) (rest := []) (lenOf pd_2 rfl) rfl (by show 2 * 0 + _ ≤ _; exact Nat.le_of_eq rfl) (hb yb d8_1) (fun _ _ => ⟨rfl, e0, (by decide : 0 + 0 ≤ _), (by decide : 0 + 0 ≤ _)⟩)
  dsimp only [Pt.U, Pt.locs, Pt.cells, Pt.slots] at X1 l1 y1 z1 st1 hQ1
  subst l1 y1 z1
  obtain ⟨rfl, N1q, e1⟩ := hQ1
  have N1 := Fr.app N0 N1q
  refine ob T1 (mkF mG 4 #[oa a] [(.int (1 : Int32))]) (fun _ kk => st1.trans kk) ?_
  refine ob T1 (mkF mG 7 #[oa a] []) (fun _ kk => XS.ifNo X1.here hx rfl (hb yb d8_4) rfl ((if0 _ _).trans (feq (by decide : ¬ ((1 : Int32) = (0 : Int32)))).1) kk) ?_
  refine ob T1 (mkF mG 8 #[oa a] [(.ref a)]) (fun _ kk => XS.aloadN X1.here hx rfl (hb yb d8_7) rfl rfl kk) ?_
  obtain ⟨T2, X2, e2, st2⟩ := getF X1 hx hZ hown (host := "") (Or.inl (ow hw 24 rfl)) Via.refl e1 F_v (g := (mkF mG 8 #[oa a] [(.ref a)])) rfl rfl (hb yb d8_8)
  refine ob T2 (mkF mG 11 #[oa a] [(.ref t)]) (fun _ kk => st2 _ kk) ?_
  obtain ⟨_, _, ⟨T3, L3, k3, n3⟩, -, X3, ⟨Lc3, hQ3, l3, y3, z3⟩, st3⟩ := Jvm.LawKit.callS X2 hx (y := (⟨"java/lang/StringLatin1", "indexOfNonWhitespace", "([B)I"⟩ : MethodName)) hown (mvT hZ (ow hw 54 rfl)) (mvT hZ (ow hw 55 rfl)) (mvT hZ (ow hw 56 rfl)) (mvT hZ (ow hw 57 rfl)) (by decide) (backOf (W := 0) (rm_ix2N l Z a0 hw [] w_instance w_A c_A zc t kb c d h0 n0 O0 hS V_t rc wc) hZ (ow hw 57 rfl) (ow hw 56 rfl) (by decide) (by decide)) (g := (mkF mG 11 #[oa a] [(.ref t)])) rfl (by rw [hml]; rfl) (argsL := [(.ref t)]) (rest := []) (lenOf pd_3 rfl) rfl (by show 2 * 0 + _ ≤ _; exact Nat.le_of_eq rfl) (hb yb d8_11) (fun _ _ => ⟨rfl, e2, (by decide : 0 + 0 ≤ _), (by decide : 0 + 0 ≤ _)⟩)
  dsimp only [Pt.U, Pt.locs, Pt.cells, Pt.slots] at X3 l3 y3 z3 st3 hQ3
  subst l3 y3 z3
  obtain ⟨rfl, N3q, e3⟩ := hQ3
  have N3 := Fr.app N1 N3q
  refine ob T3 (mkF mG 14 #[oa a] [(.int (0 : Int32))]) (fun _ kk => st3 _ kk) ?_
  refine ob T3 (mkF mG 24 #[oa a] [(.int (0 : Int32))]) (fun _ kk => XS.goto X3.here hx rfl (pc0 := 14) (pc' := 24) rfl (hb yb d8_14) (by decide) (by decide) kk) ?_
  obtain ⟨fs, hr, hrun, hended, hW, hsame⟩ := X3.leave (v := some (.int (0 : Int32))) (fun h => by rw [Bd.returns] at h; cases h)
  refine oout (retOut X3 hx Bd.returns rfl (Or.inl ⟨rfl, Or.inl rfl, _, rfl⟩) (hb yb d8_24) hr) hrun hended ⟨_, _, rfl, ?_, ⟨_, rfl⟩, hW, hsame.mono (by decide) (by decide)⟩
  show Q_rm_six2N Z w_instance w_A c_A zc a t kb c d h0 n0 _ T3.heap _
  rw [e3]
  exact ⟨rfl, N3, rfl⟩

def Q_rm_ix2WN (Z : State) (w_instance : Addr) (w_A : Addr) (c_A : Cell) (zc : Int32) (t : Addr) (kb : ClassId) (c : Int32) (d : Int32) (h0 : Heap) (n0 : Nat) (v : Option Value) (h : Heap) (L : List Loc) : Prop := v = some (.int (1 : Int32)) ∧ Fr n0 L ∧ h = h0
set_option maxRecDepth 65536 in
set_option maxHeartbeats 40000000 in
theorem rm_ix2WN (l : Launch) (Z : State) (a0 : Array Value) (hw : ∀ d ∈ tables_1, d.before a0 Z = true) (ws : List Jvm.Cond) (w_instance : Addr) (w_A : Addr) (c_A : Cell) (zc : Int32) (t : Addr) (kb : ClassId) (c : Int32) (d : Int32) (h0 : Heap) (n0 : Nat) (O0 : Old Z n0 h0) (hS : St0 Z w_instance w_A c_A zc ) (V_t : Arv Z h0 t kb .byte (2 : Int32) [(.int (c.toInt8.toInt32)), (.int (d.toInt8.toInt32))] (.int (0 : Int32))) (rc : oRg c) (rd : oRg d) (wc : oWs c = true) (wd : oWs d = false) :
    MetFree l (⟨"java/lang/StringLatin1", "indexOfNonWhitespace", "([B)I"⟩ : MethodName) (head1 (Jvm.Cond.code (⟨"java/lang/StringLatin1", "indexOfNonWhitespace", "([B)I"⟩ : MethodName) jdk_43_method_37_code 4 (some .int) :: ws) ({ frames := 2, cells := 0, slots := 0, locals := 29 } : Room)) (fun aG UG => aG = #[(.ref t)] ∧ Z.Warmed39 UG.vm ∧ UG.heap = h0) (fun _ _ _ _ _ => True) (fun _ UG oG UG' => ∃ vG LG, oG = .returned vG ∧ Q_rm_ix2WN Z w_instance w_A c_A zc t kb c d h0 n0 vG UG'.heap LG ∧ FrameEnd UG oG UG' LG ({ frames := 2, cells := 0, slots := 0, locals := 29 } : Room).cells ({ frames := 2, cells := 0, slots := 0, locals := 29 } : Room).slots) := by
  refine MetFree.of_bodySF (plainFor_of_name pn_1) hisR ?_
  intro pG eG sG mG rG bG fG cG s₁ Bd hml0 hP hK
  obtain ⟨rfl, hZ, hh⟩ := hP
  have hx := Bd.exec
  have yb := Bd.bytes
  have hml : cG.maxLocals = 4 := hml0
  have hown : sG.vm.findClass "java/lang/StringLatin1" = some mG.cls := findClass_of_methodNamed Bd.named
  have hnm := (name_of_methodNamed Bd.named Bd.method).1
  have X0 : Stand pG l eG ({ frames := 2, cells := 0, slots := 0, locals := 29 } : Room) sG mG #[(.ref t)] bG fG cG s₁ [] 0 0 := Stand.of_body Bd
  have e0 : s₁.heap = h0 := by rw [← hh, Bd.state]; rfl
  have N0 := Fr.nil n0
  have K0 := Keep.refl h0 []
  obtain ⟨S_w_instance, E_w_instance, S_w_A, E_w_A, V_w_A, S_zc, hzc⟩ := (id hS : St0 Z w_instance w_A c_A zc )
  refine ostart (g' := (mkF mG 0 #[oa t, .unset, .unset, .unset] [])) (by first | (simp [entryFrame, mkF, argsToLocals, Value.category]; done) | rfl) ?_
  refine ob s₁ (mkF mG 1 #[oa t, .unset, .unset, .unset] [(.ref t)]) (fun _ kk => XS.aloadN X0.here hx rfl (hb yb d10_0) rfl rfl kk) ?_
  obtain ⟨cl1, Ar1, -, S1, N1a, -, -⟩ := id V_t
  refine oby (T' := s₁) (g' := (mkF mG 2 #[oa t, .unset, .unset, .unset] [(.int (2 : Int32))])) (fun ot ok => X0.arraylength hx (by rw [e0]; exact Ar1.1) (State.isArrayOf_alike hZ.alike Ar1.2.1) (g := (mkF mG 1 #[oa t, .unset, .unset, .unset] [(.ref t)])) rfl rfl (hb yb d10_1) _ (by rw [len_of S1 N1a]; exact ok)) ?_
  refine ob s₁ (mkF mG 3 #[oa t, oi (2 : Int32), .unset, .unset] []) (fun _ kk => XS.istoreN X0.here hx rfl (hb yb d10_2) rfl (l' := #[oa t, oi (2 : Int32), .unset, .unset]) rfl kk) ?_
  refine ob s₁ (mkF mG 4 #[oa t, oi (2 : Int32), .unset, .unset] [(.int (0 : Int32))]) (fun _ kk => XS.iconst X0.here hx rfl (hb yb d10_3) kk) ?_
  refine ob s₁ (mkF mG 5 #[oa t, oi (2 : Int32), oi (0 : Int32), .unset] []) (fun _ kk => XS.istoreN X0.here hx rfl (hb yb d10_4) rfl (l' := #[oa t, oi (2 : Int32), oi (0 : Int32), .unset]) rfl kk) ?_
  refine ob s₁ (mkF mG 6 #[oa t, oi (2 : Int32), oi (0 : Int32), .unset] [(.int (0 : Int32))]) (fun _ kk => XS.iloadN X0.here hx rfl (hb yb d10_5) rfl kk) ?_
  refine ob s₁ (mkF mG 7 #[oa t, oi (2 : Int32), oi (0 : Int32), .unset] [(.int (2 : Int32)), (.int (0 : Int32))]) (fun _ kk => XS.iloadN X0.here hx rfl (hb yb d10_6) rfl kk) ?_
  refine ob s₁ (mkF mG 10 #[oa t, oi (2 : Int32), oi (0 : Int32), .unset] []) (fun _ kk => XS.icmpNo X0.here hx rfl (hb yb d10_7) rfl (tlt (by decide : (0 : Int32) < (2 : Int32))).2.1 kk) ?_
  refine ob s₁ (mkF mG 11 #[oa t, oi (2 : Int32), oi (0 : Int32), .unset] [(.ref t)]) (fun _ kk => XS.aloadN X0.here hx rfl (hb yb d10_10) rfl rfl kk) ?_
  refine ob s₁ (mkF mG 12 #[oa t, oi (2 : Int32), oi (0 : Int32), .unset] [(.int (0 : Int32)), (.ref t)]) (fun _ kk => XS.iloadN X0.here hx rfl (hb yb d10_11) rfl kk) ?_
  obtain ⟨_, _, ⟨T2, L2, k2, n2⟩, -, X2, ⟨Lc2, hQ2, l2, y2, z2⟩, st2⟩ := Jvm.LawKit.callS X0 hx (y := (⟨"java/lang/StringLatin1", "getChar", "([BI)C"⟩ : MethodName)) hown (mvT hZ (ow hw 88 rfl)) (mvT hZ (ow hw 89 rfl)) (mvT hZ (ow hw 56 rfl)) (mvT hZ (ow hw 90 rfl)) (by decide) (backOf (W := 0) (rm_gc20 l Z a0 hw [] w_instance w_A c_A zc t kb c d h0 n0 O0 hS V_t rc) hZ (ow hw 90 rfl) (ow hw 56 rfl) (by decide) (by decide)) (g := (mkF mG 12 #[oa t, oi (2 : Int32), oi (0 : Int32), .unset] [(.int (0 : Int32)), (.ref t)])) rfl (by rw [hml]; rfl) (argsL := [(.ref t), (.int (0 : Int32))]) (rest := []) (lenOf pd_4 rfl) rfl (by show 2 * 0 + _ ≤ _; exact Nat.le_of_eq rfl) (hb yb d10_12) (fun _ _ => ⟨rfl, e0, (by decide : 0 + 0 ≤ _), (by decide : 0 + 0 ≤ _)⟩)
  dsimp only [Pt.U, Pt.locs, Pt.cells, Pt.slots] at X2 l2 y2 z2 st2 hQ2
  subst l2 y2 z2
  obtain ⟨rfl, N2q, e2⟩ := hQ2
  have N2 := Fr.app N0 N2q
  refine ob T2 (mkF mG 15 #[oa t, oi (2 : Int32), oi (0 : Int32), .unset] [(.int c)]) (fun _ kk => st2 _ kk) ?_
  refine ob T2 (mkF mG 16 #[oa t, oi (2 : Int32), oi (0 : Int32), oi c] []) (fun _ kk => XS.istoreN X2.here hx rfl (hb yb d10_15) rfl (l' := #[oa t, oi (2 : Int32), oi (0 : Int32), oi c]) rfl kk) ?_
  refine ob T2 (mkF mG 17 #[oa t, oi (2 : Int32), oi (0 : Int32), oi c] [(.int c)]) (fun _ kk => XS.iloadN X2.here hx rfl (hb yb d10_16) rfl kk) ?_
  refine ob T2 (mkF mG 19 #[oa t, oi (2 : Int32), oi (0 : Int32), oi c] [(.int (32 : Int32)), (.int c)]) (fun _ kk => XS.bipush X2.here hx rfl (hb yb d10_17) kk) ?_
  by_cases hc3 : c = (32 : Int32)
  · skip
    refine ob T2 (mkF mG 41 #[oa t, oi (2 : Int32), oi (0 : Int32), oi c] []) (fun _ kk => XS.icmpYes X2.here hx rfl (pc0 := 19) (pc' := 41) rfl (hb yb d10_19) rfl (teq hc3).1 (by decide) (by decide) kk) ?_
    refine ob T2 (mkF mG 44 #[oa t, oi (2 : Int32), oi (1 : Int32), oi c] []) (fun _ kk => XS.iinc X2.here hx rfl (hb yb d10_41) rfl (l' := #[oa t, oi (2 : Int32), oi (1 : Int32), oi c]) rfl kk) ?_
    refine ob T2 (mkF mG 5 #[oa t, oi (2 : Int32), oi (1 : Int32), oi c] []) (fun _ kk => XS.goto X2.here hx rfl (pc0 := 44) (pc' := 5) rfl (hb yb d10_44) (by decide) (by decide) kk) ?_
    refine ob T2 (mkF mG 6 #[oa t, oi (2 : Int32), oi (1 : Int32), oi c] [(.int (1 : Int32))]) (fun _ kk => XS.iloadN X2.here hx rfl (hb yb d10_5) rfl kk) ?_
    refine ob T2 (mkF mG 7 #[oa t, oi (2 : Int32), oi (1 : Int32), oi c] [(.int (2 : Int32)), (.int (1 : Int32))]) (fun _ kk => XS.iloadN X2.here hx rfl (hb yb d10_6) rfl kk) ?_
    refine ob T2 (mkF mG 10 #[oa t, oi (2 : Int32), oi (1 : Int32), oi c] []) (fun _ kk => XS.icmpNo X2.here hx rfl (hb yb d10_7) rfl (tlt (by decide : (1 : Int32) < (2 : Int32))).2.1 kk) ?_
    refine ob T2 (mkF mG 11 #[oa t, oi (2 : Int32), oi (1 : Int32), oi c] [(.ref t)]) (fun _ kk => XS.aloadN X2.here hx rfl (hb yb d10_10) rfl rfl kk) ?_
    refine ob T2 (mkF mG 12 #[oa t, oi (2 : Int32), oi (1 : Int32), oi c] [(.int (1 : Int32)), (.ref t)]) (fun _ kk => XS.iloadN X2.here hx rfl (hb yb d10_11) rfl kk) ?_
    obtain ⟨_, _, ⟨T4, L4, k4, n4⟩, -, X4, ⟨Lc4, hQ4, l4, y4, z4⟩, st4⟩ := Jvm.LawKit.callS X2 hx (y := (⟨"java/lang/StringLatin1", "getChar", "([BI)C"⟩ : MethodName)) hown (mvT hZ (ow hw 88 rfl)) (mvT hZ (ow hw 89 rfl)) (mvT hZ (ow hw 56 rfl)) (mvT hZ (ow hw 90 rfl)) (by decide) (backOf (W := 0) (rm_gc21 l Z a0 hw [] w_instance w_A c_A zc t kb c d h0 n0 O0 hS V_t rd) hZ (ow hw 90 rfl) (ow hw 56 rfl) (by decide) (by decide)) (g := (mkF mG 12 #[oa t, oi (2 : Int32), oi (1 : Int32), oi c] [(.int (1 : Int32)), (.ref t)])) rfl (by rw [hml]; rfl) (argsL := [(.ref t), (.int (1 : Int32))]) (rest := []) (lenOf pd_4 rfl) rfl (by show 2 * 0 + _ ≤ _; exact Nat.le_of_eq rfl) (hb yb d10_12) (fun _ _ => ⟨rfl, e2, (by decide : 0 + 0 ≤ _), (by decide : 0 + 0 ≤ _)⟩)
    dsimp only [Pt.U, Pt.locs, Pt.cells, Pt.slots] at X4 l4 y4 z4 st4 hQ4
    subst l4 y4 z4
    obtain ⟨rfl, N4q, e4⟩ := hQ4
    have N4 := Fr.app N2 N4q
    refine ob T4 (mkF mG 15 #[oa t, oi (2 : Int32), oi (1 : Int32), oi c] [(.int d)]) (fun _ kk => st4 _ kk) ?_
    refine ob T4 (mkF mG 16 #[oa t, oi (2 : Int32), oi (1 : Int32), oi d] []) (fun _ kk => XS.istoreN X4.here hx rfl (hb yb d10_15) rfl (l' := #[oa t, oi (2 : Int32), oi (1 : Int32), oi d]) rfl kk) ?_
    refine ob T4 (mkF mG 17 #[oa t, oi (2 : Int32), oi (1 : Int32), oi d] [(.int d)]) (fun _ kk => XS.iloadN X4.here hx rfl (hb yb d10_16) rfl kk) ?_
    refine ob T4 (mkF mG 19 #[oa t, oi (2 : Int32), oi (1 : Int32), oi d] [(.int (32 : Int32)), (.int d)]) (fun _ kk => XS.bipush X4.here hx rfl (hb yb d10_17) kk) ?_
    refine ob T4 (mkF mG 22 #[oa t, oi (2 : Int32), oi (1 : Int32), oi d] []) (fun _ kk => XS.icmpNo X4.here hx rfl (hb yb d10_19) rfl (feq (own_n32 wd)).1 kk) ?_
    refine ob T4 (mkF mG 23 #[oa t, oi (2 : Int32), oi (1 : Int32), oi d] [(.int d)]) (fun _ kk => XS.iloadN X4.here hx rfl (hb yb d10_22) rfl kk) ?_
    refine ob T4 (mkF mG 25 #[oa t, oi (2 : Int32), oi (1 : Int32), oi d] [(.int (9 : Int32)), (.int d)]) (fun _ kk => XS.bipush X4.here hx rfl (hb yb d10_23) kk) ?_
    refine ob T4 (mkF mG 28 #[oa t, oi (2 : Int32), oi (1 : Int32), oi d] []) (fun _ kk => XS.icmpNo X4.here hx rfl (hb yb d10_25) rfl (feq (own_n9 wd)).1 kk) ?_
    obtain ⟨T5, X5, e5, st5⟩ := getS2 X4 hx hZ hown (host := "") (Or.inl (ow hw 91 rfl)) Via.refl e4 (S_w_instance.ext O0.2) (g := (mkF mG 28 #[oa t, oi (2 : Int32), oi (1 : Int32), oi d] [])) rfl (hb yb d10_28)
    refine ob T5 (mkF mG 31 #[oa t, oi (2 : Int32), oi (1 : Int32), oi d] [(.ref w_instance)]) (fun _ kk => st5 _ kk) ?_
    refine ob T5 (mkF mG 32 #[oa t, oi (2 : Int32), oi (1 : Int32), oi d] [(.int d), (.ref w_instance)]) (fun _ kk => XS.iloadN X5.here hx rfl (hb yb d10_31) rfl kk) ?_
    obtain ⟨cq6, kq6, q6a, q6b, q6c⟩ := isOf hZ e5 (E_w_instance.ext O0.2)
    obtain ⟨_, _, ⟨T6, L6, k6, n6⟩, -, X6, ⟨Lc6, hQ6, l6, y6, z6⟩, st6⟩ := X5.virtualBack hx (y := (⟨"java/lang/CharacterDataLatin1", "isWhitespace", "(I)Z"⟩ : MethodName)) (z := (⟨"java/lang/CharacterDataLatin1", "isWhitespace", "(I)Z"⟩ : MethodName)) hown (mvT hZ (ow hw 93 rfl)) (mvT hZ (ow hw 94 rfl)) (notFace_of_selects (args := #[]) (mvT hZ (ow hw 96 rfl))) (mvT hZ (ow hw 96 rfl)) (mvT hZ (ow hw 95 rfl)) (by decide) (backOf (W := 0) (rm_iswN l Z a0 hw [] w_instance w_A c_A zc d h0 n0 O0 hS rd wd) hZ (ow hw 97 rfl) (ow hw 92 rfl) (by decide) (by decide)) q6a q6c (g := (mkF mG 32 #[oa t, oi (2 : Int32), oi (1 : Int32), oi d] [(.int d), (.ref w_instance)])) rfl (by rw [hml]; rfl) (Steps.refl _) (argsL := [(.int d)]) (rest := []) (lenOf pd_5 rfl) rfl (by show 2 * 0 + _ ≤ _; exact Nat.le_of_eq rfl) (hb yb d10_32) (fun _ _ => ⟨rfl, e5, (by decide : 0 + 0 ≤ _), (by decide : 0 + 0 ≤ _)⟩)
    dsimp only [Pt.U, Pt.locs, Pt.cells, Pt.slots] at X6 l6 y6 z6 st6 hQ6
    subst l6 y6 z6
    obtain ⟨rfl, N6q, e6⟩ := hQ6
    have N6 := Fr.app N4 N6q
    refine ob T6 (mkF mG 35 #[oa t, oi (2 : Int32), oi (1 : Int32), oi d] [(.int (0 : Int32))]) (fun _ kk => st6.trans kk) ?_
    refine ob T6 (mkF mG 38 #[oa t, oi (2 : Int32), oi (1 : Int32), oi d] []) (fun _ kk => XS.ifNo X6.here hx rfl (hb yb d10_35) rfl ((if0 _ _).trans (teq (by decide : (0 : Int32) = (0 : Int32))).2) kk) ?_
    refine ob T6 (mkF mG 47 #[oa t, oi (2 : Int32), oi (1 : Int32), oi d] []) (fun _ kk => XS.goto X6.here hx rfl (pc0 := 38) (pc' := 47) rfl (hb yb d10_38) (by decide) (by decide) kk) ?_
    refine ob T6 (mkF mG 48 #[oa t, oi (2 : Int32), oi (1 : Int32), oi d] [(.int (1 : Int32))]) (fun _ kk => XS.iloadN X6.here hx rfl (hb yb d10_47) rfl kk) ?_
    obtain ⟨fs, hr, hrun, hended, hW, hsame⟩ := X6.leave (v := some (.int (1 : Int32))) (fun h => by rw [Bd.returns] at h; cases h)
    refine oout (retOut X6 hx Bd.returns rfl (Or.inl ⟨rfl, Or.inl rfl, _, rfl⟩) (hb yb d10_48) hr) hrun hended ⟨_, _, rfl, ?_, ⟨_, rfl⟩, hW, hsame.mono (by decide) (by decide)⟩
    show Q_rm_ix2WN Z w_instance w_A c_A zc t kb c d h0 n0 _ T6.heap _
    rw [e6]
    exact ⟨rfl, N6, rfl⟩
  · skip
    refine ob T2 (mkF mG 22 #[oa t, oi (2 : Int32), oi (0 : Int32), oi c] []) (fun _ kk => XS.icmpNo X2.here hx rfl (hb yb d10_19) rfl (feq hc3).1 kk) ?_
    refine ob T2 (mkF mG 23 #[oa t, oi (2 : Int32), oi (0 : Int32), oi c] [(.int c)]) (fun _ kk => XS.iloadN X2.here hx rfl (hb yb d10_22) rfl kk) ?_
    refine ob T2 (mkF mG 25 #[oa t, oi (2 : Int32), oi (0 : Int32), oi c] [(.int (9 : Int32)), (.int c)]) (fun _ kk => XS.bipush X2.here hx rfl (hb yb d10_23) kk) ?_
    by_cases hc7 : c = (9 : Int32)
    · skip
      refine ob T2 (mkF mG 41 #[oa t, oi (2 : Int32), oi (0 : Int32), oi c] []) (fun _ kk => XS.icmpYes X2.here hx rfl (pc0 := 25) (pc' := 41) rfl (hb yb d10_25) rfl (teq hc7).1 (by decide) (by decide) kk) ?_
      refine ob T2 (mkF mG 44 #[oa t, oi (2 : Int32), oi (1 : Int32), oi c] []) (fun _ kk => XS.iinc X2.here hx rfl (hb yb d10_41) rfl (l' := #[oa t, oi (2 : Int32), oi (1 : Int32), oi c]) rfl kk) ?_
      refine ob T2 (mkF mG 5 #[oa t, oi (2 : Int32), oi (1 : Int32), oi c] []) (fun _ kk => XS.goto X2.here hx rfl (pc0 := 44) (pc' := 5) rfl (hb yb d10_44) (by decide) (by decide) kk) ?_
      refine ob T2 (mkF mG 6 #[oa t, oi (2 : Int32), oi (1 : Int32), oi c] [(.int (1 : Int32))]) (fun _ kk => XS.iloadN X2.here hx rfl (hb yb d10_5) rfl kk) ?_
      refine ob T2 (mkF mG 7 #[oa t, oi (2 : Int32), oi (1 : Int32), oi c] [(.int (2 : Int32)), (.int (1 : Int32))]) (fun _ kk => XS.iloadN X2.here hx rfl (hb yb d10_6) rfl kk) ?_
      refine ob T2 (mkF mG 10 #[oa t, oi (2 : Int32), oi (1 : Int32), oi c] []) (fun _ kk => XS.icmpNo X2.here hx rfl (hb yb d10_7) rfl (tlt (by decide : (1 : Int32) < (2 : Int32))).2.1 kk) ?_
      refine ob T2 (mkF mG 11 #[oa t, oi (2 : Int32), oi (1 : Int32), oi c] [(.ref t)]) (fun _ kk => XS.aloadN X2.here hx rfl (hb yb d10_10) rfl rfl kk) ?_
      refine ob T2 (mkF mG 12 #[oa t, oi (2 : Int32), oi (1 : Int32), oi c] [(.int (1 : Int32)), (.ref t)]) (fun _ kk => XS.iloadN X2.here hx rfl (hb yb d10_11) rfl kk) ?_
      obtain ⟨_, _, ⟨T8, L8, k8, n8⟩, -, X8, ⟨Lc8, hQ8, l8, y8, z8⟩, st8⟩ := Jvm.LawKit.callS X2 hx (y := (⟨"java/lang/StringLatin1", "getChar", "([BI)C"⟩ : MethodName)) hown (mvT hZ (ow hw 88 rfl)) (mvT hZ (ow hw 89 rfl)) (mvT hZ (ow hw 56 rfl)) (mvT hZ (ow hw 90 rfl)) (by decide) (backOf (W := 0) (rm_gc21 l Z a0 hw [] w_instance w_A c_A zc t kb c d h0 n0 O0 hS V_t rd) hZ (ow hw 90 rfl) (ow hw 56 rfl) (by decide) (by decide)) (g := (mkF mG 12 #[oa t, oi (2 : Int32), oi (1 : Int32), oi c] [(.int (1 : Int32)), (.ref t)])) rfl (by rw [hml]; rfl) (argsL := [(.ref t), (.int (1 : Int32))]) (rest := []) (lenOf pd_4 rfl) rfl (by show 2 * 0 + _ ≤ _; exact Nat.le_of_eq rfl) (hb yb d10_12) (fun _ _ => ⟨rfl, e2, (by decide : 0 + 0 ≤ _), (by decide : 0 + 0 ≤ _)⟩)
      dsimp only [Pt.U, Pt.locs, Pt.cells, Pt.slots] at X8 l8 y8 z8 st8 hQ8
      subst l8 y8 z8
      obtain ⟨rfl, N8q, e8⟩ := hQ8
      have N8 := Fr.app N2 N8q
      refine ob T8 (mkF mG 15 #[oa t, oi (2 : Int32), oi (1 : Int32), oi c] [(.int d)]) (fun _ kk => st8 _ kk) ?_
      refine ob T8 (mkF mG 16 #[oa t, oi (2 : Int32), oi (1 : Int32), oi d] []) (fun _ kk => XS.istoreN X8.here hx rfl (hb yb d10_15) rfl (l' := #[oa t, oi (2 : Int32), oi (1 : Int32), oi d]) rfl kk) ?_
      refine ob T8 (mkF mG 17 #[oa t, oi (2 : Int32), oi (1 : Int32), oi d] [(.int d)]) (fun _ kk => XS.iloadN X8.here hx rfl (hb yb d10_16) rfl kk) ?_
      refine ob T8 (mkF mG 19 #[oa t, oi (2 : Int32), oi (1 : Int32), oi d] [(.int (32 : Int32)), (.int d)]) (fun _ kk => XS.bipush X8.here hx rfl (hb yb d10_17) kk) ?_
      refine ob T8 (mkF mG 22 #[oa t, oi (2 : Int32), oi (1 : Int32), oi d] []) (fun _ kk => XS.icmpNo X8.here hx rfl (hb yb d10_19) rfl (feq (own_n32 wd)).1 kk) ?_
      refine ob T8 (mkF mG 23 #[oa t, oi (2 : Int32), oi (1 : Int32), oi d] [(.int d)]) (fun _ kk => XS.iloadN X8.here hx rfl (hb yb d10_22) rfl kk) ?_
      refine ob T8 (mkF mG 25 #[oa t, oi (2 : Int32), oi (1 : Int32), oi d] [(.int (9 : Int32)), (.int d)]) (fun _ kk => XS.bipush X8.here hx rfl (hb yb d10_23) kk) ?_
      refine ob T8 (mkF mG 28 #[oa t, oi (2 : Int32), oi (1 : Int32), oi d] []) (fun _ kk => XS.icmpNo X8.here hx rfl (hb yb d10_25) rfl (feq (own_n9 wd)).1 kk) ?_
      obtain ⟨T9, X9, e9, st9⟩ := getS2 X8 hx hZ hown (host := "") (Or.inl (ow hw 91 rfl)) Via.refl e8 (S_w_instance.ext O0.2) (g := (mkF mG 28 #[oa t, oi (2 : Int32), oi (1 : Int32), oi d] [])) rfl (hb yb d10_28)
      refine ob T9 (mkF mG 31 #[oa t, oi (2 : Int32), oi (1 : Int32), oi d] [(.ref w_instance)]) (fun _ kk => st9 _ kk) ?_
      refine ob T9 (mkF mG 32 #[oa t, oi (2 : Int32), oi (1 : Int32), oi d] [(.int d), (.ref w_instance)]) (fun _ kk => XS.iloadN X9.here hx rfl (hb yb d10_31) rfl kk) ?_
      obtain ⟨cq10, kq10, q10a, q10b, q10c⟩ := isOf hZ e9 (E_w_instance.ext O0.2)
      obtain ⟨_, _, ⟨T10, L10, k10, n10⟩, -, X10, ⟨Lc10, hQ10, l10, y10, z10⟩, st10⟩ := X9.virtualBack hx (y := (⟨"java/lang/CharacterDataLatin1", "isWhitespace", "(I)Z"⟩ : MethodName)) (z := (⟨"java/lang/CharacterDataLatin1", "isWhitespace", "(I)Z"⟩ : MethodName)) hown (mvT hZ (ow hw 93 rfl)) (mvT hZ (ow hw 94 rfl)) (notFace_of_selects (args := #[]) (mvT hZ (ow hw 96 rfl))) (mvT hZ (ow hw 96 rfl)) (mvT hZ (ow hw 95 rfl)) (by decide) (backOf (W := 0) (rm_iswN l Z a0 hw [] w_instance w_A c_A zc d h0 n0 O0 hS rd wd) hZ (ow hw 97 rfl) (ow hw 92 rfl) (by decide) (by decide)) q10a q10c (g := (mkF mG 32 #[oa t, oi (2 : Int32), oi (1 : Int32), oi d] [(.int d), (.ref w_instance)])) rfl (by rw [hml]; rfl) (Steps.refl _) (argsL := [(.int d)]) (rest := []) (lenOf pd_5 rfl) rfl (by show 2 * 0 + _ ≤ _; exact Nat.le_of_eq rfl) (hb yb d10_32) (fun _ _ => ⟨rfl, e9, (by decide : 0 + 0 ≤ _), (by decide : 0 + 0 ≤ _)⟩)
      dsimp only [Pt.U, Pt.locs, Pt.cells, Pt.slots] at X10 l10 y10 z10 st10 hQ10
      subst l10 y10 z10
      obtain ⟨rfl, N10q, e10⟩ := hQ10
      have N10 := Fr.app N8 N10q
      refine ob T10 (mkF mG 35 #[oa t, oi (2 : Int32), oi (1 : Int32), oi d] [(.int (0 : Int32))]) (fun _ kk => st10.trans kk) ?_
      refine ob T10 (mkF mG 38 #[oa t, oi (2 : Int32), oi (1 : Int32), oi d] []) (fun _ kk => XS.ifNo X10.here hx rfl (hb yb d10_35) rfl ((if0 _ _).trans (teq (by decide : (0 : Int32) = (0 : Int32))).2) kk) ?_
      refine ob T10 (mkF mG 47 #[oa t, oi (2 : Int32), oi (1 : Int32), oi d] []) (fun _ kk => XS.goto X10.here hx rfl (pc0 := 38) (pc' := 47) rfl (hb yb d10_38) (by decide) (by decide) kk) ?_
      refine ob T10 (mkF mG 48 #[oa t, oi (2 : Int32), oi (1 : Int32), oi d] [(.int (1 : Int32))]) (fun _ kk => XS.iloadN X10.here hx rfl (hb yb d10_47) rfl kk) ?_
      obtain ⟨fs, hr, hrun, hended, hW, hsame⟩ := X10.leave (v := some (.int (1 : Int32))) (fun h => by rw [Bd.returns] at h; cases h)
      refine oout (retOut X10 hx Bd.returns rfl (Or.inl ⟨rfl, Or.inl rfl, _, rfl⟩) (hb yb d10_48) hr) hrun hended ⟨_, _, rfl, ?_, ⟨_, rfl⟩, hW, hsame.mono (by decide) (by decide)⟩
      show Q_rm_ix2WN Z w_instance w_A c_A zc t kb c d h0 n0 _ T10.heap _
      rw [e10]
      exact ⟨rfl, N10, rfl⟩
    · skip
      refine ob T2 (mkF mG 28 #[oa t, oi (2 : Int32), oi (0 : Int32), oi c] []) (fun _ kk => XS.icmpNo X2.here hx rfl (hb yb d10_25) rfl (feq hc7).1 kk) ?_
      obtain ⟨T11, X11, e11, st11⟩ := getS2 X2 hx hZ hown (host := "") (Or.inl (ow hw 91 rfl)) Via.refl e2 (S_w_instance.ext O0.2) (g := (mkF mG 28 #[oa t, oi (2 : Int32), oi (0 : Int32), oi c] [])) rfl (hb yb d10_28)
      refine ob T11 (mkF mG 31 #[oa t, oi (2 : Int32), oi (0 : Int32), oi c] [(.ref w_instance)]) (fun _ kk => st11 _ kk) ?_
      refine ob T11 (mkF mG 32 #[oa t, oi (2 : Int32), oi (0 : Int32), oi c] [(.int c), (.ref w_instance)]) (fun _ kk => XS.iloadN X11.here hx rfl (hb yb d10_31) rfl kk) ?_
      obtain ⟨cq12, kq12, q12a, q12b, q12c⟩ := isOf hZ e11 (E_w_instance.ext O0.2)
      obtain ⟨_, _, ⟨T12, L12, k12, n12⟩, -, X12, ⟨Lc12, hQ12, l12, y12, z12⟩, st12⟩ := X11.virtualBack hx (y := (⟨"java/lang/CharacterDataLatin1", "isWhitespace", "(I)Z"⟩ : MethodName)) (z := (⟨"java/lang/CharacterDataLatin1", "isWhitespace", "(I)Z"⟩ : MethodName)) hown (mvT hZ (ow hw 93 rfl)) (mvT hZ (ow hw 94 rfl)) (notFace_of_selects (args := #[]) (mvT hZ (ow hw 96 rfl))) (mvT hZ (ow hw 96 rfl)) (mvT hZ (ow hw 95 rfl)) (by decide) (backOf (W := 0) (rm_iswW l Z a0 hw [] w_instance w_A c_A zc c h0 n0 O0 hS rc wc) hZ (ow hw 97 rfl) (ow hw 92 rfl) (by decide) (by decide)) q12a q12c (g := (mkF mG 32 #[oa t, oi (2 : Int32), oi (0 : Int32), oi c] [(.int c), (.ref w_instance)])) rfl (by rw [hml]; rfl) (Steps.refl _) (argsL := [(.int c)]) (rest := []) (lenOf pd_5 rfl) rfl (by show 2 * 0 + _ ≤ _; exact Nat.le_of_eq rfl) (hb yb d10_32) (fun _ _ => ⟨rfl, e11, (by decide : 0 + 0 ≤ _), (by decide : 0 + 0 ≤ _)⟩)
      dsimp only [Pt.U, Pt.locs, Pt.cells, Pt.slots] at X12 l12 y12 z12 st12 hQ12
      subst l12 y12 z12
      obtain ⟨rfl, N12q, e12⟩ := hQ12
      have N12 := Fr.app N2 N12q
      refine ob T12 (mkF mG 35 #[oa t, oi (2 : Int32), oi (0 : Int32), oi c] [(.int (1 : Int32))]) (fun _ kk => st12.trans kk) ?_
      refine ob T12 (mkF mG 41 #[oa t, oi (2 : Int32), oi (0 : Int32), oi c] []) (fun _ kk => XS.ifYes X12.here hx rfl (pc0 := 35) (pc' := 41) rfl (hb yb d10_35) rfl ((if0 _ _).trans (feq (by decide : ¬ ((1 : Int32) = (0 : Int32)))).2) (by decide) (by decide) kk) ?_
      refine ob T12 (mkF mG 44 #[oa t, oi (2 : Int32), oi (1 : Int32), oi c] []) (fun _ kk => XS.iinc X12.here hx rfl (hb yb d10_41) rfl (l' := #[oa t, oi (2 : Int32), oi (1 : Int32), oi c]) rfl kk) ?_
      refine ob T12 (mkF mG 5 #[oa t, oi (2 : Int32), oi (1 : Int32), oi c] []) (fun _ kk => XS.goto X12.here hx rfl (pc0 := 44) (pc' := 5) rfl (hb yb d10_44) (by decide) (by decide) kk) ?_
      refine ob T12 (mkF mG 6 #[oa t, oi (2 : Int32), oi (1 : Int32), oi c] [(.int (1 : Int32))]) (fun _ kk => XS.iloadN X12.here hx rfl (hb yb d10_5) rfl kk) ?_
      refine ob T12 (mkF mG 7 #[oa t, oi (2 : Int32), oi (1 : Int32), oi c] [(.int (2 : Int32)), (.int (1 : Int32))]) (fun _ kk => XS.iloadN X12.here hx rfl (hb yb d10_6) rfl kk) ?_
      refine ob T12 (mkF mG 10 #[oa t, oi (2 : Int32), oi (1 : Int32), oi c] []) (fun _ kk => XS.icmpNo X12.here hx rfl (hb yb d10_7) rfl (tlt (by decide : (1 : Int32) < (2 : Int32))).2.1 kk) ?_
      refine ob T12 (mkF mG 11 #[oa t, oi (2 : Int32), oi (1 : Int32), oi c] [(.ref t)]) (fun _ kk => XS.aloadN X12.here hx rfl (hb yb d10_10) rfl rfl kk) ?_
      refine ob T12 (mkF mG 12 #[oa t, oi (2 : Int32), oi (1 : Int32), oi c] [(.int (1 : Int32)), (.ref t)]) (fun _ kk => XS.iloadN X12.here hx rfl (hb yb d10_11) rfl kk) ?_
      obtain ⟨_, _, ⟨T13, L13, k13, n13⟩, -, X13, ⟨Lc13, hQ13, l13, y13, z13⟩, st13⟩ := Jvm.LawKit.callS X12 hx (y := (⟨"java/lang/StringLatin1", "getChar", "([BI)C"⟩ : MethodName)) hown (mvT hZ (ow hw 88 rfl)) (mvT hZ (ow hw 89 rfl)) (mvT hZ (ow hw 56 rfl)) (mvT hZ (ow hw 90 rfl)) (by decide) (backOf (W := 0) (rm_gc21 l Z a0 hw [] w_instance w_A c_A zc t kb c d h0 n0 O0 hS V_t rd) hZ (ow hw 90 rfl) (ow hw 56 rfl) (by decide) (by decide)) (g := (mkF mG 12 #[oa t, oi (2 : Int32), oi (1 : Int32), oi c] [(.int (1 : Int32)), (.ref t)])) rfl (by rw [hml]; rfl) (argsL := [(.ref t), (.int (1 : Int32))]) (rest := []) (lenOf pd_4 rfl) rfl (by show 2 * 0 + _ ≤ _; exact Nat.le_of_eq rfl) (hb yb d10_12) (fun _ _ => ⟨rfl, e12, (by decide : 0 + 0 ≤ _), (by decide : 0 + 0 ≤ _)⟩)
      dsimp only [Pt.U, Pt.locs, Pt.cells, Pt.slots] at X13 l13 y13 z13 st13 hQ13
      subst l13 y13 z13
      obtain ⟨rfl, N13q, e13⟩ := hQ13
      have N13 := Fr.app N12 N13q
      refine ob T13 (mkF mG 15 #[oa t, oi (2 : Int32), oi (1 : Int32), oi c] [(.int d)]) (fun _ kk => st13 _ kk) ?_
      refine ob T13 (mkF mG 16 #[oa t, oi (2 : Int32), oi (1 : Int32), oi d] []) (fun _ kk => XS.istoreN X13.here hx rfl (hb yb d10_15) rfl (l' := #[oa t, oi (2 : Int32), oi (1 : Int32), oi d]) rfl kk) ?_
      refine ob T13 (mkF mG 17 #[oa t, oi (2 : Int32), oi (1 : Int32), oi d] [(.int d)]) (fun _ kk => XS.iloadN X13.here hx rfl (hb yb d10_16) rfl kk) ?_
      refine ob T13 (mkF mG 19 #[oa t, oi (2 : Int32), oi (1 : Int32), oi d] [(.int (32 : Int32)), (.int d)]) (fun _ kk => XS.bipush X13.here hx rfl (hb yb d10_17) kk) ?_
      refine ob T13 (mkF mG 22 #[oa t, oi (2 : Int32), oi (1 : Int32), oi d] []) (fun _ kk => XS.icmpNo X13.here hx rfl (hb yb d10_19) rfl (feq (own_n32 wd)).1 kk) ?_
      refine ob T13 (mkF mG 23 #[oa t, oi (2 : Int32), oi (1 : Int32), oi d] [(.int d)]) (fun _ kk => XS.iloadN X13.here hx rfl (hb yb d10_22) rfl kk) ?_
      refine ob T13 (mkF mG 25 #[oa t, oi (2 : Int32), oi (1 : Int32), oi d] [(.int (9 : Int32)), (.int d)]) (fun _ kk => XS.bipush X13.here hx rfl (hb yb d10_23) kk) ?_
      refine ob T13 (mkF mG 28 #[oa t, oi (2 : Int32), oi (1 : Int32), oi d] []) (fun _ kk => XS.icmpNo X13.here hx rfl (hb yb d10_25) rfl (feq (own_n9 wd)).1 kk) ?_
      obtain ⟨T14, X14, e14, st14⟩ := getS2 X13 hx hZ hown (host := "") (Or.inl (ow hw 91 rfl)) Via.refl e13 (S_w_instance.ext O0.2) (g := (mkF mG 28 #[oa t, oi (2 : Int32), oi (1 : Int32), oi d] [])) rfl (hb yb d10_28)
      refine ob T14 (mkF mG 31 #[oa t, oi (2 : Int32), oi (1 : Int32), oi d] [(.ref w_instance)]) (fun _ kk => st14 _ kk) ?_
      refine ob T14 (mkF mG 32 #[oa t, oi (2 : Int32), oi (1 : Int32), oi d] [(.int d), (.ref w_instance)]) (fun _ kk => XS.iloadN X14.here hx rfl (hb yb d10_31) rfl kk) ?_
      obtain ⟨cq15, kq15, q15a, q15b, q15c⟩ := isOf hZ e14 (E_w_instance.ext O0.2)
      obtain ⟨_, _, ⟨T15, L15, k15, n15⟩, -, X15, ⟨Lc15, hQ15, l15, y15, z15⟩, st15⟩ := X14.virtualBack hx (y := (⟨"java/lang/CharacterDataLatin1", "isWhitespace", "(I)Z"⟩ : MethodName)) (z := (⟨"java/lang/CharacterDataLatin1", "isWhitespace", "(I)Z"⟩ : MethodName)) hown (mvT hZ (ow hw 93 rfl)) (mvT hZ (ow hw 94 rfl)) (notFace_of_selects (args := #[]) (mvT hZ (ow hw 96 rfl))) (mvT hZ (ow hw 96 rfl)) (mvT hZ (ow hw 95 rfl)) (by decide) (backOf (W := 0) (rm_iswN l Z a0 hw [] w_instance w_A c_A zc d h0 n0 O0 hS rd wd) hZ (ow hw 97 rfl) (ow hw 92 rfl) (by decide) (by decide)) q15a q15c (g := (mkF mG 32 #[oa t, oi (2 : Int32), oi (1 : Int32), oi d] [(.int d), (.ref w_instance)])) rfl (by rw [hml]; rfl) (Steps.refl _) (argsL := [(.int d)]) (rest := []) (lenOf pd_5 rfl) rfl (by show 2 * 0 + _ ≤ _; exact Nat.le_of_eq rfl) (hb yb d10_32) (fun _ _ => ⟨rfl, e14, (by decide : 0 + 0 ≤ _), (by decide : 0 + 0 ≤ _)⟩)
      dsimp only [Pt.U, Pt.locs, Pt.cells, Pt.slots] at X15 l15 y15 z15 st15 hQ15
      subst l15 y15 z15
      obtain ⟨rfl, N15q, e15⟩ := hQ15
      have N15 := Fr.app N13 N15q
      refine ob T15 (mkF mG 35 #[oa t, oi (2 : Int32), oi (1 : Int32), oi d] [(.int (0 : Int32))]) (fun _ kk => st15.trans kk) ?_
      refine ob T15 (mkF mG 38 #[oa t, oi (2 : Int32), oi (1 : Int32), oi d] []) (fun _ kk => XS.ifNo X15.here hx rfl (hb yb d10_35) rfl ((if0 _ _).trans (teq (by decide : (0 : Int32) = (0 : Int32))).2) kk) ?_
      refine ob T15 (mkF mG 47 #[oa t, oi (2 : Int32), oi (1 : Int32), oi d] []) (fun _ kk => XS.goto X15.here hx rfl (pc0 := 38) (pc' := 47) rfl (hb yb d10_38) (by decide) (by decide) kk) ?_
      refine ob T15 (mkF mG 48 #[oa t, oi (2 : Int32), oi (1 : Int32), oi d] [(.int (1 : Int32))]) (fun _ kk => XS.iloadN X15.here hx rfl (hb yb d10_47) rfl kk) ?_
      obtain ⟨fs, hr, hrun, hended, hW, hsame⟩ := X15.leave (v := some (.int (1 : Int32))) (fun h => by rw [Bd.returns] at h; cases h)
      refine oout (retOut X15 hx Bd.returns rfl (Or.inl ⟨rfl, Or.inl rfl, _, rfl⟩) (hb yb d10_48) hr) hrun hended ⟨_, _, rfl, ?_, ⟨_, rfl⟩, hW, hsame.mono (by decide) (by decide)⟩
      show Q_rm_ix2WN Z w_instance w_A c_A zc t kb c d h0 n0 _ T15.heap _
      rw [e15]
      exact ⟨rfl, N15, rfl⟩

def Q_rm_six2WN (Z : State) (w_instance : Addr) (w_A : Addr) (c_A : Cell) (zc : Int32) (a : Addr) (t : Addr) (kb : ClassId) (c : Int32) (d : Int32) (h0 : Heap) (n0 : Nat) (v : Option Value) (h : Heap) (L : List Loc) : Prop := v = some (.int (1 : Int32)) ∧ Fr n0 L ∧ h = h0
set_option maxRecDepth 65536 in
set_option maxHeartbeats 40000000 in
theorem rm_six2WN (l : Launch) (Z : State) (a0 : Array Value) (hw : ∀ d ∈ tables_1, d.before a0 Z = true) (ws : List Jvm.Cond) (w_instance : Addr) (w_A : Addr) (c_A : Cell) (zc : Int32) (a : Addr) (t : Addr) (kb : ClassId) (c : Int32) (d : Int32) (h0 : Heap) (n0 : Nat) (O0 : Old Z n0 h0) (hS : St0 Z w_instance w_A c_A zc ) (E_a : Exa Z h0 a "java/lang/String") (F_c : Fld Z h0 a "java/lang/String" "coder" "B" (.int (0 : Int32))) (F_v : Fld Z h0 a "java/lang/String" "value" "[B" (.ref t)) (V_t : Arv Z h0 t kb .byte (2 : Int32) [(.int (c.toInt8.toInt32)), (.int (d.toInt8.toInt32))] (.int (0 : Int32))) (rc : oRg c) (rd : oRg d) (wc : oWs c = true) (wd : oWs d = false) :
    MetFree l (⟨"java/lang/String", "indexOfNonWhitespace", "()I"⟩ : MethodName) (head1 (Jvm.Cond.code (⟨"java/lang/String", "indexOfNonWhitespace", "()I"⟩ : MethodName) jdk_42_method_120_code 1 (some .int) :: ws) ({ frames := 3, cells := 0, slots := 0, locals := 44 } : Room)) (fun aG UG => aG = #[(.ref a)] ∧ Z.Warmed39 UG.vm ∧ UG.heap = h0) (fun _ _ _ _ _ => True) (fun _ UG oG UG' => ∃ vG LG, oG = .returned vG ∧ Q_rm_six2WN Z w_instance w_A c_A zc a t kb c d h0 n0 vG UG'.heap LG ∧ FrameEnd UG oG UG' LG ({ frames := 3, cells := 0, slots := 0, locals := 44 } : Room).cells ({ frames := 3, cells := 0, slots := 0, locals := 44 } : Room).slots) := by
  refine MetFree.of_bodySF (plainFor_of_name pn_0) hisR ?_
  intro pG eG sG mG rG bG fG cG s₁ Bd hml0 hP hK
  obtain ⟨rfl, hZ, hh⟩ := hP
  have hx := Bd.exec
  have yb := Bd.bytes
  have hml : cG.maxLocals = 1 := hml0
  have hown : sG.vm.findClass "java/lang/String" = some mG.cls := findClass_of_methodNamed Bd.named
  have hnm := (name_of_methodNamed Bd.named Bd.method).1
  have X0 : Stand pG l eG ({ frames := 3, cells := 0, slots := 0, locals := 44 } : Room) sG mG #[(.ref a)] bG fG cG s₁ [] 0 0 := Stand.of_body Bd
  have e0 : s₁.heap = h0 := by rw [← hh, Bd.state]; rfl
  have N0 := Fr.nil n0
  have K0 := Keep.refl h0 []
  obtain ⟨S_w_instance, E_w_instance, S_w_A, E_w_A, V_w_A, S_zc, hzc⟩ := (id hS : St0 Z w_instance w_A c_A zc )
  refine ostart (g' := (mkF mG 0 #[oa a] [])) (by first | (simp [entryFrame, mkF, argsToLocals, Value.category]; done) | rfl) ?_
  refine ob s₁ (mkF mG 1 #[oa a] [(.ref a)]) (fun _ kk => XS.aloadN X0.here hx rfl (hb yb d8_0) rfl rfl kk) ?_
  obtain ⟨cq1, kq1, q1a, q1b, q1c⟩ := isOf hZ e0 E_a
  obtain ⟨_, _, ⟨T1, L1, k1, n1⟩, -, X1, ⟨Lc1, hQ1, l1, y1, z1⟩, st1⟩ := X0.virtualBack hx (y := (⟨"java/lang/String", "isLatin1", "()Z"⟩ : MethodName)) (z := (⟨"java/lang/String", "isLatin1", "()Z"⟩ : MethodName)) hown (mvT hZ (ow hw 48 rfl)) (mvT hZ (ow hw 49 rfl)) (notFace_of_selects (args := #[]) (mvT hZ (ow hw 51 rfl))) (mvT hZ (ow hw 51 rfl)) (mvT hZ (ow hw 50 rfl)) (by decide) (backOf (W := 0) (rm_lat l Z a0 hw [] w_instance w_A c_A zc a h0 n0 O0 hS F_c) hZ (ow hw 52 rfl) (ow hw 6 rfl) (by decide) (by decide)) q1a q1c (g := (mkF mG 1 #[oa a] [(.ref a)])) rfl (by rw [hml]; rfl) (Steps.refl _) (argsL := []) (rest := []) (lenOf pd_2 rfl) rfl (by show 2 * 0 + _ ≤ _; exact Nat.le_of_eq rfl) (hb yb d8_1) (fun _ _ => ⟨rfl, e0, (by decide : 0 + 0 ≤ _), (by decide : 0 + 0 ≤ _)⟩)
  dsimp only [Pt.U, Pt.locs, Pt.cells, Pt.slots] at X1 l1 y1 z1 st1 hQ1
  subst l1 y1 z1
  obtain ⟨rfl, N1q, e1⟩ := hQ1
  have N1 := Fr.app N0 N1q
  refine ob T1 (mkF mG 4 #[oa a] [(.int (1 : Int32))]) (fun _ kk => st1.trans kk) ?_
  refine ob T1 (mkF mG 7 #[oa a] []) (fun _ kk => XS.ifNo X1.here hx rfl (hb yb d8_4) rfl ((if0 _ _).trans (feq (by decide : ¬ ((1 : Int32) = (0 : Int32)))).1) kk) ?_
  refine ob T1 (mkF mG 8 #[oa a] [(.ref a)]) (fun _ kk => XS.aloadN X1.here hx rfl (hb yb d8_7) rfl rfl kk) ?_
  obtain ⟨T2, X2, e2, st2⟩ := getF X1 hx hZ hown (host := "") (Or.inl (ow hw 24 rfl)) Via.refl e1 F_v (g := (mkF mG 8 #[oa a] [(.ref a)])) rfl rfl (hb yb d8_8)
  refine ob T2 (mkF mG 11 #[oa a] [(.ref t)]) (fun _ kk => st2 _ kk) ?_
  obtain ⟨_, _, ⟨T3, L3, k3, n3⟩, -, X3, ⟨Lc3, hQ3, l3, y3, z3⟩, st3⟩ := Jvm.LawKit.callS X2 hx (y := (⟨"java/lang/StringLatin1", "indexOfNonWhitespace", "([B)I"⟩ : MethodName)) hown (mvT hZ (ow hw 54 rfl)) (mvT hZ (ow hw 55 rfl)) (mvT hZ (ow hw 56 rfl)) (mvT hZ (ow hw 57 rfl)) (by decide) (backOf (W := 0) (rm_ix2WN l Z a0 hw [] w_instance w_A c_A zc t kb c d h0 n0 O0 hS V_t rc rd wc wd) hZ (ow hw 57 rfl) (ow hw 56 rfl) (by decide) (by decide)) (g := (mkF mG 11 #[oa a] [(.ref t)])) rfl (by rw [hml]; rfl) (argsL := [(.ref t)]) (rest := []) (lenOf pd_3 rfl) rfl (by show 2 * 0 + _ ≤ _; exact Nat.le_of_eq rfl) (hb yb d8_11) (fun _ _ => ⟨rfl, e2, (by decide : 0 + 0 ≤ _), (by decide : 0 + 0 ≤ _)⟩)
  dsimp only [Pt.U, Pt.locs, Pt.cells, Pt.slots] at X3 l3 y3 z3 st3 hQ3
  subst l3 y3 z3
  obtain ⟨rfl, N3q, e3⟩ := hQ3
  have N3 := Fr.app N1 N3q
  refine ob T3 (mkF mG 14 #[oa a] [(.int (1 : Int32))]) (fun _ kk => st3 _ kk) ?_
  refine ob T3 (mkF mG 24 #[oa a] [(.int (1 : Int32))]) (fun _ kk => XS.goto X3.here hx rfl (pc0 := 14) (pc' := 24) rfl (hb yb d8_14) (by decide) (by decide) kk) ?_
  obtain ⟨fs, hr, hrun, hended, hW, hsame⟩ := X3.leave (v := some (.int (1 : Int32))) (fun h => by rw [Bd.returns] at h; cases h)
  refine oout (retOut X3 hx Bd.returns rfl (Or.inl ⟨rfl, Or.inl rfl, _, rfl⟩) (hb yb d8_24) hr) hrun hended ⟨_, _, rfl, ?_, ⟨_, rfl⟩, hW, hsame.mono (by decide) (by decide)⟩
  show Q_rm_six2WN Z w_instance w_A c_A zc a t kb c d h0 n0 _ T3.heap _
  rw [e3]
  exact ⟨rfl, N3, rfl⟩

def Q_rm_ix2WW (Z : State) (w_instance : Addr) (w_A : Addr) (c_A : Cell) (zc : Int32) (t : Addr) (kb : ClassId) (c : Int32) (d : Int32) (h0 : Heap) (n0 : Nat) (v : Option Value) (h : Heap) (L : List Loc) : Prop := v = some (.int (2 : Int32)) ∧ Fr n0 L ∧ h = h0
set_option maxRecDepth 65536 in
set_option maxHeartbeats 40000000 in
theorem rm_ix2WW (l : Launch) (Z : State) (a0 : Array Value) (hw : ∀ d ∈ tables_1, d.before a0 Z = true) (ws : List Jvm.Cond) (w_instance : Addr) (w_A : Addr) (c_A : Cell) (zc : Int32) (t : Addr) (kb : ClassId) (c : Int32) (d : Int32) (h0 : Heap) (n0 : Nat) (O0 : Old Z n0 h0) (hS : St0 Z w_instance w_A c_A zc ) (V_t : Arv Z h0 t kb .byte (2 : Int32) [(.int (c.toInt8.toInt32)), (.int (d.toInt8.toInt32))] (.int (0 : Int32))) (rc : oRg c) (rd : oRg d) (wc : oWs c = true) (wd : oWs d = true) :
    MetFree l (⟨"java/lang/StringLatin1", "indexOfNonWhitespace", "([B)I"⟩ : MethodName) (head1 (Jvm.Cond.code (⟨"java/lang/StringLatin1", "indexOfNonWhitespace", "([B)I"⟩ : MethodName) jdk_43_method_37_code 4 (some .int) :: ws) ({ frames := 2, cells := 0, slots := 0, locals := 29 } : Room)) (fun aG UG => aG = #[(.ref t)] ∧ Z.Warmed39 UG.vm ∧ UG.heap = h0) (fun _ _ _ _ _ => True) (fun _ UG oG UG' => ∃ vG LG, oG = .returned vG ∧ Q_rm_ix2WW Z w_instance w_A c_A zc t kb c d h0 n0 vG UG'.heap LG ∧ FrameEnd UG oG UG' LG ({ frames := 2, cells := 0, slots := 0, locals := 29 } : Room).cells ({ frames := 2, cells := 0, slots := 0, locals := 29 } : Room).slots) := by
  refine MetFree.of_bodySF (plainFor_of_name pn_1) hisR ?_
  intro pG eG sG mG rG bG fG cG s₁ Bd hml0 hP hK
  obtain ⟨rfl, hZ, hh⟩ := hP
  have hx := Bd.exec
  have yb := Bd.bytes
  have hml : cG.maxLocals = 4 := hml0
  have hown : sG.vm.findClass "java/lang/StringLatin1" = some mG.cls := findClass_of_methodNamed Bd.named
  have hnm := (name_of_methodNamed Bd.named Bd.method).1
  have X0 : Stand pG l eG ({ frames := 2, cells := 0, slots := 0, locals := 29 } : Room) sG mG #[(.ref t)] bG fG cG s₁ [] 0 0 := Stand.of_body Bd
  have e0 : s₁.heap = h0 := by rw [← hh, Bd.state]; rfl
  have N0 := Fr.nil n0
  have K0 := Keep.refl h0 []
  obtain ⟨S_w_instance, E_w_instance, S_w_A, E_w_A, V_w_A, S_zc, hzc⟩ := (id hS : St0 Z w_instance w_A c_A zc )
  refine ostart (g' := (mkF mG 0 #[oa t, .unset, .unset, .unset] [])) (by first | (simp [entryFrame, mkF, argsToLocals, Value.category]; done) | rfl) ?_
  refine ob s₁ (mkF mG 1 #[oa t, .unset, .unset, .unset] [(.ref t)]) (fun _ kk => XS.aloadN X0.here hx rfl (hb yb d10_0) rfl rfl kk) ?_
  obtain ⟨cl1, Ar1, -, S1, N1a, -, -⟩ := id V_t
  refine oby (T' := s₁) (g' := (mkF mG 2 #[oa t, .unset, .unset, .unset] [(.int (2 : Int32))])) (fun ot ok => X0.arraylength hx (by rw [e0]; exact Ar1.1) (State.isArrayOf_alike hZ.alike Ar1.2.1) (g := (mkF mG 1 #[oa t, .unset, .unset, .unset] [(.ref t)])) rfl rfl (hb yb d10_1) _ (by rw [len_of S1 N1a]; exact ok)) ?_
  refine ob s₁ (mkF mG 3 #[oa t, oi (2 : Int32), .unset, .unset] []) (fun _ kk => XS.istoreN X0.here hx rfl (hb yb d10_2) rfl (l' := #[oa t, oi (2 : Int32), .unset, .unset]) rfl kk) ?_
  refine ob s₁ (mkF mG 4 #[oa t, oi (2 : Int32), .unset, .unset] [(.int (0 : Int32))]) (fun _ kk => XS.iconst X0.here hx rfl (hb yb d10_3) kk) ?_
  refine ob s₁ (mkF mG 5 #[oa t, oi (2 : Int32), oi (0 : Int32), .unset] []) (fun _ kk => XS.istoreN X0.here hx rfl (hb yb d10_4) rfl (l' := #[oa t, oi (2 : Int32), oi (0 : Int32), .unset]) rfl kk) ?_
  refine ob s₁ (mkF mG 6 #[oa t, oi (2 : Int32), oi (0 : Int32), .unset] [(.int (0 : Int32))]) (fun _ kk => XS.iloadN X0.here hx rfl (hb yb d10_5) rfl kk) ?_
  refine ob s₁ (mkF mG 7 #[oa t, oi (2 : Int32), oi (0 : Int32), .unset] [(.int (2 : Int32)), (.int (0 : Int32))]) (fun _ kk => XS.iloadN X0.here hx rfl (hb yb d10_6) rfl kk) ?_
  refine ob s₁ (mkF mG 10 #[oa t, oi (2 : Int32), oi (0 : Int32), .unset] []) (fun _ kk => XS.icmpNo X0.here hx rfl (hb yb d10_7) rfl (tlt (by decide : (0 : Int32) < (2 : Int32))).2.1 kk) ?_
  refine ob s₁ (mkF mG 11 #[oa t, oi (2 : Int32), oi (0 : Int32), .unset] [(.ref t)]) (fun _ kk => XS.aloadN X0.here hx rfl (hb yb d10_10) rfl rfl kk) ?_
  refine ob s₁ (mkF mG 12 #[oa t, oi (2 : Int32), oi (0 : Int32), .unset] [(.int (0 : Int32)), (.ref t)]) (fun _ kk => XS.iloadN X0.here hx rfl (hb yb d10_11) rfl kk) ?_
  obtain ⟨_, _, ⟨T2, L2, k2, n2⟩, -, X2, ⟨Lc2, hQ2, l2, y2, z2⟩, st2⟩ := Jvm.LawKit.callS X0 hx (y := (⟨"java/lang/StringLatin1", "getChar", "([BI)C"⟩ : MethodName)) hown (mvT hZ (ow hw 88 rfl)) (mvT hZ (ow hw 89 rfl)) (mvT hZ (ow hw 56 rfl)) (mvT hZ (ow hw 90 rfl)) (by decide) (backOf (W := 0) (rm_gc20 l Z a0 hw [] w_instance w_A c_A zc t kb c d h0 n0 O0 hS V_t rc) hZ (ow hw 90 rfl) (ow hw 56 rfl) (by decide) (by decide)) (g := (mkF mG 12 #[oa t, oi (2 : Int32), oi (0 : Int32), .unset] [(.int (0 : Int32)), (.ref t)])) rfl (by rw [hml]; rfl) (argsL := [(.ref t), (.int (0 : Int32))]) (rest := []) (lenOf pd_4 rfl) rfl (by show 2 * 0 + _ ≤ _; exact Nat.le_of_eq rfl) (hb yb d10_12) (fun _ _ => ⟨rfl, e0, (by decide : 0 + 0 ≤ _), (by decide : 0 + 0 ≤ _)⟩)
  dsimp only [Pt.U, Pt.locs, Pt.cells, Pt.slots] at X2 l2 y2 z2 st2 hQ2
  subst l2 y2 z2
  obtain ⟨rfl, N2q, e2⟩ := hQ2
  have N2 := Fr.app N0 N2q
  refine ob T2 (mkF mG 15 #[oa t, oi (2 : Int32), oi (0 : Int32), .unset] [(.int c)]) (fun _ kk => st2 _ kk) ?_
  refine ob T2 (mkF mG 16 #[oa t, oi (2 : Int32), oi (0 : Int32), oi c] []) (fun _ kk => XS.istoreN X2.here hx rfl (hb yb d10_15) rfl (l' := #[oa t, oi (2 : Int32), oi (0 : Int32), oi c]) rfl kk) ?_
  refine ob T2 (mkF mG 17 #[oa t, oi (2 : Int32), oi (0 : Int32), oi c] [(.int c)]) (fun _ kk => XS.iloadN X2.here hx rfl (hb yb d10_16) rfl kk) ?_
  refine ob T2 (mkF mG 19 #[oa t, oi (2 : Int32), oi (0 : Int32), oi c] [(.int (32 : Int32)), (.int c)]) (fun _ kk => XS.bipush X2.here hx rfl (hb yb d10_17) kk) ?_
  by_cases hc3 : c = (32 : Int32)
  · skip
    refine ob T2 (mkF mG 41 #[oa t, oi (2 : Int32), oi (0 : Int32), oi c] []) (fun _ kk => XS.icmpYes X2.here hx rfl (pc0 := 19) (pc' := 41) rfl (hb yb d10_19) rfl (teq hc3).1 (by decide) (by decide) kk) ?_
    refine ob T2 (mkF mG 44 #[oa t, oi (2 : Int32), oi (1 : Int32), oi c] []) (fun _ kk => XS.iinc X2.here hx rfl (hb yb d10_41) rfl (l' := #[oa t, oi (2 : Int32), oi (1 : Int32), oi c]) rfl kk) ?_
    refine ob T2 (mkF mG 5 #[oa t, oi (2 : Int32), oi (1 : Int32), oi c] []) (fun _ kk => XS.goto X2.here hx rfl (pc0 := 44) (pc' := 5) rfl (hb yb d10_44) (by decide) (by decide) kk) ?_
    refine ob T2 (mkF mG 6 #[oa t, oi (2 : Int32), oi (1 : Int32), oi c] [(.int (1 : Int32))]) (fun _ kk => XS.iloadN X2.here hx rfl (hb yb d10_5) rfl kk) ?_
    refine ob T2 (mkF mG 7 #[oa t, oi (2 : Int32), oi (1 : Int32), oi c] [(.int (2 : Int32)), (.int (1 : Int32))]) (fun _ kk => XS.iloadN X2.here hx rfl (hb yb d10_6) rfl kk) ?_
    refine ob T2 (mkF mG 10 #[oa t, oi (2 : Int32), oi (1 : Int32), oi c] []) (fun _ kk => XS.icmpNo X2.here hx rfl (hb yb d10_7) rfl (tlt (by decide : (1 : Int32) < (2 : Int32))).2.1 kk) ?_
    refine ob T2 (mkF mG 11 #[oa t, oi (2 : Int32), oi (1 : Int32), oi c] [(.ref t)]) (fun _ kk => XS.aloadN X2.here hx rfl (hb yb d10_10) rfl rfl kk) ?_
    refine ob T2 (mkF mG 12 #[oa t, oi (2 : Int32), oi (1 : Int32), oi c] [(.int (1 : Int32)), (.ref t)]) (fun _ kk => XS.iloadN X2.here hx rfl (hb yb d10_11) rfl kk) ?_
    obtain ⟨_, _, ⟨T4, L4, k4, n4⟩, -, X4, ⟨Lc4, hQ4, l4, y4, z4⟩, st4⟩ := Jvm.LawKit.callS X2 hx (y := (⟨"java/lang/StringLatin1", "getChar", "([BI)C"⟩ : MethodName)) hown (mvT hZ (ow hw 88 rfl)) (mvT hZ (ow hw 89 rfl)) (mvT hZ (ow hw 56 rfl)) (mvT hZ (ow hw 90 rfl)) (by decide) (backOf (W := 0) (rm_gc21 l Z a0 hw [] w_instance w_A c_A zc t kb c d h0 n0 O0 hS V_t rd) hZ (ow hw 90 rfl) (ow hw 56 rfl) (by decide) (by decide)) (g := (mkF mG 12 #[oa t, oi (2 : Int32), oi (1 : Int32), oi c] [(.int (1 : Int32)), (.ref t)])) rfl (by rw [hml]; rfl) (argsL := [(.ref t), (.int (1 : Int32))]) (rest := []) (lenOf pd_4 rfl) rfl (by show 2 * 0 + _ ≤ _; exact Nat.le_of_eq rfl) (hb yb d10_12) (fun _ _ => ⟨rfl, e2, (by decide : 0 + 0 ≤ _), (by decide : 0 + 0 ≤ _)⟩)
    dsimp only [Pt.U, Pt.locs, Pt.cells, Pt.slots] at X4 l4 y4 z4 st4 hQ4
    subst l4 y4 z4
    obtain ⟨rfl, N4q, e4⟩ := hQ4
    have N4 := Fr.app N2 N4q
    refine ob T4 (mkF mG 15 #[oa t, oi (2 : Int32), oi (1 : Int32), oi c] [(.int d)]) (fun _ kk => st4 _ kk) ?_
    refine ob T4 (mkF mG 16 #[oa t, oi (2 : Int32), oi (1 : Int32), oi d] []) (fun _ kk => XS.istoreN X4.here hx rfl (hb yb d10_15) rfl (l' := #[oa t, oi (2 : Int32), oi (1 : Int32), oi d]) rfl kk) ?_
    refine ob T4 (mkF mG 17 #[oa t, oi (2 : Int32), oi (1 : Int32), oi d] [(.int d)]) (fun _ kk => XS.iloadN X4.here hx rfl (hb yb d10_16) rfl kk) ?_
    refine ob T4 (mkF mG 19 #[oa t, oi (2 : Int32), oi (1 : Int32), oi d] [(.int (32 : Int32)), (.int d)]) (fun _ kk => XS.bipush X4.here hx rfl (hb yb d10_17) kk) ?_
    by_cases hc5 : d = (32 : Int32)
    · skip
      refine ob T4 (mkF mG 41 #[oa t, oi (2 : Int32), oi (1 : Int32), oi d] []) (fun _ kk => XS.icmpYes X4.here hx rfl (pc0 := 19) (pc' := 41) rfl (hb yb d10_19) rfl (teq hc5).1 (by decide) (by decide) kk) ?_
      refine ob T4 (mkF mG 44 #[oa t, oi (2 : Int32), oi (2 : Int32), oi d] []) (fun _ kk => XS.iinc X4.here hx rfl (hb yb d10_41) rfl (l' := #[oa t, oi (2 : Int32), oi (2 : Int32), oi d]) rfl kk) ?_
      refine ob T4 (mkF mG 5 #[oa t, oi (2 : Int32), oi (2 : Int32), oi d] []) (fun _ kk => XS.goto X4.here hx rfl (pc0 := 44) (pc' := 5) rfl (hb yb d10_44) (by decide) (by decide) kk) ?_
      refine ob T4 (mkF mG 6 #[oa t, oi (2 : Int32), oi (2 : Int32), oi d] [(.int (2 : Int32))]) (fun _ kk => XS.iloadN X4.here hx rfl (hb yb d10_5) rfl kk) ?_
      refine ob T4 (mkF mG 7 #[oa t, oi (2 : Int32), oi (2 : Int32), oi d] [(.int (2 : Int32)), (.int (2 : Int32))]) (fun _ kk => XS.iloadN X4.here hx rfl (hb yb d10_6) rfl kk) ?_
      refine ob T4 (mkF mG 47 #[oa t, oi (2 : Int32), oi (2 : Int32), oi d] []) (fun _ kk => XS.icmpYes X4.here hx rfl (pc0 := 7) (pc' := 47) rfl (hb yb d10_7) rfl (flt (by decide : ¬ ((2 : Int32) < (2 : Int32)))).2.1 (by decide) (by decide) kk) ?_
      refine ob T4 (mkF mG 48 #[oa t, oi (2 : Int32), oi (2 : Int32), oi d] [(.int (2 : Int32))]) (fun _ kk => XS.iloadN X4.here hx rfl (hb yb d10_47) rfl kk) ?_
      obtain ⟨fs, hr, hrun, hended, hW, hsame⟩ := X4.leave (v := some (.int (2 : Int32))) (fun h => by rw [Bd.returns] at h; cases h)
      refine oout (retOut X4 hx Bd.returns rfl (Or.inl ⟨rfl, Or.inl rfl, _, rfl⟩) (hb yb d10_48) hr) hrun hended ⟨_, _, rfl, ?_, ⟨_, rfl⟩, hW, hsame.mono (by decide) (by decide)⟩
      show Q_rm_ix2WW Z w_instance w_A c_A zc t kb c d h0 n0 _ T4.heap _
      rw [e4]
      exact ⟨rfl, N4, rfl⟩
    · skip
      refine ob T4 (mkF mG 22 #[oa t, oi (2 : Int32), oi (1 : Int32), oi d] []) (fun _ kk => XS.icmpNo X4.here hx rfl (hb yb d10_19) rfl (feq hc5).1 kk) ?_
      refine ob T4 (mkF mG 23 #[oa t, oi (2 : Int32), oi (1 : Int32), oi d] [(.int d)]) (fun _ kk => XS.iloadN X4.here hx rfl (hb yb d10_22) rfl kk) ?_
      refine ob T4 (mkF mG 25 #[oa t, oi (2 : Int32), oi (1 : Int32), oi d] [(.int (9 : Int32)), (.int d)]) (fun _ kk => XS.bipush X4.here hx rfl (hb yb d10_23) kk) ?_
      by_cases hc6 : d = (9 : Int32)
      · skip
        refine ob T4 (mkF mG 41 #[oa t, oi (2 : Int32), oi (1 : Int32), oi d] []) (fun _ kk => XS.icmpYes X4.here hx rfl (pc0 := 25) (pc' := 41) rfl (hb yb d10_25) rfl (teq hc6).1 (by decide) (by decide) kk) ?_
        refine ob T4 (mkF mG 44 #[oa t, oi (2 : Int32), oi (2 : Int32), oi d] []) (fun _ kk => XS.iinc X4.here hx rfl (hb yb d10_41) rfl (l' := #[oa t, oi (2 : Int32), oi (2 : Int32), oi d]) rfl kk) ?_
        refine ob T4 (mkF mG 5 #[oa t, oi (2 : Int32), oi (2 : Int32), oi d] []) (fun _ kk => XS.goto X4.here hx rfl (pc0 := 44) (pc' := 5) rfl (hb yb d10_44) (by decide) (by decide) kk) ?_
        refine ob T4 (mkF mG 6 #[oa t, oi (2 : Int32), oi (2 : Int32), oi d] [(.int (2 : Int32))]) (fun _ kk => XS.iloadN X4.here hx rfl (hb yb d10_5) rfl kk) ?_
        refine ob T4 (mkF mG 7 #[oa t, oi (2 : Int32), oi (2 : Int32), oi d] [(.int (2 : Int32)), (.int (2 : Int32))]) (fun _ kk => XS.iloadN X4.here hx rfl (hb yb d10_6) rfl kk) ?_
        refine ob T4 (mkF mG 47 #[oa t, oi (2 : Int32), oi (2 : Int32), oi d] []) (fun _ kk => XS.icmpYes X4.here hx rfl (pc0 := 7) (pc' := 47) rfl (hb yb d10_7) rfl (flt (by decide : ¬ ((2 : Int32) < (2 : Int32)))).2.1 (by decide) (by decide) kk) ?_
        refine ob T4 (mkF mG 48 #[oa t, oi (2 : Int32), oi (2 : Int32), oi d] [(.int (2 : Int32))]) (fun _ kk => XS.iloadN X4.here hx rfl (hb yb d10_47) rfl kk) ?_
        obtain ⟨fs, hr, hrun, hended, hW, hsame⟩ := X4.leave (v := some (.int (2 : Int32))) (fun h => by rw [Bd.returns] at h; cases h)
        refine oout (retOut X4 hx Bd.returns rfl (Or.inl ⟨rfl, Or.inl rfl, _, rfl⟩) (hb yb d10_48) hr) hrun hended ⟨_, _, rfl, ?_, ⟨_, rfl⟩, hW, hsame.mono (by decide) (by decide)⟩
        show Q_rm_ix2WW Z w_instance w_A c_A zc t kb c d h0 n0 _ T4.heap _
        rw [e4]
        exact ⟨rfl, N4, rfl⟩
      · skip
        refine ob T4 (mkF mG 28 #[oa t, oi (2 : Int32), oi (1 : Int32), oi d] []) (fun _ kk => XS.icmpNo X4.here hx rfl (hb yb d10_25) rfl (feq hc6).1 kk) ?_
        obtain ⟨T7, X7, e7, st7⟩ := getS2 X4 hx hZ hown (host := "") (Or.inl (ow hw 91 rfl)) Via.refl e4 (S_w_instance.ext O0.2) (g := (mkF mG 28 #[oa t, oi (2 : Int32), oi (1 : Int32), oi d] [])) rfl (hb yb d10_28)
        refine ob T7 (mkF mG 31 #[oa t, oi (2 : Int32), oi (1 : Int32), oi d] [(.ref w_instance)]) (fun _ kk => st7 _ kk) ?_
        refine ob T7 (mkF mG 32 #[oa t, oi (2 : Int32), oi (1 : Int32), oi d] [(.int d), (.ref w_instance)]) (fun _ kk => XS.iloadN X7.here hx rfl (hb yb d10_31) rfl kk) ?_
        obtain ⟨cq8, kq8, q8a, q8b, q8c⟩ := isOf hZ e7 (E_w_instance.ext O0.2)
        obtain ⟨_, _, ⟨T8, L8, k8, n8⟩, -, X8, ⟨Lc8, hQ8, l8, y8, z8⟩, st8⟩ := X7.virtualBack hx (y := (⟨"java/lang/CharacterDataLatin1", "isWhitespace", "(I)Z"⟩ : MethodName)) (z := (⟨"java/lang/CharacterDataLatin1", "isWhitespace", "(I)Z"⟩ : MethodName)) hown (mvT hZ (ow hw 93 rfl)) (mvT hZ (ow hw 94 rfl)) (notFace_of_selects (args := #[]) (mvT hZ (ow hw 96 rfl))) (mvT hZ (ow hw 96 rfl)) (mvT hZ (ow hw 95 rfl)) (by decide) (backOf (W := 0) (rm_iswW l Z a0 hw [] w_instance w_A c_A zc d h0 n0 O0 hS rd wd) hZ (ow hw 97 rfl) (ow hw 92 rfl) (by decide) (by decide)) q8a q8c (g := (mkF mG 32 #[oa t, oi (2 : Int32), oi (1 : Int32), oi d] [(.int d), (.ref w_instance)])) rfl (by rw [hml]; rfl) (Steps.refl _) (argsL := [(.int d)]) (rest := []) (lenOf pd_5 rfl) rfl (by show 2 * 0 + _ ≤ _; exact Nat.le_of_eq rfl) (hb yb d10_32) (fun _ _ => ⟨rfl, e7, (by decide : 0 + 0 ≤ _), (by decide : 0 + 0 ≤ _)⟩)
        dsimp only [Pt.U, Pt.locs, Pt.cells, Pt.slots] at X8 l8 y8 z8 st8 hQ8
        subst l8 y8 z8
        obtain ⟨rfl, N8q, e8⟩ := hQ8
        have N8 := Fr.app N4 N8q
        refine ob T8 (mkF mG 35 #[oa t, oi (2 : Int32), oi (1 : Int32), oi d] [(.int (1 : Int32))]) (fun _ kk => st8.trans kk) ?_
        refine ob T8 (mkF mG 41 #[oa t, oi (2 : Int32), oi (1 : Int32), oi d] []) (fun _ kk => XS.ifYes X8.here hx rfl (pc0 := 35) (pc' := 41) rfl (hb yb d10_35) rfl ((if0 _ _).trans (feq (by decide : ¬ ((1 : Int32) = (0 : Int32)))).2) (by decide) (by decide) kk) ?_
        refine ob T8 (mkF mG 44 #[oa t, oi (2 : Int32), oi (2 : Int32), oi d] []) (fun _ kk => XS.iinc X8.here hx rfl (hb yb d10_41) rfl (l' := #[oa t, oi (2 : Int32), oi (2 : Int32), oi d]) rfl kk) ?_
        refine ob T8 (mkF mG 5 #[oa t, oi (2 : Int32), oi (2 : Int32), oi d] []) (fun _ kk => XS.goto X8.here hx rfl (pc0 := 44) (pc' := 5) rfl (hb yb d10_44) (by decide) (by decide) kk) ?_
        refine ob T8 (mkF mG 6 #[oa t, oi (2 : Int32), oi (2 : Int32), oi d] [(.int (2 : Int32))]) (fun _ kk => XS.iloadN X8.here hx rfl (hb yb d10_5) rfl kk) ?_
        refine ob T8 (mkF mG 7 #[oa t, oi (2 : Int32), oi (2 : Int32), oi d] [(.int (2 : Int32)), (.int (2 : Int32))]) (fun _ kk => XS.iloadN X8.here hx rfl (hb yb d10_6) rfl kk) ?_
        refine ob T8 (mkF mG 47 #[oa t, oi (2 : Int32), oi (2 : Int32), oi d] []) (fun _ kk => XS.icmpYes X8.here hx rfl (pc0 := 7) (pc' := 47) rfl (hb yb d10_7) rfl (flt (by decide : ¬ ((2 : Int32) < (2 : Int32)))).2.1 (by decide) (by decide) kk) ?_
        refine ob T8 (mkF mG 48 #[oa t, oi (2 : Int32), oi (2 : Int32), oi d] [(.int (2 : Int32))]) (fun _ kk => XS.iloadN X8.here hx rfl (hb yb d10_47) rfl kk) ?_
        obtain ⟨fs, hr, hrun, hended, hW, hsame⟩ := X8.leave (v := some (.int (2 : Int32))) (fun h => by rw [Bd.returns] at h; cases h)
        refine oout (retOut X8 hx Bd.returns rfl (Or.inl ⟨rfl, Or.inl rfl, _, rfl⟩) (hb yb d10_48) hr) hrun hended ⟨_, _, rfl, ?_, ⟨_, rfl⟩, hW, hsame.mono (by decide) (by decide)⟩
        show Q_rm_ix2WW Z w_instance w_A c_A zc t kb c d h0 n0 _ T8.heap _
        rw [e8]
        exact ⟨rfl, N8, rfl⟩
  · skip
    refine ob T2 (mkF mG 22 #[oa t, oi (2 : Int32), oi (0 : Int32), oi c] []) (fun _ kk => XS.icmpNo X2.here hx rfl (hb yb d10_19) rfl (feq hc3).1 kk) ?_
    refine ob T2 (mkF mG 23 #[oa t, oi (2 : Int32), oi (0 : Int32), oi c] [(.int c)]) (fun _ kk => XS.iloadN X2.here hx rfl (hb yb d10_22) rfl kk) ?_
    refine ob T2 (mkF mG 25 #[oa t, oi (2 : Int32), oi (0 : Int32), oi c] [(.int (9 : Int32)), (.int c)]) (fun _ kk => XS.bipush X2.here hx rfl (hb yb d10_23) kk) ?_
    by_cases hc9 : c = (9 : Int32)
    · skip
      refine ob T2 (mkF mG 41 #[oa t, oi (2 : Int32), oi (0 : Int32), oi c] []) (fun _ kk => XS.icmpYes X2.here hx rfl (pc0 := 25) (pc' := 41) rfl (hb yb d10_25) rfl (teq hc9).1 (by decide) (by decide) kk) ?_
      refine ob T2 (mkF mG 44 #[oa t, oi (2 : Int32), oi (1 : Int32), oi c] []) (fun _ kk => XS.iinc X2.here hx rfl (hb yb d10_41) rfl (l' := #[oa t, oi (2 : Int32), oi (1 : Int32), oi c]) rfl kk) ?_
      refine ob T2 (mkF mG 5 #[oa t, oi (2 : Int32), oi (1 : Int32), oi c] []) (fun _ kk => XS.goto X2.here hx rfl (pc0 := 44) (pc' := 5) rfl (hb yb d10_44) (by decide) (by decide) kk) ?_
      refine ob T2 (mkF mG 6 #[oa t, oi (2 : Int32), oi (1 : Int32), oi c] [(.int (1 : Int32))]) (fun _ kk => XS.iloadN X2.here hx rfl (hb yb d10_5) rfl kk) ?_
      refine ob T2 (mkF mG 7 #[oa t, oi (2 : Int32), oi (1 : Int32), oi c] [(.int (2 : Int32)), (.int (1 : Int32))]) (fun _ kk => XS.iloadN X2.here hx rfl (hb yb d10_6) rfl kk) ?_
      refine ob T2 (mkF mG 10 #[oa t, oi (2 : Int32), oi (1 : Int32), oi c] []) (fun _ kk => XS.icmpNo X2.here hx rfl (hb yb d10_7) rfl (tlt (by decide : (1 : Int32) < (2 : Int32))).2.1 kk) ?_
      refine ob T2 (mkF mG 11 #[oa t, oi (2 : Int32), oi (1 : Int32), oi c] [(.ref t)]) (fun _ kk => XS.aloadN X2.here hx rfl (hb yb d10_10) rfl rfl kk) ?_
      refine ob T2 (mkF mG 12 #[oa t, oi (2 : Int32), oi (1 : Int32), oi c] [(.int (1 : Int32)), (.ref t)]) (fun _ kk => XS.iloadN X2.here hx rfl (hb yb d10_11) rfl kk) ?_
      obtain ⟨_, _, ⟨T10, L10, k10, n10⟩, -, X10, ⟨Lc10, hQ10, l10, y10, z10⟩, st10⟩ := Jvm.LawKit.callS X2 hx (y := (⟨"java/lang/StringLatin1", "getChar", "([BI)C"⟩ : MethodName)) hown (mvT hZ (ow hw 88 rfl)) (mvT hZ (ow hw 89 rfl)) (mvT hZ (ow hw 56 rfl)) (mvT hZ (ow hw 90 rfl)) (by decide) (backOf (W := 0) (rm_gc21 l Z a0 hw [] w_instance w_A c_A zc t kb c d h0 n0 O0 hS V_t rd) hZ (ow hw 90 rfl) (ow hw 56 rfl) (by decide) (by decide)) (g := (mkF mG 12 #[oa t, oi (2 : Int32), oi (1 : Int32), oi c] [(.int (1 : Int32)), (.ref t)])) rfl (by rw [hml]; rfl) (argsL := [(.ref t), (.int (1 : Int32))]) (rest := []) (lenOf pd_4 rfl) rfl (by show 2 * 0 + _ ≤ _; exact Nat.le_of_eq rfl) (hb yb d10_12) (fun _ _ => ⟨rfl, e2, (by decide : 0 + 0 ≤ _), (by decide : 0 + 0 ≤ _)⟩)
      dsimp only [Pt.U, Pt.locs, Pt.cells, Pt.slots] at X10 l10 y10 z10 st10 hQ10
      subst l10 y10 z10
      obtain ⟨rfl, N10q, e10⟩ := hQ10
      have N10 := Fr.app N2 N10q
      refine ob T10 (mkF mG 15 #[oa t, oi (2 : Int32), oi (1 : Int32), oi c] [(.int d)]) (fun _ kk => st10 _ kk) ?_
      refine ob T10 (mkF mG 16 #[oa t, oi (2 : Int32), oi (1 : Int32), oi d] []) (fun _ kk => XS.istoreN X10.here hx rfl (hb yb d10_15) rfl (l' := #[oa t, oi (2 : Int32), oi (1 : Int32), oi d]) rfl kk) ?_
      refine ob T10 (mkF mG 17 #[oa t, oi (2 : Int32), oi (1 : Int32), oi d] [(.int d)]) (fun _ kk => XS.iloadN X10.here hx rfl (hb yb d10_16) rfl kk) ?_
      refine ob T10 (mkF mG 19 #[oa t, oi (2 : Int32), oi (1 : Int32), oi d] [(.int (32 : Int32)), (.int d)]) (fun _ kk => XS.bipush X10.here hx rfl (hb yb d10_17) kk) ?_
      by_cases hc11 : d = (32 : Int32)
      · skip
        refine ob T10 (mkF mG 41 #[oa t, oi (2 : Int32), oi (1 : Int32), oi d] []) (fun _ kk => XS.icmpYes X10.here hx rfl (pc0 := 19) (pc' := 41) rfl (hb yb d10_19) rfl (teq hc11).1 (by decide) (by decide) kk) ?_
        refine ob T10 (mkF mG 44 #[oa t, oi (2 : Int32), oi (2 : Int32), oi d] []) (fun _ kk => XS.iinc X10.here hx rfl (hb yb d10_41) rfl (l' := #[oa t, oi (2 : Int32), oi (2 : Int32), oi d]) rfl kk) ?_
        refine ob T10 (mkF mG 5 #[oa t, oi (2 : Int32), oi (2 : Int32), oi d] []) (fun _ kk => XS.goto X10.here hx rfl (pc0 := 44) (pc' := 5) rfl (hb yb d10_44) (by decide) (by decide) kk) ?_
        refine ob T10 (mkF mG 6 #[oa t, oi (2 : Int32), oi (2 : Int32), oi d] [(.int (2 : Int32))]) (fun _ kk => XS.iloadN X10.here hx rfl (hb yb d10_5) rfl kk) ?_
        refine ob T10 (mkF mG 7 #[oa t, oi (2 : Int32), oi (2 : Int32), oi d] [(.int (2 : Int32)), (.int (2 : Int32))]) (fun _ kk => XS.iloadN X10.here hx rfl (hb yb d10_6) rfl kk) ?_
        refine ob T10 (mkF mG 47 #[oa t, oi (2 : Int32), oi (2 : Int32), oi d] []) (fun _ kk => XS.icmpYes X10.here hx rfl (pc0 := 7) (pc' := 47) rfl (hb yb d10_7) rfl (flt (by decide : ¬ ((2 : Int32) < (2 : Int32)))).2.1 (by decide) (by decide) kk) ?_
        refine ob T10 (mkF mG 48 #[oa t, oi (2 : Int32), oi (2 : Int32), oi d] [(.int (2 : Int32))]) (fun _ kk => XS.iloadN X10.here hx rfl (hb yb d10_47) rfl kk) ?_
        obtain ⟨fs, hr, hrun, hended, hW, hsame⟩ := X10.leave (v := some (.int (2 : Int32))) (fun h => by rw [Bd.returns] at h; cases h)
        refine oout (retOut X10 hx Bd.returns rfl (Or.inl ⟨rfl, Or.inl rfl, _, rfl⟩) (hb yb d10_48) hr) hrun hended ⟨_, _, rfl, ?_, ⟨_, rfl⟩, hW, hsame.mono (by decide) (by decide)⟩
        show Q_rm_ix2WW Z w_instance w_A c_A zc t kb c d h0 n0 _ T10.heap _
        rw [e10]
        exact ⟨rfl, N10, rfl⟩
      · skip
        refine ob T10 (mkF mG 22 #[oa t, oi (2 : Int32), oi (1 : Int32), oi d] []) (fun _ kk => XS.icmpNo X10.here hx rfl (hb yb d10_19) rfl (feq hc11).1 kk) ?_
        refine ob T10 (mkF mG 23 #[oa t, oi (2 : Int32), oi (1 : Int32), oi d] [(.int d)]) (fun _ kk => XS.iloadN X10.here hx rfl (hb yb d10_22) rfl kk) ?_
        refine ob T10 (mkF mG 25 #[oa t, oi (2 : Int32), oi (1 : Int32), oi d] [(.int (9 : Int32)), (.int d)]) (fun _ kk => XS.bipush X10.here hx rfl (hb yb d10_23) kk) ?_
        by_cases hc12 : d = (9 : Int32)
        · skip
          refine ob T10 (mkF mG 41 #[oa t, oi (2 : Int32), oi (1 : Int32), oi d] []) (fun _ kk => XS.icmpYes X10.here hx rfl (pc0 := 25) (pc' := 41) rfl (hb yb d10_25) rfl (teq hc12).1 (by decide) (by decide) kk) ?_
          refine ob T10 (mkF mG 44 #[oa t, oi (2 : Int32), oi (2 : Int32), oi d] []) (fun _ kk => XS.iinc X10.here hx rfl (hb yb d10_41) rfl (l' := #[oa t, oi (2 : Int32), oi (2 : Int32), oi d]) rfl kk) ?_
          refine ob T10 (mkF mG 5 #[oa t, oi (2 : Int32), oi (2 : Int32), oi d] []) (fun _ kk => XS.goto X10.here hx rfl (pc0 := 44) (pc' := 5) rfl (hb yb d10_44) (by decide) (by decide) kk) ?_
          refine ob T10 (mkF mG 6 #[oa t, oi (2 : Int32), oi (2 : Int32), oi d] [(.int (2 : Int32))]) (fun _ kk => XS.iloadN X10.here hx rfl (hb yb d10_5) rfl kk) ?_
          refine ob T10 (mkF mG 7 #[oa t, oi (2 : Int32), oi (2 : Int32), oi d] [(.int (2 : Int32)), (.int (2 : Int32))]) (fun _ kk => XS.iloadN X10.here hx rfl (hb yb d10_6) rfl kk) ?_
          refine ob T10 (mkF mG 47 #[oa t, oi (2 : Int32), oi (2 : Int32), oi d] []) (fun _ kk => XS.icmpYes X10.here hx rfl (pc0 := 7) (pc' := 47) rfl (hb yb d10_7) rfl (flt (by decide : ¬ ((2 : Int32) < (2 : Int32)))).2.1 (by decide) (by decide) kk) ?_
          refine ob T10 (mkF mG 48 #[oa t, oi (2 : Int32), oi (2 : Int32), oi d] [(.int (2 : Int32))]) (fun _ kk => XS.iloadN X10.here hx rfl (hb yb d10_47) rfl kk) ?_
          obtain ⟨fs, hr, hrun, hended, hW, hsame⟩ := X10.leave (v := some (.int (2 : Int32))) (fun h => by rw [Bd.returns] at h; cases h)
          refine oout (retOut X10 hx Bd.returns rfl (Or.inl ⟨rfl, Or.inl rfl, _, rfl⟩) (hb yb d10_48) hr) hrun hended ⟨_, _, rfl, ?_, ⟨_, rfl⟩, hW, hsame.mono (by decide) (by decide)⟩
          show Q_rm_ix2WW Z w_instance w_A c_A zc t kb c d h0 n0 _ T10.heap _
          rw [e10]
          exact ⟨rfl, N10, rfl⟩
        · skip
          refine ob T10 (mkF mG 28 #[oa t, oi (2 : Int32), oi (1 : Int32), oi d] []) (fun _ kk => XS.icmpNo X10.here hx rfl (hb yb d10_25) rfl (feq hc12).1 kk) ?_
          obtain ⟨T13, X13, e13, st13⟩ := getS2 X10 hx hZ hown (host := "") (Or.inl (ow hw 91 rfl)) Via.refl e10 (S_w_instance.ext O0.2) (g := (mkF mG 28 #[oa t, oi (2 : Int32), oi (1 : Int32), oi d] [])) rfl (hb yb d10_28)
          refine ob T13 (mkF mG 31 #[oa t, oi (2 : Int32), oi (1 : Int32), oi d] [(.ref w_instance)]) (fun _ kk => st13 _ kk) ?_
          refine ob T13 (mkF mG 32 #[oa t, oi (2 : Int32), oi (1 : Int32), oi d] [(.int d), (.ref w_instance)]) (fun _ kk => XS.iloadN X13.here hx rfl (hb yb d10_31) rfl kk) ?_
          obtain ⟨cq14, kq14, q14a, q14b, q14c⟩ := isOf hZ e13 (E_w_instance.ext O0.2)
          obtain ⟨_, _, ⟨T14, L14, k14, n14⟩, -, X14, ⟨Lc14, hQ14, l14, y14, z14⟩, st14⟩ := X13.virtualBack hx (y := (⟨"java/lang/CharacterDataLatin1", "isWhitespace", "(I)Z"⟩ : MethodName)) (z := (⟨"java/lang/CharacterDataLatin1", "isWhitespace", "(I)Z"⟩ : MethodName)) hown (mvT hZ (ow hw 93 rfl)) (mvT hZ (ow hw 94 rfl)) (notFace_of_selects (args := #[]) (mvT hZ (ow hw 96 rfl))) (mvT hZ (ow hw 96 rfl)) (mvT hZ (ow hw 95 rfl)) (by decide) (backOf (W := 0) (rm_iswW l Z a0 hw [] w_instance w_A c_A zc d h0 n0 O0 hS rd wd) hZ (ow hw 97 rfl) (ow hw 92 rfl) (by decide) (by decide)) q14a q14c (g := (mkF mG 32 #[oa t, oi (2 : Int32), oi (1 : Int32), oi d] [(.int d), (.ref w_instance)])) rfl (by rw [hml]; rfl) (Steps.refl _) (argsL := [(.int d)]) (rest := []) (lenOf pd_5 rfl) rfl (by show 2 * 0 + _ ≤ _; exact Nat.le_of_eq rfl) (hb yb d10_32) (fun _ _ => ⟨rfl, e13, (by decide : 0 + 0 ≤ _), (by decide : 0 + 0 ≤ _)⟩)
          dsimp only [Pt.U, Pt.locs, Pt.cells, Pt.slots] at X14 l14 y14 z14 st14 hQ14
          subst l14 y14 z14
          obtain ⟨rfl, N14q, e14⟩ := hQ14
          have N14 := Fr.app N10 N14q
          refine ob T14 (mkF mG 35 #[oa t, oi (2 : Int32), oi (1 : Int32), oi d] [(.int (1 : Int32))]) (fun _ kk => st14.trans kk) ?_
          refine ob T14 (mkF mG 41 #[oa t, oi (2 : Int32), oi (1 : Int32), oi d] []) (fun _ kk => XS.ifYes X14.here hx rfl (pc0 := 35) (pc' := 41) rfl (hb yb d10_35) rfl ((if0 _ _).trans (feq (by decide : ¬ ((1 : Int32) = (0 : Int32)))).2) (by decide) (by decide) kk) ?_
          refine ob T14 (mkF mG 44 #[oa t, oi (2 : Int32), oi (2 : Int32), oi d] []) (fun _ kk => XS.iinc X14.here hx rfl (hb yb d10_41) rfl (l' := #[oa t, oi (2 : Int32), oi (2 : Int32), oi d]) rfl kk) ?_
          refine ob T14 (mkF mG 5 #[oa t, oi (2 : Int32), oi (2 : Int32), oi d] []) (fun _ kk => XS.goto X14.here hx rfl (pc0 := 44) (pc' := 5) rfl (hb yb d10_44) (by decide) (by decide) kk) ?_
          refine ob T14 (mkF mG 6 #[oa t, oi (2 : Int32), oi (2 : Int32), oi d] [(.int (2 : Int32))]) (fun _ kk => XS.iloadN X14.here hx rfl (hb yb d10_5) rfl kk) ?_
          refine ob T14 (mkF mG 7 #[oa t, oi (2 : Int32), oi (2 : Int32), oi d] [(.int (2 : Int32)), (.int (2 : Int32))]) (fun _ kk => XS.iloadN X14.here hx rfl (hb yb d10_6) rfl kk) ?_
          refine ob T14 (mkF mG 47 #[oa t, oi (2 : Int32), oi (2 : Int32), oi d] []) (fun _ kk => XS.icmpYes X14.here hx rfl (pc0 := 7) (pc' := 47) rfl (hb yb d10_7) rfl (flt (by decide : ¬ ((2 : Int32) < (2 : Int32)))).2.1 (by decide) (by decide) kk) ?_
          refine ob T14 (mkF mG 48 #[oa t, oi (2 : Int32), oi (2 : Int32), oi d] [(.int (2 : Int32))]) (fun _ kk => XS.iloadN X14.here hx rfl (hb yb d10_47) rfl kk) ?_
          obtain ⟨fs, hr, hrun, hended, hW, hsame⟩ := X14.leave (v := some (.int (2 : Int32))) (fun h => by rw [Bd.returns] at h; cases h)
          refine oout (retOut X14 hx Bd.returns rfl (Or.inl ⟨rfl, Or.inl rfl, _, rfl⟩) (hb yb d10_48) hr) hrun hended ⟨_, _, rfl, ?_, ⟨_, rfl⟩, hW, hsame.mono (by decide) (by decide)⟩
          show Q_rm_ix2WW Z w_instance w_A c_A zc t kb c d h0 n0 _ T14.heap _
          rw [e14]
          exact ⟨rfl, N14, rfl⟩
    · skip
      refine ob T2 (mkF mG 28 #[oa t, oi (2 : Int32), oi (0 : Int32), oi c] []) (fun _ kk => XS.icmpNo X2.here hx rfl (hb yb d10_25) rfl (feq hc9).1 kk) ?_
      obtain ⟨T15, X15, e15, st15⟩ := getS2 X2 hx hZ hown (host := "") (Or.inl (ow hw 91 rfl)) Via.refl e2 (S_w_instance.ext O0.2) (g := (mkF mG 28 #[oa t, oi (2 : Int32), oi (0 : Int32), oi c] [])) rfl (hb yb d10_28)
      refine ob T15 (mkF mG 31 #[oa t, oi (2 : Int32), oi (0 : Int32), oi c] [(.ref w_instance)]) (fun _ kk => st15 _ kk) ?_
      refine ob T15 (mkF mG 32 #[oa t, oi (2 : Int32), oi (0 : Int32), oi c] [(.int c), (.ref w_instance)]) (fun _ kk => XS.iloadN X15.here hx rfl (hb yb d10_31) rfl kk) ?_
      obtain ⟨cq16, kq16, q16a, q16b, q16c⟩ := isOf hZ e15 (E_w_instance.ext O0.2)
      obtain ⟨_, _, ⟨T16, L16, k16, n16⟩, -, X16, ⟨Lc16, hQ16, l16, y16, z16⟩, st16⟩ := X15.virtualBack hx (y := (⟨"java/lang/CharacterDataLatin1", "isWhitespace", "(I)Z"⟩ : MethodName)) (z := (⟨"java/lang/CharacterDataLatin1", "isWhitespace", "(I)Z"⟩ : MethodName)) hown (mvT hZ (ow hw 93 rfl)) (mvT hZ (ow hw 94 rfl)) (notFace_of_selects (args := #[]) (mvT hZ (ow hw 96 rfl))) (mvT hZ (ow hw 96 rfl)) (mvT hZ (ow hw 95 rfl)) (by decide) (backOf (W := 0) (rm_iswW l Z a0 hw [] w_instance w_A c_A zc c h0 n0 O0 hS rc wc) hZ (ow hw 97 rfl) (ow hw 92 rfl) (by decide) (by decide)) q16a q16c (g := (mkF mG 32 #[oa t, oi (2 : Int32), oi (0 : Int32), oi c] [(.int c), (.ref w_instance)])) rfl (by rw [hml]; rfl) (Steps.refl _) (argsL := [(.int c)]) (rest := []) (lenOf pd_5 rfl) rfl (by show 2 * 0 + _ ≤ _; exact Nat.le_of_eq rfl) (hb yb d10_32) (fun _ _ => ⟨rfl, e15, (by decide : 0 + 0 ≤ _), (by decide : 0 + 0 ≤ _)⟩)
      dsimp only [Pt.U, Pt.locs, Pt.cells, Pt.slots] at X16 l16 y16 z16 st16 hQ16
      subst l16 y16 z16
      obtain ⟨rfl, N16q, e16⟩ := hQ16
      have N16 := Fr.app N2 N16q
      refine ob T16 (mkF mG 35 #[oa t, oi (2 : Int32), oi (0 : Int32), oi c] [(.int (1 : Int32))]) (fun _ kk => st16.trans kk) ?_
      refine ob T16 (mkF mG 41 #[oa t, oi (2 : Int32), oi (0 : Int32), oi c] []) (fun _ kk => XS.ifYes X16.here hx rfl (pc0 := 35) (pc' := 41) rfl (hb yb d10_35) rfl ((if0 _ _).trans (feq (by decide : ¬ ((1 : Int32) = (0 : Int32)))).2) (by decide) (by decide) kk) ?_
      refine ob T16 (mkF mG 44 #[oa t, oi (2 : Int32), oi (1 : Int32), oi c] []) (fun _ kk => XS.iinc X16.here hx rfl (hb yb d10_41) rfl (l' := #[oa t, oi (2 : Int32), oi (1 : Int32), oi c]) rfl kk) ?_
      refine ob T16 (mkF mG 5 #[oa t, oi (2 : Int32), oi (1 : Int32), oi c] []) (fun _ kk => XS.goto X16.here hx rfl (pc0 := 44) (pc' := 5) rfl (hb yb d10_44) (by decide) (by decide) kk) ?_
      refine ob T16 (mkF mG 6 #[oa t, oi (2 : Int32), oi (1 : Int32), oi c] [(.int (1 : Int32))]) (fun _ kk => XS.iloadN X16.here hx rfl (hb yb d10_5) rfl kk) ?_
      refine ob T16 (mkF mG 7 #[oa t, oi (2 : Int32), oi (1 : Int32), oi c] [(.int (2 : Int32)), (.int (1 : Int32))]) (fun _ kk => XS.iloadN X16.here hx rfl (hb yb d10_6) rfl kk) ?_
      refine ob T16 (mkF mG 10 #[oa t, oi (2 : Int32), oi (1 : Int32), oi c] []) (fun _ kk => XS.icmpNo X16.here hx rfl (hb yb d10_7) rfl (tlt (by decide : (1 : Int32) < (2 : Int32))).2.1 kk) ?_
      refine ob T16 (mkF mG 11 #[oa t, oi (2 : Int32), oi (1 : Int32), oi c] [(.ref t)]) (fun _ kk => XS.aloadN X16.here hx rfl (hb yb d10_10) rfl rfl kk) ?_
      refine ob T16 (mkF mG 12 #[oa t, oi (2 : Int32), oi (1 : Int32), oi c] [(.int (1 : Int32)), (.ref t)]) (fun _ kk => XS.iloadN X16.here hx rfl (hb yb d10_11) rfl kk) ?_
      obtain ⟨_, _, ⟨T17, L17, k17, n17⟩, -, X17, ⟨Lc17, hQ17, l17, y17, z17⟩, st17⟩ := Jvm.LawKit.callS X16 hx (y := (⟨"java/lang/StringLatin1", "getChar", "([BI)C"⟩ : MethodName)) hown (mvT hZ (ow hw 88 rfl)) (mvT hZ (ow hw 89 rfl)) (mvT hZ (ow hw 56 rfl)) (mvT hZ (ow hw 90 rfl)) (by decide) (backOf (W := 0) (rm_gc21 l Z a0 hw [] w_instance w_A c_A zc t kb c d h0 n0 O0 hS V_t rd) hZ (ow hw 90 rfl) (ow hw 56 rfl) (by decide) (by decide)) (g := (mkF mG 12 #[oa t, oi (2 : Int32), oi (1 : Int32), oi c] [(.int (1 : Int32)), (.ref t)])) rfl (by rw [hml]; rfl) (argsL := [(.ref t), (.int (1 : Int32))]) (rest := []) (lenOf pd_4 rfl) rfl (by show 2 * 0 + _ ≤ _; exact Nat.le_of_eq rfl) (hb yb d10_12) (fun _ _ => ⟨rfl, e16, (by decide : 0 + 0 ≤ _), (by decide : 0 + 0 ≤ _)⟩)
      dsimp only [Pt.U, Pt.locs, Pt.cells, Pt.slots] at X17 l17 y17 z17 st17 hQ17
      subst l17 y17 z17
      obtain ⟨rfl, N17q, e17⟩ := hQ17
      have N17 := Fr.app N16 N17q
      refine ob T17 (mkF mG 15 #[oa t, oi (2 : Int32), oi (1 : Int32), oi c] [(.int d)]) (fun _ kk => st17 _ kk) ?_
      refine ob T17 (mkF mG 16 #[oa t, oi (2 : Int32), oi (1 : Int32), oi d] []) (fun _ kk => XS.istoreN X17.here hx rfl (hb yb d10_15) rfl (l' := #[oa t, oi (2 : Int32), oi (1 : Int32), oi d]) rfl kk) ?_
      refine ob T17 (mkF mG 17 #[oa t, oi (2 : Int32), oi (1 : Int32), oi d] [(.int d)]) (fun _ kk => XS.iloadN X17.here hx rfl (hb yb d10_16) rfl kk) ?_
      refine ob T17 (mkF mG 19 #[oa t, oi (2 : Int32), oi (1 : Int32), oi d] [(.int (32 : Int32)), (.int d)]) (fun _ kk => XS.bipush X17.here hx rfl (hb yb d10_17) kk) ?_
      by_cases hc18 : d = (32 : Int32)
      · skip
        refine ob T17 (mkF mG 41 #[oa t, oi (2 : Int32), oi (1 : Int32), oi d] []) (fun _ kk => XS.icmpYes X17.here hx rfl (pc0 := 19) (pc' := 41) rfl (hb yb d10_19) rfl (teq hc18).1 (by decide) (by decide) kk) ?_
        refine ob T17 (mkF mG 44 #[oa t, oi (2 : Int32), oi (2 : Int32), oi d] []) (fun _ kk => XS.iinc X17.here hx rfl (hb yb d10_41) rfl (l' := #[oa t, oi (2 : Int32), oi (2 : Int32), oi d]) rfl kk) ?_
        refine ob T17 (mkF mG 5 #[oa t, oi (2 : Int32), oi (2 : Int32), oi d] []) (fun _ kk => XS.goto X17.here hx rfl (pc0 := 44) (pc' := 5) rfl (hb yb d10_44) (by decide) (by decide) kk) ?_
        refine ob T17 (mkF mG 6 #[oa t, oi (2 : Int32), oi (2 : Int32), oi d] [(.int (2 : Int32))]) (fun _ kk => XS.iloadN X17.here hx rfl (hb yb d10_5) rfl kk) ?_
        refine ob T17 (mkF mG 7 #[oa t, oi (2 : Int32), oi (2 : Int32), oi d] [(.int (2 : Int32)), (.int (2 : Int32))]) (fun _ kk => XS.iloadN X17.here hx rfl (hb yb d10_6) rfl kk) ?_
        refine ob T17 (mkF mG 47 #[oa t, oi (2 : Int32), oi (2 : Int32), oi d] []) (fun _ kk => XS.icmpYes X17.here hx rfl (pc0 := 7) (pc' := 47) rfl (hb yb d10_7) rfl (flt (by decide : ¬ ((2 : Int32) < (2 : Int32)))).2.1 (by decide) (by decide) kk) ?_
        refine ob T17 (mkF mG 48 #[oa t, oi (2 : Int32), oi (2 : Int32), oi d] [(.int (2 : Int32))]) (fun _ kk => XS.iloadN X17.here hx rfl (hb yb d10_47) rfl kk) ?_
        obtain ⟨fs, hr, hrun, hended, hW, hsame⟩ := X17.leave (v := some (.int (2 : Int32))) (fun h => by rw [Bd.returns] at h; cases h)
        refine oout (retOut X17 hx Bd.returns rfl (Or.inl ⟨rfl, Or.inl rfl, _, rfl⟩) (hb yb d10_48) hr) hrun hended ⟨_, _, rfl, ?_, ⟨_, rfl⟩, hW, hsame.mono (by decide) (by decide)⟩
        show Q_rm_ix2WW Z w_instance w_A c_A zc t kb c d h0 n0 _ T17.heap _
        rw [e17]
        exact ⟨rfl, N17, rfl⟩
      · skip
        refine ob T17 (mkF mG 22 #[oa t, oi (2 : Int32), oi (1 : Int32), oi d] []) (fun _ kk => XS.icmpNo X17.here hx rfl (hb yb d10_19) rfl (feq hc18).1 kk) ?_
        refine ob T17 (mkF mG 23 #[oa t, oi (2 : Int32), oi (1 : Int32), oi d] [(.int d)]) (fun _ kk => XS.iloadN X17.here hx rfl (hb yb d10_22) rfl kk) ?_
        refine ob T17 (mkF mG 25 #[oa t, oi (2 : Int32), oi (1 : Int32), oi d] [(.int (9 : Int32)), (.int d)]) (fun _ kk => XS.bipush X17.here hx rfl (hb yb d10_23) kk) ?_
        by_cases hc19 : d = (9 : Int32)
        · skip
          refine ob T17 (mkF mG 41 #[oa t, oi (2 : Int32), oi (1 : Int32), oi d] []) (fun _ kk => XS.icmpYes X17.here hx rfl (pc0 := 25) (pc' := 41) rfl (hb yb d10_25) rfl (teq hc19).1 (by decide) (by decide) kk) ?_
          refine ob T17 (mkF mG 44 #[oa t, oi (2 : Int32), oi (2 : Int32), oi d] []) (fun _ kk => XS.iinc X17.here hx rfl (hb yb d10_41) rfl (l' := #[oa t, oi (2 : Int32), oi (2 : Int32), oi d]) rfl kk) ?_
          refine ob T17 (mkF mG 5 #[oa t, oi (2 : Int32), oi (2 : Int32), oi d] []) (fun _ kk => XS.goto X17.here hx rfl (pc0 := 44) (pc' := 5) rfl (hb yb d10_44) (by decide) (by decide) kk) ?_
          refine ob T17 (mkF mG 6 #[oa t, oi (2 : Int32), oi (2 : Int32), oi d] [(.int (2 : Int32))]) (fun _ kk => XS.iloadN X17.here hx rfl (hb yb d10_5) rfl kk) ?_
          refine ob T17 (mkF mG 7 #[oa t, oi (2 : Int32), oi (2 : Int32), oi d] [(.int (2 : Int32)), (.int (2 : Int32))]) (fun _ kk => XS.iloadN X17.here hx rfl (hb yb d10_6) rfl kk) ?_
          refine ob T17 (mkF mG 47 #[oa t, oi (2 : Int32), oi (2 : Int32), oi d] []) (fun _ kk => XS.icmpYes X17.here hx rfl (pc0 := 7) (pc' := 47) rfl (hb yb d10_7) rfl (flt (by decide : ¬ ((2 : Int32) < (2 : Int32)))).2.1 (by decide) (by decide) kk) ?_
          refine ob T17 (mkF mG 48 #[oa t, oi (2 : Int32), oi (2 : Int32), oi d] [(.int (2 : Int32))]) (fun _ kk => XS.iloadN X17.here hx rfl (hb yb d10_47) rfl kk) ?_
          obtain ⟨fs, hr, hrun, hended, hW, hsame⟩ := X17.leave (v := some (.int (2 : Int32))) (fun h => by rw [Bd.returns] at h; cases h)
          refine oout (retOut X17 hx Bd.returns rfl (Or.inl ⟨rfl, Or.inl rfl, _, rfl⟩) (hb yb d10_48) hr) hrun hended ⟨_, _, rfl, ?_, ⟨_, rfl⟩, hW, hsame.mono (by decide) (by decide)⟩
          show Q_rm_ix2WW Z w_instance w_A c_A zc t kb c d h0 n0 _ T17.heap _
          rw [e17]
          exact ⟨rfl, N17, rfl⟩
        · skip
          refine ob T17 (mkF mG 28 #[oa t, oi (2 : Int32), oi (1 : Int32), oi d] []) (fun _ kk => XS.icmpNo X17.here hx rfl (hb yb d10_25) rfl (feq hc19).1 kk) ?_
          obtain ⟨T20, X20, e20, st20⟩ := getS2 X17 hx hZ hown (host := "") (Or.inl (ow hw 91 rfl)) Via.refl e17 (S_w_instance.ext O0.2) (g := (mkF mG 28 #[oa t, oi (2 : Int32), oi (1 : Int32), oi d] [])) rfl (hb yb d10_28)
          refine ob T20 (mkF mG 31 #[oa t, oi (2 : Int32), oi (1 : Int32), oi d] [(.ref w_instance)]) (fun _ kk => st20 _ kk) ?_
          refine ob T20 (mkF mG 32 #[oa t, oi (2 : Int32), oi (1 : Int32), oi d] [(.int d), (.ref w_instance)]) (fun _ kk => XS.iloadN X20.here hx rfl (hb yb d10_31) rfl kk) ?_
          obtain ⟨cq21, kq21, q21a, q21b, q21c⟩ := isOf hZ e20 (E_w_instance.ext O0.2)
          obtain ⟨_, _, ⟨T21, L21, k21, n21⟩, -, X21, ⟨Lc21, hQ21, l21, y21, z21⟩, st21⟩ := X20.virtualBack hx (y := (⟨"java/lang/CharacterDataLatin1", "isWhitespace", "(I)Z"⟩ : MethodName)) (z := (⟨"java/lang/CharacterDataLatin1", "isWhitespace", "(I)Z"⟩ : MethodName)) hown (mvT hZ (ow hw 93 rfl)) (mvT hZ (ow hw 94 rfl)) (notFace_of_selects (args := #[]) (mvT hZ (ow hw 96 rfl))) (mvT hZ (ow hw 96 rfl)) (mvT hZ (ow hw 95 rfl)) (by decide) (backOf (W := 0) (rm_iswW l Z a0 hw [] w_instance w_A c_A zc d h0 n0 O0 hS rd wd) hZ (ow hw 97 rfl) (ow hw 92 rfl) (by decide) (by decide)) q21a q21c (g := (mkF mG 32 #[oa t, oi (2 : Int32), oi (1 : Int32), oi d] [(.int d), (.ref w_instance)])) rfl (by rw [hml]; rfl) (Steps.refl _) (argsL := [(.int d)]) (rest := []) (lenOf pd_5 rfl) rfl (by show 2 * 0 + _ ≤ _; exact Nat.le_of_eq rfl) (hb yb d10_32) (fun _ _ => ⟨rfl, e20, (by decide : 0 + 0 ≤ _), (by decide : 0 + 0 ≤ _)⟩)
          dsimp only [Pt.U, Pt.locs, Pt.cells, Pt.slots] at X21 l21 y21 z21 st21 hQ21
          subst l21 y21 z21
          obtain ⟨rfl, N21q, e21⟩ := hQ21
          have N21 := Fr.app N17 N21q
          refine ob T21 (mkF mG 35 #[oa t, oi (2 : Int32), oi (1 : Int32), oi d] [(.int (1 : Int32))]) (fun _ kk => st21.trans kk) ?_
          refine ob T21 (mkF mG 41 #[oa t, oi (2 : Int32), oi (1 : Int32), oi d] []) (fun _ kk => XS.ifYes X21.here hx rfl (pc0 := 35) (pc' := 41) rfl (hb yb d10_35) rfl ((if0 _ _).trans (feq (by decide : ¬ ((1 : Int32) = (0 : Int32)))).2) (by decide) (by decide) kk) ?_
          refine ob T21 (mkF mG 44 #[oa t, oi (2 : Int32), oi (2 : Int32), oi d] []) (fun _ kk => XS.iinc X21.here hx rfl (hb yb d10_41) rfl (l' := #[oa t, oi (2 : Int32), oi (2 : Int32), oi d]) rfl kk) ?_
          refine ob T21 (mkF mG 5 #[oa t, oi (2 : Int32), oi (2 : Int32), oi d] []) (fun _ kk => XS.goto X21.here hx rfl (pc0 := 44) (pc' := 5) rfl (hb yb d10_44) (by decide) (by decide) kk) ?_
          refine ob T21 (mkF mG 6 #[oa t, oi (2 : Int32), oi (2 : Int32), oi d] [(.int (2 : Int32))]) (fun _ kk => XS.iloadN X21.here hx rfl (hb yb d10_5) rfl kk) ?_
          refine ob T21 (mkF mG 7 #[oa t, oi (2 : Int32), oi (2 : Int32), oi d] [(.int (2 : Int32)), (.int (2 : Int32))]) (fun _ kk => XS.iloadN X21.here hx rfl (hb yb d10_6) rfl kk) ?_
          refine ob T21 (mkF mG 47 #[oa t, oi (2 : Int32), oi (2 : Int32), oi d] []) (fun _ kk => XS.icmpYes X21.here hx rfl (pc0 := 7) (pc' := 47) rfl (hb yb d10_7) rfl (flt (by decide : ¬ ((2 : Int32) < (2 : Int32)))).2.1 (by decide) (by decide) kk) ?_
          refine ob T21 (mkF mG 48 #[oa t, oi (2 : Int32), oi (2 : Int32), oi d] [(.int (2 : Int32))]) (fun _ kk => XS.iloadN X21.here hx rfl (hb yb d10_47) rfl kk) ?_
          obtain ⟨fs, hr, hrun, hended, hW, hsame⟩ := X21.leave (v := some (.int (2 : Int32))) (fun h => by rw [Bd.returns] at h; cases h)
          refine oout (retOut X21 hx Bd.returns rfl (Or.inl ⟨rfl, Or.inl rfl, _, rfl⟩) (hb yb d10_48) hr) hrun hended ⟨_, _, rfl, ?_, ⟨_, rfl⟩, hW, hsame.mono (by decide) (by decide)⟩
          show Q_rm_ix2WW Z w_instance w_A c_A zc t kb c d h0 n0 _ T21.heap _
          rw [e21]
          exact ⟨rfl, N21, rfl⟩

def Q_rm_six2WW (Z : State) (w_instance : Addr) (w_A : Addr) (c_A : Cell) (zc : Int32) (a : Addr) (t : Addr) (kb : ClassId) (c : Int32) (d : Int32) (h0 : Heap) (n0 : Nat) (v : Option Value) (h : Heap) (L : List Loc) : Prop := v = some (.int (2 : Int32)) ∧ Fr n0 L ∧ h = h0
set_option maxRecDepth 65536 in
set_option maxHeartbeats 40000000 in
theorem rm_six2WW (l : Launch) (Z : State) (a0 : Array Value) (hw : ∀ d ∈ tables_1, d.before a0 Z = true) (ws : List Jvm.Cond) (w_instance : Addr) (w_A : Addr) (c_A : Cell) (zc : Int32) (a : Addr) (t : Addr) (kb : ClassId) (c : Int32) (d : Int32) (h0 : Heap) (n0 : Nat) (O0 : Old Z n0 h0) (hS : St0 Z w_instance w_A c_A zc ) (E_a : Exa Z h0 a "java/lang/String") (F_c : Fld Z h0 a "java/lang/String" "coder" "B" (.int (0 : Int32))) (F_v : Fld Z h0 a "java/lang/String" "value" "[B" (.ref t)) (V_t : Arv Z h0 t kb .byte (2 : Int32) [(.int (c.toInt8.toInt32)), (.int (d.toInt8.toInt32))] (.int (0 : Int32))) (rc : oRg c) (rd : oRg d) (wc : oWs c = true) (wd : oWs d = true) :
    MetFree l (⟨"java/lang/String", "indexOfNonWhitespace", "()I"⟩ : MethodName) (head1 (Jvm.Cond.code (⟨"java/lang/String", "indexOfNonWhitespace", "()I"⟩ : MethodName) jdk_42_method_120_code 1 (some .int) :: ws) ({ frames := 3, cells := 0, slots := 0, locals := 44 } : Room)) (fun aG UG => aG = #[(.ref a)] ∧ Z.Warmed39 UG.vm ∧ UG.heap = h0) (fun _ _ _ _ _ => True) (fun _ UG oG UG' => ∃ vG LG, oG = .returned vG ∧ Q_rm_six2WW Z w_instance w_A c_A zc a t kb c d h0 n0 vG UG'.heap LG ∧ FrameEnd UG oG UG' LG ({ frames := 3, cells := 0, slots := 0, locals := 44 } : Room).cells ({ frames := 3, cells := 0, slots := 0, locals := 44 } : Room).slots) := by
  refine MetFree.of_bodySF (plainFor_of_name pn_0) hisR ?_
  intro pG eG sG mG rG bG fG cG s₁ Bd hml0 hP hK
  obtain ⟨rfl, hZ, hh⟩ := hP
  have hx := Bd.exec
  have yb := Bd.bytes
  have hml : cG.maxLocals = 1 := hml0
  have hown : sG.vm.findClass "java/lang/String" = some mG.cls := findClass_of_methodNamed Bd.named
  have hnm := (name_of_methodNamed Bd.named Bd.method).1
  have X0 : Stand pG l eG ({ frames := 3, cells := 0, slots := 0, locals := 44 } : Room) sG mG #[(.ref a)] bG fG cG s₁ [] 0 0 := Stand.of_body Bd
  have e0 : s₁.heap = h0 := by rw [← hh, Bd.state]; rfl
  have N0 := Fr.nil n0
  have K0 := Keep.refl h0 []
  obtain ⟨S_w_instance, E_w_instance, S_w_A, E_w_A, V_w_A, S_zc, hzc⟩ := (id hS : St0 Z w_instance w_A c_A zc )
  refine ostart (g' := (mkF mG 0 #[oa a] [])) (by first | (simp [entryFrame, mkF, argsToLocals, Value.category]; done) | rfl) ?_
  refine ob s₁ (mkF mG 1 #[oa a] [(.ref a)]) (fun _ kk => XS.aloadN X0.here hx rfl (hb yb d8_0) rfl rfl kk) ?_
  obtain ⟨cq1, kq1, q1a, q1b, q1c⟩ := isOf hZ e0 E_a
  obtain ⟨_, _, ⟨T1, L1, k1, n1⟩, -, X1, ⟨Lc1, hQ1, l1, y1, z1⟩, st1⟩ := X0.virtualBack hx (y := (⟨"java/lang/String", "isLatin1", "()Z"⟩ : MethodName)) (z := (⟨"java/lang/String", "isLatin1", "()Z"⟩ : MethodName)) hown (mvT hZ (ow hw 48 rfl)) (mvT hZ (ow hw 49 rfl)) (notFace_of_selects (args := #[]) (mvT hZ (ow hw 51 rfl))) (mvT hZ (ow hw 51 rfl)) (mvT hZ (ow hw 50 rfl)) (by decide) (backOf (W := 0) (rm_lat l Z a0 hw [] w_instance w_A c_A zc a h0 n0 O0 hS F_c) hZ (ow hw 52 rfl) (ow hw 6 rfl) (by decide) (by decide)) q1a q1c (g := (mkF mG 1 #[oa a] [(.ref a)])) rfl (by rw [hml]; rfl) (Steps.refl _) (argsL := []) (rest := []) (lenOf pd_2 rfl) rfl (by show 2 * 0 + _ ≤ _; exact Nat.le_of_eq rfl) (hb yb d8_1) (fun _ _ => ⟨rfl, e0, (by decide : 0 + 0 ≤ _), (by decide : 0 + 0 ≤ _)⟩)
  dsimp only [Pt.U, Pt.locs, Pt.cells, Pt.slots] at X1 l1 y1 z1 st1 hQ1
  subst l1 y1 z1
  obtain ⟨rfl, N1q, e1⟩ := hQ1
  have N1 := Fr.app N0 N1q
  refine ob T1 (mkF mG 4 #[oa a] [(.int (1 : Int32))]) (fun _ kk => st1.trans kk) ?_
  refine ob T1 (mkF mG 7 #[oa a] []) (fun _ kk => XS.ifNo X1.here hx rfl (hb yb d8_4) rfl ((if0 _ _).trans (feq (by decide : ¬ ((1 : Int32) = (0 : Int32)))).1) kk) ?_
  refine ob T1 (mkF mG 8 #[oa a] [(.ref a)]) (fun _ kk => XS.aloadN X1.here hx rfl (hb yb d8_7) rfl rfl kk) ?_
  obtain ⟨T2, X2, e2, st2⟩ := getF X1 hx hZ hown (host := "") (Or.inl (ow hw 24 rfl)) Via.refl e1 F_v (g := (mkF mG 8 #[oa a] [(.ref a)])) rfl rfl (hb yb d8_8)
  refine ob T2 (mkF mG 11 #[oa a] [(.ref t)]) (fun _ kk => st2 _ kk) ?_
  obtain ⟨_, _, ⟨T3, L3, k3, n3⟩, -, X3, ⟨Lc3, hQ3, l3, y3, z3⟩, st3⟩ := Jvm.LawKit.callS X2 hx (y := (⟨"java/lang/StringLatin1", "indexOfNonWhitespace", "([B)I"⟩ : MethodName)) hown (mvT hZ (ow hw 54 rfl)) (mvT hZ (ow hw 55 rfl)) (mvT hZ (ow hw 56 rfl)) (mvT hZ (ow hw 57 rfl)) (by decide) (backOf (W := 0) (rm_ix2WW l Z a0 hw [] w_instance w_A c_A zc t kb c d h0 n0 O0 hS V_t rc rd wc wd) hZ (ow hw 57 rfl) (ow hw 56 rfl) (by decide) (by decide)) (g := (mkF mG 11 #[oa a] [(.ref t)])) rfl (by rw [hml]; rfl) (argsL := [(.ref t)]) (rest := []) (lenOf pd_3 rfl) rfl (by show 2 * 0 + _ ≤ _; exact Nat.le_of_eq rfl) (hb yb d8_11) (fun _ _ => ⟨rfl, e2, (by decide : 0 + 0 ≤ _), (by decide : 0 + 0 ≤ _)⟩)
  dsimp only [Pt.U, Pt.locs, Pt.cells, Pt.slots] at X3 l3 y3 z3 st3 hQ3
  subst l3 y3 z3
  obtain ⟨rfl, N3q, e3⟩ := hQ3
  have N3 := Fr.app N1 N3q
  refine ob T3 (mkF mG 14 #[oa a] [(.int (2 : Int32))]) (fun _ kk => st3 _ kk) ?_
  refine ob T3 (mkF mG 24 #[oa a] [(.int (2 : Int32))]) (fun _ kk => XS.goto X3.here hx rfl (pc0 := 14) (pc' := 24) rfl (hb yb d8_14) (by decide) (by decide) kk) ?_
  obtain ⟨fs, hr, hrun, hended, hW, hsame⟩ := X3.leave (v := some (.int (2 : Int32))) (fun h => by rw [Bd.returns] at h; cases h)
  refine oout (retOut X3 hx Bd.returns rfl (Or.inl ⟨rfl, Or.inl rfl, _, rfl⟩) (hb yb d8_24) hr) hrun hended ⟨_, _, rfl, ?_, ⟨_, rfl⟩, hW, hsame.mono (by decide) (by decide)⟩
  show Q_rm_six2WW Z w_instance w_A c_A zc a t kb c d h0 n0 _ T3.heap _
  rw [e3]
  exact ⟨rfl, N3, rfl⟩

theorem d23_0 : decode jdk_43_method_38_code 0 = .ok (.aload_n 0, 1) := by decide +kernel
theorem d23_1 : decode jdk_43_method_38_code 1 = .ok (.arraylength, 1) := by decide +kernel
theorem d23_2 : decode jdk_43_method_38_code 2 = .ok (.istore_n 1, 1) := by decide +kernel
theorem d23_3 : decode jdk_43_method_38_code 3 = .ok (.iload_n 1, 1) := by decide +kernel
theorem d23_4 : decode jdk_43_method_38_code 4 = .ok (.istore_n 2, 1) := by decide +kernel
theorem d23_5 : decode jdk_43_method_38_code 5 = .ok (.iconst 0, 1) := by decide +kernel
theorem d23_6 : decode jdk_43_method_38_code 6 = .ok (.iload_n 2, 1) := by decide +kernel
theorem d23_7 : decode jdk_43_method_38_code 7 = .ok (.if_icmp .ge 42, 3) := by decide +kernel
theorem d23_10 : decode jdk_43_method_38_code 10 = .ok (.aload_n 0, 1) := by decide +kernel
theorem d23_11 : decode jdk_43_method_38_code 11 = .ok (.iload_n 2, 1) := by decide +kernel
theorem d23_12 : decode jdk_43_method_38_code 12 = .ok (.iconst 1, 1) := by decide +kernel
theorem d23_13 : decode jdk_43_method_38_code 13 = .ok (.isub, 1) := by decide +kernel
theorem d23_14 : decode jdk_43_method_38_code 14 = .ok (.invokestatic 50, 3) := by decide +kernel
theorem d23_17 : decode jdk_43_method_38_code 17 = .ok (.istore_n 3, 1) := by decide +kernel
theorem d23_18 : decode jdk_43_method_38_code 18 = .ok (.iload_n 3, 1) := by decide +kernel
theorem d23_19 : decode jdk_43_method_38_code 19 = .ok (.bipush 32, 2) := by decide +kernel
theorem d23_21 : decode jdk_43_method_38_code 21 = .ok (.if_icmp .eq 22, 3) := by decide +kernel
theorem d23_24 : decode jdk_43_method_38_code 24 = .ok (.iload_n 3, 1) := by decide +kernel
theorem d23_25 : decode jdk_43_method_38_code 25 = .ok (.bipush 9, 2) := by decide +kernel
theorem d23_27 : decode jdk_43_method_38_code 27 = .ok (.if_icmp .eq 16, 3) := by decide +kernel
theorem d23_30 : decode jdk_43_method_38_code 30 = .ok (.getstatic 66, 3) := by decide +kernel
theorem d23_33 : decode jdk_43_method_38_code 33 = .ok (.iload_n 3, 1) := by decide +kernel
theorem d23_34 : decode jdk_43_method_38_code 34 = .ok (.invokevirtual 211, 3) := by decide +kernel
theorem d23_37 : decode jdk_43_method_38_code 37 = .ok (.ifCond .ne 6, 3) := by decide +kernel
theorem d23_40 : decode jdk_43_method_38_code 40 = .ok (.goto 9, 3) := by decide +kernel
theorem d23_49 : decode jdk_43_method_38_code 49 = .ok (.iload_n 2, 1) := by decide +kernel
theorem d23_50 : decode jdk_43_method_38_code 50 = .ok (.ireturn, 1) := by decide +kernel
def Q_rm_lx1N (Z : State) (w_instance : Addr) (w_A : Addr) (c_A : Cell) (zc : Int32) (t : Addr) (kb : ClassId) (c : Int32) (h0 : Heap) (n0 : Nat) (v : Option Value) (h : Heap) (L : List Loc) : Prop := v = some (.int (1 : Int32)) ∧ Fr n0 L ∧ h = h0
set_option maxRecDepth 65536 in
set_option maxHeartbeats 40000000 in
theorem rm_lx1N (l : Launch) (Z : State) (a0 : Array Value) (hw : ∀ d ∈ tables_1, d.before a0 Z = true) (ws : List Jvm.Cond) (w_instance : Addr) (w_A : Addr) (c_A : Cell) (zc : Int32) (t : Addr) (kb : ClassId) (c : Int32) (h0 : Heap) (n0 : Nat) (O0 : Old Z n0 h0) (hS : St0 Z w_instance w_A c_A zc ) (V_t : Arv Z h0 t kb .byte (1 : Int32) [(.int (c.toInt8.toInt32))] (.int (0 : Int32))) (rc : oRg c) (wc : oWs c = false) :
    MetFree l (⟨"java/lang/StringLatin1", "lastIndexOfNonWhitespace", "([B)I"⟩ : MethodName) (head1 (Jvm.Cond.code (⟨"java/lang/StringLatin1", "lastIndexOfNonWhitespace", "([B)I"⟩ : MethodName) jdk_43_method_38_code 4 (some .int) :: ws) ({ frames := 2, cells := 0, slots := 0, locals := 29 } : Room)) (fun aG UG => aG = #[(.ref t)] ∧ Z.Warmed39 UG.vm ∧ UG.heap = h0) (fun _ _ _ _ _ => True) (fun _ UG oG UG' => ∃ vG LG, oG = .returned vG ∧ Q_rm_lx1N Z w_instance w_A c_A zc t kb c h0 n0 vG UG'.heap LG ∧ FrameEnd UG oG UG' LG ({ frames := 2, cells := 0, slots := 0, locals := 29 } : Room).cells ({ frames := 2, cells := 0, slots := 0, locals := 29 } : Room).slots) := by
  refine MetFree.of_bodySF (plainFor_of_name pn_1) hisR ?_
  intro pG eG sG mG rG bG fG cG s₁ Bd hml0 hP hK
  obtain ⟨rfl, hZ, hh⟩ := hP
  have hx := Bd.exec
  have yb := Bd.bytes
  have hml : cG.maxLocals = 4 := hml0
  have hown : sG.vm.findClass "java/lang/StringLatin1" = some mG.cls := findClass_of_methodNamed Bd.named
  have hnm := (name_of_methodNamed Bd.named Bd.method).1
  have X0 : Stand pG l eG ({ frames := 2, cells := 0, slots := 0, locals := 29 } : Room) sG mG #[(.ref t)] bG fG cG s₁ [] 0 0 := Stand.of_body Bd
  have e0 : s₁.heap = h0 := by rw [← hh, Bd.state]; rfl
  have N0 := Fr.nil n0
  have K0 := Keep.refl h0 []
  obtain ⟨S_w_instance, E_w_instance, S_w_A, E_w_A, V_w_A, S_zc, hzc⟩ := (id hS : St0 Z w_instance w_A c_A zc )
  refine ostart (g' := (mkF mG 0 #[oa t, .unset, .unset, .unset] [])) (by first | (simp [entryFrame, mkF, argsToLocals, Value.category]; done) | rfl) ?_
  refine ob s₁ (mkF mG 1 #[oa t, .unset, .unset, .unset] [(.ref t)]) (fun _ kk => XS.aloadN X0.here hx rfl (hb yb d23_0) rfl rfl kk) ?_
  obtain ⟨cl1, Ar1, -, S1, N1a, -, -⟩ := id V_t
  refine oby (T' := s₁) (g' := (mkF mG 2 #[oa t, .unset, .unset, .unset] [(.int (1 : Int32))])) (fun ot ok => X0.arraylength hx (by rw [e0]; exact Ar1.1) (State.isArrayOf_alike hZ.alike Ar1.2.1) (g := (mkF mG 1 #[oa t, .unset, .unset, .unset] [(.ref t)])) rfl rfl (hb yb d23_1) _ (by rw [len_of S1 N1a]; exact ok)) ?_
  refine ob s₁ (mkF mG 3 #[oa t, oi (1 : Int32), .unset, .unset] []) (fun _ kk => XS.istoreN X0.here hx rfl (hb yb d23_2) rfl (l' := #[oa t, oi (1 : Int32), .unset, .unset]) rfl kk) ?_
  refine ob s₁ (mkF mG 4 #[oa t, oi (1 : Int32), .unset, .unset] [(.int (1 : Int32))]) (fun _ kk => XS.iloadN X0.here hx rfl (hb yb d23_3) rfl kk) ?_
  refine ob s₁ (mkF mG 5 #[oa t, oi (1 : Int32), oi (1 : Int32), .unset] []) (fun _ kk => XS.istoreN X0.here hx rfl (hb yb d23_4) rfl (l' := #[oa t, oi (1 : Int32), oi (1 : Int32), .unset]) rfl kk) ?_
  refine ob s₁ (mkF mG 6 #[oa t, oi (1 : Int32), oi (1 : Int32), .unset] [(.int (0 : Int32))]) (fun _ kk => XS.iconst X0.here hx rfl (hb yb d23_5) kk) ?_
  refine ob s₁ (mkF mG 7 #[oa t, oi (1 : Int32), oi (1 : Int32), .unset] [(.int (1 : Int32)), (.int (0 : Int32))]) (fun _ kk => XS.iloadN X0.here hx rfl (hb yb d23_6) rfl kk) ?_
  refine ob s₁ (mkF mG 10 #[oa t, oi (1 : Int32), oi (1 : Int32), .unset] []) (fun _ kk => XS.icmpNo X0.here hx rfl (hb yb d23_7) rfl (tlt (by decide : (0 : Int32) < (1 : Int32))).2.1 kk) ?_
  refine ob s₁ (mkF mG 11 #[oa t, oi (1 : Int32), oi (1 : Int32), .unset] [(.ref t)]) (fun _ kk => XS.aloadN X0.here hx rfl (hb yb d23_10) rfl rfl kk) ?_
  refine ob s₁ (mkF mG 12 #[oa t, oi (1 : Int32), oi (1 : Int32), .unset] [(.int (1 : Int32)), (.ref t)]) (fun _ kk => XS.iloadN X0.here hx rfl (hb yb d23_11) rfl kk) ?_
  refine ob s₁ (mkF mG 13 #[oa t, oi (1 : Int32), oi (1 : Int32), .unset] [(.int (1 : Int32)), (.int (1 : Int32)), (.ref t)]) (fun _ kk => XS.iconst X0.here hx rfl (hb yb d23_12) kk) ?_
  refine ob s₁ (mkF mG 14 #[oa t, oi (1 : Int32), oi (1 : Int32), .unset] [(.int (0 : Int32)), (.ref t)]) (fun _ kk => XS.isub X0.here hx rfl (hb yb d23_13) rfl kk) ?_
  obtain ⟨_, _, ⟨T2, L2, k2, n2⟩, -, X2, ⟨Lc2, hQ2, l2, y2, z2⟩, st2⟩ := Jvm.LawKit.callS X0 hx (y := (⟨"java/lang/StringLatin1", "getChar", "([BI)C"⟩ : MethodName)) hown (mvT hZ (ow hw 88 rfl)) (mvT hZ (ow hw 89 rfl)) (mvT hZ (ow hw 56 rfl)) (mvT hZ (ow hw 90 rfl)) (by decide) (backOf (W := 0) (rm_gc10 l Z a0 hw [] w_instance w_A c_A zc t kb c h0 n0 O0 hS V_t rc) hZ (ow hw 90 rfl) (ow hw 56 rfl) (by decide) (by decide)) (g := (mkF mG 14 #[oa t, oi (1 : Int32), oi (1 : Int32), .unset] [(.int (0 : Int32)), (.ref t)])) rfl (by rw [hml]; rfl) (argsL := [(.ref t), (.int (0 : Int32))]) (rest := []) (lenOf pd_4 rfl) rfl (by show 2 * 0 + _ ≤ _; exact Nat.le_of_eq rfl) (hb yb d23_14) (fun _ _ => ⟨rfl, e0, (by decide : 0 + 0 ≤ _), (by decide : 0 + 0 ≤ _)⟩)
  dsimp only [Pt.U, Pt.locs, Pt.cells, Pt.slots] at X2 l2 y2 z2 st2 hQ2
  subst l2 y2 z2
  obtain ⟨rfl, N2q, e2⟩ := hQ2
  have N2 := Fr.app N0 N2q
  refine ob T2 (mkF mG 17 #[oa t, oi (1 : Int32), oi (1 : Int32), .unset] [(.int c)]) (fun _ kk => st2 _ kk) ?_
  refine ob T2 (mkF mG 18 #[oa t, oi (1 : Int32), oi (1 : Int32), oi c] []) (fun _ kk => XS.istoreN X2.here hx rfl (hb yb d23_17) rfl (l' := #[oa t, oi (1 : Int32), oi (1 : Int32), oi c]) rfl kk) ?_
  refine ob T2 (mkF mG 19 #[oa t, oi (1 : Int32), oi (1 : Int32), oi c] [(.int c)]) (fun _ kk => XS.iloadN X2.here hx rfl (hb yb d23_18) rfl kk) ?_
  refine ob T2 (mkF mG 21 #[oa t, oi (1 : Int32), oi (1 : Int32), oi c] [(.int (32 : Int32)), (.int c)]) (fun _ kk => XS.bipush X2.here hx rfl (hb yb d23_19) kk) ?_
  refine ob T2 (mkF mG 24 #[oa t, oi (1 : Int32), oi (1 : Int32), oi c] []) (fun _ kk => XS.icmpNo X2.here hx rfl (hb yb d23_21) rfl (feq (own_n32 wc)).1 kk) ?_
  refine ob T2 (mkF mG 25 #[oa t, oi (1 : Int32), oi (1 : Int32), oi c] [(.int c)]) (fun _ kk => XS.iloadN X2.here hx rfl (hb yb d23_24) rfl kk) ?_
  refine ob T2 (mkF mG 27 #[oa t, oi (1 : Int32), oi (1 : Int32), oi c] [(.int (9 : Int32)), (.int c)]) (fun _ kk => XS.bipush X2.here hx rfl (hb yb d23_25) kk) ?_
  refine ob T2 (mkF mG 30 #[oa t, oi (1 : Int32), oi (1 : Int32), oi c] []) (fun _ kk => XS.icmpNo X2.here hx rfl (hb yb d23_27) rfl (feq (own_n9 wc)).1 kk) ?_
  obtain ⟨T3, X3, e3, st3⟩ := getS2 X2 hx hZ hown (host := "") (Or.inl (ow hw 91 rfl)) Via.refl e2 (S_w_instance.ext O0.2) (g := (mkF mG 30 #[oa t, oi (1 : Int32), oi (1 : Int32), oi c] [])) rfl (hb yb d23_30)
  refine ob T3 (mkF mG 33 #[oa t, oi (1 : Int32), oi (1 : Int32), oi c] [(.ref w_instance)]) (fun _ kk => st3 _ kk) ?_
  refine ob T3 (mkF mG 34 #[oa t, oi (1 : Int32), oi (1 : Int32), oi c] [(.int c), (.ref w_instance)]) (fun _ kk => XS.iloadN X3.here hx rfl (hb yb d23_33) rfl kk) ?_
  obtain ⟨cq4, kq4, q4a, q4b, q4c⟩ := isOf hZ e3 (E_w_instance.ext O0.2)
  obtain ⟨_, _, ⟨T4, L4, k4, n4⟩, -, X4, ⟨Lc4, hQ4, l4, y4, z4⟩, st4⟩ := X3.virtualBack hx (y := (⟨"java/lang/CharacterDataLatin1", "isWhitespace", "(I)Z"⟩ : MethodName)) (z := (⟨"java/lang/CharacterDataLatin1", "isWhitespace", "(I)Z"⟩ : MethodName)) hown (mvT hZ (ow hw 93 rfl)) (mvT hZ (ow hw 94 rfl)) (notFace_of_selects (args := #[]) (mvT hZ (ow hw 96 rfl))) (mvT hZ (ow hw 96 rfl)) (mvT hZ (ow hw 95 rfl)) (by decide) (backOf (W := 0) (rm_iswN l Z a0 hw [] w_instance w_A c_A zc c h0 n0 O0 hS rc wc) hZ (ow hw 97 rfl) (ow hw 92 rfl) (by decide) (by decide)) q4a q4c (g := (mkF mG 34 #[oa t, oi (1 : Int32), oi (1 : Int32), oi c] [(.int c), (.ref w_instance)])) rfl (by rw [hml]; rfl) (Steps.refl _) (argsL := [(.int c)]) (rest := []) (lenOf pd_5 rfl) rfl (by show 2 * 0 + _ ≤ _; exact Nat.le_of_eq rfl) (hb yb d23_34) (fun _ _ => ⟨rfl, e3, (by decide : 0 + 0 ≤ _), (by decide : 0 + 0 ≤ _)⟩)
  dsimp only [Pt.U, Pt.locs, Pt.cells, Pt.slots] at X4 l4 y4 z4 st4 hQ4
  subst l4 y4 z4
  obtain ⟨rfl, N4q, e4⟩ := hQ4
  have N4 := Fr.app N2 N4q
  refine ob T4 (mkF mG 37 #[oa t, oi (1 : Int32), oi (1 : Int32), oi c] [(.int (0 : Int32))]) (fun _ kk => st4.trans kk) ?_
  refine ob T4 (mkF mG 40 #[oa t, oi (1 : Int32), oi (1 : Int32), oi c] []) (fun _ kk => XS.ifNo X4.here hx rfl (hb yb d23_37) rfl ((if0 _ _).trans (teq (by decide : (0 : Int32) = (0 : Int32))).2) kk) ?_
  refine ob T4 (mkF mG 49 #[oa t, oi (1 : Int32), oi (1 : Int32), oi c] []) (fun _ kk => XS.goto X4.here hx rfl (pc0 := 40) (pc' := 49) rfl (hb yb d23_40) (by decide) (by decide) kk) ?_
  refine ob T4 (mkF mG 50 #[oa t, oi (1 : Int32), oi (1 : Int32), oi c] [(.int (1 : Int32))]) (fun _ kk => XS.iloadN X4.here hx rfl (hb yb d23_49) rfl kk) ?_
  obtain ⟨fs, hr, hrun, hended, hW, hsame⟩ := X4.leave (v := some (.int (1 : Int32))) (fun h => by rw [Bd.returns] at h; cases h)
  refine oout (retOut X4 hx Bd.returns rfl (Or.inl ⟨rfl, Or.inl rfl, _, rfl⟩) (hb yb d23_50) hr) hrun hended ⟨_, _, rfl, ?_, ⟨_, rfl⟩, hW, hsame.mono (by decide) (by decide)⟩
  show Q_rm_lx1N Z w_instance w_A c_A zc t kb c h0 n0 _ T4.heap _
  rw [e4]
  exact ⟨rfl, N4, rfl⟩

def Q_rm_lx2N (Z : State) (w_instance : Addr) (w_A : Addr) (c_A : Cell) (zc : Int32) (t : Addr) (kb : ClassId) (c : Int32) (d : Int32) (h0 : Heap) (n0 : Nat) (v : Option Value) (h : Heap) (L : List Loc) : Prop := v = some (.int (2 : Int32)) ∧ Fr n0 L ∧ h = h0
set_option maxRecDepth 65536 in
set_option maxHeartbeats 40000000 in
theorem rm_lx2N (l : Launch) (Z : State) (a0 : Array Value) (hw : ∀ d ∈ tables_1, d.before a0 Z = true) (ws : List Jvm.Cond) (w_instance : Addr) (w_A : Addr) (c_A : Cell) (zc : Int32) (t : Addr) (kb : ClassId) (c : Int32) (d : Int32) (h0 : Heap) (n0 : Nat) (O0 : Old Z n0 h0) (hS : St0 Z w_instance w_A c_A zc ) (V_t : Arv Z h0 t kb .byte (2 : Int32) [(.int (c.toInt8.toInt32)), (.int (d.toInt8.toInt32))] (.int (0 : Int32))) (rd : oRg d) (wd : oWs d = false) :
    MetFree l (⟨"java/lang/StringLatin1", "lastIndexOfNonWhitespace", "([B)I"⟩ : MethodName) (head1 (Jvm.Cond.code (⟨"java/lang/StringLatin1", "lastIndexOfNonWhitespace", "([B)I"⟩ : MethodName) jdk_43_method_38_code 4 (some .int) :: ws) ({ frames := 2, cells := 0, slots := 0, locals := 29 } : Room)) (fun aG UG => aG = #[(.ref t)] ∧ Z.Warmed39 UG.vm ∧ UG.heap = h0) (fun _ _ _ _ _ => True) (fun _ UG oG UG' => ∃ vG LG, oG = .returned vG ∧ Q_rm_lx2N Z w_instance w_A c_A zc t kb c d h0 n0 vG UG'.heap LG ∧ FrameEnd UG oG UG' LG ({ frames := 2, cells := 0, slots := 0, locals := 29 } : Room).cells ({ frames := 2, cells := 0, slots := 0, locals := 29 } : Room).slots) := by
  refine MetFree.of_bodySF (plainFor_of_name pn_1) hisR ?_
  intro pG eG sG mG rG bG fG cG s₁ Bd hml0 hP hK
  obtain ⟨rfl, hZ, hh⟩ := hP
  have hx := Bd.exec
  have yb := Bd.bytes
  have hml : cG.maxLocals = 4 := hml0
  have hown : sG.vm.findClass "java/lang/StringLatin1" = some mG.cls := findClass_of_methodNamed Bd.named
  have hnm := (name_of_methodNamed Bd.named Bd.method).1
  have X0 : Stand pG l eG ({ frames := 2, cells := 0, slots := 0, locals := 29 } : Room) sG mG #[(.ref t)] bG fG cG s₁ [] 0 0 := Stand.of_body Bd
  have e0 : s₁.heap = h0 := by rw [← hh, Bd.state]; rfl
  have N0 := Fr.nil n0
  have K0 := Keep.refl h0 []
  obtain ⟨S_w_instance, E_w_instance, S_w_A, E_w_A, V_w_A, S_zc, hzc⟩ := (id hS : St0 Z w_instance w_A c_A zc )
  refine ostart (g' := (mkF mG 0 #[oa t, .unset, .unset, .unset] [])) (by first | (simp [entryFrame, mkF, argsToLocals, Value.category]; done) | rfl) ?_
  refine ob s₁ (mkF mG 1 #[oa t, .unset, .unset, .unset] [(.ref t)]) (fun _ kk => XS.aloadN X0.here hx rfl (hb yb d23_0) rfl rfl kk) ?_
  obtain ⟨cl1, Ar1, -, S1, N1a, -, -⟩ := id V_t
  refine oby (T' := s₁) (g' := (mkF mG 2 #[oa t, .unset, .unset, .unset] [(.int (2 : Int32))])) (fun ot ok => X0.arraylength hx (by rw [e0]; exact Ar1.1) (State.isArrayOf_alike hZ.alike Ar1.2.1) (g := (mkF mG 1 #[oa t, .unset, .unset, .unset] [(.ref t)])) rfl rfl (hb yb d23_1) _ (by rw [len_of S1 N1a]; exact ok)) ?_
  refine ob s₁ (mkF mG 3 #[oa t, oi (2 : Int32), .unset, .unset] []) (fun _ kk => XS.istoreN X0.here hx rfl (hb yb d23_2) rfl (l' := #[oa t, oi (2 : Int32), .unset, .unset]) rfl kk) ?_
  refine ob s₁ (mkF mG 4 #[oa t, oi (2 : Int32), .unset, .unset] [(.int (2 : Int32))]) (fun _ kk => XS.iloadN X0.here hx rfl (hb yb d23_3) rfl kk) ?_
  refine ob s₁ (mkF mG 5 #[oa t, oi (2 : Int32), oi (2 : Int32), .unset] []) (fun _ kk => XS.istoreN X0.here hx rfl (hb yb d23_4) rfl (l' := #[oa t, oi (2 : Int32), oi (2 : Int32), .unset]) rfl kk) ?_
  refine ob s₁ (mkF mG 6 #[oa t, oi (2 : Int32), oi (2 : Int32), .unset] [(.int (0 : Int32))]) (fun _ kk => XS.iconst X0.here hx rfl (hb yb d23_5) kk) ?_
  refine ob s₁ (mkF mG 7 #[oa t, oi (2 : Int32), oi (2 : Int32), .unset] [(.int (2 : Int32)), (.int (0 : Int32))]) (fun _ kk => XS.iloadN X0.here hx rfl (hb yb d23_6) rfl kk) ?_
  refine ob s₁ (mkF mG 10 #[oa t, oi (2 : Int32), oi (2 : Int32), .unset] []) (fun _ kk => XS.icmpNo X0.here hx rfl (hb yb d23_7) rfl (tlt (by decide : (0 : Int32) < (2 : Int32))).2.1 kk) ?_
  refine ob s₁ (mkF mG 11 #[oa t, oi (2 : Int32), oi (2 : Int32), .unset] [(.ref t)]) (fun _ kk => XS.aloadN X0.here hx rfl (hb yb d23_10) rfl rfl kk) ?_
  refine ob s₁ (mkF mG 12 #[oa t, oi (2 : Int32), oi (2 : Int32), .unset] [(.int (2 : Int32)), (.ref t)]) (fun _ kk => XS.iloadN X0.here hx rfl (hb yb d23_11) rfl kk) ?_
  refine ob s₁ (mkF mG 13 #[oa t, oi (2 : Int32), oi (2 : Int32), .unset] [(.int (1 : Int32)), (.int (2 : Int32)), (.ref t)]) (fun _ kk => XS.iconst X0.here hx rfl (hb yb d23_12) kk) ?_
  refine ob s₁ (mkF mG 14 #[oa t, oi (2 : Int32), oi (2 : Int32), .unset] [(.int (1 : Int32)), (.ref t)]) (fun _ kk => XS.isub X0.here hx rfl (hb yb d23_13) rfl kk) ?_
  obtain ⟨_, _, ⟨T2, L2, k2, n2⟩, -, X2, ⟨Lc2, hQ2, l2, y2, z2⟩, st2⟩ := Jvm.LawKit.callS X0 hx (y := (⟨"java/lang/StringLatin1", "getChar", "([BI)C"⟩ : MethodName)) hown (mvT hZ (ow hw 88 rfl)) (mvT hZ (ow hw 89 rfl)) (mvT hZ (ow hw 56 rfl)) (mvT hZ (ow hw 90 rfl)) (by decide) (backOf (W := 0) (rm_gc21 l Z a0 hw [] w_instance w_A c_A zc t kb c d h0 n0 O0 hS V_t rd) hZ (ow hw 90 rfl) (ow hw 56 rfl) (by decide) (by decide)) (g := (mkF mG 14 #[oa t, oi (2 : Int32), oi (2 : Int32), .unset] [(.int (1 : Int32)), (.ref t)])) rfl (by rw [hml]; rfl) (argsL := [(.ref t), (.int (1 : Int32))]) (rest := []) (lenOf pd_4 rfl) rfl (by show 2 * 0 + _ ≤ _; exact Nat.le_of_eq rfl) (hb yb d23_14) (fun _ _ => ⟨rfl, e0, (by decide : 0 + 0 ≤ _), (by decide : 0 + 0 ≤ _)⟩)
  dsimp only [Pt.U, Pt.locs, Pt.cells, Pt.slots] at X2 l2 y2 z2 st2 hQ2
  subst l2 y2 z2
  obtain ⟨rfl, N2q, e2⟩ := hQ2
  have N2 := Fr.app N0 N2q
  refine ob T2 (mkF mG 17 #[oa t, oi (2 : Int32), oi (2 : Int32), .unset] [(.int d)]) (fun _ kk => st2 _ kk) ?_
  refine ob T2 (mkF mG 18 #[oa t, oi (2 : Int32), oi (2 : Int32), oi d] []) (fun _ kk => XS.istoreN X2.here hx rfl (hb yb d23_17) rfl (l' := #[oa t, oi (2 : Int32), oi (2 : Int32), oi d]) rfl kk) ?_
  refine ob T2 (mkF mG 19 #[oa t, oi (2 : Int32), oi (2 : Int32), oi d] [(.int d)]) (fun _ kk => XS.iloadN X2.here hx rfl (hb yb d23_18) rfl kk) ?_
  refine ob T2 (mkF mG 21 #[oa t, oi (2 : Int32), oi (2 : Int32), oi d] [(.int (32 : Int32)), (.int d)]) (fun _ kk => XS.bipush X2.here hx rfl (hb yb d23_19) kk) ?_
  refine ob T2 (mkF mG 24 #[oa t, oi (2 : Int32), oi (2 : Int32), oi d] []) (fun _ kk => XS.icmpNo X2.here hx rfl (hb yb d23_21) rfl (feq (own_n32 wd)).1 kk) ?_
  refine ob T2 (mkF mG 25 #[oa t, oi (2 : Int32), oi (2 : Int32), oi d] [(.int d)]) (fun _ kk => XS.iloadN X2.here hx rfl (hb yb d23_24) rfl kk) ?_
  refine ob T2 (mkF mG 27 #[oa t, oi (2 : Int32), oi (2 : Int32), oi d] [(.int (9 : Int32)), (.int d)]) (fun _ kk => XS.bipush X2.here hx rfl (hb yb d23_25) kk) ?_
  refine ob T2 (mkF mG 30 #[oa t, oi (2 : Int32), oi (2 : Int32), oi d] []) (fun _ kk => XS.icmpNo X2.here hx rfl (hb yb d23_27) rfl (feq (own_n9 wd)).1 kk) ?_
  obtain ⟨T3, X3, e3, st3⟩ := getS2 X2 hx hZ hown (host := "") (Or.inl (ow hw 91 rfl)) Via.refl e2 (S_w_instance.ext O0.2) (g := (mkF mG 30 #[oa t, oi (2 : Int32), oi (2 : Int32), oi d] [])) rfl (hb yb d23_30)
  refine ob T3 (mkF mG 33 #[oa t, oi (2 : Int32), oi (2 : Int32), oi d] [(.ref w_instance)]) (fun _ kk => st3 _ kk) ?_
  refine ob T3 (mkF mG 34 #[oa t, oi (2 : Int32), oi (2 : Int32), oi d] [(.int d), (.ref w_instance)]) (fun _ kk => XS.iloadN X3.here hx rfl (hb yb d23_33) rfl kk) ?_
  obtain ⟨cq4, kq4, q4a, q4b, q4c⟩ := isOf hZ e3 (E_w_instance.ext O0.2)
  obtain ⟨_, _, ⟨T4, L4, k4, n4⟩, -, X4, ⟨Lc4, hQ4, l4, y4, z4⟩, st4⟩ := X3.virtualBack hx (y := (⟨"java/lang/CharacterDataLatin1", "isWhitespace", "(I)Z"⟩ : MethodName)) (z := (⟨"java/lang/CharacterDataLatin1", "isWhitespace", "(I)Z"⟩ : MethodName)) hown (mvT hZ (ow hw 93 rfl)) (mvT hZ (ow hw 94 rfl)) (notFace_of_selects (args := #[]) (mvT hZ (ow hw 96 rfl))) (mvT hZ (ow hw 96 rfl)) (mvT hZ (ow hw 95 rfl)) (by decide) (backOf (W := 0) (rm_iswN l Z a0 hw [] w_instance w_A c_A zc d h0 n0 O0 hS rd wd) hZ (ow hw 97 rfl) (ow hw 92 rfl) (by decide) (by decide)) q4a q4c (g := (mkF mG 34 #[oa t, oi (2 : Int32), oi (2 : Int32), oi d] [(.int d), (.ref w_instance)])) rfl (by rw [hml]; rfl) (Steps.refl _) (argsL := [(.int d)]) (rest := []) (lenOf pd_5 rfl) rfl (by show 2 * 0 + _ ≤ _; exact Nat.le_of_eq rfl) (hb yb d23_34) (fun _ _ => ⟨rfl, e3, (by decide : 0 + 0 ≤ _), (by decide : 0 + 0 ≤ _)⟩)
  dsimp only [Pt.U, Pt.locs, Pt.cells, Pt.slots] at X4 l4 y4 z4 st4 hQ4
  subst l4 y4 z4
  obtain ⟨rfl, N4q, e4⟩ := hQ4
  have N4 := Fr.app N2 N4q
  refine ob T4 (mkF mG 37 #[oa t, oi (2 : Int32), oi (2 : Int32), oi d] [(.int (0 : Int32))]) (fun _ kk => st4.trans kk) ?_
  refine ob T4 (mkF mG 40 #[oa t, oi (2 : Int32), oi (2 : Int32), oi d] []) (fun _ kk => XS.ifNo X4.here hx rfl (hb yb d23_37) rfl ((if0 _ _).trans (teq (by decide : (0 : Int32) = (0 : Int32))).2) kk) ?_
  refine ob T4 (mkF mG 49 #[oa t, oi (2 : Int32), oi (2 : Int32), oi d] []) (fun _ kk => XS.goto X4.here hx rfl (pc0 := 40) (pc' := 49) rfl (hb yb d23_40) (by decide) (by decide) kk) ?_
  refine ob T4 (mkF mG 50 #[oa t, oi (2 : Int32), oi (2 : Int32), oi d] [(.int (2 : Int32))]) (fun _ kk => XS.iloadN X4.here hx rfl (hb yb d23_49) rfl kk) ?_
  obtain ⟨fs, hr, hrun, hended, hW, hsame⟩ := X4.leave (v := some (.int (2 : Int32))) (fun h => by rw [Bd.returns] at h; cases h)
  refine oout (retOut X4 hx Bd.returns rfl (Or.inl ⟨rfl, Or.inl rfl, _, rfl⟩) (hb yb d23_50) hr) hrun hended ⟨_, _, rfl, ?_, ⟨_, rfl⟩, hW, hsame.mono (by decide) (by decide)⟩
  show Q_rm_lx2N Z w_instance w_A c_A zc t kb c d h0 n0 _ T4.heap _
  rw [e4]
  exact ⟨rfl, N4, rfl⟩

theorem d23_43 : decode jdk_43_method_38_code 43 = .ok (.iinc 2 (-1), 3) := by decide +kernel
theorem d23_46 : decode jdk_43_method_38_code 46 = .ok (.goto (-41), 3) := by decide +kernel
def Q_rm_lx2NW (Z : State) (w_instance : Addr) (w_A : Addr) (c_A : Cell) (zc : Int32) (t : Addr) (kb : ClassId) (c : Int32) (d : Int32) (h0 : Heap) (n0 : Nat) (v : Option Value) (h : Heap) (L : List Loc) : Prop := v = some (.int (1 : Int32)) ∧ Fr n0 L ∧ h = h0
set_option maxRecDepth 65536 in
set_option maxHeartbeats 40000000 in
theorem rm_lx2NW (l : Launch) (Z : State) (a0 : Array Value) (hw : ∀ d ∈ tables_1, d.before a0 Z = true) (ws : List Jvm.Cond) (w_instance : Addr) (w_A : Addr) (c_A : Cell) (zc : Int32) (t : Addr) (kb : ClassId) (c : Int32) (d : Int32) (h0 : Heap) (n0 : Nat) (O0 : Old Z n0 h0) (hS : St0 Z w_instance w_A c_A zc ) (V_t : Arv Z h0 t kb .byte (2 : Int32) [(.int (c.toInt8.toInt32)), (.int (d.toInt8.toInt32))] (.int (0 : Int32))) (rc : oRg c) (rd : oRg d) (wc : oWs c = false) (wd : oWs d = true) :
    MetFree l (⟨"java/lang/StringLatin1", "lastIndexOfNonWhitespace", "([B)I"⟩ : MethodName) (head1 (Jvm.Cond.code (⟨"java/lang/StringLatin1", "lastIndexOfNonWhitespace", "([B)I"⟩ : MethodName) jdk_43_method_38_code 4 (some .int) :: ws) ({ frames := 2, cells := 0, slots := 0, locals := 29 } : Room)) (fun aG UG => aG = #[(.ref t)] ∧ Z.Warmed39 UG.vm ∧ UG.heap = h0) (fun _ _ _ _ _ => True) (fun _ UG oG UG' => ∃ vG LG, oG = .returned vG ∧ Q_rm_lx2NW Z w_instance w_A c_A zc t kb c d h0 n0 vG UG'.heap LG ∧ FrameEnd UG oG UG' LG ({ frames := 2, cells := 0, slots := 0, locals := 29 } : Room).cells ({ frames := 2, cells := 0, slots := 0, locals := 29 } : Room).slots) := by
  refine MetFree.of_bodySF (plainFor_of_name pn_1) hisR ?_
  intro pG eG sG mG rG bG fG cG s₁ Bd hml0 hP hK
  obtain ⟨rfl, hZ, hh⟩ := hP
  have hx := Bd.exec
  have yb := Bd.bytes
  have hml : cG.maxLocals = 4 := hml0
  have hown : sG.vm.findClass "java/lang/StringLatin1" = some mG.cls := findClass_of_methodNamed Bd.named
  have hnm := (name_of_methodNamed Bd.named Bd.method).1
  have X0 : Stand pG l eG ({ frames := 2, cells := 0, slots := 0, locals := 29 } : Room) sG mG #[(.ref t)] bG fG cG s₁ [] 0 0 := Stand.of_body Bd
  have e0 : s₁.heap = h0 := by rw [← hh, Bd.state]; rfl
  have N0 := Fr.nil n0
  have K0 := Keep.refl h0 []
  obtain ⟨S_w_instance, E_w_instance, S_w_A, E_w_A, V_w_A, S_zc, hzc⟩ := (id hS : St0 Z w_instance w_A c_A zc )
  refine ostart (g' := (mkF mG 0 #[oa t, .unset, .unset, .unset] [])) (by first | (simp [entryFrame, mkF, argsToLocals, Value.category]; done) | rfl) ?_
  refine ob s₁ (mkF mG 1 #[oa t, .unset, .unset, .unset] [(.ref t)]) (fun _ kk => XS.aloadN X0.here hx rfl (hb yb d23_0) rfl rfl kk) ?_
  obtain ⟨cl1, Ar1, -, S1, N1a, -, -⟩ := id V_t
  refine oby (T' := s₁) (g' := (mkF mG 2 #[oa t, .unset, .unset, .unset] [(.int (2 : Int32))])) (fun ot ok => X0.arraylength hx (by rw [e0]; exact Ar1.1) (State.isArrayOf_alike hZ.alike Ar1.2.1) (g := (mkF mG 1 #[oa t, .unset, .unset, .unset] [(.ref t)])) rfl rfl (hb yb d23_1) _ (by rw [len_of S1 N1a]; exact ok)) ?_
  refine ob s₁ (mkF mG 3 #[oa t, oi (2 : Int32), .unset, .unset] []) (fun _ kk => XS.istoreN X0.here hx rfl (hb yb d23_2) rfl (l' := #[oa t, oi (2 : Int32), .unset, .unset]) rfl kk) ?_
  refine ob s₁ (mkF mG 4 #[oa t, oi (2 : Int32), .unset, .unset] [(.int (2 : Int32))]) (fun _ kk => XS.iloadN X0.here hx rfl (hb yb d23_3) rfl kk) ?_
  refine ob s₁ (mkF mG 5 #[oa t, oi (2 : Int32), oi (2 : Int32), .unset] []) (fun _ kk => XS.istoreN X0.here hx rfl (hb yb d23_4) rfl (l' := #[oa t, oi (2 : Int32), oi (2 : Int32), .unset]) rfl kk) ?_
  refine ob s₁ (mkF mG 6 #[oa t, oi (2 : Int32), oi (2 : Int32), .unset] [(.int (0 : Int32))]) (fun _ kk => XS.iconst X0.here hx rfl (hb yb d23_5) kk) ?_
  refine ob s₁ (mkF mG 7 #[oa t, oi (2 : Int32), oi (2 : Int32), .unset] [(.int (2 : Int32)), (.int (0 : Int32))]) (fun _ kk => XS.iloadN X0.here hx rfl (hb yb d23_6) rfl kk) ?_
  refine ob s₁ (mkF mG 10 #[oa t, oi (2 : Int32), oi (2 : Int32), .unset] []) (fun _ kk => XS.icmpNo X0.here hx rfl (hb yb d23_7) rfl (tlt (by decide : (0 : Int32) < (2 : Int32))).2.1 kk) ?_
  refine ob s₁ (mkF mG 11 #[oa t, oi (2 : Int32), oi (2 : Int32), .unset] [(.ref t)]) (fun _ kk => XS.aloadN X0.here hx rfl (hb yb d23_10) rfl rfl kk) ?_
  refine ob s₁ (mkF mG 12 #[oa t, oi (2 : Int32), oi (2 : Int32), .unset] [(.int (2 : Int32)), (.ref t)]) (fun _ kk => XS.iloadN X0.here hx rfl (hb yb d23_11) rfl kk) ?_
  refine ob s₁ (mkF mG 13 #[oa t, oi (2 : Int32), oi (2 : Int32), .unset] [(.int (1 : Int32)), (.int (2 : Int32)), (.ref t)]) (fun _ kk => XS.iconst X0.here hx rfl (hb yb d23_12) kk) ?_
  refine ob s₁ (mkF mG 14 #[oa t, oi (2 : Int32), oi (2 : Int32), .unset] [(.int (1 : Int32)), (.ref t)]) (fun _ kk => XS.isub X0.here hx rfl (hb yb d23_13) rfl kk) ?_
  obtain ⟨_, _, ⟨T2, L2, k2, n2⟩, -, X2, ⟨Lc2, hQ2, l2, y2, z2⟩, st2⟩ := Jvm.LawKit.callS X0 hx (y := (⟨"java/lang/StringLatin1", "getChar", "([BI)C"⟩ : MethodName)) hown (mvT hZ (ow hw 88 rfl)) (mvT hZ (ow hw 89 rfl)) (mvT hZ (ow hw 56 rfl)) (mvT hZ (ow hw 90 rfl)) (by decide) (backOf (W := 0) (rm_gc21 l Z a0 hw [] w_instance w_A c_A zc t kb c d h0 n0 O0 hS V_t rd) hZ (ow hw 90 rfl) (ow hw 56 rfl) (by decide) (by decide)) (g := (mkF mG 14 #[oa t, oi (2 : Int32), oi (2 : Int32), .unset] [(.int (1 : Int32)), (.ref t)])) rfl (by rw [hml]; rfl) (argsL := [(.ref t), (.int (1 : Int32))]) (rest := []) (lenOf pd_4 rfl) rfl (by show 2 * 0 + _ ≤ _; exact Nat.le_of_eq rfl) (hb yb d23_14) (fun _ _ => ⟨rfl, e0, (by decide : 0 + 0 ≤ _), (by decide : 0 + 0 ≤ _)⟩)
  dsimp only [Pt.U, Pt.locs, Pt.cells, Pt.slots] at X2 l2 y2 z2 st2 hQ2
  subst l2 y2 z2
  obtain ⟨rfl, N2q, e2⟩ := hQ2
  have N2 := Fr.app N0 N2q
  refine ob T2 (mkF mG 17 #[oa t, oi (2 : Int32), oi (2 : Int32), .unset] [(.int d)]) (fun _ kk => st2 _ kk) ?_
  refine ob T2 (mkF mG 18 #[oa t, oi (2 : Int32), oi (2 : Int32), oi d] []) (fun _ kk => XS.istoreN X2.here hx rfl (hb yb d23_17) rfl (l' := #[oa t, oi (2 : Int32), oi (2 : Int32), oi d]) rfl kk) ?_
  refine ob T2 (mkF mG 19 #[oa t, oi (2 : Int32), oi (2 : Int32), oi d] [(.int d)]) (fun _ kk => XS.iloadN X2.here hx rfl (hb yb d23_18) rfl kk) ?_
  refine ob T2 (mkF mG 21 #[oa t, oi (2 : Int32), oi (2 : Int32), oi d] [(.int (32 : Int32)), (.int d)]) (fun _ kk => XS.bipush X2.here hx rfl (hb yb d23_19) kk) ?_
  by_cases hc3 : d = (32 : Int32)
  · skip
    refine ob T2 (mkF mG 43 #[oa t, oi (2 : Int32), oi (2 : Int32), oi d] []) (fun _ kk => XS.icmpYes X2.here hx rfl (pc0 := 21) (pc' := 43) rfl (hb yb d23_21) rfl (teq hc3).1 (by decide) (by decide) kk) ?_
    refine ob T2 (mkF mG 46 #[oa t, oi (2 : Int32), oi (1 : Int32), oi d] []) (fun _ kk => XS.iinc X2.here hx rfl (hb yb d23_43) rfl (l' := #[oa t, oi (2 : Int32), oi (1 : Int32), oi d]) rfl kk) ?_
    refine ob T2 (mkF mG 5 #[oa t, oi (2 : Int32), oi (1 : Int32), oi d] []) (fun _ kk => XS.goto X2.here hx rfl (pc0 := 46) (pc' := 5) rfl (hb yb d23_46) (by decide) (by decide) kk) ?_
    refine ob T2 (mkF mG 6 #[oa t, oi (2 : Int32), oi (1 : Int32), oi d] [(.int (0 : Int32))]) (fun _ kk => XS.iconst X2.here hx rfl (hb yb d23_5) kk) ?_
    refine ob T2 (mkF mG 7 #[oa t, oi (2 : Int32), oi (1 : Int32), oi d] [(.int (1 : Int32)), (.int (0 : Int32))]) (fun _ kk => XS.iloadN X2.here hx rfl (hb yb d23_6) rfl kk) ?_
    refine ob T2 (mkF mG 10 #[oa t, oi (2 : Int32), oi (1 : Int32), oi d] []) (fun _ kk => XS.icmpNo X2.here hx rfl (hb yb d23_7) rfl (tlt (by decide : (0 : Int32) < (1 : Int32))).2.1 kk) ?_
    refine ob T2 (mkF mG 11 #[oa t, oi (2 : Int32), oi (1 : Int32), oi d] [(.ref t)]) (fun _ kk => XS.aloadN X2.here hx rfl (hb yb d23_10) rfl rfl kk) ?_
    refine ob T2 (mkF mG 12 #[oa t, oi (2 : Int32), oi (1 : Int32), oi d] [(.int (1 : Int32)), (.ref t)]) (fun _ kk => XS.iloadN X2.here hx rfl (hb yb d23_11) rfl kk) ?_
    refine ob T2 (mkF mG 13 #[oa t, oi (2 : Int32), oi (1 : Int32), oi d] [(.int (1 : Int32)), (.int (1 : Int32)), (.ref t)]) (fun _ kk => XS.iconst X2.here hx rfl (hb yb d23_12) kk) ?_
    refine ob T2 (mkF mG 14 #[oa t, oi (2 : Int32), oi (1 : Int32), oi d] [(.int (0 : Int32)), (.ref t)]) (fun _ kk => XS.isub X2.here hx rfl (hb yb d23_13) rfl kk) ?_
    obtain ⟨_, _, ⟨T4, L4, k4, n4⟩, -, X4, ⟨Lc4, hQ4, l4, y4, z4⟩, st4⟩ := Jvm.LawKit.callS X2 hx (y := (⟨"java/lang/StringLatin1", "getChar", "([BI)C"⟩ : MethodName)) hown (mvT hZ (ow hw 88 rfl)) (mvT hZ (ow hw 89 rfl)) (mvT hZ (ow hw 56 rfl)) (mvT hZ (ow hw 90 rfl)) (by decide) (backOf (W := 0) (rm_gc20 l Z a0 hw [] w_instance w_A c_A zc t kb c d h0 n0 O0 hS V_t rc) hZ (ow hw 90 rfl) (ow hw 56 rfl) (by decide) (by decide)) (g := (mkF mG 14 #[oa t, oi (2 : Int32), oi (1 : Int32), oi d] [(.int (0 : Int32)), (.ref t)])) rfl (by rw [hml]; rfl) (argsL := [(.ref t), (.int (0 : Int32))]) (rest := []) (lenOf pd_4 rfl) rfl (by show 2 * 0 + _ ≤ _; exact Nat.le_of_eq rfl) (hb yb d23_14) (fun _ _ => ⟨rfl, e2, (by decide : 0 + 0 ≤ _), (by decide : 0 + 0 ≤ _)⟩)
    dsimp only [Pt.U, Pt.locs, Pt.cells, Pt.slots] at X4 l4 y4 z4 st4 hQ4
    subst l4 y4 z4
    obtain ⟨rfl, N4q, e4⟩ := hQ4
    have N4 := Fr.app N2 N4q
    refine ob T4 (mkF mG 17 #[oa t, oi (2 : Int32), oi (1 : Int32), oi d] [(.int c)]) (fun _ kk => st4 _ kk) ?_
    refine ob T4 (mkF mG 18 #[oa t, oi (2 : Int32), oi (1 : Int32), oi c] []) (fun _ kk => XS.istoreN X4.here hx rfl (hb yb d23_17) rfl (l' := #[oa t, oi (2 : Int32), oi (1 : Int32), oi c]) rfl kk) ?_
    refine ob T4 (mkF mG 19 #[oa t, oi (2 : Int32), oi (1 : Int32), oi c] [(.int c)]) (fun _ kk => XS.iloadN X4.here hx rfl (hb yb d23_18) rfl kk) ?_
    refine ob T4 (mkF mG 21 #[oa t, oi (2 : Int32), oi (1 : Int32), oi c] [(.int (32 : Int32)), (.int c)]) (fun _ kk => XS.bipush X4.here hx rfl (hb yb d23_19) kk) ?_
    refine ob T4 (mkF mG 24 #[oa t, oi (2 : Int32), oi (1 : Int32), oi c] []) (fun _ kk => XS.icmpNo X4.here hx rfl (hb yb d23_21) rfl (feq (own_n32 wc)).1 kk) ?_
    refine ob T4 (mkF mG 25 #[oa t, oi (2 : Int32), oi (1 : Int32), oi c] [(.int c)]) (fun _ kk => XS.iloadN X4.here hx rfl (hb yb d23_24) rfl kk) ?_
    refine ob T4 (mkF mG 27 #[oa t, oi (2 : Int32), oi (1 : Int32), oi c] [(.int (9 : Int32)), (.int c)]) (fun _ kk => XS.bipush X4.here hx rfl (hb yb d23_25) kk) ?_
    refine ob T4 (mkF mG 30 #[oa t, oi (2 : Int32), oi (1 : Int32), oi c] []) (fun _ kk => XS.icmpNo X4.here hx rfl (hb yb d23_27) rfl (feq (own_n9 wc)).1 kk) ?_
    obtain ⟨T5, X5, e5, st5⟩ := getS2 X4 hx hZ hown (host := "") (Or.inl (ow hw 91 rfl)) Via.refl e4 (S_w_instance.ext O0.2) (g := (mkF mG 30 #[oa t, oi (2 : Int32), oi (1 : Int32), oi c] [])) rfl (hb yb d23_30)
    refine ob T5 (mkF mG 33 #[oa t, oi (2 : Int32), oi (1 : Int32), oi c] [(.ref w_instance)]) (fun _ kk => st5 _ kk) ?_
    refine ob T5 (mkF mG 34 #[oa t, oi (2 : Int32), oi (1 : Int32), oi c] [(.int c), (.ref w_instance)]) (fun _ kk => XS.iloadN X5.here hx rfl (hb yb d23_33) rfl kk) ?_
    obtain ⟨cq6, kq6, q6a, q6b, q6c⟩ := isOf hZ e5 (E_w_instance.ext O0.2)
    obtain ⟨_, _, ⟨T6, L6, k6, n6⟩, -, X6, ⟨Lc6, hQ6, l6, y6, z6⟩, st6⟩ := X5.virtualBack hx (y := (⟨"java/lang/CharacterDataLatin1", "isWhitespace", "(I)Z"⟩ : MethodName)) (z := (⟨"java/lang/CharacterDataLatin1", "isWhitespace", "(I)Z"⟩ : MethodName)) hown (mvT hZ (ow hw 93 rfl)) (mvT hZ (ow hw 94 rfl)) (notFace_of_selects (args := #[]) (mvT hZ (ow hw 96 rfl))) (mvT hZ (ow hw 96 rfl)) (mvT hZ (ow hw 95 rfl)) (by decide) (backOf (W := 0) (rm_iswN l Z a0 hw [] w_instance w_A c_A zc c h0 n0 O0 hS rc wc) hZ (ow hw 97 rfl) (ow hw 92 rfl) (by decide) (by decide)) q6a q6c (g := (mkF mG 34 #[oa t, oi (2 : Int32), oi (1 : Int32), oi c] [(.int c), (.ref w_instance)])) rfl (by rw [hml]; rfl) (Steps.refl _) (argsL := [(.int c)]) (rest := []) (lenOf pd_5 rfl) rfl (by show 2 * 0 + _ ≤ _; exact Nat.le_of_eq rfl) (hb yb d23_34) (fun _ _ => ⟨rfl, e5, (by decide : 0 + 0 ≤ _), (by decide : 0 + 0 ≤ _)⟩)
    dsimp only [Pt.U, Pt.locs, Pt.cells, Pt.slots] at X6 l6 y6 z6 st6 hQ6
    subst l6 y6 z6
    obtain ⟨rfl, N6q, e6⟩ := hQ6
    have N6 := Fr.app N4 N6q
    refine ob T6 (mkF mG 37 #[oa t, oi (2 : Int32), oi (1 : Int32), oi c] [(.int (0 : Int32))]) (fun _ kk => st6.trans kk) ?_
    refine ob T6 (mkF mG 40 #[oa t, oi (2 : Int32), oi (1 : Int32), oi c] []) (fun _ kk => XS.ifNo X6.here hx rfl (hb yb d23_37) rfl ((if0 _ _).trans (teq (by decide : (0 : Int32) = (0 : Int32))).2) kk) ?_
    refine ob T6 (mkF mG 49 #[oa t, oi (2 : Int32), oi (1 : Int32), oi c] []) (fun _ kk => XS.goto X6.here hx rfl (pc0 := 40) (pc' := 49) rfl (hb yb d23_40) (by decide) (by decide) kk) ?_
    refine ob T6 (mkF mG 50 #[oa t, oi (2 : Int32), oi (1 : Int32), oi c] [(.int (1 : Int32))]) (fun _ kk => XS.iloadN X6.here hx rfl (hb yb d23_49) rfl kk) ?_
    obtain ⟨fs, hr, hrun, hended, hW, hsame⟩ := X6.leave (v := some (.int (1 : Int32))) (fun h => by rw [Bd.returns] at h; cases h)
    refine oout (retOut X6 hx Bd.returns rfl (Or.inl ⟨rfl, Or.inl rfl, _, rfl⟩) (hb yb d23_50) hr) hrun hended ⟨_, _, rfl, ?_, ⟨_, rfl⟩, hW, hsame.mono (by decide) (by decide)⟩
    show Q_rm_lx2NW Z w_instance w_A c_A zc t kb c d h0 n0 _ T6.heap _
    rw [e6]
    exact ⟨rfl, N6, rfl⟩
  · skip
    refine ob T2 (mkF mG 24 #[oa t, oi (2 : Int32), oi (2 : Int32), oi d] []) (fun _ kk => XS.icmpNo X2.here hx rfl (hb yb d23_21) rfl (feq hc3).1 kk) ?_
    refine ob T2 (mkF mG 25 #[oa t, oi (2 : Int32), oi (2 : Int32), oi d] [(.int d)]) (fun _ kk => XS.iloadN X2.here hx rfl (hb yb d23_24) rfl kk) ?_
    refine ob T2 (mkF mG 27 #[oa t, oi (2 : Int32), oi (2 : Int32), oi d] [(.int (9 : Int32)), (.int d)]) (fun _ kk => XS.bipush X2.here hx rfl (hb yb d23_25) kk) ?_
    by_cases hc7 : d = (9 : Int32)
    · skip
      refine ob T2 (mkF mG 43 #[oa t, oi (2 : Int32), oi (2 : Int32), oi d] []) (fun _ kk => XS.icmpYes X2.here hx rfl (pc0 := 27) (pc' := 43) rfl (hb yb d23_27) rfl (teq hc7).1 (by decide) (by decide) kk) ?_
      refine ob T2 (mkF mG 46 #[oa t, oi (2 : Int32), oi (1 : Int32), oi d] []) (fun _ kk => XS.iinc X2.here hx rfl (hb yb d23_43) rfl (l' := #[oa t, oi (2 : Int32), oi (1 : Int32), oi d]) rfl kk) ?_
      refine ob T2 (mkF mG 5 #[oa t, oi (2 : Int32), oi (1 : Int32), oi d] []) (fun _ kk => XS.goto X2.here hx rfl (pc0 := 46) (pc' := 5) rfl (hb yb d23_46) (by decide) (by decide) kk) ?_
      refine ob T2 (mkF mG 6 #[oa t, oi (2 : Int32), oi (1 : Int32), oi d] [(.int (0 : Int32))]) (fun _ kk => XS.iconst X2.here hx rfl (hb yb d23_5) kk) ?_
      refine ob T2 (mkF mG 7 #[oa t, oi (2 : Int32), oi (1 : Int32), oi d] [(.int (1 : Int32)), (.int (0 : Int32))]) (fun _ kk => XS.iloadN X2.here hx rfl (hb yb d23_6) rfl kk) ?_
      refine ob T2 (mkF mG 10 #[oa t, oi (2 : Int32), oi (1 : Int32), oi d] []) (fun _ kk => XS.icmpNo X2.here hx rfl (hb yb d23_7) rfl (tlt (by decide : (0 : Int32) < (1 : Int32))).2.1 kk) ?_
      refine ob T2 (mkF mG 11 #[oa t, oi (2 : Int32), oi (1 : Int32), oi d] [(.ref t)]) (fun _ kk => XS.aloadN X2.here hx rfl (hb yb d23_10) rfl rfl kk) ?_
      refine ob T2 (mkF mG 12 #[oa t, oi (2 : Int32), oi (1 : Int32), oi d] [(.int (1 : Int32)), (.ref t)]) (fun _ kk => XS.iloadN X2.here hx rfl (hb yb d23_11) rfl kk) ?_
      refine ob T2 (mkF mG 13 #[oa t, oi (2 : Int32), oi (1 : Int32), oi d] [(.int (1 : Int32)), (.int (1 : Int32)), (.ref t)]) (fun _ kk => XS.iconst X2.here hx rfl (hb yb d23_12) kk) ?_
      refine ob T2 (mkF mG 14 #[oa t, oi (2 : Int32), oi (1 : Int32), oi d] [(.int (0 : Int32)), (.ref t)]) (fun _ kk => XS.isub X2.here hx rfl (hb yb d23_13) rfl kk) ?_
      obtain ⟨_, _, ⟨T8, L8, k8, n8⟩, -, X8, ⟨Lc8, hQ8, l8, y8, z8⟩, st8⟩ := Jvm.LawKit.callS X2 hx (y := (⟨"java/lang/StringLatin1", "getChar", "([BI)C"⟩ : MethodName)) hown (mvT hZ (ow hw 88 rfl)) (mvT hZ (ow hw 89 rfl)) (mvT hZ (ow hw 56 rfl)) (mvT hZ (ow hw 90 rfl)) (by decide) (backOf (W := 0) (rm_gc20 l Z a0 hw [] w_instance w_A c_A zc t kb c d h0 n0 O0 hS V_t rc) hZ (ow hw 90 rfl) (ow hw 56 rfl) (by decide) (by decide)) (g := (mkF mG 14 #[oa t, oi (2 : Int32), oi (1 : Int32), oi d] [(.int (0 : Int32)), (.ref t)])) rfl (by rw [hml]; rfl) (argsL := [(.ref t), (.int (0 : Int32))]) (rest := []) (lenOf pd_4 rfl) rfl (by show 2 * 0 + _ ≤ _; exact Nat.le_of_eq rfl) (hb yb d23_14) (fun _ _ => ⟨rfl, e2, (by decide : 0 + 0 ≤ _), (by decide : 0 + 0 ≤ _)⟩)
      dsimp only [Pt.U, Pt.locs, Pt.cells, Pt.slots] at X8 l8 y8 z8 st8 hQ8
      subst l8 y8 z8
      obtain ⟨rfl, N8q, e8⟩ := hQ8
      have N8 := Fr.app N2 N8q
      refine ob T8 (mkF mG 17 #[oa t, oi (2 : Int32), oi (1 : Int32), oi d] [(.int c)]) (fun _ kk => st8 _ kk) ?_
      refine ob T8 (mkF mG 18 #[oa t, oi (2 : Int32), oi (1 : Int32), oi c] []) (fun _ kk => XS.istoreN X8.here hx rfl (hb yb d23_17) rfl (l' := #[oa t, oi (2 : Int32), oi (1 : Int32), oi c]) rfl kk) ?_
      refine ob T8 (mkF mG 19 #[oa t, oi (2 : Int32), oi (1 : Int32), oi c] [(.int c)]) (fun _ kk => XS.iloadN X8.here hx rfl (hb yb d23_18) rfl kk) ?_
      refine ob T8 (mkF mG 21 #[oa t, oi (2 : Int32), oi (1 : Int32), oi c] [(.int (32 : Int32)), (.int c)]) (fun _ kk => XS.bipush X8.here hx rfl (hb yb d23_19) kk) ?_
      refine ob T8 (mkF mG 24 #[oa t, oi (2 : Int32), oi (1 : Int32), oi c] []) (fun _ kk => XS.icmpNo X8.here hx rfl (hb yb d23_21) rfl (feq (own_n32 wc)).1 kk) ?_
      refine ob T8 (mkF mG 25 #[oa t, oi (2 : Int32), oi (1 : Int32), oi c] [(.int c)]) (fun _ kk => XS.iloadN X8.here hx rfl (hb yb d23_24) rfl kk) ?_
      refine ob T8 (mkF mG 27 #[oa t, oi (2 : Int32), oi (1 : Int32), oi c] [(.int (9 : Int32)), (.int c)]) (fun _ kk => XS.bipush X8.here hx rfl (hb yb d23_25) kk) ?_
      refine ob T8 (mkF mG 30 #[oa t, oi (2 : Int32), oi (1 : Int32), oi c] []) (fun _ kk => XS.icmpNo X8.here hx rfl (hb yb d23_27) rfl (feq (own_n9 wc)).1 kk) ?_
      obtain ⟨T9, X9, e9, st9⟩ := getS2 X8 hx hZ hown (host := "") (Or.inl (ow hw 91 rfl)) Via.refl e8 (S_w_instance.ext O0.2) (g := (mkF mG 30 #[oa t, oi (2 : Int32), oi (1 : Int32), oi c] [])) rfl (hb yb d23_30)
      refine ob T9 (mkF mG 33 #[oa t, oi (2 : Int32), oi (1 : Int32), oi c] [(.ref w_instance)]) (fun _ kk => st9 _ kk) ?_
      refine ob T9 (mkF mG 34 #[oa t, oi (2 : Int32), oi (1 : Int32), oi c] [(.int c), (.ref w_instance)]) (fun _ kk => XS.iloadN X9.here hx rfl (hb yb d23_33) rfl kk) ?_
      obtain ⟨cq10, kq10, q10a, q10b, q10c⟩ := isOf hZ e9 (E_w_instance.ext O0.2)
      obtain ⟨_, _, ⟨T10, L10, k10, n10⟩, -, X10, ⟨Lc10, hQ10, l10, y10, z10⟩, st10⟩ := X9.virtualBack hx (y := (⟨"java/lang/CharacterDataLatin1", "isWhitespace", "(I)Z"⟩ : MethodName)) (z := (⟨"java/lang/CharacterDataLatin1", "isWhitespace", "(I)Z"⟩ : MethodName)) hown (mvT hZ (ow hw 93 rfl)) (mvT hZ (ow hw 94 rfl)) (notFace_of_selects (args := #[]) (mvT hZ (ow hw 96 rfl))) (mvT hZ (ow hw 96 rfl)) (mvT hZ (ow hw 95 rfl)) (by decide) (backOf (W := 0) (rm_iswN l Z a0 hw [] w_instance w_A c_A zc c h0 n0 O0 hS rc wc) hZ (ow hw 97 rfl) (ow hw 92 rfl) (by decide) (by decide)) q10a q10c (g := (mkF mG 34 #[oa t, oi (2 : Int32), oi (1 : Int32), oi c] [(.int c), (.ref w_instance)])) rfl (by rw [hml]; rfl) (Steps.refl _) (argsL := [(.int c)]) (rest := []) (lenOf pd_5 rfl) rfl (by show 2 * 0 + _ ≤ _; exact Nat.le_of_eq rfl) (hb yb d23_34) (fun _ _ => ⟨rfl, e9, (by decide : 0 + 0 ≤ _), (by decide : 0 + 0 ≤ _)⟩)
      dsimp only [Pt.U, Pt.locs, Pt.cells, Pt.slots] at X10 l10 y10 z10 st10 hQ10
      subst l10 y10 z10
      obtain ⟨rfl, N10q, e10⟩ := hQ10
      have N10 := Fr.app N8 N10q
      refine ob T10 (mkF mG 37 #[oa t, oi (2 : Int32), oi (1 : Int32), oi c] [(.int (0 : Int32))]) (fun _ kk => st10.trans kk) ?_
      refine ob T10 (mkF mG 40 #[oa t, oi (2 : Int32), oi (1 : Int32), oi c] []) (fun _ kk => XS.ifNo X10.here hx rfl (hb yb d23_37) rfl ((if0 _ _).trans (teq (by decide : (0 : Int32) = (0 : Int32))).2) kk) ?_
      refine ob T10 (mkF mG 49 #[oa t, oi (2 : Int32), oi (1 : Int32), oi c] []) (fun _ kk => XS.goto X10.here hx rfl (pc0 := 40) (pc' := 49) rfl (hb yb d23_40) (by decide) (by decide) kk) ?_
      refine ob T10 (mkF mG 50 #[oa t, oi (2 : Int32), oi (1 : Int32), oi c] [(.int (1 : Int32))]) (fun _ kk => XS.iloadN X10.here hx rfl (hb yb d23_49) rfl kk) ?_
      obtain ⟨fs, hr, hrun, hended, hW, hsame⟩ := X10.leave (v := some (.int (1 : Int32))) (fun h => by rw [Bd.returns] at h; cases h)
      refine oout (retOut X10 hx Bd.returns rfl (Or.inl ⟨rfl, Or.inl rfl, _, rfl⟩) (hb yb d23_50) hr) hrun hended ⟨_, _, rfl, ?_, ⟨_, rfl⟩, hW, hsame.mono (by decide) (by decide)⟩
      show Q_rm_lx2NW Z w_instance w_A c_A zc t kb c d h0 n0 _ T10.heap _
      rw [e10]
      exact ⟨rfl, N10, rfl⟩
    · skip
      refine ob T2 (mkF mG 30 #[oa t, oi (2 : Int32), oi (2 : Int32), oi d] []) (fun _ kk => XS.icmpNo X2.here hx rfl (hb yb d23_27) rfl (feq hc7).1 kk) ?_
      obtain ⟨T11, X11, e11, st11⟩ := getS2 X2 hx hZ hown (host := "") (Or.inl (ow hw 91 rfl)) Via.refl e2 (S_w_instance.ext O0.2) (g := (mkF mG 30 #[oa t, oi (2 : Int32), oi (2 : Int32), oi d] [])) rfl (hb yb d23_30)
      refine ob T11 (mkF mG 33 #[oa t, oi (2 : Int32), oi (2 : Int32), oi d] [(.ref w_instance)]) (fun _ kk => st11 _ kk) ?_
      refine ob T11 (mkF mG 34 #[oa t, oi (2 : Int32), oi (2 : Int32), oi d] [(.int d), (.ref w_instance)]) (fun _ kk => XS.iloadN X11.here hx rfl (hb yb d23_33) rfl kk) ?_
      obtain ⟨cq12, kq12, q12a, q12b, q12c⟩ := isOf hZ e11 (E_w_instance.ext O0.2)
      obtain ⟨_, _, ⟨T12, L12, k12, n12⟩, -, X12, ⟨Lc12, hQ12, l12, y12, z12⟩, st12⟩ := X11.virtualBack hx (y := (⟨"java/lang/CharacterDataLatin1", "isWhitespace", "(I)Z"⟩ : MethodName)) (z := (⟨"java/lang/CharacterDataLatin1", "isWhitespace", "(I)Z"⟩ : MethodName)) hown (mvT hZ (ow hw 93 rfl)) (mvT hZ (ow hw 94 rfl)) (notFace_of_selects (args := #[]) (mvT hZ (ow hw 96 rfl))) (mvT hZ (ow hw 96 rfl)) (mvT hZ (ow hw 95 rfl)) (by decide) (backOf (W := 0) (rm_iswW l Z a0 hw [] w_instance w_A c_A zc d h0 n0 O0 hS rd wd) hZ (ow hw 97 rfl) (ow hw 92 rfl) (by decide) (by decide)) q12a q12c (g := (mkF mG 34 #[oa t, oi (2 : Int32), oi (2 : Int32), oi d] [(.int d), (.ref w_instance)])) rfl (by rw [hml]; rfl) (Steps.refl _) (argsL := [(.int d)]) (rest := []) (lenOf pd_5 rfl) rfl (by show 2 * 0 + _ ≤ _; exact Nat.le_of_eq rfl) (hb yb d23_34) (fun _ _ => ⟨rfl, e11, (by decide : 0 + 0 ≤ _), (by decide : 0 + 0 ≤ _)⟩)
      dsimp only [Pt.U, Pt.locs, Pt.cells, Pt.slots] at X12 l12 y12 z12 st12 hQ12
      subst l12 y12 z12
      obtain ⟨rfl, N12q, e12⟩ := hQ12
      have N12 := Fr.app N2 N12q
      refine ob T12 (mkF mG 37 #[oa t, oi (2 : Int32), oi (2 : Int32), oi d] [(.int (1 : Int32))]) (fun _ kk => st12.trans kk) ?_
      refine ob T12 (mkF mG 43 #[oa t, oi (2 : Int32), oi (2 : Int32), oi d] []) (fun _ kk => XS.ifYes X12.here hx rfl (pc0 := 37) (pc' := 43) rfl (hb yb d23_37) rfl ((if0 _ _).trans (feq (by decide : ¬ ((1 : Int32) = (0 : Int32)))).2) (by decide) (by decide) kk) ?_
      refine ob T12 (mkF mG 46 #[oa t, oi (2 : Int32), oi (1 : Int32), oi d] []) (fun _ kk => XS.iinc X12.here hx rfl (hb yb d23_43) rfl (l' := #[oa t, oi (2 : Int32), oi (1 : Int32), oi d]) rfl kk) ?_
      refine ob T12 (mkF mG 5 #[oa t, oi (2 : Int32), oi (1 : Int32), oi d] []) (fun _ kk => XS.goto X12.here hx rfl (pc0 := 46) (pc' := 5) rfl (hb yb d23_46) (by decide) (by decide) kk) ?_
      refine ob T12 (mkF mG 6 #[oa t, oi (2 : Int32), oi (1 : Int32), oi d] [(.int (0 : Int32))]) (fun _ kk => XS.iconst X12.here hx rfl (hb yb d23_5) kk) ?_
      refine ob T12 (mkF mG 7 #[oa t, oi (2 : Int32), oi (1 : Int32), oi d] [(.int (1 : Int32)), (.int (0 : Int32))]) (fun _ kk => XS.iloadN X12.here hx rfl (hb yb d23_6) rfl kk) ?_
      refine ob T12 (mkF mG 10 #[oa t, oi (2 : Int32), oi (1 : Int32), oi d] []) (fun _ kk => XS.icmpNo X12.here hx rfl (hb yb d23_7) rfl (tlt (by decide : (0 : Int32) < (1 : Int32))).2.1 kk) ?_
      refine ob T12 (mkF mG 11 #[oa t, oi (2 : Int32), oi (1 : Int32), oi d] [(.ref t)]) (fun _ kk => XS.aloadN X12.here hx rfl (hb yb d23_10) rfl rfl kk) ?_
      refine ob T12 (mkF mG 12 #[oa t, oi (2 : Int32), oi (1 : Int32), oi d] [(.int (1 : Int32)), (.ref t)]) (fun _ kk => XS.iloadN X12.here hx rfl (hb yb d23_11) rfl kk) ?_
      refine ob T12 (mkF mG 13 #[oa t, oi (2 : Int32), oi (1 : Int32), oi d] [(.int (1 : Int32)), (.int (1 : Int32)), (.ref t)]) (fun _ kk => XS.iconst X12.here hx rfl (hb yb d23_12) kk) ?_
      refine ob T12 (mkF mG 14 #[oa t, oi (2 : Int32), oi (1 : Int32), oi d] [(.int (0 : Int32)), (.ref t)]) (fun _ kk => XS.isub X12.here hx rfl (hb yb d23_13) rfl kk) ?_
      obtain ⟨_, _, ⟨T13, L13, k13, n13⟩, -, X13, ⟨Lc13, hQ13, l13, y13, z13⟩, st13⟩ := Jvm.LawKit.callS X12 hx (y := (⟨"java/lang/StringLatin1", "getChar", "([BI)C"⟩ : MethodName)) hown (mvT hZ (ow hw 88 rfl)) (mvT hZ (ow hw 89 rfl)) (mvT hZ (ow hw 56 rfl)) (mvT hZ (ow hw 90 rfl)) (by decide) (backOf (W := 0) (rm_gc20 l Z a0 hw [] w_instance w_A c_A zc t kb c d h0 n0 O0 hS V_t rc) hZ (ow hw 90 rfl) (ow hw 56 rfl) (by decide) (by decide)) (g := (mkF mG 14 #[oa t, oi (2 : Int32), oi (1 : Int32), oi d] [(.int (0 : Int32)), (.ref t)])) rfl (by rw [hml]; rfl) (argsL := [(.ref t), (.int (0 : Int32))]) (rest := []) (lenOf pd_4 rfl) rfl (by show 2 * 0 + _ ≤ _; exact Nat.le_of_eq rfl) (hb yb d23_14) (fun _ _ => ⟨rfl, e12, (by decide : 0 + 0 ≤ _), (by decide : 0 + 0 ≤ _)⟩)
      dsimp only [Pt.U, Pt.locs, Pt.cells, Pt.slots] at X13 l13 y13 z13 st13 hQ13
      subst l13 y13 z13
      obtain ⟨rfl, N13q, e13⟩ := hQ13
      have N13 := Fr.app N12 N13q
      refine ob T13 (mkF mG 17 #[oa t, oi (2 : Int32), oi (1 : Int32), oi d] [(.int c)]) (fun _ kk => st13 _ kk) ?_
      refine ob T13 (mkF mG 18 #[oa t, oi (2 : Int32), oi (1 : Int32), oi c] []) (fun _ kk => XS.istoreN X13.here hx rfl (hb yb d23_17) rfl (l' := #[oa t, oi (2 : Int32), oi (1 : Int32), oi c]) rfl kk) ?_
      refine ob T13 (mkF mG 19 #[oa t, oi (2 : Int32), oi (1 : Int32), oi c] [(.int c)]) (fun _ kk => XS.iloadN X13.here hx rfl (hb yb d23_18) rfl kk) ?_
      refine ob T13 (mkF mG 21 #[oa t, oi (2 : Int32), oi (1 : Int32), oi c] [(.int (32 : Int32)), (.int c)]) (fun _ kk => XS.bipush X13.here hx rfl (hb yb d23_19) kk) ?_
      refine ob T13 (mkF mG 24 #[oa t, oi (2 : Int32), oi (1 : Int32), oi c] []) (fun _ kk => XS.icmpNo X13.here hx rfl (hb yb d23_21) rfl (feq (own_n32 wc)).1 kk) ?_
      refine ob T13 (mkF mG 25 #[oa t, oi (2 : Int32), oi (1 : Int32), oi c] [(.int c)]) (fun _ kk => XS.iloadN X13.here hx rfl (hb yb d23_24) rfl kk) ?_
      refine ob T13 (mkF mG 27 #[oa t, oi (2 : Int32), oi (1 : Int32), oi c] [(.int (9 : Int32)), (.int c)]) (fun _ kk => XS.bipush X13.here hx rfl (hb yb d23_25) kk) ?_
      refine ob T13 (mkF mG 30 #[oa t, oi (2 : Int32), oi (1 : Int32), oi c] []) (fun _ kk => XS.icmpNo X13.here hx rfl (hb yb d23_27) rfl (feq (own_n9 wc)).1 kk) ?_
      obtain ⟨T14, X14, e14, st14⟩ := getS2 X13 hx hZ hown (host := "") (Or.inl (ow hw 91 rfl)) Via.refl e13 (S_w_instance.ext O0.2) (g := (mkF mG 30 #[oa t, oi (2 : Int32), oi (1 : Int32), oi c] [])) rfl (hb yb d23_30)
      refine ob T14 (mkF mG 33 #[oa t, oi (2 : Int32), oi (1 : Int32), oi c] [(.ref w_instance)]) (fun _ kk => st14 _ kk) ?_
      refine ob T14 (mkF mG 34 #[oa t, oi (2 : Int32), oi (1 : Int32), oi c] [(.int c), (.ref w_instance)]) (fun _ kk => XS.iloadN X14.here hx rfl (hb yb d23_33) rfl kk) ?_
      obtain ⟨cq15, kq15, q15a, q15b, q15c⟩ := isOf hZ e14 (E_w_instance.ext O0.2)
      obtain ⟨_, _, ⟨T15, L15, k15, n15⟩, -, X15, ⟨Lc15, hQ15, l15, y15, z15⟩, st15⟩ := X14.virtualBack hx (y := (⟨"java/lang/CharacterDataLatin1", "isWhitespace", "(I)Z"⟩ : MethodName)) (z := (⟨"java/lang/CharacterDataLatin1", "isWhitespace", "(I)Z"⟩ : MethodName)) hown (mvT hZ (ow hw 93 rfl)) (mvT hZ (ow hw 94 rfl)) (notFace_of_selects (args := #[]) (mvT hZ (ow hw 96 rfl))) (mvT hZ (ow hw 96 rfl)) (mvT hZ (ow hw 95 rfl)) (by decide) (backOf (W := 0) (rm_iswN l Z a0 hw [] w_instance w_A c_A zc c h0 n0 O0 hS rc wc) hZ (ow hw 97 rfl) (ow hw 92 rfl) (by decide) (by decide)) q15a q15c (g := (mkF mG 34 #[oa t, oi (2 : Int32), oi (1 : Int32), oi c] [(.int c), (.ref w_instance)])) rfl (by rw [hml]; rfl) (Steps.refl _) (argsL := [(.int c)]) (rest := []) (lenOf pd_5 rfl) rfl (by show 2 * 0 + _ ≤ _; exact Nat.le_of_eq rfl) (hb yb d23_34) (fun _ _ => ⟨rfl, e14, (by decide : 0 + 0 ≤ _), (by decide : 0 + 0 ≤ _)⟩)
      dsimp only [Pt.U, Pt.locs, Pt.cells, Pt.slots] at X15 l15 y15 z15 st15 hQ15
      subst l15 y15 z15
      obtain ⟨rfl, N15q, e15⟩ := hQ15
      have N15 := Fr.app N13 N15q
      refine ob T15 (mkF mG 37 #[oa t, oi (2 : Int32), oi (1 : Int32), oi c] [(.int (0 : Int32))]) (fun _ kk => st15.trans kk) ?_
      refine ob T15 (mkF mG 40 #[oa t, oi (2 : Int32), oi (1 : Int32), oi c] []) (fun _ kk => XS.ifNo X15.here hx rfl (hb yb d23_37) rfl ((if0 _ _).trans (teq (by decide : (0 : Int32) = (0 : Int32))).2) kk) ?_
      refine ob T15 (mkF mG 49 #[oa t, oi (2 : Int32), oi (1 : Int32), oi c] []) (fun _ kk => XS.goto X15.here hx rfl (pc0 := 40) (pc' := 49) rfl (hb yb d23_40) (by decide) (by decide) kk) ?_
      refine ob T15 (mkF mG 50 #[oa t, oi (2 : Int32), oi (1 : Int32), oi c] [(.int (1 : Int32))]) (fun _ kk => XS.iloadN X15.here hx rfl (hb yb d23_49) rfl kk) ?_
      obtain ⟨fs, hr, hrun, hended, hW, hsame⟩ := X15.leave (v := some (.int (1 : Int32))) (fun h => by rw [Bd.returns] at h; cases h)
      refine oout (retOut X15 hx Bd.returns rfl (Or.inl ⟨rfl, Or.inl rfl, _, rfl⟩) (hb yb d23_50) hr) hrun hended ⟨_, _, rfl, ?_, ⟨_, rfl⟩, hW, hsame.mono (by decide) (by decide)⟩
      show Q_rm_lx2NW Z w_instance w_A c_A zc t kb c d h0 n0 _ T15.heap _
      rw [e15]
      exact ⟨rfl, N15, rfl⟩

theorem d7_0 : decode jdk_42_method_117_code 0 = .ok (.aload_n 0, 1) := by decide +kernel
theorem d7_1 : decode jdk_42_method_117_code 1 = .ok (.invokevirtual 876, 3) := by decide +kernel
theorem d7_4 : decode jdk_42_method_117_code 4 = .ok (.aload_n 0, 1) := by decide +kernel
theorem d7_5 : decode jdk_42_method_117_code 5 = .ok (.invokevirtual 505, 3) := by decide +kernel
theorem d7_8 : decode jdk_42_method_117_code 8 = .ok (.if_icmp .ne 7, 3) := by decide +kernel
theorem d7_11 : decode jdk_42_method_117_code 11 = .ok (.iconst 1, 1) := by decide +kernel
theorem d7_12 : decode jdk_42_method_117_code 12 = .ok (.goto 4, 3) := by decide +kernel
theorem d7_16 : decode jdk_42_method_117_code 16 = .ok (.ireturn, 1) := by decide +kernel
theorem pd_6 : parseMethodDescriptor "()I" = some ⟨[], some .int⟩ := by decide +kernel
def Q_rm_ib0 (Z : State) (w_instance : Addr) (w_A : Addr) (c_A : Cell) (zc : Int32) (a : Addr) (t : Addr) (kb : ClassId) (h0 : Heap) (n0 : Nat) (v : Option Value) (h : Heap) (L : List Loc) : Prop := v = some (.int (1 : Int32)) ∧ Fr n0 L ∧ h = h0
set_option maxRecDepth 65536 in
set_option maxHeartbeats 40000000 in
theorem rm_ib0 (l : Launch) (Z : State) (a0 : Array Value) (hw : ∀ d ∈ tables_1, d.before a0 Z = true) (ws : List Jvm.Cond) (w_instance : Addr) (w_A : Addr) (c_A : Cell) (zc : Int32) (a : Addr) (t : Addr) (kb : ClassId) (h0 : Heap) (n0 : Nat) (O0 : Old Z n0 h0) (hS : St0 Z w_instance w_A c_A zc ) (E_a : Exa Z h0 a "java/lang/String") (F_c : Fld Z h0 a "java/lang/String" "coder" "B" (.int (0 : Int32))) (F_v : Fld Z h0 a "java/lang/String" "value" "[B" (.ref t)) (V_t : Arv Z h0 t kb .byte (0 : Int32) [] (.int (0 : Int32))) :
    MetFree l (⟨"java/lang/String", "isBlank", "()Z"⟩ : MethodName) (head1 (Jvm.Cond.code (⟨"java/lang/String", "isBlank", "()Z"⟩ : MethodName) jdk_42_method_117_code 1 (some .boolean) :: ws) ({ frames := 5, cells := 0, slots := 0, locals := 96 } : Room)) (fun aG UG => aG = #[(.ref a)] ∧ Z.Warmed39 UG.vm ∧ UG.heap = h0) (fun _ _ _ _ _ => True) (fun _ UG oG UG' => ∃ vG LG, oG = .returned vG ∧ Q_rm_ib0 Z w_instance w_A c_A zc a t kb h0 n0 vG UG'.heap LG ∧ FrameEnd UG oG UG' LG ({ frames := 5, cells := 0, slots := 0, locals := 96 } : Room).cells ({ frames := 5, cells := 0, slots := 0, locals := 96 } : Room).slots) := by
  refine MetFree.of_bodySF (plainFor_of_name pn_0) hisR ?_
  intro pG eG sG mG rG bG fG cG s₁ Bd hml0 hP hK
  obtain ⟨rfl, hZ, hh⟩ := hP
  have hx := Bd.exec
  have yb := Bd.bytes
  have hml : cG.maxLocals = 1 := hml0
  have hown : sG.vm.findClass "java/lang/String" = some mG.cls := findClass_of_methodNamed Bd.named
  have hnm := (name_of_methodNamed Bd.named Bd.method).1
  have X0 : Stand pG l eG ({ frames := 5, cells := 0, slots := 0, locals := 96 } : Room) sG mG #[(.ref a)] bG fG cG s₁ [] 0 0 := Stand.of_body Bd
  have e0 : s₁.heap = h0 := by rw [← hh, Bd.state]; rfl
  have N0 := Fr.nil n0
  have K0 := Keep.refl h0 []
  obtain ⟨S_w_instance, E_w_instance, S_w_A, E_w_A, V_w_A, S_zc, hzc⟩ := (id hS : St0 Z w_instance w_A c_A zc )
  refine ostart (g' := (mkF mG 0 #[oa a] [])) (by first | (simp [entryFrame, mkF, argsToLocals, Value.category]; done) | rfl) ?_
  refine ob s₁ (mkF mG 1 #[oa a] [(.ref a)]) (fun _ kk => XS.aloadN X0.here hx rfl (hb yb d7_0) rfl rfl kk) ?_
  obtain ⟨cq1, q1a, q1b⟩ := E_a.cell
  obtain ⟨_, _, ⟨T1, L1, k1, n1⟩, -, X1, ⟨Lc1, hQ1, l1, y1, z1⟩, st1⟩ := X0.privateBack hx (y := (⟨"java/lang/String", "indexOfNonWhitespace", "()I"⟩ : MethodName)) hown (mvT hZ (ow hw 43 rfl)) (mvT hZ (ow hw 44 rfl)) (mvT hZ (ow hw 46 rfl)) (Cond.privateMethod_at (mvP hZ (ow hw 45 rfl) (args := #[]))) (mvT hZ (ow hw 47 rfl)) (by decide) (backOf (W := 0) (rm_six0 l Z a0 hw [] w_instance w_A c_A zc a t kb h0 n0 O0 hS E_a F_c F_v V_t) hZ (ow hw 47 rfl) (ow hw 6 rfl) (by decide) (by decide)) (g := (mkF mG 1 #[oa a] [(.ref a)])) rfl (by rw [hml]; rfl) (Steps.refl _) (a := a) (by rw [e0]; exact q1a) q1b (argsL := []) (rest := []) (lenOf pd_6 rfl) rfl (by show 2 * 0 + _ ≤ _; exact Nat.le_of_eq rfl) (hb yb d7_1) (fun _ _ => ⟨rfl, e0, (by decide : 0 + 0 ≤ _), (by decide : 0 + 0 ≤ _)⟩)
  dsimp only [Pt.U, Pt.locs, Pt.cells, Pt.slots] at X1 l1 y1 z1 st1 hQ1
  subst l1 y1 z1
  obtain ⟨rfl, N1q, e1⟩ := hQ1
  have N1 := Fr.app N0 N1q
  refine ob T1 (mkF mG 4 #[oa a] [(.int (0 : Int32))]) (fun _ kk => st1.trans kk) ?_
  refine ob T1 (mkF mG 5 #[oa a] [(.ref a), (.int (0 : Int32))]) (fun _ kk => XS.aloadN X1.here hx rfl (hb yb d7_4) rfl rfl kk) ?_
  obtain ⟨cq2, kq2, q2a, q2b, q2c⟩ := isOf hZ e1 E_a
  obtain ⟨_, _, ⟨T2, L2, k2, n2⟩, -, X2, ⟨Lc2, hQ2, l2, y2, z2⟩, st2⟩ := X1.virtualBack hx (y := (⟨"java/lang/String", "length", "()I"⟩ : MethodName)) (z := (⟨"java/lang/String", "length", "()I"⟩ : MethodName)) hown (mvT hZ (ow hw 58 rfl)) (mvT hZ (ow hw 59 rfl)) (notFace_of_selects (args := #[]) (mvT hZ (ow hw 61 rfl))) (mvT hZ (ow hw 61 rfl)) (mvT hZ (ow hw 60 rfl)) (by decide) (backOf (W := 1) (rm_len0 l Z a0 hw [] w_instance w_A c_A zc a t kb h0 n0 O0 hS E_a F_c F_v V_t) hZ (ow hw 62 rfl) (ow hw 6 rfl) (by decide) (by decide)) q2a q2c (g := (mkF mG 5 #[oa a] [(.ref a), (.int (0 : Int32))])) rfl (by rw [hml]; rfl) (Steps.refl _) (argsL := []) (rest := [(.int (0 : Int32))]) (lenOf pd_6 rfl) rfl (by show 2 * 0 + _ ≤ _; exact Nat.le_of_eq rfl) (hb yb d7_5) (fun _ _ => ⟨rfl, e1, (by decide : 0 + 0 ≤ _), (by decide : 0 + 0 ≤ _)⟩)
  dsimp only [Pt.U, Pt.locs, Pt.cells, Pt.slots] at X2 l2 y2 z2 st2 hQ2
  subst l2 y2 z2
  obtain ⟨rfl, N2q, e2⟩ := hQ2
  have N2 := Fr.app N1 N2q
  refine ob T2 (mkF mG 8 #[oa a] [(.int (0 : Int32)), (.int (0 : Int32))]) (fun _ kk => st2.trans kk) ?_
  refine ob T2 (mkF mG 11 #[oa a] []) (fun _ kk => XS.icmpNo X2.here hx rfl (hb yb d7_8) rfl (teq (by decide : (0 : Int32) = (0 : Int32))).2 kk) ?_
  refine ob T2 (mkF mG 12 #[oa a] [(.int (1 : Int32))]) (fun _ kk => XS.iconst X2.here hx rfl (hb yb d7_11) kk) ?_
  refine ob T2 (mkF mG 16 #[oa a] [(.int (1 : Int32))]) (fun _ kk => XS.goto X2.here hx rfl (pc0 := 12) (pc' := 16) rfl (hb yb d7_12) (by decide) (by decide) kk) ?_
  obtain ⟨fs, hr, hrun, hended, hW, hsame⟩ := X2.leave (v := some (.int (1 : Int32))) (fun h => by rw [Bd.returns] at h; cases h)
  refine oout (retN X2 hx (t := .boolean) Bd.returns (by simp) (hb yb d7_16) hr) hrun hended ⟨_, _, rfl, ?_, ⟨_, rfl⟩, hW, hsame.mono (by decide) (by decide)⟩
  show Q_rm_ib0 Z w_instance w_A c_A zc a t kb h0 n0 _ T2.heap _
  rw [e2]
  exact ⟨rfl, N2, rfl⟩

def Q_rm_ib1W (Z : State) (w_instance : Addr) (w_A : Addr) (c_A : Cell) (zc : Int32) (a : Addr) (t : Addr) (kb : ClassId) (c : Int32) (h0 : Heap) (n0 : Nat) (v : Option Value) (h : Heap) (L : List Loc) : Prop := v = some (.int (1 : Int32)) ∧ Fr n0 L ∧ h = h0
set_option maxRecDepth 65536 in
set_option maxHeartbeats 40000000 in
theorem rm_ib1W (l : Launch) (Z : State) (a0 : Array Value) (hw : ∀ d ∈ tables_1, d.before a0 Z = true) (ws : List Jvm.Cond) (w_instance : Addr) (w_A : Addr) (c_A : Cell) (zc : Int32) (a : Addr) (t : Addr) (kb : ClassId) (c : Int32) (h0 : Heap) (n0 : Nat) (O0 : Old Z n0 h0) (hS : St0 Z w_instance w_A c_A zc ) (E_a : Exa Z h0 a "java/lang/String") (F_c : Fld Z h0 a "java/lang/String" "coder" "B" (.int (0 : Int32))) (F_v : Fld Z h0 a "java/lang/String" "value" "[B" (.ref t)) (V_t : Arv Z h0 t kb .byte (1 : Int32) [(.int (c.toInt8.toInt32))] (.int (0 : Int32))) (rc : oRg c) (wc : oWs c = true) :
    MetFree l (⟨"java/lang/String", "isBlank", "()Z"⟩ : MethodName) (head1 (Jvm.Cond.code (⟨"java/lang/String", "isBlank", "()Z"⟩ : MethodName) jdk_42_method_117_code 1 (some .boolean) :: ws) ({ frames := 5, cells := 0, slots := 0, locals := 96 } : Room)) (fun aG UG => aG = #[(.ref a)] ∧ Z.Warmed39 UG.vm ∧ UG.heap = h0) (fun _ _ _ _ _ => True) (fun _ UG oG UG' => ∃ vG LG, oG = .returned vG ∧ Q_rm_ib1W Z w_instance w_A c_A zc a t kb c h0 n0 vG UG'.heap LG ∧ FrameEnd UG oG UG' LG ({ frames := 5, cells := 0, slots := 0, locals := 96 } : Room).cells ({ frames := 5, cells := 0, slots := 0, locals := 96 } : Room).slots) := by
  refine MetFree.of_bodySF (plainFor_of_name pn_0) hisR ?_
  intro pG eG sG mG rG bG fG cG s₁ Bd hml0 hP hK
  obtain ⟨rfl, hZ, hh⟩ := hP
  have hx := Bd.exec
  have yb := Bd.bytes
  have hml : cG.maxLocals = 1 := hml0
  have hown : sG.vm.findClass "java/lang/String" = some mG.cls := findClass_of_methodNamed Bd.named
  have hnm := (name_of_methodNamed Bd.named Bd.method).1
  have X0 : Stand pG l eG ({ frames := 5, cells := 0, slots := 0, locals := 96 } : Room) sG mG #[(.ref a)] bG fG cG s₁ [] 0 0 := Stand.of_body Bd
  have e0 : s₁.heap = h0 := by rw [← hh, Bd.state]; rfl
  have N0 := Fr.nil n0
  have K0 := Keep.refl h0 []
  obtain ⟨S_w_instance, E_w_instance, S_w_A, E_w_A, V_w_A, S_zc, hzc⟩ := (id hS : St0 Z w_instance w_A c_A zc )
  refine ostart (g' := (mkF mG 0 #[oa a] [])) (by first | (simp [entryFrame, mkF, argsToLocals, Value.category]; done) | rfl) ?_
  refine ob s₁ (mkF mG 1 #[oa a] [(.ref a)]) (fun _ kk => XS.aloadN X0.here hx rfl (hb yb d7_0) rfl rfl kk) ?_
  obtain ⟨cq1, q1a, q1b⟩ := E_a.cell
  obtain ⟨_, _, ⟨T1, L1, k1, n1⟩, -, X1, ⟨Lc1, hQ1, l1, y1, z1⟩, st1⟩ := X0.privateBack hx (y := (⟨"java/lang/String", "indexOfNonWhitespace", "()I"⟩ : MethodName)) hown (mvT hZ (ow hw 43 rfl)) (mvT hZ (ow hw 44 rfl)) (mvT hZ (ow hw 46 rfl)) (Cond.privateMethod_at (mvP hZ (ow hw 45 rfl) (args := #[]))) (mvT hZ (ow hw 47 rfl)) (by decide) (backOf (W := 0) (rm_six1W l Z a0 hw [] w_instance w_A c_A zc a t kb c h0 n0 O0 hS E_a F_c F_v V_t rc wc) hZ (ow hw 47 rfl) (ow hw 6 rfl) (by decide) (by decide)) (g := (mkF mG 1 #[oa a] [(.ref a)])) rfl (by rw [hml]; rfl) (Steps.refl _) (a := a) (by rw [e0]; exact q1a) q1b (argsL := []) (rest := []) (lenOf pd_6 rfl) rfl (by show 2 * 0 + _ ≤ _; exact Nat.le_of_eq rfl) (hb yb d7_1) (fun _ _ => ⟨rfl, e0, (by decide : 0 + 0 ≤ _), (by decide : 0 + 0 ≤ _)⟩)
  dsimp only [Pt.U, Pt.locs, Pt.cells, Pt.slots] at X1 l1 y1 z1 st1 hQ1
  subst l1 y1 z1
  obtain ⟨rfl, N1q, e1⟩ := hQ1
  have N1 := Fr.app N0 N1q
  refine ob T1 (mkF mG 4 #[oa a] [(.int (1 : Int32))]) (fun _ kk => st1.trans kk) ?_
  refine ob T1 (mkF mG 5 #[oa a] [(.ref a), (.int (1 : Int32))]) (fun _ kk => XS.aloadN X1.here hx rfl (hb yb d7_4) rfl rfl kk) ?_
  obtain ⟨cq2, kq2, q2a, q2b, q2c⟩ := isOf hZ e1 E_a
  obtain ⟨_, _, ⟨T2, L2, k2, n2⟩, -, X2, ⟨Lc2, hQ2, l2, y2, z2⟩, st2⟩ := X1.virtualBack hx (y := (⟨"java/lang/String", "length", "()I"⟩ : MethodName)) (z := (⟨"java/lang/String", "length", "()I"⟩ : MethodName)) hown (mvT hZ (ow hw 58 rfl)) (mvT hZ (ow hw 59 rfl)) (notFace_of_selects (args := #[]) (mvT hZ (ow hw 61 rfl))) (mvT hZ (ow hw 61 rfl)) (mvT hZ (ow hw 60 rfl)) (by decide) (backOf (W := 1) (rm_len1 l Z a0 hw [] w_instance w_A c_A zc a t kb c h0 n0 O0 hS E_a F_c F_v V_t) hZ (ow hw 62 rfl) (ow hw 6 rfl) (by decide) (by decide)) q2a q2c (g := (mkF mG 5 #[oa a] [(.ref a), (.int (1 : Int32))])) rfl (by rw [hml]; rfl) (Steps.refl _) (argsL := []) (rest := [(.int (1 : Int32))]) (lenOf pd_6 rfl) rfl (by show 2 * 0 + _ ≤ _; exact Nat.le_of_eq rfl) (hb yb d7_5) (fun _ _ => ⟨rfl, e1, (by decide : 0 + 0 ≤ _), (by decide : 0 + 0 ≤ _)⟩)
  dsimp only [Pt.U, Pt.locs, Pt.cells, Pt.slots] at X2 l2 y2 z2 st2 hQ2
  subst l2 y2 z2
  obtain ⟨rfl, N2q, e2⟩ := hQ2
  have N2 := Fr.app N1 N2q
  refine ob T2 (mkF mG 8 #[oa a] [(.int (1 : Int32)), (.int (1 : Int32))]) (fun _ kk => st2.trans kk) ?_
  refine ob T2 (mkF mG 11 #[oa a] []) (fun _ kk => XS.icmpNo X2.here hx rfl (hb yb d7_8) rfl (teq (by decide : (1 : Int32) = (1 : Int32))).2 kk) ?_
  refine ob T2 (mkF mG 12 #[oa a] [(.int (1 : Int32))]) (fun _ kk => XS.iconst X2.here hx rfl (hb yb d7_11) kk) ?_
  refine ob T2 (mkF mG 16 #[oa a] [(.int (1 : Int32))]) (fun _ kk => XS.goto X2.here hx rfl (pc0 := 12) (pc' := 16) rfl (hb yb d7_12) (by decide) (by decide) kk) ?_
  obtain ⟨fs, hr, hrun, hended, hW, hsame⟩ := X2.leave (v := some (.int (1 : Int32))) (fun h => by rw [Bd.returns] at h; cases h)
  refine oout (retN X2 hx (t := .boolean) Bd.returns (by simp) (hb yb d7_16) hr) hrun hended ⟨_, _, rfl, ?_, ⟨_, rfl⟩, hW, hsame.mono (by decide) (by decide)⟩
  show Q_rm_ib1W Z w_instance w_A c_A zc a t kb c h0 n0 _ T2.heap _
  rw [e2]
  exact ⟨rfl, N2, rfl⟩

theorem d7_15 : decode jdk_42_method_117_code 15 = .ok (.iconst 0, 1) := by decide +kernel
def Q_rm_ib1N (Z : State) (w_instance : Addr) (w_A : Addr) (c_A : Cell) (zc : Int32) (a : Addr) (t : Addr) (kb : ClassId) (c : Int32) (h0 : Heap) (n0 : Nat) (v : Option Value) (h : Heap) (L : List Loc) : Prop := v = some (.int (0 : Int32)) ∧ Fr n0 L ∧ h = h0
set_option maxRecDepth 65536 in
set_option maxHeartbeats 40000000 in
theorem rm_ib1N (l : Launch) (Z : State) (a0 : Array Value) (hw : ∀ d ∈ tables_1, d.before a0 Z = true) (ws : List Jvm.Cond) (w_instance : Addr) (w_A : Addr) (c_A : Cell) (zc : Int32) (a : Addr) (t : Addr) (kb : ClassId) (c : Int32) (h0 : Heap) (n0 : Nat) (O0 : Old Z n0 h0) (hS : St0 Z w_instance w_A c_A zc ) (E_a : Exa Z h0 a "java/lang/String") (F_c : Fld Z h0 a "java/lang/String" "coder" "B" (.int (0 : Int32))) (F_v : Fld Z h0 a "java/lang/String" "value" "[B" (.ref t)) (V_t : Arv Z h0 t kb .byte (1 : Int32) [(.int (c.toInt8.toInt32))] (.int (0 : Int32))) (rc : oRg c) (wc : oWs c = false) :
    MetFree l (⟨"java/lang/String", "isBlank", "()Z"⟩ : MethodName) (head1 (Jvm.Cond.code (⟨"java/lang/String", "isBlank", "()Z"⟩ : MethodName) jdk_42_method_117_code 1 (some .boolean) :: ws) ({ frames := 5, cells := 0, slots := 0, locals := 96 } : Room)) (fun aG UG => aG = #[(.ref a)] ∧ Z.Warmed39 UG.vm ∧ UG.heap = h0) (fun _ _ _ _ _ => True) (fun _ UG oG UG' => ∃ vG LG, oG = .returned vG ∧ Q_rm_ib1N Z w_instance w_A c_A zc a t kb c h0 n0 vG UG'.heap LG ∧ FrameEnd UG oG UG' LG ({ frames := 5, cells := 0, slots := 0, locals := 96 } : Room).cells ({ frames := 5, cells := 0, slots := 0, locals := 96 } : Room).slots) := by
  refine MetFree.of_bodySF (plainFor_of_name pn_0) hisR ?_
  intro pG eG sG mG rG bG fG cG s₁ Bd hml0 hP hK
  obtain ⟨rfl, hZ, hh⟩ := hP
  have hx := Bd.exec
  have yb := Bd.bytes
  have hml : cG.maxLocals = 1 := hml0
  have hown : sG.vm.findClass "java/lang/String" = some mG.cls := findClass_of_methodNamed Bd.named
  have hnm := (name_of_methodNamed Bd.named Bd.method).1
  have X0 : Stand pG l eG ({ frames := 5, cells := 0, slots := 0, locals := 96 } : Room) sG mG #[(.ref a)] bG fG cG s₁ [] 0 0 := Stand.of_body Bd
  have e0 : s₁.heap = h0 := by rw [← hh, Bd.state]; rfl
  have N0 := Fr.nil n0
  have K0 := Keep.refl h0 []
  obtain ⟨S_w_instance, E_w_instance, S_w_A, E_w_A, V_w_A, S_zc, hzc⟩ := (id hS : St0 Z w_instance w_A c_A zc )
  refine ostart (g' := (mkF mG 0 #[oa a] [])) (by first | (simp [entryFrame, mkF, argsToLocals, Value.category]; done) | rfl) ?_
  refine ob s₁ (mkF mG 1 #[oa a] [(.ref a)]) (fun _ kk => XS.aloadN X0.here hx rfl (hb yb d7_0) rfl rfl kk) ?_
  obtain ⟨cq1, q1a, q1b⟩ := E_a.cell
  obtain ⟨_, _, ⟨T1, L1, k1, n1⟩, -, X1, ⟨Lc1, hQ1, l1, y1, z1⟩, st1⟩ := X0.privateBack hx (y := (⟨"java/lang/String", "indexOfNonWhitespace", "()I"⟩ : MethodName)) hown (mvT hZ (ow hw 43 rfl)) (mvT hZ (ow hw 44 rfl)) (mvT hZ (ow hw 46 rfl)) (Cond.privateMethod_at (mvP hZ (ow hw 45 rfl) (args := #[]))) (mvT hZ (ow hw 47 rfl)) (by decide) (backOf (W := 0) (rm_six1N l Z a0 hw [] w_instance w_A c_A zc a t kb c h0 n0 O0 hS E_a F_c F_v V_t rc wc) hZ (ow hw 47 rfl) (ow hw 6 rfl) (by decide) (by decide)) (g := (mkF mG 1 #[oa a] [(.ref a)])) rfl (by rw [hml]; rfl) (Steps.refl _) (a := a) (by rw [e0]; exact q1a) q1b (argsL := []) (rest := []) (lenOf pd_6 rfl) rfl (by show 2 * 0 + _ ≤ _; exact Nat.le_of_eq rfl) (hb yb d7_1) (fun _ _ => ⟨rfl, e0, (by decide : 0 + 0 ≤ _), (by decide : 0 + 0 ≤ _)⟩)
  dsimp only [Pt.U, Pt.locs, Pt.cells, Pt.slots] at X1 l1 y1 z1 st1 hQ1
  subst l1 y1 z1
  obtain ⟨rfl, N1q, e1⟩ := hQ1
  have N1 := Fr.app N0 N1q
  refine ob T1 (mkF mG 4 #[oa a] [(.int (0 : Int32))]) (fun _ kk => st1.trans kk) ?_
  refine ob T1 (mkF mG 5 #[oa a] [(.ref a), (.int (0 : Int32))]) (fun _ kk => XS.aloadN X1.here hx rfl (hb yb d7_4) rfl rfl kk) ?_
  obtain ⟨cq2, kq2, q2a, q2b, q2c⟩ := isOf hZ e1 E_a
  obtain ⟨_, _, ⟨T2, L2, k2, n2⟩, -, X2, ⟨Lc2, hQ2, l2, y2, z2⟩, st2⟩ := X1.virtualBack hx (y := (⟨"java/lang/String", "length", "()I"⟩ : MethodName)) (z := (⟨"java/lang/String", "length", "()I"⟩ : MethodName)) hown (mvT hZ (ow hw 58 rfl)) (mvT hZ (ow hw 59 rfl)) (notFace_of_selects (args := #[]) (mvT hZ (ow hw 61 rfl))) (mvT hZ (ow hw 61 rfl)) (mvT hZ (ow hw 60 rfl)) (by decide) (backOf (W := 1) (rm_len1 l Z a0 hw [] w_instance w_A c_A zc a t kb c h0 n0 O0 hS E_a F_c F_v V_t) hZ (ow hw 62 rfl) (ow hw 6 rfl) (by decide) (by decide)) q2a q2c (g := (mkF mG 5 #[oa a] [(.ref a), (.int (0 : Int32))])) rfl (by rw [hml]; rfl) (Steps.refl _) (argsL := []) (rest := [(.int (0 : Int32))]) (lenOf pd_6 rfl) rfl (by show 2 * 0 + _ ≤ _; exact Nat.le_of_eq rfl) (hb yb d7_5) (fun _ _ => ⟨rfl, e1, (by decide : 0 + 0 ≤ _), (by decide : 0 + 0 ≤ _)⟩)
  dsimp only [Pt.U, Pt.locs, Pt.cells, Pt.slots] at X2 l2 y2 z2 st2 hQ2
  subst l2 y2 z2
  obtain ⟨rfl, N2q, e2⟩ := hQ2
  have N2 := Fr.app N1 N2q
  refine ob T2 (mkF mG 8 #[oa a] [(.int (1 : Int32)), (.int (0 : Int32))]) (fun _ kk => st2.trans kk) ?_
  refine ob T2 (mkF mG 15 #[oa a] []) (fun _ kk => XS.icmpYes X2.here hx rfl (pc0 := 8) (pc' := 15) rfl (hb yb d7_8) rfl (feq (by decide : ¬ ((0 : Int32) = (1 : Int32)))).2 (by decide) (by decide) kk) ?_
  refine ob T2 (mkF mG 16 #[oa a] [(.int (0 : Int32))]) (fun _ kk => XS.iconst X2.here hx rfl (hb yb d7_15) kk) ?_
  obtain ⟨fs, hr, hrun, hended, hW, hsame⟩ := X2.leave (v := some (.int (0 : Int32))) (fun h => by rw [Bd.returns] at h; cases h)
  refine oout (retN X2 hx (t := .boolean) Bd.returns (by simp) (hb yb d7_16) hr) hrun hended ⟨_, _, rfl, ?_, ⟨_, rfl⟩, hW, hsame.mono (by decide) (by decide)⟩
  show Q_rm_ib1N Z w_instance w_A c_A zc a t kb c h0 n0 _ T2.heap _
  rw [e2]
  exact ⟨rfl, N2, rfl⟩

def Q_rm_ib2N (Z : State) (w_instance : Addr) (w_A : Addr) (c_A : Cell) (zc : Int32) (a : Addr) (t : Addr) (kb : ClassId) (c : Int32) (d : Int32) (h0 : Heap) (n0 : Nat) (v : Option Value) (h : Heap) (L : List Loc) : Prop := v = some (.int (0 : Int32)) ∧ Fr n0 L ∧ h = h0
set_option maxRecDepth 65536 in
set_option maxHeartbeats 40000000 in
theorem rm_ib2N (l : Launch) (Z : State) (a0 : Array Value) (hw : ∀ d ∈ tables_1, d.before a0 Z = true) (ws : List Jvm.Cond) (w_instance : Addr) (w_A : Addr) (c_A : Cell) (zc : Int32) (a : Addr) (t : Addr) (kb : ClassId) (c : Int32) (d : Int32) (h0 : Heap) (n0 : Nat) (O0 : Old Z n0 h0) (hS : St0 Z w_instance w_A c_A zc ) (E_a : Exa Z h0 a "java/lang/String") (F_c : Fld Z h0 a "java/lang/String" "coder" "B" (.int (0 : Int32))) (F_v : Fld Z h0 a "java/lang/String" "value" "[B" (.ref t)) (V_t : Arv Z h0 t kb .byte (2 : Int32) [(.int (c.toInt8.toInt32)), (.int (d.toInt8.toInt32))] (.int (0 : Int32))) (rc : oRg c) (wc : oWs c = false) :
    MetFree l (⟨"java/lang/String", "isBlank", "()Z"⟩ : MethodName) (head1 (Jvm.Cond.code (⟨"java/lang/String", "isBlank", "()Z"⟩ : MethodName) jdk_42_method_117_code 1 (some .boolean) :: ws) ({ frames := 5, cells := 0, slots := 0, locals := 96 } : Room)) (fun aG UG => aG = #[(.ref a)] ∧ Z.Warmed39 UG.vm ∧ UG.heap = h0) (fun _ _ _ _ _ => True) (fun _ UG oG UG' => ∃ vG LG, oG = .returned vG ∧ Q_rm_ib2N Z w_instance w_A c_A zc a t kb c d h0 n0 vG UG'.heap LG ∧ FrameEnd UG oG UG' LG ({ frames := 5, cells := 0, slots := 0, locals := 96 } : Room).cells ({ frames := 5, cells := 0, slots := 0, locals := 96 } : Room).slots) := by
  refine MetFree.of_bodySF (plainFor_of_name pn_0) hisR ?_
  intro pG eG sG mG rG bG fG cG s₁ Bd hml0 hP hK
  obtain ⟨rfl, hZ, hh⟩ := hP
  have hx := Bd.exec
  have yb := Bd.bytes
  have hml : cG.maxLocals = 1 := hml0
  have hown : sG.vm.findClass "java/lang/String" = some mG.cls := findClass_of_methodNamed Bd.named
  have hnm := (name_of_methodNamed Bd.named Bd.method).1
  have X0 : Stand pG l eG ({ frames := 5, cells := 0, slots := 0, locals := 96 } : Room) sG mG #[(.ref a)] bG fG cG s₁ [] 0 0 := Stand.of_body Bd
  have e0 : s₁.heap = h0 := by rw [← hh, Bd.state]; rfl
  have N0 := Fr.nil n0
  have K0 := Keep.refl h0 []
  obtain ⟨S_w_instance, E_w_instance, S_w_A, E_w_A, V_w_A, S_zc, hzc⟩ := (id hS : St0 Z w_instance w_A c_A zc )
  refine ostart (g' := (mkF mG 0 #[oa a] [])) (by first | (simp [entryFrame, mkF, argsToLocals, Value.category]; done) | rfl) ?_
  refine ob s₁ (mkF mG 1 #[oa a] [(.ref a)]) (fun _ kk => XS.aloadN X0.here hx rfl (hb yb d7_0) rfl rfl kk) ?_
  obtain ⟨cq1, q1a, q1b⟩ := E_a.cell
  obtain ⟨_, _, ⟨T1, L1, k1, n1⟩, -, X1, ⟨Lc1, hQ1, l1, y1, z1⟩, st1⟩ := X0.privateBack hx (y := (⟨"java/lang/String", "indexOfNonWhitespace", "()I"⟩ : MethodName)) hown (mvT hZ (ow hw 43 rfl)) (mvT hZ (ow hw 44 rfl)) (mvT hZ (ow hw 46 rfl)) (Cond.privateMethod_at (mvP hZ (ow hw 45 rfl) (args := #[]))) (mvT hZ (ow hw 47 rfl)) (by decide) (backOf (W := 0) (rm_six2N l Z a0 hw [] w_instance w_A c_A zc a t kb c d h0 n0 O0 hS E_a F_c F_v V_t rc wc) hZ (ow hw 47 rfl) (ow hw 6 rfl) (by decide) (by decide)) (g := (mkF mG 1 #[oa a] [(.ref a)])) rfl (by rw [hml]; rfl) (Steps.refl _) (a := a) (by rw [e0]; exact q1a) q1b (argsL := []) (rest := []) (lenOf pd_6 rfl) rfl (by show 2 * 0 + _ ≤ _; exact Nat.le_of_eq rfl) (hb yb d7_1) (fun _ _ => ⟨rfl, e0, (by decide : 0 + 0 ≤ _), (by decide : 0 + 0 ≤ _)⟩)
  dsimp only [Pt.U, Pt.locs, Pt.cells, Pt.slots] at X1 l1 y1 z1 st1 hQ1
  subst l1 y1 z1
  obtain ⟨rfl, N1q, e1⟩ := hQ1
  have N1 := Fr.app N0 N1q
  refine ob T1 (mkF mG 4 #[oa a] [(.int (0 : Int32))]) (fun _ kk => st1.trans kk) ?_
  refine ob T1 (mkF mG 5 #[oa a] [(.ref a), (.int (0 : Int32))]) (fun _ kk => XS.aloadN X1.here hx rfl (hb yb d7_4) rfl rfl kk) ?_
  obtain ⟨cq2, kq2, q2a, q2b, q2c⟩ := isOf hZ e1 E_a
  obtain ⟨_, _, ⟨T2, L2, k2, n2⟩, -, X2, ⟨Lc2, hQ2, l2, y2, z2⟩, st2⟩ := X1.virtualBack hx (y := (⟨"java/lang/String", "length", "()I"⟩ : MethodName)) (z := (⟨"java/lang/String", "length", "()I"⟩ : MethodName)) hown (mvT hZ (ow hw 58 rfl)) (mvT hZ (ow hw 59 rfl)) (notFace_of_selects (args := #[]) (mvT hZ (ow hw 61 rfl))) (mvT hZ (ow hw 61 rfl)) (mvT hZ (ow hw 60 rfl)) (by decide) (backOf (W := 1) (rm_len2 l Z a0 hw [] w_instance w_A c_A zc a t kb c d h0 n0 O0 hS E_a F_c F_v V_t) hZ (ow hw 62 rfl) (ow hw 6 rfl) (by decide) (by decide)) q2a q2c (g := (mkF mG 5 #[oa a] [(.ref a), (.int (0 : Int32))])) rfl (by rw [hml]; rfl) (Steps.refl _) (argsL := []) (rest := [(.int (0 : Int32))]) (lenOf pd_6 rfl) rfl (by show 2 * 0 + _ ≤ _; exact Nat.le_of_eq rfl) (hb yb d7_5) (fun _ _ => ⟨rfl, e1, (by decide : 0 + 0 ≤ _), (by decide : 0 + 0 ≤ _)⟩)
  dsimp only [Pt.U, Pt.locs, Pt.cells, Pt.slots] at X2 l2 y2 z2 st2 hQ2
  subst l2 y2 z2
  obtain ⟨rfl, N2q, e2⟩ := hQ2
  have N2 := Fr.app N1 N2q
  refine ob T2 (mkF mG 8 #[oa a] [(.int (2 : Int32)), (.int (0 : Int32))]) (fun _ kk => st2.trans kk) ?_
  refine ob T2 (mkF mG 15 #[oa a] []) (fun _ kk => XS.icmpYes X2.here hx rfl (pc0 := 8) (pc' := 15) rfl (hb yb d7_8) rfl (feq (by decide : ¬ ((0 : Int32) = (2 : Int32)))).2 (by decide) (by decide) kk) ?_
  refine ob T2 (mkF mG 16 #[oa a] [(.int (0 : Int32))]) (fun _ kk => XS.iconst X2.here hx rfl (hb yb d7_15) kk) ?_
  obtain ⟨fs, hr, hrun, hended, hW, hsame⟩ := X2.leave (v := some (.int (0 : Int32))) (fun h => by rw [Bd.returns] at h; cases h)
  refine oout (retN X2 hx (t := .boolean) Bd.returns (by simp) (hb yb d7_16) hr) hrun hended ⟨_, _, rfl, ?_, ⟨_, rfl⟩, hW, hsame.mono (by decide) (by decide)⟩
  show Q_rm_ib2N Z w_instance w_A c_A zc a t kb c d h0 n0 _ T2.heap _
  rw [e2]
  exact ⟨rfl, N2, rfl⟩

def Q_rm_ib2WN (Z : State) (w_instance : Addr) (w_A : Addr) (c_A : Cell) (zc : Int32) (a : Addr) (t : Addr) (kb : ClassId) (c : Int32) (d : Int32) (h0 : Heap) (n0 : Nat) (v : Option Value) (h : Heap) (L : List Loc) : Prop := v = some (.int (0 : Int32)) ∧ Fr n0 L ∧ h = h0
set_option maxRecDepth 65536 in
set_option maxHeartbeats 40000000 in
theorem rm_ib2WN (l : Launch) (Z : State) (a0 : Array Value) (hw : ∀ d ∈ tables_1, d.before a0 Z = true) (ws : List Jvm.Cond) (w_instance : Addr) (w_A : Addr) (c_A : Cell) (zc : Int32) (a : Addr) (t : Addr) (kb : ClassId) (c : Int32) (d : Int32) (h0 : Heap) (n0 : Nat) (O0 : Old Z n0 h0) (hS : St0 Z w_instance w_A c_A zc ) (E_a : Exa Z h0 a "java/lang/String") (F_c : Fld Z h0 a "java/lang/String" "coder" "B" (.int (0 : Int32))) (F_v : Fld Z h0 a "java/lang/String" "value" "[B" (.ref t)) (V_t : Arv Z h0 t kb .byte (2 : Int32) [(.int (c.toInt8.toInt32)), (.int (d.toInt8.toInt32))] (.int (0 : Int32))) (rc : oRg c) (rd : oRg d) (wc : oWs c = true) (wd : oWs d = false) :
    MetFree l (⟨"java/lang/String", "isBlank", "()Z"⟩ : MethodName) (head1 (Jvm.Cond.code (⟨"java/lang/String", "isBlank", "()Z"⟩ : MethodName) jdk_42_method_117_code 1 (some .boolean) :: ws) ({ frames := 5, cells := 0, slots := 0, locals := 96 } : Room)) (fun aG UG => aG = #[(.ref a)] ∧ Z.Warmed39 UG.vm ∧ UG.heap = h0) (fun _ _ _ _ _ => True) (fun _ UG oG UG' => ∃ vG LG, oG = .returned vG ∧ Q_rm_ib2WN Z w_instance w_A c_A zc a t kb c d h0 n0 vG UG'.heap LG ∧ FrameEnd UG oG UG' LG ({ frames := 5, cells := 0, slots := 0, locals := 96 } : Room).cells ({ frames := 5, cells := 0, slots := 0, locals := 96 } : Room).slots) := by
  refine MetFree.of_bodySF (plainFor_of_name pn_0) hisR ?_
  intro pG eG sG mG rG bG fG cG s₁ Bd hml0 hP hK
  obtain ⟨rfl, hZ, hh⟩ := hP
  have hx := Bd.exec
  have yb := Bd.bytes
  have hml : cG.maxLocals = 1 := hml0
  have hown : sG.vm.findClass "java/lang/String" = some mG.cls := findClass_of_methodNamed Bd.named
  have hnm := (name_of_methodNamed Bd.named Bd.method).1
  have X0 : Stand pG l eG ({ frames := 5, cells := 0, slots := 0, locals := 96 } : Room) sG mG #[(.ref a)] bG fG cG s₁ [] 0 0 := Stand.of_body Bd
  have e0 : s₁.heap = h0 := by rw [← hh, Bd.state]; rfl
  have N0 := Fr.nil n0
  have K0 := Keep.refl h0 []
  obtain ⟨S_w_instance, E_w_instance, S_w_A, E_w_A, V_w_A, S_zc, hzc⟩ := (id hS : St0 Z w_instance w_A c_A zc )
  refine ostart (g' := (mkF mG 0 #[oa a] [])) (by first | (simp [entryFrame, mkF, argsToLocals, Value.category]; done) | rfl) ?_
  refine ob s₁ (mkF mG 1 #[oa a] [(.ref a)]) (fun _ kk => XS.aloadN X0.here hx rfl (hb yb d7_0) rfl rfl kk) ?_
  obtain ⟨cq1, q1a, q1b⟩ := E_a.cell
  obtain ⟨_, _, ⟨T1, L1, k1, n1⟩, -, X1, ⟨Lc1, hQ1, l1, y1, z1⟩, st1⟩ := X0.privateBack hx (y := (⟨"java/lang/String", "indexOfNonWhitespace", "()I"⟩ : MethodName)) hown (mvT hZ (ow hw 43 rfl)) (mvT hZ (ow hw 44 rfl)) (mvT hZ (ow hw 46 rfl)) (Cond.privateMethod_at (mvP hZ (ow hw 45 rfl) (args := #[]))) (mvT hZ (ow hw 47 rfl)) (by decide) (backOf (W := 0) (rm_six2WN l Z a0 hw [] w_instance w_A c_A zc a t kb c d h0 n0 O0 hS E_a F_c F_v V_t rc rd wc wd) hZ (ow hw 47 rfl) (ow hw 6 rfl) (by decide) (by decide)) (g := (mkF mG 1 #[oa a] [(.ref a)])) rfl (by rw [hml]; rfl) (Steps.refl _) (a := a) (by rw [e0]; exact q1a) q1b (argsL := []) (rest := []) (lenOf pd_6 rfl) rfl (by show 2 * 0 + _ ≤ _; exact Nat.le_of_eq rfl) (hb yb d7_1) (fun _ _ => ⟨rfl, e0, (by decide : 0 + 0 ≤ _), (by decide : 0 + 0 ≤ _)⟩)
  dsimp only [Pt.U, Pt.locs, Pt.cells, Pt.slots] at X1 l1 y1 z1 st1 hQ1
  subst l1 y1 z1
  obtain ⟨rfl, N1q, e1⟩ := hQ1
  have N1 := Fr.app N0 N1q
  refine ob T1 (mkF mG 4 #[oa a] [(.int (1 : Int32))]) (fun _ kk => st1.trans kk) ?_
  refine ob T1 (mkF mG 5 #[oa a] [(.ref a), (.int (1 : Int32))]) (fun _ kk => XS.aloadN X1.here hx rfl (hb yb d7_4) rfl rfl kk) ?_
  obtain ⟨cq2, kq2, q2a, q2b, q2c⟩ := isOf hZ e1 E_a
  obtain ⟨_, _, ⟨T2, L2, k2, n2⟩, -, X2, ⟨Lc2, hQ2, l2, y2, z2⟩, st2⟩ := X1.virtualBack hx (y := (⟨"java/lang/String", "length", "()I"⟩ : MethodName)) (z := (⟨"java/lang/String", "length", "()I"⟩ : MethodName)) hown (mvT hZ (ow hw 58 rfl)) (mvT hZ (ow hw 59 rfl)) (notFace_of_selects (args := #[]) (mvT hZ (ow hw 61 rfl))) (mvT hZ (ow hw 61 rfl)) (mvT hZ (ow hw 60 rfl)) (by decide) (backOf (W := 1) (rm_len2 l Z a0 hw [] w_instance w_A c_A zc a t kb c d h0 n0 O0 hS E_a F_c F_v V_t) hZ (ow hw 62 rfl) (ow hw 6 rfl) (by decide) (by decide)) q2a q2c (g := (mkF mG 5 #[oa a] [(.ref a), (.int (1 : Int32))])) rfl (by rw [hml]; rfl) (Steps.refl _) (argsL := []) (rest := [(.int (1 : Int32))]) (lenOf pd_6 rfl) rfl (by show 2 * 0 + _ ≤ _; exact Nat.le_of_eq rfl) (hb yb d7_5) (fun _ _ => ⟨rfl, e1, (by decide : 0 + 0 ≤ _), (by decide : 0 + 0 ≤ _)⟩)
  dsimp only [Pt.U, Pt.locs, Pt.cells, Pt.slots] at X2 l2 y2 z2 st2 hQ2
  subst l2 y2 z2
  obtain ⟨rfl, N2q, e2⟩ := hQ2
  have N2 := Fr.app N1 N2q
  refine ob T2 (mkF mG 8 #[oa a] [(.int (2 : Int32)), (.int (1 : Int32))]) (fun _ kk => st2.trans kk) ?_
  refine ob T2 (mkF mG 15 #[oa a] []) (fun _ kk => XS.icmpYes X2.here hx rfl (pc0 := 8) (pc' := 15) rfl (hb yb d7_8) rfl (feq (by decide : ¬ ((1 : Int32) = (2 : Int32)))).2 (by decide) (by decide) kk) ?_
  refine ob T2 (mkF mG 16 #[oa a] [(.int (0 : Int32))]) (fun _ kk => XS.iconst X2.here hx rfl (hb yb d7_15) kk) ?_
  obtain ⟨fs, hr, hrun, hended, hW, hsame⟩ := X2.leave (v := some (.int (0 : Int32))) (fun h => by rw [Bd.returns] at h; cases h)
  refine oout (retN X2 hx (t := .boolean) Bd.returns (by simp) (hb yb d7_16) hr) hrun hended ⟨_, _, rfl, ?_, ⟨_, rfl⟩, hW, hsame.mono (by decide) (by decide)⟩
  show Q_rm_ib2WN Z w_instance w_A c_A zc a t kb c d h0 n0 _ T2.heap _
  rw [e2]
  exact ⟨rfl, N2, rfl⟩

def Q_rm_ib2WW (Z : State) (w_instance : Addr) (w_A : Addr) (c_A : Cell) (zc : Int32) (a : Addr) (t : Addr) (kb : ClassId) (c : Int32) (d : Int32) (h0 : Heap) (n0 : Nat) (v : Option Value) (h : Heap) (L : List Loc) : Prop := v = some (.int (1 : Int32)) ∧ Fr n0 L ∧ h = h0
set_option maxRecDepth 65536 in
set_option maxHeartbeats 40000000 in
theorem rm_ib2WW (l : Launch) (Z : State) (a0 : Array Value) (hw : ∀ d ∈ tables_1, d.before a0 Z = true) (ws : List Jvm.Cond) (w_instance : Addr) (w_A : Addr) (c_A : Cell) (zc : Int32) (a : Addr) (t : Addr) (kb : ClassId) (c : Int32) (d : Int32) (h0 : Heap) (n0 : Nat) (O0 : Old Z n0 h0) (hS : St0 Z w_instance w_A c_A zc ) (E_a : Exa Z h0 a "java/lang/String") (F_c : Fld Z h0 a "java/lang/String" "coder" "B" (.int (0 : Int32))) (F_v : Fld Z h0 a "java/lang/String" "value" "[B" (.ref t)) (V_t : Arv Z h0 t kb .byte (2 : Int32) [(.int (c.toInt8.toInt32)), (.int (d.toInt8.toInt32))] (.int (0 : Int32))) (rc : oRg c) (rd : oRg d) (wc : oWs c = true) (wd : oWs d = true) :
    MetFree l (⟨"java/lang/String", "isBlank", "()Z"⟩ : MethodName) (head1 (Jvm.Cond.code (⟨"java/lang/String", "isBlank", "()Z"⟩ : MethodName) jdk_42_method_117_code 1 (some .boolean) :: ws) ({ frames := 5, cells := 0, slots := 0, locals := 96 } : Room)) (fun aG UG => aG = #[(.ref a)] ∧ Z.Warmed39 UG.vm ∧ UG.heap = h0) (fun _ _ _ _ _ => True) (fun _ UG oG UG' => ∃ vG LG, oG = .returned vG ∧ Q_rm_ib2WW Z w_instance w_A c_A zc a t kb c d h0 n0 vG UG'.heap LG ∧ FrameEnd UG oG UG' LG ({ frames := 5, cells := 0, slots := 0, locals := 96 } : Room).cells ({ frames := 5, cells := 0, slots := 0, locals := 96 } : Room).slots) := by
  refine MetFree.of_bodySF (plainFor_of_name pn_0) hisR ?_
  intro pG eG sG mG rG bG fG cG s₁ Bd hml0 hP hK
  obtain ⟨rfl, hZ, hh⟩ := hP
  have hx := Bd.exec
  have yb := Bd.bytes
  have hml : cG.maxLocals = 1 := hml0
  have hown : sG.vm.findClass "java/lang/String" = some mG.cls := findClass_of_methodNamed Bd.named
  have hnm := (name_of_methodNamed Bd.named Bd.method).1
  have X0 : Stand pG l eG ({ frames := 5, cells := 0, slots := 0, locals := 96 } : Room) sG mG #[(.ref a)] bG fG cG s₁ [] 0 0 := Stand.of_body Bd
  have e0 : s₁.heap = h0 := by rw [← hh, Bd.state]; rfl
  have N0 := Fr.nil n0
  have K0 := Keep.refl h0 []
  obtain ⟨S_w_instance, E_w_instance, S_w_A, E_w_A, V_w_A, S_zc, hzc⟩ := (id hS : St0 Z w_instance w_A c_A zc )
  refine ostart (g' := (mkF mG 0 #[oa a] [])) (by first | (simp [entryFrame, mkF, argsToLocals, Value.category]; done) | rfl) ?_
  refine ob s₁ (mkF mG 1 #[oa a] [(.ref a)]) (fun _ kk => XS.aloadN X0.here hx rfl (hb yb d7_0) rfl rfl kk) ?_
  obtain ⟨cq1, q1a, q1b⟩ := E_a.cell
  obtain ⟨_, _, ⟨T1, L1, k1, n1⟩, -, X1, ⟨Lc1, hQ1, l1, y1, z1⟩, st1⟩ := X0.privateBack hx (y := (⟨"java/lang/String", "indexOfNonWhitespace", "()I"⟩ : MethodName)) hown (mvT hZ (ow hw 43 rfl)) (mvT hZ (ow hw 44 rfl)) (mvT hZ (ow hw 46 rfl)) (Cond.privateMethod_at (mvP hZ (ow hw 45 rfl) (args := #[]))) (mvT hZ (ow hw 47 rfl)) (by decide) (backOf (W := 0) (rm_six2WW l Z a0 hw [] w_instance w_A c_A zc a t kb c d h0 n0 O0 hS E_a F_c F_v V_t rc rd wc wd) hZ (ow hw 47 rfl) (ow hw 6 rfl) (by decide) (by decide)) (g := (mkF mG 1 #[oa a] [(.ref a)])) rfl (by rw [hml]; rfl) (Steps.refl _) (a := a) (by rw [e0]; exact q1a) q1b (argsL := []) (rest := []) (lenOf pd_6 rfl) rfl (by show 2 * 0 + _ ≤ _; exact Nat.le_of_eq rfl) (hb yb d7_1) (fun _ _ => ⟨rfl, e0, (by decide : 0 + 0 ≤ _), (by decide : 0 + 0 ≤ _)⟩)
  dsimp only [Pt.U, Pt.locs, Pt.cells, Pt.slots] at X1 l1 y1 z1 st1 hQ1
  subst l1 y1 z1
  obtain ⟨rfl, N1q, e1⟩ := hQ1
  have N1 := Fr.app N0 N1q
  refine ob T1 (mkF mG 4 #[oa a] [(.int (2 : Int32))]) (fun _ kk => st1.trans kk) ?_
  refine ob T1 (mkF mG 5 #[oa a] [(.ref a), (.int (2 : Int32))]) (fun _ kk => XS.aloadN X1.here hx rfl (hb yb d7_4) rfl rfl kk) ?_
  obtain ⟨cq2, kq2, q2a, q2b, q2c⟩ := isOf hZ e1 E_a
  obtain ⟨_, _, ⟨T2, L2, k2, n2⟩, -, X2, ⟨Lc2, hQ2, l2, y2, z2⟩, st2⟩ := X1.virtualBack hx (y := (⟨"java/lang/String", "length", "()I"⟩ : MethodName)) (z := (⟨"java/lang/String", "length", "()I"⟩ : MethodName)) hown (mvT hZ (ow hw 58 rfl)) (mvT hZ (ow hw 59 rfl)) (notFace_of_selects (args := #[]) (mvT hZ (ow hw 61 rfl))) (mvT hZ (ow hw 61 rfl)) (mvT hZ (ow hw 60 rfl)) (by decide) (backOf (W := 1) (rm_len2 l Z a0 hw [] w_instance w_A c_A zc a t kb c d h0 n0 O0 hS E_a F_c F_v V_t) hZ (ow hw 62 rfl) (ow hw 6 rfl) (by decide) (by decide)) q2a q2c (g := (mkF mG 5 #[oa a] [(.ref a), (.int (2 : Int32))])) rfl (by rw [hml]; rfl) (Steps.refl _) (argsL := []) (rest := [(.int (2 : Int32))]) (lenOf pd_6 rfl) rfl (by show 2 * 0 + _ ≤ _; exact Nat.le_of_eq rfl) (hb yb d7_5) (fun _ _ => ⟨rfl, e1, (by decide : 0 + 0 ≤ _), (by decide : 0 + 0 ≤ _)⟩)
  dsimp only [Pt.U, Pt.locs, Pt.cells, Pt.slots] at X2 l2 y2 z2 st2 hQ2
  subst l2 y2 z2
  obtain ⟨rfl, N2q, e2⟩ := hQ2
  have N2 := Fr.app N1 N2q
  refine ob T2 (mkF mG 8 #[oa a] [(.int (2 : Int32)), (.int (2 : Int32))]) (fun _ kk => st2.trans kk) ?_
  refine ob T2 (mkF mG 11 #[oa a] []) (fun _ kk => XS.icmpNo X2.here hx rfl (hb yb d7_8) rfl (teq (by decide : (2 : Int32) = (2 : Int32))).2 kk) ?_
  refine ob T2 (mkF mG 12 #[oa a] [(.int (1 : Int32))]) (fun _ kk => XS.iconst X2.here hx rfl (hb yb d7_11) kk) ?_
  refine ob T2 (mkF mG 16 #[oa a] [(.int (1 : Int32))]) (fun _ kk => XS.goto X2.here hx rfl (pc0 := 12) (pc' := 16) rfl (hb yb d7_12) (by decide) (by decide) kk) ?_
  obtain ⟨fs, hr, hrun, hended, hW, hsame⟩ := X2.leave (v := some (.int (1 : Int32))) (fun h => by rw [Bd.returns] at h; cases h)
  refine oout (retN X2 hx (t := .boolean) Bd.returns (by simp) (hb yb d7_16) hr) hrun hended ⟨_, _, rfl, ?_, ⟨_, rfl⟩, hW, hsame.mono (by decide) (by decide)⟩
  show Q_rm_ib2WW Z w_instance w_A c_A zc a t kb c d h0 n0 _ T2.heap _
  rw [e2]
  exact ⟨rfl, N2, rfl⟩

def Q_rm_ibT (Z : State) (w_instance : Addr) (w_A : Addr) (c_A : Cell) (zc : Int32) (a : Addr) (h0 : Heap) (n0 : Nat) (v : Option Value) (h : Heap) (L : List Loc) : Prop := v = some (.int (1 : Int32)) ∧ Fr n0 L ∧ h = h0
set_option maxRecDepth 65536 in
set_option maxHeartbeats 40000000 in
theorem rm_ibT (l : Launch) (Z : State) (a0 : Array Value) (hw : ∀ d ∈ tables_1, d.before a0 Z = true) (ws : List Jvm.Cond) (w_instance : Addr) (w_A : Addr) (c_A : Cell) (zc : Int32) (a : Addr) (h0 : Heap) (n0 : Nat) (O0 : Old Z n0 h0) (hS : St0 Z w_instance w_A c_A zc ) (S_a : oS Z h0 a true) :
    MetFree l (⟨"java/lang/String", "isBlank", "()Z"⟩ : MethodName) (head1 (Jvm.Cond.code (⟨"java/lang/String", "isBlank", "()Z"⟩ : MethodName) jdk_42_method_117_code 1 (some .boolean) :: ws) ({ frames := 5, cells := 0, slots := 0, locals := 96 } : Room)) (fun aG UG => aG = #[(.ref a)] ∧ Z.Warmed39 UG.vm ∧ UG.heap = h0) (fun _ _ _ _ _ => True) (fun _ UG oG UG' => ∃ vG LG, oG = .returned vG ∧ Q_rm_ibT Z w_instance w_A c_A zc a h0 n0 vG UG'.heap LG ∧ FrameEnd UG oG UG' LG ({ frames := 5, cells := 0, slots := 0, locals := 96 } : Room).cells ({ frames := 5, cells := 0, slots := 0, locals := 96 } : Room).slots) := by
  obtain ⟨E, C, t, kb, V, ⟨A, -⟩ | ⟨c, hc, A, hb⟩ | ⟨c, d, hc, hd, A, hb⟩⟩ := S_a
  · exact rm_ib0 l Z a0 hw ws w_instance w_A c_A zc a t kb h0 n0 O0 hS E C V A
  · exact rm_ib1W l Z a0 hw ws w_instance w_A c_A zc a t kb c h0 n0 O0 hS E C V A hc hb.symm
  · obtain ⟨h1, h2⟩ := Bool.and_eq_true_iff.mp hb.symm
    exact rm_ib2WW l Z a0 hw ws w_instance w_A c_A zc a t kb c d h0 n0 O0 hS E C V A hc hd h1 h2

def Q_rm_ibF (Z : State) (w_instance : Addr) (w_A : Addr) (c_A : Cell) (zc : Int32) (a : Addr) (h0 : Heap) (n0 : Nat) (v : Option Value) (h : Heap) (L : List Loc) : Prop := v = some (.int (0 : Int32)) ∧ Fr n0 L ∧ h = h0
set_option maxRecDepth 65536 in
set_option maxHeartbeats 40000000 in
theorem rm_ibF (l : Launch) (Z : State) (a0 : Array Value) (hw : ∀ d ∈ tables_1, d.before a0 Z = true) (ws : List Jvm.Cond) (w_instance : Addr) (w_A : Addr) (c_A : Cell) (zc : Int32) (a : Addr) (h0 : Heap) (n0 : Nat) (O0 : Old Z n0 h0) (hS : St0 Z w_instance w_A c_A zc ) (S_a : oS Z h0 a false) :
    MetFree l (⟨"java/lang/String", "isBlank", "()Z"⟩ : MethodName) (head1 (Jvm.Cond.code (⟨"java/lang/String", "isBlank", "()Z"⟩ : MethodName) jdk_42_method_117_code 1 (some .boolean) :: ws) ({ frames := 5, cells := 0, slots := 0, locals := 96 } : Room)) (fun aG UG => aG = #[(.ref a)] ∧ Z.Warmed39 UG.vm ∧ UG.heap = h0) (fun _ _ _ _ _ => True) (fun _ UG oG UG' => ∃ vG LG, oG = .returned vG ∧ Q_rm_ibF Z w_instance w_A c_A zc a h0 n0 vG UG'.heap LG ∧ FrameEnd UG oG UG' LG ({ frames := 5, cells := 0, slots := 0, locals := 96 } : Room).cells ({ frames := 5, cells := 0, slots := 0, locals := 96 } : Room).slots) := by
  obtain ⟨E, C, t, kb, V, ⟨A, q⟩ | ⟨c, hc, A, hb⟩ | ⟨c, d, hc, hd, A, hb⟩⟩ := S_a
  · cases q
  · exact rm_ib1N l Z a0 hw ws w_instance w_A c_A zc a t kb c h0 n0 O0 hS E C V A hc hb.symm
  · cases h1 : oWs c with
    | false => exact rm_ib2N l Z a0 hw ws w_instance w_A c_A zc a t kb c d h0 n0 O0 hS E C V A hc h1
    | true =>
      rw [h1, Bool.true_and] at hb
      exact rm_ib2WN l Z a0 hw ws w_instance w_A c_A zc a t kb c d h0 n0 O0 hS E C V A hc hd h1 hb.symm

theorem d29_0 : decode jdk_42_method_151_code 0 = .ok (.aload_n 0, 1) := by decide +kernel
theorem d29_1 : decode jdk_42_method_151_code 1 = .ok (.invokespecial 1, 3) := by decide +kernel
theorem d29_4 : decode jdk_42_method_151_code 4 = .ok (.aload_n 0, 1) := by decide +kernel
theorem d29_5 : decode jdk_42_method_151_code 5 = .ok (.aload_n 1, 1) := by decide +kernel
theorem d29_6 : decode jdk_42_method_151_code 6 = .ok (.putfield 9, 3) := by decide +kernel
theorem d29_9 : decode jdk_42_method_151_code 9 = .ok (.aload_n 0, 1) := by decide +kernel
theorem d29_10 : decode jdk_42_method_151_code 10 = .ok (.iload_n 2, 1) := by decide +kernel
theorem d29_11 : decode jdk_42_method_151_code 11 = .ok (.putfield 15, 3) := by decide +kernel
theorem d29_14 : decode jdk_42_method_151_code 14 = .ok (.return_, 1) := by decide +kernel
def Q_rm_bbi (Z : State) (w_instance : Addr) (w_A : Addr) (c_A : Cell) (zc : Int32) (a : Addr) (o : Addr) (u0 : Value) (u1 : Value) (h0 : Heap) (n0 : Nat) (v : Option Value) (h : Heap) (L : List Loc) : Prop := v = none ∧ Fr n0 L ∧ Keep h0 h [a] ∧ Old Z n0 h ∧ Fld Z h a "java/lang/String" "value" "[B" (.ref o) ∧ Fld Z h a "java/lang/String" "coder" "B" (.int (0 : Int32))
set_option maxRecDepth 65536 in
set_option maxHeartbeats 40000000 in
theorem rm_bbi (l : Launch) (Z : State) (a0 : Array Value) (hw : ∀ d ∈ tables_1, d.before a0 Z = true) (ws : List Jvm.Cond) (w_instance : Addr) (w_A : Addr) (c_A : Cell) (zc : Int32) (a : Addr) (o : Addr) (u0 : Value) (u1 : Value) (h0 : Heap) (n0 : Nat) (O0 : Old Z n0 h0) (hS : St0 Z w_instance w_A c_A zc ) (E_a : Exa Z h0 a "java/lang/String") (F_0 : Fld Z h0 a "java/lang/String" "value" "[B" u0) (F_1 : Fld Z h0 a "java/lang/String" "coder" "B" u1) (n_a : n0 ≤ a) :
    MetFree l (⟨"java/lang/String", "<init>", "([BB)V"⟩ : MethodName) (head1 (Jvm.Cond.code (⟨"java/lang/String", "<init>", "([BB)V"⟩ : MethodName) jdk_42_method_151_code 3 none :: ws) ({ frames := 1, cells := 0, slots := 0, locals := 12 } : Room)) (fun aG UG => aG = #[(.ref a), (.ref o), (.int (0 : Int32))] ∧ Z.Warmed39 UG.vm ∧ UG.heap = h0) (fun _ _ _ _ _ => True) (fun _ UG oG UG' => ∃ vG LG, oG = .returned vG ∧ Q_rm_bbi Z w_instance w_A c_A zc a o u0 u1 h0 n0 vG UG'.heap LG ∧ FrameEnd UG oG UG' LG ({ frames := 1, cells := 0, slots := 0, locals := 12 } : Room).cells ({ frames := 1, cells := 0, slots := 0, locals := 12 } : Room).slots) := by
  refine MetFree.of_bodySF (plainFor_of_name pn_0) hisR ?_
  intro pG eG sG mG rG bG fG cG s₁ Bd hml0 hP hK
  obtain ⟨rfl, hZ, hh⟩ := hP
  have hx := Bd.exec
  have yb := Bd.bytes
  have hml : cG.maxLocals = 3 := hml0
  have hown : sG.vm.findClass "java/lang/String" = some mG.cls := findClass_of_methodNamed Bd.named
  have hnm := (name_of_methodNamed Bd.named Bd.method).1
  have X0 : Stand pG l eG ({ frames := 1, cells := 0, slots := 0, locals := 12 } : Room) sG mG #[(.ref a), (.ref o), (.int (0 : Int32))] bG fG cG s₁ [] 0 0 := Stand.of_body Bd
  have e0 : s₁.heap = h0 := by rw [← hh, Bd.state]; rfl
  have N0 := Fr.nil n0
  have K0 := Keep.refl h0 [a]
  obtain ⟨S_w_instance, E_w_instance, S_w_A, E_w_A, V_w_A, S_zc, hzc⟩ := (id hS : St0 Z w_instance w_A c_A zc )
  refine ostart (g' := (mkF mG 0 #[oa a, oa o, oi (0 : Int32)] [])) (by first | (simp [entryFrame, mkF, argsToLocals, Value.category]; done) | rfl) ?_
  refine ob s₁ (mkF mG 1 #[oa a, oa o, oi (0 : Int32)] [(.ref a)]) (fun _ kk => XS.aloadN X0.here hx rfl (hb yb d29_0) rfl rfl kk) ?_
  obtain ⟨T1, X1, e1, st1⟩ := initO X0 hx hZ hown (ow hw 15 rfl) (ow hw 16 rfl) (ow hw 17 rfl) e0 (g := (mkF mG 1 #[oa a, oa o, oi (0 : Int32)] [(.ref a)])) rfl (by rw [hml]; rfl) rfl (hb yb d29_1) (by decide) (W := 0) (by show 2 * 0 + _ ≤ _; exact Nat.le_of_eq rfl) (by decide)
  refine ob T1 (mkF mG 4 #[oa a, oa o, oi (0 : Int32)] []) (fun _ kk => st1 _ kk) ?_
  refine ob T1 (mkF mG 5 #[oa a, oa o, oi (0 : Int32)] [(.ref a)]) (fun _ kk => XS.aloadN X1.here hx rfl (hb yb d29_4) rfl rfl kk) ?_
  refine ob T1 (mkF mG 6 #[oa a, oa o, oi (0 : Int32)] [(.ref o), (.ref a)]) (fun _ kk => XS.aloadN X1.here hx rfl (hb yb d29_5) rfl rfl kk) ?_
  obtain ⟨T2, h2, X2, e2, W2, st2⟩ := putF X1 hx hZ hown (host := "") (Or.inl (ow hw 24 rfl)) Via.refl e1 F_0 E_a (Or.inr ⟨(ow hw 20 rfl), rfl, hnm⟩) (ow hw 5 rfl) (ty := (.array .byte)) (by decide) rfl rfl (g := (mkF mG 6 #[oa a, oa o, oi (0 : Int32)] [(.ref o), (.ref a)])) rfl rfl (hb yb d29_6)
  have F2 := F_0.same W2
  have O2 := O0.wr W2 n_a
  have K2 := K0.wr W2 (Or.inl (List.mem_of_getElem? (i := 0) rfl))
  have N2 := Fr.snoc X2 N0 n_a
  refine ob T2 (mkF mG 9 #[oa a, oa o, oi (0 : Int32)] []) (fun _ kk => st2 _ kk) ?_
  refine ob T2 (mkF mG 10 #[oa a, oa o, oi (0 : Int32)] [(.ref a)]) (fun _ kk => XS.aloadN X2.here hx rfl (hb yb d29_9) rfl rfl kk) ?_
  refine ob T2 (mkF mG 11 #[oa a, oa o, oi (0 : Int32)] [(.int (0 : Int32)), (.ref a)]) (fun _ kk => XS.iloadN X2.here hx rfl (hb yb d29_10) rfl kk) ?_
  obtain ⟨T3, h3, X3, e3, W3, st3⟩ := putFN X2 hx hZ hown (ow hw 25 rfl) Via.refl e2 (F_1.other W2 (Or.inr (slot_ne (Or.inr (ow hw 21 rfl)) (Or.inr (ow hw 20 rfl)) (by decide) (t := .byte) (t' := (.array .byte)) (by decide) (by decide)))) (E_a.wr W2) (Or.inr ⟨(ow hw 21 rfl), rfl, hnm⟩) (ow hw 5 rfl) (ty := .byte) (v' := (.int (0 : Int32))) (by decide) rfl rfl (g := (mkF mG 11 #[oa a, oa o, oi (0 : Int32)] [(.int (0 : Int32)), (.ref a)])) rfl rfl (hb yb d29_11)
  have F3 := (F_1.other W2 (Or.inr (slot_ne (Or.inr (ow hw 21 rfl)) (Or.inr (ow hw 20 rfl)) (by decide) (t := .byte) (t' := (.array .byte)) (by decide) (by decide)))).same W3
  have O3 := O2.wr W3 n_a
  have K3 := K2.wr W3 (Or.inl (List.mem_of_getElem? (i := 0) rfl))
  have N3 := Fr.snoc X3 N2 n_a
  refine ob T3 (mkF mG 14 #[oa a, oa o, oi (0 : Int32)] []) (fun _ kk => st3 _ kk) ?_
  obtain ⟨fs, hr, hrun, hended, hW, hsame⟩ := X3.leave (v := none) (fun _ => rfl)
  refine oout (X3.returnOut hx Bd.returns (hb yb d29_14) hr) hrun hended ⟨_, _, rfl, ?_, ⟨_, rfl⟩, hW, hsame.mono (by decide) (by decide)⟩
  show Q_rm_bbi Z w_instance w_A c_A zc a o u0 u1 h0 n0 _ T3.heap _
  rw [e3]
  exact ⟨rfl, N3, K3, O3, (F2.other W3 (Or.inr (slot_ne (Or.inr (ow hw 20 rfl)) (Or.inr (ow hw 21 rfl)) (by decide) (t := (.array .byte)) (t' := .byte) (by decide) (by decide)))), F3⟩

theorem d27_0 : decode jdk_65_method_131_code 0 = .ok (.iload_n 1, 1) := by decide +kernel
theorem d27_1 : decode jdk_65_method_131_code 1 = .ok (.iload_n 0, 1) := by decide +kernel
theorem d27_2 : decode jdk_65_method_131_code 2 = .ok (.if_icmp .ge 35, 3) := by decide +kernel
theorem d27_37 : decode jdk_65_method_131_code 37 = .ok (.return_, 1) := by decide +kernel
def Q_rm_ckl0 (Z : State) (w_instance : Addr) (w_A : Addr) (c_A : Cell) (zc : Int32)  (h0 : Heap) (n0 : Nat) (v : Option Value) (h : Heap) (L : List Loc) : Prop := v = none ∧ Fr n0 L ∧ h = h0
set_option maxRecDepth 65536 in
set_option maxHeartbeats 40000000 in
theorem rm_ckl0 (l : Launch) (Z : State) (a0 : Array Value) (hw : ∀ d ∈ tables_1, d.before a0 Z = true) (ws : List Jvm.Cond) (w_instance : Addr) (w_A : Addr) (c_A : Cell) (zc : Int32)  (h0 : Heap) (n0 : Nat) (O0 : Old Z n0 h0) (hS : St0 Z w_instance w_A c_A zc ) :
    MetFree l (⟨"java/util/Arrays", "checkLength", "(II)V"⟩ : MethodName) (head1 (Jvm.Cond.code (⟨"java/util/Arrays", "checkLength", "(II)V"⟩ : MethodName) jdk_65_method_131_code 2 none :: ws) ({ frames := 0, cells := 0, slots := 0, locals := 0 } : Room)) (fun aG UG => aG = #[(.int (0 : Int32)), (.int (1 : Int32))] ∧ Z.Warmed39 UG.vm ∧ UG.heap = h0) (fun _ _ _ _ _ => True) (fun _ UG oG UG' => ∃ vG LG, oG = .returned vG ∧ Q_rm_ckl0 Z w_instance w_A c_A zc  h0 n0 vG UG'.heap LG ∧ FrameEnd UG oG UG' LG ({ frames := 0, cells := 0, slots := 0, locals := 0 } : Room).cells ({ frames := 0, cells := 0, slots := 0, locals := 0 } : Room).slots) := by
  refine MetFree.of_bodySF (plainFor_of_name pn_3) hisR ?_
  intro pG eG sG mG rG bG fG cG s₁ Bd hml0 hP hK
  obtain ⟨rfl, hZ, hh⟩ := hP
  have hx := Bd.exec
  have yb := Bd.bytes
  have hml : cG.maxLocals = 2 := hml0
  have hown : sG.vm.findClass "java/util/Arrays" = some mG.cls := findClass_of_methodNamed Bd.named
  have hnm := (name_of_methodNamed Bd.named Bd.method).1
  have X0 : Stand pG l eG ({ frames := 0, cells := 0, slots := 0, locals := 0 } : Room) sG mG #[(.int (0 : Int32)), (.int (1 : Int32))] bG fG cG s₁ [] 0 0 := Stand.of_body Bd
  have e0 : s₁.heap = h0 := by rw [← hh, Bd.state]; rfl
  have N0 := Fr.nil n0
  have K0 := Keep.refl h0 []
  obtain ⟨S_w_instance, E_w_instance, S_w_A, E_w_A, V_w_A, S_zc, hzc⟩ := (id hS : St0 Z w_instance w_A c_A zc )
  refine ostart (g' := (mkF mG 0 #[oi (0 : Int32), oi (1 : Int32)] [])) (by first | (simp [entryFrame, mkF, argsToLocals, Value.category]; done) | rfl) ?_
  refine ob s₁ (mkF mG 1 #[oi (0 : Int32), oi (1 : Int32)] [(.int (1 : Int32))]) (fun _ kk => XS.iloadN X0.here hx rfl (hb yb d27_0) rfl kk) ?_
  refine ob s₁ (mkF mG 2 #[oi (0 : Int32), oi (1 : Int32)] [(.int (0 : Int32)), (.int (1 : Int32))]) (fun _ kk => XS.iloadN X0.here hx rfl (hb yb d27_1) rfl kk) ?_
  refine ob s₁ (mkF mG 37 #[oi (0 : Int32), oi (1 : Int32)] []) (fun _ kk => XS.icmpYes X0.here hx rfl (pc0 := 2) (pc' := 37) rfl (hb yb d27_2) rfl (flt (by decide : ¬ ((1 : Int32) < (0 : Int32)))).2.1 (by decide) (by decide) kk) ?_
  obtain ⟨fs, hr, hrun, hended, hW, hsame⟩ := X0.leave (v := none) (fun _ => rfl)
  refine oout (X0.returnOut hx Bd.returns (hb yb d27_37) hr) hrun hended ⟨_, _, rfl, ?_, ⟨_, rfl⟩, hW, hsame.mono (by decide) (by decide)⟩
  show Q_rm_ckl0 Z w_instance w_A c_A zc  h0 n0 _ s₁.heap _
  rw [e0]
  exact ⟨rfl, N0, rfl⟩

def Q_rm_ckl1 (Z : State) (w_instance : Addr) (w_A : Addr) (c_A : Cell) (zc : Int32)  (h0 : Heap) (n0 : Nat) (v : Option Value) (h : Heap) (L : List Loc) : Prop := v = none ∧ Fr n0 L ∧ h = h0
set_option maxRecDepth 65536 in
set_option maxHeartbeats 40000000 in
theorem rm_ckl1 (l : Launch) (Z : State) (a0 : Array Value) (hw : ∀ d ∈ tables_1, d.before a0 Z = true) (ws : List Jvm.Cond) (w_instance : Addr) (w_A : Addr) (c_A : Cell) (zc : Int32)  (h0 : Heap) (n0 : Nat) (O0 : Old Z n0 h0) (hS : St0 Z w_instance w_A c_A zc ) :
    MetFree l (⟨"java/util/Arrays", "checkLength", "(II)V"⟩ : MethodName) (head1 (Jvm.Cond.code (⟨"java/util/Arrays", "checkLength", "(II)V"⟩ : MethodName) jdk_65_method_131_code 2 none :: ws) ({ frames := 0, cells := 0, slots := 0, locals := 0 } : Room)) (fun aG UG => aG = #[(.int (1 : Int32)), (.int (2 : Int32))] ∧ Z.Warmed39 UG.vm ∧ UG.heap = h0) (fun _ _ _ _ _ => True) (fun _ UG oG UG' => ∃ vG LG, oG = .returned vG ∧ Q_rm_ckl1 Z w_instance w_A c_A zc  h0 n0 vG UG'.heap LG ∧ FrameEnd UG oG UG' LG ({ frames := 0, cells := 0, slots := 0, locals := 0 } : Room).cells ({ frames := 0, cells := 0, slots := 0, locals := 0 } : Room).slots) := by
  refine MetFree.of_bodySF (plainFor_of_name pn_3) hisR ?_
  intro pG eG sG mG rG bG fG cG s₁ Bd hml0 hP hK
  obtain ⟨rfl, hZ, hh⟩ := hP
  have hx := Bd.exec
  have yb := Bd.bytes
  have hml : cG.maxLocals = 2 := hml0
  have hown : sG.vm.findClass "java/util/Arrays" = some mG.cls := findClass_of_methodNamed Bd.named
  have hnm := (name_of_methodNamed Bd.named Bd.method).1
  have X0 : Stand pG l eG ({ frames := 0, cells := 0, slots := 0, locals := 0 } : Room) sG mG #[(.int (1 : Int32)), (.int (2 : Int32))] bG fG cG s₁ [] 0 0 := Stand.of_body Bd
  have e0 : s₁.heap = h0 := by rw [← hh, Bd.state]; rfl
  have N0 := Fr.nil n0
  have K0 := Keep.refl h0 []
  obtain ⟨S_w_instance, E_w_instance, S_w_A, E_w_A, V_w_A, S_zc, hzc⟩ := (id hS : St0 Z w_instance w_A c_A zc )
  refine ostart (g' := (mkF mG 0 #[oi (1 : Int32), oi (2 : Int32)] [])) (by first | (simp [entryFrame, mkF, argsToLocals, Value.category]; done) | rfl) ?_
  refine ob s₁ (mkF mG 1 #[oi (1 : Int32), oi (2 : Int32)] [(.int (2 : Int32))]) (fun _ kk => XS.iloadN X0.here hx rfl (hb yb d27_0) rfl kk) ?_
  refine ob s₁ (mkF mG 2 #[oi (1 : Int32), oi (2 : Int32)] [(.int (1 : Int32)), (.int (2 : Int32))]) (fun _ kk => XS.iloadN X0.here hx rfl (hb yb d27_1) rfl kk) ?_
  refine ob s₁ (mkF mG 37 #[oi (1 : Int32), oi (2 : Int32)] []) (fun _ kk => XS.icmpYes X0.here hx rfl (pc0 := 2) (pc' := 37) rfl (hb yb d27_2) rfl (flt (by decide : ¬ ((2 : Int32) < (1 : Int32)))).2.1 (by decide) (by decide) kk) ?_
  obtain ⟨fs, hr, hrun, hended, hW, hsame⟩ := X0.leave (v := none) (fun _ => rfl)
  refine oout (X0.returnOut hx Bd.returns (hb yb d27_37) hr) hrun hended ⟨_, _, rfl, ?_, ⟨_, rfl⟩, hW, hsame.mono (by decide) (by decide)⟩
  show Q_rm_ckl1 Z w_instance w_A c_A zc  h0 n0 _ s₁.heap _
  rw [e0]
  exact ⟨rfl, N0, rfl⟩

theorem d28_0 : decode jdk_29_method_69_code 0 = .ok (.iload_n 0, 1) := by decide +kernel
theorem d28_1 : decode jdk_29_method_69_code 1 = .ok (.iload_n 1, 1) := by decide +kernel
theorem d28_2 : decode jdk_29_method_69_code 2 = .ok (.if_icmp .gt 7, 3) := by decide +kernel
theorem d28_9 : decode jdk_29_method_69_code 9 = .ok (.iload_n 1, 1) := by decide +kernel
theorem d28_10 : decode jdk_29_method_69_code 10 = .ok (.ireturn, 1) := by decide +kernel
def Q_rm_min0 (Z : State) (w_instance : Addr) (w_A : Addr) (c_A : Cell) (zc : Int32)  (h0 : Heap) (n0 : Nat) (v : Option Value) (h : Heap) (L : List Loc) : Prop := v = some (.int (1 : Int32)) ∧ Fr n0 L ∧ h = h0
set_option maxRecDepth 65536 in
set_option maxHeartbeats 40000000 in
theorem rm_min0 (l : Launch) (Z : State) (a0 : Array Value) (hw : ∀ d ∈ tables_1, d.before a0 Z = true) (ws : List Jvm.Cond) (w_instance : Addr) (w_A : Addr) (c_A : Cell) (zc : Int32)  (h0 : Heap) (n0 : Nat) (O0 : Old Z n0 h0) (hS : St0 Z w_instance w_A c_A zc ) :
    MetFree l (⟨"java/lang/Math", "min", "(II)I"⟩ : MethodName) (head1 (Jvm.Cond.code (⟨"java/lang/Math", "min", "(II)I"⟩ : MethodName) jdk_29_method_69_code 2 (some .int) :: ws) ({ frames := 0, cells := 0, slots := 0, locals := 0 } : Room)) (fun aG UG => aG = #[(.int (2 : Int32)), (.int (1 : Int32))] ∧ Z.Warmed39 UG.vm ∧ UG.heap = h0) (fun _ _ _ _ _ => True) (fun _ UG oG UG' => ∃ vG LG, oG = .returned vG ∧ Q_rm_min0 Z w_instance w_A c_A zc  h0 n0 vG UG'.heap LG ∧ FrameEnd UG oG UG' LG ({ frames := 0, cells := 0, slots := 0, locals := 0 } : Room).cells ({ frames := 0, cells := 0, slots := 0, locals := 0 } : Room).slots) := by
  refine MetFree.of_bodySF (Jvm.Free.JP.mathPlain rfl (by decide +kernel)) hisR ?_
  intro pG eG sG mG rG bG fG cG s₁ Bd hml0 hP hK
  obtain ⟨rfl, hZ, hh⟩ := hP
  have hx := Bd.exec
  have yb := Bd.bytes
  have hml : cG.maxLocals = 2 := hml0
  have hown : sG.vm.findClass "java/lang/Math" = some mG.cls := findClass_of_methodNamed Bd.named
  have hnm := (name_of_methodNamed Bd.named Bd.method).1
  have X0 : Stand pG l eG ({ frames := 0, cells := 0, slots := 0, locals := 0 } : Room) sG mG #[(.int (2 : Int32)), (.int (1 : Int32))] bG fG cG s₁ [] 0 0 := Stand.of_body Bd
  have e0 : s₁.heap = h0 := by rw [← hh, Bd.state]; rfl
  have N0 := Fr.nil n0
  have K0 := Keep.refl h0 []
  obtain ⟨S_w_instance, E_w_instance, S_w_A, E_w_A, V_w_A, S_zc, hzc⟩ := (id hS : St0 Z w_instance w_A c_A zc )
  refine ostart (g' := (mkF mG 0 #[oi (2 : Int32), oi (1 : Int32)] [])) (by first | (simp [entryFrame, mkF, argsToLocals, Value.category]; done) | rfl) ?_
  refine ob s₁ (mkF mG 1 #[oi (2 : Int32), oi (1 : Int32)] [(.int (2 : Int32))]) (fun _ kk => XS.iloadN X0.here hx rfl (hb yb d28_0) rfl kk) ?_
  refine ob s₁ (mkF mG 2 #[oi (2 : Int32), oi (1 : Int32)] [(.int (1 : Int32)), (.int (2 : Int32))]) (fun _ kk => XS.iloadN X0.here hx rfl (hb yb d28_1) rfl kk) ?_
  refine ob s₁ (mkF mG 9 #[oi (2 : Int32), oi (1 : Int32)] []) (fun _ kk => XS.icmpYes X0.here hx rfl (pc0 := 2) (pc' := 9) rfl (hb yb d28_2) rfl (tlt (by decide : (1 : Int32) < (2 : Int32))).2.2.1 (by decide) (by decide) kk) ?_
  refine ob s₁ (mkF mG 10 #[oi (2 : Int32), oi (1 : Int32)] [(.int (1 : Int32))]) (fun _ kk => XS.iloadN X0.here hx rfl (hb yb d28_9) rfl kk) ?_
  obtain ⟨fs, hr, hrun, hended, hW, hsame⟩ := X0.leave (v := some (.int (1 : Int32))) (fun h => by rw [Bd.returns] at h; cases h)
  refine oout (retOut X0 hx Bd.returns rfl (Or.inl ⟨rfl, Or.inl rfl, _, rfl⟩) (hb yb d28_10) hr) hrun hended ⟨_, _, rfl, ?_, ⟨_, rfl⟩, hW, hsame.mono (by decide) (by decide)⟩
  show Q_rm_min0 Z w_instance w_A c_A zc  h0 n0 _ s₁.heap _
  rw [e0]
  exact ⟨rfl, N0, rfl⟩

theorem d28_5 : decode jdk_29_method_69_code 5 = .ok (.iload_n 0, 1) := by decide +kernel
theorem d28_6 : decode jdk_29_method_69_code 6 = .ok (.goto 4, 3) := by decide +kernel
def Q_rm_min1 (Z : State) (w_instance : Addr) (w_A : Addr) (c_A : Cell) (zc : Int32)  (h0 : Heap) (n0 : Nat) (v : Option Value) (h : Heap) (L : List Loc) : Prop := v = some (.int (1 : Int32)) ∧ Fr n0 L ∧ h = h0
set_option maxRecDepth 65536 in
set_option maxHeartbeats 40000000 in
theorem rm_min1 (l : Launch) (Z : State) (a0 : Array Value) (hw : ∀ d ∈ tables_1, d.before a0 Z = true) (ws : List Jvm.Cond) (w_instance : Addr) (w_A : Addr) (c_A : Cell) (zc : Int32)  (h0 : Heap) (n0 : Nat) (O0 : Old Z n0 h0) (hS : St0 Z w_instance w_A c_A zc ) :
    MetFree l (⟨"java/lang/Math", "min", "(II)I"⟩ : MethodName) (head1 (Jvm.Cond.code (⟨"java/lang/Math", "min", "(II)I"⟩ : MethodName) jdk_29_method_69_code 2 (some .int) :: ws) ({ frames := 0, cells := 0, slots := 0, locals := 0 } : Room)) (fun aG UG => aG = #[(.int (1 : Int32)), (.int (1 : Int32))] ∧ Z.Warmed39 UG.vm ∧ UG.heap = h0) (fun _ _ _ _ _ => True) (fun _ UG oG UG' => ∃ vG LG, oG = .returned vG ∧ Q_rm_min1 Z w_instance w_A c_A zc  h0 n0 vG UG'.heap LG ∧ FrameEnd UG oG UG' LG ({ frames := 0, cells := 0, slots := 0, locals := 0 } : Room).cells ({ frames := 0, cells := 0, slots := 0, locals := 0 } : Room).slots) := by
  refine MetFree.of_bodySF (Jvm.Free.JP.mathPlain rfl (by decide +kernel)) hisR ?_
  intro pG eG sG mG rG bG fG cG s₁ Bd hml0 hP hK
  obtain ⟨rfl, hZ, hh⟩ := hP
  have hx := Bd.exec
  have yb := Bd.bytes
  have hml : cG.maxLocals = 2 := hml0
  have hown : sG.vm.findClass "java/lang/Math" = some mG.cls := findClass_of_methodNamed Bd.named
  have hnm := (name_of_methodNamed Bd.named Bd.method).1
  have X0 : Stand pG l eG ({ frames := 0, cells := 0, slots := 0, locals := 0 } : Room) sG mG #[(.int (1 : Int32)), (.int (1 : Int32))] bG fG cG s₁ [] 0 0 := Stand.of_body Bd
  have e0 : s₁.heap = h0 := by rw [← hh, Bd.state]; rfl
  have N0 := Fr.nil n0
  have K0 := Keep.refl h0 []
  obtain ⟨S_w_instance, E_w_instance, S_w_A, E_w_A, V_w_A, S_zc, hzc⟩ := (id hS : St0 Z w_instance w_A c_A zc )
  refine ostart (g' := (mkF mG 0 #[oi (1 : Int32), oi (1 : Int32)] [])) (by first | (simp [entryFrame, mkF, argsToLocals, Value.category]; done) | rfl) ?_
  refine ob s₁ (mkF mG 1 #[oi (1 : Int32), oi (1 : Int32)] [(.int (1 : Int32))]) (fun _ kk => XS.iloadN X0.here hx rfl (hb yb d28_0) rfl kk) ?_
  refine ob s₁ (mkF mG 2 #[oi (1 : Int32), oi (1 : Int32)] [(.int (1 : Int32)), (.int (1 : Int32))]) (fun _ kk => XS.iloadN X0.here hx rfl (hb yb d28_1) rfl kk) ?_
  refine ob s₁ (mkF mG 5 #[oi (1 : Int32), oi (1 : Int32)] []) (fun _ kk => XS.icmpNo X0.here hx rfl (hb yb d28_2) rfl (flt (by decide : ¬ ((1 : Int32) < (1 : Int32)))).2.2.1 kk) ?_
  refine ob s₁ (mkF mG 6 #[oi (1 : Int32), oi (1 : Int32)] [(.int (1 : Int32))]) (fun _ kk => XS.iloadN X0.here hx rfl (hb yb d28_5) rfl kk) ?_
  refine ob s₁ (mkF mG 10 #[oi (1 : Int32), oi (1 : Int32)] [(.int (1 : Int32))]) (fun _ kk => XS.goto X0.here hx rfl (pc0 := 6) (pc' := 10) rfl (hb yb d28_6) (by decide) (by decide) kk) ?_
  obtain ⟨fs, hr, hrun, hended, hW, hsame⟩ := X0.leave (v := some (.int (1 : Int32))) (fun h => by rw [Bd.returns] at h; cases h)
  refine oout (retOut X0 hx Bd.returns rfl (Or.inl ⟨rfl, Or.inl rfl, _, rfl⟩) (hb yb d28_10) hr) hrun hended ⟨_, _, rfl, ?_, ⟨_, rfl⟩, hW, hsame.mono (by decide) (by decide)⟩
  show Q_rm_min1 Z w_instance w_A c_A zc  h0 n0 _ s₁.heap _
  rw [e0]
  exact ⟨rfl, N0, rfl⟩

theorem d26_0 : decode jdk_65_method_133_code 0 = .ok (.iload_n 1, 1) := by decide +kernel
theorem d26_1 : decode jdk_65_method_133_code 1 = .ok (.iload_n 2, 1) := by decide +kernel
theorem d26_2 : decode jdk_65_method_133_code 2 = .ok (.invokestatic 343, 3) := by decide +kernel
theorem d26_5 : decode jdk_65_method_133_code 5 = .ok (.iload_n 2, 1) := by decide +kernel
theorem d26_6 : decode jdk_65_method_133_code 6 = .ok (.iload_n 1, 1) := by decide +kernel
theorem d26_7 : decode jdk_65_method_133_code 7 = .ok (.isub, 1) := by decide +kernel
theorem d26_8 : decode jdk_65_method_133_code 8 = .ok (.istore_n 3, 1) := by decide +kernel
theorem d26_9 : decode jdk_65_method_133_code 9 = .ok (.iload_n 3, 1) := by decide +kernel
theorem d26_10 : decode jdk_65_method_133_code 10 = .ok (.newarray .byte, 2) := by decide +kernel
theorem d26_12 : decode jdk_65_method_133_code 12 = .ok (.astore 4, 2) := by decide +kernel
theorem d26_14 : decode jdk_65_method_133_code 14 = .ok (.aload_n 0, 1) := by decide +kernel
theorem d26_15 : decode jdk_65_method_133_code 15 = .ok (.iload_n 1, 1) := by decide +kernel
theorem d26_16 : decode jdk_65_method_133_code 16 = .ok (.aload 4, 2) := by decide +kernel
theorem d26_18 : decode jdk_65_method_133_code 18 = .ok (.iconst 0, 1) := by decide +kernel
theorem d26_19 : decode jdk_65_method_133_code 19 = .ok (.aload_n 0, 1) := by decide +kernel
theorem d26_20 : decode jdk_65_method_133_code 20 = .ok (.arraylength, 1) := by decide +kernel
theorem d26_21 : decode jdk_65_method_133_code 21 = .ok (.iload_n 1, 1) := by decide +kernel
theorem d26_22 : decode jdk_65_method_133_code 22 = .ok (.isub, 1) := by decide +kernel
theorem d26_23 : decode jdk_65_method_133_code 23 = .ok (.iload_n 3, 1) := by decide +kernel
theorem d26_24 : decode jdk_65_method_133_code 24 = .ok (.invokestatic 304, 3) := by decide +kernel
theorem d26_27 : decode jdk_65_method_133_code 27 = .ok (.invokestatic 150, 3) := by decide +kernel
theorem d26_30 : decode jdk_65_method_133_code 30 = .ok (.aload 4, 2) := by decide +kernel
theorem d26_32 : decode jdk_65_method_133_code 32 = .ok (.areturn, 1) := by decide +kernel
theorem pd_7 : parseMethodDescriptor "(II)V" = some ⟨[.int, .int], none⟩ := by decide +kernel
theorem pd_8 : parseMethodDescriptor "(II)I" = some ⟨[.int, .int], some .int⟩ := by decide +kernel
def Q_rm_cob0 (Z : State) (w_instance : Addr) (w_A : Addr) (c_A : Cell) (zc : Int32) (t : Addr) (kb : ClassId) (c : Int32) (d : Int32) (h0 : Heap) (n0 : Nat) (v : Option Value) (h : Heap) (L : List Loc) : Prop := ∃ (b0 : Addr), v = some (.ref b0) ∧ Fr n0 L ∧ Keep h0 h [] ∧ Old Z n0 h ∧ n0 ≤ b0 ∧ h0.size ≤ b0
set_option maxRecDepth 65536 in
set_option maxHeartbeats 40000000 in
theorem rm_cob0 (l : Launch) (Z : State) (a0 : Array Value) (hw : ∀ d ∈ tables_1, d.before a0 Z = true) (ws : List Jvm.Cond) (w_instance : Addr) (w_A : Addr) (c_A : Cell) (zc : Int32) (t : Addr) (kb : ClassId) (c : Int32) (d : Int32) (h0 : Heap) (n0 : Nat) (O0 : Old Z n0 h0) (hS : St0 Z w_instance w_A c_A zc ) (V_t : Arv Z h0 t kb .byte (2 : Int32) [(.int (c.toInt8.toInt32)), (.int (d.toInt8.toInt32))] (.int (0 : Int32))) :
    MetFree l (⟨"java/util/Arrays", "copyOfRangeByte", "([BII)[B"⟩ : MethodName) (head1 (Jvm.Cond.code (⟨"java/util/Arrays", "copyOfRangeByte", "([BII)[B"⟩ : MethodName) jdk_65_method_133_code 5 (some (.array .byte)) :: ws) ({ frames := 1, cells := 1, slots := 1, locals := 40 } : Room)) (fun aG UG => aG = #[(.ref t), (.int (0 : Int32)), (.int (1 : Int32))] ∧ Z.Warmed39 UG.vm ∧ UG.heap = h0) (fun _ _ _ _ _ => True) (fun _ UG oG UG' => ∃ vG LG, oG = .returned vG ∧ Q_rm_cob0 Z w_instance w_A c_A zc t kb c d h0 n0 vG UG'.heap LG ∧ FrameEnd UG oG UG' LG ({ frames := 1, cells := 1, slots := 1, locals := 40 } : Room).cells ({ frames := 1, cells := 1, slots := 1, locals := 40 } : Room).slots) := by
  refine MetFree.of_bodySF (plainFor_of_name pn_3) hisR ?_
  intro pG eG sG mG rG bG fG cG s₁ Bd hml0 hP hK
  obtain ⟨rfl, hZ, hh⟩ := hP
  have hx := Bd.exec
  have yb := Bd.bytes
  have hml : cG.maxLocals = 5 := hml0
  have hown : sG.vm.findClass "java/util/Arrays" = some mG.cls := findClass_of_methodNamed Bd.named
  have hnm := (name_of_methodNamed Bd.named Bd.method).1
  have X0 : Stand pG l eG ({ frames := 1, cells := 1, slots := 1, locals := 40 } : Room) sG mG #[(.ref t), (.int (0 : Int32)), (.int (1 : Int32))] bG fG cG s₁ [] 0 0 := Stand.of_body Bd
  have e0 : s₁.heap = h0 := by rw [← hh, Bd.state]; rfl
  have N0 := Fr.nil n0
  have K0 := Keep.refl h0 []
  obtain ⟨S_w_instance, E_w_instance, S_w_A, E_w_A, V_w_A, S_zc, hzc⟩ := (id hS : St0 Z w_instance w_A c_A zc )
  refine ostart (g' := (mkF mG 0 #[oa t, oi (0 : Int32), oi (1 : Int32), .unset, .unset] [])) (by first | (simp [entryFrame, mkF, argsToLocals, Value.category]; done) | rfl) ?_
  refine ob s₁ (mkF mG 1 #[oa t, oi (0 : Int32), oi (1 : Int32), .unset, .unset] [(.int (0 : Int32))]) (fun _ kk => XS.iloadN X0.here hx rfl (hb yb d26_0) rfl kk) ?_
  refine ob s₁ (mkF mG 2 #[oa t, oi (0 : Int32), oi (1 : Int32), .unset, .unset] [(.int (1 : Int32)), (.int (0 : Int32))]) (fun _ kk => XS.iloadN X0.here hx rfl (hb yb d26_1) rfl kk) ?_
  obtain ⟨_, _, ⟨T1, L1, k1, n1⟩, -, X1, ⟨Lc1, hQ1, l1, y1, z1⟩, st1⟩ := Jvm.LawKit.callS X0 hx (y := (⟨"java/util/Arrays", "checkLength", "(II)V"⟩ : MethodName)) hown (mvT hZ (ow hw 127 rfl)) (mvT hZ (ow hw 128 rfl)) (mvT hZ (ow hw 122 rfl)) (mvT hZ (ow hw 129 rfl)) (by decide) (backOf (W := 0) (rm_ckl0 l Z a0 hw [] w_instance w_A c_A zc  h0 n0 O0 hS ) hZ (ow hw 129 rfl) (ow hw 122 rfl) (by decide) (by decide)) (g := (mkF mG 2 #[oa t, oi (0 : Int32), oi (1 : Int32), .unset, .unset] [(.int (1 : Int32)), (.int (0 : Int32))])) rfl (by rw [hml]; rfl) (argsL := [(.int (0 : Int32)), (.int (1 : Int32))]) (rest := []) (lenOf pd_7 rfl) rfl (by show 2 * 0 + _ ≤ _; exact Nat.le_of_eq rfl) (hb yb d26_2) (fun _ _ => ⟨rfl, e0, (by decide : 0 + 0 ≤ _), (by decide : 0 + 0 ≤ _)⟩)
  dsimp only [Pt.U, Pt.locs, Pt.cells, Pt.slots] at X1 l1 y1 z1 st1 hQ1
  subst l1 y1 z1
  obtain ⟨rfl, N1q, e1⟩ := hQ1
  have N1 := Fr.app N0 N1q
  refine ob T1 (mkF mG 5 #[oa t, oi (0 : Int32), oi (1 : Int32), .unset, .unset] []) (fun _ kk => st1 _ kk) ?_
  refine ob T1 (mkF mG 6 #[oa t, oi (0 : Int32), oi (1 : Int32), .unset, .unset] [(.int (1 : Int32))]) (fun _ kk => XS.iloadN X1.here hx rfl (hb yb d26_5) rfl kk) ?_
  refine ob T1 (mkF mG 7 #[oa t, oi (0 : Int32), oi (1 : Int32), .unset, .unset] [(.int (0 : Int32)), (.int (1 : Int32))]) (fun _ kk => XS.iloadN X1.here hx rfl (hb yb d26_6) rfl kk) ?_
  refine ob T1 (mkF mG 8 #[oa t, oi (0 : Int32), oi (1 : Int32), .unset, .unset] [(.int (1 : Int32))]) (fun _ kk => XS.isub X1.here hx rfl (hb yb d26_7) rfl kk) ?_
  refine ob T1 (mkF mG 9 #[oa t, oi (0 : Int32), oi (1 : Int32), oi (1 : Int32), .unset] []) (fun _ kk => XS.istoreN X1.here hx rfl (hb yb d26_8) rfl (l' := #[oa t, oi (0 : Int32), oi (1 : Int32), oi (1 : Int32), .unset]) rfl kk) ?_
  refine ob T1 (mkF mG 10 #[oa t, oi (0 : Int32), oi (1 : Int32), oi (1 : Int32), .unset] [(.int (1 : Int32))]) (fun _ kk => XS.iloadN X1.here hx rfl (hb yb d26_9) rfl kk) ?_
  obtain ⟨T2, h2, k2, X2, e2, E2, A2, st2⟩ := newP X1 hx hZ (ow hw 19 rfl) e1 (g := (mkF mG 10 #[oa t, oi (0 : Int32), oi (1 : Int32), oi (1 : Int32), .unset] [(.int (1 : Int32))])) rfl (hb yb d26_10) rfl (by decide) (cap := 1) (by decide) (by decide) (by decide) (by decide)
  obtain ⟨b2, g2⟩ : ∃ z, z = h0.size := ⟨_, rfl⟩
  rw [← g2] at A2 st2
  have n_b2 : n0 ≤ b2 := Nat.le_trans (on0 O0) (Nat.le_of_eq g2.symm)
  have sz_b2 : h0.size ≤ b2 := Nat.le_trans K0.1 (Nat.le_of_eq g2.symm)
  have ne_t_b2 : t ≠ b2 := Nat.ne_of_lt (Nat.lt_of_lt_of_le V_t.lt (Nat.le_of_eq g2.symm))
  have O2 := O0.ext E2
  have K2 := K0.ext E2
  have V2 : Arv Z h2 b2 k2 .byte (1 : Int32) [(.int (0 : Int32))] (.int (0 : Int32)) := (Arv.new A2 (by decide)).pad (pad_rep [] (.int (0 : Int32)) 1)
  refine ob T2 (mkF mG 12 #[oa t, oi (0 : Int32), oi (1 : Int32), oi (1 : Int32), .unset] [(.ref b2)]) (fun _ kk => st2 _ kk) ?_
  refine ob T2 (mkF mG 14 #[oa t, oi (0 : Int32), oi (1 : Int32), oi (1 : Int32), oa b2] []) (fun _ kk => XS.astore X2.here hx rfl (hb yb d26_12) rfl rfl (l' := #[oa t, oi (0 : Int32), oi (1 : Int32), oi (1 : Int32), oa b2]) rfl kk) ?_
  refine ob T2 (mkF mG 15 #[oa t, oi (0 : Int32), oi (1 : Int32), oi (1 : Int32), oa b2] [(.ref t)]) (fun _ kk => XS.aloadN X2.here hx rfl (hb yb d26_14) rfl rfl kk) ?_
  refine ob T2 (mkF mG 16 #[oa t, oi (0 : Int32), oi (1 : Int32), oi (1 : Int32), oa b2] [(.int (0 : Int32)), (.ref t)]) (fun _ kk => XS.iloadN X2.here hx rfl (hb yb d26_15) rfl kk) ?_
  refine ob T2 (mkF mG 18 #[oa t, oi (0 : Int32), oi (1 : Int32), oi (1 : Int32), oa b2] [(.ref b2), (.int (0 : Int32)), (.ref t)]) (fun _ kk => XS.aload X2.here hx rfl (hb yb d26_16) rfl rfl kk) ?_
  refine ob T2 (mkF mG 19 #[oa t, oi (0 : Int32), oi (1 : Int32), oi (1 : Int32), oa b2] [(.int (0 : Int32)), (.ref b2), (.int (0 : Int32)), (.ref t)]) (fun _ kk => XS.iconst X2.here hx rfl (hb yb d26_18) kk) ?_
  refine ob T2 (mkF mG 20 #[oa t, oi (0 : Int32), oi (1 : Int32), oi (1 : Int32), oa b2] [(.ref t), (.int (0 : Int32)), (.ref b2), (.int (0 : Int32)), (.ref t)]) (fun _ kk => XS.aloadN X2.here hx rfl (hb yb d26_19) rfl rfl kk) ?_
  obtain ⟨cl3, Ar3, -, S3, N3a, -, -⟩ := id (V_t.ext E2)
  refine oby (T' := T2) (g' := (mkF mG 21 #[oa t, oi (0 : Int32), oi (1 : Int32), oi (1 : Int32), oa b2] [(.int (2 : Int32)), (.int (0 : Int32)), (.ref b2), (.int (0 : Int32)), (.ref t)])) (fun ot ok => X2.arraylength hx (by rw [e2]; exact Ar3.1) (State.isArrayOf_alike hZ.alike Ar3.2.1) (g := (mkF mG 20 #[oa t, oi (0 : Int32), oi (1 : Int32), oi (1 : Int32), oa b2] [(.ref t), (.int (0 : Int32)), (.ref b2), (.int (0 : Int32)), (.ref t)])) rfl rfl (hb yb d26_20) _ (by rw [len_of S3 N3a]; exact ok)) ?_
  refine ob T2 (mkF mG 22 #[oa t, oi (0 : Int32), oi (1 : Int32), oi (1 : Int32), oa b2] [(.int (0 : Int32)), (.int (2 : Int32)), (.int (0 : Int32)), (.ref b2), (.int (0 : Int32)), (.ref t)]) (fun _ kk => XS.iloadN X2.here hx rfl (hb yb d26_21) rfl kk) ?_
  refine ob T2 (mkF mG 23 #[oa t, oi (0 : Int32), oi (1 : Int32), oi (1 : Int32), oa b2] [(.int (2 : Int32)), (.int (0 : Int32)), (.ref b2), (.int (0 : Int32)), (.ref t)]) (fun _ kk => XS.isub X2.here hx rfl (hb yb d26_22) rfl kk) ?_
  refine ob T2 (mkF mG 24 #[oa t, oi (0 : Int32), oi (1 : Int32), oi (1 : Int32), oa b2] [(.int (1 : Int32)), (.int (2 : Int32)), (.int (0 : Int32)), (.ref b2), (.int (0 : Int32)), (.ref t)]) (fun _ kk => XS.iloadN X2.here hx rfl (hb yb d26_23) rfl kk) ?_
  obtain ⟨_, _, ⟨T4, L4, k4, n4⟩, -, X4, ⟨Lc4, hQ4, l4, y4, z4⟩, st4⟩ := Jvm.LawKit.callS X2 hx (y := (⟨"java/lang/Math", "min", "(II)I"⟩ : MethodName)) hown (mvT hZ (ow hw 130 rfl)) (mvT hZ (ow hw 131 rfl)) (mvT hZ (ow hw 132 rfl)) (mvT hZ (ow hw 133 rfl)) (by decide) (backOf (W := 4) (rm_min0 l Z a0 hw [] w_instance w_A c_A zc  h2 n0 O2 hS ) hZ (ow hw 133 rfl) (ow hw 132 rfl) (by decide) (by decide)) (g := (mkF mG 24 #[oa t, oi (0 : Int32), oi (1 : Int32), oi (1 : Int32), oa b2] [(.int (1 : Int32)), (.int (2 : Int32)), (.int (0 : Int32)), (.ref b2), (.int (0 : Int32)), (.ref t)])) rfl (by rw [hml]; rfl) (argsL := [(.int (2 : Int32)), (.int (1 : Int32))]) (rest := [(.int (0 : Int32)), (.ref b2), (.int (0 : Int32)), (.ref t)]) (lenOf pd_8 rfl) rfl (by show 2 * 0 + _ ≤ _; exact Nat.le_of_eq rfl) (hb yb d26_24) (fun _ _ => ⟨rfl, e2, (by decide : 1 + 0 ≤ _), (by decide : 1 + 0 ≤ _)⟩)
  dsimp only [Pt.U, Pt.locs, Pt.cells, Pt.slots] at X4 l4 y4 z4 st4 hQ4
  subst l4 y4 z4
  obtain ⟨rfl, N4q, e4⟩ := hQ4
  have N4 := Fr.app N1 N4q
  refine ob T4 (mkF mG 27 #[oa t, oi (0 : Int32), oi (1 : Int32), oi (1 : Int32), oa b2] [(.int (1 : Int32)), (.int (0 : Int32)), (.ref b2), (.int (0 : Int32)), (.ref t)]) (fun _ kk => st4 _ kk) ?_
  obtain ⟨T5, h5, L5, X5, e5, N5, K5q, V5, st5⟩ := cpA X4 hx hZ hown (ow hw 134 rfl) (ow hw 137 rfl) (ow hw 135 rfl) (ow hw 136 rfl) e4 (V_t.ext E2) V2 (Or.inl ⟨rfl, rfl⟩) (sp := (0 : Int32)) (dp := (0 : Int32)) (nn := (1 : Int32)) (us := [(.int (c.toInt8.toInt32))]) (by decide) (by decide) (by decide) (by decide) (by decide) rfl (by decide) N4 n_b2 (g := (mkF mG 27 #[oa t, oi (0 : Int32), oi (1 : Int32), oi (1 : Int32), oa b2] [(.int (1 : Int32)), (.int (0 : Int32)), (.ref b2), (.int (0 : Int32)), (.ref t)])) rfl (by rw [hml]; rfl) rfl (hb yb d26_27) (by decide) (W := 0) (by show 2 * 0 + _ ≤ _; exact Nat.le_of_eq rfl) (by decide)
  have VV5 : Arv Z h5 b2 k2 .byte (1 : Int32) [(.int (c.toInt8.toInt32))] (.int (0 : Int32)) := V5
  have O5 := O2.keep K5q (allS n_b2 all0)
  have K5 := K2.trans K5q (allS (Or.inr sz_b2) all0)
  refine ob T5 (mkF mG 30 #[oa t, oi (0 : Int32), oi (1 : Int32), oi (1 : Int32), oa b2] []) (fun _ kk => st5 _ kk) ?_
  refine ob T5 (mkF mG 32 #[oa t, oi (0 : Int32), oi (1 : Int32), oi (1 : Int32), oa b2] [(.ref b2)]) (fun _ kk => XS.aload X5.here hx rfl (hb yb d26_30) rfl rfl kk) ?_
  obtain ⟨fs, hr, hrun, hended, hW, hsame⟩ := X5.leave (v := some (.ref b2)) (fun h => by rw [Bd.returns] at h; cases h)
  refine oout (oretA X5 hx Bd.returns rfl rfl (hb yb d26_32) hr) hrun hended ⟨_, _, rfl, ?_, ⟨_, rfl⟩, hW, hsame.mono (by decide) (by decide)⟩
  show Q_rm_cob0 Z w_instance w_A c_A zc t kb c d h0 n0 _ T5.heap _
  rw [e5]
  exact ⟨b2, rfl, N5, K5, O5, n_b2, sz_b2⟩

def Q_rm_cob1 (Z : State) (w_instance : Addr) (w_A : Addr) (c_A : Cell) (zc : Int32) (t : Addr) (kb : ClassId) (c : Int32) (d : Int32) (h0 : Heap) (n0 : Nat) (v : Option Value) (h : Heap) (L : List Loc) : Prop := ∃ (b0 : Addr), v = some (.ref b0) ∧ Fr n0 L ∧ Keep h0 h [] ∧ Old Z n0 h ∧ n0 ≤ b0 ∧ h0.size ≤ b0
set_option maxRecDepth 65536 in
set_option maxHeartbeats 40000000 in
theorem rm_cob1 (l : Launch) (Z : State) (a0 : Array Value) (hw : ∀ d ∈ tables_1, d.before a0 Z = true) (ws : List Jvm.Cond) (w_instance : Addr) (w_A : Addr) (c_A : Cell) (zc : Int32) (t : Addr) (kb : ClassId) (c : Int32) (d : Int32) (h0 : Heap) (n0 : Nat) (O0 : Old Z n0 h0) (hS : St0 Z w_instance w_A c_A zc ) (V_t : Arv Z h0 t kb .byte (2 : Int32) [(.int (c.toInt8.toInt32)), (.int (d.toInt8.toInt32))] (.int (0 : Int32))) :
    MetFree l (⟨"java/util/Arrays", "copyOfRangeByte", "([BII)[B"⟩ : MethodName) (head1 (Jvm.Cond.code (⟨"java/util/Arrays", "copyOfRangeByte", "([BII)[B"⟩ : MethodName) jdk_65_method_133_code 5 (some (.array .byte)) :: ws) ({ frames := 1, cells := 1, slots := 1, locals := 40 } : Room)) (fun aG UG => aG = #[(.ref t), (.int (1 : Int32)), (.int (2 : Int32))] ∧ Z.Warmed39 UG.vm ∧ UG.heap = h0) (fun _ _ _ _ _ => True) (fun _ UG oG UG' => ∃ vG LG, oG = .returned vG ∧ Q_rm_cob1 Z w_instance w_A c_A zc t kb c d h0 n0 vG UG'.heap LG ∧ FrameEnd UG oG UG' LG ({ frames := 1, cells := 1, slots := 1, locals := 40 } : Room).cells ({ frames := 1, cells := 1, slots := 1, locals := 40 } : Room).slots) := by
  refine MetFree.of_bodySF (plainFor_of_name pn_3) hisR ?_
  intro pG eG sG mG rG bG fG cG s₁ Bd hml0 hP hK
  obtain ⟨rfl, hZ, hh⟩ := hP
  have hx := Bd.exec
  have yb := Bd.bytes
  have hml : cG.maxLocals = 5 := hml0
  have hown : sG.vm.findClass "java/util/Arrays" = some mG.cls := findClass_of_methodNamed Bd.named
  have hnm := (name_of_methodNamed Bd.named Bd.method).1
  have X0 : Stand pG l eG ({ frames := 1, cells := 1, slots := 1, locals := 40 } : Room) sG mG #[(.ref t), (.int (1 : Int32)), (.int (2 : Int32))] bG fG cG s₁ [] 0 0 := Stand.of_body Bd
  have e0 : s₁.heap = h0 := by rw [← hh, Bd.state]; rfl
  have N0 := Fr.nil n0
  have K0 := Keep.refl h0 []
  obtain ⟨S_w_instance, E_w_instance, S_w_A, E_w_A, V_w_A, S_zc, hzc⟩ := (id hS : St0 Z w_instance w_A c_A zc )
  refine ostart (g' := (mkF mG 0 #[oa t, oi (1 : Int32), oi (2 : Int32), .unset, .unset] [])) (by first | (simp [entryFrame, mkF, argsToLocals, Value.category]; done) | rfl) ?_
  refine ob s₁ (mkF mG 1 #[oa t, oi (1 : Int32), oi (2 : Int32), .unset, .unset] [(.int (1 : Int32))]) (fun _ kk => XS.iloadN X0.here hx rfl (hb yb d26_0) rfl kk) ?_
  refine ob s₁ (mkF mG 2 #[oa t, oi (1 : Int32), oi (2 : Int32), .unset, .unset] [(.int (2 : Int32)), (.int (1 : Int32))]) (fun _ kk => XS.iloadN X0.here hx rfl (hb yb d26_1) rfl kk) ?_
  obtain ⟨_, _, ⟨T1, L1, k1, n1⟩, -, X1, ⟨Lc1, hQ1, l1, y1, z1⟩, st1⟩ := Jvm.LawKit.callS X0 hx (y := (⟨"java/util/Arrays", "checkLength", "(II)V"⟩ : MethodName)) hown (mvT hZ (ow hw 127 rfl)) (mvT hZ (ow hw 128 rfl)) (mvT hZ (ow hw 122 rfl)) (mvT hZ (ow hw 129 rfl)) (by decide) (backOf (W := 0) (rm_ckl1 l Z a0 hw [] w_instance w_A c_A zc  h0 n0 O0 hS ) hZ (ow hw 129 rfl) (ow hw 122 rfl) (by decide) (by decide)) (g := (mkF mG 2 #[oa t, oi (1 : Int32), oi (2 : Int32), .unset, .unset] [(.int (2 : Int32)), (.int (1 : Int32))])) rfl (by rw [hml]; rfl) (argsL := [(.int (1 : Int32)), (.int (2 : Int32))]) (rest := []) (lenOf pd_7 rfl) rfl (by show 2 * 0 + _ ≤ _; exact Nat.le_of_eq rfl) (hb yb d26_2) (fun _ _ => ⟨rfl, e0, (by decide : 0 + 0 ≤ _), (by decide : 0 + 0 ≤ _)⟩)
  dsimp only [Pt.U, Pt.locs, Pt.cells, Pt.slots] at X1 l1 y1 z1 st1 hQ1
  subst l1 y1 z1
  obtain ⟨rfl, N1q, e1⟩ := hQ1
  have N1 := Fr.app N0 N1q
  refine ob T1 (mkF mG 5 #[oa t, oi (1 : Int32), oi (2 : Int32), .unset, .unset] []) (fun _ kk => st1 _ kk) ?_
  refine ob T1 (mkF mG 6 #[oa t, oi (1 : Int32), oi (2 : Int32), .unset, .unset] [(.int (2 : Int32))]) (fun _ kk => XS.iloadN X1.here hx rfl (hb yb d26_5) rfl kk) ?_
  refine ob T1 (mkF mG 7 #[oa t, oi (1 : Int32), oi (2 : Int32), .unset, .unset] [(.int (1 : Int32)), (.int (2 : Int32))]) (fun _ kk => XS.iloadN X1.here hx rfl (hb yb d26_6) rfl kk) ?_
  refine ob T1 (mkF mG 8 #[oa t, oi (1 : Int32), oi (2 : Int32), .unset, .unset] [(.int (1 : Int32))]) (fun _ kk => XS.isub X1.here hx rfl (hb yb d26_7) rfl kk) ?_
  refine ob T1 (mkF mG 9 #[oa t, oi (1 : Int32), oi (2 : Int32), oi (1 : Int32), .unset] []) (fun _ kk => XS.istoreN X1.here hx rfl (hb yb d26_8) rfl (l' := #[oa t, oi (1 : Int32), oi (2 : Int32), oi (1 : Int32), .unset]) rfl kk) ?_
  refine ob T1 (mkF mG 10 #[oa t, oi (1 : Int32), oi (2 : Int32), oi (1 : Int32), .unset] [(.int (1 : Int32))]) (fun _ kk => XS.iloadN X1.here hx rfl (hb yb d26_9) rfl kk) ?_
  obtain ⟨T2, h2, k2, X2, e2, E2, A2, st2⟩ := newP X1 hx hZ (ow hw 19 rfl) e1 (g := (mkF mG 10 #[oa t, oi (1 : Int32), oi (2 : Int32), oi (1 : Int32), .unset] [(.int (1 : Int32))])) rfl (hb yb d26_10) rfl (by decide) (cap := 1) (by decide) (by decide) (by decide) (by decide)
  obtain ⟨b2, g2⟩ : ∃ z, z = h0.size := ⟨_, rfl⟩
  rw [← g2] at A2 st2
  have n_b2 : n0 ≤ b2 := Nat.le_trans (on0 O0) (Nat.le_of_eq g2.symm)
  have sz_b2 : h0.size ≤ b2 := Nat.le_trans K0.1 (Nat.le_of_eq g2.symm)
  have ne_t_b2 : t ≠ b2 := Nat.ne_of_lt (Nat.lt_of_lt_of_le V_t.lt (Nat.le_of_eq g2.symm))
  have O2 := O0.ext E2
  have K2 := K0.ext E2
  have V2 : Arv Z h2 b2 k2 .byte (1 : Int32) [(.int (0 : Int32))] (.int (0 : Int32)) := (Arv.new A2 (by decide)).pad (pad_rep [] (.int (0 : Int32)) 1)
  refine ob T2 (mkF mG 12 #[oa t, oi (1 : Int32), oi (2 : Int32), oi (1 : Int32), .unset] [(.ref b2)]) (fun _ kk => st2 _ kk) ?_
  refine ob T2 (mkF mG 14 #[oa t, oi (1 : Int32), oi (2 : Int32), oi (1 : Int32), oa b2] []) (fun _ kk => XS.astore X2.here hx rfl (hb yb d26_12) rfl rfl (l' := #[oa t, oi (1 : Int32), oi (2 : Int32), oi (1 : Int32), oa b2]) rfl kk) ?_
  refine ob T2 (mkF mG 15 #[oa t, oi (1 : Int32), oi (2 : Int32), oi (1 : Int32), oa b2] [(.ref t)]) (fun _ kk => XS.aloadN X2.here hx rfl (hb yb d26_14) rfl rfl kk) ?_
  refine ob T2 (mkF mG 16 #[oa t, oi (1 : Int32), oi (2 : Int32), oi (1 : Int32), oa b2] [(.int (1 : Int32)), (.ref t)]) (fun _ kk => XS.iloadN X2.here hx rfl (hb yb d26_15) rfl kk) ?_
  refine ob T2 (mkF mG 18 #[oa t, oi (1 : Int32), oi (2 : Int32), oi (1 : Int32), oa b2] [(.ref b2), (.int (1 : Int32)), (.ref t)]) (fun _ kk => XS.aload X2.here hx rfl (hb yb d26_16) rfl rfl kk) ?_
  refine ob T2 (mkF mG 19 #[oa t, oi (1 : Int32), oi (2 : Int32), oi (1 : Int32), oa b2] [(.int (0 : Int32)), (.ref b2), (.int (1 : Int32)), (.ref t)]) (fun _ kk => XS.iconst X2.here hx rfl (hb yb d26_18) kk) ?_
  refine ob T2 (mkF mG 20 #[oa t, oi (1 : Int32), oi (2 : Int32), oi (1 : Int32), oa b2] [(.ref t), (.int (0 : Int32)), (.ref b2), (.int (1 : Int32)), (.ref t)]) (fun _ kk => XS.aloadN X2.here hx rfl (hb yb d26_19) rfl rfl kk) ?_
  obtain ⟨cl3, Ar3, -, S3, N3a, -, -⟩ := id (V_t.ext E2)
  refine oby (T' := T2) (g' := (mkF mG 21 #[oa t, oi (1 : Int32), oi (2 : Int32), oi (1 : Int32), oa b2] [(.int (2 : Int32)), (.int (0 : Int32)), (.ref b2), (.int (1 : Int32)), (.ref t)])) (fun ot ok => X2.arraylength hx (by rw [e2]; exact Ar3.1) (State.isArrayOf_alike hZ.alike Ar3.2.1) (g := (mkF mG 20 #[oa t, oi (1 : Int32), oi (2 : Int32), oi (1 : Int32), oa b2] [(.ref t), (.int (0 : Int32)), (.ref b2), (.int (1 : Int32)), (.ref t)])) rfl rfl (hb yb d26_20) _ (by rw [len_of S3 N3a]; exact ok)) ?_
  refine ob T2 (mkF mG 22 #[oa t, oi (1 : Int32), oi (2 : Int32), oi (1 : Int32), oa b2] [(.int (1 : Int32)), (.int (2 : Int32)), (.int (0 : Int32)), (.ref b2), (.int (1 : Int32)), (.ref t)]) (fun _ kk => XS.iloadN X2.here hx rfl (hb yb d26_21) rfl kk) ?_
  refine ob T2 (mkF mG 23 #[oa t, oi (1 : Int32), oi (2 : Int32), oi (1 : Int32), oa b2] [(.int (1 : Int32)), (.int (0 : Int32)), (.ref b2), (.int (1 : Int32)), (.ref t)]) (fun _ kk => XS.isub X2.here hx rfl (hb yb d26_22) rfl kk) ?_
  refine ob T2 (mkF mG 24 #[oa t, oi (1 : Int32), oi (2 : Int32), oi (1 : Int32), oa b2] [(.int (1 : Int32)), (.int (1 : Int32)), (.int (0 : Int32)), (.ref b2), (.int (1 : Int32)), (.ref t)]) (fun _ kk => XS.iloadN X2.here hx rfl (hb yb d26_23) rfl kk) ?_
  obtain ⟨_, _, ⟨T4, L4, k4, n4⟩, -, X4, ⟨Lc4, hQ4, l4, y4, z4⟩, st4⟩ := Jvm.LawKit.callS X2 hx (y := (⟨"java/lang/Math", "min", "(II)I"⟩ : MethodName)) hown (mvT hZ (ow hw 130 rfl)) (mvT hZ (ow hw 131 rfl)) (mvT hZ (ow hw 132 rfl)) (mvT hZ (ow hw 133 rfl)) (by decide) (backOf (W := 4) (rm_min1 l Z a0 hw [] w_instance w_A c_A zc  h2 n0 O2 hS ) hZ (ow hw 133 rfl) (ow hw 132 rfl) (by decide) (by decide)) (g := (mkF mG 24 #[oa t, oi (1 : Int32), oi (2 : Int32), oi (1 : Int32), oa b2] [(.int (1 : Int32)), (.int (1 : Int32)), (.int (0 : Int32)), (.ref b2), (.int (1 : Int32)), (.ref t)])) rfl (by rw [hml]; rfl) (argsL := [(.int (1 : Int32)), (.int (1 : Int32))]) (rest := [(.int (0 : Int32)), (.ref b2), (.int (1 : Int32)), (.ref t)]) (lenOf pd_8 rfl) rfl (by show 2 * 0 + _ ≤ _; exact Nat.le_of_eq rfl) (hb yb d26_24) (fun _ _ => ⟨rfl, e2, (by decide : 1 + 0 ≤ _), (by decide : 1 + 0 ≤ _)⟩)
  dsimp only [Pt.U, Pt.locs, Pt.cells, Pt.slots] at X4 l4 y4 z4 st4 hQ4
  subst l4 y4 z4
  obtain ⟨rfl, N4q, e4⟩ := hQ4
  have N4 := Fr.app N1 N4q
  refine ob T4 (mkF mG 27 #[oa t, oi (1 : Int32), oi (2 : Int32), oi (1 : Int32), oa b2] [(.int (1 : Int32)), (.int (0 : Int32)), (.ref b2), (.int (1 : Int32)), (.ref t)]) (fun _ kk => st4 _ kk) ?_
  obtain ⟨T5, h5, L5, X5, e5, N5, K5q, V5, st5⟩ := cpA X4 hx hZ hown (ow hw 134 rfl) (ow hw 137 rfl) (ow hw 135 rfl) (ow hw 136 rfl) e4 (V_t.ext E2) V2 (Or.inl ⟨rfl, rfl⟩) (sp := (1 : Int32)) (dp := (0 : Int32)) (nn := (1 : Int32)) (us := [(.int (d.toInt8.toInt32))]) (by decide) (by decide) (by decide) (by decide) (by decide) rfl (by decide) N4 n_b2 (g := (mkF mG 27 #[oa t, oi (1 : Int32), oi (2 : Int32), oi (1 : Int32), oa b2] [(.int (1 : Int32)), (.int (0 : Int32)), (.ref b2), (.int (1 : Int32)), (.ref t)])) rfl (by rw [hml]; rfl) rfl (hb yb d26_27) (by decide) (W := 0) (by show 2 * 0 + _ ≤ _; exact Nat.le_of_eq rfl) (by decide)
  have VV5 : Arv Z h5 b2 k2 .byte (1 : Int32) [(.int (d.toInt8.toInt32))] (.int (0 : Int32)) := V5
  have O5 := O2.keep K5q (allS n_b2 all0)
  have K5 := K2.trans K5q (allS (Or.inr sz_b2) all0)
  refine ob T5 (mkF mG 30 #[oa t, oi (1 : Int32), oi (2 : Int32), oi (1 : Int32), oa b2] []) (fun _ kk => st5 _ kk) ?_
  refine ob T5 (mkF mG 32 #[oa t, oi (1 : Int32), oi (2 : Int32), oi (1 : Int32), oa b2] [(.ref b2)]) (fun _ kk => XS.aload X5.here hx rfl (hb yb d26_30) rfl rfl kk) ?_
  obtain ⟨fs, hr, hrun, hended, hW, hsame⟩ := X5.leave (v := some (.ref b2)) (fun h => by rw [Bd.returns] at h; cases h)
  refine oout (oretA X5 hx Bd.returns rfl rfl (hb yb d26_32) hr) hrun hended ⟨_, _, rfl, ?_, ⟨_, rfl⟩, hW, hsame.mono (by decide) (by decide)⟩
  show Q_rm_cob1 Z w_instance w_A c_A zc t kb c d h0 n0 _ T5.heap _
  rw [e5]
  exact ⟨b2, rfl, N5, K5, O5, n_b2, sz_b2⟩

theorem d25_0 : decode jdk_65_method_132_code 0 = .ok (.iload_n 1, 1) := by decide +kernel
theorem d25_1 : decode jdk_65_method_132_code 1 = .ok (.ifCond .ne 9, 3) := by decide +kernel
theorem d25_4 : decode jdk_65_method_132_code 4 = .ok (.iload_n 2, 1) := by decide +kernel
theorem d25_5 : decode jdk_65_method_132_code 5 = .ok (.aload_n 0, 1) := by decide +kernel
theorem d25_6 : decode jdk_65_method_132_code 6 = .ok (.arraylength, 1) := by decide +kernel
theorem d25_7 : decode jdk_65_method_132_code 7 = .ok (.if_icmp .eq 10, 3) := by decide +kernel
theorem d25_10 : decode jdk_65_method_132_code 10 = .ok (.aload_n 0, 1) := by decide +kernel
theorem d25_11 : decode jdk_65_method_132_code 11 = .ok (.iload_n 1, 1) := by decide +kernel
theorem d25_12 : decode jdk_65_method_132_code 12 = .ok (.iload_n 2, 1) := by decide +kernel
theorem d25_13 : decode jdk_65_method_132_code 13 = .ok (.invokestatic 339, 3) := by decide +kernel
theorem d25_16 : decode jdk_65_method_132_code 16 = .ok (.areturn, 1) := by decide +kernel
theorem pd_9 : parseMethodDescriptor "([BII)[B" = some ⟨[(.array .byte), .int, .int], some (.array .byte)⟩ := by decide +kernel
def Q_rm_cor0 (Z : State) (w_instance : Addr) (w_A : Addr) (c_A : Cell) (zc : Int32) (t : Addr) (kb : ClassId) (c : Int32) (d : Int32) (h0 : Heap) (n0 : Nat) (v : Option Value) (h : Heap) (L : List Loc) : Prop := ∃ (b0 : Addr), v = some (.ref b0) ∧ Fr n0 L ∧ Keep h0 h [] ∧ Old Z n0 h ∧ n0 ≤ b0 ∧ h0.size ≤ b0
set_option maxRecDepth 65536 in
set_option maxHeartbeats 40000000 in
theorem rm_cor0 (l : Launch) (Z : State) (a0 : Array Value) (hw : ∀ d ∈ tables_1, d.before a0 Z = true) (ws : List Jvm.Cond) (w_instance : Addr) (w_A : Addr) (c_A : Cell) (zc : Int32) (t : Addr) (kb : ClassId) (c : Int32) (d : Int32) (h0 : Heap) (n0 : Nat) (O0 : Old Z n0 h0) (hS : St0 Z w_instance w_A c_A zc ) (V_t : Arv Z h0 t kb .byte (2 : Int32) [(.int (c.toInt8.toInt32)), (.int (d.toInt8.toInt32))] (.int (0 : Int32))) :
    MetFree l (⟨"java/util/Arrays", "copyOfRange", "([BII)[B"⟩ : MethodName) (head1 (Jvm.Cond.code (⟨"java/util/Arrays", "copyOfRange", "([BII)[B"⟩ : MethodName) jdk_65_method_132_code 3 (some (.array .byte)) :: ws) ({ frames := 2, cells := 1, slots := 1, locals := 56 } : Room)) (fun aG UG => aG = #[(.ref t), (.int (0 : Int32)), (.int (1 : Int32))] ∧ Z.Warmed39 UG.vm ∧ UG.heap = h0) (fun _ _ _ _ _ => True) (fun _ UG oG UG' => ∃ vG LG, oG = .returned vG ∧ Q_rm_cor0 Z w_instance w_A c_A zc t kb c d h0 n0 vG UG'.heap LG ∧ FrameEnd UG oG UG' LG ({ frames := 2, cells := 1, slots := 1, locals := 56 } : Room).cells ({ frames := 2, cells := 1, slots := 1, locals := 56 } : Room).slots) := by
  refine MetFree.of_bodySF (plainFor_of_name pn_3) hisR ?_
  intro pG eG sG mG rG bG fG cG s₁ Bd hml0 hP hK
  obtain ⟨rfl, hZ, hh⟩ := hP
  have hx := Bd.exec
  have yb := Bd.bytes
  have hml : cG.maxLocals = 3 := hml0
  have hown : sG.vm.findClass "java/util/Arrays" = some mG.cls := findClass_of_methodNamed Bd.named
  have hnm := (name_of_methodNamed Bd.named Bd.method).1
  have X0 : Stand pG l eG ({ frames := 2, cells := 1, slots := 1, locals := 56 } : Room) sG mG #[(.ref t), (.int (0 : Int32)), (.int (1 : Int32))] bG fG cG s₁ [] 0 0 := Stand.of_body Bd
  have e0 : s₁.heap = h0 := by rw [← hh, Bd.state]; rfl
  have N0 := Fr.nil n0
  have K0 := Keep.refl h0 []
  obtain ⟨S_w_instance, E_w_instance, S_w_A, E_w_A, V_w_A, S_zc, hzc⟩ := (id hS : St0 Z w_instance w_A c_A zc )
  refine ostart (g' := (mkF mG 0 #[oa t, oi (0 : Int32), oi (1 : Int32)] [])) (by first | (simp [entryFrame, mkF, argsToLocals, Value.category]; done) | rfl) ?_
  refine ob s₁ (mkF mG 1 #[oa t, oi (0 : Int32), oi (1 : Int32)] [(.int (0 : Int32))]) (fun _ kk => XS.iloadN X0.here hx rfl (hb yb d25_0) rfl kk) ?_
  refine ob s₁ (mkF mG 4 #[oa t, oi (0 : Int32), oi (1 : Int32)] []) (fun _ kk => XS.ifNo X0.here hx rfl (hb yb d25_1) rfl ((if0 _ _).trans (teq (by decide : (0 : Int32) = (0 : Int32))).2) kk) ?_
  refine ob s₁ (mkF mG 5 #[oa t, oi (0 : Int32), oi (1 : Int32)] [(.int (1 : Int32))]) (fun _ kk => XS.iloadN X0.here hx rfl (hb yb d25_4) rfl kk) ?_
  refine ob s₁ (mkF mG 6 #[oa t, oi (0 : Int32), oi (1 : Int32)] [(.ref t), (.int (1 : Int32))]) (fun _ kk => XS.aloadN X0.here hx rfl (hb yb d25_5) rfl rfl kk) ?_
  obtain ⟨cl1, Ar1, -, S1, N1a, -, -⟩ := id V_t
  refine oby (T' := s₁) (g' := (mkF mG 7 #[oa t, oi (0 : Int32), oi (1 : Int32)] [(.int (2 : Int32)), (.int (1 : Int32))])) (fun ot ok => X0.arraylength hx (by rw [e0]; exact Ar1.1) (State.isArrayOf_alike hZ.alike Ar1.2.1) (g := (mkF mG 6 #[oa t, oi (0 : Int32), oi (1 : Int32)] [(.ref t), (.int (1 : Int32))])) rfl rfl (hb yb d25_6) _ (by rw [len_of S1 N1a]; exact ok)) ?_
  refine ob s₁ (mkF mG 10 #[oa t, oi (0 : Int32), oi (1 : Int32)] []) (fun _ kk => XS.icmpNo X0.here hx rfl (hb yb d25_7) rfl (feq (by decide : ¬ ((1 : Int32) = (2 : Int32)))).1 kk) ?_
  refine ob s₁ (mkF mG 11 #[oa t, oi (0 : Int32), oi (1 : Int32)] [(.ref t)]) (fun _ kk => XS.aloadN X0.here hx rfl (hb yb d25_10) rfl rfl kk) ?_
  refine ob s₁ (mkF mG 12 #[oa t, oi (0 : Int32), oi (1 : Int32)] [(.int (0 : Int32)), (.ref t)]) (fun _ kk => XS.iloadN X0.here hx rfl (hb yb d25_11) rfl kk) ?_
  refine ob s₁ (mkF mG 13 #[oa t, oi (0 : Int32), oi (1 : Int32)] [(.int (1 : Int32)), (.int (0 : Int32)), (.ref t)]) (fun _ kk => XS.iloadN X0.here hx rfl (hb yb d25_12) rfl kk) ?_
  obtain ⟨_, _, ⟨T2, L2, k2, n2⟩, -, X2, ⟨Lc2, hQ2, l2, y2, z2⟩, st2⟩ := Jvm.LawKit.callS X0 hx (y := (⟨"java/util/Arrays", "copyOfRangeByte", "([BII)[B"⟩ : MethodName)) hown (mvT hZ (ow hw 124 rfl)) (mvT hZ (ow hw 125 rfl)) (mvT hZ (ow hw 122 rfl)) (mvT hZ (ow hw 126 rfl)) (by decide) (backOf (W := 0) (rm_cob0 l Z a0 hw [] w_instance w_A c_A zc t kb c d h0 n0 O0 hS V_t) hZ (ow hw 126 rfl) (ow hw 122 rfl) (by decide) (by decide)) (g := (mkF mG 13 #[oa t, oi (0 : Int32), oi (1 : Int32)] [(.int (1 : Int32)), (.int (0 : Int32)), (.ref t)])) rfl (by rw [hml]; rfl) (argsL := [(.ref t), (.int (0 : Int32)), (.int (1 : Int32))]) (rest := []) (lenOf pd_9 rfl) rfl (by show 2 * 0 + _ ≤ _; exact Nat.le_of_eq rfl) (hb yb d25_13) (fun _ _ => ⟨rfl, e0, (by decide : 0 + 1 ≤ _), (by decide : 0 + 1 ≤ _)⟩)
  dsimp only [Pt.U, Pt.locs, Pt.cells, Pt.slots] at X2 l2 y2 z2 st2 hQ2
  subst l2 y2 z2
  obtain ⟨h2, e2⟩ : ∃ h, T2.heap = h := ⟨_, rfl⟩
  rw [e2] at hQ2
  obtain ⟨b0_2, rfl, N2q, K2q, O2, n_b0_2, z_b0_2⟩ := hQ2
  have N2 := Fr.app N0 N2q
  have sz_b0_2 : h0.size ≤ b0_2 := Nat.le_trans K0.1 z_b0_2
  have ne_t_b0_2 : t ≠ b0_2 := Nat.ne_of_lt (Nat.lt_of_lt_of_le V_t.lt z_b0_2)
  have K2 := K0.trans K2q all0
  refine ob T2 (mkF mG 16 #[oa t, oi (0 : Int32), oi (1 : Int32)] [(.ref b0_2)]) (fun _ kk => st2 _ kk) ?_
  obtain ⟨fs, hr, hrun, hended, hW, hsame⟩ := X2.leave (v := some (.ref b0_2)) (fun h => by rw [Bd.returns] at h; cases h)
  refine oout (oretA X2 hx Bd.returns rfl rfl (hb yb d25_16) hr) hrun hended ⟨_, _, rfl, ?_, ⟨_, rfl⟩, hW, hsame.mono (by decide) (by decide)⟩
  show Q_rm_cor0 Z w_instance w_A c_A zc t kb c d h0 n0 _ T2.heap _
  rw [e2]
  exact ⟨b0_2, rfl, N2, K2, O2, n_b0_2, sz_b0_2⟩

def Q_rm_cor1 (Z : State) (w_instance : Addr) (w_A : Addr) (c_A : Cell) (zc : Int32) (t : Addr) (kb : ClassId) (c : Int32) (d : Int32) (h0 : Heap) (n0 : Nat) (v : Option Value) (h : Heap) (L : List Loc) : Prop := ∃ (b0 : Addr), v = some (.ref b0) ∧ Fr n0 L ∧ Keep h0 h [] ∧ Old Z n0 h ∧ n0 ≤ b0 ∧ h0.size ≤ b0
set_option maxRecDepth 65536 in
set_option maxHeartbeats 40000000 in
theorem rm_cor1 (l : Launch) (Z : State) (a0 : Array Value) (hw : ∀ d ∈ tables_1, d.before a0 Z = true) (ws : List Jvm.Cond) (w_instance : Addr) (w_A : Addr) (c_A : Cell) (zc : Int32) (t : Addr) (kb : ClassId) (c : Int32) (d : Int32) (h0 : Heap) (n0 : Nat) (O0 : Old Z n0 h0) (hS : St0 Z w_instance w_A c_A zc ) (V_t : Arv Z h0 t kb .byte (2 : Int32) [(.int (c.toInt8.toInt32)), (.int (d.toInt8.toInt32))] (.int (0 : Int32))) :
    MetFree l (⟨"java/util/Arrays", "copyOfRange", "([BII)[B"⟩ : MethodName) (head1 (Jvm.Cond.code (⟨"java/util/Arrays", "copyOfRange", "([BII)[B"⟩ : MethodName) jdk_65_method_132_code 3 (some (.array .byte)) :: ws) ({ frames := 2, cells := 1, slots := 1, locals := 56 } : Room)) (fun aG UG => aG = #[(.ref t), (.int (1 : Int32)), (.int (2 : Int32))] ∧ Z.Warmed39 UG.vm ∧ UG.heap = h0) (fun _ _ _ _ _ => True) (fun _ UG oG UG' => ∃ vG LG, oG = .returned vG ∧ Q_rm_cor1 Z w_instance w_A c_A zc t kb c d h0 n0 vG UG'.heap LG ∧ FrameEnd UG oG UG' LG ({ frames := 2, cells := 1, slots := 1, locals := 56 } : Room).cells ({ frames := 2, cells := 1, slots := 1, locals := 56 } : Room).slots) := by
  refine MetFree.of_bodySF (plainFor_of_name pn_3) hisR ?_
  intro pG eG sG mG rG bG fG cG s₁ Bd hml0 hP hK
  obtain ⟨rfl, hZ, hh⟩ := hP
  have hx := Bd.exec
  have yb := Bd.bytes
  have hml : cG.maxLocals = 3 := hml0
  have hown : sG.vm.findClass "java/util/Arrays" = some mG.cls := findClass_of_methodNamed Bd.named
  have hnm := (name_of_methodNamed Bd.named Bd.method).1
  have X0 : Stand pG l eG ({ frames := 2, cells := 1, slots := 1, locals := 56 } : Room) sG mG #[(.ref t), (.int (1 : Int32)), (.int (2 : Int32))] bG fG cG s₁ [] 0 0 := Stand.of_body Bd
  have e0 : s₁.heap = h0 := by rw [← hh, Bd.state]; rfl
  have N0 := Fr.nil n0
  have K0 := Keep.refl h0 []
  obtain ⟨S_w_instance, E_w_instance, S_w_A, E_w_A, V_w_A, S_zc, hzc⟩ := (id hS : St0 Z w_instance w_A c_A zc )
  refine ostart (g' := (mkF mG 0 #[oa t, oi (1 : Int32), oi (2 : Int32)] [])) (by first | (simp [entryFrame, mkF, argsToLocals, Value.category]; done) | rfl) ?_
  refine ob s₁ (mkF mG 1 #[oa t, oi (1 : Int32), oi (2 : Int32)] [(.int (1 : Int32))]) (fun _ kk => XS.iloadN X0.here hx rfl (hb yb d25_0) rfl kk) ?_
  refine ob s₁ (mkF mG 10 #[oa t, oi (1 : Int32), oi (2 : Int32)] []) (fun _ kk => XS.ifYes X0.here hx rfl (pc0 := 1) (pc' := 10) rfl (hb yb d25_1) rfl ((if0 _ _).trans (feq (by decide : ¬ ((1 : Int32) = (0 : Int32)))).2) (by decide) (by decide) kk) ?_
  refine ob s₁ (mkF mG 11 #[oa t, oi (1 : Int32), oi (2 : Int32)] [(.ref t)]) (fun _ kk => XS.aloadN X0.here hx rfl (hb yb d25_10) rfl rfl kk) ?_
  refine ob s₁ (mkF mG 12 #[oa t, oi (1 : Int32), oi (2 : Int32)] [(.int (1 : Int32)), (.ref t)]) (fun _ kk => XS.iloadN X0.here hx rfl (hb yb d25_11) rfl kk) ?_
  refine ob s₁ (mkF mG 13 #[oa t, oi (1 : Int32), oi (2 : Int32)] [(.int (2 : Int32)), (.int (1 : Int32)), (.ref t)]) (fun _ kk => XS.iloadN X0.here hx rfl (hb yb d25_12) rfl kk) ?_
  obtain ⟨_, _, ⟨T1, L1, k1, n1⟩, -, X1, ⟨Lc1, hQ1, l1, y1, z1⟩, st1⟩ := Jvm.LawKit.callS X0 hx (y := (⟨"java/util/Arrays", "copyOfRangeByte", "([BII)[B"⟩ : MethodName)) hown (mvT hZ (ow hw 124 rfl)) (mvT hZ (ow hw 125 rfl)) (mvT hZ (ow hw 122 rfl)) (mvT hZ (ow hw 126 rfl)) (by decide) (backOf (W := 0) (rm_cob1 l Z a0 hw [] w_instance w_A c_A zc t kb c d h0 n0 O0 hS V_t) hZ (ow hw 126 rfl) (ow hw 122 rfl) (by decide) (by decide)) (g := (mkF mG 13 #[oa t, oi (1 : Int32), oi (2 : Int32)] [(.int (2 : Int32)), (.int (1 : Int32)), (.ref t)])) rfl (by rw [hml]; rfl) (argsL := [(.ref t), (.int (1 : Int32)), (.int (2 : Int32))]) (rest := []) (lenOf pd_9 rfl) rfl (by show 2 * 0 + _ ≤ _; exact Nat.le_of_eq rfl) (hb yb d25_13) (fun _ _ => ⟨rfl, e0, (by decide : 0 + 1 ≤ _), (by decide : 0 + 1 ≤ _)⟩)
  dsimp only [Pt.U, Pt.locs, Pt.cells, Pt.slots] at X1 l1 y1 z1 st1 hQ1
  subst l1 y1 z1
  obtain ⟨h1, e1⟩ : ∃ h, T1.heap = h := ⟨_, rfl⟩
  rw [e1] at hQ1
  obtain ⟨b0_1, rfl, N1q, K1q, O1, n_b0_1, z_b0_1⟩ := hQ1
  have N1 := Fr.app N0 N1q
  have sz_b0_1 : h0.size ≤ b0_1 := Nat.le_trans K0.1 z_b0_1
  have ne_t_b0_1 : t ≠ b0_1 := Nat.ne_of_lt (Nat.lt_of_lt_of_le V_t.lt z_b0_1)
  have K1 := K0.trans K1q all0
  refine ob T1 (mkF mG 16 #[oa t, oi (1 : Int32), oi (2 : Int32)] [(.ref b0_1)]) (fun _ kk => st1 _ kk) ?_
  obtain ⟨fs, hr, hrun, hended, hW, hsame⟩ := X1.leave (v := some (.ref b0_1)) (fun h => by rw [Bd.returns] at h; cases h)
  refine oout (oretA X1 hx Bd.returns rfl rfl (hb yb d25_16) hr) hrun hended ⟨_, _, rfl, ?_, ⟨_, rfl⟩, hW, hsame.mono (by decide) (by decide)⟩
  show Q_rm_cor1 Z w_instance w_A c_A zc t kb c d h0 n0 _ T1.heap _
  rw [e1]
  exact ⟨b0_1, rfl, N1, K1, O1, n_b0_1, sz_b0_1⟩

theorem d24_0 : decode jdk_43_method_47_code 0 = .ok (.iload_n 2, 1) := by decide +kernel
theorem d24_1 : decode jdk_43_method_47_code 1 = .ok (.ifCond .ne 6, 3) := by decide +kernel
theorem d24_7 : decode jdk_43_method_47_code 7 = .ok (.new 1, 3) := by decide +kernel
theorem d24_10 : decode jdk_43_method_47_code 10 = .ok (.dup, 1) := by decide +kernel
theorem d24_11 : decode jdk_43_method_47_code 11 = .ok (.aload_n 0, 1) := by decide +kernel
theorem d24_12 : decode jdk_43_method_47_code 12 = .ok (.iload_n 1, 1) := by decide +kernel
theorem d24_13 : decode jdk_43_method_47_code 13 = .ok (.iload_n 1, 1) := by decide +kernel
theorem d24_14 : decode jdk_43_method_47_code 14 = .ok (.iload_n 2, 1) := by decide +kernel
theorem d24_15 : decode jdk_43_method_47_code 15 = .ok (.iadd, 1) := by decide +kernel
theorem d24_16 : decode jdk_43_method_47_code 16 = .ok (.invokestatic 232, 3) := by decide +kernel
theorem d24_19 : decode jdk_43_method_47_code 19 = .ok (.iconst 0, 1) := by decide +kernel
theorem d24_20 : decode jdk_43_method_47_code 20 = .ok (.invokespecial 112, 3) := by decide +kernel
theorem d24_23 : decode jdk_43_method_47_code 23 = .ok (.areturn, 1) := by decide +kernel
theorem pd_10 : parseMethodDescriptor "([BB)V" = some ⟨[(.array .byte), .byte], none⟩ := by decide +kernel
def Q_rm_nst0 (Z : State) (w_instance : Addr) (w_A : Addr) (c_A : Cell) (zc : Int32) (t : Addr) (kb : ClassId) (c : Int32) (d : Int32) (h0 : Heap) (n0 : Nat) (v : Option Value) (h : Heap) (L : List Loc) : Prop := ∃ (r0 : Addr), v = some (.ref r0) ∧ Fr n0 L ∧ Keep h0 h [] ∧ Old Z n0 h
set_option maxRecDepth 65536 in
set_option maxHeartbeats 40000000 in
theorem rm_nst0 (l : Launch) (Z : State) (a0 : Array Value) (hw : ∀ d ∈ tables_1, d.before a0 Z = true) (ws : List Jvm.Cond) (w_instance : Addr) (w_A : Addr) (c_A : Cell) (zc : Int32) (t : Addr) (kb : ClassId) (c : Int32) (d : Int32) (h0 : Heap) (n0 : Nat) (O0 : Old Z n0 h0) (hS : St0 Z w_instance w_A c_A zc ) (V_t : Arv Z h0 t kb .byte (2 : Int32) [(.int (c.toInt8.toInt32)), (.int (d.toInt8.toInt32))] (.int (0 : Int32))) :
    MetFree l (⟨"java/lang/StringLatin1", "newString", "([BII)Ljava/lang/String;"⟩ : MethodName) (head1 (Jvm.Cond.code (⟨"java/lang/StringLatin1", "newString", "([BII)Ljava/lang/String;"⟩ : MethodName) jdk_43_method_47_code 3 (some (.object "java/lang/String")) :: ws) ({ frames := 3, cells := 2, slots := 5, locals := 72 } : Room)) (fun aG UG => aG = #[(.ref t), (.int (0 : Int32)), (.int (1 : Int32))] ∧ Z.Warmed39 UG.vm ∧ UG.heap = h0) (fun _ _ _ _ _ => True) (fun _ UG oG UG' => ∃ vG LG, oG = .returned vG ∧ Q_rm_nst0 Z w_instance w_A c_A zc t kb c d h0 n0 vG UG'.heap LG ∧ FrameEnd UG oG UG' LG ({ frames := 3, cells := 2, slots := 5, locals := 72 } : Room).cells ({ frames := 3, cells := 2, slots := 5, locals := 72 } : Room).slots) := by
  refine MetFree.of_bodySF (plainFor_of_name pn_1) hisR ?_
  intro pG eG sG mG rG bG fG cG s₁ Bd hml0 hP hK
  obtain ⟨rfl, hZ, hh⟩ := hP
  have hx := Bd.exec
  have yb := Bd.bytes
  have hml : cG.maxLocals = 3 := hml0
  have hown : sG.vm.findClass "java/lang/StringLatin1" = some mG.cls := findClass_of_methodNamed Bd.named
  have hnm := (name_of_methodNamed Bd.named Bd.method).1
  have X0 : Stand pG l eG ({ frames := 3, cells := 2, slots := 5, locals := 72 } : Room) sG mG #[(.ref t), (.int (0 : Int32)), (.int (1 : Int32))] bG fG cG s₁ [] 0 0 := Stand.of_body Bd
  have e0 : s₁.heap = h0 := by rw [← hh, Bd.state]; rfl
  have N0 := Fr.nil n0
  have K0 := Keep.refl h0 []
  obtain ⟨S_w_instance, E_w_instance, S_w_A, E_w_A, V_w_A, S_zc, hzc⟩ := (id hS : St0 Z w_instance w_A c_A zc )
  refine ostart (g' := (mkF mG 0 #[oa t, oi (0 : Int32), oi (1 : Int32)] [])) (by first | (simp [entryFrame, mkF, argsToLocals, Value.category]; done) | rfl) ?_
  refine ob s₁ (mkF mG 1 #[oa t, oi (0 : Int32), oi (1 : Int32)] [(.int (1 : Int32))]) (fun _ kk => XS.iloadN X0.here hx rfl (hb yb d24_0) rfl kk) ?_
  refine ob s₁ (mkF mG 7 #[oa t, oi (0 : Int32), oi (1 : Int32)] []) (fun _ kk => XS.ifYes X0.here hx rfl (pc0 := 1) (pc' := 7) rfl (hb yb d24_1) rfl ((if0 _ _).trans (feq (by decide : ¬ ((1 : Int32) = (0 : Int32)))).2) (by decide) (by decide) kk) ?_
  obtain ⟨T1, h1, X1, e1, E1, A1, D1, _x1, st1⟩ := newO X0 hx hZ hown (ow hw 119 rfl) (ow hw 5 rfl) (ow hw 6 rfl) e0 (g := (mkF mG 7 #[oa t, oi (0 : Int32), oi (1 : Int32)] [])) rfl (hb yb d24_7) (by decide) (by decide)
  obtain ⟨b1, g1⟩ : ∃ z, z = h0.size := ⟨_, rfl⟩
  rw [← g1] at A1 D1 st1
  have n_b1 : n0 ≤ b1 := Nat.le_trans (on0 O0) (Nat.le_of_eq g1.symm)
  have sz_b1 : h0.size ≤ b1 := Nat.le_trans K0.1 (Nat.le_of_eq g1.symm)
  have ne_t_b1 : t ≠ b1 := Nat.ne_of_lt (Nat.lt_of_lt_of_le V_t.lt (Nat.le_of_eq g1.symm))
  have O1 := O0.ext E1
  have K1 := K0.ext E1
  have F1_20 : Fld Z h1 b1 "java/lang/String" "value" "[B" .null := D1 (Or.inr (ow hw 20 rfl)) (ty := (.array .byte)) (by decide)
  have F1_21 : Fld Z h1 b1 "java/lang/String" "coder" "B" (.int (0 : Int32)) := D1 (Or.inr (ow hw 21 rfl)) (ty := .byte) (by decide)
  refine ob T1 (mkF mG 10 #[oa t, oi (0 : Int32), oi (1 : Int32)] [(.ref b1)]) (fun _ kk => st1 _ kk) ?_
  refine ob T1 (mkF mG 11 #[oa t, oi (0 : Int32), oi (1 : Int32)] [(.ref b1), (.ref b1)]) (fun _ kk => XS.dup X1.here hx rfl (hb yb d24_10) rfl rfl kk) ?_
  refine ob T1 (mkF mG 12 #[oa t, oi (0 : Int32), oi (1 : Int32)] [(.ref t), (.ref b1), (.ref b1)]) (fun _ kk => XS.aloadN X1.here hx rfl (hb yb d24_11) rfl rfl kk) ?_
  refine ob T1 (mkF mG 13 #[oa t, oi (0 : Int32), oi (1 : Int32)] [(.int (0 : Int32)), (.ref t), (.ref b1), (.ref b1)]) (fun _ kk => XS.iloadN X1.here hx rfl (hb yb d24_12) rfl kk) ?_
  refine ob T1 (mkF mG 14 #[oa t, oi (0 : Int32), oi (1 : Int32)] [(.int (0 : Int32)), (.int (0 : Int32)), (.ref t), (.ref b1), (.ref b1)]) (fun _ kk => XS.iloadN X1.here hx rfl (hb yb d24_13) rfl kk) ?_
  refine ob T1 (mkF mG 15 #[oa t, oi (0 : Int32), oi (1 : Int32)] [(.int (1 : Int32)), (.int (0 : Int32)), (.int (0 : Int32)), (.ref t), (.ref b1), (.ref b1)]) (fun _ kk => XS.iloadN X1.here hx rfl (hb yb d24_14) rfl kk) ?_
  refine ob T1 (mkF mG 16 #[oa t, oi (0 : Int32), oi (1 : Int32)] [(.int (1 : Int32)), (.int (0 : Int32)), (.ref t), (.ref b1), (.ref b1)]) (fun _ kk => XS.iadd X1.here hx rfl (hb yb d24_15) rfl kk) ?_
  obtain ⟨_, _, ⟨T2, L2, k2, n2⟩, -, X2, ⟨Lc2, hQ2, l2, y2, z2⟩, st2⟩ := Jvm.LawKit.callS X1 hx (y := (⟨"java/util/Arrays", "copyOfRange", "([BII)[B"⟩ : MethodName)) hown (mvT hZ (ow hw 120 rfl)) (mvT hZ (ow hw 121 rfl)) (mvT hZ (ow hw 122 rfl)) (mvT hZ (ow hw 123 rfl)) (by decide) (backOf (W := 2) (rm_cor0 l Z a0 hw [] w_instance w_A c_A zc t kb c d h1 n0 O1 hS (V_t.ext E1)) hZ (ow hw 123 rfl) (ow hw 122 rfl) (by decide) (by decide)) (g := (mkF mG 16 #[oa t, oi (0 : Int32), oi (1 : Int32)] [(.int (1 : Int32)), (.int (0 : Int32)), (.ref t), (.ref b1), (.ref b1)])) rfl (by rw [hml]; rfl) (argsL := [(.ref t), (.int (0 : Int32)), (.int (1 : Int32))]) (rest := [(.ref b1), (.ref b1)]) (lenOf pd_9 rfl) rfl (by show 2 * 0 + _ ≤ _; exact Nat.le_of_eq rfl) (hb yb d24_16) (fun _ _ => ⟨rfl, e1, (by decide : 1 + 1 ≤ _), (by decide : 4 + 1 ≤ _)⟩)
  dsimp only [Pt.U, Pt.locs, Pt.cells, Pt.slots] at X2 l2 y2 z2 st2 hQ2
  subst l2 y2 z2
  obtain ⟨h2, e2⟩ : ∃ h, T2.heap = h := ⟨_, rfl⟩
  rw [e2] at hQ2
  obtain ⟨b0_2, rfl, N2q, K2q, O2, n_b0_2, z_b0_2⟩ := hQ2
  have N2 := Fr.app N0 N2q
  have sz_b0_2 : h0.size ≤ b0_2 := Nat.le_trans K1.1 z_b0_2
  have ne_t_b0_2 : t ≠ b0_2 := Nat.ne_of_lt (Nat.lt_of_lt_of_le (V_t.ext E1).lt z_b0_2)
  have ne_b1_b0_2 : b1 ≠ b0_2 := Nat.ne_of_lt (Nat.lt_of_lt_of_le A1.lt z_b0_2)
  have K2 := K1.trans K2q all0
  refine ob T2 (mkF mG 19 #[oa t, oi (0 : Int32), oi (1 : Int32)] [(.ref b0_2), (.ref b1), (.ref b1)]) (fun _ kk => st2 _ kk) ?_
  refine ob T2 (mkF mG 20 #[oa t, oi (0 : Int32), oi (1 : Int32)] [(.int (0 : Int32)), (.ref b0_2), (.ref b1), (.ref b1)]) (fun _ kk => XS.iconst X2.here hx rfl (hb yb d24_19) kk) ?_
  obtain ⟨_, _, ⟨T3, L3, k3, n3⟩, -, X3, ⟨Lc3, hQ3, l3, y3, z3⟩, st3⟩ := X2.specialBack hx (y := (⟨"java/lang/String", "<init>", "([BB)V"⟩ : MethodName)) rfl hown (mvT hZ (ow hw 138 rfl)) (mvT hZ (ow hw 139 rfl)) (mvT hZ (ow hw 140 rfl)) (by decide) (backOf (W := 1) (rm_bbi l Z a0 hw [] w_instance w_A c_A zc b1 b0_2 .null (.int (0 : Int32)) h2 n0 O2 hS (A1.keep K2q) (F1_20.keep K2q nin0) (F1_21.keep K2q nin0) n_b1) hZ (ow hw 140 rfl) (ow hw 6 rfl) (by decide) (by decide)) (g := (mkF mG 20 #[oa t, oi (0 : Int32), oi (1 : Int32)] [(.int (0 : Int32)), (.ref b0_2), (.ref b1), (.ref b1)])) rfl (by rw [hml]; rfl) (Steps.refl _) (a := b1) (argsL := [(.ref b0_2), (.int (0 : Int32))]) (rest := [(.ref b1)]) (lenOf pd_10 rfl) rfl (by show 2 * 0 + _ ≤ _; exact Nat.le_of_eq rfl) (hb yb d24_20) (fun _ _ => ⟨rfl, e2, (by decide : 2 + 0 ≤ _), (by decide : 5 + 0 ≤ _)⟩)
  dsimp only [Pt.U, Pt.locs, Pt.cells, Pt.slots] at X3 l3 y3 z3 st3 hQ3
  subst l3 y3 z3
  obtain ⟨h3, e3⟩ : ∃ h, T3.heap = h := ⟨_, rfl⟩
  rw [e3] at hQ3
  obtain ⟨rfl, N3q, K3q, O3, F3_0, F3_1⟩ := hQ3
  have N3 := Fr.app N2 N3q
  have K3 := K2.trans K3q (allS (Or.inr sz_b1) all0)
  refine ob T3 (mkF mG 23 #[oa t, oi (0 : Int32), oi (1 : Int32)] [(.ref b1)]) (fun _ kk => st3.trans kk) ?_
  obtain ⟨fs, hr, hrun, hended, hW, hsame⟩ := X3.leave (v := some (.ref b1)) (fun h => by rw [Bd.returns] at h; cases h)
  refine oout (oretA X3 hx Bd.returns rfl rfl (hb yb d24_23) hr) hrun hended ⟨_, _, rfl, ?_, ⟨_, rfl⟩, hW, hsame.mono (by decide) (by decide)⟩
  show Q_rm_nst0 Z w_instance w_A c_A zc t kb c d h0 n0 _ T3.heap _
  rw [e3]
  exact ⟨b1, rfl, N3, K3, O3⟩

def Q_rm_nst1 (Z : State) (w_instance : Addr) (w_A : Addr) (c_A : Cell) (zc : Int32) (t : Addr) (kb : ClassId) (c : Int32) (d : Int32) (h0 : Heap) (n0 : Nat) (v : Option Value) (h : Heap) (L : List Loc) : Prop := ∃ (r0 : Addr), v = some (.ref r0) ∧ Fr n0 L ∧ Keep h0 h [] ∧ Old Z n0 h
set_option maxRecDepth 65536 in
set_option maxHeartbeats 40000000 in
theorem rm_nst1 (l : Launch) (Z : State) (a0 : Array Value) (hw : ∀ d ∈ tables_1, d.before a0 Z = true) (ws : List Jvm.Cond) (w_instance : Addr) (w_A : Addr) (c_A : Cell) (zc : Int32) (t : Addr) (kb : ClassId) (c : Int32) (d : Int32) (h0 : Heap) (n0 : Nat) (O0 : Old Z n0 h0) (hS : St0 Z w_instance w_A c_A zc ) (V_t : Arv Z h0 t kb .byte (2 : Int32) [(.int (c.toInt8.toInt32)), (.int (d.toInt8.toInt32))] (.int (0 : Int32))) :
    MetFree l (⟨"java/lang/StringLatin1", "newString", "([BII)Ljava/lang/String;"⟩ : MethodName) (head1 (Jvm.Cond.code (⟨"java/lang/StringLatin1", "newString", "([BII)Ljava/lang/String;"⟩ : MethodName) jdk_43_method_47_code 3 (some (.object "java/lang/String")) :: ws) ({ frames := 3, cells := 2, slots := 5, locals := 72 } : Room)) (fun aG UG => aG = #[(.ref t), (.int (1 : Int32)), (.int (1 : Int32))] ∧ Z.Warmed39 UG.vm ∧ UG.heap = h0) (fun _ _ _ _ _ => True) (fun _ UG oG UG' => ∃ vG LG, oG = .returned vG ∧ Q_rm_nst1 Z w_instance w_A c_A zc t kb c d h0 n0 vG UG'.heap LG ∧ FrameEnd UG oG UG' LG ({ frames := 3, cells := 2, slots := 5, locals := 72 } : Room).cells ({ frames := 3, cells := 2, slots := 5, locals := 72 } : Room).slots) := by
  refine MetFree.of_bodySF (plainFor_of_name pn_1) hisR ?_
  intro pG eG sG mG rG bG fG cG s₁ Bd hml0 hP hK
  obtain ⟨rfl, hZ, hh⟩ := hP
  have hx := Bd.exec
  have yb := Bd.bytes
  have hml : cG.maxLocals = 3 := hml0
  have hown : sG.vm.findClass "java/lang/StringLatin1" = some mG.cls := findClass_of_methodNamed Bd.named
  have hnm := (name_of_methodNamed Bd.named Bd.method).1
  have X0 : Stand pG l eG ({ frames := 3, cells := 2, slots := 5, locals := 72 } : Room) sG mG #[(.ref t), (.int (1 : Int32)), (.int (1 : Int32))] bG fG cG s₁ [] 0 0 := Stand.of_body Bd
  have e0 : s₁.heap = h0 := by rw [← hh, Bd.state]; rfl
  have N0 := Fr.nil n0
  have K0 := Keep.refl h0 []
  obtain ⟨S_w_instance, E_w_instance, S_w_A, E_w_A, V_w_A, S_zc, hzc⟩ := (id hS : St0 Z w_instance w_A c_A zc )
  refine ostart (g' := (mkF mG 0 #[oa t, oi (1 : Int32), oi (1 : Int32)] [])) (by first | (simp [entryFrame, mkF, argsToLocals, Value.category]; done) | rfl) ?_
  refine ob s₁ (mkF mG 1 #[oa t, oi (1 : Int32), oi (1 : Int32)] [(.int (1 : Int32))]) (fun _ kk => XS.iloadN X0.here hx rfl (hb yb d24_0) rfl kk) ?_
  refine ob s₁ (mkF mG 7 #[oa t, oi (1 : Int32), oi (1 : Int32)] []) (fun _ kk => XS.ifYes X0.here hx rfl (pc0 := 1) (pc' := 7) rfl (hb yb d24_1) rfl ((if0 _ _).trans (feq (by decide : ¬ ((1 : Int32) = (0 : Int32)))).2) (by decide) (by decide) kk) ?_
  obtain ⟨T1, h1, X1, e1, E1, A1, D1, _x1, st1⟩ := newO X0 hx hZ hown (ow hw 119 rfl) (ow hw 5 rfl) (ow hw 6 rfl) e0 (g := (mkF mG 7 #[oa t, oi (1 : Int32), oi (1 : Int32)] [])) rfl (hb yb d24_7) (by decide) (by decide)
  obtain ⟨b1, g1⟩ : ∃ z, z = h0.size := ⟨_, rfl⟩
  rw [← g1] at A1 D1 st1
  have n_b1 : n0 ≤ b1 := Nat.le_trans (on0 O0) (Nat.le_of_eq g1.symm)
  have sz_b1 : h0.size ≤ b1 := Nat.le_trans K0.1 (Nat.le_of_eq g1.symm)
  have ne_t_b1 : t ≠ b1 := Nat.ne_of_lt (Nat.lt_of_lt_of_le V_t.lt (Nat.le_of_eq g1.symm))
  have O1 := O0.ext E1
  have K1 := K0.ext E1
  have F1_20 : Fld Z h1 b1 "java/lang/String" "value" "[B" .null := D1 (Or.inr (ow hw 20 rfl)) (ty := (.array .byte)) (by decide)
  have F1_21 : Fld Z h1 b1 "java/lang/String" "coder" "B" (.int (0 : Int32)) := D1 (Or.inr (ow hw 21 rfl)) (ty := .byte) (by decide)
  refine ob T1 (mkF mG 10 #[oa t, oi (1 : Int32), oi (1 : Int32)] [(.ref b1)]) (fun _ kk => st1 _ kk) ?_
  refine ob T1 (mkF mG 11 #[oa t, oi (1 : Int32), oi (1 : Int32)] [(.ref b1), (.ref b1)]) (fun _ kk => XS.dup X1.here hx rfl (hb yb d24_10) rfl rfl kk) ?_
  refine ob T1 (mkF mG 12 #[oa t, oi (1 : Int32), oi (1 : Int32)] [(.ref t), (.ref b1), (.ref b1)]) (fun _ kk => XS.aloadN X1.here hx rfl (hb yb d24_11) rfl rfl kk) ?_
  refine ob T1 (mkF mG 13 #[oa t, oi (1 : Int32), oi (1 : Int32)] [(.int (1 : Int32)), (.ref t), (.ref b1), (.ref b1)]) (fun _ kk => XS.iloadN X1.here hx rfl (hb yb d24_12) rfl kk) ?_
  refine ob T1 (mkF mG 14 #[oa t, oi (1 : Int32), oi (1 : Int32)] [(.int (1 : Int32)), (.int (1 : Int32)), (.ref t), (.ref b1), (.ref b1)]) (fun _ kk => XS.iloadN X1.here hx rfl (hb yb d24_13) rfl kk) ?_
  refine ob T1 (mkF mG 15 #[oa t, oi (1 : Int32), oi (1 : Int32)] [(.int (1 : Int32)), (.int (1 : Int32)), (.int (1 : Int32)), (.ref t), (.ref b1), (.ref b1)]) (fun _ kk => XS.iloadN X1.here hx rfl (hb yb d24_14) rfl kk) ?_
  refine ob T1 (mkF mG 16 #[oa t, oi (1 : Int32), oi (1 : Int32)] [(.int (2 : Int32)), (.int (1 : Int32)), (.ref t), (.ref b1), (.ref b1)]) (fun _ kk => XS.iadd X1.here hx rfl (hb yb d24_15) rfl kk) ?_
  obtain ⟨_, _, ⟨T2, L2, k2, n2⟩, -, X2, ⟨Lc2, hQ2, l2, y2, z2⟩, st2⟩ := Jvm.LawKit.callS X1 hx (y := (⟨"java/util/Arrays", "copyOfRange", "([BII)[B"⟩ : MethodName)) hown (mvT hZ (ow hw 120 rfl)) (mvT hZ (ow hw 121 rfl)) (mvT hZ (ow hw 122 rfl)) (mvT hZ (ow hw 123 rfl)) (by decide) (backOf (W := 2) (rm_cor1 l Z a0 hw [] w_instance w_A c_A zc t kb c d h1 n0 O1 hS (V_t.ext E1)) hZ (ow hw 123 rfl) (ow hw 122 rfl) (by decide) (by decide)) (g := (mkF mG 16 #[oa t, oi (1 : Int32), oi (1 : Int32)] [(.int (2 : Int32)), (.int (1 : Int32)), (.ref t), (.ref b1), (.ref b1)])) rfl (by rw [hml]; rfl) (argsL := [(.ref t), (.int (1 : Int32)), (.int (2 : Int32))]) (rest := [(.ref b1), (.ref b1)]) (lenOf pd_9 rfl) rfl (by show 2 * 0 + _ ≤ _; exact Nat.le_of_eq rfl) (hb yb d24_16) (fun _ _ => ⟨rfl, e1, (by decide : 1 + 1 ≤ _), (by decide : 4 + 1 ≤ _)⟩)
  dsimp only [Pt.U, Pt.locs, Pt.cells, Pt.slots] at X2 l2 y2 z2 st2 hQ2
  subst l2 y2 z2
  obtain ⟨h2, e2⟩ : ∃ h, T2.heap = h := ⟨_, rfl⟩
  rw [e2] at hQ2
  obtain ⟨b0_2, rfl, N2q, K2q, O2, n_b0_2, z_b0_2⟩ := hQ2
  have N2 := Fr.app N0 N2q
  have sz_b0_2 : h0.size ≤ b0_2 := Nat.le_trans K1.1 z_b0_2
  have ne_t_b0_2 : t ≠ b0_2 := Nat.ne_of_lt (Nat.lt_of_lt_of_le (V_t.ext E1).lt z_b0_2)
  have ne_b1_b0_2 : b1 ≠ b0_2 := Nat.ne_of_lt (Nat.lt_of_lt_of_le A1.lt z_b0_2)
  have K2 := K1.trans K2q all0
  refine ob T2 (mkF mG 19 #[oa t, oi (1 : Int32), oi (1 : Int32)] [(.ref b0_2), (.ref b1), (.ref b1)]) (fun _ kk => st2 _ kk) ?_
  refine ob T2 (mkF mG 20 #[oa t, oi (1 : Int32), oi (1 : Int32)] [(.int (0 : Int32)), (.ref b0_2), (.ref b1), (.ref b1)]) (fun _ kk => XS.iconst X2.here hx rfl (hb yb d24_19) kk) ?_
  obtain ⟨_, _, ⟨T3, L3, k3, n3⟩, -, X3, ⟨Lc3, hQ3, l3, y3, z3⟩, st3⟩ := X2.specialBack hx (y := (⟨"java/lang/String", "<init>", "([BB)V"⟩ : MethodName)) rfl hown (mvT hZ (ow hw 138 rfl)) (mvT hZ (ow hw 139 rfl)) (mvT hZ (ow hw 140 rfl)) (by decide) (backOf (W := 1) (rm_bbi l Z a0 hw [] w_instance w_A c_A zc b1 b0_2 .null (.int (0 : Int32)) h2 n0 O2 hS (A1.keep K2q) (F1_20.keep K2q nin0) (F1_21.keep K2q nin0) n_b1) hZ (ow hw 140 rfl) (ow hw 6 rfl) (by decide) (by decide)) (g := (mkF mG 20 #[oa t, oi (1 : Int32), oi (1 : Int32)] [(.int (0 : Int32)), (.ref b0_2), (.ref b1), (.ref b1)])) rfl (by rw [hml]; rfl) (Steps.refl _) (a := b1) (argsL := [(.ref b0_2), (.int (0 : Int32))]) (rest := [(.ref b1)]) (lenOf pd_10 rfl) rfl (by show 2 * 0 + _ ≤ _; exact Nat.le_of_eq rfl) (hb yb d24_20) (fun _ _ => ⟨rfl, e2, (by decide : 2 + 0 ≤ _), (by decide : 5 + 0 ≤ _)⟩)
  dsimp only [Pt.U, Pt.locs, Pt.cells, Pt.slots] at X3 l3 y3 z3 st3 hQ3
  subst l3 y3 z3
  obtain ⟨h3, e3⟩ : ∃ h, T3.heap = h := ⟨_, rfl⟩
  rw [e3] at hQ3
  obtain ⟨rfl, N3q, K3q, O3, F3_0, F3_1⟩ := hQ3
  have N3 := Fr.app N2 N3q
  have K3 := K2.trans K3q (allS (Or.inr sz_b1) all0)
  refine ob T3 (mkF mG 23 #[oa t, oi (1 : Int32), oi (1 : Int32)] [(.ref b1)]) (fun _ kk => st3.trans kk) ?_
  obtain ⟨fs, hr, hrun, hended, hW, hsame⟩ := X3.leave (v := some (.ref b1)) (fun h => by rw [Bd.returns] at h; cases h)
  refine oout (oretA X3 hx Bd.returns rfl rfl (hb yb d24_23) hr) hrun hended ⟨_, _, rfl, ?_, ⟨_, rfl⟩, hW, hsame.mono (by decide) (by decide)⟩
  show Q_rm_nst1 Z w_instance w_A c_A zc t kb c d h0 n0 _ T3.heap _
  rw [e3]
  exact ⟨b1, rfl, N3, K3, O3⟩

theorem d22_0 : decode jdk_43_method_39_code 0 = .ok (.aload_n 0, 1) := by decide +kernel
theorem d22_1 : decode jdk_43_method_39_code 1 = .ok (.invokestatic 214, 3) := by decide +kernel
theorem d22_4 : decode jdk_43_method_39_code 4 = .ok (.istore_n 1, 1) := by decide +kernel
theorem d22_5 : decode jdk_43_method_39_code 5 = .ok (.iload_n 1, 1) := by decide +kernel
theorem d22_6 : decode jdk_43_method_39_code 6 = .ok (.aload_n 0, 1) := by decide +kernel
theorem d22_7 : decode jdk_43_method_39_code 7 = .ok (.arraylength, 1) := by decide +kernel
theorem d22_8 : decode jdk_43_method_39_code 8 = .ok (.if_icmp .ne 6, 3) := by decide +kernel
theorem d22_14 : decode jdk_43_method_39_code 14 = .ok (.aload_n 0, 1) := by decide +kernel
theorem d22_15 : decode jdk_43_method_39_code 15 = .ok (.invokestatic 217, 3) := by decide +kernel
theorem d22_18 : decode jdk_43_method_39_code 18 = .ok (.istore_n 2, 1) := by decide +kernel
theorem d22_19 : decode jdk_43_method_39_code 19 = .ok (.iload_n 1, 1) := by decide +kernel
theorem d22_20 : decode jdk_43_method_39_code 20 = .ok (.ifCond .gt 9, 3) := by decide +kernel
theorem d22_23 : decode jdk_43_method_39_code 23 = .ok (.iload_n 2, 1) := by decide +kernel
theorem d22_24 : decode jdk_43_method_39_code 24 = .ok (.aload_n 0, 1) := by decide +kernel
theorem d22_25 : decode jdk_43_method_39_code 25 = .ok (.arraylength, 1) := by decide +kernel
theorem d22_26 : decode jdk_43_method_39_code 26 = .ok (.if_icmp .ge 7, 3) := by decide +kernel
theorem d22_33 : decode jdk_43_method_39_code 33 = .ok (.iconst 0, 1) := by decide +kernel
theorem d22_34 : decode jdk_43_method_39_code 34 = .ok (.istore_n 3, 1) := by decide +kernel
theorem d22_35 : decode jdk_43_method_39_code 35 = .ok (.iload_n 3, 1) := by decide +kernel
theorem d22_36 : decode jdk_43_method_39_code 36 = .ok (.ifCond .eq 14, 3) := by decide +kernel
theorem d22_50 : decode jdk_43_method_39_code 50 = .ok (.aconst_null, 1) := by decide +kernel
theorem d22_51 : decode jdk_43_method_39_code 51 = .ok (.areturn, 1) := by decide +kernel
def Q_rm_sx1N (Z : State) (w_instance : Addr) (w_A : Addr) (c_A : Cell) (zc : Int32) (t : Addr) (kb : ClassId) (c : Int32) (h0 : Heap) (n0 : Nat) (v : Option Value) (h : Heap) (L : List Loc) : Prop := v = some .null ∧ Fr n0 L ∧ h = h0
set_option maxRecDepth 65536 in
set_option maxHeartbeats 40000000 in
theorem rm_sx1N (l : Launch) (Z : State) (a0 : Array Value) (hw : ∀ d ∈ tables_1, d.before a0 Z = true) (ws : List Jvm.Cond) (w_instance : Addr) (w_A : Addr) (c_A : Cell) (zc : Int32) (t : Addr) (kb : ClassId) (c : Int32) (h0 : Heap) (n0 : Nat) (O0 : Old Z n0 h0) (hS : St0 Z w_instance w_A c_A zc ) (V_t : Arv Z h0 t kb .byte (1 : Int32) [(.int (c.toInt8.toInt32))] (.int (0 : Int32))) (rc : oRg c) (wc : oWs c = false) :
    MetFree l (⟨"java/lang/StringLatin1", "strip", "([B)Ljava/lang/String;"⟩ : MethodName) (head1 (Jvm.Cond.code (⟨"java/lang/StringLatin1", "strip", "([B)Ljava/lang/String;"⟩ : MethodName) jdk_43_method_39_code 4 (some (.object "java/lang/String")) :: ws) ({ frames := 3, cells := 0, slots := 0, locals := 44 } : Room)) (fun aG UG => aG = #[(.ref t)] ∧ Z.Warmed39 UG.vm ∧ UG.heap = h0) (fun _ _ _ _ _ => True) (fun _ UG oG UG' => ∃ vG LG, oG = .returned vG ∧ Q_rm_sx1N Z w_instance w_A c_A zc t kb c h0 n0 vG UG'.heap LG ∧ FrameEnd UG oG UG' LG ({ frames := 3, cells := 0, slots := 0, locals := 44 } : Room).cells ({ frames := 3, cells := 0, slots := 0, locals := 44 } : Room).slots) := by
  refine MetFree.of_bodySF (plainFor_of_name pn_1) hisR ?_
  intro pG eG sG mG rG bG fG cG s₁ Bd hml0 hP hK
  obtain ⟨rfl, hZ, hh⟩ := hP
  have hx := Bd.exec
  have yb := Bd.bytes
  have hml : cG.maxLocals = 4 := hml0
  have hown : sG.vm.findClass "java/lang/StringLatin1" = some mG.cls := findClass_of_methodNamed Bd.named
  have hnm := (name_of_methodNamed Bd.named Bd.method).1
  have X0 : Stand pG l eG ({ frames := 3, cells := 0, slots := 0, locals := 44 } : Room) sG mG #[(.ref t)] bG fG cG s₁ [] 0 0 := Stand.of_body Bd
  have e0 : s₁.heap = h0 := by rw [← hh, Bd.state]; rfl
  have N0 := Fr.nil n0
  have K0 := Keep.refl h0 []
  obtain ⟨S_w_instance, E_w_instance, S_w_A, E_w_A, V_w_A, S_zc, hzc⟩ := (id hS : St0 Z w_instance w_A c_A zc )
  refine ostart (g' := (mkF mG 0 #[oa t, .unset, .unset, .unset] [])) (by first | (simp [entryFrame, mkF, argsToLocals, Value.category]; done) | rfl) ?_
  refine ob s₁ (mkF mG 1 #[oa t, .unset, .unset, .unset] [(.ref t)]) (fun _ kk => XS.aloadN X0.here hx rfl (hb yb d22_0) rfl rfl kk) ?_
  obtain ⟨_, _, ⟨T1, L1, k1, n1⟩, -, X1, ⟨Lc1, hQ1, l1, y1, z1⟩, st1⟩ := Jvm.LawKit.callS X0 hx (y := (⟨"java/lang/StringLatin1", "indexOfNonWhitespace", "([B)I"⟩ : MethodName)) hown (mvT hZ (ow hw 112 rfl)) (mvT hZ (ow hw 55 rfl)) (mvT hZ (ow hw 56 rfl)) (mvT hZ (ow hw 57 rfl)) (by decide) (backOf (W := 0) (rm_ix1N l Z a0 hw [] w_instance w_A c_A zc t kb c h0 n0 O0 hS V_t rc wc) hZ (ow hw 57 rfl) (ow hw 56 rfl) (by decide) (by decide)) (g := (mkF mG 1 #[oa t, .unset, .unset, .unset] [(.ref t)])) rfl (by rw [hml]; rfl) (argsL := [(.ref t)]) (rest := []) (lenOf pd_3 rfl) rfl (by show 2 * 0 + _ ≤ _; exact Nat.le_of_eq rfl) (hb yb d22_1) (fun _ _ => ⟨rfl, e0, (by decide : 0 + 0 ≤ _), (by decide : 0 + 0 ≤ _)⟩)
  dsimp only [Pt.U, Pt.locs, Pt.cells, Pt.slots] at X1 l1 y1 z1 st1 hQ1
  subst l1 y1 z1
  obtain ⟨rfl, N1q, e1⟩ := hQ1
  have N1 := Fr.app N0 N1q
  refine ob T1 (mkF mG 4 #[oa t, .unset, .unset, .unset] [(.int (0 : Int32))]) (fun _ kk => st1 _ kk) ?_
  refine ob T1 (mkF mG 5 #[oa t, oi (0 : Int32), .unset, .unset] []) (fun _ kk => XS.istoreN X1.here hx rfl (hb yb d22_4) rfl (l' := #[oa t, oi (0 : Int32), .unset, .unset]) rfl kk) ?_
  refine ob T1 (mkF mG 6 #[oa t, oi (0 : Int32), .unset, .unset] [(.int (0 : Int32))]) (fun _ kk => XS.iloadN X1.here hx rfl (hb yb d22_5) rfl kk) ?_
  refine ob T1 (mkF mG 7 #[oa t, oi (0 : Int32), .unset, .unset] [(.ref t), (.int (0 : Int32))]) (fun _ kk => XS.aloadN X1.here hx rfl (hb yb d22_6) rfl rfl kk) ?_
  obtain ⟨cl2, Ar2, -, S2, N2a, -, -⟩ := id V_t
  refine oby (T' := T1) (g' := (mkF mG 8 #[oa t, oi (0 : Int32), .unset, .unset] [(.int (1 : Int32)), (.int (0 : Int32))])) (fun ot ok => X1.arraylength hx (by rw [e1]; exact Ar2.1) (State.isArrayOf_alike hZ.alike Ar2.2.1) (g := (mkF mG 7 #[oa t, oi (0 : Int32), .unset, .unset] [(.ref t), (.int (0 : Int32))])) rfl rfl (hb yb d22_7) _ (by rw [len_of S2 N2a]; exact ok)) ?_
  refine ob T1 (mkF mG 14 #[oa t, oi (0 : Int32), .unset, .unset] []) (fun _ kk => XS.icmpYes X1.here hx rfl (pc0 := 8) (pc' := 14) rfl (hb yb d22_8) rfl (feq (by decide : ¬ ((0 : Int32) = (1 : Int32)))).2 (by decide) (by decide) kk) ?_
  refine ob T1 (mkF mG 15 #[oa t, oi (0 : Int32), .unset, .unset] [(.ref t)]) (fun _ kk => XS.aloadN X1.here hx rfl (hb yb d22_14) rfl rfl kk) ?_
  obtain ⟨_, _, ⟨T3, L3, k3, n3⟩, -, X3, ⟨Lc3, hQ3, l3, y3, z3⟩, st3⟩ := Jvm.LawKit.callS X1 hx (y := (⟨"java/lang/StringLatin1", "lastIndexOfNonWhitespace", "([B)I"⟩ : MethodName)) hown (mvT hZ (ow hw 113 rfl)) (mvT hZ (ow hw 114 rfl)) (mvT hZ (ow hw 56 rfl)) (mvT hZ (ow hw 115 rfl)) (by decide) (backOf (W := 0) (rm_lx1N l Z a0 hw [] w_instance w_A c_A zc t kb c h0 n0 O0 hS V_t rc wc) hZ (ow hw 115 rfl) (ow hw 56 rfl) (by decide) (by decide)) (g := (mkF mG 15 #[oa t, oi (0 : Int32), .unset, .unset] [(.ref t)])) rfl (by rw [hml]; rfl) (argsL := [(.ref t)]) (rest := []) (lenOf pd_3 rfl) rfl (by show 2 * 0 + _ ≤ _; exact Nat.le_of_eq rfl) (hb yb d22_15) (fun _ _ => ⟨rfl, e1, (by decide : 0 + 0 ≤ _), (by decide : 0 + 0 ≤ _)⟩)
  dsimp only [Pt.U, Pt.locs, Pt.cells, Pt.slots] at X3 l3 y3 z3 st3 hQ3
  subst l3 y3 z3
  obtain ⟨rfl, N3q, e3⟩ := hQ3
  have N3 := Fr.app N1 N3q
  refine ob T3 (mkF mG 18 #[oa t, oi (0 : Int32), .unset, .unset] [(.int (1 : Int32))]) (fun _ kk => st3 _ kk) ?_
  refine ob T3 (mkF mG 19 #[oa t, oi (0 : Int32), oi (1 : Int32), .unset] []) (fun _ kk => XS.istoreN X3.here hx rfl (hb yb d22_18) rfl (l' := #[oa t, oi (0 : Int32), oi (1 : Int32), .unset]) rfl kk) ?_
  refine ob T3 (mkF mG 20 #[oa t, oi (0 : Int32), oi (1 : Int32), .unset] [(.int (0 : Int32))]) (fun _ kk => XS.iloadN X3.here hx rfl (hb yb d22_19) rfl kk) ?_
  refine ob T3 (mkF mG 23 #[oa t, oi (0 : Int32), oi (1 : Int32), .unset] []) (fun _ kk => XS.ifNo X3.here hx rfl (hb yb d22_20) rfl ((if0 _ _).trans (flt (by decide : ¬ ((0 : Int32) < (0 : Int32)))).2.2.1) kk) ?_
  refine ob T3 (mkF mG 24 #[oa t, oi (0 : Int32), oi (1 : Int32), .unset] [(.int (1 : Int32))]) (fun _ kk => XS.iloadN X3.here hx rfl (hb yb d22_23) rfl kk) ?_
  refine ob T3 (mkF mG 25 #[oa t, oi (0 : Int32), oi (1 : Int32), .unset] [(.ref t), (.int (1 : Int32))]) (fun _ kk => XS.aloadN X3.here hx rfl (hb yb d22_24) rfl rfl kk) ?_
  obtain ⟨cl4, Ar4, -, S4, N4a, -, -⟩ := id V_t
  refine oby (T' := T3) (g' := (mkF mG 26 #[oa t, oi (0 : Int32), oi (1 : Int32), .unset] [(.int (1 : Int32)), (.int (1 : Int32))])) (fun ot ok => X3.arraylength hx (by rw [e3]; exact Ar4.1) (State.isArrayOf_alike hZ.alike Ar4.2.1) (g := (mkF mG 25 #[oa t, oi (0 : Int32), oi (1 : Int32), .unset] [(.ref t), (.int (1 : Int32))])) rfl rfl (hb yb d22_25) _ (by rw [len_of S4 N4a]; exact ok)) ?_
  refine ob T3 (mkF mG 33 #[oa t, oi (0 : Int32), oi (1 : Int32), .unset] []) (fun _ kk => XS.icmpYes X3.here hx rfl (pc0 := 26) (pc' := 33) rfl (hb yb d22_26) rfl (flt (by decide : ¬ ((1 : Int32) < (1 : Int32)))).2.1 (by decide) (by decide) kk) ?_
  refine ob T3 (mkF mG 34 #[oa t, oi (0 : Int32), oi (1 : Int32), .unset] [(.int (0 : Int32))]) (fun _ kk => XS.iconst X3.here hx rfl (hb yb d22_33) kk) ?_
  refine ob T3 (mkF mG 35 #[oa t, oi (0 : Int32), oi (1 : Int32), oi (0 : Int32)] []) (fun _ kk => XS.istoreN X3.here hx rfl (hb yb d22_34) rfl (l' := #[oa t, oi (0 : Int32), oi (1 : Int32), oi (0 : Int32)]) rfl kk) ?_
  refine ob T3 (mkF mG 36 #[oa t, oi (0 : Int32), oi (1 : Int32), oi (0 : Int32)] [(.int (0 : Int32))]) (fun _ kk => XS.iloadN X3.here hx rfl (hb yb d22_35) rfl kk) ?_
  refine ob T3 (mkF mG 50 #[oa t, oi (0 : Int32), oi (1 : Int32), oi (0 : Int32)] []) (fun _ kk => XS.ifYes X3.here hx rfl (pc0 := 36) (pc' := 50) rfl (hb yb d22_36) rfl ((if0 _ _).trans (teq (by decide : (0 : Int32) = (0 : Int32))).1) (by decide) (by decide) kk) ?_
  refine ob T3 (mkF mG 51 #[oa t, oi (0 : Int32), oi (1 : Int32), oi (0 : Int32)] [.null]) (fun _ kk => XS.aconstNull X3.here hx rfl (hb yb d22_50) kk) ?_
  obtain ⟨fs, hr, hrun, hended, hW, hsame⟩ := X3.leave (v := some .null) (fun h => by rw [Bd.returns] at h; cases h)
  refine oout (oretA X3 hx Bd.returns rfl rfl (hb yb d22_51) hr) hrun hended ⟨_, _, rfl, ?_, ⟨_, rfl⟩, hW, hsame.mono (by decide) (by decide)⟩
  show Q_rm_sx1N Z w_instance w_A c_A zc t kb c h0 n0 _ T3.heap _
  rw [e3]
  exact ⟨rfl, N3, rfl⟩

theorem d21_0 : decode jdk_42_method_114_code 0 = .ok (.aload_n 0, 1) := by decide +kernel
theorem d21_1 : decode jdk_42_method_114_code 1 = .ok (.invokevirtual 492, 3) := by decide +kernel
theorem d21_4 : decode jdk_42_method_114_code 4 = .ok (.ifCond .eq 13, 3) := by decide +kernel
theorem d21_7 : decode jdk_42_method_114_code 7 = .ok (.aload_n 0, 1) := by decide +kernel
theorem d21_8 : decode jdk_42_method_114_code 8 = .ok (.getfield 9, 3) := by decide +kernel
theorem d21_11 : decode jdk_42_method_114_code 11 = .ok (.invokestatic 864, 3) := by decide +kernel
theorem d21_14 : decode jdk_42_method_114_code 14 = .ok (.goto 10, 3) := by decide +kernel
theorem d21_24 : decode jdk_42_method_114_code 24 = .ok (.astore_n 1, 1) := by decide +kernel
theorem d21_25 : decode jdk_42_method_114_code 25 = .ok (.aload_n 1, 1) := by decide +kernel
theorem d21_26 : decode jdk_42_method_114_code 26 = .ok (.ifnonnull 7, 3) := by decide +kernel
theorem d21_29 : decode jdk_42_method_114_code 29 = .ok (.aload_n 0, 1) := by decide +kernel
theorem d21_30 : decode jdk_42_method_114_code 30 = .ok (.goto 4, 3) := by decide +kernel
theorem d21_34 : decode jdk_42_method_114_code 34 = .ok (.areturn, 1) := by decide +kernel
theorem pd_11 : parseMethodDescriptor "([B)Ljava/lang/String;" = some ⟨[(.array .byte)], some (.object "java/lang/String")⟩ := by decide +kernel
def Q_rm_ss1N (Z : State) (w_instance : Addr) (w_A : Addr) (c_A : Cell) (zc : Int32) (a : Addr) (t : Addr) (kb : ClassId) (c : Int32) (h0 : Heap) (n0 : Nat) (v : Option Value) (h : Heap) (L : List Loc) : Prop := ∃ (r0 : Addr), v = some (.ref r0) ∧ Fr n0 L ∧ Keep h0 h [] ∧ Old Z n0 h
set_option maxRecDepth 65536 in
set_option maxHeartbeats 40000000 in
theorem rm_ss1N (l : Launch) (Z : State) (a0 : Array Value) (hw : ∀ d ∈ tables_1, d.before a0 Z = true) (ws : List Jvm.Cond) (w_instance : Addr) (w_A : Addr) (c_A : Cell) (zc : Int32) (a : Addr) (t : Addr) (kb : ClassId) (c : Int32) (h0 : Heap) (n0 : Nat) (O0 : Old Z n0 h0) (hS : St0 Z w_instance w_A c_A zc ) (E_a : Exa Z h0 a "java/lang/String") (F_c : Fld Z h0 a "java/lang/String" "coder" "B" (.int (0 : Int32))) (F_v : Fld Z h0 a "java/lang/String" "value" "[B" (.ref t)) (V_t : Arv Z h0 t kb .byte (1 : Int32) [(.int (c.toInt8.toInt32))] (.int (0 : Int32))) (rc : oRg c) (wc : oWs c = false) :
    MetFree l (⟨"java/lang/String", "strip", "()Ljava/lang/String;"⟩ : MethodName) (head1 (Jvm.Cond.code (⟨"java/lang/String", "strip", "()Ljava/lang/String;"⟩ : MethodName) jdk_42_method_114_code 2 (some (.object "java/lang/String")) :: ws) ({ frames := 8, cells := 2, slots := 5, locals := 150 } : Room)) (fun aG UG => aG = #[(.ref a)] ∧ Z.Warmed39 UG.vm ∧ UG.heap = h0) (fun _ _ _ _ _ => True) (fun _ UG oG UG' => ∃ vG LG, oG = .returned vG ∧ Q_rm_ss1N Z w_instance w_A c_A zc a t kb c h0 n0 vG UG'.heap LG ∧ FrameEnd UG oG UG' LG ({ frames := 8, cells := 2, slots := 5, locals := 150 } : Room).cells ({ frames := 8, cells := 2, slots := 5, locals := 150 } : Room).slots) := by
  refine MetFree.of_bodySF (plainFor_of_name pn_0) hisR ?_
  intro pG eG sG mG rG bG fG cG s₁ Bd hml0 hP hK
  obtain ⟨rfl, hZ, hh⟩ := hP
  have hx := Bd.exec
  have yb := Bd.bytes
  have hml : cG.maxLocals = 2 := hml0
  have hown : sG.vm.findClass "java/lang/String" = some mG.cls := findClass_of_methodNamed Bd.named
  have hnm := (name_of_methodNamed Bd.named Bd.method).1
  have X0 : Stand pG l eG ({ frames := 8, cells := 2, slots := 5, locals := 150 } : Room) sG mG #[(.ref a)] bG fG cG s₁ [] 0 0 := Stand.of_body Bd
  have e0 : s₁.heap = h0 := by rw [← hh, Bd.state]; rfl
  have N0 := Fr.nil n0
  have K0 := Keep.refl h0 []
  obtain ⟨S_w_instance, E_w_instance, S_w_A, E_w_A, V_w_A, S_zc, hzc⟩ := (id hS : St0 Z w_instance w_A c_A zc )
  refine ostart (g' := (mkF mG 0 #[oa a, .unset] [])) (by first | (simp [entryFrame, mkF, argsToLocals, Value.category]; done) | rfl) ?_
  refine ob s₁ (mkF mG 1 #[oa a, .unset] [(.ref a)]) (fun _ kk => XS.aloadN X0.here hx rfl (hb yb d21_0) rfl rfl kk) ?_
  obtain ⟨cq1, kq1, q1a, q1b, q1c⟩ := isOf hZ e0 E_a
  obtain ⟨_, _, ⟨T1, L1, k1, n1⟩, -, X1, ⟨Lc1, hQ1, l1, y1, z1⟩, st1⟩ := X0.virtualBack hx (y := (⟨"java/lang/String", "isLatin1", "()Z"⟩ : MethodName)) (z := (⟨"java/lang/String", "isLatin1", "()Z"⟩ : MethodName)) hown (mvT hZ (ow hw 48 rfl)) (mvT hZ (ow hw 49 rfl)) (notFace_of_selects (args := #[]) (mvT hZ (ow hw 51 rfl))) (mvT hZ (ow hw 51 rfl)) (mvT hZ (ow hw 50 rfl)) (by decide) (backOf (W := 0) (rm_lat l Z a0 hw [] w_instance w_A c_A zc a h0 n0 O0 hS F_c) hZ (ow hw 52 rfl) (ow hw 6 rfl) (by decide) (by decide)) q1a q1c (g := (mkF mG 1 #[oa a, .unset] [(.ref a)])) rfl (by rw [hml]; rfl) (Steps.refl _) (argsL := []) (rest := []) (lenOf pd_2 rfl) rfl (by show 2 * 0 + _ ≤ _; exact Nat.le_of_eq rfl) (hb yb d21_1) (fun _ _ => ⟨rfl, e0, (by decide : 0 + 0 ≤ _), (by decide : 0 + 0 ≤ _)⟩)
  dsimp only [Pt.U, Pt.locs, Pt.cells, Pt.slots] at X1 l1 y1 z1 st1 hQ1
  subst l1 y1 z1
  obtain ⟨rfl, N1q, e1⟩ := hQ1
  have N1 := Fr.app N0 N1q
  refine ob T1 (mkF mG 4 #[oa a, .unset] [(.int (1 : Int32))]) (fun _ kk => st1.trans kk) ?_
  refine ob T1 (mkF mG 7 #[oa a, .unset] []) (fun _ kk => XS.ifNo X1.here hx rfl (hb yb d21_4) rfl ((if0 _ _).trans (feq (by decide : ¬ ((1 : Int32) = (0 : Int32)))).1) kk) ?_
  refine ob T1 (mkF mG 8 #[oa a, .unset] [(.ref a)]) (fun _ kk => XS.aloadN X1.here hx rfl (hb yb d21_7) rfl rfl kk) ?_
  obtain ⟨T2, X2, e2, st2⟩ := getF X1 hx hZ hown (host := "") (Or.inl (ow hw 24 rfl)) Via.refl e1 F_v (g := (mkF mG 8 #[oa a, .unset] [(.ref a)])) rfl rfl (hb yb d21_8)
  refine ob T2 (mkF mG 11 #[oa a, .unset] [(.ref t)]) (fun _ kk => st2 _ kk) ?_
  obtain ⟨_, _, ⟨T3, L3, k3, n3⟩, -, X3, ⟨Lc3, hQ3, l3, y3, z3⟩, st3⟩ := Jvm.LawKit.callS X2 hx (y := (⟨"java/lang/StringLatin1", "strip", "([B)Ljava/lang/String;"⟩ : MethodName)) hown (mvT hZ (ow hw 109 rfl)) (mvT hZ (ow hw 110 rfl)) (mvT hZ (ow hw 56 rfl)) (mvT hZ (ow hw 111 rfl)) (by decide) (backOf (W := 0) (rm_sx1N l Z a0 hw [] w_instance w_A c_A zc t kb c h0 n0 O0 hS V_t rc wc) hZ (ow hw 111 rfl) (ow hw 56 rfl) (by decide) (by decide)) (g := (mkF mG 11 #[oa a, .unset] [(.ref t)])) rfl (by rw [hml]; rfl) (argsL := [(.ref t)]) (rest := []) (lenOf pd_11 rfl) rfl (by show 2 * 0 + _ ≤ _; exact Nat.le_of_eq rfl) (hb yb d21_11) (fun _ _ => ⟨rfl, e2, (by decide : 0 + 0 ≤ _), (by decide : 0 + 0 ≤ _)⟩)
  dsimp only [Pt.U, Pt.locs, Pt.cells, Pt.slots] at X3 l3 y3 z3 st3 hQ3
  subst l3 y3 z3
  obtain ⟨rfl, N3q, e3⟩ := hQ3
  have N3 := Fr.app N1 N3q
  refine ob T3 (mkF mG 14 #[oa a, .unset] [.null]) (fun _ kk => st3 _ kk) ?_
  refine ob T3 (mkF mG 24 #[oa a, .unset] [.null]) (fun _ kk => XS.goto X3.here hx rfl (pc0 := 14) (pc' := 24) rfl (hb yb d21_14) (by decide) (by decide) kk) ?_
  refine ob T3 (mkF mG 25 #[oa a, .val .null] []) (fun _ kk => XS.astoreN X3.here hx rfl (hb yb d21_24) rfl rfl (l' := #[oa a, .val .null]) rfl kk) ?_
  refine ob T3 (mkF mG 26 #[oa a, .val .null] [.null]) (fun _ kk => XS.aloadN X3.here hx rfl (hb yb d21_25) rfl rfl kk) ?_
  refine ob T3 (mkF mG 29 #[oa a, .val .null] []) (fun _ kk => XS.ifnonnullNo X3.here hx rfl (hb yb d21_26) rfl kk) ?_
  refine ob T3 (mkF mG 30 #[oa a, .val .null] [(.ref a)]) (fun _ kk => XS.aloadN X3.here hx rfl (hb yb d21_29) rfl rfl kk) ?_
  refine ob T3 (mkF mG 34 #[oa a, .val .null] [(.ref a)]) (fun _ kk => XS.goto X3.here hx rfl (pc0 := 30) (pc' := 34) rfl (hb yb d21_30) (by decide) (by decide) kk) ?_
  obtain ⟨fs, hr, hrun, hended, hW, hsame⟩ := X3.leave (v := some (.ref a)) (fun h => by rw [Bd.returns] at h; cases h)
  refine oout (oretA X3 hx Bd.returns rfl rfl (hb yb d21_34) hr) hrun hended ⟨_, _, rfl, ?_, ⟨_, rfl⟩, hW, hsame.mono (by decide) (by decide)⟩
  show Q_rm_ss1N Z w_instance w_A c_A zc a t kb c h0 n0 _ T3.heap _
  rw [e3]
  exact ⟨a, rfl, N3, K0, O0⟩

def Q_rm_sx2NN (Z : State) (w_instance : Addr) (w_A : Addr) (c_A : Cell) (zc : Int32) (t : Addr) (kb : ClassId) (c : Int32) (d : Int32) (h0 : Heap) (n0 : Nat) (v : Option Value) (h : Heap) (L : List Loc) : Prop := v = some .null ∧ Fr n0 L ∧ h = h0
set_option maxRecDepth 65536 in
set_option maxHeartbeats 40000000 in
theorem rm_sx2NN (l : Launch) (Z : State) (a0 : Array Value) (hw : ∀ d ∈ tables_1, d.before a0 Z = true) (ws : List Jvm.Cond) (w_instance : Addr) (w_A : Addr) (c_A : Cell) (zc : Int32) (t : Addr) (kb : ClassId) (c : Int32) (d : Int32) (h0 : Heap) (n0 : Nat) (O0 : Old Z n0 h0) (hS : St0 Z w_instance w_A c_A zc ) (V_t : Arv Z h0 t kb .byte (2 : Int32) [(.int (c.toInt8.toInt32)), (.int (d.toInt8.toInt32))] (.int (0 : Int32))) (rc : oRg c) (rd : oRg d) (wc : oWs c = false) (wd : oWs d = false) :
    MetFree l (⟨"java/lang/StringLatin1", "strip", "([B)Ljava/lang/String;"⟩ : MethodName) (head1 (Jvm.Cond.code (⟨"java/lang/StringLatin1", "strip", "([B)Ljava/lang/String;"⟩ : MethodName) jdk_43_method_39_code 4 (some (.object "java/lang/String")) :: ws) ({ frames := 3, cells := 0, slots := 0, locals := 44 } : Room)) (fun aG UG => aG = #[(.ref t)] ∧ Z.Warmed39 UG.vm ∧ UG.heap = h0) (fun _ _ _ _ _ => True) (fun _ UG oG UG' => ∃ vG LG, oG = .returned vG ∧ Q_rm_sx2NN Z w_instance w_A c_A zc t kb c d h0 n0 vG UG'.heap LG ∧ FrameEnd UG oG UG' LG ({ frames := 3, cells := 0, slots := 0, locals := 44 } : Room).cells ({ frames := 3, cells := 0, slots := 0, locals := 44 } : Room).slots) := by
  refine MetFree.of_bodySF (plainFor_of_name pn_1) hisR ?_
  intro pG eG sG mG rG bG fG cG s₁ Bd hml0 hP hK
  obtain ⟨rfl, hZ, hh⟩ := hP
  have hx := Bd.exec
  have yb := Bd.bytes
  have hml : cG.maxLocals = 4 := hml0
  have hown : sG.vm.findClass "java/lang/StringLatin1" = some mG.cls := findClass_of_methodNamed Bd.named
  have hnm := (name_of_methodNamed Bd.named Bd.method).1
  have X0 : Stand pG l eG ({ frames := 3, cells := 0, slots := 0, locals := 44 } : Room) sG mG #[(.ref t)] bG fG cG s₁ [] 0 0 := Stand.of_body Bd
  have e0 : s₁.heap = h0 := by rw [← hh, Bd.state]; rfl
  have N0 := Fr.nil n0
  have K0 := Keep.refl h0 []
  obtain ⟨S_w_instance, E_w_instance, S_w_A, E_w_A, V_w_A, S_zc, hzc⟩ := (id hS : St0 Z w_instance w_A c_A zc )
  refine ostart (g' := (mkF mG 0 #[oa t, .unset, .unset, .unset] [])) (by first | (simp [entryFrame, mkF, argsToLocals, Value.category]; done) | rfl) ?_
  refine ob s₁ (mkF mG 1 #[oa t, .unset, .unset, .unset] [(.ref t)]) (fun _ kk => XS.aloadN X0.here hx rfl (hb yb d22_0) rfl rfl kk) ?_
  obtain ⟨_, _, ⟨T1, L1, k1, n1⟩, -, X1, ⟨Lc1, hQ1, l1, y1, z1⟩, st1⟩ := Jvm.LawKit.callS X0 hx (y := (⟨"java/lang/StringLatin1", "indexOfNonWhitespace", "([B)I"⟩ : MethodName)) hown (mvT hZ (ow hw 112 rfl)) (mvT hZ (ow hw 55 rfl)) (mvT hZ (ow hw 56 rfl)) (mvT hZ (ow hw 57 rfl)) (by decide) (backOf (W := 0) (rm_ix2N l Z a0 hw [] w_instance w_A c_A zc t kb c d h0 n0 O0 hS V_t rc wc) hZ (ow hw 57 rfl) (ow hw 56 rfl) (by decide) (by decide)) (g := (mkF mG 1 #[oa t, .unset, .unset, .unset] [(.ref t)])) rfl (by rw [hml]; rfl) (argsL := [(.ref t)]) (rest := []) (lenOf pd_3 rfl) rfl (by show 2 * 0 + _ ≤ _; exact Nat.le_of_eq rfl) (hb yb d22_1) (fun _ _ => ⟨rfl, e0, (by decide : 0 + 0 ≤ _), (by decide : 0 + 0 ≤ _)⟩)
  dsimp only [Pt.U, Pt.locs, Pt.cells, Pt.slots] at X1 l1 y1 z1 st1 hQ1
  subst l1 y1 z1
  obtain ⟨rfl, N1q, e1⟩ := hQ1
  have N1 := Fr.app N0 N1q
  refine ob T1 (mkF mG 4 #[oa t, .unset, .unset, .unset] [(.int (0 : Int32))]) (fun _ kk => st1 _ kk) ?_
  refine ob T1 (mkF mG 5 #[oa t, oi (0 : Int32), .unset, .unset] []) (fun _ kk => XS.istoreN X1.here hx rfl (hb yb d22_4) rfl (l' := #[oa t, oi (0 : Int32), .unset, .unset]) rfl kk) ?_
  refine ob T1 (mkF mG 6 #[oa t, oi (0 : Int32), .unset, .unset] [(.int (0 : Int32))]) (fun _ kk => XS.iloadN X1.here hx rfl (hb yb d22_5) rfl kk) ?_
  refine ob T1 (mkF mG 7 #[oa t, oi (0 : Int32), .unset, .unset] [(.ref t), (.int (0 : Int32))]) (fun _ kk => XS.aloadN X1.here hx rfl (hb yb d22_6) rfl rfl kk) ?_
  obtain ⟨cl2, Ar2, -, S2, N2a, -, -⟩ := id V_t
  refine oby (T' := T1) (g' := (mkF mG 8 #[oa t, oi (0 : Int32), .unset, .unset] [(.int (2 : Int32)), (.int (0 : Int32))])) (fun ot ok => X1.arraylength hx (by rw [e1]; exact Ar2.1) (State.isArrayOf_alike hZ.alike Ar2.2.1) (g := (mkF mG 7 #[oa t, oi (0 : Int32), .unset, .unset] [(.ref t), (.int (0 : Int32))])) rfl rfl (hb yb d22_7) _ (by rw [len_of S2 N2a]; exact ok)) ?_
  refine ob T1 (mkF mG 14 #[oa t, oi (0 : Int32), .unset, .unset] []) (fun _ kk => XS.icmpYes X1.here hx rfl (pc0 := 8) (pc' := 14) rfl (hb yb d22_8) rfl (feq (by decide : ¬ ((0 : Int32) = (2 : Int32)))).2 (by decide) (by decide) kk) ?_
  refine ob T1 (mkF mG 15 #[oa t, oi (0 : Int32), .unset, .unset] [(.ref t)]) (fun _ kk => XS.aloadN X1.here hx rfl (hb yb d22_14) rfl rfl kk) ?_
  obtain ⟨_, _, ⟨T3, L3, k3, n3⟩, -, X3, ⟨Lc3, hQ3, l3, y3, z3⟩, st3⟩ := Jvm.LawKit.callS X1 hx (y := (⟨"java/lang/StringLatin1", "lastIndexOfNonWhitespace", "([B)I"⟩ : MethodName)) hown (mvT hZ (ow hw 113 rfl)) (mvT hZ (ow hw 114 rfl)) (mvT hZ (ow hw 56 rfl)) (mvT hZ (ow hw 115 rfl)) (by decide) (backOf (W := 0) (rm_lx2N l Z a0 hw [] w_instance w_A c_A zc t kb c d h0 n0 O0 hS V_t rd wd) hZ (ow hw 115 rfl) (ow hw 56 rfl) (by decide) (by decide)) (g := (mkF mG 15 #[oa t, oi (0 : Int32), .unset, .unset] [(.ref t)])) rfl (by rw [hml]; rfl) (argsL := [(.ref t)]) (rest := []) (lenOf pd_3 rfl) rfl (by show 2 * 0 + _ ≤ _; exact Nat.le_of_eq rfl) (hb yb d22_15) (fun _ _ => ⟨rfl, e1, (by decide : 0 + 0 ≤ _), (by decide : 0 + 0 ≤ _)⟩)
  dsimp only [Pt.U, Pt.locs, Pt.cells, Pt.slots] at X3 l3 y3 z3 st3 hQ3
  subst l3 y3 z3
  obtain ⟨rfl, N3q, e3⟩ := hQ3
  have N3 := Fr.app N1 N3q
  refine ob T3 (mkF mG 18 #[oa t, oi (0 : Int32), .unset, .unset] [(.int (2 : Int32))]) (fun _ kk => st3 _ kk) ?_
  refine ob T3 (mkF mG 19 #[oa t, oi (0 : Int32), oi (2 : Int32), .unset] []) (fun _ kk => XS.istoreN X3.here hx rfl (hb yb d22_18) rfl (l' := #[oa t, oi (0 : Int32), oi (2 : Int32), .unset]) rfl kk) ?_
  refine ob T3 (mkF mG 20 #[oa t, oi (0 : Int32), oi (2 : Int32), .unset] [(.int (0 : Int32))]) (fun _ kk => XS.iloadN X3.here hx rfl (hb yb d22_19) rfl kk) ?_
  refine ob T3 (mkF mG 23 #[oa t, oi (0 : Int32), oi (2 : Int32), .unset] []) (fun _ kk => XS.ifNo X3.here hx rfl (hb yb d22_20) rfl ((if0 _ _).trans (flt (by decide : ¬ ((0 : Int32) < (0 : Int32)))).2.2.1) kk) ?_
  refine ob T3 (mkF mG 24 #[oa t, oi (0 : Int32), oi (2 : Int32), .unset] [(.int (2 : Int32))]) (fun _ kk => XS.iloadN X3.here hx rfl (hb yb d22_23) rfl kk) ?_
  refine ob T3 (mkF mG 25 #[oa t, oi (0 : Int32), oi (2 : Int32), .unset] [(.ref t), (.int (2 : Int32))]) (fun _ kk => XS.aloadN X3.here hx rfl (hb yb d22_24) rfl rfl kk) ?_
  obtain ⟨cl4, Ar4, -, S4, N4a, -, -⟩ := id V_t
  refine oby (T' := T3) (g' := (mkF mG 26 #[oa t, oi (0 : Int32), oi (2 : Int32), .unset] [(.int (2 : Int32)), (.int (2 : Int32))])) (fun ot ok => X3.arraylength hx (by rw [e3]; exact Ar4.1) (State.isArrayOf_alike hZ.alike Ar4.2.1) (g := (mkF mG 25 #[oa t, oi (0 : Int32), oi (2 : Int32), .unset] [(.ref t), (.int (2 : Int32))])) rfl rfl (hb yb d22_25) _ (by rw [len_of S4 N4a]; exact ok)) ?_
  refine ob T3 (mkF mG 33 #[oa t, oi (0 : Int32), oi (2 : Int32), .unset] []) (fun _ kk => XS.icmpYes X3.here hx rfl (pc0 := 26) (pc' := 33) rfl (hb yb d22_26) rfl (flt (by decide : ¬ ((2 : Int32) < (2 : Int32)))).2.1 (by decide) (by decide) kk) ?_
  refine ob T3 (mkF mG 34 #[oa t, oi (0 : Int32), oi (2 : Int32), .unset] [(.int (0 : Int32))]) (fun _ kk => XS.iconst X3.here hx rfl (hb yb d22_33) kk) ?_
  refine ob T3 (mkF mG 35 #[oa t, oi (0 : Int32), oi (2 : Int32), oi (0 : Int32)] []) (fun _ kk => XS.istoreN X3.here hx rfl (hb yb d22_34) rfl (l' := #[oa t, oi (0 : Int32), oi (2 : Int32), oi (0 : Int32)]) rfl kk) ?_
  refine ob T3 (mkF mG 36 #[oa t, oi (0 : Int32), oi (2 : Int32), oi (0 : Int32)] [(.int (0 : Int32))]) (fun _ kk => XS.iloadN X3.here hx rfl (hb yb d22_35) rfl kk) ?_
  refine ob T3 (mkF mG 50 #[oa t, oi (0 : Int32), oi (2 : Int32), oi (0 : Int32)] []) (fun _ kk => XS.ifYes X3.here hx rfl (pc0 := 36) (pc' := 50) rfl (hb yb d22_36) rfl ((if0 _ _).trans (teq (by decide : (0 : Int32) = (0 : Int32))).1) (by decide) (by decide) kk) ?_
  refine ob T3 (mkF mG 51 #[oa t, oi (0 : Int32), oi (2 : Int32), oi (0 : Int32)] [.null]) (fun _ kk => XS.aconstNull X3.here hx rfl (hb yb d22_50) kk) ?_
  obtain ⟨fs, hr, hrun, hended, hW, hsame⟩ := X3.leave (v := some .null) (fun h => by rw [Bd.returns] at h; cases h)
  refine oout (oretA X3 hx Bd.returns rfl rfl (hb yb d22_51) hr) hrun hended ⟨_, _, rfl, ?_, ⟨_, rfl⟩, hW, hsame.mono (by decide) (by decide)⟩
  show Q_rm_sx2NN Z w_instance w_A c_A zc t kb c d h0 n0 _ T3.heap _
  rw [e3]
  exact ⟨rfl, N3, rfl⟩

def Q_rm_ss2NN (Z : State) (w_instance : Addr) (w_A : Addr) (c_A : Cell) (zc : Int32) (a : Addr) (t : Addr) (kb : ClassId) (c : Int32) (d : Int32) (h0 : Heap) (n0 : Nat) (v : Option Value) (h : Heap) (L : List Loc) : Prop := ∃ (r0 : Addr), v = some (.ref r0) ∧ Fr n0 L ∧ Keep h0 h [] ∧ Old Z n0 h
set_option maxRecDepth 65536 in
set_option maxHeartbeats 40000000 in
theorem rm_ss2NN (l : Launch) (Z : State) (a0 : Array Value) (hw : ∀ d ∈ tables_1, d.before a0 Z = true) (ws : List Jvm.Cond) (w_instance : Addr) (w_A : Addr) (c_A : Cell) (zc : Int32) (a : Addr) (t : Addr) (kb : ClassId) (c : Int32) (d : Int32) (h0 : Heap) (n0 : Nat) (O0 : Old Z n0 h0) (hS : St0 Z w_instance w_A c_A zc ) (E_a : Exa Z h0 a "java/lang/String") (F_c : Fld Z h0 a "java/lang/String" "coder" "B" (.int (0 : Int32))) (F_v : Fld Z h0 a "java/lang/String" "value" "[B" (.ref t)) (V_t : Arv Z h0 t kb .byte (2 : Int32) [(.int (c.toInt8.toInt32)), (.int (d.toInt8.toInt32))] (.int (0 : Int32))) (rc : oRg c) (rd : oRg d) (wc : oWs c = false) (wd : oWs d = false) :
    MetFree l (⟨"java/lang/String", "strip", "()Ljava/lang/String;"⟩ : MethodName) (head1 (Jvm.Cond.code (⟨"java/lang/String", "strip", "()Ljava/lang/String;"⟩ : MethodName) jdk_42_method_114_code 2 (some (.object "java/lang/String")) :: ws) ({ frames := 8, cells := 2, slots := 5, locals := 150 } : Room)) (fun aG UG => aG = #[(.ref a)] ∧ Z.Warmed39 UG.vm ∧ UG.heap = h0) (fun _ _ _ _ _ => True) (fun _ UG oG UG' => ∃ vG LG, oG = .returned vG ∧ Q_rm_ss2NN Z w_instance w_A c_A zc a t kb c d h0 n0 vG UG'.heap LG ∧ FrameEnd UG oG UG' LG ({ frames := 8, cells := 2, slots := 5, locals := 150 } : Room).cells ({ frames := 8, cells := 2, slots := 5, locals := 150 } : Room).slots) := by
  refine MetFree.of_bodySF (plainFor_of_name pn_0) hisR ?_
  intro pG eG sG mG rG bG fG cG s₁ Bd hml0 hP hK
  obtain ⟨rfl, hZ, hh⟩ := hP
  have hx := Bd.exec
  have yb := Bd.bytes
  have hml : cG.maxLocals = 2 := hml0
  have hown : sG.vm.findClass "java/lang/String" = some mG.cls := findClass_of_methodNamed Bd.named
  have hnm := (name_of_methodNamed Bd.named Bd.method).1
  have X0 : Stand pG l eG ({ frames := 8, cells := 2, slots := 5, locals := 150 } : Room) sG mG #[(.ref a)] bG fG cG s₁ [] 0 0 := Stand.of_body Bd
  have e0 : s₁.heap = h0 := by rw [← hh, Bd.state]; rfl
  have N0 := Fr.nil n0
  have K0 := Keep.refl h0 []
  obtain ⟨S_w_instance, E_w_instance, S_w_A, E_w_A, V_w_A, S_zc, hzc⟩ := (id hS : St0 Z w_instance w_A c_A zc )
  refine ostart (g' := (mkF mG 0 #[oa a, .unset] [])) (by first | (simp [entryFrame, mkF, argsToLocals, Value.category]; done) | rfl) ?_
  refine ob s₁ (mkF mG 1 #[oa a, .unset] [(.ref a)]) (fun _ kk => XS.aloadN X0.here hx rfl (hb yb d21_0) rfl rfl kk) ?_
  obtain ⟨cq1, kq1, q1a, q1b, q1c⟩ := isOf hZ e0 E_a
  obtain ⟨_, _, ⟨T1, L1, k1, n1⟩, -, X1, ⟨Lc1, hQ1, l1, y1, z1⟩, st1⟩ := X0.virtualBack hx (y := (⟨"java/lang/String", "isLatin1", "()Z"⟩ : MethodName)) (z := (⟨"java/lang/String", "isLatin1", "()Z"⟩ : MethodName)) hown (mvT hZ (ow hw 48 rfl)) (mvT hZ (ow hw 49 rfl)) (notFace_of_selects (args := #[]) (mvT hZ (ow hw 51 rfl))) (mvT hZ (ow hw 51 rfl)) (mvT hZ (ow hw 50 rfl)) (by decide) (backOf (W := 0) (rm_lat l Z a0 hw [] w_instance w_A c_A zc a h0 n0 O0 hS F_c) hZ (ow hw 52 rfl) (ow hw 6 rfl) (by decide) (by decide)) q1a q1c (g := (mkF mG 1 #[oa a, .unset] [(.ref a)])) rfl (by rw [hml]; rfl) (Steps.refl _) (argsL := []) (rest := []) (lenOf pd_2 rfl) rfl (by show 2 * 0 + _ ≤ _; exact Nat.le_of_eq rfl) (hb yb d21_1) (fun _ _ => ⟨rfl, e0, (by decide : 0 + 0 ≤ _), (by decide : 0 + 0 ≤ _)⟩)
  dsimp only [Pt.U, Pt.locs, Pt.cells, Pt.slots] at X1 l1 y1 z1 st1 hQ1
  subst l1 y1 z1
  obtain ⟨rfl, N1q, e1⟩ := hQ1
  have N1 := Fr.app N0 N1q
  refine ob T1 (mkF mG 4 #[oa a, .unset] [(.int (1 : Int32))]) (fun _ kk => st1.trans kk) ?_
  refine ob T1 (mkF mG 7 #[oa a, .unset] []) (fun _ kk => XS.ifNo X1.here hx rfl (hb yb d21_4) rfl ((if0 _ _).trans (feq (by decide : ¬ ((1 : Int32) = (0 : Int32)))).1) kk) ?_
  refine ob T1 (mkF mG 8 #[oa a, .unset] [(.ref a)]) (fun _ kk => XS.aloadN X1.here hx rfl (hb yb d21_7) rfl rfl kk) ?_
  obtain ⟨T2, X2, e2, st2⟩ := getF X1 hx hZ hown (host := "") (Or.inl (ow hw 24 rfl)) Via.refl e1 F_v (g := (mkF mG 8 #[oa a, .unset] [(.ref a)])) rfl rfl (hb yb d21_8)
  refine ob T2 (mkF mG 11 #[oa a, .unset] [(.ref t)]) (fun _ kk => st2 _ kk) ?_
  obtain ⟨_, _, ⟨T3, L3, k3, n3⟩, -, X3, ⟨Lc3, hQ3, l3, y3, z3⟩, st3⟩ := Jvm.LawKit.callS X2 hx (y := (⟨"java/lang/StringLatin1", "strip", "([B)Ljava/lang/String;"⟩ : MethodName)) hown (mvT hZ (ow hw 109 rfl)) (mvT hZ (ow hw 110 rfl)) (mvT hZ (ow hw 56 rfl)) (mvT hZ (ow hw 111 rfl)) (by decide) (backOf (W := 0) (rm_sx2NN l Z a0 hw [] w_instance w_A c_A zc t kb c d h0 n0 O0 hS V_t rc rd wc wd) hZ (ow hw 111 rfl) (ow hw 56 rfl) (by decide) (by decide)) (g := (mkF mG 11 #[oa a, .unset] [(.ref t)])) rfl (by rw [hml]; rfl) (argsL := [(.ref t)]) (rest := []) (lenOf pd_11 rfl) rfl (by show 2 * 0 + _ ≤ _; exact Nat.le_of_eq rfl) (hb yb d21_11) (fun _ _ => ⟨rfl, e2, (by decide : 0 + 0 ≤ _), (by decide : 0 + 0 ≤ _)⟩)
  dsimp only [Pt.U, Pt.locs, Pt.cells, Pt.slots] at X3 l3 y3 z3 st3 hQ3
  subst l3 y3 z3
  obtain ⟨rfl, N3q, e3⟩ := hQ3
  have N3 := Fr.app N1 N3q
  refine ob T3 (mkF mG 14 #[oa a, .unset] [.null]) (fun _ kk => st3 _ kk) ?_
  refine ob T3 (mkF mG 24 #[oa a, .unset] [.null]) (fun _ kk => XS.goto X3.here hx rfl (pc0 := 14) (pc' := 24) rfl (hb yb d21_14) (by decide) (by decide) kk) ?_
  refine ob T3 (mkF mG 25 #[oa a, .val .null] []) (fun _ kk => XS.astoreN X3.here hx rfl (hb yb d21_24) rfl rfl (l' := #[oa a, .val .null]) rfl kk) ?_
  refine ob T3 (mkF mG 26 #[oa a, .val .null] [.null]) (fun _ kk => XS.aloadN X3.here hx rfl (hb yb d21_25) rfl rfl kk) ?_
  refine ob T3 (mkF mG 29 #[oa a, .val .null] []) (fun _ kk => XS.ifnonnullNo X3.here hx rfl (hb yb d21_26) rfl kk) ?_
  refine ob T3 (mkF mG 30 #[oa a, .val .null] [(.ref a)]) (fun _ kk => XS.aloadN X3.here hx rfl (hb yb d21_29) rfl rfl kk) ?_
  refine ob T3 (mkF mG 34 #[oa a, .val .null] [(.ref a)]) (fun _ kk => XS.goto X3.here hx rfl (pc0 := 30) (pc' := 34) rfl (hb yb d21_30) (by decide) (by decide) kk) ?_
  obtain ⟨fs, hr, hrun, hended, hW, hsame⟩ := X3.leave (v := some (.ref a)) (fun h => by rw [Bd.returns] at h; cases h)
  refine oout (oretA X3 hx Bd.returns rfl rfl (hb yb d21_34) hr) hrun hended ⟨_, _, rfl, ?_, ⟨_, rfl⟩, hW, hsame.mono (by decide) (by decide)⟩
  show Q_rm_ss2NN Z w_instance w_A c_A zc a t kb c d h0 n0 _ T3.heap _
  rw [e3]
  exact ⟨a, rfl, N3, K0, O0⟩

theorem d22_29 : decode jdk_43_method_39_code 29 = .ok (.iconst 1, 1) := by decide +kernel
theorem d22_30 : decode jdk_43_method_39_code 30 = .ok (.goto 4, 3) := by decide +kernel
theorem d22_39 : decode jdk_43_method_39_code 39 = .ok (.aload_n 0, 1) := by decide +kernel
theorem d22_40 : decode jdk_43_method_39_code 40 = .ok (.iload_n 1, 1) := by decide +kernel
theorem d22_41 : decode jdk_43_method_39_code 41 = .ok (.iload_n 2, 1) := by decide +kernel
theorem d22_42 : decode jdk_43_method_39_code 42 = .ok (.iload_n 1, 1) := by decide +kernel
theorem d22_43 : decode jdk_43_method_39_code 43 = .ok (.isub, 1) := by decide +kernel
theorem d22_44 : decode jdk_43_method_39_code 44 = .ok (.invokestatic 210, 3) := by decide +kernel
theorem d22_47 : decode jdk_43_method_39_code 47 = .ok (.goto 4, 3) := by decide +kernel
theorem pd_12 : parseMethodDescriptor "([BII)Ljava/lang/String;" = some ⟨[(.array .byte), .int, .int], some (.object "java/lang/String")⟩ := by decide +kernel
def Q_rm_sx2WN (Z : State) (w_instance : Addr) (w_A : Addr) (c_A : Cell) (zc : Int32) (t : Addr) (kb : ClassId) (c : Int32) (d : Int32) (h0 : Heap) (n0 : Nat) (v : Option Value) (h : Heap) (L : List Loc) : Prop := ∃ (r0 : Addr), v = some (.ref r0) ∧ Fr n0 L ∧ Keep h0 h [] ∧ Old Z n0 h
set_option maxRecDepth 65536 in
set_option maxHeartbeats 40000000 in
theorem rm_sx2WN (l : Launch) (Z : State) (a0 : Array Value) (hw : ∀ d ∈ tables_1, d.before a0 Z = true) (ws : List Jvm.Cond) (w_instance : Addr) (w_A : Addr) (c_A : Cell) (zc : Int32) (t : Addr) (kb : ClassId) (c : Int32) (d : Int32) (h0 : Heap) (n0 : Nat) (O0 : Old Z n0 h0) (hS : St0 Z w_instance w_A c_A zc ) (V_t : Arv Z h0 t kb .byte (2 : Int32) [(.int (c.toInt8.toInt32)), (.int (d.toInt8.toInt32))] (.int (0 : Int32))) (rc : oRg c) (rd : oRg d) (wc : oWs c = true) (wd : oWs d = false) :
    MetFree l (⟨"java/lang/StringLatin1", "strip", "([B)Ljava/lang/String;"⟩ : MethodName) (head1 (Jvm.Cond.code (⟨"java/lang/StringLatin1", "strip", "([B)Ljava/lang/String;"⟩ : MethodName) jdk_43_method_39_code 4 (some (.object "java/lang/String")) :: ws) ({ frames := 4, cells := 2, slots := 5, locals := 86 } : Room)) (fun aG UG => aG = #[(.ref t)] ∧ Z.Warmed39 UG.vm ∧ UG.heap = h0) (fun _ _ _ _ _ => True) (fun _ UG oG UG' => ∃ vG LG, oG = .returned vG ∧ Q_rm_sx2WN Z w_instance w_A c_A zc t kb c d h0 n0 vG UG'.heap LG ∧ FrameEnd UG oG UG' LG ({ frames := 4, cells := 2, slots := 5, locals := 86 } : Room).cells ({ frames := 4, cells := 2, slots := 5, locals := 86 } : Room).slots) := by
  refine MetFree.of_bodySF (plainFor_of_name pn_1) hisR ?_
  intro pG eG sG mG rG bG fG cG s₁ Bd hml0 hP hK
  obtain ⟨rfl, hZ, hh⟩ := hP
  have hx := Bd.exec
  have yb := Bd.bytes
  have hml : cG.maxLocals = 4 := hml0
  have hown : sG.vm.findClass "java/lang/StringLatin1" = some mG.cls := findClass_of_methodNamed Bd.named
  have hnm := (name_of_methodNamed Bd.named Bd.method).1
  have X0 : Stand pG l eG ({ frames := 4, cells := 2, slots := 5, locals := 86 } : Room) sG mG #[(.ref t)] bG fG cG s₁ [] 0 0 := Stand.of_body Bd
  have e0 : s₁.heap = h0 := by rw [← hh, Bd.state]; rfl
  have N0 := Fr.nil n0
  have K0 := Keep.refl h0 []
  obtain ⟨S_w_instance, E_w_instance, S_w_A, E_w_A, V_w_A, S_zc, hzc⟩ := (id hS : St0 Z w_instance w_A c_A zc )
  refine ostart (g' := (mkF mG 0 #[oa t, .unset, .unset, .unset] [])) (by first | (simp [entryFrame, mkF, argsToLocals, Value.category]; done) | rfl) ?_
  refine ob s₁ (mkF mG 1 #[oa t, .unset, .unset, .unset] [(.ref t)]) (fun _ kk => XS.aloadN X0.here hx rfl (hb yb d22_0) rfl rfl kk) ?_
  obtain ⟨_, _, ⟨T1, L1, k1, n1⟩, -, X1, ⟨Lc1, hQ1, l1, y1, z1⟩, st1⟩ := Jvm.LawKit.callS X0 hx (y := (⟨"java/lang/StringLatin1", "indexOfNonWhitespace", "([B)I"⟩ : MethodName)) hown (mvT hZ (ow hw 112 rfl)) (mvT hZ (ow hw 55 rfl)) (mvT hZ (ow hw 56 rfl)) (mvT hZ (ow hw 57 rfl)) (by decide) (backOf (W := 0) (rm_ix2WN l Z a0 hw [] w_instance w_A c_A zc t kb c d h0 n0 O0 hS V_t rc rd wc wd) hZ (ow hw 57 rfl) (ow hw 56 rfl) (by decide) (by decide)) (g := (mkF mG 1 #[oa t, .unset, .unset, .unset] [(.ref t)])) rfl (by rw [hml]; rfl) (argsL := [(.ref t)]) (rest := []) (lenOf pd_3 rfl) rfl (by show 2 * 0 + _ ≤ _; exact Nat.le_of_eq rfl) (hb yb d22_1) (fun _ _ => ⟨rfl, e0, (by decide : 0 + 0 ≤ _), (by decide : 0 + 0 ≤ _)⟩)
  dsimp only [Pt.U, Pt.locs, Pt.cells, Pt.slots] at X1 l1 y1 z1 st1 hQ1
  subst l1 y1 z1
  obtain ⟨rfl, N1q, e1⟩ := hQ1
  have N1 := Fr.app N0 N1q
  refine ob T1 (mkF mG 4 #[oa t, .unset, .unset, .unset] [(.int (1 : Int32))]) (fun _ kk => st1 _ kk) ?_
  refine ob T1 (mkF mG 5 #[oa t, oi (1 : Int32), .unset, .unset] []) (fun _ kk => XS.istoreN X1.here hx rfl (hb yb d22_4) rfl (l' := #[oa t, oi (1 : Int32), .unset, .unset]) rfl kk) ?_
  refine ob T1 (mkF mG 6 #[oa t, oi (1 : Int32), .unset, .unset] [(.int (1 : Int32))]) (fun _ kk => XS.iloadN X1.here hx rfl (hb yb d22_5) rfl kk) ?_
  refine ob T1 (mkF mG 7 #[oa t, oi (1 : Int32), .unset, .unset] [(.ref t), (.int (1 : Int32))]) (fun _ kk => XS.aloadN X1.here hx rfl (hb yb d22_6) rfl rfl kk) ?_
  obtain ⟨cl2, Ar2, -, S2, N2a, -, -⟩ := id V_t
  refine oby (T' := T1) (g' := (mkF mG 8 #[oa t, oi (1 : Int32), .unset, .unset] [(.int (2 : Int32)), (.int (1 : Int32))])) (fun ot ok => X1.arraylength hx (by rw [e1]; exact Ar2.1) (State.isArrayOf_alike hZ.alike Ar2.2.1) (g := (mkF mG 7 #[oa t, oi (1 : Int32), .unset, .unset] [(.ref t), (.int (1 : Int32))])) rfl rfl (hb yb d22_7) _ (by rw [len_of S2 N2a]; exact ok)) ?_
  refine ob T1 (mkF mG 14 #[oa t, oi (1 : Int32), .unset, .unset] []) (fun _ kk => XS.icmpYes X1.here hx rfl (pc0 := 8) (pc' := 14) rfl (hb yb d22_8) rfl (feq (by decide : ¬ ((1 : Int32) = (2 : Int32)))).2 (by decide) (by decide) kk) ?_
  refine ob T1 (mkF mG 15 #[oa t, oi (1 : Int32), .unset, .unset] [(.ref t)]) (fun _ kk => XS.aloadN X1.here hx rfl (hb yb d22_14) rfl rfl kk) ?_
  obtain ⟨_, _, ⟨T3, L3, k3, n3⟩, -, X3, ⟨Lc3, hQ3, l3, y3, z3⟩, st3⟩ := Jvm.LawKit.callS X1 hx (y := (⟨"java/lang/StringLatin1", "lastIndexOfNonWhitespace", "([B)I"⟩ : MethodName)) hown (mvT hZ (ow hw 113 rfl)) (mvT hZ (ow hw 114 rfl)) (mvT hZ (ow hw 56 rfl)) (mvT hZ (ow hw 115 rfl)) (by decide) (backOf (W := 0) (rm_lx2N l Z a0 hw [] w_instance w_A c_A zc t kb c d h0 n0 O0 hS V_t rd wd) hZ (ow hw 115 rfl) (ow hw 56 rfl) (by decide) (by decide)) (g := (mkF mG 15 #[oa t, oi (1 : Int32), .unset, .unset] [(.ref t)])) rfl (by rw [hml]; rfl) (argsL := [(.ref t)]) (rest := []) (lenOf pd_3 rfl) rfl (by show 2 * 0 + _ ≤ _; exact Nat.le_of_eq rfl) (hb yb d22_15) (fun _ _ => ⟨rfl, e1, (by decide : 0 + 0 ≤ _), (by decide : 0 + 0 ≤ _)⟩)
  dsimp only [Pt.U, Pt.locs, Pt.cells, Pt.slots] at X3 l3 y3 z3 st3 hQ3
  subst l3 y3 z3
  obtain ⟨rfl, N3q, e3⟩ := hQ3
  have N3 := Fr.app N1 N3q
  refine ob T3 (mkF mG 18 #[oa t, oi (1 : Int32), .unset, .unset] [(.int (2 : Int32))]) (fun _ kk => st3 _ kk) ?_
  refine ob T3 (mkF mG 19 #[oa t, oi (1 : Int32), oi (2 : Int32), .unset] []) (fun _ kk => XS.istoreN X3.here hx rfl (hb yb d22_18) rfl (l' := #[oa t, oi (1 : Int32), oi (2 : Int32), .unset]) rfl kk) ?_
  refine ob T3 (mkF mG 20 #[oa t, oi (1 : Int32), oi (2 : Int32), .unset] [(.int (1 : Int32))]) (fun _ kk => XS.iloadN X3.here hx rfl (hb yb d22_19) rfl kk) ?_
  refine ob T3 (mkF mG 29 #[oa t, oi (1 : Int32), oi (2 : Int32), .unset] []) (fun _ kk => XS.ifYes X3.here hx rfl (pc0 := 20) (pc' := 29) rfl (hb yb d22_20) rfl ((if0 _ _).trans (tlt (by decide : (0 : Int32) < (1 : Int32))).2.2.1) (by decide) (by decide) kk) ?_
  refine ob T3 (mkF mG 30 #[oa t, oi (1 : Int32), oi (2 : Int32), .unset] [(.int (1 : Int32))]) (fun _ kk => XS.iconst X3.here hx rfl (hb yb d22_29) kk) ?_
  refine ob T3 (mkF mG 34 #[oa t, oi (1 : Int32), oi (2 : Int32), .unset] [(.int (1 : Int32))]) (fun _ kk => XS.goto X3.here hx rfl (pc0 := 30) (pc' := 34) rfl (hb yb d22_30) (by decide) (by decide) kk) ?_
  refine ob T3 (mkF mG 35 #[oa t, oi (1 : Int32), oi (2 : Int32), oi (1 : Int32)] []) (fun _ kk => XS.istoreN X3.here hx rfl (hb yb d22_34) rfl (l' := #[oa t, oi (1 : Int32), oi (2 : Int32), oi (1 : Int32)]) rfl kk) ?_
  refine ob T3 (mkF mG 36 #[oa t, oi (1 : Int32), oi (2 : Int32), oi (1 : Int32)] [(.int (1 : Int32))]) (fun _ kk => XS.iloadN X3.here hx rfl (hb yb d22_35) rfl kk) ?_
  refine ob T3 (mkF mG 39 #[oa t, oi (1 : Int32), oi (2 : Int32), oi (1 : Int32)] []) (fun _ kk => XS.ifNo X3.here hx rfl (hb yb d22_36) rfl ((if0 _ _).trans (feq (by decide : ¬ ((1 : Int32) = (0 : Int32)))).1) kk) ?_
  refine ob T3 (mkF mG 40 #[oa t, oi (1 : Int32), oi (2 : Int32), oi (1 : Int32)] [(.ref t)]) (fun _ kk => XS.aloadN X3.here hx rfl (hb yb d22_39) rfl rfl kk) ?_
  refine ob T3 (mkF mG 41 #[oa t, oi (1 : Int32), oi (2 : Int32), oi (1 : Int32)] [(.int (1 : Int32)), (.ref t)]) (fun _ kk => XS.iloadN X3.here hx rfl (hb yb d22_40) rfl kk) ?_
  refine ob T3 (mkF mG 42 #[oa t, oi (1 : Int32), oi (2 : Int32), oi (1 : Int32)] [(.int (2 : Int32)), (.int (1 : Int32)), (.ref t)]) (fun _ kk => XS.iloadN X3.here hx rfl (hb yb d22_41) rfl kk) ?_
  refine ob T3 (mkF mG 43 #[oa t, oi (1 : Int32), oi (2 : Int32), oi (1 : Int32)] [(.int (1 : Int32)), (.int (2 : Int32)), (.int (1 : Int32)), (.ref t)]) (fun _ kk => XS.iloadN X3.here hx rfl (hb yb d22_42) rfl kk) ?_
  refine ob T3 (mkF mG 44 #[oa t, oi (1 : Int32), oi (2 : Int32), oi (1 : Int32)] [(.int (1 : Int32)), (.int (1 : Int32)), (.ref t)]) (fun _ kk => XS.isub X3.here hx rfl (hb yb d22_43) rfl kk) ?_
  obtain ⟨_, _, ⟨T4, L4, k4, n4⟩, -, X4, ⟨Lc4, hQ4, l4, y4, z4⟩, st4⟩ := Jvm.LawKit.callS X3 hx (y := (⟨"java/lang/StringLatin1", "newString", "([BII)Ljava/lang/String;"⟩ : MethodName)) hown (mvT hZ (ow hw 116 rfl)) (mvT hZ (ow hw 117 rfl)) (mvT hZ (ow hw 56 rfl)) (mvT hZ (ow hw 118 rfl)) (by decide) (backOf (W := 0) (rm_nst1 l Z a0 hw [] w_instance w_A c_A zc t kb c d h0 n0 O0 hS V_t) hZ (ow hw 118 rfl) (ow hw 56 rfl) (by decide) (by decide)) (g := (mkF mG 44 #[oa t, oi (1 : Int32), oi (2 : Int32), oi (1 : Int32)] [(.int (1 : Int32)), (.int (1 : Int32)), (.ref t)])) rfl (by rw [hml]; rfl) (argsL := [(.ref t), (.int (1 : Int32)), (.int (1 : Int32))]) (rest := []) (lenOf pd_12 rfl) rfl (by show 2 * 0 + _ ≤ _; exact Nat.le_of_eq rfl) (hb yb d22_44) (fun _ _ => ⟨rfl, e3, (by decide : 0 + 2 ≤ _), (by decide : 0 + 5 ≤ _)⟩)
  dsimp only [Pt.U, Pt.locs, Pt.cells, Pt.slots] at X4 l4 y4 z4 st4 hQ4
  subst l4 y4 z4
  obtain ⟨h4, e4⟩ : ∃ h, T4.heap = h := ⟨_, rfl⟩
  rw [e4] at hQ4
  obtain ⟨r0_4, rfl, N4q, K4q, O4⟩ := hQ4
  have N4 := Fr.app N3 N4q
  have K4 := K0.trans K4q all0
  refine ob T4 (mkF mG 47 #[oa t, oi (1 : Int32), oi (2 : Int32), oi (1 : Int32)] [(.ref r0_4)]) (fun _ kk => st4 _ kk) ?_
  refine ob T4 (mkF mG 51 #[oa t, oi (1 : Int32), oi (2 : Int32), oi (1 : Int32)] [(.ref r0_4)]) (fun _ kk => XS.goto X4.here hx rfl (pc0 := 47) (pc' := 51) rfl (hb yb d22_47) (by decide) (by decide) kk) ?_
  obtain ⟨fs, hr, hrun, hended, hW, hsame⟩ := X4.leave (v := some (.ref r0_4)) (fun h => by rw [Bd.returns] at h; cases h)
  refine oout (oretA X4 hx Bd.returns rfl rfl (hb yb d22_51) hr) hrun hended ⟨_, _, rfl, ?_, ⟨_, rfl⟩, hW, hsame.mono (by decide) (by decide)⟩
  show Q_rm_sx2WN Z w_instance w_A c_A zc t kb c d h0 n0 _ T4.heap _
  rw [e4]
  exact ⟨r0_4, rfl, N4, K4, O4⟩

theorem d21_33 : decode jdk_42_method_114_code 33 = .ok (.aload_n 1, 1) := by decide +kernel
def Q_rm_ss2WN (Z : State) (w_instance : Addr) (w_A : Addr) (c_A : Cell) (zc : Int32) (a : Addr) (t : Addr) (kb : ClassId) (c : Int32) (d : Int32) (h0 : Heap) (n0 : Nat) (v : Option Value) (h : Heap) (L : List Loc) : Prop := ∃ (r0 : Addr), v = some (.ref r0) ∧ Fr n0 L ∧ Keep h0 h [] ∧ Old Z n0 h
set_option maxRecDepth 65536 in
set_option maxHeartbeats 40000000 in
theorem rm_ss2WN (l : Launch) (Z : State) (a0 : Array Value) (hw : ∀ d ∈ tables_1, d.before a0 Z = true) (ws : List Jvm.Cond) (w_instance : Addr) (w_A : Addr) (c_A : Cell) (zc : Int32) (a : Addr) (t : Addr) (kb : ClassId) (c : Int32) (d : Int32) (h0 : Heap) (n0 : Nat) (O0 : Old Z n0 h0) (hS : St0 Z w_instance w_A c_A zc ) (E_a : Exa Z h0 a "java/lang/String") (F_c : Fld Z h0 a "java/lang/String" "coder" "B" (.int (0 : Int32))) (F_v : Fld Z h0 a "java/lang/String" "value" "[B" (.ref t)) (V_t : Arv Z h0 t kb .byte (2 : Int32) [(.int (c.toInt8.toInt32)), (.int (d.toInt8.toInt32))] (.int (0 : Int32))) (rc : oRg c) (rd : oRg d) (wc : oWs c = true) (wd : oWs d = false) :
    MetFree l (⟨"java/lang/String", "strip", "()Ljava/lang/String;"⟩ : MethodName) (head1 (Jvm.Cond.code (⟨"java/lang/String", "strip", "()Ljava/lang/String;"⟩ : MethodName) jdk_42_method_114_code 2 (some (.object "java/lang/String")) :: ws) ({ frames := 8, cells := 2, slots := 5, locals := 150 } : Room)) (fun aG UG => aG = #[(.ref a)] ∧ Z.Warmed39 UG.vm ∧ UG.heap = h0) (fun _ _ _ _ _ => True) (fun _ UG oG UG' => ∃ vG LG, oG = .returned vG ∧ Q_rm_ss2WN Z w_instance w_A c_A zc a t kb c d h0 n0 vG UG'.heap LG ∧ FrameEnd UG oG UG' LG ({ frames := 8, cells := 2, slots := 5, locals := 150 } : Room).cells ({ frames := 8, cells := 2, slots := 5, locals := 150 } : Room).slots) := by
  refine MetFree.of_bodySF (plainFor_of_name pn_0) hisR ?_
  intro pG eG sG mG rG bG fG cG s₁ Bd hml0 hP hK
  obtain ⟨rfl, hZ, hh⟩ := hP
  have hx := Bd.exec
  have yb := Bd.bytes
  have hml : cG.maxLocals = 2 := hml0
  have hown : sG.vm.findClass "java/lang/String" = some mG.cls := findClass_of_methodNamed Bd.named
  have hnm := (name_of_methodNamed Bd.named Bd.method).1
  have X0 : Stand pG l eG ({ frames := 8, cells := 2, slots := 5, locals := 150 } : Room) sG mG #[(.ref a)] bG fG cG s₁ [] 0 0 := Stand.of_body Bd
  have e0 : s₁.heap = h0 := by rw [← hh, Bd.state]; rfl
  have N0 := Fr.nil n0
  have K0 := Keep.refl h0 []
  obtain ⟨S_w_instance, E_w_instance, S_w_A, E_w_A, V_w_A, S_zc, hzc⟩ := (id hS : St0 Z w_instance w_A c_A zc )
  refine ostart (g' := (mkF mG 0 #[oa a, .unset] [])) (by first | (simp [entryFrame, mkF, argsToLocals, Value.category]; done) | rfl) ?_
  refine ob s₁ (mkF mG 1 #[oa a, .unset] [(.ref a)]) (fun _ kk => XS.aloadN X0.here hx rfl (hb yb d21_0) rfl rfl kk) ?_
  obtain ⟨cq1, kq1, q1a, q1b, q1c⟩ := isOf hZ e0 E_a
  obtain ⟨_, _, ⟨T1, L1, k1, n1⟩, -, X1, ⟨Lc1, hQ1, l1, y1, z1⟩, st1⟩ := X0.virtualBack hx (y := (⟨"java/lang/String", "isLatin1", "()Z"⟩ : MethodName)) (z := (⟨"java/lang/String", "isLatin1", "()Z"⟩ : MethodName)) hown (mvT hZ (ow hw 48 rfl)) (mvT hZ (ow hw 49 rfl)) (notFace_of_selects (args := #[]) (mvT hZ (ow hw 51 rfl))) (mvT hZ (ow hw 51 rfl)) (mvT hZ (ow hw 50 rfl)) (by decide) (backOf (W := 0) (rm_lat l Z a0 hw [] w_instance w_A c_A zc a h0 n0 O0 hS F_c) hZ (ow hw 52 rfl) (ow hw 6 rfl) (by decide) (by decide)) q1a q1c (g := (mkF mG 1 #[oa a, .unset] [(.ref a)])) rfl (by rw [hml]; rfl) (Steps.refl _) (argsL := []) (rest := []) (lenOf pd_2 rfl) rfl (by show 2 * 0 + _ ≤ _; exact Nat.le_of_eq rfl) (hb yb d21_1) (fun _ _ => ⟨rfl, e0, (by decide : 0 + 0 ≤ _), (by decide : 0 + 0 ≤ _)⟩)
  dsimp only [Pt.U, Pt.locs, Pt.cells, Pt.slots] at X1 l1 y1 z1 st1 hQ1
  subst l1 y1 z1
  obtain ⟨rfl, N1q, e1⟩ := hQ1
  have N1 := Fr.app N0 N1q
  refine ob T1 (mkF mG 4 #[oa a, .unset] [(.int (1 : Int32))]) (fun _ kk => st1.trans kk) ?_
  refine ob T1 (mkF mG 7 #[oa a, .unset] []) (fun _ kk => XS.ifNo X1.here hx rfl (hb yb d21_4) rfl ((if0 _ _).trans (feq (by decide : ¬ ((1 : Int32) = (0 : Int32)))).1) kk) ?_
  refine ob T1 (mkF mG 8 #[oa a, .unset] [(.ref a)]) (fun _ kk => XS.aloadN X1.here hx rfl (hb yb d21_7) rfl rfl kk) ?_
  obtain ⟨T2, X2, e2, st2⟩ := getF X1 hx hZ hown (host := "") (Or.inl (ow hw 24 rfl)) Via.refl e1 F_v (g := (mkF mG 8 #[oa a, .unset] [(.ref a)])) rfl rfl (hb yb d21_8)
  refine ob T2 (mkF mG 11 #[oa a, .unset] [(.ref t)]) (fun _ kk => st2 _ kk) ?_
  obtain ⟨_, _, ⟨T3, L3, k3, n3⟩, -, X3, ⟨Lc3, hQ3, l3, y3, z3⟩, st3⟩ := Jvm.LawKit.callS X2 hx (y := (⟨"java/lang/StringLatin1", "strip", "([B)Ljava/lang/String;"⟩ : MethodName)) hown (mvT hZ (ow hw 109 rfl)) (mvT hZ (ow hw 110 rfl)) (mvT hZ (ow hw 56 rfl)) (mvT hZ (ow hw 111 rfl)) (by decide) (backOf (W := 0) (rm_sx2WN l Z a0 hw [] w_instance w_A c_A zc t kb c d h0 n0 O0 hS V_t rc rd wc wd) hZ (ow hw 111 rfl) (ow hw 56 rfl) (by decide) (by decide)) (g := (mkF mG 11 #[oa a, .unset] [(.ref t)])) rfl (by rw [hml]; rfl) (argsL := [(.ref t)]) (rest := []) (lenOf pd_11 rfl) rfl (by show 2 * 0 + _ ≤ _; exact Nat.le_of_eq rfl) (hb yb d21_11) (fun _ _ => ⟨rfl, e2, (by decide : 0 + 2 ≤ _), (by decide : 0 + 5 ≤ _)⟩)
  dsimp only [Pt.U, Pt.locs, Pt.cells, Pt.slots] at X3 l3 y3 z3 st3 hQ3
  subst l3 y3 z3
  obtain ⟨h3, e3⟩ : ∃ h, T3.heap = h := ⟨_, rfl⟩
  rw [e3] at hQ3
  obtain ⟨r0_3, rfl, N3q, K3q, O3⟩ := hQ3
  have N3 := Fr.app N1 N3q
  have K3 := K0.trans K3q all0
  refine ob T3 (mkF mG 14 #[oa a, .unset] [(.ref r0_3)]) (fun _ kk => st3 _ kk) ?_
  refine ob T3 (mkF mG 24 #[oa a, .unset] [(.ref r0_3)]) (fun _ kk => XS.goto X3.here hx rfl (pc0 := 14) (pc' := 24) rfl (hb yb d21_14) (by decide) (by decide) kk) ?_
  refine ob T3 (mkF mG 25 #[oa a, oa r0_3] []) (fun _ kk => XS.astoreN X3.here hx rfl (hb yb d21_24) rfl rfl (l' := #[oa a, oa r0_3]) rfl kk) ?_
  refine ob T3 (mkF mG 26 #[oa a, oa r0_3] [(.ref r0_3)]) (fun _ kk => XS.aloadN X3.here hx rfl (hb yb d21_25) rfl rfl kk) ?_
  refine ob T3 (mkF mG 33 #[oa a, oa r0_3] []) (fun _ kk => XS.ifnonnullYes X3.here hx rfl (pc0 := 26) (pc' := 33) rfl (hb yb d21_26) rfl (by decide) (by decide) kk) ?_
  refine ob T3 (mkF mG 34 #[oa a, oa r0_3] [(.ref r0_3)]) (fun _ kk => XS.aloadN X3.here hx rfl (hb yb d21_33) rfl rfl kk) ?_
  obtain ⟨fs, hr, hrun, hended, hW, hsame⟩ := X3.leave (v := some (.ref r0_3)) (fun h => by rw [Bd.returns] at h; cases h)
  refine oout (oretA X3 hx Bd.returns rfl rfl (hb yb d21_34) hr) hrun hended ⟨_, _, rfl, ?_, ⟨_, rfl⟩, hW, hsame.mono (by decide) (by decide)⟩
  show Q_rm_ss2WN Z w_instance w_A c_A zc a t kb c d h0 n0 _ T3.heap _
  rw [e3]
  exact ⟨r0_3, rfl, N3, K3, O3⟩

def Q_rm_sx2NW (Z : State) (w_instance : Addr) (w_A : Addr) (c_A : Cell) (zc : Int32) (t : Addr) (kb : ClassId) (c : Int32) (d : Int32) (h0 : Heap) (n0 : Nat) (v : Option Value) (h : Heap) (L : List Loc) : Prop := ∃ (r0 : Addr), v = some (.ref r0) ∧ Fr n0 L ∧ Keep h0 h [] ∧ Old Z n0 h
set_option maxRecDepth 65536 in
set_option maxHeartbeats 40000000 in
theorem rm_sx2NW (l : Launch) (Z : State) (a0 : Array Value) (hw : ∀ d ∈ tables_1, d.before a0 Z = true) (ws : List Jvm.Cond) (w_instance : Addr) (w_A : Addr) (c_A : Cell) (zc : Int32) (t : Addr) (kb : ClassId) (c : Int32) (d : Int32) (h0 : Heap) (n0 : Nat) (O0 : Old Z n0 h0) (hS : St0 Z w_instance w_A c_A zc ) (V_t : Arv Z h0 t kb .byte (2 : Int32) [(.int (c.toInt8.toInt32)), (.int (d.toInt8.toInt32))] (.int (0 : Int32))) (rc : oRg c) (rd : oRg d) (wc : oWs c = false) (wd : oWs d = true) :
    MetFree l (⟨"java/lang/StringLatin1", "strip", "([B)Ljava/lang/String;"⟩ : MethodName) (head1 (Jvm.Cond.code (⟨"java/lang/StringLatin1", "strip", "([B)Ljava/lang/String;"⟩ : MethodName) jdk_43_method_39_code 4 (some (.object "java/lang/String")) :: ws) ({ frames := 4, cells := 2, slots := 5, locals := 86 } : Room)) (fun aG UG => aG = #[(.ref t)] ∧ Z.Warmed39 UG.vm ∧ UG.heap = h0) (fun _ _ _ _ _ => True) (fun _ UG oG UG' => ∃ vG LG, oG = .returned vG ∧ Q_rm_sx2NW Z w_instance w_A c_A zc t kb c d h0 n0 vG UG'.heap LG ∧ FrameEnd UG oG UG' LG ({ frames := 4, cells := 2, slots := 5, locals := 86 } : Room).cells ({ frames := 4, cells := 2, slots := 5, locals := 86 } : Room).slots) := by
  refine MetFree.of_bodySF (plainFor_of_name pn_1) hisR ?_
  intro pG eG sG mG rG bG fG cG s₁ Bd hml0 hP hK
  obtain ⟨rfl, hZ, hh⟩ := hP
  have hx := Bd.exec
  have yb := Bd.bytes
  have hml : cG.maxLocals = 4 := hml0
  have hown : sG.vm.findClass "java/lang/StringLatin1" = some mG.cls := findClass_of_methodNamed Bd.named
  have hnm := (name_of_methodNamed Bd.named Bd.method).1
  have X0 : Stand pG l eG ({ frames := 4, cells := 2, slots := 5, locals := 86 } : Room) sG mG #[(.ref t)] bG fG cG s₁ [] 0 0 := Stand.of_body Bd
  have e0 : s₁.heap = h0 := by rw [← hh, Bd.state]; rfl
  have N0 := Fr.nil n0
  have K0 := Keep.refl h0 []
  obtain ⟨S_w_instance, E_w_instance, S_w_A, E_w_A, V_w_A, S_zc, hzc⟩ := (id hS : St0 Z w_instance w_A c_A zc )
  refine ostart (g' := (mkF mG 0 #[oa t, .unset, .unset, .unset] [])) (by first | (simp [entryFrame, mkF, argsToLocals, Value.category]; done) | rfl) ?_
  refine ob s₁ (mkF mG 1 #[oa t, .unset, .unset, .unset] [(.ref t)]) (fun _ kk => XS.aloadN X0.here hx rfl (hb yb d22_0) rfl rfl kk) ?_
  obtain ⟨_, _, ⟨T1, L1, k1, n1⟩, -, X1, ⟨Lc1, hQ1, l1, y1, z1⟩, st1⟩ := Jvm.LawKit.callS X0 hx (y := (⟨"java/lang/StringLatin1", "indexOfNonWhitespace", "([B)I"⟩ : MethodName)) hown (mvT hZ (ow hw 112 rfl)) (mvT hZ (ow hw 55 rfl)) (mvT hZ (ow hw 56 rfl)) (mvT hZ (ow hw 57 rfl)) (by decide) (backOf (W := 0) (rm_ix2N l Z a0 hw [] w_instance w_A c_A zc t kb c d h0 n0 O0 hS V_t rc wc) hZ (ow hw 57 rfl) (ow hw 56 rfl) (by decide) (by decide)) (g := (mkF mG 1 #[oa t, .unset, .unset, .unset] [(.ref t)])) rfl (by rw [hml]; rfl) (argsL := [(.ref t)]) (rest := []) (lenOf pd_3 rfl) rfl (by show 2 * 0 + _ ≤ _; exact Nat.le_of_eq rfl) (hb yb d22_1) (fun _ _ => ⟨rfl, e0, (by decide : 0 + 0 ≤ _), (by decide : 0 + 0 ≤ _)⟩)
  dsimp only [Pt.U, Pt.locs, Pt.cells, Pt.slots] at X1 l1 y1 z1 st1 hQ1
  subst l1 y1 z1
  obtain ⟨rfl, N1q, e1⟩ := hQ1
  have N1 := Fr.app N0 N1q
  refine ob T1 (mkF mG 4 #[oa t, .unset, .unset, .unset] [(.int (0 : Int32))]) (fun _ kk => st1 _ kk) ?_
  refine ob T1 (mkF mG 5 #[oa t, oi (0 : Int32), .unset, .unset] []) (fun _ kk => XS.istoreN X1.here hx rfl (hb yb d22_4) rfl (l' := #[oa t, oi (0 : Int32), .unset, .unset]) rfl kk) ?_
  refine ob T1 (mkF mG 6 #[oa t, oi (0 : Int32), .unset, .unset] [(.int (0 : Int32))]) (fun _ kk => XS.iloadN X1.here hx rfl (hb yb d22_5) rfl kk) ?_
  refine ob T1 (mkF mG 7 #[oa t, oi (0 : Int32), .unset, .unset] [(.ref t), (.int (0 : Int32))]) (fun _ kk => XS.aloadN X1.here hx rfl (hb yb d22_6) rfl rfl kk) ?_
  obtain ⟨cl2, Ar2, -, S2, N2a, -, -⟩ := id V_t
  refine oby (T' := T1) (g' := (mkF mG 8 #[oa t, oi (0 : Int32), .unset, .unset] [(.int (2 : Int32)), (.int (0 : Int32))])) (fun ot ok => X1.arraylength hx (by rw [e1]; exact Ar2.1) (State.isArrayOf_alike hZ.alike Ar2.2.1) (g := (mkF mG 7 #[oa t, oi (0 : Int32), .unset, .unset] [(.ref t), (.int (0 : Int32))])) rfl rfl (hb yb d22_7) _ (by rw [len_of S2 N2a]; exact ok)) ?_
  refine ob T1 (mkF mG 14 #[oa t, oi (0 : Int32), .unset, .unset] []) (fun _ kk => XS.icmpYes X1.here hx rfl (pc0 := 8) (pc' := 14) rfl (hb yb d22_8) rfl (feq (by decide : ¬ ((0 : Int32) = (2 : Int32)))).2 (by decide) (by decide) kk) ?_
  refine ob T1 (mkF mG 15 #[oa t, oi (0 : Int32), .unset, .unset] [(.ref t)]) (fun _ kk => XS.aloadN X1.here hx rfl (hb yb d22_14) rfl rfl kk) ?_
  obtain ⟨_, _, ⟨T3, L3, k3, n3⟩, -, X3, ⟨Lc3, hQ3, l3, y3, z3⟩, st3⟩ := Jvm.LawKit.callS X1 hx (y := (⟨"java/lang/StringLatin1", "lastIndexOfNonWhitespace", "([B)I"⟩ : MethodName)) hown (mvT hZ (ow hw 113 rfl)) (mvT hZ (ow hw 114 rfl)) (mvT hZ (ow hw 56 rfl)) (mvT hZ (ow hw 115 rfl)) (by decide) (backOf (W := 0) (rm_lx2NW l Z a0 hw [] w_instance w_A c_A zc t kb c d h0 n0 O0 hS V_t rc rd wc wd) hZ (ow hw 115 rfl) (ow hw 56 rfl) (by decide) (by decide)) (g := (mkF mG 15 #[oa t, oi (0 : Int32), .unset, .unset] [(.ref t)])) rfl (by rw [hml]; rfl) (argsL := [(.ref t)]) (rest := []) (lenOf pd_3 rfl) rfl (by show 2 * 0 + _ ≤ _; exact Nat.le_of_eq rfl) (hb yb d22_15) (fun _ _ => ⟨rfl, e1, (by decide : 0 + 0 ≤ _), (by decide : 0 + 0 ≤ _)⟩)
  dsimp only [Pt.U, Pt.locs, Pt.cells, Pt.slots] at X3 l3 y3 z3 st3 hQ3
  subst l3 y3 z3
  obtain ⟨rfl, N3q, e3⟩ := hQ3
  have N3 := Fr.app N1 N3q
  refine ob T3 (mkF mG 18 #[oa t, oi (0 : Int32), .unset, .unset] [(.int (1 : Int32))]) (fun _ kk => st3 _ kk) ?_
  refine ob T3 (mkF mG 19 #[oa t, oi (0 : Int32), oi (1 : Int32), .unset] []) (fun _ kk => XS.istoreN X3.here hx rfl (hb yb d22_18) rfl (l' := #[oa t, oi (0 : Int32), oi (1 : Int32), .unset]) rfl kk) ?_
  refine ob T3 (mkF mG 20 #[oa t, oi (0 : Int32), oi (1 : Int32), .unset] [(.int (0 : Int32))]) (fun _ kk => XS.iloadN X3.here hx rfl (hb yb d22_19) rfl kk) ?_
  refine ob T3 (mkF mG 23 #[oa t, oi (0 : Int32), oi (1 : Int32), .unset] []) (fun _ kk => XS.ifNo X3.here hx rfl (hb yb d22_20) rfl ((if0 _ _).trans (flt (by decide : ¬ ((0 : Int32) < (0 : Int32)))).2.2.1) kk) ?_
  refine ob T3 (mkF mG 24 #[oa t, oi (0 : Int32), oi (1 : Int32), .unset] [(.int (1 : Int32))]) (fun _ kk => XS.iloadN X3.here hx rfl (hb yb d22_23) rfl kk) ?_
  refine ob T3 (mkF mG 25 #[oa t, oi (0 : Int32), oi (1 : Int32), .unset] [(.ref t), (.int (1 : Int32))]) (fun _ kk => XS.aloadN X3.here hx rfl (hb yb d22_24) rfl rfl kk) ?_
  obtain ⟨cl4, Ar4, -, S4, N4a, -, -⟩ := id V_t
  refine oby (T' := T3) (g' := (mkF mG 26 #[oa t, oi (0 : Int32), oi (1 : Int32), .unset] [(.int (2 : Int32)), (.int (1 : Int32))])) (fun ot ok => X3.arraylength hx (by rw [e3]; exact Ar4.1) (State.isArrayOf_alike hZ.alike Ar4.2.1) (g := (mkF mG 25 #[oa t, oi (0 : Int32), oi (1 : Int32), .unset] [(.ref t), (.int (1 : Int32))])) rfl rfl (hb yb d22_25) _ (by rw [len_of S4 N4a]; exact ok)) ?_
  refine ob T3 (mkF mG 29 #[oa t, oi (0 : Int32), oi (1 : Int32), .unset] []) (fun _ kk => XS.icmpNo X3.here hx rfl (hb yb d22_26) rfl (tlt (by decide : (1 : Int32) < (2 : Int32))).2.1 kk) ?_
  refine ob T3 (mkF mG 30 #[oa t, oi (0 : Int32), oi (1 : Int32), .unset] [(.int (1 : Int32))]) (fun _ kk => XS.iconst X3.here hx rfl (hb yb d22_29) kk) ?_
  refine ob T3 (mkF mG 34 #[oa t, oi (0 : Int32), oi (1 : Int32), .unset] [(.int (1 : Int32))]) (fun _ kk => XS.goto X3.here hx rfl (pc0 := 30) (pc' := 34) rfl (hb yb d22_30) (by decide) (by decide) kk) ?_
  refine ob T3 (mkF mG 35 #[oa t, oi (0 : Int32), oi (1 : Int32), oi (1 : Int32)] []) (fun _ kk => XS.istoreN X3.here hx rfl (hb yb d22_34) rfl (l' := #[oa t, oi (0 : Int32), oi (1 : Int32), oi (1 : Int32)]) rfl kk) ?_
  refine ob T3 (mkF mG 36 #[oa t, oi (0 : Int32), oi (1 : Int32), oi (1 : Int32)] [(.int (1 : Int32))]) (fun _ kk => XS.iloadN X3.here hx rfl (hb yb d22_35) rfl kk) ?_
  refine ob T3 (mkF mG 39 #[oa t, oi (0 : Int32), oi (1 : Int32), oi (1 : Int32)] []) (fun _ kk => XS.ifNo X3.here hx rfl (hb yb d22_36) rfl ((if0 _ _).trans (feq (by decide : ¬ ((1 : Int32) = (0 : Int32)))).1) kk) ?_
  refine ob T3 (mkF mG 40 #[oa t, oi (0 : Int32), oi (1 : Int32), oi (1 : Int32)] [(.ref t)]) (fun _ kk => XS.aloadN X3.here hx rfl (hb yb d22_39) rfl rfl kk) ?_
  refine ob T3 (mkF mG 41 #[oa t, oi (0 : Int32), oi (1 : Int32), oi (1 : Int32)] [(.int (0 : Int32)), (.ref t)]) (fun _ kk => XS.iloadN X3.here hx rfl (hb yb d22_40) rfl kk) ?_
  refine ob T3 (mkF mG 42 #[oa t, oi (0 : Int32), oi (1 : Int32), oi (1 : Int32)] [(.int (1 : Int32)), (.int (0 : Int32)), (.ref t)]) (fun _ kk => XS.iloadN X3.here hx rfl (hb yb d22_41) rfl kk) ?_
  refine ob T3 (mkF mG 43 #[oa t, oi (0 : Int32), oi (1 : Int32), oi (1 : Int32)] [(.int (0 : Int32)), (.int (1 : Int32)), (.int (0 : Int32)), (.ref t)]) (fun _ kk => XS.iloadN X3.here hx rfl (hb yb d22_42) rfl kk) ?_
  refine ob T3 (mkF mG 44 #[oa t, oi (0 : Int32), oi (1 : Int32), oi (1 : Int32)] [(.int (1 : Int32)), (.int (0 : Int32)), (.ref t)]) (fun _ kk => XS.isub X3.here hx rfl (hb yb d22_43) rfl kk) ?_
  obtain ⟨_, _, ⟨T5, L5, k5, n5⟩, -, X5, ⟨Lc5, hQ5, l5, y5, z5⟩, st5⟩ := Jvm.LawKit.callS X3 hx (y := (⟨"java/lang/StringLatin1", "newString", "([BII)Ljava/lang/String;"⟩ : MethodName)) hown (mvT hZ (ow hw 116 rfl)) (mvT hZ (ow hw 117 rfl)) (mvT hZ (ow hw 56 rfl)) (mvT hZ (ow hw 118 rfl)) (by decide) (backOf (W := 0) (rm_nst0 l Z a0 hw [] w_instance w_A c_A zc t kb c d h0 n0 O0 hS V_t) hZ (ow hw 118 rfl) (ow hw 56 rfl) (by decide) (by decide)) (g := (mkF mG 44 #[oa t, oi (0 : Int32), oi (1 : Int32), oi (1 : Int32)] [(.int (1 : Int32)), (.int (0 : Int32)), (.ref t)])) rfl (by rw [hml]; rfl) (argsL := [(.ref t), (.int (0 : Int32)), (.int (1 : Int32))]) (rest := []) (lenOf pd_12 rfl) rfl (by show 2 * 0 + _ ≤ _; exact Nat.le_of_eq rfl) (hb yb d22_44) (fun _ _ => ⟨rfl, e3, (by decide : 0 + 2 ≤ _), (by decide : 0 + 5 ≤ _)⟩)
  dsimp only [Pt.U, Pt.locs, Pt.cells, Pt.slots] at X5 l5 y5 z5 st5 hQ5
  subst l5 y5 z5
  obtain ⟨h5, e5⟩ : ∃ h, T5.heap = h := ⟨_, rfl⟩
  rw [e5] at hQ5
  obtain ⟨r0_5, rfl, N5q, K5q, O5⟩ := hQ5
  have N5 := Fr.app N3 N5q
  have K5 := K0.trans K5q all0
  refine ob T5 (mkF mG 47 #[oa t, oi (0 : Int32), oi (1 : Int32), oi (1 : Int32)] [(.ref r0_5)]) (fun _ kk => st5 _ kk) ?_
  refine ob T5 (mkF mG 51 #[oa t, oi (0 : Int32), oi (1 : Int32), oi (1 : Int32)] [(.ref r0_5)]) (fun _ kk => XS.goto X5.here hx rfl (pc0 := 47) (pc' := 51) rfl (hb yb d22_47) (by decide) (by decide) kk) ?_
  obtain ⟨fs, hr, hrun, hended, hW, hsame⟩ := X5.leave (v := some (.ref r0_5)) (fun h => by rw [Bd.returns] at h; cases h)
  refine oout (oretA X5 hx Bd.returns rfl rfl (hb yb d22_51) hr) hrun hended ⟨_, _, rfl, ?_, ⟨_, rfl⟩, hW, hsame.mono (by decide) (by decide)⟩
  show Q_rm_sx2NW Z w_instance w_A c_A zc t kb c d h0 n0 _ T5.heap _
  rw [e5]
  exact ⟨r0_5, rfl, N5, K5, O5⟩

def Q_rm_ss2NW (Z : State) (w_instance : Addr) (w_A : Addr) (c_A : Cell) (zc : Int32) (a : Addr) (t : Addr) (kb : ClassId) (c : Int32) (d : Int32) (h0 : Heap) (n0 : Nat) (v : Option Value) (h : Heap) (L : List Loc) : Prop := ∃ (r0 : Addr), v = some (.ref r0) ∧ Fr n0 L ∧ Keep h0 h [] ∧ Old Z n0 h
set_option maxRecDepth 65536 in
set_option maxHeartbeats 40000000 in
theorem rm_ss2NW (l : Launch) (Z : State) (a0 : Array Value) (hw : ∀ d ∈ tables_1, d.before a0 Z = true) (ws : List Jvm.Cond) (w_instance : Addr) (w_A : Addr) (c_A : Cell) (zc : Int32) (a : Addr) (t : Addr) (kb : ClassId) (c : Int32) (d : Int32) (h0 : Heap) (n0 : Nat) (O0 : Old Z n0 h0) (hS : St0 Z w_instance w_A c_A zc ) (E_a : Exa Z h0 a "java/lang/String") (F_c : Fld Z h0 a "java/lang/String" "coder" "B" (.int (0 : Int32))) (F_v : Fld Z h0 a "java/lang/String" "value" "[B" (.ref t)) (V_t : Arv Z h0 t kb .byte (2 : Int32) [(.int (c.toInt8.toInt32)), (.int (d.toInt8.toInt32))] (.int (0 : Int32))) (rc : oRg c) (rd : oRg d) (wc : oWs c = false) (wd : oWs d = true) :
    MetFree l (⟨"java/lang/String", "strip", "()Ljava/lang/String;"⟩ : MethodName) (head1 (Jvm.Cond.code (⟨"java/lang/String", "strip", "()Ljava/lang/String;"⟩ : MethodName) jdk_42_method_114_code 2 (some (.object "java/lang/String")) :: ws) ({ frames := 8, cells := 2, slots := 5, locals := 150 } : Room)) (fun aG UG => aG = #[(.ref a)] ∧ Z.Warmed39 UG.vm ∧ UG.heap = h0) (fun _ _ _ _ _ => True) (fun _ UG oG UG' => ∃ vG LG, oG = .returned vG ∧ Q_rm_ss2NW Z w_instance w_A c_A zc a t kb c d h0 n0 vG UG'.heap LG ∧ FrameEnd UG oG UG' LG ({ frames := 8, cells := 2, slots := 5, locals := 150 } : Room).cells ({ frames := 8, cells := 2, slots := 5, locals := 150 } : Room).slots) := by
  refine MetFree.of_bodySF (plainFor_of_name pn_0) hisR ?_
  intro pG eG sG mG rG bG fG cG s₁ Bd hml0 hP hK
  obtain ⟨rfl, hZ, hh⟩ := hP
  have hx := Bd.exec
  have yb := Bd.bytes
  have hml : cG.maxLocals = 2 := hml0
  have hown : sG.vm.findClass "java/lang/String" = some mG.cls := findClass_of_methodNamed Bd.named
  have hnm := (name_of_methodNamed Bd.named Bd.method).1
  have X0 : Stand pG l eG ({ frames := 8, cells := 2, slots := 5, locals := 150 } : Room) sG mG #[(.ref a)] bG fG cG s₁ [] 0 0 := Stand.of_body Bd
  have e0 : s₁.heap = h0 := by rw [← hh, Bd.state]; rfl
  have N0 := Fr.nil n0
  have K0 := Keep.refl h0 []
  obtain ⟨S_w_instance, E_w_instance, S_w_A, E_w_A, V_w_A, S_zc, hzc⟩ := (id hS : St0 Z w_instance w_A c_A zc )
  refine ostart (g' := (mkF mG 0 #[oa a, .unset] [])) (by first | (simp [entryFrame, mkF, argsToLocals, Value.category]; done) | rfl) ?_
  refine ob s₁ (mkF mG 1 #[oa a, .unset] [(.ref a)]) (fun _ kk => XS.aloadN X0.here hx rfl (hb yb d21_0) rfl rfl kk) ?_
  obtain ⟨cq1, kq1, q1a, q1b, q1c⟩ := isOf hZ e0 E_a
  obtain ⟨_, _, ⟨T1, L1, k1, n1⟩, -, X1, ⟨Lc1, hQ1, l1, y1, z1⟩, st1⟩ := X0.virtualBack hx (y := (⟨"java/lang/String", "isLatin1", "()Z"⟩ : MethodName)) (z := (⟨"java/lang/String", "isLatin1", "()Z"⟩ : MethodName)) hown (mvT hZ (ow hw 48 rfl)) (mvT hZ (ow hw 49 rfl)) (notFace_of_selects (args := #[]) (mvT hZ (ow hw 51 rfl))) (mvT hZ (ow hw 51 rfl)) (mvT hZ (ow hw 50 rfl)) (by decide) (backOf (W := 0) (rm_lat l Z a0 hw [] w_instance w_A c_A zc a h0 n0 O0 hS F_c) hZ (ow hw 52 rfl) (ow hw 6 rfl) (by decide) (by decide)) q1a q1c (g := (mkF mG 1 #[oa a, .unset] [(.ref a)])) rfl (by rw [hml]; rfl) (Steps.refl _) (argsL := []) (rest := []) (lenOf pd_2 rfl) rfl (by show 2 * 0 + _ ≤ _; exact Nat.le_of_eq rfl) (hb yb d21_1) (fun _ _ => ⟨rfl, e0, (by decide : 0 + 0 ≤ _), (by decide : 0 + 0 ≤ _)⟩)
  dsimp only [Pt.U, Pt.locs, Pt.cells, Pt.slots] at X1 l1 y1 z1 st1 hQ1
  subst l1 y1 z1
  obtain ⟨rfl, N1q, e1⟩ := hQ1
  have N1 := Fr.app N0 N1q
  refine ob T1 (mkF mG 4 #[oa a, .unset] [(.int (1 : Int32))]) (fun _ kk => st1.trans kk) ?_
  refine ob T1 (mkF mG 7 #[oa a, .unset] []) (fun _ kk => XS.ifNo X1.here hx rfl (hb yb d21_4) rfl ((if0 _ _).trans (feq (by decide : ¬ ((1 : Int32) = (0 : Int32)))).1) kk) ?_
  refine ob T1 (mkF mG 8 #[oa a, .unset] [(.ref a)]) (fun _ kk => XS.aloadN X1.here hx rfl (hb yb d21_7) rfl rfl kk) ?_
  obtain ⟨T2, X2, e2, st2⟩ := getF X1 hx hZ hown (host := "") (Or.inl (ow hw 24 rfl)) Via.refl e1 F_v (g := (mkF mG 8 #[oa a, .unset] [(.ref a)])) rfl rfl (hb yb d21_8)
  refine ob T2 (mkF mG 11 #[oa a, .unset] [(.ref t)]) (fun _ kk => st2 _ kk) ?_
  obtain ⟨_, _, ⟨T3, L3, k3, n3⟩, -, X3, ⟨Lc3, hQ3, l3, y3, z3⟩, st3⟩ := Jvm.LawKit.callS X2 hx (y := (⟨"java/lang/StringLatin1", "strip", "([B)Ljava/lang/String;"⟩ : MethodName)) hown (mvT hZ (ow hw 109 rfl)) (mvT hZ (ow hw 110 rfl)) (mvT hZ (ow hw 56 rfl)) (mvT hZ (ow hw 111 rfl)) (by decide) (backOf (W := 0) (rm_sx2NW l Z a0 hw [] w_instance w_A c_A zc t kb c d h0 n0 O0 hS V_t rc rd wc wd) hZ (ow hw 111 rfl) (ow hw 56 rfl) (by decide) (by decide)) (g := (mkF mG 11 #[oa a, .unset] [(.ref t)])) rfl (by rw [hml]; rfl) (argsL := [(.ref t)]) (rest := []) (lenOf pd_11 rfl) rfl (by show 2 * 0 + _ ≤ _; exact Nat.le_of_eq rfl) (hb yb d21_11) (fun _ _ => ⟨rfl, e2, (by decide : 0 + 2 ≤ _), (by decide : 0 + 5 ≤ _)⟩)
  dsimp only [Pt.U, Pt.locs, Pt.cells, Pt.slots] at X3 l3 y3 z3 st3 hQ3
  subst l3 y3 z3
  obtain ⟨h3, e3⟩ : ∃ h, T3.heap = h := ⟨_, rfl⟩
  rw [e3] at hQ3
  obtain ⟨r0_3, rfl, N3q, K3q, O3⟩ := hQ3
  have N3 := Fr.app N1 N3q
  have K3 := K0.trans K3q all0
  refine ob T3 (mkF mG 14 #[oa a, .unset] [(.ref r0_3)]) (fun _ kk => st3 _ kk) ?_
  refine ob T3 (mkF mG 24 #[oa a, .unset] [(.ref r0_3)]) (fun _ kk => XS.goto X3.here hx rfl (pc0 := 14) (pc' := 24) rfl (hb yb d21_14) (by decide) (by decide) kk) ?_
  refine ob T3 (mkF mG 25 #[oa a, oa r0_3] []) (fun _ kk => XS.astoreN X3.here hx rfl (hb yb d21_24) rfl rfl (l' := #[oa a, oa r0_3]) rfl kk) ?_
  refine ob T3 (mkF mG 26 #[oa a, oa r0_3] [(.ref r0_3)]) (fun _ kk => XS.aloadN X3.here hx rfl (hb yb d21_25) rfl rfl kk) ?_
  refine ob T3 (mkF mG 33 #[oa a, oa r0_3] []) (fun _ kk => XS.ifnonnullYes X3.here hx rfl (pc0 := 26) (pc' := 33) rfl (hb yb d21_26) rfl (by decide) (by decide) kk) ?_
  refine ob T3 (mkF mG 34 #[oa a, oa r0_3] [(.ref r0_3)]) (fun _ kk => XS.aloadN X3.here hx rfl (hb yb d21_33) rfl rfl kk) ?_
  obtain ⟨fs, hr, hrun, hended, hW, hsame⟩ := X3.leave (v := some (.ref r0_3)) (fun h => by rw [Bd.returns] at h; cases h)
  refine oout (oretA X3 hx Bd.returns rfl rfl (hb yb d21_34) hr) hrun hended ⟨_, _, rfl, ?_, ⟨_, rfl⟩, hW, hsame.mono (by decide) (by decide)⟩
  show Q_rm_ss2NW Z w_instance w_A c_A zc a t kb c d h0 n0 _ T3.heap _
  rw [e3]
  exact ⟨r0_3, rfl, N3, K3, O3⟩

def Q_rm_stF (Z : State) (w_instance : Addr) (w_A : Addr) (c_A : Cell) (zc : Int32) (a : Addr) (h0 : Heap) (n0 : Nat) (v : Option Value) (h : Heap) (L : List Loc) : Prop := ∃ (r0 : Addr), v = some (.ref r0) ∧ Fr n0 L ∧ Keep h0 h [] ∧ Old Z n0 h
set_option maxRecDepth 65536 in
set_option maxHeartbeats 40000000 in
theorem rm_stF (l : Launch) (Z : State) (a0 : Array Value) (hw : ∀ d ∈ tables_1, d.before a0 Z = true) (ws : List Jvm.Cond) (w_instance : Addr) (w_A : Addr) (c_A : Cell) (zc : Int32) (a : Addr) (h0 : Heap) (n0 : Nat) (O0 : Old Z n0 h0) (hS : St0 Z w_instance w_A c_A zc ) (S_a : oS Z h0 a false) :
    MetFree l (⟨"java/lang/String", "strip", "()Ljava/lang/String;"⟩ : MethodName) (head1 (Jvm.Cond.code (⟨"java/lang/String", "strip", "()Ljava/lang/String;"⟩ : MethodName) jdk_42_method_114_code 2 (some (.object "java/lang/String")) :: ws) ({ frames := 8, cells := 2, slots := 5, locals := 150 } : Room)) (fun aG UG => aG = #[(.ref a)] ∧ Z.Warmed39 UG.vm ∧ UG.heap = h0) (fun _ _ _ _ _ => True) (fun _ UG oG UG' => ∃ vG LG, oG = .returned vG ∧ Q_rm_stF Z w_instance w_A c_A zc a h0 n0 vG UG'.heap LG ∧ FrameEnd UG oG UG' LG ({ frames := 8, cells := 2, slots := 5, locals := 150 } : Room).cells ({ frames := 8, cells := 2, slots := 5, locals := 150 } : Room).slots) := by
  obtain ⟨E, C, t, kb, V, ⟨A, q⟩ | ⟨c, hc, A, hb⟩ | ⟨c, d, hc, hd, A, hb⟩⟩ := S_a
  · cases q
  · exact rm_ss1N l Z a0 hw ws w_instance w_A c_A zc a t kb c h0 n0 O0 hS E C V A hc hb.symm
  · cases h1 : oWs c with
    | false =>
      cases h2 : oWs d with
      | false => exact rm_ss2NN l Z a0 hw ws w_instance w_A c_A zc a t kb c d h0 n0 O0 hS E C V A hc hd h1 h2
      | true => exact rm_ss2NW l Z a0 hw ws w_instance w_A c_A zc a t kb c d h0 n0 O0 hS E C V A hc hd h1 h2
    | true =>
      rw [h1, Bool.true_and] at hb
      exact rm_ss2WN l Z a0 hw ws w_instance w_A c_A zc a t kb c d h0 n0 O0 hS E C V A hc hd h1 hb.symm

theorem own_backS {p : Program} {l : Launch} {e : Env} {R : Room} {s : State} {args : Array Value} {below : List Frame} {Z : State} {a0 : Array Value} {EL : List (String × Nat)} {h : Heap} {vm0 : Vm} {y : MethodName} {bytes : ByteArray} {maxL : Nat} {ret : Option FieldType} {rm : Room} {len W : Nat} {as' : Array Value} {Q : Option Value → Heap → List Loc → Prop} {x : Addr}
    (hM : MetFree l y (head1 [Jvm.Cond.code y bytes maxL ret] rm) (fun a U => a = as' ∧ Z.Warmed39 U.vm ∧ U.heap = h ∧ CHv Z EL U.vm h ∧ Safe Z EL U.vm h x) (fun _ _ _ _ _ => True) (fun _ U o U' => ∃ v L, o = .returned v ∧ Q v U'.heap L ∧ CHr Z EL U.vm U.heap U'.vm U'.heap ∧ ReturnedEndW U o U' L rm.cells rm.slots))
    (hZ : Z.Warmed39 vm0) (wc : (Jvm.Cond.code y bytes maxL ret).before a0 Z = true) (wz : (Jvm.Cond.initialized y.cls).before a0 Z = true) (hf : rm.frames + 1 ≤ R.frames) (hl : W + (maxL + 11) + rm.locals ≤ R.locals) (hEL : EW Z a0 EL) (H : CHv Z EL vm0 h) (hx : x < h.size) (S : Safe Z EL vm0 h x) :
    BackS l R p e below (s.setVm vm0) args y len W (fun A a => a = as' ∧ A.U.heap = h ∧ A.cells + rm.cells ≤ R.cells ∧ A.slots + rm.slots ≤ R.slots)
      (fun A _ v B => ∃ L, Q v B.U.heap L ∧ B.locs = A.locs ++ L ∧ B.cells = A.cells + rm.cells ∧ B.slots = A.slots + rm.slots ∧ CHr Z EL vm0 h B.U.vm B.U.heap) :=
  BackS.of_freeW (bytes := bytes) (maxL := maxL) (ret := ret) (E := fun _ first o t L k n => k = rm.cells ∧ n = rm.slots ∧ (∃ v, o = .returned v ∧ Q v t.heap L) ∧ CHr Z EL first.vm first.heap t.vm t.heap) hM hf hl
    (fun m meth c A a Y hp => have hU : Z.Warmed39 A.U.vm := wtrans (s := s.setVm vm0) hZ Y.warmed
      ⟨by show (Jvm.Cond.and _ .tt).before a A.U = true; rw [Cond.before_and, mv hU wc]; rfl, mv hU wc, mv hU wz, hp.2.2.1, hp.2.2.2⟩)
    (fun m meth c A a g mk Y hp => ⟨hp.1, wtrans (s := s.setVm vm0) hZ Y.warmed, hp.2.1, (CHv.at Y hZ hEL H).1, (CHv.at Y hZ hEL H).safe hx S⟩) (fun _ _ _ _ _ _ _ _ _ => trivial)
    (fun _ _ _ _ ⟨v, L, h1, h2, h3, h4⟩ => ⟨L, _, _, h4, rfl, rfl, ⟨v, h1, h2⟩, h3⟩)
    (fun m meth c A a g mk v t L k n Y hp _ _ ⟨e1, e2, ⟨v', e3, e4⟩, e5⟩ => by
      cases e3; subst e1 e2
      refine ⟨L, e4, rfl, rfl, rfl, (CHv.at Y hZ hEL H).trans ?_⟩
      rw [← hp.2.1]; exact e5)

def oB (b : Bool) : Int32 := if b = true then 1 else 0
def oBl (n c d : Int32) : Bool := if n = (1 : Int32) then true else if n = (2 : Int32) then oWs c else (oWs c && oWs d)
theorem own_nb (b : Bool) : nar .boolean (oB b) = oB b := by cases b <;> rfl
theorem own_b1 {x y : Bool} (h1 : ¬ oB x = (0 : Int32)) (h2 : ¬ oB y = (0 : Int32)) : oB (x && y) = 1 := by cases x <;> cases y <;> first | rfl | exact absurd rfl h1 | exact absurd rfl h2
theorem own_b0 {x y : Bool} (h : oB x = (0 : Int32)) : oB (x && y) = 0 := by cases x <;> cases y <;> first | rfl | exact absurd h (by decide)
theorem own_b0' {x y : Bool} (h : oB y = (0 : Int32)) : oB (x && y) = 0 := by cases x <;> cases y <;> first | rfl | exact absurd h (by decide)

theorem d3_0 : decode jdk_42_method_149_code 0 = .ok (.aload_n 0, 1) := by decide +kernel
theorem d3_1 : decode jdk_42_method_149_code 1 = .ok (.invokespecial 1, 3) := by decide +kernel
theorem d3_4 : decode jdk_42_method_149_code 4 = .ok (.iload_n 3, 1) := by decide +kernel
theorem d3_5 : decode jdk_42_method_149_code 5 = .ok (.ifCond .ne 22, 3) := by decide +kernel
theorem d3_8 : decode jdk_42_method_149_code 8 = .ok (.aload_n 0, 1) := by decide +kernel
theorem d3_9 : decode jdk_42_method_149_code 9 = .ok (.ldc 7, 2) := by decide +kernel
theorem d3_11 : decode jdk_42_method_149_code 11 = .ok (.getfield 9, 3) := by decide +kernel
theorem d3_14 : decode jdk_42_method_149_code 14 = .ok (.putfield 9, 3) := by decide +kernel
theorem d3_17 : decode jdk_42_method_149_code 17 = .ok (.aload_n 0, 1) := by decide +kernel
theorem d3_18 : decode jdk_42_method_149_code 18 = .ok (.ldc 7, 2) := by decide +kernel
theorem d3_20 : decode jdk_42_method_149_code 20 = .ok (.getfield 15, 3) := by decide +kernel
theorem d3_23 : decode jdk_42_method_149_code 23 = .ok (.putfield 15, 3) := by decide +kernel
theorem d3_26 : decode jdk_42_method_149_code 26 = .ok (.return_, 1) := by decide +kernel
def Q_rm_e2 (Z : State) (w_instance : Addr) (w_A : Addr) (c_A : Cell) (zc : Int32) (a : Addr) (b : Addr) (u0 : Value) (u1 : Value) (h0 : Heap) (n0 : Nat) (v : Option Value) (h : Heap) (L : List Loc) : Prop := ∃ (r0 : Addr) (k0 : ClassId), v = none ∧ Fr n0 L ∧ Keep h0 h [a] ∧ Old Z n0 h ∧ Fld Z h a "java/lang/String" "value" "[B" (.ref r0) ∧ Fld Z h a "java/lang/String" "coder" "B" (.int (0 : Int32)) ∧ Arv Z h r0 k0 .byte (0 : Int32) [] (.int (0 : Int32))
set_option maxRecDepth 65536 in
set_option maxHeartbeats 40000000 in
theorem rm_e2 (l : Launch) (Z : State) (a0 : Array Value) (hw : ∀ d ∈ tables_1, d.before a0 Z = true) (ws : List Jvm.Cond) (w_instance : Addr) (w_A : Addr) (c_A : Cell) (zc : Int32) (a : Addr) (b : Addr) (u0 : Value) (u1 : Value) (h0 : Heap) (n0 : Nat) (O0 : Old Z n0 h0) (hS : St0 Z w_instance w_A c_A zc ) (E_a : Exa Z h0 a "java/lang/String") (F_0 : Fld Z h0 a "java/lang/String" "value" "[B" u0) (F_1 : Fld Z h0 a "java/lang/String" "coder" "B" u1) (n_a : n0 ≤ a) :
    MetFree l (⟨"java/lang/String", "<init>", "([CIILjava/lang/Void;)V"⟩ : MethodName) (head1 (Jvm.Cond.code (⟨"java/lang/String", "<init>", "([CIILjava/lang/Void;)V"⟩ : MethodName) jdk_42_method_149_code 6 none :: ws) ({ frames := 1, cells := 4, slots := 8, locals := 12 } : Room)) (fun aG UG => aG = #[(.ref a), (.ref b), (.int (0 : Int32)), (.int (0 : Int32)), .null] ∧ Z.Warmed39 UG.vm ∧ UG.heap = h0 ∧ CHv Z oEL UG.vm h0 ∧ Safe Z oEL UG.vm h0 a) (fun _ _ _ _ _ => True) (fun _ UG oG UG' => ∃ vG LG, oG = .returned vG ∧ Q_rm_e2 Z w_instance w_A c_A zc a b u0 u1 h0 n0 vG UG'.heap LG ∧ CHr Z oEL UG.vm UG.heap UG'.vm UG'.heap ∧ ReturnedEndW UG oG UG' LG ({ frames := 1, cells := 4, slots := 8, locals := 12 } : Room).cells ({ frames := 1, cells := 4, slots := 8, locals := 12 } : Room).slots) := by
  refine MetFree.of_bodySF (plainFor_of_name pn_0) hisR ?_
  intro pG eG sG mG rG bG fG cG s₁ Bd hml0 hP hK
  obtain ⟨rfl, hZ, hh, hC, hs_a⟩ := hP
  have hx := Bd.exec
  have yb := Bd.bytes
  have hml : cG.maxLocals = 6 := hml0
  have hown : sG.vm.findClass "java/lang/String" = some mG.cls := findClass_of_methodNamed Bd.named
  have hnm := (name_of_methodNamed Bd.named Bd.method).1
  have X0 : Stand pG l eG ({ frames := 1, cells := 4, slots := 8, locals := 12 } : Room) (sG.setVm sG.vm) mG #[(.ref a), (.ref b), (.int (0 : Int32)), (.int (0 : Int32)), .null] bG fG cG s₁ [] 0 0 := Stand.of_body Bd
  have e0 : s₁.heap = h0 := by rw [← hh, Bd.state]; rfl
  have N0 := Fr.nil n0
  have K0 := Keep.refl h0 [a]
  have hS0 : sG.Since sG.vm h0.size := (State.WarmedH.refl sG).since _
  have hk0 : h0.size ≤ h0.size := Nat.le_refl _
  have CR0 : CHr Z oEL sG.vm h0 sG.vm h0 := CHr.refl hC
  have hEL : EW Z a0 oEL := own_EW hw
  obtain ⟨S_w_instance, E_w_instance, S_w_A, E_w_A, V_w_A, S_zc, hzc⟩ := (id hS : St0 Z w_instance w_A c_A zc )
  refine ostart (g' := (mkF mG 0 #[oa a, oa b, oi (0 : Int32), oi (0 : Int32), .val .null, .unset] [])) (by first | (simp [entryFrame, mkF, argsToLocals, Value.category]; done) | rfl) ?_
  refine ob s₁ (mkF mG 1 #[oa a, oa b, oi (0 : Int32), oi (0 : Int32), .val .null, .unset] [(.ref a)]) (fun _ kk => XS.aloadN X0.here hx rfl (hb yb d3_0) rfl rfl kk) ?_
  obtain ⟨T1, X1, e1, st1⟩ := initO X0 hx hZ hown (ow hw 15 rfl) (ow hw 16 rfl) (ow hw 17 rfl) e0 (g := (mkF mG 1 #[oa a, oa b, oi (0 : Int32), oi (0 : Int32), .val .null, .unset] [(.ref a)])) rfl (by rw [hml]; rfl) rfl (hb yb d3_1) (by decide) (W := 0) (by show 2 * 0 + _ ≤ _; exact Nat.le_of_eq rfl) (by decide)
  refine ob T1 (mkF mG 4 #[oa a, oa b, oi (0 : Int32), oi (0 : Int32), .val .null, .unset] []) (fun _ kk => st1 _ kk) ?_
  refine ob T1 (mkF mG 5 #[oa a, oa b, oi (0 : Int32), oi (0 : Int32), .val .null, .unset] [(.int (0 : Int32))]) (fun _ kk => XS.iloadN X1.here hx rfl (hb yb d3_4) rfl kk) ?_
  refine ob T1 (mkF mG 8 #[oa a, oa b, oi (0 : Int32), oi (0 : Int32), .val .null, .unset] []) (fun _ kk => XS.ifNo X1.here hx rfl (hb yb d3_5) rfl ((if0 _ _).trans (teq (by decide : (0 : Int32) = (0 : Int32))).2) kk) ?_
  refine ob T1 (mkF mG 9 #[oa a, oa b, oi (0 : Int32), oi (0 : Int32), .val .null, .unset] [(.ref a)]) (fun _ kk => XS.aloadN X1.here hx rfl (hb yb d3_8) rfl rfl kk) ?_
  obtain ⟨a2, T2, h2, k12, t2, kb2, X2, e2, E2, hS2, hk2, hZ, hown, A2, C2, V2, B2, la2, lt2, CS2, Li2, ns2, st2⟩ := ldcCH X1 hx hZ hown (ow hw 18 rfl) (fun d hd => hw d (own_atoms d hd)) e1 hS0 hk0 hEL (List.mem_of_getElem? (i := 0) rfl) CR0.1 (vs := []) (z := (0 : Int32)) ⟨by decide, by first | rfl | decide +kernel⟩ (by decide) rfl (g := (mkF mG 9 #[oa a, oa b, oi (0 : Int32), oi (0 : Int32), .val .null, .unset] [(.ref a)])) rfl (hb yb d3_9) (n := 0) (by decide) (by decide) (by decide) (by decide)
  have CR2 := CR0.trans CS2
  have O2 := O0.ext E2
  have K2 := K0.ext E2
  have nl2_a := ns2 a (CHr.safe CS2 E_a.lt hs_a)
  refine ob T2 (mkF mG 11 #[oa a, oa b, oi (0 : Int32), oi (0 : Int32), .val .null, .unset] [(.ref a2), (.ref a)]) (fun _ kk => st2 _ kk) ?_
  obtain ⟨T3, X3, e3, st3⟩ := getF X2 hx hZ hown (host := "") (Or.inl (ow hw 24 rfl)) Via.refl e2 V2 (g := (mkF mG 11 #[oa a, oa b, oi (0 : Int32), oi (0 : Int32), .val .null, .unset] [(.ref a2), (.ref a)])) rfl rfl (hb yb d3_11)
  refine ob T3 (mkF mG 14 #[oa a, oa b, oi (0 : Int32), oi (0 : Int32), .val .null, .unset] [(.ref t2), (.ref a)]) (fun _ kk => st3 _ kk) ?_
  obtain ⟨T4, h4, X4, e4, W4, st4⟩ := putF X3 hx hZ hown (host := "") (Or.inl (ow hw 24 rfl)) Via.refl e3 (F_0.ext E2) (E_a.ext E2) (Or.inr ⟨(ow hw 20 rfl), rfl, hnm⟩) (ow hw 5 rfl) (ty := (.array .byte)) (by decide) rfl rfl (g := (mkF mG 14 #[oa a, oa b, oi (0 : Int32), oi (0 : Int32), .val .null, .unset] [(.ref t2), (.ref a)])) rfl rfl (hb yb d3_14)
  have F4 := (F_0.ext E2).same W4
  have CS4 : CHr Z oEL T2.vm h2 T2.vm h4 := CHr.wr W4 (CHr.safe CS2 E_a.lt hs_a) CR2.1
  have CR4 := CR2.trans CS4
  have O4 := O2.wr W4 n_a
  have K4 := K2.wr W4 (Or.inl (List.mem_of_getElem? (i := 0) rfl))
  have N4 := Fr.snoc X4 N0 n_a
  refine ob T4 (mkF mG 17 #[oa a, oa b, oi (0 : Int32), oi (0 : Int32), .val .null, .unset] []) (fun _ kk => st4 _ kk) ?_
  refine ob T4 (mkF mG 18 #[oa a, oa b, oi (0 : Int32), oi (0 : Int32), .val .null, .unset] [(.ref a)]) (fun _ kk => XS.aloadN X4.here hx rfl (hb yb d3_17) rfl rfl kk) ?_
  obtain ⟨a5, T5, h5, k15, t5, kb5, X5, e5, E5, hS5, hk5, hZ, hown, A5, C5, V5, B5, la5, lt5, CS5, Li5, ns5, st5⟩ := ldcCH X4 hx hZ hown (ow hw 18 rfl) (fun d hd => hw d (own_atoms d hd)) e4 hS2 (Nat.le_trans hk2 CS4.2.1) hEL (List.mem_of_getElem? (i := 0) rfl) CR4.1 (vs := []) (z := (0 : Int32)) ⟨by decide, by first | rfl | decide +kernel⟩ (by decide) rfl (g := (mkF mG 18 #[oa a, oa b, oi (0 : Int32), oi (0 : Int32), .val .null, .unset] [(.ref a)])) rfl (hb yb d3_18) (n := 0) (by decide) (by decide) (by decide) (by decide)
  have CR5 := CR4.trans CS5
  have O5 := O4.ext E5
  have K5 := K4.ext E5
  have nl5_a := ns5 a (CHr.safe (CS2.trans (CS4.trans CS5)) E_a.lt hs_a)
  refine ob T5 (mkF mG 20 #[oa a, oa b, oi (0 : Int32), oi (0 : Int32), .val .null, .unset] [(.ref a5), (.ref a)]) (fun _ kk => st5 _ kk) ?_
  obtain ⟨T6, X6, e6, st6⟩ := getF X5 hx hZ hown (host := "") (Or.inl (ow hw 25 rfl)) Via.refl e5 C5 (g := (mkF mG 20 #[oa a, oa b, oi (0 : Int32), oi (0 : Int32), .val .null, .unset] [(.ref a5), (.ref a)])) rfl rfl (hb yb d3_20)
  refine ob T6 (mkF mG 23 #[oa a, oa b, oi (0 : Int32), oi (0 : Int32), .val .null, .unset] [(.int (0 : Int32)), (.ref a)]) (fun _ kk => st6 _ kk) ?_
  obtain ⟨T7, h7, X7, e7, W7, st7⟩ := putFN X6 hx hZ hown (ow hw 25 rfl) Via.refl e6 (((F_1.ext E2).other W4 (Or.inr (slot_ne (Or.inr (ow hw 21 rfl)) (Or.inr (ow hw 20 rfl)) (by decide) (t := .byte) (t' := (.array .byte)) (by decide) (by decide)))).ext E5) (((E_a.ext E2).wr W4).ext E5) (Or.inr ⟨(ow hw 21 rfl), rfl, hnm⟩) (ow hw 5 rfl) (ty := .byte) (v' := (.int (0 : Int32))) (by decide) rfl rfl (g := (mkF mG 23 #[oa a, oa b, oi (0 : Int32), oi (0 : Int32), .val .null, .unset] [(.int (0 : Int32)), (.ref a)])) rfl rfl (hb yb d3_23)
  have F7 := (((F_1.ext E2).other W4 (Or.inr (slot_ne (Or.inr (ow hw 21 rfl)) (Or.inr (ow hw 20 rfl)) (by decide) (t := .byte) (t' := (.array .byte)) (by decide) (by decide)))).ext E5).same W7
  have CS7 : CHr Z oEL T5.vm h5 T5.vm h7 := CHr.wr W7 (CHr.safe (CS2.trans (CS4.trans CS5)) E_a.lt hs_a) CR5.1
  have CR7 := CR5.trans CS7
  have O7 := O5.wr W7 n_a
  have K7 := K5.wr W7 (Or.inl (List.mem_of_getElem? (i := 0) rfl))
  have N7 := Fr.snoc X7 N4 n_a
  refine ob T7 (mkF mG 26 #[oa a, oa b, oi (0 : Int32), oi (0 : Int32), .val .null, .unset] []) (fun _ kk => st7 _ kk) ?_
  obtain ⟨fs, hr, hrun, hended, hW, hsame⟩ := X7.leave (v := none) (fun _ => rfl)
  obtain ⟨w1, w2, w3⟩ := State.Since.ended (U := T7.setFrames fs) hS5 hW (by show _ ≤ T7.heap.size; rw [e7]; exact (Nat.le_trans hk5 CS7.2.1)) hsame
  have CF := CR7.trans (CHv.at X7 hZ hEL CR7.1)
  refine oout (X7.returnOut hx Bd.returns (hb yb d3_26) hr) hrun hended ⟨_, _, rfl, ?_, ?_, ⟨_, rfl⟩, w1, w2, w3.mono (by decide) (by decide)⟩
  · show Q_rm_e2 Z w_instance w_A c_A zc a b u0 u1 h0 n0 _ T7.heap _
    rw [e7]
    exact ⟨t2, kb2, rfl, N7, K7, O7, ((F4.ext E5).other W7 (Or.inr (slot_ne (Or.inr (ow hw 20 rfl)) (Or.inr (ow hw 21 rfl)) (by decide) (t := (.array .byte)) (t' := .byte) (by decide) (by decide)))), F7, (((B2.other W4 (Ne.symm nl2_a.2)).ext E5).other W7 (Ne.symm nl2_a.2))⟩
  · show CHr Z oEL sG.vm sG.heap T7.vm T7.heap
    rw [hh, e7]
    exact CF

theorem d2_0 : decode jdk_42_method_3_code 0 = .ok (.aload_n 0, 1) := by decide +kernel
theorem d2_1 : decode jdk_42_method_3_code 1 = .ok (.aload_n 1, 1) := by decide +kernel
theorem d2_2 : decode jdk_42_method_3_code 2 = .ok (.iconst 0, 1) := by decide +kernel
theorem d2_3 : decode jdk_42_method_3_code 3 = .ok (.aload_n 1, 1) := by decide +kernel
theorem d2_4 : decode jdk_42_method_3_code 4 = .ok (.arraylength, 1) := by decide +kernel
theorem d2_5 : decode jdk_42_method_3_code 5 = .ok (.aconst_null, 1) := by decide +kernel
theorem d2_6 : decode jdk_42_method_3_code 6 = .ok (.invokespecial 27, 3) := by decide +kernel
theorem d2_9 : decode jdk_42_method_3_code 9 = .ok (.return_, 1) := by decide +kernel
theorem pd_13 : parseMethodDescriptor "([CIILjava/lang/Void;)V" = some ⟨[(.array .char), .int, .int, (.object "java/lang/Void")], none⟩ := by decide +kernel
def Q_rm_e1 (Z : State) (w_instance : Addr) (w_A : Addr) (c_A : Cell) (zc : Int32) (a : Addr) (b : Addr) (u0 : Value) (u1 : Value) (kc : ClassId) (h0 : Heap) (n0 : Nat) (v : Option Value) (h : Heap) (L : List Loc) : Prop := ∃ (r0 : Addr) (k0 : ClassId), v = none ∧ Fr n0 L ∧ Keep h0 h [a] ∧ Old Z n0 h ∧ Fld Z h a "java/lang/String" "value" "[B" (.ref r0) ∧ Fld Z h a "java/lang/String" "coder" "B" (.int (0 : Int32)) ∧ Arv Z h r0 k0 .byte (0 : Int32) [] (.int (0 : Int32))
set_option maxRecDepth 65536 in
set_option maxHeartbeats 40000000 in
theorem rm_e1 (l : Launch) (Z : State) (a0 : Array Value) (hw : ∀ d ∈ tables_1, d.before a0 Z = true) (ws : List Jvm.Cond) (w_instance : Addr) (w_A : Addr) (c_A : Cell) (zc : Int32) (a : Addr) (b : Addr) (u0 : Value) (u1 : Value) (kc : ClassId) (h0 : Heap) (n0 : Nat) (O0 : Old Z n0 h0) (hS : St0 Z w_instance w_A c_A zc ) (E_a : Exa Z h0 a "java/lang/String") (F_0 : Fld Z h0 a "java/lang/String" "value" "[B" u0) (F_1 : Fld Z h0 a "java/lang/String" "coder" "B" u1) (V_b : Arv Z h0 b kc .char (0 : Int32) [] (.int (0 : Int32))) (n_a : n0 ≤ a) :
    MetFree l (⟨"java/lang/String", "<init>", "([C)V"⟩ : MethodName) (head1 (Jvm.Cond.code (⟨"java/lang/String", "<init>", "([C)V"⟩ : MethodName) jdk_42_method_3_code 2 none :: ws) ({ frames := 2, cells := 4, slots := 8, locals := 29 } : Room)) (fun aG UG => aG = #[(.ref a), (.ref b)] ∧ Z.Warmed39 UG.vm ∧ UG.heap = h0 ∧ CHv Z oEL UG.vm h0 ∧ Safe Z oEL UG.vm h0 a) (fun _ _ _ _ _ => True) (fun _ UG oG UG' => ∃ vG LG, oG = .returned vG ∧ Q_rm_e1 Z w_instance w_A c_A zc a b u0 u1 kc h0 n0 vG UG'.heap LG ∧ CHr Z oEL UG.vm UG.heap UG'.vm UG'.heap ∧ ReturnedEndW UG oG UG' LG ({ frames := 2, cells := 4, slots := 8, locals := 29 } : Room).cells ({ frames := 2, cells := 4, slots := 8, locals := 29 } : Room).slots) := by
  refine MetFree.of_bodySF (plainFor_of_name pn_0) hisR ?_
  intro pG eG sG mG rG bG fG cG s₁ Bd hml0 hP hK
  obtain ⟨rfl, hZ, hh, hC, hs_a⟩ := hP
  have hx := Bd.exec
  have yb := Bd.bytes
  have hml : cG.maxLocals = 2 := hml0
  have hown : sG.vm.findClass "java/lang/String" = some mG.cls := findClass_of_methodNamed Bd.named
  have hnm := (name_of_methodNamed Bd.named Bd.method).1
  have X0 : Stand pG l eG ({ frames := 2, cells := 4, slots := 8, locals := 29 } : Room) (sG.setVm sG.vm) mG #[(.ref a), (.ref b)] bG fG cG s₁ [] 0 0 := Stand.of_body Bd
  have e0 : s₁.heap = h0 := by rw [← hh, Bd.state]; rfl
  have N0 := Fr.nil n0
  have K0 := Keep.refl h0 [a]
  have hS0 : sG.Since sG.vm h0.size := (State.WarmedH.refl sG).since _
  have hk0 : h0.size ≤ h0.size := Nat.le_refl _
  have CR0 : CHr Z oEL sG.vm h0 sG.vm h0 := CHr.refl hC
  have hEL : EW Z a0 oEL := own_EW hw
  obtain ⟨S_w_instance, E_w_instance, S_w_A, E_w_A, V_w_A, S_zc, hzc⟩ := (id hS : St0 Z w_instance w_A c_A zc )
  refine ostart (g' := (mkF mG 0 #[oa a, oa b] [])) (by first | (simp [entryFrame, mkF, argsToLocals, Value.category]; done) | rfl) ?_
  refine ob s₁ (mkF mG 1 #[oa a, oa b] [(.ref a)]) (fun _ kk => XS.aloadN X0.here hx rfl (hb yb d2_0) rfl rfl kk) ?_
  refine ob s₁ (mkF mG 2 #[oa a, oa b] [(.ref b), (.ref a)]) (fun _ kk => XS.aloadN X0.here hx rfl (hb yb d2_1) rfl rfl kk) ?_
  refine ob s₁ (mkF mG 3 #[oa a, oa b] [(.int (0 : Int32)), (.ref b), (.ref a)]) (fun _ kk => XS.iconst X0.here hx rfl (hb yb d2_2) kk) ?_
  refine ob s₁ (mkF mG 4 #[oa a, oa b] [(.ref b), (.int (0 : Int32)), (.ref b), (.ref a)]) (fun _ kk => XS.aloadN X0.here hx rfl (hb yb d2_3) rfl rfl kk) ?_
  obtain ⟨cl1, Ar1, -, S1, N1a, -, -⟩ := id V_b
  refine oby (T' := s₁) (g' := (mkF mG 5 #[oa a, oa b] [(.int (0 : Int32)), (.int (0 : Int32)), (.ref b), (.ref a)])) (fun ot ok => X0.arraylength hx (by rw [e0]; exact Ar1.1) (State.isArrayOf_alike hZ.alike Ar1.2.1) (g := (mkF mG 4 #[oa a, oa b] [(.ref b), (.int (0 : Int32)), (.ref b), (.ref a)])) rfl rfl (hb yb d2_4) _ (by rw [len_of S1 N1a]; exact ok)) ?_
  refine ob s₁ (mkF mG 6 #[oa a, oa b] [.null, (.int (0 : Int32)), (.int (0 : Int32)), (.ref b), (.ref a)]) (fun _ kk => XS.aconstNull X0.here hx rfl (hb yb d2_5) kk) ?_
  obtain ⟨_, _, ⟨T2, L2, k2, n2⟩, -, X2, hS2, gs2, ⟨Lc2, hQ2, l2, y2, z2, CS2⟩, st2⟩ := X0.specialBackS hx (y := (⟨"java/lang/String", "<init>", "([CIILjava/lang/Void;)V"⟩ : MethodName)) rfl hown (mvT hZ (ow hw 11 rfl)) (mvT hZ (ow hw 12 rfl)) (mvT hZ (ow hw 14 rfl)) (by decide) (own_backS (W := 0) (rm_e2 l Z a0 hw [] w_instance w_A c_A zc a b u0 u1 h0 n0 O0 hS E_a F_0 F_1 n_a) hZ (ow hw 14 rfl) (ow hw 6 rfl) (by decide) (by decide) hEL CR0.1 E_a.lt hs_a) (g := (mkF mG 6 #[oa a, oa b] [.null, (.int (0 : Int32)), (.int (0 : Int32)), (.ref b), (.ref a)])) rfl (by rw [hml]; rfl) (Steps.refl _) (a := a) (argsL := [(.ref b), (.int (0 : Int32)), (.int (0 : Int32)), .null]) (rest := []) (lenOf pd_13 rfl) rfl (by show 2 * 0 + _ ≤ _; exact Nat.le_of_eq rfl) (hb yb d2_6) (fun _ _ => ⟨rfl, e0, (by decide : 0 + 4 ≤ _), (by decide : 0 + 8 ≤ _)⟩)
  dsimp only [Pt.U, Pt.locs, Pt.cells, Pt.slots] at X2 l2 y2 z2 st2 hQ2 hS2 gs2 CS2
  subst l2 y2 z2
  obtain ⟨X2, hS2, hZ, hown⟩ := rebS hS0 (by rw [e0]; exact hk0) X2 hS2 gs2 hZ hown
  obtain ⟨h2, e2⟩ : ∃ h, T2.heap = h := ⟨_, rfl⟩
  rw [e2] at hQ2
  obtain ⟨r0_2, k0_2, rfl, N2q, K2q, O2, F2_0, F2_1, F2_2⟩ := hQ2
  have N2 := Fr.app N0 N2q
  have K2 := K0.trans K2q (allS (Or.inl (List.mem_of_getElem? (i := 0) rfl)) all0)
  rw [e2] at CS2 hS2
  have hk2 : h2.size ≤ h2.size := Nat.le_refl _
  have CR2 := CR0.trans CS2
  refine ob T2 (mkF mG 9 #[oa a, oa b] []) (fun _ kk => st2.trans kk) ?_
  obtain ⟨fs, hr, hrun, hended, hW, hsame⟩ := X2.leave (v := none) (fun _ => rfl)
  obtain ⟨w1, w2, w3⟩ := State.Since.ended (U := T2.setFrames fs) hS2 hW (by show _ ≤ T2.heap.size; rw [e2]; exact hk2) hsame
  have CF := CR2.trans (CHv.at X2 hZ hEL CR2.1)
  refine oout (X2.returnOut hx Bd.returns (hb yb d2_9) hr) hrun hended ⟨_, _, rfl, ?_, ?_, ⟨_, rfl⟩, w1, w2, w3.mono (by decide) (by decide)⟩
  · show Q_rm_e1 Z w_instance w_A c_A zc a b u0 u1 kc h0 n0 _ T2.heap _
    rw [e2]
    exact ⟨r0_2, k0_2, rfl, N2, K2, O2, F2_0, F2_1, F2_2⟩
  · show CHr Z oEL sG.vm sG.heap T2.vm T2.heap
    rw [hh, e2]
    exact CF

theorem d1_0 : decode method_3_code 0 = .ok (.iload_n 0, 1) := by decide +kernel
theorem d1_1 : decode method_3_code 1 = .ok (.ifCond .ne 5, 3) := by decide +kernel
theorem d1_6 : decode method_3_code 6 = .ok (.iload_n 0, 1) := by decide +kernel
theorem d1_7 : decode method_3_code 7 = .ok (.iconst 1, 1) := by decide +kernel
theorem d1_8 : decode method_3_code 8 = .ok (.if_icmp .ne 14, 3) := by decide +kernel
theorem d1_11 : decode method_3_code 11 = .ok (.new 7, 3) := by decide +kernel
theorem d1_14 : decode method_3_code 14 = .ok (.dup, 1) := by decide +kernel
theorem d1_15 : decode method_3_code 15 = .ok (.iconst 0, 1) := by decide +kernel
theorem d1_16 : decode method_3_code 16 = .ok (.newarray .char, 2) := by decide +kernel
theorem d1_18 : decode method_3_code 18 = .ok (.invokespecial 9, 3) := by decide +kernel
theorem d1_21 : decode method_3_code 21 = .ok (.areturn, 1) := by decide +kernel
theorem pd_14 : parseMethodDescriptor "([C)V" = some ⟨[(.array .char)], none⟩ := by decide +kernel
def Q_rm_mk1 (Z : State) (w_instance : Addr) (w_A : Addr) (c_A : Cell) (zc : Int32) (c : Int32) (d : Int32) (h0 : Heap) (n0 : Nat) (v : Option Value) (h : Heap) (L : List Loc) : Prop := ∃ (b0 : Addr), v = some (.ref b0) ∧ Fr n0 L ∧ Keep h0 h [] ∧ Old Z n0 h ∧ n0 ≤ b0 ∧ h0.size ≤ b0 ∧ oS Z h b0 (oBl (1 : Int32) c d)
set_option maxRecDepth 65536 in
set_option maxHeartbeats 40000000 in
theorem rm_mk1 (l : Launch) (Z : State) (a0 : Array Value) (hw : ∀ d ∈ tables_1, d.before a0 Z = true) (ws : List Jvm.Cond) (w_instance : Addr) (w_A : Addr) (c_A : Cell) (zc : Int32) (c : Int32) (d : Int32) (h0 : Heap) (n0 : Nat) (O0 : Old Z n0 h0) (hS : St0 Z w_instance w_A c_A zc ) (rc : oRg c) (rd : oRg d) :
    MetFree l (⟨"com/example/rigorous_sourcing/rigoroussourcing/domain/RecordReferenceIsEmptyPinLaw", "make", "(ICC)Ljava/lang/String;"⟩ : MethodName) (head1 (Jvm.Cond.code (⟨"com/example/rigorous_sourcing/rigoroussourcing/domain/RecordReferenceIsEmptyPinLaw", "make", "(ICC)Ljava/lang/String;"⟩ : MethodName) method_3_code 3 (some (.object "java/lang/String")) :: ws) ({ frames := 6, cells := 6, slots := 40, locals := 120 } : Room)) (fun aG UG => aG = #[(.int (1 : Int32)), (.int c), (.int d)] ∧ Z.Warmed39 UG.vm ∧ UG.heap = h0 ∧ CHv Z oEL UG.vm h0) (fun _ _ _ _ _ => True) (fun _ UG oG UG' => ∃ vG LG, oG = .returned vG ∧ Q_rm_mk1 Z w_instance w_A c_A zc c d h0 n0 vG UG'.heap LG ∧ CHr Z oEL UG.vm UG.heap UG'.vm UG'.heap ∧ ReturnedEndW UG oG UG' LG ({ frames := 6, cells := 6, slots := 40, locals := 120 } : Room).cells ({ frames := 6, cells := 6, slots := 40, locals := 120 } : Room).slots) := by
  refine MetFree.of_bodySF (plainFor_of_name pn_4) hisR ?_
  intro pG eG sG mG rG bG fG cG s₁ Bd hml0 hP hK
  obtain ⟨rfl, hZ, hh, hC⟩ := hP
  have hx := Bd.exec
  have yb := Bd.bytes
  have hml : cG.maxLocals = 3 := hml0
  have hown : sG.vm.findClass "com/example/rigorous_sourcing/rigoroussourcing/domain/RecordReferenceIsEmptyPinLaw" = some mG.cls := findClass_of_methodNamed Bd.named
  have hnm := (name_of_methodNamed Bd.named Bd.method).1
  have X0 : Stand pG l eG ({ frames := 6, cells := 6, slots := 40, locals := 120 } : Room) (sG.setVm sG.vm) mG #[(.int (1 : Int32)), (.int c), (.int d)] bG fG cG s₁ [] 0 0 := Stand.of_body Bd
  have e0 : s₁.heap = h0 := by rw [← hh, Bd.state]; rfl
  have N0 := Fr.nil n0
  have K0 := Keep.refl h0 []
  have hS0 : sG.Since sG.vm h0.size := (State.WarmedH.refl sG).since _
  have hk0 : h0.size ≤ h0.size := Nat.le_refl _
  have CR0 : CHr Z oEL sG.vm h0 sG.vm h0 := CHr.refl hC
  have hEL : EW Z a0 oEL := own_EW hw
  obtain ⟨S_w_instance, E_w_instance, S_w_A, E_w_A, V_w_A, S_zc, hzc⟩ := (id hS : St0 Z w_instance w_A c_A zc )
  refine ostart (g' := (mkF mG 0 #[oi (1 : Int32), oi c, oi d] [])) (by first | (simp [entryFrame, mkF, argsToLocals, Value.category]; done) | rfl) ?_
  refine ob s₁ (mkF mG 1 #[oi (1 : Int32), oi c, oi d] [(.int (1 : Int32))]) (fun _ kk => XS.iloadN X0.here hx rfl (hb yb d1_0) rfl kk) ?_
  refine ob s₁ (mkF mG 6 #[oi (1 : Int32), oi c, oi d] []) (fun _ kk => XS.ifYes X0.here hx rfl (pc0 := 1) (pc' := 6) rfl (hb yb d1_1) rfl ((if0 _ _).trans (feq (by decide : ¬ ((1 : Int32) = (0 : Int32)))).2) (by decide) (by decide) kk) ?_
  refine ob s₁ (mkF mG 7 #[oi (1 : Int32), oi c, oi d] [(.int (1 : Int32))]) (fun _ kk => XS.iloadN X0.here hx rfl (hb yb d1_6) rfl kk) ?_
  refine ob s₁ (mkF mG 8 #[oi (1 : Int32), oi c, oi d] [(.int (1 : Int32)), (.int (1 : Int32))]) (fun _ kk => XS.iconst X0.here hx rfl (hb yb d1_7) kk) ?_
  refine ob s₁ (mkF mG 11 #[oi (1 : Int32), oi c, oi d] []) (fun _ kk => XS.icmpNo X0.here hx rfl (hb yb d1_8) rfl (teq (by decide : (1 : Int32) = (1 : Int32))).2 kk) ?_
  obtain ⟨T1, h1, X1, e1, E1, A1, D1, _x1, st1⟩ := newO X0 hx hZ hown (ow hw 4 rfl) (ow hw 5 rfl) (ow hw 6 rfl) e0 (g := (mkF mG 11 #[oi (1 : Int32), oi c, oi d] [])) rfl (hb yb d1_11) (by decide) (by decide)
  obtain ⟨b1, g1⟩ : ∃ z, z = h0.size := ⟨_, rfl⟩
  rw [← g1] at A1 D1 st1
  have n_b1 : n0 ≤ b1 := Nat.le_trans (on0 O0) (Nat.le_of_eq g1.symm)
  have sz_b1 : h0.size ≤ b1 := Nat.le_trans K0.1 (Nat.le_of_eq g1.symm)
  have CS1 : CHr Z oEL sG.vm h0 sG.vm h1 := CHr.ext E1 CR0.1
  have CR1 := CR0.trans CS1
  have O1 := O0.ext E1
  have K1 := K0.ext E1
  have sf_b1 : Safe Z oEL sG.vm h1 b1 := Safe.ext E1 CR0.1 (Safe.new (Nat.le_of_eq g1.symm))
  have F1_20 : Fld Z h1 b1 "java/lang/String" "value" "[B" .null := D1 (Or.inr (ow hw 20 rfl)) (ty := (.array .byte)) (by decide)
  have F1_21 : Fld Z h1 b1 "java/lang/String" "coder" "B" (.int (0 : Int32)) := D1 (Or.inr (ow hw 21 rfl)) (ty := .byte) (by decide)
  refine ob T1 (mkF mG 14 #[oi (1 : Int32), oi c, oi d] [(.ref b1)]) (fun _ kk => st1 _ kk) ?_
  refine ob T1 (mkF mG 15 #[oi (1 : Int32), oi c, oi d] [(.ref b1), (.ref b1)]) (fun _ kk => XS.dup X1.here hx rfl (hb yb d1_14) rfl rfl kk) ?_
  refine ob T1 (mkF mG 16 #[oi (1 : Int32), oi c, oi d] [(.int (0 : Int32)), (.ref b1), (.ref b1)]) (fun _ kk => XS.iconst X1.here hx rfl (hb yb d1_15) kk) ?_
  obtain ⟨T2, h2, k2, X2, e2, E2, A2, st2⟩ := newP X1 hx hZ (ow hw 7 rfl) e1 (g := (mkF mG 16 #[oi (1 : Int32), oi c, oi d] [(.int (0 : Int32)), (.ref b1), (.ref b1)])) rfl (hb yb d1_16) rfl (by decide) (cap := 0) (by decide) (by decide) (by decide) (by decide)
  obtain ⟨b2, g2⟩ : ∃ z, z = h1.size := ⟨_, rfl⟩
  rw [← g2] at A2 st2
  have n_b2 : n0 ≤ b2 := Nat.le_trans (on0 O1) (Nat.le_of_eq g2.symm)
  have sz_b2 : h0.size ≤ b2 := Nat.le_trans K1.1 (Nat.le_of_eq g2.symm)
  have ne_b1_b2 : b1 ≠ b2 := Nat.ne_of_lt (Nat.lt_of_lt_of_le A1.lt (Nat.le_of_eq g2.symm))
  have CS2 : CHr Z oEL sG.vm h1 sG.vm h2 := CHr.ext E2 CR1.1
  have CR2 := CR1.trans CS2
  have O2 := O1.ext E2
  have K2 := K1.ext E2
  have V2 : Arv Z h2 b2 k2 .char (0 : Int32) [] (.int (0 : Int32)) := (Arv.new A2 (by decide)).pad (pad_rep [] (.int (0 : Int32)) 0)
  have sf_b2 : Safe Z oEL sG.vm h2 b2 := Safe.ext E2 CR1.1 (Safe.new (Nat.le_of_eq g2.symm))
  refine ob T2 (mkF mG 18 #[oi (1 : Int32), oi c, oi d] [(.ref b2), (.ref b1), (.ref b1)]) (fun _ kk => st2 _ kk) ?_
  obtain ⟨_, _, ⟨T3, L3, k3, n3⟩, -, X3, hS3, gs3, ⟨Lc3, hQ3, l3, y3, z3, CS3⟩, st3⟩ := X2.specialBackS hx (y := (⟨"java/lang/String", "<init>", "([C)V"⟩ : MethodName)) rfl hown (mvT hZ (ow hw 8 rfl)) (mvT hZ (ow hw 9 rfl)) (mvT hZ (ow hw 10 rfl)) (by decide) (own_backS (W := 1) (rm_e1 l Z a0 hw [] w_instance w_A c_A zc b1 b2 .null (.int (0 : Int32)) k2 h2 n0 O2 hS (A1.ext E2) (F1_20.ext E2) (F1_21.ext E2) V2 n_b1) hZ (ow hw 10 rfl) (ow hw 6 rfl) (by decide) (by decide) hEL CR2.1 (A1.ext E2).lt (CHr.safe CS2 A1.lt sf_b1)) (g := (mkF mG 18 #[oi (1 : Int32), oi c, oi d] [(.ref b2), (.ref b1), (.ref b1)])) rfl (by rw [hml]; rfl) (Steps.refl _) (a := b1) (argsL := [(.ref b2)]) (rest := [(.ref b1)]) (lenOf pd_14 rfl) rfl (by show 2 * 0 + _ ≤ _; exact Nat.le_of_eq rfl) (hb yb d1_18) (fun _ _ => ⟨rfl, e2, (by decide : 2 + 4 ≤ _), (by decide : 4 + 8 ≤ _)⟩)
  dsimp only [Pt.U, Pt.locs, Pt.cells, Pt.slots] at X3 l3 y3 z3 st3 hQ3 hS3 gs3 CS3
  subst l3 y3 z3
  obtain ⟨X3, hS3, hZ, hown⟩ := rebS hS0 (by rw [e2]; exact (Nat.le_trans (Nat.le_trans hk0 CS1.2.1) CS2.2.1)) X3 hS3 gs3 hZ hown
  obtain ⟨h3, e3⟩ : ∃ h, T3.heap = h := ⟨_, rfl⟩
  rw [e3] at hQ3
  obtain ⟨r0_3, k0_3, rfl, N3q, K3q, O3, F3_0, F3_1, F3_2⟩ := hQ3
  have N3 := Fr.app N0 N3q
  have K3 := K2.trans K3q (allS (Or.inr sz_b1) all0)
  rw [e3] at CS3 hS3
  have hk3 : h3.size ≤ h3.size := Nat.le_refl _
  have CR3 := CR2.trans CS3
  refine ob T3 (mkF mG 21 #[oi (1 : Int32), oi c, oi d] [(.ref b1)]) (fun _ kk => st3.trans kk) ?_
  obtain ⟨fs, hr, hrun, hended, hW, hsame⟩ := X3.leave (v := some (.ref b1)) (fun h => by rw [Bd.returns] at h; cases h)
  obtain ⟨w1, w2, w3⟩ := State.Since.ended (U := T3.setFrames fs) hS3 hW (by show _ ≤ T3.heap.size; rw [e3]; exact hk3) hsame
  have CF := CR3.trans (CHv.at X3 hZ hEL CR3.1)
  refine oout (oretA X3 hx Bd.returns rfl rfl (hb yb d1_21) hr) hrun hended ⟨_, _, rfl, ?_, ?_, ⟨_, rfl⟩, w1, w2, w3.mono (by decide) (by decide)⟩
  · show Q_rm_mk1 Z w_instance w_A c_A zc c d h0 n0 _ T3.heap _
    rw [e3]
    exact ⟨b1, rfl, N3, K3, O3, n_b1, sz_b1, ⟨((A1.ext E2).keep K3q), F3_1, r0_3, k0_3, F3_0, Or.inl ⟨F3_2, rfl⟩⟩⟩
  · show CHr Z oEL sG.vm sG.heap T3.vm T3.heap
    rw [hh, e3]
    exact CF

theorem d1_22 : decode method_3_code 22 = .ok (.iload_n 0, 1) := by decide +kernel
theorem d1_23 : decode method_3_code 23 = .ok (.iconst 2, 1) := by decide +kernel
theorem d1_24 : decode method_3_code 24 = .ok (.if_icmp .ne 18, 3) := by decide +kernel
theorem d1_27 : decode method_3_code 27 = .ok (.new 7, 3) := by decide +kernel
theorem d1_30 : decode method_3_code 30 = .ok (.dup, 1) := by decide +kernel
theorem d1_31 : decode method_3_code 31 = .ok (.iconst 1, 1) := by decide +kernel
theorem d1_32 : decode method_3_code 32 = .ok (.newarray .char, 2) := by decide +kernel
theorem d1_34 : decode method_3_code 34 = .ok (.dup, 1) := by decide +kernel
theorem d1_35 : decode method_3_code 35 = .ok (.iconst 0, 1) := by decide +kernel
theorem d1_36 : decode method_3_code 36 = .ok (.iload_n 1, 1) := by decide +kernel
theorem d1_37 : decode method_3_code 37 = .ok (.castore, 1) := by decide +kernel
theorem d1_38 : decode method_3_code 38 = .ok (.invokespecial 9, 3) := by decide +kernel
theorem d1_41 : decode method_3_code 41 = .ok (.areturn, 1) := by decide +kernel
def Q_rm_mk2 (Z : State) (w_instance : Addr) (w_A : Addr) (c_A : Cell) (zc : Int32) (c : Int32) (d : Int32) (h0 : Heap) (n0 : Nat) (v : Option Value) (h : Heap) (L : List Loc) : Prop := ∃ (b0 : Addr), v = some (.ref b0) ∧ Fr n0 L ∧ Keep h0 h [] ∧ Old Z n0 h ∧ n0 ≤ b0 ∧ h0.size ≤ b0 ∧ oS Z h b0 (oBl (2 : Int32) c d)
set_option maxRecDepth 65536 in
set_option maxHeartbeats 40000000 in
theorem rm_mk2 (l : Launch) (Z : State) (a0 : Array Value) (hw : ∀ d ∈ tables_1, d.before a0 Z = true) (ws : List Jvm.Cond) (w_instance : Addr) (w_A : Addr) (c_A : Cell) (zc : Int32) (c : Int32) (d : Int32) (h0 : Heap) (n0 : Nat) (O0 : Old Z n0 h0) (hS : St0 Z w_instance w_A c_A zc ) (rc : oRg c) (rd : oRg d) :
    MetFree l (⟨"com/example/rigorous_sourcing/rigoroussourcing/domain/RecordReferenceIsEmptyPinLaw", "make", "(ICC)Ljava/lang/String;"⟩ : MethodName) (head1 (Jvm.Cond.code (⟨"com/example/rigorous_sourcing/rigoroussourcing/domain/RecordReferenceIsEmptyPinLaw", "make", "(ICC)Ljava/lang/String;"⟩ : MethodName) method_3_code 3 (some (.object "java/lang/String")) :: ws) ({ frames := 6, cells := 6, slots := 40, locals := 120 } : Room)) (fun aG UG => aG = #[(.int (2 : Int32)), (.int c), (.int d)] ∧ Z.Warmed39 UG.vm ∧ UG.heap = h0 ∧ CHv Z oEL UG.vm h0) (fun _ _ _ _ _ => True) (fun _ UG oG UG' => ∃ vG LG, oG = .returned vG ∧ Q_rm_mk2 Z w_instance w_A c_A zc c d h0 n0 vG UG'.heap LG ∧ CHr Z oEL UG.vm UG.heap UG'.vm UG'.heap ∧ ReturnedEndW UG oG UG' LG ({ frames := 6, cells := 6, slots := 40, locals := 120 } : Room).cells ({ frames := 6, cells := 6, slots := 40, locals := 120 } : Room).slots) := by
  refine MetFree.of_bodySF (plainFor_of_name pn_4) hisR ?_
  intro pG eG sG mG rG bG fG cG s₁ Bd hml0 hP hK
  obtain ⟨rfl, hZ, hh, hC⟩ := hP
  have hx := Bd.exec
  have yb := Bd.bytes
  have hml : cG.maxLocals = 3 := hml0
  have hown : sG.vm.findClass "com/example/rigorous_sourcing/rigoroussourcing/domain/RecordReferenceIsEmptyPinLaw" = some mG.cls := findClass_of_methodNamed Bd.named
  have hnm := (name_of_methodNamed Bd.named Bd.method).1
  have X0 : Stand pG l eG ({ frames := 6, cells := 6, slots := 40, locals := 120 } : Room) (sG.setVm sG.vm) mG #[(.int (2 : Int32)), (.int c), (.int d)] bG fG cG s₁ [] 0 0 := Stand.of_body Bd
  have e0 : s₁.heap = h0 := by rw [← hh, Bd.state]; rfl
  have N0 := Fr.nil n0
  have K0 := Keep.refl h0 []
  have hS0 : sG.Since sG.vm h0.size := (State.WarmedH.refl sG).since _
  have hk0 : h0.size ≤ h0.size := Nat.le_refl _
  have CR0 : CHr Z oEL sG.vm h0 sG.vm h0 := CHr.refl hC
  have hEL : EW Z a0 oEL := own_EW hw
  obtain ⟨S_w_instance, E_w_instance, S_w_A, E_w_A, V_w_A, S_zc, hzc⟩ := (id hS : St0 Z w_instance w_A c_A zc )
  refine ostart (g' := (mkF mG 0 #[oi (2 : Int32), oi c, oi d] [])) (by first | (simp [entryFrame, mkF, argsToLocals, Value.category]; done) | rfl) ?_
  refine ob s₁ (mkF mG 1 #[oi (2 : Int32), oi c, oi d] [(.int (2 : Int32))]) (fun _ kk => XS.iloadN X0.here hx rfl (hb yb d1_0) rfl kk) ?_
  refine ob s₁ (mkF mG 6 #[oi (2 : Int32), oi c, oi d] []) (fun _ kk => XS.ifYes X0.here hx rfl (pc0 := 1) (pc' := 6) rfl (hb yb d1_1) rfl ((if0 _ _).trans (feq (by decide : ¬ ((2 : Int32) = (0 : Int32)))).2) (by decide) (by decide) kk) ?_
  refine ob s₁ (mkF mG 7 #[oi (2 : Int32), oi c, oi d] [(.int (2 : Int32))]) (fun _ kk => XS.iloadN X0.here hx rfl (hb yb d1_6) rfl kk) ?_
  refine ob s₁ (mkF mG 8 #[oi (2 : Int32), oi c, oi d] [(.int (1 : Int32)), (.int (2 : Int32))]) (fun _ kk => XS.iconst X0.here hx rfl (hb yb d1_7) kk) ?_
  refine ob s₁ (mkF mG 22 #[oi (2 : Int32), oi c, oi d] []) (fun _ kk => XS.icmpYes X0.here hx rfl (pc0 := 8) (pc' := 22) rfl (hb yb d1_8) rfl (feq (by decide : ¬ ((2 : Int32) = (1 : Int32)))).2 (by decide) (by decide) kk) ?_
  refine ob s₁ (mkF mG 23 #[oi (2 : Int32), oi c, oi d] [(.int (2 : Int32))]) (fun _ kk => XS.iloadN X0.here hx rfl (hb yb d1_22) rfl kk) ?_
  refine ob s₁ (mkF mG 24 #[oi (2 : Int32), oi c, oi d] [(.int (2 : Int32)), (.int (2 : Int32))]) (fun _ kk => XS.iconst X0.here hx rfl (hb yb d1_23) kk) ?_
  refine ob s₁ (mkF mG 27 #[oi (2 : Int32), oi c, oi d] []) (fun _ kk => XS.icmpNo X0.here hx rfl (hb yb d1_24) rfl (teq (by decide : (2 : Int32) = (2 : Int32))).2 kk) ?_
  obtain ⟨T1, h1, X1, e1, E1, A1, D1, _x1, st1⟩ := newO X0 hx hZ hown (ow hw 4 rfl) (ow hw 5 rfl) (ow hw 6 rfl) e0 (g := (mkF mG 27 #[oi (2 : Int32), oi c, oi d] [])) rfl (hb yb d1_27) (by decide) (by decide)
  obtain ⟨b1, g1⟩ : ∃ z, z = h0.size := ⟨_, rfl⟩
  rw [← g1] at A1 D1 st1
  have n_b1 : n0 ≤ b1 := Nat.le_trans (on0 O0) (Nat.le_of_eq g1.symm)
  have sz_b1 : h0.size ≤ b1 := Nat.le_trans K0.1 (Nat.le_of_eq g1.symm)
  have CS1 : CHr Z oEL sG.vm h0 sG.vm h1 := CHr.ext E1 CR0.1
  have CR1 := CR0.trans CS1
  have O1 := O0.ext E1
  have K1 := K0.ext E1
  have sf_b1 : Safe Z oEL sG.vm h1 b1 := Safe.ext E1 CR0.1 (Safe.new (Nat.le_of_eq g1.symm))
  have F1_20 : Fld Z h1 b1 "java/lang/String" "value" "[B" .null := D1 (Or.inr (ow hw 20 rfl)) (ty := (.array .byte)) (by decide)
  have F1_21 : Fld Z h1 b1 "java/lang/String" "coder" "B" (.int (0 : Int32)) := D1 (Or.inr (ow hw 21 rfl)) (ty := .byte) (by decide)
  refine ob T1 (mkF mG 30 #[oi (2 : Int32), oi c, oi d] [(.ref b1)]) (fun _ kk => st1 _ kk) ?_
  refine ob T1 (mkF mG 31 #[oi (2 : Int32), oi c, oi d] [(.ref b1), (.ref b1)]) (fun _ kk => XS.dup X1.here hx rfl (hb yb d1_30) rfl rfl kk) ?_
  refine ob T1 (mkF mG 32 #[oi (2 : Int32), oi c, oi d] [(.int (1 : Int32)), (.ref b1), (.ref b1)]) (fun _ kk => XS.iconst X1.here hx rfl (hb yb d1_31) kk) ?_
  obtain ⟨T2, h2, k2, X2, e2, E2, A2, st2⟩ := newP X1 hx hZ (ow hw 7 rfl) e1 (g := (mkF mG 32 #[oi (2 : Int32), oi c, oi d] [(.int (1 : Int32)), (.ref b1), (.ref b1)])) rfl (hb yb d1_32) rfl (by decide) (cap := 1) (by decide) (by decide) (by decide) (by decide)
  obtain ⟨b2, g2⟩ : ∃ z, z = h1.size := ⟨_, rfl⟩
  rw [← g2] at A2 st2
  have n_b2 : n0 ≤ b2 := Nat.le_trans (on0 O1) (Nat.le_of_eq g2.symm)
  have sz_b2 : h0.size ≤ b2 := Nat.le_trans K1.1 (Nat.le_of_eq g2.symm)
  have ne_b1_b2 : b1 ≠ b2 := Nat.ne_of_lt (Nat.lt_of_lt_of_le A1.lt (Nat.le_of_eq g2.symm))
  have CS2 : CHr Z oEL sG.vm h1 sG.vm h2 := CHr.ext E2 CR1.1
  have CR2 := CR1.trans CS2
  have O2 := O1.ext E2
  have K2 := K1.ext E2
  have V2 : Arv Z h2 b2 k2 .char (1 : Int32) [(.int (0 : Int32))] (.int (0 : Int32)) := (Arv.new A2 (by decide)).pad (pad_rep [] (.int (0 : Int32)) 1)
  have sf_b2 : Safe Z oEL sG.vm h2 b2 := Safe.ext E2 CR1.1 (Safe.new (Nat.le_of_eq g2.symm))
  refine ob T2 (mkF mG 34 #[oi (2 : Int32), oi c, oi d] [(.ref b2), (.ref b1), (.ref b1)]) (fun _ kk => st2 _ kk) ?_
  refine ob T2 (mkF mG 35 #[oi (2 : Int32), oi c, oi d] [(.ref b2), (.ref b2), (.ref b1), (.ref b1)]) (fun _ kk => XS.dup X2.here hx rfl (hb yb d1_34) rfl rfl kk) ?_
  refine ob T2 (mkF mG 36 #[oi (2 : Int32), oi c, oi d] [(.int (0 : Int32)), (.ref b2), (.ref b2), (.ref b1), (.ref b1)]) (fun _ kk => XS.iconst X2.here hx rfl (hb yb d1_35) kk) ?_
  refine ob T2 (mkF mG 37 #[oi (2 : Int32), oi c, oi d] [(.int c), (.int (0 : Int32)), (.ref b2), (.ref b2), (.ref b1), (.ref b1)]) (fun _ kk => XS.iloadN X2.here hx rfl (hb yb d1_36) rfl kk) ?_
  obtain ⟨cl3, Ar3, q3, S3, N3a, H3, G3⟩ := id V2
  have hin3 : ¬ ((0 : Int32) < 0 ∨ cl3.slots.size ≤ ((0 : Int32)).toNatClampNeg) := inb_of S3 ⟨by decide, by decide⟩
  obtain ⟨T3, h3, X3, e3, W3, st3⟩ := stC X2 hx hZ e2 Ar3 (j := (0 : Int32)) hin3 (g := (mkF mG 37 #[oi (2 : Int32), oi c, oi d] [(.int c), (.int (0 : Int32)), (.ref b2), (.ref b2), (.ref b1), (.ref b1)])) rfl rfl (hb yb d1_37)
  have V3 : Arv Z h3 b2 k2 .char (1 : Int32) [(.int c)] (.int (0 : Int32)) := by
    have q := Arv.set Ar3 q3 S3 N3a H3 G3 (fits_nar_char _) W3 0 rfl (Nat.le_of_ble_eq_true rfl)
    rw [own_nar c rc] at q
    exact q
  have CS3 : CHr Z oEL sG.vm h2 sG.vm h3 := CHr.wr W3 (Safe.arv hZ.alike V2 (by decide)) CR2.1
  have CR3 := CR2.trans CS3
  have O3 := O2.wr W3 n_b2
  have K3 := K2.wr W3 (Or.inr sz_b2)
  have N3 := Fr.snoc X3 N0 n_b2
  refine ob T3 (mkF mG 38 #[oi (2 : Int32), oi c, oi d] [(.ref b2), (.ref b1), (.ref b1)]) (fun _ kk => st3 _ kk) ?_
  have hp5 : ∀ cc_ ∈ ([c] : List Int32), ¬ cc_ < 0 ∧ ¬ (255 : Int32) < cc_ := by
    intro cc_ hc
    simp only [List.mem_cons, List.not_mem_nil, or_false] at hc
    rw [hc]
    exact rc
  have hws : ∀ d ∈ StrChars.Road.words, d.before a0 Z = true := fun d hd => hw d (own_words d hd)
  obtain ⟨_, _, ⟨T4, L4, k4, n4⟩, -, X4, ⟨Lc4, hQ4, l4, y4, z4⟩, st4⟩ := X3.specialBack hx (y := (⟨"java/lang/String", "<init>", "([C)V"⟩ : MethodName)) rfl hown (mvT hZ (ow hw 8 rfl)) (mvT hZ (ow hw 9 rfl)) (mvT hZ (ow hw 10 rfl)) (by decide) (StrChars.Road.backV (W := 1) hZ hws (kI := 4) (ow hw 5 rfl) (cs := ([c] : List Int32)) (bs := ([c] : List Int32).map (fun c => c.toInt8.toInt32)) (n := 1) n_b1 (on0 O3) ((A1.ext E2).wr W3) ((F1_20.ext E2).other W3 (Or.inl ne_b1_b2)) ((F1_21.ext E2).other W3 (Or.inl ne_b1_b2)) V3 (S_zc.ext O3.2) hzc rfl rfl (by decide) (by decide) hp5 rfl (by decide) (by decide)) (g := (mkF mG 38 #[oi (2 : Int32), oi c, oi d] [(.ref b2), (.ref b1), (.ref b1)])) rfl (by rw [hml]; rfl) (Steps.refl _) (a := b1) (argsL := [(.ref b2)]) (rest := [(.ref b1)]) (lenOf pd_14 rfl) rfl (by show 2 * 0 + _ ≤ _; exact Nat.le_of_eq rfl) (hb yb d1_38) (fun _ _ => ⟨rfl, e3, (by decide : 2 + 1 ≤ _), (by decide : 5 + 1 ≤ _)⟩)
  dsimp only [Pt.U, Pt.locs, Pt.cells, Pt.slots] at X4 l4 y4 z4 st4 hQ4
  subst l4 y4 z4
  obtain ⟨h4, e4⟩ : ∃ h, T4.heap = h := ⟨_, rfl⟩
  rw [e4] at hQ4
  obtain ⟨rfl, N4q, K4q, A4, C4, t4, kb4, n_t4, z_t4, nt4, V4, B4⟩ := hQ4
  have hcd4 : StrChars.Road.CodA ([c] : List Int32) 0 (1 : Int32) ((([c] : List Int32).map (fun c => c.toInt8.toInt32)).map Value.int) := StrChars.Road.codOf (n := 1) rfl (fun cc_ hc => (hp5 cc_ hc).2)
  have N4 := Fr.app N3 N4q
  have sz_t4 : h0.size ≤ t4 := Nat.le_trans K3.1 z_t4
  have ne_b1_t4 : b1 ≠ t4 := Nat.ne_of_lt (Nat.lt_of_lt_of_le ((A1.ext E2).wr W3).lt z_t4)
  have ne_b2_t4 : b2 ≠ t4 := Nat.ne_of_lt (Nat.lt_of_lt_of_le V3.lt z_t4)
  have ne_b1_t4x : b1 ≠ t4 := fun q => nt4 q.symm
  have O4 := O3.keep K4q (allS n_b1 all0)
  have K4 := K3.trans K4q (allS (Or.inr sz_b1) all0)
  have CS4 : CHr Z oEL sG.vm h3 sG.vm h4 := CHr.keep K4q (sfS (CHr.safe (CS2.trans CS3) A1.lt sf_b1) sf0) CR3.1
  have CR4 := CR3.trans CS4
  refine ob T4 (mkF mG 41 #[oi (2 : Int32), oi c, oi d] [(.ref b1)]) (fun _ kk => st4.trans kk) ?_
  obtain ⟨fs, hr, hrun, hended, hW, hsame⟩ := X4.leave (v := some (.ref b1)) (fun h => by rw [Bd.returns] at h; cases h)
  obtain ⟨w1, w2, w3⟩ := State.Since.ended (U := T4.setFrames fs) hS0 hW (by show _ ≤ T4.heap.size; rw [e4]; exact (Nat.le_trans (Nat.le_trans (Nat.le_trans (Nat.le_trans hk0 CS1.2.1) CS2.2.1) CS3.2.1) CS4.2.1)) hsame
  have CF := CR4.trans (CHv.at X4 hZ hEL CR4.1)
  refine oout (oretA X4 hx Bd.returns rfl rfl (hb yb d1_41) hr) hrun hended ⟨_, _, rfl, ?_, ?_, ⟨_, rfl⟩, w1, w2, w3.mono (by decide) (by decide)⟩
  · show Q_rm_mk2 Z w_instance w_A c_A zc c d h0 n0 _ T4.heap _
    rw [e4]
    exact ⟨b1, rfl, N4, K4, O4, n_b1, sz_b1, ⟨A4, C4, t4, kb4, V4, Or.inr (Or.inl ⟨c, rc, B4, rfl⟩)⟩⟩
  · show CHr Z oEL sG.vm sG.heap T4.vm T4.heap
    rw [hh, e4]
    exact CF

theorem d1_42 : decode method_3_code 42 = .ok (.new 7, 3) := by decide +kernel
theorem d1_45 : decode method_3_code 45 = .ok (.dup, 1) := by decide +kernel
theorem d1_46 : decode method_3_code 46 = .ok (.iconst 2, 1) := by decide +kernel
theorem d1_47 : decode method_3_code 47 = .ok (.newarray .char, 2) := by decide +kernel
theorem d1_49 : decode method_3_code 49 = .ok (.dup, 1) := by decide +kernel
theorem d1_50 : decode method_3_code 50 = .ok (.iconst 0, 1) := by decide +kernel
theorem d1_51 : decode method_3_code 51 = .ok (.iload_n 1, 1) := by decide +kernel
theorem d1_52 : decode method_3_code 52 = .ok (.castore, 1) := by decide +kernel
theorem d1_53 : decode method_3_code 53 = .ok (.dup, 1) := by decide +kernel
theorem d1_54 : decode method_3_code 54 = .ok (.iconst 1, 1) := by decide +kernel
theorem d1_55 : decode method_3_code 55 = .ok (.iload_n 2, 1) := by decide +kernel
theorem d1_56 : decode method_3_code 56 = .ok (.castore, 1) := by decide +kernel
theorem d1_57 : decode method_3_code 57 = .ok (.invokespecial 9, 3) := by decide +kernel
theorem d1_60 : decode method_3_code 60 = .ok (.areturn, 1) := by decide +kernel
def Q_rm_mk3 (Z : State) (w_instance : Addr) (w_A : Addr) (c_A : Cell) (zc : Int32) (c : Int32) (d : Int32) (h0 : Heap) (n0 : Nat) (v : Option Value) (h : Heap) (L : List Loc) : Prop := ∃ (b0 : Addr), v = some (.ref b0) ∧ Fr n0 L ∧ Keep h0 h [] ∧ Old Z n0 h ∧ n0 ≤ b0 ∧ h0.size ≤ b0 ∧ oS Z h b0 (oBl (3 : Int32) c d)
set_option maxRecDepth 65536 in
set_option maxHeartbeats 40000000 in
theorem rm_mk3 (l : Launch) (Z : State) (a0 : Array Value) (hw : ∀ d ∈ tables_1, d.before a0 Z = true) (ws : List Jvm.Cond) (w_instance : Addr) (w_A : Addr) (c_A : Cell) (zc : Int32) (c : Int32) (d : Int32) (h0 : Heap) (n0 : Nat) (O0 : Old Z n0 h0) (hS : St0 Z w_instance w_A c_A zc ) (rc : oRg c) (rd : oRg d) :
    MetFree l (⟨"com/example/rigorous_sourcing/rigoroussourcing/domain/RecordReferenceIsEmptyPinLaw", "make", "(ICC)Ljava/lang/String;"⟩ : MethodName) (head1 (Jvm.Cond.code (⟨"com/example/rigorous_sourcing/rigoroussourcing/domain/RecordReferenceIsEmptyPinLaw", "make", "(ICC)Ljava/lang/String;"⟩ : MethodName) method_3_code 3 (some (.object "java/lang/String")) :: ws) ({ frames := 6, cells := 6, slots := 40, locals := 120 } : Room)) (fun aG UG => aG = #[(.int (3 : Int32)), (.int c), (.int d)] ∧ Z.Warmed39 UG.vm ∧ UG.heap = h0 ∧ CHv Z oEL UG.vm h0) (fun _ _ _ _ _ => True) (fun _ UG oG UG' => ∃ vG LG, oG = .returned vG ∧ Q_rm_mk3 Z w_instance w_A c_A zc c d h0 n0 vG UG'.heap LG ∧ CHr Z oEL UG.vm UG.heap UG'.vm UG'.heap ∧ ReturnedEndW UG oG UG' LG ({ frames := 6, cells := 6, slots := 40, locals := 120 } : Room).cells ({ frames := 6, cells := 6, slots := 40, locals := 120 } : Room).slots) := by
  refine MetFree.of_bodySF (plainFor_of_name pn_4) hisR ?_
  intro pG eG sG mG rG bG fG cG s₁ Bd hml0 hP hK
  obtain ⟨rfl, hZ, hh, hC⟩ := hP
  have hx := Bd.exec
  have yb := Bd.bytes
  have hml : cG.maxLocals = 3 := hml0
  have hown : sG.vm.findClass "com/example/rigorous_sourcing/rigoroussourcing/domain/RecordReferenceIsEmptyPinLaw" = some mG.cls := findClass_of_methodNamed Bd.named
  have hnm := (name_of_methodNamed Bd.named Bd.method).1
  have X0 : Stand pG l eG ({ frames := 6, cells := 6, slots := 40, locals := 120 } : Room) (sG.setVm sG.vm) mG #[(.int (3 : Int32)), (.int c), (.int d)] bG fG cG s₁ [] 0 0 := Stand.of_body Bd
  have e0 : s₁.heap = h0 := by rw [← hh, Bd.state]; rfl
  have N0 := Fr.nil n0
  have K0 := Keep.refl h0 []
  have hS0 : sG.Since sG.vm h0.size := (State.WarmedH.refl sG).since _
  have hk0 : h0.size ≤ h0.size := Nat.le_refl _
  have CR0 : CHr Z oEL sG.vm h0 sG.vm h0 := CHr.refl hC
  have hEL : EW Z a0 oEL := own_EW hw
  obtain ⟨S_w_instance, E_w_instance, S_w_A, E_w_A, V_w_A, S_zc, hzc⟩ := (id hS : St0 Z w_instance w_A c_A zc )
  refine ostart (g' := (mkF mG 0 #[oi (3 : Int32), oi c, oi d] [])) (by first | (simp [entryFrame, mkF, argsToLocals, Value.category]; done) | rfl) ?_
  refine ob s₁ (mkF mG 1 #[oi (3 : Int32), oi c, oi d] [(.int (3 : Int32))]) (fun _ kk => XS.iloadN X0.here hx rfl (hb yb d1_0) rfl kk) ?_
  refine ob s₁ (mkF mG 6 #[oi (3 : Int32), oi c, oi d] []) (fun _ kk => XS.ifYes X0.here hx rfl (pc0 := 1) (pc' := 6) rfl (hb yb d1_1) rfl ((if0 _ _).trans (feq (by decide : ¬ ((3 : Int32) = (0 : Int32)))).2) (by decide) (by decide) kk) ?_
  refine ob s₁ (mkF mG 7 #[oi (3 : Int32), oi c, oi d] [(.int (3 : Int32))]) (fun _ kk => XS.iloadN X0.here hx rfl (hb yb d1_6) rfl kk) ?_
  refine ob s₁ (mkF mG 8 #[oi (3 : Int32), oi c, oi d] [(.int (1 : Int32)), (.int (3 : Int32))]) (fun _ kk => XS.iconst X0.here hx rfl (hb yb d1_7) kk) ?_
  refine ob s₁ (mkF mG 22 #[oi (3 : Int32), oi c, oi d] []) (fun _ kk => XS.icmpYes X0.here hx rfl (pc0 := 8) (pc' := 22) rfl (hb yb d1_8) rfl (feq (by decide : ¬ ((3 : Int32) = (1 : Int32)))).2 (by decide) (by decide) kk) ?_
  refine ob s₁ (mkF mG 23 #[oi (3 : Int32), oi c, oi d] [(.int (3 : Int32))]) (fun _ kk => XS.iloadN X0.here hx rfl (hb yb d1_22) rfl kk) ?_
  refine ob s₁ (mkF mG 24 #[oi (3 : Int32), oi c, oi d] [(.int (2 : Int32)), (.int (3 : Int32))]) (fun _ kk => XS.iconst X0.here hx rfl (hb yb d1_23) kk) ?_
  refine ob s₁ (mkF mG 42 #[oi (3 : Int32), oi c, oi d] []) (fun _ kk => XS.icmpYes X0.here hx rfl (pc0 := 24) (pc' := 42) rfl (hb yb d1_24) rfl (feq (by decide : ¬ ((3 : Int32) = (2 : Int32)))).2 (by decide) (by decide) kk) ?_
  obtain ⟨T1, h1, X1, e1, E1, A1, D1, _x1, st1⟩ := newO X0 hx hZ hown (ow hw 4 rfl) (ow hw 5 rfl) (ow hw 6 rfl) e0 (g := (mkF mG 42 #[oi (3 : Int32), oi c, oi d] [])) rfl (hb yb d1_42) (by decide) (by decide)
  obtain ⟨b1, g1⟩ : ∃ z, z = h0.size := ⟨_, rfl⟩
  rw [← g1] at A1 D1 st1
  have n_b1 : n0 ≤ b1 := Nat.le_trans (on0 O0) (Nat.le_of_eq g1.symm)
  have sz_b1 : h0.size ≤ b1 := Nat.le_trans K0.1 (Nat.le_of_eq g1.symm)
  have CS1 : CHr Z oEL sG.vm h0 sG.vm h1 := CHr.ext E1 CR0.1
  have CR1 := CR0.trans CS1
  have O1 := O0.ext E1
  have K1 := K0.ext E1
  have sf_b1 : Safe Z oEL sG.vm h1 b1 := Safe.ext E1 CR0.1 (Safe.new (Nat.le_of_eq g1.symm))
  have F1_20 : Fld Z h1 b1 "java/lang/String" "value" "[B" .null := D1 (Or.inr (ow hw 20 rfl)) (ty := (.array .byte)) (by decide)
  have F1_21 : Fld Z h1 b1 "java/lang/String" "coder" "B" (.int (0 : Int32)) := D1 (Or.inr (ow hw 21 rfl)) (ty := .byte) (by decide)
  refine ob T1 (mkF mG 45 #[oi (3 : Int32), oi c, oi d] [(.ref b1)]) (fun _ kk => st1 _ kk) ?_
  refine ob T1 (mkF mG 46 #[oi (3 : Int32), oi c, oi d] [(.ref b1), (.ref b1)]) (fun _ kk => XS.dup X1.here hx rfl (hb yb d1_45) rfl rfl kk) ?_
  refine ob T1 (mkF mG 47 #[oi (3 : Int32), oi c, oi d] [(.int (2 : Int32)), (.ref b1), (.ref b1)]) (fun _ kk => XS.iconst X1.here hx rfl (hb yb d1_46) kk) ?_
  obtain ⟨T2, h2, k2, X2, e2, E2, A2, st2⟩ := newP X1 hx hZ (ow hw 7 rfl) e1 (g := (mkF mG 47 #[oi (3 : Int32), oi c, oi d] [(.int (2 : Int32)), (.ref b1), (.ref b1)])) rfl (hb yb d1_47) rfl (by decide) (cap := 2) (by decide) (by decide) (by decide) (by decide)
  obtain ⟨b2, g2⟩ : ∃ z, z = h1.size := ⟨_, rfl⟩
  rw [← g2] at A2 st2
  have n_b2 : n0 ≤ b2 := Nat.le_trans (on0 O1) (Nat.le_of_eq g2.symm)
  have sz_b2 : h0.size ≤ b2 := Nat.le_trans K1.1 (Nat.le_of_eq g2.symm)
  have ne_b1_b2 : b1 ≠ b2 := Nat.ne_of_lt (Nat.lt_of_lt_of_le A1.lt (Nat.le_of_eq g2.symm))
  have CS2 : CHr Z oEL sG.vm h1 sG.vm h2 := CHr.ext E2 CR1.1
  have CR2 := CR1.trans CS2
  have O2 := O1.ext E2
  have K2 := K1.ext E2
  have V2 : Arv Z h2 b2 k2 .char (2 : Int32) [(.int (0 : Int32)), (.int (0 : Int32))] (.int (0 : Int32)) := (Arv.new A2 (by decide)).pad (pad_rep [] (.int (0 : Int32)) 2)
  have sf_b2 : Safe Z oEL sG.vm h2 b2 := Safe.ext E2 CR1.1 (Safe.new (Nat.le_of_eq g2.symm))
  refine ob T2 (mkF mG 49 #[oi (3 : Int32), oi c, oi d] [(.ref b2), (.ref b1), (.ref b1)]) (fun _ kk => st2 _ kk) ?_
  refine ob T2 (mkF mG 50 #[oi (3 : Int32), oi c, oi d] [(.ref b2), (.ref b2), (.ref b1), (.ref b1)]) (fun _ kk => XS.dup X2.here hx rfl (hb yb d1_49) rfl rfl kk) ?_
  refine ob T2 (mkF mG 51 #[oi (3 : Int32), oi c, oi d] [(.int (0 : Int32)), (.ref b2), (.ref b2), (.ref b1), (.ref b1)]) (fun _ kk => XS.iconst X2.here hx rfl (hb yb d1_50) kk) ?_
  refine ob T2 (mkF mG 52 #[oi (3 : Int32), oi c, oi d] [(.int c), (.int (0 : Int32)), (.ref b2), (.ref b2), (.ref b1), (.ref b1)]) (fun _ kk => XS.iloadN X2.here hx rfl (hb yb d1_51) rfl kk) ?_
  obtain ⟨cl3, Ar3, q3, S3, N3a, H3, G3⟩ := id V2
  have hin3 : ¬ ((0 : Int32) < 0 ∨ cl3.slots.size ≤ ((0 : Int32)).toNatClampNeg) := inb_of S3 ⟨by decide, by decide⟩
  obtain ⟨T3, h3, X3, e3, W3, st3⟩ := stC X2 hx hZ e2 Ar3 (j := (0 : Int32)) hin3 (g := (mkF mG 52 #[oi (3 : Int32), oi c, oi d] [(.int c), (.int (0 : Int32)), (.ref b2), (.ref b2), (.ref b1), (.ref b1)])) rfl rfl (hb yb d1_52)
  have V3 : Arv Z h3 b2 k2 .char (2 : Int32) [(.int c), (.int (0 : Int32))] (.int (0 : Int32)) := by
    have q := Arv.set Ar3 q3 S3 N3a H3 G3 (fits_nar_char _) W3 0 rfl (Nat.le_of_ble_eq_true rfl)
    rw [own_nar c rc] at q
    exact q
  have CS3 : CHr Z oEL sG.vm h2 sG.vm h3 := CHr.wr W3 (Safe.arv hZ.alike V2 (by decide)) CR2.1
  have CR3 := CR2.trans CS3
  have O3 := O2.wr W3 n_b2
  have K3 := K2.wr W3 (Or.inr sz_b2)
  have N3 := Fr.snoc X3 N0 n_b2
  refine ob T3 (mkF mG 53 #[oi (3 : Int32), oi c, oi d] [(.ref b2), (.ref b1), (.ref b1)]) (fun _ kk => st3 _ kk) ?_
  refine ob T3 (mkF mG 54 #[oi (3 : Int32), oi c, oi d] [(.ref b2), (.ref b2), (.ref b1), (.ref b1)]) (fun _ kk => XS.dup X3.here hx rfl (hb yb d1_53) rfl rfl kk) ?_
  refine ob T3 (mkF mG 55 #[oi (3 : Int32), oi c, oi d] [(.int (1 : Int32)), (.ref b2), (.ref b2), (.ref b1), (.ref b1)]) (fun _ kk => XS.iconst X3.here hx rfl (hb yb d1_54) kk) ?_
  refine ob T3 (mkF mG 56 #[oi (3 : Int32), oi c, oi d] [(.int d), (.int (1 : Int32)), (.ref b2), (.ref b2), (.ref b1), (.ref b1)]) (fun _ kk => XS.iloadN X3.here hx rfl (hb yb d1_55) rfl kk) ?_
  obtain ⟨cl4, Ar4, q4, S4, N4a, H4, G4⟩ := id V3
  have hin4 : ¬ ((1 : Int32) < 0 ∨ cl4.slots.size ≤ ((1 : Int32)).toNatClampNeg) := inb_of S4 ⟨by decide, by decide⟩
  obtain ⟨T4, h4, X4, e4, W4, st4⟩ := stC X3 hx hZ e3 Ar4 (j := (1 : Int32)) hin4 (g := (mkF mG 56 #[oi (3 : Int32), oi c, oi d] [(.int d), (.int (1 : Int32)), (.ref b2), (.ref b2), (.ref b1), (.ref b1)])) rfl rfl (hb yb d1_56)
  have V4 : Arv Z h4 b2 k2 .char (2 : Int32) [(.int c), (.int d)] (.int (0 : Int32)) := by
    have q := Arv.set Ar4 q4 S4 N4a H4 G4 (fits_nar_char _) W4 1 rfl (Nat.le_of_ble_eq_true rfl)
    rw [own_nar d rd] at q
    exact q
  have CS4 : CHr Z oEL sG.vm h3 sG.vm h4 := CHr.wr W4 (Safe.arv hZ.alike V3 (by decide)) CR3.1
  have CR4 := CR3.trans CS4
  have O4 := O3.wr W4 n_b2
  have K4 := K3.wr W4 (Or.inr sz_b2)
  have N4 := Fr.snoc X4 N3 n_b2
  refine ob T4 (mkF mG 57 #[oi (3 : Int32), oi c, oi d] [(.ref b2), (.ref b1), (.ref b1)]) (fun _ kk => st4 _ kk) ?_
  have hp6 : ∀ cc_ ∈ ([c, d] : List Int32), ¬ cc_ < 0 ∧ ¬ (255 : Int32) < cc_ := by
    intro cc_ hc
    simp only [List.mem_cons, List.not_mem_nil, or_false] at hc
    rcases hc with hc | hc
    · rw [hc]; exact rc
    · rw [hc]; exact rd
  have hws : ∀ d ∈ StrChars.Road.words, d.before a0 Z = true := fun d hd => hw d (own_words d hd)
  obtain ⟨_, _, ⟨T5, L5, k5, n5⟩, -, X5, ⟨Lc5, hQ5, l5, y5, z5⟩, st5⟩ := X4.specialBack hx (y := (⟨"java/lang/String", "<init>", "([C)V"⟩ : MethodName)) rfl hown (mvT hZ (ow hw 8 rfl)) (mvT hZ (ow hw 9 rfl)) (mvT hZ (ow hw 10 rfl)) (by decide) (StrChars.Road.backV (W := 1) hZ hws (kI := 4) (ow hw 5 rfl) (cs := ([c, d] : List Int32)) (bs := ([c, d] : List Int32).map (fun c => c.toInt8.toInt32)) (n := 2) n_b1 (on0 O4) (((A1.ext E2).wr W3).wr W4) (((F1_20.ext E2).other W3 (Or.inl ne_b1_b2)).other W4 (Or.inl ne_b1_b2)) (((F1_21.ext E2).other W3 (Or.inl ne_b1_b2)).other W4 (Or.inl ne_b1_b2)) V4 (S_zc.ext O4.2) hzc rfl rfl (by decide) (by decide) hp6 rfl (by decide) (by decide)) (g := (mkF mG 57 #[oi (3 : Int32), oi c, oi d] [(.ref b2), (.ref b1), (.ref b1)])) rfl (by rw [hml]; rfl) (Steps.refl _) (a := b1) (argsL := [(.ref b2)]) (rest := [(.ref b1)]) (lenOf pd_14 rfl) rfl (by show 2 * 0 + _ ≤ _; exact Nat.le_of_eq rfl) (hb yb d1_57) (fun _ _ => ⟨rfl, e4, (by decide : 2 + 1 ≤ _), (by decide : 6 + 2 ≤ _)⟩)
  dsimp only [Pt.U, Pt.locs, Pt.cells, Pt.slots] at X5 l5 y5 z5 st5 hQ5
  subst l5 y5 z5
  obtain ⟨h5, e5⟩ : ∃ h, T5.heap = h := ⟨_, rfl⟩
  rw [e5] at hQ5
  obtain ⟨rfl, N5q, K5q, A5, C5, t5, kb5, n_t5, z_t5, nt5, V5, B5⟩ := hQ5
  have hcd5 : StrChars.Road.CodA ([c, d] : List Int32) 0 (2 : Int32) ((([c, d] : List Int32).map (fun c => c.toInt8.toInt32)).map Value.int) := StrChars.Road.codOf (n := 2) rfl (fun cc_ hc => (hp6 cc_ hc).2)
  have N5 := Fr.app N4 N5q
  have sz_t5 : h0.size ≤ t5 := Nat.le_trans K4.1 z_t5
  have ne_b1_t5 : b1 ≠ t5 := Nat.ne_of_lt (Nat.lt_of_lt_of_le (((A1.ext E2).wr W3).wr W4).lt z_t5)
  have ne_b2_t5 : b2 ≠ t5 := Nat.ne_of_lt (Nat.lt_of_lt_of_le V4.lt z_t5)
  have ne_b1_t5x : b1 ≠ t5 := fun q => nt5 q.symm
  have O5 := O4.keep K5q (allS n_b1 all0)
  have K5 := K4.trans K5q (allS (Or.inr sz_b1) all0)
  have CS5 : CHr Z oEL sG.vm h4 sG.vm h5 := CHr.keep K5q (sfS (CHr.safe (CS2.trans (CS3.trans CS4)) A1.lt sf_b1) sf0) CR4.1
  have CR5 := CR4.trans CS5
  refine ob T5 (mkF mG 60 #[oi (3 : Int32), oi c, oi d] [(.ref b1)]) (fun _ kk => st5.trans kk) ?_
  obtain ⟨fs, hr, hrun, hended, hW, hsame⟩ := X5.leave (v := some (.ref b1)) (fun h => by rw [Bd.returns] at h; cases h)
  obtain ⟨w1, w2, w3⟩ := State.Since.ended (U := T5.setFrames fs) hS0 hW (by show _ ≤ T5.heap.size; rw [e5]; exact (Nat.le_trans (Nat.le_trans (Nat.le_trans (Nat.le_trans (Nat.le_trans hk0 CS1.2.1) CS2.2.1) CS3.2.1) CS4.2.1) CS5.2.1)) hsame
  have CF := CR5.trans (CHv.at X5 hZ hEL CR5.1)
  refine oout (oretA X5 hx Bd.returns rfl rfl (hb yb d1_60) hr) hrun hended ⟨_, _, rfl, ?_, ?_, ⟨_, rfl⟩, w1, w2, w3.mono (by decide) (by decide)⟩
  · show Q_rm_mk3 Z w_instance w_A c_A zc c d h0 n0 _ T5.heap _
    rw [e5]
    exact ⟨b1, rfl, N5, K5, O5, n_b1, sz_b1, ⟨A5, C5, t5, kb5, V5, Or.inr (Or.inr ⟨c, d, rc, rd, B5, rfl⟩)⟩⟩
  · show CHr Z oEL sG.vm sG.heap T5.vm T5.heap
    rw [hh, e5]
    exact CF

theorem d1_4 : decode method_3_code 4 = .ok (.aconst_null, 1) := by decide +kernel
theorem d1_5 : decode method_3_code 5 = .ok (.areturn, 1) := by decide +kernel
def Q_rm_mk0 (Z : State) (w_instance : Addr) (w_A : Addr) (c_A : Cell) (zc : Int32) (c : Int32) (d : Int32) (h0 : Heap) (n0 : Nat) (v : Option Value) (h : Heap) (L : List Loc) : Prop := v = some .null ∧ Fr n0 L ∧ h = h0
set_option maxRecDepth 65536 in
set_option maxHeartbeats 40000000 in
theorem rm_mk0 (l : Launch) (Z : State) (a0 : Array Value) (hw : ∀ d ∈ tables_1, d.before a0 Z = true) (ws : List Jvm.Cond) (w_instance : Addr) (w_A : Addr) (c_A : Cell) (zc : Int32) (c : Int32) (d : Int32) (h0 : Heap) (n0 : Nat) (O0 : Old Z n0 h0) (hS : St0 Z w_instance w_A c_A zc ) :
    MetFree l (⟨"com/example/rigorous_sourcing/rigoroussourcing/domain/RecordReferenceIsEmptyPinLaw", "make", "(ICC)Ljava/lang/String;"⟩ : MethodName) (head1 (Jvm.Cond.code (⟨"com/example/rigorous_sourcing/rigoroussourcing/domain/RecordReferenceIsEmptyPinLaw", "make", "(ICC)Ljava/lang/String;"⟩ : MethodName) method_3_code 3 (some (.object "java/lang/String")) :: ws) ({ frames := 0, cells := 0, slots := 0, locals := 0 } : Room)) (fun aG UG => aG = #[(.int (0 : Int32)), (.int c), (.int d)] ∧ Z.Warmed39 UG.vm ∧ UG.heap = h0) (fun _ _ _ _ _ => True) (fun _ UG oG UG' => ∃ vG LG, oG = .returned vG ∧ Q_rm_mk0 Z w_instance w_A c_A zc c d h0 n0 vG UG'.heap LG ∧ FrameEnd UG oG UG' LG ({ frames := 0, cells := 0, slots := 0, locals := 0 } : Room).cells ({ frames := 0, cells := 0, slots := 0, locals := 0 } : Room).slots) := by
  refine MetFree.of_bodySF (plainFor_of_name pn_4) hisR ?_
  intro pG eG sG mG rG bG fG cG s₁ Bd hml0 hP hK
  obtain ⟨rfl, hZ, hh⟩ := hP
  have hx := Bd.exec
  have yb := Bd.bytes
  have hml : cG.maxLocals = 3 := hml0
  have hown : sG.vm.findClass "com/example/rigorous_sourcing/rigoroussourcing/domain/RecordReferenceIsEmptyPinLaw" = some mG.cls := findClass_of_methodNamed Bd.named
  have hnm := (name_of_methodNamed Bd.named Bd.method).1
  have X0 : Stand pG l eG ({ frames := 0, cells := 0, slots := 0, locals := 0 } : Room) sG mG #[(.int (0 : Int32)), (.int c), (.int d)] bG fG cG s₁ [] 0 0 := Stand.of_body Bd
  have e0 : s₁.heap = h0 := by rw [← hh, Bd.state]; rfl
  have N0 := Fr.nil n0
  have K0 := Keep.refl h0 []
  obtain ⟨S_w_instance, E_w_instance, S_w_A, E_w_A, V_w_A, S_zc, hzc⟩ := (id hS : St0 Z w_instance w_A c_A zc )
  refine ostart (g' := (mkF mG 0 #[oi (0 : Int32), oi c, oi d] [])) (by first | (simp [entryFrame, mkF, argsToLocals, Value.category]; done) | rfl) ?_
  refine ob s₁ (mkF mG 1 #[oi (0 : Int32), oi c, oi d] [(.int (0 : Int32))]) (fun _ kk => XS.iloadN X0.here hx rfl (hb yb d1_0) rfl kk) ?_
  refine ob s₁ (mkF mG 4 #[oi (0 : Int32), oi c, oi d] []) (fun _ kk => XS.ifNo X0.here hx rfl (hb yb d1_1) rfl ((if0 _ _).trans (teq (by decide : (0 : Int32) = (0 : Int32))).2) kk) ?_
  refine ob s₁ (mkF mG 5 #[oi (0 : Int32), oi c, oi d] [.null]) (fun _ kk => XS.aconstNull X0.here hx rfl (hb yb d1_4) kk) ?_
  obtain ⟨fs, hr, hrun, hended, hW, hsame⟩ := X0.leave (v := some .null) (fun h => by rw [Bd.returns] at h; cases h)
  refine oout (oretA X0 hx Bd.returns rfl rfl (hb yb d1_5) hr) hrun hended ⟨_, _, rfl, ?_, ⟨_, rfl⟩, hW, hsame.mono (by decide) (by decide)⟩
  show Q_rm_mk0 Z w_instance w_A c_A zc c d h0 n0 _ s₁.heap _
  rw [e0]
  exact ⟨rfl, N0, rfl⟩

def Q_rm_mkA (Z : State) (w_instance : Addr) (w_A : Addr) (c_A : Cell) (zc : Int32) (n : Int32) (c : Int32) (d : Int32) (h0 : Heap) (n0 : Nat) (v : Option Value) (h : Heap) (L : List Loc) : Prop := ∃ (b0 : Addr), v = some (.ref b0) ∧ Fr n0 L ∧ Keep h0 h [] ∧ Old Z n0 h ∧ n0 ≤ b0 ∧ h0.size ≤ b0 ∧ oS Z h b0 (oBl n c d)
set_option maxRecDepth 65536 in
set_option maxHeartbeats 40000000 in
theorem rm_mkA (l : Launch) (Z : State) (a0 : Array Value) (hw : ∀ d ∈ tables_1, d.before a0 Z = true) (ws : List Jvm.Cond) (w_instance : Addr) (w_A : Addr) (c_A : Cell) (zc : Int32) (n : Int32) (c : Int32) (d : Int32) (h0 : Heap) (n0 : Nat) (O0 : Old Z n0 h0) (hS : St0 Z w_instance w_A c_A zc ) (hn : n = (1 : Int32) ∨ n = (2 : Int32) ∨ n = (3 : Int32)) (rc : oRg c) (rd : oRg d) :
    MetFree l (⟨"com/example/rigorous_sourcing/rigoroussourcing/domain/RecordReferenceIsEmptyPinLaw", "make", "(ICC)Ljava/lang/String;"⟩ : MethodName) (head1 (Jvm.Cond.code (⟨"com/example/rigorous_sourcing/rigoroussourcing/domain/RecordReferenceIsEmptyPinLaw", "make", "(ICC)Ljava/lang/String;"⟩ : MethodName) method_3_code 3 (some (.object "java/lang/String")) :: ws) ({ frames := 6, cells := 6, slots := 40, locals := 120 } : Room)) (fun aG UG => aG = #[(.int n), (.int c), (.int d)] ∧ Z.Warmed39 UG.vm ∧ UG.heap = h0 ∧ CHv Z oEL UG.vm h0) (fun _ _ _ _ _ => True) (fun _ UG oG UG' => ∃ vG LG, oG = .returned vG ∧ Q_rm_mkA Z w_instance w_A c_A zc n c d h0 n0 vG UG'.heap LG ∧ CHr Z oEL UG.vm UG.heap UG'.vm UG'.heap ∧ ReturnedEndW UG oG UG' LG ({ frames := 6, cells := 6, slots := 40, locals := 120 } : Room).cells ({ frames := 6, cells := 6, slots := 40, locals := 120 } : Room).slots) := by
  rcases hn with rfl | rfl | rfl
  · exact rm_mk1 l Z a0 hw ws w_instance w_A c_A zc c d h0 n0 O0 hS rc rd
  · exact rm_mk2 l Z a0 hw ws w_instance w_A c_A zc c d h0 n0 O0 hS rc rd
  · exact rm_mk3 l Z a0 hw ws w_instance w_A c_A zc c d h0 n0 O0 hS rc rd

theorem d17_0 : decode method_2_code 0 = .ok (.iload_n 0, 1) := by decide +kernel
theorem d17_1 : decode method_2_code 1 = .ok (.bipush 9, 2) := by decide +kernel
theorem d17_3 : decode method_2_code 3 = .ok (.if_icmp .lt 9, 3) := by decide +kernel
theorem d17_6 : decode method_2_code 6 = .ok (.iload_n 0, 1) := by decide +kernel
theorem d17_7 : decode method_2_code 7 = .ok (.bipush 13, 2) := by decide +kernel
theorem d17_9 : decode method_2_code 9 = .ok (.if_icmp .le 15, 3) := by decide +kernel
theorem d17_12 : decode method_2_code 12 = .ok (.iload_n 0, 1) := by decide +kernel
theorem d17_13 : decode method_2_code 13 = .ok (.bipush 28, 2) := by decide +kernel
theorem d17_15 : decode method_2_code 15 = .ok (.if_icmp .lt 13, 3) := by decide +kernel
theorem d17_18 : decode method_2_code 18 = .ok (.iload_n 0, 1) := by decide +kernel
theorem d17_19 : decode method_2_code 19 = .ok (.bipush 32, 2) := by decide +kernel
theorem d17_21 : decode method_2_code 21 = .ok (.if_icmp .gt 7, 3) := by decide +kernel
theorem d17_24 : decode method_2_code 24 = .ok (.iconst 1, 1) := by decide +kernel
theorem d17_25 : decode method_2_code 25 = .ok (.goto 4, 3) := by decide +kernel
theorem d17_28 : decode method_2_code 28 = .ok (.iconst 0, 1) := by decide +kernel
theorem d17_29 : decode method_2_code 29 = .ok (.ireturn, 1) := by decide +kernel
def Q_rm_iws (Z : State) (w_instance : Addr) (w_A : Addr) (c_A : Cell) (zc : Int32) (c : Int32) (h0 : Heap) (n0 : Nat) (v : Option Value) (h : Heap) (L : List Loc) : Prop := v = some (.int (oB (oWs c))) ∧ Fr n0 L ∧ h = h0
set_option maxRecDepth 65536 in
set_option maxHeartbeats 40000000 in
theorem rm_iws (l : Launch) (Z : State) (a0 : Array Value) (hw : ∀ d ∈ tables_1, d.before a0 Z = true) (ws : List Jvm.Cond) (w_instance : Addr) (w_A : Addr) (c_A : Cell) (zc : Int32) (c : Int32) (h0 : Heap) (n0 : Nat) (O0 : Old Z n0 h0) (hS : St0 Z w_instance w_A c_A zc ) :
    MetFree l (⟨"com/example/rigorous_sourcing/rigoroussourcing/domain/RecordReferenceIsEmptyPinLaw", "isWs", "(C)Z"⟩ : MethodName) (head1 (Jvm.Cond.code (⟨"com/example/rigorous_sourcing/rigoroussourcing/domain/RecordReferenceIsEmptyPinLaw", "isWs", "(C)Z"⟩ : MethodName) method_2_code 1 (some .boolean) :: ws) ({ frames := 0, cells := 0, slots := 0, locals := 0 } : Room)) (fun aG UG => aG = #[(.int c)] ∧ Z.Warmed39 UG.vm ∧ UG.heap = h0) (fun _ _ _ _ _ => True) (fun _ UG oG UG' => ∃ vG LG, oG = .returned vG ∧ Q_rm_iws Z w_instance w_A c_A zc c h0 n0 vG UG'.heap LG ∧ FrameEnd UG oG UG' LG ({ frames := 0, cells := 0, slots := 0, locals := 0 } : Room).cells ({ frames := 0, cells := 0, slots := 0, locals := 0 } : Room).slots) := by
  refine MetFree.of_bodySF (plainFor_of_name pn_4) hisR ?_
  intro pG eG sG mG rG bG fG cG s₁ Bd hml0 hP hK
  obtain ⟨rfl, hZ, hh⟩ := hP
  have hx := Bd.exec
  have yb := Bd.bytes
  have hml : cG.maxLocals = 1 := hml0
  have hown : sG.vm.findClass "com/example/rigorous_sourcing/rigoroussourcing/domain/RecordReferenceIsEmptyPinLaw" = some mG.cls := findClass_of_methodNamed Bd.named
  have hnm := (name_of_methodNamed Bd.named Bd.method).1
  have X0 : Stand pG l eG ({ frames := 0, cells := 0, slots := 0, locals := 0 } : Room) sG mG #[(.int c)] bG fG cG s₁ [] 0 0 := Stand.of_body Bd
  have e0 : s₁.heap = h0 := by rw [← hh, Bd.state]; rfl
  have N0 := Fr.nil n0
  have K0 := Keep.refl h0 []
  obtain ⟨S_w_instance, E_w_instance, S_w_A, E_w_A, V_w_A, S_zc, hzc⟩ := (id hS : St0 Z w_instance w_A c_A zc )
  refine ostart (g' := (mkF mG 0 #[oi c] [])) (by first | (simp [entryFrame, mkF, argsToLocals, Value.category]; done) | rfl) ?_
  refine ob s₁ (mkF mG 1 #[oi c] [(.int c)]) (fun _ kk => XS.iloadN X0.here hx rfl (hb yb d17_0) rfl kk) ?_
  refine ob s₁ (mkF mG 3 #[oi c] [(.int (9 : Int32)), (.int c)]) (fun _ kk => XS.bipush X0.here hx rfl (hb yb d17_1) kk) ?_
  by_cases hc1 : c < (9 : Int32)
  · skip
    refine ob s₁ (mkF mG 12 #[oi c] []) (fun _ kk => XS.icmpYes X0.here hx rfl (pc0 := 3) (pc' := 12) rfl (hb yb d17_3) rfl (tlt hc1).1 (by decide) (by decide) kk) ?_
    refine ob s₁ (mkF mG 13 #[oi c] [(.int c)]) (fun _ kk => XS.iloadN X0.here hx rfl (hb yb d17_12) rfl kk) ?_
    refine ob s₁ (mkF mG 15 #[oi c] [(.int (28 : Int32)), (.int c)]) (fun _ kk => XS.bipush X0.here hx rfl (hb yb d17_13) kk) ?_
    by_cases hc2 : c < (28 : Int32)
    · skip
      refine ob s₁ (mkF mG 28 #[oi c] []) (fun _ kk => XS.icmpYes X0.here hx rfl (pc0 := 15) (pc' := 28) rfl (hb yb d17_15) rfl (tlt hc2).1 (by decide) (by decide) kk) ?_
      refine ob s₁ (mkF mG 29 #[oi c] [(.int (0 : Int32))]) (fun _ kk => XS.iconst X0.here hx rfl (hb yb d17_28) kk) ?_
      obtain ⟨fs, hr, hrun, hended, hW, hsame⟩ := X0.leave (v := some (.int (0 : Int32))) (fun h => by rw [Bd.returns] at h; cases h)
      refine oout (retN X0 hx (t := .boolean) Bd.returns (by simp) (hb yb d17_29) hr) hrun hended ⟨_, _, rfl, ?_, ⟨_, rfl⟩, hW, hsame.mono (by decide) (by decide)⟩
      show Q_rm_iws Z w_instance w_A c_A zc c h0 n0 _ s₁.heap _
      rw [e0]
      exact ⟨(by simp [oB, oWs, hc1, hc2]), N0, rfl⟩
    · skip
      refine ob s₁ (mkF mG 18 #[oi c] []) (fun _ kk => XS.icmpNo X0.here hx rfl (hb yb d17_15) rfl (flt hc2).1 kk) ?_
      refine ob s₁ (mkF mG 19 #[oi c] [(.int c)]) (fun _ kk => XS.iloadN X0.here hx rfl (hb yb d17_18) rfl kk) ?_
      refine ob s₁ (mkF mG 21 #[oi c] [(.int (32 : Int32)), (.int c)]) (fun _ kk => XS.bipush X0.here hx rfl (hb yb d17_19) kk) ?_
      by_cases hc3 : (32 : Int32) < c
      · skip
        refine ob s₁ (mkF mG 28 #[oi c] []) (fun _ kk => XS.icmpYes X0.here hx rfl (pc0 := 21) (pc' := 28) rfl (hb yb d17_21) rfl (tlt hc3).2.2.1 (by decide) (by decide) kk) ?_
        refine ob s₁ (mkF mG 29 #[oi c] [(.int (0 : Int32))]) (fun _ kk => XS.iconst X0.here hx rfl (hb yb d17_28) kk) ?_
        obtain ⟨fs, hr, hrun, hended, hW, hsame⟩ := X0.leave (v := some (.int (0 : Int32))) (fun h => by rw [Bd.returns] at h; cases h)
        refine oout (retN X0 hx (t := .boolean) Bd.returns (by simp) (hb yb d17_29) hr) hrun hended ⟨_, _, rfl, ?_, ⟨_, rfl⟩, hW, hsame.mono (by decide) (by decide)⟩
        show Q_rm_iws Z w_instance w_A c_A zc c h0 n0 _ s₁.heap _
        rw [e0]
        exact ⟨(by simp [oB, oWs, hc1, hc2, hc3]), N0, rfl⟩
      · skip
        refine ob s₁ (mkF mG 24 #[oi c] []) (fun _ kk => XS.icmpNo X0.here hx rfl (hb yb d17_21) rfl (flt hc3).2.2.1 kk) ?_
        refine ob s₁ (mkF mG 25 #[oi c] [(.int (1 : Int32))]) (fun _ kk => XS.iconst X0.here hx rfl (hb yb d17_24) kk) ?_
        refine ob s₁ (mkF mG 29 #[oi c] [(.int (1 : Int32))]) (fun _ kk => XS.goto X0.here hx rfl (pc0 := 25) (pc' := 29) rfl (hb yb d17_25) (by decide) (by decide) kk) ?_
        obtain ⟨fs, hr, hrun, hended, hW, hsame⟩ := X0.leave (v := some (.int (1 : Int32))) (fun h => by rw [Bd.returns] at h; cases h)
        refine oout (retN X0 hx (t := .boolean) Bd.returns (by simp) (hb yb d17_29) hr) hrun hended ⟨_, _, rfl, ?_, ⟨_, rfl⟩, hW, hsame.mono (by decide) (by decide)⟩
        show Q_rm_iws Z w_instance w_A c_A zc c h0 n0 _ s₁.heap _
        rw [e0]
        exact ⟨(by simp [oB, oWs, hc1, hc2, hc3]), N0, rfl⟩
  · skip
    refine ob s₁ (mkF mG 6 #[oi c] []) (fun _ kk => XS.icmpNo X0.here hx rfl (hb yb d17_3) rfl (flt hc1).1 kk) ?_
    refine ob s₁ (mkF mG 7 #[oi c] [(.int c)]) (fun _ kk => XS.iloadN X0.here hx rfl (hb yb d17_6) rfl kk) ?_
    refine ob s₁ (mkF mG 9 #[oi c] [(.int (13 : Int32)), (.int c)]) (fun _ kk => XS.bipush X0.here hx rfl (hb yb d17_7) kk) ?_
    by_cases hc4 : (13 : Int32) < c
    · skip
      refine ob s₁ (mkF mG 12 #[oi c] []) (fun _ kk => XS.icmpNo X0.here hx rfl (hb yb d17_9) rfl (tlt hc4).2.2.2 kk) ?_
      refine ob s₁ (mkF mG 13 #[oi c] [(.int c)]) (fun _ kk => XS.iloadN X0.here hx rfl (hb yb d17_12) rfl kk) ?_
      refine ob s₁ (mkF mG 15 #[oi c] [(.int (28 : Int32)), (.int c)]) (fun _ kk => XS.bipush X0.here hx rfl (hb yb d17_13) kk) ?_
      by_cases hc5 : c < (28 : Int32)
      · skip
        refine ob s₁ (mkF mG 28 #[oi c] []) (fun _ kk => XS.icmpYes X0.here hx rfl (pc0 := 15) (pc' := 28) rfl (hb yb d17_15) rfl (tlt hc5).1 (by decide) (by decide) kk) ?_
        refine ob s₁ (mkF mG 29 #[oi c] [(.int (0 : Int32))]) (fun _ kk => XS.iconst X0.here hx rfl (hb yb d17_28) kk) ?_
        obtain ⟨fs, hr, hrun, hended, hW, hsame⟩ := X0.leave (v := some (.int (0 : Int32))) (fun h => by rw [Bd.returns] at h; cases h)
        refine oout (retN X0 hx (t := .boolean) Bd.returns (by simp) (hb yb d17_29) hr) hrun hended ⟨_, _, rfl, ?_, ⟨_, rfl⟩, hW, hsame.mono (by decide) (by decide)⟩
        show Q_rm_iws Z w_instance w_A c_A zc c h0 n0 _ s₁.heap _
        rw [e0]
        exact ⟨(by simp [oB, oWs, hc1, hc4, hc5]), N0, rfl⟩
      · skip
        refine ob s₁ (mkF mG 18 #[oi c] []) (fun _ kk => XS.icmpNo X0.here hx rfl (hb yb d17_15) rfl (flt hc5).1 kk) ?_
        refine ob s₁ (mkF mG 19 #[oi c] [(.int c)]) (fun _ kk => XS.iloadN X0.here hx rfl (hb yb d17_18) rfl kk) ?_
        refine ob s₁ (mkF mG 21 #[oi c] [(.int (32 : Int32)), (.int c)]) (fun _ kk => XS.bipush X0.here hx rfl (hb yb d17_19) kk) ?_
        by_cases hc6 : (32 : Int32) < c
        · skip
          refine ob s₁ (mkF mG 28 #[oi c] []) (fun _ kk => XS.icmpYes X0.here hx rfl (pc0 := 21) (pc' := 28) rfl (hb yb d17_21) rfl (tlt hc6).2.2.1 (by decide) (by decide) kk) ?_
          refine ob s₁ (mkF mG 29 #[oi c] [(.int (0 : Int32))]) (fun _ kk => XS.iconst X0.here hx rfl (hb yb d17_28) kk) ?_
          obtain ⟨fs, hr, hrun, hended, hW, hsame⟩ := X0.leave (v := some (.int (0 : Int32))) (fun h => by rw [Bd.returns] at h; cases h)
          refine oout (retN X0 hx (t := .boolean) Bd.returns (by simp) (hb yb d17_29) hr) hrun hended ⟨_, _, rfl, ?_, ⟨_, rfl⟩, hW, hsame.mono (by decide) (by decide)⟩
          show Q_rm_iws Z w_instance w_A c_A zc c h0 n0 _ s₁.heap _
          rw [e0]
          exact ⟨(by simp [oB, oWs, hc1, hc4, hc5, hc6]), N0, rfl⟩
        · skip
          refine ob s₁ (mkF mG 24 #[oi c] []) (fun _ kk => XS.icmpNo X0.here hx rfl (hb yb d17_21) rfl (flt hc6).2.2.1 kk) ?_
          refine ob s₁ (mkF mG 25 #[oi c] [(.int (1 : Int32))]) (fun _ kk => XS.iconst X0.here hx rfl (hb yb d17_24) kk) ?_
          refine ob s₁ (mkF mG 29 #[oi c] [(.int (1 : Int32))]) (fun _ kk => XS.goto X0.here hx rfl (pc0 := 25) (pc' := 29) rfl (hb yb d17_25) (by decide) (by decide) kk) ?_
          obtain ⟨fs, hr, hrun, hended, hW, hsame⟩ := X0.leave (v := some (.int (1 : Int32))) (fun h => by rw [Bd.returns] at h; cases h)
          refine oout (retN X0 hx (t := .boolean) Bd.returns (by simp) (hb yb d17_29) hr) hrun hended ⟨_, _, rfl, ?_, ⟨_, rfl⟩, hW, hsame.mono (by decide) (by decide)⟩
          show Q_rm_iws Z w_instance w_A c_A zc c h0 n0 _ s₁.heap _
          rw [e0]
          exact ⟨(by simp [oB, oWs, hc1, hc4, hc5, hc6]), N0, rfl⟩
    · skip
      refine ob s₁ (mkF mG 24 #[oi c] []) (fun _ kk => XS.icmpYes X0.here hx rfl (pc0 := 9) (pc' := 24) rfl (hb yb d17_9) rfl (flt hc4).2.2.2 (by decide) (by decide) kk) ?_
      refine ob s₁ (mkF mG 25 #[oi c] [(.int (1 : Int32))]) (fun _ kk => XS.iconst X0.here hx rfl (hb yb d17_24) kk) ?_
      refine ob s₁ (mkF mG 29 #[oi c] [(.int (1 : Int32))]) (fun _ kk => XS.goto X0.here hx rfl (pc0 := 25) (pc' := 29) rfl (hb yb d17_25) (by decide) (by decide) kk) ?_
      obtain ⟨fs, hr, hrun, hended, hW, hsame⟩ := X0.leave (v := some (.int (1 : Int32))) (fun h => by rw [Bd.returns] at h; cases h)
      refine oout (retN X0 hx (t := .boolean) Bd.returns (by simp) (hb yb d17_29) hr) hrun hended ⟨_, _, rfl, ?_, ⟨_, rfl⟩, hW, hsame.mono (by decide) (by decide)⟩
      show Q_rm_iws Z w_instance w_A c_A zc c h0 n0 _ s₁.heap _
      rw [e0]
      exact ⟨(by simp [oB, oWs, hc1, hc4]), N0, rfl⟩

theorem d5_0 : decode method_4_code 0 = .ok (.iload_n 0, 1) := by decide +kernel
theorem d5_1 : decode method_4_code 1 = .ok (.iconst 1, 1) := by decide +kernel
theorem d5_2 : decode method_4_code 2 = .ok (.if_icmp .gt 5, 3) := by decide +kernel
theorem d5_5 : decode method_4_code 5 = .ok (.iconst 1, 1) := by decide +kernel
theorem d5_6 : decode method_4_code 6 = .ok (.ireturn, 1) := by decide +kernel
def Q_rm_bk0 (Z : State) (w_instance : Addr) (w_A : Addr) (c_A : Cell) (zc : Int32) (c : Int32) (d : Int32) (h0 : Heap) (n0 : Nat) (v : Option Value) (h : Heap) (L : List Loc) : Prop := v = some (.int (1 : Int32)) ∧ Fr n0 L ∧ h = h0
set_option maxRecDepth 65536 in
set_option maxHeartbeats 40000000 in
theorem rm_bk0 (l : Launch) (Z : State) (a0 : Array Value) (hw : ∀ d ∈ tables_1, d.before a0 Z = true) (ws : List Jvm.Cond) (w_instance : Addr) (w_A : Addr) (c_A : Cell) (zc : Int32) (c : Int32) (d : Int32) (h0 : Heap) (n0 : Nat) (O0 : Old Z n0 h0) (hS : St0 Z w_instance w_A c_A zc ) :
    MetFree l (⟨"com/example/rigorous_sourcing/rigoroussourcing/domain/RecordReferenceIsEmptyPinLaw", "blank", "(ICC)Z"⟩ : MethodName) (head1 (Jvm.Cond.code (⟨"com/example/rigorous_sourcing/rigoroussourcing/domain/RecordReferenceIsEmptyPinLaw", "blank", "(ICC)Z"⟩ : MethodName) method_4_code 3 (some .boolean) :: ws) ({ frames := 0, cells := 0, slots := 0, locals := 0 } : Room)) (fun aG UG => aG = #[(.int (0 : Int32)), (.int c), (.int d)] ∧ Z.Warmed39 UG.vm ∧ UG.heap = h0) (fun _ _ _ _ _ => True) (fun _ UG oG UG' => ∃ vG LG, oG = .returned vG ∧ Q_rm_bk0 Z w_instance w_A c_A zc c d h0 n0 vG UG'.heap LG ∧ FrameEnd UG oG UG' LG ({ frames := 0, cells := 0, slots := 0, locals := 0 } : Room).cells ({ frames := 0, cells := 0, slots := 0, locals := 0 } : Room).slots) := by
  refine MetFree.of_bodySF (plainFor_of_name pn_4) hisR ?_
  intro pG eG sG mG rG bG fG cG s₁ Bd hml0 hP hK
  obtain ⟨rfl, hZ, hh⟩ := hP
  have hx := Bd.exec
  have yb := Bd.bytes
  have hml : cG.maxLocals = 3 := hml0
  have hown : sG.vm.findClass "com/example/rigorous_sourcing/rigoroussourcing/domain/RecordReferenceIsEmptyPinLaw" = some mG.cls := findClass_of_methodNamed Bd.named
  have hnm := (name_of_methodNamed Bd.named Bd.method).1
  have X0 : Stand pG l eG ({ frames := 0, cells := 0, slots := 0, locals := 0 } : Room) sG mG #[(.int (0 : Int32)), (.int c), (.int d)] bG fG cG s₁ [] 0 0 := Stand.of_body Bd
  have e0 : s₁.heap = h0 := by rw [← hh, Bd.state]; rfl
  have N0 := Fr.nil n0
  have K0 := Keep.refl h0 []
  obtain ⟨S_w_instance, E_w_instance, S_w_A, E_w_A, V_w_A, S_zc, hzc⟩ := (id hS : St0 Z w_instance w_A c_A zc )
  refine ostart (g' := (mkF mG 0 #[oi (0 : Int32), oi c, oi d] [])) (by first | (simp [entryFrame, mkF, argsToLocals, Value.category]; done) | rfl) ?_
  refine ob s₁ (mkF mG 1 #[oi (0 : Int32), oi c, oi d] [(.int (0 : Int32))]) (fun _ kk => XS.iloadN X0.here hx rfl (hb yb d5_0) rfl kk) ?_
  refine ob s₁ (mkF mG 2 #[oi (0 : Int32), oi c, oi d] [(.int (1 : Int32)), (.int (0 : Int32))]) (fun _ kk => XS.iconst X0.here hx rfl (hb yb d5_1) kk) ?_
  refine ob s₁ (mkF mG 5 #[oi (0 : Int32), oi c, oi d] []) (fun _ kk => XS.icmpNo X0.here hx rfl (hb yb d5_2) rfl (flt (by decide : ¬ ((1 : Int32) < (0 : Int32)))).2.2.1 kk) ?_
  refine ob s₁ (mkF mG 6 #[oi (0 : Int32), oi c, oi d] [(.int (1 : Int32))]) (fun _ kk => XS.iconst X0.here hx rfl (hb yb d5_5) kk) ?_
  obtain ⟨fs, hr, hrun, hended, hW, hsame⟩ := X0.leave (v := some (.int (1 : Int32))) (fun h => by rw [Bd.returns] at h; cases h)
  refine oout (retN X0 hx (t := .boolean) Bd.returns (by simp) (hb yb d5_6) hr) hrun hended ⟨_, _, rfl, ?_, ⟨_, rfl⟩, hW, hsame.mono (by decide) (by decide)⟩
  show Q_rm_bk0 Z w_instance w_A c_A zc c d h0 n0 _ s₁.heap _
  rw [e0]
  exact ⟨rfl, N0, rfl⟩

def Q_rm_bk1 (Z : State) (w_instance : Addr) (w_A : Addr) (c_A : Cell) (zc : Int32) (c : Int32) (d : Int32) (h0 : Heap) (n0 : Nat) (v : Option Value) (h : Heap) (L : List Loc) : Prop := v = some (.int (oB (oBl (1 : Int32) c d))) ∧ Fr n0 L ∧ h = h0
set_option maxRecDepth 65536 in
set_option maxHeartbeats 40000000 in
theorem rm_bk1 (l : Launch) (Z : State) (a0 : Array Value) (hw : ∀ d ∈ tables_1, d.before a0 Z = true) (ws : List Jvm.Cond) (w_instance : Addr) (w_A : Addr) (c_A : Cell) (zc : Int32) (c : Int32) (d : Int32) (h0 : Heap) (n0 : Nat) (O0 : Old Z n0 h0) (hS : St0 Z w_instance w_A c_A zc ) :
    MetFree l (⟨"com/example/rigorous_sourcing/rigoroussourcing/domain/RecordReferenceIsEmptyPinLaw", "blank", "(ICC)Z"⟩ : MethodName) (head1 (Jvm.Cond.code (⟨"com/example/rigorous_sourcing/rigoroussourcing/domain/RecordReferenceIsEmptyPinLaw", "blank", "(ICC)Z"⟩ : MethodName) method_4_code 3 (some .boolean) :: ws) ({ frames := 1, cells := 0, slots := 0, locals := 16 } : Room)) (fun aG UG => aG = #[(.int (1 : Int32)), (.int c), (.int d)] ∧ Z.Warmed39 UG.vm ∧ UG.heap = h0) (fun _ _ _ _ _ => True) (fun _ UG oG UG' => ∃ vG LG, oG = .returned vG ∧ Q_rm_bk1 Z w_instance w_A c_A zc c d h0 n0 vG UG'.heap LG ∧ FrameEnd UG oG UG' LG ({ frames := 1, cells := 0, slots := 0, locals := 16 } : Room).cells ({ frames := 1, cells := 0, slots := 0, locals := 16 } : Room).slots) := by
  refine MetFree.of_bodySF (plainFor_of_name pn_4) hisR ?_
  intro pG eG sG mG rG bG fG cG s₁ Bd hml0 hP hK
  obtain ⟨rfl, hZ, hh⟩ := hP
  have hx := Bd.exec
  have yb := Bd.bytes
  have hml : cG.maxLocals = 3 := hml0
  have hown : sG.vm.findClass "com/example/rigorous_sourcing/rigoroussourcing/domain/RecordReferenceIsEmptyPinLaw" = some mG.cls := findClass_of_methodNamed Bd.named
  have hnm := (name_of_methodNamed Bd.named Bd.method).1
  have X0 : Stand pG l eG ({ frames := 1, cells := 0, slots := 0, locals := 16 } : Room) sG mG #[(.int (1 : Int32)), (.int c), (.int d)] bG fG cG s₁ [] 0 0 := Stand.of_body Bd
  have e0 : s₁.heap = h0 := by rw [← hh, Bd.state]; rfl
  have N0 := Fr.nil n0
  have K0 := Keep.refl h0 []
  obtain ⟨S_w_instance, E_w_instance, S_w_A, E_w_A, V_w_A, S_zc, hzc⟩ := (id hS : St0 Z w_instance w_A c_A zc )
  refine ostart (g' := (mkF mG 0 #[oi (1 : Int32), oi c, oi d] [])) (by first | (simp [entryFrame, mkF, argsToLocals, Value.category]; done) | rfl) ?_
  refine ob s₁ (mkF mG 1 #[oi (1 : Int32), oi c, oi d] [(.int (1 : Int32))]) (fun _ kk => XS.iloadN X0.here hx rfl (hb yb d5_0) rfl kk) ?_
  refine ob s₁ (mkF mG 2 #[oi (1 : Int32), oi c, oi d] [(.int (1 : Int32)), (.int (1 : Int32))]) (fun _ kk => XS.iconst X0.here hx rfl (hb yb d5_1) kk) ?_
  refine ob s₁ (mkF mG 5 #[oi (1 : Int32), oi c, oi d] []) (fun _ kk => XS.icmpNo X0.here hx rfl (hb yb d5_2) rfl (flt (by decide : ¬ ((1 : Int32) < (1 : Int32)))).2.2.1 kk) ?_
  refine ob s₁ (mkF mG 6 #[oi (1 : Int32), oi c, oi d] [(.int (1 : Int32))]) (fun _ kk => XS.iconst X0.here hx rfl (hb yb d5_5) kk) ?_
  obtain ⟨fs, hr, hrun, hended, hW, hsame⟩ := X0.leave (v := some (.int (1 : Int32))) (fun h => by rw [Bd.returns] at h; cases h)
  refine oout (retN X0 hx (t := .boolean) Bd.returns (by simp) (hb yb d5_6) hr) hrun hended ⟨_, _, rfl, ?_, ⟨_, rfl⟩, hW, hsame.mono (by decide) (by decide)⟩
  show Q_rm_bk1 Z w_instance w_A c_A zc c d h0 n0 _ s₁.heap _
  rw [e0]
  exact ⟨rfl, N0, rfl⟩

theorem d5_7 : decode method_4_code 7 = .ok (.iload_n 0, 1) := by decide +kernel
theorem d5_8 : decode method_4_code 8 = .ok (.iconst 2, 1) := by decide +kernel
theorem d5_9 : decode method_4_code 9 = .ok (.if_icmp .ne 8, 3) := by decide +kernel
theorem d5_12 : decode method_4_code 12 = .ok (.iload_n 1, 1) := by decide +kernel
theorem d5_13 : decode method_4_code 13 = .ok (.invokestatic 12, 3) := by decide +kernel
theorem d5_16 : decode method_4_code 16 = .ok (.ireturn, 1) := by decide +kernel
theorem pd_15 : parseMethodDescriptor "(C)Z" = some ⟨[.char], some .boolean⟩ := by decide +kernel
def Q_rm_bk2 (Z : State) (w_instance : Addr) (w_A : Addr) (c_A : Cell) (zc : Int32) (c : Int32) (d : Int32) (h0 : Heap) (n0 : Nat) (v : Option Value) (h : Heap) (L : List Loc) : Prop := v = some (.int (oB (oBl (2 : Int32) c d))) ∧ Fr n0 L ∧ h = h0
set_option maxRecDepth 65536 in
set_option maxHeartbeats 40000000 in
theorem rm_bk2 (l : Launch) (Z : State) (a0 : Array Value) (hw : ∀ d ∈ tables_1, d.before a0 Z = true) (ws : List Jvm.Cond) (w_instance : Addr) (w_A : Addr) (c_A : Cell) (zc : Int32) (c : Int32) (d : Int32) (h0 : Heap) (n0 : Nat) (O0 : Old Z n0 h0) (hS : St0 Z w_instance w_A c_A zc ) :
    MetFree l (⟨"com/example/rigorous_sourcing/rigoroussourcing/domain/RecordReferenceIsEmptyPinLaw", "blank", "(ICC)Z"⟩ : MethodName) (head1 (Jvm.Cond.code (⟨"com/example/rigorous_sourcing/rigoroussourcing/domain/RecordReferenceIsEmptyPinLaw", "blank", "(ICC)Z"⟩ : MethodName) method_4_code 3 (some .boolean) :: ws) ({ frames := 1, cells := 0, slots := 0, locals := 16 } : Room)) (fun aG UG => aG = #[(.int (2 : Int32)), (.int c), (.int d)] ∧ Z.Warmed39 UG.vm ∧ UG.heap = h0) (fun _ _ _ _ _ => True) (fun _ UG oG UG' => ∃ vG LG, oG = .returned vG ∧ Q_rm_bk2 Z w_instance w_A c_A zc c d h0 n0 vG UG'.heap LG ∧ FrameEnd UG oG UG' LG ({ frames := 1, cells := 0, slots := 0, locals := 16 } : Room).cells ({ frames := 1, cells := 0, slots := 0, locals := 16 } : Room).slots) := by
  refine MetFree.of_bodySF (plainFor_of_name pn_4) hisR ?_
  intro pG eG sG mG rG bG fG cG s₁ Bd hml0 hP hK
  obtain ⟨rfl, hZ, hh⟩ := hP
  have hx := Bd.exec
  have yb := Bd.bytes
  have hml : cG.maxLocals = 3 := hml0
  have hown : sG.vm.findClass "com/example/rigorous_sourcing/rigoroussourcing/domain/RecordReferenceIsEmptyPinLaw" = some mG.cls := findClass_of_methodNamed Bd.named
  have hnm := (name_of_methodNamed Bd.named Bd.method).1
  have X0 : Stand pG l eG ({ frames := 1, cells := 0, slots := 0, locals := 16 } : Room) sG mG #[(.int (2 : Int32)), (.int c), (.int d)] bG fG cG s₁ [] 0 0 := Stand.of_body Bd
  have e0 : s₁.heap = h0 := by rw [← hh, Bd.state]; rfl
  have N0 := Fr.nil n0
  have K0 := Keep.refl h0 []
  obtain ⟨S_w_instance, E_w_instance, S_w_A, E_w_A, V_w_A, S_zc, hzc⟩ := (id hS : St0 Z w_instance w_A c_A zc )
  refine ostart (g' := (mkF mG 0 #[oi (2 : Int32), oi c, oi d] [])) (by first | (simp [entryFrame, mkF, argsToLocals, Value.category]; done) | rfl) ?_
  refine ob s₁ (mkF mG 1 #[oi (2 : Int32), oi c, oi d] [(.int (2 : Int32))]) (fun _ kk => XS.iloadN X0.here hx rfl (hb yb d5_0) rfl kk) ?_
  refine ob s₁ (mkF mG 2 #[oi (2 : Int32), oi c, oi d] [(.int (1 : Int32)), (.int (2 : Int32))]) (fun _ kk => XS.iconst X0.here hx rfl (hb yb d5_1) kk) ?_
  refine ob s₁ (mkF mG 7 #[oi (2 : Int32), oi c, oi d] []) (fun _ kk => XS.icmpYes X0.here hx rfl (pc0 := 2) (pc' := 7) rfl (hb yb d5_2) rfl (tlt (by decide : (1 : Int32) < (2 : Int32))).2.2.1 (by decide) (by decide) kk) ?_
  refine ob s₁ (mkF mG 8 #[oi (2 : Int32), oi c, oi d] [(.int (2 : Int32))]) (fun _ kk => XS.iloadN X0.here hx rfl (hb yb d5_7) rfl kk) ?_
  refine ob s₁ (mkF mG 9 #[oi (2 : Int32), oi c, oi d] [(.int (2 : Int32)), (.int (2 : Int32))]) (fun _ kk => XS.iconst X0.here hx rfl (hb yb d5_8) kk) ?_
  refine ob s₁ (mkF mG 12 #[oi (2 : Int32), oi c, oi d] []) (fun _ kk => XS.icmpNo X0.here hx rfl (hb yb d5_9) rfl (teq (by decide : (2 : Int32) = (2 : Int32))).2 kk) ?_
  refine ob s₁ (mkF mG 13 #[oi (2 : Int32), oi c, oi d] [(.int c)]) (fun _ kk => XS.iloadN X0.here hx rfl (hb yb d5_12) rfl kk) ?_
  obtain ⟨_, _, ⟨T1, L1, k1, n1⟩, -, X1, ⟨Lc1, hQ1, l1, y1, z1⟩, st1⟩ := Jvm.LawKit.callS X0 hx (y := (⟨"com/example/rigorous_sourcing/rigoroussourcing/domain/RecordReferenceIsEmptyPinLaw", "isWs", "(C)Z"⟩ : MethodName)) hown (mvT hZ (ow hw 85 rfl)) (mvT hZ (ow hw 86 rfl)) (mvT hZ (ow hw 2 rfl)) (mvT hZ (ow hw 87 rfl)) (by decide) (backOf (W := 0) (rm_iws l Z a0 hw [] w_instance w_A c_A zc c h0 n0 O0 hS ) hZ (ow hw 87 rfl) (ow hw 2 rfl) (by decide) (by decide)) (g := (mkF mG 13 #[oi (2 : Int32), oi c, oi d] [(.int c)])) rfl (by rw [hml]; rfl) (argsL := [(.int c)]) (rest := []) (lenOf pd_15 rfl) rfl (by show 2 * 0 + _ ≤ _; exact Nat.le_of_eq rfl) (hb yb d5_13) (fun _ _ => ⟨rfl, e0, (by decide : 0 + 0 ≤ _), (by decide : 0 + 0 ≤ _)⟩)
  dsimp only [Pt.U, Pt.locs, Pt.cells, Pt.slots] at X1 l1 y1 z1 st1 hQ1
  subst l1 y1 z1
  obtain ⟨rfl, N1q, e1⟩ := hQ1
  have N1 := Fr.app N0 N1q
  refine ob T1 (mkF mG 16 #[oi (2 : Int32), oi c, oi d] [(.int (oB (oWs c)))]) (fun _ kk => st1 _ kk) ?_
  obtain ⟨fs, hr, hrun, hended, hW, hsame⟩ := X1.leave (v := some (.int (nar .boolean (oB (oWs c))))) (fun h => by rw [Bd.returns] at h; cases h)
  refine oout (retN X1 hx (t := .boolean) Bd.returns (by simp) (hb yb d5_16) hr) hrun hended ⟨_, _, rfl, ?_, ⟨_, rfl⟩, hW, hsame.mono (by decide) (by decide)⟩
  show Q_rm_bk2 Z w_instance w_A c_A zc c d h0 n0 _ T1.heap _
  rw [e1]
  exact ⟨(congrArg (fun z => some (Value.int z)) (own_nb (oWs c))), N1, rfl⟩

theorem d5_17 : decode method_4_code 17 = .ok (.iload_n 1, 1) := by decide +kernel
theorem d5_18 : decode method_4_code 18 = .ok (.invokestatic 12, 3) := by decide +kernel
theorem d5_21 : decode method_4_code 21 = .ok (.ifCond .eq 14, 3) := by decide +kernel
theorem d5_24 : decode method_4_code 24 = .ok (.iload_n 2, 1) := by decide +kernel
theorem d5_25 : decode method_4_code 25 = .ok (.invokestatic 12, 3) := by decide +kernel
theorem d5_28 : decode method_4_code 28 = .ok (.ifCond .eq 7, 3) := by decide +kernel
theorem d5_31 : decode method_4_code 31 = .ok (.iconst 1, 1) := by decide +kernel
theorem d5_32 : decode method_4_code 32 = .ok (.goto 4, 3) := by decide +kernel
theorem d5_35 : decode method_4_code 35 = .ok (.iconst 0, 1) := by decide +kernel
theorem d5_36 : decode method_4_code 36 = .ok (.ireturn, 1) := by decide +kernel
def Q_rm_bk3 (Z : State) (w_instance : Addr) (w_A : Addr) (c_A : Cell) (zc : Int32) (c : Int32) (d : Int32) (h0 : Heap) (n0 : Nat) (v : Option Value) (h : Heap) (L : List Loc) : Prop := v = some (.int (oB (oBl (3 : Int32) c d))) ∧ Fr n0 L ∧ h = h0
set_option maxRecDepth 65536 in
set_option maxHeartbeats 40000000 in
theorem rm_bk3 (l : Launch) (Z : State) (a0 : Array Value) (hw : ∀ d ∈ tables_1, d.before a0 Z = true) (ws : List Jvm.Cond) (w_instance : Addr) (w_A : Addr) (c_A : Cell) (zc : Int32) (c : Int32) (d : Int32) (h0 : Heap) (n0 : Nat) (O0 : Old Z n0 h0) (hS : St0 Z w_instance w_A c_A zc ) :
    MetFree l (⟨"com/example/rigorous_sourcing/rigoroussourcing/domain/RecordReferenceIsEmptyPinLaw", "blank", "(ICC)Z"⟩ : MethodName) (head1 (Jvm.Cond.code (⟨"com/example/rigorous_sourcing/rigoroussourcing/domain/RecordReferenceIsEmptyPinLaw", "blank", "(ICC)Z"⟩ : MethodName) method_4_code 3 (some .boolean) :: ws) ({ frames := 1, cells := 0, slots := 0, locals := 16 } : Room)) (fun aG UG => aG = #[(.int (3 : Int32)), (.int c), (.int d)] ∧ Z.Warmed39 UG.vm ∧ UG.heap = h0) (fun _ _ _ _ _ => True) (fun _ UG oG UG' => ∃ vG LG, oG = .returned vG ∧ Q_rm_bk3 Z w_instance w_A c_A zc c d h0 n0 vG UG'.heap LG ∧ FrameEnd UG oG UG' LG ({ frames := 1, cells := 0, slots := 0, locals := 16 } : Room).cells ({ frames := 1, cells := 0, slots := 0, locals := 16 } : Room).slots) := by
  refine MetFree.of_bodySF (plainFor_of_name pn_4) hisR ?_
  intro pG eG sG mG rG bG fG cG s₁ Bd hml0 hP hK
  obtain ⟨rfl, hZ, hh⟩ := hP
  have hx := Bd.exec
  have yb := Bd.bytes
  have hml : cG.maxLocals = 3 := hml0
  have hown : sG.vm.findClass "com/example/rigorous_sourcing/rigoroussourcing/domain/RecordReferenceIsEmptyPinLaw" = some mG.cls := findClass_of_methodNamed Bd.named
  have hnm := (name_of_methodNamed Bd.named Bd.method).1
  have X0 : Stand pG l eG ({ frames := 1, cells := 0, slots := 0, locals := 16 } : Room) sG mG #[(.int (3 : Int32)), (.int c), (.int d)] bG fG cG s₁ [] 0 0 := Stand.of_body Bd
  have e0 : s₁.heap = h0 := by rw [← hh, Bd.state]; rfl
  have N0 := Fr.nil n0
  have K0 := Keep.refl h0 []
  obtain ⟨S_w_instance, E_w_instance, S_w_A, E_w_A, V_w_A, S_zc, hzc⟩ := (id hS : St0 Z w_instance w_A c_A zc )
  refine ostart (g' := (mkF mG 0 #[oi (3 : Int32), oi c, oi d] [])) (by first | (simp [entryFrame, mkF, argsToLocals, Value.category]; done) | rfl) ?_
  refine ob s₁ (mkF mG 1 #[oi (3 : Int32), oi c, oi d] [(.int (3 : Int32))]) (fun _ kk => XS.iloadN X0.here hx rfl (hb yb d5_0) rfl kk) ?_
  refine ob s₁ (mkF mG 2 #[oi (3 : Int32), oi c, oi d] [(.int (1 : Int32)), (.int (3 : Int32))]) (fun _ kk => XS.iconst X0.here hx rfl (hb yb d5_1) kk) ?_
  refine ob s₁ (mkF mG 7 #[oi (3 : Int32), oi c, oi d] []) (fun _ kk => XS.icmpYes X0.here hx rfl (pc0 := 2) (pc' := 7) rfl (hb yb d5_2) rfl (tlt (by decide : (1 : Int32) < (3 : Int32))).2.2.1 (by decide) (by decide) kk) ?_
  refine ob s₁ (mkF mG 8 #[oi (3 : Int32), oi c, oi d] [(.int (3 : Int32))]) (fun _ kk => XS.iloadN X0.here hx rfl (hb yb d5_7) rfl kk) ?_
  refine ob s₁ (mkF mG 9 #[oi (3 : Int32), oi c, oi d] [(.int (2 : Int32)), (.int (3 : Int32))]) (fun _ kk => XS.iconst X0.here hx rfl (hb yb d5_8) kk) ?_
  refine ob s₁ (mkF mG 17 #[oi (3 : Int32), oi c, oi d] []) (fun _ kk => XS.icmpYes X0.here hx rfl (pc0 := 9) (pc' := 17) rfl (hb yb d5_9) rfl (feq (by decide : ¬ ((3 : Int32) = (2 : Int32)))).2 (by decide) (by decide) kk) ?_
  refine ob s₁ (mkF mG 18 #[oi (3 : Int32), oi c, oi d] [(.int c)]) (fun _ kk => XS.iloadN X0.here hx rfl (hb yb d5_17) rfl kk) ?_
  obtain ⟨_, _, ⟨T1, L1, k1, n1⟩, -, X1, ⟨Lc1, hQ1, l1, y1, z1⟩, st1⟩ := Jvm.LawKit.callS X0 hx (y := (⟨"com/example/rigorous_sourcing/rigoroussourcing/domain/RecordReferenceIsEmptyPinLaw", "isWs", "(C)Z"⟩ : MethodName)) hown (mvT hZ (ow hw 85 rfl)) (mvT hZ (ow hw 86 rfl)) (mvT hZ (ow hw 2 rfl)) (mvT hZ (ow hw 87 rfl)) (by decide) (backOf (W := 0) (rm_iws l Z a0 hw [] w_instance w_A c_A zc c h0 n0 O0 hS ) hZ (ow hw 87 rfl) (ow hw 2 rfl) (by decide) (by decide)) (g := (mkF mG 18 #[oi (3 : Int32), oi c, oi d] [(.int c)])) rfl (by rw [hml]; rfl) (argsL := [(.int c)]) (rest := []) (lenOf pd_15 rfl) rfl (by show 2 * 0 + _ ≤ _; exact Nat.le_of_eq rfl) (hb yb d5_18) (fun _ _ => ⟨rfl, e0, (by decide : 0 + 0 ≤ _), (by decide : 0 + 0 ≤ _)⟩)
  dsimp only [Pt.U, Pt.locs, Pt.cells, Pt.slots] at X1 l1 y1 z1 st1 hQ1
  subst l1 y1 z1
  obtain ⟨rfl, N1q, e1⟩ := hQ1
  have N1 := Fr.app N0 N1q
  refine ob T1 (mkF mG 21 #[oi (3 : Int32), oi c, oi d] [(.int (oB (oWs c)))]) (fun _ kk => st1 _ kk) ?_
  by_cases hc2 : (oB (oWs c)) = (0 : Int32)
  · skip
    refine ob T1 (mkF mG 35 #[oi (3 : Int32), oi c, oi d] []) (fun _ kk => XS.ifYes X1.here hx rfl (pc0 := 21) (pc' := 35) rfl (hb yb d5_21) rfl ((if0 _ _).trans (teq hc2).1) (by decide) (by decide) kk) ?_
    refine ob T1 (mkF mG 36 #[oi (3 : Int32), oi c, oi d] [(.int (0 : Int32))]) (fun _ kk => XS.iconst X1.here hx rfl (hb yb d5_35) kk) ?_
    obtain ⟨fs, hr, hrun, hended, hW, hsame⟩ := X1.leave (v := some (.int (0 : Int32))) (fun h => by rw [Bd.returns] at h; cases h)
    refine oout (retN X1 hx (t := .boolean) Bd.returns (by simp) (hb yb d5_36) hr) hrun hended ⟨_, _, rfl, ?_, ⟨_, rfl⟩, hW, hsame.mono (by decide) (by decide)⟩
    show Q_rm_bk3 Z w_instance w_A c_A zc c d h0 n0 _ T1.heap _
    rw [e1]
    exact ⟨(congrArg (fun z => some (Value.int z)) (own_b0 (y := oWs d) hc2).symm), N1, rfl⟩
  · skip
    refine ob T1 (mkF mG 24 #[oi (3 : Int32), oi c, oi d] []) (fun _ kk => XS.ifNo X1.here hx rfl (hb yb d5_21) rfl ((if0 _ _).trans (feq hc2).1) kk) ?_
    refine ob T1 (mkF mG 25 #[oi (3 : Int32), oi c, oi d] [(.int d)]) (fun _ kk => XS.iloadN X1.here hx rfl (hb yb d5_24) rfl kk) ?_
    obtain ⟨_, _, ⟨T3, L3, k3, n3⟩, -, X3, ⟨Lc3, hQ3, l3, y3, z3⟩, st3⟩ := Jvm.LawKit.callS X1 hx (y := (⟨"com/example/rigorous_sourcing/rigoroussourcing/domain/RecordReferenceIsEmptyPinLaw", "isWs", "(C)Z"⟩ : MethodName)) hown (mvT hZ (ow hw 85 rfl)) (mvT hZ (ow hw 86 rfl)) (mvT hZ (ow hw 2 rfl)) (mvT hZ (ow hw 87 rfl)) (by decide) (backOf (W := 0) (rm_iws l Z a0 hw [] w_instance w_A c_A zc d h0 n0 O0 hS ) hZ (ow hw 87 rfl) (ow hw 2 rfl) (by decide) (by decide)) (g := (mkF mG 25 #[oi (3 : Int32), oi c, oi d] [(.int d)])) rfl (by rw [hml]; rfl) (argsL := [(.int d)]) (rest := []) (lenOf pd_15 rfl) rfl (by show 2 * 0 + _ ≤ _; exact Nat.le_of_eq rfl) (hb yb d5_25) (fun _ _ => ⟨rfl, e1, (by decide : 0 + 0 ≤ _), (by decide : 0 + 0 ≤ _)⟩)
    dsimp only [Pt.U, Pt.locs, Pt.cells, Pt.slots] at X3 l3 y3 z3 st3 hQ3
    subst l3 y3 z3
    obtain ⟨rfl, N3q, e3⟩ := hQ3
    have N3 := Fr.app N1 N3q
    refine ob T3 (mkF mG 28 #[oi (3 : Int32), oi c, oi d] [(.int (oB (oWs d)))]) (fun _ kk => st3 _ kk) ?_
    by_cases hc4 : (oB (oWs d)) = (0 : Int32)
    · skip
      refine ob T3 (mkF mG 35 #[oi (3 : Int32), oi c, oi d] []) (fun _ kk => XS.ifYes X3.here hx rfl (pc0 := 28) (pc' := 35) rfl (hb yb d5_28) rfl ((if0 _ _).trans (teq hc4).1) (by decide) (by decide) kk) ?_
      refine ob T3 (mkF mG 36 #[oi (3 : Int32), oi c, oi d] [(.int (0 : Int32))]) (fun _ kk => XS.iconst X3.here hx rfl (hb yb d5_35) kk) ?_
      obtain ⟨fs, hr, hrun, hended, hW, hsame⟩ := X3.leave (v := some (.int (0 : Int32))) (fun h => by rw [Bd.returns] at h; cases h)
      refine oout (retN X3 hx (t := .boolean) Bd.returns (by simp) (hb yb d5_36) hr) hrun hended ⟨_, _, rfl, ?_, ⟨_, rfl⟩, hW, hsame.mono (by decide) (by decide)⟩
      show Q_rm_bk3 Z w_instance w_A c_A zc c d h0 n0 _ T3.heap _
      rw [e3]
      exact ⟨(congrArg (fun z => some (Value.int z)) (own_b0' (x := oWs c) hc4).symm), N3, rfl⟩
    · skip
      refine ob T3 (mkF mG 31 #[oi (3 : Int32), oi c, oi d] []) (fun _ kk => XS.ifNo X3.here hx rfl (hb yb d5_28) rfl ((if0 _ _).trans (feq hc4).1) kk) ?_
      refine ob T3 (mkF mG 32 #[oi (3 : Int32), oi c, oi d] [(.int (1 : Int32))]) (fun _ kk => XS.iconst X3.here hx rfl (hb yb d5_31) kk) ?_
      refine ob T3 (mkF mG 36 #[oi (3 : Int32), oi c, oi d] [(.int (1 : Int32))]) (fun _ kk => XS.goto X3.here hx rfl (pc0 := 32) (pc' := 36) rfl (hb yb d5_32) (by decide) (by decide) kk) ?_
      obtain ⟨fs, hr, hrun, hended, hW, hsame⟩ := X3.leave (v := some (.int (1 : Int32))) (fun h => by rw [Bd.returns] at h; cases h)
      refine oout (retN X3 hx (t := .boolean) Bd.returns (by simp) (hb yb d5_36) hr) hrun hended ⟨_, _, rfl, ?_, ⟨_, rfl⟩, hW, hsame.mono (by decide) (by decide)⟩
      show Q_rm_bk3 Z w_instance w_A c_A zc c d h0 n0 _ T3.heap _
      rw [e3]
      exact ⟨(congrArg (fun z => some (Value.int z)) (own_b1 hc2 hc4).symm), N3, rfl⟩

def Q_rm_bkA (Z : State) (w_instance : Addr) (w_A : Addr) (c_A : Cell) (zc : Int32) (n : Int32) (c : Int32) (d : Int32) (h0 : Heap) (n0 : Nat) (v : Option Value) (h : Heap) (L : List Loc) : Prop := v = some (.int (oB (oBl n c d))) ∧ Fr n0 L ∧ h = h0
set_option maxRecDepth 65536 in
set_option maxHeartbeats 40000000 in
theorem rm_bkA (l : Launch) (Z : State) (a0 : Array Value) (hw : ∀ d ∈ tables_1, d.before a0 Z = true) (ws : List Jvm.Cond) (w_instance : Addr) (w_A : Addr) (c_A : Cell) (zc : Int32) (n : Int32) (c : Int32) (d : Int32) (h0 : Heap) (n0 : Nat) (O0 : Old Z n0 h0) (hS : St0 Z w_instance w_A c_A zc ) (hn : n = (1 : Int32) ∨ n = (2 : Int32) ∨ n = (3 : Int32)) :
    MetFree l (⟨"com/example/rigorous_sourcing/rigoroussourcing/domain/RecordReferenceIsEmptyPinLaw", "blank", "(ICC)Z"⟩ : MethodName) (head1 (Jvm.Cond.code (⟨"com/example/rigorous_sourcing/rigoroussourcing/domain/RecordReferenceIsEmptyPinLaw", "blank", "(ICC)Z"⟩ : MethodName) method_4_code 3 (some .boolean) :: ws) ({ frames := 1, cells := 0, slots := 0, locals := 16 } : Room)) (fun aG UG => aG = #[(.int n), (.int c), (.int d)] ∧ Z.Warmed39 UG.vm ∧ UG.heap = h0) (fun _ _ _ _ _ => True) (fun _ UG oG UG' => ∃ vG LG, oG = .returned vG ∧ Q_rm_bkA Z w_instance w_A c_A zc n c d h0 n0 vG UG'.heap LG ∧ FrameEnd UG oG UG' LG ({ frames := 1, cells := 0, slots := 0, locals := 16 } : Room).cells ({ frames := 1, cells := 0, slots := 0, locals := 16 } : Room).slots) := by
  rcases hn with rfl | rfl | rfl
  · exact rm_bk1 l Z a0 hw ws w_instance w_A c_A zc c d h0 n0 O0 hS
  · exact rm_bk2 l Z a0 hw ws w_instance w_A c_A zc c d h0 n0 O0 hS
  · exact rm_bk3 l Z a0 hw ws w_instance w_A c_A zc c d h0 n0 O0 hS

theorem d6_0 : decode prog_21_method_1_code 0 = .ok (.aload_n 0, 1) := by decide +kernel
theorem d6_1 : decode prog_21_method_1_code 1 = .ok (.invokespecial 1, 3) := by decide +kernel
theorem d6_4 : decode prog_21_method_1_code 4 = .ok (.aload_n 0, 1) := by decide +kernel
theorem d6_5 : decode prog_21_method_1_code 5 = .ok (.aload_n 1, 1) := by decide +kernel
theorem d6_6 : decode prog_21_method_1_code 6 = .ok (.ifnull 10, 3) := by decide +kernel
theorem d6_16 : decode prog_21_method_1_code 16 = .ok (.aconst_null, 1) := by decide +kernel
theorem d6_17 : decode prog_21_method_1_code 17 = .ok (.goto 7, 3) := by decide +kernel
theorem d6_24 : decode prog_21_method_1_code 24 = .ok (.putfield 17, 3) := by decide +kernel
theorem d6_27 : decode prog_21_method_1_code 27 = .ok (.aload_n 0, 1) := by decide +kernel
theorem d6_28 : decode prog_21_method_1_code 28 = .ok (.aload_n 2, 1) := by decide +kernel
theorem d6_29 : decode prog_21_method_1_code 29 = .ok (.ifnull 10, 3) := by decide +kernel
theorem d6_39 : decode prog_21_method_1_code 39 = .ok (.aconst_null, 1) := by decide +kernel
theorem d6_40 : decode prog_21_method_1_code 40 = .ok (.goto 7, 3) := by decide +kernel
theorem d6_47 : decode prog_21_method_1_code 47 = .ok (.putfield 23, 3) := by decide +kernel
theorem d6_50 : decode prog_21_method_1_code 50 = .ok (.return_, 1) := by decide +kernel
def Q_rm_rr00 (Z : State) (w_instance : Addr) (w_A : Addr) (c_A : Cell) (zc : Int32) (a : Addr) (u0 : Value) (u1 : Value) (h0 : Heap) (n0 : Nat) (v : Option Value) (h : Heap) (L : List Loc) : Prop := v = none ∧ Fr n0 L ∧ Keep h0 h [a] ∧ Old Z n0 h ∧ Fld Z h a "com/example/rigorous_sourcing/rigoroussourcing/domain/RecordReference" "mId" "Ljava/lang/String;" .null ∧ Fld Z h a "com/example/rigorous_sourcing/rigoroussourcing/domain/RecordReference" "mCode" "Ljava/lang/String;" .null
set_option maxRecDepth 65536 in
set_option maxHeartbeats 40000000 in
theorem rm_rr00 (l : Launch) (Z : State) (a0 : Array Value) (hw : ∀ d ∈ tables_1, d.before a0 Z = true) (ws : List Jvm.Cond) (w_instance : Addr) (w_A : Addr) (c_A : Cell) (zc : Int32) (a : Addr) (u0 : Value) (u1 : Value) (h0 : Heap) (n0 : Nat) (O0 : Old Z n0 h0) (hS : St0 Z w_instance w_A c_A zc ) (E_a : Exa Z h0 a "com/example/rigorous_sourcing/rigoroussourcing/domain/RecordReference") (F_0 : Fld Z h0 a "com/example/rigorous_sourcing/rigoroussourcing/domain/RecordReference" "mId" "Ljava/lang/String;" u0) (F_1 : Fld Z h0 a "com/example/rigorous_sourcing/rigoroussourcing/domain/RecordReference" "mCode" "Ljava/lang/String;" u1) (n_a : n0 ≤ a) :
    MetFree l (⟨"com/example/rigorous_sourcing/rigoroussourcing/domain/RecordReference", "<init>", "(Ljava/lang/String;Ljava/lang/String;)V"⟩ : MethodName) (head1 (Jvm.Cond.code (⟨"com/example/rigorous_sourcing/rigoroussourcing/domain/RecordReference", "<init>", "(Ljava/lang/String;Ljava/lang/String;)V"⟩ : MethodName) prog_21_method_1_code 3 none :: ws) ({ frames := 1, cells := 0, slots := 0, locals := 12 } : Room)) (fun aG UG => aG = #[(.ref a), .null, .null] ∧ Z.Warmed39 UG.vm ∧ UG.heap = h0) (fun _ _ _ _ _ => True) (fun _ UG oG UG' => ∃ vG LG, oG = .returned vG ∧ Q_rm_rr00 Z w_instance w_A c_A zc a u0 u1 h0 n0 vG UG'.heap LG ∧ FrameEnd UG oG UG' LG ({ frames := 1, cells := 0, slots := 0, locals := 12 } : Room).cells ({ frames := 1, cells := 0, slots := 0, locals := 12 } : Room).slots) := by
  refine MetFree.of_bodySF (plainFor_of_name pn_5) hisR ?_
  intro pG eG sG mG rG bG fG cG s₁ Bd hml0 hP hK
  obtain ⟨rfl, hZ, hh⟩ := hP
  have hx := Bd.exec
  have yb := Bd.bytes
  have hml : cG.maxLocals = 3 := hml0
  have hown : sG.vm.findClass "com/example/rigorous_sourcing/rigoroussourcing/domain/RecordReference" = some mG.cls := findClass_of_methodNamed Bd.named
  have hnm := (name_of_methodNamed Bd.named Bd.method).1
  have X0 : Stand pG l eG ({ frames := 1, cells := 0, slots := 0, locals := 12 } : Room) sG mG #[(.ref a), .null, .null] bG fG cG s₁ [] 0 0 := Stand.of_body Bd
  have e0 : s₁.heap = h0 := by rw [← hh, Bd.state]; rfl
  have N0 := Fr.nil n0
  have K0 := Keep.refl h0 [a]
  obtain ⟨S_w_instance, E_w_instance, S_w_A, E_w_A, V_w_A, S_zc, hzc⟩ := (id hS : St0 Z w_instance w_A c_A zc )
  refine ostart (g' := (mkF mG 0 #[oa a, .val .null, .val .null] [])) (by first | (simp [entryFrame, mkF, argsToLocals, Value.category]; done) | rfl) ?_
  refine ob s₁ (mkF mG 1 #[oa a, .val .null, .val .null] [(.ref a)]) (fun _ kk => XS.aloadN X0.here hx rfl (hb yb d6_0) rfl rfl kk) ?_
  obtain ⟨T1, X1, e1, st1⟩ := initO X0 hx hZ hown (ow hw 35 rfl) (ow hw 16 rfl) (ow hw 17 rfl) e0 (g := (mkF mG 1 #[oa a, .val .null, .val .null] [(.ref a)])) rfl (by rw [hml]; rfl) rfl (hb yb d6_1) (by decide) (W := 0) (by show 2 * 0 + _ ≤ _; exact Nat.le_of_eq rfl) (by decide)
  refine ob T1 (mkF mG 4 #[oa a, .val .null, .val .null] []) (fun _ kk => st1 _ kk) ?_
  refine ob T1 (mkF mG 5 #[oa a, .val .null, .val .null] [(.ref a)]) (fun _ kk => XS.aloadN X1.here hx rfl (hb yb d6_4) rfl rfl kk) ?_
  refine ob T1 (mkF mG 6 #[oa a, .val .null, .val .null] [.null, (.ref a)]) (fun _ kk => XS.aloadN X1.here hx rfl (hb yb d6_5) rfl rfl kk) ?_
  refine ob T1 (mkF mG 16 #[oa a, .val .null, .val .null] [(.ref a)]) (fun _ kk => XS.ifnullYes X1.here hx rfl (pc0 := 6) (pc' := 16) rfl (hb yb d6_6) rfl (by decide) (by decide) kk) ?_
  refine ob T1 (mkF mG 17 #[oa a, .val .null, .val .null] [.null, (.ref a)]) (fun _ kk => XS.aconstNull X1.here hx rfl (hb yb d6_16) kk) ?_
  refine ob T1 (mkF mG 24 #[oa a, .val .null, .val .null] [.null, (.ref a)]) (fun _ kk => XS.goto X1.here hx rfl (pc0 := 17) (pc' := 24) rfl (hb yb d6_17) (by decide) (by decide) kk) ?_
  obtain ⟨T2, h2, X2, e2, W2, st2⟩ := putF X1 hx hZ hown (host := "") (Or.inl (ow hw 36 rfl)) Via.refl e1 F_0 E_a (Or.inr ⟨(ow hw 37 rfl), rfl, hnm⟩) (ow hw 30 rfl) (ty := (.object "java/lang/String")) (by decide) rfl rfl (g := (mkF mG 24 #[oa a, .val .null, .val .null] [.null, (.ref a)])) rfl rfl (hb yb d6_24)
  have F2 := F_0.same W2
  have O2 := O0.wr W2 n_a
  have K2 := K0.wr W2 (Or.inl (List.mem_of_getElem? (i := 0) rfl))
  have N2 := Fr.snoc X2 N0 n_a
  refine ob T2 (mkF mG 27 #[oa a, .val .null, .val .null] []) (fun _ kk => st2 _ kk) ?_
  refine ob T2 (mkF mG 28 #[oa a, .val .null, .val .null] [(.ref a)]) (fun _ kk => XS.aloadN X2.here hx rfl (hb yb d6_27) rfl rfl kk) ?_
  refine ob T2 (mkF mG 29 #[oa a, .val .null, .val .null] [.null, (.ref a)]) (fun _ kk => XS.aloadN X2.here hx rfl (hb yb d6_28) rfl rfl kk) ?_
  refine ob T2 (mkF mG 39 #[oa a, .val .null, .val .null] [(.ref a)]) (fun _ kk => XS.ifnullYes X2.here hx rfl (pc0 := 29) (pc' := 39) rfl (hb yb d6_29) rfl (by decide) (by decide) kk) ?_
  refine ob T2 (mkF mG 40 #[oa a, .val .null, .val .null] [.null, (.ref a)]) (fun _ kk => XS.aconstNull X2.here hx rfl (hb yb d6_39) kk) ?_
  refine ob T2 (mkF mG 47 #[oa a, .val .null, .val .null] [.null, (.ref a)]) (fun _ kk => XS.goto X2.here hx rfl (pc0 := 40) (pc' := 47) rfl (hb yb d6_40) (by decide) (by decide) kk) ?_
  obtain ⟨T3, h3, X3, e3, W3, st3⟩ := putF X2 hx hZ hown (host := "") (Or.inl (ow hw 68 rfl)) Via.refl e2 (F_1.other W2 (Or.inr (slot_ne (Or.inr (ow hw 69 rfl)) (Or.inr (ow hw 37 rfl)) (by decide) (t := (.object "java/lang/String")) (t' := (.object "java/lang/String")) (by decide) (by decide)))) (E_a.wr W2) (Or.inr ⟨(ow hw 69 rfl), rfl, hnm⟩) (ow hw 30 rfl) (ty := (.object "java/lang/String")) (by decide) rfl rfl (g := (mkF mG 47 #[oa a, .val .null, .val .null] [.null, (.ref a)])) rfl rfl (hb yb d6_47)
  have F3 := (F_1.other W2 (Or.inr (slot_ne (Or.inr (ow hw 69 rfl)) (Or.inr (ow hw 37 rfl)) (by decide) (t := (.object "java/lang/String")) (t' := (.object "java/lang/String")) (by decide) (by decide)))).same W3
  have O3 := O2.wr W3 n_a
  have K3 := K2.wr W3 (Or.inl (List.mem_of_getElem? (i := 0) rfl))
  have N3 := Fr.snoc X3 N2 n_a
  refine ob T3 (mkF mG 50 #[oa a, .val .null, .val .null] []) (fun _ kk => st3 _ kk) ?_
  obtain ⟨fs, hr, hrun, hended, hW, hsame⟩ := X3.leave (v := none) (fun _ => rfl)
  refine oout (X3.returnOut hx Bd.returns (hb yb d6_50) hr) hrun hended ⟨_, _, rfl, ?_, ⟨_, rfl⟩, hW, hsame.mono (by decide) (by decide)⟩
  show Q_rm_rr00 Z w_instance w_A c_A zc a u0 u1 h0 n0 _ T3.heap _
  rw [e3]
  exact ⟨rfl, N3, K3, O3, (F2.other W3 (Or.inr (slot_ne (Or.inr (ow hw 37 rfl)) (Or.inr (ow hw 69 rfl)) (by decide) (t := (.object "java/lang/String")) (t' := (.object "java/lang/String")) (by decide) (by decide)))), F3⟩

theorem d6_32 : decode prog_21_method_1_code 32 = .ok (.aload_n 2, 1) := by decide +kernel
theorem d6_33 : decode prog_21_method_1_code 33 = .ok (.invokevirtual 7, 3) := by decide +kernel
theorem d6_36 : decode prog_21_method_1_code 36 = .ok (.ifCond .eq 7, 3) := by decide +kernel
def Q_rm_rr0T (Z : State) (w_instance : Addr) (w_A : Addr) (c_A : Cell) (zc : Int32) (a : Addr) (u0 : Value) (u1 : Value) (c : Addr) (h0 : Heap) (n0 : Nat) (v : Option Value) (h : Heap) (L : List Loc) : Prop := v = none ∧ Fr n0 L ∧ Keep h0 h [a] ∧ Old Z n0 h ∧ Fld Z h a "com/example/rigorous_sourcing/rigoroussourcing/domain/RecordReference" "mId" "Ljava/lang/String;" .null ∧ Fld Z h a "com/example/rigorous_sourcing/rigoroussourcing/domain/RecordReference" "mCode" "Ljava/lang/String;" .null
set_option maxRecDepth 65536 in
set_option maxHeartbeats 40000000 in
theorem rm_rr0T (l : Launch) (Z : State) (a0 : Array Value) (hw : ∀ d ∈ tables_1, d.before a0 Z = true) (ws : List Jvm.Cond) (w_instance : Addr) (w_A : Addr) (c_A : Cell) (zc : Int32) (a : Addr) (u0 : Value) (u1 : Value) (c : Addr) (h0 : Heap) (n0 : Nat) (O0 : Old Z n0 h0) (hS : St0 Z w_instance w_A c_A zc ) (E_a : Exa Z h0 a "com/example/rigorous_sourcing/rigoroussourcing/domain/RecordReference") (F_0 : Fld Z h0 a "com/example/rigorous_sourcing/rigoroussourcing/domain/RecordReference" "mId" "Ljava/lang/String;" u0) (F_1 : Fld Z h0 a "com/example/rigorous_sourcing/rigoroussourcing/domain/RecordReference" "mCode" "Ljava/lang/String;" u1) (E_c : Exa Z h0 c "java/lang/String") (S_c : oS Z h0 c true) (n_a : n0 ≤ a) :
    MetFree l (⟨"com/example/rigorous_sourcing/rigoroussourcing/domain/RecordReference", "<init>", "(Ljava/lang/String;Ljava/lang/String;)V"⟩ : MethodName) (head1 (Jvm.Cond.code (⟨"com/example/rigorous_sourcing/rigoroussourcing/domain/RecordReference", "<init>", "(Ljava/lang/String;Ljava/lang/String;)V"⟩ : MethodName) prog_21_method_1_code 3 none :: ws) ({ frames := 6, cells := 0, slots := 0, locals := 109 } : Room)) (fun aG UG => aG = #[(.ref a), .null, (.ref c)] ∧ Z.Warmed39 UG.vm ∧ UG.heap = h0) (fun _ _ _ _ _ => True) (fun _ UG oG UG' => ∃ vG LG, oG = .returned vG ∧ Q_rm_rr0T Z w_instance w_A c_A zc a u0 u1 c h0 n0 vG UG'.heap LG ∧ FrameEnd UG oG UG' LG ({ frames := 6, cells := 0, slots := 0, locals := 109 } : Room).cells ({ frames := 6, cells := 0, slots := 0, locals := 109 } : Room).slots) := by
  refine MetFree.of_bodySF (plainFor_of_name pn_5) hisR ?_
  intro pG eG sG mG rG bG fG cG s₁ Bd hml0 hP hK
  obtain ⟨rfl, hZ, hh⟩ := hP
  have hx := Bd.exec
  have yb := Bd.bytes
  have hml : cG.maxLocals = 3 := hml0
  have hown : sG.vm.findClass "com/example/rigorous_sourcing/rigoroussourcing/domain/RecordReference" = some mG.cls := findClass_of_methodNamed Bd.named
  have hnm := (name_of_methodNamed Bd.named Bd.method).1
  have X0 : Stand pG l eG ({ frames := 6, cells := 0, slots := 0, locals := 109 } : Room) sG mG #[(.ref a), .null, (.ref c)] bG fG cG s₁ [] 0 0 := Stand.of_body Bd
  have e0 : s₁.heap = h0 := by rw [← hh, Bd.state]; rfl
  have N0 := Fr.nil n0
  have K0 := Keep.refl h0 [a]
  obtain ⟨S_w_instance, E_w_instance, S_w_A, E_w_A, V_w_A, S_zc, hzc⟩ := (id hS : St0 Z w_instance w_A c_A zc )
  refine ostart (g' := (mkF mG 0 #[oa a, .val .null, oa c] [])) (by first | (simp [entryFrame, mkF, argsToLocals, Value.category]; done) | rfl) ?_
  refine ob s₁ (mkF mG 1 #[oa a, .val .null, oa c] [(.ref a)]) (fun _ kk => XS.aloadN X0.here hx rfl (hb yb d6_0) rfl rfl kk) ?_
  obtain ⟨T1, X1, e1, st1⟩ := initO X0 hx hZ hown (ow hw 35 rfl) (ow hw 16 rfl) (ow hw 17 rfl) e0 (g := (mkF mG 1 #[oa a, .val .null, oa c] [(.ref a)])) rfl (by rw [hml]; rfl) rfl (hb yb d6_1) (by decide) (W := 0) (by show 2 * 0 + _ ≤ _; exact Nat.le_of_eq rfl) (by decide)
  refine ob T1 (mkF mG 4 #[oa a, .val .null, oa c] []) (fun _ kk => st1 _ kk) ?_
  refine ob T1 (mkF mG 5 #[oa a, .val .null, oa c] [(.ref a)]) (fun _ kk => XS.aloadN X1.here hx rfl (hb yb d6_4) rfl rfl kk) ?_
  refine ob T1 (mkF mG 6 #[oa a, .val .null, oa c] [.null, (.ref a)]) (fun _ kk => XS.aloadN X1.here hx rfl (hb yb d6_5) rfl rfl kk) ?_
  refine ob T1 (mkF mG 16 #[oa a, .val .null, oa c] [(.ref a)]) (fun _ kk => XS.ifnullYes X1.here hx rfl (pc0 := 6) (pc' := 16) rfl (hb yb d6_6) rfl (by decide) (by decide) kk) ?_
  refine ob T1 (mkF mG 17 #[oa a, .val .null, oa c] [.null, (.ref a)]) (fun _ kk => XS.aconstNull X1.here hx rfl (hb yb d6_16) kk) ?_
  refine ob T1 (mkF mG 24 #[oa a, .val .null, oa c] [.null, (.ref a)]) (fun _ kk => XS.goto X1.here hx rfl (pc0 := 17) (pc' := 24) rfl (hb yb d6_17) (by decide) (by decide) kk) ?_
  obtain ⟨T2, h2, X2, e2, W2, st2⟩ := putF X1 hx hZ hown (host := "") (Or.inl (ow hw 36 rfl)) Via.refl e1 F_0 E_a (Or.inr ⟨(ow hw 37 rfl), rfl, hnm⟩) (ow hw 30 rfl) (ty := (.object "java/lang/String")) (by decide) rfl rfl (g := (mkF mG 24 #[oa a, .val .null, oa c] [.null, (.ref a)])) rfl rfl (hb yb d6_24)
  have F2 := F_0.same W2
  have O2 := O0.wr W2 n_a
  have K2 := K0.wr W2 (Or.inl (List.mem_of_getElem? (i := 0) rfl))
  have N2 := Fr.snoc X2 N0 n_a
  refine ob T2 (mkF mG 27 #[oa a, .val .null, oa c] []) (fun _ kk => st2 _ kk) ?_
  refine ob T2 (mkF mG 28 #[oa a, .val .null, oa c] [(.ref a)]) (fun _ kk => XS.aloadN X2.here hx rfl (hb yb d6_27) rfl rfl kk) ?_
  refine ob T2 (mkF mG 29 #[oa a, .val .null, oa c] [(.ref c), (.ref a)]) (fun _ kk => XS.aloadN X2.here hx rfl (hb yb d6_28) rfl rfl kk) ?_
  refine ob T2 (mkF mG 32 #[oa a, .val .null, oa c] [(.ref a)]) (fun _ kk => XS.ifnullNo X2.here hx rfl (hb yb d6_29) rfl kk) ?_
  refine ob T2 (mkF mG 33 #[oa a, .val .null, oa c] [(.ref c), (.ref a)]) (fun _ kk => XS.aloadN X2.here hx rfl (hb yb d6_32) rfl rfl kk) ?_
  obtain ⟨cq3, kq3, q3a, q3b, q3c⟩ := isOf hZ e2 (E_c.wr W2)
  obtain ⟨_, _, ⟨T3, L3, k3, n3⟩, -, X3, ⟨Lc3, hQ3, l3, y3, z3⟩, st3⟩ := X2.virtualBack hx (y := (⟨"java/lang/String", "isBlank", "()Z"⟩ : MethodName)) (z := (⟨"java/lang/String", "isBlank", "()Z"⟩ : MethodName)) hown (mvT hZ (ow hw 38 rfl)) (mvT hZ (ow hw 39 rfl)) (notFace_of_selects (args := #[]) (mvT hZ (ow hw 41 rfl))) (mvT hZ (ow hw 41 rfl)) (mvT hZ (ow hw 40 rfl)) (by decide) (backOf (W := 1) (rm_ibT l Z a0 hw [] w_instance w_A c_A zc c h2 n0 O2 hS (S_c.keepX (Keep.of_wr W2) E_a (by decide) (ow hw 30 rfl))) hZ (ow hw 42 rfl) (ow hw 6 rfl) (by decide) (by decide)) q3a q3c (g := (mkF mG 33 #[oa a, .val .null, oa c] [(.ref c), (.ref a)])) rfl (by rw [hml]; rfl) (Steps.refl _) (argsL := []) (rest := [(.ref a)]) (lenOf pd_2 rfl) rfl (by show 2 * 0 + _ ≤ _; exact Nat.le_of_eq rfl) (hb yb d6_33) (fun _ _ => ⟨rfl, e2, (by decide : 0 + 0 ≤ _), (by decide : 0 + 0 ≤ _)⟩)
  dsimp only [Pt.U, Pt.locs, Pt.cells, Pt.slots] at X3 l3 y3 z3 st3 hQ3
  subst l3 y3 z3
  obtain ⟨rfl, N3q, e3⟩ := hQ3
  have N3 := Fr.app N2 N3q
  refine ob T3 (mkF mG 36 #[oa a, .val .null, oa c] [(.int (1 : Int32)), (.ref a)]) (fun _ kk => st3.trans kk) ?_
  refine ob T3 (mkF mG 39 #[oa a, .val .null, oa c] [(.ref a)]) (fun _ kk => XS.ifNo X3.here hx rfl (hb yb d6_36) rfl ((if0 _ _).trans (feq (by decide : ¬ ((1 : Int32) = (0 : Int32)))).1) kk) ?_
  refine ob T3 (mkF mG 40 #[oa a, .val .null, oa c] [.null, (.ref a)]) (fun _ kk => XS.aconstNull X3.here hx rfl (hb yb d6_39) kk) ?_
  refine ob T3 (mkF mG 47 #[oa a, .val .null, oa c] [.null, (.ref a)]) (fun _ kk => XS.goto X3.here hx rfl (pc0 := 40) (pc' := 47) rfl (hb yb d6_40) (by decide) (by decide) kk) ?_
  obtain ⟨T4, h4, X4, e4, W4, st4⟩ := putF X3 hx hZ hown (host := "") (Or.inl (ow hw 68 rfl)) Via.refl e3 (F_1.other W2 (Or.inr (slot_ne (Or.inr (ow hw 69 rfl)) (Or.inr (ow hw 37 rfl)) (by decide) (t := (.object "java/lang/String")) (t' := (.object "java/lang/String")) (by decide) (by decide)))) (E_a.wr W2) (Or.inr ⟨(ow hw 69 rfl), rfl, hnm⟩) (ow hw 30 rfl) (ty := (.object "java/lang/String")) (by decide) rfl rfl (g := (mkF mG 47 #[oa a, .val .null, oa c] [.null, (.ref a)])) rfl rfl (hb yb d6_47)
  have F4 := (F_1.other W2 (Or.inr (slot_ne (Or.inr (ow hw 69 rfl)) (Or.inr (ow hw 37 rfl)) (by decide) (t := (.object "java/lang/String")) (t' := (.object "java/lang/String")) (by decide) (by decide)))).same W4
  have O4 := O2.wr W4 n_a
  have K4 := K2.wr W4 (Or.inl (List.mem_of_getElem? (i := 0) rfl))
  have N4 := Fr.snoc X4 N3 n_a
  refine ob T4 (mkF mG 50 #[oa a, .val .null, oa c] []) (fun _ kk => st4 _ kk) ?_
  obtain ⟨fs, hr, hrun, hended, hW, hsame⟩ := X4.leave (v := none) (fun _ => rfl)
  refine oout (X4.returnOut hx Bd.returns (hb yb d6_50) hr) hrun hended ⟨_, _, rfl, ?_, ⟨_, rfl⟩, hW, hsame.mono (by decide) (by decide)⟩
  show Q_rm_rr0T Z w_instance w_A c_A zc a u0 u1 c h0 n0 _ T4.heap _
  rw [e4]
  exact ⟨rfl, N4, K4, O4, (F2.other W4 (Or.inr (slot_ne (Or.inr (ow hw 37 rfl)) (Or.inr (ow hw 69 rfl)) (by decide) (t := (.object "java/lang/String")) (t' := (.object "java/lang/String")) (by decide) (by decide)))), F4⟩

theorem d6_43 : decode prog_21_method_1_code 43 = .ok (.aload_n 2, 1) := by decide +kernel
theorem d6_44 : decode prog_21_method_1_code 44 = .ok (.invokevirtual 13, 3) := by decide +kernel
theorem pd_16 : parseMethodDescriptor "()Ljava/lang/String;" = some ⟨[], some (.object "java/lang/String")⟩ := by decide +kernel
def Q_rm_rr0F (Z : State) (w_instance : Addr) (w_A : Addr) (c_A : Cell) (zc : Int32) (a : Addr) (u0 : Value) (u1 : Value) (c : Addr) (h0 : Heap) (n0 : Nat) (v : Option Value) (h : Heap) (L : List Loc) : Prop := ∃ (r1 : Addr), v = none ∧ Fr n0 L ∧ Keep h0 h [a] ∧ Old Z n0 h ∧ Fld Z h a "com/example/rigorous_sourcing/rigoroussourcing/domain/RecordReference" "mId" "Ljava/lang/String;" .null ∧ Fld Z h a "com/example/rigorous_sourcing/rigoroussourcing/domain/RecordReference" "mCode" "Ljava/lang/String;" (.ref r1)
set_option maxRecDepth 65536 in
set_option maxHeartbeats 40000000 in
theorem rm_rr0F (l : Launch) (Z : State) (a0 : Array Value) (hw : ∀ d ∈ tables_1, d.before a0 Z = true) (ws : List Jvm.Cond) (w_instance : Addr) (w_A : Addr) (c_A : Cell) (zc : Int32) (a : Addr) (u0 : Value) (u1 : Value) (c : Addr) (h0 : Heap) (n0 : Nat) (O0 : Old Z n0 h0) (hS : St0 Z w_instance w_A c_A zc ) (E_a : Exa Z h0 a "com/example/rigorous_sourcing/rigoroussourcing/domain/RecordReference") (F_0 : Fld Z h0 a "com/example/rigorous_sourcing/rigoroussourcing/domain/RecordReference" "mId" "Ljava/lang/String;" u0) (F_1 : Fld Z h0 a "com/example/rigorous_sourcing/rigoroussourcing/domain/RecordReference" "mCode" "Ljava/lang/String;" u1) (E_c : Exa Z h0 c "java/lang/String") (S_c : oS Z h0 c false) (n_a : n0 ≤ a) :
    MetFree l (⟨"com/example/rigorous_sourcing/rigoroussourcing/domain/RecordReference", "<init>", "(Ljava/lang/String;Ljava/lang/String;)V"⟩ : MethodName) (head1 (Jvm.Cond.code (⟨"com/example/rigorous_sourcing/rigoroussourcing/domain/RecordReference", "<init>", "(Ljava/lang/String;Ljava/lang/String;)V"⟩ : MethodName) prog_21_method_1_code 3 none :: ws) ({ frames := 9, cells := 2, slots := 5, locals := 164 } : Room)) (fun aG UG => aG = #[(.ref a), .null, (.ref c)] ∧ Z.Warmed39 UG.vm ∧ UG.heap = h0) (fun _ _ _ _ _ => True) (fun _ UG oG UG' => ∃ vG LG, oG = .returned vG ∧ Q_rm_rr0F Z w_instance w_A c_A zc a u0 u1 c h0 n0 vG UG'.heap LG ∧ FrameEnd UG oG UG' LG ({ frames := 9, cells := 2, slots := 5, locals := 164 } : Room).cells ({ frames := 9, cells := 2, slots := 5, locals := 164 } : Room).slots) := by
  refine MetFree.of_bodySF (plainFor_of_name pn_5) hisR ?_
  intro pG eG sG mG rG bG fG cG s₁ Bd hml0 hP hK
  obtain ⟨rfl, hZ, hh⟩ := hP
  have hx := Bd.exec
  have yb := Bd.bytes
  have hml : cG.maxLocals = 3 := hml0
  have hown : sG.vm.findClass "com/example/rigorous_sourcing/rigoroussourcing/domain/RecordReference" = some mG.cls := findClass_of_methodNamed Bd.named
  have hnm := (name_of_methodNamed Bd.named Bd.method).1
  have X0 : Stand pG l eG ({ frames := 9, cells := 2, slots := 5, locals := 164 } : Room) sG mG #[(.ref a), .null, (.ref c)] bG fG cG s₁ [] 0 0 := Stand.of_body Bd
  have e0 : s₁.heap = h0 := by rw [← hh, Bd.state]; rfl
  have N0 := Fr.nil n0
  have K0 := Keep.refl h0 [a]
  obtain ⟨S_w_instance, E_w_instance, S_w_A, E_w_A, V_w_A, S_zc, hzc⟩ := (id hS : St0 Z w_instance w_A c_A zc )
  refine ostart (g' := (mkF mG 0 #[oa a, .val .null, oa c] [])) (by first | (simp [entryFrame, mkF, argsToLocals, Value.category]; done) | rfl) ?_
  refine ob s₁ (mkF mG 1 #[oa a, .val .null, oa c] [(.ref a)]) (fun _ kk => XS.aloadN X0.here hx rfl (hb yb d6_0) rfl rfl kk) ?_
  obtain ⟨T1, X1, e1, st1⟩ := initO X0 hx hZ hown (ow hw 35 rfl) (ow hw 16 rfl) (ow hw 17 rfl) e0 (g := (mkF mG 1 #[oa a, .val .null, oa c] [(.ref a)])) rfl (by rw [hml]; rfl) rfl (hb yb d6_1) (by decide) (W := 0) (by show 2 * 0 + _ ≤ _; exact Nat.le_of_eq rfl) (by decide)
  refine ob T1 (mkF mG 4 #[oa a, .val .null, oa c] []) (fun _ kk => st1 _ kk) ?_
  refine ob T1 (mkF mG 5 #[oa a, .val .null, oa c] [(.ref a)]) (fun _ kk => XS.aloadN X1.here hx rfl (hb yb d6_4) rfl rfl kk) ?_
  refine ob T1 (mkF mG 6 #[oa a, .val .null, oa c] [.null, (.ref a)]) (fun _ kk => XS.aloadN X1.here hx rfl (hb yb d6_5) rfl rfl kk) ?_
  refine ob T1 (mkF mG 16 #[oa a, .val .null, oa c] [(.ref a)]) (fun _ kk => XS.ifnullYes X1.here hx rfl (pc0 := 6) (pc' := 16) rfl (hb yb d6_6) rfl (by decide) (by decide) kk) ?_
  refine ob T1 (mkF mG 17 #[oa a, .val .null, oa c] [.null, (.ref a)]) (fun _ kk => XS.aconstNull X1.here hx rfl (hb yb d6_16) kk) ?_
  refine ob T1 (mkF mG 24 #[oa a, .val .null, oa c] [.null, (.ref a)]) (fun _ kk => XS.goto X1.here hx rfl (pc0 := 17) (pc' := 24) rfl (hb yb d6_17) (by decide) (by decide) kk) ?_
  obtain ⟨T2, h2, X2, e2, W2, st2⟩ := putF X1 hx hZ hown (host := "") (Or.inl (ow hw 36 rfl)) Via.refl e1 F_0 E_a (Or.inr ⟨(ow hw 37 rfl), rfl, hnm⟩) (ow hw 30 rfl) (ty := (.object "java/lang/String")) (by decide) rfl rfl (g := (mkF mG 24 #[oa a, .val .null, oa c] [.null, (.ref a)])) rfl rfl (hb yb d6_24)
  have F2 := F_0.same W2
  have O2 := O0.wr W2 n_a
  have K2 := K0.wr W2 (Or.inl (List.mem_of_getElem? (i := 0) rfl))
  have N2 := Fr.snoc X2 N0 n_a
  refine ob T2 (mkF mG 27 #[oa a, .val .null, oa c] []) (fun _ kk => st2 _ kk) ?_
  refine ob T2 (mkF mG 28 #[oa a, .val .null, oa c] [(.ref a)]) (fun _ kk => XS.aloadN X2.here hx rfl (hb yb d6_27) rfl rfl kk) ?_
  refine ob T2 (mkF mG 29 #[oa a, .val .null, oa c] [(.ref c), (.ref a)]) (fun _ kk => XS.aloadN X2.here hx rfl (hb yb d6_28) rfl rfl kk) ?_
  refine ob T2 (mkF mG 32 #[oa a, .val .null, oa c] [(.ref a)]) (fun _ kk => XS.ifnullNo X2.here hx rfl (hb yb d6_29) rfl kk) ?_
  refine ob T2 (mkF mG 33 #[oa a, .val .null, oa c] [(.ref c), (.ref a)]) (fun _ kk => XS.aloadN X2.here hx rfl (hb yb d6_32) rfl rfl kk) ?_
  obtain ⟨cq3, kq3, q3a, q3b, q3c⟩ := isOf hZ e2 (E_c.wr W2)
  obtain ⟨_, _, ⟨T3, L3, k3, n3⟩, -, X3, ⟨Lc3, hQ3, l3, y3, z3⟩, st3⟩ := X2.virtualBack hx (y := (⟨"java/lang/String", "isBlank", "()Z"⟩ : MethodName)) (z := (⟨"java/lang/String", "isBlank", "()Z"⟩ : MethodName)) hown (mvT hZ (ow hw 38 rfl)) (mvT hZ (ow hw 39 rfl)) (notFace_of_selects (args := #[]) (mvT hZ (ow hw 41 rfl))) (mvT hZ (ow hw 41 rfl)) (mvT hZ (ow hw 40 rfl)) (by decide) (backOf (W := 1) (rm_ibF l Z a0 hw [] w_instance w_A c_A zc c h2 n0 O2 hS (S_c.keepX (Keep.of_wr W2) E_a (by decide) (ow hw 30 rfl))) hZ (ow hw 42 rfl) (ow hw 6 rfl) (by decide) (by decide)) q3a q3c (g := (mkF mG 33 #[oa a, .val .null, oa c] [(.ref c), (.ref a)])) rfl (by rw [hml]; rfl) (Steps.refl _) (argsL := []) (rest := [(.ref a)]) (lenOf pd_2 rfl) rfl (by show 2 * 0 + _ ≤ _; exact Nat.le_of_eq rfl) (hb yb d6_33) (fun _ _ => ⟨rfl, e2, (by decide : 0 + 0 ≤ _), (by decide : 0 + 0 ≤ _)⟩)
  dsimp only [Pt.U, Pt.locs, Pt.cells, Pt.slots] at X3 l3 y3 z3 st3 hQ3
  subst l3 y3 z3
  obtain ⟨rfl, N3q, e3⟩ := hQ3
  have N3 := Fr.app N2 N3q
  refine ob T3 (mkF mG 36 #[oa a, .val .null, oa c] [(.int (0 : Int32)), (.ref a)]) (fun _ kk => st3.trans kk) ?_
  refine ob T3 (mkF mG 43 #[oa a, .val .null, oa c] [(.ref a)]) (fun _ kk => XS.ifYes X3.here hx rfl (pc0 := 36) (pc' := 43) rfl (hb yb d6_36) rfl ((if0 _ _).trans (teq (by decide : (0 : Int32) = (0 : Int32))).1) (by decide) (by decide) kk) ?_
  refine ob T3 (mkF mG 44 #[oa a, .val .null, oa c] [(.ref c), (.ref a)]) (fun _ kk => XS.aloadN X3.here hx rfl (hb yb d6_43) rfl rfl kk) ?_
  obtain ⟨cq4, kq4, q4a, q4b, q4c⟩ := isOf hZ e3 (E_c.wr W2)
  obtain ⟨_, _, ⟨T4, L4, k4, n4⟩, -, X4, ⟨Lc4, hQ4, l4, y4, z4⟩, st4⟩ := X3.virtualBack hx (y := (⟨"java/lang/String", "strip", "()Ljava/lang/String;"⟩ : MethodName)) (z := (⟨"java/lang/String", "strip", "()Ljava/lang/String;"⟩ : MethodName)) hown (mvT hZ (ow hw 104 rfl)) (mvT hZ (ow hw 105 rfl)) (notFace_of_selects (args := #[]) (mvT hZ (ow hw 107 rfl))) (mvT hZ (ow hw 107 rfl)) (mvT hZ (ow hw 106 rfl)) (by decide) (backOf (W := 1) (rm_stF l Z a0 hw [] w_instance w_A c_A zc c h2 n0 O2 hS (S_c.keepX (Keep.of_wr W2) E_a (by decide) (ow hw 30 rfl))) hZ (ow hw 108 rfl) (ow hw 6 rfl) (by decide) (by decide)) q4a q4c (g := (mkF mG 44 #[oa a, .val .null, oa c] [(.ref c), (.ref a)])) rfl (by rw [hml]; rfl) (Steps.refl _) (argsL := []) (rest := [(.ref a)]) (lenOf pd_16 rfl) rfl (by show 2 * 0 + _ ≤ _; exact Nat.le_of_eq rfl) (hb yb d6_44) (fun _ _ => ⟨rfl, e3, (by decide : 0 + 2 ≤ _), (by decide : 0 + 5 ≤ _)⟩)
  dsimp only [Pt.U, Pt.locs, Pt.cells, Pt.slots] at X4 l4 y4 z4 st4 hQ4
  subst l4 y4 z4
  obtain ⟨h4, e4⟩ : ∃ h, T4.heap = h := ⟨_, rfl⟩
  rw [e4] at hQ4
  obtain ⟨r0_4, rfl, N4q, K4q, O4⟩ := hQ4
  have N4 := Fr.app N3 N4q
  have K4 := K2.trans K4q all0
  refine ob T4 (mkF mG 47 #[oa a, .val .null, oa c] [(.ref r0_4), (.ref a)]) (fun _ kk => st4.trans kk) ?_
  obtain ⟨T5, h5, X5, e5, W5, st5⟩ := putF X4 hx hZ hown (host := "") (Or.inl (ow hw 68 rfl)) Via.refl e4 ((F_1.other W2 (Or.inr (slot_ne (Or.inr (ow hw 69 rfl)) (Or.inr (ow hw 37 rfl)) (by decide) (t := (.object "java/lang/String")) (t' := (.object "java/lang/String")) (by decide) (by decide)))).keep K4q nin0) ((E_a.wr W2).keep K4q) (Or.inr ⟨(ow hw 69 rfl), rfl, hnm⟩) (ow hw 30 rfl) (ty := (.object "java/lang/String")) (by decide) rfl rfl (g := (mkF mG 47 #[oa a, .val .null, oa c] [(.ref r0_4), (.ref a)])) rfl rfl (hb yb d6_47)
  have F5 := ((F_1.other W2 (Or.inr (slot_ne (Or.inr (ow hw 69 rfl)) (Or.inr (ow hw 37 rfl)) (by decide) (t := (.object "java/lang/String")) (t' := (.object "java/lang/String")) (by decide) (by decide)))).keep K4q nin0).same W5
  have O5 := O4.wr W5 n_a
  have K5 := K4.wr W5 (Or.inl (List.mem_of_getElem? (i := 0) rfl))
  have N5 := Fr.snoc X5 N4 n_a
  refine ob T5 (mkF mG 50 #[oa a, .val .null, oa c] []) (fun _ kk => st5 _ kk) ?_
  obtain ⟨fs, hr, hrun, hended, hW, hsame⟩ := X5.leave (v := none) (fun _ => rfl)
  refine oout (X5.returnOut hx Bd.returns (hb yb d6_50) hr) hrun hended ⟨_, _, rfl, ?_, ⟨_, rfl⟩, hW, hsame.mono (by decide) (by decide)⟩
  show Q_rm_rr0F Z w_instance w_A c_A zc a u0 u1 c h0 n0 _ T5.heap _
  rw [e5]
  exact ⟨r0_4, rfl, N5, K5, O5, ((F2.keep K4q nin0).other W5 (Or.inr (slot_ne (Or.inr (ow hw 37 rfl)) (Or.inr (ow hw 69 rfl)) (by decide) (t := (.object "java/lang/String")) (t' := (.object "java/lang/String")) (by decide) (by decide)))), F5⟩

theorem d6_9 : decode prog_21_method_1_code 9 = .ok (.aload_n 1, 1) := by decide +kernel
theorem d6_10 : decode prog_21_method_1_code 10 = .ok (.invokevirtual 7, 3) := by decide +kernel
theorem d6_13 : decode prog_21_method_1_code 13 = .ok (.ifCond .eq 7, 3) := by decide +kernel
def Q_rm_rrT0 (Z : State) (w_instance : Addr) (w_A : Addr) (c_A : Cell) (zc : Int32) (a : Addr) (u0 : Value) (u1 : Value) (i : Addr) (h0 : Heap) (n0 : Nat) (v : Option Value) (h : Heap) (L : List Loc) : Prop := v = none ∧ Fr n0 L ∧ Keep h0 h [a] ∧ Old Z n0 h ∧ Fld Z h a "com/example/rigorous_sourcing/rigoroussourcing/domain/RecordReference" "mId" "Ljava/lang/String;" .null ∧ Fld Z h a "com/example/rigorous_sourcing/rigoroussourcing/domain/RecordReference" "mCode" "Ljava/lang/String;" .null
set_option maxRecDepth 65536 in
set_option maxHeartbeats 40000000 in
theorem rm_rrT0 (l : Launch) (Z : State) (a0 : Array Value) (hw : ∀ d ∈ tables_1, d.before a0 Z = true) (ws : List Jvm.Cond) (w_instance : Addr) (w_A : Addr) (c_A : Cell) (zc : Int32) (a : Addr) (u0 : Value) (u1 : Value) (i : Addr) (h0 : Heap) (n0 : Nat) (O0 : Old Z n0 h0) (hS : St0 Z w_instance w_A c_A zc ) (E_a : Exa Z h0 a "com/example/rigorous_sourcing/rigoroussourcing/domain/RecordReference") (F_0 : Fld Z h0 a "com/example/rigorous_sourcing/rigoroussourcing/domain/RecordReference" "mId" "Ljava/lang/String;" u0) (F_1 : Fld Z h0 a "com/example/rigorous_sourcing/rigoroussourcing/domain/RecordReference" "mCode" "Ljava/lang/String;" u1) (E_i : Exa Z h0 i "java/lang/String") (S_i : oS Z h0 i true) (n_a : n0 ≤ a) :
    MetFree l (⟨"com/example/rigorous_sourcing/rigoroussourcing/domain/RecordReference", "<init>", "(Ljava/lang/String;Ljava/lang/String;)V"⟩ : MethodName) (head1 (Jvm.Cond.code (⟨"com/example/rigorous_sourcing/rigoroussourcing/domain/RecordReference", "<init>", "(Ljava/lang/String;Ljava/lang/String;)V"⟩ : MethodName) prog_21_method_1_code 3 none :: ws) ({ frames := 6, cells := 0, slots := 0, locals := 109 } : Room)) (fun aG UG => aG = #[(.ref a), (.ref i), .null] ∧ Z.Warmed39 UG.vm ∧ UG.heap = h0) (fun _ _ _ _ _ => True) (fun _ UG oG UG' => ∃ vG LG, oG = .returned vG ∧ Q_rm_rrT0 Z w_instance w_A c_A zc a u0 u1 i h0 n0 vG UG'.heap LG ∧ FrameEnd UG oG UG' LG ({ frames := 6, cells := 0, slots := 0, locals := 109 } : Room).cells ({ frames := 6, cells := 0, slots := 0, locals := 109 } : Room).slots) := by
  refine MetFree.of_bodySF (plainFor_of_name pn_5) hisR ?_
  intro pG eG sG mG rG bG fG cG s₁ Bd hml0 hP hK
  obtain ⟨rfl, hZ, hh⟩ := hP
  have hx := Bd.exec
  have yb := Bd.bytes
  have hml : cG.maxLocals = 3 := hml0
  have hown : sG.vm.findClass "com/example/rigorous_sourcing/rigoroussourcing/domain/RecordReference" = some mG.cls := findClass_of_methodNamed Bd.named
  have hnm := (name_of_methodNamed Bd.named Bd.method).1
  have X0 : Stand pG l eG ({ frames := 6, cells := 0, slots := 0, locals := 109 } : Room) sG mG #[(.ref a), (.ref i), .null] bG fG cG s₁ [] 0 0 := Stand.of_body Bd
  have e0 : s₁.heap = h0 := by rw [← hh, Bd.state]; rfl
  have N0 := Fr.nil n0
  have K0 := Keep.refl h0 [a]
  obtain ⟨S_w_instance, E_w_instance, S_w_A, E_w_A, V_w_A, S_zc, hzc⟩ := (id hS : St0 Z w_instance w_A c_A zc )
  refine ostart (g' := (mkF mG 0 #[oa a, oa i, .val .null] [])) (by first | (simp [entryFrame, mkF, argsToLocals, Value.category]; done) | rfl) ?_
  refine ob s₁ (mkF mG 1 #[oa a, oa i, .val .null] [(.ref a)]) (fun _ kk => XS.aloadN X0.here hx rfl (hb yb d6_0) rfl rfl kk) ?_
  obtain ⟨T1, X1, e1, st1⟩ := initO X0 hx hZ hown (ow hw 35 rfl) (ow hw 16 rfl) (ow hw 17 rfl) e0 (g := (mkF mG 1 #[oa a, oa i, .val .null] [(.ref a)])) rfl (by rw [hml]; rfl) rfl (hb yb d6_1) (by decide) (W := 0) (by show 2 * 0 + _ ≤ _; exact Nat.le_of_eq rfl) (by decide)
  refine ob T1 (mkF mG 4 #[oa a, oa i, .val .null] []) (fun _ kk => st1 _ kk) ?_
  refine ob T1 (mkF mG 5 #[oa a, oa i, .val .null] [(.ref a)]) (fun _ kk => XS.aloadN X1.here hx rfl (hb yb d6_4) rfl rfl kk) ?_
  refine ob T1 (mkF mG 6 #[oa a, oa i, .val .null] [(.ref i), (.ref a)]) (fun _ kk => XS.aloadN X1.here hx rfl (hb yb d6_5) rfl rfl kk) ?_
  refine ob T1 (mkF mG 9 #[oa a, oa i, .val .null] [(.ref a)]) (fun _ kk => XS.ifnullNo X1.here hx rfl (hb yb d6_6) rfl kk) ?_
  refine ob T1 (mkF mG 10 #[oa a, oa i, .val .null] [(.ref i), (.ref a)]) (fun _ kk => XS.aloadN X1.here hx rfl (hb yb d6_9) rfl rfl kk) ?_
  obtain ⟨cq2, kq2, q2a, q2b, q2c⟩ := isOf hZ e1 E_i
  obtain ⟨_, _, ⟨T2, L2, k2, n2⟩, -, X2, ⟨Lc2, hQ2, l2, y2, z2⟩, st2⟩ := X1.virtualBack hx (y := (⟨"java/lang/String", "isBlank", "()Z"⟩ : MethodName)) (z := (⟨"java/lang/String", "isBlank", "()Z"⟩ : MethodName)) hown (mvT hZ (ow hw 38 rfl)) (mvT hZ (ow hw 39 rfl)) (notFace_of_selects (args := #[]) (mvT hZ (ow hw 41 rfl))) (mvT hZ (ow hw 41 rfl)) (mvT hZ (ow hw 40 rfl)) (by decide) (backOf (W := 1) (rm_ibT l Z a0 hw [] w_instance w_A c_A zc i h0 n0 O0 hS S_i) hZ (ow hw 42 rfl) (ow hw 6 rfl) (by decide) (by decide)) q2a q2c (g := (mkF mG 10 #[oa a, oa i, .val .null] [(.ref i), (.ref a)])) rfl (by rw [hml]; rfl) (Steps.refl _) (argsL := []) (rest := [(.ref a)]) (lenOf pd_2 rfl) rfl (by show 2 * 0 + _ ≤ _; exact Nat.le_of_eq rfl) (hb yb d6_10) (fun _ _ => ⟨rfl, e1, (by decide : 0 + 0 ≤ _), (by decide : 0 + 0 ≤ _)⟩)
  dsimp only [Pt.U, Pt.locs, Pt.cells, Pt.slots] at X2 l2 y2 z2 st2 hQ2
  subst l2 y2 z2
  obtain ⟨rfl, N2q, e2⟩ := hQ2
  have N2 := Fr.app N0 N2q
  refine ob T2 (mkF mG 13 #[oa a, oa i, .val .null] [(.int (1 : Int32)), (.ref a)]) (fun _ kk => st2.trans kk) ?_
  refine ob T2 (mkF mG 16 #[oa a, oa i, .val .null] [(.ref a)]) (fun _ kk => XS.ifNo X2.here hx rfl (hb yb d6_13) rfl ((if0 _ _).trans (feq (by decide : ¬ ((1 : Int32) = (0 : Int32)))).1) kk) ?_
  refine ob T2 (mkF mG 17 #[oa a, oa i, .val .null] [.null, (.ref a)]) (fun _ kk => XS.aconstNull X2.here hx rfl (hb yb d6_16) kk) ?_
  refine ob T2 (mkF mG 24 #[oa a, oa i, .val .null] [.null, (.ref a)]) (fun _ kk => XS.goto X2.here hx rfl (pc0 := 17) (pc' := 24) rfl (hb yb d6_17) (by decide) (by decide) kk) ?_
  obtain ⟨T3, h3, X3, e3, W3, st3⟩ := putF X2 hx hZ hown (host := "") (Or.inl (ow hw 36 rfl)) Via.refl e2 F_0 E_a (Or.inr ⟨(ow hw 37 rfl), rfl, hnm⟩) (ow hw 30 rfl) (ty := (.object "java/lang/String")) (by decide) rfl rfl (g := (mkF mG 24 #[oa a, oa i, .val .null] [.null, (.ref a)])) rfl rfl (hb yb d6_24)
  have F3 := F_0.same W3
  have O3 := O0.wr W3 n_a
  have K3 := K0.wr W3 (Or.inl (List.mem_of_getElem? (i := 0) rfl))
  have N3 := Fr.snoc X3 N2 n_a
  refine ob T3 (mkF mG 27 #[oa a, oa i, .val .null] []) (fun _ kk => st3 _ kk) ?_
  refine ob T3 (mkF mG 28 #[oa a, oa i, .val .null] [(.ref a)]) (fun _ kk => XS.aloadN X3.here hx rfl (hb yb d6_27) rfl rfl kk) ?_
  refine ob T3 (mkF mG 29 #[oa a, oa i, .val .null] [.null, (.ref a)]) (fun _ kk => XS.aloadN X3.here hx rfl (hb yb d6_28) rfl rfl kk) ?_
  refine ob T3 (mkF mG 39 #[oa a, oa i, .val .null] [(.ref a)]) (fun _ kk => XS.ifnullYes X3.here hx rfl (pc0 := 29) (pc' := 39) rfl (hb yb d6_29) rfl (by decide) (by decide) kk) ?_
  refine ob T3 (mkF mG 40 #[oa a, oa i, .val .null] [.null, (.ref a)]) (fun _ kk => XS.aconstNull X3.here hx rfl (hb yb d6_39) kk) ?_
  refine ob T3 (mkF mG 47 #[oa a, oa i, .val .null] [.null, (.ref a)]) (fun _ kk => XS.goto X3.here hx rfl (pc0 := 40) (pc' := 47) rfl (hb yb d6_40) (by decide) (by decide) kk) ?_
  obtain ⟨T4, h4, X4, e4, W4, st4⟩ := putF X3 hx hZ hown (host := "") (Or.inl (ow hw 68 rfl)) Via.refl e3 (F_1.other W3 (Or.inr (slot_ne (Or.inr (ow hw 69 rfl)) (Or.inr (ow hw 37 rfl)) (by decide) (t := (.object "java/lang/String")) (t' := (.object "java/lang/String")) (by decide) (by decide)))) (E_a.wr W3) (Or.inr ⟨(ow hw 69 rfl), rfl, hnm⟩) (ow hw 30 rfl) (ty := (.object "java/lang/String")) (by decide) rfl rfl (g := (mkF mG 47 #[oa a, oa i, .val .null] [.null, (.ref a)])) rfl rfl (hb yb d6_47)
  have F4 := (F_1.other W3 (Or.inr (slot_ne (Or.inr (ow hw 69 rfl)) (Or.inr (ow hw 37 rfl)) (by decide) (t := (.object "java/lang/String")) (t' := (.object "java/lang/String")) (by decide) (by decide)))).same W4
  have O4 := O3.wr W4 n_a
  have K4 := K3.wr W4 (Or.inl (List.mem_of_getElem? (i := 0) rfl))
  have N4 := Fr.snoc X4 N3 n_a
  refine ob T4 (mkF mG 50 #[oa a, oa i, .val .null] []) (fun _ kk => st4 _ kk) ?_
  obtain ⟨fs, hr, hrun, hended, hW, hsame⟩ := X4.leave (v := none) (fun _ => rfl)
  refine oout (X4.returnOut hx Bd.returns (hb yb d6_50) hr) hrun hended ⟨_, _, rfl, ?_, ⟨_, rfl⟩, hW, hsame.mono (by decide) (by decide)⟩
  show Q_rm_rrT0 Z w_instance w_A c_A zc a u0 u1 i h0 n0 _ T4.heap _
  rw [e4]
  exact ⟨rfl, N4, K4, O4, (F3.other W4 (Or.inr (slot_ne (Or.inr (ow hw 37 rfl)) (Or.inr (ow hw 69 rfl)) (by decide) (t := (.object "java/lang/String")) (t' := (.object "java/lang/String")) (by decide) (by decide)))), F4⟩

def Q_rm_rrTT (Z : State) (w_instance : Addr) (w_A : Addr) (c_A : Cell) (zc : Int32) (a : Addr) (u0 : Value) (u1 : Value) (i : Addr) (c : Addr) (h0 : Heap) (n0 : Nat) (v : Option Value) (h : Heap) (L : List Loc) : Prop := v = none ∧ Fr n0 L ∧ Keep h0 h [a] ∧ Old Z n0 h ∧ Fld Z h a "com/example/rigorous_sourcing/rigoroussourcing/domain/RecordReference" "mId" "Ljava/lang/String;" .null ∧ Fld Z h a "com/example/rigorous_sourcing/rigoroussourcing/domain/RecordReference" "mCode" "Ljava/lang/String;" .null
set_option maxRecDepth 65536 in
set_option maxHeartbeats 40000000 in
theorem rm_rrTT (l : Launch) (Z : State) (a0 : Array Value) (hw : ∀ d ∈ tables_1, d.before a0 Z = true) (ws : List Jvm.Cond) (w_instance : Addr) (w_A : Addr) (c_A : Cell) (zc : Int32) (a : Addr) (u0 : Value) (u1 : Value) (i : Addr) (c : Addr) (h0 : Heap) (n0 : Nat) (O0 : Old Z n0 h0) (hS : St0 Z w_instance w_A c_A zc ) (E_a : Exa Z h0 a "com/example/rigorous_sourcing/rigoroussourcing/domain/RecordReference") (F_0 : Fld Z h0 a "com/example/rigorous_sourcing/rigoroussourcing/domain/RecordReference" "mId" "Ljava/lang/String;" u0) (F_1 : Fld Z h0 a "com/example/rigorous_sourcing/rigoroussourcing/domain/RecordReference" "mCode" "Ljava/lang/String;" u1) (E_i : Exa Z h0 i "java/lang/String") (S_i : oS Z h0 i true) (E_c : Exa Z h0 c "java/lang/String") (S_c : oS Z h0 c true) (n_a : n0 ≤ a) :
    MetFree l (⟨"com/example/rigorous_sourcing/rigoroussourcing/domain/RecordReference", "<init>", "(Ljava/lang/String;Ljava/lang/String;)V"⟩ : MethodName) (head1 (Jvm.Cond.code (⟨"com/example/rigorous_sourcing/rigoroussourcing/domain/RecordReference", "<init>", "(Ljava/lang/String;Ljava/lang/String;)V"⟩ : MethodName) prog_21_method_1_code 3 none :: ws) ({ frames := 6, cells := 0, slots := 0, locals := 109 } : Room)) (fun aG UG => aG = #[(.ref a), (.ref i), (.ref c)] ∧ Z.Warmed39 UG.vm ∧ UG.heap = h0) (fun _ _ _ _ _ => True) (fun _ UG oG UG' => ∃ vG LG, oG = .returned vG ∧ Q_rm_rrTT Z w_instance w_A c_A zc a u0 u1 i c h0 n0 vG UG'.heap LG ∧ FrameEnd UG oG UG' LG ({ frames := 6, cells := 0, slots := 0, locals := 109 } : Room).cells ({ frames := 6, cells := 0, slots := 0, locals := 109 } : Room).slots) := by
  refine MetFree.of_bodySF (plainFor_of_name pn_5) hisR ?_
  intro pG eG sG mG rG bG fG cG s₁ Bd hml0 hP hK
  obtain ⟨rfl, hZ, hh⟩ := hP
  have hx := Bd.exec
  have yb := Bd.bytes
  have hml : cG.maxLocals = 3 := hml0
  have hown : sG.vm.findClass "com/example/rigorous_sourcing/rigoroussourcing/domain/RecordReference" = some mG.cls := findClass_of_methodNamed Bd.named
  have hnm := (name_of_methodNamed Bd.named Bd.method).1
  have X0 : Stand pG l eG ({ frames := 6, cells := 0, slots := 0, locals := 109 } : Room) sG mG #[(.ref a), (.ref i), (.ref c)] bG fG cG s₁ [] 0 0 := Stand.of_body Bd
  have e0 : s₁.heap = h0 := by rw [← hh, Bd.state]; rfl
  have N0 := Fr.nil n0
  have K0 := Keep.refl h0 [a]
  obtain ⟨S_w_instance, E_w_instance, S_w_A, E_w_A, V_w_A, S_zc, hzc⟩ := (id hS : St0 Z w_instance w_A c_A zc )
  refine ostart (g' := (mkF mG 0 #[oa a, oa i, oa c] [])) (by first | (simp [entryFrame, mkF, argsToLocals, Value.category]; done) | rfl) ?_
  refine ob s₁ (mkF mG 1 #[oa a, oa i, oa c] [(.ref a)]) (fun _ kk => XS.aloadN X0.here hx rfl (hb yb d6_0) rfl rfl kk) ?_
  obtain ⟨T1, X1, e1, st1⟩ := initO X0 hx hZ hown (ow hw 35 rfl) (ow hw 16 rfl) (ow hw 17 rfl) e0 (g := (mkF mG 1 #[oa a, oa i, oa c] [(.ref a)])) rfl (by rw [hml]; rfl) rfl (hb yb d6_1) (by decide) (W := 0) (by show 2 * 0 + _ ≤ _; exact Nat.le_of_eq rfl) (by decide)
  refine ob T1 (mkF mG 4 #[oa a, oa i, oa c] []) (fun _ kk => st1 _ kk) ?_
  refine ob T1 (mkF mG 5 #[oa a, oa i, oa c] [(.ref a)]) (fun _ kk => XS.aloadN X1.here hx rfl (hb yb d6_4) rfl rfl kk) ?_
  refine ob T1 (mkF mG 6 #[oa a, oa i, oa c] [(.ref i), (.ref a)]) (fun _ kk => XS.aloadN X1.here hx rfl (hb yb d6_5) rfl rfl kk) ?_
  refine ob T1 (mkF mG 9 #[oa a, oa i, oa c] [(.ref a)]) (fun _ kk => XS.ifnullNo X1.here hx rfl (hb yb d6_6) rfl kk) ?_
  refine ob T1 (mkF mG 10 #[oa a, oa i, oa c] [(.ref i), (.ref a)]) (fun _ kk => XS.aloadN X1.here hx rfl (hb yb d6_9) rfl rfl kk) ?_
  obtain ⟨cq2, kq2, q2a, q2b, q2c⟩ := isOf hZ e1 E_i
  obtain ⟨_, _, ⟨T2, L2, k2, n2⟩, -, X2, ⟨Lc2, hQ2, l2, y2, z2⟩, st2⟩ := X1.virtualBack hx (y := (⟨"java/lang/String", "isBlank", "()Z"⟩ : MethodName)) (z := (⟨"java/lang/String", "isBlank", "()Z"⟩ : MethodName)) hown (mvT hZ (ow hw 38 rfl)) (mvT hZ (ow hw 39 rfl)) (notFace_of_selects (args := #[]) (mvT hZ (ow hw 41 rfl))) (mvT hZ (ow hw 41 rfl)) (mvT hZ (ow hw 40 rfl)) (by decide) (backOf (W := 1) (rm_ibT l Z a0 hw [] w_instance w_A c_A zc i h0 n0 O0 hS S_i) hZ (ow hw 42 rfl) (ow hw 6 rfl) (by decide) (by decide)) q2a q2c (g := (mkF mG 10 #[oa a, oa i, oa c] [(.ref i), (.ref a)])) rfl (by rw [hml]; rfl) (Steps.refl _) (argsL := []) (rest := [(.ref a)]) (lenOf pd_2 rfl) rfl (by show 2 * 0 + _ ≤ _; exact Nat.le_of_eq rfl) (hb yb d6_10) (fun _ _ => ⟨rfl, e1, (by decide : 0 + 0 ≤ _), (by decide : 0 + 0 ≤ _)⟩)
  dsimp only [Pt.U, Pt.locs, Pt.cells, Pt.slots] at X2 l2 y2 z2 st2 hQ2
  subst l2 y2 z2
  obtain ⟨rfl, N2q, e2⟩ := hQ2
  have N2 := Fr.app N0 N2q
  refine ob T2 (mkF mG 13 #[oa a, oa i, oa c] [(.int (1 : Int32)), (.ref a)]) (fun _ kk => st2.trans kk) ?_
  refine ob T2 (mkF mG 16 #[oa a, oa i, oa c] [(.ref a)]) (fun _ kk => XS.ifNo X2.here hx rfl (hb yb d6_13) rfl ((if0 _ _).trans (feq (by decide : ¬ ((1 : Int32) = (0 : Int32)))).1) kk) ?_
  refine ob T2 (mkF mG 17 #[oa a, oa i, oa c] [.null, (.ref a)]) (fun _ kk => XS.aconstNull X2.here hx rfl (hb yb d6_16) kk) ?_
  refine ob T2 (mkF mG 24 #[oa a, oa i, oa c] [.null, (.ref a)]) (fun _ kk => XS.goto X2.here hx rfl (pc0 := 17) (pc' := 24) rfl (hb yb d6_17) (by decide) (by decide) kk) ?_
  obtain ⟨T3, h3, X3, e3, W3, st3⟩ := putF X2 hx hZ hown (host := "") (Or.inl (ow hw 36 rfl)) Via.refl e2 F_0 E_a (Or.inr ⟨(ow hw 37 rfl), rfl, hnm⟩) (ow hw 30 rfl) (ty := (.object "java/lang/String")) (by decide) rfl rfl (g := (mkF mG 24 #[oa a, oa i, oa c] [.null, (.ref a)])) rfl rfl (hb yb d6_24)
  have F3 := F_0.same W3
  have O3 := O0.wr W3 n_a
  have K3 := K0.wr W3 (Or.inl (List.mem_of_getElem? (i := 0) rfl))
  have N3 := Fr.snoc X3 N2 n_a
  refine ob T3 (mkF mG 27 #[oa a, oa i, oa c] []) (fun _ kk => st3 _ kk) ?_
  refine ob T3 (mkF mG 28 #[oa a, oa i, oa c] [(.ref a)]) (fun _ kk => XS.aloadN X3.here hx rfl (hb yb d6_27) rfl rfl kk) ?_
  refine ob T3 (mkF mG 29 #[oa a, oa i, oa c] [(.ref c), (.ref a)]) (fun _ kk => XS.aloadN X3.here hx rfl (hb yb d6_28) rfl rfl kk) ?_
  refine ob T3 (mkF mG 32 #[oa a, oa i, oa c] [(.ref a)]) (fun _ kk => XS.ifnullNo X3.here hx rfl (hb yb d6_29) rfl kk) ?_
  refine ob T3 (mkF mG 33 #[oa a, oa i, oa c] [(.ref c), (.ref a)]) (fun _ kk => XS.aloadN X3.here hx rfl (hb yb d6_32) rfl rfl kk) ?_
  obtain ⟨cq4, kq4, q4a, q4b, q4c⟩ := isOf hZ e3 (E_c.wr W3)
  obtain ⟨_, _, ⟨T4, L4, k4, n4⟩, -, X4, ⟨Lc4, hQ4, l4, y4, z4⟩, st4⟩ := X3.virtualBack hx (y := (⟨"java/lang/String", "isBlank", "()Z"⟩ : MethodName)) (z := (⟨"java/lang/String", "isBlank", "()Z"⟩ : MethodName)) hown (mvT hZ (ow hw 38 rfl)) (mvT hZ (ow hw 39 rfl)) (notFace_of_selects (args := #[]) (mvT hZ (ow hw 41 rfl))) (mvT hZ (ow hw 41 rfl)) (mvT hZ (ow hw 40 rfl)) (by decide) (backOf (W := 1) (rm_ibT l Z a0 hw [] w_instance w_A c_A zc c h3 n0 O3 hS (S_c.keepX (Keep.of_wr W3) E_a (by decide) (ow hw 30 rfl))) hZ (ow hw 42 rfl) (ow hw 6 rfl) (by decide) (by decide)) q4a q4c (g := (mkF mG 33 #[oa a, oa i, oa c] [(.ref c), (.ref a)])) rfl (by rw [hml]; rfl) (Steps.refl _) (argsL := []) (rest := [(.ref a)]) (lenOf pd_2 rfl) rfl (by show 2 * 0 + _ ≤ _; exact Nat.le_of_eq rfl) (hb yb d6_33) (fun _ _ => ⟨rfl, e3, (by decide : 0 + 0 ≤ _), (by decide : 0 + 0 ≤ _)⟩)
  dsimp only [Pt.U, Pt.locs, Pt.cells, Pt.slots] at X4 l4 y4 z4 st4 hQ4
  subst l4 y4 z4
  obtain ⟨rfl, N4q, e4⟩ := hQ4
  have N4 := Fr.app N3 N4q
  refine ob T4 (mkF mG 36 #[oa a, oa i, oa c] [(.int (1 : Int32)), (.ref a)]) (fun _ kk => st4.trans kk) ?_
  refine ob T4 (mkF mG 39 #[oa a, oa i, oa c] [(.ref a)]) (fun _ kk => XS.ifNo X4.here hx rfl (hb yb d6_36) rfl ((if0 _ _).trans (feq (by decide : ¬ ((1 : Int32) = (0 : Int32)))).1) kk) ?_
  refine ob T4 (mkF mG 40 #[oa a, oa i, oa c] [.null, (.ref a)]) (fun _ kk => XS.aconstNull X4.here hx rfl (hb yb d6_39) kk) ?_
  refine ob T4 (mkF mG 47 #[oa a, oa i, oa c] [.null, (.ref a)]) (fun _ kk => XS.goto X4.here hx rfl (pc0 := 40) (pc' := 47) rfl (hb yb d6_40) (by decide) (by decide) kk) ?_
  obtain ⟨T5, h5, X5, e5, W5, st5⟩ := putF X4 hx hZ hown (host := "") (Or.inl (ow hw 68 rfl)) Via.refl e4 (F_1.other W3 (Or.inr (slot_ne (Or.inr (ow hw 69 rfl)) (Or.inr (ow hw 37 rfl)) (by decide) (t := (.object "java/lang/String")) (t' := (.object "java/lang/String")) (by decide) (by decide)))) (E_a.wr W3) (Or.inr ⟨(ow hw 69 rfl), rfl, hnm⟩) (ow hw 30 rfl) (ty := (.object "java/lang/String")) (by decide) rfl rfl (g := (mkF mG 47 #[oa a, oa i, oa c] [.null, (.ref a)])) rfl rfl (hb yb d6_47)
  have F5 := (F_1.other W3 (Or.inr (slot_ne (Or.inr (ow hw 69 rfl)) (Or.inr (ow hw 37 rfl)) (by decide) (t := (.object "java/lang/String")) (t' := (.object "java/lang/String")) (by decide) (by decide)))).same W5
  have O5 := O3.wr W5 n_a
  have K5 := K3.wr W5 (Or.inl (List.mem_of_getElem? (i := 0) rfl))
  have N5 := Fr.snoc X5 N4 n_a
  refine ob T5 (mkF mG 50 #[oa a, oa i, oa c] []) (fun _ kk => st5 _ kk) ?_
  obtain ⟨fs, hr, hrun, hended, hW, hsame⟩ := X5.leave (v := none) (fun _ => rfl)
  refine oout (X5.returnOut hx Bd.returns (hb yb d6_50) hr) hrun hended ⟨_, _, rfl, ?_, ⟨_, rfl⟩, hW, hsame.mono (by decide) (by decide)⟩
  show Q_rm_rrTT Z w_instance w_A c_A zc a u0 u1 i c h0 n0 _ T5.heap _
  rw [e5]
  exact ⟨rfl, N5, K5, O5, (F3.other W5 (Or.inr (slot_ne (Or.inr (ow hw 37 rfl)) (Or.inr (ow hw 69 rfl)) (by decide) (t := (.object "java/lang/String")) (t' := (.object "java/lang/String")) (by decide) (by decide)))), F5⟩

def Q_rm_rrTF (Z : State) (w_instance : Addr) (w_A : Addr) (c_A : Cell) (zc : Int32) (a : Addr) (u0 : Value) (u1 : Value) (i : Addr) (c : Addr) (h0 : Heap) (n0 : Nat) (v : Option Value) (h : Heap) (L : List Loc) : Prop := ∃ (r1 : Addr), v = none ∧ Fr n0 L ∧ Keep h0 h [a] ∧ Old Z n0 h ∧ Fld Z h a "com/example/rigorous_sourcing/rigoroussourcing/domain/RecordReference" "mId" "Ljava/lang/String;" .null ∧ Fld Z h a "com/example/rigorous_sourcing/rigoroussourcing/domain/RecordReference" "mCode" "Ljava/lang/String;" (.ref r1)
set_option maxRecDepth 65536 in
set_option maxHeartbeats 40000000 in
theorem rm_rrTF (l : Launch) (Z : State) (a0 : Array Value) (hw : ∀ d ∈ tables_1, d.before a0 Z = true) (ws : List Jvm.Cond) (w_instance : Addr) (w_A : Addr) (c_A : Cell) (zc : Int32) (a : Addr) (u0 : Value) (u1 : Value) (i : Addr) (c : Addr) (h0 : Heap) (n0 : Nat) (O0 : Old Z n0 h0) (hS : St0 Z w_instance w_A c_A zc ) (E_a : Exa Z h0 a "com/example/rigorous_sourcing/rigoroussourcing/domain/RecordReference") (F_0 : Fld Z h0 a "com/example/rigorous_sourcing/rigoroussourcing/domain/RecordReference" "mId" "Ljava/lang/String;" u0) (F_1 : Fld Z h0 a "com/example/rigorous_sourcing/rigoroussourcing/domain/RecordReference" "mCode" "Ljava/lang/String;" u1) (E_i : Exa Z h0 i "java/lang/String") (S_i : oS Z h0 i true) (E_c : Exa Z h0 c "java/lang/String") (S_c : oS Z h0 c false) (n_a : n0 ≤ a) :
    MetFree l (⟨"com/example/rigorous_sourcing/rigoroussourcing/domain/RecordReference", "<init>", "(Ljava/lang/String;Ljava/lang/String;)V"⟩ : MethodName) (head1 (Jvm.Cond.code (⟨"com/example/rigorous_sourcing/rigoroussourcing/domain/RecordReference", "<init>", "(Ljava/lang/String;Ljava/lang/String;)V"⟩ : MethodName) prog_21_method_1_code 3 none :: ws) ({ frames := 9, cells := 2, slots := 5, locals := 164 } : Room)) (fun aG UG => aG = #[(.ref a), (.ref i), (.ref c)] ∧ Z.Warmed39 UG.vm ∧ UG.heap = h0) (fun _ _ _ _ _ => True) (fun _ UG oG UG' => ∃ vG LG, oG = .returned vG ∧ Q_rm_rrTF Z w_instance w_A c_A zc a u0 u1 i c h0 n0 vG UG'.heap LG ∧ FrameEnd UG oG UG' LG ({ frames := 9, cells := 2, slots := 5, locals := 164 } : Room).cells ({ frames := 9, cells := 2, slots := 5, locals := 164 } : Room).slots) := by
  refine MetFree.of_bodySF (plainFor_of_name pn_5) hisR ?_
  intro pG eG sG mG rG bG fG cG s₁ Bd hml0 hP hK
  obtain ⟨rfl, hZ, hh⟩ := hP
  have hx := Bd.exec
  have yb := Bd.bytes
  have hml : cG.maxLocals = 3 := hml0
  have hown : sG.vm.findClass "com/example/rigorous_sourcing/rigoroussourcing/domain/RecordReference" = some mG.cls := findClass_of_methodNamed Bd.named
  have hnm := (name_of_methodNamed Bd.named Bd.method).1
  have X0 : Stand pG l eG ({ frames := 9, cells := 2, slots := 5, locals := 164 } : Room) sG mG #[(.ref a), (.ref i), (.ref c)] bG fG cG s₁ [] 0 0 := Stand.of_body Bd
  have e0 : s₁.heap = h0 := by rw [← hh, Bd.state]; rfl
  have N0 := Fr.nil n0
  have K0 := Keep.refl h0 [a]
  obtain ⟨S_w_instance, E_w_instance, S_w_A, E_w_A, V_w_A, S_zc, hzc⟩ := (id hS : St0 Z w_instance w_A c_A zc )
  refine ostart (g' := (mkF mG 0 #[oa a, oa i, oa c] [])) (by first | (simp [entryFrame, mkF, argsToLocals, Value.category]; done) | rfl) ?_
  refine ob s₁ (mkF mG 1 #[oa a, oa i, oa c] [(.ref a)]) (fun _ kk => XS.aloadN X0.here hx rfl (hb yb d6_0) rfl rfl kk) ?_
  obtain ⟨T1, X1, e1, st1⟩ := initO X0 hx hZ hown (ow hw 35 rfl) (ow hw 16 rfl) (ow hw 17 rfl) e0 (g := (mkF mG 1 #[oa a, oa i, oa c] [(.ref a)])) rfl (by rw [hml]; rfl) rfl (hb yb d6_1) (by decide) (W := 0) (by show 2 * 0 + _ ≤ _; exact Nat.le_of_eq rfl) (by decide)
  refine ob T1 (mkF mG 4 #[oa a, oa i, oa c] []) (fun _ kk => st1 _ kk) ?_
  refine ob T1 (mkF mG 5 #[oa a, oa i, oa c] [(.ref a)]) (fun _ kk => XS.aloadN X1.here hx rfl (hb yb d6_4) rfl rfl kk) ?_
  refine ob T1 (mkF mG 6 #[oa a, oa i, oa c] [(.ref i), (.ref a)]) (fun _ kk => XS.aloadN X1.here hx rfl (hb yb d6_5) rfl rfl kk) ?_
  refine ob T1 (mkF mG 9 #[oa a, oa i, oa c] [(.ref a)]) (fun _ kk => XS.ifnullNo X1.here hx rfl (hb yb d6_6) rfl kk) ?_
  refine ob T1 (mkF mG 10 #[oa a, oa i, oa c] [(.ref i), (.ref a)]) (fun _ kk => XS.aloadN X1.here hx rfl (hb yb d6_9) rfl rfl kk) ?_
  obtain ⟨cq2, kq2, q2a, q2b, q2c⟩ := isOf hZ e1 E_i
  obtain ⟨_, _, ⟨T2, L2, k2, n2⟩, -, X2, ⟨Lc2, hQ2, l2, y2, z2⟩, st2⟩ := X1.virtualBack hx (y := (⟨"java/lang/String", "isBlank", "()Z"⟩ : MethodName)) (z := (⟨"java/lang/String", "isBlank", "()Z"⟩ : MethodName)) hown (mvT hZ (ow hw 38 rfl)) (mvT hZ (ow hw 39 rfl)) (notFace_of_selects (args := #[]) (mvT hZ (ow hw 41 rfl))) (mvT hZ (ow hw 41 rfl)) (mvT hZ (ow hw 40 rfl)) (by decide) (backOf (W := 1) (rm_ibT l Z a0 hw [] w_instance w_A c_A zc i h0 n0 O0 hS S_i) hZ (ow hw 42 rfl) (ow hw 6 rfl) (by decide) (by decide)) q2a q2c (g := (mkF mG 10 #[oa a, oa i, oa c] [(.ref i), (.ref a)])) rfl (by rw [hml]; rfl) (Steps.refl _) (argsL := []) (rest := [(.ref a)]) (lenOf pd_2 rfl) rfl (by show 2 * 0 + _ ≤ _; exact Nat.le_of_eq rfl) (hb yb d6_10) (fun _ _ => ⟨rfl, e1, (by decide : 0 + 0 ≤ _), (by decide : 0 + 0 ≤ _)⟩)
  dsimp only [Pt.U, Pt.locs, Pt.cells, Pt.slots] at X2 l2 y2 z2 st2 hQ2
  subst l2 y2 z2
  obtain ⟨rfl, N2q, e2⟩ := hQ2
  have N2 := Fr.app N0 N2q
  refine ob T2 (mkF mG 13 #[oa a, oa i, oa c] [(.int (1 : Int32)), (.ref a)]) (fun _ kk => st2.trans kk) ?_
  refine ob T2 (mkF mG 16 #[oa a, oa i, oa c] [(.ref a)]) (fun _ kk => XS.ifNo X2.here hx rfl (hb yb d6_13) rfl ((if0 _ _).trans (feq (by decide : ¬ ((1 : Int32) = (0 : Int32)))).1) kk) ?_
  refine ob T2 (mkF mG 17 #[oa a, oa i, oa c] [.null, (.ref a)]) (fun _ kk => XS.aconstNull X2.here hx rfl (hb yb d6_16) kk) ?_
  refine ob T2 (mkF mG 24 #[oa a, oa i, oa c] [.null, (.ref a)]) (fun _ kk => XS.goto X2.here hx rfl (pc0 := 17) (pc' := 24) rfl (hb yb d6_17) (by decide) (by decide) kk) ?_
  obtain ⟨T3, h3, X3, e3, W3, st3⟩ := putF X2 hx hZ hown (host := "") (Or.inl (ow hw 36 rfl)) Via.refl e2 F_0 E_a (Or.inr ⟨(ow hw 37 rfl), rfl, hnm⟩) (ow hw 30 rfl) (ty := (.object "java/lang/String")) (by decide) rfl rfl (g := (mkF mG 24 #[oa a, oa i, oa c] [.null, (.ref a)])) rfl rfl (hb yb d6_24)
  have F3 := F_0.same W3
  have O3 := O0.wr W3 n_a
  have K3 := K0.wr W3 (Or.inl (List.mem_of_getElem? (i := 0) rfl))
  have N3 := Fr.snoc X3 N2 n_a
  refine ob T3 (mkF mG 27 #[oa a, oa i, oa c] []) (fun _ kk => st3 _ kk) ?_
  refine ob T3 (mkF mG 28 #[oa a, oa i, oa c] [(.ref a)]) (fun _ kk => XS.aloadN X3.here hx rfl (hb yb d6_27) rfl rfl kk) ?_
  refine ob T3 (mkF mG 29 #[oa a, oa i, oa c] [(.ref c), (.ref a)]) (fun _ kk => XS.aloadN X3.here hx rfl (hb yb d6_28) rfl rfl kk) ?_
  refine ob T3 (mkF mG 32 #[oa a, oa i, oa c] [(.ref a)]) (fun _ kk => XS.ifnullNo X3.here hx rfl (hb yb d6_29) rfl kk) ?_
  refine ob T3 (mkF mG 33 #[oa a, oa i, oa c] [(.ref c), (.ref a)]) (fun _ kk => XS.aloadN X3.here hx rfl (hb yb d6_32) rfl rfl kk) ?_
  obtain ⟨cq4, kq4, q4a, q4b, q4c⟩ := isOf hZ e3 (E_c.wr W3)
  obtain ⟨_, _, ⟨T4, L4, k4, n4⟩, -, X4, ⟨Lc4, hQ4, l4, y4, z4⟩, st4⟩ := X3.virtualBack hx (y := (⟨"java/lang/String", "isBlank", "()Z"⟩ : MethodName)) (z := (⟨"java/lang/String", "isBlank", "()Z"⟩ : MethodName)) hown (mvT hZ (ow hw 38 rfl)) (mvT hZ (ow hw 39 rfl)) (notFace_of_selects (args := #[]) (mvT hZ (ow hw 41 rfl))) (mvT hZ (ow hw 41 rfl)) (mvT hZ (ow hw 40 rfl)) (by decide) (backOf (W := 1) (rm_ibF l Z a0 hw [] w_instance w_A c_A zc c h3 n0 O3 hS (S_c.keepX (Keep.of_wr W3) E_a (by decide) (ow hw 30 rfl))) hZ (ow hw 42 rfl) (ow hw 6 rfl) (by decide) (by decide)) q4a q4c (g := (mkF mG 33 #[oa a, oa i, oa c] [(.ref c), (.ref a)])) rfl (by rw [hml]; rfl) (Steps.refl _) (argsL := []) (rest := [(.ref a)]) (lenOf pd_2 rfl) rfl (by show 2 * 0 + _ ≤ _; exact Nat.le_of_eq rfl) (hb yb d6_33) (fun _ _ => ⟨rfl, e3, (by decide : 0 + 0 ≤ _), (by decide : 0 + 0 ≤ _)⟩)
  dsimp only [Pt.U, Pt.locs, Pt.cells, Pt.slots] at X4 l4 y4 z4 st4 hQ4
  subst l4 y4 z4
  obtain ⟨rfl, N4q, e4⟩ := hQ4
  have N4 := Fr.app N3 N4q
  refine ob T4 (mkF mG 36 #[oa a, oa i, oa c] [(.int (0 : Int32)), (.ref a)]) (fun _ kk => st4.trans kk) ?_
  refine ob T4 (mkF mG 43 #[oa a, oa i, oa c] [(.ref a)]) (fun _ kk => XS.ifYes X4.here hx rfl (pc0 := 36) (pc' := 43) rfl (hb yb d6_36) rfl ((if0 _ _).trans (teq (by decide : (0 : Int32) = (0 : Int32))).1) (by decide) (by decide) kk) ?_
  refine ob T4 (mkF mG 44 #[oa a, oa i, oa c] [(.ref c), (.ref a)]) (fun _ kk => XS.aloadN X4.here hx rfl (hb yb d6_43) rfl rfl kk) ?_
  obtain ⟨cq5, kq5, q5a, q5b, q5c⟩ := isOf hZ e4 (E_c.wr W3)
  obtain ⟨_, _, ⟨T5, L5, k5, n5⟩, -, X5, ⟨Lc5, hQ5, l5, y5, z5⟩, st5⟩ := X4.virtualBack hx (y := (⟨"java/lang/String", "strip", "()Ljava/lang/String;"⟩ : MethodName)) (z := (⟨"java/lang/String", "strip", "()Ljava/lang/String;"⟩ : MethodName)) hown (mvT hZ (ow hw 104 rfl)) (mvT hZ (ow hw 105 rfl)) (notFace_of_selects (args := #[]) (mvT hZ (ow hw 107 rfl))) (mvT hZ (ow hw 107 rfl)) (mvT hZ (ow hw 106 rfl)) (by decide) (backOf (W := 1) (rm_stF l Z a0 hw [] w_instance w_A c_A zc c h3 n0 O3 hS (S_c.keepX (Keep.of_wr W3) E_a (by decide) (ow hw 30 rfl))) hZ (ow hw 108 rfl) (ow hw 6 rfl) (by decide) (by decide)) q5a q5c (g := (mkF mG 44 #[oa a, oa i, oa c] [(.ref c), (.ref a)])) rfl (by rw [hml]; rfl) (Steps.refl _) (argsL := []) (rest := [(.ref a)]) (lenOf pd_16 rfl) rfl (by show 2 * 0 + _ ≤ _; exact Nat.le_of_eq rfl) (hb yb d6_44) (fun _ _ => ⟨rfl, e4, (by decide : 0 + 2 ≤ _), (by decide : 0 + 5 ≤ _)⟩)
  dsimp only [Pt.U, Pt.locs, Pt.cells, Pt.slots] at X5 l5 y5 z5 st5 hQ5
  subst l5 y5 z5
  obtain ⟨h5, e5⟩ : ∃ h, T5.heap = h := ⟨_, rfl⟩
  rw [e5] at hQ5
  obtain ⟨r0_5, rfl, N5q, K5q, O5⟩ := hQ5
  have N5 := Fr.app N4 N5q
  have K5 := K3.trans K5q all0
  refine ob T5 (mkF mG 47 #[oa a, oa i, oa c] [(.ref r0_5), (.ref a)]) (fun _ kk => st5.trans kk) ?_
  obtain ⟨T6, h6, X6, e6, W6, st6⟩ := putF X5 hx hZ hown (host := "") (Or.inl (ow hw 68 rfl)) Via.refl e5 ((F_1.other W3 (Or.inr (slot_ne (Or.inr (ow hw 69 rfl)) (Or.inr (ow hw 37 rfl)) (by decide) (t := (.object "java/lang/String")) (t' := (.object "java/lang/String")) (by decide) (by decide)))).keep K5q nin0) ((E_a.wr W3).keep K5q) (Or.inr ⟨(ow hw 69 rfl), rfl, hnm⟩) (ow hw 30 rfl) (ty := (.object "java/lang/String")) (by decide) rfl rfl (g := (mkF mG 47 #[oa a, oa i, oa c] [(.ref r0_5), (.ref a)])) rfl rfl (hb yb d6_47)
  have F6 := ((F_1.other W3 (Or.inr (slot_ne (Or.inr (ow hw 69 rfl)) (Or.inr (ow hw 37 rfl)) (by decide) (t := (.object "java/lang/String")) (t' := (.object "java/lang/String")) (by decide) (by decide)))).keep K5q nin0).same W6
  have O6 := O5.wr W6 n_a
  have K6 := K5.wr W6 (Or.inl (List.mem_of_getElem? (i := 0) rfl))
  have N6 := Fr.snoc X6 N5 n_a
  refine ob T6 (mkF mG 50 #[oa a, oa i, oa c] []) (fun _ kk => st6 _ kk) ?_
  obtain ⟨fs, hr, hrun, hended, hW, hsame⟩ := X6.leave (v := none) (fun _ => rfl)
  refine oout (X6.returnOut hx Bd.returns (hb yb d6_50) hr) hrun hended ⟨_, _, rfl, ?_, ⟨_, rfl⟩, hW, hsame.mono (by decide) (by decide)⟩
  show Q_rm_rrTF Z w_instance w_A c_A zc a u0 u1 i c h0 n0 _ T6.heap _
  rw [e6]
  exact ⟨r0_5, rfl, N6, K6, O6, ((F3.keep K5q nin0).other W6 (Or.inr (slot_ne (Or.inr (ow hw 37 rfl)) (Or.inr (ow hw 69 rfl)) (by decide) (t := (.object "java/lang/String")) (t' := (.object "java/lang/String")) (by decide) (by decide)))), F6⟩

theorem d6_20 : decode prog_21_method_1_code 20 = .ok (.aload_n 1, 1) := by decide +kernel
theorem d6_21 : decode prog_21_method_1_code 21 = .ok (.invokevirtual 13, 3) := by decide +kernel
def Q_rm_rrF0 (Z : State) (w_instance : Addr) (w_A : Addr) (c_A : Cell) (zc : Int32) (a : Addr) (u0 : Value) (u1 : Value) (i : Addr) (h0 : Heap) (n0 : Nat) (v : Option Value) (h : Heap) (L : List Loc) : Prop := ∃ (r0 : Addr), v = none ∧ Fr n0 L ∧ Keep h0 h [a] ∧ Old Z n0 h ∧ Fld Z h a "com/example/rigorous_sourcing/rigoroussourcing/domain/RecordReference" "mId" "Ljava/lang/String;" (.ref r0) ∧ Fld Z h a "com/example/rigorous_sourcing/rigoroussourcing/domain/RecordReference" "mCode" "Ljava/lang/String;" .null
set_option maxRecDepth 65536 in
set_option maxHeartbeats 40000000 in
theorem rm_rrF0 (l : Launch) (Z : State) (a0 : Array Value) (hw : ∀ d ∈ tables_1, d.before a0 Z = true) (ws : List Jvm.Cond) (w_instance : Addr) (w_A : Addr) (c_A : Cell) (zc : Int32) (a : Addr) (u0 : Value) (u1 : Value) (i : Addr) (h0 : Heap) (n0 : Nat) (O0 : Old Z n0 h0) (hS : St0 Z w_instance w_A c_A zc ) (E_a : Exa Z h0 a "com/example/rigorous_sourcing/rigoroussourcing/domain/RecordReference") (F_0 : Fld Z h0 a "com/example/rigorous_sourcing/rigoroussourcing/domain/RecordReference" "mId" "Ljava/lang/String;" u0) (F_1 : Fld Z h0 a "com/example/rigorous_sourcing/rigoroussourcing/domain/RecordReference" "mCode" "Ljava/lang/String;" u1) (E_i : Exa Z h0 i "java/lang/String") (S_i : oS Z h0 i false) (n_a : n0 ≤ a) :
    MetFree l (⟨"com/example/rigorous_sourcing/rigoroussourcing/domain/RecordReference", "<init>", "(Ljava/lang/String;Ljava/lang/String;)V"⟩ : MethodName) (head1 (Jvm.Cond.code (⟨"com/example/rigorous_sourcing/rigoroussourcing/domain/RecordReference", "<init>", "(Ljava/lang/String;Ljava/lang/String;)V"⟩ : MethodName) prog_21_method_1_code 3 none :: ws) ({ frames := 9, cells := 2, slots := 5, locals := 164 } : Room)) (fun aG UG => aG = #[(.ref a), (.ref i), .null] ∧ Z.Warmed39 UG.vm ∧ UG.heap = h0) (fun _ _ _ _ _ => True) (fun _ UG oG UG' => ∃ vG LG, oG = .returned vG ∧ Q_rm_rrF0 Z w_instance w_A c_A zc a u0 u1 i h0 n0 vG UG'.heap LG ∧ FrameEnd UG oG UG' LG ({ frames := 9, cells := 2, slots := 5, locals := 164 } : Room).cells ({ frames := 9, cells := 2, slots := 5, locals := 164 } : Room).slots) := by
  refine MetFree.of_bodySF (plainFor_of_name pn_5) hisR ?_
  intro pG eG sG mG rG bG fG cG s₁ Bd hml0 hP hK
  obtain ⟨rfl, hZ, hh⟩ := hP
  have hx := Bd.exec
  have yb := Bd.bytes
  have hml : cG.maxLocals = 3 := hml0
  have hown : sG.vm.findClass "com/example/rigorous_sourcing/rigoroussourcing/domain/RecordReference" = some mG.cls := findClass_of_methodNamed Bd.named
  have hnm := (name_of_methodNamed Bd.named Bd.method).1
  have X0 : Stand pG l eG ({ frames := 9, cells := 2, slots := 5, locals := 164 } : Room) sG mG #[(.ref a), (.ref i), .null] bG fG cG s₁ [] 0 0 := Stand.of_body Bd
  have e0 : s₁.heap = h0 := by rw [← hh, Bd.state]; rfl
  have N0 := Fr.nil n0
  have K0 := Keep.refl h0 [a]
  obtain ⟨S_w_instance, E_w_instance, S_w_A, E_w_A, V_w_A, S_zc, hzc⟩ := (id hS : St0 Z w_instance w_A c_A zc )
  refine ostart (g' := (mkF mG 0 #[oa a, oa i, .val .null] [])) (by first | (simp [entryFrame, mkF, argsToLocals, Value.category]; done) | rfl) ?_
  refine ob s₁ (mkF mG 1 #[oa a, oa i, .val .null] [(.ref a)]) (fun _ kk => XS.aloadN X0.here hx rfl (hb yb d6_0) rfl rfl kk) ?_
  obtain ⟨T1, X1, e1, st1⟩ := initO X0 hx hZ hown (ow hw 35 rfl) (ow hw 16 rfl) (ow hw 17 rfl) e0 (g := (mkF mG 1 #[oa a, oa i, .val .null] [(.ref a)])) rfl (by rw [hml]; rfl) rfl (hb yb d6_1) (by decide) (W := 0) (by show 2 * 0 + _ ≤ _; exact Nat.le_of_eq rfl) (by decide)
  refine ob T1 (mkF mG 4 #[oa a, oa i, .val .null] []) (fun _ kk => st1 _ kk) ?_
  refine ob T1 (mkF mG 5 #[oa a, oa i, .val .null] [(.ref a)]) (fun _ kk => XS.aloadN X1.here hx rfl (hb yb d6_4) rfl rfl kk) ?_
  refine ob T1 (mkF mG 6 #[oa a, oa i, .val .null] [(.ref i), (.ref a)]) (fun _ kk => XS.aloadN X1.here hx rfl (hb yb d6_5) rfl rfl kk) ?_
  refine ob T1 (mkF mG 9 #[oa a, oa i, .val .null] [(.ref a)]) (fun _ kk => XS.ifnullNo X1.here hx rfl (hb yb d6_6) rfl kk) ?_
  refine ob T1 (mkF mG 10 #[oa a, oa i, .val .null] [(.ref i), (.ref a)]) (fun _ kk => XS.aloadN X1.here hx rfl (hb yb d6_9) rfl rfl kk) ?_
  obtain ⟨cq2, kq2, q2a, q2b, q2c⟩ := isOf hZ e1 E_i
  obtain ⟨_, _, ⟨T2, L2, k2, n2⟩, -, X2, ⟨Lc2, hQ2, l2, y2, z2⟩, st2⟩ := X1.virtualBack hx (y := (⟨"java/lang/String", "isBlank", "()Z"⟩ : MethodName)) (z := (⟨"java/lang/String", "isBlank", "()Z"⟩ : MethodName)) hown (mvT hZ (ow hw 38 rfl)) (mvT hZ (ow hw 39 rfl)) (notFace_of_selects (args := #[]) (mvT hZ (ow hw 41 rfl))) (mvT hZ (ow hw 41 rfl)) (mvT hZ (ow hw 40 rfl)) (by decide) (backOf (W := 1) (rm_ibF l Z a0 hw [] w_instance w_A c_A zc i h0 n0 O0 hS S_i) hZ (ow hw 42 rfl) (ow hw 6 rfl) (by decide) (by decide)) q2a q2c (g := (mkF mG 10 #[oa a, oa i, .val .null] [(.ref i), (.ref a)])) rfl (by rw [hml]; rfl) (Steps.refl _) (argsL := []) (rest := [(.ref a)]) (lenOf pd_2 rfl) rfl (by show 2 * 0 + _ ≤ _; exact Nat.le_of_eq rfl) (hb yb d6_10) (fun _ _ => ⟨rfl, e1, (by decide : 0 + 0 ≤ _), (by decide : 0 + 0 ≤ _)⟩)
  dsimp only [Pt.U, Pt.locs, Pt.cells, Pt.slots] at X2 l2 y2 z2 st2 hQ2
  subst l2 y2 z2
  obtain ⟨rfl, N2q, e2⟩ := hQ2
  have N2 := Fr.app N0 N2q
  refine ob T2 (mkF mG 13 #[oa a, oa i, .val .null] [(.int (0 : Int32)), (.ref a)]) (fun _ kk => st2.trans kk) ?_
  refine ob T2 (mkF mG 20 #[oa a, oa i, .val .null] [(.ref a)]) (fun _ kk => XS.ifYes X2.here hx rfl (pc0 := 13) (pc' := 20) rfl (hb yb d6_13) rfl ((if0 _ _).trans (teq (by decide : (0 : Int32) = (0 : Int32))).1) (by decide) (by decide) kk) ?_
  refine ob T2 (mkF mG 21 #[oa a, oa i, .val .null] [(.ref i), (.ref a)]) (fun _ kk => XS.aloadN X2.here hx rfl (hb yb d6_20) rfl rfl kk) ?_
  obtain ⟨cq3, kq3, q3a, q3b, q3c⟩ := isOf hZ e2 E_i
  obtain ⟨_, _, ⟨T3, L3, k3, n3⟩, -, X3, ⟨Lc3, hQ3, l3, y3, z3⟩, st3⟩ := X2.virtualBack hx (y := (⟨"java/lang/String", "strip", "()Ljava/lang/String;"⟩ : MethodName)) (z := (⟨"java/lang/String", "strip", "()Ljava/lang/String;"⟩ : MethodName)) hown (mvT hZ (ow hw 104 rfl)) (mvT hZ (ow hw 105 rfl)) (notFace_of_selects (args := #[]) (mvT hZ (ow hw 107 rfl))) (mvT hZ (ow hw 107 rfl)) (mvT hZ (ow hw 106 rfl)) (by decide) (backOf (W := 1) (rm_stF l Z a0 hw [] w_instance w_A c_A zc i h0 n0 O0 hS S_i) hZ (ow hw 108 rfl) (ow hw 6 rfl) (by decide) (by decide)) q3a q3c (g := (mkF mG 21 #[oa a, oa i, .val .null] [(.ref i), (.ref a)])) rfl (by rw [hml]; rfl) (Steps.refl _) (argsL := []) (rest := [(.ref a)]) (lenOf pd_16 rfl) rfl (by show 2 * 0 + _ ≤ _; exact Nat.le_of_eq rfl) (hb yb d6_21) (fun _ _ => ⟨rfl, e2, (by decide : 0 + 2 ≤ _), (by decide : 0 + 5 ≤ _)⟩)
  dsimp only [Pt.U, Pt.locs, Pt.cells, Pt.slots] at X3 l3 y3 z3 st3 hQ3
  subst l3 y3 z3
  obtain ⟨h3, e3⟩ : ∃ h, T3.heap = h := ⟨_, rfl⟩
  rw [e3] at hQ3
  obtain ⟨r0_3, rfl, N3q, K3q, O3⟩ := hQ3
  have N3 := Fr.app N2 N3q
  have K3 := K0.trans K3q all0
  refine ob T3 (mkF mG 24 #[oa a, oa i, .val .null] [(.ref r0_3), (.ref a)]) (fun _ kk => st3.trans kk) ?_
  obtain ⟨T4, h4, X4, e4, W4, st4⟩ := putF X3 hx hZ hown (host := "") (Or.inl (ow hw 36 rfl)) Via.refl e3 (F_0.keep K3q nin0) (E_a.keep K3q) (Or.inr ⟨(ow hw 37 rfl), rfl, hnm⟩) (ow hw 30 rfl) (ty := (.object "java/lang/String")) (by decide) rfl rfl (g := (mkF mG 24 #[oa a, oa i, .val .null] [(.ref r0_3), (.ref a)])) rfl rfl (hb yb d6_24)
  have F4 := (F_0.keep K3q nin0).same W4
  have O4 := O3.wr W4 n_a
  have K4 := K3.wr W4 (Or.inl (List.mem_of_getElem? (i := 0) rfl))
  have N4 := Fr.snoc X4 N3 n_a
  refine ob T4 (mkF mG 27 #[oa a, oa i, .val .null] []) (fun _ kk => st4 _ kk) ?_
  refine ob T4 (mkF mG 28 #[oa a, oa i, .val .null] [(.ref a)]) (fun _ kk => XS.aloadN X4.here hx rfl (hb yb d6_27) rfl rfl kk) ?_
  refine ob T4 (mkF mG 29 #[oa a, oa i, .val .null] [.null, (.ref a)]) (fun _ kk => XS.aloadN X4.here hx rfl (hb yb d6_28) rfl rfl kk) ?_
  refine ob T4 (mkF mG 39 #[oa a, oa i, .val .null] [(.ref a)]) (fun _ kk => XS.ifnullYes X4.here hx rfl (pc0 := 29) (pc' := 39) rfl (hb yb d6_29) rfl (by decide) (by decide) kk) ?_
  refine ob T4 (mkF mG 40 #[oa a, oa i, .val .null] [.null, (.ref a)]) (fun _ kk => XS.aconstNull X4.here hx rfl (hb yb d6_39) kk) ?_
  refine ob T4 (mkF mG 47 #[oa a, oa i, .val .null] [.null, (.ref a)]) (fun _ kk => XS.goto X4.here hx rfl (pc0 := 40) (pc' := 47) rfl (hb yb d6_40) (by decide) (by decide) kk) ?_
  obtain ⟨T5, h5, X5, e5, W5, st5⟩ := putF X4 hx hZ hown (host := "") (Or.inl (ow hw 68 rfl)) Via.refl e4 ((F_1.keep K3q nin0).other W4 (Or.inr (slot_ne (Or.inr (ow hw 69 rfl)) (Or.inr (ow hw 37 rfl)) (by decide) (t := (.object "java/lang/String")) (t' := (.object "java/lang/String")) (by decide) (by decide)))) ((E_a.keep K3q).wr W4) (Or.inr ⟨(ow hw 69 rfl), rfl, hnm⟩) (ow hw 30 rfl) (ty := (.object "java/lang/String")) (by decide) rfl rfl (g := (mkF mG 47 #[oa a, oa i, .val .null] [.null, (.ref a)])) rfl rfl (hb yb d6_47)
  have F5 := ((F_1.keep K3q nin0).other W4 (Or.inr (slot_ne (Or.inr (ow hw 69 rfl)) (Or.inr (ow hw 37 rfl)) (by decide) (t := (.object "java/lang/String")) (t' := (.object "java/lang/String")) (by decide) (by decide)))).same W5
  have O5 := O4.wr W5 n_a
  have K5 := K4.wr W5 (Or.inl (List.mem_of_getElem? (i := 0) rfl))
  have N5 := Fr.snoc X5 N4 n_a
  refine ob T5 (mkF mG 50 #[oa a, oa i, .val .null] []) (fun _ kk => st5 _ kk) ?_
  obtain ⟨fs, hr, hrun, hended, hW, hsame⟩ := X5.leave (v := none) (fun _ => rfl)
  refine oout (X5.returnOut hx Bd.returns (hb yb d6_50) hr) hrun hended ⟨_, _, rfl, ?_, ⟨_, rfl⟩, hW, hsame.mono (by decide) (by decide)⟩
  show Q_rm_rrF0 Z w_instance w_A c_A zc a u0 u1 i h0 n0 _ T5.heap _
  rw [e5]
  exact ⟨r0_3, rfl, N5, K5, O5, (F4.other W5 (Or.inr (slot_ne (Or.inr (ow hw 37 rfl)) (Or.inr (ow hw 69 rfl)) (by decide) (t := (.object "java/lang/String")) (t' := (.object "java/lang/String")) (by decide) (by decide)))), F5⟩

def Q_rm_rrFT (Z : State) (w_instance : Addr) (w_A : Addr) (c_A : Cell) (zc : Int32) (a : Addr) (u0 : Value) (u1 : Value) (i : Addr) (c : Addr) (h0 : Heap) (n0 : Nat) (v : Option Value) (h : Heap) (L : List Loc) : Prop := ∃ (r0 : Addr), v = none ∧ Fr n0 L ∧ Keep h0 h [a] ∧ Old Z n0 h ∧ Fld Z h a "com/example/rigorous_sourcing/rigoroussourcing/domain/RecordReference" "mId" "Ljava/lang/String;" (.ref r0) ∧ Fld Z h a "com/example/rigorous_sourcing/rigoroussourcing/domain/RecordReference" "mCode" "Ljava/lang/String;" .null
set_option maxRecDepth 65536 in
set_option maxHeartbeats 40000000 in
theorem rm_rrFT (l : Launch) (Z : State) (a0 : Array Value) (hw : ∀ d ∈ tables_1, d.before a0 Z = true) (ws : List Jvm.Cond) (w_instance : Addr) (w_A : Addr) (c_A : Cell) (zc : Int32) (a : Addr) (u0 : Value) (u1 : Value) (i : Addr) (c : Addr) (h0 : Heap) (n0 : Nat) (O0 : Old Z n0 h0) (hS : St0 Z w_instance w_A c_A zc ) (E_a : Exa Z h0 a "com/example/rigorous_sourcing/rigoroussourcing/domain/RecordReference") (F_0 : Fld Z h0 a "com/example/rigorous_sourcing/rigoroussourcing/domain/RecordReference" "mId" "Ljava/lang/String;" u0) (F_1 : Fld Z h0 a "com/example/rigorous_sourcing/rigoroussourcing/domain/RecordReference" "mCode" "Ljava/lang/String;" u1) (E_i : Exa Z h0 i "java/lang/String") (S_i : oS Z h0 i false) (E_c : Exa Z h0 c "java/lang/String") (S_c : oS Z h0 c true) (n_a : n0 ≤ a) :
    MetFree l (⟨"com/example/rigorous_sourcing/rigoroussourcing/domain/RecordReference", "<init>", "(Ljava/lang/String;Ljava/lang/String;)V"⟩ : MethodName) (head1 (Jvm.Cond.code (⟨"com/example/rigorous_sourcing/rigoroussourcing/domain/RecordReference", "<init>", "(Ljava/lang/String;Ljava/lang/String;)V"⟩ : MethodName) prog_21_method_1_code 3 none :: ws) ({ frames := 9, cells := 2, slots := 5, locals := 164 } : Room)) (fun aG UG => aG = #[(.ref a), (.ref i), (.ref c)] ∧ Z.Warmed39 UG.vm ∧ UG.heap = h0) (fun _ _ _ _ _ => True) (fun _ UG oG UG' => ∃ vG LG, oG = .returned vG ∧ Q_rm_rrFT Z w_instance w_A c_A zc a u0 u1 i c h0 n0 vG UG'.heap LG ∧ FrameEnd UG oG UG' LG ({ frames := 9, cells := 2, slots := 5, locals := 164 } : Room).cells ({ frames := 9, cells := 2, slots := 5, locals := 164 } : Room).slots) := by
  refine MetFree.of_bodySF (plainFor_of_name pn_5) hisR ?_
  intro pG eG sG mG rG bG fG cG s₁ Bd hml0 hP hK
  obtain ⟨rfl, hZ, hh⟩ := hP
  have hx := Bd.exec
  have yb := Bd.bytes
  have hml : cG.maxLocals = 3 := hml0
  have hown : sG.vm.findClass "com/example/rigorous_sourcing/rigoroussourcing/domain/RecordReference" = some mG.cls := findClass_of_methodNamed Bd.named
  have hnm := (name_of_methodNamed Bd.named Bd.method).1
  have X0 : Stand pG l eG ({ frames := 9, cells := 2, slots := 5, locals := 164 } : Room) sG mG #[(.ref a), (.ref i), (.ref c)] bG fG cG s₁ [] 0 0 := Stand.of_body Bd
  have e0 : s₁.heap = h0 := by rw [← hh, Bd.state]; rfl
  have N0 := Fr.nil n0
  have K0 := Keep.refl h0 [a]
  obtain ⟨S_w_instance, E_w_instance, S_w_A, E_w_A, V_w_A, S_zc, hzc⟩ := (id hS : St0 Z w_instance w_A c_A zc )
  refine ostart (g' := (mkF mG 0 #[oa a, oa i, oa c] [])) (by first | (simp [entryFrame, mkF, argsToLocals, Value.category]; done) | rfl) ?_
  refine ob s₁ (mkF mG 1 #[oa a, oa i, oa c] [(.ref a)]) (fun _ kk => XS.aloadN X0.here hx rfl (hb yb d6_0) rfl rfl kk) ?_
  obtain ⟨T1, X1, e1, st1⟩ := initO X0 hx hZ hown (ow hw 35 rfl) (ow hw 16 rfl) (ow hw 17 rfl) e0 (g := (mkF mG 1 #[oa a, oa i, oa c] [(.ref a)])) rfl (by rw [hml]; rfl) rfl (hb yb d6_1) (by decide) (W := 0) (by show 2 * 0 + _ ≤ _; exact Nat.le_of_eq rfl) (by decide)
  refine ob T1 (mkF mG 4 #[oa a, oa i, oa c] []) (fun _ kk => st1 _ kk) ?_
  refine ob T1 (mkF mG 5 #[oa a, oa i, oa c] [(.ref a)]) (fun _ kk => XS.aloadN X1.here hx rfl (hb yb d6_4) rfl rfl kk) ?_
  refine ob T1 (mkF mG 6 #[oa a, oa i, oa c] [(.ref i), (.ref a)]) (fun _ kk => XS.aloadN X1.here hx rfl (hb yb d6_5) rfl rfl kk) ?_
  refine ob T1 (mkF mG 9 #[oa a, oa i, oa c] [(.ref a)]) (fun _ kk => XS.ifnullNo X1.here hx rfl (hb yb d6_6) rfl kk) ?_
  refine ob T1 (mkF mG 10 #[oa a, oa i, oa c] [(.ref i), (.ref a)]) (fun _ kk => XS.aloadN X1.here hx rfl (hb yb d6_9) rfl rfl kk) ?_
  obtain ⟨cq2, kq2, q2a, q2b, q2c⟩ := isOf hZ e1 E_i
  obtain ⟨_, _, ⟨T2, L2, k2, n2⟩, -, X2, ⟨Lc2, hQ2, l2, y2, z2⟩, st2⟩ := X1.virtualBack hx (y := (⟨"java/lang/String", "isBlank", "()Z"⟩ : MethodName)) (z := (⟨"java/lang/String", "isBlank", "()Z"⟩ : MethodName)) hown (mvT hZ (ow hw 38 rfl)) (mvT hZ (ow hw 39 rfl)) (notFace_of_selects (args := #[]) (mvT hZ (ow hw 41 rfl))) (mvT hZ (ow hw 41 rfl)) (mvT hZ (ow hw 40 rfl)) (by decide) (backOf (W := 1) (rm_ibF l Z a0 hw [] w_instance w_A c_A zc i h0 n0 O0 hS S_i) hZ (ow hw 42 rfl) (ow hw 6 rfl) (by decide) (by decide)) q2a q2c (g := (mkF mG 10 #[oa a, oa i, oa c] [(.ref i), (.ref a)])) rfl (by rw [hml]; rfl) (Steps.refl _) (argsL := []) (rest := [(.ref a)]) (lenOf pd_2 rfl) rfl (by show 2 * 0 + _ ≤ _; exact Nat.le_of_eq rfl) (hb yb d6_10) (fun _ _ => ⟨rfl, e1, (by decide : 0 + 0 ≤ _), (by decide : 0 + 0 ≤ _)⟩)
  dsimp only [Pt.U, Pt.locs, Pt.cells, Pt.slots] at X2 l2 y2 z2 st2 hQ2
  subst l2 y2 z2
  obtain ⟨rfl, N2q, e2⟩ := hQ2
  have N2 := Fr.app N0 N2q
  refine ob T2 (mkF mG 13 #[oa a, oa i, oa c] [(.int (0 : Int32)), (.ref a)]) (fun _ kk => st2.trans kk) ?_
  refine ob T2 (mkF mG 20 #[oa a, oa i, oa c] [(.ref a)]) (fun _ kk => XS.ifYes X2.here hx rfl (pc0 := 13) (pc' := 20) rfl (hb yb d6_13) rfl ((if0 _ _).trans (teq (by decide : (0 : Int32) = (0 : Int32))).1) (by decide) (by decide) kk) ?_
  refine ob T2 (mkF mG 21 #[oa a, oa i, oa c] [(.ref i), (.ref a)]) (fun _ kk => XS.aloadN X2.here hx rfl (hb yb d6_20) rfl rfl kk) ?_
  obtain ⟨cq3, kq3, q3a, q3b, q3c⟩ := isOf hZ e2 E_i
  obtain ⟨_, _, ⟨T3, L3, k3, n3⟩, -, X3, ⟨Lc3, hQ3, l3, y3, z3⟩, st3⟩ := X2.virtualBack hx (y := (⟨"java/lang/String", "strip", "()Ljava/lang/String;"⟩ : MethodName)) (z := (⟨"java/lang/String", "strip", "()Ljava/lang/String;"⟩ : MethodName)) hown (mvT hZ (ow hw 104 rfl)) (mvT hZ (ow hw 105 rfl)) (notFace_of_selects (args := #[]) (mvT hZ (ow hw 107 rfl))) (mvT hZ (ow hw 107 rfl)) (mvT hZ (ow hw 106 rfl)) (by decide) (backOf (W := 1) (rm_stF l Z a0 hw [] w_instance w_A c_A zc i h0 n0 O0 hS S_i) hZ (ow hw 108 rfl) (ow hw 6 rfl) (by decide) (by decide)) q3a q3c (g := (mkF mG 21 #[oa a, oa i, oa c] [(.ref i), (.ref a)])) rfl (by rw [hml]; rfl) (Steps.refl _) (argsL := []) (rest := [(.ref a)]) (lenOf pd_16 rfl) rfl (by show 2 * 0 + _ ≤ _; exact Nat.le_of_eq rfl) (hb yb d6_21) (fun _ _ => ⟨rfl, e2, (by decide : 0 + 2 ≤ _), (by decide : 0 + 5 ≤ _)⟩)
  dsimp only [Pt.U, Pt.locs, Pt.cells, Pt.slots] at X3 l3 y3 z3 st3 hQ3
  subst l3 y3 z3
  obtain ⟨h3, e3⟩ : ∃ h, T3.heap = h := ⟨_, rfl⟩
  rw [e3] at hQ3
  obtain ⟨r0_3, rfl, N3q, K3q, O3⟩ := hQ3
  have N3 := Fr.app N2 N3q
  have K3 := K0.trans K3q all0
  refine ob T3 (mkF mG 24 #[oa a, oa i, oa c] [(.ref r0_3), (.ref a)]) (fun _ kk => st3.trans kk) ?_
  obtain ⟨T4, h4, X4, e4, W4, st4⟩ := putF X3 hx hZ hown (host := "") (Or.inl (ow hw 36 rfl)) Via.refl e3 (F_0.keep K3q nin0) (E_a.keep K3q) (Or.inr ⟨(ow hw 37 rfl), rfl, hnm⟩) (ow hw 30 rfl) (ty := (.object "java/lang/String")) (by decide) rfl rfl (g := (mkF mG 24 #[oa a, oa i, oa c] [(.ref r0_3), (.ref a)])) rfl rfl (hb yb d6_24)
  have F4 := (F_0.keep K3q nin0).same W4
  have O4 := O3.wr W4 n_a
  have K4 := K3.wr W4 (Or.inl (List.mem_of_getElem? (i := 0) rfl))
  have N4 := Fr.snoc X4 N3 n_a
  refine ob T4 (mkF mG 27 #[oa a, oa i, oa c] []) (fun _ kk => st4 _ kk) ?_
  refine ob T4 (mkF mG 28 #[oa a, oa i, oa c] [(.ref a)]) (fun _ kk => XS.aloadN X4.here hx rfl (hb yb d6_27) rfl rfl kk) ?_
  refine ob T4 (mkF mG 29 #[oa a, oa i, oa c] [(.ref c), (.ref a)]) (fun _ kk => XS.aloadN X4.here hx rfl (hb yb d6_28) rfl rfl kk) ?_
  refine ob T4 (mkF mG 32 #[oa a, oa i, oa c] [(.ref a)]) (fun _ kk => XS.ifnullNo X4.here hx rfl (hb yb d6_29) rfl kk) ?_
  refine ob T4 (mkF mG 33 #[oa a, oa i, oa c] [(.ref c), (.ref a)]) (fun _ kk => XS.aloadN X4.here hx rfl (hb yb d6_32) rfl rfl kk) ?_
  obtain ⟨cq5, kq5, q5a, q5b, q5c⟩ := isOf hZ e4 ((E_c.keep K3q).wr W4)
  obtain ⟨_, _, ⟨T5, L5, k5, n5⟩, -, X5, ⟨Lc5, hQ5, l5, y5, z5⟩, st5⟩ := X4.virtualBack hx (y := (⟨"java/lang/String", "isBlank", "()Z"⟩ : MethodName)) (z := (⟨"java/lang/String", "isBlank", "()Z"⟩ : MethodName)) hown (mvT hZ (ow hw 38 rfl)) (mvT hZ (ow hw 39 rfl)) (notFace_of_selects (args := #[]) (mvT hZ (ow hw 41 rfl))) (mvT hZ (ow hw 41 rfl)) (mvT hZ (ow hw 40 rfl)) (by decide) (backOf (W := 1) (rm_ibT l Z a0 hw [] w_instance w_A c_A zc c h4 n0 O4 hS ((S_c.keep0 K3q).keepX (Keep.of_wr W4) (E_a.keep K3q) (by decide) (ow hw 30 rfl))) hZ (ow hw 42 rfl) (ow hw 6 rfl) (by decide) (by decide)) q5a q5c (g := (mkF mG 33 #[oa a, oa i, oa c] [(.ref c), (.ref a)])) rfl (by rw [hml]; rfl) (Steps.refl _) (argsL := []) (rest := [(.ref a)]) (lenOf pd_2 rfl) rfl (by show 2 * 0 + _ ≤ _; exact Nat.le_of_eq rfl) (hb yb d6_33) (fun _ _ => ⟨rfl, e4, (by decide : 2 + 0 ≤ _), (by decide : 5 + 0 ≤ _)⟩)
  dsimp only [Pt.U, Pt.locs, Pt.cells, Pt.slots] at X5 l5 y5 z5 st5 hQ5
  subst l5 y5 z5
  obtain ⟨rfl, N5q, e5⟩ := hQ5
  have N5 := Fr.app N4 N5q
  refine ob T5 (mkF mG 36 #[oa a, oa i, oa c] [(.int (1 : Int32)), (.ref a)]) (fun _ kk => st5.trans kk) ?_
  refine ob T5 (mkF mG 39 #[oa a, oa i, oa c] [(.ref a)]) (fun _ kk => XS.ifNo X5.here hx rfl (hb yb d6_36) rfl ((if0 _ _).trans (feq (by decide : ¬ ((1 : Int32) = (0 : Int32)))).1) kk) ?_
  refine ob T5 (mkF mG 40 #[oa a, oa i, oa c] [.null, (.ref a)]) (fun _ kk => XS.aconstNull X5.here hx rfl (hb yb d6_39) kk) ?_
  refine ob T5 (mkF mG 47 #[oa a, oa i, oa c] [.null, (.ref a)]) (fun _ kk => XS.goto X5.here hx rfl (pc0 := 40) (pc' := 47) rfl (hb yb d6_40) (by decide) (by decide) kk) ?_
  obtain ⟨T6, h6, X6, e6, W6, st6⟩ := putF X5 hx hZ hown (host := "") (Or.inl (ow hw 68 rfl)) Via.refl e5 ((F_1.keep K3q nin0).other W4 (Or.inr (slot_ne (Or.inr (ow hw 69 rfl)) (Or.inr (ow hw 37 rfl)) (by decide) (t := (.object "java/lang/String")) (t' := (.object "java/lang/String")) (by decide) (by decide)))) ((E_a.keep K3q).wr W4) (Or.inr ⟨(ow hw 69 rfl), rfl, hnm⟩) (ow hw 30 rfl) (ty := (.object "java/lang/String")) (by decide) rfl rfl (g := (mkF mG 47 #[oa a, oa i, oa c] [.null, (.ref a)])) rfl rfl (hb yb d6_47)
  have F6 := ((F_1.keep K3q nin0).other W4 (Or.inr (slot_ne (Or.inr (ow hw 69 rfl)) (Or.inr (ow hw 37 rfl)) (by decide) (t := (.object "java/lang/String")) (t' := (.object "java/lang/String")) (by decide) (by decide)))).same W6
  have O6 := O4.wr W6 n_a
  have K6 := K4.wr W6 (Or.inl (List.mem_of_getElem? (i := 0) rfl))
  have N6 := Fr.snoc X6 N5 n_a
  refine ob T6 (mkF mG 50 #[oa a, oa i, oa c] []) (fun _ kk => st6 _ kk) ?_
  obtain ⟨fs, hr, hrun, hended, hW, hsame⟩ := X6.leave (v := none) (fun _ => rfl)
  refine oout (X6.returnOut hx Bd.returns (hb yb d6_50) hr) hrun hended ⟨_, _, rfl, ?_, ⟨_, rfl⟩, hW, hsame.mono (by decide) (by decide)⟩
  show Q_rm_rrFT Z w_instance w_A c_A zc a u0 u1 i c h0 n0 _ T6.heap _
  rw [e6]
  exact ⟨r0_3, rfl, N6, K6, O6, (F4.other W6 (Or.inr (slot_ne (Or.inr (ow hw 37 rfl)) (Or.inr (ow hw 69 rfl)) (by decide) (t := (.object "java/lang/String")) (t' := (.object "java/lang/String")) (by decide) (by decide)))), F6⟩

def Q_rm_rrFF (Z : State) (w_instance : Addr) (w_A : Addr) (c_A : Cell) (zc : Int32) (a : Addr) (u0 : Value) (u1 : Value) (i : Addr) (c : Addr) (h0 : Heap) (n0 : Nat) (v : Option Value) (h : Heap) (L : List Loc) : Prop := ∃ (r0 : Addr) (r1 : Addr), v = none ∧ Fr n0 L ∧ Keep h0 h [a] ∧ Old Z n0 h ∧ Fld Z h a "com/example/rigorous_sourcing/rigoroussourcing/domain/RecordReference" "mId" "Ljava/lang/String;" (.ref r0) ∧ Fld Z h a "com/example/rigorous_sourcing/rigoroussourcing/domain/RecordReference" "mCode" "Ljava/lang/String;" (.ref r1)
set_option maxRecDepth 65536 in
set_option maxHeartbeats 40000000 in
theorem rm_rrFF (l : Launch) (Z : State) (a0 : Array Value) (hw : ∀ d ∈ tables_1, d.before a0 Z = true) (ws : List Jvm.Cond) (w_instance : Addr) (w_A : Addr) (c_A : Cell) (zc : Int32) (a : Addr) (u0 : Value) (u1 : Value) (i : Addr) (c : Addr) (h0 : Heap) (n0 : Nat) (O0 : Old Z n0 h0) (hS : St0 Z w_instance w_A c_A zc ) (E_a : Exa Z h0 a "com/example/rigorous_sourcing/rigoroussourcing/domain/RecordReference") (F_0 : Fld Z h0 a "com/example/rigorous_sourcing/rigoroussourcing/domain/RecordReference" "mId" "Ljava/lang/String;" u0) (F_1 : Fld Z h0 a "com/example/rigorous_sourcing/rigoroussourcing/domain/RecordReference" "mCode" "Ljava/lang/String;" u1) (E_i : Exa Z h0 i "java/lang/String") (S_i : oS Z h0 i false) (E_c : Exa Z h0 c "java/lang/String") (S_c : oS Z h0 c false) (n_a : n0 ≤ a) :
    MetFree l (⟨"com/example/rigorous_sourcing/rigoroussourcing/domain/RecordReference", "<init>", "(Ljava/lang/String;Ljava/lang/String;)V"⟩ : MethodName) (head1 (Jvm.Cond.code (⟨"com/example/rigorous_sourcing/rigoroussourcing/domain/RecordReference", "<init>", "(Ljava/lang/String;Ljava/lang/String;)V"⟩ : MethodName) prog_21_method_1_code 3 none :: ws) ({ frames := 9, cells := 4, slots := 10, locals := 164 } : Room)) (fun aG UG => aG = #[(.ref a), (.ref i), (.ref c)] ∧ Z.Warmed39 UG.vm ∧ UG.heap = h0) (fun _ _ _ _ _ => True) (fun _ UG oG UG' => ∃ vG LG, oG = .returned vG ∧ Q_rm_rrFF Z w_instance w_A c_A zc a u0 u1 i c h0 n0 vG UG'.heap LG ∧ FrameEnd UG oG UG' LG ({ frames := 9, cells := 4, slots := 10, locals := 164 } : Room).cells ({ frames := 9, cells := 4, slots := 10, locals := 164 } : Room).slots) := by
  refine MetFree.of_bodySF (plainFor_of_name pn_5) hisR ?_
  intro pG eG sG mG rG bG fG cG s₁ Bd hml0 hP hK
  obtain ⟨rfl, hZ, hh⟩ := hP
  have hx := Bd.exec
  have yb := Bd.bytes
  have hml : cG.maxLocals = 3 := hml0
  have hown : sG.vm.findClass "com/example/rigorous_sourcing/rigoroussourcing/domain/RecordReference" = some mG.cls := findClass_of_methodNamed Bd.named
  have hnm := (name_of_methodNamed Bd.named Bd.method).1
  have X0 : Stand pG l eG ({ frames := 9, cells := 4, slots := 10, locals := 164 } : Room) sG mG #[(.ref a), (.ref i), (.ref c)] bG fG cG s₁ [] 0 0 := Stand.of_body Bd
  have e0 : s₁.heap = h0 := by rw [← hh, Bd.state]; rfl
  have N0 := Fr.nil n0
  have K0 := Keep.refl h0 [a]
  obtain ⟨S_w_instance, E_w_instance, S_w_A, E_w_A, V_w_A, S_zc, hzc⟩ := (id hS : St0 Z w_instance w_A c_A zc )
  refine ostart (g' := (mkF mG 0 #[oa a, oa i, oa c] [])) (by first | (simp [entryFrame, mkF, argsToLocals, Value.category]; done) | rfl) ?_
  refine ob s₁ (mkF mG 1 #[oa a, oa i, oa c] [(.ref a)]) (fun _ kk => XS.aloadN X0.here hx rfl (hb yb d6_0) rfl rfl kk) ?_
  obtain ⟨T1, X1, e1, st1⟩ := initO X0 hx hZ hown (ow hw 35 rfl) (ow hw 16 rfl) (ow hw 17 rfl) e0 (g := (mkF mG 1 #[oa a, oa i, oa c] [(.ref a)])) rfl (by rw [hml]; rfl) rfl (hb yb d6_1) (by decide) (W := 0) (by show 2 * 0 + _ ≤ _; exact Nat.le_of_eq rfl) (by decide)
  refine ob T1 (mkF mG 4 #[oa a, oa i, oa c] []) (fun _ kk => st1 _ kk) ?_
  refine ob T1 (mkF mG 5 #[oa a, oa i, oa c] [(.ref a)]) (fun _ kk => XS.aloadN X1.here hx rfl (hb yb d6_4) rfl rfl kk) ?_
  refine ob T1 (mkF mG 6 #[oa a, oa i, oa c] [(.ref i), (.ref a)]) (fun _ kk => XS.aloadN X1.here hx rfl (hb yb d6_5) rfl rfl kk) ?_
  refine ob T1 (mkF mG 9 #[oa a, oa i, oa c] [(.ref a)]) (fun _ kk => XS.ifnullNo X1.here hx rfl (hb yb d6_6) rfl kk) ?_
  refine ob T1 (mkF mG 10 #[oa a, oa i, oa c] [(.ref i), (.ref a)]) (fun _ kk => XS.aloadN X1.here hx rfl (hb yb d6_9) rfl rfl kk) ?_
  obtain ⟨cq2, kq2, q2a, q2b, q2c⟩ := isOf hZ e1 E_i
  obtain ⟨_, _, ⟨T2, L2, k2, n2⟩, -, X2, ⟨Lc2, hQ2, l2, y2, z2⟩, st2⟩ := X1.virtualBack hx (y := (⟨"java/lang/String", "isBlank", "()Z"⟩ : MethodName)) (z := (⟨"java/lang/String", "isBlank", "()Z"⟩ : MethodName)) hown (mvT hZ (ow hw 38 rfl)) (mvT hZ (ow hw 39 rfl)) (notFace_of_selects (args := #[]) (mvT hZ (ow hw 41 rfl))) (mvT hZ (ow hw 41 rfl)) (mvT hZ (ow hw 40 rfl)) (by decide) (backOf (W := 1) (rm_ibF l Z a0 hw [] w_instance w_A c_A zc i h0 n0 O0 hS S_i) hZ (ow hw 42 rfl) (ow hw 6 rfl) (by decide) (by decide)) q2a q2c (g := (mkF mG 10 #[oa a, oa i, oa c] [(.ref i), (.ref a)])) rfl (by rw [hml]; rfl) (Steps.refl _) (argsL := []) (rest := [(.ref a)]) (lenOf pd_2 rfl) rfl (by show 2 * 0 + _ ≤ _; exact Nat.le_of_eq rfl) (hb yb d6_10) (fun _ _ => ⟨rfl, e1, (by decide : 0 + 0 ≤ _), (by decide : 0 + 0 ≤ _)⟩)
  dsimp only [Pt.U, Pt.locs, Pt.cells, Pt.slots] at X2 l2 y2 z2 st2 hQ2
  subst l2 y2 z2
  obtain ⟨rfl, N2q, e2⟩ := hQ2
  have N2 := Fr.app N0 N2q
  refine ob T2 (mkF mG 13 #[oa a, oa i, oa c] [(.int (0 : Int32)), (.ref a)]) (fun _ kk => st2.trans kk) ?_
  refine ob T2 (mkF mG 20 #[oa a, oa i, oa c] [(.ref a)]) (fun _ kk => XS.ifYes X2.here hx rfl (pc0 := 13) (pc' := 20) rfl (hb yb d6_13) rfl ((if0 _ _).trans (teq (by decide : (0 : Int32) = (0 : Int32))).1) (by decide) (by decide) kk) ?_
  refine ob T2 (mkF mG 21 #[oa a, oa i, oa c] [(.ref i), (.ref a)]) (fun _ kk => XS.aloadN X2.here hx rfl (hb yb d6_20) rfl rfl kk) ?_
  obtain ⟨cq3, kq3, q3a, q3b, q3c⟩ := isOf hZ e2 E_i
  obtain ⟨_, _, ⟨T3, L3, k3, n3⟩, -, X3, ⟨Lc3, hQ3, l3, y3, z3⟩, st3⟩ := X2.virtualBack hx (y := (⟨"java/lang/String", "strip", "()Ljava/lang/String;"⟩ : MethodName)) (z := (⟨"java/lang/String", "strip", "()Ljava/lang/String;"⟩ : MethodName)) hown (mvT hZ (ow hw 104 rfl)) (mvT hZ (ow hw 105 rfl)) (notFace_of_selects (args := #[]) (mvT hZ (ow hw 107 rfl))) (mvT hZ (ow hw 107 rfl)) (mvT hZ (ow hw 106 rfl)) (by decide) (backOf (W := 1) (rm_stF l Z a0 hw [] w_instance w_A c_A zc i h0 n0 O0 hS S_i) hZ (ow hw 108 rfl) (ow hw 6 rfl) (by decide) (by decide)) q3a q3c (g := (mkF mG 21 #[oa a, oa i, oa c] [(.ref i), (.ref a)])) rfl (by rw [hml]; rfl) (Steps.refl _) (argsL := []) (rest := [(.ref a)]) (lenOf pd_16 rfl) rfl (by show 2 * 0 + _ ≤ _; exact Nat.le_of_eq rfl) (hb yb d6_21) (fun _ _ => ⟨rfl, e2, (by decide : 0 + 2 ≤ _), (by decide : 0 + 5 ≤ _)⟩)
  dsimp only [Pt.U, Pt.locs, Pt.cells, Pt.slots] at X3 l3 y3 z3 st3 hQ3
  subst l3 y3 z3
  obtain ⟨h3, e3⟩ : ∃ h, T3.heap = h := ⟨_, rfl⟩
  rw [e3] at hQ3
  obtain ⟨r0_3, rfl, N3q, K3q, O3⟩ := hQ3
  have N3 := Fr.app N2 N3q
  have K3 := K0.trans K3q all0
  refine ob T3 (mkF mG 24 #[oa a, oa i, oa c] [(.ref r0_3), (.ref a)]) (fun _ kk => st3.trans kk) ?_
  obtain ⟨T4, h4, X4, e4, W4, st4⟩ := putF X3 hx hZ hown (host := "") (Or.inl (ow hw 36 rfl)) Via.refl e3 (F_0.keep K3q nin0) (E_a.keep K3q) (Or.inr ⟨(ow hw 37 rfl), rfl, hnm⟩) (ow hw 30 rfl) (ty := (.object "java/lang/String")) (by decide) rfl rfl (g := (mkF mG 24 #[oa a, oa i, oa c] [(.ref r0_3), (.ref a)])) rfl rfl (hb yb d6_24)
  have F4 := (F_0.keep K3q nin0).same W4
  have O4 := O3.wr W4 n_a
  have K4 := K3.wr W4 (Or.inl (List.mem_of_getElem? (i := 0) rfl))
  have N4 := Fr.snoc X4 N3 n_a
  refine ob T4 (mkF mG 27 #[oa a, oa i, oa c] []) (fun _ kk => st4 _ kk) ?_
  refine ob T4 (mkF mG 28 #[oa a, oa i, oa c] [(.ref a)]) (fun _ kk => XS.aloadN X4.here hx rfl (hb yb d6_27) rfl rfl kk) ?_
  refine ob T4 (mkF mG 29 #[oa a, oa i, oa c] [(.ref c), (.ref a)]) (fun _ kk => XS.aloadN X4.here hx rfl (hb yb d6_28) rfl rfl kk) ?_
  refine ob T4 (mkF mG 32 #[oa a, oa i, oa c] [(.ref a)]) (fun _ kk => XS.ifnullNo X4.here hx rfl (hb yb d6_29) rfl kk) ?_
  refine ob T4 (mkF mG 33 #[oa a, oa i, oa c] [(.ref c), (.ref a)]) (fun _ kk => XS.aloadN X4.here hx rfl (hb yb d6_32) rfl rfl kk) ?_
  obtain ⟨cq5, kq5, q5a, q5b, q5c⟩ := isOf hZ e4 ((E_c.keep K3q).wr W4)
  obtain ⟨_, _, ⟨T5, L5, k5, n5⟩, -, X5, ⟨Lc5, hQ5, l5, y5, z5⟩, st5⟩ := X4.virtualBack hx (y := (⟨"java/lang/String", "isBlank", "()Z"⟩ : MethodName)) (z := (⟨"java/lang/String", "isBlank", "()Z"⟩ : MethodName)) hown (mvT hZ (ow hw 38 rfl)) (mvT hZ (ow hw 39 rfl)) (notFace_of_selects (args := #[]) (mvT hZ (ow hw 41 rfl))) (mvT hZ (ow hw 41 rfl)) (mvT hZ (ow hw 40 rfl)) (by decide) (backOf (W := 1) (rm_ibF l Z a0 hw [] w_instance w_A c_A zc c h4 n0 O4 hS ((S_c.keep0 K3q).keepX (Keep.of_wr W4) (E_a.keep K3q) (by decide) (ow hw 30 rfl))) hZ (ow hw 42 rfl) (ow hw 6 rfl) (by decide) (by decide)) q5a q5c (g := (mkF mG 33 #[oa a, oa i, oa c] [(.ref c), (.ref a)])) rfl (by rw [hml]; rfl) (Steps.refl _) (argsL := []) (rest := [(.ref a)]) (lenOf pd_2 rfl) rfl (by show 2 * 0 + _ ≤ _; exact Nat.le_of_eq rfl) (hb yb d6_33) (fun _ _ => ⟨rfl, e4, (by decide : 2 + 0 ≤ _), (by decide : 5 + 0 ≤ _)⟩)
  dsimp only [Pt.U, Pt.locs, Pt.cells, Pt.slots] at X5 l5 y5 z5 st5 hQ5
  subst l5 y5 z5
  obtain ⟨rfl, N5q, e5⟩ := hQ5
  have N5 := Fr.app N4 N5q
  refine ob T5 (mkF mG 36 #[oa a, oa i, oa c] [(.int (0 : Int32)), (.ref a)]) (fun _ kk => st5.trans kk) ?_
  refine ob T5 (mkF mG 43 #[oa a, oa i, oa c] [(.ref a)]) (fun _ kk => XS.ifYes X5.here hx rfl (pc0 := 36) (pc' := 43) rfl (hb yb d6_36) rfl ((if0 _ _).trans (teq (by decide : (0 : Int32) = (0 : Int32))).1) (by decide) (by decide) kk) ?_
  refine ob T5 (mkF mG 44 #[oa a, oa i, oa c] [(.ref c), (.ref a)]) (fun _ kk => XS.aloadN X5.here hx rfl (hb yb d6_43) rfl rfl kk) ?_
  obtain ⟨cq6, kq6, q6a, q6b, q6c⟩ := isOf hZ e5 ((E_c.keep K3q).wr W4)
  obtain ⟨_, _, ⟨T6, L6, k6, n6⟩, -, X6, ⟨Lc6, hQ6, l6, y6, z6⟩, st6⟩ := X5.virtualBack hx (y := (⟨"java/lang/String", "strip", "()Ljava/lang/String;"⟩ : MethodName)) (z := (⟨"java/lang/String", "strip", "()Ljava/lang/String;"⟩ : MethodName)) hown (mvT hZ (ow hw 104 rfl)) (mvT hZ (ow hw 105 rfl)) (notFace_of_selects (args := #[]) (mvT hZ (ow hw 107 rfl))) (mvT hZ (ow hw 107 rfl)) (mvT hZ (ow hw 106 rfl)) (by decide) (backOf (W := 1) (rm_stF l Z a0 hw [] w_instance w_A c_A zc c h4 n0 O4 hS ((S_c.keep0 K3q).keepX (Keep.of_wr W4) (E_a.keep K3q) (by decide) (ow hw 30 rfl))) hZ (ow hw 108 rfl) (ow hw 6 rfl) (by decide) (by decide)) q6a q6c (g := (mkF mG 44 #[oa a, oa i, oa c] [(.ref c), (.ref a)])) rfl (by rw [hml]; rfl) (Steps.refl _) (argsL := []) (rest := [(.ref a)]) (lenOf pd_16 rfl) rfl (by show 2 * 0 + _ ≤ _; exact Nat.le_of_eq rfl) (hb yb d6_44) (fun _ _ => ⟨rfl, e5, (by decide : 2 + 2 ≤ _), (by decide : 5 + 5 ≤ _)⟩)
  dsimp only [Pt.U, Pt.locs, Pt.cells, Pt.slots] at X6 l6 y6 z6 st6 hQ6
  subst l6 y6 z6
  obtain ⟨h6, e6⟩ : ∃ h, T6.heap = h := ⟨_, rfl⟩
  rw [e6] at hQ6
  obtain ⟨r0_6, rfl, N6q, K6q, O6⟩ := hQ6
  have N6 := Fr.app N5 N6q
  have K6 := K4.trans K6q all0
  refine ob T6 (mkF mG 47 #[oa a, oa i, oa c] [(.ref r0_6), (.ref a)]) (fun _ kk => st6.trans kk) ?_
  obtain ⟨T7, h7, X7, e7, W7, st7⟩ := putF X6 hx hZ hown (host := "") (Or.inl (ow hw 68 rfl)) Via.refl e6 (((F_1.keep K3q nin0).other W4 (Or.inr (slot_ne (Or.inr (ow hw 69 rfl)) (Or.inr (ow hw 37 rfl)) (by decide) (t := (.object "java/lang/String")) (t' := (.object "java/lang/String")) (by decide) (by decide)))).keep K6q nin0) (((E_a.keep K3q).wr W4).keep K6q) (Or.inr ⟨(ow hw 69 rfl), rfl, hnm⟩) (ow hw 30 rfl) (ty := (.object "java/lang/String")) (by decide) rfl rfl (g := (mkF mG 47 #[oa a, oa i, oa c] [(.ref r0_6), (.ref a)])) rfl rfl (hb yb d6_47)
  have F7 := (((F_1.keep K3q nin0).other W4 (Or.inr (slot_ne (Or.inr (ow hw 69 rfl)) (Or.inr (ow hw 37 rfl)) (by decide) (t := (.object "java/lang/String")) (t' := (.object "java/lang/String")) (by decide) (by decide)))).keep K6q nin0).same W7
  have O7 := O6.wr W7 n_a
  have K7 := K6.wr W7 (Or.inl (List.mem_of_getElem? (i := 0) rfl))
  have N7 := Fr.snoc X7 N6 n_a
  refine ob T7 (mkF mG 50 #[oa a, oa i, oa c] []) (fun _ kk => st7 _ kk) ?_
  obtain ⟨fs, hr, hrun, hended, hW, hsame⟩ := X7.leave (v := none) (fun _ => rfl)
  refine oout (X7.returnOut hx Bd.returns (hb yb d6_50) hr) hrun hended ⟨_, _, rfl, ?_, ⟨_, rfl⟩, hW, hsame.mono (by decide) (by decide)⟩
  show Q_rm_rrFF Z w_instance w_A c_A zc a u0 u1 i c h0 n0 _ T7.heap _
  rw [e7]
  exact ⟨r0_3, r0_6, rfl, N7, K7, O7, ((F4.keep K6q nin0).other W7 (Or.inr (slot_ne (Or.inr (ow hw 37 rfl)) (Or.inr (ow hw 69 rfl)) (by decide) (t := (.object "java/lang/String")) (t' := (.object "java/lang/String")) (by decide) (by decide)))), F7⟩

theorem d13_0 : decode prog_21_method_4_code 0 = .ok (.aload_n 0, 1) := by decide +kernel
theorem d13_1 : decode prog_21_method_4_code 1 = .ok (.getfield 17, 3) := by decide +kernel
theorem d13_4 : decode prog_21_method_4_code 4 = .ok (.ifnonnull 14, 3) := by decide +kernel
theorem d13_7 : decode prog_21_method_4_code 7 = .ok (.aload_n 0, 1) := by decide +kernel
theorem d13_8 : decode prog_21_method_4_code 8 = .ok (.getfield 23, 3) := by decide +kernel
theorem d13_11 : decode prog_21_method_4_code 11 = .ok (.ifnonnull 7, 3) := by decide +kernel
theorem d13_14 : decode prog_21_method_4_code 14 = .ok (.iconst 1, 1) := by decide +kernel
theorem d13_15 : decode prog_21_method_4_code 15 = .ok (.goto 4, 3) := by decide +kernel
theorem d13_19 : decode prog_21_method_4_code 19 = .ok (.ireturn, 1) := by decide +kernel
def Q_rm_ie00 (Z : State) (w_instance : Addr) (w_A : Addr) (c_A : Cell) (zc : Int32) (a : Addr) (h0 : Heap) (n0 : Nat) (v : Option Value) (h : Heap) (L : List Loc) : Prop := v = some (.int (1 : Int32)) ∧ Fr n0 L ∧ h = h0
set_option maxRecDepth 65536 in
set_option maxHeartbeats 40000000 in
theorem rm_ie00 (l : Launch) (Z : State) (a0 : Array Value) (hw : ∀ d ∈ tables_1, d.before a0 Z = true) (ws : List Jvm.Cond) (w_instance : Addr) (w_A : Addr) (c_A : Cell) (zc : Int32) (a : Addr) (h0 : Heap) (n0 : Nat) (O0 : Old Z n0 h0) (hS : St0 Z w_instance w_A c_A zc ) (F_i : Fld Z h0 a "com/example/rigorous_sourcing/rigoroussourcing/domain/RecordReference" "mId" "Ljava/lang/String;" .null) (F_o : Fld Z h0 a "com/example/rigorous_sourcing/rigoroussourcing/domain/RecordReference" "mCode" "Ljava/lang/String;" .null) :
    MetFree l (⟨"com/example/rigorous_sourcing/rigoroussourcing/domain/RecordReference", "isEmpty", "()Z"⟩ : MethodName) (head1 (Jvm.Cond.code (⟨"com/example/rigorous_sourcing/rigoroussourcing/domain/RecordReference", "isEmpty", "()Z"⟩ : MethodName) prog_21_method_4_code 1 (some .boolean) :: ws) ({ frames := 0, cells := 0, slots := 0, locals := 0 } : Room)) (fun aG UG => aG = #[(.ref a)] ∧ Z.Warmed39 UG.vm ∧ UG.heap = h0) (fun _ _ _ _ _ => True) (fun _ UG oG UG' => ∃ vG LG, oG = .returned vG ∧ Q_rm_ie00 Z w_instance w_A c_A zc a h0 n0 vG UG'.heap LG ∧ FrameEnd UG oG UG' LG ({ frames := 0, cells := 0, slots := 0, locals := 0 } : Room).cells ({ frames := 0, cells := 0, slots := 0, locals := 0 } : Room).slots) := by
  refine MetFree.of_bodySF (plainFor_of_name pn_5) hisR ?_
  intro pG eG sG mG rG bG fG cG s₁ Bd hml0 hP hK
  obtain ⟨rfl, hZ, hh⟩ := hP
  have hx := Bd.exec
  have yb := Bd.bytes
  have hml : cG.maxLocals = 1 := hml0
  have hown : sG.vm.findClass "com/example/rigorous_sourcing/rigoroussourcing/domain/RecordReference" = some mG.cls := findClass_of_methodNamed Bd.named
  have hnm := (name_of_methodNamed Bd.named Bd.method).1
  have X0 : Stand pG l eG ({ frames := 0, cells := 0, slots := 0, locals := 0 } : Room) sG mG #[(.ref a)] bG fG cG s₁ [] 0 0 := Stand.of_body Bd
  have e0 : s₁.heap = h0 := by rw [← hh, Bd.state]; rfl
  have N0 := Fr.nil n0
  have K0 := Keep.refl h0 []
  obtain ⟨S_w_instance, E_w_instance, S_w_A, E_w_A, V_w_A, S_zc, hzc⟩ := (id hS : St0 Z w_instance w_A c_A zc )
  refine ostart (g' := (mkF mG 0 #[oa a] [])) (by first | (simp [entryFrame, mkF, argsToLocals, Value.category]; done) | rfl) ?_
  refine ob s₁ (mkF mG 1 #[oa a] [(.ref a)]) (fun _ kk => XS.aloadN X0.here hx rfl (hb yb d13_0) rfl rfl kk) ?_
  obtain ⟨T1, X1, e1, st1⟩ := getF X0 hx hZ hown (host := "") (Or.inl (ow hw 36 rfl)) Via.refl e0 F_i (g := (mkF mG 1 #[oa a] [(.ref a)])) rfl rfl (hb yb d13_1)
  refine ob T1 (mkF mG 4 #[oa a] [.null]) (fun _ kk => st1 _ kk) ?_
  refine ob T1 (mkF mG 7 #[oa a] []) (fun _ kk => XS.ifnonnullNo X1.here hx rfl (hb yb d13_4) rfl kk) ?_
  refine ob T1 (mkF mG 8 #[oa a] [(.ref a)]) (fun _ kk => XS.aloadN X1.here hx rfl (hb yb d13_7) rfl rfl kk) ?_
  obtain ⟨T2, X2, e2, st2⟩ := getF X1 hx hZ hown (host := "") (Or.inl (ow hw 68 rfl)) Via.refl e1 F_o (g := (mkF mG 8 #[oa a] [(.ref a)])) rfl rfl (hb yb d13_8)
  refine ob T2 (mkF mG 11 #[oa a] [.null]) (fun _ kk => st2 _ kk) ?_
  refine ob T2 (mkF mG 14 #[oa a] []) (fun _ kk => XS.ifnonnullNo X2.here hx rfl (hb yb d13_11) rfl kk) ?_
  refine ob T2 (mkF mG 15 #[oa a] [(.int (1 : Int32))]) (fun _ kk => XS.iconst X2.here hx rfl (hb yb d13_14) kk) ?_
  refine ob T2 (mkF mG 19 #[oa a] [(.int (1 : Int32))]) (fun _ kk => XS.goto X2.here hx rfl (pc0 := 15) (pc' := 19) rfl (hb yb d13_15) (by decide) (by decide) kk) ?_
  obtain ⟨fs, hr, hrun, hended, hW, hsame⟩ := X2.leave (v := some (.int (1 : Int32))) (fun h => by rw [Bd.returns] at h; cases h)
  refine oout (retN X2 hx (t := .boolean) Bd.returns (by simp) (hb yb d13_19) hr) hrun hended ⟨_, _, rfl, ?_, ⟨_, rfl⟩, hW, hsame.mono (by decide) (by decide)⟩
  show Q_rm_ie00 Z w_instance w_A c_A zc a h0 n0 _ T2.heap _
  rw [e2]
  exact ⟨rfl, N0, rfl⟩

theorem d13_18 : decode prog_21_method_4_code 18 = .ok (.iconst 0, 1) := by decide +kernel
def Q_rm_ie01 (Z : State) (w_instance : Addr) (w_A : Addr) (c_A : Cell) (zc : Int32) (a : Addr) (q : Addr) (h0 : Heap) (n0 : Nat) (v : Option Value) (h : Heap) (L : List Loc) : Prop := v = some (.int (0 : Int32)) ∧ Fr n0 L ∧ h = h0
set_option maxRecDepth 65536 in
set_option maxHeartbeats 40000000 in
theorem rm_ie01 (l : Launch) (Z : State) (a0 : Array Value) (hw : ∀ d ∈ tables_1, d.before a0 Z = true) (ws : List Jvm.Cond) (w_instance : Addr) (w_A : Addr) (c_A : Cell) (zc : Int32) (a : Addr) (q : Addr) (h0 : Heap) (n0 : Nat) (O0 : Old Z n0 h0) (hS : St0 Z w_instance w_A c_A zc ) (F_i : Fld Z h0 a "com/example/rigorous_sourcing/rigoroussourcing/domain/RecordReference" "mId" "Ljava/lang/String;" .null) (F_o : Fld Z h0 a "com/example/rigorous_sourcing/rigoroussourcing/domain/RecordReference" "mCode" "Ljava/lang/String;" (.ref q)) :
    MetFree l (⟨"com/example/rigorous_sourcing/rigoroussourcing/domain/RecordReference", "isEmpty", "()Z"⟩ : MethodName) (head1 (Jvm.Cond.code (⟨"com/example/rigorous_sourcing/rigoroussourcing/domain/RecordReference", "isEmpty", "()Z"⟩ : MethodName) prog_21_method_4_code 1 (some .boolean) :: ws) ({ frames := 0, cells := 0, slots := 0, locals := 0 } : Room)) (fun aG UG => aG = #[(.ref a)] ∧ Z.Warmed39 UG.vm ∧ UG.heap = h0) (fun _ _ _ _ _ => True) (fun _ UG oG UG' => ∃ vG LG, oG = .returned vG ∧ Q_rm_ie01 Z w_instance w_A c_A zc a q h0 n0 vG UG'.heap LG ∧ FrameEnd UG oG UG' LG ({ frames := 0, cells := 0, slots := 0, locals := 0 } : Room).cells ({ frames := 0, cells := 0, slots := 0, locals := 0 } : Room).slots) := by
  refine MetFree.of_bodySF (plainFor_of_name pn_5) hisR ?_
  intro pG eG sG mG rG bG fG cG s₁ Bd hml0 hP hK
  obtain ⟨rfl, hZ, hh⟩ := hP
  have hx := Bd.exec
  have yb := Bd.bytes
  have hml : cG.maxLocals = 1 := hml0
  have hown : sG.vm.findClass "com/example/rigorous_sourcing/rigoroussourcing/domain/RecordReference" = some mG.cls := findClass_of_methodNamed Bd.named
  have hnm := (name_of_methodNamed Bd.named Bd.method).1
  have X0 : Stand pG l eG ({ frames := 0, cells := 0, slots := 0, locals := 0 } : Room) sG mG #[(.ref a)] bG fG cG s₁ [] 0 0 := Stand.of_body Bd
  have e0 : s₁.heap = h0 := by rw [← hh, Bd.state]; rfl
  have N0 := Fr.nil n0
  have K0 := Keep.refl h0 []
  obtain ⟨S_w_instance, E_w_instance, S_w_A, E_w_A, V_w_A, S_zc, hzc⟩ := (id hS : St0 Z w_instance w_A c_A zc )
  refine ostart (g' := (mkF mG 0 #[oa a] [])) (by first | (simp [entryFrame, mkF, argsToLocals, Value.category]; done) | rfl) ?_
  refine ob s₁ (mkF mG 1 #[oa a] [(.ref a)]) (fun _ kk => XS.aloadN X0.here hx rfl (hb yb d13_0) rfl rfl kk) ?_
  obtain ⟨T1, X1, e1, st1⟩ := getF X0 hx hZ hown (host := "") (Or.inl (ow hw 36 rfl)) Via.refl e0 F_i (g := (mkF mG 1 #[oa a] [(.ref a)])) rfl rfl (hb yb d13_1)
  refine ob T1 (mkF mG 4 #[oa a] [.null]) (fun _ kk => st1 _ kk) ?_
  refine ob T1 (mkF mG 7 #[oa a] []) (fun _ kk => XS.ifnonnullNo X1.here hx rfl (hb yb d13_4) rfl kk) ?_
  refine ob T1 (mkF mG 8 #[oa a] [(.ref a)]) (fun _ kk => XS.aloadN X1.here hx rfl (hb yb d13_7) rfl rfl kk) ?_
  obtain ⟨T2, X2, e2, st2⟩ := getF X1 hx hZ hown (host := "") (Or.inl (ow hw 68 rfl)) Via.refl e1 F_o (g := (mkF mG 8 #[oa a] [(.ref a)])) rfl rfl (hb yb d13_8)
  refine ob T2 (mkF mG 11 #[oa a] [(.ref q)]) (fun _ kk => st2 _ kk) ?_
  refine ob T2 (mkF mG 18 #[oa a] []) (fun _ kk => XS.ifnonnullYes X2.here hx rfl (pc0 := 11) (pc' := 18) rfl (hb yb d13_11) rfl (by decide) (by decide) kk) ?_
  refine ob T2 (mkF mG 19 #[oa a] [(.int (0 : Int32))]) (fun _ kk => XS.iconst X2.here hx rfl (hb yb d13_18) kk) ?_
  obtain ⟨fs, hr, hrun, hended, hW, hsame⟩ := X2.leave (v := some (.int (0 : Int32))) (fun h => by rw [Bd.returns] at h; cases h)
  refine oout (retN X2 hx (t := .boolean) Bd.returns (by simp) (hb yb d13_19) hr) hrun hended ⟨_, _, rfl, ?_, ⟨_, rfl⟩, hW, hsame.mono (by decide) (by decide)⟩
  show Q_rm_ie01 Z w_instance w_A c_A zc a q h0 n0 _ T2.heap _
  rw [e2]
  exact ⟨rfl, N0, rfl⟩

def Q_rm_ie10 (Z : State) (w_instance : Addr) (w_A : Addr) (c_A : Cell) (zc : Int32) (a : Addr) (p : Addr) (h0 : Heap) (n0 : Nat) (v : Option Value) (h : Heap) (L : List Loc) : Prop := v = some (.int (0 : Int32)) ∧ Fr n0 L ∧ h = h0
set_option maxRecDepth 65536 in
set_option maxHeartbeats 40000000 in
theorem rm_ie10 (l : Launch) (Z : State) (a0 : Array Value) (hw : ∀ d ∈ tables_1, d.before a0 Z = true) (ws : List Jvm.Cond) (w_instance : Addr) (w_A : Addr) (c_A : Cell) (zc : Int32) (a : Addr) (p : Addr) (h0 : Heap) (n0 : Nat) (O0 : Old Z n0 h0) (hS : St0 Z w_instance w_A c_A zc ) (F_i : Fld Z h0 a "com/example/rigorous_sourcing/rigoroussourcing/domain/RecordReference" "mId" "Ljava/lang/String;" (.ref p)) (F_o : Fld Z h0 a "com/example/rigorous_sourcing/rigoroussourcing/domain/RecordReference" "mCode" "Ljava/lang/String;" .null) :
    MetFree l (⟨"com/example/rigorous_sourcing/rigoroussourcing/domain/RecordReference", "isEmpty", "()Z"⟩ : MethodName) (head1 (Jvm.Cond.code (⟨"com/example/rigorous_sourcing/rigoroussourcing/domain/RecordReference", "isEmpty", "()Z"⟩ : MethodName) prog_21_method_4_code 1 (some .boolean) :: ws) ({ frames := 0, cells := 0, slots := 0, locals := 0 } : Room)) (fun aG UG => aG = #[(.ref a)] ∧ Z.Warmed39 UG.vm ∧ UG.heap = h0) (fun _ _ _ _ _ => True) (fun _ UG oG UG' => ∃ vG LG, oG = .returned vG ∧ Q_rm_ie10 Z w_instance w_A c_A zc a p h0 n0 vG UG'.heap LG ∧ FrameEnd UG oG UG' LG ({ frames := 0, cells := 0, slots := 0, locals := 0 } : Room).cells ({ frames := 0, cells := 0, slots := 0, locals := 0 } : Room).slots) := by
  refine MetFree.of_bodySF (plainFor_of_name pn_5) hisR ?_
  intro pG eG sG mG rG bG fG cG s₁ Bd hml0 hP hK
  obtain ⟨rfl, hZ, hh⟩ := hP
  have hx := Bd.exec
  have yb := Bd.bytes
  have hml : cG.maxLocals = 1 := hml0
  have hown : sG.vm.findClass "com/example/rigorous_sourcing/rigoroussourcing/domain/RecordReference" = some mG.cls := findClass_of_methodNamed Bd.named
  have hnm := (name_of_methodNamed Bd.named Bd.method).1
  have X0 : Stand pG l eG ({ frames := 0, cells := 0, slots := 0, locals := 0 } : Room) sG mG #[(.ref a)] bG fG cG s₁ [] 0 0 := Stand.of_body Bd
  have e0 : s₁.heap = h0 := by rw [← hh, Bd.state]; rfl
  have N0 := Fr.nil n0
  have K0 := Keep.refl h0 []
  obtain ⟨S_w_instance, E_w_instance, S_w_A, E_w_A, V_w_A, S_zc, hzc⟩ := (id hS : St0 Z w_instance w_A c_A zc )
  refine ostart (g' := (mkF mG 0 #[oa a] [])) (by first | (simp [entryFrame, mkF, argsToLocals, Value.category]; done) | rfl) ?_
  refine ob s₁ (mkF mG 1 #[oa a] [(.ref a)]) (fun _ kk => XS.aloadN X0.here hx rfl (hb yb d13_0) rfl rfl kk) ?_
  obtain ⟨T1, X1, e1, st1⟩ := getF X0 hx hZ hown (host := "") (Or.inl (ow hw 36 rfl)) Via.refl e0 F_i (g := (mkF mG 1 #[oa a] [(.ref a)])) rfl rfl (hb yb d13_1)
  refine ob T1 (mkF mG 4 #[oa a] [(.ref p)]) (fun _ kk => st1 _ kk) ?_
  refine ob T1 (mkF mG 18 #[oa a] []) (fun _ kk => XS.ifnonnullYes X1.here hx rfl (pc0 := 4) (pc' := 18) rfl (hb yb d13_4) rfl (by decide) (by decide) kk) ?_
  refine ob T1 (mkF mG 19 #[oa a] [(.int (0 : Int32))]) (fun _ kk => XS.iconst X1.here hx rfl (hb yb d13_18) kk) ?_
  obtain ⟨fs, hr, hrun, hended, hW, hsame⟩ := X1.leave (v := some (.int (0 : Int32))) (fun h => by rw [Bd.returns] at h; cases h)
  refine oout (retN X1 hx (t := .boolean) Bd.returns (by simp) (hb yb d13_19) hr) hrun hended ⟨_, _, rfl, ?_, ⟨_, rfl⟩, hW, hsame.mono (by decide) (by decide)⟩
  show Q_rm_ie10 Z w_instance w_A c_A zc a p h0 n0 _ T1.heap _
  rw [e1]
  exact ⟨rfl, N0, rfl⟩

def Q_rm_ie11 (Z : State) (w_instance : Addr) (w_A : Addr) (c_A : Cell) (zc : Int32) (a : Addr) (p : Addr) (q : Addr) (h0 : Heap) (n0 : Nat) (v : Option Value) (h : Heap) (L : List Loc) : Prop := v = some (.int (0 : Int32)) ∧ Fr n0 L ∧ h = h0
set_option maxRecDepth 65536 in
set_option maxHeartbeats 40000000 in
theorem rm_ie11 (l : Launch) (Z : State) (a0 : Array Value) (hw : ∀ d ∈ tables_1, d.before a0 Z = true) (ws : List Jvm.Cond) (w_instance : Addr) (w_A : Addr) (c_A : Cell) (zc : Int32) (a : Addr) (p : Addr) (q : Addr) (h0 : Heap) (n0 : Nat) (O0 : Old Z n0 h0) (hS : St0 Z w_instance w_A c_A zc ) (F_i : Fld Z h0 a "com/example/rigorous_sourcing/rigoroussourcing/domain/RecordReference" "mId" "Ljava/lang/String;" (.ref p)) (F_o : Fld Z h0 a "com/example/rigorous_sourcing/rigoroussourcing/domain/RecordReference" "mCode" "Ljava/lang/String;" (.ref q)) :
    MetFree l (⟨"com/example/rigorous_sourcing/rigoroussourcing/domain/RecordReference", "isEmpty", "()Z"⟩ : MethodName) (head1 (Jvm.Cond.code (⟨"com/example/rigorous_sourcing/rigoroussourcing/domain/RecordReference", "isEmpty", "()Z"⟩ : MethodName) prog_21_method_4_code 1 (some .boolean) :: ws) ({ frames := 0, cells := 0, slots := 0, locals := 0 } : Room)) (fun aG UG => aG = #[(.ref a)] ∧ Z.Warmed39 UG.vm ∧ UG.heap = h0) (fun _ _ _ _ _ => True) (fun _ UG oG UG' => ∃ vG LG, oG = .returned vG ∧ Q_rm_ie11 Z w_instance w_A c_A zc a p q h0 n0 vG UG'.heap LG ∧ FrameEnd UG oG UG' LG ({ frames := 0, cells := 0, slots := 0, locals := 0 } : Room).cells ({ frames := 0, cells := 0, slots := 0, locals := 0 } : Room).slots) := by
  refine MetFree.of_bodySF (plainFor_of_name pn_5) hisR ?_
  intro pG eG sG mG rG bG fG cG s₁ Bd hml0 hP hK
  obtain ⟨rfl, hZ, hh⟩ := hP
  have hx := Bd.exec
  have yb := Bd.bytes
  have hml : cG.maxLocals = 1 := hml0
  have hown : sG.vm.findClass "com/example/rigorous_sourcing/rigoroussourcing/domain/RecordReference" = some mG.cls := findClass_of_methodNamed Bd.named
  have hnm := (name_of_methodNamed Bd.named Bd.method).1
  have X0 : Stand pG l eG ({ frames := 0, cells := 0, slots := 0, locals := 0 } : Room) sG mG #[(.ref a)] bG fG cG s₁ [] 0 0 := Stand.of_body Bd
  have e0 : s₁.heap = h0 := by rw [← hh, Bd.state]; rfl
  have N0 := Fr.nil n0
  have K0 := Keep.refl h0 []
  obtain ⟨S_w_instance, E_w_instance, S_w_A, E_w_A, V_w_A, S_zc, hzc⟩ := (id hS : St0 Z w_instance w_A c_A zc )
  refine ostart (g' := (mkF mG 0 #[oa a] [])) (by first | (simp [entryFrame, mkF, argsToLocals, Value.category]; done) | rfl) ?_
  refine ob s₁ (mkF mG 1 #[oa a] [(.ref a)]) (fun _ kk => XS.aloadN X0.here hx rfl (hb yb d13_0) rfl rfl kk) ?_
  obtain ⟨T1, X1, e1, st1⟩ := getF X0 hx hZ hown (host := "") (Or.inl (ow hw 36 rfl)) Via.refl e0 F_i (g := (mkF mG 1 #[oa a] [(.ref a)])) rfl rfl (hb yb d13_1)
  refine ob T1 (mkF mG 4 #[oa a] [(.ref p)]) (fun _ kk => st1 _ kk) ?_
  refine ob T1 (mkF mG 18 #[oa a] []) (fun _ kk => XS.ifnonnullYes X1.here hx rfl (pc0 := 4) (pc' := 18) rfl (hb yb d13_4) rfl (by decide) (by decide) kk) ?_
  refine ob T1 (mkF mG 19 #[oa a] [(.int (0 : Int32))]) (fun _ kk => XS.iconst X1.here hx rfl (hb yb d13_18) kk) ?_
  obtain ⟨fs, hr, hrun, hended, hW, hsame⟩ := X1.leave (v := some (.int (0 : Int32))) (fun h => by rw [Bd.returns] at h; cases h)
  refine oout (retN X1 hx (t := .boolean) Bd.returns (by simp) (hb yb d13_19) hr) hrun hended ⟨_, _, rfl, ?_, ⟨_, rfl⟩, hW, hsame.mono (by decide) (by decide)⟩
  show Q_rm_ie11 Z w_instance w_A c_A zc a p q h0 n0 _ T1.heap _
  rw [e1]
  exact ⟨rfl, N0, rfl⟩

theorem own_and3 (p : Int32) : ∃ k : Int32, (p &&& (3 : Int32)) = k ∧ (k = (0 : Int32) ∨ (k = (1 : Int32) ∨ k = (2 : Int32) ∨ k = (3 : Int32))) := by
  refine ⟨_, rfl, ?_⟩
  have h1 := c_mask p (3 : Int32) 2 (by decide) (by decide)
  generalize p &&& (3 : Int32) = k at *
  have h3 : k.toInt = 0 ∨ k.toInt = 1 ∨ k.toInt = 2 ∨ k.toInt = 3 := by omega
  rcases h3 with h | h | h | h
  · exact Or.inl (Int32.toInt_inj.mp (h.trans (by decide)))
  · exact Or.inr (Or.inl (Int32.toInt_inj.mp (h.trans (by decide))))
  · exact Or.inr (Or.inr (Or.inl (Int32.toInt_inj.mp (h.trans (by decide)))))
  · exact Or.inr (Or.inr (Or.inr (Int32.toInt_inj.mp (h.trans (by decide)))))

theorem pd_17 : parseMethodDescriptor "(ICC)Ljava/lang/String;" = some ⟨[.int, .char, .char], some (.object "java/lang/String")⟩ := by decide +kernel
theorem pd_18 : parseMethodDescriptor "(ICC)Z" = some ⟨[.int, .char, .char], some .boolean⟩ := by decide +kernel
theorem pd_19 : parseMethodDescriptor "(Ljava/lang/String;Ljava/lang/String;)V" = some ⟨[(.object "java/lang/String"), (.object "java/lang/String")], none⟩ := by decide +kernel
def Q_rm0 (Z : State) (w_instance : Addr) (w_A : Addr) (c_A : Cell) (zc : Int32) (i0 : Int32) (i1 : Int32) (i2 : Int32) (i3 : Int32) (i4 : Int32) (i5 : Int32) (h0 : Heap) (n0 : Nat) (v : Option Value) (h : Heap) (L : List Loc) : Prop := v = some (.int (1 : Int32)) ∧ Fr n0 L
set_option maxRecDepth 65536 in
set_option maxHeartbeats 40000000 in
theorem rm0 (l : Launch) (Z : State) (a0 : Array Value) (hw : ∀ d ∈ tables_1, d.before a0 Z = true) (ws : List Jvm.Cond) (w_instance : Addr) (w_A : Addr) (c_A : Cell) (zc : Int32) (i0 : Int32) (i1 : Int32) (i2 : Int32) (i3 : Int32) (i4 : Int32) (i5 : Int32) (h0 : Heap) (n0 : Nat) (O0 : Old Z n0 h0) (hS : St0 Z w_instance w_A c_A zc ) :
    MetFree l x (head1 (Jvm.Cond.code x code maxLocals ret :: ws) room_1) (fun aG UG => aG = #[(.int i0), (.int i1), (.int i2), (.int i3), (.int i4), (.int i5)] ∧ Z.Warmed39 UG.vm ∧ UG.heap = h0 ∧ CHv Z oEL UG.vm h0) (fun _ _ _ _ _ => True) (fun _ UG oG UG' => ∃ vG LG, oG = .returned vG ∧ Q_rm0 Z w_instance w_A c_A zc i0 i1 i2 i3 i4 i5 h0 n0 vG UG'.heap LG ∧ CHr Z oEL UG.vm UG.heap UG'.vm UG'.heap ∧ ReturnedEndW UG oG UG' LG 32 1152) := by
  refine MetFree.of_bodySF (plainFor_of_name pn_4) hisR ?_
  intro pG eG sG mG rG bG fG cG s₁ Bd hml0 hP hK
  obtain ⟨rfl, hZ, hh, hC⟩ := hP
  have hx := Bd.exec
  have yb := Bd.bytes
  have hml : cG.maxLocals = 16 := hml0
  have hown : sG.vm.findClass "com/example/rigorous_sourcing/rigoroussourcing/domain/RecordReferenceIsEmptyPinLaw" = some mG.cls := findClass_of_methodNamed Bd.named
  have hnm := (name_of_methodNamed Bd.named Bd.method).1
  have X0 : Stand pG l eG room_1 (sG.setVm sG.vm) mG #[(.int i0), (.int i1), (.int i2), (.int i3), (.int i4), (.int i5)] bG fG cG s₁ [] 0 0 := Stand.of_body Bd
  have e0 : s₁.heap = h0 := by rw [← hh, Bd.state]; rfl
  have N0 := Fr.nil n0
  have K0 := Keep.refl h0 []
  have hS0 : sG.Since sG.vm h0.size := (State.WarmedH.refl sG).since _
  have hk0 : h0.size ≤ h0.size := Nat.le_refl _
  have CR0 : CHr Z oEL sG.vm h0 sG.vm h0 := CHr.refl hC
  have hEL : EW Z a0 oEL := own_EW hw
  obtain ⟨S_w_instance, E_w_instance, S_w_A, E_w_A, V_w_A, S_zc, hzc⟩ := (id hS : St0 Z w_instance w_A c_A zc )
  refine ostart (g' := (mkF mG 0 #[oi i0, oi i1, oi i2, oi i3, oi i4, oi i5, .unset, .unset, .unset, .unset, .unset, .unset, .unset, .unset, .unset, .unset] [])) (by first | (simp [entryFrame, mkF, argsToLocals, Value.category, maxLocals]; done) | rfl) ?_
  refine ob s₁ (mkF mG 1 #[oi i0, oi i1, oi i2, oi i3, oi i4, oi i5, .unset, .unset, .unset, .unset, .unset, .unset, .unset, .unset, .unset, .unset] [(.int i0)]) (fun _ kk => XS.iloadN X0.here hx rfl (hb yb at_0) rfl kk) ?_
  refine ob s₁ (mkF mG 2 #[oi i0, oi i1, oi i2, oi i3, oi i4, oi i5, .unset, .unset, .unset, .unset, .unset, .unset, .unset, .unset, .unset, .unset] [(.int (3 : Int32)), (.int i0)]) (fun _ kk => XS.iconst X0.here hx rfl (hb yb at_1) kk) ?_
  refine ob s₁ (mkF mG 3 #[oi i0, oi i1, oi i2, oi i3, oi i4, oi i5, .unset, .unset, .unset, .unset, .unset, .unset, .unset, .unset, .unset, .unset] [(.int (i0 &&& (3 : Int32)))]) (fun _ kk => XS.iand X0.here hx rfl (hb yb at_2) rfl kk) ?_
  refine ob s₁ (mkF mG 5 #[oi i0, oi i1, oi i2, oi i3, oi i4, oi i5, oi (i0 &&& (3 : Int32)), .unset, .unset, .unset, .unset, .unset, .unset, .unset, .unset, .unset] []) (fun _ kk => XS.istore X0.here hx rfl (hb yb at_3) rfl (l' := #[oi i0, oi i1, oi i2, oi i3, oi i4, oi i5, oi (i0 &&& (3 : Int32)), .unset, .unset, .unset, .unset, .unset, .unset, .unset, .unset, .unset]) rfl kk) ?_
  refine ob s₁ (mkF mG 6 #[oi i0, oi i1, oi i2, oi i3, oi i4, oi i5, oi (i0 &&& (3 : Int32)), .unset, .unset, .unset, .unset, .unset, .unset, .unset, .unset, .unset] [(.int i3)]) (fun _ kk => XS.iloadN X0.here hx rfl (hb yb at_5) rfl kk) ?_
  refine ob s₁ (mkF mG 7 #[oi i0, oi i1, oi i2, oi i3, oi i4, oi i5, oi (i0 &&& (3 : Int32)), .unset, .unset, .unset, .unset, .unset, .unset, .unset, .unset, .unset] [(.int (3 : Int32)), (.int i3)]) (fun _ kk => XS.iconst X0.here hx rfl (hb yb at_6) kk) ?_
  refine ob s₁ (mkF mG 8 #[oi i0, oi i1, oi i2, oi i3, oi i4, oi i5, oi (i0 &&& (3 : Int32)), .unset, .unset, .unset, .unset, .unset, .unset, .unset, .unset, .unset] [(.int (i3 &&& (3 : Int32)))]) (fun _ kk => XS.iand X0.here hx rfl (hb yb at_7) rfl kk) ?_
  refine ob s₁ (mkF mG 10 #[oi i0, oi i1, oi i2, oi i3, oi i4, oi i5, oi (i0 &&& (3 : Int32)), oi (i3 &&& (3 : Int32)), .unset, .unset, .unset, .unset, .unset, .unset, .unset, .unset] []) (fun _ kk => XS.istore X0.here hx rfl (hb yb at_8) rfl (l' := #[oi i0, oi i1, oi i2, oi i3, oi i4, oi i5, oi (i0 &&& (3 : Int32)), oi (i3 &&& (3 : Int32)), .unset, .unset, .unset, .unset, .unset, .unset, .unset, .unset]) rfl kk) ?_
  refine ob s₁ (mkF mG 11 #[oi i0, oi i1, oi i2, oi i3, oi i4, oi i5, oi (i0 &&& (3 : Int32)), oi (i3 &&& (3 : Int32)), .unset, .unset, .unset, .unset, .unset, .unset, .unset, .unset] [(.int i1)]) (fun _ kk => XS.iloadN X0.here hx rfl (hb yb at_10) rfl kk) ?_
  refine ob s₁ (mkF mG 14 #[oi i0, oi i1, oi i2, oi i3, oi i4, oi i5, oi (i0 &&& (3 : Int32)), oi (i3 &&& (3 : Int32)), .unset, .unset, .unset, .unset, .unset, .unset, .unset, .unset] [(.int (255 : Int32)), (.int i1)]) (fun _ kk => XS.sipush X0.here hx rfl (hb yb at_11) kk) ?_
  refine ob s₁ (mkF mG 15 #[oi i0, oi i1, oi i2, oi i3, oi i4, oi i5, oi (i0 &&& (3 : Int32)), oi (i3 &&& (3 : Int32)), .unset, .unset, .unset, .unset, .unset, .unset, .unset, .unset] [(.int (i1 &&& (255 : Int32)))]) (fun _ kk => XS.iand X0.here hx rfl (hb yb at_14) rfl kk) ?_
  refine ob s₁ (mkF mG 16 #[oi i0, oi i1, oi i2, oi i3, oi i4, oi i5, oi (i0 &&& (3 : Int32)), oi (i3 &&& (3 : Int32)), .unset, .unset, .unset, .unset, .unset, .unset, .unset, .unset] [(.int ((i1 &&& (255 : Int32)).toUInt32.toUInt16.toUInt32.toInt32))]) (fun _ kk => XS.i2c X0.here hx rfl (hb yb at_15) rfl kk) ?_
  refine ob s₁ (mkF mG 18 #[oi i0, oi i1, oi i2, oi i3, oi i4, oi i5, oi (i0 &&& (3 : Int32)), oi (i3 &&& (3 : Int32)), oi ((i1 &&& (255 : Int32)).toUInt32.toUInt16.toUInt32.toInt32), .unset, .unset, .unset, .unset, .unset, .unset, .unset] []) (fun _ kk => XS.istore X0.here hx rfl (hb yb at_16) rfl (l' := #[oi i0, oi i1, oi i2, oi i3, oi i4, oi i5, oi (i0 &&& (3 : Int32)), oi (i3 &&& (3 : Int32)), oi ((i1 &&& (255 : Int32)).toUInt32.toUInt16.toUInt32.toInt32), .unset, .unset, .unset, .unset, .unset, .unset, .unset]) rfl kk) ?_
  refine ob s₁ (mkF mG 19 #[oi i0, oi i1, oi i2, oi i3, oi i4, oi i5, oi (i0 &&& (3 : Int32)), oi (i3 &&& (3 : Int32)), oi ((i1 &&& (255 : Int32)).toUInt32.toUInt16.toUInt32.toInt32), .unset, .unset, .unset, .unset, .unset, .unset, .unset] [(.int i2)]) (fun _ kk => XS.iloadN X0.here hx rfl (hb yb at_18) rfl kk) ?_
  refine ob s₁ (mkF mG 22 #[oi i0, oi i1, oi i2, oi i3, oi i4, oi i5, oi (i0 &&& (3 : Int32)), oi (i3 &&& (3 : Int32)), oi ((i1 &&& (255 : Int32)).toUInt32.toUInt16.toUInt32.toInt32), .unset, .unset, .unset, .unset, .unset, .unset, .unset] [(.int (255 : Int32)), (.int i2)]) (fun _ kk => XS.sipush X0.here hx rfl (hb yb at_19) kk) ?_
  refine ob s₁ (mkF mG 23 #[oi i0, oi i1, oi i2, oi i3, oi i4, oi i5, oi (i0 &&& (3 : Int32)), oi (i3 &&& (3 : Int32)), oi ((i1 &&& (255 : Int32)).toUInt32.toUInt16.toUInt32.toInt32), .unset, .unset, .unset, .unset, .unset, .unset, .unset] [(.int (i2 &&& (255 : Int32)))]) (fun _ kk => XS.iand X0.here hx rfl (hb yb at_22) rfl kk) ?_
  refine ob s₁ (mkF mG 24 #[oi i0, oi i1, oi i2, oi i3, oi i4, oi i5, oi (i0 &&& (3 : Int32)), oi (i3 &&& (3 : Int32)), oi ((i1 &&& (255 : Int32)).toUInt32.toUInt16.toUInt32.toInt32), .unset, .unset, .unset, .unset, .unset, .unset, .unset] [(.int ((i2 &&& (255 : Int32)).toUInt32.toUInt16.toUInt32.toInt32))]) (fun _ kk => XS.i2c X0.here hx rfl (hb yb at_23) rfl kk) ?_
  refine ob s₁ (mkF mG 26 #[oi i0, oi i1, oi i2, oi i3, oi i4, oi i5, oi (i0 &&& (3 : Int32)), oi (i3 &&& (3 : Int32)), oi ((i1 &&& (255 : Int32)).toUInt32.toUInt16.toUInt32.toInt32), oi ((i2 &&& (255 : Int32)).toUInt32.toUInt16.toUInt32.toInt32), .unset, .unset, .unset, .unset, .unset, .unset] []) (fun _ kk => XS.istore X0.here hx rfl (hb yb at_24) rfl (l' := #[oi i0, oi i1, oi i2, oi i3, oi i4, oi i5, oi (i0 &&& (3 : Int32)), oi (i3 &&& (3 : Int32)), oi ((i1 &&& (255 : Int32)).toUInt32.toUInt16.toUInt32.toInt32), oi ((i2 &&& (255 : Int32)).toUInt32.toUInt16.toUInt32.toInt32), .unset, .unset, .unset, .unset, .unset, .unset]) rfl kk) ?_
  refine ob s₁ (mkF mG 28 #[oi i0, oi i1, oi i2, oi i3, oi i4, oi i5, oi (i0 &&& (3 : Int32)), oi (i3 &&& (3 : Int32)), oi ((i1 &&& (255 : Int32)).toUInt32.toUInt16.toUInt32.toInt32), oi ((i2 &&& (255 : Int32)).toUInt32.toUInt16.toUInt32.toInt32), .unset, .unset, .unset, .unset, .unset, .unset] [(.int i4)]) (fun _ kk => XS.iload X0.here hx rfl (hb yb at_26) rfl kk) ?_
  refine ob s₁ (mkF mG 31 #[oi i0, oi i1, oi i2, oi i3, oi i4, oi i5, oi (i0 &&& (3 : Int32)), oi (i3 &&& (3 : Int32)), oi ((i1 &&& (255 : Int32)).toUInt32.toUInt16.toUInt32.toInt32), oi ((i2 &&& (255 : Int32)).toUInt32.toUInt16.toUInt32.toInt32), .unset, .unset, .unset, .unset, .unset, .unset] [(.int (255 : Int32)), (.int i4)]) (fun _ kk => XS.sipush X0.here hx rfl (hb yb at_28) kk) ?_
  refine ob s₁ (mkF mG 32 #[oi i0, oi i1, oi i2, oi i3, oi i4, oi i5, oi (i0 &&& (3 : Int32)), oi (i3 &&& (3 : Int32)), oi ((i1 &&& (255 : Int32)).toUInt32.toUInt16.toUInt32.toInt32), oi ((i2 &&& (255 : Int32)).toUInt32.toUInt16.toUInt32.toInt32), .unset, .unset, .unset, .unset, .unset, .unset] [(.int (i4 &&& (255 : Int32)))]) (fun _ kk => XS.iand X0.here hx rfl (hb yb at_31) rfl kk) ?_
  refine ob s₁ (mkF mG 33 #[oi i0, oi i1, oi i2, oi i3, oi i4, oi i5, oi (i0 &&& (3 : Int32)), oi (i3 &&& (3 : Int32)), oi ((i1 &&& (255 : Int32)).toUInt32.toUInt16.toUInt32.toInt32), oi ((i2 &&& (255 : Int32)).toUInt32.toUInt16.toUInt32.toInt32), .unset, .unset, .unset, .unset, .unset, .unset] [(.int ((i4 &&& (255 : Int32)).toUInt32.toUInt16.toUInt32.toInt32))]) (fun _ kk => XS.i2c X0.here hx rfl (hb yb at_32) rfl kk) ?_
  refine ob s₁ (mkF mG 35 #[oi i0, oi i1, oi i2, oi i3, oi i4, oi i5, oi (i0 &&& (3 : Int32)), oi (i3 &&& (3 : Int32)), oi ((i1 &&& (255 : Int32)).toUInt32.toUInt16.toUInt32.toInt32), oi ((i2 &&& (255 : Int32)).toUInt32.toUInt16.toUInt32.toInt32), oi ((i4 &&& (255 : Int32)).toUInt32.toUInt16.toUInt32.toInt32), .unset, .unset, .unset, .unset, .unset] []) (fun _ kk => XS.istore X0.here hx rfl (hb yb at_33) rfl (l' := #[oi i0, oi i1, oi i2, oi i3, oi i4, oi i5, oi (i0 &&& (3 : Int32)), oi (i3 &&& (3 : Int32)), oi ((i1 &&& (255 : Int32)).toUInt32.toUInt16.toUInt32.toInt32), oi ((i2 &&& (255 : Int32)).toUInt32.toUInt16.toUInt32.toInt32), oi ((i4 &&& (255 : Int32)).toUInt32.toUInt16.toUInt32.toInt32), .unset, .unset, .unset, .unset, .unset]) rfl kk) ?_
  refine ob s₁ (mkF mG 37 #[oi i0, oi i1, oi i2, oi i3, oi i4, oi i5, oi (i0 &&& (3 : Int32)), oi (i3 &&& (3 : Int32)), oi ((i1 &&& (255 : Int32)).toUInt32.toUInt16.toUInt32.toInt32), oi ((i2 &&& (255 : Int32)).toUInt32.toUInt16.toUInt32.toInt32), oi ((i4 &&& (255 : Int32)).toUInt32.toUInt16.toUInt32.toInt32), .unset, .unset, .unset, .unset, .unset] [(.int i5)]) (fun _ kk => XS.iload X0.here hx rfl (hb yb at_35) rfl kk) ?_
  refine ob s₁ (mkF mG 40 #[oi i0, oi i1, oi i2, oi i3, oi i4, oi i5, oi (i0 &&& (3 : Int32)), oi (i3 &&& (3 : Int32)), oi ((i1 &&& (255 : Int32)).toUInt32.toUInt16.toUInt32.toInt32), oi ((i2 &&& (255 : Int32)).toUInt32.toUInt16.toUInt32.toInt32), oi ((i4 &&& (255 : Int32)).toUInt32.toUInt16.toUInt32.toInt32), .unset, .unset, .unset, .unset, .unset] [(.int (255 : Int32)), (.int i5)]) (fun _ kk => XS.sipush X0.here hx rfl (hb yb at_37) kk) ?_
  refine ob s₁ (mkF mG 41 #[oi i0, oi i1, oi i2, oi i3, oi i4, oi i5, oi (i0 &&& (3 : Int32)), oi (i3 &&& (3 : Int32)), oi ((i1 &&& (255 : Int32)).toUInt32.toUInt16.toUInt32.toInt32), oi ((i2 &&& (255 : Int32)).toUInt32.toUInt16.toUInt32.toInt32), oi ((i4 &&& (255 : Int32)).toUInt32.toUInt16.toUInt32.toInt32), .unset, .unset, .unset, .unset, .unset] [(.int (i5 &&& (255 : Int32)))]) (fun _ kk => XS.iand X0.here hx rfl (hb yb at_40) rfl kk) ?_
  refine ob s₁ (mkF mG 42 #[oi i0, oi i1, oi i2, oi i3, oi i4, oi i5, oi (i0 &&& (3 : Int32)), oi (i3 &&& (3 : Int32)), oi ((i1 &&& (255 : Int32)).toUInt32.toUInt16.toUInt32.toInt32), oi ((i2 &&& (255 : Int32)).toUInt32.toUInt16.toUInt32.toInt32), oi ((i4 &&& (255 : Int32)).toUInt32.toUInt16.toUInt32.toInt32), .unset, .unset, .unset, .unset, .unset] [(.int ((i5 &&& (255 : Int32)).toUInt32.toUInt16.toUInt32.toInt32))]) (fun _ kk => XS.i2c X0.here hx rfl (hb yb at_41) rfl kk) ?_
  refine ob s₁ (mkF mG 44 #[oi i0, oi i1, oi i2, oi i3, oi i4, oi i5, oi (i0 &&& (3 : Int32)), oi (i3 &&& (3 : Int32)), oi ((i1 &&& (255 : Int32)).toUInt32.toUInt16.toUInt32.toInt32), oi ((i2 &&& (255 : Int32)).toUInt32.toUInt16.toUInt32.toInt32), oi ((i4 &&& (255 : Int32)).toUInt32.toUInt16.toUInt32.toInt32), oi ((i5 &&& (255 : Int32)).toUInt32.toUInt16.toUInt32.toInt32), .unset, .unset, .unset, .unset] []) (fun _ kk => XS.istore X0.here hx rfl (hb yb at_42) rfl (l' := #[oi i0, oi i1, oi i2, oi i3, oi i4, oi i5, oi (i0 &&& (3 : Int32)), oi (i3 &&& (3 : Int32)), oi ((i1 &&& (255 : Int32)).toUInt32.toUInt16.toUInt32.toInt32), oi ((i2 &&& (255 : Int32)).toUInt32.toUInt16.toUInt32.toInt32), oi ((i4 &&& (255 : Int32)).toUInt32.toUInt16.toUInt32.toInt32), oi ((i5 &&& (255 : Int32)).toUInt32.toUInt16.toUInt32.toInt32), .unset, .unset, .unset, .unset]) rfl kk) ?_
  obtain ⟨cA, e_cA, rg_cA⟩ : ∃ z, ((i1 &&& (255 : Int32)).toUInt32.toUInt16.toUInt32.toInt32) = z ∧ oRg z := ⟨_, rfl, own_rg i1⟩
  rw [e_cA]
  obtain ⟨cB, e_cB, rg_cB⟩ : ∃ z, ((i2 &&& (255 : Int32)).toUInt32.toUInt16.toUInt32.toInt32) = z ∧ oRg z := ⟨_, rfl, own_rg i2⟩
  rw [e_cB]
  obtain ⟨cC, e_cC, rg_cC⟩ : ∃ z, ((i4 &&& (255 : Int32)).toUInt32.toUInt16.toUInt32.toInt32) = z ∧ oRg z := ⟨_, rfl, own_rg i4⟩
  rw [e_cC]
  obtain ⟨cD, e_cD, rg_cD⟩ : ∃ z, ((i5 &&& (255 : Int32)).toUInt32.toUInt16.toUInt32.toInt32) = z ∧ oRg z := ⟨_, rfl, own_rg i5⟩
  rw [e_cD]
  obtain ⟨nA, e_nA, hn_nA⟩ := own_and3 i0
  rw [e_nA]
  obtain ⟨nB, e_nB, hn_nB⟩ := own_and3 i3
  rw [e_nB]
  rcases hn_nA with rfl | hn_nA
  · rcases hn_nB with rfl | hn_nB
    · skip
      show oGo pG eG bG _ s₁ (mkF mG 44 #[oi i0, oi i1, oi i2, oi i3, oi i4, oi i5, oi (0 : Int32), oi (0 : Int32), oi cA, oi cB, oi cC, oi cD, .unset, .unset, .unset, .unset] [])
      refine ob s₁ (mkF mG 46 #[oi i0, oi i1, oi i2, oi i3, oi i4, oi i5, oi (0 : Int32), oi (0 : Int32), oi cA, oi cB, oi cC, oi cD, .unset, .unset, .unset, .unset] [(.int (0 : Int32))]) (fun _ kk => XS.iload X0.here hx rfl (hb yb at_44) rfl kk) ?_
      refine ob s₁ (mkF mG 48 #[oi i0, oi i1, oi i2, oi i3, oi i4, oi i5, oi (0 : Int32), oi (0 : Int32), oi cA, oi cB, oi cC, oi cD, .unset, .unset, .unset, .unset] [(.int cA), (.int (0 : Int32))]) (fun _ kk => XS.iload X0.here hx rfl (hb yb at_46) rfl kk) ?_
      refine ob s₁ (mkF mG 50 #[oi i0, oi i1, oi i2, oi i3, oi i4, oi i5, oi (0 : Int32), oi (0 : Int32), oi cA, oi cB, oi cC, oi cD, .unset, .unset, .unset, .unset] [(.int cB), (.int cA), (.int (0 : Int32))]) (fun _ kk => XS.iload X0.here hx rfl (hb yb at_48) rfl kk) ?_
      obtain ⟨_, _, ⟨T1, L1, k1, n1⟩, -, X1, ⟨Lc1, hQ1, l1, y1, z1⟩, st1⟩ := Jvm.LawKit.callS X0 hx (y := (⟨"com/example/rigorous_sourcing/rigoroussourcing/domain/RecordReferenceIsEmptyPinLaw", "make", "(ICC)Ljava/lang/String;"⟩ : MethodName)) hown (mvT hZ (ow hw 0 rfl)) (mvT hZ (ow hw 1 rfl)) (mvT hZ (ow hw 2 rfl)) (mvT hZ (ow hw 3 rfl)) (by decide) (backOf (W := 0) (rm_mk0 l Z a0 hw [] w_instance w_A c_A zc cA cB h0 n0 O0 hS ) hZ (ow hw 3 rfl) (ow hw 2 rfl) (by decide) (by decide)) (g := (mkF mG 50 #[oi i0, oi i1, oi i2, oi i3, oi i4, oi i5, oi (0 : Int32), oi (0 : Int32), oi cA, oi cB, oi cC, oi cD, .unset, .unset, .unset, .unset] [(.int cB), (.int cA), (.int (0 : Int32))])) rfl (by rw [hml]; rfl) (argsL := [(.int (0 : Int32)), (.int cA), (.int cB)]) (rest := []) (lenOf pd_17 rfl) rfl (by show 2 * 0 + _ ≤ _; exact Nat.le_of_eq rfl) (hb yb at_50) (fun _ _ => ⟨rfl, e0, (by decide : 0 + 0 ≤ _), (by decide : 0 + 0 ≤ _)⟩)
      dsimp only [Pt.U, Pt.locs, Pt.cells, Pt.slots] at X1 l1 y1 z1 st1 hQ1
      subst l1 y1 z1
      obtain ⟨rfl, N1q, e1⟩ := hQ1
      have N1 := Fr.app N0 N1q
      refine ob T1 (mkF mG 53 #[oi i0, oi i1, oi i2, oi i3, oi i4, oi i5, oi (0 : Int32), oi (0 : Int32), oi cA, oi cB, oi cC, oi cD, .unset, .unset, .unset, .unset] [.null]) (fun _ kk => st1 _ kk) ?_
      refine ob T1 (mkF mG 55 #[oi i0, oi i1, oi i2, oi i3, oi i4, oi i5, oi (0 : Int32), oi (0 : Int32), oi cA, oi cB, oi cC, oi cD, .val .null, .unset, .unset, .unset] []) (fun _ kk => XS.astore X1.here hx rfl (hb yb at_53) rfl rfl (l' := #[oi i0, oi i1, oi i2, oi i3, oi i4, oi i5, oi (0 : Int32), oi (0 : Int32), oi cA, oi cB, oi cC, oi cD, .val .null, .unset, .unset, .unset]) rfl kk) ?_
      refine ob T1 (mkF mG 57 #[oi i0, oi i1, oi i2, oi i3, oi i4, oi i5, oi (0 : Int32), oi (0 : Int32), oi cA, oi cB, oi cC, oi cD, .val .null, .unset, .unset, .unset] [(.int (0 : Int32))]) (fun _ kk => XS.iload X1.here hx rfl (hb yb at_55) rfl kk) ?_
      refine ob T1 (mkF mG 59 #[oi i0, oi i1, oi i2, oi i3, oi i4, oi i5, oi (0 : Int32), oi (0 : Int32), oi cA, oi cB, oi cC, oi cD, .val .null, .unset, .unset, .unset] [(.int cC), (.int (0 : Int32))]) (fun _ kk => XS.iload X1.here hx rfl (hb yb at_57) rfl kk) ?_
      refine ob T1 (mkF mG 61 #[oi i0, oi i1, oi i2, oi i3, oi i4, oi i5, oi (0 : Int32), oi (0 : Int32), oi cA, oi cB, oi cC, oi cD, .val .null, .unset, .unset, .unset] [(.int cD), (.int cC), (.int (0 : Int32))]) (fun _ kk => XS.iload X1.here hx rfl (hb yb at_59) rfl kk) ?_
      obtain ⟨_, _, ⟨T2, L2, k2, n2⟩, -, X2, ⟨Lc2, hQ2, l2, y2, z2⟩, st2⟩ := Jvm.LawKit.callS X1 hx (y := (⟨"com/example/rigorous_sourcing/rigoroussourcing/domain/RecordReferenceIsEmptyPinLaw", "make", "(ICC)Ljava/lang/String;"⟩ : MethodName)) hown (mvT hZ (ow hw 0 rfl)) (mvT hZ (ow hw 1 rfl)) (mvT hZ (ow hw 2 rfl)) (mvT hZ (ow hw 3 rfl)) (by decide) (backOf (W := 0) (rm_mk0 l Z a0 hw [] w_instance w_A c_A zc cC cD h0 n0 O0 hS ) hZ (ow hw 3 rfl) (ow hw 2 rfl) (by decide) (by decide)) (g := (mkF mG 61 #[oi i0, oi i1, oi i2, oi i3, oi i4, oi i5, oi (0 : Int32), oi (0 : Int32), oi cA, oi cB, oi cC, oi cD, .val .null, .unset, .unset, .unset] [(.int cD), (.int cC), (.int (0 : Int32))])) rfl (by rw [hml]; rfl) (argsL := [(.int (0 : Int32)), (.int cC), (.int cD)]) (rest := []) (lenOf pd_17 rfl) rfl (by show 2 * 0 + _ ≤ _; exact Nat.le_of_eq rfl) (hb yb at_61) (fun _ _ => ⟨rfl, e1, (by decide : 0 + 0 ≤ _), (by decide : 0 + 0 ≤ _)⟩)
      dsimp only [Pt.U, Pt.locs, Pt.cells, Pt.slots] at X2 l2 y2 z2 st2 hQ2
      subst l2 y2 z2
      obtain ⟨rfl, N2q, e2⟩ := hQ2
      have N2 := Fr.app N1 N2q
      refine ob T2 (mkF mG 64 #[oi i0, oi i1, oi i2, oi i3, oi i4, oi i5, oi (0 : Int32), oi (0 : Int32), oi cA, oi cB, oi cC, oi cD, .val .null, .unset, .unset, .unset] [.null]) (fun _ kk => st2 _ kk) ?_
      refine ob T2 (mkF mG 66 #[oi i0, oi i1, oi i2, oi i3, oi i4, oi i5, oi (0 : Int32), oi (0 : Int32), oi cA, oi cB, oi cC, oi cD, .val .null, .val .null, .unset, .unset] []) (fun _ kk => XS.astore X2.here hx rfl (hb yb at_64) rfl rfl (l' := #[oi i0, oi i1, oi i2, oi i3, oi i4, oi i5, oi (0 : Int32), oi (0 : Int32), oi cA, oi cB, oi cC, oi cD, .val .null, .val .null, .unset, .unset]) rfl kk) ?_
      refine ob T2 (mkF mG 68 #[oi i0, oi i1, oi i2, oi i3, oi i4, oi i5, oi (0 : Int32), oi (0 : Int32), oi cA, oi cB, oi cC, oi cD, .val .null, .val .null, .unset, .unset] [(.int (0 : Int32))]) (fun _ kk => XS.iload X2.here hx rfl (hb yb at_66) rfl kk) ?_
      refine ob T2 (mkF mG 70 #[oi i0, oi i1, oi i2, oi i3, oi i4, oi i5, oi (0 : Int32), oi (0 : Int32), oi cA, oi cB, oi cC, oi cD, .val .null, .val .null, .unset, .unset] [(.int cA), (.int (0 : Int32))]) (fun _ kk => XS.iload X2.here hx rfl (hb yb at_68) rfl kk) ?_
      refine ob T2 (mkF mG 72 #[oi i0, oi i1, oi i2, oi i3, oi i4, oi i5, oi (0 : Int32), oi (0 : Int32), oi cA, oi cB, oi cC, oi cD, .val .null, .val .null, .unset, .unset] [(.int cB), (.int cA), (.int (0 : Int32))]) (fun _ kk => XS.iload X2.here hx rfl (hb yb at_70) rfl kk) ?_
      obtain ⟨_, _, ⟨T3, L3, k3, n3⟩, -, X3, ⟨Lc3, hQ3, l3, y3, z3⟩, st3⟩ := Jvm.LawKit.callS X2 hx (y := (⟨"com/example/rigorous_sourcing/rigoroussourcing/domain/RecordReferenceIsEmptyPinLaw", "blank", "(ICC)Z"⟩ : MethodName)) hown (mvT hZ (ow hw 26 rfl)) (mvT hZ (ow hw 27 rfl)) (mvT hZ (ow hw 2 rfl)) (mvT hZ (ow hw 28 rfl)) (by decide) (backOf (W := 0) (rm_bk0 l Z a0 hw [] w_instance w_A c_A zc cA cB h0 n0 O0 hS ) hZ (ow hw 28 rfl) (ow hw 2 rfl) (by decide) (by decide)) (g := (mkF mG 72 #[oi i0, oi i1, oi i2, oi i3, oi i4, oi i5, oi (0 : Int32), oi (0 : Int32), oi cA, oi cB, oi cC, oi cD, .val .null, .val .null, .unset, .unset] [(.int cB), (.int cA), (.int (0 : Int32))])) rfl (by rw [hml]; rfl) (argsL := [(.int (0 : Int32)), (.int cA), (.int cB)]) (rest := []) (lenOf pd_18 rfl) rfl (by show 2 * 0 + _ ≤ _; exact Nat.le_of_eq rfl) (hb yb at_72) (fun _ _ => ⟨rfl, e2, (by decide : 0 + 0 ≤ _), (by decide : 0 + 0 ≤ _)⟩)
      dsimp only [Pt.U, Pt.locs, Pt.cells, Pt.slots] at X3 l3 y3 z3 st3 hQ3
      subst l3 y3 z3
      obtain ⟨rfl, N3q, e3⟩ := hQ3
      have N3 := Fr.app N2 N3q
      refine ob T3 (mkF mG 75 #[oi i0, oi i1, oi i2, oi i3, oi i4, oi i5, oi (0 : Int32), oi (0 : Int32), oi cA, oi cB, oi cC, oi cD, .val .null, .val .null, .unset, .unset] [(.int (1 : Int32))]) (fun _ kk => st3 _ kk) ?_
      refine ob T3 (mkF mG 78 #[oi i0, oi i1, oi i2, oi i3, oi i4, oi i5, oi (0 : Int32), oi (0 : Int32), oi cA, oi cB, oi cC, oi cD, .val .null, .val .null, .unset, .unset] []) (fun _ kk => XS.ifNo X3.here hx rfl (hb yb at_75) rfl ((if0 _ _).trans (feq (by decide : ¬ ((1 : Int32) = (0 : Int32)))).1) kk) ?_
      refine ob T3 (mkF mG 80 #[oi i0, oi i1, oi i2, oi i3, oi i4, oi i5, oi (0 : Int32), oi (0 : Int32), oi cA, oi cB, oi cC, oi cD, .val .null, .val .null, .unset, .unset] [(.int (0 : Int32))]) (fun _ kk => XS.iload X3.here hx rfl (hb yb at_78) rfl kk) ?_
      refine ob T3 (mkF mG 82 #[oi i0, oi i1, oi i2, oi i3, oi i4, oi i5, oi (0 : Int32), oi (0 : Int32), oi cA, oi cB, oi cC, oi cD, .val .null, .val .null, .unset, .unset] [(.int cC), (.int (0 : Int32))]) (fun _ kk => XS.iload X3.here hx rfl (hb yb at_80) rfl kk) ?_
      refine ob T3 (mkF mG 84 #[oi i0, oi i1, oi i2, oi i3, oi i4, oi i5, oi (0 : Int32), oi (0 : Int32), oi cA, oi cB, oi cC, oi cD, .val .null, .val .null, .unset, .unset] [(.int cD), (.int cC), (.int (0 : Int32))]) (fun _ kk => XS.iload X3.here hx rfl (hb yb at_82) rfl kk) ?_
      obtain ⟨_, _, ⟨T4, L4, k4, n4⟩, -, X4, ⟨Lc4, hQ4, l4, y4, z4⟩, st4⟩ := Jvm.LawKit.callS X3 hx (y := (⟨"com/example/rigorous_sourcing/rigoroussourcing/domain/RecordReferenceIsEmptyPinLaw", "blank", "(ICC)Z"⟩ : MethodName)) hown (mvT hZ (ow hw 26 rfl)) (mvT hZ (ow hw 27 rfl)) (mvT hZ (ow hw 2 rfl)) (mvT hZ (ow hw 28 rfl)) (by decide) (backOf (W := 0) (rm_bk0 l Z a0 hw [] w_instance w_A c_A zc cC cD h0 n0 O0 hS ) hZ (ow hw 28 rfl) (ow hw 2 rfl) (by decide) (by decide)) (g := (mkF mG 84 #[oi i0, oi i1, oi i2, oi i3, oi i4, oi i5, oi (0 : Int32), oi (0 : Int32), oi cA, oi cB, oi cC, oi cD, .val .null, .val .null, .unset, .unset] [(.int cD), (.int cC), (.int (0 : Int32))])) rfl (by rw [hml]; rfl) (argsL := [(.int (0 : Int32)), (.int cC), (.int cD)]) (rest := []) (lenOf pd_18 rfl) rfl (by show 2 * 0 + _ ≤ _; exact Nat.le_of_eq rfl) (hb yb at_84) (fun _ _ => ⟨rfl, e3, (by decide : 0 + 0 ≤ _), (by decide : 0 + 0 ≤ _)⟩)
      dsimp only [Pt.U, Pt.locs, Pt.cells, Pt.slots] at X4 l4 y4 z4 st4 hQ4
      subst l4 y4 z4
      obtain ⟨rfl, N4q, e4⟩ := hQ4
      have N4 := Fr.app N3 N4q
      refine ob T4 (mkF mG 87 #[oi i0, oi i1, oi i2, oi i3, oi i4, oi i5, oi (0 : Int32), oi (0 : Int32), oi cA, oi cB, oi cC, oi cD, .val .null, .val .null, .unset, .unset] [(.int (1 : Int32))]) (fun _ kk => st4 _ kk) ?_
      refine ob T4 (mkF mG 90 #[oi i0, oi i1, oi i2, oi i3, oi i4, oi i5, oi (0 : Int32), oi (0 : Int32), oi cA, oi cB, oi cC, oi cD, .val .null, .val .null, .unset, .unset] []) (fun _ kk => XS.ifNo X4.here hx rfl (hb yb at_87) rfl ((if0 _ _).trans (feq (by decide : ¬ ((1 : Int32) = (0 : Int32)))).1) kk) ?_
      refine ob T4 (mkF mG 91 #[oi i0, oi i1, oi i2, oi i3, oi i4, oi i5, oi (0 : Int32), oi (0 : Int32), oi cA, oi cB, oi cC, oi cD, .val .null, .val .null, .unset, .unset] [(.int (1 : Int32))]) (fun _ kk => XS.iconst X4.here hx rfl (hb yb at_90) kk) ?_
      refine ob T4 (mkF mG 95 #[oi i0, oi i1, oi i2, oi i3, oi i4, oi i5, oi (0 : Int32), oi (0 : Int32), oi cA, oi cB, oi cC, oi cD, .val .null, .val .null, .unset, .unset] [(.int (1 : Int32))]) (fun _ kk => XS.goto X4.here hx rfl (pc0 := 91) (pc' := 95) rfl (hb yb at_91) (by decide) (by decide) kk) ?_
      refine ob T4 (mkF mG 97 #[oi i0, oi i1, oi i2, oi i3, oi i4, oi i5, oi (0 : Int32), oi (0 : Int32), oi cA, oi cB, oi cC, oi cD, .val .null, .val .null, oi (1 : Int32), .unset] []) (fun _ kk => XS.istore X4.here hx rfl (hb yb at_95) rfl (l' := #[oi i0, oi i1, oi i2, oi i3, oi i4, oi i5, oi (0 : Int32), oi (0 : Int32), oi cA, oi cB, oi cC, oi cD, .val .null, .val .null, oi (1 : Int32), .unset]) rfl kk) ?_
      obtain ⟨T5, h5, X5, e5, E5, A5, D5, _x5, st5⟩ := newO X4 hx hZ hown (ow hw 29 rfl) (ow hw 30 rfl) (ow hw 31 rfl) e4 (g := (mkF mG 97 #[oi i0, oi i1, oi i2, oi i3, oi i4, oi i5, oi (0 : Int32), oi (0 : Int32), oi cA, oi cB, oi cC, oi cD, .val .null, .val .null, oi (1 : Int32), .unset] [])) rfl (hb yb at_97) (by decide) (by decide)
      obtain ⟨b5, g5⟩ : ∃ z, z = h0.size := ⟨_, rfl⟩
      rw [← g5] at A5 D5 st5
      have n_b5 : n0 ≤ b5 := Nat.le_trans (on0 O0) (Nat.le_of_eq g5.symm)
      have sz_b5 : h0.size ≤ b5 := Nat.le_trans K0.1 (Nat.le_of_eq g5.symm)
      have CS5 : CHr Z oEL sG.vm h0 sG.vm h5 := CHr.ext E5 CR0.1
      have CR5 := CR0.trans CS5
      have O5 := O0.ext E5
      have K5 := K0.ext E5
      have sf_b5 : Safe Z oEL sG.vm h5 b5 := Safe.ext E5 CR0.1 (Safe.new (Nat.le_of_eq g5.symm))
      have F5_37 : Fld Z h5 b5 "com/example/rigorous_sourcing/rigoroussourcing/domain/RecordReference" "mId" "Ljava/lang/String;" .null := D5 (Or.inr (ow hw 37 rfl)) (ty := (.object "java/lang/String")) (by decide)
      have F5_69 : Fld Z h5 b5 "com/example/rigorous_sourcing/rigoroussourcing/domain/RecordReference" "mCode" "Ljava/lang/String;" .null := D5 (Or.inr (ow hw 69 rfl)) (ty := (.object "java/lang/String")) (by decide)
      refine ob T5 (mkF mG 100 #[oi i0, oi i1, oi i2, oi i3, oi i4, oi i5, oi (0 : Int32), oi (0 : Int32), oi cA, oi cB, oi cC, oi cD, .val .null, .val .null, oi (1 : Int32), .unset] [(.ref b5)]) (fun _ kk => st5 _ kk) ?_
      refine ob T5 (mkF mG 101 #[oi i0, oi i1, oi i2, oi i3, oi i4, oi i5, oi (0 : Int32), oi (0 : Int32), oi cA, oi cB, oi cC, oi cD, .val .null, .val .null, oi (1 : Int32), .unset] [(.ref b5), (.ref b5)]) (fun _ kk => XS.dup X5.here hx rfl (hb yb at_100) rfl rfl kk) ?_
      refine ob T5 (mkF mG 103 #[oi i0, oi i1, oi i2, oi i3, oi i4, oi i5, oi (0 : Int32), oi (0 : Int32), oi cA, oi cB, oi cC, oi cD, .val .null, .val .null, oi (1 : Int32), .unset] [.null, (.ref b5), (.ref b5)]) (fun _ kk => XS.aload X5.here hx rfl (hb yb at_101) rfl rfl kk) ?_
      refine ob T5 (mkF mG 105 #[oi i0, oi i1, oi i2, oi i3, oi i4, oi i5, oi (0 : Int32), oi (0 : Int32), oi cA, oi cB, oi cC, oi cD, .val .null, .val .null, oi (1 : Int32), .unset] [.null, .null, (.ref b5), (.ref b5)]) (fun _ kk => XS.aload X5.here hx rfl (hb yb at_103) rfl rfl kk) ?_
      obtain ⟨_, _, ⟨T6, L6, k6, n6⟩, -, X6, ⟨Lc6, hQ6, l6, y6, z6⟩, st6⟩ := X5.specialBack hx (y := (⟨"com/example/rigorous_sourcing/rigoroussourcing/domain/RecordReference", "<init>", "(Ljava/lang/String;Ljava/lang/String;)V"⟩ : MethodName)) rfl hown (mvT hZ (ow hw 32 rfl)) (mvT hZ (ow hw 33 rfl)) (mvT hZ (ow hw 34 rfl)) (by decide) (backOf (W := 1) (rm_rr00 l Z a0 hw [] w_instance w_A c_A zc b5 .null .null h5 n0 O5 hS A5 F5_37 F5_69 n_b5) hZ (ow hw 34 rfl) (ow hw 31 rfl) (by decide) (by decide)) (g := (mkF mG 105 #[oi i0, oi i1, oi i2, oi i3, oi i4, oi i5, oi (0 : Int32), oi (0 : Int32), oi cA, oi cB, oi cC, oi cD, .val .null, .val .null, oi (1 : Int32), .unset] [.null, .null, (.ref b5), (.ref b5)])) rfl (by rw [hml]; rfl) (Steps.refl _) (a := b5) (argsL := [.null, .null]) (rest := [(.ref b5)]) (lenOf pd_19 rfl) rfl (by show 2 * 0 + _ ≤ _; exact Nat.le_of_eq rfl) (hb yb at_105) (fun _ _ => ⟨rfl, e5, (by decide : 1 + 0 ≤ _), (by decide : 2 + 0 ≤ _)⟩)
      dsimp only [Pt.U, Pt.locs, Pt.cells, Pt.slots] at X6 l6 y6 z6 st6 hQ6
      subst l6 y6 z6
      obtain ⟨h6, e6⟩ : ∃ h, T6.heap = h := ⟨_, rfl⟩
      rw [e6] at hQ6
      obtain ⟨rfl, N6q, K6q, O6, F6_0, F6_1⟩ := hQ6
      have N6 := Fr.app N4 N6q
      have K6 := K5.trans K6q (allS (Or.inr sz_b5) all0)
      have CS6 : CHr Z oEL sG.vm h5 sG.vm h6 := CHr.keep K6q (sfS (Safe.exa hZ.alike A5 (by decide) (by decide)) sf0) CR5.1
      have CR6 := CR5.trans CS6
      refine ob T6 (mkF mG 108 #[oi i0, oi i1, oi i2, oi i3, oi i4, oi i5, oi (0 : Int32), oi (0 : Int32), oi cA, oi cB, oi cC, oi cD, .val .null, .val .null, oi (1 : Int32), .unset] [(.ref b5)]) (fun _ kk => st6.trans kk) ?_
      refine ob T6 (mkF mG 110 #[oi i0, oi i1, oi i2, oi i3, oi i4, oi i5, oi (0 : Int32), oi (0 : Int32), oi cA, oi cB, oi cC, oi cD, .val .null, .val .null, oi (1 : Int32), oa b5] []) (fun _ kk => XS.astore X6.here hx rfl (hb yb at_108) rfl rfl (l' := #[oi i0, oi i1, oi i2, oi i3, oi i4, oi i5, oi (0 : Int32), oi (0 : Int32), oi cA, oi cB, oi cC, oi cD, .val .null, .val .null, oi (1 : Int32), oa b5]) rfl kk) ?_
      refine ob T6 (mkF mG 112 #[oi i0, oi i1, oi i2, oi i3, oi i4, oi i5, oi (0 : Int32), oi (0 : Int32), oi cA, oi cB, oi cC, oi cD, .val .null, .val .null, oi (1 : Int32), oa b5] [(.ref b5)]) (fun _ kk => XS.aload X6.here hx rfl (hb yb at_110) rfl rfl kk) ?_
      obtain ⟨cq7, kq7, q7a, q7b, q7c⟩ := isOf hZ e6 (A5.keep K6q)
      obtain ⟨_, _, ⟨T7, L7, k7, n7⟩, -, X7, ⟨Lc7, hQ7, l7, y7, z7⟩, st7⟩ := X6.virtualBack hx (y := (⟨"com/example/rigorous_sourcing/rigoroussourcing/domain/RecordReference", "isEmpty", "()Z"⟩ : MethodName)) (z := (⟨"com/example/rigorous_sourcing/rigoroussourcing/domain/RecordReference", "isEmpty", "()Z"⟩ : MethodName)) hown (mvT hZ (ow hw 70 rfl)) (mvT hZ (ow hw 71 rfl)) (notFace_of_selects (args := #[]) (mvT hZ (ow hw 73 rfl))) (mvT hZ (ow hw 73 rfl)) (mvT hZ (ow hw 72 rfl)) (by decide) (backOf (W := 0) (rm_ie00 l Z a0 hw [] w_instance w_A c_A zc b5 h6 n0 O6 hS F6_0 F6_1) hZ (ow hw 74 rfl) (ow hw 31 rfl) (by decide) (by decide)) q7a q7c (g := (mkF mG 112 #[oi i0, oi i1, oi i2, oi i3, oi i4, oi i5, oi (0 : Int32), oi (0 : Int32), oi cA, oi cB, oi cC, oi cD, .val .null, .val .null, oi (1 : Int32), oa b5] [(.ref b5)])) rfl (by rw [hml]; rfl) (Steps.refl _) (argsL := []) (rest := []) (lenOf pd_2 rfl) rfl (by show 2 * 0 + _ ≤ _; exact Nat.le_of_eq rfl) (hb yb at_112) (fun _ _ => ⟨rfl, e6, (by decide : 1 + 0 ≤ _), (by decide : 2 + 0 ≤ _)⟩)
      dsimp only [Pt.U, Pt.locs, Pt.cells, Pt.slots] at X7 l7 y7 z7 st7 hQ7
      subst l7 y7 z7
      obtain ⟨rfl, N7q, e7⟩ := hQ7
      have N7 := Fr.app N6 N7q
      refine ob T7 (mkF mG 115 #[oi i0, oi i1, oi i2, oi i3, oi i4, oi i5, oi (0 : Int32), oi (0 : Int32), oi cA, oi cB, oi cC, oi cD, .val .null, .val .null, oi (1 : Int32), oa b5] [(.int (1 : Int32))]) (fun _ kk => st7.trans kk) ?_
      refine ob T7 (mkF mG 117 #[oi i0, oi i1, oi i2, oi i3, oi i4, oi i5, oi (0 : Int32), oi (0 : Int32), oi cA, oi cB, oi cC, oi cD, .val .null, .val .null, oi (1 : Int32), oa b5] [(.int (1 : Int32)), (.int (1 : Int32))]) (fun _ kk => XS.iload X7.here hx rfl (hb yb at_115) rfl kk) ?_
      refine ob T7 (mkF mG 120 #[oi i0, oi i1, oi i2, oi i3, oi i4, oi i5, oi (0 : Int32), oi (0 : Int32), oi cA, oi cB, oi cC, oi cD, .val .null, .val .null, oi (1 : Int32), oa b5] []) (fun _ kk => XS.icmpNo X7.here hx rfl (hb yb at_117) rfl (teq (by decide : (1 : Int32) = (1 : Int32))).2 kk) ?_
      refine ob T7 (mkF mG 121 #[oi i0, oi i1, oi i2, oi i3, oi i4, oi i5, oi (0 : Int32), oi (0 : Int32), oi cA, oi cB, oi cC, oi cD, .val .null, .val .null, oi (1 : Int32), oa b5] [(.int (1 : Int32))]) (fun _ kk => XS.iconst X7.here hx rfl (hb yb at_120) kk) ?_
      refine ob T7 (mkF mG 125 #[oi i0, oi i1, oi i2, oi i3, oi i4, oi i5, oi (0 : Int32), oi (0 : Int32), oi cA, oi cB, oi cC, oi cD, .val .null, .val .null, oi (1 : Int32), oa b5] [(.int (1 : Int32))]) (fun _ kk => XS.goto X7.here hx rfl (pc0 := 121) (pc' := 125) rfl (hb yb at_121) (by decide) (by decide) kk) ?_
      obtain ⟨fs, hr, hrun, hended, hW, hsame⟩ := X7.leave (v := some (.int (1 : Int32))) (fun h => by rw [Bd.returns] at h; cases h)
      obtain ⟨w1, w2, w3⟩ := State.Since.ended (U := T7.setFrames fs) hS0 hW (by show _ ≤ T7.heap.size; rw [e7]; exact (Nat.le_trans (Nat.le_trans hk0 CS5.2.1) CS6.2.1)) hsame
      have CF := CR6.trans (CHv.at X7 hZ hEL CR6.1)
      refine oout (retN X7 hx (t := .boolean) Bd.returns (by simp) (hb yb at_125) hr) hrun hended ⟨_, _, rfl, ?_, ?_, ⟨_, rfl⟩, w1, w2, w3.mono (by decide) (by decide)⟩
      · show Q_rm0 Z w_instance w_A c_A zc i0 i1 i2 i3 i4 i5 h0 n0 _ T7.heap _
        rw [e7]
        exact ⟨rfl, N7⟩
      · show CHr Z oEL sG.vm sG.heap T7.vm T7.heap
        rw [hh, e7]
        exact CF
    · skip
      show oGo pG eG bG _ s₁ (mkF mG 44 #[oi i0, oi i1, oi i2, oi i3, oi i4, oi i5, oi (0 : Int32), oi nB, oi cA, oi cB, oi cC, oi cD, .unset, .unset, .unset, .unset] [])
      refine ob s₁ (mkF mG 46 #[oi i0, oi i1, oi i2, oi i3, oi i4, oi i5, oi (0 : Int32), oi nB, oi cA, oi cB, oi cC, oi cD, .unset, .unset, .unset, .unset] [(.int (0 : Int32))]) (fun _ kk => XS.iload X0.here hx rfl (hb yb at_44) rfl kk) ?_
      refine ob s₁ (mkF mG 48 #[oi i0, oi i1, oi i2, oi i3, oi i4, oi i5, oi (0 : Int32), oi nB, oi cA, oi cB, oi cC, oi cD, .unset, .unset, .unset, .unset] [(.int cA), (.int (0 : Int32))]) (fun _ kk => XS.iload X0.here hx rfl (hb yb at_46) rfl kk) ?_
      refine ob s₁ (mkF mG 50 #[oi i0, oi i1, oi i2, oi i3, oi i4, oi i5, oi (0 : Int32), oi nB, oi cA, oi cB, oi cC, oi cD, .unset, .unset, .unset, .unset] [(.int cB), (.int cA), (.int (0 : Int32))]) (fun _ kk => XS.iload X0.here hx rfl (hb yb at_48) rfl kk) ?_
      obtain ⟨_, _, ⟨T8, L8, k8, n8⟩, -, X8, ⟨Lc8, hQ8, l8, y8, z8⟩, st8⟩ := Jvm.LawKit.callS X0 hx (y := (⟨"com/example/rigorous_sourcing/rigoroussourcing/domain/RecordReferenceIsEmptyPinLaw", "make", "(ICC)Ljava/lang/String;"⟩ : MethodName)) hown (mvT hZ (ow hw 0 rfl)) (mvT hZ (ow hw 1 rfl)) (mvT hZ (ow hw 2 rfl)) (mvT hZ (ow hw 3 rfl)) (by decide) (backOf (W := 0) (rm_mk0 l Z a0 hw [] w_instance w_A c_A zc cA cB h0 n0 O0 hS ) hZ (ow hw 3 rfl) (ow hw 2 rfl) (by decide) (by decide)) (g := (mkF mG 50 #[oi i0, oi i1, oi i2, oi i3, oi i4, oi i5, oi (0 : Int32), oi nB, oi cA, oi cB, oi cC, oi cD, .unset, .unset, .unset, .unset] [(.int cB), (.int cA), (.int (0 : Int32))])) rfl (by rw [hml]; rfl) (argsL := [(.int (0 : Int32)), (.int cA), (.int cB)]) (rest := []) (lenOf pd_17 rfl) rfl (by show 2 * 0 + _ ≤ _; exact Nat.le_of_eq rfl) (hb yb at_50) (fun _ _ => ⟨rfl, e0, (by decide : 0 + 0 ≤ _), (by decide : 0 + 0 ≤ _)⟩)
      dsimp only [Pt.U, Pt.locs, Pt.cells, Pt.slots] at X8 l8 y8 z8 st8 hQ8
      subst l8 y8 z8
      obtain ⟨rfl, N8q, e8⟩ := hQ8
      have N8 := Fr.app N0 N8q
      refine ob T8 (mkF mG 53 #[oi i0, oi i1, oi i2, oi i3, oi i4, oi i5, oi (0 : Int32), oi nB, oi cA, oi cB, oi cC, oi cD, .unset, .unset, .unset, .unset] [.null]) (fun _ kk => st8 _ kk) ?_
      refine ob T8 (mkF mG 55 #[oi i0, oi i1, oi i2, oi i3, oi i4, oi i5, oi (0 : Int32), oi nB, oi cA, oi cB, oi cC, oi cD, .val .null, .unset, .unset, .unset] []) (fun _ kk => XS.astore X8.here hx rfl (hb yb at_53) rfl rfl (l' := #[oi i0, oi i1, oi i2, oi i3, oi i4, oi i5, oi (0 : Int32), oi nB, oi cA, oi cB, oi cC, oi cD, .val .null, .unset, .unset, .unset]) rfl kk) ?_
      refine ob T8 (mkF mG 57 #[oi i0, oi i1, oi i2, oi i3, oi i4, oi i5, oi (0 : Int32), oi nB, oi cA, oi cB, oi cC, oi cD, .val .null, .unset, .unset, .unset] [(.int nB)]) (fun _ kk => XS.iload X8.here hx rfl (hb yb at_55) rfl kk) ?_
      refine ob T8 (mkF mG 59 #[oi i0, oi i1, oi i2, oi i3, oi i4, oi i5, oi (0 : Int32), oi nB, oi cA, oi cB, oi cC, oi cD, .val .null, .unset, .unset, .unset] [(.int cC), (.int nB)]) (fun _ kk => XS.iload X8.here hx rfl (hb yb at_57) rfl kk) ?_
      refine ob T8 (mkF mG 61 #[oi i0, oi i1, oi i2, oi i3, oi i4, oi i5, oi (0 : Int32), oi nB, oi cA, oi cB, oi cC, oi cD, .val .null, .unset, .unset, .unset] [(.int cD), (.int cC), (.int nB)]) (fun _ kk => XS.iload X8.here hx rfl (hb yb at_59) rfl kk) ?_
      obtain ⟨_, _, ⟨T9, L9, k9, n9⟩, -, X9, hS9, gs9, ⟨Lc9, hQ9, l9, y9, z9, CS9⟩, st9⟩ := callSS X8 hx (y := (⟨"com/example/rigorous_sourcing/rigoroussourcing/domain/RecordReferenceIsEmptyPinLaw", "make", "(ICC)Ljava/lang/String;"⟩ : MethodName)) hown (mvT hZ (ow hw 0 rfl)) (mvT hZ (ow hw 1 rfl)) (mvT hZ (ow hw 2 rfl)) (mvT hZ (ow hw 3 rfl)) (by decide) (backOfSH (W := 0) (rm_mkA l Z a0 hw [] w_instance w_A c_A zc nB cC cD h0 n0 O0 hS hn_nB rg_cC rg_cD) hZ (ow hw 3 rfl) (ow hw 2 rfl) (by decide) (by decide) hEL CR0.1) (g := (mkF mG 61 #[oi i0, oi i1, oi i2, oi i3, oi i4, oi i5, oi (0 : Int32), oi nB, oi cA, oi cB, oi cC, oi cD, .val .null, .unset, .unset, .unset] [(.int cD), (.int cC), (.int nB)])) rfl (by rw [hml]; rfl) (argsL := [(.int nB), (.int cC), (.int cD)]) (rest := []) (lenOf pd_17 rfl) rfl (by show 2 * 0 + _ ≤ _; exact Nat.le_of_eq rfl) (hb yb at_61) (fun _ _ => ⟨rfl, e8, (by decide : 0 + 6 ≤ _), (by decide : 0 + 40 ≤ _)⟩)
      dsimp only [Pt.U, Pt.locs, Pt.cells, Pt.slots] at X9 l9 y9 z9 st9 hQ9 hS9 gs9 CS9
      subst l9 y9 z9
      obtain ⟨X9, hS9, hZ, hown⟩ := rebS hS0 (by rw [e8]; exact hk0) X9 hS9 gs9 hZ hown
      obtain ⟨h9, e9⟩ : ∃ h, T9.heap = h := ⟨_, rfl⟩
      rw [e9] at hQ9
      obtain ⟨b0_9, rfl, N9q, K9q, O9, n_b0_9, z_b0_9, F9_0⟩ := hQ9
      have N9 := Fr.app N8 N9q
      have sz_b0_9 : h0.size ≤ b0_9 := Nat.le_trans K0.1 z_b0_9
      have K9 := K0.trans K9q all0
      rw [e9] at CS9 hS9
      have hk9 : h9.size ≤ h9.size := Nat.le_refl _
      have CR9 := CR0.trans CS9
      refine ob T9 (mkF mG 64 #[oi i0, oi i1, oi i2, oi i3, oi i4, oi i5, oi (0 : Int32), oi nB, oi cA, oi cB, oi cC, oi cD, .val .null, .unset, .unset, .unset] [(.ref b0_9)]) (fun _ kk => st9.trans kk) ?_
      refine ob T9 (mkF mG 66 #[oi i0, oi i1, oi i2, oi i3, oi i4, oi i5, oi (0 : Int32), oi nB, oi cA, oi cB, oi cC, oi cD, .val .null, oa b0_9, .unset, .unset] []) (fun _ kk => XS.astore X9.here hx rfl (hb yb at_64) rfl rfl (l' := #[oi i0, oi i1, oi i2, oi i3, oi i4, oi i5, oi (0 : Int32), oi nB, oi cA, oi cB, oi cC, oi cD, .val .null, oa b0_9, .unset, .unset]) rfl kk) ?_
      refine ob T9 (mkF mG 68 #[oi i0, oi i1, oi i2, oi i3, oi i4, oi i5, oi (0 : Int32), oi nB, oi cA, oi cB, oi cC, oi cD, .val .null, oa b0_9, .unset, .unset] [(.int (0 : Int32))]) (fun _ kk => XS.iload X9.here hx rfl (hb yb at_66) rfl kk) ?_
      refine ob T9 (mkF mG 70 #[oi i0, oi i1, oi i2, oi i3, oi i4, oi i5, oi (0 : Int32), oi nB, oi cA, oi cB, oi cC, oi cD, .val .null, oa b0_9, .unset, .unset] [(.int cA), (.int (0 : Int32))]) (fun _ kk => XS.iload X9.here hx rfl (hb yb at_68) rfl kk) ?_
      refine ob T9 (mkF mG 72 #[oi i0, oi i1, oi i2, oi i3, oi i4, oi i5, oi (0 : Int32), oi nB, oi cA, oi cB, oi cC, oi cD, .val .null, oa b0_9, .unset, .unset] [(.int cB), (.int cA), (.int (0 : Int32))]) (fun _ kk => XS.iload X9.here hx rfl (hb yb at_70) rfl kk) ?_
      obtain ⟨_, _, ⟨T10, L10, k10, n10⟩, -, X10, ⟨Lc10, hQ10, l10, y10, z10⟩, st10⟩ := Jvm.LawKit.callS X9 hx (y := (⟨"com/example/rigorous_sourcing/rigoroussourcing/domain/RecordReferenceIsEmptyPinLaw", "blank", "(ICC)Z"⟩ : MethodName)) hown (mvT hZ (ow hw 26 rfl)) (mvT hZ (ow hw 27 rfl)) (mvT hZ (ow hw 2 rfl)) (mvT hZ (ow hw 28 rfl)) (by decide) (backOf (W := 0) (rm_bk0 l Z a0 hw [] w_instance w_A c_A zc cA cB h9 n0 O9 hS ) hZ (ow hw 28 rfl) (ow hw 2 rfl) (by decide) (by decide)) (g := (mkF mG 72 #[oi i0, oi i1, oi i2, oi i3, oi i4, oi i5, oi (0 : Int32), oi nB, oi cA, oi cB, oi cC, oi cD, .val .null, oa b0_9, .unset, .unset] [(.int cB), (.int cA), (.int (0 : Int32))])) rfl (by rw [hml]; rfl) (argsL := [(.int (0 : Int32)), (.int cA), (.int cB)]) (rest := []) (lenOf pd_18 rfl) rfl (by show 2 * 0 + _ ≤ _; exact Nat.le_of_eq rfl) (hb yb at_72) (fun _ _ => ⟨rfl, e9, (by decide : 6 + 0 ≤ _), (by decide : 40 + 0 ≤ _)⟩)
      dsimp only [Pt.U, Pt.locs, Pt.cells, Pt.slots] at X10 l10 y10 z10 st10 hQ10
      subst l10 y10 z10
      obtain ⟨rfl, N10q, e10⟩ := hQ10
      have N10 := Fr.app N9 N10q
      refine ob T10 (mkF mG 75 #[oi i0, oi i1, oi i2, oi i3, oi i4, oi i5, oi (0 : Int32), oi nB, oi cA, oi cB, oi cC, oi cD, .val .null, oa b0_9, .unset, .unset] [(.int (1 : Int32))]) (fun _ kk => st10 _ kk) ?_
      refine ob T10 (mkF mG 78 #[oi i0, oi i1, oi i2, oi i3, oi i4, oi i5, oi (0 : Int32), oi nB, oi cA, oi cB, oi cC, oi cD, .val .null, oa b0_9, .unset, .unset] []) (fun _ kk => XS.ifNo X10.here hx rfl (hb yb at_75) rfl ((if0 _ _).trans (feq (by decide : ¬ ((1 : Int32) = (0 : Int32)))).1) kk) ?_
      refine ob T10 (mkF mG 80 #[oi i0, oi i1, oi i2, oi i3, oi i4, oi i5, oi (0 : Int32), oi nB, oi cA, oi cB, oi cC, oi cD, .val .null, oa b0_9, .unset, .unset] [(.int nB)]) (fun _ kk => XS.iload X10.here hx rfl (hb yb at_78) rfl kk) ?_
      refine ob T10 (mkF mG 82 #[oi i0, oi i1, oi i2, oi i3, oi i4, oi i5, oi (0 : Int32), oi nB, oi cA, oi cB, oi cC, oi cD, .val .null, oa b0_9, .unset, .unset] [(.int cC), (.int nB)]) (fun _ kk => XS.iload X10.here hx rfl (hb yb at_80) rfl kk) ?_
      refine ob T10 (mkF mG 84 #[oi i0, oi i1, oi i2, oi i3, oi i4, oi i5, oi (0 : Int32), oi nB, oi cA, oi cB, oi cC, oi cD, .val .null, oa b0_9, .unset, .unset] [(.int cD), (.int cC), (.int nB)]) (fun _ kk => XS.iload X10.here hx rfl (hb yb at_82) rfl kk) ?_
      obtain ⟨_, _, ⟨T11, L11, k11, n11⟩, -, X11, ⟨Lc11, hQ11, l11, y11, z11⟩, st11⟩ := Jvm.LawKit.callS X10 hx (y := (⟨"com/example/rigorous_sourcing/rigoroussourcing/domain/RecordReferenceIsEmptyPinLaw", "blank", "(ICC)Z"⟩ : MethodName)) hown (mvT hZ (ow hw 26 rfl)) (mvT hZ (ow hw 27 rfl)) (mvT hZ (ow hw 2 rfl)) (mvT hZ (ow hw 28 rfl)) (by decide) (backOf (W := 0) (rm_bkA l Z a0 hw [] w_instance w_A c_A zc nB cC cD h9 n0 O9 hS hn_nB) hZ (ow hw 28 rfl) (ow hw 2 rfl) (by decide) (by decide)) (g := (mkF mG 84 #[oi i0, oi i1, oi i2, oi i3, oi i4, oi i5, oi (0 : Int32), oi nB, oi cA, oi cB, oi cC, oi cD, .val .null, oa b0_9, .unset, .unset] [(.int cD), (.int cC), (.int nB)])) rfl (by rw [hml]; rfl) (argsL := [(.int nB), (.int cC), (.int cD)]) (rest := []) (lenOf pd_18 rfl) rfl (by show 2 * 0 + _ ≤ _; exact Nat.le_of_eq rfl) (hb yb at_84) (fun _ _ => ⟨rfl, e10, (by decide : 6 + 0 ≤ _), (by decide : 40 + 0 ≤ _)⟩)
      dsimp only [Pt.U, Pt.locs, Pt.cells, Pt.slots] at X11 l11 y11 z11 st11 hQ11
      subst l11 y11 z11
      obtain ⟨rfl, N11q, e11⟩ := hQ11
      have N11 := Fr.app N10 N11q
      refine ob T11 (mkF mG 87 #[oi i0, oi i1, oi i2, oi i3, oi i4, oi i5, oi (0 : Int32), oi nB, oi cA, oi cB, oi cC, oi cD, .val .null, oa b0_9, .unset, .unset] [(.int (oB (oBl nB cC cD)))]) (fun _ kk => st11 _ kk) ?_
      cases hb12 : oBl nB cC cD with
      | false =>
        show oGo pG eG bG _ T11 (mkF mG 87 #[oi i0, oi i1, oi i2, oi i3, oi i4, oi i5, oi (0 : Int32), oi nB, oi cA, oi cB, oi cC, oi cD, .val .null, oa b0_9, .unset, .unset] [(.int (0 : Int32))])
        have F9_0_f := hb12 ▸ F9_0
        refine ob T11 (mkF mG 94 #[oi i0, oi i1, oi i2, oi i3, oi i4, oi i5, oi (0 : Int32), oi nB, oi cA, oi cB, oi cC, oi cD, .val .null, oa b0_9, .unset, .unset] []) (fun _ kk => XS.ifYes X11.here hx rfl (pc0 := 87) (pc' := 94) rfl (hb yb at_87) rfl ((if0 _ _).trans (teq (by decide : (0 : Int32) = (0 : Int32))).1) (by decide) (by decide) kk) ?_
        refine ob T11 (mkF mG 95 #[oi i0, oi i1, oi i2, oi i3, oi i4, oi i5, oi (0 : Int32), oi nB, oi cA, oi cB, oi cC, oi cD, .val .null, oa b0_9, .unset, .unset] [(.int (0 : Int32))]) (fun _ kk => XS.iconst X11.here hx rfl (hb yb at_94) kk) ?_
        refine ob T11 (mkF mG 97 #[oi i0, oi i1, oi i2, oi i3, oi i4, oi i5, oi (0 : Int32), oi nB, oi cA, oi cB, oi cC, oi cD, .val .null, oa b0_9, oi (0 : Int32), .unset] []) (fun _ kk => XS.istore X11.here hx rfl (hb yb at_95) rfl (l' := #[oi i0, oi i1, oi i2, oi i3, oi i4, oi i5, oi (0 : Int32), oi nB, oi cA, oi cB, oi cC, oi cD, .val .null, oa b0_9, oi (0 : Int32), .unset]) rfl kk) ?_
        obtain ⟨T13, h13, X13, e13, E13, A13, D13, _x13, st13⟩ := newO X11 hx hZ hown (ow hw 29 rfl) (ow hw 30 rfl) (ow hw 31 rfl) e11 (g := (mkF mG 97 #[oi i0, oi i1, oi i2, oi i3, oi i4, oi i5, oi (0 : Int32), oi nB, oi cA, oi cB, oi cC, oi cD, .val .null, oa b0_9, oi (0 : Int32), .unset] [])) rfl (hb yb at_97) (by decide) (by decide)
        obtain ⟨b13, g13⟩ : ∃ z, z = h9.size := ⟨_, rfl⟩
        rw [← g13] at A13 D13 st13
        have n_b13 : n0 ≤ b13 := Nat.le_trans (on0 O9) (Nat.le_of_eq g13.symm)
        have sz_b13 : h0.size ≤ b13 := Nat.le_trans K9.1 (Nat.le_of_eq g13.symm)
        have ne_b0_9_b13 : b0_9 ≠ b13 := Nat.ne_of_lt (Nat.lt_of_lt_of_le F9_0_f.lt (Nat.le_of_eq g13.symm))
        have CS13 : CHr Z oEL T9.vm h9 T9.vm h13 := CHr.ext E13 CR9.1
        have CR13 := CR9.trans CS13
        have O13 := O9.ext E13
        have K13 := K9.ext E13
        have sf_b13 : Safe Z oEL T9.vm h13 b13 := Safe.ext E13 CR9.1 (Safe.new (Nat.le_of_eq g13.symm))
        have F13_37 : Fld Z h13 b13 "com/example/rigorous_sourcing/rigoroussourcing/domain/RecordReference" "mId" "Ljava/lang/String;" .null := D13 (Or.inr (ow hw 37 rfl)) (ty := (.object "java/lang/String")) (by decide)
        have F13_69 : Fld Z h13 b13 "com/example/rigorous_sourcing/rigoroussourcing/domain/RecordReference" "mCode" "Ljava/lang/String;" .null := D13 (Or.inr (ow hw 69 rfl)) (ty := (.object "java/lang/String")) (by decide)
        refine ob T13 (mkF mG 100 #[oi i0, oi i1, oi i2, oi i3, oi i4, oi i5, oi (0 : Int32), oi nB, oi cA, oi cB, oi cC, oi cD, .val .null, oa b0_9, oi (0 : Int32), .unset] [(.ref b13)]) (fun _ kk => st13 _ kk) ?_
        refine ob T13 (mkF mG 101 #[oi i0, oi i1, oi i2, oi i3, oi i4, oi i5, oi (0 : Int32), oi nB, oi cA, oi cB, oi cC, oi cD, .val .null, oa b0_9, oi (0 : Int32), .unset] [(.ref b13), (.ref b13)]) (fun _ kk => XS.dup X13.here hx rfl (hb yb at_100) rfl rfl kk) ?_
        refine ob T13 (mkF mG 103 #[oi i0, oi i1, oi i2, oi i3, oi i4, oi i5, oi (0 : Int32), oi nB, oi cA, oi cB, oi cC, oi cD, .val .null, oa b0_9, oi (0 : Int32), .unset] [.null, (.ref b13), (.ref b13)]) (fun _ kk => XS.aload X13.here hx rfl (hb yb at_101) rfl rfl kk) ?_
        refine ob T13 (mkF mG 105 #[oi i0, oi i1, oi i2, oi i3, oi i4, oi i5, oi (0 : Int32), oi nB, oi cA, oi cB, oi cC, oi cD, .val .null, oa b0_9, oi (0 : Int32), .unset] [(.ref b0_9), .null, (.ref b13), (.ref b13)]) (fun _ kk => XS.aload X13.here hx rfl (hb yb at_103) rfl rfl kk) ?_
        obtain ⟨_, _, ⟨T14, L14, k14, n14⟩, -, X14, ⟨Lc14, hQ14, l14, y14, z14⟩, st14⟩ := X13.specialBack hx (y := (⟨"com/example/rigorous_sourcing/rigoroussourcing/domain/RecordReference", "<init>", "(Ljava/lang/String;Ljava/lang/String;)V"⟩ : MethodName)) rfl hown (mvT hZ (ow hw 32 rfl)) (mvT hZ (ow hw 33 rfl)) (mvT hZ (ow hw 34 rfl)) (by decide) (backOf (W := 1) (rm_rr0F l Z a0 hw [] w_instance w_A c_A zc b13 .null .null b0_9 h13 n0 O13 hS A13 F13_37 F13_69 (F9_0_f.1.ext E13) (F9_0_f.ext E13) n_b13) hZ (ow hw 34 rfl) (ow hw 31 rfl) (by decide) (by decide)) (g := (mkF mG 105 #[oi i0, oi i1, oi i2, oi i3, oi i4, oi i5, oi (0 : Int32), oi nB, oi cA, oi cB, oi cC, oi cD, .val .null, oa b0_9, oi (0 : Int32), .unset] [(.ref b0_9), .null, (.ref b13), (.ref b13)])) rfl (by rw [hml]; rfl) (Steps.refl _) (a := b13) (argsL := [.null, (.ref b0_9)]) (rest := [(.ref b13)]) (lenOf pd_19 rfl) rfl (by show 2 * 0 + _ ≤ _; exact Nat.le_of_eq rfl) (hb yb at_105) (fun _ _ => ⟨rfl, e13, (by decide : 7 + 2 ≤ _), (by decide : 42 + 5 ≤ _)⟩)
        dsimp only [Pt.U, Pt.locs, Pt.cells, Pt.slots] at X14 l14 y14 z14 st14 hQ14
        subst l14 y14 z14
        obtain ⟨h14, e14⟩ : ∃ h, T14.heap = h := ⟨_, rfl⟩
        rw [e14] at hQ14
        obtain ⟨r1_14, rfl, N14q, K14q, O14, F14_0, F14_1⟩ := hQ14
        have N14 := Fr.app N11 N14q
        have K14 := K13.trans K14q (allS (Or.inr sz_b13) all0)
        have CS14 : CHr Z oEL T9.vm h13 T9.vm h14 := CHr.keep K14q (sfS (Safe.exa hZ.alike A13 (by decide) (by decide)) sf0) CR13.1
        have CR14 := CR13.trans CS14
        refine ob T14 (mkF mG 108 #[oi i0, oi i1, oi i2, oi i3, oi i4, oi i5, oi (0 : Int32), oi nB, oi cA, oi cB, oi cC, oi cD, .val .null, oa b0_9, oi (0 : Int32), .unset] [(.ref b13)]) (fun _ kk => st14.trans kk) ?_
        refine ob T14 (mkF mG 110 #[oi i0, oi i1, oi i2, oi i3, oi i4, oi i5, oi (0 : Int32), oi nB, oi cA, oi cB, oi cC, oi cD, .val .null, oa b0_9, oi (0 : Int32), oa b13] []) (fun _ kk => XS.astore X14.here hx rfl (hb yb at_108) rfl rfl (l' := #[oi i0, oi i1, oi i2, oi i3, oi i4, oi i5, oi (0 : Int32), oi nB, oi cA, oi cB, oi cC, oi cD, .val .null, oa b0_9, oi (0 : Int32), oa b13]) rfl kk) ?_
        refine ob T14 (mkF mG 112 #[oi i0, oi i1, oi i2, oi i3, oi i4, oi i5, oi (0 : Int32), oi nB, oi cA, oi cB, oi cC, oi cD, .val .null, oa b0_9, oi (0 : Int32), oa b13] [(.ref b13)]) (fun _ kk => XS.aload X14.here hx rfl (hb yb at_110) rfl rfl kk) ?_
        obtain ⟨cq15, kq15, q15a, q15b, q15c⟩ := isOf hZ e14 (A13.keep K14q)
        obtain ⟨_, _, ⟨T15, L15, k15, n15⟩, -, X15, ⟨Lc15, hQ15, l15, y15, z15⟩, st15⟩ := X14.virtualBack hx (y := (⟨"com/example/rigorous_sourcing/rigoroussourcing/domain/RecordReference", "isEmpty", "()Z"⟩ : MethodName)) (z := (⟨"com/example/rigorous_sourcing/rigoroussourcing/domain/RecordReference", "isEmpty", "()Z"⟩ : MethodName)) hown (mvT hZ (ow hw 70 rfl)) (mvT hZ (ow hw 71 rfl)) (notFace_of_selects (args := #[]) (mvT hZ (ow hw 73 rfl))) (mvT hZ (ow hw 73 rfl)) (mvT hZ (ow hw 72 rfl)) (by decide) (backOf (W := 0) (rm_ie01 l Z a0 hw [] w_instance w_A c_A zc b13 r1_14 h14 n0 O14 hS F14_0 F14_1) hZ (ow hw 74 rfl) (ow hw 31 rfl) (by decide) (by decide)) q15a q15c (g := (mkF mG 112 #[oi i0, oi i1, oi i2, oi i3, oi i4, oi i5, oi (0 : Int32), oi nB, oi cA, oi cB, oi cC, oi cD, .val .null, oa b0_9, oi (0 : Int32), oa b13] [(.ref b13)])) rfl (by rw [hml]; rfl) (Steps.refl _) (argsL := []) (rest := []) (lenOf pd_2 rfl) rfl (by show 2 * 0 + _ ≤ _; exact Nat.le_of_eq rfl) (hb yb at_112) (fun _ _ => ⟨rfl, e14, (by decide : 9 + 0 ≤ _), (by decide : 47 + 0 ≤ _)⟩)
        dsimp only [Pt.U, Pt.locs, Pt.cells, Pt.slots] at X15 l15 y15 z15 st15 hQ15
        subst l15 y15 z15
        obtain ⟨rfl, N15q, e15⟩ := hQ15
        have N15 := Fr.app N14 N15q
        refine ob T15 (mkF mG 115 #[oi i0, oi i1, oi i2, oi i3, oi i4, oi i5, oi (0 : Int32), oi nB, oi cA, oi cB, oi cC, oi cD, .val .null, oa b0_9, oi (0 : Int32), oa b13] [(.int (0 : Int32))]) (fun _ kk => st15.trans kk) ?_
        refine ob T15 (mkF mG 117 #[oi i0, oi i1, oi i2, oi i3, oi i4, oi i5, oi (0 : Int32), oi nB, oi cA, oi cB, oi cC, oi cD, .val .null, oa b0_9, oi (0 : Int32), oa b13] [(.int (0 : Int32)), (.int (0 : Int32))]) (fun _ kk => XS.iload X15.here hx rfl (hb yb at_115) rfl kk) ?_
        refine ob T15 (mkF mG 120 #[oi i0, oi i1, oi i2, oi i3, oi i4, oi i5, oi (0 : Int32), oi nB, oi cA, oi cB, oi cC, oi cD, .val .null, oa b0_9, oi (0 : Int32), oa b13] []) (fun _ kk => XS.icmpNo X15.here hx rfl (hb yb at_117) rfl (teq (by decide : (0 : Int32) = (0 : Int32))).2 kk) ?_
        refine ob T15 (mkF mG 121 #[oi i0, oi i1, oi i2, oi i3, oi i4, oi i5, oi (0 : Int32), oi nB, oi cA, oi cB, oi cC, oi cD, .val .null, oa b0_9, oi (0 : Int32), oa b13] [(.int (1 : Int32))]) (fun _ kk => XS.iconst X15.here hx rfl (hb yb at_120) kk) ?_
        refine ob T15 (mkF mG 125 #[oi i0, oi i1, oi i2, oi i3, oi i4, oi i5, oi (0 : Int32), oi nB, oi cA, oi cB, oi cC, oi cD, .val .null, oa b0_9, oi (0 : Int32), oa b13] [(.int (1 : Int32))]) (fun _ kk => XS.goto X15.here hx rfl (pc0 := 121) (pc' := 125) rfl (hb yb at_121) (by decide) (by decide) kk) ?_
        obtain ⟨fs, hr, hrun, hended, hW, hsame⟩ := X15.leave (v := some (.int (1 : Int32))) (fun h => by rw [Bd.returns] at h; cases h)
        obtain ⟨w1, w2, w3⟩ := State.Since.ended (U := T15.setFrames fs) hS9 hW (by show _ ≤ T15.heap.size; rw [e15]; exact (Nat.le_trans (Nat.le_trans hk9 CS13.2.1) CS14.2.1)) hsame
        have CF := CR14.trans (CHv.at X15 hZ hEL CR14.1)
        refine oout (retN X15 hx (t := .boolean) Bd.returns (by simp) (hb yb at_125) hr) hrun hended ⟨_, _, rfl, ?_, ?_, ⟨_, rfl⟩, w1, w2, w3.mono (by decide) (by decide)⟩
        · show Q_rm0 Z w_instance w_A c_A zc i0 i1 i2 i3 i4 i5 h0 n0 _ T15.heap _
          rw [e15]
          exact ⟨rfl, N15⟩
        · show CHr Z oEL sG.vm sG.heap T15.vm T15.heap
          rw [hh, e15]
          exact CF
      | true =>
        show oGo pG eG bG _ T11 (mkF mG 87 #[oi i0, oi i1, oi i2, oi i3, oi i4, oi i5, oi (0 : Int32), oi nB, oi cA, oi cB, oi cC, oi cD, .val .null, oa b0_9, .unset, .unset] [(.int (1 : Int32))])
        have F9_0_t := hb12 ▸ F9_0
        refine ob T11 (mkF mG 90 #[oi i0, oi i1, oi i2, oi i3, oi i4, oi i5, oi (0 : Int32), oi nB, oi cA, oi cB, oi cC, oi cD, .val .null, oa b0_9, .unset, .unset] []) (fun _ kk => XS.ifNo X11.here hx rfl (hb yb at_87) rfl ((if0 _ _).trans (feq (by decide : ¬ ((1 : Int32) = (0 : Int32)))).1) kk) ?_
        refine ob T11 (mkF mG 91 #[oi i0, oi i1, oi i2, oi i3, oi i4, oi i5, oi (0 : Int32), oi nB, oi cA, oi cB, oi cC, oi cD, .val .null, oa b0_9, .unset, .unset] [(.int (1 : Int32))]) (fun _ kk => XS.iconst X11.here hx rfl (hb yb at_90) kk) ?_
        refine ob T11 (mkF mG 95 #[oi i0, oi i1, oi i2, oi i3, oi i4, oi i5, oi (0 : Int32), oi nB, oi cA, oi cB, oi cC, oi cD, .val .null, oa b0_9, .unset, .unset] [(.int (1 : Int32))]) (fun _ kk => XS.goto X11.here hx rfl (pc0 := 91) (pc' := 95) rfl (hb yb at_91) (by decide) (by decide) kk) ?_
        refine ob T11 (mkF mG 97 #[oi i0, oi i1, oi i2, oi i3, oi i4, oi i5, oi (0 : Int32), oi nB, oi cA, oi cB, oi cC, oi cD, .val .null, oa b0_9, oi (1 : Int32), .unset] []) (fun _ kk => XS.istore X11.here hx rfl (hb yb at_95) rfl (l' := #[oi i0, oi i1, oi i2, oi i3, oi i4, oi i5, oi (0 : Int32), oi nB, oi cA, oi cB, oi cC, oi cD, .val .null, oa b0_9, oi (1 : Int32), .unset]) rfl kk) ?_
        obtain ⟨T16, h16, X16, e16, E16, A16, D16, _x16, st16⟩ := newO X11 hx hZ hown (ow hw 29 rfl) (ow hw 30 rfl) (ow hw 31 rfl) e11 (g := (mkF mG 97 #[oi i0, oi i1, oi i2, oi i3, oi i4, oi i5, oi (0 : Int32), oi nB, oi cA, oi cB, oi cC, oi cD, .val .null, oa b0_9, oi (1 : Int32), .unset] [])) rfl (hb yb at_97) (by decide) (by decide)
        obtain ⟨b16, g16⟩ : ∃ z, z = h9.size := ⟨_, rfl⟩
        rw [← g16] at A16 D16 st16
        have n_b16 : n0 ≤ b16 := Nat.le_trans (on0 O9) (Nat.le_of_eq g16.symm)
        have sz_b16 : h0.size ≤ b16 := Nat.le_trans K9.1 (Nat.le_of_eq g16.symm)
        have ne_b0_9_b16 : b0_9 ≠ b16 := Nat.ne_of_lt (Nat.lt_of_lt_of_le F9_0_t.lt (Nat.le_of_eq g16.symm))
        have CS16 : CHr Z oEL T9.vm h9 T9.vm h16 := CHr.ext E16 CR9.1
        have CR16 := CR9.trans CS16
        have O16 := O9.ext E16
        have K16 := K9.ext E16
        have sf_b16 : Safe Z oEL T9.vm h16 b16 := Safe.ext E16 CR9.1 (Safe.new (Nat.le_of_eq g16.symm))
        have F16_37 : Fld Z h16 b16 "com/example/rigorous_sourcing/rigoroussourcing/domain/RecordReference" "mId" "Ljava/lang/String;" .null := D16 (Or.inr (ow hw 37 rfl)) (ty := (.object "java/lang/String")) (by decide)
        have F16_69 : Fld Z h16 b16 "com/example/rigorous_sourcing/rigoroussourcing/domain/RecordReference" "mCode" "Ljava/lang/String;" .null := D16 (Or.inr (ow hw 69 rfl)) (ty := (.object "java/lang/String")) (by decide)
        refine ob T16 (mkF mG 100 #[oi i0, oi i1, oi i2, oi i3, oi i4, oi i5, oi (0 : Int32), oi nB, oi cA, oi cB, oi cC, oi cD, .val .null, oa b0_9, oi (1 : Int32), .unset] [(.ref b16)]) (fun _ kk => st16 _ kk) ?_
        refine ob T16 (mkF mG 101 #[oi i0, oi i1, oi i2, oi i3, oi i4, oi i5, oi (0 : Int32), oi nB, oi cA, oi cB, oi cC, oi cD, .val .null, oa b0_9, oi (1 : Int32), .unset] [(.ref b16), (.ref b16)]) (fun _ kk => XS.dup X16.here hx rfl (hb yb at_100) rfl rfl kk) ?_
        refine ob T16 (mkF mG 103 #[oi i0, oi i1, oi i2, oi i3, oi i4, oi i5, oi (0 : Int32), oi nB, oi cA, oi cB, oi cC, oi cD, .val .null, oa b0_9, oi (1 : Int32), .unset] [.null, (.ref b16), (.ref b16)]) (fun _ kk => XS.aload X16.here hx rfl (hb yb at_101) rfl rfl kk) ?_
        refine ob T16 (mkF mG 105 #[oi i0, oi i1, oi i2, oi i3, oi i4, oi i5, oi (0 : Int32), oi nB, oi cA, oi cB, oi cC, oi cD, .val .null, oa b0_9, oi (1 : Int32), .unset] [(.ref b0_9), .null, (.ref b16), (.ref b16)]) (fun _ kk => XS.aload X16.here hx rfl (hb yb at_103) rfl rfl kk) ?_
        obtain ⟨_, _, ⟨T17, L17, k17, n17⟩, -, X17, ⟨Lc17, hQ17, l17, y17, z17⟩, st17⟩ := X16.specialBack hx (y := (⟨"com/example/rigorous_sourcing/rigoroussourcing/domain/RecordReference", "<init>", "(Ljava/lang/String;Ljava/lang/String;)V"⟩ : MethodName)) rfl hown (mvT hZ (ow hw 32 rfl)) (mvT hZ (ow hw 33 rfl)) (mvT hZ (ow hw 34 rfl)) (by decide) (backOf (W := 1) (rm_rr0T l Z a0 hw [] w_instance w_A c_A zc b16 .null .null b0_9 h16 n0 O16 hS A16 F16_37 F16_69 (F9_0_t.1.ext E16) (F9_0_t.ext E16) n_b16) hZ (ow hw 34 rfl) (ow hw 31 rfl) (by decide) (by decide)) (g := (mkF mG 105 #[oi i0, oi i1, oi i2, oi i3, oi i4, oi i5, oi (0 : Int32), oi nB, oi cA, oi cB, oi cC, oi cD, .val .null, oa b0_9, oi (1 : Int32), .unset] [(.ref b0_9), .null, (.ref b16), (.ref b16)])) rfl (by rw [hml]; rfl) (Steps.refl _) (a := b16) (argsL := [.null, (.ref b0_9)]) (rest := [(.ref b16)]) (lenOf pd_19 rfl) rfl (by show 2 * 0 + _ ≤ _; exact Nat.le_of_eq rfl) (hb yb at_105) (fun _ _ => ⟨rfl, e16, (by decide : 7 + 0 ≤ _), (by decide : 42 + 0 ≤ _)⟩)
        dsimp only [Pt.U, Pt.locs, Pt.cells, Pt.slots] at X17 l17 y17 z17 st17 hQ17
        subst l17 y17 z17
        obtain ⟨h17, e17⟩ : ∃ h, T17.heap = h := ⟨_, rfl⟩
        rw [e17] at hQ17
        obtain ⟨rfl, N17q, K17q, O17, F17_0, F17_1⟩ := hQ17
        have N17 := Fr.app N11 N17q
        have K17 := K16.trans K17q (allS (Or.inr sz_b16) all0)
        have CS17 : CHr Z oEL T9.vm h16 T9.vm h17 := CHr.keep K17q (sfS (Safe.exa hZ.alike A16 (by decide) (by decide)) sf0) CR16.1
        have CR17 := CR16.trans CS17
        refine ob T17 (mkF mG 108 #[oi i0, oi i1, oi i2, oi i3, oi i4, oi i5, oi (0 : Int32), oi nB, oi cA, oi cB, oi cC, oi cD, .val .null, oa b0_9, oi (1 : Int32), .unset] [(.ref b16)]) (fun _ kk => st17.trans kk) ?_
        refine ob T17 (mkF mG 110 #[oi i0, oi i1, oi i2, oi i3, oi i4, oi i5, oi (0 : Int32), oi nB, oi cA, oi cB, oi cC, oi cD, .val .null, oa b0_9, oi (1 : Int32), oa b16] []) (fun _ kk => XS.astore X17.here hx rfl (hb yb at_108) rfl rfl (l' := #[oi i0, oi i1, oi i2, oi i3, oi i4, oi i5, oi (0 : Int32), oi nB, oi cA, oi cB, oi cC, oi cD, .val .null, oa b0_9, oi (1 : Int32), oa b16]) rfl kk) ?_
        refine ob T17 (mkF mG 112 #[oi i0, oi i1, oi i2, oi i3, oi i4, oi i5, oi (0 : Int32), oi nB, oi cA, oi cB, oi cC, oi cD, .val .null, oa b0_9, oi (1 : Int32), oa b16] [(.ref b16)]) (fun _ kk => XS.aload X17.here hx rfl (hb yb at_110) rfl rfl kk) ?_
        obtain ⟨cq18, kq18, q18a, q18b, q18c⟩ := isOf hZ e17 (A16.keep K17q)
        obtain ⟨_, _, ⟨T18, L18, k18, n18⟩, -, X18, ⟨Lc18, hQ18, l18, y18, z18⟩, st18⟩ := X17.virtualBack hx (y := (⟨"com/example/rigorous_sourcing/rigoroussourcing/domain/RecordReference", "isEmpty", "()Z"⟩ : MethodName)) (z := (⟨"com/example/rigorous_sourcing/rigoroussourcing/domain/RecordReference", "isEmpty", "()Z"⟩ : MethodName)) hown (mvT hZ (ow hw 70 rfl)) (mvT hZ (ow hw 71 rfl)) (notFace_of_selects (args := #[]) (mvT hZ (ow hw 73 rfl))) (mvT hZ (ow hw 73 rfl)) (mvT hZ (ow hw 72 rfl)) (by decide) (backOf (W := 0) (rm_ie00 l Z a0 hw [] w_instance w_A c_A zc b16 h17 n0 O17 hS F17_0 F17_1) hZ (ow hw 74 rfl) (ow hw 31 rfl) (by decide) (by decide)) q18a q18c (g := (mkF mG 112 #[oi i0, oi i1, oi i2, oi i3, oi i4, oi i5, oi (0 : Int32), oi nB, oi cA, oi cB, oi cC, oi cD, .val .null, oa b0_9, oi (1 : Int32), oa b16] [(.ref b16)])) rfl (by rw [hml]; rfl) (Steps.refl _) (argsL := []) (rest := []) (lenOf pd_2 rfl) rfl (by show 2 * 0 + _ ≤ _; exact Nat.le_of_eq rfl) (hb yb at_112) (fun _ _ => ⟨rfl, e17, (by decide : 7 + 0 ≤ _), (by decide : 42 + 0 ≤ _)⟩)
        dsimp only [Pt.U, Pt.locs, Pt.cells, Pt.slots] at X18 l18 y18 z18 st18 hQ18
        subst l18 y18 z18
        obtain ⟨rfl, N18q, e18⟩ := hQ18
        have N18 := Fr.app N17 N18q
        refine ob T18 (mkF mG 115 #[oi i0, oi i1, oi i2, oi i3, oi i4, oi i5, oi (0 : Int32), oi nB, oi cA, oi cB, oi cC, oi cD, .val .null, oa b0_9, oi (1 : Int32), oa b16] [(.int (1 : Int32))]) (fun _ kk => st18.trans kk) ?_
        refine ob T18 (mkF mG 117 #[oi i0, oi i1, oi i2, oi i3, oi i4, oi i5, oi (0 : Int32), oi nB, oi cA, oi cB, oi cC, oi cD, .val .null, oa b0_9, oi (1 : Int32), oa b16] [(.int (1 : Int32)), (.int (1 : Int32))]) (fun _ kk => XS.iload X18.here hx rfl (hb yb at_115) rfl kk) ?_
        refine ob T18 (mkF mG 120 #[oi i0, oi i1, oi i2, oi i3, oi i4, oi i5, oi (0 : Int32), oi nB, oi cA, oi cB, oi cC, oi cD, .val .null, oa b0_9, oi (1 : Int32), oa b16] []) (fun _ kk => XS.icmpNo X18.here hx rfl (hb yb at_117) rfl (teq (by decide : (1 : Int32) = (1 : Int32))).2 kk) ?_
        refine ob T18 (mkF mG 121 #[oi i0, oi i1, oi i2, oi i3, oi i4, oi i5, oi (0 : Int32), oi nB, oi cA, oi cB, oi cC, oi cD, .val .null, oa b0_9, oi (1 : Int32), oa b16] [(.int (1 : Int32))]) (fun _ kk => XS.iconst X18.here hx rfl (hb yb at_120) kk) ?_
        refine ob T18 (mkF mG 125 #[oi i0, oi i1, oi i2, oi i3, oi i4, oi i5, oi (0 : Int32), oi nB, oi cA, oi cB, oi cC, oi cD, .val .null, oa b0_9, oi (1 : Int32), oa b16] [(.int (1 : Int32))]) (fun _ kk => XS.goto X18.here hx rfl (pc0 := 121) (pc' := 125) rfl (hb yb at_121) (by decide) (by decide) kk) ?_
        obtain ⟨fs, hr, hrun, hended, hW, hsame⟩ := X18.leave (v := some (.int (1 : Int32))) (fun h => by rw [Bd.returns] at h; cases h)
        obtain ⟨w1, w2, w3⟩ := State.Since.ended (U := T18.setFrames fs) hS9 hW (by show _ ≤ T18.heap.size; rw [e18]; exact (Nat.le_trans (Nat.le_trans hk9 CS16.2.1) CS17.2.1)) hsame
        have CF := CR17.trans (CHv.at X18 hZ hEL CR17.1)
        refine oout (retN X18 hx (t := .boolean) Bd.returns (by simp) (hb yb at_125) hr) hrun hended ⟨_, _, rfl, ?_, ?_, ⟨_, rfl⟩, w1, w2, w3.mono (by decide) (by decide)⟩
        · show Q_rm0 Z w_instance w_A c_A zc i0 i1 i2 i3 i4 i5 h0 n0 _ T18.heap _
          rw [e18]
          exact ⟨rfl, N18⟩
        · show CHr Z oEL sG.vm sG.heap T18.vm T18.heap
          rw [hh, e18]
          exact CF
  · rcases hn_nB with rfl | hn_nB
    · skip
      show oGo pG eG bG _ s₁ (mkF mG 44 #[oi i0, oi i1, oi i2, oi i3, oi i4, oi i5, oi nA, oi (0 : Int32), oi cA, oi cB, oi cC, oi cD, .unset, .unset, .unset, .unset] [])
      refine ob s₁ (mkF mG 46 #[oi i0, oi i1, oi i2, oi i3, oi i4, oi i5, oi nA, oi (0 : Int32), oi cA, oi cB, oi cC, oi cD, .unset, .unset, .unset, .unset] [(.int nA)]) (fun _ kk => XS.iload X0.here hx rfl (hb yb at_44) rfl kk) ?_
      refine ob s₁ (mkF mG 48 #[oi i0, oi i1, oi i2, oi i3, oi i4, oi i5, oi nA, oi (0 : Int32), oi cA, oi cB, oi cC, oi cD, .unset, .unset, .unset, .unset] [(.int cA), (.int nA)]) (fun _ kk => XS.iload X0.here hx rfl (hb yb at_46) rfl kk) ?_
      refine ob s₁ (mkF mG 50 #[oi i0, oi i1, oi i2, oi i3, oi i4, oi i5, oi nA, oi (0 : Int32), oi cA, oi cB, oi cC, oi cD, .unset, .unset, .unset, .unset] [(.int cB), (.int cA), (.int nA)]) (fun _ kk => XS.iload X0.here hx rfl (hb yb at_48) rfl kk) ?_
      obtain ⟨_, _, ⟨T19, L19, k19, n19⟩, -, X19, hS19, gs19, ⟨Lc19, hQ19, l19, y19, z19, CS19⟩, st19⟩ := callSS X0 hx (y := (⟨"com/example/rigorous_sourcing/rigoroussourcing/domain/RecordReferenceIsEmptyPinLaw", "make", "(ICC)Ljava/lang/String;"⟩ : MethodName)) hown (mvT hZ (ow hw 0 rfl)) (mvT hZ (ow hw 1 rfl)) (mvT hZ (ow hw 2 rfl)) (mvT hZ (ow hw 3 rfl)) (by decide) (backOfSH (W := 0) (rm_mkA l Z a0 hw [] w_instance w_A c_A zc nA cA cB h0 n0 O0 hS hn_nA rg_cA rg_cB) hZ (ow hw 3 rfl) (ow hw 2 rfl) (by decide) (by decide) hEL CR0.1) (g := (mkF mG 50 #[oi i0, oi i1, oi i2, oi i3, oi i4, oi i5, oi nA, oi (0 : Int32), oi cA, oi cB, oi cC, oi cD, .unset, .unset, .unset, .unset] [(.int cB), (.int cA), (.int nA)])) rfl (by rw [hml]; rfl) (argsL := [(.int nA), (.int cA), (.int cB)]) (rest := []) (lenOf pd_17 rfl) rfl (by show 2 * 0 + _ ≤ _; exact Nat.le_of_eq rfl) (hb yb at_50) (fun _ _ => ⟨rfl, e0, (by decide : 0 + 6 ≤ _), (by decide : 0 + 40 ≤ _)⟩)
      dsimp only [Pt.U, Pt.locs, Pt.cells, Pt.slots] at X19 l19 y19 z19 st19 hQ19 hS19 gs19 CS19
      subst l19 y19 z19
      obtain ⟨X19, hS19, hZ, hown⟩ := rebS hS0 (by rw [e0]; exact hk0) X19 hS19 gs19 hZ hown
      obtain ⟨h19, e19⟩ : ∃ h, T19.heap = h := ⟨_, rfl⟩
      rw [e19] at hQ19
      obtain ⟨b0_19, rfl, N19q, K19q, O19, n_b0_19, z_b0_19, F19_0⟩ := hQ19
      have N19 := Fr.app N0 N19q
      have sz_b0_19 : h0.size ≤ b0_19 := Nat.le_trans K0.1 z_b0_19
      have K19 := K0.trans K19q all0
      rw [e19] at CS19 hS19
      have hk19 : h19.size ≤ h19.size := Nat.le_refl _
      have CR19 := CR0.trans CS19
      refine ob T19 (mkF mG 53 #[oi i0, oi i1, oi i2, oi i3, oi i4, oi i5, oi nA, oi (0 : Int32), oi cA, oi cB, oi cC, oi cD, .unset, .unset, .unset, .unset] [(.ref b0_19)]) (fun _ kk => st19.trans kk) ?_
      refine ob T19 (mkF mG 55 #[oi i0, oi i1, oi i2, oi i3, oi i4, oi i5, oi nA, oi (0 : Int32), oi cA, oi cB, oi cC, oi cD, oa b0_19, .unset, .unset, .unset] []) (fun _ kk => XS.astore X19.here hx rfl (hb yb at_53) rfl rfl (l' := #[oi i0, oi i1, oi i2, oi i3, oi i4, oi i5, oi nA, oi (0 : Int32), oi cA, oi cB, oi cC, oi cD, oa b0_19, .unset, .unset, .unset]) rfl kk) ?_
      refine ob T19 (mkF mG 57 #[oi i0, oi i1, oi i2, oi i3, oi i4, oi i5, oi nA, oi (0 : Int32), oi cA, oi cB, oi cC, oi cD, oa b0_19, .unset, .unset, .unset] [(.int (0 : Int32))]) (fun _ kk => XS.iload X19.here hx rfl (hb yb at_55) rfl kk) ?_
      refine ob T19 (mkF mG 59 #[oi i0, oi i1, oi i2, oi i3, oi i4, oi i5, oi nA, oi (0 : Int32), oi cA, oi cB, oi cC, oi cD, oa b0_19, .unset, .unset, .unset] [(.int cC), (.int (0 : Int32))]) (fun _ kk => XS.iload X19.here hx rfl (hb yb at_57) rfl kk) ?_
      refine ob T19 (mkF mG 61 #[oi i0, oi i1, oi i2, oi i3, oi i4, oi i5, oi nA, oi (0 : Int32), oi cA, oi cB, oi cC, oi cD, oa b0_19, .unset, .unset, .unset] [(.int cD), (.int cC), (.int (0 : Int32))]) (fun _ kk => XS.iload X19.here hx rfl (hb yb at_59) rfl kk) ?_
      obtain ⟨_, _, ⟨T20, L20, k20, n20⟩, -, X20, ⟨Lc20, hQ20, l20, y20, z20⟩, st20⟩ := Jvm.LawKit.callS X19 hx (y := (⟨"com/example/rigorous_sourcing/rigoroussourcing/domain/RecordReferenceIsEmptyPinLaw", "make", "(ICC)Ljava/lang/String;"⟩ : MethodName)) hown (mvT hZ (ow hw 0 rfl)) (mvT hZ (ow hw 1 rfl)) (mvT hZ (ow hw 2 rfl)) (mvT hZ (ow hw 3 rfl)) (by decide) (backOf (W := 0) (rm_mk0 l Z a0 hw [] w_instance w_A c_A zc cC cD h19 n0 O19 hS ) hZ (ow hw 3 rfl) (ow hw 2 rfl) (by decide) (by decide)) (g := (mkF mG 61 #[oi i0, oi i1, oi i2, oi i3, oi i4, oi i5, oi nA, oi (0 : Int32), oi cA, oi cB, oi cC, oi cD, oa b0_19, .unset, .unset, .unset] [(.int cD), (.int cC), (.int (0 : Int32))])) rfl (by rw [hml]; rfl) (argsL := [(.int (0 : Int32)), (.int cC), (.int cD)]) (rest := []) (lenOf pd_17 rfl) rfl (by show 2 * 0 + _ ≤ _; exact Nat.le_of_eq rfl) (hb yb at_61) (fun _ _ => ⟨rfl, e19, (by decide : 6 + 0 ≤ _), (by decide : 40 + 0 ≤ _)⟩)
      dsimp only [Pt.U, Pt.locs, Pt.cells, Pt.slots] at X20 l20 y20 z20 st20 hQ20
      subst l20 y20 z20
      obtain ⟨rfl, N20q, e20⟩ := hQ20
      have N20 := Fr.app N19 N20q
      refine ob T20 (mkF mG 64 #[oi i0, oi i1, oi i2, oi i3, oi i4, oi i5, oi nA, oi (0 : Int32), oi cA, oi cB, oi cC, oi cD, oa b0_19, .unset, .unset, .unset] [.null]) (fun _ kk => st20 _ kk) ?_
      refine ob T20 (mkF mG 66 #[oi i0, oi i1, oi i2, oi i3, oi i4, oi i5, oi nA, oi (0 : Int32), oi cA, oi cB, oi cC, oi cD, oa b0_19, .val .null, .unset, .unset] []) (fun _ kk => XS.astore X20.here hx rfl (hb yb at_64) rfl rfl (l' := #[oi i0, oi i1, oi i2, oi i3, oi i4, oi i5, oi nA, oi (0 : Int32), oi cA, oi cB, oi cC, oi cD, oa b0_19, .val .null, .unset, .unset]) rfl kk) ?_
      refine ob T20 (mkF mG 68 #[oi i0, oi i1, oi i2, oi i3, oi i4, oi i5, oi nA, oi (0 : Int32), oi cA, oi cB, oi cC, oi cD, oa b0_19, .val .null, .unset, .unset] [(.int nA)]) (fun _ kk => XS.iload X20.here hx rfl (hb yb at_66) rfl kk) ?_
      refine ob T20 (mkF mG 70 #[oi i0, oi i1, oi i2, oi i3, oi i4, oi i5, oi nA, oi (0 : Int32), oi cA, oi cB, oi cC, oi cD, oa b0_19, .val .null, .unset, .unset] [(.int cA), (.int nA)]) (fun _ kk => XS.iload X20.here hx rfl (hb yb at_68) rfl kk) ?_
      refine ob T20 (mkF mG 72 #[oi i0, oi i1, oi i2, oi i3, oi i4, oi i5, oi nA, oi (0 : Int32), oi cA, oi cB, oi cC, oi cD, oa b0_19, .val .null, .unset, .unset] [(.int cB), (.int cA), (.int nA)]) (fun _ kk => XS.iload X20.here hx rfl (hb yb at_70) rfl kk) ?_
      obtain ⟨_, _, ⟨T21, L21, k21, n21⟩, -, X21, ⟨Lc21, hQ21, l21, y21, z21⟩, st21⟩ := Jvm.LawKit.callS X20 hx (y := (⟨"com/example/rigorous_sourcing/rigoroussourcing/domain/RecordReferenceIsEmptyPinLaw", "blank", "(ICC)Z"⟩ : MethodName)) hown (mvT hZ (ow hw 26 rfl)) (mvT hZ (ow hw 27 rfl)) (mvT hZ (ow hw 2 rfl)) (mvT hZ (ow hw 28 rfl)) (by decide) (backOf (W := 0) (rm_bkA l Z a0 hw [] w_instance w_A c_A zc nA cA cB h19 n0 O19 hS hn_nA) hZ (ow hw 28 rfl) (ow hw 2 rfl) (by decide) (by decide)) (g := (mkF mG 72 #[oi i0, oi i1, oi i2, oi i3, oi i4, oi i5, oi nA, oi (0 : Int32), oi cA, oi cB, oi cC, oi cD, oa b0_19, .val .null, .unset, .unset] [(.int cB), (.int cA), (.int nA)])) rfl (by rw [hml]; rfl) (argsL := [(.int nA), (.int cA), (.int cB)]) (rest := []) (lenOf pd_18 rfl) rfl (by show 2 * 0 + _ ≤ _; exact Nat.le_of_eq rfl) (hb yb at_72) (fun _ _ => ⟨rfl, e20, (by decide : 6 + 0 ≤ _), (by decide : 40 + 0 ≤ _)⟩)
      dsimp only [Pt.U, Pt.locs, Pt.cells, Pt.slots] at X21 l21 y21 z21 st21 hQ21
      subst l21 y21 z21
      obtain ⟨rfl, N21q, e21⟩ := hQ21
      have N21 := Fr.app N20 N21q
      refine ob T21 (mkF mG 75 #[oi i0, oi i1, oi i2, oi i3, oi i4, oi i5, oi nA, oi (0 : Int32), oi cA, oi cB, oi cC, oi cD, oa b0_19, .val .null, .unset, .unset] [(.int (oB (oBl nA cA cB)))]) (fun _ kk => st21 _ kk) ?_
      cases hb22 : oBl nA cA cB with
      | false =>
        show oGo pG eG bG _ T21 (mkF mG 75 #[oi i0, oi i1, oi i2, oi i3, oi i4, oi i5, oi nA, oi (0 : Int32), oi cA, oi cB, oi cC, oi cD, oa b0_19, .val .null, .unset, .unset] [(.int (0 : Int32))])
        have F19_0_f := hb22 ▸ F19_0
        refine ob T21 (mkF mG 94 #[oi i0, oi i1, oi i2, oi i3, oi i4, oi i5, oi nA, oi (0 : Int32), oi cA, oi cB, oi cC, oi cD, oa b0_19, .val .null, .unset, .unset] []) (fun _ kk => XS.ifYes X21.here hx rfl (pc0 := 75) (pc' := 94) rfl (hb yb at_75) rfl ((if0 _ _).trans (teq (by decide : (0 : Int32) = (0 : Int32))).1) (by decide) (by decide) kk) ?_
        refine ob T21 (mkF mG 95 #[oi i0, oi i1, oi i2, oi i3, oi i4, oi i5, oi nA, oi (0 : Int32), oi cA, oi cB, oi cC, oi cD, oa b0_19, .val .null, .unset, .unset] [(.int (0 : Int32))]) (fun _ kk => XS.iconst X21.here hx rfl (hb yb at_94) kk) ?_
        refine ob T21 (mkF mG 97 #[oi i0, oi i1, oi i2, oi i3, oi i4, oi i5, oi nA, oi (0 : Int32), oi cA, oi cB, oi cC, oi cD, oa b0_19, .val .null, oi (0 : Int32), .unset] []) (fun _ kk => XS.istore X21.here hx rfl (hb yb at_95) rfl (l' := #[oi i0, oi i1, oi i2, oi i3, oi i4, oi i5, oi nA, oi (0 : Int32), oi cA, oi cB, oi cC, oi cD, oa b0_19, .val .null, oi (0 : Int32), .unset]) rfl kk) ?_
        obtain ⟨T23, h23, X23, e23, E23, A23, D23, _x23, st23⟩ := newO X21 hx hZ hown (ow hw 29 rfl) (ow hw 30 rfl) (ow hw 31 rfl) e21 (g := (mkF mG 97 #[oi i0, oi i1, oi i2, oi i3, oi i4, oi i5, oi nA, oi (0 : Int32), oi cA, oi cB, oi cC, oi cD, oa b0_19, .val .null, oi (0 : Int32), .unset] [])) rfl (hb yb at_97) (by decide) (by decide)
        obtain ⟨b23, g23⟩ : ∃ z, z = h19.size := ⟨_, rfl⟩
        rw [← g23] at A23 D23 st23
        have n_b23 : n0 ≤ b23 := Nat.le_trans (on0 O19) (Nat.le_of_eq g23.symm)
        have sz_b23 : h0.size ≤ b23 := Nat.le_trans K19.1 (Nat.le_of_eq g23.symm)
        have ne_b0_19_b23 : b0_19 ≠ b23 := Nat.ne_of_lt (Nat.lt_of_lt_of_le F19_0_f.lt (Nat.le_of_eq g23.symm))
        have CS23 : CHr Z oEL T19.vm h19 T19.vm h23 := CHr.ext E23 CR19.1
        have CR23 := CR19.trans CS23
        have O23 := O19.ext E23
        have K23 := K19.ext E23
        have sf_b23 : Safe Z oEL T19.vm h23 b23 := Safe.ext E23 CR19.1 (Safe.new (Nat.le_of_eq g23.symm))
        have F23_37 : Fld Z h23 b23 "com/example/rigorous_sourcing/rigoroussourcing/domain/RecordReference" "mId" "Ljava/lang/String;" .null := D23 (Or.inr (ow hw 37 rfl)) (ty := (.object "java/lang/String")) (by decide)
        have F23_69 : Fld Z h23 b23 "com/example/rigorous_sourcing/rigoroussourcing/domain/RecordReference" "mCode" "Ljava/lang/String;" .null := D23 (Or.inr (ow hw 69 rfl)) (ty := (.object "java/lang/String")) (by decide)
        refine ob T23 (mkF mG 100 #[oi i0, oi i1, oi i2, oi i3, oi i4, oi i5, oi nA, oi (0 : Int32), oi cA, oi cB, oi cC, oi cD, oa b0_19, .val .null, oi (0 : Int32), .unset] [(.ref b23)]) (fun _ kk => st23 _ kk) ?_
        refine ob T23 (mkF mG 101 #[oi i0, oi i1, oi i2, oi i3, oi i4, oi i5, oi nA, oi (0 : Int32), oi cA, oi cB, oi cC, oi cD, oa b0_19, .val .null, oi (0 : Int32), .unset] [(.ref b23), (.ref b23)]) (fun _ kk => XS.dup X23.here hx rfl (hb yb at_100) rfl rfl kk) ?_
        refine ob T23 (mkF mG 103 #[oi i0, oi i1, oi i2, oi i3, oi i4, oi i5, oi nA, oi (0 : Int32), oi cA, oi cB, oi cC, oi cD, oa b0_19, .val .null, oi (0 : Int32), .unset] [(.ref b0_19), (.ref b23), (.ref b23)]) (fun _ kk => XS.aload X23.here hx rfl (hb yb at_101) rfl rfl kk) ?_
        refine ob T23 (mkF mG 105 #[oi i0, oi i1, oi i2, oi i3, oi i4, oi i5, oi nA, oi (0 : Int32), oi cA, oi cB, oi cC, oi cD, oa b0_19, .val .null, oi (0 : Int32), .unset] [.null, (.ref b0_19), (.ref b23), (.ref b23)]) (fun _ kk => XS.aload X23.here hx rfl (hb yb at_103) rfl rfl kk) ?_
        obtain ⟨_, _, ⟨T24, L24, k24, n24⟩, -, X24, ⟨Lc24, hQ24, l24, y24, z24⟩, st24⟩ := X23.specialBack hx (y := (⟨"com/example/rigorous_sourcing/rigoroussourcing/domain/RecordReference", "<init>", "(Ljava/lang/String;Ljava/lang/String;)V"⟩ : MethodName)) rfl hown (mvT hZ (ow hw 32 rfl)) (mvT hZ (ow hw 33 rfl)) (mvT hZ (ow hw 34 rfl)) (by decide) (backOf (W := 1) (rm_rrF0 l Z a0 hw [] w_instance w_A c_A zc b23 .null .null b0_19 h23 n0 O23 hS A23 F23_37 F23_69 (F19_0_f.1.ext E23) (F19_0_f.ext E23) n_b23) hZ (ow hw 34 rfl) (ow hw 31 rfl) (by decide) (by decide)) (g := (mkF mG 105 #[oi i0, oi i1, oi i2, oi i3, oi i4, oi i5, oi nA, oi (0 : Int32), oi cA, oi cB, oi cC, oi cD, oa b0_19, .val .null, oi (0 : Int32), .unset] [.null, (.ref b0_19), (.ref b23), (.ref b23)])) rfl (by rw [hml]; rfl) (Steps.refl _) (a := b23) (argsL := [(.ref b0_19), .null]) (rest := [(.ref b23)]) (lenOf pd_19 rfl) rfl (by show 2 * 0 + _ ≤ _; exact Nat.le_of_eq rfl) (hb yb at_105) (fun _ _ => ⟨rfl, e23, (by decide : 7 + 2 ≤ _), (by decide : 42 + 5 ≤ _)⟩)
        dsimp only [Pt.U, Pt.locs, Pt.cells, Pt.slots] at X24 l24 y24 z24 st24 hQ24
        subst l24 y24 z24
        obtain ⟨h24, e24⟩ : ∃ h, T24.heap = h := ⟨_, rfl⟩
        rw [e24] at hQ24
        obtain ⟨r0_24, rfl, N24q, K24q, O24, F24_0, F24_1⟩ := hQ24
        have N24 := Fr.app N21 N24q
        have K24 := K23.trans K24q (allS (Or.inr sz_b23) all0)
        have CS24 : CHr Z oEL T19.vm h23 T19.vm h24 := CHr.keep K24q (sfS (Safe.exa hZ.alike A23 (by decide) (by decide)) sf0) CR23.1
        have CR24 := CR23.trans CS24
        refine ob T24 (mkF mG 108 #[oi i0, oi i1, oi i2, oi i3, oi i4, oi i5, oi nA, oi (0 : Int32), oi cA, oi cB, oi cC, oi cD, oa b0_19, .val .null, oi (0 : Int32), .unset] [(.ref b23)]) (fun _ kk => st24.trans kk) ?_
        refine ob T24 (mkF mG 110 #[oi i0, oi i1, oi i2, oi i3, oi i4, oi i5, oi nA, oi (0 : Int32), oi cA, oi cB, oi cC, oi cD, oa b0_19, .val .null, oi (0 : Int32), oa b23] []) (fun _ kk => XS.astore X24.here hx rfl (hb yb at_108) rfl rfl (l' := #[oi i0, oi i1, oi i2, oi i3, oi i4, oi i5, oi nA, oi (0 : Int32), oi cA, oi cB, oi cC, oi cD, oa b0_19, .val .null, oi (0 : Int32), oa b23]) rfl kk) ?_
        refine ob T24 (mkF mG 112 #[oi i0, oi i1, oi i2, oi i3, oi i4, oi i5, oi nA, oi (0 : Int32), oi cA, oi cB, oi cC, oi cD, oa b0_19, .val .null, oi (0 : Int32), oa b23] [(.ref b23)]) (fun _ kk => XS.aload X24.here hx rfl (hb yb at_110) rfl rfl kk) ?_
        obtain ⟨cq25, kq25, q25a, q25b, q25c⟩ := isOf hZ e24 (A23.keep K24q)
        obtain ⟨_, _, ⟨T25, L25, k25, n25⟩, -, X25, ⟨Lc25, hQ25, l25, y25, z25⟩, st25⟩ := X24.virtualBack hx (y := (⟨"com/example/rigorous_sourcing/rigoroussourcing/domain/RecordReference", "isEmpty", "()Z"⟩ : MethodName)) (z := (⟨"com/example/rigorous_sourcing/rigoroussourcing/domain/RecordReference", "isEmpty", "()Z"⟩ : MethodName)) hown (mvT hZ (ow hw 70 rfl)) (mvT hZ (ow hw 71 rfl)) (notFace_of_selects (args := #[]) (mvT hZ (ow hw 73 rfl))) (mvT hZ (ow hw 73 rfl)) (mvT hZ (ow hw 72 rfl)) (by decide) (backOf (W := 0) (rm_ie10 l Z a0 hw [] w_instance w_A c_A zc b23 r0_24 h24 n0 O24 hS F24_0 F24_1) hZ (ow hw 74 rfl) (ow hw 31 rfl) (by decide) (by decide)) q25a q25c (g := (mkF mG 112 #[oi i0, oi i1, oi i2, oi i3, oi i4, oi i5, oi nA, oi (0 : Int32), oi cA, oi cB, oi cC, oi cD, oa b0_19, .val .null, oi (0 : Int32), oa b23] [(.ref b23)])) rfl (by rw [hml]; rfl) (Steps.refl _) (argsL := []) (rest := []) (lenOf pd_2 rfl) rfl (by show 2 * 0 + _ ≤ _; exact Nat.le_of_eq rfl) (hb yb at_112) (fun _ _ => ⟨rfl, e24, (by decide : 9 + 0 ≤ _), (by decide : 47 + 0 ≤ _)⟩)
        dsimp only [Pt.U, Pt.locs, Pt.cells, Pt.slots] at X25 l25 y25 z25 st25 hQ25
        subst l25 y25 z25
        obtain ⟨rfl, N25q, e25⟩ := hQ25
        have N25 := Fr.app N24 N25q
        refine ob T25 (mkF mG 115 #[oi i0, oi i1, oi i2, oi i3, oi i4, oi i5, oi nA, oi (0 : Int32), oi cA, oi cB, oi cC, oi cD, oa b0_19, .val .null, oi (0 : Int32), oa b23] [(.int (0 : Int32))]) (fun _ kk => st25.trans kk) ?_
        refine ob T25 (mkF mG 117 #[oi i0, oi i1, oi i2, oi i3, oi i4, oi i5, oi nA, oi (0 : Int32), oi cA, oi cB, oi cC, oi cD, oa b0_19, .val .null, oi (0 : Int32), oa b23] [(.int (0 : Int32)), (.int (0 : Int32))]) (fun _ kk => XS.iload X25.here hx rfl (hb yb at_115) rfl kk) ?_
        refine ob T25 (mkF mG 120 #[oi i0, oi i1, oi i2, oi i3, oi i4, oi i5, oi nA, oi (0 : Int32), oi cA, oi cB, oi cC, oi cD, oa b0_19, .val .null, oi (0 : Int32), oa b23] []) (fun _ kk => XS.icmpNo X25.here hx rfl (hb yb at_117) rfl (teq (by decide : (0 : Int32) = (0 : Int32))).2 kk) ?_
        refine ob T25 (mkF mG 121 #[oi i0, oi i1, oi i2, oi i3, oi i4, oi i5, oi nA, oi (0 : Int32), oi cA, oi cB, oi cC, oi cD, oa b0_19, .val .null, oi (0 : Int32), oa b23] [(.int (1 : Int32))]) (fun _ kk => XS.iconst X25.here hx rfl (hb yb at_120) kk) ?_
        refine ob T25 (mkF mG 125 #[oi i0, oi i1, oi i2, oi i3, oi i4, oi i5, oi nA, oi (0 : Int32), oi cA, oi cB, oi cC, oi cD, oa b0_19, .val .null, oi (0 : Int32), oa b23] [(.int (1 : Int32))]) (fun _ kk => XS.goto X25.here hx rfl (pc0 := 121) (pc' := 125) rfl (hb yb at_121) (by decide) (by decide) kk) ?_
        obtain ⟨fs, hr, hrun, hended, hW, hsame⟩ := X25.leave (v := some (.int (1 : Int32))) (fun h => by rw [Bd.returns] at h; cases h)
        obtain ⟨w1, w2, w3⟩ := State.Since.ended (U := T25.setFrames fs) hS19 hW (by show _ ≤ T25.heap.size; rw [e25]; exact (Nat.le_trans (Nat.le_trans hk19 CS23.2.1) CS24.2.1)) hsame
        have CF := CR24.trans (CHv.at X25 hZ hEL CR24.1)
        refine oout (retN X25 hx (t := .boolean) Bd.returns (by simp) (hb yb at_125) hr) hrun hended ⟨_, _, rfl, ?_, ?_, ⟨_, rfl⟩, w1, w2, w3.mono (by decide) (by decide)⟩
        · show Q_rm0 Z w_instance w_A c_A zc i0 i1 i2 i3 i4 i5 h0 n0 _ T25.heap _
          rw [e25]
          exact ⟨rfl, N25⟩
        · show CHr Z oEL sG.vm sG.heap T25.vm T25.heap
          rw [hh, e25]
          exact CF
      | true =>
        show oGo pG eG bG _ T21 (mkF mG 75 #[oi i0, oi i1, oi i2, oi i3, oi i4, oi i5, oi nA, oi (0 : Int32), oi cA, oi cB, oi cC, oi cD, oa b0_19, .val .null, .unset, .unset] [(.int (1 : Int32))])
        have F19_0_t := hb22 ▸ F19_0
        refine ob T21 (mkF mG 78 #[oi i0, oi i1, oi i2, oi i3, oi i4, oi i5, oi nA, oi (0 : Int32), oi cA, oi cB, oi cC, oi cD, oa b0_19, .val .null, .unset, .unset] []) (fun _ kk => XS.ifNo X21.here hx rfl (hb yb at_75) rfl ((if0 _ _).trans (feq (by decide : ¬ ((1 : Int32) = (0 : Int32)))).1) kk) ?_
        refine ob T21 (mkF mG 80 #[oi i0, oi i1, oi i2, oi i3, oi i4, oi i5, oi nA, oi (0 : Int32), oi cA, oi cB, oi cC, oi cD, oa b0_19, .val .null, .unset, .unset] [(.int (0 : Int32))]) (fun _ kk => XS.iload X21.here hx rfl (hb yb at_78) rfl kk) ?_
        refine ob T21 (mkF mG 82 #[oi i0, oi i1, oi i2, oi i3, oi i4, oi i5, oi nA, oi (0 : Int32), oi cA, oi cB, oi cC, oi cD, oa b0_19, .val .null, .unset, .unset] [(.int cC), (.int (0 : Int32))]) (fun _ kk => XS.iload X21.here hx rfl (hb yb at_80) rfl kk) ?_
        refine ob T21 (mkF mG 84 #[oi i0, oi i1, oi i2, oi i3, oi i4, oi i5, oi nA, oi (0 : Int32), oi cA, oi cB, oi cC, oi cD, oa b0_19, .val .null, .unset, .unset] [(.int cD), (.int cC), (.int (0 : Int32))]) (fun _ kk => XS.iload X21.here hx rfl (hb yb at_82) rfl kk) ?_
        obtain ⟨_, _, ⟨T26, L26, k26, n26⟩, -, X26, ⟨Lc26, hQ26, l26, y26, z26⟩, st26⟩ := Jvm.LawKit.callS X21 hx (y := (⟨"com/example/rigorous_sourcing/rigoroussourcing/domain/RecordReferenceIsEmptyPinLaw", "blank", "(ICC)Z"⟩ : MethodName)) hown (mvT hZ (ow hw 26 rfl)) (mvT hZ (ow hw 27 rfl)) (mvT hZ (ow hw 2 rfl)) (mvT hZ (ow hw 28 rfl)) (by decide) (backOf (W := 0) (rm_bk0 l Z a0 hw [] w_instance w_A c_A zc cC cD h19 n0 O19 hS ) hZ (ow hw 28 rfl) (ow hw 2 rfl) (by decide) (by decide)) (g := (mkF mG 84 #[oi i0, oi i1, oi i2, oi i3, oi i4, oi i5, oi nA, oi (0 : Int32), oi cA, oi cB, oi cC, oi cD, oa b0_19, .val .null, .unset, .unset] [(.int cD), (.int cC), (.int (0 : Int32))])) rfl (by rw [hml]; rfl) (argsL := [(.int (0 : Int32)), (.int cC), (.int cD)]) (rest := []) (lenOf pd_18 rfl) rfl (by show 2 * 0 + _ ≤ _; exact Nat.le_of_eq rfl) (hb yb at_84) (fun _ _ => ⟨rfl, e21, (by decide : 6 + 0 ≤ _), (by decide : 40 + 0 ≤ _)⟩)
        dsimp only [Pt.U, Pt.locs, Pt.cells, Pt.slots] at X26 l26 y26 z26 st26 hQ26
        subst l26 y26 z26
        obtain ⟨rfl, N26q, e26⟩ := hQ26
        have N26 := Fr.app N21 N26q
        refine ob T26 (mkF mG 87 #[oi i0, oi i1, oi i2, oi i3, oi i4, oi i5, oi nA, oi (0 : Int32), oi cA, oi cB, oi cC, oi cD, oa b0_19, .val .null, .unset, .unset] [(.int (1 : Int32))]) (fun _ kk => st26 _ kk) ?_
        refine ob T26 (mkF mG 90 #[oi i0, oi i1, oi i2, oi i3, oi i4, oi i5, oi nA, oi (0 : Int32), oi cA, oi cB, oi cC, oi cD, oa b0_19, .val .null, .unset, .unset] []) (fun _ kk => XS.ifNo X26.here hx rfl (hb yb at_87) rfl ((if0 _ _).trans (feq (by decide : ¬ ((1 : Int32) = (0 : Int32)))).1) kk) ?_
        refine ob T26 (mkF mG 91 #[oi i0, oi i1, oi i2, oi i3, oi i4, oi i5, oi nA, oi (0 : Int32), oi cA, oi cB, oi cC, oi cD, oa b0_19, .val .null, .unset, .unset] [(.int (1 : Int32))]) (fun _ kk => XS.iconst X26.here hx rfl (hb yb at_90) kk) ?_
        refine ob T26 (mkF mG 95 #[oi i0, oi i1, oi i2, oi i3, oi i4, oi i5, oi nA, oi (0 : Int32), oi cA, oi cB, oi cC, oi cD, oa b0_19, .val .null, .unset, .unset] [(.int (1 : Int32))]) (fun _ kk => XS.goto X26.here hx rfl (pc0 := 91) (pc' := 95) rfl (hb yb at_91) (by decide) (by decide) kk) ?_
        refine ob T26 (mkF mG 97 #[oi i0, oi i1, oi i2, oi i3, oi i4, oi i5, oi nA, oi (0 : Int32), oi cA, oi cB, oi cC, oi cD, oa b0_19, .val .null, oi (1 : Int32), .unset] []) (fun _ kk => XS.istore X26.here hx rfl (hb yb at_95) rfl (l' := #[oi i0, oi i1, oi i2, oi i3, oi i4, oi i5, oi nA, oi (0 : Int32), oi cA, oi cB, oi cC, oi cD, oa b0_19, .val .null, oi (1 : Int32), .unset]) rfl kk) ?_
        obtain ⟨T27, h27, X27, e27, E27, A27, D27, _x27, st27⟩ := newO X26 hx hZ hown (ow hw 29 rfl) (ow hw 30 rfl) (ow hw 31 rfl) e26 (g := (mkF mG 97 #[oi i0, oi i1, oi i2, oi i3, oi i4, oi i5, oi nA, oi (0 : Int32), oi cA, oi cB, oi cC, oi cD, oa b0_19, .val .null, oi (1 : Int32), .unset] [])) rfl (hb yb at_97) (by decide) (by decide)
        obtain ⟨b27, g27⟩ : ∃ z, z = h19.size := ⟨_, rfl⟩
        rw [← g27] at A27 D27 st27
        have n_b27 : n0 ≤ b27 := Nat.le_trans (on0 O19) (Nat.le_of_eq g27.symm)
        have sz_b27 : h0.size ≤ b27 := Nat.le_trans K19.1 (Nat.le_of_eq g27.symm)
        have ne_b0_19_b27 : b0_19 ≠ b27 := Nat.ne_of_lt (Nat.lt_of_lt_of_le F19_0_t.lt (Nat.le_of_eq g27.symm))
        have CS27 : CHr Z oEL T19.vm h19 T19.vm h27 := CHr.ext E27 CR19.1
        have CR27 := CR19.trans CS27
        have O27 := O19.ext E27
        have K27 := K19.ext E27
        have sf_b27 : Safe Z oEL T19.vm h27 b27 := Safe.ext E27 CR19.1 (Safe.new (Nat.le_of_eq g27.symm))
        have F27_37 : Fld Z h27 b27 "com/example/rigorous_sourcing/rigoroussourcing/domain/RecordReference" "mId" "Ljava/lang/String;" .null := D27 (Or.inr (ow hw 37 rfl)) (ty := (.object "java/lang/String")) (by decide)
        have F27_69 : Fld Z h27 b27 "com/example/rigorous_sourcing/rigoroussourcing/domain/RecordReference" "mCode" "Ljava/lang/String;" .null := D27 (Or.inr (ow hw 69 rfl)) (ty := (.object "java/lang/String")) (by decide)
        refine ob T27 (mkF mG 100 #[oi i0, oi i1, oi i2, oi i3, oi i4, oi i5, oi nA, oi (0 : Int32), oi cA, oi cB, oi cC, oi cD, oa b0_19, .val .null, oi (1 : Int32), .unset] [(.ref b27)]) (fun _ kk => st27 _ kk) ?_
        refine ob T27 (mkF mG 101 #[oi i0, oi i1, oi i2, oi i3, oi i4, oi i5, oi nA, oi (0 : Int32), oi cA, oi cB, oi cC, oi cD, oa b0_19, .val .null, oi (1 : Int32), .unset] [(.ref b27), (.ref b27)]) (fun _ kk => XS.dup X27.here hx rfl (hb yb at_100) rfl rfl kk) ?_
        refine ob T27 (mkF mG 103 #[oi i0, oi i1, oi i2, oi i3, oi i4, oi i5, oi nA, oi (0 : Int32), oi cA, oi cB, oi cC, oi cD, oa b0_19, .val .null, oi (1 : Int32), .unset] [(.ref b0_19), (.ref b27), (.ref b27)]) (fun _ kk => XS.aload X27.here hx rfl (hb yb at_101) rfl rfl kk) ?_
        refine ob T27 (mkF mG 105 #[oi i0, oi i1, oi i2, oi i3, oi i4, oi i5, oi nA, oi (0 : Int32), oi cA, oi cB, oi cC, oi cD, oa b0_19, .val .null, oi (1 : Int32), .unset] [.null, (.ref b0_19), (.ref b27), (.ref b27)]) (fun _ kk => XS.aload X27.here hx rfl (hb yb at_103) rfl rfl kk) ?_
        obtain ⟨_, _, ⟨T28, L28, k28, n28⟩, -, X28, ⟨Lc28, hQ28, l28, y28, z28⟩, st28⟩ := X27.specialBack hx (y := (⟨"com/example/rigorous_sourcing/rigoroussourcing/domain/RecordReference", "<init>", "(Ljava/lang/String;Ljava/lang/String;)V"⟩ : MethodName)) rfl hown (mvT hZ (ow hw 32 rfl)) (mvT hZ (ow hw 33 rfl)) (mvT hZ (ow hw 34 rfl)) (by decide) (backOf (W := 1) (rm_rrT0 l Z a0 hw [] w_instance w_A c_A zc b27 .null .null b0_19 h27 n0 O27 hS A27 F27_37 F27_69 (F19_0_t.1.ext E27) (F19_0_t.ext E27) n_b27) hZ (ow hw 34 rfl) (ow hw 31 rfl) (by decide) (by decide)) (g := (mkF mG 105 #[oi i0, oi i1, oi i2, oi i3, oi i4, oi i5, oi nA, oi (0 : Int32), oi cA, oi cB, oi cC, oi cD, oa b0_19, .val .null, oi (1 : Int32), .unset] [.null, (.ref b0_19), (.ref b27), (.ref b27)])) rfl (by rw [hml]; rfl) (Steps.refl _) (a := b27) (argsL := [(.ref b0_19), .null]) (rest := [(.ref b27)]) (lenOf pd_19 rfl) rfl (by show 2 * 0 + _ ≤ _; exact Nat.le_of_eq rfl) (hb yb at_105) (fun _ _ => ⟨rfl, e27, (by decide : 7 + 0 ≤ _), (by decide : 42 + 0 ≤ _)⟩)
        dsimp only [Pt.U, Pt.locs, Pt.cells, Pt.slots] at X28 l28 y28 z28 st28 hQ28
        subst l28 y28 z28
        obtain ⟨h28, e28⟩ : ∃ h, T28.heap = h := ⟨_, rfl⟩
        rw [e28] at hQ28
        obtain ⟨rfl, N28q, K28q, O28, F28_0, F28_1⟩ := hQ28
        have N28 := Fr.app N26 N28q
        have K28 := K27.trans K28q (allS (Or.inr sz_b27) all0)
        have CS28 : CHr Z oEL T19.vm h27 T19.vm h28 := CHr.keep K28q (sfS (Safe.exa hZ.alike A27 (by decide) (by decide)) sf0) CR27.1
        have CR28 := CR27.trans CS28
        refine ob T28 (mkF mG 108 #[oi i0, oi i1, oi i2, oi i3, oi i4, oi i5, oi nA, oi (0 : Int32), oi cA, oi cB, oi cC, oi cD, oa b0_19, .val .null, oi (1 : Int32), .unset] [(.ref b27)]) (fun _ kk => st28.trans kk) ?_
        refine ob T28 (mkF mG 110 #[oi i0, oi i1, oi i2, oi i3, oi i4, oi i5, oi nA, oi (0 : Int32), oi cA, oi cB, oi cC, oi cD, oa b0_19, .val .null, oi (1 : Int32), oa b27] []) (fun _ kk => XS.astore X28.here hx rfl (hb yb at_108) rfl rfl (l' := #[oi i0, oi i1, oi i2, oi i3, oi i4, oi i5, oi nA, oi (0 : Int32), oi cA, oi cB, oi cC, oi cD, oa b0_19, .val .null, oi (1 : Int32), oa b27]) rfl kk) ?_
        refine ob T28 (mkF mG 112 #[oi i0, oi i1, oi i2, oi i3, oi i4, oi i5, oi nA, oi (0 : Int32), oi cA, oi cB, oi cC, oi cD, oa b0_19, .val .null, oi (1 : Int32), oa b27] [(.ref b27)]) (fun _ kk => XS.aload X28.here hx rfl (hb yb at_110) rfl rfl kk) ?_
        obtain ⟨cq29, kq29, q29a, q29b, q29c⟩ := isOf hZ e28 (A27.keep K28q)
        obtain ⟨_, _, ⟨T29, L29, k29, n29⟩, -, X29, ⟨Lc29, hQ29, l29, y29, z29⟩, st29⟩ := X28.virtualBack hx (y := (⟨"com/example/rigorous_sourcing/rigoroussourcing/domain/RecordReference", "isEmpty", "()Z"⟩ : MethodName)) (z := (⟨"com/example/rigorous_sourcing/rigoroussourcing/domain/RecordReference", "isEmpty", "()Z"⟩ : MethodName)) hown (mvT hZ (ow hw 70 rfl)) (mvT hZ (ow hw 71 rfl)) (notFace_of_selects (args := #[]) (mvT hZ (ow hw 73 rfl))) (mvT hZ (ow hw 73 rfl)) (mvT hZ (ow hw 72 rfl)) (by decide) (backOf (W := 0) (rm_ie00 l Z a0 hw [] w_instance w_A c_A zc b27 h28 n0 O28 hS F28_0 F28_1) hZ (ow hw 74 rfl) (ow hw 31 rfl) (by decide) (by decide)) q29a q29c (g := (mkF mG 112 #[oi i0, oi i1, oi i2, oi i3, oi i4, oi i5, oi nA, oi (0 : Int32), oi cA, oi cB, oi cC, oi cD, oa b0_19, .val .null, oi (1 : Int32), oa b27] [(.ref b27)])) rfl (by rw [hml]; rfl) (Steps.refl _) (argsL := []) (rest := []) (lenOf pd_2 rfl) rfl (by show 2 * 0 + _ ≤ _; exact Nat.le_of_eq rfl) (hb yb at_112) (fun _ _ => ⟨rfl, e28, (by decide : 7 + 0 ≤ _), (by decide : 42 + 0 ≤ _)⟩)
        dsimp only [Pt.U, Pt.locs, Pt.cells, Pt.slots] at X29 l29 y29 z29 st29 hQ29
        subst l29 y29 z29
        obtain ⟨rfl, N29q, e29⟩ := hQ29
        have N29 := Fr.app N28 N29q
        refine ob T29 (mkF mG 115 #[oi i0, oi i1, oi i2, oi i3, oi i4, oi i5, oi nA, oi (0 : Int32), oi cA, oi cB, oi cC, oi cD, oa b0_19, .val .null, oi (1 : Int32), oa b27] [(.int (1 : Int32))]) (fun _ kk => st29.trans kk) ?_
        refine ob T29 (mkF mG 117 #[oi i0, oi i1, oi i2, oi i3, oi i4, oi i5, oi nA, oi (0 : Int32), oi cA, oi cB, oi cC, oi cD, oa b0_19, .val .null, oi (1 : Int32), oa b27] [(.int (1 : Int32)), (.int (1 : Int32))]) (fun _ kk => XS.iload X29.here hx rfl (hb yb at_115) rfl kk) ?_
        refine ob T29 (mkF mG 120 #[oi i0, oi i1, oi i2, oi i3, oi i4, oi i5, oi nA, oi (0 : Int32), oi cA, oi cB, oi cC, oi cD, oa b0_19, .val .null, oi (1 : Int32), oa b27] []) (fun _ kk => XS.icmpNo X29.here hx rfl (hb yb at_117) rfl (teq (by decide : (1 : Int32) = (1 : Int32))).2 kk) ?_
        refine ob T29 (mkF mG 121 #[oi i0, oi i1, oi i2, oi i3, oi i4, oi i5, oi nA, oi (0 : Int32), oi cA, oi cB, oi cC, oi cD, oa b0_19, .val .null, oi (1 : Int32), oa b27] [(.int (1 : Int32))]) (fun _ kk => XS.iconst X29.here hx rfl (hb yb at_120) kk) ?_
        refine ob T29 (mkF mG 125 #[oi i0, oi i1, oi i2, oi i3, oi i4, oi i5, oi nA, oi (0 : Int32), oi cA, oi cB, oi cC, oi cD, oa b0_19, .val .null, oi (1 : Int32), oa b27] [(.int (1 : Int32))]) (fun _ kk => XS.goto X29.here hx rfl (pc0 := 121) (pc' := 125) rfl (hb yb at_121) (by decide) (by decide) kk) ?_
        obtain ⟨fs, hr, hrun, hended, hW, hsame⟩ := X29.leave (v := some (.int (1 : Int32))) (fun h => by rw [Bd.returns] at h; cases h)
        obtain ⟨w1, w2, w3⟩ := State.Since.ended (U := T29.setFrames fs) hS19 hW (by show _ ≤ T29.heap.size; rw [e29]; exact (Nat.le_trans (Nat.le_trans hk19 CS27.2.1) CS28.2.1)) hsame
        have CF := CR28.trans (CHv.at X29 hZ hEL CR28.1)
        refine oout (retN X29 hx (t := .boolean) Bd.returns (by simp) (hb yb at_125) hr) hrun hended ⟨_, _, rfl, ?_, ?_, ⟨_, rfl⟩, w1, w2, w3.mono (by decide) (by decide)⟩
        · show Q_rm0 Z w_instance w_A c_A zc i0 i1 i2 i3 i4 i5 h0 n0 _ T29.heap _
          rw [e29]
          exact ⟨rfl, N29⟩
        · show CHr Z oEL sG.vm sG.heap T29.vm T29.heap
          rw [hh, e29]
          exact CF
    · skip
      show oGo pG eG bG _ s₁ (mkF mG 44 #[oi i0, oi i1, oi i2, oi i3, oi i4, oi i5, oi nA, oi nB, oi cA, oi cB, oi cC, oi cD, .unset, .unset, .unset, .unset] [])
      refine ob s₁ (mkF mG 46 #[oi i0, oi i1, oi i2, oi i3, oi i4, oi i5, oi nA, oi nB, oi cA, oi cB, oi cC, oi cD, .unset, .unset, .unset, .unset] [(.int nA)]) (fun _ kk => XS.iload X0.here hx rfl (hb yb at_44) rfl kk) ?_
      refine ob s₁ (mkF mG 48 #[oi i0, oi i1, oi i2, oi i3, oi i4, oi i5, oi nA, oi nB, oi cA, oi cB, oi cC, oi cD, .unset, .unset, .unset, .unset] [(.int cA), (.int nA)]) (fun _ kk => XS.iload X0.here hx rfl (hb yb at_46) rfl kk) ?_
      refine ob s₁ (mkF mG 50 #[oi i0, oi i1, oi i2, oi i3, oi i4, oi i5, oi nA, oi nB, oi cA, oi cB, oi cC, oi cD, .unset, .unset, .unset, .unset] [(.int cB), (.int cA), (.int nA)]) (fun _ kk => XS.iload X0.here hx rfl (hb yb at_48) rfl kk) ?_
      obtain ⟨_, _, ⟨T30, L30, k30, n30⟩, -, X30, hS30, gs30, ⟨Lc30, hQ30, l30, y30, z30, CS30⟩, st30⟩ := callSS X0 hx (y := (⟨"com/example/rigorous_sourcing/rigoroussourcing/domain/RecordReferenceIsEmptyPinLaw", "make", "(ICC)Ljava/lang/String;"⟩ : MethodName)) hown (mvT hZ (ow hw 0 rfl)) (mvT hZ (ow hw 1 rfl)) (mvT hZ (ow hw 2 rfl)) (mvT hZ (ow hw 3 rfl)) (by decide) (backOfSH (W := 0) (rm_mkA l Z a0 hw [] w_instance w_A c_A zc nA cA cB h0 n0 O0 hS hn_nA rg_cA rg_cB) hZ (ow hw 3 rfl) (ow hw 2 rfl) (by decide) (by decide) hEL CR0.1) (g := (mkF mG 50 #[oi i0, oi i1, oi i2, oi i3, oi i4, oi i5, oi nA, oi nB, oi cA, oi cB, oi cC, oi cD, .unset, .unset, .unset, .unset] [(.int cB), (.int cA), (.int nA)])) rfl (by rw [hml]; rfl) (argsL := [(.int nA), (.int cA), (.int cB)]) (rest := []) (lenOf pd_17 rfl) rfl (by show 2 * 0 + _ ≤ _; exact Nat.le_of_eq rfl) (hb yb at_50) (fun _ _ => ⟨rfl, e0, (by decide : 0 + 6 ≤ _), (by decide : 0 + 40 ≤ _)⟩)
      dsimp only [Pt.U, Pt.locs, Pt.cells, Pt.slots] at X30 l30 y30 z30 st30 hQ30 hS30 gs30 CS30
      subst l30 y30 z30
      obtain ⟨X30, hS30, hZ, hown⟩ := rebS hS0 (by rw [e0]; exact hk0) X30 hS30 gs30 hZ hown
      obtain ⟨h30, e30⟩ : ∃ h, T30.heap = h := ⟨_, rfl⟩
      rw [e30] at hQ30
      obtain ⟨b0_30, rfl, N30q, K30q, O30, n_b0_30, z_b0_30, F30_0⟩ := hQ30
      have N30 := Fr.app N0 N30q
      have sz_b0_30 : h0.size ≤ b0_30 := Nat.le_trans K0.1 z_b0_30
      have K30 := K0.trans K30q all0
      rw [e30] at CS30 hS30
      have hk30 : h30.size ≤ h30.size := Nat.le_refl _
      have CR30 := CR0.trans CS30
      refine ob T30 (mkF mG 53 #[oi i0, oi i1, oi i2, oi i3, oi i4, oi i5, oi nA, oi nB, oi cA, oi cB, oi cC, oi cD, .unset, .unset, .unset, .unset] [(.ref b0_30)]) (fun _ kk => st30.trans kk) ?_
      refine ob T30 (mkF mG 55 #[oi i0, oi i1, oi i2, oi i3, oi i4, oi i5, oi nA, oi nB, oi cA, oi cB, oi cC, oi cD, oa b0_30, .unset, .unset, .unset] []) (fun _ kk => XS.astore X30.here hx rfl (hb yb at_53) rfl rfl (l' := #[oi i0, oi i1, oi i2, oi i3, oi i4, oi i5, oi nA, oi nB, oi cA, oi cB, oi cC, oi cD, oa b0_30, .unset, .unset, .unset]) rfl kk) ?_
      refine ob T30 (mkF mG 57 #[oi i0, oi i1, oi i2, oi i3, oi i4, oi i5, oi nA, oi nB, oi cA, oi cB, oi cC, oi cD, oa b0_30, .unset, .unset, .unset] [(.int nB)]) (fun _ kk => XS.iload X30.here hx rfl (hb yb at_55) rfl kk) ?_
      refine ob T30 (mkF mG 59 #[oi i0, oi i1, oi i2, oi i3, oi i4, oi i5, oi nA, oi nB, oi cA, oi cB, oi cC, oi cD, oa b0_30, .unset, .unset, .unset] [(.int cC), (.int nB)]) (fun _ kk => XS.iload X30.here hx rfl (hb yb at_57) rfl kk) ?_
      refine ob T30 (mkF mG 61 #[oi i0, oi i1, oi i2, oi i3, oi i4, oi i5, oi nA, oi nB, oi cA, oi cB, oi cC, oi cD, oa b0_30, .unset, .unset, .unset] [(.int cD), (.int cC), (.int nB)]) (fun _ kk => XS.iload X30.here hx rfl (hb yb at_59) rfl kk) ?_
      obtain ⟨_, _, ⟨T31, L31, k31, n31⟩, -, X31, hS31, gs31, ⟨Lc31, hQ31, l31, y31, z31, CS31⟩, st31⟩ := callSS X30 hx (y := (⟨"com/example/rigorous_sourcing/rigoroussourcing/domain/RecordReferenceIsEmptyPinLaw", "make", "(ICC)Ljava/lang/String;"⟩ : MethodName)) hown (mvT hZ (ow hw 0 rfl)) (mvT hZ (ow hw 1 rfl)) (mvT hZ (ow hw 2 rfl)) (mvT hZ (ow hw 3 rfl)) (by decide) (backOfSH (W := 0) (rm_mkA l Z a0 hw [] w_instance w_A c_A zc nB cC cD h30 n0 O30 hS hn_nB rg_cC rg_cD) hZ (ow hw 3 rfl) (ow hw 2 rfl) (by decide) (by decide) hEL CR30.1) (g := (mkF mG 61 #[oi i0, oi i1, oi i2, oi i3, oi i4, oi i5, oi nA, oi nB, oi cA, oi cB, oi cC, oi cD, oa b0_30, .unset, .unset, .unset] [(.int cD), (.int cC), (.int nB)])) rfl (by rw [hml]; rfl) (argsL := [(.int nB), (.int cC), (.int cD)]) (rest := []) (lenOf pd_17 rfl) rfl (by show 2 * 0 + _ ≤ _; exact Nat.le_of_eq rfl) (hb yb at_61) (fun _ _ => ⟨rfl, e30, (by decide : 6 + 6 ≤ _), (by decide : 40 + 40 ≤ _)⟩)
      dsimp only [Pt.U, Pt.locs, Pt.cells, Pt.slots] at X31 l31 y31 z31 st31 hQ31 hS31 gs31 CS31
      subst l31 y31 z31
      obtain ⟨X31, hS31, hZ, hown⟩ := rebS hS30 (by rw [e30]; exact hk30) X31 hS31 gs31 hZ hown
      obtain ⟨h31, e31⟩ : ∃ h, T31.heap = h := ⟨_, rfl⟩
      rw [e31] at hQ31
      obtain ⟨b0_31, rfl, N31q, K31q, O31, n_b0_31, z_b0_31, F31_0⟩ := hQ31
      have N31 := Fr.app N30 N31q
      have sz_b0_31 : h0.size ≤ b0_31 := Nat.le_trans K30.1 z_b0_31
      have ne_b0_30_b0_31 : b0_30 ≠ b0_31 := Nat.ne_of_lt (Nat.lt_of_lt_of_le F30_0.lt z_b0_31)
      have K31 := K30.trans K31q all0
      rw [e31] at CS31 hS31
      have hk31 : h31.size ≤ h31.size := Nat.le_refl _
      have CR31 := CR30.trans CS31
      refine ob T31 (mkF mG 64 #[oi i0, oi i1, oi i2, oi i3, oi i4, oi i5, oi nA, oi nB, oi cA, oi cB, oi cC, oi cD, oa b0_30, .unset, .unset, .unset] [(.ref b0_31)]) (fun _ kk => st31.trans kk) ?_
      refine ob T31 (mkF mG 66 #[oi i0, oi i1, oi i2, oi i3, oi i4, oi i5, oi nA, oi nB, oi cA, oi cB, oi cC, oi cD, oa b0_30, oa b0_31, .unset, .unset] []) (fun _ kk => XS.astore X31.here hx rfl (hb yb at_64) rfl rfl (l' := #[oi i0, oi i1, oi i2, oi i3, oi i4, oi i5, oi nA, oi nB, oi cA, oi cB, oi cC, oi cD, oa b0_30, oa b0_31, .unset, .unset]) rfl kk) ?_
      refine ob T31 (mkF mG 68 #[oi i0, oi i1, oi i2, oi i3, oi i4, oi i5, oi nA, oi nB, oi cA, oi cB, oi cC, oi cD, oa b0_30, oa b0_31, .unset, .unset] [(.int nA)]) (fun _ kk => XS.iload X31.here hx rfl (hb yb at_66) rfl kk) ?_
      refine ob T31 (mkF mG 70 #[oi i0, oi i1, oi i2, oi i3, oi i4, oi i5, oi nA, oi nB, oi cA, oi cB, oi cC, oi cD, oa b0_30, oa b0_31, .unset, .unset] [(.int cA), (.int nA)]) (fun _ kk => XS.iload X31.here hx rfl (hb yb at_68) rfl kk) ?_
      refine ob T31 (mkF mG 72 #[oi i0, oi i1, oi i2, oi i3, oi i4, oi i5, oi nA, oi nB, oi cA, oi cB, oi cC, oi cD, oa b0_30, oa b0_31, .unset, .unset] [(.int cB), (.int cA), (.int nA)]) (fun _ kk => XS.iload X31.here hx rfl (hb yb at_70) rfl kk) ?_
      obtain ⟨_, _, ⟨T32, L32, k32, n32⟩, -, X32, ⟨Lc32, hQ32, l32, y32, z32⟩, st32⟩ := Jvm.LawKit.callS X31 hx (y := (⟨"com/example/rigorous_sourcing/rigoroussourcing/domain/RecordReferenceIsEmptyPinLaw", "blank", "(ICC)Z"⟩ : MethodName)) hown (mvT hZ (ow hw 26 rfl)) (mvT hZ (ow hw 27 rfl)) (mvT hZ (ow hw 2 rfl)) (mvT hZ (ow hw 28 rfl)) (by decide) (backOf (W := 0) (rm_bkA l Z a0 hw [] w_instance w_A c_A zc nA cA cB h31 n0 O31 hS hn_nA) hZ (ow hw 28 rfl) (ow hw 2 rfl) (by decide) (by decide)) (g := (mkF mG 72 #[oi i0, oi i1, oi i2, oi i3, oi i4, oi i5, oi nA, oi nB, oi cA, oi cB, oi cC, oi cD, oa b0_30, oa b0_31, .unset, .unset] [(.int cB), (.int cA), (.int nA)])) rfl (by rw [hml]; rfl) (argsL := [(.int nA), (.int cA), (.int cB)]) (rest := []) (lenOf pd_18 rfl) rfl (by show 2 * 0 + _ ≤ _; exact Nat.le_of_eq rfl) (hb yb at_72) (fun _ _ => ⟨rfl, e31, (by decide : 12 + 0 ≤ _), (by decide : 80 + 0 ≤ _)⟩)
      dsimp only [Pt.U, Pt.locs, Pt.cells, Pt.slots] at X32 l32 y32 z32 st32 hQ32
      subst l32 y32 z32
      obtain ⟨rfl, N32q, e32⟩ := hQ32
      have N32 := Fr.app N31 N32q
      refine ob T32 (mkF mG 75 #[oi i0, oi i1, oi i2, oi i3, oi i4, oi i5, oi nA, oi nB, oi cA, oi cB, oi cC, oi cD, oa b0_30, oa b0_31, .unset, .unset] [(.int (oB (oBl nA cA cB)))]) (fun _ kk => st32 _ kk) ?_
      cases hb33 : oBl nA cA cB with
      | false =>
        show oGo pG eG bG _ T32 (mkF mG 75 #[oi i0, oi i1, oi i2, oi i3, oi i4, oi i5, oi nA, oi nB, oi cA, oi cB, oi cC, oi cD, oa b0_30, oa b0_31, .unset, .unset] [(.int (0 : Int32))])
        have F30_0_f := hb33 ▸ F30_0
        refine ob T32 (mkF mG 94 #[oi i0, oi i1, oi i2, oi i3, oi i4, oi i5, oi nA, oi nB, oi cA, oi cB, oi cC, oi cD, oa b0_30, oa b0_31, .unset, .unset] []) (fun _ kk => XS.ifYes X32.here hx rfl (pc0 := 75) (pc' := 94) rfl (hb yb at_75) rfl ((if0 _ _).trans (teq (by decide : (0 : Int32) = (0 : Int32))).1) (by decide) (by decide) kk) ?_
        refine ob T32 (mkF mG 95 #[oi i0, oi i1, oi i2, oi i3, oi i4, oi i5, oi nA, oi nB, oi cA, oi cB, oi cC, oi cD, oa b0_30, oa b0_31, .unset, .unset] [(.int (0 : Int32))]) (fun _ kk => XS.iconst X32.here hx rfl (hb yb at_94) kk) ?_
        refine ob T32 (mkF mG 97 #[oi i0, oi i1, oi i2, oi i3, oi i4, oi i5, oi nA, oi nB, oi cA, oi cB, oi cC, oi cD, oa b0_30, oa b0_31, oi (0 : Int32), .unset] []) (fun _ kk => XS.istore X32.here hx rfl (hb yb at_95) rfl (l' := #[oi i0, oi i1, oi i2, oi i3, oi i4, oi i5, oi nA, oi nB, oi cA, oi cB, oi cC, oi cD, oa b0_30, oa b0_31, oi (0 : Int32), .unset]) rfl kk) ?_
        cases hb34 : oBl nB cC cD with
        | false =>
          have F31_0_f := hb34 ▸ F31_0
          obtain ⟨T35, h35, X35, e35, E35, A35, D35, _x35, st35⟩ := newO X32 hx hZ hown (ow hw 29 rfl) (ow hw 30 rfl) (ow hw 31 rfl) e32 (g := (mkF mG 97 #[oi i0, oi i1, oi i2, oi i3, oi i4, oi i5, oi nA, oi nB, oi cA, oi cB, oi cC, oi cD, oa b0_30, oa b0_31, oi (0 : Int32), .unset] [])) rfl (hb yb at_97) (by decide) (by decide)
          obtain ⟨b35, g35⟩ : ∃ z, z = h31.size := ⟨_, rfl⟩
          rw [← g35] at A35 D35 st35
          have n_b35 : n0 ≤ b35 := Nat.le_trans (on0 O31) (Nat.le_of_eq g35.symm)
          have sz_b35 : h0.size ≤ b35 := Nat.le_trans K31.1 (Nat.le_of_eq g35.symm)
          have ne_b0_30_b35 : b0_30 ≠ b35 := Nat.ne_of_lt (Nat.lt_of_lt_of_le (F30_0_f.keep0 K31q).lt (Nat.le_of_eq g35.symm))
          have ne_b0_31_b35 : b0_31 ≠ b35 := Nat.ne_of_lt (Nat.lt_of_lt_of_le F31_0_f.lt (Nat.le_of_eq g35.symm))
          have CS35 : CHr Z oEL T31.vm h31 T31.vm h35 := CHr.ext E35 CR31.1
          have CR35 := CR31.trans CS35
          have O35 := O31.ext E35
          have K35 := K31.ext E35
          have sf_b35 : Safe Z oEL T31.vm h35 b35 := Safe.ext E35 CR31.1 (Safe.new (Nat.le_of_eq g35.symm))
          have F35_37 : Fld Z h35 b35 "com/example/rigorous_sourcing/rigoroussourcing/domain/RecordReference" "mId" "Ljava/lang/String;" .null := D35 (Or.inr (ow hw 37 rfl)) (ty := (.object "java/lang/String")) (by decide)
          have F35_69 : Fld Z h35 b35 "com/example/rigorous_sourcing/rigoroussourcing/domain/RecordReference" "mCode" "Ljava/lang/String;" .null := D35 (Or.inr (ow hw 69 rfl)) (ty := (.object "java/lang/String")) (by decide)
          refine ob T35 (mkF mG 100 #[oi i0, oi i1, oi i2, oi i3, oi i4, oi i5, oi nA, oi nB, oi cA, oi cB, oi cC, oi cD, oa b0_30, oa b0_31, oi (0 : Int32), .unset] [(.ref b35)]) (fun _ kk => st35 _ kk) ?_
          refine ob T35 (mkF mG 101 #[oi i0, oi i1, oi i2, oi i3, oi i4, oi i5, oi nA, oi nB, oi cA, oi cB, oi cC, oi cD, oa b0_30, oa b0_31, oi (0 : Int32), .unset] [(.ref b35), (.ref b35)]) (fun _ kk => XS.dup X35.here hx rfl (hb yb at_100) rfl rfl kk) ?_
          refine ob T35 (mkF mG 103 #[oi i0, oi i1, oi i2, oi i3, oi i4, oi i5, oi nA, oi nB, oi cA, oi cB, oi cC, oi cD, oa b0_30, oa b0_31, oi (0 : Int32), .unset] [(.ref b0_30), (.ref b35), (.ref b35)]) (fun _ kk => XS.aload X35.here hx rfl (hb yb at_101) rfl rfl kk) ?_
          refine ob T35 (mkF mG 105 #[oi i0, oi i1, oi i2, oi i3, oi i4, oi i5, oi nA, oi nB, oi cA, oi cB, oi cC, oi cD, oa b0_30, oa b0_31, oi (0 : Int32), .unset] [(.ref b0_31), (.ref b0_30), (.ref b35), (.ref b35)]) (fun _ kk => XS.aload X35.here hx rfl (hb yb at_103) rfl rfl kk) ?_
          obtain ⟨_, _, ⟨T36, L36, k36, n36⟩, -, X36, ⟨Lc36, hQ36, l36, y36, z36⟩, st36⟩ := X35.specialBack hx (y := (⟨"com/example/rigorous_sourcing/rigoroussourcing/domain/RecordReference", "<init>", "(Ljava/lang/String;Ljava/lang/String;)V"⟩ : MethodName)) rfl hown (mvT hZ (ow hw 32 rfl)) (mvT hZ (ow hw 33 rfl)) (mvT hZ (ow hw 34 rfl)) (by decide) (backOf (W := 1) (rm_rrFF l Z a0 hw [] w_instance w_A c_A zc b35 .null .null b0_30 b0_31 h35 n0 O35 hS A35 F35_37 F35_69 ((F30_0_f.1.keep K31q).ext E35) ((F30_0_f.keep0 K31q).ext E35) (F31_0_f.1.ext E35) (F31_0_f.ext E35) n_b35) hZ (ow hw 34 rfl) (ow hw 31 rfl) (by decide) (by decide)) (g := (mkF mG 105 #[oi i0, oi i1, oi i2, oi i3, oi i4, oi i5, oi nA, oi nB, oi cA, oi cB, oi cC, oi cD, oa b0_30, oa b0_31, oi (0 : Int32), .unset] [(.ref b0_31), (.ref b0_30), (.ref b35), (.ref b35)])) rfl (by rw [hml]; rfl) (Steps.refl _) (a := b35) (argsL := [(.ref b0_30), (.ref b0_31)]) (rest := [(.ref b35)]) (lenOf pd_19 rfl) rfl (by show 2 * 0 + _ ≤ _; exact Nat.le_of_eq rfl) (hb yb at_105) (fun _ _ => ⟨rfl, e35, (by decide : 13 + 4 ≤ _), (by decide : 82 + 10 ≤ _)⟩)
          dsimp only [Pt.U, Pt.locs, Pt.cells, Pt.slots] at X36 l36 y36 z36 st36 hQ36
          subst l36 y36 z36
          obtain ⟨h36, e36⟩ : ∃ h, T36.heap = h := ⟨_, rfl⟩
          rw [e36] at hQ36
          obtain ⟨r0_36, r1_36, rfl, N36q, K36q, O36, F36_0, F36_1⟩ := hQ36
          have N36 := Fr.app N32 N36q
          have K36 := K35.trans K36q (allS (Or.inr sz_b35) all0)
          have CS36 : CHr Z oEL T31.vm h35 T31.vm h36 := CHr.keep K36q (sfS (Safe.exa hZ.alike A35 (by decide) (by decide)) sf0) CR35.1
          have CR36 := CR35.trans CS36
          refine ob T36 (mkF mG 108 #[oi i0, oi i1, oi i2, oi i3, oi i4, oi i5, oi nA, oi nB, oi cA, oi cB, oi cC, oi cD, oa b0_30, oa b0_31, oi (0 : Int32), .unset] [(.ref b35)]) (fun _ kk => st36.trans kk) ?_
          refine ob T36 (mkF mG 110 #[oi i0, oi i1, oi i2, oi i3, oi i4, oi i5, oi nA, oi nB, oi cA, oi cB, oi cC, oi cD, oa b0_30, oa b0_31, oi (0 : Int32), oa b35] []) (fun _ kk => XS.astore X36.here hx rfl (hb yb at_108) rfl rfl (l' := #[oi i0, oi i1, oi i2, oi i3, oi i4, oi i5, oi nA, oi nB, oi cA, oi cB, oi cC, oi cD, oa b0_30, oa b0_31, oi (0 : Int32), oa b35]) rfl kk) ?_
          refine ob T36 (mkF mG 112 #[oi i0, oi i1, oi i2, oi i3, oi i4, oi i5, oi nA, oi nB, oi cA, oi cB, oi cC, oi cD, oa b0_30, oa b0_31, oi (0 : Int32), oa b35] [(.ref b35)]) (fun _ kk => XS.aload X36.here hx rfl (hb yb at_110) rfl rfl kk) ?_
          obtain ⟨cq37, kq37, q37a, q37b, q37c⟩ := isOf hZ e36 (A35.keep K36q)
          obtain ⟨_, _, ⟨T37, L37, k37, n37⟩, -, X37, ⟨Lc37, hQ37, l37, y37, z37⟩, st37⟩ := X36.virtualBack hx (y := (⟨"com/example/rigorous_sourcing/rigoroussourcing/domain/RecordReference", "isEmpty", "()Z"⟩ : MethodName)) (z := (⟨"com/example/rigorous_sourcing/rigoroussourcing/domain/RecordReference", "isEmpty", "()Z"⟩ : MethodName)) hown (mvT hZ (ow hw 70 rfl)) (mvT hZ (ow hw 71 rfl)) (notFace_of_selects (args := #[]) (mvT hZ (ow hw 73 rfl))) (mvT hZ (ow hw 73 rfl)) (mvT hZ (ow hw 72 rfl)) (by decide) (backOf (W := 0) (rm_ie11 l Z a0 hw [] w_instance w_A c_A zc b35 r0_36 r1_36 h36 n0 O36 hS F36_0 F36_1) hZ (ow hw 74 rfl) (ow hw 31 rfl) (by decide) (by decide)) q37a q37c (g := (mkF mG 112 #[oi i0, oi i1, oi i2, oi i3, oi i4, oi i5, oi nA, oi nB, oi cA, oi cB, oi cC, oi cD, oa b0_30, oa b0_31, oi (0 : Int32), oa b35] [(.ref b35)])) rfl (by rw [hml]; rfl) (Steps.refl _) (argsL := []) (rest := []) (lenOf pd_2 rfl) rfl (by show 2 * 0 + _ ≤ _; exact Nat.le_of_eq rfl) (hb yb at_112) (fun _ _ => ⟨rfl, e36, (by decide : 17 + 0 ≤ _), (by decide : 92 + 0 ≤ _)⟩)
          dsimp only [Pt.U, Pt.locs, Pt.cells, Pt.slots] at X37 l37 y37 z37 st37 hQ37
          subst l37 y37 z37
          obtain ⟨rfl, N37q, e37⟩ := hQ37
          have N37 := Fr.app N36 N37q
          refine ob T37 (mkF mG 115 #[oi i0, oi i1, oi i2, oi i3, oi i4, oi i5, oi nA, oi nB, oi cA, oi cB, oi cC, oi cD, oa b0_30, oa b0_31, oi (0 : Int32), oa b35] [(.int (0 : Int32))]) (fun _ kk => st37.trans kk) ?_
          refine ob T37 (mkF mG 117 #[oi i0, oi i1, oi i2, oi i3, oi i4, oi i5, oi nA, oi nB, oi cA, oi cB, oi cC, oi cD, oa b0_30, oa b0_31, oi (0 : Int32), oa b35] [(.int (0 : Int32)), (.int (0 : Int32))]) (fun _ kk => XS.iload X37.here hx rfl (hb yb at_115) rfl kk) ?_
          refine ob T37 (mkF mG 120 #[oi i0, oi i1, oi i2, oi i3, oi i4, oi i5, oi nA, oi nB, oi cA, oi cB, oi cC, oi cD, oa b0_30, oa b0_31, oi (0 : Int32), oa b35] []) (fun _ kk => XS.icmpNo X37.here hx rfl (hb yb at_117) rfl (teq (by decide : (0 : Int32) = (0 : Int32))).2 kk) ?_
          refine ob T37 (mkF mG 121 #[oi i0, oi i1, oi i2, oi i3, oi i4, oi i5, oi nA, oi nB, oi cA, oi cB, oi cC, oi cD, oa b0_30, oa b0_31, oi (0 : Int32), oa b35] [(.int (1 : Int32))]) (fun _ kk => XS.iconst X37.here hx rfl (hb yb at_120) kk) ?_
          refine ob T37 (mkF mG 125 #[oi i0, oi i1, oi i2, oi i3, oi i4, oi i5, oi nA, oi nB, oi cA, oi cB, oi cC, oi cD, oa b0_30, oa b0_31, oi (0 : Int32), oa b35] [(.int (1 : Int32))]) (fun _ kk => XS.goto X37.here hx rfl (pc0 := 121) (pc' := 125) rfl (hb yb at_121) (by decide) (by decide) kk) ?_
          obtain ⟨fs, hr, hrun, hended, hW, hsame⟩ := X37.leave (v := some (.int (1 : Int32))) (fun h => by rw [Bd.returns] at h; cases h)
          obtain ⟨w1, w2, w3⟩ := State.Since.ended (U := T37.setFrames fs) hS31 hW (by show _ ≤ T37.heap.size; rw [e37]; exact (Nat.le_trans (Nat.le_trans hk31 CS35.2.1) CS36.2.1)) hsame
          have CF := CR36.trans (CHv.at X37 hZ hEL CR36.1)
          refine oout (retN X37 hx (t := .boolean) Bd.returns (by simp) (hb yb at_125) hr) hrun hended ⟨_, _, rfl, ?_, ?_, ⟨_, rfl⟩, w1, w2, w3.mono (by decide) (by decide)⟩
          · show Q_rm0 Z w_instance w_A c_A zc i0 i1 i2 i3 i4 i5 h0 n0 _ T37.heap _
            rw [e37]
            exact ⟨rfl, N37⟩
          · show CHr Z oEL sG.vm sG.heap T37.vm T37.heap
            rw [hh, e37]
            exact CF
        | true =>
          have F31_0_t := hb34 ▸ F31_0
          obtain ⟨T38, h38, X38, e38, E38, A38, D38, _x38, st38⟩ := newO X32 hx hZ hown (ow hw 29 rfl) (ow hw 30 rfl) (ow hw 31 rfl) e32 (g := (mkF mG 97 #[oi i0, oi i1, oi i2, oi i3, oi i4, oi i5, oi nA, oi nB, oi cA, oi cB, oi cC, oi cD, oa b0_30, oa b0_31, oi (0 : Int32), .unset] [])) rfl (hb yb at_97) (by decide) (by decide)
          obtain ⟨b38, g38⟩ : ∃ z, z = h31.size := ⟨_, rfl⟩
          rw [← g38] at A38 D38 st38
          have n_b38 : n0 ≤ b38 := Nat.le_trans (on0 O31) (Nat.le_of_eq g38.symm)
          have sz_b38 : h0.size ≤ b38 := Nat.le_trans K31.1 (Nat.le_of_eq g38.symm)
          have ne_b0_30_b38 : b0_30 ≠ b38 := Nat.ne_of_lt (Nat.lt_of_lt_of_le (F30_0_f.keep0 K31q).lt (Nat.le_of_eq g38.symm))
          have ne_b0_31_b38 : b0_31 ≠ b38 := Nat.ne_of_lt (Nat.lt_of_lt_of_le F31_0_t.lt (Nat.le_of_eq g38.symm))
          have CS38 : CHr Z oEL T31.vm h31 T31.vm h38 := CHr.ext E38 CR31.1
          have CR38 := CR31.trans CS38
          have O38 := O31.ext E38
          have K38 := K31.ext E38
          have sf_b38 : Safe Z oEL T31.vm h38 b38 := Safe.ext E38 CR31.1 (Safe.new (Nat.le_of_eq g38.symm))
          have F38_37 : Fld Z h38 b38 "com/example/rigorous_sourcing/rigoroussourcing/domain/RecordReference" "mId" "Ljava/lang/String;" .null := D38 (Or.inr (ow hw 37 rfl)) (ty := (.object "java/lang/String")) (by decide)
          have F38_69 : Fld Z h38 b38 "com/example/rigorous_sourcing/rigoroussourcing/domain/RecordReference" "mCode" "Ljava/lang/String;" .null := D38 (Or.inr (ow hw 69 rfl)) (ty := (.object "java/lang/String")) (by decide)
          refine ob T38 (mkF mG 100 #[oi i0, oi i1, oi i2, oi i3, oi i4, oi i5, oi nA, oi nB, oi cA, oi cB, oi cC, oi cD, oa b0_30, oa b0_31, oi (0 : Int32), .unset] [(.ref b38)]) (fun _ kk => st38 _ kk) ?_
          refine ob T38 (mkF mG 101 #[oi i0, oi i1, oi i2, oi i3, oi i4, oi i5, oi nA, oi nB, oi cA, oi cB, oi cC, oi cD, oa b0_30, oa b0_31, oi (0 : Int32), .unset] [(.ref b38), (.ref b38)]) (fun _ kk => XS.dup X38.here hx rfl (hb yb at_100) rfl rfl kk) ?_
          refine ob T38 (mkF mG 103 #[oi i0, oi i1, oi i2, oi i3, oi i4, oi i5, oi nA, oi nB, oi cA, oi cB, oi cC, oi cD, oa b0_30, oa b0_31, oi (0 : Int32), .unset] [(.ref b0_30), (.ref b38), (.ref b38)]) (fun _ kk => XS.aload X38.here hx rfl (hb yb at_101) rfl rfl kk) ?_
          refine ob T38 (mkF mG 105 #[oi i0, oi i1, oi i2, oi i3, oi i4, oi i5, oi nA, oi nB, oi cA, oi cB, oi cC, oi cD, oa b0_30, oa b0_31, oi (0 : Int32), .unset] [(.ref b0_31), (.ref b0_30), (.ref b38), (.ref b38)]) (fun _ kk => XS.aload X38.here hx rfl (hb yb at_103) rfl rfl kk) ?_
          obtain ⟨_, _, ⟨T39, L39, k39, n39⟩, -, X39, ⟨Lc39, hQ39, l39, y39, z39⟩, st39⟩ := X38.specialBack hx (y := (⟨"com/example/rigorous_sourcing/rigoroussourcing/domain/RecordReference", "<init>", "(Ljava/lang/String;Ljava/lang/String;)V"⟩ : MethodName)) rfl hown (mvT hZ (ow hw 32 rfl)) (mvT hZ (ow hw 33 rfl)) (mvT hZ (ow hw 34 rfl)) (by decide) (backOf (W := 1) (rm_rrFT l Z a0 hw [] w_instance w_A c_A zc b38 .null .null b0_30 b0_31 h38 n0 O38 hS A38 F38_37 F38_69 ((F30_0_f.1.keep K31q).ext E38) ((F30_0_f.keep0 K31q).ext E38) (F31_0_t.1.ext E38) (F31_0_t.ext E38) n_b38) hZ (ow hw 34 rfl) (ow hw 31 rfl) (by decide) (by decide)) (g := (mkF mG 105 #[oi i0, oi i1, oi i2, oi i3, oi i4, oi i5, oi nA, oi nB, oi cA, oi cB, oi cC, oi cD, oa b0_30, oa b0_31, oi (0 : Int32), .unset] [(.ref b0_31), (.ref b0_30), (.ref b38), (.ref b38)])) rfl (by rw [hml]; rfl) (Steps.refl _) (a := b38) (argsL := [(.ref b0_30), (.ref b0_31)]) (rest := [(.ref b38)]) (lenOf pd_19 rfl) rfl (by show 2 * 0 + _ ≤ _; exact Nat.le_of_eq rfl) (hb yb at_105) (fun _ _ => ⟨rfl, e38, (by decide : 13 + 2 ≤ _), (by decide : 82 + 5 ≤ _)⟩)
          dsimp only [Pt.U, Pt.locs, Pt.cells, Pt.slots] at X39 l39 y39 z39 st39 hQ39
          subst l39 y39 z39
          obtain ⟨h39, e39⟩ : ∃ h, T39.heap = h := ⟨_, rfl⟩
          rw [e39] at hQ39
          obtain ⟨r0_39, rfl, N39q, K39q, O39, F39_0, F39_1⟩ := hQ39
          have N39 := Fr.app N32 N39q
          have K39 := K38.trans K39q (allS (Or.inr sz_b38) all0)
          have CS39 : CHr Z oEL T31.vm h38 T31.vm h39 := CHr.keep K39q (sfS (Safe.exa hZ.alike A38 (by decide) (by decide)) sf0) CR38.1
          have CR39 := CR38.trans CS39
          refine ob T39 (mkF mG 108 #[oi i0, oi i1, oi i2, oi i3, oi i4, oi i5, oi nA, oi nB, oi cA, oi cB, oi cC, oi cD, oa b0_30, oa b0_31, oi (0 : Int32), .unset] [(.ref b38)]) (fun _ kk => st39.trans kk) ?_
          refine ob T39 (mkF mG 110 #[oi i0, oi i1, oi i2, oi i3, oi i4, oi i5, oi nA, oi nB, oi cA, oi cB, oi cC, oi cD, oa b0_30, oa b0_31, oi (0 : Int32), oa b38] []) (fun _ kk => XS.astore X39.here hx rfl (hb yb at_108) rfl rfl (l' := #[oi i0, oi i1, oi i2, oi i3, oi i4, oi i5, oi nA, oi nB, oi cA, oi cB, oi cC, oi cD, oa b0_30, oa b0_31, oi (0 : Int32), oa b38]) rfl kk) ?_
          refine ob T39 (mkF mG 112 #[oi i0, oi i1, oi i2, oi i3, oi i4, oi i5, oi nA, oi nB, oi cA, oi cB, oi cC, oi cD, oa b0_30, oa b0_31, oi (0 : Int32), oa b38] [(.ref b38)]) (fun _ kk => XS.aload X39.here hx rfl (hb yb at_110) rfl rfl kk) ?_
          obtain ⟨cq40, kq40, q40a, q40b, q40c⟩ := isOf hZ e39 (A38.keep K39q)
          obtain ⟨_, _, ⟨T40, L40, k40, n40⟩, -, X40, ⟨Lc40, hQ40, l40, y40, z40⟩, st40⟩ := X39.virtualBack hx (y := (⟨"com/example/rigorous_sourcing/rigoroussourcing/domain/RecordReference", "isEmpty", "()Z"⟩ : MethodName)) (z := (⟨"com/example/rigorous_sourcing/rigoroussourcing/domain/RecordReference", "isEmpty", "()Z"⟩ : MethodName)) hown (mvT hZ (ow hw 70 rfl)) (mvT hZ (ow hw 71 rfl)) (notFace_of_selects (args := #[]) (mvT hZ (ow hw 73 rfl))) (mvT hZ (ow hw 73 rfl)) (mvT hZ (ow hw 72 rfl)) (by decide) (backOf (W := 0) (rm_ie10 l Z a0 hw [] w_instance w_A c_A zc b38 r0_39 h39 n0 O39 hS F39_0 F39_1) hZ (ow hw 74 rfl) (ow hw 31 rfl) (by decide) (by decide)) q40a q40c (g := (mkF mG 112 #[oi i0, oi i1, oi i2, oi i3, oi i4, oi i5, oi nA, oi nB, oi cA, oi cB, oi cC, oi cD, oa b0_30, oa b0_31, oi (0 : Int32), oa b38] [(.ref b38)])) rfl (by rw [hml]; rfl) (Steps.refl _) (argsL := []) (rest := []) (lenOf pd_2 rfl) rfl (by show 2 * 0 + _ ≤ _; exact Nat.le_of_eq rfl) (hb yb at_112) (fun _ _ => ⟨rfl, e39, (by decide : 15 + 0 ≤ _), (by decide : 87 + 0 ≤ _)⟩)
          dsimp only [Pt.U, Pt.locs, Pt.cells, Pt.slots] at X40 l40 y40 z40 st40 hQ40
          subst l40 y40 z40
          obtain ⟨rfl, N40q, e40⟩ := hQ40
          have N40 := Fr.app N39 N40q
          refine ob T40 (mkF mG 115 #[oi i0, oi i1, oi i2, oi i3, oi i4, oi i5, oi nA, oi nB, oi cA, oi cB, oi cC, oi cD, oa b0_30, oa b0_31, oi (0 : Int32), oa b38] [(.int (0 : Int32))]) (fun _ kk => st40.trans kk) ?_
          refine ob T40 (mkF mG 117 #[oi i0, oi i1, oi i2, oi i3, oi i4, oi i5, oi nA, oi nB, oi cA, oi cB, oi cC, oi cD, oa b0_30, oa b0_31, oi (0 : Int32), oa b38] [(.int (0 : Int32)), (.int (0 : Int32))]) (fun _ kk => XS.iload X40.here hx rfl (hb yb at_115) rfl kk) ?_
          refine ob T40 (mkF mG 120 #[oi i0, oi i1, oi i2, oi i3, oi i4, oi i5, oi nA, oi nB, oi cA, oi cB, oi cC, oi cD, oa b0_30, oa b0_31, oi (0 : Int32), oa b38] []) (fun _ kk => XS.icmpNo X40.here hx rfl (hb yb at_117) rfl (teq (by decide : (0 : Int32) = (0 : Int32))).2 kk) ?_
          refine ob T40 (mkF mG 121 #[oi i0, oi i1, oi i2, oi i3, oi i4, oi i5, oi nA, oi nB, oi cA, oi cB, oi cC, oi cD, oa b0_30, oa b0_31, oi (0 : Int32), oa b38] [(.int (1 : Int32))]) (fun _ kk => XS.iconst X40.here hx rfl (hb yb at_120) kk) ?_
          refine ob T40 (mkF mG 125 #[oi i0, oi i1, oi i2, oi i3, oi i4, oi i5, oi nA, oi nB, oi cA, oi cB, oi cC, oi cD, oa b0_30, oa b0_31, oi (0 : Int32), oa b38] [(.int (1 : Int32))]) (fun _ kk => XS.goto X40.here hx rfl (pc0 := 121) (pc' := 125) rfl (hb yb at_121) (by decide) (by decide) kk) ?_
          obtain ⟨fs, hr, hrun, hended, hW, hsame⟩ := X40.leave (v := some (.int (1 : Int32))) (fun h => by rw [Bd.returns] at h; cases h)
          obtain ⟨w1, w2, w3⟩ := State.Since.ended (U := T40.setFrames fs) hS31 hW (by show _ ≤ T40.heap.size; rw [e40]; exact (Nat.le_trans (Nat.le_trans hk31 CS38.2.1) CS39.2.1)) hsame
          have CF := CR39.trans (CHv.at X40 hZ hEL CR39.1)
          refine oout (retN X40 hx (t := .boolean) Bd.returns (by simp) (hb yb at_125) hr) hrun hended ⟨_, _, rfl, ?_, ?_, ⟨_, rfl⟩, w1, w2, w3.mono (by decide) (by decide)⟩
          · show Q_rm0 Z w_instance w_A c_A zc i0 i1 i2 i3 i4 i5 h0 n0 _ T40.heap _
            rw [e40]
            exact ⟨rfl, N40⟩
          · show CHr Z oEL sG.vm sG.heap T40.vm T40.heap
            rw [hh, e40]
            exact CF
      | true =>
        show oGo pG eG bG _ T32 (mkF mG 75 #[oi i0, oi i1, oi i2, oi i3, oi i4, oi i5, oi nA, oi nB, oi cA, oi cB, oi cC, oi cD, oa b0_30, oa b0_31, .unset, .unset] [(.int (1 : Int32))])
        have F30_0_t := hb33 ▸ F30_0
        refine ob T32 (mkF mG 78 #[oi i0, oi i1, oi i2, oi i3, oi i4, oi i5, oi nA, oi nB, oi cA, oi cB, oi cC, oi cD, oa b0_30, oa b0_31, .unset, .unset] []) (fun _ kk => XS.ifNo X32.here hx rfl (hb yb at_75) rfl ((if0 _ _).trans (feq (by decide : ¬ ((1 : Int32) = (0 : Int32)))).1) kk) ?_
        refine ob T32 (mkF mG 80 #[oi i0, oi i1, oi i2, oi i3, oi i4, oi i5, oi nA, oi nB, oi cA, oi cB, oi cC, oi cD, oa b0_30, oa b0_31, .unset, .unset] [(.int nB)]) (fun _ kk => XS.iload X32.here hx rfl (hb yb at_78) rfl kk) ?_
        refine ob T32 (mkF mG 82 #[oi i0, oi i1, oi i2, oi i3, oi i4, oi i5, oi nA, oi nB, oi cA, oi cB, oi cC, oi cD, oa b0_30, oa b0_31, .unset, .unset] [(.int cC), (.int nB)]) (fun _ kk => XS.iload X32.here hx rfl (hb yb at_80) rfl kk) ?_
        refine ob T32 (mkF mG 84 #[oi i0, oi i1, oi i2, oi i3, oi i4, oi i5, oi nA, oi nB, oi cA, oi cB, oi cC, oi cD, oa b0_30, oa b0_31, .unset, .unset] [(.int cD), (.int cC), (.int nB)]) (fun _ kk => XS.iload X32.here hx rfl (hb yb at_82) rfl kk) ?_
        obtain ⟨_, _, ⟨T41, L41, k41, n41⟩, -, X41, ⟨Lc41, hQ41, l41, y41, z41⟩, st41⟩ := Jvm.LawKit.callS X32 hx (y := (⟨"com/example/rigorous_sourcing/rigoroussourcing/domain/RecordReferenceIsEmptyPinLaw", "blank", "(ICC)Z"⟩ : MethodName)) hown (mvT hZ (ow hw 26 rfl)) (mvT hZ (ow hw 27 rfl)) (mvT hZ (ow hw 2 rfl)) (mvT hZ (ow hw 28 rfl)) (by decide) (backOf (W := 0) (rm_bkA l Z a0 hw [] w_instance w_A c_A zc nB cC cD h31 n0 O31 hS hn_nB) hZ (ow hw 28 rfl) (ow hw 2 rfl) (by decide) (by decide)) (g := (mkF mG 84 #[oi i0, oi i1, oi i2, oi i3, oi i4, oi i5, oi nA, oi nB, oi cA, oi cB, oi cC, oi cD, oa b0_30, oa b0_31, .unset, .unset] [(.int cD), (.int cC), (.int nB)])) rfl (by rw [hml]; rfl) (argsL := [(.int nB), (.int cC), (.int cD)]) (rest := []) (lenOf pd_18 rfl) rfl (by show 2 * 0 + _ ≤ _; exact Nat.le_of_eq rfl) (hb yb at_84) (fun _ _ => ⟨rfl, e32, (by decide : 12 + 0 ≤ _), (by decide : 80 + 0 ≤ _)⟩)
        dsimp only [Pt.U, Pt.locs, Pt.cells, Pt.slots] at X41 l41 y41 z41 st41 hQ41
        subst l41 y41 z41
        obtain ⟨rfl, N41q, e41⟩ := hQ41
        have N41 := Fr.app N32 N41q
        refine ob T41 (mkF mG 87 #[oi i0, oi i1, oi i2, oi i3, oi i4, oi i5, oi nA, oi nB, oi cA, oi cB, oi cC, oi cD, oa b0_30, oa b0_31, .unset, .unset] [(.int (oB (oBl nB cC cD)))]) (fun _ kk => st41 _ kk) ?_
        cases hb42 : oBl nB cC cD with
        | false =>
          show oGo pG eG bG _ T41 (mkF mG 87 #[oi i0, oi i1, oi i2, oi i3, oi i4, oi i5, oi nA, oi nB, oi cA, oi cB, oi cC, oi cD, oa b0_30, oa b0_31, .unset, .unset] [(.int (0 : Int32))])
          have F31_0_f := hb42 ▸ F31_0
          refine ob T41 (mkF mG 94 #[oi i0, oi i1, oi i2, oi i3, oi i4, oi i5, oi nA, oi nB, oi cA, oi cB, oi cC, oi cD, oa b0_30, oa b0_31, .unset, .unset] []) (fun _ kk => XS.ifYes X41.here hx rfl (pc0 := 87) (pc' := 94) rfl (hb yb at_87) rfl ((if0 _ _).trans (teq (by decide : (0 : Int32) = (0 : Int32))).1) (by decide) (by decide) kk) ?_
          refine ob T41 (mkF mG 95 #[oi i0, oi i1, oi i2, oi i3, oi i4, oi i5, oi nA, oi nB, oi cA, oi cB, oi cC, oi cD, oa b0_30, oa b0_31, .unset, .unset] [(.int (0 : Int32))]) (fun _ kk => XS.iconst X41.here hx rfl (hb yb at_94) kk) ?_
          refine ob T41 (mkF mG 97 #[oi i0, oi i1, oi i2, oi i3, oi i4, oi i5, oi nA, oi nB, oi cA, oi cB, oi cC, oi cD, oa b0_30, oa b0_31, oi (0 : Int32), .unset] []) (fun _ kk => XS.istore X41.here hx rfl (hb yb at_95) rfl (l' := #[oi i0, oi i1, oi i2, oi i3, oi i4, oi i5, oi nA, oi nB, oi cA, oi cB, oi cC, oi cD, oa b0_30, oa b0_31, oi (0 : Int32), .unset]) rfl kk) ?_
          obtain ⟨T43, h43, X43, e43, E43, A43, D43, _x43, st43⟩ := newO X41 hx hZ hown (ow hw 29 rfl) (ow hw 30 rfl) (ow hw 31 rfl) e41 (g := (mkF mG 97 #[oi i0, oi i1, oi i2, oi i3, oi i4, oi i5, oi nA, oi nB, oi cA, oi cB, oi cC, oi cD, oa b0_30, oa b0_31, oi (0 : Int32), .unset] [])) rfl (hb yb at_97) (by decide) (by decide)
          obtain ⟨b43, g43⟩ : ∃ z, z = h31.size := ⟨_, rfl⟩
          rw [← g43] at A43 D43 st43
          have n_b43 : n0 ≤ b43 := Nat.le_trans (on0 O31) (Nat.le_of_eq g43.symm)
          have sz_b43 : h0.size ≤ b43 := Nat.le_trans K31.1 (Nat.le_of_eq g43.symm)
          have ne_b0_30_b43 : b0_30 ≠ b43 := Nat.ne_of_lt (Nat.lt_of_lt_of_le (F30_0_t.keep0 K31q).lt (Nat.le_of_eq g43.symm))
          have ne_b0_31_b43 : b0_31 ≠ b43 := Nat.ne_of_lt (Nat.lt_of_lt_of_le F31_0_f.lt (Nat.le_of_eq g43.symm))
          have CS43 : CHr Z oEL T31.vm h31 T31.vm h43 := CHr.ext E43 CR31.1
          have CR43 := CR31.trans CS43
          have O43 := O31.ext E43
          have K43 := K31.ext E43
          have sf_b43 : Safe Z oEL T31.vm h43 b43 := Safe.ext E43 CR31.1 (Safe.new (Nat.le_of_eq g43.symm))
          have F43_37 : Fld Z h43 b43 "com/example/rigorous_sourcing/rigoroussourcing/domain/RecordReference" "mId" "Ljava/lang/String;" .null := D43 (Or.inr (ow hw 37 rfl)) (ty := (.object "java/lang/String")) (by decide)
          have F43_69 : Fld Z h43 b43 "com/example/rigorous_sourcing/rigoroussourcing/domain/RecordReference" "mCode" "Ljava/lang/String;" .null := D43 (Or.inr (ow hw 69 rfl)) (ty := (.object "java/lang/String")) (by decide)
          refine ob T43 (mkF mG 100 #[oi i0, oi i1, oi i2, oi i3, oi i4, oi i5, oi nA, oi nB, oi cA, oi cB, oi cC, oi cD, oa b0_30, oa b0_31, oi (0 : Int32), .unset] [(.ref b43)]) (fun _ kk => st43 _ kk) ?_
          refine ob T43 (mkF mG 101 #[oi i0, oi i1, oi i2, oi i3, oi i4, oi i5, oi nA, oi nB, oi cA, oi cB, oi cC, oi cD, oa b0_30, oa b0_31, oi (0 : Int32), .unset] [(.ref b43), (.ref b43)]) (fun _ kk => XS.dup X43.here hx rfl (hb yb at_100) rfl rfl kk) ?_
          refine ob T43 (mkF mG 103 #[oi i0, oi i1, oi i2, oi i3, oi i4, oi i5, oi nA, oi nB, oi cA, oi cB, oi cC, oi cD, oa b0_30, oa b0_31, oi (0 : Int32), .unset] [(.ref b0_30), (.ref b43), (.ref b43)]) (fun _ kk => XS.aload X43.here hx rfl (hb yb at_101) rfl rfl kk) ?_
          refine ob T43 (mkF mG 105 #[oi i0, oi i1, oi i2, oi i3, oi i4, oi i5, oi nA, oi nB, oi cA, oi cB, oi cC, oi cD, oa b0_30, oa b0_31, oi (0 : Int32), .unset] [(.ref b0_31), (.ref b0_30), (.ref b43), (.ref b43)]) (fun _ kk => XS.aload X43.here hx rfl (hb yb at_103) rfl rfl kk) ?_
          obtain ⟨_, _, ⟨T44, L44, k44, n44⟩, -, X44, ⟨Lc44, hQ44, l44, y44, z44⟩, st44⟩ := X43.specialBack hx (y := (⟨"com/example/rigorous_sourcing/rigoroussourcing/domain/RecordReference", "<init>", "(Ljava/lang/String;Ljava/lang/String;)V"⟩ : MethodName)) rfl hown (mvT hZ (ow hw 32 rfl)) (mvT hZ (ow hw 33 rfl)) (mvT hZ (ow hw 34 rfl)) (by decide) (backOf (W := 1) (rm_rrTF l Z a0 hw [] w_instance w_A c_A zc b43 .null .null b0_30 b0_31 h43 n0 O43 hS A43 F43_37 F43_69 ((F30_0_t.1.keep K31q).ext E43) ((F30_0_t.keep0 K31q).ext E43) (F31_0_f.1.ext E43) (F31_0_f.ext E43) n_b43) hZ (ow hw 34 rfl) (ow hw 31 rfl) (by decide) (by decide)) (g := (mkF mG 105 #[oi i0, oi i1, oi i2, oi i3, oi i4, oi i5, oi nA, oi nB, oi cA, oi cB, oi cC, oi cD, oa b0_30, oa b0_31, oi (0 : Int32), .unset] [(.ref b0_31), (.ref b0_30), (.ref b43), (.ref b43)])) rfl (by rw [hml]; rfl) (Steps.refl _) (a := b43) (argsL := [(.ref b0_30), (.ref b0_31)]) (rest := [(.ref b43)]) (lenOf pd_19 rfl) rfl (by show 2 * 0 + _ ≤ _; exact Nat.le_of_eq rfl) (hb yb at_105) (fun _ _ => ⟨rfl, e43, (by decide : 13 + 2 ≤ _), (by decide : 82 + 5 ≤ _)⟩)
          dsimp only [Pt.U, Pt.locs, Pt.cells, Pt.slots] at X44 l44 y44 z44 st44 hQ44
          subst l44 y44 z44
          obtain ⟨h44, e44⟩ : ∃ h, T44.heap = h := ⟨_, rfl⟩
          rw [e44] at hQ44
          obtain ⟨r1_44, rfl, N44q, K44q, O44, F44_0, F44_1⟩ := hQ44
          have N44 := Fr.app N41 N44q
          have K44 := K43.trans K44q (allS (Or.inr sz_b43) all0)
          have CS44 : CHr Z oEL T31.vm h43 T31.vm h44 := CHr.keep K44q (sfS (Safe.exa hZ.alike A43 (by decide) (by decide)) sf0) CR43.1
          have CR44 := CR43.trans CS44
          refine ob T44 (mkF mG 108 #[oi i0, oi i1, oi i2, oi i3, oi i4, oi i5, oi nA, oi nB, oi cA, oi cB, oi cC, oi cD, oa b0_30, oa b0_31, oi (0 : Int32), .unset] [(.ref b43)]) (fun _ kk => st44.trans kk) ?_
          refine ob T44 (mkF mG 110 #[oi i0, oi i1, oi i2, oi i3, oi i4, oi i5, oi nA, oi nB, oi cA, oi cB, oi cC, oi cD, oa b0_30, oa b0_31, oi (0 : Int32), oa b43] []) (fun _ kk => XS.astore X44.here hx rfl (hb yb at_108) rfl rfl (l' := #[oi i0, oi i1, oi i2, oi i3, oi i4, oi i5, oi nA, oi nB, oi cA, oi cB, oi cC, oi cD, oa b0_30, oa b0_31, oi (0 : Int32), oa b43]) rfl kk) ?_
          refine ob T44 (mkF mG 112 #[oi i0, oi i1, oi i2, oi i3, oi i4, oi i5, oi nA, oi nB, oi cA, oi cB, oi cC, oi cD, oa b0_30, oa b0_31, oi (0 : Int32), oa b43] [(.ref b43)]) (fun _ kk => XS.aload X44.here hx rfl (hb yb at_110) rfl rfl kk) ?_
          obtain ⟨cq45, kq45, q45a, q45b, q45c⟩ := isOf hZ e44 (A43.keep K44q)
          obtain ⟨_, _, ⟨T45, L45, k45, n45⟩, -, X45, ⟨Lc45, hQ45, l45, y45, z45⟩, st45⟩ := X44.virtualBack hx (y := (⟨"com/example/rigorous_sourcing/rigoroussourcing/domain/RecordReference", "isEmpty", "()Z"⟩ : MethodName)) (z := (⟨"com/example/rigorous_sourcing/rigoroussourcing/domain/RecordReference", "isEmpty", "()Z"⟩ : MethodName)) hown (mvT hZ (ow hw 70 rfl)) (mvT hZ (ow hw 71 rfl)) (notFace_of_selects (args := #[]) (mvT hZ (ow hw 73 rfl))) (mvT hZ (ow hw 73 rfl)) (mvT hZ (ow hw 72 rfl)) (by decide) (backOf (W := 0) (rm_ie01 l Z a0 hw [] w_instance w_A c_A zc b43 r1_44 h44 n0 O44 hS F44_0 F44_1) hZ (ow hw 74 rfl) (ow hw 31 rfl) (by decide) (by decide)) q45a q45c (g := (mkF mG 112 #[oi i0, oi i1, oi i2, oi i3, oi i4, oi i5, oi nA, oi nB, oi cA, oi cB, oi cC, oi cD, oa b0_30, oa b0_31, oi (0 : Int32), oa b43] [(.ref b43)])) rfl (by rw [hml]; rfl) (Steps.refl _) (argsL := []) (rest := []) (lenOf pd_2 rfl) rfl (by show 2 * 0 + _ ≤ _; exact Nat.le_of_eq rfl) (hb yb at_112) (fun _ _ => ⟨rfl, e44, (by decide : 15 + 0 ≤ _), (by decide : 87 + 0 ≤ _)⟩)
          dsimp only [Pt.U, Pt.locs, Pt.cells, Pt.slots] at X45 l45 y45 z45 st45 hQ45
          subst l45 y45 z45
          obtain ⟨rfl, N45q, e45⟩ := hQ45
          have N45 := Fr.app N44 N45q
          refine ob T45 (mkF mG 115 #[oi i0, oi i1, oi i2, oi i3, oi i4, oi i5, oi nA, oi nB, oi cA, oi cB, oi cC, oi cD, oa b0_30, oa b0_31, oi (0 : Int32), oa b43] [(.int (0 : Int32))]) (fun _ kk => st45.trans kk) ?_
          refine ob T45 (mkF mG 117 #[oi i0, oi i1, oi i2, oi i3, oi i4, oi i5, oi nA, oi nB, oi cA, oi cB, oi cC, oi cD, oa b0_30, oa b0_31, oi (0 : Int32), oa b43] [(.int (0 : Int32)), (.int (0 : Int32))]) (fun _ kk => XS.iload X45.here hx rfl (hb yb at_115) rfl kk) ?_
          refine ob T45 (mkF mG 120 #[oi i0, oi i1, oi i2, oi i3, oi i4, oi i5, oi nA, oi nB, oi cA, oi cB, oi cC, oi cD, oa b0_30, oa b0_31, oi (0 : Int32), oa b43] []) (fun _ kk => XS.icmpNo X45.here hx rfl (hb yb at_117) rfl (teq (by decide : (0 : Int32) = (0 : Int32))).2 kk) ?_
          refine ob T45 (mkF mG 121 #[oi i0, oi i1, oi i2, oi i3, oi i4, oi i5, oi nA, oi nB, oi cA, oi cB, oi cC, oi cD, oa b0_30, oa b0_31, oi (0 : Int32), oa b43] [(.int (1 : Int32))]) (fun _ kk => XS.iconst X45.here hx rfl (hb yb at_120) kk) ?_
          refine ob T45 (mkF mG 125 #[oi i0, oi i1, oi i2, oi i3, oi i4, oi i5, oi nA, oi nB, oi cA, oi cB, oi cC, oi cD, oa b0_30, oa b0_31, oi (0 : Int32), oa b43] [(.int (1 : Int32))]) (fun _ kk => XS.goto X45.here hx rfl (pc0 := 121) (pc' := 125) rfl (hb yb at_121) (by decide) (by decide) kk) ?_
          obtain ⟨fs, hr, hrun, hended, hW, hsame⟩ := X45.leave (v := some (.int (1 : Int32))) (fun h => by rw [Bd.returns] at h; cases h)
          obtain ⟨w1, w2, w3⟩ := State.Since.ended (U := T45.setFrames fs) hS31 hW (by show _ ≤ T45.heap.size; rw [e45]; exact (Nat.le_trans (Nat.le_trans hk31 CS43.2.1) CS44.2.1)) hsame
          have CF := CR44.trans (CHv.at X45 hZ hEL CR44.1)
          refine oout (retN X45 hx (t := .boolean) Bd.returns (by simp) (hb yb at_125) hr) hrun hended ⟨_, _, rfl, ?_, ?_, ⟨_, rfl⟩, w1, w2, w3.mono (by decide) (by decide)⟩
          · show Q_rm0 Z w_instance w_A c_A zc i0 i1 i2 i3 i4 i5 h0 n0 _ T45.heap _
            rw [e45]
            exact ⟨rfl, N45⟩
          · show CHr Z oEL sG.vm sG.heap T45.vm T45.heap
            rw [hh, e45]
            exact CF
        | true =>
          show oGo pG eG bG _ T41 (mkF mG 87 #[oi i0, oi i1, oi i2, oi i3, oi i4, oi i5, oi nA, oi nB, oi cA, oi cB, oi cC, oi cD, oa b0_30, oa b0_31, .unset, .unset] [(.int (1 : Int32))])
          have F31_0_t := hb42 ▸ F31_0
          refine ob T41 (mkF mG 90 #[oi i0, oi i1, oi i2, oi i3, oi i4, oi i5, oi nA, oi nB, oi cA, oi cB, oi cC, oi cD, oa b0_30, oa b0_31, .unset, .unset] []) (fun _ kk => XS.ifNo X41.here hx rfl (hb yb at_87) rfl ((if0 _ _).trans (feq (by decide : ¬ ((1 : Int32) = (0 : Int32)))).1) kk) ?_
          refine ob T41 (mkF mG 91 #[oi i0, oi i1, oi i2, oi i3, oi i4, oi i5, oi nA, oi nB, oi cA, oi cB, oi cC, oi cD, oa b0_30, oa b0_31, .unset, .unset] [(.int (1 : Int32))]) (fun _ kk => XS.iconst X41.here hx rfl (hb yb at_90) kk) ?_
          refine ob T41 (mkF mG 95 #[oi i0, oi i1, oi i2, oi i3, oi i4, oi i5, oi nA, oi nB, oi cA, oi cB, oi cC, oi cD, oa b0_30, oa b0_31, .unset, .unset] [(.int (1 : Int32))]) (fun _ kk => XS.goto X41.here hx rfl (pc0 := 91) (pc' := 95) rfl (hb yb at_91) (by decide) (by decide) kk) ?_
          refine ob T41 (mkF mG 97 #[oi i0, oi i1, oi i2, oi i3, oi i4, oi i5, oi nA, oi nB, oi cA, oi cB, oi cC, oi cD, oa b0_30, oa b0_31, oi (1 : Int32), .unset] []) (fun _ kk => XS.istore X41.here hx rfl (hb yb at_95) rfl (l' := #[oi i0, oi i1, oi i2, oi i3, oi i4, oi i5, oi nA, oi nB, oi cA, oi cB, oi cC, oi cD, oa b0_30, oa b0_31, oi (1 : Int32), .unset]) rfl kk) ?_
          obtain ⟨T46, h46, X46, e46, E46, A46, D46, _x46, st46⟩ := newO X41 hx hZ hown (ow hw 29 rfl) (ow hw 30 rfl) (ow hw 31 rfl) e41 (g := (mkF mG 97 #[oi i0, oi i1, oi i2, oi i3, oi i4, oi i5, oi nA, oi nB, oi cA, oi cB, oi cC, oi cD, oa b0_30, oa b0_31, oi (1 : Int32), .unset] [])) rfl (hb yb at_97) (by decide) (by decide)
          obtain ⟨b46, g46⟩ : ∃ z, z = h31.size := ⟨_, rfl⟩
          rw [← g46] at A46 D46 st46
          have n_b46 : n0 ≤ b46 := Nat.le_trans (on0 O31) (Nat.le_of_eq g46.symm)
          have sz_b46 : h0.size ≤ b46 := Nat.le_trans K31.1 (Nat.le_of_eq g46.symm)
          have ne_b0_30_b46 : b0_30 ≠ b46 := Nat.ne_of_lt (Nat.lt_of_lt_of_le (F30_0_t.keep0 K31q).lt (Nat.le_of_eq g46.symm))
          have ne_b0_31_b46 : b0_31 ≠ b46 := Nat.ne_of_lt (Nat.lt_of_lt_of_le F31_0_t.lt (Nat.le_of_eq g46.symm))
          have CS46 : CHr Z oEL T31.vm h31 T31.vm h46 := CHr.ext E46 CR31.1
          have CR46 := CR31.trans CS46
          have O46 := O31.ext E46
          have K46 := K31.ext E46
          have sf_b46 : Safe Z oEL T31.vm h46 b46 := Safe.ext E46 CR31.1 (Safe.new (Nat.le_of_eq g46.symm))
          have F46_37 : Fld Z h46 b46 "com/example/rigorous_sourcing/rigoroussourcing/domain/RecordReference" "mId" "Ljava/lang/String;" .null := D46 (Or.inr (ow hw 37 rfl)) (ty := (.object "java/lang/String")) (by decide)
          have F46_69 : Fld Z h46 b46 "com/example/rigorous_sourcing/rigoroussourcing/domain/RecordReference" "mCode" "Ljava/lang/String;" .null := D46 (Or.inr (ow hw 69 rfl)) (ty := (.object "java/lang/String")) (by decide)
          refine ob T46 (mkF mG 100 #[oi i0, oi i1, oi i2, oi i3, oi i4, oi i5, oi nA, oi nB, oi cA, oi cB, oi cC, oi cD, oa b0_30, oa b0_31, oi (1 : Int32), .unset] [(.ref b46)]) (fun _ kk => st46 _ kk) ?_
          refine ob T46 (mkF mG 101 #[oi i0, oi i1, oi i2, oi i3, oi i4, oi i5, oi nA, oi nB, oi cA, oi cB, oi cC, oi cD, oa b0_30, oa b0_31, oi (1 : Int32), .unset] [(.ref b46), (.ref b46)]) (fun _ kk => XS.dup X46.here hx rfl (hb yb at_100) rfl rfl kk) ?_
          refine ob T46 (mkF mG 103 #[oi i0, oi i1, oi i2, oi i3, oi i4, oi i5, oi nA, oi nB, oi cA, oi cB, oi cC, oi cD, oa b0_30, oa b0_31, oi (1 : Int32), .unset] [(.ref b0_30), (.ref b46), (.ref b46)]) (fun _ kk => XS.aload X46.here hx rfl (hb yb at_101) rfl rfl kk) ?_
          refine ob T46 (mkF mG 105 #[oi i0, oi i1, oi i2, oi i3, oi i4, oi i5, oi nA, oi nB, oi cA, oi cB, oi cC, oi cD, oa b0_30, oa b0_31, oi (1 : Int32), .unset] [(.ref b0_31), (.ref b0_30), (.ref b46), (.ref b46)]) (fun _ kk => XS.aload X46.here hx rfl (hb yb at_103) rfl rfl kk) ?_
          obtain ⟨_, _, ⟨T47, L47, k47, n47⟩, -, X47, ⟨Lc47, hQ47, l47, y47, z47⟩, st47⟩ := X46.specialBack hx (y := (⟨"com/example/rigorous_sourcing/rigoroussourcing/domain/RecordReference", "<init>", "(Ljava/lang/String;Ljava/lang/String;)V"⟩ : MethodName)) rfl hown (mvT hZ (ow hw 32 rfl)) (mvT hZ (ow hw 33 rfl)) (mvT hZ (ow hw 34 rfl)) (by decide) (backOf (W := 1) (rm_rrTT l Z a0 hw [] w_instance w_A c_A zc b46 .null .null b0_30 b0_31 h46 n0 O46 hS A46 F46_37 F46_69 ((F30_0_t.1.keep K31q).ext E46) ((F30_0_t.keep0 K31q).ext E46) (F31_0_t.1.ext E46) (F31_0_t.ext E46) n_b46) hZ (ow hw 34 rfl) (ow hw 31 rfl) (by decide) (by decide)) (g := (mkF mG 105 #[oi i0, oi i1, oi i2, oi i3, oi i4, oi i5, oi nA, oi nB, oi cA, oi cB, oi cC, oi cD, oa b0_30, oa b0_31, oi (1 : Int32), .unset] [(.ref b0_31), (.ref b0_30), (.ref b46), (.ref b46)])) rfl (by rw [hml]; rfl) (Steps.refl _) (a := b46) (argsL := [(.ref b0_30), (.ref b0_31)]) (rest := [(.ref b46)]) (lenOf pd_19 rfl) rfl (by show 2 * 0 + _ ≤ _; exact Nat.le_of_eq rfl) (hb yb at_105) (fun _ _ => ⟨rfl, e46, (by decide : 13 + 0 ≤ _), (by decide : 82 + 0 ≤ _)⟩)
          dsimp only [Pt.U, Pt.locs, Pt.cells, Pt.slots] at X47 l47 y47 z47 st47 hQ47
          subst l47 y47 z47
          obtain ⟨h47, e47⟩ : ∃ h, T47.heap = h := ⟨_, rfl⟩
          rw [e47] at hQ47
          obtain ⟨rfl, N47q, K47q, O47, F47_0, F47_1⟩ := hQ47
          have N47 := Fr.app N41 N47q
          have K47 := K46.trans K47q (allS (Or.inr sz_b46) all0)
          have CS47 : CHr Z oEL T31.vm h46 T31.vm h47 := CHr.keep K47q (sfS (Safe.exa hZ.alike A46 (by decide) (by decide)) sf0) CR46.1
          have CR47 := CR46.trans CS47
          refine ob T47 (mkF mG 108 #[oi i0, oi i1, oi i2, oi i3, oi i4, oi i5, oi nA, oi nB, oi cA, oi cB, oi cC, oi cD, oa b0_30, oa b0_31, oi (1 : Int32), .unset] [(.ref b46)]) (fun _ kk => st47.trans kk) ?_
          refine ob T47 (mkF mG 110 #[oi i0, oi i1, oi i2, oi i3, oi i4, oi i5, oi nA, oi nB, oi cA, oi cB, oi cC, oi cD, oa b0_30, oa b0_31, oi (1 : Int32), oa b46] []) (fun _ kk => XS.astore X47.here hx rfl (hb yb at_108) rfl rfl (l' := #[oi i0, oi i1, oi i2, oi i3, oi i4, oi i5, oi nA, oi nB, oi cA, oi cB, oi cC, oi cD, oa b0_30, oa b0_31, oi (1 : Int32), oa b46]) rfl kk) ?_
          refine ob T47 (mkF mG 112 #[oi i0, oi i1, oi i2, oi i3, oi i4, oi i5, oi nA, oi nB, oi cA, oi cB, oi cC, oi cD, oa b0_30, oa b0_31, oi (1 : Int32), oa b46] [(.ref b46)]) (fun _ kk => XS.aload X47.here hx rfl (hb yb at_110) rfl rfl kk) ?_
          obtain ⟨cq48, kq48, q48a, q48b, q48c⟩ := isOf hZ e47 (A46.keep K47q)
          obtain ⟨_, _, ⟨T48, L48, k48, n48⟩, -, X48, ⟨Lc48, hQ48, l48, y48, z48⟩, st48⟩ := X47.virtualBack hx (y := (⟨"com/example/rigorous_sourcing/rigoroussourcing/domain/RecordReference", "isEmpty", "()Z"⟩ : MethodName)) (z := (⟨"com/example/rigorous_sourcing/rigoroussourcing/domain/RecordReference", "isEmpty", "()Z"⟩ : MethodName)) hown (mvT hZ (ow hw 70 rfl)) (mvT hZ (ow hw 71 rfl)) (notFace_of_selects (args := #[]) (mvT hZ (ow hw 73 rfl))) (mvT hZ (ow hw 73 rfl)) (mvT hZ (ow hw 72 rfl)) (by decide) (backOf (W := 0) (rm_ie00 l Z a0 hw [] w_instance w_A c_A zc b46 h47 n0 O47 hS F47_0 F47_1) hZ (ow hw 74 rfl) (ow hw 31 rfl) (by decide) (by decide)) q48a q48c (g := (mkF mG 112 #[oi i0, oi i1, oi i2, oi i3, oi i4, oi i5, oi nA, oi nB, oi cA, oi cB, oi cC, oi cD, oa b0_30, oa b0_31, oi (1 : Int32), oa b46] [(.ref b46)])) rfl (by rw [hml]; rfl) (Steps.refl _) (argsL := []) (rest := []) (lenOf pd_2 rfl) rfl (by show 2 * 0 + _ ≤ _; exact Nat.le_of_eq rfl) (hb yb at_112) (fun _ _ => ⟨rfl, e47, (by decide : 13 + 0 ≤ _), (by decide : 82 + 0 ≤ _)⟩)
          dsimp only [Pt.U, Pt.locs, Pt.cells, Pt.slots] at X48 l48 y48 z48 st48 hQ48
          subst l48 y48 z48
          obtain ⟨rfl, N48q, e48⟩ := hQ48
          have N48 := Fr.app N47 N48q
          refine ob T48 (mkF mG 115 #[oi i0, oi i1, oi i2, oi i3, oi i4, oi i5, oi nA, oi nB, oi cA, oi cB, oi cC, oi cD, oa b0_30, oa b0_31, oi (1 : Int32), oa b46] [(.int (1 : Int32))]) (fun _ kk => st48.trans kk) ?_
          refine ob T48 (mkF mG 117 #[oi i0, oi i1, oi i2, oi i3, oi i4, oi i5, oi nA, oi nB, oi cA, oi cB, oi cC, oi cD, oa b0_30, oa b0_31, oi (1 : Int32), oa b46] [(.int (1 : Int32)), (.int (1 : Int32))]) (fun _ kk => XS.iload X48.here hx rfl (hb yb at_115) rfl kk) ?_
          refine ob T48 (mkF mG 120 #[oi i0, oi i1, oi i2, oi i3, oi i4, oi i5, oi nA, oi nB, oi cA, oi cB, oi cC, oi cD, oa b0_30, oa b0_31, oi (1 : Int32), oa b46] []) (fun _ kk => XS.icmpNo X48.here hx rfl (hb yb at_117) rfl (teq (by decide : (1 : Int32) = (1 : Int32))).2 kk) ?_
          refine ob T48 (mkF mG 121 #[oi i0, oi i1, oi i2, oi i3, oi i4, oi i5, oi nA, oi nB, oi cA, oi cB, oi cC, oi cD, oa b0_30, oa b0_31, oi (1 : Int32), oa b46] [(.int (1 : Int32))]) (fun _ kk => XS.iconst X48.here hx rfl (hb yb at_120) kk) ?_
          refine ob T48 (mkF mG 125 #[oi i0, oi i1, oi i2, oi i3, oi i4, oi i5, oi nA, oi nB, oi cA, oi cB, oi cC, oi cD, oa b0_30, oa b0_31, oi (1 : Int32), oa b46] [(.int (1 : Int32))]) (fun _ kk => XS.goto X48.here hx rfl (pc0 := 121) (pc' := 125) rfl (hb yb at_121) (by decide) (by decide) kk) ?_
          obtain ⟨fs, hr, hrun, hended, hW, hsame⟩ := X48.leave (v := some (.int (1 : Int32))) (fun h => by rw [Bd.returns] at h; cases h)
          obtain ⟨w1, w2, w3⟩ := State.Since.ended (U := T48.setFrames fs) hS31 hW (by show _ ≤ T48.heap.size; rw [e48]; exact (Nat.le_trans (Nat.le_trans hk31 CS46.2.1) CS47.2.1)) hsame
          have CF := CR47.trans (CHv.at X48 hZ hEL CR47.1)
          refine oout (retN X48 hx (t := .boolean) Bd.returns (by simp) (hb yb at_125) hr) hrun hended ⟨_, _, rfl, ?_, ?_, ⟨_, rfl⟩, w1, w2, w3.mono (by decide) (by decide)⟩
          · show Q_rm0 Z w_instance w_A c_A zc i0 i1 i2 i3 i4 i5 h0 n0 _ T48.heap _
            rw [e48]
            exact ⟨rfl, N48⟩
          · show CHr Z oEL sG.vm sG.heap T48.vm T48.heap
            rw [hh, e48]
            exact CF

set_option maxRecDepth 65536 in
set_option maxHeartbeats 40000000 in
theorem comes_1 {Post : Tables → Env → Array Value → State → Outcome → State → Prop} (hpost : ∀ tb e args s v u, (limb_1_1.after args s (.returned v) u = true ∧ limb_1_2.after args s (.returned v) u = true ∧ True) → ReturnedEndW s (.returned v) u (Jvm.fieldLocs frame_1_writes args s ++ Jvm.arrayLocs frame_1_arrays args s ++ Jvm.staticLocs frame_1_statics s) 32 1152 → Post tb e args s (.returned v) u) :
    ArmFor flags0 classFile x code maxLocals ret World_1 tables_1 room_1 Calls_1 rest_1 Pre_1 Post := by
  intro l hfl _ _ p e ha hc hk s m args below hf hA hF happ hP
  obtain ⟨hcalls, hrest, hpre⟩ := hP
  obtain ⟨-, -, -, hnamed, -, -, -, hat⟩ := (Spec.applies_iff hf).mp happ
  obtain ⟨hg, hn⟩ := and_e (Cond.before_iff.mp (show (Jvm.Cond.and given_1 narrow_1).before args s = true from hpre))
  obtain ⟨gg1, gg2⟩ := and_e hg
  obtain ⟨gg3, gg4⟩ := and_e gg2
  obtain ⟨gg5, gg6⟩ := and_e gg4
  obtain ⟨gg7, gg8⟩ := and_e gg6
  obtain ⟨gg9, gg10⟩ := and_e gg8
  obtain ⟨gg11, gg12⟩ := and_e gg10
  obtain ⟨w0, w1, w2, w3, w4, w5, rfl⟩ : ∃ w0 w1 w2 w3 w4 w5 : Value, args = #[w0, w1, w2, w3, w4, w5] := by
    have hs : args.size = 6 := by simpa [Cond.value, given_1] using gg1
    obtain ⟨L⟩ := args
    match L, hs with
    | [w0, w1, w2, w3, w4, w5], _ => exact ⟨w0, w1, w2, w3, w4, w5, rfl⟩
  have hw := fun d (hd : d ∈ tables_1) => atoms_spec (ws := Jvm.Cond.code x code maxLocals ret :: tables_1) hat d (List.mem_cons_of_mem _ hd)
  have hfit : Fit s := fun {y c} hc i hi => by
    obtain ⟨ha, rfl⟩ := Array.getElem?_eq_some_iff.mp hc
    have q := List.all_eq_true.mp ((Array.all_eq_true_iff_forall_mem.mp hF) _ (Array.getElem_mem ha)) i (List.mem_range.mpr hi)
    simpa [Array.getElem?_eq_getElem hi] using q
  obtain ⟨hsets, hown0⟩ := atoms_of _ (rest_1_c_eq ▸ (show rest_1_c.before _ s = true from hrest))
  have hr0 := Cond.before_iff.mp hown0
  obtain ⟨i0, ei0⟩ := is_v gg3
  obtain rfl : w0 = (.int i0) := Option.some.inj ei0
  obtain ⟨i1, ei1⟩ := is_v gg5
  obtain rfl : w1 = (.int i1) := Option.some.inj ei1
  obtain ⟨i2, ei2⟩ := is_v gg7
  obtain rfl : w2 = (.int i2) := Option.some.inj ei2
  obtain ⟨i3, ei3⟩ := is_v gg9
  obtain rfl : w3 = (.int i3) := Option.some.inj ei3
  obtain ⟨i4, ei4⟩ := is_v gg11
  obtain rfl : w4 = (.int i4) := Option.some.inj ei4
  obtain ⟨i5, ei5⟩ := is_v gg12
  obtain rfl : w5 = (.int i5) := Option.some.inj ei5
  obtain ⟨w_instance, ev_w_instance, S_w_instance, E_w_instance⟩ := own_sta (Cond.before_iff.mp (ow hsets 11 rfl)) (Or.inl (ow hsets 10 rfl))
  obtain ⟨w_A, ev_w_A⟩ := arr_v (Cond.before_iff.mp (ow hsets 14 rfl))
  have S_w_A := Sta.start ev_w_A (Or.inl (ow hsets 13 rfl))
  obtain ⟨c_A, A_w_A⟩ := Arr.start ev_w_A (Cond.before_iff.mp (ow hsets 14 rfl))
  have E_w_A := Exa.start ev_w_A (Cond.before_iff.mp (ow hsets 15 rfl))
  obtain ⟨l_w_A, q_w_A⟩ := own_len (A_w_A.fin (Vm.Alike.refl _)) ev_w_A (Cond.before_iff.mp (ow hsets 16 rfl))
  have el_0 := (elem_in (eqv_i (Term.int_eval (1207963663 : Int32)) (Cond.before_iff.mp (ow hsets 17 rfl))) ev_w_A (Term.int_eval (0 : Int32)) A_w_A.1).2
  have el_1 := (elem_in (eqv_i (Term.int_eval (1207963663 : Int32)) (Cond.before_iff.mp (ow hsets 18 rfl))) ev_w_A (Term.int_eval (1 : Int32)) A_w_A.1).2
  have el_2 := (elem_in (eqv_i (Term.int_eval (1207963663 : Int32)) (Cond.before_iff.mp (ow hsets 19 rfl))) ev_w_A (Term.int_eval (2 : Int32)) A_w_A.1).2
  have el_3 := (elem_in (eqv_i (Term.int_eval (1207963663 : Int32)) (Cond.before_iff.mp (ow hsets 20 rfl))) ev_w_A (Term.int_eval (3 : Int32)) A_w_A.1).2
  have el_4 := (elem_in (eqv_i (Term.int_eval (1207963663 : Int32)) (Cond.before_iff.mp (ow hsets 21 rfl))) ev_w_A (Term.int_eval (4 : Int32)) A_w_A.1).2
  have el_5 := (elem_in (eqv_i (Term.int_eval (1207963663 : Int32)) (Cond.before_iff.mp (ow hsets 22 rfl))) ev_w_A (Term.int_eval (5 : Int32)) A_w_A.1).2
  have el_6 := (elem_in (eqv_i (Term.int_eval (1207963663 : Int32)) (Cond.before_iff.mp (ow hsets 23 rfl))) ev_w_A (Term.int_eval (6 : Int32)) A_w_A.1).2
  have el_7 := (elem_in (eqv_i (Term.int_eval (1207963663 : Int32)) (Cond.before_iff.mp (ow hsets 24 rfl))) ev_w_A (Term.int_eval (7 : Int32)) A_w_A.1).2
  have el_8 := (elem_in (eqv_i (Term.int_eval (1207963663 : Int32)) (Cond.before_iff.mp (ow hsets 25 rfl))) ev_w_A (Term.int_eval (8 : Int32)) A_w_A.1).2
  have el_9 := (elem_in (eqv_i (Term.int_eval (1476411407 : Int32)) (Cond.before_iff.mp (ow hsets 26 rfl))) ev_w_A (Term.int_eval (9 : Int32)) A_w_A.1).2
  have el_10 := (elem_in (eqv_i (Term.int_eval (1342193679 : Int32)) (Cond.before_iff.mp (ow hsets 27 rfl))) ev_w_A (Term.int_eval (10 : Int32)) A_w_A.1).2
  have el_11 := (elem_in (eqv_i (Term.int_eval (1476411407 : Int32)) (Cond.before_iff.mp (ow hsets 28 rfl))) ev_w_A (Term.int_eval (11 : Int32)) A_w_A.1).2
  have el_12 := (elem_in (eqv_i (Term.int_eval (1610629135 : Int32)) (Cond.before_iff.mp (ow hsets 29 rfl))) ev_w_A (Term.int_eval (12 : Int32)) A_w_A.1).2
  have el_13 := (elem_in (eqv_i (Term.int_eval (1342193679 : Int32)) (Cond.before_iff.mp (ow hsets 30 rfl))) ev_w_A (Term.int_eval (13 : Int32)) A_w_A.1).2
  have el_14 := (elem_in (eqv_i (Term.int_eval (1207963663 : Int32)) (Cond.before_iff.mp (ow hsets 31 rfl))) ev_w_A (Term.int_eval (14 : Int32)) A_w_A.1).2
  have el_15 := (elem_in (eqv_i (Term.int_eval (1207963663 : Int32)) (Cond.before_iff.mp (ow hsets 32 rfl))) ev_w_A (Term.int_eval (15 : Int32)) A_w_A.1).2
  have el_16 := (elem_in (eqv_i (Term.int_eval (1207963663 : Int32)) (Cond.before_iff.mp (ow hsets 33 rfl))) ev_w_A (Term.int_eval (16 : Int32)) A_w_A.1).2
  have el_17 := (elem_in (eqv_i (Term.int_eval (1207963663 : Int32)) (Cond.before_iff.mp (ow hsets 34 rfl))) ev_w_A (Term.int_eval (17 : Int32)) A_w_A.1).2
  have el_18 := (elem_in (eqv_i (Term.int_eval (1207963663 : Int32)) (Cond.before_iff.mp (ow hsets 35 rfl))) ev_w_A (Term.int_eval (18 : Int32)) A_w_A.1).2
  have el_19 := (elem_in (eqv_i (Term.int_eval (1207963663 : Int32)) (Cond.before_iff.mp (ow hsets 36 rfl))) ev_w_A (Term.int_eval (19 : Int32)) A_w_A.1).2
  have el_20 := (elem_in (eqv_i (Term.int_eval (1207963663 : Int32)) (Cond.before_iff.mp (ow hsets 37 rfl))) ev_w_A (Term.int_eval (20 : Int32)) A_w_A.1).2
  have el_21 := (elem_in (eqv_i (Term.int_eval (1207963663 : Int32)) (Cond.before_iff.mp (ow hsets 38 rfl))) ev_w_A (Term.int_eval (21 : Int32)) A_w_A.1).2
  have el_22 := (elem_in (eqv_i (Term.int_eval (1207963663 : Int32)) (Cond.before_iff.mp (ow hsets 39 rfl))) ev_w_A (Term.int_eval (22 : Int32)) A_w_A.1).2
  have el_23 := (elem_in (eqv_i (Term.int_eval (1207963663 : Int32)) (Cond.before_iff.mp (ow hsets 40 rfl))) ev_w_A (Term.int_eval (23 : Int32)) A_w_A.1).2
  have el_24 := (elem_in (eqv_i (Term.int_eval (1207963663 : Int32)) (Cond.before_iff.mp (ow hsets 41 rfl))) ev_w_A (Term.int_eval (24 : Int32)) A_w_A.1).2
  have el_25 := (elem_in (eqv_i (Term.int_eval (1207963663 : Int32)) (Cond.before_iff.mp (ow hsets 42 rfl))) ev_w_A (Term.int_eval (25 : Int32)) A_w_A.1).2
  have el_26 := (elem_in (eqv_i (Term.int_eval (1207963663 : Int32)) (Cond.before_iff.mp (ow hsets 43 rfl))) ev_w_A (Term.int_eval (26 : Int32)) A_w_A.1).2
  have el_27 := (elem_in (eqv_i (Term.int_eval (1207963663 : Int32)) (Cond.before_iff.mp (ow hsets 44 rfl))) ev_w_A (Term.int_eval (27 : Int32)) A_w_A.1).2
  have el_28 := (elem_in (eqv_i (Term.int_eval (1342193679 : Int32)) (Cond.before_iff.mp (ow hsets 45 rfl))) ev_w_A (Term.int_eval (28 : Int32)) A_w_A.1).2
  have el_29 := (elem_in (eqv_i (Term.int_eval (1342193679 : Int32)) (Cond.before_iff.mp (ow hsets 46 rfl))) ev_w_A (Term.int_eval (29 : Int32)) A_w_A.1).2
  have el_30 := (elem_in (eqv_i (Term.int_eval (1342193679 : Int32)) (Cond.before_iff.mp (ow hsets 47 rfl))) ev_w_A (Term.int_eval (30 : Int32)) A_w_A.1).2
  have el_31 := (elem_in (eqv_i (Term.int_eval (1476411407 : Int32)) (Cond.before_iff.mp (ow hsets 48 rfl))) ev_w_A (Term.int_eval (31 : Int32)) A_w_A.1).2
  have el_32 := (elem_in (eqv_i (Term.int_eval (1610629132 : Int32)) (Cond.before_iff.mp (ow hsets 49 rfl))) ev_w_A (Term.int_eval (32 : Int32)) A_w_A.1).2
  have el_33 := (elem_in (eqv_i (Term.int_eval (1744830488 : Int32)) (Cond.before_iff.mp (ow hsets 50 rfl))) ev_w_A (Term.int_eval (33 : Int32)) A_w_A.1).2
  have el_34 := (elem_in (eqv_i (Term.int_eval (1744830488 : Int32)) (Cond.before_iff.mp (ow hsets 51 rfl))) ev_w_A (Term.int_eval (34 : Int32)) A_w_A.1).2
  have el_35 := (elem_in (eqv_i (Term.int_eval (671088664 : Int32)) (Cond.before_iff.mp (ow hsets 52 rfl))) ev_w_A (Term.int_eval (35 : Int32)) A_w_A.1).2
  have el_36 := (elem_in (eqv_i (Term.int_eval (671113242 : Int32)) (Cond.before_iff.mp (ow hsets 53 rfl))) ev_w_A (Term.int_eval (36 : Int32)) A_w_A.1).2
  have el_37 := (elem_in (eqv_i (Term.int_eval (671088664 : Int32)) (Cond.before_iff.mp (ow hsets 54 rfl))) ev_w_A (Term.int_eval (37 : Int32)) A_w_A.1).2
  have el_38 := (elem_in (eqv_i (Term.int_eval (1744830488 : Int32)) (Cond.before_iff.mp (ow hsets 55 rfl))) ev_w_A (Term.int_eval (38 : Int32)) A_w_A.1).2
  have el_39 := (elem_in (eqv_i (Term.int_eval (1744830488 : Int32)) (Cond.before_iff.mp (ow hsets 56 rfl))) ev_w_A (Term.int_eval (39 : Int32)) A_w_A.1).2
  have el_40 := (elem_in (eqv_i (Term.int_eval (-402653163 : Int32)) (Cond.before_iff.mp (ow hsets 57 rfl))) ev_w_A (Term.int_eval (40 : Int32)) A_w_A.1).2
  have el_41 := (elem_in (eqv_i (Term.int_eval (-402653162 : Int32)) (Cond.before_iff.mp (ow hsets 58 rfl))) ev_w_A (Term.int_eval (41 : Int32)) A_w_A.1).2
  have el_42 := (elem_in (eqv_i (Term.int_eval (1744830488 : Int32)) (Cond.before_iff.mp (ow hsets 59 rfl))) ev_w_A (Term.int_eval (42 : Int32)) A_w_A.1).2
  have el_43 := (elem_in (eqv_i (Term.int_eval (536870937 : Int32)) (Cond.before_iff.mp (ow hsets 60 rfl))) ev_w_A (Term.int_eval (43 : Int32)) A_w_A.1).2
  have el_44 := (elem_in (eqv_i (Term.int_eval (939524120 : Int32)) (Cond.before_iff.mp (ow hsets 61 rfl))) ev_w_A (Term.int_eval (44 : Int32)) A_w_A.1).2
  have el_45 := (elem_in (eqv_i (Term.int_eval (536870932 : Int32)) (Cond.before_iff.mp (ow hsets 62 rfl))) ev_w_A (Term.int_eval (45 : Int32)) A_w_A.1).2
  have el_46 := (elem_in (eqv_i (Term.int_eval (939524120 : Int32)) (Cond.before_iff.mp (ow hsets 63 rfl))) ev_w_A (Term.int_eval (46 : Int32)) A_w_A.1).2
  have el_47 := (elem_in (eqv_i (Term.int_eval (939524120 : Int32)) (Cond.before_iff.mp (ow hsets 64 rfl))) ev_w_A (Term.int_eval (47 : Int32)) A_w_A.1).2
  have el_48 := (elem_in (eqv_i (Term.int_eval (402667017 : Int32)) (Cond.before_iff.mp (ow hsets 65 rfl))) ev_w_A (Term.int_eval (48 : Int32)) A_w_A.1).2
  have el_49 := (elem_in (eqv_i (Term.int_eval (402667017 : Int32)) (Cond.before_iff.mp (ow hsets 66 rfl))) ev_w_A (Term.int_eval (49 : Int32)) A_w_A.1).2
  have el_50 := (elem_in (eqv_i (Term.int_eval (402667017 : Int32)) (Cond.before_iff.mp (ow hsets 67 rfl))) ev_w_A (Term.int_eval (50 : Int32)) A_w_A.1).2
  have el_51 := (elem_in (eqv_i (Term.int_eval (402667017 : Int32)) (Cond.before_iff.mp (ow hsets 68 rfl))) ev_w_A (Term.int_eval (51 : Int32)) A_w_A.1).2
  have el_52 := (elem_in (eqv_i (Term.int_eval (402667017 : Int32)) (Cond.before_iff.mp (ow hsets 69 rfl))) ev_w_A (Term.int_eval (52 : Int32)) A_w_A.1).2
  have el_53 := (elem_in (eqv_i (Term.int_eval (402667017 : Int32)) (Cond.before_iff.mp (ow hsets 70 rfl))) ev_w_A (Term.int_eval (53 : Int32)) A_w_A.1).2
  have el_54 := (elem_in (eqv_i (Term.int_eval (402667017 : Int32)) (Cond.before_iff.mp (ow hsets 71 rfl))) ev_w_A (Term.int_eval (54 : Int32)) A_w_A.1).2
  have el_55 := (elem_in (eqv_i (Term.int_eval (402667017 : Int32)) (Cond.before_iff.mp (ow hsets 72 rfl))) ev_w_A (Term.int_eval (55 : Int32)) A_w_A.1).2
  have el_56 := (elem_in (eqv_i (Term.int_eval (402667017 : Int32)) (Cond.before_iff.mp (ow hsets 73 rfl))) ev_w_A (Term.int_eval (56 : Int32)) A_w_A.1).2
  have el_57 := (elem_in (eqv_i (Term.int_eval (402667017 : Int32)) (Cond.before_iff.mp (ow hsets 74 rfl))) ev_w_A (Term.int_eval (57 : Int32)) A_w_A.1).2
  have el_58 := (elem_in (eqv_i (Term.int_eval (939524120 : Int32)) (Cond.before_iff.mp (ow hsets 75 rfl))) ev_w_A (Term.int_eval (58 : Int32)) A_w_A.1).2
  have el_59 := (elem_in (eqv_i (Term.int_eval (1744830488 : Int32)) (Cond.before_iff.mp (ow hsets 76 rfl))) ev_w_A (Term.int_eval (59 : Int32)) A_w_A.1).2
  have el_60 := (elem_in (eqv_i (Term.int_eval (-402653159 : Int32)) (Cond.before_iff.mp (ow hsets 77 rfl))) ev_w_A (Term.int_eval (60 : Int32)) A_w_A.1).2
  have el_61 := (elem_in (eqv_i (Term.int_eval (1744830489 : Int32)) (Cond.before_iff.mp (ow hsets 78 rfl))) ev_w_A (Term.int_eval (61 : Int32)) A_w_A.1).2
  have el_62 := (elem_in (eqv_i (Term.int_eval (-402653159 : Int32)) (Cond.before_iff.mp (ow hsets 79 rfl))) ev_w_A (Term.int_eval (62 : Int32)) A_w_A.1).2
  have el_63 := (elem_in (eqv_i (Term.int_eval (1744830488 : Int32)) (Cond.before_iff.mp (ow hsets 80 rfl))) ev_w_A (Term.int_eval (63 : Int32)) A_w_A.1).2
  have el_64 := (elem_in (eqv_i (Term.int_eval (1744830488 : Int32)) (Cond.before_iff.mp (ow hsets 81 rfl))) ev_w_A (Term.int_eval (64 : Int32)) A_w_A.1).2
  have el_65 := (elem_in (eqv_i (Term.int_eval (8552417 : Int32)) (Cond.before_iff.mp (ow hsets 82 rfl))) ev_w_A (Term.int_eval (65 : Int32)) A_w_A.1).2
  have el_66 := (elem_in (eqv_i (Term.int_eval (8552417 : Int32)) (Cond.before_iff.mp (ow hsets 83 rfl))) ev_w_A (Term.int_eval (66 : Int32)) A_w_A.1).2
  have el_67 := (elem_in (eqv_i (Term.int_eval (8552417 : Int32)) (Cond.before_iff.mp (ow hsets 84 rfl))) ev_w_A (Term.int_eval (67 : Int32)) A_w_A.1).2
  have el_68 := (elem_in (eqv_i (Term.int_eval (8552417 : Int32)) (Cond.before_iff.mp (ow hsets 85 rfl))) ev_w_A (Term.int_eval (68 : Int32)) A_w_A.1).2
  have el_69 := (elem_in (eqv_i (Term.int_eval (8552417 : Int32)) (Cond.before_iff.mp (ow hsets 86 rfl))) ev_w_A (Term.int_eval (69 : Int32)) A_w_A.1).2
  have el_70 := (elem_in (eqv_i (Term.int_eval (8552417 : Int32)) (Cond.before_iff.mp (ow hsets 87 rfl))) ev_w_A (Term.int_eval (70 : Int32)) A_w_A.1).2
  have el_71 := (elem_in (eqv_i (Term.int_eval (8552417 : Int32)) (Cond.before_iff.mp (ow hsets 88 rfl))) ev_w_A (Term.int_eval (71 : Int32)) A_w_A.1).2
  have el_72 := (elem_in (eqv_i (Term.int_eval (8552417 : Int32)) (Cond.before_iff.mp (ow hsets 89 rfl))) ev_w_A (Term.int_eval (72 : Int32)) A_w_A.1).2
  have el_73 := (elem_in (eqv_i (Term.int_eval (8552417 : Int32)) (Cond.before_iff.mp (ow hsets 90 rfl))) ev_w_A (Term.int_eval (73 : Int32)) A_w_A.1).2
  have el_74 := (elem_in (eqv_i (Term.int_eval (8552417 : Int32)) (Cond.before_iff.mp (ow hsets 91 rfl))) ev_w_A (Term.int_eval (74 : Int32)) A_w_A.1).2
  have el_75 := (elem_in (eqv_i (Term.int_eval (8552417 : Int32)) (Cond.before_iff.mp (ow hsets 92 rfl))) ev_w_A (Term.int_eval (75 : Int32)) A_w_A.1).2
  have el_76 := (elem_in (eqv_i (Term.int_eval (8552417 : Int32)) (Cond.before_iff.mp (ow hsets 93 rfl))) ev_w_A (Term.int_eval (76 : Int32)) A_w_A.1).2
  have el_77 := (elem_in (eqv_i (Term.int_eval (8552417 : Int32)) (Cond.before_iff.mp (ow hsets 94 rfl))) ev_w_A (Term.int_eval (77 : Int32)) A_w_A.1).2
  have el_78 := (elem_in (eqv_i (Term.int_eval (8552417 : Int32)) (Cond.before_iff.mp (ow hsets 95 rfl))) ev_w_A (Term.int_eval (78 : Int32)) A_w_A.1).2
  have el_79 := (elem_in (eqv_i (Term.int_eval (8552417 : Int32)) (Cond.before_iff.mp (ow hsets 96 rfl))) ev_w_A (Term.int_eval (79 : Int32)) A_w_A.1).2
  have el_80 := (elem_in (eqv_i (Term.int_eval (8552417 : Int32)) (Cond.before_iff.mp (ow hsets 97 rfl))) ev_w_A (Term.int_eval (80 : Int32)) A_w_A.1).2
  have el_81 := (elem_in (eqv_i (Term.int_eval (8552417 : Int32)) (Cond.before_iff.mp (ow hsets 98 rfl))) ev_w_A (Term.int_eval (81 : Int32)) A_w_A.1).2
  have el_82 := (elem_in (eqv_i (Term.int_eval (8552417 : Int32)) (Cond.before_iff.mp (ow hsets 99 rfl))) ev_w_A (Term.int_eval (82 : Int32)) A_w_A.1).2
  have el_83 := (elem_in (eqv_i (Term.int_eval (8552417 : Int32)) (Cond.before_iff.mp (ow hsets 100 rfl))) ev_w_A (Term.int_eval (83 : Int32)) A_w_A.1).2
  have el_84 := (elem_in (eqv_i (Term.int_eval (8552417 : Int32)) (Cond.before_iff.mp (ow hsets 101 rfl))) ev_w_A (Term.int_eval (84 : Int32)) A_w_A.1).2
  have el_85 := (elem_in (eqv_i (Term.int_eval (8552417 : Int32)) (Cond.before_iff.mp (ow hsets 102 rfl))) ev_w_A (Term.int_eval (85 : Int32)) A_w_A.1).2
  have el_86 := (elem_in (eqv_i (Term.int_eval (8552417 : Int32)) (Cond.before_iff.mp (ow hsets 103 rfl))) ev_w_A (Term.int_eval (86 : Int32)) A_w_A.1).2
  have el_87 := (elem_in (eqv_i (Term.int_eval (8552417 : Int32)) (Cond.before_iff.mp (ow hsets 104 rfl))) ev_w_A (Term.int_eval (87 : Int32)) A_w_A.1).2
  have el_88 := (elem_in (eqv_i (Term.int_eval (8552417 : Int32)) (Cond.before_iff.mp (ow hsets 105 rfl))) ev_w_A (Term.int_eval (88 : Int32)) A_w_A.1).2
  have el_89 := (elem_in (eqv_i (Term.int_eval (8552417 : Int32)) (Cond.before_iff.mp (ow hsets 106 rfl))) ev_w_A (Term.int_eval (89 : Int32)) A_w_A.1).2
  have el_90 := (elem_in (eqv_i (Term.int_eval (8552417 : Int32)) (Cond.before_iff.mp (ow hsets 107 rfl))) ev_w_A (Term.int_eval (90 : Int32)) A_w_A.1).2
  have el_91 := (elem_in (eqv_i (Term.int_eval (-402653163 : Int32)) (Cond.before_iff.mp (ow hsets 108 rfl))) ev_w_A (Term.int_eval (91 : Int32)) A_w_A.1).2
  have el_92 := (elem_in (eqv_i (Term.int_eval (1744830488 : Int32)) (Cond.before_iff.mp (ow hsets 109 rfl))) ev_w_A (Term.int_eval (92 : Int32)) A_w_A.1).2
  have el_93 := (elem_in (eqv_i (Term.int_eval (-402653162 : Int32)) (Cond.before_iff.mp (ow hsets 110 rfl))) ev_w_A (Term.int_eval (93 : Int32)) A_w_A.1).2
  have el_94 := (elem_in (eqv_i (Term.int_eval (1744830491 : Int32)) (Cond.before_iff.mp (ow hsets 111 rfl))) ev_w_A (Term.int_eval (94 : Int32)) A_w_A.1).2
  have el_95 := (elem_in (eqv_i (Term.int_eval (1744850967 : Int32)) (Cond.before_iff.mp (ow hsets 112 rfl))) ev_w_A (Term.int_eval (95 : Int32)) A_w_A.1).2
  have el_96 := (elem_in (eqv_i (Term.int_eval (1744830491 : Int32)) (Cond.before_iff.mp (ow hsets 113 rfl))) ev_w_A (Term.int_eval (96 : Int32)) A_w_A.1).2
  have el_97 := (elem_in (eqv_i (Term.int_eval (8486882 : Int32)) (Cond.before_iff.mp (ow hsets 114 rfl))) ev_w_A (Term.int_eval (97 : Int32)) A_w_A.1).2
  have el_98 := (elem_in (eqv_i (Term.int_eval (8486882 : Int32)) (Cond.before_iff.mp (ow hsets 115 rfl))) ev_w_A (Term.int_eval (98 : Int32)) A_w_A.1).2
  have el_99 := (elem_in (eqv_i (Term.int_eval (8486882 : Int32)) (Cond.before_iff.mp (ow hsets 116 rfl))) ev_w_A (Term.int_eval (99 : Int32)) A_w_A.1).2
  have el_100 := (elem_in (eqv_i (Term.int_eval (8486882 : Int32)) (Cond.before_iff.mp (ow hsets 117 rfl))) ev_w_A (Term.int_eval (100 : Int32)) A_w_A.1).2
  have el_101 := (elem_in (eqv_i (Term.int_eval (8486882 : Int32)) (Cond.before_iff.mp (ow hsets 118 rfl))) ev_w_A (Term.int_eval (101 : Int32)) A_w_A.1).2
  have el_102 := (elem_in (eqv_i (Term.int_eval (8486882 : Int32)) (Cond.before_iff.mp (ow hsets 119 rfl))) ev_w_A (Term.int_eval (102 : Int32)) A_w_A.1).2
  have el_103 := (elem_in (eqv_i (Term.int_eval (8486882 : Int32)) (Cond.before_iff.mp (ow hsets 120 rfl))) ev_w_A (Term.int_eval (103 : Int32)) A_w_A.1).2
  have el_104 := (elem_in (eqv_i (Term.int_eval (8486882 : Int32)) (Cond.before_iff.mp (ow hsets 121 rfl))) ev_w_A (Term.int_eval (104 : Int32)) A_w_A.1).2
  have el_105 := (elem_in (eqv_i (Term.int_eval (8486882 : Int32)) (Cond.before_iff.mp (ow hsets 122 rfl))) ev_w_A (Term.int_eval (105 : Int32)) A_w_A.1).2
  have el_106 := (elem_in (eqv_i (Term.int_eval (8486882 : Int32)) (Cond.before_iff.mp (ow hsets 123 rfl))) ev_w_A (Term.int_eval (106 : Int32)) A_w_A.1).2
  have el_107 := (elem_in (eqv_i (Term.int_eval (8486882 : Int32)) (Cond.before_iff.mp (ow hsets 124 rfl))) ev_w_A (Term.int_eval (107 : Int32)) A_w_A.1).2
  have el_108 := (elem_in (eqv_i (Term.int_eval (8486882 : Int32)) (Cond.before_iff.mp (ow hsets 125 rfl))) ev_w_A (Term.int_eval (108 : Int32)) A_w_A.1).2
  have el_109 := (elem_in (eqv_i (Term.int_eval (8486882 : Int32)) (Cond.before_iff.mp (ow hsets 126 rfl))) ev_w_A (Term.int_eval (109 : Int32)) A_w_A.1).2
  have el_110 := (elem_in (eqv_i (Term.int_eval (8486882 : Int32)) (Cond.before_iff.mp (ow hsets 127 rfl))) ev_w_A (Term.int_eval (110 : Int32)) A_w_A.1).2
  have el_111 := (elem_in (eqv_i (Term.int_eval (8486882 : Int32)) (Cond.before_iff.mp (ow hsets 128 rfl))) ev_w_A (Term.int_eval (111 : Int32)) A_w_A.1).2
  have el_112 := (elem_in (eqv_i (Term.int_eval (8486882 : Int32)) (Cond.before_iff.mp (ow hsets 129 rfl))) ev_w_A (Term.int_eval (112 : Int32)) A_w_A.1).2
  have el_113 := (elem_in (eqv_i (Term.int_eval (8486882 : Int32)) (Cond.before_iff.mp (ow hsets 130 rfl))) ev_w_A (Term.int_eval (113 : Int32)) A_w_A.1).2
  have el_114 := (elem_in (eqv_i (Term.int_eval (8486882 : Int32)) (Cond.before_iff.mp (ow hsets 131 rfl))) ev_w_A (Term.int_eval (114 : Int32)) A_w_A.1).2
  have el_115 := (elem_in (eqv_i (Term.int_eval (8486882 : Int32)) (Cond.before_iff.mp (ow hsets 132 rfl))) ev_w_A (Term.int_eval (115 : Int32)) A_w_A.1).2
  have el_116 := (elem_in (eqv_i (Term.int_eval (8486882 : Int32)) (Cond.before_iff.mp (ow hsets 133 rfl))) ev_w_A (Term.int_eval (116 : Int32)) A_w_A.1).2
  have el_117 := (elem_in (eqv_i (Term.int_eval (8486882 : Int32)) (Cond.before_iff.mp (ow hsets 134 rfl))) ev_w_A (Term.int_eval (117 : Int32)) A_w_A.1).2
  have el_118 := (elem_in (eqv_i (Term.int_eval (8486882 : Int32)) (Cond.before_iff.mp (ow hsets 135 rfl))) ev_w_A (Term.int_eval (118 : Int32)) A_w_A.1).2
  have el_119 := (elem_in (eqv_i (Term.int_eval (8486882 : Int32)) (Cond.before_iff.mp (ow hsets 136 rfl))) ev_w_A (Term.int_eval (119 : Int32)) A_w_A.1).2
  have el_120 := (elem_in (eqv_i (Term.int_eval (8486882 : Int32)) (Cond.before_iff.mp (ow hsets 137 rfl))) ev_w_A (Term.int_eval (120 : Int32)) A_w_A.1).2
  have el_121 := (elem_in (eqv_i (Term.int_eval (8486882 : Int32)) (Cond.before_iff.mp (ow hsets 138 rfl))) ev_w_A (Term.int_eval (121 : Int32)) A_w_A.1).2
  have el_122 := (elem_in (eqv_i (Term.int_eval (8486882 : Int32)) (Cond.before_iff.mp (ow hsets 139 rfl))) ev_w_A (Term.int_eval (122 : Int32)) A_w_A.1).2
  have el_123 := (elem_in (eqv_i (Term.int_eval (-402653163 : Int32)) (Cond.before_iff.mp (ow hsets 140 rfl))) ev_w_A (Term.int_eval (123 : Int32)) A_w_A.1).2
  have el_124 := (elem_in (eqv_i (Term.int_eval (1744830489 : Int32)) (Cond.before_iff.mp (ow hsets 141 rfl))) ev_w_A (Term.int_eval (124 : Int32)) A_w_A.1).2
  have el_125 := (elem_in (eqv_i (Term.int_eval (-402653162 : Int32)) (Cond.before_iff.mp (ow hsets 142 rfl))) ev_w_A (Term.int_eval (125 : Int32)) A_w_A.1).2
  have el_126 := (elem_in (eqv_i (Term.int_eval (1744830489 : Int32)) (Cond.before_iff.mp (ow hsets 143 rfl))) ev_w_A (Term.int_eval (126 : Int32)) A_w_A.1).2
  have el_127 := (elem_in (eqv_i (Term.int_eval (1207963663 : Int32)) (Cond.before_iff.mp (ow hsets 144 rfl))) ev_w_A (Term.int_eval (127 : Int32)) A_w_A.1).2
  have el_128 := (elem_in (eqv_i (Term.int_eval (1207963663 : Int32)) (Cond.before_iff.mp (ow hsets 145 rfl))) ev_w_A (Term.int_eval (128 : Int32)) A_w_A.1).2
  have el_129 := (elem_in (eqv_i (Term.int_eval (1207963663 : Int32)) (Cond.before_iff.mp (ow hsets 146 rfl))) ev_w_A (Term.int_eval (129 : Int32)) A_w_A.1).2
  have el_130 := (elem_in (eqv_i (Term.int_eval (1207963663 : Int32)) (Cond.before_iff.mp (ow hsets 147 rfl))) ev_w_A (Term.int_eval (130 : Int32)) A_w_A.1).2
  have el_131 := (elem_in (eqv_i (Term.int_eval (1207963663 : Int32)) (Cond.before_iff.mp (ow hsets 148 rfl))) ev_w_A (Term.int_eval (131 : Int32)) A_w_A.1).2
  have el_132 := (elem_in (eqv_i (Term.int_eval (1207963663 : Int32)) (Cond.before_iff.mp (ow hsets 149 rfl))) ev_w_A (Term.int_eval (132 : Int32)) A_w_A.1).2
  have el_133 := (elem_in (eqv_i (Term.int_eval (1342181391 : Int32)) (Cond.before_iff.mp (ow hsets 150 rfl))) ev_w_A (Term.int_eval (133 : Int32)) A_w_A.1).2
  have el_134 := (elem_in (eqv_i (Term.int_eval (1207963663 : Int32)) (Cond.before_iff.mp (ow hsets 151 rfl))) ev_w_A (Term.int_eval (134 : Int32)) A_w_A.1).2
  have el_135 := (elem_in (eqv_i (Term.int_eval (1207963663 : Int32)) (Cond.before_iff.mp (ow hsets 152 rfl))) ev_w_A (Term.int_eval (135 : Int32)) A_w_A.1).2
  have el_136 := (elem_in (eqv_i (Term.int_eval (1207963663 : Int32)) (Cond.before_iff.mp (ow hsets 153 rfl))) ev_w_A (Term.int_eval (136 : Int32)) A_w_A.1).2
  have el_137 := (elem_in (eqv_i (Term.int_eval (1207963663 : Int32)) (Cond.before_iff.mp (ow hsets 154 rfl))) ev_w_A (Term.int_eval (137 : Int32)) A_w_A.1).2
  have el_138 := (elem_in (eqv_i (Term.int_eval (1207963663 : Int32)) (Cond.before_iff.mp (ow hsets 155 rfl))) ev_w_A (Term.int_eval (138 : Int32)) A_w_A.1).2
  have el_139 := (elem_in (eqv_i (Term.int_eval (1207963663 : Int32)) (Cond.before_iff.mp (ow hsets 156 rfl))) ev_w_A (Term.int_eval (139 : Int32)) A_w_A.1).2
  have el_140 := (elem_in (eqv_i (Term.int_eval (1207963663 : Int32)) (Cond.before_iff.mp (ow hsets 157 rfl))) ev_w_A (Term.int_eval (140 : Int32)) A_w_A.1).2
  have el_141 := (elem_in (eqv_i (Term.int_eval (1207963663 : Int32)) (Cond.before_iff.mp (ow hsets 158 rfl))) ev_w_A (Term.int_eval (141 : Int32)) A_w_A.1).2
  have el_142 := (elem_in (eqv_i (Term.int_eval (1207963663 : Int32)) (Cond.before_iff.mp (ow hsets 159 rfl))) ev_w_A (Term.int_eval (142 : Int32)) A_w_A.1).2
  have el_143 := (elem_in (eqv_i (Term.int_eval (1207963663 : Int32)) (Cond.before_iff.mp (ow hsets 160 rfl))) ev_w_A (Term.int_eval (143 : Int32)) A_w_A.1).2
  have el_144 := (elem_in (eqv_i (Term.int_eval (1207963663 : Int32)) (Cond.before_iff.mp (ow hsets 161 rfl))) ev_w_A (Term.int_eval (144 : Int32)) A_w_A.1).2
  have el_145 := (elem_in (eqv_i (Term.int_eval (1207963663 : Int32)) (Cond.before_iff.mp (ow hsets 162 rfl))) ev_w_A (Term.int_eval (145 : Int32)) A_w_A.1).2
  have el_146 := (elem_in (eqv_i (Term.int_eval (1207963663 : Int32)) (Cond.before_iff.mp (ow hsets 163 rfl))) ev_w_A (Term.int_eval (146 : Int32)) A_w_A.1).2
  have el_147 := (elem_in (eqv_i (Term.int_eval (1207963663 : Int32)) (Cond.before_iff.mp (ow hsets 164 rfl))) ev_w_A (Term.int_eval (147 : Int32)) A_w_A.1).2
  have el_148 := (elem_in (eqv_i (Term.int_eval (1207963663 : Int32)) (Cond.before_iff.mp (ow hsets 165 rfl))) ev_w_A (Term.int_eval (148 : Int32)) A_w_A.1).2
  have el_149 := (elem_in (eqv_i (Term.int_eval (1207963663 : Int32)) (Cond.before_iff.mp (ow hsets 166 rfl))) ev_w_A (Term.int_eval (149 : Int32)) A_w_A.1).2
  have el_150 := (elem_in (eqv_i (Term.int_eval (1207963663 : Int32)) (Cond.before_iff.mp (ow hsets 167 rfl))) ev_w_A (Term.int_eval (150 : Int32)) A_w_A.1).2
  have el_151 := (elem_in (eqv_i (Term.int_eval (1207963663 : Int32)) (Cond.before_iff.mp (ow hsets 168 rfl))) ev_w_A (Term.int_eval (151 : Int32)) A_w_A.1).2
  have el_152 := (elem_in (eqv_i (Term.int_eval (1207963663 : Int32)) (Cond.before_iff.mp (ow hsets 169 rfl))) ev_w_A (Term.int_eval (152 : Int32)) A_w_A.1).2
  have el_153 := (elem_in (eqv_i (Term.int_eval (1207963663 : Int32)) (Cond.before_iff.mp (ow hsets 170 rfl))) ev_w_A (Term.int_eval (153 : Int32)) A_w_A.1).2
  have el_154 := (elem_in (eqv_i (Term.int_eval (1207963663 : Int32)) (Cond.before_iff.mp (ow hsets 171 rfl))) ev_w_A (Term.int_eval (154 : Int32)) A_w_A.1).2
  have el_155 := (elem_in (eqv_i (Term.int_eval (1207963663 : Int32)) (Cond.before_iff.mp (ow hsets 172 rfl))) ev_w_A (Term.int_eval (155 : Int32)) A_w_A.1).2
  have el_156 := (elem_in (eqv_i (Term.int_eval (1207963663 : Int32)) (Cond.before_iff.mp (ow hsets 173 rfl))) ev_w_A (Term.int_eval (156 : Int32)) A_w_A.1).2
  have el_157 := (elem_in (eqv_i (Term.int_eval (1207963663 : Int32)) (Cond.before_iff.mp (ow hsets 174 rfl))) ev_w_A (Term.int_eval (157 : Int32)) A_w_A.1).2
  have el_158 := (elem_in (eqv_i (Term.int_eval (1207963663 : Int32)) (Cond.before_iff.mp (ow hsets 175 rfl))) ev_w_A (Term.int_eval (158 : Int32)) A_w_A.1).2
  have el_159 := (elem_in (eqv_i (Term.int_eval (1207963663 : Int32)) (Cond.before_iff.mp (ow hsets 176 rfl))) ev_w_A (Term.int_eval (159 : Int32)) A_w_A.1).2
  have el_160 := (elem_in (eqv_i (Term.int_eval (939524108 : Int32)) (Cond.before_iff.mp (ow hsets 177 rfl))) ev_w_A (Term.int_eval (160 : Int32)) A_w_A.1).2
  have el_161 := (elem_in (eqv_i (Term.int_eval (1744830488 : Int32)) (Cond.before_iff.mp (ow hsets 178 rfl))) ev_w_A (Term.int_eval (161 : Int32)) A_w_A.1).2
  have el_162 := (elem_in (eqv_i (Term.int_eval (671113242 : Int32)) (Cond.before_iff.mp (ow hsets 179 rfl))) ev_w_A (Term.int_eval (162 : Int32)) A_w_A.1).2
  have el_163 := (elem_in (eqv_i (Term.int_eval (671113242 : Int32)) (Cond.before_iff.mp (ow hsets 180 rfl))) ev_w_A (Term.int_eval (163 : Int32)) A_w_A.1).2
  have el_164 := (elem_in (eqv_i (Term.int_eval (671113242 : Int32)) (Cond.before_iff.mp (ow hsets 181 rfl))) ev_w_A (Term.int_eval (164 : Int32)) A_w_A.1).2
  have el_165 := (elem_in (eqv_i (Term.int_eval (671113242 : Int32)) (Cond.before_iff.mp (ow hsets 182 rfl))) ev_w_A (Term.int_eval (165 : Int32)) A_w_A.1).2
  have el_166 := (elem_in (eqv_i (Term.int_eval (1744830492 : Int32)) (Cond.before_iff.mp (ow hsets 183 rfl))) ev_w_A (Term.int_eval (166 : Int32)) A_w_A.1).2
  have el_167 := (elem_in (eqv_i (Term.int_eval (1744830488 : Int32)) (Cond.before_iff.mp (ow hsets 184 rfl))) ev_w_A (Term.int_eval (167 : Int32)) A_w_A.1).2
  have el_168 := (elem_in (eqv_i (Term.int_eval (1744830491 : Int32)) (Cond.before_iff.mp (ow hsets 185 rfl))) ev_w_A (Term.int_eval (168 : Int32)) A_w_A.1).2
  have el_169 := (elem_in (eqv_i (Term.int_eval (1744830492 : Int32)) (Cond.before_iff.mp (ow hsets 186 rfl))) ev_w_A (Term.int_eval (169 : Int32)) A_w_A.1).2
  have el_170 := (elem_in (eqv_i (Term.int_eval (28677 : Int32)) (Cond.before_iff.mp (ow hsets 187 rfl))) ev_w_A (Term.int_eval (170 : Int32)) A_w_A.1).2
  have el_171 := (elem_in (eqv_i (Term.int_eval (-402653155 : Int32)) (Cond.before_iff.mp (ow hsets 188 rfl))) ev_w_A (Term.int_eval (171 : Int32)) A_w_A.1).2
  have el_172 := (elem_in (eqv_i (Term.int_eval (1744830489 : Int32)) (Cond.before_iff.mp (ow hsets 189 rfl))) ev_w_A (Term.int_eval (172 : Int32)) A_w_A.1).2
  have el_173 := (elem_in (eqv_i (Term.int_eval (1207963664 : Int32)) (Cond.before_iff.mp (ow hsets 190 rfl))) ev_w_A (Term.int_eval (173 : Int32)) A_w_A.1).2
  have el_174 := (elem_in (eqv_i (Term.int_eval (1744830492 : Int32)) (Cond.before_iff.mp (ow hsets 191 rfl))) ev_w_A (Term.int_eval (174 : Int32)) A_w_A.1).2
  have el_175 := (elem_in (eqv_i (Term.int_eval (1744830491 : Int32)) (Cond.before_iff.mp (ow hsets 192 rfl))) ev_w_A (Term.int_eval (175 : Int32)) A_w_A.1).2
  have el_176 := (elem_in (eqv_i (Term.int_eval (671088668 : Int32)) (Cond.before_iff.mp (ow hsets 193 rfl))) ev_w_A (Term.int_eval (176 : Int32)) A_w_A.1).2
  have el_177 := (elem_in (eqv_i (Term.int_eval (671088665 : Int32)) (Cond.before_iff.mp (ow hsets 194 rfl))) ev_w_A (Term.int_eval (177 : Int32)) A_w_A.1).2
  have el_178 := (elem_in (eqv_i (Term.int_eval (402654731 : Int32)) (Cond.before_iff.mp (ow hsets 195 rfl))) ev_w_A (Term.int_eval (178 : Int32)) A_w_A.1).2
  have el_179 := (elem_in (eqv_i (Term.int_eval (402654731 : Int32)) (Cond.before_iff.mp (ow hsets 196 rfl))) ev_w_A (Term.int_eval (179 : Int32)) A_w_A.1).2
  have el_180 := (elem_in (eqv_i (Term.int_eval (1744830491 : Int32)) (Cond.before_iff.mp (ow hsets 197 rfl))) ev_w_A (Term.int_eval (180 : Int32)) A_w_A.1).2
  have el_181 := (elem_in (eqv_i (Term.int_eval (134049794 : Int32)) (Cond.before_iff.mp (ow hsets 198 rfl))) ev_w_A (Term.int_eval (181 : Int32)) A_w_A.1).2
  have el_182 := (elem_in (eqv_i (Term.int_eval (1744830488 : Int32)) (Cond.before_iff.mp (ow hsets 199 rfl))) ev_w_A (Term.int_eval (182 : Int32)) A_w_A.1).2
  have el_183 := (elem_in (eqv_i (Term.int_eval (1744830488 : Int32)) (Cond.before_iff.mp (ow hsets 200 rfl))) ev_w_A (Term.int_eval (183 : Int32)) A_w_A.1).2
  have el_184 := (elem_in (eqv_i (Term.int_eval (1744830491 : Int32)) (Cond.before_iff.mp (ow hsets 201 rfl))) ev_w_A (Term.int_eval (184 : Int32)) A_w_A.1).2
  have el_185 := (elem_in (eqv_i (Term.int_eval (402654475 : Int32)) (Cond.before_iff.mp (ow hsets 202 rfl))) ev_w_A (Term.int_eval (185 : Int32)) A_w_A.1).2
  have el_186 := (elem_in (eqv_i (Term.int_eval (28677 : Int32)) (Cond.before_iff.mp (ow hsets 203 rfl))) ev_w_A (Term.int_eval (186 : Int32)) A_w_A.1).2
  have el_187 := (elem_in (eqv_i (Term.int_eval (-402653154 : Int32)) (Cond.before_iff.mp (ow hsets 204 rfl))) ev_w_A (Term.int_eval (187 : Int32)) A_w_A.1).2
  have el_188 := (elem_in (eqv_i (Term.int_eval (1744832523 : Int32)) (Cond.before_iff.mp (ow hsets 205 rfl))) ev_w_A (Term.int_eval (188 : Int32)) A_w_A.1).2
  have el_189 := (elem_in (eqv_i (Term.int_eval (1744832523 : Int32)) (Cond.before_iff.mp (ow hsets 206 rfl))) ev_w_A (Term.int_eval (189 : Int32)) A_w_A.1).2
  have el_190 := (elem_in (eqv_i (Term.int_eval (1744832523 : Int32)) (Cond.before_iff.mp (ow hsets 207 rfl))) ev_w_A (Term.int_eval (190 : Int32)) A_w_A.1).2
  have el_191 := (elem_in (eqv_i (Term.int_eval (1744830488 : Int32)) (Cond.before_iff.mp (ow hsets 208 rfl))) ev_w_A (Term.int_eval (191 : Int32)) A_w_A.1).2
  have el_192 := (elem_in (eqv_i (Term.int_eval (8548353 : Int32)) (Cond.before_iff.mp (ow hsets 209 rfl))) ev_w_A (Term.int_eval (192 : Int32)) A_w_A.1).2
  have el_193 := (elem_in (eqv_i (Term.int_eval (8548353 : Int32)) (Cond.before_iff.mp (ow hsets 210 rfl))) ev_w_A (Term.int_eval (193 : Int32)) A_w_A.1).2
  have el_194 := (elem_in (eqv_i (Term.int_eval (8548353 : Int32)) (Cond.before_iff.mp (ow hsets 211 rfl))) ev_w_A (Term.int_eval (194 : Int32)) A_w_A.1).2
  have el_195 := (elem_in (eqv_i (Term.int_eval (8548353 : Int32)) (Cond.before_iff.mp (ow hsets 212 rfl))) ev_w_A (Term.int_eval (195 : Int32)) A_w_A.1).2
  have el_196 := (elem_in (eqv_i (Term.int_eval (8548353 : Int32)) (Cond.before_iff.mp (ow hsets 213 rfl))) ev_w_A (Term.int_eval (196 : Int32)) A_w_A.1).2
  have el_197 := (elem_in (eqv_i (Term.int_eval (8548353 : Int32)) (Cond.before_iff.mp (ow hsets 214 rfl))) ev_w_A (Term.int_eval (197 : Int32)) A_w_A.1).2
  have el_198 := (elem_in (eqv_i (Term.int_eval (8548353 : Int32)) (Cond.before_iff.mp (ow hsets 215 rfl))) ev_w_A (Term.int_eval (198 : Int32)) A_w_A.1).2
  have el_199 := (elem_in (eqv_i (Term.int_eval (8548353 : Int32)) (Cond.before_iff.mp (ow hsets 216 rfl))) ev_w_A (Term.int_eval (199 : Int32)) A_w_A.1).2
  have el_200 := (elem_in (eqv_i (Term.int_eval (8548353 : Int32)) (Cond.before_iff.mp (ow hsets 217 rfl))) ev_w_A (Term.int_eval (200 : Int32)) A_w_A.1).2
  have el_201 := (elem_in (eqv_i (Term.int_eval (8548353 : Int32)) (Cond.before_iff.mp (ow hsets 218 rfl))) ev_w_A (Term.int_eval (201 : Int32)) A_w_A.1).2
  have el_202 := (elem_in (eqv_i (Term.int_eval (8548353 : Int32)) (Cond.before_iff.mp (ow hsets 219 rfl))) ev_w_A (Term.int_eval (202 : Int32)) A_w_A.1).2
  have el_203 := (elem_in (eqv_i (Term.int_eval (8548353 : Int32)) (Cond.before_iff.mp (ow hsets 220 rfl))) ev_w_A (Term.int_eval (203 : Int32)) A_w_A.1).2
  have el_204 := (elem_in (eqv_i (Term.int_eval (8548353 : Int32)) (Cond.before_iff.mp (ow hsets 221 rfl))) ev_w_A (Term.int_eval (204 : Int32)) A_w_A.1).2
  have el_205 := (elem_in (eqv_i (Term.int_eval (8548353 : Int32)) (Cond.before_iff.mp (ow hsets 222 rfl))) ev_w_A (Term.int_eval (205 : Int32)) A_w_A.1).2
  have el_206 := (elem_in (eqv_i (Term.int_eval (8548353 : Int32)) (Cond.before_iff.mp (ow hsets 223 rfl))) ev_w_A (Term.int_eval (206 : Int32)) A_w_A.1).2
  have el_207 := (elem_in (eqv_i (Term.int_eval (8548353 : Int32)) (Cond.before_iff.mp (ow hsets 224 rfl))) ev_w_A (Term.int_eval (207 : Int32)) A_w_A.1).2
  have el_208 := (elem_in (eqv_i (Term.int_eval (8548353 : Int32)) (Cond.before_iff.mp (ow hsets 225 rfl))) ev_w_A (Term.int_eval (208 : Int32)) A_w_A.1).2
  have el_209 := (elem_in (eqv_i (Term.int_eval (8548353 : Int32)) (Cond.before_iff.mp (ow hsets 226 rfl))) ev_w_A (Term.int_eval (209 : Int32)) A_w_A.1).2
  have el_210 := (elem_in (eqv_i (Term.int_eval (8548353 : Int32)) (Cond.before_iff.mp (ow hsets 227 rfl))) ev_w_A (Term.int_eval (210 : Int32)) A_w_A.1).2
  have el_211 := (elem_in (eqv_i (Term.int_eval (8548353 : Int32)) (Cond.before_iff.mp (ow hsets 228 rfl))) ev_w_A (Term.int_eval (211 : Int32)) A_w_A.1).2
  have el_212 := (elem_in (eqv_i (Term.int_eval (8548353 : Int32)) (Cond.before_iff.mp (ow hsets 229 rfl))) ev_w_A (Term.int_eval (212 : Int32)) A_w_A.1).2
  have el_213 := (elem_in (eqv_i (Term.int_eval (8548353 : Int32)) (Cond.before_iff.mp (ow hsets 230 rfl))) ev_w_A (Term.int_eval (213 : Int32)) A_w_A.1).2
  have el_214 := (elem_in (eqv_i (Term.int_eval (8548353 : Int32)) (Cond.before_iff.mp (ow hsets 231 rfl))) ev_w_A (Term.int_eval (214 : Int32)) A_w_A.1).2
  have el_215 := (elem_in (eqv_i (Term.int_eval (1744830489 : Int32)) (Cond.before_iff.mp (ow hsets 232 rfl))) ev_w_A (Term.int_eval (215 : Int32)) A_w_A.1).2
  have el_216 := (elem_in (eqv_i (Term.int_eval (8548353 : Int32)) (Cond.before_iff.mp (ow hsets 233 rfl))) ev_w_A (Term.int_eval (216 : Int32)) A_w_A.1).2
  have el_217 := (elem_in (eqv_i (Term.int_eval (8548353 : Int32)) (Cond.before_iff.mp (ow hsets 234 rfl))) ev_w_A (Term.int_eval (217 : Int32)) A_w_A.1).2
  have el_218 := (elem_in (eqv_i (Term.int_eval (8548353 : Int32)) (Cond.before_iff.mp (ow hsets 235 rfl))) ev_w_A (Term.int_eval (218 : Int32)) A_w_A.1).2
  have el_219 := (elem_in (eqv_i (Term.int_eval (8548353 : Int32)) (Cond.before_iff.mp (ow hsets 236 rfl))) ev_w_A (Term.int_eval (219 : Int32)) A_w_A.1).2
  have el_220 := (elem_in (eqv_i (Term.int_eval (8548353 : Int32)) (Cond.before_iff.mp (ow hsets 237 rfl))) ev_w_A (Term.int_eval (220 : Int32)) A_w_A.1).2
  have el_221 := (elem_in (eqv_i (Term.int_eval (8548353 : Int32)) (Cond.before_iff.mp (ow hsets 238 rfl))) ev_w_A (Term.int_eval (221 : Int32)) A_w_A.1).2
  have el_222 := (elem_in (eqv_i (Term.int_eval (8548353 : Int32)) (Cond.before_iff.mp (ow hsets 239 rfl))) ev_w_A (Term.int_eval (222 : Int32)) A_w_A.1).2
  have el_223 := (elem_in (eqv_i (Term.int_eval (134049794 : Int32)) (Cond.before_iff.mp (ow hsets 240 rfl))) ev_w_A (Term.int_eval (223 : Int32)) A_w_A.1).2
  have el_224 := (elem_in (eqv_i (Term.int_eval (8482818 : Int32)) (Cond.before_iff.mp (ow hsets 241 rfl))) ev_w_A (Term.int_eval (224 : Int32)) A_w_A.1).2
  have el_225 := (elem_in (eqv_i (Term.int_eval (8482818 : Int32)) (Cond.before_iff.mp (ow hsets 242 rfl))) ev_w_A (Term.int_eval (225 : Int32)) A_w_A.1).2
  have el_226 := (elem_in (eqv_i (Term.int_eval (8482818 : Int32)) (Cond.before_iff.mp (ow hsets 243 rfl))) ev_w_A (Term.int_eval (226 : Int32)) A_w_A.1).2
  have el_227 := (elem_in (eqv_i (Term.int_eval (8482818 : Int32)) (Cond.before_iff.mp (ow hsets 244 rfl))) ev_w_A (Term.int_eval (227 : Int32)) A_w_A.1).2
  have el_228 := (elem_in (eqv_i (Term.int_eval (8482818 : Int32)) (Cond.before_iff.mp (ow hsets 245 rfl))) ev_w_A (Term.int_eval (228 : Int32)) A_w_A.1).2
  have el_229 := (elem_in (eqv_i (Term.int_eval (8482818 : Int32)) (Cond.before_iff.mp (ow hsets 246 rfl))) ev_w_A (Term.int_eval (229 : Int32)) A_w_A.1).2
  have el_230 := (elem_in (eqv_i (Term.int_eval (8482818 : Int32)) (Cond.before_iff.mp (ow hsets 247 rfl))) ev_w_A (Term.int_eval (230 : Int32)) A_w_A.1).2
  have el_231 := (elem_in (eqv_i (Term.int_eval (8482818 : Int32)) (Cond.before_iff.mp (ow hsets 248 rfl))) ev_w_A (Term.int_eval (231 : Int32)) A_w_A.1).2
  have el_232 := (elem_in (eqv_i (Term.int_eval (8482818 : Int32)) (Cond.before_iff.mp (ow hsets 249 rfl))) ev_w_A (Term.int_eval (232 : Int32)) A_w_A.1).2
  have el_233 := (elem_in (eqv_i (Term.int_eval (8482818 : Int32)) (Cond.before_iff.mp (ow hsets 250 rfl))) ev_w_A (Term.int_eval (233 : Int32)) A_w_A.1).2
  have el_234 := (elem_in (eqv_i (Term.int_eval (8482818 : Int32)) (Cond.before_iff.mp (ow hsets 251 rfl))) ev_w_A (Term.int_eval (234 : Int32)) A_w_A.1).2
  have el_235 := (elem_in (eqv_i (Term.int_eval (8482818 : Int32)) (Cond.before_iff.mp (ow hsets 252 rfl))) ev_w_A (Term.int_eval (235 : Int32)) A_w_A.1).2
  have el_236 := (elem_in (eqv_i (Term.int_eval (8482818 : Int32)) (Cond.before_iff.mp (ow hsets 253 rfl))) ev_w_A (Term.int_eval (236 : Int32)) A_w_A.1).2
  have el_237 := (elem_in (eqv_i (Term.int_eval (8482818 : Int32)) (Cond.before_iff.mp (ow hsets 254 rfl))) ev_w_A (Term.int_eval (237 : Int32)) A_w_A.1).2
  have el_238 := (elem_in (eqv_i (Term.int_eval (8482818 : Int32)) (Cond.before_iff.mp (ow hsets 255 rfl))) ev_w_A (Term.int_eval (238 : Int32)) A_w_A.1).2
  have el_239 := (elem_in (eqv_i (Term.int_eval (8482818 : Int32)) (Cond.before_iff.mp (ow hsets 256 rfl))) ev_w_A (Term.int_eval (239 : Int32)) A_w_A.1).2
  have el_240 := (elem_in (eqv_i (Term.int_eval (8482818 : Int32)) (Cond.before_iff.mp (ow hsets 257 rfl))) ev_w_A (Term.int_eval (240 : Int32)) A_w_A.1).2
  have el_241 := (elem_in (eqv_i (Term.int_eval (8482818 : Int32)) (Cond.before_iff.mp (ow hsets 258 rfl))) ev_w_A (Term.int_eval (241 : Int32)) A_w_A.1).2
  have el_242 := (elem_in (eqv_i (Term.int_eval (8482818 : Int32)) (Cond.before_iff.mp (ow hsets 259 rfl))) ev_w_A (Term.int_eval (242 : Int32)) A_w_A.1).2
  have el_243 := (elem_in (eqv_i (Term.int_eval (8482818 : Int32)) (Cond.before_iff.mp (ow hsets 260 rfl))) ev_w_A (Term.int_eval (243 : Int32)) A_w_A.1).2
  have el_244 := (elem_in (eqv_i (Term.int_eval (8482818 : Int32)) (Cond.before_iff.mp (ow hsets 261 rfl))) ev_w_A (Term.int_eval (244 : Int32)) A_w_A.1).2
  have el_245 := (elem_in (eqv_i (Term.int_eval (8482818 : Int32)) (Cond.before_iff.mp (ow hsets 262 rfl))) ev_w_A (Term.int_eval (245 : Int32)) A_w_A.1).2
  have el_246 := (elem_in (eqv_i (Term.int_eval (8482818 : Int32)) (Cond.before_iff.mp (ow hsets 263 rfl))) ev_w_A (Term.int_eval (246 : Int32)) A_w_A.1).2
  have el_247 := (elem_in (eqv_i (Term.int_eval (1744830489 : Int32)) (Cond.before_iff.mp (ow hsets 264 rfl))) ev_w_A (Term.int_eval (247 : Int32)) A_w_A.1).2
  have el_248 := (elem_in (eqv_i (Term.int_eval (8482818 : Int32)) (Cond.before_iff.mp (ow hsets 265 rfl))) ev_w_A (Term.int_eval (248 : Int32)) A_w_A.1).2
  have el_249 := (elem_in (eqv_i (Term.int_eval (8482818 : Int32)) (Cond.before_iff.mp (ow hsets 266 rfl))) ev_w_A (Term.int_eval (249 : Int32)) A_w_A.1).2
  have el_250 := (elem_in (eqv_i (Term.int_eval (8482818 : Int32)) (Cond.before_iff.mp (ow hsets 267 rfl))) ev_w_A (Term.int_eval (250 : Int32)) A_w_A.1).2
  have el_251 := (elem_in (eqv_i (Term.int_eval (8482818 : Int32)) (Cond.before_iff.mp (ow hsets 268 rfl))) ev_w_A (Term.int_eval (251 : Int32)) A_w_A.1).2
  have el_252 := (elem_in (eqv_i (Term.int_eval (8482818 : Int32)) (Cond.before_iff.mp (ow hsets 269 rfl))) ev_w_A (Term.int_eval (252 : Int32)) A_w_A.1).2
  have el_253 := (elem_in (eqv_i (Term.int_eval (8482818 : Int32)) (Cond.before_iff.mp (ow hsets 270 rfl))) ev_w_A (Term.int_eval (253 : Int32)) A_w_A.1).2
  have el_254 := (elem_in (eqv_i (Term.int_eval (8482818 : Int32)) (Cond.before_iff.mp (ow hsets 271 rfl))) ev_w_A (Term.int_eval (254 : Int32)) A_w_A.1).2
  have el_255 := (elem_in (eqv_i (Term.int_eval (102592514 : Int32)) (Cond.before_iff.mp (ow hsets 272 rfl))) ev_w_A (Term.int_eval (255 : Int32)) A_w_A.1).2
  have V_w_A : Arv s s.heap w_A c_A.cls .int (256 : Int32) oTab (.int (0 : Int32)) := Arv.start hfit A_w_A l_w_A q_w_A (by decide) (by decide +kernel) ⟨el_0, el_1, el_2, el_3, el_4, el_5, el_6, el_7, el_8, el_9, el_10, el_11, el_12, el_13, el_14, el_15, el_16, el_17, el_18, el_19, el_20, el_21, el_22, el_23, el_24, el_25, el_26, el_27, el_28, el_29, el_30, el_31, el_32, el_33, el_34, el_35, el_36, el_37, el_38, el_39, el_40, el_41, el_42, el_43, el_44, el_45, el_46, el_47, el_48, el_49, el_50, el_51, el_52, el_53, el_54, el_55, el_56, el_57, el_58, el_59, el_60, el_61, el_62, el_63, el_64, el_65, el_66, el_67, el_68, el_69, el_70, el_71, el_72, el_73, el_74, el_75, el_76, el_77, el_78, el_79, el_80, el_81, el_82, el_83, el_84, el_85, el_86, el_87, el_88, el_89, el_90, el_91, el_92, el_93, el_94, el_95, el_96, el_97, el_98, el_99, el_100, el_101, el_102, el_103, el_104, el_105, el_106, el_107, el_108, el_109, el_110, el_111, el_112, el_113, el_114, el_115, el_116, el_117, el_118, el_119, el_120, el_121, el_122, el_123, el_124, el_125, el_126, el_127, el_128, el_129, el_130, el_131, el_132, el_133, el_134, el_135, el_136, el_137, el_138, el_139, el_140, el_141, el_142, el_143, el_144, el_145, el_146, el_147, el_148, el_149, el_150, el_151, el_152, el_153, el_154, el_155, el_156, el_157, el_158, el_159, el_160, el_161, el_162, el_163, el_164, el_165, el_166, el_167, el_168, el_169, el_170, el_171, el_172, el_173, el_174, el_175, el_176, el_177, el_178, el_179, el_180, el_181, el_182, el_183, el_184, el_185, el_186, el_187, el_188, el_189, el_190, el_191, el_192, el_193, el_194, el_195, el_196, el_197, el_198, el_199, el_200, el_201, el_202, el_203, el_204, el_205, el_206, el_207, el_208, el_209, el_210, el_211, el_212, el_213, el_214, el_215, el_216, el_217, el_218, el_219, el_220, el_221, el_222, el_223, el_224, el_225, el_226, el_227, el_228, el_229, el_230, el_231, el_232, el_233, el_234, el_235, el_236, el_237, el_238, el_239, el_240, el_241, el_242, el_243, el_244, el_245, el_246, el_247, el_248, el_249, el_250, el_251, el_252, el_253, el_254, el_255, trivial⟩
  obtain ⟨zc, ev_zc⟩ := is_v (Cond.before_iff.mp (ow hsets 1 rfl))
  have S_zc : Sta s s.heap "java/lang/String" "COMPACT_STRINGS" "Z" (.int zc) := Sta.start ev_zc (Or.inl (ow hsets 0 rfl))
  have hzc : ¬ (zc = (0 : Int32)) := gotF (Cond.eq_ints ev_zc (Term.int_eval (0))) (not_v (Cond.before_iff.mp (ow hsets 2 rfl)))
  have hS : St0 s w_instance w_A c_A zc := ⟨S_w_instance, E_w_instance, S_w_A, E_w_A, V_w_A, S_zc, hzc⟩
  obtain ⟨n, o, h1, h2, h3, _, L, rfl, ⟨rfl, N⟩, -, hq⟩ := rm0 l s _ hw tables_1 w_instance w_A c_A zc i0 i1 i2 i3 i4 i5 s.heap s.heap.size (Old.start s) hS p e ha hc hk s m _ below hf ((Spec.applies_iff_loose hf).mp happ).1 ⟨rfl, State.Warmed39.refl s, rfl, CHv.start (own_EW hw) (fun q hq => hcalls.1 q hq) (ow hsets 2 rfl) (ow hw 19 rfl) (ow hw 5 rfl)⟩ trivial
  refine ⟨n, _, h1, h2, h3, hpost _ _ _ _ _ _ ⟨Cond.after_iff.mpr rfl, Cond.after_iff.mpr (eq_i res_at (Term.int_eval (1)) rfl), trivial⟩ ⟨hq.1, hq.2.1, hq.2.2.1, (hq.2.2.2.sift fun y hy => Or.inr (N y hy)).mono (by decide) (by decide)⟩⟩
theorem main_1_1 : Claimed_1_1 := comes_1 fun _ _ _ _ _ _ h hF => ⟨h.1, hF⟩
theorem main_1_2 : Claimed_1_2 := comes_1 fun _ _ _ _ _ _ h hF => ⟨h.2.1, hF⟩
end Jvm.Pilot.@@N@@
namespace Jvm.Pilot.@@N@@
open Jvm Jvm.ClassFile Sem Op Lib Jvm.Free Jvm.Stand Jvm.Pilot.@@N@@.Jvm.D
/-! MADE BY PROGRAM (witnessworld.py) out of the Statement's table words and the real class files: 25 classes; the members and pool entries that the words name. The judged class is class 1, her method 4. -/
namespace start1
open Jvm.ClassFile
def u (s : String) : CpInfo := .utf8 (stringToUtf16 s)
/-- a pool by its gaps: so many unusable entries, then the entry; so many at the end -/
def gap : Nat → List CpInfo → List CpInfo
  | 0, r => r
  | n + 1, r => .unusable :: gap n r
def poolList (es : List (Nat × CpInfo)) (last : Nat) : List CpInfo := es.foldr (fun e r => gap e.1 (e.2 :: r)) (gap last [])
def pool (es : List (Nat × CpInfo)) (last : Nat) : Array CpInfo := ⟨poolList es last⟩
def fileOf (pool : Array CpInfo) (this : Nat) (attrs : Array Attribute := #[]) (ms : Array MethodInfo := #[]) (fl : Nat := 33) (sup : Nat := 0) (ifs : Array Nat := #[]) (fds : Array FieldInfo := #[]) : ClassFile where
  minorVersion := 0
  majorVersion := 65
  constantPool := pool
  accessFlags := fl
  thisClass := this
  superClass := sup
  interfaces := ifs
  fields := fds
  methods := ms
  attributes := attrs
def plain (name : String) (sup : Option ClassId) : Class where
  name := name
  kind := .ordinary
  loader := none
  accessFlags := 33
  super := sup
  interfaces := #[]
  cf := none
  fields := #[]
  methods := #[]
  instanceTypes := #[]
  staticTypes := #[]
  resolved := #[]
  callSites := []
  init := .initialized
  statics := none
  mirror := none

def pool0 : Array CpInfo := pool [(5, u "<init>"), (0, u "()V"), (1, .class_ 10), (1, u "java/lang/Object")] 113

def k0c0 : Code := { maxStack := 0, maxLocals := 1, code := object_method_1_code, exceptionTable := #[], attributes := #[] }
def k0m0 : Method := { name := "<init>", desc := "()V", sig := { parameters := [], returnType := none }, accessFlags := 1, code := some k0c0 }
/-- java/lang/Object -/
def k0 : Class := { plain "java/lang/Object" none with
  accessFlags := 33
  interfaces := #[]
  cf := some (fileOf pool0 8 #[] #[{ accessFlags := 1, nameIndex := 5, descriptorIndex := 6, attributes := #[] }] 33 0 #[] #[])
  fields := #[]
  methods := #[k0m0]
  instanceTypes := #[]
  staticTypes := #[]
  resolved := Array.replicate 124 none
  statics := none }

def pool1 : Array CpInfo := pool [(2, .class_ 4), (1, u "java/lang/Object"), (0, u "<init>"), (0, u "()V"), (0, .class_ 8), (0, u "java/lang/String"), (0, .methodref 7 10), (0, .nameAndType 5 11), (0, u "([C)V"), (0, .methodref 13 14), (0, .class_ 15), (0, .nameAndType 16 17), (0, u "com/example/rigorous_sourcing/rigoroussourcing/domain/RecordReferenceIsEmptyPinLaw"), (0, u "isWs"), (0, u "(C)Z"), (0, .methodref 13 19), (0, .nameAndType 20 21), (0, u "make"), (0, u "(ICC)Ljava/lang/String;"), (0, .methodref 13 23), (0, .nameAndType 24 25), (0, u "blank"), (0, u "(ICC)Z"), (0, .class_ 27), (0, u "com/example/rigorous_sourcing/rigoroussourcing/domain/RecordReference"), (0, .methodref 26 29), (0, .nameAndType 5 30), (0, u "(Ljava/lang/String;Ljava/lang/String;)V"), (0, .methodref 26 32), (0, .nameAndType 33 34), (0, u "isEmpty"), (0, u "()Z"), (3, u "law"), (0, u "(IIIIII)Z")] 2

def k1m0 : Method := { name := "<init>", desc := "()V", sig := { parameters := [], returnType := none }, accessFlags := 2, code := none }
def k1c1 : Code := { maxStack := 2, maxLocals := 1, code := method_2_code, exceptionTable := #[], attributes := #[] }
def k1m1 : Method := { name := "isWs", desc := "(C)Z", sig := { parameters := [.char], returnType := some .boolean }, accessFlags := 10, code := some k1c1 }
def k1c2 : Code := { maxStack := 6, maxLocals := 3, code := method_3_code, exceptionTable := #[], attributes := #[] }
def k1m2 : Method := { name := "make", desc := "(ICC)Ljava/lang/String;", sig := { parameters := [.int, .char, .char], returnType := some (.object "java/lang/String") }, accessFlags := 10, code := some k1c2 }
def k1c3 : Code := { maxStack := 2, maxLocals := 3, code := method_4_code, exceptionTable := #[], attributes := #[] }
def k1m3 : Method := { name := "blank", desc := "(ICC)Z", sig := { parameters := [.int, .char, .char], returnType := some .boolean }, accessFlags := 10, code := some k1c3 }
def k1c4 : Code := { maxStack := 4, maxLocals := 16, code := code, exceptionTable := #[], attributes := #[] }
def k1m4 : Method := { name := "law", desc := "(IIIIII)Z", sig := { parameters := [.int, .int, .int, .int, .int, .int], returnType := some .boolean }, accessFlags := 9, code := some k1c4 }
/-- com/example/rigorous_sourcing/rigoroussourcing/domain/RecordReferenceIsEmptyPinLaw -/
def k1 : Class := { plain "com/example/rigorous_sourcing/rigoroussourcing/domain/RecordReferenceIsEmptyPinLaw" (some 0) with
  accessFlags := 49
  interfaces := #[]
  cf := some (fileOf pool1 13 #[] #[{ accessFlags := 2, nameIndex := 5, descriptorIndex := 6, attributes := #[] }, { accessFlags := 10, nameIndex := 16, descriptorIndex := 17, attributes := #[] }, { accessFlags := 10, nameIndex := 20, descriptorIndex := 21, attributes := #[] }, { accessFlags := 10, nameIndex := 24, descriptorIndex := 25, attributes := #[] }, { accessFlags := 9, nameIndex := 38, descriptorIndex := 39, attributes := #[] }] 49 2 #[] #[])
  fields := #[]
  methods := #[k1m0, k1m1, k1m2, k1m3, k1m4]
  instanceTypes := #[]
  staticTypes := #[]
  resolved := Array.replicate 42 none
  statics := none }

def pool2 : Array CpInfo := pool [(1, .class_ 2), (0, u "java/io/Serializable"), (0, .class_ 4), (0, u "java/lang/Object")] 2

/-- java/io/Serializable -/
def k2 : Class := { plain "java/io/Serializable" (some 0) with
  accessFlags := 1537
  interfaces := #[]
  cf := some (fileOf pool2 1 #[] #[] 1537 3 #[] #[])
  fields := #[]
  methods := #[]
  instanceTypes := #[]
  staticTypes := #[]
  resolved := Array.replicate 7 none
  statics := none }

def pool3 : Array CpInfo := pool [(1, .class_ 2), (0, u "java/lang/Comparable"), (0, .class_ 4), (0, u "java/lang/Object")] 7

/-- java/lang/Comparable -/
def k3 : Class := { plain "java/lang/Comparable" (some 0) with
  accessFlags := 1537
  interfaces := #[]
  cf := some (fileOf pool3 1 #[] #[] 1537 3 #[] #[])
  fields := #[]
  methods := #[]
  instanceTypes := #[]
  staticTypes := #[]
  resolved := Array.replicate 12 none
  statics := none }

def pool4 : Array CpInfo := pool [(2, .class_ 4), (1, u "java/lang/CharSequence"), (42, .class_ 48), (0, u "java/lang/CharSequence$1CodePointIterator"), (10, .class_ 60), (0, u "java/lang/CharSequence$1CharIterator"), (5, .class_ 67), (0, u "java/lang/Object")] 63

/-- java/lang/CharSequence -/
def k4 : Class := { plain "java/lang/CharSequence" (some 0) with
  accessFlags := 1537
  interfaces := #[]
  cf := some (fileOf pool4 2 #[.nestMembers #[47, 59]] #[] 1537 66 #[] #[])
  fields := #[]
  methods := #[]
  instanceTypes := #[]
  staticTypes := #[]
  resolved := Array.replicate 131 none
  statics := none }

def pool5 : Array CpInfo := pool [(1, .class_ 2), (0, u "java/lang/constant/Constable"), (0, .class_ 4), (0, u "java/lang/Object")] 6

/-- java/lang/constant/Constable -/
def k5 : Class := { plain "java/lang/constant/Constable" (some 0) with
  accessFlags := 1537
  interfaces := #[]
  cf := some (fileOf pool5 1 #[] #[] 1537 3 #[] #[])
  fields := #[]
  methods := #[]
  instanceTypes := #[]
  staticTypes := #[]
  resolved := Array.replicate 11 none
  statics := none }

def pool6 : Array CpInfo := pool [(1, .class_ 2), (0, u "java/lang/constant/ConstantDesc"), (0, .class_ 4), (0, u "java/lang/Object")] 32

/-- java/lang/constant/ConstantDesc -/
def k6 : Class := { plain "java/lang/constant/ConstantDesc" (some 0) with
  accessFlags := 1537
  interfaces := #[]
  cf := some (fileOf pool6 1 #[] #[] 1537 3 #[] #[])
  fields := #[]
  methods := #[]
  instanceTypes := #[]
  staticTypes := #[]
  resolved := Array.replicate 37 none
  statics := none }

def pool7 : Array CpInfo := pool [(1, .methodref 2 3), (0, .class_ 4), (0, .nameAndType 5 6), (0, u "java/lang/Object"), (0, u "<init>"), (0, u "()V"), (0, .string 8), (0, u ""), (0, .fieldref 10 11), (0, .class_ 12), (0, .nameAndType 13 14), (0, u "java/lang/String"), (0, u "value"), (0, u "[B"), (0, .fieldref 10 16), (0, .nameAndType 17 18), (0, u "coder"), (0, u "B"), (2, u "hash"), (0, u "I"), (2, u "hashIsZero"), (0, u "Z"), (0, .methodref 10 28), (0, .nameAndType 5 29), (0, u "([CIILjava/lang/Void;)V"), (8, .fieldref 10 39), (0, .nameAndType 40 26), (0, u "COMPACT_STRINGS"), (1, .class_ 44), (1, u "java/lang/StringUTF16"), (0, u "compress"), (1, .methodref 42 48), (0, .nameAndType 49 50), (0, u "coderFromArrayLen"), (0, u "([BI)B"), (56, .class_ 109), (1, u "java/lang/StringLatin1"), (32, u "()Z"), (34, .methodref 42 178), (0, .nameAndType 45 179), (0, u "([CII)[B"), (31, u "([BB)V"), (122, u "()I"), (0, .methodref 10 336), (0, .nameAndType 17 337), (0, u "()B"), (126, u "()Ljava/lang/String;"), (27, .methodref 10 493), (0, .nameAndType 494 142), (0, u "isLatin1"), (10, .methodref 10 506), (0, .nameAndType 507 334), (0, u "length"), (67, .class_ 576), (0, u "java/lang/CharSequence"), (22, u "CASE_INSENSITIVE_ORDER"), (0, u "Ljava/util/Comparator;"), (30, u "([B)I"), (230, u "([B)Ljava/lang/String;"), (1, .methodref 107 865), (0, .nameAndType 866 862), (0, u "strip"), (9, .methodref 10 877), (0, .nameAndType 878 334), (0, u "indexOfNonWhitespace"), (45, .methodref 107 925), (0, .nameAndType 878 631), (26, u "isBlank"), (57, u "([C)V"), (90, u "serialPersistentFields"), (0, u "[Ljava/io/ObjectStreamField;"), (0, .class_ 1104), (0, u "java/lang/String$CaseInsensitiveComparator"), (1, .class_ 1107), (0, u "java/io/Serializable"), (0, .class_ 1109), (0, u "java/lang/Comparable"), (0, .class_ 1111), (0, u "java/lang/constant/Constable"), (0, .class_ 1113), (0, u "java/lang/constant/ConstantDesc"), (2, u "serialVersionUID"), (0, u "J"), (3, u "REPL"), (0, u "C"), (2, u "LATIN1"), (1, u "UTF16")] 323

def k7m0 : Method := { name := "<init>", desc := "()V", sig := { parameters := [], returnType := none }, accessFlags := 1, code := none }
def k7c1 : Code := { maxStack := 5, maxLocals := 2, code := jdk_42_method_3_code, exceptionTable := #[], attributes := #[] }
def k7m1 : Method := { name := "<init>", desc := "([C)V", sig := { parameters := [(.array .char)], returnType := none }, accessFlags := 1, code := some k7c1 }
def k7c2 : Code := { maxStack := 2, maxLocals := 1, code := jdk_42_method_54_code, exceptionTable := #[], attributes := #[] }
def k7m2 : Method := { name := "length", desc := "()I", sig := { parameters := [], returnType := some .int }, accessFlags := 1, code := some k7c2 }
def k7c3 : Code := { maxStack := 1, maxLocals := 2, code := jdk_42_method_114_code, exceptionTable := #[], attributes := #[] }
def k7m3 : Method := { name := "strip", desc := "()Ljava/lang/String;", sig := { parameters := [], returnType := some (.object "java/lang/String") }, accessFlags := 1, code := some k7c3 }
def k7c4 : Code := { maxStack := 2, maxLocals := 1, code := jdk_42_method_117_code, exceptionTable := #[], attributes := #[] }
def k7m4 : Method := { name := "isBlank", desc := "()Z", sig := { parameters := [], returnType := some .boolean }, accessFlags := 1, code := some k7c4 }
def k7c5 : Code := { maxStack := 1, maxLocals := 1, code := jdk_42_method_120_code, exceptionTable := #[], attributes := #[] }
def k7m5 : Method := { name := "indexOfNonWhitespace", desc := "()I", sig := { parameters := [], returnType := some .int }, accessFlags := 2, code := some k7c5 }
def k7c6 : Code := { maxStack := 4, maxLocals := 6, code := jdk_42_method_149_code, exceptionTable := #[], attributes := #[] }
def k7m6 : Method := { name := "<init>", desc := "([CIILjava/lang/Void;)V", sig := { parameters := [(.array .char), .int, .int, (.object "java/lang/Void")], returnType := none }, accessFlags := 2, code := some k7c6 }
def k7c7 : Code := { maxStack := 2, maxLocals := 3, code := jdk_42_method_151_code, exceptionTable := #[], attributes := #[] }
def k7m7 : Method := { name := "<init>", desc := "([BB)V", sig := { parameters := [(.array .byte), .byte], returnType := none }, accessFlags := 0, code := some k7c7 }
def k7c8 : Code := { maxStack := 1, maxLocals := 1, code := jdk_42_method_152_code, exceptionTable := #[], attributes := #[] }
def k7m8 : Method := { name := "coder", desc := "()B", sig := { parameters := [], returnType := some .byte }, accessFlags := 0, code := some k7c8 }
def k7c9 : Code := { maxStack := 1, maxLocals := 1, code := jdk_42_method_154_code, exceptionTable := #[], attributes := #[] }
def k7m9 : Method := { name := "isLatin1", desc := "()Z", sig := { parameters := [], returnType := some .boolean }, accessFlags := 0, code := some k7c9 }
/-- java/lang/String -/
def k7 : Class := { plain "java/lang/String" (some 0) with
  accessFlags := 49
  interfaces := #[2, 3, 4, 5, 6]
  cf := some (fileOf pool7 10 #[.nestMembers #[1103]] #[{ accessFlags := 1, nameIndex := 5, descriptorIndex := 6, attributes := #[] }, { accessFlags := 1, nameIndex := 5, descriptorIndex := 1010, attributes := #[] }, { accessFlags := 1, nameIndex := 507, descriptorIndex := 334, attributes := #[] }, { accessFlags := 1, nameIndex := 866, descriptorIndex := 464, attributes := #[] }, { accessFlags := 1, nameIndex := 952, descriptorIndex := 142, attributes := #[] }, { accessFlags := 2, nameIndex := 878, descriptorIndex := 334, attributes := #[] }, { accessFlags := 2, nameIndex := 5, descriptorIndex := 29, attributes := #[] }, { accessFlags := 0, nameIndex := 5, descriptorIndex := 211, attributes := #[] }, { accessFlags := 0, nameIndex := 17, descriptorIndex := 337, attributes := #[] }, { accessFlags := 0, nameIndex := 494, descriptorIndex := 142, attributes := #[] }] 49 2 #[1106, 1108, 575, 1110, 1112] #[{ accessFlags := 18, nameIndex := 13, descriptorIndex := 14, attributes := #[] }, { accessFlags := 18, nameIndex := 17, descriptorIndex := 18, attributes := #[] }, { accessFlags := 2, nameIndex := 21, descriptorIndex := 22, attributes := #[] }, { accessFlags := 2, nameIndex := 25, descriptorIndex := 26, attributes := #[] }, { accessFlags := 26, nameIndex := 1116, descriptorIndex := 1117, attributes := #[] }, { accessFlags := 24, nameIndex := 40, descriptorIndex := 26, attributes := #[] }, { accessFlags := 26, nameIndex := 1101, descriptorIndex := 1102, attributes := #[] }, { accessFlags := 26, nameIndex := 1121, descriptorIndex := 1122, attributes := #[] }, { accessFlags := 25, nameIndex := 599, descriptorIndex := 600, attributes := #[] }, { accessFlags := 24, nameIndex := 1125, descriptorIndex := 18, attributes := #[] }, { accessFlags := 24, nameIndex := 1127, descriptorIndex := 18, attributes := #[] }])
  fields := #[{ name := "value", type := (.array .byte), accessFlags := 18, slot := 0, constantValue := 0 }, { name := "coder", type := .byte, accessFlags := 18, slot := 1, constantValue := 0 }, { name := "hash", type := .int, accessFlags := 2, slot := 2, constantValue := 0 }, { name := "hashIsZero", type := .boolean, accessFlags := 2, slot := 3, constantValue := 0 }, { name := "serialVersionUID", type := .long, accessFlags := 26, slot := 0, constantValue := 0 }, { name := "COMPACT_STRINGS", type := .boolean, accessFlags := 24, slot := 1, constantValue := 0 }, { name := "serialPersistentFields", type := (.array (.object "java/io/ObjectStreamField")), accessFlags := 26, slot := 2, constantValue := 0 }, { name := "REPL", type := .char, accessFlags := 26, slot := 3, constantValue := 0 }, { name := "CASE_INSENSITIVE_ORDER", type := (.object "java/util/Comparator"), accessFlags := 25, slot := 4, constantValue := 0 }, { name := "LATIN1", type := .byte, accessFlags := 24, slot := 5, constantValue := 0 }, { name := "UTF16", type := .byte, accessFlags := 24, slot := 6, constantValue := 0 }]
  methods := #[k7m0, k7m1, k7m2, k7m3, k7m4, k7m5, k7m6, k7m7, k7m8, k7m9]
  instanceTypes := #[(.array .byte), .byte, .int, .boolean]
  staticTypes := #[.long, .boolean, (.array (.object "java/io/ObjectStreamField")), .char, (.object "java/util/Comparator"), .byte, .byte]
  resolved := Array.replicate 1451 none
  statics := some 0 }

def pool8 : Array CpInfo := pool [(1, .methodref 2 3), (0, .class_ 4), (0, .nameAndType 5 6), (0, u "java/lang/Object"), (0, u "<init>"), (0, u "()V"), (0, .methodref 8 9), (0, .class_ 10), (0, .nameAndType 11 12), (0, u "java/lang/String"), (0, u "isBlank"), (0, u "()Z"), (0, .methodref 8 14), (0, .nameAndType 15 16), (0, u "strip"), (0, u "()Ljava/lang/String;"), (0, .fieldref 18 19), (0, .class_ 20), (0, .nameAndType 21 22), (0, u "com/example/rigorous_sourcing/rigoroussourcing/domain/RecordReference"), (0, u "mId"), (0, u "Ljava/lang/String;"), (0, .fieldref 18 24), (0, .nameAndType 25 22), (0, u "mCode"), (15, u "(Ljava/lang/String;Ljava/lang/String;)V"), (5, u "isEmpty")] 22

def k8c0 : Code := { maxStack := 2, maxLocals := 3, code := prog_21_method_1_code, exceptionTable := #[], attributes := #[] }
def k8m0 : Method := { name := "<init>", desc := "(Ljava/lang/String;Ljava/lang/String;)V", sig := { parameters := [(.object "java/lang/String"), (.object "java/lang/String")], returnType := none }, accessFlags := 1, code := some k8c0 }
def k8c1 : Code := { maxStack := 1, maxLocals := 1, code := prog_21_method_4_code, exceptionTable := #[], attributes := #[] }
def k8m1 : Method := { name := "isEmpty", desc := "()Z", sig := { parameters := [], returnType := some .boolean }, accessFlags := 1, code := some k8c1 }
/-- com/example/rigorous_sourcing/rigoroussourcing/domain/RecordReference -/
def k8 : Class := { plain "com/example/rigorous_sourcing/rigoroussourcing/domain/RecordReference" (some 0) with
  accessFlags := 49
  interfaces := #[]
  cf := some (fileOf pool8 18 #[] #[{ accessFlags := 1, nameIndex := 5, descriptorIndex := 41, attributes := #[] }, { accessFlags := 1, nameIndex := 47, descriptorIndex := 12, attributes := #[] }] 49 2 #[] #[{ accessFlags := 18, nameIndex := 21, descriptorIndex := 22, attributes := #[] }, { accessFlags := 18, nameIndex := 25, descriptorIndex := 22, attributes := #[] }])
  fields := #[{ name := "mId", type := (.object "java/lang/String"), accessFlags := 18, slot := 0, constantValue := 0 }, { name := "mCode", type := (.object "java/lang/String"), accessFlags := 18, slot := 1, constantValue := 0 }]
  methods := #[k8m0, k8m1]
  instanceTypes := #[(.object "java/lang/String"), (.object "java/lang/String")]
  staticTypes := #[]
  resolved := Array.replicate 70 none
  statics := none }

def pool9 : Array CpInfo := pool [(1, .class_ 2), (0, u "java/lang/String"), (1, .class_ 6), (1, u "java/lang/Object"), (0, u "<init>"), (0, u "()V"), (5, .class_ 16), (1, u "java/lang/StringLatin1"), (33, .methodref 14 51), (0, .nameAndType 52 53), (0, u "getChar"), (0, u "([BI)C"), (3, u "([B)I"), (8, .fieldref 67 68), (0, .class_ 69), (0, .nameAndType 70 71), (0, u "java/lang/CharacterDataLatin1"), (0, u "instance"), (0, u "Ljava/lang/CharacterDataLatin1;"), (19, u "(I)Z"), (20, .methodref 1 113), (0, .nameAndType 7 114), (0, u "([BB)V"), (6, u "$assertionsDisabled"), (0, u "Z"), (8, .class_ 133), (1, u "java/util/Arrays"), (61, .nameAndType 196 197), (0, u "newString"), (0, u "([BII)Ljava/lang/String;"), (12, .methodref 14 195), (0, .methodref 67 212), (0, .nameAndType 213 91), (0, u "isWhitespace"), (0, .methodref 14 215), (0, .nameAndType 216 57), (0, u "indexOfNonWhitespace"), (0, .methodref 14 218), (0, .nameAndType 219 57), (0, u "lastIndexOfNonWhitespace"), (1, .class_ 223), (1, u "java/lang/StringLatin1$LinesSpliterator"), (8, .methodref 131 233), (0, .nameAndType 234 235), (0, u "copyOfRange"), (0, u "([BII)[B"), (131, u "([B)Ljava/lang/String;"), (3, u "strip"), (18, .class_ 391), (0, u "java/lang/StringLatin1$CharsSpliterator")] 3

def k9m0 : Method := { name := "<init>", desc := "()V", sig := { parameters := [], returnType := none }, accessFlags := 0, code := none }
def k9c1 : Code := { maxStack := 2, maxLocals := 4, code := jdk_43_method_37_code, exceptionTable := #[], attributes := #[] }
def k9m1 : Method := { name := "indexOfNonWhitespace", desc := "([B)I", sig := { parameters := [(.array .byte)], returnType := some .int }, accessFlags := 9, code := some k9c1 }
def k9c2 : Code := { maxStack := 3, maxLocals := 4, code := jdk_43_method_38_code, exceptionTable := #[], attributes := #[] }
def k9m2 : Method := { name := "lastIndexOfNonWhitespace", desc := "([B)I", sig := { parameters := [(.array .byte)], returnType := some .int }, accessFlags := 9, code := some k9c2 }
def k9c3 : Code := { maxStack := 4, maxLocals := 4, code := jdk_43_method_39_code, exceptionTable := #[], attributes := #[] }
def k9m3 : Method := { name := "strip", desc := "([B)Ljava/lang/String;", sig := { parameters := [(.array .byte)], returnType := some (.object "java/lang/String") }, accessFlags := 9, code := some k9c3 }
def k9c4 : Code := { maxStack := 2, maxLocals := 2, code := jdk_43_method_44_code, exceptionTable := #[], attributes := #[] }
def k9m4 : Method := { name := "getChar", desc := "([BI)C", sig := { parameters := [(.array .byte), .int], returnType := some .char }, accessFlags := 9, code := some k9c4 }
def k9c5 : Code := { maxStack := 6, maxLocals := 3, code := jdk_43_method_47_code, exceptionTable := #[], attributes := #[] }
def k9m5 : Method := { name := "newString", desc := "([BII)Ljava/lang/String;", sig := { parameters := [(.array .byte), .int, .int], returnType := some (.object "java/lang/String") }, accessFlags := 9, code := some k9c5 }
/-- java/lang/StringLatin1 -/
def k9 : Class := { plain "java/lang/StringLatin1" (some 0) with
  accessFlags := 48
  interfaces := #[]
  cf := some (fileOf pool9 14 #[.nestMembers #[390, 221]] #[{ accessFlags := 0, nameIndex := 7, descriptorIndex := 8, attributes := #[] }, { accessFlags := 9, nameIndex := 216, descriptorIndex := 57, attributes := #[] }, { accessFlags := 9, nameIndex := 219, descriptorIndex := 57, attributes := #[] }, { accessFlags := 9, nameIndex := 371, descriptorIndex := 367, attributes := #[] }, { accessFlags := 9, nameIndex := 52, descriptorIndex := 53, attributes := #[] }, { accessFlags := 9, nameIndex := 196, descriptorIndex := 197, attributes := #[] }] 48 4 #[] #[{ accessFlags := 4120, nameIndex := 121, descriptorIndex := 122, attributes := #[] }])
  fields := #[{ name := "$assertionsDisabled", type := .boolean, accessFlags := 4120, slot := 0, constantValue := 0 }]
  methods := #[k9m0, k9m1, k9m2, k9m3, k9m4, k9m5]
  instanceTypes := #[]
  staticTypes := #[.boolean]
  resolved := Array.replicate 395 none
  statics := none }

def pool10 : Array CpInfo := pool [(6, .class_ 8), (1, u "java/lang/Object"), (0, u "<init>"), (0, u "()V"), (1, .class_ 14), (1, u "java/lang/StringUTF16"), (31, u "$assertionsDisabled"), (0, u "Z"), (13, u "HI_BYTE_SHIFT"), (0, u "I"), (2, u "LO_BYTE_SHIFT"), (49, .methodref 12 116), (0, .nameAndType 117 118), (0, u "compress"), (0, u "([CI[BII)I"), (3, u "([CII)[B"), (138, u "coderFromArrayLen"), (0, u "([BI)B"), (106, .class_ 371), (1, u "java/lang/StringUTF16$LinesSpliterator"), (58, u "MAX_LENGTH"), (196, .class_ 628), (0, u "java/lang/StringUTF16$CodePointsSpliterator"), (0, .class_ 630), (0, u "java/lang/StringUTF16$CharsSpliterator")] 4

def k10m0 : Method := { name := "<init>", desc := "()V", sig := { parameters := [], returnType := none }, accessFlags := 0, code := none }
def k10c1 : Code := { maxStack := 2, maxLocals := 2, code := jdk_52_method_15_code, exceptionTable := #[], attributes := #[] }
def k10m1 : Method := { name := "coderFromArrayLen", desc := "([BI)B", sig := { parameters := [(.array .byte), .int], returnType := some .byte }, accessFlags := 8, code := some k10c1 }
def k10c2 : Code := { maxStack := 5, maxLocals := 6, code := jdk_52_method_16_code, exceptionTable := #[], attributes := #[] }
def k10m2 : Method := { name := "compress", desc := "([CII)[B", sig := { parameters := [(.array .char), .int, .int], returnType := some (.array .byte) }, accessFlags := 9, code := some k10c2 }
def k10c3 : Code := { maxStack := 3, maxLocals := 7, code := jdk_52_method_21_code, exceptionTable := #[], attributes := #[] }
def k10m3 : Method := { name := "compress", desc := "([CI[BII)I", sig := { parameters := [(.array .char), .int, (.array .byte), .int, .int], returnType := some .int }, accessFlags := 9, code := some k10c3 }
/-- java/lang/StringUTF16 -/
def k10 : Class := { plain "java/lang/StringUTF16" (some 0) with
  accessFlags := 48
  interfaces := #[]
  cf := some (fileOf pool10 12 #[.nestMembers #[627, 629, 369]] #[{ accessFlags := 0, nameIndex := 9, descriptorIndex := 10, attributes := #[] }, { accessFlags := 8, nameIndex := 261, descriptorIndex := 262, attributes := #[] }, { accessFlags := 9, nameIndex := 117, descriptorIndex := 122, attributes := #[] }, { accessFlags := 9, nameIndex := 117, descriptorIndex := 118, attributes := #[] }] 48 6 #[] #[{ accessFlags := 26, nameIndex := 61, descriptorIndex := 62, attributes := #[] }, { accessFlags := 26, nameIndex := 65, descriptorIndex := 62, attributes := #[] }, { accessFlags := 24, nameIndex := 430, descriptorIndex := 62, attributes := #[] }, { accessFlags := 4120, nameIndex := 46, descriptorIndex := 47, attributes := #[] }])
  fields := #[{ name := "HI_BYTE_SHIFT", type := .int, accessFlags := 26, slot := 0, constantValue := 0 }, { name := "LO_BYTE_SHIFT", type := .int, accessFlags := 26, slot := 1, constantValue := 0 }, { name := "MAX_LENGTH", type := .int, accessFlags := 24, slot := 2, constantValue := 0 }, { name := "$assertionsDisabled", type := .boolean, accessFlags := 4120, slot := 3, constantValue := 0 }]
  methods := #[k10m0, k10m1, k10m2, k10m3]
  instanceTypes := #[]
  staticTypes := #[.int, .int, .int, .boolean]
  resolved := Array.replicate 635 none
  statics := none }

def pool11 : Array CpInfo := pool [(2, .class_ 4), (1, u "java/lang/Object"), (0, u "<init>"), (0, u "()V"), (1, .class_ 10), (1, u "java/lang/CharacterData")] 75

def k11m0 : Method := { name := "<init>", desc := "()V", sig := { parameters := [], returnType := none }, accessFlags := 0, code := none }
/-- java/lang/CharacterData -/
def k11 : Class := { plain "java/lang/CharacterData" (some 0) with
  accessFlags := 1056
  interfaces := #[]
  cf := some (fileOf pool11 8 #[] #[{ accessFlags := 0, nameIndex := 5, descriptorIndex := 6, attributes := #[] }] 1056 2 #[] #[])
  fields := #[]
  methods := #[k11m0]
  instanceTypes := #[]
  staticTypes := #[]
  resolved := Array.replicate 86 none
  statics := none }

def pool12 : Array CpInfo := pool [(1, .fieldref 2 3), (0, .class_ 4), (0, .nameAndType 5 6), (0, u "java/lang/CharacterDataLatin1"), (0, u "A"), (0, u "[I"), (2, u "B"), (0, u "[C"), (3, u "(I)I"), (0, .methodref 2 16), (0, .nameAndType 17 14), (0, u "getProperties"), (3, u "(I)Z"), (5, u "DIGITS"), (0, u "[B"), (8, u "sharpsMap"), (1, .class_ 41), (1, u "java/lang/CharacterData"), (0, u "<init>"), (0, u "()V"), (3, u "instance"), (0, u "Ljava/lang/CharacterDataLatin1;"), (78, u "isWhitespace")] 13

def k12c0 : Code := { maxStack := 2, maxLocals := 4, code := jdk_116_method_1_code, exceptionTable := #[], attributes := #[] }
def k12m0 : Method := { name := "getProperties", desc := "(I)I", sig := { parameters := [.int], returnType := some .int }, accessFlags := 0, code := some k12c0 }
def k12c1 : Code := { maxStack := 2, maxLocals := 3, code := jdk_116_method_26_code, exceptionTable := #[], attributes := #[] }
def k12m1 : Method := { name := "isWhitespace", desc := "(I)Z", sig := { parameters := [.int], returnType := some .boolean }, accessFlags := 0, code := some k12c1 }
def k12m2 : Method := { name := "<init>", desc := "()V", sig := { parameters := [], returnType := none }, accessFlags := 2, code := none }
/-- java/lang/CharacterDataLatin1 -/
def k12 : Class := { plain "java/lang/CharacterDataLatin1" (some 11) with
  accessFlags := 32
  interfaces := #[]
  cf := some (fileOf pool12 2 #[] #[{ accessFlags := 0, nameIndex := 17, descriptorIndex := 14, attributes := #[] }, { accessFlags := 0, nameIndex := 127, descriptorIndex := 21, attributes := #[] }, { accessFlags := 2, nameIndex := 42, descriptorIndex := 43, attributes := #[] }] 32 39 #[] #[{ accessFlags := 26, nameIndex := 27, descriptorIndex := 28, attributes := #[] }, { accessFlags := 8, nameIndex := 37, descriptorIndex := 10, attributes := #[] }, { accessFlags := 24, nameIndex := 47, descriptorIndex := 48, attributes := #[] }, { accessFlags := 24, nameIndex := 5, descriptorIndex := 6, attributes := #[] }, { accessFlags := 24, nameIndex := 9, descriptorIndex := 10, attributes := #[] }])
  fields := #[{ name := "DIGITS", type := (.array .byte), accessFlags := 26, slot := 0, constantValue := 0 }, { name := "sharpsMap", type := (.array .char), accessFlags := 8, slot := 1, constantValue := 0 }, { name := "instance", type := (.object "java/lang/CharacterDataLatin1"), accessFlags := 24, slot := 2, constantValue := 0 }, { name := "A", type := (.array .int), accessFlags := 24, slot := 3, constantValue := 0 }, { name := "B", type := (.array .char), accessFlags := 24, slot := 4, constantValue := 0 }]
  methods := #[k12m0, k12m1, k12m2]
  instanceTypes := #[]
  staticTypes := #[(.array .byte), (.array .char), (.object "java/lang/CharacterDataLatin1"), (.array .int), (.array .char)]
  resolved := Array.replicate 141 none
  statics := some 1 }

def pool13 : Array CpInfo := pool [(2, .class_ 4), (1, u "java/lang/Object"), (0, u "<init>"), (0, u "()V"), (7, .class_ 16), (1, u "java/util/Arrays"), (57, .class_ 76), (1, u "java/util/Arrays$NaturalOrder"), (36, .class_ 115), (1, u "java/util/Arrays$LegacyMergeSort"), (1, u "Z"), (21, u "copyOfRange"), (10, .methodref 151 152), (0, .class_ 153), (0, .nameAndType 154 155), (0, u "java/lang/System"), (0, u "arraycopy"), (0, u "(Ljava/lang/Object;ILjava/lang/Object;II)V"), (148, .methodref 305 306), (0, .class_ 307), (0, .nameAndType 308 309), (0, u "java/lang/Math"), (0, u "min"), (0, u "(II)I"), (29, .methodref 14 340), (0, .nameAndType 341 342), (0, u "copyOfRangeByte"), (0, u "([BII)[B"), (0, .methodref 14 344), (0, .nameAndType 345 346), (0, u "checkLength"), (0, u "(II)V"), (28, .class_ 376), (0, u "java/util/Arrays$ArrayList"), (68, u "$assertionsDisabled"), (269, u "MIN_ARRAY_SORT_GRAN"), (0, u "I"), (2, u "INSERTIONSORT_THRESHOLD"), (255, .class_ 976), (0, u "java/util/Arrays$ArrayItr")] 52

def k13m0 : Method := { name := "<init>", desc := "()V", sig := { parameters := [], returnType := none }, accessFlags := 2, code := none }
def k13c1 : Code := { maxStack := 4, maxLocals := 2, code := jdk_65_method_131_code, exceptionTable := #[], attributes := #[] }
def k13m1 : Method := { name := "checkLength", desc := "(II)V", sig := { parameters := [.int, .int], returnType := none }, accessFlags := 10, code := some k13c1 }
def k13c2 : Code := { maxStack := 3, maxLocals := 3, code := jdk_65_method_132_code, exceptionTable := #[], attributes := #[] }
def k13m2 : Method := { name := "copyOfRange", desc := "([BII)[B", sig := { parameters := [(.array .byte), .int, .int], returnType := some (.array .byte) }, accessFlags := 9, code := some k13c2 }
def k13c3 : Code := { maxStack := 6, maxLocals := 5, code := jdk_65_method_133_code, exceptionTable := #[], attributes := #[] }
def k13m3 : Method := { name := "copyOfRangeByte", desc := "([BII)[B", sig := { parameters := [(.array .byte), .int, .int], returnType := some (.array .byte) }, accessFlags := 10, code := some k13c3 }
/-- java/util/Arrays -/
def k13 : Class := { plain "java/util/Arrays" (some 0) with
  accessFlags := 49
  interfaces := #[]
  cf := some (fileOf pool13 14 #[.nestMembers #[975, 375, 113, 74]] #[{ accessFlags := 2, nameIndex := 5, descriptorIndex := 6, attributes := #[] }, { accessFlags := 10, nameIndex := 345, descriptorIndex := 346, attributes := #[] }, { accessFlags := 9, nameIndex := 139, descriptorIndex := 342, attributes := #[] }, { accessFlags := 10, nameIndex := 341, descriptorIndex := 342, attributes := #[] }] 49 2 #[] #[{ accessFlags := 26, nameIndex := 715, descriptorIndex := 716, attributes := #[] }, { accessFlags := 26, nameIndex := 719, descriptorIndex := 716, attributes := #[] }, { accessFlags := 4120, nameIndex := 445, descriptorIndex := 117, attributes := #[] }])
  fields := #[{ name := "MIN_ARRAY_SORT_GRAN", type := .int, accessFlags := 26, slot := 0, constantValue := 0 }, { name := "INSERTIONSORT_THRESHOLD", type := .int, accessFlags := 26, slot := 1, constantValue := 0 }, { name := "$assertionsDisabled", type := .boolean, accessFlags := 4120, slot := 2, constantValue := 0 }]
  methods := #[k13m0, k13m1, k13m2, k13m3]
  instanceTypes := #[]
  staticTypes := #[.int, .int, .boolean]
  resolved := Array.replicate 1029 none
  statics := none }

def pool14 : Array CpInfo := pool [(1, .class_ 2), (0, u "java/lang/Math"), (1, .class_ 6), (1, u "java/lang/Object"), (0, u "<init>"), (0, u "()V"), (89, .class_ 100), (1, u "java/lang/Math$RandomNumberGeneratorHolder"), (71, u "negativeZeroFloatBits"), (0, u "J"), (2, u "negativeZeroDoubleBits"), (24, u "min"), (43, u "$assertionsDisabled"), (0, u "Z"), (88, u "(II)I"), (2, u "twoToTheDoubleScaleDown"), (0, u "D"), (4, u "twoToTheDoubleScaleUp"), (9, u "E"), (3, u "PI"), (2, u "TAU"), (2, u "DEGREES_TO_RADIANS"), (0, u "RADIANS_TO_DEGREES")] 94

def k14m0 : Method := { name := "<init>", desc := "()V", sig := { parameters := [], returnType := none }, accessFlags := 2, code := none }
def k14c1 : Code := { maxStack := 2, maxLocals := 2, code := jdk_29_method_69_code, exceptionTable := #[], attributes := #[] }
def k14m1 : Method := { name := "min", desc := "(II)I", sig := { parameters := [.int, .int], returnType := some .int }, accessFlags := 9, code := some k14c1 }
/-- java/lang/Math -/
def k14 : Class := { plain "java/lang/Math" (some 0) with
  accessFlags := 49
  interfaces := #[]
  cf := some (fileOf pool14 1 #[.nestMembers #[98]] #[{ accessFlags := 2, nameIndex := 7, descriptorIndex := 8, attributes := #[] }, { accessFlags := 9, nameIndex := 201, descriptorIndex := 335, attributes := #[] }] 49 4 #[] #[{ accessFlags := 25, nameIndex := 354, descriptorIndex := 339, attributes := #[] }, { accessFlags := 25, nameIndex := 358, descriptorIndex := 339, attributes := #[] }, { accessFlags := 25, nameIndex := 361, descriptorIndex := 339, attributes := #[] }, { accessFlags := 26, nameIndex := 364, descriptorIndex := 339, attributes := #[] }, { accessFlags := 26, nameIndex := 365, descriptorIndex := 339, attributes := #[] }, { accessFlags := 26, nameIndex := 172, descriptorIndex := 173, attributes := #[] }, { accessFlags := 26, nameIndex := 176, descriptorIndex := 173, attributes := #[] }, { accessFlags := 8, nameIndex := 344, descriptorIndex := 339, attributes := #[] }, { accessFlags := 8, nameIndex := 338, descriptorIndex := 339, attributes := #[] }, { accessFlags := 4120, nameIndex := 245, descriptorIndex := 246, attributes := #[] }])
  fields := #[{ name := "E", type := .double, accessFlags := 25, slot := 0, constantValue := 0 }, { name := "PI", type := .double, accessFlags := 25, slot := 1, constantValue := 0 }, { name := "TAU", type := .double, accessFlags := 25, slot := 2, constantValue := 0 }, { name := "DEGREES_TO_RADIANS", type := .double, accessFlags := 26, slot := 3, constantValue := 0 }, { name := "RADIANS_TO_DEGREES", type := .double, accessFlags := 26, slot := 4, constantValue := 0 }, { name := "negativeZeroFloatBits", type := .long, accessFlags := 26, slot := 5, constantValue := 0 }, { name := "negativeZeroDoubleBits", type := .long, accessFlags := 26, slot := 6, constantValue := 0 }, { name := "twoToTheDoubleScaleUp", type := .double, accessFlags := 8, slot := 7, constantValue := 0 }, { name := "twoToTheDoubleScaleDown", type := .double, accessFlags := 8, slot := 8, constantValue := 0 }, { name := "$assertionsDisabled", type := .boolean, accessFlags := 4120, slot := 9, constantValue := 0 }]
  methods := #[k14m0, k14m1]
  instanceTypes := #[]
  staticTypes := #[.double, .double, .double, .double, .double, .long, .long, .double, .double, .boolean]
  resolved := Array.replicate 460 none
  statics := none }

def pool15 : Array CpInfo := pool [(2, .class_ 4), (1, u "java/lang/Object"), (0, u "<init>"), (0, u "()V"), (1, .class_ 10), (1, u "java/lang/System"), (0, u "allowSecurityManager"), (0, u "I"), (16, u "cons"), (0, u "Ljava/io/Console;"), (77, .class_ 110), (1, u "java/lang/System$CallersHolder"), (43, u "initialErrStream"), (0, u "Ljava/io/PrintStream;"), (19, u "security"), (0, u "Ljava/lang/SecurityManager;"), (31, .class_ 209), (0, u "java/lang/System$1"), (7, u "props"), (0, u "Ljava/util/Properties;"), (2, u "lineSeparator"), (0, u "Ljava/lang/String;"), (96, .class_ 321), (1, u "java/lang/System$LoggerFinder"), (5, .class_ 328), (0, u "java/lang/System$Logger"), (67, u "err"), (2, u "out"), (91, u "notSupportedJnuEncoding"), (15, u "in"), (17, u "initialIn"), (0, u "Ljava/io/InputStream;"), (35, u "bootLayer"), (0, u "Ljava/lang/ModuleLayer;"), (99, .class_ 664), (0, u "java/lang/System$2"), (9, u "NEVER"), (2, u "MAYBE"), (49, u "arraycopy"), (0, u "(Ljava/lang/Object;ILjava/lang/Object;II)V"), (72, .class_ 802), (0, u "java/lang/System$Logger$Level")] 31

def k15m0 : Method := { name := "<init>", desc := "()V", sig := { parameters := [], returnType := none }, accessFlags := 2, code := none }
def k15m1 : Method := { name := "arraycopy", desc := "(Ljava/lang/Object;ILjava/lang/Object;II)V", sig := { parameters := [(.object "java/lang/Object"), .int, (.object "java/lang/Object"), .int, .int], returnType := none }, accessFlags := 265, code := none }
/-- java/lang/System -/
def k15 : Class := { plain "java/lang/System" (some 0) with
  accessFlags := 49
  interfaces := #[]
  cf := some (fileOf pool15 8 #[.nestMembers #[319, 327, 801, 108, 663, 208]] #[{ accessFlags := 2, nameIndex := 5, descriptorIndex := 6, attributes := #[] }, { accessFlags := 265, nameIndex := 727, descriptorIndex := 728, attributes := #[] }] 49 2 #[] #[{ accessFlags := 25, nameIndex := 507, descriptorIndex := 526, attributes := #[] }, { accessFlags := 25, nameIndex := 399, descriptorIndex := 155, attributes := #[] }, { accessFlags := 25, nameIndex := 396, descriptorIndex := 155, attributes := #[] }, { accessFlags := 10, nameIndex := 525, descriptorIndex := 526, attributes := #[] }, { accessFlags := 26, nameIndex := 674, descriptorIndex := 12, attributes := #[] }, { accessFlags := 26, nameIndex := 677, descriptorIndex := 12, attributes := #[] }, { accessFlags := 10, nameIndex := 11, descriptorIndex := 12, attributes := #[] }, { accessFlags := 74, nameIndex := 175, descriptorIndex := 176, attributes := #[] }, { accessFlags := 10, nameIndex := 491, descriptorIndex := 222, attributes := #[] }, { accessFlags := 74, nameIndex := 29, descriptorIndex := 30, attributes := #[] }, { accessFlags := 74, nameIndex := 154, descriptorIndex := 155, attributes := #[] }, { accessFlags := 10, nameIndex := 217, descriptorIndex := 218, attributes := #[] }, { accessFlags := 10, nameIndex := 221, descriptorIndex := 222, attributes := #[] }, { accessFlags := 8, nameIndex := 562, descriptorIndex := 563, attributes := #[] }])
  fields := #[{ name := "in", type := (.object "java/io/InputStream"), accessFlags := 25, slot := 0, constantValue := 0 }, { name := "out", type := (.object "java/io/PrintStream"), accessFlags := 25, slot := 1, constantValue := 0 }, { name := "err", type := (.object "java/io/PrintStream"), accessFlags := 25, slot := 2, constantValue := 0 }, { name := "initialIn", type := (.object "java/io/InputStream"), accessFlags := 10, slot := 3, constantValue := 0 }, { name := "NEVER", type := .int, accessFlags := 26, slot := 4, constantValue := 0 }, { name := "MAYBE", type := .int, accessFlags := 26, slot := 5, constantValue := 0 }, { name := "allowSecurityManager", type := .int, accessFlags := 10, slot := 6, constantValue := 0 }, { name := "security", type := (.object "java/lang/SecurityManager"), accessFlags := 74, slot := 7, constantValue := 0 }, { name := "notSupportedJnuEncoding", type := (.object "java/lang/String"), accessFlags := 10, slot := 8, constantValue := 0 }, { name := "cons", type := (.object "java/io/Console"), accessFlags := 74, slot := 9, constantValue := 0 }, { name := "initialErrStream", type := (.object "java/io/PrintStream"), accessFlags := 74, slot := 10, constantValue := 0 }, { name := "props", type := (.object "java/util/Properties"), accessFlags := 10, slot := 11, constantValue := 0 }, { name := "lineSeparator", type := (.object "java/lang/String"), accessFlags := 10, slot := 12, constantValue := 0 }, { name := "bootLayer", type := (.object "java/lang/ModuleLayer"), accessFlags := 8, slot := 13, constantValue := 0 }]
  methods := #[k15m0, k15m1]
  instanceTypes := #[]
  staticTypes := #[(.object "java/io/InputStream"), (.object "java/io/PrintStream"), (.object "java/io/PrintStream"), (.object "java/io/InputStream"), .int, .int, .int, (.object "java/lang/SecurityManager"), (.object "java/lang/String"), (.object "java/io/Console"), (.object "java/io/PrintStream"), (.object "java/util/Properties"), (.object "java/lang/String"), (.object "java/lang/ModuleLayer")]
  resolved := Array.replicate 834 none
  statics := none }

def pool16 : Array CpInfo := pool [(9, u "<init>"), (6, .class_ 18), (1, u "java/lang/Object"), (0, u "()V"), (1, .class_ 23), (1, u "jdk/internal/util/ArraysSupport"), (0, u "LOG2_ARRAY_LONG_INDEX_SCALE"), (0, u "I"), (2, u "U"), (0, u "Ljdk/internal/misc/Unsafe;"), (8, u "BIG_ENDIAN"), (0, u "Z"), (8, u "LOG2_BYTE_BIT_SIZE"), (4, u "LOG2_ARRAY_INT_INDEX_SCALE"), (54, u "JLA"), (0, u "Ljdk/internal/access/JavaLangAccess;"), (11, u "LOG2_ARRAY_BOOLEAN_INDEX_SCALE"), (9, u "LOG2_ARRAY_BYTE_INDEX_SCALE"), (5, u "LOG2_ARRAY_CHAR_INDEX_SCALE"), (5, u "LOG2_ARRAY_SHORT_INDEX_SCALE"), (18, u "LOG2_ARRAY_FLOAT_INDEX_SCALE"), (24, u "LOG2_ARRAY_DOUBLE_INDEX_SCALE"), (89, u "T_BOOLEAN"), (2, u "T_CHAR"), (1, u "T_FLOAT"), (1, u "T_DOUBLE"), (1, u "T_BYTE"), (1, u "T_SHORT"), (1, u "T_INT"), (1, u "T_LONG"), (1, u "SOFT_MAX_ARRAY_LENGTH")] 83

def k16m0 : Method := { name := "<init>", desc := "()V", sig := { parameters := [], returnType := none }, accessFlags := 2, code := none }
/-- jdk/internal/util/ArraysSupport -/
def k16 : Class := { plain "jdk/internal/util/ArraysSupport" (some 0) with
  accessFlags := 33
  interfaces := #[]
  cf := some (fileOf pool16 21 #[] #[{ accessFlags := 2, nameIndex := 9, descriptorIndex := 19, attributes := #[] }] 33 16 #[] #[{ accessFlags := 24, nameIndex := 28, descriptorIndex := 29, attributes := #[] }, { accessFlags := 26, nameIndex := 38, descriptorIndex := 39, attributes := #[] }, { accessFlags := 25, nameIndex := 121, descriptorIndex := 25, attributes := #[] }, { accessFlags := 25, nameIndex := 131, descriptorIndex := 25, attributes := #[] }, { accessFlags := 25, nameIndex := 137, descriptorIndex := 25, attributes := #[] }, { accessFlags := 25, nameIndex := 143, descriptorIndex := 25, attributes := #[] }, { accessFlags := 25, nameIndex := 53, descriptorIndex := 25, attributes := #[] }, { accessFlags := 25, nameIndex := 24, descriptorIndex := 25, attributes := #[] }, { accessFlags := 25, nameIndex := 162, descriptorIndex := 25, attributes := #[] }, { accessFlags := 25, nameIndex := 187, descriptorIndex := 25, attributes := #[] }, { accessFlags := 26, nameIndex := 48, descriptorIndex := 25, attributes := #[] }, { accessFlags := 25, nameIndex := 277, descriptorIndex := 25, attributes := #[] }, { accessFlags := 25, nameIndex := 280, descriptorIndex := 25, attributes := #[] }, { accessFlags := 25, nameIndex := 282, descriptorIndex := 25, attributes := #[] }, { accessFlags := 25, nameIndex := 284, descriptorIndex := 25, attributes := #[] }, { accessFlags := 25, nameIndex := 286, descriptorIndex := 25, attributes := #[] }, { accessFlags := 25, nameIndex := 288, descriptorIndex := 25, attributes := #[] }, { accessFlags := 25, nameIndex := 290, descriptorIndex := 25, attributes := #[] }, { accessFlags := 25, nameIndex := 292, descriptorIndex := 25, attributes := #[] }, { accessFlags := 26, nameIndex := 108, descriptorIndex := 109, attributes := #[] }, { accessFlags := 25, nameIndex := 294, descriptorIndex := 25, attributes := #[] }])
  fields := #[{ name := "U", type := (.object "jdk/internal/misc/Unsafe"), accessFlags := 24, slot := 0, constantValue := 0 }, { name := "BIG_ENDIAN", type := .boolean, accessFlags := 26, slot := 1, constantValue := 0 }, { name := "LOG2_ARRAY_BOOLEAN_INDEX_SCALE", type := .int, accessFlags := 25, slot := 2, constantValue := 0 }, { name := "LOG2_ARRAY_BYTE_INDEX_SCALE", type := .int, accessFlags := 25, slot := 3, constantValue := 0 }, { name := "LOG2_ARRAY_CHAR_INDEX_SCALE", type := .int, accessFlags := 25, slot := 4, constantValue := 0 }, { name := "LOG2_ARRAY_SHORT_INDEX_SCALE", type := .int, accessFlags := 25, slot := 5, constantValue := 0 }, { name := "LOG2_ARRAY_INT_INDEX_SCALE", type := .int, accessFlags := 25, slot := 6, constantValue := 0 }, { name := "LOG2_ARRAY_LONG_INDEX_SCALE", type := .int, accessFlags := 25, slot := 7, constantValue := 0 }, { name := "LOG2_ARRAY_FLOAT_INDEX_SCALE", type := .int, accessFlags := 25, slot := 8, constantValue := 0 }, { name := "LOG2_ARRAY_DOUBLE_INDEX_SCALE", type := .int, accessFlags := 25, slot := 9, constantValue := 0 }, { name := "LOG2_BYTE_BIT_SIZE", type := .int, accessFlags := 26, slot := 10, constantValue := 0 }, { name := "T_BOOLEAN", type := .int, accessFlags := 25, slot := 11, constantValue := 0 }, { name := "T_CHAR", type := .int, accessFlags := 25, slot := 12, constantValue := 0 }, { name := "T_FLOAT", type := .int, accessFlags := 25, slot := 13, constantValue := 0 }, { name := "T_DOUBLE", type := .int, accessFlags := 25, slot := 14, constantValue := 0 }, { name := "T_BYTE", type := .int, accessFlags := 25, slot := 15, constantValue := 0 }, { name := "T_SHORT", type := .int, accessFlags := 25, slot := 16, constantValue := 0 }, { name := "T_INT", type := .int, accessFlags := 25, slot := 17, constantValue := 0 }, { name := "T_LONG", type := .int, accessFlags := 25, slot := 18, constantValue := 0 }, { name := "JLA", type := (.object "jdk/internal/access/JavaLangAccess"), accessFlags := 26, slot := 19, constantValue := 0 }, { name := "SOFT_MAX_ARRAY_LENGTH", type := .int, accessFlags := 25, slot := 20, constantValue := 0 }]
  methods := #[k16m0]
  instanceTypes := #[]
  staticTypes := #[(.object "jdk/internal/misc/Unsafe"), .boolean, .int, .int, .int, .int, .int, .int, .int, .int, .int, .int, .int, .int, .int, .int, .int, .int, .int, (.object "jdk/internal/access/JavaLangAccess"), .int]
  resolved := Array.replicate 378 none
  statics := some 2 }

def pool17 : Array CpInfo := pool [(2, .class_ 4), (1, u "java/lang/Object"), (0, u "<init>"), (0, u "()V"), (17, .class_ 26), (1, u "jdk/internal/util/Preconditions"), (28, .class_ 56), (0, u "jdk/internal/util/Preconditions$4"), (57, .class_ 115), (0, u "jdk/internal/util/Preconditions$1"), (7, u "SIOOBE_FORMATTER"), (0, u "Ljava/util/function/BiFunction;"), (0, .class_ 126), (0, u "jdk/internal/util/Preconditions$2"), (3, u "AIOOBE_FORMATTER"), (0, .class_ 132), (0, u "jdk/internal/util/Preconditions$3"), (3, u "IOOBE_FORMATTER")] 57

def k17m0 : Method := { name := "<init>", desc := "()V", sig := { parameters := [], returnType := none }, accessFlags := 1, code := none }
/-- jdk/internal/util/Preconditions -/
def k17 : Class := { plain "jdk/internal/util/Preconditions" (some 0) with
  accessFlags := 33
  interfaces := #[]
  cf := some (fileOf pool17 24 #[.nestMembers #[55, 131, 125, 114]] #[{ accessFlags := 1, nameIndex := 5, descriptorIndex := 6, attributes := #[] }] 33 2 #[] #[{ accessFlags := 25, nameIndex := 123, descriptorIndex := 124, attributes := #[] }, { accessFlags := 25, nameIndex := 130, descriptorIndex := 124, attributes := #[] }, { accessFlags := 25, nameIndex := 136, descriptorIndex := 124, attributes := #[] }])
  fields := #[{ name := "SIOOBE_FORMATTER", type := (.object "java/util/function/BiFunction"), accessFlags := 25, slot := 0, constantValue := 0 }, { name := "AIOOBE_FORMATTER", type := (.object "java/util/function/BiFunction"), accessFlags := 25, slot := 1, constantValue := 0 }, { name := "IOOBE_FORMATTER", type := (.object "java/util/function/BiFunction"), accessFlags := 25, slot := 2, constantValue := 0 }]
  methods := #[k17m0]
  instanceTypes := #[]
  staticTypes := #[(.object "java/util/function/BiFunction"), (.object "java/util/function/BiFunction"), (.object "java/util/function/BiFunction")]
  resolved := Array.replicate 194 none
  statics := some 3 }

def pool18 : Array CpInfo := pool [(1, u "java/lang/Cloneable"), (0, .class_ 1), (0, u "java/lang/Object"), (0, .class_ 3)] 3

/-- java/lang/Cloneable -/
def k18 : Class := { plain "java/lang/Cloneable" (some 0) with
  accessFlags := 1537
  interfaces := #[]
  cf := some (fileOf pool18 2 #[] #[] 1537 4 #[] #[])
  fields := #[]
  methods := #[]
  instanceTypes := #[]
  staticTypes := #[]
  resolved := Array.replicate 8 none
  statics := none }

/-- the primitive byte -/
def k19 : Class := { plain "byte" none with kind := .primitive 'B', accessFlags := 0x411 }
/-- [B -/
def k20 : Class := { plain "[B" (some 0) with kind := .array 19 .byte, interfaces := #[18, 2], accessFlags := 1041 }

/-- the primitive char -/
def k21 : Class := { plain "char" none with kind := .primitive 'C', accessFlags := 0x411 }
/-- [C -/
def k22 : Class := { plain "[C" (some 0) with kind := .array 21 .char, interfaces := #[18, 2], accessFlags := 1041 }

/-- the primitive int -/
def k23 : Class := { plain "int" none with kind := .primitive 'I', accessFlags := 0x411 }
/-- [I -/
def k24 : Class := { plain "[I" (some 0) with kind := .array 23 .int, interfaces := #[18, 2], accessFlags := 1041 }

def heap : Heap := #[{ cls := 7, slots := #[.long 0, .int 1, .null, .int 0, .null, .int 0, .int 0], vm := .statics 7 },
  { cls := 12, slots := #[.null, .null, .ref 5, .ref 4, .null], vm := .statics 12 },
  { cls := 16, slots := #[.null, .int 0, .int 0, .int 0, .int 0, .int 0, .int 0, .int 0, .int 0, .int 0, .int 0, .int 0, .int 0, .int 0, .int 0, .int 0, .int 0, .int 0, .int 0, .null, .int 2147483639], vm := .statics 16 },
  { cls := 17, slots := #[.null, .null, .null], vm := .statics 17 },
  { cls := 24, slots := #[.int 1207963663, .int 1207963663, .int 1207963663, .int 1207963663, .int 1207963663, .int 1207963663, .int 1207963663, .int 1207963663, .int 1207963663, .int 1476411407, .int 1342193679, .int 1476411407, .int 1610629135, .int 1342193679, .int 1207963663, .int 1207963663, .int 1207963663, .int 1207963663, .int 1207963663, .int 1207963663, .int 1207963663, .int 1207963663, .int 1207963663, .int 1207963663, .int 1207963663, .int 1207963663, .int 1207963663, .int 1207963663, .int 1342193679, .int 1342193679, .int 1342193679, .int 1476411407, .int 1610629132, .int 1744830488, .int 1744830488, .int 671088664, .int 671113242, .int 671088664, .int 1744830488, .int 1744830488, .int (-402653163), .int (-402653162), .int 1744830488, .int 536870937, .int 939524120, .int 536870932, .int 939524120, .int 939524120, .int 402667017, .int 402667017, .int 402667017, .int 402667017, .int 402667017, .int 402667017, .int 402667017, .int 402667017, .int 402667017, .int 402667017, .int 939524120, .int 1744830488, .int (-402653159), .int 1744830489, .int (-402653159), .int 1744830488, .int 1744830488, .int 8552417, .int 8552417, .int 8552417, .int 8552417, .int 8552417, .int 8552417, .int 8552417, .int 8552417, .int 8552417, .int 8552417, .int 8552417, .int 8552417, .int 8552417, .int 8552417, .int 8552417, .int 8552417, .int 8552417, .int 8552417, .int 8552417, .int 8552417, .int 8552417, .int 8552417, .int 8552417, .int 8552417, .int 8552417, .int 8552417, .int (-402653163), .int 1744830488, .int (-402653162), .int 1744830491, .int 1744850967, .int 1744830491, .int 8486882, .int 8486882, .int 8486882, .int 8486882, .int 8486882, .int 8486882, .int 8486882, .int 8486882, .int 8486882, .int 8486882, .int 8486882, .int 8486882, .int 8486882, .int 8486882, .int 8486882, .int 8486882, .int 8486882, .int 8486882, .int 8486882, .int 8486882, .int 8486882, .int 8486882, .int 8486882, .int 8486882, .int 8486882, .int 8486882, .int (-402653163), .int 1744830489, .int (-402653162), .int 1744830489, .int 1207963663, .int 1207963663, .int 1207963663, .int 1207963663, .int 1207963663, .int 1207963663, .int 1342181391, .int 1207963663, .int 1207963663, .int 1207963663, .int 1207963663, .int 1207963663, .int 1207963663, .int 1207963663, .int 1207963663, .int 1207963663, .int 1207963663, .int 1207963663, .int 1207963663, .int 1207963663, .int 1207963663, .int 1207963663, .int 1207963663, .int 1207963663, .int 1207963663, .int 1207963663, .int 1207963663, .int 1207963663, .int 1207963663, .int 1207963663, .int 1207963663, .int 1207963663, .int 1207963663, .int 939524108, .int 1744830488, .int 671113242, .int 671113242, .int 671113242, .int 671113242, .int 1744830492, .int 1744830488, .int 1744830491, .int 1744830492, .int 28677, .int (-402653155), .int 1744830489, .int 1207963664, .int 1744830492, .int 1744830491, .int 671088668, .int 671088665, .int 402654731, .int 402654731, .int 1744830491, .int 134049794, .int 1744830488, .int 1744830488, .int 1744830491, .int 402654475, .int 28677, .int (-402653154), .int 1744832523, .int 1744832523, .int 1744832523, .int 1744830488, .int 8548353, .int 8548353, .int 8548353, .int 8548353, .int 8548353, .int 8548353, .int 8548353, .int 8548353, .int 8548353, .int 8548353, .int 8548353, .int 8548353, .int 8548353, .int 8548353, .int 8548353, .int 8548353, .int 8548353, .int 8548353, .int 8548353, .int 8548353, .int 8548353, .int 8548353, .int 8548353, .int 1744830489, .int 8548353, .int 8548353, .int 8548353, .int 8548353, .int 8548353, .int 8548353, .int 8548353, .int 134049794, .int 8482818, .int 8482818, .int 8482818, .int 8482818, .int 8482818, .int 8482818, .int 8482818, .int 8482818, .int 8482818, .int 8482818, .int 8482818, .int 8482818, .int 8482818, .int 8482818, .int 8482818, .int 8482818, .int 8482818, .int 8482818, .int 8482818, .int 8482818, .int 8482818, .int 8482818, .int 8482818, .int 1744830489, .int 8482818, .int 8482818, .int 8482818, .int 8482818, .int 8482818, .int 8482818, .int 8482818, .int 102592514], vm := .none },
  { cls := 12, slots := #[], vm := .none }]
def classes : Array Class := #[k0, k1, k2, k3, k4, k5, k6, k7, k8, k9, k10, k11, k12, k13, k14, k15, k16, k17, k18, k19, k20, k21, k22, k23, k24]
def interned : List (Array UInt16 × Addr) := []
def slotsUsed : Nat := 292
def theMethod : MethodId := ⟨1, 4⟩
def args0 : Array Value := #[.int 0, .int 1, .int 2, .int 3, .int 4, .int 5]
def aboutOver (below : List Frame) : State where
  vm := { classes := classes, interned := interned.toArray }
  heap := heap
  slotsUsed := slotsUsed
  threads := #[{ frames := .invoking theMethod args0 :: below }]
def below0 : List Frame := [.native { method := ⟨0, 0⟩, args := #[] }]
def about1 : State := aboutOver below0
def p0 : Program := .bare "" "" ""
def e0 : Env := launch0.env 0 0 0
theorem w_frames : about1.frames = Frame.invoking theMethod args0 :: below0 := rfl
set_option maxRecDepth 65536 in
theorem w_args : argsFit about1.vm theMethod args0 = true := by decide +kernel
set_option maxRecDepth 65536 in
theorem w_heap : heapFits about1 = true := by decide +kernel
set_option maxRecDepth 65536 in
theorem w_runnable : about1.curStatus? = some .runnable := by decide +kernel
set_option maxRecDepth 65536 in
theorem w_alone : about1.alone = true := by decide +kernel
set_option maxRecDepth 65536 in
theorem w_named : about1.methodNamed? x = some theMethod := by decide +kernel
set_option maxRecDepth 65536 in
theorem w_hears : about1.hears theMethod below0 = true := by decide +kernel
set_option maxRecDepth 65536 in
theorem w_ripe : about1.ripe theMethod args0 below0 = true := by decide +kernel
theorem w_running : about1.status = .running := rfl
set_option maxRecDepth 65536 in
theorem w_room : about1.hasRoom e0.platform room_1 = true :=
  launch0.hasRoom_least _ room_1 (by decide +kernel) (by decide +kernel) (by decide +kernel) (by decide +kernel) (by decide +kernel) (by decide +kernel)
theorem allAtoms_all (ts : List Jvm.Cond) (a : Array Jvm.Value) (st : Jvm.State) : (allAtoms ts).before a st = ts.all (fun c => c.before a st) := by
  induction ts with
  | nil => rfl
  | cons c t ih =>
    show (Jvm.Cond.and c (allAtoms t)).before a st = _
    rw [Jvm.Cond.before_and, ih, List.all_cons]
def words1 : List Jvm.Cond := Jvm.Cond.code x code maxLocals ret :: tables_1
/-- a 'code' word, met by the world's own term for the bytes: nothing is compared byte by byte -/
theorem code_word {y : MethodName} {bytes : ByteArray} {mx : Nat} {rt : Option FieldType} {a : Array Value} {s : State} {m : MethodId} {meth : Method} {c : Code} (h1 : s.methodNamed? y = some m) (h2 : s.vm.method? m = some meth) (h3 : meth.code = some c) (h4 : c.code = bytes)
    (h5 : (c.maxLocals == mx && c.exceptionTable.isEmpty && decide (c.maxStack ≤ mostOperands) && decide (meth.sig.returnType = rt) && !meth.locks && decide (parseMethodDescriptor y.desc = some meth.sig)) = true) : (Jvm.Cond.code y bytes mx rt).before a s = true := by
  simp only [Bool.and_eq_true, beq_iff_eq, Bool.not_eq_true', decide_eq_true_eq] at h5
  obtain ⟨⟨⟨⟨⟨g1, g2⟩, g3⟩, g4⟩, g5⟩, g6⟩ := h5
  simp [Cond.before, Cond.holds, Cond.value, h1, h2, h3, h4, g1, g2, g3, g4, g5, g6]
def isCode : Jvm.Cond → Bool
  | .code _ _ _ _ => true
  | _ => false
theorem all_split {L : List Jvm.Cond} {P : Jvm.Cond → Bool} (h1 : L.all (fun c => isCode c || P c) = true) (h2 : ∀ c ∈ L.filter isCode, P c = true) : L.all P = true := by
  refine List.all_eq_true.mpr fun c hc => ?_
  have h := List.all_eq_true.mp h1 c hc
  rcases Bool.eq_false_or_eq_true (isCode c) with hi | hi
  · exact h2 c (List.mem_filter.mpr ⟨hc, hi⟩)
  · simpa [hi] using h
set_option maxRecDepth 65536 in
theorem w_c0 : (Jvm.Cond.code x code maxLocals ret).before args0 about1 = true := code_word (m := ⟨1, 4⟩) (meth := k1m4) (c := k1c4) (by decide +kernel) rfl rfl rfl (by decide +kernel)
set_option maxRecDepth 65536 in
theorem w_c1 : (Jvm.Cond.code ({ cls := "com/example/rigorous_sourcing/rigoroussourcing/domain/RecordReferenceIsEmptyPinLaw", name := "make", desc := "(ICC)Ljava/lang/String;" } : Jvm.MethodName) method_3_code (3 : Nat) (Option.some (Jvm.ClassFile.FieldType.object "java/lang/String"))).before args0 about1 = true := code_word (m := ⟨1, 2⟩) (meth := k1m2) (c := k1c2) (by decide +kernel) rfl rfl rfl (by decide +kernel)
set_option maxRecDepth 65536 in
theorem w_c2 : (Jvm.Cond.code ({ cls := "java/lang/String", name := "<init>", desc := "([C)V" } : Jvm.MethodName) jdk_42_method_3_code (2 : Nat) (Option.none : Option Jvm.ClassFile.FieldType)).before args0 about1 = true := code_word (m := ⟨7, 1⟩) (meth := k7m1) (c := k7c1) (by decide +kernel) rfl rfl rfl (by decide +kernel)
set_option maxRecDepth 65536 in
theorem w_c3 : (Jvm.Cond.code ({ cls := "java/lang/String", name := "<init>", desc := "([CIILjava/lang/Void;)V" } : Jvm.MethodName) jdk_42_method_149_code (6 : Nat) (Option.none : Option Jvm.ClassFile.FieldType)).before args0 about1 = true := code_word (m := ⟨7, 6⟩) (meth := k7m6) (c := k7c6) (by decide +kernel) rfl rfl rfl (by decide +kernel)
set_option maxRecDepth 65536 in
theorem w_c4 : (Jvm.Cond.code ({ cls := "java/lang/Object", name := "<init>", desc := "()V" } : Jvm.MethodName) object_method_1_code (1 : Nat) (Option.none : Option Jvm.ClassFile.FieldType)).before args0 about1 = true := code_word (m := ⟨0, 0⟩) (meth := k0m0) (c := k0c0) (by decide +kernel) rfl rfl rfl (by decide +kernel)
set_option maxRecDepth 65536 in
theorem w_c5 : (Jvm.Cond.code ({ cls := "com/example/rigorous_sourcing/rigoroussourcing/domain/RecordReferenceIsEmptyPinLaw", name := "blank", desc := "(ICC)Z" } : Jvm.MethodName) method_4_code (3 : Nat) (Option.some Jvm.ClassFile.FieldType.boolean)).before args0 about1 = true := code_word (m := ⟨1, 3⟩) (meth := k1m3) (c := k1c3) (by decide +kernel) rfl rfl rfl (by decide +kernel)
set_option maxRecDepth 65536 in
theorem w_c6 : (Jvm.Cond.code ({ cls := "com/example/rigorous_sourcing/rigoroussourcing/domain/RecordReference", name := "<init>", desc := "(Ljava/lang/String;Ljava/lang/String;)V" } : Jvm.MethodName) prog_21_method_1_code (3 : Nat) (Option.none : Option Jvm.ClassFile.FieldType)).before args0 about1 = true := code_word (m := ⟨8, 0⟩) (meth := k8m0) (c := k8c0) (by decide +kernel) rfl rfl rfl (by decide +kernel)
set_option maxRecDepth 65536 in
theorem w_c7 : (Jvm.Cond.code ({ cls := "java/lang/String", name := "isBlank", desc := "()Z" } : Jvm.MethodName) jdk_42_method_117_code (1 : Nat) (Option.some Jvm.ClassFile.FieldType.boolean)).before args0 about1 = true := code_word (m := ⟨7, 4⟩) (meth := k7m4) (c := k7c4) (by decide +kernel) rfl rfl rfl (by decide +kernel)
set_option maxRecDepth 65536 in
theorem w_c8 : (Jvm.Cond.code ({ cls := "java/lang/String", name := "indexOfNonWhitespace", desc := "()I" } : Jvm.MethodName) jdk_42_method_120_code (1 : Nat) (Option.some Jvm.ClassFile.FieldType.int)).before args0 about1 = true := code_word (m := ⟨7, 5⟩) (meth := k7m5) (c := k7c5) (by decide +kernel) rfl rfl rfl (by decide +kernel)
set_option maxRecDepth 65536 in
theorem w_c9 : (Jvm.Cond.code ({ cls := "java/lang/String", name := "isLatin1", desc := "()Z" } : Jvm.MethodName) jdk_42_method_154_code (1 : Nat) (Option.some Jvm.ClassFile.FieldType.boolean)).before args0 about1 = true := code_word (m := ⟨7, 9⟩) (meth := k7m9) (c := k7c9) (by decide +kernel) rfl rfl rfl (by decide +kernel)
set_option maxRecDepth 65536 in
theorem w_c10 : (Jvm.Cond.code ({ cls := "java/lang/StringLatin1", name := "indexOfNonWhitespace", desc := "([B)I" } : Jvm.MethodName) jdk_43_method_37_code (4 : Nat) (Option.some Jvm.ClassFile.FieldType.int)).before args0 about1 = true := code_word (m := ⟨9, 1⟩) (meth := k9m1) (c := k9c1) (by decide +kernel) rfl rfl rfl (by decide +kernel)
set_option maxRecDepth 65536 in
theorem w_c11 : (Jvm.Cond.code ({ cls := "java/lang/String", name := "length", desc := "()I" } : Jvm.MethodName) jdk_42_method_54_code (1 : Nat) (Option.some Jvm.ClassFile.FieldType.int)).before args0 about1 = true := code_word (m := ⟨7, 2⟩) (meth := k7m2) (c := k7c2) (by decide +kernel) rfl rfl rfl (by decide +kernel)
set_option maxRecDepth 65536 in
theorem w_c12 : (Jvm.Cond.code ({ cls := "java/lang/String", name := "coder", desc := "()B" } : Jvm.MethodName) jdk_42_method_152_code (1 : Nat) (Option.some Jvm.ClassFile.FieldType.byte)).before args0 about1 = true := code_word (m := ⟨7, 8⟩) (meth := k7m8) (c := k7c8) (by decide +kernel) rfl rfl rfl (by decide +kernel)
set_option maxRecDepth 65536 in
theorem w_c13 : (Jvm.Cond.code ({ cls := "com/example/rigorous_sourcing/rigoroussourcing/domain/RecordReference", name := "isEmpty", desc := "()Z" } : Jvm.MethodName) prog_21_method_4_code (1 : Nat) (Option.some Jvm.ClassFile.FieldType.boolean)).before args0 about1 = true := code_word (m := ⟨8, 1⟩) (meth := k8m1) (c := k8c1) (by decide +kernel) rfl rfl rfl (by decide +kernel)
set_option maxRecDepth 65536 in
theorem w_c14 : (Jvm.Cond.code ({ cls := "java/lang/StringUTF16", name := "compress", desc := "([CII)[B" } : Jvm.MethodName) jdk_52_method_16_code (6 : Nat) (Option.some (Jvm.ClassFile.FieldType.array Jvm.ClassFile.FieldType.byte))).before args0 about1 = true := code_word (m := ⟨10, 2⟩) (meth := k10m2) (c := k10c2) (by decide +kernel) rfl rfl rfl (by decide +kernel)
set_option maxRecDepth 65536 in
theorem w_c15 : (Jvm.Cond.code ({ cls := "java/lang/StringUTF16", name := "compress", desc := "([CI[BII)I" } : Jvm.MethodName) jdk_52_method_21_code (7 : Nat) (Option.some Jvm.ClassFile.FieldType.int)).before args0 about1 = true := code_word (m := ⟨10, 3⟩) (meth := k10m3) (c := k10c3) (by decide +kernel) rfl rfl rfl (by decide +kernel)
set_option maxRecDepth 65536 in
theorem w_c16 : (Jvm.Cond.code ({ cls := "java/lang/StringUTF16", name := "coderFromArrayLen", desc := "([BI)B" } : Jvm.MethodName) jdk_52_method_15_code (2 : Nat) (Option.some Jvm.ClassFile.FieldType.byte)).before args0 about1 = true := code_word (m := ⟨10, 1⟩) (meth := k10m1) (c := k10c1) (by decide +kernel) rfl rfl rfl (by decide +kernel)
set_option maxRecDepth 65536 in
theorem w_c17 : (Jvm.Cond.code ({ cls := "com/example/rigorous_sourcing/rigoroussourcing/domain/RecordReferenceIsEmptyPinLaw", name := "isWs", desc := "(C)Z" } : Jvm.MethodName) method_2_code (1 : Nat) (Option.some Jvm.ClassFile.FieldType.boolean)).before args0 about1 = true := code_word (m := ⟨1, 1⟩) (meth := k1m1) (c := k1c1) (by decide +kernel) rfl rfl rfl (by decide +kernel)
set_option maxRecDepth 65536 in
theorem w_c18 : (Jvm.Cond.code ({ cls := "java/lang/StringLatin1", name := "getChar", desc := "([BI)C" } : Jvm.MethodName) jdk_43_method_44_code (2 : Nat) (Option.some Jvm.ClassFile.FieldType.char)).before args0 about1 = true := code_word (m := ⟨9, 4⟩) (meth := k9m4) (c := k9c4) (by decide +kernel) rfl rfl rfl (by decide +kernel)
set_option maxRecDepth 65536 in
theorem w_c19 : (Jvm.Cond.code ({ cls := "java/lang/CharacterDataLatin1", name := "isWhitespace", desc := "(I)Z" } : Jvm.MethodName) jdk_116_method_26_code (3 : Nat) (Option.some Jvm.ClassFile.FieldType.boolean)).before args0 about1 = true := code_word (m := ⟨12, 1⟩) (meth := k12m1) (c := k12c1) (by decide +kernel) rfl rfl rfl (by decide +kernel)
set_option maxRecDepth 65536 in
theorem w_c20 : (Jvm.Cond.code ({ cls := "java/lang/CharacterDataLatin1", name := "getProperties", desc := "(I)I" } : Jvm.MethodName) jdk_116_method_1_code (4 : Nat) (Option.some Jvm.ClassFile.FieldType.int)).before args0 about1 = true := code_word (m := ⟨12, 0⟩) (meth := k12m0) (c := k12c0) (by decide +kernel) rfl rfl rfl (by decide +kernel)
set_option maxRecDepth 65536 in
theorem w_c21 : (Jvm.Cond.code ({ cls := "java/lang/String", name := "strip", desc := "()Ljava/lang/String;" } : Jvm.MethodName) jdk_42_method_114_code (2 : Nat) (Option.some (Jvm.ClassFile.FieldType.object "java/lang/String"))).before args0 about1 = true := code_word (m := ⟨7, 3⟩) (meth := k7m3) (c := k7c3) (by decide +kernel) rfl rfl rfl (by decide +kernel)
set_option maxRecDepth 65536 in
theorem w_c22 : (Jvm.Cond.code ({ cls := "java/lang/StringLatin1", name := "strip", desc := "([B)Ljava/lang/String;" } : Jvm.MethodName) jdk_43_method_39_code (4 : Nat) (Option.some (Jvm.ClassFile.FieldType.object "java/lang/String"))).before args0 about1 = true := code_word (m := ⟨9, 3⟩) (meth := k9m3) (c := k9c3) (by decide +kernel) rfl rfl rfl (by decide +kernel)
set_option maxRecDepth 65536 in
theorem w_c23 : (Jvm.Cond.code ({ cls := "java/lang/StringLatin1", name := "lastIndexOfNonWhitespace", desc := "([B)I" } : Jvm.MethodName) jdk_43_method_38_code (4 : Nat) (Option.some Jvm.ClassFile.FieldType.int)).before args0 about1 = true := code_word (m := ⟨9, 2⟩) (meth := k9m2) (c := k9c2) (by decide +kernel) rfl rfl rfl (by decide +kernel)
set_option maxRecDepth 65536 in
theorem w_c24 : (Jvm.Cond.code ({ cls := "java/lang/StringLatin1", name := "newString", desc := "([BII)Ljava/lang/String;" } : Jvm.MethodName) jdk_43_method_47_code (3 : Nat) (Option.some (Jvm.ClassFile.FieldType.object "java/lang/String"))).before args0 about1 = true := code_word (m := ⟨9, 5⟩) (meth := k9m5) (c := k9c5) (by decide +kernel) rfl rfl rfl (by decide +kernel)
set_option maxRecDepth 65536 in
theorem w_c25 : (Jvm.Cond.code ({ cls := "java/util/Arrays", name := "copyOfRange", desc := "([BII)[B" } : Jvm.MethodName) jdk_65_method_132_code (3 : Nat) (Option.some (Jvm.ClassFile.FieldType.array Jvm.ClassFile.FieldType.byte))).before args0 about1 = true := code_word (m := ⟨13, 2⟩) (meth := k13m2) (c := k13c2) (by decide +kernel) rfl rfl rfl (by decide +kernel)
set_option maxRecDepth 65536 in
theorem w_c26 : (Jvm.Cond.code ({ cls := "java/util/Arrays", name := "copyOfRangeByte", desc := "([BII)[B" } : Jvm.MethodName) jdk_65_method_133_code (5 : Nat) (Option.some (Jvm.ClassFile.FieldType.array Jvm.ClassFile.FieldType.byte))).before args0 about1 = true := code_word (m := ⟨13, 3⟩) (meth := k13m3) (c := k13c3) (by decide +kernel) rfl rfl rfl (by decide +kernel)
set_option maxRecDepth 65536 in
theorem w_c27 : (Jvm.Cond.code ({ cls := "java/util/Arrays", name := "checkLength", desc := "(II)V" } : Jvm.MethodName) jdk_65_method_131_code (2 : Nat) (Option.none : Option Jvm.ClassFile.FieldType)).before args0 about1 = true := code_word (m := ⟨13, 1⟩) (meth := k13m1) (c := k13c1) (by decide +kernel) rfl rfl rfl (by decide +kernel)
set_option maxRecDepth 65536 in
theorem w_c28 : (Jvm.Cond.code ({ cls := "java/lang/Math", name := "min", desc := "(II)I" } : Jvm.MethodName) jdk_29_method_69_code (2 : Nat) (Option.some Jvm.ClassFile.FieldType.int)).before args0 about1 = true := code_word (m := ⟨14, 1⟩) (meth := k14m1) (c := k14c1) (by decide +kernel) rfl rfl rfl (by decide +kernel)
set_option maxRecDepth 65536 in
theorem w_c29 : (Jvm.Cond.code ({ cls := "java/lang/String", name := "<init>", desc := "([BB)V" } : Jvm.MethodName) jdk_42_method_151_code (3 : Nat) (Option.none : Option Jvm.ClassFile.FieldType)).before args0 about1 = true := code_word (m := ⟨7, 7⟩) (meth := k7m7) (c := k7c7) (by decide +kernel) rfl rfl rfl (by decide +kernel)
def codes1 : List Jvm.Cond := [Jvm.Cond.code x code maxLocals ret, Jvm.Cond.code ({ cls := "com/example/rigorous_sourcing/rigoroussourcing/domain/RecordReferenceIsEmptyPinLaw", name := "make", desc := "(ICC)Ljava/lang/String;" } : Jvm.MethodName) method_3_code (3 : Nat) (Option.some (Jvm.ClassFile.FieldType.object "java/lang/String")), Jvm.Cond.code ({ cls := "java/lang/String", name := "<init>", desc := "([C)V" } : Jvm.MethodName) jdk_42_method_3_code (2 : Nat) (Option.none : Option Jvm.ClassFile.FieldType), Jvm.Cond.code ({ cls := "java/lang/String", name := "<init>", desc := "([CIILjava/lang/Void;)V" } : Jvm.MethodName) jdk_42_method_149_code (6 : Nat) (Option.none : Option Jvm.ClassFile.FieldType), Jvm.Cond.code ({ cls := "java/lang/Object", name := "<init>", desc := "()V" } : Jvm.MethodName) object_method_1_code (1 : Nat) (Option.none : Option Jvm.ClassFile.FieldType), Jvm.Cond.code ({ cls := "com/example/rigorous_sourcing/rigoroussourcing/domain/RecordReferenceIsEmptyPinLaw", name := "blank", desc := "(ICC)Z" } : Jvm.MethodName) method_4_code (3 : Nat) (Option.some Jvm.ClassFile.FieldType.boolean), Jvm.Cond.code ({ cls := "com/example/rigorous_sourcing/rigoroussourcing/domain/RecordReference", name := "<init>", desc := "(Ljava/lang/String;Ljava/lang/String;)V" } : Jvm.MethodName) prog_21_method_1_code (3 : Nat) (Option.none : Option Jvm.ClassFile.FieldType), Jvm.Cond.code ({ cls := "java/lang/String", name := "isBlank", desc := "()Z" } : Jvm.MethodName) jdk_42_method_117_code (1 : Nat) (Option.some Jvm.ClassFile.FieldType.boolean), Jvm.Cond.code ({ cls := "java/lang/String", name := "indexOfNonWhitespace", desc := "()I" } : Jvm.MethodName) jdk_42_method_120_code (1 : Nat) (Option.some Jvm.ClassFile.FieldType.int), Jvm.Cond.code ({ cls := "java/lang/String", name := "isLatin1", desc := "()Z" } : Jvm.MethodName) jdk_42_method_154_code (1 : Nat) (Option.some Jvm.ClassFile.FieldType.boolean), Jvm.Cond.code ({ cls := "java/lang/StringLatin1", name := "indexOfNonWhitespace", desc := "([B)I" } : Jvm.MethodName) jdk_43_method_37_code (4 : Nat) (Option.some Jvm.ClassFile.FieldType.int), Jvm.Cond.code ({ cls := "java/lang/String", name := "length", desc := "()I" } : Jvm.MethodName) jdk_42_method_54_code (1 : Nat) (Option.some Jvm.ClassFile.FieldType.int), Jvm.Cond.code ({ cls := "java/lang/String", name := "coder", desc := "()B" } : Jvm.MethodName) jdk_42_method_152_code (1 : Nat) (Option.some Jvm.ClassFile.FieldType.byte), Jvm.Cond.code ({ cls := "com/example/rigorous_sourcing/rigoroussourcing/domain/RecordReference", name := "isEmpty", desc := "()Z" } : Jvm.MethodName) prog_21_method_4_code (1 : Nat) (Option.some Jvm.ClassFile.FieldType.boolean), Jvm.Cond.code ({ cls := "java/lang/StringUTF16", name := "compress", desc := "([CII)[B" } : Jvm.MethodName) jdk_52_method_16_code (6 : Nat) (Option.some (Jvm.ClassFile.FieldType.array Jvm.ClassFile.FieldType.byte)), Jvm.Cond.code ({ cls := "java/lang/StringUTF16", name := "compress", desc := "([CI[BII)I" } : Jvm.MethodName) jdk_52_method_21_code (7 : Nat) (Option.some Jvm.ClassFile.FieldType.int), Jvm.Cond.code ({ cls := "java/lang/StringUTF16", name := "coderFromArrayLen", desc := "([BI)B" } : Jvm.MethodName) jdk_52_method_15_code (2 : Nat) (Option.some Jvm.ClassFile.FieldType.byte), Jvm.Cond.code ({ cls := "com/example/rigorous_sourcing/rigoroussourcing/domain/RecordReferenceIsEmptyPinLaw", name := "isWs", desc := "(C)Z" } : Jvm.MethodName) method_2_code (1 : Nat) (Option.some Jvm.ClassFile.FieldType.boolean), Jvm.Cond.code ({ cls := "java/lang/StringLatin1", name := "getChar", desc := "([BI)C" } : Jvm.MethodName) jdk_43_method_44_code (2 : Nat) (Option.some Jvm.ClassFile.FieldType.char), Jvm.Cond.code ({ cls := "java/lang/CharacterDataLatin1", name := "isWhitespace", desc := "(I)Z" } : Jvm.MethodName) jdk_116_method_26_code (3 : Nat) (Option.some Jvm.ClassFile.FieldType.boolean), Jvm.Cond.code ({ cls := "java/lang/CharacterDataLatin1", name := "getProperties", desc := "(I)I" } : Jvm.MethodName) jdk_116_method_1_code (4 : Nat) (Option.some Jvm.ClassFile.FieldType.int), Jvm.Cond.code ({ cls := "java/lang/String", name := "strip", desc := "()Ljava/lang/String;" } : Jvm.MethodName) jdk_42_method_114_code (2 : Nat) (Option.some (Jvm.ClassFile.FieldType.object "java/lang/String")), Jvm.Cond.code ({ cls := "java/lang/StringLatin1", name := "strip", desc := "([B)Ljava/lang/String;" } : Jvm.MethodName) jdk_43_method_39_code (4 : Nat) (Option.some (Jvm.ClassFile.FieldType.object "java/lang/String")), Jvm.Cond.code ({ cls := "java/lang/StringLatin1", name := "lastIndexOfNonWhitespace", desc := "([B)I" } : Jvm.MethodName) jdk_43_method_38_code (4 : Nat) (Option.some Jvm.ClassFile.FieldType.int), Jvm.Cond.code ({ cls := "java/lang/StringLatin1", name := "newString", desc := "([BII)Ljava/lang/String;" } : Jvm.MethodName) jdk_43_method_47_code (3 : Nat) (Option.some (Jvm.ClassFile.FieldType.object "java/lang/String")), Jvm.Cond.code ({ cls := "java/util/Arrays", name := "copyOfRange", desc := "([BII)[B" } : Jvm.MethodName) jdk_65_method_132_code (3 : Nat) (Option.some (Jvm.ClassFile.FieldType.array Jvm.ClassFile.FieldType.byte)), Jvm.Cond.code ({ cls := "java/util/Arrays", name := "copyOfRangeByte", desc := "([BII)[B" } : Jvm.MethodName) jdk_65_method_133_code (5 : Nat) (Option.some (Jvm.ClassFile.FieldType.array Jvm.ClassFile.FieldType.byte)), Jvm.Cond.code ({ cls := "java/util/Arrays", name := "checkLength", desc := "(II)V" } : Jvm.MethodName) jdk_65_method_131_code (2 : Nat) (Option.none : Option Jvm.ClassFile.FieldType), Jvm.Cond.code ({ cls := "java/lang/Math", name := "min", desc := "(II)I" } : Jvm.MethodName) jdk_29_method_69_code (2 : Nat) (Option.some Jvm.ClassFile.FieldType.int), Jvm.Cond.code ({ cls := "java/lang/String", name := "<init>", desc := "([BB)V" } : Jvm.MethodName) jdk_42_method_151_code (3 : Nat) (Option.none : Option Jvm.ClassFile.FieldType)]
set_option maxRecDepth 65536 in
theorem codes_eq : words1.filter isCode = codes1 := rfl
theorem w_codes : ∀ c ∈ words1.filter isCode, c.before args0 about1 = true := by
  rw [codes_eq]
  intro c hc
  simp only [codes1, List.mem_cons, List.not_mem_nil, or_false] at hc
  rcases hc with rfl | rfl | rfl | rfl | rfl | rfl | rfl | rfl | rfl | rfl | rfl | rfl | rfl | rfl | rfl | rfl | rfl | rfl | rfl | rfl | rfl | rfl | rfl | rfl | rfl | rfl | rfl | rfl | rfl | rfl
  · exact w_c0
  · exact w_c1
  · exact w_c2
  · exact w_c3
  · exact w_c4
  · exact w_c5
  · exact w_c6
  · exact w_c7
  · exact w_c8
  · exact w_c9
  · exact w_c10
  · exact w_c11
  · exact w_c12
  · exact w_c13
  · exact w_c14
  · exact w_c15
  · exact w_c16
  · exact w_c17
  · exact w_c18
  · exact w_c19
  · exact w_c20
  · exact w_c21
  · exact w_c22
  · exact w_c23
  · exact w_c24
  · exact w_c25
  · exact w_c26
  · exact w_c27
  · exact w_c28
  · exact w_c29
set_option maxRecDepth 65536 in
theorem w_t1 : (words1.take 24).all (fun c => isCode c || c.before args0 about1) = true := by decide +kernel
set_option maxRecDepth 65536 in
theorem w_t2 : ((words1.drop 24).take 24).all (fun c => isCode c || c.before args0 about1) = true := by decide +kernel
set_option maxRecDepth 65536 in
theorem w_t3 : (((words1.drop 24).drop 24).take 24).all (fun c => isCode c || c.before args0 about1) = true := by decide +kernel
set_option maxRecDepth 65536 in
theorem w_t4 : ((((words1.drop 24).drop 24).drop 24).take 24).all (fun c => isCode c || c.before args0 about1) = true := by decide +kernel
set_option maxRecDepth 65536 in
theorem w_t5 : (((((words1.drop 24).drop 24).drop 24).drop 24).take 24).all (fun c => isCode c || c.before args0 about1) = true := by decide +kernel
set_option maxRecDepth 65536 in
theorem w_t6 : (((((words1.drop 24).drop 24).drop 24).drop 24).drop 24).all (fun c => isCode c || c.before args0 about1) = true := by decide +kernel
theorem w_tables : (allAtoms (Jvm.Cond.code x code maxLocals ret :: tables_1)).before args0 about1 = true := by
  rw [allAtoms_all]
  show words1.all (fun c => c.before args0 about1) = true
  refine all_split ?_ w_codes
  rw [← List.take_append_drop 24 words1, List.all_append, w_t1, ← List.take_append_drop 24 (words1.drop 24), List.all_append, w_t2, ← List.take_append_drop 24 ((words1.drop 24).drop 24), List.all_append, w_t3, ← List.take_append_drop 24 (((words1.drop 24).drop 24).drop 24), List.all_append, w_t4, ← List.take_append_drop 24 ((((words1.drop 24).drop 24).drop 24).drop 24), List.all_append, w_t5, w_t6]
  rfl
set_option maxRecDepth 65536 in
theorem w_rest : rest_1_c.before args0 about1 = true := by decide +kernel
set_option maxRecDepth 65536 in
theorem w_case : (Jvm.Cond.and given_1 narrow_1).before args0 about1 = true := by decide +kernel
set_option maxRecDepth 65536 in
theorem w_consts : constsHeld consts_1 about1 := Jvm.Lit.constsHeldB_iff.mp (by decide +kernel)
theorem w_applies : (headSpec (Jvm.Cond.code x code maxLocals ret :: tables_1) room_1).applies x e0.platform about1 = true :=
  (Spec.applies_iff w_frames).mpr ⟨w_running, w_runnable, w_alone, w_named, w_hears, w_ripe, w_room, w_tables⟩
theorem atStart : AtStart classFile x code maxLocals ret World_1 tables_1 room_1 Calls_1 rest_1 Pre_1 launch0 p0 e0 about1 theMethod args0 below0 :=
  ⟨lists_1, trivial, launch0.admits_env _ _ _, launch0.least_env, fairChoices_fair.cas, fairChoices_fair.clock, w_frames, w_args, w_heap, w_applies, ⟨w_consts, trivial⟩, w_rest, w_case⟩
end start1
theorem witness_1 : WitnessClaimed_1 := ⟨start1.p0, start1.e0, start1.about1, start1.theMethod, start1.args0, start1.below0, start1.atStart⟩
end Jvm.Pilot.@@N@@
