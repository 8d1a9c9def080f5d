import JvmDerived
import JvmDerived.Pilot.@@N@@Statement
import JvmDerived.Pilot.@@N@@Code
set_option linter.unusedVariables false
set_option linter.unusedSimpArgs false
/- laws to paste: Road.backV, Road.codOf (cut by pick.py; bodies as the Statement names them) -/
namespace Jvm.Pilot.@@N@@
namespace StrChars
open Jvm Sem ClassFile Op Lib Jvm.Stand Jvm.Free.XT Jvm.Free.ALB Jvm.Free.JM Jvm.Free
open Jvm.Lib.Cold (StaticIs)
/-- a char array whose places are chars -/
def Ch (a : Addr) (A : Cell) (U : State) : Prop := Arr .char a A U ∧ Typed .char A
theorem Ch.mv {a : Addr} {A : Cell} {U U' : State} (h : Ch a A U) (hal : U.vm.Alike U'.vm) (hh : U'.heap = U.heap) : Ch a A U' := ⟨h.1.mv hal hh, h.2⟩
theorem Ch.keep {a : Addr} {A : Cell} {U U' : State} (h : Ch a A U) (hal : U.vm.Alike U'.vm) (hk : U'.heap[a]? = some A) : Ch a A U' := ⟨h.1.keep hal hk, h.2⟩
/-- what place i of a char[]'s cell holds -/
def cv (A : Cell) (i : Nat) : Int32 := match A.slots[i]? with | some (.int x) => x | _ => 0
theorem Ch.get {a : Addr} {A : Cell} {U : State} (h : Ch a A U) {i : Nat} (hi : i < A.slots.size) : A.slots[i]? = some (.int (cv A i)) := by
  have e := Array.getElem?_eq_getElem hi
  have f := h.2 i _ e
  unfold cv; rw [e]
  generalize A.slots[i] = v at f
  cases v <;> simp [fits] at f ⊢
/-- the byte that i2b leaves of a char -/
def lo8 (x : Int32) : Int32 := x.toInt8.toInt32
theorem fits_lo8 (y : Int32) : fits .byte (.int (lo8 y)) = true := by
  have h1 := y.toInt8.le_toInt
  have h2 := y.toInt8.toInt_lt
  simp only [lo8, fits, Bool.and_eq_true, decide_eq_true_eq, Int32.le_iff_toInt_le, Int8.toInt_toInt32, show (-128 : Int32).toInt = -128 from by decide, show (127 : Int32).toInt = 127 from by decide]
  omega
/-- A' is A but that each place j of lo .. hi - 1 holds f j -/
def Laid (A A' : Cell) (lo hi : Nat) (f : Nat → Value) : Prop := A'.cls = A.cls ∧ A'.vm = A.vm ∧ A'.slots.size = A.slots.size ∧ ∀ i, A'.slots[i]? = if lo ≤ i ∧ i < hi then some (f i) else A.slots[i]?
theorem Laid.zero (A : Cell) (lo : Nat) (f : Nat → Value) : Laid A A lo (lo + 0) f := ⟨rfl, rfl, rfl, fun i => by rw [if_neg (by omega)]⟩
theorem Laid.step {A Ak : Cell} {lo k : Nat} {f : Nat → Value} {v : Value} (h : Laid A Ak lo k f) (hlo : lo ≤ k) (hk : k < Ak.slots.size) (hv : v = f k) : Laid A (Ak.setSlot k v) lo (k + 1) f := by
  refine ⟨h.1, h.2.1, by simpa [Cell.setSlot] using h.2.2.1, fun i => ?_⟩
  by_cases e : k = i
  · subst e; rw [Cell.slots_setSlot_self v hk, if_pos (by omega), hv]
  · rw [Cell.slots_setSlot_ne v e, h.2.2.2 i]
    by_cases q : lo ≤ i ∧ i < k
    · rw [if_pos q, if_pos (by omega)]
    · rw [if_neg q, if_neg (by omega)]
def U16 : String := "java/lang/StringUTF16"
namespace Cmp5
def yN : MethodName := ⟨"java/lang/StringUTF16", "compress", "([CI[BII)I"⟩
abbrev yB : ByteArray := jdk_52_method_21_code
theorem d0 : decode yB 0 = .ok (.iconst 0, 1) := by decide +kernel
theorem d1 : decode yB 1 = .ok (.istore 5, 2) := by decide +kernel
theorem d3 : decode yB 3 = .ok (.iload 5, 2) := by decide +kernel
theorem d5 : decode yB 5 = .ok (.iload 4, 2) := by decide +kernel
theorem d7 : decode yB 7 = .ok (.if_icmp (.ge) 37, 3) := by decide +kernel
theorem d10 : decode yB 10 = .ok (.aload_n 0, 1) := by decide +kernel
theorem d11 : decode yB 11 = .ok (.iload_n 1, 1) := by decide +kernel
theorem d12 : decode yB 12 = .ok (.caload, 1) := by decide +kernel
theorem d13 : decode yB 13 = .ok (.istore 6, 2) := by decide +kernel
theorem d15 : decode yB 15 = .ok (.iload 6, 2) := by decide +kernel
theorem d17 : decode yB 17 = .ok (.sipush 255, 3) := by decide +kernel
theorem d20 : decode yB 20 = .ok (.if_icmp (.le) 6, 3) := by decide +kernel
theorem d26 : decode yB 26 = .ok (.aload_n 2, 1) := by decide +kernel
theorem d27 : decode yB 27 = .ok (.iload_n 3, 1) := by decide +kernel
theorem d28 : decode yB 28 = .ok (.iload 6, 2) := by decide +kernel
theorem d30 : decode yB 30 = .ok (.i2b, 1) := by decide +kernel
theorem d31 : decode yB 31 = .ok (.bastore, 1) := by decide +kernel
theorem d32 : decode yB 32 = .ok (.iinc 1 1, 3) := by decide +kernel
theorem d35 : decode yB 35 = .ok (.iinc 3 1, 3) := by decide +kernel
theorem d38 : decode yB 38 = .ok (.iinc 5 1, 3) := by decide +kernel
theorem d41 : decode yB 41 = .ok (.goto (-38), 3) := by decide +kernel
theorem d44 : decode yB 44 = .ok (.iload 4, 2) := by decide +kernel
theorem d46 : decode yB 46 = .ok (.ireturn, 1) := by decide +kernel
def site : List Cond := []
def tab : Cond := tabOf yN yB 7 (some .int) site
def P (b : Addr) (A : Cell) (d : Addr) (B : Cell) (o q len : Nat) (args : Array Value) (s : State) : Prop := args = #[.ref b, .int (Int32.ofNat o), .ref d, .int (Int32.ofNat q), .int (Int32.ofNat len)] ∧ Ch b A s ∧ Arr .byte d B s ∧ b ≠ d ∧ o + len ≤ A.slots.size ∧ q + len ≤ B.slots.size ∧ ∀ i, i < len → ¬ 255 < cv A (o + i)
def E (b : Addr) (A : Cell) (d : Addr) (B : Cell) (o q len : Nat) (r : Option Value) (s u : State) : Prop := r = some (.int (Int32.ofNat len)) ∧ ∃ B', Put d B' s u ∧ Laid B B' q (q + len) (fun j => Value.int (lo8 (cv A (o + (j - q)))))
/-- no char of the range above 255: len; the places written hold each char's low byte -/
theorem law (l : Launch) (b : Addr) (A : Cell) (d : Addr) (B : Cell) (o q len : Nat) : Law l yN 5 5 0 0 yB 7 (some .int) site (P b A d B o q len) (E b A d B o q len) (copyLocs d q len) 0 0 := by
  refine Law.of_walk (plainFor_of_name (by decide +kernel)) (by decide +kernel) (by decide +kernel) (by decide) (fun _ _ h => by rw [h.1]; rfl) (fun _ U U' hal hh h => ⟨h.1, h.2.1.mv hal hh, h.2.2.1.mv hal hh, h.2.2.2⟩) (fun r U U' V V' h1 hal h2 h => ⟨h.1, h.2.elim fun B' q => ⟨B', q.1.mv h1 h2, q.2⟩⟩) ?_
  intro p e s m args below meth c s₁ X0 hexec hbytes hml hret hlk hnm hown hh0 W hP
  obtain ⟨rfl, hA, hB, hne, l1, l2, hp⟩ := hP
  have c1 : Steps p.tables e below (s₁.setTop (entryFrame m #[.ref b, .int (Int32.ofNat o), .ref d, .int (Int32.ofNat q), .int (Int32.ofNat len)] 7)) (s₁.setTop (mkF m 0 #[.val (.ref b), .val (.int (Int32.ofNat o)), .val (.ref d), .val (.int (Int32.ofNat q)), .val (.int (Int32.ofNat len)), .unset, .unset] [])) := entry rfl
  have hA0 := hA.1.mv X0.warmed.alike hh0
  have hB0 := hB.mv X0.warmed.alike hh0
  have a31 := hA.1.2.2.2
  have c2 : Steps p.tables e below (s₁.setTop (entryFrame m #[.ref b, .int (Int32.ofNat o), .ref d, .int (Int32.ofNat q), .int (Int32.ofNat len)] 7)) (s₁.setTop (mkF m 3 #[.val (.ref b), .val (.int (Int32.ofNat o)), .val (.ref d), .val (.int (Int32.ofNat q)), .val (.int (Int32.ofNat len)), .val (.int 0), .unset] [])) := c1.trans (by
    refine iconstV X0.here hexec rfl 0 (hb hbytes d0) (by decide) ?_
    refine XS.istore X0.here hexec rfl (hb hbytes d1) rfl rfl ?_
    exact Steps.refl _)
  have loop : ∀ (r i : Nat), i + r = len → ∀ (z : Slot), (z = .unset ∨ ∃ w, z = .val w ∧ w.category = 1) → ∀ (Tl : State) (Bk : Cell), Stand p l e { frames := 0, locals := 0, cells := 0, slots := 0 } s m #[.ref b, .int (Int32.ofNat o), .ref d, .int (Int32.ofNat q), .int (Int32.ofNat len)] below meth c Tl ([] ++ copyLocs d q i) 0 0 → Put d Bk s₁ Tl → Laid B Bk q (q + i) (fun j => Value.int (lo8 (cv A (o + (j - q))))) →
      Steps p.tables e below (s₁.setTop (entryFrame m #[.ref b, .int (Int32.ofNat o), .ref d, .int (Int32.ofNat q), .int (Int32.ofNat len)] 7)) (Tl.setTop (mkF m 3 #[.val (.ref b), .val (.int (Int32.ofNat (o + i))), .val (.ref d), .val (.int (Int32.ofNat (q + i))), .val (.int (Int32.ofNat len)), .val (.int (Int32.ofNat i)), z] [])) → ∃ (T' : State) (B' : Cell) (z' : Slot), Stand p l e { frames := 0, locals := 0, cells := 0, slots := 0 } s m #[.ref b, .int (Int32.ofNat o), .ref d, .int (Int32.ofNat q), .int (Int32.ofNat len)] below meth c T' ([] ++ copyLocs d q len) 0 0 ∧ Put d B' s₁ T' ∧ Laid B B' q (q + len) (fun j => Value.int (lo8 (cv A (o + (j - q))))) ∧
      Steps p.tables e below (s₁.setTop (entryFrame m #[.ref b, .int (Int32.ofNat o), .ref d, .int (Int32.ofNat q), .int (Int32.ofNat len)] 7)) (T'.setTop (mkF m 3 #[.val (.ref b), .val (.int (Int32.ofNat (o + len))), .val (.ref d), .val (.int (Int32.ofNat (q + len))), .val (.int (Int32.ofNat len)), .val (.int (Int32.ofNat len)), z'] [])) := by
    intro r
    induction r with
    | zero =>
      intro i hi z hz Tl Bk Xl pl fl cl
      have hil : i = len := by omega
      rw [hil] at Xl fl cl
      exact ⟨Tl, Bk, z, Xl, pl, fl, cl⟩
    | succ r ih =>
      intro i hi z hz Tl Bk Xl pl fl cl
      have all := X0.warmed.alike.symm.trans Xl.warmed.alike
      have hAl := hA0.keep all (pl.other hne hA0.1)
      have hBk := hB0.like all pl.1 fl.1 fl.2.1 fl.2.2.1
      have hlt : q + i < Bk.slots.size := by rw [fl.2.2.1]; omega
      have c3 : Steps p.tables e below (s₁.setTop (entryFrame m #[.ref b, .int (Int32.ofNat o), .ref d, .int (Int32.ofNat q), .int (Int32.ofNat len)] 7)) (Tl.setTop (mkF m 12 #[.val (.ref b), .val (.int (Int32.ofNat (o + i))), .val (.ref d), .val (.int (Int32.ofNat (q + i))), .val (.int (Int32.ofNat len)), .val (.int (Int32.ofNat i)), z] [.int (Int32.ofNat (o + i)), .ref b])) := cl.trans (by
        refine XS.iload Xl.here hexec rfl (hb hbytes d3) rfl ?_
        refine XS.iload Xl.here hexec rfl (hb hbytes d5) rfl ?_
        refine XS.icmpNo Xl.here hexec rfl (hb hbytes d7) rfl (ii_ge_f (lt32 (by omega) (by omega))) ?_
        refine XS.aloadN Xl.here hexec rfl (hb hbytes d10) rfl rfl ?_
        refine XS.iloadN Xl.here hexec rfl (hb hbytes d11) rfl ?_
        exact Steps.refl _)
      have c4 : Steps p.tables e below (s₁.setTop (entryFrame m #[.ref b, .int (Int32.ofNat o), .ref d, .int (Int32.ofNat q), .int (Int32.ofNat len)] 7)) (Tl.setTop (mkF m 13 #[.val (.ref b), .val (.int (Int32.ofNat (o + i))), .val (.ref d), .val (.int (Int32.ofNat (q + i))), .val (.int (Int32.ofNat len)), .val (.int (Int32.ofNat i)), z] [.int (cv A (o + i))])) := c3.trans (by
        refine Xl.aget hexec hAl rfl (hA.get (i := o + i) (by omega)) rfl rfl (hb hbytes d12) ?_
        exact Steps.refl _)
      have c5 : Steps p.tables e below (s₁.setTop (entryFrame m #[.ref b, .int (Int32.ofNat o), .ref d, .int (Int32.ofNat q), .int (Int32.ofNat len)] 7)) (Tl.setTop (mkF m 15 #[.val (.ref b), .val (.int (Int32.ofNat (o + i))), .val (.ref d), .val (.int (Int32.ofNat (q + i))), .val (.int (Int32.ofNat len)), .val (.int (Int32.ofNat i)), .val (.int (cv A (o + i)))] [])) := c4.trans (by
        refine XS.istoreS Xl.here hexec rfl (hb hbytes d13) rfl rfl hz ?_
        exact Steps.refl _)
      have c6 : Steps p.tables e below (s₁.setTop (entryFrame m #[.ref b, .int (Int32.ofNat o), .ref d, .int (Int32.ofNat q), .int (Int32.ofNat len)] 7)) (Tl.setTop (mkF m 31 #[.val (.ref b), .val (.int (Int32.ofNat (o + i))), .val (.ref d), .val (.int (Int32.ofNat (q + i))), .val (.int (Int32.ofNat len)), .val (.int (Int32.ofNat i)), .val (.int (cv A (o + i)))] [.int (lo8 (cv A (o + i))), .int (Int32.ofNat (q + i)), .ref d])) := c5.trans (by
        refine XS.iload Xl.here hexec rfl (hb hbytes d15) rfl ?_
        refine sipushV Xl.here hexec rfl 255 (hb hbytes d17) (by decide) ?_
        refine XS.icmpYes Xl.here hexec rfl (pc0 := 20) rfl (hb hbytes d20) rfl (ii_le_t (hp i (by omega))) (by decide) rfl ?_
        refine XS.aloadN Xl.here hexec rfl (hb hbytes d26) rfl rfl ?_
        refine XS.iloadN Xl.here hexec rfl (hb hbytes d27) rfl ?_
        refine XS.iload Xl.here hexec rfl (hb hbytes d28) rfl ?_
        refine i2b Xl.here hexec rfl (hb hbytes d30) rfl ?_
        exact Steps.refl _)
      obtain ⟨T7, X7, p7, st7⟩ := Xl.aput hexec hBk rfl hlt rfl (fits_lo8 (cv A (o + i))) (g := (mkF m 31 #[.val (.ref b), .val (.int (Int32.ofNat (o + i))), .val (.ref d), .val (.int (Int32.ofNat (q + i))), .val (.int (Int32.ofNat len)), .val (.int (Int32.ofNat i)), .val (.int (cv A (o + i)))] [.int (lo8 (cv A (o + i))), .int (Int32.ofNat (q + i)), .ref d])) rfl (rest := []) rfl (hb hbytes d31)
      have c8 : Steps p.tables e below (s₁.setTop (entryFrame m #[.ref b, .int (Int32.ofNat o), .ref d, .int (Int32.ofNat q), .int (Int32.ofNat len)] 7)) (T7.setTop (mkF m 32 #[.val (.ref b), .val (.int (Int32.ofNat (o + i))), .val (.ref d), .val (.int (Int32.ofNat (q + i))), .val (.int (Int32.ofNat len)), .val (.int (Int32.ofNat i)), .val (.int (cv A (o + i)))] [])) := c6.trans (st7 _ (Steps.refl _))
      have c9 : Steps p.tables e below (s₁.setTop (entryFrame m #[.ref b, .int (Int32.ofNat o), .ref d, .int (Int32.ofNat q), .int (Int32.ofNat len)] 7)) (T7.setTop (mkF m 3 #[.val (.ref b), .val (.int (Int32.ofNat (o + i) + 1)), .val (.ref d), .val (.int (Int32.ofNat (q + i) + 1)), .val (.int (Int32.ofNat len)), .val (.int (Int32.ofNat i + 1)), .val (.int (cv A (o + i)))] [])) := c8.trans (by
        refine iincV X7.here hexec rfl 1 (hb hbytes d32) (by decide) rfl rfl ?_
        refine iincV X7.here hexec rfl 1 (hb hbytes d35) (by decide) rfl rfl ?_
        refine iincV X7.here hexec rfl 1 (hb hbytes d38) (by decide) rfl rfl ?_
        refine XS.goto X7.here hexec rfl (pc0 := 41) rfl (hb hbytes d41) (by decide) rfl ?_
        exact Steps.refl _)
      have c10 : Steps p.tables e below (s₁.setTop (entryFrame m #[.ref b, .int (Int32.ofNat o), .ref d, .int (Int32.ofNat q), .int (Int32.ofNat len)] 7)) (T7.setTop (mkF m 3 #[.val (.ref b), .val (.int (Int32.ofNat (o + (i + 1)))), .val (.ref d), .val (.int (Int32.ofNat (q + (i + 1)))), .val (.int (Int32.ofNat len)), .val (.int (Int32.ofNat (i + 1))), .val (.int (cv A (o + i)))] [])) := by
        have := c9
        rw [succ32, succ32, succ32] at this
        exact this
      exact ih (i + 1) (by omega) _ (Or.inr ⟨_, rfl, rfl⟩) T7 _ (by rw [copyLocs_step, ← List.append_assoc]; exact X7) (pl.trans p7) (fl.step (by omega) hlt (by simp)) c10
  obtain ⟨T9, B9, z9, X9, p9, f9, g9⟩ := loop len 0 (by omega) .unset (Or.inl rfl) s₁ B (by simpa [copyLocs] using X0) ⟨hB0.1, fun _ _ => rfl, rfl⟩ (Laid.zero _ _ _) c2
  have c11 : Steps p.tables e below (s₁.setTop (entryFrame m #[.ref b, .int (Int32.ofNat o), .ref d, .int (Int32.ofNat q), .int (Int32.ofNat len)] 7)) (T9.setTop (mkF m 46 #[.val (.ref b), .val (.int (Int32.ofNat (o + len))), .val (.ref d), .val (.int (Int32.ofNat (q + len))), .val (.int (Int32.ofNat len)), .val (.int (Int32.ofNat len)), z9] [.int (Int32.ofNat len)])) := g9.trans (by
    refine XS.iload X9.here hexec rfl (hb hbytes d3) rfl ?_
    refine XS.iload X9.here hexec rfl (hb hbytes d5) rfl ?_
    refine XS.icmpYes X9.here hexec rfl (pc0 := 7) rfl (hb hbytes d7) rfl (ii_ge_t (nlt32 (by omega) (Nat.le_refl _))) (by decide) rfl ?_
    refine XS.iload X9.here hexec rfl (hb hbytes d44) rfl ?_
    exact Steps.refl _)
  exact ⟨T9, some (.int (Int32.ofNat len)), _, _, _, X9, by simp, rfl, rfl, (fun h => by cases h), ⟨rfl, B9, p9.from hh0, f9⟩, fun fs hl => c11.trans (X9.ireturnOut hexec hret rfl (Or.inl rfl) (hb hbytes d46) hl)⟩
end Cmp5
namespace Cmp3
def yN : MethodName := ⟨"java/lang/StringUTF16", "compress", "([CII)[B"⟩
abbrev yB : ByteArray := jdk_52_method_16_code
theorem d0 : decode yB 0 = .ok (.iload_n 2, 1) := by decide +kernel
theorem d1 : decode yB 1 = .ok (.newarray .byte, 2) := by decide +kernel
theorem d3 : decode yB 3 = .ok (.astore_n 3, 1) := by decide +kernel
theorem d4 : decode yB 4 = .ok (.aload_n 0, 1) := by decide +kernel
theorem d5 : decode yB 5 = .ok (.iload_n 1, 1) := by decide +kernel
theorem d6 : decode yB 6 = .ok (.aload_n 3, 1) := by decide +kernel
theorem d7 : decode yB 7 = .ok (.iconst 0, 1) := by decide +kernel
theorem d8 : decode yB 8 = .ok (.iload_n 2, 1) := by decide +kernel
theorem d9 : decode yB 9 = .ok (.invokestatic 115, 3) := by decide +kernel
theorem d12 : decode yB 12 = .ok (.istore 4, 2) := by decide +kernel
theorem d14 : decode yB 14 = .ok (.iload 4, 2) := by decide +kernel
theorem d16 : decode yB 16 = .ok (.iload_n 2, 1) := by decide +kernel
theorem d17 : decode yB 17 = .ok (.if_icmp (.eq) 40, 3) := by decide +kernel
theorem d57 : decode yB 57 = .ok (.aload_n 3, 1) := by decide +kernel
theorem d58 : decode yB 58 = .ok (.areturn, 1) := by decide +kernel
def site : List Cond := [.arrayClass .byte, Cmp5.tab] ++ staticW U16 115 Cmp5.yN
def tab : Cond := tabOf yN yB 6 (some (.array .byte)) site
def P (b : Addr) (A : Cell) (o len : Nat) (args : Array Value) (s : State) : Prop := args = #[.ref b, .int (Int32.ofNat o), .int (Int32.ofNat len)] ∧ Ch b A s ∧ o + len ≤ A.slots.size ∧ len ≤ 536870912 ∧ ∀ i, i < len → ¬ 255 < cv A (o + i)
def E (b : Addr) (A : Cell) (o len : Nat) (r : Option Value) (s u : State) : Prop := NewArr .byte "[B" len (fun j => .int (lo8 (cv A (o + j)))) r s u ∧ u.heap.size = s.heap.size + 1
/-- no char of the range above 255: a new byte[] of their low bytes -/
theorem law (l : Launch) (b : Addr) (A : Cell) (o len : Nat) : Law l yN 3 3 1 18 yB 6 (some (.array .byte)) site (P b A o len) (E b A o len) [] 1 len := by
  refine Law.of_walk (plainFor_of_name (by decide +kernel)) (by decide +kernel) (by decide +kernel) (by decide) (fun _ _ h => by rw [h.1]; rfl) (fun _ U U' hal hh h => ⟨h.1, h.2.1.mv hal hh, h.2.2⟩) (fun r U U' V V' h1 hal h2 h => ⟨NewArr.mv r U U' V V' h1 hal h2 h.1, by rw [h1, h2]; exact h.2⟩) ?_
  intro p e s m args below meth c s₁ X0 hexec hbytes hml hret hlk hnm hown hh0 W hP
  obtain ⟨rfl, hA, l1, l2, hp⟩ := hP
  have a31 := hA.1.2.2.2
  have c1 : Steps p.tables e below (s₁.setTop (entryFrame m #[.ref b, .int (Int32.ofNat o), .int (Int32.ofNat len)] 6)) (s₁.setTop (mkF m 0 #[.val (.ref b), .val (.int (Int32.ofNat o)), .val (.int (Int32.ofNat len)), .unset, .unset, .unset] [])) := entry rfl
  have c2 : Steps p.tables e below (s₁.setTop (entryFrame m #[.ref b, .int (Int32.ofNat o), .int (Int32.ofNat len)] 6)) (s₁.setTop (mkF m 1 #[.val (.ref b), .val (.int (Int32.ofNat o)), .val (.int (Int32.ofNat len)), .unset, .unset, .unset] [.int (Int32.ofNat len)])) := c1.trans (by
    refine XS.iloadN X0.here hexec rfl (hb hbytes d0) rfl ?_
    exact Steps.refl _)
  obtain ⟨T3, B3, X3, ba3, bs3, bv3, bh3, bf3, st3⟩ := X0.anew hexec (atype := .byte) (wk W (.arrayClass .byte)) rfl (by show len * 1 ≤ _; omega) (by omega) (g := (mkF m 1 #[.val (.ref b), .val (.int (Int32.ofNat o)), .val (.int (Int32.ofNat len)), .unset, .unset, .unset] [.int (Int32.ofNat len)])) rfl (hb hbytes d1) (rest := []) rfl (Nat.le_refl _) (by show 0 + len ≤ len; omega)
  rw [hh0] at ba3 st3
  have kp3 : XT.Kept s T3 := (XT.Kept.of_eq hh0).push bh3
  have hA3 := hA.keep X3.warmed.alike (kp3 _ _ hA.1.1)
  have hne : b ≠ s.heap.size := hA.1.ne
  have c4 : Steps p.tables e below (s₁.setTop (entryFrame m #[.ref b, .int (Int32.ofNat o), .int (Int32.ofNat len)] 6)) (T3.setTop (mkF m 3 #[.val (.ref b), .val (.int (Int32.ofNat o)), .val (.int (Int32.ofNat len)), .unset, .unset, .unset] [.ref s.heap.size])) := c2.trans (st3 _ (Steps.refl _))
  have c5 : Steps p.tables e below (s₁.setTop (entryFrame m #[.ref b, .int (Int32.ofNat o), .int (Int32.ofNat len)] 6)) (T3.setTop (mkF m 9 #[.val (.ref b), .val (.int (Int32.ofNat o)), .val (.int (Int32.ofNat len)), .val (.ref s.heap.size), .unset, .unset] [.int (Int32.ofNat len), .int 0, .ref s.heap.size, .int (Int32.ofNat o), .ref b])) := c4.trans (by
    refine XS.astoreN X3.here hexec rfl (hb hbytes d3) rfl rfl rfl ?_
    refine XS.aloadN X3.here hexec rfl (hb hbytes d4) rfl rfl ?_
    refine XS.iloadN X3.here hexec rfl (hb hbytes d5) rfl ?_
    refine XS.aloadN X3.here hexec rfl (hb hbytes d6) rfl rfl ?_
    refine iconstV X3.here hexec rfl 0 (hb hbytes d7) (by decide) ?_
    refine XS.iloadN X3.here hexec rfl (hb hbytes d8) rfl ?_
    exact Steps.refl _)
  obtain ⟨v6, T6, X6, E6, g6⟩ := X3.callS hexec (Cmp5.law l b A s.heap.size B3 o 0 len) hown (wks W (staticW U16 115 Cmp5.yN)) (wk W Cmp5.tab) (W := 0) (Nat.le_of_ble_eq_true rfl) (Nat.le_of_ble_eq_true rfl) (Nat.le_refl _) (by show 0 + len + 0 ≤ len; omega) (g := (mkF m 9 #[.val (.ref b), .val (.int (Int32.ofNat o)), .val (.int (Int32.ofNat len)), .val (.ref s.heap.size), .unset, .unset] [.int (Int32.ofNat len), .int (Int32.ofNat 0), .ref s.heap.size, .int (Int32.ofNat o), .ref b])) rfl (by rw [hml]; rfl) c5 (argsL := [.ref b, .int (Int32.ofNat o), .ref s.heap.size, .int (Int32.ofNat 0), .int (Int32.ofNat len)]) (rest := []) rfl rfl (by show 2 * 0 + 0 ≤ _; decide) (hb hbytes d9) (⟨rfl, hA3, ba3, hne, l1, by rw [bs3]; simp, hp⟩)
  obtain ⟨rfl, B6, p6, f6⟩ := E6
  have c7 : Steps p.tables e below (s₁.setTop (entryFrame m #[.ref b, .int (Int32.ofNat o), .int (Int32.ofNat len)] 6)) (T6.setTop (mkF m 12 #[.val (.ref b), .val (.int (Int32.ofNat o)), .val (.int (Int32.ofNat len)), .val (.ref s.heap.size), .unset, .unset] [.int (Int32.ofNat len)])) := g6
  have c8 : Steps p.tables e below (s₁.setTop (entryFrame m #[.ref b, .int (Int32.ofNat o), .int (Int32.ofNat len)] 6)) (T6.setTop (mkF m 58 #[.val (.ref b), .val (.int (Int32.ofNat o)), .val (.int (Int32.ofNat len)), .val (.ref s.heap.size), .val (.int (Int32.ofNat len)), .unset] [.ref s.heap.size])) := c7.trans (by
    refine XS.istore X6.here hexec rfl (hb hbytes d12) rfl rfl ?_
    refine XS.iload X6.here hexec rfl (hb hbytes d14) rfl ?_
    refine XS.iloadN X6.here hexec rfl (hb hbytes d16) rfl ?_
    refine XS.icmpYes X6.here hexec rfl (pc0 := 17) rfl (hb hbytes d17) rfl (ii_eq_t rfl) (by decide) rfl ?_
    refine XS.aloadN X6.here hexec rfl (hb hbytes d57) rfl rfl ?_
    exact Steps.refl _)
  have X8 := X6.wide (L' := []) (cells' := 1) (slots' := len) (fun x hx hlt => by
    simp only [List.nil_append, copyLocs, List.mem_map, List.mem_range] at hx
    obtain ⟨i, -, rfl⟩ := hx
    exact absurd hlt (Nat.lt_irrefl _)) (Nat.le_refl _) (by omega)
  exact ⟨T6, some (.ref s.heap.size), _, _, _, X8, rfl, rfl, rfl, (fun h => by cases h), ⟨⟨rfl, B6, ba3.like (X3.warmed.alike.symm.trans X6.warmed.alike) p6.1 f6.1 f6.2.1 f6.2.2.1, f6.2.1.trans bv3, by rw [X6.warmed.alike.findClass, f6.1]; exact bf3, by rw [f6.2.2.1, bs3]; simp, fun j hj => by rw [f6.2.2.2 j, if_pos (by omega)]; rfl, kp3.put p6 (Nat.le_refl _)⟩, by rw [p6.2.2, bh3, hh0]; simp⟩, fun fs hl => c8.trans (X8.areturnOut hexec rfl hret rfl (hb hbytes d58) hl)⟩
end Cmp3
namespace CodL
def yN : MethodName := ⟨"java/lang/StringUTF16", "coderFromArrayLen", "([BI)B"⟩
abbrev yB : ByteArray := jdk_52_method_15_code
theorem d0 : decode yB 0 = .ok (.iload_n 1, 1) := by decide +kernel
theorem d1 : decode yB 1 = .ok (.aload_n 0, 1) := by decide +kernel
theorem d2 : decode yB 2 = .ok (.arraylength, 1) := by decide +kernel
theorem d3 : decode yB 3 = .ok (.isub, 1) := by decide +kernel
theorem d4 : decode yB 4 = .ok (.bipush 31, 2) := by decide +kernel
theorem d6 : decode yB 6 = .ok (.iushr, 1) := by decide +kernel
theorem d7 : decode yB 7 = .ok (.i2b, 1) := by decide +kernel
theorem d8 : decode yB 8 = .ok (.ireturn, 1) := by decide +kernel
def site : List Cond := []
def tab : Cond := tabOf yN yB 2 (some .byte) site
def P (d : Addr) (B : Cell) (args : Array Value) (s : State) : Prop := args = #[.ref d, .int (Int32.ofNat B.slots.size)] ∧ Arr .byte d B s
def E (r : Option Value) (s u : State) : Prop := XT.PureE (some (.int 0)) r s u
/-- an array as long as the number of chars: LATIN1 -/
theorem law (l : Launch) (d : Addr) (B : Cell) : Law l yN 2 2 0 0 yB 2 (some .byte) site (P d B) E [] 0 0 := by
  refine Law.of_walk (plainFor_of_name (by decide +kernel)) (by decide +kernel) (by decide +kernel) (by decide) (fun _ _ h => by rw [h.1]; rfl) (fun _ U U' hal hh h => ⟨h.1, h.2.mv hal hh⟩) (fun r U U' V V' h1 hal h2 h => XT.PureE.mv r U U' V V' h1 hal h2 h) ?_
  intro p e s m args below meth c s₁ X0 hexec hbytes hml hret hlk hnm hown hh0 W hP
  obtain ⟨rfl, hB⟩ := hP
  have hB0 := hB.mv X0.warmed.alike hh0
  have c1 : Steps p.tables e below (s₁.setTop (entryFrame m #[.ref d, .int (Int32.ofNat B.slots.size)] 2)) (s₁.setTop (mkF m 0 #[.val (.ref d), .val (.int (Int32.ofNat B.slots.size))] [])) := entry rfl
  have c2 : Steps p.tables e below (s₁.setTop (entryFrame m #[.ref d, .int (Int32.ofNat B.slots.size)] 2)) (s₁.setTop (mkF m 2 #[.val (.ref d), .val (.int (Int32.ofNat B.slots.size))] [.ref d, .int (Int32.ofNat B.slots.size)])) := c1.trans (by
    refine XS.iloadN X0.here hexec rfl (hb hbytes d0) rfl ?_
    refine XS.aloadN X0.here hexec rfl (hb hbytes d1) rfl rfl ?_
    exact Steps.refl _)
  have c3 : Steps p.tables e below (s₁.setTop (entryFrame m #[.ref d, .int (Int32.ofNat B.slots.size)] 2)) (s₁.setTop (mkF m 8 #[.val (.ref d), .val (.int (Int32.ofNat B.slots.size))] [.int (lo8 (ushr (Int32.ofNat B.slots.size - Int32.ofNat B.slots.size) 31))])) := c2.trans (by
    refine X0.alen hexec hB0 rfl rfl (hb hbytes d2) ?_
    refine XS.isub X0.here hexec rfl (hb hbytes d3) rfl ?_
    refine bipushV X0.here hexec rfl 31 (hb hbytes d4) (by decide) ?_
    refine iushr X0.here hexec rfl (hb hbytes d6) rfl ?_
    refine i2b X0.here hexec rfl (hb hbytes d7) rfl ?_
    exact Steps.refl _)
  have e0 : lo8 (ushr (Int32.ofNat B.slots.size - Int32.ofNat B.slots.size) 31) = 0 := by rw [Int32.sub_self]; decide
  rw [e0] at c3
  exact ⟨s₁, some (.int 0), _, _, _, X0, rfl, rfl, rfl, (fun h => by cases h), ⟨rfl, hh0⟩, fun fs hl => c3.trans (X0.ireturnOut hexec hret rfl (Or.inr (Or.inr (Or.inl rfl))) (hb hbytes d8) hl)⟩
end CodL
/-- the String at a is Latin-1 over a new byte[] (the heap's one new cell): the low bytes of the len chars of A from o on; every cell but a is kept -/
def Got (a : Addr) (D : Cell) (fV fC : Field) (A : Cell) (o len : Nat) (r : Option Value) (s u : State) : Prop := r = none ∧ ∃ D' V : Cell, Blank "java/lang/String" a D' u ∧ Same D D' [fV.slot, fC.slot] ∧ D'.slots[fV.slot]? = some (.ref s.heap.size) ∧ D'.slots[fC.slot]? = some (.int 0) ∧ Arr .byte s.heap.size V u ∧ V.vm = .none ∧ u.vm.findClass "[B" = some V.cls ∧ V.slots.size = len ∧ (∀ j, j < len → V.slots[j]? = some (.int (lo8 (cv A (o + j))))) ∧ (∀ (y : Addr) (c : Cell), y ≠ a → s.heap[y]? = some c → u.heap[y]? = some c) ∧ u.heap.size = s.heap.size + 1
theorem Got.mv {a : Addr} {D A : Cell} {fV fC : Field} {o len : Nat} : ∀ r (U U' V V' : State), U'.heap = U.heap → V.vm.Alike V'.vm → V'.heap = V.heap → Got a D fV fC A o len r U V → Got a D fV fC A o len r U' V' :=
  fun r U U' V V' h1 hal h2 ⟨e0, D', X, a1, a2, a3, a4, a5, a6, a7, a8, a9, a10, a11⟩ => ⟨e0, D', X, a1.mv hal h2, a2, by rw [h1]; exact a3, a4, by rw [h1]; exact a5.mv hal h2, a6, by rw [hal.findClass]; exact a7, a8, a9, by rw [h1, h2]; exact a10, by rw [h1, h2]; exact a11⟩
namespace New4
def yN : MethodName := ⟨"java/lang/String", "<init>", "([CIILjava/lang/Void;)V"⟩
abbrev yB : ByteArray := jdk_42_method_149_code
theorem d0 : decode yB 0 = .ok (.aload_n 0, 1) := by decide +kernel
theorem d1 : decode yB 1 = .ok (.invokespecial 1, 3) := by decide +kernel
theorem d4 : decode yB 4 = .ok (.iload_n 3, 1) := by decide +kernel
theorem d5 : decode yB 5 = .ok (.ifCond (.ne) 22, 3) := by decide +kernel
theorem d27 : decode yB 27 = .ok (.getstatic 38, 3) := by decide +kernel
theorem d30 : decode yB 30 = .ok (.ifCond (.eq) 28, 3) := by decide +kernel
theorem d33 : decode yB 33 = .ok (.aload_n 1, 1) := by decide +kernel
theorem d34 : decode yB 34 = .ok (.iload_n 2, 1) := by decide +kernel
theorem d35 : decode yB 35 = .ok (.iload_n 3, 1) := by decide +kernel
theorem d36 : decode yB 36 = .ok (.invokestatic 177, 3) := by decide +kernel
theorem d39 : decode yB 39 = .ok (.astore 5, 2) := by decide +kernel
theorem d41 : decode yB 41 = .ok (.aload_n 0, 1) := by decide +kernel
theorem d42 : decode yB 42 = .ok (.aload 5, 2) := by decide +kernel
theorem d44 : decode yB 44 = .ok (.iload_n 3, 1) := by decide +kernel
theorem d45 : decode yB 45 = .ok (.invokestatic 47, 3) := by decide +kernel
theorem d48 : decode yB 48 = .ok (.putfield 15, 3) := by decide +kernel
theorem d51 : decode yB 51 = .ok (.aload_n 0, 1) := by decide +kernel
theorem d52 : decode yB 52 = .ok (.aload 5, 2) := by decide +kernel
theorem d54 : decode yB 54 = .ok (.putfield 9, 3) := by decide +kernel
theorem d57 : decode yB 57 = .ok (.return_, 1) := by decide +kernel
def site : List Cond := [.fieldLink "java/lang/String" 38 "java/lang/String" "COMPACT_STRINGS" "Z", Cmp3.tab, CodL.tab, .laysFinal "java/lang/String" "java/lang/String" "value" "[B", .fieldLink "java/lang/String" 9 "java/lang/String" "value" "[B", .laysFinal "java/lang/String" "java/lang/String" "coder" "B", .fieldLink "java/lang/String" 15 "java/lang/String" "coder" "B"] ++ objW "java/lang/String" 1 ++ staticW "java/lang/String" 177 Cmp3.yN ++ staticW "java/lang/String" 47 CodL.yN
def tab : Cond := tabOf yN yB 6 none site
def P (a : Addr) (D : Cell) (fV fC : Field) (b : Addr) (A : Cell) (z : Int32) (o len : Nat) (args : Array Value) (s : State) : Prop := args = #[.ref a, .ref b, .int (Int32.ofNat o), .int (Int32.ofNat len), .null] ∧ Blank "java/lang/String" a D s ∧ Found "java/lang/String" "value" "[B" fV s ∧ Found "java/lang/String" "coder" "B" fC s ∧ Ch b A s ∧ StaticIs s "java/lang/String" "COMPACT_STRINGS" "Z" (.int z) ∧ ¬ z = 0 ∧ 0 < len ∧ o + len ≤ A.slots.size ∧ len ≤ 536870912 ∧ ∀ i, i < len → ¬ 255 < cv A (o + i)
def E (a : Addr) (D : Cell) (fV fC : Field) (A : Cell) (o len : Nat) (r : Option Value) (s u : State) : Prop := Got a D fV fC A o len r s u
/-- len > 0, no char of the range above 255: a Latin-1 String of their low bytes -/
theorem law (l : Launch) (a : Addr) (D : Cell) (fV fC : Field) (b : Addr) (A : Cell) (z : Int32) (o len : Nat) : Law l yN 5 4 2 35 yB 6 none site (P a D fV fC b A z o len) (E a D fV fC A o len) [⟨a, fC.slot⟩, ⟨a, fV.slot⟩] 1 len := by
  refine Law.of_walk (plainFor_of_name (by decide +kernel)) (by decide +kernel) (by decide +kernel) (by decide) (fun _ _ h => by rw [h.1]; rfl) (fun _ U U' hal hh h => ⟨h.1, h.2.1.mv hal hh, h.2.2.1.al hal, h.2.2.2.1.al hal, h.2.2.2.2.1.mv hal hh, h.2.2.2.2.2.1.there hal hh, h.2.2.2.2.2.2⟩) (fun r U U' V V' h1 hal h2 h => Got.mv r U U' V V' h1 hal h2 h) ?_
  intro p e s m args below meth c s₁ X0 hexec hbytes hml hret hlk hnm hown hh0 W hP
  obtain ⟨rfl, hB, f1, f2, hA, s1, hz, l0, l1, l2, hp⟩ := hP
  have a31 := hA.1.2.2.2
  have c1 : Steps p.tables e below (s₁.setTop (entryFrame m #[.ref a, .ref b, .int (Int32.ofNat o), .int (Int32.ofNat len), .null] 6)) (s₁.setTop (mkF m 0 #[.val (.ref a), .val (.ref b), .val (.int (Int32.ofNat o)), .val (.int (Int32.ofNat len)), .val .null, .unset] [])) := entry rfl
  have c2 : Steps p.tables e below (s₁.setTop (entryFrame m #[.ref a, .ref b, .int (Int32.ofNat o), .int (Int32.ofNat len), .null] 6)) (s₁.setTop (mkF m 1 #[.val (.ref a), .val (.ref b), .val (.int (Int32.ofNat o)), .val (.int (Int32.ofNat len)), .val .null, .unset] [.ref a])) := c1.trans (by
    refine XS.aloadN X0.here hexec rfl (hb hbytes d0) rfl rfl ?_
    exact Steps.refl _)
  obtain ⟨T3, X3, q3, st3⟩ := X0.oinit hexec hown (wks W (objW "java/lang/String" 1)) (g := (mkF m 1 #[.val (.ref a), .val (.ref b), .val (.int (Int32.ofNat o)), .val (.int (Int32.ofNat len)), .val .null, .unset] [.ref a])) rfl (by rw [hml]; rfl) (rest := []) rfl (hb hbytes d1) (W := 0) (by show 2 * 0 + 0 ≤ _; decide) (Nat.le_of_ble_eq_true rfl) (Nat.le_of_ble_eq_true rfl)
  have hh3 := q3.trans hh0
  have c4 : Steps p.tables e below (s₁.setTop (entryFrame m #[.ref a, .ref b, .int (Int32.ofNat o), .int (Int32.ofNat len), .null] 6)) (T3.setTop (mkF m 27 #[.val (.ref a), .val (.ref b), .val (.int (Int32.ofNat o)), .val (.int (Int32.ofNat len)), .val .null, .unset] [])) := (c2.trans (st3 _ (Steps.refl _))).trans (by
    refine XS.iloadN X3.here hexec rfl (hb hbytes d4) rfl ?_
    refine XS.ifYes X3.here hexec rfl (pc0 := 5) rfl (hb hbytes d5) rfl (i0_ne_t (nz32 (by omega) l0)) (by decide) rfl ?_
    exact Steps.refl _)
  obtain ⟨T5, X5, q5, st5⟩ := X3.sget hexec hown (wk W (.fieldLink "java/lang/String" 38 "java/lang/String" "COMPACT_STRINGS" "Z")) s1 (fun _ _ h => by rw [hh3]; exact h) (g := (mkF m 27 #[.val (.ref a), .val (.ref b), .val (.int (Int32.ofNat o)), .val (.int (Int32.ofNat len)), .val .null, .unset] [])) rfl (hb hbytes d27)
  have hh5 := q5.trans hh3
  have c6 : Steps p.tables e below (s₁.setTop (entryFrame m #[.ref a, .ref b, .int (Int32.ofNat o), .int (Int32.ofNat len), .null] 6)) (T5.setTop (mkF m 30 #[.val (.ref a), .val (.ref b), .val (.int (Int32.ofNat o)), .val (.int (Int32.ofNat len)), .val .null, .unset] [.int z])) := c4.trans (st5 _ (Steps.refl _))
  have c7 : Steps p.tables e below (s₁.setTop (entryFrame m #[.ref a, .ref b, .int (Int32.ofNat o), .int (Int32.ofNat len), .null] 6)) (T5.setTop (mkF m 36 #[.val (.ref a), .val (.ref b), .val (.int (Int32.ofNat o)), .val (.int (Int32.ofNat len)), .val .null, .unset] [.int (Int32.ofNat len), .int (Int32.ofNat o), .ref b])) := c6.trans (by
    refine XS.ifNo X5.here hexec rfl (hb hbytes d30) rfl (i0_eq_f hz) ?_
    refine XS.aloadN X5.here hexec rfl (hb hbytes d33) rfl rfl ?_
    refine XS.iloadN X5.here hexec rfl (hb hbytes d34) rfl ?_
    refine XS.iloadN X5.here hexec rfl (hb hbytes d35) rfl ?_
    exact Steps.refl _)
  obtain ⟨v8, T8, X8, E8, g8⟩ := X5.callS hexec (Cmp3.law l b A o len) hown (wks W (staticW "java/lang/String" 177 Cmp3.yN)) (wk W Cmp3.tab) (W := 0) (Nat.le_of_ble_eq_true rfl) (Nat.le_of_ble_eq_true rfl) (Nat.le_refl _) (by show 0 + len ≤ len; omega) (g := (mkF m 36 #[.val (.ref a), .val (.ref b), .val (.int (Int32.ofNat o)), .val (.int (Int32.ofNat len)), .val .null, .unset] [.int (Int32.ofNat len), .int (Int32.ofNat o), .ref b])) rfl (by rw [hml]; rfl) c7 (argsL := [.ref b, .int (Int32.ofNat o), .int (Int32.ofNat len)]) (rest := []) rfl rfl (by show 2 * 0 + 0 ≤ _; decide) (hb hbytes d36) (⟨rfl, hA.mv X5.warmed.alike hh5, l1, l2, hp⟩)
  obtain ⟨e8, z8⟩ := E8
  obtain ⟨rfl, N, n1, n2, n3, n4, n5, n6⟩ := NewArr.mv _ T5 s _ _ hh5.symm (Vm.Alike.refl _) rfl e8
  rw [hh5] at z8
  have hB1 := hB.keep X8.warmed.alike (n6 _ _ hB.1)
  have hne : s.heap.size ≠ a := (Nat.ne_of_lt (Array.getElem?_eq_some_iff.mp hB.1).1).symm
  have c9 : Steps p.tables e below (s₁.setTop (entryFrame m #[.ref a, .ref b, .int (Int32.ofNat o), .int (Int32.ofNat len), .null] 6)) (T8.setTop (mkF m 39 #[.val (.ref a), .val (.ref b), .val (.int (Int32.ofNat o)), .val (.int (Int32.ofNat len)), .val .null, .unset] [.ref s.heap.size])) := g8
  have c10 : Steps p.tables e below (s₁.setTop (entryFrame m #[.ref a, .ref b, .int (Int32.ofNat o), .int (Int32.ofNat len), .null] 6)) (T8.setTop (mkF m 45 #[.val (.ref a), .val (.ref b), .val (.int (Int32.ofNat o)), .val (.int (Int32.ofNat len)), .val .null, .val (.ref s.heap.size)] [.int (Int32.ofNat N.slots.size), .ref s.heap.size, .ref a])) := by
    have hc : Steps p.tables e below (s₁.setTop (entryFrame m #[.ref a, .ref b, .int (Int32.ofNat o), .int (Int32.ofNat len), .null] 6)) (T8.setTop (mkF m 45 #[.val (.ref a), .val (.ref b), .val (.int (Int32.ofNat o)), .val (.int (Int32.ofNat len)), .val .null, .val (.ref s.heap.size)] [.int (Int32.ofNat len), .ref s.heap.size, .ref a])) := c9.trans (by
      refine XS.astore X8.here hexec rfl (hb hbytes d39) rfl rfl rfl ?_
      refine XS.aloadN X8.here hexec rfl (hb hbytes d41) rfl rfl ?_
      refine XS.aload X8.here hexec rfl (hb hbytes d42) rfl rfl ?_
      refine XS.iloadN X8.here hexec rfl (hb hbytes d44) rfl ?_
      exact Steps.refl _)
    rw [n4]; exact hc
  obtain ⟨v11, T11, X11, E11, g11⟩ := X8.callS hexec (CodL.law l s.heap.size N) hown (wks W (staticW "java/lang/String" 47 CodL.yN)) (wk W CodL.tab) (W := 1) (Nat.le_of_ble_eq_true rfl) (Nat.le_of_ble_eq_true rfl) (Nat.le_refl _) (by show 0 + len + 0 ≤ len; omega) (g := (mkF m 45 #[.val (.ref a), .val (.ref b), .val (.int (Int32.ofNat o)), .val (.int (Int32.ofNat len)), .val .null, .val (.ref s.heap.size)] [.int (Int32.ofNat N.slots.size), .ref s.heap.size, .ref a])) rfl (by rw [hml]; rfl) c10 (argsL := [.ref s.heap.size, .int (Int32.ofNat N.slots.size)]) (rest := [.ref a]) rfl rfl (by show 2 * 0 + (1 + 0) ≤ _; decide) (hb hbytes d45) (⟨rfl, n1⟩)
  obtain ⟨rfl, q11⟩ := E11
  have hB11 := hB1.mv (X8.warmed.alike.symm.trans X11.warmed.alike) q11
  have c12 : Steps p.tables e below (s₁.setTop (entryFrame m #[.ref a, .ref b, .int (Int32.ofNat o), .int (Int32.ofNat len), .null] 6)) (T11.setTop (mkF m 48 #[.val (.ref a), .val (.ref b), .val (.int (Int32.ofNat o)), .val (.int (Int32.ofNat len)), .val .null, .val (.ref s.heap.size)] [.int 0, .ref a])) := g11
  obtain ⟨T13, X13, p13, bl13, sl13, st13⟩ := X11.finit hexec hown (wk W (.fieldLink "java/lang/String" 15 "java/lang/String" "coder" "B")) (Or.inr ⟨_, (wk W (.laysFinal "java/lang/String" "java/lang/String" "coder" "B"))⟩) (Or.inl ⟨rfl, hnm⟩) f2 (Or.inl rfl) hB11 (t := .byte) (by decide +kernel) rfl (g := (mkF m 48 #[.val (.ref a), .val (.ref b), .val (.int (Int32.ofNat o)), .val (.int (Int32.ofNat len)), .val .null, .val (.ref s.heap.size)] [.int 0, .ref a])) rfl (rest := []) rfl (hb hbytes d48)
  have c14 : Steps p.tables e below (s₁.setTop (entryFrame m #[.ref a, .ref b, .int (Int32.ofNat o), .int (Int32.ofNat len), .null] 6)) (T13.setTop (mkF m 54 #[.val (.ref a), .val (.ref b), .val (.int (Int32.ofNat o)), .val (.int (Int32.ofNat len)), .val .null, .val (.ref s.heap.size)] [.ref s.heap.size, .ref a])) := (c12.trans (st13 _ (Steps.refl _))).trans (by
    refine XS.aloadN X13.here hexec rfl (hb hbytes d51) rfl rfl ?_
    refine XS.aload X13.here hexec rfl (hb hbytes d52) rfl rfl ?_
    exact Steps.refl _)
  obtain ⟨T15, X15, p15, bl15, sl15, st15⟩ := X13.finit hexec hown (wk W (.fieldLink "java/lang/String" 9 "java/lang/String" "value" "[B")) (Or.inr ⟨_, (wk W (.laysFinal "java/lang/String" "java/lang/String" "value" "[B"))⟩) (Or.inl ⟨rfl, hnm⟩) f1 (Or.inl rfl) bl13 (t := (.array .byte)) (by decide +kernel) rfl (g := (mkF m 54 #[.val (.ref a), .val (.ref b), .val (.int (Int32.ofNat o)), .val (.int (Int32.ofNat len)), .val .null, .val (.ref s.heap.size)] [.ref s.heap.size, .ref a])) rfl (rest := []) rfl (hb hbytes d54)
  have c16 : Steps p.tables e below (s₁.setTop (entryFrame m #[.ref a, .ref b, .int (Int32.ofNat o), .int (Int32.ofNat len), .null] 6)) (T15.setTop (mkF m 57 #[.val (.ref a), .val (.ref b), .val (.int (Int32.ofNat o)), .val (.int (Int32.ofNat len)), .val .null, .val (.ref s.heap.size)] [])) := c14.trans (st15 _ (Steps.refl _))
  have ap := apart (Or.inr ⟨_, (wk W (.laysFinal "java/lang/String" "java/lang/String" "value" "[B"))⟩) (Or.inr ⟨_, (wk W (.laysFinal "java/lang/String" "java/lang/String" "coder" "B"))⟩) f1 f2 (t₁ := .array .byte) (t₂ := .byte) (by decide +kernel) (by decide +kernel) (by decide)
  have al := X8.warmed.alike.symm.trans X15.warmed.alike
  have n7 : T11.heap[s.heap.size]? = some N := by rw [q11]; exact n1.1
  exact ⟨T15, none, _, _, _, X15, by simp, rfl, by omega, (fun _ => rfl), ⟨rfl, _, N, bl15, ((Same.refl D _).set _ (by simp)).set _ (by simp), sl15, (Cell.slots_setSlot_ne _ ap).trans sl13, n1.keep al (p15.other hne (p13.other hne n7)), n2, by rw [al.findClass]; exact n3, n4, n5, fun y c h1 h2 => p15.other h1 (p13.other h1 (by rw [q11]; exact n6 y c h2)), by rw [p15.2.2, p13.2.2, q11]; exact z8⟩, fun fs hl => c16.trans (X15.returnOut hexec hret (hb hbytes d57) hl)⟩
end New4
namespace New1
def yN : MethodName := ⟨"java/lang/String", "<init>", "([C)V"⟩
abbrev yB : ByteArray := jdk_42_method_3_code
theorem d0 : decode yB 0 = .ok (.aload_n 0, 1) := by decide +kernel
theorem d1 : decode yB 1 = .ok (.aload_n 1, 1) := by decide +kernel
theorem d2 : decode yB 2 = .ok (.iconst 0, 1) := by decide +kernel
theorem d3 : decode yB 3 = .ok (.aload_n 1, 1) := by decide +kernel
theorem d4 : decode yB 4 = .ok (.arraylength, 1) := by decide +kernel
theorem d5 : decode yB 5 = .ok (.aconst_null, 1) := by decide +kernel
theorem d6 : decode yB 6 = .ok (.invokespecial 27, 3) := by decide +kernel
theorem d9 : decode yB 9 = .ok (.return_, 1) := by decide +kernel
def site : List Cond := [New4.tab] ++ initW "java/lang/String" 27 New4.yN
def tab : Cond := tabOf yN yB 2 none site
def P (a : Addr) (D : Cell) (fV fC : Field) (b : Addr) (A : Cell) (z : Int32) (args : Array Value) (s : State) : Prop := args = #[.ref a, .ref b] ∧ Blank "java/lang/String" a D s ∧ Found "java/lang/String" "value" "[B" fV s ∧ Found "java/lang/String" "coder" "B" fC s ∧ Ch b A s ∧ StaticIs s "java/lang/String" "COMPACT_STRINGS" "Z" (.int z) ∧ ¬ z = 0 ∧ 0 < A.slots.size ∧ A.slots.size ≤ 536870912 ∧ ∀ i, i < A.slots.size → ¬ 255 < cv A i
def E (a : Addr) (D : Cell) (fV fC : Field) (A : Cell) (r : Option Value) (s u : State) : Prop := Got a D fV fC A 0 A.slots.size r s u
/-- new String(chars), not empty, no char above 255: a Latin-1 String of their low bytes -/
theorem law (l : Launch) (a : Addr) (D : Cell) (fV fC : Field) (b : Addr) (A : Cell) (z : Int32) : Law l yN 2 1 3 52 yB 2 none site (P a D fV fC b A z) (E a D fV fC A) [⟨a, fC.slot⟩, ⟨a, fV.slot⟩] 1 A.slots.size := by
  refine Law.of_walk (plainFor_of_name (by decide +kernel)) (by decide +kernel) (by decide +kernel) (by decide) (fun _ _ h => by rw [h.1]; rfl) (fun _ U U' hal hh h => ⟨h.1, h.2.1.mv hal hh, h.2.2.1.al hal, h.2.2.2.1.al hal, h.2.2.2.2.1.mv hal hh, h.2.2.2.2.2.1.there hal hh, h.2.2.2.2.2.2⟩) (fun r U U' V V' h1 hal h2 h => Got.mv r U U' V V' h1 hal h2 h) ?_
  intro p e s m args below meth c s₁ X0 hexec hbytes hml hret hlk hnm hown hh0 W hP
  obtain ⟨rfl, hB, f1, f2, hA, s1, hz, l0, l2, hp⟩ := hP
  have c1 : Steps p.tables e below (s₁.setTop (entryFrame m #[.ref a, .ref b] 2)) (s₁.setTop (mkF m 0 #[.val (.ref a), .val (.ref b)] [])) := entry rfl
  have c2 : Steps p.tables e below (s₁.setTop (entryFrame m #[.ref a, .ref b] 2)) (s₁.setTop (mkF m 6 #[.val (.ref a), .val (.ref b)] [.null, .int (Int32.ofNat A.slots.size), .int 0, .ref b, .ref a])) := c1.trans (by
    refine XS.aloadN X0.here hexec rfl (hb hbytes d0) rfl rfl ?_
    refine XS.aloadN X0.here hexec rfl (hb hbytes d1) rfl rfl ?_
    refine iconstV X0.here hexec rfl 0 (hb hbytes d2) (by decide) ?_
    refine XS.aloadN X0.here hexec rfl (hb hbytes d3) rfl rfl ?_
    refine X0.alen hexec (hA.1.mv X0.warmed.alike hh0) rfl rfl (hb hbytes d4) ?_
    refine XS.aconstNull X0.here hexec rfl (hb hbytes d5) ?_
    exact Steps.refl _)
  obtain ⟨v3, T3, X3, E3, g3⟩ := X0.callN hexec (New4.law l a D fV fC b A z 0 A.slots.size) rfl hown (wks W (initW "java/lang/String" 27 New4.yN)) (W New4.tab (by simp only [site, List.mem_cons, List.mem_append, true_or, or_true])) (W := 0) (Nat.le_of_ble_eq_true rfl) (Nat.le_of_ble_eq_true rfl) (Nat.le_refl _) (by show 0 + A.slots.size ≤ A.slots.size; omega) (g := (mkF m 6 #[.val (.ref a), .val (.ref b)] [.null, .int (Int32.ofNat A.slots.size), .int (Int32.ofNat 0), .ref b, .ref a])) rfl (by rw [hml]; rfl) c2 (argsL := [.ref b, .int (Int32.ofNat 0), .int (Int32.ofNat A.slots.size), .null]) (rest := []) rfl rfl (by show 2 * 0 + 0 ≤ _; decide) (hb hbytes d6) (⟨rfl, hB.mv X0.warmed.alike hh0, f1.al X0.warmed.alike, f2.al X0.warmed.alike, hA.mv X0.warmed.alike hh0, s1.there X0.warmed.alike hh0, hz, l0, by omega, l2, fun i hi => by rw [Nat.zero_add]; exact hp i hi⟩)
  have e0 := Got.mv _ s₁ s _ _ hh0.symm (Vm.Alike.refl _) rfl E3
  obtain rfl := e0.1
  have c4 : Steps p.tables e below (s₁.setTop (entryFrame m #[.ref a, .ref b] 2)) (T3.setTop (mkF m 9 #[.val (.ref a), .val (.ref b)] [])) := g3
  exact ⟨T3, none, _, _, _, X3, by simp, rfl, by omega, (fun _ => rfl), e0, fun fs hl => c4.trans (X3.returnOut hexec hret (hb hbytes d9) hl)⟩
theorem pays {l : Launch} {R : Room} {p : Program} {e : Env} {below : List Frame} {s : State} {sargs : Array Value} {len W : Nat} (a : Addr) (D : Cell) (fV fC : Field) (b : Addr) (A : Cell) (z : Int32) (htab : tab.before sargs s = true) (hfr : 4 ≤ R.frames) (hlo : W + 65 ≤ R.locals) :
    Back l R p e below s sargs yN len W (fun A₁ a₁ => A₁.cells + 1 ≤ R.cells ∧ A₁.slots + A.slots.size ≤ R.slots ∧ P a D fV fC b A z a₁ A₁.U) (fun A₁ _ v₁ B₁ => E a D fV fC A v₁ A₁.U B₁.U ∧ B₁.locs = A₁.locs ++ [⟨a, fC.slot⟩, ⟨a, fV.slot⟩] ∧ B₁.cells = A₁.cells + 1 ∧ B₁.slots = A₁.slots + A.slots.size) :=
  (law l a D fV fC b A z).pays htab hfr (by omega)
end New1
end StrChars
namespace StrChars.Road
open Jvm Sem ClassFile Op Lib Jvm.Stand Jvm.Free Jvm.Free.XT
open Jvm.Lib.Cold (StaticIs)
abbrev ST : String := "java/lang/String"
/-- every table word that New1's law asks, flat -/
abbrev words : List Jvm.Cond := [.code New1.yN New1.yB 2 none, .initialized ST, .methodLink ST 27 New4.yN, .instanceMethod New4.yN,
  .code New4.yN New4.yB 6 none, .fieldLink ST 38 ST "COMPACT_STRINGS" "Z", .laysFinal ST ST "value" "[B", .fieldLink ST 9 ST "value" "[B", .laysFinal ST ST "coder" "B", .fieldLink ST 15 ST "coder" "B",
  .methodLink ST 1 Lib.objectInit, .instanceMethod Lib.objectInit, .code Lib.objectInit ⟨#[0xb1]⟩ 1 none, .methodLink ST 177 Cmp3.yN, .static Cmp3.yN, .methodLink ST 47 CodL.yN, .static CodL.yN,
  .code Cmp3.yN Cmp3.yB 6 (some (.array .byte)), .initialized U16, .arrayClass .byte, .methodLink U16 115 Cmp5.yN, .static Cmp5.yN, .code Cmp5.yN Cmp5.yB 7 (some .int), .code CodL.yN CodL.yB 2 (some .byte)]
theorem tab_of {a : Array Value} {s : State} (h : ∀ w ∈ words, w.before a s = true) : New1.tab.before a s = true := by
  have h5 : Cmp5.tab.before a s = true := unparts (wk h (.code Cmp5.yN Cmp5.yB 7 (some .int))) (wks h (.initialized Cmp5.yN.cls :: Cmp5.site))
  have hc : CodL.tab.before a s = true := unparts (wk h (.code CodL.yN CodL.yB 2 (some .byte))) (wks h (.initialized CodL.yN.cls :: CodL.site))
  have q5 : ∀ w ∈ Cmp5.tab :: words, w.before a s = true := fun w hw => (List.mem_cons.mp hw).elim (fun e => e ▸ h5) (h w)
  have h3 : Cmp3.tab.before a s = true := unparts (wk q5 (.code Cmp3.yN Cmp3.yB 6 (some (.array .byte)))) (wks q5 (.initialized Cmp3.yN.cls :: Cmp3.site))
  have q3 : ∀ w ∈ Cmp3.tab :: CodL.tab :: words, w.before a s = true := fun w hw => (List.mem_cons.mp hw).elim (fun e => e ▸ h3) fun hw => (List.mem_cons.mp hw).elim (fun e => e ▸ hc) (h w)
  have h4 : New4.tab.before a s = true := unparts (wk q3 (.code New4.yN New4.yB 6 none)) (wks q3 (.initialized New4.yN.cls :: New4.site))
  have q4 : ∀ w ∈ New4.tab :: words, w.before a s = true := fun w hw => (List.mem_cons.mp hw).elim (fun e => e ▸ h4) (h w)
  exact unparts (wk q4 (.code New1.yN New1.yB 2 none)) (wks q4 (.initialized New1.yN.cls :: New1.site))
/-- the words ride from the start Z to the walk's own state -/
theorem moved {Z s : State} {a0 args : Array Value} (hZ : Z.Warmed39 s.vm) (hw : ∀ d ∈ words, d.before a0 Z = true) : ∀ d ∈ words, d.before args s = true := fun d hd => by
  have q := hw d hd
  have t : ∀ d ∈ words, d = .arrayClass .byte ∨ (d.onTables && d.keepsFace) = true := by decide +kernel
  rcases t d hd with rfl | t
  · exact RoadKit.mvA hZ q
  · exact RoadKit.mv hZ q t
/-- WHAT COMES BACK, over the tables of the start Z: h the heap at the call, h' behind it -/
def Q (Z : State) (x : Addr) (A : Cell) (h : Heap) (v : Option Value) (h' : Heap) (L : List Loc) : Prop := v = none ∧ (∀ y ∈ L, y.base = x) ∧ RoadKit.Keep h h' [x] ∧ h'.size = h.size + 1 ∧ RoadKit.Exa Z h' x ST ∧ RoadKit.Fld Z h' x ST "value" "[B" (.ref h.size) ∧ RoadKit.Fld Z h' x ST "coder" "B" (.int 0) ∧
  (∃ V : Cell, RoadKit.Arr Z h' h.size V .byte ∧ V.vm = .none ∧ Z.vm.findClass "[B" = some V.cls ∧ V.slots.size = A.slots.size ∧ ∀ j, j < A.slots.size → V.slots[j]? = some (.int (lo8 (cv A j)))) ∧
  ∀ (O n d : String) (w : Value), RoadKit.Fld Z h x O n d w → RoadKit.slotOf Z O n d ≠ RoadKit.slotOf Z ST "value" "[B" → RoadKit.slotOf Z O n d ≠ RoadKit.slotOf Z ST "coder" "B" → RoadKit.Fld Z h' x O n d w
/-- **new String(chars) AT A CALL, IN THE ROAD'S FORM**: for specialBack behind newO: x the fresh String, b the char[] with the cell A -/
theorem back {p : Program} {l : Launch} {e : Env} {R : Room} {s : State} {args : Array Value} {below : List Frame} {len W : Nat} {Z : State} {a0 : Array Value} {h : Heap} (hZ : Z.Warmed39 s.vm) (hw : ∀ d ∈ words, d.before a0 Z = true) {kI : Nat} (wi : (Jvm.Cond.instantiable ST kI).before a0 Z = true)
    {x b : Addr} {A : Cell} {z : Int32} {v0 c0 : Value} (E : RoadKit.Exa Z h x ST) (V : RoadKit.Fld Z h x ST "value" "[B" v0) (C : RoadKit.Fld Z h x ST "coder" "B" c0) (K : RoadKit.Arr Z h b A .char) (hty : Typed .char A) (S : RoadKit.Sta Z h ST "COMPACT_STRINGS" "Z" (.int z)) (hz : ¬ z = 0)
    (l0 : 0 < A.slots.size) (l2 : A.slots.size ≤ 536870912) (hp : ∀ i, i < A.slots.size → ¬ 255 < cv A i) (hfr : 4 ≤ R.frames) (hlo : W + 65 ≤ R.locals) :
    Back l R p e below s args New1.yN len W (fun P a => a = #[.ref x, .ref b] ∧ P.U.heap = h ∧ P.cells + 1 ≤ R.cells ∧ P.slots + A.slots.size ≤ R.slots)
      (fun P _ v B => ∃ L, Q Z x A h v B.U.heap L ∧ B.locs = P.locs ++ L ∧ B.cells = P.cells + 1 ∧ B.slots = P.slots + A.slots.size) := by
  intro m meth c P g ig mk a X hg hsize hdg hW hn hp'
  obtain ⟨rfl, rfl, r1, r2⟩ := hp'
  have al : Z.vm.Alike P.U.vm := hZ.alike.trans X.warmed.alike
  obtain ⟨D, cfV, kV, iV, fV, hD, gV, stV, knV, obV, asV, slV⟩ := id V
  obtain ⟨D', cfC, kC, iC, fC, hD', gC, stC, -, -, asC, slC⟩ := id C
  cases hD.symm.trans hD'
  obtain ⟨D2, kD, e1, e2, e3, e4, e5⟩ := id E
  cases hD.symm.trans e1
  obtain ⟨c2, k2, i1, i2, i3, -⟩ := Cond.instantiable_spec wi
  cases e2.symm.trans i1
  cases e3.symm.trans i2
  obtain ⟨kU, u1, u2⟩ := al.2.2 _ _ e3
  have hB : Blank ST x D P.U := ⟨hD, ⟨knV, fun q hq => by rw [hq] at obV; cases obV⟩, by rw [al.findClass]; exact e2, kU, u1, by rw [u2]; exact i3, by rw [u2]; exact e5 i3⟩
  have F1 : Found ST "value" "[B" fV P.U := ⟨SBG.found_only al ⟨cfV, kV, iV, gV⟩, stV⟩
  have F2 : Found ST "coder" "B" fC P.U := ⟨SBG.found_only al ⟨cfC, kC, iC, gC⟩, stC⟩
  have hA : Ch b A P.U := ⟨⟨K.1, State.isArrayOf_alike al K.2.1, K.2.2, by omega⟩, hty⟩
  have hS : StaticIs P.U ST "COMPACT_STRINGS" "Z" (.int z) := by
    obtain ⟨cfS, iS, kS, fS, st, cS, t1, t2, t3, t4, t5, t6, t7⟩ := S
    exact StaticIs.there (s := { Z with heap := P.U.heap }) ⟨cfS, iS, kS, fS, st, cS, t1, t2, t3, t4, t5, (fun q => by rw [q] at t6; cases t6), t7⟩ al rfl
  obtain ⟨v, B, X', ⟨⟨hv, E', V', q1, q2, q3, q4, q5, q6, q7, q8, q9, q10, q11⟩, hl, hc, hs⟩, st⟩ := New1.pays x D fV fC b A z (tab_of (moved hZ hw)) hfr hlo m meth c P g ig mk _ X hg hsize hdg hW hn ⟨r1, r2, rfl, hB, F1, F2, hA, hS, hz, l0, l2, hp⟩
  have al' : Z.vm.Alike B.U.vm := hZ.alike.trans X'.warmed.alike
  have hsz : E'.slots.size = D.slots.size := by
    obtain ⟨-, -, -, kB, w1, w2, w3⟩ := q1
    obtain ⟨kB', y1, y2⟩ := al'.2.2 _ _ e3
    rw [q2.2.1] at w1
    cases w1.symm.trans y1
    rw [w3, e5 i3, y2]
  refine ⟨v, B, X', ⟨_, ⟨hv, ?_, ⟨by omega, fun y cy hy hn' => q10 y cy (by simpa using hn') hy, fun y cy hy => ?_⟩, q11, ⟨E', _, q1.1, by rw [q2.2.1]; exact e2, by rw [q2.2.1]; exact e3, by rw [q2.1]; exact obV, fun _ => by rw [hsz]; exact e5 i3⟩,
    ⟨E', cfV, kV, iV, fV, q1.1, gV, stV, by rw [q2.1]; exact knV, by rw [q2.1]; exact obV, by rw [q2.2.1]; exact asV, q3⟩, ⟨E', cfC, kC, iC, fC, q1.1, gC, stC, by rw [q2.1]; exact knV, by rw [q2.1]; exact obV, by rw [q2.2.1]; exact asC, q4⟩,
    ⟨V', ⟨q5.1, State.isArrayOf_alike al'.symm q5.2.1, q5.2.2.1⟩, q6, by rw [← al'.findClass]; exact q7, q8, fun j hj => by have := q9 j hj; rwa [Nat.zero_add] at this⟩, fun O n d w F n1 n2 => ?_⟩, hl, hc, hs⟩, st⟩
  · intro y hy
    simp only [List.mem_cons, List.not_mem_nil, or_false] at hy
    rcases hy with rfl | rfl <;> rfl
  · by_cases q : y = x
    · subst q
      cases hD.symm.trans hy
      exact ⟨E', q1.1, q2.2.1, q2.1, hsz⟩
    · exact ⟨cy, q10 y cy q hy, rfl, rfl, rfl⟩
  · obtain ⟨D3, cf, k, i, f, g1, g2, g3, g4, g5, g6, g7⟩ := F
    cases hD.symm.trans g1
    simp only [RoadKit.slotOf, g2, gV, gC, Option.map_some, Option.getD_some] at n1 n2
    exact ⟨E', cf, k, i, f, q1.1, g2, g3, by rw [q2.1]; exact g4, by rw [q2.1]; exact g5, by rw [q2.2.1]; exact g6, by rw [q2.2.2 f.slot (by simp [n1, n2])]; exact g7⟩
end StrChars.Road
namespace StrChars.Road
open Jvm Sem ClassFile Op Lib Jvm.Stand Jvm.Free Jvm.Free.XT
/-- WHAT COMES BACK, the byte[] as a list of values -/
def QA (Z : State) (x : Addr) (zn : Int32) (cs : List Int32) (h : Heap) (v : Option Value) (h' : Heap) (L : List Loc) : Prop := v = none ∧ (∀ y ∈ L, y.base = x) ∧ RoadKit.Keep h h' [x] ∧ h'.size = h.size + 1 ∧ RoadKit.Exa Z h' x ST ∧ RoadKit.Fld Z h' x ST "value" "[B" (.ref h.size) ∧ RoadKit.Fld Z h' x ST "coder" "B" (.int 0) ∧
  (∃ kb, Z.vm.findClass "[B" = some kb ∧ RoadKit.Arv Z h' h.size kb .byte zn (cs.map fun c => .int (lo8 c)) (.int 0)) ∧
  ∀ (O n d : String) (w : Value), RoadKit.Fld Z h x O n d w → RoadKit.slotOf Z O n d ≠ RoadKit.slotOf Z ST "value" "[B" → RoadKit.slotOf Z O n d ≠ RoadKit.slotOf Z ST "coder" "B" → RoadKit.Fld Z h' x O n d w
/-- **new String(chars) AT A CALL, THE ARRAYS AS LISTS**: the char[] at b holds cs, not empty, no char above 255 -/
theorem backArv {p : Program} {l : Launch} {e : Env} {R : Room} {s : State} {args : Array Value} {below : List Frame} {len W : Nat} {Z : State} {a0 : Array Value} {h : Heap} (hZ : Z.Warmed39 s.vm) (hw : ∀ d ∈ words, d.before a0 Z = true) {kI : Nat} (wi : (Jvm.Cond.instantiable ST kI).before a0 Z = true)
    {x b : Addr} {k : ClassId} {zn z : Int32} {cs : List Int32} {dv v0 c0 : Value} (E : RoadKit.Exa Z h x ST) (V : RoadKit.Fld Z h x ST "value" "[B" v0) (C : RoadKit.Fld Z h x ST "coder" "B" c0) (K : RoadKit.Arv Z h b k .char zn (cs.map Value.int) dv) (S : RoadKit.Sta Z h ST "COMPACT_STRINGS" "Z" (.int z)) (hz : ¬ z = 0)
    (hlen : zn.toNatClampNeg = cs.length) (h0 : 0 < cs.length) (hbig : cs.length ≤ 536870912) (hall : ∀ c ∈ cs, ¬ 255 < c) (hfr : 4 ≤ R.frames) (hlo : W + 65 ≤ R.locals) :
    Back l R p e below s args New1.yN len W (fun P a => a = #[.ref x, .ref b] ∧ P.U.heap = h ∧ P.cells + 1 ≤ R.cells ∧ P.slots + cs.length ≤ R.slots)
      (fun P _ v B => ∃ L, QA Z x zn cs h v B.U.heap L ∧ B.locs = P.locs ++ L ∧ B.cells = P.cells + 1 ∧ B.slots = P.slots + cs.length) := by
  obtain ⟨A, K1, K2, K3, K4, K5, K6⟩ := K
  have e : A.slots.size = cs.length := K3.trans hlen
  have hat : ∀ (i : Nat) (hi : i < cs.length), A.slots[i]? = some (.int cs[i]) := fun i hi => by rw [K5 i (by omega)]; simp [List.getD_eq_getElem?_getD, hi]
  have hcv : ∀ (i : Nat) (hi : i < cs.length), cv A i = cs[i] := fun i hi => by unfold cv; rw [hat i hi]
  have hty : Typed .char A := fun i v hv => by
    have hi : i < A.slots.size := (Array.getElem?_eq_some_iff.mp hv).1
    have q := K5 i hi
    rw [hv] at q
    rw [Option.some.inj q]
    exact K6 i hi
  refine Back.mono (back hZ hw wi E V C K1 hty S hz (by omega) (by omega) (fun i hi => by rw [hcv i (by omega)]; exact hall _ (List.getElem_mem _)) hfr hlo) (fun P a hp => ⟨hp.1, hp.2.1, hp.2.2.1, by rw [e]; exact hp.2.2.2⟩) (fun P a v B hp hq => ?_)
  obtain ⟨L, ⟨q1, q2, q3, q4, q5, q6, q7, ⟨V', v1, v2, v3, v4, v5⟩, q9⟩, hl, hc, hs⟩ := hq
  refine ⟨L, ⟨q1, q2, q3, q4, q5, q6, q7, ⟨V'.cls, v3, V', v1, rfl, by rw [v4, e, hlen], K4, fun i hi => ?_, fun i hi => ?_⟩, q9⟩, hl, hc, by rw [hs, e]⟩
  · have hi' : i < cs.length := by omega
    rw [v5 i (by omega), hcv i hi']; simp [List.getD_eq_getElem?_getD, hi']
  · have hi' : i < cs.length := by omega
    simp only [List.getD_eq_getElem?_getD, List.getElem?_map, List.getElem?_eq_getElem hi', Option.map_some, Option.getD_some]
    exact fits_lo8 _
end StrChars.Road
namespace StrChars.Road
open Jvm Sem ClassFile Op Lib Jvm.Stand Jvm.Free Jvm.Free.XT
/-- WHAT COMES BACK, in the writer's own shape -/
def QV (Z : State) (x : Addr) (N : Int32) (bs : List Int32) (h : Heap) (n0 : Nat) (v : Option Value) (h' : Heap) (L : List Loc) : Prop := v = none ∧ RoadKit.Fr n0 L ∧ RoadKit.Keep h h' [x] ∧ RoadKit.Exa Z h' x ST ∧ RoadKit.Fld Z h' x ST "coder" "B" (.int 0) ∧
  ∃ (t : Addr) (kb : ClassId), n0 ≤ t ∧ h.size ≤ t ∧ ¬ t = x ∧ RoadKit.Fld Z h' x ST "value" "[B" (.ref t) ∧ RoadKit.Arv Z h' t kb .byte N (bs.map Value.int) (.int 0)
/-- **new String(chars) AT A CALL, FOR THE WRITER**: a char[] of n known ints, each 0 to 255 -/
theorem backV {p : Program} {l : Launch} {e : Env} {R : Room} {s : State} {args : Array Value} {below : List Frame} {len W : Nat} {Z : State} {a0 : Array Value} {h : Heap} (hZ : Z.Warmed39 s.vm) (hw : ∀ d ∈ words, d.before a0 Z = true) {kI : Nat} (wi : (Jvm.Cond.instantiable ST kI).before a0 Z = true)
    {x b : Addr} {kC : ClassId} {cs bs : List Int32} {d v0 c0 : Value} {z N : Int32} {n n0 : Nat} (hx0 : n0 ≤ x) (hh0 : n0 ≤ h.size) (E : RoadKit.Exa Z h x ST) (V : RoadKit.Fld Z h x ST "value" "[B" v0) (C : RoadKit.Fld Z h x ST "coder" "B" c0) (K : RoadKit.Arv Z h b kC .char N (cs.map Value.int) d) (S : RoadKit.Sta Z h ST "COMPACT_STRINGS" "Z" (.int z)) (hz : ¬ z = 0)
    (hn : cs.length = n) (hN : N = Int32.ofNat n) (l0 : 0 < n) (l2 : n ≤ 4000) (hp : ∀ c ∈ cs, ¬ c < 0 ∧ ¬ (255 : Int32) < c) (hb : bs = cs.map (fun c => c.toInt8.toInt32)) (hfr : 4 ≤ R.frames) (hlo : W + 65 ≤ R.locals) :
    Back l R p e below s args (⟨"java/lang/String", "<init>", "([C)V"⟩ : MethodName) len W (fun P a => a = #[.ref x, .ref b] ∧ P.U.heap = h ∧ P.cells + 1 ≤ R.cells ∧ P.slots + n ≤ R.slots)
      (fun P _ v B => ∃ L, QV Z x N bs h n0 v B.U.heap L ∧ B.locs = P.locs ++ L ∧ B.cells = P.cells + 1 ∧ B.slots = P.slots + n) := by
  subst hn hN hb
  refine Back.mono (backArv hZ hw wi E V C K S hz (n32 (by omega)) l0 (by omega) (fun c hc => (hp c hc).2) hfr hlo) (fun P a hp => hp) (fun P a v B hp hq => ?_)
  obtain ⟨L, ⟨q1, q2, q3, q4, q5, q6, q7, ⟨kb, v1, v2⟩, q9⟩, hl, hc, hs⟩ := hq
  exact ⟨L, ⟨q1, fun y hy => by rw [q2 y hy]; exact hx0, q3, q5, q7, h.size, kb, hh0, Nat.le_refl _, Nat.ne_of_gt E.lt, q6, by rw [List.map_map]; exact v2⟩, hl, hc, hs⟩
end StrChars.Road
namespace StrChars
open Jvm Sem ClassFile Op Lib Jvm.Stand Jvm.Free.XT Jvm.Free.ALB Jvm.Free.JM Jvm.Free
open Jvm.Lib.Cold (StaticIs)
def hi8 (x : Int32) : Int32 := lo8 (x >>> ((8 : Int32) &&& 31))
end StrChars
namespace StrChars.Road
open Jvm Sem ClassFile Op Lib Jvm.Stand Jvm.Free Jvm.Free.XT
open Jvm.Lib.Cold (StaticIs)
/-- the bytes of the chars cs, low before high -/
def wideBytes : List Int32 → List Value
  | [] => []
  | c :: cs => .int (lo8 c) :: .int (hi8 c) :: wideBytes cs
/-- an array of N2 bytes vs codes the chars cs by the coder cd -/
def CodA (cs : List Int32) (cd N2 : Int32) (vs : List Value) : Prop := (cd = 0 ∧ N2 = Int32.ofNat cs.length ∧ vs = (cs.map fun c => Value.int (lo8 c)) ∧ ∀ c ∈ cs, ¬ 255 < c) ∨ (cd = 1 ∧ N2 = Int32.ofNat (2 * cs.length) ∧ vs = wideBytes cs ∧ ∃ c ∈ cs, 255 < c)
end StrChars.Road
namespace StrChars.Road
open Jvm Sem ClassFile Op Lib Jvm.Stand Jvm.Free Jvm.Free.XT
open Jvm.Lib.Cold (StaticIs)
/-- what backV says of its String, as the contracts of this text ask it: cs's low bytes, coder 0 -/
theorem codOf {cs : List Int32} {n : Nat} (hn : cs.length = n) (hb : ∀ c ∈ cs, ¬ 255 < c) : CodA cs 0 (Int32.ofNat n) ((cs.map lo8).map Value.int) := Or.inl ⟨rfl, by rw [hn], by simp [List.map_map, Function.comp_def], hb⟩
end StrChars.Road
end Jvm.Pilot.@@N@@

namespace Jvm.Pilot.@@N@@
open Jvm Jvm.ClassFile Sem Op Lib Jvm.Free Jvm.Stand Jvm.LawKit Jvm.RoadKit Bundle Jvm.Pilot.@@N@@.Jvm.D
abbrev sW : String := "com/example/lease_over_store/leaseoverstore/lease/StoreUrlParsePinLaw"
abbrev sU : String := "com/example/lease_over_store/leaseoverstore/lease/StoreUrl"
abbrev oB8 (c0 c1 c2 c3 c4 c5 c6 c7 : Int32) : List Value := [(.int (c0.toInt8.toInt32)), (.int (c1.toInt8.toInt32)), (.int (c2.toInt8.toInt32)), (.int (c3.toInt8.toInt32)), (.int (c4.toInt8.toInt32)), (.int (c5.toInt8.toInt32)), (.int (c6.toInt8.toInt32)), (.int (c7.toInt8.toInt32))]
abbrev oC8 (c0 c1 c2 c3 c4 c5 c6 c7 : Int32) : List Value := [(.int c0), (.int c1), (.int c2), (.int c3), (.int c4), (.int c5), (.int c6), (.int c7)]
abbrev oi (x : Int32) : Slot := .val (.int x)
abbrev oa (x : Addr) : Slot := .val (.ref x)
abbrev oRm (f c s l : Nat) : Room := { frames := f, cells := c, slots := s, locals := l }
/-- from here the run comes to its end with what P says -/
def oGo (p : Program) (e : Env) (below : List Frame) (P : Outcome → State → Prop) (T : State) (g : JFrame) : Prop := ∃ s₂ o, Steps p.tables e below (T.setTop g) s₂ ∧ s₂.status = .running ∧ Ended s₂ below o ∧ P o s₂
theorem oby {p : Program} {e : Env} {below : List Frame} {P : Outcome → State → Prop} {T T' : State} {g g' : JFrame} (k : ∀ t, Steps p.tables e below (T'.setTop g') t → Steps p.tables e below (T.setTop g) t) (h : oGo p e below P T' g') : oGo p e below P T g := by
  obtain ⟨s₂, o, h1, h2⟩ := h
  exact ⟨s₂, o, k _ h1, h2⟩
theorem ostart {p : Program} {e : Env} {below : List Frame} {P : Outcome → State → Prop} {T : State} {g g' : JFrame} (q : g = g') (h : oGo p e below P T g') : ∃ s₂ o, Steps p.tables e below (T.setTop g) s₂ ∧ s₂.status = .running ∧ Ended s₂ below o ∧ P o s₂ := by subst q; exact h
theorem oout {p : Program} {e : Env} {below : List Frame} {P : Outcome → State → Prop} {T s₂ : State} {g : JFrame} {o : Outcome} (h1 : Steps p.tables e below (T.setTop g) s₂) (h2 : s₂.status = .running) (h3 : Ended s₂ below o) (h4 : P o s₂) : oGo p e below P T g := ⟨s₂, o, h1, h2, h3, h4⟩
theorem ob {p : Program} {e : Env} {below : List Frame} {P : Outcome → State → Prop} {T : State} {g : JFrame} (T' : State) (g' : JFrame) (k : ∀ t, Steps p.tables e below (T'.setTop g') t → Steps p.tables e below (T.setTop g) t) (h : oGo p e below P T' g') : oGo p e below P T g := oby k h
theorem osuff {p : Program} {e : Env} {below : List Frame} {P : Outcome → State → Prop} {T T' : State} {g g' : JFrame} (h1 : oGo p e below P T' g' → oGo p e below P T g) (h2 : oGo p e below P T' g') : oGo p e below P T g := h1 h2
theorem oname {p : Program} {e : Env} {below : List Frame} {P : Outcome → State → Prop} {T : State} {g : JFrame} (h : ∀ PP : Outcome → State → Prop, (∀ o s, P o s → PP o s) → oGo p e below PP T g) : oGo p e below P T g := h P (fun _ _ q => q)
theorem ow {L : List Jvm.Cond} {Z : State} {a0 : Array Value} (hw : ∀ d ∈ L, d.before a0 Z = true) (k : Nat) {d : Jvm.Cond} (h : L[k]? = some d) : d.before a0 Z = true := hw d (List.mem_of_getElem? h)
theorem on0 {Z : State} {n0 : Nat} {h : Heap} (O : Old Z n0 h) : n0 ≤ h.size := by have h1 := O.1; have h2 := O.2.1; omega
theorem oretA {p : Program} {l : Launch} {e : Env} {R : Room} {s : State} {m : MethodId} {args : Array Value} {below : List Frame} {meth : Method} {c : Code} {T : State} {locs : List Loc} {cells slots : Nat} (X : Stand p l e R s m args below meth c T locs cells slots) (hx : p.tables.exec = Jvm.exec) {pc : Nat} {Ls : Array Slot} {w : Value} {t : FieldType} {rest : List Value} (hret : meth.sig.returnType = some t) (ht : t.isReference = true) (hw : w.isRef = true)
    (hd : decode c.code pc = .ok (.areturn, 1)) {fs : List Frame} (hl : ∀ (f : JFrame) (acts : List Action), f.method = m → f.locked = none → f.entered = [] → (doReturn e (T.setTop f) acts (some w)).1 = T.setFrames fs) :
    Steps p.tables e below (T.setTop (mkF m pc Ls (w :: rest))) (T.setFrames fs) :=
  retOut X hx hret (by cases w <;> first | (simp [Value.isRef] at hw; done) | (cases t <;> rfl)) (Or.inr (Or.inr (Or.inr (Or.inr ⟨rfl, ht, hw⟩)))) hd hl
abbrev oPP (s : State) (Q : Option Value → Heap → List Loc → Prop) (rc rs : Nat) : Outcome → State → Prop := fun o U => ∃ v L, o = .returned v ∧ Q v U.heap L ∧ FrameEnd s o U L rc rs
abbrev oM (l : Launch) (Z : State) (yy : MethodName) (bytes : ByteArray) (maxL : Nat) (ret : Option FieldType) (rm : Room) (as' : Array Value) (h : Heap) (Q : Option Value → Heap → List Loc → Prop) : Prop := MetFree l yy (head1 [Jvm.Cond.code yy bytes maxL ret] rm) (fun a U => a = as' ∧ Z.Warmed39 U.vm ∧ U.heap = h) (fun _ _ _ _ _ => True) (fun _ U o U' => ∃ v L, o = .returned v ∧ Q v U'.heap L ∧ FrameEnd U o U' L rm.cells rm.slots)
abbrev oPu (l : Launch) (Z : State) (yy : MethodName) (bytes : ByteArray) (maxL : Nat) (ret : Option FieldType) (rm : Room) (as' : Array Value) (h : Heap) (n0 : Nat) (w : Option Value) : Prop := oM l Z yy bytes maxL ret rm as' h (fun v h' L => v = w ∧ Fr n0 L ∧ h' = h)
theorem oBody {l : Launch} {Z : State} {yy : MethodName} {bytes : ByteArray} {maxL : Nat} {ret : Option FieldType} {rm : Room} {as' : Array Value} {h0 : Heap} {Q : Option Value → Heap → List Loc → Prop} (pl : plainFor yy = true) (L0 : Array Slot) (hL : ∀ m, entryFrame m as' maxL = mkF m 0 L0 [])
    (body : ∀ p e s m below meth c s₁, p.tables.exec = Jvm.exec → c.code = bytes → c.maxLocals = maxL → s.vm.findClass yy.cls = some m.cls → meth.name = yy.name → meth.sig.returnType = ret → meth.locks = false → Stand p l e rm s m as' below meth c s₁ [] 0 0 → s₁.heap = h0 → Z.Warmed39 s.vm → oGo p e below (oPP s Q rm.cells rm.slots) s₁ (mkF m 0 L0 [])) : oM l Z yy bytes maxL ret rm as' h0 Q := by
  refine MetFree.of_bodySF pl hisR ?_
  intro p e s m args below meth c s₁ Bd hml hP _
  obtain ⟨rfl, hZ, hh⟩ := hP
  exact ostart (hL m) (body p e s m below meth c s₁ Bd.exec Bd.bytes hml (findClass_of_methodNamed Bd.named) (name_of_methodNamed Bd.named Bd.method).1 Bd.returns (BodyLoose.notSynchronized Bd) (Stand.of_body Bd) (by rw [← hh, Bd.state]; rfl) hZ)
section Comp
variable {p : Program} {l : Launch} {e : Env} {R : Room} {s : State} {m : MethodId} {args : Array Value} {below : List Frame} {meth : Method} {c : Code} {T : State} {locs : List Loc} {cells slots : Nat} {P : Outcome → State → Prop} {B : ByteArray} {pc : Nat} {L L' : Array Slot} {S : List Value} {x y z : Int32} {v : Value} {Z : State} {a0 : Array Value} {h : Heap} {W n0 : Nat}
theorem uI (X : Stand p l e R s m args below meth c T locs cells slots) (hx : p.tables.exec = Jvm.exec) (hy : c.code = B) {k : Fin 4} (hd : decode B pc = .ok (.iload_n k, 1)) (hl : L[k.val]? = some (.val (.int z))) (n : Nat) (h : oGo p e below P T (mkF m n L (.int z :: S)))  (hn : pc + 1 = n := by rfl) : oGo p e below P T (mkF m pc L S) := by
  subst hn
  exact ob T _ (fun _ kk => XS.iloadN X.here hx rfl (hb hy hd) hl kk) h
theorem uI2 (X : Stand p l e R s m args below meth c T locs cells slots) (hx : p.tables.exec = Jvm.exec) (hy : c.code = B) {k : Nat} (hd : decode B pc = .ok (.iload k, 2)) (hl : L[k]? = some (.val (.int z))) (n : Nat) (h : oGo p e below P T (mkF m n L (.int z :: S)))  (hn : pc + 2 = n := by rfl) : oGo p e below P T (mkF m pc L S) := by
  subst hn
  exact ob T _ (fun _ kk => XS.iload X.here hx rfl (hb hy hd) hl kk) h
theorem uA (X : Stand p l e R s m args below meth c T locs cells slots) (hx : p.tables.exec = Jvm.exec) (hy : c.code = B) {k : Fin 4} (hd : decode B pc = .ok (.aload_n k, 1)) (hl : L[k.val]? = some (.val v)) (n : Nat) (h : oGo p e below P T (mkF m n L (v :: S))) (hv : v.isRef = true := by rfl) (hn : pc + 1 = n := by rfl) : oGo p e below P T (mkF m pc L S) := by
  subst hn
  exact ob T _ (fun _ kk => XS.aloadN X.here hx rfl (hb hy hd) hl hv kk) h
theorem uA2 (X : Stand p l e R s m args below meth c T locs cells slots) (hx : p.tables.exec = Jvm.exec) (hy : c.code = B) {k : Nat} (hd : decode B pc = .ok (.aload k, 2)) (hl : L[k]? = some (.val v)) (n : Nat) (h : oGo p e below P T (mkF m n L (v :: S))) (hv : v.isRef = true := by rfl) (hn : pc + 2 = n := by rfl) : oGo p e below P T (mkF m pc L S) := by
  subst hn
  exact ob T _ (fun _ kk => XS.aload X.here hx rfl (hb hy hd) hl hv kk) h
theorem uC (X : Stand p l e R s m args below meth c T locs cells slots) (hx : p.tables.exec = Jvm.exec) (hy : c.code = B) {i : Int} (hd : decode B pc = .ok (.iconst i, 1)) (z : Int32) (n : Nat) (h : oGo p e below P T (mkF m n L (.int z :: S))) (hz : Int32.ofInt i = z := by rfl) (hn : pc + 1 = n := by rfl) : oGo p e below P T (mkF m pc L S) := by
  subst hn; subst hz
  exact ob T _ (fun _ kk => XS.iconst X.here hx rfl (hb hy hd) kk) h
theorem uB (X : Stand p l e R s m args below meth c T locs cells slots) (hx : p.tables.exec = Jvm.exec) (hy : c.code = B) {i : Int} (hd : decode B pc = .ok (.bipush i, 2)) (z : Int32) (n : Nat) (h : oGo p e below P T (mkF m n L (.int z :: S))) (hz : (Int8.ofInt i).toInt32 = z := by rfl) (hn : pc + 2 = n := by rfl) : oGo p e below P T (mkF m pc L S) := by
  subst hn; subst hz
  exact ob T _ (fun _ kk => XS.bipush X.here hx rfl (hb hy hd) kk) h
theorem uS (X : Stand p l e R s m args below meth c T locs cells slots) (hx : p.tables.exec = Jvm.exec) (hy : c.code = B) {i : Int} (hd : decode B pc = .ok (.sipush i, 3)) (z : Int32) (n : Nat) (h : oGo p e below P T (mkF m n L (.int z :: S))) (hz : (Int16.ofInt i).toInt32 = z := by rfl) (hn : pc + 3 = n := by rfl) : oGo p e below P T (mkF m pc L S) := by
  subst hn; subst hz
  exact ob T _ (fun _ kk => XS.sipush X.here hx rfl (hb hy hd) kk) h
theorem uT (X : Stand p l e R s m args below meth c T locs cells slots) (hx : p.tables.exec = Jvm.exec) (hy : c.code = B) {k : Fin 4} (hd : decode B pc = .ok (.istore_n k, 1)) (L' : Array Slot) (n : Nat) (h : oGo p e below P T (mkF m n L' S)) (hl : storeLocals L k.val (.int z) = some L' := by rfl) (hn : pc + 1 = n := by rfl) : oGo p e below P T (mkF m pc L (.int z :: S)) := by
  subst hn
  exact ob T _ (fun _ kk => XS.istoreN X.here hx rfl (hb hy hd) rfl (l' := L') hl kk) h
theorem uT2 (X : Stand p l e R s m args below meth c T locs cells slots) (hx : p.tables.exec = Jvm.exec) (hy : c.code = B) {k : Nat} (hd : decode B pc = .ok (.istore k, 2)) (L' : Array Slot) (n : Nat) (h : oGo p e below P T (mkF m n L' S)) (hl : storeLocals L k (.int z) = some L' := by rfl) (hn : pc + 2 = n := by rfl) : oGo p e below P T (mkF m pc L (.int z :: S)) := by
  subst hn
  exact ob T _ (fun _ kk => XS.istore X.here hx rfl (hb hy hd) rfl (l' := L') hl kk) h
theorem uO (X : Stand p l e R s m args below meth c T locs cells slots) (hx : p.tables.exec = Jvm.exec) (hy : c.code = B) {k : Fin 4} (hd : decode B pc = .ok (.astore_n k, 1)) (L' : Array Slot) (n : Nat) (h : oGo p e below P T (mkF m n L' S)) (hv : v.isRef = true := by rfl) (hl : storeLocals L k.val v = some L' := by rfl) (hn : pc + 1 = n := by rfl) : oGo p e below P T (mkF m pc L (v :: S)) := by
  subst hn
  exact ob T _ (fun _ kk => XS.astoreN X.here hx rfl (hb hy hd) rfl hv (l' := L') hl kk) h
theorem uO2 (X : Stand p l e R s m args below meth c T locs cells slots) (hx : p.tables.exec = Jvm.exec) (hy : c.code = B) {k : Nat} (hd : decode B pc = .ok (.astore k, 2)) (L' : Array Slot) (n : Nat) (h : oGo p e below P T (mkF m n L' S)) (hv : v.isRef = true := by rfl) (hl : storeLocals L k v = some L' := by rfl) (hn : pc + 2 = n := by rfl) : oGo p e below P T (mkF m pc L (v :: S)) := by
  subst hn
  exact ob T _ (fun _ kk => XS.astore X.here hx rfl (hb hy hd) rfl hv (l' := L') hl kk) h
theorem uD (X : Stand p l e R s m args below meth c T locs cells slots) (hx : p.tables.exec = Jvm.exec) (hy : c.code = B)  (hd : decode B pc = .ok (.dup, 1))  (n : Nat) (h : oGo p e below P T (mkF m n L (v :: v :: S))) (hc : v.category = 1 := by rfl) (hn : pc + 1 = n := by rfl) : oGo p e below P T (mkF m pc L (v :: S)) := by
  subst hn
  exact ob T _ (fun _ kk => XS.dup X.here hx rfl (hb hy hd) rfl hc kk) h
theorem uAnd (X : Stand p l e R s m args below meth c T locs cells slots) (hx : p.tables.exec = Jvm.exec) (hy : c.code = B)  (hd : decode B pc = .ok (.iand, 1))  (n : Nat) (h : oGo p e below P T (mkF m n L (.int (x &&& y) :: S)))  (hn : pc + 1 = n := by rfl) : oGo p e below P T (mkF m pc L (.int y :: .int x :: S)) := by
  subst hn
  exact ob T _ (fun _ kk => XS.iand X.here hx rfl (hb hy hd) rfl kk) h
theorem uY (X : Stand p l e R s m args below meth c T locs cells slots) (hx : p.tables.exec = Jvm.exec) (hy : c.code = B) {cd : ClassFile.Cond} {o : Int} (hd : decode B pc = .ok (.ifCond cd o, 3)) (hc : ifCond.holds cd x = true) (n : Nat) (h : oGo p e below P T (mkF m n L S)) (ho : 0 ≤ (pc : Int) + o := by decide) (hp : ((pc : Int) + o).toNat = n := by decide) : oGo p e below P T (mkF m pc L (.int x :: S)) := ob T _ (fun _ kk => XS.ifYes X.here hx rfl (pc0 := pc) (pc' := n) rfl (hb hy hd) rfl hc ho hp kk) h
theorem uN (X : Stand p l e R s m args below meth c T locs cells slots) (hx : p.tables.exec = Jvm.exec) (hy : c.code = B) {cd : ClassFile.Cond} {o : Int} (hd : decode B pc = .ok (.ifCond cd o, 3)) (hc : ifCond.holds cd x = false) (n : Nat) (h : oGo p e below P T (mkF m n L S)) (hn : pc + 3 = n := by rfl) : oGo p e below P T (mkF m pc L (.int x :: S)) := by
  subst hn
  exact ob T _ (fun _ kk => XS.ifNo X.here hx rfl (hb hy hd) rfl hc kk) h
theorem uYc (X : Stand p l e R s m args below meth c T locs cells slots) (hx : p.tables.exec = Jvm.exec) (hy : c.code = B) {cd : ClassFile.Cond} {o : Int} (hd : decode B pc = .ok (.if_icmp cd o, 3)) (hc : if_icmp.holds cd x y = true) (n : Nat) (h : oGo p e below P T (mkF m n L S)) (ho : 0 ≤ (pc : Int) + o := by decide) (hp : ((pc : Int) + o).toNat = n := by decide) : oGo p e below P T (mkF m pc L (.int y :: .int x :: S)) := ob T _ (fun _ kk => XS.icmpYes X.here hx rfl (pc0 := pc) (pc' := n) rfl (hb hy hd) rfl hc ho hp kk) h
theorem uNc (X : Stand p l e R s m args below meth c T locs cells slots) (hx : p.tables.exec = Jvm.exec) (hy : c.code = B) {cd : ClassFile.Cond} {o : Int} (hd : decode B pc = .ok (.if_icmp cd o, 3)) (hc : if_icmp.holds cd x y = false) (n : Nat) (h : oGo p e below P T (mkF m n L S)) (hn : pc + 3 = n := by rfl) : oGo p e below P T (mkF m pc L (.int y :: .int x :: S)) := by
  subst hn
  exact ob T _ (fun _ kk => XS.icmpNo X.here hx rfl (hb hy hd) rfl hc kk) h
theorem uG (X : Stand p l e R s m args below meth c T locs cells slots) (hx : p.tables.exec = Jvm.exec) (hy : c.code = B) {o : Int} (hd : decode B pc = .ok (.goto o, 3)) (n : Nat) (h : oGo p e below P T (mkF m n L S)) (ho : 0 ≤ (pc : Int) + o := by decide) (hp : ((pc : Int) + o).toNat = n := by decide) : oGo p e below P T (mkF m pc L S) := ob T _ (fun _ kk => XS.goto X.here hx rfl (pc0 := pc) (pc' := n) rfl (hb hy hd) ho hp kk) h
theorem oR1 {Q : Option Value → Heap → List Loc → Prop} {rc rs : Nat} {w : Option Value} {g : JFrame} (X : Stand p l e R s m args below meth c T locs cells slots) (hv : meth.sig.returnType = none → w = none) (hlk : meth.locks = false) (eT : T.heap = h) (st : ∀ fs, (∀ (f : JFrame) (acts : List Action), f.method = m → f.locked = none → f.entered = [] → (doReturn e (T.setTop f) acts w).1 = T.setFrames fs) → Steps p.tables e below (T.setTop g) (T.setFrames fs)) (hq : Q w h locs) (h1 : cells ≤ rc) (h2 : slots ≤ rs) : oGo p e below (oPP s Q rc rs) T g := by
  obtain ⟨fs, hr, hrun, hended, hW, hsame⟩ := X.leave (v := w) hv hlk
  refine oout (st fs hr) hrun hended ⟨w, locs, rfl, ?_, ⟨_, rfl⟩, hW, hsame.mono h1 h2⟩
  show Q w T.heap locs
  rw [eT]; exact hq
theorem oRI {Q : Option Value → Heap → List Loc → Prop} {rc rs : Nat} (X : Stand p l e R s m args below meth c T locs cells slots) (hx : p.tables.exec = Jvm.exec) (hy : c.code = B) (hret : meth.sig.returnType = some .int) (hlk : meth.locks = false) (eT : T.heap = h) (hd : decode B pc = .ok (.ireturn, 1)) (hq : Q (some (.int z)) h locs) (h1 : cells ≤ rc := by decide) (h2 : slots ≤ rs := by decide) : oGo p e below (oPP s Q rc rs) T (mkF m pc L (.int z :: S)) := oR1 X (fun q => by rw [hret] at q; cases q) hlk eT (fun _ hr => retOut X hx hret rfl (Or.inl ⟨rfl, Or.inl rfl, _, rfl⟩) (hb hy hd) hr) hq h1 h2
theorem oRA {Q : Option Value → Heap → List Loc → Prop} {rc rs : Nat} (X : Stand p l e R s m args below meth c T locs cells slots) (hx : p.tables.exec = Jvm.exec) (hy : c.code = B) {t : FieldType} (hret : meth.sig.returnType = some t) (hlk : meth.locks = false) (eT : T.heap = h) (hd : decode B pc = .ok (.areturn, 1)) (hq : Q (some v) h locs) (ht : t.isReference = true := by rfl) (hw : v.isRef = true := by rfl) (h1 : cells ≤ rc := by decide) (h2 : slots ≤ rs := by decide) : oGo p e below (oPP s Q rc rs) T (mkF m pc L (v :: S)) := oR1 X (fun q => by rw [hret] at q; cases q) hlk eT (fun _ hr => oretA X hx hret ht hw (hb hy hd) hr) hq h1 h2
theorem oRV {Q : Option Value → Heap → List Loc → Prop} {rc rs : Nat} (X : Stand p l e R s m args below meth c T locs cells slots) (hx : p.tables.exec = Jvm.exec) (hy : c.code = B) (hret : meth.sig.returnType = none) (hlk : meth.locks = false) (eT : T.heap = h) (hd : decode B pc = .ok (.return_, 1)) (hq : Q none h locs) (h1 : cells ≤ rc := by decide) (h2 : slots ≤ rs := by decide) : oGo p e below (oPP s Q rc rs) T (mkF m pc L []) := oR1 X (fun _ => rfl) hlk eT (fun _ hr => X.returnOut hx hret (hb hy hd) hr) hq h1 h2
theorem oRZ {Q : Option Value → Heap → List Loc → Prop} {rc rs : Nat} (X : Stand p l e R s m args below meth c T locs cells slots) (hx : p.tables.exec = Jvm.exec) (hy : c.code = B) {t : FieldType} (hret : meth.sig.returnType = some t) (hlk : meth.locks = false) (eT : T.heap = h) (hd : decode B pc = .ok (.ireturn, 1)) (w : Int32) (hq : Q (some (.int w)) h locs) (hw : nar t z = w := by rfl) (ht : t = .boolean ∨ t = .byte ∨ t = .char ∨ t = .short := by simp) (h1 : cells ≤ rc := by decide) (h2 : slots ≤ rs := by decide) : oGo p e below (oPP s Q rc rs) T (mkF m pc L (.int z :: S)) := by
  subst hw
  exact oR1 X (fun q => by rw [hret] at q; cases q) hlk eT (fun _ hr => retN X hx hret ht (hb hy hd) hr) hq h1 h2
theorem oCp (X : Stand p l e R s m args below meth c T locs cells slots) (hx : p.tables.exec = Jvm.exec) (hy : c.code = B) (hZ : Z.Warmed39 s.vm) {own : String} {index ml : Nat} {yy : MethodName} {bytes : ByteArray} {maxL : Nat} {ret : Option FieldType} {ps : List FieldType} {rt : Option FieldType} (hown : s.vm.findClass own = some m.cls) (w1 : (Jvm.Cond.methodLink own index yy).before a0 Z = true) (w2 : (Jvm.Cond.static yy).before a0 Z = true) (w5 : (Jvm.Cond.code yy bytes maxL ret).before a0 Z = true) (w6 : (Jvm.Cond.initialized yy.cls).before a0 Z = true) {rm : Room} {as' : Array Value}
    {w : Value} (hM : oPu l Z yy bytes maxL ret rm as' h n0 (some w)) (eT : T.heap = h) (N : Fr n0 locs) (hml : c.maxLocals = ml) (argsL rest : List Value)
    (hpd : parseMethodDescriptor yy.desc = some ⟨ps, rt⟩) (hd : decode B pc = .ok (.invokestatic index, 3)) (n : Nat)
    (k : ∀ T' L', Stand p l e R s m args below meth c T' L' (cells + rm.cells) (slots + rm.slots) → T'.heap = h → Fr n0 L' → oGo p e below P T' (mkF m n L (w :: rest)))
    (hLs : L.size = ml := by rfl) (hlen : argsL.length = ps.length := by rfl) (has : argsL.toArray = as' := by rfl) (hS : S = argsL.reverse ++ rest := by rfl) (hym : yy.cls ≠ "java/lang/invoke/MethodHandle" ∧ yy.cls ≠ "java/lang/invoke/VarHandle" := by decide) (hrf : rm.frames + 1 ≤ R.frames := by decide) (hrl : (rest.map fun v => v.category).sum + (maxL + 11) + rm.locals ≤ R.locals := by exact Nat.le_of_ble_eq_true rfl) (hc : cells + rm.cells ≤ R.cells := by decide) (hs : slots + rm.slots ≤ R.slots := by decide) (hn : pc + 3 = n := by rfl) : oGo p e below P T (mkF m pc L S) := by
  subst hn
  obtain ⟨v1, _, ⟨T', L1, k1, n1⟩, -, X', ⟨Lc, hQ', l1, y1, z1⟩, st⟩ := Jvm.LawKit.callS X hx (y := yy) hown (mvT hZ w1) (mvT hZ w2) (mvT hZ w6) (mvT hZ w5) hym (backOf (W := (rest.map fun v => v.category).sum) (Q := fun v h' L => v = some w ∧ Fr n0 L ∧ h' = h) hM hZ w5 w6 hrf hrl) (g := mkF m pc L S) rfl (hLs.trans hml.symm) (argsL := argsL) (rest := rest) (lenOf hpd hlen) hS (by show 2 * 0 + _ ≤ _; exact Nat.le_of_eq (Nat.zero_add _)) (hb hy hd) (fun _ _ => ⟨has, eT, hc, hs⟩)
  dsimp only [Pt.U, Pt.locs, Pt.cells, Pt.slots] at X' l1 y1 z1 st hQ'
  subst l1 y1 z1
  obtain ⟨rfl, Nq, eh⟩ := hQ'
  exact oby (fun _ kk => st _ kk) (k T' _ X' eh (Fr.app N Nq))
theorem oCv (X : Stand p l e R s m args below meth c T locs cells slots) (hx : p.tables.exec = Jvm.exec) (hy : c.code = B) (hZ : Z.Warmed39 s.vm) {own : String} {index ml : Nat} {yy : MethodName} {bytes : ByteArray} {maxL : Nat} {ret : Option FieldType} {ps : List FieldType} {rt : Option FieldType} (hown : s.vm.findClass own = some m.cls) (w1 : (Jvm.Cond.methodLink own index yy).before a0 Z = true) (w2 : (Jvm.Cond.static yy).before a0 Z = true) (w5 : (Jvm.Cond.code yy bytes maxL ret).before a0 Z = true) (w6 : (Jvm.Cond.initialized yy.cls).before a0 Z = true) {rm : Room} {as' : Array Value}
    (hM : oPu l Z yy bytes maxL ret rm as' h n0 none) (eT : T.heap = h) (N : Fr n0 locs) (hml : c.maxLocals = ml) (argsL rest : List Value)
    (hpd : parseMethodDescriptor yy.desc = some ⟨ps, rt⟩) (hd : decode B pc = .ok (.invokestatic index, 3)) (n : Nat)
    (k : ∀ T' L', Stand p l e R s m args below meth c T' L' (cells + rm.cells) (slots + rm.slots) → T'.heap = h → Fr n0 L' → oGo p e below P T' (mkF m n L rest))
    (hLs : L.size = ml := by rfl) (hlen : argsL.length = ps.length := by rfl) (has : argsL.toArray = as' := by rfl) (hS : S = argsL.reverse ++ rest := by rfl) (hym : yy.cls ≠ "java/lang/invoke/MethodHandle" ∧ yy.cls ≠ "java/lang/invoke/VarHandle" := by decide) (hrf : rm.frames + 1 ≤ R.frames := by decide) (hrl : (rest.map fun v => v.category).sum + (maxL + 11) + rm.locals ≤ R.locals := by exact Nat.le_of_ble_eq_true rfl) (hc : cells + rm.cells ≤ R.cells := by decide) (hs : slots + rm.slots ≤ R.slots := by decide) (hn : pc + 3 = n := by rfl) : oGo p e below P T (mkF m pc L S) := by
  subst hn
  obtain ⟨v1, _, ⟨T', L1, k1, n1⟩, -, X', ⟨Lc, hQ', l1, y1, z1⟩, st⟩ := Jvm.LawKit.callS X hx (y := yy) hown (mvT hZ w1) (mvT hZ w2) (mvT hZ w6) (mvT hZ w5) hym (backOf (W := (rest.map fun v => v.category).sum) (Q := fun v h' L => v = none ∧ Fr n0 L ∧ h' = h) hM hZ w5 w6 hrf hrl) (g := mkF m pc L S) rfl (hLs.trans hml.symm) (argsL := argsL) (rest := rest) (lenOf hpd hlen) hS (by show 2 * 0 + _ ≤ _; exact Nat.le_of_eq (Nat.zero_add _)) (hb hy hd) (fun _ _ => ⟨has, eT, hc, hs⟩)
  dsimp only [Pt.U, Pt.locs, Pt.cells, Pt.slots] at X' l1 y1 z1 st hQ'
  subst l1 y1 z1
  obtain ⟨rfl, Nq, eh⟩ := hQ'
  exact oby (fun _ kk => st _ kk) (k T' _ X' eh (Fr.app N Nq))
theorem oVp (X : Stand p l e R s m args below meth c T locs cells slots) (hx : p.tables.exec = Jvm.exec) (hy : c.code = B) (hZ : Z.Warmed39 s.vm) {own C : String} {index ml : Nat} {yy : MethodName} {bytes : ByteArray} {maxL : Nat} {ret : Option FieldType} {ps : List FieldType} {rt : Option FieldType} (hown : s.vm.findClass own = some m.cls) (w1 : (Jvm.Cond.methodLink own index yy).before a0 Z = true) (w2 : (Jvm.Cond.declares yy).before a0 Z = true) (w3 : (Jvm.Cond.selects C yy yy).before a0 Z = true) (w4 : (Jvm.Cond.instanceMethod yy).before a0 Z = true) (w5 : (Jvm.Cond.code yy bytes maxL ret).before a0 Z = true) (w6 : (Jvm.Cond.initialized yy.cls).before a0 Z = true) {rm : Room} {as' : Array Value}
    {w : Value} (hM : oPu l Z yy bytes maxL ret rm as' h n0 (some w)) (eT : T.heap = h) {b : Addr} (E : Exa Z h b C) (N : Fr n0 locs) (hml : c.maxLocals = ml) (argsL rest : List Value)
    (hpd : parseMethodDescriptor yy.desc = some ⟨ps, rt⟩) (hd : decode B pc = .ok (.invokevirtual index, 3)) (n : Nat)
    (k : ∀ T' L', Stand p l e R s m args below meth c T' L' (cells + rm.cells) (slots + rm.slots) → T'.heap = h → Fr n0 L' → oGo p e below P T' (mkF m n L (w :: rest)))
    (hLs : L.size = ml := by rfl) (hlen : argsL.length = ps.length := by rfl) (has : (.ref b :: argsL).toArray = as' := by rfl) (hS : S = argsL.reverse ++ .ref b :: rest := by rfl) (hym : yy.cls ≠ "java/lang/invoke/MethodHandle" ∧ yy.cls ≠ "java/lang/invoke/VarHandle" := by decide) (hrf : rm.frames + 1 ≤ R.frames := by decide) (hrl : (rest.map fun v => v.category).sum + (maxL + 11) + rm.locals ≤ R.locals := by exact Nat.le_of_ble_eq_true rfl) (hc : cells + rm.cells ≤ R.cells := by decide) (hs : slots + rm.slots ≤ R.slots := by decide) (hn : pc + 3 = n := by rfl) : oGo p e below P T (mkF m pc L S) := by
  subst hn
  obtain ⟨cq, kq, qa, qb, qc⟩ := isOf hZ eT E
  obtain ⟨v1, _, ⟨T', L1, k1, n1⟩, -, X', ⟨Lc, hQ', l1, y1, z1⟩, st⟩ := X.virtualBack hx (y := yy) (z := yy) hown (mvT hZ w1) (mvT hZ w2) (notFace_of_selects (args := #[]) (mvT hZ w3)) (mvT hZ w3) (mvT hZ w4) hym (backOf (W := (rest.map fun v => v.category).sum) (Q := fun v h' L => v = some w ∧ Fr n0 L ∧ h' = h) hM hZ w5 w6 hrf hrl) qa qc (g := mkF m pc L S) rfl (hLs.trans hml.symm) (Steps.refl _) (argsL := argsL) (rest := rest) (lenOf hpd hlen) hS (by show 2 * 0 + _ ≤ _; exact Nat.le_of_eq (Nat.zero_add _)) (hb hy hd) (fun _ _ => ⟨has, eT, hc, hs⟩)
  dsimp only [Pt.U, Pt.locs, Pt.cells, Pt.slots] at X' l1 y1 z1 st hQ'
  subst l1 y1 z1
  obtain ⟨rfl, Nq, eh⟩ := hQ'
  exact oby (fun _ kk => st.trans kk) (k T' _ X' eh (Fr.app N Nq))
theorem oVv (X : Stand p l e R s m args below meth c T locs cells slots) (hx : p.tables.exec = Jvm.exec) (hy : c.code = B) (hZ : Z.Warmed39 s.vm) {own C : String} {index ml : Nat} {yy : MethodName} {bytes : ByteArray} {maxL : Nat} {ret : Option FieldType} {ps : List FieldType} {rt : Option FieldType} (hown : s.vm.findClass own = some m.cls) (w1 : (Jvm.Cond.methodLink own index yy).before a0 Z = true) (w2 : (Jvm.Cond.declares yy).before a0 Z = true) (w3 : (Jvm.Cond.selects C yy yy).before a0 Z = true) (w4 : (Jvm.Cond.instanceMethod yy).before a0 Z = true) (w5 : (Jvm.Cond.code yy bytes maxL ret).before a0 Z = true) (w6 : (Jvm.Cond.initialized yy.cls).before a0 Z = true) {rm : Room} {as' : Array Value}
    (hM : oPu l Z yy bytes maxL ret rm as' h n0 none) (eT : T.heap = h) {b : Addr} (E : Exa Z h b C) (N : Fr n0 locs) (hml : c.maxLocals = ml) (argsL rest : List Value)
    (hpd : parseMethodDescriptor yy.desc = some ⟨ps, rt⟩) (hd : decode B pc = .ok (.invokevirtual index, 3)) (n : Nat)
    (k : ∀ T' L', Stand p l e R s m args below meth c T' L' (cells + rm.cells) (slots + rm.slots) → T'.heap = h → Fr n0 L' → oGo p e below P T' (mkF m n L rest))
    (hLs : L.size = ml := by rfl) (hlen : argsL.length = ps.length := by rfl) (has : (.ref b :: argsL).toArray = as' := by rfl) (hS : S = argsL.reverse ++ .ref b :: rest := by rfl) (hym : yy.cls ≠ "java/lang/invoke/MethodHandle" ∧ yy.cls ≠ "java/lang/invoke/VarHandle" := by decide) (hrf : rm.frames + 1 ≤ R.frames := by decide) (hrl : (rest.map fun v => v.category).sum + (maxL + 11) + rm.locals ≤ R.locals := by exact Nat.le_of_ble_eq_true rfl) (hc : cells + rm.cells ≤ R.cells := by decide) (hs : slots + rm.slots ≤ R.slots := by decide) (hn : pc + 3 = n := by rfl) : oGo p e below P T (mkF m pc L S) := by
  subst hn
  obtain ⟨cq, kq, qa, qb, qc⟩ := isOf hZ eT E
  obtain ⟨v1, _, ⟨T', L1, k1, n1⟩, -, X', ⟨Lc, hQ', l1, y1, z1⟩, st⟩ := X.virtualBack hx (y := yy) (z := yy) hown (mvT hZ w1) (mvT hZ w2) (notFace_of_selects (args := #[]) (mvT hZ w3)) (mvT hZ w3) (mvT hZ w4) hym (backOf (W := (rest.map fun v => v.category).sum) (Q := fun v h' L => v = none ∧ Fr n0 L ∧ h' = h) hM hZ w5 w6 hrf hrl) qa qc (g := mkF m pc L S) rfl (hLs.trans hml.symm) (Steps.refl _) (argsL := argsL) (rest := rest) (lenOf hpd hlen) hS (by show 2 * 0 + _ ≤ _; exact Nat.le_of_eq (Nat.zero_add _)) (hb hy hd) (fun _ _ => ⟨has, eT, hc, hs⟩)
  dsimp only [Pt.U, Pt.locs, Pt.cells, Pt.slots] at X' l1 y1 z1 st hQ'
  subst l1 y1 z1
  obtain ⟨rfl, Nq, eh⟩ := hQ'
  exact oby (fun _ kk => st.trans kk) (k T' _ X' eh (Fr.app N Nq))
theorem oSc (X : Stand p l e R s m args below meth c T locs cells slots) (hx : p.tables.exec = Jvm.exec) (hy : c.code = B) (hZ : Z.Warmed39 s.vm) (eT : T.heap = h) {b : Addr} {kc : ClassId} {zl : Int32} {vs : List Value} {dv : Value} (V : Arv Z h b kc .char zl vs dv) {j : Int32} (hj : ¬ j < 0 ∧ j < zl) (i : Nat) (w : Int32) (hw : nar .char x = w) (hd : decode B pc = .ok (.castore, 1)) {h00 : Heap} {ws : List Addr} (O : Old Z n0 h) (K : Keep h00 h ws) (N : Fr n0 locs) (nb : n0 ≤ b) (qb : b ∈ ws ∨ h00.size ≤ b) (n : Nat)
    (k : ∀ T' h' L', Stand p l e R s m args below meth c T' L' cells slots → T'.heap = h' → Wr h h' b j.toNatClampNeg (.int w) → Arv Z h' b kc .char zl (vs.set i (.int w)) dv → Old Z n0 h' → Keep h00 h' ws → Fr n0 L' → oGo p e below P T' (mkF m n L S)) (hi : j.toNatClampNeg = i := by rfl) (hil : i < vs.length := by exact Nat.le_of_ble_eq_true rfl) (hn : pc + 1 = n := by rfl) : oGo p e below P T (mkF m pc L (.int x :: .int j :: .ref b :: S)) := by
  subst hn
  subst hw
  obtain ⟨cl, Ar, q, Sz, Na, H, G⟩ := id V
  have hin := inb_of Sz hj
  obtain ⟨T', h', X', e', W', st⟩ := stC X hx hZ eT Ar (j := j) hin (g := mkF m pc L (.int x :: .int j :: .ref b :: S)) rfl rfl (hb hy hd)
  exact oby (fun _ kk => st _ kk) (k T' h' _ X' e' W' (Arv.set Ar q Sz Na H G (fits_nar_char _) W' i hi hil) (O.wr W' nb) (K.wr W' qb) (Fr.snoc X' N nb))
theorem oSb (X : Stand p l e R s m args below meth c T locs cells slots) (hx : p.tables.exec = Jvm.exec) (hy : c.code = B) (hZ : Z.Warmed39 s.vm) (eT : T.heap = h) {b : Addr} {kc : ClassId} {zl : Int32} {vs : List Value} {dv : Value} (V : Arv Z h b kc .byte zl vs dv) {j : Int32} (hj : ¬ j < 0 ∧ j < zl) (i : Nat) (w : Int32) (hw : nar .byte x = w) (hd : decode B pc = .ok (.bastore, 1)) {h00 : Heap} {ws : List Addr} (O : Old Z n0 h) (K : Keep h00 h ws) (N : Fr n0 locs) (nb : n0 ≤ b) (qb : b ∈ ws ∨ h00.size ≤ b) (n : Nat)
    (k : ∀ T' h' L', Stand p l e R s m args below meth c T' L' cells slots → T'.heap = h' → Wr h h' b j.toNatClampNeg (.int w) → Arv Z h' b kc .byte zl (vs.set i (.int w)) dv → Old Z n0 h' → Keep h00 h' ws → Fr n0 L' → oGo p e below P T' (mkF m n L S)) (hi : j.toNatClampNeg = i := by rfl) (hil : i < vs.length := by exact Nat.le_of_ble_eq_true rfl) (hn : pc + 1 = n := by rfl) : oGo p e below P T (mkF m pc L (.int x :: .int j :: .ref b :: S)) := by
  subst hn
  subst hw
  obtain ⟨cl, Ar, q, Sz, Na, H, G⟩ := id V
  have hin := inb_of Sz hj
  obtain ⟨T', h', X', e', W', st⟩ := stB X hx hZ eT Ar (j := j) hin (g := mkF m pc L (.int x :: .int j :: .ref b :: S)) rfl rfl (hb hy hd)
  exact oby (fun _ kk => st _ kk) (k T' h' _ X' e' W' (Arv.set Ar q Sz Na H G (fits_nar_byte _) W' i hi hil) (O.wr W' nb) (K.wr W' qb) (Fr.snoc X' N nb))
theorem oLc (X : Stand p l e R s m args below meth c T locs cells slots) (hx : p.tables.exec = Jvm.exec) (hy : c.code = B) (hZ : Z.Warmed39 s.vm) (eT : T.heap = h) {b : Addr} {kc : ClassId} {zl : Int32} {vs : List Value} {dv : Value} (V : Arv Z h b kc .char zl vs dv) {j : Int32} (hj : ¬ j < 0 ∧ j < zl) (hu : vs.getD j.toNatClampNeg dv = .int x) (hd : decode B pc = .ok (.caload, 1)) (n : Nat) (k : oGo p e below P T (mkF m n L (.int x :: S))) (hn : pc + 1 = n := by rfl) : oGo p e below P T (mkF m pc L (.int j :: .ref b :: S)) := by
  subst hn
  obtain ⟨cl, Ar, -, Sz, Na, H, -⟩ := id V
  have hin := inb_of Sz hj
  exact oby (fun ot ok => X.caload hx (j := j) (v := .int x) (by rw [eT]; exact Ar.1) (State.isArrayOf_alike hZ.alike Ar.2.1) Ar.2.2 hin (Has.at H hin hu) (g := mkF m pc L (.int j :: .ref b :: S)) rfl rfl (hb hy hd) _ ok) k
theorem oLb (X : Stand p l e R s m args below meth c T locs cells slots) (hx : p.tables.exec = Jvm.exec) (hy : c.code = B) (hZ : Z.Warmed39 s.vm) (eT : T.heap = h) {b : Addr} {kc : ClassId} {zl : Int32} {vs : List Value} {dv : Value} (V : Arv Z h b kc .byte zl vs dv) {j : Int32} (hj : ¬ j < 0 ∧ j < zl) (hu : vs.getD j.toNatClampNeg dv = .int x) (hd : decode B pc = .ok (.baload, 1)) (n : Nat) (k : oGo p e below P T (mkF m n L (.int x :: S))) (hn : pc + 1 = n := by rfl) : oGo p e below P T (mkF m pc L (.int j :: .ref b :: S)) := by
  subst hn
  obtain ⟨cl, Ar, -, Sz, Na, H, -⟩ := id V
  have hin := inb_of Sz hj
  exact oby (fun ot ok => X.baloadBytes hx (j := j) (v := .int x) (by rw [eT]; exact Ar.1) (State.isArrayOf_alike hZ.alike Ar.2.1) Ar.2.2 hin (Has.at H hin hu) (g := mkF m pc L (.int j :: .ref b :: S)) rfl rfl (hb hy hd) _ ok) k
theorem oLn (X : Stand p l e R s m args below meth c T locs cells slots) (hx : p.tables.exec = Jvm.exec) (hy : c.code = B) (hZ : Z.Warmed39 s.vm) (eT : T.heap = h) {ty : FieldType} {b : Addr} {kc : ClassId} {zl : Int32} {vs : List Value} {dv : Value} (V : Arv Z h b kc ty zl vs dv) (hd : decode B pc = .ok (.arraylength, 1)) (n : Nat) (k : oGo p e below P T (mkF m n L (.int zl :: S))) (hn : pc + 1 = n := by rfl) : oGo p e below P T (mkF m pc L (.ref b :: S)) := by
  subst hn
  obtain ⟨cl, Ar, -, Sz, Na, H, -⟩ := id V
  exact oby (fun ot ok => X.arraylength hx (by rw [eT]; exact Ar.1) (State.isArrayOf_alike hZ.alike Ar.2.1) (g := mkF m pc L (.ref b :: S)) rfl rfl (hb hy hd) _ (by rw [len_of Sz Na]; exact ok)) k
theorem uInc (X : Stand p l e R s m args below meth c T locs cells slots) (hx : p.tables.exec = Jvm.exec) (hy : c.code = B) {k : Nat} {cst : Int} (hd : decode B pc = .ok (.iinc k cst, 3)) (hl : L[k]? = some (.val (.int x))) (L' : Array Slot) (n : Nat) (h : oGo p e below P T (mkF m n L' S)) (hl' : storeLocals L k (.int (x + Int32.ofInt cst)) = some L' := by rfl) (hn : pc + 3 = n := by rfl) : oGo p e below P T (mkF m pc L S) := by
  subst hn
  exact ob T _ (fun _ kk => XS.iinc X.here hx rfl (hb hy hd) hl (l' := L') hl' kk) h
theorem oGf (X : Stand p l e R s m args below meth c T locs cells slots) (hx : p.tables.exec = Jvm.exec) (hy : c.code = B) (hZ : Z.Warmed39 s.vm) {own R0 O nm d : String} {index : Nat} (hown : s.vm.findClass own = some m.cls) (w : (Jvm.Cond.fieldLink own index R0 nm d).before a0 Z = true) (via : Via Z R0 O nm d) (eT : T.heap = h) {b : Addr} (F : Fld Z h b O nm d v) (hd : decode B pc = .ok (.getfield index, 3)) (n : Nat) (k : ∀ T', Stand p l e R s m args below meth c T' locs cells slots → T'.heap = h → oGo p e below P T' (mkF m n L (v :: S))) (hn : pc + 3 = n := by rfl) : oGo p e below P T (mkF m pc L (.ref b :: S)) := by
  subst hn
  obtain ⟨T', X', e', st⟩ := getF X hx hZ hown (host := "") (Or.inl w) via eT F (g := mkF m pc L (.ref b :: S)) rfl rfl (hb hy hd)
  exact oby (fun _ kk => st _ kk) (k T' X' e')
theorem oGs (X : Stand p l e R s m args below meth c T locs cells slots) (hx : p.tables.exec = Jvm.exec) (hy : c.code = B) (hZ : Z.Warmed39 s.vm) {own C nm d : String} {index : Nat} (hown : s.vm.findClass own = some m.cls) (w : (Jvm.Cond.fieldLink own index C nm d).before a0 Z = true) (eT : T.heap = h) (F : Sta Z h C nm d v) (hd : decode B pc = .ok (.getstatic index, 3)) (n : Nat) (k : ∀ T', Stand p l e R s m args below meth c T' locs cells slots → T'.heap = h → oGo p e below P T' (mkF m n L (v :: S))) (hn : pc + 3 = n := by rfl) : oGo p e below P T (mkF m pc L S) := by
  subst hn
  obtain ⟨T', X', e', st⟩ := getS2 X hx hZ hown (host := "") (Or.inl w) Via.refl eT F (g := mkF m pc L S) rfl (hb hy hd)
  exact oby (fun _ kk => st _ kk) (k T' X' e')
end Comp

theorem own_sta {s : State} {args : Array Value} {C n d K : String} (h : (Cond.exactly (.static C n d) K).value args s none s [] = some true) (hi : (Cond.initializedFor C n d).before args s = true ∨ ((Cond.initialized C).before args s = true ∧ (Cond.laysStatic C n d).before args s = true)) :
    ∃ a, (Term.static C n d).eval args s none [] s = some (.ref a) ∧ Sta s s.heap C n d (.ref a) ∧ Exa s s.heap a K := by
  obtain ⟨a, ev⟩ := exa_v h
  exact ⟨a, ev, Sta.start ev hi, Exa.start ev h⟩
theorem own_fldI {s : State} {args : Array Value} {t : Term} {a : Addr} {C n d : String} {k : Int32} (ev : t.eval args s none [] s = some (.ref a)) (h : (Cond.eq (.field t C n d) (.int k)).value args s none s [] = some true) : Fld s s.heap a C n d (.int k) := by
  obtain ⟨x, y, ex, ey, k1, k2⟩ := cmp_v (Or.inl h)
  have e2 : y = .int k := (Option.some.inj ((Term.int_eval k).symm.trans ey)).symm
  subst e2
  obtain ⟨z, rfl⟩ := k2
  have e3 : z = k := gotT (Cond.eq_ints ex ey) h
  subst e3
  exact Fld.start ((fld_at ev).symm.trans ex)
theorem own_fldL {s : State} {args : Array Value} {t : Term} {a : Addr} {C n d : String} {k : Int64} (ev : t.eval args s none [] s = some (.ref a)) (h : (Cond.eq (.field t C n d) (.long k)).value args s none s [] = some true) : Fld s s.heap a C n d (.long k) := by
  obtain ⟨x, y, ex, ey, k1, k2⟩ := cmp_v (Or.inl h)
  have e2 : y = .long k := by simpa [Term.eval] using ey.symm
  subst e2
  obtain ⟨z, rfl⟩ := k2
  have e3 : z = k := gotT (eq_L ex ey) h
  subst e3
  exact Fld.start ((fld_at ev).symm.trans ex)
theorem own_fldN {s : State} {args : Array Value} {t : Term} {a : Addr} {C n d : String} (ev : t.eval args s none [] s = some (.ref a)) (h : (Cond.eq (.field t C n d) .null).value args s none s [] = some true) : Fld s s.heap a C n d .null :=
  Fld.start ((fld_at ev).symm.trans (null_v h))
theorem pn_0 : plainName sW = true := by first | (simp [plainName, overriddenIn]; done) | decide +kernel
theorem pn_1 : plainName "java/lang/String" = true := by first | (simp [plainName, overriddenIn]; done) | decide +kernel
theorem pn_2 : plainName "jdk/internal/util/Preconditions" = true := by first | (simp [plainName, overriddenIn]; done) | decide +kernel
theorem pn_3 : plainName "java/lang/StringLatin1" = true := by first | (simp [plainName, overriddenIn]; done) | decide +kernel
theorem pn_4 : plainName sU = true := by first | (simp [plainName, overriddenIn]; done) | decide +kernel
theorem pn_5 : plainName "java/util/Arrays" = true := by first | (simp [plainName, overriddenIn]; done) | decide +kernel
theorem pn_6 : plainName "java/lang/CharacterDataLatin1" = true := by first | (simp [plainName, overriddenIn]; done) | decide +kernel
theorem pn_7 : plainName "sun/util/locale/BaseLocale" = true := by first | (simp [plainName, overriddenIn]; done) | decide +kernel
theorem pn_8 : plainName "java/util/Locale" = true := by first | (simp [plainName, overriddenIn]; done) | decide +kernel
theorem pn_9 : plainName "java/util/Objects" = true := by first | (simp [plainName, overriddenIn]; done) | decide +kernel
theorem own_len {s : State} {args : Array Value} {t : Term} {a : Addr} {c : Cell} {z : Int32} (A : s.arrayAt? a = some c) (ev : t.eval args s none [] s = some (.ref a)) (h : (Cond.eq (.length t) (.int z)).value args s none s [] = some true) : c.slots.size < 2 ^ 31 ∧ c.slots.size.toInt32 = z := by
  have e := eqv_i (Term.int_eval z) h
  have hl : c.slots.size < 2 ^ 31 := by
    by_cases q : c.slots.size < 2 ^ 31
    · exact q
    · exfalso
      have q' : ¬ c.slots.size < 2147483648 := q
      simp [Term.eval, ev, A, q'] at e
  rw [len_f ev A hl] at e
  exact ⟨hl, by simpa using e⟩
theorem own_eqR {s : State} {args : Array Value} {X Y : Term} {w : Addr} (hY : Y.eval args s none [] s = some (.ref w)) (h : (Cond.eq X Y).value args s none s [] = some true) : X.eval args s none [] s = some (.ref w) := by
  obtain ⟨x, y, e1, e2, k1, k2⟩ := cmp_v (Or.inl h)
  cases hY.symm.trans e2
  have hx : x.isRef = true := k2.2
  rw [e1]
  exact congrArg some (gotT (eq_R e1 hY hx rfl) h)
theorem own_and255 (x : Int32) : ¬ nar .char ((x &&& (255 : Int32)).toUInt32.toUInt16.toUInt32.toInt32) < 0 ∧ ¬ (255 : Int32) < nar .char ((x &&& (255 : Int32)).toUInt32.toUInt16.toUInt32.toInt32) := by
  have t : ∀ k : Fin 256, ¬ nar .char ((Int32.ofNat k.val).toUInt32.toUInt16.toUInt32.toInt32) < 0 ∧ ¬ (255 : Int32) < nar .char ((Int32.ofNat k.val).toUInt32.toUInt16.toUInt32.toInt32) := by decide +kernel
  have h : (x &&& 255).toBitVec.toNat < 256 := by
    simp only [Int32.toBitVec_and, BitVec.toNat_and]
    exact Nat.lt_succ_of_le Nat.and_le_right
  have e : (x &&& 255) = Int32.ofNat (x &&& 255).toBitVec.toNat := by
    apply Int32.toBitVec_inj.mp
    show _ = BitVec.ofNat 32 _
    rw [BitVec.ofNat_toNat]; simp
  rw [e]
  exact t ⟨_, h⟩
theorem own_up (cs : List Int32) (h : ∀ c ∈ cs, ¬ c < 0 ∧ ¬ (255 : Int32) < c) : ∀ c ∈ cs, ¬ c < 0 ∧ ¬ (65535 : Int32) < c := fun c hc => ⟨(h c hc).1, fun q => (h c hc).2 (by rw [Int32.lt_iff_toInt_lt] at q ⊢; have e1 : (65535 : Int32).toInt = 65535 := rfl; have e2 : (255 : Int32).toInt = 255 := rfl; omega)⟩
theorem own_words : ∀ d ∈ StrChars.Road.words, d ∈ tables_1 := by decide +kernel

def oRg (c : Int32) : Prop := ¬ c < 0 ∧ ¬ (255 : Int32) < c
theorem own_fin {P : Int32 → Prop} (h : ∀ k : Fin 256, P (Int32.ofNat k.val)) (c : Int32) (hr : oRg c) : P c := by
  have h1 := hr.1
  have h2 := hr.2
  rw [Int32.lt_iff_toInt_lt] at h1 h2
  have e1 : (0 : Int32).toInt = 0 := by decide
  have e2 : (255 : Int32).toInt = 255 := by decide
  have hk : c.toInt.toNat < 256 := by omega
  have e : Int32.ofNat c.toInt.toNat = c := by
    apply Int32.toInt_inj.mp
    rw [Int32.toInt_ofNat_small (by omega)]
    omega
  exact e ▸ h ⟨c.toInt.toNat, hk⟩
theorem own_byte (c : Int32) (hr : oRg c) : nar .char (((c.toInt8.toInt32) &&& (255 : Int32)).toUInt32.toUInt16.toUInt32.toInt32) = c := own_fin (P := fun c => nar .char (((c.toInt8.toInt32) &&& (255 : Int32)).toUInt32.toUInt16.toUInt32.toInt32) = c) (by decide +kernel) c hr
theorem own_and8 (c : Int32) (hr : oRg c) : ((c.toInt8.toInt32) &&& (255 : Int32)) = c := own_fin (P := fun c => ((c.toInt8.toInt32) &&& (255 : Int32)) = c) (by decide +kernel) c hr
theorem own_nar (c : Int32) (hr : oRg c) : nar .char c = c := own_fin (P := fun c => nar .char c = c) (by decide +kernel) c hr
theorem own_rg (x : Int32) : oRg ((x &&& (255 : Int32)).toUInt32.toUInt16.toUInt32.toInt32) := by
  have t : ∀ k : Fin 256, ¬ ((Int32.ofNat k.val).toUInt32.toUInt16.toUInt32.toInt32) < 0 ∧ ¬ (255 : Int32) < ((Int32.ofNat k.val).toUInt32.toUInt16.toUInt32.toInt32) := by decide +kernel
  have h : (x &&& 255).toBitVec.toNat < 256 := by
    simp only [Int32.toBitVec_and, BitVec.toNat_and]
    exact Nat.lt_succ_of_le Nat.and_le_right
  have e : (x &&& 255) = Int32.ofNat (x &&& 255).toBitVec.toNat := by
    apply Int32.toBitVec_inj.mp
    show _ = BitVec.ofNat 32 _
    rw [BitVec.ofNat_toNat]; simp
  rw [e]
  exact t ⟨_, h⟩
def oLet (c : Int32) : Int32 := if c < (97 : Int32) then (if c < (65 : Int32) then 0 else if (90 : Int32) < c then 0 else 1) else if (122 : Int32) < c then (if c < (65 : Int32) then 0 else if (90 : Int32) < c then 0 else 1) else 1
def oSch (c : Int32) : Int32 := if oLet c = (0 : Int32) then (if c < (48 : Int32) then (if c = (43 : Int32) then 1 else if c = (45 : Int32) then 1 else if c = (46 : Int32) then 1 else 0) else if (57 : Int32) < c then (if c = (43 : Int32) then 1 else if c = (45 : Int32) then 1 else if c = (46 : Int32) then 1 else 0) else 1) else 1
def oLow (c : Int32) : Int32 := if c < (65 : Int32) then c else if (90 : Int32) < c then c else c + 32
theorem own_lowA (c : Int32) (hr : oRg c) : ¬ c < (65 : Int32) → ¬ (90 : Int32) < c → nar .char ((c + (32 : Int32)).toUInt32.toUInt16.toUInt32.toInt32) = oLow c := own_fin (P := fun c => ¬ c < (65 : Int32) → ¬ (90 : Int32) < c → nar .char ((c + (32 : Int32)).toUInt32.toUInt16.toUInt32.toInt32) = oLow c) (by decide +kernel) c hr
theorem own_lowB (c : Int32) (hr : oRg c) (h : c < (65 : Int32)) : nar .char c = oLow c := by rw [own_nar c hr]; simp [oLow, h]
theorem own_lowC (c : Int32) (hr : oRg c) (h : ¬ c < (65 : Int32)) (h2 : (90 : Int32) < c) : nar .char c = oLow c := by rw [own_nar c hr]; simp [oLow, h, h2]
theorem own_lowR (c : Int32) (hr : oRg c) : oRg (oLow c) := own_fin (P := fun c => ¬ (oLow c) < 0 ∧ ¬ (255 : Int32) < (oLow c)) (by decide +kernel) c hr
def oAt (st nn k c : Int32) : Int32 := if st < k then (if k < nn then (if c = (58 : Int32) then 1 else 0) else 0) else 0
def oCo (st nn c1 c2 c3 c4 c5 c6 c7 : Int32) : Int32 := if oAt st nn 1 c1 = (0 : Int32) then (if oAt st nn 2 c2 = (0 : Int32) then (if oAt st nn 3 c3 = (0 : Int32) then (if oAt st nn 4 c4 = (0 : Int32) then (if oAt st nn 5 c5 = (0 : Int32) then (if oAt st nn 6 c6 = (0 : Int32) then (if oAt st nn 7 c7 = (0 : Int32) then -1 else 7) else 6) else 5) else 4) else 3) else 2) else 1
def oOk (f t k c : Int32) : Int32 := if k < f then 1 else if k < t then (if oSch c = (0 : Int32) then 0 else 1) else 1
def oEn (st f nn cs c1 c2 c3 c4 c5 c6 c7 : Int32) : Int32 := if st < nn then (if oLet cs = (0 : Int32) then -1 else if oCo st nn c1 c2 c3 c4 c5 c6 c7 < (0 : Int32) then -1 else if oOk f (oCo st nn c1 c2 c3 c4 c5 c6 c7) 1 c1 = (0 : Int32) then -1 else if oOk f (oCo st nn c1 c2 c3 c4 c5 c6 c7) 2 c2 = (0 : Int32) then -1 else if oOk f (oCo st nn c1 c2 c3 c4 c5 c6 c7) 3 c3 = (0 : Int32) then -1 else if oOk f (oCo st nn c1 c2 c3 c4 c5 c6 c7) 4 c4 = (0 : Int32) then -1 else if oOk f (oCo st nn c1 c2 c3 c4 c5 c6 c7) 5 c5 = (0 : Int32) then -1 else if oOk f (oCo st nn c1 c2 c3 c4 c5 c6 c7) 6 c6 = (0 : Int32) then -1 else if oOk f (oCo st nn c1 c2 c3 c4 c5 c6 c7) 7 c7 = (0 : Int32) then -1 else oCo st nn c1 c2 c3 c4 c5 c6 c7) else -1
def oScan (nn : Int32) : List (Int32 × Int32) → Int32
  | [] => -1
  | p :: ps => if p.1 < nn then (if p.2 = (58 : Int32) then p.1 else if oSch p.2 = (0 : Int32) then -1 else oScan nn ps) else -1
def oSE (st nn cs : Int32) (ps : List (Int32 × Int32)) : Int32 := if st < nn then (if oLet cs = (0 : Int32) then -1 else oScan nn ps) else -1
theorem own_shr (n : Int32) : (n >>> ((0 : Int32) &&& 31)) = n := by
  have e : ((0 : Int32) &&& 31) = 0 := by decide
  rw [e]
  apply Int32.toBitVec_inj.mp
  simp
theorem own_sub0 (n : Int32) : n - (0 : Int32) = n := by simp
theorem own_0add (n : Int32) : (0 : Int32) + n = n := by simp
abbrev oE7 (e : Int32) : Prop := e = (1 : Int32) ∨ e = (2 : Int32) ∨ e = (3 : Int32) ∨ e = (4 : Int32) ∨ e = (5 : Int32) ∨ e = (6 : Int32) ∨ e = (7 : Int32)
abbrev oN8 (n : Int32) : Prop := n = (1 : Int32) ∨ n = (2 : Int32) ∨ n = (3 : Int32) ∨ n = (4 : Int32) ∨ n = (5 : Int32) ∨ n = (6 : Int32) ∨ n = (7 : Int32) ∨ n = (8 : Int32)
theorem own_e0 {e : Int32} (h : oE7 e) : ¬ e < 0 := by rcases h with rfl | rfl | rfl | rfl | rfl | rfl | rfl <;> decide
theorem own_e8 {e : Int32} (h : oE7 e) : e.toNatClampNeg ≤ 8 := by rcases h with rfl | rfl | rfl | rfl | rfl | rfl | rfl <;> decide
theorem own_en {e : Int32} (h : oE7 e) : ¬ e = (0 : Int32) := by rcases h with rfl | rfl | rfl | rfl | rfl | rfl | rfl <;> decide
theorem own_ltn {a b : Int32} (h : a < b) : ¬ a = b := fun q => by subst q; rw [Int32.lt_iff_toInt_lt] at h; omega
theorem own_ltc {a b : Int32} (h0 : ¬ a < 0) (h : a < b) : a.toNatClampNeg ≤ b.toNatClampNeg := by
  rw [Int32.lt_iff_toInt_lt] at *
  show a.toInt.toNat ≤ b.toInt.toNat
  omega
theorem own_ngt {a b : Int32} (h : a < b) : ¬ b < a := by
  rw [Int32.lt_iff_toInt_lt] at *
  omega
theorem own_arvEq {Z : State} {h : Heap} {a : Addr} {k : ClassId} {ty : FieldType} {z : Int32} {vs vs' : List Value} {dv : Value} (F : Arv Z h a k ty z vs dv) (q : ∀ i, i < z.toNatClampNeg → vs'.getD i dv = vs.getD i dv) : Arv Z h a k ty z vs' dv := by
  obtain ⟨c, A, r1, r2, r3, H, G⟩ := F
  exact ⟨c, A, r1, r2, r3, fun i hi => by rw [q i (r2 ▸ hi)]; exact H i hi, fun i hi => by rw [q i (r2 ▸ hi)]; exact G i hi⟩
theorem own_pre (L1 L2 : List Value) (d : Value) : ∀ i, i < L1.length → (L1 ++ L2).getD i d = L1.getD i d := fun i hi => by
  simp only [List.getD_eq_getElem?_getD, List.getElem?_append_left hi]
theorem own_cpy (vs vd : List Value) (d : Value) (n : Nat) : ∀ i, i < n → vs.getD i d = (vd.take 0 ++ ((List.range n).map fun i => vs.getD (0 + i) d) ++ vd.drop (0 + n)).getD i d := fun i hi => by
  simp [List.getD_eq_getElem?_getD, List.getElem?_append_left, hi]
theorem own_arvNe {Z : State} {h : Heap} {a b : Addr} {k k' : ClassId} {ty ty' : FieldType} {z z' : Int32} {vs vs' : List Value} {dv dv' : Value} (F : Arv Z h a k ty z vs dv) (G : Arv Z h b k' ty' z' vs' dv') (q : z.toNatClampNeg ≠ z'.toNatClampNeg) : a ≠ b := fun e => by
  subst e
  obtain ⟨c, A, -, r2, -⟩ := F
  obtain ⟨c', A', -, r2', -⟩ := G
  cases A.1.symm.trans A'.1
  exact q (r2.symm.trans r2')

def oMer (p : Program) (e : Env) (below : List Frame) (A : Int32 → Prop) (T : State) (g' : Int32 → JFrame) (g : JFrame) : Prop := ∃ z, A z ∧ ∀ t, Steps p.tables e below (T.setTop (g' z)) t → Steps p.tables e below (T.setTop g) t
theorem om {p : Program} {e : Env} {below : List Frame} {A : Int32 → Prop} {T : State} {g' : Int32 → JFrame} {g g1 : JFrame} (k : ∀ t, Steps p.tables e below (T.setTop g1) t → Steps p.tables e below (T.setTop g) t) (h : oMer p e below A T g' g1) : oMer p e below A T g' g := by
  obtain ⟨z, h1, h2⟩ := h
  exact ⟨z, h1, fun t q => k t (h2 t q)⟩
theorem omerge {p : Program} {e : Env} {below : List Frame} {P : Outcome → State → Prop} {A : Int32 → Prop} {T : State} {g' : Int32 → JFrame} {g : JFrame} (h1 : oMer p e below A T g' g) (h2 : ∀ z, A z → oGo p e below P T (g' z)) : oGo p e below P T g := by
  obtain ⟨z, ha, k⟩ := h1
  exact oby k (h2 z ha)
theorem omergeE {p : Program} {e : Env} {below : List Frame} {P : Outcome → State → Prop} {w : Int32} {T : State} {g' : Int32 → JFrame} {g : JFrame} (h1 : oMer p e below (fun z => z = w) T g' g) (h2 : oGo p e below P T (g' w)) : oGo p e below P T g := by
  obtain ⟨z, ha, k⟩ := h1
  exact oby (fun t q => k t (by rw [show z = w from ha]; exact q)) h2

def oEL : List (String × Nat) := [("java/lang/String", 7), (sU, 40), ("java/lang/StringLatin1", 168), ("java/lang/StringLatin1", 170), ("java/lang/StringLatin1", 172)]
theorem own_EW {Z : State} {a0 : Array Value} (hw : ∀ d ∈ tables_1, d.before a0 Z = true) : EW Z a0 oEL := (EW.cons (ow hw 22 rfl) (by decide) (EW.cons (ow hw 146 rfl) (by decide) (EW.cons (ow hw 186 rfl) (by decide) (EW.cons (ow hw 187 rfl) (by decide) (EW.cons (ow hw 188 rfl) (by decide) EW.nil)))))
theorem own_atoms : ∀ d ∈ Bundle.stringAtoms, d ∈ tables_1 := by decide +kernel
abbrev oMc (l : Launch) (Z : State) (yy : MethodName) (bytes : ByteArray) (maxL : Nat) (ret : Option FieldType) (rm : Room) (as' : Array Value) (h : Heap) (Q : Option Value → Heap → List Loc → Prop) : Prop := MetFree l yy (head1 [Jvm.Cond.code yy bytes maxL ret] rm) (fun a U => a = as' ∧ Z.Warmed39 U.vm ∧ U.heap = h ∧ CHv Z oEL U.vm h) (fun _ _ _ _ _ => True) (fun _ U o U' => ∃ v L, o = .returned v ∧ Q v U'.heap L ∧ CHr Z oEL U.vm U.heap U'.vm U'.heap ∧ ReturnedEndW U o U' L rm.cells rm.slots)
abbrev oMs (l : Launch) (Z : State) (yy : MethodName) (bytes : ByteArray) (maxL : Nat) (ret : Option FieldType) (rm : Room) (as' : Array Value) (h : Heap) (x : Addr) (Q : Option Value → Heap → List Loc → Prop) : Prop := MetFree l yy (head1 [Jvm.Cond.code yy bytes maxL ret] rm) (fun a U => a = as' ∧ Z.Warmed39 U.vm ∧ U.heap = h ∧ CHv Z oEL U.vm h ∧ Safe Z oEL U.vm h x) (fun _ _ _ _ _ => True) (fun _ U o U' => ∃ v L, o = .returned v ∧ Q v U'.heap L ∧ CHr Z oEL U.vm U.heap U'.vm U'.heap ∧ ReturnedEndW U o U' L rm.cells rm.slots)
theorem oBodyC {l : Launch} {Z : State} {yy : MethodName} {bytes : ByteArray} {maxL : Nat} {ret : Option FieldType} {rm : Room} {as' : Array Value} {h0 : Heap} {Q : Option Value → Heap → List Loc → Prop} (pl : plainFor yy = true) (L0 : Array Slot) (hL : ∀ m, entryFrame m as' maxL = mkF m 0 L0 [])
    (body : ∀ p e s m below meth c s₁, p.tables.exec = Jvm.exec → c.code = bytes → c.maxLocals = maxL → s.vm.findClass yy.cls = some m.cls → meth.name = yy.name → meth.sig.returnType = ret → meth.locks = false → Stand p l e rm (s.setVm s.vm) m as' below meth c s₁ [] 0 0 → s.heap = h0 → s₁.heap = h0 → Z.Warmed39 s.vm → CHv Z oEL s.vm h0 → oGo p e below (fun o U => ∃ v L, o = .returned v ∧ Q v U.heap L ∧ CHr Z oEL s.vm s.heap U.vm U.heap ∧ ReturnedEndW s o U L rm.cells rm.slots) s₁ (mkF m 0 L0 [])) : oMc l Z yy bytes maxL ret rm as' h0 Q := by
  refine MetFree.of_bodySF pl hisR ?_
  intro p e s m args below meth c s₁ Bd hml hP _
  obtain ⟨rfl, hZ, hh, hC⟩ := hP
  exact ostart (hL m) (body p e s m below meth c s₁ Bd.exec Bd.bytes hml (findClass_of_methodNamed Bd.named) (name_of_methodNamed Bd.named Bd.method).1 Bd.returns (BodyLoose.notSynchronized Bd) (Stand.of_body Bd) hh (by rw [← hh, Bd.state]; rfl) hZ hC)
theorem oBodyS {l : Launch} {Z : State} {yy : MethodName} {bytes : ByteArray} {maxL : Nat} {ret : Option FieldType} {rm : Room} {as' : Array Value} {h0 : Heap} {x : Addr} {Q : Option Value → Heap → List Loc → Prop} (pl : plainFor yy = true) (L0 : Array Slot) (hL : ∀ m, entryFrame m as' maxL = mkF m 0 L0 [])
    (body : ∀ p e s m below meth c s₁, p.tables.exec = Jvm.exec → c.code = bytes → c.maxLocals = maxL → s.vm.findClass yy.cls = some m.cls → meth.name = yy.name → meth.sig.returnType = ret → meth.locks = false → Stand p l e rm (s.setVm s.vm) m as' below meth c s₁ [] 0 0 → s.heap = h0 → s₁.heap = h0 → Z.Warmed39 s.vm → CHv Z oEL s.vm h0 → Safe Z oEL s.vm h0 x → oGo p e below (fun o U => ∃ v L, o = .returned v ∧ Q v U.heap L ∧ CHr Z oEL s.vm s.heap U.vm U.heap ∧ ReturnedEndW s o U L rm.cells rm.slots) s₁ (mkF m 0 L0 [])) : oMs l Z yy bytes maxL ret rm as' h0 x Q := by
  refine MetFree.of_bodySF pl hisR ?_
  intro p e s m args below meth c s₁ Bd hml hP _
  obtain ⟨rfl, hZ, hh, hC, hs⟩ := hP
  exact ostart (hL m) (body p e s m below meth c s₁ Bd.exec Bd.bytes hml (findClass_of_methodNamed Bd.named) (name_of_methodNamed Bd.named Bd.method).1 Bd.returns (BodyLoose.notSynchronized Bd) (Stand.of_body Bd) hh (by rw [← hh, Bd.state]; rfl) hZ hC hs)

def St0 (Z : State) (wR wI : Addr) (zc : Int32) (vf : Value) (wB wL wV : Addr) (cV : Cell) : Prop := Sta Z Z.heap "java/util/Locale" "ROOT" "Ljava/util/Locale;" (.ref wR) ∧ Exa Z Z.heap wR "java/util/Locale" ∧ Sta Z Z.heap "java/lang/CharacterDataLatin1" "instance" "Ljava/lang/CharacterDataLatin1;" (.ref wI) ∧ Exa Z Z.heap wI "java/lang/CharacterDataLatin1" ∧ Sta Z Z.heap "java/lang/String" "COMPACT_STRINGS" "Z" (.int zc) ∧ ¬ (zc = (0 : Int32)) ∧ Sta Z Z.heap "jdk/internal/util/Preconditions" "SIOOBE_FORMATTER" "Ljava/util/function/BiFunction;" vf ∧ vf.isRef = true ∧ Fld Z Z.heap wR "java/util/Locale" "baseLocale" "Lsun/util/locale/BaseLocale;" (.ref wB) ∧ Exa Z Z.heap wB "sun/util/locale/BaseLocale" ∧ Fld Z Z.heap wB "sun/util/locale/BaseLocale" "language" "Ljava/lang/String;" (.ref wL) ∧ Exa Z Z.heap wL "java/lang/String" ∧ Fld Z Z.heap wL "java/lang/String" "value" "[B" (.ref wV) ∧ Arv Z Z.heap wV cV.cls .byte (0 : Int32) [] (.int (0 : Int32))
abbrev oH (Z : State) (a0 : Array Value) (n0 : Nat) (h0 : Heap) (wR wI : Addr) (zc : Int32) (vf : Value) (wB wL wV : Addr) (cV : Cell) : Prop := (∀ d ∈ tables_1, d.before a0 Z = true) ∧ Old Z n0 h0 ∧ St0 Z wR wI zc vf wB wL wV cV
variable {l : Launch} {Z : State} {a0 : Array Value} {wR wI wB wL wV : Addr} {zc : Int32} {vf : Value} {cV : Cell} {h0 : Heap} {n0 : Nat}

abbrev K10 (n : Nat) (i : Instr) (k : Nat) : Prop := decode method_10_code n = .ok (i, k)
set_option maxRecDepth 65536 in
theorem t10 : K10 0 (.iload_n 0) 1 ∧ K10 1 (.bipush 97) 2 ∧ K10 3 (.if_icmp .lt 9) 3 ∧ K10 6 (.iload_n 0) 1 ∧ K10 7 (.bipush 122) 2 ∧ K10 9 (.if_icmp .le 15) 3 ∧ K10 12 (.iload_n 0) 1 ∧ K10 13 (.bipush 65) 2 ∧ K10 15 (.if_icmp .lt 13) 3 ∧ K10 18 (.iload_n 0) 1 ∧ K10 19 (.bipush 90) 2 ∧ K10 21 (.if_icmp .gt 7) 3 ∧ K10 24 (.iconst 1) 1 ∧ K10 25 (.goto 4) 3 ∧ K10 28 (.iconst 0) 1 ∧ K10 29 .ireturn 1 := by and_intros <;> decide +kernel
theorem rm_let (c : Int32) (H : oH Z a0 n0 h0 wR wI zc vf wB wL wV cV) : oPu l Z (⟨sW, "letter", "(C)Z"⟩ : MethodName) method_10_code 1 (some .boolean) (oRm 0 0 0 0) #[(.int c)] h0 n0 (some (.int (oLet c))) := by
  obtain ⟨hw, O0, hS⟩ := H
  refine oBody (plainFor_of_name pn_0) #[oi c] (fun _ => by first | (simp [entryFrame, mkF, argsToLocals, Value.category]; done) | rfl) ?_
  intro pG eG sG mG belowG methG cG s₁ hx hby hml hown hnm hret hlk X0 e0 hZ
  have N0 := Fr.nil n0
  have K0 := Keep.refl h0 []
  obtain ⟨d0, d1, d3, d6, d7, d9, d12, d13, d15, d18, d19, d21, d24, d25, d28, d29⟩ := t10
  refine uI X0 hx hby d0 rfl 1 (uB X0 hx hby d1 97 3 ?_)
  by_cases hc1 : c < (97 : Int32)
  · refine uYc X0 hx hby d3 (tlt hc1).1 12 (uI X0 hx hby d12 rfl 13 (uB X0 hx hby d13 65 15 ?_))
    by_cases hc2 : c < (65 : Int32)
    · refine uYc X0 hx hby d15 (tlt hc2).1 28 (uC X0 hx hby d28 0 29 ?_)
      exact oRZ X0 hx hby hret hlk e0 d29 (0 : Int32) ⟨(by simp [oLet, hc1, hc2]), N0, rfl⟩
    refine uNc X0 hx hby d15 (flt hc2).1 18 (uI X0 hx hby d18 rfl 19 (uB X0 hx hby d19 90 21 ?_))
    by_cases hc3 : (90 : Int32) < c
    · refine uYc X0 hx hby d21 (tlt hc3).2.2.1 28 (uC X0 hx hby d28 0 29 ?_)
      exact oRZ X0 hx hby hret hlk e0 d29 (0 : Int32) ⟨(by simp [oLet, hc1, hc2, hc3]), N0, rfl⟩
    refine uNc X0 hx hby d21 (flt hc3).2.2.1 24 (uC X0 hx hby d24 1 25 (uG X0 hx hby d25 29 ?_))
    exact oRZ X0 hx hby hret hlk e0 d29 (1 : Int32) ⟨(by simp [oLet, hc1, hc2, hc3]), N0, rfl⟩
  refine uNc X0 hx hby d3 (flt hc1).1 6 (uI X0 hx hby d6 rfl 7 (uB X0 hx hby d7 122 9 ?_))
  by_cases hc4 : (122 : Int32) < c
  · refine uNc X0 hx hby d9 (tlt hc4).2.2.2 12 (uI X0 hx hby d12 rfl 13 (uB X0 hx hby d13 65 15 ?_))
    by_cases hc5 : c < (65 : Int32)
    · refine uYc X0 hx hby d15 (tlt hc5).1 28 (uC X0 hx hby d28 0 29 ?_)
      exact oRZ X0 hx hby hret hlk e0 d29 (0 : Int32) ⟨(by simp [oLet, hc1, hc4, hc5]), N0, rfl⟩
    refine uNc X0 hx hby d15 (flt hc5).1 18 (uI X0 hx hby d18 rfl 19 (uB X0 hx hby d19 90 21 ?_))
    by_cases hc6 : (90 : Int32) < c
    · refine uYc X0 hx hby d21 (tlt hc6).2.2.1 28 (uC X0 hx hby d28 0 29 ?_)
      exact oRZ X0 hx hby hret hlk e0 d29 (0 : Int32) ⟨(by simp [oLet, hc1, hc4, hc5, hc6]), N0, rfl⟩
    refine uNc X0 hx hby d21 (flt hc6).2.2.1 24 (uC X0 hx hby d24 1 25 (uG X0 hx hby d25 29 ?_))
    exact oRZ X0 hx hby hret hlk e0 d29 (1 : Int32) ⟨(by simp [oLet, hc1, hc4, hc5, hc6]), N0, rfl⟩
  refine uYc X0 hx hby d9 (flt hc4).2.2.2 24 (uC X0 hx hby d24 1 25 (uG X0 hx hby d25 29 ?_))
  exact oRZ X0 hx hby hret hlk e0 d29 (1 : Int32) ⟨(by simp [oLet, hc1, hc4]), N0, rfl⟩

abbrev K14 (n : Nat) (i : Instr) (k : Nat) : Prop := decode method_11_code n = .ok (i, k)
set_option maxRecDepth 65536 in
theorem t14 : K14 0 (.iload_n 0) 1 ∧ K14 1 (.invokestatic 59) 3 ∧ K14 4 (.ifCond .ne 33) 3 ∧ K14 7 (.iload_n 0) 1 ∧ K14 8 (.bipush 48) 2 ∧ K14 10 (.if_icmp .lt 9) 3 ∧ K14 13 (.iload_n 0) 1 ∧ K14 14 (.bipush 57) 2 ∧ K14 16 (.if_icmp .le 21) 3 ∧ K14 19 (.iload_n 0) 1 ∧ K14 20 (.bipush 43) 2 ∧ K14 22 (.if_icmp .eq 15) 3 ∧ K14 25 (.iload_n 0) 1 ∧ K14 26 (.bipush 45) 2 ∧ K14 28 (.if_icmp .eq 9) 3 ∧ K14 31 (.iload_n 0) 1 ∧ K14 32 (.bipush 46) 2 ∧ K14 34 (.if_icmp .ne 7) 3 ∧ K14 37 (.iconst 1) 1 ∧ K14 38 (.goto 4) 3 ∧ K14 41 (.iconst 0) 1 ∧ K14 42 .ireturn 1 := by and_intros <;> decide +kernel
theorem pd_0 : parseMethodDescriptor "(C)Z" = some ⟨[.char], some .boolean⟩ := by decide +kernel
theorem rm_sch (c : Int32) (H : oH Z a0 n0 h0 wR wI zc vf wB wL wV cV) : oPu l Z (⟨sW, "sch", "(C)Z"⟩ : MethodName) method_11_code 1 (some .boolean) (oRm 1 0 0 12) #[(.int c)] h0 n0 (some (.int (oSch c))) := by
  obtain ⟨hw, O0, hS⟩ := H
  refine oBody (plainFor_of_name pn_0) #[oi c] (fun _ => by first | (simp [entryFrame, mkF, argsToLocals, Value.category]; done) | rfl) ?_
  intro pG eG sG mG belowG methG cG s₁ hx hby hml hown hnm hret hlk X0 e0 hZ
  have N0 := Fr.nil n0
  have K0 := Keep.refl h0 []
  obtain ⟨d0, d1, d4, d7, d8, d10, d13, d14, d16, d19, d20, d22, d25, d26, d28, d31, d32, d34, d37, d38, d41, d42⟩ := t14
  refine uI X0 hx hby d0 rfl 1 ?_
  refine oCp X0 hx hby hZ hown (ow hw 44 rfl) (ow hw 45 rfl) (ow hw 46 rfl) (ow hw 3 rfl) (rm_let c ⟨hw, O0, hS⟩ ) e0 N0 hml [(.int c)] [] pd_0 d1 4 ?_
  intro T1 L1 X1 e1 N1
  by_cases hc2 : (oLet c) = (0 : Int32)
  · refine uN X1 hx hby d4 ((if0 _ _).trans (teq hc2).2) 7 (uI X1 hx hby d7 rfl 8 (uB X1 hx hby d8 48 10 ?_))
    by_cases hc3 : c < (48 : Int32)
    · refine uYc X1 hx hby d10 (tlt hc3).1 19 (uI X1 hx hby d19 rfl 20 (uB X1 hx hby d20 43 22 ?_))
      by_cases hc4 : c = (43 : Int32)
      · refine uYc X1 hx hby d22 (teq hc4).1 37 (uC X1 hx hby d37 1 38 (uG X1 hx hby d38 42 ?_))
        exact oRZ X1 hx hby hret hlk e1 d42 (1 : Int32) ⟨(by simp [oSch, hc2, hc3, hc4]), N1, rfl⟩
      refine uNc X1 hx hby d22 (feq hc4).1 25 (uI X1 hx hby d25 rfl 26 (uB X1 hx hby d26 45 28 ?_))
      by_cases hc5 : c = (45 : Int32)
      · refine uYc X1 hx hby d28 (teq hc5).1 37 (uC X1 hx hby d37 1 38 (uG X1 hx hby d38 42 ?_))
        exact oRZ X1 hx hby hret hlk e1 d42 (1 : Int32) ⟨(by simp [oSch, hc2, hc3, hc4, hc5]), N1, rfl⟩
      refine uNc X1 hx hby d28 (feq hc5).1 31 (uI X1 hx hby d31 rfl 32 (uB X1 hx hby d32 46 34 ?_))
      by_cases hc6 : c = (46 : Int32)
      · refine uNc X1 hx hby d34 (teq hc6).2 37 (uC X1 hx hby d37 1 38 (uG X1 hx hby d38 42 ?_))
        exact oRZ X1 hx hby hret hlk e1 d42 (1 : Int32) ⟨(by simp [oSch, hc2, hc3, hc4, hc5, hc6]), N1, rfl⟩
      refine uYc X1 hx hby d34 (feq hc6).2 41 (uC X1 hx hby d41 0 42 ?_)
      exact oRZ X1 hx hby hret hlk e1 d42 (0 : Int32) ⟨(by simp [oSch, hc2, hc3, hc4, hc5, hc6]), N1, rfl⟩
    refine uNc X1 hx hby d10 (flt hc3).1 13 (uI X1 hx hby d13 rfl 14 (uB X1 hx hby d14 57 16 ?_))
    by_cases hc7 : (57 : Int32) < c
    · refine uNc X1 hx hby d16 (tlt hc7).2.2.2 19 (uI X1 hx hby d19 rfl 20 (uB X1 hx hby d20 43 22 ?_))
      by_cases hc8 : c = (43 : Int32)
      · refine uYc X1 hx hby d22 (teq hc8).1 37 (uC X1 hx hby d37 1 38 (uG X1 hx hby d38 42 ?_))
        exact oRZ X1 hx hby hret hlk e1 d42 (1 : Int32) ⟨(by simp [oSch, hc2, hc3, hc7, hc8]), N1, rfl⟩
      refine uNc X1 hx hby d22 (feq hc8).1 25 (uI X1 hx hby d25 rfl 26 (uB X1 hx hby d26 45 28 ?_))
      by_cases hc9 : c = (45 : Int32)
      · refine uYc X1 hx hby d28 (teq hc9).1 37 (uC X1 hx hby d37 1 38 (uG X1 hx hby d38 42 ?_))
        exact oRZ X1 hx hby hret hlk e1 d42 (1 : Int32) ⟨(by simp [oSch, hc2, hc3, hc7, hc8, hc9]), N1, rfl⟩
      refine uNc X1 hx hby d28 (feq hc9).1 31 (uI X1 hx hby d31 rfl 32 (uB X1 hx hby d32 46 34 ?_))
      by_cases hc10 : c = (46 : Int32)
      · refine uNc X1 hx hby d34 (teq hc10).2 37 (uC X1 hx hby d37 1 38 (uG X1 hx hby d38 42 ?_))
        exact oRZ X1 hx hby hret hlk e1 d42 (1 : Int32) ⟨(by simp [oSch, hc2, hc3, hc7, hc8, hc9, hc10]), N1, rfl⟩
      refine uYc X1 hx hby d34 (feq hc10).2 41 (uC X1 hx hby d41 0 42 ?_)
      exact oRZ X1 hx hby hret hlk e1 d42 (0 : Int32) ⟨(by simp [oSch, hc2, hc3, hc7, hc8, hc9, hc10]), N1, rfl⟩
    refine uYc X1 hx hby d16 (flt hc7).2.2.2 37 (uC X1 hx hby d37 1 38 (uG X1 hx hby d38 42 ?_))
    exact oRZ X1 hx hby hret hlk e1 d42 (1 : Int32) ⟨(by simp [oSch, hc2, hc3, hc7]), N1, rfl⟩
  refine uY X1 hx hby d4 ((if0 _ _).trans (feq hc2).2) 37 (uC X1 hx hby d37 1 38 (uG X1 hx hby d38 42 ?_))
  exact oRZ X1 hx hby hret hlk e1 d42 (1 : Int32) ⟨(by simp [oSch, hc2]), N1, rfl⟩

abbrev K15 (n : Nat) (i : Instr) (k : Nat) : Prop := decode method_12_code n = .ok (i, k)
set_option maxRecDepth 65536 in
theorem t15 : K15 0 (.iload_n 0) 1 ∧ K15 1 (.bipush 65) 2 ∧ K15 3 (.if_icmp .lt 17) 3 ∧ K15 6 (.iload_n 0) 1 ∧ K15 7 (.bipush 90) 2 ∧ K15 9 (.if_icmp .gt 11) 3 ∧ K15 12 (.iload_n 0) 1 ∧ K15 13 (.bipush 32) 2 ∧ K15 15 .iadd 1 ∧ K15 16 .i2c 1 ∧ K15 17 (.goto 4) 3 ∧ K15 20 (.iload_n 0) 1 ∧ K15 21 .ireturn 1 := by and_intros <;> decide +kernel
theorem rm_low (c : Int32) (H : oH Z a0 n0 h0 wR wI zc vf wB wL wV cV) (rc : oRg c) : oPu l Z (⟨sW, "low", "(C)C"⟩ : MethodName) method_12_code 1 (some .char) (oRm 0 0 0 0) #[(.int c)] h0 n0 (some (.int (oLow c))) := by
  obtain ⟨hw, O0, hS⟩ := H
  refine oBody (plainFor_of_name pn_0) #[oi c] (fun _ => by first | (simp [entryFrame, mkF, argsToLocals, Value.category]; done) | rfl) ?_
  intro pG eG sG mG belowG methG cG s₁ hx hby hml hown hnm hret hlk X0 e0 hZ
  have N0 := Fr.nil n0
  have K0 := Keep.refl h0 []
  obtain ⟨d0, d1, d3, d6, d7, d9, d12, d13, d15, d16, d17, d20, d21⟩ := t15
  refine uI X0 hx hby d0 rfl 1 (uB X0 hx hby d1 65 3 ?_)
  by_cases hc1 : c < (65 : Int32)
  · refine uYc X0 hx hby d3 (tlt hc1).1 20 (uI X0 hx hby d20 rfl 21 ?_)
    exact oRZ X0 hx hby hret hlk e0 d21 (nar .char c) ⟨(congrArg (fun z => some (Value.int z)) (own_lowB c rc hc1)), N0, rfl⟩
  refine uNc X0 hx hby d3 (flt hc1).1 6 (uI X0 hx hby d6 rfl 7 (uB X0 hx hby d7 90 9 ?_))
  by_cases hc2 : (90 : Int32) < c
  · refine uYc X0 hx hby d9 (tlt hc2).2.2.1 20 (uI X0 hx hby d20 rfl 21 ?_)
    exact oRZ X0 hx hby hret hlk e0 d21 (nar .char c) ⟨(congrArg (fun z => some (Value.int z)) (own_lowC c rc hc1 hc2)), N0, rfl⟩
  refine uNc X0 hx hby d9 (flt hc2).2.2.1 12 (uI X0 hx hby d12 rfl 13 (uB X0 hx hby d13 32 15 ?_))
  refine ob s₁ (mkF mG 16 #[oi c] [(.int (c + (32 : Int32)))]) (fun _ kk => XS.iadd X0.here hx rfl (hb hby d15) rfl kk) ?_
  refine ob s₁ (mkF mG 17 #[oi c] [(.int ((c + (32 : Int32)).toUInt32.toUInt16.toUInt32.toInt32))]) (fun _ kk => XS.i2c X0.here hx rfl (hb hby d16) rfl kk) ?_
  refine uG X0 hx hby d17 21 ?_
  exact oRZ X0 hx hby hret hlk e0 d21 (nar .char ((c + (32 : Int32)).toUInt32.toUInt16.toUInt32.toInt32)) ⟨(congrArg (fun z => some (Value.int z)) (own_lowA c rc hc1 hc2)), N0, rfl⟩

abbrev K12 (n : Nat) (i : Instr) (k : Nat) : Prop := decode method_8_code n = .ok (i, k)
set_option maxRecDepth 65536 in
theorem t12 : K12 0 (.iload_n 2) 1 ∧ K12 1 (.iload_n 3) 1 ∧ K12 2 (.if_icmp .ge 20) 3 ∧ K12 5 (.iload_n 3) 1 ∧ K12 6 (.iload_n 1) 1 ∧ K12 7 (.if_icmp .ge 15) 3 ∧ K12 10 (.aload_n 0) 1 ∧ K12 11 (.iload_n 3) 1 ∧ K12 12 .caload 1 ∧ K12 13 (.bipush 58) 2 ∧ K12 15 (.if_icmp .ne 7) 3 ∧ K12 18 (.iconst 1) 1 ∧ K12 19 (.goto 4) 3 ∧ K12 22 (.iconst 0) 1 ∧ K12 23 .ireturn 1 := by and_intros <;> decide +kernel
theorem rm_at1 (sA : Addr) (ks : ClassId) (c0 c1 c2 c3 c4 c5 c6 c7 nn sx : Int32) (H : oH Z a0 n0 h0 wR wI zc vf wB wL wV cV) (V_s : Arv Z h0 sA ks .char (8 : Int32) (oC8 c0 c1 c2 c3 c4 c5 c6 c7) (.int (0 : Int32))) : oPu l Z (⟨sW, "at", "([CIII)Z"⟩ : MethodName) method_8_code 4 (some .boolean) (oRm 0 0 0 0) #[(.ref sA), (.int nn), (.int sx), (.int (1 : Int32))] h0 n0 (some (.int (oAt sx nn (1 : Int32) c1))) := by
  obtain ⟨hw, O0, hS⟩ := H
  refine oBody (plainFor_of_name pn_0) #[oa sA, oi nn, oi sx, oi (1 : Int32)] (fun _ => by first | (simp [entryFrame, mkF, argsToLocals, Value.category]; done) | rfl) ?_
  intro pG eG sG mG belowG methG cG s₁ hx hby hml hown hnm hret hlk X0 e0 hZ
  have N0 := Fr.nil n0
  have K0 := Keep.refl h0 []
  obtain ⟨d0, d1, d2, d5, d6, d7, d10, d11, d12, d13, d15, d18, d19, d22, d23⟩ := t12
  refine uI X0 hx hby d0 rfl 1 (uI X0 hx hby d1 rfl 2 ?_)
  by_cases hc1 : sx < (1 : Int32)
  · refine uNc X0 hx hby d2 (tlt hc1).2.1 5 (uI X0 hx hby d5 rfl 6 (uI X0 hx hby d6 rfl 7 ?_))
    by_cases hc2 : (1 : Int32) < nn
    · refine uNc X0 hx hby d7 (tlt hc2).2.1 10 (uA X0 hx hby d10 rfl 11 (uI X0 hx hby d11 rfl 12 (oLc X0 hx hby hZ e0 V_s ⟨by decide, by decide⟩ rfl d12 13 (uB X0 hx hby d13 58 15 ?_))))
      by_cases hc3 : c1 = (58 : Int32)
      · refine uNc X0 hx hby d15 (teq hc3).2 18 (uC X0 hx hby d18 1 19 (uG X0 hx hby d19 23 ?_))
        exact oRZ X0 hx hby hret hlk e0 d23 (1 : Int32) ⟨(by simp [oAt, hc1, hc2, hc3]), N0, rfl⟩
      refine uYc X0 hx hby d15 (feq hc3).2 22 (uC X0 hx hby d22 0 23 ?_)
      exact oRZ X0 hx hby hret hlk e0 d23 (0 : Int32) ⟨(by simp [oAt, hc1, hc2, hc3]), N0, rfl⟩
    refine uYc X0 hx hby d7 (flt hc2).2.1 22 (uC X0 hx hby d22 0 23 ?_)
    exact oRZ X0 hx hby hret hlk e0 d23 (0 : Int32) ⟨(by simp [oAt, hc1, hc2]), N0, rfl⟩
  refine uYc X0 hx hby d2 (flt hc1).2.1 22 (uC X0 hx hby d22 0 23 ?_)
  exact oRZ X0 hx hby hret hlk e0 d23 (0 : Int32) ⟨(by simp [oAt, hc1]), N0, rfl⟩

theorem rm_at2 (sA : Addr) (ks : ClassId) (c0 c1 c2 c3 c4 c5 c6 c7 nn sx : Int32) (H : oH Z a0 n0 h0 wR wI zc vf wB wL wV cV) (V_s : Arv Z h0 sA ks .char (8 : Int32) (oC8 c0 c1 c2 c3 c4 c5 c6 c7) (.int (0 : Int32))) : oPu l Z (⟨sW, "at", "([CIII)Z"⟩ : MethodName) method_8_code 4 (some .boolean) (oRm 0 0 0 0) #[(.ref sA), (.int nn), (.int sx), (.int (2 : Int32))] h0 n0 (some (.int (oAt sx nn (2 : Int32) c2))) := by
  obtain ⟨hw, O0, hS⟩ := H
  refine oBody (plainFor_of_name pn_0) #[oa sA, oi nn, oi sx, oi (2 : Int32)] (fun _ => by first | (simp [entryFrame, mkF, argsToLocals, Value.category]; done) | rfl) ?_
  intro pG eG sG mG belowG methG cG s₁ hx hby hml hown hnm hret hlk X0 e0 hZ
  have N0 := Fr.nil n0
  have K0 := Keep.refl h0 []
  obtain ⟨d0, d1, d2, d5, d6, d7, d10, d11, d12, d13, d15, d18, d19, d22, d23⟩ := t12
  refine uI X0 hx hby d0 rfl 1 (uI X0 hx hby d1 rfl 2 ?_)
  by_cases hc1 : sx < (2 : Int32)
  · refine uNc X0 hx hby d2 (tlt hc1).2.1 5 (uI X0 hx hby d5 rfl 6 (uI X0 hx hby d6 rfl 7 ?_))
    by_cases hc2 : (2 : Int32) < nn
    · refine uNc X0 hx hby d7 (tlt hc2).2.1 10 (uA X0 hx hby d10 rfl 11 (uI X0 hx hby d11 rfl 12 (oLc X0 hx hby hZ e0 V_s ⟨by decide, by decide⟩ rfl d12 13 (uB X0 hx hby d13 58 15 ?_))))
      by_cases hc3 : c2 = (58 : Int32)
      · refine uNc X0 hx hby d15 (teq hc3).2 18 (uC X0 hx hby d18 1 19 (uG X0 hx hby d19 23 ?_))
        exact oRZ X0 hx hby hret hlk e0 d23 (1 : Int32) ⟨(by simp [oAt, hc1, hc2, hc3]), N0, rfl⟩
      refine uYc X0 hx hby d15 (feq hc3).2 22 (uC X0 hx hby d22 0 23 ?_)
      exact oRZ X0 hx hby hret hlk e0 d23 (0 : Int32) ⟨(by simp [oAt, hc1, hc2, hc3]), N0, rfl⟩
    refine uYc X0 hx hby d7 (flt hc2).2.1 22 (uC X0 hx hby d22 0 23 ?_)
    exact oRZ X0 hx hby hret hlk e0 d23 (0 : Int32) ⟨(by simp [oAt, hc1, hc2]), N0, rfl⟩
  refine uYc X0 hx hby d2 (flt hc1).2.1 22 (uC X0 hx hby d22 0 23 ?_)
  exact oRZ X0 hx hby hret hlk e0 d23 (0 : Int32) ⟨(by simp [oAt, hc1]), N0, rfl⟩

theorem rm_at3 (sA : Addr) (ks : ClassId) (c0 c1 c2 c3 c4 c5 c6 c7 nn sx : Int32) (H : oH Z a0 n0 h0 wR wI zc vf wB wL wV cV) (V_s : Arv Z h0 sA ks .char (8 : Int32) (oC8 c0 c1 c2 c3 c4 c5 c6 c7) (.int (0 : Int32))) : oPu l Z (⟨sW, "at", "([CIII)Z"⟩ : MethodName) method_8_code 4 (some .boolean) (oRm 0 0 0 0) #[(.ref sA), (.int nn), (.int sx), (.int (3 : Int32))] h0 n0 (some (.int (oAt sx nn (3 : Int32) c3))) := by
  obtain ⟨hw, O0, hS⟩ := H
  refine oBody (plainFor_of_name pn_0) #[oa sA, oi nn, oi sx, oi (3 : Int32)] (fun _ => by first | (simp [entryFrame, mkF, argsToLocals, Value.category]; done) | rfl) ?_
  intro pG eG sG mG belowG methG cG s₁ hx hby hml hown hnm hret hlk X0 e0 hZ
  have N0 := Fr.nil n0
  have K0 := Keep.refl h0 []
  obtain ⟨d0, d1, d2, d5, d6, d7, d10, d11, d12, d13, d15, d18, d19, d22, d23⟩ := t12
  refine uI X0 hx hby d0 rfl 1 (uI X0 hx hby d1 rfl 2 ?_)
  by_cases hc1 : sx < (3 : Int32)
  · refine uNc X0 hx hby d2 (tlt hc1).2.1 5 (uI X0 hx hby d5 rfl 6 (uI X0 hx hby d6 rfl 7 ?_))
    by_cases hc2 : (3 : Int32) < nn
    · refine uNc X0 hx hby d7 (tlt hc2).2.1 10 (uA X0 hx hby d10 rfl 11 (uI X0 hx hby d11 rfl 12 (oLc X0 hx hby hZ e0 V_s ⟨by decide, by decide⟩ rfl d12 13 (uB X0 hx hby d13 58 15 ?_))))
      by_cases hc3 : c3 = (58 : Int32)
      · refine uNc X0 hx hby d15 (teq hc3).2 18 (uC X0 hx hby d18 1 19 (uG X0 hx hby d19 23 ?_))
        exact oRZ X0 hx hby hret hlk e0 d23 (1 : Int32) ⟨(by simp [oAt, hc1, hc2, hc3]), N0, rfl⟩
      refine uYc X0 hx hby d15 (feq hc3).2 22 (uC X0 hx hby d22 0 23 ?_)
      exact oRZ X0 hx hby hret hlk e0 d23 (0 : Int32) ⟨(by simp [oAt, hc1, hc2, hc3]), N0, rfl⟩
    refine uYc X0 hx hby d7 (flt hc2).2.1 22 (uC X0 hx hby d22 0 23 ?_)
    exact oRZ X0 hx hby hret hlk e0 d23 (0 : Int32) ⟨(by simp [oAt, hc1, hc2]), N0, rfl⟩
  refine uYc X0 hx hby d2 (flt hc1).2.1 22 (uC X0 hx hby d22 0 23 ?_)
  exact oRZ X0 hx hby hret hlk e0 d23 (0 : Int32) ⟨(by simp [oAt, hc1]), N0, rfl⟩

theorem rm_at4 (sA : Addr) (ks : ClassId) (c0 c1 c2 c3 c4 c5 c6 c7 nn sx : Int32) (H : oH Z a0 n0 h0 wR wI zc vf wB wL wV cV) (V_s : Arv Z h0 sA ks .char (8 : Int32) (oC8 c0 c1 c2 c3 c4 c5 c6 c7) (.int (0 : Int32))) : oPu l Z (⟨sW, "at", "([CIII)Z"⟩ : MethodName) method_8_code 4 (some .boolean) (oRm 0 0 0 0) #[(.ref sA), (.int nn), (.int sx), (.int (4 : Int32))] h0 n0 (some (.int (oAt sx nn (4 : Int32) c4))) := by
  obtain ⟨hw, O0, hS⟩ := H
  refine oBody (plainFor_of_name pn_0) #[oa sA, oi nn, oi sx, oi (4 : Int32)] (fun _ => by first | (simp [entryFrame, mkF, argsToLocals, Value.category]; done) | rfl) ?_
  intro pG eG sG mG belowG methG cG s₁ hx hby hml hown hnm hret hlk X0 e0 hZ
  have N0 := Fr.nil n0
  have K0 := Keep.refl h0 []
  obtain ⟨d0, d1, d2, d5, d6, d7, d10, d11, d12, d13, d15, d18, d19, d22, d23⟩ := t12
  refine uI X0 hx hby d0 rfl 1 (uI X0 hx hby d1 rfl 2 ?_)
  by_cases hc1 : sx < (4 : Int32)
  · refine uNc X0 hx hby d2 (tlt hc1).2.1 5 (uI X0 hx hby d5 rfl 6 (uI X0 hx hby d6 rfl 7 ?_))
    by_cases hc2 : (4 : Int32) < nn
    · refine uNc X0 hx hby d7 (tlt hc2).2.1 10 (uA X0 hx hby d10 rfl 11 (uI X0 hx hby d11 rfl 12 (oLc X0 hx hby hZ e0 V_s ⟨by decide, by decide⟩ rfl d12 13 (uB X0 hx hby d13 58 15 ?_))))
      by_cases hc3 : c4 = (58 : Int32)
      · refine uNc X0 hx hby d15 (teq hc3).2 18 (uC X0 hx hby d18 1 19 (uG X0 hx hby d19 23 ?_))
        exact oRZ X0 hx hby hret hlk e0 d23 (1 : Int32) ⟨(by simp [oAt, hc1, hc2, hc3]), N0, rfl⟩
      refine uYc X0 hx hby d15 (feq hc3).2 22 (uC X0 hx hby d22 0 23 ?_)
      exact oRZ X0 hx hby hret hlk e0 d23 (0 : Int32) ⟨(by simp [oAt, hc1, hc2, hc3]), N0, rfl⟩
    refine uYc X0 hx hby d7 (flt hc2).2.1 22 (uC X0 hx hby d22 0 23 ?_)
    exact oRZ X0 hx hby hret hlk e0 d23 (0 : Int32) ⟨(by simp [oAt, hc1, hc2]), N0, rfl⟩
  refine uYc X0 hx hby d2 (flt hc1).2.1 22 (uC X0 hx hby d22 0 23 ?_)
  exact oRZ X0 hx hby hret hlk e0 d23 (0 : Int32) ⟨(by simp [oAt, hc1]), N0, rfl⟩

theorem rm_at5 (sA : Addr) (ks : ClassId) (c0 c1 c2 c3 c4 c5 c6 c7 nn sx : Int32) (H : oH Z a0 n0 h0 wR wI zc vf wB wL wV cV) (V_s : Arv Z h0 sA ks .char (8 : Int32) (oC8 c0 c1 c2 c3 c4 c5 c6 c7) (.int (0 : Int32))) : oPu l Z (⟨sW, "at", "([CIII)Z"⟩ : MethodName) method_8_code 4 (some .boolean) (oRm 0 0 0 0) #[(.ref sA), (.int nn), (.int sx), (.int (5 : Int32))] h0 n0 (some (.int (oAt sx nn (5 : Int32) c5))) := by
  obtain ⟨hw, O0, hS⟩ := H
  refine oBody (plainFor_of_name pn_0) #[oa sA, oi nn, oi sx, oi (5 : Int32)] (fun _ => by first | (simp [entryFrame, mkF, argsToLocals, Value.category]; done) | rfl) ?_
  intro pG eG sG mG belowG methG cG s₁ hx hby hml hown hnm hret hlk X0 e0 hZ
  have N0 := Fr.nil n0
  have K0 := Keep.refl h0 []
  obtain ⟨d0, d1, d2, d5, d6, d7, d10, d11, d12, d13, d15, d18, d19, d22, d23⟩ := t12
  refine uI X0 hx hby d0 rfl 1 (uI X0 hx hby d1 rfl 2 ?_)
  by_cases hc1 : sx < (5 : Int32)
  · refine uNc X0 hx hby d2 (tlt hc1).2.1 5 (uI X0 hx hby d5 rfl 6 (uI X0 hx hby d6 rfl 7 ?_))
    by_cases hc2 : (5 : Int32) < nn
    · refine uNc X0 hx hby d7 (tlt hc2).2.1 10 (uA X0 hx hby d10 rfl 11 (uI X0 hx hby d11 rfl 12 (oLc X0 hx hby hZ e0 V_s ⟨by decide, by decide⟩ rfl d12 13 (uB X0 hx hby d13 58 15 ?_))))
      by_cases hc3 : c5 = (58 : Int32)
      · refine uNc X0 hx hby d15 (teq hc3).2 18 (uC X0 hx hby d18 1 19 (uG X0 hx hby d19 23 ?_))
        exact oRZ X0 hx hby hret hlk e0 d23 (1 : Int32) ⟨(by simp [oAt, hc1, hc2, hc3]), N0, rfl⟩
      refine uYc X0 hx hby d15 (feq hc3).2 22 (uC X0 hx hby d22 0 23 ?_)
      exact oRZ X0 hx hby hret hlk e0 d23 (0 : Int32) ⟨(by simp [oAt, hc1, hc2, hc3]), N0, rfl⟩
    refine uYc X0 hx hby d7 (flt hc2).2.1 22 (uC X0 hx hby d22 0 23 ?_)
    exact oRZ X0 hx hby hret hlk e0 d23 (0 : Int32) ⟨(by simp [oAt, hc1, hc2]), N0, rfl⟩
  refine uYc X0 hx hby d2 (flt hc1).2.1 22 (uC X0 hx hby d22 0 23 ?_)
  exact oRZ X0 hx hby hret hlk e0 d23 (0 : Int32) ⟨(by simp [oAt, hc1]), N0, rfl⟩

theorem rm_at6 (sA : Addr) (ks : ClassId) (c0 c1 c2 c3 c4 c5 c6 c7 nn sx : Int32) (H : oH Z a0 n0 h0 wR wI zc vf wB wL wV cV) (V_s : Arv Z h0 sA ks .char (8 : Int32) (oC8 c0 c1 c2 c3 c4 c5 c6 c7) (.int (0 : Int32))) : oPu l Z (⟨sW, "at", "([CIII)Z"⟩ : MethodName) method_8_code 4 (some .boolean) (oRm 0 0 0 0) #[(.ref sA), (.int nn), (.int sx), (.int (6 : Int32))] h0 n0 (some (.int (oAt sx nn (6 : Int32) c6))) := by
  obtain ⟨hw, O0, hS⟩ := H
  refine oBody (plainFor_of_name pn_0) #[oa sA, oi nn, oi sx, oi (6 : Int32)] (fun _ => by first | (simp [entryFrame, mkF, argsToLocals, Value.category]; done) | rfl) ?_
  intro pG eG sG mG belowG methG cG s₁ hx hby hml hown hnm hret hlk X0 e0 hZ
  have N0 := Fr.nil n0
  have K0 := Keep.refl h0 []
  obtain ⟨d0, d1, d2, d5, d6, d7, d10, d11, d12, d13, d15, d18, d19, d22, d23⟩ := t12
  refine uI X0 hx hby d0 rfl 1 (uI X0 hx hby d1 rfl 2 ?_)
  by_cases hc1 : sx < (6 : Int32)
  · refine uNc X0 hx hby d2 (tlt hc1).2.1 5 (uI X0 hx hby d5 rfl 6 (uI X0 hx hby d6 rfl 7 ?_))
    by_cases hc2 : (6 : Int32) < nn
    · refine uNc X0 hx hby d7 (tlt hc2).2.1 10 (uA X0 hx hby d10 rfl 11 (uI X0 hx hby d11 rfl 12 (oLc X0 hx hby hZ e0 V_s ⟨by decide, by decide⟩ rfl d12 13 (uB X0 hx hby d13 58 15 ?_))))
      by_cases hc3 : c6 = (58 : Int32)
      · refine uNc X0 hx hby d15 (teq hc3).2 18 (uC X0 hx hby d18 1 19 (uG X0 hx hby d19 23 ?_))
        exact oRZ X0 hx hby hret hlk e0 d23 (1 : Int32) ⟨(by simp [oAt, hc1, hc2, hc3]), N0, rfl⟩
      refine uYc X0 hx hby d15 (feq hc3).2 22 (uC X0 hx hby d22 0 23 ?_)
      exact oRZ X0 hx hby hret hlk e0 d23 (0 : Int32) ⟨(by simp [oAt, hc1, hc2, hc3]), N0, rfl⟩
    refine uYc X0 hx hby d7 (flt hc2).2.1 22 (uC X0 hx hby d22 0 23 ?_)
    exact oRZ X0 hx hby hret hlk e0 d23 (0 : Int32) ⟨(by simp [oAt, hc1, hc2]), N0, rfl⟩
  refine uYc X0 hx hby d2 (flt hc1).2.1 22 (uC X0 hx hby d22 0 23 ?_)
  exact oRZ X0 hx hby hret hlk e0 d23 (0 : Int32) ⟨(by simp [oAt, hc1]), N0, rfl⟩

theorem rm_at7 (sA : Addr) (ks : ClassId) (c0 c1 c2 c3 c4 c5 c6 c7 nn sx : Int32) (H : oH Z a0 n0 h0 wR wI zc vf wB wL wV cV) (V_s : Arv Z h0 sA ks .char (8 : Int32) (oC8 c0 c1 c2 c3 c4 c5 c6 c7) (.int (0 : Int32))) : oPu l Z (⟨sW, "at", "([CIII)Z"⟩ : MethodName) method_8_code 4 (some .boolean) (oRm 0 0 0 0) #[(.ref sA), (.int nn), (.int sx), (.int (7 : Int32))] h0 n0 (some (.int (oAt sx nn (7 : Int32) c7))) := by
  obtain ⟨hw, O0, hS⟩ := H
  refine oBody (plainFor_of_name pn_0) #[oa sA, oi nn, oi sx, oi (7 : Int32)] (fun _ => by first | (simp [entryFrame, mkF, argsToLocals, Value.category]; done) | rfl) ?_
  intro pG eG sG mG belowG methG cG s₁ hx hby hml hown hnm hret hlk X0 e0 hZ
  have N0 := Fr.nil n0
  have K0 := Keep.refl h0 []
  obtain ⟨d0, d1, d2, d5, d6, d7, d10, d11, d12, d13, d15, d18, d19, d22, d23⟩ := t12
  refine uI X0 hx hby d0 rfl 1 (uI X0 hx hby d1 rfl 2 ?_)
  by_cases hc1 : sx < (7 : Int32)
  · refine uNc X0 hx hby d2 (tlt hc1).2.1 5 (uI X0 hx hby d5 rfl 6 (uI X0 hx hby d6 rfl 7 ?_))
    by_cases hc2 : (7 : Int32) < nn
    · refine uNc X0 hx hby d7 (tlt hc2).2.1 10 (uA X0 hx hby d10 rfl 11 (uI X0 hx hby d11 rfl 12 (oLc X0 hx hby hZ e0 V_s ⟨by decide, by decide⟩ rfl d12 13 (uB X0 hx hby d13 58 15 ?_))))
      by_cases hc3 : c7 = (58 : Int32)
      · refine uNc X0 hx hby d15 (teq hc3).2 18 (uC X0 hx hby d18 1 19 (uG X0 hx hby d19 23 ?_))
        exact oRZ X0 hx hby hret hlk e0 d23 (1 : Int32) ⟨(by simp [oAt, hc1, hc2, hc3]), N0, rfl⟩
      refine uYc X0 hx hby d15 (feq hc3).2 22 (uC X0 hx hby d22 0 23 ?_)
      exact oRZ X0 hx hby hret hlk e0 d23 (0 : Int32) ⟨(by simp [oAt, hc1, hc2, hc3]), N0, rfl⟩
    refine uYc X0 hx hby d7 (flt hc2).2.1 22 (uC X0 hx hby d22 0 23 ?_)
    exact oRZ X0 hx hby hret hlk e0 d23 (0 : Int32) ⟨(by simp [oAt, hc1, hc2]), N0, rfl⟩
  refine uYc X0 hx hby d2 (flt hc1).2.1 22 (uC X0 hx hby d22 0 23 ?_)
  exact oRZ X0 hx hby hret hlk e0 d23 (0 : Int32) ⟨(by simp [oAt, hc1]), N0, rfl⟩

abbrev K11 (n : Nat) (i : Instr) (k : Nat) : Prop := decode method_7_code n = .ok (i, k)
set_option maxRecDepth 65536 in
theorem t11 : K11 0 (.aload_n 0) 1 ∧ K11 1 (.iload_n 1) 1 ∧ K11 2 (.iload_n 2) 1 ∧ K11 3 (.iconst 1) 1 ∧ K11 4 (.invokestatic 70) 3 ∧ K11 7 (.ifCond .eq 5) 3 ∧ K11 10 (.iconst 1) 1 ∧ K11 11 .ireturn 1 ∧ K11 12 (.aload_n 0) 1 ∧ K11 13 (.iload_n 1) 1 ∧ K11 14 (.iload_n 2) 1 ∧ K11 15 (.iconst 2) 1 ∧ K11 16 (.invokestatic 70) 3 ∧ K11 19 (.ifCond .eq 5) 3 ∧ K11 22 (.iconst 2) 1 ∧ K11 23 .ireturn 1 ∧ K11 24 (.aload_n 0) 1 ∧ K11 25 (.iload_n 1) 1 ∧ K11 26 (.iload_n 2) 1 ∧ K11 27 (.iconst 3) 1 ∧ K11 28 (.invokestatic 70) 3 ∧ K11 31 (.ifCond .eq 5) 3 ∧ K11 34 (.iconst 3) 1 ∧ K11 35 .ireturn 1 ∧ K11 36 (.aload_n 0) 1 ∧ K11 37 (.iload_n 1) 1 ∧ K11 38 (.iload_n 2) 1 ∧ K11 39 (.iconst 4) 1 ∧ K11 40 (.invokestatic 70) 3 ∧ K11 43 (.ifCond .eq 5) 3 ∧ K11 46 (.iconst 4) 1 ∧ K11 47 .ireturn 1 ∧ K11 48 (.aload_n 0) 1 ∧ K11 49 (.iload_n 1) 1 ∧ K11 50 (.iload_n 2) 1 ∧ K11 51 (.iconst 5) 1 ∧ K11 52 (.invokestatic 70) 3 ∧ K11 55 (.ifCond .eq 5) 3 ∧ K11 58 (.iconst 5) 1 ∧ K11 59 .ireturn 1 ∧ K11 60 (.aload_n 0) 1 ∧ K11 61 (.iload_n 1) 1 ∧ K11 62 (.iload_n 2) 1 ∧ K11 63 (.bipush 6) 2 ∧ K11 65 (.invokestatic 70) 3 ∧ K11 68 (.ifCond .eq 6) 3 ∧ K11 71 (.bipush 6) 2 ∧ K11 73 .ireturn 1 ∧ K11 74 (.aload_n 0) 1 ∧ K11 75 (.iload_n 1) 1 ∧ K11 76 (.iload_n 2) 1 ∧ K11 77 (.bipush 7) 2 ∧ K11 79 (.invokestatic 70) 3 ∧ K11 82 (.ifCond .eq 6) 3 ∧ K11 85 (.bipush 7) 2 ∧ K11 87 .ireturn 1 ∧ K11 88 (.iconst (-1)) 1 ∧ K11 89 .ireturn 1 := by and_intros <;> decide +kernel
theorem pd_1 : parseMethodDescriptor "([CIII)Z" = some ⟨[(.array .char), .int, .int, .int], some .boolean⟩ := by decide +kernel
theorem rm_col (sA : Addr) (ks : ClassId) (c0 c1 c2 c3 c4 c5 c6 c7 nn sx : Int32) (H : oH Z a0 n0 h0 wR wI zc vf wB wL wV cV) (V_s : Arv Z h0 sA ks .char (8 : Int32) (oC8 c0 c1 c2 c3 c4 c5 c6 c7) (.int (0 : Int32))) : oPu l Z (⟨sW, "colon", "([CII)I"⟩ : MethodName) method_7_code 3 (some .int) (oRm 1 0 0 15) #[(.ref sA), (.int nn), (.int sx)] h0 n0 (some (.int (oCo sx nn c1 c2 c3 c4 c5 c6 c7))) := by
  obtain ⟨hw, O0, hS⟩ := H
  refine oBody (plainFor_of_name pn_0) #[oa sA, oi nn, oi sx] (fun _ => by first | (simp [entryFrame, mkF, argsToLocals, Value.category]; done) | rfl) ?_
  intro pG eG sG mG belowG methG cG s₁ hx hby hml hown hnm hret hlk X0 e0 hZ
  have N0 := Fr.nil n0
  have K0 := Keep.refl h0 []
  obtain ⟨d0, d1, d2, d3, d4, d7, d10, d11, d12, d13, d14, d15, d16, d19, d22, d23, d24, d25, d26, d27, d28, d31, d34, d35, d36, d37, d38, d39, d40, d43, d46, d47, d48, d49, d50, d51, d52, d55, d58, d59, d60, d61, d62, d63, d65, d68, d71, d73, d74, d75, d76, d77, d79, d82, d85, d87, d88, d89⟩ := t11
  refine uA X0 hx hby d0 rfl 1 (uI X0 hx hby d1 rfl 2 (uI X0 hx hby d2 rfl 3 (uC X0 hx hby d3 1 4 ?_)))
  refine oCp X0 hx hby hZ hown (ow hw 50 rfl) (ow hw 51 rfl) (ow hw 52 rfl) (ow hw 3 rfl) (rm_at1 sA ks c0 c1 c2 c3 c4 c5 c6 c7 nn sx ⟨hw, O0, hS⟩ V_s) e0 N0 hml [(.ref sA), (.int nn), (.int sx), (.int (1 : Int32))] [] pd_1 d4 7 ?_
  intro T1 L1 X1 e1 N1
  by_cases hc2 : (oAt sx nn (1 : Int32) c1) = (0 : Int32)
  · refine uY X1 hx hby d7 ((if0 _ _).trans (teq hc2).1) 12 (uA X1 hx hby d12 rfl 13 (uI X1 hx hby d13 rfl 14 (uI X1 hx hby d14 rfl 15 (uC X1 hx hby d15 2 16 ?_))))
    refine oCp X1 hx hby hZ hown (ow hw 50 rfl) (ow hw 51 rfl) (ow hw 52 rfl) (ow hw 3 rfl) (rm_at2 sA ks c0 c1 c2 c3 c4 c5 c6 c7 nn sx ⟨hw, O0, hS⟩ V_s) e1 N1 hml [(.ref sA), (.int nn), (.int sx), (.int (2 : Int32))] [] pd_1 d16 19 ?_
    intro T3 L3 X3 e3 N3
    by_cases hc4 : (oAt sx nn (2 : Int32) c2) = (0 : Int32)
    · refine uY X3 hx hby d19 ((if0 _ _).trans (teq hc4).1) 24 (uA X3 hx hby d24 rfl 25 (uI X3 hx hby d25 rfl 26 (uI X3 hx hby d26 rfl 27 (uC X3 hx hby d27 3 28 ?_))))
      refine oCp X3 hx hby hZ hown (ow hw 50 rfl) (ow hw 51 rfl) (ow hw 52 rfl) (ow hw 3 rfl) (rm_at3 sA ks c0 c1 c2 c3 c4 c5 c6 c7 nn sx ⟨hw, O0, hS⟩ V_s) e3 N3 hml [(.ref sA), (.int nn), (.int sx), (.int (3 : Int32))] [] pd_1 d28 31 ?_
      intro T5 L5 X5 e5 N5
      by_cases hc6 : (oAt sx nn (3 : Int32) c3) = (0 : Int32)
      · refine uY X5 hx hby d31 ((if0 _ _).trans (teq hc6).1) 36 (uA X5 hx hby d36 rfl 37 (uI X5 hx hby d37 rfl 38 (uI X5 hx hby d38 rfl 39 (uC X5 hx hby d39 4 40 ?_))))
        refine oCp X5 hx hby hZ hown (ow hw 50 rfl) (ow hw 51 rfl) (ow hw 52 rfl) (ow hw 3 rfl) (rm_at4 sA ks c0 c1 c2 c3 c4 c5 c6 c7 nn sx ⟨hw, O0, hS⟩ V_s) e5 N5 hml [(.ref sA), (.int nn), (.int sx), (.int (4 : Int32))] [] pd_1 d40 43 ?_
        intro T7 L7 X7 e7 N7
        by_cases hc8 : (oAt sx nn (4 : Int32) c4) = (0 : Int32)
        · refine uY X7 hx hby d43 ((if0 _ _).trans (teq hc8).1) 48 (uA X7 hx hby d48 rfl 49 (uI X7 hx hby d49 rfl 50 (uI X7 hx hby d50 rfl 51 (uC X7 hx hby d51 5 52 ?_))))
          refine oCp X7 hx hby hZ hown (ow hw 50 rfl) (ow hw 51 rfl) (ow hw 52 rfl) (ow hw 3 rfl) (rm_at5 sA ks c0 c1 c2 c3 c4 c5 c6 c7 nn sx ⟨hw, O0, hS⟩ V_s) e7 N7 hml [(.ref sA), (.int nn), (.int sx), (.int (5 : Int32))] [] pd_1 d52 55 ?_
          intro T9 L9 X9 e9 N9
          by_cases hc10 : (oAt sx nn (5 : Int32) c5) = (0 : Int32)
          · refine uY X9 hx hby d55 ((if0 _ _).trans (teq hc10).1) 60 (uA X9 hx hby d60 rfl 61 (uI X9 hx hby d61 rfl 62 (uI X9 hx hby d62 rfl 63 (uB X9 hx hby d63 6 65 ?_))))
            refine oCp X9 hx hby hZ hown (ow hw 50 rfl) (ow hw 51 rfl) (ow hw 52 rfl) (ow hw 3 rfl) (rm_at6 sA ks c0 c1 c2 c3 c4 c5 c6 c7 nn sx ⟨hw, O0, hS⟩ V_s) e9 N9 hml [(.ref sA), (.int nn), (.int sx), (.int (6 : Int32))] [] pd_1 d65 68 ?_
            intro T11 L11 X11 e11 N11
            by_cases hc12 : (oAt sx nn (6 : Int32) c6) = (0 : Int32)
            · refine uY X11 hx hby d68 ((if0 _ _).trans (teq hc12).1) 74 (uA X11 hx hby d74 rfl 75 (uI X11 hx hby d75 rfl 76 (uI X11 hx hby d76 rfl 77 (uB X11 hx hby d77 7 79 ?_))))
              refine oCp X11 hx hby hZ hown (ow hw 50 rfl) (ow hw 51 rfl) (ow hw 52 rfl) (ow hw 3 rfl) (rm_at7 sA ks c0 c1 c2 c3 c4 c5 c6 c7 nn sx ⟨hw, O0, hS⟩ V_s) e11 N11 hml [(.ref sA), (.int nn), (.int sx), (.int (7 : Int32))] [] pd_1 d79 82 ?_
              intro T13 L13 X13 e13 N13
              by_cases hc14 : (oAt sx nn (7 : Int32) c7) = (0 : Int32)
              · refine uY X13 hx hby d82 ((if0 _ _).trans (teq hc14).1) 88 (uC X13 hx hby d88 (-1) 89 ?_)
                exact oRI X13 hx hby hret hlk e13 d89 ⟨(by simp [oCo, hc2, hc4, hc6, hc8, hc10, hc12, hc14]), N13, rfl⟩
              refine uN X13 hx hby d82 ((if0 _ _).trans (feq hc14).1) 85 (uB X13 hx hby d85 7 87 ?_)
              exact oRI X13 hx hby hret hlk e13 d87 ⟨(by simp [oCo, hc2, hc4, hc6, hc8, hc10, hc12, hc14]), N13, rfl⟩
            refine uN X11 hx hby d68 ((if0 _ _).trans (feq hc12).1) 71 (uB X11 hx hby d71 6 73 ?_)
            exact oRI X11 hx hby hret hlk e11 d73 ⟨(by simp [oCo, hc2, hc4, hc6, hc8, hc10, hc12]), N11, rfl⟩
          refine uN X9 hx hby d55 ((if0 _ _).trans (feq hc10).1) 58 (uC X9 hx hby d58 5 59 ?_)
          exact oRI X9 hx hby hret hlk e9 d59 ⟨(by simp [oCo, hc2, hc4, hc6, hc8, hc10]), N9, rfl⟩
        refine uN X7 hx hby d43 ((if0 _ _).trans (feq hc8).1) 46 (uC X7 hx hby d46 4 47 ?_)
        exact oRI X7 hx hby hret hlk e7 d47 ⟨(by simp [oCo, hc2, hc4, hc6, hc8]), N7, rfl⟩
      refine uN X5 hx hby d31 ((if0 _ _).trans (feq hc6).1) 34 (uC X5 hx hby d34 3 35 ?_)
      exact oRI X5 hx hby hret hlk e5 d35 ⟨(by simp [oCo, hc2, hc4, hc6]), N5, rfl⟩
    refine uN X3 hx hby d19 ((if0 _ _).trans (feq hc4).1) 22 (uC X3 hx hby d22 2 23 ?_)
    exact oRI X3 hx hby hret hlk e3 d23 ⟨(by simp [oCo, hc2, hc4]), N3, rfl⟩
  refine uN X1 hx hby d7 ((if0 _ _).trans (feq hc2).1) 10 (uC X1 hx hby d10 1 11 ?_)
  exact oRI X1 hx hby hret hlk e1 d11 ⟨(by simp [oCo, hc2]), N1, rfl⟩

abbrev K13 (n : Nat) (i : Instr) (k : Nat) : Prop := decode method_9_code n = .ok (i, k)
set_option maxRecDepth 65536 in
theorem t13 : K13 0 (.iload_n 3) 1 ∧ K13 1 (.iload_n 1) 1 ∧ K13 2 (.if_icmp .lt 17) 3 ∧ K13 5 (.iload_n 3) 1 ∧ K13 6 (.iload_n 2) 1 ∧ K13 7 (.if_icmp .ge 12) 3 ∧ K13 10 (.aload_n 0) 1 ∧ K13 11 (.iload_n 3) 1 ∧ K13 12 .caload 1 ∧ K13 13 (.invokestatic 73) 3 ∧ K13 16 (.ifCond .eq 7) 3 ∧ K13 19 (.iconst 1) 1 ∧ K13 20 (.goto 4) 3 ∧ K13 23 (.iconst 0) 1 ∧ K13 24 .ireturn 1 := by and_intros <;> decide +kernel
theorem rm_ok1 (sA : Addr) (ks : ClassId) (c0 c1 c2 c3 c4 c5 c6 c7 fx tx : Int32) (H : oH Z a0 n0 h0 wR wI zc vf wB wL wV cV) (V_s : Arv Z h0 sA ks .char (8 : Int32) (oC8 c0 c1 c2 c3 c4 c5 c6 c7) (.int (0 : Int32))) : oPu l Z (⟨sW, "ok", "([CIII)Z"⟩ : MethodName) method_9_code 4 (some .boolean) (oRm 2 0 0 24) #[(.ref sA), (.int fx), (.int tx), (.int (1 : Int32))] h0 n0 (some (.int (oOk fx tx (1 : Int32) c1))) := by
  obtain ⟨hw, O0, hS⟩ := H
  refine oBody (plainFor_of_name pn_0) #[oa sA, oi fx, oi tx, oi (1 : Int32)] (fun _ => by first | (simp [entryFrame, mkF, argsToLocals, Value.category]; done) | rfl) ?_
  intro pG eG sG mG belowG methG cG s₁ hx hby hml hown hnm hret hlk X0 e0 hZ
  have N0 := Fr.nil n0
  have K0 := Keep.refl h0 []
  obtain ⟨d0, d1, d2, d5, d6, d7, d10, d11, d12, d13, d16, d19, d20, d23, d24⟩ := t13
  refine uI X0 hx hby d0 rfl 1 (uI X0 hx hby d1 rfl 2 ?_)
  by_cases hc1 : (1 : Int32) < fx
  · refine uYc X0 hx hby d2 (tlt hc1).1 19 (uC X0 hx hby d19 1 20 (uG X0 hx hby d20 24 ?_))
    exact oRZ X0 hx hby hret hlk e0 d24 (1 : Int32) ⟨(by simp [oOk, hc1]), N0, rfl⟩
  refine uNc X0 hx hby d2 (flt hc1).1 5 (uI X0 hx hby d5 rfl 6 (uI X0 hx hby d6 rfl 7 ?_))
  by_cases hc2 : (1 : Int32) < tx
  · refine uNc X0 hx hby d7 (tlt hc2).2.1 10 (uA X0 hx hby d10 rfl 11 (uI X0 hx hby d11 rfl 12 (oLc X0 hx hby hZ e0 V_s ⟨by decide, by decide⟩ rfl d12 13 ?_)))
    refine oCp X0 hx hby hZ hown (ow hw 56 rfl) (ow hw 57 rfl) (ow hw 58 rfl) (ow hw 3 rfl) (rm_sch c1 ⟨hw, O0, hS⟩ ) e0 N0 hml [(.int c1)] [] pd_0 d13 16 ?_
    intro T3 L3 X3 e3 N3
    by_cases hc4 : (oSch c1) = (0 : Int32)
    · refine uY X3 hx hby d16 ((if0 _ _).trans (teq hc4).1) 23 (uC X3 hx hby d23 0 24 ?_)
      exact oRZ X3 hx hby hret hlk e3 d24 (0 : Int32) ⟨(by simp [oOk, hc1, hc2, hc4]), N3, rfl⟩
    refine uN X3 hx hby d16 ((if0 _ _).trans (feq hc4).1) 19 (uC X3 hx hby d19 1 20 (uG X3 hx hby d20 24 ?_))
    exact oRZ X3 hx hby hret hlk e3 d24 (1 : Int32) ⟨(by simp [oOk, hc1, hc2, hc4]), N3, rfl⟩
  refine uYc X0 hx hby d7 (flt hc2).2.1 19 (uC X0 hx hby d19 1 20 (uG X0 hx hby d20 24 ?_))
  exact oRZ X0 hx hby hret hlk e0 d24 (1 : Int32) ⟨(by simp [oOk, hc1, hc2]), N0, rfl⟩

theorem rm_ok2 (sA : Addr) (ks : ClassId) (c0 c1 c2 c3 c4 c5 c6 c7 fx tx : Int32) (H : oH Z a0 n0 h0 wR wI zc vf wB wL wV cV) (V_s : Arv Z h0 sA ks .char (8 : Int32) (oC8 c0 c1 c2 c3 c4 c5 c6 c7) (.int (0 : Int32))) : oPu l Z (⟨sW, "ok", "([CIII)Z"⟩ : MethodName) method_9_code 4 (some .boolean) (oRm 2 0 0 24) #[(.ref sA), (.int fx), (.int tx), (.int (2 : Int32))] h0 n0 (some (.int (oOk fx tx (2 : Int32) c2))) := by
  obtain ⟨hw, O0, hS⟩ := H
  refine oBody (plainFor_of_name pn_0) #[oa sA, oi fx, oi tx, oi (2 : Int32)] (fun _ => by first | (simp [entryFrame, mkF, argsToLocals, Value.category]; done) | rfl) ?_
  intro pG eG sG mG belowG methG cG s₁ hx hby hml hown hnm hret hlk X0 e0 hZ
  have N0 := Fr.nil n0
  have K0 := Keep.refl h0 []
  obtain ⟨d0, d1, d2, d5, d6, d7, d10, d11, d12, d13, d16, d19, d20, d23, d24⟩ := t13
  refine uI X0 hx hby d0 rfl 1 (uI X0 hx hby d1 rfl 2 ?_)
  by_cases hc1 : (2 : Int32) < fx
  · refine uYc X0 hx hby d2 (tlt hc1).1 19 (uC X0 hx hby d19 1 20 (uG X0 hx hby d20 24 ?_))
    exact oRZ X0 hx hby hret hlk e0 d24 (1 : Int32) ⟨(by simp [oOk, hc1]), N0, rfl⟩
  refine uNc X0 hx hby d2 (flt hc1).1 5 (uI X0 hx hby d5 rfl 6 (uI X0 hx hby d6 rfl 7 ?_))
  by_cases hc2 : (2 : Int32) < tx
  · refine uNc X0 hx hby d7 (tlt hc2).2.1 10 (uA X0 hx hby d10 rfl 11 (uI X0 hx hby d11 rfl 12 (oLc X0 hx hby hZ e0 V_s ⟨by decide, by decide⟩ rfl d12 13 ?_)))
    refine oCp X0 hx hby hZ hown (ow hw 56 rfl) (ow hw 57 rfl) (ow hw 58 rfl) (ow hw 3 rfl) (rm_sch c2 ⟨hw, O0, hS⟩ ) e0 N0 hml [(.int c2)] [] pd_0 d13 16 ?_
    intro T3 L3 X3 e3 N3
    by_cases hc4 : (oSch c2) = (0 : Int32)
    · refine uY X3 hx hby d16 ((if0 _ _).trans (teq hc4).1) 23 (uC X3 hx hby d23 0 24 ?_)
      exact oRZ X3 hx hby hret hlk e3 d24 (0 : Int32) ⟨(by simp [oOk, hc1, hc2, hc4]), N3, rfl⟩
    refine uN X3 hx hby d16 ((if0 _ _).trans (feq hc4).1) 19 (uC X3 hx hby d19 1 20 (uG X3 hx hby d20 24 ?_))
    exact oRZ X3 hx hby hret hlk e3 d24 (1 : Int32) ⟨(by simp [oOk, hc1, hc2, hc4]), N3, rfl⟩
  refine uYc X0 hx hby d7 (flt hc2).2.1 19 (uC X0 hx hby d19 1 20 (uG X0 hx hby d20 24 ?_))
  exact oRZ X0 hx hby hret hlk e0 d24 (1 : Int32) ⟨(by simp [oOk, hc1, hc2]), N0, rfl⟩

theorem rm_ok3 (sA : Addr) (ks : ClassId) (c0 c1 c2 c3 c4 c5 c6 c7 fx tx : Int32) (H : oH Z a0 n0 h0 wR wI zc vf wB wL wV cV) (V_s : Arv Z h0 sA ks .char (8 : Int32) (oC8 c0 c1 c2 c3 c4 c5 c6 c7) (.int (0 : Int32))) : oPu l Z (⟨sW, "ok", "([CIII)Z"⟩ : MethodName) method_9_code 4 (some .boolean) (oRm 2 0 0 24) #[(.ref sA), (.int fx), (.int tx), (.int (3 : Int32))] h0 n0 (some (.int (oOk fx tx (3 : Int32) c3))) := by
  obtain ⟨hw, O0, hS⟩ := H
  refine oBody (plainFor_of_name pn_0) #[oa sA, oi fx, oi tx, oi (3 : Int32)] (fun _ => by first | (simp [entryFrame, mkF, argsToLocals, Value.category]; done) | rfl) ?_
  intro pG eG sG mG belowG methG cG s₁ hx hby hml hown hnm hret hlk X0 e0 hZ
  have N0 := Fr.nil n0
  have K0 := Keep.refl h0 []
  obtain ⟨d0, d1, d2, d5, d6, d7, d10, d11, d12, d13, d16, d19, d20, d23, d24⟩ := t13
  refine uI X0 hx hby d0 rfl 1 (uI X0 hx hby d1 rfl 2 ?_)
  by_cases hc1 : (3 : Int32) < fx
  · refine uYc X0 hx hby d2 (tlt hc1).1 19 (uC X0 hx hby d19 1 20 (uG X0 hx hby d20 24 ?_))
    exact oRZ X0 hx hby hret hlk e0 d24 (1 : Int32) ⟨(by simp [oOk, hc1]), N0, rfl⟩
  refine uNc X0 hx hby d2 (flt hc1).1 5 (uI X0 hx hby d5 rfl 6 (uI X0 hx hby d6 rfl 7 ?_))
  by_cases hc2 : (3 : Int32) < tx
  · refine uNc X0 hx hby d7 (tlt hc2).2.1 10 (uA X0 hx hby d10 rfl 11 (uI X0 hx hby d11 rfl 12 (oLc X0 hx hby hZ e0 V_s ⟨by decide, by decide⟩ rfl d12 13 ?_)))
    refine oCp X0 hx hby hZ hown (ow hw 56 rfl) (ow hw 57 rfl) (ow hw 58 rfl) (ow hw 3 rfl) (rm_sch c3 ⟨hw, O0, hS⟩ ) e0 N0 hml [(.int c3)] [] pd_0 d13 16 ?_
    intro T3 L3 X3 e3 N3
    by_cases hc4 : (oSch c3) = (0 : Int32)
    · refine uY X3 hx hby d16 ((if0 _ _).trans (teq hc4).1) 23 (uC X3 hx hby d23 0 24 ?_)
      exact oRZ X3 hx hby hret hlk e3 d24 (0 : Int32) ⟨(by simp [oOk, hc1, hc2, hc4]), N3, rfl⟩
    refine uN X3 hx hby d16 ((if0 _ _).trans (feq hc4).1) 19 (uC X3 hx hby d19 1 20 (uG X3 hx hby d20 24 ?_))
    exact oRZ X3 hx hby hret hlk e3 d24 (1 : Int32) ⟨(by simp [oOk, hc1, hc2, hc4]), N3, rfl⟩
  refine uYc X0 hx hby d7 (flt hc2).2.1 19 (uC X0 hx hby d19 1 20 (uG X0 hx hby d20 24 ?_))
  exact oRZ X0 hx hby hret hlk e0 d24 (1 : Int32) ⟨(by simp [oOk, hc1, hc2]), N0, rfl⟩

theorem rm_ok4 (sA : Addr) (ks : ClassId) (c0 c1 c2 c3 c4 c5 c6 c7 fx tx : Int32) (H : oH Z a0 n0 h0 wR wI zc vf wB wL wV cV) (V_s : Arv Z h0 sA ks .char (8 : Int32) (oC8 c0 c1 c2 c3 c4 c5 c6 c7) (.int (0 : Int32))) : oPu l Z (⟨sW, "ok", "([CIII)Z"⟩ : MethodName) method_9_code 4 (some .boolean) (oRm 2 0 0 24) #[(.ref sA), (.int fx), (.int tx), (.int (4 : Int32))] h0 n0 (some (.int (oOk fx tx (4 : Int32) c4))) := by
  obtain ⟨hw, O0, hS⟩ := H
  refine oBody (plainFor_of_name pn_0) #[oa sA, oi fx, oi tx, oi (4 : Int32)] (fun _ => by first | (simp [entryFrame, mkF, argsToLocals, Value.category]; done) | rfl) ?_
  intro pG eG sG mG belowG methG cG s₁ hx hby hml hown hnm hret hlk X0 e0 hZ
  have N0 := Fr.nil n0
  have K0 := Keep.refl h0 []
  obtain ⟨d0, d1, d2, d5, d6, d7, d10, d11, d12, d13, d16, d19, d20, d23, d24⟩ := t13
  refine uI X0 hx hby d0 rfl 1 (uI X0 hx hby d1 rfl 2 ?_)
  by_cases hc1 : (4 : Int32) < fx
  · refine uYc X0 hx hby d2 (tlt hc1).1 19 (uC X0 hx hby d19 1 20 (uG X0 hx hby d20 24 ?_))
    exact oRZ X0 hx hby hret hlk e0 d24 (1 : Int32) ⟨(by simp [oOk, hc1]), N0, rfl⟩
  refine uNc X0 hx hby d2 (flt hc1).1 5 (uI X0 hx hby d5 rfl 6 (uI X0 hx hby d6 rfl 7 ?_))
  by_cases hc2 : (4 : Int32) < tx
  · refine uNc X0 hx hby d7 (tlt hc2).2.1 10 (uA X0 hx hby d10 rfl 11 (uI X0 hx hby d11 rfl 12 (oLc X0 hx hby hZ e0 V_s ⟨by decide, by decide⟩ rfl d12 13 ?_)))
    refine oCp X0 hx hby hZ hown (ow hw 56 rfl) (ow hw 57 rfl) (ow hw 58 rfl) (ow hw 3 rfl) (rm_sch c4 ⟨hw, O0, hS⟩ ) e0 N0 hml [(.int c4)] [] pd_0 d13 16 ?_
    intro T3 L3 X3 e3 N3
    by_cases hc4 : (oSch c4) = (0 : Int32)
    · refine uY X3 hx hby d16 ((if0 _ _).trans (teq hc4).1) 23 (uC X3 hx hby d23 0 24 ?_)
      exact oRZ X3 hx hby hret hlk e3 d24 (0 : Int32) ⟨(by simp [oOk, hc1, hc2, hc4]), N3, rfl⟩
    refine uN X3 hx hby d16 ((if0 _ _).trans (feq hc4).1) 19 (uC X3 hx hby d19 1 20 (uG X3 hx hby d20 24 ?_))
    exact oRZ X3 hx hby hret hlk e3 d24 (1 : Int32) ⟨(by simp [oOk, hc1, hc2, hc4]), N3, rfl⟩
  refine uYc X0 hx hby d7 (flt hc2).2.1 19 (uC X0 hx hby d19 1 20 (uG X0 hx hby d20 24 ?_))
  exact oRZ X0 hx hby hret hlk e0 d24 (1 : Int32) ⟨(by simp [oOk, hc1, hc2]), N0, rfl⟩

theorem rm_ok5 (sA : Addr) (ks : ClassId) (c0 c1 c2 c3 c4 c5 c6 c7 fx tx : Int32) (H : oH Z a0 n0 h0 wR wI zc vf wB wL wV cV) (V_s : Arv Z h0 sA ks .char (8 : Int32) (oC8 c0 c1 c2 c3 c4 c5 c6 c7) (.int (0 : Int32))) : oPu l Z (⟨sW, "ok", "([CIII)Z"⟩ : MethodName) method_9_code 4 (some .boolean) (oRm 2 0 0 24) #[(.ref sA), (.int fx), (.int tx), (.int (5 : Int32))] h0 n0 (some (.int (oOk fx tx (5 : Int32) c5))) := by
  obtain ⟨hw, O0, hS⟩ := H
  refine oBody (plainFor_of_name pn_0) #[oa sA, oi fx, oi tx, oi (5 : Int32)] (fun _ => by first | (simp [entryFrame, mkF, argsToLocals, Value.category]; done) | rfl) ?_
  intro pG eG sG mG belowG methG cG s₁ hx hby hml hown hnm hret hlk X0 e0 hZ
  have N0 := Fr.nil n0
  have K0 := Keep.refl h0 []
  obtain ⟨d0, d1, d2, d5, d6, d7, d10, d11, d12, d13, d16, d19, d20, d23, d24⟩ := t13
  refine uI X0 hx hby d0 rfl 1 (uI X0 hx hby d1 rfl 2 ?_)
  by_cases hc1 : (5 : Int32) < fx
  · refine uYc X0 hx hby d2 (tlt hc1).1 19 (uC X0 hx hby d19 1 20 (uG X0 hx hby d20 24 ?_))
    exact oRZ X0 hx hby hret hlk e0 d24 (1 : Int32) ⟨(by simp [oOk, hc1]), N0, rfl⟩
  refine uNc X0 hx hby d2 (flt hc1).1 5 (uI X0 hx hby d5 rfl 6 (uI X0 hx hby d6 rfl 7 ?_))
  by_cases hc2 : (5 : Int32) < tx
  · refine uNc X0 hx hby d7 (tlt hc2).2.1 10 (uA X0 hx hby d10 rfl 11 (uI X0 hx hby d11 rfl 12 (oLc X0 hx hby hZ e0 V_s ⟨by decide, by decide⟩ rfl d12 13 ?_)))
    refine oCp X0 hx hby hZ hown (ow hw 56 rfl) (ow hw 57 rfl) (ow hw 58 rfl) (ow hw 3 rfl) (rm_sch c5 ⟨hw, O0, hS⟩ ) e0 N0 hml [(.int c5)] [] pd_0 d13 16 ?_
    intro T3 L3 X3 e3 N3
    by_cases hc4 : (oSch c5) = (0 : Int32)
    · refine uY X3 hx hby d16 ((if0 _ _).trans (teq hc4).1) 23 (uC X3 hx hby d23 0 24 ?_)
      exact oRZ X3 hx hby hret hlk e3 d24 (0 : Int32) ⟨(by simp [oOk, hc1, hc2, hc4]), N3, rfl⟩
    refine uN X3 hx hby d16 ((if0 _ _).trans (feq hc4).1) 19 (uC X3 hx hby d19 1 20 (uG X3 hx hby d20 24 ?_))
    exact oRZ X3 hx hby hret hlk e3 d24 (1 : Int32) ⟨(by simp [oOk, hc1, hc2, hc4]), N3, rfl⟩
  refine uYc X0 hx hby d7 (flt hc2).2.1 19 (uC X0 hx hby d19 1 20 (uG X0 hx hby d20 24 ?_))
  exact oRZ X0 hx hby hret hlk e0 d24 (1 : Int32) ⟨(by simp [oOk, hc1, hc2]), N0, rfl⟩

theorem rm_ok6 (sA : Addr) (ks : ClassId) (c0 c1 c2 c3 c4 c5 c6 c7 fx tx : Int32) (H : oH Z a0 n0 h0 wR wI zc vf wB wL wV cV) (V_s : Arv Z h0 sA ks .char (8 : Int32) (oC8 c0 c1 c2 c3 c4 c5 c6 c7) (.int (0 : Int32))) : oPu l Z (⟨sW, "ok", "([CIII)Z"⟩ : MethodName) method_9_code 4 (some .boolean) (oRm 2 0 0 24) #[(.ref sA), (.int fx), (.int tx), (.int (6 : Int32))] h0 n0 (some (.int (oOk fx tx (6 : Int32) c6))) := by
  obtain ⟨hw, O0, hS⟩ := H
  refine oBody (plainFor_of_name pn_0) #[oa sA, oi fx, oi tx, oi (6 : Int32)] (fun _ => by first | (simp [entryFrame, mkF, argsToLocals, Value.category]; done) | rfl) ?_
  intro pG eG sG mG belowG methG cG s₁ hx hby hml hown hnm hret hlk X0 e0 hZ
  have N0 := Fr.nil n0
  have K0 := Keep.refl h0 []
  obtain ⟨d0, d1, d2, d5, d6, d7, d10, d11, d12, d13, d16, d19, d20, d23, d24⟩ := t13
  refine uI X0 hx hby d0 rfl 1 (uI X0 hx hby d1 rfl 2 ?_)
  by_cases hc1 : (6 : Int32) < fx
  · refine uYc X0 hx hby d2 (tlt hc1).1 19 (uC X0 hx hby d19 1 20 (uG X0 hx hby d20 24 ?_))
    exact oRZ X0 hx hby hret hlk e0 d24 (1 : Int32) ⟨(by simp [oOk, hc1]), N0, rfl⟩
  refine uNc X0 hx hby d2 (flt hc1).1 5 (uI X0 hx hby d5 rfl 6 (uI X0 hx hby d6 rfl 7 ?_))
  by_cases hc2 : (6 : Int32) < tx
  · refine uNc X0 hx hby d7 (tlt hc2).2.1 10 (uA X0 hx hby d10 rfl 11 (uI X0 hx hby d11 rfl 12 (oLc X0 hx hby hZ e0 V_s ⟨by decide, by decide⟩ rfl d12 13 ?_)))
    refine oCp X0 hx hby hZ hown (ow hw 56 rfl) (ow hw 57 rfl) (ow hw 58 rfl) (ow hw 3 rfl) (rm_sch c6 ⟨hw, O0, hS⟩ ) e0 N0 hml [(.int c6)] [] pd_0 d13 16 ?_
    intro T3 L3 X3 e3 N3
    by_cases hc4 : (oSch c6) = (0 : Int32)
    · refine uY X3 hx hby d16 ((if0 _ _).trans (teq hc4).1) 23 (uC X3 hx hby d23 0 24 ?_)
      exact oRZ X3 hx hby hret hlk e3 d24 (0 : Int32) ⟨(by simp [oOk, hc1, hc2, hc4]), N3, rfl⟩
    refine uN X3 hx hby d16 ((if0 _ _).trans (feq hc4).1) 19 (uC X3 hx hby d19 1 20 (uG X3 hx hby d20 24 ?_))
    exact oRZ X3 hx hby hret hlk e3 d24 (1 : Int32) ⟨(by simp [oOk, hc1, hc2, hc4]), N3, rfl⟩
  refine uYc X0 hx hby d7 (flt hc2).2.1 19 (uC X0 hx hby d19 1 20 (uG X0 hx hby d20 24 ?_))
  exact oRZ X0 hx hby hret hlk e0 d24 (1 : Int32) ⟨(by simp [oOk, hc1, hc2]), N0, rfl⟩

theorem rm_ok7 (sA : Addr) (ks : ClassId) (c0 c1 c2 c3 c4 c5 c6 c7 fx tx : Int32) (H : oH Z a0 n0 h0 wR wI zc vf wB wL wV cV) (V_s : Arv Z h0 sA ks .char (8 : Int32) (oC8 c0 c1 c2 c3 c4 c5 c6 c7) (.int (0 : Int32))) : oPu l Z (⟨sW, "ok", "([CIII)Z"⟩ : MethodName) method_9_code 4 (some .boolean) (oRm 2 0 0 24) #[(.ref sA), (.int fx), (.int tx), (.int (7 : Int32))] h0 n0 (some (.int (oOk fx tx (7 : Int32) c7))) := by
  obtain ⟨hw, O0, hS⟩ := H
  refine oBody (plainFor_of_name pn_0) #[oa sA, oi fx, oi tx, oi (7 : Int32)] (fun _ => by first | (simp [entryFrame, mkF, argsToLocals, Value.category]; done) | rfl) ?_
  intro pG eG sG mG belowG methG cG s₁ hx hby hml hown hnm hret hlk X0 e0 hZ
  have N0 := Fr.nil n0
  have K0 := Keep.refl h0 []
  obtain ⟨d0, d1, d2, d5, d6, d7, d10, d11, d12, d13, d16, d19, d20, d23, d24⟩ := t13
  refine uI X0 hx hby d0 rfl 1 (uI X0 hx hby d1 rfl 2 ?_)
  by_cases hc1 : (7 : Int32) < fx
  · refine uYc X0 hx hby d2 (tlt hc1).1 19 (uC X0 hx hby d19 1 20 (uG X0 hx hby d20 24 ?_))
    exact oRZ X0 hx hby hret hlk e0 d24 (1 : Int32) ⟨(by simp [oOk, hc1]), N0, rfl⟩
  refine uNc X0 hx hby d2 (flt hc1).1 5 (uI X0 hx hby d5 rfl 6 (uI X0 hx hby d6 rfl 7 ?_))
  by_cases hc2 : (7 : Int32) < tx
  · refine uNc X0 hx hby d7 (tlt hc2).2.1 10 (uA X0 hx hby d10 rfl 11 (uI X0 hx hby d11 rfl 12 (oLc X0 hx hby hZ e0 V_s ⟨by decide, by decide⟩ rfl d12 13 ?_)))
    refine oCp X0 hx hby hZ hown (ow hw 56 rfl) (ow hw 57 rfl) (ow hw 58 rfl) (ow hw 3 rfl) (rm_sch c7 ⟨hw, O0, hS⟩ ) e0 N0 hml [(.int c7)] [] pd_0 d13 16 ?_
    intro T3 L3 X3 e3 N3
    by_cases hc4 : (oSch c7) = (0 : Int32)
    · refine uY X3 hx hby d16 ((if0 _ _).trans (teq hc4).1) 23 (uC X3 hx hby d23 0 24 ?_)
      exact oRZ X3 hx hby hret hlk e3 d24 (0 : Int32) ⟨(by simp [oOk, hc1, hc2, hc4]), N3, rfl⟩
    refine uN X3 hx hby d16 ((if0 _ _).trans (feq hc4).1) 19 (uC X3 hx hby d19 1 20 (uG X3 hx hby d20 24 ?_))
    exact oRZ X3 hx hby hret hlk e3 d24 (1 : Int32) ⟨(by simp [oOk, hc1, hc2, hc4]), N3, rfl⟩
  refine uYc X0 hx hby d7 (flt hc2).2.1 19 (uC X0 hx hby d19 1 20 (uG X0 hx hby d20 24 ?_))
  exact oRZ X0 hx hby hret hlk e0 d24 (1 : Int32) ⟨(by simp [oOk, hc1, hc2]), N0, rfl⟩

abbrev K6 (n : Nat) (i : Instr) (k : Nat) : Prop := decode method_6_code n = .ok (i, k)
set_option maxRecDepth 65536 in
theorem t6 : K6 0 (.iload_n 2) 1 ∧ K6 1 (.iload_n 1) 1 ∧ K6 2 (.if_icmp .ge 12) 3 ∧ K6 5 (.aload_n 0) 1 ∧ K6 6 (.iload_n 2) 1 ∧ K6 7 .caload 1 ∧ K6 8 (.invokestatic 59) 3 ∧ K6 11 (.ifCond .ne 5) 3 ∧ K6 14 (.iconst (-1)) 1 ∧ K6 15 .ireturn 1 ∧ K6 16 (.aload_n 0) 1 ∧ K6 17 (.iload_n 1) 1 ∧ K6 18 (.iload_n 2) 1 ∧ K6 19 (.invokestatic 63) 3 ∧ K6 22 (.istore_n 3) 1 ∧ K6 23 (.iload_n 3) 1 ∧ K6 24 (.ifCond .ge 5) 3 ∧ K6 27 (.iconst (-1)) 1 ∧ K6 28 .ireturn 1 ∧ K6 29 (.iload_n 2) 1 ∧ K6 30 (.iconst 1) 1 ∧ K6 31 .iadd 1 ∧ K6 32 (.istore 4) 2 ∧ K6 34 (.aload_n 0) 1 ∧ K6 35 (.iload 4) 2 ∧ K6 37 (.iload_n 3) 1 ∧ K6 38 (.iconst 1) 1 ∧ K6 39 (.invokestatic 66) 3 ∧ K6 42 (.ifCond .eq 71) 3 ∧ K6 45 (.aload_n 0) 1 ∧ K6 46 (.iload 4) 2 ∧ K6 48 (.iload_n 3) 1 ∧ K6 49 (.iconst 2) 1 ∧ K6 50 (.invokestatic 66) 3 ∧ K6 53 (.ifCond .eq 60) 3 ∧ K6 56 (.aload_n 0) 1 ∧ K6 57 (.iload 4) 2 ∧ K6 59 (.iload_n 3) 1 ∧ K6 60 (.iconst 3) 1 ∧ K6 61 (.invokestatic 66) 3 ∧ K6 64 (.ifCond .eq 49) 3 ∧ K6 67 (.aload_n 0) 1 ∧ K6 68 (.iload 4) 2 ∧ K6 70 (.iload_n 3) 1 ∧ K6 71 (.iconst 4) 1 ∧ K6 72 (.invokestatic 66) 3 ∧ K6 75 (.ifCond .eq 38) 3 ∧ K6 78 (.aload_n 0) 1 ∧ K6 79 (.iload 4) 2 ∧ K6 81 (.iload_n 3) 1 ∧ K6 82 (.iconst 5) 1 ∧ K6 83 (.invokestatic 66) 3 ∧ K6 86 (.ifCond .eq 27) 3 ∧ K6 89 (.aload_n 0) 1 ∧ K6 90 (.iload 4) 2 ∧ K6 92 (.iload_n 3) 1 ∧ K6 93 (.bipush 6) 2 ∧ K6 95 (.invokestatic 66) 3 ∧ K6 98 (.ifCond .eq 15) 3 ∧ K6 101 (.aload_n 0) 1 ∧ K6 102 (.iload 4) 2 ∧ K6 104 (.iload_n 3) 1 ∧ K6 105 (.bipush 7) 2 ∧ K6 107 (.invokestatic 66) 3 ∧ K6 110 (.ifCond .ne 5) 3 ∧ K6 113 (.iconst (-1)) 1 ∧ K6 114 .ireturn 1 ∧ K6 115 (.iload_n 3) 1 ∧ K6 116 .ireturn 1 := by and_intros <;> decide +kernel
theorem pd_2 : parseMethodDescriptor "([CII)I" = some ⟨[(.array .char), .int, .int], some .int⟩ := by decide +kernel
theorem rm_end0 (sA : Addr) (ks : ClassId) (c0 c1 c2 c3 c4 c5 c6 c7 nn : Int32) (H : oH Z a0 n0 h0 wR wI zc vf wB wL wV cV) (V_s : Arv Z h0 sA ks .char (8 : Int32) (oC8 c0 c1 c2 c3 c4 c5 c6 c7) (.int (0 : Int32))) : oPu l Z (⟨sW, "end", "([CII)I"⟩ : MethodName) method_6_code 5 (some .int) (oRm 3 0 0 39) #[(.ref sA), (.int nn), (.int (0 : Int32))] h0 n0 (some (.int (oEn (0 : Int32) (1 : Int32) nn c0 c1 c2 c3 c4 c5 c6 c7))) := by
  obtain ⟨hw, O0, hS⟩ := H
  refine oBody (plainFor_of_name pn_0) #[oa sA, oi nn, oi (0 : Int32), .unset, .unset] (fun _ => by first | (simp [entryFrame, mkF, argsToLocals, Value.category]; done) | rfl) ?_
  intro pG eG sG mG belowG methG cG s₁ hx hby hml hown hnm hret hlk X0 e0 hZ
  have N0 := Fr.nil n0
  have K0 := Keep.refl h0 []
  obtain ⟨d0, d1, d2, d5, d6, d7, d8, d11, d14, d15, d16, d17, d18, d19, d22, d23, d24, d27, d28, d29, d30, d31, d32, d34, d35, d37, d38, d39, d42, d45, d46, d48, d49, d50, d53, d56, d57, d59, d60, d61, d64, d67, d68, d70, d71, d72, d75, d78, d79, d81, d82, d83, d86, d89, d90, d92, d93, d95, d98, d101, d102, d104, d105, d107, d110, d113, d114, d115, d116⟩ := t6
  refine uI X0 hx hby d0 rfl 1 (uI X0 hx hby d1 rfl 2 ?_)
  by_cases hc1 : (0 : Int32) < nn
  · refine uNc X0 hx hby d2 (tlt hc1).2.1 5 (uA X0 hx hby d5 rfl 6 (uI X0 hx hby d6 rfl 7 (oLc X0 hx hby hZ e0 V_s ⟨by decide, by decide⟩ rfl d7 8 ?_)))
    refine oCp X0 hx hby hZ hown (ow hw 44 rfl) (ow hw 45 rfl) (ow hw 46 rfl) (ow hw 3 rfl) (rm_let c0 ⟨hw, O0, hS⟩ ) e0 N0 hml [(.int c0)] [] pd_0 d8 11 ?_
    intro T2 L2 X2 e2 N2
    by_cases hc3 : (oLet c0) = (0 : Int32)
    · refine uN X2 hx hby d11 ((if0 _ _).trans (teq hc3).2) 14 (uC X2 hx hby d14 (-1) 15 ?_)
      exact oRI X2 hx hby hret hlk e2 d15 ⟨(by simp [oEn, hc1, hc3]), N2, rfl⟩
    refine uY X2 hx hby d11 ((if0 _ _).trans (feq hc3).2) 16 (uA X2 hx hby d16 rfl 17 (uI X2 hx hby d17 rfl 18 (uI X2 hx hby d18 rfl 19 ?_)))
    refine oCp X2 hx hby hZ hown (ow hw 47 rfl) (ow hw 48 rfl) (ow hw 49 rfl) (ow hw 3 rfl) (rm_col sA ks c0 c1 c2 c3 c4 c5 c6 c7 nn (0 : Int32) ⟨hw, O0, hS⟩ V_s) e2 N2 hml [(.ref sA), (.int nn), (.int (0 : Int32))] [] pd_2 d19 22 ?_
    intro T4 L4 X4 e4 N4
    refine uT X4 hx hby d22 #[oa sA, oi nn, oi (0 : Int32), oi (oCo (0 : Int32) nn c1 c2 c3 c4 c5 c6 c7), .unset] 23 (uI X4 hx hby d23 rfl 24 ?_)
    by_cases hc5 : (oCo (0 : Int32) nn c1 c2 c3 c4 c5 c6 c7) < (0 : Int32)
    · refine uN X4 hx hby d24 ((if0 _ _).trans (tlt hc5).2.1) 27 (uC X4 hx hby d27 (-1) 28 ?_)
      exact oRI X4 hx hby hret hlk e4 d28 ⟨(by simp [oEn, hc1, hc3, hc5]), N4, rfl⟩
    refine uY X4 hx hby d24 ((if0 _ _).trans (flt hc5).2.1) 29 (uI X4 hx hby d29 rfl 30 (uC X4 hx hby d30 1 31 ?_))
    refine ob T4 (mkF mG 32 #[oa sA, oi nn, oi (0 : Int32), oi (oCo (0 : Int32) nn c1 c2 c3 c4 c5 c6 c7), .unset] [(.int (1 : Int32))]) (fun _ kk => XS.iadd X4.here hx rfl (hb hby d31) rfl kk) ?_
    refine uT2 X4 hx hby d32 #[oa sA, oi nn, oi (0 : Int32), oi (oCo (0 : Int32) nn c1 c2 c3 c4 c5 c6 c7), oi (1 : Int32)] 34 (uA X4 hx hby d34 rfl 35 (uI2 X4 hx hby d35 rfl 37 (uI X4 hx hby d37 rfl 38 (uC X4 hx hby d38 1 39 ?_))))
    refine oCp X4 hx hby hZ hown (ow hw 53 rfl) (ow hw 54 rfl) (ow hw 55 rfl) (ow hw 3 rfl) (rm_ok1 sA ks c0 c1 c2 c3 c4 c5 c6 c7 (1 : Int32) (oCo (0 : Int32) nn c1 c2 c3 c4 c5 c6 c7) ⟨hw, O0, hS⟩ V_s) e4 N4 hml [(.ref sA), (.int (1 : Int32)), (.int (oCo (0 : Int32) nn c1 c2 c3 c4 c5 c6 c7)), (.int (1 : Int32))] [] pd_1 d39 42 ?_
    intro T6 L6 X6 e6 N6
    by_cases hc7 : (oOk (1 : Int32) (oCo (0 : Int32) nn c1 c2 c3 c4 c5 c6 c7) (1 : Int32) c1) = (0 : Int32)
    · refine uY X6 hx hby d42 ((if0 _ _).trans (teq hc7).1) 113 (uC X6 hx hby d113 (-1) 114 ?_)
      exact oRI X6 hx hby hret hlk e6 d114 ⟨(by simp [oEn, hc1, hc3, hc5, hc7]), N6, rfl⟩
    refine uN X6 hx hby d42 ((if0 _ _).trans (feq hc7).1) 45 (uA X6 hx hby d45 rfl 46 (uI2 X6 hx hby d46 rfl 48 (uI X6 hx hby d48 rfl 49 (uC X6 hx hby d49 2 50 ?_))))
    refine oCp X6 hx hby hZ hown (ow hw 53 rfl) (ow hw 54 rfl) (ow hw 55 rfl) (ow hw 3 rfl) (rm_ok2 sA ks c0 c1 c2 c3 c4 c5 c6 c7 (1 : Int32) (oCo (0 : Int32) nn c1 c2 c3 c4 c5 c6 c7) ⟨hw, O0, hS⟩ V_s) e6 N6 hml [(.ref sA), (.int (1 : Int32)), (.int (oCo (0 : Int32) nn c1 c2 c3 c4 c5 c6 c7)), (.int (2 : Int32))] [] pd_1 d50 53 ?_
    intro T8 L8 X8 e8 N8
    by_cases hc9 : (oOk (1 : Int32) (oCo (0 : Int32) nn c1 c2 c3 c4 c5 c6 c7) (2 : Int32) c2) = (0 : Int32)
    · refine uY X8 hx hby d53 ((if0 _ _).trans (teq hc9).1) 113 (uC X8 hx hby d113 (-1) 114 ?_)
      exact oRI X8 hx hby hret hlk e8 d114 ⟨(by simp [oEn, hc1, hc3, hc5, hc7, hc9]), N8, rfl⟩
    refine uN X8 hx hby d53 ((if0 _ _).trans (feq hc9).1) 56 (uA X8 hx hby d56 rfl 57 (uI2 X8 hx hby d57 rfl 59 (uI X8 hx hby d59 rfl 60 (uC X8 hx hby d60 3 61 ?_))))
    refine oCp X8 hx hby hZ hown (ow hw 53 rfl) (ow hw 54 rfl) (ow hw 55 rfl) (ow hw 3 rfl) (rm_ok3 sA ks c0 c1 c2 c3 c4 c5 c6 c7 (1 : Int32) (oCo (0 : Int32) nn c1 c2 c3 c4 c5 c6 c7) ⟨hw, O0, hS⟩ V_s) e8 N8 hml [(.ref sA), (.int (1 : Int32)), (.int (oCo (0 : Int32) nn c1 c2 c3 c4 c5 c6 c7)), (.int (3 : Int32))] [] pd_1 d61 64 ?_
    intro T10 L10 X10 e10 N10
    by_cases hc11 : (oOk (1 : Int32) (oCo (0 : Int32) nn c1 c2 c3 c4 c5 c6 c7) (3 : Int32) c3) = (0 : Int32)
    · refine uY X10 hx hby d64 ((if0 _ _).trans (teq hc11).1) 113 (uC X10 hx hby d113 (-1) 114 ?_)
      exact oRI X10 hx hby hret hlk e10 d114 ⟨(by simp [oEn, hc1, hc3, hc5, hc7, hc9, hc11]), N10, rfl⟩
    refine uN X10 hx hby d64 ((if0 _ _).trans (feq hc11).1) 67 (uA X10 hx hby d67 rfl 68 (uI2 X10 hx hby d68 rfl 70 (uI X10 hx hby d70 rfl 71 (uC X10 hx hby d71 4 72 ?_))))
    refine oCp X10 hx hby hZ hown (ow hw 53 rfl) (ow hw 54 rfl) (ow hw 55 rfl) (ow hw 3 rfl) (rm_ok4 sA ks c0 c1 c2 c3 c4 c5 c6 c7 (1 : Int32) (oCo (0 : Int32) nn c1 c2 c3 c4 c5 c6 c7) ⟨hw, O0, hS⟩ V_s) e10 N10 hml [(.ref sA), (.int (1 : Int32)), (.int (oCo (0 : Int32) nn c1 c2 c3 c4 c5 c6 c7)), (.int (4 : Int32))] [] pd_1 d72 75 ?_
    intro T12 L12 X12 e12 N12
    by_cases hc13 : (oOk (1 : Int32) (oCo (0 : Int32) nn c1 c2 c3 c4 c5 c6 c7) (4 : Int32) c4) = (0 : Int32)
    · refine uY X12 hx hby d75 ((if0 _ _).trans (teq hc13).1) 113 (uC X12 hx hby d113 (-1) 114 ?_)
      exact oRI X12 hx hby hret hlk e12 d114 ⟨(by simp [oEn, hc1, hc3, hc5, hc7, hc9, hc11, hc13]), N12, rfl⟩
    refine uN X12 hx hby d75 ((if0 _ _).trans (feq hc13).1) 78 (uA X12 hx hby d78 rfl 79 (uI2 X12 hx hby d79 rfl 81 (uI X12 hx hby d81 rfl 82 (uC X12 hx hby d82 5 83 ?_))))
    refine oCp X12 hx hby hZ hown (ow hw 53 rfl) (ow hw 54 rfl) (ow hw 55 rfl) (ow hw 3 rfl) (rm_ok5 sA ks c0 c1 c2 c3 c4 c5 c6 c7 (1 : Int32) (oCo (0 : Int32) nn c1 c2 c3 c4 c5 c6 c7) ⟨hw, O0, hS⟩ V_s) e12 N12 hml [(.ref sA), (.int (1 : Int32)), (.int (oCo (0 : Int32) nn c1 c2 c3 c4 c5 c6 c7)), (.int (5 : Int32))] [] pd_1 d83 86 ?_
    intro T14 L14 X14 e14 N14
    by_cases hc15 : (oOk (1 : Int32) (oCo (0 : Int32) nn c1 c2 c3 c4 c5 c6 c7) (5 : Int32) c5) = (0 : Int32)
    · refine uY X14 hx hby d86 ((if0 _ _).trans (teq hc15).1) 113 (uC X14 hx hby d113 (-1) 114 ?_)
      exact oRI X14 hx hby hret hlk e14 d114 ⟨(by simp [oEn, hc1, hc3, hc5, hc7, hc9, hc11, hc13, hc15]), N14, rfl⟩
    refine uN X14 hx hby d86 ((if0 _ _).trans (feq hc15).1) 89 (uA X14 hx hby d89 rfl 90 (uI2 X14 hx hby d90 rfl 92 (uI X14 hx hby d92 rfl 93 (uB X14 hx hby d93 6 95 ?_))))
    refine oCp X14 hx hby hZ hown (ow hw 53 rfl) (ow hw 54 rfl) (ow hw 55 rfl) (ow hw 3 rfl) (rm_ok6 sA ks c0 c1 c2 c3 c4 c5 c6 c7 (1 : Int32) (oCo (0 : Int32) nn c1 c2 c3 c4 c5 c6 c7) ⟨hw, O0, hS⟩ V_s) e14 N14 hml [(.ref sA), (.int (1 : Int32)), (.int (oCo (0 : Int32) nn c1 c2 c3 c4 c5 c6 c7)), (.int (6 : Int32))] [] pd_1 d95 98 ?_
    intro T16 L16 X16 e16 N16
    by_cases hc17 : (oOk (1 : Int32) (oCo (0 : Int32) nn c1 c2 c3 c4 c5 c6 c7) (6 : Int32) c6) = (0 : Int32)
    · refine uY X16 hx hby d98 ((if0 _ _).trans (teq hc17).1) 113 (uC X16 hx hby d113 (-1) 114 ?_)
      exact oRI X16 hx hby hret hlk e16 d114 ⟨(by simp [oEn, hc1, hc3, hc5, hc7, hc9, hc11, hc13, hc15, hc17]), N16, rfl⟩
    refine uN X16 hx hby d98 ((if0 _ _).trans (feq hc17).1) 101 (uA X16 hx hby d101 rfl 102 (uI2 X16 hx hby d102 rfl 104 (uI X16 hx hby d104 rfl 105 (uB X16 hx hby d105 7 107 ?_))))
    refine oCp X16 hx hby hZ hown (ow hw 53 rfl) (ow hw 54 rfl) (ow hw 55 rfl) (ow hw 3 rfl) (rm_ok7 sA ks c0 c1 c2 c3 c4 c5 c6 c7 (1 : Int32) (oCo (0 : Int32) nn c1 c2 c3 c4 c5 c6 c7) ⟨hw, O0, hS⟩ V_s) e16 N16 hml [(.ref sA), (.int (1 : Int32)), (.int (oCo (0 : Int32) nn c1 c2 c3 c4 c5 c6 c7)), (.int (7 : Int32))] [] pd_1 d107 110 ?_
    intro T18 L18 X18 e18 N18
    by_cases hc19 : (oOk (1 : Int32) (oCo (0 : Int32) nn c1 c2 c3 c4 c5 c6 c7) (7 : Int32) c7) = (0 : Int32)
    · refine uN X18 hx hby d110 ((if0 _ _).trans (teq hc19).2) 113 (uC X18 hx hby d113 (-1) 114 ?_)
      exact oRI X18 hx hby hret hlk e18 d114 ⟨(by simp [oEn, hc1, hc3, hc5, hc7, hc9, hc11, hc13, hc15, hc17, hc19]), N18, rfl⟩
    refine uY X18 hx hby d110 ((if0 _ _).trans (feq hc19).2) 115 (uI X18 hx hby d115 rfl 116 ?_)
    exact oRI X18 hx hby hret hlk e18 d116 ⟨(by simp [oEn, hc1, hc3, hc5, hc7, hc9, hc11, hc13, hc15, hc17, hc19]), N18, rfl⟩
  refine uYc X0 hx hby d2 (flt hc1).2.1 14 (uC X0 hx hby d14 (-1) 15 ?_)
  exact oRI X0 hx hby hret hlk e0 d15 ⟨(by simp [oEn, hc1]), N0, rfl⟩

theorem rm_end5 (sA : Addr) (ks : ClassId) (c0 c1 c2 c3 c4 c5 c6 c7 nn : Int32) (H : oH Z a0 n0 h0 wR wI zc vf wB wL wV cV) (V_s : Arv Z h0 sA ks .char (8 : Int32) (oC8 c0 c1 c2 c3 c4 c5 c6 c7) (.int (0 : Int32))) : oPu l Z (⟨sW, "end", "([CII)I"⟩ : MethodName) method_6_code 5 (some .int) (oRm 3 0 0 39) #[(.ref sA), (.int nn), (.int (5 : Int32))] h0 n0 (some (.int (oEn (5 : Int32) (6 : Int32) nn c5 c1 c2 c3 c4 c5 c6 c7))) := by
  obtain ⟨hw, O0, hS⟩ := H
  refine oBody (plainFor_of_name pn_0) #[oa sA, oi nn, oi (5 : Int32), .unset, .unset] (fun _ => by first | (simp [entryFrame, mkF, argsToLocals, Value.category]; done) | rfl) ?_
  intro pG eG sG mG belowG methG cG s₁ hx hby hml hown hnm hret hlk X0 e0 hZ
  have N0 := Fr.nil n0
  have K0 := Keep.refl h0 []
  obtain ⟨d0, d1, d2, d5, d6, d7, d8, d11, d14, d15, d16, d17, d18, d19, d22, d23, d24, d27, d28, d29, d30, d31, d32, d34, d35, d37, d38, d39, d42, d45, d46, d48, d49, d50, d53, d56, d57, d59, d60, d61, d64, d67, d68, d70, d71, d72, d75, d78, d79, d81, d82, d83, d86, d89, d90, d92, d93, d95, d98, d101, d102, d104, d105, d107, d110, d113, d114, d115, d116⟩ := t6
  refine uI X0 hx hby d0 rfl 1 (uI X0 hx hby d1 rfl 2 ?_)
  by_cases hc1 : (5 : Int32) < nn
  · refine uNc X0 hx hby d2 (tlt hc1).2.1 5 (uA X0 hx hby d5 rfl 6 (uI X0 hx hby d6 rfl 7 (oLc X0 hx hby hZ e0 V_s ⟨by decide, by decide⟩ rfl d7 8 ?_)))
    refine oCp X0 hx hby hZ hown (ow hw 44 rfl) (ow hw 45 rfl) (ow hw 46 rfl) (ow hw 3 rfl) (rm_let c5 ⟨hw, O0, hS⟩ ) e0 N0 hml [(.int c5)] [] pd_0 d8 11 ?_
    intro T2 L2 X2 e2 N2
    by_cases hc3 : (oLet c5) = (0 : Int32)
    · refine uN X2 hx hby d11 ((if0 _ _).trans (teq hc3).2) 14 (uC X2 hx hby d14 (-1) 15 ?_)
      exact oRI X2 hx hby hret hlk e2 d15 ⟨(by simp [oEn, hc1, hc3]), N2, rfl⟩
    refine uY X2 hx hby d11 ((if0 _ _).trans (feq hc3).2) 16 (uA X2 hx hby d16 rfl 17 (uI X2 hx hby d17 rfl 18 (uI X2 hx hby d18 rfl 19 ?_)))
    refine oCp X2 hx hby hZ hown (ow hw 47 rfl) (ow hw 48 rfl) (ow hw 49 rfl) (ow hw 3 rfl) (rm_col sA ks c0 c1 c2 c3 c4 c5 c6 c7 nn (5 : Int32) ⟨hw, O0, hS⟩ V_s) e2 N2 hml [(.ref sA), (.int nn), (.int (5 : Int32))] [] pd_2 d19 22 ?_
    intro T4 L4 X4 e4 N4
    refine uT X4 hx hby d22 #[oa sA, oi nn, oi (5 : Int32), oi (oCo (5 : Int32) nn c1 c2 c3 c4 c5 c6 c7), .unset] 23 (uI X4 hx hby d23 rfl 24 ?_)
    by_cases hc5 : (oCo (5 : Int32) nn c1 c2 c3 c4 c5 c6 c7) < (0 : Int32)
    · refine uN X4 hx hby d24 ((if0 _ _).trans (tlt hc5).2.1) 27 (uC X4 hx hby d27 (-1) 28 ?_)
      exact oRI X4 hx hby hret hlk e4 d28 ⟨(by simp [oEn, hc1, hc3, hc5]), N4, rfl⟩
    refine uY X4 hx hby d24 ((if0 _ _).trans (flt hc5).2.1) 29 (uI X4 hx hby d29 rfl 30 (uC X4 hx hby d30 1 31 ?_))
    refine ob T4 (mkF mG 32 #[oa sA, oi nn, oi (5 : Int32), oi (oCo (5 : Int32) nn c1 c2 c3 c4 c5 c6 c7), .unset] [(.int (6 : Int32))]) (fun _ kk => XS.iadd X4.here hx rfl (hb hby d31) rfl kk) ?_
    refine uT2 X4 hx hby d32 #[oa sA, oi nn, oi (5 : Int32), oi (oCo (5 : Int32) nn c1 c2 c3 c4 c5 c6 c7), oi (6 : Int32)] 34 (uA X4 hx hby d34 rfl 35 (uI2 X4 hx hby d35 rfl 37 (uI X4 hx hby d37 rfl 38 (uC X4 hx hby d38 1 39 ?_))))
    refine oCp X4 hx hby hZ hown (ow hw 53 rfl) (ow hw 54 rfl) (ow hw 55 rfl) (ow hw 3 rfl) (rm_ok1 sA ks c0 c1 c2 c3 c4 c5 c6 c7 (6 : Int32) (oCo (5 : Int32) nn c1 c2 c3 c4 c5 c6 c7) ⟨hw, O0, hS⟩ V_s) e4 N4 hml [(.ref sA), (.int (6 : Int32)), (.int (oCo (5 : Int32) nn c1 c2 c3 c4 c5 c6 c7)), (.int (1 : Int32))] [] pd_1 d39 42 ?_
    intro T6 L6 X6 e6 N6
    by_cases hc7 : (oOk (6 : Int32) (oCo (5 : Int32) nn c1 c2 c3 c4 c5 c6 c7) (1 : Int32) c1) = (0 : Int32)
    · refine uY X6 hx hby d42 ((if0 _ _).trans (teq hc7).1) 113 (uC X6 hx hby d113 (-1) 114 ?_)
      exact oRI X6 hx hby hret hlk e6 d114 ⟨(by simp [oEn, hc1, hc3, hc5, hc7]), N6, rfl⟩
    refine uN X6 hx hby d42 ((if0 _ _).trans (feq hc7).1) 45 (uA X6 hx hby d45 rfl 46 (uI2 X6 hx hby d46 rfl 48 (uI X6 hx hby d48 rfl 49 (uC X6 hx hby d49 2 50 ?_))))
    refine oCp X6 hx hby hZ hown (ow hw 53 rfl) (ow hw 54 rfl) (ow hw 55 rfl) (ow hw 3 rfl) (rm_ok2 sA ks c0 c1 c2 c3 c4 c5 c6 c7 (6 : Int32) (oCo (5 : Int32) nn c1 c2 c3 c4 c5 c6 c7) ⟨hw, O0, hS⟩ V_s) e6 N6 hml [(.ref sA), (.int (6 : Int32)), (.int (oCo (5 : Int32) nn c1 c2 c3 c4 c5 c6 c7)), (.int (2 : Int32))] [] pd_1 d50 53 ?_
    intro T8 L8 X8 e8 N8
    by_cases hc9 : (oOk (6 : Int32) (oCo (5 : Int32) nn c1 c2 c3 c4 c5 c6 c7) (2 : Int32) c2) = (0 : Int32)
    · refine uY X8 hx hby d53 ((if0 _ _).trans (teq hc9).1) 113 (uC X8 hx hby d113 (-1) 114 ?_)
      exact oRI X8 hx hby hret hlk e8 d114 ⟨(by simp [oEn, hc1, hc3, hc5, hc7, hc9]), N8, rfl⟩
    refine uN X8 hx hby d53 ((if0 _ _).trans (feq hc9).1) 56 (uA X8 hx hby d56 rfl 57 (uI2 X8 hx hby d57 rfl 59 (uI X8 hx hby d59 rfl 60 (uC X8 hx hby d60 3 61 ?_))))
    refine oCp X8 hx hby hZ hown (ow hw 53 rfl) (ow hw 54 rfl) (ow hw 55 rfl) (ow hw 3 rfl) (rm_ok3 sA ks c0 c1 c2 c3 c4 c5 c6 c7 (6 : Int32) (oCo (5 : Int32) nn c1 c2 c3 c4 c5 c6 c7) ⟨hw, O0, hS⟩ V_s) e8 N8 hml [(.ref sA), (.int (6 : Int32)), (.int (oCo (5 : Int32) nn c1 c2 c3 c4 c5 c6 c7)), (.int (3 : Int32))] [] pd_1 d61 64 ?_
    intro T10 L10 X10 e10 N10
    by_cases hc11 : (oOk (6 : Int32) (oCo (5 : Int32) nn c1 c2 c3 c4 c5 c6 c7) (3 : Int32) c3) = (0 : Int32)
    · refine uY X10 hx hby d64 ((if0 _ _).trans (teq hc11).1) 113 (uC X10 hx hby d113 (-1) 114 ?_)
      exact oRI X10 hx hby hret hlk e10 d114 ⟨(by simp [oEn, hc1, hc3, hc5, hc7, hc9, hc11]), N10, rfl⟩
    refine uN X10 hx hby d64 ((if0 _ _).trans (feq hc11).1) 67 (uA X10 hx hby d67 rfl 68 (uI2 X10 hx hby d68 rfl 70 (uI X10 hx hby d70 rfl 71 (uC X10 hx hby d71 4 72 ?_))))
    refine oCp X10 hx hby hZ hown (ow hw 53 rfl) (ow hw 54 rfl) (ow hw 55 rfl) (ow hw 3 rfl) (rm_ok4 sA ks c0 c1 c2 c3 c4 c5 c6 c7 (6 : Int32) (oCo (5 : Int32) nn c1 c2 c3 c4 c5 c6 c7) ⟨hw, O0, hS⟩ V_s) e10 N10 hml [(.ref sA), (.int (6 : Int32)), (.int (oCo (5 : Int32) nn c1 c2 c3 c4 c5 c6 c7)), (.int (4 : Int32))] [] pd_1 d72 75 ?_
    intro T12 L12 X12 e12 N12
    by_cases hc13 : (oOk (6 : Int32) (oCo (5 : Int32) nn c1 c2 c3 c4 c5 c6 c7) (4 : Int32) c4) = (0 : Int32)
    · refine uY X12 hx hby d75 ((if0 _ _).trans (teq hc13).1) 113 (uC X12 hx hby d113 (-1) 114 ?_)
      exact oRI X12 hx hby hret hlk e12 d114 ⟨(by simp [oEn, hc1, hc3, hc5, hc7, hc9, hc11, hc13]), N12, rfl⟩
    refine uN X12 hx hby d75 ((if0 _ _).trans (feq hc13).1) 78 (uA X12 hx hby d78 rfl 79 (uI2 X12 hx hby d79 rfl 81 (uI X12 hx hby d81 rfl 82 (uC X12 hx hby d82 5 83 ?_))))
    refine oCp X12 hx hby hZ hown (ow hw 53 rfl) (ow hw 54 rfl) (ow hw 55 rfl) (ow hw 3 rfl) (rm_ok5 sA ks c0 c1 c2 c3 c4 c5 c6 c7 (6 : Int32) (oCo (5 : Int32) nn c1 c2 c3 c4 c5 c6 c7) ⟨hw, O0, hS⟩ V_s) e12 N12 hml [(.ref sA), (.int (6 : Int32)), (.int (oCo (5 : Int32) nn c1 c2 c3 c4 c5 c6 c7)), (.int (5 : Int32))] [] pd_1 d83 86 ?_
    intro T14 L14 X14 e14 N14
    by_cases hc15 : (oOk (6 : Int32) (oCo (5 : Int32) nn c1 c2 c3 c4 c5 c6 c7) (5 : Int32) c5) = (0 : Int32)
    · refine uY X14 hx hby d86 ((if0 _ _).trans (teq hc15).1) 113 (uC X14 hx hby d113 (-1) 114 ?_)
      exact oRI X14 hx hby hret hlk e14 d114 ⟨(by simp [oEn, hc1, hc3, hc5, hc7, hc9, hc11, hc13, hc15]), N14, rfl⟩
    refine uN X14 hx hby d86 ((if0 _ _).trans (feq hc15).1) 89 (uA X14 hx hby d89 rfl 90 (uI2 X14 hx hby d90 rfl 92 (uI X14 hx hby d92 rfl 93 (uB X14 hx hby d93 6 95 ?_))))
    refine oCp X14 hx hby hZ hown (ow hw 53 rfl) (ow hw 54 rfl) (ow hw 55 rfl) (ow hw 3 rfl) (rm_ok6 sA ks c0 c1 c2 c3 c4 c5 c6 c7 (6 : Int32) (oCo (5 : Int32) nn c1 c2 c3 c4 c5 c6 c7) ⟨hw, O0, hS⟩ V_s) e14 N14 hml [(.ref sA), (.int (6 : Int32)), (.int (oCo (5 : Int32) nn c1 c2 c3 c4 c5 c6 c7)), (.int (6 : Int32))] [] pd_1 d95 98 ?_
    intro T16 L16 X16 e16 N16
    by_cases hc17 : (oOk (6 : Int32) (oCo (5 : Int32) nn c1 c2 c3 c4 c5 c6 c7) (6 : Int32) c6) = (0 : Int32)
    · refine uY X16 hx hby d98 ((if0 _ _).trans (teq hc17).1) 113 (uC X16 hx hby d113 (-1) 114 ?_)
      exact oRI X16 hx hby hret hlk e16 d114 ⟨(by simp [oEn, hc1, hc3, hc5, hc7, hc9, hc11, hc13, hc15, hc17]), N16, rfl⟩
    refine uN X16 hx hby d98 ((if0 _ _).trans (feq hc17).1) 101 (uA X16 hx hby d101 rfl 102 (uI2 X16 hx hby d102 rfl 104 (uI X16 hx hby d104 rfl 105 (uB X16 hx hby d105 7 107 ?_))))
    refine oCp X16 hx hby hZ hown (ow hw 53 rfl) (ow hw 54 rfl) (ow hw 55 rfl) (ow hw 3 rfl) (rm_ok7 sA ks c0 c1 c2 c3 c4 c5 c6 c7 (6 : Int32) (oCo (5 : Int32) nn c1 c2 c3 c4 c5 c6 c7) ⟨hw, O0, hS⟩ V_s) e16 N16 hml [(.ref sA), (.int (6 : Int32)), (.int (oCo (5 : Int32) nn c1 c2 c3 c4 c5 c6 c7)), (.int (7 : Int32))] [] pd_1 d107 110 ?_
    intro T18 L18 X18 e18 N18
    by_cases hc19 : (oOk (6 : Int32) (oCo (5 : Int32) nn c1 c2 c3 c4 c5 c6 c7) (7 : Int32) c7) = (0 : Int32)
    · refine uN X18 hx hby d110 ((if0 _ _).trans (teq hc19).2) 113 (uC X18 hx hby d113 (-1) 114 ?_)
      exact oRI X18 hx hby hret hlk e18 d114 ⟨(by simp [oEn, hc1, hc3, hc5, hc7, hc9, hc11, hc13, hc15, hc17, hc19]), N18, rfl⟩
    refine uY X18 hx hby d110 ((if0 _ _).trans (feq hc19).2) 115 (uI X18 hx hby d115 rfl 116 ?_)
    exact oRI X18 hx hby hret hlk e18 d116 ⟨(by simp [oEn, hc1, hc3, hc5, hc7, hc9, hc11, hc13, hc15, hc17, hc19]), N18, rfl⟩
  refine uYc X0 hx hby d2 (flt hc1).2.1 14 (uC X0 hx hby d14 (-1) 15 ?_)
  exact oRI X0 hx hby hret hlk e0 d15 ⟨(by simp [oEn, hc1]), N0, rfl⟩

theorem own_a15 (x : Int32) : ¬ (x &&& (15 : Int32)) < 0 ∧ (x &&& (15 : Int32)) < (16 : Int32) := by
  have h := c_mask x (15 : Int32) 4 (by decide) (by decide)
  rw [Int32.lt_iff_toInt_lt, Int32.lt_iff_toInt_lt]
  have e1 : (0 : Int32).toInt = 0 := by decide
  have e2 : (16 : Int32).toInt = 16 := by decide
  omega
theorem own_chT (j : Int32) (h1 : ¬ j < 0) (h2 : j < (16 : Int32)) : ∃ z, ([(.int (58 : Int32)), (.int (106 : Int32)), (.int (74 : Int32)), (.int (100 : Int32)), (.int (68 : Int32)), (.int (98 : Int32)), (.int (66 : Int32)), (.int (99 : Int32)), (.int (67 : Int32)), (.int (122 : Int32)), (.int (65 : Int32)), (.int (57 : Int32)), (.int (48 : Int32)), (.int (43 : Int32)), (.int (45 : Int32)), (.int (46 : Int32))] : List Value).getD j.toNatClampNeg (.int (0 : Int32)) = .int z ∧ oRg z := by
  have t : ∀ k : Fin 16, ∃ z : Int32, ([(.int (58 : Int32)), (.int (106 : Int32)), (.int (74 : Int32)), (.int (100 : Int32)), (.int (68 : Int32)), (.int (98 : Int32)), (.int (66 : Int32)), (.int (99 : Int32)), (.int (67 : Int32)), (.int (122 : Int32)), (.int (65 : Int32)), (.int (57 : Int32)), (.int (48 : Int32)), (.int (43 : Int32)), (.int (45 : Int32)), (.int (46 : Int32))] : List Value).getD k.val (.int (0 : Int32)) = .int z ∧ oRg z := by
    intro k
    match k with
    | ⟨0, _⟩ => exact ⟨58, rfl, by decide, by decide⟩
    | ⟨1, _⟩ => exact ⟨106, rfl, by decide, by decide⟩
    | ⟨2, _⟩ => exact ⟨74, rfl, by decide, by decide⟩
    | ⟨3, _⟩ => exact ⟨100, rfl, by decide, by decide⟩
    | ⟨4, _⟩ => exact ⟨68, rfl, by decide, by decide⟩
    | ⟨5, _⟩ => exact ⟨98, rfl, by decide, by decide⟩
    | ⟨6, _⟩ => exact ⟨66, rfl, by decide, by decide⟩
    | ⟨7, _⟩ => exact ⟨99, rfl, by decide, by decide⟩
    | ⟨8, _⟩ => exact ⟨67, rfl, by decide, by decide⟩
    | ⟨9, _⟩ => exact ⟨122, rfl, by decide, by decide⟩
    | ⟨10, _⟩ => exact ⟨65, rfl, by decide, by decide⟩
    | ⟨11, _⟩ => exact ⟨57, rfl, by decide, by decide⟩
    | ⟨12, _⟩ => exact ⟨48, rfl, by decide, by decide⟩
    | ⟨13, _⟩ => exact ⟨43, rfl, by decide, by decide⟩
    | ⟨14, _⟩ => exact ⟨45, rfl, by decide, by decide⟩
    | ⟨15, _⟩ => exact ⟨46, rfl, by decide, by decide⟩
    | ⟨n + 16, h⟩ => exact absurd h (by omega)
  have e : j.toNatClampNeg < 16 := by
    rw [Int32.lt_iff_toInt_lt] at h1 h2
    have e1 : (0 : Int32).toInt = 0 := by decide
    have e2 : (16 : Int32).toInt = 16 := by decide
    show j.toInt.toNat < 16
    omega
  exact t ⟨_, e⟩

abbrev K1 (n : Nat) (i : Instr) (k : Nat) : Prop := decode method_4_code n = .ok (i, k)
set_option maxRecDepth 65536 in
theorem t1 : K1 0 (.iload_n 0) 1 ∧ K1 1 (.sipush 256) 3 ∧ K1 4 .iand 1 ∧ K1 5 (.ifCond .eq 10) 3 ∧ K1 8 (.iload_n 0) 1 ∧ K1 9 (.sipush 255) 3 ∧ K1 12 .iand 1 ∧ K1 13 .i2c 1 ∧ K1 14 .ireturn 1 ∧ K1 15 (.bipush 16) 2 ∧ K1 17 (.newarray .char) 2 ∧ K1 19 .dup 1 ∧ K1 20 (.iconst 0) 1 ∧ K1 21 (.bipush 58) 2 ∧ K1 23 .castore 1 ∧ K1 24 .dup 1 ∧ K1 25 (.iconst 1) 1 ∧ K1 26 (.bipush 106) 2 ∧ K1 28 .castore 1 ∧ K1 29 .dup 1 ∧ K1 30 (.iconst 2) 1 ∧ K1 31 (.bipush 74) 2 ∧ K1 33 .castore 1 ∧ K1 34 .dup 1 ∧ K1 35 (.iconst 3) 1 ∧ K1 36 (.bipush 100) 2 ∧ K1 38 .castore 1 ∧ K1 39 .dup 1 ∧ K1 40 (.iconst 4) 1 ∧ K1 41 (.bipush 68) 2 ∧ K1 43 .castore 1 ∧ K1 44 .dup 1 ∧ K1 45 (.iconst 5) 1 ∧ K1 46 (.bipush 98) 2 ∧ K1 48 .castore 1 ∧ K1 49 .dup 1 ∧ K1 50 (.bipush 6) 2 ∧ K1 52 (.bipush 66) 2 ∧ K1 54 .castore 1 ∧ K1 55 .dup 1 ∧ K1 56 (.bipush 7) 2 ∧ K1 58 (.bipush 99) 2 ∧ K1 60 .castore 1 ∧ K1 61 .dup 1 ∧ K1 62 (.bipush 8) 2 ∧ K1 64 (.bipush 67) 2 ∧ K1 66 .castore 1 ∧ K1 67 .dup 1 ∧ K1 68 (.bipush 9) 2 ∧ K1 70 (.bipush 122) 2 ∧ K1 72 .castore 1 ∧ K1 73 .dup 1 ∧ K1 74 (.bipush 10) 2 ∧ K1 76 (.bipush 65) 2 ∧ K1 78 .castore 1 ∧ K1 79 .dup 1 ∧ K1 80 (.bipush 11) 2 ∧ K1 82 (.bipush 57) 2 ∧ K1 84 .castore 1 ∧ K1 85 .dup 1 ∧ K1 86 (.bipush 12) 2 ∧ K1 88 (.bipush 48) 2 ∧ K1 90 .castore 1 ∧ K1 91 .dup 1 ∧ K1 92 (.bipush 13) 2 ∧ K1 94 (.bipush 43) 2 ∧ K1 96 .castore 1 ∧ K1 97 .dup 1 ∧ K1 98 (.bipush 14) 2 ∧ K1 100 (.bipush 45) 2 ∧ K1 102 .castore 1 ∧ K1 103 .dup 1 ∧ K1 104 (.bipush 15) 2 ∧ K1 106 (.bipush 46) 2 ∧ K1 108 .castore 1 ∧ K1 109 (.astore_n 1) 1 ∧ K1 110 (.aload_n 1) 1 ∧ K1 111 (.iload_n 0) 1 ∧ K1 112 (.bipush 15) 2 ∧ K1 114 .iand 1 ∧ K1 115 .caload 1 ∧ K1 116 .ireturn 1 := by and_intros <;> decide +kernel
def Q_rm_ch (Z : State) (wR wI : Addr) (zc : Int32) (vf : Value) (wB wL wV : Addr) (cV : Cell) (v0 : Int32) (h0 : Heap) (n0 : Nat) (v : Option Value) (h : Heap) (L : List Loc) : Prop := ∃ (i0 : Int32), v = some (.int i0) ∧ Fr n0 L ∧ Keep h0 h [] ∧ Old Z n0 h ∧ oRg i0
theorem rm_ch (v0 : Int32) (H : oH Z a0 n0 h0 wR wI zc vf wB wL wV cV) : oM l Z (⟨sW, "ch", "(I)C"⟩ : MethodName) method_4_code 2 (some .char) (oRm 0 1 16 0) #[(.int v0)] h0 (Q_rm_ch Z wR wI zc vf wB wL wV cV v0 h0 n0) := by
  obtain ⟨hw, O0, hS⟩ := H
  refine oBody (plainFor_of_name pn_0) #[oi v0, .unset] (fun _ => by first | (simp [entryFrame, mkF, argsToLocals, Value.category]; done) | rfl) ?_
  intro pG eG sG mG belowG methG cG s₁ hx hby hml hown hnm hret hlk X0 e0 hZ
  have N0 := Fr.nil n0
  have K0 := Keep.refl h0 []
  obtain ⟨d0, d1, d4, d5, d8, d9, d12, d13, d14, d15, d17, d19, d20, d21, d23, d24, d25, d26, d28, d29, d30, d31, d33, d34, d35, d36, d38, d39, d40, d41, d43, d44, d45, d46, d48, d49, d50, d52, d54, d55, d56, d58, d60, d61, d62, d64, d66, d67, d68, d70, d72, d73, d74, d76, d78, d79, d80, d82, d84, d85, d86, d88, d90, d91, d92, d94, d96, d97, d98, d100, d102, d103, d104, d106, d108, d109, d110, d111, d112, d114, d115, d116⟩ := t1
  refine uI X0 hx hby d0 rfl 1 (uS X0 hx hby d1 256 4 (uAnd X0 hx hby d4 5 ?_))
  by_cases hc1 : (v0 &&& (256 : Int32)) = (0 : Int32)
  · refine uY X0 hx hby d5 ((if0 _ _).trans (teq hc1).1) 15 (uB X0 hx hby d15 16 17 ?_)
    obtain ⟨T2, h2, k2, X2, e2, E2, A2, st2⟩ := newP X0 hx hZ (ow hw 0 rfl) e0 (g := (mkF mG 17 #[oi v0, .unset] [(.int (16 : Int32))])) rfl (hb hby d17) rfl (by decide) (cap := 16) (by decide) (by decide) (by decide) (by decide)
    obtain ⟨b2, g2⟩ : ∃ z, z = h0.size := ⟨_, rfl⟩
    rw [← g2] at A2 st2
    have n_b2 : n0 ≤ b2 := Nat.le_trans (on0 O0) (Nat.le_of_eq g2.symm)
    have sz_b2 : h0.size ≤ b2 := Nat.le_trans K0.1 (Nat.le_of_eq g2.symm)
    have O2 := O0.ext E2
    have K2 := K0.ext E2
    obtain ⟨LL3, X2, N0⟩ : ∃ LL, Stand pG l eG _ _ mG _ belowG methG cG T2 LL 1 16 ∧ Fr n0 LL := ⟨_, X2, N0⟩
    have V2 : Arv Z h2 b2 k2 .char (16 : Int32) [(.int (0 : Int32)), (.int (0 : Int32)), (.int (0 : Int32)), (.int (0 : Int32)), (.int (0 : Int32)), (.int (0 : Int32)), (.int (0 : Int32)), (.int (0 : Int32)), (.int (0 : Int32)), (.int (0 : Int32)), (.int (0 : Int32)), (.int (0 : Int32)), (.int (0 : Int32)), (.int (0 : Int32)), (.int (0 : Int32)), (.int (0 : Int32))] (.int (0 : Int32)) := (Arv.new A2 (by decide)).pad (pad_rep [] (.int (0 : Int32)) 16)
    refine ob T2 (mkF mG 19 #[oi v0, .unset] [(.ref b2)]) (fun _ kk => st2 _ kk) ?_
    refine uD X2 hx hby d19 20 (uC X2 hx hby d20 0 21 (uB X2 hx hby d21 58 23 ?_))
    refine oSc X2 hx hby hZ e2 V2 ⟨by decide, by decide⟩ 0 (58 : Int32) rfl d23 O2 K2 N0 n_b2 (Or.inr sz_b2) 24 ?_
    intro T4 h4 L4 X4 e4 W4 V4 O4 K4 N4
    refine uD X4 hx hby d24 25 (uC X4 hx hby d25 1 26 (uB X4 hx hby d26 106 28 ?_))
    refine oSc X4 hx hby hZ e4 V4 ⟨by decide, by decide⟩ 1 (106 : Int32) rfl d28 O4 K4 N4 n_b2 (Or.inr sz_b2) 29 ?_
    intro T5 h5 L5 X5 e5 W5 V5 O5 K5 N5
    refine uD X5 hx hby d29 30 (uC X5 hx hby d30 2 31 (uB X5 hx hby d31 74 33 ?_))
    refine oSc X5 hx hby hZ e5 V5 ⟨by decide, by decide⟩ 2 (74 : Int32) rfl d33 O5 K5 N5 n_b2 (Or.inr sz_b2) 34 ?_
    intro T6 h6 L6 X6 e6 W6 V6 O6 K6 N6
    refine uD X6 hx hby d34 35 (uC X6 hx hby d35 3 36 (uB X6 hx hby d36 100 38 ?_))
    refine oSc X6 hx hby hZ e6 V6 ⟨by decide, by decide⟩ 3 (100 : Int32) rfl d38 O6 K6 N6 n_b2 (Or.inr sz_b2) 39 ?_
    intro T7 h7 L7 X7 e7 W7 V7 O7 K7 N7
    refine uD X7 hx hby d39 40 (uC X7 hx hby d40 4 41 (uB X7 hx hby d41 68 43 ?_))
    refine oSc X7 hx hby hZ e7 V7 ⟨by decide, by decide⟩ 4 (68 : Int32) rfl d43 O7 K7 N7 n_b2 (Or.inr sz_b2) 44 ?_
    intro T8 h8 L8 X8 e8 W8 V8 O8 K8 N8
    refine uD X8 hx hby d44 45 (uC X8 hx hby d45 5 46 (uB X8 hx hby d46 98 48 ?_))
    refine oSc X8 hx hby hZ e8 V8 ⟨by decide, by decide⟩ 5 (98 : Int32) rfl d48 O8 K8 N8 n_b2 (Or.inr sz_b2) 49 ?_
    intro T9 h9 L9 X9 e9 W9 V9 O9 K9 N9
    refine uD X9 hx hby d49 50 (uB X9 hx hby d50 6 52 (uB X9 hx hby d52 66 54 ?_))
    refine oSc X9 hx hby hZ e9 V9 ⟨by decide, by decide⟩ 6 (66 : Int32) rfl d54 O9 K9 N9 n_b2 (Or.inr sz_b2) 55 ?_
    intro T10 h10 L10 X10 e10 W10 V10 O10 K10 N10
    refine uD X10 hx hby d55 56 (uB X10 hx hby d56 7 58 (uB X10 hx hby d58 99 60 ?_))
    refine oSc X10 hx hby hZ e10 V10 ⟨by decide, by decide⟩ 7 (99 : Int32) rfl d60 O10 K10 N10 n_b2 (Or.inr sz_b2) 61 ?_
    intro T11 h11 L11 X11 e11 W11 V11 O11 K11 N11
    refine uD X11 hx hby d61 62 (uB X11 hx hby d62 8 64 (uB X11 hx hby d64 67 66 ?_))
    refine oSc X11 hx hby hZ e11 V11 ⟨by decide, by decide⟩ 8 (67 : Int32) rfl d66 O11 K11 N11 n_b2 (Or.inr sz_b2) 67 ?_
    intro T12 h12 L12 X12 e12 W12 V12 O12 K12 N12
    refine uD X12 hx hby d67 68 (uB X12 hx hby d68 9 70 (uB X12 hx hby d70 122 72 ?_))
    refine oSc X12 hx hby hZ e12 V12 ⟨by decide, by decide⟩ 9 (122 : Int32) rfl d72 O12 K12 N12 n_b2 (Or.inr sz_b2) 73 ?_
    intro T13 h13 L13 X13 e13 W13 V13 O13 K13 N13
    refine uD X13 hx hby d73 74 (uB X13 hx hby d74 10 76 (uB X13 hx hby d76 65 78 ?_))
    refine oSc X13 hx hby hZ e13 V13 ⟨by decide, by decide⟩ 10 (65 : Int32) rfl d78 O13 K13 N13 n_b2 (Or.inr sz_b2) 79 ?_
    intro T14 h14 L14 X14 e14 W14 V14 O14 K14 N14
    refine uD X14 hx hby d79 80 (uB X14 hx hby d80 11 82 (uB X14 hx hby d82 57 84 ?_))
    refine oSc X14 hx hby hZ e14 V14 ⟨by decide, by decide⟩ 11 (57 : Int32) rfl d84 O14 K14 N14 n_b2 (Or.inr sz_b2) 85 ?_
    intro T15 h15 L15 X15 e15 W15 V15 O15 K15 N15
    refine uD X15 hx hby d85 86 (uB X15 hx hby d86 12 88 (uB X15 hx hby d88 48 90 ?_))
    refine oSc X15 hx hby hZ e15 V15 ⟨by decide, by decide⟩ 12 (48 : Int32) rfl d90 O15 K15 N15 n_b2 (Or.inr sz_b2) 91 ?_
    intro T16 h16 L16 X16 e16 W16 V16 O16 K16 N16
    refine uD X16 hx hby d91 92 (uB X16 hx hby d92 13 94 (uB X16 hx hby d94 43 96 ?_))
    refine oSc X16 hx hby hZ e16 V16 ⟨by decide, by decide⟩ 13 (43 : Int32) rfl d96 O16 K16 N16 n_b2 (Or.inr sz_b2) 97 ?_
    intro T17 h17 L17 X17 e17 W17 V17 O17 K17 N17
    refine uD X17 hx hby d97 98 (uB X17 hx hby d98 14 100 (uB X17 hx hby d100 45 102 ?_))
    refine oSc X17 hx hby hZ e17 V17 ⟨by decide, by decide⟩ 14 (45 : Int32) rfl d102 O17 K17 N17 n_b2 (Or.inr sz_b2) 103 ?_
    intro T18 h18 L18 X18 e18 W18 V18 O18 K18 N18
    refine uD X18 hx hby d103 104 (uB X18 hx hby d104 15 106 (uB X18 hx hby d106 46 108 ?_))
    refine oSc X18 hx hby hZ e18 V18 ⟨by decide, by decide⟩ 15 (46 : Int32) rfl d108 O18 K18 N18 n_b2 (Or.inr sz_b2) 109 ?_
    intro T19 h19 L19 X19 e19 W19 V19 O19 K19 N19
    refine uO X19 hx hby d109 #[oi v0, oa b2] 110 (uA X19 hx hby d110 rfl 111 (uI X19 hx hby d111 rfl 112 (uB X19 hx hby d112 15 114 (uAnd X19 hx hby d114 115 ?_))))
    obtain ⟨cl20, Ar20, -, S20, N20a, H20, -⟩ := id V19
    obtain ⟨jx, ej, hj1, hj2⟩ : ∃ z, (v0 &&& (15 : Int32)) = z ∧ ¬ z < 0 ∧ z < (16 : Int32) := ⟨_, rfl, (own_a15 v0).1, (own_a15 v0).2⟩
    rw [ej]
    show oGo pG eG belowG _ T19 (mkF mG 115 #[oi v0, oa b2] [(.int jx), (.ref b2)])
    have hin20 : ¬ (jx < 0 ∨ cl20.slots.size ≤ jx.toNatClampNeg) := inb_of S20 ⟨hj1, hj2⟩
    obtain ⟨zx, ez, rz⟩ := own_chT jx hj1 hj2
    refine oby (T' := T19) (g' := (mkF mG 116 #[oi v0, oa b2] [(.int zx)])) (fun ot ok => X19.caload hx (j := jx) (v := (.int zx)) (by rw [e19]; exact Ar20.1) (State.isArrayOf_alike hZ.alike Ar20.2.1) Ar20.2.2 hin20 (Has.at H20 hin20 ez) (g := (mkF mG 115 #[oi v0, oa b2] [(.int jx), (.ref b2)])) rfl rfl (hb hby d115) _ ok) ?_
    obtain ⟨cz, ecz, rcz⟩ : ∃ z, zx = z ∧ oRg z := ⟨_, rfl, rz⟩
    rw [ecz]
    show oGo pG eG belowG _ T19 (mkF mG 116 #[oi v0, oa b2] [(.int cz)])
    exact oRZ X19 hx hby hret hlk e19 d116 (nar .char cz) ⟨(nar .char cz), rfl, N19, K19, O19, (by rw [own_nar cz rcz]; exact rcz)⟩
  refine uN X0 hx hby d5 ((if0 _ _).trans (feq hc1).1) 8 (uI X0 hx hby d8 rfl 9 (uS X0 hx hby d9 255 12 (uAnd X0 hx hby d12 13 ?_)))
  refine ob s₁ (mkF mG 14 #[oi v0, .unset] [(.int ((v0 &&& (255 : Int32)).toUInt32.toUInt16.toUInt32.toInt32))]) (fun _ kk => XS.i2c X0.here hx rfl (hb hby d13) rfl kk) ?_
  obtain ⟨cz, ecz, rcz⟩ : ∃ z, ((v0 &&& (255 : Int32)).toUInt32.toUInt16.toUInt32.toInt32) = z ∧ oRg z := ⟨_, rfl, (own_rg v0)⟩
  rw [ecz]
  show oGo pG eG belowG _ s₁ (mkF mG 14 #[oi v0, .unset] [(.int cz)])
  exact oRZ X0 hx hby hret hlk e0 d14 (nar .char cz) ⟨(nar .char cz), rfl, N0, K0, O0, (by rw [own_nar cz rcz]; exact rcz)⟩

abbrev K2 (n : Nat) (i : Instr) (k : Nat) : Prop := decode method_5_code n = .ok (i, k)
theorem D0 : K2 0 (.iload_n 1) 1 := by decide +kernel
theorem D1 : K2 1 (.ifCond .ne 7) 3 := by decide +kernel
theorem D4 : K2 4 (.iconst 0) 1 := by decide +kernel
theorem D5 : K2 5 (.newarray .char) 2 := by decide +kernel
theorem D7 : K2 7 .areturn 1 := by decide +kernel
theorem D8 : K2 8 (.iload_n 1) 1 := by decide +kernel
theorem D9 : K2 9 (.iconst 1) 1 := by decide +kernel
theorem D10 : K2 10 (.if_icmp .ne 13) 3 := by decide +kernel
theorem D13 : K2 13 (.iconst 1) 1 := by decide +kernel
theorem D14 : K2 14 (.newarray .char) 2 := by decide +kernel
theorem D16 : K2 16 .dup 1 := by decide +kernel
theorem D17 : K2 17 (.iconst 0) 1 := by decide +kernel
theorem D18 : K2 18 (.aload_n 0) 1 := by decide +kernel
theorem D19 : K2 19 (.iconst 0) 1 := by decide +kernel
theorem D20 : K2 20 .caload 1 := by decide +kernel
theorem D21 : K2 21 .castore 1 := by decide +kernel
theorem D22 : K2 22 .areturn 1 := by decide +kernel
theorem D23 : K2 23 (.iload_n 1) 1 := by decide +kernel
theorem D24 : K2 24 (.iconst 2) 1 := by decide +kernel
theorem D25 : K2 25 (.if_icmp .ne 19) 3 := by decide +kernel
theorem D28 : K2 28 (.iconst 2) 1 := by decide +kernel
theorem D29 : K2 29 (.newarray .char) 2 := by decide +kernel
theorem D31 : K2 31 .dup 1 := by decide +kernel
theorem D32 : K2 32 (.iconst 0) 1 := by decide +kernel
theorem D33 : K2 33 (.aload_n 0) 1 := by decide +kernel
theorem D34 : K2 34 (.iconst 0) 1 := by decide +kernel
theorem D35 : K2 35 .caload 1 := by decide +kernel
theorem D36 : K2 36 .castore 1 := by decide +kernel
theorem D37 : K2 37 .dup 1 := by decide +kernel
theorem D38 : K2 38 (.iconst 1) 1 := by decide +kernel
theorem D39 : K2 39 (.aload_n 0) 1 := by decide +kernel
theorem D40 : K2 40 (.iconst 1) 1 := by decide +kernel
theorem D41 : K2 41 .caload 1 := by decide +kernel
theorem D42 : K2 42 .castore 1 := by decide +kernel
theorem D43 : K2 43 .areturn 1 := by decide +kernel
theorem D44 : K2 44 (.iload_n 1) 1 := by decide +kernel
theorem D45 : K2 45 (.iconst 3) 1 := by decide +kernel
theorem D46 : K2 46 (.if_icmp .ne 25) 3 := by decide +kernel
theorem D49 : K2 49 (.iconst 3) 1 := by decide +kernel
theorem D50 : K2 50 (.newarray .char) 2 := by decide +kernel
theorem D52 : K2 52 .dup 1 := by decide +kernel
theorem D53 : K2 53 (.iconst 0) 1 := by decide +kernel
theorem D54 : K2 54 (.aload_n 0) 1 := by decide +kernel
theorem D55 : K2 55 (.iconst 0) 1 := by decide +kernel
theorem D56 : K2 56 .caload 1 := by decide +kernel
theorem D57 : K2 57 .castore 1 := by decide +kernel
theorem D58 : K2 58 .dup 1 := by decide +kernel
theorem D59 : K2 59 (.iconst 1) 1 := by decide +kernel
theorem D60 : K2 60 (.aload_n 0) 1 := by decide +kernel
theorem D61 : K2 61 (.iconst 1) 1 := by decide +kernel
theorem D62 : K2 62 .caload 1 := by decide +kernel
theorem D63 : K2 63 .castore 1 := by decide +kernel
theorem D64 : K2 64 .dup 1 := by decide +kernel
theorem D65 : K2 65 (.iconst 2) 1 := by decide +kernel
theorem D66 : K2 66 (.aload_n 0) 1 := by decide +kernel
theorem D67 : K2 67 (.iconst 2) 1 := by decide +kernel
theorem D68 : K2 68 .caload 1 := by decide +kernel
theorem D69 : K2 69 .castore 1 := by decide +kernel
theorem D70 : K2 70 .areturn 1 := by decide +kernel
theorem D71 : K2 71 (.iload_n 1) 1 := by decide +kernel
theorem D72 : K2 72 (.iconst 4) 1 := by decide +kernel
theorem D73 : K2 73 (.if_icmp .ne 31) 3 := by decide +kernel
theorem D76 : K2 76 (.iconst 4) 1 := by decide +kernel
theorem D77 : K2 77 (.newarray .char) 2 := by decide +kernel
theorem D79 : K2 79 .dup 1 := by decide +kernel
theorem D80 : K2 80 (.iconst 0) 1 := by decide +kernel
theorem D81 : K2 81 (.aload_n 0) 1 := by decide +kernel
theorem D82 : K2 82 (.iconst 0) 1 := by decide +kernel
theorem D83 : K2 83 .caload 1 := by decide +kernel
theorem D84 : K2 84 .castore 1 := by decide +kernel
theorem D85 : K2 85 .dup 1 := by decide +kernel
theorem D86 : K2 86 (.iconst 1) 1 := by decide +kernel
theorem D87 : K2 87 (.aload_n 0) 1 := by decide +kernel
theorem D88 : K2 88 (.iconst 1) 1 := by decide +kernel
theorem D89 : K2 89 .caload 1 := by decide +kernel
theorem D90 : K2 90 .castore 1 := by decide +kernel
theorem D91 : K2 91 .dup 1 := by decide +kernel
theorem D92 : K2 92 (.iconst 2) 1 := by decide +kernel
theorem D93 : K2 93 (.aload_n 0) 1 := by decide +kernel
theorem D94 : K2 94 (.iconst 2) 1 := by decide +kernel
theorem D95 : K2 95 .caload 1 := by decide +kernel
theorem D96 : K2 96 .castore 1 := by decide +kernel
theorem D97 : K2 97 .dup 1 := by decide +kernel
theorem D98 : K2 98 (.iconst 3) 1 := by decide +kernel
theorem D99 : K2 99 (.aload_n 0) 1 := by decide +kernel
theorem D100 : K2 100 (.iconst 3) 1 := by decide +kernel
theorem D101 : K2 101 .caload 1 := by decide +kernel
theorem D102 : K2 102 .castore 1 := by decide +kernel
theorem D103 : K2 103 .areturn 1 := by decide +kernel
theorem D104 : K2 104 (.iload_n 1) 1 := by decide +kernel
theorem D105 : K2 105 (.iconst 5) 1 := by decide +kernel
theorem D106 : K2 106 (.if_icmp .ne 37) 3 := by decide +kernel
theorem D109 : K2 109 (.iconst 5) 1 := by decide +kernel
theorem D110 : K2 110 (.newarray .char) 2 := by decide +kernel
theorem D112 : K2 112 .dup 1 := by decide +kernel
theorem D113 : K2 113 (.iconst 0) 1 := by decide +kernel
theorem D114 : K2 114 (.aload_n 0) 1 := by decide +kernel
theorem D115 : K2 115 (.iconst 0) 1 := by decide +kernel
theorem D116 : K2 116 .caload 1 := by decide +kernel
theorem D117 : K2 117 .castore 1 := by decide +kernel
theorem D118 : K2 118 .dup 1 := by decide +kernel
theorem D119 : K2 119 (.iconst 1) 1 := by decide +kernel
theorem D120 : K2 120 (.aload_n 0) 1 := by decide +kernel
theorem D121 : K2 121 (.iconst 1) 1 := by decide +kernel
theorem D122 : K2 122 .caload 1 := by decide +kernel
theorem D123 : K2 123 .castore 1 := by decide +kernel
theorem D124 : K2 124 .dup 1 := by decide +kernel
theorem D125 : K2 125 (.iconst 2) 1 := by decide +kernel
theorem D126 : K2 126 (.aload_n 0) 1 := by decide +kernel
theorem D127 : K2 127 (.iconst 2) 1 := by decide +kernel
theorem D128 : K2 128 .caload 1 := by decide +kernel
theorem D129 : K2 129 .castore 1 := by decide +kernel
theorem D130 : K2 130 .dup 1 := by decide +kernel
theorem D131 : K2 131 (.iconst 3) 1 := by decide +kernel
theorem D132 : K2 132 (.aload_n 0) 1 := by decide +kernel
theorem D133 : K2 133 (.iconst 3) 1 := by decide +kernel
theorem D134 : K2 134 .caload 1 := by decide +kernel
theorem D135 : K2 135 .castore 1 := by decide +kernel
theorem D136 : K2 136 .dup 1 := by decide +kernel
theorem D137 : K2 137 (.iconst 4) 1 := by decide +kernel
theorem D138 : K2 138 (.aload_n 0) 1 := by decide +kernel
theorem D139 : K2 139 (.iconst 4) 1 := by decide +kernel
theorem D140 : K2 140 .caload 1 := by decide +kernel
theorem D141 : K2 141 .castore 1 := by decide +kernel
theorem D142 : K2 142 .areturn 1 := by decide +kernel
theorem D143 : K2 143 (.iload_n 1) 1 := by decide +kernel
theorem D144 : K2 144 (.bipush 6) 2 := by decide +kernel
theorem D146 : K2 146 (.if_icmp .ne 44) 3 := by decide +kernel
theorem D149 : K2 149 (.bipush 6) 2 := by decide +kernel
theorem D151 : K2 151 (.newarray .char) 2 := by decide +kernel
theorem D153 : K2 153 .dup 1 := by decide +kernel
theorem D154 : K2 154 (.iconst 0) 1 := by decide +kernel
theorem D155 : K2 155 (.aload_n 0) 1 := by decide +kernel
theorem D156 : K2 156 (.iconst 0) 1 := by decide +kernel
theorem D157 : K2 157 .caload 1 := by decide +kernel
theorem D158 : K2 158 .castore 1 := by decide +kernel
theorem D159 : K2 159 .dup 1 := by decide +kernel
theorem D160 : K2 160 (.iconst 1) 1 := by decide +kernel
theorem D161 : K2 161 (.aload_n 0) 1 := by decide +kernel
theorem D162 : K2 162 (.iconst 1) 1 := by decide +kernel
theorem D163 : K2 163 .caload 1 := by decide +kernel
theorem D164 : K2 164 .castore 1 := by decide +kernel
theorem D165 : K2 165 .dup 1 := by decide +kernel
theorem D166 : K2 166 (.iconst 2) 1 := by decide +kernel
theorem D167 : K2 167 (.aload_n 0) 1 := by decide +kernel
theorem D168 : K2 168 (.iconst 2) 1 := by decide +kernel
theorem D169 : K2 169 .caload 1 := by decide +kernel
theorem D170 : K2 170 .castore 1 := by decide +kernel
theorem D171 : K2 171 .dup 1 := by decide +kernel
theorem D172 : K2 172 (.iconst 3) 1 := by decide +kernel
theorem D173 : K2 173 (.aload_n 0) 1 := by decide +kernel
theorem D174 : K2 174 (.iconst 3) 1 := by decide +kernel
theorem D175 : K2 175 .caload 1 := by decide +kernel
theorem D176 : K2 176 .castore 1 := by decide +kernel
theorem D177 : K2 177 .dup 1 := by decide +kernel
theorem D178 : K2 178 (.iconst 4) 1 := by decide +kernel
theorem D179 : K2 179 (.aload_n 0) 1 := by decide +kernel
theorem D180 : K2 180 (.iconst 4) 1 := by decide +kernel
theorem D181 : K2 181 .caload 1 := by decide +kernel
theorem D182 : K2 182 .castore 1 := by decide +kernel
theorem D183 : K2 183 .dup 1 := by decide +kernel
theorem D184 : K2 184 (.iconst 5) 1 := by decide +kernel
theorem D185 : K2 185 (.aload_n 0) 1 := by decide +kernel
theorem D186 : K2 186 (.iconst 5) 1 := by decide +kernel
theorem D187 : K2 187 .caload 1 := by decide +kernel
theorem D188 : K2 188 .castore 1 := by decide +kernel
theorem D189 : K2 189 .areturn 1 := by decide +kernel
theorem D190 : K2 190 (.iload_n 1) 1 := by decide +kernel
theorem D191 : K2 191 (.bipush 7) 2 := by decide +kernel
theorem D193 : K2 193 (.if_icmp .ne 52) 3 := by decide +kernel
theorem D196 : K2 196 (.bipush 7) 2 := by decide +kernel
theorem D198 : K2 198 (.newarray .char) 2 := by decide +kernel
theorem D200 : K2 200 .dup 1 := by decide +kernel
theorem D201 : K2 201 (.iconst 0) 1 := by decide +kernel
theorem D202 : K2 202 (.aload_n 0) 1 := by decide +kernel
theorem D203 : K2 203 (.iconst 0) 1 := by decide +kernel
theorem D204 : K2 204 .caload 1 := by decide +kernel
theorem D205 : K2 205 .castore 1 := by decide +kernel
theorem D206 : K2 206 .dup 1 := by decide +kernel
theorem D207 : K2 207 (.iconst 1) 1 := by decide +kernel
theorem D208 : K2 208 (.aload_n 0) 1 := by decide +kernel
theorem D209 : K2 209 (.iconst 1) 1 := by decide +kernel
theorem D210 : K2 210 .caload 1 := by decide +kernel
theorem D211 : K2 211 .castore 1 := by decide +kernel
theorem D212 : K2 212 .dup 1 := by decide +kernel
theorem D213 : K2 213 (.iconst 2) 1 := by decide +kernel
theorem D214 : K2 214 (.aload_n 0) 1 := by decide +kernel
theorem D215 : K2 215 (.iconst 2) 1 := by decide +kernel
theorem D216 : K2 216 .caload 1 := by decide +kernel
theorem D217 : K2 217 .castore 1 := by decide +kernel
theorem D218 : K2 218 .dup 1 := by decide +kernel
theorem D219 : K2 219 (.iconst 3) 1 := by decide +kernel
theorem D220 : K2 220 (.aload_n 0) 1 := by decide +kernel
theorem D221 : K2 221 (.iconst 3) 1 := by decide +kernel
theorem D222 : K2 222 .caload 1 := by decide +kernel
theorem D223 : K2 223 .castore 1 := by decide +kernel
theorem D224 : K2 224 .dup 1 := by decide +kernel
theorem D225 : K2 225 (.iconst 4) 1 := by decide +kernel
theorem D226 : K2 226 (.aload_n 0) 1 := by decide +kernel
theorem D227 : K2 227 (.iconst 4) 1 := by decide +kernel
theorem D228 : K2 228 .caload 1 := by decide +kernel
theorem D229 : K2 229 .castore 1 := by decide +kernel
theorem D230 : K2 230 .dup 1 := by decide +kernel
theorem D231 : K2 231 (.iconst 5) 1 := by decide +kernel
theorem D232 : K2 232 (.aload_n 0) 1 := by decide +kernel
theorem D233 : K2 233 (.iconst 5) 1 := by decide +kernel
theorem D234 : K2 234 .caload 1 := by decide +kernel
theorem D235 : K2 235 .castore 1 := by decide +kernel
theorem D236 : K2 236 .dup 1 := by decide +kernel
theorem D237 : K2 237 (.bipush 6) 2 := by decide +kernel
theorem D239 : K2 239 (.aload_n 0) 1 := by decide +kernel
theorem D240 : K2 240 (.bipush 6) 2 := by decide +kernel
theorem D242 : K2 242 .caload 1 := by decide +kernel
theorem D243 : K2 243 .castore 1 := by decide +kernel
theorem D244 : K2 244 .areturn 1 := by decide +kernel
theorem D245 : K2 245 (.bipush 8) 2 := by decide +kernel
theorem D247 : K2 247 (.newarray .char) 2 := by decide +kernel
theorem D249 : K2 249 .dup 1 := by decide +kernel
theorem D250 : K2 250 (.iconst 0) 1 := by decide +kernel
theorem D251 : K2 251 (.aload_n 0) 1 := by decide +kernel
theorem D252 : K2 252 (.iconst 0) 1 := by decide +kernel
theorem D253 : K2 253 .caload 1 := by decide +kernel
theorem D254 : K2 254 .castore 1 := by decide +kernel
theorem D255 : K2 255 .dup 1 := by decide +kernel
theorem D256 : K2 256 (.iconst 1) 1 := by decide +kernel
theorem D257 : K2 257 (.aload_n 0) 1 := by decide +kernel
theorem D258 : K2 258 (.iconst 1) 1 := by decide +kernel
theorem D259 : K2 259 .caload 1 := by decide +kernel
theorem D260 : K2 260 .castore 1 := by decide +kernel
theorem D261 : K2 261 .dup 1 := by decide +kernel
theorem D262 : K2 262 (.iconst 2) 1 := by decide +kernel
theorem D263 : K2 263 (.aload_n 0) 1 := by decide +kernel
theorem D264 : K2 264 (.iconst 2) 1 := by decide +kernel
theorem D265 : K2 265 .caload 1 := by decide +kernel
theorem D266 : K2 266 .castore 1 := by decide +kernel
theorem D267 : K2 267 .dup 1 := by decide +kernel
theorem D268 : K2 268 (.iconst 3) 1 := by decide +kernel
theorem D269 : K2 269 (.aload_n 0) 1 := by decide +kernel
theorem D270 : K2 270 (.iconst 3) 1 := by decide +kernel
theorem D271 : K2 271 .caload 1 := by decide +kernel
theorem D272 : K2 272 .castore 1 := by decide +kernel
theorem D273 : K2 273 .dup 1 := by decide +kernel
theorem D274 : K2 274 (.iconst 4) 1 := by decide +kernel
theorem D275 : K2 275 (.aload_n 0) 1 := by decide +kernel
theorem D276 : K2 276 (.iconst 4) 1 := by decide +kernel
theorem D277 : K2 277 .caload 1 := by decide +kernel
theorem D278 : K2 278 .castore 1 := by decide +kernel
theorem D279 : K2 279 .dup 1 := by decide +kernel
theorem D280 : K2 280 (.iconst 5) 1 := by decide +kernel
theorem D281 : K2 281 (.aload_n 0) 1 := by decide +kernel
theorem D282 : K2 282 (.iconst 5) 1 := by decide +kernel
theorem D283 : K2 283 .caload 1 := by decide +kernel
theorem D284 : K2 284 .castore 1 := by decide +kernel
theorem D285 : K2 285 .dup 1 := by decide +kernel
theorem D286 : K2 286 (.bipush 6) 2 := by decide +kernel
theorem D288 : K2 288 (.aload_n 0) 1 := by decide +kernel
theorem D289 : K2 289 (.bipush 6) 2 := by decide +kernel
theorem D291 : K2 291 .caload 1 := by decide +kernel
theorem D292 : K2 292 .castore 1 := by decide +kernel
theorem D293 : K2 293 .dup 1 := by decide +kernel
theorem D294 : K2 294 (.bipush 7) 2 := by decide +kernel
theorem D296 : K2 296 (.aload_n 0) 1 := by decide +kernel
theorem D297 : K2 297 (.bipush 7) 2 := by decide +kernel
theorem D299 : K2 299 .caload 1 := by decide +kernel
theorem D300 : K2 300 .castore 1 := by decide +kernel
theorem D301 : K2 301 .areturn 1 := by decide +kernel
def Q_rm_cut0 (Z : State) (wR wI : Addr) (zc : Int32) (vf : Value) (wB wL wV : Addr) (cV : Cell) (sA : Addr) (ks : ClassId) (c0 c1 c2 c3 c4 c5 c6 c7 : Int32) (h0 : Heap) (n0 : Nat) (v : Option Value) (h : Heap) (L : List Loc) : Prop := ∃ (b0 : Addr) (kq1 : ClassId), v = some (.ref b0) ∧ Fr n0 L ∧ Keep h0 h [] ∧ Old Z n0 h ∧ n0 ≤ b0 ∧ h0.size ≤ b0 ∧ Arv Z h b0 kq1 .char (0 : Int32) [] (.int (0 : Int32))
theorem rm_cut0 (sA : Addr) (ks : ClassId) (c0 c1 c2 c3 c4 c5 c6 c7 : Int32) (H : oH Z a0 n0 h0 wR wI zc vf wB wL wV cV) (V_s : Arv Z h0 sA ks .char (8 : Int32) (oC8 c0 c1 c2 c3 c4 c5 c6 c7) (.int (0 : Int32))) (r0 : oRg c0) (r1 : oRg c1) (r2 : oRg c2) (r3 : oRg c3) (r4 : oRg c4) (r5 : oRg c5) (r6 : oRg c6) (r7 : oRg c7) : oM l Z (⟨sW, "cut", "([CI)[C"⟩ : MethodName) method_5_code 2 (some (.array .char)) (oRm 0 1 0 0) #[(.ref sA), (.int (0 : Int32))] h0 (Q_rm_cut0 Z wR wI zc vf wB wL wV cV sA ks c0 c1 c2 c3 c4 c5 c6 c7 h0 n0) := by
  obtain ⟨hw, O0, hS⟩ := H
  refine oBody (plainFor_of_name pn_0) #[oa sA, oi (0 : Int32)] (fun _ => by first | (simp [entryFrame, mkF, argsToLocals, Value.category]; done) | rfl) ?_
  intro pG eG sG mG belowG methG cG s₁ hx hby hml hown hnm hret hlk X0 e0 hZ
  have N0 := Fr.nil n0
  have K0 := Keep.refl h0 []
  refine uI X0 hx hby D0 rfl 1 (uN X0 hx hby D1 ((if0 _ _).trans (teq (by decide : (0 : Int32) = (0 : Int32))).2) 4 (uC X0 hx hby D4 0 5 ?_))
  obtain ⟨T1, h1, k1, X1, e1, E1, A1, st1⟩ := newP X0 hx hZ (ow hw 0 rfl) e0 (g := (mkF mG 5 #[oa sA, oi (0 : Int32)] [(.int (0 : Int32))])) rfl (hb hby D5) rfl (by decide) (cap := 0) (by decide) (by decide) (by decide) (by decide)
  obtain ⟨b1, g1⟩ : ∃ z, z = h0.size := ⟨_, rfl⟩
  rw [← g1] at A1 st1
  have n_b1 : n0 ≤ b1 := Nat.le_trans (on0 O0) (Nat.le_of_eq g1.symm)
  have sz_b1 : h0.size ≤ b1 := Nat.le_trans K0.1 (Nat.le_of_eq g1.symm)
  have ne_sA_b1 : sA ≠ b1 := Nat.ne_of_lt (Nat.lt_of_lt_of_le V_s.lt (Nat.le_of_eq g1.symm))
  have O1 := O0.ext E1
  have K1 := K0.ext E1
  obtain ⟨LL2, X1, N0⟩ : ∃ LL, Stand pG l eG _ _ mG _ belowG methG cG T1 LL 1 0 ∧ Fr n0 LL := ⟨_, X1, N0⟩
  have V1 : Arv Z h1 b1 k1 .char (0 : Int32) [] (.int (0 : Int32)) := (Arv.new A1 (by decide)).pad (pad_rep [] (.int (0 : Int32)) 0)
  refine ob T1 (mkF mG 7 #[oa sA, oi (0 : Int32)] [(.ref b1)]) (fun _ kk => st1 _ kk) ?_
  exact oRA X1 hx hby hret hlk e1 D7 ⟨b1, k1, rfl, N0, K1, O1, n_b1, sz_b1, V1⟩

def Q_rm_cut1 (Z : State) (wR wI : Addr) (zc : Int32) (vf : Value) (wB wL wV : Addr) (cV : Cell) (sA : Addr) (ks : ClassId) (c0 c1 c2 c3 c4 c5 c6 c7 : Int32) (h0 : Heap) (n0 : Nat) (v : Option Value) (h : Heap) (L : List Loc) : Prop := ∃ (b0 : Addr) (kq1 : ClassId), v = some (.ref b0) ∧ Fr n0 L ∧ Keep h0 h [] ∧ Old Z n0 h ∧ n0 ≤ b0 ∧ h0.size ≤ b0 ∧ Arv Z h b0 kq1 .char (1 : Int32) [(.int c0)] (.int (0 : Int32))
theorem rm_cut1 (sA : Addr) (ks : ClassId) (c0 c1 c2 c3 c4 c5 c6 c7 : Int32) (H : oH Z a0 n0 h0 wR wI zc vf wB wL wV cV) (V_s : Arv Z h0 sA ks .char (8 : Int32) (oC8 c0 c1 c2 c3 c4 c5 c6 c7) (.int (0 : Int32))) (r0 : oRg c0) (r1 : oRg c1) (r2 : oRg c2) (r3 : oRg c3) (r4 : oRg c4) (r5 : oRg c5) (r6 : oRg c6) (r7 : oRg c7) : oM l Z (⟨sW, "cut", "([CI)[C"⟩ : MethodName) method_5_code 2 (some (.array .char)) (oRm 0 1 1 0) #[(.ref sA), (.int (1 : Int32))] h0 (Q_rm_cut1 Z wR wI zc vf wB wL wV cV sA ks c0 c1 c2 c3 c4 c5 c6 c7 h0 n0) := by
  obtain ⟨hw, O0, hS⟩ := H
  refine oBody (plainFor_of_name pn_0) #[oa sA, oi (1 : Int32)] (fun _ => by first | (simp [entryFrame, mkF, argsToLocals, Value.category]; done) | rfl) ?_
  intro pG eG sG mG belowG methG cG s₁ hx hby hml hown hnm hret hlk X0 e0 hZ
  have N0 := Fr.nil n0
  have K0 := Keep.refl h0 []
  refine uI X0 hx hby D0 rfl 1 (uY X0 hx hby D1 ((if0 _ _).trans (feq (by decide : ¬ ((1 : Int32) = (0 : Int32)))).2) 8 (uI X0 hx hby D8 rfl 9 (uC X0 hx hby D9 1 10 (uNc X0 hx hby D10 (teq (by decide : (1 : Int32) = (1 : Int32))).2 13 (uC X0 hx hby D13 1 14 ?_)))))
  obtain ⟨T1, h1, k1, X1, e1, E1, A1, st1⟩ := newP X0 hx hZ (ow hw 0 rfl) e0 (g := (mkF mG 14 #[oa sA, oi (1 : Int32)] [(.int (1 : Int32))])) rfl (hb hby D14) rfl (by decide) (cap := 1) (by decide) (by decide) (by decide) (by decide)
  obtain ⟨b1, g1⟩ : ∃ z, z = h0.size := ⟨_, rfl⟩
  rw [← g1] at A1 st1
  have n_b1 : n0 ≤ b1 := Nat.le_trans (on0 O0) (Nat.le_of_eq g1.symm)
  have sz_b1 : h0.size ≤ b1 := Nat.le_trans K0.1 (Nat.le_of_eq g1.symm)
  have ne_sA_b1 : sA ≠ b1 := Nat.ne_of_lt (Nat.lt_of_lt_of_le V_s.lt (Nat.le_of_eq g1.symm))
  have O1 := O0.ext E1
  have K1 := K0.ext E1
  obtain ⟨LL2, X1, N0⟩ : ∃ LL, Stand pG l eG _ _ mG _ belowG methG cG T1 LL 1 1 ∧ Fr n0 LL := ⟨_, X1, N0⟩
  have V1 : Arv Z h1 b1 k1 .char (1 : Int32) [(.int (0 : Int32))] (.int (0 : Int32)) := (Arv.new A1 (by decide)).pad (pad_rep [] (.int (0 : Int32)) 1)
  refine ob T1 (mkF mG 16 #[oa sA, oi (1 : Int32)] [(.ref b1)]) (fun _ kk => st1 _ kk) ?_
  refine uD X1 hx hby D16 17 (uC X1 hx hby D17 0 18 (uA X1 hx hby D18 rfl 19 (uC X1 hx hby D19 0 20 (oLc X1 hx hby hZ e1 (V_s.ext E1) ⟨by decide, by decide⟩ rfl D20 21 ?_))))
  refine oSc X1 hx hby hZ e1 V1 ⟨by decide, by decide⟩ 0 c0 (own_nar c0 r0) D21 O1 K1 N0 n_b1 (Or.inr sz_b1) 22 ?_
  intro T3 h3 L3 X3 e3 W3 V3 O3 K3 N3
  exact oRA X3 hx hby hret hlk e3 D22 ⟨b1, k1, rfl, N3, K3, O3, n_b1, sz_b1, V3⟩

def Q_rm_cut2 (Z : State) (wR wI : Addr) (zc : Int32) (vf : Value) (wB wL wV : Addr) (cV : Cell) (sA : Addr) (ks : ClassId) (c0 c1 c2 c3 c4 c5 c6 c7 : Int32) (h0 : Heap) (n0 : Nat) (v : Option Value) (h : Heap) (L : List Loc) : Prop := ∃ (b0 : Addr) (kq1 : ClassId), v = some (.ref b0) ∧ Fr n0 L ∧ Keep h0 h [] ∧ Old Z n0 h ∧ n0 ≤ b0 ∧ h0.size ≤ b0 ∧ Arv Z h b0 kq1 .char (2 : Int32) [(.int c0), (.int c1)] (.int (0 : Int32))
theorem rm_cut2 (sA : Addr) (ks : ClassId) (c0 c1 c2 c3 c4 c5 c6 c7 : Int32) (H : oH Z a0 n0 h0 wR wI zc vf wB wL wV cV) (V_s : Arv Z h0 sA ks .char (8 : Int32) (oC8 c0 c1 c2 c3 c4 c5 c6 c7) (.int (0 : Int32))) (r0 : oRg c0) (r1 : oRg c1) (r2 : oRg c2) (r3 : oRg c3) (r4 : oRg c4) (r5 : oRg c5) (r6 : oRg c6) (r7 : oRg c7) : oM l Z (⟨sW, "cut", "([CI)[C"⟩ : MethodName) method_5_code 2 (some (.array .char)) (oRm 0 1 2 0) #[(.ref sA), (.int (2 : Int32))] h0 (Q_rm_cut2 Z wR wI zc vf wB wL wV cV sA ks c0 c1 c2 c3 c4 c5 c6 c7 h0 n0) := by
  obtain ⟨hw, O0, hS⟩ := H
  refine oBody (plainFor_of_name pn_0) #[oa sA, oi (2 : Int32)] (fun _ => by first | (simp [entryFrame, mkF, argsToLocals, Value.category]; done) | rfl) ?_
  intro pG eG sG mG belowG methG cG s₁ hx hby hml hown hnm hret hlk X0 e0 hZ
  have N0 := Fr.nil n0
  have K0 := Keep.refl h0 []
  refine uI X0 hx hby D0 rfl 1 (uY X0 hx hby D1 ((if0 _ _).trans (feq (by decide : ¬ ((2 : Int32) = (0 : Int32)))).2) 8 (uI X0 hx hby D8 rfl 9 (uC X0 hx hby D9 1 10 (uYc X0 hx hby D10 (feq (by decide : ¬ ((2 : Int32) = (1 : Int32)))).2 23 (uI X0 hx hby D23 rfl 24 (uC X0 hx hby D24 2 25 (uNc X0 hx hby D25 (teq (by decide : (2 : Int32) = (2 : Int32))).2 28 (uC X0 hx hby D28 2 29 ?_))))))))
  obtain ⟨T1, h1, k1, X1, e1, E1, A1, st1⟩ := newP X0 hx hZ (ow hw 0 rfl) e0 (g := (mkF mG 29 #[oa sA, oi (2 : Int32)] [(.int (2 : Int32))])) rfl (hb hby D29) rfl (by decide) (cap := 2) (by decide) (by decide) (by decide) (by decide)
  obtain ⟨b1, g1⟩ : ∃ z, z = h0.size := ⟨_, rfl⟩
  rw [← g1] at A1 st1
  have n_b1 : n0 ≤ b1 := Nat.le_trans (on0 O0) (Nat.le_of_eq g1.symm)
  have sz_b1 : h0.size ≤ b1 := Nat.le_trans K0.1 (Nat.le_of_eq g1.symm)
  have ne_sA_b1 : sA ≠ b1 := Nat.ne_of_lt (Nat.lt_of_lt_of_le V_s.lt (Nat.le_of_eq g1.symm))
  have O1 := O0.ext E1
  have K1 := K0.ext E1
  obtain ⟨LL2, X1, N0⟩ : ∃ LL, Stand pG l eG _ _ mG _ belowG methG cG T1 LL 1 2 ∧ Fr n0 LL := ⟨_, X1, N0⟩
  have V1 : Arv Z h1 b1 k1 .char (2 : Int32) [(.int (0 : Int32)), (.int (0 : Int32))] (.int (0 : Int32)) := (Arv.new A1 (by decide)).pad (pad_rep [] (.int (0 : Int32)) 2)
  refine ob T1 (mkF mG 31 #[oa sA, oi (2 : Int32)] [(.ref b1)]) (fun _ kk => st1 _ kk) ?_
  refine uD X1 hx hby D31 32 (uC X1 hx hby D32 0 33 (uA X1 hx hby D33 rfl 34 (uC X1 hx hby D34 0 35 (oLc X1 hx hby hZ e1 (V_s.ext E1) ⟨by decide, by decide⟩ rfl D35 36 ?_))))
  refine oSc X1 hx hby hZ e1 V1 ⟨by decide, by decide⟩ 0 c0 (own_nar c0 r0) D36 O1 K1 N0 n_b1 (Or.inr sz_b1) 37 ?_
  intro T3 h3 L3 X3 e3 W3 V3 O3 K3 N3
  refine uD X3 hx hby D37 38 (uC X3 hx hby D38 1 39 (uA X3 hx hby D39 rfl 40 (uC X3 hx hby D40 1 41 (oLc X3 hx hby hZ e3 ((V_s.ext E1).other W3 ne_sA_b1) ⟨by decide, by decide⟩ rfl D41 42 ?_))))
  refine oSc X3 hx hby hZ e3 V3 ⟨by decide, by decide⟩ 1 c1 (own_nar c1 r1) D42 O3 K3 N3 n_b1 (Or.inr sz_b1) 43 ?_
  intro T4 h4 L4 X4 e4 W4 V4 O4 K4 N4
  exact oRA X4 hx hby hret hlk e4 D43 ⟨b1, k1, rfl, N4, K4, O4, n_b1, sz_b1, V4⟩

def Q_rm_cut3 (Z : State) (wR wI : Addr) (zc : Int32) (vf : Value) (wB wL wV : Addr) (cV : Cell) (sA : Addr) (ks : ClassId) (c0 c1 c2 c3 c4 c5 c6 c7 : Int32) (h0 : Heap) (n0 : Nat) (v : Option Value) (h : Heap) (L : List Loc) : Prop := ∃ (b0 : Addr) (kq1 : ClassId), v = some (.ref b0) ∧ Fr n0 L ∧ Keep h0 h [] ∧ Old Z n0 h ∧ n0 ≤ b0 ∧ h0.size ≤ b0 ∧ Arv Z h b0 kq1 .char (3 : Int32) [(.int c0), (.int c1), (.int c2)] (.int (0 : Int32))
theorem rm_cut3 (sA : Addr) (ks : ClassId) (c0 c1 c2 c3 c4 c5 c6 c7 : Int32) (H : oH Z a0 n0 h0 wR wI zc vf wB wL wV cV) (V_s : Arv Z h0 sA ks .char (8 : Int32) (oC8 c0 c1 c2 c3 c4 c5 c6 c7) (.int (0 : Int32))) (r0 : oRg c0) (r1 : oRg c1) (r2 : oRg c2) (r3 : oRg c3) (r4 : oRg c4) (r5 : oRg c5) (r6 : oRg c6) (r7 : oRg c7) : oM l Z (⟨sW, "cut", "([CI)[C"⟩ : MethodName) method_5_code 2 (some (.array .char)) (oRm 0 1 3 0) #[(.ref sA), (.int (3 : Int32))] h0 (Q_rm_cut3 Z wR wI zc vf wB wL wV cV sA ks c0 c1 c2 c3 c4 c5 c6 c7 h0 n0) := by
  obtain ⟨hw, O0, hS⟩ := H
  refine oBody (plainFor_of_name pn_0) #[oa sA, oi (3 : Int32)] (fun _ => by first | (simp [entryFrame, mkF, argsToLocals, Value.category]; done) | rfl) ?_
  intro pG eG sG mG belowG methG cG s₁ hx hby hml hown hnm hret hlk X0 e0 hZ
  have N0 := Fr.nil n0
  have K0 := Keep.refl h0 []
  refine uI X0 hx hby D0 rfl 1 (uY X0 hx hby D1 ((if0 _ _).trans (feq (by decide : ¬ ((3 : Int32) = (0 : Int32)))).2) 8 (uI X0 hx hby D8 rfl 9 (uC X0 hx hby D9 1 10 (uYc X0 hx hby D10 (feq (by decide : ¬ ((3 : Int32) = (1 : Int32)))).2 23 (uI X0 hx hby D23 rfl 24 (uC X0 hx hby D24 2 25 (uYc X0 hx hby D25 (feq (by decide : ¬ ((3 : Int32) = (2 : Int32)))).2 44 (uI X0 hx hby D44 rfl 45 (uC X0 hx hby D45 3 46 (uNc X0 hx hby D46 (teq (by decide : (3 : Int32) = (3 : Int32))).2 49 (uC X0 hx hby D49 3 50 ?_)))))))))))
  obtain ⟨T1, h1, k1, X1, e1, E1, A1, st1⟩ := newP X0 hx hZ (ow hw 0 rfl) e0 (g := (mkF mG 50 #[oa sA, oi (3 : Int32)] [(.int (3 : Int32))])) rfl (hb hby D50) rfl (by decide) (cap := 3) (by decide) (by decide) (by decide) (by decide)
  obtain ⟨b1, g1⟩ : ∃ z, z = h0.size := ⟨_, rfl⟩
  rw [← g1] at A1 st1
  have n_b1 : n0 ≤ b1 := Nat.le_trans (on0 O0) (Nat.le_of_eq g1.symm)
  have sz_b1 : h0.size ≤ b1 := Nat.le_trans K0.1 (Nat.le_of_eq g1.symm)
  have ne_sA_b1 : sA ≠ b1 := Nat.ne_of_lt (Nat.lt_of_lt_of_le V_s.lt (Nat.le_of_eq g1.symm))
  have O1 := O0.ext E1
  have K1 := K0.ext E1
  obtain ⟨LL2, X1, N0⟩ : ∃ LL, Stand pG l eG _ _ mG _ belowG methG cG T1 LL 1 3 ∧ Fr n0 LL := ⟨_, X1, N0⟩
  have V1 : Arv Z h1 b1 k1 .char (3 : Int32) [(.int (0 : Int32)), (.int (0 : Int32)), (.int (0 : Int32))] (.int (0 : Int32)) := (Arv.new A1 (by decide)).pad (pad_rep [] (.int (0 : Int32)) 3)
  refine ob T1 (mkF mG 52 #[oa sA, oi (3 : Int32)] [(.ref b1)]) (fun _ kk => st1 _ kk) ?_
  refine uD X1 hx hby D52 53 (uC X1 hx hby D53 0 54 (uA X1 hx hby D54 rfl 55 (uC X1 hx hby D55 0 56 (oLc X1 hx hby hZ e1 (V_s.ext E1) ⟨by decide, by decide⟩ rfl D56 57 ?_))))
  refine oSc X1 hx hby hZ e1 V1 ⟨by decide, by decide⟩ 0 c0 (own_nar c0 r0) D57 O1 K1 N0 n_b1 (Or.inr sz_b1) 58 ?_
  intro T3 h3 L3 X3 e3 W3 V3 O3 K3 N3
  refine uD X3 hx hby D58 59 (uC X3 hx hby D59 1 60 (uA X3 hx hby D60 rfl 61 (uC X3 hx hby D61 1 62 (oLc X3 hx hby hZ e3 ((V_s.ext E1).other W3 ne_sA_b1) ⟨by decide, by decide⟩ rfl D62 63 ?_))))
  refine oSc X3 hx hby hZ e3 V3 ⟨by decide, by decide⟩ 1 c1 (own_nar c1 r1) D63 O3 K3 N3 n_b1 (Or.inr sz_b1) 64 ?_
  intro T4 h4 L4 X4 e4 W4 V4 O4 K4 N4
  refine uD X4 hx hby D64 65 (uC X4 hx hby D65 2 66 (uA X4 hx hby D66 rfl 67 (uC X4 hx hby D67 2 68 (oLc X4 hx hby hZ e4 (((V_s.ext E1).other W3 ne_sA_b1).other W4 ne_sA_b1) ⟨by decide, by decide⟩ rfl D68 69 ?_))))
  refine oSc X4 hx hby hZ e4 V4 ⟨by decide, by decide⟩ 2 c2 (own_nar c2 r2) D69 O4 K4 N4 n_b1 (Or.inr sz_b1) 70 ?_
  intro T5 h5 L5 X5 e5 W5 V5 O5 K5 N5
  exact oRA X5 hx hby hret hlk e5 D70 ⟨b1, k1, rfl, N5, K5, O5, n_b1, sz_b1, V5⟩

def Q_rm_cut4 (Z : State) (wR wI : Addr) (zc : Int32) (vf : Value) (wB wL wV : Addr) (cV : Cell) (sA : Addr) (ks : ClassId) (c0 c1 c2 c3 c4 c5 c6 c7 : Int32) (h0 : Heap) (n0 : Nat) (v : Option Value) (h : Heap) (L : List Loc) : Prop := ∃ (b0 : Addr) (kq1 : ClassId), v = some (.ref b0) ∧ Fr n0 L ∧ Keep h0 h [] ∧ Old Z n0 h ∧ n0 ≤ b0 ∧ h0.size ≤ b0 ∧ Arv Z h b0 kq1 .char (4 : Int32) [(.int c0), (.int c1), (.int c2), (.int c3)] (.int (0 : Int32))
theorem rm_cut4 (sA : Addr) (ks : ClassId) (c0 c1 c2 c3 c4 c5 c6 c7 : Int32) (H : oH Z a0 n0 h0 wR wI zc vf wB wL wV cV) (V_s : Arv Z h0 sA ks .char (8 : Int32) (oC8 c0 c1 c2 c3 c4 c5 c6 c7) (.int (0 : Int32))) (r0 : oRg c0) (r1 : oRg c1) (r2 : oRg c2) (r3 : oRg c3) (r4 : oRg c4) (r5 : oRg c5) (r6 : oRg c6) (r7 : oRg c7) : oM l Z (⟨sW, "cut", "([CI)[C"⟩ : MethodName) method_5_code 2 (some (.array .char)) (oRm 0 1 4 0) #[(.ref sA), (.int (4 : Int32))] h0 (Q_rm_cut4 Z wR wI zc vf wB wL wV cV sA ks c0 c1 c2 c3 c4 c5 c6 c7 h0 n0) := by
  obtain ⟨hw, O0, hS⟩ := H
  refine oBody (plainFor_of_name pn_0) #[oa sA, oi (4 : Int32)] (fun _ => by first | (simp [entryFrame, mkF, argsToLocals, Value.category]; done) | rfl) ?_
  intro pG eG sG mG belowG methG cG s₁ hx hby hml hown hnm hret hlk X0 e0 hZ
  have N0 := Fr.nil n0
  have K0 := Keep.refl h0 []
  refine uI X0 hx hby D0 rfl 1 (uY X0 hx hby D1 ((if0 _ _).trans (feq (by decide : ¬ ((4 : Int32) = (0 : Int32)))).2) 8 (uI X0 hx hby D8 rfl 9 (uC X0 hx hby D9 1 10 (uYc X0 hx hby D10 (feq (by decide : ¬ ((4 : Int32) = (1 : Int32)))).2 23 (uI X0 hx hby D23 rfl 24 (uC X0 hx hby D24 2 25 (uYc X0 hx hby D25 (feq (by decide : ¬ ((4 : Int32) = (2 : Int32)))).2 44 (uI X0 hx hby D44 rfl 45 (uC X0 hx hby D45 3 46 (uYc X0 hx hby D46 (feq (by decide : ¬ ((4 : Int32) = (3 : Int32)))).2 71 (uI X0 hx hby D71 rfl 72 (uC X0 hx hby D72 4 73 (uNc X0 hx hby D73 (teq (by decide : (4 : Int32) = (4 : Int32))).2 76 (uC X0 hx hby D76 4 77 ?_))))))))))))))
  obtain ⟨T1, h1, k1, X1, e1, E1, A1, st1⟩ := newP X0 hx hZ (ow hw 0 rfl) e0 (g := (mkF mG 77 #[oa sA, oi (4 : Int32)] [(.int (4 : Int32))])) rfl (hb hby D77) rfl (by decide) (cap := 4) (by decide) (by decide) (by decide) (by decide)
  obtain ⟨b1, g1⟩ : ∃ z, z = h0.size := ⟨_, rfl⟩
  rw [← g1] at A1 st1
  have n_b1 : n0 ≤ b1 := Nat.le_trans (on0 O0) (Nat.le_of_eq g1.symm)
  have sz_b1 : h0.size ≤ b1 := Nat.le_trans K0.1 (Nat.le_of_eq g1.symm)
  have ne_sA_b1 : sA ≠ b1 := Nat.ne_of_lt (Nat.lt_of_lt_of_le V_s.lt (Nat.le_of_eq g1.symm))
  have O1 := O0.ext E1
  have K1 := K0.ext E1
  obtain ⟨LL2, X1, N0⟩ : ∃ LL, Stand pG l eG _ _ mG _ belowG methG cG T1 LL 1 4 ∧ Fr n0 LL := ⟨_, X1, N0⟩
  have V1 : Arv Z h1 b1 k1 .char (4 : Int32) [(.int (0 : Int32)), (.int (0 : Int32)), (.int (0 : Int32)), (.int (0 : Int32))] (.int (0 : Int32)) := (Arv.new A1 (by decide)).pad (pad_rep [] (.int (0 : Int32)) 4)
  refine ob T1 (mkF mG 79 #[oa sA, oi (4 : Int32)] [(.ref b1)]) (fun _ kk => st1 _ kk) ?_
  refine uD X1 hx hby D79 80 (uC X1 hx hby D80 0 81 (uA X1 hx hby D81 rfl 82 (uC X1 hx hby D82 0 83 (oLc X1 hx hby hZ e1 (V_s.ext E1) ⟨by decide, by decide⟩ rfl D83 84 ?_))))
  refine oSc X1 hx hby hZ e1 V1 ⟨by decide, by decide⟩ 0 c0 (own_nar c0 r0) D84 O1 K1 N0 n_b1 (Or.inr sz_b1) 85 ?_
  intro T3 h3 L3 X3 e3 W3 V3 O3 K3 N3
  refine uD X3 hx hby D85 86 (uC X3 hx hby D86 1 87 (uA X3 hx hby D87 rfl 88 (uC X3 hx hby D88 1 89 (oLc X3 hx hby hZ e3 ((V_s.ext E1).other W3 ne_sA_b1) ⟨by decide, by decide⟩ rfl D89 90 ?_))))
  refine oSc X3 hx hby hZ e3 V3 ⟨by decide, by decide⟩ 1 c1 (own_nar c1 r1) D90 O3 K3 N3 n_b1 (Or.inr sz_b1) 91 ?_
  intro T4 h4 L4 X4 e4 W4 V4 O4 K4 N4
  refine uD X4 hx hby D91 92 (uC X4 hx hby D92 2 93 (uA X4 hx hby D93 rfl 94 (uC X4 hx hby D94 2 95 (oLc X4 hx hby hZ e4 (((V_s.ext E1).other W3 ne_sA_b1).other W4 ne_sA_b1) ⟨by decide, by decide⟩ rfl D95 96 ?_))))
  refine oSc X4 hx hby hZ e4 V4 ⟨by decide, by decide⟩ 2 c2 (own_nar c2 r2) D96 O4 K4 N4 n_b1 (Or.inr sz_b1) 97 ?_
  intro T5 h5 L5 X5 e5 W5 V5 O5 K5 N5
  refine uD X5 hx hby D97 98 (uC X5 hx hby D98 3 99 (uA X5 hx hby D99 rfl 100 (uC X5 hx hby D100 3 101 (oLc X5 hx hby hZ e5 ((((V_s.ext E1).other W3 ne_sA_b1).other W4 ne_sA_b1).other W5 ne_sA_b1) ⟨by decide, by decide⟩ rfl D101 102 ?_))))
  refine oSc X5 hx hby hZ e5 V5 ⟨by decide, by decide⟩ 3 c3 (own_nar c3 r3) D102 O5 K5 N5 n_b1 (Or.inr sz_b1) 103 ?_
  intro T6 h6 L6 X6 e6 W6 V6 O6 K6 N6
  exact oRA X6 hx hby hret hlk e6 D103 ⟨b1, k1, rfl, N6, K6, O6, n_b1, sz_b1, V6⟩

def Q_rm_cut5 (Z : State) (wR wI : Addr) (zc : Int32) (vf : Value) (wB wL wV : Addr) (cV : Cell) (sA : Addr) (ks : ClassId) (c0 c1 c2 c3 c4 c5 c6 c7 : Int32) (h0 : Heap) (n0 : Nat) (v : Option Value) (h : Heap) (L : List Loc) : Prop := ∃ (b0 : Addr) (kq1 : ClassId), v = some (.ref b0) ∧ Fr n0 L ∧ Keep h0 h [] ∧ Old Z n0 h ∧ n0 ≤ b0 ∧ h0.size ≤ b0 ∧ Arv Z h b0 kq1 .char (5 : Int32) [(.int c0), (.int c1), (.int c2), (.int c3), (.int c4)] (.int (0 : Int32))
theorem rm_cut5 (sA : Addr) (ks : ClassId) (c0 c1 c2 c3 c4 c5 c6 c7 : Int32) (H : oH Z a0 n0 h0 wR wI zc vf wB wL wV cV) (V_s : Arv Z h0 sA ks .char (8 : Int32) (oC8 c0 c1 c2 c3 c4 c5 c6 c7) (.int (0 : Int32))) (r0 : oRg c0) (r1 : oRg c1) (r2 : oRg c2) (r3 : oRg c3) (r4 : oRg c4) (r5 : oRg c5) (r6 : oRg c6) (r7 : oRg c7) : oM l Z (⟨sW, "cut", "([CI)[C"⟩ : MethodName) method_5_code 2 (some (.array .char)) (oRm 0 1 5 0) #[(.ref sA), (.int (5 : Int32))] h0 (Q_rm_cut5 Z wR wI zc vf wB wL wV cV sA ks c0 c1 c2 c3 c4 c5 c6 c7 h0 n0) := by
  obtain ⟨hw, O0, hS⟩ := H
  refine oBody (plainFor_of_name pn_0) #[oa sA, oi (5 : Int32)] (fun _ => by first | (simp [entryFrame, mkF, argsToLocals, Value.category]; done) | rfl) ?_
  intro pG eG sG mG belowG methG cG s₁ hx hby hml hown hnm hret hlk X0 e0 hZ
  have N0 := Fr.nil n0
  have K0 := Keep.refl h0 []
  refine uI X0 hx hby D0 rfl 1 (uY X0 hx hby D1 ((if0 _ _).trans (feq (by decide : ¬ ((5 : Int32) = (0 : Int32)))).2) 8 (uI X0 hx hby D8 rfl 9 (uC X0 hx hby D9 1 10 (uYc X0 hx hby D10 (feq (by decide : ¬ ((5 : Int32) = (1 : Int32)))).2 23 (uI X0 hx hby D23 rfl 24 (uC X0 hx hby D24 2 25 (uYc X0 hx hby D25 (feq (by decide : ¬ ((5 : Int32) = (2 : Int32)))).2 44 (uI X0 hx hby D44 rfl 45 (uC X0 hx hby D45 3 46 (uYc X0 hx hby D46 (feq (by decide : ¬ ((5 : Int32) = (3 : Int32)))).2 71 (uI X0 hx hby D71 rfl 72 (uC X0 hx hby D72 4 73 (uYc X0 hx hby D73 (feq (by decide : ¬ ((5 : Int32) = (4 : Int32)))).2 104 (uI X0 hx hby D104 rfl 105 (uC X0 hx hby D105 5 106 (uNc X0 hx hby D106 (teq (by decide : (5 : Int32) = (5 : Int32))).2 109 (uC X0 hx hby D109 5 110 ?_)))))))))))))))))
  obtain ⟨T1, h1, k1, X1, e1, E1, A1, st1⟩ := newP X0 hx hZ (ow hw 0 rfl) e0 (g := (mkF mG 110 #[oa sA, oi (5 : Int32)] [(.int (5 : Int32))])) rfl (hb hby D110) rfl (by decide) (cap := 5) (by decide) (by decide) (by decide) (by decide)
  obtain ⟨b1, g1⟩ : ∃ z, z = h0.size := ⟨_, rfl⟩
  rw [← g1] at A1 st1
  have n_b1 : n0 ≤ b1 := Nat.le_trans (on0 O0) (Nat.le_of_eq g1.symm)
  have sz_b1 : h0.size ≤ b1 := Nat.le_trans K0.1 (Nat.le_of_eq g1.symm)
  have ne_sA_b1 : sA ≠ b1 := Nat.ne_of_lt (Nat.lt_of_lt_of_le V_s.lt (Nat.le_of_eq g1.symm))
  have O1 := O0.ext E1
  have K1 := K0.ext E1
  obtain ⟨LL2, X1, N0⟩ : ∃ LL, Stand pG l eG _ _ mG _ belowG methG cG T1 LL 1 5 ∧ Fr n0 LL := ⟨_, X1, N0⟩
  have V1 : Arv Z h1 b1 k1 .char (5 : Int32) [(.int (0 : Int32)), (.int (0 : Int32)), (.int (0 : Int32)), (.int (0 : Int32)), (.int (0 : Int32))] (.int (0 : Int32)) := (Arv.new A1 (by decide)).pad (pad_rep [] (.int (0 : Int32)) 5)
  refine ob T1 (mkF mG 112 #[oa sA, oi (5 : Int32)] [(.ref b1)]) (fun _ kk => st1 _ kk) ?_
  refine uD X1 hx hby D112 113 (uC X1 hx hby D113 0 114 (uA X1 hx hby D114 rfl 115 (uC X1 hx hby D115 0 116 (oLc X1 hx hby hZ e1 (V_s.ext E1) ⟨by decide, by decide⟩ rfl D116 117 ?_))))
  refine oSc X1 hx hby hZ e1 V1 ⟨by decide, by decide⟩ 0 c0 (own_nar c0 r0) D117 O1 K1 N0 n_b1 (Or.inr sz_b1) 118 ?_
  intro T3 h3 L3 X3 e3 W3 V3 O3 K3 N3
  refine uD X3 hx hby D118 119 (uC X3 hx hby D119 1 120 (uA X3 hx hby D120 rfl 121 (uC X3 hx hby D121 1 122 (oLc X3 hx hby hZ e3 ((V_s.ext E1).other W3 ne_sA_b1) ⟨by decide, by decide⟩ rfl D122 123 ?_))))
  refine oSc X3 hx hby hZ e3 V3 ⟨by decide, by decide⟩ 1 c1 (own_nar c1 r1) D123 O3 K3 N3 n_b1 (Or.inr sz_b1) 124 ?_
  intro T4 h4 L4 X4 e4 W4 V4 O4 K4 N4
  refine uD X4 hx hby D124 125 (uC X4 hx hby D125 2 126 (uA X4 hx hby D126 rfl 127 (uC X4 hx hby D127 2 128 (oLc X4 hx hby hZ e4 (((V_s.ext E1).other W3 ne_sA_b1).other W4 ne_sA_b1) ⟨by decide, by decide⟩ rfl D128 129 ?_))))
  refine oSc X4 hx hby hZ e4 V4 ⟨by decide, by decide⟩ 2 c2 (own_nar c2 r2) D129 O4 K4 N4 n_b1 (Or.inr sz_b1) 130 ?_
  intro T5 h5 L5 X5 e5 W5 V5 O5 K5 N5
  refine uD X5 hx hby D130 131 (uC X5 hx hby D131 3 132 (uA X5 hx hby D132 rfl 133 (uC X5 hx hby D133 3 134 (oLc X5 hx hby hZ e5 ((((V_s.ext E1).other W3 ne_sA_b1).other W4 ne_sA_b1).other W5 ne_sA_b1) ⟨by decide, by decide⟩ rfl D134 135 ?_))))
  refine oSc X5 hx hby hZ e5 V5 ⟨by decide, by decide⟩ 3 c3 (own_nar c3 r3) D135 O5 K5 N5 n_b1 (Or.inr sz_b1) 136 ?_
  intro T6 h6 L6 X6 e6 W6 V6 O6 K6 N6
  refine uD X6 hx hby D136 137 (uC X6 hx hby D137 4 138 (uA X6 hx hby D138 rfl 139 (uC X6 hx hby D139 4 140 (oLc X6 hx hby hZ e6 (((((V_s.ext E1).other W3 ne_sA_b1).other W4 ne_sA_b1).other W5 ne_sA_b1).other W6 ne_sA_b1) ⟨by decide, by decide⟩ rfl D140 141 ?_))))
  refine oSc X6 hx hby hZ e6 V6 ⟨by decide, by decide⟩ 4 c4 (own_nar c4 r4) D141 O6 K6 N6 n_b1 (Or.inr sz_b1) 142 ?_
  intro T7 h7 L7 X7 e7 W7 V7 O7 K7 N7
  exact oRA X7 hx hby hret hlk e7 D142 ⟨b1, k1, rfl, N7, K7, O7, n_b1, sz_b1, V7⟩

def Q_rm_cut6 (Z : State) (wR wI : Addr) (zc : Int32) (vf : Value) (wB wL wV : Addr) (cV : Cell) (sA : Addr) (ks : ClassId) (c0 c1 c2 c3 c4 c5 c6 c7 : Int32) (h0 : Heap) (n0 : Nat) (v : Option Value) (h : Heap) (L : List Loc) : Prop := ∃ (b0 : Addr) (kq1 : ClassId), v = some (.ref b0) ∧ Fr n0 L ∧ Keep h0 h [] ∧ Old Z n0 h ∧ n0 ≤ b0 ∧ h0.size ≤ b0 ∧ Arv Z h b0 kq1 .char (6 : Int32) [(.int c0), (.int c1), (.int c2), (.int c3), (.int c4), (.int c5)] (.int (0 : Int32))
theorem rm_cut6 (sA : Addr) (ks : ClassId) (c0 c1 c2 c3 c4 c5 c6 c7 : Int32) (H : oH Z a0 n0 h0 wR wI zc vf wB wL wV cV) (V_s : Arv Z h0 sA ks .char (8 : Int32) (oC8 c0 c1 c2 c3 c4 c5 c6 c7) (.int (0 : Int32))) (r0 : oRg c0) (r1 : oRg c1) (r2 : oRg c2) (r3 : oRg c3) (r4 : oRg c4) (r5 : oRg c5) (r6 : oRg c6) (r7 : oRg c7) : oM l Z (⟨sW, "cut", "([CI)[C"⟩ : MethodName) method_5_code 2 (some (.array .char)) (oRm 0 1 6 0) #[(.ref sA), (.int (6 : Int32))] h0 (Q_rm_cut6 Z wR wI zc vf wB wL wV cV sA ks c0 c1 c2 c3 c4 c5 c6 c7 h0 n0) := by
  obtain ⟨hw, O0, hS⟩ := H
  refine oBody (plainFor_of_name pn_0) #[oa sA, oi (6 : Int32)] (fun _ => by first | (simp [entryFrame, mkF, argsToLocals, Value.category]; done) | rfl) ?_
  intro pG eG sG mG belowG methG cG s₁ hx hby hml hown hnm hret hlk X0 e0 hZ
  have N0 := Fr.nil n0
  have K0 := Keep.refl h0 []
  refine uI X0 hx hby D0 rfl 1 (uY X0 hx hby D1 ((if0 _ _).trans (feq (by decide : ¬ ((6 : Int32) = (0 : Int32)))).2) 8 (uI X0 hx hby D8 rfl 9 (uC X0 hx hby D9 1 10 (uYc X0 hx hby D10 (feq (by decide : ¬ ((6 : Int32) = (1 : Int32)))).2 23 (uI X0 hx hby D23 rfl 24 (uC X0 hx hby D24 2 25 (uYc X0 hx hby D25 (feq (by decide : ¬ ((6 : Int32) = (2 : Int32)))).2 44 (uI X0 hx hby D44 rfl 45 (uC X0 hx hby D45 3 46 (uYc X0 hx hby D46 (feq (by decide : ¬ ((6 : Int32) = (3 : Int32)))).2 71 (uI X0 hx hby D71 rfl 72 (uC X0 hx hby D72 4 73 (uYc X0 hx hby D73 (feq (by decide : ¬ ((6 : Int32) = (4 : Int32)))).2 104 (uI X0 hx hby D104 rfl 105 (uC X0 hx hby D105 5 106 (uYc X0 hx hby D106 (feq (by decide : ¬ ((6 : Int32) = (5 : Int32)))).2 143 (uI X0 hx hby D143 rfl 144 (uB X0 hx hby D144 6 146 (uNc X0 hx hby D146 (teq (by decide : (6 : Int32) = (6 : Int32))).2 149 (uB X0 hx hby D149 6 151 ?_))))))))))))))))))))
  obtain ⟨T1, h1, k1, X1, e1, E1, A1, st1⟩ := newP X0 hx hZ (ow hw 0 rfl) e0 (g := (mkF mG 151 #[oa sA, oi (6 : Int32)] [(.int (6 : Int32))])) rfl (hb hby D151) rfl (by decide) (cap := 6) (by decide) (by decide) (by decide) (by decide)
  obtain ⟨b1, g1⟩ : ∃ z, z = h0.size := ⟨_, rfl⟩
  rw [← g1] at A1 st1
  have n_b1 : n0 ≤ b1 := Nat.le_trans (on0 O0) (Nat.le_of_eq g1.symm)
  have sz_b1 : h0.size ≤ b1 := Nat.le_trans K0.1 (Nat.le_of_eq g1.symm)
  have ne_sA_b1 : sA ≠ b1 := Nat.ne_of_lt (Nat.lt_of_lt_of_le V_s.lt (Nat.le_of_eq g1.symm))
  have O1 := O0.ext E1
  have K1 := K0.ext E1
  obtain ⟨LL2, X1, N0⟩ : ∃ LL, Stand pG l eG _ _ mG _ belowG methG cG T1 LL 1 6 ∧ Fr n0 LL := ⟨_, X1, N0⟩
  have V1 : Arv Z h1 b1 k1 .char (6 : Int32) [(.int (0 : Int32)), (.int (0 : Int32)), (.int (0 : Int32)), (.int (0 : Int32)), (.int (0 : Int32)), (.int (0 : Int32))] (.int (0 : Int32)) := (Arv.new A1 (by decide)).pad (pad_rep [] (.int (0 : Int32)) 6)
  refine ob T1 (mkF mG 153 #[oa sA, oi (6 : Int32)] [(.ref b1)]) (fun _ kk => st1 _ kk) ?_
  refine uD X1 hx hby D153 154 (uC X1 hx hby D154 0 155 (uA X1 hx hby D155 rfl 156 (uC X1 hx hby D156 0 157 (oLc X1 hx hby hZ e1 (V_s.ext E1) ⟨by decide, by decide⟩ rfl D157 158 ?_))))
  refine oSc X1 hx hby hZ e1 V1 ⟨by decide, by decide⟩ 0 c0 (own_nar c0 r0) D158 O1 K1 N0 n_b1 (Or.inr sz_b1) 159 ?_
  intro T3 h3 L3 X3 e3 W3 V3 O3 K3 N3
  refine uD X3 hx hby D159 160 (uC X3 hx hby D160 1 161 (uA X3 hx hby D161 rfl 162 (uC X3 hx hby D162 1 163 (oLc X3 hx hby hZ e3 ((V_s.ext E1).other W3 ne_sA_b1) ⟨by decide, by decide⟩ rfl D163 164 ?_))))
  refine oSc X3 hx hby hZ e3 V3 ⟨by decide, by decide⟩ 1 c1 (own_nar c1 r1) D164 O3 K3 N3 n_b1 (Or.inr sz_b1) 165 ?_
  intro T4 h4 L4 X4 e4 W4 V4 O4 K4 N4
  refine uD X4 hx hby D165 166 (uC X4 hx hby D166 2 167 (uA X4 hx hby D167 rfl 168 (uC X4 hx hby D168 2 169 (oLc X4 hx hby hZ e4 (((V_s.ext E1).other W3 ne_sA_b1).other W4 ne_sA_b1) ⟨by decide, by decide⟩ rfl D169 170 ?_))))
  refine oSc X4 hx hby hZ e4 V4 ⟨by decide, by decide⟩ 2 c2 (own_nar c2 r2) D170 O4 K4 N4 n_b1 (Or.inr sz_b1) 171 ?_
  intro T5 h5 L5 X5 e5 W5 V5 O5 K5 N5
  refine uD X5 hx hby D171 172 (uC X5 hx hby D172 3 173 (uA X5 hx hby D173 rfl 174 (uC X5 hx hby D174 3 175 (oLc X5 hx hby hZ e5 ((((V_s.ext E1).other W3 ne_sA_b1).other W4 ne_sA_b1).other W5 ne_sA_b1) ⟨by decide, by decide⟩ rfl D175 176 ?_))))
  refine oSc X5 hx hby hZ e5 V5 ⟨by decide, by decide⟩ 3 c3 (own_nar c3 r3) D176 O5 K5 N5 n_b1 (Or.inr sz_b1) 177 ?_
  intro T6 h6 L6 X6 e6 W6 V6 O6 K6 N6
  refine uD X6 hx hby D177 178 (uC X6 hx hby D178 4 179 (uA X6 hx hby D179 rfl 180 (uC X6 hx hby D180 4 181 (oLc X6 hx hby hZ e6 (((((V_s.ext E1).other W3 ne_sA_b1).other W4 ne_sA_b1).other W5 ne_sA_b1).other W6 ne_sA_b1) ⟨by decide, by decide⟩ rfl D181 182 ?_))))
  refine oSc X6 hx hby hZ e6 V6 ⟨by decide, by decide⟩ 4 c4 (own_nar c4 r4) D182 O6 K6 N6 n_b1 (Or.inr sz_b1) 183 ?_
  intro T7 h7 L7 X7 e7 W7 V7 O7 K7 N7
  refine uD X7 hx hby D183 184 (uC X7 hx hby D184 5 185 (uA X7 hx hby D185 rfl 186 (uC X7 hx hby D186 5 187 (oLc X7 hx hby hZ e7 ((((((V_s.ext E1).other W3 ne_sA_b1).other W4 ne_sA_b1).other W5 ne_sA_b1).other W6 ne_sA_b1).other W7 ne_sA_b1) ⟨by decide, by decide⟩ rfl D187 188 ?_))))
  refine oSc X7 hx hby hZ e7 V7 ⟨by decide, by decide⟩ 5 c5 (own_nar c5 r5) D188 O7 K7 N7 n_b1 (Or.inr sz_b1) 189 ?_
  intro T8 h8 L8 X8 e8 W8 V8 O8 K8 N8
  exact oRA X8 hx hby hret hlk e8 D189 ⟨b1, k1, rfl, N8, K8, O8, n_b1, sz_b1, V8⟩

def Q_rm_cut7 (Z : State) (wR wI : Addr) (zc : Int32) (vf : Value) (wB wL wV : Addr) (cV : Cell) (sA : Addr) (ks : ClassId) (c0 c1 c2 c3 c4 c5 c6 c7 : Int32) (h0 : Heap) (n0 : Nat) (v : Option Value) (h : Heap) (L : List Loc) : Prop := ∃ (b0 : Addr) (kq1 : ClassId), v = some (.ref b0) ∧ Fr n0 L ∧ Keep h0 h [] ∧ Old Z n0 h ∧ n0 ≤ b0 ∧ h0.size ≤ b0 ∧ Arv Z h b0 kq1 .char (7 : Int32) [(.int c0), (.int c1), (.int c2), (.int c3), (.int c4), (.int c5), (.int c6)] (.int (0 : Int32))
theorem rm_cut7 (sA : Addr) (ks : ClassId) (c0 c1 c2 c3 c4 c5 c6 c7 : Int32) (H : oH Z a0 n0 h0 wR wI zc vf wB wL wV cV) (V_s : Arv Z h0 sA ks .char (8 : Int32) (oC8 c0 c1 c2 c3 c4 c5 c6 c7) (.int (0 : Int32))) (r0 : oRg c0) (r1 : oRg c1) (r2 : oRg c2) (r3 : oRg c3) (r4 : oRg c4) (r5 : oRg c5) (r6 : oRg c6) (r7 : oRg c7) : oM l Z (⟨sW, "cut", "([CI)[C"⟩ : MethodName) method_5_code 2 (some (.array .char)) (oRm 0 1 7 0) #[(.ref sA), (.int (7 : Int32))] h0 (Q_rm_cut7 Z wR wI zc vf wB wL wV cV sA ks c0 c1 c2 c3 c4 c5 c6 c7 h0 n0) := by
  obtain ⟨hw, O0, hS⟩ := H
  refine oBody (plainFor_of_name pn_0) #[oa sA, oi (7 : Int32)] (fun _ => by first | (simp [entryFrame, mkF, argsToLocals, Value.category]; done) | rfl) ?_
  intro pG eG sG mG belowG methG cG s₁ hx hby hml hown hnm hret hlk X0 e0 hZ
  have N0 := Fr.nil n0
  have K0 := Keep.refl h0 []
  refine uI X0 hx hby D0 rfl 1 (uY X0 hx hby D1 ((if0 _ _).trans (feq (by decide : ¬ ((7 : Int32) = (0 : Int32)))).2) 8 (uI X0 hx hby D8 rfl 9 (uC X0 hx hby D9 1 10 (uYc X0 hx hby D10 (feq (by decide : ¬ ((7 : Int32) = (1 : Int32)))).2 23 (uI X0 hx hby D23 rfl 24 (uC X0 hx hby D24 2 25 (uYc X0 hx hby D25 (feq (by decide : ¬ ((7 : Int32) = (2 : Int32)))).2 44 (uI X0 hx hby D44 rfl 45 (uC X0 hx hby D45 3 46 (uYc X0 hx hby D46 (feq (by decide : ¬ ((7 : Int32) = (3 : Int32)))).2 71 (uI X0 hx hby D71 rfl 72 (uC X0 hx hby D72 4 73 (uYc X0 hx hby D73 (feq (by decide : ¬ ((7 : Int32) = (4 : Int32)))).2 104 (uI X0 hx hby D104 rfl 105 (uC X0 hx hby D105 5 106 (uYc X0 hx hby D106 (feq (by decide : ¬ ((7 : Int32) = (5 : Int32)))).2 143 (uI X0 hx hby D143 rfl 144 (uB X0 hx hby D144 6 146 (uYc X0 hx hby D146 (feq (by decide : ¬ ((7 : Int32) = (6 : Int32)))).2 190 (uI X0 hx hby D190 rfl 191 (uB X0 hx hby D191 7 193 (uNc X0 hx hby D193 (teq (by decide : (7 : Int32) = (7 : Int32))).2 196 (uB X0 hx hby D196 7 198 ?_)))))))))))))))))))))))
  obtain ⟨T1, h1, k1, X1, e1, E1, A1, st1⟩ := newP X0 hx hZ (ow hw 0 rfl) e0 (g := (mkF mG 198 #[oa sA, oi (7 : Int32)] [(.int (7 : Int32))])) rfl (hb hby D198) rfl (by decide) (cap := 7) (by decide) (by decide) (by decide) (by decide)
  obtain ⟨b1, g1⟩ : ∃ z, z = h0.size := ⟨_, rfl⟩
  rw [← g1] at A1 st1
  have n_b1 : n0 ≤ b1 := Nat.le_trans (on0 O0) (Nat.le_of_eq g1.symm)
  have sz_b1 : h0.size ≤ b1 := Nat.le_trans K0.1 (Nat.le_of_eq g1.symm)
  have ne_sA_b1 : sA ≠ b1 := Nat.ne_of_lt (Nat.lt_of_lt_of_le V_s.lt (Nat.le_of_eq g1.symm))
  have O1 := O0.ext E1
  have K1 := K0.ext E1
  obtain ⟨LL2, X1, N0⟩ : ∃ LL, Stand pG l eG _ _ mG _ belowG methG cG T1 LL 1 7 ∧ Fr n0 LL := ⟨_, X1, N0⟩
  have V1 : Arv Z h1 b1 k1 .char (7 : Int32) [(.int (0 : Int32)), (.int (0 : Int32)), (.int (0 : Int32)), (.int (0 : Int32)), (.int (0 : Int32)), (.int (0 : Int32)), (.int (0 : Int32))] (.int (0 : Int32)) := (Arv.new A1 (by decide)).pad (pad_rep [] (.int (0 : Int32)) 7)
  refine ob T1 (mkF mG 200 #[oa sA, oi (7 : Int32)] [(.ref b1)]) (fun _ kk => st1 _ kk) ?_
  refine uD X1 hx hby D200 201 (uC X1 hx hby D201 0 202 (uA X1 hx hby D202 rfl 203 (uC X1 hx hby D203 0 204 (oLc X1 hx hby hZ e1 (V_s.ext E1) ⟨by decide, by decide⟩ rfl D204 205 ?_))))
  refine oSc X1 hx hby hZ e1 V1 ⟨by decide, by decide⟩ 0 c0 (own_nar c0 r0) D205 O1 K1 N0 n_b1 (Or.inr sz_b1) 206 ?_
  intro T3 h3 L3 X3 e3 W3 V3 O3 K3 N3
  refine uD X3 hx hby D206 207 (uC X3 hx hby D207 1 208 (uA X3 hx hby D208 rfl 209 (uC X3 hx hby D209 1 210 (oLc X3 hx hby hZ e3 ((V_s.ext E1).other W3 ne_sA_b1) ⟨by decide, by decide⟩ rfl D210 211 ?_))))
  refine oSc X3 hx hby hZ e3 V3 ⟨by decide, by decide⟩ 1 c1 (own_nar c1 r1) D211 O3 K3 N3 n_b1 (Or.inr sz_b1) 212 ?_
  intro T4 h4 L4 X4 e4 W4 V4 O4 K4 N4
  refine uD X4 hx hby D212 213 (uC X4 hx hby D213 2 214 (uA X4 hx hby D214 rfl 215 (uC X4 hx hby D215 2 216 (oLc X4 hx hby hZ e4 (((V_s.ext E1).other W3 ne_sA_b1).other W4 ne_sA_b1) ⟨by decide, by decide⟩ rfl D216 217 ?_))))
  refine oSc X4 hx hby hZ e4 V4 ⟨by decide, by decide⟩ 2 c2 (own_nar c2 r2) D217 O4 K4 N4 n_b1 (Or.inr sz_b1) 218 ?_
  intro T5 h5 L5 X5 e5 W5 V5 O5 K5 N5
  refine uD X5 hx hby D218 219 (uC X5 hx hby D219 3 220 (uA X5 hx hby D220 rfl 221 (uC X5 hx hby D221 3 222 (oLc X5 hx hby hZ e5 ((((V_s.ext E1).other W3 ne_sA_b1).other W4 ne_sA_b1).other W5 ne_sA_b1) ⟨by decide, by decide⟩ rfl D222 223 ?_))))
  refine oSc X5 hx hby hZ e5 V5 ⟨by decide, by decide⟩ 3 c3 (own_nar c3 r3) D223 O5 K5 N5 n_b1 (Or.inr sz_b1) 224 ?_
  intro T6 h6 L6 X6 e6 W6 V6 O6 K6 N6
  refine uD X6 hx hby D224 225 (uC X6 hx hby D225 4 226 (uA X6 hx hby D226 rfl 227 (uC X6 hx hby D227 4 228 (oLc X6 hx hby hZ e6 (((((V_s.ext E1).other W3 ne_sA_b1).other W4 ne_sA_b1).other W5 ne_sA_b1).other W6 ne_sA_b1) ⟨by decide, by decide⟩ rfl D228 229 ?_))))
  refine oSc X6 hx hby hZ e6 V6 ⟨by decide, by decide⟩ 4 c4 (own_nar c4 r4) D229 O6 K6 N6 n_b1 (Or.inr sz_b1) 230 ?_
  intro T7 h7 L7 X7 e7 W7 V7 O7 K7 N7
  refine uD X7 hx hby D230 231 (uC X7 hx hby D231 5 232 (uA X7 hx hby D232 rfl 233 (uC X7 hx hby D233 5 234 (oLc X7 hx hby hZ e7 ((((((V_s.ext E1).other W3 ne_sA_b1).other W4 ne_sA_b1).other W5 ne_sA_b1).other W6 ne_sA_b1).other W7 ne_sA_b1) ⟨by decide, by decide⟩ rfl D234 235 ?_))))
  refine oSc X7 hx hby hZ e7 V7 ⟨by decide, by decide⟩ 5 c5 (own_nar c5 r5) D235 O7 K7 N7 n_b1 (Or.inr sz_b1) 236 ?_
  intro T8 h8 L8 X8 e8 W8 V8 O8 K8 N8
  refine uD X8 hx hby D236 237 (uB X8 hx hby D237 6 239 (uA X8 hx hby D239 rfl 240 (uB X8 hx hby D240 6 242 (oLc X8 hx hby hZ e8 (((((((V_s.ext E1).other W3 ne_sA_b1).other W4 ne_sA_b1).other W5 ne_sA_b1).other W6 ne_sA_b1).other W7 ne_sA_b1).other W8 ne_sA_b1) ⟨by decide, by decide⟩ rfl D242 243 ?_))))
  refine oSc X8 hx hby hZ e8 V8 ⟨by decide, by decide⟩ 6 c6 (own_nar c6 r6) D243 O8 K8 N8 n_b1 (Or.inr sz_b1) 244 ?_
  intro T9 h9 L9 X9 e9 W9 V9 O9 K9 N9
  exact oRA X9 hx hby hret hlk e9 D244 ⟨b1, k1, rfl, N9, K9, O9, n_b1, sz_b1, V9⟩

def Q_rm_cut8 (Z : State) (wR wI : Addr) (zc : Int32) (vf : Value) (wB wL wV : Addr) (cV : Cell) (sA : Addr) (ks : ClassId) (c0 c1 c2 c3 c4 c5 c6 c7 : Int32) (h0 : Heap) (n0 : Nat) (v : Option Value) (h : Heap) (L : List Loc) : Prop := ∃ (b0 : Addr) (kq1 : ClassId), v = some (.ref b0) ∧ Fr n0 L ∧ Keep h0 h [] ∧ Old Z n0 h ∧ n0 ≤ b0 ∧ h0.size ≤ b0 ∧ Arv Z h b0 kq1 .char (8 : Int32) (oC8 c0 c1 c2 c3 c4 c5 c6 c7) (.int (0 : Int32))
theorem rm_cut8 (sA : Addr) (ks : ClassId) (c0 c1 c2 c3 c4 c5 c6 c7 : Int32) (H : oH Z a0 n0 h0 wR wI zc vf wB wL wV cV) (V_s : Arv Z h0 sA ks .char (8 : Int32) (oC8 c0 c1 c2 c3 c4 c5 c6 c7) (.int (0 : Int32))) (r0 : oRg c0) (r1 : oRg c1) (r2 : oRg c2) (r3 : oRg c3) (r4 : oRg c4) (r5 : oRg c5) (r6 : oRg c6) (r7 : oRg c7) : oM l Z (⟨sW, "cut", "([CI)[C"⟩ : MethodName) method_5_code 2 (some (.array .char)) (oRm 0 1 8 0) #[(.ref sA), (.int (8 : Int32))] h0 (Q_rm_cut8 Z wR wI zc vf wB wL wV cV sA ks c0 c1 c2 c3 c4 c5 c6 c7 h0 n0) := by
  obtain ⟨hw, O0, hS⟩ := H
  refine oBody (plainFor_of_name pn_0) #[oa sA, oi (8 : Int32)] (fun _ => by first | (simp [entryFrame, mkF, argsToLocals, Value.category]; done) | rfl) ?_
  intro pG eG sG mG belowG methG cG s₁ hx hby hml hown hnm hret hlk X0 e0 hZ
  have N0 := Fr.nil n0
  have K0 := Keep.refl h0 []
  refine uI X0 hx hby D0 rfl 1 (uY X0 hx hby D1 ((if0 _ _).trans (feq (by decide : ¬ ((8 : Int32) = (0 : Int32)))).2) 8 (uI X0 hx hby D8 rfl 9 (uC X0 hx hby D9 1 10 (uYc X0 hx hby D10 (feq (by decide : ¬ ((8 : Int32) = (1 : Int32)))).2 23 (uI X0 hx hby D23 rfl 24 (uC X0 hx hby D24 2 25 (uYc X0 hx hby D25 (feq (by decide : ¬ ((8 : Int32) = (2 : Int32)))).2 44 (uI X0 hx hby D44 rfl 45 (uC X0 hx hby D45 3 46 (uYc X0 hx hby D46 (feq (by decide : ¬ ((8 : Int32) = (3 : Int32)))).2 71 (uI X0 hx hby D71 rfl 72 (uC X0 hx hby D72 4 73 (uYc X0 hx hby D73 (feq (by decide : ¬ ((8 : Int32) = (4 : Int32)))).2 104 (uI X0 hx hby D104 rfl 105 (uC X0 hx hby D105 5 106 (uYc X0 hx hby D106 (feq (by decide : ¬ ((8 : Int32) = (5 : Int32)))).2 143 (uI X0 hx hby D143 rfl 144 (uB X0 hx hby D144 6 146 (uYc X0 hx hby D146 (feq (by decide : ¬ ((8 : Int32) = (6 : Int32)))).2 190 (uI X0 hx hby D190 rfl 191 (uB X0 hx hby D191 7 193 (uYc X0 hx hby D193 (feq (by decide : ¬ ((8 : Int32) = (7 : Int32)))).2 245 (uB X0 hx hby D245 8 247 ?_)))))))))))))))))))))))
  obtain ⟨T1, h1, k1, X1, e1, E1, A1, st1⟩ := newP X0 hx hZ (ow hw 0 rfl) e0 (g := (mkF mG 247 #[oa sA, oi (8 : Int32)] [(.int (8 : Int32))])) rfl (hb hby D247) rfl (by decide) (cap := 8) (by decide) (by decide) (by decide) (by decide)
  obtain ⟨b1, g1⟩ : ∃ z, z = h0.size := ⟨_, rfl⟩
  rw [← g1] at A1 st1
  have n_b1 : n0 ≤ b1 := Nat.le_trans (on0 O0) (Nat.le_of_eq g1.symm)
  have sz_b1 : h0.size ≤ b1 := Nat.le_trans K0.1 (Nat.le_of_eq g1.symm)
  have ne_sA_b1 : sA ≠ b1 := Nat.ne_of_lt (Nat.lt_of_lt_of_le V_s.lt (Nat.le_of_eq g1.symm))
  have O1 := O0.ext E1
  have K1 := K0.ext E1
  obtain ⟨LL2, X1, N0⟩ : ∃ LL, Stand pG l eG _ _ mG _ belowG methG cG T1 LL 1 8 ∧ Fr n0 LL := ⟨_, X1, N0⟩
  have V1 : Arv Z h1 b1 k1 .char (8 : Int32) [(.int (0 : Int32)), (.int (0 : Int32)), (.int (0 : Int32)), (.int (0 : Int32)), (.int (0 : Int32)), (.int (0 : Int32)), (.int (0 : Int32)), (.int (0 : Int32))] (.int (0 : Int32)) := (Arv.new A1 (by decide)).pad (pad_rep [] (.int (0 : Int32)) 8)
  refine ob T1 (mkF mG 249 #[oa sA, oi (8 : Int32)] [(.ref b1)]) (fun _ kk => st1 _ kk) ?_
  refine uD X1 hx hby D249 250 (uC X1 hx hby D250 0 251 (uA X1 hx hby D251 rfl 252 (uC X1 hx hby D252 0 253 (oLc X1 hx hby hZ e1 (V_s.ext E1) ⟨by decide, by decide⟩ rfl D253 254 ?_))))
  refine oSc X1 hx hby hZ e1 V1 ⟨by decide, by decide⟩ 0 c0 (own_nar c0 r0) D254 O1 K1 N0 n_b1 (Or.inr sz_b1) 255 ?_
  intro T3 h3 L3 X3 e3 W3 V3 O3 K3 N3
  refine uD X3 hx hby D255 256 (uC X3 hx hby D256 1 257 (uA X3 hx hby D257 rfl 258 (uC X3 hx hby D258 1 259 (oLc X3 hx hby hZ e3 ((V_s.ext E1).other W3 ne_sA_b1) ⟨by decide, by decide⟩ rfl D259 260 ?_))))
  refine oSc X3 hx hby hZ e3 V3 ⟨by decide, by decide⟩ 1 c1 (own_nar c1 r1) D260 O3 K3 N3 n_b1 (Or.inr sz_b1) 261 ?_
  intro T4 h4 L4 X4 e4 W4 V4 O4 K4 N4
  refine uD X4 hx hby D261 262 (uC X4 hx hby D262 2 263 (uA X4 hx hby D263 rfl 264 (uC X4 hx hby D264 2 265 (oLc X4 hx hby hZ e4 (((V_s.ext E1).other W3 ne_sA_b1).other W4 ne_sA_b1) ⟨by decide, by decide⟩ rfl D265 266 ?_))))
  refine oSc X4 hx hby hZ e4 V4 ⟨by decide, by decide⟩ 2 c2 (own_nar c2 r2) D266 O4 K4 N4 n_b1 (Or.inr sz_b1) 267 ?_
  intro T5 h5 L5 X5 e5 W5 V5 O5 K5 N5
  refine uD X5 hx hby D267 268 (uC X5 hx hby D268 3 269 (uA X5 hx hby D269 rfl 270 (uC X5 hx hby D270 3 271 (oLc X5 hx hby hZ e5 ((((V_s.ext E1).other W3 ne_sA_b1).other W4 ne_sA_b1).other W5 ne_sA_b1) ⟨by decide, by decide⟩ rfl D271 272 ?_))))
  refine oSc X5 hx hby hZ e5 V5 ⟨by decide, by decide⟩ 3 c3 (own_nar c3 r3) D272 O5 K5 N5 n_b1 (Or.inr sz_b1) 273 ?_
  intro T6 h6 L6 X6 e6 W6 V6 O6 K6 N6
  refine uD X6 hx hby D273 274 (uC X6 hx hby D274 4 275 (uA X6 hx hby D275 rfl 276 (uC X6 hx hby D276 4 277 (oLc X6 hx hby hZ e6 (((((V_s.ext E1).other W3 ne_sA_b1).other W4 ne_sA_b1).other W5 ne_sA_b1).other W6 ne_sA_b1) ⟨by decide, by decide⟩ rfl D277 278 ?_))))
  refine oSc X6 hx hby hZ e6 V6 ⟨by decide, by decide⟩ 4 c4 (own_nar c4 r4) D278 O6 K6 N6 n_b1 (Or.inr sz_b1) 279 ?_
  intro T7 h7 L7 X7 e7 W7 V7 O7 K7 N7
  refine uD X7 hx hby D279 280 (uC X7 hx hby D280 5 281 (uA X7 hx hby D281 rfl 282 (uC X7 hx hby D282 5 283 (oLc X7 hx hby hZ e7 ((((((V_s.ext E1).other W3 ne_sA_b1).other W4 ne_sA_b1).other W5 ne_sA_b1).other W6 ne_sA_b1).other W7 ne_sA_b1) ⟨by decide, by decide⟩ rfl D283 284 ?_))))
  refine oSc X7 hx hby hZ e7 V7 ⟨by decide, by decide⟩ 5 c5 (own_nar c5 r5) D284 O7 K7 N7 n_b1 (Or.inr sz_b1) 285 ?_
  intro T8 h8 L8 X8 e8 W8 V8 O8 K8 N8
  refine uD X8 hx hby D285 286 (uB X8 hx hby D286 6 288 (uA X8 hx hby D288 rfl 289 (uB X8 hx hby D289 6 291 (oLc X8 hx hby hZ e8 (((((((V_s.ext E1).other W3 ne_sA_b1).other W4 ne_sA_b1).other W5 ne_sA_b1).other W6 ne_sA_b1).other W7 ne_sA_b1).other W8 ne_sA_b1) ⟨by decide, by decide⟩ rfl D291 292 ?_))))
  refine oSc X8 hx hby hZ e8 V8 ⟨by decide, by decide⟩ 6 c6 (own_nar c6 r6) D292 O8 K8 N8 n_b1 (Or.inr sz_b1) 293 ?_
  intro T9 h9 L9 X9 e9 W9 V9 O9 K9 N9
  refine uD X9 hx hby D293 294 (uB X9 hx hby D294 7 296 (uA X9 hx hby D296 rfl 297 (uB X9 hx hby D297 7 299 (oLc X9 hx hby hZ e9 ((((((((V_s.ext E1).other W3 ne_sA_b1).other W4 ne_sA_b1).other W5 ne_sA_b1).other W6 ne_sA_b1).other W7 ne_sA_b1).other W8 ne_sA_b1).other W9 ne_sA_b1) ⟨by decide, by decide⟩ rfl D299 300 ?_))))
  refine oSc X9 hx hby hZ e9 V9 ⟨by decide, by decide⟩ 7 c7 (own_nar c7 r7) D300 O9 K9 N9 n_b1 (Or.inr sz_b1) 301 ?_
  intro T10 h10 L10 X10 e10 W10 V10 O10 K10 N10
  exact oRA X10 hx hby hret hlk e10 D301 ⟨b1, k1, rfl, N10, K10, O10, n_b1, sz_b1, V10⟩

abbrev K22 (n : Nat) (i : Instr) (k : Nat) : Prop := decode jdk_42_method_154_code n = .ok (i, k)
set_option maxRecDepth 65536 in
theorem t22 : K22 0 (.getstatic 38) 3 ∧ K22 3 (.ifCond .eq 14) 3 ∧ K22 6 (.aload_n 0) 1 ∧ K22 7 (.getfield 15) 3 ∧ K22 10 (.ifCond .ne 7) 3 ∧ K22 13 (.iconst 1) 1 ∧ K22 14 (.goto 4) 3 ∧ K22 18 .ireturn 1 := by and_intros <;> decide +kernel
theorem rm_lat (a : Addr) (H : oH Z a0 n0 h0 wR wI zc vf wB wL wV cV) (F_c : Fld Z h0 a "java/lang/String" "coder" "B" (.int (0 : Int32))) : oPu l Z (⟨"java/lang/String", "isLatin1", "()Z"⟩ : MethodName) jdk_42_method_154_code 1 (some .boolean) (oRm 0 0 0 0) #[(.ref a)] h0 n0 (some (.int (1 : Int32))) := by
  obtain ⟨hw, O0, hS⟩ := H
  refine oBody (plainFor_of_name pn_1) #[oa a] (fun _ => by first | (simp [entryFrame, mkF, argsToLocals, Value.category]; done) | rfl) ?_
  intro pG eG sG mG belowG methG cG s₁ hx hby hml hown hnm hret hlk X0 e0 hZ
  have N0 := Fr.nil n0
  have K0 := Keep.refl h0 []
  obtain ⟨-, -, -, -, S_zc, hzc, -, -, -, -, -, -, -, -⟩ := id hS
  obtain ⟨d0, d3, d6, d7, d10, d13, d14, d18⟩ := t22
  refine oGs X0 hx hby hZ hown (ow hw 33 rfl) e0 (S_zc.ext O0.2) d0 3 ?_
  intro T1 X1 e1
  refine uN X1 hx hby d3 ((if0 _ _).trans (feq hzc).1) 6 (uA X1 hx hby d6 rfl 7 ?_)
  refine oGf X1 hx hby hZ hown (ow hw 29 rfl) Via.refl e1 F_c d7 10 ?_
  intro T2 X2 e2
  refine uN X2 hx hby d10 ((if0 _ _).trans (teq (by decide : (0 : Int32) = (0 : Int32))).2) 13 (uC X2 hx hby d13 1 14 (uG X2 hx hby d14 18 ?_))
  exact oRZ X2 hx hby hret hlk e2 d18 (1 : Int32) ⟨rfl, N0, rfl⟩

abbrev K20 (n : Nat) (i : Instr) (k : Nat) : Prop := decode jdk_42_method_152_code n = .ok (i, k)
set_option maxRecDepth 65536 in
theorem t20 : K20 0 (.getstatic 38) 3 ∧ K20 3 (.ifCond .eq 10) 3 ∧ K20 6 (.aload_n 0) 1 ∧ K20 7 (.getfield 15) 3 ∧ K20 10 (.goto 4) 3 ∧ K20 14 .ireturn 1 := by and_intros <;> decide +kernel
theorem rm_cod (a : Addr) (H : oH Z a0 n0 h0 wR wI zc vf wB wL wV cV) (F_c : Fld Z h0 a "java/lang/String" "coder" "B" (.int (0 : Int32))) : oPu l Z (⟨"java/lang/String", "coder", "()B"⟩ : MethodName) jdk_42_method_152_code 1 (some .byte) (oRm 0 0 0 0) #[(.ref a)] h0 n0 (some (.int (0 : Int32))) := by
  obtain ⟨hw, O0, hS⟩ := H
  refine oBody (plainFor_of_name pn_1) #[oa a] (fun _ => by first | (simp [entryFrame, mkF, argsToLocals, Value.category]; done) | rfl) ?_
  intro pG eG sG mG belowG methG cG s₁ hx hby hml hown hnm hret hlk X0 e0 hZ
  have N0 := Fr.nil n0
  have K0 := Keep.refl h0 []
  obtain ⟨-, -, -, -, S_zc, hzc, -, -, -, -, -, -, -, -⟩ := id hS
  obtain ⟨d0, d3, d6, d7, d10, d14⟩ := t20
  refine oGs X0 hx hby hZ hown (ow hw 33 rfl) e0 (S_zc.ext O0.2) d0 3 ?_
  intro T1 X1 e1
  refine uN X1 hx hby d3 ((if0 _ _).trans (feq hzc).1) 6 (uA X1 hx hby d6 rfl 7 ?_)
  refine oGf X1 hx hby hZ hown (ow hw 29 rfl) Via.refl e1 F_c d7 10 ?_
  intro T2 X2 e2
  refine uG X2 hx hby d10 14 ?_
  exact oRZ X2 hx hby hret hlk e2 d14 (0 : Int32) ⟨rfl, N0, rfl⟩

abbrev K19 (n : Nat) (i : Instr) (k : Nat) : Prop := decode jdk_42_method_54_code n = .ok (i, k)
set_option maxRecDepth 65536 in
theorem t19 : K19 0 (.aload_n 0) 1 ∧ K19 1 (.getfield 9) 3 ∧ K19 4 .arraylength 1 ∧ K19 5 (.aload_n 0) 1 ∧ K19 6 (.invokevirtual 335) 3 ∧ K19 9 .ishr 1 ∧ K19 10 .ireturn 1 := by and_intros <;> decide +kernel
theorem pd_3 : parseMethodDescriptor "()B" = some ⟨[], some .byte⟩ := by decide +kernel
theorem rm_len (a t : Addr) (kb : ClassId) (nn : Int32) (bs : List Value) (H : oH Z a0 n0 h0 wR wI zc vf wB wL wV cV) (E_a : Exa Z h0 a "java/lang/String") (F_c : Fld Z h0 a "java/lang/String" "coder" "B" (.int (0 : Int32))) (F_v : Fld Z h0 a "java/lang/String" "value" "[B" (.ref t)) (V_t : Arv Z h0 t kb .byte nn bs (.int (0 : Int32))) : oPu l Z (⟨"java/lang/String", "length", "()I"⟩ : MethodName) jdk_42_method_54_code 1 (some .int) (oRm 1 0 0 13) #[(.ref a)] h0 n0 (some (.int nn)) := by
  obtain ⟨hw, O0, hS⟩ := H
  refine oBody (plainFor_of_name pn_1) #[oa a] (fun _ => by first | (simp [entryFrame, mkF, argsToLocals, Value.category]; done) | rfl) ?_
  intro pG eG sG mG belowG methG cG s₁ hx hby hml hown hnm hret hlk X0 e0 hZ
  have N0 := Fr.nil n0
  have K0 := Keep.refl h0 []
  obtain ⟨d0, d1, d4, d5, d6, d9, d10⟩ := t19
  refine uA X0 hx hby d0 rfl 1 ?_
  refine oGf X0 hx hby hZ hown (ow hw 28 rfl) Via.refl e0 F_v d1 4 ?_
  intro T1 X1 e1
  refine oLn X1 hx hby hZ e1 V_t d4 5 (uA X1 hx hby d5 rfl 6 ?_)
  refine oVp X1 hx hby hZ hown (ow hw 79 rfl) (ow hw 80 rfl) (ow hw 82 rfl) (ow hw 81 rfl) (ow hw 83 rfl) (ow hw 8 rfl) (rm_cod a ⟨hw, O0, hS⟩ F_c) e1 E_a N0 hml [] [(.int nn)] pd_3 d6 9 ?_
  intro T2 L2 X2 e2 N2
  refine ob T2 (mkF mG 10 #[oa a] [(.int (nn >>> ((0 : Int32) &&& 31)))]) (fun _ kk => XS.ishr X2.here hx rfl (hb hby d9) rfl kk) ?_
  exact oRI X2 hx hby hret hlk e2 d10 ⟨(congrArg (fun z => some (Value.int z)) (own_shr nn)), N2, rfl⟩

abbrev K25 (n : Nat) (i : Instr) (k : Nat) : Prop := decode jdk_41_method_11_code n = .ok (i, k)
set_option maxRecDepth 65536 in
theorem t25 : K25 0 (.iload_n 0) 1 ∧ K25 1 (.ifCond .lt 8) 3 ∧ K25 4 (.iload_n 0) 1 ∧ K25 5 (.iload_n 1) 1 ∧ K25 6 (.if_icmp .lt 10) 3 ∧ K25 16 (.iload_n 0) 1 ∧ K25 17 .ireturn 1 := by and_intros <;> decide +kernel
theorem rm_pix (jj nn : Int32) (H : oH Z a0 n0 h0 wR wI zc vf wB wL wV cV) (h1 : ¬ jj < (0 : Int32)) (h2 : jj < nn) : oPu l Z (⟨"jdk/internal/util/Preconditions", "checkIndex", "(IILjava/util/function/BiFunction;)I"⟩ : MethodName) jdk_41_method_11_code 3 (some .int) (oRm 0 0 0 0) #[(.int jj), (.int nn), vf] h0 n0 (some (.int jj)) := by
  obtain ⟨hw, O0, hS⟩ := H
  refine oBody (plainFor_of_name pn_2) #[oi jj, oi nn, .val vf] (fun _ => by obtain ⟨-, -, -, -, -, -, -, rvf, -, -, -, -, -, -⟩ := id hS; cases vf <;> first | rfl | cases rvf) ?_
  intro pG eG sG mG belowG methG cG s₁ hx hby hml hown hnm hret hlk X0 e0 hZ
  have N0 := Fr.nil n0
  have K0 := Keep.refl h0 []
  obtain ⟨d0, d1, d4, d5, d6, d16, d17⟩ := t25
  refine uI X0 hx hby d0 rfl 1 (uN X0 hx hby d1 ((if0 _ _).trans (flt h1).1) 4 (uI X0 hx hby d4 rfl 5 (uI X0 hx hby d5 rfl 6 (uYc X0 hx hby d6 (tlt h2).1 16 (uI X0 hx hby d16 rfl 17 ?_)))))
  exact oRI X0 hx hby hret hlk e0 d17 ⟨rfl, N0, rfl⟩

abbrev K24 (n : Nat) (i : Instr) (k : Nat) : Prop := decode jdk_42_method_155_code n = .ok (i, k)
set_option maxRecDepth 65536 in
theorem t24 : K24 0 (.iload_n 0) 1 ∧ K24 1 (.iload_n 1) 1 ∧ K24 2 (.getstatic 1053) 3 ∧ K24 5 (.invokestatic 1059) 3 ∧ K24 8 .pop 1 ∧ K24 9 .return_ 1 := by and_intros <;> decide +kernel
theorem pd_4 : parseMethodDescriptor "(IILjava/util/function/BiFunction;)I" = some ⟨[.int, .int, (.object "java/util/function/BiFunction")], some .int⟩ := by decide +kernel
theorem rm_cix (jj nn : Int32) (H : oH Z a0 n0 h0 wR wI zc vf wB wL wV cV) (h1 : ¬ jj < (0 : Int32)) (h2 : jj < nn) : oPu l Z (⟨"java/lang/String", "checkIndex", "(II)V"⟩ : MethodName) jdk_42_method_155_code 2 none (oRm 1 0 0 14) #[(.int jj), (.int nn)] h0 n0 none := by
  obtain ⟨hw, O0, hS⟩ := H
  refine oBody (plainFor_of_name pn_1) #[oi jj, oi nn] (fun _ => by first | (simp [entryFrame, mkF, argsToLocals, Value.category]; done) | rfl) ?_
  intro pG eG sG mG belowG methG cG s₁ hx hby hml hown hnm hret hlk X0 e0 hZ
  have N0 := Fr.nil n0
  have K0 := Keep.refl h0 []
  obtain ⟨-, -, -, -, -, -, S_vf, -, -, -, -, -, -, -⟩ := id hS
  obtain ⟨d0, d1, d2, d5, d8, d9⟩ := t24
  refine uI X0 hx hby d0 rfl 1 (uI X0 hx hby d1 rfl 2 ?_)
  refine oGs X0 hx hby hZ hown (ow hw 101 rfl) e0 (S_vf.ext O0.2) d2 5 ?_
  intro T1 X1 e1
  refine oCp X1 hx hby hZ hown (ow hw 103 rfl) (ow hw 104 rfl) (ow hw 105 rfl) (ow hw 102 rfl) (rm_pix jj nn ⟨hw, O0, hS⟩ h1 h2) e1 N0 hml [(.int jj), (.int nn), vf] [] pd_4 d5 8 ?_
  intro T2 L2 X2 e2 N2
  refine ob T2 (mkF mG 9 #[oi jj, oi nn] []) (fun _ kk => XS.pop X2.here hx rfl (hb hby d8) rfl rfl kk) ?_
  exact oRV X2 hx hby hret hlk e2 d9 ⟨rfl, N2, rfl⟩

abbrev K23 (n : Nat) (i : Instr) (k : Nat) : Prop := decode jdk_43_method_2_code n = .ok (i, k)
set_option maxRecDepth 65536 in
theorem t23 : K23 0 (.iload_n 1) 1 ∧ K23 1 (.aload_n 0) 1 ∧ K23 2 .arraylength 1 ∧ K23 3 (.invokestatic 9) 3 ∧ K23 6 (.aload_n 0) 1 ∧ K23 7 (.iload_n 1) 1 ∧ K23 8 .baload 1 ∧ K23 9 (.sipush 255) 3 ∧ K23 12 .iand 1 ∧ K23 13 .i2c 1 ∧ K23 14 .ireturn 1 := by and_intros <;> decide +kernel
theorem pd_5 : parseMethodDescriptor "(II)V" = some ⟨[.int, .int], none⟩ := by decide +kernel
theorem rm_lch0 (t : Addr) (kb : ClassId) (nn c0 c1 c2 c3 c4 c5 c6 c7 : Int32) (H : oH Z a0 n0 h0 wR wI zc vf wB wL wV cV) (V_t : Arv Z h0 t kb .byte nn (oB8 c0 c1 c2 c3 c4 c5 c6 c7) (.int (0 : Int32))) (r0 : oRg c0) (hk : (0 : Int32) < nn) : oPu l Z (⟨"java/lang/StringLatin1", "charAt", "([BI)C"⟩ : MethodName) jdk_43_method_2_code 2 (some .char) (oRm 2 0 0 27) #[(.ref t), (.int (0 : Int32))] h0 n0 (some (.int c0)) := by
  obtain ⟨hw, O0, hS⟩ := H
  refine oBody (plainFor_of_name pn_3) #[oa t, oi (0 : Int32)] (fun _ => by first | (simp [entryFrame, mkF, argsToLocals, Value.category]; done) | rfl) ?_
  intro pG eG sG mG belowG methG cG s₁ hx hby hml hown hnm hret hlk X0 e0 hZ
  have N0 := Fr.nil n0
  have K0 := Keep.refl h0 []
  obtain ⟨d0, d1, d2, d3, d6, d7, d8, d9, d12, d13, d14⟩ := t23
  refine uI X0 hx hby d0 rfl 1 (uA X0 hx hby d1 rfl 2 (oLn X0 hx hby hZ e0 V_t d2 3 ?_))
  refine oCv X0 hx hby hZ hown (ow hw 98 rfl) (ow hw 99 rfl) (ow hw 100 rfl) (ow hw 8 rfl) (rm_cix (0 : Int32) nn ⟨hw, O0, hS⟩ (by decide) hk) e0 N0 hml [(.int (0 : Int32)), (.int nn)] [] pd_5 d3 6 ?_
  intro T1 L1 X1 e1 N1
  refine uA X1 hx hby d6 rfl 7 (uI X1 hx hby d7 rfl 8 (oLb X1 hx hby hZ e1 V_t ⟨by decide, hk⟩ rfl d8 9 (uS X1 hx hby d9 255 12 (uAnd X1 hx hby d12 13 ?_))))
  refine ob T1 (mkF mG 14 #[oa t, oi (0 : Int32)] [(.int (((c0.toInt8.toInt32) &&& (255 : Int32)).toUInt32.toUInt16.toUInt32.toInt32))]) (fun _ kk => XS.i2c X1.here hx rfl (hb hby d13) rfl kk) ?_
  exact oRZ X1 hx hby hret hlk e1 d14 (nar .char (((c0.toInt8.toInt32) &&& (255 : Int32)).toUInt32.toUInt16.toUInt32.toInt32)) ⟨(congrArg (fun z => some (Value.int z)) (own_byte c0 r0)), N1, rfl⟩

theorem rm_lch1 (t : Addr) (kb : ClassId) (nn c0 c1 c2 c3 c4 c5 c6 c7 : Int32) (H : oH Z a0 n0 h0 wR wI zc vf wB wL wV cV) (V_t : Arv Z h0 t kb .byte nn (oB8 c0 c1 c2 c3 c4 c5 c6 c7) (.int (0 : Int32))) (r1 : oRg c1) (hk : (1 : Int32) < nn) : oPu l Z (⟨"java/lang/StringLatin1", "charAt", "([BI)C"⟩ : MethodName) jdk_43_method_2_code 2 (some .char) (oRm 2 0 0 27) #[(.ref t), (.int (1 : Int32))] h0 n0 (some (.int c1)) := by
  obtain ⟨hw, O0, hS⟩ := H
  refine oBody (plainFor_of_name pn_3) #[oa t, oi (1 : Int32)] (fun _ => by first | (simp [entryFrame, mkF, argsToLocals, Value.category]; done) | rfl) ?_
  intro pG eG sG mG belowG methG cG s₁ hx hby hml hown hnm hret hlk X0 e0 hZ
  have N0 := Fr.nil n0
  have K0 := Keep.refl h0 []
  obtain ⟨d0, d1, d2, d3, d6, d7, d8, d9, d12, d13, d14⟩ := t23
  refine uI X0 hx hby d0 rfl 1 (uA X0 hx hby d1 rfl 2 (oLn X0 hx hby hZ e0 V_t d2 3 ?_))
  refine oCv X0 hx hby hZ hown (ow hw 98 rfl) (ow hw 99 rfl) (ow hw 100 rfl) (ow hw 8 rfl) (rm_cix (1 : Int32) nn ⟨hw, O0, hS⟩ (by decide) hk) e0 N0 hml [(.int (1 : Int32)), (.int nn)] [] pd_5 d3 6 ?_
  intro T1 L1 X1 e1 N1
  refine uA X1 hx hby d6 rfl 7 (uI X1 hx hby d7 rfl 8 (oLb X1 hx hby hZ e1 V_t ⟨by decide, hk⟩ rfl d8 9 (uS X1 hx hby d9 255 12 (uAnd X1 hx hby d12 13 ?_))))
  refine ob T1 (mkF mG 14 #[oa t, oi (1 : Int32)] [(.int (((c1.toInt8.toInt32) &&& (255 : Int32)).toUInt32.toUInt16.toUInt32.toInt32))]) (fun _ kk => XS.i2c X1.here hx rfl (hb hby d13) rfl kk) ?_
  exact oRZ X1 hx hby hret hlk e1 d14 (nar .char (((c1.toInt8.toInt32) &&& (255 : Int32)).toUInt32.toUInt16.toUInt32.toInt32)) ⟨(congrArg (fun z => some (Value.int z)) (own_byte c1 r1)), N1, rfl⟩

theorem rm_lch2 (t : Addr) (kb : ClassId) (nn c0 c1 c2 c3 c4 c5 c6 c7 : Int32) (H : oH Z a0 n0 h0 wR wI zc vf wB wL wV cV) (V_t : Arv Z h0 t kb .byte nn (oB8 c0 c1 c2 c3 c4 c5 c6 c7) (.int (0 : Int32))) (r2 : oRg c2) (hk : (2 : Int32) < nn) : oPu l Z (⟨"java/lang/StringLatin1", "charAt", "([BI)C"⟩ : MethodName) jdk_43_method_2_code 2 (some .char) (oRm 2 0 0 27) #[(.ref t), (.int (2 : Int32))] h0 n0 (some (.int c2)) := by
  obtain ⟨hw, O0, hS⟩ := H
  refine oBody (plainFor_of_name pn_3) #[oa t, oi (2 : Int32)] (fun _ => by first | (simp [entryFrame, mkF, argsToLocals, Value.category]; done) | rfl) ?_
  intro pG eG sG mG belowG methG cG s₁ hx hby hml hown hnm hret hlk X0 e0 hZ
  have N0 := Fr.nil n0
  have K0 := Keep.refl h0 []
  obtain ⟨d0, d1, d2, d3, d6, d7, d8, d9, d12, d13, d14⟩ := t23
  refine uI X0 hx hby d0 rfl 1 (uA X0 hx hby d1 rfl 2 (oLn X0 hx hby hZ e0 V_t d2 3 ?_))
  refine oCv X0 hx hby hZ hown (ow hw 98 rfl) (ow hw 99 rfl) (ow hw 100 rfl) (ow hw 8 rfl) (rm_cix (2 : Int32) nn ⟨hw, O0, hS⟩ (by decide) hk) e0 N0 hml [(.int (2 : Int32)), (.int nn)] [] pd_5 d3 6 ?_
  intro T1 L1 X1 e1 N1
  refine uA X1 hx hby d6 rfl 7 (uI X1 hx hby d7 rfl 8 (oLb X1 hx hby hZ e1 V_t ⟨by decide, hk⟩ rfl d8 9 (uS X1 hx hby d9 255 12 (uAnd X1 hx hby d12 13 ?_))))
  refine ob T1 (mkF mG 14 #[oa t, oi (2 : Int32)] [(.int (((c2.toInt8.toInt32) &&& (255 : Int32)).toUInt32.toUInt16.toUInt32.toInt32))]) (fun _ kk => XS.i2c X1.here hx rfl (hb hby d13) rfl kk) ?_
  exact oRZ X1 hx hby hret hlk e1 d14 (nar .char (((c2.toInt8.toInt32) &&& (255 : Int32)).toUInt32.toUInt16.toUInt32.toInt32)) ⟨(congrArg (fun z => some (Value.int z)) (own_byte c2 r2)), N1, rfl⟩

theorem rm_lch3 (t : Addr) (kb : ClassId) (nn c0 c1 c2 c3 c4 c5 c6 c7 : Int32) (H : oH Z a0 n0 h0 wR wI zc vf wB wL wV cV) (V_t : Arv Z h0 t kb .byte nn (oB8 c0 c1 c2 c3 c4 c5 c6 c7) (.int (0 : Int32))) (r3 : oRg c3) (hk : (3 : Int32) < nn) : oPu l Z (⟨"java/lang/StringLatin1", "charAt", "([BI)C"⟩ : MethodName) jdk_43_method_2_code 2 (some .char) (oRm 2 0 0 27) #[(.ref t), (.int (3 : Int32))] h0 n0 (some (.int c3)) := by
  obtain ⟨hw, O0, hS⟩ := H
  refine oBody (plainFor_of_name pn_3) #[oa t, oi (3 : Int32)] (fun _ => by first | (simp [entryFrame, mkF, argsToLocals, Value.category]; done) | rfl) ?_
  intro pG eG sG mG belowG methG cG s₁ hx hby hml hown hnm hret hlk X0 e0 hZ
  have N0 := Fr.nil n0
  have K0 := Keep.refl h0 []
  obtain ⟨d0, d1, d2, d3, d6, d7, d8, d9, d12, d13, d14⟩ := t23
  refine uI X0 hx hby d0 rfl 1 (uA X0 hx hby d1 rfl 2 (oLn X0 hx hby hZ e0 V_t d2 3 ?_))
  refine oCv X0 hx hby hZ hown (ow hw 98 rfl) (ow hw 99 rfl) (ow hw 100 rfl) (ow hw 8 rfl) (rm_cix (3 : Int32) nn ⟨hw, O0, hS⟩ (by decide) hk) e0 N0 hml [(.int (3 : Int32)), (.int nn)] [] pd_5 d3 6 ?_
  intro T1 L1 X1 e1 N1
  refine uA X1 hx hby d6 rfl 7 (uI X1 hx hby d7 rfl 8 (oLb X1 hx hby hZ e1 V_t ⟨by decide, hk⟩ rfl d8 9 (uS X1 hx hby d9 255 12 (uAnd X1 hx hby d12 13 ?_))))
  refine ob T1 (mkF mG 14 #[oa t, oi (3 : Int32)] [(.int (((c3.toInt8.toInt32) &&& (255 : Int32)).toUInt32.toUInt16.toUInt32.toInt32))]) (fun _ kk => XS.i2c X1.here hx rfl (hb hby d13) rfl kk) ?_
  exact oRZ X1 hx hby hret hlk e1 d14 (nar .char (((c3.toInt8.toInt32) &&& (255 : Int32)).toUInt32.toUInt16.toUInt32.toInt32)) ⟨(congrArg (fun z => some (Value.int z)) (own_byte c3 r3)), N1, rfl⟩

theorem rm_lch4 (t : Addr) (kb : ClassId) (nn c0 c1 c2 c3 c4 c5 c6 c7 : Int32) (H : oH Z a0 n0 h0 wR wI zc vf wB wL wV cV) (V_t : Arv Z h0 t kb .byte nn (oB8 c0 c1 c2 c3 c4 c5 c6 c7) (.int (0 : Int32))) (r4 : oRg c4) (hk : (4 : Int32) < nn) : oPu l Z (⟨"java/lang/StringLatin1", "charAt", "([BI)C"⟩ : MethodName) jdk_43_method_2_code 2 (some .char) (oRm 2 0 0 27) #[(.ref t), (.int (4 : Int32))] h0 n0 (some (.int c4)) := by
  obtain ⟨hw, O0, hS⟩ := H
  refine oBody (plainFor_of_name pn_3) #[oa t, oi (4 : Int32)] (fun _ => by first | (simp [entryFrame, mkF, argsToLocals, Value.category]; done) | rfl) ?_
  intro pG eG sG mG belowG methG cG s₁ hx hby hml hown hnm hret hlk X0 e0 hZ
  have N0 := Fr.nil n0
  have K0 := Keep.refl h0 []
  obtain ⟨d0, d1, d2, d3, d6, d7, d8, d9, d12, d13, d14⟩ := t23
  refine uI X0 hx hby d0 rfl 1 (uA X0 hx hby d1 rfl 2 (oLn X0 hx hby hZ e0 V_t d2 3 ?_))
  refine oCv X0 hx hby hZ hown (ow hw 98 rfl) (ow hw 99 rfl) (ow hw 100 rfl) (ow hw 8 rfl) (rm_cix (4 : Int32) nn ⟨hw, O0, hS⟩ (by decide) hk) e0 N0 hml [(.int (4 : Int32)), (.int nn)] [] pd_5 d3 6 ?_
  intro T1 L1 X1 e1 N1
  refine uA X1 hx hby d6 rfl 7 (uI X1 hx hby d7 rfl 8 (oLb X1 hx hby hZ e1 V_t ⟨by decide, hk⟩ rfl d8 9 (uS X1 hx hby d9 255 12 (uAnd X1 hx hby d12 13 ?_))))
  refine ob T1 (mkF mG 14 #[oa t, oi (4 : Int32)] [(.int (((c4.toInt8.toInt32) &&& (255 : Int32)).toUInt32.toUInt16.toUInt32.toInt32))]) (fun _ kk => XS.i2c X1.here hx rfl (hb hby d13) rfl kk) ?_
  exact oRZ X1 hx hby hret hlk e1 d14 (nar .char (((c4.toInt8.toInt32) &&& (255 : Int32)).toUInt32.toUInt16.toUInt32.toInt32)) ⟨(congrArg (fun z => some (Value.int z)) (own_byte c4 r4)), N1, rfl⟩

theorem rm_lch5 (t : Addr) (kb : ClassId) (nn c0 c1 c2 c3 c4 c5 c6 c7 : Int32) (H : oH Z a0 n0 h0 wR wI zc vf wB wL wV cV) (V_t : Arv Z h0 t kb .byte nn (oB8 c0 c1 c2 c3 c4 c5 c6 c7) (.int (0 : Int32))) (r5 : oRg c5) (hk : (5 : Int32) < nn) : oPu l Z (⟨"java/lang/StringLatin1", "charAt", "([BI)C"⟩ : MethodName) jdk_43_method_2_code 2 (some .char) (oRm 2 0 0 27) #[(.ref t), (.int (5 : Int32))] h0 n0 (some (.int c5)) := by
  obtain ⟨hw, O0, hS⟩ := H
  refine oBody (plainFor_of_name pn_3) #[oa t, oi (5 : Int32)] (fun _ => by first | (simp [entryFrame, mkF, argsToLocals, Value.category]; done) | rfl) ?_
  intro pG eG sG mG belowG methG cG s₁ hx hby hml hown hnm hret hlk X0 e0 hZ
  have N0 := Fr.nil n0
  have K0 := Keep.refl h0 []
  obtain ⟨d0, d1, d2, d3, d6, d7, d8, d9, d12, d13, d14⟩ := t23
  refine uI X0 hx hby d0 rfl 1 (uA X0 hx hby d1 rfl 2 (oLn X0 hx hby hZ e0 V_t d2 3 ?_))
  refine oCv X0 hx hby hZ hown (ow hw 98 rfl) (ow hw 99 rfl) (ow hw 100 rfl) (ow hw 8 rfl) (rm_cix (5 : Int32) nn ⟨hw, O0, hS⟩ (by decide) hk) e0 N0 hml [(.int (5 : Int32)), (.int nn)] [] pd_5 d3 6 ?_
  intro T1 L1 X1 e1 N1
  refine uA X1 hx hby d6 rfl 7 (uI X1 hx hby d7 rfl 8 (oLb X1 hx hby hZ e1 V_t ⟨by decide, hk⟩ rfl d8 9 (uS X1 hx hby d9 255 12 (uAnd X1 hx hby d12 13 ?_))))
  refine ob T1 (mkF mG 14 #[oa t, oi (5 : Int32)] [(.int (((c5.toInt8.toInt32) &&& (255 : Int32)).toUInt32.toUInt16.toUInt32.toInt32))]) (fun _ kk => XS.i2c X1.here hx rfl (hb hby d13) rfl kk) ?_
  exact oRZ X1 hx hby hret hlk e1 d14 (nar .char (((c5.toInt8.toInt32) &&& (255 : Int32)).toUInt32.toUInt16.toUInt32.toInt32)) ⟨(congrArg (fun z => some (Value.int z)) (own_byte c5 r5)), N1, rfl⟩

theorem rm_lch6 (t : Addr) (kb : ClassId) (nn c0 c1 c2 c3 c4 c5 c6 c7 : Int32) (H : oH Z a0 n0 h0 wR wI zc vf wB wL wV cV) (V_t : Arv Z h0 t kb .byte nn (oB8 c0 c1 c2 c3 c4 c5 c6 c7) (.int (0 : Int32))) (r6 : oRg c6) (hk : (6 : Int32) < nn) : oPu l Z (⟨"java/lang/StringLatin1", "charAt", "([BI)C"⟩ : MethodName) jdk_43_method_2_code 2 (some .char) (oRm 2 0 0 27) #[(.ref t), (.int (6 : Int32))] h0 n0 (some (.int c6)) := by
  obtain ⟨hw, O0, hS⟩ := H
  refine oBody (plainFor_of_name pn_3) #[oa t, oi (6 : Int32)] (fun _ => by first | (simp [entryFrame, mkF, argsToLocals, Value.category]; done) | rfl) ?_
  intro pG eG sG mG belowG methG cG s₁ hx hby hml hown hnm hret hlk X0 e0 hZ
  have N0 := Fr.nil n0
  have K0 := Keep.refl h0 []
  obtain ⟨d0, d1, d2, d3, d6, d7, d8, d9, d12, d13, d14⟩ := t23
  refine uI X0 hx hby d0 rfl 1 (uA X0 hx hby d1 rfl 2 (oLn X0 hx hby hZ e0 V_t d2 3 ?_))
  refine oCv X0 hx hby hZ hown (ow hw 98 rfl) (ow hw 99 rfl) (ow hw 100 rfl) (ow hw 8 rfl) (rm_cix (6 : Int32) nn ⟨hw, O0, hS⟩ (by decide) hk) e0 N0 hml [(.int (6 : Int32)), (.int nn)] [] pd_5 d3 6 ?_
  intro T1 L1 X1 e1 N1
  refine uA X1 hx hby d6 rfl 7 (uI X1 hx hby d7 rfl 8 (oLb X1 hx hby hZ e1 V_t ⟨by decide, hk⟩ rfl d8 9 (uS X1 hx hby d9 255 12 (uAnd X1 hx hby d12 13 ?_))))
  refine ob T1 (mkF mG 14 #[oa t, oi (6 : Int32)] [(.int (((c6.toInt8.toInt32) &&& (255 : Int32)).toUInt32.toUInt16.toUInt32.toInt32))]) (fun _ kk => XS.i2c X1.here hx rfl (hb hby d13) rfl kk) ?_
  exact oRZ X1 hx hby hret hlk e1 d14 (nar .char (((c6.toInt8.toInt32) &&& (255 : Int32)).toUInt32.toUInt16.toUInt32.toInt32)) ⟨(congrArg (fun z => some (Value.int z)) (own_byte c6 r6)), N1, rfl⟩

theorem rm_lch7 (t : Addr) (kb : ClassId) (nn c0 c1 c2 c3 c4 c5 c6 c7 : Int32) (H : oH Z a0 n0 h0 wR wI zc vf wB wL wV cV) (V_t : Arv Z h0 t kb .byte nn (oB8 c0 c1 c2 c3 c4 c5 c6 c7) (.int (0 : Int32))) (r7 : oRg c7) (hk : (7 : Int32) < nn) : oPu l Z (⟨"java/lang/StringLatin1", "charAt", "([BI)C"⟩ : MethodName) jdk_43_method_2_code 2 (some .char) (oRm 2 0 0 27) #[(.ref t), (.int (7 : Int32))] h0 n0 (some (.int c7)) := by
  obtain ⟨hw, O0, hS⟩ := H
  refine oBody (plainFor_of_name pn_3) #[oa t, oi (7 : Int32)] (fun _ => by first | (simp [entryFrame, mkF, argsToLocals, Value.category]; done) | rfl) ?_
  intro pG eG sG mG belowG methG cG s₁ hx hby hml hown hnm hret hlk X0 e0 hZ
  have N0 := Fr.nil n0
  have K0 := Keep.refl h0 []
  obtain ⟨d0, d1, d2, d3, d6, d7, d8, d9, d12, d13, d14⟩ := t23
  refine uI X0 hx hby d0 rfl 1 (uA X0 hx hby d1 rfl 2 (oLn X0 hx hby hZ e0 V_t d2 3 ?_))
  refine oCv X0 hx hby hZ hown (ow hw 98 rfl) (ow hw 99 rfl) (ow hw 100 rfl) (ow hw 8 rfl) (rm_cix (7 : Int32) nn ⟨hw, O0, hS⟩ (by decide) hk) e0 N0 hml [(.int (7 : Int32)), (.int nn)] [] pd_5 d3 6 ?_
  intro T1 L1 X1 e1 N1
  refine uA X1 hx hby d6 rfl 7 (uI X1 hx hby d7 rfl 8 (oLb X1 hx hby hZ e1 V_t ⟨by decide, hk⟩ rfl d8 9 (uS X1 hx hby d9 255 12 (uAnd X1 hx hby d12 13 ?_))))
  refine ob T1 (mkF mG 14 #[oa t, oi (7 : Int32)] [(.int (((c7.toInt8.toInt32) &&& (255 : Int32)).toUInt32.toUInt16.toUInt32.toInt32))]) (fun _ kk => XS.i2c X1.here hx rfl (hb hby d13) rfl kk) ?_
  exact oRZ X1 hx hby hret hlk e1 d14 (nar .char (((c7.toInt8.toInt32) &&& (255 : Int32)).toUInt32.toUInt16.toUInt32.toInt32)) ⟨(congrArg (fun z => some (Value.int z)) (own_byte c7 r7)), N1, rfl⟩

abbrev K21 (n : Nat) (i : Instr) (k : Nat) : Prop := decode jdk_42_method_56_code n = .ok (i, k)
set_option maxRecDepth 65536 in
theorem t21 : K21 0 (.aload_n 0) 1 ∧ K21 1 (.invokevirtual 492) 3 ∧ K21 4 (.ifCond .eq 12) 3 ∧ K21 7 (.aload_n 0) 1 ∧ K21 8 (.getfield 9) 3 ∧ K21 11 (.iload_n 1) 1 ∧ K21 12 (.invokestatic 495) 3 ∧ K21 15 .ireturn 1 := by and_intros <;> decide +kernel
theorem pd_6 : parseMethodDescriptor "()Z" = some ⟨[], some .boolean⟩ := by decide +kernel
theorem pd_7 : parseMethodDescriptor "([BI)C" = some ⟨[(.array .byte), .int], some .char⟩ := by decide +kernel
theorem rm_ch0 (a t : Addr) (kb : ClassId) (nn c0 c1 c2 c3 c4 c5 c6 c7 : Int32) (H : oH Z a0 n0 h0 wR wI zc vf wB wL wV cV) (E_a : Exa Z h0 a "java/lang/String") (F_c : Fld Z h0 a "java/lang/String" "coder" "B" (.int (0 : Int32))) (F_v : Fld Z h0 a "java/lang/String" "value" "[B" (.ref t)) (V_t : Arv Z h0 t kb .byte nn (oB8 c0 c1 c2 c3 c4 c5 c6 c7) (.int (0 : Int32))) (r0 : oRg c0) (hk : (0 : Int32) < nn) : oPu l Z (⟨"java/lang/String", "charAt", "(I)C"⟩ : MethodName) jdk_42_method_56_code 2 (some .char) (oRm 3 0 0 40) #[(.ref a), (.int (0 : Int32))] h0 n0 (some (.int c0)) := by
  obtain ⟨hw, O0, hS⟩ := H
  refine oBody (plainFor_of_name pn_1) #[oa a, oi (0 : Int32)] (fun _ => by first | (simp [entryFrame, mkF, argsToLocals, Value.category]; done) | rfl) ?_
  intro pG eG sG mG belowG methG cG s₁ hx hby hml hown hnm hret hlk X0 e0 hZ
  have N0 := Fr.nil n0
  have K0 := Keep.refl h0 []
  obtain ⟨d0, d1, d4, d7, d8, d11, d12, d15⟩ := t21
  refine uA X0 hx hby d0 rfl 1 ?_
  refine oVp X0 hx hby hZ hown (ow hw 89 rfl) (ow hw 90 rfl) (ow hw 92 rfl) (ow hw 91 rfl) (ow hw 93 rfl) (ow hw 8 rfl) (rm_lat a ⟨hw, O0, hS⟩ F_c) e0 E_a N0 hml [] [] pd_6 d1 4 ?_
  intro T1 L1 X1 e1 N1
  refine uN X1 hx hby d4 ((if0 _ _).trans (feq (by decide : ¬ ((1 : Int32) = (0 : Int32)))).1) 7 (uA X1 hx hby d7 rfl 8 ?_)
  refine oGf X1 hx hby hZ hown (ow hw 28 rfl) Via.refl e1 F_v d8 11 ?_
  intro T2 X2 e2
  refine uI X2 hx hby d11 rfl 12 ?_
  refine oCp X2 hx hby hZ hown (ow hw 94 rfl) (ow hw 95 rfl) (ow hw 97 rfl) (ow hw 96 rfl) (rm_lch0 t kb nn c0 c1 c2 c3 c4 c5 c6 c7 ⟨hw, O0, hS⟩ V_t r0 hk) e2 N1 hml [(.ref t), (.int (0 : Int32))] [] pd_7 d12 15 ?_
  intro T3 L3 X3 e3 N3
  exact oRZ X3 hx hby hret hlk e3 d15 (nar .char c0) ⟨(congrArg (fun z => some (Value.int z)) (own_nar c0 r0)), N3, rfl⟩

theorem rm_ch1 (a t : Addr) (kb : ClassId) (nn c0 c1 c2 c3 c4 c5 c6 c7 : Int32) (H : oH Z a0 n0 h0 wR wI zc vf wB wL wV cV) (E_a : Exa Z h0 a "java/lang/String") (F_c : Fld Z h0 a "java/lang/String" "coder" "B" (.int (0 : Int32))) (F_v : Fld Z h0 a "java/lang/String" "value" "[B" (.ref t)) (V_t : Arv Z h0 t kb .byte nn (oB8 c0 c1 c2 c3 c4 c5 c6 c7) (.int (0 : Int32))) (r1 : oRg c1) (hk : (1 : Int32) < nn) : oPu l Z (⟨"java/lang/String", "charAt", "(I)C"⟩ : MethodName) jdk_42_method_56_code 2 (some .char) (oRm 3 0 0 40) #[(.ref a), (.int (1 : Int32))] h0 n0 (some (.int c1)) := by
  obtain ⟨hw, O0, hS⟩ := H
  refine oBody (plainFor_of_name pn_1) #[oa a, oi (1 : Int32)] (fun _ => by first | (simp [entryFrame, mkF, argsToLocals, Value.category]; done) | rfl) ?_
  intro pG eG sG mG belowG methG cG s₁ hx hby hml hown hnm hret hlk X0 e0 hZ
  have N0 := Fr.nil n0
  have K0 := Keep.refl h0 []
  obtain ⟨d0, d1, d4, d7, d8, d11, d12, d15⟩ := t21
  refine uA X0 hx hby d0 rfl 1 ?_
  refine oVp X0 hx hby hZ hown (ow hw 89 rfl) (ow hw 90 rfl) (ow hw 92 rfl) (ow hw 91 rfl) (ow hw 93 rfl) (ow hw 8 rfl) (rm_lat a ⟨hw, O0, hS⟩ F_c) e0 E_a N0 hml [] [] pd_6 d1 4 ?_
  intro T1 L1 X1 e1 N1
  refine uN X1 hx hby d4 ((if0 _ _).trans (feq (by decide : ¬ ((1 : Int32) = (0 : Int32)))).1) 7 (uA X1 hx hby d7 rfl 8 ?_)
  refine oGf X1 hx hby hZ hown (ow hw 28 rfl) Via.refl e1 F_v d8 11 ?_
  intro T2 X2 e2
  refine uI X2 hx hby d11 rfl 12 ?_
  refine oCp X2 hx hby hZ hown (ow hw 94 rfl) (ow hw 95 rfl) (ow hw 97 rfl) (ow hw 96 rfl) (rm_lch1 t kb nn c0 c1 c2 c3 c4 c5 c6 c7 ⟨hw, O0, hS⟩ V_t r1 hk) e2 N1 hml [(.ref t), (.int (1 : Int32))] [] pd_7 d12 15 ?_
  intro T3 L3 X3 e3 N3
  exact oRZ X3 hx hby hret hlk e3 d15 (nar .char c1) ⟨(congrArg (fun z => some (Value.int z)) (own_nar c1 r1)), N3, rfl⟩

theorem rm_ch2 (a t : Addr) (kb : ClassId) (nn c0 c1 c2 c3 c4 c5 c6 c7 : Int32) (H : oH Z a0 n0 h0 wR wI zc vf wB wL wV cV) (E_a : Exa Z h0 a "java/lang/String") (F_c : Fld Z h0 a "java/lang/String" "coder" "B" (.int (0 : Int32))) (F_v : Fld Z h0 a "java/lang/String" "value" "[B" (.ref t)) (V_t : Arv Z h0 t kb .byte nn (oB8 c0 c1 c2 c3 c4 c5 c6 c7) (.int (0 : Int32))) (r2 : oRg c2) (hk : (2 : Int32) < nn) : oPu l Z (⟨"java/lang/String", "charAt", "(I)C"⟩ : MethodName) jdk_42_method_56_code 2 (some .char) (oRm 3 0 0 40) #[(.ref a), (.int (2 : Int32))] h0 n0 (some (.int c2)) := by
  obtain ⟨hw, O0, hS⟩ := H
  refine oBody (plainFor_of_name pn_1) #[oa a, oi (2 : Int32)] (fun _ => by first | (simp [entryFrame, mkF, argsToLocals, Value.category]; done) | rfl) ?_
  intro pG eG sG mG belowG methG cG s₁ hx hby hml hown hnm hret hlk X0 e0 hZ
  have N0 := Fr.nil n0
  have K0 := Keep.refl h0 []
  obtain ⟨d0, d1, d4, d7, d8, d11, d12, d15⟩ := t21
  refine uA X0 hx hby d0 rfl 1 ?_
  refine oVp X0 hx hby hZ hown (ow hw 89 rfl) (ow hw 90 rfl) (ow hw 92 rfl) (ow hw 91 rfl) (ow hw 93 rfl) (ow hw 8 rfl) (rm_lat a ⟨hw, O0, hS⟩ F_c) e0 E_a N0 hml [] [] pd_6 d1 4 ?_
  intro T1 L1 X1 e1 N1
  refine uN X1 hx hby d4 ((if0 _ _).trans (feq (by decide : ¬ ((1 : Int32) = (0 : Int32)))).1) 7 (uA X1 hx hby d7 rfl 8 ?_)
  refine oGf X1 hx hby hZ hown (ow hw 28 rfl) Via.refl e1 F_v d8 11 ?_
  intro T2 X2 e2
  refine uI X2 hx hby d11 rfl 12 ?_
  refine oCp X2 hx hby hZ hown (ow hw 94 rfl) (ow hw 95 rfl) (ow hw 97 rfl) (ow hw 96 rfl) (rm_lch2 t kb nn c0 c1 c2 c3 c4 c5 c6 c7 ⟨hw, O0, hS⟩ V_t r2 hk) e2 N1 hml [(.ref t), (.int (2 : Int32))] [] pd_7 d12 15 ?_
  intro T3 L3 X3 e3 N3
  exact oRZ X3 hx hby hret hlk e3 d15 (nar .char c2) ⟨(congrArg (fun z => some (Value.int z)) (own_nar c2 r2)), N3, rfl⟩

theorem rm_ch3 (a t : Addr) (kb : ClassId) (nn c0 c1 c2 c3 c4 c5 c6 c7 : Int32) (H : oH Z a0 n0 h0 wR wI zc vf wB wL wV cV) (E_a : Exa Z h0 a "java/lang/String") (F_c : Fld Z h0 a "java/lang/String" "coder" "B" (.int (0 : Int32))) (F_v : Fld Z h0 a "java/lang/String" "value" "[B" (.ref t)) (V_t : Arv Z h0 t kb .byte nn (oB8 c0 c1 c2 c3 c4 c5 c6 c7) (.int (0 : Int32))) (r3 : oRg c3) (hk : (3 : Int32) < nn) : oPu l Z (⟨"java/lang/String", "charAt", "(I)C"⟩ : MethodName) jdk_42_method_56_code 2 (some .char) (oRm 3 0 0 40) #[(.ref a), (.int (3 : Int32))] h0 n0 (some (.int c3)) := by
  obtain ⟨hw, O0, hS⟩ := H
  refine oBody (plainFor_of_name pn_1) #[oa a, oi (3 : Int32)] (fun _ => by first | (simp [entryFrame, mkF, argsToLocals, Value.category]; done) | rfl) ?_
  intro pG eG sG mG belowG methG cG s₁ hx hby hml hown hnm hret hlk X0 e0 hZ
  have N0 := Fr.nil n0
  have K0 := Keep.refl h0 []
  obtain ⟨d0, d1, d4, d7, d8, d11, d12, d15⟩ := t21
  refine uA X0 hx hby d0 rfl 1 ?_
  refine oVp X0 hx hby hZ hown (ow hw 89 rfl) (ow hw 90 rfl) (ow hw 92 rfl) (ow hw 91 rfl) (ow hw 93 rfl) (ow hw 8 rfl) (rm_lat a ⟨hw, O0, hS⟩ F_c) e0 E_a N0 hml [] [] pd_6 d1 4 ?_
  intro T1 L1 X1 e1 N1
  refine uN X1 hx hby d4 ((if0 _ _).trans (feq (by decide : ¬ ((1 : Int32) = (0 : Int32)))).1) 7 (uA X1 hx hby d7 rfl 8 ?_)
  refine oGf X1 hx hby hZ hown (ow hw 28 rfl) Via.refl e1 F_v d8 11 ?_
  intro T2 X2 e2
  refine uI X2 hx hby d11 rfl 12 ?_
  refine oCp X2 hx hby hZ hown (ow hw 94 rfl) (ow hw 95 rfl) (ow hw 97 rfl) (ow hw 96 rfl) (rm_lch3 t kb nn c0 c1 c2 c3 c4 c5 c6 c7 ⟨hw, O0, hS⟩ V_t r3 hk) e2 N1 hml [(.ref t), (.int (3 : Int32))] [] pd_7 d12 15 ?_
  intro T3 L3 X3 e3 N3
  exact oRZ X3 hx hby hret hlk e3 d15 (nar .char c3) ⟨(congrArg (fun z => some (Value.int z)) (own_nar c3 r3)), N3, rfl⟩

theorem rm_ch4 (a t : Addr) (kb : ClassId) (nn c0 c1 c2 c3 c4 c5 c6 c7 : Int32) (H : oH Z a0 n0 h0 wR wI zc vf wB wL wV cV) (E_a : Exa Z h0 a "java/lang/String") (F_c : Fld Z h0 a "java/lang/String" "coder" "B" (.int (0 : Int32))) (F_v : Fld Z h0 a "java/lang/String" "value" "[B" (.ref t)) (V_t : Arv Z h0 t kb .byte nn (oB8 c0 c1 c2 c3 c4 c5 c6 c7) (.int (0 : Int32))) (r4 : oRg c4) (hk : (4 : Int32) < nn) : oPu l Z (⟨"java/lang/String", "charAt", "(I)C"⟩ : MethodName) jdk_42_method_56_code 2 (some .char) (oRm 3 0 0 40) #[(.ref a), (.int (4 : Int32))] h0 n0 (some (.int c4)) := by
  obtain ⟨hw, O0, hS⟩ := H
  refine oBody (plainFor_of_name pn_1) #[oa a, oi (4 : Int32)] (fun _ => by first | (simp [entryFrame, mkF, argsToLocals, Value.category]; done) | rfl) ?_
  intro pG eG sG mG belowG methG cG s₁ hx hby hml hown hnm hret hlk X0 e0 hZ
  have N0 := Fr.nil n0
  have K0 := Keep.refl h0 []
  obtain ⟨d0, d1, d4, d7, d8, d11, d12, d15⟩ := t21
  refine uA X0 hx hby d0 rfl 1 ?_
  refine oVp X0 hx hby hZ hown (ow hw 89 rfl) (ow hw 90 rfl) (ow hw 92 rfl) (ow hw 91 rfl) (ow hw 93 rfl) (ow hw 8 rfl) (rm_lat a ⟨hw, O0, hS⟩ F_c) e0 E_a N0 hml [] [] pd_6 d1 4 ?_
  intro T1 L1 X1 e1 N1
  refine uN X1 hx hby d4 ((if0 _ _).trans (feq (by decide : ¬ ((1 : Int32) = (0 : Int32)))).1) 7 (uA X1 hx hby d7 rfl 8 ?_)
  refine oGf X1 hx hby hZ hown (ow hw 28 rfl) Via.refl e1 F_v d8 11 ?_
  intro T2 X2 e2
  refine uI X2 hx hby d11 rfl 12 ?_
  refine oCp X2 hx hby hZ hown (ow hw 94 rfl) (ow hw 95 rfl) (ow hw 97 rfl) (ow hw 96 rfl) (rm_lch4 t kb nn c0 c1 c2 c3 c4 c5 c6 c7 ⟨hw, O0, hS⟩ V_t r4 hk) e2 N1 hml [(.ref t), (.int (4 : Int32))] [] pd_7 d12 15 ?_
  intro T3 L3 X3 e3 N3
  exact oRZ X3 hx hby hret hlk e3 d15 (nar .char c4) ⟨(congrArg (fun z => some (Value.int z)) (own_nar c4 r4)), N3, rfl⟩

theorem rm_ch5 (a t : Addr) (kb : ClassId) (nn c0 c1 c2 c3 c4 c5 c6 c7 : Int32) (H : oH Z a0 n0 h0 wR wI zc vf wB wL wV cV) (E_a : Exa Z h0 a "java/lang/String") (F_c : Fld Z h0 a "java/lang/String" "coder" "B" (.int (0 : Int32))) (F_v : Fld Z h0 a "java/lang/String" "value" "[B" (.ref t)) (V_t : Arv Z h0 t kb .byte nn (oB8 c0 c1 c2 c3 c4 c5 c6 c7) (.int (0 : Int32))) (r5 : oRg c5) (hk : (5 : Int32) < nn) : oPu l Z (⟨"java/lang/String", "charAt", "(I)C"⟩ : MethodName) jdk_42_method_56_code 2 (some .char) (oRm 3 0 0 40) #[(.ref a), (.int (5 : Int32))] h0 n0 (some (.int c5)) := by
  obtain ⟨hw, O0, hS⟩ := H
  refine oBody (plainFor_of_name pn_1) #[oa a, oi (5 : Int32)] (fun _ => by first | (simp [entryFrame, mkF, argsToLocals, Value.category]; done) | rfl) ?_
  intro pG eG sG mG belowG methG cG s₁ hx hby hml hown hnm hret hlk X0 e0 hZ
  have N0 := Fr.nil n0
  have K0 := Keep.refl h0 []
  obtain ⟨d0, d1, d4, d7, d8, d11, d12, d15⟩ := t21
  refine uA X0 hx hby d0 rfl 1 ?_
  refine oVp X0 hx hby hZ hown (ow hw 89 rfl) (ow hw 90 rfl) (ow hw 92 rfl) (ow hw 91 rfl) (ow hw 93 rfl) (ow hw 8 rfl) (rm_lat a ⟨hw, O0, hS⟩ F_c) e0 E_a N0 hml [] [] pd_6 d1 4 ?_
  intro T1 L1 X1 e1 N1
  refine uN X1 hx hby d4 ((if0 _ _).trans (feq (by decide : ¬ ((1 : Int32) = (0 : Int32)))).1) 7 (uA X1 hx hby d7 rfl 8 ?_)
  refine oGf X1 hx hby hZ hown (ow hw 28 rfl) Via.refl e1 F_v d8 11 ?_
  intro T2 X2 e2
  refine uI X2 hx hby d11 rfl 12 ?_
  refine oCp X2 hx hby hZ hown (ow hw 94 rfl) (ow hw 95 rfl) (ow hw 97 rfl) (ow hw 96 rfl) (rm_lch5 t kb nn c0 c1 c2 c3 c4 c5 c6 c7 ⟨hw, O0, hS⟩ V_t r5 hk) e2 N1 hml [(.ref t), (.int (5 : Int32))] [] pd_7 d12 15 ?_
  intro T3 L3 X3 e3 N3
  exact oRZ X3 hx hby hret hlk e3 d15 (nar .char c5) ⟨(congrArg (fun z => some (Value.int z)) (own_nar c5 r5)), N3, rfl⟩

theorem rm_ch6 (a t : Addr) (kb : ClassId) (nn c0 c1 c2 c3 c4 c5 c6 c7 : Int32) (H : oH Z a0 n0 h0 wR wI zc vf wB wL wV cV) (E_a : Exa Z h0 a "java/lang/String") (F_c : Fld Z h0 a "java/lang/String" "coder" "B" (.int (0 : Int32))) (F_v : Fld Z h0 a "java/lang/String" "value" "[B" (.ref t)) (V_t : Arv Z h0 t kb .byte nn (oB8 c0 c1 c2 c3 c4 c5 c6 c7) (.int (0 : Int32))) (r6 : oRg c6) (hk : (6 : Int32) < nn) : oPu l Z (⟨"java/lang/String", "charAt", "(I)C"⟩ : MethodName) jdk_42_method_56_code 2 (some .char) (oRm 3 0 0 40) #[(.ref a), (.int (6 : Int32))] h0 n0 (some (.int c6)) := by
  obtain ⟨hw, O0, hS⟩ := H
  refine oBody (plainFor_of_name pn_1) #[oa a, oi (6 : Int32)] (fun _ => by first | (simp [entryFrame, mkF, argsToLocals, Value.category]; done) | rfl) ?_
  intro pG eG sG mG belowG methG cG s₁ hx hby hml hown hnm hret hlk X0 e0 hZ
  have N0 := Fr.nil n0
  have K0 := Keep.refl h0 []
  obtain ⟨d0, d1, d4, d7, d8, d11, d12, d15⟩ := t21
  refine uA X0 hx hby d0 rfl 1 ?_
  refine oVp X0 hx hby hZ hown (ow hw 89 rfl) (ow hw 90 rfl) (ow hw 92 rfl) (ow hw 91 rfl) (ow hw 93 rfl) (ow hw 8 rfl) (rm_lat a ⟨hw, O0, hS⟩ F_c) e0 E_a N0 hml [] [] pd_6 d1 4 ?_
  intro T1 L1 X1 e1 N1
  refine uN X1 hx hby d4 ((if0 _ _).trans (feq (by decide : ¬ ((1 : Int32) = (0 : Int32)))).1) 7 (uA X1 hx hby d7 rfl 8 ?_)
  refine oGf X1 hx hby hZ hown (ow hw 28 rfl) Via.refl e1 F_v d8 11 ?_
  intro T2 X2 e2
  refine uI X2 hx hby d11 rfl 12 ?_
  refine oCp X2 hx hby hZ hown (ow hw 94 rfl) (ow hw 95 rfl) (ow hw 97 rfl) (ow hw 96 rfl) (rm_lch6 t kb nn c0 c1 c2 c3 c4 c5 c6 c7 ⟨hw, O0, hS⟩ V_t r6 hk) e2 N1 hml [(.ref t), (.int (6 : Int32))] [] pd_7 d12 15 ?_
  intro T3 L3 X3 e3 N3
  exact oRZ X3 hx hby hret hlk e3 d15 (nar .char c6) ⟨(congrArg (fun z => some (Value.int z)) (own_nar c6 r6)), N3, rfl⟩

theorem rm_ch7 (a t : Addr) (kb : ClassId) (nn c0 c1 c2 c3 c4 c5 c6 c7 : Int32) (H : oH Z a0 n0 h0 wR wI zc vf wB wL wV cV) (E_a : Exa Z h0 a "java/lang/String") (F_c : Fld Z h0 a "java/lang/String" "coder" "B" (.int (0 : Int32))) (F_v : Fld Z h0 a "java/lang/String" "value" "[B" (.ref t)) (V_t : Arv Z h0 t kb .byte nn (oB8 c0 c1 c2 c3 c4 c5 c6 c7) (.int (0 : Int32))) (r7 : oRg c7) (hk : (7 : Int32) < nn) : oPu l Z (⟨"java/lang/String", "charAt", "(I)C"⟩ : MethodName) jdk_42_method_56_code 2 (some .char) (oRm 3 0 0 40) #[(.ref a), (.int (7 : Int32))] h0 n0 (some (.int c7)) := by
  obtain ⟨hw, O0, hS⟩ := H
  refine oBody (plainFor_of_name pn_1) #[oa a, oi (7 : Int32)] (fun _ => by first | (simp [entryFrame, mkF, argsToLocals, Value.category]; done) | rfl) ?_
  intro pG eG sG mG belowG methG cG s₁ hx hby hml hown hnm hret hlk X0 e0 hZ
  have N0 := Fr.nil n0
  have K0 := Keep.refl h0 []
  obtain ⟨d0, d1, d4, d7, d8, d11, d12, d15⟩ := t21
  refine uA X0 hx hby d0 rfl 1 ?_
  refine oVp X0 hx hby hZ hown (ow hw 89 rfl) (ow hw 90 rfl) (ow hw 92 rfl) (ow hw 91 rfl) (ow hw 93 rfl) (ow hw 8 rfl) (rm_lat a ⟨hw, O0, hS⟩ F_c) e0 E_a N0 hml [] [] pd_6 d1 4 ?_
  intro T1 L1 X1 e1 N1
  refine uN X1 hx hby d4 ((if0 _ _).trans (feq (by decide : ¬ ((1 : Int32) = (0 : Int32)))).1) 7 (uA X1 hx hby d7 rfl 8 ?_)
  refine oGf X1 hx hby hZ hown (ow hw 28 rfl) Via.refl e1 F_v d8 11 ?_
  intro T2 X2 e2
  refine uI X2 hx hby d11 rfl 12 ?_
  refine oCp X2 hx hby hZ hown (ow hw 94 rfl) (ow hw 95 rfl) (ow hw 97 rfl) (ow hw 96 rfl) (rm_lch7 t kb nn c0 c1 c2 c3 c4 c5 c6 c7 ⟨hw, O0, hS⟩ V_t r7 hk) e2 N1 hml [(.ref t), (.int (7 : Int32))] [] pd_7 d12 15 ?_
  intro T3 L3 X3 e3 N3
  exact oRZ X3 hx hby hret hlk e3 d15 (nar .char c7) ⟨(congrArg (fun z => some (Value.int z)) (own_nar c7 r7)), N3, rfl⟩

abbrev K26 (n : Nat) (i : Instr) (k : Nat) : Prop := decode prog_24_method_7_code n = .ok (i, k)
set_option maxRecDepth 65536 in
theorem t26 : K26 0 (.iload_n 0) 1 ∧ K26 1 (.bipush 97) 2 ∧ K26 3 (.if_icmp .lt 9) 3 ∧ K26 6 (.iload_n 0) 1 ∧ K26 7 (.bipush 122) 2 ∧ K26 9 (.if_icmp .le 15) 3 ∧ K26 12 (.iload_n 0) 1 ∧ K26 13 (.bipush 65) 2 ∧ K26 15 (.if_icmp .lt 13) 3 ∧ K26 18 (.iload_n 0) 1 ∧ K26 19 (.bipush 90) 2 ∧ K26 21 (.if_icmp .gt 7) 3 ∧ K26 24 (.iconst 1) 1 ∧ K26 25 (.goto 4) 3 ∧ K26 28 (.iconst 0) 1 ∧ K26 29 .ireturn 1 := by and_intros <;> decide +kernel
theorem rm_ial (c : Int32) (H : oH Z a0 n0 h0 wR wI zc vf wB wL wV cV) : oPu l Z (⟨sU, "isAsciiLetter", "(C)Z"⟩ : MethodName) prog_24_method_7_code 1 (some .boolean) (oRm 0 0 0 0) #[(.int c)] h0 n0 (some (.int (oLet c))) := by
  obtain ⟨hw, O0, hS⟩ := H
  refine oBody (plainFor_of_name pn_4) #[oi c] (fun _ => by first | (simp [entryFrame, mkF, argsToLocals, Value.category]; done) | rfl) ?_
  intro pG eG sG mG belowG methG cG s₁ hx hby hml hown hnm hret hlk X0 e0 hZ
  have N0 := Fr.nil n0
  have K0 := Keep.refl h0 []
  obtain ⟨d0, d1, d3, d6, d7, d9, d12, d13, d15, d18, d19, d21, d24, d25, d28, d29⟩ := t26
  refine uI X0 hx hby d0 rfl 1 (uB X0 hx hby d1 97 3 ?_)
  by_cases hc1 : c < (97 : Int32)
  · refine uYc X0 hx hby d3 (tlt hc1).1 12 (uI X0 hx hby d12 rfl 13 (uB X0 hx hby d13 65 15 ?_))
    by_cases hc2 : c < (65 : Int32)
    · refine uYc X0 hx hby d15 (tlt hc2).1 28 (uC X0 hx hby d28 0 29 ?_)
      exact oRZ X0 hx hby hret hlk e0 d29 (0 : Int32) ⟨(by simp [oLet, hc1, hc2]), N0, rfl⟩
    refine uNc X0 hx hby d15 (flt hc2).1 18 (uI X0 hx hby d18 rfl 19 (uB X0 hx hby d19 90 21 ?_))
    by_cases hc3 : (90 : Int32) < c
    · refine uYc X0 hx hby d21 (tlt hc3).2.2.1 28 (uC X0 hx hby d28 0 29 ?_)
      exact oRZ X0 hx hby hret hlk e0 d29 (0 : Int32) ⟨(by simp [oLet, hc1, hc2, hc3]), N0, rfl⟩
    refine uNc X0 hx hby d21 (flt hc3).2.2.1 24 (uC X0 hx hby d24 1 25 (uG X0 hx hby d25 29 ?_))
    exact oRZ X0 hx hby hret hlk e0 d29 (1 : Int32) ⟨(by simp [oLet, hc1, hc2, hc3]), N0, rfl⟩
  refine uNc X0 hx hby d3 (flt hc1).1 6 (uI X0 hx hby d6 rfl 7 (uB X0 hx hby d7 122 9 ?_))
  by_cases hc4 : (122 : Int32) < c
  · refine uNc X0 hx hby d9 (tlt hc4).2.2.2 12 (uI X0 hx hby d12 rfl 13 (uB X0 hx hby d13 65 15 ?_))
    by_cases hc5 : c < (65 : Int32)
    · refine uYc X0 hx hby d15 (tlt hc5).1 28 (uC X0 hx hby d28 0 29 ?_)
      exact oRZ X0 hx hby hret hlk e0 d29 (0 : Int32) ⟨(by simp [oLet, hc1, hc4, hc5]), N0, rfl⟩
    refine uNc X0 hx hby d15 (flt hc5).1 18 (uI X0 hx hby d18 rfl 19 (uB X0 hx hby d19 90 21 ?_))
    by_cases hc6 : (90 : Int32) < c
    · refine uYc X0 hx hby d21 (tlt hc6).2.2.1 28 (uC X0 hx hby d28 0 29 ?_)
      exact oRZ X0 hx hby hret hlk e0 d29 (0 : Int32) ⟨(by simp [oLet, hc1, hc4, hc5, hc6]), N0, rfl⟩
    refine uNc X0 hx hby d21 (flt hc6).2.2.1 24 (uC X0 hx hby d24 1 25 (uG X0 hx hby d25 29 ?_))
    exact oRZ X0 hx hby hret hlk e0 d29 (1 : Int32) ⟨(by simp [oLet, hc1, hc4, hc5, hc6]), N0, rfl⟩
  refine uYc X0 hx hby d9 (flt hc4).2.2.2 24 (uC X0 hx hby d24 1 25 (uG X0 hx hby d25 29 ?_))
  exact oRZ X0 hx hby hret hlk e0 d29 (1 : Int32) ⟨(by simp [oLet, hc1, hc4]), N0, rfl⟩

abbrev K48 (n : Nat) (i : Instr) (k : Nat) : Prop := decode prog_24_method_6_code n = .ok (i, k)
set_option maxRecDepth 65536 in
theorem t48 : K48 0 (.iload_n 0) 1 ∧ K48 1 (.invokestatic 69) 3 ∧ K48 4 (.ifCond .ne 33) 3 ∧ K48 7 (.iload_n 0) 1 ∧ K48 8 (.bipush 48) 2 ∧ K48 10 (.if_icmp .lt 9) 3 ∧ K48 13 (.iload_n 0) 1 ∧ K48 14 (.bipush 57) 2 ∧ K48 16 (.if_icmp .le 21) 3 ∧ K48 19 (.iload_n 0) 1 ∧ K48 20 (.bipush 43) 2 ∧ K48 22 (.if_icmp .eq 15) 3 ∧ K48 25 (.iload_n 0) 1 ∧ K48 26 (.bipush 45) 2 ∧ K48 28 (.if_icmp .eq 9) 3 ∧ K48 31 (.iload_n 0) 1 ∧ K48 32 (.bipush 46) 2 ∧ K48 34 (.if_icmp .ne 7) 3 ∧ K48 37 (.iconst 1) 1 ∧ K48 38 (.goto 4) 3 ∧ K48 41 (.iconst 0) 1 ∧ K48 42 .ireturn 1 := by and_intros <;> decide +kernel
theorem rm_isc (c : Int32) (H : oH Z a0 n0 h0 wR wI zc vf wB wL wV cV) : oPu l Z (⟨sU, "isSchemeChar", "(C)Z"⟩ : MethodName) prog_24_method_6_code 1 (some .boolean) (oRm 1 0 0 12) #[(.int c)] h0 n0 (some (.int (oSch c))) := by
  obtain ⟨hw, O0, hS⟩ := H
  refine oBody (plainFor_of_name pn_4) #[oi c] (fun _ => by first | (simp [entryFrame, mkF, argsToLocals, Value.category]; done) | rfl) ?_
  intro pG eG sG mG belowG methG cG s₁ hx hby hml hown hnm hret hlk X0 e0 hZ
  have N0 := Fr.nil n0
  have K0 := Keep.refl h0 []
  obtain ⟨d0, d1, d4, d7, d8, d10, d13, d14, d16, d19, d20, d22, d25, d26, d28, d31, d32, d34, d37, d38, d41, d42⟩ := t48
  refine uI X0 hx hby d0 rfl 1 ?_
  refine oCp X0 hx hby hZ hown (ow hw 106 rfl) (ow hw 107 rfl) (ow hw 108 rfl) (ow hw 64 rfl) (rm_ial c ⟨hw, O0, hS⟩ ) e0 N0 hml [(.int c)] [] pd_0 d1 4 ?_
  intro T1 L1 X1 e1 N1
  by_cases hc2 : (oLet c) = (0 : Int32)
  · refine uN X1 hx hby d4 ((if0 _ _).trans (teq hc2).2) 7 (uI X1 hx hby d7 rfl 8 (uB X1 hx hby d8 48 10 ?_))
    by_cases hc3 : c < (48 : Int32)
    · refine uYc X1 hx hby d10 (tlt hc3).1 19 (uI X1 hx hby d19 rfl 20 (uB X1 hx hby d20 43 22 ?_))
      by_cases hc4 : c = (43 : Int32)
      · refine uYc X1 hx hby d22 (teq hc4).1 37 (uC X1 hx hby d37 1 38 (uG X1 hx hby d38 42 ?_))
        exact oRZ X1 hx hby hret hlk e1 d42 (1 : Int32) ⟨(by simp [oSch, hc2, hc3, hc4]), N1, rfl⟩
      refine uNc X1 hx hby d22 (feq hc4).1 25 (uI X1 hx hby d25 rfl 26 (uB X1 hx hby d26 45 28 ?_))
      by_cases hc5 : c = (45 : Int32)
      · refine uYc X1 hx hby d28 (teq hc5).1 37 (uC X1 hx hby d37 1 38 (uG X1 hx hby d38 42 ?_))
        exact oRZ X1 hx hby hret hlk e1 d42 (1 : Int32) ⟨(by simp [oSch, hc2, hc3, hc4, hc5]), N1, rfl⟩
      refine uNc X1 hx hby d28 (feq hc5).1 31 (uI X1 hx hby d31 rfl 32 (uB X1 hx hby d32 46 34 ?_))
      by_cases hc6 : c = (46 : Int32)
      · refine uNc X1 hx hby d34 (teq hc6).2 37 (uC X1 hx hby d37 1 38 (uG X1 hx hby d38 42 ?_))
        exact oRZ X1 hx hby hret hlk e1 d42 (1 : Int32) ⟨(by simp [oSch, hc2, hc3, hc4, hc5, hc6]), N1, rfl⟩
      refine uYc X1 hx hby d34 (feq hc6).2 41 (uC X1 hx hby d41 0 42 ?_)
      exact oRZ X1 hx hby hret hlk e1 d42 (0 : Int32) ⟨(by simp [oSch, hc2, hc3, hc4, hc5, hc6]), N1, rfl⟩
    refine uNc X1 hx hby d10 (flt hc3).1 13 (uI X1 hx hby d13 rfl 14 (uB X1 hx hby d14 57 16 ?_))
    by_cases hc7 : (57 : Int32) < c
    · refine uNc X1 hx hby d16 (tlt hc7).2.2.2 19 (uI X1 hx hby d19 rfl 20 (uB X1 hx hby d20 43 22 ?_))
      by_cases hc8 : c = (43 : Int32)
      · refine uYc X1 hx hby d22 (teq hc8).1 37 (uC X1 hx hby d37 1 38 (uG X1 hx hby d38 42 ?_))
        exact oRZ X1 hx hby hret hlk e1 d42 (1 : Int32) ⟨(by simp [oSch, hc2, hc3, hc7, hc8]), N1, rfl⟩
      refine uNc X1 hx hby d22 (feq hc8).1 25 (uI X1 hx hby d25 rfl 26 (uB X1 hx hby d26 45 28 ?_))
      by_cases hc9 : c = (45 : Int32)
      · refine uYc X1 hx hby d28 (teq hc9).1 37 (uC X1 hx hby d37 1 38 (uG X1 hx hby d38 42 ?_))
        exact oRZ X1 hx hby hret hlk e1 d42 (1 : Int32) ⟨(by simp [oSch, hc2, hc3, hc7, hc8, hc9]), N1, rfl⟩
      refine uNc X1 hx hby d28 (feq hc9).1 31 (uI X1 hx hby d31 rfl 32 (uB X1 hx hby d32 46 34 ?_))
      by_cases hc10 : c = (46 : Int32)
      · refine uNc X1 hx hby d34 (teq hc10).2 37 (uC X1 hx hby d37 1 38 (uG X1 hx hby d38 42 ?_))
        exact oRZ X1 hx hby hret hlk e1 d42 (1 : Int32) ⟨(by simp [oSch, hc2, hc3, hc7, hc8, hc9, hc10]), N1, rfl⟩
      refine uYc X1 hx hby d34 (feq hc10).2 41 (uC X1 hx hby d41 0 42 ?_)
      exact oRZ X1 hx hby hret hlk e1 d42 (0 : Int32) ⟨(by simp [oSch, hc2, hc3, hc7, hc8, hc9, hc10]), N1, rfl⟩
    refine uYc X1 hx hby d16 (flt hc7).2.2.2 37 (uC X1 hx hby d37 1 38 (uG X1 hx hby d38 42 ?_))
    exact oRZ X1 hx hby hret hlk e1 d42 (1 : Int32) ⟨(by simp [oSch, hc2, hc3, hc7]), N1, rfl⟩
  refine uY X1 hx hby d4 ((if0 _ _).trans (feq hc2).2) 37 (uC X1 hx hby d37 1 38 (uG X1 hx hby d38 42 ?_))
  exact oRZ X1 hx hby hret hlk e1 d42 (1 : Int32) ⟨(by simp [oSch, hc2]), N1, rfl⟩

theorem own_n8 {n : Int32} (h : oN8 n) : ¬ (8 : Int32) < n := by rcases h with rfl | rfl | rfl | rfl | rfl | rfl | rfl | rfl <;> decide

abbrev K18 (n : Nat) (i : Instr) (k : Nat) : Prop := decode prog_24_method_5_code n = .ok (i, k)
set_option maxRecDepth 65536 in
theorem t18 : K18 0 (.iload_n 1) 1 ∧ K18 1 (.aload_n 0) 1 ∧ K18 2 (.invokevirtual 61) 3 ∧ K18 5 (.if_icmp .ge 14) 3 ∧ K18 8 (.aload_n 0) 1 ∧ K18 9 (.iload_n 1) 1 ∧ K18 10 (.invokevirtual 65) 3 ∧ K18 13 (.invokestatic 69) 3 ∧ K18 16 (.ifCond .ne 5) 3 ∧ K18 19 (.iconst (-1)) 1 ∧ K18 20 .ireturn 1 ∧ K18 21 (.iload_n 1) 1 ∧ K18 22 (.iconst 1) 1 ∧ K18 23 .iadd 1 ∧ K18 24 (.istore_n 2) 1 ∧ K18 25 (.iload_n 2) 1 ∧ K18 26 (.aload_n 0) 1 ∧ K18 27 (.invokevirtual 61) 3 ∧ K18 30 (.if_icmp .ge 32) 3 ∧ K18 33 (.aload_n 0) 1 ∧ K18 34 (.iload_n 2) 1 ∧ K18 35 (.invokevirtual 65) 3 ∧ K18 38 (.istore_n 3) 1 ∧ K18 39 (.iload_n 3) 1 ∧ K18 40 (.bipush 58) 2 ∧ K18 42 (.if_icmp .ne 5) 3 ∧ K18 45 (.iload_n 2) 1 ∧ K18 46 .ireturn 1 ∧ K18 47 (.iload_n 3) 1 ∧ K18 48 (.invokestatic 73) 3 ∧ K18 51 (.ifCond .ne 5) 3 ∧ K18 54 (.iconst (-1)) 1 ∧ K18 55 .ireturn 1 ∧ K18 56 (.iinc 2 1) 3 ∧ K18 59 (.goto (-34)) 3 ∧ K18 62 (.iconst (-1)) 1 ∧ K18 63 .ireturn 1 := by and_intros <;> decide +kernel
theorem pd_8 : parseMethodDescriptor "()I" = some ⟨[], some .int⟩ := by decide +kernel
theorem pd_9 : parseMethodDescriptor "(I)C" = some ⟨[.int], some .char⟩ := by decide +kernel
set_option maxHeartbeats 40000000 in
theorem rm_se0 (a t : Addr) (kb : ClassId) (nn c0 c1 c2 c3 c4 c5 c6 c7 : Int32) (H : oH Z a0 n0 h0 wR wI zc vf wB wL wV cV) (E_a : Exa Z h0 a "java/lang/String") (F_c : Fld Z h0 a "java/lang/String" "coder" "B" (.int (0 : Int32))) (F_v : Fld Z h0 a "java/lang/String" "value" "[B" (.ref t)) (V_t : Arv Z h0 t kb .byte nn (oB8 c0 c1 c2 c3 c4 c5 c6 c7) (.int (0 : Int32))) (r0 : oRg c0) (r1 : oRg c1) (r2 : oRg c2) (r3 : oRg c3) (r4 : oRg c4) (r5 : oRg c5) (r6 : oRg c6) (r7 : oRg c7) (hn : oN8 nn) : oPu l Z (⟨sU, "schemeEnd", "(Ljava/lang/String;I)I"⟩ : MethodName) prog_24_method_5_code 4 (some .int) (oRm 4 0 0 53) #[(.ref a), (.int (0 : Int32))] h0 n0 (some (.int (oSE (0 : Int32) nn c0 [((1 : Int32), c1), ((2 : Int32), c2), ((3 : Int32), c3), ((4 : Int32), c4), ((5 : Int32), c5), ((6 : Int32), c6), ((7 : Int32), c7)]))) := by
  obtain ⟨hw, O0, hS⟩ := H
  refine oBody (plainFor_of_name pn_4) #[oa a, oi (0 : Int32), .unset, .unset] (fun _ => by first | (simp [entryFrame, mkF, argsToLocals, Value.category]; done) | rfl) ?_
  intro pG eG sG mG belowG methG cG s₁ hx hby hml hown hnm hret hlk X0 e0 hZ
  have N0 := Fr.nil n0
  have K0 := Keep.refl h0 []
  obtain ⟨d0, d1, d2, d5, d8, d9, d10, d13, d16, d19, d20, d21, d22, d23, d24, d25, d26, d27, d30, d33, d34, d35, d38, d39, d40, d42, d45, d46, d47, d48, d51, d54, d55, d56, d59, d62, d63⟩ := t18
  refine uI X0 hx hby d0 rfl 1 (uA X0 hx hby d1 rfl 2 ?_)
  refine oVp X0 hx hby hZ hown (ow hw 74 rfl) (ow hw 75 rfl) (ow hw 77 rfl) (ow hw 76 rfl) (ow hw 78 rfl) (ow hw 8 rfl) (rm_len a t kb nn ((oB8 c0 c1 c2 c3 c4 c5 c6 c7)) ⟨hw, O0, hS⟩ E_a F_c F_v V_t) e0 E_a N0 hml [] [(.int (0 : Int32))] pd_8 d2 5 ?_
  intro T1 L1 X1 e1 N1
  by_cases hc2 : (0 : Int32) < nn
  · refine uNc X1 hx hby d5 (tlt hc2).2.1 8 (uA X1 hx hby d8 rfl 9 (uI X1 hx hby d9 rfl 10 ?_))
    refine oVp X1 hx hby hZ hown (ow hw 84 rfl) (ow hw 85 rfl) (ow hw 87 rfl) (ow hw 86 rfl) (ow hw 88 rfl) (ow hw 8 rfl) (rm_ch0 a t kb nn c0 c1 c2 c3 c4 c5 c6 c7 ⟨hw, O0, hS⟩ E_a F_c F_v V_t r0 hc2) e1 E_a N1 hml [(.int (0 : Int32))] [] pd_9 d10 13 ?_
    intro T3 L3 X3 e3 N3
    refine oCp X3 hx hby hZ hown (ow hw 106 rfl) (ow hw 107 rfl) (ow hw 108 rfl) (ow hw 64 rfl) (rm_ial c0 ⟨hw, O0, hS⟩ ) e3 N3 hml [(.int c0)] [] pd_0 d13 16 ?_
    intro T4 L4 X4 e4 N4
    by_cases hc5 : (oLet c0) = (0 : Int32)
    · refine uN X4 hx hby d16 ((if0 _ _).trans (teq hc5).2) 19 (uC X4 hx hby d19 (-1) 20 ?_)
      exact oRI X4 hx hby hret hlk e4 d20 ⟨(by simp [oSE, oScan, hc2, hc5]), N4, rfl⟩
    refine uY X4 hx hby d16 ((if0 _ _).trans (feq hc5).2) 21 (uI X4 hx hby d21 rfl 22 (uC X4 hx hby d22 1 23 ?_))
    refine ob T4 (mkF mG 24 #[oa a, oi (0 : Int32), .unset, .unset] [(.int (1 : Int32))]) (fun _ kk => XS.iadd X4.here hx rfl (hb hby d23) rfl kk) ?_
    refine uT X4 hx hby d24 #[oa a, oi (0 : Int32), oi (1 : Int32), .unset] 25 (uI X4 hx hby d25 rfl 26 (uA X4 hx hby d26 rfl 27 ?_))
    refine oVp X4 hx hby hZ hown (ow hw 74 rfl) (ow hw 75 rfl) (ow hw 77 rfl) (ow hw 76 rfl) (ow hw 78 rfl) (ow hw 8 rfl) (rm_len a t kb nn ((oB8 c0 c1 c2 c3 c4 c5 c6 c7)) ⟨hw, O0, hS⟩ E_a F_c F_v V_t) e4 E_a N4 hml [] [(.int (1 : Int32))] pd_8 d27 30 ?_
    intro T6 L6 X6 e6 N6
    by_cases hc7 : (1 : Int32) < nn
    · refine uNc X6 hx hby d30 (tlt hc7).2.1 33 (uA X6 hx hby d33 rfl 34 (uI X6 hx hby d34 rfl 35 ?_))
      refine oVp X6 hx hby hZ hown (ow hw 84 rfl) (ow hw 85 rfl) (ow hw 87 rfl) (ow hw 86 rfl) (ow hw 88 rfl) (ow hw 8 rfl) (rm_ch1 a t kb nn c0 c1 c2 c3 c4 c5 c6 c7 ⟨hw, O0, hS⟩ E_a F_c F_v V_t r1 hc7) e6 E_a N6 hml [(.int (1 : Int32))] [] pd_9 d35 38 ?_
      intro T8 L8 X8 e8 N8
      refine uT X8 hx hby d38 #[oa a, oi (0 : Int32), oi (1 : Int32), oi c1] 39 (uI X8 hx hby d39 rfl 40 (uB X8 hx hby d40 58 42 ?_))
      by_cases hc9 : c1 = (58 : Int32)
      · refine uNc X8 hx hby d42 (teq hc9).2 45 (uI X8 hx hby d45 rfl 46 ?_)
        exact oRI X8 hx hby hret hlk e8 d46 ⟨(by simp [oSE, oScan, hc2, hc5, hc7, hc9]), N8, rfl⟩
      refine uYc X8 hx hby d42 (feq hc9).2 47 (uI X8 hx hby d47 rfl 48 ?_)
      refine oCp X8 hx hby hZ hown (ow hw 221 rfl) (ow hw 222 rfl) (ow hw 223 rfl) (ow hw 64 rfl) (rm_isc c1 ⟨hw, O0, hS⟩ ) e8 N8 hml [(.int c1)] [] pd_0 d48 51 ?_
      intro T10 L10 X10 e10 N10
      by_cases hc11 : (oSch c1) = (0 : Int32)
      · refine uN X10 hx hby d51 ((if0 _ _).trans (teq hc11).2) 54 (uC X10 hx hby d54 (-1) 55 ?_)
        exact oRI X10 hx hby hret hlk e10 d55 ⟨(by simp [oSE, oScan, hc2, hc5, hc7, hc9, hc11]), N10, rfl⟩
      refine uY X10 hx hby d51 ((if0 _ _).trans (feq hc11).2) 56 (uInc X10 hx hby d56 rfl #[oa a, oi (0 : Int32), oi (2 : Int32), oi c1] 59 (uG X10 hx hby d59 25 (uI X10 hx hby d25 rfl 26 (uA X10 hx hby d26 rfl 27 ?_))))
      refine oVp X10 hx hby hZ hown (ow hw 74 rfl) (ow hw 75 rfl) (ow hw 77 rfl) (ow hw 76 rfl) (ow hw 78 rfl) (ow hw 8 rfl) (rm_len a t kb nn ((oB8 c0 c1 c2 c3 c4 c5 c6 c7)) ⟨hw, O0, hS⟩ E_a F_c F_v V_t) e10 E_a N10 hml [] [(.int (2 : Int32))] pd_8 d27 30 ?_
      intro T12 L12 X12 e12 N12
      by_cases hc13 : (2 : Int32) < nn
      · refine uNc X12 hx hby d30 (tlt hc13).2.1 33 (uA X12 hx hby d33 rfl 34 (uI X12 hx hby d34 rfl 35 ?_))
        refine oVp X12 hx hby hZ hown (ow hw 84 rfl) (ow hw 85 rfl) (ow hw 87 rfl) (ow hw 86 rfl) (ow hw 88 rfl) (ow hw 8 rfl) (rm_ch2 a t kb nn c0 c1 c2 c3 c4 c5 c6 c7 ⟨hw, O0, hS⟩ E_a F_c F_v V_t r2 hc13) e12 E_a N12 hml [(.int (2 : Int32))] [] pd_9 d35 38 ?_
        intro T14 L14 X14 e14 N14
        refine uT X14 hx hby d38 #[oa a, oi (0 : Int32), oi (2 : Int32), oi c2] 39 (uI X14 hx hby d39 rfl 40 (uB X14 hx hby d40 58 42 ?_))
        by_cases hc15 : c2 = (58 : Int32)
        · refine uNc X14 hx hby d42 (teq hc15).2 45 (uI X14 hx hby d45 rfl 46 ?_)
          exact oRI X14 hx hby hret hlk e14 d46 ⟨(by simp [oSE, oScan, hc2, hc5, hc7, hc9, hc11, hc13, hc15]), N14, rfl⟩
        refine uYc X14 hx hby d42 (feq hc15).2 47 (uI X14 hx hby d47 rfl 48 ?_)
        refine oCp X14 hx hby hZ hown (ow hw 221 rfl) (ow hw 222 rfl) (ow hw 223 rfl) (ow hw 64 rfl) (rm_isc c2 ⟨hw, O0, hS⟩ ) e14 N14 hml [(.int c2)] [] pd_0 d48 51 ?_
        intro T16 L16 X16 e16 N16
        by_cases hc17 : (oSch c2) = (0 : Int32)
        · refine uN X16 hx hby d51 ((if0 _ _).trans (teq hc17).2) 54 (uC X16 hx hby d54 (-1) 55 ?_)
          exact oRI X16 hx hby hret hlk e16 d55 ⟨(by simp [oSE, oScan, hc2, hc5, hc7, hc9, hc11, hc13, hc15, hc17]), N16, rfl⟩
        refine uY X16 hx hby d51 ((if0 _ _).trans (feq hc17).2) 56 (uInc X16 hx hby d56 rfl #[oa a, oi (0 : Int32), oi (3 : Int32), oi c2] 59 (uG X16 hx hby d59 25 (uI X16 hx hby d25 rfl 26 (uA X16 hx hby d26 rfl 27 ?_))))
        refine oVp X16 hx hby hZ hown (ow hw 74 rfl) (ow hw 75 rfl) (ow hw 77 rfl) (ow hw 76 rfl) (ow hw 78 rfl) (ow hw 8 rfl) (rm_len a t kb nn ((oB8 c0 c1 c2 c3 c4 c5 c6 c7)) ⟨hw, O0, hS⟩ E_a F_c F_v V_t) e16 E_a N16 hml [] [(.int (3 : Int32))] pd_8 d27 30 ?_
        intro T18 L18 X18 e18 N18
        by_cases hc19 : (3 : Int32) < nn
        · refine uNc X18 hx hby d30 (tlt hc19).2.1 33 (uA X18 hx hby d33 rfl 34 (uI X18 hx hby d34 rfl 35 ?_))
          refine oVp X18 hx hby hZ hown (ow hw 84 rfl) (ow hw 85 rfl) (ow hw 87 rfl) (ow hw 86 rfl) (ow hw 88 rfl) (ow hw 8 rfl) (rm_ch3 a t kb nn c0 c1 c2 c3 c4 c5 c6 c7 ⟨hw, O0, hS⟩ E_a F_c F_v V_t r3 hc19) e18 E_a N18 hml [(.int (3 : Int32))] [] pd_9 d35 38 ?_
          intro T20 L20 X20 e20 N20
          refine uT X20 hx hby d38 #[oa a, oi (0 : Int32), oi (3 : Int32), oi c3] 39 (uI X20 hx hby d39 rfl 40 (uB X20 hx hby d40 58 42 ?_))
          by_cases hc21 : c3 = (58 : Int32)
          · refine uNc X20 hx hby d42 (teq hc21).2 45 (uI X20 hx hby d45 rfl 46 ?_)
            exact oRI X20 hx hby hret hlk e20 d46 ⟨(by simp [oSE, oScan, hc2, hc5, hc7, hc9, hc11, hc13, hc15, hc17, hc19, hc21]), N20, rfl⟩
          refine uYc X20 hx hby d42 (feq hc21).2 47 (uI X20 hx hby d47 rfl 48 ?_)
          refine oCp X20 hx hby hZ hown (ow hw 221 rfl) (ow hw 222 rfl) (ow hw 223 rfl) (ow hw 64 rfl) (rm_isc c3 ⟨hw, O0, hS⟩ ) e20 N20 hml [(.int c3)] [] pd_0 d48 51 ?_
          intro T22 L22 X22 e22 N22
          by_cases hc23 : (oSch c3) = (0 : Int32)
          · refine uN X22 hx hby d51 ((if0 _ _).trans (teq hc23).2) 54 (uC X22 hx hby d54 (-1) 55 ?_)
            exact oRI X22 hx hby hret hlk e22 d55 ⟨(by simp [oSE, oScan, hc2, hc5, hc7, hc9, hc11, hc13, hc15, hc17, hc19, hc21, hc23]), N22, rfl⟩
          refine uY X22 hx hby d51 ((if0 _ _).trans (feq hc23).2) 56 (uInc X22 hx hby d56 rfl #[oa a, oi (0 : Int32), oi (4 : Int32), oi c3] 59 (uG X22 hx hby d59 25 (uI X22 hx hby d25 rfl 26 (uA X22 hx hby d26 rfl 27 ?_))))
          refine oVp X22 hx hby hZ hown (ow hw 74 rfl) (ow hw 75 rfl) (ow hw 77 rfl) (ow hw 76 rfl) (ow hw 78 rfl) (ow hw 8 rfl) (rm_len a t kb nn ((oB8 c0 c1 c2 c3 c4 c5 c6 c7)) ⟨hw, O0, hS⟩ E_a F_c F_v V_t) e22 E_a N22 hml [] [(.int (4 : Int32))] pd_8 d27 30 ?_
          intro T24 L24 X24 e24 N24
          by_cases hc25 : (4 : Int32) < nn
          · refine uNc X24 hx hby d30 (tlt hc25).2.1 33 (uA X24 hx hby d33 rfl 34 (uI X24 hx hby d34 rfl 35 ?_))
            refine oVp X24 hx hby hZ hown (ow hw 84 rfl) (ow hw 85 rfl) (ow hw 87 rfl) (ow hw 86 rfl) (ow hw 88 rfl) (ow hw 8 rfl) (rm_ch4 a t kb nn c0 c1 c2 c3 c4 c5 c6 c7 ⟨hw, O0, hS⟩ E_a F_c F_v V_t r4 hc25) e24 E_a N24 hml [(.int (4 : Int32))] [] pd_9 d35 38 ?_
            intro T26 L26 X26 e26 N26
            refine uT X26 hx hby d38 #[oa a, oi (0 : Int32), oi (4 : Int32), oi c4] 39 (uI X26 hx hby d39 rfl 40 (uB X26 hx hby d40 58 42 ?_))
            by_cases hc27 : c4 = (58 : Int32)
            · refine uNc X26 hx hby d42 (teq hc27).2 45 (uI X26 hx hby d45 rfl 46 ?_)
              exact oRI X26 hx hby hret hlk e26 d46 ⟨(by simp [oSE, oScan, hc2, hc5, hc7, hc9, hc11, hc13, hc15, hc17, hc19, hc21, hc23, hc25, hc27]), N26, rfl⟩
            refine uYc X26 hx hby d42 (feq hc27).2 47 (uI X26 hx hby d47 rfl 48 ?_)
            refine oCp X26 hx hby hZ hown (ow hw 221 rfl) (ow hw 222 rfl) (ow hw 223 rfl) (ow hw 64 rfl) (rm_isc c4 ⟨hw, O0, hS⟩ ) e26 N26 hml [(.int c4)] [] pd_0 d48 51 ?_
            intro T28 L28 X28 e28 N28
            by_cases hc29 : (oSch c4) = (0 : Int32)
            · refine uN X28 hx hby d51 ((if0 _ _).trans (teq hc29).2) 54 (uC X28 hx hby d54 (-1) 55 ?_)
              exact oRI X28 hx hby hret hlk e28 d55 ⟨(by simp [oSE, oScan, hc2, hc5, hc7, hc9, hc11, hc13, hc15, hc17, hc19, hc21, hc23, hc25, hc27, hc29]), N28, rfl⟩
            refine uY X28 hx hby d51 ((if0 _ _).trans (feq hc29).2) 56 (uInc X28 hx hby d56 rfl #[oa a, oi (0 : Int32), oi (5 : Int32), oi c4] 59 (uG X28 hx hby d59 25 (uI X28 hx hby d25 rfl 26 (uA X28 hx hby d26 rfl 27 ?_))))
            refine oVp X28 hx hby hZ hown (ow hw 74 rfl) (ow hw 75 rfl) (ow hw 77 rfl) (ow hw 76 rfl) (ow hw 78 rfl) (ow hw 8 rfl) (rm_len a t kb nn ((oB8 c0 c1 c2 c3 c4 c5 c6 c7)) ⟨hw, O0, hS⟩ E_a F_c F_v V_t) e28 E_a N28 hml [] [(.int (5 : Int32))] pd_8 d27 30 ?_
            intro T30 L30 X30 e30 N30
            by_cases hc31 : (5 : Int32) < nn
            · refine uNc X30 hx hby d30 (tlt hc31).2.1 33 (uA X30 hx hby d33 rfl 34 (uI X30 hx hby d34 rfl 35 ?_))
              refine oVp X30 hx hby hZ hown (ow hw 84 rfl) (ow hw 85 rfl) (ow hw 87 rfl) (ow hw 86 rfl) (ow hw 88 rfl) (ow hw 8 rfl) (rm_ch5 a t kb nn c0 c1 c2 c3 c4 c5 c6 c7 ⟨hw, O0, hS⟩ E_a F_c F_v V_t r5 hc31) e30 E_a N30 hml [(.int (5 : Int32))] [] pd_9 d35 38 ?_
              intro T32 L32 X32 e32 N32
              refine uT X32 hx hby d38 #[oa a, oi (0 : Int32), oi (5 : Int32), oi c5] 39 (uI X32 hx hby d39 rfl 40 (uB X32 hx hby d40 58 42 ?_))
              by_cases hc33 : c5 = (58 : Int32)
              · refine uNc X32 hx hby d42 (teq hc33).2 45 (uI X32 hx hby d45 rfl 46 ?_)
                exact oRI X32 hx hby hret hlk e32 d46 ⟨(by simp [oSE, oScan, hc2, hc5, hc7, hc9, hc11, hc13, hc15, hc17, hc19, hc21, hc23, hc25, hc27, hc29, hc31, hc33]), N32, rfl⟩
              refine uYc X32 hx hby d42 (feq hc33).2 47 (uI X32 hx hby d47 rfl 48 ?_)
              refine oCp X32 hx hby hZ hown (ow hw 221 rfl) (ow hw 222 rfl) (ow hw 223 rfl) (ow hw 64 rfl) (rm_isc c5 ⟨hw, O0, hS⟩ ) e32 N32 hml [(.int c5)] [] pd_0 d48 51 ?_
              intro T34 L34 X34 e34 N34
              by_cases hc35 : (oSch c5) = (0 : Int32)
              · refine uN X34 hx hby d51 ((if0 _ _).trans (teq hc35).2) 54 (uC X34 hx hby d54 (-1) 55 ?_)
                exact oRI X34 hx hby hret hlk e34 d55 ⟨(by simp [oSE, oScan, hc2, hc5, hc7, hc9, hc11, hc13, hc15, hc17, hc19, hc21, hc23, hc25, hc27, hc29, hc31, hc33, hc35]), N34, rfl⟩
              refine uY X34 hx hby d51 ((if0 _ _).trans (feq hc35).2) 56 (uInc X34 hx hby d56 rfl #[oa a, oi (0 : Int32), oi (6 : Int32), oi c5] 59 (uG X34 hx hby d59 25 (uI X34 hx hby d25 rfl 26 (uA X34 hx hby d26 rfl 27 ?_))))
              refine oVp X34 hx hby hZ hown (ow hw 74 rfl) (ow hw 75 rfl) (ow hw 77 rfl) (ow hw 76 rfl) (ow hw 78 rfl) (ow hw 8 rfl) (rm_len a t kb nn ((oB8 c0 c1 c2 c3 c4 c5 c6 c7)) ⟨hw, O0, hS⟩ E_a F_c F_v V_t) e34 E_a N34 hml [] [(.int (6 : Int32))] pd_8 d27 30 ?_
              intro T36 L36 X36 e36 N36
              by_cases hc37 : (6 : Int32) < nn
              · refine uNc X36 hx hby d30 (tlt hc37).2.1 33 (uA X36 hx hby d33 rfl 34 (uI X36 hx hby d34 rfl 35 ?_))
                refine oVp X36 hx hby hZ hown (ow hw 84 rfl) (ow hw 85 rfl) (ow hw 87 rfl) (ow hw 86 rfl) (ow hw 88 rfl) (ow hw 8 rfl) (rm_ch6 a t kb nn c0 c1 c2 c3 c4 c5 c6 c7 ⟨hw, O0, hS⟩ E_a F_c F_v V_t r6 hc37) e36 E_a N36 hml [(.int (6 : Int32))] [] pd_9 d35 38 ?_
                intro T38 L38 X38 e38 N38
                refine uT X38 hx hby d38 #[oa a, oi (0 : Int32), oi (6 : Int32), oi c6] 39 (uI X38 hx hby d39 rfl 40 (uB X38 hx hby d40 58 42 ?_))
                by_cases hc39 : c6 = (58 : Int32)
                · refine uNc X38 hx hby d42 (teq hc39).2 45 (uI X38 hx hby d45 rfl 46 ?_)
                  exact oRI X38 hx hby hret hlk e38 d46 ⟨(by simp [oSE, oScan, hc2, hc5, hc7, hc9, hc11, hc13, hc15, hc17, hc19, hc21, hc23, hc25, hc27, hc29, hc31, hc33, hc35, hc37, hc39]), N38, rfl⟩
                refine uYc X38 hx hby d42 (feq hc39).2 47 (uI X38 hx hby d47 rfl 48 ?_)
                refine oCp X38 hx hby hZ hown (ow hw 221 rfl) (ow hw 222 rfl) (ow hw 223 rfl) (ow hw 64 rfl) (rm_isc c6 ⟨hw, O0, hS⟩ ) e38 N38 hml [(.int c6)] [] pd_0 d48 51 ?_
                intro T40 L40 X40 e40 N40
                by_cases hc41 : (oSch c6) = (0 : Int32)
                · refine uN X40 hx hby d51 ((if0 _ _).trans (teq hc41).2) 54 (uC X40 hx hby d54 (-1) 55 ?_)
                  exact oRI X40 hx hby hret hlk e40 d55 ⟨(by simp [oSE, oScan, hc2, hc5, hc7, hc9, hc11, hc13, hc15, hc17, hc19, hc21, hc23, hc25, hc27, hc29, hc31, hc33, hc35, hc37, hc39, hc41]), N40, rfl⟩
                refine uY X40 hx hby d51 ((if0 _ _).trans (feq hc41).2) 56 (uInc X40 hx hby d56 rfl #[oa a, oi (0 : Int32), oi (7 : Int32), oi c6] 59 (uG X40 hx hby d59 25 (uI X40 hx hby d25 rfl 26 (uA X40 hx hby d26 rfl 27 ?_))))
                refine oVp X40 hx hby hZ hown (ow hw 74 rfl) (ow hw 75 rfl) (ow hw 77 rfl) (ow hw 76 rfl) (ow hw 78 rfl) (ow hw 8 rfl) (rm_len a t kb nn ((oB8 c0 c1 c2 c3 c4 c5 c6 c7)) ⟨hw, O0, hS⟩ E_a F_c F_v V_t) e40 E_a N40 hml [] [(.int (7 : Int32))] pd_8 d27 30 ?_
                intro T42 L42 X42 e42 N42
                by_cases hc43 : (7 : Int32) < nn
                · refine uNc X42 hx hby d30 (tlt hc43).2.1 33 (uA X42 hx hby d33 rfl 34 (uI X42 hx hby d34 rfl 35 ?_))
                  refine oVp X42 hx hby hZ hown (ow hw 84 rfl) (ow hw 85 rfl) (ow hw 87 rfl) (ow hw 86 rfl) (ow hw 88 rfl) (ow hw 8 rfl) (rm_ch7 a t kb nn c0 c1 c2 c3 c4 c5 c6 c7 ⟨hw, O0, hS⟩ E_a F_c F_v V_t r7 hc43) e42 E_a N42 hml [(.int (7 : Int32))] [] pd_9 d35 38 ?_
                  intro T44 L44 X44 e44 N44
                  refine uT X44 hx hby d38 #[oa a, oi (0 : Int32), oi (7 : Int32), oi c7] 39 (uI X44 hx hby d39 rfl 40 (uB X44 hx hby d40 58 42 ?_))
                  by_cases hc45 : c7 = (58 : Int32)
                  · refine uNc X44 hx hby d42 (teq hc45).2 45 (uI X44 hx hby d45 rfl 46 ?_)
                    exact oRI X44 hx hby hret hlk e44 d46 ⟨(by simp [oSE, oScan, hc2, hc5, hc7, hc9, hc11, hc13, hc15, hc17, hc19, hc21, hc23, hc25, hc27, hc29, hc31, hc33, hc35, hc37, hc39, hc41, hc43, hc45]), N44, rfl⟩
                  refine uYc X44 hx hby d42 (feq hc45).2 47 (uI X44 hx hby d47 rfl 48 ?_)
                  refine oCp X44 hx hby hZ hown (ow hw 221 rfl) (ow hw 222 rfl) (ow hw 223 rfl) (ow hw 64 rfl) (rm_isc c7 ⟨hw, O0, hS⟩ ) e44 N44 hml [(.int c7)] [] pd_0 d48 51 ?_
                  intro T46 L46 X46 e46 N46
                  by_cases hc47 : (oSch c7) = (0 : Int32)
                  · refine uN X46 hx hby d51 ((if0 _ _).trans (teq hc47).2) 54 (uC X46 hx hby d54 (-1) 55 ?_)
                    exact oRI X46 hx hby hret hlk e46 d55 ⟨(by simp [oSE, oScan, hc2, hc5, hc7, hc9, hc11, hc13, hc15, hc17, hc19, hc21, hc23, hc25, hc27, hc29, hc31, hc33, hc35, hc37, hc39, hc41, hc43, hc45, hc47]), N46, rfl⟩
                  refine uY X46 hx hby d51 ((if0 _ _).trans (feq hc47).2) 56 (uInc X46 hx hby d56 rfl #[oa a, oi (0 : Int32), oi (8 : Int32), oi c7] 59 (uG X46 hx hby d59 25 (uI X46 hx hby d25 rfl 26 (uA X46 hx hby d26 rfl 27 ?_))))
                  refine oVp X46 hx hby hZ hown (ow hw 74 rfl) (ow hw 75 rfl) (ow hw 77 rfl) (ow hw 76 rfl) (ow hw 78 rfl) (ow hw 8 rfl) (rm_len a t kb nn ((oB8 c0 c1 c2 c3 c4 c5 c6 c7)) ⟨hw, O0, hS⟩ E_a F_c F_v V_t) e46 E_a N46 hml [] [(.int (8 : Int32))] pd_8 d27 30 ?_
                  intro T48 L48 X48 e48 N48
                  refine uYc X48 hx hby d30 (flt (own_n8 hn)).2.1 62 (uC X48 hx hby d62 (-1) 63 ?_)
                  exact oRI X48 hx hby hret hlk e48 d63 ⟨(by simp [oSE, oScan, hc2, hc5, hc7, hc9, hc11, hc13, hc15, hc17, hc19, hc21, hc23, hc25, hc27, hc29, hc31, hc33, hc35, hc37, hc39, hc41, hc43, hc45, hc47]), N48, rfl⟩
                refine uYc X42 hx hby d30 (flt hc43).2.1 62 (uC X42 hx hby d62 (-1) 63 ?_)
                exact oRI X42 hx hby hret hlk e42 d63 ⟨(by simp [oSE, oScan, hc2, hc5, hc7, hc9, hc11, hc13, hc15, hc17, hc19, hc21, hc23, hc25, hc27, hc29, hc31, hc33, hc35, hc37, hc39, hc41, hc43]), N42, rfl⟩
              refine uYc X36 hx hby d30 (flt hc37).2.1 62 (uC X36 hx hby d62 (-1) 63 ?_)
              exact oRI X36 hx hby hret hlk e36 d63 ⟨(by simp [oSE, oScan, hc2, hc5, hc7, hc9, hc11, hc13, hc15, hc17, hc19, hc21, hc23, hc25, hc27, hc29, hc31, hc33, hc35, hc37]), N36, rfl⟩
            refine uYc X30 hx hby d30 (flt hc31).2.1 62 (uC X30 hx hby d62 (-1) 63 ?_)
            exact oRI X30 hx hby hret hlk e30 d63 ⟨(by simp [oSE, oScan, hc2, hc5, hc7, hc9, hc11, hc13, hc15, hc17, hc19, hc21, hc23, hc25, hc27, hc29, hc31]), N30, rfl⟩
          refine uYc X24 hx hby d30 (flt hc25).2.1 62 (uC X24 hx hby d62 (-1) 63 ?_)
          exact oRI X24 hx hby hret hlk e24 d63 ⟨(by simp [oSE, oScan, hc2, hc5, hc7, hc9, hc11, hc13, hc15, hc17, hc19, hc21, hc23, hc25]), N24, rfl⟩
        refine uYc X18 hx hby d30 (flt hc19).2.1 62 (uC X18 hx hby d62 (-1) 63 ?_)
        exact oRI X18 hx hby hret hlk e18 d63 ⟨(by simp [oSE, oScan, hc2, hc5, hc7, hc9, hc11, hc13, hc15, hc17, hc19]), N18, rfl⟩
      refine uYc X12 hx hby d30 (flt hc13).2.1 62 (uC X12 hx hby d62 (-1) 63 ?_)
      exact oRI X12 hx hby hret hlk e12 d63 ⟨(by simp [oSE, oScan, hc2, hc5, hc7, hc9, hc11, hc13]), N12, rfl⟩
    refine uYc X6 hx hby d30 (flt hc7).2.1 62 (uC X6 hx hby d62 (-1) 63 ?_)
    exact oRI X6 hx hby hret hlk e6 d63 ⟨(by simp [oSE, oScan, hc2, hc5, hc7]), N6, rfl⟩
  refine uYc X1 hx hby d5 (flt hc2).2.1 19 (uC X1 hx hby d19 (-1) 20 ?_)
  exact oRI X1 hx hby hret hlk e1 d20 ⟨(by simp [oSE, oScan, hc2]), N1, rfl⟩

theorem rm_se5 (a t : Addr) (kb : ClassId) (nn c0 c1 c2 c3 c4 c5 c6 c7 : Int32) (H : oH Z a0 n0 h0 wR wI zc vf wB wL wV cV) (E_a : Exa Z h0 a "java/lang/String") (F_c : Fld Z h0 a "java/lang/String" "coder" "B" (.int (0 : Int32))) (F_v : Fld Z h0 a "java/lang/String" "value" "[B" (.ref t)) (V_t : Arv Z h0 t kb .byte nn (oB8 c0 c1 c2 c3 c4 c5 c6 c7) (.int (0 : Int32))) (r0 : oRg c0) (r1 : oRg c1) (r2 : oRg c2) (r3 : oRg c3) (r4 : oRg c4) (r5 : oRg c5) (r6 : oRg c6) (r7 : oRg c7) (hn : oN8 nn) : oPu l Z (⟨sU, "schemeEnd", "(Ljava/lang/String;I)I"⟩ : MethodName) prog_24_method_5_code 4 (some .int) (oRm 4 0 0 53) #[(.ref a), (.int (5 : Int32))] h0 n0 (some (.int (oSE (5 : Int32) nn c5 [((6 : Int32), c6), ((7 : Int32), c7)]))) := by
  obtain ⟨hw, O0, hS⟩ := H
  refine oBody (plainFor_of_name pn_4) #[oa a, oi (5 : Int32), .unset, .unset] (fun _ => by first | (simp [entryFrame, mkF, argsToLocals, Value.category]; done) | rfl) ?_
  intro pG eG sG mG belowG methG cG s₁ hx hby hml hown hnm hret hlk X0 e0 hZ
  have N0 := Fr.nil n0
  have K0 := Keep.refl h0 []
  obtain ⟨d0, d1, d2, d5, d8, d9, d10, d13, d16, d19, d20, d21, d22, d23, d24, d25, d26, d27, d30, d33, d34, d35, d38, d39, d40, d42, d45, d46, d47, d48, d51, d54, d55, d56, d59, d62, d63⟩ := t18
  refine uI X0 hx hby d0 rfl 1 (uA X0 hx hby d1 rfl 2 ?_)
  refine oVp X0 hx hby hZ hown (ow hw 74 rfl) (ow hw 75 rfl) (ow hw 77 rfl) (ow hw 76 rfl) (ow hw 78 rfl) (ow hw 8 rfl) (rm_len a t kb nn ((oB8 c0 c1 c2 c3 c4 c5 c6 c7)) ⟨hw, O0, hS⟩ E_a F_c F_v V_t) e0 E_a N0 hml [] [(.int (5 : Int32))] pd_8 d2 5 ?_
  intro T1 L1 X1 e1 N1
  by_cases hc2 : (5 : Int32) < nn
  · refine uNc X1 hx hby d5 (tlt hc2).2.1 8 (uA X1 hx hby d8 rfl 9 (uI X1 hx hby d9 rfl 10 ?_))
    refine oVp X1 hx hby hZ hown (ow hw 84 rfl) (ow hw 85 rfl) (ow hw 87 rfl) (ow hw 86 rfl) (ow hw 88 rfl) (ow hw 8 rfl) (rm_ch5 a t kb nn c0 c1 c2 c3 c4 c5 c6 c7 ⟨hw, O0, hS⟩ E_a F_c F_v V_t r5 hc2) e1 E_a N1 hml [(.int (5 : Int32))] [] pd_9 d10 13 ?_
    intro T3 L3 X3 e3 N3
    refine oCp X3 hx hby hZ hown (ow hw 106 rfl) (ow hw 107 rfl) (ow hw 108 rfl) (ow hw 64 rfl) (rm_ial c5 ⟨hw, O0, hS⟩ ) e3 N3 hml [(.int c5)] [] pd_0 d13 16 ?_
    intro T4 L4 X4 e4 N4
    by_cases hc5 : (oLet c5) = (0 : Int32)
    · refine uN X4 hx hby d16 ((if0 _ _).trans (teq hc5).2) 19 (uC X4 hx hby d19 (-1) 20 ?_)
      exact oRI X4 hx hby hret hlk e4 d20 ⟨(by simp [oSE, oScan, hc2, hc5]), N4, rfl⟩
    refine uY X4 hx hby d16 ((if0 _ _).trans (feq hc5).2) 21 (uI X4 hx hby d21 rfl 22 (uC X4 hx hby d22 1 23 ?_))
    refine ob T4 (mkF mG 24 #[oa a, oi (5 : Int32), .unset, .unset] [(.int (6 : Int32))]) (fun _ kk => XS.iadd X4.here hx rfl (hb hby d23) rfl kk) ?_
    refine uT X4 hx hby d24 #[oa a, oi (5 : Int32), oi (6 : Int32), .unset] 25 (uI X4 hx hby d25 rfl 26 (uA X4 hx hby d26 rfl 27 ?_))
    refine oVp X4 hx hby hZ hown (ow hw 74 rfl) (ow hw 75 rfl) (ow hw 77 rfl) (ow hw 76 rfl) (ow hw 78 rfl) (ow hw 8 rfl) (rm_len a t kb nn ((oB8 c0 c1 c2 c3 c4 c5 c6 c7)) ⟨hw, O0, hS⟩ E_a F_c F_v V_t) e4 E_a N4 hml [] [(.int (6 : Int32))] pd_8 d27 30 ?_
    intro T6 L6 X6 e6 N6
    by_cases hc7 : (6 : Int32) < nn
    · refine uNc X6 hx hby d30 (tlt hc7).2.1 33 (uA X6 hx hby d33 rfl 34 (uI X6 hx hby d34 rfl 35 ?_))
      refine oVp X6 hx hby hZ hown (ow hw 84 rfl) (ow hw 85 rfl) (ow hw 87 rfl) (ow hw 86 rfl) (ow hw 88 rfl) (ow hw 8 rfl) (rm_ch6 a t kb nn c0 c1 c2 c3 c4 c5 c6 c7 ⟨hw, O0, hS⟩ E_a F_c F_v V_t r6 hc7) e6 E_a N6 hml [(.int (6 : Int32))] [] pd_9 d35 38 ?_
      intro T8 L8 X8 e8 N8
      refine uT X8 hx hby d38 #[oa a, oi (5 : Int32), oi (6 : Int32), oi c6] 39 (uI X8 hx hby d39 rfl 40 (uB X8 hx hby d40 58 42 ?_))
      by_cases hc9 : c6 = (58 : Int32)
      · refine uNc X8 hx hby d42 (teq hc9).2 45 (uI X8 hx hby d45 rfl 46 ?_)
        exact oRI X8 hx hby hret hlk e8 d46 ⟨(by simp [oSE, oScan, hc2, hc5, hc7, hc9]), N8, rfl⟩
      refine uYc X8 hx hby d42 (feq hc9).2 47 (uI X8 hx hby d47 rfl 48 ?_)
      refine oCp X8 hx hby hZ hown (ow hw 221 rfl) (ow hw 222 rfl) (ow hw 223 rfl) (ow hw 64 rfl) (rm_isc c6 ⟨hw, O0, hS⟩ ) e8 N8 hml [(.int c6)] [] pd_0 d48 51 ?_
      intro T10 L10 X10 e10 N10
      by_cases hc11 : (oSch c6) = (0 : Int32)
      · refine uN X10 hx hby d51 ((if0 _ _).trans (teq hc11).2) 54 (uC X10 hx hby d54 (-1) 55 ?_)
        exact oRI X10 hx hby hret hlk e10 d55 ⟨(by simp [oSE, oScan, hc2, hc5, hc7, hc9, hc11]), N10, rfl⟩
      refine uY X10 hx hby d51 ((if0 _ _).trans (feq hc11).2) 56 (uInc X10 hx hby d56 rfl #[oa a, oi (5 : Int32), oi (7 : Int32), oi c6] 59 (uG X10 hx hby d59 25 (uI X10 hx hby d25 rfl 26 (uA X10 hx hby d26 rfl 27 ?_))))
      refine oVp X10 hx hby hZ hown (ow hw 74 rfl) (ow hw 75 rfl) (ow hw 77 rfl) (ow hw 76 rfl) (ow hw 78 rfl) (ow hw 8 rfl) (rm_len a t kb nn ((oB8 c0 c1 c2 c3 c4 c5 c6 c7)) ⟨hw, O0, hS⟩ E_a F_c F_v V_t) e10 E_a N10 hml [] [(.int (7 : Int32))] pd_8 d27 30 ?_
      intro T12 L12 X12 e12 N12
      by_cases hc13 : (7 : Int32) < nn
      · refine uNc X12 hx hby d30 (tlt hc13).2.1 33 (uA X12 hx hby d33 rfl 34 (uI X12 hx hby d34 rfl 35 ?_))
        refine oVp X12 hx hby hZ hown (ow hw 84 rfl) (ow hw 85 rfl) (ow hw 87 rfl) (ow hw 86 rfl) (ow hw 88 rfl) (ow hw 8 rfl) (rm_ch7 a t kb nn c0 c1 c2 c3 c4 c5 c6 c7 ⟨hw, O0, hS⟩ E_a F_c F_v V_t r7 hc13) e12 E_a N12 hml [(.int (7 : Int32))] [] pd_9 d35 38 ?_
        intro T14 L14 X14 e14 N14
        refine uT X14 hx hby d38 #[oa a, oi (5 : Int32), oi (7 : Int32), oi c7] 39 (uI X14 hx hby d39 rfl 40 (uB X14 hx hby d40 58 42 ?_))
        by_cases hc15 : c7 = (58 : Int32)
        · refine uNc X14 hx hby d42 (teq hc15).2 45 (uI X14 hx hby d45 rfl 46 ?_)
          exact oRI X14 hx hby hret hlk e14 d46 ⟨(by simp [oSE, oScan, hc2, hc5, hc7, hc9, hc11, hc13, hc15]), N14, rfl⟩
        refine uYc X14 hx hby d42 (feq hc15).2 47 (uI X14 hx hby d47 rfl 48 ?_)
        refine oCp X14 hx hby hZ hown (ow hw 221 rfl) (ow hw 222 rfl) (ow hw 223 rfl) (ow hw 64 rfl) (rm_isc c7 ⟨hw, O0, hS⟩ ) e14 N14 hml [(.int c7)] [] pd_0 d48 51 ?_
        intro T16 L16 X16 e16 N16
        by_cases hc17 : (oSch c7) = (0 : Int32)
        · refine uN X16 hx hby d51 ((if0 _ _).trans (teq hc17).2) 54 (uC X16 hx hby d54 (-1) 55 ?_)
          exact oRI X16 hx hby hret hlk e16 d55 ⟨(by simp [oSE, oScan, hc2, hc5, hc7, hc9, hc11, hc13, hc15, hc17]), N16, rfl⟩
        refine uY X16 hx hby d51 ((if0 _ _).trans (feq hc17).2) 56 (uInc X16 hx hby d56 rfl #[oa a, oi (5 : Int32), oi (8 : Int32), oi c7] 59 (uG X16 hx hby d59 25 (uI X16 hx hby d25 rfl 26 (uA X16 hx hby d26 rfl 27 ?_))))
        refine oVp X16 hx hby hZ hown (ow hw 74 rfl) (ow hw 75 rfl) (ow hw 77 rfl) (ow hw 76 rfl) (ow hw 78 rfl) (ow hw 8 rfl) (rm_len a t kb nn ((oB8 c0 c1 c2 c3 c4 c5 c6 c7)) ⟨hw, O0, hS⟩ E_a F_c F_v V_t) e16 E_a N16 hml [] [(.int (8 : Int32))] pd_8 d27 30 ?_
        intro T18 L18 X18 e18 N18
        refine uYc X18 hx hby d30 (flt (own_n8 hn)).2.1 62 (uC X18 hx hby d62 (-1) 63 ?_)
        exact oRI X18 hx hby hret hlk e18 d63 ⟨(by simp [oSE, oScan, hc2, hc5, hc7, hc9, hc11, hc13, hc15, hc17]), N18, rfl⟩
      refine uYc X12 hx hby d30 (flt hc13).2.1 62 (uC X12 hx hby d62 (-1) 63 ?_)
      exact oRI X12 hx hby hret hlk e12 d63 ⟨(by simp [oSE, oScan, hc2, hc5, hc7, hc9, hc11, hc13]), N12, rfl⟩
    refine uYc X6 hx hby d30 (flt hc7).2.1 62 (uC X6 hx hby d62 (-1) 63 ?_)
    exact oRI X6 hx hby hret hlk e6 d63 ⟨(by simp [oSE, oScan, hc2, hc5, hc7]), N6, rfl⟩
  refine uYc X1 hx hby d5 (flt hc2).2.1 19 (uC X1 hx hby d19 (-1) 20 ?_)
  exact oRI X1 hx hby hret hlk e1 d20 ⟨(by simp [oSE, oScan, hc2]), N1, rfl⟩

abbrev K35 (n : Nat) (i : Instr) (k : Nat) : Prop := decode jdk_42_method_151_code n = .ok (i, k)
set_option maxRecDepth 65536 in
theorem t35 : K35 0 (.aload_n 0) 1 ∧ K35 1 (.invokespecial 1) 3 ∧ K35 4 (.aload_n 0) 1 ∧ K35 5 (.aload_n 1) 1 ∧ K35 6 (.putfield 9) 3 ∧ K35 9 (.aload_n 0) 1 ∧ K35 10 (.iload_n 2) 1 ∧ K35 11 (.putfield 15) 3 ∧ K35 14 .return_ 1 := by and_intros <;> decide +kernel
def Q_rm_bbi (Z : State) (wR wI : Addr) (zc : Int32) (vf : Value) (wB wL wV : Addr) (cV : Cell) (a o : Addr) (u0 u1 : Value) (h0 : Heap) (n0 : Nat) (v : Option Value) (h : Heap) (L : List Loc) : Prop := v = none ∧ Fr n0 L ∧ Keep h0 h [a] ∧ Old Z n0 h ∧ Fld Z h a "java/lang/String" "value" "[B" (.ref o) ∧ Fld Z h a "java/lang/String" "coder" "B" (.int (0 : Int32))
theorem rm_bbi (a o : Addr) (u0 u1 : Value) (H : oH Z a0 n0 h0 wR wI zc vf wB wL wV cV) (E_a : Exa Z h0 a "java/lang/String") (F_0 : Fld Z h0 a "java/lang/String" "value" "[B" u0) (F_1 : Fld Z h0 a "java/lang/String" "coder" "B" u1) (n_a : n0 ≤ a) : oM l Z (⟨"java/lang/String", "<init>", "([BB)V"⟩ : MethodName) jdk_42_method_151_code 3 none (oRm 1 0 0 12) #[(.ref a), (.ref o), (.int (0 : Int32))] h0 (Q_rm_bbi Z wR wI zc vf wB wL wV cV a o u0 u1 h0 n0) := by
  obtain ⟨hw, O0, hS⟩ := H
  refine oBody (plainFor_of_name pn_1) #[oa a, oa o, oi (0 : Int32)] (fun _ => by first | (simp [entryFrame, mkF, argsToLocals, Value.category]; done) | rfl) ?_
  intro pG eG sG mG belowG methG cG s₁ hx hby hml hown hnm hret hlk X0 e0 hZ
  have N0 := Fr.nil n0
  have K0 := Keep.refl h0 [a]
  obtain ⟨d0, d1, d4, d5, d6, d9, d10, d11, d14⟩ := t35
  refine uA X0 hx hby d0 rfl 1 ?_
  obtain ⟨T1, X1, e1, st1⟩ := initO X0 hx hZ hown (ow hw 19 rfl) (ow hw 20 rfl) (ow hw 21 rfl) e0 (g := (mkF mG 1 #[oa a, oa o, oi (0 : Int32)] [(.ref a)])) rfl (by rw [hml]; rfl) rfl (hb hby d1) (by decide) (W := 0) (by show 2 * 0 + _ ≤ _; exact Nat.le_of_eq rfl) (by decide)
  refine ob T1 (mkF mG 4 #[oa a, oa o, oi (0 : Int32)] []) (fun _ kk => st1 _ kk) ?_
  refine uA X1 hx hby d4 rfl 5 (uA X1 hx hby d5 rfl 6 ?_)
  obtain ⟨T2, h2, X2, e2, W2, st2⟩ := putF X1 hx hZ hown (host := "") (Or.inl (ow hw 28 rfl)) Via.refl e1 F_0 E_a (Or.inr ⟨(ow hw 24 rfl), rfl, hnm⟩) (ow hw 7 rfl) (ty := (.array .byte)) (by decide) rfl rfl (g := (mkF mG 6 #[oa a, oa o, oi (0 : Int32)] [(.ref o), (.ref a)])) rfl rfl (hb hby d6)
  have F2 := F_0.same W2
  have O2 := O0.wr W2 n_a
  have K2 := K0.wr W2 (Or.inl (List.mem_of_getElem? (i := 0) rfl))
  have N2 := Fr.snoc X2 N0 n_a
  obtain ⟨LL3, X2, N2⟩ : ∃ LL, Stand pG l eG _ _ mG _ belowG methG cG T2 LL 0 0 ∧ Fr n0 LL := ⟨_, X2, N2⟩
  refine ob T2 (mkF mG 9 #[oa a, oa o, oi (0 : Int32)] []) (fun _ kk => st2 _ kk) ?_
  refine uA X2 hx hby d9 rfl 10 (uI X2 hx hby d10 rfl 11 ?_)
  obtain ⟨T4, h4, X4, e4, W4, st4⟩ := putFN X2 hx hZ hown (ow hw 29 rfl) Via.refl e2 (F_1.other W2 (Or.inr (slot_ne (Or.inr (ow hw 25 rfl)) (Or.inr (ow hw 24 rfl)) (by decide) (t := .byte) (t' := (.array .byte)) (by decide) (by decide)))) (E_a.wr W2) (Or.inr ⟨(ow hw 25 rfl), rfl, hnm⟩) (ow hw 7 rfl) (ty := .byte) (v' := (.int (0 : Int32))) (by decide) rfl rfl (g := (mkF mG 11 #[oa a, oa o, oi (0 : Int32)] [(.int (0 : Int32)), (.ref a)])) rfl rfl (hb hby d11)
  have F4 := (F_1.other W2 (Or.inr (slot_ne (Or.inr (ow hw 25 rfl)) (Or.inr (ow hw 24 rfl)) (by decide) (t := .byte) (t' := (.array .byte)) (by decide) (by decide)))).same W4
  have O4 := O2.wr W4 n_a
  have K4 := K2.wr W4 (Or.inl (List.mem_of_getElem? (i := 0) rfl))
  have N4 := Fr.snoc X4 N2 n_a
  obtain ⟨LL5, X4, N4⟩ : ∃ LL, Stand pG l eG _ _ mG _ belowG methG cG T4 LL 0 0 ∧ Fr n0 LL := ⟨_, X4, N4⟩
  refine ob T4 (mkF mG 14 #[oa a, oa o, oi (0 : Int32)] []) (fun _ kk => st4 _ kk) ?_
  exact oRV X4 hx hby hret hlk e4 d14 ⟨rfl, N4, K4, O4, (F2.other W4 (Or.inr (slot_ne (Or.inr (ow hw 24 rfl)) (Or.inr (ow hw 25 rfl)) (by decide) (t := (.array .byte)) (t' := .byte) (by decide) (by decide)))), F4⟩

abbrev K29 (n : Nat) (i : Instr) (k : Nat) : Prop := decode jdk_41_method_12_code n = .ok (i, k)
set_option maxRecDepth 65536 in
theorem t29 : K29 0 (.iload_n 0) 1 ∧ K29 1 (.ifCond .lt 13) 3 ∧ K29 4 (.iload_n 0) 1 ∧ K29 5 (.iload_n 1) 1 ∧ K29 6 (.if_icmp .gt 8) 3 ∧ K29 9 (.iload_n 1) 1 ∧ K29 10 (.iload_n 2) 1 ∧ K29 11 (.if_icmp .le 11) 3 ∧ K29 22 (.iload_n 0) 1 ∧ K29 23 .ireturn 1 := by and_intros <;> decide +kernel
theorem rm_cft (ee nn : Int32) (H : oH Z a0 n0 h0 wR wI zc vf wB wL wV cV) (he : oE7 ee) (hlt : ee < nn) : oPu l Z (⟨"jdk/internal/util/Preconditions", "checkFromToIndex", "(IIILjava/util/function/BiFunction;)I"⟩ : MethodName) jdk_41_method_12_code 4 (some .int) (oRm 0 0 0 0) #[(.int (0 : Int32)), (.int ee), (.int nn), vf] h0 n0 (some (.int (0 : Int32))) := by
  obtain ⟨hw, O0, hS⟩ := H
  refine oBody (plainFor_of_name pn_2) #[oi (0 : Int32), oi ee, oi nn, .val vf] (fun _ => by obtain ⟨-, -, -, -, -, -, -, rvf, -, -, -, -, -, -⟩ := id hS; cases vf <;> first | rfl | cases rvf) ?_
  intro pG eG sG mG belowG methG cG s₁ hx hby hml hown hnm hret hlk X0 e0 hZ
  have N0 := Fr.nil n0
  have K0 := Keep.refl h0 []
  obtain ⟨d0, d1, d4, d5, d6, d9, d10, d11, d22, d23⟩ := t29
  refine uI X0 hx hby d0 rfl 1 (uN X0 hx hby d1 ((if0 _ _).trans (flt (by decide : ¬ ((0 : Int32) < (0 : Int32)))).1) 4 (uI X0 hx hby d4 rfl 5 (uI X0 hx hby d5 rfl 6 (uNc X0 hx hby d6 (flt (own_e0 he)).2.2.1 9 (uI X0 hx hby d9 rfl 10 (uI X0 hx hby d10 rfl 11 (uYc X0 hx hby d11 (flt (own_ngt hlt)).2.2.2 22 (uI X0 hx hby d22 rfl 23 ?_))))))))
  exact oRI X0 hx hby hret hlk e0 d23 ⟨rfl, N0, rfl⟩

abbrev K28 (n : Nat) (i : Instr) (k : Nat) : Prop := decode jdk_42_method_158_code n = .ok (i, k)
set_option maxRecDepth 65536 in
theorem t28 : K28 0 (.iload_n 0) 1 ∧ K28 1 (.iload_n 1) 1 ∧ K28 2 (.iload_n 2) 1 ∧ K28 3 (.getstatic 1053) 3 ∧ K28 6 (.invokestatic 1062) 3 ∧ K28 9 .pop 1 ∧ K28 10 .return_ 1 := by and_intros <;> decide +kernel
theorem pd_10 : parseMethodDescriptor "(IIILjava/util/function/BiFunction;)I" = some ⟨[.int, .int, .int, (.object "java/util/function/BiFunction")], some .int⟩ := by decide +kernel
theorem rm_ckb (ee nn : Int32) (H : oH Z a0 n0 h0 wR wI zc vf wB wL wV cV) (he : oE7 ee) (hlt : ee < nn) : oPu l Z (⟨"java/lang/String", "checkBoundsBeginEnd", "(III)V"⟩ : MethodName) jdk_42_method_158_code 3 none (oRm 1 0 0 15) #[(.int (0 : Int32)), (.int ee), (.int nn)] h0 n0 none := by
  obtain ⟨hw, O0, hS⟩ := H
  refine oBody (plainFor_of_name pn_1) #[oi (0 : Int32), oi ee, oi nn] (fun _ => by first | (simp [entryFrame, mkF, argsToLocals, Value.category]; done) | rfl) ?_
  intro pG eG sG mG belowG methG cG s₁ hx hby hml hown hnm hret hlk X0 e0 hZ
  have N0 := Fr.nil n0
  have K0 := Keep.refl h0 []
  obtain ⟨-, -, -, -, -, -, S_vf, -, -, -, -, -, -, -⟩ := id hS
  obtain ⟨d0, d1, d2, d3, d6, d9, d10⟩ := t28
  refine uI X0 hx hby d0 rfl 1 (uI X0 hx hby d1 rfl 2 (uI X0 hx hby d2 rfl 3 ?_))
  refine oGs X0 hx hby hZ hown (ow hw 101 rfl) e0 (S_vf.ext O0.2) d3 6 ?_
  intro T1 X1 e1
  refine oCp X1 hx hby hZ hown (ow hw 118 rfl) (ow hw 119 rfl) (ow hw 120 rfl) (ow hw 102 rfl) (rm_cft ee nn ⟨hw, O0, hS⟩ he hlt) e1 N0 hml [(.int (0 : Int32)), (.int ee), (.int nn), vf] [] pd_10 d6 9 ?_
  intro T2 L2 X2 e2 N2
  refine ob T2 (mkF mG 10 #[oi (0 : Int32), oi ee, oi nn] []) (fun _ kk => XS.pop X2.here hx rfl (hb hby d9) rfl rfl kk) ?_
  exact oRV X2 hx hby hret hlk e2 d10 ⟨rfl, N2, rfl⟩

abbrev K33 (n : Nat) (i : Instr) (k : Nat) : Prop := decode jdk_65_method_131_code n = .ok (i, k)
set_option maxRecDepth 65536 in
theorem t33 : K33 0 (.iload_n 1) 1 ∧ K33 1 (.iload_n 0) 1 ∧ K33 2 (.if_icmp .ge 35) 3 ∧ K33 37 .return_ 1 := by and_intros <;> decide +kernel
theorem rm_ckl (ee : Int32) (H : oH Z a0 n0 h0 wR wI zc vf wB wL wV cV) (he : oE7 ee) : oPu l Z (⟨"java/util/Arrays", "checkLength", "(II)V"⟩ : MethodName) jdk_65_method_131_code 2 none (oRm 0 0 0 0) #[(.int (0 : Int32)), (.int ee)] h0 n0 none := by
  obtain ⟨hw, O0, hS⟩ := H
  refine oBody (plainFor_of_name pn_5) #[oi (0 : Int32), oi ee] (fun _ => by first | (simp [entryFrame, mkF, argsToLocals, Value.category]; done) | rfl) ?_
  intro pG eG sG mG belowG methG cG s₁ hx hby hml hown hnm hret hlk X0 e0 hZ
  have N0 := Fr.nil n0
  have K0 := Keep.refl h0 []
  obtain ⟨d0, d1, d2, d37⟩ := t33
  refine uI X0 hx hby d0 rfl 1 (uI X0 hx hby d1 rfl 2 (uYc X0 hx hby d2 (flt (own_e0 he)).2.1 37 ?_))
  exact oRV X0 hx hby hret hlk e0 d37 ⟨rfl, N0, rfl⟩

abbrev K34 (n : Nat) (i : Instr) (k : Nat) : Prop := decode jdk_29_method_69_code n = .ok (i, k)
set_option maxRecDepth 65536 in
theorem t34 : K34 0 (.iload_n 0) 1 ∧ K34 1 (.iload_n 1) 1 ∧ K34 2 (.if_icmp .gt 7) 3 ∧ K34 9 (.iload_n 1) 1 ∧ K34 10 .ireturn 1 := by and_intros <;> decide +kernel
theorem rm_min (nn ee : Int32) (H : oH Z a0 n0 h0 wR wI zc vf wB wL wV cV) (he : oE7 ee) (hlt : ee < nn) : oPu l Z (⟨"java/lang/Math", "min", "(II)I"⟩ : MethodName) jdk_29_method_69_code 2 (some .int) (oRm 0 0 0 0) #[(.int nn), (.int ee)] h0 n0 (some (.int ee)) := by
  obtain ⟨hw, O0, hS⟩ := H
  refine oBody (Jvm.Free.JP.mathPlain rfl (by decide +kernel)) #[oi nn, oi ee] (fun _ => by first | (simp [entryFrame, mkF, argsToLocals, Value.category]; done) | rfl) ?_
  intro pG eG sG mG belowG methG cG s₁ hx hby hml hown hnm hret hlk X0 e0 hZ
  have N0 := Fr.nil n0
  have K0 := Keep.refl h0 []
  obtain ⟨d0, d1, d2, d9, d10⟩ := t34
  refine uI X0 hx hby d0 rfl 1 (uI X0 hx hby d1 rfl 2 (uYc X0 hx hby d2 (tlt hlt).2.2.1 9 (uI X0 hx hby d9 rfl 10 ?_)))
  exact oRI X0 hx hby hret hlk e0 d10 ⟨rfl, N0, rfl⟩

abbrev K32 (n : Nat) (i : Instr) (k : Nat) : Prop := decode jdk_65_method_133_code n = .ok (i, k)
set_option maxRecDepth 65536 in
theorem t32 : K32 0 (.iload_n 1) 1 ∧ K32 1 (.iload_n 2) 1 ∧ K32 2 (.invokestatic 343) 3 ∧ K32 5 (.iload_n 2) 1 ∧ K32 6 (.iload_n 1) 1 ∧ K32 7 .isub 1 ∧ K32 8 (.istore_n 3) 1 ∧ K32 9 (.iload_n 3) 1 ∧ K32 10 (.newarray .byte) 2 ∧ K32 12 (.astore 4) 2 ∧ K32 14 (.aload_n 0) 1 ∧ K32 15 (.iload_n 1) 1 ∧ K32 16 (.aload 4) 2 ∧ K32 18 (.iconst 0) 1 ∧ K32 19 (.aload_n 0) 1 ∧ K32 20 .arraylength 1 ∧ K32 21 (.iload_n 1) 1 ∧ K32 22 .isub 1 ∧ K32 23 (.iload_n 3) 1 ∧ K32 24 (.invokestatic 304) 3 ∧ K32 27 (.invokestatic 150) 3 ∧ K32 30 (.aload 4) 2 ∧ K32 32 .areturn 1 := by and_intros <;> decide +kernel
theorem pd_11 : parseMethodDescriptor "(II)I" = some ⟨[.int, .int], some .int⟩ := by decide +kernel
def Q_rm_cob (Z : State) (wR wI : Addr) (zc : Int32) (vf : Value) (wB wL wV : Addr) (cV : Cell) (t : Addr) (kb : ClassId) (nn ee c0 c1 c2 c3 c4 c5 c6 c7 : Int32) (h0 : Heap) (n0 : Nat) (v : Option Value) (h : Heap) (L : List Loc) : Prop := ∃ (b0 : Addr) (kq1 : ClassId), v = some (.ref b0) ∧ Fr n0 L ∧ Keep h0 h [] ∧ Old Z n0 h ∧ n0 ≤ b0 ∧ h0.size ≤ b0 ∧ Arv Z h b0 kq1 .byte ee (oB8 c0 c1 c2 c3 c4 c5 c6 c7) (.int (0 : Int32))
theorem rm_cob (t : Addr) (kb : ClassId) (nn ee c0 c1 c2 c3 c4 c5 c6 c7 : Int32) (H : oH Z a0 n0 h0 wR wI zc vf wB wL wV cV) (V_t : Arv Z h0 t kb .byte nn (oB8 c0 c1 c2 c3 c4 c5 c6 c7) (.int (0 : Int32))) (he : oE7 ee) (hlt : ee < nn) : oM l Z (⟨"java/util/Arrays", "copyOfRangeByte", "([BII)[B"⟩ : MethodName) jdk_65_method_133_code 5 (some (.array .byte)) (oRm 1 1 8 40) #[(.ref t), (.int (0 : Int32)), (.int ee)] h0 (Q_rm_cob Z wR wI zc vf wB wL wV cV t kb nn ee c0 c1 c2 c3 c4 c5 c6 c7 h0 n0) := by
  obtain ⟨hw, O0, hS⟩ := H
  refine oBody (plainFor_of_name pn_5) #[oa t, oi (0 : Int32), oi ee, .unset, .unset] (fun _ => by first | (simp [entryFrame, mkF, argsToLocals, Value.category]; done) | rfl) ?_
  intro pG eG sG mG belowG methG cG s₁ hx hby hml hown hnm hret hlk X0 e0 hZ
  have N0 := Fr.nil n0
  have K0 := Keep.refl h0 []
  obtain ⟨d0, d1, d2, d5, d6, d7, d8, d9, d10, d12, d14, d15, d16, d18, d19, d20, d21, d22, d23, d24, d27, d30, d32⟩ := t32
  refine uI X0 hx hby d0 rfl 1 (uI X0 hx hby d1 rfl 2 ?_)
  refine oCv X0 hx hby hZ hown (ow hw 132 rfl) (ow hw 133 rfl) (ow hw 134 rfl) (ow hw 127 rfl) (rm_ckl ee ⟨hw, O0, hS⟩ he) e0 N0 hml [(.int (0 : Int32)), (.int ee)] [] pd_5 d2 5 ?_
  intro T1 L1 X1 e1 N1
  refine uI X1 hx hby d5 rfl 6 (uI X1 hx hby d6 rfl 7 ?_)
  refine ob T1 (mkF mG 8 #[oa t, oi (0 : Int32), oi ee, .unset, .unset] [(.int (ee - (0 : Int32)))]) (fun _ kk => XS.isub X1.here hx rfl (hb hby d7) rfl kk) ?_
  rw [own_sub0 ee]
  show oGo pG eG belowG _ T1 (mkF mG 8 #[oa t, oi (0 : Int32), oi ee, .unset, .unset] [(.int ee)])
  refine uT X1 hx hby d8 #[oa t, oi (0 : Int32), oi ee, oi ee, .unset] 9 (uI X1 hx hby d9 rfl 10 ?_)
  obtain ⟨T2, h2, k2, X2, e2, E2, A2, st2⟩ := newP X1 hx hZ (ow hw 23 rfl) e1 (g := (mkF mG 10 #[oa t, oi (0 : Int32), oi ee, oi ee, .unset] [(.int ee)])) rfl (hb hby d10) rfl (own_e0 he) (cap := 8) (own_e8 he) (by decide) (by decide) (by decide)
  obtain ⟨b2, g2⟩ : ∃ z, z = h0.size := ⟨_, rfl⟩
  rw [← g2] at A2 st2
  have n_b2 : n0 ≤ b2 := Nat.le_trans (on0 O0) (Nat.le_of_eq g2.symm)
  have sz_b2 : h0.size ≤ b2 := Nat.le_trans K0.1 (Nat.le_of_eq g2.symm)
  have ne_t_b2 : t ≠ b2 := Nat.ne_of_lt (Nat.lt_of_lt_of_le V_t.lt (Nat.le_of_eq g2.symm))
  have O2 := O0.ext E2
  have K2 := K0.ext E2
  obtain ⟨LL3, X2, N1⟩ : ∃ LL, Stand pG l eG _ _ mG _ belowG methG cG T2 LL 1 8 ∧ Fr n0 LL := ⟨_, X2, N1⟩
  have V2 : Arv Z h2 b2 k2 .byte ee [(.int (0 : Int32)), (.int (0 : Int32)), (.int (0 : Int32)), (.int (0 : Int32)), (.int (0 : Int32)), (.int (0 : Int32)), (.int (0 : Int32)), (.int (0 : Int32))] (.int (0 : Int32)) := (Arv.new A2 (own_e0 he)).pad (pad_rep [] (.int (0 : Int32)) 8)
  refine ob T2 (mkF mG 12 #[oa t, oi (0 : Int32), oi ee, oi ee, .unset] [(.ref b2)]) (fun _ kk => st2 _ kk) ?_
  refine uO2 X2 hx hby d12 #[oa t, oi (0 : Int32), oi ee, oi ee, oa b2] 14 (uA X2 hx hby d14 rfl 15 (uI X2 hx hby d15 rfl 16 (uA2 X2 hx hby d16 rfl 18 (uC X2 hx hby d18 0 19 (uA X2 hx hby d19 rfl 20 (oLn X2 hx hby hZ e2 (V_t.ext E2) d20 21 (uI X2 hx hby d21 rfl 22 ?_)))))))
  refine ob T2 (mkF mG 23 #[oa t, oi (0 : Int32), oi ee, oi ee, oa b2] [(.int (nn - (0 : Int32))), (.int (0 : Int32)), (.ref b2), (.int (0 : Int32)), (.ref t)]) (fun _ kk => XS.isub X2.here hx rfl (hb hby d22) rfl kk) ?_
  rw [own_sub0 nn]
  show oGo pG eG belowG _ T2 (mkF mG 23 #[oa t, oi (0 : Int32), oi ee, oi ee, oa b2] [(.int nn), (.int (0 : Int32)), (.ref b2), (.int (0 : Int32)), (.ref t)])
  refine uI X2 hx hby d23 rfl 24 ?_
  refine oCp X2 hx hby hZ hown (ow hw 135 rfl) (ow hw 136 rfl) (ow hw 138 rfl) (ow hw 137 rfl) (rm_min nn ee ⟨hw, O2, hS⟩ he hlt) e2 N1 hml [(.int nn), (.int ee)] [(.int (0 : Int32)), (.ref b2), (.int (0 : Int32)), (.ref t)] pd_11 d24 27 ?_
  intro T4 L4 X4 e4 N4
  obtain ⟨T5, h5, L5, X5, e5, N5, K5q, V5, st5⟩ := cpA X4 hx hZ hown (ow hw 139 rfl) (ow hw 142 rfl) (ow hw 140 rfl) (ow hw 141 rfl) e4 (V_t.ext E2) V2 (Or.inl ⟨rfl, rfl⟩) (sp := (0 : Int32)) (dp := (0 : Int32)) (nn := ee) (by decide) (by decide) (own_e0 he) (by show 0 + ee.toNatClampNeg ≤ nn.toNatClampNeg; rw [Nat.zero_add]; exact own_ltc (own_e0 he) hlt) (by show 0 + ee.toNatClampNeg ≤ ee.toNatClampNeg; omega) rfl (by show 0 + ee.toNatClampNeg ≤ 8; rw [Nat.zero_add]; exact own_e8 he) N4 n_b2 (g := (mkF mG 27 #[oa t, oi (0 : Int32), oi ee, oi ee, oa b2] [(.int ee), (.int (0 : Int32)), (.ref b2), (.int (0 : Int32)), (.ref t)])) rfl (by rw [hml]; rfl) rfl (hb hby d27) (by decide) (W := 0) (by show 2 * 0 + _ ≤ _; exact Nat.le_of_eq rfl) (by decide)
  have VV5 : Arv Z h5 b2 k2 .byte ee (oB8 c0 c1 c2 c3 c4 c5 c6 c7) (.int (0 : Int32)) := own_arvEq V5 (own_cpy _ _ _ _)
  have O5 := O2.keep K5q (allS n_b2 all0)
  have K5 := K2.trans K5q (allS (Or.inr sz_b2) all0)
  refine ob T5 (mkF mG 30 #[oa t, oi (0 : Int32), oi ee, oi ee, oa b2] []) (fun _ kk => st5 _ kk) ?_
  refine uA2 X5 hx hby d30 rfl 32 ?_
  exact oRA X5 hx hby hret hlk e5 d32 ⟨b2, k2, rfl, N5, K5, O5, n_b2, sz_b2, VV5⟩

abbrev K31 (n : Nat) (i : Instr) (k : Nat) : Prop := decode jdk_65_method_132_code n = .ok (i, k)
set_option maxRecDepth 65536 in
theorem t31 : K31 0 (.iload_n 1) 1 ∧ K31 1 (.ifCond .ne 9) 3 ∧ K31 4 (.iload_n 2) 1 ∧ K31 5 (.aload_n 0) 1 ∧ K31 6 .arraylength 1 ∧ K31 7 (.if_icmp .eq 10) 3 ∧ K31 10 (.aload_n 0) 1 ∧ K31 11 (.iload_n 1) 1 ∧ K31 12 (.iload_n 2) 1 ∧ K31 13 (.invokestatic 339) 3 ∧ K31 16 .areturn 1 := by and_intros <;> decide +kernel
theorem pd_12 : parseMethodDescriptor "([BII)[B" = some ⟨[(.array .byte), .int, .int], some (.array .byte)⟩ := by decide +kernel
def Q_rm_cor (Z : State) (wR wI : Addr) (zc : Int32) (vf : Value) (wB wL wV : Addr) (cV : Cell) (t : Addr) (kb : ClassId) (nn ee c0 c1 c2 c3 c4 c5 c6 c7 : Int32) (h0 : Heap) (n0 : Nat) (v : Option Value) (h : Heap) (L : List Loc) : Prop := ∃ (b0 : Addr) (kq1 : ClassId), v = some (.ref b0) ∧ Fr n0 L ∧ Keep h0 h [] ∧ Old Z n0 h ∧ n0 ≤ b0 ∧ h0.size ≤ b0 ∧ Arv Z h b0 kq1 .byte ee (oB8 c0 c1 c2 c3 c4 c5 c6 c7) (.int (0 : Int32))
theorem rm_cor (t : Addr) (kb : ClassId) (nn ee c0 c1 c2 c3 c4 c5 c6 c7 : Int32) (H : oH Z a0 n0 h0 wR wI zc vf wB wL wV cV) (V_t : Arv Z h0 t kb .byte nn (oB8 c0 c1 c2 c3 c4 c5 c6 c7) (.int (0 : Int32))) (he : oE7 ee) (hlt : ee < nn) : oM l Z (⟨"java/util/Arrays", "copyOfRange", "([BII)[B"⟩ : MethodName) jdk_65_method_132_code 3 (some (.array .byte)) (oRm 2 1 8 56) #[(.ref t), (.int (0 : Int32)), (.int ee)] h0 (Q_rm_cor Z wR wI zc vf wB wL wV cV t kb nn ee c0 c1 c2 c3 c4 c5 c6 c7 h0 n0) := by
  obtain ⟨hw, O0, hS⟩ := H
  refine oBody (plainFor_of_name pn_5) #[oa t, oi (0 : Int32), oi ee] (fun _ => by first | (simp [entryFrame, mkF, argsToLocals, Value.category]; done) | rfl) ?_
  intro pG eG sG mG belowG methG cG s₁ hx hby hml hown hnm hret hlk X0 e0 hZ
  have N0 := Fr.nil n0
  have K0 := Keep.refl h0 []
  obtain ⟨d0, d1, d4, d5, d6, d7, d10, d11, d12, d13, d16⟩ := t31
  refine uI X0 hx hby d0 rfl 1 (uN X0 hx hby d1 ((if0 _ _).trans (teq (by decide : (0 : Int32) = (0 : Int32))).2) 4 (uI X0 hx hby d4 rfl 5 (uA X0 hx hby d5 rfl 6 (oLn X0 hx hby hZ e0 V_t d6 7 (uNc X0 hx hby d7 (feq (own_ltn hlt)).1 10 (uA X0 hx hby d10 rfl 11 (uI X0 hx hby d11 rfl 12 (uI X0 hx hby d12 rfl 13 ?_))))))))
  obtain ⟨_, _, ⟨T1, L1, k1, n1⟩, -, X1, ⟨Lc1, hQ1, l1, y1, z1⟩, st1⟩ := Jvm.LawKit.callS X0 hx (y := (⟨"java/util/Arrays", "copyOfRangeByte", "([BII)[B"⟩ : MethodName)) hown (mvT hZ (ow hw 129 rfl)) (mvT hZ (ow hw 130 rfl)) (mvT hZ (ow hw 127 rfl)) (mvT hZ (ow hw 131 rfl)) (by decide) (backOf (W := 0) (rm_cob t kb nn ee c0 c1 c2 c3 c4 c5 c6 c7 ⟨hw, O0, hS⟩ V_t he hlt) hZ (ow hw 131 rfl) (ow hw 127 rfl) (by decide) (by decide)) (g := (mkF mG 13 #[oa t, oi (0 : Int32), oi ee] [(.int ee), (.int (0 : Int32)), (.ref t)])) rfl (by rw [hml]; rfl) (argsL := [(.ref t), (.int (0 : Int32)), (.int ee)]) (rest := []) (lenOf pd_12 rfl) rfl (by show 2 * 0 + _ ≤ _; exact Nat.le_of_eq rfl) (hb hby d13) (fun _ _ => ⟨rfl, e0, (by decide : 0 + 1 ≤ _), (by decide : 0 + 8 ≤ _)⟩)
  dsimp only [Pt.U, Pt.locs, Pt.cells, Pt.slots] at X1 l1 y1 z1 st1 hQ1
  subst l1 y1 z1
  obtain ⟨h1, e1⟩ : ∃ h, T1.heap = h := ⟨_, rfl⟩
  rw [e1] at hQ1
  obtain ⟨b0_1, kq1_1, rfl, N1q, K1q, O1, n_b0_1, z_b0_1, F1_0⟩ := hQ1
  have N1 := Fr.app N0 N1q
  have sz_b0_1 : h0.size ≤ b0_1 := Nat.le_trans K0.1 z_b0_1
  have ne_t_b0_1 : t ≠ b0_1 := Nat.ne_of_lt (Nat.lt_of_lt_of_le V_t.lt z_b0_1)
  have K1 := K0.trans K1q all0
  obtain ⟨LL2, X1, N1⟩ : ∃ LL, Stand pG l eG _ _ mG _ belowG methG cG T1 LL 1 8 ∧ Fr n0 LL := ⟨_, X1, N1⟩
  refine ob T1 (mkF mG 16 #[oa t, oi (0 : Int32), oi ee] [(.ref b0_1)]) (fun _ kk => st1 _ kk) ?_
  exact oRA X1 hx hby hret hlk e1 d16 ⟨b0_1, kq1_1, rfl, N1, K1, O1, n_b0_1, sz_b0_1, F1_0⟩

abbrev K30 (n : Nat) (i : Instr) (k : Nat) : Prop := decode jdk_43_method_47_code n = .ok (i, k)
set_option maxRecDepth 65536 in
theorem t30 : K30 0 (.iload_n 2) 1 ∧ K30 1 (.ifCond .ne 6) 3 ∧ K30 7 (.new 1) 3 ∧ K30 10 .dup 1 ∧ K30 11 (.aload_n 0) 1 ∧ K30 12 (.iload_n 1) 1 ∧ K30 13 (.iload_n 1) 1 ∧ K30 14 (.iload_n 2) 1 ∧ K30 15 .iadd 1 ∧ K30 16 (.invokestatic 232) 3 ∧ K30 19 (.iconst 0) 1 ∧ K30 20 (.invokespecial 112) 3 ∧ K30 23 .areturn 1 := by and_intros <;> decide +kernel
theorem pd_13 : parseMethodDescriptor "([BB)V" = some ⟨[(.array .byte), .byte], none⟩ := by decide +kernel
def Q_rm_nst (Z : State) (wR wI : Addr) (zc : Int32) (vf : Value) (wB wL wV : Addr) (cV : Cell) (t : Addr) (kb : ClassId) (nn ee c0 c1 c2 c3 c4 c5 c6 c7 : Int32) (h0 : Heap) (n0 : Nat) (v : Option Value) (h : Heap) (L : List Loc) : Prop := ∃ (b0 b1 : Addr) (kq2 : ClassId), v = some (.ref b0) ∧ Fr n0 L ∧ Keep h0 h [] ∧ Old Z n0 h ∧ n0 ≤ b0 ∧ n0 ≤ b1 ∧ h0.size ≤ b0 ∧ h0.size ≤ b1 ∧ Exa Z h b0 "java/lang/String" ∧ Fld Z h b0 "java/lang/String" "value" "[B" (.ref b1) ∧ Fld Z h b0 "java/lang/String" "coder" "B" (.int (0 : Int32)) ∧ Arv Z h b1 kq2 .byte ee (oB8 c0 c1 c2 c3 c4 c5 c6 c7) (.int (0 : Int32))
theorem rm_nst (t : Addr) (kb : ClassId) (nn ee c0 c1 c2 c3 c4 c5 c6 c7 : Int32) (H : oH Z a0 n0 h0 wR wI zc vf wB wL wV cV) (V_t : Arv Z h0 t kb .byte nn (oB8 c0 c1 c2 c3 c4 c5 c6 c7) (.int (0 : Int32))) (he : oE7 ee) (hlt : ee < nn) : oM l Z (⟨"java/lang/StringLatin1", "newString", "([BII)Ljava/lang/String;"⟩ : MethodName) jdk_43_method_47_code 3 (some (.object "java/lang/String")) (oRm 3 2 12 72) #[(.ref t), (.int (0 : Int32)), (.int ee)] h0 (Q_rm_nst Z wR wI zc vf wB wL wV cV t kb nn ee c0 c1 c2 c3 c4 c5 c6 c7 h0 n0) := by
  obtain ⟨hw, O0, hS⟩ := H
  refine oBody (plainFor_of_name pn_3) #[oa t, oi (0 : Int32), oi ee] (fun _ => by first | (simp [entryFrame, mkF, argsToLocals, Value.category]; done) | rfl) ?_
  intro pG eG sG mG belowG methG cG s₁ hx hby hml hown hnm hret hlk X0 e0 hZ
  have N0 := Fr.nil n0
  have K0 := Keep.refl h0 []
  obtain ⟨d0, d1, d7, d10, d11, d12, d13, d14, d15, d16, d19, d20, d23⟩ := t30
  refine uI X0 hx hby d0 rfl 1 (uY X0 hx hby d1 ((if0 _ _).trans (feq (own_en he)).2) 7 ?_)
  obtain ⟨T1, h1, X1, e1, E1, A1, D1, _x1, st1⟩ := newO X0 hx hZ hown (ow hw 124 rfl) (ow hw 7 rfl) (ow hw 8 rfl) e0 (g := (mkF mG 7 #[oa t, oi (0 : Int32), oi ee] [])) rfl (hb hby d7) (by decide) (by decide)
  obtain ⟨b1, g1⟩ : ∃ z, z = h0.size := ⟨_, rfl⟩
  rw [← g1] at A1 D1 st1
  have n_b1 : n0 ≤ b1 := Nat.le_trans (on0 O0) (Nat.le_of_eq g1.symm)
  have sz_b1 : h0.size ≤ b1 := Nat.le_trans K0.1 (Nat.le_of_eq g1.symm)
  have ne_t_b1 : t ≠ b1 := Nat.ne_of_lt (Nat.lt_of_lt_of_le V_t.lt (Nat.le_of_eq g1.symm))
  have O1 := O0.ext E1
  have K1 := K0.ext E1
  obtain ⟨LL2, X1, N0⟩ : ∃ LL, Stand pG l eG _ _ mG _ belowG methG cG T1 LL 1 4 ∧ Fr n0 LL := ⟨_, X1, N0⟩
  have F1_24 : Fld Z h1 b1 "java/lang/String" "value" "[B" .null := D1 (Or.inr (ow hw 24 rfl)) (ty := (.array .byte)) (by decide)
  have F1_25 : Fld Z h1 b1 "java/lang/String" "coder" "B" (.int (0 : Int32)) := D1 (Or.inr (ow hw 25 rfl)) (ty := .byte) (by decide)
  refine ob T1 (mkF mG 10 #[oa t, oi (0 : Int32), oi ee] [(.ref b1)]) (fun _ kk => st1 _ kk) ?_
  refine uD X1 hx hby d10 11 (uA X1 hx hby d11 rfl 12 (uI X1 hx hby d12 rfl 13 (uI X1 hx hby d13 rfl 14 (uI X1 hx hby d14 rfl 15 ?_))))
  refine ob T1 (mkF mG 16 #[oa t, oi (0 : Int32), oi ee] [(.int ((0 : Int32) + ee)), (.int (0 : Int32)), (.ref t), (.ref b1), (.ref b1)]) (fun _ kk => XS.iadd X1.here hx rfl (hb hby d15) rfl kk) ?_
  rw [own_0add ee]
  show oGo pG eG belowG _ T1 (mkF mG 16 #[oa t, oi (0 : Int32), oi ee] [(.int ee), (.int (0 : Int32)), (.ref t), (.ref b1), (.ref b1)])
  obtain ⟨_, _, ⟨T3, L3, k3, n3⟩, -, X3, ⟨Lc3, hQ3, l3, y3, z3⟩, st3⟩ := Jvm.LawKit.callS X1 hx (y := (⟨"java/util/Arrays", "copyOfRange", "([BII)[B"⟩ : MethodName)) hown (mvT hZ (ow hw 125 rfl)) (mvT hZ (ow hw 126 rfl)) (mvT hZ (ow hw 127 rfl)) (mvT hZ (ow hw 128 rfl)) (by decide) (backOf (W := 2) (rm_cor t kb nn ee c0 c1 c2 c3 c4 c5 c6 c7 ⟨hw, O1, hS⟩ (V_t.ext E1) he hlt) hZ (ow hw 128 rfl) (ow hw 127 rfl) (by decide) (by decide)) (g := (mkF mG 16 #[oa t, oi (0 : Int32), oi ee] [(.int ee), (.int (0 : Int32)), (.ref t), (.ref b1), (.ref b1)])) rfl (by rw [hml]; rfl) (argsL := [(.ref t), (.int (0 : Int32)), (.int ee)]) (rest := [(.ref b1), (.ref b1)]) (lenOf pd_12 rfl) rfl (by show 2 * 0 + _ ≤ _; exact Nat.le_of_eq rfl) (hb hby d16) (fun _ _ => ⟨rfl, e1, (by decide : 1 + 1 ≤ _), (by decide : 4 + 8 ≤ _)⟩)
  dsimp only [Pt.U, Pt.locs, Pt.cells, Pt.slots] at X3 l3 y3 z3 st3 hQ3
  subst l3 y3 z3
  obtain ⟨h3, e3⟩ : ∃ h, T3.heap = h := ⟨_, rfl⟩
  rw [e3] at hQ3
  obtain ⟨b0_3, kq1_3, rfl, N3q, K3q, O3, n_b0_3, z_b0_3, F3_0⟩ := hQ3
  have N3 := Fr.app N0 N3q
  have sz_b0_3 : h0.size ≤ b0_3 := Nat.le_trans K1.1 z_b0_3
  have ne_t_b0_3 : t ≠ b0_3 := Nat.ne_of_lt (Nat.lt_of_lt_of_le (V_t.ext E1).lt z_b0_3)
  have ne_b1_b0_3 : b1 ≠ b0_3 := Nat.ne_of_lt (Nat.lt_of_lt_of_le A1.lt z_b0_3)
  have K3 := K1.trans K3q all0
  obtain ⟨LL4, X3, N3⟩ : ∃ LL, Stand pG l eG _ _ mG _ belowG methG cG T3 LL 2 12 ∧ Fr n0 LL := ⟨_, X3, N3⟩
  refine ob T3 (mkF mG 19 #[oa t, oi (0 : Int32), oi ee] [(.ref b0_3), (.ref b1), (.ref b1)]) (fun _ kk => st3 _ kk) ?_
  refine uC X3 hx hby d19 0 20 ?_
  obtain ⟨_, _, ⟨T5, L5, k5, n5⟩, -, X5, ⟨Lc5, hQ5, l5, y5, z5⟩, st5⟩ := X3.specialBack hx (y := (⟨"java/lang/String", "<init>", "([BB)V"⟩ : MethodName)) rfl hown (mvT hZ (ow hw 143 rfl)) (mvT hZ (ow hw 144 rfl)) (mvT hZ (ow hw 145 rfl)) (by decide) (backOf (W := 1) (rm_bbi b1 b0_3 .null (.int (0 : Int32)) ⟨hw, O3, hS⟩ (A1.keep K3q) (F1_24.keep K3q nin0) (F1_25.keep K3q nin0) n_b1) hZ (ow hw 145 rfl) (ow hw 8 rfl) (by decide) (by decide)) (g := (mkF mG 20 #[oa t, oi (0 : Int32), oi ee] [(.int (0 : Int32)), (.ref b0_3), (.ref b1), (.ref b1)])) rfl (by rw [hml]; rfl) (Steps.refl _) (a := b1) (argsL := [(.ref b0_3), (.int (0 : Int32))]) (rest := [(.ref b1)]) (lenOf pd_13 rfl) rfl (by show 2 * 0 + _ ≤ _; exact Nat.le_of_eq rfl) (hb hby d20) (fun _ _ => ⟨rfl, e3, (by decide : 2 + 0 ≤ _), (by decide : 12 + 0 ≤ _)⟩)
  dsimp only [Pt.U, Pt.locs, Pt.cells, Pt.slots] at X5 l5 y5 z5 st5 hQ5
  subst l5 y5 z5
  obtain ⟨h5, e5⟩ : ∃ h, T5.heap = h := ⟨_, rfl⟩
  rw [e5] at hQ5
  obtain ⟨rfl, N5q, K5q, O5, F5_0, F5_1⟩ := hQ5
  have N5 := Fr.app N3 N5q
  have K5 := K3.trans K5q (allS (Or.inr sz_b1) all0)
  obtain ⟨LL6, X5, N5⟩ : ∃ LL, Stand pG l eG _ _ mG _ belowG methG cG T5 LL 2 12 ∧ Fr n0 LL := ⟨_, X5, N5⟩
  refine ob T5 (mkF mG 23 #[oa t, oi (0 : Int32), oi ee] [(.ref b1)]) (fun _ kk => st5.trans kk) ?_
  exact oRA X5 hx hby hret hlk e5 d23 ⟨b1, b0_3, kq1_3, rfl, N5, K5, O5, n_b1, n_b0_3, sz_b1, sz_b0_3, ((A1.keep K3q).keep K5q), F5_0, F5_1, (F3_0.keep K5q (ninS (Ne.symm ne_b1_b0_3) nin0))⟩

abbrev K27 (n : Nat) (i : Instr) (k : Nat) : Prop := decode jdk_42_method_92_code n = .ok (i, k)
set_option maxRecDepth 65536 in
theorem t27 : K27 0 (.aload_n 0) 1 ∧ K27 1 (.invokevirtual 505) 3 ∧ K27 4 (.istore_n 3) 1 ∧ K27 5 (.iload_n 1) 1 ∧ K27 6 (.iload_n 2) 1 ∧ K27 7 (.iload_n 3) 1 ∧ K27 8 (.invokestatic 521) 3 ∧ K27 11 (.iload_n 1) 1 ∧ K27 12 (.ifCond .ne 10) 3 ∧ K27 15 (.iload_n 2) 1 ∧ K27 16 (.iload_n 3) 1 ∧ K27 17 (.if_icmp .ne 5) 3 ∧ K27 22 (.iload_n 2) 1 ∧ K27 23 (.iload_n 1) 1 ∧ K27 24 .isub 1 ∧ K27 25 (.istore 4) 2 ∧ K27 27 (.aload_n 0) 1 ∧ K27 28 (.invokevirtual 492) 3 ∧ K27 31 (.ifCond .eq 16) 3 ∧ K27 34 (.aload_n 0) 1 ∧ K27 35 (.getfield 9) 3 ∧ K27 38 (.iload_n 1) 1 ∧ K27 39 (.iload 4) 2 ∧ K27 41 (.invokestatic 685) 3 ∧ K27 44 (.goto 13) 3 ∧ K27 57 .areturn 1 := by and_intros <;> decide +kernel
theorem pd_14 : parseMethodDescriptor "(III)V" = some ⟨[.int, .int, .int], none⟩ := by decide +kernel
theorem pd_15 : parseMethodDescriptor "([BII)Ljava/lang/String;" = some ⟨[(.array .byte), .int, .int], some (.object "java/lang/String")⟩ := by decide +kernel
def Q_rm_sub (Z : State) (wR wI : Addr) (zc : Int32) (vf : Value) (wB wL wV : Addr) (cV : Cell) (a t : Addr) (kb : ClassId) (nn ee c0 c1 c2 c3 c4 c5 c6 c7 : Int32) (h0 : Heap) (n0 : Nat) (v : Option Value) (h : Heap) (L : List Loc) : Prop := ∃ (b0 b1 : Addr) (kq2 : ClassId), v = some (.ref b0) ∧ Fr n0 L ∧ Keep h0 h [] ∧ Old Z n0 h ∧ n0 ≤ b0 ∧ n0 ≤ b1 ∧ h0.size ≤ b0 ∧ h0.size ≤ b1 ∧ Exa Z h b0 "java/lang/String" ∧ Fld Z h b0 "java/lang/String" "value" "[B" (.ref b1) ∧ Fld Z h b0 "java/lang/String" "coder" "B" (.int (0 : Int32)) ∧ Arv Z h b1 kq2 .byte ee (oB8 c0 c1 c2 c3 c4 c5 c6 c7) (.int (0 : Int32))
theorem rm_sub (a t : Addr) (kb : ClassId) (nn ee c0 c1 c2 c3 c4 c5 c6 c7 : Int32) (H : oH Z a0 n0 h0 wR wI zc vf wB wL wV cV) (E_a : Exa Z h0 a "java/lang/String") (F_c : Fld Z h0 a "java/lang/String" "coder" "B" (.int (0 : Int32))) (F_v : Fld Z h0 a "java/lang/String" "value" "[B" (.ref t)) (V_t : Arv Z h0 t kb .byte nn (oB8 c0 c1 c2 c3 c4 c5 c6 c7) (.int (0 : Int32))) (he : oE7 ee) (hlt : ee < nn) : oM l Z (⟨"java/lang/String", "substring", "(II)Ljava/lang/String;"⟩ : MethodName) jdk_42_method_92_code 5 (some (.object "java/lang/String")) (oRm 4 2 12 86) #[(.ref a), (.int (0 : Int32)), (.int ee)] h0 (Q_rm_sub Z wR wI zc vf wB wL wV cV a t kb nn ee c0 c1 c2 c3 c4 c5 c6 c7 h0 n0) := by
  obtain ⟨hw, O0, hS⟩ := H
  refine oBody (plainFor_of_name pn_1) #[oa a, oi (0 : Int32), oi ee, .unset, .unset] (fun _ => by first | (simp [entryFrame, mkF, argsToLocals, Value.category]; done) | rfl) ?_
  intro pG eG sG mG belowG methG cG s₁ hx hby hml hown hnm hret hlk X0 e0 hZ
  have N0 := Fr.nil n0
  have K0 := Keep.refl h0 []
  obtain ⟨d0, d1, d4, d5, d6, d7, d8, d11, d12, d15, d16, d17, d22, d23, d24, d25, d27, d28, d31, d34, d35, d38, d39, d41, d44, d57⟩ := t27
  refine uA X0 hx hby d0 rfl 1 ?_
  refine oVp X0 hx hby hZ hown (ow hw 114 rfl) (ow hw 75 rfl) (ow hw 77 rfl) (ow hw 76 rfl) (ow hw 78 rfl) (ow hw 8 rfl) (rm_len a t kb nn ((oB8 c0 c1 c2 c3 c4 c5 c6 c7)) ⟨hw, O0, hS⟩ E_a F_c F_v V_t) e0 E_a N0 hml [] [] pd_8 d1 4 ?_
  intro T1 L1 X1 e1 N1
  refine uT X1 hx hby d4 #[oa a, oi (0 : Int32), oi ee, oi nn, .unset] 5 (uI X1 hx hby d5 rfl 6 (uI X1 hx hby d6 rfl 7 (uI X1 hx hby d7 rfl 8 ?_)))
  refine oCv X1 hx hby hZ hown (ow hw 115 rfl) (ow hw 116 rfl) (ow hw 117 rfl) (ow hw 8 rfl) (rm_ckb ee nn ⟨hw, O0, hS⟩ he hlt) e1 N1 hml [(.int (0 : Int32)), (.int ee), (.int nn)] [] pd_14 d8 11 ?_
  intro T2 L2 X2 e2 N2
  refine uI X2 hx hby d11 rfl 12 (uN X2 hx hby d12 ((if0 _ _).trans (teq (by decide : (0 : Int32) = (0 : Int32))).2) 15 (uI X2 hx hby d15 rfl 16 (uI X2 hx hby d16 rfl 17 (uYc X2 hx hby d17 (feq (own_ltn hlt)).2 22 (uI X2 hx hby d22 rfl 23 (uI X2 hx hby d23 rfl 24 ?_))))))
  refine ob T2 (mkF mG 25 #[oa a, oi (0 : Int32), oi ee, oi nn, .unset] [(.int (ee - (0 : Int32)))]) (fun _ kk => XS.isub X2.here hx rfl (hb hby d24) rfl kk) ?_
  rw [own_sub0 ee]
  show oGo pG eG belowG _ T2 (mkF mG 25 #[oa a, oi (0 : Int32), oi ee, oi nn, .unset] [(.int ee)])
  refine uT2 X2 hx hby d25 #[oa a, oi (0 : Int32), oi ee, oi nn, oi ee] 27 (uA X2 hx hby d27 rfl 28 ?_)
  refine oVp X2 hx hby hZ hown (ow hw 89 rfl) (ow hw 90 rfl) (ow hw 92 rfl) (ow hw 91 rfl) (ow hw 93 rfl) (ow hw 8 rfl) (rm_lat a ⟨hw, O0, hS⟩ F_c) e2 E_a N2 hml [] [] pd_6 d28 31 ?_
  intro T3 L3 X3 e3 N3
  refine uN X3 hx hby d31 ((if0 _ _).trans (feq (by decide : ¬ ((1 : Int32) = (0 : Int32)))).1) 34 (uA X3 hx hby d34 rfl 35 ?_)
  refine oGf X3 hx hby hZ hown (ow hw 28 rfl) Via.refl e3 F_v d35 38 ?_
  intro T4 X4 e4
  refine uI X4 hx hby d38 rfl 39 (uI2 X4 hx hby d39 rfl 41 ?_)
  obtain ⟨_, _, ⟨T5, L5, k5, n5⟩, -, X5, ⟨Lc5, hQ5, l5, y5, z5⟩, st5⟩ := Jvm.LawKit.callS X4 hx (y := (⟨"java/lang/StringLatin1", "newString", "([BII)Ljava/lang/String;"⟩ : MethodName)) hown (mvT hZ (ow hw 121 rfl)) (mvT hZ (ow hw 122 rfl)) (mvT hZ (ow hw 96 rfl)) (mvT hZ (ow hw 123 rfl)) (by decide) (backOf (W := 0) (rm_nst t kb nn ee c0 c1 c2 c3 c4 c5 c6 c7 ⟨hw, O0, hS⟩ V_t he hlt) hZ (ow hw 123 rfl) (ow hw 96 rfl) (by decide) (by decide)) (g := (mkF mG 41 #[oa a, oi (0 : Int32), oi ee, oi nn, oi ee] [(.int ee), (.int (0 : Int32)), (.ref t)])) rfl (by rw [hml]; rfl) (argsL := [(.ref t), (.int (0 : Int32)), (.int ee)]) (rest := []) (lenOf pd_15 rfl) rfl (by show 2 * 0 + _ ≤ _; exact Nat.le_of_eq rfl) (hb hby d41) (fun _ _ => ⟨rfl, e4, (by decide : 0 + 2 ≤ _), (by decide : 0 + 12 ≤ _)⟩)
  dsimp only [Pt.U, Pt.locs, Pt.cells, Pt.slots] at X5 l5 y5 z5 st5 hQ5
  subst l5 y5 z5
  obtain ⟨h5, e5⟩ : ∃ h, T5.heap = h := ⟨_, rfl⟩
  rw [e5] at hQ5
  obtain ⟨b0_5, b1_5, kq2_5, rfl, N5q, K5q, O5, n_b0_5, n_b1_5, z_b0_5, z_b1_5, F5_0, F5_1, F5_2, F5_3⟩ := hQ5
  have N5 := Fr.app N3 N5q
  have sz_b0_5 : h0.size ≤ b0_5 := Nat.le_trans K0.1 z_b0_5
  have ne_a_b0_5 : a ≠ b0_5 := Nat.ne_of_lt (Nat.lt_of_lt_of_le E_a.lt z_b0_5)
  have ne_t_b0_5 : t ≠ b0_5 := Nat.ne_of_lt (Nat.lt_of_lt_of_le V_t.lt z_b0_5)
  have sz_b1_5 : h0.size ≤ b1_5 := Nat.le_trans K0.1 z_b1_5
  have ne_a_b1_5 : a ≠ b1_5 := Nat.ne_of_lt (Nat.lt_of_lt_of_le E_a.lt z_b1_5)
  have ne_t_b1_5 : t ≠ b1_5 := Nat.ne_of_lt (Nat.lt_of_lt_of_le V_t.lt z_b1_5)
  have K5 := K0.trans K5q all0
  obtain ⟨LL6, X5, N5⟩ : ∃ LL, Stand pG l eG _ _ mG _ belowG methG cG T5 LL 2 12 ∧ Fr n0 LL := ⟨_, X5, N5⟩
  refine ob T5 (mkF mG 44 #[oa a, oi (0 : Int32), oi ee, oi nn, oi ee] [(.ref b0_5)]) (fun _ kk => st5 _ kk) ?_
  refine uG X5 hx hby d44 57 ?_
  exact oRA X5 hx hby hret hlk e5 d57 ⟨b0_5, b1_5, kq2_5, rfl, N5, K5, O5, n_b0_5, n_b1_5, sz_b0_5, sz_b1_5, F5_0, F5_1, F5_2, F5_3⟩

def oEq (x y : Int32) : Int32 := if x = y then 1 else if (x &&& (223 : Int32)) < (65 : Int32) then 0 else if (90 : Int32) < (x &&& (223 : Int32)) then (if (x &&& (223 : Int32)) < (192 : Int32) then 0 else if (222 : Int32) < (x &&& (223 : Int32)) then 0 else if (x &&& (223 : Int32)) = (215 : Int32) then 0 else if (x &&& (223 : Int32)) = (y &&& (223 : Int32)) then 1 else 0) else if (x &&& (223 : Int32)) = (y &&& (223 : Int32)) then 1 else 0

abbrev K51 (n : Nat) (i : Instr) (k : Nat) : Prop := decode jdk_116_method_22_code n = .ok (i, k)
set_option maxRecDepth 65536 in
theorem t51 : K51 0 (.iload_n 0) 1 ∧ K51 1 (.iload_n 1) 1 ∧ K51 2 (.if_icmp .ne 5) 3 ∧ K51 5 (.iconst 1) 1 ∧ K51 6 .ireturn 1 ∧ K51 7 (.iload_n 0) 1 ∧ K51 8 (.sipush 223) 3 ∧ K51 11 .iand 1 ∧ K51 12 (.istore_n 2) 1 ∧ K51 13 (.iload_n 2) 1 ∧ K51 14 (.bipush 65) 2 ∧ K51 16 (.if_icmp .ge 5) 3 ∧ K51 19 (.iconst 0) 1 ∧ K51 20 .ireturn 1 ∧ K51 21 (.iload_n 2) 1 ∧ K51 22 (.bipush 90) 2 ∧ K51 24 (.if_icmp .le 24) 3 ∧ K51 27 (.iload_n 2) 1 ∧ K51 28 (.sipush 192) 3 ∧ K51 31 (.if_icmp .lt 30) 3 ∧ K51 34 (.iload_n 2) 1 ∧ K51 35 (.sipush 222) 3 ∧ K51 38 (.if_icmp .gt 23) 3 ∧ K51 41 (.iload_n 2) 1 ∧ K51 42 (.sipush 215) 3 ∧ K51 45 (.if_icmp .eq 16) 3 ∧ K51 48 (.iload_n 2) 1 ∧ K51 49 (.iload_n 1) 1 ∧ K51 50 (.sipush 223) 3 ∧ K51 53 .iand 1 ∧ K51 54 (.if_icmp .ne 7) 3 ∧ K51 57 (.iconst 1) 1 ∧ K51 58 (.goto 4) 3 ∧ K51 61 (.iconst 0) 1 ∧ K51 62 .ireturn 1 := by and_intros <;> decide +kernel
theorem rm_eqi (xx yy : Int32) (H : oH Z a0 n0 h0 wR wI zc vf wB wL wV cV) : oPu l Z (⟨"java/lang/CharacterDataLatin1", "equalsIgnoreCase", "(BB)Z"⟩ : MethodName) jdk_116_method_22_code 3 (some .boolean) (oRm 0 0 0 0) #[(.int xx), (.int yy)] h0 n0 (some (.int (oEq xx yy))) := by
  obtain ⟨hw, O0, hS⟩ := H
  refine oBody (plainFor_of_name pn_6) #[oi xx, oi yy, .unset] (fun _ => by first | (simp [entryFrame, mkF, argsToLocals, Value.category]; done) | rfl) ?_
  intro pG eG sG mG belowG methG cG s₁ hx hby hml hown hnm hret hlk X0 e0 hZ
  have N0 := Fr.nil n0
  have K0 := Keep.refl h0 []
  obtain ⟨d0, d1, d2, d5, d6, d7, d8, d11, d12, d13, d14, d16, d19, d20, d21, d22, d24, d27, d28, d31, d34, d35, d38, d41, d42, d45, d48, d49, d50, d53, d54, d57, d58, d61, d62⟩ := t51
  refine uI X0 hx hby d0 rfl 1 (uI X0 hx hby d1 rfl 2 ?_)
  by_cases hc1 : xx = yy
  · refine uNc X0 hx hby d2 (teq hc1).2 5 (uC X0 hx hby d5 1 6 ?_)
    exact oRZ X0 hx hby hret hlk e0 d6 (1 : Int32) ⟨(by unfold oEq; rw [if_pos hc1]), N0, rfl⟩
  refine uYc X0 hx hby d2 (feq hc1).2 7 (uI X0 hx hby d7 rfl 8 (uS X0 hx hby d8 223 11 (uAnd X0 hx hby d11 12 (uT X0 hx hby d12 #[oi xx, oi yy, oi (xx &&& (223 : Int32))] 13 (uI X0 hx hby d13 rfl 14 (uB X0 hx hby d14 65 16 ?_))))))
  by_cases hc2 : (xx &&& (223 : Int32)) < (65 : Int32)
  · refine uNc X0 hx hby d16 (tlt hc2).2.1 19 (uC X0 hx hby d19 0 20 ?_)
    exact oRZ X0 hx hby hret hlk e0 d20 (0 : Int32) ⟨(by unfold oEq; rw [if_neg hc1, if_pos hc2]), N0, rfl⟩
  refine uYc X0 hx hby d16 (flt hc2).2.1 21 (uI X0 hx hby d21 rfl 22 (uB X0 hx hby d22 90 24 ?_))
  by_cases hc3 : (90 : Int32) < (xx &&& (223 : Int32))
  · refine uNc X0 hx hby d24 (tlt hc3).2.2.2 27 (uI X0 hx hby d27 rfl 28 (uS X0 hx hby d28 192 31 ?_))
    by_cases hc4 : (xx &&& (223 : Int32)) < (192 : Int32)
    · refine uYc X0 hx hby d31 (tlt hc4).1 61 (uC X0 hx hby d61 0 62 ?_)
      exact oRZ X0 hx hby hret hlk e0 d62 (0 : Int32) ⟨(by unfold oEq; rw [if_neg hc1, if_neg hc2, if_pos hc3, if_pos hc4]), N0, rfl⟩
    refine uNc X0 hx hby d31 (flt hc4).1 34 (uI X0 hx hby d34 rfl 35 (uS X0 hx hby d35 222 38 ?_))
    by_cases hc5 : (222 : Int32) < (xx &&& (223 : Int32))
    · refine uYc X0 hx hby d38 (tlt hc5).2.2.1 61 (uC X0 hx hby d61 0 62 ?_)
      exact oRZ X0 hx hby hret hlk e0 d62 (0 : Int32) ⟨(by unfold oEq; rw [if_neg hc1, if_neg hc2, if_pos hc3, if_neg hc4, if_pos hc5]), N0, rfl⟩
    refine uNc X0 hx hby d38 (flt hc5).2.2.1 41 (uI X0 hx hby d41 rfl 42 (uS X0 hx hby d42 215 45 ?_))
    by_cases hc6 : (xx &&& (223 : Int32)) = (215 : Int32)
    · refine uYc X0 hx hby d45 (teq hc6).1 61 (uC X0 hx hby d61 0 62 ?_)
      exact oRZ X0 hx hby hret hlk e0 d62 (0 : Int32) ⟨(by unfold oEq; rw [if_neg hc1, if_neg hc2, if_pos hc3, if_neg hc4, if_neg hc5, if_pos hc6]), N0, rfl⟩
    refine uNc X0 hx hby d45 (feq hc6).1 48 (uI X0 hx hby d48 rfl 49 (uI X0 hx hby d49 rfl 50 (uS X0 hx hby d50 223 53 (uAnd X0 hx hby d53 54 ?_))))
    by_cases hc7 : (xx &&& (223 : Int32)) = (yy &&& (223 : Int32))
    · refine uNc X0 hx hby d54 (teq hc7).2 57 (uC X0 hx hby d57 1 58 (uG X0 hx hby d58 62 ?_))
      exact oRZ X0 hx hby hret hlk e0 d62 (1 : Int32) ⟨(by unfold oEq; rw [if_neg hc1, if_neg hc2, if_pos hc3, if_neg hc4, if_neg hc5, if_neg hc6, if_pos hc7]), N0, rfl⟩
    refine uYc X0 hx hby d54 (feq hc7).2 61 (uC X0 hx hby d61 0 62 ?_)
    exact oRZ X0 hx hby hret hlk e0 d62 (0 : Int32) ⟨(by unfold oEq; rw [if_neg hc1, if_neg hc2, if_pos hc3, if_neg hc4, if_neg hc5, if_neg hc6, if_neg hc7]), N0, rfl⟩
  refine uYc X0 hx hby d24 (flt hc3).2.2.2 48 (uI X0 hx hby d48 rfl 49 (uI X0 hx hby d49 rfl 50 (uS X0 hx hby d50 223 53 (uAnd X0 hx hby d53 54 ?_))))
  by_cases hc8 : (xx &&& (223 : Int32)) = (yy &&& (223 : Int32))
  · refine uNc X0 hx hby d54 (teq hc8).2 57 (uC X0 hx hby d57 1 58 (uG X0 hx hby d58 62 ?_))
    exact oRZ X0 hx hby hret hlk e0 d62 (1 : Int32) ⟨(by unfold oEq; rw [if_neg hc1, if_neg hc2, if_neg hc3, if_pos hc8]), N0, rfl⟩
  refine uYc X0 hx hby d54 (feq hc8).2 61 (uC X0 hx hby d61 0 62 ?_)
  exact oRZ X0 hx hby hret hlk e0 d62 (0 : Int32) ⟨(by unfold oEq; rw [if_neg hc1, if_neg hc2, if_neg hc3, if_neg hc8]), N0, rfl⟩

def oJd (c0 c1 c2 c3 : Int32) : Int32 := if oEq (c0.toInt8.toInt32) (106 : Int32) = (0 : Int32) then 0 else if oEq (c1.toInt8.toInt32) (100 : Int32) = (0 : Int32) then 0 else if oEq (c2.toInt8.toInt32) (98 : Int32) = (0 : Int32) then 0 else if oEq (c3.toInt8.toInt32) (99 : Int32) = (0 : Int32) then 0 else 1

theorem own_jd01 (c0 c1 c2 c3 : Int32) : oJd c0 c1 c2 c3 = 0 ∨ oJd c0 c1 c2 c3 = 1 := by
  unfold oJd
  split
  · exact Or.inl rfl
  · split
    · exact Or.inl rfl
    · split
      · exact Or.inl rfl
      · split
        · exact Or.inl rfl
        · exact Or.inr rfl
theorem own_jd1 {c0 c1 c2 c3 : Int32} (h : ¬ oJd c0 c1 c2 c3 = (0 : Int32)) : oJd c0 c1 c2 c3 = 1 := (own_jd01 c0 c1 c2 c3).resolve_left h
theorem own_njd (c0 c1 c2 c3 : Int32) : nar .boolean (oJd c0 c1 c2 c3) = oJd c0 c1 c2 c3 := by
  rcases own_jd01 c0 c1 c2 c3 with h | h <;> rw [h] <;> rfl

abbrev K50 (n : Nat) (i : Instr) (k : Nat) : Prop := decode jdk_43_method_30_code n = .ok (i, k)
set_option maxRecDepth 65536 in
theorem t50 : K50 0 (.iload_n 1) 1 ∧ K50 1 (.iload 4) 2 ∧ K50 3 .iadd 1 ∧ K50 4 (.istore 5) 2 ∧ K50 6 (.iload_n 1) 1 ∧ K50 7 (.iload 5) 2 ∧ K50 9 (.if_icmp .ge 34) 3 ∧ K50 12 (.aload_n 0) 1 ∧ K50 13 (.iload_n 1) 1 ∧ K50 14 (.iinc 1 1) 3 ∧ K50 17 .baload 1 ∧ K50 18 (.istore 6) 2 ∧ K50 20 (.aload_n 2) 1 ∧ K50 21 (.iload_n 3) 1 ∧ K50 22 (.iinc 3 1) 3 ∧ K50 25 .baload 1 ∧ K50 26 (.istore 7) 2 ∧ K50 28 (.iload 6) 2 ∧ K50 30 (.iload 7) 2 ∧ K50 32 (.invokestatic 153) 3 ∧ K50 35 (.ifCond .eq 6) 3 ∧ K50 38 (.goto (-32)) 3 ∧ K50 41 (.iconst 0) 1 ∧ K50 42 .ireturn 1 ∧ K50 43 (.iconst 1) 1 ∧ K50 44 .ireturn 1 := by and_intros <;> decide +kernel
theorem pd_16 : parseMethodDescriptor "(BB)Z" = some ⟨[.byte, .byte], some .boolean⟩ := by decide +kernel
theorem rm_rci (t : Addr) (kb : ClassId) (u : Addr) (kd : ClassId) (c0 c1 c2 c3 c4 c5 c6 c7 : Int32) (H : oH Z a0 n0 h0 wR wI zc vf wB wL wV cV) (V_t : Arv Z h0 t kb .byte (4 : Int32) (oB8 c0 c1 c2 c3 c4 c5 c6 c7) (.int (0 : Int32))) (V_u : Arv Z h0 u kd .byte (4 : Int32) [(.int (106 : Int32)), (.int (100 : Int32)), (.int (98 : Int32)), (.int (99 : Int32))] (.int (0 : Int32))) : oPu l Z (⟨"java/lang/StringLatin1", "regionMatchesCI", "([BI[BII)Z"⟩ : MethodName) jdk_43_method_30_code 8 (some .boolean) (oRm 1 0 0 14) #[(.ref t), (.int (0 : Int32)), (.ref u), (.int (0 : Int32)), (.int (4 : Int32))] h0 n0 (some (.int (oJd c0 c1 c2 c3))) := by
  obtain ⟨hw, O0, hS⟩ := H
  refine oBody (plainFor_of_name pn_3) #[oa t, oi (0 : Int32), oa u, oi (0 : Int32), oi (4 : Int32), .unset, .unset, .unset] (fun _ => by first | (simp [entryFrame, mkF, argsToLocals, Value.category]; done) | rfl) ?_
  intro pG eG sG mG belowG methG cG s₁ hx hby hml hown hnm hret hlk X0 e0 hZ
  have N0 := Fr.nil n0
  have K0 := Keep.refl h0 []
  obtain ⟨d0, d1, d3, d4, d6, d7, d9, d12, d13, d14, d17, d18, d20, d21, d22, d25, d26, d28, d30, d32, d35, d38, d41, d42, d43, d44⟩ := t50
  refine uI X0 hx hby d0 rfl 1 (uI2 X0 hx hby d1 rfl 3 ?_)
  refine ob s₁ (mkF mG 4 #[oa t, oi (0 : Int32), oa u, oi (0 : Int32), oi (4 : Int32), .unset, .unset, .unset] [(.int (4 : Int32))]) (fun _ kk => XS.iadd X0.here hx rfl (hb hby d3) rfl kk) ?_
  refine uT2 X0 hx hby d4 #[oa t, oi (0 : Int32), oa u, oi (0 : Int32), oi (4 : Int32), oi (4 : Int32), .unset, .unset] 6 (uI X0 hx hby d6 rfl 7 (uI2 X0 hx hby d7 rfl 9 (uNc X0 hx hby d9 (tlt (by decide : (0 : Int32) < (4 : Int32))).2.1 12 (uA X0 hx hby d12 rfl 13 (uI X0 hx hby d13 rfl 14 (uInc X0 hx hby d14 rfl #[oa t, oi (1 : Int32), oa u, oi (0 : Int32), oi (4 : Int32), oi (4 : Int32), .unset, .unset] 17 (oLb X0 hx hby hZ e0 V_t ⟨by decide, by decide⟩ rfl d17 18 (uT2 X0 hx hby d18 #[oa t, oi (1 : Int32), oa u, oi (0 : Int32), oi (4 : Int32), oi (4 : Int32), oi (c0.toInt8.toInt32), .unset] 20 (uA X0 hx hby d20 rfl 21 (uI X0 hx hby d21 rfl 22 (uInc X0 hx hby d22 rfl #[oa t, oi (1 : Int32), oa u, oi (1 : Int32), oi (4 : Int32), oi (4 : Int32), oi (c0.toInt8.toInt32), .unset] 25 (oLb X0 hx hby hZ e0 V_u ⟨by decide, by decide⟩ rfl d25 26 (uT2 X0 hx hby d26 #[oa t, oi (1 : Int32), oa u, oi (1 : Int32), oi (4 : Int32), oi (4 : Int32), oi (c0.toInt8.toInt32), oi (106 : Int32)] 28 (uI2 X0 hx hby d28 rfl 30 (uI2 X0 hx hby d30 rfl 32 ?_)))))))))))))))
  refine oCp X0 hx hby hZ hown (ow hw 232 rfl) (ow hw 233 rfl) (ow hw 234 rfl) (ow hw 165 rfl) (rm_eqi (c0.toInt8.toInt32) (106 : Int32) ⟨hw, O0, hS⟩ ) e0 N0 hml [(.int (c0.toInt8.toInt32)), (.int (106 : Int32))] [] pd_16 d32 35 ?_
  intro T1 L1 X1 e1 N1
  by_cases hc2 : (oEq (c0.toInt8.toInt32) (106 : Int32)) = (0 : Int32)
  · refine uY X1 hx hby d35 ((if0 _ _).trans (teq hc2).1) 41 (uC X1 hx hby d41 0 42 ?_)
    exact oRZ X1 hx hby hret hlk e1 d42 (0 : Int32) ⟨(by simp [oJd, hc2]), N1, rfl⟩
  refine uN X1 hx hby d35 ((if0 _ _).trans (feq hc2).1) 38 (uG X1 hx hby d38 6 (uI X1 hx hby d6 rfl 7 (uI2 X1 hx hby d7 rfl 9 (uNc X1 hx hby d9 (tlt (by decide : (1 : Int32) < (4 : Int32))).2.1 12 (uA X1 hx hby d12 rfl 13 (uI X1 hx hby d13 rfl 14 (uInc X1 hx hby d14 rfl #[oa t, oi (2 : Int32), oa u, oi (1 : Int32), oi (4 : Int32), oi (4 : Int32), oi (c0.toInt8.toInt32), oi (106 : Int32)] 17 (oLb X1 hx hby hZ e1 V_t ⟨by decide, by decide⟩ rfl d17 18 (uT2 X1 hx hby d18 #[oa t, oi (2 : Int32), oa u, oi (1 : Int32), oi (4 : Int32), oi (4 : Int32), oi (c1.toInt8.toInt32), oi (106 : Int32)] 20 (uA X1 hx hby d20 rfl 21 (uI X1 hx hby d21 rfl 22 (uInc X1 hx hby d22 rfl #[oa t, oi (2 : Int32), oa u, oi (2 : Int32), oi (4 : Int32), oi (4 : Int32), oi (c1.toInt8.toInt32), oi (106 : Int32)] 25 (oLb X1 hx hby hZ e1 V_u ⟨by decide, by decide⟩ rfl d25 26 (uT2 X1 hx hby d26 #[oa t, oi (2 : Int32), oa u, oi (2 : Int32), oi (4 : Int32), oi (4 : Int32), oi (c1.toInt8.toInt32), oi (100 : Int32)] 28 (uI2 X1 hx hby d28 rfl 30 (uI2 X1 hx hby d30 rfl 32 ?_))))))))))))))))
  refine oCp X1 hx hby hZ hown (ow hw 232 rfl) (ow hw 233 rfl) (ow hw 234 rfl) (ow hw 165 rfl) (rm_eqi (c1.toInt8.toInt32) (100 : Int32) ⟨hw, O0, hS⟩ ) e1 N1 hml [(.int (c1.toInt8.toInt32)), (.int (100 : Int32))] [] pd_16 d32 35 ?_
  intro T3 L3 X3 e3 N3
  by_cases hc4 : (oEq (c1.toInt8.toInt32) (100 : Int32)) = (0 : Int32)
  · refine uY X3 hx hby d35 ((if0 _ _).trans (teq hc4).1) 41 (uC X3 hx hby d41 0 42 ?_)
    exact oRZ X3 hx hby hret hlk e3 d42 (0 : Int32) ⟨(by simp [oJd, hc2, hc4]), N3, rfl⟩
  refine uN X3 hx hby d35 ((if0 _ _).trans (feq hc4).1) 38 (uG X3 hx hby d38 6 (uI X3 hx hby d6 rfl 7 (uI2 X3 hx hby d7 rfl 9 (uNc X3 hx hby d9 (tlt (by decide : (2 : Int32) < (4 : Int32))).2.1 12 (uA X3 hx hby d12 rfl 13 (uI X3 hx hby d13 rfl 14 (uInc X3 hx hby d14 rfl #[oa t, oi (3 : Int32), oa u, oi (2 : Int32), oi (4 : Int32), oi (4 : Int32), oi (c1.toInt8.toInt32), oi (100 : Int32)] 17 (oLb X3 hx hby hZ e3 V_t ⟨by decide, by decide⟩ rfl d17 18 (uT2 X3 hx hby d18 #[oa t, oi (3 : Int32), oa u, oi (2 : Int32), oi (4 : Int32), oi (4 : Int32), oi (c2.toInt8.toInt32), oi (100 : Int32)] 20 (uA X3 hx hby d20 rfl 21 (uI X3 hx hby d21 rfl 22 (uInc X3 hx hby d22 rfl #[oa t, oi (3 : Int32), oa u, oi (3 : Int32), oi (4 : Int32), oi (4 : Int32), oi (c2.toInt8.toInt32), oi (100 : Int32)] 25 (oLb X3 hx hby hZ e3 V_u ⟨by decide, by decide⟩ rfl d25 26 (uT2 X3 hx hby d26 #[oa t, oi (3 : Int32), oa u, oi (3 : Int32), oi (4 : Int32), oi (4 : Int32), oi (c2.toInt8.toInt32), oi (98 : Int32)] 28 (uI2 X3 hx hby d28 rfl 30 (uI2 X3 hx hby d30 rfl 32 ?_))))))))))))))))
  refine oCp X3 hx hby hZ hown (ow hw 232 rfl) (ow hw 233 rfl) (ow hw 234 rfl) (ow hw 165 rfl) (rm_eqi (c2.toInt8.toInt32) (98 : Int32) ⟨hw, O0, hS⟩ ) e3 N3 hml [(.int (c2.toInt8.toInt32)), (.int (98 : Int32))] [] pd_16 d32 35 ?_
  intro T5 L5 X5 e5 N5
  by_cases hc6 : (oEq (c2.toInt8.toInt32) (98 : Int32)) = (0 : Int32)
  · refine uY X5 hx hby d35 ((if0 _ _).trans (teq hc6).1) 41 (uC X5 hx hby d41 0 42 ?_)
    exact oRZ X5 hx hby hret hlk e5 d42 (0 : Int32) ⟨(by simp [oJd, hc2, hc4, hc6]), N5, rfl⟩
  refine uN X5 hx hby d35 ((if0 _ _).trans (feq hc6).1) 38 (uG X5 hx hby d38 6 (uI X5 hx hby d6 rfl 7 (uI2 X5 hx hby d7 rfl 9 (uNc X5 hx hby d9 (tlt (by decide : (3 : Int32) < (4 : Int32))).2.1 12 (uA X5 hx hby d12 rfl 13 (uI X5 hx hby d13 rfl 14 (uInc X5 hx hby d14 rfl #[oa t, oi (4 : Int32), oa u, oi (3 : Int32), oi (4 : Int32), oi (4 : Int32), oi (c2.toInt8.toInt32), oi (98 : Int32)] 17 (oLb X5 hx hby hZ e5 V_t ⟨by decide, by decide⟩ rfl d17 18 (uT2 X5 hx hby d18 #[oa t, oi (4 : Int32), oa u, oi (3 : Int32), oi (4 : Int32), oi (4 : Int32), oi (c3.toInt8.toInt32), oi (98 : Int32)] 20 (uA X5 hx hby d20 rfl 21 (uI X5 hx hby d21 rfl 22 (uInc X5 hx hby d22 rfl #[oa t, oi (4 : Int32), oa u, oi (4 : Int32), oi (4 : Int32), oi (4 : Int32), oi (c3.toInt8.toInt32), oi (98 : Int32)] 25 (oLb X5 hx hby hZ e5 V_u ⟨by decide, by decide⟩ rfl d25 26 (uT2 X5 hx hby d26 #[oa t, oi (4 : Int32), oa u, oi (4 : Int32), oi (4 : Int32), oi (4 : Int32), oi (c3.toInt8.toInt32), oi (99 : Int32)] 28 (uI2 X5 hx hby d28 rfl 30 (uI2 X5 hx hby d30 rfl 32 ?_))))))))))))))))
  refine oCp X5 hx hby hZ hown (ow hw 232 rfl) (ow hw 233 rfl) (ow hw 234 rfl) (ow hw 165 rfl) (rm_eqi (c3.toInt8.toInt32) (99 : Int32) ⟨hw, O0, hS⟩ ) e5 N5 hml [(.int (c3.toInt8.toInt32)), (.int (99 : Int32))] [] pd_16 d32 35 ?_
  intro T7 L7 X7 e7 N7
  by_cases hc8 : (oEq (c3.toInt8.toInt32) (99 : Int32)) = (0 : Int32)
  · refine uY X7 hx hby d35 ((if0 _ _).trans (teq hc8).1) 41 (uC X7 hx hby d41 0 42 ?_)
    exact oRZ X7 hx hby hret hlk e7 d42 (0 : Int32) ⟨(by simp [oJd, hc2, hc4, hc6, hc8]), N7, rfl⟩
  refine uN X7 hx hby d35 ((if0 _ _).trans (feq hc8).1) 38 (uG X7 hx hby d38 6 (uI X7 hx hby d6 rfl 7 (uI2 X7 hx hby d7 rfl 9 (uYc X7 hx hby d9 (flt (by decide : ¬ ((4 : Int32) < (4 : Int32)))).2.1 43 (uC X7 hx hby d43 1 44 ?_)))))
  exact oRZ X7 hx hby hret hlk e7 d44 (1 : Int32) ⟨(by simp [oJd, hc2, hc4, hc6, hc8]), N7, rfl⟩

abbrev K49 (n : Nat) (i : Instr) (k : Nat) : Prop := decode jdk_42_method_74_code n = .ok (i, k)
set_option maxRecDepth 65536 in
theorem t49 : K49 0 (.iload_n 1) 1 ∧ K49 1 (.ifCond .ne 14) 3 ∧ K49 15 (.iload 4) 2 ∧ K49 17 (.ifCond .lt 38) 3 ∧ K49 20 (.iload_n 2) 1 ∧ K49 21 (.ifCond .lt 34) 3 ∧ K49 24 (.iload_n 2) 1 ∧ K49 25 .i2l 1 ∧ K49 26 (.aload_n 0) 1 ∧ K49 27 (.invokevirtual 505) 3 ∧ K49 30 .i2l 1 ∧ K49 31 (.iload 5) 2 ∧ K49 33 .i2l 1 ∧ K49 34 .lsub 1 ∧ K49 35 .lcmp 1 ∧ K49 36 (.ifCond .gt 19) 3 ∧ K49 39 (.iload 4) 2 ∧ K49 41 .i2l 1 ∧ K49 42 (.aload_n 3) 1 ∧ K49 43 (.invokevirtual 505) 3 ∧ K49 46 .i2l 1 ∧ K49 47 (.iload 5) 2 ∧ K49 49 .i2l 1 ∧ K49 50 .lsub 1 ∧ K49 51 .lcmp 1 ∧ K49 52 (.ifCond .le 5) 3 ∧ K49 57 (.aload_n 0) 1 ∧ K49 58 (.getfield 9) 3 ∧ K49 61 (.astore 6) 2 ∧ K49 63 (.aload_n 3) 1 ∧ K49 64 (.getfield 9) 3 ∧ K49 67 (.astore 7) 2 ∧ K49 69 (.aload_n 0) 1 ∧ K49 70 (.invokevirtual 335) 3 ∧ K49 73 (.istore 8) 2 ∧ K49 75 (.iload 8) 2 ∧ K49 77 (.aload_n 3) 1 ∧ K49 78 (.invokevirtual 335) 3 ∧ K49 81 (.if_icmp .ne 36) 3 ∧ K49 84 (.iload 8) 2 ∧ K49 86 (.ifCond .ne 18) 3 ∧ K49 89 (.aload 6) 2 ∧ K49 91 (.iload_n 2) 1 ∧ K49 92 (.aload 7) 2 ∧ K49 94 (.iload 4) 2 ∧ K49 96 (.iload 5) 2 ∧ K49 98 (.invokestatic 613) 3 ∧ K49 101 (.goto 15) 3 ∧ K49 116 .ireturn 1 := by and_intros <;> decide +kernel
theorem pd_17 : parseMethodDescriptor "([BI[BII)Z" = some ⟨[(.array .byte), .int, (.array .byte), .int, .int], some .boolean⟩ := by decide +kernel
theorem rm_rgm (a o t : Addr) (kb : ClassId) (u : Addr) (kd : ClassId) (c0 c1 c2 c3 c4 c5 c6 c7 : Int32) (H : oH Z a0 n0 h0 wR wI zc vf wB wL wV cV) (E_a : Exa Z h0 a "java/lang/String") (F_c : Fld Z h0 a "java/lang/String" "coder" "B" (.int (0 : Int32))) (F_v : Fld Z h0 a "java/lang/String" "value" "[B" (.ref t)) (V_t : Arv Z h0 t kb .byte (4 : Int32) (oB8 c0 c1 c2 c3 c4 c5 c6 c7) (.int (0 : Int32))) (E_o : Exa Z h0 o "java/lang/String") (F_oc : Fld Z h0 o "java/lang/String" "coder" "B" (.int (0 : Int32))) (F_ov : Fld Z h0 o "java/lang/String" "value" "[B" (.ref u)) (V_u : Arv Z h0 u kd .byte (4 : Int32) [(.int (106 : Int32)), (.int (100 : Int32)), (.int (98 : Int32)), (.int (99 : Int32))] (.int (0 : Int32))) : oPu l Z (⟨"java/lang/String", "regionMatches", "(ZILjava/lang/String;II)Z"⟩ : MethodName) jdk_42_method_74_code 9 (some .boolean) (oRm 2 0 0 33) #[(.ref a), (.int (1 : Int32)), (.int (0 : Int32)), (.ref o), (.int (0 : Int32)), (.int (4 : Int32))] h0 n0 (some (.int (oJd c0 c1 c2 c3))) := by
  obtain ⟨hw, O0, hS⟩ := H
  refine oBody (plainFor_of_name pn_1) #[oa a, oi (1 : Int32), oi (0 : Int32), oa o, oi (0 : Int32), oi (4 : Int32), .unset, .unset, .unset] (fun _ => by first | (simp [entryFrame, mkF, argsToLocals, Value.category]; done) | rfl) ?_
  intro pG eG sG mG belowG methG cG s₁ hx hby hml hown hnm hret hlk X0 e0 hZ
  have N0 := Fr.nil n0
  have K0 := Keep.refl h0 []
  obtain ⟨d0, d1, d15, d17, d20, d21, d24, d25, d26, d27, d30, d31, d33, d34, d35, d36, d39, d41, d42, d43, d46, d47, d49, d50, d51, d52, d57, d58, d61, d63, d64, d67, d69, d70, d73, d75, d77, d78, d81, d84, d86, d89, d91, d92, d94, d96, d98, d101, d116⟩ := t49
  refine uI X0 hx hby d0 rfl 1 (uY X0 hx hby d1 ((if0 _ _).trans (feq (by decide : ¬ ((1 : Int32) = (0 : Int32)))).2) 15 (uI2 X0 hx hby d15 rfl 17 (uN X0 hx hby d17 ((if0 _ _).trans (flt (by decide : ¬ ((0 : Int32) < (0 : Int32)))).1) 20 (uI X0 hx hby d20 rfl 21 (uN X0 hx hby d21 ((if0 _ _).trans (flt (by decide : ¬ ((0 : Int32) < (0 : Int32)))).1) 24 (uI X0 hx hby d24 rfl 25 ?_))))))
  refine ob s₁ (mkF mG 26 #[oa a, oi (1 : Int32), oi (0 : Int32), oa o, oi (0 : Int32), oi (4 : Int32), .unset, .unset, .unset] [(.long ((0 : Int32).toInt64))]) (fun _ kk => XS.i2l X0.here hx rfl (hb hby d25) rfl kk) ?_
  refine uA X0 hx hby d26 rfl 27 ?_
  refine oVp X0 hx hby hZ hown (ow hw 114 rfl) (ow hw 75 rfl) (ow hw 77 rfl) (ow hw 76 rfl) (ow hw 78 rfl) (ow hw 8 rfl) (rm_len a t kb (4 : Int32) ((oB8 c0 c1 c2 c3 c4 c5 c6 c7)) ⟨hw, O0, hS⟩ E_a F_c F_v V_t) e0 E_a N0 hml [] [(.long ((0 : Int32).toInt64))] pd_8 d27 30 ?_
  intro T1 L1 X1 e1 N1
  refine ob T1 (mkF mG 31 #[oa a, oi (1 : Int32), oi (0 : Int32), oa o, oi (0 : Int32), oi (4 : Int32), .unset, .unset, .unset] [(.long ((4 : Int32).toInt64)), (.long ((0 : Int32).toInt64))]) (fun _ kk => XS.i2l X1.here hx rfl (hb hby d30) rfl kk) ?_
  refine uI2 X1 hx hby d31 rfl 33 ?_
  refine ob T1 (mkF mG 34 #[oa a, oi (1 : Int32), oi (0 : Int32), oa o, oi (0 : Int32), oi (4 : Int32), .unset, .unset, .unset] [(.long ((4 : Int32).toInt64)), (.long ((4 : Int32).toInt64)), (.long ((0 : Int32).toInt64))]) (fun _ kk => XS.i2l X1.here hx rfl (hb hby d33) rfl kk) ?_
  refine ob T1 (mkF mG 35 #[oa a, oi (1 : Int32), oi (0 : Int32), oa o, oi (0 : Int32), oi (4 : Int32), .unset, .unset, .unset] [(.long (((4 : Int32).toInt64) - ((4 : Int32).toInt64))), (.long ((0 : Int32).toInt64))]) (fun _ kk => XS.lsub X1.here hx rfl (hb hby d34) rfl kk) ?_
  refine ob T1 (mkF mG 36 #[oa a, oi (1 : Int32), oi (0 : Int32), oa o, oi (0 : Int32), oi (4 : Int32), .unset, .unset, .unset] [(.int (lcmpW ((0 : Int32).toInt64) (((4 : Int32).toInt64) - ((4 : Int32).toInt64))))]) (fun _ kk => XS.lcmp X1.here hx rfl (hb hby d35) rfl kk) ?_
  refine uN X1 hx hby d36 ((if0 _ _).trans (flt (by decide)).2.2.1) 39 (uI2 X1 hx hby d39 rfl 41 ?_)
  refine ob T1 (mkF mG 42 #[oa a, oi (1 : Int32), oi (0 : Int32), oa o, oi (0 : Int32), oi (4 : Int32), .unset, .unset, .unset] [(.long ((0 : Int32).toInt64))]) (fun _ kk => XS.i2l X1.here hx rfl (hb hby d41) rfl kk) ?_
  refine uA X1 hx hby d42 rfl 43 ?_
  refine oVp X1 hx hby hZ hown (ow hw 114 rfl) (ow hw 75 rfl) (ow hw 77 rfl) (ow hw 76 rfl) (ow hw 78 rfl) (ow hw 8 rfl) (rm_len o u kd (4 : Int32) ([(.int (106 : Int32)), (.int (100 : Int32)), (.int (98 : Int32)), (.int (99 : Int32))]) ⟨hw, O0, hS⟩ E_o F_oc F_ov V_u) e1 E_o N1 hml [] [(.long ((0 : Int32).toInt64))] pd_8 d43 46 ?_
  intro T2 L2 X2 e2 N2
  refine ob T2 (mkF mG 47 #[oa a, oi (1 : Int32), oi (0 : Int32), oa o, oi (0 : Int32), oi (4 : Int32), .unset, .unset, .unset] [(.long ((4 : Int32).toInt64)), (.long ((0 : Int32).toInt64))]) (fun _ kk => XS.i2l X2.here hx rfl (hb hby d46) rfl kk) ?_
  refine uI2 X2 hx hby d47 rfl 49 ?_
  refine ob T2 (mkF mG 50 #[oa a, oi (1 : Int32), oi (0 : Int32), oa o, oi (0 : Int32), oi (4 : Int32), .unset, .unset, .unset] [(.long ((4 : Int32).toInt64)), (.long ((4 : Int32).toInt64)), (.long ((0 : Int32).toInt64))]) (fun _ kk => XS.i2l X2.here hx rfl (hb hby d49) rfl kk) ?_
  refine ob T2 (mkF mG 51 #[oa a, oi (1 : Int32), oi (0 : Int32), oa o, oi (0 : Int32), oi (4 : Int32), .unset, .unset, .unset] [(.long (((4 : Int32).toInt64) - ((4 : Int32).toInt64))), (.long ((0 : Int32).toInt64))]) (fun _ kk => XS.lsub X2.here hx rfl (hb hby d50) rfl kk) ?_
  refine ob T2 (mkF mG 52 #[oa a, oi (1 : Int32), oi (0 : Int32), oa o, oi (0 : Int32), oi (4 : Int32), .unset, .unset, .unset] [(.int (lcmpW ((0 : Int32).toInt64) (((4 : Int32).toInt64) - ((4 : Int32).toInt64))))]) (fun _ kk => XS.lcmp X2.here hx rfl (hb hby d51) rfl kk) ?_
  refine uY X2 hx hby d52 ((if0 _ _).trans (flt (by decide)).2.2.2) 57 (uA X2 hx hby d57 rfl 58 ?_)
  refine oGf X2 hx hby hZ hown (ow hw 28 rfl) Via.refl e2 F_v d58 61 ?_
  intro T3 X3 e3
  refine uO2 X3 hx hby d61 #[oa a, oi (1 : Int32), oi (0 : Int32), oa o, oi (0 : Int32), oi (4 : Int32), oa t, .unset, .unset] 63 (uA X3 hx hby d63 rfl 64 ?_)
  refine oGf X3 hx hby hZ hown (ow hw 28 rfl) Via.refl e3 F_ov d64 67 ?_
  intro T4 X4 e4
  refine uO2 X4 hx hby d67 #[oa a, oi (1 : Int32), oi (0 : Int32), oa o, oi (0 : Int32), oi (4 : Int32), oa t, oa u, .unset] 69 (uA X4 hx hby d69 rfl 70 ?_)
  refine oVp X4 hx hby hZ hown (ow hw 79 rfl) (ow hw 80 rfl) (ow hw 82 rfl) (ow hw 81 rfl) (ow hw 83 rfl) (ow hw 8 rfl) (rm_cod a ⟨hw, O0, hS⟩ F_c) e4 E_a N2 hml [] [] pd_3 d70 73 ?_
  intro T5 L5 X5 e5 N5
  refine uT2 X5 hx hby d73 #[oa a, oi (1 : Int32), oi (0 : Int32), oa o, oi (0 : Int32), oi (4 : Int32), oa t, oa u, oi (0 : Int32)] 75 (uI2 X5 hx hby d75 rfl 77 (uA X5 hx hby d77 rfl 78 ?_))
  refine oVp X5 hx hby hZ hown (ow hw 79 rfl) (ow hw 80 rfl) (ow hw 82 rfl) (ow hw 81 rfl) (ow hw 83 rfl) (ow hw 8 rfl) (rm_cod o ⟨hw, O0, hS⟩ F_oc) e5 E_o N5 hml [] [(.int (0 : Int32))] pd_3 d78 81 ?_
  intro T6 L6 X6 e6 N6
  refine uNc X6 hx hby d81 (teq (by decide : (0 : Int32) = (0 : Int32))).2 84 (uI2 X6 hx hby d84 rfl 86 (uN X6 hx hby d86 ((if0 _ _).trans (teq (by decide : (0 : Int32) = (0 : Int32))).2) 89 (uA2 X6 hx hby d89 rfl 91 (uI X6 hx hby d91 rfl 92 (uA2 X6 hx hby d92 rfl 94 (uI2 X6 hx hby d94 rfl 96 (uI2 X6 hx hby d96 rfl 98 ?_)))))))
  refine oCp X6 hx hby hZ hown (ow hw 229 rfl) (ow hw 230 rfl) (ow hw 231 rfl) (ow hw 96 rfl) (rm_rci t kb u kd c0 c1 c2 c3 c4 c5 c6 c7 ⟨hw, O0, hS⟩ V_t V_u) e6 N6 hml [(.ref t), (.int (0 : Int32)), (.ref u), (.int (0 : Int32)), (.int (4 : Int32))] [] pd_17 d98 101 ?_
  intro T7 L7 X7 e7 N7
  refine uG X7 hx hby d101 116 ?_
  exact oRZ X7 hx hby hret hlk e7 d116 (nar .boolean (oJd c0 c1 c2 c3)) ⟨(congrArg (fun z => some (Value.int z)) (own_njd c0 c1 c2 c3)), N7, rfl⟩

abbrev K36 (n : Nat) (i : Instr) (k : Nat) : Prop := decode jdk_42_method_70_code n = .ok (i, k)
set_option maxRecDepth 65536 in
theorem t36 : K36 0 (.aload_n 0) 1 ∧ K36 1 (.aload_n 1) 1 ∧ K36 2 (.if_acmp .ne 7) 3 ∧ K36 9 (.aload_n 1) 1 ∧ K36 10 (.ifnull 33) 3 ∧ K36 13 (.aload_n 1) 1 ∧ K36 14 (.invokevirtual 505) 3 ∧ K36 17 (.aload_n 0) 1 ∧ K36 18 (.invokevirtual 505) 3 ∧ K36 21 (.if_icmp .ne 22) 3 ∧ K36 24 (.aload_n 0) 1 ∧ K36 25 (.iconst 1) 1 ∧ K36 26 (.iconst 0) 1 ∧ K36 27 (.aload_n 1) 1 ∧ K36 28 (.iconst 0) 1 ∧ K36 29 (.aload_n 0) 1 ∧ K36 30 (.invokevirtual 505) 3 ∧ K36 33 (.invokevirtual 582) 3 ∧ K36 36 (.ifCond .eq 7) 3 ∧ K36 39 (.iconst 1) 1 ∧ K36 40 (.goto 4) 3 ∧ K36 43 (.iconst 0) 1 ∧ K36 44 .ireturn 1 := by and_intros <;> decide +kernel
theorem pd_18 : parseMethodDescriptor "(ZILjava/lang/String;II)Z" = some ⟨[.boolean, .int, (.object "java/lang/String"), .int, .int], some .boolean⟩ := by decide +kernel
theorem rm_eq4 (a o t : Addr) (kb : ClassId) (u : Addr) (kd : ClassId) (c0 c1 c2 c3 c4 c5 c6 c7 : Int32) (H : oH Z a0 n0 h0 wR wI zc vf wB wL wV cV) (E_a : Exa Z h0 a "java/lang/String") (F_c : Fld Z h0 a "java/lang/String" "coder" "B" (.int (0 : Int32))) (F_v : Fld Z h0 a "java/lang/String" "value" "[B" (.ref t)) (V_t : Arv Z h0 t kb .byte (4 : Int32) (oB8 c0 c1 c2 c3 c4 c5 c6 c7) (.int (0 : Int32))) (E_o : Exa Z h0 o "java/lang/String") (F_oc : Fld Z h0 o "java/lang/String" "coder" "B" (.int (0 : Int32))) (F_ov : Fld Z h0 o "java/lang/String" "value" "[B" (.ref u)) (V_u : Arv Z h0 u kd .byte (4 : Int32) [(.int (106 : Int32)), (.int (100 : Int32)), (.int (98 : Int32)), (.int (99 : Int32))] (.int (0 : Int32))) (ne_a_o : a ≠ o) : oPu l Z (⟨"java/lang/String", "equalsIgnoreCase", "(Ljava/lang/String;)Z"⟩ : MethodName) jdk_42_method_70_code 2 (some .boolean) (oRm 3 0 0 53) #[(.ref a), (.ref o)] h0 n0 (some (.int (oJd c0 c1 c2 c3))) := by
  obtain ⟨hw, O0, hS⟩ := H
  refine oBody (plainFor_of_name pn_1) #[oa a, oa o] (fun _ => by first | (simp [entryFrame, mkF, argsToLocals, Value.category]; done) | rfl) ?_
  intro pG eG sG mG belowG methG cG s₁ hx hby hml hown hnm hret hlk X0 e0 hZ
  have N0 := Fr.nil n0
  have K0 := Keep.refl h0 []
  obtain ⟨d0, d1, d2, d9, d10, d13, d14, d17, d18, d21, d24, d25, d26, d27, d28, d29, d30, d33, d36, d39, d40, d43, d44⟩ := t36
  refine uA X0 hx hby d0 rfl 1 (uA X0 hx hby d1 rfl 2 ?_)
  refine ob s₁ (mkF mG 9 #[oa a, oa o] []) (fun _ kk => Jvm.RoadKit.acmp (g := (mkF mG 2 #[oa a, oa o] [(.ref o), (.ref a)])) X0 hx rfl rfl rfl (pc0 := 2) (pc' := 9) (same := false) rfl (hb hby d2) rfl (decide_eq_false fun q => ne_a_o (Value.ref.inj q)) (by decide) (by decide) kk) ?_
  refine uA X0 hx hby d9 rfl 10 ?_
  refine ob s₁ (mkF mG 13 #[oa a, oa o] []) (fun _ kk => XS.ifnullNo X0.here hx rfl (hb hby d10) rfl kk) ?_
  refine uA X0 hx hby d13 rfl 14 ?_
  refine oVp X0 hx hby hZ hown (ow hw 114 rfl) (ow hw 75 rfl) (ow hw 77 rfl) (ow hw 76 rfl) (ow hw 78 rfl) (ow hw 8 rfl) (rm_len o u kd (4 : Int32) ([(.int (106 : Int32)), (.int (100 : Int32)), (.int (98 : Int32)), (.int (99 : Int32))]) ⟨hw, O0, hS⟩ E_o F_oc F_ov V_u) e0 E_o N0 hml [] [] pd_8 d14 17 ?_
  intro T1 L1 X1 e1 N1
  refine uA X1 hx hby d17 rfl 18 ?_
  refine oVp X1 hx hby hZ hown (ow hw 114 rfl) (ow hw 75 rfl) (ow hw 77 rfl) (ow hw 76 rfl) (ow hw 78 rfl) (ow hw 8 rfl) (rm_len a t kb (4 : Int32) ((oB8 c0 c1 c2 c3 c4 c5 c6 c7)) ⟨hw, O0, hS⟩ E_a F_c F_v V_t) e1 E_a N1 hml [] [(.int (4 : Int32))] pd_8 d18 21 ?_
  intro T2 L2 X2 e2 N2
  refine uNc X2 hx hby d21 (teq (by decide : (4 : Int32) = (4 : Int32))).2 24 (uA X2 hx hby d24 rfl 25 (uC X2 hx hby d25 1 26 (uC X2 hx hby d26 0 27 (uA X2 hx hby d27 rfl 28 (uC X2 hx hby d28 0 29 (uA X2 hx hby d29 rfl 30 ?_))))))
  refine oVp X2 hx hby hZ hown (ow hw 114 rfl) (ow hw 75 rfl) (ow hw 77 rfl) (ow hw 76 rfl) (ow hw 78 rfl) (ow hw 8 rfl) (rm_len a t kb (4 : Int32) ((oB8 c0 c1 c2 c3 c4 c5 c6 c7)) ⟨hw, O0, hS⟩ E_a F_c F_v V_t) e2 E_a N2 hml [] [(.int (0 : Int32)), (.ref o), (.int (0 : Int32)), (.int (1 : Int32)), (.ref a)] pd_8 d30 33 ?_
  intro T3 L3 X3 e3 N3
  refine oVp X3 hx hby hZ hown (ow hw 224 rfl) (ow hw 225 rfl) (ow hw 227 rfl) (ow hw 226 rfl) (ow hw 228 rfl) (ow hw 8 rfl) (rm_rgm a o t kb u kd c0 c1 c2 c3 c4 c5 c6 c7 ⟨hw, O0, hS⟩ E_a F_c F_v V_t E_o F_oc F_ov V_u) e3 E_a N3 hml [(.int (1 : Int32)), (.int (0 : Int32)), (.ref o), (.int (0 : Int32)), (.int (4 : Int32))] [] pd_18 d33 36 ?_
  intro T4 L4 X4 e4 N4
  by_cases hc5 : (oJd c0 c1 c2 c3) = (0 : Int32)
  · refine uY X4 hx hby d36 ((if0 _ _).trans (teq hc5).1) 43 (uC X4 hx hby d43 0 44 ?_)
    exact oRZ X4 hx hby hret hlk e4 d44 (0 : Int32) ⟨(congrArg (fun z => some (Value.int z)) hc5.symm), N4, rfl⟩
  refine uN X4 hx hby d36 ((if0 _ _).trans (feq hc5).1) 39 (uC X4 hx hby d39 1 40 (uG X4 hx hby d40 44 ?_))
  exact oRZ X4 hx hby hret hlk e4 d44 (1 : Int32) ⟨(congrArg (fun z => some (Value.int z)) (own_jd1 hc5).symm), N4, rfl⟩

theorem rm_eqN (a o t : Addr) (kb : ClassId) (nn : Int32) (u : Addr) (kd : ClassId) (c0 c1 c2 c3 c4 c5 c6 c7 : Int32) (H : oH Z a0 n0 h0 wR wI zc vf wB wL wV cV) (E_a : Exa Z h0 a "java/lang/String") (F_c : Fld Z h0 a "java/lang/String" "coder" "B" (.int (0 : Int32))) (F_v : Fld Z h0 a "java/lang/String" "value" "[B" (.ref t)) (V_t : Arv Z h0 t kb .byte nn (oB8 c0 c1 c2 c3 c4 c5 c6 c7) (.int (0 : Int32))) (E_o : Exa Z h0 o "java/lang/String") (F_oc : Fld Z h0 o "java/lang/String" "coder" "B" (.int (0 : Int32))) (F_ov : Fld Z h0 o "java/lang/String" "value" "[B" (.ref u)) (V_u : Arv Z h0 u kd .byte (4 : Int32) [(.int (106 : Int32)), (.int (100 : Int32)), (.int (98 : Int32)), (.int (99 : Int32))] (.int (0 : Int32))) (ne_a_o : a ≠ o) (h4 : ¬ (4 : Int32) = nn) : oPu l Z (⟨"java/lang/String", "equalsIgnoreCase", "(Ljava/lang/String;)Z"⟩ : MethodName) jdk_42_method_70_code 2 (some .boolean) (oRm 2 0 0 26) #[(.ref a), (.ref o)] h0 n0 (some (.int (0 : Int32))) := by
  obtain ⟨hw, O0, hS⟩ := H
  refine oBody (plainFor_of_name pn_1) #[oa a, oa o] (fun _ => by first | (simp [entryFrame, mkF, argsToLocals, Value.category]; done) | rfl) ?_
  intro pG eG sG mG belowG methG cG s₁ hx hby hml hown hnm hret hlk X0 e0 hZ
  have N0 := Fr.nil n0
  have K0 := Keep.refl h0 []
  obtain ⟨d0, d1, d2, d9, d10, d13, d14, d17, d18, d21, d24, d25, d26, d27, d28, d29, d30, d33, d36, d39, d40, d43, d44⟩ := t36
  refine uA X0 hx hby d0 rfl 1 (uA X0 hx hby d1 rfl 2 ?_)
  refine ob s₁ (mkF mG 9 #[oa a, oa o] []) (fun _ kk => Jvm.RoadKit.acmp (g := (mkF mG 2 #[oa a, oa o] [(.ref o), (.ref a)])) X0 hx rfl rfl rfl (pc0 := 2) (pc' := 9) (same := false) rfl (hb hby d2) rfl (decide_eq_false fun q => ne_a_o (Value.ref.inj q)) (by decide) (by decide) kk) ?_
  refine uA X0 hx hby d9 rfl 10 ?_
  refine ob s₁ (mkF mG 13 #[oa a, oa o] []) (fun _ kk => XS.ifnullNo X0.here hx rfl (hb hby d10) rfl kk) ?_
  refine uA X0 hx hby d13 rfl 14 ?_
  refine oVp X0 hx hby hZ hown (ow hw 114 rfl) (ow hw 75 rfl) (ow hw 77 rfl) (ow hw 76 rfl) (ow hw 78 rfl) (ow hw 8 rfl) (rm_len o u kd (4 : Int32) ([(.int (106 : Int32)), (.int (100 : Int32)), (.int (98 : Int32)), (.int (99 : Int32))]) ⟨hw, O0, hS⟩ E_o F_oc F_ov V_u) e0 E_o N0 hml [] [] pd_8 d14 17 ?_
  intro T1 L1 X1 e1 N1
  refine uA X1 hx hby d17 rfl 18 ?_
  refine oVp X1 hx hby hZ hown (ow hw 114 rfl) (ow hw 75 rfl) (ow hw 77 rfl) (ow hw 76 rfl) (ow hw 78 rfl) (ow hw 8 rfl) (rm_len a t kb nn ((oB8 c0 c1 c2 c3 c4 c5 c6 c7)) ⟨hw, O0, hS⟩ E_a F_c F_v V_t) e1 E_a N1 hml [] [(.int (4 : Int32))] pd_8 d18 21 ?_
  intro T2 L2 X2 e2 N2
  refine uYc X2 hx hby d21 (feq h4).2 43 (uC X2 hx hby d43 0 44 ?_)
  exact oRZ X2 hx hby hret hlk e2 d44 (0 : Int32) ⟨rfl, N2, rfl⟩

theorem own_dn0 {n : Int32} (h : (1 : Int32) < n) : (0 : Int32) < n := by
  rw [Int32.lt_iff_toInt_lt] at *
  have e1 : (0 : Int32).toInt = 0 := by decide
  have e2 : (1 : Int32).toInt = 1 := by decide
  omega
theorem own_up0 {n : Int32} (h : ¬ (0 : Int32) < n) : ¬ (1 : Int32) < n := fun q => h (own_dn0 q)

theorem own_dn1 {n : Int32} (h : (2 : Int32) < n) : (1 : Int32) < n := by
  rw [Int32.lt_iff_toInt_lt] at *
  have e1 : (1 : Int32).toInt = 1 := by decide
  have e2 : (2 : Int32).toInt = 2 := by decide
  omega
theorem own_up1 {n : Int32} (h : ¬ (1 : Int32) < n) : ¬ (2 : Int32) < n := fun q => h (own_dn1 q)

theorem own_dn2 {n : Int32} (h : (3 : Int32) < n) : (2 : Int32) < n := by
  rw [Int32.lt_iff_toInt_lt] at *
  have e1 : (2 : Int32).toInt = 2 := by decide
  have e2 : (3 : Int32).toInt = 3 := by decide
  omega
theorem own_up2 {n : Int32} (h : ¬ (2 : Int32) < n) : ¬ (3 : Int32) < n := fun q => h (own_dn2 q)

theorem own_dn3 {n : Int32} (h : (4 : Int32) < n) : (3 : Int32) < n := by
  rw [Int32.lt_iff_toInt_lt] at *
  have e1 : (3 : Int32).toInt = 3 := by decide
  have e2 : (4 : Int32).toInt = 4 := by decide
  omega
theorem own_up3 {n : Int32} (h : ¬ (3 : Int32) < n) : ¬ (4 : Int32) < n := fun q => h (own_dn3 q)

theorem own_dn4 {n : Int32} (h : (5 : Int32) < n) : (4 : Int32) < n := by
  rw [Int32.lt_iff_toInt_lt] at *
  have e1 : (4 : Int32).toInt = 4 := by decide
  have e2 : (5 : Int32).toInt = 5 := by decide
  omega
theorem own_up4 {n : Int32} (h : ¬ (4 : Int32) < n) : ¬ (5 : Int32) < n := fun q => h (own_dn4 q)

theorem own_dn5 {n : Int32} (h : (6 : Int32) < n) : (5 : Int32) < n := by
  rw [Int32.lt_iff_toInt_lt] at *
  have e1 : (5 : Int32).toInt = 5 := by decide
  have e2 : (6 : Int32).toInt = 6 := by decide
  omega
theorem own_up5 {n : Int32} (h : ¬ (5 : Int32) < n) : ¬ (6 : Int32) < n := fun q => h (own_dn5 q)

theorem own_dn6 {n : Int32} (h : (7 : Int32) < n) : (6 : Int32) < n := by
  rw [Int32.lt_iff_toInt_lt] at *
  have e1 : (6 : Int32).toInt = 6 := by decide
  have e2 : (7 : Int32).toInt = 7 := by decide
  omega
theorem own_up6 {n : Int32} (h : ¬ (6 : Int32) < n) : ¬ (7 : Int32) < n := fun q => h (own_dn6 q)

theorem own_dn7 {n : Int32} (h : (8 : Int32) < n) : (7 : Int32) < n := by
  rw [Int32.lt_iff_toInt_lt] at *
  have e1 : (7 : Int32).toInt = 7 := by decide
  have e2 : (8 : Int32).toInt = 8 := by decide
  omega
theorem own_up7 {n : Int32} (h : ¬ (7 : Int32) < n) : ¬ (8 : Int32) < n := fun q => h (own_dn7 q)

def oTl (c : Int32) : Int32 := if c < (65 : Int32) then c else if (122 : Int32) < (c ||| (32 : Int32)) then (if (c ||| (32 : Int32)) < (224 : Int32) then c else if (254 : Int32) < (c ||| (32 : Int32)) then c else if (c ||| (32 : Int32)) = (247 : Int32) then c else (c ||| (32 : Int32))) else (c ||| (32 : Int32))
abbrev oT8 (c0 c1 c2 c3 c4 c5 c6 c7 : Int32) : List Value := [(.int ((oTl c0).toInt8.toInt32)), (.int ((oTl c1).toInt8.toInt32)), (.int ((oTl c2).toInt8.toInt32)), (.int ((oTl c3).toInt8.toInt32)), (.int ((oTl c4).toInt8.toInt32)), (.int ((oTl c5).toInt8.toInt32)), (.int ((oTl c6).toInt8.toInt32)), (.int ((oTl c7).toInt8.toInt32))]
theorem own_tlR (c : Int32) (hr : oRg c) : oRg (oTl c) := own_fin (P := fun c => ¬ (oTl c) < 0 ∧ ¬ (255 : Int32) < (oTl c)) (by decide +kernel) c hr
theorem own_tlEq {c : Int32} (h : c = oTl c) : (Value.int (c.toInt8.toInt32)) = Value.int ((oTl c).toInt8.toInt32) := by rw [← h]
theorem own_narb (x : Int32) : nar .byte (x.toInt8.toInt32) = x.toInt8.toInt32 := by
  show (x.toInt8.toInt32).toInt8.toInt32 = x.toInt8.toInt32
  simp
theorem own_0n {n : Int32} (h : oE7 n) : (0 : Int32) < n := by rcases h with rfl | rfl | rfl | rfl | rfl | rfl | rfl <;> decide
theorem own_n7 {n : Int32} (h : oE7 n) : ¬ (7 : Int32) < n := by rcases h with rfl | rfl | rfl | rfl | rfl | rfl | rfl <;> decide
theorem own_eq1 {n : Int32} (h : oE7 n) (h1 : (0 : Int32) < n) (h2 : ¬ (1 : Int32) < n) : (1 : Int32) = n := by rcases h with rfl | rfl | rfl | rfl | rfl | rfl | rfl <;> first | rfl | exact absurd h1 (by decide) | exact absurd h2 (by decide)
theorem own_eq2 {n : Int32} (h : oE7 n) (h1 : (1 : Int32) < n) (h2 : ¬ (2 : Int32) < n) : (2 : Int32) = n := by rcases h with rfl | rfl | rfl | rfl | rfl | rfl | rfl <;> first | rfl | exact absurd h1 (by decide) | exact absurd h2 (by decide)
theorem own_eq3 {n : Int32} (h : oE7 n) (h1 : (2 : Int32) < n) (h2 : ¬ (3 : Int32) < n) : (3 : Int32) = n := by rcases h with rfl | rfl | rfl | rfl | rfl | rfl | rfl <;> first | rfl | exact absurd h1 (by decide) | exact absurd h2 (by decide)
theorem own_eq4 {n : Int32} (h : oE7 n) (h1 : (3 : Int32) < n) (h2 : ¬ (4 : Int32) < n) : (4 : Int32) = n := by rcases h with rfl | rfl | rfl | rfl | rfl | rfl | rfl <;> first | rfl | exact absurd h1 (by decide) | exact absurd h2 (by decide)
theorem own_eq5 {n : Int32} (h : oE7 n) (h1 : (4 : Int32) < n) (h2 : ¬ (5 : Int32) < n) : (5 : Int32) = n := by rcases h with rfl | rfl | rfl | rfl | rfl | rfl | rfl <;> first | rfl | exact absurd h1 (by decide) | exact absurd h2 (by decide)
theorem own_eq6 {n : Int32} (h : oE7 n) (h1 : (5 : Int32) < n) (h2 : ¬ (6 : Int32) < n) : (6 : Int32) = n := by rcases h with rfl | rfl | rfl | rfl | rfl | rfl | rfl <;> first | rfl | exact absurd h1 (by decide) | exact absurd h2 (by decide)
theorem own_eq7 {n : Int32} (h : oE7 n) (h1 : (6 : Int32) < n) (h2 : ¬ (7 : Int32) < n) : (7 : Int32) = n := by rcases h with rfl | rfl | rfl | rfl | rfl | rfl | rfl <;> first | rfl | exact absurd h1 (by decide) | exact absurd h2 (by decide)

abbrev K39 (n : Nat) (i : Instr) (k : Nat) : Prop := decode jdk_116_method_20_code n = .ok (i, k)
set_option maxRecDepth 65536 in
theorem t39 : K39 0 (.iload_n 1) 1 ∧ K39 1 (.bipush 65) 2 ∧ K39 3 (.if_icmp .ge 5) 3 ∧ K39 6 (.iload_n 1) 1 ∧ K39 7 .ireturn 1 ∧ K39 8 (.iload_n 1) 1 ∧ K39 9 (.bipush 32) 2 ∧ K39 11 .ior 1 ∧ K39 12 (.istore_n 2) 1 ∧ K39 13 (.iload_n 2) 1 ∧ K39 14 (.bipush 122) 2 ∧ K39 16 (.if_icmp .le 24) 3 ∧ K39 19 (.iload_n 2) 1 ∧ K39 20 (.sipush 224) 3 ∧ K39 23 (.if_icmp .lt 19) 3 ∧ K39 26 (.iload_n 2) 1 ∧ K39 27 (.sipush 254) 3 ∧ K39 30 (.if_icmp .gt 12) 3 ∧ K39 33 (.iload_n 2) 1 ∧ K39 34 (.sipush 247) 3 ∧ K39 37 (.if_icmp .eq 5) 3 ∧ K39 40 (.iload_n 2) 1 ∧ K39 41 .ireturn 1 ∧ K39 42 (.iload_n 1) 1 ∧ K39 43 .ireturn 1 := by and_intros <;> decide +kernel
theorem rm_tl (c : Int32) (H : oH Z a0 n0 h0 wR wI zc vf wB wL wV cV) : oPu l Z (⟨"java/lang/CharacterDataLatin1", "toLowerCase", "(I)I"⟩ : MethodName) jdk_116_method_20_code 3 (some .int) (oRm 0 0 0 0) #[(.ref wI), (.int c)] h0 n0 (some (.int (oTl c))) := by
  obtain ⟨hw, O0, hS⟩ := H
  refine oBody (plainFor_of_name pn_6) #[oa wI, oi c, .unset] (fun _ => by first | (simp [entryFrame, mkF, argsToLocals, Value.category]; done) | rfl) ?_
  intro pG eG sG mG belowG methG cG s₁ hx hby hml hown hnm hret hlk X0 e0 hZ
  have N0 := Fr.nil n0
  have K0 := Keep.refl h0 []
  obtain ⟨d0, d1, d3, d6, d7, d8, d9, d11, d12, d13, d14, d16, d19, d20, d23, d26, d27, d30, d33, d34, d37, d40, d41, d42, d43⟩ := t39
  refine uI X0 hx hby d0 rfl 1 (uB X0 hx hby d1 65 3 ?_)
  by_cases hc1 : c < (65 : Int32)
  · refine uNc X0 hx hby d3 (tlt hc1).2.1 6 (uI X0 hx hby d6 rfl 7 ?_)
    exact oRI X0 hx hby hret hlk e0 d7 ⟨(by simp [oTl, hc1]), N0, rfl⟩
  refine uYc X0 hx hby d3 (flt hc1).2.1 8 (uI X0 hx hby d8 rfl 9 (uB X0 hx hby d9 32 11 ?_))
  refine ob s₁ (mkF mG 12 #[oa wI, oi c, .unset] [(.int (c ||| (32 : Int32)))]) (fun _ kk => XS.ior X0.here hx rfl (hb hby d11) rfl kk) ?_
  refine uT X0 hx hby d12 #[oa wI, oi c, oi (c ||| (32 : Int32))] 13 (uI X0 hx hby d13 rfl 14 (uB X0 hx hby d14 122 16 ?_))
  by_cases hc2 : (122 : Int32) < (c ||| (32 : Int32))
  · refine uNc X0 hx hby d16 (tlt hc2).2.2.2 19 (uI X0 hx hby d19 rfl 20 (uS X0 hx hby d20 224 23 ?_))
    by_cases hc3 : (c ||| (32 : Int32)) < (224 : Int32)
    · refine uYc X0 hx hby d23 (tlt hc3).1 42 (uI X0 hx hby d42 rfl 43 ?_)
      exact oRI X0 hx hby hret hlk e0 d43 ⟨(by simp [oTl, hc1, hc2, hc3]), N0, rfl⟩
    refine uNc X0 hx hby d23 (flt hc3).1 26 (uI X0 hx hby d26 rfl 27 (uS X0 hx hby d27 254 30 ?_))
    by_cases hc4 : (254 : Int32) < (c ||| (32 : Int32))
    · refine uYc X0 hx hby d30 (tlt hc4).2.2.1 42 (uI X0 hx hby d42 rfl 43 ?_)
      exact oRI X0 hx hby hret hlk e0 d43 ⟨(by simp [oTl, hc1, hc2, hc3, hc4]), N0, rfl⟩
    refine uNc X0 hx hby d30 (flt hc4).2.2.1 33 (uI X0 hx hby d33 rfl 34 (uS X0 hx hby d34 247 37 ?_))
    by_cases hc5 : (c ||| (32 : Int32)) = (247 : Int32)
    · refine uYc X0 hx hby d37 (teq hc5).1 42 (uI X0 hx hby d42 rfl 43 ?_)
      exact oRI X0 hx hby hret hlk e0 d43 ⟨(by simp [oTl, hc1, hc2, hc3, hc4, hc5]), N0, rfl⟩
    refine uNc X0 hx hby d37 (feq hc5).1 40 (uI X0 hx hby d40 rfl 41 ?_)
    exact oRI X0 hx hby hret hlk e0 d41 ⟨(by simp [oTl, hc1, hc2, hc3, hc4, hc5]), N0, rfl⟩
  refine uYc X0 hx hby d16 (flt hc2).2.2.2 40 (uI X0 hx hby d40 rfl 41 ?_)
  exact oRI X0 hx hby hret hlk e0 d41 ⟨(by simp [oTl, hc1, hc2]), N0, rfl⟩

abbrev K42 (n : Nat) (i : Instr) (k : Nat) : Prop := decode jdk_43_method_4_code n = .ok (i, k)
set_option maxRecDepth 65536 in
theorem t42 : K42 0 (.iload_n 0) 1 ∧ K42 1 (.ifCond .lt 14) 3 ∧ K42 4 (.iload_n 0) 1 ∧ K42 5 (.sipush 255) 3 ∧ K42 8 (.if_icmp .gt 7) 3 ∧ K42 11 (.iconst 1) 1 ∧ K42 12 (.goto 4) 3 ∧ K42 16 .ireturn 1 := by and_intros <;> decide +kernel
theorem rm_can (c : Int32) (H : oH Z a0 n0 h0 wR wI zc vf wB wL wV cV) (rc : oRg c) : oPu l Z (⟨"java/lang/StringLatin1", "canEncode", "(I)Z"⟩ : MethodName) jdk_43_method_4_code 1 (some .boolean) (oRm 0 0 0 0) #[(.int c)] h0 n0 (some (.int (1 : Int32))) := by
  obtain ⟨hw, O0, hS⟩ := H
  refine oBody (plainFor_of_name pn_3) #[oi c] (fun _ => by first | (simp [entryFrame, mkF, argsToLocals, Value.category]; done) | rfl) ?_
  intro pG eG sG mG belowG methG cG s₁ hx hby hml hown hnm hret hlk X0 e0 hZ
  have N0 := Fr.nil n0
  have K0 := Keep.refl h0 []
  obtain ⟨d0, d1, d4, d5, d8, d11, d12, d16⟩ := t42
  refine uI X0 hx hby d0 rfl 1 (uN X0 hx hby d1 ((if0 _ _).trans (flt rc.1).1) 4 (uI X0 hx hby d4 rfl 5 (uS X0 hx hby d5 255 8 (uNc X0 hx hby d8 (flt rc.2).2.2.1 11 (uC X0 hx hby d11 1 12 (uG X0 hx hby d12 16 ?_))))))
  exact oRZ X0 hx hby hret hlk e0 d16 (1 : Int32) ⟨rfl, N0, rfl⟩

abbrev K41 (n : Nat) (i : Instr) (k : Nat) : Prop := decode jdk_3003_method_5_code n = .ok (i, k)
set_option maxRecDepth 65536 in
theorem t41 : K41 0 (.aload_n 0) 1 ∧ K41 1 (.getfield 19) 3 ∧ K41 4 .areturn 1 := by and_intros <;> decide +kernel
theorem rm_bgl  (H : oH Z a0 n0 h0 wR wI zc vf wB wL wV cV) : oPu l Z (⟨"sun/util/locale/BaseLocale", "getLanguage", "()Ljava/lang/String;"⟩ : MethodName) jdk_3003_method_5_code 1 (some (.object "java/lang/String")) (oRm 0 0 0 0) #[(.ref wB)] h0 n0 (some (.ref wL)) := by
  obtain ⟨hw, O0, hS⟩ := H
  refine oBody (plainFor_of_name pn_7) #[oa wB] (fun _ => by first | (simp [entryFrame, mkF, argsToLocals, Value.category]; done) | rfl) ?_
  intro pG eG sG mG belowG methG cG s₁ hx hby hml hown hnm hret hlk X0 e0 hZ
  have N0 := Fr.nil n0
  have K0 := Keep.refl h0 []
  obtain ⟨-, -, -, -, -, -, -, -, -, -, F_bl, -, -, -⟩ := id hS
  obtain ⟨d0, d1, d4⟩ := t41
  refine uA X0 hx hby d0 rfl 1 ?_
  refine oGf X0 hx hby hZ hown (ow hw 184 rfl) Via.refl e0 (F_bl.ext O0.2) d1 4 ?_
  intro T1 X1 e1
  exact oRA X1 hx hby hret hlk e1 d4 ⟨rfl, N0, rfl⟩

abbrev K40 (n : Nat) (i : Instr) (k : Nat) : Prop := decode jdk_2628_method_27_code n = .ok (i, k)
set_option maxRecDepth 65536 in
theorem t40 : K40 0 (.aload_n 0) 1 ∧ K40 1 (.getfield 28) 3 ∧ K40 4 (.invokevirtual 293) 3 ∧ K40 7 .areturn 1 := by and_intros <;> decide +kernel
theorem pd_19 : parseMethodDescriptor "()Ljava/lang/String;" = some ⟨[], some (.object "java/lang/String")⟩ := by decide +kernel
theorem rm_lgl  (H : oH Z a0 n0 h0 wR wI zc vf wB wL wV cV) : oPu l Z (⟨"java/util/Locale", "getLanguage", "()Ljava/lang/String;"⟩ : MethodName) jdk_2628_method_27_code 1 (some (.object "java/lang/String")) (oRm 1 0 0 12) #[(.ref wR)] h0 n0 (some (.ref wL)) := by
  obtain ⟨hw, O0, hS⟩ := H
  refine oBody (plainFor_of_name pn_8) #[oa wR] (fun _ => by first | (simp [entryFrame, mkF, argsToLocals, Value.category]; done) | rfl) ?_
  intro pG eG sG mG belowG methG cG s₁ hx hby hml hown hnm hret hlk X0 e0 hZ
  have N0 := Fr.nil n0
  have K0 := Keep.refl h0 []
  obtain ⟨-, -, -, -, -, -, -, -, F_rb, E_bl, -, -, -, -⟩ := id hS
  obtain ⟨d0, d1, d4, d7⟩ := t40
  refine uA X0 hx hby d0 rfl 1 ?_
  refine oGf X0 hx hby hZ hown (ow hw 176 rfl) Via.refl e0 (F_rb.ext O0.2) d1 4 ?_
  intro T1 X1 e1
  refine oVp X1 hx hby hZ hown (ow hw 178 rfl) (ow hw 179 rfl) (ow hw 181 rfl) (ow hw 180 rfl) (ow hw 183 rfl) (ow hw 182 rfl) (rm_bgl ⟨hw, O0, hS⟩ ) e1 (E_bl.ext O0.2) N0 hml [] [] pd_19 d4 7 ?_
  intro T2 L2 X2 e2 N2
  exact oRA X2 hx hby hret hlk e2 d7 ⟨rfl, N2, rfl⟩

abbrev os : Option Int32 → Slot := fun o => match o with
  | none => .unset
  | some z => oi z
theorem own_st8 {a0 a1 a2 a3 a4 a5 a6 a7 : Slot} {o : Option Int32} {z : Int32} : storeLocals #[a0, a1, a2, a3, a4, a5, a6, a7, os o] 8 (.int z) = some #[a0, a1, a2, a3, a4, a5, a6, a7, oi z] := by cases o <;> rfl
theorem own_st5 {a0 a1 a2 a3 a4 a6 a7 a8 : Slot} {o : Option Int32} {x : Addr} : storeLocals #[a0, a1, a2, a3, a4, os o, a6, a7, a8] 5 (.ref x) = some #[a0, a1, a2, a3, a4, oa x, a6, a7, a8] := by cases o <;> rfl

def oPf (fi c0 c1 c2 c3 c4 c5 c6 : Int32) : Prop := (fi = (0 : Int32)) ∨ (fi = (1 : Int32) ∧ c0 = oTl c0) ∨ (fi = (2 : Int32) ∧ c0 = oTl c0 ∧ c1 = oTl c1) ∨ (fi = (3 : Int32) ∧ c0 = oTl c0 ∧ c1 = oTl c1 ∧ c2 = oTl c2) ∨ (fi = (4 : Int32) ∧ c0 = oTl c0 ∧ c1 = oTl c1 ∧ c2 = oTl c2 ∧ c3 = oTl c3) ∨ (fi = (5 : Int32) ∧ c0 = oTl c0 ∧ c1 = oTl c1 ∧ c2 = oTl c2 ∧ c3 = oTl c3 ∧ c4 = oTl c4) ∨ (fi = (6 : Int32) ∧ c0 = oTl c0 ∧ c1 = oTl c1 ∧ c2 = oTl c2 ∧ c3 = oTl c3 ∧ c4 = oTl c4 ∧ c5 = oTl c5)

abbrev K38 (n : Nat) (i : Instr) (k : Nat) : Prop := decode jdk_43_method_32_code n = .ok (i, k)
set_option maxRecDepth 65536 in
theorem t38 : K38 0 (.aload_n 2) 1 ∧ K38 1 (.ifnonnull 11) 3 ∧ K38 12 (.aload_n 1) 1 ∧ K38 13 .arraylength 1 ∧ K38 14 (.istore 4) 2 ∧ K38 16 (.iconst 0) 1 ∧ K38 17 (.istore_n 3) 1 ∧ K38 18 (.iload_n 3) 1 ∧ K38 19 (.iload 4) 2 ∧ K38 21 (.if_icmp .ge 34) 3 ∧ K38 24 (.aload_n 1) 1 ∧ K38 25 (.iload_n 3) 1 ∧ K38 26 .baload 1 ∧ K38 27 (.sipush 255) 3 ∧ K38 30 .iand 1 ∧ K38 31 (.istore 5) 2 ∧ K38 33 (.iload 5) 2 ∧ K38 35 (.getstatic 66) 3 ∧ K38 38 (.iload 5) 2 ∧ K38 40 (.invokevirtual 160) 3 ∧ K38 43 (.if_icmp .eq 6) 3 ∧ K38 46 (.goto 9) 3 ∧ K38 49 (.iinc 3 1) 3 ∧ K38 52 (.goto (-34)) 3 ∧ K38 55 (.iload_n 3) 1 ∧ K38 56 (.iload 4) 2 ∧ K38 58 (.if_icmp .ne 5) 3 ∧ K38 61 (.aload_n 0) 1 ∧ K38 62 .areturn 1 ∧ K38 63 (.aload_n 2) 1 ∧ K38 64 (.invokevirtual 162) 3 ∧ K38 67 (.astore 5) 2 ∧ K38 69 (.aload 5) 2 ∧ K38 71 (.ldc 168) 2 ∧ K38 73 (.if_acmp .eq 17) 3 ∧ K38 76 (.aload 5) 2 ∧ K38 78 (.ldc 170) 2 ∧ K38 80 (.if_acmp .eq 10) 3 ∧ K38 83 (.aload 5) 2 ∧ K38 85 (.ldc 172) 2 ∧ K38 87 (.if_acmp .ne 12) 3 ∧ K38 99 (.iload 4) 2 ∧ K38 101 (.newarray .byte) 2 ∧ K38 103 (.astore 6) 2 ∧ K38 105 (.aload_n 1) 1 ∧ K38 106 (.iconst 0) 1 ∧ K38 107 (.aload 6) 2 ∧ K38 109 (.iconst 0) 1 ∧ K38 110 (.iload_n 3) 1 ∧ K38 111 (.invokestatic 28) 3 ∧ K38 114 (.iload_n 3) 1 ∧ K38 115 (.istore 7) 2 ∧ K38 117 (.iload 7) 2 ∧ K38 119 (.iload 4) 2 ∧ K38 121 (.if_icmp .ge 54) 3 ∧ K38 124 (.aload_n 1) 1 ∧ K38 125 (.iload 7) 2 ∧ K38 127 .baload 1 ∧ K38 128 (.sipush 255) 3 ∧ K38 131 .iand 1 ∧ K38 132 (.istore 8) 2 ∧ K38 134 (.getstatic 66) 3 ∧ K38 137 (.iload 8) 2 ∧ K38 139 (.invokevirtual 160) 3 ∧ K38 142 (.istore 8) 2 ∧ K38 144 (.iload 8) 2 ∧ K38 146 (.invokestatic 88) 3 ∧ K38 149 (.ifCond .ne 12) 3 ∧ K38 161 (.aload 6) 2 ∧ K38 163 (.iload 7) 2 ∧ K38 165 (.iload 8) 2 ∧ K38 167 .i2b 1 ∧ K38 168 .bastore 1 ∧ K38 169 (.iinc 7 1) 3 ∧ K38 172 (.goto (-55)) 3 ∧ K38 175 (.new 1) 3 ∧ K38 178 .dup 1 ∧ K38 179 (.aload 6) 2 ∧ K38 181 (.iconst 0) 1 ∧ K38 182 (.invokespecial 112) 3 ∧ K38 185 .areturn 1 := by and_intros <;> decide +kernel
theorem pd_20 : parseMethodDescriptor "(I)I" = some ⟨[.int], some .int⟩ := by decide +kernel
theorem pd_21 : parseMethodDescriptor "(I)Z" = some ⟨[.int], some .boolean⟩ := by decide +kernel
def Q_rm_stl (Z : State) (wR wI : Addr) (zc : Int32) (vf : Value) (wB wL wV : Addr) (cV : Cell) (a t : Addr) (kb : ClassId) (nn c0 c1 c2 c3 c4 c5 c6 c7 : Int32) (h0 : Heap) (n0 : Nat) (v : Option Value) (h : Heap) (L : List Loc) : Prop := ∃ (r0 r1 : Addr) (kq0 : ClassId), v = some (.ref r0) ∧ Fr n0 L ∧ Keep h0 h [] ∧ Old Z n0 h ∧ Exa Z h r0 "java/lang/String" ∧ Fld Z h r0 "java/lang/String" "coder" "B" (.int (0 : Int32)) ∧ Fld Z h r0 "java/lang/String" "value" "[B" (.ref r1) ∧ Arv Z h r1 kq0 .byte nn (oT8 c0 c1 c2 c3 c4 c5 c6 c7) (.int (0 : Int32))
set_option maxHeartbeats 40000000 in
theorem rm_stl (a t : Addr) (kb : ClassId) (nn c0 c1 c2 c3 c4 c5 c6 c7 : Int32) (H : oH Z a0 n0 h0 wR wI zc vf wB wL wV cV) (E_a : Exa Z h0 a "java/lang/String") (F_c : Fld Z h0 a "java/lang/String" "coder" "B" (.int (0 : Int32))) (F_v : Fld Z h0 a "java/lang/String" "value" "[B" (.ref t)) (V_t : Arv Z h0 t kb .byte nn (oB8 c0 c1 c2 c3 c4 c5 c6 c7) (.int (0 : Int32))) (r0 : oRg c0) (r1 : oRg c1) (r2 : oRg c2) (r3 : oRg c3) (r4 : oRg c4) (r5 : oRg c5) (r6 : oRg c6) (r7 : oRg c7) (hn : oE7 nn) : oMc l Z (⟨"java/lang/StringLatin1", "toLowerCase", "(Ljava/lang/String;[BLjava/util/Locale;)Ljava/lang/String;"⟩ : MethodName) jdk_43_method_32_code 9 (some (.object "java/lang/String")) (oRm 3 8 60 60) #[(.ref a), (.ref t), (.ref wR)] h0 (Q_rm_stl Z wR wI zc vf wB wL wV cV a t kb nn c0 c1 c2 c3 c4 c5 c6 c7 h0 n0) := by
  obtain ⟨hw, O0, hS⟩ := H
  refine oBodyC (plainFor_of_name pn_3) #[oa a, oa t, oa wR, .unset, .unset, .unset, .unset, .unset, .unset] (fun _ => by first | (simp [entryFrame, mkF, argsToLocals, Value.category]; done) | rfl) ?_
  intro pG eG sG mG belowG methG cG s₁ hx hby hml hown hnm hret hlk X0 hh e0 hZ hC
  have hS0 : sG.Since sG.vm h0.size := (State.WarmedH.refl sG).since _
  have hk0 : h0.size ≤ h0.size := Nat.le_refl _
  have CR0 : CHr Z oEL sG.vm h0 sG.vm h0 := CHr.refl hC
  have hEL : EW Z a0 oEL := own_EW hw
  have N0 := Fr.nil n0
  have K0 := Keep.refl h0 []
  obtain ⟨-, E_wR, S_wI, E_wI, -, -, -, -, -, -, -, -, F_lg, V_lv⟩ := id hS
  obtain ⟨d0, d1, d12, d13, d14, d16, d17, d18, d19, d21, d24, d25, d26, d27, d30, d31, d33, d35, d38, d40, d43, d46, d49, d52, d55, d56, d58, d61, d62, d63, d64, d67, d69, d71, d73, d76, d78, d80, d83, d85, d87, d99, d101, d103, d105, d106, d107, d109, d110, d111, d114, d115, d117, d119, d121, d124, d125, d127, d128, d131, d132, d134, d137, d139, d142, d144, d146, d149, d161, d163, d165, d167, d168, d169, d172, d175, d178, d179, d181, d182, d185⟩ := t38
  refine oname (fun PP hPP => ?_)
  refine uA X0 hx hby d0 rfl 1 ?_
  refine ob s₁ (mkF mG 12 #[oa a, oa t, oa wR, .unset, .unset, .unset, .unset, .unset, .unset] []) (fun _ kk => XS.ifnonnullYes X0.here hx rfl (pc0 := 1) (pc' := 12) rfl (hb hby d1) rfl (by decide) (by decide) kk) ?_
  refine uA X0 hx hby d12 rfl 13 (oLn X0 hx hby hZ e0 V_t d13 14 (uT2 X0 hx hby d14 #[oa a, oa t, oa wR, .unset, oi nn, .unset, .unset, .unset, .unset] 16 (uC X0 hx hby d16 0 17 (uT X0 hx hby d17 #[oa a, oa t, oa wR, oi (0 : Int32), oi nn, .unset, .unset, .unset, .unset] 18 ?_))))
  have Lp7 : ∀ (Tj : State) (hj : Heap) (vmj : Vm) (kj : Nat) (LLj : List Loc) (rj : Addr) (krj : ClassId) (fj : Int32) (o8 : Option Int32), ((6 : Int32) < nn) → Stand pG l eG (oRm 3 8 60 60) (sG.setVm vmj) mG #[(.ref a), (.ref t), (.ref wR)] belowG methG cG Tj LLj 7 44 → Fr n0 LLj → Tj.heap = hj → Z.Warmed39 (sG.setVm vmj).vm → (sG.setVm vmj).vm.findClass "java/lang/StringLatin1" = some mG.cls → sG.Since vmj kj → kj ≤ hj.size → CHr Z oEL sG.vm h0 vmj hj → Old Z n0 hj → Keep h0 hj [] → n0 ≤ rj → h0.size ≤ rj → Safe Z oEL vmj hj rj → Arv Z hj rj krj .byte nn [(.int ((oTl c0).toInt8.toInt32)), (.int ((oTl c1).toInt8.toInt32)), (.int ((oTl c2).toInt8.toInt32)), (.int ((oTl c3).toInt8.toInt32)), (.int ((oTl c4).toInt8.toInt32)), (.int ((oTl c5).toInt8.toInt32)), (.int ((oTl c6).toInt8.toInt32)), (.int (0 : Int32))] (.int (0 : Int32)) → oGo pG eG belowG PP Tj (mkF mG 117 #[oa a, oa t, oa wR, oi fj, oi nn, oa wL, oa rj, oi (7 : Int32), (os o8)] []) := by
    intro Tj hj vmj kj LLj rj krj fj o8 hlj Xj Nj ej hZ hown hSj hkj CRj Oj Kj n_rj sz_rj sf_rj Vj
    have ne_a_rj : a ≠ rj := Nat.ne_of_lt (Nat.lt_of_lt_of_le E_a.lt sz_rj)
    have ne_t_rj : t ≠ rj := Nat.ne_of_lt (Nat.lt_of_lt_of_le V_t.lt sz_rj)
    refine uI2 Xj hx hby d117 rfl 119 (uI2 Xj hx hby d119 rfl 121 (uYc Xj hx hby d121 (flt (own_n7 hn)).2.1 175 ?_))
    have VTl : Arv Z hj rj krj .byte nn (oT8 c0 c1 c2 c3 c4 c5 c6 c7) (.int (0 : Int32)) := own_arvEq Vj (fun i hi => by
      have hi2 : i < 7 := by rw [← (own_eq7 hn hlj (own_n7 hn))] at hi; exact hi
      match i, hi2 with
      | 0, _ => exact rfl
      | 1, _ => exact rfl
      | 2, _ => exact rfl
      | 3, _ => exact rfl
      | 4, _ => exact rfl
      | 5, _ => exact rfl
      | 6, _ => exact rfl
      | n + 7, h => exact absurd h (by omega))
    obtain ⟨T1, h1, X1, e1, E1, A1, D1, _x1, st1⟩ := newO Xj hx hZ hown (ow hw 124 rfl) (ow hw 7 rfl) (ow hw 8 rfl) ej (g := (mkF mG 175 #[oa a, oa t, oa wR, oi fj, oi nn, oa wL, oa rj, oi (7 : Int32), (os o8)] [])) rfl (hb hby d175) (by decide) (by decide)
    obtain ⟨b1, g1⟩ : ∃ z, z = hj.size := ⟨_, rfl⟩
    rw [← g1] at A1 D1 st1
    have n_b1 : n0 ≤ b1 := Nat.le_trans (on0 Oj) (Nat.le_of_eq g1.symm)
    have sz_b1 : h0.size ≤ b1 := Nat.le_trans Kj.1 (Nat.le_of_eq g1.symm)
    have ne_a_b1 : a ≠ b1 := Nat.ne_of_lt (Nat.lt_of_lt_of_le (E_a.keep Kj).lt (Nat.le_of_eq g1.symm))
    have ne_t_b1 : t ≠ b1 := Nat.ne_of_lt (Nat.lt_of_lt_of_le (V_t.keep Kj nin0).lt (Nat.le_of_eq g1.symm))
    have ne_rj_b1 : rj ≠ b1 := Nat.ne_of_lt (Nat.lt_of_lt_of_le VTl.lt (Nat.le_of_eq g1.symm))
    have CS1 : CHr Z oEL vmj hj vmj h1 := CHr.ext E1 CRj.1
    have CR1 := CRj.trans CS1
    have O1 := Oj.ext E1
    have K1 := Kj.ext E1
    obtain ⟨LL2, X1, Nj⟩ : ∃ LL, Stand pG l eG _ _ mG _ belowG methG cG T1 LL 8 48 ∧ Fr n0 LL := ⟨_, X1, Nj⟩
    have sf_b1 : Safe Z oEL vmj h1 b1 := Safe.ext E1 CRj.1 (Safe.new (Nat.le_of_eq g1.symm))
    have F1_24 : Fld Z h1 b1 "java/lang/String" "value" "[B" .null := D1 (Or.inr (ow hw 24 rfl)) (ty := (.array .byte)) (by decide)
    have F1_25 : Fld Z h1 b1 "java/lang/String" "coder" "B" (.int (0 : Int32)) := D1 (Or.inr (ow hw 25 rfl)) (ty := .byte) (by decide)
    refine ob T1 (mkF mG 178 #[oa a, oa t, oa wR, oi fj, oi nn, oa wL, oa rj, oi (7 : Int32), (os o8)] [(.ref b1)]) (fun _ kk => st1 _ kk) ?_
    refine uD X1 hx hby d178 179 (uA2 X1 hx hby d179 rfl 181 (uC X1 hx hby d181 0 182 ?_))
    obtain ⟨_, _, ⟨T3, L3, k3, n3⟩, -, X3, ⟨Lc3, hQ3, l3, y3, z3⟩, st3⟩ := X1.specialBack hx (y := (⟨"java/lang/String", "<init>", "([BB)V"⟩ : MethodName)) rfl hown (mvT hZ (ow hw 143 rfl)) (mvT hZ (ow hw 144 rfl)) (mvT hZ (ow hw 145 rfl)) (by decide) (backOf (W := 1) (rm_bbi b1 rj .null (.int (0 : Int32)) ⟨hw, O1, hS⟩ A1 F1_24 F1_25 n_b1) hZ (ow hw 145 rfl) (ow hw 8 rfl) (by decide) (by decide)) (g := (mkF mG 182 #[oa a, oa t, oa wR, oi fj, oi nn, oa wL, oa rj, oi (7 : Int32), (os o8)] [(.int (0 : Int32)), (.ref rj), (.ref b1), (.ref b1)])) rfl (by rw [hml]; rfl) (Steps.refl _) (a := b1) (argsL := [(.ref rj), (.int (0 : Int32))]) (rest := [(.ref b1)]) (lenOf pd_13 rfl) rfl (by show 2 * 0 + _ ≤ _; exact Nat.le_of_eq rfl) (hb hby d182) (fun _ _ => ⟨rfl, e1, (by decide : 8 + 0 ≤ _), (by decide : 48 + 0 ≤ _)⟩)
    dsimp only [Pt.U, Pt.locs, Pt.cells, Pt.slots] at X3 l3 y3 z3 st3 hQ3
    subst l3 y3 z3
    obtain ⟨h3, e3⟩ : ∃ h, T3.heap = h := ⟨_, rfl⟩
    rw [e3] at hQ3
    obtain ⟨rfl, N3q, K3q, O3, F3_0, F3_1⟩ := hQ3
    have N3 := Fr.app Nj N3q
    have K3 := K1.trans K3q (allS (Or.inr sz_b1) all0)
    have CS3 : CHr Z oEL vmj h1 vmj h3 := CHr.keep K3q (sfS sf_b1 sf0) CR1.1
    have CR3 := CR1.trans CS3
    obtain ⟨LL4, X3, N3⟩ : ∃ LL, Stand pG l eG _ _ mG _ belowG methG cG T3 LL 8 48 ∧ Fr n0 LL := ⟨_, X3, N3⟩
    refine ob T3 (mkF mG 185 #[oa a, oa t, oa wR, oi fj, oi nn, oa wL, oa rj, oi (7 : Int32), (os o8)] [(.ref b1)]) (fun _ kk => st3.trans kk) ?_
    obtain ⟨fs, hr, hrun, hended, hW, hsame⟩ := X3.leave (v := some (.ref b1)) (fun h => by rw [hret] at h; cases h) hlk
    obtain ⟨w1, w2, w3⟩ := State.Since.ended (U := T3.setFrames fs) hSj hW (by show _ ≤ T3.heap.size; rw [e3]; exact (Nat.le_trans (Nat.le_trans hkj CS1.2.1) CS3.2.1)) hsame
    have CF := CR3.trans (CHv.at X3 hZ hEL CR3.1)
    refine oout (oretA X3 hx hret rfl rfl (hb hby d185) hr) hrun hended (hPP _ _ ⟨_, _, rfl, ?_, ?_, ⟨_, rfl⟩, w1, w2, w3.mono (by decide) (by decide)⟩)
    · show Q_rm_stl Z wR wI zc vf wB wL wV cV a t kb nn c0 c1 c2 c3 c4 c5 c6 c7 h0 n0 _ T3.heap _
      rw [e3]
      exact ⟨b1, rj, krj, rfl, N3, K3, O3, (A1.keep K3q), F3_1, F3_0, ((VTl.ext E1).keep K3q (ninS ne_rj_b1 nin0))⟩
    · show CHr Z oEL sG.vm sG.heap T3.vm T3.heap
      rw [hh, e3]
      exact CF
  have Lp6 : ∀ (Tj : State) (hj : Heap) (vmj : Vm) (kj : Nat) (LLj : List Loc) (rj : Addr) (krj : ClassId) (fj : Int32) (o8 : Option Int32), ((5 : Int32) < nn) → Stand pG l eG (oRm 3 8 60 60) (sG.setVm vmj) mG #[(.ref a), (.ref t), (.ref wR)] belowG methG cG Tj LLj 7 44 → Fr n0 LLj → Tj.heap = hj → Z.Warmed39 (sG.setVm vmj).vm → (sG.setVm vmj).vm.findClass "java/lang/StringLatin1" = some mG.cls → sG.Since vmj kj → kj ≤ hj.size → CHr Z oEL sG.vm h0 vmj hj → Old Z n0 hj → Keep h0 hj [] → n0 ≤ rj → h0.size ≤ rj → Safe Z oEL vmj hj rj → Arv Z hj rj krj .byte nn [(.int ((oTl c0).toInt8.toInt32)), (.int ((oTl c1).toInt8.toInt32)), (.int ((oTl c2).toInt8.toInt32)), (.int ((oTl c3).toInt8.toInt32)), (.int ((oTl c4).toInt8.toInt32)), (.int ((oTl c5).toInt8.toInt32)), (.int (0 : Int32)), (.int (0 : Int32))] (.int (0 : Int32)) → oGo pG eG belowG PP Tj (mkF mG 117 #[oa a, oa t, oa wR, oi fj, oi nn, oa wL, oa rj, oi (6 : Int32), (os o8)] []) := by
    intro Tj hj vmj kj LLj rj krj fj o8 hlj Xj Nj ej hZ hown hSj hkj CRj Oj Kj n_rj sz_rj sf_rj Vj
    have ne_a_rj : a ≠ rj := Nat.ne_of_lt (Nat.lt_of_lt_of_le E_a.lt sz_rj)
    have ne_t_rj : t ≠ rj := Nat.ne_of_lt (Nat.lt_of_lt_of_le V_t.lt sz_rj)
    refine uI2 Xj hx hby d117 rfl 119 (uI2 Xj hx hby d119 rfl 121 ?_)
    by_cases hc5 : (6 : Int32) < nn
    · refine uNc Xj hx hby d121 (tlt hc5).2.1 124 (uA Xj hx hby d124 rfl 125 (uI2 Xj hx hby d125 rfl 127 (oLb Xj hx hby hZ ej (V_t.keep Kj nin0) ⟨by decide, hc5⟩ rfl d127 128 (uS Xj hx hby d128 255 131 (uAnd Xj hx hby d131 132 ?_)))))
      rw [own_and8 c6 r6]
      show oGo pG eG belowG _ Tj (mkF mG 132 #[oa a, oa t, oa wR, oi fj, oi nn, oa wL, oa rj, oi (6 : Int32), (os o8)] [(.int c6)])
      refine uT2 Xj hx hby d132 (hl := own_st8) #[oa a, oa t, oa wR, oi fj, oi nn, oa wL, oa rj, oi (6 : Int32), oi c6] 134 ?_
      refine oGs Xj hx hby hZ hown (ow hw 164 rfl) ej (S_wI.ext Oj.2) d134 137 ?_
      intro T6 X6 e6
      refine uI2 X6 hx hby d137 rfl 139 ?_
      refine oVp X6 hx hby hZ hown (ow hw 166 rfl) (ow hw 167 rfl) (ow hw 169 rfl) (ow hw 168 rfl) (ow hw 170 rfl) (ow hw 165 rfl) (rm_tl c6 ⟨hw, Oj, hS⟩ ) e6 (E_wI.ext Oj.2) Nj hml [(.int c6)] [] pd_20 d139 142 ?_
      intro T7 L7 X7 e7 N7
      refine uT2 X7 hx hby d142 #[oa a, oa t, oa wR, oi fj, oi nn, oa wL, oa rj, oi (6 : Int32), oi (oTl c6)] 144 (uI2 X7 hx hby d144 rfl 146 ?_)
      refine oCp X7 hx hby hZ hown (ow hw 190 rfl) (ow hw 191 rfl) (ow hw 192 rfl) (ow hw 96 rfl) (rm_can (oTl c6) ⟨hw, Oj, hS⟩ (own_tlR c6 r6)) e7 N7 hml [(.int (oTl c6))] [] pd_21 d146 149 ?_
      intro T8 L8 X8 e8 N8
      refine uY X8 hx hby d149 ((if0 _ _).trans (feq (by decide : ¬ ((1 : Int32) = (0 : Int32)))).2) 161 (uA2 X8 hx hby d161 rfl 163 (uI2 X8 hx hby d163 rfl 165 (uI2 X8 hx hby d165 rfl 167 ?_)))
      refine ob T8 (mkF mG 168 #[oa a, oa t, oa wR, oi fj, oi nn, oa wL, oa rj, oi (6 : Int32), oi (oTl c6)] [(.int ((oTl c6).toInt8.toInt32)), (.int (6 : Int32)), (.ref rj)]) (fun _ kk => XS.i2b X8.here hx rfl (hb hby d167) rfl kk) ?_
      refine oSb X8 hx hby hZ e8 Vj ⟨by decide, hc5⟩ 6 ((oTl c6).toInt8.toInt32) (own_narb (oTl c6)) d168 Oj Kj N8 n_rj (Or.inr sz_rj) 169 ?_
      intro T9 h9 L9 X9 e9 W9 V9 O9 K9 N9
      have CS9 : CHr Z oEL vmj hj vmj h9 := CHr.wr W9 sf_rj CRj.1
      have CR9 := CRj.trans CS9
      refine uInc X9 hx hby d169 rfl #[oa a, oa t, oa wR, oi fj, oi nn, oa wL, oa rj, oi (7 : Int32), oi (oTl c6)] 172 (uG X9 hx hby d172 117 ?_)
      exact Lp7 T9 h9 _ _ _ rj krj fj (some (oTl c6)) hc5 X9 N9 e9 hZ hown hSj (Nat.le_trans hkj CS9.2.1) CR9 O9 K9 n_rj sz_rj (CHr.safe CS9 Vj.lt sf_rj) V9
    refine uYc Xj hx hby d121 (flt hc5).2.1 175 ?_
    have VTl : Arv Z hj rj krj .byte nn (oT8 c0 c1 c2 c3 c4 c5 c6 c7) (.int (0 : Int32)) := own_arvEq Vj (fun i hi => by
      have hi2 : i < 6 := by rw [← (own_eq6 hn hlj hc5)] at hi; exact hi
      match i, hi2 with
      | 0, _ => exact rfl
      | 1, _ => exact rfl
      | 2, _ => exact rfl
      | 3, _ => exact rfl
      | 4, _ => exact rfl
      | 5, _ => exact rfl
      | n + 6, h => exact absurd h (by omega))
    obtain ⟨T10, h10, X10, e10, E10, A10, D10, _x10, st10⟩ := newO Xj hx hZ hown (ow hw 124 rfl) (ow hw 7 rfl) (ow hw 8 rfl) ej (g := (mkF mG 175 #[oa a, oa t, oa wR, oi fj, oi nn, oa wL, oa rj, oi (6 : Int32), (os o8)] [])) rfl (hb hby d175) (by decide) (by decide)
    obtain ⟨b10, g10⟩ : ∃ z, z = hj.size := ⟨_, rfl⟩
    rw [← g10] at A10 D10 st10
    have n_b10 : n0 ≤ b10 := Nat.le_trans (on0 Oj) (Nat.le_of_eq g10.symm)
    have sz_b10 : h0.size ≤ b10 := Nat.le_trans Kj.1 (Nat.le_of_eq g10.symm)
    have ne_a_b10 : a ≠ b10 := Nat.ne_of_lt (Nat.lt_of_lt_of_le (E_a.keep Kj).lt (Nat.le_of_eq g10.symm))
    have ne_t_b10 : t ≠ b10 := Nat.ne_of_lt (Nat.lt_of_lt_of_le (V_t.keep Kj nin0).lt (Nat.le_of_eq g10.symm))
    have ne_rj_b10 : rj ≠ b10 := Nat.ne_of_lt (Nat.lt_of_lt_of_le VTl.lt (Nat.le_of_eq g10.symm))
    have CS10 : CHr Z oEL vmj hj vmj h10 := CHr.ext E10 CRj.1
    have CR10 := CRj.trans CS10
    have O10 := Oj.ext E10
    have K10 := Kj.ext E10
    obtain ⟨LL11, X10, Nj⟩ : ∃ LL, Stand pG l eG _ _ mG _ belowG methG cG T10 LL 8 48 ∧ Fr n0 LL := ⟨_, X10, Nj⟩
    have sf_b10 : Safe Z oEL vmj h10 b10 := Safe.ext E10 CRj.1 (Safe.new (Nat.le_of_eq g10.symm))
    have F10_24 : Fld Z h10 b10 "java/lang/String" "value" "[B" .null := D10 (Or.inr (ow hw 24 rfl)) (ty := (.array .byte)) (by decide)
    have F10_25 : Fld Z h10 b10 "java/lang/String" "coder" "B" (.int (0 : Int32)) := D10 (Or.inr (ow hw 25 rfl)) (ty := .byte) (by decide)
    refine ob T10 (mkF mG 178 #[oa a, oa t, oa wR, oi fj, oi nn, oa wL, oa rj, oi (6 : Int32), (os o8)] [(.ref b10)]) (fun _ kk => st10 _ kk) ?_
    refine uD X10 hx hby d178 179 (uA2 X10 hx hby d179 rfl 181 (uC X10 hx hby d181 0 182 ?_))
    obtain ⟨_, _, ⟨T12, L12, k12, n12⟩, -, X12, ⟨Lc12, hQ12, l12, y12, z12⟩, st12⟩ := X10.specialBack hx (y := (⟨"java/lang/String", "<init>", "([BB)V"⟩ : MethodName)) rfl hown (mvT hZ (ow hw 143 rfl)) (mvT hZ (ow hw 144 rfl)) (mvT hZ (ow hw 145 rfl)) (by decide) (backOf (W := 1) (rm_bbi b10 rj .null (.int (0 : Int32)) ⟨hw, O10, hS⟩ A10 F10_24 F10_25 n_b10) hZ (ow hw 145 rfl) (ow hw 8 rfl) (by decide) (by decide)) (g := (mkF mG 182 #[oa a, oa t, oa wR, oi fj, oi nn, oa wL, oa rj, oi (6 : Int32), (os o8)] [(.int (0 : Int32)), (.ref rj), (.ref b10), (.ref b10)])) rfl (by rw [hml]; rfl) (Steps.refl _) (a := b10) (argsL := [(.ref rj), (.int (0 : Int32))]) (rest := [(.ref b10)]) (lenOf pd_13 rfl) rfl (by show 2 * 0 + _ ≤ _; exact Nat.le_of_eq rfl) (hb hby d182) (fun _ _ => ⟨rfl, e10, (by decide : 8 + 0 ≤ _), (by decide : 48 + 0 ≤ _)⟩)
    dsimp only [Pt.U, Pt.locs, Pt.cells, Pt.slots] at X12 l12 y12 z12 st12 hQ12
    subst l12 y12 z12
    obtain ⟨h12, e12⟩ : ∃ h, T12.heap = h := ⟨_, rfl⟩
    rw [e12] at hQ12
    obtain ⟨rfl, N12q, K12q, O12, F12_0, F12_1⟩ := hQ12
    have N12 := Fr.app Nj N12q
    have K12 := K10.trans K12q (allS (Or.inr sz_b10) all0)
    have CS12 : CHr Z oEL vmj h10 vmj h12 := CHr.keep K12q (sfS sf_b10 sf0) CR10.1
    have CR12 := CR10.trans CS12
    obtain ⟨LL13, X12, N12⟩ : ∃ LL, Stand pG l eG _ _ mG _ belowG methG cG T12 LL 8 48 ∧ Fr n0 LL := ⟨_, X12, N12⟩
    refine ob T12 (mkF mG 185 #[oa a, oa t, oa wR, oi fj, oi nn, oa wL, oa rj, oi (6 : Int32), (os o8)] [(.ref b10)]) (fun _ kk => st12.trans kk) ?_
    obtain ⟨fs, hr, hrun, hended, hW, hsame⟩ := X12.leave (v := some (.ref b10)) (fun h => by rw [hret] at h; cases h) hlk
    obtain ⟨w1, w2, w3⟩ := State.Since.ended (U := T12.setFrames fs) hSj hW (by show _ ≤ T12.heap.size; rw [e12]; exact (Nat.le_trans (Nat.le_trans hkj CS10.2.1) CS12.2.1)) hsame
    have CF := CR12.trans (CHv.at X12 hZ hEL CR12.1)
    refine oout (oretA X12 hx hret rfl rfl (hb hby d185) hr) hrun hended (hPP _ _ ⟨_, _, rfl, ?_, ?_, ⟨_, rfl⟩, w1, w2, w3.mono (by decide) (by decide)⟩)
    · show Q_rm_stl Z wR wI zc vf wB wL wV cV a t kb nn c0 c1 c2 c3 c4 c5 c6 c7 h0 n0 _ T12.heap _
      rw [e12]
      exact ⟨b10, rj, krj, rfl, N12, K12, O12, (A10.keep K12q), F12_1, F12_0, ((VTl.ext E10).keep K12q (ninS ne_rj_b10 nin0))⟩
    · show CHr Z oEL sG.vm sG.heap T12.vm T12.heap
      rw [hh, e12]
      exact CF
  have Lp5 : ∀ (Tj : State) (hj : Heap) (vmj : Vm) (kj : Nat) (LLj : List Loc) (rj : Addr) (krj : ClassId) (fj : Int32) (o8 : Option Int32), ((4 : Int32) < nn) → Stand pG l eG (oRm 3 8 60 60) (sG.setVm vmj) mG #[(.ref a), (.ref t), (.ref wR)] belowG methG cG Tj LLj 7 44 → Fr n0 LLj → Tj.heap = hj → Z.Warmed39 (sG.setVm vmj).vm → (sG.setVm vmj).vm.findClass "java/lang/StringLatin1" = some mG.cls → sG.Since vmj kj → kj ≤ hj.size → CHr Z oEL sG.vm h0 vmj hj → Old Z n0 hj → Keep h0 hj [] → n0 ≤ rj → h0.size ≤ rj → Safe Z oEL vmj hj rj → Arv Z hj rj krj .byte nn [(.int ((oTl c0).toInt8.toInt32)), (.int ((oTl c1).toInt8.toInt32)), (.int ((oTl c2).toInt8.toInt32)), (.int ((oTl c3).toInt8.toInt32)), (.int ((oTl c4).toInt8.toInt32)), (.int (0 : Int32)), (.int (0 : Int32)), (.int (0 : Int32))] (.int (0 : Int32)) → oGo pG eG belowG PP Tj (mkF mG 117 #[oa a, oa t, oa wR, oi fj, oi nn, oa wL, oa rj, oi (5 : Int32), (os o8)] []) := by
    intro Tj hj vmj kj LLj rj krj fj o8 hlj Xj Nj ej hZ hown hSj hkj CRj Oj Kj n_rj sz_rj sf_rj Vj
    have ne_a_rj : a ≠ rj := Nat.ne_of_lt (Nat.lt_of_lt_of_le E_a.lt sz_rj)
    have ne_t_rj : t ≠ rj := Nat.ne_of_lt (Nat.lt_of_lt_of_le V_t.lt sz_rj)
    refine uI2 Xj hx hby d117 rfl 119 (uI2 Xj hx hby d119 rfl 121 ?_)
    by_cases hc14 : (5 : Int32) < nn
    · refine uNc Xj hx hby d121 (tlt hc14).2.1 124 (uA Xj hx hby d124 rfl 125 (uI2 Xj hx hby d125 rfl 127 (oLb Xj hx hby hZ ej (V_t.keep Kj nin0) ⟨by decide, hc14⟩ rfl d127 128 (uS Xj hx hby d128 255 131 (uAnd Xj hx hby d131 132 ?_)))))
      rw [own_and8 c5 r5]
      show oGo pG eG belowG _ Tj (mkF mG 132 #[oa a, oa t, oa wR, oi fj, oi nn, oa wL, oa rj, oi (5 : Int32), (os o8)] [(.int c5)])
      refine uT2 Xj hx hby d132 (hl := own_st8) #[oa a, oa t, oa wR, oi fj, oi nn, oa wL, oa rj, oi (5 : Int32), oi c5] 134 ?_
      refine oGs Xj hx hby hZ hown (ow hw 164 rfl) ej (S_wI.ext Oj.2) d134 137 ?_
      intro T15 X15 e15
      refine uI2 X15 hx hby d137 rfl 139 ?_
      refine oVp X15 hx hby hZ hown (ow hw 166 rfl) (ow hw 167 rfl) (ow hw 169 rfl) (ow hw 168 rfl) (ow hw 170 rfl) (ow hw 165 rfl) (rm_tl c5 ⟨hw, Oj, hS⟩ ) e15 (E_wI.ext Oj.2) Nj hml [(.int c5)] [] pd_20 d139 142 ?_
      intro T16 L16 X16 e16 N16
      refine uT2 X16 hx hby d142 #[oa a, oa t, oa wR, oi fj, oi nn, oa wL, oa rj, oi (5 : Int32), oi (oTl c5)] 144 (uI2 X16 hx hby d144 rfl 146 ?_)
      refine oCp X16 hx hby hZ hown (ow hw 190 rfl) (ow hw 191 rfl) (ow hw 192 rfl) (ow hw 96 rfl) (rm_can (oTl c5) ⟨hw, Oj, hS⟩ (own_tlR c5 r5)) e16 N16 hml [(.int (oTl c5))] [] pd_21 d146 149 ?_
      intro T17 L17 X17 e17 N17
      refine uY X17 hx hby d149 ((if0 _ _).trans (feq (by decide : ¬ ((1 : Int32) = (0 : Int32)))).2) 161 (uA2 X17 hx hby d161 rfl 163 (uI2 X17 hx hby d163 rfl 165 (uI2 X17 hx hby d165 rfl 167 ?_)))
      refine ob T17 (mkF mG 168 #[oa a, oa t, oa wR, oi fj, oi nn, oa wL, oa rj, oi (5 : Int32), oi (oTl c5)] [(.int ((oTl c5).toInt8.toInt32)), (.int (5 : Int32)), (.ref rj)]) (fun _ kk => XS.i2b X17.here hx rfl (hb hby d167) rfl kk) ?_
      refine oSb X17 hx hby hZ e17 Vj ⟨by decide, hc14⟩ 5 ((oTl c5).toInt8.toInt32) (own_narb (oTl c5)) d168 Oj Kj N17 n_rj (Or.inr sz_rj) 169 ?_
      intro T18 h18 L18 X18 e18 W18 V18 O18 K18 N18
      have CS18 : CHr Z oEL vmj hj vmj h18 := CHr.wr W18 sf_rj CRj.1
      have CR18 := CRj.trans CS18
      refine uInc X18 hx hby d169 rfl #[oa a, oa t, oa wR, oi fj, oi nn, oa wL, oa rj, oi (6 : Int32), oi (oTl c5)] 172 (uG X18 hx hby d172 117 ?_)
      exact Lp6 T18 h18 _ _ _ rj krj fj (some (oTl c5)) hc14 X18 N18 e18 hZ hown hSj (Nat.le_trans hkj CS18.2.1) CR18 O18 K18 n_rj sz_rj (CHr.safe CS18 Vj.lt sf_rj) V18
    refine uYc Xj hx hby d121 (flt hc14).2.1 175 ?_
    have VTl : Arv Z hj rj krj .byte nn (oT8 c0 c1 c2 c3 c4 c5 c6 c7) (.int (0 : Int32)) := own_arvEq Vj (fun i hi => by
      have hi2 : i < 5 := by rw [← (own_eq5 hn hlj hc14)] at hi; exact hi
      match i, hi2 with
      | 0, _ => exact rfl
      | 1, _ => exact rfl
      | 2, _ => exact rfl
      | 3, _ => exact rfl
      | 4, _ => exact rfl
      | n + 5, h => exact absurd h (by omega))
    obtain ⟨T19, h19, X19, e19, E19, A19, D19, _x19, st19⟩ := newO Xj hx hZ hown (ow hw 124 rfl) (ow hw 7 rfl) (ow hw 8 rfl) ej (g := (mkF mG 175 #[oa a, oa t, oa wR, oi fj, oi nn, oa wL, oa rj, oi (5 : Int32), (os o8)] [])) rfl (hb hby d175) (by decide) (by decide)
    obtain ⟨b19, g19⟩ : ∃ z, z = hj.size := ⟨_, rfl⟩
    rw [← g19] at A19 D19 st19
    have n_b19 : n0 ≤ b19 := Nat.le_trans (on0 Oj) (Nat.le_of_eq g19.symm)
    have sz_b19 : h0.size ≤ b19 := Nat.le_trans Kj.1 (Nat.le_of_eq g19.symm)
    have ne_a_b19 : a ≠ b19 := Nat.ne_of_lt (Nat.lt_of_lt_of_le (E_a.keep Kj).lt (Nat.le_of_eq g19.symm))
    have ne_t_b19 : t ≠ b19 := Nat.ne_of_lt (Nat.lt_of_lt_of_le (V_t.keep Kj nin0).lt (Nat.le_of_eq g19.symm))
    have ne_rj_b19 : rj ≠ b19 := Nat.ne_of_lt (Nat.lt_of_lt_of_le VTl.lt (Nat.le_of_eq g19.symm))
    have CS19 : CHr Z oEL vmj hj vmj h19 := CHr.ext E19 CRj.1
    have CR19 := CRj.trans CS19
    have O19 := Oj.ext E19
    have K19 := Kj.ext E19
    obtain ⟨LL20, X19, Nj⟩ : ∃ LL, Stand pG l eG _ _ mG _ belowG methG cG T19 LL 8 48 ∧ Fr n0 LL := ⟨_, X19, Nj⟩
    have sf_b19 : Safe Z oEL vmj h19 b19 := Safe.ext E19 CRj.1 (Safe.new (Nat.le_of_eq g19.symm))
    have F19_24 : Fld Z h19 b19 "java/lang/String" "value" "[B" .null := D19 (Or.inr (ow hw 24 rfl)) (ty := (.array .byte)) (by decide)
    have F19_25 : Fld Z h19 b19 "java/lang/String" "coder" "B" (.int (0 : Int32)) := D19 (Or.inr (ow hw 25 rfl)) (ty := .byte) (by decide)
    refine ob T19 (mkF mG 178 #[oa a, oa t, oa wR, oi fj, oi nn, oa wL, oa rj, oi (5 : Int32), (os o8)] [(.ref b19)]) (fun _ kk => st19 _ kk) ?_
    refine uD X19 hx hby d178 179 (uA2 X19 hx hby d179 rfl 181 (uC X19 hx hby d181 0 182 ?_))
    obtain ⟨_, _, ⟨T21, L21, k21, n21⟩, -, X21, ⟨Lc21, hQ21, l21, y21, z21⟩, st21⟩ := X19.specialBack hx (y := (⟨"java/lang/String", "<init>", "([BB)V"⟩ : MethodName)) rfl hown (mvT hZ (ow hw 143 rfl)) (mvT hZ (ow hw 144 rfl)) (mvT hZ (ow hw 145 rfl)) (by decide) (backOf (W := 1) (rm_bbi b19 rj .null (.int (0 : Int32)) ⟨hw, O19, hS⟩ A19 F19_24 F19_25 n_b19) hZ (ow hw 145 rfl) (ow hw 8 rfl) (by decide) (by decide)) (g := (mkF mG 182 #[oa a, oa t, oa wR, oi fj, oi nn, oa wL, oa rj, oi (5 : Int32), (os o8)] [(.int (0 : Int32)), (.ref rj), (.ref b19), (.ref b19)])) rfl (by rw [hml]; rfl) (Steps.refl _) (a := b19) (argsL := [(.ref rj), (.int (0 : Int32))]) (rest := [(.ref b19)]) (lenOf pd_13 rfl) rfl (by show 2 * 0 + _ ≤ _; exact Nat.le_of_eq rfl) (hb hby d182) (fun _ _ => ⟨rfl, e19, (by decide : 8 + 0 ≤ _), (by decide : 48 + 0 ≤ _)⟩)
    dsimp only [Pt.U, Pt.locs, Pt.cells, Pt.slots] at X21 l21 y21 z21 st21 hQ21
    subst l21 y21 z21
    obtain ⟨h21, e21⟩ : ∃ h, T21.heap = h := ⟨_, rfl⟩
    rw [e21] at hQ21
    obtain ⟨rfl, N21q, K21q, O21, F21_0, F21_1⟩ := hQ21
    have N21 := Fr.app Nj N21q
    have K21 := K19.trans K21q (allS (Or.inr sz_b19) all0)
    have CS21 : CHr Z oEL vmj h19 vmj h21 := CHr.keep K21q (sfS sf_b19 sf0) CR19.1
    have CR21 := CR19.trans CS21
    obtain ⟨LL22, X21, N21⟩ : ∃ LL, Stand pG l eG _ _ mG _ belowG methG cG T21 LL 8 48 ∧ Fr n0 LL := ⟨_, X21, N21⟩
    refine ob T21 (mkF mG 185 #[oa a, oa t, oa wR, oi fj, oi nn, oa wL, oa rj, oi (5 : Int32), (os o8)] [(.ref b19)]) (fun _ kk => st21.trans kk) ?_
    obtain ⟨fs, hr, hrun, hended, hW, hsame⟩ := X21.leave (v := some (.ref b19)) (fun h => by rw [hret] at h; cases h) hlk
    obtain ⟨w1, w2, w3⟩ := State.Since.ended (U := T21.setFrames fs) hSj hW (by show _ ≤ T21.heap.size; rw [e21]; exact (Nat.le_trans (Nat.le_trans hkj CS19.2.1) CS21.2.1)) hsame
    have CF := CR21.trans (CHv.at X21 hZ hEL CR21.1)
    refine oout (oretA X21 hx hret rfl rfl (hb hby d185) hr) hrun hended (hPP _ _ ⟨_, _, rfl, ?_, ?_, ⟨_, rfl⟩, w1, w2, w3.mono (by decide) (by decide)⟩)
    · show Q_rm_stl Z wR wI zc vf wB wL wV cV a t kb nn c0 c1 c2 c3 c4 c5 c6 c7 h0 n0 _ T21.heap _
      rw [e21]
      exact ⟨b19, rj, krj, rfl, N21, K21, O21, (A19.keep K21q), F21_1, F21_0, ((VTl.ext E19).keep K21q (ninS ne_rj_b19 nin0))⟩
    · show CHr Z oEL sG.vm sG.heap T21.vm T21.heap
      rw [hh, e21]
      exact CF
  have Lp4 : ∀ (Tj : State) (hj : Heap) (vmj : Vm) (kj : Nat) (LLj : List Loc) (rj : Addr) (krj : ClassId) (fj : Int32) (o8 : Option Int32), ((3 : Int32) < nn) → Stand pG l eG (oRm 3 8 60 60) (sG.setVm vmj) mG #[(.ref a), (.ref t), (.ref wR)] belowG methG cG Tj LLj 7 44 → Fr n0 LLj → Tj.heap = hj → Z.Warmed39 (sG.setVm vmj).vm → (sG.setVm vmj).vm.findClass "java/lang/StringLatin1" = some mG.cls → sG.Since vmj kj → kj ≤ hj.size → CHr Z oEL sG.vm h0 vmj hj → Old Z n0 hj → Keep h0 hj [] → n0 ≤ rj → h0.size ≤ rj → Safe Z oEL vmj hj rj → Arv Z hj rj krj .byte nn [(.int ((oTl c0).toInt8.toInt32)), (.int ((oTl c1).toInt8.toInt32)), (.int ((oTl c2).toInt8.toInt32)), (.int ((oTl c3).toInt8.toInt32)), (.int (0 : Int32)), (.int (0 : Int32)), (.int (0 : Int32)), (.int (0 : Int32))] (.int (0 : Int32)) → oGo pG eG belowG PP Tj (mkF mG 117 #[oa a, oa t, oa wR, oi fj, oi nn, oa wL, oa rj, oi (4 : Int32), (os o8)] []) := by
    intro Tj hj vmj kj LLj rj krj fj o8 hlj Xj Nj ej hZ hown hSj hkj CRj Oj Kj n_rj sz_rj sf_rj Vj
    have ne_a_rj : a ≠ rj := Nat.ne_of_lt (Nat.lt_of_lt_of_le E_a.lt sz_rj)
    have ne_t_rj : t ≠ rj := Nat.ne_of_lt (Nat.lt_of_lt_of_le V_t.lt sz_rj)
    refine uI2 Xj hx hby d117 rfl 119 (uI2 Xj hx hby d119 rfl 121 ?_)
    by_cases hc23 : (4 : Int32) < nn
    · refine uNc Xj hx hby d121 (tlt hc23).2.1 124 (uA Xj hx hby d124 rfl 125 (uI2 Xj hx hby d125 rfl 127 (oLb Xj hx hby hZ ej (V_t.keep Kj nin0) ⟨by decide, hc23⟩ rfl d127 128 (uS Xj hx hby d128 255 131 (uAnd Xj hx hby d131 132 ?_)))))
      rw [own_and8 c4 r4]
      show oGo pG eG belowG _ Tj (mkF mG 132 #[oa a, oa t, oa wR, oi fj, oi nn, oa wL, oa rj, oi (4 : Int32), (os o8)] [(.int c4)])
      refine uT2 Xj hx hby d132 (hl := own_st8) #[oa a, oa t, oa wR, oi fj, oi nn, oa wL, oa rj, oi (4 : Int32), oi c4] 134 ?_
      refine oGs Xj hx hby hZ hown (ow hw 164 rfl) ej (S_wI.ext Oj.2) d134 137 ?_
      intro T24 X24 e24
      refine uI2 X24 hx hby d137 rfl 139 ?_
      refine oVp X24 hx hby hZ hown (ow hw 166 rfl) (ow hw 167 rfl) (ow hw 169 rfl) (ow hw 168 rfl) (ow hw 170 rfl) (ow hw 165 rfl) (rm_tl c4 ⟨hw, Oj, hS⟩ ) e24 (E_wI.ext Oj.2) Nj hml [(.int c4)] [] pd_20 d139 142 ?_
      intro T25 L25 X25 e25 N25
      refine uT2 X25 hx hby d142 #[oa a, oa t, oa wR, oi fj, oi nn, oa wL, oa rj, oi (4 : Int32), oi (oTl c4)] 144 (uI2 X25 hx hby d144 rfl 146 ?_)
      refine oCp X25 hx hby hZ hown (ow hw 190 rfl) (ow hw 191 rfl) (ow hw 192 rfl) (ow hw 96 rfl) (rm_can (oTl c4) ⟨hw, Oj, hS⟩ (own_tlR c4 r4)) e25 N25 hml [(.int (oTl c4))] [] pd_21 d146 149 ?_
      intro T26 L26 X26 e26 N26
      refine uY X26 hx hby d149 ((if0 _ _).trans (feq (by decide : ¬ ((1 : Int32) = (0 : Int32)))).2) 161 (uA2 X26 hx hby d161 rfl 163 (uI2 X26 hx hby d163 rfl 165 (uI2 X26 hx hby d165 rfl 167 ?_)))
      refine ob T26 (mkF mG 168 #[oa a, oa t, oa wR, oi fj, oi nn, oa wL, oa rj, oi (4 : Int32), oi (oTl c4)] [(.int ((oTl c4).toInt8.toInt32)), (.int (4 : Int32)), (.ref rj)]) (fun _ kk => XS.i2b X26.here hx rfl (hb hby d167) rfl kk) ?_
      refine oSb X26 hx hby hZ e26 Vj ⟨by decide, hc23⟩ 4 ((oTl c4).toInt8.toInt32) (own_narb (oTl c4)) d168 Oj Kj N26 n_rj (Or.inr sz_rj) 169 ?_
      intro T27 h27 L27 X27 e27 W27 V27 O27 K27 N27
      have CS27 : CHr Z oEL vmj hj vmj h27 := CHr.wr W27 sf_rj CRj.1
      have CR27 := CRj.trans CS27
      refine uInc X27 hx hby d169 rfl #[oa a, oa t, oa wR, oi fj, oi nn, oa wL, oa rj, oi (5 : Int32), oi (oTl c4)] 172 (uG X27 hx hby d172 117 ?_)
      exact Lp5 T27 h27 _ _ _ rj krj fj (some (oTl c4)) hc23 X27 N27 e27 hZ hown hSj (Nat.le_trans hkj CS27.2.1) CR27 O27 K27 n_rj sz_rj (CHr.safe CS27 Vj.lt sf_rj) V27
    refine uYc Xj hx hby d121 (flt hc23).2.1 175 ?_
    have VTl : Arv Z hj rj krj .byte nn (oT8 c0 c1 c2 c3 c4 c5 c6 c7) (.int (0 : Int32)) := own_arvEq Vj (fun i hi => by
      have hi2 : i < 4 := by rw [← (own_eq4 hn hlj hc23)] at hi; exact hi
      match i, hi2 with
      | 0, _ => exact rfl
      | 1, _ => exact rfl
      | 2, _ => exact rfl
      | 3, _ => exact rfl
      | n + 4, h => exact absurd h (by omega))
    obtain ⟨T28, h28, X28, e28, E28, A28, D28, _x28, st28⟩ := newO Xj hx hZ hown (ow hw 124 rfl) (ow hw 7 rfl) (ow hw 8 rfl) ej (g := (mkF mG 175 #[oa a, oa t, oa wR, oi fj, oi nn, oa wL, oa rj, oi (4 : Int32), (os o8)] [])) rfl (hb hby d175) (by decide) (by decide)
    obtain ⟨b28, g28⟩ : ∃ z, z = hj.size := ⟨_, rfl⟩
    rw [← g28] at A28 D28 st28
    have n_b28 : n0 ≤ b28 := Nat.le_trans (on0 Oj) (Nat.le_of_eq g28.symm)
    have sz_b28 : h0.size ≤ b28 := Nat.le_trans Kj.1 (Nat.le_of_eq g28.symm)
    have ne_a_b28 : a ≠ b28 := Nat.ne_of_lt (Nat.lt_of_lt_of_le (E_a.keep Kj).lt (Nat.le_of_eq g28.symm))
    have ne_t_b28 : t ≠ b28 := Nat.ne_of_lt (Nat.lt_of_lt_of_le (V_t.keep Kj nin0).lt (Nat.le_of_eq g28.symm))
    have ne_rj_b28 : rj ≠ b28 := Nat.ne_of_lt (Nat.lt_of_lt_of_le VTl.lt (Nat.le_of_eq g28.symm))
    have CS28 : CHr Z oEL vmj hj vmj h28 := CHr.ext E28 CRj.1
    have CR28 := CRj.trans CS28
    have O28 := Oj.ext E28
    have K28 := Kj.ext E28
    obtain ⟨LL29, X28, Nj⟩ : ∃ LL, Stand pG l eG _ _ mG _ belowG methG cG T28 LL 8 48 ∧ Fr n0 LL := ⟨_, X28, Nj⟩
    have sf_b28 : Safe Z oEL vmj h28 b28 := Safe.ext E28 CRj.1 (Safe.new (Nat.le_of_eq g28.symm))
    have F28_24 : Fld Z h28 b28 "java/lang/String" "value" "[B" .null := D28 (Or.inr (ow hw 24 rfl)) (ty := (.array .byte)) (by decide)
    have F28_25 : Fld Z h28 b28 "java/lang/String" "coder" "B" (.int (0 : Int32)) := D28 (Or.inr (ow hw 25 rfl)) (ty := .byte) (by decide)
    refine ob T28 (mkF mG 178 #[oa a, oa t, oa wR, oi fj, oi nn, oa wL, oa rj, oi (4 : Int32), (os o8)] [(.ref b28)]) (fun _ kk => st28 _ kk) ?_
    refine uD X28 hx hby d178 179 (uA2 X28 hx hby d179 rfl 181 (uC X28 hx hby d181 0 182 ?_))
    obtain ⟨_, _, ⟨T30, L30, k30, n30⟩, -, X30, ⟨Lc30, hQ30, l30, y30, z30⟩, st30⟩ := X28.specialBack hx (y := (⟨"java/lang/String", "<init>", "([BB)V"⟩ : MethodName)) rfl hown (mvT hZ (ow hw 143 rfl)) (mvT hZ (ow hw 144 rfl)) (mvT hZ (ow hw 145 rfl)) (by decide) (backOf (W := 1) (rm_bbi b28 rj .null (.int (0 : Int32)) ⟨hw, O28, hS⟩ A28 F28_24 F28_25 n_b28) hZ (ow hw 145 rfl) (ow hw 8 rfl) (by decide) (by decide)) (g := (mkF mG 182 #[oa a, oa t, oa wR, oi fj, oi nn, oa wL, oa rj, oi (4 : Int32), (os o8)] [(.int (0 : Int32)), (.ref rj), (.ref b28), (.ref b28)])) rfl (by rw [hml]; rfl) (Steps.refl _) (a := b28) (argsL := [(.ref rj), (.int (0 : Int32))]) (rest := [(.ref b28)]) (lenOf pd_13 rfl) rfl (by show 2 * 0 + _ ≤ _; exact Nat.le_of_eq rfl) (hb hby d182) (fun _ _ => ⟨rfl, e28, (by decide : 8 + 0 ≤ _), (by decide : 48 + 0 ≤ _)⟩)
    dsimp only [Pt.U, Pt.locs, Pt.cells, Pt.slots] at X30 l30 y30 z30 st30 hQ30
    subst l30 y30 z30
    obtain ⟨h30, e30⟩ : ∃ h, T30.heap = h := ⟨_, rfl⟩
    rw [e30] at hQ30
    obtain ⟨rfl, N30q, K30q, O30, F30_0, F30_1⟩ := hQ30
    have N30 := Fr.app Nj N30q
    have K30 := K28.trans K30q (allS (Or.inr sz_b28) all0)
    have CS30 : CHr Z oEL vmj h28 vmj h30 := CHr.keep K30q (sfS sf_b28 sf0) CR28.1
    have CR30 := CR28.trans CS30
    obtain ⟨LL31, X30, N30⟩ : ∃ LL, Stand pG l eG _ _ mG _ belowG methG cG T30 LL 8 48 ∧ Fr n0 LL := ⟨_, X30, N30⟩
    refine ob T30 (mkF mG 185 #[oa a, oa t, oa wR, oi fj, oi nn, oa wL, oa rj, oi (4 : Int32), (os o8)] [(.ref b28)]) (fun _ kk => st30.trans kk) ?_
    obtain ⟨fs, hr, hrun, hended, hW, hsame⟩ := X30.leave (v := some (.ref b28)) (fun h => by rw [hret] at h; cases h) hlk
    obtain ⟨w1, w2, w3⟩ := State.Since.ended (U := T30.setFrames fs) hSj hW (by show _ ≤ T30.heap.size; rw [e30]; exact (Nat.le_trans (Nat.le_trans hkj CS28.2.1) CS30.2.1)) hsame
    have CF := CR30.trans (CHv.at X30 hZ hEL CR30.1)
    refine oout (oretA X30 hx hret rfl rfl (hb hby d185) hr) hrun hended (hPP _ _ ⟨_, _, rfl, ?_, ?_, ⟨_, rfl⟩, w1, w2, w3.mono (by decide) (by decide)⟩)
    · show Q_rm_stl Z wR wI zc vf wB wL wV cV a t kb nn c0 c1 c2 c3 c4 c5 c6 c7 h0 n0 _ T30.heap _
      rw [e30]
      exact ⟨b28, rj, krj, rfl, N30, K30, O30, (A28.keep K30q), F30_1, F30_0, ((VTl.ext E28).keep K30q (ninS ne_rj_b28 nin0))⟩
    · show CHr Z oEL sG.vm sG.heap T30.vm T30.heap
      rw [hh, e30]
      exact CF
  have Lp3 : ∀ (Tj : State) (hj : Heap) (vmj : Vm) (kj : Nat) (LLj : List Loc) (rj : Addr) (krj : ClassId) (fj : Int32) (o8 : Option Int32), ((2 : Int32) < nn) → Stand pG l eG (oRm 3 8 60 60) (sG.setVm vmj) mG #[(.ref a), (.ref t), (.ref wR)] belowG methG cG Tj LLj 7 44 → Fr n0 LLj → Tj.heap = hj → Z.Warmed39 (sG.setVm vmj).vm → (sG.setVm vmj).vm.findClass "java/lang/StringLatin1" = some mG.cls → sG.Since vmj kj → kj ≤ hj.size → CHr Z oEL sG.vm h0 vmj hj → Old Z n0 hj → Keep h0 hj [] → n0 ≤ rj → h0.size ≤ rj → Safe Z oEL vmj hj rj → Arv Z hj rj krj .byte nn [(.int ((oTl c0).toInt8.toInt32)), (.int ((oTl c1).toInt8.toInt32)), (.int ((oTl c2).toInt8.toInt32)), (.int (0 : Int32)), (.int (0 : Int32)), (.int (0 : Int32)), (.int (0 : Int32)), (.int (0 : Int32))] (.int (0 : Int32)) → oGo pG eG belowG PP Tj (mkF mG 117 #[oa a, oa t, oa wR, oi fj, oi nn, oa wL, oa rj, oi (3 : Int32), (os o8)] []) := by
    intro Tj hj vmj kj LLj rj krj fj o8 hlj Xj Nj ej hZ hown hSj hkj CRj Oj Kj n_rj sz_rj sf_rj Vj
    have ne_a_rj : a ≠ rj := Nat.ne_of_lt (Nat.lt_of_lt_of_le E_a.lt sz_rj)
    have ne_t_rj : t ≠ rj := Nat.ne_of_lt (Nat.lt_of_lt_of_le V_t.lt sz_rj)
    refine uI2 Xj hx hby d117 rfl 119 (uI2 Xj hx hby d119 rfl 121 ?_)
    by_cases hc32 : (3 : Int32) < nn
    · refine uNc Xj hx hby d121 (tlt hc32).2.1 124 (uA Xj hx hby d124 rfl 125 (uI2 Xj hx hby d125 rfl 127 (oLb Xj hx hby hZ ej (V_t.keep Kj nin0) ⟨by decide, hc32⟩ rfl d127 128 (uS Xj hx hby d128 255 131 (uAnd Xj hx hby d131 132 ?_)))))
      rw [own_and8 c3 r3]
      show oGo pG eG belowG _ Tj (mkF mG 132 #[oa a, oa t, oa wR, oi fj, oi nn, oa wL, oa rj, oi (3 : Int32), (os o8)] [(.int c3)])
      refine uT2 Xj hx hby d132 (hl := own_st8) #[oa a, oa t, oa wR, oi fj, oi nn, oa wL, oa rj, oi (3 : Int32), oi c3] 134 ?_
      refine oGs Xj hx hby hZ hown (ow hw 164 rfl) ej (S_wI.ext Oj.2) d134 137 ?_
      intro T33 X33 e33
      refine uI2 X33 hx hby d137 rfl 139 ?_
      refine oVp X33 hx hby hZ hown (ow hw 166 rfl) (ow hw 167 rfl) (ow hw 169 rfl) (ow hw 168 rfl) (ow hw 170 rfl) (ow hw 165 rfl) (rm_tl c3 ⟨hw, Oj, hS⟩ ) e33 (E_wI.ext Oj.2) Nj hml [(.int c3)] [] pd_20 d139 142 ?_
      intro T34 L34 X34 e34 N34
      refine uT2 X34 hx hby d142 #[oa a, oa t, oa wR, oi fj, oi nn, oa wL, oa rj, oi (3 : Int32), oi (oTl c3)] 144 (uI2 X34 hx hby d144 rfl 146 ?_)
      refine oCp X34 hx hby hZ hown (ow hw 190 rfl) (ow hw 191 rfl) (ow hw 192 rfl) (ow hw 96 rfl) (rm_can (oTl c3) ⟨hw, Oj, hS⟩ (own_tlR c3 r3)) e34 N34 hml [(.int (oTl c3))] [] pd_21 d146 149 ?_
      intro T35 L35 X35 e35 N35
      refine uY X35 hx hby d149 ((if0 _ _).trans (feq (by decide : ¬ ((1 : Int32) = (0 : Int32)))).2) 161 (uA2 X35 hx hby d161 rfl 163 (uI2 X35 hx hby d163 rfl 165 (uI2 X35 hx hby d165 rfl 167 ?_)))
      refine ob T35 (mkF mG 168 #[oa a, oa t, oa wR, oi fj, oi nn, oa wL, oa rj, oi (3 : Int32), oi (oTl c3)] [(.int ((oTl c3).toInt8.toInt32)), (.int (3 : Int32)), (.ref rj)]) (fun _ kk => XS.i2b X35.here hx rfl (hb hby d167) rfl kk) ?_
      refine oSb X35 hx hby hZ e35 Vj ⟨by decide, hc32⟩ 3 ((oTl c3).toInt8.toInt32) (own_narb (oTl c3)) d168 Oj Kj N35 n_rj (Or.inr sz_rj) 169 ?_
      intro T36 h36 L36 X36 e36 W36 V36 O36 K36 N36
      have CS36 : CHr Z oEL vmj hj vmj h36 := CHr.wr W36 sf_rj CRj.1
      have CR36 := CRj.trans CS36
      refine uInc X36 hx hby d169 rfl #[oa a, oa t, oa wR, oi fj, oi nn, oa wL, oa rj, oi (4 : Int32), oi (oTl c3)] 172 (uG X36 hx hby d172 117 ?_)
      exact Lp4 T36 h36 _ _ _ rj krj fj (some (oTl c3)) hc32 X36 N36 e36 hZ hown hSj (Nat.le_trans hkj CS36.2.1) CR36 O36 K36 n_rj sz_rj (CHr.safe CS36 Vj.lt sf_rj) V36
    refine uYc Xj hx hby d121 (flt hc32).2.1 175 ?_
    have VTl : Arv Z hj rj krj .byte nn (oT8 c0 c1 c2 c3 c4 c5 c6 c7) (.int (0 : Int32)) := own_arvEq Vj (fun i hi => by
      have hi2 : i < 3 := by rw [← (own_eq3 hn hlj hc32)] at hi; exact hi
      match i, hi2 with
      | 0, _ => exact rfl
      | 1, _ => exact rfl
      | 2, _ => exact rfl
      | n + 3, h => exact absurd h (by omega))
    obtain ⟨T37, h37, X37, e37, E37, A37, D37, _x37, st37⟩ := newO Xj hx hZ hown (ow hw 124 rfl) (ow hw 7 rfl) (ow hw 8 rfl) ej (g := (mkF mG 175 #[oa a, oa t, oa wR, oi fj, oi nn, oa wL, oa rj, oi (3 : Int32), (os o8)] [])) rfl (hb hby d175) (by decide) (by decide)
    obtain ⟨b37, g37⟩ : ∃ z, z = hj.size := ⟨_, rfl⟩
    rw [← g37] at A37 D37 st37
    have n_b37 : n0 ≤ b37 := Nat.le_trans (on0 Oj) (Nat.le_of_eq g37.symm)
    have sz_b37 : h0.size ≤ b37 := Nat.le_trans Kj.1 (Nat.le_of_eq g37.symm)
    have ne_a_b37 : a ≠ b37 := Nat.ne_of_lt (Nat.lt_of_lt_of_le (E_a.keep Kj).lt (Nat.le_of_eq g37.symm))
    have ne_t_b37 : t ≠ b37 := Nat.ne_of_lt (Nat.lt_of_lt_of_le (V_t.keep Kj nin0).lt (Nat.le_of_eq g37.symm))
    have ne_rj_b37 : rj ≠ b37 := Nat.ne_of_lt (Nat.lt_of_lt_of_le VTl.lt (Nat.le_of_eq g37.symm))
    have CS37 : CHr Z oEL vmj hj vmj h37 := CHr.ext E37 CRj.1
    have CR37 := CRj.trans CS37
    have O37 := Oj.ext E37
    have K37 := Kj.ext E37
    obtain ⟨LL38, X37, Nj⟩ : ∃ LL, Stand pG l eG _ _ mG _ belowG methG cG T37 LL 8 48 ∧ Fr n0 LL := ⟨_, X37, Nj⟩
    have sf_b37 : Safe Z oEL vmj h37 b37 := Safe.ext E37 CRj.1 (Safe.new (Nat.le_of_eq g37.symm))
    have F37_24 : Fld Z h37 b37 "java/lang/String" "value" "[B" .null := D37 (Or.inr (ow hw 24 rfl)) (ty := (.array .byte)) (by decide)
    have F37_25 : Fld Z h37 b37 "java/lang/String" "coder" "B" (.int (0 : Int32)) := D37 (Or.inr (ow hw 25 rfl)) (ty := .byte) (by decide)
    refine ob T37 (mkF mG 178 #[oa a, oa t, oa wR, oi fj, oi nn, oa wL, oa rj, oi (3 : Int32), (os o8)] [(.ref b37)]) (fun _ kk => st37 _ kk) ?_
    refine uD X37 hx hby d178 179 (uA2 X37 hx hby d179 rfl 181 (uC X37 hx hby d181 0 182 ?_))
    obtain ⟨_, _, ⟨T39, L39, k39, n39⟩, -, X39, ⟨Lc39, hQ39, l39, y39, z39⟩, st39⟩ := X37.specialBack hx (y := (⟨"java/lang/String", "<init>", "([BB)V"⟩ : MethodName)) rfl hown (mvT hZ (ow hw 143 rfl)) (mvT hZ (ow hw 144 rfl)) (mvT hZ (ow hw 145 rfl)) (by decide) (backOf (W := 1) (rm_bbi b37 rj .null (.int (0 : Int32)) ⟨hw, O37, hS⟩ A37 F37_24 F37_25 n_b37) hZ (ow hw 145 rfl) (ow hw 8 rfl) (by decide) (by decide)) (g := (mkF mG 182 #[oa a, oa t, oa wR, oi fj, oi nn, oa wL, oa rj, oi (3 : Int32), (os o8)] [(.int (0 : Int32)), (.ref rj), (.ref b37), (.ref b37)])) rfl (by rw [hml]; rfl) (Steps.refl _) (a := b37) (argsL := [(.ref rj), (.int (0 : Int32))]) (rest := [(.ref b37)]) (lenOf pd_13 rfl) rfl (by show 2 * 0 + _ ≤ _; exact Nat.le_of_eq rfl) (hb hby d182) (fun _ _ => ⟨rfl, e37, (by decide : 8 + 0 ≤ _), (by decide : 48 + 0 ≤ _)⟩)
    dsimp only [Pt.U, Pt.locs, Pt.cells, Pt.slots] at X39 l39 y39 z39 st39 hQ39
    subst l39 y39 z39
    obtain ⟨h39, e39⟩ : ∃ h, T39.heap = h := ⟨_, rfl⟩
    rw [e39] at hQ39
    obtain ⟨rfl, N39q, K39q, O39, F39_0, F39_1⟩ := hQ39
    have N39 := Fr.app Nj N39q
    have K39 := K37.trans K39q (allS (Or.inr sz_b37) all0)
    have CS39 : CHr Z oEL vmj h37 vmj h39 := CHr.keep K39q (sfS sf_b37 sf0) CR37.1
    have CR39 := CR37.trans CS39
    obtain ⟨LL40, X39, N39⟩ : ∃ LL, Stand pG l eG _ _ mG _ belowG methG cG T39 LL 8 48 ∧ Fr n0 LL := ⟨_, X39, N39⟩
    refine ob T39 (mkF mG 185 #[oa a, oa t, oa wR, oi fj, oi nn, oa wL, oa rj, oi (3 : Int32), (os o8)] [(.ref b37)]) (fun _ kk => st39.trans kk) ?_
    obtain ⟨fs, hr, hrun, hended, hW, hsame⟩ := X39.leave (v := some (.ref b37)) (fun h => by rw [hret] at h; cases h) hlk
    obtain ⟨w1, w2, w3⟩ := State.Since.ended (U := T39.setFrames fs) hSj hW (by show _ ≤ T39.heap.size; rw [e39]; exact (Nat.le_trans (Nat.le_trans hkj CS37.2.1) CS39.2.1)) hsame
    have CF := CR39.trans (CHv.at X39 hZ hEL CR39.1)
    refine oout (oretA X39 hx hret rfl rfl (hb hby d185) hr) hrun hended (hPP _ _ ⟨_, _, rfl, ?_, ?_, ⟨_, rfl⟩, w1, w2, w3.mono (by decide) (by decide)⟩)
    · show Q_rm_stl Z wR wI zc vf wB wL wV cV a t kb nn c0 c1 c2 c3 c4 c5 c6 c7 h0 n0 _ T39.heap _
      rw [e39]
      exact ⟨b37, rj, krj, rfl, N39, K39, O39, (A37.keep K39q), F39_1, F39_0, ((VTl.ext E37).keep K39q (ninS ne_rj_b37 nin0))⟩
    · show CHr Z oEL sG.vm sG.heap T39.vm T39.heap
      rw [hh, e39]
      exact CF
  have Lp2 : ∀ (Tj : State) (hj : Heap) (vmj : Vm) (kj : Nat) (LLj : List Loc) (rj : Addr) (krj : ClassId) (fj : Int32) (o8 : Option Int32), ((1 : Int32) < nn) → Stand pG l eG (oRm 3 8 60 60) (sG.setVm vmj) mG #[(.ref a), (.ref t), (.ref wR)] belowG methG cG Tj LLj 7 44 → Fr n0 LLj → Tj.heap = hj → Z.Warmed39 (sG.setVm vmj).vm → (sG.setVm vmj).vm.findClass "java/lang/StringLatin1" = some mG.cls → sG.Since vmj kj → kj ≤ hj.size → CHr Z oEL sG.vm h0 vmj hj → Old Z n0 hj → Keep h0 hj [] → n0 ≤ rj → h0.size ≤ rj → Safe Z oEL vmj hj rj → Arv Z hj rj krj .byte nn [(.int ((oTl c0).toInt8.toInt32)), (.int ((oTl c1).toInt8.toInt32)), (.int (0 : Int32)), (.int (0 : Int32)), (.int (0 : Int32)), (.int (0 : Int32)), (.int (0 : Int32)), (.int (0 : Int32))] (.int (0 : Int32)) → oGo pG eG belowG PP Tj (mkF mG 117 #[oa a, oa t, oa wR, oi fj, oi nn, oa wL, oa rj, oi (2 : Int32), (os o8)] []) := by
    intro Tj hj vmj kj LLj rj krj fj o8 hlj Xj Nj ej hZ hown hSj hkj CRj Oj Kj n_rj sz_rj sf_rj Vj
    have ne_a_rj : a ≠ rj := Nat.ne_of_lt (Nat.lt_of_lt_of_le E_a.lt sz_rj)
    have ne_t_rj : t ≠ rj := Nat.ne_of_lt (Nat.lt_of_lt_of_le V_t.lt sz_rj)
    refine uI2 Xj hx hby d117 rfl 119 (uI2 Xj hx hby d119 rfl 121 ?_)
    by_cases hc41 : (2 : Int32) < nn
    · refine uNc Xj hx hby d121 (tlt hc41).2.1 124 (uA Xj hx hby d124 rfl 125 (uI2 Xj hx hby d125 rfl 127 (oLb Xj hx hby hZ ej (V_t.keep Kj nin0) ⟨by decide, hc41⟩ rfl d127 128 (uS Xj hx hby d128 255 131 (uAnd Xj hx hby d131 132 ?_)))))
      rw [own_and8 c2 r2]
      show oGo pG eG belowG _ Tj (mkF mG 132 #[oa a, oa t, oa wR, oi fj, oi nn, oa wL, oa rj, oi (2 : Int32), (os o8)] [(.int c2)])
      refine uT2 Xj hx hby d132 (hl := own_st8) #[oa a, oa t, oa wR, oi fj, oi nn, oa wL, oa rj, oi (2 : Int32), oi c2] 134 ?_
      refine oGs Xj hx hby hZ hown (ow hw 164 rfl) ej (S_wI.ext Oj.2) d134 137 ?_
      intro T42 X42 e42
      refine uI2 X42 hx hby d137 rfl 139 ?_
      refine oVp X42 hx hby hZ hown (ow hw 166 rfl) (ow hw 167 rfl) (ow hw 169 rfl) (ow hw 168 rfl) (ow hw 170 rfl) (ow hw 165 rfl) (rm_tl c2 ⟨hw, Oj, hS⟩ ) e42 (E_wI.ext Oj.2) Nj hml [(.int c2)] [] pd_20 d139 142 ?_
      intro T43 L43 X43 e43 N43
      refine uT2 X43 hx hby d142 #[oa a, oa t, oa wR, oi fj, oi nn, oa wL, oa rj, oi (2 : Int32), oi (oTl c2)] 144 (uI2 X43 hx hby d144 rfl 146 ?_)
      refine oCp X43 hx hby hZ hown (ow hw 190 rfl) (ow hw 191 rfl) (ow hw 192 rfl) (ow hw 96 rfl) (rm_can (oTl c2) ⟨hw, Oj, hS⟩ (own_tlR c2 r2)) e43 N43 hml [(.int (oTl c2))] [] pd_21 d146 149 ?_
      intro T44 L44 X44 e44 N44
      refine uY X44 hx hby d149 ((if0 _ _).trans (feq (by decide : ¬ ((1 : Int32) = (0 : Int32)))).2) 161 (uA2 X44 hx hby d161 rfl 163 (uI2 X44 hx hby d163 rfl 165 (uI2 X44 hx hby d165 rfl 167 ?_)))
      refine ob T44 (mkF mG 168 #[oa a, oa t, oa wR, oi fj, oi nn, oa wL, oa rj, oi (2 : Int32), oi (oTl c2)] [(.int ((oTl c2).toInt8.toInt32)), (.int (2 : Int32)), (.ref rj)]) (fun _ kk => XS.i2b X44.here hx rfl (hb hby d167) rfl kk) ?_
      refine oSb X44 hx hby hZ e44 Vj ⟨by decide, hc41⟩ 2 ((oTl c2).toInt8.toInt32) (own_narb (oTl c2)) d168 Oj Kj N44 n_rj (Or.inr sz_rj) 169 ?_
      intro T45 h45 L45 X45 e45 W45 V45 O45 K45 N45
      have CS45 : CHr Z oEL vmj hj vmj h45 := CHr.wr W45 sf_rj CRj.1
      have CR45 := CRj.trans CS45
      refine uInc X45 hx hby d169 rfl #[oa a, oa t, oa wR, oi fj, oi nn, oa wL, oa rj, oi (3 : Int32), oi (oTl c2)] 172 (uG X45 hx hby d172 117 ?_)
      exact Lp3 T45 h45 _ _ _ rj krj fj (some (oTl c2)) hc41 X45 N45 e45 hZ hown hSj (Nat.le_trans hkj CS45.2.1) CR45 O45 K45 n_rj sz_rj (CHr.safe CS45 Vj.lt sf_rj) V45
    refine uYc Xj hx hby d121 (flt hc41).2.1 175 ?_
    have VTl : Arv Z hj rj krj .byte nn (oT8 c0 c1 c2 c3 c4 c5 c6 c7) (.int (0 : Int32)) := own_arvEq Vj (fun i hi => by
      have hi2 : i < 2 := by rw [← (own_eq2 hn hlj hc41)] at hi; exact hi
      match i, hi2 with
      | 0, _ => exact rfl
      | 1, _ => exact rfl
      | n + 2, h => exact absurd h (by omega))
    obtain ⟨T46, h46, X46, e46, E46, A46, D46, _x46, st46⟩ := newO Xj hx hZ hown (ow hw 124 rfl) (ow hw 7 rfl) (ow hw 8 rfl) ej (g := (mkF mG 175 #[oa a, oa t, oa wR, oi fj, oi nn, oa wL, oa rj, oi (2 : Int32), (os o8)] [])) rfl (hb hby d175) (by decide) (by decide)
    obtain ⟨b46, g46⟩ : ∃ z, z = hj.size := ⟨_, rfl⟩
    rw [← g46] at A46 D46 st46
    have n_b46 : n0 ≤ b46 := Nat.le_trans (on0 Oj) (Nat.le_of_eq g46.symm)
    have sz_b46 : h0.size ≤ b46 := Nat.le_trans Kj.1 (Nat.le_of_eq g46.symm)
    have ne_a_b46 : a ≠ b46 := Nat.ne_of_lt (Nat.lt_of_lt_of_le (E_a.keep Kj).lt (Nat.le_of_eq g46.symm))
    have ne_t_b46 : t ≠ b46 := Nat.ne_of_lt (Nat.lt_of_lt_of_le (V_t.keep Kj nin0).lt (Nat.le_of_eq g46.symm))
    have ne_rj_b46 : rj ≠ b46 := Nat.ne_of_lt (Nat.lt_of_lt_of_le VTl.lt (Nat.le_of_eq g46.symm))
    have CS46 : CHr Z oEL vmj hj vmj h46 := CHr.ext E46 CRj.1
    have CR46 := CRj.trans CS46
    have O46 := Oj.ext E46
    have K46 := Kj.ext E46
    obtain ⟨LL47, X46, Nj⟩ : ∃ LL, Stand pG l eG _ _ mG _ belowG methG cG T46 LL 8 48 ∧ Fr n0 LL := ⟨_, X46, Nj⟩
    have sf_b46 : Safe Z oEL vmj h46 b46 := Safe.ext E46 CRj.1 (Safe.new (Nat.le_of_eq g46.symm))
    have F46_24 : Fld Z h46 b46 "java/lang/String" "value" "[B" .null := D46 (Or.inr (ow hw 24 rfl)) (ty := (.array .byte)) (by decide)
    have F46_25 : Fld Z h46 b46 "java/lang/String" "coder" "B" (.int (0 : Int32)) := D46 (Or.inr (ow hw 25 rfl)) (ty := .byte) (by decide)
    refine ob T46 (mkF mG 178 #[oa a, oa t, oa wR, oi fj, oi nn, oa wL, oa rj, oi (2 : Int32), (os o8)] [(.ref b46)]) (fun _ kk => st46 _ kk) ?_
    refine uD X46 hx hby d178 179 (uA2 X46 hx hby d179 rfl 181 (uC X46 hx hby d181 0 182 ?_))
    obtain ⟨_, _, ⟨T48, L48, k48, n48⟩, -, X48, ⟨Lc48, hQ48, l48, y48, z48⟩, st48⟩ := X46.specialBack hx (y := (⟨"java/lang/String", "<init>", "([BB)V"⟩ : MethodName)) rfl hown (mvT hZ (ow hw 143 rfl)) (mvT hZ (ow hw 144 rfl)) (mvT hZ (ow hw 145 rfl)) (by decide) (backOf (W := 1) (rm_bbi b46 rj .null (.int (0 : Int32)) ⟨hw, O46, hS⟩ A46 F46_24 F46_25 n_b46) hZ (ow hw 145 rfl) (ow hw 8 rfl) (by decide) (by decide)) (g := (mkF mG 182 #[oa a, oa t, oa wR, oi fj, oi nn, oa wL, oa rj, oi (2 : Int32), (os o8)] [(.int (0 : Int32)), (.ref rj), (.ref b46), (.ref b46)])) rfl (by rw [hml]; rfl) (Steps.refl _) (a := b46) (argsL := [(.ref rj), (.int (0 : Int32))]) (rest := [(.ref b46)]) (lenOf pd_13 rfl) rfl (by show 2 * 0 + _ ≤ _; exact Nat.le_of_eq rfl) (hb hby d182) (fun _ _ => ⟨rfl, e46, (by decide : 8 + 0 ≤ _), (by decide : 48 + 0 ≤ _)⟩)
    dsimp only [Pt.U, Pt.locs, Pt.cells, Pt.slots] at X48 l48 y48 z48 st48 hQ48
    subst l48 y48 z48
    obtain ⟨h48, e48⟩ : ∃ h, T48.heap = h := ⟨_, rfl⟩
    rw [e48] at hQ48
    obtain ⟨rfl, N48q, K48q, O48, F48_0, F48_1⟩ := hQ48
    have N48 := Fr.app Nj N48q
    have K48 := K46.trans K48q (allS (Or.inr sz_b46) all0)
    have CS48 : CHr Z oEL vmj h46 vmj h48 := CHr.keep K48q (sfS sf_b46 sf0) CR46.1
    have CR48 := CR46.trans CS48
    obtain ⟨LL49, X48, N48⟩ : ∃ LL, Stand pG l eG _ _ mG _ belowG methG cG T48 LL 8 48 ∧ Fr n0 LL := ⟨_, X48, N48⟩
    refine ob T48 (mkF mG 185 #[oa a, oa t, oa wR, oi fj, oi nn, oa wL, oa rj, oi (2 : Int32), (os o8)] [(.ref b46)]) (fun _ kk => st48.trans kk) ?_
    obtain ⟨fs, hr, hrun, hended, hW, hsame⟩ := X48.leave (v := some (.ref b46)) (fun h => by rw [hret] at h; cases h) hlk
    obtain ⟨w1, w2, w3⟩ := State.Since.ended (U := T48.setFrames fs) hSj hW (by show _ ≤ T48.heap.size; rw [e48]; exact (Nat.le_trans (Nat.le_trans hkj CS46.2.1) CS48.2.1)) hsame
    have CF := CR48.trans (CHv.at X48 hZ hEL CR48.1)
    refine oout (oretA X48 hx hret rfl rfl (hb hby d185) hr) hrun hended (hPP _ _ ⟨_, _, rfl, ?_, ?_, ⟨_, rfl⟩, w1, w2, w3.mono (by decide) (by decide)⟩)
    · show Q_rm_stl Z wR wI zc vf wB wL wV cV a t kb nn c0 c1 c2 c3 c4 c5 c6 c7 h0 n0 _ T48.heap _
      rw [e48]
      exact ⟨b46, rj, krj, rfl, N48, K48, O48, (A46.keep K48q), F48_1, F48_0, ((VTl.ext E46).keep K48q (ninS ne_rj_b46 nin0))⟩
    · show CHr Z oEL sG.vm sG.heap T48.vm T48.heap
      rw [hh, e48]
      exact CF
  have Lp1 : ∀ (Tj : State) (hj : Heap) (vmj : Vm) (kj : Nat) (LLj : List Loc) (rj : Addr) (krj : ClassId) (fj : Int32) (o8 : Option Int32), ((0 : Int32) < nn) → Stand pG l eG (oRm 3 8 60 60) (sG.setVm vmj) mG #[(.ref a), (.ref t), (.ref wR)] belowG methG cG Tj LLj 7 44 → Fr n0 LLj → Tj.heap = hj → Z.Warmed39 (sG.setVm vmj).vm → (sG.setVm vmj).vm.findClass "java/lang/StringLatin1" = some mG.cls → sG.Since vmj kj → kj ≤ hj.size → CHr Z oEL sG.vm h0 vmj hj → Old Z n0 hj → Keep h0 hj [] → n0 ≤ rj → h0.size ≤ rj → Safe Z oEL vmj hj rj → Arv Z hj rj krj .byte nn [(.int ((oTl c0).toInt8.toInt32)), (.int (0 : Int32)), (.int (0 : Int32)), (.int (0 : Int32)), (.int (0 : Int32)), (.int (0 : Int32)), (.int (0 : Int32)), (.int (0 : Int32))] (.int (0 : Int32)) → oGo pG eG belowG PP Tj (mkF mG 117 #[oa a, oa t, oa wR, oi fj, oi nn, oa wL, oa rj, oi (1 : Int32), (os o8)] []) := by
    intro Tj hj vmj kj LLj rj krj fj o8 hlj Xj Nj ej hZ hown hSj hkj CRj Oj Kj n_rj sz_rj sf_rj Vj
    have ne_a_rj : a ≠ rj := Nat.ne_of_lt (Nat.lt_of_lt_of_le E_a.lt sz_rj)
    have ne_t_rj : t ≠ rj := Nat.ne_of_lt (Nat.lt_of_lt_of_le V_t.lt sz_rj)
    refine uI2 Xj hx hby d117 rfl 119 (uI2 Xj hx hby d119 rfl 121 ?_)
    by_cases hc50 : (1 : Int32) < nn
    · refine uNc Xj hx hby d121 (tlt hc50).2.1 124 (uA Xj hx hby d124 rfl 125 (uI2 Xj hx hby d125 rfl 127 (oLb Xj hx hby hZ ej (V_t.keep Kj nin0) ⟨by decide, hc50⟩ rfl d127 128 (uS Xj hx hby d128 255 131 (uAnd Xj hx hby d131 132 ?_)))))
      rw [own_and8 c1 r1]
      show oGo pG eG belowG _ Tj (mkF mG 132 #[oa a, oa t, oa wR, oi fj, oi nn, oa wL, oa rj, oi (1 : Int32), (os o8)] [(.int c1)])
      refine uT2 Xj hx hby d132 (hl := own_st8) #[oa a, oa t, oa wR, oi fj, oi nn, oa wL, oa rj, oi (1 : Int32), oi c1] 134 ?_
      refine oGs Xj hx hby hZ hown (ow hw 164 rfl) ej (S_wI.ext Oj.2) d134 137 ?_
      intro T51 X51 e51
      refine uI2 X51 hx hby d137 rfl 139 ?_
      refine oVp X51 hx hby hZ hown (ow hw 166 rfl) (ow hw 167 rfl) (ow hw 169 rfl) (ow hw 168 rfl) (ow hw 170 rfl) (ow hw 165 rfl) (rm_tl c1 ⟨hw, Oj, hS⟩ ) e51 (E_wI.ext Oj.2) Nj hml [(.int c1)] [] pd_20 d139 142 ?_
      intro T52 L52 X52 e52 N52
      refine uT2 X52 hx hby d142 #[oa a, oa t, oa wR, oi fj, oi nn, oa wL, oa rj, oi (1 : Int32), oi (oTl c1)] 144 (uI2 X52 hx hby d144 rfl 146 ?_)
      refine oCp X52 hx hby hZ hown (ow hw 190 rfl) (ow hw 191 rfl) (ow hw 192 rfl) (ow hw 96 rfl) (rm_can (oTl c1) ⟨hw, Oj, hS⟩ (own_tlR c1 r1)) e52 N52 hml [(.int (oTl c1))] [] pd_21 d146 149 ?_
      intro T53 L53 X53 e53 N53
      refine uY X53 hx hby d149 ((if0 _ _).trans (feq (by decide : ¬ ((1 : Int32) = (0 : Int32)))).2) 161 (uA2 X53 hx hby d161 rfl 163 (uI2 X53 hx hby d163 rfl 165 (uI2 X53 hx hby d165 rfl 167 ?_)))
      refine ob T53 (mkF mG 168 #[oa a, oa t, oa wR, oi fj, oi nn, oa wL, oa rj, oi (1 : Int32), oi (oTl c1)] [(.int ((oTl c1).toInt8.toInt32)), (.int (1 : Int32)), (.ref rj)]) (fun _ kk => XS.i2b X53.here hx rfl (hb hby d167) rfl kk) ?_
      refine oSb X53 hx hby hZ e53 Vj ⟨by decide, hc50⟩ 1 ((oTl c1).toInt8.toInt32) (own_narb (oTl c1)) d168 Oj Kj N53 n_rj (Or.inr sz_rj) 169 ?_
      intro T54 h54 L54 X54 e54 W54 V54 O54 K54 N54
      have CS54 : CHr Z oEL vmj hj vmj h54 := CHr.wr W54 sf_rj CRj.1
      have CR54 := CRj.trans CS54
      refine uInc X54 hx hby d169 rfl #[oa a, oa t, oa wR, oi fj, oi nn, oa wL, oa rj, oi (2 : Int32), oi (oTl c1)] 172 (uG X54 hx hby d172 117 ?_)
      exact Lp2 T54 h54 _ _ _ rj krj fj (some (oTl c1)) hc50 X54 N54 e54 hZ hown hSj (Nat.le_trans hkj CS54.2.1) CR54 O54 K54 n_rj sz_rj (CHr.safe CS54 Vj.lt sf_rj) V54
    refine uYc Xj hx hby d121 (flt hc50).2.1 175 ?_
    have VTl : Arv Z hj rj krj .byte nn (oT8 c0 c1 c2 c3 c4 c5 c6 c7) (.int (0 : Int32)) := own_arvEq Vj (fun i hi => by
      have hi2 : i < 1 := by rw [← (own_eq1 hn (own_0n hn) hc50)] at hi; exact hi
      match i, hi2 with
      | 0, _ => exact rfl
      | n + 1, h => exact absurd h (by omega))
    obtain ⟨T55, h55, X55, e55, E55, A55, D55, _x55, st55⟩ := newO Xj hx hZ hown (ow hw 124 rfl) (ow hw 7 rfl) (ow hw 8 rfl) ej (g := (mkF mG 175 #[oa a, oa t, oa wR, oi fj, oi nn, oa wL, oa rj, oi (1 : Int32), (os o8)] [])) rfl (hb hby d175) (by decide) (by decide)
    obtain ⟨b55, g55⟩ : ∃ z, z = hj.size := ⟨_, rfl⟩
    rw [← g55] at A55 D55 st55
    have n_b55 : n0 ≤ b55 := Nat.le_trans (on0 Oj) (Nat.le_of_eq g55.symm)
    have sz_b55 : h0.size ≤ b55 := Nat.le_trans Kj.1 (Nat.le_of_eq g55.symm)
    have ne_a_b55 : a ≠ b55 := Nat.ne_of_lt (Nat.lt_of_lt_of_le (E_a.keep Kj).lt (Nat.le_of_eq g55.symm))
    have ne_t_b55 : t ≠ b55 := Nat.ne_of_lt (Nat.lt_of_lt_of_le (V_t.keep Kj nin0).lt (Nat.le_of_eq g55.symm))
    have ne_rj_b55 : rj ≠ b55 := Nat.ne_of_lt (Nat.lt_of_lt_of_le VTl.lt (Nat.le_of_eq g55.symm))
    have CS55 : CHr Z oEL vmj hj vmj h55 := CHr.ext E55 CRj.1
    have CR55 := CRj.trans CS55
    have O55 := Oj.ext E55
    have K55 := Kj.ext E55
    obtain ⟨LL56, X55, Nj⟩ : ∃ LL, Stand pG l eG _ _ mG _ belowG methG cG T55 LL 8 48 ∧ Fr n0 LL := ⟨_, X55, Nj⟩
    have sf_b55 : Safe Z oEL vmj h55 b55 := Safe.ext E55 CRj.1 (Safe.new (Nat.le_of_eq g55.symm))
    have F55_24 : Fld Z h55 b55 "java/lang/String" "value" "[B" .null := D55 (Or.inr (ow hw 24 rfl)) (ty := (.array .byte)) (by decide)
    have F55_25 : Fld Z h55 b55 "java/lang/String" "coder" "B" (.int (0 : Int32)) := D55 (Or.inr (ow hw 25 rfl)) (ty := .byte) (by decide)
    refine ob T55 (mkF mG 178 #[oa a, oa t, oa wR, oi fj, oi nn, oa wL, oa rj, oi (1 : Int32), (os o8)] [(.ref b55)]) (fun _ kk => st55 _ kk) ?_
    refine uD X55 hx hby d178 179 (uA2 X55 hx hby d179 rfl 181 (uC X55 hx hby d181 0 182 ?_))
    obtain ⟨_, _, ⟨T57, L57, k57, n57⟩, -, X57, ⟨Lc57, hQ57, l57, y57, z57⟩, st57⟩ := X55.specialBack hx (y := (⟨"java/lang/String", "<init>", "([BB)V"⟩ : MethodName)) rfl hown (mvT hZ (ow hw 143 rfl)) (mvT hZ (ow hw 144 rfl)) (mvT hZ (ow hw 145 rfl)) (by decide) (backOf (W := 1) (rm_bbi b55 rj .null (.int (0 : Int32)) ⟨hw, O55, hS⟩ A55 F55_24 F55_25 n_b55) hZ (ow hw 145 rfl) (ow hw 8 rfl) (by decide) (by decide)) (g := (mkF mG 182 #[oa a, oa t, oa wR, oi fj, oi nn, oa wL, oa rj, oi (1 : Int32), (os o8)] [(.int (0 : Int32)), (.ref rj), (.ref b55), (.ref b55)])) rfl (by rw [hml]; rfl) (Steps.refl _) (a := b55) (argsL := [(.ref rj), (.int (0 : Int32))]) (rest := [(.ref b55)]) (lenOf pd_13 rfl) rfl (by show 2 * 0 + _ ≤ _; exact Nat.le_of_eq rfl) (hb hby d182) (fun _ _ => ⟨rfl, e55, (by decide : 8 + 0 ≤ _), (by decide : 48 + 0 ≤ _)⟩)
    dsimp only [Pt.U, Pt.locs, Pt.cells, Pt.slots] at X57 l57 y57 z57 st57 hQ57
    subst l57 y57 z57
    obtain ⟨h57, e57⟩ : ∃ h, T57.heap = h := ⟨_, rfl⟩
    rw [e57] at hQ57
    obtain ⟨rfl, N57q, K57q, O57, F57_0, F57_1⟩ := hQ57
    have N57 := Fr.app Nj N57q
    have K57 := K55.trans K57q (allS (Or.inr sz_b55) all0)
    have CS57 : CHr Z oEL vmj h55 vmj h57 := CHr.keep K57q (sfS sf_b55 sf0) CR55.1
    have CR57 := CR55.trans CS57
    obtain ⟨LL58, X57, N57⟩ : ∃ LL, Stand pG l eG _ _ mG _ belowG methG cG T57 LL 8 48 ∧ Fr n0 LL := ⟨_, X57, N57⟩
    refine ob T57 (mkF mG 185 #[oa a, oa t, oa wR, oi fj, oi nn, oa wL, oa rj, oi (1 : Int32), (os o8)] [(.ref b55)]) (fun _ kk => st57.trans kk) ?_
    obtain ⟨fs, hr, hrun, hended, hW, hsame⟩ := X57.leave (v := some (.ref b55)) (fun h => by rw [hret] at h; cases h) hlk
    obtain ⟨w1, w2, w3⟩ := State.Since.ended (U := T57.setFrames fs) hSj hW (by show _ ≤ T57.heap.size; rw [e57]; exact (Nat.le_trans (Nat.le_trans hkj CS55.2.1) CS57.2.1)) hsame
    have CF := CR57.trans (CHv.at X57 hZ hEL CR57.1)
    refine oout (oretA X57 hx hret rfl rfl (hb hby d185) hr) hrun hended (hPP _ _ ⟨_, _, rfl, ?_, ?_, ⟨_, rfl⟩, w1, w2, w3.mono (by decide) (by decide)⟩)
    · show Q_rm_stl Z wR wI zc vf wB wL wV cV a t kb nn c0 c1 c2 c3 c4 c5 c6 c7 h0 n0 _ T57.heap _
      rw [e57]
      exact ⟨b55, rj, krj, rfl, N57, K57, O57, (A55.keep K57q), F57_1, F57_0, ((VTl.ext E55).keep K57q (ninS ne_rj_b55 nin0))⟩
    · show CHr Z oEL sG.vm sG.heap T57.vm T57.heap
      rw [hh, e57]
      exact CF
  have Lp0 : ∀ (Tj : State) (hj : Heap) (vmj : Vm) (kj : Nat) (LLj : List Loc) (rj : Addr) (krj : ClassId) (fj : Int32) (o8 : Option Int32), Stand pG l eG (oRm 3 8 60 60) (sG.setVm vmj) mG #[(.ref a), (.ref t), (.ref wR)] belowG methG cG Tj LLj 7 44 → Fr n0 LLj → Tj.heap = hj → Z.Warmed39 (sG.setVm vmj).vm → (sG.setVm vmj).vm.findClass "java/lang/StringLatin1" = some mG.cls → sG.Since vmj kj → kj ≤ hj.size → CHr Z oEL sG.vm h0 vmj hj → Old Z n0 hj → Keep h0 hj [] → n0 ≤ rj → h0.size ≤ rj → Safe Z oEL vmj hj rj → Arv Z hj rj krj .byte nn [(.int (0 : Int32)), (.int (0 : Int32)), (.int (0 : Int32)), (.int (0 : Int32)), (.int (0 : Int32)), (.int (0 : Int32)), (.int (0 : Int32)), (.int (0 : Int32))] (.int (0 : Int32)) → oGo pG eG belowG PP Tj (mkF mG 117 #[oa a, oa t, oa wR, oi fj, oi nn, oa wL, oa rj, oi (0 : Int32), (os o8)] []) := by
    intro Tj hj vmj kj LLj rj krj fj o8 Xj Nj ej hZ hown hSj hkj CRj Oj Kj n_rj sz_rj sf_rj Vj
    have ne_a_rj : a ≠ rj := Nat.ne_of_lt (Nat.lt_of_lt_of_le E_a.lt sz_rj)
    have ne_t_rj : t ≠ rj := Nat.ne_of_lt (Nat.lt_of_lt_of_le V_t.lt sz_rj)
    refine uI2 Xj hx hby d117 rfl 119 (uI2 Xj hx hby d119 rfl 121 (uNc Xj hx hby d121 (tlt (own_0n hn)).2.1 124 (uA Xj hx hby d124 rfl 125 (uI2 Xj hx hby d125 rfl 127 (oLb Xj hx hby hZ ej (V_t.keep Kj nin0) ⟨by decide, (own_0n hn)⟩ rfl d127 128 (uS Xj hx hby d128 255 131 (uAnd Xj hx hby d131 132 ?_)))))))
    rw [own_and8 c0 r0]
    show oGo pG eG belowG _ Tj (mkF mG 132 #[oa a, oa t, oa wR, oi fj, oi nn, oa wL, oa rj, oi (0 : Int32), (os o8)] [(.int c0)])
    refine uT2 Xj hx hby d132 (hl := own_st8) #[oa a, oa t, oa wR, oi fj, oi nn, oa wL, oa rj, oi (0 : Int32), oi c0] 134 ?_
    refine oGs Xj hx hby hZ hown (ow hw 164 rfl) ej (S_wI.ext Oj.2) d134 137 ?_
    intro T59 X59 e59
    refine uI2 X59 hx hby d137 rfl 139 ?_
    refine oVp X59 hx hby hZ hown (ow hw 166 rfl) (ow hw 167 rfl) (ow hw 169 rfl) (ow hw 168 rfl) (ow hw 170 rfl) (ow hw 165 rfl) (rm_tl c0 ⟨hw, Oj, hS⟩ ) e59 (E_wI.ext Oj.2) Nj hml [(.int c0)] [] pd_20 d139 142 ?_
    intro T60 L60 X60 e60 N60
    refine uT2 X60 hx hby d142 #[oa a, oa t, oa wR, oi fj, oi nn, oa wL, oa rj, oi (0 : Int32), oi (oTl c0)] 144 (uI2 X60 hx hby d144 rfl 146 ?_)
    refine oCp X60 hx hby hZ hown (ow hw 190 rfl) (ow hw 191 rfl) (ow hw 192 rfl) (ow hw 96 rfl) (rm_can (oTl c0) ⟨hw, Oj, hS⟩ (own_tlR c0 r0)) e60 N60 hml [(.int (oTl c0))] [] pd_21 d146 149 ?_
    intro T61 L61 X61 e61 N61
    refine uY X61 hx hby d149 ((if0 _ _).trans (feq (by decide : ¬ ((1 : Int32) = (0 : Int32)))).2) 161 (uA2 X61 hx hby d161 rfl 163 (uI2 X61 hx hby d163 rfl 165 (uI2 X61 hx hby d165 rfl 167 ?_)))
    refine ob T61 (mkF mG 168 #[oa a, oa t, oa wR, oi fj, oi nn, oa wL, oa rj, oi (0 : Int32), oi (oTl c0)] [(.int ((oTl c0).toInt8.toInt32)), (.int (0 : Int32)), (.ref rj)]) (fun _ kk => XS.i2b X61.here hx rfl (hb hby d167) rfl kk) ?_
    refine oSb X61 hx hby hZ e61 Vj ⟨by decide, (own_0n hn)⟩ 0 ((oTl c0).toInt8.toInt32) (own_narb (oTl c0)) d168 Oj Kj N61 n_rj (Or.inr sz_rj) 169 ?_
    intro T62 h62 L62 X62 e62 W62 V62 O62 K62 N62
    have CS62 : CHr Z oEL vmj hj vmj h62 := CHr.wr W62 sf_rj CRj.1
    have CR62 := CRj.trans CS62
    refine uInc X62 hx hby d169 rfl #[oa a, oa t, oa wR, oi fj, oi nn, oa wL, oa rj, oi (1 : Int32), oi (oTl c0)] 172 (uG X62 hx hby d172 117 ?_)
    exact Lp1 T62 h62 _ _ _ rj krj fj (some (oTl c0)) (own_0n hn) X62 N62 e62 hZ hown hSj (Nat.le_trans hkj CS62.2.1) CR62 O62 K62 n_rj sz_rj (CHr.safe CS62 Vj.lt sf_rj) V62
  have M63 : ∀ (Tm : State) (LLm : List Loc) (fi : Int32) (o5 : Option Int32), oPf fi c0 c1 c2 c3 c4 c5 c6 → fi < nn → Stand pG l eG (oRm 3 8 60 60) (sG.setVm sG.vm) mG #[(.ref a), (.ref t), (.ref wR)] belowG methG cG Tm LLm 0 0 → Fr n0 LLm → Tm.heap = h0 → oGo pG eG belowG PP Tm (mkF mG 63 #[oa a, oa t, oa wR, oi fi, oi nn, (os o5), .unset, .unset, .unset] []) := by
    intro Tm LLm fi o5 hpf hfi Xm Nm em
    refine uA Xm hx hby d63 rfl 64 ?_
    refine oVp Xm hx hby hZ hown (ow hw 171 rfl) (ow hw 172 rfl) (ow hw 174 rfl) (ow hw 173 rfl) (ow hw 175 rfl) (ow hw 155 rfl) (rm_lgl ⟨hw, O0, hS⟩ ) em (E_wR.ext O0.2) Nm hml [] [] pd_19 d64 67 ?_
    intro T63 L63 X63 e63 N63
    refine uO2 X63 hx hby d67 (hl := own_st5) #[oa a, oa t, oa wR, oi fi, oi nn, oa wL, .unset, .unset, .unset] 69 (uA2 X63 hx hby d69 rfl 71 ?_)
    obtain ⟨a64, T64, h64, k164, t64, kb64, X64, e64, E64, hS64, hk64, hZ, hown, A64, C64, V64, B64, la64, lt64, CS64, Li64, ns64, st64⟩ := ldcCH X63 hx hZ hown (ow hw 186 rfl) (fun d hd => hw d (own_atoms d hd)) e63 hS0 hk0 hEL (List.mem_of_getElem? (i := 2) rfl) CR0.1 (vs := [(.int (116 : Int32)), (.int (114 : Int32))]) (z := (2 : Int32)) ⟨by decide, by first | rfl | decide +kernel⟩ (by decide) rfl (g := (mkF mG 71 #[oa a, oa t, oa wR, oi fi, oi nn, oa wL, .unset, .unset, .unset] [(.ref wL)])) rfl (hb hby d71) (n := 8) (by decide) (by decide) (by decide) (by decide)
    have CR64 := CR0.trans CS64
    have O64 := O0.ext E64
    have K64 := K0.ext E64
    obtain ⟨LL65, X64, N63⟩ : ∃ LL, Stand pG l eG _ _ mG _ belowG methG cG T64 LL 2 12 ∧ Fr n0 LL := ⟨_, X64, N63⟩
    refine ob T64 (mkF mG 73 #[oa a, oa t, oa wR, oi fi, oi nn, oa wL, .unset, .unset, .unset] [(.ref a64), (.ref wL)]) (fun _ kk => st64 _ kk) ?_
    have nlg66 : wL ≠ a64 := Fld.ne (F_lg.ext O64.2) V64 (fun q => own_arvNe (V_lv.ext O64.2) B64 (by decide) (Value.ref.inj q))
    refine ob T64 (mkF mG 76 #[oa a, oa t, oa wR, oi fi, oi nn, oa wL, .unset, .unset, .unset] []) (fun _ kk => Jvm.RoadKit.acmp (g := (mkF mG 73 #[oa a, oa t, oa wR, oi fi, oi nn, oa wL, .unset, .unset, .unset] [(.ref a64), (.ref wL)])) X64 hx rfl rfl rfl (pc0 := 73) (pc' := 76) (same := false) rfl (hb hby d73) rfl (decide_eq_false fun q => nlg66 (Value.ref.inj q)) (by decide) (by decide) kk) ?_
    refine uA2 X64 hx hby d76 rfl 78 ?_
    obtain ⟨a67, T67, h67, k167, t67, kb67, X67, e67, E67, hS67, hk67, hZ, hown, A67, C67, V67, B67, la67, lt67, CS67, Li67, ns67, st67⟩ := ldcCH X64 hx hZ hown (ow hw 187 rfl) (fun d hd => hw d (own_atoms d hd)) e64 hS64 hk64 hEL (List.mem_of_getElem? (i := 3) rfl) CR64.1 (vs := [(.int (97 : Int32)), (.int (122 : Int32))]) (z := (2 : Int32)) ⟨by decide, by first | rfl | decide +kernel⟩ (by decide) rfl (g := (mkF mG 78 #[oa a, oa t, oa wR, oi fi, oi nn, oa wL, .unset, .unset, .unset] [(.ref wL)])) rfl (hb hby d78) (n := 8) (by decide) (by decide) (by decide) (by decide)
    have CR67 := CR64.trans CS67
    have O67 := O64.ext E67
    have K67 := K64.ext E67
    obtain ⟨LL68, X67, N63⟩ : ∃ LL, Stand pG l eG _ _ mG _ belowG methG cG T67 LL 4 24 ∧ Fr n0 LL := ⟨_, X67, N63⟩
    refine ob T67 (mkF mG 80 #[oa a, oa t, oa wR, oi fi, oi nn, oa wL, .unset, .unset, .unset] [(.ref a67), (.ref wL)]) (fun _ kk => st67 _ kk) ?_
    have nlg69 : wL ≠ a67 := Fld.ne (F_lg.ext O67.2) V67 (fun q => own_arvNe (V_lv.ext O67.2) B67 (by decide) (Value.ref.inj q))
    refine ob T67 (mkF mG 83 #[oa a, oa t, oa wR, oi fi, oi nn, oa wL, .unset, .unset, .unset] []) (fun _ kk => Jvm.RoadKit.acmp (g := (mkF mG 80 #[oa a, oa t, oa wR, oi fi, oi nn, oa wL, .unset, .unset, .unset] [(.ref a67), (.ref wL)])) X67 hx rfl rfl rfl (pc0 := 80) (pc' := 83) (same := false) rfl (hb hby d80) rfl (decide_eq_false fun q => nlg69 (Value.ref.inj q)) (by decide) (by decide) kk) ?_
    refine uA2 X67 hx hby d83 rfl 85 ?_
    obtain ⟨a70, T70, h70, k170, t70, kb70, X70, e70, E70, hS70, hk70, hZ, hown, A70, C70, V70, B70, la70, lt70, CS70, Li70, ns70, st70⟩ := ldcCH X67 hx hZ hown (ow hw 188 rfl) (fun d hd => hw d (own_atoms d hd)) e67 hS67 hk67 hEL (List.mem_of_getElem? (i := 4) rfl) CR67.1 (vs := [(.int (108 : Int32)), (.int (116 : Int32))]) (z := (2 : Int32)) ⟨by decide, by first | rfl | decide +kernel⟩ (by decide) rfl (g := (mkF mG 85 #[oa a, oa t, oa wR, oi fi, oi nn, oa wL, .unset, .unset, .unset] [(.ref wL)])) rfl (hb hby d85) (n := 8) (by decide) (by decide) (by decide) (by decide)
    have CR70 := CR67.trans CS70
    have O70 := O67.ext E70
    have K70 := K67.ext E70
    obtain ⟨LL71, X70, N63⟩ : ∃ LL, Stand pG l eG _ _ mG _ belowG methG cG T70 LL 6 36 ∧ Fr n0 LL := ⟨_, X70, N63⟩
    refine ob T70 (mkF mG 87 #[oa a, oa t, oa wR, oi fi, oi nn, oa wL, .unset, .unset, .unset] [(.ref a70), (.ref wL)]) (fun _ kk => st70 _ kk) ?_
    have nlg72 : wL ≠ a70 := Fld.ne (F_lg.ext O70.2) V70 (fun q => own_arvNe (V_lv.ext O70.2) B70 (by decide) (Value.ref.inj q))
    refine ob T70 (mkF mG 99 #[oa a, oa t, oa wR, oi fi, oi nn, oa wL, .unset, .unset, .unset] []) (fun _ kk => Jvm.RoadKit.acmp (g := (mkF mG 87 #[oa a, oa t, oa wR, oi fi, oi nn, oa wL, .unset, .unset, .unset] [(.ref a70), (.ref wL)])) X70 hx rfl rfl rfl (pc0 := 87) (pc' := 99) (same := false) rfl (hb hby d87) rfl (decide_eq_false fun q => nlg72 (Value.ref.inj q)) (by decide) (by decide) kk) ?_
    refine uI2 X70 hx hby d99 rfl 101 ?_
    obtain ⟨T73, h73, k73, X73, e73, E73, A73, st73⟩ := newP X70 hx hZ (ow hw 23 rfl) e70 (g := (mkF mG 101 #[oa a, oa t, oa wR, oi fi, oi nn, oa wL, .unset, .unset, .unset] [(.int nn)])) rfl (hb hby d101) rfl (own_e0 hn) (cap := 8) (own_e8 hn) (by decide) (by decide) (by decide)
    obtain ⟨b73, g73⟩ : ∃ z, z = h70.size := ⟨_, rfl⟩
    rw [← g73] at A73 st73
    have n_b73 : n0 ≤ b73 := Nat.le_trans (on0 O70) (Nat.le_of_eq g73.symm)
    have sz_b73 : h0.size ≤ b73 := Nat.le_trans K70.1 (Nat.le_of_eq g73.symm)
    have ne_a_b73 : a ≠ b73 := Nat.ne_of_lt (Nat.lt_of_lt_of_le (((E_a.ext E64).ext E67).ext E70).lt (Nat.le_of_eq g73.symm))
    have ne_t_b73 : t ≠ b73 := Nat.ne_of_lt (Nat.lt_of_lt_of_le (((V_t.ext E64).ext E67).ext E70).lt (Nat.le_of_eq g73.symm))
    have ne_a64_b73 : a64 ≠ b73 := Nat.ne_of_lt (Nat.lt_of_lt_of_le ((A64.ext E67).ext E70).lt (Nat.le_of_eq g73.symm))
    have ne_t64_b73 : t64 ≠ b73 := Nat.ne_of_lt (Nat.lt_of_lt_of_le ((B64.ext E67).ext E70).lt (Nat.le_of_eq g73.symm))
    have ne_a67_b73 : a67 ≠ b73 := Nat.ne_of_lt (Nat.lt_of_lt_of_le (A67.ext E70).lt (Nat.le_of_eq g73.symm))
    have ne_t67_b73 : t67 ≠ b73 := Nat.ne_of_lt (Nat.lt_of_lt_of_le (B67.ext E70).lt (Nat.le_of_eq g73.symm))
    have ne_a70_b73 : a70 ≠ b73 := Nat.ne_of_lt (Nat.lt_of_lt_of_le A70.lt (Nat.le_of_eq g73.symm))
    have ne_t70_b73 : t70 ≠ b73 := Nat.ne_of_lt (Nat.lt_of_lt_of_le B70.lt (Nat.le_of_eq g73.symm))
    have CS73 : CHr Z oEL T70.vm h70 T70.vm h73 := CHr.ext E73 CR70.1
    have CR73 := CR70.trans CS73
    have O73 := O70.ext E73
    have K73 := K70.ext E73
    obtain ⟨LL74, X73, N63⟩ : ∃ LL, Stand pG l eG _ _ mG _ belowG methG cG T73 LL 7 44 ∧ Fr n0 LL := ⟨_, X73, N63⟩
    have V73 : Arv Z h73 b73 k73 .byte nn [(.int (0 : Int32)), (.int (0 : Int32)), (.int (0 : Int32)), (.int (0 : Int32)), (.int (0 : Int32)), (.int (0 : Int32)), (.int (0 : Int32)), (.int (0 : Int32))] (.int (0 : Int32)) := (Arv.new A73 (own_e0 hn)).pad (pad_rep [] (.int (0 : Int32)) 8)
    have sf_b73 : Safe Z oEL T70.vm h73 b73 := Safe.ext E73 CR70.1 (Safe.new (Nat.le_of_eq g73.symm))
    refine ob T73 (mkF mG 103 #[oa a, oa t, oa wR, oi fi, oi nn, oa wL, .unset, .unset, .unset] [(.ref b73)]) (fun _ kk => st73 _ kk) ?_
    refine uO2 X73 hx hby d103 #[oa a, oa t, oa wR, oi fi, oi nn, oa wL, oa b73, .unset, .unset] 105 ?_
    rcases hpf with rfl | ⟨rfl, p0⟩ | ⟨rfl, p0, p1⟩ | ⟨rfl, p0, p1, p2⟩ | ⟨rfl, p0, p1, p2, p3⟩ | ⟨rfl, p0, p1, p2, p3, p4⟩ | ⟨rfl, p0, p1, p2, p3, p4, p5⟩
    · refine uA X73 hx hby d105 rfl 106 (uC X73 hx hby d106 0 107 (uA2 X73 hx hby d107 rfl 109 (uC X73 hx hby d109 0 110 (uI X73 hx hby d110 rfl 111 ?_))))
      obtain ⟨T75, h75, L75, X75, e75, N75, K75q, V75, st75⟩ := cpA X73 hx hZ hown (ow hw 189 rfl) (ow hw 142 rfl) (ow hw 140 rfl) (ow hw 141 rfl) e73 ((((V_t.ext E64).ext E67).ext E70).ext E73) V73 (Or.inl ⟨rfl, rfl⟩) (sp := (0 : Int32)) (dp := (0 : Int32)) (nn := (0 : Int32)) (us := []) (by decide) (by decide) (by decide) (by show 0 + 0 ≤ nn.toNatClampNeg; rw [Nat.zero_add]; exact own_ltc (by decide) (own_0n hn)) (by show 0 + 0 ≤ nn.toNatClampNeg; rw [Nat.zero_add]; exact own_ltc (by decide) (own_0n hn)) rfl (by decide) N63 n_b73 (g := (mkF mG 111 #[oa a, oa t, oa wR, oi (0 : Int32), oi nn, oa wL, oa b73, .unset, .unset] [(.int (0 : Int32)), (.int (0 : Int32)), (.ref b73), (.int (0 : Int32)), (.ref t)])) rfl (by rw [hml]; rfl) rfl (hb hby d111) (by decide) (W := 0) (by show 2 * 0 + _ ≤ _; exact Nat.le_of_eq rfl) (by decide)
      have VV75 : Arv Z h75 b73 k73 .byte nn [(.int (0 : Int32)), (.int (0 : Int32)), (.int (0 : Int32)), (.int (0 : Int32)), (.int (0 : Int32)), (.int (0 : Int32)), (.int (0 : Int32)), (.int (0 : Int32))] (.int (0 : Int32)) := V75
      have O75 := O73.keep K75q (allS n_b73 all0)
      have K75 := K73.trans K75q (allS (Or.inr sz_b73) all0)
      have CS75 : CHr Z oEL T70.vm h73 T70.vm h75 := CHr.keep K75q (sfS sf_b73 sf0) CR73.1
      have CR75 := CR73.trans CS75
      refine ob T75 (mkF mG 114 #[oa a, oa t, oa wR, oi (0 : Int32), oi nn, oa wL, oa b73, .unset, .unset] []) (fun _ kk => st75 _ kk) ?_
      refine uI X75 hx hby d114 rfl 115 (uT2 X75 hx hby d115 #[oa a, oa t, oa wR, oi (0 : Int32), oi nn, oa wL, oa b73, oi (0 : Int32), .unset] 117 ?_)
      exact Lp0 T75 h75 _ _ _ b73 k73 (0 : Int32) none X75 N75 e75 hZ hown hS70 (Nat.le_trans (Nat.le_trans hk70 CS73.2.1) CS75.2.1) CR75 O75 K75 n_b73 sz_b73 (CHr.safe CS75 V73.lt sf_b73) VV75
    · refine uA X73 hx hby d105 rfl 106 (uC X73 hx hby d106 0 107 (uA2 X73 hx hby d107 rfl 109 (uC X73 hx hby d109 0 110 (uI X73 hx hby d110 rfl 111 ?_))))
      obtain ⟨T76, h76, L76, X76, e76, N76, K76q, V76, st76⟩ := cpA X73 hx hZ hown (ow hw 189 rfl) (ow hw 142 rfl) (ow hw 140 rfl) (ow hw 141 rfl) e73 ((((V_t.ext E64).ext E67).ext E70).ext E73) V73 (Or.inl ⟨rfl, rfl⟩) (sp := (0 : Int32)) (dp := (0 : Int32)) (nn := (1 : Int32)) (us := [(.int (c0.toInt8.toInt32))]) (by decide) (by decide) (by decide) (by show 0 + 1 ≤ nn.toNatClampNeg; rw [Nat.zero_add]; exact own_ltc (by decide) hfi) (by show 0 + 1 ≤ nn.toNatClampNeg; rw [Nat.zero_add]; exact own_ltc (by decide) hfi) rfl (by decide) N63 n_b73 (g := (mkF mG 111 #[oa a, oa t, oa wR, oi (1 : Int32), oi nn, oa wL, oa b73, .unset, .unset] [(.int (1 : Int32)), (.int (0 : Int32)), (.ref b73), (.int (0 : Int32)), (.ref t)])) rfl (by rw [hml]; rfl) rfl (hb hby d111) (by decide) (W := 0) (by show 2 * 0 + _ ≤ _; exact Nat.le_of_eq rfl) (by decide)
      have VV76 : Arv Z h76 b73 k73 .byte nn [(.int (c0.toInt8.toInt32)), (.int (0 : Int32)), (.int (0 : Int32)), (.int (0 : Int32)), (.int (0 : Int32)), (.int (0 : Int32)), (.int (0 : Int32)), (.int (0 : Int32))] (.int (0 : Int32)) := V76
      have O76 := O73.keep K76q (allS n_b73 all0)
      have K76 := K73.trans K76q (allS (Or.inr sz_b73) all0)
      have CS76 : CHr Z oEL T70.vm h73 T70.vm h76 := CHr.keep K76q (sfS sf_b73 sf0) CR73.1
      have CR76 := CR73.trans CS76
      refine ob T76 (mkF mG 114 #[oa a, oa t, oa wR, oi (1 : Int32), oi nn, oa wL, oa b73, .unset, .unset] []) (fun _ kk => st76 _ kk) ?_
      refine uI X76 hx hby d114 rfl 115 (uT2 X76 hx hby d115 #[oa a, oa t, oa wR, oi (1 : Int32), oi nn, oa wL, oa b73, oi (1 : Int32), .unset] 117 ?_)
      have VJ : Arv Z h76 b73 k73 .byte nn [(.int ((oTl c0).toInt8.toInt32)), (.int (0 : Int32)), (.int (0 : Int32)), (.int (0 : Int32)), (.int (0 : Int32)), (.int (0 : Int32)), (.int (0 : Int32)), (.int (0 : Int32))] (.int (0 : Int32)) := by
        rw [← own_tlEq p0]
        exact VV76
      exact Lp1 T76 h76 _ _ _ b73 k73 (1 : Int32) none (own_0n hn) X76 N76 e76 hZ hown hS70 (Nat.le_trans (Nat.le_trans hk70 CS73.2.1) CS76.2.1) CR76 O76 K76 n_b73 sz_b73 (CHr.safe CS76 V73.lt sf_b73) VJ
    · refine uA X73 hx hby d105 rfl 106 (uC X73 hx hby d106 0 107 (uA2 X73 hx hby d107 rfl 109 (uC X73 hx hby d109 0 110 (uI X73 hx hby d110 rfl 111 ?_))))
      obtain ⟨T77, h77, L77, X77, e77, N77, K77q, V77, st77⟩ := cpA X73 hx hZ hown (ow hw 189 rfl) (ow hw 142 rfl) (ow hw 140 rfl) (ow hw 141 rfl) e73 ((((V_t.ext E64).ext E67).ext E70).ext E73) V73 (Or.inl ⟨rfl, rfl⟩) (sp := (0 : Int32)) (dp := (0 : Int32)) (nn := (2 : Int32)) (us := [(.int (c0.toInt8.toInt32)), (.int (c1.toInt8.toInt32))]) (by decide) (by decide) (by decide) (by show 0 + 2 ≤ nn.toNatClampNeg; rw [Nat.zero_add]; exact own_ltc (by decide) hfi) (by show 0 + 2 ≤ nn.toNatClampNeg; rw [Nat.zero_add]; exact own_ltc (by decide) hfi) rfl (by decide) N63 n_b73 (g := (mkF mG 111 #[oa a, oa t, oa wR, oi (2 : Int32), oi nn, oa wL, oa b73, .unset, .unset] [(.int (2 : Int32)), (.int (0 : Int32)), (.ref b73), (.int (0 : Int32)), (.ref t)])) rfl (by rw [hml]; rfl) rfl (hb hby d111) (by decide) (W := 0) (by show 2 * 0 + _ ≤ _; exact Nat.le_of_eq rfl) (by decide)
      have VV77 : Arv Z h77 b73 k73 .byte nn [(.int (c0.toInt8.toInt32)), (.int (c1.toInt8.toInt32)), (.int (0 : Int32)), (.int (0 : Int32)), (.int (0 : Int32)), (.int (0 : Int32)), (.int (0 : Int32)), (.int (0 : Int32))] (.int (0 : Int32)) := V77
      have O77 := O73.keep K77q (allS n_b73 all0)
      have K77 := K73.trans K77q (allS (Or.inr sz_b73) all0)
      have CS77 : CHr Z oEL T70.vm h73 T70.vm h77 := CHr.keep K77q (sfS sf_b73 sf0) CR73.1
      have CR77 := CR73.trans CS77
      refine ob T77 (mkF mG 114 #[oa a, oa t, oa wR, oi (2 : Int32), oi nn, oa wL, oa b73, .unset, .unset] []) (fun _ kk => st77 _ kk) ?_
      refine uI X77 hx hby d114 rfl 115 (uT2 X77 hx hby d115 #[oa a, oa t, oa wR, oi (2 : Int32), oi nn, oa wL, oa b73, oi (2 : Int32), .unset] 117 ?_)
      have VJ : Arv Z h77 b73 k73 .byte nn [(.int ((oTl c0).toInt8.toInt32)), (.int ((oTl c1).toInt8.toInt32)), (.int (0 : Int32)), (.int (0 : Int32)), (.int (0 : Int32)), (.int (0 : Int32)), (.int (0 : Int32)), (.int (0 : Int32))] (.int (0 : Int32)) := by
        rw [← own_tlEq p0, ← own_tlEq p1]
        exact VV77
      exact Lp2 T77 h77 _ _ _ b73 k73 (2 : Int32) none (own_dn1 hfi) X77 N77 e77 hZ hown hS70 (Nat.le_trans (Nat.le_trans hk70 CS73.2.1) CS77.2.1) CR77 O77 K77 n_b73 sz_b73 (CHr.safe CS77 V73.lt sf_b73) VJ
    · refine uA X73 hx hby d105 rfl 106 (uC X73 hx hby d106 0 107 (uA2 X73 hx hby d107 rfl 109 (uC X73 hx hby d109 0 110 (uI X73 hx hby d110 rfl 111 ?_))))
      obtain ⟨T78, h78, L78, X78, e78, N78, K78q, V78, st78⟩ := cpA X73 hx hZ hown (ow hw 189 rfl) (ow hw 142 rfl) (ow hw 140 rfl) (ow hw 141 rfl) e73 ((((V_t.ext E64).ext E67).ext E70).ext E73) V73 (Or.inl ⟨rfl, rfl⟩) (sp := (0 : Int32)) (dp := (0 : Int32)) (nn := (3 : Int32)) (us := [(.int (c0.toInt8.toInt32)), (.int (c1.toInt8.toInt32)), (.int (c2.toInt8.toInt32))]) (by decide) (by decide) (by decide) (by show 0 + 3 ≤ nn.toNatClampNeg; rw [Nat.zero_add]; exact own_ltc (by decide) hfi) (by show 0 + 3 ≤ nn.toNatClampNeg; rw [Nat.zero_add]; exact own_ltc (by decide) hfi) rfl (by decide) N63 n_b73 (g := (mkF mG 111 #[oa a, oa t, oa wR, oi (3 : Int32), oi nn, oa wL, oa b73, .unset, .unset] [(.int (3 : Int32)), (.int (0 : Int32)), (.ref b73), (.int (0 : Int32)), (.ref t)])) rfl (by rw [hml]; rfl) rfl (hb hby d111) (by decide) (W := 0) (by show 2 * 0 + _ ≤ _; exact Nat.le_of_eq rfl) (by decide)
      have VV78 : Arv Z h78 b73 k73 .byte nn [(.int (c0.toInt8.toInt32)), (.int (c1.toInt8.toInt32)), (.int (c2.toInt8.toInt32)), (.int (0 : Int32)), (.int (0 : Int32)), (.int (0 : Int32)), (.int (0 : Int32)), (.int (0 : Int32))] (.int (0 : Int32)) := V78
      have O78 := O73.keep K78q (allS n_b73 all0)
      have K78 := K73.trans K78q (allS (Or.inr sz_b73) all0)
      have CS78 : CHr Z oEL T70.vm h73 T70.vm h78 := CHr.keep K78q (sfS sf_b73 sf0) CR73.1
      have CR78 := CR73.trans CS78
      refine ob T78 (mkF mG 114 #[oa a, oa t, oa wR, oi (3 : Int32), oi nn, oa wL, oa b73, .unset, .unset] []) (fun _ kk => st78 _ kk) ?_
      refine uI X78 hx hby d114 rfl 115 (uT2 X78 hx hby d115 #[oa a, oa t, oa wR, oi (3 : Int32), oi nn, oa wL, oa b73, oi (3 : Int32), .unset] 117 ?_)
      have VJ : Arv Z h78 b73 k73 .byte nn [(.int ((oTl c0).toInt8.toInt32)), (.int ((oTl c1).toInt8.toInt32)), (.int ((oTl c2).toInt8.toInt32)), (.int (0 : Int32)), (.int (0 : Int32)), (.int (0 : Int32)), (.int (0 : Int32)), (.int (0 : Int32))] (.int (0 : Int32)) := by
        rw [← own_tlEq p0, ← own_tlEq p1, ← own_tlEq p2]
        exact VV78
      exact Lp3 T78 h78 _ _ _ b73 k73 (3 : Int32) none (own_dn2 hfi) X78 N78 e78 hZ hown hS70 (Nat.le_trans (Nat.le_trans hk70 CS73.2.1) CS78.2.1) CR78 O78 K78 n_b73 sz_b73 (CHr.safe CS78 V73.lt sf_b73) VJ
    · refine uA X73 hx hby d105 rfl 106 (uC X73 hx hby d106 0 107 (uA2 X73 hx hby d107 rfl 109 (uC X73 hx hby d109 0 110 (uI X73 hx hby d110 rfl 111 ?_))))
      obtain ⟨T79, h79, L79, X79, e79, N79, K79q, V79, st79⟩ := cpA X73 hx hZ hown (ow hw 189 rfl) (ow hw 142 rfl) (ow hw 140 rfl) (ow hw 141 rfl) e73 ((((V_t.ext E64).ext E67).ext E70).ext E73) V73 (Or.inl ⟨rfl, rfl⟩) (sp := (0 : Int32)) (dp := (0 : Int32)) (nn := (4 : Int32)) (us := [(.int (c0.toInt8.toInt32)), (.int (c1.toInt8.toInt32)), (.int (c2.toInt8.toInt32)), (.int (c3.toInt8.toInt32))]) (by decide) (by decide) (by decide) (by show 0 + 4 ≤ nn.toNatClampNeg; rw [Nat.zero_add]; exact own_ltc (by decide) hfi) (by show 0 + 4 ≤ nn.toNatClampNeg; rw [Nat.zero_add]; exact own_ltc (by decide) hfi) rfl (by decide) N63 n_b73 (g := (mkF mG 111 #[oa a, oa t, oa wR, oi (4 : Int32), oi nn, oa wL, oa b73, .unset, .unset] [(.int (4 : Int32)), (.int (0 : Int32)), (.ref b73), (.int (0 : Int32)), (.ref t)])) rfl (by rw [hml]; rfl) rfl (hb hby d111) (by decide) (W := 0) (by show 2 * 0 + _ ≤ _; exact Nat.le_of_eq rfl) (by decide)
      have VV79 : Arv Z h79 b73 k73 .byte nn [(.int (c0.toInt8.toInt32)), (.int (c1.toInt8.toInt32)), (.int (c2.toInt8.toInt32)), (.int (c3.toInt8.toInt32)), (.int (0 : Int32)), (.int (0 : Int32)), (.int (0 : Int32)), (.int (0 : Int32))] (.int (0 : Int32)) := V79
      have O79 := O73.keep K79q (allS n_b73 all0)
      have K79 := K73.trans K79q (allS (Or.inr sz_b73) all0)
      have CS79 : CHr Z oEL T70.vm h73 T70.vm h79 := CHr.keep K79q (sfS sf_b73 sf0) CR73.1
      have CR79 := CR73.trans CS79
      refine ob T79 (mkF mG 114 #[oa a, oa t, oa wR, oi (4 : Int32), oi nn, oa wL, oa b73, .unset, .unset] []) (fun _ kk => st79 _ kk) ?_
      refine uI X79 hx hby d114 rfl 115 (uT2 X79 hx hby d115 #[oa a, oa t, oa wR, oi (4 : Int32), oi nn, oa wL, oa b73, oi (4 : Int32), .unset] 117 ?_)
      have VJ : Arv Z h79 b73 k73 .byte nn [(.int ((oTl c0).toInt8.toInt32)), (.int ((oTl c1).toInt8.toInt32)), (.int ((oTl c2).toInt8.toInt32)), (.int ((oTl c3).toInt8.toInt32)), (.int (0 : Int32)), (.int (0 : Int32)), (.int (0 : Int32)), (.int (0 : Int32))] (.int (0 : Int32)) := by
        rw [← own_tlEq p0, ← own_tlEq p1, ← own_tlEq p2, ← own_tlEq p3]
        exact VV79
      exact Lp4 T79 h79 _ _ _ b73 k73 (4 : Int32) none (own_dn3 hfi) X79 N79 e79 hZ hown hS70 (Nat.le_trans (Nat.le_trans hk70 CS73.2.1) CS79.2.1) CR79 O79 K79 n_b73 sz_b73 (CHr.safe CS79 V73.lt sf_b73) VJ
    · refine uA X73 hx hby d105 rfl 106 (uC X73 hx hby d106 0 107 (uA2 X73 hx hby d107 rfl 109 (uC X73 hx hby d109 0 110 (uI X73 hx hby d110 rfl 111 ?_))))
      obtain ⟨T80, h80, L80, X80, e80, N80, K80q, V80, st80⟩ := cpA X73 hx hZ hown (ow hw 189 rfl) (ow hw 142 rfl) (ow hw 140 rfl) (ow hw 141 rfl) e73 ((((V_t.ext E64).ext E67).ext E70).ext E73) V73 (Or.inl ⟨rfl, rfl⟩) (sp := (0 : Int32)) (dp := (0 : Int32)) (nn := (5 : Int32)) (us := [(.int (c0.toInt8.toInt32)), (.int (c1.toInt8.toInt32)), (.int (c2.toInt8.toInt32)), (.int (c3.toInt8.toInt32)), (.int (c4.toInt8.toInt32))]) (by decide) (by decide) (by decide) (by show 0 + 5 ≤ nn.toNatClampNeg; rw [Nat.zero_add]; exact own_ltc (by decide) hfi) (by show 0 + 5 ≤ nn.toNatClampNeg; rw [Nat.zero_add]; exact own_ltc (by decide) hfi) rfl (by decide) N63 n_b73 (g := (mkF mG 111 #[oa a, oa t, oa wR, oi (5 : Int32), oi nn, oa wL, oa b73, .unset, .unset] [(.int (5 : Int32)), (.int (0 : Int32)), (.ref b73), (.int (0 : Int32)), (.ref t)])) rfl (by rw [hml]; rfl) rfl (hb hby d111) (by decide) (W := 0) (by show 2 * 0 + _ ≤ _; exact Nat.le_of_eq rfl) (by decide)
      have VV80 : Arv Z h80 b73 k73 .byte nn [(.int (c0.toInt8.toInt32)), (.int (c1.toInt8.toInt32)), (.int (c2.toInt8.toInt32)), (.int (c3.toInt8.toInt32)), (.int (c4.toInt8.toInt32)), (.int (0 : Int32)), (.int (0 : Int32)), (.int (0 : Int32))] (.int (0 : Int32)) := V80
      have O80 := O73.keep K80q (allS n_b73 all0)
      have K80 := K73.trans K80q (allS (Or.inr sz_b73) all0)
      have CS80 : CHr Z oEL T70.vm h73 T70.vm h80 := CHr.keep K80q (sfS sf_b73 sf0) CR73.1
      have CR80 := CR73.trans CS80
      refine ob T80 (mkF mG 114 #[oa a, oa t, oa wR, oi (5 : Int32), oi nn, oa wL, oa b73, .unset, .unset] []) (fun _ kk => st80 _ kk) ?_
      refine uI X80 hx hby d114 rfl 115 (uT2 X80 hx hby d115 #[oa a, oa t, oa wR, oi (5 : Int32), oi nn, oa wL, oa b73, oi (5 : Int32), .unset] 117 ?_)
      have VJ : Arv Z h80 b73 k73 .byte nn [(.int ((oTl c0).toInt8.toInt32)), (.int ((oTl c1).toInt8.toInt32)), (.int ((oTl c2).toInt8.toInt32)), (.int ((oTl c3).toInt8.toInt32)), (.int ((oTl c4).toInt8.toInt32)), (.int (0 : Int32)), (.int (0 : Int32)), (.int (0 : Int32))] (.int (0 : Int32)) := by
        rw [← own_tlEq p0, ← own_tlEq p1, ← own_tlEq p2, ← own_tlEq p3, ← own_tlEq p4]
        exact VV80
      exact Lp5 T80 h80 _ _ _ b73 k73 (5 : Int32) none (own_dn4 hfi) X80 N80 e80 hZ hown hS70 (Nat.le_trans (Nat.le_trans hk70 CS73.2.1) CS80.2.1) CR80 O80 K80 n_b73 sz_b73 (CHr.safe CS80 V73.lt sf_b73) VJ
    · refine uA X73 hx hby d105 rfl 106 (uC X73 hx hby d106 0 107 (uA2 X73 hx hby d107 rfl 109 (uC X73 hx hby d109 0 110 (uI X73 hx hby d110 rfl 111 ?_))))
      obtain ⟨T81, h81, L81, X81, e81, N81, K81q, V81, st81⟩ := cpA X73 hx hZ hown (ow hw 189 rfl) (ow hw 142 rfl) (ow hw 140 rfl) (ow hw 141 rfl) e73 ((((V_t.ext E64).ext E67).ext E70).ext E73) V73 (Or.inl ⟨rfl, rfl⟩) (sp := (0 : Int32)) (dp := (0 : Int32)) (nn := (6 : Int32)) (us := [(.int (c0.toInt8.toInt32)), (.int (c1.toInt8.toInt32)), (.int (c2.toInt8.toInt32)), (.int (c3.toInt8.toInt32)), (.int (c4.toInt8.toInt32)), (.int (c5.toInt8.toInt32))]) (by decide) (by decide) (by decide) (by show 0 + 6 ≤ nn.toNatClampNeg; rw [Nat.zero_add]; exact own_ltc (by decide) hfi) (by show 0 + 6 ≤ nn.toNatClampNeg; rw [Nat.zero_add]; exact own_ltc (by decide) hfi) rfl (by decide) N63 n_b73 (g := (mkF mG 111 #[oa a, oa t, oa wR, oi (6 : Int32), oi nn, oa wL, oa b73, .unset, .unset] [(.int (6 : Int32)), (.int (0 : Int32)), (.ref b73), (.int (0 : Int32)), (.ref t)])) rfl (by rw [hml]; rfl) rfl (hb hby d111) (by decide) (W := 0) (by show 2 * 0 + _ ≤ _; exact Nat.le_of_eq rfl) (by decide)
      have VV81 : Arv Z h81 b73 k73 .byte nn [(.int (c0.toInt8.toInt32)), (.int (c1.toInt8.toInt32)), (.int (c2.toInt8.toInt32)), (.int (c3.toInt8.toInt32)), (.int (c4.toInt8.toInt32)), (.int (c5.toInt8.toInt32)), (.int (0 : Int32)), (.int (0 : Int32))] (.int (0 : Int32)) := V81
      have O81 := O73.keep K81q (allS n_b73 all0)
      have K81 := K73.trans K81q (allS (Or.inr sz_b73) all0)
      have CS81 : CHr Z oEL T70.vm h73 T70.vm h81 := CHr.keep K81q (sfS sf_b73 sf0) CR73.1
      have CR81 := CR73.trans CS81
      refine ob T81 (mkF mG 114 #[oa a, oa t, oa wR, oi (6 : Int32), oi nn, oa wL, oa b73, .unset, .unset] []) (fun _ kk => st81 _ kk) ?_
      refine uI X81 hx hby d114 rfl 115 (uT2 X81 hx hby d115 #[oa a, oa t, oa wR, oi (6 : Int32), oi nn, oa wL, oa b73, oi (6 : Int32), .unset] 117 ?_)
      have VJ : Arv Z h81 b73 k73 .byte nn [(.int ((oTl c0).toInt8.toInt32)), (.int ((oTl c1).toInt8.toInt32)), (.int ((oTl c2).toInt8.toInt32)), (.int ((oTl c3).toInt8.toInt32)), (.int ((oTl c4).toInt8.toInt32)), (.int ((oTl c5).toInt8.toInt32)), (.int (0 : Int32)), (.int (0 : Int32))] (.int (0 : Int32)) := by
        rw [← own_tlEq p0, ← own_tlEq p1, ← own_tlEq p2, ← own_tlEq p3, ← own_tlEq p4, ← own_tlEq p5]
        exact VV81
      exact Lp6 T81 h81 _ _ _ b73 k73 (6 : Int32) none (own_dn5 hfi) X81 N81 e81 hZ hown hS70 (Nat.le_trans (Nat.le_trans hk70 CS73.2.1) CS81.2.1) CR81 O81 K81 n_b73 sz_b73 (CHr.safe CS81 V73.lt sf_b73) VJ
  refine uI X0 hx hby d18 rfl 19 (uI2 X0 hx hby d19 rfl 21 (uNc X0 hx hby d21 (tlt (own_0n hn)).2.1 24 (uA X0 hx hby d24 rfl 25 (uI X0 hx hby d25 rfl 26 (oLb X0 hx hby hZ e0 V_t ⟨by decide, (own_0n hn)⟩ rfl d26 27 (uS X0 hx hby d27 255 30 (uAnd X0 hx hby d30 31 ?_)))))))
  rw [own_and8 c0 r0]
  show oGo pG eG belowG _ s₁ (mkF mG 31 #[oa a, oa t, oa wR, oi (0 : Int32), oi nn, .unset, .unset, .unset, .unset] [(.int c0)])
  refine uT2 X0 hx hby d31 #[oa a, oa t, oa wR, oi (0 : Int32), oi nn, oi c0, .unset, .unset, .unset] 33 (uI2 X0 hx hby d33 rfl 35 ?_)
  refine oGs X0 hx hby hZ hown (ow hw 164 rfl) e0 (S_wI.ext O0.2) d35 38 ?_
  intro T82 X82 e82
  refine uI2 X82 hx hby d38 rfl 40 ?_
  refine oVp X82 hx hby hZ hown (ow hw 166 rfl) (ow hw 167 rfl) (ow hw 169 rfl) (ow hw 168 rfl) (ow hw 170 rfl) (ow hw 165 rfl) (rm_tl c0 ⟨hw, O0, hS⟩ ) e82 (E_wI.ext O0.2) N0 hml [(.int c0)] [(.int c0)] pd_20 d40 43 ?_
  intro T83 L83 X83 e83 N83
  by_cases hc84 : c0 = (oTl c0)
  · refine uYc X83 hx hby d43 (teq hc84).1 49 (uInc X83 hx hby d49 rfl #[oa a, oa t, oa wR, oi (1 : Int32), oi nn, oi c0, .unset, .unset, .unset] 52 (uG X83 hx hby d52 18 (uI X83 hx hby d18 rfl 19 (uI2 X83 hx hby d19 rfl 21 ?_))))
    by_cases hc85 : (1 : Int32) < nn
    · refine uNc X83 hx hby d21 (tlt hc85).2.1 24 (uA X83 hx hby d24 rfl 25 (uI X83 hx hby d25 rfl 26 (oLb X83 hx hby hZ e83 V_t ⟨by decide, hc85⟩ rfl d26 27 (uS X83 hx hby d27 255 30 (uAnd X83 hx hby d30 31 ?_)))))
      rw [own_and8 c1 r1]
      show oGo pG eG belowG _ T83 (mkF mG 31 #[oa a, oa t, oa wR, oi (1 : Int32), oi nn, oi c0, .unset, .unset, .unset] [(.int c1)])
      refine uT2 X83 hx hby d31 #[oa a, oa t, oa wR, oi (1 : Int32), oi nn, oi c1, .unset, .unset, .unset] 33 (uI2 X83 hx hby d33 rfl 35 ?_)
      refine oGs X83 hx hby hZ hown (ow hw 164 rfl) e83 (S_wI.ext O0.2) d35 38 ?_
      intro T86 X86 e86
      refine uI2 X86 hx hby d38 rfl 40 ?_
      refine oVp X86 hx hby hZ hown (ow hw 166 rfl) (ow hw 167 rfl) (ow hw 169 rfl) (ow hw 168 rfl) (ow hw 170 rfl) (ow hw 165 rfl) (rm_tl c1 ⟨hw, O0, hS⟩ ) e86 (E_wI.ext O0.2) N83 hml [(.int c1)] [(.int c1)] pd_20 d40 43 ?_
      intro T87 L87 X87 e87 N87
      by_cases hc88 : c1 = (oTl c1)
      · refine uYc X87 hx hby d43 (teq hc88).1 49 (uInc X87 hx hby d49 rfl #[oa a, oa t, oa wR, oi (2 : Int32), oi nn, oi c1, .unset, .unset, .unset] 52 (uG X87 hx hby d52 18 (uI X87 hx hby d18 rfl 19 (uI2 X87 hx hby d19 rfl 21 ?_))))
        by_cases hc89 : (2 : Int32) < nn
        · refine uNc X87 hx hby d21 (tlt hc89).2.1 24 (uA X87 hx hby d24 rfl 25 (uI X87 hx hby d25 rfl 26 (oLb X87 hx hby hZ e87 V_t ⟨by decide, hc89⟩ rfl d26 27 (uS X87 hx hby d27 255 30 (uAnd X87 hx hby d30 31 ?_)))))
          rw [own_and8 c2 r2]
          show oGo pG eG belowG _ T87 (mkF mG 31 #[oa a, oa t, oa wR, oi (2 : Int32), oi nn, oi c1, .unset, .unset, .unset] [(.int c2)])
          refine uT2 X87 hx hby d31 #[oa a, oa t, oa wR, oi (2 : Int32), oi nn, oi c2, .unset, .unset, .unset] 33 (uI2 X87 hx hby d33 rfl 35 ?_)
          refine oGs X87 hx hby hZ hown (ow hw 164 rfl) e87 (S_wI.ext O0.2) d35 38 ?_
          intro T90 X90 e90
          refine uI2 X90 hx hby d38 rfl 40 ?_
          refine oVp X90 hx hby hZ hown (ow hw 166 rfl) (ow hw 167 rfl) (ow hw 169 rfl) (ow hw 168 rfl) (ow hw 170 rfl) (ow hw 165 rfl) (rm_tl c2 ⟨hw, O0, hS⟩ ) e90 (E_wI.ext O0.2) N87 hml [(.int c2)] [(.int c2)] pd_20 d40 43 ?_
          intro T91 L91 X91 e91 N91
          by_cases hc92 : c2 = (oTl c2)
          · refine uYc X91 hx hby d43 (teq hc92).1 49 (uInc X91 hx hby d49 rfl #[oa a, oa t, oa wR, oi (3 : Int32), oi nn, oi c2, .unset, .unset, .unset] 52 (uG X91 hx hby d52 18 (uI X91 hx hby d18 rfl 19 (uI2 X91 hx hby d19 rfl 21 ?_))))
            by_cases hc93 : (3 : Int32) < nn
            · refine uNc X91 hx hby d21 (tlt hc93).2.1 24 (uA X91 hx hby d24 rfl 25 (uI X91 hx hby d25 rfl 26 (oLb X91 hx hby hZ e91 V_t ⟨by decide, hc93⟩ rfl d26 27 (uS X91 hx hby d27 255 30 (uAnd X91 hx hby d30 31 ?_)))))
              rw [own_and8 c3 r3]
              show oGo pG eG belowG _ T91 (mkF mG 31 #[oa a, oa t, oa wR, oi (3 : Int32), oi nn, oi c2, .unset, .unset, .unset] [(.int c3)])
              refine uT2 X91 hx hby d31 #[oa a, oa t, oa wR, oi (3 : Int32), oi nn, oi c3, .unset, .unset, .unset] 33 (uI2 X91 hx hby d33 rfl 35 ?_)
              refine oGs X91 hx hby hZ hown (ow hw 164 rfl) e91 (S_wI.ext O0.2) d35 38 ?_
              intro T94 X94 e94
              refine uI2 X94 hx hby d38 rfl 40 ?_
              refine oVp X94 hx hby hZ hown (ow hw 166 rfl) (ow hw 167 rfl) (ow hw 169 rfl) (ow hw 168 rfl) (ow hw 170 rfl) (ow hw 165 rfl) (rm_tl c3 ⟨hw, O0, hS⟩ ) e94 (E_wI.ext O0.2) N91 hml [(.int c3)] [(.int c3)] pd_20 d40 43 ?_
              intro T95 L95 X95 e95 N95
              by_cases hc96 : c3 = (oTl c3)
              · refine uYc X95 hx hby d43 (teq hc96).1 49 (uInc X95 hx hby d49 rfl #[oa a, oa t, oa wR, oi (4 : Int32), oi nn, oi c3, .unset, .unset, .unset] 52 (uG X95 hx hby d52 18 (uI X95 hx hby d18 rfl 19 (uI2 X95 hx hby d19 rfl 21 ?_))))
                by_cases hc97 : (4 : Int32) < nn
                · refine uNc X95 hx hby d21 (tlt hc97).2.1 24 (uA X95 hx hby d24 rfl 25 (uI X95 hx hby d25 rfl 26 (oLb X95 hx hby hZ e95 V_t ⟨by decide, hc97⟩ rfl d26 27 (uS X95 hx hby d27 255 30 (uAnd X95 hx hby d30 31 ?_)))))
                  rw [own_and8 c4 r4]
                  show oGo pG eG belowG _ T95 (mkF mG 31 #[oa a, oa t, oa wR, oi (4 : Int32), oi nn, oi c3, .unset, .unset, .unset] [(.int c4)])
                  refine uT2 X95 hx hby d31 #[oa a, oa t, oa wR, oi (4 : Int32), oi nn, oi c4, .unset, .unset, .unset] 33 (uI2 X95 hx hby d33 rfl 35 ?_)
                  refine oGs X95 hx hby hZ hown (ow hw 164 rfl) e95 (S_wI.ext O0.2) d35 38 ?_
                  intro T98 X98 e98
                  refine uI2 X98 hx hby d38 rfl 40 ?_
                  refine oVp X98 hx hby hZ hown (ow hw 166 rfl) (ow hw 167 rfl) (ow hw 169 rfl) (ow hw 168 rfl) (ow hw 170 rfl) (ow hw 165 rfl) (rm_tl c4 ⟨hw, O0, hS⟩ ) e98 (E_wI.ext O0.2) N95 hml [(.int c4)] [(.int c4)] pd_20 d40 43 ?_
                  intro T99 L99 X99 e99 N99
                  by_cases hc100 : c4 = (oTl c4)
                  · refine uYc X99 hx hby d43 (teq hc100).1 49 (uInc X99 hx hby d49 rfl #[oa a, oa t, oa wR, oi (5 : Int32), oi nn, oi c4, .unset, .unset, .unset] 52 (uG X99 hx hby d52 18 (uI X99 hx hby d18 rfl 19 (uI2 X99 hx hby d19 rfl 21 ?_))))
                    by_cases hc101 : (5 : Int32) < nn
                    · refine uNc X99 hx hby d21 (tlt hc101).2.1 24 (uA X99 hx hby d24 rfl 25 (uI X99 hx hby d25 rfl 26 (oLb X99 hx hby hZ e99 V_t ⟨by decide, hc101⟩ rfl d26 27 (uS X99 hx hby d27 255 30 (uAnd X99 hx hby d30 31 ?_)))))
                      rw [own_and8 c5 r5]
                      show oGo pG eG belowG _ T99 (mkF mG 31 #[oa a, oa t, oa wR, oi (5 : Int32), oi nn, oi c4, .unset, .unset, .unset] [(.int c5)])
                      refine uT2 X99 hx hby d31 #[oa a, oa t, oa wR, oi (5 : Int32), oi nn, oi c5, .unset, .unset, .unset] 33 (uI2 X99 hx hby d33 rfl 35 ?_)
                      refine oGs X99 hx hby hZ hown (ow hw 164 rfl) e99 (S_wI.ext O0.2) d35 38 ?_
                      intro T102 X102 e102
                      refine uI2 X102 hx hby d38 rfl 40 ?_
                      refine oVp X102 hx hby hZ hown (ow hw 166 rfl) (ow hw 167 rfl) (ow hw 169 rfl) (ow hw 168 rfl) (ow hw 170 rfl) (ow hw 165 rfl) (rm_tl c5 ⟨hw, O0, hS⟩ ) e102 (E_wI.ext O0.2) N99 hml [(.int c5)] [(.int c5)] pd_20 d40 43 ?_
                      intro T103 L103 X103 e103 N103
                      by_cases hc104 : c5 = (oTl c5)
                      · refine uYc X103 hx hby d43 (teq hc104).1 49 (uInc X103 hx hby d49 rfl #[oa a, oa t, oa wR, oi (6 : Int32), oi nn, oi c5, .unset, .unset, .unset] 52 (uG X103 hx hby d52 18 (uI X103 hx hby d18 rfl 19 (uI2 X103 hx hby d19 rfl 21 ?_))))
                        by_cases hc105 : (6 : Int32) < nn
                        · refine uNc X103 hx hby d21 (tlt hc105).2.1 24 (uA X103 hx hby d24 rfl 25 (uI X103 hx hby d25 rfl 26 (oLb X103 hx hby hZ e103 V_t ⟨by decide, hc105⟩ rfl d26 27 (uS X103 hx hby d27 255 30 (uAnd X103 hx hby d30 31 ?_)))))
                          rw [own_and8 c6 r6]
                          show oGo pG eG belowG _ T103 (mkF mG 31 #[oa a, oa t, oa wR, oi (6 : Int32), oi nn, oi c5, .unset, .unset, .unset] [(.int c6)])
                          refine uT2 X103 hx hby d31 #[oa a, oa t, oa wR, oi (6 : Int32), oi nn, oi c6, .unset, .unset, .unset] 33 (uI2 X103 hx hby d33 rfl 35 ?_)
                          refine oGs X103 hx hby hZ hown (ow hw 164 rfl) e103 (S_wI.ext O0.2) d35 38 ?_
                          intro T106 X106 e106
                          refine uI2 X106 hx hby d38 rfl 40 ?_
                          refine oVp X106 hx hby hZ hown (ow hw 166 rfl) (ow hw 167 rfl) (ow hw 169 rfl) (ow hw 168 rfl) (ow hw 170 rfl) (ow hw 165 rfl) (rm_tl c6 ⟨hw, O0, hS⟩ ) e106 (E_wI.ext O0.2) N103 hml [(.int c6)] [(.int c6)] pd_20 d40 43 ?_
                          intro T107 L107 X107 e107 N107
                          by_cases hc108 : c6 = (oTl c6)
                          · refine uYc X107 hx hby d43 (teq hc108).1 49 (uInc X107 hx hby d49 rfl #[oa a, oa t, oa wR, oi (7 : Int32), oi nn, oi c6, .unset, .unset, .unset] 52 (uG X107 hx hby d52 18 (uI X107 hx hby d18 rfl 19 (uI2 X107 hx hby d19 rfl 21 (uYc X107 hx hby d21 (flt (own_n7 hn)).2.1 55 (uI X107 hx hby d55 rfl 56 (uI2 X107 hx hby d56 rfl 58 (uNc X107 hx hby d58 (teq (own_eq7 hn hc105 (own_n7 hn))).2 61 ?_))))))))
                            have VTl : Arv Z h0 t kb .byte nn (oT8 c0 c1 c2 c3 c4 c5 c6 c7) (.int (0 : Int32)) := own_arvEq V_t (fun i hi => by
                              have hi2 : i < 7 := by rw [← (own_eq7 hn hc105 (own_n7 hn))] at hi; exact hi
                              match i, hi2 with
                              | 0, _ => exact (own_tlEq hc84).symm
                              | 1, _ => exact (own_tlEq hc88).symm
                              | 2, _ => exact (own_tlEq hc92).symm
                              | 3, _ => exact (own_tlEq hc96).symm
                              | 4, _ => exact (own_tlEq hc100).symm
                              | 5, _ => exact (own_tlEq hc104).symm
                              | 6, _ => exact (own_tlEq hc108).symm
                              | n + 7, h => exact absurd h (by omega))
                            refine uA X107 hx hby d61 rfl 62 ?_
                            obtain ⟨fs, hr, hrun, hended, hW, hsame⟩ := X107.leave (v := some (.ref a)) (fun h => by rw [hret] at h; cases h) hlk
                            obtain ⟨w1, w2, w3⟩ := State.Since.ended (U := T107.setFrames fs) hS0 hW (by show _ ≤ T107.heap.size; rw [e107]; exact hk0) hsame
                            have CF := CR0.trans (CHv.at X107 hZ hEL CR0.1)
                            refine oout (oretA X107 hx hret rfl rfl (hb hby d62) hr) hrun hended (hPP _ _ ⟨_, _, rfl, ?_, ?_, ⟨_, rfl⟩, w1, w2, w3.mono (by decide) (by decide)⟩)
                            · show Q_rm_stl Z wR wI zc vf wB wL wV cV a t kb nn c0 c1 c2 c3 c4 c5 c6 c7 h0 n0 _ T107.heap _
                              rw [e107]
                              exact ⟨a, t, kb, rfl, N107, K0, O0, E_a, F_c, F_v, VTl⟩
                            · show CHr Z oEL sG.vm sG.heap T107.vm T107.heap
                              rw [hh, e107]
                              exact CF
                          refine uNc X107 hx hby d43 (feq hc108).1 46 (uG X107 hx hby d46 55 (uI X107 hx hby d55 rfl 56 (uI2 X107 hx hby d56 rfl 58 (uYc X107 hx hby d58 (feq (own_ltn hc105)).2 63 ?_))))
                          exact M63 T107 _ (6 : Int32) (some c6) (Or.inr (Or.inr (Or.inr (Or.inr (Or.inr (Or.inr (⟨rfl, hc84, hc88, hc92, hc96, hc100, hc104⟩))))))) hc105 X107 N107 e107
                        refine uYc X103 hx hby d21 (flt hc105).2.1 55 (uI X103 hx hby d55 rfl 56 (uI2 X103 hx hby d56 rfl 58 (uNc X103 hx hby d58 (teq (own_eq6 hn hc101 hc105)).2 61 ?_)))
                        have VTl : Arv Z h0 t kb .byte nn (oT8 c0 c1 c2 c3 c4 c5 c6 c7) (.int (0 : Int32)) := own_arvEq V_t (fun i hi => by
                          have hi2 : i < 6 := by rw [← (own_eq6 hn hc101 hc105)] at hi; exact hi
                          match i, hi2 with
                          | 0, _ => exact (own_tlEq hc84).symm
                          | 1, _ => exact (own_tlEq hc88).symm
                          | 2, _ => exact (own_tlEq hc92).symm
                          | 3, _ => exact (own_tlEq hc96).symm
                          | 4, _ => exact (own_tlEq hc100).symm
                          | 5, _ => exact (own_tlEq hc104).symm
                          | n + 6, h => exact absurd h (by omega))
                        refine uA X103 hx hby d61 rfl 62 ?_
                        obtain ⟨fs, hr, hrun, hended, hW, hsame⟩ := X103.leave (v := some (.ref a)) (fun h => by rw [hret] at h; cases h) hlk
                        obtain ⟨w1, w2, w3⟩ := State.Since.ended (U := T103.setFrames fs) hS0 hW (by show _ ≤ T103.heap.size; rw [e103]; exact hk0) hsame
                        have CF := CR0.trans (CHv.at X103 hZ hEL CR0.1)
                        refine oout (oretA X103 hx hret rfl rfl (hb hby d62) hr) hrun hended (hPP _ _ ⟨_, _, rfl, ?_, ?_, ⟨_, rfl⟩, w1, w2, w3.mono (by decide) (by decide)⟩)
                        · show Q_rm_stl Z wR wI zc vf wB wL wV cV a t kb nn c0 c1 c2 c3 c4 c5 c6 c7 h0 n0 _ T103.heap _
                          rw [e103]
                          exact ⟨a, t, kb, rfl, N103, K0, O0, E_a, F_c, F_v, VTl⟩
                        · show CHr Z oEL sG.vm sG.heap T103.vm T103.heap
                          rw [hh, e103]
                          exact CF
                      refine uNc X103 hx hby d43 (feq hc104).1 46 (uG X103 hx hby d46 55 (uI X103 hx hby d55 rfl 56 (uI2 X103 hx hby d56 rfl 58 (uYc X103 hx hby d58 (feq (own_ltn hc101)).2 63 ?_))))
                      exact M63 T103 _ (5 : Int32) (some c5) (Or.inr (Or.inr (Or.inr (Or.inr (Or.inr (Or.inl ⟨rfl, hc84, hc88, hc92, hc96, hc100⟩)))))) hc101 X103 N103 e103
                    refine uYc X99 hx hby d21 (flt hc101).2.1 55 (uI X99 hx hby d55 rfl 56 (uI2 X99 hx hby d56 rfl 58 (uNc X99 hx hby d58 (teq (own_eq5 hn hc97 hc101)).2 61 ?_)))
                    have VTl : Arv Z h0 t kb .byte nn (oT8 c0 c1 c2 c3 c4 c5 c6 c7) (.int (0 : Int32)) := own_arvEq V_t (fun i hi => by
                      have hi2 : i < 5 := by rw [← (own_eq5 hn hc97 hc101)] at hi; exact hi
                      match i, hi2 with
                      | 0, _ => exact (own_tlEq hc84).symm
                      | 1, _ => exact (own_tlEq hc88).symm
                      | 2, _ => exact (own_tlEq hc92).symm
                      | 3, _ => exact (own_tlEq hc96).symm
                      | 4, _ => exact (own_tlEq hc100).symm
                      | n + 5, h => exact absurd h (by omega))
                    refine uA X99 hx hby d61 rfl 62 ?_
                    obtain ⟨fs, hr, hrun, hended, hW, hsame⟩ := X99.leave (v := some (.ref a)) (fun h => by rw [hret] at h; cases h) hlk
                    obtain ⟨w1, w2, w3⟩ := State.Since.ended (U := T99.setFrames fs) hS0 hW (by show _ ≤ T99.heap.size; rw [e99]; exact hk0) hsame
                    have CF := CR0.trans (CHv.at X99 hZ hEL CR0.1)
                    refine oout (oretA X99 hx hret rfl rfl (hb hby d62) hr) hrun hended (hPP _ _ ⟨_, _, rfl, ?_, ?_, ⟨_, rfl⟩, w1, w2, w3.mono (by decide) (by decide)⟩)
                    · show Q_rm_stl Z wR wI zc vf wB wL wV cV a t kb nn c0 c1 c2 c3 c4 c5 c6 c7 h0 n0 _ T99.heap _
                      rw [e99]
                      exact ⟨a, t, kb, rfl, N99, K0, O0, E_a, F_c, F_v, VTl⟩
                    · show CHr Z oEL sG.vm sG.heap T99.vm T99.heap
                      rw [hh, e99]
                      exact CF
                  refine uNc X99 hx hby d43 (feq hc100).1 46 (uG X99 hx hby d46 55 (uI X99 hx hby d55 rfl 56 (uI2 X99 hx hby d56 rfl 58 (uYc X99 hx hby d58 (feq (own_ltn hc97)).2 63 ?_))))
                  exact M63 T99 _ (4 : Int32) (some c4) (Or.inr (Or.inr (Or.inr (Or.inr (Or.inl ⟨rfl, hc84, hc88, hc92, hc96⟩))))) hc97 X99 N99 e99
                refine uYc X95 hx hby d21 (flt hc97).2.1 55 (uI X95 hx hby d55 rfl 56 (uI2 X95 hx hby d56 rfl 58 (uNc X95 hx hby d58 (teq (own_eq4 hn hc93 hc97)).2 61 ?_)))
                have VTl : Arv Z h0 t kb .byte nn (oT8 c0 c1 c2 c3 c4 c5 c6 c7) (.int (0 : Int32)) := own_arvEq V_t (fun i hi => by
                  have hi2 : i < 4 := by rw [← (own_eq4 hn hc93 hc97)] at hi; exact hi
                  match i, hi2 with
                  | 0, _ => exact (own_tlEq hc84).symm
                  | 1, _ => exact (own_tlEq hc88).symm
                  | 2, _ => exact (own_tlEq hc92).symm
                  | 3, _ => exact (own_tlEq hc96).symm
                  | n + 4, h => exact absurd h (by omega))
                refine uA X95 hx hby d61 rfl 62 ?_
                obtain ⟨fs, hr, hrun, hended, hW, hsame⟩ := X95.leave (v := some (.ref a)) (fun h => by rw [hret] at h; cases h) hlk
                obtain ⟨w1, w2, w3⟩ := State.Since.ended (U := T95.setFrames fs) hS0 hW (by show _ ≤ T95.heap.size; rw [e95]; exact hk0) hsame
                have CF := CR0.trans (CHv.at X95 hZ hEL CR0.1)
                refine oout (oretA X95 hx hret rfl rfl (hb hby d62) hr) hrun hended (hPP _ _ ⟨_, _, rfl, ?_, ?_, ⟨_, rfl⟩, w1, w2, w3.mono (by decide) (by decide)⟩)
                · show Q_rm_stl Z wR wI zc vf wB wL wV cV a t kb nn c0 c1 c2 c3 c4 c5 c6 c7 h0 n0 _ T95.heap _
                  rw [e95]
                  exact ⟨a, t, kb, rfl, N95, K0, O0, E_a, F_c, F_v, VTl⟩
                · show CHr Z oEL sG.vm sG.heap T95.vm T95.heap
                  rw [hh, e95]
                  exact CF
              refine uNc X95 hx hby d43 (feq hc96).1 46 (uG X95 hx hby d46 55 (uI X95 hx hby d55 rfl 56 (uI2 X95 hx hby d56 rfl 58 (uYc X95 hx hby d58 (feq (own_ltn hc93)).2 63 ?_))))
              exact M63 T95 _ (3 : Int32) (some c3) (Or.inr (Or.inr (Or.inr (Or.inl ⟨rfl, hc84, hc88, hc92⟩)))) hc93 X95 N95 e95
            refine uYc X91 hx hby d21 (flt hc93).2.1 55 (uI X91 hx hby d55 rfl 56 (uI2 X91 hx hby d56 rfl 58 (uNc X91 hx hby d58 (teq (own_eq3 hn hc89 hc93)).2 61 ?_)))
            have VTl : Arv Z h0 t kb .byte nn (oT8 c0 c1 c2 c3 c4 c5 c6 c7) (.int (0 : Int32)) := own_arvEq V_t (fun i hi => by
              have hi2 : i < 3 := by rw [← (own_eq3 hn hc89 hc93)] at hi; exact hi
              match i, hi2 with
              | 0, _ => exact (own_tlEq hc84).symm
              | 1, _ => exact (own_tlEq hc88).symm
              | 2, _ => exact (own_tlEq hc92).symm
              | n + 3, h => exact absurd h (by omega))
            refine uA X91 hx hby d61 rfl 62 ?_
            obtain ⟨fs, hr, hrun, hended, hW, hsame⟩ := X91.leave (v := some (.ref a)) (fun h => by rw [hret] at h; cases h) hlk
            obtain ⟨w1, w2, w3⟩ := State.Since.ended (U := T91.setFrames fs) hS0 hW (by show _ ≤ T91.heap.size; rw [e91]; exact hk0) hsame
            have CF := CR0.trans (CHv.at X91 hZ hEL CR0.1)
            refine oout (oretA X91 hx hret rfl rfl (hb hby d62) hr) hrun hended (hPP _ _ ⟨_, _, rfl, ?_, ?_, ⟨_, rfl⟩, w1, w2, w3.mono (by decide) (by decide)⟩)
            · show Q_rm_stl Z wR wI zc vf wB wL wV cV a t kb nn c0 c1 c2 c3 c4 c5 c6 c7 h0 n0 _ T91.heap _
              rw [e91]
              exact ⟨a, t, kb, rfl, N91, K0, O0, E_a, F_c, F_v, VTl⟩
            · show CHr Z oEL sG.vm sG.heap T91.vm T91.heap
              rw [hh, e91]
              exact CF
          refine uNc X91 hx hby d43 (feq hc92).1 46 (uG X91 hx hby d46 55 (uI X91 hx hby d55 rfl 56 (uI2 X91 hx hby d56 rfl 58 (uYc X91 hx hby d58 (feq (own_ltn hc89)).2 63 ?_))))
          exact M63 T91 _ (2 : Int32) (some c2) (Or.inr (Or.inr (Or.inl ⟨rfl, hc84, hc88⟩))) hc89 X91 N91 e91
        refine uYc X87 hx hby d21 (flt hc89).2.1 55 (uI X87 hx hby d55 rfl 56 (uI2 X87 hx hby d56 rfl 58 (uNc X87 hx hby d58 (teq (own_eq2 hn hc85 hc89)).2 61 ?_)))
        have VTl : Arv Z h0 t kb .byte nn (oT8 c0 c1 c2 c3 c4 c5 c6 c7) (.int (0 : Int32)) := own_arvEq V_t (fun i hi => by
          have hi2 : i < 2 := by rw [← (own_eq2 hn hc85 hc89)] at hi; exact hi
          match i, hi2 with
          | 0, _ => exact (own_tlEq hc84).symm
          | 1, _ => exact (own_tlEq hc88).symm
          | n + 2, h => exact absurd h (by omega))
        refine uA X87 hx hby d61 rfl 62 ?_
        obtain ⟨fs, hr, hrun, hended, hW, hsame⟩ := X87.leave (v := some (.ref a)) (fun h => by rw [hret] at h; cases h) hlk
        obtain ⟨w1, w2, w3⟩ := State.Since.ended (U := T87.setFrames fs) hS0 hW (by show _ ≤ T87.heap.size; rw [e87]; exact hk0) hsame
        have CF := CR0.trans (CHv.at X87 hZ hEL CR0.1)
        refine oout (oretA X87 hx hret rfl rfl (hb hby d62) hr) hrun hended (hPP _ _ ⟨_, _, rfl, ?_, ?_, ⟨_, rfl⟩, w1, w2, w3.mono (by decide) (by decide)⟩)
        · show Q_rm_stl Z wR wI zc vf wB wL wV cV a t kb nn c0 c1 c2 c3 c4 c5 c6 c7 h0 n0 _ T87.heap _
          rw [e87]
          exact ⟨a, t, kb, rfl, N87, K0, O0, E_a, F_c, F_v, VTl⟩
        · show CHr Z oEL sG.vm sG.heap T87.vm T87.heap
          rw [hh, e87]
          exact CF
      refine uNc X87 hx hby d43 (feq hc88).1 46 (uG X87 hx hby d46 55 (uI X87 hx hby d55 rfl 56 (uI2 X87 hx hby d56 rfl 58 (uYc X87 hx hby d58 (feq (own_ltn hc85)).2 63 ?_))))
      exact M63 T87 _ (1 : Int32) (some c1) (Or.inr (Or.inl ⟨rfl, hc84⟩)) hc85 X87 N87 e87
    refine uYc X83 hx hby d21 (flt hc85).2.1 55 (uI X83 hx hby d55 rfl 56 (uI2 X83 hx hby d56 rfl 58 (uNc X83 hx hby d58 (teq (own_eq1 hn (own_0n hn) hc85)).2 61 ?_)))
    have VTl : Arv Z h0 t kb .byte nn (oT8 c0 c1 c2 c3 c4 c5 c6 c7) (.int (0 : Int32)) := own_arvEq V_t (fun i hi => by
      have hi2 : i < 1 := by rw [← (own_eq1 hn (own_0n hn) hc85)] at hi; exact hi
      match i, hi2 with
      | 0, _ => exact (own_tlEq hc84).symm
      | n + 1, h => exact absurd h (by omega))
    refine uA X83 hx hby d61 rfl 62 ?_
    obtain ⟨fs, hr, hrun, hended, hW, hsame⟩ := X83.leave (v := some (.ref a)) (fun h => by rw [hret] at h; cases h) hlk
    obtain ⟨w1, w2, w3⟩ := State.Since.ended (U := T83.setFrames fs) hS0 hW (by show _ ≤ T83.heap.size; rw [e83]; exact hk0) hsame
    have CF := CR0.trans (CHv.at X83 hZ hEL CR0.1)
    refine oout (oretA X83 hx hret rfl rfl (hb hby d62) hr) hrun hended (hPP _ _ ⟨_, _, rfl, ?_, ?_, ⟨_, rfl⟩, w1, w2, w3.mono (by decide) (by decide)⟩)
    · show Q_rm_stl Z wR wI zc vf wB wL wV cV a t kb nn c0 c1 c2 c3 c4 c5 c6 c7 h0 n0 _ T83.heap _
      rw [e83]
      exact ⟨a, t, kb, rfl, N83, K0, O0, E_a, F_c, F_v, VTl⟩
    · show CHr Z oEL sG.vm sG.heap T83.vm T83.heap
      rw [hh, e83]
      exact CF
  refine uNc X83 hx hby d43 (feq hc84).1 46 (uG X83 hx hby d46 55 (uI X83 hx hby d55 rfl 56 (uI2 X83 hx hby d56 rfl 58 (uYc X83 hx hby d58 (feq (own_ltn (own_0n hn))).2 63 ?_))))
  exact M63 T83 _ (0 : Int32) (some c0) (Or.inl rfl) (own_0n hn) X83 N83 e83

abbrev K37 (n : Nat) (i : Instr) (k : Nat) : Prop := decode jdk_42_method_109_code n = .ok (i, k)
set_option maxRecDepth 65536 in
theorem t37 : K37 0 (.aload_n 0) 1 ∧ K37 1 (.invokevirtual 492) 3 ∧ K37 4 (.ifCond .eq 15) 3 ∧ K37 7 (.aload_n 0) 1 ∧ K37 8 (.aload_n 0) 1 ∧ K37 9 (.getfield 9) 3 ∧ K37 12 (.aload_n 1) 1 ∧ K37 13 (.invokestatic 839) 3 ∧ K37 16 (.goto 12) 3 ∧ K37 28 .areturn 1 := by and_intros <;> decide +kernel
theorem pd_22 : parseMethodDescriptor "(Ljava/lang/String;[BLjava/util/Locale;)Ljava/lang/String;" = some ⟨[(.object "java/lang/String"), (.array .byte), (.object "java/util/Locale")], some (.object "java/lang/String")⟩ := by decide +kernel
def Q_rm_tlc (Z : State) (wR wI : Addr) (zc : Int32) (vf : Value) (wB wL wV : Addr) (cV : Cell) (a t : Addr) (kb : ClassId) (nn c0 c1 c2 c3 c4 c5 c6 c7 : Int32) (h0 : Heap) (n0 : Nat) (v : Option Value) (h : Heap) (L : List Loc) : Prop := ∃ (r0 r1 : Addr) (kq0 : ClassId), v = some (.ref r0) ∧ Fr n0 L ∧ Keep h0 h [] ∧ Old Z n0 h ∧ Exa Z h r0 "java/lang/String" ∧ Fld Z h r0 "java/lang/String" "coder" "B" (.int (0 : Int32)) ∧ Fld Z h r0 "java/lang/String" "value" "[B" (.ref r1) ∧ Arv Z h r1 kq0 .byte nn (oT8 c0 c1 c2 c3 c4 c5 c6 c7) (.int (0 : Int32))
theorem rm_tlc (a t : Addr) (kb : ClassId) (nn c0 c1 c2 c3 c4 c5 c6 c7 : Int32) (H : oH Z a0 n0 h0 wR wI zc vf wB wL wV cV) (E_a : Exa Z h0 a "java/lang/String") (F_c : Fld Z h0 a "java/lang/String" "coder" "B" (.int (0 : Int32))) (F_v : Fld Z h0 a "java/lang/String" "value" "[B" (.ref t)) (V_t : Arv Z h0 t kb .byte nn (oB8 c0 c1 c2 c3 c4 c5 c6 c7) (.int (0 : Int32))) (r0 : oRg c0) (r1 : oRg c1) (r2 : oRg c2) (r3 : oRg c3) (r4 : oRg c4) (r5 : oRg c5) (r6 : oRg c6) (r7 : oRg c7) (hn : oE7 nn) : oMc l Z (⟨"java/lang/String", "toLowerCase", "(Ljava/util/Locale;)Ljava/lang/String;"⟩ : MethodName) jdk_42_method_109_code 2 (some (.object "java/lang/String")) (oRm 4 8 60 80) #[(.ref a), (.ref wR)] h0 (Q_rm_tlc Z wR wI zc vf wB wL wV cV a t kb nn c0 c1 c2 c3 c4 c5 c6 c7 h0 n0) := by
  obtain ⟨hw, O0, hS⟩ := H
  refine oBodyC (plainFor_of_name pn_1) #[oa a, oa wR] (fun _ => by first | (simp [entryFrame, mkF, argsToLocals, Value.category]; done) | rfl) ?_
  intro pG eG sG mG belowG methG cG s₁ hx hby hml hown hnm hret hlk X0 hh e0 hZ hC
  have hS0 : sG.Since sG.vm h0.size := (State.WarmedH.refl sG).since _
  have hk0 : h0.size ≤ h0.size := Nat.le_refl _
  have CR0 : CHr Z oEL sG.vm h0 sG.vm h0 := CHr.refl hC
  have hEL : EW Z a0 oEL := own_EW hw
  have N0 := Fr.nil n0
  have K0 := Keep.refl h0 []
  obtain ⟨d0, d1, d4, d7, d8, d9, d12, d13, d16, d28⟩ := t37
  refine uA X0 hx hby d0 rfl 1 ?_
  refine oVp X0 hx hby hZ hown (ow hw 89 rfl) (ow hw 90 rfl) (ow hw 92 rfl) (ow hw 91 rfl) (ow hw 93 rfl) (ow hw 8 rfl) (rm_lat a ⟨hw, O0, hS⟩ F_c) e0 E_a N0 hml [] [] pd_6 d1 4 ?_
  intro T1 L1 X1 e1 N1
  refine uN X1 hx hby d4 ((if0 _ _).trans (feq (by decide : ¬ ((1 : Int32) = (0 : Int32)))).1) 7 (uA X1 hx hby d7 rfl 8 (uA X1 hx hby d8 rfl 9 ?_))
  refine oGf X1 hx hby hZ hown (ow hw 28 rfl) Via.refl e1 F_v d9 12 ?_
  intro T2 X2 e2
  refine uA X2 hx hby d12 rfl 13 ?_
  obtain ⟨_, _, ⟨T3, L3, k3, n3⟩, -, X3, hS3, gs3, ⟨Lc3, hQ3, l3, y3, z3, CS3⟩, st3⟩ := callSS X2 hx (y := (⟨"java/lang/StringLatin1", "toLowerCase", "(Ljava/lang/String;[BLjava/util/Locale;)Ljava/lang/String;"⟩ : MethodName)) hown (mvT hZ (ow hw 161 rfl)) (mvT hZ (ow hw 162 rfl)) (mvT hZ (ow hw 96 rfl)) (mvT hZ (ow hw 163 rfl)) (by decide) (backOfSH (W := 0) (rm_stl a t kb nn c0 c1 c2 c3 c4 c5 c6 c7 ⟨hw, O0, hS⟩ E_a F_c F_v V_t r0 r1 r2 r3 r4 r5 r6 r7 hn) hZ (ow hw 163 rfl) (ow hw 96 rfl) (by decide) (by decide) hEL CR0.1) (g := (mkF mG 13 #[oa a, oa wR] [(.ref wR), (.ref t), (.ref a)])) rfl (by rw [hml]; rfl) (argsL := [(.ref a), (.ref t), (.ref wR)]) (rest := []) (lenOf pd_22 rfl) rfl (by show 2 * 0 + _ ≤ _; exact Nat.le_of_eq rfl) (hb hby d13) (fun _ _ => ⟨rfl, e2, (by decide : 0 + 8 ≤ _), (by decide : 0 + 60 ≤ _)⟩)
  dsimp only [Pt.U, Pt.locs, Pt.cells, Pt.slots] at X3 l3 y3 z3 st3 hQ3 hS3 gs3 CS3
  subst l3 y3 z3
  obtain ⟨X3, hS3, hZ, hown⟩ := rebS hS0 (by rw [e2]; exact hk0) X3 hS3 gs3 hZ hown
  obtain ⟨h3, e3⟩ : ∃ h, T3.heap = h := ⟨_, rfl⟩
  rw [e3] at hQ3
  obtain ⟨r0_3, r1_3, kq0_3, rfl, N3q, K3q, O3, F3_0, F3_1, F3_2, F3_3⟩ := hQ3
  have N3 := Fr.app N1 N3q
  have K3 := K0.trans K3q all0
  rw [e3] at CS3 hS3
  have hk3 : h3.size ≤ h3.size := Nat.le_refl _
  have CR3 := CR0.trans CS3
  obtain ⟨LL4, X3, N3⟩ : ∃ LL, Stand pG l eG _ _ mG _ belowG methG cG T3 LL 8 60 ∧ Fr n0 LL := ⟨_, X3, N3⟩
  refine ob T3 (mkF mG 16 #[oa a, oa wR] [(.ref r0_3)]) (fun _ kk => st3.trans kk) ?_
  refine uG X3 hx hby d16 28 ?_
  obtain ⟨fs, hr, hrun, hended, hW, hsame⟩ := X3.leave (v := some (.ref r0_3)) (fun h => by rw [hret] at h; cases h) hlk
  obtain ⟨w1, w2, w3⟩ := State.Since.ended (U := T3.setFrames fs) hS3 hW (by show _ ≤ T3.heap.size; rw [e3]; exact hk3) hsame
  have CF := CR3.trans (CHv.at X3 hZ hEL CR3.1)
  refine oout (oretA X3 hx hret rfl rfl (hb hby d28) hr) hrun hended ⟨_, _, rfl, ?_, ?_, ⟨_, rfl⟩, w1, w2, w3.mono (by decide) (by decide)⟩
  · show Q_rm_tlc Z wR wI zc vf wB wL wV cV a t kb nn c0 c1 c2 c3 c4 c5 c6 c7 h0 n0 _ T3.heap _
    rw [e3]
    exact ⟨r0_3, r1_3, kq0_3, rfl, N3, K3, O3, F3_0, F3_1, F3_2, F3_3⟩
  · show CHr Z oEL sG.vm sG.heap T3.vm T3.heap
    rw [hh, e3]
    exact CF

theorem rm_seA0 (a t : Addr) (kb : ClassId) (nn c0 c1 c2 c3 c4 c5 c6 c7 fe : Int32) (H : oH Z a0 n0 h0 wR wI zc vf wB wL wV cV) (E_a : Exa Z h0 a "java/lang/String") (F_c : Fld Z h0 a "java/lang/String" "coder" "B" (.int (0 : Int32))) (F_v : Fld Z h0 a "java/lang/String" "value" "[B" (.ref t)) (V_t : Arv Z h0 t kb .byte nn (oB8 c0 c1 c2 c3 c4 c5 c6 c7) (.int (0 : Int32))) (r0 : oRg c0) (r1 : oRg c1) (r2 : oRg c2) (r3 : oRg c3) (r4 : oRg c4) (r5 : oRg c5) (r6 : oRg c6) (r7 : oRg c7) (hn : oN8 nn) (hv : (oSE (0 : Int32) nn c0 [((1 : Int32), c1), ((2 : Int32), c2), ((3 : Int32), c3), ((4 : Int32), c4), ((5 : Int32), c5), ((6 : Int32), c6), ((7 : Int32), c7)]) = fe) : oPu l Z (⟨sU, "schemeEnd", "(Ljava/lang/String;I)I"⟩ : MethodName) prog_24_method_5_code 4 (some .int) (oRm 4 0 0 53) #[(.ref a), (.int (0 : Int32))] h0 n0 (some (.int fe)) := by
  subst hv
  exact rm_se0 a t kb nn c0 c1 c2 c3 c4 c5 c6 c7 H E_a F_c F_v V_t r0 r1 r2 r3 r4 r5 r6 r7 hn

theorem rm_seA5 (a t : Addr) (kb : ClassId) (nn c0 c1 c2 c3 c4 c5 c6 c7 fe : Int32) (H : oH Z a0 n0 h0 wR wI zc vf wB wL wV cV) (E_a : Exa Z h0 a "java/lang/String") (F_c : Fld Z h0 a "java/lang/String" "coder" "B" (.int (0 : Int32))) (F_v : Fld Z h0 a "java/lang/String" "value" "[B" (.ref t)) (V_t : Arv Z h0 t kb .byte nn (oB8 c0 c1 c2 c3 c4 c5 c6 c7) (.int (0 : Int32))) (r0 : oRg c0) (r1 : oRg c1) (r2 : oRg c2) (r3 : oRg c3) (r4 : oRg c4) (r5 : oRg c5) (r6 : oRg c6) (r7 : oRg c7) (hn : oN8 nn) (hv : (oSE (5 : Int32) nn c5 [((6 : Int32), c6), ((7 : Int32), c7)]) = fe) : oPu l Z (⟨sU, "schemeEnd", "(Ljava/lang/String;I)I"⟩ : MethodName) prog_24_method_5_code 4 (some .int) (oRm 4 0 0 53) #[(.ref a), (.int (5 : Int32))] h0 n0 (some (.int fe)) := by
  subst hv
  exact rm_se5 a t kb nn c0 c1 c2 c3 c4 c5 c6 c7 H E_a F_c F_v V_t r0 r1 r2 r3 r4 r5 r6 r7 hn

abbrev K43 (n : Nat) (i : Instr) (k : Nat) : Prop := decode prog_24_method_1_code n = .ok (i, k)
set_option maxRecDepth 65536 in
theorem t43 : K43 0 (.aload_n 0) 1 ∧ K43 1 (.invokespecial 1) 3 ∧ K43 4 (.aload_n 0) 1 ∧ K43 5 (.aload_n 1) 1 ∧ K43 6 (.putfield 7) 3 ∧ K43 9 (.aload_n 0) 1 ∧ K43 10 (.aload_n 2) 1 ∧ K43 11 (.putfield 13) 3 ∧ K43 14 .return_ 1 := by and_intros <;> decide +kernel
def Q_rm_sui (Z : State) (wR wI : Addr) (zc : Int32) (vf : Value) (wB wL wV : Addr) (cV : Cell) (a pa pb : Addr) (u0 u1 : Value) (h0 : Heap) (n0 : Nat) (v : Option Value) (h : Heap) (L : List Loc) : Prop := v = none ∧ Fr n0 L ∧ Keep h0 h [a] ∧ Old Z n0 h ∧ Fld Z h a sU "url" "Ljava/lang/String;" (.ref pa) ∧ Fld Z h a sU "scheme" "Ljava/lang/String;" (.ref pb)
theorem rm_sui (a pa pb : Addr) (u0 u1 : Value) (H : oH Z a0 n0 h0 wR wI zc vf wB wL wV cV) (E_a : Exa Z h0 a sU) (F_0 : Fld Z h0 a sU "url" "Ljava/lang/String;" u0) (F_1 : Fld Z h0 a sU "scheme" "Ljava/lang/String;" u1) (n_a : n0 ≤ a) : oM l Z (⟨sU, "<init>", "(Ljava/lang/String;Ljava/lang/String;)V"⟩ : MethodName) prog_24_method_1_code 3 none (oRm 1 0 0 12) #[(.ref a), (.ref pa), (.ref pb)] h0 (Q_rm_sui Z wR wI zc vf wB wL wV cV a pa pb u0 u1 h0 n0) := by
  obtain ⟨hw, O0, hS⟩ := H
  refine oBody (plainFor_of_name pn_4) #[oa a, oa pa, oa pb] (fun _ => by first | (simp [entryFrame, mkF, argsToLocals, Value.category]; done) | rfl) ?_
  intro pG eG sG mG belowG methG cG s₁ hx hby hml hown hnm hret hlk X0 e0 hZ
  have N0 := Fr.nil n0
  have K0 := Keep.refl h0 [a]
  obtain ⟨d0, d1, d4, d5, d6, d9, d10, d11, d14⟩ := t43
  refine uA X0 hx hby d0 rfl 1 ?_
  obtain ⟨T1, X1, e1, st1⟩ := initO X0 hx hZ hown (ow hw 196 rfl) (ow hw 20 rfl) (ow hw 21 rfl) e0 (g := (mkF mG 1 #[oa a, oa pa, oa pb] [(.ref a)])) rfl (by rw [hml]; rfl) rfl (hb hby d1) (by decide) (W := 0) (by show 2 * 0 + _ ≤ _; exact Nat.le_of_eq rfl) (by decide)
  refine ob T1 (mkF mG 4 #[oa a, oa pa, oa pb] []) (fun _ kk => st1 _ kk) ?_
  refine uA X1 hx hby d4 rfl 5 (uA X1 hx hby d5 rfl 6 ?_)
  obtain ⟨T2, h2, X2, e2, W2, st2⟩ := putF X1 hx hZ hown (host := "") (Or.inl (ow hw 197 rfl)) Via.refl e1 F_0 E_a (Or.inr ⟨(ow hw 198 rfl), rfl, hnm⟩) (ow hw 153 rfl) (ty := (.object "java/lang/String")) (by decide) rfl rfl (g := (mkF mG 6 #[oa a, oa pa, oa pb] [(.ref pa), (.ref a)])) rfl rfl (hb hby d6)
  have F2 := F_0.same W2
  have O2 := O0.wr W2 n_a
  have K2 := K0.wr W2 (Or.inl (List.mem_of_getElem? (i := 0) rfl))
  have N2 := Fr.snoc X2 N0 n_a
  obtain ⟨LL3, X2, N2⟩ : ∃ LL, Stand pG l eG _ _ mG _ belowG methG cG T2 LL 0 0 ∧ Fr n0 LL := ⟨_, X2, N2⟩
  refine ob T2 (mkF mG 9 #[oa a, oa pa, oa pb] []) (fun _ kk => st2 _ kk) ?_
  refine uA X2 hx hby d9 rfl 10 (uA X2 hx hby d10 rfl 11 ?_)
  obtain ⟨T4, h4, X4, e4, W4, st4⟩ := putF X2 hx hZ hown (host := "") (Or.inl (ow hw 199 rfl)) Via.refl e2 (F_1.other W2 (Or.inr (slot_ne (Or.inr (ow hw 200 rfl)) (Or.inr (ow hw 198 rfl)) (by decide) (t := (.object "java/lang/String")) (t' := (.object "java/lang/String")) (by decide) (by decide)))) (E_a.wr W2) (Or.inr ⟨(ow hw 200 rfl), rfl, hnm⟩) (ow hw 153 rfl) (ty := (.object "java/lang/String")) (by decide) rfl rfl (g := (mkF mG 11 #[oa a, oa pa, oa pb] [(.ref pb), (.ref a)])) rfl rfl (hb hby d11)
  have F4 := (F_1.other W2 (Or.inr (slot_ne (Or.inr (ow hw 200 rfl)) (Or.inr (ow hw 198 rfl)) (by decide) (t := (.object "java/lang/String")) (t' := (.object "java/lang/String")) (by decide) (by decide)))).same W4
  have O4 := O2.wr W4 n_a
  have K4 := K2.wr W4 (Or.inl (List.mem_of_getElem? (i := 0) rfl))
  have N4 := Fr.snoc X4 N2 n_a
  obtain ⟨LL5, X4, N4⟩ : ∃ LL, Stand pG l eG _ _ mG _ belowG methG cG T4 LL 0 0 ∧ Fr n0 LL := ⟨_, X4, N4⟩
  refine ob T4 (mkF mG 14 #[oa a, oa pa, oa pb] []) (fun _ kk => st4 _ kk) ?_
  exact oRV X4 hx hby hret hlk e4 d14 ⟨rfl, N4, K4, O4, (F2.other W4 (Or.inr (slot_ne (Or.inr (ow hw 198 rfl)) (Or.inr (ow hw 200 rfl)) (by decide) (t := (.object "java/lang/String")) (t' := (.object "java/lang/String")) (by decide) (by decide)))), F4⟩

abbrev K44 (n : Nat) (i : Instr) (k : Nat) : Prop := decode prog_24_method_3_code n = .ok (i, k)
set_option maxRecDepth 65536 in
theorem t44 : K44 0 (.aload_n 0) 1 ∧ K44 1 (.getfield 13) 3 ∧ K44 4 .areturn 1 := by and_intros <;> decide +kernel
theorem rm_gsc (a o : Addr) (H : oH Z a0 n0 h0 wR wI zc vf wB wL wV cV) (F_a : Fld Z h0 a sU "scheme" "Ljava/lang/String;" (.ref o)) : oPu l Z (⟨sU, "scheme", "()Ljava/lang/String;"⟩ : MethodName) prog_24_method_3_code 1 (some (.object "java/lang/String")) (oRm 0 0 0 0) #[(.ref a)] h0 n0 (some (.ref o)) := by
  obtain ⟨hw, O0, hS⟩ := H
  refine oBody (plainFor_of_name pn_4) #[oa a] (fun _ => by first | (simp [entryFrame, mkF, argsToLocals, Value.category]; done) | rfl) ?_
  intro pG eG sG mG belowG methG cG s₁ hx hby hml hown hnm hret hlk X0 e0 hZ
  have N0 := Fr.nil n0
  have K0 := Keep.refl h0 []
  obtain ⟨d0, d1, d4⟩ := t44
  refine uA X0 hx hby d0 rfl 1 ?_
  refine oGf X0 hx hby hZ hown (ow hw 199 rfl) Via.refl e0 F_a d1 4 ?_
  intro T1 X1 e1
  exact oRA X1 hx hby hret hlk e1 d4 ⟨rfl, N0, rfl⟩

abbrev K45 (n : Nat) (i : Instr) (k : Nat) : Prop := decode prog_24_method_4_code n = .ok (i, k)
set_option maxRecDepth 65536 in
theorem t45 : K45 0 (.aload_n 0) 1 ∧ K45 1 (.getfield 7) 3 ∧ K45 4 .areturn 1 := by and_intros <;> decide +kernel
theorem rm_gur (a o : Addr) (H : oH Z a0 n0 h0 wR wI zc vf wB wL wV cV) (F_a : Fld Z h0 a sU "url" "Ljava/lang/String;" (.ref o)) : oPu l Z (⟨sU, "url", "()Ljava/lang/String;"⟩ : MethodName) prog_24_method_4_code 1 (some (.object "java/lang/String")) (oRm 0 0 0 0) #[(.ref a)] h0 n0 (some (.ref o)) := by
  obtain ⟨hw, O0, hS⟩ := H
  refine oBody (plainFor_of_name pn_4) #[oa a] (fun _ => by first | (simp [entryFrame, mkF, argsToLocals, Value.category]; done) | rfl) ?_
  intro pG eG sG mG belowG methG cG s₁ hx hby hml hown hnm hret hlk X0 e0 hZ
  have N0 := Fr.nil n0
  have K0 := Keep.refl h0 []
  obtain ⟨d0, d1, d4⟩ := t45
  refine uA X0 hx hby d0 rfl 1 ?_
  refine oGf X0 hx hby hZ hown (ow hw 197 rfl) Via.refl e0 F_a d1 4 ?_
  intro T1 X1 e1
  exact oRA X1 hx hby hret hlk e1 d4 ⟨rfl, N0, rfl⟩

abbrev K46 (n : Nat) (i : Instr) (k : Nat) : Prop := decode jdk_42_method_66_code n = .ok (i, k)
set_option maxRecDepth 65536 in
theorem t46 : K46 0 (.aload_n 0) 1 ∧ K46 1 (.aload_n 1) 1 ∧ K46 2 (.if_acmp .ne 5) 3 ∧ K46 5 (.iconst 1) 1 ∧ K46 6 .ireturn 1 := by and_intros <;> decide +kernel
theorem rm_seq (a : Addr) (H : oH Z a0 n0 h0 wR wI zc vf wB wL wV cV) : oPu l Z (⟨"java/lang/String", "equals", "(Ljava/lang/Object;)Z"⟩ : MethodName) jdk_42_method_66_code 3 (some .boolean) (oRm 0 0 0 0) #[(.ref a), (.ref a)] h0 n0 (some (.int (1 : Int32))) := by
  obtain ⟨hw, O0, hS⟩ := H
  refine oBody (plainFor_of_name pn_1) #[oa a, oa a, .unset] (fun _ => by first | (simp [entryFrame, mkF, argsToLocals, Value.category]; done) | rfl) ?_
  intro pG eG sG mG belowG methG cG s₁ hx hby hml hown hnm hret hlk X0 e0 hZ
  have N0 := Fr.nil n0
  have K0 := Keep.refl h0 []
  obtain ⟨d0, d1, d2, d5, d6⟩ := t46
  refine uA X0 hx hby d0 rfl 1 (uA X0 hx hby d1 rfl 2 ?_)
  refine ob s₁ (mkF mG 5 #[oa a, oa a, .unset] []) (fun _ kk => Jvm.RoadKit.acmp (g := (mkF mG 2 #[oa a, oa a, .unset] [(.ref a), (.ref a)])) X0 hx rfl rfl rfl (pc0 := 2) (pc' := 5) (same := true) rfl (hb hby d2) rfl (decide_eq_true rfl) (by decide) (by decide) kk) ?_
  refine uC X0 hx hby d5 1 6 ?_
  exact oRZ X0 hx hby hret hlk e0 d6 (1 : Int32) ⟨rfl, N0, rfl⟩

abbrev K17 (n : Nat) (i : Instr) (k : Nat) : Prop := decode jdk_31_method_11_code n = .ok (i, k)
set_option maxRecDepth 65536 in
theorem t17 : K17 0 (.aload_n 0) 1 ∧ K17 1 (.ifnonnull 12) 3 ∧ K17 13 (.aload_n 0) 1 ∧ K17 14 .areturn 1 := by and_intros <;> decide +kernel
theorem rm_rn2 (o q : Addr) (H : oH Z a0 n0 h0 wR wI zc vf wB wL wV cV) : oPu l Z (⟨"java/util/Objects", "requireNonNull", "(Ljava/lang/Object;Ljava/lang/String;)Ljava/lang/Object;"⟩ : MethodName) jdk_31_method_11_code 2 (some (.object "java/lang/Object")) (oRm 0 0 0 0) #[(.ref o), (.ref q)] h0 n0 (some (.ref o)) := by
  obtain ⟨hw, O0, hS⟩ := H
  refine oBody (plainFor_of_name pn_9) #[oa o, oa q] (fun _ => by first | (simp [entryFrame, mkF, argsToLocals, Value.category]; done) | rfl) ?_
  intro pG eG sG mG belowG methG cG s₁ hx hby hml hown hnm hret hlk X0 e0 hZ
  have N0 := Fr.nil n0
  have K0 := Keep.refl h0 []
  obtain ⟨d0, d1, d13, d14⟩ := t17
  refine uA X0 hx hby d0 rfl 1 ?_
  refine ob s₁ (mkF mG 13 #[oa o, oa q] []) (fun _ kk => XS.ifnonnullYes X0.here hx rfl (pc0 := 1) (pc' := 13) rfl (hb hby d1) rfl (by decide) (by decide) kk) ?_
  refine uA X0 hx hby d13 rfl 14 ?_
  exact oRA X0 hx hby hret hlk e0 d14 ⟨rfl, N0, rfl⟩

abbrev K16 (n : Nat) (i : Instr) (k : Nat) : Prop := decode prog_24_method_2_code n = .ok (i, k)
set_option maxRecDepth 65536 in
theorem t16 : K16 0 (.aload_n 0) 1 ∧ K16 1 (.ldc 16) 2 ∧ K16 3 (.invokestatic 17) 3 ∧ K16 6 .pop 1 ∧ K16 7 (.aload_n 0) 1 ∧ K16 8 (.iconst 0) 1 ∧ K16 9 (.invokestatic 23) 3 ∧ K16 12 (.istore_n 1) 1 ∧ K16 13 (.iload_n 1) 1 ∧ K16 14 (.ifCond .ge 13) 3 ∧ K16 27 (.iload_n 1) 1 ∧ K16 28 (.istore_n 2) 1 ∧ K16 29 (.aload_n 0) 1 ∧ K16 30 (.iconst 0) 1 ∧ K16 31 (.iload_n 1) 1 ∧ K16 32 (.invokevirtual 34) 3 ∧ K16 35 (.ldc 40) 2 ∧ K16 37 (.invokevirtual 42) 3 ∧ K16 40 (.ifCond .eq 25) 3 ∧ K16 43 (.aload_n 0) 1 ∧ K16 44 (.iload_n 1) 1 ∧ K16 45 (.iconst 1) 1 ∧ K16 46 .iadd 1 ∧ K16 47 (.invokestatic 23) 3 ∧ K16 50 (.istore_n 2) 1 ∧ K16 51 (.iload_n 2) 1 ∧ K16 52 (.ifCond .ge 13) 3 ∧ K16 65 (.new 8) 3 ∧ K16 68 .dup 1 ∧ K16 69 (.aload_n 0) 1 ∧ K16 70 (.aload_n 0) 1 ∧ K16 71 (.iconst 0) 1 ∧ K16 72 (.iload_n 2) 1 ∧ K16 73 (.invokevirtual 34) 3 ∧ K16 76 (.getstatic 48) 3 ∧ K16 79 (.invokevirtual 54) 3 ∧ K16 82 (.invokespecial 58) 3 ∧ K16 85 .areturn 1 := by and_intros <;> decide +kernel
theorem pd_23 : parseMethodDescriptor "(Ljava/lang/Object;Ljava/lang/String;)Ljava/lang/Object;" = some ⟨[(.object "java/lang/Object"), (.object "java/lang/String")], some (.object "java/lang/Object")⟩ := by decide +kernel
theorem pd_24 : parseMethodDescriptor "(Ljava/lang/String;I)I" = some ⟨[(.object "java/lang/String"), .int], some .int⟩ := by decide +kernel
theorem pd_25 : parseMethodDescriptor "(II)Ljava/lang/String;" = some ⟨[.int, .int], some (.object "java/lang/String")⟩ := by decide +kernel
theorem pd_26 : parseMethodDescriptor "(Ljava/lang/String;)Z" = some ⟨[(.object "java/lang/String")], some .boolean⟩ := by decide +kernel
theorem pd_27 : parseMethodDescriptor "(Ljava/util/Locale;)Ljava/lang/String;" = some ⟨[(.object "java/util/Locale")], some (.object "java/lang/String")⟩ := by decide +kernel
theorem pd_28 : parseMethodDescriptor "(Ljava/lang/String;Ljava/lang/String;)V" = some ⟨[(.object "java/lang/String"), (.object "java/lang/String")], none⟩ := by decide +kernel
def Q_rm_parX (Z : State) (wR wI : Addr) (zc : Int32) (vf : Value) (wB wL wV : Addr) (cV : Cell) (a t : Addr) (kb : ClassId) (nn c0 c1 c2 c3 c4 c5 c6 c7 fe : Int32) (h0 : Heap) (n0 : Nat) (v : Option Value) (h : Heap) (L : List Loc) : Prop := ∃ (b0 r0 r1 : Addr) (kq0 : ClassId), v = some (.ref b0) ∧ Fr n0 L ∧ Keep h0 h [] ∧ Old Z n0 h ∧ n0 ≤ b0 ∧ h0.size ≤ b0 ∧ Exa Z h b0 sU ∧ Fld Z h b0 sU "url" "Ljava/lang/String;" (.ref a) ∧ Fld Z h b0 sU "scheme" "Ljava/lang/String;" (.ref r0) ∧ Exa Z h r0 "java/lang/String" ∧ Fld Z h r0 "java/lang/String" "coder" "B" (.int (0 : Int32)) ∧ Fld Z h r0 "java/lang/String" "value" "[B" (.ref r1) ∧ Arv Z h r1 kq0 .byte fe (oT8 c0 c1 c2 c3 c4 c5 c6 c7) (.int (0 : Int32))
set_option maxHeartbeats 40000000 in
theorem rm_parX (a t : Addr) (kb : ClassId) (nn c0 c1 c2 c3 c4 c5 c6 c7 fe : Int32) (H : oH Z a0 n0 h0 wR wI zc vf wB wL wV cV) (E_a : Exa Z h0 a "java/lang/String") (F_c : Fld Z h0 a "java/lang/String" "coder" "B" (.int (0 : Int32))) (F_v : Fld Z h0 a "java/lang/String" "value" "[B" (.ref t)) (V_t : Arv Z h0 t kb .byte nn (oB8 c0 c1 c2 c3 c4 c5 c6 c7) (.int (0 : Int32))) (r0 : oRg c0) (r1 : oRg c1) (r2 : oRg c2) (r3 : oRg c3) (r4 : oRg c4) (r5 : oRg c5) (r6 : oRg c6) (r7 : oRg c7) (hn : oN8 nn) (hv : (oSE (0 : Int32) nn c0 [((1 : Int32), c1), ((2 : Int32), c2), ((3 : Int32), c3), ((4 : Int32), c4), ((5 : Int32), c5), ((6 : Int32), c6), ((7 : Int32), c7)]) = fe) (hl1 : fe < nn) (q1 : oE7 fe) (q4 : ¬ (4 : Int32) = fe) : oMc l Z (⟨sU, "parse", "(Ljava/lang/String;)Lcom/example/lease_over_store/leaseoverstore/lease/StoreUrl;"⟩ : MethodName) prog_24_method_2_code 3 (some (.object sU)) (oRm 6 20 122 160) #[(.ref a)] h0 (Q_rm_parX Z wR wI zc vf wB wL wV cV a t kb nn c0 c1 c2 c3 c4 c5 c6 c7 fe h0 n0) := by
  obtain ⟨hw, O0, hS⟩ := H
  refine oBodyC (plainFor_of_name pn_4) #[oa a, .unset, .unset] (fun _ => by first | (simp [entryFrame, mkF, argsToLocals, Value.category]; done) | rfl) ?_
  intro pG eG sG mG belowG methG cG s₁ hx hby hml hown hnm hret hlk X0 hh e0 hZ hC
  have hS0 : sG.Since sG.vm h0.size := (State.WarmedH.refl sG).since _
  have hk0 : h0.size ≤ h0.size := Nat.le_refl _
  have CR0 : CHr Z oEL sG.vm h0 sG.vm h0 := CHr.refl hC
  have hEL : EW Z a0 oEL := own_EW hw
  have N0 := Fr.nil n0
  have K0 := Keep.refl h0 []
  obtain ⟨S_wR, -, -, -, -, -, -, -, -, -, -, -, -, -⟩ := id hS
  obtain ⟨d0, d1, d3, d6, d7, d8, d9, d12, d13, d14, d27, d28, d29, d30, d31, d32, d35, d37, d40, d43, d44, d45, d46, d47, d50, d51, d52, d65, d68, d69, d70, d71, d72, d73, d76, d79, d82, d85⟩ := t16
  refine uA X0 hx hby d0 rfl 1 ?_
  obtain ⟨a1, T1, h1, k11, X1, e1, E1, hS1, hk1, hZ, hown, CS1, Li1, st1⟩ := ldcOH X0 hx hZ hown (ow hw 66 rfl) (fun d hd => hw d (own_atoms d hd)) e0 hS0 hk0 hEL CR0.1 (g := (mkF mG 1 #[oa a, .unset, .unset] [(.ref a)])) rfl (hb hby d1) (n := 12) (by decide) (by decide) (by decide) (by decide)
  have CR1 := CR0.trans CS1
  have O1 := O0.ext E1
  have K1 := K0.ext E1
  obtain ⟨LL2, X1, N0⟩ : ∃ LL, Stand pG l eG _ _ mG _ belowG methG cG T1 LL 2 16 ∧ Fr n0 LL := ⟨_, X1, N0⟩
  refine ob T1 (mkF mG 3 #[oa a, .unset, .unset] [(.ref a1), (.ref a)]) (fun _ kk => st1 _ kk) ?_
  refine oCp X1 hx hby hZ hown (ow hw 67 rfl) (ow hw 68 rfl) (ow hw 70 rfl) (ow hw 69 rfl) (rm_rn2 a a1 ⟨hw, O1, hS⟩ ) e1 N0 hml [(.ref a), (.ref a1)] [] pd_23 d3 6 ?_
  intro T3 L3 X3 e3 N3
  refine ob T3 (mkF mG 7 #[oa a, .unset, .unset] []) (fun _ kk => XS.pop X3.here hx rfl (hb hby d6) rfl rfl kk) ?_
  refine uA X3 hx hby d7 rfl 8 (uC X3 hx hby d8 0 9 ?_)
  refine oCp X3 hx hby hZ hown (ow hw 71 rfl) (ow hw 72 rfl) (ow hw 73 rfl) (ow hw 64 rfl) (rm_seA0 a t kb nn c0 c1 c2 c3 c4 c5 c6 c7 fe ⟨hw, O1, hS⟩ (E_a.ext E1) (F_c.ext E1) (F_v.ext E1) (V_t.ext E1) r0 r1 r2 r3 r4 r5 r6 r7 hn hv) e3 N3 hml [(.ref a), (.int (0 : Int32))] [] pd_24 d9 12 ?_
  intro T4 L4 X4 e4 N4
  refine uT X4 hx hby d12 #[oa a, oi fe, .unset] 13 (uI X4 hx hby d13 rfl 14 (uY X4 hx hby d14 ((if0 _ _).trans (flt (own_e0 q1)).2.1) 27 (uI X4 hx hby d27 rfl 28 (uT X4 hx hby d28 #[oa a, oi fe, oi fe] 29 (uA X4 hx hby d29 rfl 30 (uC X4 hx hby d30 0 31 (uI X4 hx hby d31 rfl 32 ?_)))))))
  obtain ⟨cq5, kq5, q5a, q5b, q5c⟩ := isOf hZ e4 (E_a.ext E1)
  obtain ⟨_, _, ⟨T5, L5, k5, n5⟩, -, X5, ⟨Lc5, hQ5, l5, y5, z5⟩, st5⟩ := X4.virtualBack hx (y := (⟨"java/lang/String", "substring", "(II)Ljava/lang/String;"⟩ : MethodName)) (z := (⟨"java/lang/String", "substring", "(II)Ljava/lang/String;"⟩ : MethodName)) hown (mvT hZ (ow hw 109 rfl)) (mvT hZ (ow hw 110 rfl)) (notFace_of_selects (args := #[]) (mvT hZ (ow hw 112 rfl))) (mvT hZ (ow hw 112 rfl)) (mvT hZ (ow hw 111 rfl)) (by decide) (backOf (W := 0) (rm_sub a t kb nn fe c0 c1 c2 c3 c4 c5 c6 c7 ⟨hw, O1, hS⟩ (E_a.ext E1) (F_c.ext E1) (F_v.ext E1) (V_t.ext E1) q1 hl1) hZ (ow hw 113 rfl) (ow hw 8 rfl) (by decide) (by decide)) q5a q5c (g := (mkF mG 32 #[oa a, oi fe, oi fe] [(.int fe), (.int (0 : Int32)), (.ref a)])) rfl (by rw [hml]; rfl) (Steps.refl _) (argsL := [(.int (0 : Int32)), (.int fe)]) (rest := []) (lenOf pd_25 rfl) rfl (by show 2 * 0 + _ ≤ _; exact Nat.le_of_eq rfl) (hb hby d32) (fun _ _ => ⟨rfl, e4, (by decide : 2 + 2 ≤ _), (by decide : 16 + 12 ≤ _)⟩)
  dsimp only [Pt.U, Pt.locs, Pt.cells, Pt.slots] at X5 l5 y5 z5 st5 hQ5
  subst l5 y5 z5
  obtain ⟨h5, e5⟩ : ∃ h, T5.heap = h := ⟨_, rfl⟩
  rw [e5] at hQ5
  obtain ⟨b0_5, b1_5, kq2_5, rfl, N5q, K5q, O5, n_b0_5, n_b1_5, z_b0_5, z_b1_5, F5_0, F5_1, F5_2, F5_3⟩ := hQ5
  have N5 := Fr.app N4 N5q
  have sz_b0_5 : h0.size ≤ b0_5 := Nat.le_trans K1.1 z_b0_5
  have ne_a_b0_5 : a ≠ b0_5 := Nat.ne_of_lt (Nat.lt_of_lt_of_le (E_a.ext E1).lt z_b0_5)
  have ne_t_b0_5 : t ≠ b0_5 := Nat.ne_of_lt (Nat.lt_of_lt_of_le (V_t.ext E1).lt z_b0_5)
  have sz_b1_5 : h0.size ≤ b1_5 := Nat.le_trans K1.1 z_b1_5
  have ne_a_b1_5 : a ≠ b1_5 := Nat.ne_of_lt (Nat.lt_of_lt_of_le (E_a.ext E1).lt z_b1_5)
  have ne_t_b1_5 : t ≠ b1_5 := Nat.ne_of_lt (Nat.lt_of_lt_of_le (V_t.ext E1).lt z_b1_5)
  have K5 := K1.trans K5q all0
  have CS5 : CHr Z oEL T1.vm h1 T1.vm h5 := CHr.keep K5q sf0 CR1.1
  have CR5 := CR1.trans CS5
  have sf_b0_5 : Safe Z oEL T1.vm h5 b0_5 := Safe.keep K5q sf0 CR1.1 (Safe.new z_b0_5)
  have sf_b1_5 : Safe Z oEL T1.vm h5 b1_5 := Safe.keep K5q sf0 CR1.1 (Safe.new z_b1_5)
  obtain ⟨LL6, X5, N5⟩ : ∃ LL, Stand pG l eG _ _ mG _ belowG methG cG T5 LL 4 28 ∧ Fr n0 LL := ⟨_, X5, N5⟩
  refine ob T5 (mkF mG 35 #[oa a, oi fe, oi fe] [(.ref b0_5)]) (fun _ kk => st5.trans kk) ?_
  obtain ⟨a7, T7, h7, k17, t7, kb7, X7, e7, E7, hS7, hk7, hZ, hown, A7, C7, V7, B7, la7, lt7, CS7, Li7, ns7, st7⟩ := ldcCH X5 hx hZ hown (ow hw 146 rfl) (fun d hd => hw d (own_atoms d hd)) e5 hS1 (Nat.le_trans hk1 CS5.2.1) hEL (List.mem_of_getElem? (i := 1) rfl) CR5.1 (vs := [(.int (106 : Int32)), (.int (100 : Int32)), (.int (98 : Int32)), (.int (99 : Int32))]) (z := (4 : Int32)) ⟨by decide, by first | rfl | decide +kernel⟩ (by decide) rfl (g := (mkF mG 35 #[oa a, oi fe, oi fe] [(.ref b0_5)])) rfl (hb hby d35) (n := 16) (by decide) (by decide) (by decide) (by decide)
  have CR7 := CR5.trans CS7
  have O7 := O5.ext E7
  have K7 := K5.ext E7
  obtain ⟨LL8, X7, N5⟩ : ∃ LL, Stand pG l eG _ _ mG _ belowG methG cG T7 LL 6 48 ∧ Fr n0 LL := ⟨_, X7, N5⟩
  have nl7_b0_5 := ns7 b0_5 (CHr.safe CS7 F5_0.lt sf_b0_5)
  have nl7_b1_5 := ns7 b1_5 (CHr.safe CS7 F5_3.lt sf_b1_5)
  refine ob T7 (mkF mG 37 #[oa a, oi fe, oi fe] [(.ref a7), (.ref b0_5)]) (fun _ kk => st7 _ kk) ?_
  refine oVp X7 hx hby hZ hown (ow hw 147 rfl) (ow hw 148 rfl) (ow hw 150 rfl) (ow hw 149 rfl) (ow hw 151 rfl) (ow hw 8 rfl) (rm_eqN b0_5 a7 b1_5 kq2_5 fe t7 kb7 c0 c1 c2 c3 c4 c5 c6 c7 ⟨hw, O7, hS⟩ (F5_0.ext E7) (F5_2.ext E7) (F5_1.ext E7) (F5_3.ext E7) A7 C7 V7 B7 nl7_b0_5.1 q4) e7 (F5_0.ext E7) N5 hml [(.ref a7)] [] pd_26 d37 40 ?_
  intro T9 L9 X9 e9 N9
  refine uY X9 hx hby d40 ((if0 _ _).trans (teq (by decide : (0 : Int32) = (0 : Int32))).1) 65 ?_
  obtain ⟨T10, h10, X10, e10, E10, A10, D10, _x10, st10⟩ := newO X9 hx hZ hown (ow hw 152 rfl) (ow hw 153 rfl) (ow hw 64 rfl) e9 (g := (mkF mG 65 #[oa a, oi fe, oi fe] [])) rfl (hb hby d65) (by decide) (by decide)
  obtain ⟨b10, g10⟩ : ∃ z, z = h7.size := ⟨_, rfl⟩
  rw [← g10] at A10 D10 st10
  have n_b10 : n0 ≤ b10 := Nat.le_trans (on0 O7) (Nat.le_of_eq g10.symm)
  have sz_b10 : h0.size ≤ b10 := Nat.le_trans K7.1 (Nat.le_of_eq g10.symm)
  have ne_a_b10 : a ≠ b10 := Nat.ne_of_lt (Nat.lt_of_lt_of_le (((E_a.ext E1).keep K5q).ext E7).lt (Nat.le_of_eq g10.symm))
  have ne_t_b10 : t ≠ b10 := Nat.ne_of_lt (Nat.lt_of_lt_of_le (((V_t.ext E1).keep K5q nin0).ext E7).lt (Nat.le_of_eq g10.symm))
  have ne_b0_5_b10 : b0_5 ≠ b10 := Nat.ne_of_lt (Nat.lt_of_lt_of_le (F5_0.ext E7).lt (Nat.le_of_eq g10.symm))
  have ne_b1_5_b10 : b1_5 ≠ b10 := Nat.ne_of_lt (Nat.lt_of_lt_of_le (F5_3.ext E7).lt (Nat.le_of_eq g10.symm))
  have ne_a7_b10 : a7 ≠ b10 := Nat.ne_of_lt (Nat.lt_of_lt_of_le A7.lt (Nat.le_of_eq g10.symm))
  have ne_t7_b10 : t7 ≠ b10 := Nat.ne_of_lt (Nat.lt_of_lt_of_le B7.lt (Nat.le_of_eq g10.symm))
  have CS10 : CHr Z oEL T7.vm h7 T7.vm h10 := CHr.ext E10 CR7.1
  have CR10 := CR7.trans CS10
  have O10 := O7.ext E10
  have K10 := K7.ext E10
  obtain ⟨LL11, X10, N9⟩ : ∃ LL, Stand pG l eG _ _ mG _ belowG methG cG T10 LL 7 50 ∧ Fr n0 LL := ⟨_, X10, N9⟩
  have sf_b10 : Safe Z oEL T7.vm h10 b10 := Safe.ext E10 CR7.1 (Safe.new (Nat.le_of_eq g10.symm))
  have F10_198 : Fld Z h10 b10 sU "url" "Ljava/lang/String;" .null := D10 (Or.inr (ow hw 198 rfl)) (ty := (.object "java/lang/String")) (by decide)
  have F10_200 : Fld Z h10 b10 sU "scheme" "Ljava/lang/String;" .null := D10 (Or.inr (ow hw 200 rfl)) (ty := (.object "java/lang/String")) (by decide)
  refine ob T10 (mkF mG 68 #[oa a, oi fe, oi fe] [(.ref b10)]) (fun _ kk => st10 _ kk) ?_
  refine uD X10 hx hby d68 69 (uA X10 hx hby d69 rfl 70 (uA X10 hx hby d70 rfl 71 (uC X10 hx hby d71 0 72 (uI X10 hx hby d72 rfl 73 ?_))))
  obtain ⟨cq12, kq12, q12a, q12b, q12c⟩ := isOf hZ e10 ((((E_a.ext E1).keep K5q).ext E7).ext E10)
  obtain ⟨_, _, ⟨T12, L12, k12, n12⟩, -, X12, ⟨Lc12, hQ12, l12, y12, z12⟩, st12⟩ := X10.virtualBack hx (y := (⟨"java/lang/String", "substring", "(II)Ljava/lang/String;"⟩ : MethodName)) (z := (⟨"java/lang/String", "substring", "(II)Ljava/lang/String;"⟩ : MethodName)) hown (mvT hZ (ow hw 109 rfl)) (mvT hZ (ow hw 110 rfl)) (notFace_of_selects (args := #[]) (mvT hZ (ow hw 112 rfl))) (mvT hZ (ow hw 112 rfl)) (mvT hZ (ow hw 111 rfl)) (by decide) (backOf (W := 3) (rm_sub a t kb nn fe c0 c1 c2 c3 c4 c5 c6 c7 ⟨hw, O10, hS⟩ ((((E_a.ext E1).keep K5q).ext E7).ext E10) ((((F_c.ext E1).keep K5q nin0).ext E7).ext E10) ((((F_v.ext E1).keep K5q nin0).ext E7).ext E10) ((((V_t.ext E1).keep K5q nin0).ext E7).ext E10) q1 hl1) hZ (ow hw 113 rfl) (ow hw 8 rfl) (by decide) (by decide)) q12a q12c (g := (mkF mG 73 #[oa a, oi fe, oi fe] [(.int fe), (.int (0 : Int32)), (.ref a), (.ref a), (.ref b10), (.ref b10)])) rfl (by rw [hml]; rfl) (Steps.refl _) (argsL := [(.int (0 : Int32)), (.int fe)]) (rest := [(.ref a), (.ref b10), (.ref b10)]) (lenOf pd_25 rfl) rfl (by show 2 * 0 + _ ≤ _; exact Nat.le_of_eq rfl) (hb hby d73) (fun _ _ => ⟨rfl, e10, (by decide : 7 + 2 ≤ _), (by decide : 50 + 12 ≤ _)⟩)
  dsimp only [Pt.U, Pt.locs, Pt.cells, Pt.slots] at X12 l12 y12 z12 st12 hQ12
  subst l12 y12 z12
  obtain ⟨h12, e12⟩ : ∃ h, T12.heap = h := ⟨_, rfl⟩
  rw [e12] at hQ12
  obtain ⟨b0_12, b1_12, kq2_12, rfl, N12q, K12q, O12, n_b0_12, n_b1_12, z_b0_12, z_b1_12, F12_0, F12_1, F12_2, F12_3⟩ := hQ12
  have N12 := Fr.app N9 N12q
  have sz_b0_12 : h0.size ≤ b0_12 := Nat.le_trans K10.1 z_b0_12
  have ne_a_b0_12 : a ≠ b0_12 := Nat.ne_of_lt (Nat.lt_of_lt_of_le ((((E_a.ext E1).keep K5q).ext E7).ext E10).lt z_b0_12)
  have ne_t_b0_12 : t ≠ b0_12 := Nat.ne_of_lt (Nat.lt_of_lt_of_le ((((V_t.ext E1).keep K5q nin0).ext E7).ext E10).lt z_b0_12)
  have ne_b0_5_b0_12 : b0_5 ≠ b0_12 := Nat.ne_of_lt (Nat.lt_of_lt_of_le ((F5_0.ext E7).ext E10).lt z_b0_12)
  have ne_b1_5_b0_12 : b1_5 ≠ b0_12 := Nat.ne_of_lt (Nat.lt_of_lt_of_le ((F5_3.ext E7).ext E10).lt z_b0_12)
  have ne_a7_b0_12 : a7 ≠ b0_12 := Nat.ne_of_lt (Nat.lt_of_lt_of_le (A7.ext E10).lt z_b0_12)
  have ne_t7_b0_12 : t7 ≠ b0_12 := Nat.ne_of_lt (Nat.lt_of_lt_of_le (B7.ext E10).lt z_b0_12)
  have ne_b10_b0_12 : b10 ≠ b0_12 := Nat.ne_of_lt (Nat.lt_of_lt_of_le A10.lt z_b0_12)
  have sz_b1_12 : h0.size ≤ b1_12 := Nat.le_trans K10.1 z_b1_12
  have ne_a_b1_12 : a ≠ b1_12 := Nat.ne_of_lt (Nat.lt_of_lt_of_le ((((E_a.ext E1).keep K5q).ext E7).ext E10).lt z_b1_12)
  have ne_t_b1_12 : t ≠ b1_12 := Nat.ne_of_lt (Nat.lt_of_lt_of_le ((((V_t.ext E1).keep K5q nin0).ext E7).ext E10).lt z_b1_12)
  have ne_b0_5_b1_12 : b0_5 ≠ b1_12 := Nat.ne_of_lt (Nat.lt_of_lt_of_le ((F5_0.ext E7).ext E10).lt z_b1_12)
  have ne_b1_5_b1_12 : b1_5 ≠ b1_12 := Nat.ne_of_lt (Nat.lt_of_lt_of_le ((F5_3.ext E7).ext E10).lt z_b1_12)
  have ne_a7_b1_12 : a7 ≠ b1_12 := Nat.ne_of_lt (Nat.lt_of_lt_of_le (A7.ext E10).lt z_b1_12)
  have ne_t7_b1_12 : t7 ≠ b1_12 := Nat.ne_of_lt (Nat.lt_of_lt_of_le (B7.ext E10).lt z_b1_12)
  have ne_b10_b1_12 : b10 ≠ b1_12 := Nat.ne_of_lt (Nat.lt_of_lt_of_le A10.lt z_b1_12)
  have K12 := K10.trans K12q all0
  have CS12 : CHr Z oEL T7.vm h10 T7.vm h12 := CHr.keep K12q sf0 CR10.1
  have CR12 := CR10.trans CS12
  have sf_b0_12 : Safe Z oEL T7.vm h12 b0_12 := Safe.keep K12q sf0 CR10.1 (Safe.new z_b0_12)
  have sf_b1_12 : Safe Z oEL T7.vm h12 b1_12 := Safe.keep K12q sf0 CR10.1 (Safe.new z_b1_12)
  obtain ⟨LL13, X12, N12⟩ : ∃ LL, Stand pG l eG _ _ mG _ belowG methG cG T12 LL 9 62 ∧ Fr n0 LL := ⟨_, X12, N12⟩
  refine ob T12 (mkF mG 76 #[oa a, oi fe, oi fe] [(.ref b0_12), (.ref a), (.ref b10), (.ref b10)]) (fun _ kk => st12.trans kk) ?_
  refine oGs X12 hx hby hZ hown (ow hw 154 rfl) e12 (S_wR.ext O12.2) d76 79 ?_
  intro T14 X14 e14
  obtain ⟨cq15, kq15, q15a, q15b, q15c⟩ := isOf hZ e14 F12_0
  obtain ⟨_, _, ⟨T15, L15, k15, n15⟩, -, X15, hS15, gs15, ⟨Lc15, hQ15, l15, y15, z15, CS15⟩, st15⟩ := X14.virtualBackS hx (y := (⟨"java/lang/String", "toLowerCase", "(Ljava/util/Locale;)Ljava/lang/String;"⟩ : MethodName)) (z := (⟨"java/lang/String", "toLowerCase", "(Ljava/util/Locale;)Ljava/lang/String;"⟩ : MethodName)) hown (mvT hZ (ow hw 156 rfl)) (mvT hZ (ow hw 157 rfl)) (notFace_of_selects (args := #[]) (mvT hZ (ow hw 159 rfl))) (mvT hZ (ow hw 159 rfl)) (mvT hZ (ow hw 158 rfl)) (by decide) (backOfSH (W := 3) (rm_tlc b0_12 b1_12 kq2_12 fe c0 c1 c2 c3 c4 c5 c6 c7 ⟨hw, O12, hS⟩ F12_0 F12_2 F12_1 F12_3 r0 r1 r2 r3 r4 r5 r6 r7 q1) hZ (ow hw 160 rfl) (ow hw 8 rfl) (by decide) (by decide) hEL CR12.1) q15a q15c (g := (mkF mG 79 #[oa a, oi fe, oi fe] [(.ref wR), (.ref b0_12), (.ref a), (.ref b10), (.ref b10)])) rfl (by rw [hml]; rfl) (Steps.refl _) (argsL := [(.ref wR)]) (rest := [(.ref a), (.ref b10), (.ref b10)]) (lenOf pd_27 rfl) rfl (by show 2 * 0 + _ ≤ _; exact Nat.le_of_eq rfl) (hb hby d79) (fun _ _ => ⟨rfl, e14, (by decide : 9 + 8 ≤ _), (by decide : 62 + 60 ≤ _)⟩)
  dsimp only [Pt.U, Pt.locs, Pt.cells, Pt.slots] at X15 l15 y15 z15 st15 hQ15 hS15 gs15 CS15
  subst l15 y15 z15
  obtain ⟨X15, hS15, hZ, hown⟩ := rebS hS7 (by rw [e14]; exact (Nat.le_trans (Nat.le_trans hk7 CS10.2.1) CS12.2.1)) X15 hS15 gs15 hZ hown
  obtain ⟨h15, e15⟩ : ∃ h, T15.heap = h := ⟨_, rfl⟩
  rw [e15] at hQ15
  obtain ⟨r0_15, r1_15, kq0_15, rfl, N15q, K15q, O15, F15_0, F15_1, F15_2, F15_3⟩ := hQ15
  have N15 := Fr.app N12 N15q
  have K15 := K12.trans K15q all0
  rw [e15] at CS15 hS15
  have hk15 : h15.size ≤ h15.size := Nat.le_refl _
  have CR15 := CR12.trans CS15
  obtain ⟨LL16, X15, N15⟩ : ∃ LL, Stand pG l eG _ _ mG _ belowG methG cG T15 LL 17 122 ∧ Fr n0 LL := ⟨_, X15, N15⟩
  refine ob T15 (mkF mG 82 #[oa a, oi fe, oi fe] [(.ref r0_15), (.ref a), (.ref b10), (.ref b10)]) (fun _ kk => st15.trans kk) ?_
  have nq17a : r0_15 ≠ b10 := Ne.symm (ne_exa ((A10.keep K12q).keep K15q) F15_0 (by decide))
  have nq17b : r1_15 ≠ b10 := Ne.symm (((A10.keep K12q).keep K15q).neArv F15_3 (ow hw 153 rfl))
  obtain ⟨_, _, ⟨T18, L18, k18, n18⟩, -, X18, ⟨Lc18, hQ18, l18, y18, z18⟩, st18⟩ := X15.specialBack hx (y := (⟨sU, "<init>", "(Ljava/lang/String;Ljava/lang/String;)V"⟩ : MethodName)) rfl hown (mvT hZ (ow hw 193 rfl)) (mvT hZ (ow hw 194 rfl)) (mvT hZ (ow hw 195 rfl)) (by decide) (backOf (W := 1) (rm_sui b10 a r0_15 .null .null ⟨hw, O15, hS⟩ ((A10.keep K12q).keep K15q) ((F10_198.keep K12q nin0).keep K15q nin0) ((F10_200.keep K12q nin0).keep K15q nin0) n_b10) hZ (ow hw 195 rfl) (ow hw 64 rfl) (by decide) (by decide)) (g := (mkF mG 82 #[oa a, oi fe, oi fe] [(.ref r0_15), (.ref a), (.ref b10), (.ref b10)])) rfl (by rw [hml]; rfl) (Steps.refl _) (a := b10) (argsL := [(.ref a), (.ref r0_15)]) (rest := [(.ref b10)]) (lenOf pd_28 rfl) rfl (by show 2 * 0 + _ ≤ _; exact Nat.le_of_eq rfl) (hb hby d82) (fun _ _ => ⟨rfl, e15, (by decide : 17 + 0 ≤ _), (by decide : 122 + 0 ≤ _)⟩)
  dsimp only [Pt.U, Pt.locs, Pt.cells, Pt.slots] at X18 l18 y18 z18 st18 hQ18
  subst l18 y18 z18
  obtain ⟨h18, e18⟩ : ∃ h, T18.heap = h := ⟨_, rfl⟩
  rw [e18] at hQ18
  obtain ⟨rfl, N18q, K18q, O18, F18_0, F18_1⟩ := hQ18
  have N18 := Fr.app N15 N18q
  have K18 := K15.trans K18q (allS (Or.inr sz_b10) all0)
  have CS18 : CHr Z oEL T15.vm h15 T15.vm h18 := CHr.keep K18q (sfS (Safe.exa hZ.alike ((A10.keep K12q).keep K15q) (by decide) (by decide)) sf0) CR15.1
  have CR18 := CR15.trans CS18
  obtain ⟨LL19, X18, N18⟩ : ∃ LL, Stand pG l eG _ _ mG _ belowG methG cG T18 LL 17 122 ∧ Fr n0 LL := ⟨_, X18, N18⟩
  refine ob T18 (mkF mG 85 #[oa a, oi fe, oi fe] [(.ref b10)]) (fun _ kk => st18.trans kk) ?_
  obtain ⟨fs, hr, hrun, hended, hW, hsame⟩ := X18.leave (v := some (.ref b10)) (fun h => by rw [hret] at h; cases h) hlk
  obtain ⟨w1, w2, w3⟩ := State.Since.ended (U := T18.setFrames fs) hS15 hW (by show _ ≤ T18.heap.size; rw [e18]; exact (Nat.le_trans hk15 CS18.2.1)) hsame
  have CF := CR18.trans (CHv.at X18 hZ hEL CR18.1)
  refine oout (oretA X18 hx hret rfl rfl (hb hby d85) hr) hrun hended ⟨_, _, rfl, ?_, ?_, ⟨_, rfl⟩, w1, w2, w3.mono (by decide) (by decide)⟩
  · show Q_rm_parX Z wR wI zc vf wB wL wV cV a t kb nn c0 c1 c2 c3 c4 c5 c6 c7 fe h0 n0 _ T18.heap _
    rw [e18]
    exact ⟨b10, r0_15, r1_15, kq0_15, rfl, N18, K18, O18, n_b10, sz_b10, (((A10.keep K12q).keep K15q).keep K18q), F18_0, F18_1, (F15_0.keep K18q), (F15_1.keep K18q (ninS nq17a nin0)), (F15_2.keep K18q (ninS nq17a nin0)), (F15_3.keep K18q (ninS nq17b nin0))⟩
  · show CHr Z oEL sG.vm sG.heap T18.vm T18.heap
    rw [hh, e18]
    exact CF

def Q_rm_parY (Z : State) (wR wI : Addr) (zc : Int32) (vf : Value) (wB wL wV : Addr) (cV : Cell) (a t : Addr) (kb : ClassId) (nn c0 c1 c2 c3 c4 c5 c6 c7 : Int32) (h0 : Heap) (n0 : Nat) (v : Option Value) (h : Heap) (L : List Loc) : Prop := ∃ (b0 r0 r1 : Addr) (kq0 : ClassId), v = some (.ref b0) ∧ Fr n0 L ∧ Keep h0 h [] ∧ Old Z n0 h ∧ n0 ≤ b0 ∧ h0.size ≤ b0 ∧ Exa Z h b0 sU ∧ Fld Z h b0 sU "url" "Ljava/lang/String;" (.ref a) ∧ Fld Z h b0 sU "scheme" "Ljava/lang/String;" (.ref r0) ∧ Exa Z h r0 "java/lang/String" ∧ Fld Z h r0 "java/lang/String" "coder" "B" (.int (0 : Int32)) ∧ Fld Z h r0 "java/lang/String" "value" "[B" (.ref r1) ∧ Arv Z h r1 kq0 .byte (4 : Int32) (oT8 c0 c1 c2 c3 c4 c5 c6 c7) (.int (0 : Int32))
set_option maxHeartbeats 40000000 in
theorem rm_parY (a t : Addr) (kb : ClassId) (nn c0 c1 c2 c3 c4 c5 c6 c7 : Int32) (H : oH Z a0 n0 h0 wR wI zc vf wB wL wV cV) (E_a : Exa Z h0 a "java/lang/String") (F_c : Fld Z h0 a "java/lang/String" "coder" "B" (.int (0 : Int32))) (F_v : Fld Z h0 a "java/lang/String" "value" "[B" (.ref t)) (V_t : Arv Z h0 t kb .byte nn (oB8 c0 c1 c2 c3 c4 c5 c6 c7) (.int (0 : Int32))) (r0 : oRg c0) (r1 : oRg c1) (r2 : oRg c2) (r3 : oRg c3) (r4 : oRg c4) (r5 : oRg c5) (r6 : oRg c6) (r7 : oRg c7) (hn : oN8 nn) (hv : (oSE (0 : Int32) nn c0 [((1 : Int32), c1), ((2 : Int32), c2), ((3 : Int32), c3), ((4 : Int32), c4), ((5 : Int32), c5), ((6 : Int32), c6), ((7 : Int32), c7)]) = (4 : Int32)) (hl1 : (4 : Int32) < nn) (hj : oJd c0 c1 c2 c3 = (0 : Int32)) : oMc l Z (⟨sU, "parse", "(Ljava/lang/String;)Lcom/example/lease_over_store/leaseoverstore/lease/StoreUrl;"⟩ : MethodName) prog_24_method_2_code 3 (some (.object sU)) (oRm 6 20 122 160) #[(.ref a)] h0 (Q_rm_parY Z wR wI zc vf wB wL wV cV a t kb nn c0 c1 c2 c3 c4 c5 c6 c7 h0 n0) := by
  obtain ⟨hw, O0, hS⟩ := H
  refine oBodyC (plainFor_of_name pn_4) #[oa a, .unset, .unset] (fun _ => by first | (simp [entryFrame, mkF, argsToLocals, Value.category]; done) | rfl) ?_
  intro pG eG sG mG belowG methG cG s₁ hx hby hml hown hnm hret hlk X0 hh e0 hZ hC
  have hS0 : sG.Since sG.vm h0.size := (State.WarmedH.refl sG).since _
  have hk0 : h0.size ≤ h0.size := Nat.le_refl _
  have CR0 : CHr Z oEL sG.vm h0 sG.vm h0 := CHr.refl hC
  have hEL : EW Z a0 oEL := own_EW hw
  have N0 := Fr.nil n0
  have K0 := Keep.refl h0 []
  obtain ⟨S_wR, -, -, -, -, -, -, -, -, -, -, -, -, -⟩ := id hS
  obtain ⟨d0, d1, d3, d6, d7, d8, d9, d12, d13, d14, d27, d28, d29, d30, d31, d32, d35, d37, d40, d43, d44, d45, d46, d47, d50, d51, d52, d65, d68, d69, d70, d71, d72, d73, d76, d79, d82, d85⟩ := t16
  refine uA X0 hx hby d0 rfl 1 ?_
  obtain ⟨a1, T1, h1, k11, X1, e1, E1, hS1, hk1, hZ, hown, CS1, Li1, st1⟩ := ldcOH X0 hx hZ hown (ow hw 66 rfl) (fun d hd => hw d (own_atoms d hd)) e0 hS0 hk0 hEL CR0.1 (g := (mkF mG 1 #[oa a, .unset, .unset] [(.ref a)])) rfl (hb hby d1) (n := 12) (by decide) (by decide) (by decide) (by decide)
  have CR1 := CR0.trans CS1
  have O1 := O0.ext E1
  have K1 := K0.ext E1
  obtain ⟨LL2, X1, N0⟩ : ∃ LL, Stand pG l eG _ _ mG _ belowG methG cG T1 LL 2 16 ∧ Fr n0 LL := ⟨_, X1, N0⟩
  refine ob T1 (mkF mG 3 #[oa a, .unset, .unset] [(.ref a1), (.ref a)]) (fun _ kk => st1 _ kk) ?_
  refine oCp X1 hx hby hZ hown (ow hw 67 rfl) (ow hw 68 rfl) (ow hw 70 rfl) (ow hw 69 rfl) (rm_rn2 a a1 ⟨hw, O1, hS⟩ ) e1 N0 hml [(.ref a), (.ref a1)] [] pd_23 d3 6 ?_
  intro T3 L3 X3 e3 N3
  refine ob T3 (mkF mG 7 #[oa a, .unset, .unset] []) (fun _ kk => XS.pop X3.here hx rfl (hb hby d6) rfl rfl kk) ?_
  refine uA X3 hx hby d7 rfl 8 (uC X3 hx hby d8 0 9 ?_)
  refine oCp X3 hx hby hZ hown (ow hw 71 rfl) (ow hw 72 rfl) (ow hw 73 rfl) (ow hw 64 rfl) (rm_seA0 a t kb nn c0 c1 c2 c3 c4 c5 c6 c7 (4 : Int32) ⟨hw, O1, hS⟩ (E_a.ext E1) (F_c.ext E1) (F_v.ext E1) (V_t.ext E1) r0 r1 r2 r3 r4 r5 r6 r7 hn hv) e3 N3 hml [(.ref a), (.int (0 : Int32))] [] pd_24 d9 12 ?_
  intro T4 L4 X4 e4 N4
  refine uT X4 hx hby d12 #[oa a, oi (4 : Int32), .unset] 13 (uI X4 hx hby d13 rfl 14 (uY X4 hx hby d14 ((if0 _ _).trans (flt (by decide : ¬ ((4 : Int32) < (0 : Int32)))).2.1) 27 (uI X4 hx hby d27 rfl 28 (uT X4 hx hby d28 #[oa a, oi (4 : Int32), oi (4 : Int32)] 29 (uA X4 hx hby d29 rfl 30 (uC X4 hx hby d30 0 31 (uI X4 hx hby d31 rfl 32 ?_)))))))
  obtain ⟨cq5, kq5, q5a, q5b, q5c⟩ := isOf hZ e4 (E_a.ext E1)
  obtain ⟨_, _, ⟨T5, L5, k5, n5⟩, -, X5, ⟨Lc5, hQ5, l5, y5, z5⟩, st5⟩ := X4.virtualBack hx (y := (⟨"java/lang/String", "substring", "(II)Ljava/lang/String;"⟩ : MethodName)) (z := (⟨"java/lang/String", "substring", "(II)Ljava/lang/String;"⟩ : MethodName)) hown (mvT hZ (ow hw 109 rfl)) (mvT hZ (ow hw 110 rfl)) (notFace_of_selects (args := #[]) (mvT hZ (ow hw 112 rfl))) (mvT hZ (ow hw 112 rfl)) (mvT hZ (ow hw 111 rfl)) (by decide) (backOf (W := 0) (rm_sub a t kb nn (4 : Int32) c0 c1 c2 c3 c4 c5 c6 c7 ⟨hw, O1, hS⟩ (E_a.ext E1) (F_c.ext E1) (F_v.ext E1) (V_t.ext E1) (by decide) hl1) hZ (ow hw 113 rfl) (ow hw 8 rfl) (by decide) (by decide)) q5a q5c (g := (mkF mG 32 #[oa a, oi (4 : Int32), oi (4 : Int32)] [(.int (4 : Int32)), (.int (0 : Int32)), (.ref a)])) rfl (by rw [hml]; rfl) (Steps.refl _) (argsL := [(.int (0 : Int32)), (.int (4 : Int32))]) (rest := []) (lenOf pd_25 rfl) rfl (by show 2 * 0 + _ ≤ _; exact Nat.le_of_eq rfl) (hb hby d32) (fun _ _ => ⟨rfl, e4, (by decide : 2 + 2 ≤ _), (by decide : 16 + 12 ≤ _)⟩)
  dsimp only [Pt.U, Pt.locs, Pt.cells, Pt.slots] at X5 l5 y5 z5 st5 hQ5
  subst l5 y5 z5
  obtain ⟨h5, e5⟩ : ∃ h, T5.heap = h := ⟨_, rfl⟩
  rw [e5] at hQ5
  obtain ⟨b0_5, b1_5, kq2_5, rfl, N5q, K5q, O5, n_b0_5, n_b1_5, z_b0_5, z_b1_5, F5_0, F5_1, F5_2, F5_3⟩ := hQ5
  have N5 := Fr.app N4 N5q
  have sz_b0_5 : h0.size ≤ b0_5 := Nat.le_trans K1.1 z_b0_5
  have ne_a_b0_5 : a ≠ b0_5 := Nat.ne_of_lt (Nat.lt_of_lt_of_le (E_a.ext E1).lt z_b0_5)
  have ne_t_b0_5 : t ≠ b0_5 := Nat.ne_of_lt (Nat.lt_of_lt_of_le (V_t.ext E1).lt z_b0_5)
  have sz_b1_5 : h0.size ≤ b1_5 := Nat.le_trans K1.1 z_b1_5
  have ne_a_b1_5 : a ≠ b1_5 := Nat.ne_of_lt (Nat.lt_of_lt_of_le (E_a.ext E1).lt z_b1_5)
  have ne_t_b1_5 : t ≠ b1_5 := Nat.ne_of_lt (Nat.lt_of_lt_of_le (V_t.ext E1).lt z_b1_5)
  have K5 := K1.trans K5q all0
  have CS5 : CHr Z oEL T1.vm h1 T1.vm h5 := CHr.keep K5q sf0 CR1.1
  have CR5 := CR1.trans CS5
  have sf_b0_5 : Safe Z oEL T1.vm h5 b0_5 := Safe.keep K5q sf0 CR1.1 (Safe.new z_b0_5)
  have sf_b1_5 : Safe Z oEL T1.vm h5 b1_5 := Safe.keep K5q sf0 CR1.1 (Safe.new z_b1_5)
  obtain ⟨LL6, X5, N5⟩ : ∃ LL, Stand pG l eG _ _ mG _ belowG methG cG T5 LL 4 28 ∧ Fr n0 LL := ⟨_, X5, N5⟩
  refine ob T5 (mkF mG 35 #[oa a, oi (4 : Int32), oi (4 : Int32)] [(.ref b0_5)]) (fun _ kk => st5.trans kk) ?_
  obtain ⟨a7, T7, h7, k17, t7, kb7, X7, e7, E7, hS7, hk7, hZ, hown, A7, C7, V7, B7, la7, lt7, CS7, Li7, ns7, st7⟩ := ldcCH X5 hx hZ hown (ow hw 146 rfl) (fun d hd => hw d (own_atoms d hd)) e5 hS1 (Nat.le_trans hk1 CS5.2.1) hEL (List.mem_of_getElem? (i := 1) rfl) CR5.1 (vs := [(.int (106 : Int32)), (.int (100 : Int32)), (.int (98 : Int32)), (.int (99 : Int32))]) (z := (4 : Int32)) ⟨by decide, by first | rfl | decide +kernel⟩ (by decide) rfl (g := (mkF mG 35 #[oa a, oi (4 : Int32), oi (4 : Int32)] [(.ref b0_5)])) rfl (hb hby d35) (n := 16) (by decide) (by decide) (by decide) (by decide)
  have CR7 := CR5.trans CS7
  have O7 := O5.ext E7
  have K7 := K5.ext E7
  obtain ⟨LL8, X7, N5⟩ : ∃ LL, Stand pG l eG _ _ mG _ belowG methG cG T7 LL 6 48 ∧ Fr n0 LL := ⟨_, X7, N5⟩
  have nl7_b0_5 := ns7 b0_5 (CHr.safe CS7 F5_0.lt sf_b0_5)
  have nl7_b1_5 := ns7 b1_5 (CHr.safe CS7 F5_3.lt sf_b1_5)
  refine ob T7 (mkF mG 37 #[oa a, oi (4 : Int32), oi (4 : Int32)] [(.ref a7), (.ref b0_5)]) (fun _ kk => st7 _ kk) ?_
  refine oVp X7 hx hby hZ hown (ow hw 147 rfl) (ow hw 148 rfl) (ow hw 150 rfl) (ow hw 149 rfl) (ow hw 151 rfl) (ow hw 8 rfl) (rm_eq4 b0_5 a7 b1_5 kq2_5 t7 kb7 c0 c1 c2 c3 c4 c5 c6 c7 ⟨hw, O7, hS⟩ (F5_0.ext E7) (F5_2.ext E7) (F5_1.ext E7) (F5_3.ext E7) A7 C7 V7 B7 nl7_b0_5.1) e7 (F5_0.ext E7) N5 hml [(.ref a7)] [] pd_26 d37 40 ?_
  intro T9 L9 X9 e9 N9
  refine uY X9 hx hby d40 ((if0 _ _).trans (teq hj).1) 65 ?_
  obtain ⟨T10, h10, X10, e10, E10, A10, D10, _x10, st10⟩ := newO X9 hx hZ hown (ow hw 152 rfl) (ow hw 153 rfl) (ow hw 64 rfl) e9 (g := (mkF mG 65 #[oa a, oi (4 : Int32), oi (4 : Int32)] [])) rfl (hb hby d65) (by decide) (by decide)
  obtain ⟨b10, g10⟩ : ∃ z, z = h7.size := ⟨_, rfl⟩
  rw [← g10] at A10 D10 st10
  have n_b10 : n0 ≤ b10 := Nat.le_trans (on0 O7) (Nat.le_of_eq g10.symm)
  have sz_b10 : h0.size ≤ b10 := Nat.le_trans K7.1 (Nat.le_of_eq g10.symm)
  have ne_a_b10 : a ≠ b10 := Nat.ne_of_lt (Nat.lt_of_lt_of_le (((E_a.ext E1).keep K5q).ext E7).lt (Nat.le_of_eq g10.symm))
  have ne_t_b10 : t ≠ b10 := Nat.ne_of_lt (Nat.lt_of_lt_of_le (((V_t.ext E1).keep K5q nin0).ext E7).lt (Nat.le_of_eq g10.symm))
  have ne_b0_5_b10 : b0_5 ≠ b10 := Nat.ne_of_lt (Nat.lt_of_lt_of_le (F5_0.ext E7).lt (Nat.le_of_eq g10.symm))
  have ne_b1_5_b10 : b1_5 ≠ b10 := Nat.ne_of_lt (Nat.lt_of_lt_of_le (F5_3.ext E7).lt (Nat.le_of_eq g10.symm))
  have ne_a7_b10 : a7 ≠ b10 := Nat.ne_of_lt (Nat.lt_of_lt_of_le A7.lt (Nat.le_of_eq g10.symm))
  have ne_t7_b10 : t7 ≠ b10 := Nat.ne_of_lt (Nat.lt_of_lt_of_le B7.lt (Nat.le_of_eq g10.symm))
  have CS10 : CHr Z oEL T7.vm h7 T7.vm h10 := CHr.ext E10 CR7.1
  have CR10 := CR7.trans CS10
  have O10 := O7.ext E10
  have K10 := K7.ext E10
  obtain ⟨LL11, X10, N9⟩ : ∃ LL, Stand pG l eG _ _ mG _ belowG methG cG T10 LL 7 50 ∧ Fr n0 LL := ⟨_, X10, N9⟩
  have sf_b10 : Safe Z oEL T7.vm h10 b10 := Safe.ext E10 CR7.1 (Safe.new (Nat.le_of_eq g10.symm))
  have F10_198 : Fld Z h10 b10 sU "url" "Ljava/lang/String;" .null := D10 (Or.inr (ow hw 198 rfl)) (ty := (.object "java/lang/String")) (by decide)
  have F10_200 : Fld Z h10 b10 sU "scheme" "Ljava/lang/String;" .null := D10 (Or.inr (ow hw 200 rfl)) (ty := (.object "java/lang/String")) (by decide)
  refine ob T10 (mkF mG 68 #[oa a, oi (4 : Int32), oi (4 : Int32)] [(.ref b10)]) (fun _ kk => st10 _ kk) ?_
  refine uD X10 hx hby d68 69 (uA X10 hx hby d69 rfl 70 (uA X10 hx hby d70 rfl 71 (uC X10 hx hby d71 0 72 (uI X10 hx hby d72 rfl 73 ?_))))
  obtain ⟨cq12, kq12, q12a, q12b, q12c⟩ := isOf hZ e10 ((((E_a.ext E1).keep K5q).ext E7).ext E10)
  obtain ⟨_, _, ⟨T12, L12, k12, n12⟩, -, X12, ⟨Lc12, hQ12, l12, y12, z12⟩, st12⟩ := X10.virtualBack hx (y := (⟨"java/lang/String", "substring", "(II)Ljava/lang/String;"⟩ : MethodName)) (z := (⟨"java/lang/String", "substring", "(II)Ljava/lang/String;"⟩ : MethodName)) hown (mvT hZ (ow hw 109 rfl)) (mvT hZ (ow hw 110 rfl)) (notFace_of_selects (args := #[]) (mvT hZ (ow hw 112 rfl))) (mvT hZ (ow hw 112 rfl)) (mvT hZ (ow hw 111 rfl)) (by decide) (backOf (W := 3) (rm_sub a t kb nn (4 : Int32) c0 c1 c2 c3 c4 c5 c6 c7 ⟨hw, O10, hS⟩ ((((E_a.ext E1).keep K5q).ext E7).ext E10) ((((F_c.ext E1).keep K5q nin0).ext E7).ext E10) ((((F_v.ext E1).keep K5q nin0).ext E7).ext E10) ((((V_t.ext E1).keep K5q nin0).ext E7).ext E10) (by decide) hl1) hZ (ow hw 113 rfl) (ow hw 8 rfl) (by decide) (by decide)) q12a q12c (g := (mkF mG 73 #[oa a, oi (4 : Int32), oi (4 : Int32)] [(.int (4 : Int32)), (.int (0 : Int32)), (.ref a), (.ref a), (.ref b10), (.ref b10)])) rfl (by rw [hml]; rfl) (Steps.refl _) (argsL := [(.int (0 : Int32)), (.int (4 : Int32))]) (rest := [(.ref a), (.ref b10), (.ref b10)]) (lenOf pd_25 rfl) rfl (by show 2 * 0 + _ ≤ _; exact Nat.le_of_eq rfl) (hb hby d73) (fun _ _ => ⟨rfl, e10, (by decide : 7 + 2 ≤ _), (by decide : 50 + 12 ≤ _)⟩)
  dsimp only [Pt.U, Pt.locs, Pt.cells, Pt.slots] at X12 l12 y12 z12 st12 hQ12
  subst l12 y12 z12
  obtain ⟨h12, e12⟩ : ∃ h, T12.heap = h := ⟨_, rfl⟩
  rw [e12] at hQ12
  obtain ⟨b0_12, b1_12, kq2_12, rfl, N12q, K12q, O12, n_b0_12, n_b1_12, z_b0_12, z_b1_12, F12_0, F12_1, F12_2, F12_3⟩ := hQ12
  have N12 := Fr.app N9 N12q
  have sz_b0_12 : h0.size ≤ b0_12 := Nat.le_trans K10.1 z_b0_12
  have ne_a_b0_12 : a ≠ b0_12 := Nat.ne_of_lt (Nat.lt_of_lt_of_le ((((E_a.ext E1).keep K5q).ext E7).ext E10).lt z_b0_12)
  have ne_t_b0_12 : t ≠ b0_12 := Nat.ne_of_lt (Nat.lt_of_lt_of_le ((((V_t.ext E1).keep K5q nin0).ext E7).ext E10).lt z_b0_12)
  have ne_b0_5_b0_12 : b0_5 ≠ b0_12 := Nat.ne_of_lt (Nat.lt_of_lt_of_le ((F5_0.ext E7).ext E10).lt z_b0_12)
  have ne_b1_5_b0_12 : b1_5 ≠ b0_12 := Nat.ne_of_lt (Nat.lt_of_lt_of_le ((F5_3.ext E7).ext E10).lt z_b0_12)
  have ne_a7_b0_12 : a7 ≠ b0_12 := Nat.ne_of_lt (Nat.lt_of_lt_of_le (A7.ext E10).lt z_b0_12)
  have ne_t7_b0_12 : t7 ≠ b0_12 := Nat.ne_of_lt (Nat.lt_of_lt_of_le (B7.ext E10).lt z_b0_12)
  have ne_b10_b0_12 : b10 ≠ b0_12 := Nat.ne_of_lt (Nat.lt_of_lt_of_le A10.lt z_b0_12)
  have sz_b1_12 : h0.size ≤ b1_12 := Nat.le_trans K10.1 z_b1_12
  have ne_a_b1_12 : a ≠ b1_12 := Nat.ne_of_lt (Nat.lt_of_lt_of_le ((((E_a.ext E1).keep K5q).ext E7).ext E10).lt z_b1_12)
  have ne_t_b1_12 : t ≠ b1_12 := Nat.ne_of_lt (Nat.lt_of_lt_of_le ((((V_t.ext E1).keep K5q nin0).ext E7).ext E10).lt z_b1_12)
  have ne_b0_5_b1_12 : b0_5 ≠ b1_12 := Nat.ne_of_lt (Nat.lt_of_lt_of_le ((F5_0.ext E7).ext E10).lt z_b1_12)
  have ne_b1_5_b1_12 : b1_5 ≠ b1_12 := Nat.ne_of_lt (Nat.lt_of_lt_of_le ((F5_3.ext E7).ext E10).lt z_b1_12)
  have ne_a7_b1_12 : a7 ≠ b1_12 := Nat.ne_of_lt (Nat.lt_of_lt_of_le (A7.ext E10).lt z_b1_12)
  have ne_t7_b1_12 : t7 ≠ b1_12 := Nat.ne_of_lt (Nat.lt_of_lt_of_le (B7.ext E10).lt z_b1_12)
  have ne_b10_b1_12 : b10 ≠ b1_12 := Nat.ne_of_lt (Nat.lt_of_lt_of_le A10.lt z_b1_12)
  have K12 := K10.trans K12q all0
  have CS12 : CHr Z oEL T7.vm h10 T7.vm h12 := CHr.keep K12q sf0 CR10.1
  have CR12 := CR10.trans CS12
  have sf_b0_12 : Safe Z oEL T7.vm h12 b0_12 := Safe.keep K12q sf0 CR10.1 (Safe.new z_b0_12)
  have sf_b1_12 : Safe Z oEL T7.vm h12 b1_12 := Safe.keep K12q sf0 CR10.1 (Safe.new z_b1_12)
  obtain ⟨LL13, X12, N12⟩ : ∃ LL, Stand pG l eG _ _ mG _ belowG methG cG T12 LL 9 62 ∧ Fr n0 LL := ⟨_, X12, N12⟩
  refine ob T12 (mkF mG 76 #[oa a, oi (4 : Int32), oi (4 : Int32)] [(.ref b0_12), (.ref a), (.ref b10), (.ref b10)]) (fun _ kk => st12.trans kk) ?_
  refine oGs X12 hx hby hZ hown (ow hw 154 rfl) e12 (S_wR.ext O12.2) d76 79 ?_
  intro T14 X14 e14
  obtain ⟨cq15, kq15, q15a, q15b, q15c⟩ := isOf hZ e14 F12_0
  obtain ⟨_, _, ⟨T15, L15, k15, n15⟩, -, X15, hS15, gs15, ⟨Lc15, hQ15, l15, y15, z15, CS15⟩, st15⟩ := X14.virtualBackS hx (y := (⟨"java/lang/String", "toLowerCase", "(Ljava/util/Locale;)Ljava/lang/String;"⟩ : MethodName)) (z := (⟨"java/lang/String", "toLowerCase", "(Ljava/util/Locale;)Ljava/lang/String;"⟩ : MethodName)) hown (mvT hZ (ow hw 156 rfl)) (mvT hZ (ow hw 157 rfl)) (notFace_of_selects (args := #[]) (mvT hZ (ow hw 159 rfl))) (mvT hZ (ow hw 159 rfl)) (mvT hZ (ow hw 158 rfl)) (by decide) (backOfSH (W := 3) (rm_tlc b0_12 b1_12 kq2_12 (4 : Int32) c0 c1 c2 c3 c4 c5 c6 c7 ⟨hw, O12, hS⟩ F12_0 F12_2 F12_1 F12_3 r0 r1 r2 r3 r4 r5 r6 r7 (by decide)) hZ (ow hw 160 rfl) (ow hw 8 rfl) (by decide) (by decide) hEL CR12.1) q15a q15c (g := (mkF mG 79 #[oa a, oi (4 : Int32), oi (4 : Int32)] [(.ref wR), (.ref b0_12), (.ref a), (.ref b10), (.ref b10)])) rfl (by rw [hml]; rfl) (Steps.refl _) (argsL := [(.ref wR)]) (rest := [(.ref a), (.ref b10), (.ref b10)]) (lenOf pd_27 rfl) rfl (by show 2 * 0 + _ ≤ _; exact Nat.le_of_eq rfl) (hb hby d79) (fun _ _ => ⟨rfl, e14, (by decide : 9 + 8 ≤ _), (by decide : 62 + 60 ≤ _)⟩)
  dsimp only [Pt.U, Pt.locs, Pt.cells, Pt.slots] at X15 l15 y15 z15 st15 hQ15 hS15 gs15 CS15
  subst l15 y15 z15
  obtain ⟨X15, hS15, hZ, hown⟩ := rebS hS7 (by rw [e14]; exact (Nat.le_trans (Nat.le_trans hk7 CS10.2.1) CS12.2.1)) X15 hS15 gs15 hZ hown
  obtain ⟨h15, e15⟩ : ∃ h, T15.heap = h := ⟨_, rfl⟩
  rw [e15] at hQ15
  obtain ⟨r0_15, r1_15, kq0_15, rfl, N15q, K15q, O15, F15_0, F15_1, F15_2, F15_3⟩ := hQ15
  have N15 := Fr.app N12 N15q
  have K15 := K12.trans K15q all0
  rw [e15] at CS15 hS15
  have hk15 : h15.size ≤ h15.size := Nat.le_refl _
  have CR15 := CR12.trans CS15
  obtain ⟨LL16, X15, N15⟩ : ∃ LL, Stand pG l eG _ _ mG _ belowG methG cG T15 LL 17 122 ∧ Fr n0 LL := ⟨_, X15, N15⟩
  refine ob T15 (mkF mG 82 #[oa a, oi (4 : Int32), oi (4 : Int32)] [(.ref r0_15), (.ref a), (.ref b10), (.ref b10)]) (fun _ kk => st15.trans kk) ?_
  have nq17a : r0_15 ≠ b10 := Ne.symm (ne_exa ((A10.keep K12q).keep K15q) F15_0 (by decide))
  have nq17b : r1_15 ≠ b10 := Ne.symm (((A10.keep K12q).keep K15q).neArv F15_3 (ow hw 153 rfl))
  obtain ⟨_, _, ⟨T18, L18, k18, n18⟩, -, X18, ⟨Lc18, hQ18, l18, y18, z18⟩, st18⟩ := X15.specialBack hx (y := (⟨sU, "<init>", "(Ljava/lang/String;Ljava/lang/String;)V"⟩ : MethodName)) rfl hown (mvT hZ (ow hw 193 rfl)) (mvT hZ (ow hw 194 rfl)) (mvT hZ (ow hw 195 rfl)) (by decide) (backOf (W := 1) (rm_sui b10 a r0_15 .null .null ⟨hw, O15, hS⟩ ((A10.keep K12q).keep K15q) ((F10_198.keep K12q nin0).keep K15q nin0) ((F10_200.keep K12q nin0).keep K15q nin0) n_b10) hZ (ow hw 195 rfl) (ow hw 64 rfl) (by decide) (by decide)) (g := (mkF mG 82 #[oa a, oi (4 : Int32), oi (4 : Int32)] [(.ref r0_15), (.ref a), (.ref b10), (.ref b10)])) rfl (by rw [hml]; rfl) (Steps.refl _) (a := b10) (argsL := [(.ref a), (.ref r0_15)]) (rest := [(.ref b10)]) (lenOf pd_28 rfl) rfl (by show 2 * 0 + _ ≤ _; exact Nat.le_of_eq rfl) (hb hby d82) (fun _ _ => ⟨rfl, e15, (by decide : 17 + 0 ≤ _), (by decide : 122 + 0 ≤ _)⟩)
  dsimp only [Pt.U, Pt.locs, Pt.cells, Pt.slots] at X18 l18 y18 z18 st18 hQ18
  subst l18 y18 z18
  obtain ⟨h18, e18⟩ : ∃ h, T18.heap = h := ⟨_, rfl⟩
  rw [e18] at hQ18
  obtain ⟨rfl, N18q, K18q, O18, F18_0, F18_1⟩ := hQ18
  have N18 := Fr.app N15 N18q
  have K18 := K15.trans K18q (allS (Or.inr sz_b10) all0)
  have CS18 : CHr Z oEL T15.vm h15 T15.vm h18 := CHr.keep K18q (sfS (Safe.exa hZ.alike ((A10.keep K12q).keep K15q) (by decide) (by decide)) sf0) CR15.1
  have CR18 := CR15.trans CS18
  obtain ⟨LL19, X18, N18⟩ : ∃ LL, Stand pG l eG _ _ mG _ belowG methG cG T18 LL 17 122 ∧ Fr n0 LL := ⟨_, X18, N18⟩
  refine ob T18 (mkF mG 85 #[oa a, oi (4 : Int32), oi (4 : Int32)] [(.ref b10)]) (fun _ kk => st18.trans kk) ?_
  obtain ⟨fs, hr, hrun, hended, hW, hsame⟩ := X18.leave (v := some (.ref b10)) (fun h => by rw [hret] at h; cases h) hlk
  obtain ⟨w1, w2, w3⟩ := State.Since.ended (U := T18.setFrames fs) hS15 hW (by show _ ≤ T18.heap.size; rw [e18]; exact (Nat.le_trans hk15 CS18.2.1)) hsame
  have CF := CR18.trans (CHv.at X18 hZ hEL CR18.1)
  refine oout (oretA X18 hx hret rfl rfl (hb hby d85) hr) hrun hended ⟨_, _, rfl, ?_, ?_, ⟨_, rfl⟩, w1, w2, w3.mono (by decide) (by decide)⟩
  · show Q_rm_parY Z wR wI zc vf wB wL wV cV a t kb nn c0 c1 c2 c3 c4 c5 c6 c7 h0 n0 _ T18.heap _
    rw [e18]
    exact ⟨b10, r0_15, r1_15, kq0_15, rfl, N18, K18, O18, n_b10, sz_b10, (((A10.keep K12q).keep K15q).keep K18q), F18_0, F18_1, (F15_0.keep K18q), (F15_1.keep K18q (ninS nq17a nin0)), (F15_2.keep K18q (ninS nq17a nin0)), (F15_3.keep K18q (ninS nq17b nin0))⟩
  · show CHr Z oEL sG.vm sG.heap T18.vm T18.heap
    rw [hh, e18]
    exact CF

def Q_rm_parJ (Z : State) (wR wI : Addr) (zc : Int32) (vf : Value) (wB wL wV : Addr) (cV : Cell) (a t : Addr) (kb : ClassId) (nn c0 c1 c2 c3 c4 c5 c6 c7 e2 : Int32) (h0 : Heap) (n0 : Nat) (v : Option Value) (h : Heap) (L : List Loc) : Prop := ∃ (b0 r0 r1 : Addr) (kq0 : ClassId), v = some (.ref b0) ∧ Fr n0 L ∧ Keep h0 h [] ∧ Old Z n0 h ∧ n0 ≤ b0 ∧ h0.size ≤ b0 ∧ Exa Z h b0 sU ∧ Fld Z h b0 sU "url" "Ljava/lang/String;" (.ref a) ∧ Fld Z h b0 sU "scheme" "Ljava/lang/String;" (.ref r0) ∧ Exa Z h r0 "java/lang/String" ∧ Fld Z h r0 "java/lang/String" "coder" "B" (.int (0 : Int32)) ∧ Fld Z h r0 "java/lang/String" "value" "[B" (.ref r1) ∧ Arv Z h r1 kq0 .byte e2 (oT8 c0 c1 c2 c3 c4 c5 c6 c7) (.int (0 : Int32))
set_option maxHeartbeats 40000000 in
theorem rm_parJ (a t : Addr) (kb : ClassId) (nn c0 c1 c2 c3 c4 c5 c6 c7 e2 : Int32) (H : oH Z a0 n0 h0 wR wI zc vf wB wL wV cV) (E_a : Exa Z h0 a "java/lang/String") (F_c : Fld Z h0 a "java/lang/String" "coder" "B" (.int (0 : Int32))) (F_v : Fld Z h0 a "java/lang/String" "value" "[B" (.ref t)) (V_t : Arv Z h0 t kb .byte nn (oB8 c0 c1 c2 c3 c4 c5 c6 c7) (.int (0 : Int32))) (r0 : oRg c0) (r1 : oRg c1) (r2 : oRg c2) (r3 : oRg c3) (r4 : oRg c4) (r5 : oRg c5) (r6 : oRg c6) (r7 : oRg c7) (hn : oN8 nn) (hv : (oSE (0 : Int32) nn c0 [((1 : Int32), c1), ((2 : Int32), c2), ((3 : Int32), c3), ((4 : Int32), c4), ((5 : Int32), c5), ((6 : Int32), c6), ((7 : Int32), c7)]) = (4 : Int32)) (hl1 : (4 : Int32) < nn) (hj : ¬ oJd c0 c1 c2 c3 = (0 : Int32)) (hv2 : (oSE (5 : Int32) nn c5 [((6 : Int32), c6), ((7 : Int32), c7)]) = e2) (q2 : oE7 e2) (hl2 : e2 < nn) : oMc l Z (⟨sU, "parse", "(Ljava/lang/String;)Lcom/example/lease_over_store/leaseoverstore/lease/StoreUrl;"⟩ : MethodName) prog_24_method_2_code 3 (some (.object sU)) (oRm 6 20 122 160) #[(.ref a)] h0 (Q_rm_parJ Z wR wI zc vf wB wL wV cV a t kb nn c0 c1 c2 c3 c4 c5 c6 c7 e2 h0 n0) := by
  obtain ⟨hw, O0, hS⟩ := H
  refine oBodyC (plainFor_of_name pn_4) #[oa a, .unset, .unset] (fun _ => by first | (simp [entryFrame, mkF, argsToLocals, Value.category]; done) | rfl) ?_
  intro pG eG sG mG belowG methG cG s₁ hx hby hml hown hnm hret hlk X0 hh e0 hZ hC
  have hS0 : sG.Since sG.vm h0.size := (State.WarmedH.refl sG).since _
  have hk0 : h0.size ≤ h0.size := Nat.le_refl _
  have CR0 : CHr Z oEL sG.vm h0 sG.vm h0 := CHr.refl hC
  have hEL : EW Z a0 oEL := own_EW hw
  have N0 := Fr.nil n0
  have K0 := Keep.refl h0 []
  obtain ⟨S_wR, -, -, -, -, -, -, -, -, -, -, -, -, -⟩ := id hS
  obtain ⟨d0, d1, d3, d6, d7, d8, d9, d12, d13, d14, d27, d28, d29, d30, d31, d32, d35, d37, d40, d43, d44, d45, d46, d47, d50, d51, d52, d65, d68, d69, d70, d71, d72, d73, d76, d79, d82, d85⟩ := t16
  refine uA X0 hx hby d0 rfl 1 ?_
  obtain ⟨a1, T1, h1, k11, X1, e1, E1, hS1, hk1, hZ, hown, CS1, Li1, st1⟩ := ldcOH X0 hx hZ hown (ow hw 66 rfl) (fun d hd => hw d (own_atoms d hd)) e0 hS0 hk0 hEL CR0.1 (g := (mkF mG 1 #[oa a, .unset, .unset] [(.ref a)])) rfl (hb hby d1) (n := 12) (by decide) (by decide) (by decide) (by decide)
  have CR1 := CR0.trans CS1
  have O1 := O0.ext E1
  have K1 := K0.ext E1
  obtain ⟨LL2, X1, N0⟩ : ∃ LL, Stand pG l eG _ _ mG _ belowG methG cG T1 LL 2 16 ∧ Fr n0 LL := ⟨_, X1, N0⟩
  refine ob T1 (mkF mG 3 #[oa a, .unset, .unset] [(.ref a1), (.ref a)]) (fun _ kk => st1 _ kk) ?_
  refine oCp X1 hx hby hZ hown (ow hw 67 rfl) (ow hw 68 rfl) (ow hw 70 rfl) (ow hw 69 rfl) (rm_rn2 a a1 ⟨hw, O1, hS⟩ ) e1 N0 hml [(.ref a), (.ref a1)] [] pd_23 d3 6 ?_
  intro T3 L3 X3 e3 N3
  refine ob T3 (mkF mG 7 #[oa a, .unset, .unset] []) (fun _ kk => XS.pop X3.here hx rfl (hb hby d6) rfl rfl kk) ?_
  refine uA X3 hx hby d7 rfl 8 (uC X3 hx hby d8 0 9 ?_)
  refine oCp X3 hx hby hZ hown (ow hw 71 rfl) (ow hw 72 rfl) (ow hw 73 rfl) (ow hw 64 rfl) (rm_seA0 a t kb nn c0 c1 c2 c3 c4 c5 c6 c7 (4 : Int32) ⟨hw, O1, hS⟩ (E_a.ext E1) (F_c.ext E1) (F_v.ext E1) (V_t.ext E1) r0 r1 r2 r3 r4 r5 r6 r7 hn hv) e3 N3 hml [(.ref a), (.int (0 : Int32))] [] pd_24 d9 12 ?_
  intro T4 L4 X4 e4 N4
  refine uT X4 hx hby d12 #[oa a, oi (4 : Int32), .unset] 13 (uI X4 hx hby d13 rfl 14 (uY X4 hx hby d14 ((if0 _ _).trans (flt (by decide : ¬ ((4 : Int32) < (0 : Int32)))).2.1) 27 (uI X4 hx hby d27 rfl 28 (uT X4 hx hby d28 #[oa a, oi (4 : Int32), oi (4 : Int32)] 29 (uA X4 hx hby d29 rfl 30 (uC X4 hx hby d30 0 31 (uI X4 hx hby d31 rfl 32 ?_)))))))
  obtain ⟨cq5, kq5, q5a, q5b, q5c⟩ := isOf hZ e4 (E_a.ext E1)
  obtain ⟨_, _, ⟨T5, L5, k5, n5⟩, -, X5, ⟨Lc5, hQ5, l5, y5, z5⟩, st5⟩ := X4.virtualBack hx (y := (⟨"java/lang/String", "substring", "(II)Ljava/lang/String;"⟩ : MethodName)) (z := (⟨"java/lang/String", "substring", "(II)Ljava/lang/String;"⟩ : MethodName)) hown (mvT hZ (ow hw 109 rfl)) (mvT hZ (ow hw 110 rfl)) (notFace_of_selects (args := #[]) (mvT hZ (ow hw 112 rfl))) (mvT hZ (ow hw 112 rfl)) (mvT hZ (ow hw 111 rfl)) (by decide) (backOf (W := 0) (rm_sub a t kb nn (4 : Int32) c0 c1 c2 c3 c4 c5 c6 c7 ⟨hw, O1, hS⟩ (E_a.ext E1) (F_c.ext E1) (F_v.ext E1) (V_t.ext E1) (by decide) hl1) hZ (ow hw 113 rfl) (ow hw 8 rfl) (by decide) (by decide)) q5a q5c (g := (mkF mG 32 #[oa a, oi (4 : Int32), oi (4 : Int32)] [(.int (4 : Int32)), (.int (0 : Int32)), (.ref a)])) rfl (by rw [hml]; rfl) (Steps.refl _) (argsL := [(.int (0 : Int32)), (.int (4 : Int32))]) (rest := []) (lenOf pd_25 rfl) rfl (by show 2 * 0 + _ ≤ _; exact Nat.le_of_eq rfl) (hb hby d32) (fun _ _ => ⟨rfl, e4, (by decide : 2 + 2 ≤ _), (by decide : 16 + 12 ≤ _)⟩)
  dsimp only [Pt.U, Pt.locs, Pt.cells, Pt.slots] at X5 l5 y5 z5 st5 hQ5
  subst l5 y5 z5
  obtain ⟨h5, e5⟩ : ∃ h, T5.heap = h := ⟨_, rfl⟩
  rw [e5] at hQ5
  obtain ⟨b0_5, b1_5, kq2_5, rfl, N5q, K5q, O5, n_b0_5, n_b1_5, z_b0_5, z_b1_5, F5_0, F5_1, F5_2, F5_3⟩ := hQ5
  have N5 := Fr.app N4 N5q
  have sz_b0_5 : h0.size ≤ b0_5 := Nat.le_trans K1.1 z_b0_5
  have ne_a_b0_5 : a ≠ b0_5 := Nat.ne_of_lt (Nat.lt_of_lt_of_le (E_a.ext E1).lt z_b0_5)
  have ne_t_b0_5 : t ≠ b0_5 := Nat.ne_of_lt (Nat.lt_of_lt_of_le (V_t.ext E1).lt z_b0_5)
  have sz_b1_5 : h0.size ≤ b1_5 := Nat.le_trans K1.1 z_b1_5
  have ne_a_b1_5 : a ≠ b1_5 := Nat.ne_of_lt (Nat.lt_of_lt_of_le (E_a.ext E1).lt z_b1_5)
  have ne_t_b1_5 : t ≠ b1_5 := Nat.ne_of_lt (Nat.lt_of_lt_of_le (V_t.ext E1).lt z_b1_5)
  have K5 := K1.trans K5q all0
  have CS5 : CHr Z oEL T1.vm h1 T1.vm h5 := CHr.keep K5q sf0 CR1.1
  have CR5 := CR1.trans CS5
  have sf_b0_5 : Safe Z oEL T1.vm h5 b0_5 := Safe.keep K5q sf0 CR1.1 (Safe.new z_b0_5)
  have sf_b1_5 : Safe Z oEL T1.vm h5 b1_5 := Safe.keep K5q sf0 CR1.1 (Safe.new z_b1_5)
  obtain ⟨LL6, X5, N5⟩ : ∃ LL, Stand pG l eG _ _ mG _ belowG methG cG T5 LL 4 28 ∧ Fr n0 LL := ⟨_, X5, N5⟩
  refine ob T5 (mkF mG 35 #[oa a, oi (4 : Int32), oi (4 : Int32)] [(.ref b0_5)]) (fun _ kk => st5.trans kk) ?_
  obtain ⟨a7, T7, h7, k17, t7, kb7, X7, e7, E7, hS7, hk7, hZ, hown, A7, C7, V7, B7, la7, lt7, CS7, Li7, ns7, st7⟩ := ldcCH X5 hx hZ hown (ow hw 146 rfl) (fun d hd => hw d (own_atoms d hd)) e5 hS1 (Nat.le_trans hk1 CS5.2.1) hEL (List.mem_of_getElem? (i := 1) rfl) CR5.1 (vs := [(.int (106 : Int32)), (.int (100 : Int32)), (.int (98 : Int32)), (.int (99 : Int32))]) (z := (4 : Int32)) ⟨by decide, by first | rfl | decide +kernel⟩ (by decide) rfl (g := (mkF mG 35 #[oa a, oi (4 : Int32), oi (4 : Int32)] [(.ref b0_5)])) rfl (hb hby d35) (n := 16) (by decide) (by decide) (by decide) (by decide)
  have CR7 := CR5.trans CS7
  have O7 := O5.ext E7
  have K7 := K5.ext E7
  obtain ⟨LL8, X7, N5⟩ : ∃ LL, Stand pG l eG _ _ mG _ belowG methG cG T7 LL 6 48 ∧ Fr n0 LL := ⟨_, X7, N5⟩
  have nl7_b0_5 := ns7 b0_5 (CHr.safe CS7 F5_0.lt sf_b0_5)
  have nl7_b1_5 := ns7 b1_5 (CHr.safe CS7 F5_3.lt sf_b1_5)
  refine ob T7 (mkF mG 37 #[oa a, oi (4 : Int32), oi (4 : Int32)] [(.ref a7), (.ref b0_5)]) (fun _ kk => st7 _ kk) ?_
  refine oVp X7 hx hby hZ hown (ow hw 147 rfl) (ow hw 148 rfl) (ow hw 150 rfl) (ow hw 149 rfl) (ow hw 151 rfl) (ow hw 8 rfl) (rm_eq4 b0_5 a7 b1_5 kq2_5 t7 kb7 c0 c1 c2 c3 c4 c5 c6 c7 ⟨hw, O7, hS⟩ (F5_0.ext E7) (F5_2.ext E7) (F5_1.ext E7) (F5_3.ext E7) A7 C7 V7 B7 nl7_b0_5.1) e7 (F5_0.ext E7) N5 hml [(.ref a7)] [] pd_26 d37 40 ?_
  intro T9 L9 X9 e9 N9
  refine uN X9 hx hby d40 ((if0 _ _).trans (feq hj).1) 43 (uA X9 hx hby d43 rfl 44 (uI X9 hx hby d44 rfl 45 (uC X9 hx hby d45 1 46 ?_)))
  refine ob T9 (mkF mG 47 #[oa a, oi (4 : Int32), oi (4 : Int32)] [(.int (5 : Int32)), (.ref a)]) (fun _ kk => XS.iadd X9.here hx rfl (hb hby d46) rfl kk) ?_
  refine oCp X9 hx hby hZ hown (ow hw 71 rfl) (ow hw 72 rfl) (ow hw 73 rfl) (ow hw 64 rfl) (rm_seA5 a t kb nn c0 c1 c2 c3 c4 c5 c6 c7 e2 ⟨hw, O7, hS⟩ (((E_a.ext E1).keep K5q).ext E7) (((F_c.ext E1).keep K5q nin0).ext E7) (((F_v.ext E1).keep K5q nin0).ext E7) (((V_t.ext E1).keep K5q nin0).ext E7) r0 r1 r2 r3 r4 r5 r6 r7 hn hv2) e9 N9 hml [(.ref a), (.int (5 : Int32))] [] pd_24 d47 50 ?_
  intro T10 L10 X10 e10 N10
  refine uT X10 hx hby d50 #[oa a, oi (4 : Int32), oi e2] 51 (uI X10 hx hby d51 rfl 52 (uY X10 hx hby d52 ((if0 _ _).trans (flt (own_e0 q2)).2.1) 65 ?_))
  obtain ⟨T11, h11, X11, e11, E11, A11, D11, _x11, st11⟩ := newO X10 hx hZ hown (ow hw 152 rfl) (ow hw 153 rfl) (ow hw 64 rfl) e10 (g := (mkF mG 65 #[oa a, oi (4 : Int32), oi e2] [])) rfl (hb hby d65) (by decide) (by decide)
  obtain ⟨b11, g11⟩ : ∃ z, z = h7.size := ⟨_, rfl⟩
  rw [← g11] at A11 D11 st11
  have n_b11 : n0 ≤ b11 := Nat.le_trans (on0 O7) (Nat.le_of_eq g11.symm)
  have sz_b11 : h0.size ≤ b11 := Nat.le_trans K7.1 (Nat.le_of_eq g11.symm)
  have ne_a_b11 : a ≠ b11 := Nat.ne_of_lt (Nat.lt_of_lt_of_le (((E_a.ext E1).keep K5q).ext E7).lt (Nat.le_of_eq g11.symm))
  have ne_t_b11 : t ≠ b11 := Nat.ne_of_lt (Nat.lt_of_lt_of_le (((V_t.ext E1).keep K5q nin0).ext E7).lt (Nat.le_of_eq g11.symm))
  have ne_b0_5_b11 : b0_5 ≠ b11 := Nat.ne_of_lt (Nat.lt_of_lt_of_le (F5_0.ext E7).lt (Nat.le_of_eq g11.symm))
  have ne_b1_5_b11 : b1_5 ≠ b11 := Nat.ne_of_lt (Nat.lt_of_lt_of_le (F5_3.ext E7).lt (Nat.le_of_eq g11.symm))
  have ne_a7_b11 : a7 ≠ b11 := Nat.ne_of_lt (Nat.lt_of_lt_of_le A7.lt (Nat.le_of_eq g11.symm))
  have ne_t7_b11 : t7 ≠ b11 := Nat.ne_of_lt (Nat.lt_of_lt_of_le B7.lt (Nat.le_of_eq g11.symm))
  have CS11 : CHr Z oEL T7.vm h7 T7.vm h11 := CHr.ext E11 CR7.1
  have CR11 := CR7.trans CS11
  have O11 := O7.ext E11
  have K11 := K7.ext E11
  obtain ⟨LL12, X11, N10⟩ : ∃ LL, Stand pG l eG _ _ mG _ belowG methG cG T11 LL 7 50 ∧ Fr n0 LL := ⟨_, X11, N10⟩
  have sf_b11 : Safe Z oEL T7.vm h11 b11 := Safe.ext E11 CR7.1 (Safe.new (Nat.le_of_eq g11.symm))
  have F11_198 : Fld Z h11 b11 sU "url" "Ljava/lang/String;" .null := D11 (Or.inr (ow hw 198 rfl)) (ty := (.object "java/lang/String")) (by decide)
  have F11_200 : Fld Z h11 b11 sU "scheme" "Ljava/lang/String;" .null := D11 (Or.inr (ow hw 200 rfl)) (ty := (.object "java/lang/String")) (by decide)
  refine ob T11 (mkF mG 68 #[oa a, oi (4 : Int32), oi e2] [(.ref b11)]) (fun _ kk => st11 _ kk) ?_
  refine uD X11 hx hby d68 69 (uA X11 hx hby d69 rfl 70 (uA X11 hx hby d70 rfl 71 (uC X11 hx hby d71 0 72 (uI X11 hx hby d72 rfl 73 ?_))))
  obtain ⟨cq13, kq13, q13a, q13b, q13c⟩ := isOf hZ e11 ((((E_a.ext E1).keep K5q).ext E7).ext E11)
  obtain ⟨_, _, ⟨T13, L13, k13, n13⟩, -, X13, ⟨Lc13, hQ13, l13, y13, z13⟩, st13⟩ := X11.virtualBack hx (y := (⟨"java/lang/String", "substring", "(II)Ljava/lang/String;"⟩ : MethodName)) (z := (⟨"java/lang/String", "substring", "(II)Ljava/lang/String;"⟩ : MethodName)) hown (mvT hZ (ow hw 109 rfl)) (mvT hZ (ow hw 110 rfl)) (notFace_of_selects (args := #[]) (mvT hZ (ow hw 112 rfl))) (mvT hZ (ow hw 112 rfl)) (mvT hZ (ow hw 111 rfl)) (by decide) (backOf (W := 3) (rm_sub a t kb nn e2 c0 c1 c2 c3 c4 c5 c6 c7 ⟨hw, O11, hS⟩ ((((E_a.ext E1).keep K5q).ext E7).ext E11) ((((F_c.ext E1).keep K5q nin0).ext E7).ext E11) ((((F_v.ext E1).keep K5q nin0).ext E7).ext E11) ((((V_t.ext E1).keep K5q nin0).ext E7).ext E11) q2 hl2) hZ (ow hw 113 rfl) (ow hw 8 rfl) (by decide) (by decide)) q13a q13c (g := (mkF mG 73 #[oa a, oi (4 : Int32), oi e2] [(.int e2), (.int (0 : Int32)), (.ref a), (.ref a), (.ref b11), (.ref b11)])) rfl (by rw [hml]; rfl) (Steps.refl _) (argsL := [(.int (0 : Int32)), (.int e2)]) (rest := [(.ref a), (.ref b11), (.ref b11)]) (lenOf pd_25 rfl) rfl (by show 2 * 0 + _ ≤ _; exact Nat.le_of_eq rfl) (hb hby d73) (fun _ _ => ⟨rfl, e11, (by decide : 7 + 2 ≤ _), (by decide : 50 + 12 ≤ _)⟩)
  dsimp only [Pt.U, Pt.locs, Pt.cells, Pt.slots] at X13 l13 y13 z13 st13 hQ13
  subst l13 y13 z13
  obtain ⟨h13, e13⟩ : ∃ h, T13.heap = h := ⟨_, rfl⟩
  rw [e13] at hQ13
  obtain ⟨b0_13, b1_13, kq2_13, rfl, N13q, K13q, O13, n_b0_13, n_b1_13, z_b0_13, z_b1_13, F13_0, F13_1, F13_2, F13_3⟩ := hQ13
  have N13 := Fr.app N10 N13q
  have sz_b0_13 : h0.size ≤ b0_13 := Nat.le_trans K11.1 z_b0_13
  have ne_a_b0_13 : a ≠ b0_13 := Nat.ne_of_lt (Nat.lt_of_lt_of_le ((((E_a.ext E1).keep K5q).ext E7).ext E11).lt z_b0_13)
  have ne_t_b0_13 : t ≠ b0_13 := Nat.ne_of_lt (Nat.lt_of_lt_of_le ((((V_t.ext E1).keep K5q nin0).ext E7).ext E11).lt z_b0_13)
  have ne_b0_5_b0_13 : b0_5 ≠ b0_13 := Nat.ne_of_lt (Nat.lt_of_lt_of_le ((F5_0.ext E7).ext E11).lt z_b0_13)
  have ne_b1_5_b0_13 : b1_5 ≠ b0_13 := Nat.ne_of_lt (Nat.lt_of_lt_of_le ((F5_3.ext E7).ext E11).lt z_b0_13)
  have ne_a7_b0_13 : a7 ≠ b0_13 := Nat.ne_of_lt (Nat.lt_of_lt_of_le (A7.ext E11).lt z_b0_13)
  have ne_t7_b0_13 : t7 ≠ b0_13 := Nat.ne_of_lt (Nat.lt_of_lt_of_le (B7.ext E11).lt z_b0_13)
  have ne_b11_b0_13 : b11 ≠ b0_13 := Nat.ne_of_lt (Nat.lt_of_lt_of_le A11.lt z_b0_13)
  have sz_b1_13 : h0.size ≤ b1_13 := Nat.le_trans K11.1 z_b1_13
  have ne_a_b1_13 : a ≠ b1_13 := Nat.ne_of_lt (Nat.lt_of_lt_of_le ((((E_a.ext E1).keep K5q).ext E7).ext E11).lt z_b1_13)
  have ne_t_b1_13 : t ≠ b1_13 := Nat.ne_of_lt (Nat.lt_of_lt_of_le ((((V_t.ext E1).keep K5q nin0).ext E7).ext E11).lt z_b1_13)
  have ne_b0_5_b1_13 : b0_5 ≠ b1_13 := Nat.ne_of_lt (Nat.lt_of_lt_of_le ((F5_0.ext E7).ext E11).lt z_b1_13)
  have ne_b1_5_b1_13 : b1_5 ≠ b1_13 := Nat.ne_of_lt (Nat.lt_of_lt_of_le ((F5_3.ext E7).ext E11).lt z_b1_13)
  have ne_a7_b1_13 : a7 ≠ b1_13 := Nat.ne_of_lt (Nat.lt_of_lt_of_le (A7.ext E11).lt z_b1_13)
  have ne_t7_b1_13 : t7 ≠ b1_13 := Nat.ne_of_lt (Nat.lt_of_lt_of_le (B7.ext E11).lt z_b1_13)
  have ne_b11_b1_13 : b11 ≠ b1_13 := Nat.ne_of_lt (Nat.lt_of_lt_of_le A11.lt z_b1_13)
  have K13 := K11.trans K13q all0
  have CS13 : CHr Z oEL T7.vm h11 T7.vm h13 := CHr.keep K13q sf0 CR11.1
  have CR13 := CR11.trans CS13
  have sf_b0_13 : Safe Z oEL T7.vm h13 b0_13 := Safe.keep K13q sf0 CR11.1 (Safe.new z_b0_13)
  have sf_b1_13 : Safe Z oEL T7.vm h13 b1_13 := Safe.keep K13q sf0 CR11.1 (Safe.new z_b1_13)
  obtain ⟨LL14, X13, N13⟩ : ∃ LL, Stand pG l eG _ _ mG _ belowG methG cG T13 LL 9 62 ∧ Fr n0 LL := ⟨_, X13, N13⟩
  refine ob T13 (mkF mG 76 #[oa a, oi (4 : Int32), oi e2] [(.ref b0_13), (.ref a), (.ref b11), (.ref b11)]) (fun _ kk => st13.trans kk) ?_
  refine oGs X13 hx hby hZ hown (ow hw 154 rfl) e13 (S_wR.ext O13.2) d76 79 ?_
  intro T15 X15 e15
  obtain ⟨cq16, kq16, q16a, q16b, q16c⟩ := isOf hZ e15 F13_0
  obtain ⟨_, _, ⟨T16, L16, k16, n16⟩, -, X16, hS16, gs16, ⟨Lc16, hQ16, l16, y16, z16, CS16⟩, st16⟩ := X15.virtualBackS hx (y := (⟨"java/lang/String", "toLowerCase", "(Ljava/util/Locale;)Ljava/lang/String;"⟩ : MethodName)) (z := (⟨"java/lang/String", "toLowerCase", "(Ljava/util/Locale;)Ljava/lang/String;"⟩ : MethodName)) hown (mvT hZ (ow hw 156 rfl)) (mvT hZ (ow hw 157 rfl)) (notFace_of_selects (args := #[]) (mvT hZ (ow hw 159 rfl))) (mvT hZ (ow hw 159 rfl)) (mvT hZ (ow hw 158 rfl)) (by decide) (backOfSH (W := 3) (rm_tlc b0_13 b1_13 kq2_13 e2 c0 c1 c2 c3 c4 c5 c6 c7 ⟨hw, O13, hS⟩ F13_0 F13_2 F13_1 F13_3 r0 r1 r2 r3 r4 r5 r6 r7 q2) hZ (ow hw 160 rfl) (ow hw 8 rfl) (by decide) (by decide) hEL CR13.1) q16a q16c (g := (mkF mG 79 #[oa a, oi (4 : Int32), oi e2] [(.ref wR), (.ref b0_13), (.ref a), (.ref b11), (.ref b11)])) rfl (by rw [hml]; rfl) (Steps.refl _) (argsL := [(.ref wR)]) (rest := [(.ref a), (.ref b11), (.ref b11)]) (lenOf pd_27 rfl) rfl (by show 2 * 0 + _ ≤ _; exact Nat.le_of_eq rfl) (hb hby d79) (fun _ _ => ⟨rfl, e15, (by decide : 9 + 8 ≤ _), (by decide : 62 + 60 ≤ _)⟩)
  dsimp only [Pt.U, Pt.locs, Pt.cells, Pt.slots] at X16 l16 y16 z16 st16 hQ16 hS16 gs16 CS16
  subst l16 y16 z16
  obtain ⟨X16, hS16, hZ, hown⟩ := rebS hS7 (by rw [e15]; exact (Nat.le_trans (Nat.le_trans hk7 CS11.2.1) CS13.2.1)) X16 hS16 gs16 hZ hown
  obtain ⟨h16, e16⟩ : ∃ h, T16.heap = h := ⟨_, rfl⟩
  rw [e16] at hQ16
  obtain ⟨r0_16, r1_16, kq0_16, rfl, N16q, K16q, O16, F16_0, F16_1, F16_2, F16_3⟩ := hQ16
  have N16 := Fr.app N13 N16q
  have K16 := K13.trans K16q all0
  rw [e16] at CS16 hS16
  have hk16 : h16.size ≤ h16.size := Nat.le_refl _
  have CR16 := CR13.trans CS16
  obtain ⟨LL17, X16, N16⟩ : ∃ LL, Stand pG l eG _ _ mG _ belowG methG cG T16 LL 17 122 ∧ Fr n0 LL := ⟨_, X16, N16⟩
  refine ob T16 (mkF mG 82 #[oa a, oi (4 : Int32), oi e2] [(.ref r0_16), (.ref a), (.ref b11), (.ref b11)]) (fun _ kk => st16.trans kk) ?_
  have nq18a : r0_16 ≠ b11 := Ne.symm (ne_exa ((A11.keep K13q).keep K16q) F16_0 (by decide))
  have nq18b : r1_16 ≠ b11 := Ne.symm (((A11.keep K13q).keep K16q).neArv F16_3 (ow hw 153 rfl))
  obtain ⟨_, _, ⟨T19, L19, k19, n19⟩, -, X19, ⟨Lc19, hQ19, l19, y19, z19⟩, st19⟩ := X16.specialBack hx (y := (⟨sU, "<init>", "(Ljava/lang/String;Ljava/lang/String;)V"⟩ : MethodName)) rfl hown (mvT hZ (ow hw 193 rfl)) (mvT hZ (ow hw 194 rfl)) (mvT hZ (ow hw 195 rfl)) (by decide) (backOf (W := 1) (rm_sui b11 a r0_16 .null .null ⟨hw, O16, hS⟩ ((A11.keep K13q).keep K16q) ((F11_198.keep K13q nin0).keep K16q nin0) ((F11_200.keep K13q nin0).keep K16q nin0) n_b11) hZ (ow hw 195 rfl) (ow hw 64 rfl) (by decide) (by decide)) (g := (mkF mG 82 #[oa a, oi (4 : Int32), oi e2] [(.ref r0_16), (.ref a), (.ref b11), (.ref b11)])) rfl (by rw [hml]; rfl) (Steps.refl _) (a := b11) (argsL := [(.ref a), (.ref r0_16)]) (rest := [(.ref b11)]) (lenOf pd_28 rfl) rfl (by show 2 * 0 + _ ≤ _; exact Nat.le_of_eq rfl) (hb hby d82) (fun _ _ => ⟨rfl, e16, (by decide : 17 + 0 ≤ _), (by decide : 122 + 0 ≤ _)⟩)
  dsimp only [Pt.U, Pt.locs, Pt.cells, Pt.slots] at X19 l19 y19 z19 st19 hQ19
  subst l19 y19 z19
  obtain ⟨h19, e19⟩ : ∃ h, T19.heap = h := ⟨_, rfl⟩
  rw [e19] at hQ19
  obtain ⟨rfl, N19q, K19q, O19, F19_0, F19_1⟩ := hQ19
  have N19 := Fr.app N16 N19q
  have K19 := K16.trans K19q (allS (Or.inr sz_b11) all0)
  have CS19 : CHr Z oEL T16.vm h16 T16.vm h19 := CHr.keep K19q (sfS (Safe.exa hZ.alike ((A11.keep K13q).keep K16q) (by decide) (by decide)) sf0) CR16.1
  have CR19 := CR16.trans CS19
  obtain ⟨LL20, X19, N19⟩ : ∃ LL, Stand pG l eG _ _ mG _ belowG methG cG T19 LL 17 122 ∧ Fr n0 LL := ⟨_, X19, N19⟩
  refine ob T19 (mkF mG 85 #[oa a, oi (4 : Int32), oi e2] [(.ref b11)]) (fun _ kk => st19.trans kk) ?_
  obtain ⟨fs, hr, hrun, hended, hW, hsame⟩ := X19.leave (v := some (.ref b11)) (fun h => by rw [hret] at h; cases h) hlk
  obtain ⟨w1, w2, w3⟩ := State.Since.ended (U := T19.setFrames fs) hS16 hW (by show _ ≤ T19.heap.size; rw [e19]; exact (Nat.le_trans hk16 CS19.2.1)) hsame
  have CF := CR19.trans (CHv.at X19 hZ hEL CR19.1)
  refine oout (oretA X19 hx hret rfl rfl (hb hby d85) hr) hrun hended ⟨_, _, rfl, ?_, ?_, ⟨_, rfl⟩, w1, w2, w3.mono (by decide) (by decide)⟩
  · show Q_rm_parJ Z wR wI zc vf wB wL wV cV a t kb nn c0 c1 c2 c3 c4 c5 c6 c7 e2 h0 n0 _ T19.heap _
    rw [e19]
    exact ⟨b11, r0_16, r1_16, kq0_16, rfl, N19, K19, O19, n_b11, sz_b11, (((A11.keep K13q).keep K16q).keep K19q), F19_0, F19_1, (F16_0.keep K19q), (F16_1.keep K19q (ninS nq18a nin0)), (F16_2.keep K19q (ninS nq18a nin0)), (F16_3.keep K19q (ninS nq18b nin0))⟩
  · show CHr Z oEL sG.vm sG.heap T19.vm T19.heap
    rw [hh, e19]
    exact CF

theorem own_elN {st f nn cs c1 c2 c3 c4 c5 c6 c7 : Int32} (h : oOk f (oCo st nn c1 c2 c3 c4 c5 c6 c7) 1 c1 = (0 : Int32) ∨ oOk f (oCo st nn c1 c2 c3 c4 c5 c6 c7) 2 c2 = (0 : Int32) ∨ oOk f (oCo st nn c1 c2 c3 c4 c5 c6 c7) 3 c3 = (0 : Int32) ∨ oOk f (oCo st nn c1 c2 c3 c4 c5 c6 c7) 4 c4 = (0 : Int32) ∨ oOk f (oCo st nn c1 c2 c3 c4 c5 c6 c7) 5 c5 = (0 : Int32) ∨ oOk f (oCo st nn c1 c2 c3 c4 c5 c6 c7) 6 c6 = (0 : Int32) ∨ oOk f (oCo st nn c1 c2 c3 c4 c5 c6 c7) 7 c7 = (0 : Int32)) : oEn st f nn cs c1 c2 c3 c4 c5 c6 c7 = -1 := by
  unfold oEn
  generalize oCo st nn c1 c2 c3 c4 c5 c6 c7 = K at *
  split
  · split
    · rfl
    · split
      · rfl
      · split
        · rfl
        · split
          · rfl
          · split
            · rfl
            · split
              · rfl
              · split
                · rfl
                · split
                  · rfl
                  · split
                    · rfl
                    · rename_i a1 a2 a3 a4 a5 a6 a7
                      rcases h with h | h | h | h | h | h | h
                      · exact absurd h a1
                      · exact absurd h a2
                      · exact absurd h a3
                      · exact absurd h a4
                      · exact absurd h a5
                      · exact absurd h a6
                      · exact absurd h a7
  · rfl
theorem own_elC {st f nn cs c1 c2 c3 c4 c5 c6 c7 : Int32} (h : oCo st nn c1 c2 c3 c4 c5 c6 c7 < (0 : Int32)) : oEn st f nn cs c1 c2 c3 c4 c5 c6 c7 = -1 := by
  unfold oEn
  generalize oCo st nn c1 c2 c3 c4 c5 c6 c7 = K at *
  split
  · split
    · rfl
    · first | rfl | rw [if_pos h]
  · rfl
theorem own_at0 {st nn k c : Int32} (h : ¬ c = (58 : Int32)) : oAt st nn k c = 0 := by
  unfold oAt
  split
  · split
    · first | rfl | rw [if_neg h]
    · rfl
  · rfl
theorem own_atN {st nn k c : Int32} (h : ¬ k < nn) : oAt st nn k c = 0 := by
  unfold oAt
  split
  · first | rfl | rw [if_neg h]
  · rfl
theorem own_atS {st nn k c : Int32} (h : ¬ st < k) : oAt st nn k c = 0 := by
  unfold oAt
  rw [if_neg h]
theorem own_at1 {st nn k c : Int32} (h1 : st < k) (h2 : k < nn) (h3 : c = (58 : Int32)) : oAt st nn k c = 1 := by
  unfold oAt
  rw [if_pos h1, if_pos h2, if_pos h3]

theorem own_co1 {st nn c1 c2 c3 c4 c5 c6 c7 : Int32} (h1 : oAt st nn 1 c1 = 0) : oCo st nn c1 c2 c3 c4 c5 c6 c7 < (0 : Int32) ∨ (1 : Int32) < oCo st nn c1 c2 c3 c4 c5 c6 c7 := by
  unfold oCo
  rw [if_pos h1]
  first | exact Or.inl (by decide) | (repeat' split) <;> first | exact Or.inl (by decide) | exact Or.inr (by decide)

theorem own_co2 {st nn c1 c2 c3 c4 c5 c6 c7 : Int32} (h1 : oAt st nn 1 c1 = 0) (h2 : oAt st nn 2 c2 = 0) : oCo st nn c1 c2 c3 c4 c5 c6 c7 < (0 : Int32) ∨ (2 : Int32) < oCo st nn c1 c2 c3 c4 c5 c6 c7 := by
  unfold oCo
  rw [if_pos h1, if_pos h2]
  first | exact Or.inl (by decide) | (repeat' split) <;> first | exact Or.inl (by decide) | exact Or.inr (by decide)

theorem own_co3 {st nn c1 c2 c3 c4 c5 c6 c7 : Int32} (h1 : oAt st nn 1 c1 = 0) (h2 : oAt st nn 2 c2 = 0) (h3 : oAt st nn 3 c3 = 0) : oCo st nn c1 c2 c3 c4 c5 c6 c7 < (0 : Int32) ∨ (3 : Int32) < oCo st nn c1 c2 c3 c4 c5 c6 c7 := by
  unfold oCo
  rw [if_pos h1, if_pos h2, if_pos h3]
  first | exact Or.inl (by decide) | (repeat' split) <;> first | exact Or.inl (by decide) | exact Or.inr (by decide)

theorem own_co4 {st nn c1 c2 c3 c4 c5 c6 c7 : Int32} (h1 : oAt st nn 1 c1 = 0) (h2 : oAt st nn 2 c2 = 0) (h3 : oAt st nn 3 c3 = 0) (h4 : oAt st nn 4 c4 = 0) : oCo st nn c1 c2 c3 c4 c5 c6 c7 < (0 : Int32) ∨ (4 : Int32) < oCo st nn c1 c2 c3 c4 c5 c6 c7 := by
  unfold oCo
  rw [if_pos h1, if_pos h2, if_pos h3, if_pos h4]
  first | exact Or.inl (by decide) | (repeat' split) <;> first | exact Or.inl (by decide) | exact Or.inr (by decide)

theorem own_co5 {st nn c1 c2 c3 c4 c5 c6 c7 : Int32} (h1 : oAt st nn 1 c1 = 0) (h2 : oAt st nn 2 c2 = 0) (h3 : oAt st nn 3 c3 = 0) (h4 : oAt st nn 4 c4 = 0) (h5 : oAt st nn 5 c5 = 0) : oCo st nn c1 c2 c3 c4 c5 c6 c7 < (0 : Int32) ∨ (5 : Int32) < oCo st nn c1 c2 c3 c4 c5 c6 c7 := by
  unfold oCo
  rw [if_pos h1, if_pos h2, if_pos h3, if_pos h4, if_pos h5]
  first | exact Or.inl (by decide) | (repeat' split) <;> first | exact Or.inl (by decide) | exact Or.inr (by decide)

theorem own_co6 {st nn c1 c2 c3 c4 c5 c6 c7 : Int32} (h1 : oAt st nn 1 c1 = 0) (h2 : oAt st nn 2 c2 = 0) (h3 : oAt st nn 3 c3 = 0) (h4 : oAt st nn 4 c4 = 0) (h5 : oAt st nn 5 c5 = 0) (h6 : oAt st nn 6 c6 = 0) : oCo st nn c1 c2 c3 c4 c5 c6 c7 < (0 : Int32) ∨ (6 : Int32) < oCo st nn c1 c2 c3 c4 c5 c6 c7 := by
  unfold oCo
  rw [if_pos h1, if_pos h2, if_pos h3, if_pos h4, if_pos h5, if_pos h6]
  first | exact Or.inl (by decide) | (repeat' split) <;> first | exact Or.inl (by decide) | exact Or.inr (by decide)

theorem own_co7 {st nn c1 c2 c3 c4 c5 c6 c7 : Int32} (h1 : oAt st nn 1 c1 = 0) (h2 : oAt st nn 2 c2 = 0) (h3 : oAt st nn 3 c3 = 0) (h4 : oAt st nn 4 c4 = 0) (h5 : oAt st nn 5 c5 = 0) (h6 : oAt st nn 6 c6 = 0) (h7 : oAt st nn 7 c7 = 0) : oCo st nn c1 c2 c3 c4 c5 c6 c7 < (0 : Int32) ∨ (7 : Int32) < oCo st nn c1 c2 c3 c4 c5 c6 c7 := by
  unfold oCo
  rw [if_pos h1, if_pos h2, if_pos h3, if_pos h4, if_pos h5, if_pos h6, if_pos h7]
  first | exact Or.inl (by decide) | (repeat' split) <;> first | exact Or.inl (by decide) | exact Or.inr (by decide)

theorem own_end0 (nn c0 c1 c2 c3 c4 c5 c6 c7 : Int32) : oEn (0 : Int32) (1 : Int32) nn c0 c1 c2 c3 c4 c5 c6 c7 = oSE (0 : Int32) nn c0 [((1 : Int32), c1), ((2 : Int32), c2), ((3 : Int32), c3), ((4 : Int32), c4), ((5 : Int32), c5), ((6 : Int32), c6), ((7 : Int32), c7)] := by
  by_cases p0 : (0 : Int32) < nn
  · by_cases l0 : oLet c0 = (0 : Int32)
    · simp [oEn, oSE, p0, l0]
    · skip
      by_cases n1 : (1 : Int32) < nn
      · by_cases q1 : c1 = (58 : Int32)
        · have t1 : oAt (0 : Int32) nn 1 c1 = 1 := own_at1 (by decide) n1 q1
          have e : oCo (0 : Int32) nn c1 c2 c3 c4 c5 c6 c7 = 1 := by simp [oCo, t1]
          unfold oEn
          rw [e]
          simp [oSE, oScan, oOk, p0, l0, n1, q1]
        · by_cases o1 : oSch c1 = (0 : Int32)
          · have t1 : oAt (0 : Int32) nn 1 c1 = 0 := own_at0 q1
            rcases own_co1 t1 with e | e
            · rw [own_elC e]; simp [oSE, l0, oScan, p0, n1, q1, o1]
            · rw [own_elN (Or.inl (by unfold oOk; rw [if_neg (by decide), if_pos e, if_pos o1]))]; simp [oSE, l0, oScan, p0, n1, q1, o1]
          · skip
            by_cases n2 : (2 : Int32) < nn
            · by_cases q2 : c2 = (58 : Int32)
              · have t1 : oAt (0 : Int32) nn 1 c1 = 0 := own_at0 q1
                have t2 : oAt (0 : Int32) nn 2 c2 = 1 := own_at1 (by decide) n2 q2
                have e : oCo (0 : Int32) nn c1 c2 c3 c4 c5 c6 c7 = 2 := by simp [oCo, t1, t2]
                unfold oEn
                rw [e]
                simp [oSE, oScan, oOk, p0, l0, n1, q1, o1, n2, q2]
              · by_cases o2 : oSch c2 = (0 : Int32)
                · have t1 : oAt (0 : Int32) nn 1 c1 = 0 := own_at0 q1
                  have t2 : oAt (0 : Int32) nn 2 c2 = 0 := own_at0 q2
                  rcases own_co2 t1 t2 with e | e
                  · rw [own_elC e]; simp [oSE, l0, oScan, p0, n1, q1, o1, n2, q2, o2]
                  · rw [own_elN (Or.inr (Or.inl (by unfold oOk; rw [if_neg (by decide), if_pos e, if_pos o2])))]; simp [oSE, l0, oScan, p0, n1, q1, o1, n2, q2, o2]
                · skip
                  by_cases n3 : (3 : Int32) < nn
                  · by_cases q3 : c3 = (58 : Int32)
                    · have t1 : oAt (0 : Int32) nn 1 c1 = 0 := own_at0 q1
                      have t2 : oAt (0 : Int32) nn 2 c2 = 0 := own_at0 q2
                      have t3 : oAt (0 : Int32) nn 3 c3 = 1 := own_at1 (by decide) n3 q3
                      have e : oCo (0 : Int32) nn c1 c2 c3 c4 c5 c6 c7 = 3 := by simp [oCo, t1, t2, t3]
                      unfold oEn
                      rw [e]
                      simp [oSE, oScan, oOk, p0, l0, n1, q1, o1, n2, q2, o2, n3, q3]
                    · by_cases o3 : oSch c3 = (0 : Int32)
                      · have t1 : oAt (0 : Int32) nn 1 c1 = 0 := own_at0 q1
                        have t2 : oAt (0 : Int32) nn 2 c2 = 0 := own_at0 q2
                        have t3 : oAt (0 : Int32) nn 3 c3 = 0 := own_at0 q3
                        rcases own_co3 t1 t2 t3 with e | e
                        · rw [own_elC e]; simp [oSE, l0, oScan, p0, n1, q1, o1, n2, q2, o2, n3, q3, o3]
                        · rw [own_elN (Or.inr (Or.inr (Or.inl (by unfold oOk; rw [if_neg (by decide), if_pos e, if_pos o3]))))]; simp [oSE, l0, oScan, p0, n1, q1, o1, n2, q2, o2, n3, q3, o3]
                      · skip
                        by_cases n4 : (4 : Int32) < nn
                        · by_cases q4 : c4 = (58 : Int32)
                          · have t1 : oAt (0 : Int32) nn 1 c1 = 0 := own_at0 q1
                            have t2 : oAt (0 : Int32) nn 2 c2 = 0 := own_at0 q2
                            have t3 : oAt (0 : Int32) nn 3 c3 = 0 := own_at0 q3
                            have t4 : oAt (0 : Int32) nn 4 c4 = 1 := own_at1 (by decide) n4 q4
                            have e : oCo (0 : Int32) nn c1 c2 c3 c4 c5 c6 c7 = 4 := by simp [oCo, t1, t2, t3, t4]
                            unfold oEn
                            rw [e]
                            simp [oSE, oScan, oOk, p0, l0, n1, q1, o1, n2, q2, o2, n3, q3, o3, n4, q4]
                          · by_cases o4 : oSch c4 = (0 : Int32)
                            · have t1 : oAt (0 : Int32) nn 1 c1 = 0 := own_at0 q1
                              have t2 : oAt (0 : Int32) nn 2 c2 = 0 := own_at0 q2
                              have t3 : oAt (0 : Int32) nn 3 c3 = 0 := own_at0 q3
                              have t4 : oAt (0 : Int32) nn 4 c4 = 0 := own_at0 q4
                              rcases own_co4 t1 t2 t3 t4 with e | e
                              · rw [own_elC e]; simp [oSE, l0, oScan, p0, n1, q1, o1, n2, q2, o2, n3, q3, o3, n4, q4, o4]
                              · rw [own_elN (Or.inr (Or.inr (Or.inr (Or.inl (by unfold oOk; rw [if_neg (by decide), if_pos e, if_pos o4])))))]; simp [oSE, l0, oScan, p0, n1, q1, o1, n2, q2, o2, n3, q3, o3, n4, q4, o4]
                            · skip
                              by_cases n5 : (5 : Int32) < nn
                              · by_cases q5 : c5 = (58 : Int32)
                                · have t1 : oAt (0 : Int32) nn 1 c1 = 0 := own_at0 q1
                                  have t2 : oAt (0 : Int32) nn 2 c2 = 0 := own_at0 q2
                                  have t3 : oAt (0 : Int32) nn 3 c3 = 0 := own_at0 q3
                                  have t4 : oAt (0 : Int32) nn 4 c4 = 0 := own_at0 q4
                                  have t5 : oAt (0 : Int32) nn 5 c5 = 1 := own_at1 (by decide) n5 q5
                                  have e : oCo (0 : Int32) nn c1 c2 c3 c4 c5 c6 c7 = 5 := by simp [oCo, t1, t2, t3, t4, t5]
                                  unfold oEn
                                  rw [e]
                                  simp [oSE, oScan, oOk, p0, l0, n1, q1, o1, n2, q2, o2, n3, q3, o3, n4, q4, o4, n5, q5]
                                · by_cases o5 : oSch c5 = (0 : Int32)
                                  · have t1 : oAt (0 : Int32) nn 1 c1 = 0 := own_at0 q1
                                    have t2 : oAt (0 : Int32) nn 2 c2 = 0 := own_at0 q2
                                    have t3 : oAt (0 : Int32) nn 3 c3 = 0 := own_at0 q3
                                    have t4 : oAt (0 : Int32) nn 4 c4 = 0 := own_at0 q4
                                    have t5 : oAt (0 : Int32) nn 5 c5 = 0 := own_at0 q5
                                    rcases own_co5 t1 t2 t3 t4 t5 with e | e
                                    · rw [own_elC e]; simp [oSE, l0, oScan, p0, n1, q1, o1, n2, q2, o2, n3, q3, o3, n4, q4, o4, n5, q5, o5]
                                    · rw [own_elN (Or.inr (Or.inr (Or.inr (Or.inr (Or.inl (by unfold oOk; rw [if_neg (by decide), if_pos e, if_pos o5]))))))]; simp [oSE, l0, oScan, p0, n1, q1, o1, n2, q2, o2, n3, q3, o3, n4, q4, o4, n5, q5, o5]
                                  · skip
                                    by_cases n6 : (6 : Int32) < nn
                                    · by_cases q6 : c6 = (58 : Int32)
                                      · have t1 : oAt (0 : Int32) nn 1 c1 = 0 := own_at0 q1
                                        have t2 : oAt (0 : Int32) nn 2 c2 = 0 := own_at0 q2
                                        have t3 : oAt (0 : Int32) nn 3 c3 = 0 := own_at0 q3
                                        have t4 : oAt (0 : Int32) nn 4 c4 = 0 := own_at0 q4
                                        have t5 : oAt (0 : Int32) nn 5 c5 = 0 := own_at0 q5
                                        have t6 : oAt (0 : Int32) nn 6 c6 = 1 := own_at1 (by decide) n6 q6
                                        have e : oCo (0 : Int32) nn c1 c2 c3 c4 c5 c6 c7 = 6 := by simp [oCo, t1, t2, t3, t4, t5, t6]
                                        unfold oEn
                                        rw [e]
                                        simp [oSE, oScan, oOk, p0, l0, n1, q1, o1, n2, q2, o2, n3, q3, o3, n4, q4, o4, n5, q5, o5, n6, q6]
                                      · by_cases o6 : oSch c6 = (0 : Int32)
                                        · have t1 : oAt (0 : Int32) nn 1 c1 = 0 := own_at0 q1
                                          have t2 : oAt (0 : Int32) nn 2 c2 = 0 := own_at0 q2
                                          have t3 : oAt (0 : Int32) nn 3 c3 = 0 := own_at0 q3
                                          have t4 : oAt (0 : Int32) nn 4 c4 = 0 := own_at0 q4
                                          have t5 : oAt (0 : Int32) nn 5 c5 = 0 := own_at0 q5
                                          have t6 : oAt (0 : Int32) nn 6 c6 = 0 := own_at0 q6
                                          rcases own_co6 t1 t2 t3 t4 t5 t6 with e | e
                                          · rw [own_elC e]; simp [oSE, l0, oScan, p0, n1, q1, o1, n2, q2, o2, n3, q3, o3, n4, q4, o4, n5, q5, o5, n6, q6, o6]
                                          · rw [own_elN (Or.inr (Or.inr (Or.inr (Or.inr (Or.inr (Or.inl (by unfold oOk; rw [if_neg (by decide), if_pos e, if_pos o6])))))))]; simp [oSE, l0, oScan, p0, n1, q1, o1, n2, q2, o2, n3, q3, o3, n4, q4, o4, n5, q5, o5, n6, q6, o6]
                                        · skip
                                          by_cases n7 : (7 : Int32) < nn
                                          · by_cases q7 : c7 = (58 : Int32)
                                            · have t1 : oAt (0 : Int32) nn 1 c1 = 0 := own_at0 q1
                                              have t2 : oAt (0 : Int32) nn 2 c2 = 0 := own_at0 q2
                                              have t3 : oAt (0 : Int32) nn 3 c3 = 0 := own_at0 q3
                                              have t4 : oAt (0 : Int32) nn 4 c4 = 0 := own_at0 q4
                                              have t5 : oAt (0 : Int32) nn 5 c5 = 0 := own_at0 q5
                                              have t6 : oAt (0 : Int32) nn 6 c6 = 0 := own_at0 q6
                                              have t7 : oAt (0 : Int32) nn 7 c7 = 1 := own_at1 (by decide) n7 q7
                                              have e : oCo (0 : Int32) nn c1 c2 c3 c4 c5 c6 c7 = 7 := by simp [oCo, t1, t2, t3, t4, t5, t6, t7]
                                              unfold oEn
                                              rw [e]
                                              simp [oSE, oScan, oOk, p0, l0, n1, q1, o1, n2, q2, o2, n3, q3, o3, n4, q4, o4, n5, q5, o5, n6, q6, o6, n7, q7]
                                            · by_cases o7 : oSch c7 = (0 : Int32)
                                              · have t1 : oAt (0 : Int32) nn 1 c1 = 0 := own_at0 q1
                                                have t2 : oAt (0 : Int32) nn 2 c2 = 0 := own_at0 q2
                                                have t3 : oAt (0 : Int32) nn 3 c3 = 0 := own_at0 q3
                                                have t4 : oAt (0 : Int32) nn 4 c4 = 0 := own_at0 q4
                                                have t5 : oAt (0 : Int32) nn 5 c5 = 0 := own_at0 q5
                                                have t6 : oAt (0 : Int32) nn 6 c6 = 0 := own_at0 q6
                                                have t7 : oAt (0 : Int32) nn 7 c7 = 0 := own_at0 q7
                                                rcases own_co7 t1 t2 t3 t4 t5 t6 t7 with e | e
                                                · rw [own_elC e]; simp [oSE, l0, oScan, p0, n1, q1, o1, n2, q2, o2, n3, q3, o3, n4, q4, o4, n5, q5, o5, n6, q6, o6, n7, q7, o7]
                                                · rw [own_elN (Or.inr (Or.inr (Or.inr (Or.inr (Or.inr (Or.inr ((by unfold oOk; rw [if_neg (by decide), if_pos e, if_pos o7]))))))))]; simp [oSE, l0, oScan, p0, n1, q1, o1, n2, q2, o2, n3, q3, o3, n4, q4, o4, n5, q5, o5, n6, q6, o6, n7, q7, o7]
                                              · skip
                                                have t1 : oAt (0 : Int32) nn 1 c1 = 0 := own_at0 q1
                                                have t2 : oAt (0 : Int32) nn 2 c2 = 0 := own_at0 q2
                                                have t3 : oAt (0 : Int32) nn 3 c3 = 0 := own_at0 q3
                                                have t4 : oAt (0 : Int32) nn 4 c4 = 0 := own_at0 q4
                                                have t5 : oAt (0 : Int32) nn 5 c5 = 0 := own_at0 q5
                                                have t6 : oAt (0 : Int32) nn 6 c6 = 0 := own_at0 q6
                                                have t7 : oAt (0 : Int32) nn 7 c7 = 0 := own_at0 q7
                                                have e : oCo (0 : Int32) nn c1 c2 c3 c4 c5 c6 c7 = -1 := by simp [oCo, t1, t2, t3, t4, t5, t6, t7]
                                                rw [own_elC (by rw [e]; decide)]
                                                simp [oSE, l0, oScan, p0, n1, q1, o1, n2, q2, o2, n3, q3, o3, n4, q4, o4, n5, q5, o5, n6, q6, o6, n7, q7, o7]
                                          · have t1 : oAt (0 : Int32) nn 1 c1 = 0 := own_at0 q1
                                            have t2 : oAt (0 : Int32) nn 2 c2 = 0 := own_at0 q2
                                            have t3 : oAt (0 : Int32) nn 3 c3 = 0 := own_at0 q3
                                            have t4 : oAt (0 : Int32) nn 4 c4 = 0 := own_at0 q4
                                            have t5 : oAt (0 : Int32) nn 5 c5 = 0 := own_at0 q5
                                            have t6 : oAt (0 : Int32) nn 6 c6 = 0 := own_at0 q6
                                            have t7 : oAt (0 : Int32) nn 7 c7 = 0 := own_atN n7
                                            have e : oCo (0 : Int32) nn c1 c2 c3 c4 c5 c6 c7 = -1 := by simp [oCo, t1, t2, t3, t4, t5, t6, t7]
                                            rw [own_elC (by rw [e]; decide)]
                                            simp [oSE, l0, oScan, p0, n1, q1, o1, n2, q2, o2, n3, q3, o3, n4, q4, o4, n5, q5, o5, n6, q6, o6, n7]
                                    · have n7 : ¬ (7 : Int32) < nn := own_up6 n6
                                      have t1 : oAt (0 : Int32) nn 1 c1 = 0 := own_at0 q1
                                      have t2 : oAt (0 : Int32) nn 2 c2 = 0 := own_at0 q2
                                      have t3 : oAt (0 : Int32) nn 3 c3 = 0 := own_at0 q3
                                      have t4 : oAt (0 : Int32) nn 4 c4 = 0 := own_at0 q4
                                      have t5 : oAt (0 : Int32) nn 5 c5 = 0 := own_at0 q5
                                      have t6 : oAt (0 : Int32) nn 6 c6 = 0 := own_atN n6
                                      have t7 : oAt (0 : Int32) nn 7 c7 = 0 := own_atN n7
                                      have e : oCo (0 : Int32) nn c1 c2 c3 c4 c5 c6 c7 = -1 := by simp [oCo, t1, t2, t3, t4, t5, t6, t7]
                                      rw [own_elC (by rw [e]; decide)]
                                      simp [oSE, l0, oScan, p0, n1, q1, o1, n2, q2, o2, n3, q3, o3, n4, q4, o4, n5, q5, o5, n6]
                              · have n6 : ¬ (6 : Int32) < nn := own_up5 n5
                                have n7 : ¬ (7 : Int32) < nn := own_up6 n6
                                have t1 : oAt (0 : Int32) nn 1 c1 = 0 := own_at0 q1
                                have t2 : oAt (0 : Int32) nn 2 c2 = 0 := own_at0 q2
                                have t3 : oAt (0 : Int32) nn 3 c3 = 0 := own_at0 q3
                                have t4 : oAt (0 : Int32) nn 4 c4 = 0 := own_at0 q4
                                have t5 : oAt (0 : Int32) nn 5 c5 = 0 := own_atN n5
                                have t6 : oAt (0 : Int32) nn 6 c6 = 0 := own_atN n6
                                have t7 : oAt (0 : Int32) nn 7 c7 = 0 := own_atN n7
                                have e : oCo (0 : Int32) nn c1 c2 c3 c4 c5 c6 c7 = -1 := by simp [oCo, t1, t2, t3, t4, t5, t6, t7]
                                rw [own_elC (by rw [e]; decide)]
                                simp [oSE, l0, oScan, p0, n1, q1, o1, n2, q2, o2, n3, q3, o3, n4, q4, o4, n5]
                        · have n5 : ¬ (5 : Int32) < nn := own_up4 n4
                          have n6 : ¬ (6 : Int32) < nn := own_up5 n5
                          have n7 : ¬ (7 : Int32) < nn := own_up6 n6
                          have t1 : oAt (0 : Int32) nn 1 c1 = 0 := own_at0 q1
                          have t2 : oAt (0 : Int32) nn 2 c2 = 0 := own_at0 q2
                          have t3 : oAt (0 : Int32) nn 3 c3 = 0 := own_at0 q3
                          have t4 : oAt (0 : Int32) nn 4 c4 = 0 := own_atN n4
                          have t5 : oAt (0 : Int32) nn 5 c5 = 0 := own_atN n5
                          have t6 : oAt (0 : Int32) nn 6 c6 = 0 := own_atN n6
                          have t7 : oAt (0 : Int32) nn 7 c7 = 0 := own_atN n7
                          have e : oCo (0 : Int32) nn c1 c2 c3 c4 c5 c6 c7 = -1 := by simp [oCo, t1, t2, t3, t4, t5, t6, t7]
                          rw [own_elC (by rw [e]; decide)]
                          simp [oSE, l0, oScan, p0, n1, q1, o1, n2, q2, o2, n3, q3, o3, n4]
                  · have n4 : ¬ (4 : Int32) < nn := own_up3 n3
                    have n5 : ¬ (5 : Int32) < nn := own_up4 n4
                    have n6 : ¬ (6 : Int32) < nn := own_up5 n5
                    have n7 : ¬ (7 : Int32) < nn := own_up6 n6
                    have t1 : oAt (0 : Int32) nn 1 c1 = 0 := own_at0 q1
                    have t2 : oAt (0 : Int32) nn 2 c2 = 0 := own_at0 q2
                    have t3 : oAt (0 : Int32) nn 3 c3 = 0 := own_atN n3
                    have t4 : oAt (0 : Int32) nn 4 c4 = 0 := own_atN n4
                    have t5 : oAt (0 : Int32) nn 5 c5 = 0 := own_atN n5
                    have t6 : oAt (0 : Int32) nn 6 c6 = 0 := own_atN n6
                    have t7 : oAt (0 : Int32) nn 7 c7 = 0 := own_atN n7
                    have e : oCo (0 : Int32) nn c1 c2 c3 c4 c5 c6 c7 = -1 := by simp [oCo, t1, t2, t3, t4, t5, t6, t7]
                    rw [own_elC (by rw [e]; decide)]
                    simp [oSE, l0, oScan, p0, n1, q1, o1, n2, q2, o2, n3]
            · have n3 : ¬ (3 : Int32) < nn := own_up2 n2
              have n4 : ¬ (4 : Int32) < nn := own_up3 n3
              have n5 : ¬ (5 : Int32) < nn := own_up4 n4
              have n6 : ¬ (6 : Int32) < nn := own_up5 n5
              have n7 : ¬ (7 : Int32) < nn := own_up6 n6
              have t1 : oAt (0 : Int32) nn 1 c1 = 0 := own_at0 q1
              have t2 : oAt (0 : Int32) nn 2 c2 = 0 := own_atN n2
              have t3 : oAt (0 : Int32) nn 3 c3 = 0 := own_atN n3
              have t4 : oAt (0 : Int32) nn 4 c4 = 0 := own_atN n4
              have t5 : oAt (0 : Int32) nn 5 c5 = 0 := own_atN n5
              have t6 : oAt (0 : Int32) nn 6 c6 = 0 := own_atN n6
              have t7 : oAt (0 : Int32) nn 7 c7 = 0 := own_atN n7
              have e : oCo (0 : Int32) nn c1 c2 c3 c4 c5 c6 c7 = -1 := by simp [oCo, t1, t2, t3, t4, t5, t6, t7]
              rw [own_elC (by rw [e]; decide)]
              simp [oSE, l0, oScan, p0, n1, q1, o1, n2]
      · have n2 : ¬ (2 : Int32) < nn := own_up1 n1
        have n3 : ¬ (3 : Int32) < nn := own_up2 n2
        have n4 : ¬ (4 : Int32) < nn := own_up3 n3
        have n5 : ¬ (5 : Int32) < nn := own_up4 n4
        have n6 : ¬ (6 : Int32) < nn := own_up5 n5
        have n7 : ¬ (7 : Int32) < nn := own_up6 n6
        have t1 : oAt (0 : Int32) nn 1 c1 = 0 := own_atN n1
        have t2 : oAt (0 : Int32) nn 2 c2 = 0 := own_atN n2
        have t3 : oAt (0 : Int32) nn 3 c3 = 0 := own_atN n3
        have t4 : oAt (0 : Int32) nn 4 c4 = 0 := own_atN n4
        have t5 : oAt (0 : Int32) nn 5 c5 = 0 := own_atN n5
        have t6 : oAt (0 : Int32) nn 6 c6 = 0 := own_atN n6
        have t7 : oAt (0 : Int32) nn 7 c7 = 0 := own_atN n7
        have e : oCo (0 : Int32) nn c1 c2 c3 c4 c5 c6 c7 = -1 := by simp [oCo, t1, t2, t3, t4, t5, t6, t7]
        rw [own_elC (by rw [e]; decide)]
        simp [oSE, l0, oScan, p0, n1]
  · simp [oEn, oSE, p0]

theorem own_end5 (nn c0 c1 c2 c3 c4 c5 c6 c7 : Int32) : oEn (5 : Int32) (6 : Int32) nn c5 c1 c2 c3 c4 c5 c6 c7 = oSE (5 : Int32) nn c5 [((6 : Int32), c6), ((7 : Int32), c7)] := by
  by_cases p0 : (5 : Int32) < nn
  · by_cases l0 : oLet c5 = (0 : Int32)
    · simp [oEn, oSE, p0, l0]
    · skip
      by_cases n6 : (6 : Int32) < nn
      · by_cases q6 : c6 = (58 : Int32)
        · have t1 : oAt (5 : Int32) nn 1 c1 = 0 := own_atS (by decide)
          have t2 : oAt (5 : Int32) nn 2 c2 = 0 := own_atS (by decide)
          have t3 : oAt (5 : Int32) nn 3 c3 = 0 := own_atS (by decide)
          have t4 : oAt (5 : Int32) nn 4 c4 = 0 := own_atS (by decide)
          have t5 : oAt (5 : Int32) nn 5 c5 = 0 := own_atS (by decide)
          have t6 : oAt (5 : Int32) nn 6 c6 = 1 := own_at1 (by decide) n6 q6
          have e : oCo (5 : Int32) nn c1 c2 c3 c4 c5 c6 c7 = 6 := by simp [oCo, t1, t2, t3, t4, t5, t6]
          unfold oEn
          rw [e]
          simp [oSE, oScan, oOk, p0, l0, n6, q6]
        · by_cases o6 : oSch c6 = (0 : Int32)
          · have t1 : oAt (5 : Int32) nn 1 c1 = 0 := own_atS (by decide)
            have t2 : oAt (5 : Int32) nn 2 c2 = 0 := own_atS (by decide)
            have t3 : oAt (5 : Int32) nn 3 c3 = 0 := own_atS (by decide)
            have t4 : oAt (5 : Int32) nn 4 c4 = 0 := own_atS (by decide)
            have t5 : oAt (5 : Int32) nn 5 c5 = 0 := own_atS (by decide)
            have t6 : oAt (5 : Int32) nn 6 c6 = 0 := own_at0 q6
            rcases own_co6 t1 t2 t3 t4 t5 t6 with e | e
            · rw [own_elC e]; simp [oSE, l0, oScan, p0, n6, q6, o6]
            · rw [own_elN (Or.inr (Or.inr (Or.inr (Or.inr (Or.inr (Or.inl (by unfold oOk; rw [if_neg (by decide), if_pos e, if_pos o6])))))))]; simp [oSE, l0, oScan, p0, n6, q6, o6]
          · skip
            by_cases n7 : (7 : Int32) < nn
            · by_cases q7 : c7 = (58 : Int32)
              · have t1 : oAt (5 : Int32) nn 1 c1 = 0 := own_atS (by decide)
                have t2 : oAt (5 : Int32) nn 2 c2 = 0 := own_atS (by decide)
                have t3 : oAt (5 : Int32) nn 3 c3 = 0 := own_atS (by decide)
                have t4 : oAt (5 : Int32) nn 4 c4 = 0 := own_atS (by decide)
                have t5 : oAt (5 : Int32) nn 5 c5 = 0 := own_atS (by decide)
                have t6 : oAt (5 : Int32) nn 6 c6 = 0 := own_at0 q6
                have t7 : oAt (5 : Int32) nn 7 c7 = 1 := own_at1 (by decide) n7 q7
                have e : oCo (5 : Int32) nn c1 c2 c3 c4 c5 c6 c7 = 7 := by simp [oCo, t1, t2, t3, t4, t5, t6, t7]
                unfold oEn
                rw [e]
                simp [oSE, oScan, oOk, p0, l0, n6, q6, o6, n7, q7]
              · by_cases o7 : oSch c7 = (0 : Int32)
                · have t1 : oAt (5 : Int32) nn 1 c1 = 0 := own_atS (by decide)
                  have t2 : oAt (5 : Int32) nn 2 c2 = 0 := own_atS (by decide)
                  have t3 : oAt (5 : Int32) nn 3 c3 = 0 := own_atS (by decide)
                  have t4 : oAt (5 : Int32) nn 4 c4 = 0 := own_atS (by decide)
                  have t5 : oAt (5 : Int32) nn 5 c5 = 0 := own_atS (by decide)
                  have t6 : oAt (5 : Int32) nn 6 c6 = 0 := own_at0 q6
                  have t7 : oAt (5 : Int32) nn 7 c7 = 0 := own_at0 q7
                  rcases own_co7 t1 t2 t3 t4 t5 t6 t7 with e | e
                  · rw [own_elC e]; simp [oSE, l0, oScan, p0, n6, q6, o6, n7, q7, o7]
                  · rw [own_elN (Or.inr (Or.inr (Or.inr (Or.inr (Or.inr (Or.inr ((by unfold oOk; rw [if_neg (by decide), if_pos e, if_pos o7]))))))))]; simp [oSE, l0, oScan, p0, n6, q6, o6, n7, q7, o7]
                · skip
                  have t1 : oAt (5 : Int32) nn 1 c1 = 0 := own_atS (by decide)
                  have t2 : oAt (5 : Int32) nn 2 c2 = 0 := own_atS (by decide)
                  have t3 : oAt (5 : Int32) nn 3 c3 = 0 := own_atS (by decide)
                  have t4 : oAt (5 : Int32) nn 4 c4 = 0 := own_atS (by decide)
                  have t5 : oAt (5 : Int32) nn 5 c5 = 0 := own_atS (by decide)
                  have t6 : oAt (5 : Int32) nn 6 c6 = 0 := own_at0 q6
                  have t7 : oAt (5 : Int32) nn 7 c7 = 0 := own_at0 q7
                  have e : oCo (5 : Int32) nn c1 c2 c3 c4 c5 c6 c7 = -1 := by simp [oCo, t1, t2, t3, t4, t5, t6, t7]
                  rw [own_elC (by rw [e]; decide)]
                  simp [oSE, l0, oScan, p0, n6, q6, o6, n7, q7, o7]
            · have t1 : oAt (5 : Int32) nn 1 c1 = 0 := own_atS (by decide)
              have t2 : oAt (5 : Int32) nn 2 c2 = 0 := own_atS (by decide)
              have t3 : oAt (5 : Int32) nn 3 c3 = 0 := own_atS (by decide)
              have t4 : oAt (5 : Int32) nn 4 c4 = 0 := own_atS (by decide)
              have t5 : oAt (5 : Int32) nn 5 c5 = 0 := own_atS (by decide)
              have t6 : oAt (5 : Int32) nn 6 c6 = 0 := own_at0 q6
              have t7 : oAt (5 : Int32) nn 7 c7 = 0 := own_atN n7
              have e : oCo (5 : Int32) nn c1 c2 c3 c4 c5 c6 c7 = -1 := by simp [oCo, t1, t2, t3, t4, t5, t6, t7]
              rw [own_elC (by rw [e]; decide)]
              simp [oSE, l0, oScan, p0, n6, q6, o6, n7]
      · have n7 : ¬ (7 : Int32) < nn := own_up6 n6
        have t1 : oAt (5 : Int32) nn 1 c1 = 0 := own_atS (by decide)
        have t2 : oAt (5 : Int32) nn 2 c2 = 0 := own_atS (by decide)
        have t3 : oAt (5 : Int32) nn 3 c3 = 0 := own_atS (by decide)
        have t4 : oAt (5 : Int32) nn 4 c4 = 0 := own_atS (by decide)
        have t5 : oAt (5 : Int32) nn 5 c5 = 0 := own_atS (by decide)
        have t6 : oAt (5 : Int32) nn 6 c6 = 0 := own_atN n6
        have t7 : oAt (5 : Int32) nn 7 c7 = 0 := own_atN n7
        have e : oCo (5 : Int32) nn c1 c2 c3 c4 c5 c6 c7 = -1 := by simp [oCo, t1, t2, t3, t4, t5, t6, t7]
        rw [own_elC (by rw [e]; decide)]
        simp [oSE, l0, oScan, p0, n6]
  · simp [oEn, oSE, p0]

theorem own_tlS (c : Int32) (hr : oRg c) : ¬ oSch c = (0 : Int32) → oTl c = oLow c := own_fin (P := fun c => ¬ oSch c = (0 : Int32) → oTl c = oLow c) (by decide +kernel) c hr
theorem own_tlL (c : Int32) (hr : oRg c) : ¬ oLet c = (0 : Int32) → oTl c = oLow c := own_fin (P := fun c => ¬ oLet c = (0 : Int32) → oTl c = oLow c) (by decide +kernel) c hr
theorem own_tlJ (c : Int32) (hr : oRg c) : (oLow c = (106 : Int32) ∨ oLow c = (100 : Int32) ∨ oLow c = (98 : Int32) ∨ oLow c = (99 : Int32)) → oTl c = oLow c := own_fin (P := fun c => (oLow c = (106 : Int32) ∨ oLow c = (100 : Int32) ∨ oLow c = (98 : Int32) ∨ oLow c = (99 : Int32)) → oTl c = oLow c) (by decide +kernel) c hr

theorem own_eqJ0 (c : Int32) (hr : oRg c) : (oEq (c.toInt8.toInt32) (106 : Int32) = (0 : Int32) → ¬ oLow c = (106 : Int32)) ∧ (oLow c = (106 : Int32) → ¬ oEq (c.toInt8.toInt32) (106 : Int32) = (0 : Int32)) ∧ (¬ oEq (c.toInt8.toInt32) (106 : Int32) = (0 : Int32) → oLow c = (106 : Int32)) := own_fin (P := fun c => (oEq (c.toInt8.toInt32) (106 : Int32) = (0 : Int32) → ¬ oLow c = (106 : Int32)) ∧ (oLow c = (106 : Int32) → ¬ oEq (c.toInt8.toInt32) (106 : Int32) = (0 : Int32)) ∧ (¬ oEq (c.toInt8.toInt32) (106 : Int32) = (0 : Int32) → oLow c = (106 : Int32))) (by decide +kernel) c hr

theorem own_eqJ1 (c : Int32) (hr : oRg c) : (oEq (c.toInt8.toInt32) (100 : Int32) = (0 : Int32) → ¬ oLow c = (100 : Int32)) ∧ (oLow c = (100 : Int32) → ¬ oEq (c.toInt8.toInt32) (100 : Int32) = (0 : Int32)) ∧ (¬ oEq (c.toInt8.toInt32) (100 : Int32) = (0 : Int32) → oLow c = (100 : Int32)) := own_fin (P := fun c => (oEq (c.toInt8.toInt32) (100 : Int32) = (0 : Int32) → ¬ oLow c = (100 : Int32)) ∧ (oLow c = (100 : Int32) → ¬ oEq (c.toInt8.toInt32) (100 : Int32) = (0 : Int32)) ∧ (¬ oEq (c.toInt8.toInt32) (100 : Int32) = (0 : Int32) → oLow c = (100 : Int32))) (by decide +kernel) c hr

theorem own_eqJ2 (c : Int32) (hr : oRg c) : (oEq (c.toInt8.toInt32) (98 : Int32) = (0 : Int32) → ¬ oLow c = (98 : Int32)) ∧ (oLow c = (98 : Int32) → ¬ oEq (c.toInt8.toInt32) (98 : Int32) = (0 : Int32)) ∧ (¬ oEq (c.toInt8.toInt32) (98 : Int32) = (0 : Int32) → oLow c = (98 : Int32)) := own_fin (P := fun c => (oEq (c.toInt8.toInt32) (98 : Int32) = (0 : Int32) → ¬ oLow c = (98 : Int32)) ∧ (oLow c = (98 : Int32) → ¬ oEq (c.toInt8.toInt32) (98 : Int32) = (0 : Int32)) ∧ (¬ oEq (c.toInt8.toInt32) (98 : Int32) = (0 : Int32) → oLow c = (98 : Int32))) (by decide +kernel) c hr

theorem own_eqJ3 (c : Int32) (hr : oRg c) : (oEq (c.toInt8.toInt32) (99 : Int32) = (0 : Int32) → ¬ oLow c = (99 : Int32)) ∧ (oLow c = (99 : Int32) → ¬ oEq (c.toInt8.toInt32) (99 : Int32) = (0 : Int32)) ∧ (¬ oEq (c.toInt8.toInt32) (99 : Int32) = (0 : Int32) → oLow c = (99 : Int32)) := own_fin (P := fun c => (oEq (c.toInt8.toInt32) (99 : Int32) = (0 : Int32) → ¬ oLow c = (99 : Int32)) ∧ (oLow c = (99 : Int32) → ¬ oEq (c.toInt8.toInt32) (99 : Int32) = (0 : Int32)) ∧ (¬ oEq (c.toInt8.toInt32) (99 : Int32) = (0 : Int32) → oLow c = (99 : Int32))) (by decide +kernel) c hr

theorem own_jY {c0 c1 c2 c3 : Int32} (r0 : oRg c0) (r1 : oRg c1) (r2 : oRg c2) (r3 : oRg c3) (e0 : oLow c0 = (106 : Int32)) (e1 : oLow c1 = (100 : Int32)) (e2 : oLow c2 = (98 : Int32)) (e3 : oLow c3 = (99 : Int32)) : ¬ oJd c0 c1 c2 c3 = (0 : Int32) := by
  unfold oJd
  rw [if_neg ((own_eqJ0 c0 r0).2.1 e0), if_neg ((own_eqJ1 c1 r1).2.1 e1), if_neg ((own_eqJ2 c2 r2).2.1 e2), if_neg ((own_eqJ3 c3 r3).2.1 e3)]
  decide
theorem own_jN {c0 c1 c2 c3 : Int32} (r0 : oRg c0) (r1 : oRg c1) (r2 : oRg c2) (r3 : oRg c3) (h : ¬ (oLow c0 = (106 : Int32) ∧ oLow c1 = (100 : Int32) ∧ oLow c2 = (98 : Int32) ∧ oLow c3 = (99 : Int32))) : oJd c0 c1 c2 c3 = (0 : Int32) := by
  unfold oJd
  split
  · rfl
  · split
    · rfl
    · split
      · rfl
      · split
        · rfl
        · rename_i a0 a1 a2 a3
          exact absurd ⟨(own_eqJ0 c0 r0).2.2 a0, (own_eqJ1 c1 r1).2.2 a1, (own_eqJ2 c2 r2).2.2 a2, (own_eqJ3 c3 r3).2.2 a3⟩ h

theorem own_se0 {nn e c0 c1 c2 c3 c4 c5 c6 c7 : Int32} (r0 : oRg c0) (r1 : oRg c1) (r2 : oRg c2) (r3 : oRg c3) (r4 : oRg c4) (r5 : oRg c5) (r6 : oRg c6) (r7 : oRg c7) (hv : oSE (0 : Int32) nn c0 [((1 : Int32), c1), ((2 : Int32), c2), ((3 : Int32), c3), ((4 : Int32), c4), ((5 : Int32), c5), ((6 : Int32), c6), ((7 : Int32), c7)] = e) (h : ¬ e < (0 : Int32)) : oE7 e ∧ e < nn ∧ ((0 : Int32) < e → oTl c0 = oLow c0) ∧ ((1 : Int32) < e → oTl c1 = oLow c1) ∧ ((2 : Int32) < e → oTl c2 = oLow c2) ∧ ((3 : Int32) < e → oTl c3 = oLow c3) ∧ ((4 : Int32) < e → oTl c4 = oLow c4) ∧ ((5 : Int32) < e → oTl c5 = oLow c5) ∧ ((6 : Int32) < e → oTl c6 = oLow c6) ∧ (e = (4 : Int32) → c4 = (58 : Int32)) := by
  by_cases p0 : (0 : Int32) < nn
  · by_cases l0 : oLet c0 = (0 : Int32)
    · exfalso; apply h; rw [← hv]; simp [oSE, p0, l0]
    · skip
      by_cases n1 : (1 : Int32) < nn
      · by_cases q1 : c1 = (58 : Int32)
        · have e1 : e = 1 := by rw [← hv]; simp [oSE, oScan, p0, l0, n1, q1]
          subst e1
          exact ⟨(by decide), n1, (fun _ => own_tlL c0 r0 l0), (fun q => absurd q (by decide)), (fun q => absurd q (by decide)), (fun q => absurd q (by decide)), (fun q => absurd q (by decide)), (fun q => absurd q (by decide)), (fun q => absurd q (by decide)), (fun q => absurd q (by decide))⟩
        · by_cases o1 : oSch c1 = (0 : Int32)
          · exfalso; apply h; rw [← hv]; simp [oSE, oScan, p0, l0, n1, q1, o1]
          · skip
            by_cases n2 : (2 : Int32) < nn
            · by_cases q2 : c2 = (58 : Int32)
              · have e1 : e = 2 := by rw [← hv]; simp [oSE, oScan, p0, l0, n1, q1, o1, n2, q2]
                subst e1
                exact ⟨(by decide), n2, (fun _ => own_tlL c0 r0 l0), (fun _ => own_tlS c1 r1 o1), (fun q => absurd q (by decide)), (fun q => absurd q (by decide)), (fun q => absurd q (by decide)), (fun q => absurd q (by decide)), (fun q => absurd q (by decide)), (fun q => absurd q (by decide))⟩
              · by_cases o2 : oSch c2 = (0 : Int32)
                · exfalso; apply h; rw [← hv]; simp [oSE, oScan, p0, l0, n1, q1, o1, n2, q2, o2]
                · skip
                  by_cases n3 : (3 : Int32) < nn
                  · by_cases q3 : c3 = (58 : Int32)
                    · have e1 : e = 3 := by rw [← hv]; simp [oSE, oScan, p0, l0, n1, q1, o1, n2, q2, o2, n3, q3]
                      subst e1
                      exact ⟨(by decide), n3, (fun _ => own_tlL c0 r0 l0), (fun _ => own_tlS c1 r1 o1), (fun _ => own_tlS c2 r2 o2), (fun q => absurd q (by decide)), (fun q => absurd q (by decide)), (fun q => absurd q (by decide)), (fun q => absurd q (by decide)), (fun q => absurd q (by decide))⟩
                    · by_cases o3 : oSch c3 = (0 : Int32)
                      · exfalso; apply h; rw [← hv]; simp [oSE, oScan, p0, l0, n1, q1, o1, n2, q2, o2, n3, q3, o3]
                      · skip
                        by_cases n4 : (4 : Int32) < nn
                        · by_cases q4 : c4 = (58 : Int32)
                          · have e1 : e = 4 := by rw [← hv]; simp [oSE, oScan, p0, l0, n1, q1, o1, n2, q2, o2, n3, q3, o3, n4, q4]
                            subst e1
                            exact ⟨(by decide), n4, (fun _ => own_tlL c0 r0 l0), (fun _ => own_tlS c1 r1 o1), (fun _ => own_tlS c2 r2 o2), (fun _ => own_tlS c3 r3 o3), (fun q => absurd q (by decide)), (fun q => absurd q (by decide)), (fun q => absurd q (by decide)), (fun _ => q4)⟩
                          · by_cases o4 : oSch c4 = (0 : Int32)
                            · exfalso; apply h; rw [← hv]; simp [oSE, oScan, p0, l0, n1, q1, o1, n2, q2, o2, n3, q3, o3, n4, q4, o4]
                            · skip
                              by_cases n5 : (5 : Int32) < nn
                              · by_cases q5 : c5 = (58 : Int32)
                                · have e1 : e = 5 := by rw [← hv]; simp [oSE, oScan, p0, l0, n1, q1, o1, n2, q2, o2, n3, q3, o3, n4, q4, o4, n5, q5]
                                  subst e1
                                  exact ⟨(by decide), n5, (fun _ => own_tlL c0 r0 l0), (fun _ => own_tlS c1 r1 o1), (fun _ => own_tlS c2 r2 o2), (fun _ => own_tlS c3 r3 o3), (fun _ => own_tlS c4 r4 o4), (fun q => absurd q (by decide)), (fun q => absurd q (by decide)), (fun q => absurd q (by decide))⟩
                                · by_cases o5 : oSch c5 = (0 : Int32)
                                  · exfalso; apply h; rw [← hv]; simp [oSE, oScan, p0, l0, n1, q1, o1, n2, q2, o2, n3, q3, o3, n4, q4, o4, n5, q5, o5]
                                  · skip
                                    by_cases n6 : (6 : Int32) < nn
                                    · by_cases q6 : c6 = (58 : Int32)
                                      · have e1 : e = 6 := by rw [← hv]; simp [oSE, oScan, p0, l0, n1, q1, o1, n2, q2, o2, n3, q3, o3, n4, q4, o4, n5, q5, o5, n6, q6]
                                        subst e1
                                        exact ⟨(by decide), n6, (fun _ => own_tlL c0 r0 l0), (fun _ => own_tlS c1 r1 o1), (fun _ => own_tlS c2 r2 o2), (fun _ => own_tlS c3 r3 o3), (fun _ => own_tlS c4 r4 o4), (fun _ => own_tlS c5 r5 o5), (fun q => absurd q (by decide)), (fun q => absurd q (by decide))⟩
                                      · by_cases o6 : oSch c6 = (0 : Int32)
                                        · exfalso; apply h; rw [← hv]; simp [oSE, oScan, p0, l0, n1, q1, o1, n2, q2, o2, n3, q3, o3, n4, q4, o4, n5, q5, o5, n6, q6, o6]
                                        · skip
                                          by_cases n7 : (7 : Int32) < nn
                                          · by_cases q7 : c7 = (58 : Int32)
                                            · have e1 : e = 7 := by rw [← hv]; simp [oSE, oScan, p0, l0, n1, q1, o1, n2, q2, o2, n3, q3, o3, n4, q4, o4, n5, q5, o5, n6, q6, o6, n7, q7]
                                              subst e1
                                              exact ⟨(by decide), n7, (fun _ => own_tlL c0 r0 l0), (fun _ => own_tlS c1 r1 o1), (fun _ => own_tlS c2 r2 o2), (fun _ => own_tlS c3 r3 o3), (fun _ => own_tlS c4 r4 o4), (fun _ => own_tlS c5 r5 o5), (fun _ => own_tlS c6 r6 o6), (fun q => absurd q (by decide))⟩
                                            · by_cases o7 : oSch c7 = (0 : Int32)
                                              · exfalso; apply h; rw [← hv]; simp [oSE, oScan, p0, l0, n1, q1, o1, n2, q2, o2, n3, q3, o3, n4, q4, o4, n5, q5, o5, n6, q6, o6, n7, q7, o7]
                                              · skip
                                                exfalso; apply h; rw [← hv]; simp [oSE, oScan, p0, l0, n1, q1, o1, n2, q2, o2, n3, q3, o3, n4, q4, o4, n5, q5, o5, n6, q6, o6, n7, q7, o7]
                                          · exfalso; apply h; rw [← hv]; simp [oSE, oScan, p0, l0, n1, q1, o1, n2, q2, o2, n3, q3, o3, n4, q4, o4, n5, q5, o5, n6, q6, o6, n7]
                                    · exfalso; apply h; rw [← hv]; simp [oSE, oScan, p0, l0, n1, q1, o1, n2, q2, o2, n3, q3, o3, n4, q4, o4, n5, q5, o5, n6]
                              · exfalso; apply h; rw [← hv]; simp [oSE, oScan, p0, l0, n1, q1, o1, n2, q2, o2, n3, q3, o3, n4, q4, o4, n5]
                        · exfalso; apply h; rw [← hv]; simp [oSE, oScan, p0, l0, n1, q1, o1, n2, q2, o2, n3, q3, o3, n4]
                  · exfalso; apply h; rw [← hv]; simp [oSE, oScan, p0, l0, n1, q1, o1, n2, q2, o2, n3]
            · exfalso; apply h; rw [← hv]; simp [oSE, oScan, p0, l0, n1, q1, o1, n2]
      · exfalso; apply h; rw [← hv]; simp [oSE, oScan, p0, l0, n1]
  · exfalso; apply h; rw [← hv]; simp [oSE, p0]

theorem own_se5 {nn e c0 c1 c2 c3 c4 c5 c6 c7 : Int32} (r0 : oRg c0) (r1 : oRg c1) (r2 : oRg c2) (r3 : oRg c3) (r4 : oRg c4) (r5 : oRg c5) (r6 : oRg c6) (r7 : oRg c7) (hv : oSE (5 : Int32) nn c5 [((6 : Int32), c6), ((7 : Int32), c7)] = e) (h : ¬ e < (0 : Int32)) : oE7 e ∧ e < nn ∧ ((5 : Int32) < e → oTl c5 = oLow c5) ∧ ((6 : Int32) < e → oTl c6 = oLow c6) := by
  by_cases p0 : (5 : Int32) < nn
  · by_cases l0 : oLet c5 = (0 : Int32)
    · exfalso; apply h; rw [← hv]; simp [oSE, p0, l0]
    · skip
      by_cases n6 : (6 : Int32) < nn
      · by_cases q6 : c6 = (58 : Int32)
        · have e1 : e = 6 := by rw [← hv]; simp [oSE, oScan, p0, l0, n6, q6]
          subst e1
          exact ⟨(by decide), n6, (fun _ => own_tlL c5 r5 l0), (fun q => absurd q (by decide))⟩
        · by_cases o6 : oSch c6 = (0 : Int32)
          · exfalso; apply h; rw [← hv]; simp [oSE, oScan, p0, l0, n6, q6, o6]
          · skip
            by_cases n7 : (7 : Int32) < nn
            · by_cases q7 : c7 = (58 : Int32)
              · have e1 : e = 7 := by rw [← hv]; simp [oSE, oScan, p0, l0, n6, q6, o6, n7, q7]
                subst e1
                exact ⟨(by decide), n7, (fun _ => own_tlL c5 r5 l0), (fun _ => own_tlS c6 r6 o6)⟩
              · by_cases o7 : oSch c7 = (0 : Int32)
                · exfalso; apply h; rw [← hv]; simp [oSE, oScan, p0, l0, n6, q6, o6, n7, q7, o7]
                · skip
                  exfalso; apply h; rw [← hv]; simp [oSE, oScan, p0, l0, n6, q6, o6, n7, q7, o7]
            · exfalso; apply h; rw [← hv]; simp [oSE, oScan, p0, l0, n6, q6, o6, n7]
      · exfalso; apply h; rw [← hv]; simp [oSE, oScan, p0, l0, n6]
  · exfalso; apply h; rw [← hv]; simp [oSE, p0]

abbrev K47 (n : Nat) (i : Instr) (k : Nat) : Prop := decode method_3_code n = .ok (i, k)
set_option maxRecDepth 65536 in
theorem t47 : K47 0 (.iload_n 3) 1 ∧ K47 1 (.iload_n 2) 1 ∧ K47 2 (.if_icmp .ge 17) 3 ∧ K47 5 (.aload_n 0) 1 ∧ K47 6 (.iload_n 3) 1 ∧ K47 7 (.invokevirtual 56) 3 ∧ K47 10 (.aload_n 1) 1 ∧ K47 11 (.iload_n 3) 1 ∧ K47 12 .caload 1 ∧ K47 13 (.invokestatic 27) 3 ∧ K47 16 (.if_icmp .ne 7) 3 ∧ K47 19 (.iconst 1) 1 ∧ K47 20 (.goto 4) 3 ∧ K47 24 .ireturn 1 := by and_intros <;> decide +kernel
theorem pd_29 : parseMethodDescriptor "(C)C" = some ⟨[.char], some .char⟩ := by decide +kernel
theorem rm_ag0 (a t : Addr) (kb : ClassId) (ee : Int32) (sA : Addr) (ks : ClassId) (c0 c1 c2 c3 c4 c5 c6 c7 : Int32) (H : oH Z a0 n0 h0 wR wI zc vf wB wL wV cV) (E_a : Exa Z h0 a "java/lang/String") (F_c : Fld Z h0 a "java/lang/String" "coder" "B" (.int (0 : Int32))) (F_v : Fld Z h0 a "java/lang/String" "value" "[B" (.ref t)) (V_t : Arv Z h0 t kb .byte ee (oT8 c0 c1 c2 c3 c4 c5 c6 c7) (.int (0 : Int32))) (V_s : Arv Z h0 sA ks .char (8 : Int32) (oC8 c0 c1 c2 c3 c4 c5 c6 c7) (.int (0 : Int32))) (r0 : oRg c0) (r1 : oRg c1) (r2 : oRg c2) (r3 : oRg c3) (r4 : oRg c4) (r5 : oRg c5) (r6 : oRg c6) (r7 : oRg c7) (hq : (0 : Int32) < ee → oTl c0 = oLow c0) : oPu l Z (⟨sW, "agree", "(Ljava/lang/String;[CII)Z"⟩ : MethodName) method_3_code 4 (some .boolean) (oRm 4 0 0 53) #[(.ref a), (.ref sA), (.int ee), (.int (0 : Int32))] h0 n0 (some (.int (1 : Int32))) := by
  obtain ⟨hw, O0, hS⟩ := H
  refine oBody (plainFor_of_name pn_0) #[oa a, oa sA, oi ee, oi (0 : Int32)] (fun _ => by first | (simp [entryFrame, mkF, argsToLocals, Value.category]; done) | rfl) ?_
  intro pG eG sG mG belowG methG cG s₁ hx hby hml hown hnm hret hlk X0 e0 hZ
  have N0 := Fr.nil n0
  have K0 := Keep.refl h0 []
  obtain ⟨d0, d1, d2, d5, d6, d7, d10, d11, d12, d13, d16, d19, d20, d24⟩ := t47
  refine uI X0 hx hby d0 rfl 1 (uI X0 hx hby d1 rfl 2 ?_)
  by_cases hc1 : (0 : Int32) < ee
  · refine uNc X0 hx hby d2 (tlt hc1).2.1 5 (uA X0 hx hby d5 rfl 6 (uI X0 hx hby d6 rfl 7 ?_))
    refine oVp X0 hx hby hZ hown (ow hw 220 rfl) (ow hw 85 rfl) (ow hw 87 rfl) (ow hw 86 rfl) (ow hw 88 rfl) (ow hw 8 rfl) (rm_ch0 a t kb ee (oTl c0) (oTl c1) (oTl c2) (oTl c3) (oTl c4) (oTl c5) (oTl c6) (oTl c7) ⟨hw, O0, hS⟩ E_a F_c F_v V_t (own_tlR c0 r0) hc1) e0 E_a N0 hml [(.int (0 : Int32))] [] pd_9 d7 10 ?_
    intro T2 L2 X2 e2 N2
    refine uA X2 hx hby d10 rfl 11 (uI X2 hx hby d11 rfl 12 (oLc X2 hx hby hZ e2 V_s ⟨by decide, by decide⟩ rfl d12 13 ?_))
    refine oCp X2 hx hby hZ hown (ow hw 59 rfl) (ow hw 60 rfl) (ow hw 61 rfl) (ow hw 3 rfl) (rm_low c0 ⟨hw, O0, hS⟩ r0) e2 N2 hml [(.int c0)] [(.int (oTl c0))] pd_29 d13 16 ?_
    intro T3 L3 X3 e3 N3
    refine uNc X3 hx hby d16 (teq (hq hc1)).2 19 (uC X3 hx hby d19 1 20 (uG X3 hx hby d20 24 ?_))
    exact oRZ X3 hx hby hret hlk e3 d24 (1 : Int32) ⟨rfl, N3, rfl⟩
  refine uYc X0 hx hby d2 (flt hc1).2.1 19 (uC X0 hx hby d19 1 20 (uG X0 hx hby d20 24 ?_))
  exact oRZ X0 hx hby hret hlk e0 d24 (1 : Int32) ⟨rfl, N0, rfl⟩

theorem rm_ag1 (a t : Addr) (kb : ClassId) (ee : Int32) (sA : Addr) (ks : ClassId) (c0 c1 c2 c3 c4 c5 c6 c7 : Int32) (H : oH Z a0 n0 h0 wR wI zc vf wB wL wV cV) (E_a : Exa Z h0 a "java/lang/String") (F_c : Fld Z h0 a "java/lang/String" "coder" "B" (.int (0 : Int32))) (F_v : Fld Z h0 a "java/lang/String" "value" "[B" (.ref t)) (V_t : Arv Z h0 t kb .byte ee (oT8 c0 c1 c2 c3 c4 c5 c6 c7) (.int (0 : Int32))) (V_s : Arv Z h0 sA ks .char (8 : Int32) (oC8 c0 c1 c2 c3 c4 c5 c6 c7) (.int (0 : Int32))) (r0 : oRg c0) (r1 : oRg c1) (r2 : oRg c2) (r3 : oRg c3) (r4 : oRg c4) (r5 : oRg c5) (r6 : oRg c6) (r7 : oRg c7) (hq : (1 : Int32) < ee → oTl c1 = oLow c1) : oPu l Z (⟨sW, "agree", "(Ljava/lang/String;[CII)Z"⟩ : MethodName) method_3_code 4 (some .boolean) (oRm 4 0 0 53) #[(.ref a), (.ref sA), (.int ee), (.int (1 : Int32))] h0 n0 (some (.int (1 : Int32))) := by
  obtain ⟨hw, O0, hS⟩ := H
  refine oBody (plainFor_of_name pn_0) #[oa a, oa sA, oi ee, oi (1 : Int32)] (fun _ => by first | (simp [entryFrame, mkF, argsToLocals, Value.category]; done) | rfl) ?_
  intro pG eG sG mG belowG methG cG s₁ hx hby hml hown hnm hret hlk X0 e0 hZ
  have N0 := Fr.nil n0
  have K0 := Keep.refl h0 []
  obtain ⟨d0, d1, d2, d5, d6, d7, d10, d11, d12, d13, d16, d19, d20, d24⟩ := t47
  refine uI X0 hx hby d0 rfl 1 (uI X0 hx hby d1 rfl 2 ?_)
  by_cases hc1 : (1 : Int32) < ee
  · refine uNc X0 hx hby d2 (tlt hc1).2.1 5 (uA X0 hx hby d5 rfl 6 (uI X0 hx hby d6 rfl 7 ?_))
    refine oVp X0 hx hby hZ hown (ow hw 220 rfl) (ow hw 85 rfl) (ow hw 87 rfl) (ow hw 86 rfl) (ow hw 88 rfl) (ow hw 8 rfl) (rm_ch1 a t kb ee (oTl c0) (oTl c1) (oTl c2) (oTl c3) (oTl c4) (oTl c5) (oTl c6) (oTl c7) ⟨hw, O0, hS⟩ E_a F_c F_v V_t (own_tlR c1 r1) hc1) e0 E_a N0 hml [(.int (1 : Int32))] [] pd_9 d7 10 ?_
    intro T2 L2 X2 e2 N2
    refine uA X2 hx hby d10 rfl 11 (uI X2 hx hby d11 rfl 12 (oLc X2 hx hby hZ e2 V_s ⟨by decide, by decide⟩ rfl d12 13 ?_))
    refine oCp X2 hx hby hZ hown (ow hw 59 rfl) (ow hw 60 rfl) (ow hw 61 rfl) (ow hw 3 rfl) (rm_low c1 ⟨hw, O0, hS⟩ r1) e2 N2 hml [(.int c1)] [(.int (oTl c1))] pd_29 d13 16 ?_
    intro T3 L3 X3 e3 N3
    refine uNc X3 hx hby d16 (teq (hq hc1)).2 19 (uC X3 hx hby d19 1 20 (uG X3 hx hby d20 24 ?_))
    exact oRZ X3 hx hby hret hlk e3 d24 (1 : Int32) ⟨rfl, N3, rfl⟩
  refine uYc X0 hx hby d2 (flt hc1).2.1 19 (uC X0 hx hby d19 1 20 (uG X0 hx hby d20 24 ?_))
  exact oRZ X0 hx hby hret hlk e0 d24 (1 : Int32) ⟨rfl, N0, rfl⟩

theorem rm_ag2 (a t : Addr) (kb : ClassId) (ee : Int32) (sA : Addr) (ks : ClassId) (c0 c1 c2 c3 c4 c5 c6 c7 : Int32) (H : oH Z a0 n0 h0 wR wI zc vf wB wL wV cV) (E_a : Exa Z h0 a "java/lang/String") (F_c : Fld Z h0 a "java/lang/String" "coder" "B" (.int (0 : Int32))) (F_v : Fld Z h0 a "java/lang/String" "value" "[B" (.ref t)) (V_t : Arv Z h0 t kb .byte ee (oT8 c0 c1 c2 c3 c4 c5 c6 c7) (.int (0 : Int32))) (V_s : Arv Z h0 sA ks .char (8 : Int32) (oC8 c0 c1 c2 c3 c4 c5 c6 c7) (.int (0 : Int32))) (r0 : oRg c0) (r1 : oRg c1) (r2 : oRg c2) (r3 : oRg c3) (r4 : oRg c4) (r5 : oRg c5) (r6 : oRg c6) (r7 : oRg c7) (hq : (2 : Int32) < ee → oTl c2 = oLow c2) : oPu l Z (⟨sW, "agree", "(Ljava/lang/String;[CII)Z"⟩ : MethodName) method_3_code 4 (some .boolean) (oRm 4 0 0 53) #[(.ref a), (.ref sA), (.int ee), (.int (2 : Int32))] h0 n0 (some (.int (1 : Int32))) := by
  obtain ⟨hw, O0, hS⟩ := H
  refine oBody (plainFor_of_name pn_0) #[oa a, oa sA, oi ee, oi (2 : Int32)] (fun _ => by first | (simp [entryFrame, mkF, argsToLocals, Value.category]; done) | rfl) ?_
  intro pG eG sG mG belowG methG cG s₁ hx hby hml hown hnm hret hlk X0 e0 hZ
  have N0 := Fr.nil n0
  have K0 := Keep.refl h0 []
  obtain ⟨d0, d1, d2, d5, d6, d7, d10, d11, d12, d13, d16, d19, d20, d24⟩ := t47
  refine uI X0 hx hby d0 rfl 1 (uI X0 hx hby d1 rfl 2 ?_)
  by_cases hc1 : (2 : Int32) < ee
  · refine uNc X0 hx hby d2 (tlt hc1).2.1 5 (uA X0 hx hby d5 rfl 6 (uI X0 hx hby d6 rfl 7 ?_))
    refine oVp X0 hx hby hZ hown (ow hw 220 rfl) (ow hw 85 rfl) (ow hw 87 rfl) (ow hw 86 rfl) (ow hw 88 rfl) (ow hw 8 rfl) (rm_ch2 a t kb ee (oTl c0) (oTl c1) (oTl c2) (oTl c3) (oTl c4) (oTl c5) (oTl c6) (oTl c7) ⟨hw, O0, hS⟩ E_a F_c F_v V_t (own_tlR c2 r2) hc1) e0 E_a N0 hml [(.int (2 : Int32))] [] pd_9 d7 10 ?_
    intro T2 L2 X2 e2 N2
    refine uA X2 hx hby d10 rfl 11 (uI X2 hx hby d11 rfl 12 (oLc X2 hx hby hZ e2 V_s ⟨by decide, by decide⟩ rfl d12 13 ?_))
    refine oCp X2 hx hby hZ hown (ow hw 59 rfl) (ow hw 60 rfl) (ow hw 61 rfl) (ow hw 3 rfl) (rm_low c2 ⟨hw, O0, hS⟩ r2) e2 N2 hml [(.int c2)] [(.int (oTl c2))] pd_29 d13 16 ?_
    intro T3 L3 X3 e3 N3
    refine uNc X3 hx hby d16 (teq (hq hc1)).2 19 (uC X3 hx hby d19 1 20 (uG X3 hx hby d20 24 ?_))
    exact oRZ X3 hx hby hret hlk e3 d24 (1 : Int32) ⟨rfl, N3, rfl⟩
  refine uYc X0 hx hby d2 (flt hc1).2.1 19 (uC X0 hx hby d19 1 20 (uG X0 hx hby d20 24 ?_))
  exact oRZ X0 hx hby hret hlk e0 d24 (1 : Int32) ⟨rfl, N0, rfl⟩

theorem rm_ag3 (a t : Addr) (kb : ClassId) (ee : Int32) (sA : Addr) (ks : ClassId) (c0 c1 c2 c3 c4 c5 c6 c7 : Int32) (H : oH Z a0 n0 h0 wR wI zc vf wB wL wV cV) (E_a : Exa Z h0 a "java/lang/String") (F_c : Fld Z h0 a "java/lang/String" "coder" "B" (.int (0 : Int32))) (F_v : Fld Z h0 a "java/lang/String" "value" "[B" (.ref t)) (V_t : Arv Z h0 t kb .byte ee (oT8 c0 c1 c2 c3 c4 c5 c6 c7) (.int (0 : Int32))) (V_s : Arv Z h0 sA ks .char (8 : Int32) (oC8 c0 c1 c2 c3 c4 c5 c6 c7) (.int (0 : Int32))) (r0 : oRg c0) (r1 : oRg c1) (r2 : oRg c2) (r3 : oRg c3) (r4 : oRg c4) (r5 : oRg c5) (r6 : oRg c6) (r7 : oRg c7) (hq : (3 : Int32) < ee → oTl c3 = oLow c3) : oPu l Z (⟨sW, "agree", "(Ljava/lang/String;[CII)Z"⟩ : MethodName) method_3_code 4 (some .boolean) (oRm 4 0 0 53) #[(.ref a), (.ref sA), (.int ee), (.int (3 : Int32))] h0 n0 (some (.int (1 : Int32))) := by
  obtain ⟨hw, O0, hS⟩ := H
  refine oBody (plainFor_of_name pn_0) #[oa a, oa sA, oi ee, oi (3 : Int32)] (fun _ => by first | (simp [entryFrame, mkF, argsToLocals, Value.category]; done) | rfl) ?_
  intro pG eG sG mG belowG methG cG s₁ hx hby hml hown hnm hret hlk X0 e0 hZ
  have N0 := Fr.nil n0
  have K0 := Keep.refl h0 []
  obtain ⟨d0, d1, d2, d5, d6, d7, d10, d11, d12, d13, d16, d19, d20, d24⟩ := t47
  refine uI X0 hx hby d0 rfl 1 (uI X0 hx hby d1 rfl 2 ?_)
  by_cases hc1 : (3 : Int32) < ee
  · refine uNc X0 hx hby d2 (tlt hc1).2.1 5 (uA X0 hx hby d5 rfl 6 (uI X0 hx hby d6 rfl 7 ?_))
    refine oVp X0 hx hby hZ hown (ow hw 220 rfl) (ow hw 85 rfl) (ow hw 87 rfl) (ow hw 86 rfl) (ow hw 88 rfl) (ow hw 8 rfl) (rm_ch3 a t kb ee (oTl c0) (oTl c1) (oTl c2) (oTl c3) (oTl c4) (oTl c5) (oTl c6) (oTl c7) ⟨hw, O0, hS⟩ E_a F_c F_v V_t (own_tlR c3 r3) hc1) e0 E_a N0 hml [(.int (3 : Int32))] [] pd_9 d7 10 ?_
    intro T2 L2 X2 e2 N2
    refine uA X2 hx hby d10 rfl 11 (uI X2 hx hby d11 rfl 12 (oLc X2 hx hby hZ e2 V_s ⟨by decide, by decide⟩ rfl d12 13 ?_))
    refine oCp X2 hx hby hZ hown (ow hw 59 rfl) (ow hw 60 rfl) (ow hw 61 rfl) (ow hw 3 rfl) (rm_low c3 ⟨hw, O0, hS⟩ r3) e2 N2 hml [(.int c3)] [(.int (oTl c3))] pd_29 d13 16 ?_
    intro T3 L3 X3 e3 N3
    refine uNc X3 hx hby d16 (teq (hq hc1)).2 19 (uC X3 hx hby d19 1 20 (uG X3 hx hby d20 24 ?_))
    exact oRZ X3 hx hby hret hlk e3 d24 (1 : Int32) ⟨rfl, N3, rfl⟩
  refine uYc X0 hx hby d2 (flt hc1).2.1 19 (uC X0 hx hby d19 1 20 (uG X0 hx hby d20 24 ?_))
  exact oRZ X0 hx hby hret hlk e0 d24 (1 : Int32) ⟨rfl, N0, rfl⟩

theorem rm_ag4 (a t : Addr) (kb : ClassId) (ee : Int32) (sA : Addr) (ks : ClassId) (c0 c1 c2 c3 c4 c5 c6 c7 : Int32) (H : oH Z a0 n0 h0 wR wI zc vf wB wL wV cV) (E_a : Exa Z h0 a "java/lang/String") (F_c : Fld Z h0 a "java/lang/String" "coder" "B" (.int (0 : Int32))) (F_v : Fld Z h0 a "java/lang/String" "value" "[B" (.ref t)) (V_t : Arv Z h0 t kb .byte ee (oT8 c0 c1 c2 c3 c4 c5 c6 c7) (.int (0 : Int32))) (V_s : Arv Z h0 sA ks .char (8 : Int32) (oC8 c0 c1 c2 c3 c4 c5 c6 c7) (.int (0 : Int32))) (r0 : oRg c0) (r1 : oRg c1) (r2 : oRg c2) (r3 : oRg c3) (r4 : oRg c4) (r5 : oRg c5) (r6 : oRg c6) (r7 : oRg c7) (hq : (4 : Int32) < ee → oTl c4 = oLow c4) : oPu l Z (⟨sW, "agree", "(Ljava/lang/String;[CII)Z"⟩ : MethodName) method_3_code 4 (some .boolean) (oRm 4 0 0 53) #[(.ref a), (.ref sA), (.int ee), (.int (4 : Int32))] h0 n0 (some (.int (1 : Int32))) := by
  obtain ⟨hw, O0, hS⟩ := H
  refine oBody (plainFor_of_name pn_0) #[oa a, oa sA, oi ee, oi (4 : Int32)] (fun _ => by first | (simp [entryFrame, mkF, argsToLocals, Value.category]; done) | rfl) ?_
  intro pG eG sG mG belowG methG cG s₁ hx hby hml hown hnm hret hlk X0 e0 hZ
  have N0 := Fr.nil n0
  have K0 := Keep.refl h0 []
  obtain ⟨d0, d1, d2, d5, d6, d7, d10, d11, d12, d13, d16, d19, d20, d24⟩ := t47
  refine uI X0 hx hby d0 rfl 1 (uI X0 hx hby d1 rfl 2 ?_)
  by_cases hc1 : (4 : Int32) < ee
  · refine uNc X0 hx hby d2 (tlt hc1).2.1 5 (uA X0 hx hby d5 rfl 6 (uI X0 hx hby d6 rfl 7 ?_))
    refine oVp X0 hx hby hZ hown (ow hw 220 rfl) (ow hw 85 rfl) (ow hw 87 rfl) (ow hw 86 rfl) (ow hw 88 rfl) (ow hw 8 rfl) (rm_ch4 a t kb ee (oTl c0) (oTl c1) (oTl c2) (oTl c3) (oTl c4) (oTl c5) (oTl c6) (oTl c7) ⟨hw, O0, hS⟩ E_a F_c F_v V_t (own_tlR c4 r4) hc1) e0 E_a N0 hml [(.int (4 : Int32))] [] pd_9 d7 10 ?_
    intro T2 L2 X2 e2 N2
    refine uA X2 hx hby d10 rfl 11 (uI X2 hx hby d11 rfl 12 (oLc X2 hx hby hZ e2 V_s ⟨by decide, by decide⟩ rfl d12 13 ?_))
    refine oCp X2 hx hby hZ hown (ow hw 59 rfl) (ow hw 60 rfl) (ow hw 61 rfl) (ow hw 3 rfl) (rm_low c4 ⟨hw, O0, hS⟩ r4) e2 N2 hml [(.int c4)] [(.int (oTl c4))] pd_29 d13 16 ?_
    intro T3 L3 X3 e3 N3
    refine uNc X3 hx hby d16 (teq (hq hc1)).2 19 (uC X3 hx hby d19 1 20 (uG X3 hx hby d20 24 ?_))
    exact oRZ X3 hx hby hret hlk e3 d24 (1 : Int32) ⟨rfl, N3, rfl⟩
  refine uYc X0 hx hby d2 (flt hc1).2.1 19 (uC X0 hx hby d19 1 20 (uG X0 hx hby d20 24 ?_))
  exact oRZ X0 hx hby hret hlk e0 d24 (1 : Int32) ⟨rfl, N0, rfl⟩

theorem rm_ag5 (a t : Addr) (kb : ClassId) (ee : Int32) (sA : Addr) (ks : ClassId) (c0 c1 c2 c3 c4 c5 c6 c7 : Int32) (H : oH Z a0 n0 h0 wR wI zc vf wB wL wV cV) (E_a : Exa Z h0 a "java/lang/String") (F_c : Fld Z h0 a "java/lang/String" "coder" "B" (.int (0 : Int32))) (F_v : Fld Z h0 a "java/lang/String" "value" "[B" (.ref t)) (V_t : Arv Z h0 t kb .byte ee (oT8 c0 c1 c2 c3 c4 c5 c6 c7) (.int (0 : Int32))) (V_s : Arv Z h0 sA ks .char (8 : Int32) (oC8 c0 c1 c2 c3 c4 c5 c6 c7) (.int (0 : Int32))) (r0 : oRg c0) (r1 : oRg c1) (r2 : oRg c2) (r3 : oRg c3) (r4 : oRg c4) (r5 : oRg c5) (r6 : oRg c6) (r7 : oRg c7) (hq : (5 : Int32) < ee → oTl c5 = oLow c5) : oPu l Z (⟨sW, "agree", "(Ljava/lang/String;[CII)Z"⟩ : MethodName) method_3_code 4 (some .boolean) (oRm 4 0 0 53) #[(.ref a), (.ref sA), (.int ee), (.int (5 : Int32))] h0 n0 (some (.int (1 : Int32))) := by
  obtain ⟨hw, O0, hS⟩ := H
  refine oBody (plainFor_of_name pn_0) #[oa a, oa sA, oi ee, oi (5 : Int32)] (fun _ => by first | (simp [entryFrame, mkF, argsToLocals, Value.category]; done) | rfl) ?_
  intro pG eG sG mG belowG methG cG s₁ hx hby hml hown hnm hret hlk X0 e0 hZ
  have N0 := Fr.nil n0
  have K0 := Keep.refl h0 []
  obtain ⟨d0, d1, d2, d5, d6, d7, d10, d11, d12, d13, d16, d19, d20, d24⟩ := t47
  refine uI X0 hx hby d0 rfl 1 (uI X0 hx hby d1 rfl 2 ?_)
  by_cases hc1 : (5 : Int32) < ee
  · refine uNc X0 hx hby d2 (tlt hc1).2.1 5 (uA X0 hx hby d5 rfl 6 (uI X0 hx hby d6 rfl 7 ?_))
    refine oVp X0 hx hby hZ hown (ow hw 220 rfl) (ow hw 85 rfl) (ow hw 87 rfl) (ow hw 86 rfl) (ow hw 88 rfl) (ow hw 8 rfl) (rm_ch5 a t kb ee (oTl c0) (oTl c1) (oTl c2) (oTl c3) (oTl c4) (oTl c5) (oTl c6) (oTl c7) ⟨hw, O0, hS⟩ E_a F_c F_v V_t (own_tlR c5 r5) hc1) e0 E_a N0 hml [(.int (5 : Int32))] [] pd_9 d7 10 ?_
    intro T2 L2 X2 e2 N2
    refine uA X2 hx hby d10 rfl 11 (uI X2 hx hby d11 rfl 12 (oLc X2 hx hby hZ e2 V_s ⟨by decide, by decide⟩ rfl d12 13 ?_))
    refine oCp X2 hx hby hZ hown (ow hw 59 rfl) (ow hw 60 rfl) (ow hw 61 rfl) (ow hw 3 rfl) (rm_low c5 ⟨hw, O0, hS⟩ r5) e2 N2 hml [(.int c5)] [(.int (oTl c5))] pd_29 d13 16 ?_
    intro T3 L3 X3 e3 N3
    refine uNc X3 hx hby d16 (teq (hq hc1)).2 19 (uC X3 hx hby d19 1 20 (uG X3 hx hby d20 24 ?_))
    exact oRZ X3 hx hby hret hlk e3 d24 (1 : Int32) ⟨rfl, N3, rfl⟩
  refine uYc X0 hx hby d2 (flt hc1).2.1 19 (uC X0 hx hby d19 1 20 (uG X0 hx hby d20 24 ?_))
  exact oRZ X0 hx hby hret hlk e0 d24 (1 : Int32) ⟨rfl, N0, rfl⟩

theorem rm_ag6 (a t : Addr) (kb : ClassId) (ee : Int32) (sA : Addr) (ks : ClassId) (c0 c1 c2 c3 c4 c5 c6 c7 : Int32) (H : oH Z a0 n0 h0 wR wI zc vf wB wL wV cV) (E_a : Exa Z h0 a "java/lang/String") (F_c : Fld Z h0 a "java/lang/String" "coder" "B" (.int (0 : Int32))) (F_v : Fld Z h0 a "java/lang/String" "value" "[B" (.ref t)) (V_t : Arv Z h0 t kb .byte ee (oT8 c0 c1 c2 c3 c4 c5 c6 c7) (.int (0 : Int32))) (V_s : Arv Z h0 sA ks .char (8 : Int32) (oC8 c0 c1 c2 c3 c4 c5 c6 c7) (.int (0 : Int32))) (r0 : oRg c0) (r1 : oRg c1) (r2 : oRg c2) (r3 : oRg c3) (r4 : oRg c4) (r5 : oRg c5) (r6 : oRg c6) (r7 : oRg c7) (hq : (6 : Int32) < ee → oTl c6 = oLow c6) : oPu l Z (⟨sW, "agree", "(Ljava/lang/String;[CII)Z"⟩ : MethodName) method_3_code 4 (some .boolean) (oRm 4 0 0 53) #[(.ref a), (.ref sA), (.int ee), (.int (6 : Int32))] h0 n0 (some (.int (1 : Int32))) := by
  obtain ⟨hw, O0, hS⟩ := H
  refine oBody (plainFor_of_name pn_0) #[oa a, oa sA, oi ee, oi (6 : Int32)] (fun _ => by first | (simp [entryFrame, mkF, argsToLocals, Value.category]; done) | rfl) ?_
  intro pG eG sG mG belowG methG cG s₁ hx hby hml hown hnm hret hlk X0 e0 hZ
  have N0 := Fr.nil n0
  have K0 := Keep.refl h0 []
  obtain ⟨d0, d1, d2, d5, d6, d7, d10, d11, d12, d13, d16, d19, d20, d24⟩ := t47
  refine uI X0 hx hby d0 rfl 1 (uI X0 hx hby d1 rfl 2 ?_)
  by_cases hc1 : (6 : Int32) < ee
  · refine uNc X0 hx hby d2 (tlt hc1).2.1 5 (uA X0 hx hby d5 rfl 6 (uI X0 hx hby d6 rfl 7 ?_))
    refine oVp X0 hx hby hZ hown (ow hw 220 rfl) (ow hw 85 rfl) (ow hw 87 rfl) (ow hw 86 rfl) (ow hw 88 rfl) (ow hw 8 rfl) (rm_ch6 a t kb ee (oTl c0) (oTl c1) (oTl c2) (oTl c3) (oTl c4) (oTl c5) (oTl c6) (oTl c7) ⟨hw, O0, hS⟩ E_a F_c F_v V_t (own_tlR c6 r6) hc1) e0 E_a N0 hml [(.int (6 : Int32))] [] pd_9 d7 10 ?_
    intro T2 L2 X2 e2 N2
    refine uA X2 hx hby d10 rfl 11 (uI X2 hx hby d11 rfl 12 (oLc X2 hx hby hZ e2 V_s ⟨by decide, by decide⟩ rfl d12 13 ?_))
    refine oCp X2 hx hby hZ hown (ow hw 59 rfl) (ow hw 60 rfl) (ow hw 61 rfl) (ow hw 3 rfl) (rm_low c6 ⟨hw, O0, hS⟩ r6) e2 N2 hml [(.int c6)] [(.int (oTl c6))] pd_29 d13 16 ?_
    intro T3 L3 X3 e3 N3
    refine uNc X3 hx hby d16 (teq (hq hc1)).2 19 (uC X3 hx hby d19 1 20 (uG X3 hx hby d20 24 ?_))
    exact oRZ X3 hx hby hret hlk e3 d24 (1 : Int32) ⟨rfl, N3, rfl⟩
  refine uYc X0 hx hby d2 (flt hc1).2.1 19 (uC X0 hx hby d19 1 20 (uG X0 hx hby d20 24 ?_))
  exact oRZ X0 hx hby hret hlk e0 d24 (1 : Int32) ⟨rfl, N0, rfl⟩

theorem rm_ag7 (a t : Addr) (kb : ClassId) (ee : Int32) (sA : Addr) (ks : ClassId) (c0 c1 c2 c3 c4 c5 c6 c7 : Int32) (H : oH Z a0 n0 h0 wR wI zc vf wB wL wV cV) (E_a : Exa Z h0 a "java/lang/String") (F_c : Fld Z h0 a "java/lang/String" "coder" "B" (.int (0 : Int32))) (F_v : Fld Z h0 a "java/lang/String" "value" "[B" (.ref t)) (V_t : Arv Z h0 t kb .byte ee (oT8 c0 c1 c2 c3 c4 c5 c6 c7) (.int (0 : Int32))) (V_s : Arv Z h0 sA ks .char (8 : Int32) (oC8 c0 c1 c2 c3 c4 c5 c6 c7) (.int (0 : Int32))) (r0 : oRg c0) (r1 : oRg c1) (r2 : oRg c2) (r3 : oRg c3) (r4 : oRg c4) (r5 : oRg c5) (r6 : oRg c6) (r7 : oRg c7) (hq : (7 : Int32) < ee → oTl c7 = oLow c7) : oPu l Z (⟨sW, "agree", "(Ljava/lang/String;[CII)Z"⟩ : MethodName) method_3_code 4 (some .boolean) (oRm 4 0 0 53) #[(.ref a), (.ref sA), (.int ee), (.int (7 : Int32))] h0 n0 (some (.int (1 : Int32))) := by
  obtain ⟨hw, O0, hS⟩ := H
  refine oBody (plainFor_of_name pn_0) #[oa a, oa sA, oi ee, oi (7 : Int32)] (fun _ => by first | (simp [entryFrame, mkF, argsToLocals, Value.category]; done) | rfl) ?_
  intro pG eG sG mG belowG methG cG s₁ hx hby hml hown hnm hret hlk X0 e0 hZ
  have N0 := Fr.nil n0
  have K0 := Keep.refl h0 []
  obtain ⟨d0, d1, d2, d5, d6, d7, d10, d11, d12, d13, d16, d19, d20, d24⟩ := t47
  refine uI X0 hx hby d0 rfl 1 (uI X0 hx hby d1 rfl 2 ?_)
  by_cases hc1 : (7 : Int32) < ee
  · refine uNc X0 hx hby d2 (tlt hc1).2.1 5 (uA X0 hx hby d5 rfl 6 (uI X0 hx hby d6 rfl 7 ?_))
    refine oVp X0 hx hby hZ hown (ow hw 220 rfl) (ow hw 85 rfl) (ow hw 87 rfl) (ow hw 86 rfl) (ow hw 88 rfl) (ow hw 8 rfl) (rm_ch7 a t kb ee (oTl c0) (oTl c1) (oTl c2) (oTl c3) (oTl c4) (oTl c5) (oTl c6) (oTl c7) ⟨hw, O0, hS⟩ E_a F_c F_v V_t (own_tlR c7 r7) hc1) e0 E_a N0 hml [(.int (7 : Int32))] [] pd_9 d7 10 ?_
    intro T2 L2 X2 e2 N2
    refine uA X2 hx hby d10 rfl 11 (uI X2 hx hby d11 rfl 12 (oLc X2 hx hby hZ e2 V_s ⟨by decide, by decide⟩ rfl d12 13 ?_))
    refine oCp X2 hx hby hZ hown (ow hw 59 rfl) (ow hw 60 rfl) (ow hw 61 rfl) (ow hw 3 rfl) (rm_low c7 ⟨hw, O0, hS⟩ r7) e2 N2 hml [(.int c7)] [(.int (oTl c7))] pd_29 d13 16 ?_
    intro T3 L3 X3 e3 N3
    refine uNc X3 hx hby d16 (teq (hq hc1)).2 19 (uC X3 hx hby d19 1 20 (uG X3 hx hby d20 24 ?_))
    exact oRZ X3 hx hby hret hlk e3 d24 (1 : Int32) ⟨rfl, N3, rfl⟩
  refine uYc X0 hx hby d2 (flt hc1).2.1 19 (uC X0 hx hby d19 1 20 (uG X0 hx hby d20 24 ?_))
  exact oRZ X0 hx hby hret hlk e0 d24 (1 : Int32) ⟨rfl, N0, rfl⟩

theorem rm_endA0 (sA : Addr) (ks : ClassId) (c0 c1 c2 c3 c4 c5 c6 c7 nn fe : Int32) (H : oH Z a0 n0 h0 wR wI zc vf wB wL wV cV) (V_s : Arv Z h0 sA ks .char (8 : Int32) (oC8 c0 c1 c2 c3 c4 c5 c6 c7) (.int (0 : Int32))) (hv : (oSE (0 : Int32) nn c0 [((1 : Int32), c1), ((2 : Int32), c2), ((3 : Int32), c3), ((4 : Int32), c4), ((5 : Int32), c5), ((6 : Int32), c6), ((7 : Int32), c7)]) = fe) : oPu l Z (⟨sW, "end", "([CII)I"⟩ : MethodName) method_6_code 5 (some .int) (oRm 3 0 0 39) #[(.ref sA), (.int nn), (.int (0 : Int32))] h0 n0 (some (.int fe)) := by
  have e := (own_end0 nn c0 c1 c2 c3 c4 c5 c6 c7).trans hv
  subst e
  exact rm_end0 sA ks c0 c1 c2 c3 c4 c5 c6 c7 nn H V_s

theorem rm_endA5 (sA : Addr) (ks : ClassId) (c0 c1 c2 c3 c4 c5 c6 c7 nn fe : Int32) (H : oH Z a0 n0 h0 wR wI zc vf wB wL wV cV) (V_s : Arv Z h0 sA ks .char (8 : Int32) (oC8 c0 c1 c2 c3 c4 c5 c6 c7) (.int (0 : Int32))) (hv : (oSE (5 : Int32) nn c5 [((6 : Int32), c6), ((7 : Int32), c7)]) = fe) : oPu l Z (⟨sW, "end", "([CII)I"⟩ : MethodName) method_6_code 5 (some .int) (oRm 3 0 0 39) #[(.ref sA), (.int nn), (.int (5 : Int32))] h0 n0 (some (.int fe)) := by
  have e := (own_end5 nn c0 c1 c2 c3 c4 c5 c6 c7).trans hv
  subst e
  exact rm_end5 sA ks c0 c1 c2 c3 c4 c5 c6 c7 nn H V_s

def Q_rm_parN (Z : State) (wR wI : Addr) (zc : Int32) (vf : Value) (wB wL wV : Addr) (cV : Cell) (a t : Addr) (kb : ClassId) (nn c0 c1 c2 c3 c4 c5 c6 c7 fe : Int32) (h0 : Heap) (n0 : Nat) (v : Option Value) (h : Heap) (L : List Loc) : Prop := ∃ (b0 r0 r1 : Addr) (kq0 : ClassId), v = some (.ref b0) ∧ Fr n0 L ∧ Keep h0 h [] ∧ Old Z n0 h ∧ n0 ≤ b0 ∧ h0.size ≤ b0 ∧ Exa Z h b0 sU ∧ Fld Z h b0 sU "url" "Ljava/lang/String;" (.ref a) ∧ Fld Z h b0 sU "scheme" "Ljava/lang/String;" (.ref r0) ∧ Exa Z h r0 "java/lang/String" ∧ Fld Z h r0 "java/lang/String" "coder" "B" (.int (0 : Int32)) ∧ Fld Z h r0 "java/lang/String" "value" "[B" (.ref r1) ∧ Arv Z h r1 kq0 .byte fe (oT8 c0 c1 c2 c3 c4 c5 c6 c7) (.int (0 : Int32))
theorem rm_parN (a t : Addr) (kb : ClassId) (nn c0 c1 c2 c3 c4 c5 c6 c7 fe : Int32) (H : oH Z a0 n0 h0 wR wI zc vf wB wL wV cV) (E_a : Exa Z h0 a "java/lang/String") (F_c : Fld Z h0 a "java/lang/String" "coder" "B" (.int (0 : Int32))) (F_v : Fld Z h0 a "java/lang/String" "value" "[B" (.ref t)) (V_t : Arv Z h0 t kb .byte nn (oB8 c0 c1 c2 c3 c4 c5 c6 c7) (.int (0 : Int32))) (r0 : oRg c0) (r1 : oRg c1) (r2 : oRg c2) (r3 : oRg c3) (r4 : oRg c4) (r5 : oRg c5) (r6 : oRg c6) (r7 : oRg c7) (hn : oN8 nn) (hv : (oSE (0 : Int32) nn c0 [((1 : Int32), c1), ((2 : Int32), c2), ((3 : Int32), c3), ((4 : Int32), c4), ((5 : Int32), c5), ((6 : Int32), c6), ((7 : Int32), c7)]) = fe) (hl1 : fe < nn) (h1 : oE7 fe) (hnj : ¬ (fe = (4 : Int32) ∧ oLow c0 = (106 : Int32) ∧ oLow c1 = (100 : Int32) ∧ oLow c2 = (98 : Int32) ∧ oLow c3 = (99 : Int32))) : oMc l Z (⟨sU, "parse", "(Ljava/lang/String;)Lcom/example/lease_over_store/leaseoverstore/lease/StoreUrl;"⟩ : MethodName) prog_24_method_2_code 3 (some (.object sU)) (oRm 6 20 122 160) #[(.ref a)] h0 (Q_rm_parN Z wR wI zc vf wB wL wV cV a t kb nn c0 c1 c2 c3 c4 c5 c6 c7 fe h0 n0) := by
  by_cases q4 : (4 : Int32) = fe
  · subst q4
    exact rm_parY a t kb nn c0 c1 c2 c3 c4 c5 c6 c7 H E_a F_c F_v V_t r0 r1 r2 r3 r4 r5 r6 r7 hn hv hl1 (own_jN r0 r1 r2 r3 (fun q => hnj ⟨rfl, q⟩))
  · exact rm_parX a t kb nn c0 c1 c2 c3 c4 c5 c6 c7 fe H E_a F_c F_v V_t r0 r1 r2 r3 r4 r5 r6 r7 hn hv hl1 h1 q4

theorem own_backS {p : Program} {l : Launch} {e : Env} {R : Room} {s : State} {args : Array Value} {below : List Frame} {Z : State} {a0 : Array Value} {EL : List (String × Nat)} {h : Heap} {vm0 : Vm} {y : MethodName} {bytes : ByteArray} {maxL : Nat} {ret : Option FieldType} {rm : Room} {len W : Nat} {as' : Array Value} {Q : Option Value → Heap → List Loc → Prop} {x : Addr}
    (hM : MetFree l y (head1 [Jvm.Cond.code y bytes maxL ret] rm) (fun a U => a = as' ∧ Z.Warmed39 U.vm ∧ U.heap = h ∧ CHv Z EL U.vm h ∧ Safe Z EL U.vm h x) (fun _ _ _ _ _ => True) (fun _ U o U' => ∃ v L, o = .returned v ∧ Q v U'.heap L ∧ CHr Z EL U.vm U.heap U'.vm U'.heap ∧ ReturnedEndW U o U' L rm.cells rm.slots))
    (hZ : Z.Warmed39 vm0) (wc : (Jvm.Cond.code y bytes maxL ret).before a0 Z = true) (wz : (Jvm.Cond.initialized y.cls).before a0 Z = true) (hf : rm.frames + 1 ≤ R.frames) (hl : W + (maxL + 11) + rm.locals ≤ R.locals) (hEL : EW Z a0 EL) (H : CHv Z EL vm0 h) (hx : x < h.size) (S : Safe Z EL vm0 h x) :
    BackS l R p e below (s.setVm vm0) args y len W (fun A a => a = as' ∧ A.U.heap = h ∧ A.cells + rm.cells ≤ R.cells ∧ A.slots + rm.slots ≤ R.slots)
      (fun A _ v B => ∃ L, Q v B.U.heap L ∧ B.locs = A.locs ++ L ∧ B.cells = A.cells + rm.cells ∧ B.slots = A.slots + rm.slots ∧ CHr Z EL vm0 h B.U.vm B.U.heap) :=
  BackS.of_freeW (bytes := bytes) (maxL := maxL) (ret := ret) (E := fun _ first o t L k n => k = rm.cells ∧ n = rm.slots ∧ (∃ v, o = .returned v ∧ Q v t.heap L) ∧ CHr Z EL first.vm first.heap t.vm t.heap) hM hf hl
    (fun m meth c A a Y hp => have hU : Z.Warmed39 A.U.vm := wtrans (s := s.setVm vm0) hZ Y.warmed
      ⟨by show (Jvm.Cond.and _ .tt).before a A.U = true; rw [Cond.before_and, mv hU wc]; rfl, mv hU wc, mv hU wz, hp.2.2.1, hp.2.2.2⟩)
    (fun m meth c A a g mk Y hp => ⟨hp.1, wtrans (s := s.setVm vm0) hZ Y.warmed, hp.2.1, (CHv.at Y hZ hEL H).1, (CHv.at Y hZ hEL H).safe hx S⟩) (fun _ _ _ _ _ _ _ _ _ => trivial)
    (fun _ _ _ _ ⟨v, L, h1, h2, h3, h4⟩ => ⟨L, _, _, h4, rfl, rfl, ⟨v, h1, h2⟩, h3⟩)
    (fun m meth c A a g mk v t L k n Y hp _ _ ⟨e1, e2, ⟨v', e3, e4⟩, e5⟩ => by
      cases e3; subst e1 e2
      refine ⟨L, e4, rfl, rfl, rfl, (CHv.at Y hZ hEL H).trans ?_⟩
      rw [← hp.2.1]; exact e5)

abbrev K4 (n : Nat) (i : Instr) (k : Nat) : Prop := decode jdk_42_method_149_code n = .ok (i, k)
set_option maxRecDepth 65536 in
theorem t4 : K4 0 (.aload_n 0) 1 ∧ K4 1 (.invokespecial 1) 3 ∧ K4 4 (.iload_n 3) 1 ∧ K4 5 (.ifCond .ne 22) 3 ∧ K4 8 (.aload_n 0) 1 ∧ K4 9 (.ldc 7) 2 ∧ K4 11 (.getfield 9) 3 ∧ K4 14 (.putfield 9) 3 ∧ K4 17 (.aload_n 0) 1 ∧ K4 18 (.ldc 7) 2 ∧ K4 20 (.getfield 15) 3 ∧ K4 23 (.putfield 15) 3 ∧ K4 26 .return_ 1 := by and_intros <;> decide +kernel
def Q_rm_e2 (Z : State) (wR wI : Addr) (zc : Int32) (vf : Value) (wB wL wV : Addr) (cV : Cell) (a b : Addr) (u0 u1 : Value) (h0 : Heap) (n0 : Nat) (v : Option Value) (h : Heap) (L : List Loc) : Prop := ∃ (r0 : Addr) (k0 : ClassId), v = none ∧ Fr n0 L ∧ Keep h0 h [a] ∧ Old Z n0 h ∧ Fld Z h a "java/lang/String" "value" "[B" (.ref r0) ∧ Fld Z h a "java/lang/String" "coder" "B" (.int (0 : Int32)) ∧ Arv Z h r0 k0 .byte (0 : Int32) [] (.int (0 : Int32))
theorem rm_e2 (a b : Addr) (u0 u1 : Value) (H : oH Z a0 n0 h0 wR wI zc vf wB wL wV cV) (E_a : Exa Z h0 a "java/lang/String") (F_0 : Fld Z h0 a "java/lang/String" "value" "[B" u0) (F_1 : Fld Z h0 a "java/lang/String" "coder" "B" u1) (n_a : n0 ≤ a) : oMs l Z (⟨"java/lang/String", "<init>", "([CIILjava/lang/Void;)V"⟩ : MethodName) jdk_42_method_149_code 6 none (oRm 1 4 8 12) #[(.ref a), (.ref b), (.int (0 : Int32)), (.int (0 : Int32)), .null] h0 a (Q_rm_e2 Z wR wI zc vf wB wL wV cV a b u0 u1 h0 n0) := by
  obtain ⟨hw, O0, hS⟩ := H
  refine oBodyS (plainFor_of_name pn_1) #[oa a, oa b, oi (0 : Int32), oi (0 : Int32), .val .null, .unset] (fun _ => by first | (simp [entryFrame, mkF, argsToLocals, Value.category]; done) | rfl) ?_
  intro pG eG sG mG belowG methG cG s₁ hx hby hml hown hnm hret hlk X0 hh e0 hZ hC hs_a
  have hS0 : sG.Since sG.vm h0.size := (State.WarmedH.refl sG).since _
  have hk0 : h0.size ≤ h0.size := Nat.le_refl _
  have CR0 : CHr Z oEL sG.vm h0 sG.vm h0 := CHr.refl hC
  have hEL : EW Z a0 oEL := own_EW hw
  have N0 := Fr.nil n0
  have K0 := Keep.refl h0 [a]
  obtain ⟨d0, d1, d4, d5, d8, d9, d11, d14, d17, d18, d20, d23, d26⟩ := t4
  refine uA X0 hx hby d0 rfl 1 ?_
  obtain ⟨T1, X1, e1, st1⟩ := initO X0 hx hZ hown (ow hw 19 rfl) (ow hw 20 rfl) (ow hw 21 rfl) e0 (g := (mkF mG 1 #[oa a, oa b, oi (0 : Int32), oi (0 : Int32), .val .null, .unset] [(.ref a)])) rfl (by rw [hml]; rfl) rfl (hb hby d1) (by decide) (W := 0) (by show 2 * 0 + _ ≤ _; exact Nat.le_of_eq rfl) (by decide)
  refine ob T1 (mkF mG 4 #[oa a, oa b, oi (0 : Int32), oi (0 : Int32), .val .null, .unset] []) (fun _ kk => st1 _ kk) ?_
  refine uI X1 hx hby d4 rfl 5 (uN X1 hx hby d5 ((if0 _ _).trans (teq (by decide : (0 : Int32) = (0 : Int32))).2) 8 (uA X1 hx hby d8 rfl 9 ?_))
  obtain ⟨a2, T2, h2, k12, t2, kb2, X2, e2, E2, hS2, hk2, hZ, hown, A2, C2, V2, B2, la2, lt2, CS2, Li2, ns2, st2⟩ := ldcCH X1 hx hZ hown (ow hw 22 rfl) (fun d hd => hw d (own_atoms d hd)) e1 hS0 hk0 hEL (List.mem_of_getElem? (i := 0) rfl) CR0.1 (vs := []) (z := (0 : Int32)) ⟨by decide, by first | rfl | decide +kernel⟩ (by decide) rfl (g := (mkF mG 9 #[oa a, oa b, oi (0 : Int32), oi (0 : Int32), .val .null, .unset] [(.ref a)])) rfl (hb hby d9) (n := 0) (by decide) (by decide) (by decide) (by decide)
  have CR2 := CR0.trans CS2
  have O2 := O0.ext E2
  have K2 := K0.ext E2
  obtain ⟨LL3, X2, N0⟩ : ∃ LL, Stand pG l eG _ _ mG _ belowG methG cG T2 LL 2 4 ∧ Fr n0 LL := ⟨_, X2, N0⟩
  have nl2_a := ns2 a (CHr.safe CS2 E_a.lt hs_a)
  refine ob T2 (mkF mG 11 #[oa a, oa b, oi (0 : Int32), oi (0 : Int32), .val .null, .unset] [(.ref a2), (.ref a)]) (fun _ kk => st2 _ kk) ?_
  refine oGf X2 hx hby hZ hown (ow hw 28 rfl) Via.refl e2 V2 d11 14 ?_
  intro T4 X4 e4
  obtain ⟨T5, h5, X5, e5, W5, st5⟩ := putF X4 hx hZ hown (host := "") (Or.inl (ow hw 28 rfl)) Via.refl e4 (F_0.ext E2) (E_a.ext E2) (Or.inr ⟨(ow hw 24 rfl), rfl, hnm⟩) (ow hw 7 rfl) (ty := (.array .byte)) (by decide) rfl rfl (g := (mkF mG 14 #[oa a, oa b, oi (0 : Int32), oi (0 : Int32), .val .null, .unset] [(.ref t2), (.ref a)])) rfl rfl (hb hby d14)
  have F5 := (F_0.ext E2).same W5
  have CS5 : CHr Z oEL T2.vm h2 T2.vm h5 := CHr.wr W5 (CHr.safe CS2 E_a.lt hs_a) CR2.1
  have CR5 := CR2.trans CS5
  have O5 := O2.wr W5 n_a
  have K5 := K2.wr W5 (Or.inl (List.mem_of_getElem? (i := 0) rfl))
  have N5 := Fr.snoc X5 N0 n_a
  obtain ⟨LL6, X5, N5⟩ : ∃ LL, Stand pG l eG _ _ mG _ belowG methG cG T5 LL 2 4 ∧ Fr n0 LL := ⟨_, X5, N5⟩
  refine ob T5 (mkF mG 17 #[oa a, oa b, oi (0 : Int32), oi (0 : Int32), .val .null, .unset] []) (fun _ kk => st5 _ kk) ?_
  refine uA X5 hx hby d17 rfl 18 ?_
  obtain ⟨a7, T7, h7, k17, t7, kb7, X7, e7, E7, hS7, hk7, hZ, hown, A7, C7, V7, B7, la7, lt7, CS7, Li7, ns7, st7⟩ := ldcCH X5 hx hZ hown (ow hw 22 rfl) (fun d hd => hw d (own_atoms d hd)) e5 hS2 (Nat.le_trans hk2 CS5.2.1) hEL (List.mem_of_getElem? (i := 0) rfl) CR5.1 (vs := []) (z := (0 : Int32)) ⟨by decide, by first | rfl | decide +kernel⟩ (by decide) rfl (g := (mkF mG 18 #[oa a, oa b, oi (0 : Int32), oi (0 : Int32), .val .null, .unset] [(.ref a)])) rfl (hb hby d18) (n := 0) (by decide) (by decide) (by decide) (by decide)
  have CR7 := CR5.trans CS7
  have O7 := O5.ext E7
  have K7 := K5.ext E7
  obtain ⟨LL8, X7, N5⟩ : ∃ LL, Stand pG l eG _ _ mG _ belowG methG cG T7 LL 4 8 ∧ Fr n0 LL := ⟨_, X7, N5⟩
  have nl7_a := ns7 a (CHr.safe (CS2.trans (CS5.trans CS7)) E_a.lt hs_a)
  refine ob T7 (mkF mG 20 #[oa a, oa b, oi (0 : Int32), oi (0 : Int32), .val .null, .unset] [(.ref a7), (.ref a)]) (fun _ kk => st7 _ kk) ?_
  refine oGf X7 hx hby hZ hown (ow hw 29 rfl) Via.refl e7 C7 d20 23 ?_
  intro T9 X9 e9
  obtain ⟨T10, h10, X10, e10, W10, st10⟩ := putFN X9 hx hZ hown (ow hw 29 rfl) Via.refl e9 (((F_1.ext E2).other W5 (Or.inr (slot_ne (Or.inr (ow hw 25 rfl)) (Or.inr (ow hw 24 rfl)) (by decide) (t := .byte) (t' := (.array .byte)) (by decide) (by decide)))).ext E7) (((E_a.ext E2).wr W5).ext E7) (Or.inr ⟨(ow hw 25 rfl), rfl, hnm⟩) (ow hw 7 rfl) (ty := .byte) (v' := (.int (0 : Int32))) (by decide) rfl rfl (g := (mkF mG 23 #[oa a, oa b, oi (0 : Int32), oi (0 : Int32), .val .null, .unset] [(.int (0 : Int32)), (.ref a)])) rfl rfl (hb hby d23)
  have F10 := (((F_1.ext E2).other W5 (Or.inr (slot_ne (Or.inr (ow hw 25 rfl)) (Or.inr (ow hw 24 rfl)) (by decide) (t := .byte) (t' := (.array .byte)) (by decide) (by decide)))).ext E7).same W10
  have CS10 : CHr Z oEL T7.vm h7 T7.vm h10 := CHr.wr W10 (CHr.safe (CS2.trans (CS5.trans CS7)) E_a.lt hs_a) CR7.1
  have CR10 := CR7.trans CS10
  have O10 := O7.wr W10 n_a
  have K10 := K7.wr W10 (Or.inl (List.mem_of_getElem? (i := 0) rfl))
  have N10 := Fr.snoc X10 N5 n_a
  obtain ⟨LL11, X10, N10⟩ : ∃ LL, Stand pG l eG _ _ mG _ belowG methG cG T10 LL 4 8 ∧ Fr n0 LL := ⟨_, X10, N10⟩
  refine ob T10 (mkF mG 26 #[oa a, oa b, oi (0 : Int32), oi (0 : Int32), .val .null, .unset] []) (fun _ kk => st10 _ kk) ?_
  obtain ⟨fs, hr, hrun, hended, hW, hsame⟩ := X10.leave (v := none) (fun _ => rfl) hlk
  obtain ⟨w1, w2, w3⟩ := State.Since.ended (U := T10.setFrames fs) hS7 hW (by show _ ≤ T10.heap.size; rw [e10]; exact (Nat.le_trans hk7 CS10.2.1)) hsame
  have CF := CR10.trans (CHv.at X10 hZ hEL CR10.1)
  refine oout (X10.returnOut hx hret (hb hby d26) hr) hrun hended ⟨_, _, rfl, ?_, ?_, ⟨_, rfl⟩, w1, w2, w3.mono (by decide) (by decide)⟩
  · show Q_rm_e2 Z wR wI zc vf wB wL wV cV a b u0 u1 h0 n0 _ T10.heap _
    rw [e10]
    exact ⟨t2, kb2, rfl, N10, K10, O10, ((F5.ext E7).other W10 (Or.inr (slot_ne (Or.inr (ow hw 24 rfl)) (Or.inr (ow hw 25 rfl)) (by decide) (t := (.array .byte)) (t' := .byte) (by decide) (by decide)))), F10, (((B2.other W5 (Ne.symm nl2_a.2)).ext E7).other W10 (Ne.symm nl2_a.2))⟩
  · show CHr Z oEL sG.vm sG.heap T10.vm T10.heap
    rw [hh, e10]
    exact CF

abbrev K3 (n : Nat) (i : Instr) (k : Nat) : Prop := decode jdk_42_method_3_code n = .ok (i, k)
set_option maxRecDepth 65536 in
theorem t3 : K3 0 (.aload_n 0) 1 ∧ K3 1 (.aload_n 1) 1 ∧ K3 2 (.iconst 0) 1 ∧ K3 3 (.aload_n 1) 1 ∧ K3 4 .arraylength 1 ∧ K3 5 .aconst_null 1 ∧ K3 6 (.invokespecial 27) 3 ∧ K3 9 .return_ 1 := by and_intros <;> decide +kernel
theorem pd_30 : parseMethodDescriptor "([CIILjava/lang/Void;)V" = some ⟨[(.array .char), .int, .int, (.object "java/lang/Void")], none⟩ := by decide +kernel
def Q_rm_e1 (Z : State) (wR wI : Addr) (zc : Int32) (vf : Value) (wB wL wV : Addr) (cV : Cell) (a b : Addr) (u0 u1 : Value) (kc : ClassId) (h0 : Heap) (n0 : Nat) (v : Option Value) (h : Heap) (L : List Loc) : Prop := ∃ (r0 : Addr) (k0 : ClassId), v = none ∧ Fr n0 L ∧ Keep h0 h [a] ∧ Old Z n0 h ∧ Fld Z h a "java/lang/String" "value" "[B" (.ref r0) ∧ Fld Z h a "java/lang/String" "coder" "B" (.int (0 : Int32)) ∧ Arv Z h r0 k0 .byte (0 : Int32) [] (.int (0 : Int32))
theorem rm_e1 (a b : Addr) (u0 u1 : Value) (kc : ClassId) (H : oH Z a0 n0 h0 wR wI zc vf wB wL wV cV) (E_a : Exa Z h0 a "java/lang/String") (F_0 : Fld Z h0 a "java/lang/String" "value" "[B" u0) (F_1 : Fld Z h0 a "java/lang/String" "coder" "B" u1) (V_b : Arv Z h0 b kc .char (0 : Int32) [] (.int (0 : Int32))) (n_a : n0 ≤ a) : oMs l Z (⟨"java/lang/String", "<init>", "([C)V"⟩ : MethodName) jdk_42_method_3_code 2 none (oRm 2 4 8 29) #[(.ref a), (.ref b)] h0 a (Q_rm_e1 Z wR wI zc vf wB wL wV cV a b u0 u1 kc h0 n0) := by
  obtain ⟨hw, O0, hS⟩ := H
  refine oBodyS (plainFor_of_name pn_1) #[oa a, oa b] (fun _ => by first | (simp [entryFrame, mkF, argsToLocals, Value.category]; done) | rfl) ?_
  intro pG eG sG mG belowG methG cG s₁ hx hby hml hown hnm hret hlk X0 hh e0 hZ hC hs_a
  have hS0 : sG.Since sG.vm h0.size := (State.WarmedH.refl sG).since _
  have hk0 : h0.size ≤ h0.size := Nat.le_refl _
  have CR0 : CHr Z oEL sG.vm h0 sG.vm h0 := CHr.refl hC
  have hEL : EW Z a0 oEL := own_EW hw
  have N0 := Fr.nil n0
  have K0 := Keep.refl h0 [a]
  obtain ⟨d0, d1, d2, d3, d4, d5, d6, d9⟩ := t3
  refine uA X0 hx hby d0 rfl 1 (uA X0 hx hby d1 rfl 2 (uC X0 hx hby d2 0 3 (uA X0 hx hby d3 rfl 4 (oLn X0 hx hby hZ e0 V_b d4 5 ?_))))
  refine ob s₁ (mkF mG 6 #[oa a, oa b] [.null, (.int (0 : Int32)), (.int (0 : Int32)), (.ref b), (.ref a)]) (fun _ kk => XS.aconstNull X0.here hx rfl (hb hby d5) kk) ?_
  obtain ⟨_, _, ⟨T1, L1, k1, n1⟩, -, X1, hS1, gs1, ⟨Lc1, hQ1, l1, y1, z1, CS1⟩, st1⟩ := X0.specialBackS hx (y := (⟨"java/lang/String", "<init>", "([CIILjava/lang/Void;)V"⟩ : MethodName)) rfl hown (mvT hZ (ow hw 15 rfl)) (mvT hZ (ow hw 16 rfl)) (mvT hZ (ow hw 18 rfl)) (by decide) (own_backS (W := 0) (rm_e2 a b u0 u1 ⟨hw, O0, hS⟩ E_a F_0 F_1 n_a) hZ (ow hw 18 rfl) (ow hw 8 rfl) (by decide) (by decide) hEL CR0.1 E_a.lt hs_a) (g := (mkF mG 6 #[oa a, oa b] [.null, (.int (0 : Int32)), (.int (0 : Int32)), (.ref b), (.ref a)])) rfl (by rw [hml]; rfl) (Steps.refl _) (a := a) (argsL := [(.ref b), (.int (0 : Int32)), (.int (0 : Int32)), .null]) (rest := []) (lenOf pd_30 rfl) rfl (by show 2 * 0 + _ ≤ _; exact Nat.le_of_eq rfl) (hb hby d6) (fun _ _ => ⟨rfl, e0, (by decide : 0 + 4 ≤ _), (by decide : 0 + 8 ≤ _)⟩)
  dsimp only [Pt.U, Pt.locs, Pt.cells, Pt.slots] at X1 l1 y1 z1 st1 hQ1 hS1 gs1 CS1
  subst l1 y1 z1
  obtain ⟨X1, hS1, hZ, hown⟩ := rebS hS0 (by rw [e0]; exact hk0) X1 hS1 gs1 hZ hown
  obtain ⟨h1, e1⟩ : ∃ h, T1.heap = h := ⟨_, rfl⟩
  rw [e1] at hQ1
  obtain ⟨r0_1, k0_1, rfl, N1q, K1q, O1, F1_0, F1_1, F1_2⟩ := hQ1
  have N1 := Fr.app N0 N1q
  have K1 := K0.trans K1q (allS (Or.inl (List.mem_of_getElem? (i := 0) rfl)) all0)
  rw [e1] at CS1 hS1
  have hk1 : h1.size ≤ h1.size := Nat.le_refl _
  have CR1 := CR0.trans CS1
  obtain ⟨LL2, X1, N1⟩ : ∃ LL, Stand pG l eG _ _ mG _ belowG methG cG T1 LL 4 8 ∧ Fr n0 LL := ⟨_, X1, N1⟩
  refine ob T1 (mkF mG 9 #[oa a, oa b] []) (fun _ kk => st1.trans kk) ?_
  obtain ⟨fs, hr, hrun, hended, hW, hsame⟩ := X1.leave (v := none) (fun _ => rfl) hlk
  obtain ⟨w1, w2, w3⟩ := State.Since.ended (U := T1.setFrames fs) hS1 hW (by show _ ≤ T1.heap.size; rw [e1]; exact hk1) hsame
  have CF := CR1.trans (CHv.at X1 hZ hEL CR1.1)
  refine oout (X1.returnOut hx hret (hb hby d9) hr) hrun hended ⟨_, _, rfl, ?_, ?_, ⟨_, rfl⟩, w1, w2, w3.mono (by decide) (by decide)⟩
  · show Q_rm_e1 Z wR wI zc vf wB wL wV cV a b u0 u1 kc h0 n0 _ T1.heap _
    rw [e1]
    exact ⟨r0_1, k0_1, rfl, N1, K1, O1, F1_0, F1_1, F1_2⟩
  · show CHr Z oEL sG.vm sG.heap T1.vm T1.heap
    rw [hh, e1]
    exact CF

theorem own_el00 (c0 c1 c2 c3 c4 c5 c6 c7 : Int32) : oEn (0 : Int32) (1 : Int32) (0 : Int32) c0 c1 c2 c3 c4 c5 c6 c7 < (0 : Int32) := by
  unfold oEn
  rw [if_neg (by decide)]
  decide
theorem own_a7 (x : Int32) : ∃ k : Int32, (x &&& (7 : Int32)) = k ∧ (k = (0 : Int32) ∨ k = (1 : Int32) ∨ k = (2 : Int32) ∨ k = (3 : Int32) ∨ k = (4 : Int32) ∨ k = (5 : Int32) ∨ k = (6 : Int32) ∨ k = (7 : Int32)) := by
  refine ⟨_, rfl, ?_⟩
  have h1 := c_mask x (7 : Int32) 3 (by decide) (by decide)
  generalize x &&& (7 : Int32) = k at *
  have h3 : k.toInt = 0 ∨ k.toInt = 1 ∨ k.toInt = 2 ∨ k.toInt = 3 ∨ k.toInt = 4 ∨ k.toInt = 5 ∨ k.toInt = 6 ∨ k.toInt = 7 := by omega
  rcases h3 with h | h | h | h | h | h | h | h
  · exact Or.inl (Int32.toInt_inj.mp (h.trans (by decide)))
  · exact Or.inr (Or.inl (Int32.toInt_inj.mp (h.trans (by decide))))
  · exact Or.inr (Or.inr (Or.inl (Int32.toInt_inj.mp (h.trans (by decide)))))
  · exact Or.inr (Or.inr (Or.inr (Or.inl (Int32.toInt_inj.mp (h.trans (by decide))))))
  · exact Or.inr (Or.inr (Or.inr (Or.inr (Or.inl (Int32.toInt_inj.mp (h.trans (by decide)))))))
  · exact Or.inr (Or.inr (Or.inr (Or.inr (Or.inr (Or.inl (Int32.toInt_inj.mp (h.trans (by decide))))))))
  · exact Or.inr (Or.inr (Or.inr (Or.inr (Or.inr (Or.inr (Or.inl (Int32.toInt_inj.mp (h.trans (by decide)))))))))
  · exact Or.inr (Or.inr (Or.inr (Or.inr (Or.inr (Or.inr (Or.inr ((Int32.toInt_inj.mp (h.trans (by decide))))))))))
theorem own_n9 (x : Int32) : ∃ k : Int32, ((x &&& (65535 : Int32)) % (9 : Int32)) = k ∧ (k = (0 : Int32) ∨ k = (1 : Int32) ∨ k = (2 : Int32) ∨ k = (3 : Int32) ∨ k = (4 : Int32) ∨ k = (5 : Int32) ∨ k = (6 : Int32) ∨ k = (7 : Int32) ∨ k = (8 : Int32)) := by
  refine ⟨_, rfl, ?_⟩
  have h1 := c_mask x (65535 : Int32) 16 (by decide) (by decide)
  have h2 := (c_irem (x &&& (65535 : Int32)) (9 : Int32) 9 (by decide)).1 (by omega)
  generalize (x &&& (65535 : Int32)) % (9 : Int32) = k at *
  have h3 : k.toInt = 0 ∨ k.toInt = 1 ∨ k.toInt = 2 ∨ k.toInt = 3 ∨ k.toInt = 4 ∨ k.toInt = 5 ∨ k.toInt = 6 ∨ k.toInt = 7 ∨ k.toInt = 8 := by omega
  rcases h3 with h | h | h | h | h | h | h | h | h
  · exact Or.inl (Int32.toInt_inj.mp (h.trans (by decide)))
  · exact Or.inr (Or.inl (Int32.toInt_inj.mp (h.trans (by decide))))
  · exact Or.inr (Or.inr (Or.inl (Int32.toInt_inj.mp (h.trans (by decide)))))
  · exact Or.inr (Or.inr (Or.inr (Or.inl (Int32.toInt_inj.mp (h.trans (by decide))))))
  · exact Or.inr (Or.inr (Or.inr (Or.inr (Or.inl (Int32.toInt_inj.mp (h.trans (by decide)))))))
  · exact Or.inr (Or.inr (Or.inr (Or.inr (Or.inr (Or.inl (Int32.toInt_inj.mp (h.trans (by decide))))))))
  · exact Or.inr (Or.inr (Or.inr (Or.inr (Or.inr (Or.inr (Or.inl (Int32.toInt_inj.mp (h.trans (by decide)))))))))
  · exact Or.inr (Or.inr (Or.inr (Or.inr (Or.inr (Or.inr (Or.inr (Or.inl (Int32.toInt_inj.mp (h.trans (by decide))))))))))
  · exact Or.inr (Or.inr (Or.inr (Or.inr (Or.inr (Or.inr (Or.inr (Or.inr ((Int32.toInt_inj.mp (h.trans (by decide)))))))))))

theorem pd_31 : parseMethodDescriptor "(Ljava/lang/String;)Lcom/example/lease_over_store/leaseoverstore/lease/StoreUrl;" = some ⟨[(.object "java/lang/String")], some (.object sU)⟩ := by decide +kernel
theorem pd_32 : parseMethodDescriptor "(Ljava/lang/Object;)Z" = some ⟨[(.object "java/lang/Object")], some .boolean⟩ := by decide +kernel
theorem pd_33 : parseMethodDescriptor "(Ljava/lang/String;[CII)Z" = some ⟨[(.object "java/lang/String"), (.array .char), .int, .int], some .boolean⟩ := by decide +kernel
theorem pd_34 : parseMethodDescriptor "([CI)[C" = some ⟨[(.array .char), .int], some (.array .char)⟩ := by decide +kernel
theorem pd_35 : parseMethodDescriptor "([C)V" = some ⟨[(.array .char)], none⟩ := by decide +kernel
def Q_rm0 (Z : State) (wR wI : Addr) (zc : Int32) (vf : Value) (wB wL wV : Addr) (cV : Cell) (i0 i1 i2 i3 i4 : Int32) (h0 : Heap) (n0 : Nat) (v : Option Value) (h : Heap) (L : List Loc) : Prop := v = some (.int (1 : Int32)) ∧ Fr n0 L
set_option maxRecDepth 65536 in
set_option maxHeartbeats 40000000 in
theorem rm0 (l : Launch) (Z : State) (a0 : Array Value) (hw : ∀ d ∈ tables_1, d.before a0 Z = true) (ws : List Jvm.Cond) (wR wI : Addr) (zc : Int32) (vf : Value) (wB wL wV : Addr) (cV : Cell) (i0 i1 i2 i3 i4 : Int32) (h0 : Heap) (n0 : Nat) (O0 : Old Z n0 h0) (hS : St0 Z wR wI zc vf wB wL wV cV ) :
    MetFree l x (head1 (Jvm.Cond.code x code maxLocals ret :: ws) room_1) (fun aG UG => aG = #[(.int i0), (.int i1), (.int i2), (.int i3), (.int i4)] ∧ Z.Warmed39 UG.vm ∧ UG.heap = h0 ∧ CHv Z oEL UG.vm h0) (fun _ _ _ _ _ => True) (fun _ UG oG UG' => ∃ vG LG, oG = .returned vG ∧ Q_rm0 Z wR wI zc vf wB wL wV cV i0 i1 i2 i3 i4 h0 n0 vG UG'.heap LG ∧ CHr Z oEL UG.vm UG.heap UG'.vm UG'.heap ∧ ReturnedEndW UG oG UG' LG 64 6592) := by
  refine MetFree.of_bodySF (plainFor_of_name pn_0) hisR ?_
  intro pG eG sG mG argsG belowG methG cG s₁ Bd hml0 hP hK
  obtain ⟨rfl, hZ, hh, hC⟩ := hP
  have hx := Bd.exec
  have hby := Bd.bytes
  have hml : cG.maxLocals = 12 := hml0
  have hown : sG.vm.findClass sW = some mG.cls := findClass_of_methodNamed Bd.named
  have hnm := (name_of_methodNamed Bd.named Bd.method).1
  have X0 : Stand pG l eG room_1 (sG.setVm sG.vm) mG #[(.int i0), (.int i1), (.int i2), (.int i3), (.int i4)] belowG methG cG s₁ [] 0 0 := Stand.of_body Bd
  have e0 : s₁.heap = h0 := by rw [← hh, Bd.state]; rfl
  have N0 := Fr.nil n0
  have K0 := Keep.refl h0 []
  have hS0 : sG.Since sG.vm h0.size := (State.WarmedH.refl sG).since _
  have hk0 : h0.size ≤ h0.size := Nat.le_refl _
  have CR0 : CHr Z oEL sG.vm h0 sG.vm h0 := CHr.refl hC
  have hEL : EW Z a0 oEL := own_EW hw
  obtain ⟨S_wR, E_wR, S_wI, E_wI, S_zc, hzc, S_vf, rvf, F_rb, E_bl, F_bl, E_lg, F_lg, V_lv⟩ := (id hS : St0 Z wR wI zc vf wB wL wV cV )
  refine ostart (g' := (mkF mG 0 #[oi i0, oi i1, oi i2, oi i3, oi i4, .unset, .unset, .unset, .unset, .unset, .unset, .unset] [])) (by first | (simp [entryFrame, mkF, argsToLocals, Value.category, maxLocals]; done) | rfl) ?_
  have hlk := BodyLoose.notSynchronized Bd
  have hret := Bd.returns
  refine oname (fun PP hPP => ?_)
  refine uB X0 hx hby at_0 8 2 ?_
  obtain ⟨T1, h1, k1, X1, e1, E1, A1, st1⟩ := newP X0 hx hZ (ow hw 0 rfl) e0 (g := (mkF mG 2 #[oi i0, oi i1, oi i2, oi i3, oi i4, .unset, .unset, .unset, .unset, .unset, .unset, .unset] [(.int (8 : Int32))])) rfl (hb hby at_2) rfl (by decide) (cap := 8) (by decide) (by decide) (by decide) (by decide)
  obtain ⟨b1, g1⟩ : ∃ z, z = h0.size := ⟨_, rfl⟩
  rw [← g1] at A1 st1
  have n_b1 : n0 ≤ b1 := Nat.le_trans (on0 O0) (Nat.le_of_eq g1.symm)
  have sz_b1 : h0.size ≤ b1 := Nat.le_trans K0.1 (Nat.le_of_eq g1.symm)
  have CS1 : CHr Z oEL sG.vm h0 sG.vm h1 := CHr.ext E1 CR0.1
  have CR1 := CR0.trans CS1
  have O1 := O0.ext E1
  have K1 := K0.ext E1
  obtain ⟨LL2, X1, N0⟩ : ∃ LL, Stand pG l eG _ _ mG _ belowG methG cG T1 LL 1 8 ∧ Fr n0 LL := ⟨_, X1, N0⟩
  have V1 : Arv Z h1 b1 k1 .char (8 : Int32) [(.int (0 : Int32)), (.int (0 : Int32)), (.int (0 : Int32)), (.int (0 : Int32)), (.int (0 : Int32)), (.int (0 : Int32)), (.int (0 : Int32)), (.int (0 : Int32))] (.int (0 : Int32)) := (Arv.new A1 (by decide)).pad (pad_rep [] (.int (0 : Int32)) 8)
  have sf_b1 : Safe Z oEL sG.vm h1 b1 := Safe.ext E1 CR0.1 (Safe.new (Nat.le_of_eq g1.symm))
  refine ob T1 (mkF mG 4 #[oi i0, oi i1, oi i2, oi i3, oi i4, .unset, .unset, .unset, .unset, .unset, .unset, .unset] [(.ref b1)]) (fun _ kk => st1 _ kk) ?_
  refine uO2 X1 hx hby at_4 #[oi i0, oi i1, oi i2, oi i3, oi i4, oa b1, .unset, .unset, .unset, .unset, .unset, .unset] 6 ?_
  have J192 : ∀ (Tj : State) (hj : Heap) (LLj : List Loc) (c0 c1 c2 c3 c4 c5 c6 c7 : Int32), Stand pG l eG room_1 (sG.setVm sG.vm) mG #[(.int i0), (.int i1), (.int i2), (.int i3), (.int i4)] belowG methG cG Tj LLj 9 136 → Fr n0 LLj → Tj.heap = hj → CHr Z oEL sG.vm h0 sG.vm hj → Old Z n0 hj → Keep h0 hj [] → Arv Z hj b1 k1 .char (8 : Int32) (oC8 c0 c1 c2 c3 c4 c5 c6 c7) (.int (0 : Int32)) → oRg c0 → oRg c1 → oRg c2 → oRg c3 → oRg c4 → oRg c5 → oRg c6 → oRg c7 → oGo pG eG belowG PP Tj (mkF mG 192 #[oi i0, oi i1, oi i2, oi i3, oi i4, oa b1, .unset, .unset, .unset, .unset, .unset, .unset] []) := by
    intro Tj hj LLj c0 c1 c2 c3 c4 c5 c6 c7 Xj Nj ej CRj Oj Kj V_s r0 r1 r2 r3 r4 r5 r6 r7
    refine uI2 Xj hx hby at_192 rfl 194 (uB Xj hx hby at_194 9 196 ?_)
    refine ob Tj (mkF mG 197 #[oi i0, oi i1, oi i2, oi i3, oi i4, oa b1, .unset, .unset, .unset, .unset, .unset, .unset] [(.int ((i4.toUInt32 >>> ((9 : Int32) &&& 31).toUInt32).toInt32))]) (fun _ kk => XS.iushr Xj.here hx rfl (hb hby at_196) rfl kk) ?_
    refine ob Tj (mkF mG 199 #[oi i0, oi i1, oi i2, oi i3, oi i4, oa b1, .unset, .unset, .unset, .unset, .unset, .unset] [(.int (65535 : Int32)), (.int ((i4.toUInt32 >>> ((9 : Int32) &&& 31).toUInt32).toInt32))]) (fun _ kk => Xj.ldcInt hx hown (mvT hZ (ow hw 5 rfl)) (g := (mkF mG 197 #[oi i0, oi i1, oi i2, oi i3, oi i4, oa b1, .unset, .unset, .unset, .unset, .unset, .unset] [(.int ((i4.toUInt32 >>> ((9 : Int32) &&& 31).toUInt32).toInt32))])) rfl (hb hby at_197) _ kk) ?_
    refine uAnd Xj hx hby at_199 200 (uB Xj hx hby at_200 9 202 ?_)
    refine ob Tj (mkF mG 203 #[oi i0, oi i1, oi i2, oi i3, oi i4, oa b1, .unset, .unset, .unset, .unset, .unset, .unset] [(.int ((((i4.toUInt32 >>> ((9 : Int32) &&& 31).toUInt32).toInt32) &&& (65535 : Int32)) % (9 : Int32)))]) (fun _ kk => iremM Xj hx rfl (hb hby at_202) rfl (by decide) kk) ?_
    obtain ⟨nx, enx, hnx⟩ := own_n9 ((i4.toUInt32 >>> ((9 : Int32) &&& 31).toUInt32).toInt32)
    rw [enx]
    have J221 : ∀ (Tk : State) (hk : Heap) (LLk : List Loc) (sj tj : Addr) (kbj : ClassId) (nn : Int32), oN8 nn → Stand pG l eG room_1 (sG.setVm sG.vm) mG #[(.int i0), (.int i1), (.int i2), (.int i3), (.int i4)] belowG methG cG Tk LLk 12 156 → Fr n0 LLk → Tk.heap = hk → CHr Z oEL sG.vm h0 sG.vm hk → Old Z n0 hk → Keep h0 hk [] → Exa Z hk sj "java/lang/String" → Fld Z hk sj "java/lang/String" "coder" "B" (.int (0 : Int32)) → Fld Z hk sj "java/lang/String" "value" "[B" (.ref tj) → Arv Z hk tj kbj .byte nn (oB8 c0 c1 c2 c3 c4 c5 c6 c7) (.int (0 : Int32)) → Arv Z hk b1 k1 .char (8 : Int32) (oC8 c0 c1 c2 c3 c4 c5 c6 c7) (.int (0 : Int32)) → oGo pG eG belowG PP Tk (mkF mG 221 #[oi i0, oi i1, oi i2, oi i3, oi i4, oa b1, oi nn, oa sj, .unset, .unset, .unset, .unset] []) := by
      intro Tk hk LLk sj tj kbj nn hn Xk Nk ek CRk Ok Kk E_sj F_sjc F_sjv V_tj V_sj
      obtain ⟨fe, hv⟩ : ∃ z, (oSE (0 : Int32) nn c0 [((1 : Int32), c1), ((2 : Int32), c2), ((3 : Int32), c3), ((4 : Int32), c4), ((5 : Int32), c5), ((6 : Int32), c6), ((7 : Int32), c7)]) = z := ⟨_, rfl⟩
      refine uA2 Xk hx hby at_221 rfl 223 (uI2 Xk hx hby at_223 rfl 225 (uC Xk hx hby at_225 0 226 ?_))
      refine oCp Xk hx hby hZ hown (ow hw 30 rfl) (ow hw 31 rfl) (ow hw 32 rfl) (ow hw 3 rfl) (rm_endA0 b1 k1 c0 c1 c2 c3 c4 c5 c6 c7 nn fe ⟨hw, Ok, hS⟩ V_sj hv) ek Nk hml [(.ref b1), (.int nn), (.int (0 : Int32))] [] pd_2 at_226 229 ?_
      intro T3 L3 X3 e3 N3
      refine uT2 X3 hx hby at_229 #[oi i0, oi i1, oi i2, oi i3, oi i4, oa b1, oi nn, oa sj, oi fe, .unset, .unset, .unset] 231 (uI2 X3 hx hby at_231 rfl 233 ?_)
      by_cases hc4 : fe < (0 : Int32)
      · refine uN X3 hx hby at_233 ((if0 _ _).trans (tlt hc4).2.1) 236 (uC X3 hx hby at_236 1 237 ?_)
        obtain ⟨fs, hr, hrun, hended, hW, hsame⟩ := X3.leave (v := some (.int (1 : Int32))) (fun h => by rw [hret] at h; cases h)
        obtain ⟨w1, w2, w3⟩ := State.Since.ended (U := T3.setFrames fs) hS0 hW (by show _ ≤ T3.heap.size; rw [e3]; exact Kk.1) hsame
        have CF := CRk.trans (CHv.at X3 hZ hEL CRk.1)
        refine oout (retN X3 hx (t := .boolean) hret (by simp) (hb hby at_237) hr) hrun hended (hPP _ _ ⟨_, _, rfl, ?_, ?_, ⟨_, rfl⟩, w1, w2, w3.mono (by decide) (by decide)⟩)
        · show Q_rm0 Z wR wI zc vf wB wL wV cV i0 i1 i2 i3 i4 h0 n0 _ T3.heap _
          rw [e3]
          exact ⟨rfl, N3⟩
        · show CHr Z oEL sG.vm sG.heap T3.vm T3.heap
          rw [hh, e3]
          exact CF
      refine uY X3 hx hby at_233 ((if0 _ _).trans (flt hc4).2.1) 238 (uI2 X3 hx hby at_238 rfl 240 (uT2 X3 hx hby at_240 #[oi i0, oi i1, oi i2, oi i3, oi i4, oa b1, oi nn, oa sj, oi fe, oi fe, .unset, .unset] 242 ?_))
      obtain ⟨h1, hl1, hq0, hq1, hq2, hq3, hq4, hq5, hq6, hc4⟩ := own_se0 r0 r1 r2 r3 r4 r5 r6 r7 hv hc4
      have hq7 : (7 : Int32) < fe → oTl c7 = oLow c7 := fun q => absurd q (own_n7 h1)
      have J313 : ∀ (Tq : State) (LLq : List Loc), Stand pG l eG room_1 (sG.setVm sG.vm) mG #[(.int i0), (.int i1), (.int i2), (.int i3), (.int i4)] belowG methG cG Tq LLq 12 156 → Fr n0 LLq → Tq.heap = hk → ¬ (fe = (4 : Int32) ∧ oLow c0 = (106 : Int32) ∧ oLow c1 = (100 : Int32) ∧ oLow c2 = (98 : Int32) ∧ oLow c3 = (99 : Int32)) → oGo pG eG belowG PP Tq (mkF mG 313 #[oi i0, oi i1, oi i2, oi i3, oi i4, oa b1, oi nn, oa sj, oi fe, oi fe, .unset, .unset] []) := by
        intro Tq LLq Xq Nq eq_ hnj
        refine uA2 Xq hx hby at_313 rfl 315 ?_
        obtain ⟨_, _, ⟨T5, L5, k5, n5⟩, -, X5, hS5, gs5, ⟨Lc5, hQ5, l5, y5, z5, CS5⟩, st5⟩ := callSS Xq hx (y := (⟨sU, "parse", "(Ljava/lang/String;)Lcom/example/lease_over_store/leaseoverstore/lease/StoreUrl;"⟩ : MethodName)) hown (mvT hZ (ow hw 62 rfl)) (mvT hZ (ow hw 63 rfl)) (mvT hZ (ow hw 64 rfl)) (mvT hZ (ow hw 65 rfl)) (by decide) (backOfSH (W := 0) (rm_parN sj tj kbj nn c0 c1 c2 c3 c4 c5 c6 c7 fe ⟨hw, Ok, hS⟩ E_sj F_sjc F_sjv V_tj r0 r1 r2 r3 r4 r5 r6 r7 hn hv hl1 h1 hnj) hZ (ow hw 65 rfl) (ow hw 64 rfl) (by decide) (by decide) hEL CRk.1) (g := (mkF mG 315 #[oi i0, oi i1, oi i2, oi i3, oi i4, oa b1, oi nn, oa sj, oi fe, oi fe, .unset, .unset] [(.ref sj)])) rfl (by rw [hml]; rfl) (argsL := [(.ref sj)]) (rest := []) (lenOf pd_31 rfl) rfl (by show 2 * 0 + _ ≤ _; exact Nat.le_of_eq rfl) (hb hby at_315) (fun _ _ => ⟨rfl, eq_, (by decide : 12 + 20 ≤ _), (by decide : 156 + 122 ≤ _)⟩)
        dsimp only [Pt.U, Pt.locs, Pt.cells, Pt.slots] at X5 l5 y5 z5 st5 hQ5 hS5 gs5 CS5
        subst l5 y5 z5
        obtain ⟨X5, hS5, hZ, hown⟩ := rebS hS0 (by rw [eq_]; exact Kk.1) X5 hS5 gs5 hZ hown
        obtain ⟨h5, e5⟩ : ∃ h, T5.heap = h := ⟨_, rfl⟩
        rw [e5] at hQ5
        obtain ⟨b0_5, r0_5, r1_5, kq0_5, rfl, N5q, K5q, O5, n_b0_5, z_b0_5, F5_0, F5_1, F5_2, F5_3, F5_4, F5_5, F5_6⟩ := hQ5
        have N5 := Fr.app Nq N5q
        have sz_b0_5 : h0.size ≤ b0_5 := Nat.le_trans Kk.1 z_b0_5
        have ne_sj_b0_5 : sj ≠ b0_5 := Nat.ne_of_lt (Nat.lt_of_lt_of_le E_sj.lt z_b0_5)
        have ne_tj_b0_5 : tj ≠ b0_5 := Nat.ne_of_lt (Nat.lt_of_lt_of_le V_tj.lt z_b0_5)
        have ne_b1_b0_5 : b1 ≠ b0_5 := Nat.ne_of_lt (Nat.lt_of_lt_of_le V_sj.lt z_b0_5)
        have K5 := Kk.trans K5q all0
        rw [e5] at CS5 hS5
        have hk5 : h5.size ≤ h5.size := Nat.le_refl _
        have CR5 := CRk.trans CS5
        obtain ⟨LL6, X5, N5⟩ : ∃ LL, Stand pG l eG _ _ mG _ belowG methG cG T5 LL 32 278 ∧ Fr n0 LL := ⟨_, X5, N5⟩
        refine ob T5 (mkF mG 318 #[oi i0, oi i1, oi i2, oi i3, oi i4, oa b1, oi nn, oa sj, oi fe, oi fe, .unset, .unset] [(.ref b0_5)]) (fun _ kk => st5.trans kk) ?_
        refine uO2 X5 hx hby at_318 #[oi i0, oi i1, oi i2, oi i3, oi i4, oa b1, oi nn, oa sj, oi fe, oi fe, oa b0_5, .unset] 320 (uA2 X5 hx hby at_320 rfl 322 ?_)
        refine oVp X5 hx hby hZ hown (ow hw 201 rfl) (ow hw 202 rfl) (ow hw 204 rfl) (ow hw 203 rfl) (ow hw 205 rfl) (ow hw 64 rfl) (rm_gsc b0_5 r0_5 ⟨hw, O5, hS⟩ F5_2) e5 F5_0 N5 hml [] [] pd_19 at_322 325 ?_
        intro T7 L7 X7 e7 N7
        refine uO2 X7 hx hby at_325 #[oi i0, oi i1, oi i2, oi i3, oi i4, oa b1, oi nn, oa sj, oi fe, oi fe, oa b0_5, oa r0_5] 327 (uA2 X7 hx hby at_327 rfl 329 (uA2 X7 hx hby at_329 rfl 331 ?_))
        refine oVp X7 hx hby hZ hown (ow hw 206 rfl) (ow hw 207 rfl) (ow hw 209 rfl) (ow hw 208 rfl) (ow hw 210 rfl) (ow hw 64 rfl) (rm_gur b0_5 sj ⟨hw, O5, hS⟩ F5_1) e7 F5_0 N7 hml [] [(.ref sj)] pd_19 at_331 334 ?_
        intro T8 L8 X8 e8 N8
        refine oVp X8 hx hby hZ hown (ow hw 211 rfl) (ow hw 212 rfl) (ow hw 214 rfl) (ow hw 213 rfl) (ow hw 215 rfl) (ow hw 8 rfl) (rm_seq sj ⟨hw, O5, hS⟩ ) e8 (E_sj.keep K5q) N8 hml [(.ref sj)] [] pd_32 at_334 337 ?_
        intro T9 L9 X9 e9 N9
        refine uY X9 hx hby at_337 ((if0 _ _).trans (feq (by decide : ¬ ((1 : Int32) = (0 : Int32)))).2) 342 (uA2 X9 hx hby at_342 rfl 344 ?_)
        refine oVp X9 hx hby hZ hown (ow hw 216 rfl) (ow hw 75 rfl) (ow hw 77 rfl) (ow hw 76 rfl) (ow hw 78 rfl) (ow hw 8 rfl) (rm_len r0_5 r1_5 kq0_5 fe ((oT8 c0 c1 c2 c3 c4 c5 c6 c7)) ⟨hw, O5, hS⟩ F5_3 F5_4 F5_5 F5_6) e9 F5_3 N9 hml [] [] pd_8 at_344 347 ?_
        intro T10 L10 X10 e10 N10
        refine uI2 X10 hx hby at_347 rfl 349 (uYc X10 hx hby at_349 (teq rfl).1 354 (uA2 X10 hx hby at_354 rfl 356 (uA2 X10 hx hby at_356 rfl 358 (uI2 X10 hx hby at_358 rfl 360 (uC X10 hx hby at_360 0 361 ?_)))))
        refine oCp X10 hx hby hZ hown (ow hw 217 rfl) (ow hw 218 rfl) (ow hw 219 rfl) (ow hw 3 rfl) (rm_ag0 r0_5 r1_5 kq0_5 fe b1 k1 c0 c1 c2 c3 c4 c5 c6 c7 ⟨hw, O5, hS⟩ F5_3 F5_4 F5_5 F5_6 (V_sj.keep K5q nin0) r0 r1 r2 r3 r4 r5 r6 r7 hq0) e10 N10 hml [(.ref r0_5), (.ref b1), (.int fe), (.int (0 : Int32))] [] pd_33 at_361 364 ?_
        intro T11 L11 X11 e11 N11
        refine uN X11 hx hby at_364 ((if0 _ _).trans (feq (by decide : ¬ ((1 : Int32) = (0 : Int32)))).1) 367 (uA2 X11 hx hby at_367 rfl 369 (uA2 X11 hx hby at_369 rfl 371 (uI2 X11 hx hby at_371 rfl 373 (uC X11 hx hby at_373 1 374 ?_))))
        refine oCp X11 hx hby hZ hown (ow hw 217 rfl) (ow hw 218 rfl) (ow hw 219 rfl) (ow hw 3 rfl) (rm_ag1 r0_5 r1_5 kq0_5 fe b1 k1 c0 c1 c2 c3 c4 c5 c6 c7 ⟨hw, O5, hS⟩ F5_3 F5_4 F5_5 F5_6 (V_sj.keep K5q nin0) r0 r1 r2 r3 r4 r5 r6 r7 hq1) e11 N11 hml [(.ref r0_5), (.ref b1), (.int fe), (.int (1 : Int32))] [] pd_33 at_374 377 ?_
        intro T12 L12 X12 e12 N12
        refine uN X12 hx hby at_377 ((if0 _ _).trans (feq (by decide : ¬ ((1 : Int32) = (0 : Int32)))).1) 380 (uA2 X12 hx hby at_380 rfl 382 (uA2 X12 hx hby at_382 rfl 384 (uI2 X12 hx hby at_384 rfl 386 (uC X12 hx hby at_386 2 387 ?_))))
        refine oCp X12 hx hby hZ hown (ow hw 217 rfl) (ow hw 218 rfl) (ow hw 219 rfl) (ow hw 3 rfl) (rm_ag2 r0_5 r1_5 kq0_5 fe b1 k1 c0 c1 c2 c3 c4 c5 c6 c7 ⟨hw, O5, hS⟩ F5_3 F5_4 F5_5 F5_6 (V_sj.keep K5q nin0) r0 r1 r2 r3 r4 r5 r6 r7 hq2) e12 N12 hml [(.ref r0_5), (.ref b1), (.int fe), (.int (2 : Int32))] [] pd_33 at_387 390 ?_
        intro T13 L13 X13 e13 N13
        refine uN X13 hx hby at_390 ((if0 _ _).trans (feq (by decide : ¬ ((1 : Int32) = (0 : Int32)))).1) 393 (uA2 X13 hx hby at_393 rfl 395 (uA2 X13 hx hby at_395 rfl 397 (uI2 X13 hx hby at_397 rfl 399 (uC X13 hx hby at_399 3 400 ?_))))
        refine oCp X13 hx hby hZ hown (ow hw 217 rfl) (ow hw 218 rfl) (ow hw 219 rfl) (ow hw 3 rfl) (rm_ag3 r0_5 r1_5 kq0_5 fe b1 k1 c0 c1 c2 c3 c4 c5 c6 c7 ⟨hw, O5, hS⟩ F5_3 F5_4 F5_5 F5_6 (V_sj.keep K5q nin0) r0 r1 r2 r3 r4 r5 r6 r7 hq3) e13 N13 hml [(.ref r0_5), (.ref b1), (.int fe), (.int (3 : Int32))] [] pd_33 at_400 403 ?_
        intro T14 L14 X14 e14 N14
        refine uN X14 hx hby at_403 ((if0 _ _).trans (feq (by decide : ¬ ((1 : Int32) = (0 : Int32)))).1) 406 (uA2 X14 hx hby at_406 rfl 408 (uA2 X14 hx hby at_408 rfl 410 (uI2 X14 hx hby at_410 rfl 412 (uC X14 hx hby at_412 4 413 ?_))))
        refine oCp X14 hx hby hZ hown (ow hw 217 rfl) (ow hw 218 rfl) (ow hw 219 rfl) (ow hw 3 rfl) (rm_ag4 r0_5 r1_5 kq0_5 fe b1 k1 c0 c1 c2 c3 c4 c5 c6 c7 ⟨hw, O5, hS⟩ F5_3 F5_4 F5_5 F5_6 (V_sj.keep K5q nin0) r0 r1 r2 r3 r4 r5 r6 r7 hq4) e14 N14 hml [(.ref r0_5), (.ref b1), (.int fe), (.int (4 : Int32))] [] pd_33 at_413 416 ?_
        intro T15 L15 X15 e15 N15
        refine uN X15 hx hby at_416 ((if0 _ _).trans (feq (by decide : ¬ ((1 : Int32) = (0 : Int32)))).1) 419 (uA2 X15 hx hby at_419 rfl 421 (uA2 X15 hx hby at_421 rfl 423 (uI2 X15 hx hby at_423 rfl 425 (uC X15 hx hby at_425 5 426 ?_))))
        refine oCp X15 hx hby hZ hown (ow hw 217 rfl) (ow hw 218 rfl) (ow hw 219 rfl) (ow hw 3 rfl) (rm_ag5 r0_5 r1_5 kq0_5 fe b1 k1 c0 c1 c2 c3 c4 c5 c6 c7 ⟨hw, O5, hS⟩ F5_3 F5_4 F5_5 F5_6 (V_sj.keep K5q nin0) r0 r1 r2 r3 r4 r5 r6 r7 hq5) e15 N15 hml [(.ref r0_5), (.ref b1), (.int fe), (.int (5 : Int32))] [] pd_33 at_426 429 ?_
        intro T16 L16 X16 e16 N16
        refine uN X16 hx hby at_429 ((if0 _ _).trans (feq (by decide : ¬ ((1 : Int32) = (0 : Int32)))).1) 432 (uA2 X16 hx hby at_432 rfl 434 (uA2 X16 hx hby at_434 rfl 436 (uI2 X16 hx hby at_436 rfl 438 (uB X16 hx hby at_438 6 440 ?_))))
        refine oCp X16 hx hby hZ hown (ow hw 217 rfl) (ow hw 218 rfl) (ow hw 219 rfl) (ow hw 3 rfl) (rm_ag6 r0_5 r1_5 kq0_5 fe b1 k1 c0 c1 c2 c3 c4 c5 c6 c7 ⟨hw, O5, hS⟩ F5_3 F5_4 F5_5 F5_6 (V_sj.keep K5q nin0) r0 r1 r2 r3 r4 r5 r6 r7 hq6) e16 N16 hml [(.ref r0_5), (.ref b1), (.int fe), (.int (6 : Int32))] [] pd_33 at_440 443 ?_
        intro T17 L17 X17 e17 N17
        refine uN X17 hx hby at_443 ((if0 _ _).trans (feq (by decide : ¬ ((1 : Int32) = (0 : Int32)))).1) 446 (uA2 X17 hx hby at_446 rfl 448 (uA2 X17 hx hby at_448 rfl 450 (uI2 X17 hx hby at_450 rfl 452 (uB X17 hx hby at_452 7 454 ?_))))
        refine oCp X17 hx hby hZ hown (ow hw 217 rfl) (ow hw 218 rfl) (ow hw 219 rfl) (ow hw 3 rfl) (rm_ag7 r0_5 r1_5 kq0_5 fe b1 k1 c0 c1 c2 c3 c4 c5 c6 c7 ⟨hw, O5, hS⟩ F5_3 F5_4 F5_5 F5_6 (V_sj.keep K5q nin0) r0 r1 r2 r3 r4 r5 r6 r7 hq7) e17 N17 hml [(.ref r0_5), (.ref b1), (.int fe), (.int (7 : Int32))] [] pd_33 at_454 457 ?_
        intro T18 L18 X18 e18 N18
        refine uN X18 hx hby at_457 ((if0 _ _).trans (feq (by decide : ¬ ((1 : Int32) = (0 : Int32)))).1) 460 (uC X18 hx hby at_460 1 461 (uG X18 hx hby at_461 465 ?_))
        obtain ⟨fs, hr, hrun, hended, hW, hsame⟩ := X18.leave (v := some (.int (1 : Int32))) (fun h => by rw [hret] at h; cases h)
        obtain ⟨w1, w2, w3⟩ := State.Since.ended (U := T18.setFrames fs) hS5 hW (by show _ ≤ T18.heap.size; rw [e18]; exact hk5) hsame
        have CF := CR5.trans (CHv.at X18 hZ hEL CR5.1)
        refine oout (retN X18 hx (t := .boolean) hret (by simp) (hb hby at_465) hr) hrun hended (hPP _ _ ⟨_, _, rfl, ?_, ?_, ⟨_, rfl⟩, w1, w2, w3.mono (by decide) (by decide)⟩)
        · show Q_rm0 Z wR wI zc vf wB wL wV cV i0 i1 i2 i3 i4 h0 n0 _ T18.heap _
          rw [e18]
          exact ⟨rfl, N18⟩
        · show CHr Z oEL sG.vm sG.heap T18.vm T18.heap
          rw [hh, e18]
          exact CF
      refine uI2 X3 hx hby at_242 rfl 244 (uC X3 hx hby at_244 4 245 ?_)
      by_cases hc19 : fe = (4 : Int32)
      · refine uNc X3 hx hby at_245 (teq hc19).2 248 (uA2 X3 hx hby at_248 rfl 250 (uC X3 hx hby at_250 0 251 (oLc X3 hx hby hZ e3 V_sj ⟨by decide, by decide⟩ rfl at_251 252 ?_)))
        refine oCp X3 hx hby hZ hown (ow hw 59 rfl) (ow hw 60 rfl) (ow hw 61 rfl) (ow hw 3 rfl) (rm_low c0 ⟨hw, Ok, hS⟩ r0) e3 N3 hml [(.int c0)] [] pd_29 at_252 255 ?_
        intro T20 L20 X20 e20 N20
        refine uB X20 hx hby at_255 106 257 ?_
        by_cases hc21 : (oLow c0) = (106 : Int32)
        · refine uNc X20 hx hby at_257 (teq hc21).2 260 (uA2 X20 hx hby at_260 rfl 262 (uC X20 hx hby at_262 1 263 (oLc X20 hx hby hZ e20 V_sj ⟨by decide, by decide⟩ rfl at_263 264 ?_)))
          refine oCp X20 hx hby hZ hown (ow hw 59 rfl) (ow hw 60 rfl) (ow hw 61 rfl) (ow hw 3 rfl) (rm_low c1 ⟨hw, Ok, hS⟩ r1) e20 N20 hml [(.int c1)] [] pd_29 at_264 267 ?_
          intro T22 L22 X22 e22 N22
          refine uB X22 hx hby at_267 100 269 ?_
          by_cases hc23 : (oLow c1) = (100 : Int32)
          · refine uNc X22 hx hby at_269 (teq hc23).2 272 (uA2 X22 hx hby at_272 rfl 274 (uC X22 hx hby at_274 2 275 (oLc X22 hx hby hZ e22 V_sj ⟨by decide, by decide⟩ rfl at_275 276 ?_)))
            refine oCp X22 hx hby hZ hown (ow hw 59 rfl) (ow hw 60 rfl) (ow hw 61 rfl) (ow hw 3 rfl) (rm_low c2 ⟨hw, Ok, hS⟩ r2) e22 N22 hml [(.int c2)] [] pd_29 at_276 279 ?_
            intro T24 L24 X24 e24 N24
            refine uB X24 hx hby at_279 98 281 ?_
            by_cases hc25 : (oLow c2) = (98 : Int32)
            · refine uNc X24 hx hby at_281 (teq hc25).2 284 (uA2 X24 hx hby at_284 rfl 286 (uC X24 hx hby at_286 3 287 (oLc X24 hx hby hZ e24 V_sj ⟨by decide, by decide⟩ rfl at_287 288 ?_)))
              refine oCp X24 hx hby hZ hown (ow hw 59 rfl) (ow hw 60 rfl) (ow hw 61 rfl) (ow hw 3 rfl) (rm_low c3 ⟨hw, Ok, hS⟩ r3) e24 N24 hml [(.int c3)] [] pd_29 at_288 291 ?_
              intro T26 L26 X26 e26 N26
              refine uB X26 hx hby at_291 99 293 ?_
              by_cases hc27 : (oLow c3) = (99 : Int32)
              · refine uNc X26 hx hby at_293 (teq hc27).2 296 ?_
                obtain ⟨e2, hv2⟩ : ∃ z, (oSE (5 : Int32) nn c5 [((6 : Int32), c6), ((7 : Int32), c7)]) = z := ⟨_, rfl⟩
                refine uA2 X26 hx hby at_296 rfl 298 (uI2 X26 hx hby at_298 rfl 300 (uC X26 hx hby at_300 5 301 ?_))
                refine oCp X26 hx hby hZ hown (ow hw 30 rfl) (ow hw 31 rfl) (ow hw 32 rfl) (ow hw 3 rfl) (rm_endA5 b1 k1 c0 c1 c2 c3 c4 c5 c6 c7 nn e2 ⟨hw, Ok, hS⟩ V_sj hv2) e26 N26 hml [(.ref b1), (.int nn), (.int (5 : Int32))] [] pd_2 at_301 304 ?_
                intro T28 L28 X28 e28 N28
                refine uT2 X28 hx hby at_304 #[oi i0, oi i1, oi i2, oi i3, oi i4, oa b1, oi nn, oa sj, oi fe, oi e2, .unset, .unset] 306 (uI2 X28 hx hby at_306 rfl 308 ?_)
                by_cases hc29 : e2 < (0 : Int32)
                · refine uN X28 hx hby at_308 ((if0 _ _).trans (tlt hc29).2.1) 311 (uC X28 hx hby at_311 1 312 ?_)
                  obtain ⟨fs, hr, hrun, hended, hW, hsame⟩ := X28.leave (v := some (.int (1 : Int32))) (fun h => by rw [hret] at h; cases h)
                  obtain ⟨w1, w2, w3⟩ := State.Since.ended (U := T28.setFrames fs) hS0 hW (by show _ ≤ T28.heap.size; rw [e28]; exact Kk.1) hsame
                  have CF := CRk.trans (CHv.at X28 hZ hEL CRk.1)
                  refine oout (retN X28 hx (t := .boolean) hret (by simp) (hb hby at_312) hr) hrun hended (hPP _ _ ⟨_, _, rfl, ?_, ?_, ⟨_, rfl⟩, w1, w2, w3.mono (by decide) (by decide)⟩)
                  · show Q_rm0 Z wR wI zc vf wB wL wV cV i0 i1 i2 i3 i4 h0 n0 _ T28.heap _
                    rw [e28]
                    exact ⟨rfl, N28⟩
                  · show CHr Z oEL sG.vm sG.heap T28.vm T28.heap
                    rw [hh, e28]
                    exact CF
                refine uY X28 hx hby at_308 ((if0 _ _).trans (flt hc29).2.1) 313 (uA2 X28 hx hby at_313 rfl 315 ?_)
                obtain ⟨h2, hl2, hp5, hp6⟩ := own_se5 r0 r1 r2 r3 r4 r5 r6 r7 hv2 hc29
                have hz4 : c4 = (58 : Int32) := hc4 hc19
                have hp0 : (0 : Int32) < e2 → oTl c0 = oLow c0 := fun _ => own_tlJ c0 r0 (Or.inl hc21)
                have hp1 : (1 : Int32) < e2 → oTl c1 = oLow c1 := fun _ => own_tlJ c1 r1 (Or.inr (Or.inl hc23))
                have hp2 : (2 : Int32) < e2 → oTl c2 = oLow c2 := fun _ => own_tlJ c2 r2 (Or.inr (Or.inr (Or.inl hc25)))
                have hp3 : (3 : Int32) < e2 → oTl c3 = oLow c3 := fun _ => own_tlJ c3 r3 (Or.inr (Or.inr (Or.inr (hc27))))
                have hp4 : (4 : Int32) < e2 → oTl c4 = oLow c4 := fun _ => by rw [hz4]; decide
                have hp7 : (7 : Int32) < e2 → oTl c7 = oLow c7 := fun q => absurd q (own_n7 h2)
                obtain ⟨_, _, ⟨T30, L30, k30, n30⟩, -, X30, hS30, gs30, ⟨Lc30, hQ30, l30, y30, z30, CS30⟩, st30⟩ := callSS X28 hx (y := (⟨sU, "parse", "(Ljava/lang/String;)Lcom/example/lease_over_store/leaseoverstore/lease/StoreUrl;"⟩ : MethodName)) hown (mvT hZ (ow hw 62 rfl)) (mvT hZ (ow hw 63 rfl)) (mvT hZ (ow hw 64 rfl)) (mvT hZ (ow hw 65 rfl)) (by decide) (backOfSH (W := 0) (rm_parJ sj tj kbj nn c0 c1 c2 c3 c4 c5 c6 c7 e2 ⟨hw, Ok, hS⟩ E_sj F_sjc F_sjv V_tj r0 r1 r2 r3 r4 r5 r6 r7 hn (hv.trans hc19) (by rw [← hc19]; exact hl1) (own_jY r0 r1 r2 r3 hc21 hc23 hc25 hc27) hv2 h2 hl2) hZ (ow hw 65 rfl) (ow hw 64 rfl) (by decide) (by decide) hEL CRk.1) (g := (mkF mG 315 #[oi i0, oi i1, oi i2, oi i3, oi i4, oa b1, oi nn, oa sj, oi fe, oi e2, .unset, .unset] [(.ref sj)])) rfl (by rw [hml]; rfl) (argsL := [(.ref sj)]) (rest := []) (lenOf pd_31 rfl) rfl (by show 2 * 0 + _ ≤ _; exact Nat.le_of_eq rfl) (hb hby at_315) (fun _ _ => ⟨rfl, e28, (by decide : 12 + 20 ≤ _), (by decide : 156 + 122 ≤ _)⟩)
                dsimp only [Pt.U, Pt.locs, Pt.cells, Pt.slots] at X30 l30 y30 z30 st30 hQ30 hS30 gs30 CS30
                subst l30 y30 z30
                obtain ⟨X30, hS30, hZ, hown⟩ := rebS hS0 (by rw [e28]; exact Kk.1) X30 hS30 gs30 hZ hown
                obtain ⟨h30, e30⟩ : ∃ h, T30.heap = h := ⟨_, rfl⟩
                rw [e30] at hQ30
                obtain ⟨b0_30, r0_30, r1_30, kq0_30, rfl, N30q, K30q, O30, n_b0_30, z_b0_30, F30_0, F30_1, F30_2, F30_3, F30_4, F30_5, F30_6⟩ := hQ30
                have N30 := Fr.app N28 N30q
                have sz_b0_30 : h0.size ≤ b0_30 := Nat.le_trans Kk.1 z_b0_30
                have ne_sj_b0_30 : sj ≠ b0_30 := Nat.ne_of_lt (Nat.lt_of_lt_of_le E_sj.lt z_b0_30)
                have ne_tj_b0_30 : tj ≠ b0_30 := Nat.ne_of_lt (Nat.lt_of_lt_of_le V_tj.lt z_b0_30)
                have ne_b1_b0_30 : b1 ≠ b0_30 := Nat.ne_of_lt (Nat.lt_of_lt_of_le V_sj.lt z_b0_30)
                have K30 := Kk.trans K30q all0
                rw [e30] at CS30 hS30
                have hk30 : h30.size ≤ h30.size := Nat.le_refl _
                have CR30 := CRk.trans CS30
                obtain ⟨LL31, X30, N30⟩ : ∃ LL, Stand pG l eG _ _ mG _ belowG methG cG T30 LL 32 278 ∧ Fr n0 LL := ⟨_, X30, N30⟩
                refine ob T30 (mkF mG 318 #[oi i0, oi i1, oi i2, oi i3, oi i4, oa b1, oi nn, oa sj, oi fe, oi e2, .unset, .unset] [(.ref b0_30)]) (fun _ kk => st30.trans kk) ?_
                refine uO2 X30 hx hby at_318 #[oi i0, oi i1, oi i2, oi i3, oi i4, oa b1, oi nn, oa sj, oi fe, oi e2, oa b0_30, .unset] 320 (uA2 X30 hx hby at_320 rfl 322 ?_)
                refine oVp X30 hx hby hZ hown (ow hw 201 rfl) (ow hw 202 rfl) (ow hw 204 rfl) (ow hw 203 rfl) (ow hw 205 rfl) (ow hw 64 rfl) (rm_gsc b0_30 r0_30 ⟨hw, O30, hS⟩ F30_2) e30 F30_0 N30 hml [] [] pd_19 at_322 325 ?_
                intro T32 L32 X32 e32 N32
                refine uO2 X32 hx hby at_325 #[oi i0, oi i1, oi i2, oi i3, oi i4, oa b1, oi nn, oa sj, oi fe, oi e2, oa b0_30, oa r0_30] 327 (uA2 X32 hx hby at_327 rfl 329 (uA2 X32 hx hby at_329 rfl 331 ?_))
                refine oVp X32 hx hby hZ hown (ow hw 206 rfl) (ow hw 207 rfl) (ow hw 209 rfl) (ow hw 208 rfl) (ow hw 210 rfl) (ow hw 64 rfl) (rm_gur b0_30 sj ⟨hw, O30, hS⟩ F30_1) e32 F30_0 N32 hml [] [(.ref sj)] pd_19 at_331 334 ?_
                intro T33 L33 X33 e33 N33
                refine oVp X33 hx hby hZ hown (ow hw 211 rfl) (ow hw 212 rfl) (ow hw 214 rfl) (ow hw 213 rfl) (ow hw 215 rfl) (ow hw 8 rfl) (rm_seq sj ⟨hw, O30, hS⟩ ) e33 (E_sj.keep K30q) N33 hml [(.ref sj)] [] pd_32 at_334 337 ?_
                intro T34 L34 X34 e34 N34
                refine uY X34 hx hby at_337 ((if0 _ _).trans (feq (by decide : ¬ ((1 : Int32) = (0 : Int32)))).2) 342 (uA2 X34 hx hby at_342 rfl 344 ?_)
                refine oVp X34 hx hby hZ hown (ow hw 216 rfl) (ow hw 75 rfl) (ow hw 77 rfl) (ow hw 76 rfl) (ow hw 78 rfl) (ow hw 8 rfl) (rm_len r0_30 r1_30 kq0_30 e2 ((oT8 c0 c1 c2 c3 c4 c5 c6 c7)) ⟨hw, O30, hS⟩ F30_3 F30_4 F30_5 F30_6) e34 F30_3 N34 hml [] [] pd_8 at_344 347 ?_
                intro T35 L35 X35 e35 N35
                refine uI2 X35 hx hby at_347 rfl 349 (uYc X35 hx hby at_349 (teq rfl).1 354 (uA2 X35 hx hby at_354 rfl 356 (uA2 X35 hx hby at_356 rfl 358 (uI2 X35 hx hby at_358 rfl 360 (uC X35 hx hby at_360 0 361 ?_)))))
                refine oCp X35 hx hby hZ hown (ow hw 217 rfl) (ow hw 218 rfl) (ow hw 219 rfl) (ow hw 3 rfl) (rm_ag0 r0_30 r1_30 kq0_30 e2 b1 k1 c0 c1 c2 c3 c4 c5 c6 c7 ⟨hw, O30, hS⟩ F30_3 F30_4 F30_5 F30_6 (V_sj.keep K30q nin0) r0 r1 r2 r3 r4 r5 r6 r7 hp0) e35 N35 hml [(.ref r0_30), (.ref b1), (.int e2), (.int (0 : Int32))] [] pd_33 at_361 364 ?_
                intro T36 L36 X36 e36 N36
                refine uN X36 hx hby at_364 ((if0 _ _).trans (feq (by decide : ¬ ((1 : Int32) = (0 : Int32)))).1) 367 (uA2 X36 hx hby at_367 rfl 369 (uA2 X36 hx hby at_369 rfl 371 (uI2 X36 hx hby at_371 rfl 373 (uC X36 hx hby at_373 1 374 ?_))))
                refine oCp X36 hx hby hZ hown (ow hw 217 rfl) (ow hw 218 rfl) (ow hw 219 rfl) (ow hw 3 rfl) (rm_ag1 r0_30 r1_30 kq0_30 e2 b1 k1 c0 c1 c2 c3 c4 c5 c6 c7 ⟨hw, O30, hS⟩ F30_3 F30_4 F30_5 F30_6 (V_sj.keep K30q nin0) r0 r1 r2 r3 r4 r5 r6 r7 hp1) e36 N36 hml [(.ref r0_30), (.ref b1), (.int e2), (.int (1 : Int32))] [] pd_33 at_374 377 ?_
                intro T37 L37 X37 e37 N37
                refine uN X37 hx hby at_377 ((if0 _ _).trans (feq (by decide : ¬ ((1 : Int32) = (0 : Int32)))).1) 380 (uA2 X37 hx hby at_380 rfl 382 (uA2 X37 hx hby at_382 rfl 384 (uI2 X37 hx hby at_384 rfl 386 (uC X37 hx hby at_386 2 387 ?_))))
                refine oCp X37 hx hby hZ hown (ow hw 217 rfl) (ow hw 218 rfl) (ow hw 219 rfl) (ow hw 3 rfl) (rm_ag2 r0_30 r1_30 kq0_30 e2 b1 k1 c0 c1 c2 c3 c4 c5 c6 c7 ⟨hw, O30, hS⟩ F30_3 F30_4 F30_5 F30_6 (V_sj.keep K30q nin0) r0 r1 r2 r3 r4 r5 r6 r7 hp2) e37 N37 hml [(.ref r0_30), (.ref b1), (.int e2), (.int (2 : Int32))] [] pd_33 at_387 390 ?_
                intro T38 L38 X38 e38 N38
                refine uN X38 hx hby at_390 ((if0 _ _).trans (feq (by decide : ¬ ((1 : Int32) = (0 : Int32)))).1) 393 (uA2 X38 hx hby at_393 rfl 395 (uA2 X38 hx hby at_395 rfl 397 (uI2 X38 hx hby at_397 rfl 399 (uC X38 hx hby at_399 3 400 ?_))))
                refine oCp X38 hx hby hZ hown (ow hw 217 rfl) (ow hw 218 rfl) (ow hw 219 rfl) (ow hw 3 rfl) (rm_ag3 r0_30 r1_30 kq0_30 e2 b1 k1 c0 c1 c2 c3 c4 c5 c6 c7 ⟨hw, O30, hS⟩ F30_3 F30_4 F30_5 F30_6 (V_sj.keep K30q nin0) r0 r1 r2 r3 r4 r5 r6 r7 hp3) e38 N38 hml [(.ref r0_30), (.ref b1), (.int e2), (.int (3 : Int32))] [] pd_33 at_400 403 ?_
                intro T39 L39 X39 e39 N39
                refine uN X39 hx hby at_403 ((if0 _ _).trans (feq (by decide : ¬ ((1 : Int32) = (0 : Int32)))).1) 406 (uA2 X39 hx hby at_406 rfl 408 (uA2 X39 hx hby at_408 rfl 410 (uI2 X39 hx hby at_410 rfl 412 (uC X39 hx hby at_412 4 413 ?_))))
                refine oCp X39 hx hby hZ hown (ow hw 217 rfl) (ow hw 218 rfl) (ow hw 219 rfl) (ow hw 3 rfl) (rm_ag4 r0_30 r1_30 kq0_30 e2 b1 k1 c0 c1 c2 c3 c4 c5 c6 c7 ⟨hw, O30, hS⟩ F30_3 F30_4 F30_5 F30_6 (V_sj.keep K30q nin0) r0 r1 r2 r3 r4 r5 r6 r7 hp4) e39 N39 hml [(.ref r0_30), (.ref b1), (.int e2), (.int (4 : Int32))] [] pd_33 at_413 416 ?_
                intro T40 L40 X40 e40 N40
                refine uN X40 hx hby at_416 ((if0 _ _).trans (feq (by decide : ¬ ((1 : Int32) = (0 : Int32)))).1) 419 (uA2 X40 hx hby at_419 rfl 421 (uA2 X40 hx hby at_421 rfl 423 (uI2 X40 hx hby at_423 rfl 425 (uC X40 hx hby at_425 5 426 ?_))))
                refine oCp X40 hx hby hZ hown (ow hw 217 rfl) (ow hw 218 rfl) (ow hw 219 rfl) (ow hw 3 rfl) (rm_ag5 r0_30 r1_30 kq0_30 e2 b1 k1 c0 c1 c2 c3 c4 c5 c6 c7 ⟨hw, O30, hS⟩ F30_3 F30_4 F30_5 F30_6 (V_sj.keep K30q nin0) r0 r1 r2 r3 r4 r5 r6 r7 hp5) e40 N40 hml [(.ref r0_30), (.ref b1), (.int e2), (.int (5 : Int32))] [] pd_33 at_426 429 ?_
                intro T41 L41 X41 e41 N41
                refine uN X41 hx hby at_429 ((if0 _ _).trans (feq (by decide : ¬ ((1 : Int32) = (0 : Int32)))).1) 432 (uA2 X41 hx hby at_432 rfl 434 (uA2 X41 hx hby at_434 rfl 436 (uI2 X41 hx hby at_436 rfl 438 (uB X41 hx hby at_438 6 440 ?_))))
                refine oCp X41 hx hby hZ hown (ow hw 217 rfl) (ow hw 218 rfl) (ow hw 219 rfl) (ow hw 3 rfl) (rm_ag6 r0_30 r1_30 kq0_30 e2 b1 k1 c0 c1 c2 c3 c4 c5 c6 c7 ⟨hw, O30, hS⟩ F30_3 F30_4 F30_5 F30_6 (V_sj.keep K30q nin0) r0 r1 r2 r3 r4 r5 r6 r7 hp6) e41 N41 hml [(.ref r0_30), (.ref b1), (.int e2), (.int (6 : Int32))] [] pd_33 at_440 443 ?_
                intro T42 L42 X42 e42 N42
                refine uN X42 hx hby at_443 ((if0 _ _).trans (feq (by decide : ¬ ((1 : Int32) = (0 : Int32)))).1) 446 (uA2 X42 hx hby at_446 rfl 448 (uA2 X42 hx hby at_448 rfl 450 (uI2 X42 hx hby at_450 rfl 452 (uB X42 hx hby at_452 7 454 ?_))))
                refine oCp X42 hx hby hZ hown (ow hw 217 rfl) (ow hw 218 rfl) (ow hw 219 rfl) (ow hw 3 rfl) (rm_ag7 r0_30 r1_30 kq0_30 e2 b1 k1 c0 c1 c2 c3 c4 c5 c6 c7 ⟨hw, O30, hS⟩ F30_3 F30_4 F30_5 F30_6 (V_sj.keep K30q nin0) r0 r1 r2 r3 r4 r5 r6 r7 hp7) e42 N42 hml [(.ref r0_30), (.ref b1), (.int e2), (.int (7 : Int32))] [] pd_33 at_454 457 ?_
                intro T43 L43 X43 e43 N43
                refine uN X43 hx hby at_457 ((if0 _ _).trans (feq (by decide : ¬ ((1 : Int32) = (0 : Int32)))).1) 460 (uC X43 hx hby at_460 1 461 (uG X43 hx hby at_461 465 ?_))
                obtain ⟨fs, hr, hrun, hended, hW, hsame⟩ := X43.leave (v := some (.int (1 : Int32))) (fun h => by rw [hret] at h; cases h)
                obtain ⟨w1, w2, w3⟩ := State.Since.ended (U := T43.setFrames fs) hS30 hW (by show _ ≤ T43.heap.size; rw [e43]; exact hk30) hsame
                have CF := CR30.trans (CHv.at X43 hZ hEL CR30.1)
                refine oout (retN X43 hx (t := .boolean) hret (by simp) (hb hby at_465) hr) hrun hended (hPP _ _ ⟨_, _, rfl, ?_, ?_, ⟨_, rfl⟩, w1, w2, w3.mono (by decide) (by decide)⟩)
                · show Q_rm0 Z wR wI zc vf wB wL wV cV i0 i1 i2 i3 i4 h0 n0 _ T43.heap _
                  rw [e43]
                  exact ⟨rfl, N43⟩
                · show CHr Z oEL sG.vm sG.heap T43.vm T43.heap
                  rw [hh, e43]
                  exact CF
              refine uYc X26 hx hby at_293 (feq hc27).2 313 ?_
              exact J313 T26 _ X26 N26 e26 (fun q => hc27 q.2.2.2.2)
            refine uYc X24 hx hby at_281 (feq hc25).2 313 ?_
            exact J313 T24 _ X24 N24 e24 (fun q => hc25 q.2.2.2.1)
          refine uYc X22 hx hby at_269 (feq hc23).2 313 ?_
          exact J313 T22 _ X22 N22 e22 (fun q => hc23 q.2.2.1)
        refine uYc X20 hx hby at_257 (feq hc21).2 313 ?_
        exact J313 T20 _ X20 N20 e20 (fun q => hc21 q.2.1)
      refine uYc X3 hx hby at_245 (feq hc19).2 313 ?_
      exact J313 T3 _ X3 N3 e3 (fun q => hc19 q.1)
    rcases hnx with rfl | rfl | rfl | rfl | rfl | rfl | rfl | rfl | rfl
    · show oGo pG eG belowG _ Tj (mkF mG 203 #[oi i0, oi i1, oi i2, oi i3, oi i4, oa b1, .unset, .unset, .unset, .unset, .unset, .unset] [(.int (0 : Int32))])
      refine uT2 Xj hx hby at_203 #[oi i0, oi i1, oi i2, oi i3, oi i4, oa b1, oi (0 : Int32), .unset, .unset, .unset, .unset, .unset] 205 ?_
      obtain ⟨T44, h44, X44, e44, E44, A44, D44, _x44, st44⟩ := newO Xj hx hZ hown (ow hw 6 rfl) (ow hw 7 rfl) (ow hw 8 rfl) ej (g := (mkF mG 205 #[oi i0, oi i1, oi i2, oi i3, oi i4, oa b1, oi (0 : Int32), .unset, .unset, .unset, .unset, .unset] [])) rfl (hb hby at_205) (by decide) (by decide)
      obtain ⟨b44, g44⟩ : ∃ z, z = hj.size := ⟨_, rfl⟩
      rw [← g44] at A44 D44 st44
      have n_b44 : n0 ≤ b44 := Nat.le_trans (on0 Oj) (Nat.le_of_eq g44.symm)
      have sz_b44 : h0.size ≤ b44 := Nat.le_trans Kj.1 (Nat.le_of_eq g44.symm)
      have ne_b1_b44 : b1 ≠ b44 := Nat.ne_of_lt (Nat.lt_of_lt_of_le V_s.lt (Nat.le_of_eq g44.symm))
      have CS44 : CHr Z oEL sG.vm hj sG.vm h44 := CHr.ext E44 CRj.1
      have CR44 := CRj.trans CS44
      have O44 := Oj.ext E44
      have K44 := Kj.ext E44
      obtain ⟨LL45, X44, Nj⟩ : ∃ LL, Stand pG l eG _ _ mG _ belowG methG cG T44 LL 10 140 ∧ Fr n0 LL := ⟨_, X44, Nj⟩
      have sf_b44 : Safe Z oEL sG.vm h44 b44 := Safe.ext E44 CRj.1 (Safe.new (Nat.le_of_eq g44.symm))
      have F44_24 : Fld Z h44 b44 "java/lang/String" "value" "[B" .null := D44 (Or.inr (ow hw 24 rfl)) (ty := (.array .byte)) (by decide)
      have F44_25 : Fld Z h44 b44 "java/lang/String" "coder" "B" (.int (0 : Int32)) := D44 (Or.inr (ow hw 25 rfl)) (ty := .byte) (by decide)
      refine ob T44 (mkF mG 208 #[oi i0, oi i1, oi i2, oi i3, oi i4, oa b1, oi (0 : Int32), .unset, .unset, .unset, .unset, .unset] [(.ref b44)]) (fun _ kk => st44 _ kk) ?_
      refine uD X44 hx hby at_208 209 (uA2 X44 hx hby at_209 rfl 211 (uI2 X44 hx hby at_211 rfl 213 ?_))
      obtain ⟨_, _, ⟨T46, L46, k46, n46⟩, -, X46, ⟨Lc46, hQ46, l46, y46, z46⟩, st46⟩ := Jvm.LawKit.callS X44 hx (y := (⟨sW, "cut", "([CI)[C"⟩ : MethodName)) hown (mvT hZ (ow hw 9 rfl)) (mvT hZ (ow hw 10 rfl)) (mvT hZ (ow hw 3 rfl)) (mvT hZ (ow hw 11 rfl)) (by decide) (backOf (W := 2) (rm_cut0 b1 k1 c0 c1 c2 c3 c4 c5 c6 c7 ⟨hw, O44, hS⟩ (V_s.ext E44) r0 r1 r2 r3 r4 r5 r6 r7) hZ (ow hw 11 rfl) (ow hw 3 rfl) (by decide) (by decide)) (g := (mkF mG 213 #[oi i0, oi i1, oi i2, oi i3, oi i4, oa b1, oi (0 : Int32), .unset, .unset, .unset, .unset, .unset] [(.int (0 : Int32)), (.ref b1), (.ref b44), (.ref b44)])) rfl (by rw [hml]; rfl) (argsL := [(.ref b1), (.int (0 : Int32))]) (rest := [(.ref b44), (.ref b44)]) (lenOf pd_34 rfl) rfl (by show 2 * 0 + _ ≤ _; exact Nat.le_of_eq rfl) (hb hby at_213) (fun _ _ => ⟨rfl, e44, (by decide : 10 + 1 ≤ _), (by decide : 140 + 0 ≤ _)⟩)
      dsimp only [Pt.U, Pt.locs, Pt.cells, Pt.slots] at X46 l46 y46 z46 st46 hQ46
      subst l46 y46 z46
      obtain ⟨h46, e46⟩ : ∃ h, T46.heap = h := ⟨_, rfl⟩
      rw [e46] at hQ46
      obtain ⟨b0_46, kq1_46, rfl, N46q, K46q, O46, n_b0_46, z_b0_46, F46_0⟩ := hQ46
      have N46 := Fr.app Nj N46q
      have sz_b0_46 : h0.size ≤ b0_46 := Nat.le_trans K44.1 z_b0_46
      have ne_b1_b0_46 : b1 ≠ b0_46 := Nat.ne_of_lt (Nat.lt_of_lt_of_le (V_s.ext E44).lt z_b0_46)
      have ne_b44_b0_46 : b44 ≠ b0_46 := Nat.ne_of_lt (Nat.lt_of_lt_of_le A44.lt z_b0_46)
      have K46 := K44.trans K46q all0
      have CS46 : CHr Z oEL sG.vm h44 sG.vm h46 := CHr.keep K46q sf0 CR44.1
      have CR46 := CR44.trans CS46
      have sf_b0_46 : Safe Z oEL sG.vm h46 b0_46 := Safe.keep K46q sf0 CR44.1 (Safe.new z_b0_46)
      obtain ⟨LL47, X46, N46⟩ : ∃ LL, Stand pG l eG _ _ mG _ belowG methG cG T46 LL 11 140 ∧ Fr n0 LL := ⟨_, X46, N46⟩
      refine ob T46 (mkF mG 216 #[oi i0, oi i1, oi i2, oi i3, oi i4, oa b1, oi (0 : Int32), .unset, .unset, .unset, .unset, .unset] [(.ref b0_46), (.ref b44), (.ref b44)]) (fun _ kk => st46 _ kk) ?_
      obtain ⟨_, _, ⟨T48, L48, k48, n48⟩, -, X48, hS48, gs48, ⟨Lc48, hQ48, l48, y48, z48, CS48⟩, st48⟩ := X46.specialBackS hx (y := (⟨"java/lang/String", "<init>", "([C)V"⟩ : MethodName)) rfl hown (mvT hZ (ow hw 12 rfl)) (mvT hZ (ow hw 13 rfl)) (mvT hZ (ow hw 14 rfl)) (by decide) (own_backS (W := 1) (rm_e1 b44 b0_46 .null (.int (0 : Int32)) kq1_46 ⟨hw, O46, hS⟩ (A44.keep K46q) (F44_24.keep K46q nin0) (F44_25.keep K46q nin0) F46_0 n_b44) hZ (ow hw 14 rfl) (ow hw 8 rfl) (by decide) (by decide) hEL CR46.1 (A44.keep K46q).lt (CHr.safe CS46 A44.lt sf_b44)) (g := (mkF mG 216 #[oi i0, oi i1, oi i2, oi i3, oi i4, oa b1, oi (0 : Int32), .unset, .unset, .unset, .unset, .unset] [(.ref b0_46), (.ref b44), (.ref b44)])) rfl (by rw [hml]; rfl) (Steps.refl _) (a := b44) (argsL := [(.ref b0_46)]) (rest := [(.ref b44)]) (lenOf pd_35 rfl) rfl (by show 2 * 0 + _ ≤ _; exact Nat.le_of_eq rfl) (hb hby at_216) (fun _ _ => ⟨rfl, e46, (by decide : 11 + 4 ≤ _), (by decide : 140 + 8 ≤ _)⟩)
      dsimp only [Pt.U, Pt.locs, Pt.cells, Pt.slots] at X48 l48 y48 z48 st48 hQ48 hS48 gs48 CS48
      subst l48 y48 z48
      obtain ⟨X48, hS48, hZ, hown⟩ := rebS hS0 (by rw [e46]; exact (Nat.le_trans (Nat.le_trans Kj.1 CS44.2.1) CS46.2.1)) X48 hS48 gs48 hZ hown
      obtain ⟨h48, e48⟩ : ∃ h, T48.heap = h := ⟨_, rfl⟩
      rw [e48] at hQ48
      obtain ⟨r0_48, k0_48, rfl, N48q, K48q, O48, F48_0, F48_1, F48_2⟩ := hQ48
      have N48 := Fr.app N46 N48q
      have K48 := K46.trans K48q (allS (Or.inr sz_b44) all0)
      rw [e48] at CS48 hS48
      have hk48 : h48.size ≤ h48.size := Nat.le_refl _
      have CR48 := CR46.trans CS48
      obtain ⟨LL49, X48, N48⟩ : ∃ LL, Stand pG l eG _ _ mG _ belowG methG cG T48 LL 15 148 ∧ Fr n0 LL := ⟨_, X48, N48⟩
      refine ob T48 (mkF mG 219 #[oi i0, oi i1, oi i2, oi i3, oi i4, oa b1, oi (0 : Int32), .unset, .unset, .unset, .unset, .unset] [(.ref b44)]) (fun _ kk => st48.trans kk) ?_
      refine uO2 X48 hx hby at_219 #[oi i0, oi i1, oi i2, oi i3, oi i4, oa b1, oi (0 : Int32), oa b44, .unset, .unset, .unset, .unset] 221 (uA2 X48 hx hby at_221 rfl 223 (uI2 X48 hx hby at_223 rfl 225 (uC X48 hx hby at_225 0 226 ?_)))
      refine oCp X48 hx hby hZ hown (ow hw 30 rfl) (ow hw 31 rfl) (ow hw 32 rfl) (ow hw 3 rfl) (rm_end0 b1 k1 c0 c1 c2 c3 c4 c5 c6 c7 (0 : Int32) ⟨hw, O48, hS⟩ (((V_s.ext E44).keep K46q nin0).keep K48q (ninS ne_b1_b44 nin0))) e48 N48 hml [(.ref b1), (.int (0 : Int32)), (.int (0 : Int32))] [] pd_2 at_226 229 ?_
      intro T50 L50 X50 e50 N50
      refine uT2 X50 hx hby at_229 #[oi i0, oi i1, oi i2, oi i3, oi i4, oa b1, oi (0 : Int32), oa b44, oi (oEn (0 : Int32) (1 : Int32) (0 : Int32) c0 c1 c2 c3 c4 c5 c6 c7), .unset, .unset, .unset] 231 (uI2 X50 hx hby at_231 rfl 233 (uN X50 hx hby at_233 ((if0 _ _).trans (tlt (own_el00 c0 c1 c2 c3 c4 c5 c6 c7)).2.1) 236 (uC X50 hx hby at_236 1 237 ?_)))
      obtain ⟨fs, hr, hrun, hended, hW, hsame⟩ := X50.leave (v := some (.int (1 : Int32))) (fun h => by rw [hret] at h; cases h)
      obtain ⟨w1, w2, w3⟩ := State.Since.ended (U := T50.setFrames fs) hS48 hW (by show _ ≤ T50.heap.size; rw [e50]; exact hk48) hsame
      have CF := CR48.trans (CHv.at X50 hZ hEL CR48.1)
      refine oout (retN X50 hx (t := .boolean) hret (by simp) (hb hby at_237) hr) hrun hended (hPP _ _ ⟨_, _, rfl, ?_, ?_, ⟨_, rfl⟩, w1, w2, w3.mono (by decide) (by decide)⟩)
      · show Q_rm0 Z wR wI zc vf wB wL wV cV i0 i1 i2 i3 i4 h0 n0 _ T50.heap _
        rw [e50]
        exact ⟨rfl, N50⟩
      · show CHr Z oEL sG.vm sG.heap T50.vm T50.heap
        rw [hh, e50]
        exact CF
    · show oGo pG eG belowG _ Tj (mkF mG 203 #[oi i0, oi i1, oi i2, oi i3, oi i4, oa b1, .unset, .unset, .unset, .unset, .unset, .unset] [(.int (1 : Int32))])
      refine uT2 Xj hx hby at_203 #[oi i0, oi i1, oi i2, oi i3, oi i4, oa b1, oi (1 : Int32), .unset, .unset, .unset, .unset, .unset] 205 ?_
      obtain ⟨T51, h51, X51, e51, E51, A51, D51, _x51, st51⟩ := newO Xj hx hZ hown (ow hw 6 rfl) (ow hw 7 rfl) (ow hw 8 rfl) ej (g := (mkF mG 205 #[oi i0, oi i1, oi i2, oi i3, oi i4, oa b1, oi (1 : Int32), .unset, .unset, .unset, .unset, .unset] [])) rfl (hb hby at_205) (by decide) (by decide)
      obtain ⟨b51, g51⟩ : ∃ z, z = hj.size := ⟨_, rfl⟩
      rw [← g51] at A51 D51 st51
      have n_b51 : n0 ≤ b51 := Nat.le_trans (on0 Oj) (Nat.le_of_eq g51.symm)
      have sz_b51 : h0.size ≤ b51 := Nat.le_trans Kj.1 (Nat.le_of_eq g51.symm)
      have ne_b1_b51 : b1 ≠ b51 := Nat.ne_of_lt (Nat.lt_of_lt_of_le V_s.lt (Nat.le_of_eq g51.symm))
      have CS51 : CHr Z oEL sG.vm hj sG.vm h51 := CHr.ext E51 CRj.1
      have CR51 := CRj.trans CS51
      have O51 := Oj.ext E51
      have K51 := Kj.ext E51
      obtain ⟨LL52, X51, Nj⟩ : ∃ LL, Stand pG l eG _ _ mG _ belowG methG cG T51 LL 10 140 ∧ Fr n0 LL := ⟨_, X51, Nj⟩
      have sf_b51 : Safe Z oEL sG.vm h51 b51 := Safe.ext E51 CRj.1 (Safe.new (Nat.le_of_eq g51.symm))
      have F51_24 : Fld Z h51 b51 "java/lang/String" "value" "[B" .null := D51 (Or.inr (ow hw 24 rfl)) (ty := (.array .byte)) (by decide)
      have F51_25 : Fld Z h51 b51 "java/lang/String" "coder" "B" (.int (0 : Int32)) := D51 (Or.inr (ow hw 25 rfl)) (ty := .byte) (by decide)
      refine ob T51 (mkF mG 208 #[oi i0, oi i1, oi i2, oi i3, oi i4, oa b1, oi (1 : Int32), .unset, .unset, .unset, .unset, .unset] [(.ref b51)]) (fun _ kk => st51 _ kk) ?_
      refine uD X51 hx hby at_208 209 (uA2 X51 hx hby at_209 rfl 211 (uI2 X51 hx hby at_211 rfl 213 ?_))
      obtain ⟨_, _, ⟨T53, L53, k53, n53⟩, -, X53, ⟨Lc53, hQ53, l53, y53, z53⟩, st53⟩ := Jvm.LawKit.callS X51 hx (y := (⟨sW, "cut", "([CI)[C"⟩ : MethodName)) hown (mvT hZ (ow hw 9 rfl)) (mvT hZ (ow hw 10 rfl)) (mvT hZ (ow hw 3 rfl)) (mvT hZ (ow hw 11 rfl)) (by decide) (backOf (W := 2) (rm_cut1 b1 k1 c0 c1 c2 c3 c4 c5 c6 c7 ⟨hw, O51, hS⟩ (V_s.ext E51) r0 r1 r2 r3 r4 r5 r6 r7) hZ (ow hw 11 rfl) (ow hw 3 rfl) (by decide) (by decide)) (g := (mkF mG 213 #[oi i0, oi i1, oi i2, oi i3, oi i4, oa b1, oi (1 : Int32), .unset, .unset, .unset, .unset, .unset] [(.int (1 : Int32)), (.ref b1), (.ref b51), (.ref b51)])) rfl (by rw [hml]; rfl) (argsL := [(.ref b1), (.int (1 : Int32))]) (rest := [(.ref b51), (.ref b51)]) (lenOf pd_34 rfl) rfl (by show 2 * 0 + _ ≤ _; exact Nat.le_of_eq rfl) (hb hby at_213) (fun _ _ => ⟨rfl, e51, (by decide : 10 + 1 ≤ _), (by decide : 140 + 1 ≤ _)⟩)
      dsimp only [Pt.U, Pt.locs, Pt.cells, Pt.slots] at X53 l53 y53 z53 st53 hQ53
      subst l53 y53 z53
      obtain ⟨h53, e53⟩ : ∃ h, T53.heap = h := ⟨_, rfl⟩
      rw [e53] at hQ53
      obtain ⟨b0_53, kq1_53, rfl, N53q, K53q, O53, n_b0_53, z_b0_53, F53_0⟩ := hQ53
      have N53 := Fr.app Nj N53q
      have sz_b0_53 : h0.size ≤ b0_53 := Nat.le_trans K51.1 z_b0_53
      have ne_b1_b0_53 : b1 ≠ b0_53 := Nat.ne_of_lt (Nat.lt_of_lt_of_le (V_s.ext E51).lt z_b0_53)
      have ne_b51_b0_53 : b51 ≠ b0_53 := Nat.ne_of_lt (Nat.lt_of_lt_of_le A51.lt z_b0_53)
      have K53 := K51.trans K53q all0
      have CS53 : CHr Z oEL sG.vm h51 sG.vm h53 := CHr.keep K53q sf0 CR51.1
      have CR53 := CR51.trans CS53
      have sf_b0_53 : Safe Z oEL sG.vm h53 b0_53 := Safe.keep K53q sf0 CR51.1 (Safe.new z_b0_53)
      obtain ⟨LL54, X53, N53⟩ : ∃ LL, Stand pG l eG _ _ mG _ belowG methG cG T53 LL 11 141 ∧ Fr n0 LL := ⟨_, X53, N53⟩
      refine ob T53 (mkF mG 216 #[oi i0, oi i1, oi i2, oi i3, oi i4, oa b1, oi (1 : Int32), .unset, .unset, .unset, .unset, .unset] [(.ref b0_53), (.ref b51), (.ref b51)]) (fun _ kk => st53 _ kk) ?_
      have hp56 : ∀ cc_ ∈ ([c0] : List Int32), ¬ cc_ < 0 ∧ ¬ (255 : Int32) < cc_ := by
        intro cc_ hc
        simp only [List.mem_cons, List.not_mem_nil, or_false] at hc
        rw [hc]
        exact r0
      have hws : ∀ d ∈ StrChars.Road.words, d.before a0 Z = true := fun d hd => hw d (own_words d hd)
      obtain ⟨_, _, ⟨T55, L55, k55, n55⟩, -, X55, ⟨Lc55, hQ55, l55, y55, z55⟩, st55⟩ := X53.specialBack hx (y := (⟨"java/lang/String", "<init>", "([C)V"⟩ : MethodName)) rfl hown (mvT hZ (ow hw 12 rfl)) (mvT hZ (ow hw 13 rfl)) (mvT hZ (ow hw 14 rfl)) (by decide) (StrChars.Road.backV (W := 1) hZ hws (kI := 4) (ow hw 7 rfl) (cs := ([c0] : List Int32)) (bs := ([c0] : List Int32).map (fun c => c.toInt8.toInt32)) (n := 1) n_b51 (on0 O53) (A51.keep K53q) (F51_24.keep K53q nin0) (F51_25.keep K53q nin0) F53_0 (S_zc.ext O53.2) hzc rfl rfl (by decide) (by decide) hp56 rfl (by decide) (by decide)) (g := (mkF mG 216 #[oi i0, oi i1, oi i2, oi i3, oi i4, oa b1, oi (1 : Int32), .unset, .unset, .unset, .unset, .unset] [(.ref b0_53), (.ref b51), (.ref b51)])) rfl (by rw [hml]; rfl) (Steps.refl _) (a := b51) (argsL := [(.ref b0_53)]) (rest := [(.ref b51)]) (lenOf pd_35 rfl) rfl (by show 2 * 0 + _ ≤ _; exact Nat.le_of_eq rfl) (hb hby at_216) (fun _ _ => ⟨rfl, e53, (by decide : 11 + 1 ≤ _), (by decide : 141 + 1 ≤ _)⟩)
      dsimp only [Pt.U, Pt.locs, Pt.cells, Pt.slots] at X55 l55 y55 z55 st55 hQ55
      subst l55 y55 z55
      obtain ⟨h55, e55⟩ : ∃ h, T55.heap = h := ⟨_, rfl⟩
      rw [e55] at hQ55
      obtain ⟨rfl, N55q, K55q, A55, C55, t55, kb55, n_t55, z_t55, nt55, V55, B55⟩ := hQ55
      have hcd55 : StrChars.Road.CodA ([c0] : List Int32) 0 (1 : Int32) ((([c0] : List Int32).map (fun c => c.toInt8.toInt32)).map Value.int) := StrChars.Road.codOf (n := 1) rfl (fun cc_ hc => (hp56 cc_ hc).2)
      have N55 := Fr.app N53 N55q
      have sz_t55 : h0.size ≤ t55 := Nat.le_trans K53.1 z_t55
      have ne_b1_t55 : b1 ≠ t55 := Nat.ne_of_lt (Nat.lt_of_lt_of_le ((V_s.ext E51).keep K53q nin0).lt z_t55)
      have ne_b51_t55 : b51 ≠ t55 := Nat.ne_of_lt (Nat.lt_of_lt_of_le (A51.keep K53q).lt z_t55)
      have ne_b0_53_t55 : b0_53 ≠ t55 := Nat.ne_of_lt (Nat.lt_of_lt_of_le F53_0.lt z_t55)
      have ne_b51_t55x : b51 ≠ t55 := fun q => nt55 q.symm
      have O55 := O53.keep K55q (allS n_b51 all0)
      have K55 := K53.trans K55q (allS (Or.inr sz_b51) all0)
      have CS55 : CHr Z oEL sG.vm h53 sG.vm h55 := CHr.keep K55q (sfS (CHr.safe CS53 A51.lt sf_b51) sf0) CR53.1
      have CR55 := CR53.trans CS55
      obtain ⟨LL57, X55, N55⟩ : ∃ LL, Stand pG l eG _ _ mG _ belowG methG cG T55 LL 12 142 ∧ Fr n0 LL := ⟨_, X55, N55⟩
      refine ob T55 (mkF mG 219 #[oi i0, oi i1, oi i2, oi i3, oi i4, oa b1, oi (1 : Int32), .unset, .unset, .unset, .unset, .unset] [(.ref b51)]) (fun _ kk => st55.trans kk) ?_
      refine uO2 X55 hx hby at_219 #[oi i0, oi i1, oi i2, oi i3, oi i4, oa b1, oi (1 : Int32), oa b51, .unset, .unset, .unset, .unset] 221 ?_
      have VB8 : Arv Z h55 t55 kb55 .byte (1 : Int32) (oB8 c0 c1 c2 c3 c4 c5 c6 c7) (.int (0 : Int32)) := own_arvEq B55 (fun i hi => own_pre [(.int (c0.toInt8.toInt32))] [(.int (c1.toInt8.toInt32)), (.int (c2.toInt8.toInt32)), (.int (c3.toInt8.toInt32)), (.int (c4.toInt8.toInt32)), (.int (c5.toInt8.toInt32)), (.int (c6.toInt8.toInt32)), (.int (c7.toInt8.toInt32))] _ i hi)
      exact J221 T55 h55 _ b51 t55 kb55 (1 : Int32) (by decide) (X55.mono (by decide) (by decide)) N55 e55 CR55 O55 K55 A55 C55 V55 VB8 (((V_s.ext E51).keep K53q nin0).keep K55q (ninS ne_b1_b51 nin0))
    · show oGo pG eG belowG _ Tj (mkF mG 203 #[oi i0, oi i1, oi i2, oi i3, oi i4, oa b1, .unset, .unset, .unset, .unset, .unset, .unset] [(.int (2 : Int32))])
      refine uT2 Xj hx hby at_203 #[oi i0, oi i1, oi i2, oi i3, oi i4, oa b1, oi (2 : Int32), .unset, .unset, .unset, .unset, .unset] 205 ?_
      obtain ⟨T58, h58, X58, e58, E58, A58, D58, _x58, st58⟩ := newO Xj hx hZ hown (ow hw 6 rfl) (ow hw 7 rfl) (ow hw 8 rfl) ej (g := (mkF mG 205 #[oi i0, oi i1, oi i2, oi i3, oi i4, oa b1, oi (2 : Int32), .unset, .unset, .unset, .unset, .unset] [])) rfl (hb hby at_205) (by decide) (by decide)
      obtain ⟨b58, g58⟩ : ∃ z, z = hj.size := ⟨_, rfl⟩
      rw [← g58] at A58 D58 st58
      have n_b58 : n0 ≤ b58 := Nat.le_trans (on0 Oj) (Nat.le_of_eq g58.symm)
      have sz_b58 : h0.size ≤ b58 := Nat.le_trans Kj.1 (Nat.le_of_eq g58.symm)
      have ne_b1_b58 : b1 ≠ b58 := Nat.ne_of_lt (Nat.lt_of_lt_of_le V_s.lt (Nat.le_of_eq g58.symm))
      have CS58 : CHr Z oEL sG.vm hj sG.vm h58 := CHr.ext E58 CRj.1
      have CR58 := CRj.trans CS58
      have O58 := Oj.ext E58
      have K58 := Kj.ext E58
      obtain ⟨LL59, X58, Nj⟩ : ∃ LL, Stand pG l eG _ _ mG _ belowG methG cG T58 LL 10 140 ∧ Fr n0 LL := ⟨_, X58, Nj⟩
      have sf_b58 : Safe Z oEL sG.vm h58 b58 := Safe.ext E58 CRj.1 (Safe.new (Nat.le_of_eq g58.symm))
      have F58_24 : Fld Z h58 b58 "java/lang/String" "value" "[B" .null := D58 (Or.inr (ow hw 24 rfl)) (ty := (.array .byte)) (by decide)
      have F58_25 : Fld Z h58 b58 "java/lang/String" "coder" "B" (.int (0 : Int32)) := D58 (Or.inr (ow hw 25 rfl)) (ty := .byte) (by decide)
      refine ob T58 (mkF mG 208 #[oi i0, oi i1, oi i2, oi i3, oi i4, oa b1, oi (2 : Int32), .unset, .unset, .unset, .unset, .unset] [(.ref b58)]) (fun _ kk => st58 _ kk) ?_
      refine uD X58 hx hby at_208 209 (uA2 X58 hx hby at_209 rfl 211 (uI2 X58 hx hby at_211 rfl 213 ?_))
      obtain ⟨_, _, ⟨T60, L60, k60, n60⟩, -, X60, ⟨Lc60, hQ60, l60, y60, z60⟩, st60⟩ := Jvm.LawKit.callS X58 hx (y := (⟨sW, "cut", "([CI)[C"⟩ : MethodName)) hown (mvT hZ (ow hw 9 rfl)) (mvT hZ (ow hw 10 rfl)) (mvT hZ (ow hw 3 rfl)) (mvT hZ (ow hw 11 rfl)) (by decide) (backOf (W := 2) (rm_cut2 b1 k1 c0 c1 c2 c3 c4 c5 c6 c7 ⟨hw, O58, hS⟩ (V_s.ext E58) r0 r1 r2 r3 r4 r5 r6 r7) hZ (ow hw 11 rfl) (ow hw 3 rfl) (by decide) (by decide)) (g := (mkF mG 213 #[oi i0, oi i1, oi i2, oi i3, oi i4, oa b1, oi (2 : Int32), .unset, .unset, .unset, .unset, .unset] [(.int (2 : Int32)), (.ref b1), (.ref b58), (.ref b58)])) rfl (by rw [hml]; rfl) (argsL := [(.ref b1), (.int (2 : Int32))]) (rest := [(.ref b58), (.ref b58)]) (lenOf pd_34 rfl) rfl (by show 2 * 0 + _ ≤ _; exact Nat.le_of_eq rfl) (hb hby at_213) (fun _ _ => ⟨rfl, e58, (by decide : 10 + 1 ≤ _), (by decide : 140 + 2 ≤ _)⟩)
      dsimp only [Pt.U, Pt.locs, Pt.cells, Pt.slots] at X60 l60 y60 z60 st60 hQ60
      subst l60 y60 z60
      obtain ⟨h60, e60⟩ : ∃ h, T60.heap = h := ⟨_, rfl⟩
      rw [e60] at hQ60
      obtain ⟨b0_60, kq1_60, rfl, N60q, K60q, O60, n_b0_60, z_b0_60, F60_0⟩ := hQ60
      have N60 := Fr.app Nj N60q
      have sz_b0_60 : h0.size ≤ b0_60 := Nat.le_trans K58.1 z_b0_60
      have ne_b1_b0_60 : b1 ≠ b0_60 := Nat.ne_of_lt (Nat.lt_of_lt_of_le (V_s.ext E58).lt z_b0_60)
      have ne_b58_b0_60 : b58 ≠ b0_60 := Nat.ne_of_lt (Nat.lt_of_lt_of_le A58.lt z_b0_60)
      have K60 := K58.trans K60q all0
      have CS60 : CHr Z oEL sG.vm h58 sG.vm h60 := CHr.keep K60q sf0 CR58.1
      have CR60 := CR58.trans CS60
      have sf_b0_60 : Safe Z oEL sG.vm h60 b0_60 := Safe.keep K60q sf0 CR58.1 (Safe.new z_b0_60)
      obtain ⟨LL61, X60, N60⟩ : ∃ LL, Stand pG l eG _ _ mG _ belowG methG cG T60 LL 11 142 ∧ Fr n0 LL := ⟨_, X60, N60⟩
      refine ob T60 (mkF mG 216 #[oi i0, oi i1, oi i2, oi i3, oi i4, oa b1, oi (2 : Int32), .unset, .unset, .unset, .unset, .unset] [(.ref b0_60), (.ref b58), (.ref b58)]) (fun _ kk => st60 _ kk) ?_
      have hp63 : ∀ cc_ ∈ ([c0, c1] : List Int32), ¬ cc_ < 0 ∧ ¬ (255 : Int32) < cc_ := by
        intro cc_ hc
        simp only [List.mem_cons, List.not_mem_nil, or_false] at hc
        rcases hc with hc | hc
        · rw [hc]; exact r0
        · rw [hc]; exact r1
      have hws : ∀ d ∈ StrChars.Road.words, d.before a0 Z = true := fun d hd => hw d (own_words d hd)
      obtain ⟨_, _, ⟨T62, L62, k62, n62⟩, -, X62, ⟨Lc62, hQ62, l62, y62, z62⟩, st62⟩ := X60.specialBack hx (y := (⟨"java/lang/String", "<init>", "([C)V"⟩ : MethodName)) rfl hown (mvT hZ (ow hw 12 rfl)) (mvT hZ (ow hw 13 rfl)) (mvT hZ (ow hw 14 rfl)) (by decide) (StrChars.Road.backV (W := 1) hZ hws (kI := 4) (ow hw 7 rfl) (cs := ([c0, c1] : List Int32)) (bs := ([c0, c1] : List Int32).map (fun c => c.toInt8.toInt32)) (n := 2) n_b58 (on0 O60) (A58.keep K60q) (F58_24.keep K60q nin0) (F58_25.keep K60q nin0) F60_0 (S_zc.ext O60.2) hzc rfl rfl (by decide) (by decide) hp63 rfl (by decide) (by decide)) (g := (mkF mG 216 #[oi i0, oi i1, oi i2, oi i3, oi i4, oa b1, oi (2 : Int32), .unset, .unset, .unset, .unset, .unset] [(.ref b0_60), (.ref b58), (.ref b58)])) rfl (by rw [hml]; rfl) (Steps.refl _) (a := b58) (argsL := [(.ref b0_60)]) (rest := [(.ref b58)]) (lenOf pd_35 rfl) rfl (by show 2 * 0 + _ ≤ _; exact Nat.le_of_eq rfl) (hb hby at_216) (fun _ _ => ⟨rfl, e60, (by decide : 11 + 1 ≤ _), (by decide : 142 + 2 ≤ _)⟩)
      dsimp only [Pt.U, Pt.locs, Pt.cells, Pt.slots] at X62 l62 y62 z62 st62 hQ62
      subst l62 y62 z62
      obtain ⟨h62, e62⟩ : ∃ h, T62.heap = h := ⟨_, rfl⟩
      rw [e62] at hQ62
      obtain ⟨rfl, N62q, K62q, A62, C62, t62, kb62, n_t62, z_t62, nt62, V62, B62⟩ := hQ62
      have hcd62 : StrChars.Road.CodA ([c0, c1] : List Int32) 0 (2 : Int32) ((([c0, c1] : List Int32).map (fun c => c.toInt8.toInt32)).map Value.int) := StrChars.Road.codOf (n := 2) rfl (fun cc_ hc => (hp63 cc_ hc).2)
      have N62 := Fr.app N60 N62q
      have sz_t62 : h0.size ≤ t62 := Nat.le_trans K60.1 z_t62
      have ne_b1_t62 : b1 ≠ t62 := Nat.ne_of_lt (Nat.lt_of_lt_of_le ((V_s.ext E58).keep K60q nin0).lt z_t62)
      have ne_b58_t62 : b58 ≠ t62 := Nat.ne_of_lt (Nat.lt_of_lt_of_le (A58.keep K60q).lt z_t62)
      have ne_b0_60_t62 : b0_60 ≠ t62 := Nat.ne_of_lt (Nat.lt_of_lt_of_le F60_0.lt z_t62)
      have ne_b58_t62x : b58 ≠ t62 := fun q => nt62 q.symm
      have O62 := O60.keep K62q (allS n_b58 all0)
      have K62 := K60.trans K62q (allS (Or.inr sz_b58) all0)
      have CS62 : CHr Z oEL sG.vm h60 sG.vm h62 := CHr.keep K62q (sfS (CHr.safe CS60 A58.lt sf_b58) sf0) CR60.1
      have CR62 := CR60.trans CS62
      obtain ⟨LL64, X62, N62⟩ : ∃ LL, Stand pG l eG _ _ mG _ belowG methG cG T62 LL 12 144 ∧ Fr n0 LL := ⟨_, X62, N62⟩
      refine ob T62 (mkF mG 219 #[oi i0, oi i1, oi i2, oi i3, oi i4, oa b1, oi (2 : Int32), .unset, .unset, .unset, .unset, .unset] [(.ref b58)]) (fun _ kk => st62.trans kk) ?_
      refine uO2 X62 hx hby at_219 #[oi i0, oi i1, oi i2, oi i3, oi i4, oa b1, oi (2 : Int32), oa b58, .unset, .unset, .unset, .unset] 221 ?_
      have VB8 : Arv Z h62 t62 kb62 .byte (2 : Int32) (oB8 c0 c1 c2 c3 c4 c5 c6 c7) (.int (0 : Int32)) := own_arvEq B62 (fun i hi => own_pre [(.int (c0.toInt8.toInt32)), (.int (c1.toInt8.toInt32))] [(.int (c2.toInt8.toInt32)), (.int (c3.toInt8.toInt32)), (.int (c4.toInt8.toInt32)), (.int (c5.toInt8.toInt32)), (.int (c6.toInt8.toInt32)), (.int (c7.toInt8.toInt32))] _ i hi)
      exact J221 T62 h62 _ b58 t62 kb62 (2 : Int32) (by decide) (X62.mono (by decide) (by decide)) N62 e62 CR62 O62 K62 A62 C62 V62 VB8 (((V_s.ext E58).keep K60q nin0).keep K62q (ninS ne_b1_b58 nin0))
    · show oGo pG eG belowG _ Tj (mkF mG 203 #[oi i0, oi i1, oi i2, oi i3, oi i4, oa b1, .unset, .unset, .unset, .unset, .unset, .unset] [(.int (3 : Int32))])
      refine uT2 Xj hx hby at_203 #[oi i0, oi i1, oi i2, oi i3, oi i4, oa b1, oi (3 : Int32), .unset, .unset, .unset, .unset, .unset] 205 ?_
      obtain ⟨T65, h65, X65, e65, E65, A65, D65, _x65, st65⟩ := newO Xj hx hZ hown (ow hw 6 rfl) (ow hw 7 rfl) (ow hw 8 rfl) ej (g := (mkF mG 205 #[oi i0, oi i1, oi i2, oi i3, oi i4, oa b1, oi (3 : Int32), .unset, .unset, .unset, .unset, .unset] [])) rfl (hb hby at_205) (by decide) (by decide)
      obtain ⟨b65, g65⟩ : ∃ z, z = hj.size := ⟨_, rfl⟩
      rw [← g65] at A65 D65 st65
      have n_b65 : n0 ≤ b65 := Nat.le_trans (on0 Oj) (Nat.le_of_eq g65.symm)
      have sz_b65 : h0.size ≤ b65 := Nat.le_trans Kj.1 (Nat.le_of_eq g65.symm)
      have ne_b1_b65 : b1 ≠ b65 := Nat.ne_of_lt (Nat.lt_of_lt_of_le V_s.lt (Nat.le_of_eq g65.symm))
      have CS65 : CHr Z oEL sG.vm hj sG.vm h65 := CHr.ext E65 CRj.1
      have CR65 := CRj.trans CS65
      have O65 := Oj.ext E65
      have K65 := Kj.ext E65
      obtain ⟨LL66, X65, Nj⟩ : ∃ LL, Stand pG l eG _ _ mG _ belowG methG cG T65 LL 10 140 ∧ Fr n0 LL := ⟨_, X65, Nj⟩
      have sf_b65 : Safe Z oEL sG.vm h65 b65 := Safe.ext E65 CRj.1 (Safe.new (Nat.le_of_eq g65.symm))
      have F65_24 : Fld Z h65 b65 "java/lang/String" "value" "[B" .null := D65 (Or.inr (ow hw 24 rfl)) (ty := (.array .byte)) (by decide)
      have F65_25 : Fld Z h65 b65 "java/lang/String" "coder" "B" (.int (0 : Int32)) := D65 (Or.inr (ow hw 25 rfl)) (ty := .byte) (by decide)
      refine ob T65 (mkF mG 208 #[oi i0, oi i1, oi i2, oi i3, oi i4, oa b1, oi (3 : Int32), .unset, .unset, .unset, .unset, .unset] [(.ref b65)]) (fun _ kk => st65 _ kk) ?_
      refine uD X65 hx hby at_208 209 (uA2 X65 hx hby at_209 rfl 211 (uI2 X65 hx hby at_211 rfl 213 ?_))
      obtain ⟨_, _, ⟨T67, L67, k67, n67⟩, -, X67, ⟨Lc67, hQ67, l67, y67, z67⟩, st67⟩ := Jvm.LawKit.callS X65 hx (y := (⟨sW, "cut", "([CI)[C"⟩ : MethodName)) hown (mvT hZ (ow hw 9 rfl)) (mvT hZ (ow hw 10 rfl)) (mvT hZ (ow hw 3 rfl)) (mvT hZ (ow hw 11 rfl)) (by decide) (backOf (W := 2) (rm_cut3 b1 k1 c0 c1 c2 c3 c4 c5 c6 c7 ⟨hw, O65, hS⟩ (V_s.ext E65) r0 r1 r2 r3 r4 r5 r6 r7) hZ (ow hw 11 rfl) (ow hw 3 rfl) (by decide) (by decide)) (g := (mkF mG 213 #[oi i0, oi i1, oi i2, oi i3, oi i4, oa b1, oi (3 : Int32), .unset, .unset, .unset, .unset, .unset] [(.int (3 : Int32)), (.ref b1), (.ref b65), (.ref b65)])) rfl (by rw [hml]; rfl) (argsL := [(.ref b1), (.int (3 : Int32))]) (rest := [(.ref b65), (.ref b65)]) (lenOf pd_34 rfl) rfl (by show 2 * 0 + _ ≤ _; exact Nat.le_of_eq rfl) (hb hby at_213) (fun _ _ => ⟨rfl, e65, (by decide : 10 + 1 ≤ _), (by decide : 140 + 3 ≤ _)⟩)
      dsimp only [Pt.U, Pt.locs, Pt.cells, Pt.slots] at X67 l67 y67 z67 st67 hQ67
      subst l67 y67 z67
      obtain ⟨h67, e67⟩ : ∃ h, T67.heap = h := ⟨_, rfl⟩
      rw [e67] at hQ67
      obtain ⟨b0_67, kq1_67, rfl, N67q, K67q, O67, n_b0_67, z_b0_67, F67_0⟩ := hQ67
      have N67 := Fr.app Nj N67q
      have sz_b0_67 : h0.size ≤ b0_67 := Nat.le_trans K65.1 z_b0_67
      have ne_b1_b0_67 : b1 ≠ b0_67 := Nat.ne_of_lt (Nat.lt_of_lt_of_le (V_s.ext E65).lt z_b0_67)
      have ne_b65_b0_67 : b65 ≠ b0_67 := Nat.ne_of_lt (Nat.lt_of_lt_of_le A65.lt z_b0_67)
      have K67 := K65.trans K67q all0
      have CS67 : CHr Z oEL sG.vm h65 sG.vm h67 := CHr.keep K67q sf0 CR65.1
      have CR67 := CR65.trans CS67
      have sf_b0_67 : Safe Z oEL sG.vm h67 b0_67 := Safe.keep K67q sf0 CR65.1 (Safe.new z_b0_67)
      obtain ⟨LL68, X67, N67⟩ : ∃ LL, Stand pG l eG _ _ mG _ belowG methG cG T67 LL 11 143 ∧ Fr n0 LL := ⟨_, X67, N67⟩
      refine ob T67 (mkF mG 216 #[oi i0, oi i1, oi i2, oi i3, oi i4, oa b1, oi (3 : Int32), .unset, .unset, .unset, .unset, .unset] [(.ref b0_67), (.ref b65), (.ref b65)]) (fun _ kk => st67 _ kk) ?_
      have hp70 : ∀ cc_ ∈ ([c0, c1, c2] : List Int32), ¬ cc_ < 0 ∧ ¬ (255 : Int32) < cc_ := by
        intro cc_ hc
        simp only [List.mem_cons, List.not_mem_nil, or_false] at hc
        rcases hc with hc | hc | hc
        · rw [hc]; exact r0
        · rw [hc]; exact r1
        · rw [hc]; exact r2
      have hws : ∀ d ∈ StrChars.Road.words, d.before a0 Z = true := fun d hd => hw d (own_words d hd)
      obtain ⟨_, _, ⟨T69, L69, k69, n69⟩, -, X69, ⟨Lc69, hQ69, l69, y69, z69⟩, st69⟩ := X67.specialBack hx (y := (⟨"java/lang/String", "<init>", "([C)V"⟩ : MethodName)) rfl hown (mvT hZ (ow hw 12 rfl)) (mvT hZ (ow hw 13 rfl)) (mvT hZ (ow hw 14 rfl)) (by decide) (StrChars.Road.backV (W := 1) hZ hws (kI := 4) (ow hw 7 rfl) (cs := ([c0, c1, c2] : List Int32)) (bs := ([c0, c1, c2] : List Int32).map (fun c => c.toInt8.toInt32)) (n := 3) n_b65 (on0 O67) (A65.keep K67q) (F65_24.keep K67q nin0) (F65_25.keep K67q nin0) F67_0 (S_zc.ext O67.2) hzc rfl rfl (by decide) (by decide) hp70 rfl (by decide) (by decide)) (g := (mkF mG 216 #[oi i0, oi i1, oi i2, oi i3, oi i4, oa b1, oi (3 : Int32), .unset, .unset, .unset, .unset, .unset] [(.ref b0_67), (.ref b65), (.ref b65)])) rfl (by rw [hml]; rfl) (Steps.refl _) (a := b65) (argsL := [(.ref b0_67)]) (rest := [(.ref b65)]) (lenOf pd_35 rfl) rfl (by show 2 * 0 + _ ≤ _; exact Nat.le_of_eq rfl) (hb hby at_216) (fun _ _ => ⟨rfl, e67, (by decide : 11 + 1 ≤ _), (by decide : 143 + 3 ≤ _)⟩)
      dsimp only [Pt.U, Pt.locs, Pt.cells, Pt.slots] at X69 l69 y69 z69 st69 hQ69
      subst l69 y69 z69
      obtain ⟨h69, e69⟩ : ∃ h, T69.heap = h := ⟨_, rfl⟩
      rw [e69] at hQ69
      obtain ⟨rfl, N69q, K69q, A69, C69, t69, kb69, n_t69, z_t69, nt69, V69, B69⟩ := hQ69
      have hcd69 : StrChars.Road.CodA ([c0, c1, c2] : List Int32) 0 (3 : Int32) ((([c0, c1, c2] : List Int32).map (fun c => c.toInt8.toInt32)).map Value.int) := StrChars.Road.codOf (n := 3) rfl (fun cc_ hc => (hp70 cc_ hc).2)
      have N69 := Fr.app N67 N69q
      have sz_t69 : h0.size ≤ t69 := Nat.le_trans K67.1 z_t69
      have ne_b1_t69 : b1 ≠ t69 := Nat.ne_of_lt (Nat.lt_of_lt_of_le ((V_s.ext E65).keep K67q nin0).lt z_t69)
      have ne_b65_t69 : b65 ≠ t69 := Nat.ne_of_lt (Nat.lt_of_lt_of_le (A65.keep K67q).lt z_t69)
      have ne_b0_67_t69 : b0_67 ≠ t69 := Nat.ne_of_lt (Nat.lt_of_lt_of_le F67_0.lt z_t69)
      have ne_b65_t69x : b65 ≠ t69 := fun q => nt69 q.symm
      have O69 := O67.keep K69q (allS n_b65 all0)
      have K69 := K67.trans K69q (allS (Or.inr sz_b65) all0)
      have CS69 : CHr Z oEL sG.vm h67 sG.vm h69 := CHr.keep K69q (sfS (CHr.safe CS67 A65.lt sf_b65) sf0) CR67.1
      have CR69 := CR67.trans CS69
      obtain ⟨LL71, X69, N69⟩ : ∃ LL, Stand pG l eG _ _ mG _ belowG methG cG T69 LL 12 146 ∧ Fr n0 LL := ⟨_, X69, N69⟩
      refine ob T69 (mkF mG 219 #[oi i0, oi i1, oi i2, oi i3, oi i4, oa b1, oi (3 : Int32), .unset, .unset, .unset, .unset, .unset] [(.ref b65)]) (fun _ kk => st69.trans kk) ?_
      refine uO2 X69 hx hby at_219 #[oi i0, oi i1, oi i2, oi i3, oi i4, oa b1, oi (3 : Int32), oa b65, .unset, .unset, .unset, .unset] 221 ?_
      have VB8 : Arv Z h69 t69 kb69 .byte (3 : Int32) (oB8 c0 c1 c2 c3 c4 c5 c6 c7) (.int (0 : Int32)) := own_arvEq B69 (fun i hi => own_pre [(.int (c0.toInt8.toInt32)), (.int (c1.toInt8.toInt32)), (.int (c2.toInt8.toInt32))] [(.int (c3.toInt8.toInt32)), (.int (c4.toInt8.toInt32)), (.int (c5.toInt8.toInt32)), (.int (c6.toInt8.toInt32)), (.int (c7.toInt8.toInt32))] _ i hi)
      exact J221 T69 h69 _ b65 t69 kb69 (3 : Int32) (by decide) (X69.mono (by decide) (by decide)) N69 e69 CR69 O69 K69 A69 C69 V69 VB8 (((V_s.ext E65).keep K67q nin0).keep K69q (ninS ne_b1_b65 nin0))
    · show oGo pG eG belowG _ Tj (mkF mG 203 #[oi i0, oi i1, oi i2, oi i3, oi i4, oa b1, .unset, .unset, .unset, .unset, .unset, .unset] [(.int (4 : Int32))])
      refine uT2 Xj hx hby at_203 #[oi i0, oi i1, oi i2, oi i3, oi i4, oa b1, oi (4 : Int32), .unset, .unset, .unset, .unset, .unset] 205 ?_
      obtain ⟨T72, h72, X72, e72, E72, A72, D72, _x72, st72⟩ := newO Xj hx hZ hown (ow hw 6 rfl) (ow hw 7 rfl) (ow hw 8 rfl) ej (g := (mkF mG 205 #[oi i0, oi i1, oi i2, oi i3, oi i4, oa b1, oi (4 : Int32), .unset, .unset, .unset, .unset, .unset] [])) rfl (hb hby at_205) (by decide) (by decide)
      obtain ⟨b72, g72⟩ : ∃ z, z = hj.size := ⟨_, rfl⟩
      rw [← g72] at A72 D72 st72
      have n_b72 : n0 ≤ b72 := Nat.le_trans (on0 Oj) (Nat.le_of_eq g72.symm)
      have sz_b72 : h0.size ≤ b72 := Nat.le_trans Kj.1 (Nat.le_of_eq g72.symm)
      have ne_b1_b72 : b1 ≠ b72 := Nat.ne_of_lt (Nat.lt_of_lt_of_le V_s.lt (Nat.le_of_eq g72.symm))
      have CS72 : CHr Z oEL sG.vm hj sG.vm h72 := CHr.ext E72 CRj.1
      have CR72 := CRj.trans CS72
      have O72 := Oj.ext E72
      have K72 := Kj.ext E72
      obtain ⟨LL73, X72, Nj⟩ : ∃ LL, Stand pG l eG _ _ mG _ belowG methG cG T72 LL 10 140 ∧ Fr n0 LL := ⟨_, X72, Nj⟩
      have sf_b72 : Safe Z oEL sG.vm h72 b72 := Safe.ext E72 CRj.1 (Safe.new (Nat.le_of_eq g72.symm))
      have F72_24 : Fld Z h72 b72 "java/lang/String" "value" "[B" .null := D72 (Or.inr (ow hw 24 rfl)) (ty := (.array .byte)) (by decide)
      have F72_25 : Fld Z h72 b72 "java/lang/String" "coder" "B" (.int (0 : Int32)) := D72 (Or.inr (ow hw 25 rfl)) (ty := .byte) (by decide)
      refine ob T72 (mkF mG 208 #[oi i0, oi i1, oi i2, oi i3, oi i4, oa b1, oi (4 : Int32), .unset, .unset, .unset, .unset, .unset] [(.ref b72)]) (fun _ kk => st72 _ kk) ?_
      refine uD X72 hx hby at_208 209 (uA2 X72 hx hby at_209 rfl 211 (uI2 X72 hx hby at_211 rfl 213 ?_))
      obtain ⟨_, _, ⟨T74, L74, k74, n74⟩, -, X74, ⟨Lc74, hQ74, l74, y74, z74⟩, st74⟩ := Jvm.LawKit.callS X72 hx (y := (⟨sW, "cut", "([CI)[C"⟩ : MethodName)) hown (mvT hZ (ow hw 9 rfl)) (mvT hZ (ow hw 10 rfl)) (mvT hZ (ow hw 3 rfl)) (mvT hZ (ow hw 11 rfl)) (by decide) (backOf (W := 2) (rm_cut4 b1 k1 c0 c1 c2 c3 c4 c5 c6 c7 ⟨hw, O72, hS⟩ (V_s.ext E72) r0 r1 r2 r3 r4 r5 r6 r7) hZ (ow hw 11 rfl) (ow hw 3 rfl) (by decide) (by decide)) (g := (mkF mG 213 #[oi i0, oi i1, oi i2, oi i3, oi i4, oa b1, oi (4 : Int32), .unset, .unset, .unset, .unset, .unset] [(.int (4 : Int32)), (.ref b1), (.ref b72), (.ref b72)])) rfl (by rw [hml]; rfl) (argsL := [(.ref b1), (.int (4 : Int32))]) (rest := [(.ref b72), (.ref b72)]) (lenOf pd_34 rfl) rfl (by show 2 * 0 + _ ≤ _; exact Nat.le_of_eq rfl) (hb hby at_213) (fun _ _ => ⟨rfl, e72, (by decide : 10 + 1 ≤ _), (by decide : 140 + 4 ≤ _)⟩)
      dsimp only [Pt.U, Pt.locs, Pt.cells, Pt.slots] at X74 l74 y74 z74 st74 hQ74
      subst l74 y74 z74
      obtain ⟨h74, e74⟩ : ∃ h, T74.heap = h := ⟨_, rfl⟩
      rw [e74] at hQ74
      obtain ⟨b0_74, kq1_74, rfl, N74q, K74q, O74, n_b0_74, z_b0_74, F74_0⟩ := hQ74
      have N74 := Fr.app Nj N74q
      have sz_b0_74 : h0.size ≤ b0_74 := Nat.le_trans K72.1 z_b0_74
      have ne_b1_b0_74 : b1 ≠ b0_74 := Nat.ne_of_lt (Nat.lt_of_lt_of_le (V_s.ext E72).lt z_b0_74)
      have ne_b72_b0_74 : b72 ≠ b0_74 := Nat.ne_of_lt (Nat.lt_of_lt_of_le A72.lt z_b0_74)
      have K74 := K72.trans K74q all0
      have CS74 : CHr Z oEL sG.vm h72 sG.vm h74 := CHr.keep K74q sf0 CR72.1
      have CR74 := CR72.trans CS74
      have sf_b0_74 : Safe Z oEL sG.vm h74 b0_74 := Safe.keep K74q sf0 CR72.1 (Safe.new z_b0_74)
      obtain ⟨LL75, X74, N74⟩ : ∃ LL, Stand pG l eG _ _ mG _ belowG methG cG T74 LL 11 144 ∧ Fr n0 LL := ⟨_, X74, N74⟩
      refine ob T74 (mkF mG 216 #[oi i0, oi i1, oi i2, oi i3, oi i4, oa b1, oi (4 : Int32), .unset, .unset, .unset, .unset, .unset] [(.ref b0_74), (.ref b72), (.ref b72)]) (fun _ kk => st74 _ kk) ?_
      have hp77 : ∀ cc_ ∈ ([c0, c1, c2, c3] : List Int32), ¬ cc_ < 0 ∧ ¬ (255 : Int32) < cc_ := by
        intro cc_ hc
        simp only [List.mem_cons, List.not_mem_nil, or_false] at hc
        rcases hc with hc | hc | hc | hc
        · rw [hc]; exact r0
        · rw [hc]; exact r1
        · rw [hc]; exact r2
        · rw [hc]; exact r3
      have hws : ∀ d ∈ StrChars.Road.words, d.before a0 Z = true := fun d hd => hw d (own_words d hd)
      obtain ⟨_, _, ⟨T76, L76, k76, n76⟩, -, X76, ⟨Lc76, hQ76, l76, y76, z76⟩, st76⟩ := X74.specialBack hx (y := (⟨"java/lang/String", "<init>", "([C)V"⟩ : MethodName)) rfl hown (mvT hZ (ow hw 12 rfl)) (mvT hZ (ow hw 13 rfl)) (mvT hZ (ow hw 14 rfl)) (by decide) (StrChars.Road.backV (W := 1) hZ hws (kI := 4) (ow hw 7 rfl) (cs := ([c0, c1, c2, c3] : List Int32)) (bs := ([c0, c1, c2, c3] : List Int32).map (fun c => c.toInt8.toInt32)) (n := 4) n_b72 (on0 O74) (A72.keep K74q) (F72_24.keep K74q nin0) (F72_25.keep K74q nin0) F74_0 (S_zc.ext O74.2) hzc rfl rfl (by decide) (by decide) hp77 rfl (by decide) (by decide)) (g := (mkF mG 216 #[oi i0, oi i1, oi i2, oi i3, oi i4, oa b1, oi (4 : Int32), .unset, .unset, .unset, .unset, .unset] [(.ref b0_74), (.ref b72), (.ref b72)])) rfl (by rw [hml]; rfl) (Steps.refl _) (a := b72) (argsL := [(.ref b0_74)]) (rest := [(.ref b72)]) (lenOf pd_35 rfl) rfl (by show 2 * 0 + _ ≤ _; exact Nat.le_of_eq rfl) (hb hby at_216) (fun _ _ => ⟨rfl, e74, (by decide : 11 + 1 ≤ _), (by decide : 144 + 4 ≤ _)⟩)
      dsimp only [Pt.U, Pt.locs, Pt.cells, Pt.slots] at X76 l76 y76 z76 st76 hQ76
      subst l76 y76 z76
      obtain ⟨h76, e76⟩ : ∃ h, T76.heap = h := ⟨_, rfl⟩
      rw [e76] at hQ76
      obtain ⟨rfl, N76q, K76q, A76, C76, t76, kb76, n_t76, z_t76, nt76, V76, B76⟩ := hQ76
      have hcd76 : StrChars.Road.CodA ([c0, c1, c2, c3] : List Int32) 0 (4 : Int32) ((([c0, c1, c2, c3] : List Int32).map (fun c => c.toInt8.toInt32)).map Value.int) := StrChars.Road.codOf (n := 4) rfl (fun cc_ hc => (hp77 cc_ hc).2)
      have N76 := Fr.app N74 N76q
      have sz_t76 : h0.size ≤ t76 := Nat.le_trans K74.1 z_t76
      have ne_b1_t76 : b1 ≠ t76 := Nat.ne_of_lt (Nat.lt_of_lt_of_le ((V_s.ext E72).keep K74q nin0).lt z_t76)
      have ne_b72_t76 : b72 ≠ t76 := Nat.ne_of_lt (Nat.lt_of_lt_of_le (A72.keep K74q).lt z_t76)
      have ne_b0_74_t76 : b0_74 ≠ t76 := Nat.ne_of_lt (Nat.lt_of_lt_of_le F74_0.lt z_t76)
      have ne_b72_t76x : b72 ≠ t76 := fun q => nt76 q.symm
      have O76 := O74.keep K76q (allS n_b72 all0)
      have K76 := K74.trans K76q (allS (Or.inr sz_b72) all0)
      have CS76 : CHr Z oEL sG.vm h74 sG.vm h76 := CHr.keep K76q (sfS (CHr.safe CS74 A72.lt sf_b72) sf0) CR74.1
      have CR76 := CR74.trans CS76
      obtain ⟨LL78, X76, N76⟩ : ∃ LL, Stand pG l eG _ _ mG _ belowG methG cG T76 LL 12 148 ∧ Fr n0 LL := ⟨_, X76, N76⟩
      refine ob T76 (mkF mG 219 #[oi i0, oi i1, oi i2, oi i3, oi i4, oa b1, oi (4 : Int32), .unset, .unset, .unset, .unset, .unset] [(.ref b72)]) (fun _ kk => st76.trans kk) ?_
      refine uO2 X76 hx hby at_219 #[oi i0, oi i1, oi i2, oi i3, oi i4, oa b1, oi (4 : Int32), oa b72, .unset, .unset, .unset, .unset] 221 ?_
      have VB8 : Arv Z h76 t76 kb76 .byte (4 : Int32) (oB8 c0 c1 c2 c3 c4 c5 c6 c7) (.int (0 : Int32)) := own_arvEq B76 (fun i hi => own_pre [(.int (c0.toInt8.toInt32)), (.int (c1.toInt8.toInt32)), (.int (c2.toInt8.toInt32)), (.int (c3.toInt8.toInt32))] [(.int (c4.toInt8.toInt32)), (.int (c5.toInt8.toInt32)), (.int (c6.toInt8.toInt32)), (.int (c7.toInt8.toInt32))] _ i hi)
      exact J221 T76 h76 _ b72 t76 kb76 (4 : Int32) (by decide) (X76.mono (by decide) (by decide)) N76 e76 CR76 O76 K76 A76 C76 V76 VB8 (((V_s.ext E72).keep K74q nin0).keep K76q (ninS ne_b1_b72 nin0))
    · show oGo pG eG belowG _ Tj (mkF mG 203 #[oi i0, oi i1, oi i2, oi i3, oi i4, oa b1, .unset, .unset, .unset, .unset, .unset, .unset] [(.int (5 : Int32))])
      refine uT2 Xj hx hby at_203 #[oi i0, oi i1, oi i2, oi i3, oi i4, oa b1, oi (5 : Int32), .unset, .unset, .unset, .unset, .unset] 205 ?_
      obtain ⟨T79, h79, X79, e79, E79, A79, D79, _x79, st79⟩ := newO Xj hx hZ hown (ow hw 6 rfl) (ow hw 7 rfl) (ow hw 8 rfl) ej (g := (mkF mG 205 #[oi i0, oi i1, oi i2, oi i3, oi i4, oa b1, oi (5 : Int32), .unset, .unset, .unset, .unset, .unset] [])) rfl (hb hby at_205) (by decide) (by decide)
      obtain ⟨b79, g79⟩ : ∃ z, z = hj.size := ⟨_, rfl⟩
      rw [← g79] at A79 D79 st79
      have n_b79 : n0 ≤ b79 := Nat.le_trans (on0 Oj) (Nat.le_of_eq g79.symm)
      have sz_b79 : h0.size ≤ b79 := Nat.le_trans Kj.1 (Nat.le_of_eq g79.symm)
      have ne_b1_b79 : b1 ≠ b79 := Nat.ne_of_lt (Nat.lt_of_lt_of_le V_s.lt (Nat.le_of_eq g79.symm))
      have CS79 : CHr Z oEL sG.vm hj sG.vm h79 := CHr.ext E79 CRj.1
      have CR79 := CRj.trans CS79
      have O79 := Oj.ext E79
      have K79 := Kj.ext E79
      obtain ⟨LL80, X79, Nj⟩ : ∃ LL, Stand pG l eG _ _ mG _ belowG methG cG T79 LL 10 140 ∧ Fr n0 LL := ⟨_, X79, Nj⟩
      have sf_b79 : Safe Z oEL sG.vm h79 b79 := Safe.ext E79 CRj.1 (Safe.new (Nat.le_of_eq g79.symm))
      have F79_24 : Fld Z h79 b79 "java/lang/String" "value" "[B" .null := D79 (Or.inr (ow hw 24 rfl)) (ty := (.array .byte)) (by decide)
      have F79_25 : Fld Z h79 b79 "java/lang/String" "coder" "B" (.int (0 : Int32)) := D79 (Or.inr (ow hw 25 rfl)) (ty := .byte) (by decide)
      refine ob T79 (mkF mG 208 #[oi i0, oi i1, oi i2, oi i3, oi i4, oa b1, oi (5 : Int32), .unset, .unset, .unset, .unset, .unset] [(.ref b79)]) (fun _ kk => st79 _ kk) ?_
      refine uD X79 hx hby at_208 209 (uA2 X79 hx hby at_209 rfl 211 (uI2 X79 hx hby at_211 rfl 213 ?_))
      obtain ⟨_, _, ⟨T81, L81, k81, n81⟩, -, X81, ⟨Lc81, hQ81, l81, y81, z81⟩, st81⟩ := Jvm.LawKit.callS X79 hx (y := (⟨sW, "cut", "([CI)[C"⟩ : MethodName)) hown (mvT hZ (ow hw 9 rfl)) (mvT hZ (ow hw 10 rfl)) (mvT hZ (ow hw 3 rfl)) (mvT hZ (ow hw 11 rfl)) (by decide) (backOf (W := 2) (rm_cut5 b1 k1 c0 c1 c2 c3 c4 c5 c6 c7 ⟨hw, O79, hS⟩ (V_s.ext E79) r0 r1 r2 r3 r4 r5 r6 r7) hZ (ow hw 11 rfl) (ow hw 3 rfl) (by decide) (by decide)) (g := (mkF mG 213 #[oi i0, oi i1, oi i2, oi i3, oi i4, oa b1, oi (5 : Int32), .unset, .unset, .unset, .unset, .unset] [(.int (5 : Int32)), (.ref b1), (.ref b79), (.ref b79)])) rfl (by rw [hml]; rfl) (argsL := [(.ref b1), (.int (5 : Int32))]) (rest := [(.ref b79), (.ref b79)]) (lenOf pd_34 rfl) rfl (by show 2 * 0 + _ ≤ _; exact Nat.le_of_eq rfl) (hb hby at_213) (fun _ _ => ⟨rfl, e79, (by decide : 10 + 1 ≤ _), (by decide : 140 + 5 ≤ _)⟩)
      dsimp only [Pt.U, Pt.locs, Pt.cells, Pt.slots] at X81 l81 y81 z81 st81 hQ81
      subst l81 y81 z81
      obtain ⟨h81, e81⟩ : ∃ h, T81.heap = h := ⟨_, rfl⟩
      rw [e81] at hQ81
      obtain ⟨b0_81, kq1_81, rfl, N81q, K81q, O81, n_b0_81, z_b0_81, F81_0⟩ := hQ81
      have N81 := Fr.app Nj N81q
      have sz_b0_81 : h0.size ≤ b0_81 := Nat.le_trans K79.1 z_b0_81
      have ne_b1_b0_81 : b1 ≠ b0_81 := Nat.ne_of_lt (Nat.lt_of_lt_of_le (V_s.ext E79).lt z_b0_81)
      have ne_b79_b0_81 : b79 ≠ b0_81 := Nat.ne_of_lt (Nat.lt_of_lt_of_le A79.lt z_b0_81)
      have K81 := K79.trans K81q all0
      have CS81 : CHr Z oEL sG.vm h79 sG.vm h81 := CHr.keep K81q sf0 CR79.1
      have CR81 := CR79.trans CS81
      have sf_b0_81 : Safe Z oEL sG.vm h81 b0_81 := Safe.keep K81q sf0 CR79.1 (Safe.new z_b0_81)
      obtain ⟨LL82, X81, N81⟩ : ∃ LL, Stand pG l eG _ _ mG _ belowG methG cG T81 LL 11 145 ∧ Fr n0 LL := ⟨_, X81, N81⟩
      refine ob T81 (mkF mG 216 #[oi i0, oi i1, oi i2, oi i3, oi i4, oa b1, oi (5 : Int32), .unset, .unset, .unset, .unset, .unset] [(.ref b0_81), (.ref b79), (.ref b79)]) (fun _ kk => st81 _ kk) ?_
      have hp84 : ∀ cc_ ∈ ([c0, c1, c2, c3, c4] : List Int32), ¬ cc_ < 0 ∧ ¬ (255 : Int32) < cc_ := by
        intro cc_ hc
        simp only [List.mem_cons, List.not_mem_nil, or_false] at hc
        rcases hc with hc | hc | hc | hc | hc
        · rw [hc]; exact r0
        · rw [hc]; exact r1
        · rw [hc]; exact r2
        · rw [hc]; exact r3
        · rw [hc]; exact r4
      have hws : ∀ d ∈ StrChars.Road.words, d.before a0 Z = true := fun d hd => hw d (own_words d hd)
      obtain ⟨_, _, ⟨T83, L83, k83, n83⟩, -, X83, ⟨Lc83, hQ83, l83, y83, z83⟩, st83⟩ := X81.specialBack hx (y := (⟨"java/lang/String", "<init>", "([C)V"⟩ : MethodName)) rfl hown (mvT hZ (ow hw 12 rfl)) (mvT hZ (ow hw 13 rfl)) (mvT hZ (ow hw 14 rfl)) (by decide) (StrChars.Road.backV (W := 1) hZ hws (kI := 4) (ow hw 7 rfl) (cs := ([c0, c1, c2, c3, c4] : List Int32)) (bs := ([c0, c1, c2, c3, c4] : List Int32).map (fun c => c.toInt8.toInt32)) (n := 5) n_b79 (on0 O81) (A79.keep K81q) (F79_24.keep K81q nin0) (F79_25.keep K81q nin0) F81_0 (S_zc.ext O81.2) hzc rfl rfl (by decide) (by decide) hp84 rfl (by decide) (by decide)) (g := (mkF mG 216 #[oi i0, oi i1, oi i2, oi i3, oi i4, oa b1, oi (5 : Int32), .unset, .unset, .unset, .unset, .unset] [(.ref b0_81), (.ref b79), (.ref b79)])) rfl (by rw [hml]; rfl) (Steps.refl _) (a := b79) (argsL := [(.ref b0_81)]) (rest := [(.ref b79)]) (lenOf pd_35 rfl) rfl (by show 2 * 0 + _ ≤ _; exact Nat.le_of_eq rfl) (hb hby at_216) (fun _ _ => ⟨rfl, e81, (by decide : 11 + 1 ≤ _), (by decide : 145 + 5 ≤ _)⟩)
      dsimp only [Pt.U, Pt.locs, Pt.cells, Pt.slots] at X83 l83 y83 z83 st83 hQ83
      subst l83 y83 z83
      obtain ⟨h83, e83⟩ : ∃ h, T83.heap = h := ⟨_, rfl⟩
      rw [e83] at hQ83
      obtain ⟨rfl, N83q, K83q, A83, C83, t83, kb83, n_t83, z_t83, nt83, V83, B83⟩ := hQ83
      have hcd83 : StrChars.Road.CodA ([c0, c1, c2, c3, c4] : List Int32) 0 (5 : Int32) ((([c0, c1, c2, c3, c4] : List Int32).map (fun c => c.toInt8.toInt32)).map Value.int) := StrChars.Road.codOf (n := 5) rfl (fun cc_ hc => (hp84 cc_ hc).2)
      have N83 := Fr.app N81 N83q
      have sz_t83 : h0.size ≤ t83 := Nat.le_trans K81.1 z_t83
      have ne_b1_t83 : b1 ≠ t83 := Nat.ne_of_lt (Nat.lt_of_lt_of_le ((V_s.ext E79).keep K81q nin0).lt z_t83)
      have ne_b79_t83 : b79 ≠ t83 := Nat.ne_of_lt (Nat.lt_of_lt_of_le (A79.keep K81q).lt z_t83)
      have ne_b0_81_t83 : b0_81 ≠ t83 := Nat.ne_of_lt (Nat.lt_of_lt_of_le F81_0.lt z_t83)
      have ne_b79_t83x : b79 ≠ t83 := fun q => nt83 q.symm
      have O83 := O81.keep K83q (allS n_b79 all0)
      have K83 := K81.trans K83q (allS (Or.inr sz_b79) all0)
      have CS83 : CHr Z oEL sG.vm h81 sG.vm h83 := CHr.keep K83q (sfS (CHr.safe CS81 A79.lt sf_b79) sf0) CR81.1
      have CR83 := CR81.trans CS83
      obtain ⟨LL85, X83, N83⟩ : ∃ LL, Stand pG l eG _ _ mG _ belowG methG cG T83 LL 12 150 ∧ Fr n0 LL := ⟨_, X83, N83⟩
      refine ob T83 (mkF mG 219 #[oi i0, oi i1, oi i2, oi i3, oi i4, oa b1, oi (5 : Int32), .unset, .unset, .unset, .unset, .unset] [(.ref b79)]) (fun _ kk => st83.trans kk) ?_
      refine uO2 X83 hx hby at_219 #[oi i0, oi i1, oi i2, oi i3, oi i4, oa b1, oi (5 : Int32), oa b79, .unset, .unset, .unset, .unset] 221 ?_
      have VB8 : Arv Z h83 t83 kb83 .byte (5 : Int32) (oB8 c0 c1 c2 c3 c4 c5 c6 c7) (.int (0 : Int32)) := own_arvEq B83 (fun i hi => own_pre [(.int (c0.toInt8.toInt32)), (.int (c1.toInt8.toInt32)), (.int (c2.toInt8.toInt32)), (.int (c3.toInt8.toInt32)), (.int (c4.toInt8.toInt32))] [(.int (c5.toInt8.toInt32)), (.int (c6.toInt8.toInt32)), (.int (c7.toInt8.toInt32))] _ i hi)
      exact J221 T83 h83 _ b79 t83 kb83 (5 : Int32) (by decide) (X83.mono (by decide) (by decide)) N83 e83 CR83 O83 K83 A83 C83 V83 VB8 (((V_s.ext E79).keep K81q nin0).keep K83q (ninS ne_b1_b79 nin0))
    · show oGo pG eG belowG _ Tj (mkF mG 203 #[oi i0, oi i1, oi i2, oi i3, oi i4, oa b1, .unset, .unset, .unset, .unset, .unset, .unset] [(.int (6 : Int32))])
      refine uT2 Xj hx hby at_203 #[oi i0, oi i1, oi i2, oi i3, oi i4, oa b1, oi (6 : Int32), .unset, .unset, .unset, .unset, .unset] 205 ?_
      obtain ⟨T86, h86, X86, e86, E86, A86, D86, _x86, st86⟩ := newO Xj hx hZ hown (ow hw 6 rfl) (ow hw 7 rfl) (ow hw 8 rfl) ej (g := (mkF mG 205 #[oi i0, oi i1, oi i2, oi i3, oi i4, oa b1, oi (6 : Int32), .unset, .unset, .unset, .unset, .unset] [])) rfl (hb hby at_205) (by decide) (by decide)
      obtain ⟨b86, g86⟩ : ∃ z, z = hj.size := ⟨_, rfl⟩
      rw [← g86] at A86 D86 st86
      have n_b86 : n0 ≤ b86 := Nat.le_trans (on0 Oj) (Nat.le_of_eq g86.symm)
      have sz_b86 : h0.size ≤ b86 := Nat.le_trans Kj.1 (Nat.le_of_eq g86.symm)
      have ne_b1_b86 : b1 ≠ b86 := Nat.ne_of_lt (Nat.lt_of_lt_of_le V_s.lt (Nat.le_of_eq g86.symm))
      have CS86 : CHr Z oEL sG.vm hj sG.vm h86 := CHr.ext E86 CRj.1
      have CR86 := CRj.trans CS86
      have O86 := Oj.ext E86
      have K86 := Kj.ext E86
      obtain ⟨LL87, X86, Nj⟩ : ∃ LL, Stand pG l eG _ _ mG _ belowG methG cG T86 LL 10 140 ∧ Fr n0 LL := ⟨_, X86, Nj⟩
      have sf_b86 : Safe Z oEL sG.vm h86 b86 := Safe.ext E86 CRj.1 (Safe.new (Nat.le_of_eq g86.symm))
      have F86_24 : Fld Z h86 b86 "java/lang/String" "value" "[B" .null := D86 (Or.inr (ow hw 24 rfl)) (ty := (.array .byte)) (by decide)
      have F86_25 : Fld Z h86 b86 "java/lang/String" "coder" "B" (.int (0 : Int32)) := D86 (Or.inr (ow hw 25 rfl)) (ty := .byte) (by decide)
      refine ob T86 (mkF mG 208 #[oi i0, oi i1, oi i2, oi i3, oi i4, oa b1, oi (6 : Int32), .unset, .unset, .unset, .unset, .unset] [(.ref b86)]) (fun _ kk => st86 _ kk) ?_
      refine uD X86 hx hby at_208 209 (uA2 X86 hx hby at_209 rfl 211 (uI2 X86 hx hby at_211 rfl 213 ?_))
      obtain ⟨_, _, ⟨T88, L88, k88, n88⟩, -, X88, ⟨Lc88, hQ88, l88, y88, z88⟩, st88⟩ := Jvm.LawKit.callS X86 hx (y := (⟨sW, "cut", "([CI)[C"⟩ : MethodName)) hown (mvT hZ (ow hw 9 rfl)) (mvT hZ (ow hw 10 rfl)) (mvT hZ (ow hw 3 rfl)) (mvT hZ (ow hw 11 rfl)) (by decide) (backOf (W := 2) (rm_cut6 b1 k1 c0 c1 c2 c3 c4 c5 c6 c7 ⟨hw, O86, hS⟩ (V_s.ext E86) r0 r1 r2 r3 r4 r5 r6 r7) hZ (ow hw 11 rfl) (ow hw 3 rfl) (by decide) (by decide)) (g := (mkF mG 213 #[oi i0, oi i1, oi i2, oi i3, oi i4, oa b1, oi (6 : Int32), .unset, .unset, .unset, .unset, .unset] [(.int (6 : Int32)), (.ref b1), (.ref b86), (.ref b86)])) rfl (by rw [hml]; rfl) (argsL := [(.ref b1), (.int (6 : Int32))]) (rest := [(.ref b86), (.ref b86)]) (lenOf pd_34 rfl) rfl (by show 2 * 0 + _ ≤ _; exact Nat.le_of_eq rfl) (hb hby at_213) (fun _ _ => ⟨rfl, e86, (by decide : 10 + 1 ≤ _), (by decide : 140 + 6 ≤ _)⟩)
      dsimp only [Pt.U, Pt.locs, Pt.cells, Pt.slots] at X88 l88 y88 z88 st88 hQ88
      subst l88 y88 z88
      obtain ⟨h88, e88⟩ : ∃ h, T88.heap = h := ⟨_, rfl⟩
      rw [e88] at hQ88
      obtain ⟨b0_88, kq1_88, rfl, N88q, K88q, O88, n_b0_88, z_b0_88, F88_0⟩ := hQ88
      have N88 := Fr.app Nj N88q
      have sz_b0_88 : h0.size ≤ b0_88 := Nat.le_trans K86.1 z_b0_88
      have ne_b1_b0_88 : b1 ≠ b0_88 := Nat.ne_of_lt (Nat.lt_of_lt_of_le (V_s.ext E86).lt z_b0_88)
      have ne_b86_b0_88 : b86 ≠ b0_88 := Nat.ne_of_lt (Nat.lt_of_lt_of_le A86.lt z_b0_88)
      have K88 := K86.trans K88q all0
      have CS88 : CHr Z oEL sG.vm h86 sG.vm h88 := CHr.keep K88q sf0 CR86.1
      have CR88 := CR86.trans CS88
      have sf_b0_88 : Safe Z oEL sG.vm h88 b0_88 := Safe.keep K88q sf0 CR86.1 (Safe.new z_b0_88)
      obtain ⟨LL89, X88, N88⟩ : ∃ LL, Stand pG l eG _ _ mG _ belowG methG cG T88 LL 11 146 ∧ Fr n0 LL := ⟨_, X88, N88⟩
      refine ob T88 (mkF mG 216 #[oi i0, oi i1, oi i2, oi i3, oi i4, oa b1, oi (6 : Int32), .unset, .unset, .unset, .unset, .unset] [(.ref b0_88), (.ref b86), (.ref b86)]) (fun _ kk => st88 _ kk) ?_
      have hp91 : ∀ cc_ ∈ ([c0, c1, c2, c3, c4, c5] : List Int32), ¬ cc_ < 0 ∧ ¬ (255 : Int32) < cc_ := by
        intro cc_ hc
        simp only [List.mem_cons, List.not_mem_nil, or_false] at hc
        rcases hc with hc | hc | hc | hc | hc | hc
        · rw [hc]; exact r0
        · rw [hc]; exact r1
        · rw [hc]; exact r2
        · rw [hc]; exact r3
        · rw [hc]; exact r4
        · rw [hc]; exact r5
      have hws : ∀ d ∈ StrChars.Road.words, d.before a0 Z = true := fun d hd => hw d (own_words d hd)
      obtain ⟨_, _, ⟨T90, L90, k90, n90⟩, -, X90, ⟨Lc90, hQ90, l90, y90, z90⟩, st90⟩ := X88.specialBack hx (y := (⟨"java/lang/String", "<init>", "([C)V"⟩ : MethodName)) rfl hown (mvT hZ (ow hw 12 rfl)) (mvT hZ (ow hw 13 rfl)) (mvT hZ (ow hw 14 rfl)) (by decide) (StrChars.Road.backV (W := 1) hZ hws (kI := 4) (ow hw 7 rfl) (cs := ([c0, c1, c2, c3, c4, c5] : List Int32)) (bs := ([c0, c1, c2, c3, c4, c5] : List Int32).map (fun c => c.toInt8.toInt32)) (n := 6) n_b86 (on0 O88) (A86.keep K88q) (F86_24.keep K88q nin0) (F86_25.keep K88q nin0) F88_0 (S_zc.ext O88.2) hzc rfl rfl (by decide) (by decide) hp91 rfl (by decide) (by decide)) (g := (mkF mG 216 #[oi i0, oi i1, oi i2, oi i3, oi i4, oa b1, oi (6 : Int32), .unset, .unset, .unset, .unset, .unset] [(.ref b0_88), (.ref b86), (.ref b86)])) rfl (by rw [hml]; rfl) (Steps.refl _) (a := b86) (argsL := [(.ref b0_88)]) (rest := [(.ref b86)]) (lenOf pd_35 rfl) rfl (by show 2 * 0 + _ ≤ _; exact Nat.le_of_eq rfl) (hb hby at_216) (fun _ _ => ⟨rfl, e88, (by decide : 11 + 1 ≤ _), (by decide : 146 + 6 ≤ _)⟩)
      dsimp only [Pt.U, Pt.locs, Pt.cells, Pt.slots] at X90 l90 y90 z90 st90 hQ90
      subst l90 y90 z90
      obtain ⟨h90, e90⟩ : ∃ h, T90.heap = h := ⟨_, rfl⟩
      rw [e90] at hQ90
      obtain ⟨rfl, N90q, K90q, A90, C90, t90, kb90, n_t90, z_t90, nt90, V90, B90⟩ := hQ90
      have hcd90 : StrChars.Road.CodA ([c0, c1, c2, c3, c4, c5] : List Int32) 0 (6 : Int32) ((([c0, c1, c2, c3, c4, c5] : List Int32).map (fun c => c.toInt8.toInt32)).map Value.int) := StrChars.Road.codOf (n := 6) rfl (fun cc_ hc => (hp91 cc_ hc).2)
      have N90 := Fr.app N88 N90q
      have sz_t90 : h0.size ≤ t90 := Nat.le_trans K88.1 z_t90
      have ne_b1_t90 : b1 ≠ t90 := Nat.ne_of_lt (Nat.lt_of_lt_of_le ((V_s.ext E86).keep K88q nin0).lt z_t90)
      have ne_b86_t90 : b86 ≠ t90 := Nat.ne_of_lt (Nat.lt_of_lt_of_le (A86.keep K88q).lt z_t90)
      have ne_b0_88_t90 : b0_88 ≠ t90 := Nat.ne_of_lt (Nat.lt_of_lt_of_le F88_0.lt z_t90)
      have ne_b86_t90x : b86 ≠ t90 := fun q => nt90 q.symm
      have O90 := O88.keep K90q (allS n_b86 all0)
      have K90 := K88.trans K90q (allS (Or.inr sz_b86) all0)
      have CS90 : CHr Z oEL sG.vm h88 sG.vm h90 := CHr.keep K90q (sfS (CHr.safe CS88 A86.lt sf_b86) sf0) CR88.1
      have CR90 := CR88.trans CS90
      obtain ⟨LL92, X90, N90⟩ : ∃ LL, Stand pG l eG _ _ mG _ belowG methG cG T90 LL 12 152 ∧ Fr n0 LL := ⟨_, X90, N90⟩
      refine ob T90 (mkF mG 219 #[oi i0, oi i1, oi i2, oi i3, oi i4, oa b1, oi (6 : Int32), .unset, .unset, .unset, .unset, .unset] [(.ref b86)]) (fun _ kk => st90.trans kk) ?_
      refine uO2 X90 hx hby at_219 #[oi i0, oi i1, oi i2, oi i3, oi i4, oa b1, oi (6 : Int32), oa b86, .unset, .unset, .unset, .unset] 221 ?_
      have VB8 : Arv Z h90 t90 kb90 .byte (6 : Int32) (oB8 c0 c1 c2 c3 c4 c5 c6 c7) (.int (0 : Int32)) := own_arvEq B90 (fun i hi => own_pre [(.int (c0.toInt8.toInt32)), (.int (c1.toInt8.toInt32)), (.int (c2.toInt8.toInt32)), (.int (c3.toInt8.toInt32)), (.int (c4.toInt8.toInt32)), (.int (c5.toInt8.toInt32))] [(.int (c6.toInt8.toInt32)), (.int (c7.toInt8.toInt32))] _ i hi)
      exact J221 T90 h90 _ b86 t90 kb90 (6 : Int32) (by decide) (X90.mono (by decide) (by decide)) N90 e90 CR90 O90 K90 A90 C90 V90 VB8 (((V_s.ext E86).keep K88q nin0).keep K90q (ninS ne_b1_b86 nin0))
    · show oGo pG eG belowG _ Tj (mkF mG 203 #[oi i0, oi i1, oi i2, oi i3, oi i4, oa b1, .unset, .unset, .unset, .unset, .unset, .unset] [(.int (7 : Int32))])
      refine uT2 Xj hx hby at_203 #[oi i0, oi i1, oi i2, oi i3, oi i4, oa b1, oi (7 : Int32), .unset, .unset, .unset, .unset, .unset] 205 ?_
      obtain ⟨T93, h93, X93, e93, E93, A93, D93, _x93, st93⟩ := newO Xj hx hZ hown (ow hw 6 rfl) (ow hw 7 rfl) (ow hw 8 rfl) ej (g := (mkF mG 205 #[oi i0, oi i1, oi i2, oi i3, oi i4, oa b1, oi (7 : Int32), .unset, .unset, .unset, .unset, .unset] [])) rfl (hb hby at_205) (by decide) (by decide)
      obtain ⟨b93, g93⟩ : ∃ z, z = hj.size := ⟨_, rfl⟩
      rw [← g93] at A93 D93 st93
      have n_b93 : n0 ≤ b93 := Nat.le_trans (on0 Oj) (Nat.le_of_eq g93.symm)
      have sz_b93 : h0.size ≤ b93 := Nat.le_trans Kj.1 (Nat.le_of_eq g93.symm)
      have ne_b1_b93 : b1 ≠ b93 := Nat.ne_of_lt (Nat.lt_of_lt_of_le V_s.lt (Nat.le_of_eq g93.symm))
      have CS93 : CHr Z oEL sG.vm hj sG.vm h93 := CHr.ext E93 CRj.1
      have CR93 := CRj.trans CS93
      have O93 := Oj.ext E93
      have K93 := Kj.ext E93
      obtain ⟨LL94, X93, Nj⟩ : ∃ LL, Stand pG l eG _ _ mG _ belowG methG cG T93 LL 10 140 ∧ Fr n0 LL := ⟨_, X93, Nj⟩
      have sf_b93 : Safe Z oEL sG.vm h93 b93 := Safe.ext E93 CRj.1 (Safe.new (Nat.le_of_eq g93.symm))
      have F93_24 : Fld Z h93 b93 "java/lang/String" "value" "[B" .null := D93 (Or.inr (ow hw 24 rfl)) (ty := (.array .byte)) (by decide)
      have F93_25 : Fld Z h93 b93 "java/lang/String" "coder" "B" (.int (0 : Int32)) := D93 (Or.inr (ow hw 25 rfl)) (ty := .byte) (by decide)
      refine ob T93 (mkF mG 208 #[oi i0, oi i1, oi i2, oi i3, oi i4, oa b1, oi (7 : Int32), .unset, .unset, .unset, .unset, .unset] [(.ref b93)]) (fun _ kk => st93 _ kk) ?_
      refine uD X93 hx hby at_208 209 (uA2 X93 hx hby at_209 rfl 211 (uI2 X93 hx hby at_211 rfl 213 ?_))
      obtain ⟨_, _, ⟨T95, L95, k95, n95⟩, -, X95, ⟨Lc95, hQ95, l95, y95, z95⟩, st95⟩ := Jvm.LawKit.callS X93 hx (y := (⟨sW, "cut", "([CI)[C"⟩ : MethodName)) hown (mvT hZ (ow hw 9 rfl)) (mvT hZ (ow hw 10 rfl)) (mvT hZ (ow hw 3 rfl)) (mvT hZ (ow hw 11 rfl)) (by decide) (backOf (W := 2) (rm_cut7 b1 k1 c0 c1 c2 c3 c4 c5 c6 c7 ⟨hw, O93, hS⟩ (V_s.ext E93) r0 r1 r2 r3 r4 r5 r6 r7) hZ (ow hw 11 rfl) (ow hw 3 rfl) (by decide) (by decide)) (g := (mkF mG 213 #[oi i0, oi i1, oi i2, oi i3, oi i4, oa b1, oi (7 : Int32), .unset, .unset, .unset, .unset, .unset] [(.int (7 : Int32)), (.ref b1), (.ref b93), (.ref b93)])) rfl (by rw [hml]; rfl) (argsL := [(.ref b1), (.int (7 : Int32))]) (rest := [(.ref b93), (.ref b93)]) (lenOf pd_34 rfl) rfl (by show 2 * 0 + _ ≤ _; exact Nat.le_of_eq rfl) (hb hby at_213) (fun _ _ => ⟨rfl, e93, (by decide : 10 + 1 ≤ _), (by decide : 140 + 7 ≤ _)⟩)
      dsimp only [Pt.U, Pt.locs, Pt.cells, Pt.slots] at X95 l95 y95 z95 st95 hQ95
      subst l95 y95 z95
      obtain ⟨h95, e95⟩ : ∃ h, T95.heap = h := ⟨_, rfl⟩
      rw [e95] at hQ95
      obtain ⟨b0_95, kq1_95, rfl, N95q, K95q, O95, n_b0_95, z_b0_95, F95_0⟩ := hQ95
      have N95 := Fr.app Nj N95q
      have sz_b0_95 : h0.size ≤ b0_95 := Nat.le_trans K93.1 z_b0_95
      have ne_b1_b0_95 : b1 ≠ b0_95 := Nat.ne_of_lt (Nat.lt_of_lt_of_le (V_s.ext E93).lt z_b0_95)
      have ne_b93_b0_95 : b93 ≠ b0_95 := Nat.ne_of_lt (Nat.lt_of_lt_of_le A93.lt z_b0_95)
      have K95 := K93.trans K95q all0
      have CS95 : CHr Z oEL sG.vm h93 sG.vm h95 := CHr.keep K95q sf0 CR93.1
      have CR95 := CR93.trans CS95
      have sf_b0_95 : Safe Z oEL sG.vm h95 b0_95 := Safe.keep K95q sf0 CR93.1 (Safe.new z_b0_95)
      obtain ⟨LL96, X95, N95⟩ : ∃ LL, Stand pG l eG _ _ mG _ belowG methG cG T95 LL 11 147 ∧ Fr n0 LL := ⟨_, X95, N95⟩
      refine ob T95 (mkF mG 216 #[oi i0, oi i1, oi i2, oi i3, oi i4, oa b1, oi (7 : Int32), .unset, .unset, .unset, .unset, .unset] [(.ref b0_95), (.ref b93), (.ref b93)]) (fun _ kk => st95 _ kk) ?_
      have hp98 : ∀ cc_ ∈ ([c0, c1, c2, c3, c4, c5, c6] : List Int32), ¬ cc_ < 0 ∧ ¬ (255 : Int32) < cc_ := by
        intro cc_ hc
        simp only [List.mem_cons, List.not_mem_nil, or_false] at hc
        rcases hc with hc | hc | hc | hc | hc | hc | hc
        · rw [hc]; exact r0
        · rw [hc]; exact r1
        · rw [hc]; exact r2
        · rw [hc]; exact r3
        · rw [hc]; exact r4
        · rw [hc]; exact r5
        · rw [hc]; exact r6
      have hws : ∀ d ∈ StrChars.Road.words, d.before a0 Z = true := fun d hd => hw d (own_words d hd)
      obtain ⟨_, _, ⟨T97, L97, k97, n97⟩, -, X97, ⟨Lc97, hQ97, l97, y97, z97⟩, st97⟩ := X95.specialBack hx (y := (⟨"java/lang/String", "<init>", "([C)V"⟩ : MethodName)) rfl hown (mvT hZ (ow hw 12 rfl)) (mvT hZ (ow hw 13 rfl)) (mvT hZ (ow hw 14 rfl)) (by decide) (StrChars.Road.backV (W := 1) hZ hws (kI := 4) (ow hw 7 rfl) (cs := ([c0, c1, c2, c3, c4, c5, c6] : List Int32)) (bs := ([c0, c1, c2, c3, c4, c5, c6] : List Int32).map (fun c => c.toInt8.toInt32)) (n := 7) n_b93 (on0 O95) (A93.keep K95q) (F93_24.keep K95q nin0) (F93_25.keep K95q nin0) F95_0 (S_zc.ext O95.2) hzc rfl rfl (by decide) (by decide) hp98 rfl (by decide) (by decide)) (g := (mkF mG 216 #[oi i0, oi i1, oi i2, oi i3, oi i4, oa b1, oi (7 : Int32), .unset, .unset, .unset, .unset, .unset] [(.ref b0_95), (.ref b93), (.ref b93)])) rfl (by rw [hml]; rfl) (Steps.refl _) (a := b93) (argsL := [(.ref b0_95)]) (rest := [(.ref b93)]) (lenOf pd_35 rfl) rfl (by show 2 * 0 + _ ≤ _; exact Nat.le_of_eq rfl) (hb hby at_216) (fun _ _ => ⟨rfl, e95, (by decide : 11 + 1 ≤ _), (by decide : 147 + 7 ≤ _)⟩)
      dsimp only [Pt.U, Pt.locs, Pt.cells, Pt.slots] at X97 l97 y97 z97 st97 hQ97
      subst l97 y97 z97
      obtain ⟨h97, e97⟩ : ∃ h, T97.heap = h := ⟨_, rfl⟩
      rw [e97] at hQ97
      obtain ⟨rfl, N97q, K97q, A97, C97, t97, kb97, n_t97, z_t97, nt97, V97, B97⟩ := hQ97
      have hcd97 : StrChars.Road.CodA ([c0, c1, c2, c3, c4, c5, c6] : List Int32) 0 (7 : Int32) ((([c0, c1, c2, c3, c4, c5, c6] : List Int32).map (fun c => c.toInt8.toInt32)).map Value.int) := StrChars.Road.codOf (n := 7) rfl (fun cc_ hc => (hp98 cc_ hc).2)
      have N97 := Fr.app N95 N97q
      have sz_t97 : h0.size ≤ t97 := Nat.le_trans K95.1 z_t97
      have ne_b1_t97 : b1 ≠ t97 := Nat.ne_of_lt (Nat.lt_of_lt_of_le ((V_s.ext E93).keep K95q nin0).lt z_t97)
      have ne_b93_t97 : b93 ≠ t97 := Nat.ne_of_lt (Nat.lt_of_lt_of_le (A93.keep K95q).lt z_t97)
      have ne_b0_95_t97 : b0_95 ≠ t97 := Nat.ne_of_lt (Nat.lt_of_lt_of_le F95_0.lt z_t97)
      have ne_b93_t97x : b93 ≠ t97 := fun q => nt97 q.symm
      have O97 := O95.keep K97q (allS n_b93 all0)
      have K97 := K95.trans K97q (allS (Or.inr sz_b93) all0)
      have CS97 : CHr Z oEL sG.vm h95 sG.vm h97 := CHr.keep K97q (sfS (CHr.safe CS95 A93.lt sf_b93) sf0) CR95.1
      have CR97 := CR95.trans CS97
      obtain ⟨LL99, X97, N97⟩ : ∃ LL, Stand pG l eG _ _ mG _ belowG methG cG T97 LL 12 154 ∧ Fr n0 LL := ⟨_, X97, N97⟩
      refine ob T97 (mkF mG 219 #[oi i0, oi i1, oi i2, oi i3, oi i4, oa b1, oi (7 : Int32), .unset, .unset, .unset, .unset, .unset] [(.ref b93)]) (fun _ kk => st97.trans kk) ?_
      refine uO2 X97 hx hby at_219 #[oi i0, oi i1, oi i2, oi i3, oi i4, oa b1, oi (7 : Int32), oa b93, .unset, .unset, .unset, .unset] 221 ?_
      have VB8 : Arv Z h97 t97 kb97 .byte (7 : Int32) (oB8 c0 c1 c2 c3 c4 c5 c6 c7) (.int (0 : Int32)) := own_arvEq B97 (fun i hi => own_pre [(.int (c0.toInt8.toInt32)), (.int (c1.toInt8.toInt32)), (.int (c2.toInt8.toInt32)), (.int (c3.toInt8.toInt32)), (.int (c4.toInt8.toInt32)), (.int (c5.toInt8.toInt32)), (.int (c6.toInt8.toInt32))] [(.int (c7.toInt8.toInt32))] _ i hi)
      exact J221 T97 h97 _ b93 t97 kb97 (7 : Int32) (by decide) (X97.mono (by decide) (by decide)) N97 e97 CR97 O97 K97 A97 C97 V97 VB8 (((V_s.ext E93).keep K95q nin0).keep K97q (ninS ne_b1_b93 nin0))
    · show oGo pG eG belowG _ Tj (mkF mG 203 #[oi i0, oi i1, oi i2, oi i3, oi i4, oa b1, .unset, .unset, .unset, .unset, .unset, .unset] [(.int (8 : Int32))])
      refine uT2 Xj hx hby at_203 #[oi i0, oi i1, oi i2, oi i3, oi i4, oa b1, oi (8 : Int32), .unset, .unset, .unset, .unset, .unset] 205 ?_
      obtain ⟨T100, h100, X100, e100, E100, A100, D100, _x100, st100⟩ := newO Xj hx hZ hown (ow hw 6 rfl) (ow hw 7 rfl) (ow hw 8 rfl) ej (g := (mkF mG 205 #[oi i0, oi i1, oi i2, oi i3, oi i4, oa b1, oi (8 : Int32), .unset, .unset, .unset, .unset, .unset] [])) rfl (hb hby at_205) (by decide) (by decide)
      obtain ⟨b100, g100⟩ : ∃ z, z = hj.size := ⟨_, rfl⟩
      rw [← g100] at A100 D100 st100
      have n_b100 : n0 ≤ b100 := Nat.le_trans (on0 Oj) (Nat.le_of_eq g100.symm)
      have sz_b100 : h0.size ≤ b100 := Nat.le_trans Kj.1 (Nat.le_of_eq g100.symm)
      have ne_b1_b100 : b1 ≠ b100 := Nat.ne_of_lt (Nat.lt_of_lt_of_le V_s.lt (Nat.le_of_eq g100.symm))
      have CS100 : CHr Z oEL sG.vm hj sG.vm h100 := CHr.ext E100 CRj.1
      have CR100 := CRj.trans CS100
      have O100 := Oj.ext E100
      have K100 := Kj.ext E100
      obtain ⟨LL101, X100, Nj⟩ : ∃ LL, Stand pG l eG _ _ mG _ belowG methG cG T100 LL 10 140 ∧ Fr n0 LL := ⟨_, X100, Nj⟩
      have sf_b100 : Safe Z oEL sG.vm h100 b100 := Safe.ext E100 CRj.1 (Safe.new (Nat.le_of_eq g100.symm))
      have F100_24 : Fld Z h100 b100 "java/lang/String" "value" "[B" .null := D100 (Or.inr (ow hw 24 rfl)) (ty := (.array .byte)) (by decide)
      have F100_25 : Fld Z h100 b100 "java/lang/String" "coder" "B" (.int (0 : Int32)) := D100 (Or.inr (ow hw 25 rfl)) (ty := .byte) (by decide)
      refine ob T100 (mkF mG 208 #[oi i0, oi i1, oi i2, oi i3, oi i4, oa b1, oi (8 : Int32), .unset, .unset, .unset, .unset, .unset] [(.ref b100)]) (fun _ kk => st100 _ kk) ?_
      refine uD X100 hx hby at_208 209 (uA2 X100 hx hby at_209 rfl 211 (uI2 X100 hx hby at_211 rfl 213 ?_))
      obtain ⟨_, _, ⟨T102, L102, k102, n102⟩, -, X102, ⟨Lc102, hQ102, l102, y102, z102⟩, st102⟩ := Jvm.LawKit.callS X100 hx (y := (⟨sW, "cut", "([CI)[C"⟩ : MethodName)) hown (mvT hZ (ow hw 9 rfl)) (mvT hZ (ow hw 10 rfl)) (mvT hZ (ow hw 3 rfl)) (mvT hZ (ow hw 11 rfl)) (by decide) (backOf (W := 2) (rm_cut8 b1 k1 c0 c1 c2 c3 c4 c5 c6 c7 ⟨hw, O100, hS⟩ (V_s.ext E100) r0 r1 r2 r3 r4 r5 r6 r7) hZ (ow hw 11 rfl) (ow hw 3 rfl) (by decide) (by decide)) (g := (mkF mG 213 #[oi i0, oi i1, oi i2, oi i3, oi i4, oa b1, oi (8 : Int32), .unset, .unset, .unset, .unset, .unset] [(.int (8 : Int32)), (.ref b1), (.ref b100), (.ref b100)])) rfl (by rw [hml]; rfl) (argsL := [(.ref b1), (.int (8 : Int32))]) (rest := [(.ref b100), (.ref b100)]) (lenOf pd_34 rfl) rfl (by show 2 * 0 + _ ≤ _; exact Nat.le_of_eq rfl) (hb hby at_213) (fun _ _ => ⟨rfl, e100, (by decide : 10 + 1 ≤ _), (by decide : 140 + 8 ≤ _)⟩)
      dsimp only [Pt.U, Pt.locs, Pt.cells, Pt.slots] at X102 l102 y102 z102 st102 hQ102
      subst l102 y102 z102
      obtain ⟨h102, e102⟩ : ∃ h, T102.heap = h := ⟨_, rfl⟩
      rw [e102] at hQ102
      obtain ⟨b0_102, kq1_102, rfl, N102q, K102q, O102, n_b0_102, z_b0_102, F102_0⟩ := hQ102
      have N102 := Fr.app Nj N102q
      have sz_b0_102 : h0.size ≤ b0_102 := Nat.le_trans K100.1 z_b0_102
      have ne_b1_b0_102 : b1 ≠ b0_102 := Nat.ne_of_lt (Nat.lt_of_lt_of_le (V_s.ext E100).lt z_b0_102)
      have ne_b100_b0_102 : b100 ≠ b0_102 := Nat.ne_of_lt (Nat.lt_of_lt_of_le A100.lt z_b0_102)
      have K102 := K100.trans K102q all0
      have CS102 : CHr Z oEL sG.vm h100 sG.vm h102 := CHr.keep K102q sf0 CR100.1
      have CR102 := CR100.trans CS102
      have sf_b0_102 : Safe Z oEL sG.vm h102 b0_102 := Safe.keep K102q sf0 CR100.1 (Safe.new z_b0_102)
      obtain ⟨LL103, X102, N102⟩ : ∃ LL, Stand pG l eG _ _ mG _ belowG methG cG T102 LL 11 148 ∧ Fr n0 LL := ⟨_, X102, N102⟩
      refine ob T102 (mkF mG 216 #[oi i0, oi i1, oi i2, oi i3, oi i4, oa b1, oi (8 : Int32), .unset, .unset, .unset, .unset, .unset] [(.ref b0_102), (.ref b100), (.ref b100)]) (fun _ kk => st102 _ kk) ?_
      have hp105 : ∀ cc_ ∈ ([c0, c1, c2, c3, c4, c5, c6, c7] : List Int32), ¬ cc_ < 0 ∧ ¬ (255 : Int32) < cc_ := by
        intro cc_ hc
        simp only [List.mem_cons, List.not_mem_nil, or_false] at hc
        rcases hc with hc | hc | hc | hc | hc | hc | hc | hc
        · rw [hc]; exact r0
        · rw [hc]; exact r1
        · rw [hc]; exact r2
        · rw [hc]; exact r3
        · rw [hc]; exact r4
        · rw [hc]; exact r5
        · rw [hc]; exact r6
        · rw [hc]; exact r7
      have hws : ∀ d ∈ StrChars.Road.words, d.before a0 Z = true := fun d hd => hw d (own_words d hd)
      obtain ⟨_, _, ⟨T104, L104, k104, n104⟩, -, X104, ⟨Lc104, hQ104, l104, y104, z104⟩, st104⟩ := X102.specialBack hx (y := (⟨"java/lang/String", "<init>", "([C)V"⟩ : MethodName)) rfl hown (mvT hZ (ow hw 12 rfl)) (mvT hZ (ow hw 13 rfl)) (mvT hZ (ow hw 14 rfl)) (by decide) (StrChars.Road.backV (W := 1) hZ hws (kI := 4) (ow hw 7 rfl) (cs := ([c0, c1, c2, c3, c4, c5, c6, c7] : List Int32)) (bs := ([c0, c1, c2, c3, c4, c5, c6, c7] : List Int32).map (fun c => c.toInt8.toInt32)) (n := 8) n_b100 (on0 O102) (A100.keep K102q) (F100_24.keep K102q nin0) (F100_25.keep K102q nin0) F102_0 (S_zc.ext O102.2) hzc rfl rfl (by decide) (by decide) hp105 rfl (by decide) (by decide)) (g := (mkF mG 216 #[oi i0, oi i1, oi i2, oi i3, oi i4, oa b1, oi (8 : Int32), .unset, .unset, .unset, .unset, .unset] [(.ref b0_102), (.ref b100), (.ref b100)])) rfl (by rw [hml]; rfl) (Steps.refl _) (a := b100) (argsL := [(.ref b0_102)]) (rest := [(.ref b100)]) (lenOf pd_35 rfl) rfl (by show 2 * 0 + _ ≤ _; exact Nat.le_of_eq rfl) (hb hby at_216) (fun _ _ => ⟨rfl, e102, (by decide : 11 + 1 ≤ _), (by decide : 148 + 8 ≤ _)⟩)
      dsimp only [Pt.U, Pt.locs, Pt.cells, Pt.slots] at X104 l104 y104 z104 st104 hQ104
      subst l104 y104 z104
      obtain ⟨h104, e104⟩ : ∃ h, T104.heap = h := ⟨_, rfl⟩
      rw [e104] at hQ104
      obtain ⟨rfl, N104q, K104q, A104, C104, t104, kb104, n_t104, z_t104, nt104, V104, B104⟩ := hQ104
      have hcd104 : StrChars.Road.CodA ([c0, c1, c2, c3, c4, c5, c6, c7] : List Int32) 0 (8 : Int32) ((([c0, c1, c2, c3, c4, c5, c6, c7] : List Int32).map (fun c => c.toInt8.toInt32)).map Value.int) := StrChars.Road.codOf (n := 8) rfl (fun cc_ hc => (hp105 cc_ hc).2)
      have N104 := Fr.app N102 N104q
      have sz_t104 : h0.size ≤ t104 := Nat.le_trans K102.1 z_t104
      have ne_b1_t104 : b1 ≠ t104 := Nat.ne_of_lt (Nat.lt_of_lt_of_le ((V_s.ext E100).keep K102q nin0).lt z_t104)
      have ne_b100_t104 : b100 ≠ t104 := Nat.ne_of_lt (Nat.lt_of_lt_of_le (A100.keep K102q).lt z_t104)
      have ne_b0_102_t104 : b0_102 ≠ t104 := Nat.ne_of_lt (Nat.lt_of_lt_of_le F102_0.lt z_t104)
      have ne_b100_t104x : b100 ≠ t104 := fun q => nt104 q.symm
      have O104 := O102.keep K104q (allS n_b100 all0)
      have K104 := K102.trans K104q (allS (Or.inr sz_b100) all0)
      have CS104 : CHr Z oEL sG.vm h102 sG.vm h104 := CHr.keep K104q (sfS (CHr.safe CS102 A100.lt sf_b100) sf0) CR102.1
      have CR104 := CR102.trans CS104
      obtain ⟨LL106, X104, N104⟩ : ∃ LL, Stand pG l eG _ _ mG _ belowG methG cG T104 LL 12 156 ∧ Fr n0 LL := ⟨_, X104, N104⟩
      refine ob T104 (mkF mG 219 #[oi i0, oi i1, oi i2, oi i3, oi i4, oa b1, oi (8 : Int32), .unset, .unset, .unset, .unset, .unset] [(.ref b100)]) (fun _ kk => st104.trans kk) ?_
      refine uO2 X104 hx hby at_219 #[oi i0, oi i1, oi i2, oi i3, oi i4, oa b1, oi (8 : Int32), oa b100, .unset, .unset, .unset, .unset] 221 ?_
      have VB8 : Arv Z h104 t104 kb104 .byte (8 : Int32) (oB8 c0 c1 c2 c3 c4 c5 c6 c7) (.int (0 : Int32)) := own_arvEq B104 (fun i hi => own_pre (oB8 c0 c1 c2 c3 c4 c5 c6 c7) [] _ i hi)
      exact J221 T104 h104 _ b100 t104 kb104 (8 : Int32) (by decide) (X104.mono (by decide) (by decide)) N104 e104 CR104 O104 K104 A104 C104 V104 VB8 (((V_s.ext E100).keep K102q nin0).keep K104q (ninS ne_b1_b100 nin0))
  refine uA2 X1 hx hby at_6 rfl 8 (uC X1 hx hby at_8 0 9 (uI X1 hx hby at_9 rfl 10 ?_))
  obtain ⟨_, _, ⟨T107, L107, k107, n107⟩, -, X107, ⟨Lc107, hQ107, l107, y107, z107⟩, st107⟩ := Jvm.LawKit.callS X1 hx (y := (⟨sW, "ch", "(I)C"⟩ : MethodName)) hown (mvT hZ (ow hw 1 rfl)) (mvT hZ (ow hw 2 rfl)) (mvT hZ (ow hw 3 rfl)) (mvT hZ (ow hw 4 rfl)) (by decide) (backOf (W := 2) (rm_ch i0 ⟨hw, O1, hS⟩ ) hZ (ow hw 4 rfl) (ow hw 3 rfl) (by decide) (by decide)) (g := (mkF mG 10 #[oi i0, oi i1, oi i2, oi i3, oi i4, oa b1, .unset, .unset, .unset, .unset, .unset, .unset] [(.int i0), (.int (0 : Int32)), (.ref b1)])) rfl (by rw [hml]; rfl) (argsL := [(.int i0)]) (rest := [(.int (0 : Int32)), (.ref b1)]) (lenOf pd_9 rfl) rfl (by show 2 * 0 + _ ≤ _; exact Nat.le_of_eq rfl) (hb hby at_10) (fun _ _ => ⟨rfl, e1, (by decide : 1 + 1 ≤ _), (by decide : 8 + 16 ≤ _)⟩)
  dsimp only [Pt.U, Pt.locs, Pt.cells, Pt.slots] at X107 l107 y107 z107 st107 hQ107
  subst l107 y107 z107
  obtain ⟨h107, e107⟩ : ∃ h, T107.heap = h := ⟨_, rfl⟩
  rw [e107] at hQ107
  obtain ⟨i0_107, rfl, N107q, K107q, O107, F107_0⟩ := hQ107
  have N107 := Fr.app N0 N107q
  have K107 := K1.trans K107q all0
  have CS107 : CHr Z oEL sG.vm h1 sG.vm h107 := CHr.keep K107q sf0 CR1.1
  have CR107 := CR1.trans CS107
  obtain ⟨LL108, X107, N107⟩ : ∃ LL, Stand pG l eG _ _ mG _ belowG methG cG T107 LL 2 24 ∧ Fr n0 LL := ⟨_, X107, N107⟩
  refine ob T107 (mkF mG 13 #[oi i0, oi i1, oi i2, oi i3, oi i4, oa b1, .unset, .unset, .unset, .unset, .unset, .unset] [(.int i0_107), (.int (0 : Int32)), (.ref b1)]) (fun _ kk => st107 _ kk) ?_
  refine oSc X107 hx hby hZ e107 (V1.keep K107q nin0) ⟨by decide, by decide⟩ 0 i0_107 (own_nar i0_107 F107_0) at_13 O107 K107 N107 n_b1 (Or.inr sz_b1) 14 ?_
  intro T109 h109 L109 X109 e109 W109 V109 O109 K109 N109
  have CS109 : CHr Z oEL sG.vm h107 sG.vm h109 := CHr.wr W109 (Safe.arv hZ.alike (V1.keep K107q nin0) (by decide)) CR107.1
  have CR109 := CR107.trans CS109
  refine uA2 X109 hx hby at_14 rfl 16 (uC X109 hx hby at_16 1 17 (uI X109 hx hby at_17 rfl 18 (uB X109 hx hby at_18 16 20 ?_)))
  refine ob T109 (mkF mG 21 #[oi i0, oi i1, oi i2, oi i3, oi i4, oa b1, .unset, .unset, .unset, .unset, .unset, .unset] [(.int ((i0.toUInt32 >>> ((16 : Int32) &&& 31).toUInt32).toInt32)), (.int (1 : Int32)), (.ref b1)]) (fun _ kk => XS.iushr X109.here hx rfl (hb hby at_20) rfl kk) ?_
  obtain ⟨_, _, ⟨T110, L110, k110, n110⟩, -, X110, ⟨Lc110, hQ110, l110, y110, z110⟩, st110⟩ := Jvm.LawKit.callS X109 hx (y := (⟨sW, "ch", "(I)C"⟩ : MethodName)) hown (mvT hZ (ow hw 1 rfl)) (mvT hZ (ow hw 2 rfl)) (mvT hZ (ow hw 3 rfl)) (mvT hZ (ow hw 4 rfl)) (by decide) (backOf (W := 2) (rm_ch ((i0.toUInt32 >>> ((16 : Int32) &&& 31).toUInt32).toInt32) ⟨hw, O109, hS⟩ ) hZ (ow hw 4 rfl) (ow hw 3 rfl) (by decide) (by decide)) (g := (mkF mG 21 #[oi i0, oi i1, oi i2, oi i3, oi i4, oa b1, .unset, .unset, .unset, .unset, .unset, .unset] [(.int ((i0.toUInt32 >>> ((16 : Int32) &&& 31).toUInt32).toInt32)), (.int (1 : Int32)), (.ref b1)])) rfl (by rw [hml]; rfl) (argsL := [(.int ((i0.toUInt32 >>> ((16 : Int32) &&& 31).toUInt32).toInt32))]) (rest := [(.int (1 : Int32)), (.ref b1)]) (lenOf pd_9 rfl) rfl (by show 2 * 0 + _ ≤ _; exact Nat.le_of_eq rfl) (hb hby at_21) (fun _ _ => ⟨rfl, e109, (by decide : 2 + 1 ≤ _), (by decide : 24 + 16 ≤ _)⟩)
  dsimp only [Pt.U, Pt.locs, Pt.cells, Pt.slots] at X110 l110 y110 z110 st110 hQ110
  subst l110 y110 z110
  obtain ⟨h110, e110⟩ : ∃ h, T110.heap = h := ⟨_, rfl⟩
  rw [e110] at hQ110
  obtain ⟨i0_110, rfl, N110q, K110q, O110, F110_0⟩ := hQ110
  have N110 := Fr.app N109 N110q
  have K110 := K109.trans K110q all0
  have CS110 : CHr Z oEL sG.vm h109 sG.vm h110 := CHr.keep K110q sf0 CR109.1
  have CR110 := CR109.trans CS110
  obtain ⟨LL111, X110, N110⟩ : ∃ LL, Stand pG l eG _ _ mG _ belowG methG cG T110 LL 3 40 ∧ Fr n0 LL := ⟨_, X110, N110⟩
  refine ob T110 (mkF mG 24 #[oi i0, oi i1, oi i2, oi i3, oi i4, oa b1, .unset, .unset, .unset, .unset, .unset, .unset] [(.int i0_110), (.int (1 : Int32)), (.ref b1)]) (fun _ kk => st110 _ kk) ?_
  refine oSc X110 hx hby hZ e110 (V109.keep K110q nin0) ⟨by decide, by decide⟩ 1 i0_110 (own_nar i0_110 F110_0) at_24 O110 K110 N110 n_b1 (Or.inr sz_b1) 25 ?_
  intro T112 h112 L112 X112 e112 W112 V112 O112 K112 N112
  have CS112 : CHr Z oEL sG.vm h110 sG.vm h112 := CHr.wr W112 (Safe.arv hZ.alike (V109.keep K110q nin0) (by decide)) CR110.1
  have CR112 := CR110.trans CS112
  refine uA2 X112 hx hby at_25 rfl 27 (uC X112 hx hby at_27 2 28 (uI X112 hx hby at_28 rfl 29 ?_))
  obtain ⟨_, _, ⟨T113, L113, k113, n113⟩, -, X113, ⟨Lc113, hQ113, l113, y113, z113⟩, st113⟩ := Jvm.LawKit.callS X112 hx (y := (⟨sW, "ch", "(I)C"⟩ : MethodName)) hown (mvT hZ (ow hw 1 rfl)) (mvT hZ (ow hw 2 rfl)) (mvT hZ (ow hw 3 rfl)) (mvT hZ (ow hw 4 rfl)) (by decide) (backOf (W := 2) (rm_ch i1 ⟨hw, O112, hS⟩ ) hZ (ow hw 4 rfl) (ow hw 3 rfl) (by decide) (by decide)) (g := (mkF mG 29 #[oi i0, oi i1, oi i2, oi i3, oi i4, oa b1, .unset, .unset, .unset, .unset, .unset, .unset] [(.int i1), (.int (2 : Int32)), (.ref b1)])) rfl (by rw [hml]; rfl) (argsL := [(.int i1)]) (rest := [(.int (2 : Int32)), (.ref b1)]) (lenOf pd_9 rfl) rfl (by show 2 * 0 + _ ≤ _; exact Nat.le_of_eq rfl) (hb hby at_29) (fun _ _ => ⟨rfl, e112, (by decide : 3 + 1 ≤ _), (by decide : 40 + 16 ≤ _)⟩)
  dsimp only [Pt.U, Pt.locs, Pt.cells, Pt.slots] at X113 l113 y113 z113 st113 hQ113
  subst l113 y113 z113
  obtain ⟨h113, e113⟩ : ∃ h, T113.heap = h := ⟨_, rfl⟩
  rw [e113] at hQ113
  obtain ⟨i0_113, rfl, N113q, K113q, O113, F113_0⟩ := hQ113
  have N113 := Fr.app N112 N113q
  have K113 := K112.trans K113q all0
  have CS113 : CHr Z oEL sG.vm h112 sG.vm h113 := CHr.keep K113q sf0 CR112.1
  have CR113 := CR112.trans CS113
  obtain ⟨LL114, X113, N113⟩ : ∃ LL, Stand pG l eG _ _ mG _ belowG methG cG T113 LL 4 56 ∧ Fr n0 LL := ⟨_, X113, N113⟩
  refine ob T113 (mkF mG 32 #[oi i0, oi i1, oi i2, oi i3, oi i4, oa b1, .unset, .unset, .unset, .unset, .unset, .unset] [(.int i0_113), (.int (2 : Int32)), (.ref b1)]) (fun _ kk => st113 _ kk) ?_
  refine oSc X113 hx hby hZ e113 (V112.keep K113q nin0) ⟨by decide, by decide⟩ 2 i0_113 (own_nar i0_113 F113_0) at_32 O113 K113 N113 n_b1 (Or.inr sz_b1) 33 ?_
  intro T115 h115 L115 X115 e115 W115 V115 O115 K115 N115
  have CS115 : CHr Z oEL sG.vm h113 sG.vm h115 := CHr.wr W115 (Safe.arv hZ.alike (V112.keep K113q nin0) (by decide)) CR113.1
  have CR115 := CR113.trans CS115
  refine uA2 X115 hx hby at_33 rfl 35 (uC X115 hx hby at_35 3 36 (uI X115 hx hby at_36 rfl 37 (uB X115 hx hby at_37 16 39 ?_)))
  refine ob T115 (mkF mG 40 #[oi i0, oi i1, oi i2, oi i3, oi i4, oa b1, .unset, .unset, .unset, .unset, .unset, .unset] [(.int ((i1.toUInt32 >>> ((16 : Int32) &&& 31).toUInt32).toInt32)), (.int (3 : Int32)), (.ref b1)]) (fun _ kk => XS.iushr X115.here hx rfl (hb hby at_39) rfl kk) ?_
  obtain ⟨_, _, ⟨T116, L116, k116, n116⟩, -, X116, ⟨Lc116, hQ116, l116, y116, z116⟩, st116⟩ := Jvm.LawKit.callS X115 hx (y := (⟨sW, "ch", "(I)C"⟩ : MethodName)) hown (mvT hZ (ow hw 1 rfl)) (mvT hZ (ow hw 2 rfl)) (mvT hZ (ow hw 3 rfl)) (mvT hZ (ow hw 4 rfl)) (by decide) (backOf (W := 2) (rm_ch ((i1.toUInt32 >>> ((16 : Int32) &&& 31).toUInt32).toInt32) ⟨hw, O115, hS⟩ ) hZ (ow hw 4 rfl) (ow hw 3 rfl) (by decide) (by decide)) (g := (mkF mG 40 #[oi i0, oi i1, oi i2, oi i3, oi i4, oa b1, .unset, .unset, .unset, .unset, .unset, .unset] [(.int ((i1.toUInt32 >>> ((16 : Int32) &&& 31).toUInt32).toInt32)), (.int (3 : Int32)), (.ref b1)])) rfl (by rw [hml]; rfl) (argsL := [(.int ((i1.toUInt32 >>> ((16 : Int32) &&& 31).toUInt32).toInt32))]) (rest := [(.int (3 : Int32)), (.ref b1)]) (lenOf pd_9 rfl) rfl (by show 2 * 0 + _ ≤ _; exact Nat.le_of_eq rfl) (hb hby at_40) (fun _ _ => ⟨rfl, e115, (by decide : 4 + 1 ≤ _), (by decide : 56 + 16 ≤ _)⟩)
  dsimp only [Pt.U, Pt.locs, Pt.cells, Pt.slots] at X116 l116 y116 z116 st116 hQ116
  subst l116 y116 z116
  obtain ⟨h116, e116⟩ : ∃ h, T116.heap = h := ⟨_, rfl⟩
  rw [e116] at hQ116
  obtain ⟨i0_116, rfl, N116q, K116q, O116, F116_0⟩ := hQ116
  have N116 := Fr.app N115 N116q
  have K116 := K115.trans K116q all0
  have CS116 : CHr Z oEL sG.vm h115 sG.vm h116 := CHr.keep K116q sf0 CR115.1
  have CR116 := CR115.trans CS116
  obtain ⟨LL117, X116, N116⟩ : ∃ LL, Stand pG l eG _ _ mG _ belowG methG cG T116 LL 5 72 ∧ Fr n0 LL := ⟨_, X116, N116⟩
  refine ob T116 (mkF mG 43 #[oi i0, oi i1, oi i2, oi i3, oi i4, oa b1, .unset, .unset, .unset, .unset, .unset, .unset] [(.int i0_116), (.int (3 : Int32)), (.ref b1)]) (fun _ kk => st116 _ kk) ?_
  refine oSc X116 hx hby hZ e116 (V115.keep K116q nin0) ⟨by decide, by decide⟩ 3 i0_116 (own_nar i0_116 F116_0) at_43 O116 K116 N116 n_b1 (Or.inr sz_b1) 44 ?_
  intro T118 h118 L118 X118 e118 W118 V118 O118 K118 N118
  have CS118 : CHr Z oEL sG.vm h116 sG.vm h118 := CHr.wr W118 (Safe.arv hZ.alike (V115.keep K116q nin0) (by decide)) CR116.1
  have CR118 := CR116.trans CS118
  refine uA2 X118 hx hby at_44 rfl 46 (uC X118 hx hby at_46 4 47 (uI X118 hx hby at_47 rfl 48 ?_))
  obtain ⟨_, _, ⟨T119, L119, k119, n119⟩, -, X119, ⟨Lc119, hQ119, l119, y119, z119⟩, st119⟩ := Jvm.LawKit.callS X118 hx (y := (⟨sW, "ch", "(I)C"⟩ : MethodName)) hown (mvT hZ (ow hw 1 rfl)) (mvT hZ (ow hw 2 rfl)) (mvT hZ (ow hw 3 rfl)) (mvT hZ (ow hw 4 rfl)) (by decide) (backOf (W := 2) (rm_ch i2 ⟨hw, O118, hS⟩ ) hZ (ow hw 4 rfl) (ow hw 3 rfl) (by decide) (by decide)) (g := (mkF mG 48 #[oi i0, oi i1, oi i2, oi i3, oi i4, oa b1, .unset, .unset, .unset, .unset, .unset, .unset] [(.int i2), (.int (4 : Int32)), (.ref b1)])) rfl (by rw [hml]; rfl) (argsL := [(.int i2)]) (rest := [(.int (4 : Int32)), (.ref b1)]) (lenOf pd_9 rfl) rfl (by show 2 * 0 + _ ≤ _; exact Nat.le_of_eq rfl) (hb hby at_48) (fun _ _ => ⟨rfl, e118, (by decide : 5 + 1 ≤ _), (by decide : 72 + 16 ≤ _)⟩)
  dsimp only [Pt.U, Pt.locs, Pt.cells, Pt.slots] at X119 l119 y119 z119 st119 hQ119
  subst l119 y119 z119
  obtain ⟨h119, e119⟩ : ∃ h, T119.heap = h := ⟨_, rfl⟩
  rw [e119] at hQ119
  obtain ⟨i0_119, rfl, N119q, K119q, O119, F119_0⟩ := hQ119
  have N119 := Fr.app N118 N119q
  have K119 := K118.trans K119q all0
  have CS119 : CHr Z oEL sG.vm h118 sG.vm h119 := CHr.keep K119q sf0 CR118.1
  have CR119 := CR118.trans CS119
  obtain ⟨LL120, X119, N119⟩ : ∃ LL, Stand pG l eG _ _ mG _ belowG methG cG T119 LL 6 88 ∧ Fr n0 LL := ⟨_, X119, N119⟩
  refine ob T119 (mkF mG 51 #[oi i0, oi i1, oi i2, oi i3, oi i4, oa b1, .unset, .unset, .unset, .unset, .unset, .unset] [(.int i0_119), (.int (4 : Int32)), (.ref b1)]) (fun _ kk => st119 _ kk) ?_
  refine oSc X119 hx hby hZ e119 (V118.keep K119q nin0) ⟨by decide, by decide⟩ 4 i0_119 (own_nar i0_119 F119_0) at_51 O119 K119 N119 n_b1 (Or.inr sz_b1) 52 ?_
  intro T121 h121 L121 X121 e121 W121 V121 O121 K121 N121
  have CS121 : CHr Z oEL sG.vm h119 sG.vm h121 := CHr.wr W121 (Safe.arv hZ.alike (V118.keep K119q nin0) (by decide)) CR119.1
  have CR121 := CR119.trans CS121
  refine uA2 X121 hx hby at_52 rfl 54 (uC X121 hx hby at_54 5 55 (uI X121 hx hby at_55 rfl 56 (uB X121 hx hby at_56 16 58 ?_)))
  refine ob T121 (mkF mG 59 #[oi i0, oi i1, oi i2, oi i3, oi i4, oa b1, .unset, .unset, .unset, .unset, .unset, .unset] [(.int ((i2.toUInt32 >>> ((16 : Int32) &&& 31).toUInt32).toInt32)), (.int (5 : Int32)), (.ref b1)]) (fun _ kk => XS.iushr X121.here hx rfl (hb hby at_58) rfl kk) ?_
  obtain ⟨_, _, ⟨T122, L122, k122, n122⟩, -, X122, ⟨Lc122, hQ122, l122, y122, z122⟩, st122⟩ := Jvm.LawKit.callS X121 hx (y := (⟨sW, "ch", "(I)C"⟩ : MethodName)) hown (mvT hZ (ow hw 1 rfl)) (mvT hZ (ow hw 2 rfl)) (mvT hZ (ow hw 3 rfl)) (mvT hZ (ow hw 4 rfl)) (by decide) (backOf (W := 2) (rm_ch ((i2.toUInt32 >>> ((16 : Int32) &&& 31).toUInt32).toInt32) ⟨hw, O121, hS⟩ ) hZ (ow hw 4 rfl) (ow hw 3 rfl) (by decide) (by decide)) (g := (mkF mG 59 #[oi i0, oi i1, oi i2, oi i3, oi i4, oa b1, .unset, .unset, .unset, .unset, .unset, .unset] [(.int ((i2.toUInt32 >>> ((16 : Int32) &&& 31).toUInt32).toInt32)), (.int (5 : Int32)), (.ref b1)])) rfl (by rw [hml]; rfl) (argsL := [(.int ((i2.toUInt32 >>> ((16 : Int32) &&& 31).toUInt32).toInt32))]) (rest := [(.int (5 : Int32)), (.ref b1)]) (lenOf pd_9 rfl) rfl (by show 2 * 0 + _ ≤ _; exact Nat.le_of_eq rfl) (hb hby at_59) (fun _ _ => ⟨rfl, e121, (by decide : 6 + 1 ≤ _), (by decide : 88 + 16 ≤ _)⟩)
  dsimp only [Pt.U, Pt.locs, Pt.cells, Pt.slots] at X122 l122 y122 z122 st122 hQ122
  subst l122 y122 z122
  obtain ⟨h122, e122⟩ : ∃ h, T122.heap = h := ⟨_, rfl⟩
  rw [e122] at hQ122
  obtain ⟨i0_122, rfl, N122q, K122q, O122, F122_0⟩ := hQ122
  have N122 := Fr.app N121 N122q
  have K122 := K121.trans K122q all0
  have CS122 : CHr Z oEL sG.vm h121 sG.vm h122 := CHr.keep K122q sf0 CR121.1
  have CR122 := CR121.trans CS122
  obtain ⟨LL123, X122, N122⟩ : ∃ LL, Stand pG l eG _ _ mG _ belowG methG cG T122 LL 7 104 ∧ Fr n0 LL := ⟨_, X122, N122⟩
  refine ob T122 (mkF mG 62 #[oi i0, oi i1, oi i2, oi i3, oi i4, oa b1, .unset, .unset, .unset, .unset, .unset, .unset] [(.int i0_122), (.int (5 : Int32)), (.ref b1)]) (fun _ kk => st122 _ kk) ?_
  refine oSc X122 hx hby hZ e122 (V121.keep K122q nin0) ⟨by decide, by decide⟩ 5 i0_122 (own_nar i0_122 F122_0) at_62 O122 K122 N122 n_b1 (Or.inr sz_b1) 63 ?_
  intro T124 h124 L124 X124 e124 W124 V124 O124 K124 N124
  have CS124 : CHr Z oEL sG.vm h122 sG.vm h124 := CHr.wr W124 (Safe.arv hZ.alike (V121.keep K122q nin0) (by decide)) CR122.1
  have CR124 := CR122.trans CS124
  refine uA2 X124 hx hby at_63 rfl 65 (uB X124 hx hby at_65 6 67 (uI X124 hx hby at_67 rfl 68 ?_))
  obtain ⟨_, _, ⟨T125, L125, k125, n125⟩, -, X125, ⟨Lc125, hQ125, l125, y125, z125⟩, st125⟩ := Jvm.LawKit.callS X124 hx (y := (⟨sW, "ch", "(I)C"⟩ : MethodName)) hown (mvT hZ (ow hw 1 rfl)) (mvT hZ (ow hw 2 rfl)) (mvT hZ (ow hw 3 rfl)) (mvT hZ (ow hw 4 rfl)) (by decide) (backOf (W := 2) (rm_ch i3 ⟨hw, O124, hS⟩ ) hZ (ow hw 4 rfl) (ow hw 3 rfl) (by decide) (by decide)) (g := (mkF mG 68 #[oi i0, oi i1, oi i2, oi i3, oi i4, oa b1, .unset, .unset, .unset, .unset, .unset, .unset] [(.int i3), (.int (6 : Int32)), (.ref b1)])) rfl (by rw [hml]; rfl) (argsL := [(.int i3)]) (rest := [(.int (6 : Int32)), (.ref b1)]) (lenOf pd_9 rfl) rfl (by show 2 * 0 + _ ≤ _; exact Nat.le_of_eq rfl) (hb hby at_68) (fun _ _ => ⟨rfl, e124, (by decide : 7 + 1 ≤ _), (by decide : 104 + 16 ≤ _)⟩)
  dsimp only [Pt.U, Pt.locs, Pt.cells, Pt.slots] at X125 l125 y125 z125 st125 hQ125
  subst l125 y125 z125
  obtain ⟨h125, e125⟩ : ∃ h, T125.heap = h := ⟨_, rfl⟩
  rw [e125] at hQ125
  obtain ⟨i0_125, rfl, N125q, K125q, O125, F125_0⟩ := hQ125
  have N125 := Fr.app N124 N125q
  have K125 := K124.trans K125q all0
  have CS125 : CHr Z oEL sG.vm h124 sG.vm h125 := CHr.keep K125q sf0 CR124.1
  have CR125 := CR124.trans CS125
  obtain ⟨LL126, X125, N125⟩ : ∃ LL, Stand pG l eG _ _ mG _ belowG methG cG T125 LL 8 120 ∧ Fr n0 LL := ⟨_, X125, N125⟩
  refine ob T125 (mkF mG 71 #[oi i0, oi i1, oi i2, oi i3, oi i4, oa b1, .unset, .unset, .unset, .unset, .unset, .unset] [(.int i0_125), (.int (6 : Int32)), (.ref b1)]) (fun _ kk => st125 _ kk) ?_
  refine oSc X125 hx hby hZ e125 (V124.keep K125q nin0) ⟨by decide, by decide⟩ 6 i0_125 (own_nar i0_125 F125_0) at_71 O125 K125 N125 n_b1 (Or.inr sz_b1) 72 ?_
  intro T127 h127 L127 X127 e127 W127 V127 O127 K127 N127
  have CS127 : CHr Z oEL sG.vm h125 sG.vm h127 := CHr.wr W127 (Safe.arv hZ.alike (V124.keep K125q nin0) (by decide)) CR125.1
  have CR127 := CR125.trans CS127
  refine uA2 X127 hx hby at_72 rfl 74 (uB X127 hx hby at_74 7 76 (uI X127 hx hby at_76 rfl 77 (uB X127 hx hby at_77 16 79 ?_)))
  refine ob T127 (mkF mG 80 #[oi i0, oi i1, oi i2, oi i3, oi i4, oa b1, .unset, .unset, .unset, .unset, .unset, .unset] [(.int ((i3.toUInt32 >>> ((16 : Int32) &&& 31).toUInt32).toInt32)), (.int (7 : Int32)), (.ref b1)]) (fun _ kk => XS.iushr X127.here hx rfl (hb hby at_79) rfl kk) ?_
  obtain ⟨_, _, ⟨T128, L128, k128, n128⟩, -, X128, ⟨Lc128, hQ128, l128, y128, z128⟩, st128⟩ := Jvm.LawKit.callS X127 hx (y := (⟨sW, "ch", "(I)C"⟩ : MethodName)) hown (mvT hZ (ow hw 1 rfl)) (mvT hZ (ow hw 2 rfl)) (mvT hZ (ow hw 3 rfl)) (mvT hZ (ow hw 4 rfl)) (by decide) (backOf (W := 2) (rm_ch ((i3.toUInt32 >>> ((16 : Int32) &&& 31).toUInt32).toInt32) ⟨hw, O127, hS⟩ ) hZ (ow hw 4 rfl) (ow hw 3 rfl) (by decide) (by decide)) (g := (mkF mG 80 #[oi i0, oi i1, oi i2, oi i3, oi i4, oa b1, .unset, .unset, .unset, .unset, .unset, .unset] [(.int ((i3.toUInt32 >>> ((16 : Int32) &&& 31).toUInt32).toInt32)), (.int (7 : Int32)), (.ref b1)])) rfl (by rw [hml]; rfl) (argsL := [(.int ((i3.toUInt32 >>> ((16 : Int32) &&& 31).toUInt32).toInt32))]) (rest := [(.int (7 : Int32)), (.ref b1)]) (lenOf pd_9 rfl) rfl (by show 2 * 0 + _ ≤ _; exact Nat.le_of_eq rfl) (hb hby at_80) (fun _ _ => ⟨rfl, e127, (by decide : 8 + 1 ≤ _), (by decide : 120 + 16 ≤ _)⟩)
  dsimp only [Pt.U, Pt.locs, Pt.cells, Pt.slots] at X128 l128 y128 z128 st128 hQ128
  subst l128 y128 z128
  obtain ⟨h128, e128⟩ : ∃ h, T128.heap = h := ⟨_, rfl⟩
  rw [e128] at hQ128
  obtain ⟨i0_128, rfl, N128q, K128q, O128, F128_0⟩ := hQ128
  have N128 := Fr.app N127 N128q
  have K128 := K127.trans K128q all0
  have CS128 : CHr Z oEL sG.vm h127 sG.vm h128 := CHr.keep K128q sf0 CR127.1
  have CR128 := CR127.trans CS128
  obtain ⟨LL129, X128, N128⟩ : ∃ LL, Stand pG l eG _ _ mG _ belowG methG cG T128 LL 9 136 ∧ Fr n0 LL := ⟨_, X128, N128⟩
  refine ob T128 (mkF mG 83 #[oi i0, oi i1, oi i2, oi i3, oi i4, oa b1, .unset, .unset, .unset, .unset, .unset, .unset] [(.int i0_128), (.int (7 : Int32)), (.ref b1)]) (fun _ kk => st128 _ kk) ?_
  refine oSc X128 hx hby hZ e128 (V127.keep K128q nin0) ⟨by decide, by decide⟩ 7 i0_128 (own_nar i0_128 F128_0) at_83 O128 K128 N128 n_b1 (Or.inr sz_b1) 84 ?_
  intro T130 h130 L130 X130 e130 W130 V130 O130 K130 N130
  have CS130 : CHr Z oEL sG.vm h128 sG.vm h130 := CHr.wr W130 (Safe.arv hZ.alike (V127.keep K128q nin0) (by decide)) CR128.1
  have CR130 := CR128.trans CS130
  refine uI2 X130 hx hby at_84 rfl 86 (uC X130 hx hby at_86 1 87 (uAnd X130 hx hby at_87 88 ?_))
  by_cases hc131 : (i4 &&& (1 : Int32)) = (0 : Int32)
  · refine uY X130 hx hby at_88 ((if0 _ _).trans (teq hc131).1) 171 (uI2 X130 hx hby at_171 rfl 173 (uB X130 hx hby at_173 32 175 (uAnd X130 hx hby at_175 176 ?_)))
    by_cases hc132 : (i4 &&& (32 : Int32)) = (0 : Int32)
    · refine uY X130 hx hby at_176 ((if0 _ _).trans (teq hc132).1) 192 ?_
      exact J192 T130 h130 _ i0_107 i0_110 i0_113 i0_116 i0_119 i0_122 i0_125 i0_128 X130 N130 e130 CR130 O130 K130 V130 F107_0 F110_0 F113_0 F116_0 F119_0 F122_0 F125_0 F128_0
    refine uN X130 hx hby at_176 ((if0 _ _).trans (feq hc132).1) 179 (uA2 X130 hx hby at_179 rfl 181 (uI2 X130 hx hby at_181 rfl 183 (uB X130 hx hby at_183 6 185 ?_)))
    refine ob T130 (mkF mG 186 #[oi i0, oi i1, oi i2, oi i3, oi i4, oa b1, .unset, .unset, .unset, .unset, .unset, .unset] [(.int ((i4.toUInt32 >>> ((6 : Int32) &&& 31).toUInt32).toInt32)), (.ref b1)]) (fun _ kk => XS.iushr X130.here hx rfl (hb hby at_185) rfl kk) ?_
    refine uB X130 hx hby at_186 7 188 (uAnd X130 hx hby at_188 189 ?_)
    obtain ⟨jx, ejx, hjx⟩ := own_a7 ((i4.toUInt32 >>> ((6 : Int32) &&& 31).toUInt32).toInt32)
    rw [ejx]
    rcases hjx with rfl | rfl | rfl | rfl | rfl | rfl | rfl | rfl
    · show oGo pG eG belowG _ T130 (mkF mG 189 #[oi i0, oi i1, oi i2, oi i3, oi i4, oa b1, .unset, .unset, .unset, .unset, .unset, .unset] [(.int (0 : Int32)), (.ref b1)])
      refine uB X130 hx hby at_189 58 191 ?_
      refine oSc X130 hx hby hZ e130 V130 ⟨by decide, by decide⟩ 0 (58 : Int32) rfl at_191 O130 K130 N130 n_b1 (Or.inr sz_b1) 192 ?_
      intro T133 h133 L133 X133 e133 W133 V133 O133 K133 N133
      have CS133 : CHr Z oEL sG.vm h130 sG.vm h133 := CHr.wr W133 (Safe.arv hZ.alike V130 (by decide)) CR130.1
      have CR133 := CR130.trans CS133
      exact J192 T133 h133 _ (58 : Int32) i0_110 i0_113 i0_116 i0_119 i0_122 i0_125 i0_128 X133 N133 e133 CR133 O133 K133 V133 ⟨by decide, by decide⟩ F110_0 F113_0 F116_0 F119_0 F122_0 F125_0 F128_0
    · show oGo pG eG belowG _ T130 (mkF mG 189 #[oi i0, oi i1, oi i2, oi i3, oi i4, oa b1, .unset, .unset, .unset, .unset, .unset, .unset] [(.int (1 : Int32)), (.ref b1)])
      refine uB X130 hx hby at_189 58 191 ?_
      refine oSc X130 hx hby hZ e130 V130 ⟨by decide, by decide⟩ 1 (58 : Int32) rfl at_191 O130 K130 N130 n_b1 (Or.inr sz_b1) 192 ?_
      intro T134 h134 L134 X134 e134 W134 V134 O134 K134 N134
      have CS134 : CHr Z oEL sG.vm h130 sG.vm h134 := CHr.wr W134 (Safe.arv hZ.alike V130 (by decide)) CR130.1
      have CR134 := CR130.trans CS134
      exact J192 T134 h134 _ i0_107 (58 : Int32) i0_113 i0_116 i0_119 i0_122 i0_125 i0_128 X134 N134 e134 CR134 O134 K134 V134 F107_0 ⟨by decide, by decide⟩ F113_0 F116_0 F119_0 F122_0 F125_0 F128_0
    · show oGo pG eG belowG _ T130 (mkF mG 189 #[oi i0, oi i1, oi i2, oi i3, oi i4, oa b1, .unset, .unset, .unset, .unset, .unset, .unset] [(.int (2 : Int32)), (.ref b1)])
      refine uB X130 hx hby at_189 58 191 ?_
      refine oSc X130 hx hby hZ e130 V130 ⟨by decide, by decide⟩ 2 (58 : Int32) rfl at_191 O130 K130 N130 n_b1 (Or.inr sz_b1) 192 ?_
      intro T135 h135 L135 X135 e135 W135 V135 O135 K135 N135
      have CS135 : CHr Z oEL sG.vm h130 sG.vm h135 := CHr.wr W135 (Safe.arv hZ.alike V130 (by decide)) CR130.1
      have CR135 := CR130.trans CS135
      exact J192 T135 h135 _ i0_107 i0_110 (58 : Int32) i0_116 i0_119 i0_122 i0_125 i0_128 X135 N135 e135 CR135 O135 K135 V135 F107_0 F110_0 ⟨by decide, by decide⟩ F116_0 F119_0 F122_0 F125_0 F128_0
    · show oGo pG eG belowG _ T130 (mkF mG 189 #[oi i0, oi i1, oi i2, oi i3, oi i4, oa b1, .unset, .unset, .unset, .unset, .unset, .unset] [(.int (3 : Int32)), (.ref b1)])
      refine uB X130 hx hby at_189 58 191 ?_
      refine oSc X130 hx hby hZ e130 V130 ⟨by decide, by decide⟩ 3 (58 : Int32) rfl at_191 O130 K130 N130 n_b1 (Or.inr sz_b1) 192 ?_
      intro T136 h136 L136 X136 e136 W136 V136 O136 K136 N136
      have CS136 : CHr Z oEL sG.vm h130 sG.vm h136 := CHr.wr W136 (Safe.arv hZ.alike V130 (by decide)) CR130.1
      have CR136 := CR130.trans CS136
      exact J192 T136 h136 _ i0_107 i0_110 i0_113 (58 : Int32) i0_119 i0_122 i0_125 i0_128 X136 N136 e136 CR136 O136 K136 V136 F107_0 F110_0 F113_0 ⟨by decide, by decide⟩ F119_0 F122_0 F125_0 F128_0
    · show oGo pG eG belowG _ T130 (mkF mG 189 #[oi i0, oi i1, oi i2, oi i3, oi i4, oa b1, .unset, .unset, .unset, .unset, .unset, .unset] [(.int (4 : Int32)), (.ref b1)])
      refine uB X130 hx hby at_189 58 191 ?_
      refine oSc X130 hx hby hZ e130 V130 ⟨by decide, by decide⟩ 4 (58 : Int32) rfl at_191 O130 K130 N130 n_b1 (Or.inr sz_b1) 192 ?_
      intro T137 h137 L137 X137 e137 W137 V137 O137 K137 N137
      have CS137 : CHr Z oEL sG.vm h130 sG.vm h137 := CHr.wr W137 (Safe.arv hZ.alike V130 (by decide)) CR130.1
      have CR137 := CR130.trans CS137
      exact J192 T137 h137 _ i0_107 i0_110 i0_113 i0_116 (58 : Int32) i0_122 i0_125 i0_128 X137 N137 e137 CR137 O137 K137 V137 F107_0 F110_0 F113_0 F116_0 ⟨by decide, by decide⟩ F122_0 F125_0 F128_0
    · show oGo pG eG belowG _ T130 (mkF mG 189 #[oi i0, oi i1, oi i2, oi i3, oi i4, oa b1, .unset, .unset, .unset, .unset, .unset, .unset] [(.int (5 : Int32)), (.ref b1)])
      refine uB X130 hx hby at_189 58 191 ?_
      refine oSc X130 hx hby hZ e130 V130 ⟨by decide, by decide⟩ 5 (58 : Int32) rfl at_191 O130 K130 N130 n_b1 (Or.inr sz_b1) 192 ?_
      intro T138 h138 L138 X138 e138 W138 V138 O138 K138 N138
      have CS138 : CHr Z oEL sG.vm h130 sG.vm h138 := CHr.wr W138 (Safe.arv hZ.alike V130 (by decide)) CR130.1
      have CR138 := CR130.trans CS138
      exact J192 T138 h138 _ i0_107 i0_110 i0_113 i0_116 i0_119 (58 : Int32) i0_125 i0_128 X138 N138 e138 CR138 O138 K138 V138 F107_0 F110_0 F113_0 F116_0 F119_0 ⟨by decide, by decide⟩ F125_0 F128_0
    · show oGo pG eG belowG _ T130 (mkF mG 189 #[oi i0, oi i1, oi i2, oi i3, oi i4, oa b1, .unset, .unset, .unset, .unset, .unset, .unset] [(.int (6 : Int32)), (.ref b1)])
      refine uB X130 hx hby at_189 58 191 ?_
      refine oSc X130 hx hby hZ e130 V130 ⟨by decide, by decide⟩ 6 (58 : Int32) rfl at_191 O130 K130 N130 n_b1 (Or.inr sz_b1) 192 ?_
      intro T139 h139 L139 X139 e139 W139 V139 O139 K139 N139
      have CS139 : CHr Z oEL sG.vm h130 sG.vm h139 := CHr.wr W139 (Safe.arv hZ.alike V130 (by decide)) CR130.1
      have CR139 := CR130.trans CS139
      exact J192 T139 h139 _ i0_107 i0_110 i0_113 i0_116 i0_119 i0_122 (58 : Int32) i0_128 X139 N139 e139 CR139 O139 K139 V139 F107_0 F110_0 F113_0 F116_0 F119_0 F122_0 ⟨by decide, by decide⟩ F128_0
    · show oGo pG eG belowG _ T130 (mkF mG 189 #[oi i0, oi i1, oi i2, oi i3, oi i4, oa b1, .unset, .unset, .unset, .unset, .unset, .unset] [(.int (7 : Int32)), (.ref b1)])
      refine uB X130 hx hby at_189 58 191 ?_
      refine oSc X130 hx hby hZ e130 V130 ⟨by decide, by decide⟩ 7 (58 : Int32) rfl at_191 O130 K130 N130 n_b1 (Or.inr sz_b1) 192 ?_
      intro T140 h140 L140 X140 e140 W140 V140 O140 K140 N140
      have CS140 : CHr Z oEL sG.vm h130 sG.vm h140 := CHr.wr W140 (Safe.arv hZ.alike V130 (by decide)) CR130.1
      have CR140 := CR130.trans CS140
      exact J192 T140 h140 _ i0_107 i0_110 i0_113 i0_116 i0_119 i0_122 i0_125 (58 : Int32) X140 N140 e140 CR140 O140 K140 V140 F107_0 F110_0 F113_0 F116_0 F119_0 F122_0 F125_0 ⟨by decide, by decide⟩
  refine uN X130 hx hby at_88 ((if0 _ _).trans (feq hc131).1) 91 (uA2 X130 hx hby at_91 rfl 93 (uC X130 hx hby at_93 0 94 ?_))
  refine omerge (A := fun zz => oRg zz) (g' := fun zz => (mkF mG 108 #[oi i0, oi i1, oi i2, oi i3, oi i4, oa b1, .unset, .unset, .unset, .unset, .unset, .unset] [(.int zz), (.int (0 : Int32)), (.ref b1)])) ?_ (fun zA rzA => ?_)
  · refine om (g1 := (mkF mG 96 #[oi i0, oi i1, oi i2, oi i3, oi i4, oa b1, .unset, .unset, .unset, .unset, .unset, .unset] [(.int i4), (.int (0 : Int32)), (.ref b1)])) (fun _ kk => XS.iload X130.here hx rfl (hb hby at_94) rfl kk) ?_
    refine om (g1 := (mkF mG 97 #[oi i0, oi i1, oi i2, oi i3, oi i4, oa b1, .unset, .unset, .unset, .unset, .unset, .unset] [(.int (2 : Int32)), (.int i4), (.int (0 : Int32)), (.ref b1)])) (fun _ kk => XS.iconst X130.here hx rfl (hb hby at_96) kk) ?_
    refine om (g1 := (mkF mG 98 #[oi i0, oi i1, oi i2, oi i3, oi i4, oa b1, .unset, .unset, .unset, .unset, .unset, .unset] [(.int (i4 &&& (2 : Int32))), (.int (0 : Int32)), (.ref b1)])) (fun _ kk => XS.iand X130.here hx rfl (hb hby at_97) rfl kk) ?_
    by_cases hc141 : (i4 &&& (2 : Int32)) = (0 : Int32)
    · refine om (g1 := (mkF mG 106 #[oi i0, oi i1, oi i2, oi i3, oi i4, oa b1, .unset, .unset, .unset, .unset, .unset, .unset] [(.int (0 : Int32)), (.ref b1)])) (fun _ kk => XS.ifYes X130.here hx rfl (pc0 := 98) (pc' := 106) rfl (hb hby at_98) rfl ((if0 _ _).trans (teq hc141).1) (by decide) (by decide) kk) ?_
      refine om (g1 := (mkF mG 108 #[oi i0, oi i1, oi i2, oi i3, oi i4, oa b1, .unset, .unset, .unset, .unset, .unset, .unset] [(.int (106 : Int32)), (.int (0 : Int32)), (.ref b1)])) (fun _ kk => XS.bipush X130.here hx rfl (hb hby at_106) kk) ?_
      exact ⟨(106 : Int32), ⟨by decide, by decide⟩, fun _ kk => kk⟩
    refine om (g1 := (mkF mG 101 #[oi i0, oi i1, oi i2, oi i3, oi i4, oa b1, .unset, .unset, .unset, .unset, .unset, .unset] [(.int (0 : Int32)), (.ref b1)])) (fun _ kk => XS.ifNo X130.here hx rfl (hb hby at_98) rfl ((if0 _ _).trans (feq hc141).1) kk) ?_
    refine om (g1 := (mkF mG 103 #[oi i0, oi i1, oi i2, oi i3, oi i4, oa b1, .unset, .unset, .unset, .unset, .unset, .unset] [(.int (74 : Int32)), (.int (0 : Int32)), (.ref b1)])) (fun _ kk => XS.bipush X130.here hx rfl (hb hby at_101) kk) ?_
    refine om (g1 := (mkF mG 108 #[oi i0, oi i1, oi i2, oi i3, oi i4, oa b1, .unset, .unset, .unset, .unset, .unset, .unset] [(.int (74 : Int32)), (.int (0 : Int32)), (.ref b1)])) (fun _ kk => XS.goto X130.here hx rfl (pc0 := 103) (pc' := 108) rfl (hb hby at_103) (by decide) (by decide) kk) ?_
    exact ⟨(74 : Int32), ⟨by decide, by decide⟩, fun _ kk => kk⟩
  show oGo pG eG belowG _ T130 (mkF mG 108 #[oi i0, oi i1, oi i2, oi i3, oi i4, oa b1, .unset, .unset, .unset, .unset, .unset, .unset] [(.int zA), (.int (0 : Int32)), (.ref b1)])
  refine oSc X130 hx hby hZ e130 V130 ⟨by decide, by decide⟩ 0 zA (own_nar zA rzA) at_108 O130 K130 N130 n_b1 (Or.inr sz_b1) 109 ?_
  intro T142 h142 L142 X142 e142 W142 V142 O142 K142 N142
  have CS142 : CHr Z oEL sG.vm h130 sG.vm h142 := CHr.wr W142 (Safe.arv hZ.alike V130 (by decide)) CR130.1
  have CR142 := CR130.trans CS142
  refine uA2 X142 hx hby at_109 rfl 111 (uC X142 hx hby at_111 1 112 ?_)
  refine omerge (A := fun zz => oRg zz) (g' := fun zz => (mkF mG 126 #[oi i0, oi i1, oi i2, oi i3, oi i4, oa b1, .unset, .unset, .unset, .unset, .unset, .unset] [(.int zz), (.int (1 : Int32)), (.ref b1)])) ?_ (fun zB rzB => ?_)
  · refine om (g1 := (mkF mG 114 #[oi i0, oi i1, oi i2, oi i3, oi i4, oa b1, .unset, .unset, .unset, .unset, .unset, .unset] [(.int i4), (.int (1 : Int32)), (.ref b1)])) (fun _ kk => XS.iload X142.here hx rfl (hb hby at_112) rfl kk) ?_
    refine om (g1 := (mkF mG 115 #[oi i0, oi i1, oi i2, oi i3, oi i4, oa b1, .unset, .unset, .unset, .unset, .unset, .unset] [(.int (4 : Int32)), (.int i4), (.int (1 : Int32)), (.ref b1)])) (fun _ kk => XS.iconst X142.here hx rfl (hb hby at_114) kk) ?_
    refine om (g1 := (mkF mG 116 #[oi i0, oi i1, oi i2, oi i3, oi i4, oa b1, .unset, .unset, .unset, .unset, .unset, .unset] [(.int (i4 &&& (4 : Int32))), (.int (1 : Int32)), (.ref b1)])) (fun _ kk => XS.iand X142.here hx rfl (hb hby at_115) rfl kk) ?_
    by_cases hc143 : (i4 &&& (4 : Int32)) = (0 : Int32)
    · refine om (g1 := (mkF mG 124 #[oi i0, oi i1, oi i2, oi i3, oi i4, oa b1, .unset, .unset, .unset, .unset, .unset, .unset] [(.int (1 : Int32)), (.ref b1)])) (fun _ kk => XS.ifYes X142.here hx rfl (pc0 := 116) (pc' := 124) rfl (hb hby at_116) rfl ((if0 _ _).trans (teq hc143).1) (by decide) (by decide) kk) ?_
      refine om (g1 := (mkF mG 126 #[oi i0, oi i1, oi i2, oi i3, oi i4, oa b1, .unset, .unset, .unset, .unset, .unset, .unset] [(.int (100 : Int32)), (.int (1 : Int32)), (.ref b1)])) (fun _ kk => XS.bipush X142.here hx rfl (hb hby at_124) kk) ?_
      exact ⟨(100 : Int32), ⟨by decide, by decide⟩, fun _ kk => kk⟩
    refine om (g1 := (mkF mG 119 #[oi i0, oi i1, oi i2, oi i3, oi i4, oa b1, .unset, .unset, .unset, .unset, .unset, .unset] [(.int (1 : Int32)), (.ref b1)])) (fun _ kk => XS.ifNo X142.here hx rfl (hb hby at_116) rfl ((if0 _ _).trans (feq hc143).1) kk) ?_
    refine om (g1 := (mkF mG 121 #[oi i0, oi i1, oi i2, oi i3, oi i4, oa b1, .unset, .unset, .unset, .unset, .unset, .unset] [(.int (68 : Int32)), (.int (1 : Int32)), (.ref b1)])) (fun _ kk => XS.bipush X142.here hx rfl (hb hby at_119) kk) ?_
    refine om (g1 := (mkF mG 126 #[oi i0, oi i1, oi i2, oi i3, oi i4, oa b1, .unset, .unset, .unset, .unset, .unset, .unset] [(.int (68 : Int32)), (.int (1 : Int32)), (.ref b1)])) (fun _ kk => XS.goto X142.here hx rfl (pc0 := 121) (pc' := 126) rfl (hb hby at_121) (by decide) (by decide) kk) ?_
    exact ⟨(68 : Int32), ⟨by decide, by decide⟩, fun _ kk => kk⟩
  show oGo pG eG belowG _ T142 (mkF mG 126 #[oi i0, oi i1, oi i2, oi i3, oi i4, oa b1, .unset, .unset, .unset, .unset, .unset, .unset] [(.int zB), (.int (1 : Int32)), (.ref b1)])
  refine oSc X142 hx hby hZ e142 V142 ⟨by decide, by decide⟩ 1 zB (own_nar zB rzB) at_126 O142 K142 N142 n_b1 (Or.inr sz_b1) 127 ?_
  intro T144 h144 L144 X144 e144 W144 V144 O144 K144 N144
  have CS144 : CHr Z oEL sG.vm h142 sG.vm h144 := CHr.wr W144 (Safe.arv hZ.alike V142 (by decide)) CR142.1
  have CR144 := CR142.trans CS144
  refine uA2 X144 hx hby at_127 rfl 129 (uC X144 hx hby at_129 2 130 ?_)
  refine omerge (A := fun zz => oRg zz) (g' := fun zz => (mkF mG 145 #[oi i0, oi i1, oi i2, oi i3, oi i4, oa b1, .unset, .unset, .unset, .unset, .unset, .unset] [(.int zz), (.int (2 : Int32)), (.ref b1)])) ?_ (fun zC rzC => ?_)
  · refine om (g1 := (mkF mG 132 #[oi i0, oi i1, oi i2, oi i3, oi i4, oa b1, .unset, .unset, .unset, .unset, .unset, .unset] [(.int i4), (.int (2 : Int32)), (.ref b1)])) (fun _ kk => XS.iload X144.here hx rfl (hb hby at_130) rfl kk) ?_
    refine om (g1 := (mkF mG 134 #[oi i0, oi i1, oi i2, oi i3, oi i4, oa b1, .unset, .unset, .unset, .unset, .unset, .unset] [(.int (8 : Int32)), (.int i4), (.int (2 : Int32)), (.ref b1)])) (fun _ kk => XS.bipush X144.here hx rfl (hb hby at_132) kk) ?_
    refine om (g1 := (mkF mG 135 #[oi i0, oi i1, oi i2, oi i3, oi i4, oa b1, .unset, .unset, .unset, .unset, .unset, .unset] [(.int (i4 &&& (8 : Int32))), (.int (2 : Int32)), (.ref b1)])) (fun _ kk => XS.iand X144.here hx rfl (hb hby at_134) rfl kk) ?_
    by_cases hc145 : (i4 &&& (8 : Int32)) = (0 : Int32)
    · refine om (g1 := (mkF mG 143 #[oi i0, oi i1, oi i2, oi i3, oi i4, oa b1, .unset, .unset, .unset, .unset, .unset, .unset] [(.int (2 : Int32)), (.ref b1)])) (fun _ kk => XS.ifYes X144.here hx rfl (pc0 := 135) (pc' := 143) rfl (hb hby at_135) rfl ((if0 _ _).trans (teq hc145).1) (by decide) (by decide) kk) ?_
      refine om (g1 := (mkF mG 145 #[oi i0, oi i1, oi i2, oi i3, oi i4, oa b1, .unset, .unset, .unset, .unset, .unset, .unset] [(.int (98 : Int32)), (.int (2 : Int32)), (.ref b1)])) (fun _ kk => XS.bipush X144.here hx rfl (hb hby at_143) kk) ?_
      exact ⟨(98 : Int32), ⟨by decide, by decide⟩, fun _ kk => kk⟩
    refine om (g1 := (mkF mG 138 #[oi i0, oi i1, oi i2, oi i3, oi i4, oa b1, .unset, .unset, .unset, .unset, .unset, .unset] [(.int (2 : Int32)), (.ref b1)])) (fun _ kk => XS.ifNo X144.here hx rfl (hb hby at_135) rfl ((if0 _ _).trans (feq hc145).1) kk) ?_
    refine om (g1 := (mkF mG 140 #[oi i0, oi i1, oi i2, oi i3, oi i4, oa b1, .unset, .unset, .unset, .unset, .unset, .unset] [(.int (66 : Int32)), (.int (2 : Int32)), (.ref b1)])) (fun _ kk => XS.bipush X144.here hx rfl (hb hby at_138) kk) ?_
    refine om (g1 := (mkF mG 145 #[oi i0, oi i1, oi i2, oi i3, oi i4, oa b1, .unset, .unset, .unset, .unset, .unset, .unset] [(.int (66 : Int32)), (.int (2 : Int32)), (.ref b1)])) (fun _ kk => XS.goto X144.here hx rfl (pc0 := 140) (pc' := 145) rfl (hb hby at_140) (by decide) (by decide) kk) ?_
    exact ⟨(66 : Int32), ⟨by decide, by decide⟩, fun _ kk => kk⟩
  show oGo pG eG belowG _ T144 (mkF mG 145 #[oi i0, oi i1, oi i2, oi i3, oi i4, oa b1, .unset, .unset, .unset, .unset, .unset, .unset] [(.int zC), (.int (2 : Int32)), (.ref b1)])
  refine oSc X144 hx hby hZ e144 V144 ⟨by decide, by decide⟩ 2 zC (own_nar zC rzC) at_145 O144 K144 N144 n_b1 (Or.inr sz_b1) 146 ?_
  intro T146 h146 L146 X146 e146 W146 V146 O146 K146 N146
  have CS146 : CHr Z oEL sG.vm h144 sG.vm h146 := CHr.wr W146 (Safe.arv hZ.alike V144 (by decide)) CR144.1
  have CR146 := CR144.trans CS146
  refine uA2 X146 hx hby at_146 rfl 148 (uC X146 hx hby at_148 3 149 ?_)
  refine omerge (A := fun zz => oRg zz) (g' := fun zz => (mkF mG 164 #[oi i0, oi i1, oi i2, oi i3, oi i4, oa b1, .unset, .unset, .unset, .unset, .unset, .unset] [(.int zz), (.int (3 : Int32)), (.ref b1)])) ?_ (fun zD rzD => ?_)
  · refine om (g1 := (mkF mG 151 #[oi i0, oi i1, oi i2, oi i3, oi i4, oa b1, .unset, .unset, .unset, .unset, .unset, .unset] [(.int i4), (.int (3 : Int32)), (.ref b1)])) (fun _ kk => XS.iload X146.here hx rfl (hb hby at_149) rfl kk) ?_
    refine om (g1 := (mkF mG 153 #[oi i0, oi i1, oi i2, oi i3, oi i4, oa b1, .unset, .unset, .unset, .unset, .unset, .unset] [(.int (16 : Int32)), (.int i4), (.int (3 : Int32)), (.ref b1)])) (fun _ kk => XS.bipush X146.here hx rfl (hb hby at_151) kk) ?_
    refine om (g1 := (mkF mG 154 #[oi i0, oi i1, oi i2, oi i3, oi i4, oa b1, .unset, .unset, .unset, .unset, .unset, .unset] [(.int (i4 &&& (16 : Int32))), (.int (3 : Int32)), (.ref b1)])) (fun _ kk => XS.iand X146.here hx rfl (hb hby at_153) rfl kk) ?_
    by_cases hc147 : (i4 &&& (16 : Int32)) = (0 : Int32)
    · refine om (g1 := (mkF mG 162 #[oi i0, oi i1, oi i2, oi i3, oi i4, oa b1, .unset, .unset, .unset, .unset, .unset, .unset] [(.int (3 : Int32)), (.ref b1)])) (fun _ kk => XS.ifYes X146.here hx rfl (pc0 := 154) (pc' := 162) rfl (hb hby at_154) rfl ((if0 _ _).trans (teq hc147).1) (by decide) (by decide) kk) ?_
      refine om (g1 := (mkF mG 164 #[oi i0, oi i1, oi i2, oi i3, oi i4, oa b1, .unset, .unset, .unset, .unset, .unset, .unset] [(.int (99 : Int32)), (.int (3 : Int32)), (.ref b1)])) (fun _ kk => XS.bipush X146.here hx rfl (hb hby at_162) kk) ?_
      exact ⟨(99 : Int32), ⟨by decide, by decide⟩, fun _ kk => kk⟩
    refine om (g1 := (mkF mG 157 #[oi i0, oi i1, oi i2, oi i3, oi i4, oa b1, .unset, .unset, .unset, .unset, .unset, .unset] [(.int (3 : Int32)), (.ref b1)])) (fun _ kk => XS.ifNo X146.here hx rfl (hb hby at_154) rfl ((if0 _ _).trans (feq hc147).1) kk) ?_
    refine om (g1 := (mkF mG 159 #[oi i0, oi i1, oi i2, oi i3, oi i4, oa b1, .unset, .unset, .unset, .unset, .unset, .unset] [(.int (67 : Int32)), (.int (3 : Int32)), (.ref b1)])) (fun _ kk => XS.bipush X146.here hx rfl (hb hby at_157) kk) ?_
    refine om (g1 := (mkF mG 164 #[oi i0, oi i1, oi i2, oi i3, oi i4, oa b1, .unset, .unset, .unset, .unset, .unset, .unset] [(.int (67 : Int32)), (.int (3 : Int32)), (.ref b1)])) (fun _ kk => XS.goto X146.here hx rfl (pc0 := 159) (pc' := 164) rfl (hb hby at_159) (by decide) (by decide) kk) ?_
    exact ⟨(67 : Int32), ⟨by decide, by decide⟩, fun _ kk => kk⟩
  show oGo pG eG belowG _ T146 (mkF mG 164 #[oi i0, oi i1, oi i2, oi i3, oi i4, oa b1, .unset, .unset, .unset, .unset, .unset, .unset] [(.int zD), (.int (3 : Int32)), (.ref b1)])
  refine oSc X146 hx hby hZ e146 V146 ⟨by decide, by decide⟩ 3 zD (own_nar zD rzD) at_164 O146 K146 N146 n_b1 (Or.inr sz_b1) 165 ?_
  intro T148 h148 L148 X148 e148 W148 V148 O148 K148 N148
  have CS148 : CHr Z oEL sG.vm h146 sG.vm h148 := CHr.wr W148 (Safe.arv hZ.alike V146 (by decide)) CR146.1
  have CR148 := CR146.trans CS148
  refine uA2 X148 hx hby at_165 rfl 167 (uC X148 hx hby at_167 4 168 (uB X148 hx hby at_168 58 170 ?_))
  refine oSc X148 hx hby hZ e148 V148 ⟨by decide, by decide⟩ 4 (58 : Int32) rfl at_170 O148 K148 N148 n_b1 (Or.inr sz_b1) 171 ?_
  intro T149 h149 L149 X149 e149 W149 V149 O149 K149 N149
  have CS149 : CHr Z oEL sG.vm h148 sG.vm h149 := CHr.wr W149 (Safe.arv hZ.alike V148 (by decide)) CR148.1
  have CR149 := CR148.trans CS149
  refine uI2 X149 hx hby at_171 rfl 173 (uB X149 hx hby at_173 32 175 (uAnd X149 hx hby at_175 176 ?_))
  by_cases hc150 : (i4 &&& (32 : Int32)) = (0 : Int32)
  · refine uY X149 hx hby at_176 ((if0 _ _).trans (teq hc150).1) 192 ?_
    exact J192 T149 h149 _ zA zB zC zD (58 : Int32) i0_122 i0_125 i0_128 X149 N149 e149 CR149 O149 K149 V149 rzA rzB rzC rzD ⟨by decide, by decide⟩ F122_0 F125_0 F128_0
  refine uN X149 hx hby at_176 ((if0 _ _).trans (feq hc150).1) 179 (uA2 X149 hx hby at_179 rfl 181 (uI2 X149 hx hby at_181 rfl 183 (uB X149 hx hby at_183 6 185 ?_)))
  refine ob T149 (mkF mG 186 #[oi i0, oi i1, oi i2, oi i3, oi i4, oa b1, .unset, .unset, .unset, .unset, .unset, .unset] [(.int ((i4.toUInt32 >>> ((6 : Int32) &&& 31).toUInt32).toInt32)), (.ref b1)]) (fun _ kk => XS.iushr X149.here hx rfl (hb hby at_185) rfl kk) ?_
  refine uB X149 hx hby at_186 7 188 (uAnd X149 hx hby at_188 189 ?_)
  obtain ⟨jx, ejx, hjx⟩ := own_a7 ((i4.toUInt32 >>> ((6 : Int32) &&& 31).toUInt32).toInt32)
  rw [ejx]
  rcases hjx with rfl | rfl | rfl | rfl | rfl | rfl | rfl | rfl
  · show oGo pG eG belowG _ T149 (mkF mG 189 #[oi i0, oi i1, oi i2, oi i3, oi i4, oa b1, .unset, .unset, .unset, .unset, .unset, .unset] [(.int (0 : Int32)), (.ref b1)])
    refine uB X149 hx hby at_189 58 191 ?_
    refine oSc X149 hx hby hZ e149 V149 ⟨by decide, by decide⟩ 0 (58 : Int32) rfl at_191 O149 K149 N149 n_b1 (Or.inr sz_b1) 192 ?_
    intro T151 h151 L151 X151 e151 W151 V151 O151 K151 N151
    have CS151 : CHr Z oEL sG.vm h149 sG.vm h151 := CHr.wr W151 (Safe.arv hZ.alike V149 (by decide)) CR149.1
    have CR151 := CR149.trans CS151
    exact J192 T151 h151 _ (58 : Int32) zB zC zD (58 : Int32) i0_122 i0_125 i0_128 X151 N151 e151 CR151 O151 K151 V151 ⟨by decide, by decide⟩ rzB rzC rzD ⟨by decide, by decide⟩ F122_0 F125_0 F128_0
  · show oGo pG eG belowG _ T149 (mkF mG 189 #[oi i0, oi i1, oi i2, oi i3, oi i4, oa b1, .unset, .unset, .unset, .unset, .unset, .unset] [(.int (1 : Int32)), (.ref b1)])
    refine uB X149 hx hby at_189 58 191 ?_
    refine oSc X149 hx hby hZ e149 V149 ⟨by decide, by decide⟩ 1 (58 : Int32) rfl at_191 O149 K149 N149 n_b1 (Or.inr sz_b1) 192 ?_
    intro T152 h152 L152 X152 e152 W152 V152 O152 K152 N152
    have CS152 : CHr Z oEL sG.vm h149 sG.vm h152 := CHr.wr W152 (Safe.arv hZ.alike V149 (by decide)) CR149.1
    have CR152 := CR149.trans CS152
    exact J192 T152 h152 _ zA (58 : Int32) zC zD (58 : Int32) i0_122 i0_125 i0_128 X152 N152 e152 CR152 O152 K152 V152 rzA ⟨by decide, by decide⟩ rzC rzD ⟨by decide, by decide⟩ F122_0 F125_0 F128_0
  · show oGo pG eG belowG _ T149 (mkF mG 189 #[oi i0, oi i1, oi i2, oi i3, oi i4, oa b1, .unset, .unset, .unset, .unset, .unset, .unset] [(.int (2 : Int32)), (.ref b1)])
    refine uB X149 hx hby at_189 58 191 ?_
    refine oSc X149 hx hby hZ e149 V149 ⟨by decide, by decide⟩ 2 (58 : Int32) rfl at_191 O149 K149 N149 n_b1 (Or.inr sz_b1) 192 ?_
    intro T153 h153 L153 X153 e153 W153 V153 O153 K153 N153
    have CS153 : CHr Z oEL sG.vm h149 sG.vm h153 := CHr.wr W153 (Safe.arv hZ.alike V149 (by decide)) CR149.1
    have CR153 := CR149.trans CS153
    exact J192 T153 h153 _ zA zB (58 : Int32) zD (58 : Int32) i0_122 i0_125 i0_128 X153 N153 e153 CR153 O153 K153 V153 rzA rzB ⟨by decide, by decide⟩ rzD ⟨by decide, by decide⟩ F122_0 F125_0 F128_0
  · show oGo pG eG belowG _ T149 (mkF mG 189 #[oi i0, oi i1, oi i2, oi i3, oi i4, oa b1, .unset, .unset, .unset, .unset, .unset, .unset] [(.int (3 : Int32)), (.ref b1)])
    refine uB X149 hx hby at_189 58 191 ?_
    refine oSc X149 hx hby hZ e149 V149 ⟨by decide, by decide⟩ 3 (58 : Int32) rfl at_191 O149 K149 N149 n_b1 (Or.inr sz_b1) 192 ?_
    intro T154 h154 L154 X154 e154 W154 V154 O154 K154 N154
    have CS154 : CHr Z oEL sG.vm h149 sG.vm h154 := CHr.wr W154 (Safe.arv hZ.alike V149 (by decide)) CR149.1
    have CR154 := CR149.trans CS154
    exact J192 T154 h154 _ zA zB zC (58 : Int32) (58 : Int32) i0_122 i0_125 i0_128 X154 N154 e154 CR154 O154 K154 V154 rzA rzB rzC ⟨by decide, by decide⟩ ⟨by decide, by decide⟩ F122_0 F125_0 F128_0
  · show oGo pG eG belowG _ T149 (mkF mG 189 #[oi i0, oi i1, oi i2, oi i3, oi i4, oa b1, .unset, .unset, .unset, .unset, .unset, .unset] [(.int (4 : Int32)), (.ref b1)])
    refine uB X149 hx hby at_189 58 191 ?_
    refine oSc X149 hx hby hZ e149 V149 ⟨by decide, by decide⟩ 4 (58 : Int32) rfl at_191 O149 K149 N149 n_b1 (Or.inr sz_b1) 192 ?_
    intro T155 h155 L155 X155 e155 W155 V155 O155 K155 N155
    have CS155 : CHr Z oEL sG.vm h149 sG.vm h155 := CHr.wr W155 (Safe.arv hZ.alike V149 (by decide)) CR149.1
    have CR155 := CR149.trans CS155
    exact J192 T155 h155 _ zA zB zC zD (58 : Int32) i0_122 i0_125 i0_128 X155 N155 e155 CR155 O155 K155 V155 rzA rzB rzC rzD ⟨by decide, by decide⟩ F122_0 F125_0 F128_0
  · show oGo pG eG belowG _ T149 (mkF mG 189 #[oi i0, oi i1, oi i2, oi i3, oi i4, oa b1, .unset, .unset, .unset, .unset, .unset, .unset] [(.int (5 : Int32)), (.ref b1)])
    refine uB X149 hx hby at_189 58 191 ?_
    refine oSc X149 hx hby hZ e149 V149 ⟨by decide, by decide⟩ 5 (58 : Int32) rfl at_191 O149 K149 N149 n_b1 (Or.inr sz_b1) 192 ?_
    intro T156 h156 L156 X156 e156 W156 V156 O156 K156 N156
    have CS156 : CHr Z oEL sG.vm h149 sG.vm h156 := CHr.wr W156 (Safe.arv hZ.alike V149 (by decide)) CR149.1
    have CR156 := CR149.trans CS156
    exact J192 T156 h156 _ zA zB zC zD (58 : Int32) (58 : Int32) i0_125 i0_128 X156 N156 e156 CR156 O156 K156 V156 rzA rzB rzC rzD ⟨by decide, by decide⟩ ⟨by decide, by decide⟩ F125_0 F128_0
  · show oGo pG eG belowG _ T149 (mkF mG 189 #[oi i0, oi i1, oi i2, oi i3, oi i4, oa b1, .unset, .unset, .unset, .unset, .unset, .unset] [(.int (6 : Int32)), (.ref b1)])
    refine uB X149 hx hby at_189 58 191 ?_
    refine oSc X149 hx hby hZ e149 V149 ⟨by decide, by decide⟩ 6 (58 : Int32) rfl at_191 O149 K149 N149 n_b1 (Or.inr sz_b1) 192 ?_
    intro T157 h157 L157 X157 e157 W157 V157 O157 K157 N157
    have CS157 : CHr Z oEL sG.vm h149 sG.vm h157 := CHr.wr W157 (Safe.arv hZ.alike V149 (by decide)) CR149.1
    have CR157 := CR149.trans CS157
    exact J192 T157 h157 _ zA zB zC zD (58 : Int32) i0_122 (58 : Int32) i0_128 X157 N157 e157 CR157 O157 K157 V157 rzA rzB rzC rzD ⟨by decide, by decide⟩ F122_0 ⟨by decide, by decide⟩ F128_0
  · show oGo pG eG belowG _ T149 (mkF mG 189 #[oi i0, oi i1, oi i2, oi i3, oi i4, oa b1, .unset, .unset, .unset, .unset, .unset, .unset] [(.int (7 : Int32)), (.ref b1)])
    refine uB X149 hx hby at_189 58 191 ?_
    refine oSc X149 hx hby hZ e149 V149 ⟨by decide, by decide⟩ 7 (58 : Int32) rfl at_191 O149 K149 N149 n_b1 (Or.inr sz_b1) 192 ?_
    intro T158 h158 L158 X158 e158 W158 V158 O158 K158 N158
    have CS158 : CHr Z oEL sG.vm h149 sG.vm h158 := CHr.wr W158 (Safe.arv hZ.alike V149 (by decide)) CR149.1
    have CR158 := CR149.trans CS158
    exact J192 T158 h158 _ zA zB zC zD (58 : Int32) i0_122 i0_125 (58 : Int32) X158 N158 e158 CR158 O158 K158 V158 rzA rzB rzC rzD ⟨by decide, by decide⟩ F122_0 F125_0 ⟨by decide, by decide⟩

theorem own_cs : ∀ q ∈ oEL, q ∈ consts_1 := by decide

set_option maxRecDepth 65536 in
set_option maxHeartbeats 40000000 in
theorem comes_1 {Post : Tables → Env → Array Value → State → Outcome → State → Prop} (hpost : ∀ tb e args s v u, (limb_1_1.after args s (.returned v) u = true ∧ limb_1_2.after args s (.returned v) u = true ∧ True) → ReturnedEndW s (.returned v) u (Jvm.fieldLocs frame_1_writes args s ++ Jvm.arrayLocs frame_1_arrays args s ++ Jvm.staticLocs frame_1_statics s) 64 6592 → Post tb e args s (.returned v) u) :
    ArmFor flags0 classFile x code maxLocals ret World_1 tables_1 room_1 Calls_1 rest_1 Pre_1 Post := by
  intro l hfl _ _ p e ha hc hk s m args below hf hA hF happ hP
  obtain ⟨hcalls, hrest, hpre⟩ := hP
  obtain ⟨-, -, -, hnamed, -, -, -, hat⟩ := (Spec.applies_iff hf).mp happ
  obtain ⟨hg, hn⟩ := and_e (Cond.before_iff.mp (show (Jvm.Cond.and given_1 narrow_1).before args s = true from hpre))
  obtain ⟨gg1, gg2⟩ := and_e hg
  obtain ⟨gg3, gg4⟩ := and_e gg2
  obtain ⟨gg5, gg6⟩ := and_e gg4
  obtain ⟨gg7, gg8⟩ := and_e gg6
  obtain ⟨gg9, gg10⟩ := and_e gg8
  obtain ⟨w0, w1, w2, w3, w4, rfl⟩ : ∃ w0 w1 w2 w3 w4 : Value, args = #[w0, w1, w2, w3, w4] := by
    have hs : args.size = 5 := by simpa [Cond.value, given_1] using gg1
    obtain ⟨L⟩ := args
    match L, hs with
    | [w0, w1, w2, w3, w4], _ => exact ⟨w0, w1, w2, w3, w4, rfl⟩
  have hw := fun d (hd : d ∈ tables_1) => atoms_spec (ws := Jvm.Cond.code x code maxLocals ret :: tables_1) hat d (List.mem_cons_of_mem _ hd)
  have hfit : Fit s := fun {y c} hc i hi => by
    obtain ⟨ha, rfl⟩ := Array.getElem?_eq_some_iff.mp hc
    have q := List.all_eq_true.mp ((Array.all_eq_true_iff_forall_mem.mp hF) _ (Array.getElem_mem ha)) i (List.mem_range.mpr hi)
    simpa [Array.getElem?_eq_getElem hi] using q
  obtain ⟨hsets, hown0⟩ := atoms_of _ (rest_1_c_eq ▸ (show rest_1_c.before _ s = true from hrest))
  have hr0 := Cond.before_iff.mp hown0
  obtain ⟨i0, ei0⟩ := is_v gg3
  obtain rfl : w0 = (.int i0) := Option.some.inj ei0
  obtain ⟨i1, ei1⟩ := is_v gg5
  obtain rfl : w1 = (.int i1) := Option.some.inj ei1
  obtain ⟨i2, ei2⟩ := is_v gg7
  obtain rfl : w2 = (.int i2) := Option.some.inj ei2
  obtain ⟨i3, ei3⟩ := is_v gg9
  obtain rfl : w3 = (.int i3) := Option.some.inj ei3
  obtain ⟨i4, ei4⟩ := is_v gg10
  obtain rfl : w4 = (.int i4) := Option.some.inj ei4
  obtain ⟨wR, ev_wR, S_wR, E_wR⟩ := own_sta (Cond.before_iff.mp (ow hsets 11 rfl)) (Or.inl (ow hsets 10 rfl))
  obtain ⟨wI, ev_wI, S_wI, E_wI⟩ := own_sta (Cond.before_iff.mp (ow hsets 20 rfl)) (Or.inl (ow hsets 19 rfl))
  obtain ⟨zc, ev_zc⟩ := is_v (Cond.before_iff.mp (ow hsets 1 rfl))
  have S_zc : Sta s s.heap "java/lang/String" "COMPACT_STRINGS" "Z" (.int zc) := Sta.start ev_zc (Or.inl (ow hsets 0 rfl))
  have hzc : ¬ (zc = (0 : Int32)) := gotF (Cond.eq_ints ev_zc (Term.int_eval (0))) (not_v (Cond.before_iff.mp (ow hsets 2 rfl)))
  obtain ⟨vf, ev_vf, rvf⟩ := isR_v (Cond.before_iff.mp (ow hsets 8 rfl))
  have S_vf : Sta s s.heap "jdk/internal/util/Preconditions" "SIOOBE_FORMATTER" "Ljava/util/function/BiFunction;" vf := Sta.start ev_vf (Or.inl (ow hsets 7 rfl))
  obtain ⟨wB, ev_bl⟩ := exa_v (Cond.before_iff.mp (ow hsets 12 rfl))
  have F_rb : Fld s s.heap wR "java/util/Locale" "baseLocale" "Lsun/util/locale/BaseLocale;" (.ref wB) := Fld.start ((fld_at ev_wR).symm.trans ev_bl)
  have E_bl := Exa.start ev_bl (Cond.before_iff.mp (ow hsets 12 rfl))
  obtain ⟨wL, ev_lg⟩ := exa_v (Cond.before_iff.mp (ow hsets 13 rfl))
  have F_bl : Fld s s.heap wB "sun/util/locale/BaseLocale" "language" "Ljava/lang/String;" (.ref wL) := Fld.start ((fld_at ev_bl).symm.trans ev_lg)
  have E_lg := Exa.start ev_lg (Cond.before_iff.mp (ow hsets 13 rfl))
  obtain ⟨wV, ev_lv⟩ := arr_v (Cond.before_iff.mp (ow hsets 15 rfl))
  have F_lg : Fld s s.heap wL "java/lang/String" "value" "[B" (.ref wV) := Fld.start ((fld_at ev_lg).symm.trans ev_lv)
  obtain ⟨cV, A_lv⟩ := Arr.start ev_lv (Cond.before_iff.mp (ow hsets 15 rfl))
  obtain ⟨l_lv, q_lv⟩ := own_len (A_lv.fin (Vm.Alike.refl _)) ev_lv (Cond.before_iff.mp (ow hsets 17 rfl))
  have V_lv : Arv s s.heap wV cV.cls .byte (0 : Int32) [] (.int (0 : Int32)) := Arv.start hfit A_lv l_lv q_lv (by decide) rfl trivial
  have hS : St0 s wR wI zc vf wB wL wV cV := ⟨S_wR, E_wR, S_wI, E_wI, S_zc, hzc, S_vf, rvf, F_rb, E_bl, F_bl, E_lg, F_lg, V_lv⟩
  obtain ⟨n, o, h1, h2, h3, _, L, rfl, ⟨rfl, N⟩, -, hq⟩ := rm0 l s _ hw tables_1 wR wI zc vf wB wL wV cV i0 i1 i2 i3 i4 s.heap s.heap.size (Old.start s) hS p e ha hc hk s m _ below hf ((Spec.applies_iff_loose hf).mp happ).1 ⟨rfl, State.Warmed39.refl s, rfl, CHv.start (own_EW hw) (fun q hq => hcalls.1 q (own_cs q hq)) (ow hsets 2 rfl) (ow hw 23 rfl) (ow hw 7 rfl)⟩ trivial
  refine ⟨n, _, h1, h2, h3, hpost _ _ _ _ _ _ ⟨Cond.after_iff.mpr rfl, Cond.after_iff.mpr (eq_i res_at (Term.int_eval (1)) rfl), trivial⟩ ⟨hq.1, hq.2.1, hq.2.2.1, (hq.2.2.2.sift fun y hy => Or.inr (N y hy)).mono (by decide) (by decide)⟩⟩
theorem main_1_1 : Claimed_1_1 := comes_1 fun _ _ _ _ _ _ h hF => ⟨h.1, hF⟩
theorem main_1_2 : Claimed_1_2 := comes_1 fun _ _ _ _ _ _ h hF => ⟨h.2.1, hF⟩
end Jvm.Pilot.@@N@@
namespace Jvm.Pilot.@@N@@
open Jvm Jvm.ClassFile Sem Op Lib Jvm.Free Jvm.Stand Jvm.Pilot.@@N@@.Jvm.D
/-! MADE BY PROGRAM (witnessworld.py) out of the Statement's table words and the real class files: 28 classes; the members and pool entries that the words name. The judged class is class 1, her method 1. -/
namespace start1
open Jvm.ClassFile
def u (s : String) : CpInfo := .utf8 (stringToUtf16 s)
/-- a pool by its gaps: so many unusable entries, then the entry; so many at the end -/
def gap : Nat → List CpInfo → List CpInfo
  | 0, r => r
  | n + 1, r => .unusable :: gap n r
def poolList (es : List (Nat × CpInfo)) (last : Nat) : List CpInfo := es.foldr (fun e r => gap e.1 (e.2 :: r)) (gap last [])
def pool (es : List (Nat × CpInfo)) (last : Nat) : Array CpInfo := ⟨poolList es last⟩
def fileOf (pool : Array CpInfo) (this : Nat) (attrs : Array Attribute := #[]) (ms : Array MethodInfo := #[]) (fl : Nat := 33) (sup : Nat := 0) (ifs : Array Nat := #[]) (fds : Array FieldInfo := #[]) : ClassFile where
  minorVersion := 0
  majorVersion := 65
  constantPool := pool
  accessFlags := fl
  thisClass := this
  superClass := sup
  interfaces := ifs
  fields := fds
  methods := ms
  attributes := attrs
def plain (name : String) (sup : Option ClassId) : Class where
  name := name
  kind := .ordinary
  loader := none
  accessFlags := 33
  super := sup
  interfaces := #[]
  cf := none
  fields := #[]
  methods := #[]
  instanceTypes := #[]
  staticTypes := #[]
  resolved := #[]
  callSites := []
  init := .initialized
  statics := none
  mirror := none

def pool0 : Array CpInfo := pool [(5, u "<init>"), (0, u "()V"), (1, .class_ 10), (1, u "java/lang/Object")] 113

def k0c0 : Code := { maxStack := 0, maxLocals := 1, code := object_method_1_code, exceptionTable := #[], attributes := #[] }
def k0m0 : Method := { name := "<init>", desc := "()V", sig := { parameters := [], returnType := none }, accessFlags := 1, code := some k0c0 }
/-- java/lang/Object -/
def k0 : Class := { plain "java/lang/Object" none with
  accessFlags := 33
  interfaces := #[]
  cf := some (fileOf pool0 8 #[] #[{ accessFlags := 1, nameIndex := 5, descriptorIndex := 6, attributes := #[] }] 33 0 #[] #[])
  fields := #[]
  methods := #[k0m0]
  instanceTypes := #[]
  staticTypes := #[]
  resolved := Array.replicate 124 none
  statics := none }

def pool1 : Array CpInfo := pool [(2, .class_ 4), (1, u "java/lang/Object"), (0, u "<init>"), (0, u "()V"), (0, .methodref 8 9), (0, .class_ 10), (0, .nameAndType 11 12), (0, u "com/example/lease_over_store/leaseoverstore/lease/StoreUrlParsePinLaw"), (0, u "ch"), (0, u "(I)C"), (0, .integer 65535), (0, .class_ 15), (0, u "java/lang/String"), (0, .methodref 8 17), (0, .nameAndType 18 19), (0, u "cut"), (0, u "([CI)[C"), (0, .methodref 14 21), (0, .nameAndType 5 22), (0, u "([C)V"), (0, .methodref 8 24), (0, .nameAndType 25 26), (0, u "end"), (0, u "([CII)I"), (0, .methodref 8 28), (0, .nameAndType 29 30), (0, u "low"), (0, u "(C)C"), (0, .methodref 32 33), (0, .class_ 34), (0, .nameAndType 35 36), (0, u "com/example/lease_over_store/leaseoverstore/lease/StoreUrl"), (0, u "parse"), (0, u "(Ljava/lang/String;)Lcom/example/lease_over_store/leaseoverstore/lease/StoreUrl;"), (0, .methodref 32 38), (0, .nameAndType 39 40), (0, u "scheme"), (0, u "()Ljava/lang/String;"), (0, .methodref 32 42), (0, .nameAndType 43 40), (0, u "url"), (0, .methodref 14 45), (0, .nameAndType 46 47), (0, u "equals"), (0, u "(Ljava/lang/Object;)Z"), (0, .methodref 14 49), (0, .nameAndType 50 51), (0, u "length"), (0, u "()I"), (0, .methodref 8 53), (0, .nameAndType 54 55), (0, u "agree"), (0, u "(Ljava/lang/String;[CII)Z"), (0, .methodref 14 57), (0, .nameAndType 58 12), (0, u "charAt"), (0, .methodref 8 60), (0, .nameAndType 61 62), (0, u "letter"), (0, u "(C)Z"), (0, .methodref 8 64), (0, .nameAndType 65 26), (0, u "colon"), (0, .methodref 8 67), (0, .nameAndType 68 69), (0, u "ok"), (0, u "([CIII)Z"), (0, .methodref 8 71), (0, .nameAndType 72 69), (0, u "at"), (0, .methodref 8 74), (0, .nameAndType 75 62), (0, u "sch"), (2, u "law"), (0, u "(IIIII)Z")] 5

def k1m0 : Method := { name := "<init>", desc := "()V", sig := { parameters := [], returnType := none }, accessFlags := 1, code := none }
def k1c1 : Code := { maxStack := 4, maxLocals := 12, code := code, exceptionTable := #[], attributes := #[] }
def k1m1 : Method := { name := "law", desc := "(IIIII)Z", sig := { parameters := [.int, .int, .int, .int, .int], returnType := some .boolean }, accessFlags := 9, code := some k1c1 }
def k1c2 : Code := { maxStack := 3, maxLocals := 4, code := method_3_code, exceptionTable := #[], attributes := #[] }
def k1m2 : Method := { name := "agree", desc := "(Ljava/lang/String;[CII)Z", sig := { parameters := [(.object "java/lang/String"), (.array .char), .int, .int], returnType := some .boolean }, accessFlags := 10, code := some k1c2 }
def k1c3 : Code := { maxStack := 4, maxLocals := 2, code := method_4_code, exceptionTable := #[], attributes := #[] }
def k1m3 : Method := { name := "ch", desc := "(I)C", sig := { parameters := [.int], returnType := some .char }, accessFlags := 10, code := some k1c3 }
def k1c4 : Code := { maxStack := 5, maxLocals := 2, code := method_5_code, exceptionTable := #[], attributes := #[] }
def k1m4 : Method := { name := "cut", desc := "([CI)[C", sig := { parameters := [(.array .char), .int], returnType := some (.array .char) }, accessFlags := 10, code := some k1c4 }
def k1c5 : Code := { maxStack := 4, maxLocals := 5, code := method_6_code, exceptionTable := #[], attributes := #[] }
def k1m5 : Method := { name := "end", desc := "([CII)I", sig := { parameters := [(.array .char), .int, .int], returnType := some .int }, accessFlags := 10, code := some k1c5 }
def k1c6 : Code := { maxStack := 4, maxLocals := 3, code := method_7_code, exceptionTable := #[], attributes := #[] }
def k1m6 : Method := { name := "colon", desc := "([CII)I", sig := { parameters := [(.array .char), .int, .int], returnType := some .int }, accessFlags := 10, code := some k1c6 }
def k1c7 : Code := { maxStack := 2, maxLocals := 4, code := method_8_code, exceptionTable := #[], attributes := #[] }
def k1m7 : Method := { name := "at", desc := "([CIII)Z", sig := { parameters := [(.array .char), .int, .int, .int], returnType := some .boolean }, accessFlags := 10, code := some k1c7 }
def k1c8 : Code := { maxStack := 2, maxLocals := 4, code := method_9_code, exceptionTable := #[], attributes := #[] }
def k1m8 : Method := { name := "ok", desc := "([CIII)Z", sig := { parameters := [(.array .char), .int, .int, .int], returnType := some .boolean }, accessFlags := 10, code := some k1c8 }
def k1c9 : Code := { maxStack := 2, maxLocals := 1, code := method_10_code, exceptionTable := #[], attributes := #[] }
def k1m9 : Method := { name := "letter", desc := "(C)Z", sig := { parameters := [.char], returnType := some .boolean }, accessFlags := 10, code := some k1c9 }
def k1c10 : Code := { maxStack := 2, maxLocals := 1, code := method_11_code, exceptionTable := #[], attributes := #[] }
def k1m10 : Method := { name := "sch", desc := "(C)Z", sig := { parameters := [.char], returnType := some .boolean }, accessFlags := 10, code := some k1c10 }
def k1c11 : Code := { maxStack := 2, maxLocals := 1, code := method_12_code, exceptionTable := #[], attributes := #[] }
def k1m11 : Method := { name := "low", desc := "(C)C", sig := { parameters := [.char], returnType := some .char }, accessFlags := 10, code := some k1c11 }
/-- com/example/lease_over_store/leaseoverstore/lease/StoreUrlParsePinLaw -/
def k1 : Class := { plain "com/example/lease_over_store/leaseoverstore/lease/StoreUrlParsePinLaw" (some 0) with
  accessFlags := 49
  interfaces := #[]
  cf := some (fileOf pool1 8 #[] #[{ accessFlags := 1, nameIndex := 5, descriptorIndex := 6, attributes := #[] }, { accessFlags := 9, nameIndex := 78, descriptorIndex := 79, attributes := #[] }, { accessFlags := 10, nameIndex := 54, descriptorIndex := 55, attributes := #[] }, { accessFlags := 10, nameIndex := 11, descriptorIndex := 12, attributes := #[] }, { accessFlags := 10, nameIndex := 18, descriptorIndex := 19, attributes := #[] }, { accessFlags := 10, nameIndex := 25, descriptorIndex := 26, attributes := #[] }, { accessFlags := 10, nameIndex := 65, descriptorIndex := 26, attributes := #[] }, { accessFlags := 10, nameIndex := 72, descriptorIndex := 69, attributes := #[] }, { accessFlags := 10, nameIndex := 68, descriptorIndex := 69, attributes := #[] }, { accessFlags := 10, nameIndex := 61, descriptorIndex := 62, attributes := #[] }, { accessFlags := 10, nameIndex := 75, descriptorIndex := 62, attributes := #[] }, { accessFlags := 10, nameIndex := 29, descriptorIndex := 30, attributes := #[] }] 49 2 #[] #[])
  fields := #[]
  methods := #[k1m0, k1m1, k1m2, k1m3, k1m4, k1m5, k1m6, k1m7, k1m8, k1m9, k1m10, k1m11]
  instanceTypes := #[]
  staticTypes := #[]
  resolved := Array.replicate 85 none
  statics := none }

def pool2 : Array CpInfo := pool [(1, .class_ 2), (0, u "java/io/Serializable"), (0, .class_ 4), (0, u "java/lang/Object")] 2

/-- java/io/Serializable -/
def k2 : Class := { plain "java/io/Serializable" (some 0) with
  accessFlags := 1537
  interfaces := #[]
  cf := some (fileOf pool2 1 #[] #[] 1537 3 #[] #[])
  fields := #[]
  methods := #[]
  instanceTypes := #[]
  staticTypes := #[]
  resolved := Array.replicate 7 none
  statics := none }

def pool3 : Array CpInfo := pool [(1, .class_ 2), (0, u "java/lang/Comparable"), (0, .class_ 4), (0, u "java/lang/Object")] 7

/-- java/lang/Comparable -/
def k3 : Class := { plain "java/lang/Comparable" (some 0) with
  accessFlags := 1537
  interfaces := #[]
  cf := some (fileOf pool3 1 #[] #[] 1537 3 #[] #[])
  fields := #[]
  methods := #[]
  instanceTypes := #[]
  staticTypes := #[]
  resolved := Array.replicate 12 none
  statics := none }

def pool4 : Array CpInfo := pool [(2, .class_ 4), (1, u "java/lang/CharSequence"), (42, .class_ 48), (0, u "java/lang/CharSequence$1CodePointIterator"), (10, .class_ 60), (0, u "java/lang/CharSequence$1CharIterator"), (5, .class_ 67), (0, u "java/lang/Object")] 63

/-- java/lang/CharSequence -/
def k4 : Class := { plain "java/lang/CharSequence" (some 0) with
  accessFlags := 1537
  interfaces := #[]
  cf := some (fileOf pool4 2 #[.nestMembers #[47, 59]] #[] 1537 66 #[] #[])
  fields := #[]
  methods := #[]
  instanceTypes := #[]
  staticTypes := #[]
  resolved := Array.replicate 131 none
  statics := none }

def pool5 : Array CpInfo := pool [(1, .class_ 2), (0, u "java/lang/constant/Constable"), (0, .class_ 4), (0, u "java/lang/Object")] 6

/-- java/lang/constant/Constable -/
def k5 : Class := { plain "java/lang/constant/Constable" (some 0) with
  accessFlags := 1537
  interfaces := #[]
  cf := some (fileOf pool5 1 #[] #[] 1537 3 #[] #[])
  fields := #[]
  methods := #[]
  instanceTypes := #[]
  staticTypes := #[]
  resolved := Array.replicate 11 none
  statics := none }

def pool6 : Array CpInfo := pool [(1, .class_ 2), (0, u "java/lang/constant/ConstantDesc"), (0, .class_ 4), (0, u "java/lang/Object")] 32

/-- java/lang/constant/ConstantDesc -/
def k6 : Class := { plain "java/lang/constant/ConstantDesc" (some 0) with
  accessFlags := 1537
  interfaces := #[]
  cf := some (fileOf pool6 1 #[] #[] 1537 3 #[] #[])
  fields := #[]
  methods := #[]
  instanceTypes := #[]
  staticTypes := #[]
  resolved := Array.replicate 37 none
  statics := none }

def pool7 : Array CpInfo := pool [(1, .methodref 2 3), (0, .class_ 4), (0, .nameAndType 5 6), (0, u "java/lang/Object"), (0, u "<init>"), (0, u "()V"), (0, .string 8), (0, u ""), (0, .fieldref 10 11), (0, .class_ 12), (0, .nameAndType 13 14), (0, u "java/lang/String"), (0, u "value"), (0, u "[B"), (0, .fieldref 10 16), (0, .nameAndType 17 18), (0, u "coder"), (0, u "B"), (2, u "hash"), (0, u "I"), (2, u "hashIsZero"), (0, u "Z"), (0, .methodref 10 28), (0, .nameAndType 5 29), (0, u "([CIILjava/lang/Void;)V"), (8, .fieldref 10 39), (0, .nameAndType 40 26), (0, u "COMPACT_STRINGS"), (1, .class_ 44), (1, u "java/lang/StringUTF16"), (0, u "compress"), (1, .methodref 42 48), (0, .nameAndType 49 50), (0, u "coderFromArrayLen"), (0, u "([BI)B"), (56, .class_ 109), (1, u "java/lang/StringLatin1"), (32, u "()Z"), (34, .methodref 42 178), (0, .nameAndType 45 179), (0, u "([CII)[B"), (31, u "([BB)V"), (122, u "()I"), (0, .methodref 10 336), (0, .nameAndType 17 337), (0, u "()B"), (25, u "([BI)C"), (27, u "(II)V"), (35, u "(I)C"), (64, .methodref 10 493), (0, .nameAndType 494 142), (0, u "isLatin1"), (0, .methodref 107 496), (0, .nameAndType 497 363), (0, u "charAt"), (3, u "checkIndex"), (3, .methodref 10 506), (0, .nameAndType 507 334), (0, u "length"), (5, u "checkFromToIndex"), (7, .methodref 10 522), (0, .nameAndType 523 524), (0, u "checkBoundsBeginEnd"), (0, u "(III)V"), (18, u "equals"), (29, u "(Ljava/lang/Object;)Z"), (1, .class_ 576), (0, u "java/lang/CharSequence"), (5, .methodref 10 583), (0, .nameAndType 584 585), (0, u "regionMatches"), (0, u "(ZILjava/lang/String;II)Z"), (13, u "CASE_INSENSITIVE_ORDER"), (0, u "Ljava/util/Comparator;"), (12, .methodref 107 614), (0, .nameAndType 615 616), (0, u "regionMatchesCI"), (0, u "([BI[BII)Z"), (66, u "substring"), (0, u "(II)Ljava/lang/String;"), (0, .methodref 107 686), (0, .nameAndType 687 688), (0, u "newString"), (0, u "([BII)Ljava/lang/String;"), (150, .methodref 107 840), (0, .nameAndType 841 842), (0, u "toLowerCase"), (0, u "(Ljava/lang/String;[BLjava/util/Locale;)Ljava/lang/String;"), (9, u "(Ljava/util/Locale;)Ljava/lang/String;"), (157, u "([C)V"), (42, .fieldref 1054 1055), (0, .class_ 1056), (0, .nameAndType 1057 1058), (0, u "jdk/internal/util/Preconditions"), (0, u "SIOOBE_FORMATTER"), (0, u "Ljava/util/function/BiFunction;"), (0, .methodref 1054 1060), (0, .nameAndType 501 1061), (0, u "(IILjava/util/function/BiFunction;)I"), (0, .methodref 1054 1063), (0, .nameAndType 513 1064), (0, u "(IIILjava/util/function/BiFunction;)I"), (36, u "serialPersistentFields"), (0, u "[Ljava/io/ObjectStreamField;"), (0, .class_ 1104), (0, u "java/lang/String$CaseInsensitiveComparator"), (1, .class_ 1107), (0, u "java/io/Serializable"), (0, .class_ 1109), (0, u "java/lang/Comparable"), (0, .class_ 1111), (0, u "java/lang/constant/Constable"), (0, .class_ 1113), (0, u "java/lang/constant/ConstantDesc"), (2, u "serialVersionUID"), (0, u "J"), (3, u "REPL"), (0, u "C"), (2, u "LATIN1"), (1, u "UTF16"), (128, u "equalsIgnoreCase"), (0, u "(Ljava/lang/String;)Z")] 193

def k7m0 : Method := { name := "<init>", desc := "()V", sig := { parameters := [], returnType := none }, accessFlags := 1, code := none }
def k7c1 : Code := { maxStack := 5, maxLocals := 2, code := jdk_42_method_3_code, exceptionTable := #[], attributes := #[] }
def k7m1 : Method := { name := "<init>", desc := "([C)V", sig := { parameters := [(.array .char)], returnType := none }, accessFlags := 1, code := some k7c1 }
def k7c2 : Code := { maxStack := 2, maxLocals := 1, code := jdk_42_method_54_code, exceptionTable := #[], attributes := #[] }
def k7m2 : Method := { name := "length", desc := "()I", sig := { parameters := [], returnType := some .int }, accessFlags := 1, code := some k7c2 }
def k7c3 : Code := { maxStack := 2, maxLocals := 2, code := jdk_42_method_56_code, exceptionTable := #[], attributes := #[] }
def k7m3 : Method := { name := "charAt", desc := "(I)C", sig := { parameters := [.int], returnType := some .char }, accessFlags := 1, code := some k7c3 }
def k7c4 : Code := { maxStack := 2, maxLocals := 3, code := jdk_42_method_66_code, exceptionTable := #[], attributes := #[] }
def k7m4 : Method := { name := "equals", desc := "(Ljava/lang/Object;)Z", sig := { parameters := [(.object "java/lang/Object")], returnType := some .boolean }, accessFlags := 1, code := some k7c4 }
def k7c5 : Code := { maxStack := 6, maxLocals := 2, code := jdk_42_method_70_code, exceptionTable := #[], attributes := #[] }
def k7m5 : Method := { name := "equalsIgnoreCase", desc := "(Ljava/lang/String;)Z", sig := { parameters := [(.object "java/lang/String")], returnType := some .boolean }, accessFlags := 1, code := some k7c5 }
def k7c6 : Code := { maxStack := 6, maxLocals := 9, code := jdk_42_method_74_code, exceptionTable := #[], attributes := #[] }
def k7m6 : Method := { name := "regionMatches", desc := "(ZILjava/lang/String;II)Z", sig := { parameters := [.boolean, .int, (.object "java/lang/String"), .int, .int], returnType := some .boolean }, accessFlags := 1, code := some k7c6 }
def k7c7 : Code := { maxStack := 3, maxLocals := 5, code := jdk_42_method_92_code, exceptionTable := #[], attributes := #[] }
def k7m7 : Method := { name := "substring", desc := "(II)Ljava/lang/String;", sig := { parameters := [.int, .int], returnType := some (.object "java/lang/String") }, accessFlags := 1, code := some k7c7 }
def k7c8 : Code := { maxStack := 3, maxLocals := 2, code := jdk_42_method_109_code, exceptionTable := #[], attributes := #[] }
def k7m8 : Method := { name := "toLowerCase", desc := "(Ljava/util/Locale;)Ljava/lang/String;", sig := { parameters := [(.object "java/util/Locale")], returnType := some (.object "java/lang/String") }, accessFlags := 1, code := some k7c8 }
def k7c9 : Code := { maxStack := 4, maxLocals := 6, code := jdk_42_method_149_code, exceptionTable := #[], attributes := #[] }
def k7m9 : Method := { name := "<init>", desc := "([CIILjava/lang/Void;)V", sig := { parameters := [(.array .char), .int, .int, (.object "java/lang/Void")], returnType := none }, accessFlags := 2, code := some k7c9 }
def k7c10 : Code := { maxStack := 2, maxLocals := 3, code := jdk_42_method_151_code, exceptionTable := #[], attributes := #[] }
def k7m10 : Method := { name := "<init>", desc := "([BB)V", sig := { parameters := [(.array .byte), .byte], returnType := none }, accessFlags := 0, code := some k7c10 }
def k7c11 : Code := { maxStack := 1, maxLocals := 1, code := jdk_42_method_152_code, exceptionTable := #[], attributes := #[] }
def k7m11 : Method := { name := "coder", desc := "()B", sig := { parameters := [], returnType := some .byte }, accessFlags := 0, code := some k7c11 }
def k7c12 : Code := { maxStack := 1, maxLocals := 1, code := jdk_42_method_154_code, exceptionTable := #[], attributes := #[] }
def k7m12 : Method := { name := "isLatin1", desc := "()Z", sig := { parameters := [], returnType := some .boolean }, accessFlags := 0, code := some k7c12 }
def k7c13 : Code := { maxStack := 3, maxLocals := 2, code := jdk_42_method_155_code, exceptionTable := #[], attributes := #[] }
def k7m13 : Method := { name := "checkIndex", desc := "(II)V", sig := { parameters := [.int, .int], returnType := none }, accessFlags := 8, code := some k7c13 }
def k7c14 : Code := { maxStack := 4, maxLocals := 3, code := jdk_42_method_158_code, exceptionTable := #[], attributes := #[] }
def k7m14 : Method := { name := "checkBoundsBeginEnd", desc := "(III)V", sig := { parameters := [.int, .int, .int], returnType := none }, accessFlags := 8, code := some k7c14 }
/-- java/lang/String -/
def k7 : Class := { plain "java/lang/String" (some 0) with
  accessFlags := 49
  interfaces := #[2, 3, 4, 5, 6]
  cf := some (fileOf pool7 10 #[.nestMembers #[1103]] #[{ accessFlags := 1, nameIndex := 5, descriptorIndex := 6, attributes := #[] }, { accessFlags := 1, nameIndex := 5, descriptorIndex := 1010, attributes := #[] }, { accessFlags := 1, nameIndex := 507, descriptorIndex := 334, attributes := #[] }, { accessFlags := 1, nameIndex := 497, descriptorIndex := 427, attributes := #[] }, { accessFlags := 1, nameIndex := 543, descriptorIndex := 573, attributes := #[] }, { accessFlags := 1, nameIndex := 1256, descriptorIndex := 1257, attributes := #[] }, { accessFlags := 1, nameIndex := 584, descriptorIndex := 585, attributes := #[] }, { accessFlags := 1, nameIndex := 683, descriptorIndex := 684, attributes := #[] }, { accessFlags := 1, nameIndex := 841, descriptorIndex := 852, attributes := #[] }, { accessFlags := 2, nameIndex := 5, descriptorIndex := 29, attributes := #[] }, { accessFlags := 0, nameIndex := 5, descriptorIndex := 211, attributes := #[] }, { accessFlags := 0, nameIndex := 17, descriptorIndex := 337, attributes := #[] }, { accessFlags := 0, nameIndex := 494, descriptorIndex := 142, attributes := #[] }, { accessFlags := 8, nameIndex := 501, descriptorIndex := 391, attributes := #[] }, { accessFlags := 8, nameIndex := 523, descriptorIndex := 524, attributes := #[] }] 49 2 #[1106, 1108, 575, 1110, 1112] #[{ accessFlags := 18, nameIndex := 13, descriptorIndex := 14, attributes := #[] }, { accessFlags := 18, nameIndex := 17, descriptorIndex := 18, attributes := #[] }, { accessFlags := 2, nameIndex := 21, descriptorIndex := 22, attributes := #[] }, { accessFlags := 2, nameIndex := 25, descriptorIndex := 26, attributes := #[] }, { accessFlags := 26, nameIndex := 1116, descriptorIndex := 1117, attributes := #[] }, { accessFlags := 24, nameIndex := 40, descriptorIndex := 26, attributes := #[] }, { accessFlags := 26, nameIndex := 1101, descriptorIndex := 1102, attributes := #[] }, { accessFlags := 26, nameIndex := 1121, descriptorIndex := 1122, attributes := #[] }, { accessFlags := 25, nameIndex := 599, descriptorIndex := 600, attributes := #[] }, { accessFlags := 24, nameIndex := 1125, descriptorIndex := 18, attributes := #[] }, { accessFlags := 24, nameIndex := 1127, descriptorIndex := 18, attributes := #[] }])
  fields := #[{ name := "value", type := (.array .byte), accessFlags := 18, slot := 0, constantValue := 0 }, { name := "coder", type := .byte, accessFlags := 18, slot := 1, constantValue := 0 }, { name := "hash", type := .int, accessFlags := 2, slot := 2, constantValue := 0 }, { name := "hashIsZero", type := .boolean, accessFlags := 2, slot := 3, constantValue := 0 }, { name := "serialVersionUID", type := .long, accessFlags := 26, slot := 0, constantValue := 0 }, { name := "COMPACT_STRINGS", type := .boolean, accessFlags := 24, slot := 1, constantValue := 0 }, { name := "serialPersistentFields", type := (.array (.object "java/io/ObjectStreamField")), accessFlags := 26, slot := 2, constantValue := 0 }, { name := "REPL", type := .char, accessFlags := 26, slot := 3, constantValue := 0 }, { name := "CASE_INSENSITIVE_ORDER", type := (.object "java/util/Comparator"), accessFlags := 25, slot := 4, constantValue := 0 }, { name := "LATIN1", type := .byte, accessFlags := 24, slot := 5, constantValue := 0 }, { name := "UTF16", type := .byte, accessFlags := 24, slot := 6, constantValue := 0 }]
  methods := #[k7m0, k7m1, k7m2, k7m3, k7m4, k7m5, k7m6, k7m7, k7m8, k7m9, k7m10, k7m11, k7m12, k7m13, k7m14]
  instanceTypes := #[(.array .byte), .byte, .int, .boolean]
  staticTypes := #[.long, .boolean, (.array (.object "java/io/ObjectStreamField")), .char, (.object "java/util/Comparator"), .byte, .byte]
  resolved := Array.replicate 1451 none
  statics := some 0 }

def pool8 : Array CpInfo := pool [(6, .class_ 8), (1, u "java/lang/Object"), (0, u "<init>"), (0, u "()V"), (1, .class_ 14), (1, u "java/lang/StringUTF16"), (31, u "$assertionsDisabled"), (0, u "Z"), (13, u "HI_BYTE_SHIFT"), (0, u "I"), (2, u "LO_BYTE_SHIFT"), (49, .methodref 12 116), (0, .nameAndType 117 118), (0, u "compress"), (0, u "([CI[BII)I"), (3, u "([CII)[B"), (138, u "coderFromArrayLen"), (0, u "([BI)B"), (106, .class_ 371), (1, u "java/lang/StringUTF16$LinesSpliterator"), (58, u "MAX_LENGTH"), (196, .class_ 628), (0, u "java/lang/StringUTF16$CodePointsSpliterator"), (0, .class_ 630), (0, u "java/lang/StringUTF16$CharsSpliterator")] 4

def k8m0 : Method := { name := "<init>", desc := "()V", sig := { parameters := [], returnType := none }, accessFlags := 0, code := none }
def k8c1 : Code := { maxStack := 2, maxLocals := 2, code := jdk_52_method_15_code, exceptionTable := #[], attributes := #[] }
def k8m1 : Method := { name := "coderFromArrayLen", desc := "([BI)B", sig := { parameters := [(.array .byte), .int], returnType := some .byte }, accessFlags := 8, code := some k8c1 }
def k8c2 : Code := { maxStack := 5, maxLocals := 6, code := jdk_52_method_16_code, exceptionTable := #[], attributes := #[] }
def k8m2 : Method := { name := "compress", desc := "([CII)[B", sig := { parameters := [(.array .char), .int, .int], returnType := some (.array .byte) }, accessFlags := 9, code := some k8c2 }
def k8c3 : Code := { maxStack := 3, maxLocals := 7, code := jdk_52_method_21_code, exceptionTable := #[], attributes := #[] }
def k8m3 : Method := { name := "compress", desc := "([CI[BII)I", sig := { parameters := [(.array .char), .int, (.array .byte), .int, .int], returnType := some .int }, accessFlags := 9, code := some k8c3 }
/-- java/lang/StringUTF16 -/
def k8 : Class := { plain "java/lang/StringUTF16" (some 0) with
  accessFlags := 48
  interfaces := #[]
  cf := some (fileOf pool8 12 #[.nestMembers #[627, 629, 369]] #[{ accessFlags := 0, nameIndex := 9, descriptorIndex := 10, attributes := #[] }, { accessFlags := 8, nameIndex := 261, descriptorIndex := 262, attributes := #[] }, { accessFlags := 9, nameIndex := 117, descriptorIndex := 122, attributes := #[] }, { accessFlags := 9, nameIndex := 117, descriptorIndex := 118, attributes := #[] }] 48 6 #[] #[{ accessFlags := 26, nameIndex := 61, descriptorIndex := 62, attributes := #[] }, { accessFlags := 26, nameIndex := 65, descriptorIndex := 62, attributes := #[] }, { accessFlags := 24, nameIndex := 430, descriptorIndex := 62, attributes := #[] }, { accessFlags := 4120, nameIndex := 46, descriptorIndex := 47, attributes := #[] }])
  fields := #[{ name := "HI_BYTE_SHIFT", type := .int, accessFlags := 26, slot := 0, constantValue := 0 }, { name := "LO_BYTE_SHIFT", type := .int, accessFlags := 26, slot := 1, constantValue := 0 }, { name := "MAX_LENGTH", type := .int, accessFlags := 24, slot := 2, constantValue := 0 }, { name := "$assertionsDisabled", type := .boolean, accessFlags := 4120, slot := 3, constantValue := 0 }]
  methods := #[k8m0, k8m1, k8m2, k8m3]
  instanceTypes := #[]
  staticTypes := #[.int, .int, .int, .boolean]
  resolved := Array.replicate 635 none
  statics := none }

def pool9 : Array CpInfo := pool [(1, .methodref 2 3), (0, .class_ 4), (0, .nameAndType 5 6), (0, u "java/lang/Object"), (0, u "<init>"), (0, u "()V"), (0, .fieldref 8 9), (0, .class_ 10), (0, .nameAndType 11 12), (0, u "com/example/lease_over_store/leaseoverstore/lease/StoreUrl"), (0, u "url"), (0, u "Ljava/lang/String;"), (0, .fieldref 8 14), (0, .nameAndType 15 12), (0, u "scheme"), (0, .string 11), (0, .methodref 18 19), (0, .class_ 20), (0, .nameAndType 21 22), (0, u "java/util/Objects"), (0, u "requireNonNull"), (0, u "(Ljava/lang/Object;Ljava/lang/String;)Ljava/lang/Object;"), (0, .methodref 8 24), (0, .nameAndType 25 26), (0, u "schemeEnd"), (0, u "(Ljava/lang/String;I)I"), (7, .methodref 35 36), (0, .class_ 37), (0, .nameAndType 38 39), (0, u "java/lang/String"), (0, u "substring"), (0, u "(II)Ljava/lang/String;"), (0, .string 41), (0, u "jdbc"), (0, .methodref 35 43), (0, .nameAndType 44 45), (0, u "equalsIgnoreCase"), (0, u "(Ljava/lang/String;)Z"), (2, .fieldref 49 50), (0, .class_ 51), (0, .nameAndType 52 53), (0, u "java/util/Locale"), (0, u "ROOT"), (0, u "Ljava/util/Locale;"), (0, .methodref 35 55), (0, .nameAndType 56 57), (0, u "toLowerCase"), (0, u "(Ljava/util/Locale;)Ljava/lang/String;"), (0, .methodref 8 59), (0, .nameAndType 5 60), (0, u "(Ljava/lang/String;Ljava/lang/String;)V"), (0, .methodref 35 62), (0, .nameAndType 63 64), (0, u "length"), (0, u "()I"), (0, .methodref 35 66), (0, .nameAndType 67 68), (0, u "charAt"), (0, u "(I)C"), (0, .methodref 8 70), (0, .nameAndType 71 72), (0, u "isAsciiLetter"), (0, u "(C)Z"), (0, .methodref 8 74), (0, .nameAndType 75 72), (0, u "isSchemeChar"), (0, u "JDBC"), (3, u "parse"), (0, u "(Ljava/lang/String;)Lcom/example/lease_over_store/leaseoverstore/lease/StoreUrl;"), (1, u "()Ljava/lang/String;")] 2

def k9c0 : Code := { maxStack := 2, maxLocals := 3, code := prog_24_method_1_code, exceptionTable := #[], attributes := #[] }
def k9m0 : Method := { name := "<init>", desc := "(Ljava/lang/String;Ljava/lang/String;)V", sig := { parameters := [(.object "java/lang/String"), (.object "java/lang/String")], returnType := none }, accessFlags := 2, code := some k9c0 }
def k9c1 : Code := { maxStack := 6, maxLocals := 3, code := prog_24_method_2_code, exceptionTable := #[], attributes := #[] }
def k9m1 : Method := { name := "parse", desc := "(Ljava/lang/String;)Lcom/example/lease_over_store/leaseoverstore/lease/StoreUrl;", sig := { parameters := [(.object "java/lang/String")], returnType := some (.object "com/example/lease_over_store/leaseoverstore/lease/StoreUrl") }, accessFlags := 9, code := some k9c1 }
def k9c2 : Code := { maxStack := 1, maxLocals := 1, code := prog_24_method_3_code, exceptionTable := #[], attributes := #[] }
def k9m2 : Method := { name := "scheme", desc := "()Ljava/lang/String;", sig := { parameters := [], returnType := some (.object "java/lang/String") }, accessFlags := 1, code := some k9c2 }
def k9c3 : Code := { maxStack := 1, maxLocals := 1, code := prog_24_method_4_code, exceptionTable := #[], attributes := #[] }
def k9m3 : Method := { name := "url", desc := "()Ljava/lang/String;", sig := { parameters := [], returnType := some (.object "java/lang/String") }, accessFlags := 1, code := some k9c3 }
def k9c4 : Code := { maxStack := 2, maxLocals := 4, code := prog_24_method_5_code, exceptionTable := #[], attributes := #[] }
def k9m4 : Method := { name := "schemeEnd", desc := "(Ljava/lang/String;I)I", sig := { parameters := [(.object "java/lang/String"), .int], returnType := some .int }, accessFlags := 10, code := some k9c4 }
def k9c5 : Code := { maxStack := 2, maxLocals := 1, code := prog_24_method_6_code, exceptionTable := #[], attributes := #[] }
def k9m5 : Method := { name := "isSchemeChar", desc := "(C)Z", sig := { parameters := [.char], returnType := some .boolean }, accessFlags := 10, code := some k9c5 }
def k9c6 : Code := { maxStack := 2, maxLocals := 1, code := prog_24_method_7_code, exceptionTable := #[], attributes := #[] }
def k9m6 : Method := { name := "isAsciiLetter", desc := "(C)Z", sig := { parameters := [.char], returnType := some .boolean }, accessFlags := 10, code := some k9c6 }
/-- com/example/lease_over_store/leaseoverstore/lease/StoreUrl -/
def k9 : Class := { plain "com/example/lease_over_store/leaseoverstore/lease/StoreUrl" (some 0) with
  accessFlags := 33
  interfaces := #[]
  cf := some (fileOf pool9 8 #[] #[{ accessFlags := 2, nameIndex := 5, descriptorIndex := 60, attributes := #[] }, { accessFlags := 9, nameIndex := 80, descriptorIndex := 81, attributes := #[] }, { accessFlags := 1, nameIndex := 15, descriptorIndex := 83, attributes := #[] }, { accessFlags := 1, nameIndex := 11, descriptorIndex := 83, attributes := #[] }, { accessFlags := 10, nameIndex := 25, descriptorIndex := 26, attributes := #[] }, { accessFlags := 10, nameIndex := 75, descriptorIndex := 72, attributes := #[] }, { accessFlags := 10, nameIndex := 71, descriptorIndex := 72, attributes := #[] }] 33 2 #[] #[{ accessFlags := 26, nameIndex := 76, descriptorIndex := 12, attributes := #[] }, { accessFlags := 18, nameIndex := 11, descriptorIndex := 12, attributes := #[] }, { accessFlags := 18, nameIndex := 15, descriptorIndex := 12, attributes := #[] }])
  fields := #[{ name := "JDBC", type := (.object "java/lang/String"), accessFlags := 26, slot := 0, constantValue := 0 }, { name := "url", type := (.object "java/lang/String"), accessFlags := 18, slot := 0, constantValue := 0 }, { name := "scheme", type := (.object "java/lang/String"), accessFlags := 18, slot := 1, constantValue := 0 }]
  methods := #[k9m0, k9m1, k9m2, k9m3, k9m4, k9m5, k9m6]
  instanceTypes := #[(.object "java/lang/String"), (.object "java/lang/String")]
  staticTypes := #[(.object "java/lang/String")]
  resolved := Array.replicate 86 none
  statics := none }

def pool10 : Array CpInfo := pool [(2, .class_ 4), (1, u "java/lang/Object"), (0, u "<init>"), (0, u "()V"), (35, .class_ 44), (1, u "java/util/Objects"), (0, u "requireNonNull"), (48, u "(Ljava/lang/Object;Ljava/lang/String;)Ljava/lang/Object;")] 89

def k10m0 : Method := { name := "<init>", desc := "()V", sig := { parameters := [], returnType := none }, accessFlags := 2, code := none }
def k10c1 : Code := { maxStack := 3, maxLocals := 2, code := jdk_31_method_11_code, exceptionTable := #[], attributes := #[] }
def k10m1 : Method := { name := "requireNonNull", desc := "(Ljava/lang/Object;Ljava/lang/String;)Ljava/lang/Object;", sig := { parameters := [(.object "java/lang/Object"), (.object "java/lang/String")], returnType := some (.object "java/lang/Object") }, accessFlags := 9, code := some k10c1 }
/-- java/util/Objects -/
def k10 : Class := { plain "java/util/Objects" (some 0) with
  accessFlags := 49
  interfaces := #[]
  cf := some (fileOf pool10 42 #[] #[{ accessFlags := 2, nameIndex := 5, descriptorIndex := 6, attributes := #[] }, { accessFlags := 9, nameIndex := 45, descriptorIndex := 94, attributes := #[] }] 49 2 #[] #[])
  fields := #[]
  methods := #[k10m0, k10m1]
  instanceTypes := #[]
  staticTypes := #[]
  resolved := Array.replicate 184 none
  statics := none }

def pool11 : Array CpInfo := pool [(1, .class_ 2), (0, u "java/lang/String"), (1, .class_ 6), (1, u "java/lang/Object"), (0, u "<init>"), (0, u "()V"), (0, .methodref 1 10), (0, .nameAndType 11 12), (0, u "checkIndex"), (0, u "(II)V"), (1, .class_ 16), (1, u "java/lang/StringLatin1"), (11, .methodref 29 30), (0, .class_ 31), (0, .nameAndType 32 33), (0, u "java/lang/System"), (0, u "arraycopy"), (0, u "(Ljava/lang/Object;ILjava/lang/Object;II)V"), (19, u "([BI)C"), (12, .fieldref 67 68), (0, .class_ 69), (0, .nameAndType 70 71), (0, u "java/lang/CharacterDataLatin1"), (0, u "instance"), (0, u "Ljava/lang/CharacterDataLatin1;"), (3, u "(I)I"), (4, u "toLowerCase"), (7, .methodref 14 89), (0, .nameAndType 90 91), (0, u "canEncode"), (0, u "(I)Z"), (20, .methodref 1 113), (0, .nameAndType 7 114), (0, u "([BB)V"), (6, u "$assertionsDisabled"), (0, u "Z"), (8, .class_ 133), (1, u "java/util/Arrays"), (19, .methodref 67 154), (0, .nameAndType 155 156), (0, u "equalsIgnoreCase"), (0, u "(BB)Z"), (3, .methodref 67 161), (0, .nameAndType 80 75), (0, .methodref 163 164), (0, .class_ 165), (0, .nameAndType 166 167), (0, u "java/util/Locale"), (0, u "getLanguage"), (0, u "()Ljava/lang/String;"), (0, .string 169), (0, u "tr"), (0, .string 171), (0, u "az"), (0, .string 173), (0, u "lt"), (22, u "newString"), (0, u "([BII)Ljava/lang/String;"), (23, .class_ 223), (1, u "java/lang/StringLatin1$LinesSpliterator"), (8, .methodref 131 233), (0, .nameAndType 234 235), (0, u "copyOfRange"), (0, u "([BII)[B"), (16, u "charAt"), (87, u "regionMatchesCI"), (0, u "([BI[BII)Z"), (8, u "(Ljava/lang/String;[BLjava/util/Locale;)Ljava/lang/String;"), (39, .class_ 391), (0, u "java/lang/StringLatin1$CharsSpliterator")] 3

def k11m0 : Method := { name := "<init>", desc := "()V", sig := { parameters := [], returnType := none }, accessFlags := 0, code := none }
def k11c1 : Code := { maxStack := 2, maxLocals := 2, code := jdk_43_method_2_code, exceptionTable := #[], attributes := #[] }
def k11m1 : Method := { name := "charAt", desc := "([BI)C", sig := { parameters := [(.array .byte), .int], returnType := some .char }, accessFlags := 9, code := some k11c1 }
def k11c2 : Code := { maxStack := 2, maxLocals := 1, code := jdk_43_method_4_code, exceptionTable := #[], attributes := #[] }
def k11m2 : Method := { name := "canEncode", desc := "(I)Z", sig := { parameters := [.int], returnType := some .boolean }, accessFlags := 9, code := some k11c2 }
def k11c3 : Code := { maxStack := 2, maxLocals := 8, code := jdk_43_method_30_code, exceptionTable := #[], attributes := #[] }
def k11m3 : Method := { name := "regionMatchesCI", desc := "([BI[BII)Z", sig := { parameters := [(.array .byte), .int, (.array .byte), .int, .int], returnType := some .boolean }, accessFlags := 9, code := some k11c3 }
def k11c4 : Code := { maxStack := 5, maxLocals := 9, code := jdk_43_method_32_code, exceptionTable := #[], attributes := #[] }
def k11m4 : Method := { name := "toLowerCase", desc := "(Ljava/lang/String;[BLjava/util/Locale;)Ljava/lang/String;", sig := { parameters := [(.object "java/lang/String"), (.array .byte), (.object "java/util/Locale")], returnType := some (.object "java/lang/String") }, accessFlags := 9, code := some k11c4 }
def k11c5 : Code := { maxStack := 6, maxLocals := 3, code := jdk_43_method_47_code, exceptionTable := #[], attributes := #[] }
def k11m5 : Method := { name := "newString", desc := "([BII)Ljava/lang/String;", sig := { parameters := [(.array .byte), .int, .int], returnType := some (.object "java/lang/String") }, accessFlags := 9, code := some k11c5 }
/-- java/lang/StringLatin1 -/
def k11 : Class := { plain "java/lang/StringLatin1" (some 0) with
  accessFlags := 48
  interfaces := #[]
  cf := some (fileOf pool11 14 #[.nestMembers #[390, 221]] #[{ accessFlags := 0, nameIndex := 7, descriptorIndex := 8, attributes := #[] }, { accessFlags := 9, nameIndex := 252, descriptorIndex := 53, attributes := #[] }, { accessFlags := 9, nameIndex := 90, descriptorIndex := 91, attributes := #[] }, { accessFlags := 9, nameIndex := 340, descriptorIndex := 341, attributes := #[] }, { accessFlags := 9, nameIndex := 80, descriptorIndex := 350, attributes := #[] }, { accessFlags := 9, nameIndex := 196, descriptorIndex := 197, attributes := #[] }] 48 4 #[] #[{ accessFlags := 4120, nameIndex := 121, descriptorIndex := 122, attributes := #[] }])
  fields := #[{ name := "$assertionsDisabled", type := .boolean, accessFlags := 4120, slot := 0, constantValue := 0 }]
  methods := #[k11m0, k11m1, k11m2, k11m3, k11m4, k11m5]
  instanceTypes := #[]
  staticTypes := #[.boolean]
  resolved := Array.replicate 395 none
  statics := none }

def pool12 : Array CpInfo := pool [(2, .class_ 4), (1, u "java/lang/Object"), (0, u "<init>"), (0, u "()V"), (17, .class_ 26), (1, u "jdk/internal/util/Preconditions"), (6, u "checkIndex"), (13, u "checkFromToIndex"), (7, .class_ 56), (0, u "jdk/internal/util/Preconditions$4"), (57, .class_ 115), (0, u "jdk/internal/util/Preconditions$1"), (7, u "SIOOBE_FORMATTER"), (0, u "Ljava/util/function/BiFunction;"), (0, .class_ 126), (0, u "jdk/internal/util/Preconditions$2"), (3, u "AIOOBE_FORMATTER"), (0, .class_ 132), (0, u "jdk/internal/util/Preconditions$3"), (3, u "IOOBE_FORMATTER"), (41, u "(IILjava/util/function/BiFunction;)I"), (4, u "(IIILjava/util/function/BiFunction;)I")] 10

def k12m0 : Method := { name := "<init>", desc := "()V", sig := { parameters := [], returnType := none }, accessFlags := 1, code := none }
def k12c1 : Code := { maxStack := 3, maxLocals := 3, code := jdk_41_method_11_code, exceptionTable := #[], attributes := #[] }
def k12m1 : Method := { name := "checkIndex", desc := "(IILjava/util/function/BiFunction;)I", sig := { parameters := [.int, .int, (.object "java/util/function/BiFunction")], returnType := some .int }, accessFlags := 9, code := some k12c1 }
def k12c2 : Code := { maxStack := 4, maxLocals := 4, code := jdk_41_method_12_code, exceptionTable := #[], attributes := #[] }
def k12m2 : Method := { name := "checkFromToIndex", desc := "(IIILjava/util/function/BiFunction;)I", sig := { parameters := [.int, .int, .int, (.object "java/util/function/BiFunction")], returnType := some .int }, accessFlags := 9, code := some k12c2 }
/-- jdk/internal/util/Preconditions -/
def k12 : Class := { plain "jdk/internal/util/Preconditions" (some 0) with
  accessFlags := 33
  interfaces := #[]
  cf := some (fileOf pool12 24 #[.nestMembers #[55, 131, 125, 114]] #[{ accessFlags := 1, nameIndex := 5, descriptorIndex := 6, attributes := #[] }, { accessFlags := 9, nameIndex := 33, descriptorIndex := 178, attributes := #[] }, { accessFlags := 9, nameIndex := 47, descriptorIndex := 183, attributes := #[] }] 33 2 #[] #[{ accessFlags := 25, nameIndex := 123, descriptorIndex := 124, attributes := #[] }, { accessFlags := 25, nameIndex := 130, descriptorIndex := 124, attributes := #[] }, { accessFlags := 25, nameIndex := 136, descriptorIndex := 124, attributes := #[] }])
  fields := #[{ name := "SIOOBE_FORMATTER", type := (.object "java/util/function/BiFunction"), accessFlags := 25, slot := 0, constantValue := 0 }, { name := "AIOOBE_FORMATTER", type := (.object "java/util/function/BiFunction"), accessFlags := 25, slot := 1, constantValue := 0 }, { name := "IOOBE_FORMATTER", type := (.object "java/util/function/BiFunction"), accessFlags := 25, slot := 2, constantValue := 0 }]
  methods := #[k12m0, k12m1, k12m2]
  instanceTypes := #[]
  staticTypes := #[(.object "java/util/function/BiFunction"), (.object "java/util/function/BiFunction"), (.object "java/util/function/BiFunction")]
  resolved := Array.replicate 194 none
  statics := some 1 }

def pool13 : Array CpInfo := pool [(2, .class_ 4), (1, u "java/lang/Object"), (0, u "<init>"), (0, u "()V"), (7, .class_ 16), (1, u "java/util/Arrays"), (57, .class_ 76), (1, u "java/util/Arrays$NaturalOrder"), (36, .class_ 115), (1, u "java/util/Arrays$LegacyMergeSort"), (1, u "Z"), (21, u "copyOfRange"), (10, .methodref 151 152), (0, .class_ 153), (0, .nameAndType 154 155), (0, u "java/lang/System"), (0, u "arraycopy"), (0, u "(Ljava/lang/Object;ILjava/lang/Object;II)V"), (148, .methodref 305 306), (0, .class_ 307), (0, .nameAndType 308 309), (0, u "java/lang/Math"), (0, u "min"), (0, u "(II)I"), (29, .methodref 14 340), (0, .nameAndType 341 342), (0, u "copyOfRangeByte"), (0, u "([BII)[B"), (0, .methodref 14 344), (0, .nameAndType 345 346), (0, u "checkLength"), (0, u "(II)V"), (28, .class_ 376), (0, u "java/util/Arrays$ArrayList"), (68, u "$assertionsDisabled"), (269, u "MIN_ARRAY_SORT_GRAN"), (0, u "I"), (2, u "INSERTIONSORT_THRESHOLD"), (255, .class_ 976), (0, u "java/util/Arrays$ArrayItr")] 52

def k13m0 : Method := { name := "<init>", desc := "()V", sig := { parameters := [], returnType := none }, accessFlags := 2, code := none }
def k13c1 : Code := { maxStack := 4, maxLocals := 2, code := jdk_65_method_131_code, exceptionTable := #[], attributes := #[] }
def k13m1 : Method := { name := "checkLength", desc := "(II)V", sig := { parameters := [.int, .int], returnType := none }, accessFlags := 10, code := some k13c1 }
def k13c2 : Code := { maxStack := 3, maxLocals := 3, code := jdk_65_method_132_code, exceptionTable := #[], attributes := #[] }
def k13m2 : Method := { name := "copyOfRange", desc := "([BII)[B", sig := { parameters := [(.array .byte), .int, .int], returnType := some (.array .byte) }, accessFlags := 9, code := some k13c2 }
def k13c3 : Code := { maxStack := 6, maxLocals := 5, code := jdk_65_method_133_code, exceptionTable := #[], attributes := #[] }
def k13m3 : Method := { name := "copyOfRangeByte", desc := "([BII)[B", sig := { parameters := [(.array .byte), .int, .int], returnType := some (.array .byte) }, accessFlags := 10, code := some k13c3 }
/-- java/util/Arrays -/
def k13 : Class := { plain "java/util/Arrays" (some 0) with
  accessFlags := 49
  interfaces := #[]
  cf := some (fileOf pool13 14 #[.nestMembers #[975, 375, 113, 74]] #[{ accessFlags := 2, nameIndex := 5, descriptorIndex := 6, attributes := #[] }, { accessFlags := 10, nameIndex := 345, descriptorIndex := 346, attributes := #[] }, { accessFlags := 9, nameIndex := 139, descriptorIndex := 342, attributes := #[] }, { accessFlags := 10, nameIndex := 341, descriptorIndex := 342, attributes := #[] }] 49 2 #[] #[{ accessFlags := 26, nameIndex := 715, descriptorIndex := 716, attributes := #[] }, { accessFlags := 26, nameIndex := 719, descriptorIndex := 716, attributes := #[] }, { accessFlags := 4120, nameIndex := 445, descriptorIndex := 117, attributes := #[] }])
  fields := #[{ name := "MIN_ARRAY_SORT_GRAN", type := .int, accessFlags := 26, slot := 0, constantValue := 0 }, { name := "INSERTIONSORT_THRESHOLD", type := .int, accessFlags := 26, slot := 1, constantValue := 0 }, { name := "$assertionsDisabled", type := .boolean, accessFlags := 4120, slot := 2, constantValue := 0 }]
  methods := #[k13m0, k13m1, k13m2, k13m3]
  instanceTypes := #[]
  staticTypes := #[.int, .int, .boolean]
  resolved := Array.replicate 1029 none
  statics := none }

def pool14 : Array CpInfo := pool [(1, .class_ 2), (0, u "java/lang/Math"), (1, .class_ 6), (1, u "java/lang/Object"), (0, u "<init>"), (0, u "()V"), (89, .class_ 100), (1, u "java/lang/Math$RandomNumberGeneratorHolder"), (71, u "negativeZeroFloatBits"), (0, u "J"), (2, u "negativeZeroDoubleBits"), (24, u "min"), (43, u "$assertionsDisabled"), (0, u "Z"), (88, u "(II)I"), (2, u "twoToTheDoubleScaleDown"), (0, u "D"), (4, u "twoToTheDoubleScaleUp"), (9, u "E"), (3, u "PI"), (2, u "TAU"), (2, u "DEGREES_TO_RADIANS"), (0, u "RADIANS_TO_DEGREES")] 94

def k14m0 : Method := { name := "<init>", desc := "()V", sig := { parameters := [], returnType := none }, accessFlags := 2, code := none }
def k14c1 : Code := { maxStack := 2, maxLocals := 2, code := jdk_29_method_69_code, exceptionTable := #[], attributes := #[] }
def k14m1 : Method := { name := "min", desc := "(II)I", sig := { parameters := [.int, .int], returnType := some .int }, accessFlags := 9, code := some k14c1 }
/-- java/lang/Math -/
def k14 : Class := { plain "java/lang/Math" (some 0) with
  accessFlags := 49
  interfaces := #[]
  cf := some (fileOf pool14 1 #[.nestMembers #[98]] #[{ accessFlags := 2, nameIndex := 7, descriptorIndex := 8, attributes := #[] }, { accessFlags := 9, nameIndex := 201, descriptorIndex := 335, attributes := #[] }] 49 4 #[] #[{ accessFlags := 25, nameIndex := 354, descriptorIndex := 339, attributes := #[] }, { accessFlags := 25, nameIndex := 358, descriptorIndex := 339, attributes := #[] }, { accessFlags := 25, nameIndex := 361, descriptorIndex := 339, attributes := #[] }, { accessFlags := 26, nameIndex := 364, descriptorIndex := 339, attributes := #[] }, { accessFlags := 26, nameIndex := 365, descriptorIndex := 339, attributes := #[] }, { accessFlags := 26, nameIndex := 172, descriptorIndex := 173, attributes := #[] }, { accessFlags := 26, nameIndex := 176, descriptorIndex := 173, attributes := #[] }, { accessFlags := 8, nameIndex := 344, descriptorIndex := 339, attributes := #[] }, { accessFlags := 8, nameIndex := 338, descriptorIndex := 339, attributes := #[] }, { accessFlags := 4120, nameIndex := 245, descriptorIndex := 246, attributes := #[] }])
  fields := #[{ name := "E", type := .double, accessFlags := 25, slot := 0, constantValue := 0 }, { name := "PI", type := .double, accessFlags := 25, slot := 1, constantValue := 0 }, { name := "TAU", type := .double, accessFlags := 25, slot := 2, constantValue := 0 }, { name := "DEGREES_TO_RADIANS", type := .double, accessFlags := 26, slot := 3, constantValue := 0 }, { name := "RADIANS_TO_DEGREES", type := .double, accessFlags := 26, slot := 4, constantValue := 0 }, { name := "negativeZeroFloatBits", type := .long, accessFlags := 26, slot := 5, constantValue := 0 }, { name := "negativeZeroDoubleBits", type := .long, accessFlags := 26, slot := 6, constantValue := 0 }, { name := "twoToTheDoubleScaleUp", type := .double, accessFlags := 8, slot := 7, constantValue := 0 }, { name := "twoToTheDoubleScaleDown", type := .double, accessFlags := 8, slot := 8, constantValue := 0 }, { name := "$assertionsDisabled", type := .boolean, accessFlags := 4120, slot := 9, constantValue := 0 }]
  methods := #[k14m0, k14m1]
  instanceTypes := #[]
  staticTypes := #[.double, .double, .double, .double, .double, .long, .long, .double, .double, .boolean]
  resolved := Array.replicate 460 none
  statics := none }

def pool15 : Array CpInfo := pool [(2, .class_ 4), (1, u "java/lang/Object"), (0, u "<init>"), (0, u "()V"), (1, .class_ 10), (1, u "java/lang/System"), (0, u "allowSecurityManager"), (0, u "I"), (16, u "cons"), (0, u "Ljava/io/Console;"), (77, .class_ 110), (1, u "java/lang/System$CallersHolder"), (43, u "initialErrStream"), (0, u "Ljava/io/PrintStream;"), (19, u "security"), (0, u "Ljava/lang/SecurityManager;"), (31, .class_ 209), (0, u "java/lang/System$1"), (7, u "props"), (0, u "Ljava/util/Properties;"), (2, u "lineSeparator"), (0, u "Ljava/lang/String;"), (96, .class_ 321), (1, u "java/lang/System$LoggerFinder"), (5, .class_ 328), (0, u "java/lang/System$Logger"), (67, u "err"), (2, u "out"), (91, u "notSupportedJnuEncoding"), (15, u "in"), (17, u "initialIn"), (0, u "Ljava/io/InputStream;"), (35, u "bootLayer"), (0, u "Ljava/lang/ModuleLayer;"), (99, .class_ 664), (0, u "java/lang/System$2"), (9, u "NEVER"), (2, u "MAYBE"), (49, u "arraycopy"), (0, u "(Ljava/lang/Object;ILjava/lang/Object;II)V"), (72, .class_ 802), (0, u "java/lang/System$Logger$Level")] 31

def k15m0 : Method := { name := "<init>", desc := "()V", sig := { parameters := [], returnType := none }, accessFlags := 2, code := none }
def k15m1 : Method := { name := "arraycopy", desc := "(Ljava/lang/Object;ILjava/lang/Object;II)V", sig := { parameters := [(.object "java/lang/Object"), .int, (.object "java/lang/Object"), .int, .int], returnType := none }, accessFlags := 265, code := none }
/-- java/lang/System -/
def k15 : Class := { plain "java/lang/System" (some 0) with
  accessFlags := 49
  interfaces := #[]
  cf := some (fileOf pool15 8 #[.nestMembers #[319, 327, 801, 108, 663, 208]] #[{ accessFlags := 2, nameIndex := 5, descriptorIndex := 6, attributes := #[] }, { accessFlags := 265, nameIndex := 727, descriptorIndex := 728, attributes := #[] }] 49 2 #[] #[{ accessFlags := 25, nameIndex := 507, descriptorIndex := 526, attributes := #[] }, { accessFlags := 25, nameIndex := 399, descriptorIndex := 155, attributes := #[] }, { accessFlags := 25, nameIndex := 396, descriptorIndex := 155, attributes := #[] }, { accessFlags := 10, nameIndex := 525, descriptorIndex := 526, attributes := #[] }, { accessFlags := 26, nameIndex := 674, descriptorIndex := 12, attributes := #[] }, { accessFlags := 26, nameIndex := 677, descriptorIndex := 12, attributes := #[] }, { accessFlags := 10, nameIndex := 11, descriptorIndex := 12, attributes := #[] }, { accessFlags := 74, nameIndex := 175, descriptorIndex := 176, attributes := #[] }, { accessFlags := 10, nameIndex := 491, descriptorIndex := 222, attributes := #[] }, { accessFlags := 74, nameIndex := 29, descriptorIndex := 30, attributes := #[] }, { accessFlags := 74, nameIndex := 154, descriptorIndex := 155, attributes := #[] }, { accessFlags := 10, nameIndex := 217, descriptorIndex := 218, attributes := #[] }, { accessFlags := 10, nameIndex := 221, descriptorIndex := 222, attributes := #[] }, { accessFlags := 8, nameIndex := 562, descriptorIndex := 563, attributes := #[] }])
  fields := #[{ name := "in", type := (.object "java/io/InputStream"), accessFlags := 25, slot := 0, constantValue := 0 }, { name := "out", type := (.object "java/io/PrintStream"), accessFlags := 25, slot := 1, constantValue := 0 }, { name := "err", type := (.object "java/io/PrintStream"), accessFlags := 25, slot := 2, constantValue := 0 }, { name := "initialIn", type := (.object "java/io/InputStream"), accessFlags := 10, slot := 3, constantValue := 0 }, { name := "NEVER", type := .int, accessFlags := 26, slot := 4, constantValue := 0 }, { name := "MAYBE", type := .int, accessFlags := 26, slot := 5, constantValue := 0 }, { name := "allowSecurityManager", type := .int, accessFlags := 10, slot := 6, constantValue := 0 }, { name := "security", type := (.object "java/lang/SecurityManager"), accessFlags := 74, slot := 7, constantValue := 0 }, { name := "notSupportedJnuEncoding", type := (.object "java/lang/String"), accessFlags := 10, slot := 8, constantValue := 0 }, { name := "cons", type := (.object "java/io/Console"), accessFlags := 74, slot := 9, constantValue := 0 }, { name := "initialErrStream", type := (.object "java/io/PrintStream"), accessFlags := 74, slot := 10, constantValue := 0 }, { name := "props", type := (.object "java/util/Properties"), accessFlags := 10, slot := 11, constantValue := 0 }, { name := "lineSeparator", type := (.object "java/lang/String"), accessFlags := 10, slot := 12, constantValue := 0 }, { name := "bootLayer", type := (.object "java/lang/ModuleLayer"), accessFlags := 8, slot := 13, constantValue := 0 }]
  methods := #[k15m0, k15m1]
  instanceTypes := #[]
  staticTypes := #[(.object "java/io/InputStream"), (.object "java/io/PrintStream"), (.object "java/io/PrintStream"), (.object "java/io/InputStream"), .int, .int, .int, (.object "java/lang/SecurityManager"), (.object "java/lang/String"), (.object "java/io/Console"), (.object "java/io/PrintStream"), (.object "java/util/Properties"), (.object "java/lang/String"), (.object "java/lang/ModuleLayer")]
  resolved := Array.replicate 834 none
  statics := none }

def pool16 : Array CpInfo := pool [(1, .class_ 2), (0, u "java/lang/Cloneable"), (0, .class_ 4), (0, u "java/lang/Object")] 2

/-- java/lang/Cloneable -/
def k16 : Class := { plain "java/lang/Cloneable" (some 0) with
  accessFlags := 1537
  interfaces := #[]
  cf := some (fileOf pool16 1 #[] #[] 1537 3 #[] #[])
  fields := #[]
  methods := #[]
  instanceTypes := #[]
  staticTypes := #[]
  resolved := Array.replicate 7 none
  statics := none }

def pool17 : Array CpInfo := pool [(2, .class_ 4), (1, u "sun/util/locale/BaseLocale"), (2, .class_ 8), (0, u "java/util/Locale"), (6, u "CONSTANT_LOCALES"), (0, u "Ljava/util/Map;"), (7, .class_ 26), (1, u "java/lang/Object"), (1, .fieldref 7 29), (0, .nameAndType 30 31), (0, u "baseLocale"), (0, u "Lsun/util/locale/BaseLocale;"), (2, u "localeExtensions"), (0, u "Lsun/util/locale/LocaleExtensions;"), (31, .class_ 69), (1, u "java/util/Locale$Cache"), (3, .class_ 74), (0, u "java/util/Locale$LocaleKey"), (3, u "defaultLocale"), (0, u "Ljava/util/Locale;"), (6, .class_ 88), (1, u "java/util/Locale$Category"), (4, u "defaultDisplayLocale"), (6, u "$assertionsDisabled"), (0, u "Z"), (12, u "defaultFormatLocale"), (12, u "Ljava/lang/String;"), (131, u "isoCountries"), (0, u "[Ljava/lang/String;"), (15, .class_ 278), (1, u "java/util/Locale$IsoCountryCode"), (4, u "isoLanguages"), (9, .methodref 2 294), (0, .nameAndType 295 296), (0, u "getLanguage"), (0, u "()Ljava/lang/String;"), (78, u "languageTag"), (114, .class_ 492), (1, u "java/util/Locale$LocaleNameGetter"), (125, u "hashCodeValue"), (0, u "I"), (29, u "ROOT"), (129, .class_ 781), (1, u "java/util/Locale$FilteringMode"), (39, u "ENGLISH"), (2, u "FRENCH"), (2, u "GERMAN"), (2, u "ITALIAN"), (2, u "JAPANESE"), (2, u "KOREAN"), (2, u "CHINESE"), (2, u "SIMPLIFIED_CHINESE"), (2, u "TRADITIONAL_CHINESE"), (2, u "FRANCE"), (2, u "GERMANY"), (2, u "ITALY"), (2, u "JAPAN"), (2, u "KOREA"), (2, u "UK"), (2, u "US"), (2, u "CANADA"), (2, u "CANADA_FRENCH"), (2, u "CHINA"), (2, u "PRC"), (2, u "TAIWAN"), (13, u "serialPersistentFields"), (0, u "[Ljava/io/ObjectStreamField;"), (0, .class_ 898), (0, u "java/lang/Cloneable"), (0, .class_ 900), (0, u "java/io/Serializable"), (2, u "PRIVATE_USE_EXTENSION"), (0, u "C"), (2, u "UNICODE_LOCALE_EXTENSION"), (1, u "serialVersionUID"), (0, u "J"), (2, u "DISPLAY_LANGUAGE"), (1, u "DISPLAY_COUNTRY"), (1, u "DISPLAY_VARIANT"), (1, u "DISPLAY_SCRIPT"), (1, u "DISPLAY_UEXT_KEY"), (1, u "DISPLAY_UEXT_TYPE"), (174, .class_ 1099), (0, u "java/util/Locale$LanguageRange"), (0, .class_ 1101), (0, u "java/util/Locale$Builder"), (0, .class_ 1103), (0, u "java/util/Locale$IsoCountryCode$3"), (0, .class_ 1105), (0, u "java/util/Locale$IsoCountryCode$2"), (0, .class_ 1107), (0, u "java/util/Locale$IsoCountryCode$1")] 46

def k17c0 : Code := { maxStack := 1, maxLocals := 1, code := jdk_2628_method_27_code, exceptionTable := #[], attributes := #[] }
def k17m0 : Method := { name := "getLanguage", desc := "()Ljava/lang/String;", sig := { parameters := [], returnType := some (.object "java/lang/String") }, accessFlags := 1, code := some k17c0 }
/-- java/util/Locale -/
def k17 : Class := { plain "java/util/Locale" (some 0) with
  accessFlags := 49
  interfaces := #[16, 2]
  cf := some (fileOf pool17 7 #[.nestMembers #[1098, 779, 1100, 86, 490, 73, 67, 276, 1102, 1104, 1106]] #[{ accessFlags := 1, nameIndex := 295, descriptorIndex := 296, attributes := #[] }] 49 24 #[897, 899] #[{ accessFlags := 25, nameIndex := 821, descriptorIndex := 79, attributes := #[] }, { accessFlags := 25, nameIndex := 824, descriptorIndex := 79, attributes := #[] }, { accessFlags := 25, nameIndex := 827, descriptorIndex := 79, attributes := #[] }, { accessFlags := 25, nameIndex := 830, descriptorIndex := 79, attributes := #[] }, { accessFlags := 25, nameIndex := 833, descriptorIndex := 79, attributes := #[] }, { accessFlags := 25, nameIndex := 836, descriptorIndex := 79, attributes := #[] }, { accessFlags := 25, nameIndex := 839, descriptorIndex := 79, attributes := #[] }, { accessFlags := 25, nameIndex := 842, descriptorIndex := 79, attributes := #[] }, { accessFlags := 25, nameIndex := 845, descriptorIndex := 79, attributes := #[] }, { accessFlags := 25, nameIndex := 848, descriptorIndex := 79, attributes := #[] }, { accessFlags := 25, nameIndex := 851, descriptorIndex := 79, attributes := #[] }, { accessFlags := 25, nameIndex := 854, descriptorIndex := 79, attributes := #[] }, { accessFlags := 25, nameIndex := 857, descriptorIndex := 79, attributes := #[] }, { accessFlags := 25, nameIndex := 860, descriptorIndex := 79, attributes := #[] }, { accessFlags := 25, nameIndex := 863, descriptorIndex := 79, attributes := #[] }, { accessFlags := 25, nameIndex := 866, descriptorIndex := 79, attributes := #[] }, { accessFlags := 25, nameIndex := 869, descriptorIndex := 79, attributes := #[] }, { accessFlags := 25, nameIndex := 872, descriptorIndex := 79, attributes := #[] }, { accessFlags := 25, nameIndex := 649, descriptorIndex := 79, attributes := #[] }, { accessFlags := 26, nameIndex := 15, descriptorIndex := 16, attributes := #[] }, { accessFlags := 25, nameIndex := 875, descriptorIndex := 79, attributes := #[] }, { accessFlags := 25, nameIndex := 878, descriptorIndex := 79, attributes := #[] }, { accessFlags := 25, nameIndex := 881, descriptorIndex := 79, attributes := #[] }, { accessFlags := 25, nameIndex := 903, descriptorIndex := 904, attributes := #[] }, { accessFlags := 25, nameIndex := 907, descriptorIndex := 904, attributes := #[] }, { accessFlags := 24, nameIndex := 909, descriptorIndex := 910, attributes := #[] }, { accessFlags := 26, nameIndex := 913, descriptorIndex := 619, attributes := #[] }, { accessFlags := 26, nameIndex := 915, descriptorIndex := 619, attributes := #[] }, { accessFlags := 26, nameIndex := 917, descriptorIndex := 619, attributes := #[] }, { accessFlags := 26, nameIndex := 919, descriptorIndex := 619, attributes := #[] }, { accessFlags := 26, nameIndex := 921, descriptorIndex := 619, attributes := #[] }, { accessFlags := 26, nameIndex := 923, descriptorIndex := 619, attributes := #[] }, { accessFlags := 130, nameIndex := 30, descriptorIndex := 31, attributes := #[] }, { accessFlags := 130, nameIndex := 34, descriptorIndex := 35, attributes := #[] }, { accessFlags := 130, nameIndex := 618, descriptorIndex := 619, attributes := #[] }, { accessFlags := 74, nameIndex := 78, descriptorIndex := 79, attributes := #[] }, { accessFlags := 74, nameIndex := 93, descriptorIndex := 79, attributes := #[] }, { accessFlags := 74, nameIndex := 114, descriptorIndex := 79, attributes := #[] }, { accessFlags := 194, nameIndex := 375, descriptorIndex := 127, attributes := #[] }, { accessFlags := 26, nameIndex := 895, descriptorIndex := 896, attributes := #[] }, { accessFlags := 74, nameIndex := 283, descriptorIndex := 260, attributes := #[] }, { accessFlags := 74, nameIndex := 259, descriptorIndex := 260, attributes := #[] }, { accessFlags := 4120, nameIndex := 100, descriptorIndex := 101, attributes := #[] }])
  fields := #[{ name := "ENGLISH", type := (.object "java/util/Locale"), accessFlags := 25, slot := 0, constantValue := 0 }, { name := "FRENCH", type := (.object "java/util/Locale"), accessFlags := 25, slot := 1, constantValue := 0 }, { name := "GERMAN", type := (.object "java/util/Locale"), accessFlags := 25, slot := 2, constantValue := 0 }, { name := "ITALIAN", type := (.object "java/util/Locale"), accessFlags := 25, slot := 3, constantValue := 0 }, { name := "JAPANESE", type := (.object "java/util/Locale"), accessFlags := 25, slot := 4, constantValue := 0 }, { name := "KOREAN", type := (.object "java/util/Locale"), accessFlags := 25, slot := 5, constantValue := 0 }, { name := "CHINESE", type := (.object "java/util/Locale"), accessFlags := 25, slot := 6, constantValue := 0 }, { name := "SIMPLIFIED_CHINESE", type := (.object "java/util/Locale"), accessFlags := 25, slot := 7, constantValue := 0 }, { name := "TRADITIONAL_CHINESE", type := (.object "java/util/Locale"), accessFlags := 25, slot := 8, constantValue := 0 }, { name := "FRANCE", type := (.object "java/util/Locale"), accessFlags := 25, slot := 9, constantValue := 0 }, { name := "GERMANY", type := (.object "java/util/Locale"), accessFlags := 25, slot := 10, constantValue := 0 }, { name := "ITALY", type := (.object "java/util/Locale"), accessFlags := 25, slot := 11, constantValue := 0 }, { name := "JAPAN", type := (.object "java/util/Locale"), accessFlags := 25, slot := 12, constantValue := 0 }, { name := "KOREA", type := (.object "java/util/Locale"), accessFlags := 25, slot := 13, constantValue := 0 }, { name := "UK", type := (.object "java/util/Locale"), accessFlags := 25, slot := 14, constantValue := 0 }, { name := "US", type := (.object "java/util/Locale"), accessFlags := 25, slot := 15, constantValue := 0 }, { name := "CANADA", type := (.object "java/util/Locale"), accessFlags := 25, slot := 16, constantValue := 0 }, { name := "CANADA_FRENCH", type := (.object "java/util/Locale"), accessFlags := 25, slot := 17, constantValue := 0 }, { name := "ROOT", type := (.object "java/util/Locale"), accessFlags := 25, slot := 18, constantValue := 0 }, { name := "CONSTANT_LOCALES", type := (.object "java/util/Map"), accessFlags := 26, slot := 19, constantValue := 0 }, { name := "CHINA", type := (.object "java/util/Locale"), accessFlags := 25, slot := 20, constantValue := 0 }, { name := "PRC", type := (.object "java/util/Locale"), accessFlags := 25, slot := 21, constantValue := 0 }, { name := "TAIWAN", type := (.object "java/util/Locale"), accessFlags := 25, slot := 22, constantValue := 0 }, { name := "PRIVATE_USE_EXTENSION", type := .char, accessFlags := 25, slot := 23, constantValue := 0 }, { name := "UNICODE_LOCALE_EXTENSION", type := .char, accessFlags := 25, slot := 24, constantValue := 0 }, { name := "serialVersionUID", type := .long, accessFlags := 24, slot := 25, constantValue := 0 }, { name := "DISPLAY_LANGUAGE", type := .int, accessFlags := 26, slot := 26, constantValue := 0 }, { name := "DISPLAY_COUNTRY", type := .int, accessFlags := 26, slot := 27, constantValue := 0 }, { name := "DISPLAY_VARIANT", type := .int, accessFlags := 26, slot := 28, constantValue := 0 }, { name := "DISPLAY_SCRIPT", type := .int, accessFlags := 26, slot := 29, constantValue := 0 }, { name := "DISPLAY_UEXT_KEY", type := .int, accessFlags := 26, slot := 30, constantValue := 0 }, { name := "DISPLAY_UEXT_TYPE", type := .int, accessFlags := 26, slot := 31, constantValue := 0 }, { name := "baseLocale", type := (.object "sun/util/locale/BaseLocale"), accessFlags := 130, slot := 0, constantValue := 0 }, { name := "localeExtensions", type := (.object "sun/util/locale/LocaleExtensions"), accessFlags := 130, slot := 1, constantValue := 0 }, { name := "hashCodeValue", type := .int, accessFlags := 130, slot := 2, constantValue := 0 }, { name := "defaultLocale", type := (.object "java/util/Locale"), accessFlags := 74, slot := 32, constantValue := 0 }, { name := "defaultDisplayLocale", type := (.object "java/util/Locale"), accessFlags := 74, slot := 33, constantValue := 0 }, { name := "defaultFormatLocale", type := (.object "java/util/Locale"), accessFlags := 74, slot := 34, constantValue := 0 }, { name := "languageTag", type := (.object "java/lang/String"), accessFlags := 194, slot := 3, constantValue := 0 }, { name := "serialPersistentFields", type := (.array (.object "java/io/ObjectStreamField")), accessFlags := 26, slot := 35, constantValue := 0 }, { name := "isoLanguages", type := (.array (.object "java/lang/String")), accessFlags := 74, slot := 36, constantValue := 0 }, { name := "isoCountries", type := (.array (.object "java/lang/String")), accessFlags := 74, slot := 37, constantValue := 0 }, { name := "$assertionsDisabled", type := .boolean, accessFlags := 4120, slot := 38, constantValue := 0 }]
  methods := #[k17m0]
  instanceTypes := #[(.object "sun/util/locale/BaseLocale"), (.object "sun/util/locale/LocaleExtensions"), .int, (.object "java/lang/String")]
  staticTypes := #[(.object "java/util/Locale"), (.object "java/util/Locale"), (.object "java/util/Locale"), (.object "java/util/Locale"), (.object "java/util/Locale"), (.object "java/util/Locale"), (.object "java/util/Locale"), (.object "java/util/Locale"), (.object "java/util/Locale"), (.object "java/util/Locale"), (.object "java/util/Locale"), (.object "java/util/Locale"), (.object "java/util/Locale"), (.object "java/util/Locale"), (.object "java/util/Locale"), (.object "java/util/Locale"), (.object "java/util/Locale"), (.object "java/util/Locale"), (.object "java/util/Locale"), (.object "java/util/Map"), (.object "java/util/Locale"), (.object "java/util/Locale"), (.object "java/util/Locale"), .char, .char, .long, .int, .int, .int, .int, .int, .int, (.object "java/util/Locale"), (.object "java/util/Locale"), (.object "java/util/Locale"), (.array (.object "java/io/ObjectStreamField")), (.array (.object "java/lang/String")), (.array (.object "java/lang/String")), .boolean]
  resolved := Array.replicate 1154 none
  statics := some 2 }

def pool18 : Array CpInfo := pool [(2, .class_ 4), (1, u "java/lang/Object"), (0, u "<init>"), (0, u "()V"), (1, .class_ 10), (1, u "java/lang/CharacterData")] 75

def k18m0 : Method := { name := "<init>", desc := "()V", sig := { parameters := [], returnType := none }, accessFlags := 0, code := none }
/-- java/lang/CharacterData -/
def k18 : Class := { plain "java/lang/CharacterData" (some 0) with
  accessFlags := 1056
  interfaces := #[]
  cf := some (fileOf pool18 8 #[] #[{ accessFlags := 0, nameIndex := 5, descriptorIndex := 6, attributes := #[] }] 1056 2 #[] #[])
  fields := #[]
  methods := #[k18m0]
  instanceTypes := #[]
  staticTypes := #[]
  resolved := Array.replicate 86 none
  statics := none }

def pool19 : Array CpInfo := pool [(2, .class_ 4), (1, u "java/lang/CharacterDataLatin1"), (0, u "A"), (0, u "[I"), (2, u "B"), (0, u "[C"), (3, u "(I)I"), (12, u "DIGITS"), (0, u "[B"), (8, u "sharpsMap"), (1, .class_ 41), (1, u "java/lang/CharacterData"), (0, u "<init>"), (0, u "()V"), (3, u "instance"), (0, u "Ljava/lang/CharacterDataLatin1;"), (63, u "toLowerCase"), (2, u "equalsIgnoreCase"), (0, u "(BB)Z")] 24

def k19c0 : Code := { maxStack := 2, maxLocals := 3, code := jdk_116_method_20_code, exceptionTable := #[], attributes := #[] }
def k19m0 : Method := { name := "toLowerCase", desc := "(I)I", sig := { parameters := [.int], returnType := some .int }, accessFlags := 0, code := some k19c0 }
def k19c1 : Code := { maxStack := 3, maxLocals := 3, code := jdk_116_method_22_code, exceptionTable := #[], attributes := #[] }
def k19m1 : Method := { name := "equalsIgnoreCase", desc := "(BB)Z", sig := { parameters := [.byte, .byte], returnType := some .boolean }, accessFlags := 8, code := some k19c1 }
def k19m2 : Method := { name := "<init>", desc := "()V", sig := { parameters := [], returnType := none }, accessFlags := 2, code := none }
/-- java/lang/CharacterDataLatin1 -/
def k19 : Class := { plain "java/lang/CharacterDataLatin1" (some 18) with
  accessFlags := 32
  interfaces := #[]
  cf := some (fileOf pool19 2 #[] #[{ accessFlags := 0, nameIndex := 112, descriptorIndex := 14, attributes := #[] }, { accessFlags := 8, nameIndex := 115, descriptorIndex := 116, attributes := #[] }, { accessFlags := 2, nameIndex := 42, descriptorIndex := 43, attributes := #[] }] 32 39 #[] #[{ accessFlags := 26, nameIndex := 27, descriptorIndex := 28, attributes := #[] }, { accessFlags := 8, nameIndex := 37, descriptorIndex := 10, attributes := #[] }, { accessFlags := 24, nameIndex := 47, descriptorIndex := 48, attributes := #[] }, { accessFlags := 24, nameIndex := 5, descriptorIndex := 6, attributes := #[] }, { accessFlags := 24, nameIndex := 9, descriptorIndex := 10, attributes := #[] }])
  fields := #[{ name := "DIGITS", type := (.array .byte), accessFlags := 26, slot := 0, constantValue := 0 }, { name := "sharpsMap", type := (.array .char), accessFlags := 8, slot := 1, constantValue := 0 }, { name := "instance", type := (.object "java/lang/CharacterDataLatin1"), accessFlags := 24, slot := 2, constantValue := 0 }, { name := "A", type := (.array .int), accessFlags := 24, slot := 3, constantValue := 0 }, { name := "B", type := (.array .char), accessFlags := 24, slot := 4, constantValue := 0 }]
  methods := #[k19m0, k19m1, k19m2]
  instanceTypes := #[]
  staticTypes := #[(.array .byte), (.array .char), (.object "java/lang/CharacterDataLatin1"), (.array .int), (.array .char)]
  resolved := Array.replicate 141 none
  statics := some 3 }

def pool20 : Array CpInfo := pool [(2, .class_ 4), (1, u "java/lang/Object"), (13, u "()Ljava/lang/String;"), (0, .fieldref 20 21), (0, .class_ 22), (0, .nameAndType 23 24), (0, u "sun/util/locale/BaseLocale"), (0, u "language"), (0, u "Ljava/lang/String;"), (5, u "script"), (5, u "region"), (2, u "variant"), (11, u "constantBaseLocales"), (0, u "[Lsun/util/locale/BaseLocale;"), (2, u "getLanguage"), (10, .class_ 67), (0, u "sun/util/locale/BaseLocale$Key"), (2, .class_ 72), (1, u "sun/util/locale/BaseLocale$Cache"), (24, u "OLD_ISO_CODES"), (0, u "Z"), (32, u "hash"), (0, u "I"), (41, u "US"), (15, u "ENGLISH"), (0, u "B"), (2, u "FRENCH"), (1, u "GERMAN"), (1, u "ITALIAN"), (1, u "JAPANESE"), (1, u "KOREAN"), (1, u "CHINESE"), (1, u "SIMPLIFIED_CHINESE"), (1, u "TRADITIONAL_CHINESE"), (1, u "FRANCE"), (1, u "GERMANY"), (1, u "ITALY"), (1, u "JAPAN"), (1, u "KOREA"), (1, u "UK"), (2, u "CANADA"), (1, u "CANADA_FRENCH"), (1, u "ROOT"), (1, u "NUM_CONSTANTS"), (1, u "SEP")] 31

def k20c0 : Code := { maxStack := 1, maxLocals := 1, code := jdk_3003_method_5_code, exceptionTable := #[], attributes := #[] }
def k20m0 : Method := { name := "getLanguage", desc := "()Ljava/lang/String;", sig := { parameters := [], returnType := some (.object "java/lang/String") }, accessFlags := 1, code := some k20c0 }
/-- sun/util/locale/BaseLocale -/
def k20 : Class := { plain "sun/util/locale/BaseLocale" (some 0) with
  accessFlags := 49
  interfaces := #[]
  cf := some (fileOf pool20 20 #[.nestMembers #[70, 66]] #[{ accessFlags := 1, nameIndex := 55, descriptorIndex := 18, attributes := #[] }] 49 2 #[] #[{ accessFlags := 9, nameIndex := 51, descriptorIndex := 52, attributes := #[] }, { accessFlags := 25, nameIndex := 190, descriptorIndex := 191, attributes := #[] }, { accessFlags := 25, nameIndex := 194, descriptorIndex := 191, attributes := #[] }, { accessFlags := 25, nameIndex := 196, descriptorIndex := 191, attributes := #[] }, { accessFlags := 25, nameIndex := 198, descriptorIndex := 191, attributes := #[] }, { accessFlags := 25, nameIndex := 200, descriptorIndex := 191, attributes := #[] }, { accessFlags := 25, nameIndex := 202, descriptorIndex := 191, attributes := #[] }, { accessFlags := 25, nameIndex := 204, descriptorIndex := 191, attributes := #[] }, { accessFlags := 25, nameIndex := 206, descriptorIndex := 191, attributes := #[] }, { accessFlags := 25, nameIndex := 208, descriptorIndex := 191, attributes := #[] }, { accessFlags := 25, nameIndex := 210, descriptorIndex := 191, attributes := #[] }, { accessFlags := 25, nameIndex := 212, descriptorIndex := 191, attributes := #[] }, { accessFlags := 25, nameIndex := 214, descriptorIndex := 191, attributes := #[] }, { accessFlags := 25, nameIndex := 216, descriptorIndex := 191, attributes := #[] }, { accessFlags := 25, nameIndex := 218, descriptorIndex := 191, attributes := #[] }, { accessFlags := 25, nameIndex := 220, descriptorIndex := 191, attributes := #[] }, { accessFlags := 25, nameIndex := 174, descriptorIndex := 191, attributes := #[] }, { accessFlags := 25, nameIndex := 223, descriptorIndex := 191, attributes := #[] }, { accessFlags := 25, nameIndex := 225, descriptorIndex := 191, attributes := #[] }, { accessFlags := 25, nameIndex := 227, descriptorIndex := 191, attributes := #[] }, { accessFlags := 25, nameIndex := 229, descriptorIndex := 191, attributes := #[] }, { accessFlags := 25, nameIndex := 231, descriptorIndex := 24, attributes := #[] }, { accessFlags := 18, nameIndex := 23, descriptorIndex := 24, attributes := #[] }, { accessFlags := 18, nameIndex := 30, descriptorIndex := 24, attributes := #[] }, { accessFlags := 18, nameIndex := 36, descriptorIndex := 24, attributes := #[] }, { accessFlags := 18, nameIndex := 39, descriptorIndex := 24, attributes := #[] }, { accessFlags := 2, nameIndex := 131, descriptorIndex := 132, attributes := #[] }, { accessFlags := 26, nameIndex := 97, descriptorIndex := 98, attributes := #[] }])
  fields := #[{ name := "constantBaseLocales", type := (.array (.object "sun/util/locale/BaseLocale")), accessFlags := 9, slot := 0, constantValue := 0 }, { name := "ENGLISH", type := .byte, accessFlags := 25, slot := 1, constantValue := 0 }, { name := "FRENCH", type := .byte, accessFlags := 25, slot := 2, constantValue := 0 }, { name := "GERMAN", type := .byte, accessFlags := 25, slot := 3, constantValue := 0 }, { name := "ITALIAN", type := .byte, accessFlags := 25, slot := 4, constantValue := 0 }, { name := "JAPANESE", type := .byte, accessFlags := 25, slot := 5, constantValue := 0 }, { name := "KOREAN", type := .byte, accessFlags := 25, slot := 6, constantValue := 0 }, { name := "CHINESE", type := .byte, accessFlags := 25, slot := 7, constantValue := 0 }, { name := "SIMPLIFIED_CHINESE", type := .byte, accessFlags := 25, slot := 8, constantValue := 0 }, { name := "TRADITIONAL_CHINESE", type := .byte, accessFlags := 25, slot := 9, constantValue := 0 }, { name := "FRANCE", type := .byte, accessFlags := 25, slot := 10, constantValue := 0 }, { name := "GERMANY", type := .byte, accessFlags := 25, slot := 11, constantValue := 0 }, { name := "ITALY", type := .byte, accessFlags := 25, slot := 12, constantValue := 0 }, { name := "JAPAN", type := .byte, accessFlags := 25, slot := 13, constantValue := 0 }, { name := "KOREA", type := .byte, accessFlags := 25, slot := 14, constantValue := 0 }, { name := "UK", type := .byte, accessFlags := 25, slot := 15, constantValue := 0 }, { name := "US", type := .byte, accessFlags := 25, slot := 16, constantValue := 0 }, { name := "CANADA", type := .byte, accessFlags := 25, slot := 17, constantValue := 0 }, { name := "CANADA_FRENCH", type := .byte, accessFlags := 25, slot := 18, constantValue := 0 }, { name := "ROOT", type := .byte, accessFlags := 25, slot := 19, constantValue := 0 }, { name := "NUM_CONSTANTS", type := .byte, accessFlags := 25, slot := 20, constantValue := 0 }, { name := "SEP", type := (.object "java/lang/String"), accessFlags := 25, slot := 21, constantValue := 0 }, { name := "language", type := (.object "java/lang/String"), accessFlags := 18, slot := 0, constantValue := 0 }, { name := "script", type := (.object "java/lang/String"), accessFlags := 18, slot := 1, constantValue := 0 }, { name := "region", type := (.object "java/lang/String"), accessFlags := 18, slot := 2, constantValue := 0 }, { name := "variant", type := (.object "java/lang/String"), accessFlags := 18, slot := 3, constantValue := 0 }, { name := "hash", type := .int, accessFlags := 2, slot := 4, constantValue := 0 }, { name := "OLD_ISO_CODES", type := .boolean, accessFlags := 26, slot := 22, constantValue := 0 }]
  methods := #[k20m0]
  instanceTypes := #[(.object "java/lang/String"), (.object "java/lang/String"), (.object "java/lang/String"), (.object "java/lang/String"), .int]
  staticTypes := #[(.array (.object "sun/util/locale/BaseLocale")), .byte, .byte, .byte, .byte, .byte, .byte, .byte, .byte, .byte, .byte, .byte, .byte, .byte, .byte, .byte, .byte, .byte, .byte, .byte, .byte, (.object "java/lang/String"), .boolean]
  resolved := Array.replicate 263 none
  statics := none }

def pool21 : Array CpInfo := pool [(9, u "<init>"), (6, .class_ 18), (1, u "java/lang/Object"), (0, u "()V"), (1, .class_ 23), (1, u "jdk/internal/util/ArraysSupport"), (0, u "LOG2_ARRAY_LONG_INDEX_SCALE"), (0, u "I"), (2, u "U"), (0, u "Ljdk/internal/misc/Unsafe;"), (8, u "BIG_ENDIAN"), (0, u "Z"), (8, u "LOG2_BYTE_BIT_SIZE"), (4, u "LOG2_ARRAY_INT_INDEX_SCALE"), (54, u "JLA"), (0, u "Ljdk/internal/access/JavaLangAccess;"), (11, u "LOG2_ARRAY_BOOLEAN_INDEX_SCALE"), (9, u "LOG2_ARRAY_BYTE_INDEX_SCALE"), (5, u "LOG2_ARRAY_CHAR_INDEX_SCALE"), (5, u "LOG2_ARRAY_SHORT_INDEX_SCALE"), (18, u "LOG2_ARRAY_FLOAT_INDEX_SCALE"), (24, u "LOG2_ARRAY_DOUBLE_INDEX_SCALE"), (89, u "T_BOOLEAN"), (2, u "T_CHAR"), (1, u "T_FLOAT"), (1, u "T_DOUBLE"), (1, u "T_BYTE"), (1, u "T_SHORT"), (1, u "T_INT"), (1, u "T_LONG"), (1, u "SOFT_MAX_ARRAY_LENGTH")] 83

def k21m0 : Method := { name := "<init>", desc := "()V", sig := { parameters := [], returnType := none }, accessFlags := 2, code := none }
/-- jdk/internal/util/ArraysSupport -/
def k21 : Class := { plain "jdk/internal/util/ArraysSupport" (some 0) with
  accessFlags := 33
  interfaces := #[]
  cf := some (fileOf pool21 21 #[] #[{ accessFlags := 2, nameIndex := 9, descriptorIndex := 19, attributes := #[] }] 33 16 #[] #[{ accessFlags := 24, nameIndex := 28, descriptorIndex := 29, attributes := #[] }, { accessFlags := 26, nameIndex := 38, descriptorIndex := 39, attributes := #[] }, { accessFlags := 25, nameIndex := 121, descriptorIndex := 25, attributes := #[] }, { accessFlags := 25, nameIndex := 131, descriptorIndex := 25, attributes := #[] }, { accessFlags := 25, nameIndex := 137, descriptorIndex := 25, attributes := #[] }, { accessFlags := 25, nameIndex := 143, descriptorIndex := 25, attributes := #[] }, { accessFlags := 25, nameIndex := 53, descriptorIndex := 25, attributes := #[] }, { accessFlags := 25, nameIndex := 24, descriptorIndex := 25, attributes := #[] }, { accessFlags := 25, nameIndex := 162, descriptorIndex := 25, attributes := #[] }, { accessFlags := 25, nameIndex := 187, descriptorIndex := 25, attributes := #[] }, { accessFlags := 26, nameIndex := 48, descriptorIndex := 25, attributes := #[] }, { accessFlags := 25, nameIndex := 277, descriptorIndex := 25, attributes := #[] }, { accessFlags := 25, nameIndex := 280, descriptorIndex := 25, attributes := #[] }, { accessFlags := 25, nameIndex := 282, descriptorIndex := 25, attributes := #[] }, { accessFlags := 25, nameIndex := 284, descriptorIndex := 25, attributes := #[] }, { accessFlags := 25, nameIndex := 286, descriptorIndex := 25, attributes := #[] }, { accessFlags := 25, nameIndex := 288, descriptorIndex := 25, attributes := #[] }, { accessFlags := 25, nameIndex := 290, descriptorIndex := 25, attributes := #[] }, { accessFlags := 25, nameIndex := 292, descriptorIndex := 25, attributes := #[] }, { accessFlags := 26, nameIndex := 108, descriptorIndex := 109, attributes := #[] }, { accessFlags := 25, nameIndex := 294, descriptorIndex := 25, attributes := #[] }])
  fields := #[{ name := "U", type := (.object "jdk/internal/misc/Unsafe"), accessFlags := 24, slot := 0, constantValue := 0 }, { name := "BIG_ENDIAN", type := .boolean, accessFlags := 26, slot := 1, constantValue := 0 }, { name := "LOG2_ARRAY_BOOLEAN_INDEX_SCALE", type := .int, accessFlags := 25, slot := 2, constantValue := 0 }, { name := "LOG2_ARRAY_BYTE_INDEX_SCALE", type := .int, accessFlags := 25, slot := 3, constantValue := 0 }, { name := "LOG2_ARRAY_CHAR_INDEX_SCALE", type := .int, accessFlags := 25, slot := 4, constantValue := 0 }, { name := "LOG2_ARRAY_SHORT_INDEX_SCALE", type := .int, accessFlags := 25, slot := 5, constantValue := 0 }, { name := "LOG2_ARRAY_INT_INDEX_SCALE", type := .int, accessFlags := 25, slot := 6, constantValue := 0 }, { name := "LOG2_ARRAY_LONG_INDEX_SCALE", type := .int, accessFlags := 25, slot := 7, constantValue := 0 }, { name := "LOG2_ARRAY_FLOAT_INDEX_SCALE", type := .int, accessFlags := 25, slot := 8, constantValue := 0 }, { name := "LOG2_ARRAY_DOUBLE_INDEX_SCALE", type := .int, accessFlags := 25, slot := 9, constantValue := 0 }, { name := "LOG2_BYTE_BIT_SIZE", type := .int, accessFlags := 26, slot := 10, constantValue := 0 }, { name := "T_BOOLEAN", type := .int, accessFlags := 25, slot := 11, constantValue := 0 }, { name := "T_CHAR", type := .int, accessFlags := 25, slot := 12, constantValue := 0 }, { name := "T_FLOAT", type := .int, accessFlags := 25, slot := 13, constantValue := 0 }, { name := "T_DOUBLE", type := .int, accessFlags := 25, slot := 14, constantValue := 0 }, { name := "T_BYTE", type := .int, accessFlags := 25, slot := 15, constantValue := 0 }, { name := "T_SHORT", type := .int, accessFlags := 25, slot := 16, constantValue := 0 }, { name := "T_INT", type := .int, accessFlags := 25, slot := 17, constantValue := 0 }, { name := "T_LONG", type := .int, accessFlags := 25, slot := 18, constantValue := 0 }, { name := "JLA", type := (.object "jdk/internal/access/JavaLangAccess"), accessFlags := 26, slot := 19, constantValue := 0 }, { name := "SOFT_MAX_ARRAY_LENGTH", type := .int, accessFlags := 25, slot := 20, constantValue := 0 }]
  methods := #[k21m0]
  instanceTypes := #[]
  staticTypes := #[(.object "jdk/internal/misc/Unsafe"), .boolean, .int, .int, .int, .int, .int, .int, .int, .int, .int, .int, .int, .int, .int, .int, .int, .int, .int, (.object "jdk/internal/access/JavaLangAccess"), .int]
  resolved := Array.replicate 378 none
  statics := some 4 }

/-- the primitive byte -/
def k22 : Class := { plain "byte" none with kind := .primitive 'B', accessFlags := 0x411 }
/-- [B -/
def k23 : Class := { plain "[B" (some 0) with kind := .array 22 .byte, interfaces := #[16, 2], accessFlags := 1041 }

/-- the primitive char -/
def k24 : Class := { plain "char" none with kind := .primitive 'C', accessFlags := 0x411 }
/-- [C -/
def k25 : Class := { plain "[C" (some 0) with kind := .array 24 .char, interfaces := #[16, 2], accessFlags := 1041 }

/-- the primitive int -/
def k26 : Class := { plain "int" none with kind := .primitive 'I', accessFlags := 0x411 }
/-- [I -/
def k27 : Class := { plain "[I" (some 0) with kind := .array 26 .int, interfaces := #[16, 2], accessFlags := 1041 }

def heap : Heap := #[{ cls := 7, slots := #[.long 0, .int 1, .null, .int 0, .null, .int 0, .int 0], vm := .statics 7 },
  { cls := 12, slots := #[.null, .null, .null], vm := .statics 12 },
  { cls := 17, slots := #[.null, .null, .null, .null, .null, .null, .null, .null, .null, .null, .null, .null, .null, .null, .null, .null, .null, .null, .ref 8, .null, .null, .null, .null, .int 0, .int 0, .long 0, .int 0, .int 0, .int 0, .int 0, .int 0, .int 0, .null, .null, .null, .null, .null, .null, .int 0], vm := .statics 17 },
  { cls := 19, slots := #[.null, .null, .ref 9, .null, .null], vm := .statics 19 },
  { cls := 21, slots := #[.null, .int 0, .int 0, .int 0, .int 0, .int 0, .int 0, .int 0, .int 0, .int 0, .int 0, .int 0, .int 0, .int 0, .int 0, .int 0, .int 0, .int 0, .int 0, .null, .int 2147483639], vm := .statics 21 },
  { cls := 23, slots := #[], vm := .none },
  { cls := 7, slots := #[.ref 5, .int 0, .int 0, .int 0], vm := .none },
  { cls := 20, slots := #[.ref 6, .null, .null, .null, .int 0], vm := .none },
  { cls := 17, slots := #[.ref 7, .null, .int 0, .null], vm := .none },
  { cls := 19, slots := #[], vm := .none }]
def classes : Array Class := #[k0, k1, k2, k3, k4, k5, k6, k7, k8, k9, k10, k11, k12, k13, k14, k15, k16, k17, k18, k19, k20, k21, k22, k23, k24, k25, k26, k27]
def interned : List (Array UInt16 × Addr) := []
def slotsUsed : Nat := 88
def theMethod : MethodId := ⟨1, 1⟩
def args0 : Array Value := #[.int 1, .int 2, .int 3, .int 4, .int 5]
def aboutOver (below : List Frame) : State where
  vm := { classes := classes, interned := interned.toArray }
  heap := heap
  slotsUsed := slotsUsed
  threads := #[{ frames := .invoking theMethod args0 :: below }]
def below0 : List Frame := [.native { method := ⟨0, 0⟩, args := #[] }]
def about1 : State := aboutOver below0
def p0 : Program := .bare "" "" ""
def e0 : Env := launch0.env 0 0 0
theorem w_frames : about1.frames = Frame.invoking theMethod args0 :: below0 := rfl
set_option maxRecDepth 65536 in
theorem w_args : argsFit about1.vm theMethod args0 = true := by decide +kernel
set_option maxRecDepth 65536 in
theorem w_heap : heapFits about1 = true := by decide +kernel
set_option maxRecDepth 65536 in
theorem w_runnable : about1.curStatus? = some .runnable := by decide +kernel
set_option maxRecDepth 65536 in
theorem w_alone : about1.alone = true := by decide +kernel
set_option maxRecDepth 65536 in
theorem w_named : about1.methodNamed? x = some theMethod := by decide +kernel
set_option maxRecDepth 65536 in
theorem w_hears : about1.hears theMethod below0 = true := by decide +kernel
set_option maxRecDepth 65536 in
theorem w_ripe : about1.ripe theMethod args0 below0 = true := by decide +kernel
theorem w_running : about1.status = .running := rfl
set_option maxRecDepth 65536 in
theorem w_room : about1.hasRoom e0.platform room_1 = true :=
  launch0.hasRoom_least _ room_1 (by decide +kernel) (by decide +kernel) (by decide +kernel) (by decide +kernel) (by decide +kernel) (by decide +kernel)
theorem allAtoms_all (ts : List Jvm.Cond) (a : Array Jvm.Value) (st : Jvm.State) : (allAtoms ts).before a st = ts.all (fun c => c.before a st) := by
  induction ts with
  | nil => rfl
  | cons c t ih =>
    show (Jvm.Cond.and c (allAtoms t)).before a st = _
    rw [Jvm.Cond.before_and, ih, List.all_cons]
def words1 : List Jvm.Cond := Jvm.Cond.code x code maxLocals ret :: tables_1
/-- a 'code' word, met by the world's own term for the bytes: nothing is compared byte by byte -/
theorem code_word {y : MethodName} {bytes : ByteArray} {mx : Nat} {rt : Option FieldType} {a : Array Value} {s : State} {m : MethodId} {meth : Method} {c : Code} (h1 : s.methodNamed? y = some m) (h2 : s.vm.method? m = some meth) (h3 : meth.code = some c) (h4 : c.code = bytes)
    (h5 : (c.maxLocals == mx && c.exceptionTable.isEmpty && decide (c.maxStack ≤ mostOperands) && decide (meth.sig.returnType = rt) && !meth.locks && decide (parseMethodDescriptor y.desc = some meth.sig)) = true) : (Jvm.Cond.code y bytes mx rt).before a s = true := by
  simp only [Bool.and_eq_true, beq_iff_eq, Bool.not_eq_true', decide_eq_true_eq] at h5
  obtain ⟨⟨⟨⟨⟨g1, g2⟩, g3⟩, g4⟩, g5⟩, g6⟩ := h5
  simp [Cond.before, Cond.holds, Cond.value, h1, h2, h3, h4, g1, g2, g3, g4, g5, g6]
def isCode : Jvm.Cond → Bool
  | .code _ _ _ _ => true
  | _ => false
theorem all_split {L : List Jvm.Cond} {P : Jvm.Cond → Bool} (h1 : L.all (fun c => isCode c || P c) = true) (h2 : ∀ c ∈ L.filter isCode, P c = true) : L.all P = true := by
  refine List.all_eq_true.mpr fun c hc => ?_
  have h := List.all_eq_true.mp h1 c hc
  rcases Bool.eq_false_or_eq_true (isCode c) with hi | hi
  · exact h2 c (List.mem_filter.mpr ⟨hc, hi⟩)
  · simpa [hi] using h
set_option maxRecDepth 65536 in
theorem w_c0 : (Jvm.Cond.code x code maxLocals ret).before args0 about1 = true := code_word (m := ⟨1, 1⟩) (meth := k1m1) (c := k1c1) (by decide +kernel) rfl rfl rfl (by decide +kernel)
set_option maxRecDepth 65536 in
theorem w_c1 : (Jvm.Cond.code ({ cls := "com/example/lease_over_store/leaseoverstore/lease/StoreUrlParsePinLaw", name := "ch", desc := "(I)C" } : Jvm.MethodName) method_4_code (2 : Nat) (Option.some Jvm.ClassFile.FieldType.char)).before args0 about1 = true := code_word (m := ⟨1, 3⟩) (meth := k1m3) (c := k1c3) (by decide +kernel) rfl rfl rfl (by decide +kernel)
set_option maxRecDepth 65536 in
theorem w_c2 : (Jvm.Cond.code ({ cls := "com/example/lease_over_store/leaseoverstore/lease/StoreUrlParsePinLaw", name := "cut", desc := "([CI)[C" } : Jvm.MethodName) method_5_code (2 : Nat) (Option.some (Jvm.ClassFile.FieldType.array Jvm.ClassFile.FieldType.char))).before args0 about1 = true := code_word (m := ⟨1, 4⟩) (meth := k1m4) (c := k1c4) (by decide +kernel) rfl rfl rfl (by decide +kernel)
set_option maxRecDepth 65536 in
theorem w_c3 : (Jvm.Cond.code ({ cls := "java/lang/String", name := "<init>", desc := "([C)V" } : Jvm.MethodName) jdk_42_method_3_code (2 : Nat) (Option.none : Option Jvm.ClassFile.FieldType)).before args0 about1 = true := code_word (m := ⟨7, 1⟩) (meth := k7m1) (c := k7c1) (by decide +kernel) rfl rfl rfl (by decide +kernel)
set_option maxRecDepth 65536 in
theorem w_c4 : (Jvm.Cond.code ({ cls := "java/lang/String", name := "<init>", desc := "([CIILjava/lang/Void;)V" } : Jvm.MethodName) jdk_42_method_149_code (6 : Nat) (Option.none : Option Jvm.ClassFile.FieldType)).before args0 about1 = true := code_word (m := ⟨7, 9⟩) (meth := k7m9) (c := k7c9) (by decide +kernel) rfl rfl rfl (by decide +kernel)
set_option maxRecDepth 65536 in
theorem w_c5 : (Jvm.Cond.code ({ cls := "java/lang/Object", name := "<init>", desc := "()V" } : Jvm.MethodName) object_method_1_code (1 : Nat) (Option.none : Option Jvm.ClassFile.FieldType)).before args0 about1 = true := code_word (m := ⟨0, 0⟩) (meth := k0m0) (c := k0c0) (by decide +kernel) rfl rfl rfl (by decide +kernel)
set_option maxRecDepth 65536 in
theorem w_c6 : (Jvm.Cond.code ({ cls := "com/example/lease_over_store/leaseoverstore/lease/StoreUrlParsePinLaw", name := "end", desc := "([CII)I" } : Jvm.MethodName) method_6_code (5 : Nat) (Option.some Jvm.ClassFile.FieldType.int)).before args0 about1 = true := code_word (m := ⟨1, 5⟩) (meth := k1m5) (c := k1c5) (by decide +kernel) rfl rfl rfl (by decide +kernel)
set_option maxRecDepth 65536 in
theorem w_c7 : (Jvm.Cond.code ({ cls := "java/lang/StringUTF16", name := "compress", desc := "([CII)[B" } : Jvm.MethodName) jdk_52_method_16_code (6 : Nat) (Option.some (Jvm.ClassFile.FieldType.array Jvm.ClassFile.FieldType.byte))).before args0 about1 = true := code_word (m := ⟨8, 2⟩) (meth := k8m2) (c := k8c2) (by decide +kernel) rfl rfl rfl (by decide +kernel)
set_option maxRecDepth 65536 in
theorem w_c8 : (Jvm.Cond.code ({ cls := "java/lang/StringUTF16", name := "compress", desc := "([CI[BII)I" } : Jvm.MethodName) jdk_52_method_21_code (7 : Nat) (Option.some Jvm.ClassFile.FieldType.int)).before args0 about1 = true := code_word (m := ⟨8, 3⟩) (meth := k8m3) (c := k8c3) (by decide +kernel) rfl rfl rfl (by decide +kernel)
set_option maxRecDepth 65536 in
theorem w_c9 : (Jvm.Cond.code ({ cls := "java/lang/StringUTF16", name := "coderFromArrayLen", desc := "([BI)B" } : Jvm.MethodName) jdk_52_method_15_code (2 : Nat) (Option.some Jvm.ClassFile.FieldType.byte)).before args0 about1 = true := code_word (m := ⟨8, 1⟩) (meth := k8m1) (c := k8c1) (by decide +kernel) rfl rfl rfl (by decide +kernel)
set_option maxRecDepth 65536 in
theorem w_c10 : (Jvm.Cond.code ({ cls := "com/example/lease_over_store/leaseoverstore/lease/StoreUrlParsePinLaw", name := "letter", desc := "(C)Z" } : Jvm.MethodName) method_10_code (1 : Nat) (Option.some Jvm.ClassFile.FieldType.boolean)).before args0 about1 = true := code_word (m := ⟨1, 9⟩) (meth := k1m9) (c := k1c9) (by decide +kernel) rfl rfl rfl (by decide +kernel)
set_option maxRecDepth 65536 in
theorem w_c11 : (Jvm.Cond.code ({ cls := "com/example/lease_over_store/leaseoverstore/lease/StoreUrlParsePinLaw", name := "colon", desc := "([CII)I" } : Jvm.MethodName) method_7_code (3 : Nat) (Option.some Jvm.ClassFile.FieldType.int)).before args0 about1 = true := code_word (m := ⟨1, 6⟩) (meth := k1m6) (c := k1c6) (by decide +kernel) rfl rfl rfl (by decide +kernel)
set_option maxRecDepth 65536 in
theorem w_c12 : (Jvm.Cond.code ({ cls := "com/example/lease_over_store/leaseoverstore/lease/StoreUrlParsePinLaw", name := "at", desc := "([CIII)Z" } : Jvm.MethodName) method_8_code (4 : Nat) (Option.some Jvm.ClassFile.FieldType.boolean)).before args0 about1 = true := code_word (m := ⟨1, 7⟩) (meth := k1m7) (c := k1c7) (by decide +kernel) rfl rfl rfl (by decide +kernel)
set_option maxRecDepth 65536 in
theorem w_c13 : (Jvm.Cond.code ({ cls := "com/example/lease_over_store/leaseoverstore/lease/StoreUrlParsePinLaw", name := "ok", desc := "([CIII)Z" } : Jvm.MethodName) method_9_code (4 : Nat) (Option.some Jvm.ClassFile.FieldType.boolean)).before args0 about1 = true := code_word (m := ⟨1, 8⟩) (meth := k1m8) (c := k1c8) (by decide +kernel) rfl rfl rfl (by decide +kernel)
set_option maxRecDepth 65536 in
theorem w_c14 : (Jvm.Cond.code ({ cls := "com/example/lease_over_store/leaseoverstore/lease/StoreUrlParsePinLaw", name := "sch", desc := "(C)Z" } : Jvm.MethodName) method_11_code (1 : Nat) (Option.some Jvm.ClassFile.FieldType.boolean)).before args0 about1 = true := code_word (m := ⟨1, 10⟩) (meth := k1m10) (c := k1c10) (by decide +kernel) rfl rfl rfl (by decide +kernel)
set_option maxRecDepth 65536 in
theorem w_c15 : (Jvm.Cond.code ({ cls := "com/example/lease_over_store/leaseoverstore/lease/StoreUrlParsePinLaw", name := "low", desc := "(C)C" } : Jvm.MethodName) method_12_code (1 : Nat) (Option.some Jvm.ClassFile.FieldType.char)).before args0 about1 = true := code_word (m := ⟨1, 11⟩) (meth := k1m11) (c := k1c11) (by decide +kernel) rfl rfl rfl (by decide +kernel)
set_option maxRecDepth 65536 in
theorem w_c16 : (Jvm.Cond.code ({ cls := "com/example/lease_over_store/leaseoverstore/lease/StoreUrl", name := "parse", desc := "(Ljava/lang/String;)Lcom/example/lease_over_store/leaseoverstore/lease/StoreUrl;" } : Jvm.MethodName) prog_24_method_2_code (3 : Nat) (Option.some (Jvm.ClassFile.FieldType.object "com/example/lease_over_store/leaseoverstore/lease/StoreUrl"))).before args0 about1 = true := code_word (m := ⟨9, 1⟩) (meth := k9m1) (c := k9c1) (by decide +kernel) rfl rfl rfl (by decide +kernel)
set_option maxRecDepth 65536 in
theorem w_c17 : (Jvm.Cond.code ({ cls := "java/util/Objects", name := "requireNonNull", desc := "(Ljava/lang/Object;Ljava/lang/String;)Ljava/lang/Object;" } : Jvm.MethodName) jdk_31_method_11_code (2 : Nat) (Option.some (Jvm.ClassFile.FieldType.object "java/lang/Object"))).before args0 about1 = true := code_word (m := ⟨10, 1⟩) (meth := k10m1) (c := k10c1) (by decide +kernel) rfl rfl rfl (by decide +kernel)
set_option maxRecDepth 65536 in
theorem w_c18 : (Jvm.Cond.code ({ cls := "com/example/lease_over_store/leaseoverstore/lease/StoreUrl", name := "schemeEnd", desc := "(Ljava/lang/String;I)I" } : Jvm.MethodName) prog_24_method_5_code (4 : Nat) (Option.some Jvm.ClassFile.FieldType.int)).before args0 about1 = true := code_word (m := ⟨9, 4⟩) (meth := k9m4) (c := k9c4) (by decide +kernel) rfl rfl rfl (by decide +kernel)
set_option maxRecDepth 65536 in
theorem w_c19 : (Jvm.Cond.code ({ cls := "java/lang/String", name := "length", desc := "()I" } : Jvm.MethodName) jdk_42_method_54_code (1 : Nat) (Option.some Jvm.ClassFile.FieldType.int)).before args0 about1 = true := code_word (m := ⟨7, 2⟩) (meth := k7m2) (c := k7c2) (by decide +kernel) rfl rfl rfl (by decide +kernel)
set_option maxRecDepth 65536 in
theorem w_c20 : (Jvm.Cond.code ({ cls := "java/lang/String", name := "coder", desc := "()B" } : Jvm.MethodName) jdk_42_method_152_code (1 : Nat) (Option.some Jvm.ClassFile.FieldType.byte)).before args0 about1 = true := code_word (m := ⟨7, 11⟩) (meth := k7m11) (c := k7c11) (by decide +kernel) rfl rfl rfl (by decide +kernel)
set_option maxRecDepth 65536 in
theorem w_c21 : (Jvm.Cond.code ({ cls := "java/lang/String", name := "charAt", desc := "(I)C" } : Jvm.MethodName) jdk_42_method_56_code (2 : Nat) (Option.some Jvm.ClassFile.FieldType.char)).before args0 about1 = true := code_word (m := ⟨7, 3⟩) (meth := k7m3) (c := k7c3) (by decide +kernel) rfl rfl rfl (by decide +kernel)
set_option maxRecDepth 65536 in
theorem w_c22 : (Jvm.Cond.code ({ cls := "java/lang/String", name := "isLatin1", desc := "()Z" } : Jvm.MethodName) jdk_42_method_154_code (1 : Nat) (Option.some Jvm.ClassFile.FieldType.boolean)).before args0 about1 = true := code_word (m := ⟨7, 12⟩) (meth := k7m12) (c := k7c12) (by decide +kernel) rfl rfl rfl (by decide +kernel)
set_option maxRecDepth 65536 in
theorem w_c23 : (Jvm.Cond.code ({ cls := "java/lang/StringLatin1", name := "charAt", desc := "([BI)C" } : Jvm.MethodName) jdk_43_method_2_code (2 : Nat) (Option.some Jvm.ClassFile.FieldType.char)).before args0 about1 = true := code_word (m := ⟨11, 1⟩) (meth := k11m1) (c := k11c1) (by decide +kernel) rfl rfl rfl (by decide +kernel)
set_option maxRecDepth 65536 in
theorem w_c24 : (Jvm.Cond.code ({ cls := "java/lang/String", name := "checkIndex", desc := "(II)V" } : Jvm.MethodName) jdk_42_method_155_code (2 : Nat) (Option.none : Option Jvm.ClassFile.FieldType)).before args0 about1 = true := code_word (m := ⟨7, 13⟩) (meth := k7m13) (c := k7c13) (by decide +kernel) rfl rfl rfl (by decide +kernel)
set_option maxRecDepth 65536 in
theorem w_c25 : (Jvm.Cond.code ({ cls := "jdk/internal/util/Preconditions", name := "checkIndex", desc := "(IILjava/util/function/BiFunction;)I" } : Jvm.MethodName) jdk_41_method_11_code (3 : Nat) (Option.some Jvm.ClassFile.FieldType.int)).before args0 about1 = true := code_word (m := ⟨12, 1⟩) (meth := k12m1) (c := k12c1) (by decide +kernel) rfl rfl rfl (by decide +kernel)
set_option maxRecDepth 65536 in
theorem w_c26 : (Jvm.Cond.code ({ cls := "com/example/lease_over_store/leaseoverstore/lease/StoreUrl", name := "isAsciiLetter", desc := "(C)Z" } : Jvm.MethodName) prog_24_method_7_code (1 : Nat) (Option.some Jvm.ClassFile.FieldType.boolean)).before args0 about1 = true := code_word (m := ⟨9, 6⟩) (meth := k9m6) (c := k9c6) (by decide +kernel) rfl rfl rfl (by decide +kernel)
set_option maxRecDepth 65536 in
theorem w_c27 : (Jvm.Cond.code ({ cls := "java/lang/String", name := "substring", desc := "(II)Ljava/lang/String;" } : Jvm.MethodName) jdk_42_method_92_code (5 : Nat) (Option.some (Jvm.ClassFile.FieldType.object "java/lang/String"))).before args0 about1 = true := code_word (m := ⟨7, 7⟩) (meth := k7m7) (c := k7c7) (by decide +kernel) rfl rfl rfl (by decide +kernel)
set_option maxRecDepth 65536 in
theorem w_c28 : (Jvm.Cond.code ({ cls := "java/lang/String", name := "checkBoundsBeginEnd", desc := "(III)V" } : Jvm.MethodName) jdk_42_method_158_code (3 : Nat) (Option.none : Option Jvm.ClassFile.FieldType)).before args0 about1 = true := code_word (m := ⟨7, 14⟩) (meth := k7m14) (c := k7c14) (by decide +kernel) rfl rfl rfl (by decide +kernel)
set_option maxRecDepth 65536 in
theorem w_c29 : (Jvm.Cond.code ({ cls := "jdk/internal/util/Preconditions", name := "checkFromToIndex", desc := "(IIILjava/util/function/BiFunction;)I" } : Jvm.MethodName) jdk_41_method_12_code (4 : Nat) (Option.some Jvm.ClassFile.FieldType.int)).before args0 about1 = true := code_word (m := ⟨12, 2⟩) (meth := k12m2) (c := k12c2) (by decide +kernel) rfl rfl rfl (by decide +kernel)
set_option maxRecDepth 65536 in
theorem w_c30 : (Jvm.Cond.code ({ cls := "java/lang/StringLatin1", name := "newString", desc := "([BII)Ljava/lang/String;" } : Jvm.MethodName) jdk_43_method_47_code (3 : Nat) (Option.some (Jvm.ClassFile.FieldType.object "java/lang/String"))).before args0 about1 = true := code_word (m := ⟨11, 5⟩) (meth := k11m5) (c := k11c5) (by decide +kernel) rfl rfl rfl (by decide +kernel)
set_option maxRecDepth 65536 in
theorem w_c31 : (Jvm.Cond.code ({ cls := "java/util/Arrays", name := "copyOfRange", desc := "([BII)[B" } : Jvm.MethodName) jdk_65_method_132_code (3 : Nat) (Option.some (Jvm.ClassFile.FieldType.array Jvm.ClassFile.FieldType.byte))).before args0 about1 = true := code_word (m := ⟨13, 2⟩) (meth := k13m2) (c := k13c2) (by decide +kernel) rfl rfl rfl (by decide +kernel)
set_option maxRecDepth 65536 in
theorem w_c32 : (Jvm.Cond.code ({ cls := "java/util/Arrays", name := "copyOfRangeByte", desc := "([BII)[B" } : Jvm.MethodName) jdk_65_method_133_code (5 : Nat) (Option.some (Jvm.ClassFile.FieldType.array Jvm.ClassFile.FieldType.byte))).before args0 about1 = true := code_word (m := ⟨13, 3⟩) (meth := k13m3) (c := k13c3) (by decide +kernel) rfl rfl rfl (by decide +kernel)
set_option maxRecDepth 65536 in
theorem w_c33 : (Jvm.Cond.code ({ cls := "java/util/Arrays", name := "checkLength", desc := "(II)V" } : Jvm.MethodName) jdk_65_method_131_code (2 : Nat) (Option.none : Option Jvm.ClassFile.FieldType)).before args0 about1 = true := code_word (m := ⟨13, 1⟩) (meth := k13m1) (c := k13c1) (by decide +kernel) rfl rfl rfl (by decide +kernel)
set_option maxRecDepth 65536 in
theorem w_c34 : (Jvm.Cond.code ({ cls := "java/lang/Math", name := "min", desc := "(II)I" } : Jvm.MethodName) jdk_29_method_69_code (2 : Nat) (Option.some Jvm.ClassFile.FieldType.int)).before args0 about1 = true := code_word (m := ⟨14, 1⟩) (meth := k14m1) (c := k14c1) (by decide +kernel) rfl rfl rfl (by decide +kernel)
set_option maxRecDepth 65536 in
theorem w_c35 : (Jvm.Cond.code ({ cls := "java/lang/String", name := "<init>", desc := "([BB)V" } : Jvm.MethodName) jdk_42_method_151_code (3 : Nat) (Option.none : Option Jvm.ClassFile.FieldType)).before args0 about1 = true := code_word (m := ⟨7, 10⟩) (meth := k7m10) (c := k7c10) (by decide +kernel) rfl rfl rfl (by decide +kernel)
set_option maxRecDepth 65536 in
theorem w_c36 : (Jvm.Cond.code ({ cls := "java/lang/String", name := "equalsIgnoreCase", desc := "(Ljava/lang/String;)Z" } : Jvm.MethodName) jdk_42_method_70_code (2 : Nat) (Option.some Jvm.ClassFile.FieldType.boolean)).before args0 about1 = true := code_word (m := ⟨7, 5⟩) (meth := k7m5) (c := k7c5) (by decide +kernel) rfl rfl rfl (by decide +kernel)
set_option maxRecDepth 65536 in
theorem w_c37 : (Jvm.Cond.code ({ cls := "java/lang/String", name := "toLowerCase", desc := "(Ljava/util/Locale;)Ljava/lang/String;" } : Jvm.MethodName) jdk_42_method_109_code (2 : Nat) (Option.some (Jvm.ClassFile.FieldType.object "java/lang/String"))).before args0 about1 = true := code_word (m := ⟨7, 8⟩) (meth := k7m8) (c := k7c8) (by decide +kernel) rfl rfl rfl (by decide +kernel)
set_option maxRecDepth 65536 in
theorem w_c38 : (Jvm.Cond.code ({ cls := "java/lang/StringLatin1", name := "toLowerCase", desc := "(Ljava/lang/String;[BLjava/util/Locale;)Ljava/lang/String;" } : Jvm.MethodName) jdk_43_method_32_code (9 : Nat) (Option.some (Jvm.ClassFile.FieldType.object "java/lang/String"))).before args0 about1 = true := code_word (m := ⟨11, 4⟩) (meth := k11m4) (c := k11c4) (by decide +kernel) rfl rfl rfl (by decide +kernel)
set_option maxRecDepth 65536 in
theorem w_c39 : (Jvm.Cond.code ({ cls := "java/lang/CharacterDataLatin1", name := "toLowerCase", desc := "(I)I" } : Jvm.MethodName) jdk_116_method_20_code (3 : Nat) (Option.some Jvm.ClassFile.FieldType.int)).before args0 about1 = true := code_word (m := ⟨19, 0⟩) (meth := k19m0) (c := k19c0) (by decide +kernel) rfl rfl rfl (by decide +kernel)
set_option maxRecDepth 65536 in
theorem w_c40 : (Jvm.Cond.code ({ cls := "java/util/Locale", name := "getLanguage", desc := "()Ljava/lang/String;" } : Jvm.MethodName) jdk_2628_method_27_code (1 : Nat) (Option.some (Jvm.ClassFile.FieldType.object "java/lang/String"))).before args0 about1 = true := code_word (m := ⟨17, 0⟩) (meth := k17m0) (c := k17c0) (by decide +kernel) rfl rfl rfl (by decide +kernel)
set_option maxRecDepth 65536 in
theorem w_c41 : (Jvm.Cond.code ({ cls := "sun/util/locale/BaseLocale", name := "getLanguage", desc := "()Ljava/lang/String;" } : Jvm.MethodName) jdk_3003_method_5_code (1 : Nat) (Option.some (Jvm.ClassFile.FieldType.object "java/lang/String"))).before args0 about1 = true := code_word (m := ⟨20, 0⟩) (meth := k20m0) (c := k20c0) (by decide +kernel) rfl rfl rfl (by decide +kernel)
set_option maxRecDepth 65536 in
theorem w_c42 : (Jvm.Cond.code ({ cls := "java/lang/StringLatin1", name := "canEncode", desc := "(I)Z" } : Jvm.MethodName) jdk_43_method_4_code (1 : Nat) (Option.some Jvm.ClassFile.FieldType.boolean)).before args0 about1 = true := code_word (m := ⟨11, 2⟩) (meth := k11m2) (c := k11c2) (by decide +kernel) rfl rfl rfl (by decide +kernel)
set_option maxRecDepth 65536 in
theorem w_c43 : (Jvm.Cond.code ({ cls := "com/example/lease_over_store/leaseoverstore/lease/StoreUrl", name := "<init>", desc := "(Ljava/lang/String;Ljava/lang/String;)V" } : Jvm.MethodName) prog_24_method_1_code (3 : Nat) (Option.none : Option Jvm.ClassFile.FieldType)).before args0 about1 = true := code_word (m := ⟨9, 0⟩) (meth := k9m0) (c := k9c0) (by decide +kernel) rfl rfl rfl (by decide +kernel)
set_option maxRecDepth 65536 in
theorem w_c44 : (Jvm.Cond.code ({ cls := "com/example/lease_over_store/leaseoverstore/lease/StoreUrl", name := "scheme", desc := "()Ljava/lang/String;" } : Jvm.MethodName) prog_24_method_3_code (1 : Nat) (Option.some (Jvm.ClassFile.FieldType.object "java/lang/String"))).before args0 about1 = true := code_word (m := ⟨9, 2⟩) (meth := k9m2) (c := k9c2) (by decide +kernel) rfl rfl rfl (by decide +kernel)
set_option maxRecDepth 65536 in
theorem w_c45 : (Jvm.Cond.code ({ cls := "com/example/lease_over_store/leaseoverstore/lease/StoreUrl", name := "url", desc := "()Ljava/lang/String;" } : Jvm.MethodName) prog_24_method_4_code (1 : Nat) (Option.some (Jvm.ClassFile.FieldType.object "java/lang/String"))).before args0 about1 = true := code_word (m := ⟨9, 3⟩) (meth := k9m3) (c := k9c3) (by decide +kernel) rfl rfl rfl (by decide +kernel)
set_option maxRecDepth 65536 in
theorem w_c46 : (Jvm.Cond.code ({ cls := "java/lang/String", name := "equals", desc := "(Ljava/lang/Object;)Z" } : Jvm.MethodName) jdk_42_method_66_code (3 : Nat) (Option.some Jvm.ClassFile.FieldType.boolean)).before args0 about1 = true := code_word (m := ⟨7, 4⟩) (meth := k7m4) (c := k7c4) (by decide +kernel) rfl rfl rfl (by decide +kernel)
set_option maxRecDepth 65536 in
theorem w_c47 : (Jvm.Cond.code ({ cls := "com/example/lease_over_store/leaseoverstore/lease/StoreUrlParsePinLaw", name := "agree", desc := "(Ljava/lang/String;[CII)Z" } : Jvm.MethodName) method_3_code (4 : Nat) (Option.some Jvm.ClassFile.FieldType.boolean)).before args0 about1 = true := code_word (m := ⟨1, 2⟩) (meth := k1m2) (c := k1c2) (by decide +kernel) rfl rfl rfl (by decide +kernel)
set_option maxRecDepth 65536 in
theorem w_c48 : (Jvm.Cond.code ({ cls := "com/example/lease_over_store/leaseoverstore/lease/StoreUrl", name := "isSchemeChar", desc := "(C)Z" } : Jvm.MethodName) prog_24_method_6_code (1 : Nat) (Option.some Jvm.ClassFile.FieldType.boolean)).before args0 about1 = true := code_word (m := ⟨9, 5⟩) (meth := k9m5) (c := k9c5) (by decide +kernel) rfl rfl rfl (by decide +kernel)
set_option maxRecDepth 65536 in
theorem w_c49 : (Jvm.Cond.code ({ cls := "java/lang/String", name := "regionMatches", desc := "(ZILjava/lang/String;II)Z" } : Jvm.MethodName) jdk_42_method_74_code (9 : Nat) (Option.some Jvm.ClassFile.FieldType.boolean)).before args0 about1 = true := code_word (m := ⟨7, 6⟩) (meth := k7m6) (c := k7c6) (by decide +kernel) rfl rfl rfl (by decide +kernel)
set_option maxRecDepth 65536 in
theorem w_c50 : (Jvm.Cond.code ({ cls := "java/lang/StringLatin1", name := "regionMatchesCI", desc := "([BI[BII)Z" } : Jvm.MethodName) jdk_43_method_30_code (8 : Nat) (Option.some Jvm.ClassFile.FieldType.boolean)).before args0 about1 = true := code_word (m := ⟨11, 3⟩) (meth := k11m3) (c := k11c3) (by decide +kernel) rfl rfl rfl (by decide +kernel)
set_option maxRecDepth 65536 in
theorem w_c51 : (Jvm.Cond.code ({ cls := "java/lang/CharacterDataLatin1", name := "equalsIgnoreCase", desc := "(BB)Z" } : Jvm.MethodName) jdk_116_method_22_code (3 : Nat) (Option.some Jvm.ClassFile.FieldType.boolean)).before args0 about1 = true := code_word (m := ⟨19, 1⟩) (meth := k19m1) (c := k19c1) (by decide +kernel) rfl rfl rfl (by decide +kernel)
def codes1 : List Jvm.Cond := [Jvm.Cond.code x code maxLocals ret, Jvm.Cond.code ({ cls := "com/example/lease_over_store/leaseoverstore/lease/StoreUrlParsePinLaw", name := "ch", desc := "(I)C" } : Jvm.MethodName) method_4_code (2 : Nat) (Option.some Jvm.ClassFile.FieldType.char), Jvm.Cond.code ({ cls := "com/example/lease_over_store/leaseoverstore/lease/StoreUrlParsePinLaw", name := "cut", desc := "([CI)[C" } : Jvm.MethodName) method_5_code (2 : Nat) (Option.some (Jvm.ClassFile.FieldType.array Jvm.ClassFile.FieldType.char)), Jvm.Cond.code ({ cls := "java/lang/String", name := "<init>", desc := "([C)V" } : Jvm.MethodName) jdk_42_method_3_code (2 : Nat) (Option.none : Option Jvm.ClassFile.FieldType), Jvm.Cond.code ({ cls := "java/lang/String", name := "<init>", desc := "([CIILjava/lang/Void;)V" } : Jvm.MethodName) jdk_42_method_149_code (6 : Nat) (Option.none : Option Jvm.ClassFile.FieldType), Jvm.Cond.code ({ cls := "java/lang/Object", name := "<init>", desc := "()V" } : Jvm.MethodName) object_method_1_code (1 : Nat) (Option.none : Option Jvm.ClassFile.FieldType), Jvm.Cond.code ({ cls := "com/example/lease_over_store/leaseoverstore/lease/StoreUrlParsePinLaw", name := "end", desc := "([CII)I" } : Jvm.MethodName) method_6_code (5 : Nat) (Option.some Jvm.ClassFile.FieldType.int), Jvm.Cond.code ({ cls := "java/lang/StringUTF16", name := "compress", desc := "([CII)[B" } : Jvm.MethodName) jdk_52_method_16_code (6 : Nat) (Option.some (Jvm.ClassFile.FieldType.array Jvm.ClassFile.FieldType.byte)), Jvm.Cond.code ({ cls := "java/lang/StringUTF16", name := "compress", desc := "([CI[BII)I" } : Jvm.MethodName) jdk_52_method_21_code (7 : Nat) (Option.some Jvm.ClassFile.FieldType.int), Jvm.Cond.code ({ cls := "java/lang/StringUTF16", name := "coderFromArrayLen", desc := "([BI)B" } : Jvm.MethodName) jdk_52_method_15_code (2 : Nat) (Option.some Jvm.ClassFile.FieldType.byte), Jvm.Cond.code ({ cls := "com/example/lease_over_store/leaseoverstore/lease/StoreUrlParsePinLaw", name := "letter", desc := "(C)Z" } : Jvm.MethodName) method_10_code (1 : Nat) (Option.some Jvm.ClassFile.FieldType.boolean), Jvm.Cond.code ({ cls := "com/example/lease_over_store/leaseoverstore/lease/StoreUrlParsePinLaw", name := "colon", desc := "([CII)I" } : Jvm.MethodName) method_7_code (3 : Nat) (Option.some Jvm.ClassFile.FieldType.int), Jvm.Cond.code ({ cls := "com/example/lease_over_store/leaseoverstore/lease/StoreUrlParsePinLaw", name := "at", desc := "([CIII)Z" } : Jvm.MethodName) method_8_code (4 : Nat) (Option.some Jvm.ClassFile.FieldType.boolean), Jvm.Cond.code ({ cls := "com/example/lease_over_store/leaseoverstore/lease/StoreUrlParsePinLaw", name := "ok", desc := "([CIII)Z" } : Jvm.MethodName) method_9_code (4 : Nat) (Option.some Jvm.ClassFile.FieldType.boolean), Jvm.Cond.code ({ cls := "com/example/lease_over_store/leaseoverstore/lease/StoreUrlParsePinLaw", name := "sch", desc := "(C)Z" } : Jvm.MethodName) method_11_code (1 : Nat) (Option.some Jvm.ClassFile.FieldType.boolean), Jvm.Cond.code ({ cls := "com/example/lease_over_store/leaseoverstore/lease/StoreUrlParsePinLaw", name := "low", desc := "(C)C" } : Jvm.MethodName) method_12_code (1 : Nat) (Option.some Jvm.ClassFile.FieldType.char), Jvm.Cond.code ({ cls := "com/example/lease_over_store/leaseoverstore/lease/StoreUrl", name := "parse", desc := "(Ljava/lang/String;)Lcom/example/lease_over_store/leaseoverstore/lease/StoreUrl;" } : Jvm.MethodName) prog_24_method_2_code (3 : Nat) (Option.some (Jvm.ClassFile.FieldType.object "com/example/lease_over_store/leaseoverstore/lease/StoreUrl")), Jvm.Cond.code ({ cls := "java/util/Objects", name := "requireNonNull", desc := "(Ljava/lang/Object;Ljava/lang/String;)Ljava/lang/Object;" } : Jvm.MethodName) jdk_31_method_11_code (2 : Nat) (Option.some (Jvm.ClassFile.FieldType.object "java/lang/Object")), Jvm.Cond.code ({ cls := "com/example/lease_over_store/leaseoverstore/lease/StoreUrl", name := "schemeEnd", desc := "(Ljava/lang/String;I)I" } : Jvm.MethodName) prog_24_method_5_code (4 : Nat) (Option.some Jvm.ClassFile.FieldType.int), Jvm.Cond.code ({ cls := "java/lang/String", name := "length", desc := "()I" } : Jvm.MethodName) jdk_42_method_54_code (1 : Nat) (Option.some Jvm.ClassFile.FieldType.int), Jvm.Cond.code ({ cls := "java/lang/String", name := "coder", desc := "()B" } : Jvm.MethodName) jdk_42_method_152_code (1 : Nat) (Option.some Jvm.ClassFile.FieldType.byte), Jvm.Cond.code ({ cls := "java/lang/String", name := "charAt", desc := "(I)C" } : Jvm.MethodName) jdk_42_method_56_code (2 : Nat) (Option.some Jvm.ClassFile.FieldType.char), Jvm.Cond.code ({ cls := "java/lang/String", name := "isLatin1", desc := "()Z" } : Jvm.MethodName) jdk_42_method_154_code (1 : Nat) (Option.some Jvm.ClassFile.FieldType.boolean), Jvm.Cond.code ({ cls := "java/lang/StringLatin1", name := "charAt", desc := "([BI)C" } : Jvm.MethodName) jdk_43_method_2_code (2 : Nat) (Option.some Jvm.ClassFile.FieldType.char), Jvm.Cond.code ({ cls := "java/lang/String", name := "checkIndex", desc := "(II)V" } : Jvm.MethodName) jdk_42_method_155_code (2 : Nat) (Option.none : Option Jvm.ClassFile.FieldType), Jvm.Cond.code ({ cls := "jdk/internal/util/Preconditions", name := "checkIndex", desc := "(IILjava/util/function/BiFunction;)I" } : Jvm.MethodName) jdk_41_method_11_code (3 : Nat) (Option.some Jvm.ClassFile.FieldType.int), Jvm.Cond.code ({ cls := "com/example/lease_over_store/leaseoverstore/lease/StoreUrl", name := "isAsciiLetter", desc := "(C)Z" } : Jvm.MethodName) prog_24_method_7_code (1 : Nat) (Option.some Jvm.ClassFile.FieldType.boolean), Jvm.Cond.code ({ cls := "java/lang/String", name := "substring", desc := "(II)Ljava/lang/String;" } : Jvm.MethodName) jdk_42_method_92_code (5 : Nat) (Option.some (Jvm.ClassFile.FieldType.object "java/lang/String")), Jvm.Cond.code ({ cls := "java/lang/String", name := "checkBoundsBeginEnd", desc := "(III)V" } : Jvm.MethodName) jdk_42_method_158_code (3 : Nat) (Option.none : Option Jvm.ClassFile.FieldType), Jvm.Cond.code ({ cls := "jdk/internal/util/Preconditions", name := "checkFromToIndex", desc := "(IIILjava/util/function/BiFunction;)I" } : Jvm.MethodName) jdk_41_method_12_code (4 : Nat) (Option.some Jvm.ClassFile.FieldType.int), Jvm.Cond.code ({ cls := "java/lang/StringLatin1", name := "newString", desc := "([BII)Ljava/lang/String;" } : Jvm.MethodName) jdk_43_method_47_code (3 : Nat) (Option.some (Jvm.ClassFile.FieldType.object "java/lang/String")), Jvm.Cond.code ({ cls := "java/util/Arrays", name := "copyOfRange", desc := "([BII)[B" } : Jvm.MethodName) jdk_65_method_132_code (3 : Nat) (Option.some (Jvm.ClassFile.FieldType.array Jvm.ClassFile.FieldType.byte)), Jvm.Cond.code ({ cls := "java/util/Arrays", name := "copyOfRangeByte", desc := "([BII)[B" } : Jvm.MethodName) jdk_65_method_133_code (5 : Nat) (Option.some (Jvm.ClassFile.FieldType.array Jvm.ClassFile.FieldType.byte)), Jvm.Cond.code ({ cls := "java/util/Arrays", name := "checkLength", desc := "(II)V" } : Jvm.MethodName) jdk_65_method_131_code (2 : Nat) (Option.none : Option Jvm.ClassFile.FieldType), Jvm.Cond.code ({ cls := "java/lang/Math", name := "min", desc := "(II)I" } : Jvm.MethodName) jdk_29_method_69_code (2 : Nat) (Option.some Jvm.ClassFile.FieldType.int), Jvm.Cond.code ({ cls := "java/lang/String", name := "<init>", desc := "([BB)V" } : Jvm.MethodName) jdk_42_method_151_code (3 : Nat) (Option.none : Option Jvm.ClassFile.FieldType), Jvm.Cond.code ({ cls := "java/lang/String", name := "equalsIgnoreCase", desc := "(Ljava/lang/String;)Z" } : Jvm.MethodName) jdk_42_method_70_code (2 : Nat) (Option.some Jvm.ClassFile.FieldType.boolean), Jvm.Cond.code ({ cls := "java/lang/String", name := "toLowerCase", desc := "(Ljava/util/Locale;)Ljava/lang/String;" } : Jvm.MethodName) jdk_42_method_109_code (2 : Nat) (Option.some (Jvm.ClassFile.FieldType.object "java/lang/String")), Jvm.Cond.code ({ cls := "java/lang/StringLatin1", name := "toLowerCase", desc := "(Ljava/lang/String;[BLjava/util/Locale;)Ljava/lang/String;" } : Jvm.MethodName) jdk_43_method_32_code (9 : Nat) (Option.some (Jvm.ClassFile.FieldType.object "java/lang/String")), Jvm.Cond.code ({ cls := "java/lang/CharacterDataLatin1", name := "toLowerCase", desc := "(I)I" } : Jvm.MethodName) jdk_116_method_20_code (3 : Nat) (Option.some Jvm.ClassFile.FieldType.int), Jvm.Cond.code ({ cls := "java/util/Locale", name := "getLanguage", desc := "()Ljava/lang/String;" } : Jvm.MethodName) jdk_2628_method_27_code (1 : Nat) (Option.some (Jvm.ClassFile.FieldType.object "java/lang/String")), Jvm.Cond.code ({ cls := "sun/util/locale/BaseLocale", name := "getLanguage", desc := "()Ljava/lang/String;" } : Jvm.MethodName) jdk_3003_method_5_code (1 : Nat) (Option.some (Jvm.ClassFile.FieldType.object "java/lang/String")), Jvm.Cond.code ({ cls := "java/lang/StringLatin1", name := "canEncode", desc := "(I)Z" } : Jvm.MethodName) jdk_43_method_4_code (1 : Nat) (Option.some Jvm.ClassFile.FieldType.boolean), Jvm.Cond.code ({ cls := "com/example/lease_over_store/leaseoverstore/lease/StoreUrl", name := "<init>", desc := "(Ljava/lang/String;Ljava/lang/String;)V" } : Jvm.MethodName) prog_24_method_1_code (3 : Nat) (Option.none : Option Jvm.ClassFile.FieldType), Jvm.Cond.code ({ cls := "com/example/lease_over_store/leaseoverstore/lease/StoreUrl", name := "scheme", desc := "()Ljava/lang/String;" } : Jvm.MethodName) prog_24_method_3_code (1 : Nat) (Option.some (Jvm.ClassFile.FieldType.object "java/lang/String")), Jvm.Cond.code ({ cls := "com/example/lease_over_store/leaseoverstore/lease/StoreUrl", name := "url", desc := "()Ljava/lang/String;" } : Jvm.MethodName) prog_24_method_4_code (1 : Nat) (Option.some (Jvm.ClassFile.FieldType.object "java/lang/String")), Jvm.Cond.code ({ cls := "java/lang/String", name := "equals", desc := "(Ljava/lang/Object;)Z" } : Jvm.MethodName) jdk_42_method_66_code (3 : Nat) (Option.some Jvm.ClassFile.FieldType.boolean), Jvm.Cond.code ({ cls := "com/example/lease_over_store/leaseoverstore/lease/StoreUrlParsePinLaw", name := "agree", desc := "(Ljava/lang/String;[CII)Z" } : Jvm.MethodName) method_3_code (4 : Nat) (Option.some Jvm.ClassFile.FieldType.boolean), Jvm.Cond.code ({ cls := "com/example/lease_over_store/leaseoverstore/lease/StoreUrl", name := "isSchemeChar", desc := "(C)Z" } : Jvm.MethodName) prog_24_method_6_code (1 : Nat) (Option.some Jvm.ClassFile.FieldType.boolean), Jvm.Cond.code ({ cls := "java/lang/String", name := "regionMatches", desc := "(ZILjava/lang/String;II)Z" } : Jvm.MethodName) jdk_42_method_74_code (9 : Nat) (Option.some Jvm.ClassFile.FieldType.boolean), Jvm.Cond.code ({ cls := "java/lang/StringLatin1", name := "regionMatchesCI", desc := "([BI[BII)Z" } : Jvm.MethodName) jdk_43_method_30_code (8 : Nat) (Option.some Jvm.ClassFile.FieldType.boolean), Jvm.Cond.code ({ cls := "java/lang/CharacterDataLatin1", name := "equalsIgnoreCase", desc := "(BB)Z" } : Jvm.MethodName) jdk_116_method_22_code (3 : Nat) (Option.some Jvm.ClassFile.FieldType.boolean)]
set_option maxRecDepth 65536 in
theorem codes_eq : words1.filter isCode = codes1 := rfl
theorem w_codes : ∀ c ∈ words1.filter isCode, c.before args0 about1 = true := by
  rw [codes_eq]
  intro c hc
  simp only [codes1, List.mem_cons, List.not_mem_nil, or_false] at hc
  rcases hc with rfl | rfl | rfl | rfl | rfl | rfl | rfl | rfl | rfl | rfl | rfl | rfl | rfl | rfl | rfl | rfl | rfl | rfl | rfl | rfl | rfl | rfl | rfl | rfl | rfl | rfl | rfl | rfl | rfl | rfl | rfl | rfl | rfl | rfl | rfl | rfl | rfl | rfl | rfl | rfl | rfl | rfl | rfl | rfl | rfl | rfl | rfl | rfl | rfl | rfl | rfl | rfl
  · exact w_c0
  · exact w_c1
  · exact w_c2
  · exact w_c3
  · exact w_c4
  · exact w_c5
  · exact w_c6
  · exact w_c7
  · exact w_c8
  · exact w_c9
  · exact w_c10
  · exact w_c11
  · exact w_c12
  · exact w_c13
  · exact w_c14
  · exact w_c15
  · exact w_c16
  · exact w_c17
  · exact w_c18
  · exact w_c19
  · exact w_c20
  · exact w_c21
  · exact w_c22
  · exact w_c23
  · exact w_c24
  · exact w_c25
  · exact w_c26
  · exact w_c27
  · exact w_c28
  · exact w_c29
  · exact w_c30
  · exact w_c31
  · exact w_c32
  · exact w_c33
  · exact w_c34
  · exact w_c35
  · exact w_c36
  · exact w_c37
  · exact w_c38
  · exact w_c39
  · exact w_c40
  · exact w_c41
  · exact w_c42
  · exact w_c43
  · exact w_c44
  · exact w_c45
  · exact w_c46
  · exact w_c47
  · exact w_c48
  · exact w_c49
  · exact w_c50
  · exact w_c51
set_option maxRecDepth 65536 in
theorem w_t1 : (words1.take 24).all (fun c => isCode c || c.before args0 about1) = true := by decide +kernel
set_option maxRecDepth 65536 in
theorem w_t2 : ((words1.drop 24).take 24).all (fun c => isCode c || c.before args0 about1) = true := by decide +kernel
set_option maxRecDepth 65536 in
theorem w_t3 : (((words1.drop 24).drop 24).take 24).all (fun c => isCode c || c.before args0 about1) = true := by decide +kernel
set_option maxRecDepth 65536 in
theorem w_t4 : ((((words1.drop 24).drop 24).drop 24).take 24).all (fun c => isCode c || c.before args0 about1) = true := by decide +kernel
set_option maxRecDepth 65536 in
theorem w_t5 : (((((words1.drop 24).drop 24).drop 24).drop 24).take 24).all (fun c => isCode c || c.before args0 about1) = true := by decide +kernel
set_option maxRecDepth 65536 in
theorem w_t6 : ((((((words1.drop 24).drop 24).drop 24).drop 24).drop 24).take 24).all (fun c => isCode c || c.before args0 about1) = true := by decide +kernel
set_option maxRecDepth 65536 in
theorem w_t7 : (((((((words1.drop 24).drop 24).drop 24).drop 24).drop 24).drop 24).take 24).all (fun c => isCode c || c.before args0 about1) = true := by decide +kernel
set_option maxRecDepth 65536 in
theorem w_t8 : ((((((((words1.drop 24).drop 24).drop 24).drop 24).drop 24).drop 24).drop 24).take 24).all (fun c => isCode c || c.before args0 about1) = true := by decide +kernel
set_option maxRecDepth 65536 in
theorem w_t9 : (((((((((words1.drop 24).drop 24).drop 24).drop 24).drop 24).drop 24).drop 24).drop 24).take 24).all (fun c => isCode c || c.before args0 about1) = true := by decide +kernel
set_option maxRecDepth 65536 in
theorem w_t10 : (((((((((words1.drop 24).drop 24).drop 24).drop 24).drop 24).drop 24).drop 24).drop 24).drop 24).all (fun c => isCode c || c.before args0 about1) = true := by decide +kernel
theorem w_tables : (allAtoms (Jvm.Cond.code x code maxLocals ret :: tables_1)).before args0 about1 = true := by
  rw [allAtoms_all]
  show words1.all (fun c => c.before args0 about1) = true
  refine all_split ?_ w_codes
  rw [← List.take_append_drop 24 words1, List.all_append, w_t1, ← List.take_append_drop 24 (words1.drop 24), List.all_append, w_t2, ← List.take_append_drop 24 ((words1.drop 24).drop 24), List.all_append, w_t3, ← List.take_append_drop 24 (((words1.drop 24).drop 24).drop 24), List.all_append, w_t4, ← List.take_append_drop 24 ((((words1.drop 24).drop 24).drop 24).drop 24), List.all_append, w_t5, ← List.take_append_drop 24 (((((words1.drop 24).drop 24).drop 24).drop 24).drop 24), List.all_append, w_t6, ← List.take_append_drop 24 ((((((words1.drop 24).drop 24).drop 24).drop 24).drop 24).drop 24), List.all_append, w_t7, ← List.take_append_drop 24 (((((((words1.drop 24).drop 24).drop 24).drop 24).drop 24).drop 24).drop 24), List.all_append, w_t8, ← List.take_append_drop 24 ((((((((words1.drop 24).drop 24).drop 24).drop 24).drop 24).drop 24).drop 24).drop 24), List.all_append, w_t9, w_t10]
  rfl
set_option maxRecDepth 65536 in
theorem w_rest : rest_1_c.before args0 about1 = true := by decide +kernel
set_option maxRecDepth 65536 in
theorem w_case : (Jvm.Cond.and given_1 narrow_1).before args0 about1 = true := by decide +kernel
set_option maxRecDepth 65536 in
theorem w_consts : constsHeld consts_1 about1 := Jvm.Lit.constsHeldB_iff.mp (by decide +kernel)
theorem w_applies : (headSpec (Jvm.Cond.code x code maxLocals ret :: tables_1) room_1).applies x e0.platform about1 = true :=
  (Spec.applies_iff w_frames).mpr ⟨w_running, w_runnable, w_alone, w_named, w_hears, w_ripe, w_room, w_tables⟩
theorem atStart : AtStart classFile x code maxLocals ret World_1 tables_1 room_1 Calls_1 rest_1 Pre_1 launch0 p0 e0 about1 theMethod args0 below0 :=
  ⟨lists_1, trivial, launch0.admits_env _ _ _, launch0.least_env, fairChoices_fair.cas, fairChoices_fair.clock, w_frames, w_args, w_heap, w_applies, ⟨w_consts, trivial⟩, w_rest, w_case⟩
end start1
theorem witness_1 : WitnessClaimed_1 := ⟨start1.p0, start1.e0, start1.about1, start1.theMethod, start1.args0, start1.below0, start1.atStart⟩
end Jvm.Pilot.@@N@@
