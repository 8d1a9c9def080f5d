import JvmDerived
import JvmDerived.Pilot.@@N@@Statement
import JvmDerived.Pilot.@@N@@Code
set_option linter.unusedVariables false
set_option linter.unusedSimpArgs false
/- laws to paste: Road.backV, Road.codOf (cut by pick.py; bodies as the Statement names them) -/
namespace Jvm.Pilot.@@N@@
namespace StrChars
open Jvm Sem ClassFile Op Lib Jvm.Stand Jvm.Free.XT Jvm.Free.ALB Jvm.Free.JM Jvm.Free
open Jvm.Lib.Cold (StaticIs)
/-- a char array whose places are chars -/
def Ch (a : Addr) (A : Cell) (U : State) : Prop := Arr .char a A U ∧ Typed .char A
theorem Ch.mv {a : Addr} {A : Cell} {U U' : State} (h : Ch a A U) (hal : U.vm.Alike U'.vm) (hh : U'.heap = U.heap) : Ch a A U' := ⟨h.1.mv hal hh, h.2⟩
theorem Ch.keep {a : Addr} {A : Cell} {U U' : State} (h : Ch a A U) (hal : U.vm.Alike U'.vm) (hk : U'.heap[a]? = some A) : Ch a A U' := ⟨h.1.keep hal hk, h.2⟩
/-- what place i of a char[]'s cell holds -/
def cv (A : Cell) (i : Nat) : Int32 := match A.slots[i]? with | some (.int x) => x | _ => 0
theorem Ch.get {a : Addr} {A : Cell} {U : State} (h : Ch a A U) {i : Nat} (hi : i < A.slots.size) : A.slots[i]? = some (.int (cv A i)) := by
  have e := Array.getElem?_eq_getElem hi
  have f := h.2 i _ e
  unfold cv; rw [e]
  generalize A.slots[i] = v at f
  cases v <;> simp [fits] at f ⊢
/-- the byte that i2b leaves of a char -/
def lo8 (x : Int32) : Int32 := x.toInt8.toInt32
theorem fits_lo8 (y : Int32) : fits .byte (.int (lo8 y)) = true := by
  have h1 := y.toInt8.le_toInt
  have h2 := y.toInt8.toInt_lt
  simp only [lo8, fits, Bool.and_eq_true, decide_eq_true_eq, Int32.le_iff_toInt_le, Int8.toInt_toInt32, show (-128 : Int32).toInt = -128 from by decide, show (127 : Int32).toInt = 127 from by decide]
  omega
/-- A' is A but that each place j of lo .. hi - 1 holds f j -/
def Laid (A A' : Cell) (lo hi : Nat) (f : Nat → Value) : Prop := A'.cls = A.cls ∧ A'.vm = A.vm ∧ A'.slots.size = A.slots.size ∧ ∀ i, A'.slots[i]? = if lo ≤ i ∧ i < hi then some (f i) else A.slots[i]?
theorem Laid.zero (A : Cell) (lo : Nat) (f : Nat → Value) : Laid A A lo (lo + 0) f := ⟨rfl, rfl, rfl, fun i => by rw [if_neg (by omega)]⟩
theorem Laid.step {A Ak : Cell} {lo k : Nat} {f : Nat → Value} {v : Value} (h : Laid A Ak lo k f) (hlo : lo ≤ k) (hk : k < Ak.slots.size) (hv : v = f k) : Laid A (Ak.setSlot k v) lo (k + 1) f := by
  refine ⟨h.1, h.2.1, by simpa [Cell.setSlot] using h.2.2.1, fun i => ?_⟩
  by_cases e : k = i
  · subst e; rw [Cell.slots_setSlot_self v hk, if_pos (by omega), hv]
  · rw [Cell.slots_setSlot_ne v e, h.2.2.2 i]
    by_cases q : lo ≤ i ∧ i < k
    · rw [if_pos q, if_pos (by omega)]
    · rw [if_neg q, if_neg (by omega)]
def U16 : String := "java/lang/StringUTF16"
namespace Cmp5
def yN : MethodName := ⟨"java/lang/StringUTF16", "compress", "([CI[BII)I"⟩
abbrev yB : ByteArray := jdk_52_method_21_code
theorem d0 : decode yB 0 = .ok (.iconst 0, 1) := by decide +kernel
theorem d1 : decode yB 1 = .ok (.istore 5, 2) := by decide +kernel
theorem d3 : decode yB 3 = .ok (.iload 5, 2) := by decide +kernel
theorem d5 : decode yB 5 = .ok (.iload 4, 2) := by decide +kernel
theorem d7 : decode yB 7 = .ok (.if_icmp (.ge) 37, 3) := by decide +kernel
theorem d10 : decode yB 10 = .ok (.aload_n 0, 1) := by decide +kernel
theorem d11 : decode yB 11 = .ok (.iload_n 1, 1) := by decide +kernel
theorem d12 : decode yB 12 = .ok (.caload, 1) := by decide +kernel
theorem d13 : decode yB 13 = .ok (.istore 6, 2) := by decide +kernel
theorem d15 : decode yB 15 = .ok (.iload 6, 2) := by decide +kernel
theorem d17 : decode yB 17 = .ok (.sipush 255, 3) := by decide +kernel
theorem d20 : decode yB 20 = .ok (.if_icmp (.le) 6, 3) := by decide +kernel
theorem d26 : decode yB 26 = .ok (.aload_n 2, 1) := by decide +kernel
theorem d27 : decode yB 27 = .ok (.iload_n 3, 1) := by decide +kernel
theorem d28 : decode yB 28 = .ok (.iload 6, 2) := by decide +kernel
theorem d30 : decode yB 30 = .ok (.i2b, 1) := by decide +kernel
theorem d31 : decode yB 31 = .ok (.bastore, 1) := by decide +kernel
theorem d32 : decode yB 32 = .ok (.iinc 1 1, 3) := by decide +kernel
theorem d35 : decode yB 35 = .ok (.iinc 3 1, 3) := by decide +kernel
theorem d38 : decode yB 38 = .ok (.iinc 5 1, 3) := by decide +kernel
theorem d41 : decode yB 41 = .ok (.goto (-38), 3) := by decide +kernel
theorem d44 : decode yB 44 = .ok (.iload 4, 2) := by decide +kernel
theorem d46 : decode yB 46 = .ok (.ireturn, 1) := by decide +kernel
def site : List Cond := []
def tab : Cond := tabOf yN yB 7 (some .int) site
def P (b : Addr) (A : Cell) (d : Addr) (B : Cell) (o q len : Nat) (args : Array Value) (s : State) : Prop := args = #[.ref b, .int (Int32.ofNat o), .ref d, .int (Int32.ofNat q), .int (Int32.ofNat len)] ∧ Ch b A s ∧ Arr .byte d B s ∧ b ≠ d ∧ o + len ≤ A.slots.size ∧ q + len ≤ B.slots.size ∧ ∀ i, i < len → ¬ 255 < cv A (o + i)
def E (b : Addr) (A : Cell) (d : Addr) (B : Cell) (o q len : Nat) (r : Option Value) (s u : State) : Prop := r = some (.int (Int32.ofNat len)) ∧ ∃ B', Put d B' s u ∧ Laid B B' q (q + len) (fun j => Value.int (lo8 (cv A (o + (j - q)))))
/-- no char of the range above 255: len; the places written hold each char's low byte -/
theorem law (l : Launch) (b : Addr) (A : Cell) (d : Addr) (B : Cell) (o q len : Nat) : Law l yN 5 5 0 0 yB 7 (some .int) site (P b A d B o q len) (E b A d B o q len) (copyLocs d q len) 0 0 := by
  refine Law.of_walk (plainFor_of_name (by decide +kernel)) (by decide +kernel) (by decide +kernel) (by decide) (fun _ _ h => by rw [h.1]; rfl) (fun _ U U' hal hh h => ⟨h.1, h.2.1.mv hal hh, h.2.2.1.mv hal hh, h.2.2.2⟩) (fun r U U' V V' h1 hal h2 h => ⟨h.1, h.2.elim fun B' q => ⟨B', q.1.mv h1 h2, q.2⟩⟩) ?_
  intro p e s m args below meth c s₁ X0 hexec hbytes hml hret hlk hnm hown hh0 W hP
  obtain ⟨rfl, hA, hB, hne, l1, l2, hp⟩ := hP
  have c1 : Steps p.tables e below (s₁.setTop (entryFrame m #[.ref b, .int (Int32.ofNat o), .ref d, .int (Int32.ofNat q), .int (Int32.ofNat len)] 7)) (s₁.setTop (mkF m 0 #[.val (.ref b), .val (.int (Int32.ofNat o)), .val (.ref d), .val (.int (Int32.ofNat q)), .val (.int (Int32.ofNat len)), .unset, .unset] [])) := entry rfl
  have hA0 := hA.1.mv X0.warmed.alike hh0
  have hB0 := hB.mv X0.warmed.alike hh0
  have a31 := hA.1.2.2.2
  have c2 : Steps p.tables e below (s₁.setTop (entryFrame m #[.ref b, .int (Int32.ofNat o), .ref d, .int (Int32.ofNat q), .int (Int32.ofNat len)] 7)) (s₁.setTop (mkF m 3 #[.val (.ref b), .val (.int (Int32.ofNat o)), .val (.ref d), .val (.int (Int32.ofNat q)), .val (.int (Int32.ofNat len)), .val (.int 0), .unset] [])) := c1.trans (by
    refine iconstV X0.here hexec rfl 0 (hb hbytes d0) (by decide) ?_
    refine XS.istore X0.here hexec rfl (hb hbytes d1) rfl rfl ?_
    exact Steps.refl _)
  have loop : ∀ (r i : Nat), i + r = len → ∀ (z : Slot), (z = .unset ∨ ∃ w, z = .val w ∧ w.category = 1) → ∀ (Tl : State) (Bk : Cell), Stand p l e { frames := 0, locals := 0, cells := 0, slots := 0 } s m #[.ref b, .int (Int32.ofNat o), .ref d, .int (Int32.ofNat q), .int (Int32.ofNat len)] below meth c Tl ([] ++ copyLocs d q i) 0 0 → Put d Bk s₁ Tl → Laid B Bk q (q + i) (fun j => Value.int (lo8 (cv A (o + (j - q))))) →
      Steps p.tables e below (s₁.setTop (entryFrame m #[.ref b, .int (Int32.ofNat o), .ref d, .int (Int32.ofNat q), .int (Int32.ofNat len)] 7)) (Tl.setTop (mkF m 3 #[.val (.ref b), .val (.int (Int32.ofNat (o + i))), .val (.ref d), .val (.int (Int32.ofNat (q + i))), .val (.int (Int32.ofNat len)), .val (.int (Int32.ofNat i)), z] [])) → ∃ (T' : State) (B' : Cell) (z' : Slot), Stand p l e { frames := 0, locals := 0, cells := 0, slots := 0 } s m #[.ref b, .int (Int32.ofNat o), .ref d, .int (Int32.ofNat q), .int (Int32.ofNat len)] below meth c T' ([] ++ copyLocs d q len) 0 0 ∧ Put d B' s₁ T' ∧ Laid B B' q (q + len) (fun j => Value.int (lo8 (cv A (o + (j - q))))) ∧
      Steps p.tables e below (s₁.setTop (entryFrame m #[.ref b, .int (Int32.ofNat o), .ref d, .int (Int32.ofNat q), .int (Int32.ofNat len)] 7)) (T'.setTop (mkF m 3 #[.val (.ref b), .val (.int (Int32.ofNat (o + len))), .val (.ref d), .val (.int (Int32.ofNat (q + len))), .val (.int (Int32.ofNat len)), .val (.int (Int32.ofNat len)), z'] [])) := by
    intro r
    induction r with
    | zero =>
      intro i hi z hz Tl Bk Xl pl fl cl
      have hil : i = len := by omega
      rw [hil] at Xl fl cl
      exact ⟨Tl, Bk, z, Xl, pl, fl, cl⟩
    | succ r ih =>
      intro i hi z hz Tl Bk Xl pl fl cl
      have all := X0.warmed.alike.symm.trans Xl.warmed.alike
      have hAl := hA0.keep all (pl.other hne hA0.1)
      have hBk := hB0.like all pl.1 fl.1 fl.2.1 fl.2.2.1
      have hlt : q + i < Bk.slots.size := by rw [fl.2.2.1]; omega
      have c3 : Steps p.tables e below (s₁.setTop (entryFrame m #[.ref b, .int (Int32.ofNat o), .ref d, .int (Int32.ofNat q), .int (Int32.ofNat len)] 7)) (Tl.setTop (mkF m 12 #[.val (.ref b), .val (.int (Int32.ofNat (o + i))), .val (.ref d), .val (.int (Int32.ofNat (q + i))), .val (.int (Int32.ofNat len)), .val (.int (Int32.ofNat i)), z] [.int (Int32.ofNat (o + i)), .ref b])) := cl.trans (by
        refine XS.iload Xl.here hexec rfl (hb hbytes d3) rfl ?_
        refine XS.iload Xl.here hexec rfl (hb hbytes d5) rfl ?_
        refine XS.icmpNo Xl.here hexec rfl (hb hbytes d7) rfl (ii_ge_f (lt32 (by omega) (by omega))) ?_
        refine XS.aloadN Xl.here hexec rfl (hb hbytes d10) rfl rfl ?_
        refine XS.iloadN Xl.here hexec rfl (hb hbytes d11) rfl ?_
        exact Steps.refl _)
      have c4 : Steps p.tables e below (s₁.setTop (entryFrame m #[.ref b, .int (Int32.ofNat o), .ref d, .int (Int32.ofNat q), .int (Int32.ofNat len)] 7)) (Tl.setTop (mkF m 13 #[.val (.ref b), .val (.int (Int32.ofNat (o + i))), .val (.ref d), .val (.int (Int32.ofNat (q + i))), .val (.int (Int32.ofNat len)), .val (.int (Int32.ofNat i)), z] [.int (cv A (o + i))])) := c3.trans (by
        refine Xl.aget hexec hAl rfl (hA.get (i := o + i) (by omega)) rfl rfl (hb hbytes d12) ?_
        exact Steps.refl _)
      have c5 : Steps p.tables e below (s₁.setTop (entryFrame m #[.ref b, .int (Int32.ofNat o), .ref d, .int (Int32.ofNat q), .int (Int32.ofNat len)] 7)) (Tl.setTop (mkF m 15 #[.val (.ref b), .val (.int (Int32.ofNat (o + i))), .val (.ref d), .val (.int (Int32.ofNat (q + i))), .val (.int (Int32.ofNat len)), .val (.int (Int32.ofNat i)), .val (.int (cv A (o + i)))] [])) := c4.trans (by
        refine XS.istoreS Xl.here hexec rfl (hb hbytes d13) rfl rfl hz ?_
        exact Steps.refl _)
      have c6 : Steps p.tables e below (s₁.setTop (entryFrame m #[.ref b, .int (Int32.ofNat o), .ref d, .int (Int32.ofNat q), .int (Int32.ofNat len)] 7)) (Tl.setTop (mkF m 31 #[.val (.ref b), .val (.int (Int32.ofNat (o + i))), .val (.ref d), .val (.int (Int32.ofNat (q + i))), .val (.int (Int32.ofNat len)), .val (.int (Int32.ofNat i)), .val (.int (cv A (o + i)))] [.int (lo8 (cv A (o + i))), .int (Int32.ofNat (q + i)), .ref d])) := c5.trans (by
        refine XS.iload Xl.here hexec rfl (hb hbytes d15) rfl ?_
        refine sipushV Xl.here hexec rfl 255 (hb hbytes d17) (by decide) ?_
        refine XS.icmpYes Xl.here hexec rfl (pc0 := 20) rfl (hb hbytes d20) rfl (ii_le_t (hp i (by omega))) (by decide) rfl ?_
        refine XS.aloadN Xl.here hexec rfl (hb hbytes d26) rfl rfl ?_
        refine XS.iloadN Xl.here hexec rfl (hb hbytes d27) rfl ?_
        refine XS.iload Xl.here hexec rfl (hb hbytes d28) rfl ?_
        refine i2b Xl.here hexec rfl (hb hbytes d30) rfl ?_
        exact Steps.refl _)
      obtain ⟨T7, X7, p7, st7⟩ := Xl.aput hexec hBk rfl hlt rfl (fits_lo8 (cv A (o + i))) (g := (mkF m 31 #[.val (.ref b), .val (.int (Int32.ofNat (o + i))), .val (.ref d), .val (.int (Int32.ofNat (q + i))), .val (.int (Int32.ofNat len)), .val (.int (Int32.ofNat i)), .val (.int (cv A (o + i)))] [.int (lo8 (cv A (o + i))), .int (Int32.ofNat (q + i)), .ref d])) rfl (rest := []) rfl (hb hbytes d31)
      have c8 : Steps p.tables e below (s₁.setTop (entryFrame m #[.ref b, .int (Int32.ofNat o), .ref d, .int (Int32.ofNat q), .int (Int32.ofNat len)] 7)) (T7.setTop (mkF m 32 #[.val (.ref b), .val (.int (Int32.ofNat (o + i))), .val (.ref d), .val (.int (Int32.ofNat (q + i))), .val (.int (Int32.ofNat len)), .val (.int (Int32.ofNat i)), .val (.int (cv A (o + i)))] [])) := c6.trans (st7 _ (Steps.refl _))
      have c9 : Steps p.tables e below (s₁.setTop (entryFrame m #[.ref b, .int (Int32.ofNat o), .ref d, .int (Int32.ofNat q), .int (Int32.ofNat len)] 7)) (T7.setTop (mkF m 3 #[.val (.ref b), .val (.int (Int32.ofNat (o + i) + 1)), .val (.ref d), .val (.int (Int32.ofNat (q + i) + 1)), .val (.int (Int32.ofNat len)), .val (.int (Int32.ofNat i + 1)), .val (.int (cv A (o + i)))] [])) := c8.trans (by
        refine iincV X7.here hexec rfl 1 (hb hbytes d32) (by decide) rfl rfl ?_
        refine iincV X7.here hexec rfl 1 (hb hbytes d35) (by decide) rfl rfl ?_
        refine iincV X7.here hexec rfl 1 (hb hbytes d38) (by decide) rfl rfl ?_
        refine XS.goto X7.here hexec rfl (pc0 := 41) rfl (hb hbytes d41) (by decide) rfl ?_
        exact Steps.refl _)
      have c10 : Steps p.tables e below (s₁.setTop (entryFrame m #[.ref b, .int (Int32.ofNat o), .ref d, .int (Int32.ofNat q), .int (Int32.ofNat len)] 7)) (T7.setTop (mkF m 3 #[.val (.ref b), .val (.int (Int32.ofNat (o + (i + 1)))), .val (.ref d), .val (.int (Int32.ofNat (q + (i + 1)))), .val (.int (Int32.ofNat len)), .val (.int (Int32.ofNat (i + 1))), .val (.int (cv A (o + i)))] [])) := by
        have := c9
        rw [succ32, succ32, succ32] at this
        exact this
      exact ih (i + 1) (by omega) _ (Or.inr ⟨_, rfl, rfl⟩) T7 _ (by rw [copyLocs_step, ← List.append_assoc]; exact X7) (pl.trans p7) (fl.step (by omega) hlt (by simp)) c10
  obtain ⟨T9, B9, z9, X9, p9, f9, g9⟩ := loop len 0 (by omega) .unset (Or.inl rfl) s₁ B (by simpa [copyLocs] using X0) ⟨hB0.1, fun _ _ => rfl, rfl⟩ (Laid.zero _ _ _) c2
  have c11 : Steps p.tables e below (s₁.setTop (entryFrame m #[.ref b, .int (Int32.ofNat o), .ref d, .int (Int32.ofNat q), .int (Int32.ofNat len)] 7)) (T9.setTop (mkF m 46 #[.val (.ref b), .val (.int (Int32.ofNat (o + len))), .val (.ref d), .val (.int (Int32.ofNat (q + len))), .val (.int (Int32.ofNat len)), .val (.int (Int32.ofNat len)), z9] [.int (Int32.ofNat len)])) := g9.trans (by
    refine XS.iload X9.here hexec rfl (hb hbytes d3) rfl ?_
    refine XS.iload X9.here hexec rfl (hb hbytes d5) rfl ?_
    refine XS.icmpYes X9.here hexec rfl (pc0 := 7) rfl (hb hbytes d7) rfl (ii_ge_t (nlt32 (by omega) (Nat.le_refl _))) (by decide) rfl ?_
    refine XS.iload X9.here hexec rfl (hb hbytes d44) rfl ?_
    exact Steps.refl _)
  exact ⟨T9, some (.int (Int32.ofNat len)), _, _, _, X9, by simp, rfl, rfl, (fun h => by cases h), ⟨rfl, B9, p9.from hh0, f9⟩, fun fs hl => c11.trans (X9.ireturnOut hexec hret rfl (Or.inl rfl) (hb hbytes d46) hl)⟩
end Cmp5
namespace Cmp3
def yN : MethodName := ⟨"java/lang/StringUTF16", "compress", "([CII)[B"⟩
abbrev yB : ByteArray := jdk_52_method_16_code
theorem d0 : decode yB 0 = .ok (.iload_n 2, 1) := by decide +kernel
theorem d1 : decode yB 1 = .ok (.newarray .byte, 2) := by decide +kernel
theorem d3 : decode yB 3 = .ok (.astore_n 3, 1) := by decide +kernel
theorem d4 : decode yB 4 = .ok (.aload_n 0, 1) := by decide +kernel
theorem d5 : decode yB 5 = .ok (.iload_n 1, 1) := by decide +kernel
theorem d6 : decode yB 6 = .ok (.aload_n 3, 1) := by decide +kernel
theorem d7 : decode yB 7 = .ok (.iconst 0, 1) := by decide +kernel
theorem d8 : decode yB 8 = .ok (.iload_n 2, 1) := by decide +kernel
theorem d9 : decode yB 9 = .ok (.invokestatic 115, 3) := by decide +kernel
theorem d12 : decode yB 12 = .ok (.istore 4, 2) := by decide +kernel
theorem d14 : decode yB 14 = .ok (.iload 4, 2) := by decide +kernel
theorem d16 : decode yB 16 = .ok (.iload_n 2, 1) := by decide +kernel
theorem d17 : decode yB 17 = .ok (.if_icmp (.eq) 40, 3) := by decide +kernel
theorem d57 : decode yB 57 = .ok (.aload_n 3, 1) := by decide +kernel
theorem d58 : decode yB 58 = .ok (.areturn, 1) := by decide +kernel
def site : List Cond := [.arrayClass .byte, Cmp5.tab] ++ staticW U16 115 Cmp5.yN
def tab : Cond := tabOf yN yB 6 (some (.array .byte)) site
def P (b : Addr) (A : Cell) (o len : Nat) (args : Array Value) (s : State) : Prop := args = #[.ref b, .int (Int32.ofNat o), .int (Int32.ofNat len)] ∧ Ch b A s ∧ o + len ≤ A.slots.size ∧ len ≤ 536870912 ∧ ∀ i, i < len → ¬ 255 < cv A (o + i)
def E (b : Addr) (A : Cell) (o len : Nat) (r : Option Value) (s u : State) : Prop := NewArr .byte "[B" len (fun j => .int (lo8 (cv A (o + j)))) r s u ∧ u.heap.size = s.heap.size + 1
/-- no char of the range above 255: a new byte[] of their low bytes -/
theorem law (l : Launch) (b : Addr) (A : Cell) (o len : Nat) : Law l yN 3 3 1 18 yB 6 (some (.array .byte)) site (P b A o len) (E b A o len) [] 1 len := by
  refine Law.of_walk (plainFor_of_name (by decide +kernel)) (by decide +kernel) (by decide +kernel) (by decide) (fun _ _ h => by rw [h.1]; rfl) (fun _ U U' hal hh h => ⟨h.1, h.2.1.mv hal hh, h.2.2⟩) (fun r U U' V V' h1 hal h2 h => ⟨NewArr.mv r U U' V V' h1 hal h2 h.1, by rw [h1, h2]; exact h.2⟩) ?_
  intro p e s m args below meth c s₁ X0 hexec hbytes hml hret hlk hnm hown hh0 W hP
  obtain ⟨rfl, hA, l1, l2, hp⟩ := hP
  have a31 := hA.1.2.2.2
  have c1 : Steps p.tables e below (s₁.setTop (entryFrame m #[.ref b, .int (Int32.ofNat o), .int (Int32.ofNat len)] 6)) (s₁.setTop (mkF m 0 #[.val (.ref b), .val (.int (Int32.ofNat o)), .val (.int (Int32.ofNat len)), .unset, .unset, .unset] [])) := entry rfl
  have c2 : Steps p.tables e below (s₁.setTop (entryFrame m #[.ref b, .int (Int32.ofNat o), .int (Int32.ofNat len)] 6)) (s₁.setTop (mkF m 1 #[.val (.ref b), .val (.int (Int32.ofNat o)), .val (.int (Int32.ofNat len)), .unset, .unset, .unset] [.int (Int32.ofNat len)])) := c1.trans (by
    refine XS.iloadN X0.here hexec rfl (hb hbytes d0) rfl ?_
    exact Steps.refl _)
  obtain ⟨T3, B3, X3, ba3, bs3, bv3, bh3, bf3, st3⟩ := X0.anew hexec (atype := .byte) (wk W (.arrayClass .byte)) rfl (by show len * 1 ≤ _; omega) (by omega) (g := (mkF m 1 #[.val (.ref b), .val (.int (Int32.ofNat o)), .val (.int (Int32.ofNat len)), .unset, .unset, .unset] [.int (Int32.ofNat len)])) rfl (hb hbytes d1) (rest := []) rfl (Nat.le_refl _) (by show 0 + len ≤ len; omega)
  rw [hh0] at ba3 st3
  have kp3 : XT.Kept s T3 := (XT.Kept.of_eq hh0).push bh3
  have hA3 := hA.keep X3.warmed.alike (kp3 _ _ hA.1.1)
  have hne : b ≠ s.heap.size := hA.1.ne
  have c4 : Steps p.tables e below (s₁.setTop (entryFrame m #[.ref b, .int (Int32.ofNat o), .int (Int32.ofNat len)] 6)) (T3.setTop (mkF m 3 #[.val (.ref b), .val (.int (Int32.ofNat o)), .val (.int (Int32.ofNat len)), .unset, .unset, .unset] [.ref s.heap.size])) := c2.trans (st3 _ (Steps.refl _))
  have c5 : Steps p.tables e below (s₁.setTop (entryFrame m #[.ref b, .int (Int32.ofNat o), .int (Int32.ofNat len)] 6)) (T3.setTop (mkF m 9 #[.val (.ref b), .val (.int (Int32.ofNat o)), .val (.int (Int32.ofNat len)), .val (.ref s.heap.size), .unset, .unset] [.int (Int32.ofNat len), .int 0, .ref s.heap.size, .int (Int32.ofNat o), .ref b])) := c4.trans (by
    refine XS.astoreN X3.here hexec rfl (hb hbytes d3) rfl rfl rfl ?_
    refine XS.aloadN X3.here hexec rfl (hb hbytes d4) rfl rfl ?_
    refine XS.iloadN X3.here hexec rfl (hb hbytes d5) rfl ?_
    refine XS.aloadN X3.here hexec rfl (hb hbytes d6) rfl rfl ?_
    refine iconstV X3.here hexec rfl 0 (hb hbytes d7) (by decide) ?_
    refine XS.iloadN X3.here hexec rfl (hb hbytes d8) rfl ?_
    exact Steps.refl _)
  obtain ⟨v6, T6, X6, E6, g6⟩ := X3.callS hexec (Cmp5.law l b A s.heap.size B3 o 0 len) hown (wks W (staticW U16 115 Cmp5.yN)) (wk W Cmp5.tab) (W := 0) (Nat.le_of_ble_eq_true rfl) (Nat.le_of_ble_eq_true rfl) (Nat.le_refl _) (by show 0 + len + 0 ≤ len; omega) (g := (mkF m 9 #[.val (.ref b), .val (.int (Int32.ofNat o)), .val (.int (Int32.ofNat len)), .val (.ref s.heap.size), .unset, .unset] [.int (Int32.ofNat len), .int (Int32.ofNat 0), .ref s.heap.size, .int (Int32.ofNat o), .ref b])) rfl (by rw [hml]; rfl) c5 (argsL := [.ref b, .int (Int32.ofNat o), .ref s.heap.size, .int (Int32.ofNat 0), .int (Int32.ofNat len)]) (rest := []) rfl rfl (by show 2 * 0 + 0 ≤ _; decide) (hb hbytes d9) (⟨rfl, hA3, ba3, hne, l1, by rw [bs3]; simp, hp⟩)
  obtain ⟨rfl, B6, p6, f6⟩ := E6
  have c7 : Steps p.tables e below (s₁.setTop (entryFrame m #[.ref b, .int (Int32.ofNat o), .int (Int32.ofNat len)] 6)) (T6.setTop (mkF m 12 #[.val (.ref b), .val (.int (Int32.ofNat o)), .val (.int (Int32.ofNat len)), .val (.ref s.heap.size), .unset, .unset] [.int (Int32.ofNat len)])) := g6
  have c8 : Steps p.tables e below (s₁.setTop (entryFrame m #[.ref b, .int (Int32.ofNat o), .int (Int32.ofNat len)] 6)) (T6.setTop (mkF m 58 #[.val (.ref b), .val (.int (Int32.ofNat o)), .val (.int (Int32.ofNat len)), .val (.ref s.heap.size), .val (.int (Int32.ofNat len)), .unset] [.ref s.heap.size])) := c7.trans (by
    refine XS.istore X6.here hexec rfl (hb hbytes d12) rfl rfl ?_
    refine XS.iload X6.here hexec rfl (hb hbytes d14) rfl ?_
    refine XS.iloadN X6.here hexec rfl (hb hbytes d16) rfl ?_
    refine XS.icmpYes X6.here hexec rfl (pc0 := 17) rfl (hb hbytes d17) rfl (ii_eq_t rfl) (by decide) rfl ?_
    refine XS.aloadN X6.here hexec rfl (hb hbytes d57) rfl rfl ?_
    exact Steps.refl _)
  have X8 := X6.wide (L' := []) (cells' := 1) (slots' := len) (fun x hx hlt => by
    simp only [List.nil_append, copyLocs, List.mem_map, List.mem_range] at hx
    obtain ⟨i, -, rfl⟩ := hx
    exact absurd hlt (Nat.lt_irrefl _)) (Nat.le_refl _) (by omega)
  exact ⟨T6, some (.ref s.heap.size), _, _, _, X8, rfl, rfl, rfl, (fun h => by cases h), ⟨⟨rfl, B6, ba3.like (X3.warmed.alike.symm.trans X6.warmed.alike) p6.1 f6.1 f6.2.1 f6.2.2.1, f6.2.1.trans bv3, by rw [X6.warmed.alike.findClass, f6.1]; exact bf3, by rw [f6.2.2.1, bs3]; simp, fun j hj => by rw [f6.2.2.2 j, if_pos (by omega)]; rfl, kp3.put p6 (Nat.le_refl _)⟩, by rw [p6.2.2, bh3, hh0]; simp⟩, fun fs hl => c8.trans (X8.areturnOut hexec rfl hret rfl (hb hbytes d58) hl)⟩
end Cmp3
namespace CodL
def yN : MethodName := ⟨"java/lang/StringUTF16", "coderFromArrayLen", "([BI)B"⟩
abbrev yB : ByteArray := jdk_52_method_15_code
theorem d0 : decode yB 0 = .ok (.iload_n 1, 1) := by decide +kernel
theorem d1 : decode yB 1 = .ok (.aload_n 0, 1) := by decide +kernel
theorem d2 : decode yB 2 = .ok (.arraylength, 1) := by decide +kernel
theorem d3 : decode yB 3 = .ok (.isub, 1) := by decide +kernel
theorem d4 : decode yB 4 = .ok (.bipush 31, 2) := by decide +kernel
theorem d6 : decode yB 6 = .ok (.iushr, 1) := by decide +kernel
theorem d7 : decode yB 7 = .ok (.i2b, 1) := by decide +kernel
theorem d8 : decode yB 8 = .ok (.ireturn, 1) := by decide +kernel
def site : List Cond := []
def tab : Cond := tabOf yN yB 2 (some .byte) site
def P (d : Addr) (B : Cell) (args : Array Value) (s : State) : Prop := args = #[.ref d, .int (Int32.ofNat B.slots.size)] ∧ Arr .byte d B s
def E (r : Option Value) (s u : State) : Prop := XT.PureE (some (.int 0)) r s u
/-- an array as long as the number of chars: LATIN1 -/
theorem law (l : Launch) (d : Addr) (B : Cell) : Law l yN 2 2 0 0 yB 2 (some .byte) site (P d B) E [] 0 0 := by
  refine Law.of_walk (plainFor_of_name (by decide +kernel)) (by decide +kernel) (by decide +kernel) (by decide) (fun _ _ h => by rw [h.1]; rfl) (fun _ U U' hal hh h => ⟨h.1, h.2.mv hal hh⟩) (fun r U U' V V' h1 hal h2 h => XT.PureE.mv r U U' V V' h1 hal h2 h) ?_
  intro p e s m args below meth c s₁ X0 hexec hbytes hml hret hlk hnm hown hh0 W hP
  obtain ⟨rfl, hB⟩ := hP
  have hB0 := hB.mv X0.warmed.alike hh0
  have c1 : Steps p.tables e below (s₁.setTop (entryFrame m #[.ref d, .int (Int32.ofNat B.slots.size)] 2)) (s₁.setTop (mkF m 0 #[.val (.ref d), .val (.int (Int32.ofNat B.slots.size))] [])) := entry rfl
  have c2 : Steps p.tables e below (s₁.setTop (entryFrame m #[.ref d, .int (Int32.ofNat B.slots.size)] 2)) (s₁.setTop (mkF m 2 #[.val (.ref d), .val (.int (Int32.ofNat B.slots.size))] [.ref d, .int (Int32.ofNat B.slots.size)])) := c1.trans (by
    refine XS.iloadN X0.here hexec rfl (hb hbytes d0) rfl ?_
    refine XS.aloadN X0.here hexec rfl (hb hbytes d1) rfl rfl ?_
    exact Steps.refl _)
  have c3 : Steps p.tables e below (s₁.setTop (entryFrame m #[.ref d, .int (Int32.ofNat B.slots.size)] 2)) (s₁.setTop (mkF m 8 #[.val (.ref d), .val (.int (Int32.ofNat B.slots.size))] [.int (lo8 (ushr (Int32.ofNat B.slots.size - Int32.ofNat B.slots.size) 31))])) := c2.trans (by
    refine X0.alen hexec hB0 rfl rfl (hb hbytes d2) ?_
    refine XS.isub X0.here hexec rfl (hb hbytes d3) rfl ?_
    refine bipushV X0.here hexec rfl 31 (hb hbytes d4) (by decide) ?_
    refine iushr X0.here hexec rfl (hb hbytes d6) rfl ?_
    refine i2b X0.here hexec rfl (hb hbytes d7) rfl ?_
    exact Steps.refl _)
  have e0 : lo8 (ushr (Int32.ofNat B.slots.size - Int32.ofNat B.slots.size) 31) = 0 := by rw [Int32.sub_self]; decide
  rw [e0] at c3
  exact ⟨s₁, some (.int 0), _, _, _, X0, rfl, rfl, rfl, (fun h => by cases h), ⟨rfl, hh0⟩, fun fs hl => c3.trans (X0.ireturnOut hexec hret rfl (Or.inr (Or.inr (Or.inl rfl))) (hb hbytes d8) hl)⟩
end CodL
/-- the String at a is Latin-1 over a new byte[] (the heap's one new cell): the low bytes of the len chars of A from o on; every cell but a is kept -/
def Got (a : Addr) (D : Cell) (fV fC : Field) (A : Cell) (o len : Nat) (r : Option Value) (s u : State) : Prop := r = none ∧ ∃ D' V : Cell, Blank "java/lang/String" a D' u ∧ Same D D' [fV.slot, fC.slot] ∧ D'.slots[fV.slot]? = some (.ref s.heap.size) ∧ D'.slots[fC.slot]? = some (.int 0) ∧ Arr .byte s.heap.size V u ∧ V.vm = .none ∧ u.vm.findClass "[B" = some V.cls ∧ V.slots.size = len ∧ (∀ j, j < len → V.slots[j]? = some (.int (lo8 (cv A (o + j))))) ∧ (∀ (y : Addr) (c : Cell), y ≠ a → s.heap[y]? = some c → u.heap[y]? = some c) ∧ u.heap.size = s.heap.size + 1
theorem Got.mv {a : Addr} {D A : Cell} {fV fC : Field} {o len : Nat} : ∀ r (U U' V V' : State), U'.heap = U.heap → V.vm.Alike V'.vm → V'.heap = V.heap → Got a D fV fC A o len r U V → Got a D fV fC A o len r U' V' :=
  fun r U U' V V' h1 hal h2 ⟨e0, D', X, a1, a2, a3, a4, a5, a6, a7, a8, a9, a10, a11⟩ => ⟨e0, D', X, a1.mv hal h2, a2, by rw [h1]; exact a3, a4, by rw [h1]; exact a5.mv hal h2, a6, by rw [hal.findClass]; exact a7, a8, a9, by rw [h1, h2]; exact a10, by rw [h1, h2]; exact a11⟩
namespace New4
def yN : MethodName := ⟨"java/lang/String", "<init>", "([CIILjava/lang/Void;)V"⟩
abbrev yB : ByteArray := jdk_42_method_149_code
theorem d0 : decode yB 0 = .ok (.aload_n 0, 1) := by decide +kernel
theorem d1 : decode yB 1 = .ok (.invokespecial 1, 3) := by decide +kernel
theorem d4 : decode yB 4 = .ok (.iload_n 3, 1) := by decide +kernel
theorem d5 : decode yB 5 = .ok (.ifCond (.ne) 22, 3) := by decide +kernel
theorem d27 : decode yB 27 = .ok (.getstatic 38, 3) := by decide +kernel
theorem d30 : decode yB 30 = .ok (.ifCond (.eq) 28, 3) := by decide +kernel
theorem d33 : decode yB 33 = .ok (.aload_n 1, 1) := by decide +kernel
theorem d34 : decode yB 34 = .ok (.iload_n 2, 1) := by decide +kernel
theorem d35 : decode yB 35 = .ok (.iload_n 3, 1) := by decide +kernel
theorem d36 : decode yB 36 = .ok (.invokestatic 177, 3) := by decide +kernel
theorem d39 : decode yB 39 = .ok (.astore 5, 2) := by decide +kernel
theorem d41 : decode yB 41 = .ok (.aload_n 0, 1) := by decide +kernel
theorem d42 : decode yB 42 = .ok (.aload 5, 2) := by decide +kernel
theorem d44 : decode yB 44 = .ok (.iload_n 3, 1) := by decide +kernel
theorem d45 : decode yB 45 = .ok (.invokestatic 47, 3) := by decide +kernel
theorem d48 : decode yB 48 = .ok (.putfield 15, 3) := by decide +kernel
theorem d51 : decode yB 51 = .ok (.aload_n 0, 1) := by decide +kernel
theorem d52 : decode yB 52 = .ok (.aload 5, 2) := by decide +kernel
theorem d54 : decode yB 54 = .ok (.putfield 9, 3) := by decide +kernel
theorem d57 : decode yB 57 = .ok (.return_, 1) := by decide +kernel
def site : List Cond := [.fieldLink "java/lang/String" 38 "java/lang/String" "COMPACT_STRINGS" "Z", Cmp3.tab, CodL.tab, .laysFinal "java/lang/String" "java/lang/String" "value" "[B", .fieldLink "java/lang/String" 9 "java/lang/String" "value" "[B", .laysFinal "java/lang/String" "java/lang/String" "coder" "B", .fieldLink "java/lang/String" 15 "java/lang/String" "coder" "B"] ++ objW "java/lang/String" 1 ++ staticW "java/lang/String" 177 Cmp3.yN ++ staticW "java/lang/String" 47 CodL.yN
def tab : Cond := tabOf yN yB 6 none site
def P (a : Addr) (D : Cell) (fV fC : Field) (b : Addr) (A : Cell) (z : Int32) (o len : Nat) (args : Array Value) (s : State) : Prop := args = #[.ref a, .ref b, .int (Int32.ofNat o), .int (Int32.ofNat len), .null] ∧ Blank "java/lang/String" a D s ∧ Found "java/lang/String" "value" "[B" fV s ∧ Found "java/lang/String" "coder" "B" fC s ∧ Ch b A s ∧ StaticIs s "java/lang/String" "COMPACT_STRINGS" "Z" (.int z) ∧ ¬ z = 0 ∧ 0 < len ∧ o + len ≤ A.slots.size ∧ len ≤ 536870912 ∧ ∀ i, i < len → ¬ 255 < cv A (o + i)
def E (a : Addr) (D : Cell) (fV fC : Field) (A : Cell) (o len : Nat) (r : Option Value) (s u : State) : Prop := Got a D fV fC A o len r s u
/-- len > 0, no char of the range above 255: a Latin-1 String of their low bytes -/
theorem law (l : Launch) (a : Addr) (D : Cell) (fV fC : Field) (b : Addr) (A : Cell) (z : Int32) (o len : Nat) : Law l yN 5 4 2 35 yB 6 none site (P a D fV fC b A z o len) (E a D fV fC A o len) [⟨a, fC.slot⟩, ⟨a, fV.slot⟩] 1 len := by
  refine Law.of_walk (plainFor_of_name (by decide +kernel)) (by decide +kernel) (by decide +kernel) (by decide) (fun _ _ h => by rw [h.1]; rfl) (fun _ U U' hal hh h => ⟨h.1, h.2.1.mv hal hh, h.2.2.1.al hal, h.2.2.2.1.al hal, h.2.2.2.2.1.mv hal hh, h.2.2.2.2.2.1.there hal hh, h.2.2.2.2.2.2⟩) (fun r U U' V V' h1 hal h2 h => Got.mv r U U' V V' h1 hal h2 h) ?_
  intro p e s m args below meth c s₁ X0 hexec hbytes hml hret hlk hnm hown hh0 W hP
  obtain ⟨rfl, hB, f1, f2, hA, s1, hz, l0, l1, l2, hp⟩ := hP
  have a31 := hA.1.2.2.2
  have c1 : Steps p.tables e below (s₁.setTop (entryFrame m #[.ref a, .ref b, .int (Int32.ofNat o), .int (Int32.ofNat len), .null] 6)) (s₁.setTop (mkF m 0 #[.val (.ref a), .val (.ref b), .val (.int (Int32.ofNat o)), .val (.int (Int32.ofNat len)), .val .null, .unset] [])) := entry rfl
  have c2 : Steps p.tables e below (s₁.setTop (entryFrame m #[.ref a, .ref b, .int (Int32.ofNat o), .int (Int32.ofNat len), .null] 6)) (s₁.setTop (mkF m 1 #[.val (.ref a), .val (.ref b), .val (.int (Int32.ofNat o)), .val (.int (Int32.ofNat len)), .val .null, .unset] [.ref a])) := c1.trans (by
    refine XS.aloadN X0.here hexec rfl (hb hbytes d0) rfl rfl ?_
    exact Steps.refl _)
  obtain ⟨T3, X3, q3, st3⟩ := X0.oinit hexec hown (wks W (objW "java/lang/String" 1)) (g := (mkF m 1 #[.val (.ref a), .val (.ref b), .val (.int (Int32.ofNat o)), .val (.int (Int32.ofNat len)), .val .null, .unset] [.ref a])) rfl (by rw [hml]; rfl) (rest := []) rfl (hb hbytes d1) (W := 0) (by show 2 * 0 + 0 ≤ _; decide) (Nat.le_of_ble_eq_true rfl) (Nat.le_of_ble_eq_true rfl)
  have hh3 := q3.trans hh0
  have c4 : Steps p.tables e below (s₁.setTop (entryFrame m #[.ref a, .ref b, .int (Int32.ofNat o), .int (Int32.ofNat len), .null] 6)) (T3.setTop (mkF m 27 #[.val (.ref a), .val (.ref b), .val (.int (Int32.ofNat o)), .val (.int (Int32.ofNat len)), .val .null, .unset] [])) := (c2.trans (st3 _ (Steps.refl _))).trans (by
    refine XS.iloadN X3.here hexec rfl (hb hbytes d4) rfl ?_
    refine XS.ifYes X3.here hexec rfl (pc0 := 5) rfl (hb hbytes d5) rfl (i0_ne_t (nz32 (by omega) l0)) (by decide) rfl ?_
    exact Steps.refl _)
  obtain ⟨T5, X5, q5, st5⟩ := X3.sget hexec hown (wk W (.fieldLink "java/lang/String" 38 "java/lang/String" "COMPACT_STRINGS" "Z")) s1 (fun _ _ h => by rw [hh3]; exact h) (g := (mkF m 27 #[.val (.ref a), .val (.ref b), .val (.int (Int32.ofNat o)), .val (.int (Int32.ofNat len)), .val .null, .unset] [])) rfl (hb hbytes d27)
  have hh5 := q5.trans hh3
  have c6 : Steps p.tables e below (s₁.setTop (entryFrame m #[.ref a, .ref b, .int (Int32.ofNat o), .int (Int32.ofNat len), .null] 6)) (T5.setTop (mkF m 30 #[.val (.ref a), .val (.ref b), .val (.int (Int32.ofNat o)), .val (.int (Int32.ofNat len)), .val .null, .unset] [.int z])) := c4.trans (st5 _ (Steps.refl _))
  have c7 : Steps p.tables e below (s₁.setTop (entryFrame m #[.ref a, .ref b, .int (Int32.ofNat o), .int (Int32.ofNat len), .null] 6)) (T5.setTop (mkF m 36 #[.val (.ref a), .val (.ref b), .val (.int (Int32.ofNat o)), .val (.int (Int32.ofNat len)), .val .null, .unset] [.int (Int32.ofNat len), .int (Int32.ofNat o), .ref b])) := c6.trans (by
    refine XS.ifNo X5.here hexec rfl (hb hbytes d30) rfl (i0_eq_f hz) ?_
    refine XS.aloadN X5.here hexec rfl (hb hbytes d33) rfl rfl ?_
    refine XS.iloadN X5.here hexec rfl (hb hbytes d34) rfl ?_
    refine XS.iloadN X5.here hexec rfl (hb hbytes d35) rfl ?_
    exact Steps.refl _)
  obtain ⟨v8, T8, X8, E8, g8⟩ := X5.callS hexec (Cmp3.law l b A o len) hown (wks W (staticW "java/lang/String" 177 Cmp3.yN)) (wk W Cmp3.tab) (W := 0) (Nat.le_of_ble_eq_true rfl) (Nat.le_of_ble_eq_true rfl) (Nat.le_refl _) (by show 0 + len ≤ len; omega) (g := (mkF m 36 #[.val (.ref a), .val (.ref b), .val (.int (Int32.ofNat o)), .val (.int (Int32.ofNat len)), .val .null, .unset] [.int (Int32.ofNat len), .int (Int32.ofNat o), .ref b])) rfl (by rw [hml]; rfl) c7 (argsL := [.ref b, .int (Int32.ofNat o), .int (Int32.ofNat len)]) (rest := []) rfl rfl (by show 2 * 0 + 0 ≤ _; decide) (hb hbytes d36) (⟨rfl, hA.mv X5.warmed.alike hh5, l1, l2, hp⟩)
  obtain ⟨e8, z8⟩ := E8
  obtain ⟨rfl, N, n1, n2, n3, n4, n5, n6⟩ := NewArr.mv _ T5 s _ _ hh5.symm (Vm.Alike.refl _) rfl e8
  rw [hh5] at z8
  have hB1 := hB.keep X8.warmed.alike (n6 _ _ hB.1)
  have hne : s.heap.size ≠ a := (Nat.ne_of_lt (Array.getElem?_eq_some_iff.mp hB.1).1).symm
  have c9 : Steps p.tables e below (s₁.setTop (entryFrame m #[.ref a, .ref b, .int (Int32.ofNat o), .int (Int32.ofNat len), .null] 6)) (T8.setTop (mkF m 39 #[.val (.ref a), .val (.ref b), .val (.int (Int32.ofNat o)), .val (.int (Int32.ofNat len)), .val .null, .unset] [.ref s.heap.size])) := g8
  have c10 : Steps p.tables e below (s₁.setTop (entryFrame m #[.ref a, .ref b, .int (Int32.ofNat o), .int (Int32.ofNat len), .null] 6)) (T8.setTop (mkF m 45 #[.val (.ref a), .val (.ref b), .val (.int (Int32.ofNat o)), .val (.int (Int32.ofNat len)), .val .null, .val (.ref s.heap.size)] [.int (Int32.ofNat N.slots.size), .ref s.heap.size, .ref a])) := by
    have hc : Steps p.tables e below (s₁.setTop (entryFrame m #[.ref a, .ref b, .int (Int32.ofNat o), .int (Int32.ofNat len), .null] 6)) (T8.setTop (mkF m 45 #[.val (.ref a), .val (.ref b), .val (.int (Int32.ofNat o)), .val (.int (Int32.ofNat len)), .val .null, .val (.ref s.heap.size)] [.int (Int32.ofNat len), .ref s.heap.size, .ref a])) := c9.trans (by
      refine XS.astore X8.here hexec rfl (hb hbytes d39) rfl rfl rfl ?_
      refine XS.aloadN X8.here hexec rfl (hb hbytes d41) rfl rfl ?_
      refine XS.aload X8.here hexec rfl (hb hbytes d42) rfl rfl ?_
      refine XS.iloadN X8.here hexec rfl (hb hbytes d44) rfl ?_
      exact Steps.refl _)
    rw [n4]; exact hc
  obtain ⟨v11, T11, X11, E11, g11⟩ := X8.callS hexec (CodL.law l s.heap.size N) hown (wks W (staticW "java/lang/String" 47 CodL.yN)) (wk W CodL.tab) (W := 1) (Nat.le_of_ble_eq_true rfl) (Nat.le_of_ble_eq_true rfl) (Nat.le_refl _) (by show 0 + len + 0 ≤ len; omega) (g := (mkF m 45 #[.val (.ref a), .val (.ref b), .val (.int (Int32.ofNat o)), .val (.int (Int32.ofNat len)), .val .null, .val (.ref s.heap.size)] [.int (Int32.ofNat N.slots.size), .ref s.heap.size, .ref a])) rfl (by rw [hml]; rfl) c10 (argsL := [.ref s.heap.size, .int (Int32.ofNat N.slots.size)]) (rest := [.ref a]) rfl rfl (by show 2 * 0 + (1 + 0) ≤ _; decide) (hb hbytes d45) (⟨rfl, n1⟩)
  obtain ⟨rfl, q11⟩ := E11
  have hB11 := hB1.mv (X8.warmed.alike.symm.trans X11.warmed.alike) q11
  have c12 : Steps p.tables e below (s₁.setTop (entryFrame m #[.ref a, .ref b, .int (Int32.ofNat o), .int (Int32.ofNat len), .null] 6)) (T11.setTop (mkF m 48 #[.val (.ref a), .val (.ref b), .val (.int (Int32.ofNat o)), .val (.int (Int32.ofNat len)), .val .null, .val (.ref s.heap.size)] [.int 0, .ref a])) := g11
  obtain ⟨T13, X13, p13, bl13, sl13, st13⟩ := X11.finit hexec hown (wk W (.fieldLink "java/lang/String" 15 "java/lang/String" "coder" "B")) (Or.inr ⟨_, (wk W (.laysFinal "java/lang/String" "java/lang/String" "coder" "B"))⟩) (Or.inl ⟨rfl, hnm⟩) f2 (Or.inl rfl) hB11 (t := .byte) (by decide +kernel) rfl (g := (mkF m 48 #[.val (.ref a), .val (.ref b), .val (.int (Int32.ofNat o)), .val (.int (Int32.ofNat len)), .val .null, .val (.ref s.heap.size)] [.int 0, .ref a])) rfl (rest := []) rfl (hb hbytes d48)
  have c14 : Steps p.tables e below (s₁.setTop (entryFrame m #[.ref a, .ref b, .int (Int32.ofNat o), .int (Int32.ofNat len), .null] 6)) (T13.setTop (mkF m 54 #[.val (.ref a), .val (.ref b), .val (.int (Int32.ofNat o)), .val (.int (Int32.ofNat len)), .val .null, .val (.ref s.heap.size)] [.ref s.heap.size, .ref a])) := (c12.trans (st13 _ (Steps.refl _))).trans (by
    refine XS.aloadN X13.here hexec rfl (hb hbytes d51) rfl rfl ?_
    refine XS.aload X13.here hexec rfl (hb hbytes d52) rfl rfl ?_
    exact Steps.refl _)
  obtain ⟨T15, X15, p15, bl15, sl15, st15⟩ := X13.finit hexec hown (wk W (.fieldLink "java/lang/String" 9 "java/lang/String" "value" "[B")) (Or.inr ⟨_, (wk W (.laysFinal "java/lang/String" "java/lang/String" "value" "[B"))⟩) (Or.inl ⟨rfl, hnm⟩) f1 (Or.inl rfl) bl13 (t := (.array .byte)) (by decide +kernel) rfl (g := (mkF m 54 #[.val (.ref a), .val (.ref b), .val (.int (Int32.ofNat o)), .val (.int (Int32.ofNat len)), .val .null, .val (.ref s.heap.size)] [.ref s.heap.size, .ref a])) rfl (rest := []) rfl (hb hbytes d54)
  have c16 : Steps p.tables e below (s₁.setTop (entryFrame m #[.ref a, .ref b, .int (Int32.ofNat o), .int (Int32.ofNat len), .null] 6)) (T15.setTop (mkF m 57 #[.val (.ref a), .val (.ref b), .val (.int (Int32.ofNat o)), .val (.int (Int32.ofNat len)), .val .null, .val (.ref s.heap.size)] [])) := c14.trans (st15 _ (Steps.refl _))
  have ap := apart (Or.inr ⟨_, (wk W (.laysFinal "java/lang/String" "java/lang/String" "value" "[B"))⟩) (Or.inr ⟨_, (wk W (.laysFinal "java/lang/String" "java/lang/String" "coder" "B"))⟩) f1 f2 (t₁ := .array .byte) (t₂ := .byte) (by decide +kernel) (by decide +kernel) (by decide)
  have al := X8.warmed.alike.symm.trans X15.warmed.alike
  have n7 : T11.heap[s.heap.size]? = some N := by rw [q11]; exact n1.1
  exact ⟨T15, none, _, _, _, X15, by simp, rfl, by omega, (fun _ => rfl), ⟨rfl, _, N, bl15, ((Same.refl D _).set _ (by simp)).set _ (by simp), sl15, (Cell.slots_setSlot_ne _ ap).trans sl13, n1.keep al (p15.other hne (p13.other hne n7)), n2, by rw [al.findClass]; exact n3, n4, n5, fun y c h1 h2 => p15.other h1 (p13.other h1 (by rw [q11]; exact n6 y c h2)), by rw [p15.2.2, p13.2.2, q11]; exact z8⟩, fun fs hl => c16.trans (X15.returnOut hexec hret (hb hbytes d57) hl)⟩
end New4
namespace New1
def yN : MethodName := ⟨"java/lang/String", "<init>", "([C)V"⟩
abbrev yB : ByteArray := jdk_42_method_3_code
theorem d0 : decode yB 0 = .ok (.aload_n 0, 1) := by decide +kernel
theorem d1 : decode yB 1 = .ok (.aload_n 1, 1) := by decide +kernel
theorem d2 : decode yB 2 = .ok (.iconst 0, 1) := by decide +kernel
theorem d3 : decode yB 3 = .ok (.aload_n 1, 1) := by decide +kernel
theorem d4 : decode yB 4 = .ok (.arraylength, 1) := by decide +kernel
theorem d5 : decode yB 5 = .ok (.aconst_null, 1) := by decide +kernel
theorem d6 : decode yB 6 = .ok (.invokespecial 27, 3) := by decide +kernel
theorem d9 : decode yB 9 = .ok (.return_, 1) := by decide +kernel
def site : List Cond := [New4.tab] ++ initW "java/lang/String" 27 New4.yN
def tab : Cond := tabOf yN yB 2 none site
def P (a : Addr) (D : Cell) (fV fC : Field) (b : Addr) (A : Cell) (z : Int32) (args : Array Value) (s : State) : Prop := args = #[.ref a, .ref b] ∧ Blank "java/lang/String" a D s ∧ Found "java/lang/String" "value" "[B" fV s ∧ Found "java/lang/String" "coder" "B" fC s ∧ Ch b A s ∧ StaticIs s "java/lang/String" "COMPACT_STRINGS" "Z" (.int z) ∧ ¬ z = 0 ∧ 0 < A.slots.size ∧ A.slots.size ≤ 536870912 ∧ ∀ i, i < A.slots.size → ¬ 255 < cv A i
def E (a : Addr) (D : Cell) (fV fC : Field) (A : Cell) (r : Option Value) (s u : State) : Prop := Got a D fV fC A 0 A.slots.size r s u
/-- new String(chars), not empty, no char above 255: a Latin-1 String of their low bytes -/
theorem law (l : Launch) (a : Addr) (D : Cell) (fV fC : Field) (b : Addr) (A : Cell) (z : Int32) : Law l yN 2 1 3 52 yB 2 none site (P a D fV fC b A z) (E a D fV fC A) [⟨a, fC.slot⟩, ⟨a, fV.slot⟩] 1 A.slots.size := by
  refine Law.of_walk (plainFor_of_name (by decide +kernel)) (by decide +kernel) (by decide +kernel) (by decide) (fun _ _ h => by rw [h.1]; rfl) (fun _ U U' hal hh h => ⟨h.1, h.2.1.mv hal hh, h.2.2.1.al hal, h.2.2.2.1.al hal, h.2.2.2.2.1.mv hal hh, h.2.2.2.2.2.1.there hal hh, h.2.2.2.2.2.2⟩) (fun r U U' V V' h1 hal h2 h => Got.mv r U U' V V' h1 hal h2 h) ?_
  intro p e s m args below meth c s₁ X0 hexec hbytes hml hret hlk hnm hown hh0 W hP
  obtain ⟨rfl, hB, f1, f2, hA, s1, hz, l0, l2, hp⟩ := hP
  have c1 : Steps p.tables e below (s₁.setTop (entryFrame m #[.ref a, .ref b] 2)) (s₁.setTop (mkF m 0 #[.val (.ref a), .val (.ref b)] [])) := entry rfl
  have c2 : Steps p.tables e below (s₁.setTop (entryFrame m #[.ref a, .ref b] 2)) (s₁.setTop (mkF m 6 #[.val (.ref a), .val (.ref b)] [.null, .int (Int32.ofNat A.slots.size), .int 0, .ref b, .ref a])) := c1.trans (by
    refine XS.aloadN X0.here hexec rfl (hb hbytes d0) rfl rfl ?_
    refine XS.aloadN X0.here hexec rfl (hb hbytes d1) rfl rfl ?_
    refine iconstV X0.here hexec rfl 0 (hb hbytes d2) (by decide) ?_
    refine XS.aloadN X0.here hexec rfl (hb hbytes d3) rfl rfl ?_
    refine X0.alen hexec (hA.1.mv X0.warmed.alike hh0) rfl rfl (hb hbytes d4) ?_
    refine XS.aconstNull X0.here hexec rfl (hb hbytes d5) ?_
    exact Steps.refl _)
  obtain ⟨v3, T3, X3, E3, g3⟩ := X0.callN hexec (New4.law l a D fV fC b A z 0 A.slots.size) rfl hown (wks W (initW "java/lang/String" 27 New4.yN)) (W New4.tab (by simp only [site, List.mem_cons, List.mem_append, true_or, or_true])) (W := 0) (Nat.le_of_ble_eq_true rfl) (Nat.le_of_ble_eq_true rfl) (Nat.le_refl _) (by show 0 + A.slots.size ≤ A.slots.size; omega) (g := (mkF m 6 #[.val (.ref a), .val (.ref b)] [.null, .int (Int32.ofNat A.slots.size), .int (Int32.ofNat 0), .ref b, .ref a])) rfl (by rw [hml]; rfl) c2 (argsL := [.ref b, .int (Int32.ofNat 0), .int (Int32.ofNat A.slots.size), .null]) (rest := []) rfl rfl (by show 2 * 0 + 0 ≤ _; decide) (hb hbytes d6) (⟨rfl, hB.mv X0.warmed.alike hh0, f1.al X0.warmed.alike, f2.al X0.warmed.alike, hA.mv X0.warmed.alike hh0, s1.there X0.warmed.alike hh0, hz, l0, by omega, l2, fun i hi => by rw [Nat.zero_add]; exact hp i hi⟩)
  have e0 := Got.mv _ s₁ s _ _ hh0.symm (Vm.Alike.refl _) rfl E3
  obtain rfl := e0.1
  have c4 : Steps p.tables e below (s₁.setTop (entryFrame m #[.ref a, .ref b] 2)) (T3.setTop (mkF m 9 #[.val (.ref a), .val (.ref b)] [])) := g3
  exact ⟨T3, none, _, _, _, X3, by simp, rfl, by omega, (fun _ => rfl), e0, fun fs hl => c4.trans (X3.returnOut hexec hret (hb hbytes d9) hl)⟩
theorem pays {l : Launch} {R : Room} {p : Program} {e : Env} {below : List Frame} {s : State} {sargs : Array Value} {len W : Nat} (a : Addr) (D : Cell) (fV fC : Field) (b : Addr) (A : Cell) (z : Int32) (htab : tab.before sargs s = true) (hfr : 4 ≤ R.frames) (hlo : W + 65 ≤ R.locals) :
    Back l R p e below s sargs yN len W (fun A₁ a₁ => A₁.cells + 1 ≤ R.cells ∧ A₁.slots + A.slots.size ≤ R.slots ∧ P a D fV fC b A z a₁ A₁.U) (fun A₁ _ v₁ B₁ => E a D fV fC A v₁ A₁.U B₁.U ∧ B₁.locs = A₁.locs ++ [⟨a, fC.slot⟩, ⟨a, fV.slot⟩] ∧ B₁.cells = A₁.cells + 1 ∧ B₁.slots = A₁.slots + A.slots.size) :=
  (law l a D fV fC b A z).pays htab hfr (by omega)
end New1
end StrChars
namespace StrChars.Road
open Jvm Sem ClassFile Op Lib Jvm.Stand Jvm.Free Jvm.Free.XT
open Jvm.Lib.Cold (StaticIs)
abbrev ST : String := "java/lang/String"
/-- every table word that New1's law asks, flat -/
abbrev words : List Jvm.Cond := [.code New1.yN New1.yB 2 none, .initialized ST, .methodLink ST 27 New4.yN, .instanceMethod New4.yN,
  .code New4.yN New4.yB 6 none, .fieldLink ST 38 ST "COMPACT_STRINGS" "Z", .laysFinal ST ST "value" "[B", .fieldLink ST 9 ST "value" "[B", .laysFinal ST ST "coder" "B", .fieldLink ST 15 ST "coder" "B",
  .methodLink ST 1 Lib.objectInit, .instanceMethod Lib.objectInit, .code Lib.objectInit ⟨#[0xb1]⟩ 1 none, .methodLink ST 177 Cmp3.yN, .static Cmp3.yN, .methodLink ST 47 CodL.yN, .static CodL.yN,
  .code Cmp3.yN Cmp3.yB 6 (some (.array .byte)), .initialized U16, .arrayClass .byte, .methodLink U16 115 Cmp5.yN, .static Cmp5.yN, .code Cmp5.yN Cmp5.yB 7 (some .int), .code CodL.yN CodL.yB 2 (some .byte)]
theorem tab_of {a : Array Value} {s : State} (h : ∀ w ∈ words, w.before a s = true) : New1.tab.before a s = true := by
  have h5 : Cmp5.tab.before a s = true := unparts (wk h (.code Cmp5.yN Cmp5.yB 7 (some .int))) (wks h (.initialized Cmp5.yN.cls :: Cmp5.site))
  have hc : CodL.tab.before a s = true := unparts (wk h (.code CodL.yN CodL.yB 2 (some .byte))) (wks h (.initialized CodL.yN.cls :: CodL.site))
  have q5 : ∀ w ∈ Cmp5.tab :: words, w.before a s = true := fun w hw => (List.mem_cons.mp hw).elim (fun e => e ▸ h5) (h w)
  have h3 : Cmp3.tab.before a s = true := unparts (wk q5 (.code Cmp3.yN Cmp3.yB 6 (some (.array .byte)))) (wks q5 (.initialized Cmp3.yN.cls :: Cmp3.site))
  have q3 : ∀ w ∈ Cmp3.tab :: CodL.tab :: words, w.before a s = true := fun w hw => (List.mem_cons.mp hw).elim (fun e => e ▸ h3) fun hw => (List.mem_cons.mp hw).elim (fun e => e ▸ hc) (h w)
  have h4 : New4.tab.before a s = true := unparts (wk q3 (.code New4.yN New4.yB 6 none)) (wks q3 (.initialized New4.yN.cls :: New4.site))
  have q4 : ∀ w ∈ New4.tab :: words, w.before a s = true := fun w hw => (List.mem_cons.mp hw).elim (fun e => e ▸ h4) (h w)
  exact unparts (wk q4 (.code New1.yN New1.yB 2 none)) (wks q4 (.initialized New1.yN.cls :: New1.site))
/-- the words ride from the start Z to the walk's own state -/
theorem moved {Z s : State} {a0 args : Array Value} (hZ : Z.Warmed39 s.vm) (hw : ∀ d ∈ words, d.before a0 Z = true) : ∀ d ∈ words, d.before args s = true := fun d hd => by
  have q := hw d hd
  have t : ∀ d ∈ words, d = .arrayClass .byte ∨ (d.onTables && d.keepsFace) = true := by decide +kernel
  rcases t d hd with rfl | t
  · exact RoadKit.mvA hZ q
  · exact RoadKit.mv hZ q t
/-- WHAT COMES BACK, over the tables of the start Z: h the heap at the call, h' behind it -/
def Q (Z : State) (x : Addr) (A : Cell) (h : Heap) (v : Option Value) (h' : Heap) (L : List Loc) : Prop := v = none ∧ (∀ y ∈ L, y.base = x) ∧ RoadKit.Keep h h' [x] ∧ h'.size = h.size + 1 ∧ RoadKit.Exa Z h' x ST ∧ RoadKit.Fld Z h' x ST "value" "[B" (.ref h.size) ∧ RoadKit.Fld Z h' x ST "coder" "B" (.int 0) ∧
  (∃ V : Cell, RoadKit.Arr Z h' h.size V .byte ∧ V.vm = .none ∧ Z.vm.findClass "[B" = some V.cls ∧ V.slots.size = A.slots.size ∧ ∀ j, j < A.slots.size → V.slots[j]? = some (.int (lo8 (cv A j)))) ∧
  ∀ (O n d : String) (w : Value), RoadKit.Fld Z h x O n d w → RoadKit.slotOf Z O n d ≠ RoadKit.slotOf Z ST "value" "[B" → RoadKit.slotOf Z O n d ≠ RoadKit.slotOf Z ST "coder" "B" → RoadKit.Fld Z h' x O n d w
/-- **new String(chars) AT A CALL, IN THE ROAD'S FORM**: for specialBack behind newO: x the fresh String, b the char[] with the cell A -/
theorem back {p : Program} {l : Launch} {e : Env} {R : Room} {s : State} {args : Array Value} {below : List Frame} {len W : Nat} {Z : State} {a0 : Array Value} {h : Heap} (hZ : Z.Warmed39 s.vm) (hw : ∀ d ∈ words, d.before a0 Z = true) {kI : Nat} (wi : (Jvm.Cond.instantiable ST kI).before a0 Z = true)
    {x b : Addr} {A : Cell} {z : Int32} {v0 c0 : Value} (E : RoadKit.Exa Z h x ST) (V : RoadKit.Fld Z h x ST "value" "[B" v0) (C : RoadKit.Fld Z h x ST "coder" "B" c0) (K : RoadKit.Arr Z h b A .char) (hty : Typed .char A) (S : RoadKit.Sta Z h ST "COMPACT_STRINGS" "Z" (.int z)) (hz : ¬ z = 0)
    (l0 : 0 < A.slots.size) (l2 : A.slots.size ≤ 536870912) (hp : ∀ i, i < A.slots.size → ¬ 255 < cv A i) (hfr : 4 ≤ R.frames) (hlo : W + 65 ≤ R.locals) :
    Back l R p e below s args New1.yN len W (fun P a => a = #[.ref x, .ref b] ∧ P.U.heap = h ∧ P.cells + 1 ≤ R.cells ∧ P.slots + A.slots.size ≤ R.slots)
      (fun P _ v B => ∃ L, Q Z x A h v B.U.heap L ∧ B.locs = P.locs ++ L ∧ B.cells = P.cells + 1 ∧ B.slots = P.slots + A.slots.size) := by
  intro m meth c P g ig mk a X hg hsize hdg hW hn hp'
  obtain ⟨rfl, rfl, r1, r2⟩ := hp'
  have al : Z.vm.Alike P.U.vm := hZ.alike.trans X.warmed.alike
  obtain ⟨D, cfV, kV, iV, fV, hD, gV, stV, knV, obV, asV, slV⟩ := id V
  obtain ⟨D', cfC, kC, iC, fC, hD', gC, stC, -, -, asC, slC⟩ := id C
  cases hD.symm.trans hD'
  obtain ⟨D2, kD, e1, e2, e3, e4, e5⟩ := id E
  cases hD.symm.trans e1
  obtain ⟨c2, k2, i1, i2, i3, -⟩ := Cond.instantiable_spec wi
  cases e2.symm.trans i1
  cases e3.symm.trans i2
  obtain ⟨kU, u1, u2⟩ := al.2.2 _ _ e3
  have hB : Blank ST x D P.U := ⟨hD, ⟨knV, fun q hq => by rw [hq] at obV; cases obV⟩, by rw [al.findClass]; exact e2, kU, u1, by rw [u2]; exact i3, by rw [u2]; exact e5 i3⟩
  have F1 : Found ST "value" "[B" fV P.U := ⟨SBG.found_only al ⟨cfV, kV, iV, gV⟩, stV⟩
  have F2 : Found ST "coder" "B" fC P.U := ⟨SBG.found_only al ⟨cfC, kC, iC, gC⟩, stC⟩
  have hA : Ch b A P.U := ⟨⟨K.1, State.isArrayOf_alike al K.2.1, K.2.2, by omega⟩, hty⟩
  have hS : StaticIs P.U ST "COMPACT_STRINGS" "Z" (.int z) := by
    obtain ⟨cfS, iS, kS, fS, st, cS, t1, t2, t3, t4, t5, t6, t7⟩ := S
    exact StaticIs.there (s := { Z with heap := P.U.heap }) ⟨cfS, iS, kS, fS, st, cS, t1, t2, t3, t4, t5, (fun q => by rw [q] at t6; cases t6), t7⟩ al rfl
  obtain ⟨v, B, X', ⟨⟨hv, E', V', q1, q2, q3, q4, q5, q6, q7, q8, q9, q10, q11⟩, hl, hc, hs⟩, st⟩ := New1.pays x D fV fC b A z (tab_of (moved hZ hw)) hfr hlo m meth c P g ig mk _ X hg hsize hdg hW hn ⟨r1, r2, rfl, hB, F1, F2, hA, hS, hz, l0, l2, hp⟩
  have al' : Z.vm.Alike B.U.vm := hZ.alike.trans X'.warmed.alike
  have hsz : E'.slots.size = D.slots.size := by
    obtain ⟨-, -, -, kB, w1, w2, w3⟩ := q1
    obtain ⟨kB', y1, y2⟩ := al'.2.2 _ _ e3
    rw [q2.2.1] at w1
    cases w1.symm.trans y1
    rw [w3, e5 i3, y2]
  refine ⟨v, B, X', ⟨_, ⟨hv, ?_, ⟨by omega, fun y cy hy hn' => q10 y cy (by simpa using hn') hy, fun y cy hy => ?_⟩, q11, ⟨E', _, q1.1, by rw [q2.2.1]; exact e2, by rw [q2.2.1]; exact e3, by rw [q2.1]; exact obV, fun _ => by rw [hsz]; exact e5 i3⟩,
    ⟨E', cfV, kV, iV, fV, q1.1, gV, stV, by rw [q2.1]; exact knV, by rw [q2.1]; exact obV, by rw [q2.2.1]; exact asV, q3⟩, ⟨E', cfC, kC, iC, fC, q1.1, gC, stC, by rw [q2.1]; exact knV, by rw [q2.1]; exact obV, by rw [q2.2.1]; exact asC, q4⟩,
    ⟨V', ⟨q5.1, State.isArrayOf_alike al'.symm q5.2.1, q5.2.2.1⟩, q6, by rw [← al'.findClass]; exact q7, q8, fun j hj => by have := q9 j hj; rwa [Nat.zero_add] at this⟩, fun O n d w F n1 n2 => ?_⟩, hl, hc, hs⟩, st⟩
  · intro y hy
    simp only [List.mem_cons, List.not_mem_nil, or_false] at hy
    rcases hy with rfl | rfl <;> rfl
  · by_cases q : y = x
    · subst q
      cases hD.symm.trans hy
      exact ⟨E', q1.1, q2.2.1, q2.1, hsz⟩
    · exact ⟨cy, q10 y cy q hy, rfl, rfl, rfl⟩
  · obtain ⟨D3, cf, k, i, f, g1, g2, g3, g4, g5, g6, g7⟩ := F
    cases hD.symm.trans g1
    simp only [RoadKit.slotOf, g2, gV, gC, Option.map_some, Option.getD_some] at n1 n2
    exact ⟨E', cf, k, i, f, q1.1, g2, g3, by rw [q2.1]; exact g4, by rw [q2.1]; exact g5, by rw [q2.2.1]; exact g6, by rw [q2.2.2 f.slot (by simp [n1, n2])]; exact g7⟩
end StrChars.Road
namespace StrChars.Road
open Jvm Sem ClassFile Op Lib Jvm.Stand Jvm.Free Jvm.Free.XT
/-- WHAT COMES BACK, the byte[] as a list of values -/
def QA (Z : State) (x : Addr) (zn : Int32) (cs : List Int32) (h : Heap) (v : Option Value) (h' : Heap) (L : List Loc) : Prop := v = none ∧ (∀ y ∈ L, y.base = x) ∧ RoadKit.Keep h h' [x] ∧ h'.size = h.size + 1 ∧ RoadKit.Exa Z h' x ST ∧ RoadKit.Fld Z h' x ST "value" "[B" (.ref h.size) ∧ RoadKit.Fld Z h' x ST "coder" "B" (.int 0) ∧
  (∃ kb, Z.vm.findClass "[B" = some kb ∧ RoadKit.Arv Z h' h.size kb .byte zn (cs.map fun c => .int (lo8 c)) (.int 0)) ∧
  ∀ (O n d : String) (w : Value), RoadKit.Fld Z h x O n d w → RoadKit.slotOf Z O n d ≠ RoadKit.slotOf Z ST "value" "[B" → RoadKit.slotOf Z O n d ≠ RoadKit.slotOf Z ST "coder" "B" → RoadKit.Fld Z h' x O n d w
/-- **new String(chars) AT A CALL, THE ARRAYS AS LISTS**: the char[] at b holds cs, not empty, no char above 255 -/
theorem backArv {p : Program} {l : Launch} {e : Env} {R : Room} {s : State} {args : Array Value} {below : List Frame} {len W : Nat} {Z : State} {a0 : Array Value} {h : Heap} (hZ : Z.Warmed39 s.vm) (hw : ∀ d ∈ words, d.before a0 Z = true) {kI : Nat} (wi : (Jvm.Cond.instantiable ST kI).before a0 Z = true)
    {x b : Addr} {k : ClassId} {zn z : Int32} {cs : List Int32} {dv v0 c0 : Value} (E : RoadKit.Exa Z h x ST) (V : RoadKit.Fld Z h x ST "value" "[B" v0) (C : RoadKit.Fld Z h x ST "coder" "B" c0) (K : RoadKit.Arv Z h b k .char zn (cs.map Value.int) dv) (S : RoadKit.Sta Z h ST "COMPACT_STRINGS" "Z" (.int z)) (hz : ¬ z = 0)
    (hlen : zn.toNatClampNeg = cs.length) (h0 : 0 < cs.length) (hbig : cs.length ≤ 536870912) (hall : ∀ c ∈ cs, ¬ 255 < c) (hfr : 4 ≤ R.frames) (hlo : W + 65 ≤ R.locals) :
    Back l R p e below s args New1.yN len W (fun P a => a = #[.ref x, .ref b] ∧ P.U.heap = h ∧ P.cells + 1 ≤ R.cells ∧ P.slots + cs.length ≤ R.slots)
      (fun P _ v B => ∃ L, QA Z x zn cs h v B.U.heap L ∧ B.locs = P.locs ++ L ∧ B.cells = P.cells + 1 ∧ B.slots = P.slots + cs.length) := by
  obtain ⟨A, K1, K2, K3, K4, K5, K6⟩ := K
  have e : A.slots.size = cs.length := K3.trans hlen
  have hat : ∀ (i : Nat) (hi : i < cs.length), A.slots[i]? = some (.int cs[i]) := fun i hi => by rw [K5 i (by omega)]; simp [List.getD_eq_getElem?_getD, hi]
  have hcv : ∀ (i : Nat) (hi : i < cs.length), cv A i = cs[i] := fun i hi => by unfold cv; rw [hat i hi]
  have hty : Typed .char A := fun i v hv => by
    have hi : i < A.slots.size := (Array.getElem?_eq_some_iff.mp hv).1
    have q := K5 i hi
    rw [hv] at q
    rw [Option.some.inj q]
    exact K6 i hi
  refine Back.mono (back hZ hw wi E V C K1 hty S hz (by omega) (by omega) (fun i hi => by rw [hcv i (by omega)]; exact hall _ (List.getElem_mem _)) hfr hlo) (fun P a hp => ⟨hp.1, hp.2.1, hp.2.2.1, by rw [e]; exact hp.2.2.2⟩) (fun P a v B hp hq => ?_)
  obtain ⟨L, ⟨q1, q2, q3, q4, q5, q6, q7, ⟨V', v1, v2, v3, v4, v5⟩, q9⟩, hl, hc, hs⟩ := hq
  refine ⟨L, ⟨q1, q2, q3, q4, q5, q6, q7, ⟨V'.cls, v3, V', v1, rfl, by rw [v4, e, hlen], K4, fun i hi => ?_, fun i hi => ?_⟩, q9⟩, hl, hc, by rw [hs, e]⟩
  · have hi' : i < cs.length := by omega
    rw [v5 i (by omega), hcv i hi']; simp [List.getD_eq_getElem?_getD, hi']
  · have hi' : i < cs.length := by omega
    simp only [List.getD_eq_getElem?_getD, List.getElem?_map, List.getElem?_eq_getElem hi', Option.map_some, Option.getD_some]
    exact fits_lo8 _
end StrChars.Road
namespace StrChars.Road
open Jvm Sem ClassFile Op Lib Jvm.Stand Jvm.Free Jvm.Free.XT
/-- WHAT COMES BACK, in the writer's own shape -/
def QV (Z : State) (x : Addr) (N : Int32) (bs : List Int32) (h : Heap) (n0 : Nat) (v : Option Value) (h' : Heap) (L : List Loc) : Prop := v = none ∧ RoadKit.Fr n0 L ∧ RoadKit.Keep h h' [x] ∧ RoadKit.Exa Z h' x ST ∧ RoadKit.Fld Z h' x ST "coder" "B" (.int 0) ∧
  ∃ (t : Addr) (kb : ClassId), n0 ≤ t ∧ h.size ≤ t ∧ ¬ t = x ∧ RoadKit.Fld Z h' x ST "value" "[B" (.ref t) ∧ RoadKit.Arv Z h' t kb .byte N (bs.map Value.int) (.int 0)
/-- **new String(chars) AT A CALL, FOR THE WRITER**: a char[] of n known ints, each 0 to 255 -/
theorem backV {p : Program} {l : Launch} {e : Env} {R : Room} {s : State} {args : Array Value} {below : List Frame} {len W : Nat} {Z : State} {a0 : Array Value} {h : Heap} (hZ : Z.Warmed39 s.vm) (hw : ∀ d ∈ words, d.before a0 Z = true) {kI : Nat} (wi : (Jvm.Cond.instantiable ST kI).before a0 Z = true)
    {x b : Addr} {kC : ClassId} {cs bs : List Int32} {d v0 c0 : Value} {z N : Int32} {n n0 : Nat} (hx0 : n0 ≤ x) (hh0 : n0 ≤ h.size) (E : RoadKit.Exa Z h x ST) (V : RoadKit.Fld Z h x ST "value" "[B" v0) (C : RoadKit.Fld Z h x ST "coder" "B" c0) (K : RoadKit.Arv Z h b kC .char N (cs.map Value.int) d) (S : RoadKit.Sta Z h ST "COMPACT_STRINGS" "Z" (.int z)) (hz : ¬ z = 0)
    (hn : cs.length = n) (hN : N = Int32.ofNat n) (l0 : 0 < n) (l2 : n ≤ 4000) (hp : ∀ c ∈ cs, ¬ c < 0 ∧ ¬ (255 : Int32) < c) (hb : bs = cs.map (fun c => c.toInt8.toInt32)) (hfr : 4 ≤ R.frames) (hlo : W + 65 ≤ R.locals) :
    Back l R p e below s args (⟨"java/lang/String", "<init>", "([C)V"⟩ : MethodName) len W (fun P a => a = #[.ref x, .ref b] ∧ P.U.heap = h ∧ P.cells + 1 ≤ R.cells ∧ P.slots + n ≤ R.slots)
      (fun P _ v B => ∃ L, QV Z x N bs h n0 v B.U.heap L ∧ B.locs = P.locs ++ L ∧ B.cells = P.cells + 1 ∧ B.slots = P.slots + n) := by
  subst hn hN hb
  refine Back.mono (backArv hZ hw wi E V C K S hz (n32 (by omega)) l0 (by omega) (fun c hc => (hp c hc).2) hfr hlo) (fun P a hp => hp) (fun P a v B hp hq => ?_)
  obtain ⟨L, ⟨q1, q2, q3, q4, q5, q6, q7, ⟨kb, v1, v2⟩, q9⟩, hl, hc, hs⟩ := hq
  exact ⟨L, ⟨q1, fun y hy => by rw [q2 y hy]; exact hx0, q3, q5, q7, h.size, kb, hh0, Nat.le_refl _, Nat.ne_of_gt E.lt, q6, by rw [List.map_map]; exact v2⟩, hl, hc, hs⟩
end StrChars.Road
namespace StrChars
open Jvm Sem ClassFile Op Lib Jvm.Stand Jvm.Free.XT Jvm.Free.ALB Jvm.Free.JM Jvm.Free
open Jvm.Lib.Cold (StaticIs)
def hi8 (x : Int32) : Int32 := lo8 (x >>> ((8 : Int32) &&& 31))
end StrChars
namespace StrChars.Road
open Jvm Sem ClassFile Op Lib Jvm.Stand Jvm.Free Jvm.Free.XT
open Jvm.Lib.Cold (StaticIs)
/-- the bytes of the chars cs, low before high -/
def wideBytes : List Int32 → List Value
  | [] => []
  | c :: cs => .int (lo8 c) :: .int (hi8 c) :: wideBytes cs
/-- an array of N2 bytes vs codes the chars cs by the coder cd -/
def CodA (cs : List Int32) (cd N2 : Int32) (vs : List Value) : Prop := (cd = 0 ∧ N2 = Int32.ofNat cs.length ∧ vs = (cs.map fun c => Value.int (lo8 c)) ∧ ∀ c ∈ cs, ¬ 255 < c) ∨ (cd = 1 ∧ N2 = Int32.ofNat (2 * cs.length) ∧ vs = wideBytes cs ∧ ∃ c ∈ cs, 255 < c)
end StrChars.Road
namespace StrChars.Road
open Jvm Sem ClassFile Op Lib Jvm.Stand Jvm.Free Jvm.Free.XT
open Jvm.Lib.Cold (StaticIs)
/-- what backV says of its String, as the contracts of this text ask it: cs's low bytes, coder 0 -/
theorem codOf {cs : List Int32} {n : Nat} (hn : cs.length = n) (hb : ∀ c ∈ cs, ¬ 255 < c) : CodA cs 0 (Int32.ofNat n) ((cs.map lo8).map Value.int) := Or.inl ⟨rfl, by rw [hn], by simp [List.map_map, Function.comp_def], hb⟩
end StrChars.Road
end Jvm.Pilot.@@N@@

namespace Jvm.Pilot.@@N@@
open Jvm Jvm.ClassFile Sem Op Lib Jvm.Free Jvm.Stand Jvm.LawKit Jvm.RoadKit Bundle Jvm.Pilot.@@N@@.Jvm.D
abbrev oi (x : Int32) : Slot := .val (.int x)
abbrev oa (x : Addr) : Slot := .val (.ref x)
/-- from here the run comes to its end with what P says -/
def oGo (p : Program) (e : Env) (below : List Frame) (P : Outcome → State → Prop) (T : State) (g : JFrame) : Prop := ∃ s₂ o, Steps p.tables e below (T.setTop g) s₂ ∧ s₂.status = .running ∧ Ended s₂ below o ∧ P o s₂
theorem oby {p : Program} {e : Env} {below : List Frame} {P : Outcome → State → Prop} {T T' : State} {g g' : JFrame} (k : ∀ t, Steps p.tables e below (T'.setTop g') t → Steps p.tables e below (T.setTop g) t) (h : oGo p e below P T' g') : oGo p e below P T g := by
  obtain ⟨s₂, o, h1, h2⟩ := h
  exact ⟨s₂, o, k _ h1, h2⟩
theorem ostart {p : Program} {e : Env} {below : List Frame} {P : Outcome → State → Prop} {T : State} {g g' : JFrame} (q : g = g') (h : oGo p e below P T g') : ∃ s₂ o, Steps p.tables e below (T.setTop g) s₂ ∧ s₂.status = .running ∧ Ended s₂ below o ∧ P o s₂ := by subst q; exact h
theorem oout {p : Program} {e : Env} {below : List Frame} {P : Outcome → State → Prop} {T s₂ : State} {g : JFrame} {o : Outcome} (h1 : Steps p.tables e below (T.setTop g) s₂) (h2 : s₂.status = .running) (h3 : Ended s₂ below o) (h4 : P o s₂) : oGo p e below P T g := ⟨s₂, o, h1, h2, h3, h4⟩
theorem ob {p : Program} {e : Env} {below : List Frame} {P : Outcome → State → Prop} {T : State} {g : JFrame} (T' : State) (g' : JFrame) (k : ∀ t, Steps p.tables e below (T'.setTop g') t → Steps p.tables e below (T.setTop g) t) (h : oGo p e below P T' g') : oGo p e below P T g := oby k h
theorem osuff {p : Program} {e : Env} {below : List Frame} {P : Outcome → State → Prop} {T T' : State} {g g' : JFrame} (h1 : oGo p e below P T' g' → oGo p e below P T g) (h2 : oGo p e below P T' g') : oGo p e below P T g := h1 h2
theorem ow {L : List Jvm.Cond} {Z : State} {a0 : Array Value} (hw : ∀ d ∈ L, d.before a0 Z = true) (k : Nat) {d : Jvm.Cond} (h : L[k]? = some d) : d.before a0 Z = true := hw d (List.mem_of_getElem? h)
theorem on0 {Z : State} {n0 : Nat} {h : Heap} (O : Old Z n0 h) : n0 ≤ h.size := by have h1 := O.1; have h2 := O.2.1; omega
theorem oretA {p : Program} {l : Launch} {e : Env} {R : Room} {s : State} {m : MethodId} {args : Array Value} {below : List Frame} {meth : Method} {c : Code} {T : State} {locs : List Loc} {cells slots : Nat} (X : Stand p l e R s m args below meth c T locs cells slots) (hx : p.tables.exec = Jvm.exec) {pc : Nat} {Ls : Array Slot} {w : Value} {t : FieldType} {rest : List Value} (hret : meth.sig.returnType = some t) (ht : t.isReference = true) (hw : w.isRef = true)
    (hd : decode c.code pc = .ok (.areturn, 1)) {fs : List Frame} (hl : ∀ (f : JFrame) (acts : List Action), f.method = m → f.locked = none → f.entered = [] → (doReturn e (T.setTop f) acts (some w)).1 = T.setFrames fs) :
    Steps p.tables e below (T.setTop (mkF m pc Ls (w :: rest))) (T.setFrames fs) :=
  retOut X hx hret (by cases w <;> first | (simp [Value.isRef] at hw; done) | (cases t <;> rfl)) (Or.inr (Or.inr (Or.inr (Or.inr ⟨rfl, ht, hw⟩)))) hd hl

theorem own_sta {s : State} {args : Array Value} {C n d K : String} (h : (Cond.exactly (.static C n d) K).value args s none s [] = some true) (hi : (Cond.initializedFor C n d).before args s = true ∨ ((Cond.initialized C).before args s = true ∧ (Cond.laysStatic C n d).before args s = true)) :
    ∃ a, (Term.static C n d).eval args s none [] s = some (.ref a) ∧ Sta s s.heap C n d (.ref a) ∧ Exa s s.heap a K := by
  obtain ⟨a, ev⟩ := exa_v h
  exact ⟨a, ev, Sta.start ev hi, Exa.start ev h⟩
theorem own_fldI {s : State} {args : Array Value} {t : Term} {a : Addr} {C n d : String} {k : Int32} (ev : t.eval args s none [] s = some (.ref a)) (h : (Cond.eq (.field t C n d) (.int k)).value args s none s [] = some true) : Fld s s.heap a C n d (.int k) := by
  obtain ⟨x, y, ex, ey, k1, k2⟩ := cmp_v (Or.inl h)
  have e2 : y = .int k := (Option.some.inj ((Term.int_eval k).symm.trans ey)).symm
  subst e2
  obtain ⟨z, rfl⟩ := k2
  have e3 : z = k := gotT (Cond.eq_ints ex ey) h
  subst e3
  exact Fld.start ((fld_at ev).symm.trans ex)
theorem own_fldL {s : State} {args : Array Value} {t : Term} {a : Addr} {C n d : String} {k : Int64} (ev : t.eval args s none [] s = some (.ref a)) (h : (Cond.eq (.field t C n d) (.long k)).value args s none s [] = some true) : Fld s s.heap a C n d (.long k) := by
  obtain ⟨x, y, ex, ey, k1, k2⟩ := cmp_v (Or.inl h)
  have e2 : y = .long k := by simpa [Term.eval] using ey.symm
  subst e2
  obtain ⟨z, rfl⟩ := k2
  have e3 : z = k := gotT (eq_L ex ey) h
  subst e3
  exact Fld.start ((fld_at ev).symm.trans ex)
theorem own_fldN {s : State} {args : Array Value} {t : Term} {a : Addr} {C n d : String} (ev : t.eval args s none [] s = some (.ref a)) (h : (Cond.eq (.field t C n d) .null).value args s none s [] = some true) : Fld s s.heap a C n d .null :=
  Fld.start ((fld_at ev).symm.trans (null_v h))
theorem pn_0 : plainName "java/lang/Number" = true := by first | (simp [plainName, overriddenIn]; done) | decide +kernel
theorem pn_1 : plainName "java/lang/Integer" = true := by first | (simp [plainName, overriddenIn]; done) | decide +kernel
theorem pn_2 : plainName "java/lang/Record" = true := by first | (simp [plainName, overriddenIn]; done) | decide +kernel
theorem pn_3 : plainName "com/example/llave/llave/io/Answer" = true := by first | (simp [plainName, overriddenIn]; done) | decide +kernel
theorem pn_4 : plainName "com/example/llave/llave/io/AnswerCreatedPinLaw" = true := by first | (simp [plainName, overriddenIn]; done) | decide +kernel
theorem own_len {s : State} {args : Array Value} {t : Term} {a : Addr} {c : Cell} {z : Int32} (A : s.arrayAt? a = some c) (ev : t.eval args s none [] s = some (.ref a)) (h : (Cond.eq (.length t) (.int z)).value args s none s [] = some true) : c.slots.size < 2 ^ 31 ∧ c.slots.size.toInt32 = z := by
  have e := eqv_i (Term.int_eval z) h
  have hl : c.slots.size < 2 ^ 31 := by
    by_cases q : c.slots.size < 2 ^ 31
    · exact q
    · exfalso
      have q' : ¬ c.slots.size < 2147483648 := q
      simp [Term.eval, ev, A, q'] at e
  rw [len_f ev A hl] at e
  exact ⟨hl, by simpa using e⟩
theorem own_eqR {s : State} {args : Array Value} {X Y : Term} {w : Addr} (hY : Y.eval args s none [] s = some (.ref w)) (h : (Cond.eq X Y).value args s none s [] = some true) : X.eval args s none [] s = some (.ref w) := by
  obtain ⟨x, y, e1, e2, k1, k2⟩ := cmp_v (Or.inl h)
  cases hY.symm.trans e2
  have hx : x.isRef = true := k2.2
  rw [e1]
  exact congrArg some (gotT (eq_R e1 hY hx rfl) h)
theorem own_idx {s : State} {args : Array Value} {j : Int32} (nj : ¬ j < 0) : (Jvm.Term.sub (Jvm.Term.index 0) (Jvm.Term.int 128)).eval args s none [j.toNatClampNeg] s = some (.int (j - 128)) := by
  have h := idx_at (args := args) (first := s) (o := none) (s := s) nj
  simp [Term.eval] at h ⊢
  simp [h]
theorem own_and255 (x : Int32) : ¬ nar .char ((x &&& (255 : Int32)).toUInt32.toUInt16.toUInt32.toInt32) < 0 ∧ ¬ (255 : Int32) < nar .char ((x &&& (255 : Int32)).toUInt32.toUInt16.toUInt32.toInt32) := by
  have t : ∀ k : Fin 256, ¬ nar .char ((Int32.ofNat k.val).toUInt32.toUInt16.toUInt32.toInt32) < 0 ∧ ¬ (255 : Int32) < nar .char ((Int32.ofNat k.val).toUInt32.toUInt16.toUInt32.toInt32) := by decide +kernel
  have h : (x &&& 255).toBitVec.toNat < 256 := by
    simp only [Int32.toBitVec_and, BitVec.toNat_and]
    exact Nat.lt_succ_of_le Nat.and_le_right
  have e : (x &&& 255) = Int32.ofNat (x &&& 255).toBitVec.toNat := by
    apply Int32.toBitVec_inj.mp
    show _ = BitVec.ofNat 32 _
    rw [BitVec.ofNat_toNat]; simp
  rw [e]
  exact t ⟨_, h⟩
theorem own_up (cs : List Int32) (h : ∀ c ∈ cs, ¬ c < 0 ∧ ¬ (255 : Int32) < c) : ∀ c ∈ cs, ¬ c < 0 ∧ ¬ (65535 : Int32) < c := fun c hc => ⟨(h c hc).1, fun q => (h c hc).2 (by rw [Int32.lt_iff_toInt_lt] at q ⊢; have e1 : (65535 : Int32).toInt = 65535 := rfl; have e2 : (255 : Int32).toInt = 255 := rfl; omega)⟩
theorem own_words : ∀ d ∈ StrChars.Road.words, d ∈ tables_1 := by decide +kernel

def St0 (Z : State) (w_cache : Addr) (c_cache : Cell) (zc : Int32) : Prop := Sta Z Z.heap "java/lang/Integer$IntegerCache" "high" "I" (.int (127 : Int32)) ∧ Sta Z Z.heap "java/lang/Integer$IntegerCache" "cache" "[Ljava/lang/Integer;" (.ref w_cache) ∧ Bxs Z w_cache c_cache "java/lang/Integer" "I" (256 : Int32) (fun j => .int (j - 128)) ∧ Sta Z Z.heap "java/lang/String" "COMPACT_STRINGS" "Z" (.int zc) ∧ ¬ (zc = (0 : Int32))

theorem d15_0 : decode jdk_18_method_1_code 0 = .ok (.aload_n 0, 1) := by decide +kernel
theorem d15_1 : decode jdk_18_method_1_code 1 = .ok (.invokespecial 1, 3) := by decide +kernel
theorem d15_4 : decode jdk_18_method_1_code 4 = .ok (.return_, 1) := by decide +kernel
def Q_rm_num (Z : State) (w_cache : Addr) (c_cache : Cell) (zc : Int32) (a : Addr) (h0 : Heap) (n0 : Nat) (v : Option Value) (h : Heap) (L : List Loc) : Prop := v = none ∧ Fr n0 L ∧ h = h0
set_option maxRecDepth 65536 in
set_option maxHeartbeats 40000000 in
theorem rm_num (l : Launch) (Z : State) (a0 : Array Value) (hw : ∀ d ∈ tables_1, d.before a0 Z = true) (ws : List Jvm.Cond) (w_cache : Addr) (c_cache : Cell) (zc : Int32) (a : Addr) (h0 : Heap) (n0 : Nat) (O0 : Old Z n0 h0) (hS : St0 Z w_cache c_cache zc ) :
    MetFree l (⟨"java/lang/Number", "<init>", "()V"⟩ : MethodName) (head1 (Jvm.Cond.code (⟨"java/lang/Number", "<init>", "()V"⟩ : MethodName) jdk_18_method_1_code 1 none :: ws) ({ frames := 1, cells := 0, slots := 0, locals := 12 } : Room)) (fun aG UG => aG = #[(.ref a)] ∧ Z.Warmed39 UG.vm ∧ UG.heap = h0) (fun _ _ _ _ _ => True) (fun _ UG oG UG' => ∃ vG LG, oG = .returned vG ∧ Q_rm_num Z w_cache c_cache zc a h0 n0 vG UG'.heap LG ∧ FrameEnd UG oG UG' LG ({ frames := 1, cells := 0, slots := 0, locals := 12 } : Room).cells ({ frames := 1, cells := 0, slots := 0, locals := 12 } : Room).slots) := by
  refine MetFree.of_bodySF (plainFor_of_name pn_0) hisR ?_
  intro pG eG sG mG argsG belowG methG cG s₁ Bd hml0 hP hK
  obtain ⟨rfl, hZ, hh⟩ := hP
  have hx := Bd.exec
  have hby := Bd.bytes
  have hml : cG.maxLocals = 1 := hml0
  have hown : sG.vm.findClass "java/lang/Number" = some mG.cls := findClass_of_methodNamed Bd.named
  have hnm := (name_of_methodNamed Bd.named Bd.method).1
  have X0 : Stand pG l eG ({ frames := 1, cells := 0, slots := 0, locals := 12 } : Room) sG mG #[(.ref a)] belowG methG cG s₁ [] 0 0 := Stand.of_body Bd
  have e0 : s₁.heap = h0 := by rw [← hh, Bd.state]; rfl
  have N0 := Fr.nil n0
  have K0 := Keep.refl h0 []
  obtain ⟨S_high, S_cache, B_cache, S_zc, hzc⟩ := (id hS : St0 Z w_cache c_cache zc )
  refine ostart (g' := (mkF mG 0 #[.val (.ref a)] [])) (by first | (simp [entryFrame, mkF, argsToLocals, Value.category]; done) | rfl) ?_
  refine ob s₁ (mkF mG 1 #[.val (.ref a)] [(.ref a)]) (fun _ kk => XS.aloadN X0.here hx rfl (hb hby d15_0) rfl rfl kk) ?_
  obtain ⟨T1, X1, e1, st1⟩ := initO X0 hx hZ hown (ow hw 85 rfl) (ow hw 12 rfl) (ow hw 13 rfl) e0 (g := (mkF mG 1 #[.val (.ref a)] [(.ref a)])) rfl (by rw [hml]; rfl) rfl (hb hby d15_1) (by decide) (W := 0) (by show 2 * 0 + _ ≤ _; exact Nat.le_of_eq rfl) (by decide)
  refine ob T1 (mkF mG 4 #[.val (.ref a)] []) (fun _ kk => st1 _ kk) ?_
  obtain ⟨fs, hr, hrun, hended, hW, hsame⟩ := X1.leave (v := none) (fun _ => rfl)
  refine oout (X1.returnOut hx Bd.returns (hb hby d15_4) hr) hrun hended ⟨_, _, rfl, ?_, ⟨_, rfl⟩, hW, hsame.mono (by decide) (by decide)⟩
  show Q_rm_num Z w_cache c_cache zc a h0 n0 _ T1.heap _
  rw [e1]
  exact ⟨rfl, N0, rfl⟩

theorem d14_0 : decode jdk_33_method_23_code 0 = .ok (.aload_n 0, 1) := by decide +kernel
theorem d14_1 : decode jdk_33_method_23_code 1 = .ok (.invokespecial 202, 3) := by decide +kernel
theorem d14_4 : decode jdk_33_method_23_code 4 = .ok (.aload_n 0, 1) := by decide +kernel
theorem d14_5 : decode jdk_33_method_23_code 5 = .ok (.iload_n 1, 1) := by decide +kernel
theorem d14_6 : decode jdk_33_method_23_code 6 = .ok (.putfield 205, 3) := by decide +kernel
theorem d14_9 : decode jdk_33_method_23_code 9 = .ok (.return_, 1) := by decide +kernel
theorem pd_0 : parseMethodDescriptor "()V" = some ⟨[], none⟩ := by decide +kernel
def Q_rm_int (Z : State) (w_cache : Addr) (c_cache : Cell) (zc : Int32) (a : Addr) (i : Int32) (u0 : Value) (h0 : Heap) (n0 : Nat) (v : Option Value) (h : Heap) (L : List Loc) : Prop := v = none ∧ Fr n0 L ∧ Keep h0 h [a] ∧ Old Z n0 h ∧ Fld Z h a "java/lang/Integer" "value" "I" (.int i)
set_option maxRecDepth 65536 in
set_option maxHeartbeats 40000000 in
theorem rm_int (l : Launch) (Z : State) (a0 : Array Value) (hw : ∀ d ∈ tables_1, d.before a0 Z = true) (ws : List Jvm.Cond) (w_cache : Addr) (c_cache : Cell) (zc : Int32) (a : Addr) (i : Int32) (u0 : Value) (h0 : Heap) (n0 : Nat) (O0 : Old Z n0 h0) (hS : St0 Z w_cache c_cache zc ) (E_a : Exa Z h0 a "java/lang/Integer") (F_0 : Fld Z h0 a "java/lang/Integer" "value" "I" u0) (n_a : n0 ≤ a) :
    MetFree l (⟨"java/lang/Integer", "<init>", "(I)V"⟩ : MethodName) (head1 (Jvm.Cond.code (⟨"java/lang/Integer", "<init>", "(I)V"⟩ : MethodName) jdk_33_method_23_code 2 none :: ws) ({ frames := 2, cells := 0, slots := 0, locals := 24 } : Room)) (fun aG UG => aG = #[(.ref a), (.int i)] ∧ Z.Warmed39 UG.vm ∧ UG.heap = h0) (fun _ _ _ _ _ => True) (fun _ UG oG UG' => ∃ vG LG, oG = .returned vG ∧ Q_rm_int Z w_cache c_cache zc a i u0 h0 n0 vG UG'.heap LG ∧ FrameEnd UG oG UG' LG ({ frames := 2, cells := 0, slots := 0, locals := 24 } : Room).cells ({ frames := 2, cells := 0, slots := 0, locals := 24 } : Room).slots) := by
  refine MetFree.of_bodySF (plainFor_of_name pn_1) hisR ?_
  intro pG eG sG mG argsG belowG methG cG s₁ Bd hml0 hP hK
  obtain ⟨rfl, hZ, hh⟩ := hP
  have hx := Bd.exec
  have hby := Bd.bytes
  have hml : cG.maxLocals = 2 := hml0
  have hown : sG.vm.findClass "java/lang/Integer" = some mG.cls := findClass_of_methodNamed Bd.named
  have hnm := (name_of_methodNamed Bd.named Bd.method).1
  have X0 : Stand pG l eG ({ frames := 2, cells := 0, slots := 0, locals := 24 } : Room) sG mG #[(.ref a), (.int i)] belowG methG cG s₁ [] 0 0 := Stand.of_body Bd
  have e0 : s₁.heap = h0 := by rw [← hh, Bd.state]; rfl
  have N0 := Fr.nil n0
  have K0 := Keep.refl h0 [a]
  obtain ⟨S_high, S_cache, B_cache, S_zc, hzc⟩ := (id hS : St0 Z w_cache c_cache zc )
  refine ostart (g' := (mkF mG 0 #[.val (.ref a), .val (.int i)] [])) (by first | (simp [entryFrame, mkF, argsToLocals, Value.category]; done) | rfl) ?_
  refine ob s₁ (mkF mG 1 #[.val (.ref a), .val (.int i)] [(.ref a)]) (fun _ kk => XS.aloadN X0.here hx rfl (hb hby d14_0) rfl rfl kk) ?_
  obtain ⟨_, _, ⟨T1, L1, k1, n1⟩, -, X1, ⟨Lc1, hQ1, l1, y1, z1⟩, st1⟩ := X0.specialBack hx (y := (⟨"java/lang/Number", "<init>", "()V"⟩ : MethodName)) rfl hown (mvT hZ (ow hw 79 rfl)) (mvT hZ (ow hw 80 rfl)) (mvT hZ (ow hw 84 rfl)) (by decide) (backOf (W := 0) (rm_num l Z a0 hw [] w_cache c_cache zc a h0 n0 O0 hS ) hZ (ow hw 84 rfl) (ow hw 83 rfl) (by decide) (by decide)) (g := (mkF mG 1 #[.val (.ref a), .val (.int i)] [(.ref a)])) rfl (by rw [hml]; rfl) (Steps.refl _) (a := a) (argsL := []) (rest := []) (lenOf pd_0 rfl) rfl (by show 2 * 0 + _ ≤ _; exact Nat.le_of_eq rfl) (hb hby d14_1) (fun _ _ => ⟨rfl, e0, (by decide : 0 + 0 ≤ _), (by decide : 0 + 0 ≤ _)⟩)
  dsimp only [Pt.U, Pt.locs, Pt.cells, Pt.slots] at X1 l1 y1 z1 st1 hQ1
  subst l1 y1 z1
  obtain ⟨rfl, N1q, e1⟩ := hQ1
  have N1 := Fr.app N0 N1q
  refine ob T1 (mkF mG 4 #[.val (.ref a), .val (.int i)] []) (fun _ kk => st1.trans kk) ?_
  refine ob T1 (mkF mG 5 #[.val (.ref a), .val (.int i)] [(.ref a)]) (fun _ kk => XS.aloadN X1.here hx rfl (hb hby d14_4) rfl rfl kk) ?_
  refine ob T1 (mkF mG 6 #[.val (.ref a), .val (.int i)] [(.int i), (.ref a)]) (fun _ kk => XS.iloadN X1.here hx rfl (hb hby d14_5) rfl kk) ?_
  obtain ⟨T2, h2, X2, e2, W2, st2⟩ := putF X1 hx hZ hown (host := "") (Or.inl (ow hw 86 rfl)) Via.refl e1 F_0 E_a (Or.inr ⟨(ow hw 87 rfl), rfl, hnm⟩) (ow hw 74 rfl) (ty := .int) (by decide) rfl rfl (g := (mkF mG 6 #[.val (.ref a), .val (.int i)] [(.int i), (.ref a)])) rfl rfl (hb hby d14_6)
  have F2 := F_0.same W2
  have O2 := O0.wr W2 n_a
  have K2 := K0.wr W2 (Or.inl (List.mem_of_getElem? (i := 0) rfl))
  have N2 := Fr.snoc X2 N1 n_a
  refine ob T2 (mkF mG 9 #[.val (.ref a), .val (.int i)] []) (fun _ kk => st2 _ kk) ?_
  obtain ⟨fs, hr, hrun, hended, hW, hsame⟩ := X2.leave (v := none) (fun _ => rfl)
  refine oout (X2.returnOut hx Bd.returns (hb hby d14_9) hr) hrun hended ⟨_, _, rfl, ?_, ⟨_, rfl⟩, hW, hsame.mono (by decide) (by decide)⟩
  show Q_rm_int Z w_cache c_cache zc a i u0 h0 n0 _ T2.heap _
  rw [e2]
  exact ⟨rfl, N2, K2, O2, F2⟩

theorem own_box {i : Int32} (h1 : ¬ (i < (-128 : Int32))) (h2 : ¬ ((127 : Int32) < i)) : ¬ (i + (128 : Int32)) < 0 ∧ (i + (128 : Int32)) < (256 : Int32) := by
  have a := c_iadd i 128
  have r := rng32 (i + 128)
  rw [Int32.lt_iff_toInt_lt] at *
  have e1 : (-128 : Int32).toInt = -128 := by decide
  have e2 : (127 : Int32).toInt = 127 := by decide
  have e3 : (128 : Int32).toInt = 128 := by decide
  have e4 : (0 : Int32).toInt = 0 := by decide
  have e5 : (256 : Int32).toInt = 256 := by decide
  rw [Int32.lt_iff_toInt_lt]
  omega

theorem d13_0 : decode jdk_33_method_22_code 0 = .ok (.iload_n 0, 1) := by decide +kernel
theorem d13_1 : decode jdk_33_method_22_code 1 = .ok (.bipush (-128), 2) := by decide +kernel
theorem d13_3 : decode jdk_33_method_22_code 3 = .ok (.if_icmp .lt 20, 3) := by decide +kernel
theorem d13_6 : decode jdk_33_method_22_code 6 = .ok (.iload_n 0, 1) := by decide +kernel
theorem d13_7 : decode jdk_33_method_22_code 7 = .ok (.getstatic 191, 3) := by decide +kernel
theorem d13_10 : decode jdk_33_method_22_code 10 = .ok (.if_icmp .gt 13, 3) := by decide +kernel
theorem d13_13 : decode jdk_33_method_22_code 13 = .ok (.getstatic 195, 3) := by decide +kernel
theorem d13_16 : decode jdk_33_method_22_code 16 = .ok (.iload_n 0, 1) := by decide +kernel
theorem d13_17 : decode jdk_33_method_22_code 17 = .ok (.sipush 128, 3) := by decide +kernel
theorem d13_20 : decode jdk_33_method_22_code 20 = .ok (.iadd, 1) := by decide +kernel
theorem d13_21 : decode jdk_33_method_22_code 21 = .ok (.aaload, 1) := by decide +kernel
theorem d13_22 : decode jdk_33_method_22_code 22 = .ok (.areturn, 1) := by decide +kernel
theorem d13_23 : decode jdk_33_method_22_code 23 = .ok (.new 1, 3) := by decide +kernel
theorem d13_26 : decode jdk_33_method_22_code 26 = .ok (.dup, 1) := by decide +kernel
theorem d13_27 : decode jdk_33_method_22_code 27 = .ok (.iload_n 0, 1) := by decide +kernel
theorem d13_28 : decode jdk_33_method_22_code 28 = .ok (.invokespecial 199, 3) := by decide +kernel
theorem d13_31 : decode jdk_33_method_22_code 31 = .ok (.areturn, 1) := by decide +kernel
theorem pd_1 : parseMethodDescriptor "(I)V" = some ⟨[.int], none⟩ := by decide +kernel
def Q_rm_valueOf (Z : State) (w_cache : Addr) (c_cache : Cell) (zc : Int32) (i : Int32) (h0 : Heap) (n0 : Nat) (v : Option Value) (h : Heap) (L : List Loc) : Prop := ∃ (r0 : Addr), v = some (.ref r0) ∧ Fr n0 L ∧ Keep h0 h [] ∧ Old Z n0 h ∧ Exa Z h r0 "java/lang/Integer"
set_option maxRecDepth 65536 in
set_option maxHeartbeats 40000000 in
theorem rm_valueOf (l : Launch) (Z : State) (a0 : Array Value) (hw : ∀ d ∈ tables_1, d.before a0 Z = true) (ws : List Jvm.Cond) (w_cache : Addr) (c_cache : Cell) (zc : Int32) (i : Int32) (h0 : Heap) (n0 : Nat) (O0 : Old Z n0 h0) (hS : St0 Z w_cache c_cache zc ) :
    MetFree l (⟨"java/lang/Integer", "valueOf", "(I)Ljava/lang/Integer;"⟩ : MethodName) (head1 (Jvm.Cond.code (⟨"java/lang/Integer", "valueOf", "(I)Ljava/lang/Integer;"⟩ : MethodName) jdk_33_method_22_code 1 (some (.object "java/lang/Integer")) :: ws) ({ frames := 3, cells := 1, slots := 1, locals := 38 } : Room)) (fun aG UG => aG = #[(.int i)] ∧ Z.Warmed39 UG.vm ∧ UG.heap = h0) (fun _ _ _ _ _ => True) (fun _ UG oG UG' => ∃ vG LG, oG = .returned vG ∧ Q_rm_valueOf Z w_cache c_cache zc i h0 n0 vG UG'.heap LG ∧ FrameEnd UG oG UG' LG ({ frames := 3, cells := 1, slots := 1, locals := 38 } : Room).cells ({ frames := 3, cells := 1, slots := 1, locals := 38 } : Room).slots) := by
  refine MetFree.of_bodySF (plainFor_of_name pn_1) hisR ?_
  intro pG eG sG mG argsG belowG methG cG s₁ Bd hml0 hP hK
  obtain ⟨rfl, hZ, hh⟩ := hP
  have hx := Bd.exec
  have hby := Bd.bytes
  have hml : cG.maxLocals = 1 := hml0
  have hown : sG.vm.findClass "java/lang/Integer" = some mG.cls := findClass_of_methodNamed Bd.named
  have hnm := (name_of_methodNamed Bd.named Bd.method).1
  have X0 : Stand pG l eG ({ frames := 3, cells := 1, slots := 1, locals := 38 } : Room) sG mG #[(.int i)] belowG methG cG s₁ [] 0 0 := Stand.of_body Bd
  have e0 : s₁.heap = h0 := by rw [← hh, Bd.state]; rfl
  have N0 := Fr.nil n0
  have K0 := Keep.refl h0 []
  obtain ⟨S_high, S_cache, B_cache, S_zc, hzc⟩ := (id hS : St0 Z w_cache c_cache zc )
  refine ostart (g' := (mkF mG 0 #[.val (.int i)] [])) (by first | (simp [entryFrame, mkF, argsToLocals, Value.category]; done) | rfl) ?_
  refine ob s₁ (mkF mG 1 #[.val (.int i)] [(.int i)]) (fun _ kk => XS.iloadN X0.here hx rfl (hb hby d13_0) rfl kk) ?_
  refine ob s₁ (mkF mG 3 #[.val (.int i)] [(.int (-128 : Int32)), (.int i)]) (fun _ kk => XS.bipush X0.here hx rfl (hb hby d13_1) kk) ?_
  by_cases hc1 : i < (-128 : Int32)
  · skip
    refine ob s₁ (mkF mG 23 #[.val (.int i)] []) (fun _ kk => XS.icmpYes X0.here hx rfl (pc0 := 3) (pc' := 23) rfl (hb hby d13_3) rfl (tlt hc1).1 (by decide) (by decide) kk) ?_
    obtain ⟨T2, h2, X2, e2, E2, A2, D2, _x2, st2⟩ := newO X0 hx hZ hown (ow hw 73 rfl) (ow hw 74 rfl) (ow hw 68 rfl) e0 (g := (mkF mG 23 #[.val (.int i)] [])) rfl (hb hby d13_23) (by decide) (by decide)
    obtain ⟨b2, g2⟩ : ∃ z, z = h0.size := ⟨_, rfl⟩
    rw [← g2] at A2 D2 st2
    have n_b2 : n0 ≤ b2 := Nat.le_trans (on0 O0) (Nat.le_of_eq g2.symm)
    have sz_b2 : h0.size ≤ b2 := Nat.le_trans K0.1 (Nat.le_of_eq g2.symm)
    have O2 := O0.ext E2
    have K2 := K0.ext E2
    have F2_87 : Fld Z h2 b2 "java/lang/Integer" "value" "I" (.int (0 : Int32)) := D2 (Or.inr (ow hw 87 rfl)) (ty := .int) (by decide)
    refine ob T2 (mkF mG 26 #[.val (.int i)] [(.ref b2)]) (fun _ kk => st2 _ kk) ?_
    refine ob T2 (mkF mG 27 #[.val (.int i)] [(.ref b2), (.ref b2)]) (fun _ kk => XS.dup X2.here hx rfl (hb hby d13_26) rfl rfl kk) ?_
    refine ob T2 (mkF mG 28 #[.val (.int i)] [(.int i), (.ref b2), (.ref b2)]) (fun _ kk => XS.iloadN X2.here hx rfl (hb hby d13_27) rfl kk) ?_
    obtain ⟨_, _, ⟨T3, L3, k3, n3⟩, -, X3, ⟨Lc3, hQ3, l3, y3, z3⟩, st3⟩ := X2.specialBack hx (y := (⟨"java/lang/Integer", "<init>", "(I)V"⟩ : MethodName)) rfl hown (mvT hZ (ow hw 75 rfl)) (mvT hZ (ow hw 76 rfl)) (mvT hZ (ow hw 78 rfl)) (by decide) (backOf (W := 1) (rm_int l Z a0 hw [] w_cache c_cache zc b2 i (.int (0 : Int32)) h2 n0 O2 hS A2 F2_87 n_b2) hZ (ow hw 78 rfl) (ow hw 68 rfl) (by decide) (by decide)) (g := (mkF mG 28 #[.val (.int i)] [(.int i), (.ref b2), (.ref b2)])) rfl (by rw [hml]; rfl) (Steps.refl _) (a := b2) (argsL := [(.int i)]) (rest := [(.ref b2)]) (lenOf pd_1 rfl) rfl (by show 2 * 0 + _ ≤ _; exact Nat.le_of_eq rfl) (hb hby d13_28) (fun _ _ => ⟨rfl, e2, (by decide : 1 + 0 ≤ _), (by decide : 1 + 0 ≤ _)⟩)
    dsimp only [Pt.U, Pt.locs, Pt.cells, Pt.slots] at X3 l3 y3 z3 st3 hQ3
    subst l3 y3 z3
    obtain ⟨h3, e3⟩ : ∃ h, T3.heap = h := ⟨_, rfl⟩
    rw [e3] at hQ3
    obtain ⟨rfl, N3q, K3q, O3, F3_0⟩ := hQ3
    have N3 := Fr.app N0 N3q
    have K3 := K2.trans K3q (allS (Or.inr sz_b2) all0)
    refine ob T3 (mkF mG 31 #[.val (.int i)] [(.ref b2)]) (fun _ kk => st3.trans kk) ?_
    obtain ⟨fs, hr, hrun, hended, hW, hsame⟩ := X3.leave (v := some (.ref b2)) (fun h => by rw [Bd.returns] at h; cases h)
    refine oout (oretA X3 hx Bd.returns rfl rfl (hb hby d13_31) hr) hrun hended ⟨_, _, rfl, ?_, ⟨_, rfl⟩, hW, hsame.mono (by decide) (by decide)⟩
    show Q_rm_valueOf Z w_cache c_cache zc i h0 n0 _ T3.heap _
    rw [e3]
    exact ⟨b2, rfl, N3, K3, O3, (A2.keep K3q)⟩
  · skip
    refine ob s₁ (mkF mG 6 #[.val (.int i)] []) (fun _ kk => XS.icmpNo X0.here hx rfl (hb hby d13_3) rfl (flt hc1).1 kk) ?_
    refine ob s₁ (mkF mG 7 #[.val (.int i)] [(.int i)]) (fun _ kk => XS.iloadN X0.here hx rfl (hb hby d13_6) rfl kk) ?_
    obtain ⟨T4, X4, e4, st4⟩ := getS2 X0 hx hZ hown (host := "") (Or.inl (ow hw 70 rfl)) Via.refl e0 (S_high.ext O0.2) (g := (mkF mG 7 #[.val (.int i)] [(.int i)])) rfl (hb hby d13_7)
    refine ob T4 (mkF mG 10 #[.val (.int i)] [(.int (127 : Int32)), (.int i)]) (fun _ kk => st4 _ kk) ?_
    by_cases hc5 : (127 : Int32) < i
    · skip
      refine ob T4 (mkF mG 23 #[.val (.int i)] []) (fun _ kk => XS.icmpYes X4.here hx rfl (pc0 := 10) (pc' := 23) rfl (hb hby d13_10) rfl (tlt hc5).2.2.1 (by decide) (by decide) kk) ?_
      obtain ⟨T6, h6, X6, e6, E6, A6, D6, _x6, st6⟩ := newO X4 hx hZ hown (ow hw 73 rfl) (ow hw 74 rfl) (ow hw 68 rfl) e4 (g := (mkF mG 23 #[.val (.int i)] [])) rfl (hb hby d13_23) (by decide) (by decide)
      obtain ⟨b6, g6⟩ : ∃ z, z = h0.size := ⟨_, rfl⟩
      rw [← g6] at A6 D6 st6
      have n_b6 : n0 ≤ b6 := Nat.le_trans (on0 O0) (Nat.le_of_eq g6.symm)
      have sz_b6 : h0.size ≤ b6 := Nat.le_trans K0.1 (Nat.le_of_eq g6.symm)
      have O6 := O0.ext E6
      have K6 := K0.ext E6
      have F6_87 : Fld Z h6 b6 "java/lang/Integer" "value" "I" (.int (0 : Int32)) := D6 (Or.inr (ow hw 87 rfl)) (ty := .int) (by decide)
      refine ob T6 (mkF mG 26 #[.val (.int i)] [(.ref b6)]) (fun _ kk => st6 _ kk) ?_
      refine ob T6 (mkF mG 27 #[.val (.int i)] [(.ref b6), (.ref b6)]) (fun _ kk => XS.dup X6.here hx rfl (hb hby d13_26) rfl rfl kk) ?_
      refine ob T6 (mkF mG 28 #[.val (.int i)] [(.int i), (.ref b6), (.ref b6)]) (fun _ kk => XS.iloadN X6.here hx rfl (hb hby d13_27) rfl kk) ?_
      obtain ⟨_, _, ⟨T7, L7, k7, n7⟩, -, X7, ⟨Lc7, hQ7, l7, y7, z7⟩, st7⟩ := X6.specialBack hx (y := (⟨"java/lang/Integer", "<init>", "(I)V"⟩ : MethodName)) rfl hown (mvT hZ (ow hw 75 rfl)) (mvT hZ (ow hw 76 rfl)) (mvT hZ (ow hw 78 rfl)) (by decide) (backOf (W := 1) (rm_int l Z a0 hw [] w_cache c_cache zc b6 i (.int (0 : Int32)) h6 n0 O6 hS A6 F6_87 n_b6) hZ (ow hw 78 rfl) (ow hw 68 rfl) (by decide) (by decide)) (g := (mkF mG 28 #[.val (.int i)] [(.int i), (.ref b6), (.ref b6)])) rfl (by rw [hml]; rfl) (Steps.refl _) (a := b6) (argsL := [(.int i)]) (rest := [(.ref b6)]) (lenOf pd_1 rfl) rfl (by show 2 * 0 + _ ≤ _; exact Nat.le_of_eq rfl) (hb hby d13_28) (fun _ _ => ⟨rfl, e6, (by decide : 1 + 0 ≤ _), (by decide : 1 + 0 ≤ _)⟩)
      dsimp only [Pt.U, Pt.locs, Pt.cells, Pt.slots] at X7 l7 y7 z7 st7 hQ7
      subst l7 y7 z7
      obtain ⟨h7, e7⟩ : ∃ h, T7.heap = h := ⟨_, rfl⟩
      rw [e7] at hQ7
      obtain ⟨rfl, N7q, K7q, O7, F7_0⟩ := hQ7
      have N7 := Fr.app N0 N7q
      have K7 := K6.trans K7q (allS (Or.inr sz_b6) all0)
      refine ob T7 (mkF mG 31 #[.val (.int i)] [(.ref b6)]) (fun _ kk => st7.trans kk) ?_
      obtain ⟨fs, hr, hrun, hended, hW, hsame⟩ := X7.leave (v := some (.ref b6)) (fun h => by rw [Bd.returns] at h; cases h)
      refine oout (oretA X7 hx Bd.returns rfl rfl (hb hby d13_31) hr) hrun hended ⟨_, _, rfl, ?_, ⟨_, rfl⟩, hW, hsame.mono (by decide) (by decide)⟩
      show Q_rm_valueOf Z w_cache c_cache zc i h0 n0 _ T7.heap _
      rw [e7]
      exact ⟨b6, rfl, N7, K7, O7, (A6.keep K7q)⟩
    · skip
      refine ob T4 (mkF mG 13 #[.val (.int i)] []) (fun _ kk => XS.icmpNo X4.here hx rfl (hb hby d13_10) rfl (flt hc5).2.2.1 kk) ?_
      obtain ⟨T8, X8, e8, st8⟩ := getS2 X4 hx hZ hown (host := "") (Or.inl (ow hw 72 rfl)) Via.refl e4 (S_cache.ext O0.2) (g := (mkF mG 13 #[.val (.int i)] [])) rfl (hb hby d13_13)
      refine ob T8 (mkF mG 16 #[.val (.int i)] [(.ref w_cache)]) (fun _ kk => st8 _ kk) ?_
      refine ob T8 (mkF mG 17 #[.val (.int i)] [(.int i), (.ref w_cache)]) (fun _ kk => XS.iloadN X8.here hx rfl (hb hby d13_16) rfl kk) ?_
      refine ob T8 (mkF mG 20 #[.val (.int i)] [(.int (128 : Int32)), (.int i), (.ref w_cache)]) (fun _ kk => XS.sipush X8.here hx rfl (hb hby d13_17) kk) ?_
      refine ob T8 (mkF mG 21 #[.val (.int i)] [(.int (i + (128 : Int32))), (.ref w_cache)]) (fun _ kk => XS.iadd X8.here hx rfl (hb hby d13_20) rfl kk) ?_
      have hin9 : ¬ ((i + (128 : Int32)) < 0 ∨ c_cache.slots.size ≤ ((i + (128 : Int32))).toNatClampNeg) := inb_of B_cache.2.1 (own_box hc1 hc5)
      obtain ⟨r9, hat9, E_r9, _⟩ := B_cache.2.2.2 (i + (128 : Int32)) hin9
      refine oby (T' := T8) (g' := (mkF mG 22 #[.val (.int i)] [(.ref r9)])) (fun ot ok => X8.aaload hx (j := (i + (128 : Int32))) (v := (.ref r9)) (by rw [e8]; exact (B_cache.1.ext O0.2).1) (State.isArrayOf_alike hZ.alike B_cache.1.2.1) rfl B_cache.1.2.2 hin9 hat9 (g := (mkF mG 21 #[.val (.int i)] [(.int (i + (128 : Int32))), (.ref w_cache)])) rfl rfl (hb hby d13_21) _ ok) ?_
      obtain ⟨fs, hr, hrun, hended, hW, hsame⟩ := X8.leave (v := some (.ref r9)) (fun h => by rw [Bd.returns] at h; cases h)
      refine oout (oretA X8 hx Bd.returns rfl rfl (hb hby d13_22) hr) hrun hended ⟨_, _, rfl, ?_, ⟨_, rfl⟩, hW, hsame.mono (by decide) (by decide)⟩
      show Q_rm_valueOf Z w_cache c_cache zc i h0 n0 _ T8.heap _
      rw [e8]
      exact ⟨r9, rfl, N0, K0, O0, (E_r9.ext O0.2)⟩

theorem d9_0 : decode jdk_30_method_1_code 0 = .ok (.aload_n 0, 1) := by decide +kernel
theorem d9_1 : decode jdk_30_method_1_code 1 = .ok (.invokespecial 1, 3) := by decide +kernel
theorem d9_4 : decode jdk_30_method_1_code 4 = .ok (.return_, 1) := by decide +kernel
def Q_rm_rec (Z : State) (w_cache : Addr) (c_cache : Cell) (zc : Int32) (a : Addr) (h0 : Heap) (n0 : Nat) (v : Option Value) (h : Heap) (L : List Loc) : Prop := v = none ∧ Fr n0 L ∧ h = h0
set_option maxRecDepth 65536 in
set_option maxHeartbeats 40000000 in
theorem rm_rec (l : Launch) (Z : State) (a0 : Array Value) (hw : ∀ d ∈ tables_1, d.before a0 Z = true) (ws : List Jvm.Cond) (w_cache : Addr) (c_cache : Cell) (zc : Int32) (a : Addr) (h0 : Heap) (n0 : Nat) (O0 : Old Z n0 h0) (hS : St0 Z w_cache c_cache zc ) :
    MetFree l (⟨"java/lang/Record", "<init>", "()V"⟩ : MethodName) (head1 (Jvm.Cond.code (⟨"java/lang/Record", "<init>", "()V"⟩ : MethodName) jdk_30_method_1_code 1 none :: ws) ({ frames := 1, cells := 0, slots := 0, locals := 12 } : Room)) (fun aG UG => aG = #[(.ref a)] ∧ Z.Warmed39 UG.vm ∧ UG.heap = h0) (fun _ _ _ _ _ => True) (fun _ UG oG UG' => ∃ vG LG, oG = .returned vG ∧ Q_rm_rec Z w_cache c_cache zc a h0 n0 vG UG'.heap LG ∧ FrameEnd UG oG UG' LG ({ frames := 1, cells := 0, slots := 0, locals := 12 } : Room).cells ({ frames := 1, cells := 0, slots := 0, locals := 12 } : Room).slots) := by
  refine MetFree.of_bodySF (plainFor_of_name pn_2) hisR ?_
  intro pG eG sG mG argsG belowG methG cG s₁ Bd hml0 hP hK
  obtain ⟨rfl, hZ, hh⟩ := hP
  have hx := Bd.exec
  have hby := Bd.bytes
  have hml : cG.maxLocals = 1 := hml0
  have hown : sG.vm.findClass "java/lang/Record" = some mG.cls := findClass_of_methodNamed Bd.named
  have hnm := (name_of_methodNamed Bd.named Bd.method).1
  have X0 : Stand pG l eG ({ frames := 1, cells := 0, slots := 0, locals := 12 } : Room) sG mG #[(.ref a)] belowG methG cG s₁ [] 0 0 := Stand.of_body Bd
  have e0 : s₁.heap = h0 := by rw [← hh, Bd.state]; rfl
  have N0 := Fr.nil n0
  have K0 := Keep.refl h0 []
  obtain ⟨S_high, S_cache, B_cache, S_zc, hzc⟩ := (id hS : St0 Z w_cache c_cache zc )
  refine ostart (g' := (mkF mG 0 #[.val (.ref a)] [])) (by first | (simp [entryFrame, mkF, argsToLocals, Value.category]; done) | rfl) ?_
  refine ob s₁ (mkF mG 1 #[.val (.ref a)] [(.ref a)]) (fun _ kk => XS.aloadN X0.here hx rfl (hb hby d9_0) rfl rfl kk) ?_
  obtain ⟨T1, X1, e1, st1⟩ := initO X0 hx hZ hown (ow hw 44 rfl) (ow hw 12 rfl) (ow hw 13 rfl) e0 (g := (mkF mG 1 #[.val (.ref a)] [(.ref a)])) rfl (by rw [hml]; rfl) rfl (hb hby d9_1) (by decide) (W := 0) (by show 2 * 0 + _ ≤ _; exact Nat.le_of_eq rfl) (by decide)
  refine ob T1 (mkF mG 4 #[.val (.ref a)] []) (fun _ kk => st1 _ kk) ?_
  obtain ⟨fs, hr, hrun, hended, hW, hsame⟩ := X1.leave (v := none) (fun _ => rfl)
  refine oout (X1.returnOut hx Bd.returns (hb hby d9_4) hr) hrun hended ⟨_, _, rfl, ?_, ⟨_, rfl⟩, hW, hsame.mono (by decide) (by decide)⟩
  show Q_rm_rec Z w_cache c_cache zc a h0 n0 _ T1.heap _
  rw [e1]
  exact ⟨rfl, N0, rfl⟩

theorem d8_0 : decode prog_9_method_1_code 0 = .ok (.aload_n 0, 1) := by decide +kernel
theorem d8_1 : decode prog_9_method_1_code 1 = .ok (.invokespecial 1, 3) := by decide +kernel
theorem d8_4 : decode prog_9_method_1_code 4 = .ok (.aload_n 0, 1) := by decide +kernel
theorem d8_5 : decode prog_9_method_1_code 5 = .ok (.iload_n 1, 1) := by decide +kernel
theorem d8_6 : decode prog_9_method_1_code 6 = .ok (.putfield 7, 3) := by decide +kernel
theorem d8_9 : decode prog_9_method_1_code 9 = .ok (.aload_n 0, 1) := by decide +kernel
theorem d8_10 : decode prog_9_method_1_code 10 = .ok (.aload_n 2, 1) := by decide +kernel
theorem d8_11 : decode prog_9_method_1_code 11 = .ok (.putfield 13, 3) := by decide +kernel
theorem d8_14 : decode prog_9_method_1_code 14 = .ok (.aload_n 0, 1) := by decide +kernel
theorem d8_15 : decode prog_9_method_1_code 15 = .ok (.aload_n 3, 1) := by decide +kernel
theorem d8_16 : decode prog_9_method_1_code 16 = .ok (.putfield 17, 3) := by decide +kernel
theorem d8_19 : decode prog_9_method_1_code 19 = .ok (.return_, 1) := by decide +kernel
def Q_rm_ai00 (Z : State) (w_cache : Addr) (c_cache : Cell) (zc : Int32) (a : Addr) (i : Int32) (u0 : Value) (u1 : Value) (u2 : Value) (h0 : Heap) (n0 : Nat) (v : Option Value) (h : Heap) (L : List Loc) : Prop := v = none ∧ Fr n0 L ∧ Keep h0 h [a] ∧ Old Z n0 h ∧ Fld Z h a "com/example/llave/llave/io/Answer" "status" "I" (.int i) ∧ Fld Z h a "com/example/llave/llave/io/Answer" "body" "Ljava/lang/Object;" .null ∧ Fld Z h a "com/example/llave/llave/io/Answer" "location" "Ljava/lang/String;" .null
set_option maxRecDepth 65536 in
set_option maxHeartbeats 40000000 in
theorem rm_ai00 (l : Launch) (Z : State) (a0 : Array Value) (hw : ∀ d ∈ tables_1, d.before a0 Z = true) (ws : List Jvm.Cond) (w_cache : Addr) (c_cache : Cell) (zc : Int32) (a : Addr) (i : Int32) (u0 : Value) (u1 : Value) (u2 : Value) (h0 : Heap) (n0 : Nat) (O0 : Old Z n0 h0) (hS : St0 Z w_cache c_cache zc ) (E_a : Exa Z h0 a "com/example/llave/llave/io/Answer") (F_0 : Fld Z h0 a "com/example/llave/llave/io/Answer" "status" "I" u0) (F_1 : Fld Z h0 a "com/example/llave/llave/io/Answer" "body" "Ljava/lang/Object;" u1) (F_2 : Fld Z h0 a "com/example/llave/llave/io/Answer" "location" "Ljava/lang/String;" u2) (n_a : n0 ≤ a) :
    MetFree l (⟨"com/example/llave/llave/io/Answer", "<init>", "(ILjava/lang/Object;Ljava/lang/String;)V"⟩ : MethodName) (head1 (Jvm.Cond.code (⟨"com/example/llave/llave/io/Answer", "<init>", "(ILjava/lang/Object;Ljava/lang/String;)V"⟩ : MethodName) prog_9_method_1_code 4 none :: ws) ({ frames := 2, cells := 0, slots := 0, locals := 24 } : Room)) (fun aG UG => aG = #[(.ref a), (.int i), .null, .null] ∧ Z.Warmed39 UG.vm ∧ UG.heap = h0) (fun _ _ _ _ _ => True) (fun _ UG oG UG' => ∃ vG LG, oG = .returned vG ∧ Q_rm_ai00 Z w_cache c_cache zc a i u0 u1 u2 h0 n0 vG UG'.heap LG ∧ FrameEnd UG oG UG' LG ({ frames := 2, cells := 0, slots := 0, locals := 24 } : Room).cells ({ frames := 2, cells := 0, slots := 0, locals := 24 } : Room).slots) := by
  refine MetFree.of_bodySF (plainFor_of_name pn_3) hisR ?_
  intro pG eG sG mG argsG belowG methG cG s₁ Bd hml0 hP hK
  obtain ⟨rfl, hZ, hh⟩ := hP
  have hx := Bd.exec
  have hby := Bd.bytes
  have hml : cG.maxLocals = 4 := hml0
  have hown : sG.vm.findClass "com/example/llave/llave/io/Answer" = some mG.cls := findClass_of_methodNamed Bd.named
  have hnm := (name_of_methodNamed Bd.named Bd.method).1
  have X0 : Stand pG l eG ({ frames := 2, cells := 0, slots := 0, locals := 24 } : Room) sG mG #[(.ref a), (.int i), .null, .null] belowG methG cG s₁ [] 0 0 := Stand.of_body Bd
  have e0 : s₁.heap = h0 := by rw [← hh, Bd.state]; rfl
  have N0 := Fr.nil n0
  have K0 := Keep.refl h0 [a]
  obtain ⟨S_high, S_cache, B_cache, S_zc, hzc⟩ := (id hS : St0 Z w_cache c_cache zc )
  refine ostart (g' := (mkF mG 0 #[.val (.ref a), .val (.int i), .val .null, .val .null] [])) (by first | (simp [entryFrame, mkF, argsToLocals, Value.category]; done) | rfl) ?_
  refine ob s₁ (mkF mG 1 #[.val (.ref a), .val (.int i), .val .null, .val .null] [(.ref a)]) (fun _ kk => XS.aloadN X0.here hx rfl (hb hby d8_0) rfl rfl kk) ?_
  obtain ⟨_, _, ⟨T1, L1, k1, n1⟩, -, X1, ⟨Lc1, hQ1, l1, y1, z1⟩, st1⟩ := X0.specialBack hx (y := (⟨"java/lang/Record", "<init>", "()V"⟩ : MethodName)) rfl hown (mvT hZ (ow hw 39 rfl)) (mvT hZ (ow hw 40 rfl)) (mvT hZ (ow hw 43 rfl)) (by decide) (backOf (W := 0) (rm_rec l Z a0 hw [] w_cache c_cache zc a h0 n0 O0 hS ) hZ (ow hw 43 rfl) (ow hw 42 rfl) (by decide) (by decide)) (g := (mkF mG 1 #[.val (.ref a), .val (.int i), .val .null, .val .null] [(.ref a)])) rfl (by rw [hml]; rfl) (Steps.refl _) (a := a) (argsL := []) (rest := []) (lenOf pd_0 rfl) rfl (by show 2 * 0 + _ ≤ _; exact Nat.le_of_eq rfl) (hb hby d8_1) (fun _ _ => ⟨rfl, e0, (by decide : 0 + 0 ≤ _), (by decide : 0 + 0 ≤ _)⟩)
  dsimp only [Pt.U, Pt.locs, Pt.cells, Pt.slots] at X1 l1 y1 z1 st1 hQ1
  subst l1 y1 z1
  obtain ⟨rfl, N1q, e1⟩ := hQ1
  have N1 := Fr.app N0 N1q
  refine ob T1 (mkF mG 4 #[.val (.ref a), .val (.int i), .val .null, .val .null] []) (fun _ kk => st1.trans kk) ?_
  refine ob T1 (mkF mG 5 #[.val (.ref a), .val (.int i), .val .null, .val .null] [(.ref a)]) (fun _ kk => XS.aloadN X1.here hx rfl (hb hby d8_4) rfl rfl kk) ?_
  refine ob T1 (mkF mG 6 #[.val (.ref a), .val (.int i), .val .null, .val .null] [(.int i), (.ref a)]) (fun _ kk => XS.iloadN X1.here hx rfl (hb hby d8_5) rfl kk) ?_
  obtain ⟨T2, h2, X2, e2, W2, st2⟩ := putF X1 hx hZ hown (host := "") (Or.inl (ow hw 45 rfl)) Via.refl e1 F_0 E_a (Or.inr ⟨(ow hw 46 rfl), rfl, hnm⟩) (ow hw 35 rfl) (ty := .int) (by decide) rfl rfl (g := (mkF mG 6 #[.val (.ref a), .val (.int i), .val .null, .val .null] [(.int i), (.ref a)])) rfl rfl (hb hby d8_6)
  have F2 := F_0.same W2
  have O2 := O0.wr W2 n_a
  have K2 := K0.wr W2 (Or.inl (List.mem_of_getElem? (i := 0) rfl))
  have N2 := Fr.snoc X2 N1 n_a
  refine ob T2 (mkF mG 9 #[.val (.ref a), .val (.int i), .val .null, .val .null] []) (fun _ kk => st2 _ kk) ?_
  refine ob T2 (mkF mG 10 #[.val (.ref a), .val (.int i), .val .null, .val .null] [(.ref a)]) (fun _ kk => XS.aloadN X2.here hx rfl (hb hby d8_9) rfl rfl kk) ?_
  refine ob T2 (mkF mG 11 #[.val (.ref a), .val (.int i), .val .null, .val .null] [.null, (.ref a)]) (fun _ kk => XS.aloadN X2.here hx rfl (hb hby d8_10) rfl rfl kk) ?_
  obtain ⟨T3, h3, X3, e3, W3, st3⟩ := putF X2 hx hZ hown (host := "") (Or.inl (ow hw 47 rfl)) Via.refl e2 (F_1.other W2 (Or.inr (slot_ne (Or.inr (ow hw 48 rfl)) (Or.inr (ow hw 46 rfl)) (by decide) (t := (.object "java/lang/Object")) (t' := .int) (by decide) (by decide)))) (E_a.wr W2) (Or.inr ⟨(ow hw 48 rfl), rfl, hnm⟩) (ow hw 35 rfl) (ty := (.object "java/lang/Object")) (by decide) rfl rfl (g := (mkF mG 11 #[.val (.ref a), .val (.int i), .val .null, .val .null] [.null, (.ref a)])) rfl rfl (hb hby d8_11)
  have F3 := (F_1.other W2 (Or.inr (slot_ne (Or.inr (ow hw 48 rfl)) (Or.inr (ow hw 46 rfl)) (by decide) (t := (.object "java/lang/Object")) (t' := .int) (by decide) (by decide)))).same W3
  have O3 := O2.wr W3 n_a
  have K3 := K2.wr W3 (Or.inl (List.mem_of_getElem? (i := 0) rfl))
  have N3 := Fr.snoc X3 N2 n_a
  refine ob T3 (mkF mG 14 #[.val (.ref a), .val (.int i), .val .null, .val .null] []) (fun _ kk => st3 _ kk) ?_
  refine ob T3 (mkF mG 15 #[.val (.ref a), .val (.int i), .val .null, .val .null] [(.ref a)]) (fun _ kk => XS.aloadN X3.here hx rfl (hb hby d8_14) rfl rfl kk) ?_
  refine ob T3 (mkF mG 16 #[.val (.ref a), .val (.int i), .val .null, .val .null] [.null, (.ref a)]) (fun _ kk => XS.aloadN X3.here hx rfl (hb hby d8_15) rfl rfl kk) ?_
  obtain ⟨T4, h4, X4, e4, W4, st4⟩ := putF X3 hx hZ hown (host := "") (Or.inl (ow hw 49 rfl)) Via.refl e3 ((F_2.other W2 (Or.inr (slot_ne (Or.inr (ow hw 50 rfl)) (Or.inr (ow hw 46 rfl)) (by decide) (t := (.object "java/lang/String")) (t' := .int) (by decide) (by decide)))).other W3 (Or.inr (slot_ne (Or.inr (ow hw 50 rfl)) (Or.inr (ow hw 48 rfl)) (by decide) (t := (.object "java/lang/String")) (t' := (.object "java/lang/Object")) (by decide) (by decide)))) ((E_a.wr W2).wr W3) (Or.inr ⟨(ow hw 50 rfl), rfl, hnm⟩) (ow hw 35 rfl) (ty := (.object "java/lang/String")) (by decide) rfl rfl (g := (mkF mG 16 #[.val (.ref a), .val (.int i), .val .null, .val .null] [.null, (.ref a)])) rfl rfl (hb hby d8_16)
  have F4 := ((F_2.other W2 (Or.inr (slot_ne (Or.inr (ow hw 50 rfl)) (Or.inr (ow hw 46 rfl)) (by decide) (t := (.object "java/lang/String")) (t' := .int) (by decide) (by decide)))).other W3 (Or.inr (slot_ne (Or.inr (ow hw 50 rfl)) (Or.inr (ow hw 48 rfl)) (by decide) (t := (.object "java/lang/String")) (t' := (.object "java/lang/Object")) (by decide) (by decide)))).same W4
  have O4 := O3.wr W4 n_a
  have K4 := K3.wr W4 (Or.inl (List.mem_of_getElem? (i := 0) rfl))
  have N4 := Fr.snoc X4 N3 n_a
  refine ob T4 (mkF mG 19 #[.val (.ref a), .val (.int i), .val .null, .val .null] []) (fun _ kk => st4 _ kk) ?_
  obtain ⟨fs, hr, hrun, hended, hW, hsame⟩ := X4.leave (v := none) (fun _ => rfl)
  refine oout (X4.returnOut hx Bd.returns (hb hby d8_19) hr) hrun hended ⟨_, _, rfl, ?_, ⟨_, rfl⟩, hW, hsame.mono (by decide) (by decide)⟩
  show Q_rm_ai00 Z w_cache c_cache zc a i u0 u1 u2 h0 n0 _ T4.heap _
  rw [e4]
  exact ⟨rfl, N4, K4, O4, ((F2.other W3 (Or.inr (slot_ne (Or.inr (ow hw 46 rfl)) (Or.inr (ow hw 48 rfl)) (by decide) (t := .int) (t' := (.object "java/lang/Object")) (by decide) (by decide)))).other W4 (Or.inr (slot_ne (Or.inr (ow hw 46 rfl)) (Or.inr (ow hw 50 rfl)) (by decide) (t := .int) (t' := (.object "java/lang/String")) (by decide) (by decide)))), (F3.other W4 (Or.inr (slot_ne (Or.inr (ow hw 48 rfl)) (Or.inr (ow hw 50 rfl)) (by decide) (t := (.object "java/lang/Object")) (t' := (.object "java/lang/String")) (by decide) (by decide)))), F4⟩

theorem d7_0 : decode prog_9_method_3_code 0 = .ok (.new 8, 3) := by decide +kernel
theorem d7_3 : decode prog_9_method_3_code 3 = .ok (.dup, 1) := by decide +kernel
theorem d7_4 : decode prog_9_method_3_code 4 = .ok (.sipush 201, 3) := by decide +kernel
theorem d7_7 : decode prog_9_method_3_code 7 = .ok (.aload_n 0, 1) := by decide +kernel
theorem d7_8 : decode prog_9_method_3_code 8 = .ok (.aload_n 1, 1) := by decide +kernel
theorem d7_9 : decode prog_9_method_3_code 9 = .ok (.invokespecial 21, 3) := by decide +kernel
theorem d7_12 : decode prog_9_method_3_code 12 = .ok (.areturn, 1) := by decide +kernel
theorem pd_2 : parseMethodDescriptor "(ILjava/lang/Object;Ljava/lang/String;)V" = some ⟨[.int, (.object "java/lang/Object"), (.object "java/lang/String")], none⟩ := by decide +kernel
def Q_rm_cr00 (Z : State) (w_cache : Addr) (c_cache : Cell) (zc : Int32)  (h0 : Heap) (n0 : Nat) (v : Option Value) (h : Heap) (L : List Loc) : Prop := ∃ (b0 : Addr), v = some (.ref b0) ∧ Fr n0 L ∧ Keep h0 h [] ∧ Old Z n0 h ∧ n0 ≤ b0 ∧ h0.size ≤ b0 ∧ Exa Z h b0 "com/example/llave/llave/io/Answer" ∧ Fld Z h b0 "com/example/llave/llave/io/Answer" "status" "I" (.int (201 : Int32)) ∧ Fld Z h b0 "com/example/llave/llave/io/Answer" "body" "Ljava/lang/Object;" .null ∧ Fld Z h b0 "com/example/llave/llave/io/Answer" "location" "Ljava/lang/String;" .null
set_option maxRecDepth 65536 in
set_option maxHeartbeats 40000000 in
theorem rm_cr00 (l : Launch) (Z : State) (a0 : Array Value) (hw : ∀ d ∈ tables_1, d.before a0 Z = true) (ws : List Jvm.Cond) (w_cache : Addr) (c_cache : Cell) (zc : Int32)  (h0 : Heap) (n0 : Nat) (O0 : Old Z n0 h0) (hS : St0 Z w_cache c_cache zc ) :
    MetFree l (⟨"com/example/llave/llave/io/Answer", "created", "(Ljava/lang/Object;Ljava/lang/String;)Lcom/example/llave/llave/io/Answer;"⟩ : MethodName) (head1 (Jvm.Cond.code (⟨"com/example/llave/llave/io/Answer", "created", "(Ljava/lang/Object;Ljava/lang/String;)Lcom/example/llave/llave/io/Answer;"⟩ : MethodName) prog_9_method_3_code 2 (some (.object "com/example/llave/llave/io/Answer")) :: ws) ({ frames := 3, cells := 1, slots := 3, locals := 40 } : Room)) (fun aG UG => aG = #[.null, .null] ∧ Z.Warmed39 UG.vm ∧ UG.heap = h0) (fun _ _ _ _ _ => True) (fun _ UG oG UG' => ∃ vG LG, oG = .returned vG ∧ Q_rm_cr00 Z w_cache c_cache zc  h0 n0 vG UG'.heap LG ∧ FrameEnd UG oG UG' LG ({ frames := 3, cells := 1, slots := 3, locals := 40 } : Room).cells ({ frames := 3, cells := 1, slots := 3, locals := 40 } : Room).slots) := by
  refine MetFree.of_bodySF (plainFor_of_name pn_3) hisR ?_
  intro pG eG sG mG argsG belowG methG cG s₁ Bd hml0 hP hK
  obtain ⟨rfl, hZ, hh⟩ := hP
  have hx := Bd.exec
  have hby := Bd.bytes
  have hml : cG.maxLocals = 2 := hml0
  have hown : sG.vm.findClass "com/example/llave/llave/io/Answer" = some mG.cls := findClass_of_methodNamed Bd.named
  have hnm := (name_of_methodNamed Bd.named Bd.method).1
  have X0 : Stand pG l eG ({ frames := 3, cells := 1, slots := 3, locals := 40 } : Room) sG mG #[.null, .null] belowG methG cG s₁ [] 0 0 := Stand.of_body Bd
  have e0 : s₁.heap = h0 := by rw [← hh, Bd.state]; rfl
  have N0 := Fr.nil n0
  have K0 := Keep.refl h0 []
  obtain ⟨S_high, S_cache, B_cache, S_zc, hzc⟩ := (id hS : St0 Z w_cache c_cache zc )
  refine ostart (g' := (mkF mG 0 #[.val .null, .val .null] [])) (by first | (simp [entryFrame, mkF, argsToLocals, Value.category]; done) | rfl) ?_
  obtain ⟨T1, h1, X1, e1, E1, A1, D1, _x1, st1⟩ := newO X0 hx hZ hown (ow hw 34 rfl) (ow hw 35 rfl) (ow hw 32 rfl) e0 (g := (mkF mG 0 #[.val .null, .val .null] [])) rfl (hb hby d7_0) (by decide) (by decide)
  obtain ⟨b1, g1⟩ : ∃ z, z = h0.size := ⟨_, rfl⟩
  rw [← g1] at A1 D1 st1
  have n_b1 : n0 ≤ b1 := Nat.le_trans (on0 O0) (Nat.le_of_eq g1.symm)
  have sz_b1 : h0.size ≤ b1 := Nat.le_trans K0.1 (Nat.le_of_eq g1.symm)
  have O1 := O0.ext E1
  have K1 := K0.ext E1
  have F1_46 : Fld Z h1 b1 "com/example/llave/llave/io/Answer" "status" "I" (.int (0 : Int32)) := D1 (Or.inr (ow hw 46 rfl)) (ty := .int) (by decide)
  have F1_48 : Fld Z h1 b1 "com/example/llave/llave/io/Answer" "body" "Ljava/lang/Object;" .null := D1 (Or.inr (ow hw 48 rfl)) (ty := (.object "java/lang/Object")) (by decide)
  have F1_50 : Fld Z h1 b1 "com/example/llave/llave/io/Answer" "location" "Ljava/lang/String;" .null := D1 (Or.inr (ow hw 50 rfl)) (ty := (.object "java/lang/String")) (by decide)
  refine ob T1 (mkF mG 3 #[.val .null, .val .null] [(.ref b1)]) (fun _ kk => st1 _ kk) ?_
  refine ob T1 (mkF mG 4 #[.val .null, .val .null] [(.ref b1), (.ref b1)]) (fun _ kk => XS.dup X1.here hx rfl (hb hby d7_3) rfl rfl kk) ?_
  refine ob T1 (mkF mG 7 #[.val .null, .val .null] [(.int (201 : Int32)), (.ref b1), (.ref b1)]) (fun _ kk => XS.sipush X1.here hx rfl (hb hby d7_4) kk) ?_
  refine ob T1 (mkF mG 8 #[.val .null, .val .null] [.null, (.int (201 : Int32)), (.ref b1), (.ref b1)]) (fun _ kk => XS.aloadN X1.here hx rfl (hb hby d7_7) rfl rfl kk) ?_
  refine ob T1 (mkF mG 9 #[.val .null, .val .null] [.null, .null, (.int (201 : Int32)), (.ref b1), (.ref b1)]) (fun _ kk => XS.aloadN X1.here hx rfl (hb hby d7_8) rfl rfl kk) ?_
  obtain ⟨_, _, ⟨T2, L2, k2, n2⟩, -, X2, ⟨Lc2, hQ2, l2, y2, z2⟩, st2⟩ := X1.specialBack hx (y := (⟨"com/example/llave/llave/io/Answer", "<init>", "(ILjava/lang/Object;Ljava/lang/String;)V"⟩ : MethodName)) rfl hown (mvT hZ (ow hw 36 rfl)) (mvT hZ (ow hw 37 rfl)) (mvT hZ (ow hw 38 rfl)) (by decide) (backOf (W := 1) (rm_ai00 l Z a0 hw [] w_cache c_cache zc b1 (201 : Int32) (.int (0 : Int32)) .null .null h1 n0 O1 hS A1 F1_46 F1_48 F1_50 n_b1) hZ (ow hw 38 rfl) (ow hw 32 rfl) (by decide) (by decide)) (g := (mkF mG 9 #[.val .null, .val .null] [.null, .null, (.int (201 : Int32)), (.ref b1), (.ref b1)])) rfl (by rw [hml]; rfl) (Steps.refl _) (a := b1) (argsL := [(.int (201 : Int32)), .null, .null]) (rest := [(.ref b1)]) (lenOf pd_2 rfl) rfl (by show 2 * 0 + _ ≤ _; exact Nat.le_of_eq rfl) (hb hby d7_9) (fun _ _ => ⟨rfl, e1, (by decide : 1 + 0 ≤ _), (by decide : 3 + 0 ≤ _)⟩)
  dsimp only [Pt.U, Pt.locs, Pt.cells, Pt.slots] at X2 l2 y2 z2 st2 hQ2
  subst l2 y2 z2
  obtain ⟨h2, e2⟩ : ∃ h, T2.heap = h := ⟨_, rfl⟩
  rw [e2] at hQ2
  obtain ⟨rfl, N2q, K2q, O2, F2_0, F2_1, F2_2⟩ := hQ2
  have N2 := Fr.app N0 N2q
  have K2 := K1.trans K2q (allS (Or.inr sz_b1) all0)
  refine ob T2 (mkF mG 12 #[.val .null, .val .null] [(.ref b1)]) (fun _ kk => st2.trans kk) ?_
  obtain ⟨fs, hr, hrun, hended, hW, hsame⟩ := X2.leave (v := some (.ref b1)) (fun h => by rw [Bd.returns] at h; cases h)
  refine oout (oretA X2 hx Bd.returns rfl rfl (hb hby d7_12) hr) hrun hended ⟨_, _, rfl, ?_, ⟨_, rfl⟩, hW, hsame.mono (by decide) (by decide)⟩
  show Q_rm_cr00 Z w_cache c_cache zc  h0 n0 _ T2.heap _
  rw [e2]
  exact ⟨b1, rfl, N2, K2, O2, n_b1, sz_b1, (A1.keep K2q), F2_0, F2_1, F2_2⟩

def Q_rm_ai01 (Z : State) (w_cache : Addr) (c_cache : Cell) (zc : Int32) (a : Addr) (i : Int32) (q : Addr) (u0 : Value) (u1 : Value) (u2 : Value) (h0 : Heap) (n0 : Nat) (v : Option Value) (h : Heap) (L : List Loc) : Prop := v = none ∧ Fr n0 L ∧ Keep h0 h [a] ∧ Old Z n0 h ∧ Fld Z h a "com/example/llave/llave/io/Answer" "status" "I" (.int i) ∧ Fld Z h a "com/example/llave/llave/io/Answer" "body" "Ljava/lang/Object;" .null ∧ Fld Z h a "com/example/llave/llave/io/Answer" "location" "Ljava/lang/String;" (.ref q)
set_option maxRecDepth 65536 in
set_option maxHeartbeats 40000000 in
theorem rm_ai01 (l : Launch) (Z : State) (a0 : Array Value) (hw : ∀ d ∈ tables_1, d.before a0 Z = true) (ws : List Jvm.Cond) (w_cache : Addr) (c_cache : Cell) (zc : Int32) (a : Addr) (i : Int32) (q : Addr) (u0 : Value) (u1 : Value) (u2 : Value) (h0 : Heap) (n0 : Nat) (O0 : Old Z n0 h0) (hS : St0 Z w_cache c_cache zc ) (E_a : Exa Z h0 a "com/example/llave/llave/io/Answer") (F_0 : Fld Z h0 a "com/example/llave/llave/io/Answer" "status" "I" u0) (F_1 : Fld Z h0 a "com/example/llave/llave/io/Answer" "body" "Ljava/lang/Object;" u1) (F_2 : Fld Z h0 a "com/example/llave/llave/io/Answer" "location" "Ljava/lang/String;" u2) (n_a : n0 ≤ a) :
    MetFree l (⟨"com/example/llave/llave/io/Answer", "<init>", "(ILjava/lang/Object;Ljava/lang/String;)V"⟩ : MethodName) (head1 (Jvm.Cond.code (⟨"com/example/llave/llave/io/Answer", "<init>", "(ILjava/lang/Object;Ljava/lang/String;)V"⟩ : MethodName) prog_9_method_1_code 4 none :: ws) ({ frames := 2, cells := 0, slots := 0, locals := 24 } : Room)) (fun aG UG => aG = #[(.ref a), (.int i), .null, (.ref q)] ∧ Z.Warmed39 UG.vm ∧ UG.heap = h0) (fun _ _ _ _ _ => True) (fun _ UG oG UG' => ∃ vG LG, oG = .returned vG ∧ Q_rm_ai01 Z w_cache c_cache zc a i q u0 u1 u2 h0 n0 vG UG'.heap LG ∧ FrameEnd UG oG UG' LG ({ frames := 2, cells := 0, slots := 0, locals := 24 } : Room).cells ({ frames := 2, cells := 0, slots := 0, locals := 24 } : Room).slots) := by
  refine MetFree.of_bodySF (plainFor_of_name pn_3) hisR ?_
  intro pG eG sG mG argsG belowG methG cG s₁ Bd hml0 hP hK
  obtain ⟨rfl, hZ, hh⟩ := hP
  have hx := Bd.exec
  have hby := Bd.bytes
  have hml : cG.maxLocals = 4 := hml0
  have hown : sG.vm.findClass "com/example/llave/llave/io/Answer" = some mG.cls := findClass_of_methodNamed Bd.named
  have hnm := (name_of_methodNamed Bd.named Bd.method).1
  have X0 : Stand pG l eG ({ frames := 2, cells := 0, slots := 0, locals := 24 } : Room) sG mG #[(.ref a), (.int i), .null, (.ref q)] belowG methG cG s₁ [] 0 0 := Stand.of_body Bd
  have e0 : s₁.heap = h0 := by rw [← hh, Bd.state]; rfl
  have N0 := Fr.nil n0
  have K0 := Keep.refl h0 [a]
  obtain ⟨S_high, S_cache, B_cache, S_zc, hzc⟩ := (id hS : St0 Z w_cache c_cache zc )
  refine ostart (g' := (mkF mG 0 #[.val (.ref a), .val (.int i), .val .null, .val (.ref q)] [])) (by first | (simp [entryFrame, mkF, argsToLocals, Value.category]; done) | rfl) ?_
  refine ob s₁ (mkF mG 1 #[.val (.ref a), .val (.int i), .val .null, .val (.ref q)] [(.ref a)]) (fun _ kk => XS.aloadN X0.here hx rfl (hb hby d8_0) rfl rfl kk) ?_
  obtain ⟨_, _, ⟨T1, L1, k1, n1⟩, -, X1, ⟨Lc1, hQ1, l1, y1, z1⟩, st1⟩ := X0.specialBack hx (y := (⟨"java/lang/Record", "<init>", "()V"⟩ : MethodName)) rfl hown (mvT hZ (ow hw 39 rfl)) (mvT hZ (ow hw 40 rfl)) (mvT hZ (ow hw 43 rfl)) (by decide) (backOf (W := 0) (rm_rec l Z a0 hw [] w_cache c_cache zc a h0 n0 O0 hS ) hZ (ow hw 43 rfl) (ow hw 42 rfl) (by decide) (by decide)) (g := (mkF mG 1 #[.val (.ref a), .val (.int i), .val .null, .val (.ref q)] [(.ref a)])) rfl (by rw [hml]; rfl) (Steps.refl _) (a := a) (argsL := []) (rest := []) (lenOf pd_0 rfl) rfl (by show 2 * 0 + _ ≤ _; exact Nat.le_of_eq rfl) (hb hby d8_1) (fun _ _ => ⟨rfl, e0, (by decide : 0 + 0 ≤ _), (by decide : 0 + 0 ≤ _)⟩)
  dsimp only [Pt.U, Pt.locs, Pt.cells, Pt.slots] at X1 l1 y1 z1 st1 hQ1
  subst l1 y1 z1
  obtain ⟨rfl, N1q, e1⟩ := hQ1
  have N1 := Fr.app N0 N1q
  refine ob T1 (mkF mG 4 #[.val (.ref a), .val (.int i), .val .null, .val (.ref q)] []) (fun _ kk => st1.trans kk) ?_
  refine ob T1 (mkF mG 5 #[.val (.ref a), .val (.int i), .val .null, .val (.ref q)] [(.ref a)]) (fun _ kk => XS.aloadN X1.here hx rfl (hb hby d8_4) rfl rfl kk) ?_
  refine ob T1 (mkF mG 6 #[.val (.ref a), .val (.int i), .val .null, .val (.ref q)] [(.int i), (.ref a)]) (fun _ kk => XS.iloadN X1.here hx rfl (hb hby d8_5) rfl kk) ?_
  obtain ⟨T2, h2, X2, e2, W2, st2⟩ := putF X1 hx hZ hown (host := "") (Or.inl (ow hw 45 rfl)) Via.refl e1 F_0 E_a (Or.inr ⟨(ow hw 46 rfl), rfl, hnm⟩) (ow hw 35 rfl) (ty := .int) (by decide) rfl rfl (g := (mkF mG 6 #[.val (.ref a), .val (.int i), .val .null, .val (.ref q)] [(.int i), (.ref a)])) rfl rfl (hb hby d8_6)
  have F2 := F_0.same W2
  have O2 := O0.wr W2 n_a
  have K2 := K0.wr W2 (Or.inl (List.mem_of_getElem? (i := 0) rfl))
  have N2 := Fr.snoc X2 N1 n_a
  refine ob T2 (mkF mG 9 #[.val (.ref a), .val (.int i), .val .null, .val (.ref q)] []) (fun _ kk => st2 _ kk) ?_
  refine ob T2 (mkF mG 10 #[.val (.ref a), .val (.int i), .val .null, .val (.ref q)] [(.ref a)]) (fun _ kk => XS.aloadN X2.here hx rfl (hb hby d8_9) rfl rfl kk) ?_
  refine ob T2 (mkF mG 11 #[.val (.ref a), .val (.int i), .val .null, .val (.ref q)] [.null, (.ref a)]) (fun _ kk => XS.aloadN X2.here hx rfl (hb hby d8_10) rfl rfl kk) ?_
  obtain ⟨T3, h3, X3, e3, W3, st3⟩ := putF X2 hx hZ hown (host := "") (Or.inl (ow hw 47 rfl)) Via.refl e2 (F_1.other W2 (Or.inr (slot_ne (Or.inr (ow hw 48 rfl)) (Or.inr (ow hw 46 rfl)) (by decide) (t := (.object "java/lang/Object")) (t' := .int) (by decide) (by decide)))) (E_a.wr W2) (Or.inr ⟨(ow hw 48 rfl), rfl, hnm⟩) (ow hw 35 rfl) (ty := (.object "java/lang/Object")) (by decide) rfl rfl (g := (mkF mG 11 #[.val (.ref a), .val (.int i), .val .null, .val (.ref q)] [.null, (.ref a)])) rfl rfl (hb hby d8_11)
  have F3 := (F_1.other W2 (Or.inr (slot_ne (Or.inr (ow hw 48 rfl)) (Or.inr (ow hw 46 rfl)) (by decide) (t := (.object "java/lang/Object")) (t' := .int) (by decide) (by decide)))).same W3
  have O3 := O2.wr W3 n_a
  have K3 := K2.wr W3 (Or.inl (List.mem_of_getElem? (i := 0) rfl))
  have N3 := Fr.snoc X3 N2 n_a
  refine ob T3 (mkF mG 14 #[.val (.ref a), .val (.int i), .val .null, .val (.ref q)] []) (fun _ kk => st3 _ kk) ?_
  refine ob T3 (mkF mG 15 #[.val (.ref a), .val (.int i), .val .null, .val (.ref q)] [(.ref a)]) (fun _ kk => XS.aloadN X3.here hx rfl (hb hby d8_14) rfl rfl kk) ?_
  refine ob T3 (mkF mG 16 #[.val (.ref a), .val (.int i), .val .null, .val (.ref q)] [(.ref q), (.ref a)]) (fun _ kk => XS.aloadN X3.here hx rfl (hb hby d8_15) rfl rfl kk) ?_
  obtain ⟨T4, h4, X4, e4, W4, st4⟩ := putF X3 hx hZ hown (host := "") (Or.inl (ow hw 49 rfl)) Via.refl e3 ((F_2.other W2 (Or.inr (slot_ne (Or.inr (ow hw 50 rfl)) (Or.inr (ow hw 46 rfl)) (by decide) (t := (.object "java/lang/String")) (t' := .int) (by decide) (by decide)))).other W3 (Or.inr (slot_ne (Or.inr (ow hw 50 rfl)) (Or.inr (ow hw 48 rfl)) (by decide) (t := (.object "java/lang/String")) (t' := (.object "java/lang/Object")) (by decide) (by decide)))) ((E_a.wr W2).wr W3) (Or.inr ⟨(ow hw 50 rfl), rfl, hnm⟩) (ow hw 35 rfl) (ty := (.object "java/lang/String")) (by decide) rfl rfl (g := (mkF mG 16 #[.val (.ref a), .val (.int i), .val .null, .val (.ref q)] [(.ref q), (.ref a)])) rfl rfl (hb hby d8_16)
  have F4 := ((F_2.other W2 (Or.inr (slot_ne (Or.inr (ow hw 50 rfl)) (Or.inr (ow hw 46 rfl)) (by decide) (t := (.object "java/lang/String")) (t' := .int) (by decide) (by decide)))).other W3 (Or.inr (slot_ne (Or.inr (ow hw 50 rfl)) (Or.inr (ow hw 48 rfl)) (by decide) (t := (.object "java/lang/String")) (t' := (.object "java/lang/Object")) (by decide) (by decide)))).same W4
  have O4 := O3.wr W4 n_a
  have K4 := K3.wr W4 (Or.inl (List.mem_of_getElem? (i := 0) rfl))
  have N4 := Fr.snoc X4 N3 n_a
  refine ob T4 (mkF mG 19 #[.val (.ref a), .val (.int i), .val .null, .val (.ref q)] []) (fun _ kk => st4 _ kk) ?_
  obtain ⟨fs, hr, hrun, hended, hW, hsame⟩ := X4.leave (v := none) (fun _ => rfl)
  refine oout (X4.returnOut hx Bd.returns (hb hby d8_19) hr) hrun hended ⟨_, _, rfl, ?_, ⟨_, rfl⟩, hW, hsame.mono (by decide) (by decide)⟩
  show Q_rm_ai01 Z w_cache c_cache zc a i q u0 u1 u2 h0 n0 _ T4.heap _
  rw [e4]
  exact ⟨rfl, N4, K4, O4, ((F2.other W3 (Or.inr (slot_ne (Or.inr (ow hw 46 rfl)) (Or.inr (ow hw 48 rfl)) (by decide) (t := .int) (t' := (.object "java/lang/Object")) (by decide) (by decide)))).other W4 (Or.inr (slot_ne (Or.inr (ow hw 46 rfl)) (Or.inr (ow hw 50 rfl)) (by decide) (t := .int) (t' := (.object "java/lang/String")) (by decide) (by decide)))), (F3.other W4 (Or.inr (slot_ne (Or.inr (ow hw 48 rfl)) (Or.inr (ow hw 50 rfl)) (by decide) (t := (.object "java/lang/Object")) (t' := (.object "java/lang/String")) (by decide) (by decide)))), F4⟩

def Q_rm_cr01 (Z : State) (w_cache : Addr) (c_cache : Cell) (zc : Int32) (q : Addr) (h0 : Heap) (n0 : Nat) (v : Option Value) (h : Heap) (L : List Loc) : Prop := ∃ (b0 : Addr), v = some (.ref b0) ∧ Fr n0 L ∧ Keep h0 h [] ∧ Old Z n0 h ∧ n0 ≤ b0 ∧ h0.size ≤ b0 ∧ Exa Z h b0 "com/example/llave/llave/io/Answer" ∧ Fld Z h b0 "com/example/llave/llave/io/Answer" "status" "I" (.int (201 : Int32)) ∧ Fld Z h b0 "com/example/llave/llave/io/Answer" "body" "Ljava/lang/Object;" .null ∧ Fld Z h b0 "com/example/llave/llave/io/Answer" "location" "Ljava/lang/String;" (.ref q)
set_option maxRecDepth 65536 in
set_option maxHeartbeats 40000000 in
theorem rm_cr01 (l : Launch) (Z : State) (a0 : Array Value) (hw : ∀ d ∈ tables_1, d.before a0 Z = true) (ws : List Jvm.Cond) (w_cache : Addr) (c_cache : Cell) (zc : Int32) (q : Addr) (h0 : Heap) (n0 : Nat) (O0 : Old Z n0 h0) (hS : St0 Z w_cache c_cache zc ) :
    MetFree l (⟨"com/example/llave/llave/io/Answer", "created", "(Ljava/lang/Object;Ljava/lang/String;)Lcom/example/llave/llave/io/Answer;"⟩ : MethodName) (head1 (Jvm.Cond.code (⟨"com/example/llave/llave/io/Answer", "created", "(Ljava/lang/Object;Ljava/lang/String;)Lcom/example/llave/llave/io/Answer;"⟩ : MethodName) prog_9_method_3_code 2 (some (.object "com/example/llave/llave/io/Answer")) :: ws) ({ frames := 3, cells := 1, slots := 3, locals := 40 } : Room)) (fun aG UG => aG = #[.null, (.ref q)] ∧ Z.Warmed39 UG.vm ∧ UG.heap = h0) (fun _ _ _ _ _ => True) (fun _ UG oG UG' => ∃ vG LG, oG = .returned vG ∧ Q_rm_cr01 Z w_cache c_cache zc q h0 n0 vG UG'.heap LG ∧ FrameEnd UG oG UG' LG ({ frames := 3, cells := 1, slots := 3, locals := 40 } : Room).cells ({ frames := 3, cells := 1, slots := 3, locals := 40 } : Room).slots) := by
  refine MetFree.of_bodySF (plainFor_of_name pn_3) hisR ?_
  intro pG eG sG mG argsG belowG methG cG s₁ Bd hml0 hP hK
  obtain ⟨rfl, hZ, hh⟩ := hP
  have hx := Bd.exec
  have hby := Bd.bytes
  have hml : cG.maxLocals = 2 := hml0
  have hown : sG.vm.findClass "com/example/llave/llave/io/Answer" = some mG.cls := findClass_of_methodNamed Bd.named
  have hnm := (name_of_methodNamed Bd.named Bd.method).1
  have X0 : Stand pG l eG ({ frames := 3, cells := 1, slots := 3, locals := 40 } : Room) sG mG #[.null, (.ref q)] belowG methG cG s₁ [] 0 0 := Stand.of_body Bd
  have e0 : s₁.heap = h0 := by rw [← hh, Bd.state]; rfl
  have N0 := Fr.nil n0
  have K0 := Keep.refl h0 []
  obtain ⟨S_high, S_cache, B_cache, S_zc, hzc⟩ := (id hS : St0 Z w_cache c_cache zc )
  refine ostart (g' := (mkF mG 0 #[.val .null, .val (.ref q)] [])) (by first | (simp [entryFrame, mkF, argsToLocals, Value.category]; done) | rfl) ?_
  obtain ⟨T1, h1, X1, e1, E1, A1, D1, _x1, st1⟩ := newO X0 hx hZ hown (ow hw 34 rfl) (ow hw 35 rfl) (ow hw 32 rfl) e0 (g := (mkF mG 0 #[.val .null, .val (.ref q)] [])) rfl (hb hby d7_0) (by decide) (by decide)
  obtain ⟨b1, g1⟩ : ∃ z, z = h0.size := ⟨_, rfl⟩
  rw [← g1] at A1 D1 st1
  have n_b1 : n0 ≤ b1 := Nat.le_trans (on0 O0) (Nat.le_of_eq g1.symm)
  have sz_b1 : h0.size ≤ b1 := Nat.le_trans K0.1 (Nat.le_of_eq g1.symm)
  have O1 := O0.ext E1
  have K1 := K0.ext E1
  have F1_46 : Fld Z h1 b1 "com/example/llave/llave/io/Answer" "status" "I" (.int (0 : Int32)) := D1 (Or.inr (ow hw 46 rfl)) (ty := .int) (by decide)
  have F1_48 : Fld Z h1 b1 "com/example/llave/llave/io/Answer" "body" "Ljava/lang/Object;" .null := D1 (Or.inr (ow hw 48 rfl)) (ty := (.object "java/lang/Object")) (by decide)
  have F1_50 : Fld Z h1 b1 "com/example/llave/llave/io/Answer" "location" "Ljava/lang/String;" .null := D1 (Or.inr (ow hw 50 rfl)) (ty := (.object "java/lang/String")) (by decide)
  refine ob T1 (mkF mG 3 #[.val .null, .val (.ref q)] [(.ref b1)]) (fun _ kk => st1 _ kk) ?_
  refine ob T1 (mkF mG 4 #[.val .null, .val (.ref q)] [(.ref b1), (.ref b1)]) (fun _ kk => XS.dup X1.here hx rfl (hb hby d7_3) rfl rfl kk) ?_
  refine ob T1 (mkF mG 7 #[.val .null, .val (.ref q)] [(.int (201 : Int32)), (.ref b1), (.ref b1)]) (fun _ kk => XS.sipush X1.here hx rfl (hb hby d7_4) kk) ?_
  refine ob T1 (mkF mG 8 #[.val .null, .val (.ref q)] [.null, (.int (201 : Int32)), (.ref b1), (.ref b1)]) (fun _ kk => XS.aloadN X1.here hx rfl (hb hby d7_7) rfl rfl kk) ?_
  refine ob T1 (mkF mG 9 #[.val .null, .val (.ref q)] [(.ref q), .null, (.int (201 : Int32)), (.ref b1), (.ref b1)]) (fun _ kk => XS.aloadN X1.here hx rfl (hb hby d7_8) rfl rfl kk) ?_
  obtain ⟨_, _, ⟨T2, L2, k2, n2⟩, -, X2, ⟨Lc2, hQ2, l2, y2, z2⟩, st2⟩ := X1.specialBack hx (y := (⟨"com/example/llave/llave/io/Answer", "<init>", "(ILjava/lang/Object;Ljava/lang/String;)V"⟩ : MethodName)) rfl hown (mvT hZ (ow hw 36 rfl)) (mvT hZ (ow hw 37 rfl)) (mvT hZ (ow hw 38 rfl)) (by decide) (backOf (W := 1) (rm_ai01 l Z a0 hw [] w_cache c_cache zc b1 (201 : Int32) q (.int (0 : Int32)) .null .null h1 n0 O1 hS A1 F1_46 F1_48 F1_50 n_b1) hZ (ow hw 38 rfl) (ow hw 32 rfl) (by decide) (by decide)) (g := (mkF mG 9 #[.val .null, .val (.ref q)] [(.ref q), .null, (.int (201 : Int32)), (.ref b1), (.ref b1)])) rfl (by rw [hml]; rfl) (Steps.refl _) (a := b1) (argsL := [(.int (201 : Int32)), .null, (.ref q)]) (rest := [(.ref b1)]) (lenOf pd_2 rfl) rfl (by show 2 * 0 + _ ≤ _; exact Nat.le_of_eq rfl) (hb hby d7_9) (fun _ _ => ⟨rfl, e1, (by decide : 1 + 0 ≤ _), (by decide : 3 + 0 ≤ _)⟩)
  dsimp only [Pt.U, Pt.locs, Pt.cells, Pt.slots] at X2 l2 y2 z2 st2 hQ2
  subst l2 y2 z2
  obtain ⟨h2, e2⟩ : ∃ h, T2.heap = h := ⟨_, rfl⟩
  rw [e2] at hQ2
  obtain ⟨rfl, N2q, K2q, O2, F2_0, F2_1, F2_2⟩ := hQ2
  have N2 := Fr.app N0 N2q
  have K2 := K1.trans K2q (allS (Or.inr sz_b1) all0)
  refine ob T2 (mkF mG 12 #[.val .null, .val (.ref q)] [(.ref b1)]) (fun _ kk => st2.trans kk) ?_
  obtain ⟨fs, hr, hrun, hended, hW, hsame⟩ := X2.leave (v := some (.ref b1)) (fun h => by rw [Bd.returns] at h; cases h)
  refine oout (oretA X2 hx Bd.returns rfl rfl (hb hby d7_12) hr) hrun hended ⟨_, _, rfl, ?_, ⟨_, rfl⟩, hW, hsame.mono (by decide) (by decide)⟩
  show Q_rm_cr01 Z w_cache c_cache zc q h0 n0 _ T2.heap _
  rw [e2]
  exact ⟨b1, rfl, N2, K2, O2, n_b1, sz_b1, (A1.keep K2q), F2_0, F2_1, F2_2⟩

def Q_rm_ai10 (Z : State) (w_cache : Addr) (c_cache : Cell) (zc : Int32) (a : Addr) (i : Int32) (o : Addr) (u0 : Value) (u1 : Value) (u2 : Value) (h0 : Heap) (n0 : Nat) (v : Option Value) (h : Heap) (L : List Loc) : Prop := v = none ∧ Fr n0 L ∧ Keep h0 h [a] ∧ Old Z n0 h ∧ Fld Z h a "com/example/llave/llave/io/Answer" "status" "I" (.int i) ∧ Fld Z h a "com/example/llave/llave/io/Answer" "body" "Ljava/lang/Object;" (.ref o) ∧ Fld Z h a "com/example/llave/llave/io/Answer" "location" "Ljava/lang/String;" .null
set_option maxRecDepth 65536 in
set_option maxHeartbeats 40000000 in
theorem rm_ai10 (l : Launch) (Z : State) (a0 : Array Value) (hw : ∀ d ∈ tables_1, d.before a0 Z = true) (ws : List Jvm.Cond) (w_cache : Addr) (c_cache : Cell) (zc : Int32) (a : Addr) (i : Int32) (o : Addr) (u0 : Value) (u1 : Value) (u2 : Value) (h0 : Heap) (n0 : Nat) (O0 : Old Z n0 h0) (hS : St0 Z w_cache c_cache zc ) (E_a : Exa Z h0 a "com/example/llave/llave/io/Answer") (F_0 : Fld Z h0 a "com/example/llave/llave/io/Answer" "status" "I" u0) (F_1 : Fld Z h0 a "com/example/llave/llave/io/Answer" "body" "Ljava/lang/Object;" u1) (F_2 : Fld Z h0 a "com/example/llave/llave/io/Answer" "location" "Ljava/lang/String;" u2) (n_a : n0 ≤ a) :
    MetFree l (⟨"com/example/llave/llave/io/Answer", "<init>", "(ILjava/lang/Object;Ljava/lang/String;)V"⟩ : MethodName) (head1 (Jvm.Cond.code (⟨"com/example/llave/llave/io/Answer", "<init>", "(ILjava/lang/Object;Ljava/lang/String;)V"⟩ : MethodName) prog_9_method_1_code 4 none :: ws) ({ frames := 2, cells := 0, slots := 0, locals := 24 } : Room)) (fun aG UG => aG = #[(.ref a), (.int i), (.ref o), .null] ∧ Z.Warmed39 UG.vm ∧ UG.heap = h0) (fun _ _ _ _ _ => True) (fun _ UG oG UG' => ∃ vG LG, oG = .returned vG ∧ Q_rm_ai10 Z w_cache c_cache zc a i o u0 u1 u2 h0 n0 vG UG'.heap LG ∧ FrameEnd UG oG UG' LG ({ frames := 2, cells := 0, slots := 0, locals := 24 } : Room).cells ({ frames := 2, cells := 0, slots := 0, locals := 24 } : Room).slots) := by
  refine MetFree.of_bodySF (plainFor_of_name pn_3) hisR ?_
  intro pG eG sG mG argsG belowG methG cG s₁ Bd hml0 hP hK
  obtain ⟨rfl, hZ, hh⟩ := hP
  have hx := Bd.exec
  have hby := Bd.bytes
  have hml : cG.maxLocals = 4 := hml0
  have hown : sG.vm.findClass "com/example/llave/llave/io/Answer" = some mG.cls := findClass_of_methodNamed Bd.named
  have hnm := (name_of_methodNamed Bd.named Bd.method).1
  have X0 : Stand pG l eG ({ frames := 2, cells := 0, slots := 0, locals := 24 } : Room) sG mG #[(.ref a), (.int i), (.ref o), .null] belowG methG cG s₁ [] 0 0 := Stand.of_body Bd
  have e0 : s₁.heap = h0 := by rw [← hh, Bd.state]; rfl
  have N0 := Fr.nil n0
  have K0 := Keep.refl h0 [a]
  obtain ⟨S_high, S_cache, B_cache, S_zc, hzc⟩ := (id hS : St0 Z w_cache c_cache zc )
  refine ostart (g' := (mkF mG 0 #[.val (.ref a), .val (.int i), .val (.ref o), .val .null] [])) (by first | (simp [entryFrame, mkF, argsToLocals, Value.category]; done) | rfl) ?_
  refine ob s₁ (mkF mG 1 #[.val (.ref a), .val (.int i), .val (.ref o), .val .null] [(.ref a)]) (fun _ kk => XS.aloadN X0.here hx rfl (hb hby d8_0) rfl rfl kk) ?_
  obtain ⟨_, _, ⟨T1, L1, k1, n1⟩, -, X1, ⟨Lc1, hQ1, l1, y1, z1⟩, st1⟩ := X0.specialBack hx (y := (⟨"java/lang/Record", "<init>", "()V"⟩ : MethodName)) rfl hown (mvT hZ (ow hw 39 rfl)) (mvT hZ (ow hw 40 rfl)) (mvT hZ (ow hw 43 rfl)) (by decide) (backOf (W := 0) (rm_rec l Z a0 hw [] w_cache c_cache zc a h0 n0 O0 hS ) hZ (ow hw 43 rfl) (ow hw 42 rfl) (by decide) (by decide)) (g := (mkF mG 1 #[.val (.ref a), .val (.int i), .val (.ref o), .val .null] [(.ref a)])) rfl (by rw [hml]; rfl) (Steps.refl _) (a := a) (argsL := []) (rest := []) (lenOf pd_0 rfl) rfl (by show 2 * 0 + _ ≤ _; exact Nat.le_of_eq rfl) (hb hby d8_1) (fun _ _ => ⟨rfl, e0, (by decide : 0 + 0 ≤ _), (by decide : 0 + 0 ≤ _)⟩)
  dsimp only [Pt.U, Pt.locs, Pt.cells, Pt.slots] at X1 l1 y1 z1 st1 hQ1
  subst l1 y1 z1
  obtain ⟨rfl, N1q, e1⟩ := hQ1
  have N1 := Fr.app N0 N1q
  refine ob T1 (mkF mG 4 #[.val (.ref a), .val (.int i), .val (.ref o), .val .null] []) (fun _ kk => st1.trans kk) ?_
  refine ob T1 (mkF mG 5 #[.val (.ref a), .val (.int i), .val (.ref o), .val .null] [(.ref a)]) (fun _ kk => XS.aloadN X1.here hx rfl (hb hby d8_4) rfl rfl kk) ?_
  refine ob T1 (mkF mG 6 #[.val (.ref a), .val (.int i), .val (.ref o), .val .null] [(.int i), (.ref a)]) (fun _ kk => XS.iloadN X1.here hx rfl (hb hby d8_5) rfl kk) ?_
  obtain ⟨T2, h2, X2, e2, W2, st2⟩ := putF X1 hx hZ hown (host := "") (Or.inl (ow hw 45 rfl)) Via.refl e1 F_0 E_a (Or.inr ⟨(ow hw 46 rfl), rfl, hnm⟩) (ow hw 35 rfl) (ty := .int) (by decide) rfl rfl (g := (mkF mG 6 #[.val (.ref a), .val (.int i), .val (.ref o), .val .null] [(.int i), (.ref a)])) rfl rfl (hb hby d8_6)
  have F2 := F_0.same W2
  have O2 := O0.wr W2 n_a
  have K2 := K0.wr W2 (Or.inl (List.mem_of_getElem? (i := 0) rfl))
  have N2 := Fr.snoc X2 N1 n_a
  refine ob T2 (mkF mG 9 #[.val (.ref a), .val (.int i), .val (.ref o), .val .null] []) (fun _ kk => st2 _ kk) ?_
  refine ob T2 (mkF mG 10 #[.val (.ref a), .val (.int i), .val (.ref o), .val .null] [(.ref a)]) (fun _ kk => XS.aloadN X2.here hx rfl (hb hby d8_9) rfl rfl kk) ?_
  refine ob T2 (mkF mG 11 #[.val (.ref a), .val (.int i), .val (.ref o), .val .null] [(.ref o), (.ref a)]) (fun _ kk => XS.aloadN X2.here hx rfl (hb hby d8_10) rfl rfl kk) ?_
  obtain ⟨T3, h3, X3, e3, W3, st3⟩ := putF X2 hx hZ hown (host := "") (Or.inl (ow hw 47 rfl)) Via.refl e2 (F_1.other W2 (Or.inr (slot_ne (Or.inr (ow hw 48 rfl)) (Or.inr (ow hw 46 rfl)) (by decide) (t := (.object "java/lang/Object")) (t' := .int) (by decide) (by decide)))) (E_a.wr W2) (Or.inr ⟨(ow hw 48 rfl), rfl, hnm⟩) (ow hw 35 rfl) (ty := (.object "java/lang/Object")) (by decide) rfl rfl (g := (mkF mG 11 #[.val (.ref a), .val (.int i), .val (.ref o), .val .null] [(.ref o), (.ref a)])) rfl rfl (hb hby d8_11)
  have F3 := (F_1.other W2 (Or.inr (slot_ne (Or.inr (ow hw 48 rfl)) (Or.inr (ow hw 46 rfl)) (by decide) (t := (.object "java/lang/Object")) (t' := .int) (by decide) (by decide)))).same W3
  have O3 := O2.wr W3 n_a
  have K3 := K2.wr W3 (Or.inl (List.mem_of_getElem? (i := 0) rfl))
  have N3 := Fr.snoc X3 N2 n_a
  refine ob T3 (mkF mG 14 #[.val (.ref a), .val (.int i), .val (.ref o), .val .null] []) (fun _ kk => st3 _ kk) ?_
  refine ob T3 (mkF mG 15 #[.val (.ref a), .val (.int i), .val (.ref o), .val .null] [(.ref a)]) (fun _ kk => XS.aloadN X3.here hx rfl (hb hby d8_14) rfl rfl kk) ?_
  refine ob T3 (mkF mG 16 #[.val (.ref a), .val (.int i), .val (.ref o), .val .null] [.null, (.ref a)]) (fun _ kk => XS.aloadN X3.here hx rfl (hb hby d8_15) rfl rfl kk) ?_
  obtain ⟨T4, h4, X4, e4, W4, st4⟩ := putF X3 hx hZ hown (host := "") (Or.inl (ow hw 49 rfl)) Via.refl e3 ((F_2.other W2 (Or.inr (slot_ne (Or.inr (ow hw 50 rfl)) (Or.inr (ow hw 46 rfl)) (by decide) (t := (.object "java/lang/String")) (t' := .int) (by decide) (by decide)))).other W3 (Or.inr (slot_ne (Or.inr (ow hw 50 rfl)) (Or.inr (ow hw 48 rfl)) (by decide) (t := (.object "java/lang/String")) (t' := (.object "java/lang/Object")) (by decide) (by decide)))) ((E_a.wr W2).wr W3) (Or.inr ⟨(ow hw 50 rfl), rfl, hnm⟩) (ow hw 35 rfl) (ty := (.object "java/lang/String")) (by decide) rfl rfl (g := (mkF mG 16 #[.val (.ref a), .val (.int i), .val (.ref o), .val .null] [.null, (.ref a)])) rfl rfl (hb hby d8_16)
  have F4 := ((F_2.other W2 (Or.inr (slot_ne (Or.inr (ow hw 50 rfl)) (Or.inr (ow hw 46 rfl)) (by decide) (t := (.object "java/lang/String")) (t' := .int) (by decide) (by decide)))).other W3 (Or.inr (slot_ne (Or.inr (ow hw 50 rfl)) (Or.inr (ow hw 48 rfl)) (by decide) (t := (.object "java/lang/String")) (t' := (.object "java/lang/Object")) (by decide) (by decide)))).same W4
  have O4 := O3.wr W4 n_a
  have K4 := K3.wr W4 (Or.inl (List.mem_of_getElem? (i := 0) rfl))
  have N4 := Fr.snoc X4 N3 n_a
  refine ob T4 (mkF mG 19 #[.val (.ref a), .val (.int i), .val (.ref o), .val .null] []) (fun _ kk => st4 _ kk) ?_
  obtain ⟨fs, hr, hrun, hended, hW, hsame⟩ := X4.leave (v := none) (fun _ => rfl)
  refine oout (X4.returnOut hx Bd.returns (hb hby d8_19) hr) hrun hended ⟨_, _, rfl, ?_, ⟨_, rfl⟩, hW, hsame.mono (by decide) (by decide)⟩
  show Q_rm_ai10 Z w_cache c_cache zc a i o u0 u1 u2 h0 n0 _ T4.heap _
  rw [e4]
  exact ⟨rfl, N4, K4, O4, ((F2.other W3 (Or.inr (slot_ne (Or.inr (ow hw 46 rfl)) (Or.inr (ow hw 48 rfl)) (by decide) (t := .int) (t' := (.object "java/lang/Object")) (by decide) (by decide)))).other W4 (Or.inr (slot_ne (Or.inr (ow hw 46 rfl)) (Or.inr (ow hw 50 rfl)) (by decide) (t := .int) (t' := (.object "java/lang/String")) (by decide) (by decide)))), (F3.other W4 (Or.inr (slot_ne (Or.inr (ow hw 48 rfl)) (Or.inr (ow hw 50 rfl)) (by decide) (t := (.object "java/lang/Object")) (t' := (.object "java/lang/String")) (by decide) (by decide)))), F4⟩

def Q_rm_cr10 (Z : State) (w_cache : Addr) (c_cache : Cell) (zc : Int32) (o : Addr) (h0 : Heap) (n0 : Nat) (v : Option Value) (h : Heap) (L : List Loc) : Prop := ∃ (b0 : Addr), v = some (.ref b0) ∧ Fr n0 L ∧ Keep h0 h [] ∧ Old Z n0 h ∧ n0 ≤ b0 ∧ h0.size ≤ b0 ∧ Exa Z h b0 "com/example/llave/llave/io/Answer" ∧ Fld Z h b0 "com/example/llave/llave/io/Answer" "status" "I" (.int (201 : Int32)) ∧ Fld Z h b0 "com/example/llave/llave/io/Answer" "body" "Ljava/lang/Object;" (.ref o) ∧ Fld Z h b0 "com/example/llave/llave/io/Answer" "location" "Ljava/lang/String;" .null
set_option maxRecDepth 65536 in
set_option maxHeartbeats 40000000 in
theorem rm_cr10 (l : Launch) (Z : State) (a0 : Array Value) (hw : ∀ d ∈ tables_1, d.before a0 Z = true) (ws : List Jvm.Cond) (w_cache : Addr) (c_cache : Cell) (zc : Int32) (o : Addr) (h0 : Heap) (n0 : Nat) (O0 : Old Z n0 h0) (hS : St0 Z w_cache c_cache zc ) :
    MetFree l (⟨"com/example/llave/llave/io/Answer", "created", "(Ljava/lang/Object;Ljava/lang/String;)Lcom/example/llave/llave/io/Answer;"⟩ : MethodName) (head1 (Jvm.Cond.code (⟨"com/example/llave/llave/io/Answer", "created", "(Ljava/lang/Object;Ljava/lang/String;)Lcom/example/llave/llave/io/Answer;"⟩ : MethodName) prog_9_method_3_code 2 (some (.object "com/example/llave/llave/io/Answer")) :: ws) ({ frames := 3, cells := 1, slots := 3, locals := 40 } : Room)) (fun aG UG => aG = #[(.ref o), .null] ∧ Z.Warmed39 UG.vm ∧ UG.heap = h0) (fun _ _ _ _ _ => True) (fun _ UG oG UG' => ∃ vG LG, oG = .returned vG ∧ Q_rm_cr10 Z w_cache c_cache zc o h0 n0 vG UG'.heap LG ∧ FrameEnd UG oG UG' LG ({ frames := 3, cells := 1, slots := 3, locals := 40 } : Room).cells ({ frames := 3, cells := 1, slots := 3, locals := 40 } : Room).slots) := by
  refine MetFree.of_bodySF (plainFor_of_name pn_3) hisR ?_
  intro pG eG sG mG argsG belowG methG cG s₁ Bd hml0 hP hK
  obtain ⟨rfl, hZ, hh⟩ := hP
  have hx := Bd.exec
  have hby := Bd.bytes
  have hml : cG.maxLocals = 2 := hml0
  have hown : sG.vm.findClass "com/example/llave/llave/io/Answer" = some mG.cls := findClass_of_methodNamed Bd.named
  have hnm := (name_of_methodNamed Bd.named Bd.method).1
  have X0 : Stand pG l eG ({ frames := 3, cells := 1, slots := 3, locals := 40 } : Room) sG mG #[(.ref o), .null] belowG methG cG s₁ [] 0 0 := Stand.of_body Bd
  have e0 : s₁.heap = h0 := by rw [← hh, Bd.state]; rfl
  have N0 := Fr.nil n0
  have K0 := Keep.refl h0 []
  obtain ⟨S_high, S_cache, B_cache, S_zc, hzc⟩ := (id hS : St0 Z w_cache c_cache zc )
  refine ostart (g' := (mkF mG 0 #[.val (.ref o), .val .null] [])) (by first | (simp [entryFrame, mkF, argsToLocals, Value.category]; done) | rfl) ?_
  obtain ⟨T1, h1, X1, e1, E1, A1, D1, _x1, st1⟩ := newO X0 hx hZ hown (ow hw 34 rfl) (ow hw 35 rfl) (ow hw 32 rfl) e0 (g := (mkF mG 0 #[.val (.ref o), .val .null] [])) rfl (hb hby d7_0) (by decide) (by decide)
  obtain ⟨b1, g1⟩ : ∃ z, z = h0.size := ⟨_, rfl⟩
  rw [← g1] at A1 D1 st1
  have n_b1 : n0 ≤ b1 := Nat.le_trans (on0 O0) (Nat.le_of_eq g1.symm)
  have sz_b1 : h0.size ≤ b1 := Nat.le_trans K0.1 (Nat.le_of_eq g1.symm)
  have O1 := O0.ext E1
  have K1 := K0.ext E1
  have F1_46 : Fld Z h1 b1 "com/example/llave/llave/io/Answer" "status" "I" (.int (0 : Int32)) := D1 (Or.inr (ow hw 46 rfl)) (ty := .int) (by decide)
  have F1_48 : Fld Z h1 b1 "com/example/llave/llave/io/Answer" "body" "Ljava/lang/Object;" .null := D1 (Or.inr (ow hw 48 rfl)) (ty := (.object "java/lang/Object")) (by decide)
  have F1_50 : Fld Z h1 b1 "com/example/llave/llave/io/Answer" "location" "Ljava/lang/String;" .null := D1 (Or.inr (ow hw 50 rfl)) (ty := (.object "java/lang/String")) (by decide)
  refine ob T1 (mkF mG 3 #[.val (.ref o), .val .null] [(.ref b1)]) (fun _ kk => st1 _ kk) ?_
  refine ob T1 (mkF mG 4 #[.val (.ref o), .val .null] [(.ref b1), (.ref b1)]) (fun _ kk => XS.dup X1.here hx rfl (hb hby d7_3) rfl rfl kk) ?_
  refine ob T1 (mkF mG 7 #[.val (.ref o), .val .null] [(.int (201 : Int32)), (.ref b1), (.ref b1)]) (fun _ kk => XS.sipush X1.here hx rfl (hb hby d7_4) kk) ?_
  refine ob T1 (mkF mG 8 #[.val (.ref o), .val .null] [(.ref o), (.int (201 : Int32)), (.ref b1), (.ref b1)]) (fun _ kk => XS.aloadN X1.here hx rfl (hb hby d7_7) rfl rfl kk) ?_
  refine ob T1 (mkF mG 9 #[.val (.ref o), .val .null] [.null, (.ref o), (.int (201 : Int32)), (.ref b1), (.ref b1)]) (fun _ kk => XS.aloadN X1.here hx rfl (hb hby d7_8) rfl rfl kk) ?_
  obtain ⟨_, _, ⟨T2, L2, k2, n2⟩, -, X2, ⟨Lc2, hQ2, l2, y2, z2⟩, st2⟩ := X1.specialBack hx (y := (⟨"com/example/llave/llave/io/Answer", "<init>", "(ILjava/lang/Object;Ljava/lang/String;)V"⟩ : MethodName)) rfl hown (mvT hZ (ow hw 36 rfl)) (mvT hZ (ow hw 37 rfl)) (mvT hZ (ow hw 38 rfl)) (by decide) (backOf (W := 1) (rm_ai10 l Z a0 hw [] w_cache c_cache zc b1 (201 : Int32) o (.int (0 : Int32)) .null .null h1 n0 O1 hS A1 F1_46 F1_48 F1_50 n_b1) hZ (ow hw 38 rfl) (ow hw 32 rfl) (by decide) (by decide)) (g := (mkF mG 9 #[.val (.ref o), .val .null] [.null, (.ref o), (.int (201 : Int32)), (.ref b1), (.ref b1)])) rfl (by rw [hml]; rfl) (Steps.refl _) (a := b1) (argsL := [(.int (201 : Int32)), (.ref o), .null]) (rest := [(.ref b1)]) (lenOf pd_2 rfl) rfl (by show 2 * 0 + _ ≤ _; exact Nat.le_of_eq rfl) (hb hby d7_9) (fun _ _ => ⟨rfl, e1, (by decide : 1 + 0 ≤ _), (by decide : 3 + 0 ≤ _)⟩)
  dsimp only [Pt.U, Pt.locs, Pt.cells, Pt.slots] at X2 l2 y2 z2 st2 hQ2
  subst l2 y2 z2
  obtain ⟨h2, e2⟩ : ∃ h, T2.heap = h := ⟨_, rfl⟩
  rw [e2] at hQ2
  obtain ⟨rfl, N2q, K2q, O2, F2_0, F2_1, F2_2⟩ := hQ2
  have N2 := Fr.app N0 N2q
  have K2 := K1.trans K2q (allS (Or.inr sz_b1) all0)
  refine ob T2 (mkF mG 12 #[.val (.ref o), .val .null] [(.ref b1)]) (fun _ kk => st2.trans kk) ?_
  obtain ⟨fs, hr, hrun, hended, hW, hsame⟩ := X2.leave (v := some (.ref b1)) (fun h => by rw [Bd.returns] at h; cases h)
  refine oout (oretA X2 hx Bd.returns rfl rfl (hb hby d7_12) hr) hrun hended ⟨_, _, rfl, ?_, ⟨_, rfl⟩, hW, hsame.mono (by decide) (by decide)⟩
  show Q_rm_cr10 Z w_cache c_cache zc o h0 n0 _ T2.heap _
  rw [e2]
  exact ⟨b1, rfl, N2, K2, O2, n_b1, sz_b1, (A1.keep K2q), F2_0, F2_1, F2_2⟩

def Q_rm_ai11 (Z : State) (w_cache : Addr) (c_cache : Cell) (zc : Int32) (a : Addr) (i : Int32) (o : Addr) (q : Addr) (u0 : Value) (u1 : Value) (u2 : Value) (h0 : Heap) (n0 : Nat) (v : Option Value) (h : Heap) (L : List Loc) : Prop := v = none ∧ Fr n0 L ∧ Keep h0 h [a] ∧ Old Z n0 h ∧ Fld Z h a "com/example/llave/llave/io/Answer" "status" "I" (.int i) ∧ Fld Z h a "com/example/llave/llave/io/Answer" "body" "Ljava/lang/Object;" (.ref o) ∧ Fld Z h a "com/example/llave/llave/io/Answer" "location" "Ljava/lang/String;" (.ref q)
set_option maxRecDepth 65536 in
set_option maxHeartbeats 40000000 in
theorem rm_ai11 (l : Launch) (Z : State) (a0 : Array Value) (hw : ∀ d ∈ tables_1, d.before a0 Z = true) (ws : List Jvm.Cond) (w_cache : Addr) (c_cache : Cell) (zc : Int32) (a : Addr) (i : Int32) (o : Addr) (q : Addr) (u0 : Value) (u1 : Value) (u2 : Value) (h0 : Heap) (n0 : Nat) (O0 : Old Z n0 h0) (hS : St0 Z w_cache c_cache zc ) (E_a : Exa Z h0 a "com/example/llave/llave/io/Answer") (F_0 : Fld Z h0 a "com/example/llave/llave/io/Answer" "status" "I" u0) (F_1 : Fld Z h0 a "com/example/llave/llave/io/Answer" "body" "Ljava/lang/Object;" u1) (F_2 : Fld Z h0 a "com/example/llave/llave/io/Answer" "location" "Ljava/lang/String;" u2) (n_a : n0 ≤ a) :
    MetFree l (⟨"com/example/llave/llave/io/Answer", "<init>", "(ILjava/lang/Object;Ljava/lang/String;)V"⟩ : MethodName) (head1 (Jvm.Cond.code (⟨"com/example/llave/llave/io/Answer", "<init>", "(ILjava/lang/Object;Ljava/lang/String;)V"⟩ : MethodName) prog_9_method_1_code 4 none :: ws) ({ frames := 2, cells := 0, slots := 0, locals := 24 } : Room)) (fun aG UG => aG = #[(.ref a), (.int i), (.ref o), (.ref q)] ∧ Z.Warmed39 UG.vm ∧ UG.heap = h0) (fun _ _ _ _ _ => True) (fun _ UG oG UG' => ∃ vG LG, oG = .returned vG ∧ Q_rm_ai11 Z w_cache c_cache zc a i o q u0 u1 u2 h0 n0 vG UG'.heap LG ∧ FrameEnd UG oG UG' LG ({ frames := 2, cells := 0, slots := 0, locals := 24 } : Room).cells ({ frames := 2, cells := 0, slots := 0, locals := 24 } : Room).slots) := by
  refine MetFree.of_bodySF (plainFor_of_name pn_3) hisR ?_
  intro pG eG sG mG argsG belowG methG cG s₁ Bd hml0 hP hK
  obtain ⟨rfl, hZ, hh⟩ := hP
  have hx := Bd.exec
  have hby := Bd.bytes
  have hml : cG.maxLocals = 4 := hml0
  have hown : sG.vm.findClass "com/example/llave/llave/io/Answer" = some mG.cls := findClass_of_methodNamed Bd.named
  have hnm := (name_of_methodNamed Bd.named Bd.method).1
  have X0 : Stand pG l eG ({ frames := 2, cells := 0, slots := 0, locals := 24 } : Room) sG mG #[(.ref a), (.int i), (.ref o), (.ref q)] belowG methG cG s₁ [] 0 0 := Stand.of_body Bd
  have e0 : s₁.heap = h0 := by rw [← hh, Bd.state]; rfl
  have N0 := Fr.nil n0
  have K0 := Keep.refl h0 [a]
  obtain ⟨S_high, S_cache, B_cache, S_zc, hzc⟩ := (id hS : St0 Z w_cache c_cache zc )
  refine ostart (g' := (mkF mG 0 #[.val (.ref a), .val (.int i), .val (.ref o), .val (.ref q)] [])) (by first | (simp [entryFrame, mkF, argsToLocals, Value.category]; done) | rfl) ?_
  refine ob s₁ (mkF mG 1 #[.val (.ref a), .val (.int i), .val (.ref o), .val (.ref q)] [(.ref a)]) (fun _ kk => XS.aloadN X0.here hx rfl (hb hby d8_0) rfl rfl kk) ?_
  obtain ⟨_, _, ⟨T1, L1, k1, n1⟩, -, X1, ⟨Lc1, hQ1, l1, y1, z1⟩, st1⟩ := X0.specialBack hx (y := (⟨"java/lang/Record", "<init>", "()V"⟩ : MethodName)) rfl hown (mvT hZ (ow hw 39 rfl)) (mvT hZ (ow hw 40 rfl)) (mvT hZ (ow hw 43 rfl)) (by decide) (backOf (W := 0) (rm_rec l Z a0 hw [] w_cache c_cache zc a h0 n0 O0 hS ) hZ (ow hw 43 rfl) (ow hw 42 rfl) (by decide) (by decide)) (g := (mkF mG 1 #[.val (.ref a), .val (.int i), .val (.ref o), .val (.ref q)] [(.ref a)])) rfl (by rw [hml]; rfl) (Steps.refl _) (a := a) (argsL := []) (rest := []) (lenOf pd_0 rfl) rfl (by show 2 * 0 + _ ≤ _; exact Nat.le_of_eq rfl) (hb hby d8_1) (fun _ _ => ⟨rfl, e0, (by decide : 0 + 0 ≤ _), (by decide : 0 + 0 ≤ _)⟩)
  dsimp only [Pt.U, Pt.locs, Pt.cells, Pt.slots] at X1 l1 y1 z1 st1 hQ1
  subst l1 y1 z1
  obtain ⟨rfl, N1q, e1⟩ := hQ1
  have N1 := Fr.app N0 N1q
  refine ob T1 (mkF mG 4 #[.val (.ref a), .val (.int i), .val (.ref o), .val (.ref q)] []) (fun _ kk => st1.trans kk) ?_
  refine ob T1 (mkF mG 5 #[.val (.ref a), .val (.int i), .val (.ref o), .val (.ref q)] [(.ref a)]) (fun _ kk => XS.aloadN X1.here hx rfl (hb hby d8_4) rfl rfl kk) ?_
  refine ob T1 (mkF mG 6 #[.val (.ref a), .val (.int i), .val (.ref o), .val (.ref q)] [(.int i), (.ref a)]) (fun _ kk => XS.iloadN X1.here hx rfl (hb hby d8_5) rfl kk) ?_
  obtain ⟨T2, h2, X2, e2, W2, st2⟩ := putF X1 hx hZ hown (host := "") (Or.inl (ow hw 45 rfl)) Via.refl e1 F_0 E_a (Or.inr ⟨(ow hw 46 rfl), rfl, hnm⟩) (ow hw 35 rfl) (ty := .int) (by decide) rfl rfl (g := (mkF mG 6 #[.val (.ref a), .val (.int i), .val (.ref o), .val (.ref q)] [(.int i), (.ref a)])) rfl rfl (hb hby d8_6)
  have F2 := F_0.same W2
  have O2 := O0.wr W2 n_a
  have K2 := K0.wr W2 (Or.inl (List.mem_of_getElem? (i := 0) rfl))
  have N2 := Fr.snoc X2 N1 n_a
  refine ob T2 (mkF mG 9 #[.val (.ref a), .val (.int i), .val (.ref o), .val (.ref q)] []) (fun _ kk => st2 _ kk) ?_
  refine ob T2 (mkF mG 10 #[.val (.ref a), .val (.int i), .val (.ref o), .val (.ref q)] [(.ref a)]) (fun _ kk => XS.aloadN X2.here hx rfl (hb hby d8_9) rfl rfl kk) ?_
  refine ob T2 (mkF mG 11 #[.val (.ref a), .val (.int i), .val (.ref o), .val (.ref q)] [(.ref o), (.ref a)]) (fun _ kk => XS.aloadN X2.here hx rfl (hb hby d8_10) rfl rfl kk) ?_
  obtain ⟨T3, h3, X3, e3, W3, st3⟩ := putF X2 hx hZ hown (host := "") (Or.inl (ow hw 47 rfl)) Via.refl e2 (F_1.other W2 (Or.inr (slot_ne (Or.inr (ow hw 48 rfl)) (Or.inr (ow hw 46 rfl)) (by decide) (t := (.object "java/lang/Object")) (t' := .int) (by decide) (by decide)))) (E_a.wr W2) (Or.inr ⟨(ow hw 48 rfl), rfl, hnm⟩) (ow hw 35 rfl) (ty := (.object "java/lang/Object")) (by decide) rfl rfl (g := (mkF mG 11 #[.val (.ref a), .val (.int i), .val (.ref o), .val (.ref q)] [(.ref o), (.ref a)])) rfl rfl (hb hby d8_11)
  have F3 := (F_1.other W2 (Or.inr (slot_ne (Or.inr (ow hw 48 rfl)) (Or.inr (ow hw 46 rfl)) (by decide) (t := (.object "java/lang/Object")) (t' := .int) (by decide) (by decide)))).same W3
  have O3 := O2.wr W3 n_a
  have K3 := K2.wr W3 (Or.inl (List.mem_of_getElem? (i := 0) rfl))
  have N3 := Fr.snoc X3 N2 n_a
  refine ob T3 (mkF mG 14 #[.val (.ref a), .val (.int i), .val (.ref o), .val (.ref q)] []) (fun _ kk => st3 _ kk) ?_
  refine ob T3 (mkF mG 15 #[.val (.ref a), .val (.int i), .val (.ref o), .val (.ref q)] [(.ref a)]) (fun _ kk => XS.aloadN X3.here hx rfl (hb hby d8_14) rfl rfl kk) ?_
  refine ob T3 (mkF mG 16 #[.val (.ref a), .val (.int i), .val (.ref o), .val (.ref q)] [(.ref q), (.ref a)]) (fun _ kk => XS.aloadN X3.here hx rfl (hb hby d8_15) rfl rfl kk) ?_
  obtain ⟨T4, h4, X4, e4, W4, st4⟩ := putF X3 hx hZ hown (host := "") (Or.inl (ow hw 49 rfl)) Via.refl e3 ((F_2.other W2 (Or.inr (slot_ne (Or.inr (ow hw 50 rfl)) (Or.inr (ow hw 46 rfl)) (by decide) (t := (.object "java/lang/String")) (t' := .int) (by decide) (by decide)))).other W3 (Or.inr (slot_ne (Or.inr (ow hw 50 rfl)) (Or.inr (ow hw 48 rfl)) (by decide) (t := (.object "java/lang/String")) (t' := (.object "java/lang/Object")) (by decide) (by decide)))) ((E_a.wr W2).wr W3) (Or.inr ⟨(ow hw 50 rfl), rfl, hnm⟩) (ow hw 35 rfl) (ty := (.object "java/lang/String")) (by decide) rfl rfl (g := (mkF mG 16 #[.val (.ref a), .val (.int i), .val (.ref o), .val (.ref q)] [(.ref q), (.ref a)])) rfl rfl (hb hby d8_16)
  have F4 := ((F_2.other W2 (Or.inr (slot_ne (Or.inr (ow hw 50 rfl)) (Or.inr (ow hw 46 rfl)) (by decide) (t := (.object "java/lang/String")) (t' := .int) (by decide) (by decide)))).other W3 (Or.inr (slot_ne (Or.inr (ow hw 50 rfl)) (Or.inr (ow hw 48 rfl)) (by decide) (t := (.object "java/lang/String")) (t' := (.object "java/lang/Object")) (by decide) (by decide)))).same W4
  have O4 := O3.wr W4 n_a
  have K4 := K3.wr W4 (Or.inl (List.mem_of_getElem? (i := 0) rfl))
  have N4 := Fr.snoc X4 N3 n_a
  refine ob T4 (mkF mG 19 #[.val (.ref a), .val (.int i), .val (.ref o), .val (.ref q)] []) (fun _ kk => st4 _ kk) ?_
  obtain ⟨fs, hr, hrun, hended, hW, hsame⟩ := X4.leave (v := none) (fun _ => rfl)
  refine oout (X4.returnOut hx Bd.returns (hb hby d8_19) hr) hrun hended ⟨_, _, rfl, ?_, ⟨_, rfl⟩, hW, hsame.mono (by decide) (by decide)⟩
  show Q_rm_ai11 Z w_cache c_cache zc a i o q u0 u1 u2 h0 n0 _ T4.heap _
  rw [e4]
  exact ⟨rfl, N4, K4, O4, ((F2.other W3 (Or.inr (slot_ne (Or.inr (ow hw 46 rfl)) (Or.inr (ow hw 48 rfl)) (by decide) (t := .int) (t' := (.object "java/lang/Object")) (by decide) (by decide)))).other W4 (Or.inr (slot_ne (Or.inr (ow hw 46 rfl)) (Or.inr (ow hw 50 rfl)) (by decide) (t := .int) (t' := (.object "java/lang/String")) (by decide) (by decide)))), (F3.other W4 (Or.inr (slot_ne (Or.inr (ow hw 48 rfl)) (Or.inr (ow hw 50 rfl)) (by decide) (t := (.object "java/lang/Object")) (t' := (.object "java/lang/String")) (by decide) (by decide)))), F4⟩

def Q_rm_cr11 (Z : State) (w_cache : Addr) (c_cache : Cell) (zc : Int32) (o : Addr) (q : Addr) (h0 : Heap) (n0 : Nat) (v : Option Value) (h : Heap) (L : List Loc) : Prop := ∃ (b0 : Addr), v = some (.ref b0) ∧ Fr n0 L ∧ Keep h0 h [] ∧ Old Z n0 h ∧ n0 ≤ b0 ∧ h0.size ≤ b0 ∧ Exa Z h b0 "com/example/llave/llave/io/Answer" ∧ Fld Z h b0 "com/example/llave/llave/io/Answer" "status" "I" (.int (201 : Int32)) ∧ Fld Z h b0 "com/example/llave/llave/io/Answer" "body" "Ljava/lang/Object;" (.ref o) ∧ Fld Z h b0 "com/example/llave/llave/io/Answer" "location" "Ljava/lang/String;" (.ref q)
set_option maxRecDepth 65536 in
set_option maxHeartbeats 40000000 in
theorem rm_cr11 (l : Launch) (Z : State) (a0 : Array Value) (hw : ∀ d ∈ tables_1, d.before a0 Z = true) (ws : List Jvm.Cond) (w_cache : Addr) (c_cache : Cell) (zc : Int32) (o : Addr) (q : Addr) (h0 : Heap) (n0 : Nat) (O0 : Old Z n0 h0) (hS : St0 Z w_cache c_cache zc ) :
    MetFree l (⟨"com/example/llave/llave/io/Answer", "created", "(Ljava/lang/Object;Ljava/lang/String;)Lcom/example/llave/llave/io/Answer;"⟩ : MethodName) (head1 (Jvm.Cond.code (⟨"com/example/llave/llave/io/Answer", "created", "(Ljava/lang/Object;Ljava/lang/String;)Lcom/example/llave/llave/io/Answer;"⟩ : MethodName) prog_9_method_3_code 2 (some (.object "com/example/llave/llave/io/Answer")) :: ws) ({ frames := 3, cells := 1, slots := 3, locals := 40 } : Room)) (fun aG UG => aG = #[(.ref o), (.ref q)] ∧ Z.Warmed39 UG.vm ∧ UG.heap = h0) (fun _ _ _ _ _ => True) (fun _ UG oG UG' => ∃ vG LG, oG = .returned vG ∧ Q_rm_cr11 Z w_cache c_cache zc o q h0 n0 vG UG'.heap LG ∧ FrameEnd UG oG UG' LG ({ frames := 3, cells := 1, slots := 3, locals := 40 } : Room).cells ({ frames := 3, cells := 1, slots := 3, locals := 40 } : Room).slots) := by
  refine MetFree.of_bodySF (plainFor_of_name pn_3) hisR ?_
  intro pG eG sG mG argsG belowG methG cG s₁ Bd hml0 hP hK
  obtain ⟨rfl, hZ, hh⟩ := hP
  have hx := Bd.exec
  have hby := Bd.bytes
  have hml : cG.maxLocals = 2 := hml0
  have hown : sG.vm.findClass "com/example/llave/llave/io/Answer" = some mG.cls := findClass_of_methodNamed Bd.named
  have hnm := (name_of_methodNamed Bd.named Bd.method).1
  have X0 : Stand pG l eG ({ frames := 3, cells := 1, slots := 3, locals := 40 } : Room) sG mG #[(.ref o), (.ref q)] belowG methG cG s₁ [] 0 0 := Stand.of_body Bd
  have e0 : s₁.heap = h0 := by rw [← hh, Bd.state]; rfl
  have N0 := Fr.nil n0
  have K0 := Keep.refl h0 []
  obtain ⟨S_high, S_cache, B_cache, S_zc, hzc⟩ := (id hS : St0 Z w_cache c_cache zc )
  refine ostart (g' := (mkF mG 0 #[.val (.ref o), .val (.ref q)] [])) (by first | (simp [entryFrame, mkF, argsToLocals, Value.category]; done) | rfl) ?_
  obtain ⟨T1, h1, X1, e1, E1, A1, D1, _x1, st1⟩ := newO X0 hx hZ hown (ow hw 34 rfl) (ow hw 35 rfl) (ow hw 32 rfl) e0 (g := (mkF mG 0 #[.val (.ref o), .val (.ref q)] [])) rfl (hb hby d7_0) (by decide) (by decide)
  obtain ⟨b1, g1⟩ : ∃ z, z = h0.size := ⟨_, rfl⟩
  rw [← g1] at A1 D1 st1
  have n_b1 : n0 ≤ b1 := Nat.le_trans (on0 O0) (Nat.le_of_eq g1.symm)
  have sz_b1 : h0.size ≤ b1 := Nat.le_trans K0.1 (Nat.le_of_eq g1.symm)
  have O1 := O0.ext E1
  have K1 := K0.ext E1
  have F1_46 : Fld Z h1 b1 "com/example/llave/llave/io/Answer" "status" "I" (.int (0 : Int32)) := D1 (Or.inr (ow hw 46 rfl)) (ty := .int) (by decide)
  have F1_48 : Fld Z h1 b1 "com/example/llave/llave/io/Answer" "body" "Ljava/lang/Object;" .null := D1 (Or.inr (ow hw 48 rfl)) (ty := (.object "java/lang/Object")) (by decide)
  have F1_50 : Fld Z h1 b1 "com/example/llave/llave/io/Answer" "location" "Ljava/lang/String;" .null := D1 (Or.inr (ow hw 50 rfl)) (ty := (.object "java/lang/String")) (by decide)
  refine ob T1 (mkF mG 3 #[.val (.ref o), .val (.ref q)] [(.ref b1)]) (fun _ kk => st1 _ kk) ?_
  refine ob T1 (mkF mG 4 #[.val (.ref o), .val (.ref q)] [(.ref b1), (.ref b1)]) (fun _ kk => XS.dup X1.here hx rfl (hb hby d7_3) rfl rfl kk) ?_
  refine ob T1 (mkF mG 7 #[.val (.ref o), .val (.ref q)] [(.int (201 : Int32)), (.ref b1), (.ref b1)]) (fun _ kk => XS.sipush X1.here hx rfl (hb hby d7_4) kk) ?_
  refine ob T1 (mkF mG 8 #[.val (.ref o), .val (.ref q)] [(.ref o), (.int (201 : Int32)), (.ref b1), (.ref b1)]) (fun _ kk => XS.aloadN X1.here hx rfl (hb hby d7_7) rfl rfl kk) ?_
  refine ob T1 (mkF mG 9 #[.val (.ref o), .val (.ref q)] [(.ref q), (.ref o), (.int (201 : Int32)), (.ref b1), (.ref b1)]) (fun _ kk => XS.aloadN X1.here hx rfl (hb hby d7_8) rfl rfl kk) ?_
  obtain ⟨_, _, ⟨T2, L2, k2, n2⟩, -, X2, ⟨Lc2, hQ2, l2, y2, z2⟩, st2⟩ := X1.specialBack hx (y := (⟨"com/example/llave/llave/io/Answer", "<init>", "(ILjava/lang/Object;Ljava/lang/String;)V"⟩ : MethodName)) rfl hown (mvT hZ (ow hw 36 rfl)) (mvT hZ (ow hw 37 rfl)) (mvT hZ (ow hw 38 rfl)) (by decide) (backOf (W := 1) (rm_ai11 l Z a0 hw [] w_cache c_cache zc b1 (201 : Int32) o q (.int (0 : Int32)) .null .null h1 n0 O1 hS A1 F1_46 F1_48 F1_50 n_b1) hZ (ow hw 38 rfl) (ow hw 32 rfl) (by decide) (by decide)) (g := (mkF mG 9 #[.val (.ref o), .val (.ref q)] [(.ref q), (.ref o), (.int (201 : Int32)), (.ref b1), (.ref b1)])) rfl (by rw [hml]; rfl) (Steps.refl _) (a := b1) (argsL := [(.int (201 : Int32)), (.ref o), (.ref q)]) (rest := [(.ref b1)]) (lenOf pd_2 rfl) rfl (by show 2 * 0 + _ ≤ _; exact Nat.le_of_eq rfl) (hb hby d7_9) (fun _ _ => ⟨rfl, e1, (by decide : 1 + 0 ≤ _), (by decide : 3 + 0 ≤ _)⟩)
  dsimp only [Pt.U, Pt.locs, Pt.cells, Pt.slots] at X2 l2 y2 z2 st2 hQ2
  subst l2 y2 z2
  obtain ⟨h2, e2⟩ : ∃ h, T2.heap = h := ⟨_, rfl⟩
  rw [e2] at hQ2
  obtain ⟨rfl, N2q, K2q, O2, F2_0, F2_1, F2_2⟩ := hQ2
  have N2 := Fr.app N0 N2q
  have K2 := K1.trans K2q (allS (Or.inr sz_b1) all0)
  refine ob T2 (mkF mG 12 #[.val (.ref o), .val (.ref q)] [(.ref b1)]) (fun _ kk => st2.trans kk) ?_
  obtain ⟨fs, hr, hrun, hended, hW, hsame⟩ := X2.leave (v := some (.ref b1)) (fun h => by rw [Bd.returns] at h; cases h)
  refine oout (oretA X2 hx Bd.returns rfl rfl (hb hby d7_12) hr) hrun hended ⟨_, _, rfl, ?_, ⟨_, rfl⟩, hW, hsame.mono (by decide) (by decide)⟩
  show Q_rm_cr11 Z w_cache c_cache zc o q h0 n0 _ T2.heap _
  rw [e2]
  exact ⟨b1, rfl, N2, K2, O2, n_b1, sz_b1, (A1.keep K2q), F2_0, F2_1, F2_2⟩

theorem d10_0 : decode prog_9_method_8_code 0 = .ok (.aload_n 0, 1) := by decide +kernel
theorem d10_1 : decode prog_9_method_8_code 1 = .ok (.getfield 7, 3) := by decide +kernel
theorem d10_4 : decode prog_9_method_8_code 4 = .ok (.ireturn, 1) := by decide +kernel
def Q_rm_status (Z : State) (w_cache : Addr) (c_cache : Cell) (zc : Int32) (a : Addr) (i : Int32) (h0 : Heap) (n0 : Nat) (v : Option Value) (h : Heap) (L : List Loc) : Prop := v = some (.int i) ∧ Fr n0 L ∧ h = h0
set_option maxRecDepth 65536 in
set_option maxHeartbeats 40000000 in
theorem rm_status (l : Launch) (Z : State) (a0 : Array Value) (hw : ∀ d ∈ tables_1, d.before a0 Z = true) (ws : List Jvm.Cond) (w_cache : Addr) (c_cache : Cell) (zc : Int32) (a : Addr) (i : Int32) (h0 : Heap) (n0 : Nat) (O0 : Old Z n0 h0) (hS : St0 Z w_cache c_cache zc ) (F_s : Fld Z h0 a "com/example/llave/llave/io/Answer" "status" "I" (.int i)) :
    MetFree l (⟨"com/example/llave/llave/io/Answer", "status", "()I"⟩ : MethodName) (head1 (Jvm.Cond.code (⟨"com/example/llave/llave/io/Answer", "status", "()I"⟩ : MethodName) prog_9_method_8_code 1 (some .int) :: ws) ({ frames := 0, cells := 0, slots := 0, locals := 0 } : Room)) (fun aG UG => aG = #[(.ref a)] ∧ Z.Warmed39 UG.vm ∧ UG.heap = h0) (fun _ _ _ _ _ => True) (fun _ UG oG UG' => ∃ vG LG, oG = .returned vG ∧ Q_rm_status Z w_cache c_cache zc a i h0 n0 vG UG'.heap LG ∧ FrameEnd UG oG UG' LG ({ frames := 0, cells := 0, slots := 0, locals := 0 } : Room).cells ({ frames := 0, cells := 0, slots := 0, locals := 0 } : Room).slots) := by
  refine MetFree.of_bodySF (plainFor_of_name pn_3) hisR ?_
  intro pG eG sG mG argsG belowG methG cG s₁ Bd hml0 hP hK
  obtain ⟨rfl, hZ, hh⟩ := hP
  have hx := Bd.exec
  have hby := Bd.bytes
  have hml : cG.maxLocals = 1 := hml0
  have hown : sG.vm.findClass "com/example/llave/llave/io/Answer" = some mG.cls := findClass_of_methodNamed Bd.named
  have hnm := (name_of_methodNamed Bd.named Bd.method).1
  have X0 : Stand pG l eG ({ frames := 0, cells := 0, slots := 0, locals := 0 } : Room) sG mG #[(.ref a)] belowG methG cG s₁ [] 0 0 := Stand.of_body Bd
  have e0 : s₁.heap = h0 := by rw [← hh, Bd.state]; rfl
  have N0 := Fr.nil n0
  have K0 := Keep.refl h0 []
  obtain ⟨S_high, S_cache, B_cache, S_zc, hzc⟩ := (id hS : St0 Z w_cache c_cache zc )
  refine ostart (g' := (mkF mG 0 #[.val (.ref a)] [])) (by first | (simp [entryFrame, mkF, argsToLocals, Value.category]; done) | rfl) ?_
  refine ob s₁ (mkF mG 1 #[.val (.ref a)] [(.ref a)]) (fun _ kk => XS.aloadN X0.here hx rfl (hb hby d10_0) rfl rfl kk) ?_
  obtain ⟨T1, X1, e1, st1⟩ := getF X0 hx hZ hown (host := "") (Or.inl (ow hw 45 rfl)) Via.refl e0 F_s (g := (mkF mG 1 #[.val (.ref a)] [(.ref a)])) rfl rfl (hb hby d10_1)
  refine ob T1 (mkF mG 4 #[.val (.ref a)] [(.int i)]) (fun _ kk => st1 _ kk) ?_
  obtain ⟨fs, hr, hrun, hended, hW, hsame⟩ := X1.leave (v := some (.int i)) (fun h => by rw [Bd.returns] at h; cases h)
  refine oout (retOut X1 hx Bd.returns rfl (Or.inl ⟨rfl, Or.inl rfl, _, rfl⟩) (hb hby d10_4) hr) hrun hended ⟨_, _, rfl, ?_, ⟨_, rfl⟩, hW, hsame.mono (by decide) (by decide)⟩
  show Q_rm_status Z w_cache c_cache zc a i h0 n0 _ T1.heap _
  rw [e1]
  exact ⟨rfl, N0, rfl⟩

theorem d11_0 : decode prog_9_method_9_code 0 = .ok (.aload_n 0, 1) := by decide +kernel
theorem d11_1 : decode prog_9_method_9_code 1 = .ok (.getfield 13, 3) := by decide +kernel
theorem d11_4 : decode prog_9_method_9_code 4 = .ok (.areturn, 1) := by decide +kernel
def Q_rm_body0 (Z : State) (w_cache : Addr) (c_cache : Cell) (zc : Int32) (a : Addr) (h0 : Heap) (n0 : Nat) (v : Option Value) (h : Heap) (L : List Loc) : Prop := v = some .null ∧ Fr n0 L ∧ h = h0
set_option maxRecDepth 65536 in
set_option maxHeartbeats 40000000 in
theorem rm_body0 (l : Launch) (Z : State) (a0 : Array Value) (hw : ∀ d ∈ tables_1, d.before a0 Z = true) (ws : List Jvm.Cond) (w_cache : Addr) (c_cache : Cell) (zc : Int32) (a : Addr) (h0 : Heap) (n0 : Nat) (O0 : Old Z n0 h0) (hS : St0 Z w_cache c_cache zc ) (F_s : Fld Z h0 a "com/example/llave/llave/io/Answer" "body" "Ljava/lang/Object;" .null) :
    MetFree l (⟨"com/example/llave/llave/io/Answer", "body", "()Ljava/lang/Object;"⟩ : MethodName) (head1 (Jvm.Cond.code (⟨"com/example/llave/llave/io/Answer", "body", "()Ljava/lang/Object;"⟩ : MethodName) prog_9_method_9_code 1 (some (.object "java/lang/Object")) :: ws) ({ frames := 0, cells := 0, slots := 0, locals := 0 } : Room)) (fun aG UG => aG = #[(.ref a)] ∧ Z.Warmed39 UG.vm ∧ UG.heap = h0) (fun _ _ _ _ _ => True) (fun _ UG oG UG' => ∃ vG LG, oG = .returned vG ∧ Q_rm_body0 Z w_cache c_cache zc a h0 n0 vG UG'.heap LG ∧ FrameEnd UG oG UG' LG ({ frames := 0, cells := 0, slots := 0, locals := 0 } : Room).cells ({ frames := 0, cells := 0, slots := 0, locals := 0 } : Room).slots) := by
  refine MetFree.of_bodySF (plainFor_of_name pn_3) hisR ?_
  intro pG eG sG mG argsG belowG methG cG s₁ Bd hml0 hP hK
  obtain ⟨rfl, hZ, hh⟩ := hP
  have hx := Bd.exec
  have hby := Bd.bytes
  have hml : cG.maxLocals = 1 := hml0
  have hown : sG.vm.findClass "com/example/llave/llave/io/Answer" = some mG.cls := findClass_of_methodNamed Bd.named
  have hnm := (name_of_methodNamed Bd.named Bd.method).1
  have X0 : Stand pG l eG ({ frames := 0, cells := 0, slots := 0, locals := 0 } : Room) sG mG #[(.ref a)] belowG methG cG s₁ [] 0 0 := Stand.of_body Bd
  have e0 : s₁.heap = h0 := by rw [← hh, Bd.state]; rfl
  have N0 := Fr.nil n0
  have K0 := Keep.refl h0 []
  obtain ⟨S_high, S_cache, B_cache, S_zc, hzc⟩ := (id hS : St0 Z w_cache c_cache zc )
  refine ostart (g' := (mkF mG 0 #[.val (.ref a)] [])) (by first | (simp [entryFrame, mkF, argsToLocals, Value.category]; done) | rfl) ?_
  refine ob s₁ (mkF mG 1 #[.val (.ref a)] [(.ref a)]) (fun _ kk => XS.aloadN X0.here hx rfl (hb hby d11_0) rfl rfl kk) ?_
  obtain ⟨T1, X1, e1, st1⟩ := getF X0 hx hZ hown (host := "") (Or.inl (ow hw 47 rfl)) Via.refl e0 F_s (g := (mkF mG 1 #[.val (.ref a)] [(.ref a)])) rfl rfl (hb hby d11_1)
  refine ob T1 (mkF mG 4 #[.val (.ref a)] [.null]) (fun _ kk => st1 _ kk) ?_
  obtain ⟨fs, hr, hrun, hended, hW, hsame⟩ := X1.leave (v := some .null) (fun h => by rw [Bd.returns] at h; cases h)
  refine oout (oretA X1 hx Bd.returns rfl rfl (hb hby d11_4) hr) hrun hended ⟨_, _, rfl, ?_, ⟨_, rfl⟩, hW, hsame.mono (by decide) (by decide)⟩
  show Q_rm_body0 Z w_cache c_cache zc a h0 n0 _ T1.heap _
  rw [e1]
  exact ⟨rfl, N0, rfl⟩

def Q_rm_body1 (Z : State) (w_cache : Addr) (c_cache : Cell) (zc : Int32) (a : Addr) (o : Addr) (h0 : Heap) (n0 : Nat) (v : Option Value) (h : Heap) (L : List Loc) : Prop := v = some (.ref o) ∧ Fr n0 L ∧ h = h0
set_option maxRecDepth 65536 in
set_option maxHeartbeats 40000000 in
theorem rm_body1 (l : Launch) (Z : State) (a0 : Array Value) (hw : ∀ d ∈ tables_1, d.before a0 Z = true) (ws : List Jvm.Cond) (w_cache : Addr) (c_cache : Cell) (zc : Int32) (a : Addr) (o : Addr) (h0 : Heap) (n0 : Nat) (O0 : Old Z n0 h0) (hS : St0 Z w_cache c_cache zc ) (F_s : Fld Z h0 a "com/example/llave/llave/io/Answer" "body" "Ljava/lang/Object;" (.ref o)) :
    MetFree l (⟨"com/example/llave/llave/io/Answer", "body", "()Ljava/lang/Object;"⟩ : MethodName) (head1 (Jvm.Cond.code (⟨"com/example/llave/llave/io/Answer", "body", "()Ljava/lang/Object;"⟩ : MethodName) prog_9_method_9_code 1 (some (.object "java/lang/Object")) :: ws) ({ frames := 0, cells := 0, slots := 0, locals := 0 } : Room)) (fun aG UG => aG = #[(.ref a)] ∧ Z.Warmed39 UG.vm ∧ UG.heap = h0) (fun _ _ _ _ _ => True) (fun _ UG oG UG' => ∃ vG LG, oG = .returned vG ∧ Q_rm_body1 Z w_cache c_cache zc a o h0 n0 vG UG'.heap LG ∧ FrameEnd UG oG UG' LG ({ frames := 0, cells := 0, slots := 0, locals := 0 } : Room).cells ({ frames := 0, cells := 0, slots := 0, locals := 0 } : Room).slots) := by
  refine MetFree.of_bodySF (plainFor_of_name pn_3) hisR ?_
  intro pG eG sG mG argsG belowG methG cG s₁ Bd hml0 hP hK
  obtain ⟨rfl, hZ, hh⟩ := hP
  have hx := Bd.exec
  have hby := Bd.bytes
  have hml : cG.maxLocals = 1 := hml0
  have hown : sG.vm.findClass "com/example/llave/llave/io/Answer" = some mG.cls := findClass_of_methodNamed Bd.named
  have hnm := (name_of_methodNamed Bd.named Bd.method).1
  have X0 : Stand pG l eG ({ frames := 0, cells := 0, slots := 0, locals := 0 } : Room) sG mG #[(.ref a)] belowG methG cG s₁ [] 0 0 := Stand.of_body Bd
  have e0 : s₁.heap = h0 := by rw [← hh, Bd.state]; rfl
  have N0 := Fr.nil n0
  have K0 := Keep.refl h0 []
  obtain ⟨S_high, S_cache, B_cache, S_zc, hzc⟩ := (id hS : St0 Z w_cache c_cache zc )
  refine ostart (g' := (mkF mG 0 #[.val (.ref a)] [])) (by first | (simp [entryFrame, mkF, argsToLocals, Value.category]; done) | rfl) ?_
  refine ob s₁ (mkF mG 1 #[.val (.ref a)] [(.ref a)]) (fun _ kk => XS.aloadN X0.here hx rfl (hb hby d11_0) rfl rfl kk) ?_
  obtain ⟨T1, X1, e1, st1⟩ := getF X0 hx hZ hown (host := "") (Or.inl (ow hw 47 rfl)) Via.refl e0 F_s (g := (mkF mG 1 #[.val (.ref a)] [(.ref a)])) rfl rfl (hb hby d11_1)
  refine ob T1 (mkF mG 4 #[.val (.ref a)] [(.ref o)]) (fun _ kk => st1 _ kk) ?_
  obtain ⟨fs, hr, hrun, hended, hW, hsame⟩ := X1.leave (v := some (.ref o)) (fun h => by rw [Bd.returns] at h; cases h)
  refine oout (oretA X1 hx Bd.returns rfl rfl (hb hby d11_4) hr) hrun hended ⟨_, _, rfl, ?_, ⟨_, rfl⟩, hW, hsame.mono (by decide) (by decide)⟩
  show Q_rm_body1 Z w_cache c_cache zc a o h0 n0 _ T1.heap _
  rw [e1]
  exact ⟨rfl, N0, rfl⟩

theorem d12_0 : decode prog_9_method_10_code 0 = .ok (.aload_n 0, 1) := by decide +kernel
theorem d12_1 : decode prog_9_method_10_code 1 = .ok (.getfield 17, 3) := by decide +kernel
theorem d12_4 : decode prog_9_method_10_code 4 = .ok (.areturn, 1) := by decide +kernel
def Q_rm_location0 (Z : State) (w_cache : Addr) (c_cache : Cell) (zc : Int32) (a : Addr) (h0 : Heap) (n0 : Nat) (v : Option Value) (h : Heap) (L : List Loc) : Prop := v = some .null ∧ Fr n0 L ∧ h = h0
set_option maxRecDepth 65536 in
set_option maxHeartbeats 40000000 in
theorem rm_location0 (l : Launch) (Z : State) (a0 : Array Value) (hw : ∀ d ∈ tables_1, d.before a0 Z = true) (ws : List Jvm.Cond) (w_cache : Addr) (c_cache : Cell) (zc : Int32) (a : Addr) (h0 : Heap) (n0 : Nat) (O0 : Old Z n0 h0) (hS : St0 Z w_cache c_cache zc ) (F_s : Fld Z h0 a "com/example/llave/llave/io/Answer" "location" "Ljava/lang/String;" .null) :
    MetFree l (⟨"com/example/llave/llave/io/Answer", "location", "()Ljava/lang/String;"⟩ : MethodName) (head1 (Jvm.Cond.code (⟨"com/example/llave/llave/io/Answer", "location", "()Ljava/lang/String;"⟩ : MethodName) prog_9_method_10_code 1 (some (.object "java/lang/String")) :: ws) ({ frames := 0, cells := 0, slots := 0, locals := 0 } : Room)) (fun aG UG => aG = #[(.ref a)] ∧ Z.Warmed39 UG.vm ∧ UG.heap = h0) (fun _ _ _ _ _ => True) (fun _ UG oG UG' => ∃ vG LG, oG = .returned vG ∧ Q_rm_location0 Z w_cache c_cache zc a h0 n0 vG UG'.heap LG ∧ FrameEnd UG oG UG' LG ({ frames := 0, cells := 0, slots := 0, locals := 0 } : Room).cells ({ frames := 0, cells := 0, slots := 0, locals := 0 } : Room).slots) := by
  refine MetFree.of_bodySF (plainFor_of_name pn_3) hisR ?_
  intro pG eG sG mG argsG belowG methG cG s₁ Bd hml0 hP hK
  obtain ⟨rfl, hZ, hh⟩ := hP
  have hx := Bd.exec
  have hby := Bd.bytes
  have hml : cG.maxLocals = 1 := hml0
  have hown : sG.vm.findClass "com/example/llave/llave/io/Answer" = some mG.cls := findClass_of_methodNamed Bd.named
  have hnm := (name_of_methodNamed Bd.named Bd.method).1
  have X0 : Stand pG l eG ({ frames := 0, cells := 0, slots := 0, locals := 0 } : Room) sG mG #[(.ref a)] belowG methG cG s₁ [] 0 0 := Stand.of_body Bd
  have e0 : s₁.heap = h0 := by rw [← hh, Bd.state]; rfl
  have N0 := Fr.nil n0
  have K0 := Keep.refl h0 []
  obtain ⟨S_high, S_cache, B_cache, S_zc, hzc⟩ := (id hS : St0 Z w_cache c_cache zc )
  refine ostart (g' := (mkF mG 0 #[.val (.ref a)] [])) (by first | (simp [entryFrame, mkF, argsToLocals, Value.category]; done) | rfl) ?_
  refine ob s₁ (mkF mG 1 #[.val (.ref a)] [(.ref a)]) (fun _ kk => XS.aloadN X0.here hx rfl (hb hby d12_0) rfl rfl kk) ?_
  obtain ⟨T1, X1, e1, st1⟩ := getF X0 hx hZ hown (host := "") (Or.inl (ow hw 49 rfl)) Via.refl e0 F_s (g := (mkF mG 1 #[.val (.ref a)] [(.ref a)])) rfl rfl (hb hby d12_1)
  refine ob T1 (mkF mG 4 #[.val (.ref a)] [.null]) (fun _ kk => st1 _ kk) ?_
  obtain ⟨fs, hr, hrun, hended, hW, hsame⟩ := X1.leave (v := some .null) (fun h => by rw [Bd.returns] at h; cases h)
  refine oout (oretA X1 hx Bd.returns rfl rfl (hb hby d12_4) hr) hrun hended ⟨_, _, rfl, ?_, ⟨_, rfl⟩, hW, hsame.mono (by decide) (by decide)⟩
  show Q_rm_location0 Z w_cache c_cache zc a h0 n0 _ T1.heap _
  rw [e1]
  exact ⟨rfl, N0, rfl⟩

def Q_rm_location1 (Z : State) (w_cache : Addr) (c_cache : Cell) (zc : Int32) (a : Addr) (o : Addr) (h0 : Heap) (n0 : Nat) (v : Option Value) (h : Heap) (L : List Loc) : Prop := v = some (.ref o) ∧ Fr n0 L ∧ h = h0
set_option maxRecDepth 65536 in
set_option maxHeartbeats 40000000 in
theorem rm_location1 (l : Launch) (Z : State) (a0 : Array Value) (hw : ∀ d ∈ tables_1, d.before a0 Z = true) (ws : List Jvm.Cond) (w_cache : Addr) (c_cache : Cell) (zc : Int32) (a : Addr) (o : Addr) (h0 : Heap) (n0 : Nat) (O0 : Old Z n0 h0) (hS : St0 Z w_cache c_cache zc ) (F_s : Fld Z h0 a "com/example/llave/llave/io/Answer" "location" "Ljava/lang/String;" (.ref o)) :
    MetFree l (⟨"com/example/llave/llave/io/Answer", "location", "()Ljava/lang/String;"⟩ : MethodName) (head1 (Jvm.Cond.code (⟨"com/example/llave/llave/io/Answer", "location", "()Ljava/lang/String;"⟩ : MethodName) prog_9_method_10_code 1 (some (.object "java/lang/String")) :: ws) ({ frames := 0, cells := 0, slots := 0, locals := 0 } : Room)) (fun aG UG => aG = #[(.ref a)] ∧ Z.Warmed39 UG.vm ∧ UG.heap = h0) (fun _ _ _ _ _ => True) (fun _ UG oG UG' => ∃ vG LG, oG = .returned vG ∧ Q_rm_location1 Z w_cache c_cache zc a o h0 n0 vG UG'.heap LG ∧ FrameEnd UG oG UG' LG ({ frames := 0, cells := 0, slots := 0, locals := 0 } : Room).cells ({ frames := 0, cells := 0, slots := 0, locals := 0 } : Room).slots) := by
  refine MetFree.of_bodySF (plainFor_of_name pn_3) hisR ?_
  intro pG eG sG mG argsG belowG methG cG s₁ Bd hml0 hP hK
  obtain ⟨rfl, hZ, hh⟩ := hP
  have hx := Bd.exec
  have hby := Bd.bytes
  have hml : cG.maxLocals = 1 := hml0
  have hown : sG.vm.findClass "com/example/llave/llave/io/Answer" = some mG.cls := findClass_of_methodNamed Bd.named
  have hnm := (name_of_methodNamed Bd.named Bd.method).1
  have X0 : Stand pG l eG ({ frames := 0, cells := 0, slots := 0, locals := 0 } : Room) sG mG #[(.ref a)] belowG methG cG s₁ [] 0 0 := Stand.of_body Bd
  have e0 : s₁.heap = h0 := by rw [← hh, Bd.state]; rfl
  have N0 := Fr.nil n0
  have K0 := Keep.refl h0 []
  obtain ⟨S_high, S_cache, B_cache, S_zc, hzc⟩ := (id hS : St0 Z w_cache c_cache zc )
  refine ostart (g' := (mkF mG 0 #[.val (.ref a)] [])) (by first | (simp [entryFrame, mkF, argsToLocals, Value.category]; done) | rfl) ?_
  refine ob s₁ (mkF mG 1 #[.val (.ref a)] [(.ref a)]) (fun _ kk => XS.aloadN X0.here hx rfl (hb hby d12_0) rfl rfl kk) ?_
  obtain ⟨T1, X1, e1, st1⟩ := getF X0 hx hZ hown (host := "") (Or.inl (ow hw 49 rfl)) Via.refl e0 F_s (g := (mkF mG 1 #[.val (.ref a)] [(.ref a)])) rfl rfl (hb hby d12_1)
  refine ob T1 (mkF mG 4 #[.val (.ref a)] [(.ref o)]) (fun _ kk => st1 _ kk) ?_
  obtain ⟨fs, hr, hrun, hended, hW, hsame⟩ := X1.leave (v := some (.ref o)) (fun h => by rw [Bd.returns] at h; cases h)
  refine oout (oretA X1 hx Bd.returns rfl rfl (hb hby d12_4) hr) hrun hended ⟨_, _, rfl, ?_, ⟨_, rfl⟩, hW, hsame.mono (by decide) (by decide)⟩
  show Q_rm_location1 Z w_cache c_cache zc a o h0 n0 _ T1.heap _
  rw [e1]
  exact ⟨rfl, N0, rfl⟩

theorem pd_3 : parseMethodDescriptor "([C)V" = some ⟨[(.array .char)], none⟩ := by decide +kernel
theorem pd_4 : parseMethodDescriptor "(Ljava/lang/Object;Ljava/lang/String;)Lcom/example/llave/llave/io/Answer;" = some ⟨[(.object "java/lang/Object"), (.object "java/lang/String")], some (.object "com/example/llave/llave/io/Answer")⟩ := by decide +kernel
theorem pd_5 : parseMethodDescriptor "()I" = some ⟨[], some .int⟩ := by decide +kernel
theorem pd_6 : parseMethodDescriptor "()Ljava/lang/Object;" = some ⟨[], some (.object "java/lang/Object")⟩ := by decide +kernel
theorem pd_7 : parseMethodDescriptor "()Ljava/lang/String;" = some ⟨[], some (.object "java/lang/String")⟩ := by decide +kernel
theorem pd_8 : parseMethodDescriptor "(I)Ljava/lang/Integer;" = some ⟨[.int], some (.object "java/lang/Integer")⟩ := by decide +kernel
def Q_rm0 (Z : State) (w_cache : Addr) (c_cache : Cell) (zc : Int32) (i0 : Int32) (i1 : Int32) (i2 : Int32) (i3 : Int32) (h0 : Heap) (n0 : Nat) (v : Option Value) (h : Heap) (L : List Loc) : Prop := v = some (.int (1 : Int32)) ∧ Fr n0 L
set_option maxRecDepth 65536 in
set_option maxHeartbeats 40000000 in
theorem rm0 (l : Launch) (Z : State) (a0 : Array Value) (hw : ∀ d ∈ tables_1, d.before a0 Z = true) (ws : List Jvm.Cond) (w_cache : Addr) (c_cache : Cell) (zc : Int32) (i0 : Int32) (i1 : Int32) (i2 : Int32) (i3 : Int32) (h0 : Heap) (n0 : Nat) (O0 : Old Z n0 h0) (hS : St0 Z w_cache c_cache zc ) :
    MetFree l x (head1 (Jvm.Cond.code x code maxLocals ret :: ws) room_1) (fun aG UG => aG = #[(.int i0), (.int i1), (.int i2), (.int i3)] ∧ Z.Warmed39 UG.vm ∧ UG.heap = h0) (fun _ _ _ _ _ => True) (fun _ UG oG UG' => ∃ vG LG, oG = .returned vG ∧ Q_rm0 Z w_cache c_cache zc i0 i1 i2 i3 h0 n0 vG UG'.heap LG ∧ FrameEnd UG oG UG' LG 24 128) := by
  refine MetFree.of_bodySF (plainFor_of_name pn_4) hisR ?_
  intro pG eG sG mG argsG belowG methG cG s₁ Bd hml0 hP hK
  obtain ⟨rfl, hZ, hh⟩ := hP
  have hx := Bd.exec
  have hby := Bd.bytes
  have hml : cG.maxLocals = 10 := hml0
  have hown : sG.vm.findClass "com/example/llave/llave/io/AnswerCreatedPinLaw" = some mG.cls := findClass_of_methodNamed Bd.named
  have hnm := (name_of_methodNamed Bd.named Bd.method).1
  have X0 : Stand pG l eG room_1 sG mG #[(.int i0), (.int i1), (.int i2), (.int i3)] belowG methG cG s₁ [] 0 0 := Stand.of_body Bd
  have e0 : s₁.heap = h0 := by rw [← hh, Bd.state]; rfl
  have N0 := Fr.nil n0
  have K0 := Keep.refl h0 []
  obtain ⟨S_high, S_cache, B_cache, S_zc, hzc⟩ := (id hS : St0 Z w_cache c_cache zc )
  refine ostart (g' := (mkF mG 0 #[.val (.int i0), .val (.int i1), .val (.int i2), .val (.int i3), .unset, .unset, .unset, .unset, .unset, .unset] [])) (by first | (simp [entryFrame, mkF, argsToLocals, Value.category, maxLocals]; done) | rfl) ?_
  refine ob s₁ (mkF mG 1 #[.val (.int i0), .val (.int i1), .val (.int i2), .val (.int i3), .unset, .unset, .unset, .unset, .unset, .unset] [(.int (2 : Int32))]) (fun _ kk => XS.iconst X0.here hx rfl (hb hby at_0) kk) ?_
  obtain ⟨T1, h1, k1, X1, e1, E1, A1, st1⟩ := newP X0 hx hZ (ow hw 0 rfl) e0 (g := (mkF mG 1 #[.val (.int i0), .val (.int i1), .val (.int i2), .val (.int i3), .unset, .unset, .unset, .unset, .unset, .unset] [(.int (2 : Int32))])) rfl (hb hby at_1) rfl (by decide) (cap := 2) (by decide) (by decide) (by decide) (by decide)
  obtain ⟨b1, g1⟩ : ∃ z, z = h0.size := ⟨_, rfl⟩
  rw [← g1] at A1 st1
  have n_b1 : n0 ≤ b1 := Nat.le_trans (on0 O0) (Nat.le_of_eq g1.symm)
  have sz_b1 : h0.size ≤ b1 := Nat.le_trans K0.1 (Nat.le_of_eq g1.symm)
  have O1 := O0.ext E1
  have K1 := K0.ext E1
  have V1 : Arv Z h1 b1 k1 .char (2 : Int32) [(.int (0 : Int32)), (.int (0 : Int32))] (.int (0 : Int32)) := (Arv.new A1 (by decide)).pad (pad_rep [] (.int (0 : Int32)) 2)
  refine ob T1 (mkF mG 3 #[.val (.int i0), .val (.int i1), .val (.int i2), .val (.int i3), .unset, .unset, .unset, .unset, .unset, .unset] [(.ref b1)]) (fun _ kk => st1 _ kk) ?_
  refine ob T1 (mkF mG 4 #[.val (.int i0), .val (.int i1), .val (.int i2), .val (.int i3), .unset, .unset, .unset, .unset, .unset, .unset] [(.ref b1), (.ref b1)]) (fun _ kk => XS.dup X1.here hx rfl (hb hby at_3) rfl rfl kk) ?_
  refine ob T1 (mkF mG 5 #[.val (.int i0), .val (.int i1), .val (.int i2), .val (.int i3), .unset, .unset, .unset, .unset, .unset, .unset] [(.int (0 : Int32)), (.ref b1), (.ref b1)]) (fun _ kk => XS.iconst X1.here hx rfl (hb hby at_4) kk) ?_
  refine ob T1 (mkF mG 6 #[.val (.int i0), .val (.int i1), .val (.int i2), .val (.int i3), .unset, .unset, .unset, .unset, .unset, .unset] [(.int i1), (.int (0 : Int32)), (.ref b1), (.ref b1)]) (fun _ kk => XS.iloadN X1.here hx rfl (hb hby at_5) rfl kk) ?_
  refine ob T1 (mkF mG 9 #[.val (.int i0), .val (.int i1), .val (.int i2), .val (.int i3), .unset, .unset, .unset, .unset, .unset, .unset] [(.int (255 : Int32)), (.int i1), (.int (0 : Int32)), (.ref b1), (.ref b1)]) (fun _ kk => XS.sipush X1.here hx rfl (hb hby at_6) kk) ?_
  refine ob T1 (mkF mG 10 #[.val (.int i0), .val (.int i1), .val (.int i2), .val (.int i3), .unset, .unset, .unset, .unset, .unset, .unset] [(.int (i1 &&& (255 : Int32))), (.int (0 : Int32)), (.ref b1), (.ref b1)]) (fun _ kk => XS.iand X1.here hx rfl (hb hby at_9) rfl kk) ?_
  refine ob T1 (mkF mG 11 #[.val (.int i0), .val (.int i1), .val (.int i2), .val (.int i3), .unset, .unset, .unset, .unset, .unset, .unset] [(.int ((i1 &&& (255 : Int32)).toUInt32.toUInt16.toUInt32.toInt32)), (.int (0 : Int32)), (.ref b1), (.ref b1)]) (fun _ kk => XS.i2c X1.here hx rfl (hb hby at_10) rfl kk) ?_
  obtain ⟨cl2, Ar2, q2, S2, N2a, H2, G2⟩ := id V1
  have hin2 : ¬ ((0 : Int32) < 0 ∨ cl2.slots.size ≤ ((0 : Int32)).toNatClampNeg) := inb_of S2 ⟨by decide, by decide⟩
  obtain ⟨T2, h2, X2, e2, W2, st2⟩ := stC X1 hx hZ e1 Ar2 (j := (0 : Int32)) hin2 (g := (mkF mG 11 #[.val (.int i0), .val (.int i1), .val (.int i2), .val (.int i3), .unset, .unset, .unset, .unset, .unset, .unset] [(.int ((i1 &&& (255 : Int32)).toUInt32.toUInt16.toUInt32.toInt32)), (.int (0 : Int32)), (.ref b1), (.ref b1)])) rfl rfl (hb hby at_11)
  have V2 : Arv Z h2 b1 k1 .char (2 : Int32) [(.int (nar .char ((i1 &&& (255 : Int32)).toUInt32.toUInt16.toUInt32.toInt32))), (.int (0 : Int32))] (.int (0 : Int32)) := Arv.set Ar2 q2 S2 N2a H2 G2 (fits_nar_char _) W2 0 rfl (Nat.le_of_ble_eq_true rfl)
  have O2 := O1.wr W2 n_b1
  have K2 := K1.wr W2 (Or.inr sz_b1)
  have N2 := Fr.snoc X2 N0 n_b1
  refine ob T2 (mkF mG 12 #[.val (.int i0), .val (.int i1), .val (.int i2), .val (.int i3), .unset, .unset, .unset, .unset, .unset, .unset] [(.ref b1)]) (fun _ kk => st2 _ kk) ?_
  refine ob T2 (mkF mG 13 #[.val (.int i0), .val (.int i1), .val (.int i2), .val (.int i3), .unset, .unset, .unset, .unset, .unset, .unset] [(.ref b1), (.ref b1)]) (fun _ kk => XS.dup X2.here hx rfl (hb hby at_12) rfl rfl kk) ?_
  refine ob T2 (mkF mG 14 #[.val (.int i0), .val (.int i1), .val (.int i2), .val (.int i3), .unset, .unset, .unset, .unset, .unset, .unset] [(.int (1 : Int32)), (.ref b1), (.ref b1)]) (fun _ kk => XS.iconst X2.here hx rfl (hb hby at_13) kk) ?_
  refine ob T2 (mkF mG 15 #[.val (.int i0), .val (.int i1), .val (.int i2), .val (.int i3), .unset, .unset, .unset, .unset, .unset, .unset] [(.int i2), (.int (1 : Int32)), (.ref b1), (.ref b1)]) (fun _ kk => XS.iloadN X2.here hx rfl (hb hby at_14) rfl kk) ?_
  refine ob T2 (mkF mG 18 #[.val (.int i0), .val (.int i1), .val (.int i2), .val (.int i3), .unset, .unset, .unset, .unset, .unset, .unset] [(.int (255 : Int32)), (.int i2), (.int (1 : Int32)), (.ref b1), (.ref b1)]) (fun _ kk => XS.sipush X2.here hx rfl (hb hby at_15) kk) ?_
  refine ob T2 (mkF mG 19 #[.val (.int i0), .val (.int i1), .val (.int i2), .val (.int i3), .unset, .unset, .unset, .unset, .unset, .unset] [(.int (i2 &&& (255 : Int32))), (.int (1 : Int32)), (.ref b1), (.ref b1)]) (fun _ kk => XS.iand X2.here hx rfl (hb hby at_18) rfl kk) ?_
  refine ob T2 (mkF mG 20 #[.val (.int i0), .val (.int i1), .val (.int i2), .val (.int i3), .unset, .unset, .unset, .unset, .unset, .unset] [(.int ((i2 &&& (255 : Int32)).toUInt32.toUInt16.toUInt32.toInt32)), (.int (1 : Int32)), (.ref b1), (.ref b1)]) (fun _ kk => XS.i2c X2.here hx rfl (hb hby at_19) rfl kk) ?_
  obtain ⟨cl3, Ar3, q3, S3, N3a, H3, G3⟩ := id V2
  have hin3 : ¬ ((1 : Int32) < 0 ∨ cl3.slots.size ≤ ((1 : Int32)).toNatClampNeg) := inb_of S3 ⟨by decide, by decide⟩
  obtain ⟨T3, h3, X3, e3, W3, st3⟩ := stC X2 hx hZ e2 Ar3 (j := (1 : Int32)) hin3 (g := (mkF mG 20 #[.val (.int i0), .val (.int i1), .val (.int i2), .val (.int i3), .unset, .unset, .unset, .unset, .unset, .unset] [(.int ((i2 &&& (255 : Int32)).toUInt32.toUInt16.toUInt32.toInt32)), (.int (1 : Int32)), (.ref b1), (.ref b1)])) rfl rfl (hb hby at_20)
  have V3 : Arv Z h3 b1 k1 .char (2 : Int32) [(.int (nar .char ((i1 &&& (255 : Int32)).toUInt32.toUInt16.toUInt32.toInt32))), (.int (nar .char ((i2 &&& (255 : Int32)).toUInt32.toUInt16.toUInt32.toInt32)))] (.int (0 : Int32)) := Arv.set Ar3 q3 S3 N3a H3 G3 (fits_nar_char _) W3 1 rfl (Nat.le_of_ble_eq_true rfl)
  have O3 := O2.wr W3 n_b1
  have K3 := K2.wr W3 (Or.inr sz_b1)
  have N3 := Fr.snoc X3 N2 n_b1
  refine ob T3 (mkF mG 21 #[.val (.int i0), .val (.int i1), .val (.int i2), .val (.int i3), .unset, .unset, .unset, .unset, .unset, .unset] [(.ref b1)]) (fun _ kk => st3 _ kk) ?_
  refine ob T3 (mkF mG 23 #[.val (.int i0), .val (.int i1), .val (.int i2), .val (.int i3), .val (.ref b1), .unset, .unset, .unset, .unset, .unset] []) (fun _ kk => XS.astore X3.here hx rfl (hb hby at_21) rfl rfl (l' := #[.val (.int i0), .val (.int i1), .val (.int i2), .val (.int i3), .val (.ref b1), .unset, .unset, .unset, .unset, .unset]) rfl kk) ?_
  obtain ⟨T4, h4, X4, e4, E4, A4, D4, _x4, st4⟩ := newO X3 hx hZ hown (ow hw 1 rfl) (ow hw 2 rfl) (ow hw 3 rfl) e3 (g := (mkF mG 23 #[.val (.int i0), .val (.int i1), .val (.int i2), .val (.int i3), .val (.ref b1), .unset, .unset, .unset, .unset, .unset] [])) rfl (hb hby at_23) (by decide) (by decide)
  obtain ⟨b4, g4⟩ : ∃ z, z = h3.size := ⟨_, rfl⟩
  rw [← g4] at A4 D4 st4
  have n_b4 : n0 ≤ b4 := Nat.le_trans (on0 O3) (Nat.le_of_eq g4.symm)
  have sz_b4 : h0.size ≤ b4 := Nat.le_trans K3.1 (Nat.le_of_eq g4.symm)
  have ne_b1_b4 : b1 ≠ b4 := Nat.ne_of_lt (Nat.lt_of_lt_of_le V3.lt (Nat.le_of_eq g4.symm))
  have O4 := O3.ext E4
  have K4 := K3.ext E4
  have F4_27 : Fld Z h4 b4 "java/lang/String" "coder" "B" (.int (0 : Int32)) := D4 (Or.inr (ow hw 27 rfl)) (ty := .byte) (by decide)
  have F4_29 : Fld Z h4 b4 "java/lang/String" "value" "[B" .null := D4 (Or.inr (ow hw 29 rfl)) (ty := (.array .byte)) (by decide)
  refine ob T4 (mkF mG 26 #[.val (.int i0), .val (.int i1), .val (.int i2), .val (.int i3), .val (.ref b1), .unset, .unset, .unset, .unset, .unset] [(.ref b4)]) (fun _ kk => st4 _ kk) ?_
  refine ob T4 (mkF mG 27 #[.val (.int i0), .val (.int i1), .val (.int i2), .val (.int i3), .val (.ref b1), .unset, .unset, .unset, .unset, .unset] [(.ref b4), (.ref b4)]) (fun _ kk => XS.dup X4.here hx rfl (hb hby at_26) rfl rfl kk) ?_
  refine ob T4 (mkF mG 29 #[.val (.int i0), .val (.int i1), .val (.int i2), .val (.int i3), .val (.ref b1), .unset, .unset, .unset, .unset, .unset] [(.ref b1), (.ref b4), (.ref b4)]) (fun _ kk => XS.aload X4.here hx rfl (hb hby at_27) rfl rfl kk) ?_
  have hp6 : ∀ c ∈ ([(nar .char ((i1 &&& (255 : Int32)).toUInt32.toUInt16.toUInt32.toInt32)), (nar .char ((i2 &&& (255 : Int32)).toUInt32.toUInt16.toUInt32.toInt32))] : List Int32), ¬ c < 0 ∧ ¬ (255 : Int32) < c := by
    intro c hc
    simp only [List.mem_cons, List.not_mem_nil, or_false] at hc
    rcases hc with rfl | rfl
    · exact (own_and255 i1)
    · exact (own_and255 i2)
  have hws : ∀ d ∈ StrChars.Road.words, d.before a0 Z = true := fun d hd => hw d (own_words d hd)
  obtain ⟨_, _, ⟨T5, L5, k5, n5⟩, -, X5, ⟨Lc5, hQ5, l5, y5, z5⟩, st5⟩ := X4.specialBack hx (y := (⟨"java/lang/String", "<init>", "([C)V"⟩ : MethodName)) rfl hown (mvT hZ (ow hw 4 rfl)) (mvT hZ (ow hw 5 rfl)) (mvT hZ (ow hw 6 rfl)) (by decide) (StrChars.Road.backV (W := 1) hZ hws (kI := 4) (ow hw 2 rfl) (cs := ([(nar .char ((i1 &&& (255 : Int32)).toUInt32.toUInt16.toUInt32.toInt32)), (nar .char ((i2 &&& (255 : Int32)).toUInt32.toUInt16.toUInt32.toInt32))] : List Int32)) (bs := ([(nar .char ((i1 &&& (255 : Int32)).toUInt32.toUInt16.toUInt32.toInt32)), (nar .char ((i2 &&& (255 : Int32)).toUInt32.toUInt16.toUInt32.toInt32))] : List Int32).map (fun c => c.toInt8.toInt32)) (n := 2) n_b4 (on0 O4) A4 F4_29 F4_27 (V3.ext E4) (S_zc.ext O4.2) hzc rfl rfl (by decide) (by decide) hp6 rfl (by decide) (by decide)) (g := (mkF mG 29 #[.val (.int i0), .val (.int i1), .val (.int i2), .val (.int i3), .val (.ref b1), .unset, .unset, .unset, .unset, .unset] [(.ref b1), (.ref b4), (.ref b4)])) rfl (by rw [hml]; rfl) (Steps.refl _) (a := b4) (argsL := [(.ref b1)]) (rest := [(.ref b4)]) (lenOf pd_3 rfl) rfl (by show 2 * 0 + _ ≤ _; exact Nat.le_of_eq rfl) (hb hby at_29) (fun _ _ => ⟨rfl, e4, (by decide : 2 + 1 ≤ _), (by decide : 6 + 2 ≤ _)⟩)
  dsimp only [Pt.U, Pt.locs, Pt.cells, Pt.slots] at X5 l5 y5 z5 st5 hQ5
  subst l5 y5 z5
  obtain ⟨h5, e5⟩ : ∃ h, T5.heap = h := ⟨_, rfl⟩
  rw [e5] at hQ5
  obtain ⟨rfl, N5q, K5q, A5, C5, t5, kb5, n_t5, z_t5, nt5, V5, B5⟩ := hQ5
  have hcd5 : StrChars.Road.CodA ([(nar .char ((i1 &&& (255 : Int32)).toUInt32.toUInt16.toUInt32.toInt32)), (nar .char ((i2 &&& (255 : Int32)).toUInt32.toUInt16.toUInt32.toInt32))] : List Int32) 0 (2 : Int32) ((([(nar .char ((i1 &&& (255 : Int32)).toUInt32.toUInt16.toUInt32.toInt32)), (nar .char ((i2 &&& (255 : Int32)).toUInt32.toUInt16.toUInt32.toInt32))] : List Int32).map (fun c => c.toInt8.toInt32)).map Value.int) := StrChars.Road.codOf (n := 2) rfl (fun c hc => (hp6 c hc).2)
  have N5 := Fr.app N3 N5q
  have sz_t5 : h0.size ≤ t5 := Nat.le_trans K4.1 z_t5
  have ne_b1_t5 : b1 ≠ t5 := Nat.ne_of_lt (Nat.lt_of_lt_of_le (V3.ext E4).lt z_t5)
  have ne_b4_t5 : b4 ≠ t5 := Nat.ne_of_lt (Nat.lt_of_lt_of_le A4.lt z_t5)
  have ne_b4_t5x : b4 ≠ t5 := fun q => nt5 q.symm
  have O5 := O4.keep K5q (allS n_b4 all0)
  have K5 := K4.trans K5q (allS (Or.inr sz_b4) all0)
  refine ob T5 (mkF mG 32 #[.val (.int i0), .val (.int i1), .val (.int i2), .val (.int i3), .val (.ref b1), .unset, .unset, .unset, .unset, .unset] [(.ref b4)]) (fun _ kk => st5.trans kk) ?_
  refine ob T5 (mkF mG 34 #[.val (.int i0), .val (.int i1), .val (.int i2), .val (.int i3), .val (.ref b1), .val (.ref b4), .unset, .unset, .unset, .unset] []) (fun _ kk => XS.astore X5.here hx rfl (hb hby at_32) rfl rfl (l' := #[.val (.int i0), .val (.int i1), .val (.int i2), .val (.int i3), .val (.ref b1), .val (.ref b4), .unset, .unset, .unset, .unset]) rfl kk) ?_
  refine ob T5 (mkF mG 35 #[.val (.int i0), .val (.int i1), .val (.int i2), .val (.int i3), .val (.ref b1), .val (.ref b4), .unset, .unset, .unset, .unset] [(.int i0)]) (fun _ kk => XS.iloadN X5.here hx rfl (hb hby at_34) rfl kk) ?_
  refine ob T5 (mkF mG 36 #[.val (.int i0), .val (.int i1), .val (.int i2), .val (.int i3), .val (.ref b1), .val (.ref b4), .unset, .unset, .unset, .unset] [(.int (3 : Int32)), (.int i0)]) (fun _ kk => XS.iconst X5.here hx rfl (hb hby at_35) kk) ?_
  refine ob T5 (mkF mG 37 #[.val (.int i0), .val (.int i1), .val (.int i2), .val (.int i3), .val (.ref b1), .val (.ref b4), .unset, .unset, .unset, .unset] [(.int (i0 &&& (3 : Int32)))]) (fun _ kk => XS.iand X5.here hx rfl (hb hby at_36) rfl kk) ?_
  refine ob T5 (mkF mG 39 #[.val (.int i0), .val (.int i1), .val (.int i2), .val (.int i3), .val (.ref b1), .val (.ref b4), .val (.int (i0 &&& (3 : Int32))), .unset, .unset, .unset] []) (fun _ kk => XS.istore X5.here hx rfl (hb hby at_37) rfl (l' := #[.val (.int i0), .val (.int i1), .val (.int i2), .val (.int i3), .val (.ref b1), .val (.ref b4), .val (.int (i0 &&& (3 : Int32))), .unset, .unset, .unset]) rfl kk) ?_
  refine ob T5 (mkF mG 41 #[.val (.int i0), .val (.int i1), .val (.int i2), .val (.int i3), .val (.ref b1), .val (.ref b4), .val (.int (i0 &&& (3 : Int32))), .unset, .unset, .unset] [(.int (i0 &&& (3 : Int32)))]) (fun _ kk => XS.iload X5.here hx rfl (hb hby at_39) rfl kk) ?_
  by_cases hc7 : (i0 &&& (3 : Int32)) = (0 : Int32)
  · skip
    refine ob T5 (mkF mG 44 #[.val (.int i0), .val (.int i1), .val (.int i2), .val (.int i3), .val (.ref b1), .val (.ref b4), .val (.int (i0 &&& (3 : Int32))), .unset, .unset, .unset] []) (fun _ kk => XS.ifNo X5.here hx rfl (hb hby at_41) rfl ((if0 _ _).trans (teq hc7).2) kk) ?_
    refine ob T5 (mkF mG 45 #[.val (.int i0), .val (.int i1), .val (.int i2), .val (.int i3), .val (.ref b1), .val (.ref b4), .val (.int (i0 &&& (3 : Int32))), .unset, .unset, .unset] [.null]) (fun _ kk => XS.aconstNull X5.here hx rfl (hb hby at_44) kk) ?_
    refine ob T5 (mkF mG 47 #[.val (.int i0), .val (.int i1), .val (.int i2), .val (.int i3), .val (.ref b1), .val (.ref b4), .val (.int (i0 &&& (3 : Int32))), .val .null, .unset, .unset] []) (fun _ kk => XS.astore X5.here hx rfl (hb hby at_45) rfl rfl (l' := #[.val (.int i0), .val (.int i1), .val (.int i2), .val (.int i3), .val (.ref b1), .val (.ref b4), .val (.int (i0 &&& (3 : Int32))), .val .null, .unset, .unset]) rfl kk) ?_
    refine ob T5 (mkF mG 86 #[.val (.int i0), .val (.int i1), .val (.int i2), .val (.int i3), .val (.ref b1), .val (.ref b4), .val (.int (i0 &&& (3 : Int32))), .val .null, .unset, .unset] []) (fun _ kk => XS.goto X5.here hx rfl (pc0 := 47) (pc' := 86) rfl (hb hby at_47) (by decide) (by decide) kk) ?_
    refine ob T5 (mkF mG 87 #[.val (.int i0), .val (.int i1), .val (.int i2), .val (.int i3), .val (.ref b1), .val (.ref b4), .val (.int (i0 &&& (3 : Int32))), .val .null, .unset, .unset] [(.int i0)]) (fun _ kk => XS.iloadN X5.here hx rfl (hb hby at_86) rfl kk) ?_
    refine ob T5 (mkF mG 88 #[.val (.int i0), .val (.int i1), .val (.int i2), .val (.int i3), .val (.ref b1), .val (.ref b4), .val (.int (i0 &&& (3 : Int32))), .val .null, .unset, .unset] [(.int (2 : Int32)), (.int i0)]) (fun _ kk => XS.iconst X5.here hx rfl (hb hby at_87) kk) ?_
    refine ob T5 (mkF mG 89 #[.val (.int i0), .val (.int i1), .val (.int i2), .val (.int i3), .val (.ref b1), .val (.ref b4), .val (.int (i0 &&& (3 : Int32))), .val .null, .unset, .unset] [(.int (i0 >>> ((2 : Int32) &&& 31)))]) (fun _ kk => XS.ishr X5.here hx rfl (hb hby at_88) rfl kk) ?_
    refine ob T5 (mkF mG 90 #[.val (.int i0), .val (.int i1), .val (.int i2), .val (.int i3), .val (.ref b1), .val (.ref b4), .val (.int (i0 &&& (3 : Int32))), .val .null, .unset, .unset] [(.int (1 : Int32)), (.int (i0 >>> ((2 : Int32) &&& 31)))]) (fun _ kk => XS.iconst X5.here hx rfl (hb hby at_89) kk) ?_
    refine ob T5 (mkF mG 91 #[.val (.int i0), .val (.int i1), .val (.int i2), .val (.int i3), .val (.ref b1), .val (.ref b4), .val (.int (i0 &&& (3 : Int32))), .val .null, .unset, .unset] [(.int ((i0 >>> ((2 : Int32) &&& 31)) &&& (1 : Int32)))]) (fun _ kk => XS.iand X5.here hx rfl (hb hby at_90) rfl kk) ?_
    by_cases hc8 : ((i0 >>> ((2 : Int32) &&& 31)) &&& (1 : Int32)) = (0 : Int32)
    · skip
      refine ob T5 (mkF mG 99 #[.val (.int i0), .val (.int i1), .val (.int i2), .val (.int i3), .val (.ref b1), .val (.ref b4), .val (.int (i0 &&& (3 : Int32))), .val .null, .unset, .unset] []) (fun _ kk => XS.ifYes X5.here hx rfl (pc0 := 91) (pc' := 99) rfl (hb hby at_91) rfl ((if0 _ _).trans (teq hc8).1) (by decide) (by decide) kk) ?_
      refine ob T5 (mkF mG 100 #[.val (.int i0), .val (.int i1), .val (.int i2), .val (.int i3), .val (.ref b1), .val (.ref b4), .val (.int (i0 &&& (3 : Int32))), .val .null, .unset, .unset] [.null]) (fun _ kk => XS.aconstNull X5.here hx rfl (hb hby at_99) kk) ?_
      refine ob T5 (mkF mG 102 #[.val (.int i0), .val (.int i1), .val (.int i2), .val (.int i3), .val (.ref b1), .val (.ref b4), .val (.int (i0 &&& (3 : Int32))), .val .null, .val .null, .unset] []) (fun _ kk => XS.astore X5.here hx rfl (hb hby at_100) rfl rfl (l' := #[.val (.int i0), .val (.int i1), .val (.int i2), .val (.int i3), .val (.ref b1), .val (.ref b4), .val (.int (i0 &&& (3 : Int32))), .val .null, .val .null, .unset]) rfl kk) ?_
      refine ob T5 (mkF mG 104 #[.val (.int i0), .val (.int i1), .val (.int i2), .val (.int i3), .val (.ref b1), .val (.ref b4), .val (.int (i0 &&& (3 : Int32))), .val .null, .val .null, .unset] [.null]) (fun _ kk => XS.aload X5.here hx rfl (hb hby at_102) rfl rfl kk) ?_
      refine ob T5 (mkF mG 106 #[.val (.int i0), .val (.int i1), .val (.int i2), .val (.int i3), .val (.ref b1), .val (.ref b4), .val (.int (i0 &&& (3 : Int32))), .val .null, .val .null, .unset] [.null, .null]) (fun _ kk => XS.aload X5.here hx rfl (hb hby at_104) rfl rfl kk) ?_
      obtain ⟨_, _, ⟨T9, L9, k9, n9⟩, -, X9, ⟨Lc9, hQ9, l9, y9, z9⟩, st9⟩ := Jvm.LawKit.callS X5 hx (y := (⟨"com/example/llave/llave/io/Answer", "created", "(Ljava/lang/Object;Ljava/lang/String;)Lcom/example/llave/llave/io/Answer;"⟩ : MethodName)) hown (mvT hZ (ow hw 30 rfl)) (mvT hZ (ow hw 31 rfl)) (mvT hZ (ow hw 32 rfl)) (mvT hZ (ow hw 33 rfl)) (by decide) (backOf (W := 0) (rm_cr00 l Z a0 hw [] w_cache c_cache zc  h5 n0 O5 hS ) hZ (ow hw 33 rfl) (ow hw 32 rfl) (by decide) (by decide)) (g := (mkF mG 106 #[.val (.int i0), .val (.int i1), .val (.int i2), .val (.int i3), .val (.ref b1), .val (.ref b4), .val (.int (i0 &&& (3 : Int32))), .val .null, .val .null, .unset] [.null, .null])) rfl (by rw [hml]; rfl) (argsL := [.null, .null]) (rest := []) (lenOf pd_4 rfl) rfl (by show 2 * 0 + _ ≤ _; exact Nat.le_of_eq rfl) (hb hby at_106) (fun _ _ => ⟨rfl, e5, (by decide : 3 + 1 ≤ _), (by decide : 8 + 3 ≤ _)⟩)
      dsimp only [Pt.U, Pt.locs, Pt.cells, Pt.slots] at X9 l9 y9 z9 st9 hQ9
      subst l9 y9 z9
      obtain ⟨h9, e9⟩ : ∃ h, T9.heap = h := ⟨_, rfl⟩
      rw [e9] at hQ9
      obtain ⟨b0_9, rfl, N9q, K9q, O9, n_b0_9, z_b0_9, F9_0, F9_1, F9_2, F9_3⟩ := hQ9
      have N9 := Fr.app N5 N9q
      have sz_b0_9 : h0.size ≤ b0_9 := Nat.le_trans K5.1 z_b0_9
      have ne_b1_b0_9 : b1 ≠ b0_9 := Nat.ne_of_lt (Nat.lt_of_lt_of_le ((V3.ext E4).keep K5q (ninS ne_b1_b4 nin0)).lt z_b0_9)
      have ne_b4_b0_9 : b4 ≠ b0_9 := Nat.ne_of_lt (Nat.lt_of_lt_of_le A5.lt z_b0_9)
      have ne_t5_b0_9 : t5 ≠ b0_9 := Nat.ne_of_lt (Nat.lt_of_lt_of_le B5.lt z_b0_9)
      have K9 := K5.trans K9q all0
      refine ob T9 (mkF mG 109 #[.val (.int i0), .val (.int i1), .val (.int i2), .val (.int i3), .val (.ref b1), .val (.ref b4), .val (.int (i0 &&& (3 : Int32))), .val .null, .val .null, .unset] [(.ref b0_9)]) (fun _ kk => st9 _ kk) ?_
      refine ob T9 (mkF mG 111 #[.val (.int i0), .val (.int i1), .val (.int i2), .val (.int i3), .val (.ref b1), .val (.ref b4), .val (.int (i0 &&& (3 : Int32))), .val .null, .val .null, .val (.ref b0_9)] []) (fun _ kk => XS.astore X9.here hx rfl (hb hby at_109) rfl rfl (l' := #[.val (.int i0), .val (.int i1), .val (.int i2), .val (.int i3), .val (.ref b1), .val (.ref b4), .val (.int (i0 &&& (3 : Int32))), .val .null, .val .null, .val (.ref b0_9)]) rfl kk) ?_
      refine ob T9 (mkF mG 113 #[.val (.int i0), .val (.int i1), .val (.int i2), .val (.int i3), .val (.ref b1), .val (.ref b4), .val (.int (i0 &&& (3 : Int32))), .val .null, .val .null, .val (.ref b0_9)] [(.ref b0_9)]) (fun _ kk => XS.aload X9.here hx rfl (hb hby at_111) rfl rfl kk) ?_
      obtain ⟨cq10, kq10, q10a, q10b, q10c⟩ := isOf hZ e9 F9_0
      obtain ⟨_, _, ⟨T10, L10, k10, n10⟩, -, X10, ⟨Lc10, hQ10, l10, y10, z10⟩, st10⟩ := X9.virtualBack hx (y := (⟨"com/example/llave/llave/io/Answer", "status", "()I"⟩ : MethodName)) (z := (⟨"com/example/llave/llave/io/Answer", "status", "()I"⟩ : MethodName)) hown (mvT hZ (ow hw 51 rfl)) (mvT hZ (ow hw 52 rfl)) (notFace_of_selects (args := #[]) (mvT hZ (ow hw 54 rfl))) (mvT hZ (ow hw 54 rfl)) (mvT hZ (ow hw 53 rfl)) (by decide) (backOf (W := 0) (rm_status l Z a0 hw [] w_cache c_cache zc b0_9 (201 : Int32) h9 n0 O9 hS F9_1) hZ (ow hw 55 rfl) (ow hw 32 rfl) (by decide) (by decide)) q10a q10c (g := (mkF mG 113 #[.val (.int i0), .val (.int i1), .val (.int i2), .val (.int i3), .val (.ref b1), .val (.ref b4), .val (.int (i0 &&& (3 : Int32))), .val .null, .val .null, .val (.ref b0_9)] [(.ref b0_9)])) rfl (by rw [hml]; rfl) (Steps.refl _) (argsL := []) (rest := []) (lenOf pd_5 rfl) rfl (by show 2 * 0 + _ ≤ _; exact Nat.le_of_eq rfl) (hb hby at_113) (fun _ _ => ⟨rfl, e9, (by decide : 4 + 0 ≤ _), (by decide : 11 + 0 ≤ _)⟩)
      dsimp only [Pt.U, Pt.locs, Pt.cells, Pt.slots] at X10 l10 y10 z10 st10 hQ10
      subst l10 y10 z10
      obtain ⟨rfl, N10q, e10⟩ := hQ10
      have N10 := Fr.app N9 N10q
      refine ob T10 (mkF mG 116 #[.val (.int i0), .val (.int i1), .val (.int i2), .val (.int i3), .val (.ref b1), .val (.ref b4), .val (.int (i0 &&& (3 : Int32))), .val .null, .val .null, .val (.ref b0_9)] [(.int (201 : Int32))]) (fun _ kk => st10.trans kk) ?_
      refine ob T10 (mkF mG 119 #[.val (.int i0), .val (.int i1), .val (.int i2), .val (.int i3), .val (.ref b1), .val (.ref b4), .val (.int (i0 &&& (3 : Int32))), .val .null, .val .null, .val (.ref b0_9)] [(.int (201 : Int32)), (.int (201 : Int32))]) (fun _ kk => XS.sipush X10.here hx rfl (hb hby at_116) kk) ?_
      refine ob T10 (mkF mG 122 #[.val (.int i0), .val (.int i1), .val (.int i2), .val (.int i3), .val (.ref b1), .val (.ref b4), .val (.int (i0 &&& (3 : Int32))), .val .null, .val .null, .val (.ref b0_9)] []) (fun _ kk => XS.icmpNo X10.here hx rfl (hb hby at_119) rfl (teq (by decide : (201 : Int32) = (201 : Int32))).2 kk) ?_
      refine ob T10 (mkF mG 124 #[.val (.int i0), .val (.int i1), .val (.int i2), .val (.int i3), .val (.ref b1), .val (.ref b4), .val (.int (i0 &&& (3 : Int32))), .val .null, .val .null, .val (.ref b0_9)] [(.ref b0_9)]) (fun _ kk => XS.aload X10.here hx rfl (hb hby at_122) rfl rfl kk) ?_
      obtain ⟨cq11, kq11, q11a, q11b, q11c⟩ := isOf hZ e10 F9_0
      obtain ⟨_, _, ⟨T11, L11, k11, n11⟩, -, X11, ⟨Lc11, hQ11, l11, y11, z11⟩, st11⟩ := X10.virtualBack hx (y := (⟨"com/example/llave/llave/io/Answer", "body", "()Ljava/lang/Object;"⟩ : MethodName)) (z := (⟨"com/example/llave/llave/io/Answer", "body", "()Ljava/lang/Object;"⟩ : MethodName)) hown (mvT hZ (ow hw 56 rfl)) (mvT hZ (ow hw 57 rfl)) (notFace_of_selects (args := #[]) (mvT hZ (ow hw 59 rfl))) (mvT hZ (ow hw 59 rfl)) (mvT hZ (ow hw 58 rfl)) (by decide) (backOf (W := 0) (rm_body0 l Z a0 hw [] w_cache c_cache zc b0_9 h9 n0 O9 hS F9_2) hZ (ow hw 60 rfl) (ow hw 32 rfl) (by decide) (by decide)) q11a q11c (g := (mkF mG 124 #[.val (.int i0), .val (.int i1), .val (.int i2), .val (.int i3), .val (.ref b1), .val (.ref b4), .val (.int (i0 &&& (3 : Int32))), .val .null, .val .null, .val (.ref b0_9)] [(.ref b0_9)])) rfl (by rw [hml]; rfl) (Steps.refl _) (argsL := []) (rest := []) (lenOf pd_6 rfl) rfl (by show 2 * 0 + _ ≤ _; exact Nat.le_of_eq rfl) (hb hby at_124) (fun _ _ => ⟨rfl, e10, (by decide : 4 + 0 ≤ _), (by decide : 11 + 0 ≤ _)⟩)
      dsimp only [Pt.U, Pt.locs, Pt.cells, Pt.slots] at X11 l11 y11 z11 st11 hQ11
      subst l11 y11 z11
      obtain ⟨rfl, N11q, e11⟩ := hQ11
      have N11 := Fr.app N10 N11q
      refine ob T11 (mkF mG 127 #[.val (.int i0), .val (.int i1), .val (.int i2), .val (.int i3), .val (.ref b1), .val (.ref b4), .val (.int (i0 &&& (3 : Int32))), .val .null, .val .null, .val (.ref b0_9)] [.null]) (fun _ kk => st11.trans kk) ?_
      refine ob T11 (mkF mG 129 #[.val (.int i0), .val (.int i1), .val (.int i2), .val (.int i3), .val (.ref b1), .val (.ref b4), .val (.int (i0 &&& (3 : Int32))), .val .null, .val .null, .val (.ref b0_9)] [.null, .null]) (fun _ kk => XS.aload X11.here hx rfl (hb hby at_127) rfl rfl kk) ?_
      refine ob T11 (mkF mG 132 #[.val (.int i0), .val (.int i1), .val (.int i2), .val (.int i3), .val (.ref b1), .val (.ref b4), .val (.int (i0 &&& (3 : Int32))), .val .null, .val .null, .val (.ref b0_9)] []) (fun _ kk => Jvm.RoadKit.acmp (g := (mkF mG 129 #[.val (.int i0), .val (.int i1), .val (.int i2), .val (.int i3), .val (.ref b1), .val (.ref b4), .val (.int (i0 &&& (3 : Int32))), .val .null, .val .null, .val (.ref b0_9)] [.null, .null])) X11 hx rfl rfl rfl (pc0 := 129) (pc' := 132) (same := true) rfl (hb hby at_129) rfl (decide_eq_true rfl) (by decide) (by decide) kk) ?_
      refine ob T11 (mkF mG 134 #[.val (.int i0), .val (.int i1), .val (.int i2), .val (.int i3), .val (.ref b1), .val (.ref b4), .val (.int (i0 &&& (3 : Int32))), .val .null, .val .null, .val (.ref b0_9)] [(.ref b0_9)]) (fun _ kk => XS.aload X11.here hx rfl (hb hby at_132) rfl rfl kk) ?_
      obtain ⟨cq12, kq12, q12a, q12b, q12c⟩ := isOf hZ e11 F9_0
      obtain ⟨_, _, ⟨T12, L12, k12, n12⟩, -, X12, ⟨Lc12, hQ12, l12, y12, z12⟩, st12⟩ := X11.virtualBack hx (y := (⟨"com/example/llave/llave/io/Answer", "location", "()Ljava/lang/String;"⟩ : MethodName)) (z := (⟨"com/example/llave/llave/io/Answer", "location", "()Ljava/lang/String;"⟩ : MethodName)) hown (mvT hZ (ow hw 61 rfl)) (mvT hZ (ow hw 62 rfl)) (notFace_of_selects (args := #[]) (mvT hZ (ow hw 64 rfl))) (mvT hZ (ow hw 64 rfl)) (mvT hZ (ow hw 63 rfl)) (by decide) (backOf (W := 0) (rm_location0 l Z a0 hw [] w_cache c_cache zc b0_9 h9 n0 O9 hS F9_3) hZ (ow hw 65 rfl) (ow hw 32 rfl) (by decide) (by decide)) q12a q12c (g := (mkF mG 134 #[.val (.int i0), .val (.int i1), .val (.int i2), .val (.int i3), .val (.ref b1), .val (.ref b4), .val (.int (i0 &&& (3 : Int32))), .val .null, .val .null, .val (.ref b0_9)] [(.ref b0_9)])) rfl (by rw [hml]; rfl) (Steps.refl _) (argsL := []) (rest := []) (lenOf pd_7 rfl) rfl (by show 2 * 0 + _ ≤ _; exact Nat.le_of_eq rfl) (hb hby at_134) (fun _ _ => ⟨rfl, e11, (by decide : 4 + 0 ≤ _), (by decide : 11 + 0 ≤ _)⟩)
      dsimp only [Pt.U, Pt.locs, Pt.cells, Pt.slots] at X12 l12 y12 z12 st12 hQ12
      subst l12 y12 z12
      obtain ⟨rfl, N12q, e12⟩ := hQ12
      have N12 := Fr.app N11 N12q
      refine ob T12 (mkF mG 137 #[.val (.int i0), .val (.int i1), .val (.int i2), .val (.int i3), .val (.ref b1), .val (.ref b4), .val (.int (i0 &&& (3 : Int32))), .val .null, .val .null, .val (.ref b0_9)] [.null]) (fun _ kk => st12.trans kk) ?_
      refine ob T12 (mkF mG 139 #[.val (.int i0), .val (.int i1), .val (.int i2), .val (.int i3), .val (.ref b1), .val (.ref b4), .val (.int (i0 &&& (3 : Int32))), .val .null, .val .null, .val (.ref b0_9)] [.null, .null]) (fun _ kk => XS.aload X12.here hx rfl (hb hby at_137) rfl rfl kk) ?_
      refine ob T12 (mkF mG 142 #[.val (.int i0), .val (.int i1), .val (.int i2), .val (.int i3), .val (.ref b1), .val (.ref b4), .val (.int (i0 &&& (3 : Int32))), .val .null, .val .null, .val (.ref b0_9)] []) (fun _ kk => Jvm.RoadKit.acmp (g := (mkF mG 139 #[.val (.int i0), .val (.int i1), .val (.int i2), .val (.int i3), .val (.ref b1), .val (.ref b4), .val (.int (i0 &&& (3 : Int32))), .val .null, .val .null, .val (.ref b0_9)] [.null, .null])) X12 hx rfl rfl rfl (pc0 := 139) (pc' := 142) (same := true) rfl (hb hby at_139) rfl (decide_eq_true rfl) (by decide) (by decide) kk) ?_
      refine ob T12 (mkF mG 143 #[.val (.int i0), .val (.int i1), .val (.int i2), .val (.int i3), .val (.ref b1), .val (.ref b4), .val (.int (i0 &&& (3 : Int32))), .val .null, .val .null, .val (.ref b0_9)] [(.int (1 : Int32))]) (fun _ kk => XS.iconst X12.here hx rfl (hb hby at_142) kk) ?_
      refine ob T12 (mkF mG 147 #[.val (.int i0), .val (.int i1), .val (.int i2), .val (.int i3), .val (.ref b1), .val (.ref b4), .val (.int (i0 &&& (3 : Int32))), .val .null, .val .null, .val (.ref b0_9)] [(.int (1 : Int32))]) (fun _ kk => XS.goto X12.here hx rfl (pc0 := 143) (pc' := 147) rfl (hb hby at_143) (by decide) (by decide) kk) ?_
      obtain ⟨fs, hr, hrun, hended, hW, hsame⟩ := X12.leave (v := some (.int (1 : Int32))) (fun h => by rw [Bd.returns] at h; cases h)
      refine oout (retN X12 hx (t := .boolean) Bd.returns (by simp) (hb hby at_147) hr) hrun hended ⟨_, _, rfl, ?_, ⟨_, rfl⟩, hW, hsame.mono (by decide) (by decide)⟩
      show Q_rm0 Z w_cache c_cache zc i0 i1 i2 i3 h0 n0 _ T12.heap _
      rw [e12]
      exact ⟨rfl, N12⟩
    · skip
      refine ob T5 (mkF mG 94 #[.val (.int i0), .val (.int i1), .val (.int i2), .val (.int i3), .val (.ref b1), .val (.ref b4), .val (.int (i0 &&& (3 : Int32))), .val .null, .unset, .unset] []) (fun _ kk => XS.ifNo X5.here hx rfl (hb hby at_91) rfl ((if0 _ _).trans (feq hc8).1) kk) ?_
      refine ob T5 (mkF mG 96 #[.val (.int i0), .val (.int i1), .val (.int i2), .val (.int i3), .val (.ref b1), .val (.ref b4), .val (.int (i0 &&& (3 : Int32))), .val .null, .unset, .unset] [(.ref b4)]) (fun _ kk => XS.aload X5.here hx rfl (hb hby at_94) rfl rfl kk) ?_
      refine ob T5 (mkF mG 100 #[.val (.int i0), .val (.int i1), .val (.int i2), .val (.int i3), .val (.ref b1), .val (.ref b4), .val (.int (i0 &&& (3 : Int32))), .val .null, .unset, .unset] [(.ref b4)]) (fun _ kk => XS.goto X5.here hx rfl (pc0 := 96) (pc' := 100) rfl (hb hby at_96) (by decide) (by decide) kk) ?_
      refine ob T5 (mkF mG 102 #[.val (.int i0), .val (.int i1), .val (.int i2), .val (.int i3), .val (.ref b1), .val (.ref b4), .val (.int (i0 &&& (3 : Int32))), .val .null, .val (.ref b4), .unset] []) (fun _ kk => XS.astore X5.here hx rfl (hb hby at_100) rfl rfl (l' := #[.val (.int i0), .val (.int i1), .val (.int i2), .val (.int i3), .val (.ref b1), .val (.ref b4), .val (.int (i0 &&& (3 : Int32))), .val .null, .val (.ref b4), .unset]) rfl kk) ?_
      refine ob T5 (mkF mG 104 #[.val (.int i0), .val (.int i1), .val (.int i2), .val (.int i3), .val (.ref b1), .val (.ref b4), .val (.int (i0 &&& (3 : Int32))), .val .null, .val (.ref b4), .unset] [.null]) (fun _ kk => XS.aload X5.here hx rfl (hb hby at_102) rfl rfl kk) ?_
      refine ob T5 (mkF mG 106 #[.val (.int i0), .val (.int i1), .val (.int i2), .val (.int i3), .val (.ref b1), .val (.ref b4), .val (.int (i0 &&& (3 : Int32))), .val .null, .val (.ref b4), .unset] [(.ref b4), .null]) (fun _ kk => XS.aload X5.here hx rfl (hb hby at_104) rfl rfl kk) ?_
      obtain ⟨_, _, ⟨T13, L13, k13, n13⟩, -, X13, ⟨Lc13, hQ13, l13, y13, z13⟩, st13⟩ := Jvm.LawKit.callS X5 hx (y := (⟨"com/example/llave/llave/io/Answer", "created", "(Ljava/lang/Object;Ljava/lang/String;)Lcom/example/llave/llave/io/Answer;"⟩ : MethodName)) hown (mvT hZ (ow hw 30 rfl)) (mvT hZ (ow hw 31 rfl)) (mvT hZ (ow hw 32 rfl)) (mvT hZ (ow hw 33 rfl)) (by decide) (backOf (W := 0) (rm_cr01 l Z a0 hw [] w_cache c_cache zc b4 h5 n0 O5 hS ) hZ (ow hw 33 rfl) (ow hw 32 rfl) (by decide) (by decide)) (g := (mkF mG 106 #[.val (.int i0), .val (.int i1), .val (.int i2), .val (.int i3), .val (.ref b1), .val (.ref b4), .val (.int (i0 &&& (3 : Int32))), .val .null, .val (.ref b4), .unset] [(.ref b4), .null])) rfl (by rw [hml]; rfl) (argsL := [.null, (.ref b4)]) (rest := []) (lenOf pd_4 rfl) rfl (by show 2 * 0 + _ ≤ _; exact Nat.le_of_eq rfl) (hb hby at_106) (fun _ _ => ⟨rfl, e5, (by decide : 3 + 1 ≤ _), (by decide : 8 + 3 ≤ _)⟩)
      dsimp only [Pt.U, Pt.locs, Pt.cells, Pt.slots] at X13 l13 y13 z13 st13 hQ13
      subst l13 y13 z13
      obtain ⟨h13, e13⟩ : ∃ h, T13.heap = h := ⟨_, rfl⟩
      rw [e13] at hQ13
      obtain ⟨b0_13, rfl, N13q, K13q, O13, n_b0_13, z_b0_13, F13_0, F13_1, F13_2, F13_3⟩ := hQ13
      have N13 := Fr.app N5 N13q
      have sz_b0_13 : h0.size ≤ b0_13 := Nat.le_trans K5.1 z_b0_13
      have ne_b1_b0_13 : b1 ≠ b0_13 := Nat.ne_of_lt (Nat.lt_of_lt_of_le ((V3.ext E4).keep K5q (ninS ne_b1_b4 nin0)).lt z_b0_13)
      have ne_b4_b0_13 : b4 ≠ b0_13 := Nat.ne_of_lt (Nat.lt_of_lt_of_le A5.lt z_b0_13)
      have ne_t5_b0_13 : t5 ≠ b0_13 := Nat.ne_of_lt (Nat.lt_of_lt_of_le B5.lt z_b0_13)
      have K13 := K5.trans K13q all0
      refine ob T13 (mkF mG 109 #[.val (.int i0), .val (.int i1), .val (.int i2), .val (.int i3), .val (.ref b1), .val (.ref b4), .val (.int (i0 &&& (3 : Int32))), .val .null, .val (.ref b4), .unset] [(.ref b0_13)]) (fun _ kk => st13 _ kk) ?_
      refine ob T13 (mkF mG 111 #[.val (.int i0), .val (.int i1), .val (.int i2), .val (.int i3), .val (.ref b1), .val (.ref b4), .val (.int (i0 &&& (3 : Int32))), .val .null, .val (.ref b4), .val (.ref b0_13)] []) (fun _ kk => XS.astore X13.here hx rfl (hb hby at_109) rfl rfl (l' := #[.val (.int i0), .val (.int i1), .val (.int i2), .val (.int i3), .val (.ref b1), .val (.ref b4), .val (.int (i0 &&& (3 : Int32))), .val .null, .val (.ref b4), .val (.ref b0_13)]) rfl kk) ?_
      refine ob T13 (mkF mG 113 #[.val (.int i0), .val (.int i1), .val (.int i2), .val (.int i3), .val (.ref b1), .val (.ref b4), .val (.int (i0 &&& (3 : Int32))), .val .null, .val (.ref b4), .val (.ref b0_13)] [(.ref b0_13)]) (fun _ kk => XS.aload X13.here hx rfl (hb hby at_111) rfl rfl kk) ?_
      obtain ⟨cq14, kq14, q14a, q14b, q14c⟩ := isOf hZ e13 F13_0
      obtain ⟨_, _, ⟨T14, L14, k14, n14⟩, -, X14, ⟨Lc14, hQ14, l14, y14, z14⟩, st14⟩ := X13.virtualBack hx (y := (⟨"com/example/llave/llave/io/Answer", "status", "()I"⟩ : MethodName)) (z := (⟨"com/example/llave/llave/io/Answer", "status", "()I"⟩ : MethodName)) hown (mvT hZ (ow hw 51 rfl)) (mvT hZ (ow hw 52 rfl)) (notFace_of_selects (args := #[]) (mvT hZ (ow hw 54 rfl))) (mvT hZ (ow hw 54 rfl)) (mvT hZ (ow hw 53 rfl)) (by decide) (backOf (W := 0) (rm_status l Z a0 hw [] w_cache c_cache zc b0_13 (201 : Int32) h13 n0 O13 hS F13_1) hZ (ow hw 55 rfl) (ow hw 32 rfl) (by decide) (by decide)) q14a q14c (g := (mkF mG 113 #[.val (.int i0), .val (.int i1), .val (.int i2), .val (.int i3), .val (.ref b1), .val (.ref b4), .val (.int (i0 &&& (3 : Int32))), .val .null, .val (.ref b4), .val (.ref b0_13)] [(.ref b0_13)])) rfl (by rw [hml]; rfl) (Steps.refl _) (argsL := []) (rest := []) (lenOf pd_5 rfl) rfl (by show 2 * 0 + _ ≤ _; exact Nat.le_of_eq rfl) (hb hby at_113) (fun _ _ => ⟨rfl, e13, (by decide : 4 + 0 ≤ _), (by decide : 11 + 0 ≤ _)⟩)
      dsimp only [Pt.U, Pt.locs, Pt.cells, Pt.slots] at X14 l14 y14 z14 st14 hQ14
      subst l14 y14 z14
      obtain ⟨rfl, N14q, e14⟩ := hQ14
      have N14 := Fr.app N13 N14q
      refine ob T14 (mkF mG 116 #[.val (.int i0), .val (.int i1), .val (.int i2), .val (.int i3), .val (.ref b1), .val (.ref b4), .val (.int (i0 &&& (3 : Int32))), .val .null, .val (.ref b4), .val (.ref b0_13)] [(.int (201 : Int32))]) (fun _ kk => st14.trans kk) ?_
      refine ob T14 (mkF mG 119 #[.val (.int i0), .val (.int i1), .val (.int i2), .val (.int i3), .val (.ref b1), .val (.ref b4), .val (.int (i0 &&& (3 : Int32))), .val .null, .val (.ref b4), .val (.ref b0_13)] [(.int (201 : Int32)), (.int (201 : Int32))]) (fun _ kk => XS.sipush X14.here hx rfl (hb hby at_116) kk) ?_
      refine ob T14 (mkF mG 122 #[.val (.int i0), .val (.int i1), .val (.int i2), .val (.int i3), .val (.ref b1), .val (.ref b4), .val (.int (i0 &&& (3 : Int32))), .val .null, .val (.ref b4), .val (.ref b0_13)] []) (fun _ kk => XS.icmpNo X14.here hx rfl (hb hby at_119) rfl (teq (by decide : (201 : Int32) = (201 : Int32))).2 kk) ?_
      refine ob T14 (mkF mG 124 #[.val (.int i0), .val (.int i1), .val (.int i2), .val (.int i3), .val (.ref b1), .val (.ref b4), .val (.int (i0 &&& (3 : Int32))), .val .null, .val (.ref b4), .val (.ref b0_13)] [(.ref b0_13)]) (fun _ kk => XS.aload X14.here hx rfl (hb hby at_122) rfl rfl kk) ?_
      obtain ⟨cq15, kq15, q15a, q15b, q15c⟩ := isOf hZ e14 F13_0
      obtain ⟨_, _, ⟨T15, L15, k15, n15⟩, -, X15, ⟨Lc15, hQ15, l15, y15, z15⟩, st15⟩ := X14.virtualBack hx (y := (⟨"com/example/llave/llave/io/Answer", "body", "()Ljava/lang/Object;"⟩ : MethodName)) (z := (⟨"com/example/llave/llave/io/Answer", "body", "()Ljava/lang/Object;"⟩ : MethodName)) hown (mvT hZ (ow hw 56 rfl)) (mvT hZ (ow hw 57 rfl)) (notFace_of_selects (args := #[]) (mvT hZ (ow hw 59 rfl))) (mvT hZ (ow hw 59 rfl)) (mvT hZ (ow hw 58 rfl)) (by decide) (backOf (W := 0) (rm_body0 l Z a0 hw [] w_cache c_cache zc b0_13 h13 n0 O13 hS F13_2) hZ (ow hw 60 rfl) (ow hw 32 rfl) (by decide) (by decide)) q15a q15c (g := (mkF mG 124 #[.val (.int i0), .val (.int i1), .val (.int i2), .val (.int i3), .val (.ref b1), .val (.ref b4), .val (.int (i0 &&& (3 : Int32))), .val .null, .val (.ref b4), .val (.ref b0_13)] [(.ref b0_13)])) rfl (by rw [hml]; rfl) (Steps.refl _) (argsL := []) (rest := []) (lenOf pd_6 rfl) rfl (by show 2 * 0 + _ ≤ _; exact Nat.le_of_eq rfl) (hb hby at_124) (fun _ _ => ⟨rfl, e14, (by decide : 4 + 0 ≤ _), (by decide : 11 + 0 ≤ _)⟩)
      dsimp only [Pt.U, Pt.locs, Pt.cells, Pt.slots] at X15 l15 y15 z15 st15 hQ15
      subst l15 y15 z15
      obtain ⟨rfl, N15q, e15⟩ := hQ15
      have N15 := Fr.app N14 N15q
      refine ob T15 (mkF mG 127 #[.val (.int i0), .val (.int i1), .val (.int i2), .val (.int i3), .val (.ref b1), .val (.ref b4), .val (.int (i0 &&& (3 : Int32))), .val .null, .val (.ref b4), .val (.ref b0_13)] [.null]) (fun _ kk => st15.trans kk) ?_
      refine ob T15 (mkF mG 129 #[.val (.int i0), .val (.int i1), .val (.int i2), .val (.int i3), .val (.ref b1), .val (.ref b4), .val (.int (i0 &&& (3 : Int32))), .val .null, .val (.ref b4), .val (.ref b0_13)] [.null, .null]) (fun _ kk => XS.aload X15.here hx rfl (hb hby at_127) rfl rfl kk) ?_
      refine ob T15 (mkF mG 132 #[.val (.int i0), .val (.int i1), .val (.int i2), .val (.int i3), .val (.ref b1), .val (.ref b4), .val (.int (i0 &&& (3 : Int32))), .val .null, .val (.ref b4), .val (.ref b0_13)] []) (fun _ kk => Jvm.RoadKit.acmp (g := (mkF mG 129 #[.val (.int i0), .val (.int i1), .val (.int i2), .val (.int i3), .val (.ref b1), .val (.ref b4), .val (.int (i0 &&& (3 : Int32))), .val .null, .val (.ref b4), .val (.ref b0_13)] [.null, .null])) X15 hx rfl rfl rfl (pc0 := 129) (pc' := 132) (same := true) rfl (hb hby at_129) rfl (decide_eq_true rfl) (by decide) (by decide) kk) ?_
      refine ob T15 (mkF mG 134 #[.val (.int i0), .val (.int i1), .val (.int i2), .val (.int i3), .val (.ref b1), .val (.ref b4), .val (.int (i0 &&& (3 : Int32))), .val .null, .val (.ref b4), .val (.ref b0_13)] [(.ref b0_13)]) (fun _ kk => XS.aload X15.here hx rfl (hb hby at_132) rfl rfl kk) ?_
      obtain ⟨cq16, kq16, q16a, q16b, q16c⟩ := isOf hZ e15 F13_0
      obtain ⟨_, _, ⟨T16, L16, k16, n16⟩, -, X16, ⟨Lc16, hQ16, l16, y16, z16⟩, st16⟩ := X15.virtualBack hx (y := (⟨"com/example/llave/llave/io/Answer", "location", "()Ljava/lang/String;"⟩ : MethodName)) (z := (⟨"com/example/llave/llave/io/Answer", "location", "()Ljava/lang/String;"⟩ : MethodName)) hown (mvT hZ (ow hw 61 rfl)) (mvT hZ (ow hw 62 rfl)) (notFace_of_selects (args := #[]) (mvT hZ (ow hw 64 rfl))) (mvT hZ (ow hw 64 rfl)) (mvT hZ (ow hw 63 rfl)) (by decide) (backOf (W := 0) (rm_location1 l Z a0 hw [] w_cache c_cache zc b0_13 b4 h13 n0 O13 hS F13_3) hZ (ow hw 65 rfl) (ow hw 32 rfl) (by decide) (by decide)) q16a q16c (g := (mkF mG 134 #[.val (.int i0), .val (.int i1), .val (.int i2), .val (.int i3), .val (.ref b1), .val (.ref b4), .val (.int (i0 &&& (3 : Int32))), .val .null, .val (.ref b4), .val (.ref b0_13)] [(.ref b0_13)])) rfl (by rw [hml]; rfl) (Steps.refl _) (argsL := []) (rest := []) (lenOf pd_7 rfl) rfl (by show 2 * 0 + _ ≤ _; exact Nat.le_of_eq rfl) (hb hby at_134) (fun _ _ => ⟨rfl, e15, (by decide : 4 + 0 ≤ _), (by decide : 11 + 0 ≤ _)⟩)
      dsimp only [Pt.U, Pt.locs, Pt.cells, Pt.slots] at X16 l16 y16 z16 st16 hQ16
      subst l16 y16 z16
      obtain ⟨rfl, N16q, e16⟩ := hQ16
      have N16 := Fr.app N15 N16q
      refine ob T16 (mkF mG 137 #[.val (.int i0), .val (.int i1), .val (.int i2), .val (.int i3), .val (.ref b1), .val (.ref b4), .val (.int (i0 &&& (3 : Int32))), .val .null, .val (.ref b4), .val (.ref b0_13)] [(.ref b4)]) (fun _ kk => st16.trans kk) ?_
      refine ob T16 (mkF mG 139 #[.val (.int i0), .val (.int i1), .val (.int i2), .val (.int i3), .val (.ref b1), .val (.ref b4), .val (.int (i0 &&& (3 : Int32))), .val .null, .val (.ref b4), .val (.ref b0_13)] [(.ref b4), (.ref b4)]) (fun _ kk => XS.aload X16.here hx rfl (hb hby at_137) rfl rfl kk) ?_
      refine ob T16 (mkF mG 142 #[.val (.int i0), .val (.int i1), .val (.int i2), .val (.int i3), .val (.ref b1), .val (.ref b4), .val (.int (i0 &&& (3 : Int32))), .val .null, .val (.ref b4), .val (.ref b0_13)] []) (fun _ kk => Jvm.RoadKit.acmp (g := (mkF mG 139 #[.val (.int i0), .val (.int i1), .val (.int i2), .val (.int i3), .val (.ref b1), .val (.ref b4), .val (.int (i0 &&& (3 : Int32))), .val .null, .val (.ref b4), .val (.ref b0_13)] [(.ref b4), (.ref b4)])) X16 hx rfl rfl rfl (pc0 := 139) (pc' := 142) (same := true) rfl (hb hby at_139) rfl (decide_eq_true rfl) (by decide) (by decide) kk) ?_
      refine ob T16 (mkF mG 143 #[.val (.int i0), .val (.int i1), .val (.int i2), .val (.int i3), .val (.ref b1), .val (.ref b4), .val (.int (i0 &&& (3 : Int32))), .val .null, .val (.ref b4), .val (.ref b0_13)] [(.int (1 : Int32))]) (fun _ kk => XS.iconst X16.here hx rfl (hb hby at_142) kk) ?_
      refine ob T16 (mkF mG 147 #[.val (.int i0), .val (.int i1), .val (.int i2), .val (.int i3), .val (.ref b1), .val (.ref b4), .val (.int (i0 &&& (3 : Int32))), .val .null, .val (.ref b4), .val (.ref b0_13)] [(.int (1 : Int32))]) (fun _ kk => XS.goto X16.here hx rfl (pc0 := 143) (pc' := 147) rfl (hb hby at_143) (by decide) (by decide) kk) ?_
      obtain ⟨fs, hr, hrun, hended, hW, hsame⟩ := X16.leave (v := some (.int (1 : Int32))) (fun h => by rw [Bd.returns] at h; cases h)
      refine oout (retN X16 hx (t := .boolean) Bd.returns (by simp) (hb hby at_147) hr) hrun hended ⟨_, _, rfl, ?_, ⟨_, rfl⟩, hW, hsame.mono (by decide) (by decide)⟩
      show Q_rm0 Z w_cache c_cache zc i0 i1 i2 i3 h0 n0 _ T16.heap _
      rw [e16]
      exact ⟨rfl, N16⟩
  · skip
    refine ob T5 (mkF mG 50 #[.val (.int i0), .val (.int i1), .val (.int i2), .val (.int i3), .val (.ref b1), .val (.ref b4), .val (.int (i0 &&& (3 : Int32))), .unset, .unset, .unset] []) (fun _ kk => XS.ifYes X5.here hx rfl (pc0 := 41) (pc' := 50) rfl (hb hby at_41) rfl ((if0 _ _).trans (feq hc7).2) (by decide) (by decide) kk) ?_
    refine ob T5 (mkF mG 52 #[.val (.int i0), .val (.int i1), .val (.int i2), .val (.int i3), .val (.ref b1), .val (.ref b4), .val (.int (i0 &&& (3 : Int32))), .unset, .unset, .unset] [(.int (i0 &&& (3 : Int32)))]) (fun _ kk => XS.iload X5.here hx rfl (hb hby at_50) rfl kk) ?_
    refine ob T5 (mkF mG 53 #[.val (.int i0), .val (.int i1), .val (.int i2), .val (.int i3), .val (.ref b1), .val (.ref b4), .val (.int (i0 &&& (3 : Int32))), .unset, .unset, .unset] [(.int (1 : Int32)), (.int (i0 &&& (3 : Int32)))]) (fun _ kk => XS.iconst X5.here hx rfl (hb hby at_52) kk) ?_
    by_cases hc17 : (i0 &&& (3 : Int32)) = (1 : Int32)
    · skip
      refine ob T5 (mkF mG 56 #[.val (.int i0), .val (.int i1), .val (.int i2), .val (.int i3), .val (.ref b1), .val (.ref b4), .val (.int (i0 &&& (3 : Int32))), .unset, .unset, .unset] []) (fun _ kk => XS.icmpNo X5.here hx rfl (hb hby at_53) rfl (teq hc17).2 kk) ?_
      refine ob T5 (mkF mG 57 #[.val (.int i0), .val (.int i1), .val (.int i2), .val (.int i3), .val (.ref b1), .val (.ref b4), .val (.int (i0 &&& (3 : Int32))), .unset, .unset, .unset] [(.int i3)]) (fun _ kk => XS.iloadN X5.here hx rfl (hb hby at_56) rfl kk) ?_
      obtain ⟨_, _, ⟨T18, L18, k18, n18⟩, -, X18, ⟨Lc18, hQ18, l18, y18, z18⟩, st18⟩ := Jvm.LawKit.callS X5 hx (y := (⟨"java/lang/Integer", "valueOf", "(I)Ljava/lang/Integer;"⟩ : MethodName)) hown (mvT hZ (ow hw 66 rfl)) (mvT hZ (ow hw 67 rfl)) (mvT hZ (ow hw 68 rfl)) (mvT hZ (ow hw 69 rfl)) (by decide) (backOf (W := 0) (rm_valueOf l Z a0 hw [] w_cache c_cache zc i3 h5 n0 O5 hS ) hZ (ow hw 69 rfl) (ow hw 68 rfl) (by decide) (by decide)) (g := (mkF mG 57 #[.val (.int i0), .val (.int i1), .val (.int i2), .val (.int i3), .val (.ref b1), .val (.ref b4), .val (.int (i0 &&& (3 : Int32))), .unset, .unset, .unset] [(.int i3)])) rfl (by rw [hml]; rfl) (argsL := [(.int i3)]) (rest := []) (lenOf pd_8 rfl) rfl (by show 2 * 0 + _ ≤ _; exact Nat.le_of_eq rfl) (hb hby at_57) (fun _ _ => ⟨rfl, e5, (by decide : 3 + 1 ≤ _), (by decide : 8 + 1 ≤ _)⟩)
      dsimp only [Pt.U, Pt.locs, Pt.cells, Pt.slots] at X18 l18 y18 z18 st18 hQ18
      subst l18 y18 z18
      obtain ⟨h18, e18⟩ : ∃ h, T18.heap = h := ⟨_, rfl⟩
      rw [e18] at hQ18
      obtain ⟨r0_18, rfl, N18q, K18q, O18, F18_0⟩ := hQ18
      have N18 := Fr.app N5 N18q
      have K18 := K5.trans K18q all0
      refine ob T18 (mkF mG 60 #[.val (.int i0), .val (.int i1), .val (.int i2), .val (.int i3), .val (.ref b1), .val (.ref b4), .val (.int (i0 &&& (3 : Int32))), .unset, .unset, .unset] [(.ref r0_18)]) (fun _ kk => st18 _ kk) ?_
      refine ob T18 (mkF mG 62 #[.val (.int i0), .val (.int i1), .val (.int i2), .val (.int i3), .val (.ref b1), .val (.ref b4), .val (.int (i0 &&& (3 : Int32))), .val (.ref r0_18), .unset, .unset] []) (fun _ kk => XS.astore X18.here hx rfl (hb hby at_60) rfl rfl (l' := #[.val (.int i0), .val (.int i1), .val (.int i2), .val (.int i3), .val (.ref b1), .val (.ref b4), .val (.int (i0 &&& (3 : Int32))), .val (.ref r0_18), .unset, .unset]) rfl kk) ?_
      refine ob T18 (mkF mG 86 #[.val (.int i0), .val (.int i1), .val (.int i2), .val (.int i3), .val (.ref b1), .val (.ref b4), .val (.int (i0 &&& (3 : Int32))), .val (.ref r0_18), .unset, .unset] []) (fun _ kk => XS.goto X18.here hx rfl (pc0 := 62) (pc' := 86) rfl (hb hby at_62) (by decide) (by decide) kk) ?_
      refine ob T18 (mkF mG 87 #[.val (.int i0), .val (.int i1), .val (.int i2), .val (.int i3), .val (.ref b1), .val (.ref b4), .val (.int (i0 &&& (3 : Int32))), .val (.ref r0_18), .unset, .unset] [(.int i0)]) (fun _ kk => XS.iloadN X18.here hx rfl (hb hby at_86) rfl kk) ?_
      refine ob T18 (mkF mG 88 #[.val (.int i0), .val (.int i1), .val (.int i2), .val (.int i3), .val (.ref b1), .val (.ref b4), .val (.int (i0 &&& (3 : Int32))), .val (.ref r0_18), .unset, .unset] [(.int (2 : Int32)), (.int i0)]) (fun _ kk => XS.iconst X18.here hx rfl (hb hby at_87) kk) ?_
      refine ob T18 (mkF mG 89 #[.val (.int i0), .val (.int i1), .val (.int i2), .val (.int i3), .val (.ref b1), .val (.ref b4), .val (.int (i0 &&& (3 : Int32))), .val (.ref r0_18), .unset, .unset] [(.int (i0 >>> ((2 : Int32) &&& 31)))]) (fun _ kk => XS.ishr X18.here hx rfl (hb hby at_88) rfl kk) ?_
      refine ob T18 (mkF mG 90 #[.val (.int i0), .val (.int i1), .val (.int i2), .val (.int i3), .val (.ref b1), .val (.ref b4), .val (.int (i0 &&& (3 : Int32))), .val (.ref r0_18), .unset, .unset] [(.int (1 : Int32)), (.int (i0 >>> ((2 : Int32) &&& 31)))]) (fun _ kk => XS.iconst X18.here hx rfl (hb hby at_89) kk) ?_
      refine ob T18 (mkF mG 91 #[.val (.int i0), .val (.int i1), .val (.int i2), .val (.int i3), .val (.ref b1), .val (.ref b4), .val (.int (i0 &&& (3 : Int32))), .val (.ref r0_18), .unset, .unset] [(.int ((i0 >>> ((2 : Int32) &&& 31)) &&& (1 : Int32)))]) (fun _ kk => XS.iand X18.here hx rfl (hb hby at_90) rfl kk) ?_
      by_cases hc19 : ((i0 >>> ((2 : Int32) &&& 31)) &&& (1 : Int32)) = (0 : Int32)
      · skip
        refine ob T18 (mkF mG 99 #[.val (.int i0), .val (.int i1), .val (.int i2), .val (.int i3), .val (.ref b1), .val (.ref b4), .val (.int (i0 &&& (3 : Int32))), .val (.ref r0_18), .unset, .unset] []) (fun _ kk => XS.ifYes X18.here hx rfl (pc0 := 91) (pc' := 99) rfl (hb hby at_91) rfl ((if0 _ _).trans (teq hc19).1) (by decide) (by decide) kk) ?_
        refine ob T18 (mkF mG 100 #[.val (.int i0), .val (.int i1), .val (.int i2), .val (.int i3), .val (.ref b1), .val (.ref b4), .val (.int (i0 &&& (3 : Int32))), .val (.ref r0_18), .unset, .unset] [.null]) (fun _ kk => XS.aconstNull X18.here hx rfl (hb hby at_99) kk) ?_
        refine ob T18 (mkF mG 102 #[.val (.int i0), .val (.int i1), .val (.int i2), .val (.int i3), .val (.ref b1), .val (.ref b4), .val (.int (i0 &&& (3 : Int32))), .val (.ref r0_18), .val .null, .unset] []) (fun _ kk => XS.astore X18.here hx rfl (hb hby at_100) rfl rfl (l' := #[.val (.int i0), .val (.int i1), .val (.int i2), .val (.int i3), .val (.ref b1), .val (.ref b4), .val (.int (i0 &&& (3 : Int32))), .val (.ref r0_18), .val .null, .unset]) rfl kk) ?_
        refine ob T18 (mkF mG 104 #[.val (.int i0), .val (.int i1), .val (.int i2), .val (.int i3), .val (.ref b1), .val (.ref b4), .val (.int (i0 &&& (3 : Int32))), .val (.ref r0_18), .val .null, .unset] [(.ref r0_18)]) (fun _ kk => XS.aload X18.here hx rfl (hb hby at_102) rfl rfl kk) ?_
        refine ob T18 (mkF mG 106 #[.val (.int i0), .val (.int i1), .val (.int i2), .val (.int i3), .val (.ref b1), .val (.ref b4), .val (.int (i0 &&& (3 : Int32))), .val (.ref r0_18), .val .null, .unset] [.null, (.ref r0_18)]) (fun _ kk => XS.aload X18.here hx rfl (hb hby at_104) rfl rfl kk) ?_
        obtain ⟨_, _, ⟨T20, L20, k20, n20⟩, -, X20, ⟨Lc20, hQ20, l20, y20, z20⟩, st20⟩ := Jvm.LawKit.callS X18 hx (y := (⟨"com/example/llave/llave/io/Answer", "created", "(Ljava/lang/Object;Ljava/lang/String;)Lcom/example/llave/llave/io/Answer;"⟩ : MethodName)) hown (mvT hZ (ow hw 30 rfl)) (mvT hZ (ow hw 31 rfl)) (mvT hZ (ow hw 32 rfl)) (mvT hZ (ow hw 33 rfl)) (by decide) (backOf (W := 0) (rm_cr10 l Z a0 hw [] w_cache c_cache zc r0_18 h18 n0 O18 hS ) hZ (ow hw 33 rfl) (ow hw 32 rfl) (by decide) (by decide)) (g := (mkF mG 106 #[.val (.int i0), .val (.int i1), .val (.int i2), .val (.int i3), .val (.ref b1), .val (.ref b4), .val (.int (i0 &&& (3 : Int32))), .val (.ref r0_18), .val .null, .unset] [.null, (.ref r0_18)])) rfl (by rw [hml]; rfl) (argsL := [(.ref r0_18), .null]) (rest := []) (lenOf pd_4 rfl) rfl (by show 2 * 0 + _ ≤ _; exact Nat.le_of_eq rfl) (hb hby at_106) (fun _ _ => ⟨rfl, e18, (by decide : 4 + 1 ≤ _), (by decide : 9 + 3 ≤ _)⟩)
        dsimp only [Pt.U, Pt.locs, Pt.cells, Pt.slots] at X20 l20 y20 z20 st20 hQ20
        subst l20 y20 z20
        obtain ⟨h20, e20⟩ : ∃ h, T20.heap = h := ⟨_, rfl⟩
        rw [e20] at hQ20
        obtain ⟨b0_20, rfl, N20q, K20q, O20, n_b0_20, z_b0_20, F20_0, F20_1, F20_2, F20_3⟩ := hQ20
        have N20 := Fr.app N18 N20q
        have sz_b0_20 : h0.size ≤ b0_20 := Nat.le_trans K18.1 z_b0_20
        have ne_b1_b0_20 : b1 ≠ b0_20 := Nat.ne_of_lt (Nat.lt_of_lt_of_le (((V3.ext E4).keep K5q (ninS ne_b1_b4 nin0)).keep K18q nin0).lt z_b0_20)
        have ne_b4_b0_20 : b4 ≠ b0_20 := Nat.ne_of_lt (Nat.lt_of_lt_of_le (A5.keep K18q).lt z_b0_20)
        have ne_t5_b0_20 : t5 ≠ b0_20 := Nat.ne_of_lt (Nat.lt_of_lt_of_le (B5.keep K18q nin0).lt z_b0_20)
        have ne_r0_18_b0_20 : r0_18 ≠ b0_20 := Nat.ne_of_lt (Nat.lt_of_lt_of_le F18_0.lt z_b0_20)
        have K20 := K18.trans K20q all0
        refine ob T20 (mkF mG 109 #[.val (.int i0), .val (.int i1), .val (.int i2), .val (.int i3), .val (.ref b1), .val (.ref b4), .val (.int (i0 &&& (3 : Int32))), .val (.ref r0_18), .val .null, .unset] [(.ref b0_20)]) (fun _ kk => st20 _ kk) ?_
        refine ob T20 (mkF mG 111 #[.val (.int i0), .val (.int i1), .val (.int i2), .val (.int i3), .val (.ref b1), .val (.ref b4), .val (.int (i0 &&& (3 : Int32))), .val (.ref r0_18), .val .null, .val (.ref b0_20)] []) (fun _ kk => XS.astore X20.here hx rfl (hb hby at_109) rfl rfl (l' := #[.val (.int i0), .val (.int i1), .val (.int i2), .val (.int i3), .val (.ref b1), .val (.ref b4), .val (.int (i0 &&& (3 : Int32))), .val (.ref r0_18), .val .null, .val (.ref b0_20)]) rfl kk) ?_
        refine ob T20 (mkF mG 113 #[.val (.int i0), .val (.int i1), .val (.int i2), .val (.int i3), .val (.ref b1), .val (.ref b4), .val (.int (i0 &&& (3 : Int32))), .val (.ref r0_18), .val .null, .val (.ref b0_20)] [(.ref b0_20)]) (fun _ kk => XS.aload X20.here hx rfl (hb hby at_111) rfl rfl kk) ?_
        obtain ⟨cq21, kq21, q21a, q21b, q21c⟩ := isOf hZ e20 F20_0
        obtain ⟨_, _, ⟨T21, L21, k21, n21⟩, -, X21, ⟨Lc21, hQ21, l21, y21, z21⟩, st21⟩ := X20.virtualBack hx (y := (⟨"com/example/llave/llave/io/Answer", "status", "()I"⟩ : MethodName)) (z := (⟨"com/example/llave/llave/io/Answer", "status", "()I"⟩ : MethodName)) hown (mvT hZ (ow hw 51 rfl)) (mvT hZ (ow hw 52 rfl)) (notFace_of_selects (args := #[]) (mvT hZ (ow hw 54 rfl))) (mvT hZ (ow hw 54 rfl)) (mvT hZ (ow hw 53 rfl)) (by decide) (backOf (W := 0) (rm_status l Z a0 hw [] w_cache c_cache zc b0_20 (201 : Int32) h20 n0 O20 hS F20_1) hZ (ow hw 55 rfl) (ow hw 32 rfl) (by decide) (by decide)) q21a q21c (g := (mkF mG 113 #[.val (.int i0), .val (.int i1), .val (.int i2), .val (.int i3), .val (.ref b1), .val (.ref b4), .val (.int (i0 &&& (3 : Int32))), .val (.ref r0_18), .val .null, .val (.ref b0_20)] [(.ref b0_20)])) rfl (by rw [hml]; rfl) (Steps.refl _) (argsL := []) (rest := []) (lenOf pd_5 rfl) rfl (by show 2 * 0 + _ ≤ _; exact Nat.le_of_eq rfl) (hb hby at_113) (fun _ _ => ⟨rfl, e20, (by decide : 5 + 0 ≤ _), (by decide : 12 + 0 ≤ _)⟩)
        dsimp only [Pt.U, Pt.locs, Pt.cells, Pt.slots] at X21 l21 y21 z21 st21 hQ21
        subst l21 y21 z21
        obtain ⟨rfl, N21q, e21⟩ := hQ21
        have N21 := Fr.app N20 N21q
        refine ob T21 (mkF mG 116 #[.val (.int i0), .val (.int i1), .val (.int i2), .val (.int i3), .val (.ref b1), .val (.ref b4), .val (.int (i0 &&& (3 : Int32))), .val (.ref r0_18), .val .null, .val (.ref b0_20)] [(.int (201 : Int32))]) (fun _ kk => st21.trans kk) ?_
        refine ob T21 (mkF mG 119 #[.val (.int i0), .val (.int i1), .val (.int i2), .val (.int i3), .val (.ref b1), .val (.ref b4), .val (.int (i0 &&& (3 : Int32))), .val (.ref r0_18), .val .null, .val (.ref b0_20)] [(.int (201 : Int32)), (.int (201 : Int32))]) (fun _ kk => XS.sipush X21.here hx rfl (hb hby at_116) kk) ?_
        refine ob T21 (mkF mG 122 #[.val (.int i0), .val (.int i1), .val (.int i2), .val (.int i3), .val (.ref b1), .val (.ref b4), .val (.int (i0 &&& (3 : Int32))), .val (.ref r0_18), .val .null, .val (.ref b0_20)] []) (fun _ kk => XS.icmpNo X21.here hx rfl (hb hby at_119) rfl (teq (by decide : (201 : Int32) = (201 : Int32))).2 kk) ?_
        refine ob T21 (mkF mG 124 #[.val (.int i0), .val (.int i1), .val (.int i2), .val (.int i3), .val (.ref b1), .val (.ref b4), .val (.int (i0 &&& (3 : Int32))), .val (.ref r0_18), .val .null, .val (.ref b0_20)] [(.ref b0_20)]) (fun _ kk => XS.aload X21.here hx rfl (hb hby at_122) rfl rfl kk) ?_
        obtain ⟨cq22, kq22, q22a, q22b, q22c⟩ := isOf hZ e21 F20_0
        obtain ⟨_, _, ⟨T22, L22, k22, n22⟩, -, X22, ⟨Lc22, hQ22, l22, y22, z22⟩, st22⟩ := X21.virtualBack hx (y := (⟨"com/example/llave/llave/io/Answer", "body", "()Ljava/lang/Object;"⟩ : MethodName)) (z := (⟨"com/example/llave/llave/io/Answer", "body", "()Ljava/lang/Object;"⟩ : MethodName)) hown (mvT hZ (ow hw 56 rfl)) (mvT hZ (ow hw 57 rfl)) (notFace_of_selects (args := #[]) (mvT hZ (ow hw 59 rfl))) (mvT hZ (ow hw 59 rfl)) (mvT hZ (ow hw 58 rfl)) (by decide) (backOf (W := 0) (rm_body1 l Z a0 hw [] w_cache c_cache zc b0_20 r0_18 h20 n0 O20 hS F20_2) hZ (ow hw 60 rfl) (ow hw 32 rfl) (by decide) (by decide)) q22a q22c (g := (mkF mG 124 #[.val (.int i0), .val (.int i1), .val (.int i2), .val (.int i3), .val (.ref b1), .val (.ref b4), .val (.int (i0 &&& (3 : Int32))), .val (.ref r0_18), .val .null, .val (.ref b0_20)] [(.ref b0_20)])) rfl (by rw [hml]; rfl) (Steps.refl _) (argsL := []) (rest := []) (lenOf pd_6 rfl) rfl (by show 2 * 0 + _ ≤ _; exact Nat.le_of_eq rfl) (hb hby at_124) (fun _ _ => ⟨rfl, e21, (by decide : 5 + 0 ≤ _), (by decide : 12 + 0 ≤ _)⟩)
        dsimp only [Pt.U, Pt.locs, Pt.cells, Pt.slots] at X22 l22 y22 z22 st22 hQ22
        subst l22 y22 z22
        obtain ⟨rfl, N22q, e22⟩ := hQ22
        have N22 := Fr.app N21 N22q
        refine ob T22 (mkF mG 127 #[.val (.int i0), .val (.int i1), .val (.int i2), .val (.int i3), .val (.ref b1), .val (.ref b4), .val (.int (i0 &&& (3 : Int32))), .val (.ref r0_18), .val .null, .val (.ref b0_20)] [(.ref r0_18)]) (fun _ kk => st22.trans kk) ?_
        refine ob T22 (mkF mG 129 #[.val (.int i0), .val (.int i1), .val (.int i2), .val (.int i3), .val (.ref b1), .val (.ref b4), .val (.int (i0 &&& (3 : Int32))), .val (.ref r0_18), .val .null, .val (.ref b0_20)] [(.ref r0_18), (.ref r0_18)]) (fun _ kk => XS.aload X22.here hx rfl (hb hby at_127) rfl rfl kk) ?_
        refine ob T22 (mkF mG 132 #[.val (.int i0), .val (.int i1), .val (.int i2), .val (.int i3), .val (.ref b1), .val (.ref b4), .val (.int (i0 &&& (3 : Int32))), .val (.ref r0_18), .val .null, .val (.ref b0_20)] []) (fun _ kk => Jvm.RoadKit.acmp (g := (mkF mG 129 #[.val (.int i0), .val (.int i1), .val (.int i2), .val (.int i3), .val (.ref b1), .val (.ref b4), .val (.int (i0 &&& (3 : Int32))), .val (.ref r0_18), .val .null, .val (.ref b0_20)] [(.ref r0_18), (.ref r0_18)])) X22 hx rfl rfl rfl (pc0 := 129) (pc' := 132) (same := true) rfl (hb hby at_129) rfl (decide_eq_true rfl) (by decide) (by decide) kk) ?_
        refine ob T22 (mkF mG 134 #[.val (.int i0), .val (.int i1), .val (.int i2), .val (.int i3), .val (.ref b1), .val (.ref b4), .val (.int (i0 &&& (3 : Int32))), .val (.ref r0_18), .val .null, .val (.ref b0_20)] [(.ref b0_20)]) (fun _ kk => XS.aload X22.here hx rfl (hb hby at_132) rfl rfl kk) ?_
        obtain ⟨cq23, kq23, q23a, q23b, q23c⟩ := isOf hZ e22 F20_0
        obtain ⟨_, _, ⟨T23, L23, k23, n23⟩, -, X23, ⟨Lc23, hQ23, l23, y23, z23⟩, st23⟩ := X22.virtualBack hx (y := (⟨"com/example/llave/llave/io/Answer", "location", "()Ljava/lang/String;"⟩ : MethodName)) (z := (⟨"com/example/llave/llave/io/Answer", "location", "()Ljava/lang/String;"⟩ : MethodName)) hown (mvT hZ (ow hw 61 rfl)) (mvT hZ (ow hw 62 rfl)) (notFace_of_selects (args := #[]) (mvT hZ (ow hw 64 rfl))) (mvT hZ (ow hw 64 rfl)) (mvT hZ (ow hw 63 rfl)) (by decide) (backOf (W := 0) (rm_location0 l Z a0 hw [] w_cache c_cache zc b0_20 h20 n0 O20 hS F20_3) hZ (ow hw 65 rfl) (ow hw 32 rfl) (by decide) (by decide)) q23a q23c (g := (mkF mG 134 #[.val (.int i0), .val (.int i1), .val (.int i2), .val (.int i3), .val (.ref b1), .val (.ref b4), .val (.int (i0 &&& (3 : Int32))), .val (.ref r0_18), .val .null, .val (.ref b0_20)] [(.ref b0_20)])) rfl (by rw [hml]; rfl) (Steps.refl _) (argsL := []) (rest := []) (lenOf pd_7 rfl) rfl (by show 2 * 0 + _ ≤ _; exact Nat.le_of_eq rfl) (hb hby at_134) (fun _ _ => ⟨rfl, e22, (by decide : 5 + 0 ≤ _), (by decide : 12 + 0 ≤ _)⟩)
        dsimp only [Pt.U, Pt.locs, Pt.cells, Pt.slots] at X23 l23 y23 z23 st23 hQ23
        subst l23 y23 z23
        obtain ⟨rfl, N23q, e23⟩ := hQ23
        have N23 := Fr.app N22 N23q
        refine ob T23 (mkF mG 137 #[.val (.int i0), .val (.int i1), .val (.int i2), .val (.int i3), .val (.ref b1), .val (.ref b4), .val (.int (i0 &&& (3 : Int32))), .val (.ref r0_18), .val .null, .val (.ref b0_20)] [.null]) (fun _ kk => st23.trans kk) ?_
        refine ob T23 (mkF mG 139 #[.val (.int i0), .val (.int i1), .val (.int i2), .val (.int i3), .val (.ref b1), .val (.ref b4), .val (.int (i0 &&& (3 : Int32))), .val (.ref r0_18), .val .null, .val (.ref b0_20)] [.null, .null]) (fun _ kk => XS.aload X23.here hx rfl (hb hby at_137) rfl rfl kk) ?_
        refine ob T23 (mkF mG 142 #[.val (.int i0), .val (.int i1), .val (.int i2), .val (.int i3), .val (.ref b1), .val (.ref b4), .val (.int (i0 &&& (3 : Int32))), .val (.ref r0_18), .val .null, .val (.ref b0_20)] []) (fun _ kk => Jvm.RoadKit.acmp (g := (mkF mG 139 #[.val (.int i0), .val (.int i1), .val (.int i2), .val (.int i3), .val (.ref b1), .val (.ref b4), .val (.int (i0 &&& (3 : Int32))), .val (.ref r0_18), .val .null, .val (.ref b0_20)] [.null, .null])) X23 hx rfl rfl rfl (pc0 := 139) (pc' := 142) (same := true) rfl (hb hby at_139) rfl (decide_eq_true rfl) (by decide) (by decide) kk) ?_
        refine ob T23 (mkF mG 143 #[.val (.int i0), .val (.int i1), .val (.int i2), .val (.int i3), .val (.ref b1), .val (.ref b4), .val (.int (i0 &&& (3 : Int32))), .val (.ref r0_18), .val .null, .val (.ref b0_20)] [(.int (1 : Int32))]) (fun _ kk => XS.iconst X23.here hx rfl (hb hby at_142) kk) ?_
        refine ob T23 (mkF mG 147 #[.val (.int i0), .val (.int i1), .val (.int i2), .val (.int i3), .val (.ref b1), .val (.ref b4), .val (.int (i0 &&& (3 : Int32))), .val (.ref r0_18), .val .null, .val (.ref b0_20)] [(.int (1 : Int32))]) (fun _ kk => XS.goto X23.here hx rfl (pc0 := 143) (pc' := 147) rfl (hb hby at_143) (by decide) (by decide) kk) ?_
        obtain ⟨fs, hr, hrun, hended, hW, hsame⟩ := X23.leave (v := some (.int (1 : Int32))) (fun h => by rw [Bd.returns] at h; cases h)
        refine oout (retN X23 hx (t := .boolean) Bd.returns (by simp) (hb hby at_147) hr) hrun hended ⟨_, _, rfl, ?_, ⟨_, rfl⟩, hW, hsame.mono (by decide) (by decide)⟩
        show Q_rm0 Z w_cache c_cache zc i0 i1 i2 i3 h0 n0 _ T23.heap _
        rw [e23]
        exact ⟨rfl, N23⟩
      · skip
        refine ob T18 (mkF mG 94 #[.val (.int i0), .val (.int i1), .val (.int i2), .val (.int i3), .val (.ref b1), .val (.ref b4), .val (.int (i0 &&& (3 : Int32))), .val (.ref r0_18), .unset, .unset] []) (fun _ kk => XS.ifNo X18.here hx rfl (hb hby at_91) rfl ((if0 _ _).trans (feq hc19).1) kk) ?_
        refine ob T18 (mkF mG 96 #[.val (.int i0), .val (.int i1), .val (.int i2), .val (.int i3), .val (.ref b1), .val (.ref b4), .val (.int (i0 &&& (3 : Int32))), .val (.ref r0_18), .unset, .unset] [(.ref b4)]) (fun _ kk => XS.aload X18.here hx rfl (hb hby at_94) rfl rfl kk) ?_
        refine ob T18 (mkF mG 100 #[.val (.int i0), .val (.int i1), .val (.int i2), .val (.int i3), .val (.ref b1), .val (.ref b4), .val (.int (i0 &&& (3 : Int32))), .val (.ref r0_18), .unset, .unset] [(.ref b4)]) (fun _ kk => XS.goto X18.here hx rfl (pc0 := 96) (pc' := 100) rfl (hb hby at_96) (by decide) (by decide) kk) ?_
        refine ob T18 (mkF mG 102 #[.val (.int i0), .val (.int i1), .val (.int i2), .val (.int i3), .val (.ref b1), .val (.ref b4), .val (.int (i0 &&& (3 : Int32))), .val (.ref r0_18), .val (.ref b4), .unset] []) (fun _ kk => XS.astore X18.here hx rfl (hb hby at_100) rfl rfl (l' := #[.val (.int i0), .val (.int i1), .val (.int i2), .val (.int i3), .val (.ref b1), .val (.ref b4), .val (.int (i0 &&& (3 : Int32))), .val (.ref r0_18), .val (.ref b4), .unset]) rfl kk) ?_
        refine ob T18 (mkF mG 104 #[.val (.int i0), .val (.int i1), .val (.int i2), .val (.int i3), .val (.ref b1), .val (.ref b4), .val (.int (i0 &&& (3 : Int32))), .val (.ref r0_18), .val (.ref b4), .unset] [(.ref r0_18)]) (fun _ kk => XS.aload X18.here hx rfl (hb hby at_102) rfl rfl kk) ?_
        refine ob T18 (mkF mG 106 #[.val (.int i0), .val (.int i1), .val (.int i2), .val (.int i3), .val (.ref b1), .val (.ref b4), .val (.int (i0 &&& (3 : Int32))), .val (.ref r0_18), .val (.ref b4), .unset] [(.ref b4), (.ref r0_18)]) (fun _ kk => XS.aload X18.here hx rfl (hb hby at_104) rfl rfl kk) ?_
        obtain ⟨_, _, ⟨T24, L24, k24, n24⟩, -, X24, ⟨Lc24, hQ24, l24, y24, z24⟩, st24⟩ := Jvm.LawKit.callS X18 hx (y := (⟨"com/example/llave/llave/io/Answer", "created", "(Ljava/lang/Object;Ljava/lang/String;)Lcom/example/llave/llave/io/Answer;"⟩ : MethodName)) hown (mvT hZ (ow hw 30 rfl)) (mvT hZ (ow hw 31 rfl)) (mvT hZ (ow hw 32 rfl)) (mvT hZ (ow hw 33 rfl)) (by decide) (backOf (W := 0) (rm_cr11 l Z a0 hw [] w_cache c_cache zc r0_18 b4 h18 n0 O18 hS ) hZ (ow hw 33 rfl) (ow hw 32 rfl) (by decide) (by decide)) (g := (mkF mG 106 #[.val (.int i0), .val (.int i1), .val (.int i2), .val (.int i3), .val (.ref b1), .val (.ref b4), .val (.int (i0 &&& (3 : Int32))), .val (.ref r0_18), .val (.ref b4), .unset] [(.ref b4), (.ref r0_18)])) rfl (by rw [hml]; rfl) (argsL := [(.ref r0_18), (.ref b4)]) (rest := []) (lenOf pd_4 rfl) rfl (by show 2 * 0 + _ ≤ _; exact Nat.le_of_eq rfl) (hb hby at_106) (fun _ _ => ⟨rfl, e18, (by decide : 4 + 1 ≤ _), (by decide : 9 + 3 ≤ _)⟩)
        dsimp only [Pt.U, Pt.locs, Pt.cells, Pt.slots] at X24 l24 y24 z24 st24 hQ24
        subst l24 y24 z24
        obtain ⟨h24, e24⟩ : ∃ h, T24.heap = h := ⟨_, rfl⟩
        rw [e24] at hQ24
        obtain ⟨b0_24, rfl, N24q, K24q, O24, n_b0_24, z_b0_24, F24_0, F24_1, F24_2, F24_3⟩ := hQ24
        have N24 := Fr.app N18 N24q
        have sz_b0_24 : h0.size ≤ b0_24 := Nat.le_trans K18.1 z_b0_24
        have ne_b1_b0_24 : b1 ≠ b0_24 := Nat.ne_of_lt (Nat.lt_of_lt_of_le (((V3.ext E4).keep K5q (ninS ne_b1_b4 nin0)).keep K18q nin0).lt z_b0_24)
        have ne_b4_b0_24 : b4 ≠ b0_24 := Nat.ne_of_lt (Nat.lt_of_lt_of_le (A5.keep K18q).lt z_b0_24)
        have ne_t5_b0_24 : t5 ≠ b0_24 := Nat.ne_of_lt (Nat.lt_of_lt_of_le (B5.keep K18q nin0).lt z_b0_24)
        have ne_r0_18_b0_24 : r0_18 ≠ b0_24 := Nat.ne_of_lt (Nat.lt_of_lt_of_le F18_0.lt z_b0_24)
        have K24 := K18.trans K24q all0
        refine ob T24 (mkF mG 109 #[.val (.int i0), .val (.int i1), .val (.int i2), .val (.int i3), .val (.ref b1), .val (.ref b4), .val (.int (i0 &&& (3 : Int32))), .val (.ref r0_18), .val (.ref b4), .unset] [(.ref b0_24)]) (fun _ kk => st24 _ kk) ?_
        refine ob T24 (mkF mG 111 #[.val (.int i0), .val (.int i1), .val (.int i2), .val (.int i3), .val (.ref b1), .val (.ref b4), .val (.int (i0 &&& (3 : Int32))), .val (.ref r0_18), .val (.ref b4), .val (.ref b0_24)] []) (fun _ kk => XS.astore X24.here hx rfl (hb hby at_109) rfl rfl (l' := #[.val (.int i0), .val (.int i1), .val (.int i2), .val (.int i3), .val (.ref b1), .val (.ref b4), .val (.int (i0 &&& (3 : Int32))), .val (.ref r0_18), .val (.ref b4), .val (.ref b0_24)]) rfl kk) ?_
        refine ob T24 (mkF mG 113 #[.val (.int i0), .val (.int i1), .val (.int i2), .val (.int i3), .val (.ref b1), .val (.ref b4), .val (.int (i0 &&& (3 : Int32))), .val (.ref r0_18), .val (.ref b4), .val (.ref b0_24)] [(.ref b0_24)]) (fun _ kk => XS.aload X24.here hx rfl (hb hby at_111) rfl rfl kk) ?_
        obtain ⟨cq25, kq25, q25a, q25b, q25c⟩ := isOf hZ e24 F24_0
        obtain ⟨_, _, ⟨T25, L25, k25, n25⟩, -, X25, ⟨Lc25, hQ25, l25, y25, z25⟩, st25⟩ := X24.virtualBack hx (y := (⟨"com/example/llave/llave/io/Answer", "status", "()I"⟩ : MethodName)) (z := (⟨"com/example/llave/llave/io/Answer", "status", "()I"⟩ : MethodName)) hown (mvT hZ (ow hw 51 rfl)) (mvT hZ (ow hw 52 rfl)) (notFace_of_selects (args := #[]) (mvT hZ (ow hw 54 rfl))) (mvT hZ (ow hw 54 rfl)) (mvT hZ (ow hw 53 rfl)) (by decide) (backOf (W := 0) (rm_status l Z a0 hw [] w_cache c_cache zc b0_24 (201 : Int32) h24 n0 O24 hS F24_1) hZ (ow hw 55 rfl) (ow hw 32 rfl) (by decide) (by decide)) q25a q25c (g := (mkF mG 113 #[.val (.int i0), .val (.int i1), .val (.int i2), .val (.int i3), .val (.ref b1), .val (.ref b4), .val (.int (i0 &&& (3 : Int32))), .val (.ref r0_18), .val (.ref b4), .val (.ref b0_24)] [(.ref b0_24)])) rfl (by rw [hml]; rfl) (Steps.refl _) (argsL := []) (rest := []) (lenOf pd_5 rfl) rfl (by show 2 * 0 + _ ≤ _; exact Nat.le_of_eq rfl) (hb hby at_113) (fun _ _ => ⟨rfl, e24, (by decide : 5 + 0 ≤ _), (by decide : 12 + 0 ≤ _)⟩)
        dsimp only [Pt.U, Pt.locs, Pt.cells, Pt.slots] at X25 l25 y25 z25 st25 hQ25
        subst l25 y25 z25
        obtain ⟨rfl, N25q, e25⟩ := hQ25
        have N25 := Fr.app N24 N25q
        refine ob T25 (mkF mG 116 #[.val (.int i0), .val (.int i1), .val (.int i2), .val (.int i3), .val (.ref b1), .val (.ref b4), .val (.int (i0 &&& (3 : Int32))), .val (.ref r0_18), .val (.ref b4), .val (.ref b0_24)] [(.int (201 : Int32))]) (fun _ kk => st25.trans kk) ?_
        refine ob T25 (mkF mG 119 #[.val (.int i0), .val (.int i1), .val (.int i2), .val (.int i3), .val (.ref b1), .val (.ref b4), .val (.int (i0 &&& (3 : Int32))), .val (.ref r0_18), .val (.ref b4), .val (.ref b0_24)] [(.int (201 : Int32)), (.int (201 : Int32))]) (fun _ kk => XS.sipush X25.here hx rfl (hb hby at_116) kk) ?_
        refine ob T25 (mkF mG 122 #[.val (.int i0), .val (.int i1), .val (.int i2), .val (.int i3), .val (.ref b1), .val (.ref b4), .val (.int (i0 &&& (3 : Int32))), .val (.ref r0_18), .val (.ref b4), .val (.ref b0_24)] []) (fun _ kk => XS.icmpNo X25.here hx rfl (hb hby at_119) rfl (teq (by decide : (201 : Int32) = (201 : Int32))).2 kk) ?_
        refine ob T25 (mkF mG 124 #[.val (.int i0), .val (.int i1), .val (.int i2), .val (.int i3), .val (.ref b1), .val (.ref b4), .val (.int (i0 &&& (3 : Int32))), .val (.ref r0_18), .val (.ref b4), .val (.ref b0_24)] [(.ref b0_24)]) (fun _ kk => XS.aload X25.here hx rfl (hb hby at_122) rfl rfl kk) ?_
        obtain ⟨cq26, kq26, q26a, q26b, q26c⟩ := isOf hZ e25 F24_0
        obtain ⟨_, _, ⟨T26, L26, k26, n26⟩, -, X26, ⟨Lc26, hQ26, l26, y26, z26⟩, st26⟩ := X25.virtualBack hx (y := (⟨"com/example/llave/llave/io/Answer", "body", "()Ljava/lang/Object;"⟩ : MethodName)) (z := (⟨"com/example/llave/llave/io/Answer", "body", "()Ljava/lang/Object;"⟩ : MethodName)) hown (mvT hZ (ow hw 56 rfl)) (mvT hZ (ow hw 57 rfl)) (notFace_of_selects (args := #[]) (mvT hZ (ow hw 59 rfl))) (mvT hZ (ow hw 59 rfl)) (mvT hZ (ow hw 58 rfl)) (by decide) (backOf (W := 0) (rm_body1 l Z a0 hw [] w_cache c_cache zc b0_24 r0_18 h24 n0 O24 hS F24_2) hZ (ow hw 60 rfl) (ow hw 32 rfl) (by decide) (by decide)) q26a q26c (g := (mkF mG 124 #[.val (.int i0), .val (.int i1), .val (.int i2), .val (.int i3), .val (.ref b1), .val (.ref b4), .val (.int (i0 &&& (3 : Int32))), .val (.ref r0_18), .val (.ref b4), .val (.ref b0_24)] [(.ref b0_24)])) rfl (by rw [hml]; rfl) (Steps.refl _) (argsL := []) (rest := []) (lenOf pd_6 rfl) rfl (by show 2 * 0 + _ ≤ _; exact Nat.le_of_eq rfl) (hb hby at_124) (fun _ _ => ⟨rfl, e25, (by decide : 5 + 0 ≤ _), (by decide : 12 + 0 ≤ _)⟩)
        dsimp only [Pt.U, Pt.locs, Pt.cells, Pt.slots] at X26 l26 y26 z26 st26 hQ26
        subst l26 y26 z26
        obtain ⟨rfl, N26q, e26⟩ := hQ26
        have N26 := Fr.app N25 N26q
        refine ob T26 (mkF mG 127 #[.val (.int i0), .val (.int i1), .val (.int i2), .val (.int i3), .val (.ref b1), .val (.ref b4), .val (.int (i0 &&& (3 : Int32))), .val (.ref r0_18), .val (.ref b4), .val (.ref b0_24)] [(.ref r0_18)]) (fun _ kk => st26.trans kk) ?_
        refine ob T26 (mkF mG 129 #[.val (.int i0), .val (.int i1), .val (.int i2), .val (.int i3), .val (.ref b1), .val (.ref b4), .val (.int (i0 &&& (3 : Int32))), .val (.ref r0_18), .val (.ref b4), .val (.ref b0_24)] [(.ref r0_18), (.ref r0_18)]) (fun _ kk => XS.aload X26.here hx rfl (hb hby at_127) rfl rfl kk) ?_
        refine ob T26 (mkF mG 132 #[.val (.int i0), .val (.int i1), .val (.int i2), .val (.int i3), .val (.ref b1), .val (.ref b4), .val (.int (i0 &&& (3 : Int32))), .val (.ref r0_18), .val (.ref b4), .val (.ref b0_24)] []) (fun _ kk => Jvm.RoadKit.acmp (g := (mkF mG 129 #[.val (.int i0), .val (.int i1), .val (.int i2), .val (.int i3), .val (.ref b1), .val (.ref b4), .val (.int (i0 &&& (3 : Int32))), .val (.ref r0_18), .val (.ref b4), .val (.ref b0_24)] [(.ref r0_18), (.ref r0_18)])) X26 hx rfl rfl rfl (pc0 := 129) (pc' := 132) (same := true) rfl (hb hby at_129) rfl (decide_eq_true rfl) (by decide) (by decide) kk) ?_
        refine ob T26 (mkF mG 134 #[.val (.int i0), .val (.int i1), .val (.int i2), .val (.int i3), .val (.ref b1), .val (.ref b4), .val (.int (i0 &&& (3 : Int32))), .val (.ref r0_18), .val (.ref b4), .val (.ref b0_24)] [(.ref b0_24)]) (fun _ kk => XS.aload X26.here hx rfl (hb hby at_132) rfl rfl kk) ?_
        obtain ⟨cq27, kq27, q27a, q27b, q27c⟩ := isOf hZ e26 F24_0
        obtain ⟨_, _, ⟨T27, L27, k27, n27⟩, -, X27, ⟨Lc27, hQ27, l27, y27, z27⟩, st27⟩ := X26.virtualBack hx (y := (⟨"com/example/llave/llave/io/Answer", "location", "()Ljava/lang/String;"⟩ : MethodName)) (z := (⟨"com/example/llave/llave/io/Answer", "location", "()Ljava/lang/String;"⟩ : MethodName)) hown (mvT hZ (ow hw 61 rfl)) (mvT hZ (ow hw 62 rfl)) (notFace_of_selects (args := #[]) (mvT hZ (ow hw 64 rfl))) (mvT hZ (ow hw 64 rfl)) (mvT hZ (ow hw 63 rfl)) (by decide) (backOf (W := 0) (rm_location1 l Z a0 hw [] w_cache c_cache zc b0_24 b4 h24 n0 O24 hS F24_3) hZ (ow hw 65 rfl) (ow hw 32 rfl) (by decide) (by decide)) q27a q27c (g := (mkF mG 134 #[.val (.int i0), .val (.int i1), .val (.int i2), .val (.int i3), .val (.ref b1), .val (.ref b4), .val (.int (i0 &&& (3 : Int32))), .val (.ref r0_18), .val (.ref b4), .val (.ref b0_24)] [(.ref b0_24)])) rfl (by rw [hml]; rfl) (Steps.refl _) (argsL := []) (rest := []) (lenOf pd_7 rfl) rfl (by show 2 * 0 + _ ≤ _; exact Nat.le_of_eq rfl) (hb hby at_134) (fun _ _ => ⟨rfl, e26, (by decide : 5 + 0 ≤ _), (by decide : 12 + 0 ≤ _)⟩)
        dsimp only [Pt.U, Pt.locs, Pt.cells, Pt.slots] at X27 l27 y27 z27 st27 hQ27
        subst l27 y27 z27
        obtain ⟨rfl, N27q, e27⟩ := hQ27
        have N27 := Fr.app N26 N27q
        refine ob T27 (mkF mG 137 #[.val (.int i0), .val (.int i1), .val (.int i2), .val (.int i3), .val (.ref b1), .val (.ref b4), .val (.int (i0 &&& (3 : Int32))), .val (.ref r0_18), .val (.ref b4), .val (.ref b0_24)] [(.ref b4)]) (fun _ kk => st27.trans kk) ?_
        refine ob T27 (mkF mG 139 #[.val (.int i0), .val (.int i1), .val (.int i2), .val (.int i3), .val (.ref b1), .val (.ref b4), .val (.int (i0 &&& (3 : Int32))), .val (.ref r0_18), .val (.ref b4), .val (.ref b0_24)] [(.ref b4), (.ref b4)]) (fun _ kk => XS.aload X27.here hx rfl (hb hby at_137) rfl rfl kk) ?_
        refine ob T27 (mkF mG 142 #[.val (.int i0), .val (.int i1), .val (.int i2), .val (.int i3), .val (.ref b1), .val (.ref b4), .val (.int (i0 &&& (3 : Int32))), .val (.ref r0_18), .val (.ref b4), .val (.ref b0_24)] []) (fun _ kk => Jvm.RoadKit.acmp (g := (mkF mG 139 #[.val (.int i0), .val (.int i1), .val (.int i2), .val (.int i3), .val (.ref b1), .val (.ref b4), .val (.int (i0 &&& (3 : Int32))), .val (.ref r0_18), .val (.ref b4), .val (.ref b0_24)] [(.ref b4), (.ref b4)])) X27 hx rfl rfl rfl (pc0 := 139) (pc' := 142) (same := true) rfl (hb hby at_139) rfl (decide_eq_true rfl) (by decide) (by decide) kk) ?_
        refine ob T27 (mkF mG 143 #[.val (.int i0), .val (.int i1), .val (.int i2), .val (.int i3), .val (.ref b1), .val (.ref b4), .val (.int (i0 &&& (3 : Int32))), .val (.ref r0_18), .val (.ref b4), .val (.ref b0_24)] [(.int (1 : Int32))]) (fun _ kk => XS.iconst X27.here hx rfl (hb hby at_142) kk) ?_
        refine ob T27 (mkF mG 147 #[.val (.int i0), .val (.int i1), .val (.int i2), .val (.int i3), .val (.ref b1), .val (.ref b4), .val (.int (i0 &&& (3 : Int32))), .val (.ref r0_18), .val (.ref b4), .val (.ref b0_24)] [(.int (1 : Int32))]) (fun _ kk => XS.goto X27.here hx rfl (pc0 := 143) (pc' := 147) rfl (hb hby at_143) (by decide) (by decide) kk) ?_
        obtain ⟨fs, hr, hrun, hended, hW, hsame⟩ := X27.leave (v := some (.int (1 : Int32))) (fun h => by rw [Bd.returns] at h; cases h)
        refine oout (retN X27 hx (t := .boolean) Bd.returns (by simp) (hb hby at_147) hr) hrun hended ⟨_, _, rfl, ?_, ⟨_, rfl⟩, hW, hsame.mono (by decide) (by decide)⟩
        show Q_rm0 Z w_cache c_cache zc i0 i1 i2 i3 h0 n0 _ T27.heap _
        rw [e27]
        exact ⟨rfl, N27⟩
    · skip
      refine ob T5 (mkF mG 65 #[.val (.int i0), .val (.int i1), .val (.int i2), .val (.int i3), .val (.ref b1), .val (.ref b4), .val (.int (i0 &&& (3 : Int32))), .unset, .unset, .unset] []) (fun _ kk => XS.icmpYes X5.here hx rfl (pc0 := 53) (pc' := 65) rfl (hb hby at_53) rfl (feq hc17).2 (by decide) (by decide) kk) ?_
      obtain ⟨T28, h28, X28, e28, E28, A28, D28, _x28, st28⟩ := newO X5 hx hZ hown (ow hw 1 rfl) (ow hw 2 rfl) (ow hw 3 rfl) e5 (g := (mkF mG 65 #[.val (.int i0), .val (.int i1), .val (.int i2), .val (.int i3), .val (.ref b1), .val (.ref b4), .val (.int (i0 &&& (3 : Int32))), .unset, .unset, .unset] [])) rfl (hb hby at_65) (by decide) (by decide)
      obtain ⟨b28, g28⟩ : ∃ z, z = h5.size := ⟨_, rfl⟩
      rw [← g28] at A28 D28 st28
      have n_b28 : n0 ≤ b28 := Nat.le_trans (on0 O5) (Nat.le_of_eq g28.symm)
      have sz_b28 : h0.size ≤ b28 := Nat.le_trans K5.1 (Nat.le_of_eq g28.symm)
      have ne_b1_b28 : b1 ≠ b28 := Nat.ne_of_lt (Nat.lt_of_lt_of_le ((V3.ext E4).keep K5q (ninS ne_b1_b4 nin0)).lt (Nat.le_of_eq g28.symm))
      have ne_b4_b28 : b4 ≠ b28 := Nat.ne_of_lt (Nat.lt_of_lt_of_le A5.lt (Nat.le_of_eq g28.symm))
      have ne_t5_b28 : t5 ≠ b28 := Nat.ne_of_lt (Nat.lt_of_lt_of_le B5.lt (Nat.le_of_eq g28.symm))
      have O28 := O5.ext E28
      have K28 := K5.ext E28
      have F28_27 : Fld Z h28 b28 "java/lang/String" "coder" "B" (.int (0 : Int32)) := D28 (Or.inr (ow hw 27 rfl)) (ty := .byte) (by decide)
      have F28_29 : Fld Z h28 b28 "java/lang/String" "value" "[B" .null := D28 (Or.inr (ow hw 29 rfl)) (ty := (.array .byte)) (by decide)
      refine ob T28 (mkF mG 68 #[.val (.int i0), .val (.int i1), .val (.int i2), .val (.int i3), .val (.ref b1), .val (.ref b4), .val (.int (i0 &&& (3 : Int32))), .unset, .unset, .unset] [(.ref b28)]) (fun _ kk => st28 _ kk) ?_
      refine ob T28 (mkF mG 69 #[.val (.int i0), .val (.int i1), .val (.int i2), .val (.int i3), .val (.ref b1), .val (.ref b4), .val (.int (i0 &&& (3 : Int32))), .unset, .unset, .unset] [(.ref b28), (.ref b28)]) (fun _ kk => XS.dup X28.here hx rfl (hb hby at_68) rfl rfl kk) ?_
      refine ob T28 (mkF mG 70 #[.val (.int i0), .val (.int i1), .val (.int i2), .val (.int i3), .val (.ref b1), .val (.ref b4), .val (.int (i0 &&& (3 : Int32))), .unset, .unset, .unset] [(.int (1 : Int32)), (.ref b28), (.ref b28)]) (fun _ kk => XS.iconst X28.here hx rfl (hb hby at_69) kk) ?_
      obtain ⟨T29, h29, k29, X29, e29, E29, A29, st29⟩ := newP X28 hx hZ (ow hw 0 rfl) e28 (g := (mkF mG 70 #[.val (.int i0), .val (.int i1), .val (.int i2), .val (.int i3), .val (.ref b1), .val (.ref b4), .val (.int (i0 &&& (3 : Int32))), .unset, .unset, .unset] [(.int (1 : Int32)), (.ref b28), (.ref b28)])) rfl (hb hby at_70) rfl (by decide) (cap := 1) (by decide) (by decide) (by decide) (by decide)
      obtain ⟨b29, g29⟩ : ∃ z, z = h28.size := ⟨_, rfl⟩
      rw [← g29] at A29 st29
      have n_b29 : n0 ≤ b29 := Nat.le_trans (on0 O28) (Nat.le_of_eq g29.symm)
      have sz_b29 : h0.size ≤ b29 := Nat.le_trans K28.1 (Nat.le_of_eq g29.symm)
      have ne_b1_b29 : b1 ≠ b29 := Nat.ne_of_lt (Nat.lt_of_lt_of_le (((V3.ext E4).keep K5q (ninS ne_b1_b4 nin0)).ext E28).lt (Nat.le_of_eq g29.symm))
      have ne_b4_b29 : b4 ≠ b29 := Nat.ne_of_lt (Nat.lt_of_lt_of_le (A5.ext E28).lt (Nat.le_of_eq g29.symm))
      have ne_t5_b29 : t5 ≠ b29 := Nat.ne_of_lt (Nat.lt_of_lt_of_le (B5.ext E28).lt (Nat.le_of_eq g29.symm))
      have ne_b28_b29 : b28 ≠ b29 := Nat.ne_of_lt (Nat.lt_of_lt_of_le A28.lt (Nat.le_of_eq g29.symm))
      have O29 := O28.ext E29
      have K29 := K28.ext E29
      have V29 : Arv Z h29 b29 k29 .char (1 : Int32) [(.int (0 : Int32))] (.int (0 : Int32)) := (Arv.new A29 (by decide)).pad (pad_rep [] (.int (0 : Int32)) 1)
      refine ob T29 (mkF mG 72 #[.val (.int i0), .val (.int i1), .val (.int i2), .val (.int i3), .val (.ref b1), .val (.ref b4), .val (.int (i0 &&& (3 : Int32))), .unset, .unset, .unset] [(.ref b29), (.ref b28), (.ref b28)]) (fun _ kk => st29 _ kk) ?_
      refine ob T29 (mkF mG 73 #[.val (.int i0), .val (.int i1), .val (.int i2), .val (.int i3), .val (.ref b1), .val (.ref b4), .val (.int (i0 &&& (3 : Int32))), .unset, .unset, .unset] [(.ref b29), (.ref b29), (.ref b28), (.ref b28)]) (fun _ kk => XS.dup X29.here hx rfl (hb hby at_72) rfl rfl kk) ?_
      refine ob T29 (mkF mG 74 #[.val (.int i0), .val (.int i1), .val (.int i2), .val (.int i3), .val (.ref b1), .val (.ref b4), .val (.int (i0 &&& (3 : Int32))), .unset, .unset, .unset] [(.int (0 : Int32)), (.ref b29), (.ref b29), (.ref b28), (.ref b28)]) (fun _ kk => XS.iconst X29.here hx rfl (hb hby at_73) kk) ?_
      refine ob T29 (mkF mG 75 #[.val (.int i0), .val (.int i1), .val (.int i2), .val (.int i3), .val (.ref b1), .val (.ref b4), .val (.int (i0 &&& (3 : Int32))), .unset, .unset, .unset] [(.int i2), (.int (0 : Int32)), (.ref b29), (.ref b29), (.ref b28), (.ref b28)]) (fun _ kk => XS.iloadN X29.here hx rfl (hb hby at_74) rfl kk) ?_
      refine ob T29 (mkF mG 78 #[.val (.int i0), .val (.int i1), .val (.int i2), .val (.int i3), .val (.ref b1), .val (.ref b4), .val (.int (i0 &&& (3 : Int32))), .unset, .unset, .unset] [(.int (255 : Int32)), (.int i2), (.int (0 : Int32)), (.ref b29), (.ref b29), (.ref b28), (.ref b28)]) (fun _ kk => XS.sipush X29.here hx rfl (hb hby at_75) kk) ?_
      refine ob T29 (mkF mG 79 #[.val (.int i0), .val (.int i1), .val (.int i2), .val (.int i3), .val (.ref b1), .val (.ref b4), .val (.int (i0 &&& (3 : Int32))), .unset, .unset, .unset] [(.int (i2 &&& (255 : Int32))), (.int (0 : Int32)), (.ref b29), (.ref b29), (.ref b28), (.ref b28)]) (fun _ kk => XS.iand X29.here hx rfl (hb hby at_78) rfl kk) ?_
      refine ob T29 (mkF mG 80 #[.val (.int i0), .val (.int i1), .val (.int i2), .val (.int i3), .val (.ref b1), .val (.ref b4), .val (.int (i0 &&& (3 : Int32))), .unset, .unset, .unset] [(.int ((i2 &&& (255 : Int32)).toUInt32.toUInt16.toUInt32.toInt32)), (.int (0 : Int32)), (.ref b29), (.ref b29), (.ref b28), (.ref b28)]) (fun _ kk => XS.i2c X29.here hx rfl (hb hby at_79) rfl kk) ?_
      obtain ⟨cl30, Ar30, q30, S30, N30a, H30, G30⟩ := id V29
      have hin30 : ¬ ((0 : Int32) < 0 ∨ cl30.slots.size ≤ ((0 : Int32)).toNatClampNeg) := inb_of S30 ⟨by decide, by decide⟩
      obtain ⟨T30, h30, X30, e30, W30, st30⟩ := stC X29 hx hZ e29 Ar30 (j := (0 : Int32)) hin30 (g := (mkF mG 80 #[.val (.int i0), .val (.int i1), .val (.int i2), .val (.int i3), .val (.ref b1), .val (.ref b4), .val (.int (i0 &&& (3 : Int32))), .unset, .unset, .unset] [(.int ((i2 &&& (255 : Int32)).toUInt32.toUInt16.toUInt32.toInt32)), (.int (0 : Int32)), (.ref b29), (.ref b29), (.ref b28), (.ref b28)])) rfl rfl (hb hby at_80)
      have V30 : Arv Z h30 b29 k29 .char (1 : Int32) [(.int (nar .char ((i2 &&& (255 : Int32)).toUInt32.toUInt16.toUInt32.toInt32)))] (.int (0 : Int32)) := Arv.set Ar30 q30 S30 N30a H30 G30 (fits_nar_char _) W30 0 rfl (Nat.le_of_ble_eq_true rfl)
      have O30 := O29.wr W30 n_b29
      have K30 := K29.wr W30 (Or.inr sz_b29)
      have N30 := Fr.snoc X30 N5 n_b29
      refine ob T30 (mkF mG 81 #[.val (.int i0), .val (.int i1), .val (.int i2), .val (.int i3), .val (.ref b1), .val (.ref b4), .val (.int (i0 &&& (3 : Int32))), .unset, .unset, .unset] [(.ref b29), (.ref b28), (.ref b28)]) (fun _ kk => st30 _ kk) ?_
      have hp32 : ∀ c ∈ ([(nar .char ((i2 &&& (255 : Int32)).toUInt32.toUInt16.toUInt32.toInt32))] : List Int32), ¬ c < 0 ∧ ¬ (255 : Int32) < c := by
        intro c hc
        simp only [List.mem_cons, List.not_mem_nil, or_false] at hc
        subst hc
        exact (own_and255 i2)
      obtain ⟨_, _, ⟨T31, L31, k31, n31⟩, -, X31, ⟨Lc31, hQ31, l31, y31, z31⟩, st31⟩ := X30.specialBack hx (y := (⟨"java/lang/String", "<init>", "([C)V"⟩ : MethodName)) rfl hown (mvT hZ (ow hw 4 rfl)) (mvT hZ (ow hw 5 rfl)) (mvT hZ (ow hw 6 rfl)) (by decide) (StrChars.Road.backV (W := 1) hZ hws (kI := 4) (ow hw 2 rfl) (cs := ([(nar .char ((i2 &&& (255 : Int32)).toUInt32.toUInt16.toUInt32.toInt32))] : List Int32)) (bs := ([(nar .char ((i2 &&& (255 : Int32)).toUInt32.toUInt16.toUInt32.toInt32))] : List Int32).map (fun c => c.toInt8.toInt32)) (n := 1) n_b28 (on0 O30) ((A28.ext E29).wr W30) ((F28_29.ext E29).other W30 (Or.inl ne_b28_b29)) ((F28_27.ext E29).other W30 (Or.inl ne_b28_b29)) V30 (S_zc.ext O30.2) hzc rfl rfl (by decide) (by decide) hp32 rfl (by decide) (by decide)) (g := (mkF mG 81 #[.val (.int i0), .val (.int i1), .val (.int i2), .val (.int i3), .val (.ref b1), .val (.ref b4), .val (.int (i0 &&& (3 : Int32))), .unset, .unset, .unset] [(.ref b29), (.ref b28), (.ref b28)])) rfl (by rw [hml]; rfl) (Steps.refl _) (a := b28) (argsL := [(.ref b29)]) (rest := [(.ref b28)]) (lenOf pd_3 rfl) rfl (by show 2 * 0 + _ ≤ _; exact Nat.le_of_eq rfl) (hb hby at_81) (fun _ _ => ⟨rfl, e30, (by decide : 5 + 1 ≤ _), (by decide : 13 + 1 ≤ _)⟩)
      dsimp only [Pt.U, Pt.locs, Pt.cells, Pt.slots] at X31 l31 y31 z31 st31 hQ31
      subst l31 y31 z31
      obtain ⟨h31, e31⟩ : ∃ h, T31.heap = h := ⟨_, rfl⟩
      rw [e31] at hQ31
      obtain ⟨rfl, N31q, K31q, A31, C31, t31, kb31, n_t31, z_t31, nt31, V31, B31⟩ := hQ31
      have hcd31 : StrChars.Road.CodA ([(nar .char ((i2 &&& (255 : Int32)).toUInt32.toUInt16.toUInt32.toInt32))] : List Int32) 0 (1 : Int32) ((([(nar .char ((i2 &&& (255 : Int32)).toUInt32.toUInt16.toUInt32.toInt32))] : List Int32).map (fun c => c.toInt8.toInt32)).map Value.int) := StrChars.Road.codOf (n := 1) rfl (fun c hc => (hp32 c hc).2)
      have N31 := Fr.app N30 N31q
      have sz_t31 : h0.size ≤ t31 := Nat.le_trans K30.1 z_t31
      have ne_b1_t31 : b1 ≠ t31 := Nat.ne_of_lt (Nat.lt_of_lt_of_le (((((V3.ext E4).keep K5q (ninS ne_b1_b4 nin0)).ext E28).ext E29).other W30 ne_b1_b29).lt z_t31)
      have ne_b4_t31 : b4 ≠ t31 := Nat.ne_of_lt (Nat.lt_of_lt_of_le (((A5.ext E28).ext E29).wr W30).lt z_t31)
      have ne_t5_t31 : t5 ≠ t31 := Nat.ne_of_lt (Nat.lt_of_lt_of_le (((B5.ext E28).ext E29).other W30 ne_t5_b29).lt z_t31)
      have ne_b28_t31 : b28 ≠ t31 := Nat.ne_of_lt (Nat.lt_of_lt_of_le ((A28.ext E29).wr W30).lt z_t31)
      have ne_b29_t31 : b29 ≠ t31 := Nat.ne_of_lt (Nat.lt_of_lt_of_le V30.lt z_t31)
      have ne_b28_t31x : b28 ≠ t31 := fun q => nt31 q.symm
      have O31 := O30.keep K31q (allS n_b28 all0)
      have K31 := K30.trans K31q (allS (Or.inr sz_b28) all0)
      refine ob T31 (mkF mG 84 #[.val (.int i0), .val (.int i1), .val (.int i2), .val (.int i3), .val (.ref b1), .val (.ref b4), .val (.int (i0 &&& (3 : Int32))), .unset, .unset, .unset] [(.ref b28)]) (fun _ kk => st31.trans kk) ?_
      refine ob T31 (mkF mG 86 #[.val (.int i0), .val (.int i1), .val (.int i2), .val (.int i3), .val (.ref b1), .val (.ref b4), .val (.int (i0 &&& (3 : Int32))), .val (.ref b28), .unset, .unset] []) (fun _ kk => XS.astore X31.here hx rfl (hb hby at_84) rfl rfl (l' := #[.val (.int i0), .val (.int i1), .val (.int i2), .val (.int i3), .val (.ref b1), .val (.ref b4), .val (.int (i0 &&& (3 : Int32))), .val (.ref b28), .unset, .unset]) rfl kk) ?_
      refine ob T31 (mkF mG 87 #[.val (.int i0), .val (.int i1), .val (.int i2), .val (.int i3), .val (.ref b1), .val (.ref b4), .val (.int (i0 &&& (3 : Int32))), .val (.ref b28), .unset, .unset] [(.int i0)]) (fun _ kk => XS.iloadN X31.here hx rfl (hb hby at_86) rfl kk) ?_
      refine ob T31 (mkF mG 88 #[.val (.int i0), .val (.int i1), .val (.int i2), .val (.int i3), .val (.ref b1), .val (.ref b4), .val (.int (i0 &&& (3 : Int32))), .val (.ref b28), .unset, .unset] [(.int (2 : Int32)), (.int i0)]) (fun _ kk => XS.iconst X31.here hx rfl (hb hby at_87) kk) ?_
      refine ob T31 (mkF mG 89 #[.val (.int i0), .val (.int i1), .val (.int i2), .val (.int i3), .val (.ref b1), .val (.ref b4), .val (.int (i0 &&& (3 : Int32))), .val (.ref b28), .unset, .unset] [(.int (i0 >>> ((2 : Int32) &&& 31)))]) (fun _ kk => XS.ishr X31.here hx rfl (hb hby at_88) rfl kk) ?_
      refine ob T31 (mkF mG 90 #[.val (.int i0), .val (.int i1), .val (.int i2), .val (.int i3), .val (.ref b1), .val (.ref b4), .val (.int (i0 &&& (3 : Int32))), .val (.ref b28), .unset, .unset] [(.int (1 : Int32)), (.int (i0 >>> ((2 : Int32) &&& 31)))]) (fun _ kk => XS.iconst X31.here hx rfl (hb hby at_89) kk) ?_
      refine ob T31 (mkF mG 91 #[.val (.int i0), .val (.int i1), .val (.int i2), .val (.int i3), .val (.ref b1), .val (.ref b4), .val (.int (i0 &&& (3 : Int32))), .val (.ref b28), .unset, .unset] [(.int ((i0 >>> ((2 : Int32) &&& 31)) &&& (1 : Int32)))]) (fun _ kk => XS.iand X31.here hx rfl (hb hby at_90) rfl kk) ?_
      by_cases hc33 : ((i0 >>> ((2 : Int32) &&& 31)) &&& (1 : Int32)) = (0 : Int32)
      · skip
        refine ob T31 (mkF mG 99 #[.val (.int i0), .val (.int i1), .val (.int i2), .val (.int i3), .val (.ref b1), .val (.ref b4), .val (.int (i0 &&& (3 : Int32))), .val (.ref b28), .unset, .unset] []) (fun _ kk => XS.ifYes X31.here hx rfl (pc0 := 91) (pc' := 99) rfl (hb hby at_91) rfl ((if0 _ _).trans (teq hc33).1) (by decide) (by decide) kk) ?_
        refine ob T31 (mkF mG 100 #[.val (.int i0), .val (.int i1), .val (.int i2), .val (.int i3), .val (.ref b1), .val (.ref b4), .val (.int (i0 &&& (3 : Int32))), .val (.ref b28), .unset, .unset] [.null]) (fun _ kk => XS.aconstNull X31.here hx rfl (hb hby at_99) kk) ?_
        refine ob T31 (mkF mG 102 #[.val (.int i0), .val (.int i1), .val (.int i2), .val (.int i3), .val (.ref b1), .val (.ref b4), .val (.int (i0 &&& (3 : Int32))), .val (.ref b28), .val .null, .unset] []) (fun _ kk => XS.astore X31.here hx rfl (hb hby at_100) rfl rfl (l' := #[.val (.int i0), .val (.int i1), .val (.int i2), .val (.int i3), .val (.ref b1), .val (.ref b4), .val (.int (i0 &&& (3 : Int32))), .val (.ref b28), .val .null, .unset]) rfl kk) ?_
        refine ob T31 (mkF mG 104 #[.val (.int i0), .val (.int i1), .val (.int i2), .val (.int i3), .val (.ref b1), .val (.ref b4), .val (.int (i0 &&& (3 : Int32))), .val (.ref b28), .val .null, .unset] [(.ref b28)]) (fun _ kk => XS.aload X31.here hx rfl (hb hby at_102) rfl rfl kk) ?_
        refine ob T31 (mkF mG 106 #[.val (.int i0), .val (.int i1), .val (.int i2), .val (.int i3), .val (.ref b1), .val (.ref b4), .val (.int (i0 &&& (3 : Int32))), .val (.ref b28), .val .null, .unset] [.null, (.ref b28)]) (fun _ kk => XS.aload X31.here hx rfl (hb hby at_104) rfl rfl kk) ?_
        obtain ⟨_, _, ⟨T34, L34, k34, n34⟩, -, X34, ⟨Lc34, hQ34, l34, y34, z34⟩, st34⟩ := Jvm.LawKit.callS X31 hx (y := (⟨"com/example/llave/llave/io/Answer", "created", "(Ljava/lang/Object;Ljava/lang/String;)Lcom/example/llave/llave/io/Answer;"⟩ : MethodName)) hown (mvT hZ (ow hw 30 rfl)) (mvT hZ (ow hw 31 rfl)) (mvT hZ (ow hw 32 rfl)) (mvT hZ (ow hw 33 rfl)) (by decide) (backOf (W := 0) (rm_cr10 l Z a0 hw [] w_cache c_cache zc b28 h31 n0 O31 hS ) hZ (ow hw 33 rfl) (ow hw 32 rfl) (by decide) (by decide)) (g := (mkF mG 106 #[.val (.int i0), .val (.int i1), .val (.int i2), .val (.int i3), .val (.ref b1), .val (.ref b4), .val (.int (i0 &&& (3 : Int32))), .val (.ref b28), .val .null, .unset] [.null, (.ref b28)])) rfl (by rw [hml]; rfl) (argsL := [(.ref b28), .null]) (rest := []) (lenOf pd_4 rfl) rfl (by show 2 * 0 + _ ≤ _; exact Nat.le_of_eq rfl) (hb hby at_106) (fun _ _ => ⟨rfl, e31, (by decide : 6 + 1 ≤ _), (by decide : 14 + 3 ≤ _)⟩)
        dsimp only [Pt.U, Pt.locs, Pt.cells, Pt.slots] at X34 l34 y34 z34 st34 hQ34
        subst l34 y34 z34
        obtain ⟨h34, e34⟩ : ∃ h, T34.heap = h := ⟨_, rfl⟩
        rw [e34] at hQ34
        obtain ⟨b0_34, rfl, N34q, K34q, O34, n_b0_34, z_b0_34, F34_0, F34_1, F34_2, F34_3⟩ := hQ34
        have N34 := Fr.app N31 N34q
        have sz_b0_34 : h0.size ≤ b0_34 := Nat.le_trans K31.1 z_b0_34
        have ne_b1_b0_34 : b1 ≠ b0_34 := Nat.ne_of_lt (Nat.lt_of_lt_of_le ((((((V3.ext E4).keep K5q (ninS ne_b1_b4 nin0)).ext E28).ext E29).other W30 ne_b1_b29).keep K31q (ninS ne_b1_b28 nin0)).lt z_b0_34)
        have ne_b4_b0_34 : b4 ≠ b0_34 := Nat.ne_of_lt (Nat.lt_of_lt_of_le ((((A5.ext E28).ext E29).wr W30).keep K31q).lt z_b0_34)
        have ne_t5_b0_34 : t5 ≠ b0_34 := Nat.ne_of_lt (Nat.lt_of_lt_of_le ((((B5.ext E28).ext E29).other W30 ne_t5_b29).keep K31q (ninS ne_t5_b28 nin0)).lt z_b0_34)
        have ne_b29_b0_34 : b29 ≠ b0_34 := Nat.ne_of_lt (Nat.lt_of_lt_of_le (V30.keep K31q (ninS (Ne.symm ne_b28_b29) nin0)).lt z_b0_34)
        have ne_b28_b0_34 : b28 ≠ b0_34 := Nat.ne_of_lt (Nat.lt_of_lt_of_le A31.lt z_b0_34)
        have ne_t31_b0_34 : t31 ≠ b0_34 := Nat.ne_of_lt (Nat.lt_of_lt_of_le B31.lt z_b0_34)
        have K34 := K31.trans K34q all0
        refine ob T34 (mkF mG 109 #[.val (.int i0), .val (.int i1), .val (.int i2), .val (.int i3), .val (.ref b1), .val (.ref b4), .val (.int (i0 &&& (3 : Int32))), .val (.ref b28), .val .null, .unset] [(.ref b0_34)]) (fun _ kk => st34 _ kk) ?_
        refine ob T34 (mkF mG 111 #[.val (.int i0), .val (.int i1), .val (.int i2), .val (.int i3), .val (.ref b1), .val (.ref b4), .val (.int (i0 &&& (3 : Int32))), .val (.ref b28), .val .null, .val (.ref b0_34)] []) (fun _ kk => XS.astore X34.here hx rfl (hb hby at_109) rfl rfl (l' := #[.val (.int i0), .val (.int i1), .val (.int i2), .val (.int i3), .val (.ref b1), .val (.ref b4), .val (.int (i0 &&& (3 : Int32))), .val (.ref b28), .val .null, .val (.ref b0_34)]) rfl kk) ?_
        refine ob T34 (mkF mG 113 #[.val (.int i0), .val (.int i1), .val (.int i2), .val (.int i3), .val (.ref b1), .val (.ref b4), .val (.int (i0 &&& (3 : Int32))), .val (.ref b28), .val .null, .val (.ref b0_34)] [(.ref b0_34)]) (fun _ kk => XS.aload X34.here hx rfl (hb hby at_111) rfl rfl kk) ?_
        obtain ⟨cq35, kq35, q35a, q35b, q35c⟩ := isOf hZ e34 F34_0
        obtain ⟨_, _, ⟨T35, L35, k35, n35⟩, -, X35, ⟨Lc35, hQ35, l35, y35, z35⟩, st35⟩ := X34.virtualBack hx (y := (⟨"com/example/llave/llave/io/Answer", "status", "()I"⟩ : MethodName)) (z := (⟨"com/example/llave/llave/io/Answer", "status", "()I"⟩ : MethodName)) hown (mvT hZ (ow hw 51 rfl)) (mvT hZ (ow hw 52 rfl)) (notFace_of_selects (args := #[]) (mvT hZ (ow hw 54 rfl))) (mvT hZ (ow hw 54 rfl)) (mvT hZ (ow hw 53 rfl)) (by decide) (backOf (W := 0) (rm_status l Z a0 hw [] w_cache c_cache zc b0_34 (201 : Int32) h34 n0 O34 hS F34_1) hZ (ow hw 55 rfl) (ow hw 32 rfl) (by decide) (by decide)) q35a q35c (g := (mkF mG 113 #[.val (.int i0), .val (.int i1), .val (.int i2), .val (.int i3), .val (.ref b1), .val (.ref b4), .val (.int (i0 &&& (3 : Int32))), .val (.ref b28), .val .null, .val (.ref b0_34)] [(.ref b0_34)])) rfl (by rw [hml]; rfl) (Steps.refl _) (argsL := []) (rest := []) (lenOf pd_5 rfl) rfl (by show 2 * 0 + _ ≤ _; exact Nat.le_of_eq rfl) (hb hby at_113) (fun _ _ => ⟨rfl, e34, (by decide : 7 + 0 ≤ _), (by decide : 17 + 0 ≤ _)⟩)
        dsimp only [Pt.U, Pt.locs, Pt.cells, Pt.slots] at X35 l35 y35 z35 st35 hQ35
        subst l35 y35 z35
        obtain ⟨rfl, N35q, e35⟩ := hQ35
        have N35 := Fr.app N34 N35q
        refine ob T35 (mkF mG 116 #[.val (.int i0), .val (.int i1), .val (.int i2), .val (.int i3), .val (.ref b1), .val (.ref b4), .val (.int (i0 &&& (3 : Int32))), .val (.ref b28), .val .null, .val (.ref b0_34)] [(.int (201 : Int32))]) (fun _ kk => st35.trans kk) ?_
        refine ob T35 (mkF mG 119 #[.val (.int i0), .val (.int i1), .val (.int i2), .val (.int i3), .val (.ref b1), .val (.ref b4), .val (.int (i0 &&& (3 : Int32))), .val (.ref b28), .val .null, .val (.ref b0_34)] [(.int (201 : Int32)), (.int (201 : Int32))]) (fun _ kk => XS.sipush X35.here hx rfl (hb hby at_116) kk) ?_
        refine ob T35 (mkF mG 122 #[.val (.int i0), .val (.int i1), .val (.int i2), .val (.int i3), .val (.ref b1), .val (.ref b4), .val (.int (i0 &&& (3 : Int32))), .val (.ref b28), .val .null, .val (.ref b0_34)] []) (fun _ kk => XS.icmpNo X35.here hx rfl (hb hby at_119) rfl (teq (by decide : (201 : Int32) = (201 : Int32))).2 kk) ?_
        refine ob T35 (mkF mG 124 #[.val (.int i0), .val (.int i1), .val (.int i2), .val (.int i3), .val (.ref b1), .val (.ref b4), .val (.int (i0 &&& (3 : Int32))), .val (.ref b28), .val .null, .val (.ref b0_34)] [(.ref b0_34)]) (fun _ kk => XS.aload X35.here hx rfl (hb hby at_122) rfl rfl kk) ?_
        obtain ⟨cq36, kq36, q36a, q36b, q36c⟩ := isOf hZ e35 F34_0
        obtain ⟨_, _, ⟨T36, L36, k36, n36⟩, -, X36, ⟨Lc36, hQ36, l36, y36, z36⟩, st36⟩ := X35.virtualBack hx (y := (⟨"com/example/llave/llave/io/Answer", "body", "()Ljava/lang/Object;"⟩ : MethodName)) (z := (⟨"com/example/llave/llave/io/Answer", "body", "()Ljava/lang/Object;"⟩ : MethodName)) hown (mvT hZ (ow hw 56 rfl)) (mvT hZ (ow hw 57 rfl)) (notFace_of_selects (args := #[]) (mvT hZ (ow hw 59 rfl))) (mvT hZ (ow hw 59 rfl)) (mvT hZ (ow hw 58 rfl)) (by decide) (backOf (W := 0) (rm_body1 l Z a0 hw [] w_cache c_cache zc b0_34 b28 h34 n0 O34 hS F34_2) hZ (ow hw 60 rfl) (ow hw 32 rfl) (by decide) (by decide)) q36a q36c (g := (mkF mG 124 #[.val (.int i0), .val (.int i1), .val (.int i2), .val (.int i3), .val (.ref b1), .val (.ref b4), .val (.int (i0 &&& (3 : Int32))), .val (.ref b28), .val .null, .val (.ref b0_34)] [(.ref b0_34)])) rfl (by rw [hml]; rfl) (Steps.refl _) (argsL := []) (rest := []) (lenOf pd_6 rfl) rfl (by show 2 * 0 + _ ≤ _; exact Nat.le_of_eq rfl) (hb hby at_124) (fun _ _ => ⟨rfl, e35, (by decide : 7 + 0 ≤ _), (by decide : 17 + 0 ≤ _)⟩)
        dsimp only [Pt.U, Pt.locs, Pt.cells, Pt.slots] at X36 l36 y36 z36 st36 hQ36
        subst l36 y36 z36
        obtain ⟨rfl, N36q, e36⟩ := hQ36
        have N36 := Fr.app N35 N36q
        refine ob T36 (mkF mG 127 #[.val (.int i0), .val (.int i1), .val (.int i2), .val (.int i3), .val (.ref b1), .val (.ref b4), .val (.int (i0 &&& (3 : Int32))), .val (.ref b28), .val .null, .val (.ref b0_34)] [(.ref b28)]) (fun _ kk => st36.trans kk) ?_
        refine ob T36 (mkF mG 129 #[.val (.int i0), .val (.int i1), .val (.int i2), .val (.int i3), .val (.ref b1), .val (.ref b4), .val (.int (i0 &&& (3 : Int32))), .val (.ref b28), .val .null, .val (.ref b0_34)] [(.ref b28), (.ref b28)]) (fun _ kk => XS.aload X36.here hx rfl (hb hby at_127) rfl rfl kk) ?_
        refine ob T36 (mkF mG 132 #[.val (.int i0), .val (.int i1), .val (.int i2), .val (.int i3), .val (.ref b1), .val (.ref b4), .val (.int (i0 &&& (3 : Int32))), .val (.ref b28), .val .null, .val (.ref b0_34)] []) (fun _ kk => Jvm.RoadKit.acmp (g := (mkF mG 129 #[.val (.int i0), .val (.int i1), .val (.int i2), .val (.int i3), .val (.ref b1), .val (.ref b4), .val (.int (i0 &&& (3 : Int32))), .val (.ref b28), .val .null, .val (.ref b0_34)] [(.ref b28), (.ref b28)])) X36 hx rfl rfl rfl (pc0 := 129) (pc' := 132) (same := true) rfl (hb hby at_129) rfl (decide_eq_true rfl) (by decide) (by decide) kk) ?_
        refine ob T36 (mkF mG 134 #[.val (.int i0), .val (.int i1), .val (.int i2), .val (.int i3), .val (.ref b1), .val (.ref b4), .val (.int (i0 &&& (3 : Int32))), .val (.ref b28), .val .null, .val (.ref b0_34)] [(.ref b0_34)]) (fun _ kk => XS.aload X36.here hx rfl (hb hby at_132) rfl rfl kk) ?_
        obtain ⟨cq37, kq37, q37a, q37b, q37c⟩ := isOf hZ e36 F34_0
        obtain ⟨_, _, ⟨T37, L37, k37, n37⟩, -, X37, ⟨Lc37, hQ37, l37, y37, z37⟩, st37⟩ := X36.virtualBack hx (y := (⟨"com/example/llave/llave/io/Answer", "location", "()Ljava/lang/String;"⟩ : MethodName)) (z := (⟨"com/example/llave/llave/io/Answer", "location", "()Ljava/lang/String;"⟩ : MethodName)) hown (mvT hZ (ow hw 61 rfl)) (mvT hZ (ow hw 62 rfl)) (notFace_of_selects (args := #[]) (mvT hZ (ow hw 64 rfl))) (mvT hZ (ow hw 64 rfl)) (mvT hZ (ow hw 63 rfl)) (by decide) (backOf (W := 0) (rm_location0 l Z a0 hw [] w_cache c_cache zc b0_34 h34 n0 O34 hS F34_3) hZ (ow hw 65 rfl) (ow hw 32 rfl) (by decide) (by decide)) q37a q37c (g := (mkF mG 134 #[.val (.int i0), .val (.int i1), .val (.int i2), .val (.int i3), .val (.ref b1), .val (.ref b4), .val (.int (i0 &&& (3 : Int32))), .val (.ref b28), .val .null, .val (.ref b0_34)] [(.ref b0_34)])) rfl (by rw [hml]; rfl) (Steps.refl _) (argsL := []) (rest := []) (lenOf pd_7 rfl) rfl (by show 2 * 0 + _ ≤ _; exact Nat.le_of_eq rfl) (hb hby at_134) (fun _ _ => ⟨rfl, e36, (by decide : 7 + 0 ≤ _), (by decide : 17 + 0 ≤ _)⟩)
        dsimp only [Pt.U, Pt.locs, Pt.cells, Pt.slots] at X37 l37 y37 z37 st37 hQ37
        subst l37 y37 z37
        obtain ⟨rfl, N37q, e37⟩ := hQ37
        have N37 := Fr.app N36 N37q
        refine ob T37 (mkF mG 137 #[.val (.int i0), .val (.int i1), .val (.int i2), .val (.int i3), .val (.ref b1), .val (.ref b4), .val (.int (i0 &&& (3 : Int32))), .val (.ref b28), .val .null, .val (.ref b0_34)] [.null]) (fun _ kk => st37.trans kk) ?_
        refine ob T37 (mkF mG 139 #[.val (.int i0), .val (.int i1), .val (.int i2), .val (.int i3), .val (.ref b1), .val (.ref b4), .val (.int (i0 &&& (3 : Int32))), .val (.ref b28), .val .null, .val (.ref b0_34)] [.null, .null]) (fun _ kk => XS.aload X37.here hx rfl (hb hby at_137) rfl rfl kk) ?_
        refine ob T37 (mkF mG 142 #[.val (.int i0), .val (.int i1), .val (.int i2), .val (.int i3), .val (.ref b1), .val (.ref b4), .val (.int (i0 &&& (3 : Int32))), .val (.ref b28), .val .null, .val (.ref b0_34)] []) (fun _ kk => Jvm.RoadKit.acmp (g := (mkF mG 139 #[.val (.int i0), .val (.int i1), .val (.int i2), .val (.int i3), .val (.ref b1), .val (.ref b4), .val (.int (i0 &&& (3 : Int32))), .val (.ref b28), .val .null, .val (.ref b0_34)] [.null, .null])) X37 hx rfl rfl rfl (pc0 := 139) (pc' := 142) (same := true) rfl (hb hby at_139) rfl (decide_eq_true rfl) (by decide) (by decide) kk) ?_
        refine ob T37 (mkF mG 143 #[.val (.int i0), .val (.int i1), .val (.int i2), .val (.int i3), .val (.ref b1), .val (.ref b4), .val (.int (i0 &&& (3 : Int32))), .val (.ref b28), .val .null, .val (.ref b0_34)] [(.int (1 : Int32))]) (fun _ kk => XS.iconst X37.here hx rfl (hb hby at_142) kk) ?_
        refine ob T37 (mkF mG 147 #[.val (.int i0), .val (.int i1), .val (.int i2), .val (.int i3), .val (.ref b1), .val (.ref b4), .val (.int (i0 &&& (3 : Int32))), .val (.ref b28), .val .null, .val (.ref b0_34)] [(.int (1 : Int32))]) (fun _ kk => XS.goto X37.here hx rfl (pc0 := 143) (pc' := 147) rfl (hb hby at_143) (by decide) (by decide) kk) ?_
        obtain ⟨fs, hr, hrun, hended, hW, hsame⟩ := X37.leave (v := some (.int (1 : Int32))) (fun h => by rw [Bd.returns] at h; cases h)
        refine oout (retN X37 hx (t := .boolean) Bd.returns (by simp) (hb hby at_147) hr) hrun hended ⟨_, _, rfl, ?_, ⟨_, rfl⟩, hW, hsame.mono (by decide) (by decide)⟩
        show Q_rm0 Z w_cache c_cache zc i0 i1 i2 i3 h0 n0 _ T37.heap _
        rw [e37]
        exact ⟨rfl, N37⟩
      · skip
        refine ob T31 (mkF mG 94 #[.val (.int i0), .val (.int i1), .val (.int i2), .val (.int i3), .val (.ref b1), .val (.ref b4), .val (.int (i0 &&& (3 : Int32))), .val (.ref b28), .unset, .unset] []) (fun _ kk => XS.ifNo X31.here hx rfl (hb hby at_91) rfl ((if0 _ _).trans (feq hc33).1) kk) ?_
        refine ob T31 (mkF mG 96 #[.val (.int i0), .val (.int i1), .val (.int i2), .val (.int i3), .val (.ref b1), .val (.ref b4), .val (.int (i0 &&& (3 : Int32))), .val (.ref b28), .unset, .unset] [(.ref b4)]) (fun _ kk => XS.aload X31.here hx rfl (hb hby at_94) rfl rfl kk) ?_
        refine ob T31 (mkF mG 100 #[.val (.int i0), .val (.int i1), .val (.int i2), .val (.int i3), .val (.ref b1), .val (.ref b4), .val (.int (i0 &&& (3 : Int32))), .val (.ref b28), .unset, .unset] [(.ref b4)]) (fun _ kk => XS.goto X31.here hx rfl (pc0 := 96) (pc' := 100) rfl (hb hby at_96) (by decide) (by decide) kk) ?_
        refine ob T31 (mkF mG 102 #[.val (.int i0), .val (.int i1), .val (.int i2), .val (.int i3), .val (.ref b1), .val (.ref b4), .val (.int (i0 &&& (3 : Int32))), .val (.ref b28), .val (.ref b4), .unset] []) (fun _ kk => XS.astore X31.here hx rfl (hb hby at_100) rfl rfl (l' := #[.val (.int i0), .val (.int i1), .val (.int i2), .val (.int i3), .val (.ref b1), .val (.ref b4), .val (.int (i0 &&& (3 : Int32))), .val (.ref b28), .val (.ref b4), .unset]) rfl kk) ?_
        refine ob T31 (mkF mG 104 #[.val (.int i0), .val (.int i1), .val (.int i2), .val (.int i3), .val (.ref b1), .val (.ref b4), .val (.int (i0 &&& (3 : Int32))), .val (.ref b28), .val (.ref b4), .unset] [(.ref b28)]) (fun _ kk => XS.aload X31.here hx rfl (hb hby at_102) rfl rfl kk) ?_
        refine ob T31 (mkF mG 106 #[.val (.int i0), .val (.int i1), .val (.int i2), .val (.int i3), .val (.ref b1), .val (.ref b4), .val (.int (i0 &&& (3 : Int32))), .val (.ref b28), .val (.ref b4), .unset] [(.ref b4), (.ref b28)]) (fun _ kk => XS.aload X31.here hx rfl (hb hby at_104) rfl rfl kk) ?_
        obtain ⟨_, _, ⟨T38, L38, k38, n38⟩, -, X38, ⟨Lc38, hQ38, l38, y38, z38⟩, st38⟩ := Jvm.LawKit.callS X31 hx (y := (⟨"com/example/llave/llave/io/Answer", "created", "(Ljava/lang/Object;Ljava/lang/String;)Lcom/example/llave/llave/io/Answer;"⟩ : MethodName)) hown (mvT hZ (ow hw 30 rfl)) (mvT hZ (ow hw 31 rfl)) (mvT hZ (ow hw 32 rfl)) (mvT hZ (ow hw 33 rfl)) (by decide) (backOf (W := 0) (rm_cr11 l Z a0 hw [] w_cache c_cache zc b28 b4 h31 n0 O31 hS ) hZ (ow hw 33 rfl) (ow hw 32 rfl) (by decide) (by decide)) (g := (mkF mG 106 #[.val (.int i0), .val (.int i1), .val (.int i2), .val (.int i3), .val (.ref b1), .val (.ref b4), .val (.int (i0 &&& (3 : Int32))), .val (.ref b28), .val (.ref b4), .unset] [(.ref b4), (.ref b28)])) rfl (by rw [hml]; rfl) (argsL := [(.ref b28), (.ref b4)]) (rest := []) (lenOf pd_4 rfl) rfl (by show 2 * 0 + _ ≤ _; exact Nat.le_of_eq rfl) (hb hby at_106) (fun _ _ => ⟨rfl, e31, (by decide : 6 + 1 ≤ _), (by decide : 14 + 3 ≤ _)⟩)
        dsimp only [Pt.U, Pt.locs, Pt.cells, Pt.slots] at X38 l38 y38 z38 st38 hQ38
        subst l38 y38 z38
        obtain ⟨h38, e38⟩ : ∃ h, T38.heap = h := ⟨_, rfl⟩
        rw [e38] at hQ38
        obtain ⟨b0_38, rfl, N38q, K38q, O38, n_b0_38, z_b0_38, F38_0, F38_1, F38_2, F38_3⟩ := hQ38
        have N38 := Fr.app N31 N38q
        have sz_b0_38 : h0.size ≤ b0_38 := Nat.le_trans K31.1 z_b0_38
        have ne_b1_b0_38 : b1 ≠ b0_38 := Nat.ne_of_lt (Nat.lt_of_lt_of_le ((((((V3.ext E4).keep K5q (ninS ne_b1_b4 nin0)).ext E28).ext E29).other W30 ne_b1_b29).keep K31q (ninS ne_b1_b28 nin0)).lt z_b0_38)
        have ne_b4_b0_38 : b4 ≠ b0_38 := Nat.ne_of_lt (Nat.lt_of_lt_of_le ((((A5.ext E28).ext E29).wr W30).keep K31q).lt z_b0_38)
        have ne_t5_b0_38 : t5 ≠ b0_38 := Nat.ne_of_lt (Nat.lt_of_lt_of_le ((((B5.ext E28).ext E29).other W30 ne_t5_b29).keep K31q (ninS ne_t5_b28 nin0)).lt z_b0_38)
        have ne_b29_b0_38 : b29 ≠ b0_38 := Nat.ne_of_lt (Nat.lt_of_lt_of_le (V30.keep K31q (ninS (Ne.symm ne_b28_b29) nin0)).lt z_b0_38)
        have ne_b28_b0_38 : b28 ≠ b0_38 := Nat.ne_of_lt (Nat.lt_of_lt_of_le A31.lt z_b0_38)
        have ne_t31_b0_38 : t31 ≠ b0_38 := Nat.ne_of_lt (Nat.lt_of_lt_of_le B31.lt z_b0_38)
        have K38 := K31.trans K38q all0
        refine ob T38 (mkF mG 109 #[.val (.int i0), .val (.int i1), .val (.int i2), .val (.int i3), .val (.ref b1), .val (.ref b4), .val (.int (i0 &&& (3 : Int32))), .val (.ref b28), .val (.ref b4), .unset] [(.ref b0_38)]) (fun _ kk => st38 _ kk) ?_
        refine ob T38 (mkF mG 111 #[.val (.int i0), .val (.int i1), .val (.int i2), .val (.int i3), .val (.ref b1), .val (.ref b4), .val (.int (i0 &&& (3 : Int32))), .val (.ref b28), .val (.ref b4), .val (.ref b0_38)] []) (fun _ kk => XS.astore X38.here hx rfl (hb hby at_109) rfl rfl (l' := #[.val (.int i0), .val (.int i1), .val (.int i2), .val (.int i3), .val (.ref b1), .val (.ref b4), .val (.int (i0 &&& (3 : Int32))), .val (.ref b28), .val (.ref b4), .val (.ref b0_38)]) rfl kk) ?_
        refine ob T38 (mkF mG 113 #[.val (.int i0), .val (.int i1), .val (.int i2), .val (.int i3), .val (.ref b1), .val (.ref b4), .val (.int (i0 &&& (3 : Int32))), .val (.ref b28), .val (.ref b4), .val (.ref b0_38)] [(.ref b0_38)]) (fun _ kk => XS.aload X38.here hx rfl (hb hby at_111) rfl rfl kk) ?_
        obtain ⟨cq39, kq39, q39a, q39b, q39c⟩ := isOf hZ e38 F38_0
        obtain ⟨_, _, ⟨T39, L39, k39, n39⟩, -, X39, ⟨Lc39, hQ39, l39, y39, z39⟩, st39⟩ := X38.virtualBack hx (y := (⟨"com/example/llave/llave/io/Answer", "status", "()I"⟩ : MethodName)) (z := (⟨"com/example/llave/llave/io/Answer", "status", "()I"⟩ : MethodName)) hown (mvT hZ (ow hw 51 rfl)) (mvT hZ (ow hw 52 rfl)) (notFace_of_selects (args := #[]) (mvT hZ (ow hw 54 rfl))) (mvT hZ (ow hw 54 rfl)) (mvT hZ (ow hw 53 rfl)) (by decide) (backOf (W := 0) (rm_status l Z a0 hw [] w_cache c_cache zc b0_38 (201 : Int32) h38 n0 O38 hS F38_1) hZ (ow hw 55 rfl) (ow hw 32 rfl) (by decide) (by decide)) q39a q39c (g := (mkF mG 113 #[.val (.int i0), .val (.int i1), .val (.int i2), .val (.int i3), .val (.ref b1), .val (.ref b4), .val (.int (i0 &&& (3 : Int32))), .val (.ref b28), .val (.ref b4), .val (.ref b0_38)] [(.ref b0_38)])) rfl (by rw [hml]; rfl) (Steps.refl _) (argsL := []) (rest := []) (lenOf pd_5 rfl) rfl (by show 2 * 0 + _ ≤ _; exact Nat.le_of_eq rfl) (hb hby at_113) (fun _ _ => ⟨rfl, e38, (by decide : 7 + 0 ≤ _), (by decide : 17 + 0 ≤ _)⟩)
        dsimp only [Pt.U, Pt.locs, Pt.cells, Pt.slots] at X39 l39 y39 z39 st39 hQ39
        subst l39 y39 z39
        obtain ⟨rfl, N39q, e39⟩ := hQ39
        have N39 := Fr.app N38 N39q
        refine ob T39 (mkF mG 116 #[.val (.int i0), .val (.int i1), .val (.int i2), .val (.int i3), .val (.ref b1), .val (.ref b4), .val (.int (i0 &&& (3 : Int32))), .val (.ref b28), .val (.ref b4), .val (.ref b0_38)] [(.int (201 : Int32))]) (fun _ kk => st39.trans kk) ?_
        refine ob T39 (mkF mG 119 #[.val (.int i0), .val (.int i1), .val (.int i2), .val (.int i3), .val (.ref b1), .val (.ref b4), .val (.int (i0 &&& (3 : Int32))), .val (.ref b28), .val (.ref b4), .val (.ref b0_38)] [(.int (201 : Int32)), (.int (201 : Int32))]) (fun _ kk => XS.sipush X39.here hx rfl (hb hby at_116) kk) ?_
        refine ob T39 (mkF mG 122 #[.val (.int i0), .val (.int i1), .val (.int i2), .val (.int i3), .val (.ref b1), .val (.ref b4), .val (.int (i0 &&& (3 : Int32))), .val (.ref b28), .val (.ref b4), .val (.ref b0_38)] []) (fun _ kk => XS.icmpNo X39.here hx rfl (hb hby at_119) rfl (teq (by decide : (201 : Int32) = (201 : Int32))).2 kk) ?_
        refine ob T39 (mkF mG 124 #[.val (.int i0), .val (.int i1), .val (.int i2), .val (.int i3), .val (.ref b1), .val (.ref b4), .val (.int (i0 &&& (3 : Int32))), .val (.ref b28), .val (.ref b4), .val (.ref b0_38)] [(.ref b0_38)]) (fun _ kk => XS.aload X39.here hx rfl (hb hby at_122) rfl rfl kk) ?_
        obtain ⟨cq40, kq40, q40a, q40b, q40c⟩ := isOf hZ e39 F38_0
        obtain ⟨_, _, ⟨T40, L40, k40, n40⟩, -, X40, ⟨Lc40, hQ40, l40, y40, z40⟩, st40⟩ := X39.virtualBack hx (y := (⟨"com/example/llave/llave/io/Answer", "body", "()Ljava/lang/Object;"⟩ : MethodName)) (z := (⟨"com/example/llave/llave/io/Answer", "body", "()Ljava/lang/Object;"⟩ : MethodName)) hown (mvT hZ (ow hw 56 rfl)) (mvT hZ (ow hw 57 rfl)) (notFace_of_selects (args := #[]) (mvT hZ (ow hw 59 rfl))) (mvT hZ (ow hw 59 rfl)) (mvT hZ (ow hw 58 rfl)) (by decide) (backOf (W := 0) (rm_body1 l Z a0 hw [] w_cache c_cache zc b0_38 b28 h38 n0 O38 hS F38_2) hZ (ow hw 60 rfl) (ow hw 32 rfl) (by decide) (by decide)) q40a q40c (g := (mkF mG 124 #[.val (.int i0), .val (.int i1), .val (.int i2), .val (.int i3), .val (.ref b1), .val (.ref b4), .val (.int (i0 &&& (3 : Int32))), .val (.ref b28), .val (.ref b4), .val (.ref b0_38)] [(.ref b0_38)])) rfl (by rw [hml]; rfl) (Steps.refl _) (argsL := []) (rest := []) (lenOf pd_6 rfl) rfl (by show 2 * 0 + _ ≤ _; exact Nat.le_of_eq rfl) (hb hby at_124) (fun _ _ => ⟨rfl, e39, (by decide : 7 + 0 ≤ _), (by decide : 17 + 0 ≤ _)⟩)
        dsimp only [Pt.U, Pt.locs, Pt.cells, Pt.slots] at X40 l40 y40 z40 st40 hQ40
        subst l40 y40 z40
        obtain ⟨rfl, N40q, e40⟩ := hQ40
        have N40 := Fr.app N39 N40q
        refine ob T40 (mkF mG 127 #[.val (.int i0), .val (.int i1), .val (.int i2), .val (.int i3), .val (.ref b1), .val (.ref b4), .val (.int (i0 &&& (3 : Int32))), .val (.ref b28), .val (.ref b4), .val (.ref b0_38)] [(.ref b28)]) (fun _ kk => st40.trans kk) ?_
        refine ob T40 (mkF mG 129 #[.val (.int i0), .val (.int i1), .val (.int i2), .val (.int i3), .val (.ref b1), .val (.ref b4), .val (.int (i0 &&& (3 : Int32))), .val (.ref b28), .val (.ref b4), .val (.ref b0_38)] [(.ref b28), (.ref b28)]) (fun _ kk => XS.aload X40.here hx rfl (hb hby at_127) rfl rfl kk) ?_
        refine ob T40 (mkF mG 132 #[.val (.int i0), .val (.int i1), .val (.int i2), .val (.int i3), .val (.ref b1), .val (.ref b4), .val (.int (i0 &&& (3 : Int32))), .val (.ref b28), .val (.ref b4), .val (.ref b0_38)] []) (fun _ kk => Jvm.RoadKit.acmp (g := (mkF mG 129 #[.val (.int i0), .val (.int i1), .val (.int i2), .val (.int i3), .val (.ref b1), .val (.ref b4), .val (.int (i0 &&& (3 : Int32))), .val (.ref b28), .val (.ref b4), .val (.ref b0_38)] [(.ref b28), (.ref b28)])) X40 hx rfl rfl rfl (pc0 := 129) (pc' := 132) (same := true) rfl (hb hby at_129) rfl (decide_eq_true rfl) (by decide) (by decide) kk) ?_
        refine ob T40 (mkF mG 134 #[.val (.int i0), .val (.int i1), .val (.int i2), .val (.int i3), .val (.ref b1), .val (.ref b4), .val (.int (i0 &&& (3 : Int32))), .val (.ref b28), .val (.ref b4), .val (.ref b0_38)] [(.ref b0_38)]) (fun _ kk => XS.aload X40.here hx rfl (hb hby at_132) rfl rfl kk) ?_
        obtain ⟨cq41, kq41, q41a, q41b, q41c⟩ := isOf hZ e40 F38_0
        obtain ⟨_, _, ⟨T41, L41, k41, n41⟩, -, X41, ⟨Lc41, hQ41, l41, y41, z41⟩, st41⟩ := X40.virtualBack hx (y := (⟨"com/example/llave/llave/io/Answer", "location", "()Ljava/lang/String;"⟩ : MethodName)) (z := (⟨"com/example/llave/llave/io/Answer", "location", "()Ljava/lang/String;"⟩ : MethodName)) hown (mvT hZ (ow hw 61 rfl)) (mvT hZ (ow hw 62 rfl)) (notFace_of_selects (args := #[]) (mvT hZ (ow hw 64 rfl))) (mvT hZ (ow hw 64 rfl)) (mvT hZ (ow hw 63 rfl)) (by decide) (backOf (W := 0) (rm_location1 l Z a0 hw [] w_cache c_cache zc b0_38 b4 h38 n0 O38 hS F38_3) hZ (ow hw 65 rfl) (ow hw 32 rfl) (by decide) (by decide)) q41a q41c (g := (mkF mG 134 #[.val (.int i0), .val (.int i1), .val (.int i2), .val (.int i3), .val (.ref b1), .val (.ref b4), .val (.int (i0 &&& (3 : Int32))), .val (.ref b28), .val (.ref b4), .val (.ref b0_38)] [(.ref b0_38)])) rfl (by rw [hml]; rfl) (Steps.refl _) (argsL := []) (rest := []) (lenOf pd_7 rfl) rfl (by show 2 * 0 + _ ≤ _; exact Nat.le_of_eq rfl) (hb hby at_134) (fun _ _ => ⟨rfl, e40, (by decide : 7 + 0 ≤ _), (by decide : 17 + 0 ≤ _)⟩)
        dsimp only [Pt.U, Pt.locs, Pt.cells, Pt.slots] at X41 l41 y41 z41 st41 hQ41
        subst l41 y41 z41
        obtain ⟨rfl, N41q, e41⟩ := hQ41
        have N41 := Fr.app N40 N41q
        refine ob T41 (mkF mG 137 #[.val (.int i0), .val (.int i1), .val (.int i2), .val (.int i3), .val (.ref b1), .val (.ref b4), .val (.int (i0 &&& (3 : Int32))), .val (.ref b28), .val (.ref b4), .val (.ref b0_38)] [(.ref b4)]) (fun _ kk => st41.trans kk) ?_
        refine ob T41 (mkF mG 139 #[.val (.int i0), .val (.int i1), .val (.int i2), .val (.int i3), .val (.ref b1), .val (.ref b4), .val (.int (i0 &&& (3 : Int32))), .val (.ref b28), .val (.ref b4), .val (.ref b0_38)] [(.ref b4), (.ref b4)]) (fun _ kk => XS.aload X41.here hx rfl (hb hby at_137) rfl rfl kk) ?_
        refine ob T41 (mkF mG 142 #[.val (.int i0), .val (.int i1), .val (.int i2), .val (.int i3), .val (.ref b1), .val (.ref b4), .val (.int (i0 &&& (3 : Int32))), .val (.ref b28), .val (.ref b4), .val (.ref b0_38)] []) (fun _ kk => Jvm.RoadKit.acmp (g := (mkF mG 139 #[.val (.int i0), .val (.int i1), .val (.int i2), .val (.int i3), .val (.ref b1), .val (.ref b4), .val (.int (i0 &&& (3 : Int32))), .val (.ref b28), .val (.ref b4), .val (.ref b0_38)] [(.ref b4), (.ref b4)])) X41 hx rfl rfl rfl (pc0 := 139) (pc' := 142) (same := true) rfl (hb hby at_139) rfl (decide_eq_true rfl) (by decide) (by decide) kk) ?_
        refine ob T41 (mkF mG 143 #[.val (.int i0), .val (.int i1), .val (.int i2), .val (.int i3), .val (.ref b1), .val (.ref b4), .val (.int (i0 &&& (3 : Int32))), .val (.ref b28), .val (.ref b4), .val (.ref b0_38)] [(.int (1 : Int32))]) (fun _ kk => XS.iconst X41.here hx rfl (hb hby at_142) kk) ?_
        refine ob T41 (mkF mG 147 #[.val (.int i0), .val (.int i1), .val (.int i2), .val (.int i3), .val (.ref b1), .val (.ref b4), .val (.int (i0 &&& (3 : Int32))), .val (.ref b28), .val (.ref b4), .val (.ref b0_38)] [(.int (1 : Int32))]) (fun _ kk => XS.goto X41.here hx rfl (pc0 := 143) (pc' := 147) rfl (hb hby at_143) (by decide) (by decide) kk) ?_
        obtain ⟨fs, hr, hrun, hended, hW, hsame⟩ := X41.leave (v := some (.int (1 : Int32))) (fun h => by rw [Bd.returns] at h; cases h)
        refine oout (retN X41 hx (t := .boolean) Bd.returns (by simp) (hb hby at_147) hr) hrun hended ⟨_, _, rfl, ?_, ⟨_, rfl⟩, hW, hsame.mono (by decide) (by decide)⟩
        show Q_rm0 Z w_cache c_cache zc i0 i1 i2 i3 h0 n0 _ T41.heap _
        rw [e41]
        exact ⟨rfl, N41⟩

set_option maxRecDepth 65536 in
set_option maxHeartbeats 40000000 in
theorem comes_1 {Post : Tables → Env → Array Value → State → Outcome → State → Prop} (hpost : ∀ tb e args s v u, (limb_1_1.after args s (.returned v) u = true ∧ limb_1_2.after args s (.returned v) u = true ∧ True) → FrameEnd s (.returned v) u (Jvm.fieldLocs frame_1_writes args s ++ Jvm.arrayLocs frame_1_arrays args s ++ Jvm.staticLocs frame_1_statics s) 24 128 → Post tb e args s (.returned v) u) :
    ArmFor flags0 classFile x code maxLocals ret World_1 tables_1 room_1 Calls_1 rest_1 Pre_1 Post := by
  intro l hfl _ _ p e ha hc hk s m args below hf hA hF happ hP
  obtain ⟨hcalls, hrest, hpre⟩ := hP
  obtain ⟨-, -, -, hnamed, -, -, -, hat⟩ := (Spec.applies_iff hf).mp happ
  obtain ⟨hg, hn⟩ := and_e (Cond.before_iff.mp (show (Jvm.Cond.and given_1 narrow_1).before args s = true from hpre))
  obtain ⟨gg1, gg2⟩ := and_e hg
  obtain ⟨gg3, gg4⟩ := and_e gg2
  obtain ⟨gg5, gg6⟩ := and_e gg4
  obtain ⟨gg7, gg8⟩ := and_e gg6
  obtain ⟨w0, w1, w2, w3, rfl⟩ : ∃ w0 w1 w2 w3 : Value, args = #[w0, w1, w2, w3] := by
    have hs : args.size = 4 := by simpa [Cond.value, given_1] using gg1
    obtain ⟨L⟩ := args
    match L, hs with
    | [w0, w1, w2, w3], _ => exact ⟨w0, w1, w2, w3, rfl⟩
  have hw := fun d (hd : d ∈ tables_1) => atoms_spec (ws := Jvm.Cond.code x code maxLocals ret :: tables_1) hat d (List.mem_cons_of_mem _ hd)
  have hfit : Fit s := fun {y c} hc i hi => by
    obtain ⟨ha, rfl⟩ := Array.getElem?_eq_some_iff.mp hc
    have q := List.all_eq_true.mp ((Array.all_eq_true_iff_forall_mem.mp hF) _ (Array.getElem_mem ha)) i (List.mem_range.mpr hi)
    simpa [Array.getElem?_eq_getElem hi] using q
  obtain ⟨hsets, hown0⟩ := atoms_of _ (rest_1_c_eq ▸ (show rest_1_c.before _ s = true from hrest))
  have hr0 := Cond.before_iff.mp hown0
  obtain ⟨i0, ei0⟩ := is_v gg3
  obtain rfl : w0 = (.int i0) := Option.some.inj ei0
  obtain ⟨i1, ei1⟩ := is_v gg5
  obtain rfl : w1 = (.int i1) := Option.some.inj ei1
  obtain ⟨i2, ei2⟩ := is_v gg7
  obtain rfl : w2 = (.int i2) := Option.some.inj ei2
  obtain ⟨i3, ei3⟩ := is_v gg8
  obtain rfl : w3 = (.int i3) := Option.some.inj ei3
  have S_high : Sta s s.heap "java/lang/Integer$IntegerCache" "high" "I" (.int (127 : Int32)) := Sta.start (eqv_i (Term.int_eval (127 : Int32)) (Cond.before_iff.mp (ow hsets 12 rfl))) (Or.inl (ow hsets 10 rfl))
  obtain ⟨w_cache, ev_cache⟩ := arr_v (Cond.before_iff.mp (ow hsets 13 rfl))
  have S_cache : Sta s s.heap "java/lang/Integer$IntegerCache" "cache" "[Ljava/lang/Integer;" (.ref w_cache) := Sta.start ev_cache (Or.inr ⟨(ow hw 71 rfl), (ow hsets 11 rfl)⟩)
  obtain ⟨c_cache, A_cache⟩ := Arr.start ev_cache (Cond.before_iff.mp (ow hsets 13 rfl))
  obtain ⟨l_cache, q_cache⟩ := own_len (A_cache.fin (Vm.Alike.refl _)) ev_cache (Cond.before_iff.mp (ow hsets 15 rfl))
  have B_cache : Bxs s w_cache c_cache "java/lang/Integer" "I" (256 : Int32) (fun j => .int (j - 128)) := Bxs.start (F := Jvm.Term.sub (Jvm.Term.index 0) (Jvm.Term.int 128)) (fun _ => ev_cache) A_cache l_cache q_cache (by decide) (Cond.before_iff.mp (ow hsets 16 rfl)) (fun X j nj h => eqv_i (own_idx nj) h)
  obtain ⟨zc, ev_zc⟩ := is_v (Cond.before_iff.mp (ow hsets 1 rfl))
  have S_zc : Sta s s.heap "java/lang/String" "COMPACT_STRINGS" "Z" (.int zc) := Sta.start ev_zc (Or.inl (ow hsets 0 rfl))
  have hzc : ¬ (zc = (0 : Int32)) := gotF (Cond.eq_ints ev_zc (Term.int_eval (0))) (not_v (Cond.before_iff.mp (ow hsets 2 rfl)))
  have hS : St0 s w_cache c_cache zc := ⟨S_high, S_cache, B_cache, S_zc, hzc⟩
  obtain ⟨n, o, h1, h2, h3, _, L, rfl, ⟨rfl, N⟩, hq⟩ := rm0 l s _ hw tables_1 w_cache c_cache zc i0 i1 i2 i3 s.heap s.heap.size (Old.start s) hS p e ha hc hk s m _ below hf ((Spec.applies_iff_loose hf).mp happ).1 ⟨rfl, State.Warmed39.refl s, rfl⟩ trivial
  refine ⟨n, _, h1, h2, h3, hpost _ _ _ _ _ _ ⟨Cond.after_iff.mpr rfl, Cond.after_iff.mpr (eq_i res_at (Term.int_eval (1)) rfl), trivial⟩ ⟨hq.1, hq.2.1, (hq.2.2.sift fun y hy => Or.inr (N y hy)).mono (by decide) (by decide)⟩⟩
theorem main_1_1 : Claimed_1_1 := comes_1 fun _ _ _ _ _ _ h hF => ⟨h.1, hF⟩
theorem main_1_2 : Claimed_1_2 := comes_1 fun _ _ _ _ _ _ h hF => ⟨h.2.1, hF⟩
end Jvm.Pilot.@@N@@
namespace Jvm.Pilot.@@N@@
open Jvm Jvm.ClassFile Sem Op Lib Jvm.Free Jvm.Stand Jvm.Pilot.@@N@@.Jvm.D
/-! MADE BY PROGRAM (witnessworld.py) out of the Statement's table words and the real class files: 25 classes; the members and pool entries that the words name. The judged class is class 1, her method 1. -/
namespace start1
open Jvm.ClassFile
def u (s : String) : CpInfo := .utf8 (stringToUtf16 s)
/-- a pool by its gaps: so many unusable entries, then the entry; so many at the end -/
def gap : Nat → List CpInfo → List CpInfo
  | 0, r => r
  | n + 1, r => .unusable :: gap n r
def poolList (es : List (Nat × CpInfo)) (last : Nat) : List CpInfo := es.foldr (fun e r => gap e.1 (e.2 :: r)) (gap last [])
def pool (es : List (Nat × CpInfo)) (last : Nat) : Array CpInfo := ⟨poolList es last⟩
def fileOf (pool : Array CpInfo) (this : Nat) (attrs : Array Attribute := #[]) (ms : Array MethodInfo := #[]) (fl : Nat := 33) (sup : Nat := 0) (ifs : Array Nat := #[]) (fds : Array FieldInfo := #[]) : ClassFile where
  minorVersion := 0
  majorVersion := 65
  constantPool := pool
  accessFlags := fl
  thisClass := this
  superClass := sup
  interfaces := ifs
  fields := fds
  methods := ms
  attributes := attrs
def plain (name : String) (sup : Option ClassId) : Class where
  name := name
  kind := .ordinary
  loader := none
  accessFlags := 33
  super := sup
  interfaces := #[]
  cf := none
  fields := #[]
  methods := #[]
  instanceTypes := #[]
  staticTypes := #[]
  resolved := #[]
  callSites := []
  init := .initialized
  statics := none
  mirror := none

def pool0 : Array CpInfo := pool [(5, u "<init>"), (0, u "()V"), (1, .class_ 10), (1, u "java/lang/Object")] 113

def k0c0 : Code := { maxStack := 0, maxLocals := 1, code := object_method_1_code, exceptionTable := #[], attributes := #[] }
def k0m0 : Method := { name := "<init>", desc := "()V", sig := { parameters := [], returnType := none }, accessFlags := 1, code := some k0c0 }
/-- java/lang/Object -/
def k0 : Class := { plain "java/lang/Object" none with
  accessFlags := 33
  interfaces := #[]
  cf := some (fileOf pool0 8 #[] #[{ accessFlags := 1, nameIndex := 5, descriptorIndex := 6, attributes := #[] }] 33 0 #[] #[])
  fields := #[]
  methods := #[k0m0]
  instanceTypes := #[]
  staticTypes := #[]
  resolved := Array.replicate 124 none
  statics := none }

def pool1 : Array CpInfo := pool [(2, .class_ 4), (1, u "java/lang/Object"), (0, u "<init>"), (0, u "()V"), (0, .class_ 8), (0, u "java/lang/String"), (0, .methodref 7 10), (0, .nameAndType 5 11), (0, u "([C)V"), (0, .methodref 13 14), (0, .class_ 15), (0, .nameAndType 16 17), (0, u "java/lang/Integer"), (0, u "valueOf"), (0, u "(I)Ljava/lang/Integer;"), (0, .methodref 19 20), (0, .class_ 21), (0, .nameAndType 22 23), (0, u "com/example/llave/llave/io/Answer"), (0, u "created"), (0, u "(Ljava/lang/Object;Ljava/lang/String;)Lcom/example/llave/llave/io/Answer;"), (0, .methodref 19 25), (0, .nameAndType 26 27), (0, u "status"), (0, u "()I"), (0, .methodref 19 29), (0, .nameAndType 30 31), (0, u "body"), (0, u "()Ljava/lang/Object;"), (0, .methodref 19 33), (0, .nameAndType 34 35), (0, u "location"), (0, u "()Ljava/lang/String;"), (0, .class_ 37), (0, u "com/example/llave/llave/io/AnswerCreatedPinLaw"), (2, u "law"), (0, u "(IIII)Z")] 5

def k1m0 : Method := { name := "<init>", desc := "()V", sig := { parameters := [], returnType := none }, accessFlags := 1, code := none }
def k1c1 : Code := { maxStack := 7, maxLocals := 10, code := code, exceptionTable := #[], attributes := #[] }
def k1m1 : Method := { name := "law", desc := "(IIII)Z", sig := { parameters := [.int, .int, .int, .int], returnType := some .boolean }, accessFlags := 9, code := some k1c1 }
/-- com/example/llave/llave/io/AnswerCreatedPinLaw -/
def k1 : Class := { plain "com/example/llave/llave/io/AnswerCreatedPinLaw" (some 0) with
  accessFlags := 49
  interfaces := #[]
  cf := some (fileOf pool1 36 #[] #[{ accessFlags := 1, nameIndex := 5, descriptorIndex := 6, attributes := #[] }, { accessFlags := 9, nameIndex := 40, descriptorIndex := 41, attributes := #[] }] 49 2 #[] #[])
  fields := #[]
  methods := #[k1m0, k1m1]
  instanceTypes := #[]
  staticTypes := #[]
  resolved := Array.replicate 47 none
  statics := none }

def pool2 : Array CpInfo := pool [(1, .class_ 2), (0, u "java/io/Serializable"), (0, .class_ 4), (0, u "java/lang/Object")] 2

/-- java/io/Serializable -/
def k2 : Class := { plain "java/io/Serializable" (some 0) with
  accessFlags := 1537
  interfaces := #[]
  cf := some (fileOf pool2 1 #[] #[] 1537 3 #[] #[])
  fields := #[]
  methods := #[]
  instanceTypes := #[]
  staticTypes := #[]
  resolved := Array.replicate 7 none
  statics := none }

def pool3 : Array CpInfo := pool [(1, .class_ 2), (0, u "java/lang/Comparable"), (0, .class_ 4), (0, u "java/lang/Object")] 7

/-- java/lang/Comparable -/
def k3 : Class := { plain "java/lang/Comparable" (some 0) with
  accessFlags := 1537
  interfaces := #[]
  cf := some (fileOf pool3 1 #[] #[] 1537 3 #[] #[])
  fields := #[]
  methods := #[]
  instanceTypes := #[]
  staticTypes := #[]
  resolved := Array.replicate 12 none
  statics := none }

def pool4 : Array CpInfo := pool [(2, .class_ 4), (1, u "java/lang/CharSequence"), (42, .class_ 48), (0, u "java/lang/CharSequence$1CodePointIterator"), (10, .class_ 60), (0, u "java/lang/CharSequence$1CharIterator"), (5, .class_ 67), (0, u "java/lang/Object")] 63

/-- java/lang/CharSequence -/
def k4 : Class := { plain "java/lang/CharSequence" (some 0) with
  accessFlags := 1537
  interfaces := #[]
  cf := some (fileOf pool4 2 #[.nestMembers #[47, 59]] #[] 1537 66 #[] #[])
  fields := #[]
  methods := #[]
  instanceTypes := #[]
  staticTypes := #[]
  resolved := Array.replicate 131 none
  statics := none }

def pool5 : Array CpInfo := pool [(1, .class_ 2), (0, u "java/lang/constant/Constable"), (0, .class_ 4), (0, u "java/lang/Object")] 6

/-- java/lang/constant/Constable -/
def k5 : Class := { plain "java/lang/constant/Constable" (some 0) with
  accessFlags := 1537
  interfaces := #[]
  cf := some (fileOf pool5 1 #[] #[] 1537 3 #[] #[])
  fields := #[]
  methods := #[]
  instanceTypes := #[]
  staticTypes := #[]
  resolved := Array.replicate 11 none
  statics := none }

def pool6 : Array CpInfo := pool [(1, .class_ 2), (0, u "java/lang/constant/ConstantDesc"), (0, .class_ 4), (0, u "java/lang/Object")] 32

/-- java/lang/constant/ConstantDesc -/
def k6 : Class := { plain "java/lang/constant/ConstantDesc" (some 0) with
  accessFlags := 1537
  interfaces := #[]
  cf := some (fileOf pool6 1 #[] #[] 1537 3 #[] #[])
  fields := #[]
  methods := #[]
  instanceTypes := #[]
  staticTypes := #[]
  resolved := Array.replicate 37 none
  statics := none }

def pool7 : Array CpInfo := pool [(1, .methodref 2 3), (0, .class_ 4), (0, .nameAndType 5 6), (0, u "java/lang/Object"), (0, u "<init>"), (0, u "()V"), (2, .fieldref 10 11), (0, .class_ 12), (0, .nameAndType 13 14), (0, u "java/lang/String"), (0, u "value"), (0, u "[B"), (0, .fieldref 10 16), (0, .nameAndType 17 18), (0, u "coder"), (0, u "B"), (2, u "hash"), (0, u "I"), (2, u "hashIsZero"), (0, u "Z"), (0, .methodref 10 28), (0, .nameAndType 5 29), (0, u "([CIILjava/lang/Void;)V"), (8, .fieldref 10 39), (0, .nameAndType 40 26), (0, u "COMPACT_STRINGS"), (1, .class_ 44), (1, u "java/lang/StringUTF16"), (0, u "compress"), (1, .methodref 42 48), (0, .nameAndType 49 50), (0, u "coderFromArrayLen"), (0, u "([BI)B"), (126, .methodref 42 178), (0, .nameAndType 45 179), (0, u "([CII)[B"), (395, .class_ 576), (0, u "java/lang/CharSequence"), (22, u "CASE_INSENSITIVE_ORDER"), (0, u "Ljava/util/Comparator;"), (409, u "([C)V"), (90, u "serialPersistentFields"), (0, u "[Ljava/io/ObjectStreamField;"), (0, .class_ 1104), (0, u "java/lang/String$CaseInsensitiveComparator"), (1, .class_ 1107), (0, u "java/io/Serializable"), (0, .class_ 1109), (0, u "java/lang/Comparable"), (0, .class_ 1111), (0, u "java/lang/constant/Constable"), (0, .class_ 1113), (0, u "java/lang/constant/ConstantDesc"), (2, u "serialVersionUID"), (0, u "J"), (3, u "REPL"), (0, u "C"), (2, u "LATIN1"), (1, u "UTF16")] 323

def k7m0 : Method := { name := "<init>", desc := "()V", sig := { parameters := [], returnType := none }, accessFlags := 1, code := none }
def k7c1 : Code := { maxStack := 5, maxLocals := 2, code := jdk_42_method_3_code, exceptionTable := #[], attributes := #[] }
def k7m1 : Method := { name := "<init>", desc := "([C)V", sig := { parameters := [(.array .char)], returnType := none }, accessFlags := 1, code := some k7c1 }
def k7c2 : Code := { maxStack := 4, maxLocals := 6, code := jdk_42_method_149_code, exceptionTable := #[], attributes := #[] }
def k7m2 : Method := { name := "<init>", desc := "([CIILjava/lang/Void;)V", sig := { parameters := [(.array .char), .int, .int, (.object "java/lang/Void")], returnType := none }, accessFlags := 2, code := some k7c2 }
/-- java/lang/String -/
def k7 : Class := { plain "java/lang/String" (some 0) with
  accessFlags := 49
  interfaces := #[2, 3, 4, 5, 6]
  cf := some (fileOf pool7 10 #[.nestMembers #[1103]] #[{ accessFlags := 1, nameIndex := 5, descriptorIndex := 6, attributes := #[] }, { accessFlags := 1, nameIndex := 5, descriptorIndex := 1010, attributes := #[] }, { accessFlags := 2, nameIndex := 5, descriptorIndex := 29, attributes := #[] }] 49 2 #[1106, 1108, 575, 1110, 1112] #[{ accessFlags := 18, nameIndex := 13, descriptorIndex := 14, attributes := #[] }, { accessFlags := 18, nameIndex := 17, descriptorIndex := 18, attributes := #[] }, { accessFlags := 2, nameIndex := 21, descriptorIndex := 22, attributes := #[] }, { accessFlags := 2, nameIndex := 25, descriptorIndex := 26, attributes := #[] }, { accessFlags := 26, nameIndex := 1116, descriptorIndex := 1117, attributes := #[] }, { accessFlags := 24, nameIndex := 40, descriptorIndex := 26, attributes := #[] }, { accessFlags := 26, nameIndex := 1101, descriptorIndex := 1102, attributes := #[] }, { accessFlags := 26, nameIndex := 1121, descriptorIndex := 1122, attributes := #[] }, { accessFlags := 25, nameIndex := 599, descriptorIndex := 600, attributes := #[] }, { accessFlags := 24, nameIndex := 1125, descriptorIndex := 18, attributes := #[] }, { accessFlags := 24, nameIndex := 1127, descriptorIndex := 18, attributes := #[] }])
  fields := #[{ name := "value", type := (.array .byte), accessFlags := 18, slot := 0, constantValue := 0 }, { name := "coder", type := .byte, accessFlags := 18, slot := 1, constantValue := 0 }, { name := "hash", type := .int, accessFlags := 2, slot := 2, constantValue := 0 }, { name := "hashIsZero", type := .boolean, accessFlags := 2, slot := 3, constantValue := 0 }, { name := "serialVersionUID", type := .long, accessFlags := 26, slot := 0, constantValue := 0 }, { name := "COMPACT_STRINGS", type := .boolean, accessFlags := 24, slot := 1, constantValue := 0 }, { name := "serialPersistentFields", type := (.array (.object "java/io/ObjectStreamField")), accessFlags := 26, slot := 2, constantValue := 0 }, { name := "REPL", type := .char, accessFlags := 26, slot := 3, constantValue := 0 }, { name := "CASE_INSENSITIVE_ORDER", type := (.object "java/util/Comparator"), accessFlags := 25, slot := 4, constantValue := 0 }, { name := "LATIN1", type := .byte, accessFlags := 24, slot := 5, constantValue := 0 }, { name := "UTF16", type := .byte, accessFlags := 24, slot := 6, constantValue := 0 }]
  methods := #[k7m0, k7m1, k7m2]
  instanceTypes := #[(.array .byte), .byte, .int, .boolean]
  staticTypes := #[.long, .boolean, (.array (.object "java/io/ObjectStreamField")), .char, (.object "java/util/Comparator"), .byte, .byte]
  resolved := Array.replicate 1451 none
  statics := some 0 }

def pool8 : Array CpInfo := pool [(6, .class_ 8), (1, u "java/lang/Object"), (0, u "<init>"), (0, u "()V"), (1, .class_ 14), (1, u "java/lang/StringUTF16"), (31, u "$assertionsDisabled"), (0, u "Z"), (13, u "HI_BYTE_SHIFT"), (0, u "I"), (2, u "LO_BYTE_SHIFT"), (49, .methodref 12 116), (0, .nameAndType 117 118), (0, u "compress"), (0, u "([CI[BII)I"), (3, u "([CII)[B"), (138, u "coderFromArrayLen"), (0, u "([BI)B"), (106, .class_ 371), (1, u "java/lang/StringUTF16$LinesSpliterator"), (58, u "MAX_LENGTH"), (196, .class_ 628), (0, u "java/lang/StringUTF16$CodePointsSpliterator"), (0, .class_ 630), (0, u "java/lang/StringUTF16$CharsSpliterator")] 4

def k8m0 : Method := { name := "<init>", desc := "()V", sig := { parameters := [], returnType := none }, accessFlags := 0, code := none }
def k8c1 : Code := { maxStack := 2, maxLocals := 2, code := jdk_52_method_15_code, exceptionTable := #[], attributes := #[] }
def k8m1 : Method := { name := "coderFromArrayLen", desc := "([BI)B", sig := { parameters := [(.array .byte), .int], returnType := some .byte }, accessFlags := 8, code := some k8c1 }
def k8c2 : Code := { maxStack := 5, maxLocals := 6, code := jdk_52_method_16_code, exceptionTable := #[], attributes := #[] }
def k8m2 : Method := { name := "compress", desc := "([CII)[B", sig := { parameters := [(.array .char), .int, .int], returnType := some (.array .byte) }, accessFlags := 9, code := some k8c2 }
def k8c3 : Code := { maxStack := 3, maxLocals := 7, code := jdk_52_method_21_code, exceptionTable := #[], attributes := #[] }
def k8m3 : Method := { name := "compress", desc := "([CI[BII)I", sig := { parameters := [(.array .char), .int, (.array .byte), .int, .int], returnType := some .int }, accessFlags := 9, code := some k8c3 }
/-- java/lang/StringUTF16 -/
def k8 : Class := { plain "java/lang/StringUTF16" (some 0) with
  accessFlags := 48
  interfaces := #[]
  cf := some (fileOf pool8 12 #[.nestMembers #[627, 629, 369]] #[{ accessFlags := 0, nameIndex := 9, descriptorIndex := 10, attributes := #[] }, { accessFlags := 8, nameIndex := 261, descriptorIndex := 262, attributes := #[] }, { accessFlags := 9, nameIndex := 117, descriptorIndex := 122, attributes := #[] }, { accessFlags := 9, nameIndex := 117, descriptorIndex := 118, attributes := #[] }] 48 6 #[] #[{ accessFlags := 26, nameIndex := 61, descriptorIndex := 62, attributes := #[] }, { accessFlags := 26, nameIndex := 65, descriptorIndex := 62, attributes := #[] }, { accessFlags := 24, nameIndex := 430, descriptorIndex := 62, attributes := #[] }, { accessFlags := 4120, nameIndex := 46, descriptorIndex := 47, attributes := #[] }])
  fields := #[{ name := "HI_BYTE_SHIFT", type := .int, accessFlags := 26, slot := 0, constantValue := 0 }, { name := "LO_BYTE_SHIFT", type := .int, accessFlags := 26, slot := 1, constantValue := 0 }, { name := "MAX_LENGTH", type := .int, accessFlags := 24, slot := 2, constantValue := 0 }, { name := "$assertionsDisabled", type := .boolean, accessFlags := 4120, slot := 3, constantValue := 0 }]
  methods := #[k8m0, k8m1, k8m2, k8m3]
  instanceTypes := #[]
  staticTypes := #[.int, .int, .int, .boolean]
  resolved := Array.replicate 635 none
  statics := none }

def pool9 : Array CpInfo := pool [(1, .methodref 2 3), (0, .class_ 4), (0, .nameAndType 5 6), (0, u "java/lang/Object"), (0, u "<init>"), (0, u "()V"), (0, .class_ 8), (0, u "java/lang/Record")] 13

def k9c0 : Code := { maxStack := 1, maxLocals := 1, code := jdk_30_method_1_code, exceptionTable := #[], attributes := #[] }
def k9m0 : Method := { name := "<init>", desc := "()V", sig := { parameters := [], returnType := none }, accessFlags := 4, code := some k9c0 }
/-- java/lang/Record -/
def k9 : Class := { plain "java/lang/Record" (some 0) with
  accessFlags := 1057
  interfaces := #[]
  cf := some (fileOf pool9 7 #[] #[{ accessFlags := 4, nameIndex := 5, descriptorIndex := 6, attributes := #[] }] 1057 2 #[] #[])
  fields := #[]
  methods := #[k9m0]
  instanceTypes := #[]
  staticTypes := #[]
  resolved := Array.replicate 22 none
  statics := none }

def pool10 : Array CpInfo := pool [(1, .methodref 2 3), (0, .class_ 4), (0, .nameAndType 5 6), (0, u "java/lang/Record"), (0, u "<init>"), (0, u "()V"), (0, .fieldref 8 9), (0, .class_ 10), (0, .nameAndType 11 12), (0, u "com/example/llave/llave/io/Answer"), (0, u "status"), (0, u "I"), (0, .fieldref 8 14), (0, .nameAndType 15 16), (0, u "body"), (0, u "Ljava/lang/Object;"), (0, .fieldref 8 18), (0, .nameAndType 19 20), (0, u "location"), (0, u "Ljava/lang/String;"), (0, .methodref 8 22), (0, .nameAndType 5 23), (0, u "(ILjava/lang/Object;Ljava/lang/String;)V"), (17, u "created"), (0, u "(Ljava/lang/Object;Ljava/lang/String;)Lcom/example/llave/llave/io/Answer;"), (2, u "()Ljava/lang/String;"), (0, u "()I"), (1, u "()Ljava/lang/Object;")] 22

def k10c0 : Code := { maxStack := 2, maxLocals := 4, code := prog_9_method_1_code, exceptionTable := #[], attributes := #[] }
def k10m0 : Method := { name := "<init>", desc := "(ILjava/lang/Object;Ljava/lang/String;)V", sig := { parameters := [.int, (.object "java/lang/Object"), (.object "java/lang/String")], returnType := none }, accessFlags := 0, code := some k10c0 }
def k10c1 : Code := { maxStack := 5, maxLocals := 2, code := prog_9_method_3_code, exceptionTable := #[], attributes := #[] }
def k10m1 : Method := { name := "created", desc := "(Ljava/lang/Object;Ljava/lang/String;)Lcom/example/llave/llave/io/Answer;", sig := { parameters := [(.object "java/lang/Object"), (.object "java/lang/String")], returnType := some (.object "com/example/llave/llave/io/Answer") }, accessFlags := 8, code := some k10c1 }
def k10c2 : Code := { maxStack := 1, maxLocals := 1, code := prog_9_method_8_code, exceptionTable := #[], attributes := #[] }
def k10m2 : Method := { name := "status", desc := "()I", sig := { parameters := [], returnType := some .int }, accessFlags := 1, code := some k10c2 }
def k10c3 : Code := { maxStack := 1, maxLocals := 1, code := prog_9_method_9_code, exceptionTable := #[], attributes := #[] }
def k10m3 : Method := { name := "body", desc := "()Ljava/lang/Object;", sig := { parameters := [], returnType := some (.object "java/lang/Object") }, accessFlags := 1, code := some k10c3 }
def k10c4 : Code := { maxStack := 1, maxLocals := 1, code := prog_9_method_10_code, exceptionTable := #[], attributes := #[] }
def k10m4 : Method := { name := "location", desc := "()Ljava/lang/String;", sig := { parameters := [], returnType := some (.object "java/lang/String") }, accessFlags := 1, code := some k10c4 }
/-- com/example/llave/llave/io/Answer -/
def k10 : Class := { plain "com/example/llave/llave/io/Answer" (some 9) with
  accessFlags := 48
  interfaces := #[]
  cf := some (fileOf pool10 8 #[] #[{ accessFlags := 0, nameIndex := 5, descriptorIndex := 23, attributes := #[] }, { accessFlags := 8, nameIndex := 41, descriptorIndex := 42, attributes := #[] }, { accessFlags := 1, nameIndex := 11, descriptorIndex := 46, attributes := #[] }, { accessFlags := 1, nameIndex := 15, descriptorIndex := 48, attributes := #[] }, { accessFlags := 1, nameIndex := 19, descriptorIndex := 45, attributes := #[] }] 48 2 #[] #[{ accessFlags := 18, nameIndex := 11, descriptorIndex := 12, attributes := #[] }, { accessFlags := 18, nameIndex := 15, descriptorIndex := 16, attributes := #[] }, { accessFlags := 18, nameIndex := 19, descriptorIndex := 20, attributes := #[] }])
  fields := #[{ name := "status", type := .int, accessFlags := 18, slot := 0, constantValue := 0 }, { name := "body", type := (.object "java/lang/Object"), accessFlags := 18, slot := 1, constantValue := 0 }, { name := "location", type := (.object "java/lang/String"), accessFlags := 18, slot := 2, constantValue := 0 }]
  methods := #[k10m0, k10m1, k10m2, k10m3, k10m4]
  instanceTypes := #[.int, (.object "java/lang/Object"), (.object "java/lang/String")]
  staticTypes := #[]
  resolved := Array.replicate 71 none
  statics := none }

def pool11 : Array CpInfo := pool [(1, .methodref 2 3), (0, .class_ 4), (0, .nameAndType 5 6), (0, u "java/lang/Object"), (0, u "<init>"), (0, u "()V"), (1, .class_ 10), (1, u "java/lang/Number"), (2, .class_ 14), (0, u "java/io/Serializable"), (0, u "serialVersionUID"), (0, u "J")] 20

def k11c0 : Code := { maxStack := 1, maxLocals := 1, code := jdk_18_method_1_code, exceptionTable := #[], attributes := #[] }
def k11m0 : Method := { name := "<init>", desc := "()V", sig := { parameters := [], returnType := none }, accessFlags := 1, code := some k11c0 }
/-- java/lang/Number -/
def k11 : Class := { plain "java/lang/Number" (some 0) with
  accessFlags := 1057
  interfaces := #[2]
  cf := some (fileOf pool11 8 #[] #[{ accessFlags := 1, nameIndex := 5, descriptorIndex := 6, attributes := #[] }] 1057 2 #[13] #[{ accessFlags := 26, nameIndex := 15, descriptorIndex := 16, attributes := #[] }])
  fields := #[{ name := "serialVersionUID", type := .long, accessFlags := 26, slot := 0, constantValue := 0 }]
  methods := #[k11m0]
  instanceTypes := #[]
  staticTypes := #[.long]
  resolved := Array.replicate 37 none
  statics := none }

def pool12 : Array CpInfo := pool [(1, .class_ 2), (0, u "java/lang/Integer"), (16, u "digits"), (0, u "[C"), (46, u "<init>"), (17, u "DigitOnes"), (0, u "[B"), (2, u "DigitTens"), (10, .nameAndType 67 101), (0, u "()V"), (85, u "valueOf"), (0, u "(I)Ljava/lang/Integer;"), (0, .class_ 190), (0, u "java/lang/Integer$IntegerCache"), (0, .fieldref 189 192), (0, .nameAndType 193 194), (0, u "high"), (0, u "I"), (0, .fieldref 189 196), (0, .nameAndType 197 198), (0, u "cache"), (0, u "[Ljava/lang/Integer;"), (0, .methodref 1 200), (0, .nameAndType 67 201), (0, u "(I)V"), (0, .methodref 203 100), (0, .class_ 204), (0, u "java/lang/Number"), (0, .fieldref 1 206), (0, .nameAndType 207 194), (0, u "value"), (94, u "TYPE"), (0, u "Ljava/lang/Class;"), (0, .class_ 305), (0, u "java/lang/Comparable"), (0, .class_ 307), (0, u "java/lang/constant/Constable"), (0, .class_ 309), (0, u "java/lang/constant/ConstantDesc"), (0, u "MIN_VALUE"), (1, u "MAX_VALUE"), (3, u "SIZE"), (1, u "BYTES"), (1, u "serialVersionUID"), (0, u "J")] 131

def k12c0 : Code := { maxStack := 3, maxLocals := 1, code := jdk_33_method_22_code, exceptionTable := #[], attributes := #[] }
def k12m0 : Method := { name := "valueOf", desc := "(I)Ljava/lang/Integer;", sig := { parameters := [.int], returnType := some (.object "java/lang/Integer") }, accessFlags := 9, code := some k12c0 }
def k12c1 : Code := { maxStack := 2, maxLocals := 2, code := jdk_33_method_23_code, exceptionTable := #[], attributes := #[] }
def k12m1 : Method := { name := "<init>", desc := "(I)V", sig := { parameters := [.int], returnType := none }, accessFlags := 1, code := some k12c1 }
/-- java/lang/Integer -/
def k12 : Class := { plain "java/lang/Integer" (some 11) with
  accessFlags := 49
  interfaces := #[3, 5, 6]
  cf := some (fileOf pool12 1 #[.nestMembers #[189]] #[{ accessFlags := 9, nameIndex := 187, descriptorIndex := 188, attributes := #[] }, { accessFlags := 1, nameIndex := 67, descriptorIndex := 201, attributes := #[] }] 49 203 #[304, 306, 308] #[{ accessFlags := 25, nameIndex := 310, descriptorIndex := 194, attributes := #[] }, { accessFlags := 25, nameIndex := 312, descriptorIndex := 194, attributes := #[] }, { accessFlags := 25, nameIndex := 302, descriptorIndex := 303, attributes := #[] }, { accessFlags := 24, nameIndex := 19, descriptorIndex := 20, attributes := #[] }, { accessFlags := 24, nameIndex := 89, descriptorIndex := 86, attributes := #[] }, { accessFlags := 24, nameIndex := 85, descriptorIndex := 86, attributes := #[] }, { accessFlags := 18, nameIndex := 207, descriptorIndex := 194, attributes := #[] }, { accessFlags := 25, nameIndex := 316, descriptorIndex := 194, attributes := #[] }, { accessFlags := 25, nameIndex := 318, descriptorIndex := 194, attributes := #[] }, { accessFlags := 26, nameIndex := 320, descriptorIndex := 321, attributes := #[] }])
  fields := #[{ name := "MIN_VALUE", type := .int, accessFlags := 25, slot := 0, constantValue := 0 }, { name := "MAX_VALUE", type := .int, accessFlags := 25, slot := 1, constantValue := 0 }, { name := "TYPE", type := (.object "java/lang/Class"), accessFlags := 25, slot := 2, constantValue := 0 }, { name := "digits", type := (.array .char), accessFlags := 24, slot := 3, constantValue := 0 }, { name := "DigitTens", type := (.array .byte), accessFlags := 24, slot := 4, constantValue := 0 }, { name := "DigitOnes", type := (.array .byte), accessFlags := 24, slot := 5, constantValue := 0 }, { name := "value", type := .int, accessFlags := 18, slot := 0, constantValue := 0 }, { name := "SIZE", type := .int, accessFlags := 25, slot := 6, constantValue := 0 }, { name := "BYTES", type := .int, accessFlags := 25, slot := 7, constantValue := 0 }, { name := "serialVersionUID", type := .long, accessFlags := 26, slot := 8, constantValue := 0 }]
  methods := #[k12m0, k12m1]
  instanceTypes := #[.int]
  staticTypes := #[.int, .int, (.object "java/lang/Class"), (.array .char), (.array .byte), (.array .byte), .int, .int, .long]
  resolved := Array.replicate 453 none
  statics := none }

def pool13 : Array CpInfo := pool [(2, .class_ 4), (1, u "java/lang/Object"), (0, u "<init>"), (0, u "()V"), (0, .class_ 8), (0, u "java/lang/Integer"), (7, .class_ 18), (1, u "java/lang/Integer$IntegerCache"), (0, u "$assertionsDisabled"), (0, u "Z"), (26, u "high"), (0, u "I"), (8, u "archivedCache"), (0, u "[Ljava/lang/Integer;"), (12, u "cache"), (0, u "low")] 27

def k13m0 : Method := { name := "<init>", desc := "()V", sig := { parameters := [], returnType := none }, accessFlags := 2, code := none }
/-- java/lang/Integer$IntegerCache -/
def k13 : Class := { plain "java/lang/Integer$IntegerCache" (some 0) with
  accessFlags := 48
  interfaces := #[]
  cf := some (fileOf pool13 16 #[.nestHost 7] #[{ accessFlags := 2, nameIndex := 5, descriptorIndex := 6, attributes := #[] }] 48 2 #[] #[{ accessFlags := 24, nameIndex := 72, descriptorIndex := 48, attributes := #[] }, { accessFlags := 24, nameIndex := 47, descriptorIndex := 48, attributes := #[] }, { accessFlags := 24, nameIndex := 71, descriptorIndex := 58, attributes := #[] }, { accessFlags := 8, nameIndex := 57, descriptorIndex := 58, attributes := #[] }, { accessFlags := 4120, nameIndex := 19, descriptorIndex := 20, attributes := #[] }])
  fields := #[{ name := "low", type := .int, accessFlags := 24, slot := 0, constantValue := 0 }, { name := "high", type := .int, accessFlags := 24, slot := 1, constantValue := 0 }, { name := "cache", type := (.array (.object "java/lang/Integer")), accessFlags := 24, slot := 2, constantValue := 0 }, { name := "archivedCache", type := (.array (.object "java/lang/Integer")), accessFlags := 8, slot := 3, constantValue := 0 }, { name := "$assertionsDisabled", type := .boolean, accessFlags := 4120, slot := 4, constantValue := 0 }]
  methods := #[k13m0]
  instanceTypes := #[]
  staticTypes := #[.int, .int, (.array (.object "java/lang/Integer")), (.array (.object "java/lang/Integer")), .boolean]
  resolved := Array.replicate 100 none
  statics := some 1 }

def pool14 : Array CpInfo := pool [(4, .class_ 6), (1, u "java/lang/Object"), (0, u "<init>"), (0, u "()V"), (5, .class_ 16), (1, u "java/lang/StringLatin1"), (104, u "$assertionsDisabled"), (0, u "Z"), (98, .class_ 223), (1, u "java/lang/StringLatin1$LinesSpliterator"), (166, .class_ 391), (0, u "java/lang/StringLatin1$CharsSpliterator")] 3

def k14m0 : Method := { name := "<init>", desc := "()V", sig := { parameters := [], returnType := none }, accessFlags := 0, code := none }
/-- java/lang/StringLatin1 -/
def k14 : Class := { plain "java/lang/StringLatin1" (some 0) with
  accessFlags := 48
  interfaces := #[]
  cf := some (fileOf pool14 14 #[.nestMembers #[390, 221]] #[{ accessFlags := 0, nameIndex := 7, descriptorIndex := 8, attributes := #[] }] 48 4 #[] #[{ accessFlags := 4120, nameIndex := 121, descriptorIndex := 122, attributes := #[] }])
  fields := #[{ name := "$assertionsDisabled", type := .boolean, accessFlags := 4120, slot := 0, constantValue := 0 }]
  methods := #[k14m0]
  instanceTypes := #[]
  staticTypes := #[.boolean]
  resolved := Array.replicate 395 none
  statics := none }

def pool15 : Array CpInfo := pool [(2, .class_ 4), (1, u "java/lang/Object"), (0, u "<init>"), (0, u "()V"), (17, .class_ 26), (1, u "jdk/internal/util/Preconditions"), (28, .class_ 56), (0, u "jdk/internal/util/Preconditions$4"), (57, .class_ 115), (0, u "jdk/internal/util/Preconditions$1"), (7, u "SIOOBE_FORMATTER"), (0, u "Ljava/util/function/BiFunction;"), (0, .class_ 126), (0, u "jdk/internal/util/Preconditions$2"), (3, u "AIOOBE_FORMATTER"), (0, .class_ 132), (0, u "jdk/internal/util/Preconditions$3"), (3, u "IOOBE_FORMATTER")] 57

def k15m0 : Method := { name := "<init>", desc := "()V", sig := { parameters := [], returnType := none }, accessFlags := 1, code := none }
/-- jdk/internal/util/Preconditions -/
def k15 : Class := { plain "jdk/internal/util/Preconditions" (some 0) with
  accessFlags := 33
  interfaces := #[]
  cf := some (fileOf pool15 24 #[.nestMembers #[55, 131, 125, 114]] #[{ accessFlags := 1, nameIndex := 5, descriptorIndex := 6, attributes := #[] }] 33 2 #[] #[{ accessFlags := 25, nameIndex := 123, descriptorIndex := 124, attributes := #[] }, { accessFlags := 25, nameIndex := 130, descriptorIndex := 124, attributes := #[] }, { accessFlags := 25, nameIndex := 136, descriptorIndex := 124, attributes := #[] }])
  fields := #[{ name := "SIOOBE_FORMATTER", type := (.object "java/util/function/BiFunction"), accessFlags := 25, slot := 0, constantValue := 0 }, { name := "AIOOBE_FORMATTER", type := (.object "java/util/function/BiFunction"), accessFlags := 25, slot := 1, constantValue := 0 }, { name := "IOOBE_FORMATTER", type := (.object "java/util/function/BiFunction"), accessFlags := 25, slot := 2, constantValue := 0 }]
  methods := #[k15m0]
  instanceTypes := #[]
  staticTypes := #[(.object "java/util/function/BiFunction"), (.object "java/util/function/BiFunction"), (.object "java/util/function/BiFunction")]
  resolved := Array.replicate 194 none
  statics := some 2 }

def pool16 : Array CpInfo := pool [(9, u "<init>"), (6, .class_ 18), (1, u "java/lang/Object"), (0, u "()V"), (1, .class_ 23), (1, u "jdk/internal/util/ArraysSupport"), (0, u "LOG2_ARRAY_LONG_INDEX_SCALE"), (0, u "I"), (2, u "U"), (0, u "Ljdk/internal/misc/Unsafe;"), (8, u "BIG_ENDIAN"), (0, u "Z"), (8, u "LOG2_BYTE_BIT_SIZE"), (4, u "LOG2_ARRAY_INT_INDEX_SCALE"), (54, u "JLA"), (0, u "Ljdk/internal/access/JavaLangAccess;"), (11, u "LOG2_ARRAY_BOOLEAN_INDEX_SCALE"), (9, u "LOG2_ARRAY_BYTE_INDEX_SCALE"), (5, u "LOG2_ARRAY_CHAR_INDEX_SCALE"), (5, u "LOG2_ARRAY_SHORT_INDEX_SCALE"), (18, u "LOG2_ARRAY_FLOAT_INDEX_SCALE"), (24, u "LOG2_ARRAY_DOUBLE_INDEX_SCALE"), (89, u "T_BOOLEAN"), (2, u "T_CHAR"), (1, u "T_FLOAT"), (1, u "T_DOUBLE"), (1, u "T_BYTE"), (1, u "T_SHORT"), (1, u "T_INT"), (1, u "T_LONG"), (1, u "SOFT_MAX_ARRAY_LENGTH")] 83

def k16m0 : Method := { name := "<init>", desc := "()V", sig := { parameters := [], returnType := none }, accessFlags := 2, code := none }
/-- jdk/internal/util/ArraysSupport -/
def k16 : Class := { plain "jdk/internal/util/ArraysSupport" (some 0) with
  accessFlags := 33
  interfaces := #[]
  cf := some (fileOf pool16 21 #[] #[{ accessFlags := 2, nameIndex := 9, descriptorIndex := 19, attributes := #[] }] 33 16 #[] #[{ accessFlags := 24, nameIndex := 28, descriptorIndex := 29, attributes := #[] }, { accessFlags := 26, nameIndex := 38, descriptorIndex := 39, attributes := #[] }, { accessFlags := 25, nameIndex := 121, descriptorIndex := 25, attributes := #[] }, { accessFlags := 25, nameIndex := 131, descriptorIndex := 25, attributes := #[] }, { accessFlags := 25, nameIndex := 137, descriptorIndex := 25, attributes := #[] }, { accessFlags := 25, nameIndex := 143, descriptorIndex := 25, attributes := #[] }, { accessFlags := 25, nameIndex := 53, descriptorIndex := 25, attributes := #[] }, { accessFlags := 25, nameIndex := 24, descriptorIndex := 25, attributes := #[] }, { accessFlags := 25, nameIndex := 162, descriptorIndex := 25, attributes := #[] }, { accessFlags := 25, nameIndex := 187, descriptorIndex := 25, attributes := #[] }, { accessFlags := 26, nameIndex := 48, descriptorIndex := 25, attributes := #[] }, { accessFlags := 25, nameIndex := 277, descriptorIndex := 25, attributes := #[] }, { accessFlags := 25, nameIndex := 280, descriptorIndex := 25, attributes := #[] }, { accessFlags := 25, nameIndex := 282, descriptorIndex := 25, attributes := #[] }, { accessFlags := 25, nameIndex := 284, descriptorIndex := 25, attributes := #[] }, { accessFlags := 25, nameIndex := 286, descriptorIndex := 25, attributes := #[] }, { accessFlags := 25, nameIndex := 288, descriptorIndex := 25, attributes := #[] }, { accessFlags := 25, nameIndex := 290, descriptorIndex := 25, attributes := #[] }, { accessFlags := 25, nameIndex := 292, descriptorIndex := 25, attributes := #[] }, { accessFlags := 26, nameIndex := 108, descriptorIndex := 109, attributes := #[] }, { accessFlags := 25, nameIndex := 294, descriptorIndex := 25, attributes := #[] }])
  fields := #[{ name := "U", type := (.object "jdk/internal/misc/Unsafe"), accessFlags := 24, slot := 0, constantValue := 0 }, { name := "BIG_ENDIAN", type := .boolean, accessFlags := 26, slot := 1, constantValue := 0 }, { name := "LOG2_ARRAY_BOOLEAN_INDEX_SCALE", type := .int, accessFlags := 25, slot := 2, constantValue := 0 }, { name := "LOG2_ARRAY_BYTE_INDEX_SCALE", type := .int, accessFlags := 25, slot := 3, constantValue := 0 }, { name := "LOG2_ARRAY_CHAR_INDEX_SCALE", type := .int, accessFlags := 25, slot := 4, constantValue := 0 }, { name := "LOG2_ARRAY_SHORT_INDEX_SCALE", type := .int, accessFlags := 25, slot := 5, constantValue := 0 }, { name := "LOG2_ARRAY_INT_INDEX_SCALE", type := .int, accessFlags := 25, slot := 6, constantValue := 0 }, { name := "LOG2_ARRAY_LONG_INDEX_SCALE", type := .int, accessFlags := 25, slot := 7, constantValue := 0 }, { name := "LOG2_ARRAY_FLOAT_INDEX_SCALE", type := .int, accessFlags := 25, slot := 8, constantValue := 0 }, { name := "LOG2_ARRAY_DOUBLE_INDEX_SCALE", type := .int, accessFlags := 25, slot := 9, constantValue := 0 }, { name := "LOG2_BYTE_BIT_SIZE", type := .int, accessFlags := 26, slot := 10, constantValue := 0 }, { name := "T_BOOLEAN", type := .int, accessFlags := 25, slot := 11, constantValue := 0 }, { name := "T_CHAR", type := .int, accessFlags := 25, slot := 12, constantValue := 0 }, { name := "T_FLOAT", type := .int, accessFlags := 25, slot := 13, constantValue := 0 }, { name := "T_DOUBLE", type := .int, accessFlags := 25, slot := 14, constantValue := 0 }, { name := "T_BYTE", type := .int, accessFlags := 25, slot := 15, constantValue := 0 }, { name := "T_SHORT", type := .int, accessFlags := 25, slot := 16, constantValue := 0 }, { name := "T_INT", type := .int, accessFlags := 25, slot := 17, constantValue := 0 }, { name := "T_LONG", type := .int, accessFlags := 25, slot := 18, constantValue := 0 }, { name := "JLA", type := (.object "jdk/internal/access/JavaLangAccess"), accessFlags := 26, slot := 19, constantValue := 0 }, { name := "SOFT_MAX_ARRAY_LENGTH", type := .int, accessFlags := 25, slot := 20, constantValue := 0 }]
  methods := #[k16m0]
  instanceTypes := #[]
  staticTypes := #[(.object "jdk/internal/misc/Unsafe"), .boolean, .int, .int, .int, .int, .int, .int, .int, .int, .int, .int, .int, .int, .int, .int, .int, .int, .int, (.object "jdk/internal/access/JavaLangAccess"), .int]
  resolved := Array.replicate 378 none
  statics := none }

def pool17 : Array CpInfo := pool [(1, u "java/lang/Cloneable"), (0, .class_ 1), (0, u "java/lang/Object"), (0, .class_ 3)] 3

/-- java/lang/Cloneable -/
def k17 : Class := { plain "java/lang/Cloneable" (some 0) with
  accessFlags := 1537
  interfaces := #[]
  cf := some (fileOf pool17 2 #[] #[] 1537 4 #[] #[])
  fields := #[]
  methods := #[]
  instanceTypes := #[]
  staticTypes := #[]
  resolved := Array.replicate 8 none
  statics := none }

/-- the primitive byte -/
def k18 : Class := { plain "byte" none with kind := .primitive 'B', accessFlags := 0x411 }
/-- [B -/
def k19 : Class := { plain "[B" (some 0) with kind := .array 18 .byte, interfaces := #[17, 2], accessFlags := 1041 }

/-- the primitive char -/
def k20 : Class := { plain "char" none with kind := .primitive 'C', accessFlags := 0x411 }
/-- [C -/
def k21 : Class := { plain "[C" (some 0) with kind := .array 20 .char, interfaces := #[17, 2], accessFlags := 1041 }

/-- the primitive int -/
def k22 : Class := { plain "int" none with kind := .primitive 'I', accessFlags := 0x411 }
/-- [I -/
def k23 : Class := { plain "[I" (some 0) with kind := .array 22 .int, interfaces := #[17, 2], accessFlags := 1041 }

/-- [Ljava/lang/Integer; -/
def k24 : Class := { plain "[Ljava/lang/Integer;" (some 0) with kind := .array 12 (.object "java/lang/Integer"), interfaces := #[17, 2], accessFlags := 1041 }

def heap : Heap := #[{ cls := 7, slots := #[.long 0, .int 1, .null, .int 0, .null, .int 0, .int 0], vm := .statics 7 },
  { cls := 13, slots := #[.int 0, .int 127, .ref 3, .null, .int 0], vm := .statics 13 },
  { cls := 15, slots := #[.null, .null, .null], vm := .statics 15 },
  { cls := 24, slots := #[.ref 4, .ref 5, .ref 6, .ref 7, .ref 8, .ref 9, .ref 10, .ref 11, .ref 12, .ref 13, .ref 14, .ref 15, .ref 16, .ref 17, .ref 18, .ref 19, .ref 20, .ref 21, .ref 22, .ref 23, .ref 24, .ref 25, .ref 26, .ref 27, .ref 28, .ref 29, .ref 30, .ref 31, .ref 32, .ref 33, .ref 34, .ref 35, .ref 36, .ref 37, .ref 38, .ref 39, .ref 40, .ref 41, .ref 42, .ref 43, .ref 44, .ref 45, .ref 46, .ref 47, .ref 48, .ref 49, .ref 50, .ref 51, .ref 52, .ref 53, .ref 54, .ref 55, .ref 56, .ref 57, .ref 58, .ref 59, .ref 60, .ref 61, .ref 62, .ref 63, .ref 64, .ref 65, .ref 66, .ref 67, .ref 68, .ref 69, .ref 70, .ref 71, .ref 72, .ref 73, .ref 74, .ref 75, .ref 76, .ref 77, .ref 78, .ref 79, .ref 80, .ref 81, .ref 82, .ref 83, .ref 84, .ref 85, .ref 86, .ref 87, .ref 88, .ref 89, .ref 90, .ref 91, .ref 92, .ref 93, .ref 94, .ref 95, .ref 96, .ref 97, .ref 98, .ref 99, .ref 100, .ref 101, .ref 102, .ref 103, .ref 104, .ref 105, .ref 106, .ref 107, .ref 108, .ref 109, .ref 110, .ref 111, .ref 112, .ref 113, .ref 114, .ref 115, .ref 116, .ref 117, .ref 118, .ref 119, .ref 120, .ref 121, .ref 122, .ref 123, .ref 124, .ref 125, .ref 126, .ref 127, .ref 128, .ref 129, .ref 130, .ref 131, .ref 132, .ref 133, .ref 134, .ref 135, .ref 136, .ref 137, .ref 138, .ref 139, .ref 140, .ref 141, .ref 142, .ref 143, .ref 144, .ref 145, .ref 146, .ref 147, .ref 148, .ref 149, .ref 150, .ref 151, .ref 152, .ref 153, .ref 154, .ref 155, .ref 156, .ref 157, .ref 158, .ref 159, .ref 160, .ref 161, .ref 162, .ref 163, .ref 164, .ref 165, .ref 166, .ref 167, .ref 168, .ref 169, .ref 170, .ref 171, .ref 172, .ref 173, .ref 174, .ref 175, .ref 176, .ref 177, .ref 178, .ref 179, .ref 180, .ref 181, .ref 182, .ref 183, .ref 184, .ref 185, .ref 186, .ref 187, .ref 188, .ref 189, .ref 190, .ref 191, .ref 192, .ref 193, .ref 194, .ref 195, .ref 196, .ref 197, .ref 198, .ref 199, .ref 200, .ref 201, .ref 202, .ref 203, .ref 204, .ref 205, .ref 206, .ref 207, .ref 208, .ref 209, .ref 210, .ref 211, .ref 212, .ref 213, .ref 214, .ref 215, .ref 216, .ref 217, .ref 218, .ref 219, .ref 220, .ref 221, .ref 222, .ref 223, .ref 224, .ref 225, .ref 226, .ref 227, .ref 228, .ref 229, .ref 230, .ref 231, .ref 232, .ref 233, .ref 234, .ref 235, .ref 236, .ref 237, .ref 238, .ref 239, .ref 240, .ref 241, .ref 242, .ref 243, .ref 244, .ref 245, .ref 246, .ref 247, .ref 248, .ref 249, .ref 250, .ref 251, .ref 252, .ref 253, .ref 254, .ref 255, .ref 256, .ref 257, .ref 258, .ref 259], vm := .none },
  { cls := 12, slots := #[.int (-128)], vm := .none },
  { cls := 12, slots := #[.int (-127)], vm := .none },
  { cls := 12, slots := #[.int (-126)], vm := .none },
  { cls := 12, slots := #[.int (-125)], vm := .none },
  { cls := 12, slots := #[.int (-124)], vm := .none },
  { cls := 12, slots := #[.int (-123)], vm := .none },
  { cls := 12, slots := #[.int (-122)], vm := .none },
  { cls := 12, slots := #[.int (-121)], vm := .none },
  { cls := 12, slots := #[.int (-120)], vm := .none },
  { cls := 12, slots := #[.int (-119)], vm := .none },
  { cls := 12, slots := #[.int (-118)], vm := .none },
  { cls := 12, slots := #[.int (-117)], vm := .none },
  { cls := 12, slots := #[.int (-116)], vm := .none },
  { cls := 12, slots := #[.int (-115)], vm := .none },
  { cls := 12, slots := #[.int (-114)], vm := .none },
  { cls := 12, slots := #[.int (-113)], vm := .none },
  { cls := 12, slots := #[.int (-112)], vm := .none },
  { cls := 12, slots := #[.int (-111)], vm := .none },
  { cls := 12, slots := #[.int (-110)], vm := .none },
  { cls := 12, slots := #[.int (-109)], vm := .none },
  { cls := 12, slots := #[.int (-108)], vm := .none },
  { cls := 12, slots := #[.int (-107)], vm := .none },
  { cls := 12, slots := #[.int (-106)], vm := .none },
  { cls := 12, slots := #[.int (-105)], vm := .none },
  { cls := 12, slots := #[.int (-104)], vm := .none },
  { cls := 12, slots := #[.int (-103)], vm := .none },
  { cls := 12, slots := #[.int (-102)], vm := .none },
  { cls := 12, slots := #[.int (-101)], vm := .none },
  { cls := 12, slots := #[.int (-100)], vm := .none },
  { cls := 12, slots := #[.int (-99)], vm := .none },
  { cls := 12, slots := #[.int (-98)], vm := .none },
  { cls := 12, slots := #[.int (-97)], vm := .none },
  { cls := 12, slots := #[.int (-96)], vm := .none },
  { cls := 12, slots := #[.int (-95)], vm := .none },
  { cls := 12, slots := #[.int (-94)], vm := .none },
  { cls := 12, slots := #[.int (-93)], vm := .none },
  { cls := 12, slots := #[.int (-92)], vm := .none },
  { cls := 12, slots := #[.int (-91)], vm := .none },
  { cls := 12, slots := #[.int (-90)], vm := .none },
  { cls := 12, slots := #[.int (-89)], vm := .none },
  { cls := 12, slots := #[.int (-88)], vm := .none },
  { cls := 12, slots := #[.int (-87)], vm := .none },
  { cls := 12, slots := #[.int (-86)], vm := .none },
  { cls := 12, slots := #[.int (-85)], vm := .none },
  { cls := 12, slots := #[.int (-84)], vm := .none },
  { cls := 12, slots := #[.int (-83)], vm := .none },
  { cls := 12, slots := #[.int (-82)], vm := .none },
  { cls := 12, slots := #[.int (-81)], vm := .none },
  { cls := 12, slots := #[.int (-80)], vm := .none },
  { cls := 12, slots := #[.int (-79)], vm := .none },
  { cls := 12, slots := #[.int (-78)], vm := .none },
  { cls := 12, slots := #[.int (-77)], vm := .none },
  { cls := 12, slots := #[.int (-76)], vm := .none },
  { cls := 12, slots := #[.int (-75)], vm := .none },
  { cls := 12, slots := #[.int (-74)], vm := .none },
  { cls := 12, slots := #[.int (-73)], vm := .none },
  { cls := 12, slots := #[.int (-72)], vm := .none },
  { cls := 12, slots := #[.int (-71)], vm := .none },
  { cls := 12, slots := #[.int (-70)], vm := .none },
  { cls := 12, slots := #[.int (-69)], vm := .none },
  { cls := 12, slots := #[.int (-68)], vm := .none },
  { cls := 12, slots := #[.int (-67)], vm := .none },
  { cls := 12, slots := #[.int (-66)], vm := .none },
  { cls := 12, slots := #[.int (-65)], vm := .none },
  { cls := 12, slots := #[.int (-64)], vm := .none },
  { cls := 12, slots := #[.int (-63)], vm := .none },
  { cls := 12, slots := #[.int (-62)], vm := .none },
  { cls := 12, slots := #[.int (-61)], vm := .none },
  { cls := 12, slots := #[.int (-60)], vm := .none },
  { cls := 12, slots := #[.int (-59)], vm := .none },
  { cls := 12, slots := #[.int (-58)], vm := .none },
  { cls := 12, slots := #[.int (-57)], vm := .none },
  { cls := 12, slots := #[.int (-56)], vm := .none },
  { cls := 12, slots := #[.int (-55)], vm := .none },
  { cls := 12, slots := #[.int (-54)], vm := .none },
  { cls := 12, slots := #[.int (-53)], vm := .none },
  { cls := 12, slots := #[.int (-52)], vm := .none },
  { cls := 12, slots := #[.int (-51)], vm := .none },
  { cls := 12, slots := #[.int (-50)], vm := .none },
  { cls := 12, slots := #[.int (-49)], vm := .none },
  { cls := 12, slots := #[.int (-48)], vm := .none },
  { cls := 12, slots := #[.int (-47)], vm := .none },
  { cls := 12, slots := #[.int (-46)], vm := .none },
  { cls := 12, slots := #[.int (-45)], vm := .none },
  { cls := 12, slots := #[.int (-44)], vm := .none },
  { cls := 12, slots := #[.int (-43)], vm := .none },
  { cls := 12, slots := #[.int (-42)], vm := .none },
  { cls := 12, slots := #[.int (-41)], vm := .none },
  { cls := 12, slots := #[.int (-40)], vm := .none },
  { cls := 12, slots := #[.int (-39)], vm := .none },
  { cls := 12, slots := #[.int (-38)], vm := .none },
  { cls := 12, slots := #[.int (-37)], vm := .none },
  { cls := 12, slots := #[.int (-36)], vm := .none },
  { cls := 12, slots := #[.int (-35)], vm := .none },
  { cls := 12, slots := #[.int (-34)], vm := .none },
  { cls := 12, slots := #[.int (-33)], vm := .none },
  { cls := 12, slots := #[.int (-32)], vm := .none },
  { cls := 12, slots := #[.int (-31)], vm := .none },
  { cls := 12, slots := #[.int (-30)], vm := .none },
  { cls := 12, slots := #[.int (-29)], vm := .none },
  { cls := 12, slots := #[.int (-28)], vm := .none },
  { cls := 12, slots := #[.int (-27)], vm := .none },
  { cls := 12, slots := #[.int (-26)], vm := .none },
  { cls := 12, slots := #[.int (-25)], vm := .none },
  { cls := 12, slots := #[.int (-24)], vm := .none },
  { cls := 12, slots := #[.int (-23)], vm := .none },
  { cls := 12, slots := #[.int (-22)], vm := .none },
  { cls := 12, slots := #[.int (-21)], vm := .none },
  { cls := 12, slots := #[.int (-20)], vm := .none },
  { cls := 12, slots := #[.int (-19)], vm := .none },
  { cls := 12, slots := #[.int (-18)], vm := .none },
  { cls := 12, slots := #[.int (-17)], vm := .none },
  { cls := 12, slots := #[.int (-16)], vm := .none },
  { cls := 12, slots := #[.int (-15)], vm := .none },
  { cls := 12, slots := #[.int (-14)], vm := .none },
  { cls := 12, slots := #[.int (-13)], vm := .none },
  { cls := 12, slots := #[.int (-12)], vm := .none },
  { cls := 12, slots := #[.int (-11)], vm := .none },
  { cls := 12, slots := #[.int (-10)], vm := .none },
  { cls := 12, slots := #[.int (-9)], vm := .none },
  { cls := 12, slots := #[.int (-8)], vm := .none },
  { cls := 12, slots := #[.int (-7)], vm := .none },
  { cls := 12, slots := #[.int (-6)], vm := .none },
  { cls := 12, slots := #[.int (-5)], vm := .none },
  { cls := 12, slots := #[.int (-4)], vm := .none },
  { cls := 12, slots := #[.int (-3)], vm := .none },
  { cls := 12, slots := #[.int (-2)], vm := .none },
  { cls := 12, slots := #[.int (-1)], vm := .none },
  { cls := 12, slots := #[.int 0], vm := .none },
  { cls := 12, slots := #[.int 1], vm := .none },
  { cls := 12, slots := #[.int 2], vm := .none },
  { cls := 12, slots := #[.int 3], vm := .none },
  { cls := 12, slots := #[.int 4], vm := .none },
  { cls := 12, slots := #[.int 5], vm := .none },
  { cls := 12, slots := #[.int 6], vm := .none },
  { cls := 12, slots := #[.int 7], vm := .none },
  { cls := 12, slots := #[.int 8], vm := .none },
  { cls := 12, slots := #[.int 9], vm := .none },
  { cls := 12, slots := #[.int 10], vm := .none },
  { cls := 12, slots := #[.int 11], vm := .none },
  { cls := 12, slots := #[.int 12], vm := .none },
  { cls := 12, slots := #[.int 13], vm := .none },
  { cls := 12, slots := #[.int 14], vm := .none },
  { cls := 12, slots := #[.int 15], vm := .none },
  { cls := 12, slots := #[.int 16], vm := .none },
  { cls := 12, slots := #[.int 17], vm := .none },
  { cls := 12, slots := #[.int 18], vm := .none },
  { cls := 12, slots := #[.int 19], vm := .none },
  { cls := 12, slots := #[.int 20], vm := .none },
  { cls := 12, slots := #[.int 21], vm := .none },
  { cls := 12, slots := #[.int 22], vm := .none },
  { cls := 12, slots := #[.int 23], vm := .none },
  { cls := 12, slots := #[.int 24], vm := .none },
  { cls := 12, slots := #[.int 25], vm := .none },
  { cls := 12, slots := #[.int 26], vm := .none },
  { cls := 12, slots := #[.int 27], vm := .none },
  { cls := 12, slots := #[.int 28], vm := .none },
  { cls := 12, slots := #[.int 29], vm := .none },
  { cls := 12, slots := #[.int 30], vm := .none },
  { cls := 12, slots := #[.int 31], vm := .none },
  { cls := 12, slots := #[.int 32], vm := .none },
  { cls := 12, slots := #[.int 33], vm := .none },
  { cls := 12, slots := #[.int 34], vm := .none },
  { cls := 12, slots := #[.int 35], vm := .none },
  { cls := 12, slots := #[.int 36], vm := .none },
  { cls := 12, slots := #[.int 37], vm := .none },
  { cls := 12, slots := #[.int 38], vm := .none },
  { cls := 12, slots := #[.int 39], vm := .none },
  { cls := 12, slots := #[.int 40], vm := .none },
  { cls := 12, slots := #[.int 41], vm := .none },
  { cls := 12, slots := #[.int 42], vm := .none },
  { cls := 12, slots := #[.int 43], vm := .none },
  { cls := 12, slots := #[.int 44], vm := .none },
  { cls := 12, slots := #[.int 45], vm := .none },
  { cls := 12, slots := #[.int 46], vm := .none },
  { cls := 12, slots := #[.int 47], vm := .none },
  { cls := 12, slots := #[.int 48], vm := .none },
  { cls := 12, slots := #[.int 49], vm := .none },
  { cls := 12, slots := #[.int 50], vm := .none },
  { cls := 12, slots := #[.int 51], vm := .none },
  { cls := 12, slots := #[.int 52], vm := .none },
  { cls := 12, slots := #[.int 53], vm := .none },
  { cls := 12, slots := #[.int 54], vm := .none },
  { cls := 12, slots := #[.int 55], vm := .none },
  { cls := 12, slots := #[.int 56], vm := .none },
  { cls := 12, slots := #[.int 57], vm := .none },
  { cls := 12, slots := #[.int 58], vm := .none },
  { cls := 12, slots := #[.int 59], vm := .none },
  { cls := 12, slots := #[.int 60], vm := .none },
  { cls := 12, slots := #[.int 61], vm := .none },
  { cls := 12, slots := #[.int 62], vm := .none },
  { cls := 12, slots := #[.int 63], vm := .none },
  { cls := 12, slots := #[.int 64], vm := .none },
  { cls := 12, slots := #[.int 65], vm := .none },
  { cls := 12, slots := #[.int 66], vm := .none },
  { cls := 12, slots := #[.int 67], vm := .none },
  { cls := 12, slots := #[.int 68], vm := .none },
  { cls := 12, slots := #[.int 69], vm := .none },
  { cls := 12, slots := #[.int 70], vm := .none },
  { cls := 12, slots := #[.int 71], vm := .none },
  { cls := 12, slots := #[.int 72], vm := .none },
  { cls := 12, slots := #[.int 73], vm := .none },
  { cls := 12, slots := #[.int 74], vm := .none },
  { cls := 12, slots := #[.int 75], vm := .none },
  { cls := 12, slots := #[.int 76], vm := .none },
  { cls := 12, slots := #[.int 77], vm := .none },
  { cls := 12, slots := #[.int 78], vm := .none },
  { cls := 12, slots := #[.int 79], vm := .none },
  { cls := 12, slots := #[.int 80], vm := .none },
  { cls := 12, slots := #[.int 81], vm := .none },
  { cls := 12, slots := #[.int 82], vm := .none },
  { cls := 12, slots := #[.int 83], vm := .none },
  { cls := 12, slots := #[.int 84], vm := .none },
  { cls := 12, slots := #[.int 85], vm := .none },
  { cls := 12, slots := #[.int 86], vm := .none },
  { cls := 12, slots := #[.int 87], vm := .none },
  { cls := 12, slots := #[.int 88], vm := .none },
  { cls := 12, slots := #[.int 89], vm := .none },
  { cls := 12, slots := #[.int 90], vm := .none },
  { cls := 12, slots := #[.int 91], vm := .none },
  { cls := 12, slots := #[.int 92], vm := .none },
  { cls := 12, slots := #[.int 93], vm := .none },
  { cls := 12, slots := #[.int 94], vm := .none },
  { cls := 12, slots := #[.int 95], vm := .none },
  { cls := 12, slots := #[.int 96], vm := .none },
  { cls := 12, slots := #[.int 97], vm := .none },
  { cls := 12, slots := #[.int 98], vm := .none },
  { cls := 12, slots := #[.int 99], vm := .none },
  { cls := 12, slots := #[.int 100], vm := .none },
  { cls := 12, slots := #[.int 101], vm := .none },
  { cls := 12, slots := #[.int 102], vm := .none },
  { cls := 12, slots := #[.int 103], vm := .none },
  { cls := 12, slots := #[.int 104], vm := .none },
  { cls := 12, slots := #[.int 105], vm := .none },
  { cls := 12, slots := #[.int 106], vm := .none },
  { cls := 12, slots := #[.int 107], vm := .none },
  { cls := 12, slots := #[.int 108], vm := .none },
  { cls := 12, slots := #[.int 109], vm := .none },
  { cls := 12, slots := #[.int 110], vm := .none },
  { cls := 12, slots := #[.int 111], vm := .none },
  { cls := 12, slots := #[.int 112], vm := .none },
  { cls := 12, slots := #[.int 113], vm := .none },
  { cls := 12, slots := #[.int 114], vm := .none },
  { cls := 12, slots := #[.int 115], vm := .none },
  { cls := 12, slots := #[.int 116], vm := .none },
  { cls := 12, slots := #[.int 117], vm := .none },
  { cls := 12, slots := #[.int 118], vm := .none },
  { cls := 12, slots := #[.int 119], vm := .none },
  { cls := 12, slots := #[.int 120], vm := .none },
  { cls := 12, slots := #[.int 121], vm := .none },
  { cls := 12, slots := #[.int 122], vm := .none },
  { cls := 12, slots := #[.int 123], vm := .none },
  { cls := 12, slots := #[.int 124], vm := .none },
  { cls := 12, slots := #[.int 125], vm := .none },
  { cls := 12, slots := #[.int 126], vm := .none },
  { cls := 12, slots := #[.int 127], vm := .none }]
def classes : Array Class := #[k0, k1, k2, k3, k4, k5, k6, k7, k8, k9, k10, k11, k12, k13, k14, k15, k16, k17, k18, k19, k20, k21, k22, k23, k24]
def interned : List (Array UInt16 × Addr) := []
def slotsUsed : Nat := 527
def theMethod : MethodId := ⟨1, 1⟩
def args0 : Array Value := #[.int 1, .int 2, .int 3, .int 0]
def aboutOver (below : List Frame) : State where
  vm := { classes := classes, interned := interned.toArray }
  heap := heap
  slotsUsed := slotsUsed
  threads := #[{ frames := .invoking theMethod args0 :: below }]
def below0 : List Frame := [.native { method := ⟨0, 0⟩, args := #[] }]
def about1 : State := aboutOver below0
def p0 : Program := .bare "" "" ""
def e0 : Env := launch0.env 0 0 0
theorem w_frames : about1.frames = Frame.invoking theMethod args0 :: below0 := rfl
set_option maxRecDepth 65536 in
theorem w_args : argsFit about1.vm theMethod args0 = true := by decide +kernel
set_option maxRecDepth 65536 in
theorem w_heap : heapFits about1 = true := by decide +kernel
set_option maxRecDepth 65536 in
theorem w_runnable : about1.curStatus? = some .runnable := by decide +kernel
set_option maxRecDepth 65536 in
theorem w_alone : about1.alone = true := by decide +kernel
set_option maxRecDepth 65536 in
theorem w_named : about1.methodNamed? x = some theMethod := by decide +kernel
set_option maxRecDepth 65536 in
theorem w_hears : about1.hears theMethod below0 = true := by decide +kernel
set_option maxRecDepth 65536 in
theorem w_ripe : about1.ripe theMethod args0 below0 = true := by decide +kernel
theorem w_running : about1.status = .running := rfl
set_option maxRecDepth 65536 in
theorem w_room : about1.hasRoom e0.platform room_1 = true :=
  launch0.hasRoom_least _ room_1 (by decide +kernel) (by decide +kernel) (by decide +kernel) (by decide +kernel) (by decide +kernel) (by decide +kernel)
theorem allAtoms_all (ts : List Jvm.Cond) (a : Array Jvm.Value) (st : Jvm.State) : (allAtoms ts).before a st = ts.all (fun c => c.before a st) := by
  induction ts with
  | nil => rfl
  | cons c t ih =>
    show (Jvm.Cond.and c (allAtoms t)).before a st = _
    rw [Jvm.Cond.before_and, ih, List.all_cons]
def words1 : List Jvm.Cond := Jvm.Cond.code x code maxLocals ret :: tables_1
/-- a 'code' word, met by the world's own term for the bytes: nothing is compared byte by byte -/
theorem code_word {y : MethodName} {bytes : ByteArray} {mx : Nat} {rt : Option FieldType} {a : Array Value} {s : State} {m : MethodId} {meth : Method} {c : Code} (h1 : s.methodNamed? y = some m) (h2 : s.vm.method? m = some meth) (h3 : meth.code = some c) (h4 : c.code = bytes)
    (h5 : (c.maxLocals == mx && c.exceptionTable.isEmpty && decide (c.maxStack ≤ mostOperands) && decide (meth.sig.returnType = rt) && !meth.locks && decide (parseMethodDescriptor y.desc = some meth.sig)) = true) : (Jvm.Cond.code y bytes mx rt).before a s = true := by
  simp only [Bool.and_eq_true, beq_iff_eq, Bool.not_eq_true', decide_eq_true_eq] at h5
  obtain ⟨⟨⟨⟨⟨g1, g2⟩, g3⟩, g4⟩, g5⟩, g6⟩ := h5
  simp [Cond.before, Cond.holds, Cond.value, h1, h2, h3, h4, g1, g2, g3, g4, g5, g6]
def isCode : Jvm.Cond → Bool
  | .code _ _ _ _ => true
  | _ => false
theorem all_split {L : List Jvm.Cond} {P : Jvm.Cond → Bool} (h1 : L.all (fun c => isCode c || P c) = true) (h2 : ∀ c ∈ L.filter isCode, P c = true) : L.all P = true := by
  refine List.all_eq_true.mpr fun c hc => ?_
  have h := List.all_eq_true.mp h1 c hc
  rcases Bool.eq_false_or_eq_true (isCode c) with hi | hi
  · exact h2 c (List.mem_filter.mpr ⟨hc, hi⟩)
  · simpa [hi] using h
set_option maxRecDepth 65536 in
theorem w_c0 : (Jvm.Cond.code x code maxLocals ret).before args0 about1 = true := code_word (m := ⟨1, 1⟩) (meth := k1m1) (c := k1c1) (by decide +kernel) rfl rfl rfl (by decide +kernel)
set_option maxRecDepth 65536 in
theorem w_c1 : (Jvm.Cond.code ({ cls := "java/lang/String", name := "<init>", desc := "([C)V" } : Jvm.MethodName) jdk_42_method_3_code (2 : Nat) (Option.none : Option Jvm.ClassFile.FieldType)).before args0 about1 = true := code_word (m := ⟨7, 1⟩) (meth := k7m1) (c := k7c1) (by decide +kernel) rfl rfl rfl (by decide +kernel)
set_option maxRecDepth 65536 in
theorem w_c2 : (Jvm.Cond.code ({ cls := "java/lang/String", name := "<init>", desc := "([CIILjava/lang/Void;)V" } : Jvm.MethodName) jdk_42_method_149_code (6 : Nat) (Option.none : Option Jvm.ClassFile.FieldType)).before args0 about1 = true := code_word (m := ⟨7, 2⟩) (meth := k7m2) (c := k7c2) (by decide +kernel) rfl rfl rfl (by decide +kernel)
set_option maxRecDepth 65536 in
theorem w_c3 : (Jvm.Cond.code ({ cls := "java/lang/Object", name := "<init>", desc := "()V" } : Jvm.MethodName) object_method_1_code (1 : Nat) (Option.none : Option Jvm.ClassFile.FieldType)).before args0 about1 = true := code_word (m := ⟨0, 0⟩) (meth := k0m0) (c := k0c0) (by decide +kernel) rfl rfl rfl (by decide +kernel)
set_option maxRecDepth 65536 in
theorem w_c4 : (Jvm.Cond.code ({ cls := "java/lang/StringUTF16", name := "compress", desc := "([CII)[B" } : Jvm.MethodName) jdk_52_method_16_code (6 : Nat) (Option.some (Jvm.ClassFile.FieldType.array Jvm.ClassFile.FieldType.byte))).before args0 about1 = true := code_word (m := ⟨8, 2⟩) (meth := k8m2) (c := k8c2) (by decide +kernel) rfl rfl rfl (by decide +kernel)
set_option maxRecDepth 65536 in
theorem w_c5 : (Jvm.Cond.code ({ cls := "java/lang/StringUTF16", name := "compress", desc := "([CI[BII)I" } : Jvm.MethodName) jdk_52_method_21_code (7 : Nat) (Option.some Jvm.ClassFile.FieldType.int)).before args0 about1 = true := code_word (m := ⟨8, 3⟩) (meth := k8m3) (c := k8c3) (by decide +kernel) rfl rfl rfl (by decide +kernel)
set_option maxRecDepth 65536 in
theorem w_c6 : (Jvm.Cond.code ({ cls := "java/lang/StringUTF16", name := "coderFromArrayLen", desc := "([BI)B" } : Jvm.MethodName) jdk_52_method_15_code (2 : Nat) (Option.some Jvm.ClassFile.FieldType.byte)).before args0 about1 = true := code_word (m := ⟨8, 1⟩) (meth := k8m1) (c := k8c1) (by decide +kernel) rfl rfl rfl (by decide +kernel)
set_option maxRecDepth 65536 in
theorem w_c7 : (Jvm.Cond.code ({ cls := "com/example/llave/llave/io/Answer", name := "created", desc := "(Ljava/lang/Object;Ljava/lang/String;)Lcom/example/llave/llave/io/Answer;" } : Jvm.MethodName) prog_9_method_3_code (2 : Nat) (Option.some (Jvm.ClassFile.FieldType.object "com/example/llave/llave/io/Answer"))).before args0 about1 = true := code_word (m := ⟨10, 1⟩) (meth := k10m1) (c := k10c1) (by decide +kernel) rfl rfl rfl (by decide +kernel)
set_option maxRecDepth 65536 in
theorem w_c8 : (Jvm.Cond.code ({ cls := "com/example/llave/llave/io/Answer", name := "<init>", desc := "(ILjava/lang/Object;Ljava/lang/String;)V" } : Jvm.MethodName) prog_9_method_1_code (4 : Nat) (Option.none : Option Jvm.ClassFile.FieldType)).before args0 about1 = true := code_word (m := ⟨10, 0⟩) (meth := k10m0) (c := k10c0) (by decide +kernel) rfl rfl rfl (by decide +kernel)
set_option maxRecDepth 65536 in
theorem w_c9 : (Jvm.Cond.code ({ cls := "java/lang/Record", name := "<init>", desc := "()V" } : Jvm.MethodName) jdk_30_method_1_code (1 : Nat) (Option.none : Option Jvm.ClassFile.FieldType)).before args0 about1 = true := code_word (m := ⟨9, 0⟩) (meth := k9m0) (c := k9c0) (by decide +kernel) rfl rfl rfl (by decide +kernel)
set_option maxRecDepth 65536 in
theorem w_c10 : (Jvm.Cond.code ({ cls := "com/example/llave/llave/io/Answer", name := "status", desc := "()I" } : Jvm.MethodName) prog_9_method_8_code (1 : Nat) (Option.some Jvm.ClassFile.FieldType.int)).before args0 about1 = true := code_word (m := ⟨10, 2⟩) (meth := k10m2) (c := k10c2) (by decide +kernel) rfl rfl rfl (by decide +kernel)
set_option maxRecDepth 65536 in
theorem w_c11 : (Jvm.Cond.code ({ cls := "com/example/llave/llave/io/Answer", name := "body", desc := "()Ljava/lang/Object;" } : Jvm.MethodName) prog_9_method_9_code (1 : Nat) (Option.some (Jvm.ClassFile.FieldType.object "java/lang/Object"))).before args0 about1 = true := code_word (m := ⟨10, 3⟩) (meth := k10m3) (c := k10c3) (by decide +kernel) rfl rfl rfl (by decide +kernel)
set_option maxRecDepth 65536 in
theorem w_c12 : (Jvm.Cond.code ({ cls := "com/example/llave/llave/io/Answer", name := "location", desc := "()Ljava/lang/String;" } : Jvm.MethodName) prog_9_method_10_code (1 : Nat) (Option.some (Jvm.ClassFile.FieldType.object "java/lang/String"))).before args0 about1 = true := code_word (m := ⟨10, 4⟩) (meth := k10m4) (c := k10c4) (by decide +kernel) rfl rfl rfl (by decide +kernel)
set_option maxRecDepth 65536 in
theorem w_c13 : (Jvm.Cond.code ({ cls := "java/lang/Integer", name := "valueOf", desc := "(I)Ljava/lang/Integer;" } : Jvm.MethodName) jdk_33_method_22_code (1 : Nat) (Option.some (Jvm.ClassFile.FieldType.object "java/lang/Integer"))).before args0 about1 = true := code_word (m := ⟨12, 0⟩) (meth := k12m0) (c := k12c0) (by decide +kernel) rfl rfl rfl (by decide +kernel)
set_option maxRecDepth 65536 in
theorem w_c14 : (Jvm.Cond.code ({ cls := "java/lang/Integer", name := "<init>", desc := "(I)V" } : Jvm.MethodName) jdk_33_method_23_code (2 : Nat) (Option.none : Option Jvm.ClassFile.FieldType)).before args0 about1 = true := code_word (m := ⟨12, 1⟩) (meth := k12m1) (c := k12c1) (by decide +kernel) rfl rfl rfl (by decide +kernel)
set_option maxRecDepth 65536 in
theorem w_c15 : (Jvm.Cond.code ({ cls := "java/lang/Number", name := "<init>", desc := "()V" } : Jvm.MethodName) jdk_18_method_1_code (1 : Nat) (Option.none : Option Jvm.ClassFile.FieldType)).before args0 about1 = true := code_word (m := ⟨11, 0⟩) (meth := k11m0) (c := k11c0) (by decide +kernel) rfl rfl rfl (by decide +kernel)
def codes1 : List Jvm.Cond := [Jvm.Cond.code x code maxLocals ret, Jvm.Cond.code ({ cls := "java/lang/String", name := "<init>", desc := "([C)V" } : Jvm.MethodName) jdk_42_method_3_code (2 : Nat) (Option.none : Option Jvm.ClassFile.FieldType), Jvm.Cond.code ({ cls := "java/lang/String", name := "<init>", desc := "([CIILjava/lang/Void;)V" } : Jvm.MethodName) jdk_42_method_149_code (6 : Nat) (Option.none : Option Jvm.ClassFile.FieldType), Jvm.Cond.code ({ cls := "java/lang/Object", name := "<init>", desc := "()V" } : Jvm.MethodName) object_method_1_code (1 : Nat) (Option.none : Option Jvm.ClassFile.FieldType), Jvm.Cond.code ({ cls := "java/lang/StringUTF16", name := "compress", desc := "([CII)[B" } : Jvm.MethodName) jdk_52_method_16_code (6 : Nat) (Option.some (Jvm.ClassFile.FieldType.array Jvm.ClassFile.FieldType.byte)), Jvm.Cond.code ({ cls := "java/lang/StringUTF16", name := "compress", desc := "([CI[BII)I" } : Jvm.MethodName) jdk_52_method_21_code (7 : Nat) (Option.some Jvm.ClassFile.FieldType.int), Jvm.Cond.code ({ cls := "java/lang/StringUTF16", name := "coderFromArrayLen", desc := "([BI)B" } : Jvm.MethodName) jdk_52_method_15_code (2 : Nat) (Option.some Jvm.ClassFile.FieldType.byte), Jvm.Cond.code ({ cls := "com/example/llave/llave/io/Answer", name := "created", desc := "(Ljava/lang/Object;Ljava/lang/String;)Lcom/example/llave/llave/io/Answer;" } : Jvm.MethodName) prog_9_method_3_code (2 : Nat) (Option.some (Jvm.ClassFile.FieldType.object "com/example/llave/llave/io/Answer")), Jvm.Cond.code ({ cls := "com/example/llave/llave/io/Answer", name := "<init>", desc := "(ILjava/lang/Object;Ljava/lang/String;)V" } : Jvm.MethodName) prog_9_method_1_code (4 : Nat) (Option.none : Option Jvm.ClassFile.FieldType), Jvm.Cond.code ({ cls := "java/lang/Record", name := "<init>", desc := "()V" } : Jvm.MethodName) jdk_30_method_1_code (1 : Nat) (Option.none : Option Jvm.ClassFile.FieldType), Jvm.Cond.code ({ cls := "com/example/llave/llave/io/Answer", name := "status", desc := "()I" } : Jvm.MethodName) prog_9_method_8_code (1 : Nat) (Option.some Jvm.ClassFile.FieldType.int), Jvm.Cond.code ({ cls := "com/example/llave/llave/io/Answer", name := "body", desc := "()Ljava/lang/Object;" } : Jvm.MethodName) prog_9_method_9_code (1 : Nat) (Option.some (Jvm.ClassFile.FieldType.object "java/lang/Object")), Jvm.Cond.code ({ cls := "com/example/llave/llave/io/Answer", name := "location", desc := "()Ljava/lang/String;" } : Jvm.MethodName) prog_9_method_10_code (1 : Nat) (Option.some (Jvm.ClassFile.FieldType.object "java/lang/String")), Jvm.Cond.code ({ cls := "java/lang/Integer", name := "valueOf", desc := "(I)Ljava/lang/Integer;" } : Jvm.MethodName) jdk_33_method_22_code (1 : Nat) (Option.some (Jvm.ClassFile.FieldType.object "java/lang/Integer")), Jvm.Cond.code ({ cls := "java/lang/Integer", name := "<init>", desc := "(I)V" } : Jvm.MethodName) jdk_33_method_23_code (2 : Nat) (Option.none : Option Jvm.ClassFile.FieldType), Jvm.Cond.code ({ cls := "java/lang/Number", name := "<init>", desc := "()V" } : Jvm.MethodName) jdk_18_method_1_code (1 : Nat) (Option.none : Option Jvm.ClassFile.FieldType)]
set_option maxRecDepth 65536 in
theorem codes_eq : words1.filter isCode = codes1 := rfl
theorem w_codes : ∀ c ∈ words1.filter isCode, c.before args0 about1 = true := by
  rw [codes_eq]
  intro c hc
  simp only [codes1, List.mem_cons, List.not_mem_nil, or_false] at hc
  rcases hc with rfl | rfl | rfl | rfl | rfl | rfl | rfl | rfl | rfl | rfl | rfl | rfl | rfl | rfl | rfl | rfl
  · exact w_c0
  · exact w_c1
  · exact w_c2
  · exact w_c3
  · exact w_c4
  · exact w_c5
  · exact w_c6
  · exact w_c7
  · exact w_c8
  · exact w_c9
  · exact w_c10
  · exact w_c11
  · exact w_c12
  · exact w_c13
  · exact w_c14
  · exact w_c15
set_option maxRecDepth 65536 in
theorem w_t1 : (words1.take 24).all (fun c => isCode c || c.before args0 about1) = true := by decide +kernel
set_option maxRecDepth 65536 in
theorem w_t2 : ((words1.drop 24).take 24).all (fun c => isCode c || c.before args0 about1) = true := by decide +kernel
set_option maxRecDepth 65536 in
theorem w_t3 : (((words1.drop 24).drop 24).take 24).all (fun c => isCode c || c.before args0 about1) = true := by decide +kernel
set_option maxRecDepth 65536 in
theorem w_t4 : (((words1.drop 24).drop 24).drop 24).all (fun c => isCode c || c.before args0 about1) = true := by decide +kernel
theorem w_tables : (allAtoms (Jvm.Cond.code x code maxLocals ret :: tables_1)).before args0 about1 = true := by
  rw [allAtoms_all]
  show words1.all (fun c => c.before args0 about1) = true
  refine all_split ?_ w_codes
  rw [← List.take_append_drop 24 words1, List.all_append, w_t1, ← List.take_append_drop 24 (words1.drop 24), List.all_append, w_t2, ← List.take_append_drop 24 ((words1.drop 24).drop 24), List.all_append, w_t3, w_t4]
  rfl
set_option maxRecDepth 65536 in
theorem w_rest : rest_1_c.before args0 about1 = true := by decide +kernel
set_option maxRecDepth 65536 in
theorem w_case : (Jvm.Cond.and given_1 narrow_1).before args0 about1 = true := by decide +kernel
theorem w_applies : (headSpec (Jvm.Cond.code x code maxLocals ret :: tables_1) room_1).applies x e0.platform about1 = true :=
  (Spec.applies_iff w_frames).mpr ⟨w_running, w_runnable, w_alone, w_named, w_hears, w_ripe, w_room, w_tables⟩
theorem atStart : AtStart classFile x code maxLocals ret World_1 tables_1 room_1 Calls_1 rest_1 Pre_1 launch0 p0 e0 about1 theMethod args0 below0 :=
  ⟨lists_1, trivial, launch0.admits_env _ _ _, launch0.least_env, fairChoices_fair.cas, fairChoices_fair.clock, w_frames, w_args, w_heap, w_applies, trivial, w_rest, w_case⟩
end start1
theorem witness_1 : WitnessClaimed_1 := ⟨start1.p0, start1.e0, start1.about1, start1.theMethod, start1.args0, start1.below0, start1.atStart⟩
end Jvm.Pilot.@@N@@
