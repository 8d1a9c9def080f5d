import JvmDerived
import JvmDerived.Pilot.@@N@@Statement
import JvmDerived.Pilot.@@N@@Code
set_option linter.unusedVariables false
set_option linter.unusedSimpArgs false

namespace Jvm.Pilot.@@N@@
open Jvm Jvm.ClassFile Sem Op Lib Jvm.Free Jvm.Stand Jvm.LawKit Jvm.RoadKit Bundle Jvm.Pilot.@@N@@.Jvm.D
abbrev oi (x : Int32) : Slot := .val (.int x)
abbrev oa (x : Addr) : Slot := .val (.ref x)
/-- from here the run comes to its end with what P says -/
def oGo (p : Program) (e : Env) (below : List Frame) (P : Outcome → State → Prop) (T : State) (g : JFrame) : Prop := ∃ s₂ o, Steps p.tables e below (T.setTop g) s₂ ∧ s₂.status = .running ∧ Ended s₂ below o ∧ P o s₂
theorem oby {p : Program} {e : Env} {below : List Frame} {P : Outcome → State → Prop} {T T' : State} {g g' : JFrame} (k : ∀ t, Steps p.tables e below (T'.setTop g') t → Steps p.tables e below (T.setTop g) t) (h : oGo p e below P T' g') : oGo p e below P T g := by
  obtain ⟨s₂, o, h1, h2⟩ := h
  exact ⟨s₂, o, k _ h1, h2⟩
theorem ostart {p : Program} {e : Env} {below : List Frame} {P : Outcome → State → Prop} {T : State} {g g' : JFrame} (q : g = g') (h : oGo p e below P T g') : ∃ s₂ o, Steps p.tables e below (T.setTop g) s₂ ∧ s₂.status = .running ∧ Ended s₂ below o ∧ P o s₂ := by subst q; exact h
theorem oout {p : Program} {e : Env} {below : List Frame} {P : Outcome → State → Prop} {T s₂ : State} {g : JFrame} {o : Outcome} (h1 : Steps p.tables e below (T.setTop g) s₂) (h2 : s₂.status = .running) (h3 : Ended s₂ below o) (h4 : P o s₂) : oGo p e below P T g := ⟨s₂, o, h1, h2, h3, h4⟩
theorem ob {p : Program} {e : Env} {below : List Frame} {P : Outcome → State → Prop} {T : State} {g : JFrame} (T' : State) (g' : JFrame) (k : ∀ t, Steps p.tables e below (T'.setTop g') t → Steps p.tables e below (T.setTop g) t) (h : oGo p e below P T' g') : oGo p e below P T g := oby k h
theorem osuff {p : Program} {e : Env} {below : List Frame} {P : Outcome → State → Prop} {T T' : State} {g g' : JFrame} (h1 : oGo p e below P T' g' → oGo p e below P T g) (h2 : oGo p e below P T' g') : oGo p e below P T g := h1 h2
theorem ow {L : List Jvm.Cond} {Z : State} {a0 : Array Value} (hw : ∀ d ∈ L, d.before a0 Z = true) (k : Nat) {d : Jvm.Cond} (h : L[k]? = some d) : d.before a0 Z = true := hw d (List.mem_of_getElem? h)
theorem on0 {Z : State} {n0 : Nat} {h : Heap} (O : Old Z n0 h) : n0 ≤ h.size := by have h1 := O.1; have h2 := O.2.1; omega
theorem oretA {p : Program} {l : Launch} {e : Env} {R : Room} {s : State} {m : MethodId} {args : Array Value} {below : List Frame} {meth : Method} {c : Code} {T : State} {locs : List Loc} {cells slots : Nat} (X : Stand p l e R s m args below meth c T locs cells slots) (hx : p.tables.exec = Jvm.exec) {pc : Nat} {Ls : Array Slot} {w : Value} {t : FieldType} {rest : List Value} (hret : meth.sig.returnType = some t) (ht : t.isReference = true) (hw : w.isRef = true)
    (hd : decode c.code pc = .ok (.areturn, 1)) {fs : List Frame} (hl : ∀ (f : JFrame) (acts : List Action), f.method = m → f.locked = none → f.entered = [] → (doReturn e (T.setTop f) acts (some w)).1 = T.setFrames fs) :
    Steps p.tables e below (T.setTop (mkF m pc Ls (w :: rest))) (T.setFrames fs) :=
  retOut X hx hret (by cases w <;> first | (simp [Value.isRef] at hw; done) | (cases t <;> rfl)) (Or.inr (Or.inr (Or.inr (Or.inr ⟨rfl, ht, hw⟩)))) hd hl

theorem own_sta {s : State} {args : Array Value} {C n d K : String} (h : (Cond.exactly (.static C n d) K).value args s none s [] = some true) (hi : (Cond.initializedFor C n d).before args s = true ∨ ((Cond.initialized C).before args s = true ∧ (Cond.laysStatic C n d).before args s = true)) :
    ∃ a, (Term.static C n d).eval args s none [] s = some (.ref a) ∧ Sta s s.heap C n d (.ref a) ∧ Exa s s.heap a K := by
  obtain ⟨a, ev⟩ := exa_v h
  exact ⟨a, ev, Sta.start ev hi, Exa.start ev h⟩
theorem own_fldI {s : State} {args : Array Value} {t : Term} {a : Addr} {C n d : String} {k : Int32} (ev : t.eval args s none [] s = some (.ref a)) (h : (Cond.eq (.field t C n d) (.int k)).value args s none s [] = some true) : Fld s s.heap a C n d (.int k) := by
  obtain ⟨x, y, ex, ey, k1, k2⟩ := cmp_v (Or.inl h)
  have e2 : y = .int k := (Option.some.inj ((Term.int_eval k).symm.trans ey)).symm
  subst e2
  obtain ⟨z, rfl⟩ := k2
  have e3 : z = k := gotT (Cond.eq_ints ex ey) h
  subst e3
  exact Fld.start ((fld_at ev).symm.trans ex)
theorem own_fldL {s : State} {args : Array Value} {t : Term} {a : Addr} {C n d : String} {k : Int64} (ev : t.eval args s none [] s = some (.ref a)) (h : (Cond.eq (.field t C n d) (.long k)).value args s none s [] = some true) : Fld s s.heap a C n d (.long k) := by
  obtain ⟨x, y, ex, ey, k1, k2⟩ := cmp_v (Or.inl h)
  have e2 : y = .long k := by simpa [Term.eval] using ey.symm
  subst e2
  obtain ⟨z, rfl⟩ := k2
  have e3 : z = k := gotT (eq_L ex ey) h
  subst e3
  exact Fld.start ((fld_at ev).symm.trans ex)
theorem own_fldN {s : State} {args : Array Value} {t : Term} {a : Addr} {C n d : String} (ev : t.eval args s none [] s = some (.ref a)) (h : (Cond.eq (.field t C n d) .null).value args s none s [] = some true) : Fld s s.heap a C n d .null :=
  Fld.start ((fld_at ev).symm.trans (null_v h))
theorem pn_0 : plainName "java/lang/Number" = true := by first | (simp [plainName, overriddenIn]; done) | decide +kernel
theorem pn_1 : plainName "java/lang/Integer" = true := by first | (simp [plainName, overriddenIn]; done) | decide +kernel
theorem pn_2 : plainName "java/lang/Record" = true := by first | (simp [plainName, overriddenIn]; done) | decide +kernel
theorem pn_3 : plainName "com/example/llave/llave/service/Change" = true := by first | (simp [plainName, overriddenIn]; done) | decide +kernel
theorem pn_4 : plainName "com/example/llave/llave/service/ChangeApplyToPinLaw" = true := by first | (simp [plainName, overriddenIn]; done) | decide +kernel
theorem own_len {s : State} {args : Array Value} {t : Term} {a : Addr} {c : Cell} {z : Int32} (A : s.arrayAt? a = some c) (ev : t.eval args s none [] s = some (.ref a)) (h : (Cond.eq (.length t) (.int z)).value args s none s [] = some true) : c.slots.size < 2 ^ 31 ∧ c.slots.size.toInt32 = z := by
  have e := eqv_i (Term.int_eval z) h
  have hl : c.slots.size < 2 ^ 31 := by
    by_cases q : c.slots.size < 2 ^ 31
    · exact q
    · exfalso
      have q' : ¬ c.slots.size < 2147483648 := q
      simp [Term.eval, ev, A, q'] at e
  rw [len_f ev A hl] at e
  exact ⟨hl, by simpa using e⟩
theorem own_eqR {s : State} {args : Array Value} {X Y : Term} {w : Addr} (hY : Y.eval args s none [] s = some (.ref w)) (h : (Cond.eq X Y).value args s none s [] = some true) : X.eval args s none [] s = some (.ref w) := by
  obtain ⟨x, y, e1, e2, k1, k2⟩ := cmp_v (Or.inl h)
  cases hY.symm.trans e2
  have hx : x.isRef = true := k2.2
  rw [e1]
  exact congrArg some (gotT (eq_R e1 hY hx rfl) h)
theorem own_idx {s : State} {args : Array Value} {j : Int32} (nj : ¬ j < 0) : (Jvm.Term.sub (Jvm.Term.index 0) (Jvm.Term.int 128)).eval args s none [j.toNatClampNeg] s = some (.int (j - 128)) := by
  have h := idx_at (args := args) (first := s) (o := none) (s := s) nj
  simp [Term.eval] at h ⊢
  simp [h]

def St0 (Z : State) (w_cache : Addr) (c_cache : Cell) : Prop := Sta Z Z.heap "java/lang/Integer$IntegerCache" "high" "I" (.int (127 : Int32)) ∧ Sta Z Z.heap "java/lang/Integer$IntegerCache" "cache" "[Ljava/lang/Integer;" (.ref w_cache) ∧ Bxs Z w_cache c_cache "java/lang/Integer" "I" (256 : Int32) (fun j => .int (j - 128))

theorem d7_0 : decode jdk_18_method_1_code 0 = .ok (.aload_n 0, 1) := by decide +kernel
theorem d7_1 : decode jdk_18_method_1_code 1 = .ok (.invokespecial 1, 3) := by decide +kernel
theorem d7_4 : decode jdk_18_method_1_code 4 = .ok (.return_, 1) := by decide +kernel
def Q_rm_num (Z : State) (w_cache : Addr) (c_cache : Cell) (a : Addr) (h0 : Heap) (n0 : Nat) (v : Option Value) (h : Heap) (L : List Loc) : Prop := v = none ∧ Fr n0 L ∧ h = h0
set_option maxRecDepth 65536 in
set_option maxHeartbeats 40000000 in
theorem rm_num (l : Launch) (Z : State) (a0 : Array Value) (hw : ∀ d ∈ tables_1, d.before a0 Z = true) (ws : List Jvm.Cond) (w_cache : Addr) (c_cache : Cell) (a : Addr) (h0 : Heap) (n0 : Nat) (O0 : Old Z n0 h0) (hS : St0 Z w_cache c_cache ) :
    MetFree l (⟨"java/lang/Number", "<init>", "()V"⟩ : MethodName) (head1 (Jvm.Cond.code (⟨"java/lang/Number", "<init>", "()V"⟩ : MethodName) jdk_18_method_1_code 1 none :: ws) ({ frames := 1, cells := 0, slots := 0, locals := 12 } : Room)) (fun aG UG => aG = #[(.ref a)] ∧ Z.Warmed39 UG.vm ∧ UG.heap = h0) (fun _ _ _ _ _ => True) (fun _ UG oG UG' => ∃ vG LG, oG = .returned vG ∧ Q_rm_num Z w_cache c_cache a h0 n0 vG UG'.heap LG ∧ FrameEnd UG oG UG' LG ({ frames := 1, cells := 0, slots := 0, locals := 12 } : Room).cells ({ frames := 1, cells := 0, slots := 0, locals := 12 } : Room).slots) := by
  refine MetFree.of_bodySF (plainFor_of_name pn_0) hisR ?_
  intro pG eG sG mG argsG belowG methG cG s₁ Bd hml0 hP hK
  obtain ⟨rfl, hZ, hh⟩ := hP
  have hx := Bd.exec
  have hby := Bd.bytes
  have hml : cG.maxLocals = 1 := hml0
  have hown : sG.vm.findClass "java/lang/Number" = some mG.cls := findClass_of_methodNamed Bd.named
  have hnm := (name_of_methodNamed Bd.named Bd.method).1
  have X0 : Stand pG l eG ({ frames := 1, cells := 0, slots := 0, locals := 12 } : Room) sG mG #[(.ref a)] belowG methG cG s₁ [] 0 0 := Stand.of_body Bd
  have e0 : s₁.heap = h0 := by rw [← hh, Bd.state]; rfl
  have N0 := Fr.nil n0
  have K0 := Keep.refl h0 []
  obtain ⟨S_high, S_cache, B_cache⟩ := (id hS : St0 Z w_cache c_cache )
  refine ostart (g' := (mkF mG 0 #[.val (.ref a)] [])) (by first | (simp [entryFrame, mkF, argsToLocals, Value.category]; done) | rfl) ?_
  refine ob s₁ (mkF mG 1 #[.val (.ref a)] [(.ref a)]) (fun _ kk => XS.aloadN X0.here hx rfl (hb hby d7_0) rfl rfl kk) ?_
  obtain ⟨T1, X1, e1, st1⟩ := initO X0 hx hZ hown (ow hw 43 rfl) (ow hw 19 rfl) (ow hw 20 rfl) e0 (g := (mkF mG 1 #[.val (.ref a)] [(.ref a)])) rfl (by rw [hml]; rfl) rfl (hb hby d7_1) (by decide) (W := 0) (by show 2 * 0 + _ ≤ _; exact Nat.le_of_eq rfl) (by decide)
  refine ob T1 (mkF mG 4 #[.val (.ref a)] []) (fun _ kk => st1 _ kk) ?_
  obtain ⟨fs, hr, hrun, hended, hW, hsame⟩ := X1.leave (v := none) (fun _ => rfl)
  refine oout (X1.returnOut hx Bd.returns (hb hby d7_4) hr) hrun hended ⟨_, _, rfl, ?_, ⟨_, rfl⟩, hW, hsame.mono (by decide) (by decide)⟩
  show Q_rm_num Z w_cache c_cache a h0 n0 _ T1.heap _
  rw [e1]
  exact ⟨rfl, N0, rfl⟩

theorem d6_0 : decode jdk_33_method_23_code 0 = .ok (.aload_n 0, 1) := by decide +kernel
theorem d6_1 : decode jdk_33_method_23_code 1 = .ok (.invokespecial 202, 3) := by decide +kernel
theorem d6_4 : decode jdk_33_method_23_code 4 = .ok (.aload_n 0, 1) := by decide +kernel
theorem d6_5 : decode jdk_33_method_23_code 5 = .ok (.iload_n 1, 1) := by decide +kernel
theorem d6_6 : decode jdk_33_method_23_code 6 = .ok (.putfield 205, 3) := by decide +kernel
theorem d6_9 : decode jdk_33_method_23_code 9 = .ok (.return_, 1) := by decide +kernel
theorem pd_0 : parseMethodDescriptor "()V" = some ⟨[], none⟩ := by decide +kernel
def Q_rm_int (Z : State) (w_cache : Addr) (c_cache : Cell) (a : Addr) (i : Int32) (u0 : Value) (h0 : Heap) (n0 : Nat) (v : Option Value) (h : Heap) (L : List Loc) : Prop := v = none ∧ Fr n0 L ∧ Keep h0 h [a] ∧ Old Z n0 h ∧ Fld Z h a "java/lang/Integer" "value" "I" (.int i)
set_option maxRecDepth 65536 in
set_option maxHeartbeats 40000000 in
theorem rm_int (l : Launch) (Z : State) (a0 : Array Value) (hw : ∀ d ∈ tables_1, d.before a0 Z = true) (ws : List Jvm.Cond) (w_cache : Addr) (c_cache : Cell) (a : Addr) (i : Int32) (u0 : Value) (h0 : Heap) (n0 : Nat) (O0 : Old Z n0 h0) (hS : St0 Z w_cache c_cache ) (E_a : Exa Z h0 a "java/lang/Integer") (F_0 : Fld Z h0 a "java/lang/Integer" "value" "I" u0) (n_a : n0 ≤ a) :
    MetFree l (⟨"java/lang/Integer", "<init>", "(I)V"⟩ : MethodName) (head1 (Jvm.Cond.code (⟨"java/lang/Integer", "<init>", "(I)V"⟩ : MethodName) jdk_33_method_23_code 2 none :: ws) ({ frames := 2, cells := 0, slots := 0, locals := 24 } : Room)) (fun aG UG => aG = #[(.ref a), (.int i)] ∧ Z.Warmed39 UG.vm ∧ UG.heap = h0) (fun _ _ _ _ _ => True) (fun _ UG oG UG' => ∃ vG LG, oG = .returned vG ∧ Q_rm_int Z w_cache c_cache a i u0 h0 n0 vG UG'.heap LG ∧ FrameEnd UG oG UG' LG ({ frames := 2, cells := 0, slots := 0, locals := 24 } : Room).cells ({ frames := 2, cells := 0, slots := 0, locals := 24 } : Room).slots) := by
  refine MetFree.of_bodySF (plainFor_of_name pn_1) hisR ?_
  intro pG eG sG mG argsG belowG methG cG s₁ Bd hml0 hP hK
  obtain ⟨rfl, hZ, hh⟩ := hP
  have hx := Bd.exec
  have hby := Bd.bytes
  have hml : cG.maxLocals = 2 := hml0
  have hown : sG.vm.findClass "java/lang/Integer" = some mG.cls := findClass_of_methodNamed Bd.named
  have hnm := (name_of_methodNamed Bd.named Bd.method).1
  have X0 : Stand pG l eG ({ frames := 2, cells := 0, slots := 0, locals := 24 } : Room) sG mG #[(.ref a), (.int i)] belowG methG cG s₁ [] 0 0 := Stand.of_body Bd
  have e0 : s₁.heap = h0 := by rw [← hh, Bd.state]; rfl
  have N0 := Fr.nil n0
  have K0 := Keep.refl h0 [a]
  obtain ⟨S_high, S_cache, B_cache⟩ := (id hS : St0 Z w_cache c_cache )
  refine ostart (g' := (mkF mG 0 #[.val (.ref a), .val (.int i)] [])) (by first | (simp [entryFrame, mkF, argsToLocals, Value.category]; done) | rfl) ?_
  refine ob s₁ (mkF mG 1 #[.val (.ref a), .val (.int i)] [(.ref a)]) (fun _ kk => XS.aloadN X0.here hx rfl (hb hby d6_0) rfl rfl kk) ?_
  obtain ⟨_, _, ⟨T1, L1, k1, n1⟩, -, X1, ⟨Lc1, hQ1, l1, y1, z1⟩, st1⟩ := X0.specialBack hx (y := (⟨"java/lang/Number", "<init>", "()V"⟩ : MethodName)) rfl hown (mvT hZ (ow hw 37 rfl)) (mvT hZ (ow hw 38 rfl)) (mvT hZ (ow hw 42 rfl)) (by decide) (backOf (W := 0) (rm_num l Z a0 hw [] w_cache c_cache a h0 n0 O0 hS ) hZ (ow hw 42 rfl) (ow hw 41 rfl) (by decide) (by decide)) (g := (mkF mG 1 #[.val (.ref a), .val (.int i)] [(.ref a)])) rfl (by rw [hml]; rfl) (Steps.refl _) (a := a) (argsL := []) (rest := []) (lenOf pd_0 rfl) rfl (by show 2 * 0 + _ ≤ _; exact Nat.le_of_eq rfl) (hb hby d6_1) (fun _ _ => ⟨rfl, e0, (by decide : 0 + 0 ≤ _), (by decide : 0 + 0 ≤ _)⟩)
  dsimp only [Pt.U, Pt.locs, Pt.cells, Pt.slots] at X1 l1 y1 z1 st1 hQ1
  subst l1 y1 z1
  obtain ⟨rfl, N1q, e1⟩ := hQ1
  have N1 := Fr.app N0 N1q
  refine ob T1 (mkF mG 4 #[.val (.ref a), .val (.int i)] []) (fun _ kk => st1.trans kk) ?_
  refine ob T1 (mkF mG 5 #[.val (.ref a), .val (.int i)] [(.ref a)]) (fun _ kk => XS.aloadN X1.here hx rfl (hb hby d6_4) rfl rfl kk) ?_
  refine ob T1 (mkF mG 6 #[.val (.ref a), .val (.int i)] [(.int i), (.ref a)]) (fun _ kk => XS.iloadN X1.here hx rfl (hb hby d6_5) rfl kk) ?_
  obtain ⟨T2, h2, X2, e2, W2, st2⟩ := putF X1 hx hZ hown (host := "") (Or.inl (ow hw 44 rfl)) Via.refl e1 F_0 E_a (Or.inr ⟨(ow hw 45 rfl), rfl, hnm⟩) (ow hw 33 rfl) (ty := .int) (by decide) rfl rfl (g := (mkF mG 6 #[.val (.ref a), .val (.int i)] [(.int i), (.ref a)])) rfl rfl (hb hby d6_6)
  have F2 := F_0.same W2
  have O2 := O0.wr W2 n_a
  have K2 := K0.wr W2 (Or.inl (List.mem_of_getElem? (i := 0) rfl))
  have N2 := Fr.snoc X2 N1 n_a
  refine ob T2 (mkF mG 9 #[.val (.ref a), .val (.int i)] []) (fun _ kk => st2 _ kk) ?_
  obtain ⟨fs, hr, hrun, hended, hW, hsame⟩ := X2.leave (v := none) (fun _ => rfl)
  refine oout (X2.returnOut hx Bd.returns (hb hby d6_9) hr) hrun hended ⟨_, _, rfl, ?_, ⟨_, rfl⟩, hW, hsame.mono (by decide) (by decide)⟩
  show Q_rm_int Z w_cache c_cache a i u0 h0 n0 _ T2.heap _
  rw [e2]
  exact ⟨rfl, N2, K2, O2, F2⟩

theorem own_box {i : Int32} (h1 : ¬ (i < (-128 : Int32))) (h2 : ¬ ((127 : Int32) < i)) : ¬ (i + (128 : Int32)) < 0 ∧ (i + (128 : Int32)) < (256 : Int32) := by
  have a := c_iadd i 128
  have r := rng32 (i + 128)
  rw [Int32.lt_iff_toInt_lt] at *
  have e1 : (-128 : Int32).toInt = -128 := by decide
  have e2 : (127 : Int32).toInt = 127 := by decide
  have e3 : (128 : Int32).toInt = 128 := by decide
  have e4 : (0 : Int32).toInt = 0 := by decide
  have e5 : (256 : Int32).toInt = 256 := by decide
  rw [Int32.lt_iff_toInt_lt]
  omega

theorem d1_0 : decode jdk_33_method_22_code 0 = .ok (.iload_n 0, 1) := by decide +kernel
theorem d1_1 : decode jdk_33_method_22_code 1 = .ok (.bipush (-128), 2) := by decide +kernel
theorem d1_3 : decode jdk_33_method_22_code 3 = .ok (.if_icmp .lt 20, 3) := by decide +kernel
theorem d1_6 : decode jdk_33_method_22_code 6 = .ok (.iload_n 0, 1) := by decide +kernel
theorem d1_7 : decode jdk_33_method_22_code 7 = .ok (.getstatic 191, 3) := by decide +kernel
theorem d1_10 : decode jdk_33_method_22_code 10 = .ok (.if_icmp .gt 13, 3) := by decide +kernel
theorem d1_13 : decode jdk_33_method_22_code 13 = .ok (.getstatic 195, 3) := by decide +kernel
theorem d1_16 : decode jdk_33_method_22_code 16 = .ok (.iload_n 0, 1) := by decide +kernel
theorem d1_17 : decode jdk_33_method_22_code 17 = .ok (.sipush 128, 3) := by decide +kernel
theorem d1_20 : decode jdk_33_method_22_code 20 = .ok (.iadd, 1) := by decide +kernel
theorem d1_21 : decode jdk_33_method_22_code 21 = .ok (.aaload, 1) := by decide +kernel
theorem d1_22 : decode jdk_33_method_22_code 22 = .ok (.areturn, 1) := by decide +kernel
theorem d1_23 : decode jdk_33_method_22_code 23 = .ok (.new 1, 3) := by decide +kernel
theorem d1_26 : decode jdk_33_method_22_code 26 = .ok (.dup, 1) := by decide +kernel
theorem d1_27 : decode jdk_33_method_22_code 27 = .ok (.iload_n 0, 1) := by decide +kernel
theorem d1_28 : decode jdk_33_method_22_code 28 = .ok (.invokespecial 199, 3) := by decide +kernel
theorem d1_31 : decode jdk_33_method_22_code 31 = .ok (.areturn, 1) := by decide +kernel
theorem pd_1 : parseMethodDescriptor "(I)V" = some ⟨[.int], none⟩ := by decide +kernel
def Q_rm_valueOf (Z : State) (w_cache : Addr) (c_cache : Cell) (i : Int32) (h0 : Heap) (n0 : Nat) (v : Option Value) (h : Heap) (L : List Loc) : Prop := ∃ (r0 : Addr), v = some (.ref r0) ∧ Fr n0 L ∧ Keep h0 h [] ∧ Old Z n0 h ∧ Exa Z h r0 "java/lang/Integer"
set_option maxRecDepth 65536 in
set_option maxHeartbeats 40000000 in
theorem rm_valueOf (l : Launch) (Z : State) (a0 : Array Value) (hw : ∀ d ∈ tables_1, d.before a0 Z = true) (ws : List Jvm.Cond) (w_cache : Addr) (c_cache : Cell) (i : Int32) (h0 : Heap) (n0 : Nat) (O0 : Old Z n0 h0) (hS : St0 Z w_cache c_cache ) :
    MetFree l (⟨"java/lang/Integer", "valueOf", "(I)Ljava/lang/Integer;"⟩ : MethodName) (head1 (Jvm.Cond.code (⟨"java/lang/Integer", "valueOf", "(I)Ljava/lang/Integer;"⟩ : MethodName) jdk_33_method_22_code 1 (some (.object "java/lang/Integer")) :: ws) ({ frames := 3, cells := 1, slots := 1, locals := 38 } : Room)) (fun aG UG => aG = #[(.int i)] ∧ Z.Warmed39 UG.vm ∧ UG.heap = h0) (fun _ _ _ _ _ => True) (fun _ UG oG UG' => ∃ vG LG, oG = .returned vG ∧ Q_rm_valueOf Z w_cache c_cache i h0 n0 vG UG'.heap LG ∧ FrameEnd UG oG UG' LG ({ frames := 3, cells := 1, slots := 1, locals := 38 } : Room).cells ({ frames := 3, cells := 1, slots := 1, locals := 38 } : Room).slots) := by
  refine MetFree.of_bodySF (plainFor_of_name pn_1) hisR ?_
  intro pG eG sG mG argsG belowG methG cG s₁ Bd hml0 hP hK
  obtain ⟨rfl, hZ, hh⟩ := hP
  have hx := Bd.exec
  have hby := Bd.bytes
  have hml : cG.maxLocals = 1 := hml0
  have hown : sG.vm.findClass "java/lang/Integer" = some mG.cls := findClass_of_methodNamed Bd.named
  have hnm := (name_of_methodNamed Bd.named Bd.method).1
  have X0 : Stand pG l eG ({ frames := 3, cells := 1, slots := 1, locals := 38 } : Room) sG mG #[(.int i)] belowG methG cG s₁ [] 0 0 := Stand.of_body Bd
  have e0 : s₁.heap = h0 := by rw [← hh, Bd.state]; rfl
  have N0 := Fr.nil n0
  have K0 := Keep.refl h0 []
  obtain ⟨S_high, S_cache, B_cache⟩ := (id hS : St0 Z w_cache c_cache )
  refine ostart (g' := (mkF mG 0 #[.val (.int i)] [])) (by first | (simp [entryFrame, mkF, argsToLocals, Value.category]; done) | rfl) ?_
  refine ob s₁ (mkF mG 1 #[.val (.int i)] [(.int i)]) (fun _ kk => XS.iloadN X0.here hx rfl (hb hby d1_0) rfl kk) ?_
  refine ob s₁ (mkF mG 3 #[.val (.int i)] [(.int (-128 : Int32)), (.int i)]) (fun _ kk => XS.bipush X0.here hx rfl (hb hby d1_1) kk) ?_
  by_cases hc1 : i < (-128 : Int32)
  · skip
    refine ob s₁ (mkF mG 23 #[.val (.int i)] []) (fun _ kk => XS.icmpYes X0.here hx rfl (pc0 := 3) (pc' := 23) rfl (hb hby d1_3) rfl (tlt hc1).1 (by decide) (by decide) kk) ?_
    obtain ⟨T2, h2, X2, e2, E2, A2, D2, _x2, st2⟩ := newO X0 hx hZ hown (ow hw 32 rfl) (ow hw 33 rfl) (ow hw 2 rfl) e0 (g := (mkF mG 23 #[.val (.int i)] [])) rfl (hb hby d1_23) (by decide) (by decide)
    obtain ⟨b2, g2⟩ : ∃ z, z = h0.size := ⟨_, rfl⟩
    rw [← g2] at A2 D2 st2
    have n_b2 : n0 ≤ b2 := Nat.le_trans (on0 O0) (Nat.le_of_eq g2.symm)
    have sz_b2 : h0.size ≤ b2 := Nat.le_trans K0.1 (Nat.le_of_eq g2.symm)
    have O2 := O0.ext E2
    have K2 := K0.ext E2
    have F2_45 : Fld Z h2 b2 "java/lang/Integer" "value" "I" (.int (0 : Int32)) := D2 (Or.inr (ow hw 45 rfl)) (ty := .int) (by decide)
    refine ob T2 (mkF mG 26 #[.val (.int i)] [(.ref b2)]) (fun _ kk => st2 _ kk) ?_
    refine ob T2 (mkF mG 27 #[.val (.int i)] [(.ref b2), (.ref b2)]) (fun _ kk => XS.dup X2.here hx rfl (hb hby d1_26) rfl rfl kk) ?_
    refine ob T2 (mkF mG 28 #[.val (.int i)] [(.int i), (.ref b2), (.ref b2)]) (fun _ kk => XS.iloadN X2.here hx rfl (hb hby d1_27) rfl kk) ?_
    obtain ⟨_, _, ⟨T3, L3, k3, n3⟩, -, X3, ⟨Lc3, hQ3, l3, y3, z3⟩, st3⟩ := X2.specialBack hx (y := (⟨"java/lang/Integer", "<init>", "(I)V"⟩ : MethodName)) rfl hown (mvT hZ (ow hw 34 rfl)) (mvT hZ (ow hw 35 rfl)) (mvT hZ (ow hw 36 rfl)) (by decide) (backOf (W := 1) (rm_int l Z a0 hw [] w_cache c_cache b2 i (.int (0 : Int32)) h2 n0 O2 hS A2 F2_45 n_b2) hZ (ow hw 36 rfl) (ow hw 2 rfl) (by decide) (by decide)) (g := (mkF mG 28 #[.val (.int i)] [(.int i), (.ref b2), (.ref b2)])) rfl (by rw [hml]; rfl) (Steps.refl _) (a := b2) (argsL := [(.int i)]) (rest := [(.ref b2)]) (lenOf pd_1 rfl) rfl (by show 2 * 0 + _ ≤ _; exact Nat.le_of_eq rfl) (hb hby d1_28) (fun _ _ => ⟨rfl, e2, (by decide : 1 + 0 ≤ _), (by decide : 1 + 0 ≤ _)⟩)
    dsimp only [Pt.U, Pt.locs, Pt.cells, Pt.slots] at X3 l3 y3 z3 st3 hQ3
    subst l3 y3 z3
    obtain ⟨h3, e3⟩ : ∃ h, T3.heap = h := ⟨_, rfl⟩
    rw [e3] at hQ3
    obtain ⟨rfl, N3q, K3q, O3, F3_0⟩ := hQ3
    have N3 := Fr.app N0 N3q
    have K3 := K2.trans K3q (allS (Or.inr sz_b2) all0)
    refine ob T3 (mkF mG 31 #[.val (.int i)] [(.ref b2)]) (fun _ kk => st3.trans kk) ?_
    obtain ⟨fs, hr, hrun, hended, hW, hsame⟩ := X3.leave (v := some (.ref b2)) (fun h => by rw [Bd.returns] at h; cases h)
    refine oout (oretA X3 hx Bd.returns rfl rfl (hb hby d1_31) hr) hrun hended ⟨_, _, rfl, ?_, ⟨_, rfl⟩, hW, hsame.mono (by decide) (by decide)⟩
    show Q_rm_valueOf Z w_cache c_cache i h0 n0 _ T3.heap _
    rw [e3]
    exact ⟨b2, rfl, N3, K3, O3, (A2.keep K3q)⟩
  · skip
    refine ob s₁ (mkF mG 6 #[.val (.int i)] []) (fun _ kk => XS.icmpNo X0.here hx rfl (hb hby d1_3) rfl (flt hc1).1 kk) ?_
    refine ob s₁ (mkF mG 7 #[.val (.int i)] [(.int i)]) (fun _ kk => XS.iloadN X0.here hx rfl (hb hby d1_6) rfl kk) ?_
    obtain ⟨T4, X4, e4, st4⟩ := getS2 X0 hx hZ hown (host := "") (Or.inl (ow hw 4 rfl)) Via.refl e0 (S_high.ext O0.2) (g := (mkF mG 7 #[.val (.int i)] [(.int i)])) rfl (hb hby d1_7)
    refine ob T4 (mkF mG 10 #[.val (.int i)] [(.int (127 : Int32)), (.int i)]) (fun _ kk => st4 _ kk) ?_
    by_cases hc5 : (127 : Int32) < i
    · skip
      refine ob T4 (mkF mG 23 #[.val (.int i)] []) (fun _ kk => XS.icmpYes X4.here hx rfl (pc0 := 10) (pc' := 23) rfl (hb hby d1_10) rfl (tlt hc5).2.2.1 (by decide) (by decide) kk) ?_
      obtain ⟨T6, h6, X6, e6, E6, A6, D6, _x6, st6⟩ := newO X4 hx hZ hown (ow hw 32 rfl) (ow hw 33 rfl) (ow hw 2 rfl) e4 (g := (mkF mG 23 #[.val (.int i)] [])) rfl (hb hby d1_23) (by decide) (by decide)
      obtain ⟨b6, g6⟩ : ∃ z, z = h0.size := ⟨_, rfl⟩
      rw [← g6] at A6 D6 st6
      have n_b6 : n0 ≤ b6 := Nat.le_trans (on0 O0) (Nat.le_of_eq g6.symm)
      have sz_b6 : h0.size ≤ b6 := Nat.le_trans K0.1 (Nat.le_of_eq g6.symm)
      have O6 := O0.ext E6
      have K6 := K0.ext E6
      have F6_45 : Fld Z h6 b6 "java/lang/Integer" "value" "I" (.int (0 : Int32)) := D6 (Or.inr (ow hw 45 rfl)) (ty := .int) (by decide)
      refine ob T6 (mkF mG 26 #[.val (.int i)] [(.ref b6)]) (fun _ kk => st6 _ kk) ?_
      refine ob T6 (mkF mG 27 #[.val (.int i)] [(.ref b6), (.ref b6)]) (fun _ kk => XS.dup X6.here hx rfl (hb hby d1_26) rfl rfl kk) ?_
      refine ob T6 (mkF mG 28 #[.val (.int i)] [(.int i), (.ref b6), (.ref b6)]) (fun _ kk => XS.iloadN X6.here hx rfl (hb hby d1_27) rfl kk) ?_
      obtain ⟨_, _, ⟨T7, L7, k7, n7⟩, -, X7, ⟨Lc7, hQ7, l7, y7, z7⟩, st7⟩ := X6.specialBack hx (y := (⟨"java/lang/Integer", "<init>", "(I)V"⟩ : MethodName)) rfl hown (mvT hZ (ow hw 34 rfl)) (mvT hZ (ow hw 35 rfl)) (mvT hZ (ow hw 36 rfl)) (by decide) (backOf (W := 1) (rm_int l Z a0 hw [] w_cache c_cache b6 i (.int (0 : Int32)) h6 n0 O6 hS A6 F6_45 n_b6) hZ (ow hw 36 rfl) (ow hw 2 rfl) (by decide) (by decide)) (g := (mkF mG 28 #[.val (.int i)] [(.int i), (.ref b6), (.ref b6)])) rfl (by rw [hml]; rfl) (Steps.refl _) (a := b6) (argsL := [(.int i)]) (rest := [(.ref b6)]) (lenOf pd_1 rfl) rfl (by show 2 * 0 + _ ≤ _; exact Nat.le_of_eq rfl) (hb hby d1_28) (fun _ _ => ⟨rfl, e6, (by decide : 1 + 0 ≤ _), (by decide : 1 + 0 ≤ _)⟩)
      dsimp only [Pt.U, Pt.locs, Pt.cells, Pt.slots] at X7 l7 y7 z7 st7 hQ7
      subst l7 y7 z7
      obtain ⟨h7, e7⟩ : ∃ h, T7.heap = h := ⟨_, rfl⟩
      rw [e7] at hQ7
      obtain ⟨rfl, N7q, K7q, O7, F7_0⟩ := hQ7
      have N7 := Fr.app N0 N7q
      have K7 := K6.trans K7q (allS (Or.inr sz_b6) all0)
      refine ob T7 (mkF mG 31 #[.val (.int i)] [(.ref b6)]) (fun _ kk => st7.trans kk) ?_
      obtain ⟨fs, hr, hrun, hended, hW, hsame⟩ := X7.leave (v := some (.ref b6)) (fun h => by rw [Bd.returns] at h; cases h)
      refine oout (oretA X7 hx Bd.returns rfl rfl (hb hby d1_31) hr) hrun hended ⟨_, _, rfl, ?_, ⟨_, rfl⟩, hW, hsame.mono (by decide) (by decide)⟩
      show Q_rm_valueOf Z w_cache c_cache i h0 n0 _ T7.heap _
      rw [e7]
      exact ⟨b6, rfl, N7, K7, O7, (A6.keep K7q)⟩
    · skip
      refine ob T4 (mkF mG 13 #[.val (.int i)] []) (fun _ kk => XS.icmpNo X4.here hx rfl (hb hby d1_10) rfl (flt hc5).2.2.1 kk) ?_
      obtain ⟨T8, X8, e8, st8⟩ := getS2 X4 hx hZ hown (host := "") (Or.inl (ow hw 6 rfl)) Via.refl e4 (S_cache.ext O0.2) (g := (mkF mG 13 #[.val (.int i)] [])) rfl (hb hby d1_13)
      refine ob T8 (mkF mG 16 #[.val (.int i)] [(.ref w_cache)]) (fun _ kk => st8 _ kk) ?_
      refine ob T8 (mkF mG 17 #[.val (.int i)] [(.int i), (.ref w_cache)]) (fun _ kk => XS.iloadN X8.here hx rfl (hb hby d1_16) rfl kk) ?_
      refine ob T8 (mkF mG 20 #[.val (.int i)] [(.int (128 : Int32)), (.int i), (.ref w_cache)]) (fun _ kk => XS.sipush X8.here hx rfl (hb hby d1_17) kk) ?_
      refine ob T8 (mkF mG 21 #[.val (.int i)] [(.int (i + (128 : Int32))), (.ref w_cache)]) (fun _ kk => XS.iadd X8.here hx rfl (hb hby d1_20) rfl kk) ?_
      have hin9 : ¬ ((i + (128 : Int32)) < 0 ∨ c_cache.slots.size ≤ ((i + (128 : Int32))).toNatClampNeg) := inb_of B_cache.2.1 (own_box hc1 hc5)
      obtain ⟨r9, hat9, E_r9, _⟩ := B_cache.2.2.2 (i + (128 : Int32)) hin9
      refine oby (T' := T8) (g' := (mkF mG 22 #[.val (.int i)] [(.ref r9)])) (fun ot ok => X8.aaload hx (j := (i + (128 : Int32))) (v := (.ref r9)) (by rw [e8]; exact (B_cache.1.ext O0.2).1) (State.isArrayOf_alike hZ.alike B_cache.1.2.1) rfl B_cache.1.2.2 hin9 hat9 (g := (mkF mG 21 #[.val (.int i)] [(.int (i + (128 : Int32))), (.ref w_cache)])) rfl rfl (hb hby d1_21) _ ok) ?_
      obtain ⟨fs, hr, hrun, hended, hW, hsame⟩ := X8.leave (v := some (.ref r9)) (fun h => by rw [Bd.returns] at h; cases h)
      refine oout (oretA X8 hx Bd.returns rfl rfl (hb hby d1_22) hr) hrun hended ⟨_, _, rfl, ?_, ⟨_, rfl⟩, hW, hsame.mono (by decide) (by decide)⟩
      show Q_rm_valueOf Z w_cache c_cache i h0 n0 _ T8.heap _
      rw [e8]
      exact ⟨r9, rfl, N0, K0, O0, (E_r9.ext O0.2)⟩

theorem d3_0 : decode jdk_30_method_1_code 0 = .ok (.aload_n 0, 1) := by decide +kernel
theorem d3_1 : decode jdk_30_method_1_code 1 = .ok (.invokespecial 1, 3) := by decide +kernel
theorem d3_4 : decode jdk_30_method_1_code 4 = .ok (.return_, 1) := by decide +kernel
def Q_rm_rec (Z : State) (w_cache : Addr) (c_cache : Cell) (a : Addr) (h0 : Heap) (n0 : Nat) (v : Option Value) (h : Heap) (L : List Loc) : Prop := v = none ∧ Fr n0 L ∧ h = h0
set_option maxRecDepth 65536 in
set_option maxHeartbeats 40000000 in
theorem rm_rec (l : Launch) (Z : State) (a0 : Array Value) (hw : ∀ d ∈ tables_1, d.before a0 Z = true) (ws : List Jvm.Cond) (w_cache : Addr) (c_cache : Cell) (a : Addr) (h0 : Heap) (n0 : Nat) (O0 : Old Z n0 h0) (hS : St0 Z w_cache c_cache ) :
    MetFree l (⟨"java/lang/Record", "<init>", "()V"⟩ : MethodName) (head1 (Jvm.Cond.code (⟨"java/lang/Record", "<init>", "()V"⟩ : MethodName) jdk_30_method_1_code 1 none :: ws) ({ frames := 1, cells := 0, slots := 0, locals := 12 } : Room)) (fun aG UG => aG = #[(.ref a)] ∧ Z.Warmed39 UG.vm ∧ UG.heap = h0) (fun _ _ _ _ _ => True) (fun _ UG oG UG' => ∃ vG LG, oG = .returned vG ∧ Q_rm_rec Z w_cache c_cache a h0 n0 vG UG'.heap LG ∧ FrameEnd UG oG UG' LG ({ frames := 1, cells := 0, slots := 0, locals := 12 } : Room).cells ({ frames := 1, cells := 0, slots := 0, locals := 12 } : Room).slots) := by
  refine MetFree.of_bodySF (plainFor_of_name pn_2) hisR ?_
  intro pG eG sG mG argsG belowG methG cG s₁ Bd hml0 hP hK
  obtain ⟨rfl, hZ, hh⟩ := hP
  have hx := Bd.exec
  have hby := Bd.bytes
  have hml : cG.maxLocals = 1 := hml0
  have hown : sG.vm.findClass "java/lang/Record" = some mG.cls := findClass_of_methodNamed Bd.named
  have hnm := (name_of_methodNamed Bd.named Bd.method).1
  have X0 : Stand pG l eG ({ frames := 1, cells := 0, slots := 0, locals := 12 } : Room) sG mG #[(.ref a)] belowG methG cG s₁ [] 0 0 := Stand.of_body Bd
  have e0 : s₁.heap = h0 := by rw [← hh, Bd.state]; rfl
  have N0 := Fr.nil n0
  have K0 := Keep.refl h0 []
  obtain ⟨S_high, S_cache, B_cache⟩ := (id hS : St0 Z w_cache c_cache )
  refine ostart (g' := (mkF mG 0 #[.val (.ref a)] [])) (by first | (simp [entryFrame, mkF, argsToLocals, Value.category]; done) | rfl) ?_
  refine ob s₁ (mkF mG 1 #[.val (.ref a)] [(.ref a)]) (fun _ kk => XS.aloadN X0.here hx rfl (hb hby d3_0) rfl rfl kk) ?_
  obtain ⟨T1, X1, e1, st1⟩ := initO X0 hx hZ hown (ow hw 18 rfl) (ow hw 19 rfl) (ow hw 20 rfl) e0 (g := (mkF mG 1 #[.val (.ref a)] [(.ref a)])) rfl (by rw [hml]; rfl) rfl (hb hby d3_1) (by decide) (W := 0) (by show 2 * 0 + _ ≤ _; exact Nat.le_of_eq rfl) (by decide)
  refine ob T1 (mkF mG 4 #[.val (.ref a)] []) (fun _ kk => st1 _ kk) ?_
  obtain ⟨fs, hr, hrun, hended, hW, hsame⟩ := X1.leave (v := none) (fun _ => rfl)
  refine oout (X1.returnOut hx Bd.returns (hb hby d3_4) hr) hrun hended ⟨_, _, rfl, ?_, ⟨_, rfl⟩, hW, hsame.mono (by decide) (by decide)⟩
  show Q_rm_rec Z w_cache c_cache a h0 n0 _ T1.heap _
  rw [e1]
  exact ⟨rfl, N0, rfl⟩

theorem d2_0 : decode prog_63_method_1_code 0 = .ok (.aload_n 0, 1) := by decide +kernel
theorem d2_1 : decode prog_63_method_1_code 1 = .ok (.invokespecial 1, 3) := by decide +kernel
theorem d2_4 : decode prog_63_method_1_code 4 = .ok (.aload_n 0, 1) := by decide +kernel
theorem d2_5 : decode prog_63_method_1_code 5 = .ok (.iload_n 1, 1) := by decide +kernel
theorem d2_6 : decode prog_63_method_1_code 6 = .ok (.putfield 7, 3) := by decide +kernel
theorem d2_9 : decode prog_63_method_1_code 9 = .ok (.aload_n 0, 1) := by decide +kernel
theorem d2_10 : decode prog_63_method_1_code 10 = .ok (.aload_n 2, 1) := by decide +kernel
theorem d2_11 : decode prog_63_method_1_code 11 = .ok (.putfield 13, 3) := by decide +kernel
theorem d2_14 : decode prog_63_method_1_code 14 = .ok (.return_, 1) := by decide +kernel
def Q_rm_ci00 (Z : State) (w_cache : Addr) (c_cache : Cell) (a : Addr) (u0 : Value) (u1 : Value) (h0 : Heap) (n0 : Nat) (v : Option Value) (h : Heap) (L : List Loc) : Prop := v = none ∧ Fr n0 L ∧ Keep h0 h [a] ∧ Old Z n0 h ∧ Fld Z h a "com/example/llave/llave/service/Change" "given" "Z" (.int (0 : Int32)) ∧ Fld Z h a "com/example/llave/llave/service/Change" "value" "Ljava/lang/Object;" .null
set_option maxRecDepth 65536 in
set_option maxHeartbeats 40000000 in
theorem rm_ci00 (l : Launch) (Z : State) (a0 : Array Value) (hw : ∀ d ∈ tables_1, d.before a0 Z = true) (ws : List Jvm.Cond) (w_cache : Addr) (c_cache : Cell) (a : Addr) (u0 : Value) (u1 : Value) (h0 : Heap) (n0 : Nat) (O0 : Old Z n0 h0) (hS : St0 Z w_cache c_cache ) (E_a : Exa Z h0 a "com/example/llave/llave/service/Change") (F_0 : Fld Z h0 a "com/example/llave/llave/service/Change" "given" "Z" u0) (F_1 : Fld Z h0 a "com/example/llave/llave/service/Change" "value" "Ljava/lang/Object;" u1) (n_a : n0 ≤ a) :
    MetFree l (⟨"com/example/llave/llave/service/Change", "<init>", "(ZLjava/lang/Object;)V"⟩ : MethodName) (head1 (Jvm.Cond.code (⟨"com/example/llave/llave/service/Change", "<init>", "(ZLjava/lang/Object;)V"⟩ : MethodName) prog_63_method_1_code 3 none :: ws) ({ frames := 2, cells := 0, slots := 0, locals := 24 } : Room)) (fun aG UG => aG = #[(.ref a), (.int (0 : Int32)), .null] ∧ Z.Warmed39 UG.vm ∧ UG.heap = h0) (fun _ _ _ _ _ => True) (fun _ UG oG UG' => ∃ vG LG, oG = .returned vG ∧ Q_rm_ci00 Z w_cache c_cache a u0 u1 h0 n0 vG UG'.heap LG ∧ FrameEnd UG oG UG' LG ({ frames := 2, cells := 0, slots := 0, locals := 24 } : Room).cells ({ frames := 2, cells := 0, slots := 0, locals := 24 } : Room).slots) := by
  refine MetFree.of_bodySF (plainFor_of_name pn_3) hisR ?_
  intro pG eG sG mG argsG belowG methG cG s₁ Bd hml0 hP hK
  obtain ⟨rfl, hZ, hh⟩ := hP
  have hx := Bd.exec
  have hby := Bd.bytes
  have hml : cG.maxLocals = 3 := hml0
  have hown : sG.vm.findClass "com/example/llave/llave/service/Change" = some mG.cls := findClass_of_methodNamed Bd.named
  have hnm := (name_of_methodNamed Bd.named Bd.method).1
  have X0 : Stand pG l eG ({ frames := 2, cells := 0, slots := 0, locals := 24 } : Room) sG mG #[(.ref a), (.int (0 : Int32)), .null] belowG methG cG s₁ [] 0 0 := Stand.of_body Bd
  have e0 : s₁.heap = h0 := by rw [← hh, Bd.state]; rfl
  have N0 := Fr.nil n0
  have K0 := Keep.refl h0 [a]
  obtain ⟨S_high, S_cache, B_cache⟩ := (id hS : St0 Z w_cache c_cache )
  refine ostart (g' := (mkF mG 0 #[.val (.ref a), .val (.int (0 : Int32)), .val .null] [])) (by first | (simp [entryFrame, mkF, argsToLocals, Value.category]; done) | rfl) ?_
  refine ob s₁ (mkF mG 1 #[.val (.ref a), .val (.int (0 : Int32)), .val .null] [(.ref a)]) (fun _ kk => XS.aloadN X0.here hx rfl (hb hby d2_0) rfl rfl kk) ?_
  obtain ⟨_, _, ⟨T1, L1, k1, n1⟩, -, X1, ⟨Lc1, hQ1, l1, y1, z1⟩, st1⟩ := X0.specialBack hx (y := (⟨"java/lang/Record", "<init>", "()V"⟩ : MethodName)) rfl hown (mvT hZ (ow hw 13 rfl)) (mvT hZ (ow hw 14 rfl)) (mvT hZ (ow hw 17 rfl)) (by decide) (backOf (W := 0) (rm_rec l Z a0 hw [] w_cache c_cache a h0 n0 O0 hS ) hZ (ow hw 17 rfl) (ow hw 16 rfl) (by decide) (by decide)) (g := (mkF mG 1 #[.val (.ref a), .val (.int (0 : Int32)), .val .null] [(.ref a)])) rfl (by rw [hml]; rfl) (Steps.refl _) (a := a) (argsL := []) (rest := []) (lenOf pd_0 rfl) rfl (by show 2 * 0 + _ ≤ _; exact Nat.le_of_eq rfl) (hb hby d2_1) (fun _ _ => ⟨rfl, e0, (by decide : 0 + 0 ≤ _), (by decide : 0 + 0 ≤ _)⟩)
  dsimp only [Pt.U, Pt.locs, Pt.cells, Pt.slots] at X1 l1 y1 z1 st1 hQ1
  subst l1 y1 z1
  obtain ⟨rfl, N1q, e1⟩ := hQ1
  have N1 := Fr.app N0 N1q
  refine ob T1 (mkF mG 4 #[.val (.ref a), .val (.int (0 : Int32)), .val .null] []) (fun _ kk => st1.trans kk) ?_
  refine ob T1 (mkF mG 5 #[.val (.ref a), .val (.int (0 : Int32)), .val .null] [(.ref a)]) (fun _ kk => XS.aloadN X1.here hx rfl (hb hby d2_4) rfl rfl kk) ?_
  refine ob T1 (mkF mG 6 #[.val (.ref a), .val (.int (0 : Int32)), .val .null] [(.int (0 : Int32)), (.ref a)]) (fun _ kk => XS.iloadN X1.here hx rfl (hb hby d2_5) rfl kk) ?_
  obtain ⟨T2, h2, X2, e2, W2, st2⟩ := putFN X1 hx hZ hown (ow hw 21 rfl) Via.refl e1 F_0 E_a (Or.inr ⟨(ow hw 22 rfl), rfl, hnm⟩) (ow hw 8 rfl) (ty := .boolean) (v' := (.int (0 : Int32))) (by decide) rfl rfl (g := (mkF mG 6 #[.val (.ref a), .val (.int (0 : Int32)), .val .null] [(.int (0 : Int32)), (.ref a)])) rfl rfl (hb hby d2_6)
  have F2 := F_0.same W2
  have O2 := O0.wr W2 n_a
  have K2 := K0.wr W2 (Or.inl (List.mem_of_getElem? (i := 0) rfl))
  have N2 := Fr.snoc X2 N1 n_a
  refine ob T2 (mkF mG 9 #[.val (.ref a), .val (.int (0 : Int32)), .val .null] []) (fun _ kk => st2 _ kk) ?_
  refine ob T2 (mkF mG 10 #[.val (.ref a), .val (.int (0 : Int32)), .val .null] [(.ref a)]) (fun _ kk => XS.aloadN X2.here hx rfl (hb hby d2_9) rfl rfl kk) ?_
  refine ob T2 (mkF mG 11 #[.val (.ref a), .val (.int (0 : Int32)), .val .null] [.null, (.ref a)]) (fun _ kk => XS.aloadN X2.here hx rfl (hb hby d2_10) rfl rfl kk) ?_
  obtain ⟨T3, h3, X3, e3, W3, st3⟩ := putF X2 hx hZ hown (host := "") (Or.inl (ow hw 23 rfl)) Via.refl e2 (F_1.other W2 (Or.inr (slot_ne (Or.inr (ow hw 24 rfl)) (Or.inr (ow hw 22 rfl)) (by decide) (t := (.object "java/lang/Object")) (t' := .boolean) (by decide) (by decide)))) (E_a.wr W2) (Or.inr ⟨(ow hw 24 rfl), rfl, hnm⟩) (ow hw 8 rfl) (ty := (.object "java/lang/Object")) (by decide) rfl rfl (g := (mkF mG 11 #[.val (.ref a), .val (.int (0 : Int32)), .val .null] [.null, (.ref a)])) rfl rfl (hb hby d2_11)
  have F3 := (F_1.other W2 (Or.inr (slot_ne (Or.inr (ow hw 24 rfl)) (Or.inr (ow hw 22 rfl)) (by decide) (t := (.object "java/lang/Object")) (t' := .boolean) (by decide) (by decide)))).same W3
  have O3 := O2.wr W3 n_a
  have K3 := K2.wr W3 (Or.inl (List.mem_of_getElem? (i := 0) rfl))
  have N3 := Fr.snoc X3 N2 n_a
  refine ob T3 (mkF mG 14 #[.val (.ref a), .val (.int (0 : Int32)), .val .null] []) (fun _ kk => st3 _ kk) ?_
  obtain ⟨fs, hr, hrun, hended, hW, hsame⟩ := X3.leave (v := none) (fun _ => rfl)
  refine oout (X3.returnOut hx Bd.returns (hb hby d2_14) hr) hrun hended ⟨_, _, rfl, ?_, ⟨_, rfl⟩, hW, hsame.mono (by decide) (by decide)⟩
  show Q_rm_ci00 Z w_cache c_cache a u0 u1 h0 n0 _ T3.heap _
  rw [e3]
  exact ⟨rfl, N3, K3, O3, (F2.other W3 (Or.inr (slot_ne (Or.inr (ow hw 22 rfl)) (Or.inr (ow hw 24 rfl)) (by decide) (t := .boolean) (t' := (.object "java/lang/Object")) (by decide) (by decide)))), F3⟩

theorem d5_0 : decode prog_63_method_4_code 0 = .ok (.aload_n 0, 1) := by decide +kernel
theorem d5_1 : decode prog_63_method_4_code 1 = .ok (.getfield 7, 3) := by decide +kernel
theorem d5_4 : decode prog_63_method_4_code 4 = .ok (.ifCond .eq 10, 3) := by decide +kernel
theorem d5_14 : decode prog_63_method_4_code 14 = .ok (.aload_n 1, 1) := by decide +kernel
theorem d5_15 : decode prog_63_method_4_code 15 = .ok (.areturn, 1) := by decide +kernel
def Q_rm_ap000 (Z : State) (w_cache : Addr) (c_cache : Cell) (a : Addr) (h0 : Heap) (n0 : Nat) (v : Option Value) (h : Heap) (L : List Loc) : Prop := v = some .null ∧ Fr n0 L ∧ h = h0
set_option maxRecDepth 65536 in
set_option maxHeartbeats 40000000 in
theorem rm_ap000 (l : Launch) (Z : State) (a0 : Array Value) (hw : ∀ d ∈ tables_1, d.before a0 Z = true) (ws : List Jvm.Cond) (w_cache : Addr) (c_cache : Cell) (a : Addr) (h0 : Heap) (n0 : Nat) (O0 : Old Z n0 h0) (hS : St0 Z w_cache c_cache ) (F_g : Fld Z h0 a "com/example/llave/llave/service/Change" "given" "Z" (.int (0 : Int32))) (F_v : Fld Z h0 a "com/example/llave/llave/service/Change" "value" "Ljava/lang/Object;" .null) :
    MetFree l (⟨"com/example/llave/llave/service/Change", "applyTo", "(Ljava/lang/Object;)Ljava/lang/Object;"⟩ : MethodName) (head1 (Jvm.Cond.code (⟨"com/example/llave/llave/service/Change", "applyTo", "(Ljava/lang/Object;)Ljava/lang/Object;"⟩ : MethodName) prog_63_method_4_code 2 (some (.object "java/lang/Object")) :: ws) ({ frames := 0, cells := 0, slots := 0, locals := 0 } : Room)) (fun aG UG => aG = #[(.ref a), .null] ∧ Z.Warmed39 UG.vm ∧ UG.heap = h0) (fun _ _ _ _ _ => True) (fun _ UG oG UG' => ∃ vG LG, oG = .returned vG ∧ Q_rm_ap000 Z w_cache c_cache a h0 n0 vG UG'.heap LG ∧ FrameEnd UG oG UG' LG ({ frames := 0, cells := 0, slots := 0, locals := 0 } : Room).cells ({ frames := 0, cells := 0, slots := 0, locals := 0 } : Room).slots) := by
  refine MetFree.of_bodySF (plainFor_of_name pn_3) hisR ?_
  intro pG eG sG mG argsG belowG methG cG s₁ Bd hml0 hP hK
  obtain ⟨rfl, hZ, hh⟩ := hP
  have hx := Bd.exec
  have hby := Bd.bytes
  have hml : cG.maxLocals = 2 := hml0
  have hown : sG.vm.findClass "com/example/llave/llave/service/Change" = some mG.cls := findClass_of_methodNamed Bd.named
  have hnm := (name_of_methodNamed Bd.named Bd.method).1
  have X0 : Stand pG l eG ({ frames := 0, cells := 0, slots := 0, locals := 0 } : Room) sG mG #[(.ref a), .null] belowG methG cG s₁ [] 0 0 := Stand.of_body Bd
  have e0 : s₁.heap = h0 := by rw [← hh, Bd.state]; rfl
  have N0 := Fr.nil n0
  have K0 := Keep.refl h0 []
  obtain ⟨S_high, S_cache, B_cache⟩ := (id hS : St0 Z w_cache c_cache )
  refine ostart (g' := (mkF mG 0 #[.val (.ref a), .val .null] [])) (by first | (simp [entryFrame, mkF, argsToLocals, Value.category]; done) | rfl) ?_
  refine ob s₁ (mkF mG 1 #[.val (.ref a), .val .null] [(.ref a)]) (fun _ kk => XS.aloadN X0.here hx rfl (hb hby d5_0) rfl rfl kk) ?_
  obtain ⟨T1, X1, e1, st1⟩ := getF X0 hx hZ hown (host := "") (Or.inl (ow hw 21 rfl)) Via.refl e0 F_g (g := (mkF mG 1 #[.val (.ref a), .val .null] [(.ref a)])) rfl rfl (hb hby d5_1)
  refine ob T1 (mkF mG 4 #[.val (.ref a), .val .null] [(.int (0 : Int32))]) (fun _ kk => st1 _ kk) ?_
  refine ob T1 (mkF mG 14 #[.val (.ref a), .val .null] []) (fun _ kk => XS.ifYes X1.here hx rfl (pc0 := 4) (pc' := 14) rfl (hb hby d5_4) rfl ((if0 _ _).trans (teq (by decide : (0 : Int32) = (0 : Int32))).1) (by decide) (by decide) kk) ?_
  refine ob T1 (mkF mG 15 #[.val (.ref a), .val .null] [.null]) (fun _ kk => XS.aloadN X1.here hx rfl (hb hby d5_14) rfl rfl kk) ?_
  obtain ⟨fs, hr, hrun, hended, hW, hsame⟩ := X1.leave (v := some .null) (fun h => by rw [Bd.returns] at h; cases h)
  refine oout (oretA X1 hx Bd.returns rfl rfl (hb hby d5_15) hr) hrun hended ⟨_, _, rfl, ?_, ⟨_, rfl⟩, hW, hsame.mono (by decide) (by decide)⟩
  show Q_rm_ap000 Z w_cache c_cache a h0 n0 _ T1.heap _
  rw [e1]
  exact ⟨rfl, N0, rfl⟩

def Q_rm_ap001 (Z : State) (w_cache : Addr) (c_cache : Cell) (a : Addr) (c : Addr) (h0 : Heap) (n0 : Nat) (v : Option Value) (h : Heap) (L : List Loc) : Prop := v = some (.ref c) ∧ Fr n0 L ∧ h = h0
set_option maxRecDepth 65536 in
set_option maxHeartbeats 40000000 in
theorem rm_ap001 (l : Launch) (Z : State) (a0 : Array Value) (hw : ∀ d ∈ tables_1, d.before a0 Z = true) (ws : List Jvm.Cond) (w_cache : Addr) (c_cache : Cell) (a : Addr) (c : Addr) (h0 : Heap) (n0 : Nat) (O0 : Old Z n0 h0) (hS : St0 Z w_cache c_cache ) (F_g : Fld Z h0 a "com/example/llave/llave/service/Change" "given" "Z" (.int (0 : Int32))) (F_v : Fld Z h0 a "com/example/llave/llave/service/Change" "value" "Ljava/lang/Object;" .null) :
    MetFree l (⟨"com/example/llave/llave/service/Change", "applyTo", "(Ljava/lang/Object;)Ljava/lang/Object;"⟩ : MethodName) (head1 (Jvm.Cond.code (⟨"com/example/llave/llave/service/Change", "applyTo", "(Ljava/lang/Object;)Ljava/lang/Object;"⟩ : MethodName) prog_63_method_4_code 2 (some (.object "java/lang/Object")) :: ws) ({ frames := 0, cells := 0, slots := 0, locals := 0 } : Room)) (fun aG UG => aG = #[(.ref a), (.ref c)] ∧ Z.Warmed39 UG.vm ∧ UG.heap = h0) (fun _ _ _ _ _ => True) (fun _ UG oG UG' => ∃ vG LG, oG = .returned vG ∧ Q_rm_ap001 Z w_cache c_cache a c h0 n0 vG UG'.heap LG ∧ FrameEnd UG oG UG' LG ({ frames := 0, cells := 0, slots := 0, locals := 0 } : Room).cells ({ frames := 0, cells := 0, slots := 0, locals := 0 } : Room).slots) := by
  refine MetFree.of_bodySF (plainFor_of_name pn_3) hisR ?_
  intro pG eG sG mG argsG belowG methG cG s₁ Bd hml0 hP hK
  obtain ⟨rfl, hZ, hh⟩ := hP
  have hx := Bd.exec
  have hby := Bd.bytes
  have hml : cG.maxLocals = 2 := hml0
  have hown : sG.vm.findClass "com/example/llave/llave/service/Change" = some mG.cls := findClass_of_methodNamed Bd.named
  have hnm := (name_of_methodNamed Bd.named Bd.method).1
  have X0 : Stand pG l eG ({ frames := 0, cells := 0, slots := 0, locals := 0 } : Room) sG mG #[(.ref a), (.ref c)] belowG methG cG s₁ [] 0 0 := Stand.of_body Bd
  have e0 : s₁.heap = h0 := by rw [← hh, Bd.state]; rfl
  have N0 := Fr.nil n0
  have K0 := Keep.refl h0 []
  obtain ⟨S_high, S_cache, B_cache⟩ := (id hS : St0 Z w_cache c_cache )
  refine ostart (g' := (mkF mG 0 #[.val (.ref a), .val (.ref c)] [])) (by first | (simp [entryFrame, mkF, argsToLocals, Value.category]; done) | rfl) ?_
  refine ob s₁ (mkF mG 1 #[.val (.ref a), .val (.ref c)] [(.ref a)]) (fun _ kk => XS.aloadN X0.here hx rfl (hb hby d5_0) rfl rfl kk) ?_
  obtain ⟨T1, X1, e1, st1⟩ := getF X0 hx hZ hown (host := "") (Or.inl (ow hw 21 rfl)) Via.refl e0 F_g (g := (mkF mG 1 #[.val (.ref a), .val (.ref c)] [(.ref a)])) rfl rfl (hb hby d5_1)
  refine ob T1 (mkF mG 4 #[.val (.ref a), .val (.ref c)] [(.int (0 : Int32))]) (fun _ kk => st1 _ kk) ?_
  refine ob T1 (mkF mG 14 #[.val (.ref a), .val (.ref c)] []) (fun _ kk => XS.ifYes X1.here hx rfl (pc0 := 4) (pc' := 14) rfl (hb hby d5_4) rfl ((if0 _ _).trans (teq (by decide : (0 : Int32) = (0 : Int32))).1) (by decide) (by decide) kk) ?_
  refine ob T1 (mkF mG 15 #[.val (.ref a), .val (.ref c)] [(.ref c)]) (fun _ kk => XS.aloadN X1.here hx rfl (hb hby d5_14) rfl rfl kk) ?_
  obtain ⟨fs, hr, hrun, hended, hW, hsame⟩ := X1.leave (v := some (.ref c)) (fun h => by rw [Bd.returns] at h; cases h)
  refine oout (oretA X1 hx Bd.returns rfl rfl (hb hby d5_15) hr) hrun hended ⟨_, _, rfl, ?_, ⟨_, rfl⟩, hW, hsame.mono (by decide) (by decide)⟩
  show Q_rm_ap001 Z w_cache c_cache a c h0 n0 _ T1.heap _
  rw [e1]
  exact ⟨rfl, N0, rfl⟩

def Q_rm_ci01 (Z : State) (w_cache : Addr) (c_cache : Cell) (a : Addr) (o : Addr) (u0 : Value) (u1 : Value) (h0 : Heap) (n0 : Nat) (v : Option Value) (h : Heap) (L : List Loc) : Prop := v = none ∧ Fr n0 L ∧ Keep h0 h [a] ∧ Old Z n0 h ∧ Fld Z h a "com/example/llave/llave/service/Change" "given" "Z" (.int (0 : Int32)) ∧ Fld Z h a "com/example/llave/llave/service/Change" "value" "Ljava/lang/Object;" (.ref o)
set_option maxRecDepth 65536 in
set_option maxHeartbeats 40000000 in
theorem rm_ci01 (l : Launch) (Z : State) (a0 : Array Value) (hw : ∀ d ∈ tables_1, d.before a0 Z = true) (ws : List Jvm.Cond) (w_cache : Addr) (c_cache : Cell) (a : Addr) (o : Addr) (u0 : Value) (u1 : Value) (h0 : Heap) (n0 : Nat) (O0 : Old Z n0 h0) (hS : St0 Z w_cache c_cache ) (E_a : Exa Z h0 a "com/example/llave/llave/service/Change") (F_0 : Fld Z h0 a "com/example/llave/llave/service/Change" "given" "Z" u0) (F_1 : Fld Z h0 a "com/example/llave/llave/service/Change" "value" "Ljava/lang/Object;" u1) (n_a : n0 ≤ a) :
    MetFree l (⟨"com/example/llave/llave/service/Change", "<init>", "(ZLjava/lang/Object;)V"⟩ : MethodName) (head1 (Jvm.Cond.code (⟨"com/example/llave/llave/service/Change", "<init>", "(ZLjava/lang/Object;)V"⟩ : MethodName) prog_63_method_1_code 3 none :: ws) ({ frames := 2, cells := 0, slots := 0, locals := 24 } : Room)) (fun aG UG => aG = #[(.ref a), (.int (0 : Int32)), (.ref o)] ∧ Z.Warmed39 UG.vm ∧ UG.heap = h0) (fun _ _ _ _ _ => True) (fun _ UG oG UG' => ∃ vG LG, oG = .returned vG ∧ Q_rm_ci01 Z w_cache c_cache a o u0 u1 h0 n0 vG UG'.heap LG ∧ FrameEnd UG oG UG' LG ({ frames := 2, cells := 0, slots := 0, locals := 24 } : Room).cells ({ frames := 2, cells := 0, slots := 0, locals := 24 } : Room).slots) := by
  refine MetFree.of_bodySF (plainFor_of_name pn_3) hisR ?_
  intro pG eG sG mG argsG belowG methG cG s₁ Bd hml0 hP hK
  obtain ⟨rfl, hZ, hh⟩ := hP
  have hx := Bd.exec
  have hby := Bd.bytes
  have hml : cG.maxLocals = 3 := hml0
  have hown : sG.vm.findClass "com/example/llave/llave/service/Change" = some mG.cls := findClass_of_methodNamed Bd.named
  have hnm := (name_of_methodNamed Bd.named Bd.method).1
  have X0 : Stand pG l eG ({ frames := 2, cells := 0, slots := 0, locals := 24 } : Room) sG mG #[(.ref a), (.int (0 : Int32)), (.ref o)] belowG methG cG s₁ [] 0 0 := Stand.of_body Bd
  have e0 : s₁.heap = h0 := by rw [← hh, Bd.state]; rfl
  have N0 := Fr.nil n0
  have K0 := Keep.refl h0 [a]
  obtain ⟨S_high, S_cache, B_cache⟩ := (id hS : St0 Z w_cache c_cache )
  refine ostart (g' := (mkF mG 0 #[.val (.ref a), .val (.int (0 : Int32)), .val (.ref o)] [])) (by first | (simp [entryFrame, mkF, argsToLocals, Value.category]; done) | rfl) ?_
  refine ob s₁ (mkF mG 1 #[.val (.ref a), .val (.int (0 : Int32)), .val (.ref o)] [(.ref a)]) (fun _ kk => XS.aloadN X0.here hx rfl (hb hby d2_0) rfl rfl kk) ?_
  obtain ⟨_, _, ⟨T1, L1, k1, n1⟩, -, X1, ⟨Lc1, hQ1, l1, y1, z1⟩, st1⟩ := X0.specialBack hx (y := (⟨"java/lang/Record", "<init>", "()V"⟩ : MethodName)) rfl hown (mvT hZ (ow hw 13 rfl)) (mvT hZ (ow hw 14 rfl)) (mvT hZ (ow hw 17 rfl)) (by decide) (backOf (W := 0) (rm_rec l Z a0 hw [] w_cache c_cache a h0 n0 O0 hS ) hZ (ow hw 17 rfl) (ow hw 16 rfl) (by decide) (by decide)) (g := (mkF mG 1 #[.val (.ref a), .val (.int (0 : Int32)), .val (.ref o)] [(.ref a)])) rfl (by rw [hml]; rfl) (Steps.refl _) (a := a) (argsL := []) (rest := []) (lenOf pd_0 rfl) rfl (by show 2 * 0 + _ ≤ _; exact Nat.le_of_eq rfl) (hb hby d2_1) (fun _ _ => ⟨rfl, e0, (by decide : 0 + 0 ≤ _), (by decide : 0 + 0 ≤ _)⟩)
  dsimp only [Pt.U, Pt.locs, Pt.cells, Pt.slots] at X1 l1 y1 z1 st1 hQ1
  subst l1 y1 z1
  obtain ⟨rfl, N1q, e1⟩ := hQ1
  have N1 := Fr.app N0 N1q
  refine ob T1 (mkF mG 4 #[.val (.ref a), .val (.int (0 : Int32)), .val (.ref o)] []) (fun _ kk => st1.trans kk) ?_
  refine ob T1 (mkF mG 5 #[.val (.ref a), .val (.int (0 : Int32)), .val (.ref o)] [(.ref a)]) (fun _ kk => XS.aloadN X1.here hx rfl (hb hby d2_4) rfl rfl kk) ?_
  refine ob T1 (mkF mG 6 #[.val (.ref a), .val (.int (0 : Int32)), .val (.ref o)] [(.int (0 : Int32)), (.ref a)]) (fun _ kk => XS.iloadN X1.here hx rfl (hb hby d2_5) rfl kk) ?_
  obtain ⟨T2, h2, X2, e2, W2, st2⟩ := putFN X1 hx hZ hown (ow hw 21 rfl) Via.refl e1 F_0 E_a (Or.inr ⟨(ow hw 22 rfl), rfl, hnm⟩) (ow hw 8 rfl) (ty := .boolean) (v' := (.int (0 : Int32))) (by decide) rfl rfl (g := (mkF mG 6 #[.val (.ref a), .val (.int (0 : Int32)), .val (.ref o)] [(.int (0 : Int32)), (.ref a)])) rfl rfl (hb hby d2_6)
  have F2 := F_0.same W2
  have O2 := O0.wr W2 n_a
  have K2 := K0.wr W2 (Or.inl (List.mem_of_getElem? (i := 0) rfl))
  have N2 := Fr.snoc X2 N1 n_a
  refine ob T2 (mkF mG 9 #[.val (.ref a), .val (.int (0 : Int32)), .val (.ref o)] []) (fun _ kk => st2 _ kk) ?_
  refine ob T2 (mkF mG 10 #[.val (.ref a), .val (.int (0 : Int32)), .val (.ref o)] [(.ref a)]) (fun _ kk => XS.aloadN X2.here hx rfl (hb hby d2_9) rfl rfl kk) ?_
  refine ob T2 (mkF mG 11 #[.val (.ref a), .val (.int (0 : Int32)), .val (.ref o)] [(.ref o), (.ref a)]) (fun _ kk => XS.aloadN X2.here hx rfl (hb hby d2_10) rfl rfl kk) ?_
  obtain ⟨T3, h3, X3, e3, W3, st3⟩ := putF X2 hx hZ hown (host := "") (Or.inl (ow hw 23 rfl)) Via.refl e2 (F_1.other W2 (Or.inr (slot_ne (Or.inr (ow hw 24 rfl)) (Or.inr (ow hw 22 rfl)) (by decide) (t := (.object "java/lang/Object")) (t' := .boolean) (by decide) (by decide)))) (E_a.wr W2) (Or.inr ⟨(ow hw 24 rfl), rfl, hnm⟩) (ow hw 8 rfl) (ty := (.object "java/lang/Object")) (by decide) rfl rfl (g := (mkF mG 11 #[.val (.ref a), .val (.int (0 : Int32)), .val (.ref o)] [(.ref o), (.ref a)])) rfl rfl (hb hby d2_11)
  have F3 := (F_1.other W2 (Or.inr (slot_ne (Or.inr (ow hw 24 rfl)) (Or.inr (ow hw 22 rfl)) (by decide) (t := (.object "java/lang/Object")) (t' := .boolean) (by decide) (by decide)))).same W3
  have O3 := O2.wr W3 n_a
  have K3 := K2.wr W3 (Or.inl (List.mem_of_getElem? (i := 0) rfl))
  have N3 := Fr.snoc X3 N2 n_a
  refine ob T3 (mkF mG 14 #[.val (.ref a), .val (.int (0 : Int32)), .val (.ref o)] []) (fun _ kk => st3 _ kk) ?_
  obtain ⟨fs, hr, hrun, hended, hW, hsame⟩ := X3.leave (v := none) (fun _ => rfl)
  refine oout (X3.returnOut hx Bd.returns (hb hby d2_14) hr) hrun hended ⟨_, _, rfl, ?_, ⟨_, rfl⟩, hW, hsame.mono (by decide) (by decide)⟩
  show Q_rm_ci01 Z w_cache c_cache a o u0 u1 h0 n0 _ T3.heap _
  rw [e3]
  exact ⟨rfl, N3, K3, O3, (F2.other W3 (Or.inr (slot_ne (Or.inr (ow hw 22 rfl)) (Or.inr (ow hw 24 rfl)) (by decide) (t := .boolean) (t' := (.object "java/lang/Object")) (by decide) (by decide)))), F3⟩

def Q_rm_ap010 (Z : State) (w_cache : Addr) (c_cache : Cell) (a : Addr) (o : Addr) (h0 : Heap) (n0 : Nat) (v : Option Value) (h : Heap) (L : List Loc) : Prop := v = some .null ∧ Fr n0 L ∧ h = h0
set_option maxRecDepth 65536 in
set_option maxHeartbeats 40000000 in
theorem rm_ap010 (l : Launch) (Z : State) (a0 : Array Value) (hw : ∀ d ∈ tables_1, d.before a0 Z = true) (ws : List Jvm.Cond) (w_cache : Addr) (c_cache : Cell) (a : Addr) (o : Addr) (h0 : Heap) (n0 : Nat) (O0 : Old Z n0 h0) (hS : St0 Z w_cache c_cache ) (F_g : Fld Z h0 a "com/example/llave/llave/service/Change" "given" "Z" (.int (0 : Int32))) (F_v : Fld Z h0 a "com/example/llave/llave/service/Change" "value" "Ljava/lang/Object;" (.ref o)) :
    MetFree l (⟨"com/example/llave/llave/service/Change", "applyTo", "(Ljava/lang/Object;)Ljava/lang/Object;"⟩ : MethodName) (head1 (Jvm.Cond.code (⟨"com/example/llave/llave/service/Change", "applyTo", "(Ljava/lang/Object;)Ljava/lang/Object;"⟩ : MethodName) prog_63_method_4_code 2 (some (.object "java/lang/Object")) :: ws) ({ frames := 0, cells := 0, slots := 0, locals := 0 } : Room)) (fun aG UG => aG = #[(.ref a), .null] ∧ Z.Warmed39 UG.vm ∧ UG.heap = h0) (fun _ _ _ _ _ => True) (fun _ UG oG UG' => ∃ vG LG, oG = .returned vG ∧ Q_rm_ap010 Z w_cache c_cache a o h0 n0 vG UG'.heap LG ∧ FrameEnd UG oG UG' LG ({ frames := 0, cells := 0, slots := 0, locals := 0 } : Room).cells ({ frames := 0, cells := 0, slots := 0, locals := 0 } : Room).slots) := by
  refine MetFree.of_bodySF (plainFor_of_name pn_3) hisR ?_
  intro pG eG sG mG argsG belowG methG cG s₁ Bd hml0 hP hK
  obtain ⟨rfl, hZ, hh⟩ := hP
  have hx := Bd.exec
  have hby := Bd.bytes
  have hml : cG.maxLocals = 2 := hml0
  have hown : sG.vm.findClass "com/example/llave/llave/service/Change" = some mG.cls := findClass_of_methodNamed Bd.named
  have hnm := (name_of_methodNamed Bd.named Bd.method).1
  have X0 : Stand pG l eG ({ frames := 0, cells := 0, slots := 0, locals := 0 } : Room) sG mG #[(.ref a), .null] belowG methG cG s₁ [] 0 0 := Stand.of_body Bd
  have e0 : s₁.heap = h0 := by rw [← hh, Bd.state]; rfl
  have N0 := Fr.nil n0
  have K0 := Keep.refl h0 []
  obtain ⟨S_high, S_cache, B_cache⟩ := (id hS : St0 Z w_cache c_cache )
  refine ostart (g' := (mkF mG 0 #[.val (.ref a), .val .null] [])) (by first | (simp [entryFrame, mkF, argsToLocals, Value.category]; done) | rfl) ?_
  refine ob s₁ (mkF mG 1 #[.val (.ref a), .val .null] [(.ref a)]) (fun _ kk => XS.aloadN X0.here hx rfl (hb hby d5_0) rfl rfl kk) ?_
  obtain ⟨T1, X1, e1, st1⟩ := getF X0 hx hZ hown (host := "") (Or.inl (ow hw 21 rfl)) Via.refl e0 F_g (g := (mkF mG 1 #[.val (.ref a), .val .null] [(.ref a)])) rfl rfl (hb hby d5_1)
  refine ob T1 (mkF mG 4 #[.val (.ref a), .val .null] [(.int (0 : Int32))]) (fun _ kk => st1 _ kk) ?_
  refine ob T1 (mkF mG 14 #[.val (.ref a), .val .null] []) (fun _ kk => XS.ifYes X1.here hx rfl (pc0 := 4) (pc' := 14) rfl (hb hby d5_4) rfl ((if0 _ _).trans (teq (by decide : (0 : Int32) = (0 : Int32))).1) (by decide) (by decide) kk) ?_
  refine ob T1 (mkF mG 15 #[.val (.ref a), .val .null] [.null]) (fun _ kk => XS.aloadN X1.here hx rfl (hb hby d5_14) rfl rfl kk) ?_
  obtain ⟨fs, hr, hrun, hended, hW, hsame⟩ := X1.leave (v := some .null) (fun h => by rw [Bd.returns] at h; cases h)
  refine oout (oretA X1 hx Bd.returns rfl rfl (hb hby d5_15) hr) hrun hended ⟨_, _, rfl, ?_, ⟨_, rfl⟩, hW, hsame.mono (by decide) (by decide)⟩
  show Q_rm_ap010 Z w_cache c_cache a o h0 n0 _ T1.heap _
  rw [e1]
  exact ⟨rfl, N0, rfl⟩

def Q_rm_ap011 (Z : State) (w_cache : Addr) (c_cache : Cell) (a : Addr) (o : Addr) (c : Addr) (h0 : Heap) (n0 : Nat) (v : Option Value) (h : Heap) (L : List Loc) : Prop := v = some (.ref c) ∧ Fr n0 L ∧ h = h0
set_option maxRecDepth 65536 in
set_option maxHeartbeats 40000000 in
theorem rm_ap011 (l : Launch) (Z : State) (a0 : Array Value) (hw : ∀ d ∈ tables_1, d.before a0 Z = true) (ws : List Jvm.Cond) (w_cache : Addr) (c_cache : Cell) (a : Addr) (o : Addr) (c : Addr) (h0 : Heap) (n0 : Nat) (O0 : Old Z n0 h0) (hS : St0 Z w_cache c_cache ) (F_g : Fld Z h0 a "com/example/llave/llave/service/Change" "given" "Z" (.int (0 : Int32))) (F_v : Fld Z h0 a "com/example/llave/llave/service/Change" "value" "Ljava/lang/Object;" (.ref o)) :
    MetFree l (⟨"com/example/llave/llave/service/Change", "applyTo", "(Ljava/lang/Object;)Ljava/lang/Object;"⟩ : MethodName) (head1 (Jvm.Cond.code (⟨"com/example/llave/llave/service/Change", "applyTo", "(Ljava/lang/Object;)Ljava/lang/Object;"⟩ : MethodName) prog_63_method_4_code 2 (some (.object "java/lang/Object")) :: ws) ({ frames := 0, cells := 0, slots := 0, locals := 0 } : Room)) (fun aG UG => aG = #[(.ref a), (.ref c)] ∧ Z.Warmed39 UG.vm ∧ UG.heap = h0) (fun _ _ _ _ _ => True) (fun _ UG oG UG' => ∃ vG LG, oG = .returned vG ∧ Q_rm_ap011 Z w_cache c_cache a o c h0 n0 vG UG'.heap LG ∧ FrameEnd UG oG UG' LG ({ frames := 0, cells := 0, slots := 0, locals := 0 } : Room).cells ({ frames := 0, cells := 0, slots := 0, locals := 0 } : Room).slots) := by
  refine MetFree.of_bodySF (plainFor_of_name pn_3) hisR ?_
  intro pG eG sG mG argsG belowG methG cG s₁ Bd hml0 hP hK
  obtain ⟨rfl, hZ, hh⟩ := hP
  have hx := Bd.exec
  have hby := Bd.bytes
  have hml : cG.maxLocals = 2 := hml0
  have hown : sG.vm.findClass "com/example/llave/llave/service/Change" = some mG.cls := findClass_of_methodNamed Bd.named
  have hnm := (name_of_methodNamed Bd.named Bd.method).1
  have X0 : Stand pG l eG ({ frames := 0, cells := 0, slots := 0, locals := 0 } : Room) sG mG #[(.ref a), (.ref c)] belowG methG cG s₁ [] 0 0 := Stand.of_body Bd
  have e0 : s₁.heap = h0 := by rw [← hh, Bd.state]; rfl
  have N0 := Fr.nil n0
  have K0 := Keep.refl h0 []
  obtain ⟨S_high, S_cache, B_cache⟩ := (id hS : St0 Z w_cache c_cache )
  refine ostart (g' := (mkF mG 0 #[.val (.ref a), .val (.ref c)] [])) (by first | (simp [entryFrame, mkF, argsToLocals, Value.category]; done) | rfl) ?_
  refine ob s₁ (mkF mG 1 #[.val (.ref a), .val (.ref c)] [(.ref a)]) (fun _ kk => XS.aloadN X0.here hx rfl (hb hby d5_0) rfl rfl kk) ?_
  obtain ⟨T1, X1, e1, st1⟩ := getF X0 hx hZ hown (host := "") (Or.inl (ow hw 21 rfl)) Via.refl e0 F_g (g := (mkF mG 1 #[.val (.ref a), .val (.ref c)] [(.ref a)])) rfl rfl (hb hby d5_1)
  refine ob T1 (mkF mG 4 #[.val (.ref a), .val (.ref c)] [(.int (0 : Int32))]) (fun _ kk => st1 _ kk) ?_
  refine ob T1 (mkF mG 14 #[.val (.ref a), .val (.ref c)] []) (fun _ kk => XS.ifYes X1.here hx rfl (pc0 := 4) (pc' := 14) rfl (hb hby d5_4) rfl ((if0 _ _).trans (teq (by decide : (0 : Int32) = (0 : Int32))).1) (by decide) (by decide) kk) ?_
  refine ob T1 (mkF mG 15 #[.val (.ref a), .val (.ref c)] [(.ref c)]) (fun _ kk => XS.aloadN X1.here hx rfl (hb hby d5_14) rfl rfl kk) ?_
  obtain ⟨fs, hr, hrun, hended, hW, hsame⟩ := X1.leave (v := some (.ref c)) (fun h => by rw [Bd.returns] at h; cases h)
  refine oout (oretA X1 hx Bd.returns rfl rfl (hb hby d5_15) hr) hrun hended ⟨_, _, rfl, ?_, ⟨_, rfl⟩, hW, hsame.mono (by decide) (by decide)⟩
  show Q_rm_ap011 Z w_cache c_cache a o c h0 n0 _ T1.heap _
  rw [e1]
  exact ⟨rfl, N0, rfl⟩

def Q_rm_ci10 (Z : State) (w_cache : Addr) (c_cache : Cell) (a : Addr) (u0 : Value) (u1 : Value) (h0 : Heap) (n0 : Nat) (v : Option Value) (h : Heap) (L : List Loc) : Prop := v = none ∧ Fr n0 L ∧ Keep h0 h [a] ∧ Old Z n0 h ∧ Fld Z h a "com/example/llave/llave/service/Change" "given" "Z" (.int (1 : Int32)) ∧ Fld Z h a "com/example/llave/llave/service/Change" "value" "Ljava/lang/Object;" .null
set_option maxRecDepth 65536 in
set_option maxHeartbeats 40000000 in
theorem rm_ci10 (l : Launch) (Z : State) (a0 : Array Value) (hw : ∀ d ∈ tables_1, d.before a0 Z = true) (ws : List Jvm.Cond) (w_cache : Addr) (c_cache : Cell) (a : Addr) (u0 : Value) (u1 : Value) (h0 : Heap) (n0 : Nat) (O0 : Old Z n0 h0) (hS : St0 Z w_cache c_cache ) (E_a : Exa Z h0 a "com/example/llave/llave/service/Change") (F_0 : Fld Z h0 a "com/example/llave/llave/service/Change" "given" "Z" u0) (F_1 : Fld Z h0 a "com/example/llave/llave/service/Change" "value" "Ljava/lang/Object;" u1) (n_a : n0 ≤ a) :
    MetFree l (⟨"com/example/llave/llave/service/Change", "<init>", "(ZLjava/lang/Object;)V"⟩ : MethodName) (head1 (Jvm.Cond.code (⟨"com/example/llave/llave/service/Change", "<init>", "(ZLjava/lang/Object;)V"⟩ : MethodName) prog_63_method_1_code 3 none :: ws) ({ frames := 2, cells := 0, slots := 0, locals := 24 } : Room)) (fun aG UG => aG = #[(.ref a), (.int (1 : Int32)), .null] ∧ Z.Warmed39 UG.vm ∧ UG.heap = h0) (fun _ _ _ _ _ => True) (fun _ UG oG UG' => ∃ vG LG, oG = .returned vG ∧ Q_rm_ci10 Z w_cache c_cache a u0 u1 h0 n0 vG UG'.heap LG ∧ FrameEnd UG oG UG' LG ({ frames := 2, cells := 0, slots := 0, locals := 24 } : Room).cells ({ frames := 2, cells := 0, slots := 0, locals := 24 } : Room).slots) := by
  refine MetFree.of_bodySF (plainFor_of_name pn_3) hisR ?_
  intro pG eG sG mG argsG belowG methG cG s₁ Bd hml0 hP hK
  obtain ⟨rfl, hZ, hh⟩ := hP
  have hx := Bd.exec
  have hby := Bd.bytes
  have hml : cG.maxLocals = 3 := hml0
  have hown : sG.vm.findClass "com/example/llave/llave/service/Change" = some mG.cls := findClass_of_methodNamed Bd.named
  have hnm := (name_of_methodNamed Bd.named Bd.method).1
  have X0 : Stand pG l eG ({ frames := 2, cells := 0, slots := 0, locals := 24 } : Room) sG mG #[(.ref a), (.int (1 : Int32)), .null] belowG methG cG s₁ [] 0 0 := Stand.of_body Bd
  have e0 : s₁.heap = h0 := by rw [← hh, Bd.state]; rfl
  have N0 := Fr.nil n0
  have K0 := Keep.refl h0 [a]
  obtain ⟨S_high, S_cache, B_cache⟩ := (id hS : St0 Z w_cache c_cache )
  refine ostart (g' := (mkF mG 0 #[.val (.ref a), .val (.int (1 : Int32)), .val .null] [])) (by first | (simp [entryFrame, mkF, argsToLocals, Value.category]; done) | rfl) ?_
  refine ob s₁ (mkF mG 1 #[.val (.ref a), .val (.int (1 : Int32)), .val .null] [(.ref a)]) (fun _ kk => XS.aloadN X0.here hx rfl (hb hby d2_0) rfl rfl kk) ?_
  obtain ⟨_, _, ⟨T1, L1, k1, n1⟩, -, X1, ⟨Lc1, hQ1, l1, y1, z1⟩, st1⟩ := X0.specialBack hx (y := (⟨"java/lang/Record", "<init>", "()V"⟩ : MethodName)) rfl hown (mvT hZ (ow hw 13 rfl)) (mvT hZ (ow hw 14 rfl)) (mvT hZ (ow hw 17 rfl)) (by decide) (backOf (W := 0) (rm_rec l Z a0 hw [] w_cache c_cache a h0 n0 O0 hS ) hZ (ow hw 17 rfl) (ow hw 16 rfl) (by decide) (by decide)) (g := (mkF mG 1 #[.val (.ref a), .val (.int (1 : Int32)), .val .null] [(.ref a)])) rfl (by rw [hml]; rfl) (Steps.refl _) (a := a) (argsL := []) (rest := []) (lenOf pd_0 rfl) rfl (by show 2 * 0 + _ ≤ _; exact Nat.le_of_eq rfl) (hb hby d2_1) (fun _ _ => ⟨rfl, e0, (by decide : 0 + 0 ≤ _), (by decide : 0 + 0 ≤ _)⟩)
  dsimp only [Pt.U, Pt.locs, Pt.cells, Pt.slots] at X1 l1 y1 z1 st1 hQ1
  subst l1 y1 z1
  obtain ⟨rfl, N1q, e1⟩ := hQ1
  have N1 := Fr.app N0 N1q
  refine ob T1 (mkF mG 4 #[.val (.ref a), .val (.int (1 : Int32)), .val .null] []) (fun _ kk => st1.trans kk) ?_
  refine ob T1 (mkF mG 5 #[.val (.ref a), .val (.int (1 : Int32)), .val .null] [(.ref a)]) (fun _ kk => XS.aloadN X1.here hx rfl (hb hby d2_4) rfl rfl kk) ?_
  refine ob T1 (mkF mG 6 #[.val (.ref a), .val (.int (1 : Int32)), .val .null] [(.int (1 : Int32)), (.ref a)]) (fun _ kk => XS.iloadN X1.here hx rfl (hb hby d2_5) rfl kk) ?_
  obtain ⟨T2, h2, X2, e2, W2, st2⟩ := putFN X1 hx hZ hown (ow hw 21 rfl) Via.refl e1 F_0 E_a (Or.inr ⟨(ow hw 22 rfl), rfl, hnm⟩) (ow hw 8 rfl) (ty := .boolean) (v' := (.int (1 : Int32))) (by decide) rfl rfl (g := (mkF mG 6 #[.val (.ref a), .val (.int (1 : Int32)), .val .null] [(.int (1 : Int32)), (.ref a)])) rfl rfl (hb hby d2_6)
  have F2 := F_0.same W2
  have O2 := O0.wr W2 n_a
  have K2 := K0.wr W2 (Or.inl (List.mem_of_getElem? (i := 0) rfl))
  have N2 := Fr.snoc X2 N1 n_a
  refine ob T2 (mkF mG 9 #[.val (.ref a), .val (.int (1 : Int32)), .val .null] []) (fun _ kk => st2 _ kk) ?_
  refine ob T2 (mkF mG 10 #[.val (.ref a), .val (.int (1 : Int32)), .val .null] [(.ref a)]) (fun _ kk => XS.aloadN X2.here hx rfl (hb hby d2_9) rfl rfl kk) ?_
  refine ob T2 (mkF mG 11 #[.val (.ref a), .val (.int (1 : Int32)), .val .null] [.null, (.ref a)]) (fun _ kk => XS.aloadN X2.here hx rfl (hb hby d2_10) rfl rfl kk) ?_
  obtain ⟨T3, h3, X3, e3, W3, st3⟩ := putF X2 hx hZ hown (host := "") (Or.inl (ow hw 23 rfl)) Via.refl e2 (F_1.other W2 (Or.inr (slot_ne (Or.inr (ow hw 24 rfl)) (Or.inr (ow hw 22 rfl)) (by decide) (t := (.object "java/lang/Object")) (t' := .boolean) (by decide) (by decide)))) (E_a.wr W2) (Or.inr ⟨(ow hw 24 rfl), rfl, hnm⟩) (ow hw 8 rfl) (ty := (.object "java/lang/Object")) (by decide) rfl rfl (g := (mkF mG 11 #[.val (.ref a), .val (.int (1 : Int32)), .val .null] [.null, (.ref a)])) rfl rfl (hb hby d2_11)
  have F3 := (F_1.other W2 (Or.inr (slot_ne (Or.inr (ow hw 24 rfl)) (Or.inr (ow hw 22 rfl)) (by decide) (t := (.object "java/lang/Object")) (t' := .boolean) (by decide) (by decide)))).same W3
  have O3 := O2.wr W3 n_a
  have K3 := K2.wr W3 (Or.inl (List.mem_of_getElem? (i := 0) rfl))
  have N3 := Fr.snoc X3 N2 n_a
  refine ob T3 (mkF mG 14 #[.val (.ref a), .val (.int (1 : Int32)), .val .null] []) (fun _ kk => st3 _ kk) ?_
  obtain ⟨fs, hr, hrun, hended, hW, hsame⟩ := X3.leave (v := none) (fun _ => rfl)
  refine oout (X3.returnOut hx Bd.returns (hb hby d2_14) hr) hrun hended ⟨_, _, rfl, ?_, ⟨_, rfl⟩, hW, hsame.mono (by decide) (by decide)⟩
  show Q_rm_ci10 Z w_cache c_cache a u0 u1 h0 n0 _ T3.heap _
  rw [e3]
  exact ⟨rfl, N3, K3, O3, (F2.other W3 (Or.inr (slot_ne (Or.inr (ow hw 22 rfl)) (Or.inr (ow hw 24 rfl)) (by decide) (t := .boolean) (t' := (.object "java/lang/Object")) (by decide) (by decide)))), F3⟩

theorem d5_7 : decode prog_63_method_4_code 7 = .ok (.aload_n 0, 1) := by decide +kernel
theorem d5_8 : decode prog_63_method_4_code 8 = .ok (.getfield 13, 3) := by decide +kernel
theorem d5_11 : decode prog_63_method_4_code 11 = .ok (.goto 4, 3) := by decide +kernel
def Q_rm_ap100 (Z : State) (w_cache : Addr) (c_cache : Cell) (a : Addr) (h0 : Heap) (n0 : Nat) (v : Option Value) (h : Heap) (L : List Loc) : Prop := v = some .null ∧ Fr n0 L ∧ h = h0
set_option maxRecDepth 65536 in
set_option maxHeartbeats 40000000 in
theorem rm_ap100 (l : Launch) (Z : State) (a0 : Array Value) (hw : ∀ d ∈ tables_1, d.before a0 Z = true) (ws : List Jvm.Cond) (w_cache : Addr) (c_cache : Cell) (a : Addr) (h0 : Heap) (n0 : Nat) (O0 : Old Z n0 h0) (hS : St0 Z w_cache c_cache ) (F_g : Fld Z h0 a "com/example/llave/llave/service/Change" "given" "Z" (.int (1 : Int32))) (F_v : Fld Z h0 a "com/example/llave/llave/service/Change" "value" "Ljava/lang/Object;" .null) :
    MetFree l (⟨"com/example/llave/llave/service/Change", "applyTo", "(Ljava/lang/Object;)Ljava/lang/Object;"⟩ : MethodName) (head1 (Jvm.Cond.code (⟨"com/example/llave/llave/service/Change", "applyTo", "(Ljava/lang/Object;)Ljava/lang/Object;"⟩ : MethodName) prog_63_method_4_code 2 (some (.object "java/lang/Object")) :: ws) ({ frames := 0, cells := 0, slots := 0, locals := 0 } : Room)) (fun aG UG => aG = #[(.ref a), .null] ∧ Z.Warmed39 UG.vm ∧ UG.heap = h0) (fun _ _ _ _ _ => True) (fun _ UG oG UG' => ∃ vG LG, oG = .returned vG ∧ Q_rm_ap100 Z w_cache c_cache a h0 n0 vG UG'.heap LG ∧ FrameEnd UG oG UG' LG ({ frames := 0, cells := 0, slots := 0, locals := 0 } : Room).cells ({ frames := 0, cells := 0, slots := 0, locals := 0 } : Room).slots) := by
  refine MetFree.of_bodySF (plainFor_of_name pn_3) hisR ?_
  intro pG eG sG mG argsG belowG methG cG s₁ Bd hml0 hP hK
  obtain ⟨rfl, hZ, hh⟩ := hP
  have hx := Bd.exec
  have hby := Bd.bytes
  have hml : cG.maxLocals = 2 := hml0
  have hown : sG.vm.findClass "com/example/llave/llave/service/Change" = some mG.cls := findClass_of_methodNamed Bd.named
  have hnm := (name_of_methodNamed Bd.named Bd.method).1
  have X0 : Stand pG l eG ({ frames := 0, cells := 0, slots := 0, locals := 0 } : Room) sG mG #[(.ref a), .null] belowG methG cG s₁ [] 0 0 := Stand.of_body Bd
  have e0 : s₁.heap = h0 := by rw [← hh, Bd.state]; rfl
  have N0 := Fr.nil n0
  have K0 := Keep.refl h0 []
  obtain ⟨S_high, S_cache, B_cache⟩ := (id hS : St0 Z w_cache c_cache )
  refine ostart (g' := (mkF mG 0 #[.val (.ref a), .val .null] [])) (by first | (simp [entryFrame, mkF, argsToLocals, Value.category]; done) | rfl) ?_
  refine ob s₁ (mkF mG 1 #[.val (.ref a), .val .null] [(.ref a)]) (fun _ kk => XS.aloadN X0.here hx rfl (hb hby d5_0) rfl rfl kk) ?_
  obtain ⟨T1, X1, e1, st1⟩ := getF X0 hx hZ hown (host := "") (Or.inl (ow hw 21 rfl)) Via.refl e0 F_g (g := (mkF mG 1 #[.val (.ref a), .val .null] [(.ref a)])) rfl rfl (hb hby d5_1)
  refine ob T1 (mkF mG 4 #[.val (.ref a), .val .null] [(.int (1 : Int32))]) (fun _ kk => st1 _ kk) ?_
  refine ob T1 (mkF mG 7 #[.val (.ref a), .val .null] []) (fun _ kk => XS.ifNo X1.here hx rfl (hb hby d5_4) rfl ((if0 _ _).trans (feq (by decide : ¬ ((1 : Int32) = (0 : Int32)))).1) kk) ?_
  refine ob T1 (mkF mG 8 #[.val (.ref a), .val .null] [(.ref a)]) (fun _ kk => XS.aloadN X1.here hx rfl (hb hby d5_7) rfl rfl kk) ?_
  obtain ⟨T2, X2, e2, st2⟩ := getF X1 hx hZ hown (host := "") (Or.inl (ow hw 23 rfl)) Via.refl e1 F_v (g := (mkF mG 8 #[.val (.ref a), .val .null] [(.ref a)])) rfl rfl (hb hby d5_8)
  refine ob T2 (mkF mG 11 #[.val (.ref a), .val .null] [.null]) (fun _ kk => st2 _ kk) ?_
  refine ob T2 (mkF mG 15 #[.val (.ref a), .val .null] [.null]) (fun _ kk => XS.goto X2.here hx rfl (pc0 := 11) (pc' := 15) rfl (hb hby d5_11) (by decide) (by decide) kk) ?_
  obtain ⟨fs, hr, hrun, hended, hW, hsame⟩ := X2.leave (v := some .null) (fun h => by rw [Bd.returns] at h; cases h)
  refine oout (oretA X2 hx Bd.returns rfl rfl (hb hby d5_15) hr) hrun hended ⟨_, _, rfl, ?_, ⟨_, rfl⟩, hW, hsame.mono (by decide) (by decide)⟩
  show Q_rm_ap100 Z w_cache c_cache a h0 n0 _ T2.heap _
  rw [e2]
  exact ⟨rfl, N0, rfl⟩

def Q_rm_ap101 (Z : State) (w_cache : Addr) (c_cache : Cell) (a : Addr) (c : Addr) (h0 : Heap) (n0 : Nat) (v : Option Value) (h : Heap) (L : List Loc) : Prop := v = some .null ∧ Fr n0 L ∧ h = h0
set_option maxRecDepth 65536 in
set_option maxHeartbeats 40000000 in
theorem rm_ap101 (l : Launch) (Z : State) (a0 : Array Value) (hw : ∀ d ∈ tables_1, d.before a0 Z = true) (ws : List Jvm.Cond) (w_cache : Addr) (c_cache : Cell) (a : Addr) (c : Addr) (h0 : Heap) (n0 : Nat) (O0 : Old Z n0 h0) (hS : St0 Z w_cache c_cache ) (F_g : Fld Z h0 a "com/example/llave/llave/service/Change" "given" "Z" (.int (1 : Int32))) (F_v : Fld Z h0 a "com/example/llave/llave/service/Change" "value" "Ljava/lang/Object;" .null) :
    MetFree l (⟨"com/example/llave/llave/service/Change", "applyTo", "(Ljava/lang/Object;)Ljava/lang/Object;"⟩ : MethodName) (head1 (Jvm.Cond.code (⟨"com/example/llave/llave/service/Change", "applyTo", "(Ljava/lang/Object;)Ljava/lang/Object;"⟩ : MethodName) prog_63_method_4_code 2 (some (.object "java/lang/Object")) :: ws) ({ frames := 0, cells := 0, slots := 0, locals := 0 } : Room)) (fun aG UG => aG = #[(.ref a), (.ref c)] ∧ Z.Warmed39 UG.vm ∧ UG.heap = h0) (fun _ _ _ _ _ => True) (fun _ UG oG UG' => ∃ vG LG, oG = .returned vG ∧ Q_rm_ap101 Z w_cache c_cache a c h0 n0 vG UG'.heap LG ∧ FrameEnd UG oG UG' LG ({ frames := 0, cells := 0, slots := 0, locals := 0 } : Room).cells ({ frames := 0, cells := 0, slots := 0, locals := 0 } : Room).slots) := by
  refine MetFree.of_bodySF (plainFor_of_name pn_3) hisR ?_
  intro pG eG sG mG argsG belowG methG cG s₁ Bd hml0 hP hK
  obtain ⟨rfl, hZ, hh⟩ := hP
  have hx := Bd.exec
  have hby := Bd.bytes
  have hml : cG.maxLocals = 2 := hml0
  have hown : sG.vm.findClass "com/example/llave/llave/service/Change" = some mG.cls := findClass_of_methodNamed Bd.named
  have hnm := (name_of_methodNamed Bd.named Bd.method).1
  have X0 : Stand pG l eG ({ frames := 0, cells := 0, slots := 0, locals := 0 } : Room) sG mG #[(.ref a), (.ref c)] belowG methG cG s₁ [] 0 0 := Stand.of_body Bd
  have e0 : s₁.heap = h0 := by rw [← hh, Bd.state]; rfl
  have N0 := Fr.nil n0
  have K0 := Keep.refl h0 []
  obtain ⟨S_high, S_cache, B_cache⟩ := (id hS : St0 Z w_cache c_cache )
  refine ostart (g' := (mkF mG 0 #[.val (.ref a), .val (.ref c)] [])) (by first | (simp [entryFrame, mkF, argsToLocals, Value.category]; done) | rfl) ?_
  refine ob s₁ (mkF mG 1 #[.val (.ref a), .val (.ref c)] [(.ref a)]) (fun _ kk => XS.aloadN X0.here hx rfl (hb hby d5_0) rfl rfl kk) ?_
  obtain ⟨T1, X1, e1, st1⟩ := getF X0 hx hZ hown (host := "") (Or.inl (ow hw 21 rfl)) Via.refl e0 F_g (g := (mkF mG 1 #[.val (.ref a), .val (.ref c)] [(.ref a)])) rfl rfl (hb hby d5_1)
  refine ob T1 (mkF mG 4 #[.val (.ref a), .val (.ref c)] [(.int (1 : Int32))]) (fun _ kk => st1 _ kk) ?_
  refine ob T1 (mkF mG 7 #[.val (.ref a), .val (.ref c)] []) (fun _ kk => XS.ifNo X1.here hx rfl (hb hby d5_4) rfl ((if0 _ _).trans (feq (by decide : ¬ ((1 : Int32) = (0 : Int32)))).1) kk) ?_
  refine ob T1 (mkF mG 8 #[.val (.ref a), .val (.ref c)] [(.ref a)]) (fun _ kk => XS.aloadN X1.here hx rfl (hb hby d5_7) rfl rfl kk) ?_
  obtain ⟨T2, X2, e2, st2⟩ := getF X1 hx hZ hown (host := "") (Or.inl (ow hw 23 rfl)) Via.refl e1 F_v (g := (mkF mG 8 #[.val (.ref a), .val (.ref c)] [(.ref a)])) rfl rfl (hb hby d5_8)
  refine ob T2 (mkF mG 11 #[.val (.ref a), .val (.ref c)] [.null]) (fun _ kk => st2 _ kk) ?_
  refine ob T2 (mkF mG 15 #[.val (.ref a), .val (.ref c)] [.null]) (fun _ kk => XS.goto X2.here hx rfl (pc0 := 11) (pc' := 15) rfl (hb hby d5_11) (by decide) (by decide) kk) ?_
  obtain ⟨fs, hr, hrun, hended, hW, hsame⟩ := X2.leave (v := some .null) (fun h => by rw [Bd.returns] at h; cases h)
  refine oout (oretA X2 hx Bd.returns rfl rfl (hb hby d5_15) hr) hrun hended ⟨_, _, rfl, ?_, ⟨_, rfl⟩, hW, hsame.mono (by decide) (by decide)⟩
  show Q_rm_ap101 Z w_cache c_cache a c h0 n0 _ T2.heap _
  rw [e2]
  exact ⟨rfl, N0, rfl⟩

def Q_rm_ci11 (Z : State) (w_cache : Addr) (c_cache : Cell) (a : Addr) (o : Addr) (u0 : Value) (u1 : Value) (h0 : Heap) (n0 : Nat) (v : Option Value) (h : Heap) (L : List Loc) : Prop := v = none ∧ Fr n0 L ∧ Keep h0 h [a] ∧ Old Z n0 h ∧ Fld Z h a "com/example/llave/llave/service/Change" "given" "Z" (.int (1 : Int32)) ∧ Fld Z h a "com/example/llave/llave/service/Change" "value" "Ljava/lang/Object;" (.ref o)
set_option maxRecDepth 65536 in
set_option maxHeartbeats 40000000 in
theorem rm_ci11 (l : Launch) (Z : State) (a0 : Array Value) (hw : ∀ d ∈ tables_1, d.before a0 Z = true) (ws : List Jvm.Cond) (w_cache : Addr) (c_cache : Cell) (a : Addr) (o : Addr) (u0 : Value) (u1 : Value) (h0 : Heap) (n0 : Nat) (O0 : Old Z n0 h0) (hS : St0 Z w_cache c_cache ) (E_a : Exa Z h0 a "com/example/llave/llave/service/Change") (F_0 : Fld Z h0 a "com/example/llave/llave/service/Change" "given" "Z" u0) (F_1 : Fld Z h0 a "com/example/llave/llave/service/Change" "value" "Ljava/lang/Object;" u1) (n_a : n0 ≤ a) :
    MetFree l (⟨"com/example/llave/llave/service/Change", "<init>", "(ZLjava/lang/Object;)V"⟩ : MethodName) (head1 (Jvm.Cond.code (⟨"com/example/llave/llave/service/Change", "<init>", "(ZLjava/lang/Object;)V"⟩ : MethodName) prog_63_method_1_code 3 none :: ws) ({ frames := 2, cells := 0, slots := 0, locals := 24 } : Room)) (fun aG UG => aG = #[(.ref a), (.int (1 : Int32)), (.ref o)] ∧ Z.Warmed39 UG.vm ∧ UG.heap = h0) (fun _ _ _ _ _ => True) (fun _ UG oG UG' => ∃ vG LG, oG = .returned vG ∧ Q_rm_ci11 Z w_cache c_cache a o u0 u1 h0 n0 vG UG'.heap LG ∧ FrameEnd UG oG UG' LG ({ frames := 2, cells := 0, slots := 0, locals := 24 } : Room).cells ({ frames := 2, cells := 0, slots := 0, locals := 24 } : Room).slots) := by
  refine MetFree.of_bodySF (plainFor_of_name pn_3) hisR ?_
  intro pG eG sG mG argsG belowG methG cG s₁ Bd hml0 hP hK
  obtain ⟨rfl, hZ, hh⟩ := hP
  have hx := Bd.exec
  have hby := Bd.bytes
  have hml : cG.maxLocals = 3 := hml0
  have hown : sG.vm.findClass "com/example/llave/llave/service/Change" = some mG.cls := findClass_of_methodNamed Bd.named
  have hnm := (name_of_methodNamed Bd.named Bd.method).1
  have X0 : Stand pG l eG ({ frames := 2, cells := 0, slots := 0, locals := 24 } : Room) sG mG #[(.ref a), (.int (1 : Int32)), (.ref o)] belowG methG cG s₁ [] 0 0 := Stand.of_body Bd
  have e0 : s₁.heap = h0 := by rw [← hh, Bd.state]; rfl
  have N0 := Fr.nil n0
  have K0 := Keep.refl h0 [a]
  obtain ⟨S_high, S_cache, B_cache⟩ := (id hS : St0 Z w_cache c_cache )
  refine ostart (g' := (mkF mG 0 #[.val (.ref a), .val (.int (1 : Int32)), .val (.ref o)] [])) (by first | (simp [entryFrame, mkF, argsToLocals, Value.category]; done) | rfl) ?_
  refine ob s₁ (mkF mG 1 #[.val (.ref a), .val (.int (1 : Int32)), .val (.ref o)] [(.ref a)]) (fun _ kk => XS.aloadN X0.here hx rfl (hb hby d2_0) rfl rfl kk) ?_
  obtain ⟨_, _, ⟨T1, L1, k1, n1⟩, -, X1, ⟨Lc1, hQ1, l1, y1, z1⟩, st1⟩ := X0.specialBack hx (y := (⟨"java/lang/Record", "<init>", "()V"⟩ : MethodName)) rfl hown (mvT hZ (ow hw 13 rfl)) (mvT hZ (ow hw 14 rfl)) (mvT hZ (ow hw 17 rfl)) (by decide) (backOf (W := 0) (rm_rec l Z a0 hw [] w_cache c_cache a h0 n0 O0 hS ) hZ (ow hw 17 rfl) (ow hw 16 rfl) (by decide) (by decide)) (g := (mkF mG 1 #[.val (.ref a), .val (.int (1 : Int32)), .val (.ref o)] [(.ref a)])) rfl (by rw [hml]; rfl) (Steps.refl _) (a := a) (argsL := []) (rest := []) (lenOf pd_0 rfl) rfl (by show 2 * 0 + _ ≤ _; exact Nat.le_of_eq rfl) (hb hby d2_1) (fun _ _ => ⟨rfl, e0, (by decide : 0 + 0 ≤ _), (by decide : 0 + 0 ≤ _)⟩)
  dsimp only [Pt.U, Pt.locs, Pt.cells, Pt.slots] at X1 l1 y1 z1 st1 hQ1
  subst l1 y1 z1
  obtain ⟨rfl, N1q, e1⟩ := hQ1
  have N1 := Fr.app N0 N1q
  refine ob T1 (mkF mG 4 #[.val (.ref a), .val (.int (1 : Int32)), .val (.ref o)] []) (fun _ kk => st1.trans kk) ?_
  refine ob T1 (mkF mG 5 #[.val (.ref a), .val (.int (1 : Int32)), .val (.ref o)] [(.ref a)]) (fun _ kk => XS.aloadN X1.here hx rfl (hb hby d2_4) rfl rfl kk) ?_
  refine ob T1 (mkF mG 6 #[.val (.ref a), .val (.int (1 : Int32)), .val (.ref o)] [(.int (1 : Int32)), (.ref a)]) (fun _ kk => XS.iloadN X1.here hx rfl (hb hby d2_5) rfl kk) ?_
  obtain ⟨T2, h2, X2, e2, W2, st2⟩ := putFN X1 hx hZ hown (ow hw 21 rfl) Via.refl e1 F_0 E_a (Or.inr ⟨(ow hw 22 rfl), rfl, hnm⟩) (ow hw 8 rfl) (ty := .boolean) (v' := (.int (1 : Int32))) (by decide) rfl rfl (g := (mkF mG 6 #[.val (.ref a), .val (.int (1 : Int32)), .val (.ref o)] [(.int (1 : Int32)), (.ref a)])) rfl rfl (hb hby d2_6)
  have F2 := F_0.same W2
  have O2 := O0.wr W2 n_a
  have K2 := K0.wr W2 (Or.inl (List.mem_of_getElem? (i := 0) rfl))
  have N2 := Fr.snoc X2 N1 n_a
  refine ob T2 (mkF mG 9 #[.val (.ref a), .val (.int (1 : Int32)), .val (.ref o)] []) (fun _ kk => st2 _ kk) ?_
  refine ob T2 (mkF mG 10 #[.val (.ref a), .val (.int (1 : Int32)), .val (.ref o)] [(.ref a)]) (fun _ kk => XS.aloadN X2.here hx rfl (hb hby d2_9) rfl rfl kk) ?_
  refine ob T2 (mkF mG 11 #[.val (.ref a), .val (.int (1 : Int32)), .val (.ref o)] [(.ref o), (.ref a)]) (fun _ kk => XS.aloadN X2.here hx rfl (hb hby d2_10) rfl rfl kk) ?_
  obtain ⟨T3, h3, X3, e3, W3, st3⟩ := putF X2 hx hZ hown (host := "") (Or.inl (ow hw 23 rfl)) Via.refl e2 (F_1.other W2 (Or.inr (slot_ne (Or.inr (ow hw 24 rfl)) (Or.inr (ow hw 22 rfl)) (by decide) (t := (.object "java/lang/Object")) (t' := .boolean) (by decide) (by decide)))) (E_a.wr W2) (Or.inr ⟨(ow hw 24 rfl), rfl, hnm⟩) (ow hw 8 rfl) (ty := (.object "java/lang/Object")) (by decide) rfl rfl (g := (mkF mG 11 #[.val (.ref a), .val (.int (1 : Int32)), .val (.ref o)] [(.ref o), (.ref a)])) rfl rfl (hb hby d2_11)
  have F3 := (F_1.other W2 (Or.inr (slot_ne (Or.inr (ow hw 24 rfl)) (Or.inr (ow hw 22 rfl)) (by decide) (t := (.object "java/lang/Object")) (t' := .boolean) (by decide) (by decide)))).same W3
  have O3 := O2.wr W3 n_a
  have K3 := K2.wr W3 (Or.inl (List.mem_of_getElem? (i := 0) rfl))
  have N3 := Fr.snoc X3 N2 n_a
  refine ob T3 (mkF mG 14 #[.val (.ref a), .val (.int (1 : Int32)), .val (.ref o)] []) (fun _ kk => st3 _ kk) ?_
  obtain ⟨fs, hr, hrun, hended, hW, hsame⟩ := X3.leave (v := none) (fun _ => rfl)
  refine oout (X3.returnOut hx Bd.returns (hb hby d2_14) hr) hrun hended ⟨_, _, rfl, ?_, ⟨_, rfl⟩, hW, hsame.mono (by decide) (by decide)⟩
  show Q_rm_ci11 Z w_cache c_cache a o u0 u1 h0 n0 _ T3.heap _
  rw [e3]
  exact ⟨rfl, N3, K3, O3, (F2.other W3 (Or.inr (slot_ne (Or.inr (ow hw 22 rfl)) (Or.inr (ow hw 24 rfl)) (by decide) (t := .boolean) (t' := (.object "java/lang/Object")) (by decide) (by decide)))), F3⟩

def Q_rm_ap110 (Z : State) (w_cache : Addr) (c_cache : Cell) (a : Addr) (o : Addr) (h0 : Heap) (n0 : Nat) (v : Option Value) (h : Heap) (L : List Loc) : Prop := v = some (.ref o) ∧ Fr n0 L ∧ h = h0
set_option maxRecDepth 65536 in
set_option maxHeartbeats 40000000 in
theorem rm_ap110 (l : Launch) (Z : State) (a0 : Array Value) (hw : ∀ d ∈ tables_1, d.before a0 Z = true) (ws : List Jvm.Cond) (w_cache : Addr) (c_cache : Cell) (a : Addr) (o : Addr) (h0 : Heap) (n0 : Nat) (O0 : Old Z n0 h0) (hS : St0 Z w_cache c_cache ) (F_g : Fld Z h0 a "com/example/llave/llave/service/Change" "given" "Z" (.int (1 : Int32))) (F_v : Fld Z h0 a "com/example/llave/llave/service/Change" "value" "Ljava/lang/Object;" (.ref o)) :
    MetFree l (⟨"com/example/llave/llave/service/Change", "applyTo", "(Ljava/lang/Object;)Ljava/lang/Object;"⟩ : MethodName) (head1 (Jvm.Cond.code (⟨"com/example/llave/llave/service/Change", "applyTo", "(Ljava/lang/Object;)Ljava/lang/Object;"⟩ : MethodName) prog_63_method_4_code 2 (some (.object "java/lang/Object")) :: ws) ({ frames := 0, cells := 0, slots := 0, locals := 0 } : Room)) (fun aG UG => aG = #[(.ref a), .null] ∧ Z.Warmed39 UG.vm ∧ UG.heap = h0) (fun _ _ _ _ _ => True) (fun _ UG oG UG' => ∃ vG LG, oG = .returned vG ∧ Q_rm_ap110 Z w_cache c_cache a o h0 n0 vG UG'.heap LG ∧ FrameEnd UG oG UG' LG ({ frames := 0, cells := 0, slots := 0, locals := 0 } : Room).cells ({ frames := 0, cells := 0, slots := 0, locals := 0 } : Room).slots) := by
  refine MetFree.of_bodySF (plainFor_of_name pn_3) hisR ?_
  intro pG eG sG mG argsG belowG methG cG s₁ Bd hml0 hP hK
  obtain ⟨rfl, hZ, hh⟩ := hP
  have hx := Bd.exec
  have hby := Bd.bytes
  have hml : cG.maxLocals = 2 := hml0
  have hown : sG.vm.findClass "com/example/llave/llave/service/Change" = some mG.cls := findClass_of_methodNamed Bd.named
  have hnm := (name_of_methodNamed Bd.named Bd.method).1
  have X0 : Stand pG l eG ({ frames := 0, cells := 0, slots := 0, locals := 0 } : Room) sG mG #[(.ref a), .null] belowG methG cG s₁ [] 0 0 := Stand.of_body Bd
  have e0 : s₁.heap = h0 := by rw [← hh, Bd.state]; rfl
  have N0 := Fr.nil n0
  have K0 := Keep.refl h0 []
  obtain ⟨S_high, S_cache, B_cache⟩ := (id hS : St0 Z w_cache c_cache )
  refine ostart (g' := (mkF mG 0 #[.val (.ref a), .val .null] [])) (by first | (simp [entryFrame, mkF, argsToLocals, Value.category]; done) | rfl) ?_
  refine ob s₁ (mkF mG 1 #[.val (.ref a), .val .null] [(.ref a)]) (fun _ kk => XS.aloadN X0.here hx rfl (hb hby d5_0) rfl rfl kk) ?_
  obtain ⟨T1, X1, e1, st1⟩ := getF X0 hx hZ hown (host := "") (Or.inl (ow hw 21 rfl)) Via.refl e0 F_g (g := (mkF mG 1 #[.val (.ref a), .val .null] [(.ref a)])) rfl rfl (hb hby d5_1)
  refine ob T1 (mkF mG 4 #[.val (.ref a), .val .null] [(.int (1 : Int32))]) (fun _ kk => st1 _ kk) ?_
  refine ob T1 (mkF mG 7 #[.val (.ref a), .val .null] []) (fun _ kk => XS.ifNo X1.here hx rfl (hb hby d5_4) rfl ((if0 _ _).trans (feq (by decide : ¬ ((1 : Int32) = (0 : Int32)))).1) kk) ?_
  refine ob T1 (mkF mG 8 #[.val (.ref a), .val .null] [(.ref a)]) (fun _ kk => XS.aloadN X1.here hx rfl (hb hby d5_7) rfl rfl kk) ?_
  obtain ⟨T2, X2, e2, st2⟩ := getF X1 hx hZ hown (host := "") (Or.inl (ow hw 23 rfl)) Via.refl e1 F_v (g := (mkF mG 8 #[.val (.ref a), .val .null] [(.ref a)])) rfl rfl (hb hby d5_8)
  refine ob T2 (mkF mG 11 #[.val (.ref a), .val .null] [(.ref o)]) (fun _ kk => st2 _ kk) ?_
  refine ob T2 (mkF mG 15 #[.val (.ref a), .val .null] [(.ref o)]) (fun _ kk => XS.goto X2.here hx rfl (pc0 := 11) (pc' := 15) rfl (hb hby d5_11) (by decide) (by decide) kk) ?_
  obtain ⟨fs, hr, hrun, hended, hW, hsame⟩ := X2.leave (v := some (.ref o)) (fun h => by rw [Bd.returns] at h; cases h)
  refine oout (oretA X2 hx Bd.returns rfl rfl (hb hby d5_15) hr) hrun hended ⟨_, _, rfl, ?_, ⟨_, rfl⟩, hW, hsame.mono (by decide) (by decide)⟩
  show Q_rm_ap110 Z w_cache c_cache a o h0 n0 _ T2.heap _
  rw [e2]
  exact ⟨rfl, N0, rfl⟩

def Q_rm_ap111 (Z : State) (w_cache : Addr) (c_cache : Cell) (a : Addr) (o : Addr) (c : Addr) (h0 : Heap) (n0 : Nat) (v : Option Value) (h : Heap) (L : List Loc) : Prop := v = some (.ref o) ∧ Fr n0 L ∧ h = h0
set_option maxRecDepth 65536 in
set_option maxHeartbeats 40000000 in
theorem rm_ap111 (l : Launch) (Z : State) (a0 : Array Value) (hw : ∀ d ∈ tables_1, d.before a0 Z = true) (ws : List Jvm.Cond) (w_cache : Addr) (c_cache : Cell) (a : Addr) (o : Addr) (c : Addr) (h0 : Heap) (n0 : Nat) (O0 : Old Z n0 h0) (hS : St0 Z w_cache c_cache ) (F_g : Fld Z h0 a "com/example/llave/llave/service/Change" "given" "Z" (.int (1 : Int32))) (F_v : Fld Z h0 a "com/example/llave/llave/service/Change" "value" "Ljava/lang/Object;" (.ref o)) :
    MetFree l (⟨"com/example/llave/llave/service/Change", "applyTo", "(Ljava/lang/Object;)Ljava/lang/Object;"⟩ : MethodName) (head1 (Jvm.Cond.code (⟨"com/example/llave/llave/service/Change", "applyTo", "(Ljava/lang/Object;)Ljava/lang/Object;"⟩ : MethodName) prog_63_method_4_code 2 (some (.object "java/lang/Object")) :: ws) ({ frames := 0, cells := 0, slots := 0, locals := 0 } : Room)) (fun aG UG => aG = #[(.ref a), (.ref c)] ∧ Z.Warmed39 UG.vm ∧ UG.heap = h0) (fun _ _ _ _ _ => True) (fun _ UG oG UG' => ∃ vG LG, oG = .returned vG ∧ Q_rm_ap111 Z w_cache c_cache a o c h0 n0 vG UG'.heap LG ∧ FrameEnd UG oG UG' LG ({ frames := 0, cells := 0, slots := 0, locals := 0 } : Room).cells ({ frames := 0, cells := 0, slots := 0, locals := 0 } : Room).slots) := by
  refine MetFree.of_bodySF (plainFor_of_name pn_3) hisR ?_
  intro pG eG sG mG argsG belowG methG cG s₁ Bd hml0 hP hK
  obtain ⟨rfl, hZ, hh⟩ := hP
  have hx := Bd.exec
  have hby := Bd.bytes
  have hml : cG.maxLocals = 2 := hml0
  have hown : sG.vm.findClass "com/example/llave/llave/service/Change" = some mG.cls := findClass_of_methodNamed Bd.named
  have hnm := (name_of_methodNamed Bd.named Bd.method).1
  have X0 : Stand pG l eG ({ frames := 0, cells := 0, slots := 0, locals := 0 } : Room) sG mG #[(.ref a), (.ref c)] belowG methG cG s₁ [] 0 0 := Stand.of_body Bd
  have e0 : s₁.heap = h0 := by rw [← hh, Bd.state]; rfl
  have N0 := Fr.nil n0
  have K0 := Keep.refl h0 []
  obtain ⟨S_high, S_cache, B_cache⟩ := (id hS : St0 Z w_cache c_cache )
  refine ostart (g' := (mkF mG 0 #[.val (.ref a), .val (.ref c)] [])) (by first | (simp [entryFrame, mkF, argsToLocals, Value.category]; done) | rfl) ?_
  refine ob s₁ (mkF mG 1 #[.val (.ref a), .val (.ref c)] [(.ref a)]) (fun _ kk => XS.aloadN X0.here hx rfl (hb hby d5_0) rfl rfl kk) ?_
  obtain ⟨T1, X1, e1, st1⟩ := getF X0 hx hZ hown (host := "") (Or.inl (ow hw 21 rfl)) Via.refl e0 F_g (g := (mkF mG 1 #[.val (.ref a), .val (.ref c)] [(.ref a)])) rfl rfl (hb hby d5_1)
  refine ob T1 (mkF mG 4 #[.val (.ref a), .val (.ref c)] [(.int (1 : Int32))]) (fun _ kk => st1 _ kk) ?_
  refine ob T1 (mkF mG 7 #[.val (.ref a), .val (.ref c)] []) (fun _ kk => XS.ifNo X1.here hx rfl (hb hby d5_4) rfl ((if0 _ _).trans (feq (by decide : ¬ ((1 : Int32) = (0 : Int32)))).1) kk) ?_
  refine ob T1 (mkF mG 8 #[.val (.ref a), .val (.ref c)] [(.ref a)]) (fun _ kk => XS.aloadN X1.here hx rfl (hb hby d5_7) rfl rfl kk) ?_
  obtain ⟨T2, X2, e2, st2⟩ := getF X1 hx hZ hown (host := "") (Or.inl (ow hw 23 rfl)) Via.refl e1 F_v (g := (mkF mG 8 #[.val (.ref a), .val (.ref c)] [(.ref a)])) rfl rfl (hb hby d5_8)
  refine ob T2 (mkF mG 11 #[.val (.ref a), .val (.ref c)] [(.ref o)]) (fun _ kk => st2 _ kk) ?_
  refine ob T2 (mkF mG 15 #[.val (.ref a), .val (.ref c)] [(.ref o)]) (fun _ kk => XS.goto X2.here hx rfl (pc0 := 11) (pc' := 15) rfl (hb hby d5_11) (by decide) (by decide) kk) ?_
  obtain ⟨fs, hr, hrun, hended, hW, hsame⟩ := X2.leave (v := some (.ref o)) (fun h => by rw [Bd.returns] at h; cases h)
  refine oout (oretA X2 hx Bd.returns rfl rfl (hb hby d5_15) hr) hrun hended ⟨_, _, rfl, ?_, ⟨_, rfl⟩, hW, hsame.mono (by decide) (by decide)⟩
  show Q_rm_ap111 Z w_cache c_cache a o c h0 n0 _ T2.heap _
  rw [e2]
  exact ⟨rfl, N0, rfl⟩

theorem pd_2 : parseMethodDescriptor "(I)Ljava/lang/Integer;" = some ⟨[.int], some (.object "java/lang/Integer")⟩ := by decide +kernel
theorem pd_3 : parseMethodDescriptor "(ZLjava/lang/Object;)V" = some ⟨[.boolean, (.object "java/lang/Object")], none⟩ := by decide +kernel
theorem pd_4 : parseMethodDescriptor "(Ljava/lang/Object;)Ljava/lang/Object;" = some ⟨[(.object "java/lang/Object")], some (.object "java/lang/Object")⟩ := by decide +kernel
def Q_rm0 (Z : State) (w_cache : Addr) (c_cache : Cell) (i0 : Int32) (i1 : Int32) (i2 : Int32) (i3 : Int32) (h0 : Heap) (n0 : Nat) (v : Option Value) (h : Heap) (L : List Loc) : Prop := v = some (.int (1 : Int32)) ∧ Fr n0 L
set_option maxRecDepth 65536 in
set_option maxHeartbeats 40000000 in
theorem rm0 (l : Launch) (Z : State) (a0 : Array Value) (hw : ∀ d ∈ tables_1, d.before a0 Z = true) (ws : List Jvm.Cond) (w_cache : Addr) (c_cache : Cell) (i0 : Int32) (i1 : Int32) (i2 : Int32) (i3 : Int32) (h0 : Heap) (n0 : Nat) (O0 : Old Z n0 h0) (hS : St0 Z w_cache c_cache ) :
    MetFree l x (head1 (Jvm.Cond.code x code maxLocals ret :: ws) room_1) (fun aG UG => aG = #[(.int i0), (.int i1), (.int i2), (.int i3)] ∧ Z.Warmed39 UG.vm ∧ UG.heap = h0) (fun _ _ _ _ _ => True) (fun _ UG oG UG' => ∃ vG LG, oG = .returned vG ∧ Q_rm0 Z w_cache c_cache i0 i1 i2 i3 h0 n0 vG UG'.heap LG ∧ FrameEnd UG oG UG' LG 16 128) := by
  refine MetFree.of_bodySF (plainFor_of_name pn_4) hisR ?_
  intro pG eG sG mG argsG belowG methG cG s₁ Bd hml0 hP hK
  obtain ⟨rfl, hZ, hh⟩ := hP
  have hx := Bd.exec
  have hby := Bd.bytes
  have hml : cG.maxLocals = 9 := hml0
  have hown : sG.vm.findClass "com/example/llave/llave/service/ChangeApplyToPinLaw" = some mG.cls := findClass_of_methodNamed Bd.named
  have hnm := (name_of_methodNamed Bd.named Bd.method).1
  have X0 : Stand pG l eG room_1 sG mG #[(.int i0), (.int i1), (.int i2), (.int i3)] belowG methG cG s₁ [] 0 0 := Stand.of_body Bd
  have e0 : s₁.heap = h0 := by rw [← hh, Bd.state]; rfl
  have N0 := Fr.nil n0
  have K0 := Keep.refl h0 []
  obtain ⟨S_high, S_cache, B_cache⟩ := (id hS : St0 Z w_cache c_cache )
  refine ostart (g' := (mkF mG 0 #[.val (.int i0), .val (.int i1), .val (.int i2), .val (.int i3), .unset, .unset, .unset, .unset, .unset] [])) (by first | (simp [entryFrame, mkF, argsToLocals, Value.category, maxLocals]; done) | rfl) ?_
  refine ob s₁ (mkF mG 1 #[.val (.int i0), .val (.int i1), .val (.int i2), .val (.int i3), .unset, .unset, .unset, .unset, .unset] [(.int i0)]) (fun _ kk => XS.iloadN X0.here hx rfl (hb hby at_0) rfl kk) ?_
  refine ob s₁ (mkF mG 2 #[.val (.int i0), .val (.int i1), .val (.int i2), .val (.int i3), .unset, .unset, .unset, .unset, .unset] [(.int (1 : Int32)), (.int i0)]) (fun _ kk => XS.iconst X0.here hx rfl (hb hby at_1) kk) ?_
  refine ob s₁ (mkF mG 3 #[.val (.int i0), .val (.int i1), .val (.int i2), .val (.int i3), .unset, .unset, .unset, .unset, .unset] [(.int (i0 &&& (1 : Int32)))]) (fun _ kk => XS.iand X0.here hx rfl (hb hby at_2) rfl kk) ?_
  by_cases hc1 : (i0 &&& (1 : Int32)) = (0 : Int32)
  · skip
    refine ob s₁ (mkF mG 10 #[.val (.int i0), .val (.int i1), .val (.int i2), .val (.int i3), .unset, .unset, .unset, .unset, .unset] []) (fun _ kk => XS.ifYes X0.here hx rfl (pc0 := 3) (pc' := 10) rfl (hb hby at_3) rfl ((if0 _ _).trans (teq hc1).1) (by decide) (by decide) kk) ?_
    refine ob s₁ (mkF mG 11 #[.val (.int i0), .val (.int i1), .val (.int i2), .val (.int i3), .unset, .unset, .unset, .unset, .unset] [(.int (0 : Int32))]) (fun _ kk => XS.iconst X0.here hx rfl (hb hby at_10) kk) ?_
    refine ob s₁ (mkF mG 13 #[.val (.int i0), .val (.int i1), .val (.int i2), .val (.int i3), .val (.int (0 : Int32)), .unset, .unset, .unset, .unset] []) (fun _ kk => XS.istore X0.here hx rfl (hb hby at_11) rfl (l' := #[.val (.int i0), .val (.int i1), .val (.int i2), .val (.int i3), .val (.int (0 : Int32)), .unset, .unset, .unset, .unset]) rfl kk) ?_
    refine ob s₁ (mkF mG 14 #[.val (.int i0), .val (.int i1), .val (.int i2), .val (.int i3), .val (.int (0 : Int32)), .unset, .unset, .unset, .unset] [(.int i3)]) (fun _ kk => XS.iloadN X0.here hx rfl (hb hby at_13) rfl kk) ?_
    refine ob s₁ (mkF mG 15 #[.val (.int i0), .val (.int i1), .val (.int i2), .val (.int i3), .val (.int (0 : Int32)), .unset, .unset, .unset, .unset] [(.int (1 : Int32)), (.int i3)]) (fun _ kk => XS.iconst X0.here hx rfl (hb hby at_14) kk) ?_
    refine ob s₁ (mkF mG 16 #[.val (.int i0), .val (.int i1), .val (.int i2), .val (.int i3), .val (.int (0 : Int32)), .unset, .unset, .unset, .unset] [(.int (i3 &&& (1 : Int32)))]) (fun _ kk => XS.iand X0.here hx rfl (hb hby at_15) rfl kk) ?_
    by_cases hc2 : (i3 &&& (1 : Int32)) = (0 : Int32)
    · skip
      refine ob s₁ (mkF mG 23 #[.val (.int i0), .val (.int i1), .val (.int i2), .val (.int i3), .val (.int (0 : Int32)), .unset, .unset, .unset, .unset] []) (fun _ kk => XS.ifYes X0.here hx rfl (pc0 := 16) (pc' := 23) rfl (hb hby at_16) rfl ((if0 _ _).trans (teq hc2).1) (by decide) (by decide) kk) ?_
      refine ob s₁ (mkF mG 24 #[.val (.int i0), .val (.int i1), .val (.int i2), .val (.int i3), .val (.int (0 : Int32)), .unset, .unset, .unset, .unset] [(.int i1)]) (fun _ kk => XS.iloadN X0.here hx rfl (hb hby at_23) rfl kk) ?_
      obtain ⟨_, _, ⟨T3, L3, k3, n3⟩, -, X3, ⟨Lc3, hQ3, l3, y3, z3⟩, st3⟩ := Jvm.LawKit.callS X0 hx (y := (⟨"java/lang/Integer", "valueOf", "(I)Ljava/lang/Integer;"⟩ : MethodName)) hown (mvT hZ (ow hw 0 rfl)) (mvT hZ (ow hw 1 rfl)) (mvT hZ (ow hw 2 rfl)) (mvT hZ (ow hw 3 rfl)) (by decide) (backOf (W := 0) (rm_valueOf l Z a0 hw [] w_cache c_cache i1 h0 n0 O0 hS ) hZ (ow hw 3 rfl) (ow hw 2 rfl) (by decide) (by decide)) (g := (mkF mG 24 #[.val (.int i0), .val (.int i1), .val (.int i2), .val (.int i3), .val (.int (0 : Int32)), .unset, .unset, .unset, .unset] [(.int i1)])) rfl (by rw [hml]; rfl) (argsL := [(.int i1)]) (rest := []) (lenOf pd_2 rfl) rfl (by show 2 * 0 + _ ≤ _; exact Nat.le_of_eq rfl) (hb hby at_24) (fun _ _ => ⟨rfl, e0, (by decide : 0 + 1 ≤ _), (by decide : 0 + 1 ≤ _)⟩)
      dsimp only [Pt.U, Pt.locs, Pt.cells, Pt.slots] at X3 l3 y3 z3 st3 hQ3
      subst l3 y3 z3
      obtain ⟨h3, e3⟩ : ∃ h, T3.heap = h := ⟨_, rfl⟩
      rw [e3] at hQ3
      obtain ⟨r0_3, rfl, N3q, K3q, O3, F3_0⟩ := hQ3
      have N3 := Fr.app N0 N3q
      have K3 := K0.trans K3q all0
      refine ob T3 (mkF mG 27 #[.val (.int i0), .val (.int i1), .val (.int i2), .val (.int i3), .val (.int (0 : Int32)), .unset, .unset, .unset, .unset] [(.ref r0_3)]) (fun _ kk => st3 _ kk) ?_
      refine ob T3 (mkF mG 29 #[.val (.int i0), .val (.int i1), .val (.int i2), .val (.int i3), .val (.int (0 : Int32)), .val (.ref r0_3), .unset, .unset, .unset] []) (fun _ kk => XS.astore X3.here hx rfl (hb hby at_27) rfl rfl (l' := #[.val (.int i0), .val (.int i1), .val (.int i2), .val (.int i3), .val (.int (0 : Int32)), .val (.ref r0_3), .unset, .unset, .unset]) rfl kk) ?_
      refine ob T3 (mkF mG 30 #[.val (.int i0), .val (.int i1), .val (.int i2), .val (.int i3), .val (.int (0 : Int32)), .val (.ref r0_3), .unset, .unset, .unset] [(.int i3)]) (fun _ kk => XS.iloadN X3.here hx rfl (hb hby at_29) rfl kk) ?_
      refine ob T3 (mkF mG 31 #[.val (.int i0), .val (.int i1), .val (.int i2), .val (.int i3), .val (.int (0 : Int32)), .val (.ref r0_3), .unset, .unset, .unset] [(.int (2 : Int32)), (.int i3)]) (fun _ kk => XS.iconst X3.here hx rfl (hb hby at_30) kk) ?_
      refine ob T3 (mkF mG 32 #[.val (.int i0), .val (.int i1), .val (.int i2), .val (.int i3), .val (.int (0 : Int32)), .val (.ref r0_3), .unset, .unset, .unset] [(.int (i3 &&& (2 : Int32)))]) (fun _ kk => XS.iand X3.here hx rfl (hb hby at_31) rfl kk) ?_
      by_cases hc4 : (i3 &&& (2 : Int32)) = (0 : Int32)
      · skip
        refine ob T3 (mkF mG 39 #[.val (.int i0), .val (.int i1), .val (.int i2), .val (.int i3), .val (.int (0 : Int32)), .val (.ref r0_3), .unset, .unset, .unset] []) (fun _ kk => XS.ifYes X3.here hx rfl (pc0 := 32) (pc' := 39) rfl (hb hby at_32) rfl ((if0 _ _).trans (teq hc4).1) (by decide) (by decide) kk) ?_
        refine ob T3 (mkF mG 40 #[.val (.int i0), .val (.int i1), .val (.int i2), .val (.int i3), .val (.int (0 : Int32)), .val (.ref r0_3), .unset, .unset, .unset] [(.int i2)]) (fun _ kk => XS.iloadN X3.here hx rfl (hb hby at_39) rfl kk) ?_
        obtain ⟨_, _, ⟨T5, L5, k5, n5⟩, -, X5, ⟨Lc5, hQ5, l5, y5, z5⟩, st5⟩ := Jvm.LawKit.callS X3 hx (y := (⟨"java/lang/Integer", "valueOf", "(I)Ljava/lang/Integer;"⟩ : MethodName)) hown (mvT hZ (ow hw 0 rfl)) (mvT hZ (ow hw 1 rfl)) (mvT hZ (ow hw 2 rfl)) (mvT hZ (ow hw 3 rfl)) (by decide) (backOf (W := 0) (rm_valueOf l Z a0 hw [] w_cache c_cache i2 h3 n0 O3 hS ) hZ (ow hw 3 rfl) (ow hw 2 rfl) (by decide) (by decide)) (g := (mkF mG 40 #[.val (.int i0), .val (.int i1), .val (.int i2), .val (.int i3), .val (.int (0 : Int32)), .val (.ref r0_3), .unset, .unset, .unset] [(.int i2)])) rfl (by rw [hml]; rfl) (argsL := [(.int i2)]) (rest := []) (lenOf pd_2 rfl) rfl (by show 2 * 0 + _ ≤ _; exact Nat.le_of_eq rfl) (hb hby at_40) (fun _ _ => ⟨rfl, e3, (by decide : 1 + 1 ≤ _), (by decide : 1 + 1 ≤ _)⟩)
        dsimp only [Pt.U, Pt.locs, Pt.cells, Pt.slots] at X5 l5 y5 z5 st5 hQ5
        subst l5 y5 z5
        obtain ⟨h5, e5⟩ : ∃ h, T5.heap = h := ⟨_, rfl⟩
        rw [e5] at hQ5
        obtain ⟨r0_5, rfl, N5q, K5q, O5, F5_0⟩ := hQ5
        have N5 := Fr.app N3 N5q
        have K5 := K3.trans K5q all0
        refine ob T5 (mkF mG 43 #[.val (.int i0), .val (.int i1), .val (.int i2), .val (.int i3), .val (.int (0 : Int32)), .val (.ref r0_3), .unset, .unset, .unset] [(.ref r0_5)]) (fun _ kk => st5 _ kk) ?_
        refine ob T5 (mkF mG 45 #[.val (.int i0), .val (.int i1), .val (.int i2), .val (.int i3), .val (.int (0 : Int32)), .val (.ref r0_3), .val (.ref r0_5), .unset, .unset] []) (fun _ kk => XS.astore X5.here hx rfl (hb hby at_43) rfl rfl (l' := #[.val (.int i0), .val (.int i1), .val (.int i2), .val (.int i3), .val (.int (0 : Int32)), .val (.ref r0_3), .val (.ref r0_5), .unset, .unset]) rfl kk) ?_
        obtain ⟨T6, h6, X6, e6, E6, A6, D6, _x6, st6⟩ := newO X5 hx hZ hown (ow hw 7 rfl) (ow hw 8 rfl) (ow hw 9 rfl) e5 (g := (mkF mG 45 #[.val (.int i0), .val (.int i1), .val (.int i2), .val (.int i3), .val (.int (0 : Int32)), .val (.ref r0_3), .val (.ref r0_5), .unset, .unset] [])) rfl (hb hby at_45) (by decide) (by decide)
        obtain ⟨b6, g6⟩ : ∃ z, z = h5.size := ⟨_, rfl⟩
        rw [← g6] at A6 D6 st6
        have n_b6 : n0 ≤ b6 := Nat.le_trans (on0 O5) (Nat.le_of_eq g6.symm)
        have sz_b6 : h0.size ≤ b6 := Nat.le_trans K5.1 (Nat.le_of_eq g6.symm)
        have ne_r0_3_b6 : r0_3 ≠ b6 := Nat.ne_of_lt (Nat.lt_of_lt_of_le (F3_0.keep K5q).lt (Nat.le_of_eq g6.symm))
        have ne_r0_5_b6 : r0_5 ≠ b6 := Nat.ne_of_lt (Nat.lt_of_lt_of_le F5_0.lt (Nat.le_of_eq g6.symm))
        have O6 := O5.ext E6
        have K6 := K5.ext E6
        have F6_22 : Fld Z h6 b6 "com/example/llave/llave/service/Change" "given" "Z" (.int (0 : Int32)) := D6 (Or.inr (ow hw 22 rfl)) (ty := .boolean) (by decide)
        have F6_24 : Fld Z h6 b6 "com/example/llave/llave/service/Change" "value" "Ljava/lang/Object;" .null := D6 (Or.inr (ow hw 24 rfl)) (ty := (.object "java/lang/Object")) (by decide)
        refine ob T6 (mkF mG 48 #[.val (.int i0), .val (.int i1), .val (.int i2), .val (.int i3), .val (.int (0 : Int32)), .val (.ref r0_3), .val (.ref r0_5), .unset, .unset] [(.ref b6)]) (fun _ kk => st6 _ kk) ?_
        refine ob T6 (mkF mG 49 #[.val (.int i0), .val (.int i1), .val (.int i2), .val (.int i3), .val (.int (0 : Int32)), .val (.ref r0_3), .val (.ref r0_5), .unset, .unset] [(.ref b6), (.ref b6)]) (fun _ kk => XS.dup X6.here hx rfl (hb hby at_48) rfl rfl kk) ?_
        refine ob T6 (mkF mG 51 #[.val (.int i0), .val (.int i1), .val (.int i2), .val (.int i3), .val (.int (0 : Int32)), .val (.ref r0_3), .val (.ref r0_5), .unset, .unset] [(.int (0 : Int32)), (.ref b6), (.ref b6)]) (fun _ kk => XS.iload X6.here hx rfl (hb hby at_49) rfl kk) ?_
        refine ob T6 (mkF mG 53 #[.val (.int i0), .val (.int i1), .val (.int i2), .val (.int i3), .val (.int (0 : Int32)), .val (.ref r0_3), .val (.ref r0_5), .unset, .unset] [(.ref r0_3), (.int (0 : Int32)), (.ref b6), (.ref b6)]) (fun _ kk => XS.aload X6.here hx rfl (hb hby at_51) rfl rfl kk) ?_
        obtain ⟨_, _, ⟨T7, L7, k7, n7⟩, -, X7, ⟨Lc7, hQ7, l7, y7, z7⟩, st7⟩ := X6.specialBack hx (y := (⟨"com/example/llave/llave/service/Change", "<init>", "(ZLjava/lang/Object;)V"⟩ : MethodName)) rfl hown (mvT hZ (ow hw 10 rfl)) (mvT hZ (ow hw 11 rfl)) (mvT hZ (ow hw 12 rfl)) (by decide) (backOf (W := 1) (rm_ci01 l Z a0 hw [] w_cache c_cache b6 r0_3 (.int (0 : Int32)) .null h6 n0 O6 hS A6 F6_22 F6_24 n_b6) hZ (ow hw 12 rfl) (ow hw 9 rfl) (by decide) (by decide)) (g := (mkF mG 53 #[.val (.int i0), .val (.int i1), .val (.int i2), .val (.int i3), .val (.int (0 : Int32)), .val (.ref r0_3), .val (.ref r0_5), .unset, .unset] [(.ref r0_3), (.int (0 : Int32)), (.ref b6), (.ref b6)])) rfl (by rw [hml]; rfl) (Steps.refl _) (a := b6) (argsL := [(.int (0 : Int32)), (.ref r0_3)]) (rest := [(.ref b6)]) (lenOf pd_3 rfl) rfl (by show 2 * 0 + _ ≤ _; exact Nat.le_of_eq rfl) (hb hby at_53) (fun _ _ => ⟨rfl, e6, (by decide : 3 + 0 ≤ _), (by decide : 4 + 0 ≤ _)⟩)
        dsimp only [Pt.U, Pt.locs, Pt.cells, Pt.slots] at X7 l7 y7 z7 st7 hQ7
        subst l7 y7 z7
        obtain ⟨h7, e7⟩ : ∃ h, T7.heap = h := ⟨_, rfl⟩
        rw [e7] at hQ7
        obtain ⟨rfl, N7q, K7q, O7, F7_0, F7_1⟩ := hQ7
        have N7 := Fr.app N5 N7q
        have K7 := K6.trans K7q (allS (Or.inr sz_b6) all0)
        refine ob T7 (mkF mG 56 #[.val (.int i0), .val (.int i1), .val (.int i2), .val (.int i3), .val (.int (0 : Int32)), .val (.ref r0_3), .val (.ref r0_5), .unset, .unset] [(.ref b6)]) (fun _ kk => st7.trans kk) ?_
        refine ob T7 (mkF mG 58 #[.val (.int i0), .val (.int i1), .val (.int i2), .val (.int i3), .val (.int (0 : Int32)), .val (.ref r0_3), .val (.ref r0_5), .val (.ref b6), .unset] []) (fun _ kk => XS.astore X7.here hx rfl (hb hby at_56) rfl rfl (l' := #[.val (.int i0), .val (.int i1), .val (.int i2), .val (.int i3), .val (.int (0 : Int32)), .val (.ref r0_3), .val (.ref r0_5), .val (.ref b6), .unset]) rfl kk) ?_
        refine ob T7 (mkF mG 60 #[.val (.int i0), .val (.int i1), .val (.int i2), .val (.int i3), .val (.int (0 : Int32)), .val (.ref r0_3), .val (.ref r0_5), .val (.ref b6), .unset] [(.ref b6)]) (fun _ kk => XS.aload X7.here hx rfl (hb hby at_58) rfl rfl kk) ?_
        refine ob T7 (mkF mG 62 #[.val (.int i0), .val (.int i1), .val (.int i2), .val (.int i3), .val (.int (0 : Int32)), .val (.ref r0_3), .val (.ref r0_5), .val (.ref b6), .unset] [(.ref r0_5), (.ref b6)]) (fun _ kk => XS.aload X7.here hx rfl (hb hby at_60) rfl rfl kk) ?_
        obtain ⟨cq8, kq8, q8a, q8b, q8c⟩ := isOf hZ e7 (A6.keep K7q)
        obtain ⟨_, _, ⟨T8, L8, k8, n8⟩, -, X8, ⟨Lc8, hQ8, l8, y8, z8⟩, st8⟩ := X7.virtualBack hx (y := (⟨"com/example/llave/llave/service/Change", "applyTo", "(Ljava/lang/Object;)Ljava/lang/Object;"⟩ : MethodName)) (z := (⟨"com/example/llave/llave/service/Change", "applyTo", "(Ljava/lang/Object;)Ljava/lang/Object;"⟩ : MethodName)) hown (mvT hZ (ow hw 25 rfl)) (mvT hZ (ow hw 26 rfl)) (notFace_of_selects (args := #[]) (mvT hZ (ow hw 28 rfl))) (mvT hZ (ow hw 28 rfl)) (mvT hZ (ow hw 27 rfl)) (by decide) (backOf (W := 0) (rm_ap011 l Z a0 hw [] w_cache c_cache b6 r0_3 r0_5 h7 n0 O7 hS F7_0 F7_1) hZ (ow hw 29 rfl) (ow hw 9 rfl) (by decide) (by decide)) q8a q8c (g := (mkF mG 62 #[.val (.int i0), .val (.int i1), .val (.int i2), .val (.int i3), .val (.int (0 : Int32)), .val (.ref r0_3), .val (.ref r0_5), .val (.ref b6), .unset] [(.ref r0_5), (.ref b6)])) rfl (by rw [hml]; rfl) (Steps.refl _) (argsL := [(.ref r0_5)]) (rest := []) (lenOf pd_4 rfl) rfl (by show 2 * 0 + _ ≤ _; exact Nat.le_of_eq rfl) (hb hby at_62) (fun _ _ => ⟨rfl, e7, (by decide : 3 + 0 ≤ _), (by decide : 4 + 0 ≤ _)⟩)
        dsimp only [Pt.U, Pt.locs, Pt.cells, Pt.slots] at X8 l8 y8 z8 st8 hQ8
        subst l8 y8 z8
        obtain ⟨rfl, N8q, e8⟩ := hQ8
        have N8 := Fr.app N7 N8q
        refine ob T8 (mkF mG 65 #[.val (.int i0), .val (.int i1), .val (.int i2), .val (.int i3), .val (.int (0 : Int32)), .val (.ref r0_3), .val (.ref r0_5), .val (.ref b6), .unset] [(.ref r0_5)]) (fun _ kk => st8.trans kk) ?_
        obtain ⟨T9, X9, e9, st9⟩ := castY X8 hx hZ hown (ow hw 30 rfl) e8 (Ins.self ((F5_0.ext E6).keep K7q)) (g := (mkF mG 65 #[.val (.int i0), .val (.int i1), .val (.int i2), .val (.int i3), .val (.int (0 : Int32)), .val (.ref r0_3), .val (.ref r0_5), .val (.ref b6), .unset] [(.ref r0_5)])) rfl rfl (hb hby at_65)
        refine ob T9 (mkF mG 68 #[.val (.int i0), .val (.int i1), .val (.int i2), .val (.int i3), .val (.int (0 : Int32)), .val (.ref r0_3), .val (.ref r0_5), .val (.ref b6), .unset] [(.ref r0_5)]) (fun _ kk => st9 _ kk) ?_
        refine ob T9 (mkF mG 70 #[.val (.int i0), .val (.int i1), .val (.int i2), .val (.int i3), .val (.int (0 : Int32)), .val (.ref r0_3), .val (.ref r0_5), .val (.ref b6), .val (.ref r0_5)] []) (fun _ kk => XS.astore X9.here hx rfl (hb hby at_68) rfl rfl (l' := #[.val (.int i0), .val (.int i1), .val (.int i2), .val (.int i3), .val (.int (0 : Int32)), .val (.ref r0_3), .val (.ref r0_5), .val (.ref b6), .val (.ref r0_5)]) rfl kk) ?_
        refine ob T9 (mkF mG 72 #[.val (.int i0), .val (.int i1), .val (.int i2), .val (.int i3), .val (.int (0 : Int32)), .val (.ref r0_3), .val (.ref r0_5), .val (.ref b6), .val (.ref r0_5)] [(.int (0 : Int32))]) (fun _ kk => XS.iload X9.here hx rfl (hb hby at_70) rfl kk) ?_
        refine ob T9 (mkF mG 88 #[.val (.int i0), .val (.int i1), .val (.int i2), .val (.int i3), .val (.int (0 : Int32)), .val (.ref r0_3), .val (.ref r0_5), .val (.ref b6), .val (.ref r0_5)] []) (fun _ kk => XS.ifYes X9.here hx rfl (pc0 := 72) (pc' := 88) rfl (hb hby at_72) rfl ((if0 _ _).trans (teq (by decide : (0 : Int32) = (0 : Int32))).1) (by decide) (by decide) kk) ?_
        refine ob T9 (mkF mG 90 #[.val (.int i0), .val (.int i1), .val (.int i2), .val (.int i3), .val (.int (0 : Int32)), .val (.ref r0_3), .val (.ref r0_5), .val (.ref b6), .val (.ref r0_5)] [(.ref r0_5)]) (fun _ kk => XS.aload X9.here hx rfl (hb hby at_88) rfl rfl kk) ?_
        refine ob T9 (mkF mG 92 #[.val (.int i0), .val (.int i1), .val (.int i2), .val (.int i3), .val (.int (0 : Int32)), .val (.ref r0_3), .val (.ref r0_5), .val (.ref b6), .val (.ref r0_5)] [(.ref r0_5), (.ref r0_5)]) (fun _ kk => XS.aload X9.here hx rfl (hb hby at_90) rfl rfl kk) ?_
        refine ob T9 (mkF mG 95 #[.val (.int i0), .val (.int i1), .val (.int i2), .val (.int i3), .val (.int (0 : Int32)), .val (.ref r0_3), .val (.ref r0_5), .val (.ref b6), .val (.ref r0_5)] []) (fun _ kk => Jvm.RoadKit.acmp (g := (mkF mG 92 #[.val (.int i0), .val (.int i1), .val (.int i2), .val (.int i3), .val (.int (0 : Int32)), .val (.ref r0_3), .val (.ref r0_5), .val (.ref b6), .val (.ref r0_5)] [(.ref r0_5), (.ref r0_5)])) X9 hx rfl rfl rfl (pc0 := 92) (pc' := 95) (same := true) rfl (hb hby at_92) rfl (decide_eq_true rfl) (by decide) (by decide) kk) ?_
        refine ob T9 (mkF mG 96 #[.val (.int i0), .val (.int i1), .val (.int i2), .val (.int i3), .val (.int (0 : Int32)), .val (.ref r0_3), .val (.ref r0_5), .val (.ref b6), .val (.ref r0_5)] [(.int (1 : Int32))]) (fun _ kk => XS.iconst X9.here hx rfl (hb hby at_95) kk) ?_
        refine ob T9 (mkF mG 100 #[.val (.int i0), .val (.int i1), .val (.int i2), .val (.int i3), .val (.int (0 : Int32)), .val (.ref r0_3), .val (.ref r0_5), .val (.ref b6), .val (.ref r0_5)] [(.int (1 : Int32))]) (fun _ kk => XS.goto X9.here hx rfl (pc0 := 96) (pc' := 100) rfl (hb hby at_96) (by decide) (by decide) kk) ?_
        obtain ⟨fs, hr, hrun, hended, hW, hsame⟩ := X9.leave (v := some (.int (1 : Int32))) (fun h => by rw [Bd.returns] at h; cases h)
        refine oout (retN X9 hx (t := .boolean) Bd.returns (by simp) (hb hby at_100) hr) hrun hended ⟨_, _, rfl, ?_, ⟨_, rfl⟩, hW, hsame.mono (by decide) (by decide)⟩
        show Q_rm0 Z w_cache c_cache i0 i1 i2 i3 h0 n0 _ T9.heap _
        rw [e9]
        exact ⟨rfl, N8⟩
      · skip
        refine ob T3 (mkF mG 35 #[.val (.int i0), .val (.int i1), .val (.int i2), .val (.int i3), .val (.int (0 : Int32)), .val (.ref r0_3), .unset, .unset, .unset] []) (fun _ kk => XS.ifNo X3.here hx rfl (hb hby at_32) rfl ((if0 _ _).trans (feq hc4).1) kk) ?_
        refine ob T3 (mkF mG 36 #[.val (.int i0), .val (.int i1), .val (.int i2), .val (.int i3), .val (.int (0 : Int32)), .val (.ref r0_3), .unset, .unset, .unset] [.null]) (fun _ kk => XS.aconstNull X3.here hx rfl (hb hby at_35) kk) ?_
        refine ob T3 (mkF mG 43 #[.val (.int i0), .val (.int i1), .val (.int i2), .val (.int i3), .val (.int (0 : Int32)), .val (.ref r0_3), .unset, .unset, .unset] [.null]) (fun _ kk => XS.goto X3.here hx rfl (pc0 := 36) (pc' := 43) rfl (hb hby at_36) (by decide) (by decide) kk) ?_
        refine ob T3 (mkF mG 45 #[.val (.int i0), .val (.int i1), .val (.int i2), .val (.int i3), .val (.int (0 : Int32)), .val (.ref r0_3), .val .null, .unset, .unset] []) (fun _ kk => XS.astore X3.here hx rfl (hb hby at_43) rfl rfl (l' := #[.val (.int i0), .val (.int i1), .val (.int i2), .val (.int i3), .val (.int (0 : Int32)), .val (.ref r0_3), .val .null, .unset, .unset]) rfl kk) ?_
        obtain ⟨T10, h10, X10, e10, E10, A10, D10, _x10, st10⟩ := newO X3 hx hZ hown (ow hw 7 rfl) (ow hw 8 rfl) (ow hw 9 rfl) e3 (g := (mkF mG 45 #[.val (.int i0), .val (.int i1), .val (.int i2), .val (.int i3), .val (.int (0 : Int32)), .val (.ref r0_3), .val .null, .unset, .unset] [])) rfl (hb hby at_45) (by decide) (by decide)
        obtain ⟨b10, g10⟩ : ∃ z, z = h3.size := ⟨_, rfl⟩
        rw [← g10] at A10 D10 st10
        have n_b10 : n0 ≤ b10 := Nat.le_trans (on0 O3) (Nat.le_of_eq g10.symm)
        have sz_b10 : h0.size ≤ b10 := Nat.le_trans K3.1 (Nat.le_of_eq g10.symm)
        have ne_r0_3_b10 : r0_3 ≠ b10 := Nat.ne_of_lt (Nat.lt_of_lt_of_le F3_0.lt (Nat.le_of_eq g10.symm))
        have O10 := O3.ext E10
        have K10 := K3.ext E10
        have F10_22 : Fld Z h10 b10 "com/example/llave/llave/service/Change" "given" "Z" (.int (0 : Int32)) := D10 (Or.inr (ow hw 22 rfl)) (ty := .boolean) (by decide)
        have F10_24 : Fld Z h10 b10 "com/example/llave/llave/service/Change" "value" "Ljava/lang/Object;" .null := D10 (Or.inr (ow hw 24 rfl)) (ty := (.object "java/lang/Object")) (by decide)
        refine ob T10 (mkF mG 48 #[.val (.int i0), .val (.int i1), .val (.int i2), .val (.int i3), .val (.int (0 : Int32)), .val (.ref r0_3), .val .null, .unset, .unset] [(.ref b10)]) (fun _ kk => st10 _ kk) ?_
        refine ob T10 (mkF mG 49 #[.val (.int i0), .val (.int i1), .val (.int i2), .val (.int i3), .val (.int (0 : Int32)), .val (.ref r0_3), .val .null, .unset, .unset] [(.ref b10), (.ref b10)]) (fun _ kk => XS.dup X10.here hx rfl (hb hby at_48) rfl rfl kk) ?_
        refine ob T10 (mkF mG 51 #[.val (.int i0), .val (.int i1), .val (.int i2), .val (.int i3), .val (.int (0 : Int32)), .val (.ref r0_3), .val .null, .unset, .unset] [(.int (0 : Int32)), (.ref b10), (.ref b10)]) (fun _ kk => XS.iload X10.here hx rfl (hb hby at_49) rfl kk) ?_
        refine ob T10 (mkF mG 53 #[.val (.int i0), .val (.int i1), .val (.int i2), .val (.int i3), .val (.int (0 : Int32)), .val (.ref r0_3), .val .null, .unset, .unset] [(.ref r0_3), (.int (0 : Int32)), (.ref b10), (.ref b10)]) (fun _ kk => XS.aload X10.here hx rfl (hb hby at_51) rfl rfl kk) ?_
        obtain ⟨_, _, ⟨T11, L11, k11, n11⟩, -, X11, ⟨Lc11, hQ11, l11, y11, z11⟩, st11⟩ := X10.specialBack hx (y := (⟨"com/example/llave/llave/service/Change", "<init>", "(ZLjava/lang/Object;)V"⟩ : MethodName)) rfl hown (mvT hZ (ow hw 10 rfl)) (mvT hZ (ow hw 11 rfl)) (mvT hZ (ow hw 12 rfl)) (by decide) (backOf (W := 1) (rm_ci01 l Z a0 hw [] w_cache c_cache b10 r0_3 (.int (0 : Int32)) .null h10 n0 O10 hS A10 F10_22 F10_24 n_b10) hZ (ow hw 12 rfl) (ow hw 9 rfl) (by decide) (by decide)) (g := (mkF mG 53 #[.val (.int i0), .val (.int i1), .val (.int i2), .val (.int i3), .val (.int (0 : Int32)), .val (.ref r0_3), .val .null, .unset, .unset] [(.ref r0_3), (.int (0 : Int32)), (.ref b10), (.ref b10)])) rfl (by rw [hml]; rfl) (Steps.refl _) (a := b10) (argsL := [(.int (0 : Int32)), (.ref r0_3)]) (rest := [(.ref b10)]) (lenOf pd_3 rfl) rfl (by show 2 * 0 + _ ≤ _; exact Nat.le_of_eq rfl) (hb hby at_53) (fun _ _ => ⟨rfl, e10, (by decide : 2 + 0 ≤ _), (by decide : 3 + 0 ≤ _)⟩)
        dsimp only [Pt.U, Pt.locs, Pt.cells, Pt.slots] at X11 l11 y11 z11 st11 hQ11
        subst l11 y11 z11
        obtain ⟨h11, e11⟩ : ∃ h, T11.heap = h := ⟨_, rfl⟩
        rw [e11] at hQ11
        obtain ⟨rfl, N11q, K11q, O11, F11_0, F11_1⟩ := hQ11
        have N11 := Fr.app N3 N11q
        have K11 := K10.trans K11q (allS (Or.inr sz_b10) all0)
        refine ob T11 (mkF mG 56 #[.val (.int i0), .val (.int i1), .val (.int i2), .val (.int i3), .val (.int (0 : Int32)), .val (.ref r0_3), .val .null, .unset, .unset] [(.ref b10)]) (fun _ kk => st11.trans kk) ?_
        refine ob T11 (mkF mG 58 #[.val (.int i0), .val (.int i1), .val (.int i2), .val (.int i3), .val (.int (0 : Int32)), .val (.ref r0_3), .val .null, .val (.ref b10), .unset] []) (fun _ kk => XS.astore X11.here hx rfl (hb hby at_56) rfl rfl (l' := #[.val (.int i0), .val (.int i1), .val (.int i2), .val (.int i3), .val (.int (0 : Int32)), .val (.ref r0_3), .val .null, .val (.ref b10), .unset]) rfl kk) ?_
        refine ob T11 (mkF mG 60 #[.val (.int i0), .val (.int i1), .val (.int i2), .val (.int i3), .val (.int (0 : Int32)), .val (.ref r0_3), .val .null, .val (.ref b10), .unset] [(.ref b10)]) (fun _ kk => XS.aload X11.here hx rfl (hb hby at_58) rfl rfl kk) ?_
        refine ob T11 (mkF mG 62 #[.val (.int i0), .val (.int i1), .val (.int i2), .val (.int i3), .val (.int (0 : Int32)), .val (.ref r0_3), .val .null, .val (.ref b10), .unset] [.null, (.ref b10)]) (fun _ kk => XS.aload X11.here hx rfl (hb hby at_60) rfl rfl kk) ?_
        obtain ⟨cq12, kq12, q12a, q12b, q12c⟩ := isOf hZ e11 (A10.keep K11q)
        obtain ⟨_, _, ⟨T12, L12, k12, n12⟩, -, X12, ⟨Lc12, hQ12, l12, y12, z12⟩, st12⟩ := X11.virtualBack hx (y := (⟨"com/example/llave/llave/service/Change", "applyTo", "(Ljava/lang/Object;)Ljava/lang/Object;"⟩ : MethodName)) (z := (⟨"com/example/llave/llave/service/Change", "applyTo", "(Ljava/lang/Object;)Ljava/lang/Object;"⟩ : MethodName)) hown (mvT hZ (ow hw 25 rfl)) (mvT hZ (ow hw 26 rfl)) (notFace_of_selects (args := #[]) (mvT hZ (ow hw 28 rfl))) (mvT hZ (ow hw 28 rfl)) (mvT hZ (ow hw 27 rfl)) (by decide) (backOf (W := 0) (rm_ap010 l Z a0 hw [] w_cache c_cache b10 r0_3 h11 n0 O11 hS F11_0 F11_1) hZ (ow hw 29 rfl) (ow hw 9 rfl) (by decide) (by decide)) q12a q12c (g := (mkF mG 62 #[.val (.int i0), .val (.int i1), .val (.int i2), .val (.int i3), .val (.int (0 : Int32)), .val (.ref r0_3), .val .null, .val (.ref b10), .unset] [.null, (.ref b10)])) rfl (by rw [hml]; rfl) (Steps.refl _) (argsL := [.null]) (rest := []) (lenOf pd_4 rfl) rfl (by show 2 * 0 + _ ≤ _; exact Nat.le_of_eq rfl) (hb hby at_62) (fun _ _ => ⟨rfl, e11, (by decide : 2 + 0 ≤ _), (by decide : 3 + 0 ≤ _)⟩)
        dsimp only [Pt.U, Pt.locs, Pt.cells, Pt.slots] at X12 l12 y12 z12 st12 hQ12
        subst l12 y12 z12
        obtain ⟨rfl, N12q, e12⟩ := hQ12
        have N12 := Fr.app N11 N12q
        refine ob T12 (mkF mG 65 #[.val (.int i0), .val (.int i1), .val (.int i2), .val (.int i3), .val (.int (0 : Int32)), .val (.ref r0_3), .val .null, .val (.ref b10), .unset] [.null]) (fun _ kk => st12.trans kk) ?_
        refine ob T12 (mkF mG 68 #[.val (.int i0), .val (.int i1), .val (.int i2), .val (.int i3), .val (.int (0 : Int32)), .val (.ref r0_3), .val .null, .val (.ref b10), .unset] [.null]) (fun _ kk => X12.checkcastNull hx (g := (mkF mG 65 #[.val (.int i0), .val (.int i1), .val (.int i2), .val (.int i3), .val (.int (0 : Int32)), .val (.ref r0_3), .val .null, .val (.ref b10), .unset] [.null])) rfl rfl (hb hby at_65) _ kk) ?_
        refine ob T12 (mkF mG 70 #[.val (.int i0), .val (.int i1), .val (.int i2), .val (.int i3), .val (.int (0 : Int32)), .val (.ref r0_3), .val .null, .val (.ref b10), .val .null] []) (fun _ kk => XS.astore X12.here hx rfl (hb hby at_68) rfl rfl (l' := #[.val (.int i0), .val (.int i1), .val (.int i2), .val (.int i3), .val (.int (0 : Int32)), .val (.ref r0_3), .val .null, .val (.ref b10), .val .null]) rfl kk) ?_
        refine ob T12 (mkF mG 72 #[.val (.int i0), .val (.int i1), .val (.int i2), .val (.int i3), .val (.int (0 : Int32)), .val (.ref r0_3), .val .null, .val (.ref b10), .val .null] [(.int (0 : Int32))]) (fun _ kk => XS.iload X12.here hx rfl (hb hby at_70) rfl kk) ?_
        refine ob T12 (mkF mG 88 #[.val (.int i0), .val (.int i1), .val (.int i2), .val (.int i3), .val (.int (0 : Int32)), .val (.ref r0_3), .val .null, .val (.ref b10), .val .null] []) (fun _ kk => XS.ifYes X12.here hx rfl (pc0 := 72) (pc' := 88) rfl (hb hby at_72) rfl ((if0 _ _).trans (teq (by decide : (0 : Int32) = (0 : Int32))).1) (by decide) (by decide) kk) ?_
        refine ob T12 (mkF mG 90 #[.val (.int i0), .val (.int i1), .val (.int i2), .val (.int i3), .val (.int (0 : Int32)), .val (.ref r0_3), .val .null, .val (.ref b10), .val .null] [.null]) (fun _ kk => XS.aload X12.here hx rfl (hb hby at_88) rfl rfl kk) ?_
        refine ob T12 (mkF mG 92 #[.val (.int i0), .val (.int i1), .val (.int i2), .val (.int i3), .val (.int (0 : Int32)), .val (.ref r0_3), .val .null, .val (.ref b10), .val .null] [.null, .null]) (fun _ kk => XS.aload X12.here hx rfl (hb hby at_90) rfl rfl kk) ?_
        refine ob T12 (mkF mG 95 #[.val (.int i0), .val (.int i1), .val (.int i2), .val (.int i3), .val (.int (0 : Int32)), .val (.ref r0_3), .val .null, .val (.ref b10), .val .null] []) (fun _ kk => Jvm.RoadKit.acmp (g := (mkF mG 92 #[.val (.int i0), .val (.int i1), .val (.int i2), .val (.int i3), .val (.int (0 : Int32)), .val (.ref r0_3), .val .null, .val (.ref b10), .val .null] [.null, .null])) X12 hx rfl rfl rfl (pc0 := 92) (pc' := 95) (same := true) rfl (hb hby at_92) rfl (decide_eq_true rfl) (by decide) (by decide) kk) ?_
        refine ob T12 (mkF mG 96 #[.val (.int i0), .val (.int i1), .val (.int i2), .val (.int i3), .val (.int (0 : Int32)), .val (.ref r0_3), .val .null, .val (.ref b10), .val .null] [(.int (1 : Int32))]) (fun _ kk => XS.iconst X12.here hx rfl (hb hby at_95) kk) ?_
        refine ob T12 (mkF mG 100 #[.val (.int i0), .val (.int i1), .val (.int i2), .val (.int i3), .val (.int (0 : Int32)), .val (.ref r0_3), .val .null, .val (.ref b10), .val .null] [(.int (1 : Int32))]) (fun _ kk => XS.goto X12.here hx rfl (pc0 := 96) (pc' := 100) rfl (hb hby at_96) (by decide) (by decide) kk) ?_
        obtain ⟨fs, hr, hrun, hended, hW, hsame⟩ := X12.leave (v := some (.int (1 : Int32))) (fun h => by rw [Bd.returns] at h; cases h)
        refine oout (retN X12 hx (t := .boolean) Bd.returns (by simp) (hb hby at_100) hr) hrun hended ⟨_, _, rfl, ?_, ⟨_, rfl⟩, hW, hsame.mono (by decide) (by decide)⟩
        show Q_rm0 Z w_cache c_cache i0 i1 i2 i3 h0 n0 _ T12.heap _
        rw [e12]
        exact ⟨rfl, N12⟩
    · skip
      refine ob s₁ (mkF mG 19 #[.val (.int i0), .val (.int i1), .val (.int i2), .val (.int i3), .val (.int (0 : Int32)), .unset, .unset, .unset, .unset] []) (fun _ kk => XS.ifNo X0.here hx rfl (hb hby at_16) rfl ((if0 _ _).trans (feq hc2).1) kk) ?_
      refine ob s₁ (mkF mG 20 #[.val (.int i0), .val (.int i1), .val (.int i2), .val (.int i3), .val (.int (0 : Int32)), .unset, .unset, .unset, .unset] [.null]) (fun _ kk => XS.aconstNull X0.here hx rfl (hb hby at_19) kk) ?_
      refine ob s₁ (mkF mG 27 #[.val (.int i0), .val (.int i1), .val (.int i2), .val (.int i3), .val (.int (0 : Int32)), .unset, .unset, .unset, .unset] [.null]) (fun _ kk => XS.goto X0.here hx rfl (pc0 := 20) (pc' := 27) rfl (hb hby at_20) (by decide) (by decide) kk) ?_
      refine ob s₁ (mkF mG 29 #[.val (.int i0), .val (.int i1), .val (.int i2), .val (.int i3), .val (.int (0 : Int32)), .val .null, .unset, .unset, .unset] []) (fun _ kk => XS.astore X0.here hx rfl (hb hby at_27) rfl rfl (l' := #[.val (.int i0), .val (.int i1), .val (.int i2), .val (.int i3), .val (.int (0 : Int32)), .val .null, .unset, .unset, .unset]) rfl kk) ?_
      refine ob s₁ (mkF mG 30 #[.val (.int i0), .val (.int i1), .val (.int i2), .val (.int i3), .val (.int (0 : Int32)), .val .null, .unset, .unset, .unset] [(.int i3)]) (fun _ kk => XS.iloadN X0.here hx rfl (hb hby at_29) rfl kk) ?_
      refine ob s₁ (mkF mG 31 #[.val (.int i0), .val (.int i1), .val (.int i2), .val (.int i3), .val (.int (0 : Int32)), .val .null, .unset, .unset, .unset] [(.int (2 : Int32)), (.int i3)]) (fun _ kk => XS.iconst X0.here hx rfl (hb hby at_30) kk) ?_
      refine ob s₁ (mkF mG 32 #[.val (.int i0), .val (.int i1), .val (.int i2), .val (.int i3), .val (.int (0 : Int32)), .val .null, .unset, .unset, .unset] [(.int (i3 &&& (2 : Int32)))]) (fun _ kk => XS.iand X0.here hx rfl (hb hby at_31) rfl kk) ?_
      by_cases hc13 : (i3 &&& (2 : Int32)) = (0 : Int32)
      · skip
        refine ob s₁ (mkF mG 39 #[.val (.int i0), .val (.int i1), .val (.int i2), .val (.int i3), .val (.int (0 : Int32)), .val .null, .unset, .unset, .unset] []) (fun _ kk => XS.ifYes X0.here hx rfl (pc0 := 32) (pc' := 39) rfl (hb hby at_32) rfl ((if0 _ _).trans (teq hc13).1) (by decide) (by decide) kk) ?_
        refine ob s₁ (mkF mG 40 #[.val (.int i0), .val (.int i1), .val (.int i2), .val (.int i3), .val (.int (0 : Int32)), .val .null, .unset, .unset, .unset] [(.int i2)]) (fun _ kk => XS.iloadN X0.here hx rfl (hb hby at_39) rfl kk) ?_
        obtain ⟨_, _, ⟨T14, L14, k14, n14⟩, -, X14, ⟨Lc14, hQ14, l14, y14, z14⟩, st14⟩ := Jvm.LawKit.callS X0 hx (y := (⟨"java/lang/Integer", "valueOf", "(I)Ljava/lang/Integer;"⟩ : MethodName)) hown (mvT hZ (ow hw 0 rfl)) (mvT hZ (ow hw 1 rfl)) (mvT hZ (ow hw 2 rfl)) (mvT hZ (ow hw 3 rfl)) (by decide) (backOf (W := 0) (rm_valueOf l Z a0 hw [] w_cache c_cache i2 h0 n0 O0 hS ) hZ (ow hw 3 rfl) (ow hw 2 rfl) (by decide) (by decide)) (g := (mkF mG 40 #[.val (.int i0), .val (.int i1), .val (.int i2), .val (.int i3), .val (.int (0 : Int32)), .val .null, .unset, .unset, .unset] [(.int i2)])) rfl (by rw [hml]; rfl) (argsL := [(.int i2)]) (rest := []) (lenOf pd_2 rfl) rfl (by show 2 * 0 + _ ≤ _; exact Nat.le_of_eq rfl) (hb hby at_40) (fun _ _ => ⟨rfl, e0, (by decide : 0 + 1 ≤ _), (by decide : 0 + 1 ≤ _)⟩)
        dsimp only [Pt.U, Pt.locs, Pt.cells, Pt.slots] at X14 l14 y14 z14 st14 hQ14
        subst l14 y14 z14
        obtain ⟨h14, e14⟩ : ∃ h, T14.heap = h := ⟨_, rfl⟩
        rw [e14] at hQ14
        obtain ⟨r0_14, rfl, N14q, K14q, O14, F14_0⟩ := hQ14
        have N14 := Fr.app N0 N14q
        have K14 := K0.trans K14q all0
        refine ob T14 (mkF mG 43 #[.val (.int i0), .val (.int i1), .val (.int i2), .val (.int i3), .val (.int (0 : Int32)), .val .null, .unset, .unset, .unset] [(.ref r0_14)]) (fun _ kk => st14 _ kk) ?_
        refine ob T14 (mkF mG 45 #[.val (.int i0), .val (.int i1), .val (.int i2), .val (.int i3), .val (.int (0 : Int32)), .val .null, .val (.ref r0_14), .unset, .unset] []) (fun _ kk => XS.astore X14.here hx rfl (hb hby at_43) rfl rfl (l' := #[.val (.int i0), .val (.int i1), .val (.int i2), .val (.int i3), .val (.int (0 : Int32)), .val .null, .val (.ref r0_14), .unset, .unset]) rfl kk) ?_
        obtain ⟨T15, h15, X15, e15, E15, A15, D15, _x15, st15⟩ := newO X14 hx hZ hown (ow hw 7 rfl) (ow hw 8 rfl) (ow hw 9 rfl) e14 (g := (mkF mG 45 #[.val (.int i0), .val (.int i1), .val (.int i2), .val (.int i3), .val (.int (0 : Int32)), .val .null, .val (.ref r0_14), .unset, .unset] [])) rfl (hb hby at_45) (by decide) (by decide)
        obtain ⟨b15, g15⟩ : ∃ z, z = h14.size := ⟨_, rfl⟩
        rw [← g15] at A15 D15 st15
        have n_b15 : n0 ≤ b15 := Nat.le_trans (on0 O14) (Nat.le_of_eq g15.symm)
        have sz_b15 : h0.size ≤ b15 := Nat.le_trans K14.1 (Nat.le_of_eq g15.symm)
        have ne_r0_14_b15 : r0_14 ≠ b15 := Nat.ne_of_lt (Nat.lt_of_lt_of_le F14_0.lt (Nat.le_of_eq g15.symm))
        have O15 := O14.ext E15
        have K15 := K14.ext E15
        have F15_22 : Fld Z h15 b15 "com/example/llave/llave/service/Change" "given" "Z" (.int (0 : Int32)) := D15 (Or.inr (ow hw 22 rfl)) (ty := .boolean) (by decide)
        have F15_24 : Fld Z h15 b15 "com/example/llave/llave/service/Change" "value" "Ljava/lang/Object;" .null := D15 (Or.inr (ow hw 24 rfl)) (ty := (.object "java/lang/Object")) (by decide)
        refine ob T15 (mkF mG 48 #[.val (.int i0), .val (.int i1), .val (.int i2), .val (.int i3), .val (.int (0 : Int32)), .val .null, .val (.ref r0_14), .unset, .unset] [(.ref b15)]) (fun _ kk => st15 _ kk) ?_
        refine ob T15 (mkF mG 49 #[.val (.int i0), .val (.int i1), .val (.int i2), .val (.int i3), .val (.int (0 : Int32)), .val .null, .val (.ref r0_14), .unset, .unset] [(.ref b15), (.ref b15)]) (fun _ kk => XS.dup X15.here hx rfl (hb hby at_48) rfl rfl kk) ?_
        refine ob T15 (mkF mG 51 #[.val (.int i0), .val (.int i1), .val (.int i2), .val (.int i3), .val (.int (0 : Int32)), .val .null, .val (.ref r0_14), .unset, .unset] [(.int (0 : Int32)), (.ref b15), (.ref b15)]) (fun _ kk => XS.iload X15.here hx rfl (hb hby at_49) rfl kk) ?_
        refine ob T15 (mkF mG 53 #[.val (.int i0), .val (.int i1), .val (.int i2), .val (.int i3), .val (.int (0 : Int32)), .val .null, .val (.ref r0_14), .unset, .unset] [.null, (.int (0 : Int32)), (.ref b15), (.ref b15)]) (fun _ kk => XS.aload X15.here hx rfl (hb hby at_51) rfl rfl kk) ?_
        obtain ⟨_, _, ⟨T16, L16, k16, n16⟩, -, X16, ⟨Lc16, hQ16, l16, y16, z16⟩, st16⟩ := X15.specialBack hx (y := (⟨"com/example/llave/llave/service/Change", "<init>", "(ZLjava/lang/Object;)V"⟩ : MethodName)) rfl hown (mvT hZ (ow hw 10 rfl)) (mvT hZ (ow hw 11 rfl)) (mvT hZ (ow hw 12 rfl)) (by decide) (backOf (W := 1) (rm_ci00 l Z a0 hw [] w_cache c_cache b15 (.int (0 : Int32)) .null h15 n0 O15 hS A15 F15_22 F15_24 n_b15) hZ (ow hw 12 rfl) (ow hw 9 rfl) (by decide) (by decide)) (g := (mkF mG 53 #[.val (.int i0), .val (.int i1), .val (.int i2), .val (.int i3), .val (.int (0 : Int32)), .val .null, .val (.ref r0_14), .unset, .unset] [.null, (.int (0 : Int32)), (.ref b15), (.ref b15)])) rfl (by rw [hml]; rfl) (Steps.refl _) (a := b15) (argsL := [(.int (0 : Int32)), .null]) (rest := [(.ref b15)]) (lenOf pd_3 rfl) rfl (by show 2 * 0 + _ ≤ _; exact Nat.le_of_eq rfl) (hb hby at_53) (fun _ _ => ⟨rfl, e15, (by decide : 2 + 0 ≤ _), (by decide : 3 + 0 ≤ _)⟩)
        dsimp only [Pt.U, Pt.locs, Pt.cells, Pt.slots] at X16 l16 y16 z16 st16 hQ16
        subst l16 y16 z16
        obtain ⟨h16, e16⟩ : ∃ h, T16.heap = h := ⟨_, rfl⟩
        rw [e16] at hQ16
        obtain ⟨rfl, N16q, K16q, O16, F16_0, F16_1⟩ := hQ16
        have N16 := Fr.app N14 N16q
        have K16 := K15.trans K16q (allS (Or.inr sz_b15) all0)
        refine ob T16 (mkF mG 56 #[.val (.int i0), .val (.int i1), .val (.int i2), .val (.int i3), .val (.int (0 : Int32)), .val .null, .val (.ref r0_14), .unset, .unset] [(.ref b15)]) (fun _ kk => st16.trans kk) ?_
        refine ob T16 (mkF mG 58 #[.val (.int i0), .val (.int i1), .val (.int i2), .val (.int i3), .val (.int (0 : Int32)), .val .null, .val (.ref r0_14), .val (.ref b15), .unset] []) (fun _ kk => XS.astore X16.here hx rfl (hb hby at_56) rfl rfl (l' := #[.val (.int i0), .val (.int i1), .val (.int i2), .val (.int i3), .val (.int (0 : Int32)), .val .null, .val (.ref r0_14), .val (.ref b15), .unset]) rfl kk) ?_
        refine ob T16 (mkF mG 60 #[.val (.int i0), .val (.int i1), .val (.int i2), .val (.int i3), .val (.int (0 : Int32)), .val .null, .val (.ref r0_14), .val (.ref b15), .unset] [(.ref b15)]) (fun _ kk => XS.aload X16.here hx rfl (hb hby at_58) rfl rfl kk) ?_
        refine ob T16 (mkF mG 62 #[.val (.int i0), .val (.int i1), .val (.int i2), .val (.int i3), .val (.int (0 : Int32)), .val .null, .val (.ref r0_14), .val (.ref b15), .unset] [(.ref r0_14), (.ref b15)]) (fun _ kk => XS.aload X16.here hx rfl (hb hby at_60) rfl rfl kk) ?_
        obtain ⟨cq17, kq17, q17a, q17b, q17c⟩ := isOf hZ e16 (A15.keep K16q)
        obtain ⟨_, _, ⟨T17, L17, k17, n17⟩, -, X17, ⟨Lc17, hQ17, l17, y17, z17⟩, st17⟩ := X16.virtualBack hx (y := (⟨"com/example/llave/llave/service/Change", "applyTo", "(Ljava/lang/Object;)Ljava/lang/Object;"⟩ : MethodName)) (z := (⟨"com/example/llave/llave/service/Change", "applyTo", "(Ljava/lang/Object;)Ljava/lang/Object;"⟩ : MethodName)) hown (mvT hZ (ow hw 25 rfl)) (mvT hZ (ow hw 26 rfl)) (notFace_of_selects (args := #[]) (mvT hZ (ow hw 28 rfl))) (mvT hZ (ow hw 28 rfl)) (mvT hZ (ow hw 27 rfl)) (by decide) (backOf (W := 0) (rm_ap001 l Z a0 hw [] w_cache c_cache b15 r0_14 h16 n0 O16 hS F16_0 F16_1) hZ (ow hw 29 rfl) (ow hw 9 rfl) (by decide) (by decide)) q17a q17c (g := (mkF mG 62 #[.val (.int i0), .val (.int i1), .val (.int i2), .val (.int i3), .val (.int (0 : Int32)), .val .null, .val (.ref r0_14), .val (.ref b15), .unset] [(.ref r0_14), (.ref b15)])) rfl (by rw [hml]; rfl) (Steps.refl _) (argsL := [(.ref r0_14)]) (rest := []) (lenOf pd_4 rfl) rfl (by show 2 * 0 + _ ≤ _; exact Nat.le_of_eq rfl) (hb hby at_62) (fun _ _ => ⟨rfl, e16, (by decide : 2 + 0 ≤ _), (by decide : 3 + 0 ≤ _)⟩)
        dsimp only [Pt.U, Pt.locs, Pt.cells, Pt.slots] at X17 l17 y17 z17 st17 hQ17
        subst l17 y17 z17
        obtain ⟨rfl, N17q, e17⟩ := hQ17
        have N17 := Fr.app N16 N17q
        refine ob T17 (mkF mG 65 #[.val (.int i0), .val (.int i1), .val (.int i2), .val (.int i3), .val (.int (0 : Int32)), .val .null, .val (.ref r0_14), .val (.ref b15), .unset] [(.ref r0_14)]) (fun _ kk => st17.trans kk) ?_
        obtain ⟨T18, X18, e18, st18⟩ := castY X17 hx hZ hown (ow hw 30 rfl) e17 (Ins.self ((F14_0.ext E15).keep K16q)) (g := (mkF mG 65 #[.val (.int i0), .val (.int i1), .val (.int i2), .val (.int i3), .val (.int (0 : Int32)), .val .null, .val (.ref r0_14), .val (.ref b15), .unset] [(.ref r0_14)])) rfl rfl (hb hby at_65)
        refine ob T18 (mkF mG 68 #[.val (.int i0), .val (.int i1), .val (.int i2), .val (.int i3), .val (.int (0 : Int32)), .val .null, .val (.ref r0_14), .val (.ref b15), .unset] [(.ref r0_14)]) (fun _ kk => st18 _ kk) ?_
        refine ob T18 (mkF mG 70 #[.val (.int i0), .val (.int i1), .val (.int i2), .val (.int i3), .val (.int (0 : Int32)), .val .null, .val (.ref r0_14), .val (.ref b15), .val (.ref r0_14)] []) (fun _ kk => XS.astore X18.here hx rfl (hb hby at_68) rfl rfl (l' := #[.val (.int i0), .val (.int i1), .val (.int i2), .val (.int i3), .val (.int (0 : Int32)), .val .null, .val (.ref r0_14), .val (.ref b15), .val (.ref r0_14)]) rfl kk) ?_
        refine ob T18 (mkF mG 72 #[.val (.int i0), .val (.int i1), .val (.int i2), .val (.int i3), .val (.int (0 : Int32)), .val .null, .val (.ref r0_14), .val (.ref b15), .val (.ref r0_14)] [(.int (0 : Int32))]) (fun _ kk => XS.iload X18.here hx rfl (hb hby at_70) rfl kk) ?_
        refine ob T18 (mkF mG 88 #[.val (.int i0), .val (.int i1), .val (.int i2), .val (.int i3), .val (.int (0 : Int32)), .val .null, .val (.ref r0_14), .val (.ref b15), .val (.ref r0_14)] []) (fun _ kk => XS.ifYes X18.here hx rfl (pc0 := 72) (pc' := 88) rfl (hb hby at_72) rfl ((if0 _ _).trans (teq (by decide : (0 : Int32) = (0 : Int32))).1) (by decide) (by decide) kk) ?_
        refine ob T18 (mkF mG 90 #[.val (.int i0), .val (.int i1), .val (.int i2), .val (.int i3), .val (.int (0 : Int32)), .val .null, .val (.ref r0_14), .val (.ref b15), .val (.ref r0_14)] [(.ref r0_14)]) (fun _ kk => XS.aload X18.here hx rfl (hb hby at_88) rfl rfl kk) ?_
        refine ob T18 (mkF mG 92 #[.val (.int i0), .val (.int i1), .val (.int i2), .val (.int i3), .val (.int (0 : Int32)), .val .null, .val (.ref r0_14), .val (.ref b15), .val (.ref r0_14)] [(.ref r0_14), (.ref r0_14)]) (fun _ kk => XS.aload X18.here hx rfl (hb hby at_90) rfl rfl kk) ?_
        refine ob T18 (mkF mG 95 #[.val (.int i0), .val (.int i1), .val (.int i2), .val (.int i3), .val (.int (0 : Int32)), .val .null, .val (.ref r0_14), .val (.ref b15), .val (.ref r0_14)] []) (fun _ kk => Jvm.RoadKit.acmp (g := (mkF mG 92 #[.val (.int i0), .val (.int i1), .val (.int i2), .val (.int i3), .val (.int (0 : Int32)), .val .null, .val (.ref r0_14), .val (.ref b15), .val (.ref r0_14)] [(.ref r0_14), (.ref r0_14)])) X18 hx rfl rfl rfl (pc0 := 92) (pc' := 95) (same := true) rfl (hb hby at_92) rfl (decide_eq_true rfl) (by decide) (by decide) kk) ?_
        refine ob T18 (mkF mG 96 #[.val (.int i0), .val (.int i1), .val (.int i2), .val (.int i3), .val (.int (0 : Int32)), .val .null, .val (.ref r0_14), .val (.ref b15), .val (.ref r0_14)] [(.int (1 : Int32))]) (fun _ kk => XS.iconst X18.here hx rfl (hb hby at_95) kk) ?_
        refine ob T18 (mkF mG 100 #[.val (.int i0), .val (.int i1), .val (.int i2), .val (.int i3), .val (.int (0 : Int32)), .val .null, .val (.ref r0_14), .val (.ref b15), .val (.ref r0_14)] [(.int (1 : Int32))]) (fun _ kk => XS.goto X18.here hx rfl (pc0 := 96) (pc' := 100) rfl (hb hby at_96) (by decide) (by decide) kk) ?_
        obtain ⟨fs, hr, hrun, hended, hW, hsame⟩ := X18.leave (v := some (.int (1 : Int32))) (fun h => by rw [Bd.returns] at h; cases h)
        refine oout (retN X18 hx (t := .boolean) Bd.returns (by simp) (hb hby at_100) hr) hrun hended ⟨_, _, rfl, ?_, ⟨_, rfl⟩, hW, hsame.mono (by decide) (by decide)⟩
        show Q_rm0 Z w_cache c_cache i0 i1 i2 i3 h0 n0 _ T18.heap _
        rw [e18]
        exact ⟨rfl, N17⟩
      · skip
        refine ob s₁ (mkF mG 35 #[.val (.int i0), .val (.int i1), .val (.int i2), .val (.int i3), .val (.int (0 : Int32)), .val .null, .unset, .unset, .unset] []) (fun _ kk => XS.ifNo X0.here hx rfl (hb hby at_32) rfl ((if0 _ _).trans (feq hc13).1) kk) ?_
        refine ob s₁ (mkF mG 36 #[.val (.int i0), .val (.int i1), .val (.int i2), .val (.int i3), .val (.int (0 : Int32)), .val .null, .unset, .unset, .unset] [.null]) (fun _ kk => XS.aconstNull X0.here hx rfl (hb hby at_35) kk) ?_
        refine ob s₁ (mkF mG 43 #[.val (.int i0), .val (.int i1), .val (.int i2), .val (.int i3), .val (.int (0 : Int32)), .val .null, .unset, .unset, .unset] [.null]) (fun _ kk => XS.goto X0.here hx rfl (pc0 := 36) (pc' := 43) rfl (hb hby at_36) (by decide) (by decide) kk) ?_
        refine ob s₁ (mkF mG 45 #[.val (.int i0), .val (.int i1), .val (.int i2), .val (.int i3), .val (.int (0 : Int32)), .val .null, .val .null, .unset, .unset] []) (fun _ kk => XS.astore X0.here hx rfl (hb hby at_43) rfl rfl (l' := #[.val (.int i0), .val (.int i1), .val (.int i2), .val (.int i3), .val (.int (0 : Int32)), .val .null, .val .null, .unset, .unset]) rfl kk) ?_
        obtain ⟨T19, h19, X19, e19, E19, A19, D19, _x19, st19⟩ := newO X0 hx hZ hown (ow hw 7 rfl) (ow hw 8 rfl) (ow hw 9 rfl) e0 (g := (mkF mG 45 #[.val (.int i0), .val (.int i1), .val (.int i2), .val (.int i3), .val (.int (0 : Int32)), .val .null, .val .null, .unset, .unset] [])) rfl (hb hby at_45) (by decide) (by decide)
        obtain ⟨b19, g19⟩ : ∃ z, z = h0.size := ⟨_, rfl⟩
        rw [← g19] at A19 D19 st19
        have n_b19 : n0 ≤ b19 := Nat.le_trans (on0 O0) (Nat.le_of_eq g19.symm)
        have sz_b19 : h0.size ≤ b19 := Nat.le_trans K0.1 (Nat.le_of_eq g19.symm)
        have O19 := O0.ext E19
        have K19 := K0.ext E19
        have F19_22 : Fld Z h19 b19 "com/example/llave/llave/service/Change" "given" "Z" (.int (0 : Int32)) := D19 (Or.inr (ow hw 22 rfl)) (ty := .boolean) (by decide)
        have F19_24 : Fld Z h19 b19 "com/example/llave/llave/service/Change" "value" "Ljava/lang/Object;" .null := D19 (Or.inr (ow hw 24 rfl)) (ty := (.object "java/lang/Object")) (by decide)
        refine ob T19 (mkF mG 48 #[.val (.int i0), .val (.int i1), .val (.int i2), .val (.int i3), .val (.int (0 : Int32)), .val .null, .val .null, .unset, .unset] [(.ref b19)]) (fun _ kk => st19 _ kk) ?_
        refine ob T19 (mkF mG 49 #[.val (.int i0), .val (.int i1), .val (.int i2), .val (.int i3), .val (.int (0 : Int32)), .val .null, .val .null, .unset, .unset] [(.ref b19), (.ref b19)]) (fun _ kk => XS.dup X19.here hx rfl (hb hby at_48) rfl rfl kk) ?_
        refine ob T19 (mkF mG 51 #[.val (.int i0), .val (.int i1), .val (.int i2), .val (.int i3), .val (.int (0 : Int32)), .val .null, .val .null, .unset, .unset] [(.int (0 : Int32)), (.ref b19), (.ref b19)]) (fun _ kk => XS.iload X19.here hx rfl (hb hby at_49) rfl kk) ?_
        refine ob T19 (mkF mG 53 #[.val (.int i0), .val (.int i1), .val (.int i2), .val (.int i3), .val (.int (0 : Int32)), .val .null, .val .null, .unset, .unset] [.null, (.int (0 : Int32)), (.ref b19), (.ref b19)]) (fun _ kk => XS.aload X19.here hx rfl (hb hby at_51) rfl rfl kk) ?_
        obtain ⟨_, _, ⟨T20, L20, k20, n20⟩, -, X20, ⟨Lc20, hQ20, l20, y20, z20⟩, st20⟩ := X19.specialBack hx (y := (⟨"com/example/llave/llave/service/Change", "<init>", "(ZLjava/lang/Object;)V"⟩ : MethodName)) rfl hown (mvT hZ (ow hw 10 rfl)) (mvT hZ (ow hw 11 rfl)) (mvT hZ (ow hw 12 rfl)) (by decide) (backOf (W := 1) (rm_ci00 l Z a0 hw [] w_cache c_cache b19 (.int (0 : Int32)) .null h19 n0 O19 hS A19 F19_22 F19_24 n_b19) hZ (ow hw 12 rfl) (ow hw 9 rfl) (by decide) (by decide)) (g := (mkF mG 53 #[.val (.int i0), .val (.int i1), .val (.int i2), .val (.int i3), .val (.int (0 : Int32)), .val .null, .val .null, .unset, .unset] [.null, (.int (0 : Int32)), (.ref b19), (.ref b19)])) rfl (by rw [hml]; rfl) (Steps.refl _) (a := b19) (argsL := [(.int (0 : Int32)), .null]) (rest := [(.ref b19)]) (lenOf pd_3 rfl) rfl (by show 2 * 0 + _ ≤ _; exact Nat.le_of_eq rfl) (hb hby at_53) (fun _ _ => ⟨rfl, e19, (by decide : 1 + 0 ≤ _), (by decide : 2 + 0 ≤ _)⟩)
        dsimp only [Pt.U, Pt.locs, Pt.cells, Pt.slots] at X20 l20 y20 z20 st20 hQ20
        subst l20 y20 z20
        obtain ⟨h20, e20⟩ : ∃ h, T20.heap = h := ⟨_, rfl⟩
        rw [e20] at hQ20
        obtain ⟨rfl, N20q, K20q, O20, F20_0, F20_1⟩ := hQ20
        have N20 := Fr.app N0 N20q
        have K20 := K19.trans K20q (allS (Or.inr sz_b19) all0)
        refine ob T20 (mkF mG 56 #[.val (.int i0), .val (.int i1), .val (.int i2), .val (.int i3), .val (.int (0 : Int32)), .val .null, .val .null, .unset, .unset] [(.ref b19)]) (fun _ kk => st20.trans kk) ?_
        refine ob T20 (mkF mG 58 #[.val (.int i0), .val (.int i1), .val (.int i2), .val (.int i3), .val (.int (0 : Int32)), .val .null, .val .null, .val (.ref b19), .unset] []) (fun _ kk => XS.astore X20.here hx rfl (hb hby at_56) rfl rfl (l' := #[.val (.int i0), .val (.int i1), .val (.int i2), .val (.int i3), .val (.int (0 : Int32)), .val .null, .val .null, .val (.ref b19), .unset]) rfl kk) ?_
        refine ob T20 (mkF mG 60 #[.val (.int i0), .val (.int i1), .val (.int i2), .val (.int i3), .val (.int (0 : Int32)), .val .null, .val .null, .val (.ref b19), .unset] [(.ref b19)]) (fun _ kk => XS.aload X20.here hx rfl (hb hby at_58) rfl rfl kk) ?_
        refine ob T20 (mkF mG 62 #[.val (.int i0), .val (.int i1), .val (.int i2), .val (.int i3), .val (.int (0 : Int32)), .val .null, .val .null, .val (.ref b19), .unset] [.null, (.ref b19)]) (fun _ kk => XS.aload X20.here hx rfl (hb hby at_60) rfl rfl kk) ?_
        obtain ⟨cq21, kq21, q21a, q21b, q21c⟩ := isOf hZ e20 (A19.keep K20q)
        obtain ⟨_, _, ⟨T21, L21, k21, n21⟩, -, X21, ⟨Lc21, hQ21, l21, y21, z21⟩, st21⟩ := X20.virtualBack hx (y := (⟨"com/example/llave/llave/service/Change", "applyTo", "(Ljava/lang/Object;)Ljava/lang/Object;"⟩ : MethodName)) (z := (⟨"com/example/llave/llave/service/Change", "applyTo", "(Ljava/lang/Object;)Ljava/lang/Object;"⟩ : MethodName)) hown (mvT hZ (ow hw 25 rfl)) (mvT hZ (ow hw 26 rfl)) (notFace_of_selects (args := #[]) (mvT hZ (ow hw 28 rfl))) (mvT hZ (ow hw 28 rfl)) (mvT hZ (ow hw 27 rfl)) (by decide) (backOf (W := 0) (rm_ap000 l Z a0 hw [] w_cache c_cache b19 h20 n0 O20 hS F20_0 F20_1) hZ (ow hw 29 rfl) (ow hw 9 rfl) (by decide) (by decide)) q21a q21c (g := (mkF mG 62 #[.val (.int i0), .val (.int i1), .val (.int i2), .val (.int i3), .val (.int (0 : Int32)), .val .null, .val .null, .val (.ref b19), .unset] [.null, (.ref b19)])) rfl (by rw [hml]; rfl) (Steps.refl _) (argsL := [.null]) (rest := []) (lenOf pd_4 rfl) rfl (by show 2 * 0 + _ ≤ _; exact Nat.le_of_eq rfl) (hb hby at_62) (fun _ _ => ⟨rfl, e20, (by decide : 1 + 0 ≤ _), (by decide : 2 + 0 ≤ _)⟩)
        dsimp only [Pt.U, Pt.locs, Pt.cells, Pt.slots] at X21 l21 y21 z21 st21 hQ21
        subst l21 y21 z21
        obtain ⟨rfl, N21q, e21⟩ := hQ21
        have N21 := Fr.app N20 N21q
        refine ob T21 (mkF mG 65 #[.val (.int i0), .val (.int i1), .val (.int i2), .val (.int i3), .val (.int (0 : Int32)), .val .null, .val .null, .val (.ref b19), .unset] [.null]) (fun _ kk => st21.trans kk) ?_
        refine ob T21 (mkF mG 68 #[.val (.int i0), .val (.int i1), .val (.int i2), .val (.int i3), .val (.int (0 : Int32)), .val .null, .val .null, .val (.ref b19), .unset] [.null]) (fun _ kk => X21.checkcastNull hx (g := (mkF mG 65 #[.val (.int i0), .val (.int i1), .val (.int i2), .val (.int i3), .val (.int (0 : Int32)), .val .null, .val .null, .val (.ref b19), .unset] [.null])) rfl rfl (hb hby at_65) _ kk) ?_
        refine ob T21 (mkF mG 70 #[.val (.int i0), .val (.int i1), .val (.int i2), .val (.int i3), .val (.int (0 : Int32)), .val .null, .val .null, .val (.ref b19), .val .null] []) (fun _ kk => XS.astore X21.here hx rfl (hb hby at_68) rfl rfl (l' := #[.val (.int i0), .val (.int i1), .val (.int i2), .val (.int i3), .val (.int (0 : Int32)), .val .null, .val .null, .val (.ref b19), .val .null]) rfl kk) ?_
        refine ob T21 (mkF mG 72 #[.val (.int i0), .val (.int i1), .val (.int i2), .val (.int i3), .val (.int (0 : Int32)), .val .null, .val .null, .val (.ref b19), .val .null] [(.int (0 : Int32))]) (fun _ kk => XS.iload X21.here hx rfl (hb hby at_70) rfl kk) ?_
        refine ob T21 (mkF mG 88 #[.val (.int i0), .val (.int i1), .val (.int i2), .val (.int i3), .val (.int (0 : Int32)), .val .null, .val .null, .val (.ref b19), .val .null] []) (fun _ kk => XS.ifYes X21.here hx rfl (pc0 := 72) (pc' := 88) rfl (hb hby at_72) rfl ((if0 _ _).trans (teq (by decide : (0 : Int32) = (0 : Int32))).1) (by decide) (by decide) kk) ?_
        refine ob T21 (mkF mG 90 #[.val (.int i0), .val (.int i1), .val (.int i2), .val (.int i3), .val (.int (0 : Int32)), .val .null, .val .null, .val (.ref b19), .val .null] [.null]) (fun _ kk => XS.aload X21.here hx rfl (hb hby at_88) rfl rfl kk) ?_
        refine ob T21 (mkF mG 92 #[.val (.int i0), .val (.int i1), .val (.int i2), .val (.int i3), .val (.int (0 : Int32)), .val .null, .val .null, .val (.ref b19), .val .null] [.null, .null]) (fun _ kk => XS.aload X21.here hx rfl (hb hby at_90) rfl rfl kk) ?_
        refine ob T21 (mkF mG 95 #[.val (.int i0), .val (.int i1), .val (.int i2), .val (.int i3), .val (.int (0 : Int32)), .val .null, .val .null, .val (.ref b19), .val .null] []) (fun _ kk => Jvm.RoadKit.acmp (g := (mkF mG 92 #[.val (.int i0), .val (.int i1), .val (.int i2), .val (.int i3), .val (.int (0 : Int32)), .val .null, .val .null, .val (.ref b19), .val .null] [.null, .null])) X21 hx rfl rfl rfl (pc0 := 92) (pc' := 95) (same := true) rfl (hb hby at_92) rfl (decide_eq_true rfl) (by decide) (by decide) kk) ?_
        refine ob T21 (mkF mG 96 #[.val (.int i0), .val (.int i1), .val (.int i2), .val (.int i3), .val (.int (0 : Int32)), .val .null, .val .null, .val (.ref b19), .val .null] [(.int (1 : Int32))]) (fun _ kk => XS.iconst X21.here hx rfl (hb hby at_95) kk) ?_
        refine ob T21 (mkF mG 100 #[.val (.int i0), .val (.int i1), .val (.int i2), .val (.int i3), .val (.int (0 : Int32)), .val .null, .val .null, .val (.ref b19), .val .null] [(.int (1 : Int32))]) (fun _ kk => XS.goto X21.here hx rfl (pc0 := 96) (pc' := 100) rfl (hb hby at_96) (by decide) (by decide) kk) ?_
        obtain ⟨fs, hr, hrun, hended, hW, hsame⟩ := X21.leave (v := some (.int (1 : Int32))) (fun h => by rw [Bd.returns] at h; cases h)
        refine oout (retN X21 hx (t := .boolean) Bd.returns (by simp) (hb hby at_100) hr) hrun hended ⟨_, _, rfl, ?_, ⟨_, rfl⟩, hW, hsame.mono (by decide) (by decide)⟩
        show Q_rm0 Z w_cache c_cache i0 i1 i2 i3 h0 n0 _ T21.heap _
        rw [e21]
        exact ⟨rfl, N21⟩
  · skip
    refine ob s₁ (mkF mG 6 #[.val (.int i0), .val (.int i1), .val (.int i2), .val (.int i3), .unset, .unset, .unset, .unset, .unset] []) (fun _ kk => XS.ifNo X0.here hx rfl (hb hby at_3) rfl ((if0 _ _).trans (feq hc1).1) kk) ?_
    refine ob s₁ (mkF mG 7 #[.val (.int i0), .val (.int i1), .val (.int i2), .val (.int i3), .unset, .unset, .unset, .unset, .unset] [(.int (1 : Int32))]) (fun _ kk => XS.iconst X0.here hx rfl (hb hby at_6) kk) ?_
    refine ob s₁ (mkF mG 11 #[.val (.int i0), .val (.int i1), .val (.int i2), .val (.int i3), .unset, .unset, .unset, .unset, .unset] [(.int (1 : Int32))]) (fun _ kk => XS.goto X0.here hx rfl (pc0 := 7) (pc' := 11) rfl (hb hby at_7) (by decide) (by decide) kk) ?_
    refine ob s₁ (mkF mG 13 #[.val (.int i0), .val (.int i1), .val (.int i2), .val (.int i3), .val (.int (1 : Int32)), .unset, .unset, .unset, .unset] []) (fun _ kk => XS.istore X0.here hx rfl (hb hby at_11) rfl (l' := #[.val (.int i0), .val (.int i1), .val (.int i2), .val (.int i3), .val (.int (1 : Int32)), .unset, .unset, .unset, .unset]) rfl kk) ?_
    refine ob s₁ (mkF mG 14 #[.val (.int i0), .val (.int i1), .val (.int i2), .val (.int i3), .val (.int (1 : Int32)), .unset, .unset, .unset, .unset] [(.int i3)]) (fun _ kk => XS.iloadN X0.here hx rfl (hb hby at_13) rfl kk) ?_
    refine ob s₁ (mkF mG 15 #[.val (.int i0), .val (.int i1), .val (.int i2), .val (.int i3), .val (.int (1 : Int32)), .unset, .unset, .unset, .unset] [(.int (1 : Int32)), (.int i3)]) (fun _ kk => XS.iconst X0.here hx rfl (hb hby at_14) kk) ?_
    refine ob s₁ (mkF mG 16 #[.val (.int i0), .val (.int i1), .val (.int i2), .val (.int i3), .val (.int (1 : Int32)), .unset, .unset, .unset, .unset] [(.int (i3 &&& (1 : Int32)))]) (fun _ kk => XS.iand X0.here hx rfl (hb hby at_15) rfl kk) ?_
    by_cases hc22 : (i3 &&& (1 : Int32)) = (0 : Int32)
    · skip
      refine ob s₁ (mkF mG 23 #[.val (.int i0), .val (.int i1), .val (.int i2), .val (.int i3), .val (.int (1 : Int32)), .unset, .unset, .unset, .unset] []) (fun _ kk => XS.ifYes X0.here hx rfl (pc0 := 16) (pc' := 23) rfl (hb hby at_16) rfl ((if0 _ _).trans (teq hc22).1) (by decide) (by decide) kk) ?_
      refine ob s₁ (mkF mG 24 #[.val (.int i0), .val (.int i1), .val (.int i2), .val (.int i3), .val (.int (1 : Int32)), .unset, .unset, .unset, .unset] [(.int i1)]) (fun _ kk => XS.iloadN X0.here hx rfl (hb hby at_23) rfl kk) ?_
      obtain ⟨_, _, ⟨T23, L23, k23, n23⟩, -, X23, ⟨Lc23, hQ23, l23, y23, z23⟩, st23⟩ := Jvm.LawKit.callS X0 hx (y := (⟨"java/lang/Integer", "valueOf", "(I)Ljava/lang/Integer;"⟩ : MethodName)) hown (mvT hZ (ow hw 0 rfl)) (mvT hZ (ow hw 1 rfl)) (mvT hZ (ow hw 2 rfl)) (mvT hZ (ow hw 3 rfl)) (by decide) (backOf (W := 0) (rm_valueOf l Z a0 hw [] w_cache c_cache i1 h0 n0 O0 hS ) hZ (ow hw 3 rfl) (ow hw 2 rfl) (by decide) (by decide)) (g := (mkF mG 24 #[.val (.int i0), .val (.int i1), .val (.int i2), .val (.int i3), .val (.int (1 : Int32)), .unset, .unset, .unset, .unset] [(.int i1)])) rfl (by rw [hml]; rfl) (argsL := [(.int i1)]) (rest := []) (lenOf pd_2 rfl) rfl (by show 2 * 0 + _ ≤ _; exact Nat.le_of_eq rfl) (hb hby at_24) (fun _ _ => ⟨rfl, e0, (by decide : 0 + 1 ≤ _), (by decide : 0 + 1 ≤ _)⟩)
      dsimp only [Pt.U, Pt.locs, Pt.cells, Pt.slots] at X23 l23 y23 z23 st23 hQ23
      subst l23 y23 z23
      obtain ⟨h23, e23⟩ : ∃ h, T23.heap = h := ⟨_, rfl⟩
      rw [e23] at hQ23
      obtain ⟨r0_23, rfl, N23q, K23q, O23, F23_0⟩ := hQ23
      have N23 := Fr.app N0 N23q
      have K23 := K0.trans K23q all0
      refine ob T23 (mkF mG 27 #[.val (.int i0), .val (.int i1), .val (.int i2), .val (.int i3), .val (.int (1 : Int32)), .unset, .unset, .unset, .unset] [(.ref r0_23)]) (fun _ kk => st23 _ kk) ?_
      refine ob T23 (mkF mG 29 #[.val (.int i0), .val (.int i1), .val (.int i2), .val (.int i3), .val (.int (1 : Int32)), .val (.ref r0_23), .unset, .unset, .unset] []) (fun _ kk => XS.astore X23.here hx rfl (hb hby at_27) rfl rfl (l' := #[.val (.int i0), .val (.int i1), .val (.int i2), .val (.int i3), .val (.int (1 : Int32)), .val (.ref r0_23), .unset, .unset, .unset]) rfl kk) ?_
      refine ob T23 (mkF mG 30 #[.val (.int i0), .val (.int i1), .val (.int i2), .val (.int i3), .val (.int (1 : Int32)), .val (.ref r0_23), .unset, .unset, .unset] [(.int i3)]) (fun _ kk => XS.iloadN X23.here hx rfl (hb hby at_29) rfl kk) ?_
      refine ob T23 (mkF mG 31 #[.val (.int i0), .val (.int i1), .val (.int i2), .val (.int i3), .val (.int (1 : Int32)), .val (.ref r0_23), .unset, .unset, .unset] [(.int (2 : Int32)), (.int i3)]) (fun _ kk => XS.iconst X23.here hx rfl (hb hby at_30) kk) ?_
      refine ob T23 (mkF mG 32 #[.val (.int i0), .val (.int i1), .val (.int i2), .val (.int i3), .val (.int (1 : Int32)), .val (.ref r0_23), .unset, .unset, .unset] [(.int (i3 &&& (2 : Int32)))]) (fun _ kk => XS.iand X23.here hx rfl (hb hby at_31) rfl kk) ?_
      by_cases hc24 : (i3 &&& (2 : Int32)) = (0 : Int32)
      · skip
        refine ob T23 (mkF mG 39 #[.val (.int i0), .val (.int i1), .val (.int i2), .val (.int i3), .val (.int (1 : Int32)), .val (.ref r0_23), .unset, .unset, .unset] []) (fun _ kk => XS.ifYes X23.here hx rfl (pc0 := 32) (pc' := 39) rfl (hb hby at_32) rfl ((if0 _ _).trans (teq hc24).1) (by decide) (by decide) kk) ?_
        refine ob T23 (mkF mG 40 #[.val (.int i0), .val (.int i1), .val (.int i2), .val (.int i3), .val (.int (1 : Int32)), .val (.ref r0_23), .unset, .unset, .unset] [(.int i2)]) (fun _ kk => XS.iloadN X23.here hx rfl (hb hby at_39) rfl kk) ?_
        obtain ⟨_, _, ⟨T25, L25, k25, n25⟩, -, X25, ⟨Lc25, hQ25, l25, y25, z25⟩, st25⟩ := Jvm.LawKit.callS X23 hx (y := (⟨"java/lang/Integer", "valueOf", "(I)Ljava/lang/Integer;"⟩ : MethodName)) hown (mvT hZ (ow hw 0 rfl)) (mvT hZ (ow hw 1 rfl)) (mvT hZ (ow hw 2 rfl)) (mvT hZ (ow hw 3 rfl)) (by decide) (backOf (W := 0) (rm_valueOf l Z a0 hw [] w_cache c_cache i2 h23 n0 O23 hS ) hZ (ow hw 3 rfl) (ow hw 2 rfl) (by decide) (by decide)) (g := (mkF mG 40 #[.val (.int i0), .val (.int i1), .val (.int i2), .val (.int i3), .val (.int (1 : Int32)), .val (.ref r0_23), .unset, .unset, .unset] [(.int i2)])) rfl (by rw [hml]; rfl) (argsL := [(.int i2)]) (rest := []) (lenOf pd_2 rfl) rfl (by show 2 * 0 + _ ≤ _; exact Nat.le_of_eq rfl) (hb hby at_40) (fun _ _ => ⟨rfl, e23, (by decide : 1 + 1 ≤ _), (by decide : 1 + 1 ≤ _)⟩)
        dsimp only [Pt.U, Pt.locs, Pt.cells, Pt.slots] at X25 l25 y25 z25 st25 hQ25
        subst l25 y25 z25
        obtain ⟨h25, e25⟩ : ∃ h, T25.heap = h := ⟨_, rfl⟩
        rw [e25] at hQ25
        obtain ⟨r0_25, rfl, N25q, K25q, O25, F25_0⟩ := hQ25
        have N25 := Fr.app N23 N25q
        have K25 := K23.trans K25q all0
        refine ob T25 (mkF mG 43 #[.val (.int i0), .val (.int i1), .val (.int i2), .val (.int i3), .val (.int (1 : Int32)), .val (.ref r0_23), .unset, .unset, .unset] [(.ref r0_25)]) (fun _ kk => st25 _ kk) ?_
        refine ob T25 (mkF mG 45 #[.val (.int i0), .val (.int i1), .val (.int i2), .val (.int i3), .val (.int (1 : Int32)), .val (.ref r0_23), .val (.ref r0_25), .unset, .unset] []) (fun _ kk => XS.astore X25.here hx rfl (hb hby at_43) rfl rfl (l' := #[.val (.int i0), .val (.int i1), .val (.int i2), .val (.int i3), .val (.int (1 : Int32)), .val (.ref r0_23), .val (.ref r0_25), .unset, .unset]) rfl kk) ?_
        obtain ⟨T26, h26, X26, e26, E26, A26, D26, _x26, st26⟩ := newO X25 hx hZ hown (ow hw 7 rfl) (ow hw 8 rfl) (ow hw 9 rfl) e25 (g := (mkF mG 45 #[.val (.int i0), .val (.int i1), .val (.int i2), .val (.int i3), .val (.int (1 : Int32)), .val (.ref r0_23), .val (.ref r0_25), .unset, .unset] [])) rfl (hb hby at_45) (by decide) (by decide)
        obtain ⟨b26, g26⟩ : ∃ z, z = h25.size := ⟨_, rfl⟩
        rw [← g26] at A26 D26 st26
        have n_b26 : n0 ≤ b26 := Nat.le_trans (on0 O25) (Nat.le_of_eq g26.symm)
        have sz_b26 : h0.size ≤ b26 := Nat.le_trans K25.1 (Nat.le_of_eq g26.symm)
        have ne_r0_23_b26 : r0_23 ≠ b26 := Nat.ne_of_lt (Nat.lt_of_lt_of_le (F23_0.keep K25q).lt (Nat.le_of_eq g26.symm))
        have ne_r0_25_b26 : r0_25 ≠ b26 := Nat.ne_of_lt (Nat.lt_of_lt_of_le F25_0.lt (Nat.le_of_eq g26.symm))
        have O26 := O25.ext E26
        have K26 := K25.ext E26
        have F26_22 : Fld Z h26 b26 "com/example/llave/llave/service/Change" "given" "Z" (.int (0 : Int32)) := D26 (Or.inr (ow hw 22 rfl)) (ty := .boolean) (by decide)
        have F26_24 : Fld Z h26 b26 "com/example/llave/llave/service/Change" "value" "Ljava/lang/Object;" .null := D26 (Or.inr (ow hw 24 rfl)) (ty := (.object "java/lang/Object")) (by decide)
        refine ob T26 (mkF mG 48 #[.val (.int i0), .val (.int i1), .val (.int i2), .val (.int i3), .val (.int (1 : Int32)), .val (.ref r0_23), .val (.ref r0_25), .unset, .unset] [(.ref b26)]) (fun _ kk => st26 _ kk) ?_
        refine ob T26 (mkF mG 49 #[.val (.int i0), .val (.int i1), .val (.int i2), .val (.int i3), .val (.int (1 : Int32)), .val (.ref r0_23), .val (.ref r0_25), .unset, .unset] [(.ref b26), (.ref b26)]) (fun _ kk => XS.dup X26.here hx rfl (hb hby at_48) rfl rfl kk) ?_
        refine ob T26 (mkF mG 51 #[.val (.int i0), .val (.int i1), .val (.int i2), .val (.int i3), .val (.int (1 : Int32)), .val (.ref r0_23), .val (.ref r0_25), .unset, .unset] [(.int (1 : Int32)), (.ref b26), (.ref b26)]) (fun _ kk => XS.iload X26.here hx rfl (hb hby at_49) rfl kk) ?_
        refine ob T26 (mkF mG 53 #[.val (.int i0), .val (.int i1), .val (.int i2), .val (.int i3), .val (.int (1 : Int32)), .val (.ref r0_23), .val (.ref r0_25), .unset, .unset] [(.ref r0_23), (.int (1 : Int32)), (.ref b26), (.ref b26)]) (fun _ kk => XS.aload X26.here hx rfl (hb hby at_51) rfl rfl kk) ?_
        obtain ⟨_, _, ⟨T27, L27, k27, n27⟩, -, X27, ⟨Lc27, hQ27, l27, y27, z27⟩, st27⟩ := X26.specialBack hx (y := (⟨"com/example/llave/llave/service/Change", "<init>", "(ZLjava/lang/Object;)V"⟩ : MethodName)) rfl hown (mvT hZ (ow hw 10 rfl)) (mvT hZ (ow hw 11 rfl)) (mvT hZ (ow hw 12 rfl)) (by decide) (backOf (W := 1) (rm_ci11 l Z a0 hw [] w_cache c_cache b26 r0_23 (.int (0 : Int32)) .null h26 n0 O26 hS A26 F26_22 F26_24 n_b26) hZ (ow hw 12 rfl) (ow hw 9 rfl) (by decide) (by decide)) (g := (mkF mG 53 #[.val (.int i0), .val (.int i1), .val (.int i2), .val (.int i3), .val (.int (1 : Int32)), .val (.ref r0_23), .val (.ref r0_25), .unset, .unset] [(.ref r0_23), (.int (1 : Int32)), (.ref b26), (.ref b26)])) rfl (by rw [hml]; rfl) (Steps.refl _) (a := b26) (argsL := [(.int (1 : Int32)), (.ref r0_23)]) (rest := [(.ref b26)]) (lenOf pd_3 rfl) rfl (by show 2 * 0 + _ ≤ _; exact Nat.le_of_eq rfl) (hb hby at_53) (fun _ _ => ⟨rfl, e26, (by decide : 3 + 0 ≤ _), (by decide : 4 + 0 ≤ _)⟩)
        dsimp only [Pt.U, Pt.locs, Pt.cells, Pt.slots] at X27 l27 y27 z27 st27 hQ27
        subst l27 y27 z27
        obtain ⟨h27, e27⟩ : ∃ h, T27.heap = h := ⟨_, rfl⟩
        rw [e27] at hQ27
        obtain ⟨rfl, N27q, K27q, O27, F27_0, F27_1⟩ := hQ27
        have N27 := Fr.app N25 N27q
        have K27 := K26.trans K27q (allS (Or.inr sz_b26) all0)
        refine ob T27 (mkF mG 56 #[.val (.int i0), .val (.int i1), .val (.int i2), .val (.int i3), .val (.int (1 : Int32)), .val (.ref r0_23), .val (.ref r0_25), .unset, .unset] [(.ref b26)]) (fun _ kk => st27.trans kk) ?_
        refine ob T27 (mkF mG 58 #[.val (.int i0), .val (.int i1), .val (.int i2), .val (.int i3), .val (.int (1 : Int32)), .val (.ref r0_23), .val (.ref r0_25), .val (.ref b26), .unset] []) (fun _ kk => XS.astore X27.here hx rfl (hb hby at_56) rfl rfl (l' := #[.val (.int i0), .val (.int i1), .val (.int i2), .val (.int i3), .val (.int (1 : Int32)), .val (.ref r0_23), .val (.ref r0_25), .val (.ref b26), .unset]) rfl kk) ?_
        refine ob T27 (mkF mG 60 #[.val (.int i0), .val (.int i1), .val (.int i2), .val (.int i3), .val (.int (1 : Int32)), .val (.ref r0_23), .val (.ref r0_25), .val (.ref b26), .unset] [(.ref b26)]) (fun _ kk => XS.aload X27.here hx rfl (hb hby at_58) rfl rfl kk) ?_
        refine ob T27 (mkF mG 62 #[.val (.int i0), .val (.int i1), .val (.int i2), .val (.int i3), .val (.int (1 : Int32)), .val (.ref r0_23), .val (.ref r0_25), .val (.ref b26), .unset] [(.ref r0_25), (.ref b26)]) (fun _ kk => XS.aload X27.here hx rfl (hb hby at_60) rfl rfl kk) ?_
        obtain ⟨cq28, kq28, q28a, q28b, q28c⟩ := isOf hZ e27 (A26.keep K27q)
        obtain ⟨_, _, ⟨T28, L28, k28, n28⟩, -, X28, ⟨Lc28, hQ28, l28, y28, z28⟩, st28⟩ := X27.virtualBack hx (y := (⟨"com/example/llave/llave/service/Change", "applyTo", "(Ljava/lang/Object;)Ljava/lang/Object;"⟩ : MethodName)) (z := (⟨"com/example/llave/llave/service/Change", "applyTo", "(Ljava/lang/Object;)Ljava/lang/Object;"⟩ : MethodName)) hown (mvT hZ (ow hw 25 rfl)) (mvT hZ (ow hw 26 rfl)) (notFace_of_selects (args := #[]) (mvT hZ (ow hw 28 rfl))) (mvT hZ (ow hw 28 rfl)) (mvT hZ (ow hw 27 rfl)) (by decide) (backOf (W := 0) (rm_ap111 l Z a0 hw [] w_cache c_cache b26 r0_23 r0_25 h27 n0 O27 hS F27_0 F27_1) hZ (ow hw 29 rfl) (ow hw 9 rfl) (by decide) (by decide)) q28a q28c (g := (mkF mG 62 #[.val (.int i0), .val (.int i1), .val (.int i2), .val (.int i3), .val (.int (1 : Int32)), .val (.ref r0_23), .val (.ref r0_25), .val (.ref b26), .unset] [(.ref r0_25), (.ref b26)])) rfl (by rw [hml]; rfl) (Steps.refl _) (argsL := [(.ref r0_25)]) (rest := []) (lenOf pd_4 rfl) rfl (by show 2 * 0 + _ ≤ _; exact Nat.le_of_eq rfl) (hb hby at_62) (fun _ _ => ⟨rfl, e27, (by decide : 3 + 0 ≤ _), (by decide : 4 + 0 ≤ _)⟩)
        dsimp only [Pt.U, Pt.locs, Pt.cells, Pt.slots] at X28 l28 y28 z28 st28 hQ28
        subst l28 y28 z28
        obtain ⟨rfl, N28q, e28⟩ := hQ28
        have N28 := Fr.app N27 N28q
        refine ob T28 (mkF mG 65 #[.val (.int i0), .val (.int i1), .val (.int i2), .val (.int i3), .val (.int (1 : Int32)), .val (.ref r0_23), .val (.ref r0_25), .val (.ref b26), .unset] [(.ref r0_23)]) (fun _ kk => st28.trans kk) ?_
        obtain ⟨T29, X29, e29, st29⟩ := castY X28 hx hZ hown (ow hw 30 rfl) e28 (Ins.self (((F23_0.keep K25q).ext E26).keep K27q)) (g := (mkF mG 65 #[.val (.int i0), .val (.int i1), .val (.int i2), .val (.int i3), .val (.int (1 : Int32)), .val (.ref r0_23), .val (.ref r0_25), .val (.ref b26), .unset] [(.ref r0_23)])) rfl rfl (hb hby at_65)
        refine ob T29 (mkF mG 68 #[.val (.int i0), .val (.int i1), .val (.int i2), .val (.int i3), .val (.int (1 : Int32)), .val (.ref r0_23), .val (.ref r0_25), .val (.ref b26), .unset] [(.ref r0_23)]) (fun _ kk => st29 _ kk) ?_
        refine ob T29 (mkF mG 70 #[.val (.int i0), .val (.int i1), .val (.int i2), .val (.int i3), .val (.int (1 : Int32)), .val (.ref r0_23), .val (.ref r0_25), .val (.ref b26), .val (.ref r0_23)] []) (fun _ kk => XS.astore X29.here hx rfl (hb hby at_68) rfl rfl (l' := #[.val (.int i0), .val (.int i1), .val (.int i2), .val (.int i3), .val (.int (1 : Int32)), .val (.ref r0_23), .val (.ref r0_25), .val (.ref b26), .val (.ref r0_23)]) rfl kk) ?_
        refine ob T29 (mkF mG 72 #[.val (.int i0), .val (.int i1), .val (.int i2), .val (.int i3), .val (.int (1 : Int32)), .val (.ref r0_23), .val (.ref r0_25), .val (.ref b26), .val (.ref r0_23)] [(.int (1 : Int32))]) (fun _ kk => XS.iload X29.here hx rfl (hb hby at_70) rfl kk) ?_
        refine ob T29 (mkF mG 75 #[.val (.int i0), .val (.int i1), .val (.int i2), .val (.int i3), .val (.int (1 : Int32)), .val (.ref r0_23), .val (.ref r0_25), .val (.ref b26), .val (.ref r0_23)] []) (fun _ kk => XS.ifNo X29.here hx rfl (hb hby at_72) rfl ((if0 _ _).trans (feq (by decide : ¬ ((1 : Int32) = (0 : Int32)))).1) kk) ?_
        refine ob T29 (mkF mG 77 #[.val (.int i0), .val (.int i1), .val (.int i2), .val (.int i3), .val (.int (1 : Int32)), .val (.ref r0_23), .val (.ref r0_25), .val (.ref b26), .val (.ref r0_23)] [(.ref r0_23)]) (fun _ kk => XS.aload X29.here hx rfl (hb hby at_75) rfl rfl kk) ?_
        refine ob T29 (mkF mG 79 #[.val (.int i0), .val (.int i1), .val (.int i2), .val (.int i3), .val (.int (1 : Int32)), .val (.ref r0_23), .val (.ref r0_25), .val (.ref b26), .val (.ref r0_23)] [(.ref r0_23), (.ref r0_23)]) (fun _ kk => XS.aload X29.here hx rfl (hb hby at_77) rfl rfl kk) ?_
        refine ob T29 (mkF mG 82 #[.val (.int i0), .val (.int i1), .val (.int i2), .val (.int i3), .val (.int (1 : Int32)), .val (.ref r0_23), .val (.ref r0_25), .val (.ref b26), .val (.ref r0_23)] []) (fun _ kk => Jvm.RoadKit.acmp (g := (mkF mG 79 #[.val (.int i0), .val (.int i1), .val (.int i2), .val (.int i3), .val (.int (1 : Int32)), .val (.ref r0_23), .val (.ref r0_25), .val (.ref b26), .val (.ref r0_23)] [(.ref r0_23), (.ref r0_23)])) X29 hx rfl rfl rfl (pc0 := 79) (pc' := 82) (same := true) rfl (hb hby at_79) rfl (decide_eq_true rfl) (by decide) (by decide) kk) ?_
        refine ob T29 (mkF mG 83 #[.val (.int i0), .val (.int i1), .val (.int i2), .val (.int i3), .val (.int (1 : Int32)), .val (.ref r0_23), .val (.ref r0_25), .val (.ref b26), .val (.ref r0_23)] [(.int (1 : Int32))]) (fun _ kk => XS.iconst X29.here hx rfl (hb hby at_82) kk) ?_
        refine ob T29 (mkF mG 87 #[.val (.int i0), .val (.int i1), .val (.int i2), .val (.int i3), .val (.int (1 : Int32)), .val (.ref r0_23), .val (.ref r0_25), .val (.ref b26), .val (.ref r0_23)] [(.int (1 : Int32))]) (fun _ kk => XS.goto X29.here hx rfl (pc0 := 83) (pc' := 87) rfl (hb hby at_83) (by decide) (by decide) kk) ?_
        obtain ⟨fs, hr, hrun, hended, hW, hsame⟩ := X29.leave (v := some (.int (1 : Int32))) (fun h => by rw [Bd.returns] at h; cases h)
        refine oout (retN X29 hx (t := .boolean) Bd.returns (by simp) (hb hby at_87) hr) hrun hended ⟨_, _, rfl, ?_, ⟨_, rfl⟩, hW, hsame.mono (by decide) (by decide)⟩
        show Q_rm0 Z w_cache c_cache i0 i1 i2 i3 h0 n0 _ T29.heap _
        rw [e29]
        exact ⟨rfl, N28⟩
      · skip
        refine ob T23 (mkF mG 35 #[.val (.int i0), .val (.int i1), .val (.int i2), .val (.int i3), .val (.int (1 : Int32)), .val (.ref r0_23), .unset, .unset, .unset] []) (fun _ kk => XS.ifNo X23.here hx rfl (hb hby at_32) rfl ((if0 _ _).trans (feq hc24).1) kk) ?_
        refine ob T23 (mkF mG 36 #[.val (.int i0), .val (.int i1), .val (.int i2), .val (.int i3), .val (.int (1 : Int32)), .val (.ref r0_23), .unset, .unset, .unset] [.null]) (fun _ kk => XS.aconstNull X23.here hx rfl (hb hby at_35) kk) ?_
        refine ob T23 (mkF mG 43 #[.val (.int i0), .val (.int i1), .val (.int i2), .val (.int i3), .val (.int (1 : Int32)), .val (.ref r0_23), .unset, .unset, .unset] [.null]) (fun _ kk => XS.goto X23.here hx rfl (pc0 := 36) (pc' := 43) rfl (hb hby at_36) (by decide) (by decide) kk) ?_
        refine ob T23 (mkF mG 45 #[.val (.int i0), .val (.int i1), .val (.int i2), .val (.int i3), .val (.int (1 : Int32)), .val (.ref r0_23), .val .null, .unset, .unset] []) (fun _ kk => XS.astore X23.here hx rfl (hb hby at_43) rfl rfl (l' := #[.val (.int i0), .val (.int i1), .val (.int i2), .val (.int i3), .val (.int (1 : Int32)), .val (.ref r0_23), .val .null, .unset, .unset]) rfl kk) ?_
        obtain ⟨T30, h30, X30, e30, E30, A30, D30, _x30, st30⟩ := newO X23 hx hZ hown (ow hw 7 rfl) (ow hw 8 rfl) (ow hw 9 rfl) e23 (g := (mkF mG 45 #[.val (.int i0), .val (.int i1), .val (.int i2), .val (.int i3), .val (.int (1 : Int32)), .val (.ref r0_23), .val .null, .unset, .unset] [])) rfl (hb hby at_45) (by decide) (by decide)
        obtain ⟨b30, g30⟩ : ∃ z, z = h23.size := ⟨_, rfl⟩
        rw [← g30] at A30 D30 st30
        have n_b30 : n0 ≤ b30 := Nat.le_trans (on0 O23) (Nat.le_of_eq g30.symm)
        have sz_b30 : h0.size ≤ b30 := Nat.le_trans K23.1 (Nat.le_of_eq g30.symm)
        have ne_r0_23_b30 : r0_23 ≠ b30 := Nat.ne_of_lt (Nat.lt_of_lt_of_le F23_0.lt (Nat.le_of_eq g30.symm))
        have O30 := O23.ext E30
        have K30 := K23.ext E30
        have F30_22 : Fld Z h30 b30 "com/example/llave/llave/service/Change" "given" "Z" (.int (0 : Int32)) := D30 (Or.inr (ow hw 22 rfl)) (ty := .boolean) (by decide)
        have F30_24 : Fld Z h30 b30 "com/example/llave/llave/service/Change" "value" "Ljava/lang/Object;" .null := D30 (Or.inr (ow hw 24 rfl)) (ty := (.object "java/lang/Object")) (by decide)
        refine ob T30 (mkF mG 48 #[.val (.int i0), .val (.int i1), .val (.int i2), .val (.int i3), .val (.int (1 : Int32)), .val (.ref r0_23), .val .null, .unset, .unset] [(.ref b30)]) (fun _ kk => st30 _ kk) ?_
        refine ob T30 (mkF mG 49 #[.val (.int i0), .val (.int i1), .val (.int i2), .val (.int i3), .val (.int (1 : Int32)), .val (.ref r0_23), .val .null, .unset, .unset] [(.ref b30), (.ref b30)]) (fun _ kk => XS.dup X30.here hx rfl (hb hby at_48) rfl rfl kk) ?_
        refine ob T30 (mkF mG 51 #[.val (.int i0), .val (.int i1), .val (.int i2), .val (.int i3), .val (.int (1 : Int32)), .val (.ref r0_23), .val .null, .unset, .unset] [(.int (1 : Int32)), (.ref b30), (.ref b30)]) (fun _ kk => XS.iload X30.here hx rfl (hb hby at_49) rfl kk) ?_
        refine ob T30 (mkF mG 53 #[.val (.int i0), .val (.int i1), .val (.int i2), .val (.int i3), .val (.int (1 : Int32)), .val (.ref r0_23), .val .null, .unset, .unset] [(.ref r0_23), (.int (1 : Int32)), (.ref b30), (.ref b30)]) (fun _ kk => XS.aload X30.here hx rfl (hb hby at_51) rfl rfl kk) ?_
        obtain ⟨_, _, ⟨T31, L31, k31, n31⟩, -, X31, ⟨Lc31, hQ31, l31, y31, z31⟩, st31⟩ := X30.specialBack hx (y := (⟨"com/example/llave/llave/service/Change", "<init>", "(ZLjava/lang/Object;)V"⟩ : MethodName)) rfl hown (mvT hZ (ow hw 10 rfl)) (mvT hZ (ow hw 11 rfl)) (mvT hZ (ow hw 12 rfl)) (by decide) (backOf (W := 1) (rm_ci11 l Z a0 hw [] w_cache c_cache b30 r0_23 (.int (0 : Int32)) .null h30 n0 O30 hS A30 F30_22 F30_24 n_b30) hZ (ow hw 12 rfl) (ow hw 9 rfl) (by decide) (by decide)) (g := (mkF mG 53 #[.val (.int i0), .val (.int i1), .val (.int i2), .val (.int i3), .val (.int (1 : Int32)), .val (.ref r0_23), .val .null, .unset, .unset] [(.ref r0_23), (.int (1 : Int32)), (.ref b30), (.ref b30)])) rfl (by rw [hml]; rfl) (Steps.refl _) (a := b30) (argsL := [(.int (1 : Int32)), (.ref r0_23)]) (rest := [(.ref b30)]) (lenOf pd_3 rfl) rfl (by show 2 * 0 + _ ≤ _; exact Nat.le_of_eq rfl) (hb hby at_53) (fun _ _ => ⟨rfl, e30, (by decide : 2 + 0 ≤ _), (by decide : 3 + 0 ≤ _)⟩)
        dsimp only [Pt.U, Pt.locs, Pt.cells, Pt.slots] at X31 l31 y31 z31 st31 hQ31
        subst l31 y31 z31
        obtain ⟨h31, e31⟩ : ∃ h, T31.heap = h := ⟨_, rfl⟩
        rw [e31] at hQ31
        obtain ⟨rfl, N31q, K31q, O31, F31_0, F31_1⟩ := hQ31
        have N31 := Fr.app N23 N31q
        have K31 := K30.trans K31q (allS (Or.inr sz_b30) all0)
        refine ob T31 (mkF mG 56 #[.val (.int i0), .val (.int i1), .val (.int i2), .val (.int i3), .val (.int (1 : Int32)), .val (.ref r0_23), .val .null, .unset, .unset] [(.ref b30)]) (fun _ kk => st31.trans kk) ?_
        refine ob T31 (mkF mG 58 #[.val (.int i0), .val (.int i1), .val (.int i2), .val (.int i3), .val (.int (1 : Int32)), .val (.ref r0_23), .val .null, .val (.ref b30), .unset] []) (fun _ kk => XS.astore X31.here hx rfl (hb hby at_56) rfl rfl (l' := #[.val (.int i0), .val (.int i1), .val (.int i2), .val (.int i3), .val (.int (1 : Int32)), .val (.ref r0_23), .val .null, .val (.ref b30), .unset]) rfl kk) ?_
        refine ob T31 (mkF mG 60 #[.val (.int i0), .val (.int i1), .val (.int i2), .val (.int i3), .val (.int (1 : Int32)), .val (.ref r0_23), .val .null, .val (.ref b30), .unset] [(.ref b30)]) (fun _ kk => XS.aload X31.here hx rfl (hb hby at_58) rfl rfl kk) ?_
        refine ob T31 (mkF mG 62 #[.val (.int i0), .val (.int i1), .val (.int i2), .val (.int i3), .val (.int (1 : Int32)), .val (.ref r0_23), .val .null, .val (.ref b30), .unset] [.null, (.ref b30)]) (fun _ kk => XS.aload X31.here hx rfl (hb hby at_60) rfl rfl kk) ?_
        obtain ⟨cq32, kq32, q32a, q32b, q32c⟩ := isOf hZ e31 (A30.keep K31q)
        obtain ⟨_, _, ⟨T32, L32, k32, n32⟩, -, X32, ⟨Lc32, hQ32, l32, y32, z32⟩, st32⟩ := X31.virtualBack hx (y := (⟨"com/example/llave/llave/service/Change", "applyTo", "(Ljava/lang/Object;)Ljava/lang/Object;"⟩ : MethodName)) (z := (⟨"com/example/llave/llave/service/Change", "applyTo", "(Ljava/lang/Object;)Ljava/lang/Object;"⟩ : MethodName)) hown (mvT hZ (ow hw 25 rfl)) (mvT hZ (ow hw 26 rfl)) (notFace_of_selects (args := #[]) (mvT hZ (ow hw 28 rfl))) (mvT hZ (ow hw 28 rfl)) (mvT hZ (ow hw 27 rfl)) (by decide) (backOf (W := 0) (rm_ap110 l Z a0 hw [] w_cache c_cache b30 r0_23 h31 n0 O31 hS F31_0 F31_1) hZ (ow hw 29 rfl) (ow hw 9 rfl) (by decide) (by decide)) q32a q32c (g := (mkF mG 62 #[.val (.int i0), .val (.int i1), .val (.int i2), .val (.int i3), .val (.int (1 : Int32)), .val (.ref r0_23), .val .null, .val (.ref b30), .unset] [.null, (.ref b30)])) rfl (by rw [hml]; rfl) (Steps.refl _) (argsL := [.null]) (rest := []) (lenOf pd_4 rfl) rfl (by show 2 * 0 + _ ≤ _; exact Nat.le_of_eq rfl) (hb hby at_62) (fun _ _ => ⟨rfl, e31, (by decide : 2 + 0 ≤ _), (by decide : 3 + 0 ≤ _)⟩)
        dsimp only [Pt.U, Pt.locs, Pt.cells, Pt.slots] at X32 l32 y32 z32 st32 hQ32
        subst l32 y32 z32
        obtain ⟨rfl, N32q, e32⟩ := hQ32
        have N32 := Fr.app N31 N32q
        refine ob T32 (mkF mG 65 #[.val (.int i0), .val (.int i1), .val (.int i2), .val (.int i3), .val (.int (1 : Int32)), .val (.ref r0_23), .val .null, .val (.ref b30), .unset] [(.ref r0_23)]) (fun _ kk => st32.trans kk) ?_
        obtain ⟨T33, X33, e33, st33⟩ := castY X32 hx hZ hown (ow hw 30 rfl) e32 (Ins.self ((F23_0.ext E30).keep K31q)) (g := (mkF mG 65 #[.val (.int i0), .val (.int i1), .val (.int i2), .val (.int i3), .val (.int (1 : Int32)), .val (.ref r0_23), .val .null, .val (.ref b30), .unset] [(.ref r0_23)])) rfl rfl (hb hby at_65)
        refine ob T33 (mkF mG 68 #[.val (.int i0), .val (.int i1), .val (.int i2), .val (.int i3), .val (.int (1 : Int32)), .val (.ref r0_23), .val .null, .val (.ref b30), .unset] [(.ref r0_23)]) (fun _ kk => st33 _ kk) ?_
        refine ob T33 (mkF mG 70 #[.val (.int i0), .val (.int i1), .val (.int i2), .val (.int i3), .val (.int (1 : Int32)), .val (.ref r0_23), .val .null, .val (.ref b30), .val (.ref r0_23)] []) (fun _ kk => XS.astore X33.here hx rfl (hb hby at_68) rfl rfl (l' := #[.val (.int i0), .val (.int i1), .val (.int i2), .val (.int i3), .val (.int (1 : Int32)), .val (.ref r0_23), .val .null, .val (.ref b30), .val (.ref r0_23)]) rfl kk) ?_
        refine ob T33 (mkF mG 72 #[.val (.int i0), .val (.int i1), .val (.int i2), .val (.int i3), .val (.int (1 : Int32)), .val (.ref r0_23), .val .null, .val (.ref b30), .val (.ref r0_23)] [(.int (1 : Int32))]) (fun _ kk => XS.iload X33.here hx rfl (hb hby at_70) rfl kk) ?_
        refine ob T33 (mkF mG 75 #[.val (.int i0), .val (.int i1), .val (.int i2), .val (.int i3), .val (.int (1 : Int32)), .val (.ref r0_23), .val .null, .val (.ref b30), .val (.ref r0_23)] []) (fun _ kk => XS.ifNo X33.here hx rfl (hb hby at_72) rfl ((if0 _ _).trans (feq (by decide : ¬ ((1 : Int32) = (0 : Int32)))).1) kk) ?_
        refine ob T33 (mkF mG 77 #[.val (.int i0), .val (.int i1), .val (.int i2), .val (.int i3), .val (.int (1 : Int32)), .val (.ref r0_23), .val .null, .val (.ref b30), .val (.ref r0_23)] [(.ref r0_23)]) (fun _ kk => XS.aload X33.here hx rfl (hb hby at_75) rfl rfl kk) ?_
        refine ob T33 (mkF mG 79 #[.val (.int i0), .val (.int i1), .val (.int i2), .val (.int i3), .val (.int (1 : Int32)), .val (.ref r0_23), .val .null, .val (.ref b30), .val (.ref r0_23)] [(.ref r0_23), (.ref r0_23)]) (fun _ kk => XS.aload X33.here hx rfl (hb hby at_77) rfl rfl kk) ?_
        refine ob T33 (mkF mG 82 #[.val (.int i0), .val (.int i1), .val (.int i2), .val (.int i3), .val (.int (1 : Int32)), .val (.ref r0_23), .val .null, .val (.ref b30), .val (.ref r0_23)] []) (fun _ kk => Jvm.RoadKit.acmp (g := (mkF mG 79 #[.val (.int i0), .val (.int i1), .val (.int i2), .val (.int i3), .val (.int (1 : Int32)), .val (.ref r0_23), .val .null, .val (.ref b30), .val (.ref r0_23)] [(.ref r0_23), (.ref r0_23)])) X33 hx rfl rfl rfl (pc0 := 79) (pc' := 82) (same := true) rfl (hb hby at_79) rfl (decide_eq_true rfl) (by decide) (by decide) kk) ?_
        refine ob T33 (mkF mG 83 #[.val (.int i0), .val (.int i1), .val (.int i2), .val (.int i3), .val (.int (1 : Int32)), .val (.ref r0_23), .val .null, .val (.ref b30), .val (.ref r0_23)] [(.int (1 : Int32))]) (fun _ kk => XS.iconst X33.here hx rfl (hb hby at_82) kk) ?_
        refine ob T33 (mkF mG 87 #[.val (.int i0), .val (.int i1), .val (.int i2), .val (.int i3), .val (.int (1 : Int32)), .val (.ref r0_23), .val .null, .val (.ref b30), .val (.ref r0_23)] [(.int (1 : Int32))]) (fun _ kk => XS.goto X33.here hx rfl (pc0 := 83) (pc' := 87) rfl (hb hby at_83) (by decide) (by decide) kk) ?_
        obtain ⟨fs, hr, hrun, hended, hW, hsame⟩ := X33.leave (v := some (.int (1 : Int32))) (fun h => by rw [Bd.returns] at h; cases h)
        refine oout (retN X33 hx (t := .boolean) Bd.returns (by simp) (hb hby at_87) hr) hrun hended ⟨_, _, rfl, ?_, ⟨_, rfl⟩, hW, hsame.mono (by decide) (by decide)⟩
        show Q_rm0 Z w_cache c_cache i0 i1 i2 i3 h0 n0 _ T33.heap _
        rw [e33]
        exact ⟨rfl, N32⟩
    · skip
      refine ob s₁ (mkF mG 19 #[.val (.int i0), .val (.int i1), .val (.int i2), .val (.int i3), .val (.int (1 : Int32)), .unset, .unset, .unset, .unset] []) (fun _ kk => XS.ifNo X0.here hx rfl (hb hby at_16) rfl ((if0 _ _).trans (feq hc22).1) kk) ?_
      refine ob s₁ (mkF mG 20 #[.val (.int i0), .val (.int i1), .val (.int i2), .val (.int i3), .val (.int (1 : Int32)), .unset, .unset, .unset, .unset] [.null]) (fun _ kk => XS.aconstNull X0.here hx rfl (hb hby at_19) kk) ?_
      refine ob s₁ (mkF mG 27 #[.val (.int i0), .val (.int i1), .val (.int i2), .val (.int i3), .val (.int (1 : Int32)), .unset, .unset, .unset, .unset] [.null]) (fun _ kk => XS.goto X0.here hx rfl (pc0 := 20) (pc' := 27) rfl (hb hby at_20) (by decide) (by decide) kk) ?_
      refine ob s₁ (mkF mG 29 #[.val (.int i0), .val (.int i1), .val (.int i2), .val (.int i3), .val (.int (1 : Int32)), .val .null, .unset, .unset, .unset] []) (fun _ kk => XS.astore X0.here hx rfl (hb hby at_27) rfl rfl (l' := #[.val (.int i0), .val (.int i1), .val (.int i2), .val (.int i3), .val (.int (1 : Int32)), .val .null, .unset, .unset, .unset]) rfl kk) ?_
      refine ob s₁ (mkF mG 30 #[.val (.int i0), .val (.int i1), .val (.int i2), .val (.int i3), .val (.int (1 : Int32)), .val .null, .unset, .unset, .unset] [(.int i3)]) (fun _ kk => XS.iloadN X0.here hx rfl (hb hby at_29) rfl kk) ?_
      refine ob s₁ (mkF mG 31 #[.val (.int i0), .val (.int i1), .val (.int i2), .val (.int i3), .val (.int (1 : Int32)), .val .null, .unset, .unset, .unset] [(.int (2 : Int32)), (.int i3)]) (fun _ kk => XS.iconst X0.here hx rfl (hb hby at_30) kk) ?_
      refine ob s₁ (mkF mG 32 #[.val (.int i0), .val (.int i1), .val (.int i2), .val (.int i3), .val (.int (1 : Int32)), .val .null, .unset, .unset, .unset] [(.int (i3 &&& (2 : Int32)))]) (fun _ kk => XS.iand X0.here hx rfl (hb hby at_31) rfl kk) ?_
      by_cases hc34 : (i3 &&& (2 : Int32)) = (0 : Int32)
      · skip
        refine ob s₁ (mkF mG 39 #[.val (.int i0), .val (.int i1), .val (.int i2), .val (.int i3), .val (.int (1 : Int32)), .val .null, .unset, .unset, .unset] []) (fun _ kk => XS.ifYes X0.here hx rfl (pc0 := 32) (pc' := 39) rfl (hb hby at_32) rfl ((if0 _ _).trans (teq hc34).1) (by decide) (by decide) kk) ?_
        refine ob s₁ (mkF mG 40 #[.val (.int i0), .val (.int i1), .val (.int i2), .val (.int i3), .val (.int (1 : Int32)), .val .null, .unset, .unset, .unset] [(.int i2)]) (fun _ kk => XS.iloadN X0.here hx rfl (hb hby at_39) rfl kk) ?_
        obtain ⟨_, _, ⟨T35, L35, k35, n35⟩, -, X35, ⟨Lc35, hQ35, l35, y35, z35⟩, st35⟩ := Jvm.LawKit.callS X0 hx (y := (⟨"java/lang/Integer", "valueOf", "(I)Ljava/lang/Integer;"⟩ : MethodName)) hown (mvT hZ (ow hw 0 rfl)) (mvT hZ (ow hw 1 rfl)) (mvT hZ (ow hw 2 rfl)) (mvT hZ (ow hw 3 rfl)) (by decide) (backOf (W := 0) (rm_valueOf l Z a0 hw [] w_cache c_cache i2 h0 n0 O0 hS ) hZ (ow hw 3 rfl) (ow hw 2 rfl) (by decide) (by decide)) (g := (mkF mG 40 #[.val (.int i0), .val (.int i1), .val (.int i2), .val (.int i3), .val (.int (1 : Int32)), .val .null, .unset, .unset, .unset] [(.int i2)])) rfl (by rw [hml]; rfl) (argsL := [(.int i2)]) (rest := []) (lenOf pd_2 rfl) rfl (by show 2 * 0 + _ ≤ _; exact Nat.le_of_eq rfl) (hb hby at_40) (fun _ _ => ⟨rfl, e0, (by decide : 0 + 1 ≤ _), (by decide : 0 + 1 ≤ _)⟩)
        dsimp only [Pt.U, Pt.locs, Pt.cells, Pt.slots] at X35 l35 y35 z35 st35 hQ35
        subst l35 y35 z35
        obtain ⟨h35, e35⟩ : ∃ h, T35.heap = h := ⟨_, rfl⟩
        rw [e35] at hQ35
        obtain ⟨r0_35, rfl, N35q, K35q, O35, F35_0⟩ := hQ35
        have N35 := Fr.app N0 N35q
        have K35 := K0.trans K35q all0
        refine ob T35 (mkF mG 43 #[.val (.int i0), .val (.int i1), .val (.int i2), .val (.int i3), .val (.int (1 : Int32)), .val .null, .unset, .unset, .unset] [(.ref r0_35)]) (fun _ kk => st35 _ kk) ?_
        refine ob T35 (mkF mG 45 #[.val (.int i0), .val (.int i1), .val (.int i2), .val (.int i3), .val (.int (1 : Int32)), .val .null, .val (.ref r0_35), .unset, .unset] []) (fun _ kk => XS.astore X35.here hx rfl (hb hby at_43) rfl rfl (l' := #[.val (.int i0), .val (.int i1), .val (.int i2), .val (.int i3), .val (.int (1 : Int32)), .val .null, .val (.ref r0_35), .unset, .unset]) rfl kk) ?_
        obtain ⟨T36, h36, X36, e36, E36, A36, D36, _x36, st36⟩ := newO X35 hx hZ hown (ow hw 7 rfl) (ow hw 8 rfl) (ow hw 9 rfl) e35 (g := (mkF mG 45 #[.val (.int i0), .val (.int i1), .val (.int i2), .val (.int i3), .val (.int (1 : Int32)), .val .null, .val (.ref r0_35), .unset, .unset] [])) rfl (hb hby at_45) (by decide) (by decide)
        obtain ⟨b36, g36⟩ : ∃ z, z = h35.size := ⟨_, rfl⟩
        rw [← g36] at A36 D36 st36
        have n_b36 : n0 ≤ b36 := Nat.le_trans (on0 O35) (Nat.le_of_eq g36.symm)
        have sz_b36 : h0.size ≤ b36 := Nat.le_trans K35.1 (Nat.le_of_eq g36.symm)
        have ne_r0_35_b36 : r0_35 ≠ b36 := Nat.ne_of_lt (Nat.lt_of_lt_of_le F35_0.lt (Nat.le_of_eq g36.symm))
        have O36 := O35.ext E36
        have K36 := K35.ext E36
        have F36_22 : Fld Z h36 b36 "com/example/llave/llave/service/Change" "given" "Z" (.int (0 : Int32)) := D36 (Or.inr (ow hw 22 rfl)) (ty := .boolean) (by decide)
        have F36_24 : Fld Z h36 b36 "com/example/llave/llave/service/Change" "value" "Ljava/lang/Object;" .null := D36 (Or.inr (ow hw 24 rfl)) (ty := (.object "java/lang/Object")) (by decide)
        refine ob T36 (mkF mG 48 #[.val (.int i0), .val (.int i1), .val (.int i2), .val (.int i3), .val (.int (1 : Int32)), .val .null, .val (.ref r0_35), .unset, .unset] [(.ref b36)]) (fun _ kk => st36 _ kk) ?_
        refine ob T36 (mkF mG 49 #[.val (.int i0), .val (.int i1), .val (.int i2), .val (.int i3), .val (.int (1 : Int32)), .val .null, .val (.ref r0_35), .unset, .unset] [(.ref b36), (.ref b36)]) (fun _ kk => XS.dup X36.here hx rfl (hb hby at_48) rfl rfl kk) ?_
        refine ob T36 (mkF mG 51 #[.val (.int i0), .val (.int i1), .val (.int i2), .val (.int i3), .val (.int (1 : Int32)), .val .null, .val (.ref r0_35), .unset, .unset] [(.int (1 : Int32)), (.ref b36), (.ref b36)]) (fun _ kk => XS.iload X36.here hx rfl (hb hby at_49) rfl kk) ?_
        refine ob T36 (mkF mG 53 #[.val (.int i0), .val (.int i1), .val (.int i2), .val (.int i3), .val (.int (1 : Int32)), .val .null, .val (.ref r0_35), .unset, .unset] [.null, (.int (1 : Int32)), (.ref b36), (.ref b36)]) (fun _ kk => XS.aload X36.here hx rfl (hb hby at_51) rfl rfl kk) ?_
        obtain ⟨_, _, ⟨T37, L37, k37, n37⟩, -, X37, ⟨Lc37, hQ37, l37, y37, z37⟩, st37⟩ := X36.specialBack hx (y := (⟨"com/example/llave/llave/service/Change", "<init>", "(ZLjava/lang/Object;)V"⟩ : MethodName)) rfl hown (mvT hZ (ow hw 10 rfl)) (mvT hZ (ow hw 11 rfl)) (mvT hZ (ow hw 12 rfl)) (by decide) (backOf (W := 1) (rm_ci10 l Z a0 hw [] w_cache c_cache b36 (.int (0 : Int32)) .null h36 n0 O36 hS A36 F36_22 F36_24 n_b36) hZ (ow hw 12 rfl) (ow hw 9 rfl) (by decide) (by decide)) (g := (mkF mG 53 #[.val (.int i0), .val (.int i1), .val (.int i2), .val (.int i3), .val (.int (1 : Int32)), .val .null, .val (.ref r0_35), .unset, .unset] [.null, (.int (1 : Int32)), (.ref b36), (.ref b36)])) rfl (by rw [hml]; rfl) (Steps.refl _) (a := b36) (argsL := [(.int (1 : Int32)), .null]) (rest := [(.ref b36)]) (lenOf pd_3 rfl) rfl (by show 2 * 0 + _ ≤ _; exact Nat.le_of_eq rfl) (hb hby at_53) (fun _ _ => ⟨rfl, e36, (by decide : 2 + 0 ≤ _), (by decide : 3 + 0 ≤ _)⟩)
        dsimp only [Pt.U, Pt.locs, Pt.cells, Pt.slots] at X37 l37 y37 z37 st37 hQ37
        subst l37 y37 z37
        obtain ⟨h37, e37⟩ : ∃ h, T37.heap = h := ⟨_, rfl⟩
        rw [e37] at hQ37
        obtain ⟨rfl, N37q, K37q, O37, F37_0, F37_1⟩ := hQ37
        have N37 := Fr.app N35 N37q
        have K37 := K36.trans K37q (allS (Or.inr sz_b36) all0)
        refine ob T37 (mkF mG 56 #[.val (.int i0), .val (.int i1), .val (.int i2), .val (.int i3), .val (.int (1 : Int32)), .val .null, .val (.ref r0_35), .unset, .unset] [(.ref b36)]) (fun _ kk => st37.trans kk) ?_
        refine ob T37 (mkF mG 58 #[.val (.int i0), .val (.int i1), .val (.int i2), .val (.int i3), .val (.int (1 : Int32)), .val .null, .val (.ref r0_35), .val (.ref b36), .unset] []) (fun _ kk => XS.astore X37.here hx rfl (hb hby at_56) rfl rfl (l' := #[.val (.int i0), .val (.int i1), .val (.int i2), .val (.int i3), .val (.int (1 : Int32)), .val .null, .val (.ref r0_35), .val (.ref b36), .unset]) rfl kk) ?_
        refine ob T37 (mkF mG 60 #[.val (.int i0), .val (.int i1), .val (.int i2), .val (.int i3), .val (.int (1 : Int32)), .val .null, .val (.ref r0_35), .val (.ref b36), .unset] [(.ref b36)]) (fun _ kk => XS.aload X37.here hx rfl (hb hby at_58) rfl rfl kk) ?_
        refine ob T37 (mkF mG 62 #[.val (.int i0), .val (.int i1), .val (.int i2), .val (.int i3), .val (.int (1 : Int32)), .val .null, .val (.ref r0_35), .val (.ref b36), .unset] [(.ref r0_35), (.ref b36)]) (fun _ kk => XS.aload X37.here hx rfl (hb hby at_60) rfl rfl kk) ?_
        obtain ⟨cq38, kq38, q38a, q38b, q38c⟩ := isOf hZ e37 (A36.keep K37q)
        obtain ⟨_, _, ⟨T38, L38, k38, n38⟩, -, X38, ⟨Lc38, hQ38, l38, y38, z38⟩, st38⟩ := X37.virtualBack hx (y := (⟨"com/example/llave/llave/service/Change", "applyTo", "(Ljava/lang/Object;)Ljava/lang/Object;"⟩ : MethodName)) (z := (⟨"com/example/llave/llave/service/Change", "applyTo", "(Ljava/lang/Object;)Ljava/lang/Object;"⟩ : MethodName)) hown (mvT hZ (ow hw 25 rfl)) (mvT hZ (ow hw 26 rfl)) (notFace_of_selects (args := #[]) (mvT hZ (ow hw 28 rfl))) (mvT hZ (ow hw 28 rfl)) (mvT hZ (ow hw 27 rfl)) (by decide) (backOf (W := 0) (rm_ap101 l Z a0 hw [] w_cache c_cache b36 r0_35 h37 n0 O37 hS F37_0 F37_1) hZ (ow hw 29 rfl) (ow hw 9 rfl) (by decide) (by decide)) q38a q38c (g := (mkF mG 62 #[.val (.int i0), .val (.int i1), .val (.int i2), .val (.int i3), .val (.int (1 : Int32)), .val .null, .val (.ref r0_35), .val (.ref b36), .unset] [(.ref r0_35), (.ref b36)])) rfl (by rw [hml]; rfl) (Steps.refl _) (argsL := [(.ref r0_35)]) (rest := []) (lenOf pd_4 rfl) rfl (by show 2 * 0 + _ ≤ _; exact Nat.le_of_eq rfl) (hb hby at_62) (fun _ _ => ⟨rfl, e37, (by decide : 2 + 0 ≤ _), (by decide : 3 + 0 ≤ _)⟩)
        dsimp only [Pt.U, Pt.locs, Pt.cells, Pt.slots] at X38 l38 y38 z38 st38 hQ38
        subst l38 y38 z38
        obtain ⟨rfl, N38q, e38⟩ := hQ38
        have N38 := Fr.app N37 N38q
        refine ob T38 (mkF mG 65 #[.val (.int i0), .val (.int i1), .val (.int i2), .val (.int i3), .val (.int (1 : Int32)), .val .null, .val (.ref r0_35), .val (.ref b36), .unset] [.null]) (fun _ kk => st38.trans kk) ?_
        refine ob T38 (mkF mG 68 #[.val (.int i0), .val (.int i1), .val (.int i2), .val (.int i3), .val (.int (1 : Int32)), .val .null, .val (.ref r0_35), .val (.ref b36), .unset] [.null]) (fun _ kk => X38.checkcastNull hx (g := (mkF mG 65 #[.val (.int i0), .val (.int i1), .val (.int i2), .val (.int i3), .val (.int (1 : Int32)), .val .null, .val (.ref r0_35), .val (.ref b36), .unset] [.null])) rfl rfl (hb hby at_65) _ kk) ?_
        refine ob T38 (mkF mG 70 #[.val (.int i0), .val (.int i1), .val (.int i2), .val (.int i3), .val (.int (1 : Int32)), .val .null, .val (.ref r0_35), .val (.ref b36), .val .null] []) (fun _ kk => XS.astore X38.here hx rfl (hb hby at_68) rfl rfl (l' := #[.val (.int i0), .val (.int i1), .val (.int i2), .val (.int i3), .val (.int (1 : Int32)), .val .null, .val (.ref r0_35), .val (.ref b36), .val .null]) rfl kk) ?_
        refine ob T38 (mkF mG 72 #[.val (.int i0), .val (.int i1), .val (.int i2), .val (.int i3), .val (.int (1 : Int32)), .val .null, .val (.ref r0_35), .val (.ref b36), .val .null] [(.int (1 : Int32))]) (fun _ kk => XS.iload X38.here hx rfl (hb hby at_70) rfl kk) ?_
        refine ob T38 (mkF mG 75 #[.val (.int i0), .val (.int i1), .val (.int i2), .val (.int i3), .val (.int (1 : Int32)), .val .null, .val (.ref r0_35), .val (.ref b36), .val .null] []) (fun _ kk => XS.ifNo X38.here hx rfl (hb hby at_72) rfl ((if0 _ _).trans (feq (by decide : ¬ ((1 : Int32) = (0 : Int32)))).1) kk) ?_
        refine ob T38 (mkF mG 77 #[.val (.int i0), .val (.int i1), .val (.int i2), .val (.int i3), .val (.int (1 : Int32)), .val .null, .val (.ref r0_35), .val (.ref b36), .val .null] [.null]) (fun _ kk => XS.aload X38.here hx rfl (hb hby at_75) rfl rfl kk) ?_
        refine ob T38 (mkF mG 79 #[.val (.int i0), .val (.int i1), .val (.int i2), .val (.int i3), .val (.int (1 : Int32)), .val .null, .val (.ref r0_35), .val (.ref b36), .val .null] [.null, .null]) (fun _ kk => XS.aload X38.here hx rfl (hb hby at_77) rfl rfl kk) ?_
        refine ob T38 (mkF mG 82 #[.val (.int i0), .val (.int i1), .val (.int i2), .val (.int i3), .val (.int (1 : Int32)), .val .null, .val (.ref r0_35), .val (.ref b36), .val .null] []) (fun _ kk => Jvm.RoadKit.acmp (g := (mkF mG 79 #[.val (.int i0), .val (.int i1), .val (.int i2), .val (.int i3), .val (.int (1 : Int32)), .val .null, .val (.ref r0_35), .val (.ref b36), .val .null] [.null, .null])) X38 hx rfl rfl rfl (pc0 := 79) (pc' := 82) (same := true) rfl (hb hby at_79) rfl (decide_eq_true rfl) (by decide) (by decide) kk) ?_
        refine ob T38 (mkF mG 83 #[.val (.int i0), .val (.int i1), .val (.int i2), .val (.int i3), .val (.int (1 : Int32)), .val .null, .val (.ref r0_35), .val (.ref b36), .val .null] [(.int (1 : Int32))]) (fun _ kk => XS.iconst X38.here hx rfl (hb hby at_82) kk) ?_
        refine ob T38 (mkF mG 87 #[.val (.int i0), .val (.int i1), .val (.int i2), .val (.int i3), .val (.int (1 : Int32)), .val .null, .val (.ref r0_35), .val (.ref b36), .val .null] [(.int (1 : Int32))]) (fun _ kk => XS.goto X38.here hx rfl (pc0 := 83) (pc' := 87) rfl (hb hby at_83) (by decide) (by decide) kk) ?_
        obtain ⟨fs, hr, hrun, hended, hW, hsame⟩ := X38.leave (v := some (.int (1 : Int32))) (fun h => by rw [Bd.returns] at h; cases h)
        refine oout (retN X38 hx (t := .boolean) Bd.returns (by simp) (hb hby at_87) hr) hrun hended ⟨_, _, rfl, ?_, ⟨_, rfl⟩, hW, hsame.mono (by decide) (by decide)⟩
        show Q_rm0 Z w_cache c_cache i0 i1 i2 i3 h0 n0 _ T38.heap _
        rw [e38]
        exact ⟨rfl, N38⟩
      · skip
        refine ob s₁ (mkF mG 35 #[.val (.int i0), .val (.int i1), .val (.int i2), .val (.int i3), .val (.int (1 : Int32)), .val .null, .unset, .unset, .unset] []) (fun _ kk => XS.ifNo X0.here hx rfl (hb hby at_32) rfl ((if0 _ _).trans (feq hc34).1) kk) ?_
        refine ob s₁ (mkF mG 36 #[.val (.int i0), .val (.int i1), .val (.int i2), .val (.int i3), .val (.int (1 : Int32)), .val .null, .unset, .unset, .unset] [.null]) (fun _ kk => XS.aconstNull X0.here hx rfl (hb hby at_35) kk) ?_
        refine ob s₁ (mkF mG 43 #[.val (.int i0), .val (.int i1), .val (.int i2), .val (.int i3), .val (.int (1 : Int32)), .val .null, .unset, .unset, .unset] [.null]) (fun _ kk => XS.goto X0.here hx rfl (pc0 := 36) (pc' := 43) rfl (hb hby at_36) (by decide) (by decide) kk) ?_
        refine ob s₁ (mkF mG 45 #[.val (.int i0), .val (.int i1), .val (.int i2), .val (.int i3), .val (.int (1 : Int32)), .val .null, .val .null, .unset, .unset] []) (fun _ kk => XS.astore X0.here hx rfl (hb hby at_43) rfl rfl (l' := #[.val (.int i0), .val (.int i1), .val (.int i2), .val (.int i3), .val (.int (1 : Int32)), .val .null, .val .null, .unset, .unset]) rfl kk) ?_
        obtain ⟨T39, h39, X39, e39, E39, A39, D39, _x39, st39⟩ := newO X0 hx hZ hown (ow hw 7 rfl) (ow hw 8 rfl) (ow hw 9 rfl) e0 (g := (mkF mG 45 #[.val (.int i0), .val (.int i1), .val (.int i2), .val (.int i3), .val (.int (1 : Int32)), .val .null, .val .null, .unset, .unset] [])) rfl (hb hby at_45) (by decide) (by decide)
        obtain ⟨b39, g39⟩ : ∃ z, z = h0.size := ⟨_, rfl⟩
        rw [← g39] at A39 D39 st39
        have n_b39 : n0 ≤ b39 := Nat.le_trans (on0 O0) (Nat.le_of_eq g39.symm)
        have sz_b39 : h0.size ≤ b39 := Nat.le_trans K0.1 (Nat.le_of_eq g39.symm)
        have O39 := O0.ext E39
        have K39 := K0.ext E39
        have F39_22 : Fld Z h39 b39 "com/example/llave/llave/service/Change" "given" "Z" (.int (0 : Int32)) := D39 (Or.inr (ow hw 22 rfl)) (ty := .boolean) (by decide)
        have F39_24 : Fld Z h39 b39 "com/example/llave/llave/service/Change" "value" "Ljava/lang/Object;" .null := D39 (Or.inr (ow hw 24 rfl)) (ty := (.object "java/lang/Object")) (by decide)
        refine ob T39 (mkF mG 48 #[.val (.int i0), .val (.int i1), .val (.int i2), .val (.int i3), .val (.int (1 : Int32)), .val .null, .val .null, .unset, .unset] [(.ref b39)]) (fun _ kk => st39 _ kk) ?_
        refine ob T39 (mkF mG 49 #[.val (.int i0), .val (.int i1), .val (.int i2), .val (.int i3), .val (.int (1 : Int32)), .val .null, .val .null, .unset, .unset] [(.ref b39), (.ref b39)]) (fun _ kk => XS.dup X39.here hx rfl (hb hby at_48) rfl rfl kk) ?_
        refine ob T39 (mkF mG 51 #[.val (.int i0), .val (.int i1), .val (.int i2), .val (.int i3), .val (.int (1 : Int32)), .val .null, .val .null, .unset, .unset] [(.int (1 : Int32)), (.ref b39), (.ref b39)]) (fun _ kk => XS.iload X39.here hx rfl (hb hby at_49) rfl kk) ?_
        refine ob T39 (mkF mG 53 #[.val (.int i0), .val (.int i1), .val (.int i2), .val (.int i3), .val (.int (1 : Int32)), .val .null, .val .null, .unset, .unset] [.null, (.int (1 : Int32)), (.ref b39), (.ref b39)]) (fun _ kk => XS.aload X39.here hx rfl (hb hby at_51) rfl rfl kk) ?_
        obtain ⟨_, _, ⟨T40, L40, k40, n40⟩, -, X40, ⟨Lc40, hQ40, l40, y40, z40⟩, st40⟩ := X39.specialBack hx (y := (⟨"com/example/llave/llave/service/Change", "<init>", "(ZLjava/lang/Object;)V"⟩ : MethodName)) rfl hown (mvT hZ (ow hw 10 rfl)) (mvT hZ (ow hw 11 rfl)) (mvT hZ (ow hw 12 rfl)) (by decide) (backOf (W := 1) (rm_ci10 l Z a0 hw [] w_cache c_cache b39 (.int (0 : Int32)) .null h39 n0 O39 hS A39 F39_22 F39_24 n_b39) hZ (ow hw 12 rfl) (ow hw 9 rfl) (by decide) (by decide)) (g := (mkF mG 53 #[.val (.int i0), .val (.int i1), .val (.int i2), .val (.int i3), .val (.int (1 : Int32)), .val .null, .val .null, .unset, .unset] [.null, (.int (1 : Int32)), (.ref b39), (.ref b39)])) rfl (by rw [hml]; rfl) (Steps.refl _) (a := b39) (argsL := [(.int (1 : Int32)), .null]) (rest := [(.ref b39)]) (lenOf pd_3 rfl) rfl (by show 2 * 0 + _ ≤ _; exact Nat.le_of_eq rfl) (hb hby at_53) (fun _ _ => ⟨rfl, e39, (by decide : 1 + 0 ≤ _), (by decide : 2 + 0 ≤ _)⟩)
        dsimp only [Pt.U, Pt.locs, Pt.cells, Pt.slots] at X40 l40 y40 z40 st40 hQ40
        subst l40 y40 z40
        obtain ⟨h40, e40⟩ : ∃ h, T40.heap = h := ⟨_, rfl⟩
        rw [e40] at hQ40
        obtain ⟨rfl, N40q, K40q, O40, F40_0, F40_1⟩ := hQ40
        have N40 := Fr.app N0 N40q
        have K40 := K39.trans K40q (allS (Or.inr sz_b39) all0)
        refine ob T40 (mkF mG 56 #[.val (.int i0), .val (.int i1), .val (.int i2), .val (.int i3), .val (.int (1 : Int32)), .val .null, .val .null, .unset, .unset] [(.ref b39)]) (fun _ kk => st40.trans kk) ?_
        refine ob T40 (mkF mG 58 #[.val (.int i0), .val (.int i1), .val (.int i2), .val (.int i3), .val (.int (1 : Int32)), .val .null, .val .null, .val (.ref b39), .unset] []) (fun _ kk => XS.astore X40.here hx rfl (hb hby at_56) rfl rfl (l' := #[.val (.int i0), .val (.int i1), .val (.int i2), .val (.int i3), .val (.int (1 : Int32)), .val .null, .val .null, .val (.ref b39), .unset]) rfl kk) ?_
        refine ob T40 (mkF mG 60 #[.val (.int i0), .val (.int i1), .val (.int i2), .val (.int i3), .val (.int (1 : Int32)), .val .null, .val .null, .val (.ref b39), .unset] [(.ref b39)]) (fun _ kk => XS.aload X40.here hx rfl (hb hby at_58) rfl rfl kk) ?_
        refine ob T40 (mkF mG 62 #[.val (.int i0), .val (.int i1), .val (.int i2), .val (.int i3), .val (.int (1 : Int32)), .val .null, .val .null, .val (.ref b39), .unset] [.null, (.ref b39)]) (fun _ kk => XS.aload X40.here hx rfl (hb hby at_60) rfl rfl kk) ?_
        obtain ⟨cq41, kq41, q41a, q41b, q41c⟩ := isOf hZ e40 (A39.keep K40q)
        obtain ⟨_, _, ⟨T41, L41, k41, n41⟩, -, X41, ⟨Lc41, hQ41, l41, y41, z41⟩, st41⟩ := X40.virtualBack hx (y := (⟨"com/example/llave/llave/service/Change", "applyTo", "(Ljava/lang/Object;)Ljava/lang/Object;"⟩ : MethodName)) (z := (⟨"com/example/llave/llave/service/Change", "applyTo", "(Ljava/lang/Object;)Ljava/lang/Object;"⟩ : MethodName)) hown (mvT hZ (ow hw 25 rfl)) (mvT hZ (ow hw 26 rfl)) (notFace_of_selects (args := #[]) (mvT hZ (ow hw 28 rfl))) (mvT hZ (ow hw 28 rfl)) (mvT hZ (ow hw 27 rfl)) (by decide) (backOf (W := 0) (rm_ap100 l Z a0 hw [] w_cache c_cache b39 h40 n0 O40 hS F40_0 F40_1) hZ (ow hw 29 rfl) (ow hw 9 rfl) (by decide) (by decide)) q41a q41c (g := (mkF mG 62 #[.val (.int i0), .val (.int i1), .val (.int i2), .val (.int i3), .val (.int (1 : Int32)), .val .null, .val .null, .val (.ref b39), .unset] [.null, (.ref b39)])) rfl (by rw [hml]; rfl) (Steps.refl _) (argsL := [.null]) (rest := []) (lenOf pd_4 rfl) rfl (by show 2 * 0 + _ ≤ _; exact Nat.le_of_eq rfl) (hb hby at_62) (fun _ _ => ⟨rfl, e40, (by decide : 1 + 0 ≤ _), (by decide : 2 + 0 ≤ _)⟩)
        dsimp only [Pt.U, Pt.locs, Pt.cells, Pt.slots] at X41 l41 y41 z41 st41 hQ41
        subst l41 y41 z41
        obtain ⟨rfl, N41q, e41⟩ := hQ41
        have N41 := Fr.app N40 N41q
        refine ob T41 (mkF mG 65 #[.val (.int i0), .val (.int i1), .val (.int i2), .val (.int i3), .val (.int (1 : Int32)), .val .null, .val .null, .val (.ref b39), .unset] [.null]) (fun _ kk => st41.trans kk) ?_
        refine ob T41 (mkF mG 68 #[.val (.int i0), .val (.int i1), .val (.int i2), .val (.int i3), .val (.int (1 : Int32)), .val .null, .val .null, .val (.ref b39), .unset] [.null]) (fun _ kk => X41.checkcastNull hx (g := (mkF mG 65 #[.val (.int i0), .val (.int i1), .val (.int i2), .val (.int i3), .val (.int (1 : Int32)), .val .null, .val .null, .val (.ref b39), .unset] [.null])) rfl rfl (hb hby at_65) _ kk) ?_
        refine ob T41 (mkF mG 70 #[.val (.int i0), .val (.int i1), .val (.int i2), .val (.int i3), .val (.int (1 : Int32)), .val .null, .val .null, .val (.ref b39), .val .null] []) (fun _ kk => XS.astore X41.here hx rfl (hb hby at_68) rfl rfl (l' := #[.val (.int i0), .val (.int i1), .val (.int i2), .val (.int i3), .val (.int (1 : Int32)), .val .null, .val .null, .val (.ref b39), .val .null]) rfl kk) ?_
        refine ob T41 (mkF mG 72 #[.val (.int i0), .val (.int i1), .val (.int i2), .val (.int i3), .val (.int (1 : Int32)), .val .null, .val .null, .val (.ref b39), .val .null] [(.int (1 : Int32))]) (fun _ kk => XS.iload X41.here hx rfl (hb hby at_70) rfl kk) ?_
        refine ob T41 (mkF mG 75 #[.val (.int i0), .val (.int i1), .val (.int i2), .val (.int i3), .val (.int (1 : Int32)), .val .null, .val .null, .val (.ref b39), .val .null] []) (fun _ kk => XS.ifNo X41.here hx rfl (hb hby at_72) rfl ((if0 _ _).trans (feq (by decide : ¬ ((1 : Int32) = (0 : Int32)))).1) kk) ?_
        refine ob T41 (mkF mG 77 #[.val (.int i0), .val (.int i1), .val (.int i2), .val (.int i3), .val (.int (1 : Int32)), .val .null, .val .null, .val (.ref b39), .val .null] [.null]) (fun _ kk => XS.aload X41.here hx rfl (hb hby at_75) rfl rfl kk) ?_
        refine ob T41 (mkF mG 79 #[.val (.int i0), .val (.int i1), .val (.int i2), .val (.int i3), .val (.int (1 : Int32)), .val .null, .val .null, .val (.ref b39), .val .null] [.null, .null]) (fun _ kk => XS.aload X41.here hx rfl (hb hby at_77) rfl rfl kk) ?_
        refine ob T41 (mkF mG 82 #[.val (.int i0), .val (.int i1), .val (.int i2), .val (.int i3), .val (.int (1 : Int32)), .val .null, .val .null, .val (.ref b39), .val .null] []) (fun _ kk => Jvm.RoadKit.acmp (g := (mkF mG 79 #[.val (.int i0), .val (.int i1), .val (.int i2), .val (.int i3), .val (.int (1 : Int32)), .val .null, .val .null, .val (.ref b39), .val .null] [.null, .null])) X41 hx rfl rfl rfl (pc0 := 79) (pc' := 82) (same := true) rfl (hb hby at_79) rfl (decide_eq_true rfl) (by decide) (by decide) kk) ?_
        refine ob T41 (mkF mG 83 #[.val (.int i0), .val (.int i1), .val (.int i2), .val (.int i3), .val (.int (1 : Int32)), .val .null, .val .null, .val (.ref b39), .val .null] [(.int (1 : Int32))]) (fun _ kk => XS.iconst X41.here hx rfl (hb hby at_82) kk) ?_
        refine ob T41 (mkF mG 87 #[.val (.int i0), .val (.int i1), .val (.int i2), .val (.int i3), .val (.int (1 : Int32)), .val .null, .val .null, .val (.ref b39), .val .null] [(.int (1 : Int32))]) (fun _ kk => XS.goto X41.here hx rfl (pc0 := 83) (pc' := 87) rfl (hb hby at_83) (by decide) (by decide) kk) ?_
        obtain ⟨fs, hr, hrun, hended, hW, hsame⟩ := X41.leave (v := some (.int (1 : Int32))) (fun h => by rw [Bd.returns] at h; cases h)
        refine oout (retN X41 hx (t := .boolean) Bd.returns (by simp) (hb hby at_87) hr) hrun hended ⟨_, _, rfl, ?_, ⟨_, rfl⟩, hW, hsame.mono (by decide) (by decide)⟩
        show Q_rm0 Z w_cache c_cache i0 i1 i2 i3 h0 n0 _ T41.heap _
        rw [e41]
        exact ⟨rfl, N41⟩

set_option maxRecDepth 65536 in
set_option maxHeartbeats 40000000 in
theorem comes_1 {Post : Tables → Env → Array Value → State → Outcome → State → Prop} (hpost : ∀ tb e args s v u, (limb_1_1.after args s (.returned v) u = true ∧ limb_1_2.after args s (.returned v) u = true ∧ True) → FrameEnd s (.returned v) u (Jvm.fieldLocs frame_1_writes args s ++ Jvm.arrayLocs frame_1_arrays args s ++ Jvm.staticLocs frame_1_statics s) 16 128 → Post tb e args s (.returned v) u) :
    ArmFor flags0 classFile x code maxLocals ret World_1 tables_1 room_1 Calls_1 rest_1 Pre_1 Post := by
  intro l hfl _ _ p e ha hc hk s m args below hf hA hF happ hP
  obtain ⟨hcalls, hrest, hpre⟩ := hP
  obtain ⟨-, -, -, hnamed, -, -, -, hat⟩ := (Spec.applies_iff hf).mp happ
  obtain ⟨hg, hn⟩ := and_e (Cond.before_iff.mp (show (Jvm.Cond.and given_1 narrow_1).before args s = true from hpre))
  obtain ⟨gg1, gg2⟩ := and_e hg
  obtain ⟨gg3, gg4⟩ := and_e gg2
  obtain ⟨gg5, gg6⟩ := and_e gg4
  obtain ⟨gg7, gg8⟩ := and_e gg6
  obtain ⟨w0, w1, w2, w3, rfl⟩ : ∃ w0 w1 w2 w3 : Value, args = #[w0, w1, w2, w3] := by
    have hs : args.size = 4 := by simpa [Cond.value, given_1] using gg1
    obtain ⟨L⟩ := args
    match L, hs with
    | [w0, w1, w2, w3], _ => exact ⟨w0, w1, w2, w3, rfl⟩
  have hw := fun d (hd : d ∈ tables_1) => atoms_spec (ws := Jvm.Cond.code x code maxLocals ret :: tables_1) hat d (List.mem_cons_of_mem _ hd)
  have hfit : Fit s := fun {y c} hc i hi => by
    obtain ⟨ha, rfl⟩ := Array.getElem?_eq_some_iff.mp hc
    have q := List.all_eq_true.mp ((Array.all_eq_true_iff_forall_mem.mp hF) _ (Array.getElem_mem ha)) i (List.mem_range.mpr hi)
    simpa [Array.getElem?_eq_getElem hi] using q
  obtain ⟨hsets, hown0⟩ := atoms_of _ (rest_1_c_eq ▸ (show rest_1_c.before _ s = true from hrest))
  have hr0 := Cond.before_iff.mp hown0
  obtain ⟨i0, ei0⟩ := is_v gg3
  obtain rfl : w0 = (.int i0) := Option.some.inj ei0
  obtain ⟨i1, ei1⟩ := is_v gg5
  obtain rfl : w1 = (.int i1) := Option.some.inj ei1
  obtain ⟨i2, ei2⟩ := is_v gg7
  obtain rfl : w2 = (.int i2) := Option.some.inj ei2
  obtain ⟨i3, ei3⟩ := is_v gg8
  obtain rfl : w3 = (.int i3) := Option.some.inj ei3
  have S_high : Sta s s.heap "java/lang/Integer$IntegerCache" "high" "I" (.int (127 : Int32)) := Sta.start (eqv_i (Term.int_eval (127 : Int32)) (Cond.before_iff.mp (ow hsets 3 rfl))) (Or.inl (ow hsets 1 rfl))
  obtain ⟨w_cache, ev_cache⟩ := arr_v (Cond.before_iff.mp (ow hsets 4 rfl))
  have S_cache : Sta s s.heap "java/lang/Integer$IntegerCache" "cache" "[Ljava/lang/Integer;" (.ref w_cache) := Sta.start ev_cache (Or.inr ⟨(ow hw 5 rfl), (ow hsets 2 rfl)⟩)
  obtain ⟨c_cache, A_cache⟩ := Arr.start ev_cache (Cond.before_iff.mp (ow hsets 4 rfl))
  obtain ⟨l_cache, q_cache⟩ := own_len (A_cache.fin (Vm.Alike.refl _)) ev_cache (Cond.before_iff.mp (ow hsets 6 rfl))
  have B_cache : Bxs s w_cache c_cache "java/lang/Integer" "I" (256 : Int32) (fun j => .int (j - 128)) := Bxs.start (F := Jvm.Term.sub (Jvm.Term.index 0) (Jvm.Term.int 128)) (fun _ => ev_cache) A_cache l_cache q_cache (by decide) (Cond.before_iff.mp (ow hsets 7 rfl)) (fun X j nj h => eqv_i (own_idx nj) h)
  have hS : St0 s w_cache c_cache := ⟨S_high, S_cache, B_cache⟩
  obtain ⟨n, o, h1, h2, h3, _, L, rfl, ⟨rfl, N⟩, hq⟩ := rm0 l s _ hw tables_1 w_cache c_cache i0 i1 i2 i3 s.heap s.heap.size (Old.start s) hS p e ha hc hk s m _ below hf ((Spec.applies_iff_loose hf).mp happ).1 ⟨rfl, State.Warmed39.refl s, rfl⟩ trivial
  refine ⟨n, _, h1, h2, h3, hpost _ _ _ _ _ _ ⟨Cond.after_iff.mpr rfl, Cond.after_iff.mpr (eq_i res_at (Term.int_eval (1)) rfl), trivial⟩ ⟨hq.1, hq.2.1, (hq.2.2.sift fun y hy => Or.inr (N y hy)).mono (by decide) (by decide)⟩⟩
theorem main_1_1 : Claimed_1_1 := comes_1 fun _ _ _ _ _ _ h hF => ⟨h.1, hF⟩
theorem main_1_2 : Claimed_1_2 := comes_1 fun _ _ _ _ _ _ h hF => ⟨h.2.1, hF⟩
end Jvm.Pilot.@@N@@
namespace Jvm.Pilot.@@N@@
open Jvm Jvm.ClassFile Sem Op Lib Jvm.Free Jvm.Stand Jvm.Pilot.@@N@@.Jvm.D
/-! MADE BY PROGRAM (witnessworld.py) out of the Statement's table words and the real class files: 17 classes; the members and pool entries that the words name. The judged class is class 1, her method 1. -/
namespace start1
open Jvm.ClassFile
def u (s : String) : CpInfo := .utf8 (stringToUtf16 s)
/-- a pool by its gaps: so many unusable entries, then the entry; so many at the end -/
def gap : Nat → List CpInfo → List CpInfo
  | 0, r => r
  | n + 1, r => .unusable :: gap n r
def poolList (es : List (Nat × CpInfo)) (last : Nat) : List CpInfo := es.foldr (fun e r => gap e.1 (e.2 :: r)) (gap last [])
def pool (es : List (Nat × CpInfo)) (last : Nat) : Array CpInfo := ⟨poolList es last⟩
def fileOf (pool : Array CpInfo) (this : Nat) (attrs : Array Attribute := #[]) (ms : Array MethodInfo := #[]) (fl : Nat := 33) (sup : Nat := 0) (ifs : Array Nat := #[]) (fds : Array FieldInfo := #[]) : ClassFile where
  minorVersion := 0
  majorVersion := 65
  constantPool := pool
  accessFlags := fl
  thisClass := this
  superClass := sup
  interfaces := ifs
  fields := fds
  methods := ms
  attributes := attrs
def plain (name : String) (sup : Option ClassId) : Class where
  name := name
  kind := .ordinary
  loader := none
  accessFlags := 33
  super := sup
  interfaces := #[]
  cf := none
  fields := #[]
  methods := #[]
  instanceTypes := #[]
  staticTypes := #[]
  resolved := #[]
  callSites := []
  init := .initialized
  statics := none
  mirror := none

def pool0 : Array CpInfo := pool [(5, u "<init>"), (0, u "()V"), (1, .class_ 10), (1, u "java/lang/Object")] 113

def k0c0 : Code := { maxStack := 0, maxLocals := 1, code := object_method_1_code, exceptionTable := #[], attributes := #[] }
def k0m0 : Method := { name := "<init>", desc := "()V", sig := { parameters := [], returnType := none }, accessFlags := 1, code := some k0c0 }
/-- java/lang/Object -/
def k0 : Class := { plain "java/lang/Object" none with
  accessFlags := 33
  interfaces := #[]
  cf := some (fileOf pool0 8 #[] #[{ accessFlags := 1, nameIndex := 5, descriptorIndex := 6, attributes := #[] }] 33 0 #[] #[])
  fields := #[]
  methods := #[k0m0]
  instanceTypes := #[]
  staticTypes := #[]
  resolved := Array.replicate 124 none
  statics := none }

def pool1 : Array CpInfo := pool [(2, .class_ 4), (1, u "java/lang/Object"), (0, u "<init>"), (0, u "()V"), (0, .methodref 8 9), (0, .class_ 10), (0, .nameAndType 11 12), (0, u "java/lang/Integer"), (0, u "valueOf"), (0, u "(I)Ljava/lang/Integer;"), (0, .class_ 14), (0, u "com/example/llave/llave/service/Change"), (0, .methodref 13 16), (0, .nameAndType 5 17), (0, u "(ZLjava/lang/Object;)V"), (0, .methodref 13 19), (0, .nameAndType 20 21), (0, u "applyTo"), (0, u "(Ljava/lang/Object;)Ljava/lang/Object;"), (0, .class_ 23), (0, u "com/example/llave/llave/service/ChangeApplyToPinLaw"), (2, u "law"), (0, u "(IIII)Z")] 3

def k1m0 : Method := { name := "<init>", desc := "()V", sig := { parameters := [], returnType := none }, accessFlags := 1, code := none }
def k1c1 : Code := { maxStack := 4, maxLocals := 9, code := code, exceptionTable := #[], attributes := #[] }
def k1m1 : Method := { name := "law", desc := "(IIII)Z", sig := { parameters := [.int, .int, .int, .int], returnType := some .boolean }, accessFlags := 9, code := some k1c1 }
/-- com/example/llave/llave/service/ChangeApplyToPinLaw -/
def k1 : Class := { plain "com/example/llave/llave/service/ChangeApplyToPinLaw" (some 0) with
  accessFlags := 49
  interfaces := #[]
  cf := some (fileOf pool1 22 #[] #[{ accessFlags := 1, nameIndex := 5, descriptorIndex := 6, attributes := #[] }, { accessFlags := 9, nameIndex := 26, descriptorIndex := 27, attributes := #[] }] 49 2 #[] #[])
  fields := #[]
  methods := #[k1m0, k1m1]
  instanceTypes := #[]
  staticTypes := #[]
  resolved := Array.replicate 31 none
  statics := none }

def pool2 : Array CpInfo := pool [(1, .class_ 2), (0, u "java/io/Serializable"), (0, .class_ 4), (0, u "java/lang/Object")] 2

/-- java/io/Serializable -/
def k2 : Class := { plain "java/io/Serializable" (some 0) with
  accessFlags := 1537
  interfaces := #[]
  cf := some (fileOf pool2 1 #[] #[] 1537 3 #[] #[])
  fields := #[]
  methods := #[]
  instanceTypes := #[]
  staticTypes := #[]
  resolved := Array.replicate 7 none
  statics := none }

def pool3 : Array CpInfo := pool [(1, .methodref 2 3), (0, .class_ 4), (0, .nameAndType 5 6), (0, u "java/lang/Object"), (0, u "<init>"), (0, u "()V"), (1, .class_ 10), (1, u "java/lang/Number"), (2, .class_ 14), (0, u "java/io/Serializable"), (0, u "serialVersionUID"), (0, u "J")] 20

def k3c0 : Code := { maxStack := 1, maxLocals := 1, code := jdk_18_method_1_code, exceptionTable := #[], attributes := #[] }
def k3m0 : Method := { name := "<init>", desc := "()V", sig := { parameters := [], returnType := none }, accessFlags := 1, code := some k3c0 }
/-- java/lang/Number -/
def k3 : Class := { plain "java/lang/Number" (some 0) with
  accessFlags := 1057
  interfaces := #[2]
  cf := some (fileOf pool3 8 #[] #[{ accessFlags := 1, nameIndex := 5, descriptorIndex := 6, attributes := #[] }] 1057 2 #[13] #[{ accessFlags := 26, nameIndex := 15, descriptorIndex := 16, attributes := #[] }])
  fields := #[{ name := "serialVersionUID", type := .long, accessFlags := 26, slot := 0, constantValue := 0 }]
  methods := #[k3m0]
  instanceTypes := #[]
  staticTypes := #[.long]
  resolved := Array.replicate 37 none
  statics := none }

def pool4 : Array CpInfo := pool [(1, .class_ 2), (0, u "java/lang/Comparable"), (0, .class_ 4), (0, u "java/lang/Object")] 7

/-- java/lang/Comparable -/
def k4 : Class := { plain "java/lang/Comparable" (some 0) with
  accessFlags := 1537
  interfaces := #[]
  cf := some (fileOf pool4 1 #[] #[] 1537 3 #[] #[])
  fields := #[]
  methods := #[]
  instanceTypes := #[]
  staticTypes := #[]
  resolved := Array.replicate 12 none
  statics := none }

def pool5 : Array CpInfo := pool [(1, .class_ 2), (0, u "java/lang/constant/Constable"), (0, .class_ 4), (0, u "java/lang/Object")] 6

/-- java/lang/constant/Constable -/
def k5 : Class := { plain "java/lang/constant/Constable" (some 0) with
  accessFlags := 1537
  interfaces := #[]
  cf := some (fileOf pool5 1 #[] #[] 1537 3 #[] #[])
  fields := #[]
  methods := #[]
  instanceTypes := #[]
  staticTypes := #[]
  resolved := Array.replicate 11 none
  statics := none }

def pool6 : Array CpInfo := pool [(1, .class_ 2), (0, u "java/lang/constant/ConstantDesc"), (0, .class_ 4), (0, u "java/lang/Object")] 32

/-- java/lang/constant/ConstantDesc -/
def k6 : Class := { plain "java/lang/constant/ConstantDesc" (some 0) with
  accessFlags := 1537
  interfaces := #[]
  cf := some (fileOf pool6 1 #[] #[] 1537 3 #[] #[])
  fields := #[]
  methods := #[]
  instanceTypes := #[]
  staticTypes := #[]
  resolved := Array.replicate 37 none
  statics := none }

def pool7 : Array CpInfo := pool [(1, .class_ 2), (0, u "java/lang/Integer"), (16, u "digits"), (0, u "[C"), (46, u "<init>"), (17, u "DigitOnes"), (0, u "[B"), (2, u "DigitTens"), (10, .nameAndType 67 101), (0, u "()V"), (85, u "valueOf"), (0, u "(I)Ljava/lang/Integer;"), (0, .class_ 190), (0, u "java/lang/Integer$IntegerCache"), (0, .fieldref 189 192), (0, .nameAndType 193 194), (0, u "high"), (0, u "I"), (0, .fieldref 189 196), (0, .nameAndType 197 198), (0, u "cache"), (0, u "[Ljava/lang/Integer;"), (0, .methodref 1 200), (0, .nameAndType 67 201), (0, u "(I)V"), (0, .methodref 203 100), (0, .class_ 204), (0, u "java/lang/Number"), (0, .fieldref 1 206), (0, .nameAndType 207 194), (0, u "value"), (94, u "TYPE"), (0, u "Ljava/lang/Class;"), (0, .class_ 305), (0, u "java/lang/Comparable"), (0, .class_ 307), (0, u "java/lang/constant/Constable"), (0, .class_ 309), (0, u "java/lang/constant/ConstantDesc"), (0, u "MIN_VALUE"), (1, u "MAX_VALUE"), (3, u "SIZE"), (1, u "BYTES"), (1, u "serialVersionUID"), (0, u "J")] 131

def k7c0 : Code := { maxStack := 3, maxLocals := 1, code := jdk_33_method_22_code, exceptionTable := #[], attributes := #[] }
def k7m0 : Method := { name := "valueOf", desc := "(I)Ljava/lang/Integer;", sig := { parameters := [.int], returnType := some (.object "java/lang/Integer") }, accessFlags := 9, code := some k7c0 }
def k7c1 : Code := { maxStack := 2, maxLocals := 2, code := jdk_33_method_23_code, exceptionTable := #[], attributes := #[] }
def k7m1 : Method := { name := "<init>", desc := "(I)V", sig := { parameters := [.int], returnType := none }, accessFlags := 1, code := some k7c1 }
/-- java/lang/Integer -/
def k7 : Class := { plain "java/lang/Integer" (some 3) with
  accessFlags := 49
  interfaces := #[4, 5, 6]
  cf := some (fileOf pool7 1 #[.nestMembers #[189]] #[{ accessFlags := 9, nameIndex := 187, descriptorIndex := 188, attributes := #[] }, { accessFlags := 1, nameIndex := 67, descriptorIndex := 201, attributes := #[] }] 49 203 #[304, 306, 308] #[{ accessFlags := 25, nameIndex := 310, descriptorIndex := 194, attributes := #[] }, { accessFlags := 25, nameIndex := 312, descriptorIndex := 194, attributes := #[] }, { accessFlags := 25, nameIndex := 302, descriptorIndex := 303, attributes := #[] }, { accessFlags := 24, nameIndex := 19, descriptorIndex := 20, attributes := #[] }, { accessFlags := 24, nameIndex := 89, descriptorIndex := 86, attributes := #[] }, { accessFlags := 24, nameIndex := 85, descriptorIndex := 86, attributes := #[] }, { accessFlags := 18, nameIndex := 207, descriptorIndex := 194, attributes := #[] }, { accessFlags := 25, nameIndex := 316, descriptorIndex := 194, attributes := #[] }, { accessFlags := 25, nameIndex := 318, descriptorIndex := 194, attributes := #[] }, { accessFlags := 26, nameIndex := 320, descriptorIndex := 321, attributes := #[] }])
  fields := #[{ name := "MIN_VALUE", type := .int, accessFlags := 25, slot := 0, constantValue := 0 }, { name := "MAX_VALUE", type := .int, accessFlags := 25, slot := 1, constantValue := 0 }, { name := "TYPE", type := (.object "java/lang/Class"), accessFlags := 25, slot := 2, constantValue := 0 }, { name := "digits", type := (.array .char), accessFlags := 24, slot := 3, constantValue := 0 }, { name := "DigitTens", type := (.array .byte), accessFlags := 24, slot := 4, constantValue := 0 }, { name := "DigitOnes", type := (.array .byte), accessFlags := 24, slot := 5, constantValue := 0 }, { name := "value", type := .int, accessFlags := 18, slot := 0, constantValue := 0 }, { name := "SIZE", type := .int, accessFlags := 25, slot := 6, constantValue := 0 }, { name := "BYTES", type := .int, accessFlags := 25, slot := 7, constantValue := 0 }, { name := "serialVersionUID", type := .long, accessFlags := 26, slot := 8, constantValue := 0 }]
  methods := #[k7m0, k7m1]
  instanceTypes := #[.int]
  staticTypes := #[.int, .int, (.object "java/lang/Class"), (.array .char), (.array .byte), (.array .byte), .int, .int, .long]
  resolved := Array.replicate 453 none
  statics := none }

def pool8 : Array CpInfo := pool [(2, .class_ 4), (1, u "java/lang/Object"), (0, u "<init>"), (0, u "()V"), (0, .class_ 8), (0, u "java/lang/Integer"), (7, .class_ 18), (1, u "java/lang/Integer$IntegerCache"), (0, u "$assertionsDisabled"), (0, u "Z"), (26, u "high"), (0, u "I"), (8, u "archivedCache"), (0, u "[Ljava/lang/Integer;"), (12, u "cache"), (0, u "low")] 27

def k8m0 : Method := { name := "<init>", desc := "()V", sig := { parameters := [], returnType := none }, accessFlags := 2, code := none }
/-- java/lang/Integer$IntegerCache -/
def k8 : Class := { plain "java/lang/Integer$IntegerCache" (some 0) with
  accessFlags := 48
  interfaces := #[]
  cf := some (fileOf pool8 16 #[.nestHost 7] #[{ accessFlags := 2, nameIndex := 5, descriptorIndex := 6, attributes := #[] }] 48 2 #[] #[{ accessFlags := 24, nameIndex := 72, descriptorIndex := 48, attributes := #[] }, { accessFlags := 24, nameIndex := 47, descriptorIndex := 48, attributes := #[] }, { accessFlags := 24, nameIndex := 71, descriptorIndex := 58, attributes := #[] }, { accessFlags := 8, nameIndex := 57, descriptorIndex := 58, attributes := #[] }, { accessFlags := 4120, nameIndex := 19, descriptorIndex := 20, attributes := #[] }])
  fields := #[{ name := "low", type := .int, accessFlags := 24, slot := 0, constantValue := 0 }, { name := "high", type := .int, accessFlags := 24, slot := 1, constantValue := 0 }, { name := "cache", type := (.array (.object "java/lang/Integer")), accessFlags := 24, slot := 2, constantValue := 0 }, { name := "archivedCache", type := (.array (.object "java/lang/Integer")), accessFlags := 8, slot := 3, constantValue := 0 }, { name := "$assertionsDisabled", type := .boolean, accessFlags := 4120, slot := 4, constantValue := 0 }]
  methods := #[k8m0]
  instanceTypes := #[]
  staticTypes := #[.int, .int, (.array (.object "java/lang/Integer")), (.array (.object "java/lang/Integer")), .boolean]
  resolved := Array.replicate 100 none
  statics := some 0 }

def pool9 : Array CpInfo := pool [(1, .methodref 2 3), (0, .class_ 4), (0, .nameAndType 5 6), (0, u "java/lang/Object"), (0, u "<init>"), (0, u "()V"), (0, .class_ 8), (0, u "java/lang/Record")] 13

def k9c0 : Code := { maxStack := 1, maxLocals := 1, code := jdk_30_method_1_code, exceptionTable := #[], attributes := #[] }
def k9m0 : Method := { name := "<init>", desc := "()V", sig := { parameters := [], returnType := none }, accessFlags := 4, code := some k9c0 }
/-- java/lang/Record -/
def k9 : Class := { plain "java/lang/Record" (some 0) with
  accessFlags := 1057
  interfaces := #[]
  cf := some (fileOf pool9 7 #[] #[{ accessFlags := 4, nameIndex := 5, descriptorIndex := 6, attributes := #[] }] 1057 2 #[] #[])
  fields := #[]
  methods := #[k9m0]
  instanceTypes := #[]
  staticTypes := #[]
  resolved := Array.replicate 22 none
  statics := none }

def pool10 : Array CpInfo := pool [(1, .methodref 2 3), (0, .class_ 4), (0, .nameAndType 5 6), (0, u "java/lang/Record"), (0, u "<init>"), (0, u "()V"), (0, .fieldref 8 9), (0, .class_ 10), (0, .nameAndType 11 12), (0, u "com/example/llave/llave/service/Change"), (0, u "given"), (0, u "Z"), (0, .fieldref 8 14), (0, .nameAndType 15 16), (0, u "value"), (0, u "Ljava/lang/Object;"), (2, u "(ZLjava/lang/Object;)V"), (24, u "applyTo"), (0, u "(Ljava/lang/Object;)Ljava/lang/Object;")] 32

def k10c0 : Code := { maxStack := 2, maxLocals := 3, code := prog_63_method_1_code, exceptionTable := #[], attributes := #[] }
def k10m0 : Method := { name := "<init>", desc := "(ZLjava/lang/Object;)V", sig := { parameters := [.boolean, (.object "java/lang/Object")], returnType := none }, accessFlags := 1, code := some k10c0 }
def k10c1 : Code := { maxStack := 1, maxLocals := 2, code := prog_63_method_4_code, exceptionTable := #[], attributes := #[] }
def k10m1 : Method := { name := "applyTo", desc := "(Ljava/lang/Object;)Ljava/lang/Object;", sig := { parameters := [(.object "java/lang/Object")], returnType := some (.object "java/lang/Object") }, accessFlags := 1, code := some k10c1 }
/-- com/example/llave/llave/service/Change -/
def k10 : Class := { plain "com/example/llave/llave/service/Change" (some 9) with
  accessFlags := 49
  interfaces := #[]
  cf := some (fileOf pool10 8 #[] #[{ accessFlags := 1, nameIndex := 5, descriptorIndex := 19, attributes := #[] }, { accessFlags := 1, nameIndex := 44, descriptorIndex := 45, attributes := #[] }] 49 2 #[] #[{ accessFlags := 18, nameIndex := 11, descriptorIndex := 12, attributes := #[] }, { accessFlags := 18, nameIndex := 15, descriptorIndex := 16, attributes := #[] }])
  fields := #[{ name := "given", type := .boolean, accessFlags := 18, slot := 0, constantValue := 0 }, { name := "value", type := (.object "java/lang/Object"), accessFlags := 18, slot := 1, constantValue := 0 }]
  methods := #[k10m0, k10m1]
  instanceTypes := #[.boolean, (.object "java/lang/Object")]
  staticTypes := #[]
  resolved := Array.replicate 78 none
  statics := none }

def pool11 : Array CpInfo := pool [(1, u "java/lang/Cloneable"), (0, .class_ 1), (0, u "java/lang/Object"), (0, .class_ 3)] 3

/-- java/lang/Cloneable -/
def k11 : Class := { plain "java/lang/Cloneable" (some 0) with
  accessFlags := 1537
  interfaces := #[]
  cf := some (fileOf pool11 2 #[] #[] 1537 4 #[] #[])
  fields := #[]
  methods := #[]
  instanceTypes := #[]
  staticTypes := #[]
  resolved := Array.replicate 8 none
  statics := none }

/-- the primitive byte -/
def k12 : Class := { plain "byte" none with kind := .primitive 'B', accessFlags := 0x411 }
/-- [B -/
def k13 : Class := { plain "[B" (some 0) with kind := .array 12 .byte, interfaces := #[11, 2], accessFlags := 1041 }

/-- the primitive int -/
def k14 : Class := { plain "int" none with kind := .primitive 'I', accessFlags := 0x411 }
/-- [I -/
def k15 : Class := { plain "[I" (some 0) with kind := .array 14 .int, interfaces := #[11, 2], accessFlags := 1041 }

/-- [Ljava/lang/Integer; -/
def k16 : Class := { plain "[Ljava/lang/Integer;" (some 0) with kind := .array 7 (.object "java/lang/Integer"), interfaces := #[11, 2], accessFlags := 1041 }

def heap : Heap := #[{ cls := 8, slots := #[.int 0, .int 127, .ref 1, .null, .int 0], vm := .statics 8 },
  { cls := 16, slots := #[.ref 2, .ref 3, .ref 4, .ref 5, .ref 6, .ref 7, .ref 8, .ref 9, .ref 10, .ref 11, .ref 12, .ref 13, .ref 14, .ref 15, .ref 16, .ref 17, .ref 18, .ref 19, .ref 20, .ref 21, .ref 22, .ref 23, .ref 24, .ref 25, .ref 26, .ref 27, .ref 28, .ref 29, .ref 30, .ref 31, .ref 32, .ref 33, .ref 34, .ref 35, .ref 36, .ref 37, .ref 38, .ref 39, .ref 40, .ref 41, .ref 42, .ref 43, .ref 44, .ref 45, .ref 46, .ref 47, .ref 48, .ref 49, .ref 50, .ref 51, .ref 52, .ref 53, .ref 54, .ref 55, .ref 56, .ref 57, .ref 58, .ref 59, .ref 60, .ref 61, .ref 62, .ref 63, .ref 64, .ref 65, .ref 66, .ref 67, .ref 68, .ref 69, .ref 70, .ref 71, .ref 72, .ref 73, .ref 74, .ref 75, .ref 76, .ref 77, .ref 78, .ref 79, .ref 80, .ref 81, .ref 82, .ref 83, .ref 84, .ref 85, .ref 86, .ref 87, .ref 88, .ref 89, .ref 90, .ref 91, .ref 92, .ref 93, .ref 94, .ref 95, .ref 96, .ref 97, .ref 98, .ref 99, .ref 100, .ref 101, .ref 102, .ref 103, .ref 104, .ref 105, .ref 106, .ref 107, .ref 108, .ref 109, .ref 110, .ref 111, .ref 112, .ref 113, .ref 114, .ref 115, .ref 116, .ref 117, .ref 118, .ref 119, .ref 120, .ref 121, .ref 122, .ref 123, .ref 124, .ref 125, .ref 126, .ref 127, .ref 128, .ref 129, .ref 130, .ref 131, .ref 132, .ref 133, .ref 134, .ref 135, .ref 136, .ref 137, .ref 138, .ref 139, .ref 140, .ref 141, .ref 142, .ref 143, .ref 144, .ref 145, .ref 146, .ref 147, .ref 148, .ref 149, .ref 150, .ref 151, .ref 152, .ref 153, .ref 154, .ref 155, .ref 156, .ref 157, .ref 158, .ref 159, .ref 160, .ref 161, .ref 162, .ref 163, .ref 164, .ref 165, .ref 166, .ref 167, .ref 168, .ref 169, .ref 170, .ref 171, .ref 172, .ref 173, .ref 174, .ref 175, .ref 176, .ref 177, .ref 178, .ref 179, .ref 180, .ref 181, .ref 182, .ref 183, .ref 184, .ref 185, .ref 186, .ref 187, .ref 188, .ref 189, .ref 190, .ref 191, .ref 192, .ref 193, .ref 194, .ref 195, .ref 196, .ref 197, .ref 198, .ref 199, .ref 200, .ref 201, .ref 202, .ref 203, .ref 204, .ref 205, .ref 206, .ref 207, .ref 208, .ref 209, .ref 210, .ref 211, .ref 212, .ref 213, .ref 214, .ref 215, .ref 216, .ref 217, .ref 218, .ref 219, .ref 220, .ref 221, .ref 222, .ref 223, .ref 224, .ref 225, .ref 226, .ref 227, .ref 228, .ref 229, .ref 230, .ref 231, .ref 232, .ref 233, .ref 234, .ref 235, .ref 236, .ref 237, .ref 238, .ref 239, .ref 240, .ref 241, .ref 242, .ref 243, .ref 244, .ref 245, .ref 246, .ref 247, .ref 248, .ref 249, .ref 250, .ref 251, .ref 252, .ref 253, .ref 254, .ref 255, .ref 256, .ref 257], vm := .none },
  { cls := 7, slots := #[.int (-128)], vm := .none },
  { cls := 7, slots := #[.int (-127)], vm := .none },
  { cls := 7, slots := #[.int (-126)], vm := .none },
  { cls := 7, slots := #[.int (-125)], vm := .none },
  { cls := 7, slots := #[.int (-124)], vm := .none },
  { cls := 7, slots := #[.int (-123)], vm := .none },
  { cls := 7, slots := #[.int (-122)], vm := .none },
  { cls := 7, slots := #[.int (-121)], vm := .none },
  { cls := 7, slots := #[.int (-120)], vm := .none },
  { cls := 7, slots := #[.int (-119)], vm := .none },
  { cls := 7, slots := #[.int (-118)], vm := .none },
  { cls := 7, slots := #[.int (-117)], vm := .none },
  { cls := 7, slots := #[.int (-116)], vm := .none },
  { cls := 7, slots := #[.int (-115)], vm := .none },
  { cls := 7, slots := #[.int (-114)], vm := .none },
  { cls := 7, slots := #[.int (-113)], vm := .none },
  { cls := 7, slots := #[.int (-112)], vm := .none },
  { cls := 7, slots := #[.int (-111)], vm := .none },
  { cls := 7, slots := #[.int (-110)], vm := .none },
  { cls := 7, slots := #[.int (-109)], vm := .none },
  { cls := 7, slots := #[.int (-108)], vm := .none },
  { cls := 7, slots := #[.int (-107)], vm := .none },
  { cls := 7, slots := #[.int (-106)], vm := .none },
  { cls := 7, slots := #[.int (-105)], vm := .none },
  { cls := 7, slots := #[.int (-104)], vm := .none },
  { cls := 7, slots := #[.int (-103)], vm := .none },
  { cls := 7, slots := #[.int (-102)], vm := .none },
  { cls := 7, slots := #[.int (-101)], vm := .none },
  { cls := 7, slots := #[.int (-100)], vm := .none },
  { cls := 7, slots := #[.int (-99)], vm := .none },
  { cls := 7, slots := #[.int (-98)], vm := .none },
  { cls := 7, slots := #[.int (-97)], vm := .none },
  { cls := 7, slots := #[.int (-96)], vm := .none },
  { cls := 7, slots := #[.int (-95)], vm := .none },
  { cls := 7, slots := #[.int (-94)], vm := .none },
  { cls := 7, slots := #[.int (-93)], vm := .none },
  { cls := 7, slots := #[.int (-92)], vm := .none },
  { cls := 7, slots := #[.int (-91)], vm := .none },
  { cls := 7, slots := #[.int (-90)], vm := .none },
  { cls := 7, slots := #[.int (-89)], vm := .none },
  { cls := 7, slots := #[.int (-88)], vm := .none },
  { cls := 7, slots := #[.int (-87)], vm := .none },
  { cls := 7, slots := #[.int (-86)], vm := .none },
  { cls := 7, slots := #[.int (-85)], vm := .none },
  { cls := 7, slots := #[.int (-84)], vm := .none },
  { cls := 7, slots := #[.int (-83)], vm := .none },
  { cls := 7, slots := #[.int (-82)], vm := .none },
  { cls := 7, slots := #[.int (-81)], vm := .none },
  { cls := 7, slots := #[.int (-80)], vm := .none },
  { cls := 7, slots := #[.int (-79)], vm := .none },
  { cls := 7, slots := #[.int (-78)], vm := .none },
  { cls := 7, slots := #[.int (-77)], vm := .none },
  { cls := 7, slots := #[.int (-76)], vm := .none },
  { cls := 7, slots := #[.int (-75)], vm := .none },
  { cls := 7, slots := #[.int (-74)], vm := .none },
  { cls := 7, slots := #[.int (-73)], vm := .none },
  { cls := 7, slots := #[.int (-72)], vm := .none },
  { cls := 7, slots := #[.int (-71)], vm := .none },
  { cls := 7, slots := #[.int (-70)], vm := .none },
  { cls := 7, slots := #[.int (-69)], vm := .none },
  { cls := 7, slots := #[.int (-68)], vm := .none },
  { cls := 7, slots := #[.int (-67)], vm := .none },
  { cls := 7, slots := #[.int (-66)], vm := .none },
  { cls := 7, slots := #[.int (-65)], vm := .none },
  { cls := 7, slots := #[.int (-64)], vm := .none },
  { cls := 7, slots := #[.int (-63)], vm := .none },
  { cls := 7, slots := #[.int (-62)], vm := .none },
  { cls := 7, slots := #[.int (-61)], vm := .none },
  { cls := 7, slots := #[.int (-60)], vm := .none },
  { cls := 7, slots := #[.int (-59)], vm := .none },
  { cls := 7, slots := #[.int (-58)], vm := .none },
  { cls := 7, slots := #[.int (-57)], vm := .none },
  { cls := 7, slots := #[.int (-56)], vm := .none },
  { cls := 7, slots := #[.int (-55)], vm := .none },
  { cls := 7, slots := #[.int (-54)], vm := .none },
  { cls := 7, slots := #[.int (-53)], vm := .none },
  { cls := 7, slots := #[.int (-52)], vm := .none },
  { cls := 7, slots := #[.int (-51)], vm := .none },
  { cls := 7, slots := #[.int (-50)], vm := .none },
  { cls := 7, slots := #[.int (-49)], vm := .none },
  { cls := 7, slots := #[.int (-48)], vm := .none },
  { cls := 7, slots := #[.int (-47)], vm := .none },
  { cls := 7, slots := #[.int (-46)], vm := .none },
  { cls := 7, slots := #[.int (-45)], vm := .none },
  { cls := 7, slots := #[.int (-44)], vm := .none },
  { cls := 7, slots := #[.int (-43)], vm := .none },
  { cls := 7, slots := #[.int (-42)], vm := .none },
  { cls := 7, slots := #[.int (-41)], vm := .none },
  { cls := 7, slots := #[.int (-40)], vm := .none },
  { cls := 7, slots := #[.int (-39)], vm := .none },
  { cls := 7, slots := #[.int (-38)], vm := .none },
  { cls := 7, slots := #[.int (-37)], vm := .none },
  { cls := 7, slots := #[.int (-36)], vm := .none },
  { cls := 7, slots := #[.int (-35)], vm := .none },
  { cls := 7, slots := #[.int (-34)], vm := .none },
  { cls := 7, slots := #[.int (-33)], vm := .none },
  { cls := 7, slots := #[.int (-32)], vm := .none },
  { cls := 7, slots := #[.int (-31)], vm := .none },
  { cls := 7, slots := #[.int (-30)], vm := .none },
  { cls := 7, slots := #[.int (-29)], vm := .none },
  { cls := 7, slots := #[.int (-28)], vm := .none },
  { cls := 7, slots := #[.int (-27)], vm := .none },
  { cls := 7, slots := #[.int (-26)], vm := .none },
  { cls := 7, slots := #[.int (-25)], vm := .none },
  { cls := 7, slots := #[.int (-24)], vm := .none },
  { cls := 7, slots := #[.int (-23)], vm := .none },
  { cls := 7, slots := #[.int (-22)], vm := .none },
  { cls := 7, slots := #[.int (-21)], vm := .none },
  { cls := 7, slots := #[.int (-20)], vm := .none },
  { cls := 7, slots := #[.int (-19)], vm := .none },
  { cls := 7, slots := #[.int (-18)], vm := .none },
  { cls := 7, slots := #[.int (-17)], vm := .none },
  { cls := 7, slots := #[.int (-16)], vm := .none },
  { cls := 7, slots := #[.int (-15)], vm := .none },
  { cls := 7, slots := #[.int (-14)], vm := .none },
  { cls := 7, slots := #[.int (-13)], vm := .none },
  { cls := 7, slots := #[.int (-12)], vm := .none },
  { cls := 7, slots := #[.int (-11)], vm := .none },
  { cls := 7, slots := #[.int (-10)], vm := .none },
  { cls := 7, slots := #[.int (-9)], vm := .none },
  { cls := 7, slots := #[.int (-8)], vm := .none },
  { cls := 7, slots := #[.int (-7)], vm := .none },
  { cls := 7, slots := #[.int (-6)], vm := .none },
  { cls := 7, slots := #[.int (-5)], vm := .none },
  { cls := 7, slots := #[.int (-4)], vm := .none },
  { cls := 7, slots := #[.int (-3)], vm := .none },
  { cls := 7, slots := #[.int (-2)], vm := .none },
  { cls := 7, slots := #[.int (-1)], vm := .none },
  { cls := 7, slots := #[.int 0], vm := .none },
  { cls := 7, slots := #[.int 1], vm := .none },
  { cls := 7, slots := #[.int 2], vm := .none },
  { cls := 7, slots := #[.int 3], vm := .none },
  { cls := 7, slots := #[.int 4], vm := .none },
  { cls := 7, slots := #[.int 5], vm := .none },
  { cls := 7, slots := #[.int 6], vm := .none },
  { cls := 7, slots := #[.int 7], vm := .none },
  { cls := 7, slots := #[.int 8], vm := .none },
  { cls := 7, slots := #[.int 9], vm := .none },
  { cls := 7, slots := #[.int 10], vm := .none },
  { cls := 7, slots := #[.int 11], vm := .none },
  { cls := 7, slots := #[.int 12], vm := .none },
  { cls := 7, slots := #[.int 13], vm := .none },
  { cls := 7, slots := #[.int 14], vm := .none },
  { cls := 7, slots := #[.int 15], vm := .none },
  { cls := 7, slots := #[.int 16], vm := .none },
  { cls := 7, slots := #[.int 17], vm := .none },
  { cls := 7, slots := #[.int 18], vm := .none },
  { cls := 7, slots := #[.int 19], vm := .none },
  { cls := 7, slots := #[.int 20], vm := .none },
  { cls := 7, slots := #[.int 21], vm := .none },
  { cls := 7, slots := #[.int 22], vm := .none },
  { cls := 7, slots := #[.int 23], vm := .none },
  { cls := 7, slots := #[.int 24], vm := .none },
  { cls := 7, slots := #[.int 25], vm := .none },
  { cls := 7, slots := #[.int 26], vm := .none },
  { cls := 7, slots := #[.int 27], vm := .none },
  { cls := 7, slots := #[.int 28], vm := .none },
  { cls := 7, slots := #[.int 29], vm := .none },
  { cls := 7, slots := #[.int 30], vm := .none },
  { cls := 7, slots := #[.int 31], vm := .none },
  { cls := 7, slots := #[.int 32], vm := .none },
  { cls := 7, slots := #[.int 33], vm := .none },
  { cls := 7, slots := #[.int 34], vm := .none },
  { cls := 7, slots := #[.int 35], vm := .none },
  { cls := 7, slots := #[.int 36], vm := .none },
  { cls := 7, slots := #[.int 37], vm := .none },
  { cls := 7, slots := #[.int 38], vm := .none },
  { cls := 7, slots := #[.int 39], vm := .none },
  { cls := 7, slots := #[.int 40], vm := .none },
  { cls := 7, slots := #[.int 41], vm := .none },
  { cls := 7, slots := #[.int 42], vm := .none },
  { cls := 7, slots := #[.int 43], vm := .none },
  { cls := 7, slots := #[.int 44], vm := .none },
  { cls := 7, slots := #[.int 45], vm := .none },
  { cls := 7, slots := #[.int 46], vm := .none },
  { cls := 7, slots := #[.int 47], vm := .none },
  { cls := 7, slots := #[.int 48], vm := .none },
  { cls := 7, slots := #[.int 49], vm := .none },
  { cls := 7, slots := #[.int 50], vm := .none },
  { cls := 7, slots := #[.int 51], vm := .none },
  { cls := 7, slots := #[.int 52], vm := .none },
  { cls := 7, slots := #[.int 53], vm := .none },
  { cls := 7, slots := #[.int 54], vm := .none },
  { cls := 7, slots := #[.int 55], vm := .none },
  { cls := 7, slots := #[.int 56], vm := .none },
  { cls := 7, slots := #[.int 57], vm := .none },
  { cls := 7, slots := #[.int 58], vm := .none },
  { cls := 7, slots := #[.int 59], vm := .none },
  { cls := 7, slots := #[.int 60], vm := .none },
  { cls := 7, slots := #[.int 61], vm := .none },
  { cls := 7, slots := #[.int 62], vm := .none },
  { cls := 7, slots := #[.int 63], vm := .none },
  { cls := 7, slots := #[.int 64], vm := .none },
  { cls := 7, slots := #[.int 65], vm := .none },
  { cls := 7, slots := #[.int 66], vm := .none },
  { cls := 7, slots := #[.int 67], vm := .none },
  { cls := 7, slots := #[.int 68], vm := .none },
  { cls := 7, slots := #[.int 69], vm := .none },
  { cls := 7, slots := #[.int 70], vm := .none },
  { cls := 7, slots := #[.int 71], vm := .none },
  { cls := 7, slots := #[.int 72], vm := .none },
  { cls := 7, slots := #[.int 73], vm := .none },
  { cls := 7, slots := #[.int 74], vm := .none },
  { cls := 7, slots := #[.int 75], vm := .none },
  { cls := 7, slots := #[.int 76], vm := .none },
  { cls := 7, slots := #[.int 77], vm := .none },
  { cls := 7, slots := #[.int 78], vm := .none },
  { cls := 7, slots := #[.int 79], vm := .none },
  { cls := 7, slots := #[.int 80], vm := .none },
  { cls := 7, slots := #[.int 81], vm := .none },
  { cls := 7, slots := #[.int 82], vm := .none },
  { cls := 7, slots := #[.int 83], vm := .none },
  { cls := 7, slots := #[.int 84], vm := .none },
  { cls := 7, slots := #[.int 85], vm := .none },
  { cls := 7, slots := #[.int 86], vm := .none },
  { cls := 7, slots := #[.int 87], vm := .none },
  { cls := 7, slots := #[.int 88], vm := .none },
  { cls := 7, slots := #[.int 89], vm := .none },
  { cls := 7, slots := #[.int 90], vm := .none },
  { cls := 7, slots := #[.int 91], vm := .none },
  { cls := 7, slots := #[.int 92], vm := .none },
  { cls := 7, slots := #[.int 93], vm := .none },
  { cls := 7, slots := #[.int 94], vm := .none },
  { cls := 7, slots := #[.int 95], vm := .none },
  { cls := 7, slots := #[.int 96], vm := .none },
  { cls := 7, slots := #[.int 97], vm := .none },
  { cls := 7, slots := #[.int 98], vm := .none },
  { cls := 7, slots := #[.int 99], vm := .none },
  { cls := 7, slots := #[.int 100], vm := .none },
  { cls := 7, slots := #[.int 101], vm := .none },
  { cls := 7, slots := #[.int 102], vm := .none },
  { cls := 7, slots := #[.int 103], vm := .none },
  { cls := 7, slots := #[.int 104], vm := .none },
  { cls := 7, slots := #[.int 105], vm := .none },
  { cls := 7, slots := #[.int 106], vm := .none },
  { cls := 7, slots := #[.int 107], vm := .none },
  { cls := 7, slots := #[.int 108], vm := .none },
  { cls := 7, slots := #[.int 109], vm := .none },
  { cls := 7, slots := #[.int 110], vm := .none },
  { cls := 7, slots := #[.int 111], vm := .none },
  { cls := 7, slots := #[.int 112], vm := .none },
  { cls := 7, slots := #[.int 113], vm := .none },
  { cls := 7, slots := #[.int 114], vm := .none },
  { cls := 7, slots := #[.int 115], vm := .none },
  { cls := 7, slots := #[.int 116], vm := .none },
  { cls := 7, slots := #[.int 117], vm := .none },
  { cls := 7, slots := #[.int 118], vm := .none },
  { cls := 7, slots := #[.int 119], vm := .none },
  { cls := 7, slots := #[.int 120], vm := .none },
  { cls := 7, slots := #[.int 121], vm := .none },
  { cls := 7, slots := #[.int 122], vm := .none },
  { cls := 7, slots := #[.int 123], vm := .none },
  { cls := 7, slots := #[.int 124], vm := .none },
  { cls := 7, slots := #[.int 125], vm := .none },
  { cls := 7, slots := #[.int 126], vm := .none },
  { cls := 7, slots := #[.int 127], vm := .none }]
def classes : Array Class := #[k0, k1, k2, k3, k4, k5, k6, k7, k8, k9, k10, k11, k12, k13, k14, k15, k16]
def interned : List (Array UInt16 × Addr) := []
def slotsUsed : Nat := 517
def theMethod : MethodId := ⟨1, 1⟩
def args0 : Array Value := #[.int 1, .int 2, .int 3, .int 0]
def aboutOver (below : List Frame) : State where
  vm := { classes := classes, interned := interned.toArray }
  heap := heap
  slotsUsed := slotsUsed
  threads := #[{ frames := .invoking theMethod args0 :: below }]
def below0 : List Frame := [.native { method := ⟨0, 0⟩, args := #[] }]
def about1 : State := aboutOver below0
def p0 : Program := .bare "" "" ""
def e0 : Env := launch0.env 0 0 0
theorem w_frames : about1.frames = Frame.invoking theMethod args0 :: below0 := rfl
set_option maxRecDepth 65536 in
theorem w_args : argsFit about1.vm theMethod args0 = true := by decide +kernel
set_option maxRecDepth 65536 in
theorem w_heap : heapFits about1 = true := by decide +kernel
set_option maxRecDepth 65536 in
theorem w_runnable : about1.curStatus? = some .runnable := by decide +kernel
set_option maxRecDepth 65536 in
theorem w_alone : about1.alone = true := by decide +kernel
set_option maxRecDepth 65536 in
theorem w_named : about1.methodNamed? x = some theMethod := by decide +kernel
set_option maxRecDepth 65536 in
theorem w_hears : about1.hears theMethod below0 = true := by decide +kernel
set_option maxRecDepth 65536 in
theorem w_ripe : about1.ripe theMethod args0 below0 = true := by decide +kernel
theorem w_running : about1.status = .running := rfl
set_option maxRecDepth 65536 in
theorem w_room : about1.hasRoom e0.platform room_1 = true :=
  launch0.hasRoom_least _ room_1 (by decide +kernel) (by decide +kernel) (by decide +kernel) (by decide +kernel) (by decide +kernel) (by decide +kernel)
theorem allAtoms_all (ts : List Jvm.Cond) (a : Array Jvm.Value) (st : Jvm.State) : (allAtoms ts).before a st = ts.all (fun c => c.before a st) := by
  induction ts with
  | nil => rfl
  | cons c t ih =>
    show (Jvm.Cond.and c (allAtoms t)).before a st = _
    rw [Jvm.Cond.before_and, ih, List.all_cons]
def words1 : List Jvm.Cond := Jvm.Cond.code x code maxLocals ret :: tables_1
/-- a 'code' word, met by the world's own term for the bytes: nothing is compared byte by byte -/
theorem code_word {y : MethodName} {bytes : ByteArray} {mx : Nat} {rt : Option FieldType} {a : Array Value} {s : State} {m : MethodId} {meth : Method} {c : Code} (h1 : s.methodNamed? y = some m) (h2 : s.vm.method? m = some meth) (h3 : meth.code = some c) (h4 : c.code = bytes)
    (h5 : (c.maxLocals == mx && c.exceptionTable.isEmpty && decide (c.maxStack ≤ mostOperands) && decide (meth.sig.returnType = rt) && !meth.locks && decide (parseMethodDescriptor y.desc = some meth.sig)) = true) : (Jvm.Cond.code y bytes mx rt).before a s = true := by
  simp only [Bool.and_eq_true, beq_iff_eq, Bool.not_eq_true', decide_eq_true_eq] at h5
  obtain ⟨⟨⟨⟨⟨g1, g2⟩, g3⟩, g4⟩, g5⟩, g6⟩ := h5
  simp [Cond.before, Cond.holds, Cond.value, h1, h2, h3, h4, g1, g2, g3, g4, g5, g6]
def isCode : Jvm.Cond → Bool
  | .code _ _ _ _ => true
  | _ => false
theorem all_split {L : List Jvm.Cond} {P : Jvm.Cond → Bool} (h1 : L.all (fun c => isCode c || P c) = true) (h2 : ∀ c ∈ L.filter isCode, P c = true) : L.all P = true := by
  refine List.all_eq_true.mpr fun c hc => ?_
  have h := List.all_eq_true.mp h1 c hc
  rcases Bool.eq_false_or_eq_true (isCode c) with hi | hi
  · exact h2 c (List.mem_filter.mpr ⟨hc, hi⟩)
  · simpa [hi] using h
set_option maxRecDepth 65536 in
theorem w_c0 : (Jvm.Cond.code x code maxLocals ret).before args0 about1 = true := code_word (m := ⟨1, 1⟩) (meth := k1m1) (c := k1c1) (by decide +kernel) rfl rfl rfl (by decide +kernel)
set_option maxRecDepth 65536 in
theorem w_c1 : (Jvm.Cond.code ({ cls := "java/lang/Integer", name := "valueOf", desc := "(I)Ljava/lang/Integer;" } : Jvm.MethodName) jdk_33_method_22_code (1 : Nat) (Option.some (Jvm.ClassFile.FieldType.object "java/lang/Integer"))).before args0 about1 = true := code_word (m := ⟨7, 0⟩) (meth := k7m0) (c := k7c0) (by decide +kernel) rfl rfl rfl (by decide +kernel)
set_option maxRecDepth 65536 in
theorem w_c2 : (Jvm.Cond.code ({ cls := "com/example/llave/llave/service/Change", name := "<init>", desc := "(ZLjava/lang/Object;)V" } : Jvm.MethodName) prog_63_method_1_code (3 : Nat) (Option.none : Option Jvm.ClassFile.FieldType)).before args0 about1 = true := code_word (m := ⟨10, 0⟩) (meth := k10m0) (c := k10c0) (by decide +kernel) rfl rfl rfl (by decide +kernel)
set_option maxRecDepth 65536 in
theorem w_c3 : (Jvm.Cond.code ({ cls := "java/lang/Record", name := "<init>", desc := "()V" } : Jvm.MethodName) jdk_30_method_1_code (1 : Nat) (Option.none : Option Jvm.ClassFile.FieldType)).before args0 about1 = true := code_word (m := ⟨9, 0⟩) (meth := k9m0) (c := k9c0) (by decide +kernel) rfl rfl rfl (by decide +kernel)
set_option maxRecDepth 65536 in
theorem w_c4 : (Jvm.Cond.code ({ cls := "java/lang/Object", name := "<init>", desc := "()V" } : Jvm.MethodName) object_method_1_code (1 : Nat) (Option.none : Option Jvm.ClassFile.FieldType)).before args0 about1 = true := code_word (m := ⟨0, 0⟩) (meth := k0m0) (c := k0c0) (by decide +kernel) rfl rfl rfl (by decide +kernel)
set_option maxRecDepth 65536 in
theorem w_c5 : (Jvm.Cond.code ({ cls := "com/example/llave/llave/service/Change", name := "applyTo", desc := "(Ljava/lang/Object;)Ljava/lang/Object;" } : Jvm.MethodName) prog_63_method_4_code (2 : Nat) (Option.some (Jvm.ClassFile.FieldType.object "java/lang/Object"))).before args0 about1 = true := code_word (m := ⟨10, 1⟩) (meth := k10m1) (c := k10c1) (by decide +kernel) rfl rfl rfl (by decide +kernel)
set_option maxRecDepth 65536 in
theorem w_c6 : (Jvm.Cond.code ({ cls := "java/lang/Integer", name := "<init>", desc := "(I)V" } : Jvm.MethodName) jdk_33_method_23_code (2 : Nat) (Option.none : Option Jvm.ClassFile.FieldType)).before args0 about1 = true := code_word (m := ⟨7, 1⟩) (meth := k7m1) (c := k7c1) (by decide +kernel) rfl rfl rfl (by decide +kernel)
set_option maxRecDepth 65536 in
theorem w_c7 : (Jvm.Cond.code ({ cls := "java/lang/Number", name := "<init>", desc := "()V" } : Jvm.MethodName) jdk_18_method_1_code (1 : Nat) (Option.none : Option Jvm.ClassFile.FieldType)).before args0 about1 = true := code_word (m := ⟨3, 0⟩) (meth := k3m0) (c := k3c0) (by decide +kernel) rfl rfl rfl (by decide +kernel)
def codes1 : List Jvm.Cond := [Jvm.Cond.code x code maxLocals ret, Jvm.Cond.code ({ cls := "java/lang/Integer", name := "valueOf", desc := "(I)Ljava/lang/Integer;" } : Jvm.MethodName) jdk_33_method_22_code (1 : Nat) (Option.some (Jvm.ClassFile.FieldType.object "java/lang/Integer")), Jvm.Cond.code ({ cls := "com/example/llave/llave/service/Change", name := "<init>", desc := "(ZLjava/lang/Object;)V" } : Jvm.MethodName) prog_63_method_1_code (3 : Nat) (Option.none : Option Jvm.ClassFile.FieldType), Jvm.Cond.code ({ cls := "java/lang/Record", name := "<init>", desc := "()V" } : Jvm.MethodName) jdk_30_method_1_code (1 : Nat) (Option.none : Option Jvm.ClassFile.FieldType), Jvm.Cond.code ({ cls := "java/lang/Object", name := "<init>", desc := "()V" } : Jvm.MethodName) object_method_1_code (1 : Nat) (Option.none : Option Jvm.ClassFile.FieldType), Jvm.Cond.code ({ cls := "com/example/llave/llave/service/Change", name := "applyTo", desc := "(Ljava/lang/Object;)Ljava/lang/Object;" } : Jvm.MethodName) prog_63_method_4_code (2 : Nat) (Option.some (Jvm.ClassFile.FieldType.object "java/lang/Object")), Jvm.Cond.code ({ cls := "java/lang/Integer", name := "<init>", desc := "(I)V" } : Jvm.MethodName) jdk_33_method_23_code (2 : Nat) (Option.none : Option Jvm.ClassFile.FieldType), Jvm.Cond.code ({ cls := "java/lang/Number", name := "<init>", desc := "()V" } : Jvm.MethodName) jdk_18_method_1_code (1 : Nat) (Option.none : Option Jvm.ClassFile.FieldType)]
set_option maxRecDepth 65536 in
theorem codes_eq : words1.filter isCode = codes1 := rfl
theorem w_codes : ∀ c ∈ words1.filter isCode, c.before args0 about1 = true := by
  rw [codes_eq]
  intro c hc
  simp only [codes1, List.mem_cons, List.not_mem_nil, or_false] at hc
  rcases hc with rfl | rfl | rfl | rfl | rfl | rfl | rfl | rfl
  · exact w_c0
  · exact w_c1
  · exact w_c2
  · exact w_c3
  · exact w_c4
  · exact w_c5
  · exact w_c6
  · exact w_c7
set_option maxRecDepth 65536 in
theorem w_t1 : (words1.take 24).all (fun c => isCode c || c.before args0 about1) = true := by decide +kernel
set_option maxRecDepth 65536 in
theorem w_t2 : (words1.drop 24).all (fun c => isCode c || c.before args0 about1) = true := by decide +kernel
theorem w_tables : (allAtoms (Jvm.Cond.code x code maxLocals ret :: tables_1)).before args0 about1 = true := by
  rw [allAtoms_all]
  show words1.all (fun c => c.before args0 about1) = true
  refine all_split ?_ w_codes
  rw [← List.take_append_drop 24 words1, List.all_append, w_t1, w_t2]
  rfl
set_option maxRecDepth 65536 in
theorem w_rest : rest_1_c.before args0 about1 = true := by decide +kernel
set_option maxRecDepth 65536 in
theorem w_case : (Jvm.Cond.and given_1 narrow_1).before args0 about1 = true := by decide +kernel
theorem w_applies : (headSpec (Jvm.Cond.code x code maxLocals ret :: tables_1) room_1).applies x e0.platform about1 = true :=
  (Spec.applies_iff w_frames).mpr ⟨w_running, w_runnable, w_alone, w_named, w_hears, w_ripe, w_room, w_tables⟩
theorem atStart : AtStart classFile x code maxLocals ret World_1 tables_1 room_1 Calls_1 rest_1 Pre_1 launch0 p0 e0 about1 theMethod args0 below0 :=
  ⟨lists_1, trivial, launch0.admits_env _ _ _, launch0.least_env, fairChoices_fair.cas, fairChoices_fair.clock, w_frames, w_args, w_heap, w_applies, trivial, w_rest, w_case⟩
end start1
theorem witness_1 : WitnessClaimed_1 := ⟨start1.p0, start1.e0, start1.about1, start1.theMethod, start1.args0, start1.below0, start1.atStart⟩
end Jvm.Pilot.@@N@@
