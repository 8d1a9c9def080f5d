import JvmDerived
import JvmDerived.Pilot.@@N@@Statement
import JvmDerived.Pilot.@@N@@Code
set_option linter.unusedVariables false
set_option linter.unusedSimpArgs false

namespace Jvm.Pilot.@@N@@
open Jvm Jvm.ClassFile Sem Op Lib Jvm.Free Jvm.Stand Jvm.LawKit Jvm.RoadKit Bundle Jvm.Pilot.@@N@@.Jvm.D
abbrev oi (x : Int32) : Slot := .val (.int x)
abbrev oa (x : Addr) : Slot := .val (.ref x)
/-- from here the run comes to its end with what P says -/
def oGo (p : Program) (e : Env) (below : List Frame) (P : Outcome → State → Prop) (T : State) (g : JFrame) : Prop := ∃ s₂ o, Steps p.tables e below (T.setTop g) s₂ ∧ s₂.status = .running ∧ Ended s₂ below o ∧ P o s₂
theorem oby {p : Program} {e : Env} {below : List Frame} {P : Outcome → State → Prop} {T T' : State} {g g' : JFrame} (k : ∀ t, Steps p.tables e below (T'.setTop g') t → Steps p.tables e below (T.setTop g) t) (h : oGo p e below P T' g') : oGo p e below P T g := by
  obtain ⟨s₂, o, h1, h2⟩ := h
  exact ⟨s₂, o, k _ h1, h2⟩
theorem ostart {p : Program} {e : Env} {below : List Frame} {P : Outcome → State → Prop} {T : State} {g g' : JFrame} (q : g = g') (h : oGo p e below P T g') : ∃ s₂ o, Steps p.tables e below (T.setTop g) s₂ ∧ s₂.status = .running ∧ Ended s₂ below o ∧ P o s₂ := by subst q; exact h
theorem oout {p : Program} {e : Env} {below : List Frame} {P : Outcome → State → Prop} {T s₂ : State} {g : JFrame} {o : Outcome} (h1 : Steps p.tables e below (T.setTop g) s₂) (h2 : s₂.status = .running) (h3 : Ended s₂ below o) (h4 : P o s₂) : oGo p e below P T g := ⟨s₂, o, h1, h2, h3, h4⟩
theorem ob {p : Program} {e : Env} {below : List Frame} {P : Outcome → State → Prop} {T : State} {g : JFrame} (T' : State) (g' : JFrame) (k : ∀ t, Steps p.tables e below (T'.setTop g') t → Steps p.tables e below (T.setTop g) t) (h : oGo p e below P T' g') : oGo p e below P T g := oby k h
theorem osuff {p : Program} {e : Env} {below : List Frame} {P : Outcome → State → Prop} {T T' : State} {g g' : JFrame} (h1 : oGo p e below P T' g' → oGo p e below P T g) (h2 : oGo p e below P T' g') : oGo p e below P T g := h1 h2
theorem ow {L : List Jvm.Cond} {Z : State} {a0 : Array Value} (hw : ∀ d ∈ L, d.before a0 Z = true) (k : Nat) {d : Jvm.Cond} (h : L[k]? = some d) : d.before a0 Z = true := hw d (List.mem_of_getElem? h)
theorem on0 {Z : State} {n0 : Nat} {h : Heap} (O : Old Z n0 h) : n0 ≤ h.size := by have h1 := O.1; have h2 := O.2.1; omega
theorem oretA {p : Program} {l : Launch} {e : Env} {R : Room} {s : State} {m : MethodId} {args : Array Value} {below : List Frame} {meth : Method} {c : Code} {T : State} {locs : List Loc} {cells slots : Nat} (X : Stand p l e R s m args below meth c T locs cells slots) (hx : p.tables.exec = Jvm.exec) {pc : Nat} {Ls : Array Slot} {w : Value} {t : FieldType} {rest : List Value} (hret : meth.sig.returnType = some t) (ht : t.isReference = true) (hw : w.isRef = true)
    (hd : decode c.code pc = .ok (.areturn, 1)) {fs : List Frame} (hl : ∀ (f : JFrame) (acts : List Action), f.method = m → f.locked = none → f.entered = [] → (doReturn e (T.setTop f) acts (some w)).1 = T.setFrames fs) :
    Steps p.tables e below (T.setTop (mkF m pc Ls (w :: rest))) (T.setFrames fs) :=
  retOut X hx hret (by cases w <;> first | (simp [Value.isRef] at hw; done) | (cases t <;> rfl)) (Or.inr (Or.inr (Or.inr (Or.inr ⟨rfl, ht, hw⟩)))) hd hl

theorem own_sta {s : State} {args : Array Value} {C n d K : String} (h : (Cond.exactly (.static C n d) K).value args s none s [] = some true) (hi : (Cond.initializedFor C n d).before args s = true ∨ ((Cond.initialized C).before args s = true ∧ (Cond.laysStatic C n d).before args s = true)) :
    ∃ a, (Term.static C n d).eval args s none [] s = some (.ref a) ∧ Sta s s.heap C n d (.ref a) ∧ Exa s s.heap a K := by
  obtain ⟨a, ev⟩ := exa_v h
  exact ⟨a, ev, Sta.start ev hi, Exa.start ev h⟩
theorem own_fldI {s : State} {args : Array Value} {t : Term} {a : Addr} {C n d : String} {k : Int32} (ev : t.eval args s none [] s = some (.ref a)) (h : (Cond.eq (.field t C n d) (.int k)).value args s none s [] = some true) : Fld s s.heap a C n d (.int k) := by
  obtain ⟨x, y, ex, ey, k1, k2⟩ := cmp_v (Or.inl h)
  have e2 : y = .int k := (Option.some.inj ((Term.int_eval k).symm.trans ey)).symm
  subst e2
  obtain ⟨z, rfl⟩ := k2
  have e3 : z = k := gotT (Cond.eq_ints ex ey) h
  subst e3
  exact Fld.start ((fld_at ev).symm.trans ex)
theorem own_fldL {s : State} {args : Array Value} {t : Term} {a : Addr} {C n d : String} {k : Int64} (ev : t.eval args s none [] s = some (.ref a)) (h : (Cond.eq (.field t C n d) (.long k)).value args s none s [] = some true) : Fld s s.heap a C n d (.long k) := by
  obtain ⟨x, y, ex, ey, k1, k2⟩ := cmp_v (Or.inl h)
  have e2 : y = .long k := by simpa [Term.eval] using ey.symm
  subst e2
  obtain ⟨z, rfl⟩ := k2
  have e3 : z = k := gotT (eq_L ex ey) h
  subst e3
  exact Fld.start ((fld_at ev).symm.trans ex)
theorem own_fldN {s : State} {args : Array Value} {t : Term} {a : Addr} {C n d : String} (ev : t.eval args s none [] s = some (.ref a)) (h : (Cond.eq (.field t C n d) .null).value args s none s [] = some true) : Fld s s.heap a C n d .null :=
  Fld.start ((fld_at ev).symm.trans (null_v h))
theorem pn_0 : plainName "com/example/rigorous_sourcing/rigoroussourcing/domain/Paging" = true := by first | (simp [plainName, overriddenIn]; done) | decide +kernel
theorem pn_1 : plainName "java/util/OptionalLong" = true := by first | (simp [plainName, overriddenIn]; done) | decide +kernel
theorem pn_2 : plainName "com/example/rigorous_sourcing/rigoroussourcing/domain/PagingNextOffsetPinLaw" = true := by first | (simp [plainName, overriddenIn]; done) | decide +kernel
def St0 (Z : State) (w_EMPTY : Addr) : Prop := Sta Z Z.heap "java/util/OptionalLong" "EMPTY" "Ljava/util/OptionalLong;" (.ref w_EMPTY) ∧ Exa Z Z.heap w_EMPTY "java/util/OptionalLong" ∧ Fld Z Z.heap w_EMPTY "java/util/OptionalLong" "isPresent" "Z" (.int (0 : Int32)) ∧ Fld Z Z.heap w_EMPTY "java/util/OptionalLong" "value" "J" (.long (0 : Int64))

theorem d1_0 : decode prog_18_method_1_code 0 = .ok (.aload_n 0, 1) := by decide +kernel
theorem d1_1 : decode prog_18_method_1_code 1 = .ok (.invokespecial 3, 3) := by decide +kernel
theorem d1_4 : decode prog_18_method_1_code 4 = .ok (.aload_n 0, 1) := by decide +kernel
theorem d1_5 : decode prog_18_method_1_code 5 = .ok (.lload_n 1, 1) := by decide +kernel
theorem d1_6 : decode prog_18_method_1_code 6 = .ok (.putfield 9, 3) := by decide +kernel
theorem d1_9 : decode prog_18_method_1_code 9 = .ok (.aload_n 0, 1) := by decide +kernel
theorem d1_10 : decode prog_18_method_1_code 10 = .ok (.iload_n 3, 1) := by decide +kernel
theorem d1_11 : decode prog_18_method_1_code 11 = .ok (.putfield 15, 3) := by decide +kernel
theorem d1_14 : decode prog_18_method_1_code 14 = .ok (.return_, 1) := by decide +kernel
def Q_rm_pgi (Z : State) (w_EMPTY : Addr) (a : Addr) (q : Int64) (i : Int32) (u0 : Value) (u1 : Value) (h0 : Heap) (n0 : Nat) (v : Option Value) (h : Heap) (L : List Loc) : Prop := v = none ∧ Fr n0 L ∧ Keep h0 h [a] ∧ Old Z n0 h ∧ Fld Z h a "com/example/rigorous_sourcing/rigoroussourcing/domain/Paging" "mOffset" "J" (.long q) ∧ Fld Z h a "com/example/rigorous_sourcing/rigoroussourcing/domain/Paging" "mPageSize" "I" (.int i)
set_option maxRecDepth 65536 in
set_option maxHeartbeats 40000000 in
theorem rm_pgi (l : Launch) (Z : State) (a0 : Array Value) (hw : ∀ d ∈ tables_1, d.before a0 Z = true) (ws : List Jvm.Cond) (w_EMPTY : Addr) (a : Addr) (q : Int64) (i : Int32) (u0 : Value) (u1 : Value) (h0 : Heap) (n0 : Nat) (O0 : Old Z n0 h0) (hS : St0 Z w_EMPTY ) (E_a : Exa Z h0 a "com/example/rigorous_sourcing/rigoroussourcing/domain/Paging") (F_0 : Fld Z h0 a "com/example/rigorous_sourcing/rigoroussourcing/domain/Paging" "mOffset" "J" u0) (F_1 : Fld Z h0 a "com/example/rigorous_sourcing/rigoroussourcing/domain/Paging" "mPageSize" "I" u1) (n_a : n0 ≤ a) :
    MetFree l (⟨"com/example/rigorous_sourcing/rigoroussourcing/domain/Paging", "<init>", "(JI)V"⟩ : MethodName) (head1 (Jvm.Cond.code (⟨"com/example/rigorous_sourcing/rigoroussourcing/domain/Paging", "<init>", "(JI)V"⟩ : MethodName) prog_18_method_1_code 4 none :: ws) ({ frames := 1, cells := 0, slots := 0, locals := 12 } : Room)) (fun aG UG => aG = #[(.ref a), (.long q), (.int i)] ∧ Z.Warmed39 UG.vm ∧ UG.heap = h0) (fun _ _ _ _ _ => True) (fun _ UG oG UG' => ∃ vG LG, oG = .returned vG ∧ Q_rm_pgi Z w_EMPTY a q i u0 u1 h0 n0 vG UG'.heap LG ∧ FrameEnd UG oG UG' LG ({ frames := 1, cells := 0, slots := 0, locals := 12 } : Room).cells ({ frames := 1, cells := 0, slots := 0, locals := 12 } : Room).slots) := by
  refine MetFree.of_bodySF (plainFor_of_name pn_0) hisR ?_
  intro pG eG sG mG argsG belowG methG cG s₁ Bd hml0 hP hK
  obtain ⟨rfl, hZ, hh⟩ := hP
  have hx := Bd.exec
  have hby := Bd.bytes
  have hml : cG.maxLocals = 4 := hml0
  have hown : sG.vm.findClass "com/example/rigorous_sourcing/rigoroussourcing/domain/Paging" = some mG.cls := findClass_of_methodNamed Bd.named
  have hnm := (name_of_methodNamed Bd.named Bd.method).1
  have X0 : Stand pG l eG ({ frames := 1, cells := 0, slots := 0, locals := 12 } : Room) sG mG #[(.ref a), (.long q), (.int i)] belowG methG cG s₁ [] 0 0 := Stand.of_body Bd
  have e0 : s₁.heap = h0 := by rw [← hh, Bd.state]; rfl
  have N0 := Fr.nil n0
  have K0 := Keep.refl h0 [a]
  obtain ⟨S_w_EMPTY, E_w_EMPTY, F_w_EMPTY_isPresent, F_w_EMPTY_value⟩ := (id hS : St0 Z w_EMPTY )
  refine ostart (g' := (mkF mG 0 #[.val (.ref a), .val (.long q), .second, .val (.int i)] [])) (by first | (simp [entryFrame, mkF, argsToLocals, Value.category]; done) | rfl) ?_
  refine ob s₁ (mkF mG 1 #[.val (.ref a), .val (.long q), .second, .val (.int i)] [(.ref a)]) (fun _ kk => XS.aloadN X0.here hx rfl (hb hby d1_0) rfl rfl kk) ?_
  obtain ⟨T1, X1, e1, st1⟩ := initO X0 hx hZ hown (ow hw 8 rfl) (ow hw 9 rfl) (ow hw 10 rfl) e0 (g := (mkF mG 1 #[.val (.ref a), .val (.long q), .second, .val (.int i)] [(.ref a)])) rfl (by rw [hml]; rfl) rfl (hb hby d1_1) (by decide) (W := 0) (by show 2 * 0 + _ ≤ _; exact Nat.le_of_eq rfl) (by decide)
  refine ob T1 (mkF mG 4 #[.val (.ref a), .val (.long q), .second, .val (.int i)] []) (fun _ kk => st1 _ kk) ?_
  refine ob T1 (mkF mG 5 #[.val (.ref a), .val (.long q), .second, .val (.int i)] [(.ref a)]) (fun _ kk => XS.aloadN X1.here hx rfl (hb hby d1_4) rfl rfl kk) ?_
  refine ob T1 (mkF mG 6 #[.val (.ref a), .val (.long q), .second, .val (.int i)] [(.long q), (.ref a)]) (fun _ kk => XS.lloadN X1.here hx rfl (hb hby d1_5) rfl kk) ?_
  obtain ⟨T2, h2, X2, e2, W2, st2⟩ := putF X1 hx hZ hown (host := "") (Or.inl (ow hw 11 rfl)) Via.refl e1 F_0 E_a (Or.inr ⟨(ow hw 12 rfl), rfl, hnm⟩) (ow hw 3 rfl) (ty := .long) (by decide) rfl rfl (g := (mkF mG 6 #[.val (.ref a), .val (.long q), .second, .val (.int i)] [(.long q), (.ref a)])) rfl rfl (hb hby d1_6)
  have F2 := F_0.same W2
  have O2 := O0.wr W2 n_a
  have K2 := K0.wr W2 (Or.inl (List.mem_of_getElem? (i := 0) rfl))
  have N2 := Fr.snoc X2 N0 n_a
  refine ob T2 (mkF mG 9 #[.val (.ref a), .val (.long q), .second, .val (.int i)] []) (fun _ kk => st2 _ kk) ?_
  refine ob T2 (mkF mG 10 #[.val (.ref a), .val (.long q), .second, .val (.int i)] [(.ref a)]) (fun _ kk => XS.aloadN X2.here hx rfl (hb hby d1_9) rfl rfl kk) ?_
  refine ob T2 (mkF mG 11 #[.val (.ref a), .val (.long q), .second, .val (.int i)] [(.int i), (.ref a)]) (fun _ kk => XS.iloadN X2.here hx rfl (hb hby d1_10) rfl kk) ?_
  obtain ⟨T3, h3, X3, e3, W3, st3⟩ := putF X2 hx hZ hown (host := "") (Or.inl (ow hw 13 rfl)) Via.refl e2 (F_1.other W2 (Or.inr (slot_ne (Or.inr (ow hw 14 rfl)) (Or.inr (ow hw 12 rfl)) (by decide) (t := .int) (t' := .long) (by decide) (by decide)))) (E_a.wr W2) (Or.inr ⟨(ow hw 14 rfl), rfl, hnm⟩) (ow hw 3 rfl) (ty := .int) (by decide) rfl rfl (g := (mkF mG 11 #[.val (.ref a), .val (.long q), .second, .val (.int i)] [(.int i), (.ref a)])) rfl rfl (hb hby d1_11)
  have F3 := (F_1.other W2 (Or.inr (slot_ne (Or.inr (ow hw 14 rfl)) (Or.inr (ow hw 12 rfl)) (by decide) (t := .int) (t' := .long) (by decide) (by decide)))).same W3
  have O3 := O2.wr W3 n_a
  have K3 := K2.wr W3 (Or.inl (List.mem_of_getElem? (i := 0) rfl))
  have N3 := Fr.snoc X3 N2 n_a
  refine ob T3 (mkF mG 14 #[.val (.ref a), .val (.long q), .second, .val (.int i)] []) (fun _ kk => st3 _ kk) ?_
  obtain ⟨fs, hr, hrun, hended, hW, hsame⟩ := X3.leave (v := none) (fun _ => rfl)
  refine oout (X3.returnOut hx Bd.returns (hb hby d1_14) hr) hrun hended ⟨_, _, rfl, ?_, ⟨_, rfl⟩, hW, hsame.mono (by decide) (by decide)⟩
  show Q_rm_pgi Z w_EMPTY a q i u0 u1 h0 n0 _ T3.heap _
  rw [e3]
  exact ⟨rfl, N3, K3, O3, (F2.other W3 (Or.inr (slot_ne (Or.inr (ow hw 12 rfl)) (Or.inr (ow hw 14 rfl)) (by decide) (t := .long) (t' := .int) (by decide) (by decide)))), F3⟩

theorem d4_0 : decode jdk_2650_method_2_code 0 = .ok (.getstatic 17, 3) := by decide +kernel
theorem d4_3 : decode jdk_2650_method_2_code 3 = .ok (.areturn, 1) := by decide +kernel
def Q_rm_empty (Z : State) (w_EMPTY : Addr)  (h0 : Heap) (n0 : Nat) (v : Option Value) (h : Heap) (L : List Loc) : Prop := v = some (.ref w_EMPTY) ∧ Fr n0 L ∧ h = h0
set_option maxRecDepth 65536 in
set_option maxHeartbeats 40000000 in
theorem rm_empty (l : Launch) (Z : State) (a0 : Array Value) (hw : ∀ d ∈ tables_1, d.before a0 Z = true) (ws : List Jvm.Cond) (w_EMPTY : Addr)  (h0 : Heap) (n0 : Nat) (O0 : Old Z n0 h0) (hS : St0 Z w_EMPTY ) :
    MetFree l (⟨"java/util/OptionalLong", "empty", "()Ljava/util/OptionalLong;"⟩ : MethodName) (head1 (Jvm.Cond.code (⟨"java/util/OptionalLong", "empty", "()Ljava/util/OptionalLong;"⟩ : MethodName) jdk_2650_method_2_code 0 (some (.object "java/util/OptionalLong")) :: ws) ({ frames := 0, cells := 0, slots := 0, locals := 0 } : Room)) (fun aG UG => aG = #[] ∧ Z.Warmed39 UG.vm ∧ UG.heap = h0) (fun _ _ _ _ _ => True) (fun _ UG oG UG' => ∃ vG LG, oG = .returned vG ∧ Q_rm_empty Z w_EMPTY  h0 n0 vG UG'.heap LG ∧ FrameEnd UG oG UG' LG ({ frames := 0, cells := 0, slots := 0, locals := 0 } : Room).cells ({ frames := 0, cells := 0, slots := 0, locals := 0 } : Room).slots) := by
  refine MetFree.of_bodySF (plainFor_of_name pn_1) hisR ?_
  intro pG eG sG mG argsG belowG methG cG s₁ Bd hml0 hP hK
  obtain ⟨rfl, hZ, hh⟩ := hP
  have hx := Bd.exec
  have hby := Bd.bytes
  have hml : cG.maxLocals = 0 := hml0
  have hown : sG.vm.findClass "java/util/OptionalLong" = some mG.cls := findClass_of_methodNamed Bd.named
  have hnm := (name_of_methodNamed Bd.named Bd.method).1
  have X0 : Stand pG l eG ({ frames := 0, cells := 0, slots := 0, locals := 0 } : Room) sG mG #[] belowG methG cG s₁ [] 0 0 := Stand.of_body Bd
  have e0 : s₁.heap = h0 := by rw [← hh, Bd.state]; rfl
  have N0 := Fr.nil n0
  have K0 := Keep.refl h0 []
  obtain ⟨S_w_EMPTY, E_w_EMPTY, F_w_EMPTY_isPresent, F_w_EMPTY_value⟩ := (id hS : St0 Z w_EMPTY )
  refine ostart (g' := (mkF mG 0 #[] [])) (by first | (simp [entryFrame, mkF, argsToLocals, Value.category]; done) | rfl) ?_
  obtain ⟨T1, X1, e1, st1⟩ := getS2 X0 hx hZ hown (host := "") (Or.inl (ow hw 24 rfl)) Via.refl e0 (S_w_EMPTY.ext O0.2) (g := (mkF mG 0 #[] [])) rfl (hb hby d4_0)
  refine ob T1 (mkF mG 3 #[] [(.ref w_EMPTY)]) (fun _ kk => st1 _ kk) ?_
  obtain ⟨fs, hr, hrun, hended, hW, hsame⟩ := X1.leave (v := some (.ref w_EMPTY)) (fun h => by rw [Bd.returns] at h; cases h)
  refine oout (oretA X1 hx Bd.returns rfl rfl (hb hby d4_3) hr) hrun hended ⟨_, _, rfl, ?_, ⟨_, rfl⟩, hW, hsame.mono (by decide) (by decide)⟩
  show Q_rm_empty Z w_EMPTY  h0 n0 _ T1.heap _
  rw [e1]
  exact ⟨rfl, N0, rfl⟩

theorem d7_0 : decode jdk_2650_method_3_code 0 = .ok (.aload_n 0, 1) := by decide +kernel
theorem d7_1 : decode jdk_2650_method_3_code 1 = .ok (.invokespecial 1, 3) := by decide +kernel
theorem d7_4 : decode jdk_2650_method_3_code 4 = .ok (.aload_n 0, 1) := by decide +kernel
theorem d7_5 : decode jdk_2650_method_3_code 5 = .ok (.iconst 1, 1) := by decide +kernel
theorem d7_6 : decode jdk_2650_method_3_code 6 = .ok (.putfield 7, 3) := by decide +kernel
theorem d7_9 : decode jdk_2650_method_3_code 9 = .ok (.aload_n 0, 1) := by decide +kernel
theorem d7_10 : decode jdk_2650_method_3_code 10 = .ok (.lload_n 1, 1) := by decide +kernel
theorem d7_11 : decode jdk_2650_method_3_code 11 = .ok (.putfield 13, 3) := by decide +kernel
theorem d7_14 : decode jdk_2650_method_3_code 14 = .ok (.return_, 1) := by decide +kernel
def Q_rm_oli (Z : State) (w_EMPTY : Addr) (a : Addr) (q : Int64) (u0 : Value) (u1 : Value) (h0 : Heap) (n0 : Nat) (v : Option Value) (h : Heap) (L : List Loc) : Prop := v = none ∧ Fr n0 L ∧ Keep h0 h [a] ∧ Old Z n0 h ∧ Fld Z h a "java/util/OptionalLong" "isPresent" "Z" (.int (1 : Int32)) ∧ Fld Z h a "java/util/OptionalLong" "value" "J" (.long q)
set_option maxRecDepth 65536 in
set_option maxHeartbeats 40000000 in
theorem rm_oli (l : Launch) (Z : State) (a0 : Array Value) (hw : ∀ d ∈ tables_1, d.before a0 Z = true) (ws : List Jvm.Cond) (w_EMPTY : Addr) (a : Addr) (q : Int64) (u0 : Value) (u1 : Value) (h0 : Heap) (n0 : Nat) (O0 : Old Z n0 h0) (hS : St0 Z w_EMPTY ) (E_a : Exa Z h0 a "java/util/OptionalLong") (F_0 : Fld Z h0 a "java/util/OptionalLong" "isPresent" "Z" u0) (F_1 : Fld Z h0 a "java/util/OptionalLong" "value" "J" u1) (n_a : n0 ≤ a) :
    MetFree l (⟨"java/util/OptionalLong", "<init>", "(J)V"⟩ : MethodName) (head1 (Jvm.Cond.code (⟨"java/util/OptionalLong", "<init>", "(J)V"⟩ : MethodName) jdk_2650_method_3_code 3 none :: ws) ({ frames := 1, cells := 0, slots := 0, locals := 12 } : Room)) (fun aG UG => aG = #[(.ref a), (.long q)] ∧ Z.Warmed39 UG.vm ∧ UG.heap = h0) (fun _ _ _ _ _ => True) (fun _ UG oG UG' => ∃ vG LG, oG = .returned vG ∧ Q_rm_oli Z w_EMPTY a q u0 u1 h0 n0 vG UG'.heap LG ∧ FrameEnd UG oG UG' LG ({ frames := 1, cells := 0, slots := 0, locals := 12 } : Room).cells ({ frames := 1, cells := 0, slots := 0, locals := 12 } : Room).slots) := by
  refine MetFree.of_bodySF (plainFor_of_name pn_1) hisR ?_
  intro pG eG sG mG argsG belowG methG cG s₁ Bd hml0 hP hK
  obtain ⟨rfl, hZ, hh⟩ := hP
  have hx := Bd.exec
  have hby := Bd.bytes
  have hml : cG.maxLocals = 3 := hml0
  have hown : sG.vm.findClass "java/util/OptionalLong" = some mG.cls := findClass_of_methodNamed Bd.named
  have hnm := (name_of_methodNamed Bd.named Bd.method).1
  have X0 : Stand pG l eG ({ frames := 1, cells := 0, slots := 0, locals := 12 } : Room) sG mG #[(.ref a), (.long q)] belowG methG cG s₁ [] 0 0 := Stand.of_body Bd
  have e0 : s₁.heap = h0 := by rw [← hh, Bd.state]; rfl
  have N0 := Fr.nil n0
  have K0 := Keep.refl h0 [a]
  obtain ⟨S_w_EMPTY, E_w_EMPTY, F_w_EMPTY_isPresent, F_w_EMPTY_value⟩ := (id hS : St0 Z w_EMPTY )
  refine ostart (g' := (mkF mG 0 #[.val (.ref a), .val (.long q), .second] [])) (by first | (simp [entryFrame, mkF, argsToLocals, Value.category]; done) | rfl) ?_
  refine ob s₁ (mkF mG 1 #[.val (.ref a), .val (.long q), .second] [(.ref a)]) (fun _ kk => XS.aloadN X0.here hx rfl (hb hby d7_0) rfl rfl kk) ?_
  obtain ⟨T1, X1, e1, st1⟩ := initO X0 hx hZ hown (ow hw 41 rfl) (ow hw 9 rfl) (ow hw 10 rfl) e0 (g := (mkF mG 1 #[.val (.ref a), .val (.long q), .second] [(.ref a)])) rfl (by rw [hml]; rfl) rfl (hb hby d7_1) (by decide) (W := 0) (by show 2 * 0 + _ ≤ _; exact Nat.le_of_eq rfl) (by decide)
  refine ob T1 (mkF mG 4 #[.val (.ref a), .val (.long q), .second] []) (fun _ kk => st1 _ kk) ?_
  refine ob T1 (mkF mG 5 #[.val (.ref a), .val (.long q), .second] [(.ref a)]) (fun _ kk => XS.aloadN X1.here hx rfl (hb hby d7_4) rfl rfl kk) ?_
  refine ob T1 (mkF mG 6 #[.val (.ref a), .val (.long q), .second] [(.int (1 : Int32)), (.ref a)]) (fun _ kk => XS.iconst X1.here hx rfl (hb hby d7_5) kk) ?_
  obtain ⟨T2, h2, X2, e2, W2, st2⟩ := putFN X1 hx hZ hown (ow hw 30 rfl) Via.refl e1 F_0 E_a (Or.inr ⟨(ow hw 31 rfl), rfl, hnm⟩) (ow hw 36 rfl) (ty := .boolean) (v' := (.int (1 : Int32))) (by decide) rfl rfl (g := (mkF mG 6 #[.val (.ref a), .val (.long q), .second] [(.int (1 : Int32)), (.ref a)])) rfl rfl (hb hby d7_6)
  have F2 := F_0.same W2
  have O2 := O0.wr W2 n_a
  have K2 := K0.wr W2 (Or.inl (List.mem_of_getElem? (i := 0) rfl))
  have N2 := Fr.snoc X2 N0 n_a
  refine ob T2 (mkF mG 9 #[.val (.ref a), .val (.long q), .second] []) (fun _ kk => st2 _ kk) ?_
  refine ob T2 (mkF mG 10 #[.val (.ref a), .val (.long q), .second] [(.ref a)]) (fun _ kk => XS.aloadN X2.here hx rfl (hb hby d7_9) rfl rfl kk) ?_
  refine ob T2 (mkF mG 11 #[.val (.ref a), .val (.long q), .second] [(.long q), (.ref a)]) (fun _ kk => XS.lloadN X2.here hx rfl (hb hby d7_10) rfl kk) ?_
  obtain ⟨T3, h3, X3, e3, W3, st3⟩ := putF X2 hx hZ hown (host := "") (Or.inl (ow hw 42 rfl)) Via.refl e2 (F_1.other W2 (Or.inr (slot_ne (Or.inr (ow hw 43 rfl)) (Or.inr (ow hw 31 rfl)) (by decide) (t := .long) (t' := .boolean) (by decide) (by decide)))) (E_a.wr W2) (Or.inr ⟨(ow hw 43 rfl), rfl, hnm⟩) (ow hw 36 rfl) (ty := .long) (by decide) rfl rfl (g := (mkF mG 11 #[.val (.ref a), .val (.long q), .second] [(.long q), (.ref a)])) rfl rfl (hb hby d7_11)
  have F3 := (F_1.other W2 (Or.inr (slot_ne (Or.inr (ow hw 43 rfl)) (Or.inr (ow hw 31 rfl)) (by decide) (t := .long) (t' := .boolean) (by decide) (by decide)))).same W3
  have O3 := O2.wr W3 n_a
  have K3 := K2.wr W3 (Or.inl (List.mem_of_getElem? (i := 0) rfl))
  have N3 := Fr.snoc X3 N2 n_a
  refine ob T3 (mkF mG 14 #[.val (.ref a), .val (.long q), .second] []) (fun _ kk => st3 _ kk) ?_
  obtain ⟨fs, hr, hrun, hended, hW, hsame⟩ := X3.leave (v := none) (fun _ => rfl)
  refine oout (X3.returnOut hx Bd.returns (hb hby d7_14) hr) hrun hended ⟨_, _, rfl, ?_, ⟨_, rfl⟩, hW, hsame.mono (by decide) (by decide)⟩
  show Q_rm_oli Z w_EMPTY a q u0 u1 h0 n0 _ T3.heap _
  rw [e3]
  exact ⟨rfl, N3, K3, O3, (F2.other W3 (Or.inr (slot_ne (Or.inr (ow hw 31 rfl)) (Or.inr (ow hw 43 rfl)) (by decide) (t := .boolean) (t' := .long) (by decide) (by decide)))), F3⟩

theorem d6_0 : decode jdk_2650_method_4_code 0 = .ok (.new 8, 3) := by decide +kernel
theorem d6_3 : decode jdk_2650_method_4_code 3 = .ok (.dup, 1) := by decide +kernel
theorem d6_4 : decode jdk_2650_method_4_code 4 = .ok (.lload_n 0, 1) := by decide +kernel
theorem d6_5 : decode jdk_2650_method_4_code 5 = .ok (.invokespecial 21, 3) := by decide +kernel
theorem d6_8 : decode jdk_2650_method_4_code 8 = .ok (.areturn, 1) := by decide +kernel
theorem pd_0 : parseMethodDescriptor "(J)V" = some ⟨[.long], none⟩ := by decide +kernel
def Q_rm_of (Z : State) (w_EMPTY : Addr) (q : Int64) (h0 : Heap) (n0 : Nat) (v : Option Value) (h : Heap) (L : List Loc) : Prop := ∃ (b0 : Addr), v = some (.ref b0) ∧ Fr n0 L ∧ Keep h0 h [] ∧ Old Z n0 h ∧ n0 ≤ b0 ∧ h0.size ≤ b0 ∧ Exa Z h b0 "java/util/OptionalLong" ∧ Fld Z h b0 "java/util/OptionalLong" "isPresent" "Z" (.int (1 : Int32)) ∧ Fld Z h b0 "java/util/OptionalLong" "value" "J" (.long q)
set_option maxRecDepth 65536 in
set_option maxHeartbeats 40000000 in
theorem rm_of (l : Launch) (Z : State) (a0 : Array Value) (hw : ∀ d ∈ tables_1, d.before a0 Z = true) (ws : List Jvm.Cond) (w_EMPTY : Addr) (q : Int64) (h0 : Heap) (n0 : Nat) (O0 : Old Z n0 h0) (hS : St0 Z w_EMPTY ) :
    MetFree l (⟨"java/util/OptionalLong", "of", "(J)Ljava/util/OptionalLong;"⟩ : MethodName) (head1 (Jvm.Cond.code (⟨"java/util/OptionalLong", "of", "(J)Ljava/util/OptionalLong;"⟩ : MethodName) jdk_2650_method_4_code 2 (some (.object "java/util/OptionalLong")) :: ws) ({ frames := 2, cells := 1, slots := 2, locals := 27 } : Room)) (fun aG UG => aG = #[(.long q)] ∧ Z.Warmed39 UG.vm ∧ UG.heap = h0) (fun _ _ _ _ _ => True) (fun _ UG oG UG' => ∃ vG LG, oG = .returned vG ∧ Q_rm_of Z w_EMPTY q h0 n0 vG UG'.heap LG ∧ FrameEnd UG oG UG' LG ({ frames := 2, cells := 1, slots := 2, locals := 27 } : Room).cells ({ frames := 2, cells := 1, slots := 2, locals := 27 } : Room).slots) := by
  refine MetFree.of_bodySF (plainFor_of_name pn_1) hisR ?_
  intro pG eG sG mG argsG belowG methG cG s₁ Bd hml0 hP hK
  obtain ⟨rfl, hZ, hh⟩ := hP
  have hx := Bd.exec
  have hby := Bd.bytes
  have hml : cG.maxLocals = 2 := hml0
  have hown : sG.vm.findClass "java/util/OptionalLong" = some mG.cls := findClass_of_methodNamed Bd.named
  have hnm := (name_of_methodNamed Bd.named Bd.method).1
  have X0 : Stand pG l eG ({ frames := 2, cells := 1, slots := 2, locals := 27 } : Room) sG mG #[(.long q)] belowG methG cG s₁ [] 0 0 := Stand.of_body Bd
  have e0 : s₁.heap = h0 := by rw [← hh, Bd.state]; rfl
  have N0 := Fr.nil n0
  have K0 := Keep.refl h0 []
  obtain ⟨S_w_EMPTY, E_w_EMPTY, F_w_EMPTY_isPresent, F_w_EMPTY_value⟩ := (id hS : St0 Z w_EMPTY )
  refine ostart (g' := (mkF mG 0 #[.val (.long q), .second] [])) (by first | (simp [entryFrame, mkF, argsToLocals, Value.category]; done) | rfl) ?_
  obtain ⟨T1, h1, X1, e1, E1, A1, D1, _x1, st1⟩ := newO X0 hx hZ hown (ow hw 35 rfl) (ow hw 36 rfl) (ow hw 22 rfl) e0 (g := (mkF mG 0 #[.val (.long q), .second] [])) rfl (hb hby d6_0) (by decide) (by decide)
  obtain ⟨b1, g1⟩ : ∃ z, z = h0.size := ⟨_, rfl⟩
  rw [← g1] at A1 D1 st1
  have n_b1 : n0 ≤ b1 := Nat.le_trans (on0 O0) (Nat.le_of_eq g1.symm)
  have sz_b1 : h0.size ≤ b1 := Nat.le_trans K0.1 (Nat.le_of_eq g1.symm)
  have O1 := O0.ext E1
  have K1 := K0.ext E1
  have F1_31 : Fld Z h1 b1 "java/util/OptionalLong" "isPresent" "Z" (.int (0 : Int32)) := D1 (Or.inr (ow hw 31 rfl)) (ty := .boolean) (by decide)
  have F1_43 : Fld Z h1 b1 "java/util/OptionalLong" "value" "J" (.long (0 : Int64)) := D1 (Or.inr (ow hw 43 rfl)) (ty := .long) (by decide)
  refine ob T1 (mkF mG 3 #[.val (.long q), .second] [(.ref b1)]) (fun _ kk => st1 _ kk) ?_
  refine ob T1 (mkF mG 4 #[.val (.long q), .second] [(.ref b1), (.ref b1)]) (fun _ kk => XS.dup X1.here hx rfl (hb hby d6_3) rfl rfl kk) ?_
  refine ob T1 (mkF mG 5 #[.val (.long q), .second] [(.long q), (.ref b1), (.ref b1)]) (fun _ kk => XS.lloadN X1.here hx rfl (hb hby d6_4) rfl kk) ?_
  obtain ⟨_, _, ⟨T2, L2, k2, n2⟩, -, X2, ⟨Lc2, hQ2, l2, y2, z2⟩, st2⟩ := X1.specialBack hx (y := (⟨"java/util/OptionalLong", "<init>", "(J)V"⟩ : MethodName)) rfl hown (mvT hZ (ow hw 37 rfl)) (mvT hZ (ow hw 38 rfl)) (mvT hZ (ow hw 40 rfl)) (by decide) (backOf (W := 1) (rm_oli l Z a0 hw [] w_EMPTY b1 q (.int (0 : Int32)) (.long (0 : Int64)) h1 n0 O1 hS A1 F1_31 F1_43 n_b1) hZ (ow hw 40 rfl) (ow hw 22 rfl) (by decide) (by decide)) (g := (mkF mG 5 #[.val (.long q), .second] [(.long q), (.ref b1), (.ref b1)])) rfl (by rw [hml]; rfl) (Steps.refl _) (a := b1) (argsL := [(.long q)]) (rest := [(.ref b1)]) (lenOf pd_0 rfl) rfl (by show 2 * 0 + _ ≤ _; exact Nat.le_of_eq rfl) (hb hby d6_5) (fun _ _ => ⟨rfl, e1, (by decide : 1 + 0 ≤ _), (by decide : 2 + 0 ≤ _)⟩)
  dsimp only [Pt.U, Pt.locs, Pt.cells, Pt.slots] at X2 l2 y2 z2 st2 hQ2
  subst l2 y2 z2
  obtain ⟨h2, e2⟩ : ∃ h, T2.heap = h := ⟨_, rfl⟩
  rw [e2] at hQ2
  obtain ⟨rfl, N2q, K2q, O2, F2_0, F2_1⟩ := hQ2
  have N2 := Fr.app N0 N2q
  have K2 := K1.trans K2q (allS (Or.inr sz_b1) all0)
  refine ob T2 (mkF mG 8 #[.val (.long q), .second] [(.ref b1)]) (fun _ kk => st2.trans kk) ?_
  obtain ⟨fs, hr, hrun, hended, hW, hsame⟩ := X2.leave (v := some (.ref b1)) (fun h => by rw [Bd.returns] at h; cases h)
  refine oout (oretA X2 hx Bd.returns rfl rfl (hb hby d6_8) hr) hrun hended ⟨_, _, rfl, ?_, ⟨_, rfl⟩, hW, hsame.mono (by decide) (by decide)⟩
  show Q_rm_of Z w_EMPTY q h0 n0 _ T2.heap _
  rw [e2]
  exact ⟨b1, rfl, N2, K2, O2, n_b1, sz_b1, (A1.keep K2q), F2_0, F2_1⟩

theorem d3_0 : decode prog_18_method_7_code 0 = .ok (.aload_n 0, 1) := by decide +kernel
theorem d3_1 : decode prog_18_method_7_code 1 = .ok (.getfield 9, 3) := by decide +kernel
theorem d3_4 : decode prog_18_method_7_code 4 = .ok (.aload_n 0, 1) := by decide +kernel
theorem d3_5 : decode prog_18_method_7_code 5 = .ok (.getfield 15, 3) := by decide +kernel
theorem d3_8 : decode prog_18_method_7_code 8 = .ok (.i2l, 1) := by decide +kernel
theorem d3_9 : decode prog_18_method_7_code 9 = .ok (.ladd, 1) := by decide +kernel
theorem d3_10 : decode prog_18_method_7_code 10 = .ok (.lstore_n 3, 1) := by decide +kernel
theorem d3_11 : decode prog_18_method_7_code 11 = .ok (.lload_n 3, 1) := by decide +kernel
theorem d3_12 : decode prog_18_method_7_code 12 = .ok (.lload_n 1, 1) := by decide +kernel
theorem d3_13 : decode prog_18_method_7_code 13 = .ok (.lcmp, 1) := by decide +kernel
theorem d3_14 : decode prog_18_method_7_code 14 = .ok (.ifCond .ge 10, 3) := by decide +kernel
theorem d3_24 : decode prog_18_method_7_code 24 = .ok (.invokestatic 52, 3) := by decide +kernel
theorem d3_27 : decode prog_18_method_7_code 27 = .ok (.areturn, 1) := by decide +kernel
theorem pd_1 : parseMethodDescriptor "()Ljava/util/OptionalLong;" = some ⟨[], some (.object "java/util/OptionalLong")⟩ := by decide +kernel
def Q_rm_nxN (Z : State) (w_EMPTY : Addr) (a : Addr) (q : Int64) (i : Int32) (t : Int64) (h0 : Heap) (n0 : Nat) (v : Option Value) (h : Heap) (L : List Loc) : Prop := v = some (.ref w_EMPTY) ∧ Fr n0 L ∧ h = h0
set_option maxRecDepth 65536 in
set_option maxHeartbeats 40000000 in
theorem rm_nxN (l : Launch) (Z : State) (a0 : Array Value) (hw : ∀ d ∈ tables_1, d.before a0 Z = true) (ws : List Jvm.Cond) (w_EMPTY : Addr) (a : Addr) (q : Int64) (i : Int32) (t : Int64) (h0 : Heap) (n0 : Nat) (O0 : Old Z n0 h0) (hS : St0 Z w_EMPTY ) (F_q : Fld Z h0 a "com/example/rigorous_sourcing/rigoroussourcing/domain/Paging" "mOffset" "J" (.long q)) (F_i : Fld Z h0 a "com/example/rigorous_sourcing/rigoroussourcing/domain/Paging" "mPageSize" "I" (.int i)) (hc : ¬ ((lcmpW (q + (i.toInt64)) t) < (0 : Int32))) :
    MetFree l (⟨"com/example/rigorous_sourcing/rigoroussourcing/domain/Paging", "nextOffset", "(J)Ljava/util/OptionalLong;"⟩ : MethodName) (head1 (Jvm.Cond.code (⟨"com/example/rigorous_sourcing/rigoroussourcing/domain/Paging", "nextOffset", "(J)Ljava/util/OptionalLong;"⟩ : MethodName) prog_18_method_7_code 5 (some (.object "java/util/OptionalLong")) :: ws) ({ frames := 1, cells := 0, slots := 0, locals := 11 } : Room)) (fun aG UG => aG = #[(.ref a), (.long t)] ∧ Z.Warmed39 UG.vm ∧ UG.heap = h0) (fun _ _ _ _ _ => True) (fun _ UG oG UG' => ∃ vG LG, oG = .returned vG ∧ Q_rm_nxN Z w_EMPTY a q i t h0 n0 vG UG'.heap LG ∧ FrameEnd UG oG UG' LG ({ frames := 1, cells := 0, slots := 0, locals := 11 } : Room).cells ({ frames := 1, cells := 0, slots := 0, locals := 11 } : Room).slots) := by
  refine MetFree.of_bodySF (plainFor_of_name pn_0) hisR ?_
  intro pG eG sG mG argsG belowG methG cG s₁ Bd hml0 hP hK
  obtain ⟨rfl, hZ, hh⟩ := hP
  have hx := Bd.exec
  have hby := Bd.bytes
  have hml : cG.maxLocals = 5 := hml0
  have hown : sG.vm.findClass "com/example/rigorous_sourcing/rigoroussourcing/domain/Paging" = some mG.cls := findClass_of_methodNamed Bd.named
  have hnm := (name_of_methodNamed Bd.named Bd.method).1
  have X0 : Stand pG l eG ({ frames := 1, cells := 0, slots := 0, locals := 11 } : Room) sG mG #[(.ref a), (.long t)] belowG methG cG s₁ [] 0 0 := Stand.of_body Bd
  have e0 : s₁.heap = h0 := by rw [← hh, Bd.state]; rfl
  have N0 := Fr.nil n0
  have K0 := Keep.refl h0 []
  obtain ⟨S_w_EMPTY, E_w_EMPTY, F_w_EMPTY_isPresent, F_w_EMPTY_value⟩ := (id hS : St0 Z w_EMPTY )
  refine ostart (g' := (mkF mG 0 #[.val (.ref a), .val (.long t), .second, .unset, .unset] [])) (by first | (simp [entryFrame, mkF, argsToLocals, Value.category]; done) | rfl) ?_
  refine ob s₁ (mkF mG 1 #[.val (.ref a), .val (.long t), .second, .unset, .unset] [(.ref a)]) (fun _ kk => XS.aloadN X0.here hx rfl (hb hby d3_0) rfl rfl kk) ?_
  obtain ⟨T1, X1, e1, st1⟩ := getF X0 hx hZ hown (host := "") (Or.inl (ow hw 11 rfl)) Via.refl e0 F_q (g := (mkF mG 1 #[.val (.ref a), .val (.long t), .second, .unset, .unset] [(.ref a)])) rfl rfl (hb hby d3_1)
  refine ob T1 (mkF mG 4 #[.val (.ref a), .val (.long t), .second, .unset, .unset] [(.long q)]) (fun _ kk => st1 _ kk) ?_
  refine ob T1 (mkF mG 5 #[.val (.ref a), .val (.long t), .second, .unset, .unset] [(.ref a), (.long q)]) (fun _ kk => XS.aloadN X1.here hx rfl (hb hby d3_4) rfl rfl kk) ?_
  obtain ⟨T2, X2, e2, st2⟩ := getF X1 hx hZ hown (host := "") (Or.inl (ow hw 13 rfl)) Via.refl e1 F_i (g := (mkF mG 5 #[.val (.ref a), .val (.long t), .second, .unset, .unset] [(.ref a), (.long q)])) rfl rfl (hb hby d3_5)
  refine ob T2 (mkF mG 8 #[.val (.ref a), .val (.long t), .second, .unset, .unset] [(.int i), (.long q)]) (fun _ kk => st2 _ kk) ?_
  refine ob T2 (mkF mG 9 #[.val (.ref a), .val (.long t), .second, .unset, .unset] [(.long (i.toInt64)), (.long q)]) (fun _ kk => XS.i2l X2.here hx rfl (hb hby d3_8) rfl kk) ?_
  refine ob T2 (mkF mG 10 #[.val (.ref a), .val (.long t), .second, .unset, .unset] [(.long (q + (i.toInt64)))]) (fun _ kk => XS.ladd X2.here hx rfl (hb hby d3_9) rfl kk) ?_
  refine ob T2 (mkF mG 11 #[.val (.ref a), .val (.long t), .second, .val (.long (q + (i.toInt64))), .second] []) (fun _ kk => XS.lstoreN X2.here hx rfl (hb hby d3_10) rfl (l' := #[.val (.ref a), .val (.long t), .second, .val (.long (q + (i.toInt64))), .second]) rfl kk) ?_
  refine ob T2 (mkF mG 12 #[.val (.ref a), .val (.long t), .second, .val (.long (q + (i.toInt64))), .second] [(.long (q + (i.toInt64)))]) (fun _ kk => XS.lloadN X2.here hx rfl (hb hby d3_11) rfl kk) ?_
  refine ob T2 (mkF mG 13 #[.val (.ref a), .val (.long t), .second, .val (.long (q + (i.toInt64))), .second] [(.long t), (.long (q + (i.toInt64)))]) (fun _ kk => XS.lloadN X2.here hx rfl (hb hby d3_12) rfl kk) ?_
  refine ob T2 (mkF mG 14 #[.val (.ref a), .val (.long t), .second, .val (.long (q + (i.toInt64))), .second] [(.int (lcmpW (q + (i.toInt64)) t))]) (fun _ kk => XS.lcmp X2.here hx rfl (hb hby d3_13) rfl kk) ?_
  refine ob T2 (mkF mG 24 #[.val (.ref a), .val (.long t), .second, .val (.long (q + (i.toInt64))), .second] []) (fun _ kk => XS.ifYes X2.here hx rfl (pc0 := 14) (pc' := 24) rfl (hb hby d3_14) rfl ((if0 _ _).trans (flt hc).2.1) (by decide) (by decide) kk) ?_
  obtain ⟨_, _, ⟨T3, L3, k3, n3⟩, -, X3, ⟨Lc3, hQ3, l3, y3, z3⟩, st3⟩ := Jvm.LawKit.callS X2 hx (y := (⟨"java/util/OptionalLong", "empty", "()Ljava/util/OptionalLong;"⟩ : MethodName)) hown (mvT hZ (ow hw 20 rfl)) (mvT hZ (ow hw 21 rfl)) (mvT hZ (ow hw 22 rfl)) (mvT hZ (ow hw 23 rfl)) (by decide) (backOf (W := 0) (rm_empty l Z a0 hw [] w_EMPTY  h0 n0 O0 hS ) hZ (ow hw 23 rfl) (ow hw 22 rfl) (by decide) (by decide)) (g := (mkF mG 24 #[.val (.ref a), .val (.long t), .second, .val (.long (q + (i.toInt64))), .second] [])) rfl (by rw [hml]; rfl) (argsL := []) (rest := []) (lenOf pd_1 rfl) rfl (by show 2 * 0 + _ ≤ _; exact Nat.le_of_eq rfl) (hb hby d3_24) (fun _ _ => ⟨rfl, e2, (by decide : 0 + 0 ≤ _), (by decide : 0 + 0 ≤ _)⟩)
  dsimp only [Pt.U, Pt.locs, Pt.cells, Pt.slots] at X3 l3 y3 z3 st3 hQ3
  subst l3 y3 z3
  obtain ⟨rfl, N3q, e3⟩ := hQ3
  have N3 := Fr.app N0 N3q
  refine ob T3 (mkF mG 27 #[.val (.ref a), .val (.long t), .second, .val (.long (q + (i.toInt64))), .second] [(.ref w_EMPTY)]) (fun _ kk => st3 _ kk) ?_
  obtain ⟨fs, hr, hrun, hended, hW, hsame⟩ := X3.leave (v := some (.ref w_EMPTY)) (fun h => by rw [Bd.returns] at h; cases h)
  refine oout (oretA X3 hx Bd.returns rfl rfl (hb hby d3_27) hr) hrun hended ⟨_, _, rfl, ?_, ⟨_, rfl⟩, hW, hsame.mono (by decide) (by decide)⟩
  show Q_rm_nxN Z w_EMPTY a q i t h0 n0 _ T3.heap _
  rw [e3]
  exact ⟨rfl, N3, rfl⟩

theorem d3_17 : decode prog_18_method_7_code 17 = .ok (.lload_n 3, 1) := by decide +kernel
theorem d3_18 : decode prog_18_method_7_code 18 = .ok (.invokestatic 46, 3) := by decide +kernel
theorem d3_21 : decode prog_18_method_7_code 21 = .ok (.goto 6, 3) := by decide +kernel
theorem pd_2 : parseMethodDescriptor "(J)Ljava/util/OptionalLong;" = some ⟨[.long], some (.object "java/util/OptionalLong")⟩ := by decide +kernel
def Q_rm_nxS (Z : State) (w_EMPTY : Addr) (a : Addr) (q : Int64) (i : Int32) (t : Int64) (h0 : Heap) (n0 : Nat) (v : Option Value) (h : Heap) (L : List Loc) : Prop := ∃ (b0 : Addr), v = some (.ref b0) ∧ Fr n0 L ∧ Keep h0 h [] ∧ Old Z n0 h ∧ n0 ≤ b0 ∧ h0.size ≤ b0 ∧ Exa Z h b0 "java/util/OptionalLong" ∧ Fld Z h b0 "java/util/OptionalLong" "isPresent" "Z" (.int (1 : Int32)) ∧ Fld Z h b0 "java/util/OptionalLong" "value" "J" (.long (q + (i.toInt64)))
set_option maxRecDepth 65536 in
set_option maxHeartbeats 40000000 in
theorem rm_nxS (l : Launch) (Z : State) (a0 : Array Value) (hw : ∀ d ∈ tables_1, d.before a0 Z = true) (ws : List Jvm.Cond) (w_EMPTY : Addr) (a : Addr) (q : Int64) (i : Int32) (t : Int64) (h0 : Heap) (n0 : Nat) (O0 : Old Z n0 h0) (hS : St0 Z w_EMPTY ) (F_q : Fld Z h0 a "com/example/rigorous_sourcing/rigoroussourcing/domain/Paging" "mOffset" "J" (.long q)) (F_i : Fld Z h0 a "com/example/rigorous_sourcing/rigoroussourcing/domain/Paging" "mPageSize" "I" (.int i)) (hc : (lcmpW (q + (i.toInt64)) t) < (0 : Int32)) :
    MetFree l (⟨"com/example/rigorous_sourcing/rigoroussourcing/domain/Paging", "nextOffset", "(J)Ljava/util/OptionalLong;"⟩ : MethodName) (head1 (Jvm.Cond.code (⟨"com/example/rigorous_sourcing/rigoroussourcing/domain/Paging", "nextOffset", "(J)Ljava/util/OptionalLong;"⟩ : MethodName) prog_18_method_7_code 5 (some (.object "java/util/OptionalLong")) :: ws) ({ frames := 3, cells := 1, slots := 2, locals := 40 } : Room)) (fun aG UG => aG = #[(.ref a), (.long t)] ∧ Z.Warmed39 UG.vm ∧ UG.heap = h0) (fun _ _ _ _ _ => True) (fun _ UG oG UG' => ∃ vG LG, oG = .returned vG ∧ Q_rm_nxS Z w_EMPTY a q i t h0 n0 vG UG'.heap LG ∧ FrameEnd UG oG UG' LG ({ frames := 3, cells := 1, slots := 2, locals := 40 } : Room).cells ({ frames := 3, cells := 1, slots := 2, locals := 40 } : Room).slots) := by
  refine MetFree.of_bodySF (plainFor_of_name pn_0) hisR ?_
  intro pG eG sG mG argsG belowG methG cG s₁ Bd hml0 hP hK
  obtain ⟨rfl, hZ, hh⟩ := hP
  have hx := Bd.exec
  have hby := Bd.bytes
  have hml : cG.maxLocals = 5 := hml0
  have hown : sG.vm.findClass "com/example/rigorous_sourcing/rigoroussourcing/domain/Paging" = some mG.cls := findClass_of_methodNamed Bd.named
  have hnm := (name_of_methodNamed Bd.named Bd.method).1
  have X0 : Stand pG l eG ({ frames := 3, cells := 1, slots := 2, locals := 40 } : Room) sG mG #[(.ref a), (.long t)] belowG methG cG s₁ [] 0 0 := Stand.of_body Bd
  have e0 : s₁.heap = h0 := by rw [← hh, Bd.state]; rfl
  have N0 := Fr.nil n0
  have K0 := Keep.refl h0 []
  obtain ⟨S_w_EMPTY, E_w_EMPTY, F_w_EMPTY_isPresent, F_w_EMPTY_value⟩ := (id hS : St0 Z w_EMPTY )
  refine ostart (g' := (mkF mG 0 #[.val (.ref a), .val (.long t), .second, .unset, .unset] [])) (by first | (simp [entryFrame, mkF, argsToLocals, Value.category]; done) | rfl) ?_
  refine ob s₁ (mkF mG 1 #[.val (.ref a), .val (.long t), .second, .unset, .unset] [(.ref a)]) (fun _ kk => XS.aloadN X0.here hx rfl (hb hby d3_0) rfl rfl kk) ?_
  obtain ⟨T1, X1, e1, st1⟩ := getF X0 hx hZ hown (host := "") (Or.inl (ow hw 11 rfl)) Via.refl e0 F_q (g := (mkF mG 1 #[.val (.ref a), .val (.long t), .second, .unset, .unset] [(.ref a)])) rfl rfl (hb hby d3_1)
  refine ob T1 (mkF mG 4 #[.val (.ref a), .val (.long t), .second, .unset, .unset] [(.long q)]) (fun _ kk => st1 _ kk) ?_
  refine ob T1 (mkF mG 5 #[.val (.ref a), .val (.long t), .second, .unset, .unset] [(.ref a), (.long q)]) (fun _ kk => XS.aloadN X1.here hx rfl (hb hby d3_4) rfl rfl kk) ?_
  obtain ⟨T2, X2, e2, st2⟩ := getF X1 hx hZ hown (host := "") (Or.inl (ow hw 13 rfl)) Via.refl e1 F_i (g := (mkF mG 5 #[.val (.ref a), .val (.long t), .second, .unset, .unset] [(.ref a), (.long q)])) rfl rfl (hb hby d3_5)
  refine ob T2 (mkF mG 8 #[.val (.ref a), .val (.long t), .second, .unset, .unset] [(.int i), (.long q)]) (fun _ kk => st2 _ kk) ?_
  refine ob T2 (mkF mG 9 #[.val (.ref a), .val (.long t), .second, .unset, .unset] [(.long (i.toInt64)), (.long q)]) (fun _ kk => XS.i2l X2.here hx rfl (hb hby d3_8) rfl kk) ?_
  refine ob T2 (mkF mG 10 #[.val (.ref a), .val (.long t), .second, .unset, .unset] [(.long (q + (i.toInt64)))]) (fun _ kk => XS.ladd X2.here hx rfl (hb hby d3_9) rfl kk) ?_
  refine ob T2 (mkF mG 11 #[.val (.ref a), .val (.long t), .second, .val (.long (q + (i.toInt64))), .second] []) (fun _ kk => XS.lstoreN X2.here hx rfl (hb hby d3_10) rfl (l' := #[.val (.ref a), .val (.long t), .second, .val (.long (q + (i.toInt64))), .second]) rfl kk) ?_
  refine ob T2 (mkF mG 12 #[.val (.ref a), .val (.long t), .second, .val (.long (q + (i.toInt64))), .second] [(.long (q + (i.toInt64)))]) (fun _ kk => XS.lloadN X2.here hx rfl (hb hby d3_11) rfl kk) ?_
  refine ob T2 (mkF mG 13 #[.val (.ref a), .val (.long t), .second, .val (.long (q + (i.toInt64))), .second] [(.long t), (.long (q + (i.toInt64)))]) (fun _ kk => XS.lloadN X2.here hx rfl (hb hby d3_12) rfl kk) ?_
  refine ob T2 (mkF mG 14 #[.val (.ref a), .val (.long t), .second, .val (.long (q + (i.toInt64))), .second] [(.int (lcmpW (q + (i.toInt64)) t))]) (fun _ kk => XS.lcmp X2.here hx rfl (hb hby d3_13) rfl kk) ?_
  refine ob T2 (mkF mG 17 #[.val (.ref a), .val (.long t), .second, .val (.long (q + (i.toInt64))), .second] []) (fun _ kk => XS.ifNo X2.here hx rfl (hb hby d3_14) rfl ((if0 _ _).trans (tlt hc).2.1) kk) ?_
  refine ob T2 (mkF mG 18 #[.val (.ref a), .val (.long t), .second, .val (.long (q + (i.toInt64))), .second] [(.long (q + (i.toInt64)))]) (fun _ kk => XS.lloadN X2.here hx rfl (hb hby d3_17) rfl kk) ?_
  obtain ⟨_, _, ⟨T3, L3, k3, n3⟩, -, X3, ⟨Lc3, hQ3, l3, y3, z3⟩, st3⟩ := Jvm.LawKit.callS X2 hx (y := (⟨"java/util/OptionalLong", "of", "(J)Ljava/util/OptionalLong;"⟩ : MethodName)) hown (mvT hZ (ow hw 32 rfl)) (mvT hZ (ow hw 33 rfl)) (mvT hZ (ow hw 22 rfl)) (mvT hZ (ow hw 34 rfl)) (by decide) (backOf (W := 0) (rm_of l Z a0 hw [] w_EMPTY (q + (i.toInt64)) h0 n0 O0 hS ) hZ (ow hw 34 rfl) (ow hw 22 rfl) (by decide) (by decide)) (g := (mkF mG 18 #[.val (.ref a), .val (.long t), .second, .val (.long (q + (i.toInt64))), .second] [(.long (q + (i.toInt64)))])) rfl (by rw [hml]; rfl) (argsL := [(.long (q + (i.toInt64)))]) (rest := []) (lenOf pd_2 rfl) rfl (by show 2 * 0 + _ ≤ _; exact Nat.le_of_eq rfl) (hb hby d3_18) (fun _ _ => ⟨rfl, e2, (by decide : 0 + 1 ≤ _), (by decide : 0 + 2 ≤ _)⟩)
  dsimp only [Pt.U, Pt.locs, Pt.cells, Pt.slots] at X3 l3 y3 z3 st3 hQ3
  subst l3 y3 z3
  obtain ⟨h3, e3⟩ : ∃ h, T3.heap = h := ⟨_, rfl⟩
  rw [e3] at hQ3
  obtain ⟨b0_3, rfl, N3q, K3q, O3, n_b0_3, z_b0_3, F3_0, F3_1, F3_2⟩ := hQ3
  have N3 := Fr.app N0 N3q
  have sz_b0_3 : h0.size ≤ b0_3 := Nat.le_trans K0.1 z_b0_3
  have ne_a_b0_3 : a ≠ b0_3 := Nat.ne_of_lt (Nat.lt_of_lt_of_le F_q.lt z_b0_3)
  have K3 := K0.trans K3q all0
  refine ob T3 (mkF mG 21 #[.val (.ref a), .val (.long t), .second, .val (.long (q + (i.toInt64))), .second] [(.ref b0_3)]) (fun _ kk => st3 _ kk) ?_
  refine ob T3 (mkF mG 27 #[.val (.ref a), .val (.long t), .second, .val (.long (q + (i.toInt64))), .second] [(.ref b0_3)]) (fun _ kk => XS.goto X3.here hx rfl (pc0 := 21) (pc' := 27) rfl (hb hby d3_21) (by decide) (by decide) kk) ?_
  obtain ⟨fs, hr, hrun, hended, hW, hsame⟩ := X3.leave (v := some (.ref b0_3)) (fun h => by rw [Bd.returns] at h; cases h)
  refine oout (oretA X3 hx Bd.returns rfl rfl (hb hby d3_27) hr) hrun hended ⟨_, _, rfl, ?_, ⟨_, rfl⟩, hW, hsame.mono (by decide) (by decide)⟩
  show Q_rm_nxS Z w_EMPTY a q i t h0 n0 _ T3.heap _
  rw [e3]
  exact ⟨b0_3, rfl, N3, K3, O3, n_b0_3, sz_b0_3, F3_0, F3_1, F3_2⟩

theorem d5_0 : decode jdk_2650_method_6_code 0 = .ok (.aload_n 0, 1) := by decide +kernel
theorem d5_1 : decode jdk_2650_method_6_code 1 = .ok (.getfield 7, 3) := by decide +kernel
theorem d5_4 : decode jdk_2650_method_6_code 4 = .ok (.ireturn, 1) := by decide +kernel
def Q_rm_ipE (Z : State) (w_EMPTY : Addr)  (h0 : Heap) (n0 : Nat) (v : Option Value) (h : Heap) (L : List Loc) : Prop := v = some (.int (0 : Int32)) ∧ Fr n0 L ∧ h = h0
set_option maxRecDepth 65536 in
set_option maxHeartbeats 40000000 in
theorem rm_ipE (l : Launch) (Z : State) (a0 : Array Value) (hw : ∀ d ∈ tables_1, d.before a0 Z = true) (ws : List Jvm.Cond) (w_EMPTY : Addr)  (h0 : Heap) (n0 : Nat) (O0 : Old Z n0 h0) (hS : St0 Z w_EMPTY ) :
    MetFree l (⟨"java/util/OptionalLong", "isPresent", "()Z"⟩ : MethodName) (head1 (Jvm.Cond.code (⟨"java/util/OptionalLong", "isPresent", "()Z"⟩ : MethodName) jdk_2650_method_6_code 1 (some .boolean) :: ws) ({ frames := 0, cells := 0, slots := 0, locals := 0 } : Room)) (fun aG UG => aG = #[(.ref w_EMPTY)] ∧ Z.Warmed39 UG.vm ∧ UG.heap = h0) (fun _ _ _ _ _ => True) (fun _ UG oG UG' => ∃ vG LG, oG = .returned vG ∧ Q_rm_ipE Z w_EMPTY  h0 n0 vG UG'.heap LG ∧ FrameEnd UG oG UG' LG ({ frames := 0, cells := 0, slots := 0, locals := 0 } : Room).cells ({ frames := 0, cells := 0, slots := 0, locals := 0 } : Room).slots) := by
  refine MetFree.of_bodySF (plainFor_of_name pn_1) hisR ?_
  intro pG eG sG mG argsG belowG methG cG s₁ Bd hml0 hP hK
  obtain ⟨rfl, hZ, hh⟩ := hP
  have hx := Bd.exec
  have hby := Bd.bytes
  have hml : cG.maxLocals = 1 := hml0
  have hown : sG.vm.findClass "java/util/OptionalLong" = some mG.cls := findClass_of_methodNamed Bd.named
  have hnm := (name_of_methodNamed Bd.named Bd.method).1
  have X0 : Stand pG l eG ({ frames := 0, cells := 0, slots := 0, locals := 0 } : Room) sG mG #[(.ref w_EMPTY)] belowG methG cG s₁ [] 0 0 := Stand.of_body Bd
  have e0 : s₁.heap = h0 := by rw [← hh, Bd.state]; rfl
  have N0 := Fr.nil n0
  have K0 := Keep.refl h0 []
  obtain ⟨S_w_EMPTY, E_w_EMPTY, F_w_EMPTY_isPresent, F_w_EMPTY_value⟩ := (id hS : St0 Z w_EMPTY )
  refine ostart (g' := (mkF mG 0 #[.val (.ref w_EMPTY)] [])) (by first | (simp [entryFrame, mkF, argsToLocals, Value.category]; done) | rfl) ?_
  refine ob s₁ (mkF mG 1 #[.val (.ref w_EMPTY)] [(.ref w_EMPTY)]) (fun _ kk => XS.aloadN X0.here hx rfl (hb hby d5_0) rfl rfl kk) ?_
  obtain ⟨T1, X1, e1, st1⟩ := getF X0 hx hZ hown (host := "") (Or.inl (ow hw 30 rfl)) Via.refl e0 (F_w_EMPTY_isPresent.ext O0.2) (g := (mkF mG 1 #[.val (.ref w_EMPTY)] [(.ref w_EMPTY)])) rfl rfl (hb hby d5_1)
  refine ob T1 (mkF mG 4 #[.val (.ref w_EMPTY)] [(.int (0 : Int32))]) (fun _ kk => st1 _ kk) ?_
  obtain ⟨fs, hr, hrun, hended, hW, hsame⟩ := X1.leave (v := some (.int (0 : Int32))) (fun h => by rw [Bd.returns] at h; cases h)
  refine oout (retN X1 hx (t := .boolean) Bd.returns (by simp) (hb hby d5_4) hr) hrun hended ⟨_, _, rfl, ?_, ⟨_, rfl⟩, hW, hsame.mono (by decide) (by decide)⟩
  show Q_rm_ipE Z w_EMPTY  h0 n0 _ T1.heap _
  rw [e1]
  exact ⟨rfl, N0, rfl⟩

def Q_rm_ipS (Z : State) (w_EMPTY : Addr) (a : Addr) (h0 : Heap) (n0 : Nat) (v : Option Value) (h : Heap) (L : List Loc) : Prop := v = some (.int (1 : Int32)) ∧ Fr n0 L ∧ h = h0
set_option maxRecDepth 65536 in
set_option maxHeartbeats 40000000 in
theorem rm_ipS (l : Launch) (Z : State) (a0 : Array Value) (hw : ∀ d ∈ tables_1, d.before a0 Z = true) (ws : List Jvm.Cond) (w_EMPTY : Addr) (a : Addr) (h0 : Heap) (n0 : Nat) (O0 : Old Z n0 h0) (hS : St0 Z w_EMPTY ) (F_p : Fld Z h0 a "java/util/OptionalLong" "isPresent" "Z" (.int (1 : Int32))) :
    MetFree l (⟨"java/util/OptionalLong", "isPresent", "()Z"⟩ : MethodName) (head1 (Jvm.Cond.code (⟨"java/util/OptionalLong", "isPresent", "()Z"⟩ : MethodName) jdk_2650_method_6_code 1 (some .boolean) :: ws) ({ frames := 0, cells := 0, slots := 0, locals := 0 } : Room)) (fun aG UG => aG = #[(.ref a)] ∧ Z.Warmed39 UG.vm ∧ UG.heap = h0) (fun _ _ _ _ _ => True) (fun _ UG oG UG' => ∃ vG LG, oG = .returned vG ∧ Q_rm_ipS Z w_EMPTY a h0 n0 vG UG'.heap LG ∧ FrameEnd UG oG UG' LG ({ frames := 0, cells := 0, slots := 0, locals := 0 } : Room).cells ({ frames := 0, cells := 0, slots := 0, locals := 0 } : Room).slots) := by
  refine MetFree.of_bodySF (plainFor_of_name pn_1) hisR ?_
  intro pG eG sG mG argsG belowG methG cG s₁ Bd hml0 hP hK
  obtain ⟨rfl, hZ, hh⟩ := hP
  have hx := Bd.exec
  have hby := Bd.bytes
  have hml : cG.maxLocals = 1 := hml0
  have hown : sG.vm.findClass "java/util/OptionalLong" = some mG.cls := findClass_of_methodNamed Bd.named
  have hnm := (name_of_methodNamed Bd.named Bd.method).1
  have X0 : Stand pG l eG ({ frames := 0, cells := 0, slots := 0, locals := 0 } : Room) sG mG #[(.ref a)] belowG methG cG s₁ [] 0 0 := Stand.of_body Bd
  have e0 : s₁.heap = h0 := by rw [← hh, Bd.state]; rfl
  have N0 := Fr.nil n0
  have K0 := Keep.refl h0 []
  obtain ⟨S_w_EMPTY, E_w_EMPTY, F_w_EMPTY_isPresent, F_w_EMPTY_value⟩ := (id hS : St0 Z w_EMPTY )
  refine ostart (g' := (mkF mG 0 #[.val (.ref a)] [])) (by first | (simp [entryFrame, mkF, argsToLocals, Value.category]; done) | rfl) ?_
  refine ob s₁ (mkF mG 1 #[.val (.ref a)] [(.ref a)]) (fun _ kk => XS.aloadN X0.here hx rfl (hb hby d5_0) rfl rfl kk) ?_
  obtain ⟨T1, X1, e1, st1⟩ := getF X0 hx hZ hown (host := "") (Or.inl (ow hw 30 rfl)) Via.refl e0 F_p (g := (mkF mG 1 #[.val (.ref a)] [(.ref a)])) rfl rfl (hb hby d5_1)
  refine ob T1 (mkF mG 4 #[.val (.ref a)] [(.int (1 : Int32))]) (fun _ kk => st1 _ kk) ?_
  obtain ⟨fs, hr, hrun, hended, hW, hsame⟩ := X1.leave (v := some (.int (1 : Int32))) (fun h => by rw [Bd.returns] at h; cases h)
  refine oout (retN X1 hx (t := .boolean) Bd.returns (by simp) (hb hby d5_4) hr) hrun hended ⟨_, _, rfl, ?_, ⟨_, rfl⟩, hW, hsame.mono (by decide) (by decide)⟩
  show Q_rm_ipS Z w_EMPTY a h0 n0 _ T1.heap _
  rw [e1]
  exact ⟨rfl, N0, rfl⟩

theorem d8_0 : decode jdk_2650_method_5_code 0 = .ok (.aload_n 0, 1) := by decide +kernel
theorem d8_1 : decode jdk_2650_method_5_code 1 = .ok (.getfield 7, 3) := by decide +kernel
theorem d8_4 : decode jdk_2650_method_5_code 4 = .ok (.ifCond .ne 13, 3) := by decide +kernel
theorem d8_17 : decode jdk_2650_method_5_code 17 = .ok (.aload_n 0, 1) := by decide +kernel
theorem d8_18 : decode jdk_2650_method_5_code 18 = .ok (.getfield 13, 3) := by decide +kernel
theorem d8_21 : decode jdk_2650_method_5_code 21 = .ok (.lreturn, 1) := by decide +kernel
def Q_rm_gal (Z : State) (w_EMPTY : Addr) (a : Addr) (q : Int64) (h0 : Heap) (n0 : Nat) (v : Option Value) (h : Heap) (L : List Loc) : Prop := v = some (.long q) ∧ Fr n0 L ∧ h = h0
set_option maxRecDepth 65536 in
set_option maxHeartbeats 40000000 in
theorem rm_gal (l : Launch) (Z : State) (a0 : Array Value) (hw : ∀ d ∈ tables_1, d.before a0 Z = true) (ws : List Jvm.Cond) (w_EMPTY : Addr) (a : Addr) (q : Int64) (h0 : Heap) (n0 : Nat) (O0 : Old Z n0 h0) (hS : St0 Z w_EMPTY ) (F_p : Fld Z h0 a "java/util/OptionalLong" "isPresent" "Z" (.int (1 : Int32))) (F_q : Fld Z h0 a "java/util/OptionalLong" "value" "J" (.long q)) :
    MetFree l (⟨"java/util/OptionalLong", "getAsLong", "()J"⟩ : MethodName) (head1 (Jvm.Cond.code (⟨"java/util/OptionalLong", "getAsLong", "()J"⟩ : MethodName) jdk_2650_method_5_code 1 (some .long) :: ws) ({ frames := 0, cells := 0, slots := 0, locals := 0 } : Room)) (fun aG UG => aG = #[(.ref a)] ∧ Z.Warmed39 UG.vm ∧ UG.heap = h0) (fun _ _ _ _ _ => True) (fun _ UG oG UG' => ∃ vG LG, oG = .returned vG ∧ Q_rm_gal Z w_EMPTY a q h0 n0 vG UG'.heap LG ∧ FrameEnd UG oG UG' LG ({ frames := 0, cells := 0, slots := 0, locals := 0 } : Room).cells ({ frames := 0, cells := 0, slots := 0, locals := 0 } : Room).slots) := by
  refine MetFree.of_bodySF (plainFor_of_name pn_1) hisR ?_
  intro pG eG sG mG argsG belowG methG cG s₁ Bd hml0 hP hK
  obtain ⟨rfl, hZ, hh⟩ := hP
  have hx := Bd.exec
  have hby := Bd.bytes
  have hml : cG.maxLocals = 1 := hml0
  have hown : sG.vm.findClass "java/util/OptionalLong" = some mG.cls := findClass_of_methodNamed Bd.named
  have hnm := (name_of_methodNamed Bd.named Bd.method).1
  have X0 : Stand pG l eG ({ frames := 0, cells := 0, slots := 0, locals := 0 } : Room) sG mG #[(.ref a)] belowG methG cG s₁ [] 0 0 := Stand.of_body Bd
  have e0 : s₁.heap = h0 := by rw [← hh, Bd.state]; rfl
  have N0 := Fr.nil n0
  have K0 := Keep.refl h0 []
  obtain ⟨S_w_EMPTY, E_w_EMPTY, F_w_EMPTY_isPresent, F_w_EMPTY_value⟩ := (id hS : St0 Z w_EMPTY )
  refine ostart (g' := (mkF mG 0 #[.val (.ref a)] [])) (by first | (simp [entryFrame, mkF, argsToLocals, Value.category]; done) | rfl) ?_
  refine ob s₁ (mkF mG 1 #[.val (.ref a)] [(.ref a)]) (fun _ kk => XS.aloadN X0.here hx rfl (hb hby d8_0) rfl rfl kk) ?_
  obtain ⟨T1, X1, e1, st1⟩ := getF X0 hx hZ hown (host := "") (Or.inl (ow hw 30 rfl)) Via.refl e0 F_p (g := (mkF mG 1 #[.val (.ref a)] [(.ref a)])) rfl rfl (hb hby d8_1)
  refine ob T1 (mkF mG 4 #[.val (.ref a)] [(.int (1 : Int32))]) (fun _ kk => st1 _ kk) ?_
  refine ob T1 (mkF mG 17 #[.val (.ref a)] []) (fun _ kk => XS.ifYes X1.here hx rfl (pc0 := 4) (pc' := 17) rfl (hb hby d8_4) rfl ((if0 _ _).trans (feq (by decide : ¬ ((1 : Int32) = (0 : Int32)))).2) (by decide) (by decide) kk) ?_
  refine ob T1 (mkF mG 18 #[.val (.ref a)] [(.ref a)]) (fun _ kk => XS.aloadN X1.here hx rfl (hb hby d8_17) rfl rfl kk) ?_
  obtain ⟨T2, X2, e2, st2⟩ := getF X1 hx hZ hown (host := "") (Or.inl (ow hw 42 rfl)) Via.refl e1 F_q (g := (mkF mG 18 #[.val (.ref a)] [(.ref a)])) rfl rfl (hb hby d8_18)
  refine ob T2 (mkF mG 21 #[.val (.ref a)] [(.long q)]) (fun _ kk => st2 _ kk) ?_
  obtain ⟨fs, hr, hrun, hended, hW, hsame⟩ := X2.leave (v := some (.long q)) (fun h => by rw [Bd.returns] at h; cases h)
  refine oout (retOut X2 hx Bd.returns rfl (Or.inr (Or.inl ⟨rfl, rfl, _, rfl⟩)) (hb hby d8_21) hr) hrun hended ⟨_, _, rfl, ?_, ⟨_, rfl⟩, hW, hsame.mono (by decide) (by decide)⟩
  show Q_rm_gal Z w_EMPTY a q h0 n0 _ T2.heap _
  rw [e2]
  exact ⟨rfl, N0, rfl⟩

theorem pd_3 : parseMethodDescriptor "(JI)V" = some ⟨[.long, .int], none⟩ := by decide +kernel
theorem pd_4 : parseMethodDescriptor "()Z" = some ⟨[], some .boolean⟩ := by decide +kernel
theorem pd_5 : parseMethodDescriptor "()J" = some ⟨[], some .long⟩ := by decide +kernel
def Q_rm0 (Z : State) (w_EMPTY : Addr) (q0 : Int64) (i1 : Int32) (q2 : Int64) (i3 : Int32) (h0 : Heap) (n0 : Nat) (v : Option Value) (h : Heap) (L : List Loc) : Prop := v = some (.int (1 : Int32)) ∧ Fr n0 L
set_option maxRecDepth 65536 in
set_option maxHeartbeats 40000000 in
theorem rm0 (l : Launch) (Z : State) (a0 : Array Value) (hw : ∀ d ∈ tables_1, d.before a0 Z = true) (ws : List Jvm.Cond) (w_EMPTY : Addr) (q0 : Int64) (i1 : Int32) (q2 : Int64) (i3 : Int32) (h0 : Heap) (n0 : Nat) (O0 : Old Z n0 h0) (hS : St0 Z w_EMPTY ) :
    MetFree l x (head1 (Jvm.Cond.code x code maxLocals ret :: ws) room_1) (fun aG UG => aG = #[(.long q0), (.int i1), (.long q2), (.int i3)] ∧ Z.Warmed39 UG.vm ∧ UG.heap = h0) (fun _ _ _ _ _ => True) (fun _ UG oG UG' => ∃ vG LG, oG = .returned vG ∧ Q_rm0 Z w_EMPTY q0 i1 q2 i3 h0 n0 vG UG'.heap LG ∧ FrameEnd UG oG UG' LG 16 128) := by
  refine MetFree.of_bodySF (plainFor_of_name pn_2) hisR ?_
  intro pG eG sG mG argsG belowG methG cG s₁ Bd hml0 hP hK
  obtain ⟨rfl, hZ, hh⟩ := hP
  have hx := Bd.exec
  have hby := Bd.bytes
  have hml : cG.maxLocals = 16 := hml0
  have hown : sG.vm.findClass "com/example/rigorous_sourcing/rigoroussourcing/domain/PagingNextOffsetPinLaw" = some mG.cls := findClass_of_methodNamed Bd.named
  have hnm := (name_of_methodNamed Bd.named Bd.method).1
  have X0 : Stand pG l eG room_1 sG mG #[(.long q0), (.int i1), (.long q2), (.int i3)] belowG methG cG s₁ [] 0 0 := Stand.of_body Bd
  have e0 : s₁.heap = h0 := by rw [← hh, Bd.state]; rfl
  have N0 := Fr.nil n0
  have K0 := Keep.refl h0 []
  obtain ⟨S_w_EMPTY, E_w_EMPTY, F_w_EMPTY_isPresent, F_w_EMPTY_value⟩ := (id hS : St0 Z w_EMPTY )
  refine ostart (g' := (mkF mG 0 #[.val (.long q0), .second, .val (.int i1), .val (.long q2), .second, .val (.int i3), .unset, .unset, .unset, .unset, .unset, .unset, .unset, .unset, .unset, .unset] [])) (by first | (simp [entryFrame, mkF, argsToLocals, Value.category, maxLocals]; done) | rfl) ?_
  refine ob s₁ (mkF mG 1 #[.val (.long q0), .second, .val (.int i1), .val (.long q2), .second, .val (.int i3), .unset, .unset, .unset, .unset, .unset, .unset, .unset, .unset, .unset, .unset] [(.long q0)]) (fun _ kk => XS.lloadN X0.here hx rfl (hb hby at_0) rfl kk) ?_
  refine ob s₁ (mkF mG 4 #[.val (.long q0), .second, .val (.int i1), .val (.long q2), .second, .val (.int i3), .unset, .unset, .unset, .unset, .unset, .unset, .unset, .unset, .unset, .unset] [(.long (2147483647 : Int64)), (.long q0)]) (fun _ kk => X0.ldc2Long hx hown (mvT hZ (ow hw 0 rfl)) (g := (mkF mG 1 #[.val (.long q0), .second, .val (.int i1), .val (.long q2), .second, .val (.int i3), .unset, .unset, .unset, .unset, .unset, .unset, .unset, .unset, .unset, .unset] [(.long q0)])) rfl (hb hby at_1) _ kk) ?_
  refine ob s₁ (mkF mG 5 #[.val (.long q0), .second, .val (.int i1), .val (.long q2), .second, .val (.int i3), .unset, .unset, .unset, .unset, .unset, .unset, .unset, .unset, .unset, .unset] [(.long (q0 &&& (2147483647 : Int64)))]) (fun _ kk => XS.land X0.here hx rfl (hb hby at_4) rfl kk) ?_
  refine ob s₁ (mkF mG 7 #[.val (.long q0), .second, .val (.int i1), .val (.long q2), .second, .val (.int i3), .val (.long (q0 &&& (2147483647 : Int64))), .second, .unset, .unset, .unset, .unset, .unset, .unset, .unset, .unset] []) (fun _ kk => XS.lstore X0.here hx rfl (hb hby at_5) rfl (l' := #[.val (.long q0), .second, .val (.int i1), .val (.long q2), .second, .val (.int i3), .val (.long (q0 &&& (2147483647 : Int64))), .second, .unset, .unset, .unset, .unset, .unset, .unset, .unset, .unset]) rfl kk) ?_
  refine ob s₁ (mkF mG 8 #[.val (.long q0), .second, .val (.int i1), .val (.long q2), .second, .val (.int i3), .val (.long (q0 &&& (2147483647 : Int64))), .second, .unset, .unset, .unset, .unset, .unset, .unset, .unset, .unset] [(.int (1 : Int32))]) (fun _ kk => XS.iconst X0.here hx rfl (hb hby at_7) kk) ?_
  refine ob s₁ (mkF mG 9 #[.val (.long q0), .second, .val (.int i1), .val (.long q2), .second, .val (.int i3), .val (.long (q0 &&& (2147483647 : Int64))), .second, .unset, .unset, .unset, .unset, .unset, .unset, .unset, .unset] [(.int i1), (.int (1 : Int32))]) (fun _ kk => XS.iloadN X0.here hx rfl (hb hby at_8) rfl kk) ?_
  refine ob s₁ (mkF mG 11 #[.val (.long q0), .second, .val (.int i1), .val (.long q2), .second, .val (.int i3), .val (.long (q0 &&& (2147483647 : Int64))), .second, .unset, .unset, .unset, .unset, .unset, .unset, .unset, .unset] [(.int (2147483647 : Int32)), (.int i1), (.int (1 : Int32))]) (fun _ kk => X0.ldcInt hx hown (mvT hZ (ow hw 1 rfl)) (g := (mkF mG 9 #[.val (.long q0), .second, .val (.int i1), .val (.long q2), .second, .val (.int i3), .val (.long (q0 &&& (2147483647 : Int64))), .second, .unset, .unset, .unset, .unset, .unset, .unset, .unset, .unset] [(.int i1), (.int (1 : Int32))])) rfl (hb hby at_9) _ kk) ?_
  refine ob s₁ (mkF mG 12 #[.val (.long q0), .second, .val (.int i1), .val (.long q2), .second, .val (.int i3), .val (.long (q0 &&& (2147483647 : Int64))), .second, .unset, .unset, .unset, .unset, .unset, .unset, .unset, .unset] [(.int (i1 &&& (2147483647 : Int32))), (.int (1 : Int32))]) (fun _ kk => XS.iand X0.here hx rfl (hb hby at_11) rfl kk) ?_
  refine ob s₁ (mkF mG 14 #[.val (.long q0), .second, .val (.int i1), .val (.long q2), .second, .val (.int i3), .val (.long (q0 &&& (2147483647 : Int64))), .second, .unset, .unset, .unset, .unset, .unset, .unset, .unset, .unset] [(.int (100 : Int32)), (.int (i1 &&& (2147483647 : Int32))), (.int (1 : Int32))]) (fun _ kk => XS.bipush X0.here hx rfl (hb hby at_12) kk) ?_
  refine ob s₁ (mkF mG 15 #[.val (.long q0), .second, .val (.int i1), .val (.long q2), .second, .val (.int i3), .val (.long (q0 &&& (2147483647 : Int64))), .second, .unset, .unset, .unset, .unset, .unset, .unset, .unset, .unset] [(.int ((i1 &&& (2147483647 : Int32)) % (100 : Int32))), (.int (1 : Int32))]) (fun _ kk => iremM X0 hx rfl (hb hby at_14) rfl (by decide) kk) ?_
  refine ob s₁ (mkF mG 16 #[.val (.long q0), .second, .val (.int i1), .val (.long q2), .second, .val (.int i3), .val (.long (q0 &&& (2147483647 : Int64))), .second, .unset, .unset, .unset, .unset, .unset, .unset, .unset, .unset] [(.int ((1 : Int32) + ((i1 &&& (2147483647 : Int32)) % (100 : Int32))))]) (fun _ kk => XS.iadd X0.here hx rfl (hb hby at_15) rfl kk) ?_
  refine ob s₁ (mkF mG 18 #[.val (.long q0), .second, .val (.int i1), .val (.long q2), .second, .val (.int i3), .val (.long (q0 &&& (2147483647 : Int64))), .second, .val (.int ((1 : Int32) + ((i1 &&& (2147483647 : Int32)) % (100 : Int32)))), .unset, .unset, .unset, .unset, .unset, .unset, .unset] []) (fun _ kk => XS.istore X0.here hx rfl (hb hby at_16) rfl (l' := #[.val (.long q0), .second, .val (.int i1), .val (.long q2), .second, .val (.int i3), .val (.long (q0 &&& (2147483647 : Int64))), .second, .val (.int ((1 : Int32) + ((i1 &&& (2147483647 : Int32)) % (100 : Int32)))), .unset, .unset, .unset, .unset, .unset, .unset, .unset]) rfl kk) ?_
  refine ob s₁ (mkF mG 20 #[.val (.long q0), .second, .val (.int i1), .val (.long q2), .second, .val (.int i3), .val (.long (q0 &&& (2147483647 : Int64))), .second, .val (.int ((1 : Int32) + ((i1 &&& (2147483647 : Int32)) % (100 : Int32)))), .unset, .unset, .unset, .unset, .unset, .unset, .unset] [(.long (q0 &&& (2147483647 : Int64)))]) (fun _ kk => XS.lload X0.here hx rfl (hb hby at_18) rfl kk) ?_
  refine ob s₁ (mkF mG 22 #[.val (.long q0), .second, .val (.int i1), .val (.long q2), .second, .val (.int i3), .val (.long (q0 &&& (2147483647 : Int64))), .second, .val (.int ((1 : Int32) + ((i1 &&& (2147483647 : Int32)) % (100 : Int32)))), .unset, .unset, .unset, .unset, .unset, .unset, .unset] [(.int ((1 : Int32) + ((i1 &&& (2147483647 : Int32)) % (100 : Int32)))), (.long (q0 &&& (2147483647 : Int64)))]) (fun _ kk => XS.iload X0.here hx rfl (hb hby at_20) rfl kk) ?_
  refine ob s₁ (mkF mG 23 #[.val (.long q0), .second, .val (.int i1), .val (.long q2), .second, .val (.int i3), .val (.long (q0 &&& (2147483647 : Int64))), .second, .val (.int ((1 : Int32) + ((i1 &&& (2147483647 : Int32)) % (100 : Int32)))), .unset, .unset, .unset, .unset, .unset, .unset, .unset] [(.long (((1 : Int32) + ((i1 &&& (2147483647 : Int32)) % (100 : Int32))).toInt64)), (.long (q0 &&& (2147483647 : Int64)))]) (fun _ kk => XS.i2l X0.here hx rfl (hb hby at_22) rfl kk) ?_
  refine ob s₁ (mkF mG 24 #[.val (.long q0), .second, .val (.int i1), .val (.long q2), .second, .val (.int i3), .val (.long (q0 &&& (2147483647 : Int64))), .second, .val (.int ((1 : Int32) + ((i1 &&& (2147483647 : Int32)) % (100 : Int32)))), .unset, .unset, .unset, .unset, .unset, .unset, .unset] [(.long ((q0 &&& (2147483647 : Int64)) + (((1 : Int32) + ((i1 &&& (2147483647 : Int32)) % (100 : Int32))).toInt64)))]) (fun _ kk => XS.ladd X0.here hx rfl (hb hby at_23) rfl kk) ?_
  refine ob s₁ (mkF mG 26 #[.val (.long q0), .second, .val (.int i1), .val (.long q2), .second, .val (.int i3), .val (.long (q0 &&& (2147483647 : Int64))), .second, .val (.int ((1 : Int32) + ((i1 &&& (2147483647 : Int32)) % (100 : Int32)))), .val (.long ((q0 &&& (2147483647 : Int64)) + (((1 : Int32) + ((i1 &&& (2147483647 : Int32)) % (100 : Int32))).toInt64))), .second, .unset, .unset, .unset, .unset, .unset] []) (fun _ kk => XS.lstore X0.here hx rfl (hb hby at_24) rfl (l' := #[.val (.long q0), .second, .val (.int i1), .val (.long q2), .second, .val (.int i3), .val (.long (q0 &&& (2147483647 : Int64))), .second, .val (.int ((1 : Int32) + ((i1 &&& (2147483647 : Int32)) % (100 : Int32)))), .val (.long ((q0 &&& (2147483647 : Int64)) + (((1 : Int32) + ((i1 &&& (2147483647 : Int32)) % (100 : Int32))).toInt64))), .second, .unset, .unset, .unset, .unset, .unset]) rfl kk) ?_
  refine ob s₁ (mkF mG 28 #[.val (.long q0), .second, .val (.int i1), .val (.long q2), .second, .val (.int i3), .val (.long (q0 &&& (2147483647 : Int64))), .second, .val (.int ((1 : Int32) + ((i1 &&& (2147483647 : Int32)) % (100 : Int32)))), .val (.long ((q0 &&& (2147483647 : Int64)) + (((1 : Int32) + ((i1 &&& (2147483647 : Int32)) % (100 : Int32))).toInt64))), .second, .unset, .unset, .unset, .unset, .unset] [(.int i3)]) (fun _ kk => XS.iload X0.here hx rfl (hb hby at_26) rfl kk) ?_
  refine ob s₁ (mkF mG 29 #[.val (.long q0), .second, .val (.int i1), .val (.long q2), .second, .val (.int i3), .val (.long (q0 &&& (2147483647 : Int64))), .second, .val (.int ((1 : Int32) + ((i1 &&& (2147483647 : Int32)) % (100 : Int32)))), .val (.long ((q0 &&& (2147483647 : Int64)) + (((1 : Int32) + ((i1 &&& (2147483647 : Int32)) % (100 : Int32))).toInt64))), .second, .unset, .unset, .unset, .unset, .unset] [(.int (1 : Int32)), (.int i3)]) (fun _ kk => XS.iconst X0.here hx rfl (hb hby at_28) kk) ?_
  refine ob s₁ (mkF mG 30 #[.val (.long q0), .second, .val (.int i1), .val (.long q2), .second, .val (.int i3), .val (.long (q0 &&& (2147483647 : Int64))), .second, .val (.int ((1 : Int32) + ((i1 &&& (2147483647 : Int32)) % (100 : Int32)))), .val (.long ((q0 &&& (2147483647 : Int64)) + (((1 : Int32) + ((i1 &&& (2147483647 : Int32)) % (100 : Int32))).toInt64))), .second, .unset, .unset, .unset, .unset, .unset] [(.int (i3 &&& (1 : Int32)))]) (fun _ kk => XS.iand X0.here hx rfl (hb hby at_29) rfl kk) ?_
  by_cases hc1 : (i3 &&& (1 : Int32)) = (0 : Int32)
  · skip
    refine ob s₁ (mkF mG 50 #[.val (.long q0), .second, .val (.int i1), .val (.long q2), .second, .val (.int i3), .val (.long (q0 &&& (2147483647 : Int64))), .second, .val (.int ((1 : Int32) + ((i1 &&& (2147483647 : Int32)) % (100 : Int32)))), .val (.long ((q0 &&& (2147483647 : Int64)) + (((1 : Int32) + ((i1 &&& (2147483647 : Int32)) % (100 : Int32))).toInt64))), .second, .unset, .unset, .unset, .unset, .unset] []) (fun _ kk => XS.ifYes X0.here hx rfl (pc0 := 30) (pc' := 50) rfl (hb hby at_30) rfl ((if0 _ _).trans (teq hc1).1) (by decide) (by decide) kk) ?_
    refine ob s₁ (mkF mG 51 #[.val (.long q0), .second, .val (.int i1), .val (.long q2), .second, .val (.int i3), .val (.long (q0 &&& (2147483647 : Int64))), .second, .val (.int ((1 : Int32) + ((i1 &&& (2147483647 : Int32)) % (100 : Int32)))), .val (.long ((q0 &&& (2147483647 : Int64)) + (((1 : Int32) + ((i1 &&& (2147483647 : Int32)) % (100 : Int32))).toInt64))), .second, .unset, .unset, .unset, .unset, .unset] [(.long q2)]) (fun _ kk => XS.lloadN X0.here hx rfl (hb hby at_50) rfl kk) ?_
    refine ob s₁ (mkF mG 53 #[.val (.long q0), .second, .val (.int i1), .val (.long q2), .second, .val (.int i3), .val (.long (q0 &&& (2147483647 : Int64))), .second, .val (.int ((1 : Int32) + ((i1 &&& (2147483647 : Int32)) % (100 : Int32)))), .val (.long ((q0 &&& (2147483647 : Int64)) + (((1 : Int32) + ((i1 &&& (2147483647 : Int32)) % (100 : Int32))).toInt64))), .second, .val (.long q2), .second, .unset, .unset, .unset] []) (fun _ kk => XS.lstore X0.here hx rfl (hb hby at_51) rfl (l' := #[.val (.long q0), .second, .val (.int i1), .val (.long q2), .second, .val (.int i3), .val (.long (q0 &&& (2147483647 : Int64))), .second, .val (.int ((1 : Int32) + ((i1 &&& (2147483647 : Int32)) % (100 : Int32)))), .val (.long ((q0 &&& (2147483647 : Int64)) + (((1 : Int32) + ((i1 &&& (2147483647 : Int32)) % (100 : Int32))).toInt64))), .second, .val (.long q2), .second, .unset, .unset, .unset]) rfl kk) ?_
    obtain ⟨T2, h2, X2, e2, E2, A2, D2, _x2, st2⟩ := newO X0 hx hZ hown (ow hw 2 rfl) (ow hw 3 rfl) (ow hw 4 rfl) e0 (g := (mkF mG 53 #[.val (.long q0), .second, .val (.int i1), .val (.long q2), .second, .val (.int i3), .val (.long (q0 &&& (2147483647 : Int64))), .second, .val (.int ((1 : Int32) + ((i1 &&& (2147483647 : Int32)) % (100 : Int32)))), .val (.long ((q0 &&& (2147483647 : Int64)) + (((1 : Int32) + ((i1 &&& (2147483647 : Int32)) % (100 : Int32))).toInt64))), .second, .val (.long q2), .second, .unset, .unset, .unset] [])) rfl (hb hby at_53) (by decide) (by decide)
    obtain ⟨b2, g2⟩ : ∃ z, z = h0.size := ⟨_, rfl⟩
    rw [← g2] at A2 D2 st2
    have n_b2 : n0 ≤ b2 := Nat.le_trans (on0 O0) (Nat.le_of_eq g2.symm)
    have sz_b2 : h0.size ≤ b2 := Nat.le_trans K0.1 (Nat.le_of_eq g2.symm)
    have O2 := O0.ext E2
    have K2 := K0.ext E2
    have F2_12 : Fld Z h2 b2 "com/example/rigorous_sourcing/rigoroussourcing/domain/Paging" "mOffset" "J" (.long (0 : Int64)) := D2 (Or.inr (ow hw 12 rfl)) (ty := .long) (by decide)
    have F2_14 : Fld Z h2 b2 "com/example/rigorous_sourcing/rigoroussourcing/domain/Paging" "mPageSize" "I" (.int (0 : Int32)) := D2 (Or.inr (ow hw 14 rfl)) (ty := .int) (by decide)
    refine ob T2 (mkF mG 56 #[.val (.long q0), .second, .val (.int i1), .val (.long q2), .second, .val (.int i3), .val (.long (q0 &&& (2147483647 : Int64))), .second, .val (.int ((1 : Int32) + ((i1 &&& (2147483647 : Int32)) % (100 : Int32)))), .val (.long ((q0 &&& (2147483647 : Int64)) + (((1 : Int32) + ((i1 &&& (2147483647 : Int32)) % (100 : Int32))).toInt64))), .second, .val (.long q2), .second, .unset, .unset, .unset] [(.ref b2)]) (fun _ kk => st2 _ kk) ?_
    refine ob T2 (mkF mG 57 #[.val (.long q0), .second, .val (.int i1), .val (.long q2), .second, .val (.int i3), .val (.long (q0 &&& (2147483647 : Int64))), .second, .val (.int ((1 : Int32) + ((i1 &&& (2147483647 : Int32)) % (100 : Int32)))), .val (.long ((q0 &&& (2147483647 : Int64)) + (((1 : Int32) + ((i1 &&& (2147483647 : Int32)) % (100 : Int32))).toInt64))), .second, .val (.long q2), .second, .unset, .unset, .unset] [(.ref b2), (.ref b2)]) (fun _ kk => XS.dup X2.here hx rfl (hb hby at_56) rfl rfl kk) ?_
    refine ob T2 (mkF mG 59 #[.val (.long q0), .second, .val (.int i1), .val (.long q2), .second, .val (.int i3), .val (.long (q0 &&& (2147483647 : Int64))), .second, .val (.int ((1 : Int32) + ((i1 &&& (2147483647 : Int32)) % (100 : Int32)))), .val (.long ((q0 &&& (2147483647 : Int64)) + (((1 : Int32) + ((i1 &&& (2147483647 : Int32)) % (100 : Int32))).toInt64))), .second, .val (.long q2), .second, .unset, .unset, .unset] [(.long (q0 &&& (2147483647 : Int64))), (.ref b2), (.ref b2)]) (fun _ kk => XS.lload X2.here hx rfl (hb hby at_57) rfl kk) ?_
    refine ob T2 (mkF mG 61 #[.val (.long q0), .second, .val (.int i1), .val (.long q2), .second, .val (.int i3), .val (.long (q0 &&& (2147483647 : Int64))), .second, .val (.int ((1 : Int32) + ((i1 &&& (2147483647 : Int32)) % (100 : Int32)))), .val (.long ((q0 &&& (2147483647 : Int64)) + (((1 : Int32) + ((i1 &&& (2147483647 : Int32)) % (100 : Int32))).toInt64))), .second, .val (.long q2), .second, .unset, .unset, .unset] [(.int ((1 : Int32) + ((i1 &&& (2147483647 : Int32)) % (100 : Int32)))), (.long (q0 &&& (2147483647 : Int64))), (.ref b2), (.ref b2)]) (fun _ kk => XS.iload X2.here hx rfl (hb hby at_59) rfl kk) ?_
    obtain ⟨_, _, ⟨T3, L3, k3, n3⟩, -, X3, ⟨Lc3, hQ3, l3, y3, z3⟩, st3⟩ := X2.specialBack hx (y := (⟨"com/example/rigorous_sourcing/rigoroussourcing/domain/Paging", "<init>", "(JI)V"⟩ : MethodName)) rfl hown (mvT hZ (ow hw 5 rfl)) (mvT hZ (ow hw 6 rfl)) (mvT hZ (ow hw 7 rfl)) (by decide) (backOf (W := 1) (rm_pgi l Z a0 hw [] w_EMPTY b2 (q0 &&& (2147483647 : Int64)) ((1 : Int32) + ((i1 &&& (2147483647 : Int32)) % (100 : Int32))) (.long (0 : Int64)) (.int (0 : Int32)) h2 n0 O2 hS A2 F2_12 F2_14 n_b2) hZ (ow hw 7 rfl) (ow hw 4 rfl) (by decide) (by decide)) (g := (mkF mG 61 #[.val (.long q0), .second, .val (.int i1), .val (.long q2), .second, .val (.int i3), .val (.long (q0 &&& (2147483647 : Int64))), .second, .val (.int ((1 : Int32) + ((i1 &&& (2147483647 : Int32)) % (100 : Int32)))), .val (.long ((q0 &&& (2147483647 : Int64)) + (((1 : Int32) + ((i1 &&& (2147483647 : Int32)) % (100 : Int32))).toInt64))), .second, .val (.long q2), .second, .unset, .unset, .unset] [(.int ((1 : Int32) + ((i1 &&& (2147483647 : Int32)) % (100 : Int32)))), (.long (q0 &&& (2147483647 : Int64))), (.ref b2), (.ref b2)])) rfl (by rw [hml]; rfl) (Steps.refl _) (a := b2) (argsL := [(.long (q0 &&& (2147483647 : Int64))), (.int ((1 : Int32) + ((i1 &&& (2147483647 : Int32)) % (100 : Int32))))]) (rest := [(.ref b2)]) (lenOf pd_3 rfl) rfl (by show 2 * 0 + _ ≤ _; exact Nat.le_of_eq rfl) (hb hby at_61) (fun _ _ => ⟨rfl, e2, (by decide : 1 + 0 ≤ _), (by decide : 2 + 0 ≤ _)⟩)
    dsimp only [Pt.U, Pt.locs, Pt.cells, Pt.slots] at X3 l3 y3 z3 st3 hQ3
    subst l3 y3 z3
    obtain ⟨h3, e3⟩ : ∃ h, T3.heap = h := ⟨_, rfl⟩
    rw [e3] at hQ3
    obtain ⟨rfl, N3q, K3q, O3, F3_0, F3_1⟩ := hQ3
    have N3 := Fr.app N0 N3q
    have K3 := K2.trans K3q (allS (Or.inr sz_b2) all0)
    refine ob T3 (mkF mG 64 #[.val (.long q0), .second, .val (.int i1), .val (.long q2), .second, .val (.int i3), .val (.long (q0 &&& (2147483647 : Int64))), .second, .val (.int ((1 : Int32) + ((i1 &&& (2147483647 : Int32)) % (100 : Int32)))), .val (.long ((q0 &&& (2147483647 : Int64)) + (((1 : Int32) + ((i1 &&& (2147483647 : Int32)) % (100 : Int32))).toInt64))), .second, .val (.long q2), .second, .unset, .unset, .unset] [(.ref b2)]) (fun _ kk => st3.trans kk) ?_
    refine ob T3 (mkF mG 66 #[.val (.long q0), .second, .val (.int i1), .val (.long q2), .second, .val (.int i3), .val (.long (q0 &&& (2147483647 : Int64))), .second, .val (.int ((1 : Int32) + ((i1 &&& (2147483647 : Int32)) % (100 : Int32)))), .val (.long ((q0 &&& (2147483647 : Int64)) + (((1 : Int32) + ((i1 &&& (2147483647 : Int32)) % (100 : Int32))).toInt64))), .second, .val (.long q2), .second, .val (.ref b2), .unset, .unset] []) (fun _ kk => XS.astore X3.here hx rfl (hb hby at_64) rfl rfl (l' := #[.val (.long q0), .second, .val (.int i1), .val (.long q2), .second, .val (.int i3), .val (.long (q0 &&& (2147483647 : Int64))), .second, .val (.int ((1 : Int32) + ((i1 &&& (2147483647 : Int32)) % (100 : Int32)))), .val (.long ((q0 &&& (2147483647 : Int64)) + (((1 : Int32) + ((i1 &&& (2147483647 : Int32)) % (100 : Int32))).toInt64))), .second, .val (.long q2), .second, .val (.ref b2), .unset, .unset]) rfl kk) ?_
    refine ob T3 (mkF mG 68 #[.val (.long q0), .second, .val (.int i1), .val (.long q2), .second, .val (.int i3), .val (.long (q0 &&& (2147483647 : Int64))), .second, .val (.int ((1 : Int32) + ((i1 &&& (2147483647 : Int32)) % (100 : Int32)))), .val (.long ((q0 &&& (2147483647 : Int64)) + (((1 : Int32) + ((i1 &&& (2147483647 : Int32)) % (100 : Int32))).toInt64))), .second, .val (.long q2), .second, .val (.ref b2), .unset, .unset] [(.ref b2)]) (fun _ kk => XS.aload X3.here hx rfl (hb hby at_66) rfl rfl kk) ?_
    refine ob T3 (mkF mG 70 #[.val (.long q0), .second, .val (.int i1), .val (.long q2), .second, .val (.int i3), .val (.long (q0 &&& (2147483647 : Int64))), .second, .val (.int ((1 : Int32) + ((i1 &&& (2147483647 : Int32)) % (100 : Int32)))), .val (.long ((q0 &&& (2147483647 : Int64)) + (((1 : Int32) + ((i1 &&& (2147483647 : Int32)) % (100 : Int32))).toInt64))), .second, .val (.long q2), .second, .val (.ref b2), .unset, .unset] [(.long q2), (.ref b2)]) (fun _ kk => XS.lload X3.here hx rfl (hb hby at_68) rfl kk) ?_
    by_cases hq : (lcmpW ((q0 &&& (2147483647 : Int64)) + (((1 : Int32) + ((i1 &&& (2147483647 : Int32)) % (100 : Int32))).toInt64)) q2) < (0 : Int32)
    · skip
      obtain ⟨cq4, kq4, q4a, q4b, q4c⟩ := isOf hZ e3 (A2.keep K3q)
      obtain ⟨_, _, ⟨T4, L4, k4, n4⟩, -, X4, ⟨Lc4, hQ4, l4, y4, z4⟩, st4⟩ := X3.virtualBack hx (y := (⟨"com/example/rigorous_sourcing/rigoroussourcing/domain/Paging", "nextOffset", "(J)Ljava/util/OptionalLong;"⟩ : MethodName)) (z := (⟨"com/example/rigorous_sourcing/rigoroussourcing/domain/Paging", "nextOffset", "(J)Ljava/util/OptionalLong;"⟩ : MethodName)) hown (mvT hZ (ow hw 15 rfl)) (mvT hZ (ow hw 16 rfl)) (notFace_of_selects (args := #[]) (mvT hZ (ow hw 18 rfl))) (mvT hZ (ow hw 18 rfl)) (mvT hZ (ow hw 17 rfl)) (by decide) (backOf (W := 0) (rm_nxS l Z a0 hw [] w_EMPTY b2 (q0 &&& (2147483647 : Int64)) ((1 : Int32) + ((i1 &&& (2147483647 : Int32)) % (100 : Int32))) q2 h3 n0 O3 hS F3_0 F3_1 hq) hZ (ow hw 19 rfl) (ow hw 4 rfl) (by decide) (by decide)) q4a q4c (g := (mkF mG 70 #[.val (.long q0), .second, .val (.int i1), .val (.long q2), .second, .val (.int i3), .val (.long (q0 &&& (2147483647 : Int64))), .second, .val (.int ((1 : Int32) + ((i1 &&& (2147483647 : Int32)) % (100 : Int32)))), .val (.long ((q0 &&& (2147483647 : Int64)) + (((1 : Int32) + ((i1 &&& (2147483647 : Int32)) % (100 : Int32))).toInt64))), .second, .val (.long q2), .second, .val (.ref b2), .unset, .unset] [(.long q2), (.ref b2)])) rfl (by rw [hml]; rfl) (Steps.refl _) (argsL := [(.long q2)]) (rest := []) (lenOf pd_2 rfl) rfl (by show 2 * 0 + _ ≤ _; exact Nat.le_of_eq rfl) (hb hby at_70) (fun _ _ => ⟨rfl, e3, (by decide : 1 + 1 ≤ _), (by decide : 2 + 2 ≤ _)⟩)
      dsimp only [Pt.U, Pt.locs, Pt.cells, Pt.slots] at X4 l4 y4 z4 st4 hQ4
      subst l4 y4 z4
      obtain ⟨h4, e4⟩ : ∃ h, T4.heap = h := ⟨_, rfl⟩
      rw [e4] at hQ4
      obtain ⟨b0_4, rfl, N4q, K4q, O4, n_b0_4, z_b0_4, F4_0, F4_1, F4_2⟩ := hQ4
      have N4 := Fr.app N3 N4q
      have sz_b0_4 : h0.size ≤ b0_4 := Nat.le_trans K3.1 z_b0_4
      have ne_b2_b0_4 : b2 ≠ b0_4 := Nat.ne_of_lt (Nat.lt_of_lt_of_le (A2.keep K3q).lt z_b0_4)
      have K4 := K3.trans K4q all0
      refine ob T4 (mkF mG 73 #[.val (.long q0), .second, .val (.int i1), .val (.long q2), .second, .val (.int i3), .val (.long (q0 &&& (2147483647 : Int64))), .second, .val (.int ((1 : Int32) + ((i1 &&& (2147483647 : Int32)) % (100 : Int32)))), .val (.long ((q0 &&& (2147483647 : Int64)) + (((1 : Int32) + ((i1 &&& (2147483647 : Int32)) % (100 : Int32))).toInt64))), .second, .val (.long q2), .second, .val (.ref b2), .unset, .unset] [(.ref b0_4)]) (fun _ kk => st4.trans kk) ?_
      refine ob T4 (mkF mG 75 #[.val (.long q0), .second, .val (.int i1), .val (.long q2), .second, .val (.int i3), .val (.long (q0 &&& (2147483647 : Int64))), .second, .val (.int ((1 : Int32) + ((i1 &&& (2147483647 : Int32)) % (100 : Int32)))), .val (.long ((q0 &&& (2147483647 : Int64)) + (((1 : Int32) + ((i1 &&& (2147483647 : Int32)) % (100 : Int32))).toInt64))), .second, .val (.long q2), .second, .val (.ref b2), .val (.ref b0_4), .unset] []) (fun _ kk => XS.astore X4.here hx rfl (hb hby at_73) rfl rfl (l' := #[.val (.long q0), .second, .val (.int i1), .val (.long q2), .second, .val (.int i3), .val (.long (q0 &&& (2147483647 : Int64))), .second, .val (.int ((1 : Int32) + ((i1 &&& (2147483647 : Int32)) % (100 : Int32)))), .val (.long ((q0 &&& (2147483647 : Int64)) + (((1 : Int32) + ((i1 &&& (2147483647 : Int32)) % (100 : Int32))).toInt64))), .second, .val (.long q2), .second, .val (.ref b2), .val (.ref b0_4), .unset]) rfl kk) ?_
      refine ob T4 (mkF mG 77 #[.val (.long q0), .second, .val (.int i1), .val (.long q2), .second, .val (.int i3), .val (.long (q0 &&& (2147483647 : Int64))), .second, .val (.int ((1 : Int32) + ((i1 &&& (2147483647 : Int32)) % (100 : Int32)))), .val (.long ((q0 &&& (2147483647 : Int64)) + (((1 : Int32) + ((i1 &&& (2147483647 : Int32)) % (100 : Int32))).toInt64))), .second, .val (.long q2), .second, .val (.ref b2), .val (.ref b0_4), .unset] [(.long ((q0 &&& (2147483647 : Int64)) + (((1 : Int32) + ((i1 &&& (2147483647 : Int32)) % (100 : Int32))).toInt64)))]) (fun _ kk => XS.lload X4.here hx rfl (hb hby at_75) rfl kk) ?_
      refine ob T4 (mkF mG 79 #[.val (.long q0), .second, .val (.int i1), .val (.long q2), .second, .val (.int i3), .val (.long (q0 &&& (2147483647 : Int64))), .second, .val (.int ((1 : Int32) + ((i1 &&& (2147483647 : Int32)) % (100 : Int32)))), .val (.long ((q0 &&& (2147483647 : Int64)) + (((1 : Int32) + ((i1 &&& (2147483647 : Int32)) % (100 : Int32))).toInt64))), .second, .val (.long q2), .second, .val (.ref b2), .val (.ref b0_4), .unset] [(.long q2), (.long ((q0 &&& (2147483647 : Int64)) + (((1 : Int32) + ((i1 &&& (2147483647 : Int32)) % (100 : Int32))).toInt64)))]) (fun _ kk => XS.lload X4.here hx rfl (hb hby at_77) rfl kk) ?_
      refine ob T4 (mkF mG 80 #[.val (.long q0), .second, .val (.int i1), .val (.long q2), .second, .val (.int i3), .val (.long (q0 &&& (2147483647 : Int64))), .second, .val (.int ((1 : Int32) + ((i1 &&& (2147483647 : Int32)) % (100 : Int32)))), .val (.long ((q0 &&& (2147483647 : Int64)) + (((1 : Int32) + ((i1 &&& (2147483647 : Int32)) % (100 : Int32))).toInt64))), .second, .val (.long q2), .second, .val (.ref b2), .val (.ref b0_4), .unset] [(.int (lcmpW ((q0 &&& (2147483647 : Int64)) + (((1 : Int32) + ((i1 &&& (2147483647 : Int32)) % (100 : Int32))).toInt64)) q2))]) (fun _ kk => XS.lcmp X4.here hx rfl (hb hby at_79) rfl kk) ?_
      refine ob T4 (mkF mG 83 #[.val (.long q0), .second, .val (.int i1), .val (.long q2), .second, .val (.int i3), .val (.long (q0 &&& (2147483647 : Int64))), .second, .val (.int ((1 : Int32) + ((i1 &&& (2147483647 : Int32)) % (100 : Int32)))), .val (.long ((q0 &&& (2147483647 : Int64)) + (((1 : Int32) + ((i1 &&& (2147483647 : Int32)) % (100 : Int32))).toInt64))), .second, .val (.long q2), .second, .val (.ref b2), .val (.ref b0_4), .unset] []) (fun _ kk => XS.ifNo X4.here hx rfl (hb hby at_80) rfl ((if0 _ _).trans (tlt hq).2.1) kk) ?_
      refine ob T4 (mkF mG 84 #[.val (.long q0), .second, .val (.int i1), .val (.long q2), .second, .val (.int i3), .val (.long (q0 &&& (2147483647 : Int64))), .second, .val (.int ((1 : Int32) + ((i1 &&& (2147483647 : Int32)) % (100 : Int32)))), .val (.long ((q0 &&& (2147483647 : Int64)) + (((1 : Int32) + ((i1 &&& (2147483647 : Int32)) % (100 : Int32))).toInt64))), .second, .val (.long q2), .second, .val (.ref b2), .val (.ref b0_4), .unset] [(.int (1 : Int32))]) (fun _ kk => XS.iconst X4.here hx rfl (hb hby at_83) kk) ?_
      refine ob T4 (mkF mG 88 #[.val (.long q0), .second, .val (.int i1), .val (.long q2), .second, .val (.int i3), .val (.long (q0 &&& (2147483647 : Int64))), .second, .val (.int ((1 : Int32) + ((i1 &&& (2147483647 : Int32)) % (100 : Int32)))), .val (.long ((q0 &&& (2147483647 : Int64)) + (((1 : Int32) + ((i1 &&& (2147483647 : Int32)) % (100 : Int32))).toInt64))), .second, .val (.long q2), .second, .val (.ref b2), .val (.ref b0_4), .unset] [(.int (1 : Int32))]) (fun _ kk => XS.goto X4.here hx rfl (pc0 := 84) (pc' := 88) rfl (hb hby at_84) (by decide) (by decide) kk) ?_
      refine ob T4 (mkF mG 90 #[.val (.long q0), .second, .val (.int i1), .val (.long q2), .second, .val (.int i3), .val (.long (q0 &&& (2147483647 : Int64))), .second, .val (.int ((1 : Int32) + ((i1 &&& (2147483647 : Int32)) % (100 : Int32)))), .val (.long ((q0 &&& (2147483647 : Int64)) + (((1 : Int32) + ((i1 &&& (2147483647 : Int32)) % (100 : Int32))).toInt64))), .second, .val (.long q2), .second, .val (.ref b2), .val (.ref b0_4), .val (.int (1 : Int32))] []) (fun _ kk => XS.istore X4.here hx rfl (hb hby at_88) rfl (l' := #[.val (.long q0), .second, .val (.int i1), .val (.long q2), .second, .val (.int i3), .val (.long (q0 &&& (2147483647 : Int64))), .second, .val (.int ((1 : Int32) + ((i1 &&& (2147483647 : Int32)) % (100 : Int32)))), .val (.long ((q0 &&& (2147483647 : Int64)) + (((1 : Int32) + ((i1 &&& (2147483647 : Int32)) % (100 : Int32))).toInt64))), .second, .val (.long q2), .second, .val (.ref b2), .val (.ref b0_4), .val (.int (1 : Int32))]) rfl kk) ?_
      refine ob T4 (mkF mG 92 #[.val (.long q0), .second, .val (.int i1), .val (.long q2), .second, .val (.int i3), .val (.long (q0 &&& (2147483647 : Int64))), .second, .val (.int ((1 : Int32) + ((i1 &&& (2147483647 : Int32)) % (100 : Int32)))), .val (.long ((q0 &&& (2147483647 : Int64)) + (((1 : Int32) + ((i1 &&& (2147483647 : Int32)) % (100 : Int32))).toInt64))), .second, .val (.long q2), .second, .val (.ref b2), .val (.ref b0_4), .val (.int (1 : Int32))] [(.ref b0_4)]) (fun _ kk => XS.aload X4.here hx rfl (hb hby at_90) rfl rfl kk) ?_
      obtain ⟨cq5, kq5, q5a, q5b, q5c⟩ := isOf hZ e4 F4_0
      obtain ⟨_, _, ⟨T5, L5, k5, n5⟩, -, X5, ⟨Lc5, hQ5, l5, y5, z5⟩, st5⟩ := X4.virtualBack hx (y := (⟨"java/util/OptionalLong", "isPresent", "()Z"⟩ : MethodName)) (z := (⟨"java/util/OptionalLong", "isPresent", "()Z"⟩ : MethodName)) hown (mvT hZ (ow hw 25 rfl)) (mvT hZ (ow hw 26 rfl)) (notFace_of_selects (args := #[]) (mvT hZ (ow hw 28 rfl))) (mvT hZ (ow hw 28 rfl)) (mvT hZ (ow hw 27 rfl)) (by decide) (backOf (W := 0) (rm_ipS l Z a0 hw [] w_EMPTY b0_4 h4 n0 O4 hS F4_1) hZ (ow hw 29 rfl) (ow hw 22 rfl) (by decide) (by decide)) q5a q5c (g := (mkF mG 92 #[.val (.long q0), .second, .val (.int i1), .val (.long q2), .second, .val (.int i3), .val (.long (q0 &&& (2147483647 : Int64))), .second, .val (.int ((1 : Int32) + ((i1 &&& (2147483647 : Int32)) % (100 : Int32)))), .val (.long ((q0 &&& (2147483647 : Int64)) + (((1 : Int32) + ((i1 &&& (2147483647 : Int32)) % (100 : Int32))).toInt64))), .second, .val (.long q2), .second, .val (.ref b2), .val (.ref b0_4), .val (.int (1 : Int32))] [(.ref b0_4)])) rfl (by rw [hml]; rfl) (Steps.refl _) (argsL := []) (rest := []) (lenOf pd_4 rfl) rfl (by show 2 * 0 + _ ≤ _; exact Nat.le_of_eq rfl) (hb hby at_92) (fun _ _ => ⟨rfl, e4, (by decide : 2 + 0 ≤ _), (by decide : 4 + 0 ≤ _)⟩)
      dsimp only [Pt.U, Pt.locs, Pt.cells, Pt.slots] at X5 l5 y5 z5 st5 hQ5
      subst l5 y5 z5
      obtain ⟨rfl, N5q, e5⟩ := hQ5
      have N5 := Fr.app N4 N5q
      refine ob T5 (mkF mG 95 #[.val (.long q0), .second, .val (.int i1), .val (.long q2), .second, .val (.int i3), .val (.long (q0 &&& (2147483647 : Int64))), .second, .val (.int ((1 : Int32) + ((i1 &&& (2147483647 : Int32)) % (100 : Int32)))), .val (.long ((q0 &&& (2147483647 : Int64)) + (((1 : Int32) + ((i1 &&& (2147483647 : Int32)) % (100 : Int32))).toInt64))), .second, .val (.long q2), .second, .val (.ref b2), .val (.ref b0_4), .val (.int (1 : Int32))] [(.int (1 : Int32))]) (fun _ kk => st5.trans kk) ?_
      refine ob T5 (mkF mG 97 #[.val (.long q0), .second, .val (.int i1), .val (.long q2), .second, .val (.int i3), .val (.long (q0 &&& (2147483647 : Int64))), .second, .val (.int ((1 : Int32) + ((i1 &&& (2147483647 : Int32)) % (100 : Int32)))), .val (.long ((q0 &&& (2147483647 : Int64)) + (((1 : Int32) + ((i1 &&& (2147483647 : Int32)) % (100 : Int32))).toInt64))), .second, .val (.long q2), .second, .val (.ref b2), .val (.ref b0_4), .val (.int (1 : Int32))] [(.int (1 : Int32)), (.int (1 : Int32))]) (fun _ kk => XS.iload X5.here hx rfl (hb hby at_95) rfl kk) ?_
      refine ob T5 (mkF mG 102 #[.val (.long q0), .second, .val (.int i1), .val (.long q2), .second, .val (.int i3), .val (.long (q0 &&& (2147483647 : Int64))), .second, .val (.int ((1 : Int32) + ((i1 &&& (2147483647 : Int32)) % (100 : Int32)))), .val (.long ((q0 &&& (2147483647 : Int64)) + (((1 : Int32) + ((i1 &&& (2147483647 : Int32)) % (100 : Int32))).toInt64))), .second, .val (.long q2), .second, .val (.ref b2), .val (.ref b0_4), .val (.int (1 : Int32))] []) (fun _ kk => XS.icmpYes X5.here hx rfl (pc0 := 97) (pc' := 102) rfl (hb hby at_97) rfl (teq (by decide : (1 : Int32) = (1 : Int32))).1 (by decide) (by decide) kk) ?_
      refine ob T5 (mkF mG 104 #[.val (.long q0), .second, .val (.int i1), .val (.long q2), .second, .val (.int i3), .val (.long (q0 &&& (2147483647 : Int64))), .second, .val (.int ((1 : Int32) + ((i1 &&& (2147483647 : Int32)) % (100 : Int32)))), .val (.long ((q0 &&& (2147483647 : Int64)) + (((1 : Int32) + ((i1 &&& (2147483647 : Int32)) % (100 : Int32))).toInt64))), .second, .val (.long q2), .second, .val (.ref b2), .val (.ref b0_4), .val (.int (1 : Int32))] [(.int (1 : Int32))]) (fun _ kk => XS.iload X5.here hx rfl (hb hby at_102) rfl kk) ?_
      refine ob T5 (mkF mG 107 #[.val (.long q0), .second, .val (.int i1), .val (.long q2), .second, .val (.int i3), .val (.long (q0 &&& (2147483647 : Int64))), .second, .val (.int ((1 : Int32) + ((i1 &&& (2147483647 : Int32)) % (100 : Int32)))), .val (.long ((q0 &&& (2147483647 : Int64)) + (((1 : Int32) + ((i1 &&& (2147483647 : Int32)) % (100 : Int32))).toInt64))), .second, .val (.long q2), .second, .val (.ref b2), .val (.ref b0_4), .val (.int (1 : Int32))] []) (fun _ kk => XS.ifNo X5.here hx rfl (hb hby at_104) rfl ((if0 _ _).trans (feq (by decide : ¬ ((1 : Int32) = (0 : Int32)))).1) kk) ?_
      refine ob T5 (mkF mG 109 #[.val (.long q0), .second, .val (.int i1), .val (.long q2), .second, .val (.int i3), .val (.long (q0 &&& (2147483647 : Int64))), .second, .val (.int ((1 : Int32) + ((i1 &&& (2147483647 : Int32)) % (100 : Int32)))), .val (.long ((q0 &&& (2147483647 : Int64)) + (((1 : Int32) + ((i1 &&& (2147483647 : Int32)) % (100 : Int32))).toInt64))), .second, .val (.long q2), .second, .val (.ref b2), .val (.ref b0_4), .val (.int (1 : Int32))] [(.ref b0_4)]) (fun _ kk => XS.aload X5.here hx rfl (hb hby at_107) rfl rfl kk) ?_
      obtain ⟨cq6, kq6, q6a, q6b, q6c⟩ := isOf hZ e5 F4_0
      obtain ⟨_, _, ⟨T6, L6, k6, n6⟩, -, X6, ⟨Lc6, hQ6, l6, y6, z6⟩, st6⟩ := X5.virtualBack hx (y := (⟨"java/util/OptionalLong", "getAsLong", "()J"⟩ : MethodName)) (z := (⟨"java/util/OptionalLong", "getAsLong", "()J"⟩ : MethodName)) hown (mvT hZ (ow hw 44 rfl)) (mvT hZ (ow hw 45 rfl)) (notFace_of_selects (args := #[]) (mvT hZ (ow hw 47 rfl))) (mvT hZ (ow hw 47 rfl)) (mvT hZ (ow hw 46 rfl)) (by decide) (backOf (W := 0) (rm_gal l Z a0 hw [] w_EMPTY b0_4 ((q0 &&& (2147483647 : Int64)) + (((1 : Int32) + ((i1 &&& (2147483647 : Int32)) % (100 : Int32))).toInt64)) h4 n0 O4 hS F4_1 F4_2) hZ (ow hw 48 rfl) (ow hw 22 rfl) (by decide) (by decide)) q6a q6c (g := (mkF mG 109 #[.val (.long q0), .second, .val (.int i1), .val (.long q2), .second, .val (.int i3), .val (.long (q0 &&& (2147483647 : Int64))), .second, .val (.int ((1 : Int32) + ((i1 &&& (2147483647 : Int32)) % (100 : Int32)))), .val (.long ((q0 &&& (2147483647 : Int64)) + (((1 : Int32) + ((i1 &&& (2147483647 : Int32)) % (100 : Int32))).toInt64))), .second, .val (.long q2), .second, .val (.ref b2), .val (.ref b0_4), .val (.int (1 : Int32))] [(.ref b0_4)])) rfl (by rw [hml]; rfl) (Steps.refl _) (argsL := []) (rest := []) (lenOf pd_5 rfl) rfl (by show 2 * 0 + _ ≤ _; exact Nat.le_of_eq rfl) (hb hby at_109) (fun _ _ => ⟨rfl, e5, (by decide : 2 + 0 ≤ _), (by decide : 4 + 0 ≤ _)⟩)
      dsimp only [Pt.U, Pt.locs, Pt.cells, Pt.slots] at X6 l6 y6 z6 st6 hQ6
      subst l6 y6 z6
      obtain ⟨rfl, N6q, e6⟩ := hQ6
      have N6 := Fr.app N5 N6q
      refine ob T6 (mkF mG 112 #[.val (.long q0), .second, .val (.int i1), .val (.long q2), .second, .val (.int i3), .val (.long (q0 &&& (2147483647 : Int64))), .second, .val (.int ((1 : Int32) + ((i1 &&& (2147483647 : Int32)) % (100 : Int32)))), .val (.long ((q0 &&& (2147483647 : Int64)) + (((1 : Int32) + ((i1 &&& (2147483647 : Int32)) % (100 : Int32))).toInt64))), .second, .val (.long q2), .second, .val (.ref b2), .val (.ref b0_4), .val (.int (1 : Int32))] [(.long ((q0 &&& (2147483647 : Int64)) + (((1 : Int32) + ((i1 &&& (2147483647 : Int32)) % (100 : Int32))).toInt64)))]) (fun _ kk => st6.trans kk) ?_
      refine ob T6 (mkF mG 114 #[.val (.long q0), .second, .val (.int i1), .val (.long q2), .second, .val (.int i3), .val (.long (q0 &&& (2147483647 : Int64))), .second, .val (.int ((1 : Int32) + ((i1 &&& (2147483647 : Int32)) % (100 : Int32)))), .val (.long ((q0 &&& (2147483647 : Int64)) + (((1 : Int32) + ((i1 &&& (2147483647 : Int32)) % (100 : Int32))).toInt64))), .second, .val (.long q2), .second, .val (.ref b2), .val (.ref b0_4), .val (.int (1 : Int32))] [(.long ((q0 &&& (2147483647 : Int64)) + (((1 : Int32) + ((i1 &&& (2147483647 : Int32)) % (100 : Int32))).toInt64))), (.long ((q0 &&& (2147483647 : Int64)) + (((1 : Int32) + ((i1 &&& (2147483647 : Int32)) % (100 : Int32))).toInt64)))]) (fun _ kk => XS.lload X6.here hx rfl (hb hby at_112) rfl kk) ?_
      refine ob T6 (mkF mG 115 #[.val (.long q0), .second, .val (.int i1), .val (.long q2), .second, .val (.int i3), .val (.long (q0 &&& (2147483647 : Int64))), .second, .val (.int ((1 : Int32) + ((i1 &&& (2147483647 : Int32)) % (100 : Int32)))), .val (.long ((q0 &&& (2147483647 : Int64)) + (((1 : Int32) + ((i1 &&& (2147483647 : Int32)) % (100 : Int32))).toInt64))), .second, .val (.long q2), .second, .val (.ref b2), .val (.ref b0_4), .val (.int (1 : Int32))] [(.int (lcmpW ((q0 &&& (2147483647 : Int64)) + (((1 : Int32) + ((i1 &&& (2147483647 : Int32)) % (100 : Int32))).toInt64)) ((q0 &&& (2147483647 : Int64)) + (((1 : Int32) + ((i1 &&& (2147483647 : Int32)) % (100 : Int32))).toInt64))))]) (fun _ kk => XS.lcmp X6.here hx rfl (hb hby at_114) rfl kk) ?_
      refine ob T6 (mkF mG 120 #[.val (.long q0), .second, .val (.int i1), .val (.long q2), .second, .val (.int i3), .val (.long (q0 &&& (2147483647 : Int64))), .second, .val (.int ((1 : Int32) + ((i1 &&& (2147483647 : Int32)) % (100 : Int32)))), .val (.long ((q0 &&& (2147483647 : Int64)) + (((1 : Int32) + ((i1 &&& (2147483647 : Int32)) % (100 : Int32))).toInt64))), .second, .val (.long q2), .second, .val (.ref b2), .val (.ref b0_4), .val (.int (1 : Int32))] []) (fun _ kk => XS.ifYes X6.here hx rfl (pc0 := 115) (pc' := 120) rfl (hb hby at_115) rfl ((if0 _ _).trans (teq ((lw_eq _ _).mpr rfl)).1) (by decide) (by decide) kk) ?_
      refine ob T6 (mkF mG 121 #[.val (.long q0), .second, .val (.int i1), .val (.long q2), .second, .val (.int i3), .val (.long (q0 &&& (2147483647 : Int64))), .second, .val (.int ((1 : Int32) + ((i1 &&& (2147483647 : Int32)) % (100 : Int32)))), .val (.long ((q0 &&& (2147483647 : Int64)) + (((1 : Int32) + ((i1 &&& (2147483647 : Int32)) % (100 : Int32))).toInt64))), .second, .val (.long q2), .second, .val (.ref b2), .val (.ref b0_4), .val (.int (1 : Int32))] [(.int (1 : Int32))]) (fun _ kk => XS.iconst X6.here hx rfl (hb hby at_120) kk) ?_
      obtain ⟨fs, hr, hrun, hended, hW, hsame⟩ := X6.leave (v := some (.int (1 : Int32))) (fun h => by rw [Bd.returns] at h; cases h)
      refine oout (retN X6 hx (t := .boolean) Bd.returns (by simp) (hb hby at_121) hr) hrun hended ⟨_, _, rfl, ?_, ⟨_, rfl⟩, hW, hsame.mono (by decide) (by decide)⟩
      show Q_rm0 Z w_EMPTY q0 i1 q2 i3 h0 n0 _ T6.heap _
      rw [e6]
      exact ⟨rfl, N6⟩
    · skip
      obtain ⟨cq7, kq7, q7a, q7b, q7c⟩ := isOf hZ e3 (A2.keep K3q)
      obtain ⟨_, _, ⟨T7, L7, k7, n7⟩, -, X7, ⟨Lc7, hQ7, l7, y7, z7⟩, st7⟩ := X3.virtualBack hx (y := (⟨"com/example/rigorous_sourcing/rigoroussourcing/domain/Paging", "nextOffset", "(J)Ljava/util/OptionalLong;"⟩ : MethodName)) (z := (⟨"com/example/rigorous_sourcing/rigoroussourcing/domain/Paging", "nextOffset", "(J)Ljava/util/OptionalLong;"⟩ : MethodName)) hown (mvT hZ (ow hw 15 rfl)) (mvT hZ (ow hw 16 rfl)) (notFace_of_selects (args := #[]) (mvT hZ (ow hw 18 rfl))) (mvT hZ (ow hw 18 rfl)) (mvT hZ (ow hw 17 rfl)) (by decide) (backOf (W := 0) (rm_nxN l Z a0 hw [] w_EMPTY b2 (q0 &&& (2147483647 : Int64)) ((1 : Int32) + ((i1 &&& (2147483647 : Int32)) % (100 : Int32))) q2 h3 n0 O3 hS F3_0 F3_1 hq) hZ (ow hw 19 rfl) (ow hw 4 rfl) (by decide) (by decide)) q7a q7c (g := (mkF mG 70 #[.val (.long q0), .second, .val (.int i1), .val (.long q2), .second, .val (.int i3), .val (.long (q0 &&& (2147483647 : Int64))), .second, .val (.int ((1 : Int32) + ((i1 &&& (2147483647 : Int32)) % (100 : Int32)))), .val (.long ((q0 &&& (2147483647 : Int64)) + (((1 : Int32) + ((i1 &&& (2147483647 : Int32)) % (100 : Int32))).toInt64))), .second, .val (.long q2), .second, .val (.ref b2), .unset, .unset] [(.long q2), (.ref b2)])) rfl (by rw [hml]; rfl) (Steps.refl _) (argsL := [(.long q2)]) (rest := []) (lenOf pd_2 rfl) rfl (by show 2 * 0 + _ ≤ _; exact Nat.le_of_eq rfl) (hb hby at_70) (fun _ _ => ⟨rfl, e3, (by decide : 1 + 0 ≤ _), (by decide : 2 + 0 ≤ _)⟩)
      dsimp only [Pt.U, Pt.locs, Pt.cells, Pt.slots] at X7 l7 y7 z7 st7 hQ7
      subst l7 y7 z7
      obtain ⟨rfl, N7q, e7⟩ := hQ7
      have N7 := Fr.app N3 N7q
      refine ob T7 (mkF mG 73 #[.val (.long q0), .second, .val (.int i1), .val (.long q2), .second, .val (.int i3), .val (.long (q0 &&& (2147483647 : Int64))), .second, .val (.int ((1 : Int32) + ((i1 &&& (2147483647 : Int32)) % (100 : Int32)))), .val (.long ((q0 &&& (2147483647 : Int64)) + (((1 : Int32) + ((i1 &&& (2147483647 : Int32)) % (100 : Int32))).toInt64))), .second, .val (.long q2), .second, .val (.ref b2), .unset, .unset] [(.ref w_EMPTY)]) (fun _ kk => st7.trans kk) ?_
      refine ob T7 (mkF mG 75 #[.val (.long q0), .second, .val (.int i1), .val (.long q2), .second, .val (.int i3), .val (.long (q0 &&& (2147483647 : Int64))), .second, .val (.int ((1 : Int32) + ((i1 &&& (2147483647 : Int32)) % (100 : Int32)))), .val (.long ((q0 &&& (2147483647 : Int64)) + (((1 : Int32) + ((i1 &&& (2147483647 : Int32)) % (100 : Int32))).toInt64))), .second, .val (.long q2), .second, .val (.ref b2), .val (.ref w_EMPTY), .unset] []) (fun _ kk => XS.astore X7.here hx rfl (hb hby at_73) rfl rfl (l' := #[.val (.long q0), .second, .val (.int i1), .val (.long q2), .second, .val (.int i3), .val (.long (q0 &&& (2147483647 : Int64))), .second, .val (.int ((1 : Int32) + ((i1 &&& (2147483647 : Int32)) % (100 : Int32)))), .val (.long ((q0 &&& (2147483647 : Int64)) + (((1 : Int32) + ((i1 &&& (2147483647 : Int32)) % (100 : Int32))).toInt64))), .second, .val (.long q2), .second, .val (.ref b2), .val (.ref w_EMPTY), .unset]) rfl kk) ?_
      refine ob T7 (mkF mG 77 #[.val (.long q0), .second, .val (.int i1), .val (.long q2), .second, .val (.int i3), .val (.long (q0 &&& (2147483647 : Int64))), .second, .val (.int ((1 : Int32) + ((i1 &&& (2147483647 : Int32)) % (100 : Int32)))), .val (.long ((q0 &&& (2147483647 : Int64)) + (((1 : Int32) + ((i1 &&& (2147483647 : Int32)) % (100 : Int32))).toInt64))), .second, .val (.long q2), .second, .val (.ref b2), .val (.ref w_EMPTY), .unset] [(.long ((q0 &&& (2147483647 : Int64)) + (((1 : Int32) + ((i1 &&& (2147483647 : Int32)) % (100 : Int32))).toInt64)))]) (fun _ kk => XS.lload X7.here hx rfl (hb hby at_75) rfl kk) ?_
      refine ob T7 (mkF mG 79 #[.val (.long q0), .second, .val (.int i1), .val (.long q2), .second, .val (.int i3), .val (.long (q0 &&& (2147483647 : Int64))), .second, .val (.int ((1 : Int32) + ((i1 &&& (2147483647 : Int32)) % (100 : Int32)))), .val (.long ((q0 &&& (2147483647 : Int64)) + (((1 : Int32) + ((i1 &&& (2147483647 : Int32)) % (100 : Int32))).toInt64))), .second, .val (.long q2), .second, .val (.ref b2), .val (.ref w_EMPTY), .unset] [(.long q2), (.long ((q0 &&& (2147483647 : Int64)) + (((1 : Int32) + ((i1 &&& (2147483647 : Int32)) % (100 : Int32))).toInt64)))]) (fun _ kk => XS.lload X7.here hx rfl (hb hby at_77) rfl kk) ?_
      refine ob T7 (mkF mG 80 #[.val (.long q0), .second, .val (.int i1), .val (.long q2), .second, .val (.int i3), .val (.long (q0 &&& (2147483647 : Int64))), .second, .val (.int ((1 : Int32) + ((i1 &&& (2147483647 : Int32)) % (100 : Int32)))), .val (.long ((q0 &&& (2147483647 : Int64)) + (((1 : Int32) + ((i1 &&& (2147483647 : Int32)) % (100 : Int32))).toInt64))), .second, .val (.long q2), .second, .val (.ref b2), .val (.ref w_EMPTY), .unset] [(.int (lcmpW ((q0 &&& (2147483647 : Int64)) + (((1 : Int32) + ((i1 &&& (2147483647 : Int32)) % (100 : Int32))).toInt64)) q2))]) (fun _ kk => XS.lcmp X7.here hx rfl (hb hby at_79) rfl kk) ?_
      refine ob T7 (mkF mG 87 #[.val (.long q0), .second, .val (.int i1), .val (.long q2), .second, .val (.int i3), .val (.long (q0 &&& (2147483647 : Int64))), .second, .val (.int ((1 : Int32) + ((i1 &&& (2147483647 : Int32)) % (100 : Int32)))), .val (.long ((q0 &&& (2147483647 : Int64)) + (((1 : Int32) + ((i1 &&& (2147483647 : Int32)) % (100 : Int32))).toInt64))), .second, .val (.long q2), .second, .val (.ref b2), .val (.ref w_EMPTY), .unset] []) (fun _ kk => XS.ifYes X7.here hx rfl (pc0 := 80) (pc' := 87) rfl (hb hby at_80) rfl ((if0 _ _).trans (flt hq).2.1) (by decide) (by decide) kk) ?_
      refine ob T7 (mkF mG 88 #[.val (.long q0), .second, .val (.int i1), .val (.long q2), .second, .val (.int i3), .val (.long (q0 &&& (2147483647 : Int64))), .second, .val (.int ((1 : Int32) + ((i1 &&& (2147483647 : Int32)) % (100 : Int32)))), .val (.long ((q0 &&& (2147483647 : Int64)) + (((1 : Int32) + ((i1 &&& (2147483647 : Int32)) % (100 : Int32))).toInt64))), .second, .val (.long q2), .second, .val (.ref b2), .val (.ref w_EMPTY), .unset] [(.int (0 : Int32))]) (fun _ kk => XS.iconst X7.here hx rfl (hb hby at_87) kk) ?_
      refine ob T7 (mkF mG 90 #[.val (.long q0), .second, .val (.int i1), .val (.long q2), .second, .val (.int i3), .val (.long (q0 &&& (2147483647 : Int64))), .second, .val (.int ((1 : Int32) + ((i1 &&& (2147483647 : Int32)) % (100 : Int32)))), .val (.long ((q0 &&& (2147483647 : Int64)) + (((1 : Int32) + ((i1 &&& (2147483647 : Int32)) % (100 : Int32))).toInt64))), .second, .val (.long q2), .second, .val (.ref b2), .val (.ref w_EMPTY), .val (.int (0 : Int32))] []) (fun _ kk => XS.istore X7.here hx rfl (hb hby at_88) rfl (l' := #[.val (.long q0), .second, .val (.int i1), .val (.long q2), .second, .val (.int i3), .val (.long (q0 &&& (2147483647 : Int64))), .second, .val (.int ((1 : Int32) + ((i1 &&& (2147483647 : Int32)) % (100 : Int32)))), .val (.long ((q0 &&& (2147483647 : Int64)) + (((1 : Int32) + ((i1 &&& (2147483647 : Int32)) % (100 : Int32))).toInt64))), .second, .val (.long q2), .second, .val (.ref b2), .val (.ref w_EMPTY), .val (.int (0 : Int32))]) rfl kk) ?_
      refine ob T7 (mkF mG 92 #[.val (.long q0), .second, .val (.int i1), .val (.long q2), .second, .val (.int i3), .val (.long (q0 &&& (2147483647 : Int64))), .second, .val (.int ((1 : Int32) + ((i1 &&& (2147483647 : Int32)) % (100 : Int32)))), .val (.long ((q0 &&& (2147483647 : Int64)) + (((1 : Int32) + ((i1 &&& (2147483647 : Int32)) % (100 : Int32))).toInt64))), .second, .val (.long q2), .second, .val (.ref b2), .val (.ref w_EMPTY), .val (.int (0 : Int32))] [(.ref w_EMPTY)]) (fun _ kk => XS.aload X7.here hx rfl (hb hby at_90) rfl rfl kk) ?_
      obtain ⟨cq8, kq8, q8a, q8b, q8c⟩ := isOf hZ e7 (E_w_EMPTY.ext O3.2)
      obtain ⟨_, _, ⟨T8, L8, k8, n8⟩, -, X8, ⟨Lc8, hQ8, l8, y8, z8⟩, st8⟩ := X7.virtualBack hx (y := (⟨"java/util/OptionalLong", "isPresent", "()Z"⟩ : MethodName)) (z := (⟨"java/util/OptionalLong", "isPresent", "()Z"⟩ : MethodName)) hown (mvT hZ (ow hw 25 rfl)) (mvT hZ (ow hw 26 rfl)) (notFace_of_selects (args := #[]) (mvT hZ (ow hw 28 rfl))) (mvT hZ (ow hw 28 rfl)) (mvT hZ (ow hw 27 rfl)) (by decide) (backOf (W := 0) (rm_ipE l Z a0 hw [] w_EMPTY  h3 n0 O3 hS ) hZ (ow hw 29 rfl) (ow hw 22 rfl) (by decide) (by decide)) q8a q8c (g := (mkF mG 92 #[.val (.long q0), .second, .val (.int i1), .val (.long q2), .second, .val (.int i3), .val (.long (q0 &&& (2147483647 : Int64))), .second, .val (.int ((1 : Int32) + ((i1 &&& (2147483647 : Int32)) % (100 : Int32)))), .val (.long ((q0 &&& (2147483647 : Int64)) + (((1 : Int32) + ((i1 &&& (2147483647 : Int32)) % (100 : Int32))).toInt64))), .second, .val (.long q2), .second, .val (.ref b2), .val (.ref w_EMPTY), .val (.int (0 : Int32))] [(.ref w_EMPTY)])) rfl (by rw [hml]; rfl) (Steps.refl _) (argsL := []) (rest := []) (lenOf pd_4 rfl) rfl (by show 2 * 0 + _ ≤ _; exact Nat.le_of_eq rfl) (hb hby at_92) (fun _ _ => ⟨rfl, e7, (by decide : 1 + 0 ≤ _), (by decide : 2 + 0 ≤ _)⟩)
      dsimp only [Pt.U, Pt.locs, Pt.cells, Pt.slots] at X8 l8 y8 z8 st8 hQ8
      subst l8 y8 z8
      obtain ⟨rfl, N8q, e8⟩ := hQ8
      have N8 := Fr.app N7 N8q
      refine ob T8 (mkF mG 95 #[.val (.long q0), .second, .val (.int i1), .val (.long q2), .second, .val (.int i3), .val (.long (q0 &&& (2147483647 : Int64))), .second, .val (.int ((1 : Int32) + ((i1 &&& (2147483647 : Int32)) % (100 : Int32)))), .val (.long ((q0 &&& (2147483647 : Int64)) + (((1 : Int32) + ((i1 &&& (2147483647 : Int32)) % (100 : Int32))).toInt64))), .second, .val (.long q2), .second, .val (.ref b2), .val (.ref w_EMPTY), .val (.int (0 : Int32))] [(.int (0 : Int32))]) (fun _ kk => st8.trans kk) ?_
      refine ob T8 (mkF mG 97 #[.val (.long q0), .second, .val (.int i1), .val (.long q2), .second, .val (.int i3), .val (.long (q0 &&& (2147483647 : Int64))), .second, .val (.int ((1 : Int32) + ((i1 &&& (2147483647 : Int32)) % (100 : Int32)))), .val (.long ((q0 &&& (2147483647 : Int64)) + (((1 : Int32) + ((i1 &&& (2147483647 : Int32)) % (100 : Int32))).toInt64))), .second, .val (.long q2), .second, .val (.ref b2), .val (.ref w_EMPTY), .val (.int (0 : Int32))] [(.int (0 : Int32)), (.int (0 : Int32))]) (fun _ kk => XS.iload X8.here hx rfl (hb hby at_95) rfl kk) ?_
      refine ob T8 (mkF mG 102 #[.val (.long q0), .second, .val (.int i1), .val (.long q2), .second, .val (.int i3), .val (.long (q0 &&& (2147483647 : Int64))), .second, .val (.int ((1 : Int32) + ((i1 &&& (2147483647 : Int32)) % (100 : Int32)))), .val (.long ((q0 &&& (2147483647 : Int64)) + (((1 : Int32) + ((i1 &&& (2147483647 : Int32)) % (100 : Int32))).toInt64))), .second, .val (.long q2), .second, .val (.ref b2), .val (.ref w_EMPTY), .val (.int (0 : Int32))] []) (fun _ kk => XS.icmpYes X8.here hx rfl (pc0 := 97) (pc' := 102) rfl (hb hby at_97) rfl (teq (by decide : (0 : Int32) = (0 : Int32))).1 (by decide) (by decide) kk) ?_
      refine ob T8 (mkF mG 104 #[.val (.long q0), .second, .val (.int i1), .val (.long q2), .second, .val (.int i3), .val (.long (q0 &&& (2147483647 : Int64))), .second, .val (.int ((1 : Int32) + ((i1 &&& (2147483647 : Int32)) % (100 : Int32)))), .val (.long ((q0 &&& (2147483647 : Int64)) + (((1 : Int32) + ((i1 &&& (2147483647 : Int32)) % (100 : Int32))).toInt64))), .second, .val (.long q2), .second, .val (.ref b2), .val (.ref w_EMPTY), .val (.int (0 : Int32))] [(.int (0 : Int32))]) (fun _ kk => XS.iload X8.here hx rfl (hb hby at_102) rfl kk) ?_
      refine ob T8 (mkF mG 120 #[.val (.long q0), .second, .val (.int i1), .val (.long q2), .second, .val (.int i3), .val (.long (q0 &&& (2147483647 : Int64))), .second, .val (.int ((1 : Int32) + ((i1 &&& (2147483647 : Int32)) % (100 : Int32)))), .val (.long ((q0 &&& (2147483647 : Int64)) + (((1 : Int32) + ((i1 &&& (2147483647 : Int32)) % (100 : Int32))).toInt64))), .second, .val (.long q2), .second, .val (.ref b2), .val (.ref w_EMPTY), .val (.int (0 : Int32))] []) (fun _ kk => XS.ifYes X8.here hx rfl (pc0 := 104) (pc' := 120) rfl (hb hby at_104) rfl ((if0 _ _).trans (teq (by decide : (0 : Int32) = (0 : Int32))).1) (by decide) (by decide) kk) ?_
      refine ob T8 (mkF mG 121 #[.val (.long q0), .second, .val (.int i1), .val (.long q2), .second, .val (.int i3), .val (.long (q0 &&& (2147483647 : Int64))), .second, .val (.int ((1 : Int32) + ((i1 &&& (2147483647 : Int32)) % (100 : Int32)))), .val (.long ((q0 &&& (2147483647 : Int64)) + (((1 : Int32) + ((i1 &&& (2147483647 : Int32)) % (100 : Int32))).toInt64))), .second, .val (.long q2), .second, .val (.ref b2), .val (.ref w_EMPTY), .val (.int (0 : Int32))] [(.int (1 : Int32))]) (fun _ kk => XS.iconst X8.here hx rfl (hb hby at_120) kk) ?_
      obtain ⟨fs, hr, hrun, hended, hW, hsame⟩ := X8.leave (v := some (.int (1 : Int32))) (fun h => by rw [Bd.returns] at h; cases h)
      refine oout (retN X8 hx (t := .boolean) Bd.returns (by simp) (hb hby at_121) hr) hrun hended ⟨_, _, rfl, ?_, ⟨_, rfl⟩, hW, hsame.mono (by decide) (by decide)⟩
      show Q_rm0 Z w_EMPTY q0 i1 q2 i3 h0 n0 _ T8.heap _
      rw [e8]
      exact ⟨rfl, N8⟩
  · skip
    refine ob s₁ (mkF mG 33 #[.val (.long q0), .second, .val (.int i1), .val (.long q2), .second, .val (.int i3), .val (.long (q0 &&& (2147483647 : Int64))), .second, .val (.int ((1 : Int32) + ((i1 &&& (2147483647 : Int32)) % (100 : Int32)))), .val (.long ((q0 &&& (2147483647 : Int64)) + (((1 : Int32) + ((i1 &&& (2147483647 : Int32)) % (100 : Int32))).toInt64))), .second, .unset, .unset, .unset, .unset, .unset] []) (fun _ kk => XS.ifNo X0.here hx rfl (hb hby at_30) rfl ((if0 _ _).trans (feq hc1).1) kk) ?_
    refine ob s₁ (mkF mG 35 #[.val (.long q0), .second, .val (.int i1), .val (.long q2), .second, .val (.int i3), .val (.long (q0 &&& (2147483647 : Int64))), .second, .val (.int ((1 : Int32) + ((i1 &&& (2147483647 : Int32)) % (100 : Int32)))), .val (.long ((q0 &&& (2147483647 : Int64)) + (((1 : Int32) + ((i1 &&& (2147483647 : Int32)) % (100 : Int32))).toInt64))), .second, .unset, .unset, .unset, .unset, .unset] [(.long ((q0 &&& (2147483647 : Int64)) + (((1 : Int32) + ((i1 &&& (2147483647 : Int32)) % (100 : Int32))).toInt64)))]) (fun _ kk => XS.lload X0.here hx rfl (hb hby at_33) rfl kk) ?_
    refine ob s₁ (mkF mG 37 #[.val (.long q0), .second, .val (.int i1), .val (.long q2), .second, .val (.int i3), .val (.long (q0 &&& (2147483647 : Int64))), .second, .val (.int ((1 : Int32) + ((i1 &&& (2147483647 : Int32)) % (100 : Int32)))), .val (.long ((q0 &&& (2147483647 : Int64)) + (((1 : Int32) + ((i1 &&& (2147483647 : Int32)) % (100 : Int32))).toInt64))), .second, .unset, .unset, .unset, .unset, .unset] [(.int i3), (.long ((q0 &&& (2147483647 : Int64)) + (((1 : Int32) + ((i1 &&& (2147483647 : Int32)) % (100 : Int32))).toInt64)))]) (fun _ kk => XS.iload X0.here hx rfl (hb hby at_35) rfl kk) ?_
    refine ob s₁ (mkF mG 38 #[.val (.long q0), .second, .val (.int i1), .val (.long q2), .second, .val (.int i3), .val (.long (q0 &&& (2147483647 : Int64))), .second, .val (.int ((1 : Int32) + ((i1 &&& (2147483647 : Int32)) % (100 : Int32)))), .val (.long ((q0 &&& (2147483647 : Int64)) + (((1 : Int32) + ((i1 &&& (2147483647 : Int32)) % (100 : Int32))).toInt64))), .second, .unset, .unset, .unset, .unset, .unset] [(.int (1 : Int32)), (.int i3), (.long ((q0 &&& (2147483647 : Int64)) + (((1 : Int32) + ((i1 &&& (2147483647 : Int32)) % (100 : Int32))).toInt64)))]) (fun _ kk => XS.iconst X0.here hx rfl (hb hby at_37) kk) ?_
    refine ob s₁ (mkF mG 39 #[.val (.long q0), .second, .val (.int i1), .val (.long q2), .second, .val (.int i3), .val (.long (q0 &&& (2147483647 : Int64))), .second, .val (.int ((1 : Int32) + ((i1 &&& (2147483647 : Int32)) % (100 : Int32)))), .val (.long ((q0 &&& (2147483647 : Int64)) + (((1 : Int32) + ((i1 &&& (2147483647 : Int32)) % (100 : Int32))).toInt64))), .second, .unset, .unset, .unset, .unset, .unset] [(.int ((i3.toUInt32 >>> ((1 : Int32) &&& 31).toUInt32).toInt32)), (.long ((q0 &&& (2147483647 : Int64)) + (((1 : Int32) + ((i1 &&& (2147483647 : Int32)) % (100 : Int32))).toInt64)))]) (fun _ kk => XS.iushr X0.here hx rfl (hb hby at_38) rfl kk) ?_
    refine ob s₁ (mkF mG 40 #[.val (.long q0), .second, .val (.int i1), .val (.long q2), .second, .val (.int i3), .val (.long (q0 &&& (2147483647 : Int64))), .second, .val (.int ((1 : Int32) + ((i1 &&& (2147483647 : Int32)) % (100 : Int32)))), .val (.long ((q0 &&& (2147483647 : Int64)) + (((1 : Int32) + ((i1 &&& (2147483647 : Int32)) % (100 : Int32))).toInt64))), .second, .unset, .unset, .unset, .unset, .unset] [(.int (5 : Int32)), (.int ((i3.toUInt32 >>> ((1 : Int32) &&& 31).toUInt32).toInt32)), (.long ((q0 &&& (2147483647 : Int64)) + (((1 : Int32) + ((i1 &&& (2147483647 : Int32)) % (100 : Int32))).toInt64)))]) (fun _ kk => XS.iconst X0.here hx rfl (hb hby at_39) kk) ?_
    refine ob s₁ (mkF mG 41 #[.val (.long q0), .second, .val (.int i1), .val (.long q2), .second, .val (.int i3), .val (.long (q0 &&& (2147483647 : Int64))), .second, .val (.int ((1 : Int32) + ((i1 &&& (2147483647 : Int32)) % (100 : Int32)))), .val (.long ((q0 &&& (2147483647 : Int64)) + (((1 : Int32) + ((i1 &&& (2147483647 : Int32)) % (100 : Int32))).toInt64))), .second, .unset, .unset, .unset, .unset, .unset] [(.int (((i3.toUInt32 >>> ((1 : Int32) &&& 31).toUInt32).toInt32) % (5 : Int32))), (.long ((q0 &&& (2147483647 : Int64)) + (((1 : Int32) + ((i1 &&& (2147483647 : Int32)) % (100 : Int32))).toInt64)))]) (fun _ kk => iremM X0 hx rfl (hb hby at_40) rfl (by decide) kk) ?_
    refine ob s₁ (mkF mG 42 #[.val (.long q0), .second, .val (.int i1), .val (.long q2), .second, .val (.int i3), .val (.long (q0 &&& (2147483647 : Int64))), .second, .val (.int ((1 : Int32) + ((i1 &&& (2147483647 : Int32)) % (100 : Int32)))), .val (.long ((q0 &&& (2147483647 : Int64)) + (((1 : Int32) + ((i1 &&& (2147483647 : Int32)) % (100 : Int32))).toInt64))), .second, .unset, .unset, .unset, .unset, .unset] [(.int (2 : Int32)), (.int (((i3.toUInt32 >>> ((1 : Int32) &&& 31).toUInt32).toInt32) % (5 : Int32))), (.long ((q0 &&& (2147483647 : Int64)) + (((1 : Int32) + ((i1 &&& (2147483647 : Int32)) % (100 : Int32))).toInt64)))]) (fun _ kk => XS.iconst X0.here hx rfl (hb hby at_41) kk) ?_
    refine ob s₁ (mkF mG 43 #[.val (.long q0), .second, .val (.int i1), .val (.long q2), .second, .val (.int i3), .val (.long (q0 &&& (2147483647 : Int64))), .second, .val (.int ((1 : Int32) + ((i1 &&& (2147483647 : Int32)) % (100 : Int32)))), .val (.long ((q0 &&& (2147483647 : Int64)) + (((1 : Int32) + ((i1 &&& (2147483647 : Int32)) % (100 : Int32))).toInt64))), .second, .unset, .unset, .unset, .unset, .unset] [(.int ((((i3.toUInt32 >>> ((1 : Int32) &&& 31).toUInt32).toInt32) % (5 : Int32)) - (2 : Int32))), (.long ((q0 &&& (2147483647 : Int64)) + (((1 : Int32) + ((i1 &&& (2147483647 : Int32)) % (100 : Int32))).toInt64)))]) (fun _ kk => XS.isub X0.here hx rfl (hb hby at_42) rfl kk) ?_
    refine ob s₁ (mkF mG 44 #[.val (.long q0), .second, .val (.int i1), .val (.long q2), .second, .val (.int i3), .val (.long (q0 &&& (2147483647 : Int64))), .second, .val (.int ((1 : Int32) + ((i1 &&& (2147483647 : Int32)) % (100 : Int32)))), .val (.long ((q0 &&& (2147483647 : Int64)) + (((1 : Int32) + ((i1 &&& (2147483647 : Int32)) % (100 : Int32))).toInt64))), .second, .unset, .unset, .unset, .unset, .unset] [(.long (((((i3.toUInt32 >>> ((1 : Int32) &&& 31).toUInt32).toInt32) % (5 : Int32)) - (2 : Int32)).toInt64)), (.long ((q0 &&& (2147483647 : Int64)) + (((1 : Int32) + ((i1 &&& (2147483647 : Int32)) % (100 : Int32))).toInt64)))]) (fun _ kk => XS.i2l X0.here hx rfl (hb hby at_43) rfl kk) ?_
    refine ob s₁ (mkF mG 45 #[.val (.long q0), .second, .val (.int i1), .val (.long q2), .second, .val (.int i3), .val (.long (q0 &&& (2147483647 : Int64))), .second, .val (.int ((1 : Int32) + ((i1 &&& (2147483647 : Int32)) % (100 : Int32)))), .val (.long ((q0 &&& (2147483647 : Int64)) + (((1 : Int32) + ((i1 &&& (2147483647 : Int32)) % (100 : Int32))).toInt64))), .second, .unset, .unset, .unset, .unset, .unset] [(.long (((q0 &&& (2147483647 : Int64)) + (((1 : Int32) + ((i1 &&& (2147483647 : Int32)) % (100 : Int32))).toInt64)) + (((((i3.toUInt32 >>> ((1 : Int32) &&& 31).toUInt32).toInt32) % (5 : Int32)) - (2 : Int32)).toInt64)))]) (fun _ kk => XS.ladd X0.here hx rfl (hb hby at_44) rfl kk) ?_
    refine ob s₁ (mkF mG 47 #[.val (.long q0), .second, .val (.int i1), .val (.long q2), .second, .val (.int i3), .val (.long (q0 &&& (2147483647 : Int64))), .second, .val (.int ((1 : Int32) + ((i1 &&& (2147483647 : Int32)) % (100 : Int32)))), .val (.long ((q0 &&& (2147483647 : Int64)) + (((1 : Int32) + ((i1 &&& (2147483647 : Int32)) % (100 : Int32))).toInt64))), .second, .val (.long (((q0 &&& (2147483647 : Int64)) + (((1 : Int32) + ((i1 &&& (2147483647 : Int32)) % (100 : Int32))).toInt64)) + (((((i3.toUInt32 >>> ((1 : Int32) &&& 31).toUInt32).toInt32) % (5 : Int32)) - (2 : Int32)).toInt64))), .second, .unset, .unset, .unset] []) (fun _ kk => XS.lstore X0.here hx rfl (hb hby at_45) rfl (l' := #[.val (.long q0), .second, .val (.int i1), .val (.long q2), .second, .val (.int i3), .val (.long (q0 &&& (2147483647 : Int64))), .second, .val (.int ((1 : Int32) + ((i1 &&& (2147483647 : Int32)) % (100 : Int32)))), .val (.long ((q0 &&& (2147483647 : Int64)) + (((1 : Int32) + ((i1 &&& (2147483647 : Int32)) % (100 : Int32))).toInt64))), .second, .val (.long (((q0 &&& (2147483647 : Int64)) + (((1 : Int32) + ((i1 &&& (2147483647 : Int32)) % (100 : Int32))).toInt64)) + (((((i3.toUInt32 >>> ((1 : Int32) &&& 31).toUInt32).toInt32) % (5 : Int32)) - (2 : Int32)).toInt64))), .second, .unset, .unset, .unset]) rfl kk) ?_
    refine ob s₁ (mkF mG 53 #[.val (.long q0), .second, .val (.int i1), .val (.long q2), .second, .val (.int i3), .val (.long (q0 &&& (2147483647 : Int64))), .second, .val (.int ((1 : Int32) + ((i1 &&& (2147483647 : Int32)) % (100 : Int32)))), .val (.long ((q0 &&& (2147483647 : Int64)) + (((1 : Int32) + ((i1 &&& (2147483647 : Int32)) % (100 : Int32))).toInt64))), .second, .val (.long (((q0 &&& (2147483647 : Int64)) + (((1 : Int32) + ((i1 &&& (2147483647 : Int32)) % (100 : Int32))).toInt64)) + (((((i3.toUInt32 >>> ((1 : Int32) &&& 31).toUInt32).toInt32) % (5 : Int32)) - (2 : Int32)).toInt64))), .second, .unset, .unset, .unset] []) (fun _ kk => XS.goto X0.here hx rfl (pc0 := 47) (pc' := 53) rfl (hb hby at_47) (by decide) (by decide) kk) ?_
    obtain ⟨T9, h9, X9, e9, E9, A9, D9, _x9, st9⟩ := newO X0 hx hZ hown (ow hw 2 rfl) (ow hw 3 rfl) (ow hw 4 rfl) e0 (g := (mkF mG 53 #[.val (.long q0), .second, .val (.int i1), .val (.long q2), .second, .val (.int i3), .val (.long (q0 &&& (2147483647 : Int64))), .second, .val (.int ((1 : Int32) + ((i1 &&& (2147483647 : Int32)) % (100 : Int32)))), .val (.long ((q0 &&& (2147483647 : Int64)) + (((1 : Int32) + ((i1 &&& (2147483647 : Int32)) % (100 : Int32))).toInt64))), .second, .val (.long (((q0 &&& (2147483647 : Int64)) + (((1 : Int32) + ((i1 &&& (2147483647 : Int32)) % (100 : Int32))).toInt64)) + (((((i3.toUInt32 >>> ((1 : Int32) &&& 31).toUInt32).toInt32) % (5 : Int32)) - (2 : Int32)).toInt64))), .second, .unset, .unset, .unset] [])) rfl (hb hby at_53) (by decide) (by decide)
    obtain ⟨b9, g9⟩ : ∃ z, z = h0.size := ⟨_, rfl⟩
    rw [← g9] at A9 D9 st9
    have n_b9 : n0 ≤ b9 := Nat.le_trans (on0 O0) (Nat.le_of_eq g9.symm)
    have sz_b9 : h0.size ≤ b9 := Nat.le_trans K0.1 (Nat.le_of_eq g9.symm)
    have O9 := O0.ext E9
    have K9 := K0.ext E9
    have F9_12 : Fld Z h9 b9 "com/example/rigorous_sourcing/rigoroussourcing/domain/Paging" "mOffset" "J" (.long (0 : Int64)) := D9 (Or.inr (ow hw 12 rfl)) (ty := .long) (by decide)
    have F9_14 : Fld Z h9 b9 "com/example/rigorous_sourcing/rigoroussourcing/domain/Paging" "mPageSize" "I" (.int (0 : Int32)) := D9 (Or.inr (ow hw 14 rfl)) (ty := .int) (by decide)
    refine ob T9 (mkF mG 56 #[.val (.long q0), .second, .val (.int i1), .val (.long q2), .second, .val (.int i3), .val (.long (q0 &&& (2147483647 : Int64))), .second, .val (.int ((1 : Int32) + ((i1 &&& (2147483647 : Int32)) % (100 : Int32)))), .val (.long ((q0 &&& (2147483647 : Int64)) + (((1 : Int32) + ((i1 &&& (2147483647 : Int32)) % (100 : Int32))).toInt64))), .second, .val (.long (((q0 &&& (2147483647 : Int64)) + (((1 : Int32) + ((i1 &&& (2147483647 : Int32)) % (100 : Int32))).toInt64)) + (((((i3.toUInt32 >>> ((1 : Int32) &&& 31).toUInt32).toInt32) % (5 : Int32)) - (2 : Int32)).toInt64))), .second, .unset, .unset, .unset] [(.ref b9)]) (fun _ kk => st9 _ kk) ?_
    refine ob T9 (mkF mG 57 #[.val (.long q0), .second, .val (.int i1), .val (.long q2), .second, .val (.int i3), .val (.long (q0 &&& (2147483647 : Int64))), .second, .val (.int ((1 : Int32) + ((i1 &&& (2147483647 : Int32)) % (100 : Int32)))), .val (.long ((q0 &&& (2147483647 : Int64)) + (((1 : Int32) + ((i1 &&& (2147483647 : Int32)) % (100 : Int32))).toInt64))), .second, .val (.long (((q0 &&& (2147483647 : Int64)) + (((1 : Int32) + ((i1 &&& (2147483647 : Int32)) % (100 : Int32))).toInt64)) + (((((i3.toUInt32 >>> ((1 : Int32) &&& 31).toUInt32).toInt32) % (5 : Int32)) - (2 : Int32)).toInt64))), .second, .unset, .unset, .unset] [(.ref b9), (.ref b9)]) (fun _ kk => XS.dup X9.here hx rfl (hb hby at_56) rfl rfl kk) ?_
    refine ob T9 (mkF mG 59 #[.val (.long q0), .second, .val (.int i1), .val (.long q2), .second, .val (.int i3), .val (.long (q0 &&& (2147483647 : Int64))), .second, .val (.int ((1 : Int32) + ((i1 &&& (2147483647 : Int32)) % (100 : Int32)))), .val (.long ((q0 &&& (2147483647 : Int64)) + (((1 : Int32) + ((i1 &&& (2147483647 : Int32)) % (100 : Int32))).toInt64))), .second, .val (.long (((q0 &&& (2147483647 : Int64)) + (((1 : Int32) + ((i1 &&& (2147483647 : Int32)) % (100 : Int32))).toInt64)) + (((((i3.toUInt32 >>> ((1 : Int32) &&& 31).toUInt32).toInt32) % (5 : Int32)) - (2 : Int32)).toInt64))), .second, .unset, .unset, .unset] [(.long (q0 &&& (2147483647 : Int64))), (.ref b9), (.ref b9)]) (fun _ kk => XS.lload X9.here hx rfl (hb hby at_57) rfl kk) ?_
    refine ob T9 (mkF mG 61 #[.val (.long q0), .second, .val (.int i1), .val (.long q2), .second, .val (.int i3), .val (.long (q0 &&& (2147483647 : Int64))), .second, .val (.int ((1 : Int32) + ((i1 &&& (2147483647 : Int32)) % (100 : Int32)))), .val (.long ((q0 &&& (2147483647 : Int64)) + (((1 : Int32) + ((i1 &&& (2147483647 : Int32)) % (100 : Int32))).toInt64))), .second, .val (.long (((q0 &&& (2147483647 : Int64)) + (((1 : Int32) + ((i1 &&& (2147483647 : Int32)) % (100 : Int32))).toInt64)) + (((((i3.toUInt32 >>> ((1 : Int32) &&& 31).toUInt32).toInt32) % (5 : Int32)) - (2 : Int32)).toInt64))), .second, .unset, .unset, .unset] [(.int ((1 : Int32) + ((i1 &&& (2147483647 : Int32)) % (100 : Int32)))), (.long (q0 &&& (2147483647 : Int64))), (.ref b9), (.ref b9)]) (fun _ kk => XS.iload X9.here hx rfl (hb hby at_59) rfl kk) ?_
    obtain ⟨_, _, ⟨T10, L10, k10, n10⟩, -, X10, ⟨Lc10, hQ10, l10, y10, z10⟩, st10⟩ := X9.specialBack hx (y := (⟨"com/example/rigorous_sourcing/rigoroussourcing/domain/Paging", "<init>", "(JI)V"⟩ : MethodName)) rfl hown (mvT hZ (ow hw 5 rfl)) (mvT hZ (ow hw 6 rfl)) (mvT hZ (ow hw 7 rfl)) (by decide) (backOf (W := 1) (rm_pgi l Z a0 hw [] w_EMPTY b9 (q0 &&& (2147483647 : Int64)) ((1 : Int32) + ((i1 &&& (2147483647 : Int32)) % (100 : Int32))) (.long (0 : Int64)) (.int (0 : Int32)) h9 n0 O9 hS A9 F9_12 F9_14 n_b9) hZ (ow hw 7 rfl) (ow hw 4 rfl) (by decide) (by decide)) (g := (mkF mG 61 #[.val (.long q0), .second, .val (.int i1), .val (.long q2), .second, .val (.int i3), .val (.long (q0 &&& (2147483647 : Int64))), .second, .val (.int ((1 : Int32) + ((i1 &&& (2147483647 : Int32)) % (100 : Int32)))), .val (.long ((q0 &&& (2147483647 : Int64)) + (((1 : Int32) + ((i1 &&& (2147483647 : Int32)) % (100 : Int32))).toInt64))), .second, .val (.long (((q0 &&& (2147483647 : Int64)) + (((1 : Int32) + ((i1 &&& (2147483647 : Int32)) % (100 : Int32))).toInt64)) + (((((i3.toUInt32 >>> ((1 : Int32) &&& 31).toUInt32).toInt32) % (5 : Int32)) - (2 : Int32)).toInt64))), .second, .unset, .unset, .unset] [(.int ((1 : Int32) + ((i1 &&& (2147483647 : Int32)) % (100 : Int32)))), (.long (q0 &&& (2147483647 : Int64))), (.ref b9), (.ref b9)])) rfl (by rw [hml]; rfl) (Steps.refl _) (a := b9) (argsL := [(.long (q0 &&& (2147483647 : Int64))), (.int ((1 : Int32) + ((i1 &&& (2147483647 : Int32)) % (100 : Int32))))]) (rest := [(.ref b9)]) (lenOf pd_3 rfl) rfl (by show 2 * 0 + _ ≤ _; exact Nat.le_of_eq rfl) (hb hby at_61) (fun _ _ => ⟨rfl, e9, (by decide : 1 + 0 ≤ _), (by decide : 2 + 0 ≤ _)⟩)
    dsimp only [Pt.U, Pt.locs, Pt.cells, Pt.slots] at X10 l10 y10 z10 st10 hQ10
    subst l10 y10 z10
    obtain ⟨h10, e10⟩ : ∃ h, T10.heap = h := ⟨_, rfl⟩
    rw [e10] at hQ10
    obtain ⟨rfl, N10q, K10q, O10, F10_0, F10_1⟩ := hQ10
    have N10 := Fr.app N0 N10q
    have K10 := K9.trans K10q (allS (Or.inr sz_b9) all0)
    refine ob T10 (mkF mG 64 #[.val (.long q0), .second, .val (.int i1), .val (.long q2), .second, .val (.int i3), .val (.long (q0 &&& (2147483647 : Int64))), .second, .val (.int ((1 : Int32) + ((i1 &&& (2147483647 : Int32)) % (100 : Int32)))), .val (.long ((q0 &&& (2147483647 : Int64)) + (((1 : Int32) + ((i1 &&& (2147483647 : Int32)) % (100 : Int32))).toInt64))), .second, .val (.long (((q0 &&& (2147483647 : Int64)) + (((1 : Int32) + ((i1 &&& (2147483647 : Int32)) % (100 : Int32))).toInt64)) + (((((i3.toUInt32 >>> ((1 : Int32) &&& 31).toUInt32).toInt32) % (5 : Int32)) - (2 : Int32)).toInt64))), .second, .unset, .unset, .unset] [(.ref b9)]) (fun _ kk => st10.trans kk) ?_
    refine ob T10 (mkF mG 66 #[.val (.long q0), .second, .val (.int i1), .val (.long q2), .second, .val (.int i3), .val (.long (q0 &&& (2147483647 : Int64))), .second, .val (.int ((1 : Int32) + ((i1 &&& (2147483647 : Int32)) % (100 : Int32)))), .val (.long ((q0 &&& (2147483647 : Int64)) + (((1 : Int32) + ((i1 &&& (2147483647 : Int32)) % (100 : Int32))).toInt64))), .second, .val (.long (((q0 &&& (2147483647 : Int64)) + (((1 : Int32) + ((i1 &&& (2147483647 : Int32)) % (100 : Int32))).toInt64)) + (((((i3.toUInt32 >>> ((1 : Int32) &&& 31).toUInt32).toInt32) % (5 : Int32)) - (2 : Int32)).toInt64))), .second, .val (.ref b9), .unset, .unset] []) (fun _ kk => XS.astore X10.here hx rfl (hb hby at_64) rfl rfl (l' := #[.val (.long q0), .second, .val (.int i1), .val (.long q2), .second, .val (.int i3), .val (.long (q0 &&& (2147483647 : Int64))), .second, .val (.int ((1 : Int32) + ((i1 &&& (2147483647 : Int32)) % (100 : Int32)))), .val (.long ((q0 &&& (2147483647 : Int64)) + (((1 : Int32) + ((i1 &&& (2147483647 : Int32)) % (100 : Int32))).toInt64))), .second, .val (.long (((q0 &&& (2147483647 : Int64)) + (((1 : Int32) + ((i1 &&& (2147483647 : Int32)) % (100 : Int32))).toInt64)) + (((((i3.toUInt32 >>> ((1 : Int32) &&& 31).toUInt32).toInt32) % (5 : Int32)) - (2 : Int32)).toInt64))), .second, .val (.ref b9), .unset, .unset]) rfl kk) ?_
    refine ob T10 (mkF mG 68 #[.val (.long q0), .second, .val (.int i1), .val (.long q2), .second, .val (.int i3), .val (.long (q0 &&& (2147483647 : Int64))), .second, .val (.int ((1 : Int32) + ((i1 &&& (2147483647 : Int32)) % (100 : Int32)))), .val (.long ((q0 &&& (2147483647 : Int64)) + (((1 : Int32) + ((i1 &&& (2147483647 : Int32)) % (100 : Int32))).toInt64))), .second, .val (.long (((q0 &&& (2147483647 : Int64)) + (((1 : Int32) + ((i1 &&& (2147483647 : Int32)) % (100 : Int32))).toInt64)) + (((((i3.toUInt32 >>> ((1 : Int32) &&& 31).toUInt32).toInt32) % (5 : Int32)) - (2 : Int32)).toInt64))), .second, .val (.ref b9), .unset, .unset] [(.ref b9)]) (fun _ kk => XS.aload X10.here hx rfl (hb hby at_66) rfl rfl kk) ?_
    refine ob T10 (mkF mG 70 #[.val (.long q0), .second, .val (.int i1), .val (.long q2), .second, .val (.int i3), .val (.long (q0 &&& (2147483647 : Int64))), .second, .val (.int ((1 : Int32) + ((i1 &&& (2147483647 : Int32)) % (100 : Int32)))), .val (.long ((q0 &&& (2147483647 : Int64)) + (((1 : Int32) + ((i1 &&& (2147483647 : Int32)) % (100 : Int32))).toInt64))), .second, .val (.long (((q0 &&& (2147483647 : Int64)) + (((1 : Int32) + ((i1 &&& (2147483647 : Int32)) % (100 : Int32))).toInt64)) + (((((i3.toUInt32 >>> ((1 : Int32) &&& 31).toUInt32).toInt32) % (5 : Int32)) - (2 : Int32)).toInt64))), .second, .val (.ref b9), .unset, .unset] [(.long (((q0 &&& (2147483647 : Int64)) + (((1 : Int32) + ((i1 &&& (2147483647 : Int32)) % (100 : Int32))).toInt64)) + (((((i3.toUInt32 >>> ((1 : Int32) &&& 31).toUInt32).toInt32) % (5 : Int32)) - (2 : Int32)).toInt64))), (.ref b9)]) (fun _ kk => XS.lload X10.here hx rfl (hb hby at_68) rfl kk) ?_
    by_cases hq : (lcmpW ((q0 &&& (2147483647 : Int64)) + (((1 : Int32) + ((i1 &&& (2147483647 : Int32)) % (100 : Int32))).toInt64)) (((q0 &&& (2147483647 : Int64)) + (((1 : Int32) + ((i1 &&& (2147483647 : Int32)) % (100 : Int32))).toInt64)) + (((((i3.toUInt32 >>> ((1 : Int32) &&& 31).toUInt32).toInt32) % (5 : Int32)) - (2 : Int32)).toInt64))) < (0 : Int32)
    · skip
      obtain ⟨cq11, kq11, q11a, q11b, q11c⟩ := isOf hZ e10 (A9.keep K10q)
      obtain ⟨_, _, ⟨T11, L11, k11, n11⟩, -, X11, ⟨Lc11, hQ11, l11, y11, z11⟩, st11⟩ := X10.virtualBack hx (y := (⟨"com/example/rigorous_sourcing/rigoroussourcing/domain/Paging", "nextOffset", "(J)Ljava/util/OptionalLong;"⟩ : MethodName)) (z := (⟨"com/example/rigorous_sourcing/rigoroussourcing/domain/Paging", "nextOffset", "(J)Ljava/util/OptionalLong;"⟩ : MethodName)) hown (mvT hZ (ow hw 15 rfl)) (mvT hZ (ow hw 16 rfl)) (notFace_of_selects (args := #[]) (mvT hZ (ow hw 18 rfl))) (mvT hZ (ow hw 18 rfl)) (mvT hZ (ow hw 17 rfl)) (by decide) (backOf (W := 0) (rm_nxS l Z a0 hw [] w_EMPTY b9 (q0 &&& (2147483647 : Int64)) ((1 : Int32) + ((i1 &&& (2147483647 : Int32)) % (100 : Int32))) (((q0 &&& (2147483647 : Int64)) + (((1 : Int32) + ((i1 &&& (2147483647 : Int32)) % (100 : Int32))).toInt64)) + (((((i3.toUInt32 >>> ((1 : Int32) &&& 31).toUInt32).toInt32) % (5 : Int32)) - (2 : Int32)).toInt64)) h10 n0 O10 hS F10_0 F10_1 hq) hZ (ow hw 19 rfl) (ow hw 4 rfl) (by decide) (by decide)) q11a q11c (g := (mkF mG 70 #[.val (.long q0), .second, .val (.int i1), .val (.long q2), .second, .val (.int i3), .val (.long (q0 &&& (2147483647 : Int64))), .second, .val (.int ((1 : Int32) + ((i1 &&& (2147483647 : Int32)) % (100 : Int32)))), .val (.long ((q0 &&& (2147483647 : Int64)) + (((1 : Int32) + ((i1 &&& (2147483647 : Int32)) % (100 : Int32))).toInt64))), .second, .val (.long (((q0 &&& (2147483647 : Int64)) + (((1 : Int32) + ((i1 &&& (2147483647 : Int32)) % (100 : Int32))).toInt64)) + (((((i3.toUInt32 >>> ((1 : Int32) &&& 31).toUInt32).toInt32) % (5 : Int32)) - (2 : Int32)).toInt64))), .second, .val (.ref b9), .unset, .unset] [(.long (((q0 &&& (2147483647 : Int64)) + (((1 : Int32) + ((i1 &&& (2147483647 : Int32)) % (100 : Int32))).toInt64)) + (((((i3.toUInt32 >>> ((1 : Int32) &&& 31).toUInt32).toInt32) % (5 : Int32)) - (2 : Int32)).toInt64))), (.ref b9)])) rfl (by rw [hml]; rfl) (Steps.refl _) (argsL := [(.long (((q0 &&& (2147483647 : Int64)) + (((1 : Int32) + ((i1 &&& (2147483647 : Int32)) % (100 : Int32))).toInt64)) + (((((i3.toUInt32 >>> ((1 : Int32) &&& 31).toUInt32).toInt32) % (5 : Int32)) - (2 : Int32)).toInt64)))]) (rest := []) (lenOf pd_2 rfl) rfl (by show 2 * 0 + _ ≤ _; exact Nat.le_of_eq rfl) (hb hby at_70) (fun _ _ => ⟨rfl, e10, (by decide : 1 + 1 ≤ _), (by decide : 2 + 2 ≤ _)⟩)
      dsimp only [Pt.U, Pt.locs, Pt.cells, Pt.slots] at X11 l11 y11 z11 st11 hQ11
      subst l11 y11 z11
      obtain ⟨h11, e11⟩ : ∃ h, T11.heap = h := ⟨_, rfl⟩
      rw [e11] at hQ11
      obtain ⟨b0_11, rfl, N11q, K11q, O11, n_b0_11, z_b0_11, F11_0, F11_1, F11_2⟩ := hQ11
      have N11 := Fr.app N10 N11q
      have sz_b0_11 : h0.size ≤ b0_11 := Nat.le_trans K10.1 z_b0_11
      have ne_b9_b0_11 : b9 ≠ b0_11 := Nat.ne_of_lt (Nat.lt_of_lt_of_le (A9.keep K10q).lt z_b0_11)
      have K11 := K10.trans K11q all0
      refine ob T11 (mkF mG 73 #[.val (.long q0), .second, .val (.int i1), .val (.long q2), .second, .val (.int i3), .val (.long (q0 &&& (2147483647 : Int64))), .second, .val (.int ((1 : Int32) + ((i1 &&& (2147483647 : Int32)) % (100 : Int32)))), .val (.long ((q0 &&& (2147483647 : Int64)) + (((1 : Int32) + ((i1 &&& (2147483647 : Int32)) % (100 : Int32))).toInt64))), .second, .val (.long (((q0 &&& (2147483647 : Int64)) + (((1 : Int32) + ((i1 &&& (2147483647 : Int32)) % (100 : Int32))).toInt64)) + (((((i3.toUInt32 >>> ((1 : Int32) &&& 31).toUInt32).toInt32) % (5 : Int32)) - (2 : Int32)).toInt64))), .second, .val (.ref b9), .unset, .unset] [(.ref b0_11)]) (fun _ kk => st11.trans kk) ?_
      refine ob T11 (mkF mG 75 #[.val (.long q0), .second, .val (.int i1), .val (.long q2), .second, .val (.int i3), .val (.long (q0 &&& (2147483647 : Int64))), .second, .val (.int ((1 : Int32) + ((i1 &&& (2147483647 : Int32)) % (100 : Int32)))), .val (.long ((q0 &&& (2147483647 : Int64)) + (((1 : Int32) + ((i1 &&& (2147483647 : Int32)) % (100 : Int32))).toInt64))), .second, .val (.long (((q0 &&& (2147483647 : Int64)) + (((1 : Int32) + ((i1 &&& (2147483647 : Int32)) % (100 : Int32))).toInt64)) + (((((i3.toUInt32 >>> ((1 : Int32) &&& 31).toUInt32).toInt32) % (5 : Int32)) - (2 : Int32)).toInt64))), .second, .val (.ref b9), .val (.ref b0_11), .unset] []) (fun _ kk => XS.astore X11.here hx rfl (hb hby at_73) rfl rfl (l' := #[.val (.long q0), .second, .val (.int i1), .val (.long q2), .second, .val (.int i3), .val (.long (q0 &&& (2147483647 : Int64))), .second, .val (.int ((1 : Int32) + ((i1 &&& (2147483647 : Int32)) % (100 : Int32)))), .val (.long ((q0 &&& (2147483647 : Int64)) + (((1 : Int32) + ((i1 &&& (2147483647 : Int32)) % (100 : Int32))).toInt64))), .second, .val (.long (((q0 &&& (2147483647 : Int64)) + (((1 : Int32) + ((i1 &&& (2147483647 : Int32)) % (100 : Int32))).toInt64)) + (((((i3.toUInt32 >>> ((1 : Int32) &&& 31).toUInt32).toInt32) % (5 : Int32)) - (2 : Int32)).toInt64))), .second, .val (.ref b9), .val (.ref b0_11), .unset]) rfl kk) ?_
      refine ob T11 (mkF mG 77 #[.val (.long q0), .second, .val (.int i1), .val (.long q2), .second, .val (.int i3), .val (.long (q0 &&& (2147483647 : Int64))), .second, .val (.int ((1 : Int32) + ((i1 &&& (2147483647 : Int32)) % (100 : Int32)))), .val (.long ((q0 &&& (2147483647 : Int64)) + (((1 : Int32) + ((i1 &&& (2147483647 : Int32)) % (100 : Int32))).toInt64))), .second, .val (.long (((q0 &&& (2147483647 : Int64)) + (((1 : Int32) + ((i1 &&& (2147483647 : Int32)) % (100 : Int32))).toInt64)) + (((((i3.toUInt32 >>> ((1 : Int32) &&& 31).toUInt32).toInt32) % (5 : Int32)) - (2 : Int32)).toInt64))), .second, .val (.ref b9), .val (.ref b0_11), .unset] [(.long ((q0 &&& (2147483647 : Int64)) + (((1 : Int32) + ((i1 &&& (2147483647 : Int32)) % (100 : Int32))).toInt64)))]) (fun _ kk => XS.lload X11.here hx rfl (hb hby at_75) rfl kk) ?_
      refine ob T11 (mkF mG 79 #[.val (.long q0), .second, .val (.int i1), .val (.long q2), .second, .val (.int i3), .val (.long (q0 &&& (2147483647 : Int64))), .second, .val (.int ((1 : Int32) + ((i1 &&& (2147483647 : Int32)) % (100 : Int32)))), .val (.long ((q0 &&& (2147483647 : Int64)) + (((1 : Int32) + ((i1 &&& (2147483647 : Int32)) % (100 : Int32))).toInt64))), .second, .val (.long (((q0 &&& (2147483647 : Int64)) + (((1 : Int32) + ((i1 &&& (2147483647 : Int32)) % (100 : Int32))).toInt64)) + (((((i3.toUInt32 >>> ((1 : Int32) &&& 31).toUInt32).toInt32) % (5 : Int32)) - (2 : Int32)).toInt64))), .second, .val (.ref b9), .val (.ref b0_11), .unset] [(.long (((q0 &&& (2147483647 : Int64)) + (((1 : Int32) + ((i1 &&& (2147483647 : Int32)) % (100 : Int32))).toInt64)) + (((((i3.toUInt32 >>> ((1 : Int32) &&& 31).toUInt32).toInt32) % (5 : Int32)) - (2 : Int32)).toInt64))), (.long ((q0 &&& (2147483647 : Int64)) + (((1 : Int32) + ((i1 &&& (2147483647 : Int32)) % (100 : Int32))).toInt64)))]) (fun _ kk => XS.lload X11.here hx rfl (hb hby at_77) rfl kk) ?_
      refine ob T11 (mkF mG 80 #[.val (.long q0), .second, .val (.int i1), .val (.long q2), .second, .val (.int i3), .val (.long (q0 &&& (2147483647 : Int64))), .second, .val (.int ((1 : Int32) + ((i1 &&& (2147483647 : Int32)) % (100 : Int32)))), .val (.long ((q0 &&& (2147483647 : Int64)) + (((1 : Int32) + ((i1 &&& (2147483647 : Int32)) % (100 : Int32))).toInt64))), .second, .val (.long (((q0 &&& (2147483647 : Int64)) + (((1 : Int32) + ((i1 &&& (2147483647 : Int32)) % (100 : Int32))).toInt64)) + (((((i3.toUInt32 >>> ((1 : Int32) &&& 31).toUInt32).toInt32) % (5 : Int32)) - (2 : Int32)).toInt64))), .second, .val (.ref b9), .val (.ref b0_11), .unset] [(.int (lcmpW ((q0 &&& (2147483647 : Int64)) + (((1 : Int32) + ((i1 &&& (2147483647 : Int32)) % (100 : Int32))).toInt64)) (((q0 &&& (2147483647 : Int64)) + (((1 : Int32) + ((i1 &&& (2147483647 : Int32)) % (100 : Int32))).toInt64)) + (((((i3.toUInt32 >>> ((1 : Int32) &&& 31).toUInt32).toInt32) % (5 : Int32)) - (2 : Int32)).toInt64))))]) (fun _ kk => XS.lcmp X11.here hx rfl (hb hby at_79) rfl kk) ?_
      refine ob T11 (mkF mG 83 #[.val (.long q0), .second, .val (.int i1), .val (.long q2), .second, .val (.int i3), .val (.long (q0 &&& (2147483647 : Int64))), .second, .val (.int ((1 : Int32) + ((i1 &&& (2147483647 : Int32)) % (100 : Int32)))), .val (.long ((q0 &&& (2147483647 : Int64)) + (((1 : Int32) + ((i1 &&& (2147483647 : Int32)) % (100 : Int32))).toInt64))), .second, .val (.long (((q0 &&& (2147483647 : Int64)) + (((1 : Int32) + ((i1 &&& (2147483647 : Int32)) % (100 : Int32))).toInt64)) + (((((i3.toUInt32 >>> ((1 : Int32) &&& 31).toUInt32).toInt32) % (5 : Int32)) - (2 : Int32)).toInt64))), .second, .val (.ref b9), .val (.ref b0_11), .unset] []) (fun _ kk => XS.ifNo X11.here hx rfl (hb hby at_80) rfl ((if0 _ _).trans (tlt hq).2.1) kk) ?_
      refine ob T11 (mkF mG 84 #[.val (.long q0), .second, .val (.int i1), .val (.long q2), .second, .val (.int i3), .val (.long (q0 &&& (2147483647 : Int64))), .second, .val (.int ((1 : Int32) + ((i1 &&& (2147483647 : Int32)) % (100 : Int32)))), .val (.long ((q0 &&& (2147483647 : Int64)) + (((1 : Int32) + ((i1 &&& (2147483647 : Int32)) % (100 : Int32))).toInt64))), .second, .val (.long (((q0 &&& (2147483647 : Int64)) + (((1 : Int32) + ((i1 &&& (2147483647 : Int32)) % (100 : Int32))).toInt64)) + (((((i3.toUInt32 >>> ((1 : Int32) &&& 31).toUInt32).toInt32) % (5 : Int32)) - (2 : Int32)).toInt64))), .second, .val (.ref b9), .val (.ref b0_11), .unset] [(.int (1 : Int32))]) (fun _ kk => XS.iconst X11.here hx rfl (hb hby at_83) kk) ?_
      refine ob T11 (mkF mG 88 #[.val (.long q0), .second, .val (.int i1), .val (.long q2), .second, .val (.int i3), .val (.long (q0 &&& (2147483647 : Int64))), .second, .val (.int ((1 : Int32) + ((i1 &&& (2147483647 : Int32)) % (100 : Int32)))), .val (.long ((q0 &&& (2147483647 : Int64)) + (((1 : Int32) + ((i1 &&& (2147483647 : Int32)) % (100 : Int32))).toInt64))), .second, .val (.long (((q0 &&& (2147483647 : Int64)) + (((1 : Int32) + ((i1 &&& (2147483647 : Int32)) % (100 : Int32))).toInt64)) + (((((i3.toUInt32 >>> ((1 : Int32) &&& 31).toUInt32).toInt32) % (5 : Int32)) - (2 : Int32)).toInt64))), .second, .val (.ref b9), .val (.ref b0_11), .unset] [(.int (1 : Int32))]) (fun _ kk => XS.goto X11.here hx rfl (pc0 := 84) (pc' := 88) rfl (hb hby at_84) (by decide) (by decide) kk) ?_
      refine ob T11 (mkF mG 90 #[.val (.long q0), .second, .val (.int i1), .val (.long q2), .second, .val (.int i3), .val (.long (q0 &&& (2147483647 : Int64))), .second, .val (.int ((1 : Int32) + ((i1 &&& (2147483647 : Int32)) % (100 : Int32)))), .val (.long ((q0 &&& (2147483647 : Int64)) + (((1 : Int32) + ((i1 &&& (2147483647 : Int32)) % (100 : Int32))).toInt64))), .second, .val (.long (((q0 &&& (2147483647 : Int64)) + (((1 : Int32) + ((i1 &&& (2147483647 : Int32)) % (100 : Int32))).toInt64)) + (((((i3.toUInt32 >>> ((1 : Int32) &&& 31).toUInt32).toInt32) % (5 : Int32)) - (2 : Int32)).toInt64))), .second, .val (.ref b9), .val (.ref b0_11), .val (.int (1 : Int32))] []) (fun _ kk => XS.istore X11.here hx rfl (hb hby at_88) rfl (l' := #[.val (.long q0), .second, .val (.int i1), .val (.long q2), .second, .val (.int i3), .val (.long (q0 &&& (2147483647 : Int64))), .second, .val (.int ((1 : Int32) + ((i1 &&& (2147483647 : Int32)) % (100 : Int32)))), .val (.long ((q0 &&& (2147483647 : Int64)) + (((1 : Int32) + ((i1 &&& (2147483647 : Int32)) % (100 : Int32))).toInt64))), .second, .val (.long (((q0 &&& (2147483647 : Int64)) + (((1 : Int32) + ((i1 &&& (2147483647 : Int32)) % (100 : Int32))).toInt64)) + (((((i3.toUInt32 >>> ((1 : Int32) &&& 31).toUInt32).toInt32) % (5 : Int32)) - (2 : Int32)).toInt64))), .second, .val (.ref b9), .val (.ref b0_11), .val (.int (1 : Int32))]) rfl kk) ?_
      refine ob T11 (mkF mG 92 #[.val (.long q0), .second, .val (.int i1), .val (.long q2), .second, .val (.int i3), .val (.long (q0 &&& (2147483647 : Int64))), .second, .val (.int ((1 : Int32) + ((i1 &&& (2147483647 : Int32)) % (100 : Int32)))), .val (.long ((q0 &&& (2147483647 : Int64)) + (((1 : Int32) + ((i1 &&& (2147483647 : Int32)) % (100 : Int32))).toInt64))), .second, .val (.long (((q0 &&& (2147483647 : Int64)) + (((1 : Int32) + ((i1 &&& (2147483647 : Int32)) % (100 : Int32))).toInt64)) + (((((i3.toUInt32 >>> ((1 : Int32) &&& 31).toUInt32).toInt32) % (5 : Int32)) - (2 : Int32)).toInt64))), .second, .val (.ref b9), .val (.ref b0_11), .val (.int (1 : Int32))] [(.ref b0_11)]) (fun _ kk => XS.aload X11.here hx rfl (hb hby at_90) rfl rfl kk) ?_
      obtain ⟨cq12, kq12, q12a, q12b, q12c⟩ := isOf hZ e11 F11_0
      obtain ⟨_, _, ⟨T12, L12, k12, n12⟩, -, X12, ⟨Lc12, hQ12, l12, y12, z12⟩, st12⟩ := X11.virtualBack hx (y := (⟨"java/util/OptionalLong", "isPresent", "()Z"⟩ : MethodName)) (z := (⟨"java/util/OptionalLong", "isPresent", "()Z"⟩ : MethodName)) hown (mvT hZ (ow hw 25 rfl)) (mvT hZ (ow hw 26 rfl)) (notFace_of_selects (args := #[]) (mvT hZ (ow hw 28 rfl))) (mvT hZ (ow hw 28 rfl)) (mvT hZ (ow hw 27 rfl)) (by decide) (backOf (W := 0) (rm_ipS l Z a0 hw [] w_EMPTY b0_11 h11 n0 O11 hS F11_1) hZ (ow hw 29 rfl) (ow hw 22 rfl) (by decide) (by decide)) q12a q12c (g := (mkF mG 92 #[.val (.long q0), .second, .val (.int i1), .val (.long q2), .second, .val (.int i3), .val (.long (q0 &&& (2147483647 : Int64))), .second, .val (.int ((1 : Int32) + ((i1 &&& (2147483647 : Int32)) % (100 : Int32)))), .val (.long ((q0 &&& (2147483647 : Int64)) + (((1 : Int32) + ((i1 &&& (2147483647 : Int32)) % (100 : Int32))).toInt64))), .second, .val (.long (((q0 &&& (2147483647 : Int64)) + (((1 : Int32) + ((i1 &&& (2147483647 : Int32)) % (100 : Int32))).toInt64)) + (((((i3.toUInt32 >>> ((1 : Int32) &&& 31).toUInt32).toInt32) % (5 : Int32)) - (2 : Int32)).toInt64))), .second, .val (.ref b9), .val (.ref b0_11), .val (.int (1 : Int32))] [(.ref b0_11)])) rfl (by rw [hml]; rfl) (Steps.refl _) (argsL := []) (rest := []) (lenOf pd_4 rfl) rfl (by show 2 * 0 + _ ≤ _; exact Nat.le_of_eq rfl) (hb hby at_92) (fun _ _ => ⟨rfl, e11, (by decide : 2 + 0 ≤ _), (by decide : 4 + 0 ≤ _)⟩)
      dsimp only [Pt.U, Pt.locs, Pt.cells, Pt.slots] at X12 l12 y12 z12 st12 hQ12
      subst l12 y12 z12
      obtain ⟨rfl, N12q, e12⟩ := hQ12
      have N12 := Fr.app N11 N12q
      refine ob T12 (mkF mG 95 #[.val (.long q0), .second, .val (.int i1), .val (.long q2), .second, .val (.int i3), .val (.long (q0 &&& (2147483647 : Int64))), .second, .val (.int ((1 : Int32) + ((i1 &&& (2147483647 : Int32)) % (100 : Int32)))), .val (.long ((q0 &&& (2147483647 : Int64)) + (((1 : Int32) + ((i1 &&& (2147483647 : Int32)) % (100 : Int32))).toInt64))), .second, .val (.long (((q0 &&& (2147483647 : Int64)) + (((1 : Int32) + ((i1 &&& (2147483647 : Int32)) % (100 : Int32))).toInt64)) + (((((i3.toUInt32 >>> ((1 : Int32) &&& 31).toUInt32).toInt32) % (5 : Int32)) - (2 : Int32)).toInt64))), .second, .val (.ref b9), .val (.ref b0_11), .val (.int (1 : Int32))] [(.int (1 : Int32))]) (fun _ kk => st12.trans kk) ?_
      refine ob T12 (mkF mG 97 #[.val (.long q0), .second, .val (.int i1), .val (.long q2), .second, .val (.int i3), .val (.long (q0 &&& (2147483647 : Int64))), .second, .val (.int ((1 : Int32) + ((i1 &&& (2147483647 : Int32)) % (100 : Int32)))), .val (.long ((q0 &&& (2147483647 : Int64)) + (((1 : Int32) + ((i1 &&& (2147483647 : Int32)) % (100 : Int32))).toInt64))), .second, .val (.long (((q0 &&& (2147483647 : Int64)) + (((1 : Int32) + ((i1 &&& (2147483647 : Int32)) % (100 : Int32))).toInt64)) + (((((i3.toUInt32 >>> ((1 : Int32) &&& 31).toUInt32).toInt32) % (5 : Int32)) - (2 : Int32)).toInt64))), .second, .val (.ref b9), .val (.ref b0_11), .val (.int (1 : Int32))] [(.int (1 : Int32)), (.int (1 : Int32))]) (fun _ kk => XS.iload X12.here hx rfl (hb hby at_95) rfl kk) ?_
      refine ob T12 (mkF mG 102 #[.val (.long q0), .second, .val (.int i1), .val (.long q2), .second, .val (.int i3), .val (.long (q0 &&& (2147483647 : Int64))), .second, .val (.int ((1 : Int32) + ((i1 &&& (2147483647 : Int32)) % (100 : Int32)))), .val (.long ((q0 &&& (2147483647 : Int64)) + (((1 : Int32) + ((i1 &&& (2147483647 : Int32)) % (100 : Int32))).toInt64))), .second, .val (.long (((q0 &&& (2147483647 : Int64)) + (((1 : Int32) + ((i1 &&& (2147483647 : Int32)) % (100 : Int32))).toInt64)) + (((((i3.toUInt32 >>> ((1 : Int32) &&& 31).toUInt32).toInt32) % (5 : Int32)) - (2 : Int32)).toInt64))), .second, .val (.ref b9), .val (.ref b0_11), .val (.int (1 : Int32))] []) (fun _ kk => XS.icmpYes X12.here hx rfl (pc0 := 97) (pc' := 102) rfl (hb hby at_97) rfl (teq (by decide : (1 : Int32) = (1 : Int32))).1 (by decide) (by decide) kk) ?_
      refine ob T12 (mkF mG 104 #[.val (.long q0), .second, .val (.int i1), .val (.long q2), .second, .val (.int i3), .val (.long (q0 &&& (2147483647 : Int64))), .second, .val (.int ((1 : Int32) + ((i1 &&& (2147483647 : Int32)) % (100 : Int32)))), .val (.long ((q0 &&& (2147483647 : Int64)) + (((1 : Int32) + ((i1 &&& (2147483647 : Int32)) % (100 : Int32))).toInt64))), .second, .val (.long (((q0 &&& (2147483647 : Int64)) + (((1 : Int32) + ((i1 &&& (2147483647 : Int32)) % (100 : Int32))).toInt64)) + (((((i3.toUInt32 >>> ((1 : Int32) &&& 31).toUInt32).toInt32) % (5 : Int32)) - (2 : Int32)).toInt64))), .second, .val (.ref b9), .val (.ref b0_11), .val (.int (1 : Int32))] [(.int (1 : Int32))]) (fun _ kk => XS.iload X12.here hx rfl (hb hby at_102) rfl kk) ?_
      refine ob T12 (mkF mG 107 #[.val (.long q0), .second, .val (.int i1), .val (.long q2), .second, .val (.int i3), .val (.long (q0 &&& (2147483647 : Int64))), .second, .val (.int ((1 : Int32) + ((i1 &&& (2147483647 : Int32)) % (100 : Int32)))), .val (.long ((q0 &&& (2147483647 : Int64)) + (((1 : Int32) + ((i1 &&& (2147483647 : Int32)) % (100 : Int32))).toInt64))), .second, .val (.long (((q0 &&& (2147483647 : Int64)) + (((1 : Int32) + ((i1 &&& (2147483647 : Int32)) % (100 : Int32))).toInt64)) + (((((i3.toUInt32 >>> ((1 : Int32) &&& 31).toUInt32).toInt32) % (5 : Int32)) - (2 : Int32)).toInt64))), .second, .val (.ref b9), .val (.ref b0_11), .val (.int (1 : Int32))] []) (fun _ kk => XS.ifNo X12.here hx rfl (hb hby at_104) rfl ((if0 _ _).trans (feq (by decide : ¬ ((1 : Int32) = (0 : Int32)))).1) kk) ?_
      refine ob T12 (mkF mG 109 #[.val (.long q0), .second, .val (.int i1), .val (.long q2), .second, .val (.int i3), .val (.long (q0 &&& (2147483647 : Int64))), .second, .val (.int ((1 : Int32) + ((i1 &&& (2147483647 : Int32)) % (100 : Int32)))), .val (.long ((q0 &&& (2147483647 : Int64)) + (((1 : Int32) + ((i1 &&& (2147483647 : Int32)) % (100 : Int32))).toInt64))), .second, .val (.long (((q0 &&& (2147483647 : Int64)) + (((1 : Int32) + ((i1 &&& (2147483647 : Int32)) % (100 : Int32))).toInt64)) + (((((i3.toUInt32 >>> ((1 : Int32) &&& 31).toUInt32).toInt32) % (5 : Int32)) - (2 : Int32)).toInt64))), .second, .val (.ref b9), .val (.ref b0_11), .val (.int (1 : Int32))] [(.ref b0_11)]) (fun _ kk => XS.aload X12.here hx rfl (hb hby at_107) rfl rfl kk) ?_
      obtain ⟨cq13, kq13, q13a, q13b, q13c⟩ := isOf hZ e12 F11_0
      obtain ⟨_, _, ⟨T13, L13, k13, n13⟩, -, X13, ⟨Lc13, hQ13, l13, y13, z13⟩, st13⟩ := X12.virtualBack hx (y := (⟨"java/util/OptionalLong", "getAsLong", "()J"⟩ : MethodName)) (z := (⟨"java/util/OptionalLong", "getAsLong", "()J"⟩ : MethodName)) hown (mvT hZ (ow hw 44 rfl)) (mvT hZ (ow hw 45 rfl)) (notFace_of_selects (args := #[]) (mvT hZ (ow hw 47 rfl))) (mvT hZ (ow hw 47 rfl)) (mvT hZ (ow hw 46 rfl)) (by decide) (backOf (W := 0) (rm_gal l Z a0 hw [] w_EMPTY b0_11 ((q0 &&& (2147483647 : Int64)) + (((1 : Int32) + ((i1 &&& (2147483647 : Int32)) % (100 : Int32))).toInt64)) h11 n0 O11 hS F11_1 F11_2) hZ (ow hw 48 rfl) (ow hw 22 rfl) (by decide) (by decide)) q13a q13c (g := (mkF mG 109 #[.val (.long q0), .second, .val (.int i1), .val (.long q2), .second, .val (.int i3), .val (.long (q0 &&& (2147483647 : Int64))), .second, .val (.int ((1 : Int32) + ((i1 &&& (2147483647 : Int32)) % (100 : Int32)))), .val (.long ((q0 &&& (2147483647 : Int64)) + (((1 : Int32) + ((i1 &&& (2147483647 : Int32)) % (100 : Int32))).toInt64))), .second, .val (.long (((q0 &&& (2147483647 : Int64)) + (((1 : Int32) + ((i1 &&& (2147483647 : Int32)) % (100 : Int32))).toInt64)) + (((((i3.toUInt32 >>> ((1 : Int32) &&& 31).toUInt32).toInt32) % (5 : Int32)) - (2 : Int32)).toInt64))), .second, .val (.ref b9), .val (.ref b0_11), .val (.int (1 : Int32))] [(.ref b0_11)])) rfl (by rw [hml]; rfl) (Steps.refl _) (argsL := []) (rest := []) (lenOf pd_5 rfl) rfl (by show 2 * 0 + _ ≤ _; exact Nat.le_of_eq rfl) (hb hby at_109) (fun _ _ => ⟨rfl, e12, (by decide : 2 + 0 ≤ _), (by decide : 4 + 0 ≤ _)⟩)
      dsimp only [Pt.U, Pt.locs, Pt.cells, Pt.slots] at X13 l13 y13 z13 st13 hQ13
      subst l13 y13 z13
      obtain ⟨rfl, N13q, e13⟩ := hQ13
      have N13 := Fr.app N12 N13q
      refine ob T13 (mkF mG 112 #[.val (.long q0), .second, .val (.int i1), .val (.long q2), .second, .val (.int i3), .val (.long (q0 &&& (2147483647 : Int64))), .second, .val (.int ((1 : Int32) + ((i1 &&& (2147483647 : Int32)) % (100 : Int32)))), .val (.long ((q0 &&& (2147483647 : Int64)) + (((1 : Int32) + ((i1 &&& (2147483647 : Int32)) % (100 : Int32))).toInt64))), .second, .val (.long (((q0 &&& (2147483647 : Int64)) + (((1 : Int32) + ((i1 &&& (2147483647 : Int32)) % (100 : Int32))).toInt64)) + (((((i3.toUInt32 >>> ((1 : Int32) &&& 31).toUInt32).toInt32) % (5 : Int32)) - (2 : Int32)).toInt64))), .second, .val (.ref b9), .val (.ref b0_11), .val (.int (1 : Int32))] [(.long ((q0 &&& (2147483647 : Int64)) + (((1 : Int32) + ((i1 &&& (2147483647 : Int32)) % (100 : Int32))).toInt64)))]) (fun _ kk => st13.trans kk) ?_
      refine ob T13 (mkF mG 114 #[.val (.long q0), .second, .val (.int i1), .val (.long q2), .second, .val (.int i3), .val (.long (q0 &&& (2147483647 : Int64))), .second, .val (.int ((1 : Int32) + ((i1 &&& (2147483647 : Int32)) % (100 : Int32)))), .val (.long ((q0 &&& (2147483647 : Int64)) + (((1 : Int32) + ((i1 &&& (2147483647 : Int32)) % (100 : Int32))).toInt64))), .second, .val (.long (((q0 &&& (2147483647 : Int64)) + (((1 : Int32) + ((i1 &&& (2147483647 : Int32)) % (100 : Int32))).toInt64)) + (((((i3.toUInt32 >>> ((1 : Int32) &&& 31).toUInt32).toInt32) % (5 : Int32)) - (2 : Int32)).toInt64))), .second, .val (.ref b9), .val (.ref b0_11), .val (.int (1 : Int32))] [(.long ((q0 &&& (2147483647 : Int64)) + (((1 : Int32) + ((i1 &&& (2147483647 : Int32)) % (100 : Int32))).toInt64))), (.long ((q0 &&& (2147483647 : Int64)) + (((1 : Int32) + ((i1 &&& (2147483647 : Int32)) % (100 : Int32))).toInt64)))]) (fun _ kk => XS.lload X13.here hx rfl (hb hby at_112) rfl kk) ?_
      refine ob T13 (mkF mG 115 #[.val (.long q0), .second, .val (.int i1), .val (.long q2), .second, .val (.int i3), .val (.long (q0 &&& (2147483647 : Int64))), .second, .val (.int ((1 : Int32) + ((i1 &&& (2147483647 : Int32)) % (100 : Int32)))), .val (.long ((q0 &&& (2147483647 : Int64)) + (((1 : Int32) + ((i1 &&& (2147483647 : Int32)) % (100 : Int32))).toInt64))), .second, .val (.long (((q0 &&& (2147483647 : Int64)) + (((1 : Int32) + ((i1 &&& (2147483647 : Int32)) % (100 : Int32))).toInt64)) + (((((i3.toUInt32 >>> ((1 : Int32) &&& 31).toUInt32).toInt32) % (5 : Int32)) - (2 : Int32)).toInt64))), .second, .val (.ref b9), .val (.ref b0_11), .val (.int (1 : Int32))] [(.int (lcmpW ((q0 &&& (2147483647 : Int64)) + (((1 : Int32) + ((i1 &&& (2147483647 : Int32)) % (100 : Int32))).toInt64)) ((q0 &&& (2147483647 : Int64)) + (((1 : Int32) + ((i1 &&& (2147483647 : Int32)) % (100 : Int32))).toInt64))))]) (fun _ kk => XS.lcmp X13.here hx rfl (hb hby at_114) rfl kk) ?_
      refine ob T13 (mkF mG 120 #[.val (.long q0), .second, .val (.int i1), .val (.long q2), .second, .val (.int i3), .val (.long (q0 &&& (2147483647 : Int64))), .second, .val (.int ((1 : Int32) + ((i1 &&& (2147483647 : Int32)) % (100 : Int32)))), .val (.long ((q0 &&& (2147483647 : Int64)) + (((1 : Int32) + ((i1 &&& (2147483647 : Int32)) % (100 : Int32))).toInt64))), .second, .val (.long (((q0 &&& (2147483647 : Int64)) + (((1 : Int32) + ((i1 &&& (2147483647 : Int32)) % (100 : Int32))).toInt64)) + (((((i3.toUInt32 >>> ((1 : Int32) &&& 31).toUInt32).toInt32) % (5 : Int32)) - (2 : Int32)).toInt64))), .second, .val (.ref b9), .val (.ref b0_11), .val (.int (1 : Int32))] []) (fun _ kk => XS.ifYes X13.here hx rfl (pc0 := 115) (pc' := 120) rfl (hb hby at_115) rfl ((if0 _ _).trans (teq ((lw_eq _ _).mpr rfl)).1) (by decide) (by decide) kk) ?_
      refine ob T13 (mkF mG 121 #[.val (.long q0), .second, .val (.int i1), .val (.long q2), .second, .val (.int i3), .val (.long (q0 &&& (2147483647 : Int64))), .second, .val (.int ((1 : Int32) + ((i1 &&& (2147483647 : Int32)) % (100 : Int32)))), .val (.long ((q0 &&& (2147483647 : Int64)) + (((1 : Int32) + ((i1 &&& (2147483647 : Int32)) % (100 : Int32))).toInt64))), .second, .val (.long (((q0 &&& (2147483647 : Int64)) + (((1 : Int32) + ((i1 &&& (2147483647 : Int32)) % (100 : Int32))).toInt64)) + (((((i3.toUInt32 >>> ((1 : Int32) &&& 31).toUInt32).toInt32) % (5 : Int32)) - (2 : Int32)).toInt64))), .second, .val (.ref b9), .val (.ref b0_11), .val (.int (1 : Int32))] [(.int (1 : Int32))]) (fun _ kk => XS.iconst X13.here hx rfl (hb hby at_120) kk) ?_
      obtain ⟨fs, hr, hrun, hended, hW, hsame⟩ := X13.leave (v := some (.int (1 : Int32))) (fun h => by rw [Bd.returns] at h; cases h)
      refine oout (retN X13 hx (t := .boolean) Bd.returns (by simp) (hb hby at_121) hr) hrun hended ⟨_, _, rfl, ?_, ⟨_, rfl⟩, hW, hsame.mono (by decide) (by decide)⟩
      show Q_rm0 Z w_EMPTY q0 i1 q2 i3 h0 n0 _ T13.heap _
      rw [e13]
      exact ⟨rfl, N13⟩
    · skip
      obtain ⟨cq14, kq14, q14a, q14b, q14c⟩ := isOf hZ e10 (A9.keep K10q)
      obtain ⟨_, _, ⟨T14, L14, k14, n14⟩, -, X14, ⟨Lc14, hQ14, l14, y14, z14⟩, st14⟩ := X10.virtualBack hx (y := (⟨"com/example/rigorous_sourcing/rigoroussourcing/domain/Paging", "nextOffset", "(J)Ljava/util/OptionalLong;"⟩ : MethodName)) (z := (⟨"com/example/rigorous_sourcing/rigoroussourcing/domain/Paging", "nextOffset", "(J)Ljava/util/OptionalLong;"⟩ : MethodName)) hown (mvT hZ (ow hw 15 rfl)) (mvT hZ (ow hw 16 rfl)) (notFace_of_selects (args := #[]) (mvT hZ (ow hw 18 rfl))) (mvT hZ (ow hw 18 rfl)) (mvT hZ (ow hw 17 rfl)) (by decide) (backOf (W := 0) (rm_nxN l Z a0 hw [] w_EMPTY b9 (q0 &&& (2147483647 : Int64)) ((1 : Int32) + ((i1 &&& (2147483647 : Int32)) % (100 : Int32))) (((q0 &&& (2147483647 : Int64)) + (((1 : Int32) + ((i1 &&& (2147483647 : Int32)) % (100 : Int32))).toInt64)) + (((((i3.toUInt32 >>> ((1 : Int32) &&& 31).toUInt32).toInt32) % (5 : Int32)) - (2 : Int32)).toInt64)) h10 n0 O10 hS F10_0 F10_1 hq) hZ (ow hw 19 rfl) (ow hw 4 rfl) (by decide) (by decide)) q14a q14c (g := (mkF mG 70 #[.val (.long q0), .second, .val (.int i1), .val (.long q2), .second, .val (.int i3), .val (.long (q0 &&& (2147483647 : Int64))), .second, .val (.int ((1 : Int32) + ((i1 &&& (2147483647 : Int32)) % (100 : Int32)))), .val (.long ((q0 &&& (2147483647 : Int64)) + (((1 : Int32) + ((i1 &&& (2147483647 : Int32)) % (100 : Int32))).toInt64))), .second, .val (.long (((q0 &&& (2147483647 : Int64)) + (((1 : Int32) + ((i1 &&& (2147483647 : Int32)) % (100 : Int32))).toInt64)) + (((((i3.toUInt32 >>> ((1 : Int32) &&& 31).toUInt32).toInt32) % (5 : Int32)) - (2 : Int32)).toInt64))), .second, .val (.ref b9), .unset, .unset] [(.long (((q0 &&& (2147483647 : Int64)) + (((1 : Int32) + ((i1 &&& (2147483647 : Int32)) % (100 : Int32))).toInt64)) + (((((i3.toUInt32 >>> ((1 : Int32) &&& 31).toUInt32).toInt32) % (5 : Int32)) - (2 : Int32)).toInt64))), (.ref b9)])) rfl (by rw [hml]; rfl) (Steps.refl _) (argsL := [(.long (((q0 &&& (2147483647 : Int64)) + (((1 : Int32) + ((i1 &&& (2147483647 : Int32)) % (100 : Int32))).toInt64)) + (((((i3.toUInt32 >>> ((1 : Int32) &&& 31).toUInt32).toInt32) % (5 : Int32)) - (2 : Int32)).toInt64)))]) (rest := []) (lenOf pd_2 rfl) rfl (by show 2 * 0 + _ ≤ _; exact Nat.le_of_eq rfl) (hb hby at_70) (fun _ _ => ⟨rfl, e10, (by decide : 1 + 0 ≤ _), (by decide : 2 + 0 ≤ _)⟩)
      dsimp only [Pt.U, Pt.locs, Pt.cells, Pt.slots] at X14 l14 y14 z14 st14 hQ14
      subst l14 y14 z14
      obtain ⟨rfl, N14q, e14⟩ := hQ14
      have N14 := Fr.app N10 N14q
      refine ob T14 (mkF mG 73 #[.val (.long q0), .second, .val (.int i1), .val (.long q2), .second, .val (.int i3), .val (.long (q0 &&& (2147483647 : Int64))), .second, .val (.int ((1 : Int32) + ((i1 &&& (2147483647 : Int32)) % (100 : Int32)))), .val (.long ((q0 &&& (2147483647 : Int64)) + (((1 : Int32) + ((i1 &&& (2147483647 : Int32)) % (100 : Int32))).toInt64))), .second, .val (.long (((q0 &&& (2147483647 : Int64)) + (((1 : Int32) + ((i1 &&& (2147483647 : Int32)) % (100 : Int32))).toInt64)) + (((((i3.toUInt32 >>> ((1 : Int32) &&& 31).toUInt32).toInt32) % (5 : Int32)) - (2 : Int32)).toInt64))), .second, .val (.ref b9), .unset, .unset] [(.ref w_EMPTY)]) (fun _ kk => st14.trans kk) ?_
      refine ob T14 (mkF mG 75 #[.val (.long q0), .second, .val (.int i1), .val (.long q2), .second, .val (.int i3), .val (.long (q0 &&& (2147483647 : Int64))), .second, .val (.int ((1 : Int32) + ((i1 &&& (2147483647 : Int32)) % (100 : Int32)))), .val (.long ((q0 &&& (2147483647 : Int64)) + (((1 : Int32) + ((i1 &&& (2147483647 : Int32)) % (100 : Int32))).toInt64))), .second, .val (.long (((q0 &&& (2147483647 : Int64)) + (((1 : Int32) + ((i1 &&& (2147483647 : Int32)) % (100 : Int32))).toInt64)) + (((((i3.toUInt32 >>> ((1 : Int32) &&& 31).toUInt32).toInt32) % (5 : Int32)) - (2 : Int32)).toInt64))), .second, .val (.ref b9), .val (.ref w_EMPTY), .unset] []) (fun _ kk => XS.astore X14.here hx rfl (hb hby at_73) rfl rfl (l' := #[.val (.long q0), .second, .val (.int i1), .val (.long q2), .second, .val (.int i3), .val (.long (q0 &&& (2147483647 : Int64))), .second, .val (.int ((1 : Int32) + ((i1 &&& (2147483647 : Int32)) % (100 : Int32)))), .val (.long ((q0 &&& (2147483647 : Int64)) + (((1 : Int32) + ((i1 &&& (2147483647 : Int32)) % (100 : Int32))).toInt64))), .second, .val (.long (((q0 &&& (2147483647 : Int64)) + (((1 : Int32) + ((i1 &&& (2147483647 : Int32)) % (100 : Int32))).toInt64)) + (((((i3.toUInt32 >>> ((1 : Int32) &&& 31).toUInt32).toInt32) % (5 : Int32)) - (2 : Int32)).toInt64))), .second, .val (.ref b9), .val (.ref w_EMPTY), .unset]) rfl kk) ?_
      refine ob T14 (mkF mG 77 #[.val (.long q0), .second, .val (.int i1), .val (.long q2), .second, .val (.int i3), .val (.long (q0 &&& (2147483647 : Int64))), .second, .val (.int ((1 : Int32) + ((i1 &&& (2147483647 : Int32)) % (100 : Int32)))), .val (.long ((q0 &&& (2147483647 : Int64)) + (((1 : Int32) + ((i1 &&& (2147483647 : Int32)) % (100 : Int32))).toInt64))), .second, .val (.long (((q0 &&& (2147483647 : Int64)) + (((1 : Int32) + ((i1 &&& (2147483647 : Int32)) % (100 : Int32))).toInt64)) + (((((i3.toUInt32 >>> ((1 : Int32) &&& 31).toUInt32).toInt32) % (5 : Int32)) - (2 : Int32)).toInt64))), .second, .val (.ref b9), .val (.ref w_EMPTY), .unset] [(.long ((q0 &&& (2147483647 : Int64)) + (((1 : Int32) + ((i1 &&& (2147483647 : Int32)) % (100 : Int32))).toInt64)))]) (fun _ kk => XS.lload X14.here hx rfl (hb hby at_75) rfl kk) ?_
      refine ob T14 (mkF mG 79 #[.val (.long q0), .second, .val (.int i1), .val (.long q2), .second, .val (.int i3), .val (.long (q0 &&& (2147483647 : Int64))), .second, .val (.int ((1 : Int32) + ((i1 &&& (2147483647 : Int32)) % (100 : Int32)))), .val (.long ((q0 &&& (2147483647 : Int64)) + (((1 : Int32) + ((i1 &&& (2147483647 : Int32)) % (100 : Int32))).toInt64))), .second, .val (.long (((q0 &&& (2147483647 : Int64)) + (((1 : Int32) + ((i1 &&& (2147483647 : Int32)) % (100 : Int32))).toInt64)) + (((((i3.toUInt32 >>> ((1 : Int32) &&& 31).toUInt32).toInt32) % (5 : Int32)) - (2 : Int32)).toInt64))), .second, .val (.ref b9), .val (.ref w_EMPTY), .unset] [(.long (((q0 &&& (2147483647 : Int64)) + (((1 : Int32) + ((i1 &&& (2147483647 : Int32)) % (100 : Int32))).toInt64)) + (((((i3.toUInt32 >>> ((1 : Int32) &&& 31).toUInt32).toInt32) % (5 : Int32)) - (2 : Int32)).toInt64))), (.long ((q0 &&& (2147483647 : Int64)) + (((1 : Int32) + ((i1 &&& (2147483647 : Int32)) % (100 : Int32))).toInt64)))]) (fun _ kk => XS.lload X14.here hx rfl (hb hby at_77) rfl kk) ?_
      refine ob T14 (mkF mG 80 #[.val (.long q0), .second, .val (.int i1), .val (.long q2), .second, .val (.int i3), .val (.long (q0 &&& (2147483647 : Int64))), .second, .val (.int ((1 : Int32) + ((i1 &&& (2147483647 : Int32)) % (100 : Int32)))), .val (.long ((q0 &&& (2147483647 : Int64)) + (((1 : Int32) + ((i1 &&& (2147483647 : Int32)) % (100 : Int32))).toInt64))), .second, .val (.long (((q0 &&& (2147483647 : Int64)) + (((1 : Int32) + ((i1 &&& (2147483647 : Int32)) % (100 : Int32))).toInt64)) + (((((i3.toUInt32 >>> ((1 : Int32) &&& 31).toUInt32).toInt32) % (5 : Int32)) - (2 : Int32)).toInt64))), .second, .val (.ref b9), .val (.ref w_EMPTY), .unset] [(.int (lcmpW ((q0 &&& (2147483647 : Int64)) + (((1 : Int32) + ((i1 &&& (2147483647 : Int32)) % (100 : Int32))).toInt64)) (((q0 &&& (2147483647 : Int64)) + (((1 : Int32) + ((i1 &&& (2147483647 : Int32)) % (100 : Int32))).toInt64)) + (((((i3.toUInt32 >>> ((1 : Int32) &&& 31).toUInt32).toInt32) % (5 : Int32)) - (2 : Int32)).toInt64))))]) (fun _ kk => XS.lcmp X14.here hx rfl (hb hby at_79) rfl kk) ?_
      refine ob T14 (mkF mG 87 #[.val (.long q0), .second, .val (.int i1), .val (.long q2), .second, .val (.int i3), .val (.long (q0 &&& (2147483647 : Int64))), .second, .val (.int ((1 : Int32) + ((i1 &&& (2147483647 : Int32)) % (100 : Int32)))), .val (.long ((q0 &&& (2147483647 : Int64)) + (((1 : Int32) + ((i1 &&& (2147483647 : Int32)) % (100 : Int32))).toInt64))), .second, .val (.long (((q0 &&& (2147483647 : Int64)) + (((1 : Int32) + ((i1 &&& (2147483647 : Int32)) % (100 : Int32))).toInt64)) + (((((i3.toUInt32 >>> ((1 : Int32) &&& 31).toUInt32).toInt32) % (5 : Int32)) - (2 : Int32)).toInt64))), .second, .val (.ref b9), .val (.ref w_EMPTY), .unset] []) (fun _ kk => XS.ifYes X14.here hx rfl (pc0 := 80) (pc' := 87) rfl (hb hby at_80) rfl ((if0 _ _).trans (flt hq).2.1) (by decide) (by decide) kk) ?_
      refine ob T14 (mkF mG 88 #[.val (.long q0), .second, .val (.int i1), .val (.long q2), .second, .val (.int i3), .val (.long (q0 &&& (2147483647 : Int64))), .second, .val (.int ((1 : Int32) + ((i1 &&& (2147483647 : Int32)) % (100 : Int32)))), .val (.long ((q0 &&& (2147483647 : Int64)) + (((1 : Int32) + ((i1 &&& (2147483647 : Int32)) % (100 : Int32))).toInt64))), .second, .val (.long (((q0 &&& (2147483647 : Int64)) + (((1 : Int32) + ((i1 &&& (2147483647 : Int32)) % (100 : Int32))).toInt64)) + (((((i3.toUInt32 >>> ((1 : Int32) &&& 31).toUInt32).toInt32) % (5 : Int32)) - (2 : Int32)).toInt64))), .second, .val (.ref b9), .val (.ref w_EMPTY), .unset] [(.int (0 : Int32))]) (fun _ kk => XS.iconst X14.here hx rfl (hb hby at_87) kk) ?_
      refine ob T14 (mkF mG 90 #[.val (.long q0), .second, .val (.int i1), .val (.long q2), .second, .val (.int i3), .val (.long (q0 &&& (2147483647 : Int64))), .second, .val (.int ((1 : Int32) + ((i1 &&& (2147483647 : Int32)) % (100 : Int32)))), .val (.long ((q0 &&& (2147483647 : Int64)) + (((1 : Int32) + ((i1 &&& (2147483647 : Int32)) % (100 : Int32))).toInt64))), .second, .val (.long (((q0 &&& (2147483647 : Int64)) + (((1 : Int32) + ((i1 &&& (2147483647 : Int32)) % (100 : Int32))).toInt64)) + (((((i3.toUInt32 >>> ((1 : Int32) &&& 31).toUInt32).toInt32) % (5 : Int32)) - (2 : Int32)).toInt64))), .second, .val (.ref b9), .val (.ref w_EMPTY), .val (.int (0 : Int32))] []) (fun _ kk => XS.istore X14.here hx rfl (hb hby at_88) rfl (l' := #[.val (.long q0), .second, .val (.int i1), .val (.long q2), .second, .val (.int i3), .val (.long (q0 &&& (2147483647 : Int64))), .second, .val (.int ((1 : Int32) + ((i1 &&& (2147483647 : Int32)) % (100 : Int32)))), .val (.long ((q0 &&& (2147483647 : Int64)) + (((1 : Int32) + ((i1 &&& (2147483647 : Int32)) % (100 : Int32))).toInt64))), .second, .val (.long (((q0 &&& (2147483647 : Int64)) + (((1 : Int32) + ((i1 &&& (2147483647 : Int32)) % (100 : Int32))).toInt64)) + (((((i3.toUInt32 >>> ((1 : Int32) &&& 31).toUInt32).toInt32) % (5 : Int32)) - (2 : Int32)).toInt64))), .second, .val (.ref b9), .val (.ref w_EMPTY), .val (.int (0 : Int32))]) rfl kk) ?_
      refine ob T14 (mkF mG 92 #[.val (.long q0), .second, .val (.int i1), .val (.long q2), .second, .val (.int i3), .val (.long (q0 &&& (2147483647 : Int64))), .second, .val (.int ((1 : Int32) + ((i1 &&& (2147483647 : Int32)) % (100 : Int32)))), .val (.long ((q0 &&& (2147483647 : Int64)) + (((1 : Int32) + ((i1 &&& (2147483647 : Int32)) % (100 : Int32))).toInt64))), .second, .val (.long (((q0 &&& (2147483647 : Int64)) + (((1 : Int32) + ((i1 &&& (2147483647 : Int32)) % (100 : Int32))).toInt64)) + (((((i3.toUInt32 >>> ((1 : Int32) &&& 31).toUInt32).toInt32) % (5 : Int32)) - (2 : Int32)).toInt64))), .second, .val (.ref b9), .val (.ref w_EMPTY), .val (.int (0 : Int32))] [(.ref w_EMPTY)]) (fun _ kk => XS.aload X14.here hx rfl (hb hby at_90) rfl rfl kk) ?_
      obtain ⟨cq15, kq15, q15a, q15b, q15c⟩ := isOf hZ e14 (E_w_EMPTY.ext O10.2)
      obtain ⟨_, _, ⟨T15, L15, k15, n15⟩, -, X15, ⟨Lc15, hQ15, l15, y15, z15⟩, st15⟩ := X14.virtualBack hx (y := (⟨"java/util/OptionalLong", "isPresent", "()Z"⟩ : MethodName)) (z := (⟨"java/util/OptionalLong", "isPresent", "()Z"⟩ : MethodName)) hown (mvT hZ (ow hw 25 rfl)) (mvT hZ (ow hw 26 rfl)) (notFace_of_selects (args := #[]) (mvT hZ (ow hw 28 rfl))) (mvT hZ (ow hw 28 rfl)) (mvT hZ (ow hw 27 rfl)) (by decide) (backOf (W := 0) (rm_ipE l Z a0 hw [] w_EMPTY  h10 n0 O10 hS ) hZ (ow hw 29 rfl) (ow hw 22 rfl) (by decide) (by decide)) q15a q15c (g := (mkF mG 92 #[.val (.long q0), .second, .val (.int i1), .val (.long q2), .second, .val (.int i3), .val (.long (q0 &&& (2147483647 : Int64))), .second, .val (.int ((1 : Int32) + ((i1 &&& (2147483647 : Int32)) % (100 : Int32)))), .val (.long ((q0 &&& (2147483647 : Int64)) + (((1 : Int32) + ((i1 &&& (2147483647 : Int32)) % (100 : Int32))).toInt64))), .second, .val (.long (((q0 &&& (2147483647 : Int64)) + (((1 : Int32) + ((i1 &&& (2147483647 : Int32)) % (100 : Int32))).toInt64)) + (((((i3.toUInt32 >>> ((1 : Int32) &&& 31).toUInt32).toInt32) % (5 : Int32)) - (2 : Int32)).toInt64))), .second, .val (.ref b9), .val (.ref w_EMPTY), .val (.int (0 : Int32))] [(.ref w_EMPTY)])) rfl (by rw [hml]; rfl) (Steps.refl _) (argsL := []) (rest := []) (lenOf pd_4 rfl) rfl (by show 2 * 0 + _ ≤ _; exact Nat.le_of_eq rfl) (hb hby at_92) (fun _ _ => ⟨rfl, e14, (by decide : 1 + 0 ≤ _), (by decide : 2 + 0 ≤ _)⟩)
      dsimp only [Pt.U, Pt.locs, Pt.cells, Pt.slots] at X15 l15 y15 z15 st15 hQ15
      subst l15 y15 z15
      obtain ⟨rfl, N15q, e15⟩ := hQ15
      have N15 := Fr.app N14 N15q
      refine ob T15 (mkF mG 95 #[.val (.long q0), .second, .val (.int i1), .val (.long q2), .second, .val (.int i3), .val (.long (q0 &&& (2147483647 : Int64))), .second, .val (.int ((1 : Int32) + ((i1 &&& (2147483647 : Int32)) % (100 : Int32)))), .val (.long ((q0 &&& (2147483647 : Int64)) + (((1 : Int32) + ((i1 &&& (2147483647 : Int32)) % (100 : Int32))).toInt64))), .second, .val (.long (((q0 &&& (2147483647 : Int64)) + (((1 : Int32) + ((i1 &&& (2147483647 : Int32)) % (100 : Int32))).toInt64)) + (((((i3.toUInt32 >>> ((1 : Int32) &&& 31).toUInt32).toInt32) % (5 : Int32)) - (2 : Int32)).toInt64))), .second, .val (.ref b9), .val (.ref w_EMPTY), .val (.int (0 : Int32))] [(.int (0 : Int32))]) (fun _ kk => st15.trans kk) ?_
      refine ob T15 (mkF mG 97 #[.val (.long q0), .second, .val (.int i1), .val (.long q2), .second, .val (.int i3), .val (.long (q0 &&& (2147483647 : Int64))), .second, .val (.int ((1 : Int32) + ((i1 &&& (2147483647 : Int32)) % (100 : Int32)))), .val (.long ((q0 &&& (2147483647 : Int64)) + (((1 : Int32) + ((i1 &&& (2147483647 : Int32)) % (100 : Int32))).toInt64))), .second, .val (.long (((q0 &&& (2147483647 : Int64)) + (((1 : Int32) + ((i1 &&& (2147483647 : Int32)) % (100 : Int32))).toInt64)) + (((((i3.toUInt32 >>> ((1 : Int32) &&& 31).toUInt32).toInt32) % (5 : Int32)) - (2 : Int32)).toInt64))), .second, .val (.ref b9), .val (.ref w_EMPTY), .val (.int (0 : Int32))] [(.int (0 : Int32)), (.int (0 : Int32))]) (fun _ kk => XS.iload X15.here hx rfl (hb hby at_95) rfl kk) ?_
      refine ob T15 (mkF mG 102 #[.val (.long q0), .second, .val (.int i1), .val (.long q2), .second, .val (.int i3), .val (.long (q0 &&& (2147483647 : Int64))), .second, .val (.int ((1 : Int32) + ((i1 &&& (2147483647 : Int32)) % (100 : Int32)))), .val (.long ((q0 &&& (2147483647 : Int64)) + (((1 : Int32) + ((i1 &&& (2147483647 : Int32)) % (100 : Int32))).toInt64))), .second, .val (.long (((q0 &&& (2147483647 : Int64)) + (((1 : Int32) + ((i1 &&& (2147483647 : Int32)) % (100 : Int32))).toInt64)) + (((((i3.toUInt32 >>> ((1 : Int32) &&& 31).toUInt32).toInt32) % (5 : Int32)) - (2 : Int32)).toInt64))), .second, .val (.ref b9), .val (.ref w_EMPTY), .val (.int (0 : Int32))] []) (fun _ kk => XS.icmpYes X15.here hx rfl (pc0 := 97) (pc' := 102) rfl (hb hby at_97) rfl (teq (by decide : (0 : Int32) = (0 : Int32))).1 (by decide) (by decide) kk) ?_
      refine ob T15 (mkF mG 104 #[.val (.long q0), .second, .val (.int i1), .val (.long q2), .second, .val (.int i3), .val (.long (q0 &&& (2147483647 : Int64))), .second, .val (.int ((1 : Int32) + ((i1 &&& (2147483647 : Int32)) % (100 : Int32)))), .val (.long ((q0 &&& (2147483647 : Int64)) + (((1 : Int32) + ((i1 &&& (2147483647 : Int32)) % (100 : Int32))).toInt64))), .second, .val (.long (((q0 &&& (2147483647 : Int64)) + (((1 : Int32) + ((i1 &&& (2147483647 : Int32)) % (100 : Int32))).toInt64)) + (((((i3.toUInt32 >>> ((1 : Int32) &&& 31).toUInt32).toInt32) % (5 : Int32)) - (2 : Int32)).toInt64))), .second, .val (.ref b9), .val (.ref w_EMPTY), .val (.int (0 : Int32))] [(.int (0 : Int32))]) (fun _ kk => XS.iload X15.here hx rfl (hb hby at_102) rfl kk) ?_
      refine ob T15 (mkF mG 120 #[.val (.long q0), .second, .val (.int i1), .val (.long q2), .second, .val (.int i3), .val (.long (q0 &&& (2147483647 : Int64))), .second, .val (.int ((1 : Int32) + ((i1 &&& (2147483647 : Int32)) % (100 : Int32)))), .val (.long ((q0 &&& (2147483647 : Int64)) + (((1 : Int32) + ((i1 &&& (2147483647 : Int32)) % (100 : Int32))).toInt64))), .second, .val (.long (((q0 &&& (2147483647 : Int64)) + (((1 : Int32) + ((i1 &&& (2147483647 : Int32)) % (100 : Int32))).toInt64)) + (((((i3.toUInt32 >>> ((1 : Int32) &&& 31).toUInt32).toInt32) % (5 : Int32)) - (2 : Int32)).toInt64))), .second, .val (.ref b9), .val (.ref w_EMPTY), .val (.int (0 : Int32))] []) (fun _ kk => XS.ifYes X15.here hx rfl (pc0 := 104) (pc' := 120) rfl (hb hby at_104) rfl ((if0 _ _).trans (teq (by decide : (0 : Int32) = (0 : Int32))).1) (by decide) (by decide) kk) ?_
      refine ob T15 (mkF mG 121 #[.val (.long q0), .second, .val (.int i1), .val (.long q2), .second, .val (.int i3), .val (.long (q0 &&& (2147483647 : Int64))), .second, .val (.int ((1 : Int32) + ((i1 &&& (2147483647 : Int32)) % (100 : Int32)))), .val (.long ((q0 &&& (2147483647 : Int64)) + (((1 : Int32) + ((i1 &&& (2147483647 : Int32)) % (100 : Int32))).toInt64))), .second, .val (.long (((q0 &&& (2147483647 : Int64)) + (((1 : Int32) + ((i1 &&& (2147483647 : Int32)) % (100 : Int32))).toInt64)) + (((((i3.toUInt32 >>> ((1 : Int32) &&& 31).toUInt32).toInt32) % (5 : Int32)) - (2 : Int32)).toInt64))), .second, .val (.ref b9), .val (.ref w_EMPTY), .val (.int (0 : Int32))] [(.int (1 : Int32))]) (fun _ kk => XS.iconst X15.here hx rfl (hb hby at_120) kk) ?_
      obtain ⟨fs, hr, hrun, hended, hW, hsame⟩ := X15.leave (v := some (.int (1 : Int32))) (fun h => by rw [Bd.returns] at h; cases h)
      refine oout (retN X15 hx (t := .boolean) Bd.returns (by simp) (hb hby at_121) hr) hrun hended ⟨_, _, rfl, ?_, ⟨_, rfl⟩, hW, hsame.mono (by decide) (by decide)⟩
      show Q_rm0 Z w_EMPTY q0 i1 q2 i3 h0 n0 _ T15.heap _
      rw [e15]
      exact ⟨rfl, N15⟩

set_option maxRecDepth 65536 in
set_option maxHeartbeats 40000000 in
theorem comes_1 {Post : Tables → Env → Array Value → State → Outcome → State → Prop} (hpost : ∀ tb e args s v u, (limb_1_1.after args s (.returned v) u = true ∧ limb_1_2.after args s (.returned v) u = true ∧ True) → FrameEnd s (.returned v) u (Jvm.fieldLocs frame_1_writes args s ++ Jvm.arrayLocs frame_1_arrays args s ++ Jvm.staticLocs frame_1_statics s) 16 128 → Post tb e args s (.returned v) u) :
    ArmFor flags0 classFile x code maxLocals ret World_1 tables_1 room_1 Calls_1 rest_1 Pre_1 Post := by
  intro l hfl _ _ p e ha hc hk s m args below hf hA hF happ hP
  obtain ⟨hcalls, hrest, hpre⟩ := hP
  obtain ⟨-, -, -, hnamed, -, -, -, hat⟩ := (Spec.applies_iff hf).mp happ
  obtain ⟨hg, hn⟩ := and_e (Cond.before_iff.mp (show (Jvm.Cond.and given_1 narrow_1).before args s = true from hpre))
  obtain ⟨gg1, gg2⟩ := and_e hg
  obtain ⟨gg3, gg4⟩ := and_e gg2
  obtain ⟨gg5, gg6⟩ := and_e gg4
  obtain ⟨gg7, gg8⟩ := and_e gg6
  obtain ⟨w0, w1, w2, w3, rfl⟩ : ∃ w0 w1 w2 w3 : Value, args = #[w0, w1, w2, w3] := by
    have hs : args.size = 4 := by simpa [Cond.value, given_1] using gg1
    obtain ⟨L⟩ := args
    match L, hs with
    | [w0, w1, w2, w3], _ => exact ⟨w0, w1, w2, w3, rfl⟩
  have hw := fun d (hd : d ∈ tables_1) => atoms_spec (ws := Jvm.Cond.code x code maxLocals ret :: tables_1) hat d (List.mem_cons_of_mem _ hd)
  have hfit : Fit s := fun {y c} hc i hi => by
    obtain ⟨ha, rfl⟩ := Array.getElem?_eq_some_iff.mp hc
    have q := List.all_eq_true.mp ((Array.all_eq_true_iff_forall_mem.mp hF) _ (Array.getElem_mem ha)) i (List.mem_range.mpr hi)
    simpa [Array.getElem?_eq_getElem hi] using q
  obtain ⟨hsets, hown0⟩ := atoms_of _ (rest_1_c_eq ▸ (show rest_1_c.before _ s = true from hrest))
  have hr0 := Cond.before_iff.mp hown0
  obtain ⟨i0, ei0⟩ := isL_v gg3
  obtain rfl : w0 = (.long i0) := Option.some.inj ei0
  obtain ⟨i1, ei1⟩ := is_v gg5
  obtain rfl : w1 = (.int i1) := Option.some.inj ei1
  obtain ⟨i2, ei2⟩ := isL_v gg7
  obtain rfl : w2 = (.long i2) := Option.some.inj ei2
  obtain ⟨i3, ei3⟩ := is_v gg8
  obtain rfl : w3 = (.int i3) := Option.some.inj ei3
  obtain ⟨w_EMPTY, ev_w_EMPTY, S_w_EMPTY, E_w_EMPTY⟩ := own_sta (Cond.before_iff.mp (ow hsets 2 rfl)) (Or.inl (ow hsets 1 rfl))
  have F_w_EMPTY_isPresent := own_fldI ev_w_EMPTY (Cond.before_iff.mp (ow hsets 3 rfl))
  have F_w_EMPTY_value := own_fldL ev_w_EMPTY (Cond.before_iff.mp (ow hsets 4 rfl))
  have hS : St0 s w_EMPTY := ⟨S_w_EMPTY, E_w_EMPTY, F_w_EMPTY_isPresent, F_w_EMPTY_value⟩
  obtain ⟨n, o, h1, h2, h3, _, L, rfl, ⟨rfl, N⟩, hq⟩ := rm0 l s _ hw tables_1 w_EMPTY i0 i1 i2 i3 s.heap s.heap.size (Old.start s) hS p e ha hc hk s m _ below hf ((Spec.applies_iff_loose hf).mp happ).1 ⟨rfl, State.Warmed39.refl s, rfl⟩ trivial
  refine ⟨n, _, h1, h2, h3, hpost _ _ _ _ _ _ ⟨Cond.after_iff.mpr rfl, Cond.after_iff.mpr (eq_i res_at (Term.int_eval (1)) rfl), trivial⟩ ⟨hq.1, hq.2.1, (hq.2.2.sift fun y hy => Or.inr (N y hy)).mono (by decide) (by decide)⟩⟩
theorem main_1_1 : Claimed_1_1 := comes_1 fun _ _ _ _ _ _ h hF => ⟨h.1, hF⟩
theorem main_1_2 : Claimed_1_2 := comes_1 fun _ _ _ _ _ _ h hF => ⟨h.2.1, hF⟩
end Jvm.Pilot.@@N@@
namespace Jvm.Pilot.@@N@@
open Jvm Jvm.ClassFile Sem Op Lib Jvm.Free Jvm.Stand Jvm.Pilot.@@N@@.Jvm.D
/-! MADE BY PROGRAM (witnessworld.py) out of the Statement's table words and the real class files: 10 classes; the members and pool entries that the words name. The judged class is class 1, her method 1. -/
namespace start1
open Jvm.ClassFile
def u (s : String) : CpInfo := .utf8 (stringToUtf16 s)
/-- a pool by its gaps: so many unusable entries, then the entry; so many at the end -/
def gap : Nat → List CpInfo → List CpInfo
  | 0, r => r
  | n + 1, r => .unusable :: gap n r
def poolList (es : List (Nat × CpInfo)) (last : Nat) : List CpInfo := es.foldr (fun e r => gap e.1 (e.2 :: r)) (gap last [])
def pool (es : List (Nat × CpInfo)) (last : Nat) : Array CpInfo := ⟨poolList es last⟩
def fileOf (pool : Array CpInfo) (this : Nat) (attrs : Array Attribute := #[]) (ms : Array MethodInfo := #[]) (fl : Nat := 33) (sup : Nat := 0) (ifs : Array Nat := #[]) (fds : Array FieldInfo := #[]) : ClassFile where
  minorVersion := 0
  majorVersion := 65
  constantPool := pool
  accessFlags := fl
  thisClass := this
  superClass := sup
  interfaces := ifs
  fields := fds
  methods := ms
  attributes := attrs
def plain (name : String) (sup : Option ClassId) : Class where
  name := name
  kind := .ordinary
  loader := none
  accessFlags := 33
  super := sup
  interfaces := #[]
  cf := none
  fields := #[]
  methods := #[]
  instanceTypes := #[]
  staticTypes := #[]
  resolved := #[]
  callSites := []
  init := .initialized
  statics := none
  mirror := none

def pool0 : Array CpInfo := pool [(5, u "<init>"), (0, u "()V"), (1, .class_ 10), (1, u "java/lang/Object")] 113

def k0c0 : Code := { maxStack := 0, maxLocals := 1, code := object_method_1_code, exceptionTable := #[], attributes := #[] }
def k0m0 : Method := { name := "<init>", desc := "()V", sig := { parameters := [], returnType := none }, accessFlags := 1, code := some k0c0 }
/-- java/lang/Object -/
def k0 : Class := { plain "java/lang/Object" none with
  accessFlags := 33
  interfaces := #[]
  cf := some (fileOf pool0 8 #[] #[{ accessFlags := 1, nameIndex := 5, descriptorIndex := 6, attributes := #[] }] 33 0 #[] #[])
  fields := #[]
  methods := #[k0m0]
  instanceTypes := #[]
  staticTypes := #[]
  resolved := Array.replicate 124 none
  statics := none }

def pool1 : Array CpInfo := pool [(2, .class_ 4), (1, u "java/lang/Object"), (0, u "<init>"), (0, u "()V"), (0, .long 2147483647), (1, .integer 2147483647), (0, .class_ 11), (0, u "com/example/rigorous_sourcing/rigoroussourcing/domain/Paging"), (0, .methodref 10 13), (0, .nameAndType 5 14), (0, u "(JI)V"), (0, .methodref 10 16), (0, .nameAndType 17 18), (0, u "nextOffset"), (0, u "(J)Ljava/util/OptionalLong;"), (0, .methodref 20 21), (0, .class_ 22), (0, .nameAndType 23 24), (0, u "java/util/OptionalLong"), (0, u "isPresent"), (0, u "()Z"), (0, .methodref 20 26), (0, .nameAndType 27 28), (0, u "getAsLong"), (0, u "()J"), (0, .class_ 30), (0, u "com/example/rigorous_sourcing/rigoroussourcing/domain/PagingNextOffsetPinLaw"), (2, u "law"), (0, u "(JIJI)Z")] 3

def k1m0 : Method := { name := "<init>", desc := "()V", sig := { parameters := [], returnType := none }, accessFlags := 1, code := none }
def k1c1 : Code := { maxStack := 5, maxLocals := 16, code := code, exceptionTable := #[], attributes := #[] }
def k1m1 : Method := { name := "law", desc := "(JIJI)Z", sig := { parameters := [.long, .int, .long, .int], returnType := some .boolean }, accessFlags := 9, code := some k1c1 }
/-- com/example/rigorous_sourcing/rigoroussourcing/domain/PagingNextOffsetPinLaw -/
def k1 : Class := { plain "com/example/rigorous_sourcing/rigoroussourcing/domain/PagingNextOffsetPinLaw" (some 0) with
  accessFlags := 49
  interfaces := #[]
  cf := some (fileOf pool1 29 #[] #[{ accessFlags := 1, nameIndex := 5, descriptorIndex := 6, attributes := #[] }, { accessFlags := 9, nameIndex := 33, descriptorIndex := 34, attributes := #[] }] 49 2 #[] #[])
  fields := #[]
  methods := #[k1m0, k1m1]
  instanceTypes := #[]
  staticTypes := #[]
  resolved := Array.replicate 38 none
  statics := none }

def pool2 : Array CpInfo := pool [(3, .methodref 4 5), (0, .class_ 6), (0, .nameAndType 7 8), (0, u "java/lang/Object"), (0, u "<init>"), (0, u "()V"), (0, .fieldref 10 11), (0, .class_ 12), (0, .nameAndType 13 14), (0, u "com/example/rigorous_sourcing/rigoroussourcing/domain/Paging"), (0, u "mOffset"), (0, u "J"), (0, .fieldref 10 16), (0, .nameAndType 17 18), (0, u "mPageSize"), (0, u "I"), (27, .methodref 47 48), (0, .class_ 49), (0, .nameAndType 50 51), (0, u "java/util/OptionalLong"), (0, u "of"), (0, u "(J)Ljava/util/OptionalLong;"), (0, .methodref 47 53), (0, .nameAndType 54 55), (0, u "empty"), (0, u "()Ljava/util/OptionalLong;"), (4, u "WHOLE"), (0, u "Ljava/util/regex/Pattern;"), (47, u "OFFSET"), (0, u "Ljava/lang/String;"), (1, u "PAGE_SIZE"), (0, u "DEFAULT_PAGE_SIZE"), (1, u "MAX_PAGE_SIZE"), (1, u "MAX_OFFSET"), (0, u "(JI)V"), (11, u "nextOffset")] 21

def k2c0 : Code := { maxStack := 3, maxLocals := 4, code := prog_18_method_1_code, exceptionTable := #[], attributes := #[] }
def k2m0 : Method := { name := "<init>", desc := "(JI)V", sig := { parameters := [.long, .int], returnType := none }, accessFlags := 0, code := some k2c0 }
def k2c1 : Code := { maxStack := 4, maxLocals := 5, code := prog_18_method_7_code, exceptionTable := #[], attributes := #[] }
def k2m1 : Method := { name := "nextOffset", desc := "(J)Ljava/util/OptionalLong;", sig := { parameters := [.long], returnType := some (.object "java/util/OptionalLong") }, accessFlags := 1, code := some k2c1 }
/-- com/example/rigorous_sourcing/rigoroussourcing/domain/Paging -/
def k2 : Class := { plain "com/example/rigorous_sourcing/rigoroussourcing/domain/Paging" (some 0) with
  accessFlags := 49
  interfaces := #[]
  cf := some (fileOf pool2 10 #[] #[{ accessFlags := 0, nameIndex := 7, descriptorIndex := 118, attributes := #[] }, { accessFlags := 1, nameIndex := 130, descriptorIndex := 51, attributes := #[] }] 49 4 #[] #[{ accessFlags := 25, nameIndex := 109, descriptorIndex := 110, attributes := #[] }, { accessFlags := 25, nameIndex := 112, descriptorIndex := 110, attributes := #[] }, { accessFlags := 24, nameIndex := 113, descriptorIndex := 18, attributes := #[] }, { accessFlags := 26, nameIndex := 115, descriptorIndex := 18, attributes := #[] }, { accessFlags := 26, nameIndex := 117, descriptorIndex := 14, attributes := #[] }, { accessFlags := 26, nameIndex := 60, descriptorIndex := 61, attributes := #[] }, { accessFlags := 18, nameIndex := 13, descriptorIndex := 14, attributes := #[] }, { accessFlags := 18, nameIndex := 17, descriptorIndex := 18, attributes := #[] }])
  fields := #[{ name := "OFFSET", type := (.object "java/lang/String"), accessFlags := 25, slot := 0, constantValue := 0 }, { name := "PAGE_SIZE", type := (.object "java/lang/String"), accessFlags := 25, slot := 1, constantValue := 0 }, { name := "DEFAULT_PAGE_SIZE", type := .int, accessFlags := 24, slot := 2, constantValue := 0 }, { name := "MAX_PAGE_SIZE", type := .int, accessFlags := 26, slot := 3, constantValue := 0 }, { name := "MAX_OFFSET", type := .long, accessFlags := 26, slot := 4, constantValue := 0 }, { name := "WHOLE", type := (.object "java/util/regex/Pattern"), accessFlags := 26, slot := 5, constantValue := 0 }, { name := "mOffset", type := .long, accessFlags := 18, slot := 0, constantValue := 0 }, { name := "mPageSize", type := .int, accessFlags := 18, slot := 1, constantValue := 0 }]
  methods := #[k2m0, k2m1]
  instanceTypes := #[.long, .int]
  staticTypes := #[(.object "java/lang/String"), (.object "java/lang/String"), .int, .int, .long, (.object "java/util/regex/Pattern")]
  resolved := Array.replicate 152 none
  statics := none }

def pool3 : Array CpInfo := pool [(1, .methodref 2 3), (0, .class_ 4), (0, .nameAndType 5 6), (0, u "java/lang/Object"), (0, u "<init>"), (0, u "()V"), (0, .fieldref 8 9), (0, .class_ 10), (0, .nameAndType 11 12), (0, u "java/util/OptionalLong"), (0, u "isPresent"), (0, u "Z"), (0, .fieldref 8 14), (0, .nameAndType 15 16), (0, u "value"), (0, u "J"), (0, .fieldref 8 18), (0, .nameAndType 19 20), (0, u "EMPTY"), (0, u "Ljava/util/OptionalLong;"), (0, .methodref 8 22), (0, .nameAndType 5 23), (0, u "(J)V"), (21, u "of"), (3, u "empty"), (5, u "getAsLong"), (0, u "()J"), (39, u "()Ljava/util/OptionalLong;"), (0, u "(J)Ljava/util/OptionalLong;"), (1, u "()Z")] 38

def k3m0 : Method := { name := "<init>", desc := "()V", sig := { parameters := [], returnType := none }, accessFlags := 2, code := none }
def k3c1 : Code := { maxStack := 1, maxLocals := 0, code := jdk_2650_method_2_code, exceptionTable := #[], attributes := #[] }
def k3m1 : Method := { name := "empty", desc := "()Ljava/util/OptionalLong;", sig := { parameters := [], returnType := some (.object "java/util/OptionalLong") }, accessFlags := 9, code := some k3c1 }
def k3c2 : Code := { maxStack := 3, maxLocals := 3, code := jdk_2650_method_3_code, exceptionTable := #[], attributes := #[] }
def k3m2 : Method := { name := "<init>", desc := "(J)V", sig := { parameters := [.long], returnType := none }, accessFlags := 2, code := some k3c2 }
def k3c3 : Code := { maxStack := 4, maxLocals := 2, code := jdk_2650_method_4_code, exceptionTable := #[], attributes := #[] }
def k3m3 : Method := { name := "of", desc := "(J)Ljava/util/OptionalLong;", sig := { parameters := [.long], returnType := some (.object "java/util/OptionalLong") }, accessFlags := 9, code := some k3c3 }
def k3c4 : Code := { maxStack := 3, maxLocals := 1, code := jdk_2650_method_5_code, exceptionTable := #[], attributes := #[] }
def k3m4 : Method := { name := "getAsLong", desc := "()J", sig := { parameters := [], returnType := some .long }, accessFlags := 1, code := some k3c4 }
def k3c5 : Code := { maxStack := 1, maxLocals := 1, code := jdk_2650_method_6_code, exceptionTable := #[], attributes := #[] }
def k3m5 : Method := { name := "isPresent", desc := "()Z", sig := { parameters := [], returnType := some .boolean }, accessFlags := 1, code := some k3c5 }
/-- java/util/OptionalLong -/
def k3 : Class := { plain "java/util/OptionalLong" (some 0) with
  accessFlags := 49
  interfaces := #[]
  cf := some (fileOf pool3 8 #[] #[{ accessFlags := 2, nameIndex := 5, descriptorIndex := 6, attributes := #[] }, { accessFlags := 9, nameIndex := 49, descriptorIndex := 96, attributes := #[] }, { accessFlags := 2, nameIndex := 5, descriptorIndex := 23, attributes := #[] }, { accessFlags := 9, nameIndex := 45, descriptorIndex := 97, attributes := #[] }, { accessFlags := 1, nameIndex := 55, descriptorIndex := 56, attributes := #[] }, { accessFlags := 1, nameIndex := 11, descriptorIndex := 99, attributes := #[] }] 49 2 #[] #[{ accessFlags := 26, nameIndex := 19, descriptorIndex := 20, attributes := #[] }, { accessFlags := 18, nameIndex := 11, descriptorIndex := 12, attributes := #[] }, { accessFlags := 18, nameIndex := 15, descriptorIndex := 16, attributes := #[] }])
  fields := #[{ name := "EMPTY", type := (.object "java/util/OptionalLong"), accessFlags := 26, slot := 0, constantValue := 0 }, { name := "isPresent", type := .boolean, accessFlags := 18, slot := 0, constantValue := 0 }, { name := "value", type := .long, accessFlags := 18, slot := 1, constantValue := 0 }]
  methods := #[k3m0, k3m1, k3m2, k3m3, k3m4, k3m5]
  instanceTypes := #[.boolean, .long]
  staticTypes := #[(.object "java/util/OptionalLong")]
  resolved := Array.replicate 138 none
  statics := some 0 }

def pool4 : Array CpInfo := pool [(1, u "java/lang/Cloneable"), (0, .class_ 1), (0, u "java/lang/Object"), (0, .class_ 3)] 3

/-- java/lang/Cloneable -/
def k4 : Class := { plain "java/lang/Cloneable" (some 0) with
  accessFlags := 1537
  interfaces := #[]
  cf := some (fileOf pool4 2 #[] #[] 1537 4 #[] #[])
  fields := #[]
  methods := #[]
  instanceTypes := #[]
  staticTypes := #[]
  resolved := Array.replicate 8 none
  statics := none }

def pool5 : Array CpInfo := pool [(1, u "java/io/Serializable"), (0, .class_ 1), (0, u "java/lang/Object"), (0, .class_ 3)] 3

/-- java/io/Serializable -/
def k5 : Class := { plain "java/io/Serializable" (some 0) with
  accessFlags := 1537
  interfaces := #[]
  cf := some (fileOf pool5 2 #[] #[] 1537 4 #[] #[])
  fields := #[]
  methods := #[]
  instanceTypes := #[]
  staticTypes := #[]
  resolved := Array.replicate 8 none
  statics := none }

/-- the primitive byte -/
def k6 : Class := { plain "byte" none with kind := .primitive 'B', accessFlags := 0x411 }
/-- [B -/
def k7 : Class := { plain "[B" (some 0) with kind := .array 6 .byte, interfaces := #[4, 5], accessFlags := 1041 }

/-- the primitive int -/
def k8 : Class := { plain "int" none with kind := .primitive 'I', accessFlags := 0x411 }
/-- [I -/
def k9 : Class := { plain "[I" (some 0) with kind := .array 8 .int, interfaces := #[4, 5], accessFlags := 1041 }

def heap : Heap := #[{ cls := 3, slots := #[.ref 1], vm := .statics 3 },
  { cls := 3, slots := #[.int 0, .long 0], vm := .none }]
def classes : Array Class := #[k0, k1, k2, k3, k4, k5, k6, k7, k8, k9]
def interned : List (Array UInt16 × Addr) := []
def slotsUsed : Nat := 3
def theMethod : MethodId := ⟨1, 1⟩
def args0 : Array Value := #[.long 5, .int 6, .long 7, .int 8]
def aboutOver (below : List Frame) : State where
  vm := { classes := classes, interned := interned.toArray }
  heap := heap
  slotsUsed := slotsUsed
  threads := #[{ frames := .invoking theMethod args0 :: below }]
def below0 : List Frame := [.native { method := ⟨0, 0⟩, args := #[] }]
def about1 : State := aboutOver below0
def p0 : Program := .bare "" "" ""
def e0 : Env := launch0.env 0 0 0
theorem w_frames : about1.frames = Frame.invoking theMethod args0 :: below0 := rfl
set_option maxRecDepth 65536 in
theorem w_args : argsFit about1.vm theMethod args0 = true := by decide +kernel
set_option maxRecDepth 65536 in
theorem w_heap : heapFits about1 = true := by decide +kernel
set_option maxRecDepth 65536 in
theorem w_runnable : about1.curStatus? = some .runnable := by decide +kernel
set_option maxRecDepth 65536 in
theorem w_alone : about1.alone = true := by decide +kernel
set_option maxRecDepth 65536 in
theorem w_named : about1.methodNamed? x = some theMethod := by decide +kernel
set_option maxRecDepth 65536 in
theorem w_hears : about1.hears theMethod below0 = true := by decide +kernel
set_option maxRecDepth 65536 in
theorem w_ripe : about1.ripe theMethod args0 below0 = true := by decide +kernel
theorem w_running : about1.status = .running := rfl
set_option maxRecDepth 65536 in
theorem w_room : about1.hasRoom e0.platform room_1 = true :=
  launch0.hasRoom_least _ room_1 (by decide +kernel) (by decide +kernel) (by decide +kernel) (by decide +kernel) (by decide +kernel) (by decide +kernel)
theorem allAtoms_all (ts : List Jvm.Cond) (a : Array Jvm.Value) (st : Jvm.State) : (allAtoms ts).before a st = ts.all (fun c => c.before a st) := by
  induction ts with
  | nil => rfl
  | cons c t ih =>
    show (Jvm.Cond.and c (allAtoms t)).before a st = _
    rw [Jvm.Cond.before_and, ih, List.all_cons]
def words1 : List Jvm.Cond := Jvm.Cond.code x code maxLocals ret :: tables_1
/-- a 'code' word, met by the world's own term for the bytes: nothing is compared byte by byte -/
theorem code_word {y : MethodName} {bytes : ByteArray} {mx : Nat} {rt : Option FieldType} {a : Array Value} {s : State} {m : MethodId} {meth : Method} {c : Code} (h1 : s.methodNamed? y = some m) (h2 : s.vm.method? m = some meth) (h3 : meth.code = some c) (h4 : c.code = bytes)
    (h5 : (c.maxLocals == mx && c.exceptionTable.isEmpty && decide (c.maxStack ≤ mostOperands) && decide (meth.sig.returnType = rt) && !meth.locks && decide (parseMethodDescriptor y.desc = some meth.sig)) = true) : (Jvm.Cond.code y bytes mx rt).before a s = true := by
  simp only [Bool.and_eq_true, beq_iff_eq, Bool.not_eq_true', decide_eq_true_eq] at h5
  obtain ⟨⟨⟨⟨⟨g1, g2⟩, g3⟩, g4⟩, g5⟩, g6⟩ := h5
  simp [Cond.before, Cond.holds, Cond.value, h1, h2, h3, h4, g1, g2, g3, g4, g5, g6]
def isCode : Jvm.Cond → Bool
  | .code _ _ _ _ => true
  | _ => false
theorem all_split {L : List Jvm.Cond} {P : Jvm.Cond → Bool} (h1 : L.all (fun c => isCode c || P c) = true) (h2 : ∀ c ∈ L.filter isCode, P c = true) : L.all P = true := by
  refine List.all_eq_true.mpr fun c hc => ?_
  have h := List.all_eq_true.mp h1 c hc
  rcases Bool.eq_false_or_eq_true (isCode c) with hi | hi
  · exact h2 c (List.mem_filter.mpr ⟨hc, hi⟩)
  · simpa [hi] using h
set_option maxRecDepth 65536 in
theorem w_c0 : (Jvm.Cond.code x code maxLocals ret).before args0 about1 = true := code_word (m := ⟨1, 1⟩) (meth := k1m1) (c := k1c1) (by decide +kernel) rfl rfl rfl (by decide +kernel)
set_option maxRecDepth 65536 in
theorem w_c1 : (Jvm.Cond.code ({ cls := "com/example/rigorous_sourcing/rigoroussourcing/domain/Paging", name := "<init>", desc := "(JI)V" } : Jvm.MethodName) prog_18_method_1_code (4 : Nat) (Option.none : Option Jvm.ClassFile.FieldType)).before args0 about1 = true := code_word (m := ⟨2, 0⟩) (meth := k2m0) (c := k2c0) (by decide +kernel) rfl rfl rfl (by decide +kernel)
set_option maxRecDepth 65536 in
theorem w_c2 : (Jvm.Cond.code ({ cls := "java/lang/Object", name := "<init>", desc := "()V" } : Jvm.MethodName) object_method_1_code (1 : Nat) (Option.none : Option Jvm.ClassFile.FieldType)).before args0 about1 = true := code_word (m := ⟨0, 0⟩) (meth := k0m0) (c := k0c0) (by decide +kernel) rfl rfl rfl (by decide +kernel)
set_option maxRecDepth 65536 in
theorem w_c3 : (Jvm.Cond.code ({ cls := "com/example/rigorous_sourcing/rigoroussourcing/domain/Paging", name := "nextOffset", desc := "(J)Ljava/util/OptionalLong;" } : Jvm.MethodName) prog_18_method_7_code (5 : Nat) (Option.some (Jvm.ClassFile.FieldType.object "java/util/OptionalLong"))).before args0 about1 = true := code_word (m := ⟨2, 1⟩) (meth := k2m1) (c := k2c1) (by decide +kernel) rfl rfl rfl (by decide +kernel)
set_option maxRecDepth 65536 in
theorem w_c4 : (Jvm.Cond.code ({ cls := "java/util/OptionalLong", name := "empty", desc := "()Ljava/util/OptionalLong;" } : Jvm.MethodName) jdk_2650_method_2_code (0 : Nat) (Option.some (Jvm.ClassFile.FieldType.object "java/util/OptionalLong"))).before args0 about1 = true := code_word (m := ⟨3, 1⟩) (meth := k3m1) (c := k3c1) (by decide +kernel) rfl rfl rfl (by decide +kernel)
set_option maxRecDepth 65536 in
theorem w_c5 : (Jvm.Cond.code ({ cls := "java/util/OptionalLong", name := "isPresent", desc := "()Z" } : Jvm.MethodName) jdk_2650_method_6_code (1 : Nat) (Option.some Jvm.ClassFile.FieldType.boolean)).before args0 about1 = true := code_word (m := ⟨3, 5⟩) (meth := k3m5) (c := k3c5) (by decide +kernel) rfl rfl rfl (by decide +kernel)
set_option maxRecDepth 65536 in
theorem w_c6 : (Jvm.Cond.code ({ cls := "java/util/OptionalLong", name := "of", desc := "(J)Ljava/util/OptionalLong;" } : Jvm.MethodName) jdk_2650_method_4_code (2 : Nat) (Option.some (Jvm.ClassFile.FieldType.object "java/util/OptionalLong"))).before args0 about1 = true := code_word (m := ⟨3, 3⟩) (meth := k3m3) (c := k3c3) (by decide +kernel) rfl rfl rfl (by decide +kernel)
set_option maxRecDepth 65536 in
theorem w_c7 : (Jvm.Cond.code ({ cls := "java/util/OptionalLong", name := "<init>", desc := "(J)V" } : Jvm.MethodName) jdk_2650_method_3_code (3 : Nat) (Option.none : Option Jvm.ClassFile.FieldType)).before args0 about1 = true := code_word (m := ⟨3, 2⟩) (meth := k3m2) (c := k3c2) (by decide +kernel) rfl rfl rfl (by decide +kernel)
set_option maxRecDepth 65536 in
theorem w_c8 : (Jvm.Cond.code ({ cls := "java/util/OptionalLong", name := "getAsLong", desc := "()J" } : Jvm.MethodName) jdk_2650_method_5_code (1 : Nat) (Option.some Jvm.ClassFile.FieldType.long)).before args0 about1 = true := code_word (m := ⟨3, 4⟩) (meth := k3m4) (c := k3c4) (by decide +kernel) rfl rfl rfl (by decide +kernel)
def codes1 : List Jvm.Cond := [Jvm.Cond.code x code maxLocals ret, Jvm.Cond.code ({ cls := "com/example/rigorous_sourcing/rigoroussourcing/domain/Paging", name := "<init>", desc := "(JI)V" } : Jvm.MethodName) prog_18_method_1_code (4 : Nat) (Option.none : Option Jvm.ClassFile.FieldType), Jvm.Cond.code ({ cls := "java/lang/Object", name := "<init>", desc := "()V" } : Jvm.MethodName) object_method_1_code (1 : Nat) (Option.none : Option Jvm.ClassFile.FieldType), Jvm.Cond.code ({ cls := "com/example/rigorous_sourcing/rigoroussourcing/domain/Paging", name := "nextOffset", desc := "(J)Ljava/util/OptionalLong;" } : Jvm.MethodName) prog_18_method_7_code (5 : Nat) (Option.some (Jvm.ClassFile.FieldType.object "java/util/OptionalLong")), Jvm.Cond.code ({ cls := "java/util/OptionalLong", name := "empty", desc := "()Ljava/util/OptionalLong;" } : Jvm.MethodName) jdk_2650_method_2_code (0 : Nat) (Option.some (Jvm.ClassFile.FieldType.object "java/util/OptionalLong")), Jvm.Cond.code ({ cls := "java/util/OptionalLong", name := "isPresent", desc := "()Z" } : Jvm.MethodName) jdk_2650_method_6_code (1 : Nat) (Option.some Jvm.ClassFile.FieldType.boolean), Jvm.Cond.code ({ cls := "java/util/OptionalLong", name := "of", desc := "(J)Ljava/util/OptionalLong;" } : Jvm.MethodName) jdk_2650_method_4_code (2 : Nat) (Option.some (Jvm.ClassFile.FieldType.object "java/util/OptionalLong")), Jvm.Cond.code ({ cls := "java/util/OptionalLong", name := "<init>", desc := "(J)V" } : Jvm.MethodName) jdk_2650_method_3_code (3 : Nat) (Option.none : Option Jvm.ClassFile.FieldType), Jvm.Cond.code ({ cls := "java/util/OptionalLong", name := "getAsLong", desc := "()J" } : Jvm.MethodName) jdk_2650_method_5_code (1 : Nat) (Option.some Jvm.ClassFile.FieldType.long)]
set_option maxRecDepth 65536 in
theorem codes_eq : words1.filter isCode = codes1 := rfl
theorem w_codes : ∀ c ∈ words1.filter isCode, c.before args0 about1 = true := by
  rw [codes_eq]
  intro c hc
  simp only [codes1, List.mem_cons, List.not_mem_nil, or_false] at hc
  rcases hc with rfl | rfl | rfl | rfl | rfl | rfl | rfl | rfl | rfl
  · exact w_c0
  · exact w_c1
  · exact w_c2
  · exact w_c3
  · exact w_c4
  · exact w_c5
  · exact w_c6
  · exact w_c7
  · exact w_c8
set_option maxRecDepth 65536 in
theorem w_t1 : (words1.take 24).all (fun c => isCode c || c.before args0 about1) = true := by decide +kernel
set_option maxRecDepth 65536 in
theorem w_t2 : ((words1.drop 24).take 24).all (fun c => isCode c || c.before args0 about1) = true := by decide +kernel
set_option maxRecDepth 65536 in
theorem w_t3 : ((words1.drop 24).drop 24).all (fun c => isCode c || c.before args0 about1) = true := by decide +kernel
theorem w_tables : (allAtoms (Jvm.Cond.code x code maxLocals ret :: tables_1)).before args0 about1 = true := by
  rw [allAtoms_all]
  show words1.all (fun c => c.before args0 about1) = true
  refine all_split ?_ w_codes
  rw [← List.take_append_drop 24 words1, List.all_append, w_t1, ← List.take_append_drop 24 (words1.drop 24), List.all_append, w_t2, w_t3]
  rfl
set_option maxRecDepth 65536 in
theorem w_rest : rest_1_c.before args0 about1 = true := by decide +kernel
set_option maxRecDepth 65536 in
theorem w_case : (Jvm.Cond.and given_1 narrow_1).before args0 about1 = true := by decide +kernel
theorem w_applies : (headSpec (Jvm.Cond.code x code maxLocals ret :: tables_1) room_1).applies x e0.platform about1 = true :=
  (Spec.applies_iff w_frames).mpr ⟨w_running, w_runnable, w_alone, w_named, w_hears, w_ripe, w_room, w_tables⟩
theorem atStart : AtStart classFile x code maxLocals ret World_1 tables_1 room_1 Calls_1 rest_1 Pre_1 launch0 p0 e0 about1 theMethod args0 below0 :=
  ⟨lists_1, trivial, launch0.admits_env _ _ _, launch0.least_env, fairChoices_fair.cas, fairChoices_fair.clock, w_frames, w_args, w_heap, w_applies, trivial, w_rest, w_case⟩
end start1
theorem witness_1 : WitnessClaimed_1 := ⟨start1.p0, start1.e0, start1.about1, start1.theMethod, start1.args0, start1.below0, start1.atStart⟩
end Jvm.Pilot.@@N@@
