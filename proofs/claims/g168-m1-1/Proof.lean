import JvmDerived
import JvmDerived.Pilot.@@N@@Statement
import JvmDerived.Pilot.@@N@@Code
set_option linter.unusedVariables false
set_option linter.unusedSimpArgs false

namespace Jvm.Pilot.@@N@@
open Jvm Jvm.ClassFile Sem Op Lib Jvm.Free Jvm.Stand Jvm.LawKit Jvm.RoadKit Bundle Jvm.Pilot.@@N@@.Jvm.D
abbrev oi (x : Int32) : Slot := .val (.int x)
abbrev oa (x : Addr) : Slot := .val (.ref x)
/-- from here the run comes to its end with what P says -/
def oGo (p : Program) (e : Env) (below : List Frame) (P : Outcome → State → Prop) (T : State) (g : JFrame) : Prop := ∃ s₂ o, Steps p.tables e below (T.setTop g) s₂ ∧ s₂.status = .running ∧ Ended s₂ below o ∧ P o s₂
theorem oby {p : Program} {e : Env} {below : List Frame} {P : Outcome → State → Prop} {T T' : State} {g g' : JFrame} (k : ∀ t, Steps p.tables e below (T'.setTop g') t → Steps p.tables e below (T.setTop g) t) (h : oGo p e below P T' g') : oGo p e below P T g := by
  obtain ⟨s₂, o, h1, h2⟩ := h
  exact ⟨s₂, o, k _ h1, h2⟩
theorem ostart {p : Program} {e : Env} {below : List Frame} {P : Outcome → State → Prop} {T : State} {g g' : JFrame} (q : g = g') (h : oGo p e below P T g') : ∃ s₂ o, Steps p.tables e below (T.setTop g) s₂ ∧ s₂.status = .running ∧ Ended s₂ below o ∧ P o s₂ := by subst q; exact h
theorem oout {p : Program} {e : Env} {below : List Frame} {P : Outcome → State → Prop} {T s₂ : State} {g : JFrame} {o : Outcome} (h1 : Steps p.tables e below (T.setTop g) s₂) (h2 : s₂.status = .running) (h3 : Ended s₂ below o) (h4 : P o s₂) : oGo p e below P T g := ⟨s₂, o, h1, h2, h3, h4⟩
theorem ob {p : Program} {e : Env} {below : List Frame} {P : Outcome → State → Prop} {T : State} {g : JFrame} (T' : State) (g' : JFrame) (k : ∀ t, Steps p.tables e below (T'.setTop g') t → Steps p.tables e below (T.setTop g) t) (h : oGo p e below P T' g') : oGo p e below P T g := oby k h
theorem osuff {p : Program} {e : Env} {below : List Frame} {P : Outcome → State → Prop} {T T' : State} {g g' : JFrame} (h1 : oGo p e below P T' g' → oGo p e below P T g) (h2 : oGo p e below P T' g') : oGo p e below P T g := h1 h2
theorem ow {L : List Jvm.Cond} {Z : State} {a0 : Array Value} (hw : ∀ d ∈ L, d.before a0 Z = true) (k : Nat) {d : Jvm.Cond} (h : L[k]? = some d) : d.before a0 Z = true := hw d (List.mem_of_getElem? h)
theorem on0 {Z : State} {n0 : Nat} {h : Heap} (O : Old Z n0 h) : n0 ≤ h.size := by have h1 := O.1; have h2 := O.2.1; omega
theorem oretA {p : Program} {l : Launch} {e : Env} {R : Room} {s : State} {m : MethodId} {args : Array Value} {below : List Frame} {meth : Method} {c : Code} {T : State} {locs : List Loc} {cells slots : Nat} (X : Stand p l e R s m args below meth c T locs cells slots) (hx : p.tables.exec = Jvm.exec) {pc : Nat} {Ls : Array Slot} {w : Value} {t : FieldType} {rest : List Value} (hret : meth.sig.returnType = some t) (ht : t.isReference = true) (hw : w.isRef = true)
    (hd : decode c.code pc = .ok (.areturn, 1)) {fs : List Frame} (hl : ∀ (f : JFrame) (acts : List Action), f.method = m → f.locked = none → f.entered = [] → (doReturn e (T.setTop f) acts (some w)).1 = T.setFrames fs) :
    Steps p.tables e below (T.setTop (mkF m pc Ls (w :: rest))) (T.setFrames fs) :=
  retOut X hx hret (by cases w <;> first | (simp [Value.isRef] at hw; done) | (cases t <;> rfl)) (Or.inr (Or.inr (Or.inr (Or.inr ⟨rfl, ht, hw⟩)))) hd hl

theorem own_sta {s : State} {args : Array Value} {C n d K : String} (h : (Cond.exactly (.static C n d) K).value args s none s [] = some true) (hi : (Cond.initializedFor C n d).before args s = true ∨ ((Cond.initialized C).before args s = true ∧ (Cond.laysStatic C n d).before args s = true)) :
    ∃ a, (Term.static C n d).eval args s none [] s = some (.ref a) ∧ Sta s s.heap C n d (.ref a) ∧ Exa s s.heap a K := by
  obtain ⟨a, ev⟩ := exa_v h
  exact ⟨a, ev, Sta.start ev hi, Exa.start ev h⟩
theorem own_fldI {s : State} {args : Array Value} {t : Term} {a : Addr} {C n d : String} {k : Int32} (ev : t.eval args s none [] s = some (.ref a)) (h : (Cond.eq (.field t C n d) (.int k)).value args s none s [] = some true) : Fld s s.heap a C n d (.int k) := by
  obtain ⟨x, y, ex, ey, k1, k2⟩ := cmp_v (Or.inl h)
  have e2 : y = .int k := (Option.some.inj ((Term.int_eval k).symm.trans ey)).symm
  subst e2
  obtain ⟨z, rfl⟩ := k2
  have e3 : z = k := gotT (Cond.eq_ints ex ey) h
  subst e3
  exact Fld.start ((fld_at ev).symm.trans ex)
theorem own_fldL {s : State} {args : Array Value} {t : Term} {a : Addr} {C n d : String} {k : Int64} (ev : t.eval args s none [] s = some (.ref a)) (h : (Cond.eq (.field t C n d) (.long k)).value args s none s [] = some true) : Fld s s.heap a C n d (.long k) := by
  obtain ⟨x, y, ex, ey, k1, k2⟩ := cmp_v (Or.inl h)
  have e2 : y = .long k := by simpa [Term.eval] using ey.symm
  subst e2
  obtain ⟨z, rfl⟩ := k2
  have e3 : z = k := gotT (eq_L ex ey) h
  subst e3
  exact Fld.start ((fld_at ev).symm.trans ex)
theorem own_fldN {s : State} {args : Array Value} {t : Term} {a : Addr} {C n d : String} (ev : t.eval args s none [] s = some (.ref a)) (h : (Cond.eq (.field t C n d) .null).value args s none s [] = some true) : Fld s s.heap a C n d .null :=
  Fld.start ((fld_at ev).symm.trans (null_v h))
theorem pn_0 : plainName "java/util/Optional" = true := by first | (simp [plainName, overriddenIn]; done) | decide +kernel
theorem pn_1 : plainName "com/example/lease_over_store/leaseoverstore/lease/QueuedLeaseStore$Attempt" = true := by first | (simp [plainName, overriddenIn]; done) | decide +kernel
theorem pn_2 : plainName "com/example/lease_over_store/leaseoverstore/lease/Taken" = true := by first | (simp [plainName, overriddenIn]; done) | decide +kernel
theorem pn_3 : plainName "java/util/Objects" = true := by first | (simp [plainName, overriddenIn]; done) | decide +kernel
theorem pn_4 : plainName "com/example/lease_over_store/leaseoverstore/lease/AttemptNotTakenPinLaw" = true := by first | (simp [plainName, overriddenIn]; done) | decide +kernel
def St0 (Z : State) (w_EMPTY : Addr) : Prop := Sta Z Z.heap "java/util/Optional" "EMPTY" "Ljava/util/Optional;" (.ref w_EMPTY) ∧ Exa Z Z.heap w_EMPTY "java/util/Optional" ∧ Fld Z Z.heap w_EMPTY "java/util/Optional" "value" "Ljava/lang/Object;" .null

theorem d2_0 : decode jdk_32_method_1_code 0 = .ok (.getstatic 1, 3) := by decide +kernel
theorem d2_3 : decode jdk_32_method_1_code 3 = .ok (.astore_n 0, 1) := by decide +kernel
theorem d2_4 : decode jdk_32_method_1_code 4 = .ok (.aload_n 0, 1) := by decide +kernel
theorem d2_5 : decode jdk_32_method_1_code 5 = .ok (.areturn, 1) := by decide +kernel
def Q_rm_empty (Z : State) (w_EMPTY : Addr)  (h0 : Heap) (n0 : Nat) (v : Option Value) (h : Heap) (L : List Loc) : Prop := v = some (.ref w_EMPTY) ∧ Fr n0 L ∧ h = h0
set_option maxRecDepth 65536 in
set_option maxHeartbeats 40000000 in
theorem rm_empty (l : Launch) (Z : State) (a0 : Array Value) (hw : ∀ d ∈ tables_1, d.before a0 Z = true) (ws : List Jvm.Cond) (w_EMPTY : Addr)  (h0 : Heap) (n0 : Nat) (O0 : Old Z n0 h0) (hS : St0 Z w_EMPTY ) :
    MetFree l (⟨"java/util/Optional", "empty", "()Ljava/util/Optional;"⟩ : MethodName) (head1 (Jvm.Cond.code (⟨"java/util/Optional", "empty", "()Ljava/util/Optional;"⟩ : MethodName) jdk_32_method_1_code 1 (some (.object "java/util/Optional")) :: ws) ({ frames := 0, cells := 0, slots := 0, locals := 0 } : Room)) (fun aG UG => aG = #[] ∧ Z.Warmed39 UG.vm ∧ UG.heap = h0) (fun _ _ _ _ _ => True) (fun _ UG oG UG' => ∃ vG LG, oG = .returned vG ∧ Q_rm_empty Z w_EMPTY  h0 n0 vG UG'.heap LG ∧ FrameEnd UG oG UG' LG ({ frames := 0, cells := 0, slots := 0, locals := 0 } : Room).cells ({ frames := 0, cells := 0, slots := 0, locals := 0 } : Room).slots) := by
  refine MetFree.of_bodySF (plainFor_of_name pn_0) hisR ?_
  intro pG eG sG mG argsG belowG methG cG s₁ Bd hml0 hP hK
  obtain ⟨rfl, hZ, hh⟩ := hP
  have hx := Bd.exec
  have hby := Bd.bytes
  have hml : cG.maxLocals = 1 := hml0
  have hown : sG.vm.findClass "java/util/Optional" = some mG.cls := findClass_of_methodNamed Bd.named
  have hnm := (name_of_methodNamed Bd.named Bd.method).1
  have X0 : Stand pG l eG ({ frames := 0, cells := 0, slots := 0, locals := 0 } : Room) sG mG #[] belowG methG cG s₁ [] 0 0 := Stand.of_body Bd
  have e0 : s₁.heap = h0 := by rw [← hh, Bd.state]; rfl
  have N0 := Fr.nil n0
  have K0 := Keep.refl h0 []
  obtain ⟨S_w_EMPTY, E_w_EMPTY, F_w_EMPTY_value⟩ := (id hS : St0 Z w_EMPTY )
  refine ostart (g' := (mkF mG 0 #[.unset] [])) (by first | (simp [entryFrame, mkF, argsToLocals, Value.category]; done) | rfl) ?_
  obtain ⟨T1, X1, e1, st1⟩ := getS2 X0 hx hZ hown (host := "") (Or.inl (ow hw 10 rfl)) Via.refl e0 (S_w_EMPTY.ext O0.2) (g := (mkF mG 0 #[.unset] [])) rfl (hb hby d2_0)
  refine ob T1 (mkF mG 3 #[.unset] [(.ref w_EMPTY)]) (fun _ kk => st1 _ kk) ?_
  refine ob T1 (mkF mG 4 #[.val (.ref w_EMPTY)] []) (fun _ kk => XS.astoreN X1.here hx rfl (hb hby d2_3) rfl rfl (l' := #[.val (.ref w_EMPTY)]) rfl kk) ?_
  refine ob T1 (mkF mG 5 #[.val (.ref w_EMPTY)] [(.ref w_EMPTY)]) (fun _ kk => XS.aloadN X1.here hx rfl (hb hby d2_4) rfl rfl kk) ?_
  obtain ⟨fs, hr, hrun, hended, hW, hsame⟩ := X1.leave (v := some (.ref w_EMPTY)) (fun h => by rw [Bd.returns] at h; cases h)
  refine oout (oretA X1 hx Bd.returns rfl rfl (hb hby d2_5) hr) hrun hended ⟨_, _, rfl, ?_, ⟨_, rfl⟩, hW, hsame.mono (by decide) (by decide)⟩
  show Q_rm_empty Z w_EMPTY  h0 n0 _ T1.heap _
  rw [e1]
  exact ⟨rfl, N0, rfl⟩

theorem d3_0 : decode prog_20_method_1_code 0 = .ok (.aload_n 0, 1) := by decide +kernel
theorem d3_1 : decode prog_20_method_1_code 1 = .ok (.invokespecial 1, 3) := by decide +kernel
theorem d3_4 : decode prog_20_method_1_code 4 = .ok (.aload_n 0, 1) := by decide +kernel
theorem d3_5 : decode prog_20_method_1_code 5 = .ok (.aload_n 1, 1) := by decide +kernel
theorem d3_6 : decode prog_20_method_1_code 6 = .ok (.putfield 7, 3) := by decide +kernel
theorem d3_9 : decode prog_20_method_1_code 9 = .ok (.aload_n 0, 1) := by decide +kernel
theorem d3_10 : decode prog_20_method_1_code 10 = .ok (.lload_n 2, 1) := by decide +kernel
theorem d3_11 : decode prog_20_method_1_code 11 = .ok (.putfield 13, 3) := by decide +kernel
theorem d3_14 : decode prog_20_method_1_code 14 = .ok (.return_, 1) := by decide +kernel
def Q_rm_at (Z : State) (w_EMPTY : Addr) (a : Addr) (o : Addr) (q : Int64) (u0 : Value) (u1 : Value) (h0 : Heap) (n0 : Nat) (v : Option Value) (h : Heap) (L : List Loc) : Prop := v = none ∧ Fr n0 L ∧ Keep h0 h [a] ∧ Old Z n0 h ∧ Fld Z h a "com/example/lease_over_store/leaseoverstore/lease/QueuedLeaseStore$Attempt" "taken" "Ljava/util/Optional;" (.ref o) ∧ Fld Z h a "com/example/lease_over_store/leaseoverstore/lease/QueuedLeaseStore$Attempt" "leftMillis" "J" (.long q)
set_option maxRecDepth 65536 in
set_option maxHeartbeats 40000000 in
theorem rm_at (l : Launch) (Z : State) (a0 : Array Value) (hw : ∀ d ∈ tables_1, d.before a0 Z = true) (ws : List Jvm.Cond) (w_EMPTY : Addr) (a : Addr) (o : Addr) (q : Int64) (u0 : Value) (u1 : Value) (h0 : Heap) (n0 : Nat) (O0 : Old Z n0 h0) (hS : St0 Z w_EMPTY ) (E_a : Exa Z h0 a "com/example/lease_over_store/leaseoverstore/lease/QueuedLeaseStore$Attempt") (F_0 : Fld Z h0 a "com/example/lease_over_store/leaseoverstore/lease/QueuedLeaseStore$Attempt" "taken" "Ljava/util/Optional;" u0) (F_1 : Fld Z h0 a "com/example/lease_over_store/leaseoverstore/lease/QueuedLeaseStore$Attempt" "leftMillis" "J" u1) (n_a : n0 ≤ a) :
    MetFree l (⟨"com/example/lease_over_store/leaseoverstore/lease/QueuedLeaseStore$Attempt", "<init>", "(Ljava/util/Optional;J)V"⟩ : MethodName) (head1 (Jvm.Cond.code (⟨"com/example/lease_over_store/leaseoverstore/lease/QueuedLeaseStore$Attempt", "<init>", "(Ljava/util/Optional;J)V"⟩ : MethodName) prog_20_method_1_code 4 none :: ws) ({ frames := 1, cells := 0, slots := 0, locals := 12 } : Room)) (fun aG UG => aG = #[(.ref a), (.ref o), (.long q)] ∧ Z.Warmed39 UG.vm ∧ UG.heap = h0) (fun _ _ _ _ _ => True) (fun _ UG oG UG' => ∃ vG LG, oG = .returned vG ∧ Q_rm_at Z w_EMPTY a o q u0 u1 h0 n0 vG UG'.heap LG ∧ FrameEnd UG oG UG' LG ({ frames := 1, cells := 0, slots := 0, locals := 12 } : Room).cells ({ frames := 1, cells := 0, slots := 0, locals := 12 } : Room).slots) := by
  refine MetFree.of_bodySF (plainFor_of_name pn_1) hisR ?_
  intro pG eG sG mG argsG belowG methG cG s₁ Bd hml0 hP hK
  obtain ⟨rfl, hZ, hh⟩ := hP
  have hx := Bd.exec
  have hby := Bd.bytes
  have hml : cG.maxLocals = 4 := hml0
  have hown : sG.vm.findClass "com/example/lease_over_store/leaseoverstore/lease/QueuedLeaseStore$Attempt" = some mG.cls := findClass_of_methodNamed Bd.named
  have hnm := (name_of_methodNamed Bd.named Bd.method).1
  have X0 : Stand pG l eG ({ frames := 1, cells := 0, slots := 0, locals := 12 } : Room) sG mG #[(.ref a), (.ref o), (.long q)] belowG methG cG s₁ [] 0 0 := Stand.of_body Bd
  have e0 : s₁.heap = h0 := by rw [← hh, Bd.state]; rfl
  have N0 := Fr.nil n0
  have K0 := Keep.refl h0 [a]
  obtain ⟨S_w_EMPTY, E_w_EMPTY, F_w_EMPTY_value⟩ := (id hS : St0 Z w_EMPTY )
  refine ostart (g' := (mkF mG 0 #[.val (.ref a), .val (.ref o), .val (.long q), .second] [])) (by first | (simp [entryFrame, mkF, argsToLocals, Value.category]; done) | rfl) ?_
  refine ob s₁ (mkF mG 1 #[.val (.ref a), .val (.ref o), .val (.long q), .second] [(.ref a)]) (fun _ kk => XS.aloadN X0.here hx rfl (hb hby d3_0) rfl rfl kk) ?_
  obtain ⟨T1, X1, e1, st1⟩ := initO X0 hx hZ hown (ow hw 14 rfl) (ow hw 15 rfl) (ow hw 16 rfl) e0 (g := (mkF mG 1 #[.val (.ref a), .val (.ref o), .val (.long q), .second] [(.ref a)])) rfl (by rw [hml]; rfl) rfl (hb hby d3_1) (by decide) (W := 0) (by show 2 * 0 + _ ≤ _; exact Nat.le_of_eq rfl) (by decide)
  refine ob T1 (mkF mG 4 #[.val (.ref a), .val (.ref o), .val (.long q), .second] []) (fun _ kk => st1 _ kk) ?_
  refine ob T1 (mkF mG 5 #[.val (.ref a), .val (.ref o), .val (.long q), .second] [(.ref a)]) (fun _ kk => XS.aloadN X1.here hx rfl (hb hby d3_4) rfl rfl kk) ?_
  refine ob T1 (mkF mG 6 #[.val (.ref a), .val (.ref o), .val (.long q), .second] [(.ref o), (.ref a)]) (fun _ kk => XS.aloadN X1.here hx rfl (hb hby d3_5) rfl rfl kk) ?_
  obtain ⟨T2, h2, X2, e2, W2, st2⟩ := putF X1 hx hZ hown (host := "") (Or.inl (ow hw 17 rfl)) Via.refl e1 F_0 E_a (Or.inr ⟨(ow hw 18 rfl), rfl, hnm⟩) (ow hw 5 rfl) (ty := (.object "java/util/Optional")) (by decide) rfl rfl (g := (mkF mG 6 #[.val (.ref a), .val (.ref o), .val (.long q), .second] [(.ref o), (.ref a)])) rfl rfl (hb hby d3_6)
  have F2 := F_0.same W2
  have O2 := O0.wr W2 n_a
  have K2 := K0.wr W2 (Or.inl (List.mem_of_getElem? (i := 0) rfl))
  have N2 := Fr.snoc X2 N0 n_a
  refine ob T2 (mkF mG 9 #[.val (.ref a), .val (.ref o), .val (.long q), .second] []) (fun _ kk => st2 _ kk) ?_
  refine ob T2 (mkF mG 10 #[.val (.ref a), .val (.ref o), .val (.long q), .second] [(.ref a)]) (fun _ kk => XS.aloadN X2.here hx rfl (hb hby d3_9) rfl rfl kk) ?_
  refine ob T2 (mkF mG 11 #[.val (.ref a), .val (.ref o), .val (.long q), .second] [(.long q), (.ref a)]) (fun _ kk => XS.lloadN X2.here hx rfl (hb hby d3_10) rfl kk) ?_
  obtain ⟨T3, h3, X3, e3, W3, st3⟩ := putF X2 hx hZ hown (host := "") (Or.inl (ow hw 19 rfl)) Via.refl e2 (F_1.other W2 (Or.inr (slot_ne (Or.inr (ow hw 20 rfl)) (Or.inr (ow hw 18 rfl)) (by decide) (t := .long) (t' := (.object "java/util/Optional")) (by decide) (by decide)))) (E_a.wr W2) (Or.inr ⟨(ow hw 20 rfl), rfl, hnm⟩) (ow hw 5 rfl) (ty := .long) (by decide) rfl rfl (g := (mkF mG 11 #[.val (.ref a), .val (.ref o), .val (.long q), .second] [(.long q), (.ref a)])) rfl rfl (hb hby d3_11)
  have F3 := (F_1.other W2 (Or.inr (slot_ne (Or.inr (ow hw 20 rfl)) (Or.inr (ow hw 18 rfl)) (by decide) (t := .long) (t' := (.object "java/util/Optional")) (by decide) (by decide)))).same W3
  have O3 := O2.wr W3 n_a
  have K3 := K2.wr W3 (Or.inl (List.mem_of_getElem? (i := 0) rfl))
  have N3 := Fr.snoc X3 N2 n_a
  refine ob T3 (mkF mG 14 #[.val (.ref a), .val (.ref o), .val (.long q), .second] []) (fun _ kk => st3 _ kk) ?_
  obtain ⟨fs, hr, hrun, hended, hW, hsame⟩ := X3.leave (v := none) (fun _ => rfl)
  refine oout (X3.returnOut hx Bd.returns (hb hby d3_14) hr) hrun hended ⟨_, _, rfl, ?_, ⟨_, rfl⟩, hW, hsame.mono (by decide) (by decide)⟩
  show Q_rm_at Z w_EMPTY a o q u0 u1 h0 n0 _ T3.heap _
  rw [e3]
  exact ⟨rfl, N3, K3, O3, (F2.other W3 (Or.inr (slot_ne (Or.inr (ow hw 18 rfl)) (Or.inr (ow hw 20 rfl)) (by decide) (t := (.object "java/util/Optional")) (t' := .long) (by decide) (by decide)))), F3⟩

theorem d1_0 : decode prog_20_method_5_code 0 = .ok (.new 8, 3) := by decide +kernel
theorem d1_3 : decode prog_20_method_5_code 3 = .ok (.dup, 1) := by decide +kernel
theorem d1_4 : decode prog_20_method_5_code 4 = .ok (.invokestatic 40, 3) := by decide +kernel
theorem d1_7 : decode prog_20_method_5_code 7 = .ok (.lload_n 0, 1) := by decide +kernel
theorem d1_8 : decode prog_20_method_5_code 8 = .ok (.invokespecial 33, 3) := by decide +kernel
theorem d1_11 : decode prog_20_method_5_code 11 = .ok (.areturn, 1) := by decide +kernel
theorem pd_0 : parseMethodDescriptor "()Ljava/util/Optional;" = some ⟨[], some (.object "java/util/Optional")⟩ := by decide +kernel
theorem pd_1 : parseMethodDescriptor "(Ljava/util/Optional;J)V" = some ⟨[(.object "java/util/Optional"), .long], none⟩ := by decide +kernel
def Q_rm_nt (Z : State) (w_EMPTY : Addr) (q : Int64) (h0 : Heap) (n0 : Nat) (v : Option Value) (h : Heap) (L : List Loc) : Prop := ∃ (b0 : Addr), v = some (.ref b0) ∧ Fr n0 L ∧ Keep h0 h [] ∧ Old Z n0 h ∧ n0 ≤ b0 ∧ h0.size ≤ b0 ∧ Exa Z h b0 "com/example/lease_over_store/leaseoverstore/lease/QueuedLeaseStore$Attempt" ∧ Fld Z h b0 "com/example/lease_over_store/leaseoverstore/lease/QueuedLeaseStore$Attempt" "taken" "Ljava/util/Optional;" (.ref w_EMPTY) ∧ Fld Z h b0 "com/example/lease_over_store/leaseoverstore/lease/QueuedLeaseStore$Attempt" "leftMillis" "J" (.long q)
set_option maxRecDepth 65536 in
set_option maxHeartbeats 40000000 in
theorem rm_nt (l : Launch) (Z : State) (a0 : Array Value) (hw : ∀ d ∈ tables_1, d.before a0 Z = true) (ws : List Jvm.Cond) (w_EMPTY : Addr) (q : Int64) (h0 : Heap) (n0 : Nat) (O0 : Old Z n0 h0) (hS : St0 Z w_EMPTY ) :
    MetFree l (⟨"com/example/lease_over_store/leaseoverstore/lease/QueuedLeaseStore$Attempt", "notTaken", "(J)Lcom/example/lease_over_store/leaseoverstore/lease/QueuedLeaseStore$Attempt;"⟩ : MethodName) (head1 (Jvm.Cond.code (⟨"com/example/lease_over_store/leaseoverstore/lease/QueuedLeaseStore$Attempt", "notTaken", "(J)Lcom/example/lease_over_store/leaseoverstore/lease/QueuedLeaseStore$Attempt;"⟩ : MethodName) prog_20_method_5_code 2 (some (.object "com/example/lease_over_store/leaseoverstore/lease/QueuedLeaseStore$Attempt")) :: ws) ({ frames := 2, cells := 1, slots := 2, locals := 28 } : Room)) (fun aG UG => aG = #[(.long q)] ∧ Z.Warmed39 UG.vm ∧ UG.heap = h0) (fun _ _ _ _ _ => True) (fun _ UG oG UG' => ∃ vG LG, oG = .returned vG ∧ Q_rm_nt Z w_EMPTY q h0 n0 vG UG'.heap LG ∧ FrameEnd UG oG UG' LG ({ frames := 2, cells := 1, slots := 2, locals := 28 } : Room).cells ({ frames := 2, cells := 1, slots := 2, locals := 28 } : Room).slots) := by
  refine MetFree.of_bodySF (plainFor_of_name pn_1) hisR ?_
  intro pG eG sG mG argsG belowG methG cG s₁ Bd hml0 hP hK
  obtain ⟨rfl, hZ, hh⟩ := hP
  have hx := Bd.exec
  have hby := Bd.bytes
  have hml : cG.maxLocals = 2 := hml0
  have hown : sG.vm.findClass "com/example/lease_over_store/leaseoverstore/lease/QueuedLeaseStore$Attempt" = some mG.cls := findClass_of_methodNamed Bd.named
  have hnm := (name_of_methodNamed Bd.named Bd.method).1
  have X0 : Stand pG l eG ({ frames := 2, cells := 1, slots := 2, locals := 28 } : Room) sG mG #[(.long q)] belowG methG cG s₁ [] 0 0 := Stand.of_body Bd
  have e0 : s₁.heap = h0 := by rw [← hh, Bd.state]; rfl
  have N0 := Fr.nil n0
  have K0 := Keep.refl h0 []
  obtain ⟨S_w_EMPTY, E_w_EMPTY, F_w_EMPTY_value⟩ := (id hS : St0 Z w_EMPTY )
  refine ostart (g' := (mkF mG 0 #[.val (.long q), .second] [])) (by first | (simp [entryFrame, mkF, argsToLocals, Value.category]; done) | rfl) ?_
  obtain ⟨T1, h1, X1, e1, E1, A1, D1, _x1, st1⟩ := newO X0 hx hZ hown (ow hw 4 rfl) (ow hw 5 rfl) (ow hw 2 rfl) e0 (g := (mkF mG 0 #[.val (.long q), .second] [])) rfl (hb hby d1_0) (by decide) (by decide)
  obtain ⟨b1, g1⟩ : ∃ z, z = h0.size := ⟨_, rfl⟩
  rw [← g1] at A1 D1 st1
  have n_b1 : n0 ≤ b1 := Nat.le_trans (on0 O0) (Nat.le_of_eq g1.symm)
  have sz_b1 : h0.size ≤ b1 := Nat.le_trans K0.1 (Nat.le_of_eq g1.symm)
  have O1 := O0.ext E1
  have K1 := K0.ext E1
  have F1_18 : Fld Z h1 b1 "com/example/lease_over_store/leaseoverstore/lease/QueuedLeaseStore$Attempt" "taken" "Ljava/util/Optional;" .null := D1 (Or.inr (ow hw 18 rfl)) (ty := (.object "java/util/Optional")) (by decide)
  have F1_20 : Fld Z h1 b1 "com/example/lease_over_store/leaseoverstore/lease/QueuedLeaseStore$Attempt" "leftMillis" "J" (.long (0 : Int64)) := D1 (Or.inr (ow hw 20 rfl)) (ty := .long) (by decide)
  refine ob T1 (mkF mG 3 #[.val (.long q), .second] [(.ref b1)]) (fun _ kk => st1 _ kk) ?_
  refine ob T1 (mkF mG 4 #[.val (.long q), .second] [(.ref b1), (.ref b1)]) (fun _ kk => XS.dup X1.here hx rfl (hb hby d1_3) rfl rfl kk) ?_
  obtain ⟨_, _, ⟨T2, L2, k2, n2⟩, -, X2, ⟨Lc2, hQ2, l2, y2, z2⟩, st2⟩ := Jvm.LawKit.callS X1 hx (y := (⟨"java/util/Optional", "empty", "()Ljava/util/Optional;"⟩ : MethodName)) hown (mvT hZ (ow hw 6 rfl)) (mvT hZ (ow hw 7 rfl)) (mvT hZ (ow hw 8 rfl)) (mvT hZ (ow hw 9 rfl)) (by decide) (backOf (W := 2) (rm_empty l Z a0 hw [] w_EMPTY  h1 n0 O1 hS ) hZ (ow hw 9 rfl) (ow hw 8 rfl) (by decide) (by decide)) (g := (mkF mG 4 #[.val (.long q), .second] [(.ref b1), (.ref b1)])) rfl (by rw [hml]; rfl) (argsL := []) (rest := [(.ref b1), (.ref b1)]) (lenOf pd_0 rfl) rfl (by show 2 * 0 + _ ≤ _; exact Nat.le_of_eq rfl) (hb hby d1_4) (fun _ _ => ⟨rfl, e1, (by decide : 1 + 0 ≤ _), (by decide : 2 + 0 ≤ _)⟩)
  dsimp only [Pt.U, Pt.locs, Pt.cells, Pt.slots] at X2 l2 y2 z2 st2 hQ2
  subst l2 y2 z2
  obtain ⟨rfl, N2q, e2⟩ := hQ2
  have N2 := Fr.app N0 N2q
  refine ob T2 (mkF mG 7 #[.val (.long q), .second] [(.ref w_EMPTY), (.ref b1), (.ref b1)]) (fun _ kk => st2 _ kk) ?_
  refine ob T2 (mkF mG 8 #[.val (.long q), .second] [(.long q), (.ref w_EMPTY), (.ref b1), (.ref b1)]) (fun _ kk => XS.lloadN X2.here hx rfl (hb hby d1_7) rfl kk) ?_
  obtain ⟨_, _, ⟨T3, L3, k3, n3⟩, -, X3, ⟨Lc3, hQ3, l3, y3, z3⟩, st3⟩ := X2.specialBack hx (y := (⟨"com/example/lease_over_store/leaseoverstore/lease/QueuedLeaseStore$Attempt", "<init>", "(Ljava/util/Optional;J)V"⟩ : MethodName)) rfl hown (mvT hZ (ow hw 11 rfl)) (mvT hZ (ow hw 12 rfl)) (mvT hZ (ow hw 13 rfl)) (by decide) (backOf (W := 1) (rm_at l Z a0 hw [] w_EMPTY b1 w_EMPTY q .null (.long (0 : Int64)) h1 n0 O1 hS A1 F1_18 F1_20 n_b1) hZ (ow hw 13 rfl) (ow hw 2 rfl) (by decide) (by decide)) (g := (mkF mG 8 #[.val (.long q), .second] [(.long q), (.ref w_EMPTY), (.ref b1), (.ref b1)])) rfl (by rw [hml]; rfl) (Steps.refl _) (a := b1) (argsL := [(.ref w_EMPTY), (.long q)]) (rest := [(.ref b1)]) (lenOf pd_1 rfl) rfl (by show 2 * 0 + _ ≤ _; exact Nat.le_of_eq rfl) (hb hby d1_8) (fun _ _ => ⟨rfl, e2, (by decide : 1 + 0 ≤ _), (by decide : 2 + 0 ≤ _)⟩)
  dsimp only [Pt.U, Pt.locs, Pt.cells, Pt.slots] at X3 l3 y3 z3 st3 hQ3
  subst l3 y3 z3
  obtain ⟨h3, e3⟩ : ∃ h, T3.heap = h := ⟨_, rfl⟩
  rw [e3] at hQ3
  obtain ⟨rfl, N3q, K3q, O3, F3_0, F3_1⟩ := hQ3
  have N3 := Fr.app N2 N3q
  have K3 := K1.trans K3q (allS (Or.inr sz_b1) all0)
  refine ob T3 (mkF mG 11 #[.val (.long q), .second] [(.ref b1)]) (fun _ kk => st3.trans kk) ?_
  obtain ⟨fs, hr, hrun, hended, hW, hsame⟩ := X3.leave (v := some (.ref b1)) (fun h => by rw [Bd.returns] at h; cases h)
  refine oout (oretA X3 hx Bd.returns rfl rfl (hb hby d1_11) hr) hrun hended ⟨_, _, rfl, ?_, ⟨_, rfl⟩, hW, hsame.mono (by decide) (by decide)⟩
  show Q_rm_nt Z w_EMPTY q h0 n0 _ T3.heap _
  rw [e3]
  exact ⟨b1, rfl, N3, K3, O3, n_b1, sz_b1, (A1.keep K3q), F3_0, F3_1⟩

theorem d6_0 : decode prog_26_method_2_code 0 = .ok (.aload_n 0, 1) := by decide +kernel
theorem d6_1 : decode prog_26_method_2_code 1 = .ok (.invokespecial 7, 3) := by decide +kernel
theorem d6_4 : decode prog_26_method_2_code 4 = .ok (.aload_n 0, 1) := by decide +kernel
theorem d6_5 : decode prog_26_method_2_code 5 = .ok (.lload_n 1, 1) := by decide +kernel
theorem d6_6 : decode prog_26_method_2_code 6 = .ok (.putfield 12, 3) := by decide +kernel
theorem d6_9 : decode prog_26_method_2_code 9 = .ok (.aload_n 0, 1) := by decide +kernel
theorem d6_10 : decode prog_26_method_2_code 10 = .ok (.aload_n 3, 1) := by decide +kernel
theorem d6_11 : decode prog_26_method_2_code 11 = .ok (.putfield 16, 3) := by decide +kernel
theorem d6_14 : decode prog_26_method_2_code 14 = .ok (.aload_n 0, 1) := by decide +kernel
theorem d6_15 : decode prog_26_method_2_code 15 = .ok (.aload 4, 2) := by decide +kernel
theorem d6_17 : decode prog_26_method_2_code 17 = .ok (.putfield 20, 3) := by decide +kernel
theorem d6_20 : decode prog_26_method_2_code 20 = .ok (.return_, 1) := by decide +kernel
def Q_rm_tk3 (Z : State) (w_EMPTY : Addr) (a : Addr) (q : Int64) (u0 : Value) (u1 : Value) (u2 : Value) (h0 : Heap) (n0 : Nat) (v : Option Value) (h : Heap) (L : List Loc) : Prop := v = none ∧ Fr n0 L ∧ Keep h0 h [a] ∧ Old Z n0 h ∧ Fld Z h a "com/example/lease_over_store/leaseoverstore/lease/Taken" "token" "J" (.long q) ∧ Fld Z h a "com/example/lease_over_store/leaseoverstore/lease/Taken" "at" "Ljava/time/Instant;" .null ∧ Fld Z h a "com/example/lease_over_store/leaseoverstore/lease/Taken" "lasts" "Ljava/time/Duration;" .null
set_option maxRecDepth 65536 in
set_option maxHeartbeats 40000000 in
theorem rm_tk3 (l : Launch) (Z : State) (a0 : Array Value) (hw : ∀ d ∈ tables_1, d.before a0 Z = true) (ws : List Jvm.Cond) (w_EMPTY : Addr) (a : Addr) (q : Int64) (u0 : Value) (u1 : Value) (u2 : Value) (h0 : Heap) (n0 : Nat) (O0 : Old Z n0 h0) (hS : St0 Z w_EMPTY ) (E_a : Exa Z h0 a "com/example/lease_over_store/leaseoverstore/lease/Taken") (F_0 : Fld Z h0 a "com/example/lease_over_store/leaseoverstore/lease/Taken" "token" "J" u0) (F_1 : Fld Z h0 a "com/example/lease_over_store/leaseoverstore/lease/Taken" "at" "Ljava/time/Instant;" u1) (F_2 : Fld Z h0 a "com/example/lease_over_store/leaseoverstore/lease/Taken" "lasts" "Ljava/time/Duration;" u2) (n_a : n0 ≤ a) :
    MetFree l (⟨"com/example/lease_over_store/leaseoverstore/lease/Taken", "<init>", "(JLjava/time/Instant;Ljava/time/Duration;)V"⟩ : MethodName) (head1 (Jvm.Cond.code (⟨"com/example/lease_over_store/leaseoverstore/lease/Taken", "<init>", "(JLjava/time/Instant;Ljava/time/Duration;)V"⟩ : MethodName) prog_26_method_2_code 5 none :: ws) ({ frames := 1, cells := 0, slots := 0, locals := 12 } : Room)) (fun aG UG => aG = #[(.ref a), (.long q), .null, .null] ∧ Z.Warmed39 UG.vm ∧ UG.heap = h0) (fun _ _ _ _ _ => True) (fun _ UG oG UG' => ∃ vG LG, oG = .returned vG ∧ Q_rm_tk3 Z w_EMPTY a q u0 u1 u2 h0 n0 vG UG'.heap LG ∧ FrameEnd UG oG UG' LG ({ frames := 1, cells := 0, slots := 0, locals := 12 } : Room).cells ({ frames := 1, cells := 0, slots := 0, locals := 12 } : Room).slots) := by
  refine MetFree.of_bodySF (plainFor_of_name pn_2) hisR ?_
  intro pG eG sG mG argsG belowG methG cG s₁ Bd hml0 hP hK
  obtain ⟨rfl, hZ, hh⟩ := hP
  have hx := Bd.exec
  have hby := Bd.bytes
  have hml : cG.maxLocals = 5 := hml0
  have hown : sG.vm.findClass "com/example/lease_over_store/leaseoverstore/lease/Taken" = some mG.cls := findClass_of_methodNamed Bd.named
  have hnm := (name_of_methodNamed Bd.named Bd.method).1
  have X0 : Stand pG l eG ({ frames := 1, cells := 0, slots := 0, locals := 12 } : Room) sG mG #[(.ref a), (.long q), .null, .null] belowG methG cG s₁ [] 0 0 := Stand.of_body Bd
  have e0 : s₁.heap = h0 := by rw [← hh, Bd.state]; rfl
  have N0 := Fr.nil n0
  have K0 := Keep.refl h0 [a]
  obtain ⟨S_w_EMPTY, E_w_EMPTY, F_w_EMPTY_value⟩ := (id hS : St0 Z w_EMPTY )
  refine ostart (g' := (mkF mG 0 #[.val (.ref a), .val (.long q), .second, .val .null, .val .null] [])) (by first | (simp [entryFrame, mkF, argsToLocals, Value.category]; done) | rfl) ?_
  refine ob s₁ (mkF mG 1 #[.val (.ref a), .val (.long q), .second, .val .null, .val .null] [(.ref a)]) (fun _ kk => XS.aloadN X0.here hx rfl (hb hby d6_0) rfl rfl kk) ?_
  obtain ⟨T1, X1, e1, st1⟩ := initO X0 hx hZ hown (ow hw 30 rfl) (ow hw 15 rfl) (ow hw 16 rfl) e0 (g := (mkF mG 1 #[.val (.ref a), .val (.long q), .second, .val .null, .val .null] [(.ref a)])) rfl (by rw [hml]; rfl) rfl (hb hby d6_1) (by decide) (W := 0) (by show 2 * 0 + _ ≤ _; exact Nat.le_of_eq rfl) (by decide)
  refine ob T1 (mkF mG 4 #[.val (.ref a), .val (.long q), .second, .val .null, .val .null] []) (fun _ kk => st1 _ kk) ?_
  refine ob T1 (mkF mG 5 #[.val (.ref a), .val (.long q), .second, .val .null, .val .null] [(.ref a)]) (fun _ kk => XS.aloadN X1.here hx rfl (hb hby d6_4) rfl rfl kk) ?_
  refine ob T1 (mkF mG 6 #[.val (.ref a), .val (.long q), .second, .val .null, .val .null] [(.long q), (.ref a)]) (fun _ kk => XS.lloadN X1.here hx rfl (hb hby d6_5) rfl kk) ?_
  obtain ⟨T2, h2, X2, e2, W2, st2⟩ := putF X1 hx hZ hown (host := "") (Or.inl (ow hw 31 rfl)) Via.refl e1 F_0 E_a (Or.inr ⟨(ow hw 32 rfl), rfl, hnm⟩) (ow hw 22 rfl) (ty := .long) (by decide) rfl rfl (g := (mkF mG 6 #[.val (.ref a), .val (.long q), .second, .val .null, .val .null] [(.long q), (.ref a)])) rfl rfl (hb hby d6_6)
  have F2 := F_0.same W2
  have O2 := O0.wr W2 n_a
  have K2 := K0.wr W2 (Or.inl (List.mem_of_getElem? (i := 0) rfl))
  have N2 := Fr.snoc X2 N0 n_a
  refine ob T2 (mkF mG 9 #[.val (.ref a), .val (.long q), .second, .val .null, .val .null] []) (fun _ kk => st2 _ kk) ?_
  refine ob T2 (mkF mG 10 #[.val (.ref a), .val (.long q), .second, .val .null, .val .null] [(.ref a)]) (fun _ kk => XS.aloadN X2.here hx rfl (hb hby d6_9) rfl rfl kk) ?_
  refine ob T2 (mkF mG 11 #[.val (.ref a), .val (.long q), .second, .val .null, .val .null] [.null, (.ref a)]) (fun _ kk => XS.aloadN X2.here hx rfl (hb hby d6_10) rfl rfl kk) ?_
  obtain ⟨T3, h3, X3, e3, W3, st3⟩ := putF X2 hx hZ hown (host := "") (Or.inl (ow hw 33 rfl)) Via.refl e2 (F_1.other W2 (Or.inr (slot_ne (Or.inr (ow hw 34 rfl)) (Or.inr (ow hw 32 rfl)) (by decide) (t := (.object "java/time/Instant")) (t' := .long) (by decide) (by decide)))) (E_a.wr W2) (Or.inr ⟨(ow hw 34 rfl), rfl, hnm⟩) (ow hw 22 rfl) (ty := (.object "java/time/Instant")) (by decide) rfl rfl (g := (mkF mG 11 #[.val (.ref a), .val (.long q), .second, .val .null, .val .null] [.null, (.ref a)])) rfl rfl (hb hby d6_11)
  have F3 := (F_1.other W2 (Or.inr (slot_ne (Or.inr (ow hw 34 rfl)) (Or.inr (ow hw 32 rfl)) (by decide) (t := (.object "java/time/Instant")) (t' := .long) (by decide) (by decide)))).same W3
  have O3 := O2.wr W3 n_a
  have K3 := K2.wr W3 (Or.inl (List.mem_of_getElem? (i := 0) rfl))
  have N3 := Fr.snoc X3 N2 n_a
  refine ob T3 (mkF mG 14 #[.val (.ref a), .val (.long q), .second, .val .null, .val .null] []) (fun _ kk => st3 _ kk) ?_
  refine ob T3 (mkF mG 15 #[.val (.ref a), .val (.long q), .second, .val .null, .val .null] [(.ref a)]) (fun _ kk => XS.aloadN X3.here hx rfl (hb hby d6_14) rfl rfl kk) ?_
  refine ob T3 (mkF mG 17 #[.val (.ref a), .val (.long q), .second, .val .null, .val .null] [.null, (.ref a)]) (fun _ kk => XS.aload X3.here hx rfl (hb hby d6_15) rfl rfl kk) ?_
  obtain ⟨T4, h4, X4, e4, W4, st4⟩ := putF X3 hx hZ hown (host := "") (Or.inl (ow hw 35 rfl)) Via.refl e3 ((F_2.other W2 (Or.inr (slot_ne (Or.inr (ow hw 36 rfl)) (Or.inr (ow hw 32 rfl)) (by decide) (t := (.object "java/time/Duration")) (t' := .long) (by decide) (by decide)))).other W3 (Or.inr (slot_ne (Or.inr (ow hw 36 rfl)) (Or.inr (ow hw 34 rfl)) (by decide) (t := (.object "java/time/Duration")) (t' := (.object "java/time/Instant")) (by decide) (by decide)))) ((E_a.wr W2).wr W3) (Or.inr ⟨(ow hw 36 rfl), rfl, hnm⟩) (ow hw 22 rfl) (ty := (.object "java/time/Duration")) (by decide) rfl rfl (g := (mkF mG 17 #[.val (.ref a), .val (.long q), .second, .val .null, .val .null] [.null, (.ref a)])) rfl rfl (hb hby d6_17)
  have F4 := ((F_2.other W2 (Or.inr (slot_ne (Or.inr (ow hw 36 rfl)) (Or.inr (ow hw 32 rfl)) (by decide) (t := (.object "java/time/Duration")) (t' := .long) (by decide) (by decide)))).other W3 (Or.inr (slot_ne (Or.inr (ow hw 36 rfl)) (Or.inr (ow hw 34 rfl)) (by decide) (t := (.object "java/time/Duration")) (t' := (.object "java/time/Instant")) (by decide) (by decide)))).same W4
  have O4 := O3.wr W4 n_a
  have K4 := K3.wr W4 (Or.inl (List.mem_of_getElem? (i := 0) rfl))
  have N4 := Fr.snoc X4 N3 n_a
  refine ob T4 (mkF mG 20 #[.val (.ref a), .val (.long q), .second, .val .null, .val .null] []) (fun _ kk => st4 _ kk) ?_
  obtain ⟨fs, hr, hrun, hended, hW, hsame⟩ := X4.leave (v := none) (fun _ => rfl)
  refine oout (X4.returnOut hx Bd.returns (hb hby d6_20) hr) hrun hended ⟨_, _, rfl, ?_, ⟨_, rfl⟩, hW, hsame.mono (by decide) (by decide)⟩
  show Q_rm_tk3 Z w_EMPTY a q u0 u1 u2 h0 n0 _ T4.heap _
  rw [e4]
  exact ⟨rfl, N4, K4, O4, ((F2.other W3 (Or.inr (slot_ne (Or.inr (ow hw 32 rfl)) (Or.inr (ow hw 34 rfl)) (by decide) (t := .long) (t' := (.object "java/time/Instant")) (by decide) (by decide)))).other W4 (Or.inr (slot_ne (Or.inr (ow hw 32 rfl)) (Or.inr (ow hw 36 rfl)) (by decide) (t := .long) (t' := (.object "java/time/Duration")) (by decide) (by decide)))), (F3.other W4 (Or.inr (slot_ne (Or.inr (ow hw 34 rfl)) (Or.inr (ow hw 36 rfl)) (by decide) (t := (.object "java/time/Instant")) (t' := (.object "java/time/Duration")) (by decide) (by decide)))), F4⟩

theorem d5_0 : decode prog_26_method_1_code 0 = .ok (.aload_n 0, 1) := by decide +kernel
theorem d5_1 : decode prog_26_method_1_code 1 = .ok (.lload_n 1, 1) := by decide +kernel
theorem d5_2 : decode prog_26_method_1_code 2 = .ok (.aload_n 3, 1) := by decide +kernel
theorem d5_3 : decode prog_26_method_1_code 3 = .ok (.aconst_null, 1) := by decide +kernel
theorem d5_4 : decode prog_26_method_1_code 4 = .ok (.invokespecial 1, 3) := by decide +kernel
theorem d5_7 : decode prog_26_method_1_code 7 = .ok (.return_, 1) := by decide +kernel
theorem pd_2 : parseMethodDescriptor "(JLjava/time/Instant;Ljava/time/Duration;)V" = some ⟨[.long, (.object "java/time/Instant"), (.object "java/time/Duration")], none⟩ := by decide +kernel
def Q_rm_tk2 (Z : State) (w_EMPTY : Addr) (a : Addr) (q : Int64) (u0 : Value) (u1 : Value) (u2 : Value) (h0 : Heap) (n0 : Nat) (v : Option Value) (h : Heap) (L : List Loc) : Prop := v = none ∧ Fr n0 L ∧ Keep h0 h [a] ∧ Old Z n0 h ∧ Fld Z h a "com/example/lease_over_store/leaseoverstore/lease/Taken" "token" "J" (.long q) ∧ Fld Z h a "com/example/lease_over_store/leaseoverstore/lease/Taken" "at" "Ljava/time/Instant;" .null ∧ Fld Z h a "com/example/lease_over_store/leaseoverstore/lease/Taken" "lasts" "Ljava/time/Duration;" .null
set_option maxRecDepth 65536 in
set_option maxHeartbeats 40000000 in
theorem rm_tk2 (l : Launch) (Z : State) (a0 : Array Value) (hw : ∀ d ∈ tables_1, d.before a0 Z = true) (ws : List Jvm.Cond) (w_EMPTY : Addr) (a : Addr) (q : Int64) (u0 : Value) (u1 : Value) (u2 : Value) (h0 : Heap) (n0 : Nat) (O0 : Old Z n0 h0) (hS : St0 Z w_EMPTY ) (E_a : Exa Z h0 a "com/example/lease_over_store/leaseoverstore/lease/Taken") (F_0 : Fld Z h0 a "com/example/lease_over_store/leaseoverstore/lease/Taken" "token" "J" u0) (F_1 : Fld Z h0 a "com/example/lease_over_store/leaseoverstore/lease/Taken" "at" "Ljava/time/Instant;" u1) (F_2 : Fld Z h0 a "com/example/lease_over_store/leaseoverstore/lease/Taken" "lasts" "Ljava/time/Duration;" u2) (n_a : n0 ≤ a) :
    MetFree l (⟨"com/example/lease_over_store/leaseoverstore/lease/Taken", "<init>", "(JLjava/time/Instant;)V"⟩ : MethodName) (head1 (Jvm.Cond.code (⟨"com/example/lease_over_store/leaseoverstore/lease/Taken", "<init>", "(JLjava/time/Instant;)V"⟩ : MethodName) prog_26_method_1_code 4 none :: ws) ({ frames := 2, cells := 0, slots := 0, locals := 28 } : Room)) (fun aG UG => aG = #[(.ref a), (.long q), .null] ∧ Z.Warmed39 UG.vm ∧ UG.heap = h0) (fun _ _ _ _ _ => True) (fun _ UG oG UG' => ∃ vG LG, oG = .returned vG ∧ Q_rm_tk2 Z w_EMPTY a q u0 u1 u2 h0 n0 vG UG'.heap LG ∧ FrameEnd UG oG UG' LG ({ frames := 2, cells := 0, slots := 0, locals := 28 } : Room).cells ({ frames := 2, cells := 0, slots := 0, locals := 28 } : Room).slots) := by
  refine MetFree.of_bodySF (plainFor_of_name pn_2) hisR ?_
  intro pG eG sG mG argsG belowG methG cG s₁ Bd hml0 hP hK
  obtain ⟨rfl, hZ, hh⟩ := hP
  have hx := Bd.exec
  have hby := Bd.bytes
  have hml : cG.maxLocals = 4 := hml0
  have hown : sG.vm.findClass "com/example/lease_over_store/leaseoverstore/lease/Taken" = some mG.cls := findClass_of_methodNamed Bd.named
  have hnm := (name_of_methodNamed Bd.named Bd.method).1
  have X0 : Stand pG l eG ({ frames := 2, cells := 0, slots := 0, locals := 28 } : Room) sG mG #[(.ref a), (.long q), .null] belowG methG cG s₁ [] 0 0 := Stand.of_body Bd
  have e0 : s₁.heap = h0 := by rw [← hh, Bd.state]; rfl
  have N0 := Fr.nil n0
  have K0 := Keep.refl h0 [a]
  obtain ⟨S_w_EMPTY, E_w_EMPTY, F_w_EMPTY_value⟩ := (id hS : St0 Z w_EMPTY )
  refine ostart (g' := (mkF mG 0 #[.val (.ref a), .val (.long q), .second, .val .null] [])) (by first | (simp [entryFrame, mkF, argsToLocals, Value.category]; done) | rfl) ?_
  refine ob s₁ (mkF mG 1 #[.val (.ref a), .val (.long q), .second, .val .null] [(.ref a)]) (fun _ kk => XS.aloadN X0.here hx rfl (hb hby d5_0) rfl rfl kk) ?_
  refine ob s₁ (mkF mG 2 #[.val (.ref a), .val (.long q), .second, .val .null] [(.long q), (.ref a)]) (fun _ kk => XS.lloadN X0.here hx rfl (hb hby d5_1) rfl kk) ?_
  refine ob s₁ (mkF mG 3 #[.val (.ref a), .val (.long q), .second, .val .null] [.null, (.long q), (.ref a)]) (fun _ kk => XS.aloadN X0.here hx rfl (hb hby d5_2) rfl rfl kk) ?_
  refine ob s₁ (mkF mG 4 #[.val (.ref a), .val (.long q), .second, .val .null] [.null, .null, (.long q), (.ref a)]) (fun _ kk => XS.aconstNull X0.here hx rfl (hb hby d5_3) kk) ?_
  obtain ⟨_, _, ⟨T1, L1, k1, n1⟩, -, X1, ⟨Lc1, hQ1, l1, y1, z1⟩, st1⟩ := X0.specialBack hx (y := (⟨"com/example/lease_over_store/leaseoverstore/lease/Taken", "<init>", "(JLjava/time/Instant;Ljava/time/Duration;)V"⟩ : MethodName)) rfl hown (mvT hZ (ow hw 27 rfl)) (mvT hZ (ow hw 28 rfl)) (mvT hZ (ow hw 29 rfl)) (by decide) (backOf (W := 0) (rm_tk3 l Z a0 hw [] w_EMPTY a q u0 u1 u2 h0 n0 O0 hS E_a F_0 F_1 F_2 n_a) hZ (ow hw 29 rfl) (ow hw 23 rfl) (by decide) (by decide)) (g := (mkF mG 4 #[.val (.ref a), .val (.long q), .second, .val .null] [.null, .null, (.long q), (.ref a)])) rfl (by rw [hml]; rfl) (Steps.refl _) (a := a) (argsL := [(.long q), .null, .null]) (rest := []) (lenOf pd_2 rfl) rfl (by show 2 * 0 + _ ≤ _; exact Nat.le_of_eq rfl) (hb hby d5_4) (fun _ _ => ⟨rfl, e0, (by decide : 0 + 0 ≤ _), (by decide : 0 + 0 ≤ _)⟩)
  dsimp only [Pt.U, Pt.locs, Pt.cells, Pt.slots] at X1 l1 y1 z1 st1 hQ1
  subst l1 y1 z1
  obtain ⟨h1, e1⟩ : ∃ h, T1.heap = h := ⟨_, rfl⟩
  rw [e1] at hQ1
  obtain ⟨rfl, N1q, K1q, O1, F1_0, F1_1, F1_2⟩ := hQ1
  have N1 := Fr.app N0 N1q
  have K1 := K0.trans K1q (allS (Or.inl (List.mem_of_getElem? (i := 0) rfl)) all0)
  refine ob T1 (mkF mG 7 #[.val (.ref a), .val (.long q), .second, .val .null] []) (fun _ kk => st1.trans kk) ?_
  obtain ⟨fs, hr, hrun, hended, hW, hsame⟩ := X1.leave (v := none) (fun _ => rfl)
  refine oout (X1.returnOut hx Bd.returns (hb hby d5_7) hr) hrun hended ⟨_, _, rfl, ?_, ⟨_, rfl⟩, hW, hsame.mono (by decide) (by decide)⟩
  show Q_rm_tk2 Z w_EMPTY a q u0 u1 u2 h0 n0 _ T1.heap _
  rw [e1]
  exact ⟨rfl, N1, K1, O1, F1_0, F1_1, F1_2⟩

theorem d9_0 : decode jdk_31_method_10_code 0 = .ok (.aload_n 0, 1) := by decide +kernel
theorem d9_1 : decode jdk_31_method_10_code 1 = .ok (.ifnonnull 11, 3) := by decide +kernel
theorem d9_12 : decode jdk_31_method_10_code 12 = .ok (.aload_n 0, 1) := by decide +kernel
theorem d9_13 : decode jdk_31_method_10_code 13 = .ok (.areturn, 1) := by decide +kernel
def Q_rm_rn (Z : State) (w_EMPTY : Addr) (o : Addr) (h0 : Heap) (n0 : Nat) (v : Option Value) (h : Heap) (L : List Loc) : Prop := v = some (.ref o) ∧ Fr n0 L ∧ h = h0
set_option maxRecDepth 65536 in
set_option maxHeartbeats 40000000 in
theorem rm_rn (l : Launch) (Z : State) (a0 : Array Value) (hw : ∀ d ∈ tables_1, d.before a0 Z = true) (ws : List Jvm.Cond) (w_EMPTY : Addr) (o : Addr) (h0 : Heap) (n0 : Nat) (O0 : Old Z n0 h0) (hS : St0 Z w_EMPTY ) :
    MetFree l (⟨"java/util/Objects", "requireNonNull", "(Ljava/lang/Object;)Ljava/lang/Object;"⟩ : MethodName) (head1 (Jvm.Cond.code (⟨"java/util/Objects", "requireNonNull", "(Ljava/lang/Object;)Ljava/lang/Object;"⟩ : MethodName) jdk_31_method_10_code 1 (some (.object "java/lang/Object")) :: ws) ({ frames := 0, cells := 0, slots := 0, locals := 0 } : Room)) (fun aG UG => aG = #[(.ref o)] ∧ Z.Warmed39 UG.vm ∧ UG.heap = h0) (fun _ _ _ _ _ => True) (fun _ UG oG UG' => ∃ vG LG, oG = .returned vG ∧ Q_rm_rn Z w_EMPTY o h0 n0 vG UG'.heap LG ∧ FrameEnd UG oG UG' LG ({ frames := 0, cells := 0, slots := 0, locals := 0 } : Room).cells ({ frames := 0, cells := 0, slots := 0, locals := 0 } : Room).slots) := by
  refine MetFree.of_bodySF (plainFor_of_name pn_3) hisR ?_
  intro pG eG sG mG argsG belowG methG cG s₁ Bd hml0 hP hK
  obtain ⟨rfl, hZ, hh⟩ := hP
  have hx := Bd.exec
  have hby := Bd.bytes
  have hml : cG.maxLocals = 1 := hml0
  have hown : sG.vm.findClass "java/util/Objects" = some mG.cls := findClass_of_methodNamed Bd.named
  have hnm := (name_of_methodNamed Bd.named Bd.method).1
  have X0 : Stand pG l eG ({ frames := 0, cells := 0, slots := 0, locals := 0 } : Room) sG mG #[(.ref o)] belowG methG cG s₁ [] 0 0 := Stand.of_body Bd
  have e0 : s₁.heap = h0 := by rw [← hh, Bd.state]; rfl
  have N0 := Fr.nil n0
  have K0 := Keep.refl h0 []
  obtain ⟨S_w_EMPTY, E_w_EMPTY, F_w_EMPTY_value⟩ := (id hS : St0 Z w_EMPTY )
  refine ostart (g' := (mkF mG 0 #[.val (.ref o)] [])) (by first | (simp [entryFrame, mkF, argsToLocals, Value.category]; done) | rfl) ?_
  refine ob s₁ (mkF mG 1 #[.val (.ref o)] [(.ref o)]) (fun _ kk => XS.aloadN X0.here hx rfl (hb hby d9_0) rfl rfl kk) ?_
  refine ob s₁ (mkF mG 12 #[.val (.ref o)] []) (fun _ kk => XS.ifnonnullYes X0.here hx rfl (pc0 := 1) (pc' := 12) rfl (hb hby d9_1) rfl (by decide) (by decide) kk) ?_
  refine ob s₁ (mkF mG 13 #[.val (.ref o)] [(.ref o)]) (fun _ kk => XS.aloadN X0.here hx rfl (hb hby d9_12) rfl rfl kk) ?_
  obtain ⟨fs, hr, hrun, hended, hW, hsame⟩ := X0.leave (v := some (.ref o)) (fun h => by rw [Bd.returns] at h; cases h)
  refine oout (oretA X0 hx Bd.returns rfl rfl (hb hby d9_13) hr) hrun hended ⟨_, _, rfl, ?_, ⟨_, rfl⟩, hW, hsame.mono (by decide) (by decide)⟩
  show Q_rm_rn Z w_EMPTY o h0 n0 _ s₁.heap _
  rw [e0]
  exact ⟨rfl, N0, rfl⟩

theorem d10_0 : decode jdk_32_method_2_code 0 = .ok (.aload_n 0, 1) := by decide +kernel
theorem d10_1 : decode jdk_32_method_2_code 1 = .ok (.invokespecial 7, 3) := by decide +kernel
theorem d10_4 : decode jdk_32_method_2_code 4 = .ok (.aload_n 0, 1) := by decide +kernel
theorem d10_5 : decode jdk_32_method_2_code 5 = .ok (.aload_n 1, 1) := by decide +kernel
theorem d10_6 : decode jdk_32_method_2_code 6 = .ok (.putfield 13, 3) := by decide +kernel
theorem d10_9 : decode jdk_32_method_2_code 9 = .ok (.return_, 1) := by decide +kernel
def Q_rm_opi (Z : State) (w_EMPTY : Addr) (a : Addr) (o : Addr) (u0 : Value) (h0 : Heap) (n0 : Nat) (v : Option Value) (h : Heap) (L : List Loc) : Prop := v = none ∧ Fr n0 L ∧ Keep h0 h [a] ∧ Old Z n0 h ∧ Fld Z h a "java/util/Optional" "value" "Ljava/lang/Object;" (.ref o)
set_option maxRecDepth 65536 in
set_option maxHeartbeats 40000000 in
theorem rm_opi (l : Launch) (Z : State) (a0 : Array Value) (hw : ∀ d ∈ tables_1, d.before a0 Z = true) (ws : List Jvm.Cond) (w_EMPTY : Addr) (a : Addr) (o : Addr) (u0 : Value) (h0 : Heap) (n0 : Nat) (O0 : Old Z n0 h0) (hS : St0 Z w_EMPTY ) (E_a : Exa Z h0 a "java/util/Optional") (F_0 : Fld Z h0 a "java/util/Optional" "value" "Ljava/lang/Object;" u0) (n_a : n0 ≤ a) :
    MetFree l (⟨"java/util/Optional", "<init>", "(Ljava/lang/Object;)V"⟩ : MethodName) (head1 (Jvm.Cond.code (⟨"java/util/Optional", "<init>", "(Ljava/lang/Object;)V"⟩ : MethodName) jdk_32_method_2_code 2 none :: ws) ({ frames := 1, cells := 0, slots := 0, locals := 12 } : Room)) (fun aG UG => aG = #[(.ref a), (.ref o)] ∧ Z.Warmed39 UG.vm ∧ UG.heap = h0) (fun _ _ _ _ _ => True) (fun _ UG oG UG' => ∃ vG LG, oG = .returned vG ∧ Q_rm_opi Z w_EMPTY a o u0 h0 n0 vG UG'.heap LG ∧ FrameEnd UG oG UG' LG ({ frames := 1, cells := 0, slots := 0, locals := 12 } : Room).cells ({ frames := 1, cells := 0, slots := 0, locals := 12 } : Room).slots) := by
  refine MetFree.of_bodySF (plainFor_of_name pn_0) hisR ?_
  intro pG eG sG mG argsG belowG methG cG s₁ Bd hml0 hP hK
  obtain ⟨rfl, hZ, hh⟩ := hP
  have hx := Bd.exec
  have hby := Bd.bytes
  have hml : cG.maxLocals = 2 := hml0
  have hown : sG.vm.findClass "java/util/Optional" = some mG.cls := findClass_of_methodNamed Bd.named
  have hnm := (name_of_methodNamed Bd.named Bd.method).1
  have X0 : Stand pG l eG ({ frames := 1, cells := 0, slots := 0, locals := 12 } : Room) sG mG #[(.ref a), (.ref o)] belowG methG cG s₁ [] 0 0 := Stand.of_body Bd
  have e0 : s₁.heap = h0 := by rw [← hh, Bd.state]; rfl
  have N0 := Fr.nil n0
  have K0 := Keep.refl h0 [a]
  obtain ⟨S_w_EMPTY, E_w_EMPTY, F_w_EMPTY_value⟩ := (id hS : St0 Z w_EMPTY )
  refine ostart (g' := (mkF mG 0 #[.val (.ref a), .val (.ref o)] [])) (by first | (simp [entryFrame, mkF, argsToLocals, Value.category]; done) | rfl) ?_
  refine ob s₁ (mkF mG 1 #[.val (.ref a), .val (.ref o)] [(.ref a)]) (fun _ kk => XS.aloadN X0.here hx rfl (hb hby d10_0) rfl rfl kk) ?_
  obtain ⟨T1, X1, e1, st1⟩ := initO X0 hx hZ hown (ow hw 53 rfl) (ow hw 15 rfl) (ow hw 16 rfl) e0 (g := (mkF mG 1 #[.val (.ref a), .val (.ref o)] [(.ref a)])) rfl (by rw [hml]; rfl) rfl (hb hby d10_1) (by decide) (W := 0) (by show 2 * 0 + _ ≤ _; exact Nat.le_of_eq rfl) (by decide)
  refine ob T1 (mkF mG 4 #[.val (.ref a), .val (.ref o)] []) (fun _ kk => st1 _ kk) ?_
  refine ob T1 (mkF mG 5 #[.val (.ref a), .val (.ref o)] [(.ref a)]) (fun _ kk => XS.aloadN X1.here hx rfl (hb hby d10_4) rfl rfl kk) ?_
  refine ob T1 (mkF mG 6 #[.val (.ref a), .val (.ref o)] [(.ref o), (.ref a)]) (fun _ kk => XS.aloadN X1.here hx rfl (hb hby d10_5) rfl rfl kk) ?_
  obtain ⟨T2, h2, X2, e2, W2, st2⟩ := putF X1 hx hZ hown (host := "") (Or.inl (ow hw 54 rfl)) Via.refl e1 F_0 E_a (Or.inr ⟨(ow hw 55 rfl), rfl, hnm⟩) (ow hw 44 rfl) (ty := (.object "java/lang/Object")) (by decide) rfl rfl (g := (mkF mG 6 #[.val (.ref a), .val (.ref o)] [(.ref o), (.ref a)])) rfl rfl (hb hby d10_6)
  have F2 := F_0.same W2
  have O2 := O0.wr W2 n_a
  have K2 := K0.wr W2 (Or.inl (List.mem_of_getElem? (i := 0) rfl))
  have N2 := Fr.snoc X2 N0 n_a
  refine ob T2 (mkF mG 9 #[.val (.ref a), .val (.ref o)] []) (fun _ kk => st2 _ kk) ?_
  obtain ⟨fs, hr, hrun, hended, hW, hsame⟩ := X2.leave (v := none) (fun _ => rfl)
  refine oout (X2.returnOut hx Bd.returns (hb hby d10_9) hr) hrun hended ⟨_, _, rfl, ?_, ⟨_, rfl⟩, hW, hsame.mono (by decide) (by decide)⟩
  show Q_rm_opi Z w_EMPTY a o u0 h0 n0 _ T2.heap _
  rw [e2]
  exact ⟨rfl, N2, K2, O2, F2⟩

theorem d8_0 : decode jdk_32_method_3_code 0 = .ok (.new 2, 3) := by decide +kernel
theorem d8_3 : decode jdk_32_method_3_code 3 = .ok (.dup, 1) := by decide +kernel
theorem d8_4 : decode jdk_32_method_3_code 4 = .ok (.aload_n 0, 1) := by decide +kernel
theorem d8_5 : decode jdk_32_method_3_code 5 = .ok (.invokestatic 17, 3) := by decide +kernel
theorem d8_8 : decode jdk_32_method_3_code 8 = .ok (.invokespecial 23, 3) := by decide +kernel
theorem d8_11 : decode jdk_32_method_3_code 11 = .ok (.areturn, 1) := by decide +kernel
theorem pd_3 : parseMethodDescriptor "(Ljava/lang/Object;)Ljava/lang/Object;" = some ⟨[(.object "java/lang/Object")], some (.object "java/lang/Object")⟩ := by decide +kernel
theorem pd_4 : parseMethodDescriptor "(Ljava/lang/Object;)V" = some ⟨[(.object "java/lang/Object")], none⟩ := by decide +kernel
def Q_rm_of (Z : State) (w_EMPTY : Addr) (o : Addr) (h0 : Heap) (n0 : Nat) (v : Option Value) (h : Heap) (L : List Loc) : Prop := ∃ (b0 : Addr), v = some (.ref b0) ∧ Fr n0 L ∧ Keep h0 h [] ∧ Old Z n0 h ∧ n0 ≤ b0 ∧ h0.size ≤ b0 ∧ Exa Z h b0 "java/util/Optional" ∧ Fld Z h b0 "java/util/Optional" "value" "Ljava/lang/Object;" (.ref o)
set_option maxRecDepth 65536 in
set_option maxHeartbeats 40000000 in
theorem rm_of (l : Launch) (Z : State) (a0 : Array Value) (hw : ∀ d ∈ tables_1, d.before a0 Z = true) (ws : List Jvm.Cond) (w_EMPTY : Addr) (o : Addr) (h0 : Heap) (n0 : Nat) (O0 : Old Z n0 h0) (hS : St0 Z w_EMPTY ) :
    MetFree l (⟨"java/util/Optional", "of", "(Ljava/lang/Object;)Ljava/util/Optional;"⟩ : MethodName) (head1 (Jvm.Cond.code (⟨"java/util/Optional", "of", "(Ljava/lang/Object;)Ljava/util/Optional;"⟩ : MethodName) jdk_32_method_3_code 1 (some (.object "java/util/Optional")) :: ws) ({ frames := 2, cells := 1, slots := 1, locals := 26 } : Room)) (fun aG UG => aG = #[(.ref o)] ∧ Z.Warmed39 UG.vm ∧ UG.heap = h0) (fun _ _ _ _ _ => True) (fun _ UG oG UG' => ∃ vG LG, oG = .returned vG ∧ Q_rm_of Z w_EMPTY o h0 n0 vG UG'.heap LG ∧ FrameEnd UG oG UG' LG ({ frames := 2, cells := 1, slots := 1, locals := 26 } : Room).cells ({ frames := 2, cells := 1, slots := 1, locals := 26 } : Room).slots) := by
  refine MetFree.of_bodySF (plainFor_of_name pn_0) hisR ?_
  intro pG eG sG mG argsG belowG methG cG s₁ Bd hml0 hP hK
  obtain ⟨rfl, hZ, hh⟩ := hP
  have hx := Bd.exec
  have hby := Bd.bytes
  have hml : cG.maxLocals = 1 := hml0
  have hown : sG.vm.findClass "java/util/Optional" = some mG.cls := findClass_of_methodNamed Bd.named
  have hnm := (name_of_methodNamed Bd.named Bd.method).1
  have X0 : Stand pG l eG ({ frames := 2, cells := 1, slots := 1, locals := 26 } : Room) sG mG #[(.ref o)] belowG methG cG s₁ [] 0 0 := Stand.of_body Bd
  have e0 : s₁.heap = h0 := by rw [← hh, Bd.state]; rfl
  have N0 := Fr.nil n0
  have K0 := Keep.refl h0 []
  obtain ⟨S_w_EMPTY, E_w_EMPTY, F_w_EMPTY_value⟩ := (id hS : St0 Z w_EMPTY )
  refine ostart (g' := (mkF mG 0 #[.val (.ref o)] [])) (by first | (simp [entryFrame, mkF, argsToLocals, Value.category]; done) | rfl) ?_
  obtain ⟨T1, h1, X1, e1, E1, A1, D1, _x1, st1⟩ := newO X0 hx hZ hown (ow hw 43 rfl) (ow hw 44 rfl) (ow hw 8 rfl) e0 (g := (mkF mG 0 #[.val (.ref o)] [])) rfl (hb hby d8_0) (by decide) (by decide)
  obtain ⟨b1, g1⟩ : ∃ z, z = h0.size := ⟨_, rfl⟩
  rw [← g1] at A1 D1 st1
  have n_b1 : n0 ≤ b1 := Nat.le_trans (on0 O0) (Nat.le_of_eq g1.symm)
  have sz_b1 : h0.size ≤ b1 := Nat.le_trans K0.1 (Nat.le_of_eq g1.symm)
  have O1 := O0.ext E1
  have K1 := K0.ext E1
  have F1_55 : Fld Z h1 b1 "java/util/Optional" "value" "Ljava/lang/Object;" .null := D1 (Or.inr (ow hw 55 rfl)) (ty := (.object "java/lang/Object")) (by decide)
  refine ob T1 (mkF mG 3 #[.val (.ref o)] [(.ref b1)]) (fun _ kk => st1 _ kk) ?_
  refine ob T1 (mkF mG 4 #[.val (.ref o)] [(.ref b1), (.ref b1)]) (fun _ kk => XS.dup X1.here hx rfl (hb hby d8_3) rfl rfl kk) ?_
  refine ob T1 (mkF mG 5 #[.val (.ref o)] [(.ref o), (.ref b1), (.ref b1)]) (fun _ kk => XS.aloadN X1.here hx rfl (hb hby d8_4) rfl rfl kk) ?_
  obtain ⟨_, _, ⟨T2, L2, k2, n2⟩, -, X2, ⟨Lc2, hQ2, l2, y2, z2⟩, st2⟩ := Jvm.LawKit.callS X1 hx (y := (⟨"java/util/Objects", "requireNonNull", "(Ljava/lang/Object;)Ljava/lang/Object;"⟩ : MethodName)) hown (mvT hZ (ow hw 45 rfl)) (mvT hZ (ow hw 46 rfl)) (mvT hZ (ow hw 47 rfl)) (mvT hZ (ow hw 48 rfl)) (by decide) (backOf (W := 2) (rm_rn l Z a0 hw [] w_EMPTY o h1 n0 O1 hS ) hZ (ow hw 48 rfl) (ow hw 47 rfl) (by decide) (by decide)) (g := (mkF mG 5 #[.val (.ref o)] [(.ref o), (.ref b1), (.ref b1)])) rfl (by rw [hml]; rfl) (argsL := [(.ref o)]) (rest := [(.ref b1), (.ref b1)]) (lenOf pd_3 rfl) rfl (by show 2 * 0 + _ ≤ _; exact Nat.le_of_eq rfl) (hb hby d8_5) (fun _ _ => ⟨rfl, e1, (by decide : 1 + 0 ≤ _), (by decide : 1 + 0 ≤ _)⟩)
  dsimp only [Pt.U, Pt.locs, Pt.cells, Pt.slots] at X2 l2 y2 z2 st2 hQ2
  subst l2 y2 z2
  obtain ⟨rfl, N2q, e2⟩ := hQ2
  have N2 := Fr.app N0 N2q
  refine ob T2 (mkF mG 8 #[.val (.ref o)] [(.ref o), (.ref b1), (.ref b1)]) (fun _ kk => st2 _ kk) ?_
  obtain ⟨_, _, ⟨T3, L3, k3, n3⟩, -, X3, ⟨Lc3, hQ3, l3, y3, z3⟩, st3⟩ := X2.specialBack hx (y := (⟨"java/util/Optional", "<init>", "(Ljava/lang/Object;)V"⟩ : MethodName)) rfl hown (mvT hZ (ow hw 49 rfl)) (mvT hZ (ow hw 50 rfl)) (mvT hZ (ow hw 52 rfl)) (by decide) (backOf (W := 1) (rm_opi l Z a0 hw [] w_EMPTY b1 o .null h1 n0 O1 hS A1 F1_55 n_b1) hZ (ow hw 52 rfl) (ow hw 8 rfl) (by decide) (by decide)) (g := (mkF mG 8 #[.val (.ref o)] [(.ref o), (.ref b1), (.ref b1)])) rfl (by rw [hml]; rfl) (Steps.refl _) (a := b1) (argsL := [(.ref o)]) (rest := [(.ref b1)]) (lenOf pd_4 rfl) rfl (by show 2 * 0 + _ ≤ _; exact Nat.le_of_eq rfl) (hb hby d8_8) (fun _ _ => ⟨rfl, e2, (by decide : 1 + 0 ≤ _), (by decide : 1 + 0 ≤ _)⟩)
  dsimp only [Pt.U, Pt.locs, Pt.cells, Pt.slots] at X3 l3 y3 z3 st3 hQ3
  subst l3 y3 z3
  obtain ⟨h3, e3⟩ : ∃ h, T3.heap = h := ⟨_, rfl⟩
  rw [e3] at hQ3
  obtain ⟨rfl, N3q, K3q, O3, F3_0⟩ := hQ3
  have N3 := Fr.app N2 N3q
  have K3 := K1.trans K3q (allS (Or.inr sz_b1) all0)
  refine ob T3 (mkF mG 11 #[.val (.ref o)] [(.ref b1)]) (fun _ kk => st3.trans kk) ?_
  obtain ⟨fs, hr, hrun, hended, hW, hsame⟩ := X3.leave (v := some (.ref b1)) (fun h => by rw [Bd.returns] at h; cases h)
  refine oout (oretA X3 hx Bd.returns rfl rfl (hb hby d8_11) hr) hrun hended ⟨_, _, rfl, ?_, ⟨_, rfl⟩, hW, hsame.mono (by decide) (by decide)⟩
  show Q_rm_of Z w_EMPTY o h0 n0 _ T3.heap _
  rw [e3]
  exact ⟨b1, rfl, N3, K3, O3, n_b1, sz_b1, (A1.keep K3q), F3_0⟩

theorem d7_0 : decode prog_20_method_3_code 0 = .ok (.new 8, 3) := by decide +kernel
theorem d7_3 : decode prog_20_method_3_code 3 = .ok (.dup, 1) := by decide +kernel
theorem d7_4 : decode prog_20_method_3_code 4 = .ok (.aload_n 0, 1) := by decide +kernel
theorem d7_5 : decode prog_20_method_3_code 5 = .ok (.invokestatic 25, 3) := by decide +kernel
theorem d7_8 : decode prog_20_method_3_code 8 = .ok (.ldc2_w 31, 3) := by decide +kernel
theorem d7_11 : decode prog_20_method_3_code 11 = .ok (.invokespecial 33, 3) := by decide +kernel
theorem d7_14 : decode prog_20_method_3_code 14 = .ok (.areturn, 1) := by decide +kernel
theorem pd_5 : parseMethodDescriptor "(Ljava/lang/Object;)Ljava/util/Optional;" = some ⟨[(.object "java/lang/Object")], some (.object "java/util/Optional")⟩ := by decide +kernel
def Q_rm_taken (Z : State) (w_EMPTY : Addr) (o : Addr) (h0 : Heap) (n0 : Nat) (v : Option Value) (h : Heap) (L : List Loc) : Prop := ∃ (b0 : Addr) (b1 : Addr), v = some (.ref b0) ∧ Fr n0 L ∧ Keep h0 h [] ∧ Old Z n0 h ∧ n0 ≤ b0 ∧ n0 ≤ b1 ∧ h0.size ≤ b0 ∧ h0.size ≤ b1 ∧ Exa Z h b0 "com/example/lease_over_store/leaseoverstore/lease/QueuedLeaseStore$Attempt" ∧ Fld Z h b0 "com/example/lease_over_store/leaseoverstore/lease/QueuedLeaseStore$Attempt" "taken" "Ljava/util/Optional;" (.ref b1) ∧ Fld Z h b0 "com/example/lease_over_store/leaseoverstore/lease/QueuedLeaseStore$Attempt" "leftMillis" "J" (.long (-1 : Int64)) ∧ Exa Z h b1 "java/util/Optional" ∧ Fld Z h b1 "java/util/Optional" "value" "Ljava/lang/Object;" (.ref o)
set_option maxRecDepth 65536 in
set_option maxHeartbeats 40000000 in
theorem rm_taken (l : Launch) (Z : State) (a0 : Array Value) (hw : ∀ d ∈ tables_1, d.before a0 Z = true) (ws : List Jvm.Cond) (w_EMPTY : Addr) (o : Addr) (h0 : Heap) (n0 : Nat) (O0 : Old Z n0 h0) (hS : St0 Z w_EMPTY ) :
    MetFree l (⟨"com/example/lease_over_store/leaseoverstore/lease/QueuedLeaseStore$Attempt", "taken", "(Lcom/example/lease_over_store/leaseoverstore/lease/Taken;)Lcom/example/lease_over_store/leaseoverstore/lease/QueuedLeaseStore$Attempt;"⟩ : MethodName) (head1 (Jvm.Cond.code (⟨"com/example/lease_over_store/leaseoverstore/lease/QueuedLeaseStore$Attempt", "taken", "(Lcom/example/lease_over_store/leaseoverstore/lease/Taken;)Lcom/example/lease_over_store/leaseoverstore/lease/QueuedLeaseStore$Attempt;"⟩ : MethodName) prog_20_method_3_code 1 (some (.object "com/example/lease_over_store/leaseoverstore/lease/QueuedLeaseStore$Attempt")) :: ws) ({ frames := 3, cells := 2, slots := 3, locals := 40 } : Room)) (fun aG UG => aG = #[(.ref o)] ∧ Z.Warmed39 UG.vm ∧ UG.heap = h0) (fun _ _ _ _ _ => True) (fun _ UG oG UG' => ∃ vG LG, oG = .returned vG ∧ Q_rm_taken Z w_EMPTY o h0 n0 vG UG'.heap LG ∧ FrameEnd UG oG UG' LG ({ frames := 3, cells := 2, slots := 3, locals := 40 } : Room).cells ({ frames := 3, cells := 2, slots := 3, locals := 40 } : Room).slots) := by
  refine MetFree.of_bodySF (plainFor_of_name pn_1) hisR ?_
  intro pG eG sG mG argsG belowG methG cG s₁ Bd hml0 hP hK
  obtain ⟨rfl, hZ, hh⟩ := hP
  have hx := Bd.exec
  have hby := Bd.bytes
  have hml : cG.maxLocals = 1 := hml0
  have hown : sG.vm.findClass "com/example/lease_over_store/leaseoverstore/lease/QueuedLeaseStore$Attempt" = some mG.cls := findClass_of_methodNamed Bd.named
  have hnm := (name_of_methodNamed Bd.named Bd.method).1
  have X0 : Stand pG l eG ({ frames := 3, cells := 2, slots := 3, locals := 40 } : Room) sG mG #[(.ref o)] belowG methG cG s₁ [] 0 0 := Stand.of_body Bd
  have e0 : s₁.heap = h0 := by rw [← hh, Bd.state]; rfl
  have N0 := Fr.nil n0
  have K0 := Keep.refl h0 []
  obtain ⟨S_w_EMPTY, E_w_EMPTY, F_w_EMPTY_value⟩ := (id hS : St0 Z w_EMPTY )
  refine ostart (g' := (mkF mG 0 #[.val (.ref o)] [])) (by first | (simp [entryFrame, mkF, argsToLocals, Value.category]; done) | rfl) ?_
  obtain ⟨T1, h1, X1, e1, E1, A1, D1, _x1, st1⟩ := newO X0 hx hZ hown (ow hw 4 rfl) (ow hw 5 rfl) (ow hw 2 rfl) e0 (g := (mkF mG 0 #[.val (.ref o)] [])) rfl (hb hby d7_0) (by decide) (by decide)
  obtain ⟨b1, g1⟩ : ∃ z, z = h0.size := ⟨_, rfl⟩
  rw [← g1] at A1 D1 st1
  have n_b1 : n0 ≤ b1 := Nat.le_trans (on0 O0) (Nat.le_of_eq g1.symm)
  have sz_b1 : h0.size ≤ b1 := Nat.le_trans K0.1 (Nat.le_of_eq g1.symm)
  have O1 := O0.ext E1
  have K1 := K0.ext E1
  have F1_18 : Fld Z h1 b1 "com/example/lease_over_store/leaseoverstore/lease/QueuedLeaseStore$Attempt" "taken" "Ljava/util/Optional;" .null := D1 (Or.inr (ow hw 18 rfl)) (ty := (.object "java/util/Optional")) (by decide)
  have F1_20 : Fld Z h1 b1 "com/example/lease_over_store/leaseoverstore/lease/QueuedLeaseStore$Attempt" "leftMillis" "J" (.long (0 : Int64)) := D1 (Or.inr (ow hw 20 rfl)) (ty := .long) (by decide)
  refine ob T1 (mkF mG 3 #[.val (.ref o)] [(.ref b1)]) (fun _ kk => st1 _ kk) ?_
  refine ob T1 (mkF mG 4 #[.val (.ref o)] [(.ref b1), (.ref b1)]) (fun _ kk => XS.dup X1.here hx rfl (hb hby d7_3) rfl rfl kk) ?_
  refine ob T1 (mkF mG 5 #[.val (.ref o)] [(.ref o), (.ref b1), (.ref b1)]) (fun _ kk => XS.aloadN X1.here hx rfl (hb hby d7_4) rfl rfl kk) ?_
  obtain ⟨_, _, ⟨T2, L2, k2, n2⟩, -, X2, ⟨Lc2, hQ2, l2, y2, z2⟩, st2⟩ := Jvm.LawKit.callS X1 hx (y := (⟨"java/util/Optional", "of", "(Ljava/lang/Object;)Ljava/util/Optional;"⟩ : MethodName)) hown (mvT hZ (ow hw 40 rfl)) (mvT hZ (ow hw 41 rfl)) (mvT hZ (ow hw 8 rfl)) (mvT hZ (ow hw 42 rfl)) (by decide) (backOf (W := 2) (rm_of l Z a0 hw [] w_EMPTY o h1 n0 O1 hS ) hZ (ow hw 42 rfl) (ow hw 8 rfl) (by decide) (by decide)) (g := (mkF mG 5 #[.val (.ref o)] [(.ref o), (.ref b1), (.ref b1)])) rfl (by rw [hml]; rfl) (argsL := [(.ref o)]) (rest := [(.ref b1), (.ref b1)]) (lenOf pd_5 rfl) rfl (by show 2 * 0 + _ ≤ _; exact Nat.le_of_eq rfl) (hb hby d7_5) (fun _ _ => ⟨rfl, e1, (by decide : 1 + 1 ≤ _), (by decide : 2 + 1 ≤ _)⟩)
  dsimp only [Pt.U, Pt.locs, Pt.cells, Pt.slots] at X2 l2 y2 z2 st2 hQ2
  subst l2 y2 z2
  obtain ⟨h2, e2⟩ : ∃ h, T2.heap = h := ⟨_, rfl⟩
  rw [e2] at hQ2
  obtain ⟨b0_2, rfl, N2q, K2q, O2, n_b0_2, z_b0_2, F2_0, F2_1⟩ := hQ2
  have N2 := Fr.app N0 N2q
  have sz_b0_2 : h0.size ≤ b0_2 := Nat.le_trans K1.1 z_b0_2
  have ne_b1_b0_2 : b1 ≠ b0_2 := Nat.ne_of_lt (Nat.lt_of_lt_of_le A1.lt z_b0_2)
  have K2 := K1.trans K2q all0
  refine ob T2 (mkF mG 8 #[.val (.ref o)] [(.ref b0_2), (.ref b1), (.ref b1)]) (fun _ kk => st2 _ kk) ?_
  refine ob T2 (mkF mG 11 #[.val (.ref o)] [(.long (-1 : Int64)), (.ref b0_2), (.ref b1), (.ref b1)]) (fun _ kk => X2.ldc2Long hx hown (mvT hZ (ow hw 56 rfl)) (g := (mkF mG 8 #[.val (.ref o)] [(.ref b0_2), (.ref b1), (.ref b1)])) rfl (hb hby d7_8) _ kk) ?_
  obtain ⟨_, _, ⟨T3, L3, k3, n3⟩, -, X3, ⟨Lc3, hQ3, l3, y3, z3⟩, st3⟩ := X2.specialBack hx (y := (⟨"com/example/lease_over_store/leaseoverstore/lease/QueuedLeaseStore$Attempt", "<init>", "(Ljava/util/Optional;J)V"⟩ : MethodName)) rfl hown (mvT hZ (ow hw 11 rfl)) (mvT hZ (ow hw 12 rfl)) (mvT hZ (ow hw 13 rfl)) (by decide) (backOf (W := 1) (rm_at l Z a0 hw [] w_EMPTY b1 b0_2 (-1 : Int64) .null (.long (0 : Int64)) h2 n0 O2 hS (A1.keep K2q) (F1_18.keep K2q nin0) (F1_20.keep K2q nin0) n_b1) hZ (ow hw 13 rfl) (ow hw 2 rfl) (by decide) (by decide)) (g := (mkF mG 11 #[.val (.ref o)] [(.long (-1 : Int64)), (.ref b0_2), (.ref b1), (.ref b1)])) rfl (by rw [hml]; rfl) (Steps.refl _) (a := b1) (argsL := [(.ref b0_2), (.long (-1 : Int64))]) (rest := [(.ref b1)]) (lenOf pd_1 rfl) rfl (by show 2 * 0 + _ ≤ _; exact Nat.le_of_eq rfl) (hb hby d7_11) (fun _ _ => ⟨rfl, e2, (by decide : 2 + 0 ≤ _), (by decide : 3 + 0 ≤ _)⟩)
  dsimp only [Pt.U, Pt.locs, Pt.cells, Pt.slots] at X3 l3 y3 z3 st3 hQ3
  subst l3 y3 z3
  obtain ⟨h3, e3⟩ : ∃ h, T3.heap = h := ⟨_, rfl⟩
  rw [e3] at hQ3
  obtain ⟨rfl, N3q, K3q, O3, F3_0, F3_1⟩ := hQ3
  have N3 := Fr.app N2 N3q
  have K3 := K2.trans K3q (allS (Or.inr sz_b1) all0)
  refine ob T3 (mkF mG 14 #[.val (.ref o)] [(.ref b1)]) (fun _ kk => st3.trans kk) ?_
  obtain ⟨fs, hr, hrun, hended, hW, hsame⟩ := X3.leave (v := some (.ref b1)) (fun h => by rw [Bd.returns] at h; cases h)
  refine oout (oretA X3 hx Bd.returns rfl rfl (hb hby d7_14) hr) hrun hended ⟨_, _, rfl, ?_, ⟨_, rfl⟩, hW, hsame.mono (by decide) (by decide)⟩
  show Q_rm_taken Z w_EMPTY o h0 n0 _ T3.heap _
  rw [e3]
  exact ⟨b1, b0_2, rfl, N3, K3, O3, n_b1, n_b0_2, sz_b1, sz_b0_2, ((A1.keep K2q).keep K3q), F3_0, F3_1, (F2_0.keep K3q), (F2_1.keep K3q (ninS (Ne.symm ne_b1_b0_2) nin0))⟩

theorem d12_0 : decode jdk_32_method_6_code 0 = .ok (.aload_n 0, 1) := by decide +kernel
theorem d12_1 : decode jdk_32_method_6_code 1 = .ok (.getfield 13, 3) := by decide +kernel
theorem d12_4 : decode jdk_32_method_6_code 4 = .ok (.ifnull 7, 3) := by decide +kernel
theorem d12_11 : decode jdk_32_method_6_code 11 = .ok (.iconst 0, 1) := by decide +kernel
theorem d12_12 : decode jdk_32_method_6_code 12 = .ok (.ireturn, 1) := by decide +kernel
def Q_rm_ipE (Z : State) (w_EMPTY : Addr)  (h0 : Heap) (n0 : Nat) (v : Option Value) (h : Heap) (L : List Loc) : Prop := v = some (.int (0 : Int32)) ∧ Fr n0 L ∧ h = h0
set_option maxRecDepth 65536 in
set_option maxHeartbeats 40000000 in
theorem rm_ipE (l : Launch) (Z : State) (a0 : Array Value) (hw : ∀ d ∈ tables_1, d.before a0 Z = true) (ws : List Jvm.Cond) (w_EMPTY : Addr)  (h0 : Heap) (n0 : Nat) (O0 : Old Z n0 h0) (hS : St0 Z w_EMPTY ) :
    MetFree l (⟨"java/util/Optional", "isPresent", "()Z"⟩ : MethodName) (head1 (Jvm.Cond.code (⟨"java/util/Optional", "isPresent", "()Z"⟩ : MethodName) jdk_32_method_6_code 1 (some .boolean) :: ws) ({ frames := 0, cells := 0, slots := 0, locals := 0 } : Room)) (fun aG UG => aG = #[(.ref w_EMPTY)] ∧ Z.Warmed39 UG.vm ∧ UG.heap = h0) (fun _ _ _ _ _ => True) (fun _ UG oG UG' => ∃ vG LG, oG = .returned vG ∧ Q_rm_ipE Z w_EMPTY  h0 n0 vG UG'.heap LG ∧ FrameEnd UG oG UG' LG ({ frames := 0, cells := 0, slots := 0, locals := 0 } : Room).cells ({ frames := 0, cells := 0, slots := 0, locals := 0 } : Room).slots) := by
  refine MetFree.of_bodySF (plainFor_of_name pn_0) hisR ?_
  intro pG eG sG mG argsG belowG methG cG s₁ Bd hml0 hP hK
  obtain ⟨rfl, hZ, hh⟩ := hP
  have hx := Bd.exec
  have hby := Bd.bytes
  have hml : cG.maxLocals = 1 := hml0
  have hown : sG.vm.findClass "java/util/Optional" = some mG.cls := findClass_of_methodNamed Bd.named
  have hnm := (name_of_methodNamed Bd.named Bd.method).1
  have X0 : Stand pG l eG ({ frames := 0, cells := 0, slots := 0, locals := 0 } : Room) sG mG #[(.ref w_EMPTY)] belowG methG cG s₁ [] 0 0 := Stand.of_body Bd
  have e0 : s₁.heap = h0 := by rw [← hh, Bd.state]; rfl
  have N0 := Fr.nil n0
  have K0 := Keep.refl h0 []
  obtain ⟨S_w_EMPTY, E_w_EMPTY, F_w_EMPTY_value⟩ := (id hS : St0 Z w_EMPTY )
  refine ostart (g' := (mkF mG 0 #[.val (.ref w_EMPTY)] [])) (by first | (simp [entryFrame, mkF, argsToLocals, Value.category]; done) | rfl) ?_
  refine ob s₁ (mkF mG 1 #[.val (.ref w_EMPTY)] [(.ref w_EMPTY)]) (fun _ kk => XS.aloadN X0.here hx rfl (hb hby d12_0) rfl rfl kk) ?_
  obtain ⟨T1, X1, e1, st1⟩ := getF X0 hx hZ hown (host := "") (Or.inl (ow hw 54 rfl)) Via.refl e0 (F_w_EMPTY_value.ext O0.2) (g := (mkF mG 1 #[.val (.ref w_EMPTY)] [(.ref w_EMPTY)])) rfl rfl (hb hby d12_1)
  refine ob T1 (mkF mG 4 #[.val (.ref w_EMPTY)] [.null]) (fun _ kk => st1 _ kk) ?_
  refine ob T1 (mkF mG 11 #[.val (.ref w_EMPTY)] []) (fun _ kk => XS.ifnullYes X1.here hx rfl (pc0 := 4) (pc' := 11) rfl (hb hby d12_4) rfl (by decide) (by decide) kk) ?_
  refine ob T1 (mkF mG 12 #[.val (.ref w_EMPTY)] [(.int (0 : Int32))]) (fun _ kk => XS.iconst X1.here hx rfl (hb hby d12_11) kk) ?_
  obtain ⟨fs, hr, hrun, hended, hW, hsame⟩ := X1.leave (v := some (.int (0 : Int32))) (fun h => by rw [Bd.returns] at h; cases h)
  refine oout (retN X1 hx (t := .boolean) Bd.returns (by simp) (hb hby d12_12) hr) hrun hended ⟨_, _, rfl, ?_, ⟨_, rfl⟩, hW, hsame.mono (by decide) (by decide)⟩
  show Q_rm_ipE Z w_EMPTY  h0 n0 _ T1.heap _
  rw [e1]
  exact ⟨rfl, N0, rfl⟩

theorem d12_7 : decode jdk_32_method_6_code 7 = .ok (.iconst 1, 1) := by decide +kernel
theorem d12_8 : decode jdk_32_method_6_code 8 = .ok (.goto 4, 3) := by decide +kernel
def Q_rm_ipS (Z : State) (w_EMPTY : Addr) (a : Addr) (o : Addr) (h0 : Heap) (n0 : Nat) (v : Option Value) (h : Heap) (L : List Loc) : Prop := v = some (.int (1 : Int32)) ∧ Fr n0 L ∧ h = h0
set_option maxRecDepth 65536 in
set_option maxHeartbeats 40000000 in
theorem rm_ipS (l : Launch) (Z : State) (a0 : Array Value) (hw : ∀ d ∈ tables_1, d.before a0 Z = true) (ws : List Jvm.Cond) (w_EMPTY : Addr) (a : Addr) (o : Addr) (h0 : Heap) (n0 : Nat) (O0 : Old Z n0 h0) (hS : St0 Z w_EMPTY ) (F_a : Fld Z h0 a "java/util/Optional" "value" "Ljava/lang/Object;" (.ref o)) :
    MetFree l (⟨"java/util/Optional", "isPresent", "()Z"⟩ : MethodName) (head1 (Jvm.Cond.code (⟨"java/util/Optional", "isPresent", "()Z"⟩ : MethodName) jdk_32_method_6_code 1 (some .boolean) :: ws) ({ frames := 0, cells := 0, slots := 0, locals := 0 } : Room)) (fun aG UG => aG = #[(.ref a)] ∧ Z.Warmed39 UG.vm ∧ UG.heap = h0) (fun _ _ _ _ _ => True) (fun _ UG oG UG' => ∃ vG LG, oG = .returned vG ∧ Q_rm_ipS Z w_EMPTY a o h0 n0 vG UG'.heap LG ∧ FrameEnd UG oG UG' LG ({ frames := 0, cells := 0, slots := 0, locals := 0 } : Room).cells ({ frames := 0, cells := 0, slots := 0, locals := 0 } : Room).slots) := by
  refine MetFree.of_bodySF (plainFor_of_name pn_0) hisR ?_
  intro pG eG sG mG argsG belowG methG cG s₁ Bd hml0 hP hK
  obtain ⟨rfl, hZ, hh⟩ := hP
  have hx := Bd.exec
  have hby := Bd.bytes
  have hml : cG.maxLocals = 1 := hml0
  have hown : sG.vm.findClass "java/util/Optional" = some mG.cls := findClass_of_methodNamed Bd.named
  have hnm := (name_of_methodNamed Bd.named Bd.method).1
  have X0 : Stand pG l eG ({ frames := 0, cells := 0, slots := 0, locals := 0 } : Room) sG mG #[(.ref a)] belowG methG cG s₁ [] 0 0 := Stand.of_body Bd
  have e0 : s₁.heap = h0 := by rw [← hh, Bd.state]; rfl
  have N0 := Fr.nil n0
  have K0 := Keep.refl h0 []
  obtain ⟨S_w_EMPTY, E_w_EMPTY, F_w_EMPTY_value⟩ := (id hS : St0 Z w_EMPTY )
  refine ostart (g' := (mkF mG 0 #[.val (.ref a)] [])) (by first | (simp [entryFrame, mkF, argsToLocals, Value.category]; done) | rfl) ?_
  refine ob s₁ (mkF mG 1 #[.val (.ref a)] [(.ref a)]) (fun _ kk => XS.aloadN X0.here hx rfl (hb hby d12_0) rfl rfl kk) ?_
  obtain ⟨T1, X1, e1, st1⟩ := getF X0 hx hZ hown (host := "") (Or.inl (ow hw 54 rfl)) Via.refl e0 F_a (g := (mkF mG 1 #[.val (.ref a)] [(.ref a)])) rfl rfl (hb hby d12_1)
  refine ob T1 (mkF mG 4 #[.val (.ref a)] [(.ref o)]) (fun _ kk => st1 _ kk) ?_
  refine ob T1 (mkF mG 7 #[.val (.ref a)] []) (fun _ kk => XS.ifnullNo X1.here hx rfl (hb hby d12_4) rfl kk) ?_
  refine ob T1 (mkF mG 8 #[.val (.ref a)] [(.int (1 : Int32))]) (fun _ kk => XS.iconst X1.here hx rfl (hb hby d12_7) kk) ?_
  refine ob T1 (mkF mG 12 #[.val (.ref a)] [(.int (1 : Int32))]) (fun _ kk => XS.goto X1.here hx rfl (pc0 := 8) (pc' := 12) rfl (hb hby d12_8) (by decide) (by decide) kk) ?_
  obtain ⟨fs, hr, hrun, hended, hW, hsame⟩ := X1.leave (v := some (.int (1 : Int32))) (fun h => by rw [Bd.returns] at h; cases h)
  refine oout (retN X1 hx (t := .boolean) Bd.returns (by simp) (hb hby d12_12) hr) hrun hended ⟨_, _, rfl, ?_, ⟨_, rfl⟩, hW, hsame.mono (by decide) (by decide)⟩
  show Q_rm_ipS Z w_EMPTY a o h0 n0 _ T1.heap _
  rw [e1]
  exact ⟨rfl, N0, rfl⟩

theorem d11_0 : decode prog_20_method_4_code 0 = .ok (.aload_n 0, 1) := by decide +kernel
theorem d11_1 : decode prog_20_method_4_code 1 = .ok (.getfield 7, 3) := by decide +kernel
theorem d11_4 : decode prog_20_method_4_code 4 = .ok (.invokevirtual 36, 3) := by decide +kernel
theorem d11_7 : decode prog_20_method_4_code 7 = .ok (.ireturn, 1) := by decide +kernel
theorem pd_6 : parseMethodDescriptor "()Z" = some ⟨[], some .boolean⟩ := by decide +kernel
def Q_rm_itE (Z : State) (w_EMPTY : Addr) (a : Addr) (h0 : Heap) (n0 : Nat) (v : Option Value) (h : Heap) (L : List Loc) : Prop := v = some (.int (0 : Int32)) ∧ Fr n0 L ∧ h = h0
set_option maxRecDepth 65536 in
set_option maxHeartbeats 40000000 in
theorem rm_itE (l : Launch) (Z : State) (a0 : Array Value) (hw : ∀ d ∈ tables_1, d.before a0 Z = true) (ws : List Jvm.Cond) (w_EMPTY : Addr) (a : Addr) (h0 : Heap) (n0 : Nat) (O0 : Old Z n0 h0) (hS : St0 Z w_EMPTY ) (F_a : Fld Z h0 a "com/example/lease_over_store/leaseoverstore/lease/QueuedLeaseStore$Attempt" "taken" "Ljava/util/Optional;" (.ref w_EMPTY)) :
    MetFree l (⟨"com/example/lease_over_store/leaseoverstore/lease/QueuedLeaseStore$Attempt", "isTaken", "()Z"⟩ : MethodName) (head1 (Jvm.Cond.code (⟨"com/example/lease_over_store/leaseoverstore/lease/QueuedLeaseStore$Attempt", "isTaken", "()Z"⟩ : MethodName) prog_20_method_4_code 1 (some .boolean) :: ws) ({ frames := 1, cells := 0, slots := 0, locals := 12 } : Room)) (fun aG UG => aG = #[(.ref a)] ∧ Z.Warmed39 UG.vm ∧ UG.heap = h0) (fun _ _ _ _ _ => True) (fun _ UG oG UG' => ∃ vG LG, oG = .returned vG ∧ Q_rm_itE Z w_EMPTY a h0 n0 vG UG'.heap LG ∧ FrameEnd UG oG UG' LG ({ frames := 1, cells := 0, slots := 0, locals := 12 } : Room).cells ({ frames := 1, cells := 0, slots := 0, locals := 12 } : Room).slots) := by
  refine MetFree.of_bodySF (plainFor_of_name pn_1) hisR ?_
  intro pG eG sG mG argsG belowG methG cG s₁ Bd hml0 hP hK
  obtain ⟨rfl, hZ, hh⟩ := hP
  have hx := Bd.exec
  have hby := Bd.bytes
  have hml : cG.maxLocals = 1 := hml0
  have hown : sG.vm.findClass "com/example/lease_over_store/leaseoverstore/lease/QueuedLeaseStore$Attempt" = some mG.cls := findClass_of_methodNamed Bd.named
  have hnm := (name_of_methodNamed Bd.named Bd.method).1
  have X0 : Stand pG l eG ({ frames := 1, cells := 0, slots := 0, locals := 12 } : Room) sG mG #[(.ref a)] belowG methG cG s₁ [] 0 0 := Stand.of_body Bd
  have e0 : s₁.heap = h0 := by rw [← hh, Bd.state]; rfl
  have N0 := Fr.nil n0
  have K0 := Keep.refl h0 []
  obtain ⟨S_w_EMPTY, E_w_EMPTY, F_w_EMPTY_value⟩ := (id hS : St0 Z w_EMPTY )
  refine ostart (g' := (mkF mG 0 #[.val (.ref a)] [])) (by first | (simp [entryFrame, mkF, argsToLocals, Value.category]; done) | rfl) ?_
  refine ob s₁ (mkF mG 1 #[.val (.ref a)] [(.ref a)]) (fun _ kk => XS.aloadN X0.here hx rfl (hb hby d11_0) rfl rfl kk) ?_
  obtain ⟨T1, X1, e1, st1⟩ := getF X0 hx hZ hown (host := "") (Or.inl (ow hw 17 rfl)) Via.refl e0 F_a (g := (mkF mG 1 #[.val (.ref a)] [(.ref a)])) rfl rfl (hb hby d11_1)
  refine ob T1 (mkF mG 4 #[.val (.ref a)] [(.ref w_EMPTY)]) (fun _ kk => st1 _ kk) ?_
  obtain ⟨cq2, kq2, q2a, q2b, q2c⟩ := isOf hZ e1 (E_w_EMPTY.ext O0.2)
  obtain ⟨_, _, ⟨T2, L2, k2, n2⟩, -, X2, ⟨Lc2, hQ2, l2, y2, z2⟩, st2⟩ := X1.virtualBack hx (y := (⟨"java/util/Optional", "isPresent", "()Z"⟩ : MethodName)) (z := (⟨"java/util/Optional", "isPresent", "()Z"⟩ : MethodName)) hown (mvT hZ (ow hw 62 rfl)) (mvT hZ (ow hw 63 rfl)) (notFace_of_selects (args := #[]) (mvT hZ (ow hw 65 rfl))) (mvT hZ (ow hw 65 rfl)) (mvT hZ (ow hw 64 rfl)) (by decide) (backOf (W := 0) (rm_ipE l Z a0 hw [] w_EMPTY  h0 n0 O0 hS ) hZ (ow hw 66 rfl) (ow hw 8 rfl) (by decide) (by decide)) q2a q2c (g := (mkF mG 4 #[.val (.ref a)] [(.ref w_EMPTY)])) rfl (by rw [hml]; rfl) (Steps.refl _) (argsL := []) (rest := []) (lenOf pd_6 rfl) rfl (by show 2 * 0 + _ ≤ _; exact Nat.le_of_eq rfl) (hb hby d11_4) (fun _ _ => ⟨rfl, e1, (by decide : 0 + 0 ≤ _), (by decide : 0 + 0 ≤ _)⟩)
  dsimp only [Pt.U, Pt.locs, Pt.cells, Pt.slots] at X2 l2 y2 z2 st2 hQ2
  subst l2 y2 z2
  obtain ⟨rfl, N2q, e2⟩ := hQ2
  have N2 := Fr.app N0 N2q
  refine ob T2 (mkF mG 7 #[.val (.ref a)] [(.int (0 : Int32))]) (fun _ kk => st2.trans kk) ?_
  obtain ⟨fs, hr, hrun, hended, hW, hsame⟩ := X2.leave (v := some (.int (0 : Int32))) (fun h => by rw [Bd.returns] at h; cases h)
  refine oout (retN X2 hx (t := .boolean) Bd.returns (by simp) (hb hby d11_7) hr) hrun hended ⟨_, _, rfl, ?_, ⟨_, rfl⟩, hW, hsame.mono (by decide) (by decide)⟩
  show Q_rm_itE Z w_EMPTY a h0 n0 _ T2.heap _
  rw [e2]
  exact ⟨rfl, N2, rfl⟩

def Q_rm_itS (Z : State) (w_EMPTY : Addr) (a : Addr) (o : Addr) (t : Addr) (h0 : Heap) (n0 : Nat) (v : Option Value) (h : Heap) (L : List Loc) : Prop := v = some (.int (1 : Int32)) ∧ Fr n0 L ∧ h = h0
set_option maxRecDepth 65536 in
set_option maxHeartbeats 40000000 in
theorem rm_itS (l : Launch) (Z : State) (a0 : Array Value) (hw : ∀ d ∈ tables_1, d.before a0 Z = true) (ws : List Jvm.Cond) (w_EMPTY : Addr) (a : Addr) (o : Addr) (t : Addr) (h0 : Heap) (n0 : Nat) (O0 : Old Z n0 h0) (hS : St0 Z w_EMPTY ) (F_a : Fld Z h0 a "com/example/lease_over_store/leaseoverstore/lease/QueuedLeaseStore$Attempt" "taken" "Ljava/util/Optional;" (.ref o)) (E_o : Exa Z h0 o "java/util/Optional") (F_o : Fld Z h0 o "java/util/Optional" "value" "Ljava/lang/Object;" (.ref t)) :
    MetFree l (⟨"com/example/lease_over_store/leaseoverstore/lease/QueuedLeaseStore$Attempt", "isTaken", "()Z"⟩ : MethodName) (head1 (Jvm.Cond.code (⟨"com/example/lease_over_store/leaseoverstore/lease/QueuedLeaseStore$Attempt", "isTaken", "()Z"⟩ : MethodName) prog_20_method_4_code 1 (some .boolean) :: ws) ({ frames := 1, cells := 0, slots := 0, locals := 12 } : Room)) (fun aG UG => aG = #[(.ref a)] ∧ Z.Warmed39 UG.vm ∧ UG.heap = h0) (fun _ _ _ _ _ => True) (fun _ UG oG UG' => ∃ vG LG, oG = .returned vG ∧ Q_rm_itS Z w_EMPTY a o t h0 n0 vG UG'.heap LG ∧ FrameEnd UG oG UG' LG ({ frames := 1, cells := 0, slots := 0, locals := 12 } : Room).cells ({ frames := 1, cells := 0, slots := 0, locals := 12 } : Room).slots) := by
  refine MetFree.of_bodySF (plainFor_of_name pn_1) hisR ?_
  intro pG eG sG mG argsG belowG methG cG s₁ Bd hml0 hP hK
  obtain ⟨rfl, hZ, hh⟩ := hP
  have hx := Bd.exec
  have hby := Bd.bytes
  have hml : cG.maxLocals = 1 := hml0
  have hown : sG.vm.findClass "com/example/lease_over_store/leaseoverstore/lease/QueuedLeaseStore$Attempt" = some mG.cls := findClass_of_methodNamed Bd.named
  have hnm := (name_of_methodNamed Bd.named Bd.method).1
  have X0 : Stand pG l eG ({ frames := 1, cells := 0, slots := 0, locals := 12 } : Room) sG mG #[(.ref a)] belowG methG cG s₁ [] 0 0 := Stand.of_body Bd
  have e0 : s₁.heap = h0 := by rw [← hh, Bd.state]; rfl
  have N0 := Fr.nil n0
  have K0 := Keep.refl h0 []
  obtain ⟨S_w_EMPTY, E_w_EMPTY, F_w_EMPTY_value⟩ := (id hS : St0 Z w_EMPTY )
  refine ostart (g' := (mkF mG 0 #[.val (.ref a)] [])) (by first | (simp [entryFrame, mkF, argsToLocals, Value.category]; done) | rfl) ?_
  refine ob s₁ (mkF mG 1 #[.val (.ref a)] [(.ref a)]) (fun _ kk => XS.aloadN X0.here hx rfl (hb hby d11_0) rfl rfl kk) ?_
  obtain ⟨T1, X1, e1, st1⟩ := getF X0 hx hZ hown (host := "") (Or.inl (ow hw 17 rfl)) Via.refl e0 F_a (g := (mkF mG 1 #[.val (.ref a)] [(.ref a)])) rfl rfl (hb hby d11_1)
  refine ob T1 (mkF mG 4 #[.val (.ref a)] [(.ref o)]) (fun _ kk => st1 _ kk) ?_
  obtain ⟨cq2, kq2, q2a, q2b, q2c⟩ := isOf hZ e1 E_o
  obtain ⟨_, _, ⟨T2, L2, k2, n2⟩, -, X2, ⟨Lc2, hQ2, l2, y2, z2⟩, st2⟩ := X1.virtualBack hx (y := (⟨"java/util/Optional", "isPresent", "()Z"⟩ : MethodName)) (z := (⟨"java/util/Optional", "isPresent", "()Z"⟩ : MethodName)) hown (mvT hZ (ow hw 62 rfl)) (mvT hZ (ow hw 63 rfl)) (notFace_of_selects (args := #[]) (mvT hZ (ow hw 65 rfl))) (mvT hZ (ow hw 65 rfl)) (mvT hZ (ow hw 64 rfl)) (by decide) (backOf (W := 0) (rm_ipS l Z a0 hw [] w_EMPTY o t h0 n0 O0 hS F_o) hZ (ow hw 66 rfl) (ow hw 8 rfl) (by decide) (by decide)) q2a q2c (g := (mkF mG 4 #[.val (.ref a)] [(.ref o)])) rfl (by rw [hml]; rfl) (Steps.refl _) (argsL := []) (rest := []) (lenOf pd_6 rfl) rfl (by show 2 * 0 + _ ≤ _; exact Nat.le_of_eq rfl) (hb hby d11_4) (fun _ _ => ⟨rfl, e1, (by decide : 0 + 0 ≤ _), (by decide : 0 + 0 ≤ _)⟩)
  dsimp only [Pt.U, Pt.locs, Pt.cells, Pt.slots] at X2 l2 y2 z2 st2 hQ2
  subst l2 y2 z2
  obtain ⟨rfl, N2q, e2⟩ := hQ2
  have N2 := Fr.app N0 N2q
  refine ob T2 (mkF mG 7 #[.val (.ref a)] [(.int (1 : Int32))]) (fun _ kk => st2.trans kk) ?_
  obtain ⟨fs, hr, hrun, hended, hW, hsame⟩ := X2.leave (v := some (.int (1 : Int32))) (fun h => by rw [Bd.returns] at h; cases h)
  refine oout (retN X2 hx (t := .boolean) Bd.returns (by simp) (hb hby d11_7) hr) hrun hended ⟨_, _, rfl, ?_, ⟨_, rfl⟩, hW, hsame.mono (by decide) (by decide)⟩
  show Q_rm_itS Z w_EMPTY a o t h0 n0 _ T2.heap _
  rw [e2]
  exact ⟨rfl, N2, rfl⟩

theorem pd_7 : parseMethodDescriptor "(J)Lcom/example/lease_over_store/leaseoverstore/lease/QueuedLeaseStore$Attempt;" = some ⟨[.long], some (.object "com/example/lease_over_store/leaseoverstore/lease/QueuedLeaseStore$Attempt")⟩ := by decide +kernel
theorem pd_8 : parseMethodDescriptor "(JLjava/time/Instant;)V" = some ⟨[.long, (.object "java/time/Instant")], none⟩ := by decide +kernel
theorem pd_9 : parseMethodDescriptor "(Lcom/example/lease_over_store/leaseoverstore/lease/Taken;)Lcom/example/lease_over_store/leaseoverstore/lease/QueuedLeaseStore$Attempt;" = some ⟨[(.object "com/example/lease_over_store/leaseoverstore/lease/Taken")], some (.object "com/example/lease_over_store/leaseoverstore/lease/QueuedLeaseStore$Attempt")⟩ := by decide +kernel
def Q_rm0 (Z : State) (w_EMPTY : Addr) (q0 : Int64) (q1 : Int64) (h0 : Heap) (n0 : Nat) (v : Option Value) (h : Heap) (L : List Loc) : Prop := v = some (.int (1 : Int32)) ∧ Fr n0 L
set_option maxRecDepth 65536 in
set_option maxHeartbeats 40000000 in
theorem rm0 (l : Launch) (Z : State) (a0 : Array Value) (hw : ∀ d ∈ tables_1, d.before a0 Z = true) (ws : List Jvm.Cond) (w_EMPTY : Addr) (q0 : Int64) (q1 : Int64) (h0 : Heap) (n0 : Nat) (O0 : Old Z n0 h0) (hS : St0 Z w_EMPTY ) :
    MetFree l x (head1 (Jvm.Cond.code x code maxLocals ret :: ws) room_1) (fun aG UG => aG = #[(.long q0), (.long q1)] ∧ Z.Warmed39 UG.vm ∧ UG.heap = h0) (fun _ _ _ _ _ => True) (fun _ UG oG UG' => ∃ vG LG, oG = .returned vG ∧ Q_rm0 Z w_EMPTY q0 q1 h0 n0 vG UG'.heap LG ∧ FrameEnd UG oG UG' LG 16 128) := by
  refine MetFree.of_bodySF (plainFor_of_name pn_4) hisR ?_
  intro pG eG sG mG argsG belowG methG cG s₁ Bd hml0 hP hK
  obtain ⟨rfl, hZ, hh⟩ := hP
  have hx := Bd.exec
  have hby := Bd.bytes
  have hml : cG.maxLocals = 6 := hml0
  have hown : sG.vm.findClass "com/example/lease_over_store/leaseoverstore/lease/AttemptNotTakenPinLaw" = some mG.cls := findClass_of_methodNamed Bd.named
  have hnm := (name_of_methodNamed Bd.named Bd.method).1
  have X0 : Stand pG l eG room_1 sG mG #[(.long q0), (.long q1)] belowG methG cG s₁ [] 0 0 := Stand.of_body Bd
  have e0 : s₁.heap = h0 := by rw [← hh, Bd.state]; rfl
  have N0 := Fr.nil n0
  have K0 := Keep.refl h0 []
  obtain ⟨S_w_EMPTY, E_w_EMPTY, F_w_EMPTY_value⟩ := (id hS : St0 Z w_EMPTY )
  refine ostart (g' := (mkF mG 0 #[.val (.long q0), .second, .val (.long q1), .second, .unset, .unset] [])) (by first | (simp [entryFrame, mkF, argsToLocals, Value.category, maxLocals]; done) | rfl) ?_
  refine ob s₁ (mkF mG 1 #[.val (.long q0), .second, .val (.long q1), .second, .unset, .unset] [(.long q0)]) (fun _ kk => XS.lloadN X0.here hx rfl (hb hby at_0) rfl kk) ?_
  obtain ⟨_, _, ⟨T1, L1, k1, n1⟩, -, X1, ⟨Lc1, hQ1, l1, y1, z1⟩, st1⟩ := Jvm.LawKit.callS X0 hx (y := (⟨"com/example/lease_over_store/leaseoverstore/lease/QueuedLeaseStore$Attempt", "notTaken", "(J)Lcom/example/lease_over_store/leaseoverstore/lease/QueuedLeaseStore$Attempt;"⟩ : MethodName)) hown (mvT hZ (ow hw 0 rfl)) (mvT hZ (ow hw 1 rfl)) (mvT hZ (ow hw 2 rfl)) (mvT hZ (ow hw 3 rfl)) (by decide) (backOf (W := 0) (rm_nt l Z a0 hw [] w_EMPTY q0 h0 n0 O0 hS ) hZ (ow hw 3 rfl) (ow hw 2 rfl) (by decide) (by decide)) (g := (mkF mG 1 #[.val (.long q0), .second, .val (.long q1), .second, .unset, .unset] [(.long q0)])) rfl (by rw [hml]; rfl) (argsL := [(.long q0)]) (rest := []) (lenOf pd_7 rfl) rfl (by show 2 * 0 + _ ≤ _; exact Nat.le_of_eq rfl) (hb hby at_1) (fun _ _ => ⟨rfl, e0, (by decide : 0 + 1 ≤ _), (by decide : 0 + 2 ≤ _)⟩)
  dsimp only [Pt.U, Pt.locs, Pt.cells, Pt.slots] at X1 l1 y1 z1 st1 hQ1
  subst l1 y1 z1
  obtain ⟨h1, e1⟩ : ∃ h, T1.heap = h := ⟨_, rfl⟩
  rw [e1] at hQ1
  obtain ⟨b0_1, rfl, N1q, K1q, O1, n_b0_1, z_b0_1, F1_0, F1_1, F1_2⟩ := hQ1
  have N1 := Fr.app N0 N1q
  have sz_b0_1 : h0.size ≤ b0_1 := Nat.le_trans K0.1 z_b0_1
  have K1 := K0.trans K1q all0
  refine ob T1 (mkF mG 4 #[.val (.long q0), .second, .val (.long q1), .second, .unset, .unset] [(.ref b0_1)]) (fun _ kk => st1 _ kk) ?_
  refine ob T1 (mkF mG 6 #[.val (.long q0), .second, .val (.long q1), .second, .val (.ref b0_1), .unset] []) (fun _ kk => XS.astore X1.here hx rfl (hb hby at_4) rfl rfl (l' := #[.val (.long q0), .second, .val (.long q1), .second, .val (.ref b0_1), .unset]) rfl kk) ?_
  obtain ⟨T2, h2, X2, e2, E2, A2, D2, _x2, st2⟩ := newO X1 hx hZ hown (ow hw 21 rfl) (ow hw 22 rfl) (ow hw 23 rfl) e1 (g := (mkF mG 6 #[.val (.long q0), .second, .val (.long q1), .second, .val (.ref b0_1), .unset] [])) rfl (hb hby at_6) (by decide) (by decide)
  obtain ⟨b2, g2⟩ : ∃ z, z = h1.size := ⟨_, rfl⟩
  rw [← g2] at A2 D2 st2
  have n_b2 : n0 ≤ b2 := Nat.le_trans (on0 O1) (Nat.le_of_eq g2.symm)
  have sz_b2 : h0.size ≤ b2 := Nat.le_trans K1.1 (Nat.le_of_eq g2.symm)
  have ne_b0_1_b2 : b0_1 ≠ b2 := Nat.ne_of_lt (Nat.lt_of_lt_of_le F1_0.lt (Nat.le_of_eq g2.symm))
  have O2 := O1.ext E2
  have K2 := K1.ext E2
  have F2_32 : Fld Z h2 b2 "com/example/lease_over_store/leaseoverstore/lease/Taken" "token" "J" (.long (0 : Int64)) := D2 (Or.inr (ow hw 32 rfl)) (ty := .long) (by decide)
  have F2_34 : Fld Z h2 b2 "com/example/lease_over_store/leaseoverstore/lease/Taken" "at" "Ljava/time/Instant;" .null := D2 (Or.inr (ow hw 34 rfl)) (ty := (.object "java/time/Instant")) (by decide)
  have F2_36 : Fld Z h2 b2 "com/example/lease_over_store/leaseoverstore/lease/Taken" "lasts" "Ljava/time/Duration;" .null := D2 (Or.inr (ow hw 36 rfl)) (ty := (.object "java/time/Duration")) (by decide)
  refine ob T2 (mkF mG 9 #[.val (.long q0), .second, .val (.long q1), .second, .val (.ref b0_1), .unset] [(.ref b2)]) (fun _ kk => st2 _ kk) ?_
  refine ob T2 (mkF mG 10 #[.val (.long q0), .second, .val (.long q1), .second, .val (.ref b0_1), .unset] [(.ref b2), (.ref b2)]) (fun _ kk => XS.dup X2.here hx rfl (hb hby at_9) rfl rfl kk) ?_
  refine ob T2 (mkF mG 11 #[.val (.long q0), .second, .val (.long q1), .second, .val (.ref b0_1), .unset] [(.long q1), (.ref b2), (.ref b2)]) (fun _ kk => XS.lloadN X2.here hx rfl (hb hby at_10) rfl kk) ?_
  refine ob T2 (mkF mG 12 #[.val (.long q0), .second, .val (.long q1), .second, .val (.ref b0_1), .unset] [.null, (.long q1), (.ref b2), (.ref b2)]) (fun _ kk => XS.aconstNull X2.here hx rfl (hb hby at_11) kk) ?_
  obtain ⟨_, _, ⟨T3, L3, k3, n3⟩, -, X3, ⟨Lc3, hQ3, l3, y3, z3⟩, st3⟩ := X2.specialBack hx (y := (⟨"com/example/lease_over_store/leaseoverstore/lease/Taken", "<init>", "(JLjava/time/Instant;)V"⟩ : MethodName)) rfl hown (mvT hZ (ow hw 24 rfl)) (mvT hZ (ow hw 25 rfl)) (mvT hZ (ow hw 26 rfl)) (by decide) (backOf (W := 1) (rm_tk2 l Z a0 hw [] w_EMPTY b2 q1 (.long (0 : Int64)) .null .null h2 n0 O2 hS A2 F2_32 F2_34 F2_36 n_b2) hZ (ow hw 26 rfl) (ow hw 23 rfl) (by decide) (by decide)) (g := (mkF mG 12 #[.val (.long q0), .second, .val (.long q1), .second, .val (.ref b0_1), .unset] [.null, (.long q1), (.ref b2), (.ref b2)])) rfl (by rw [hml]; rfl) (Steps.refl _) (a := b2) (argsL := [(.long q1), .null]) (rest := [(.ref b2)]) (lenOf pd_8 rfl) rfl (by show 2 * 0 + _ ≤ _; exact Nat.le_of_eq rfl) (hb hby at_12) (fun _ _ => ⟨rfl, e2, (by decide : 2 + 0 ≤ _), (by decide : 5 + 0 ≤ _)⟩)
  dsimp only [Pt.U, Pt.locs, Pt.cells, Pt.slots] at X3 l3 y3 z3 st3 hQ3
  subst l3 y3 z3
  obtain ⟨h3, e3⟩ : ∃ h, T3.heap = h := ⟨_, rfl⟩
  rw [e3] at hQ3
  obtain ⟨rfl, N3q, K3q, O3, F3_0, F3_1, F3_2⟩ := hQ3
  have N3 := Fr.app N1 N3q
  have K3 := K2.trans K3q (allS (Or.inr sz_b2) all0)
  refine ob T3 (mkF mG 15 #[.val (.long q0), .second, .val (.long q1), .second, .val (.ref b0_1), .unset] [(.ref b2)]) (fun _ kk => st3.trans kk) ?_
  obtain ⟨_, _, ⟨T4, L4, k4, n4⟩, -, X4, ⟨Lc4, hQ4, l4, y4, z4⟩, st4⟩ := Jvm.LawKit.callS X3 hx (y := (⟨"com/example/lease_over_store/leaseoverstore/lease/QueuedLeaseStore$Attempt", "taken", "(Lcom/example/lease_over_store/leaseoverstore/lease/Taken;)Lcom/example/lease_over_store/leaseoverstore/lease/QueuedLeaseStore$Attempt;"⟩ : MethodName)) hown (mvT hZ (ow hw 37 rfl)) (mvT hZ (ow hw 38 rfl)) (mvT hZ (ow hw 2 rfl)) (mvT hZ (ow hw 39 rfl)) (by decide) (backOf (W := 0) (rm_taken l Z a0 hw [] w_EMPTY b2 h3 n0 O3 hS ) hZ (ow hw 39 rfl) (ow hw 2 rfl) (by decide) (by decide)) (g := (mkF mG 15 #[.val (.long q0), .second, .val (.long q1), .second, .val (.ref b0_1), .unset] [(.ref b2)])) rfl (by rw [hml]; rfl) (argsL := [(.ref b2)]) (rest := []) (lenOf pd_9 rfl) rfl (by show 2 * 0 + _ ≤ _; exact Nat.le_of_eq rfl) (hb hby at_15) (fun _ _ => ⟨rfl, e3, (by decide : 2 + 2 ≤ _), (by decide : 5 + 3 ≤ _)⟩)
  dsimp only [Pt.U, Pt.locs, Pt.cells, Pt.slots] at X4 l4 y4 z4 st4 hQ4
  subst l4 y4 z4
  obtain ⟨h4, e4⟩ : ∃ h, T4.heap = h := ⟨_, rfl⟩
  rw [e4] at hQ4
  obtain ⟨b0_4, b1_4, rfl, N4q, K4q, O4, n_b0_4, n_b1_4, z_b0_4, z_b1_4, F4_0, F4_1, F4_2, F4_3, F4_4⟩ := hQ4
  have N4 := Fr.app N3 N4q
  have sz_b0_4 : h0.size ≤ b0_4 := Nat.le_trans K3.1 z_b0_4
  have ne_b0_1_b0_4 : b0_1 ≠ b0_4 := Nat.ne_of_lt (Nat.lt_of_lt_of_le ((F1_0.ext E2).keep K3q).lt z_b0_4)
  have ne_b2_b0_4 : b2 ≠ b0_4 := Nat.ne_of_lt (Nat.lt_of_lt_of_le (A2.keep K3q).lt z_b0_4)
  have sz_b1_4 : h0.size ≤ b1_4 := Nat.le_trans K3.1 z_b1_4
  have ne_b0_1_b1_4 : b0_1 ≠ b1_4 := Nat.ne_of_lt (Nat.lt_of_lt_of_le ((F1_0.ext E2).keep K3q).lt z_b1_4)
  have ne_b2_b1_4 : b2 ≠ b1_4 := Nat.ne_of_lt (Nat.lt_of_lt_of_le (A2.keep K3q).lt z_b1_4)
  have K4 := K3.trans K4q all0
  refine ob T4 (mkF mG 18 #[.val (.long q0), .second, .val (.long q1), .second, .val (.ref b0_1), .unset] [(.ref b0_4)]) (fun _ kk => st4 _ kk) ?_
  refine ob T4 (mkF mG 20 #[.val (.long q0), .second, .val (.long q1), .second, .val (.ref b0_1), .val (.ref b0_4)] []) (fun _ kk => XS.astore X4.here hx rfl (hb hby at_18) rfl rfl (l' := #[.val (.long q0), .second, .val (.long q1), .second, .val (.ref b0_1), .val (.ref b0_4)]) rfl kk) ?_
  refine ob T4 (mkF mG 22 #[.val (.long q0), .second, .val (.long q1), .second, .val (.ref b0_1), .val (.ref b0_4)] [(.ref b0_1)]) (fun _ kk => XS.aload X4.here hx rfl (hb hby at_20) rfl rfl kk) ?_
  obtain ⟨cq5, kq5, q5a, q5b, q5c⟩ := isOf hZ e4 (((F1_0.ext E2).keep K3q).keep K4q)
  obtain ⟨_, _, ⟨T5, L5, k5, n5⟩, -, X5, ⟨Lc5, hQ5, l5, y5, z5⟩, st5⟩ := X4.virtualBack hx (y := (⟨"com/example/lease_over_store/leaseoverstore/lease/QueuedLeaseStore$Attempt", "isTaken", "()Z"⟩ : MethodName)) (z := (⟨"com/example/lease_over_store/leaseoverstore/lease/QueuedLeaseStore$Attempt", "isTaken", "()Z"⟩ : MethodName)) hown (mvT hZ (ow hw 57 rfl)) (mvT hZ (ow hw 58 rfl)) (notFace_of_selects (args := #[]) (mvT hZ (ow hw 60 rfl))) (mvT hZ (ow hw 60 rfl)) (mvT hZ (ow hw 59 rfl)) (by decide) (backOf (W := 0) (rm_itE l Z a0 hw [] w_EMPTY b0_1 h4 n0 O4 hS (((F1_1.ext E2).keep K3q (ninS ne_b0_1_b2 nin0)).keep K4q nin0)) hZ (ow hw 61 rfl) (ow hw 2 rfl) (by decide) (by decide)) q5a q5c (g := (mkF mG 22 #[.val (.long q0), .second, .val (.long q1), .second, .val (.ref b0_1), .val (.ref b0_4)] [(.ref b0_1)])) rfl (by rw [hml]; rfl) (Steps.refl _) (argsL := []) (rest := []) (lenOf pd_6 rfl) rfl (by show 2 * 0 + _ ≤ _; exact Nat.le_of_eq rfl) (hb hby at_22) (fun _ _ => ⟨rfl, e4, (by decide : 4 + 0 ≤ _), (by decide : 8 + 0 ≤ _)⟩)
  dsimp only [Pt.U, Pt.locs, Pt.cells, Pt.slots] at X5 l5 y5 z5 st5 hQ5
  subst l5 y5 z5
  obtain ⟨rfl, N5q, e5⟩ := hQ5
  have N5 := Fr.app N4 N5q
  refine ob T5 (mkF mG 25 #[.val (.long q0), .second, .val (.long q1), .second, .val (.ref b0_1), .val (.ref b0_4)] [(.int (0 : Int32))]) (fun _ kk => st5.trans kk) ?_
  refine ob T5 (mkF mG 28 #[.val (.long q0), .second, .val (.long q1), .second, .val (.ref b0_1), .val (.ref b0_4)] []) (fun _ kk => XS.ifNo X5.here hx rfl (hb hby at_25) rfl ((if0 _ _).trans (teq (by decide : (0 : Int32) = (0 : Int32))).2) kk) ?_
  refine ob T5 (mkF mG 30 #[.val (.long q0), .second, .val (.long q1), .second, .val (.ref b0_1), .val (.ref b0_4)] [(.ref b0_4)]) (fun _ kk => XS.aload X5.here hx rfl (hb hby at_28) rfl rfl kk) ?_
  obtain ⟨cq6, kq6, q6a, q6b, q6c⟩ := isOf hZ e5 F4_0
  obtain ⟨_, _, ⟨T6, L6, k6, n6⟩, -, X6, ⟨Lc6, hQ6, l6, y6, z6⟩, st6⟩ := X5.virtualBack hx (y := (⟨"com/example/lease_over_store/leaseoverstore/lease/QueuedLeaseStore$Attempt", "isTaken", "()Z"⟩ : MethodName)) (z := (⟨"com/example/lease_over_store/leaseoverstore/lease/QueuedLeaseStore$Attempt", "isTaken", "()Z"⟩ : MethodName)) hown (mvT hZ (ow hw 57 rfl)) (mvT hZ (ow hw 58 rfl)) (notFace_of_selects (args := #[]) (mvT hZ (ow hw 60 rfl))) (mvT hZ (ow hw 60 rfl)) (mvT hZ (ow hw 59 rfl)) (by decide) (backOf (W := 0) (rm_itS l Z a0 hw [] w_EMPTY b0_4 b1_4 b2 h4 n0 O4 hS F4_1 F4_3 F4_4) hZ (ow hw 61 rfl) (ow hw 2 rfl) (by decide) (by decide)) q6a q6c (g := (mkF mG 30 #[.val (.long q0), .second, .val (.long q1), .second, .val (.ref b0_1), .val (.ref b0_4)] [(.ref b0_4)])) rfl (by rw [hml]; rfl) (Steps.refl _) (argsL := []) (rest := []) (lenOf pd_6 rfl) rfl (by show 2 * 0 + _ ≤ _; exact Nat.le_of_eq rfl) (hb hby at_30) (fun _ _ => ⟨rfl, e5, (by decide : 4 + 0 ≤ _), (by decide : 8 + 0 ≤ _)⟩)
  dsimp only [Pt.U, Pt.locs, Pt.cells, Pt.slots] at X6 l6 y6 z6 st6 hQ6
  subst l6 y6 z6
  obtain ⟨rfl, N6q, e6⟩ := hQ6
  have N6 := Fr.app N5 N6q
  refine ob T6 (mkF mG 33 #[.val (.long q0), .second, .val (.long q1), .second, .val (.ref b0_1), .val (.ref b0_4)] [(.int (1 : Int32))]) (fun _ kk => st6.trans kk) ?_
  refine ob T6 (mkF mG 36 #[.val (.long q0), .second, .val (.long q1), .second, .val (.ref b0_1), .val (.ref b0_4)] []) (fun _ kk => XS.ifNo X6.here hx rfl (hb hby at_33) rfl ((if0 _ _).trans (feq (by decide : ¬ ((1 : Int32) = (0 : Int32)))).1) kk) ?_
  refine ob T6 (mkF mG 37 #[.val (.long q0), .second, .val (.long q1), .second, .val (.ref b0_1), .val (.ref b0_4)] [(.int (1 : Int32))]) (fun _ kk => XS.iconst X6.here hx rfl (hb hby at_36) kk) ?_
  refine ob T6 (mkF mG 41 #[.val (.long q0), .second, .val (.long q1), .second, .val (.ref b0_1), .val (.ref b0_4)] [(.int (1 : Int32))]) (fun _ kk => XS.goto X6.here hx rfl (pc0 := 37) (pc' := 41) rfl (hb hby at_37) (by decide) (by decide) kk) ?_
  obtain ⟨fs, hr, hrun, hended, hW, hsame⟩ := X6.leave (v := some (.int (1 : Int32))) (fun h => by rw [Bd.returns] at h; cases h)
  refine oout (retN X6 hx (t := .boolean) Bd.returns (by simp) (hb hby at_41) hr) hrun hended ⟨_, _, rfl, ?_, ⟨_, rfl⟩, hW, hsame.mono (by decide) (by decide)⟩
  show Q_rm0 Z w_EMPTY q0 q1 h0 n0 _ T6.heap _
  rw [e6]
  exact ⟨rfl, N6⟩

set_option maxRecDepth 65536 in
set_option maxHeartbeats 40000000 in
theorem comes_1 {Post : Tables → Env → Array Value → State → Outcome → State → Prop} (hpost : ∀ tb e args s v u, (limb_1_1.after args s (.returned v) u = true ∧ limb_1_2.after args s (.returned v) u = true ∧ True) → FrameEnd s (.returned v) u (Jvm.fieldLocs frame_1_writes args s ++ Jvm.arrayLocs frame_1_arrays args s ++ Jvm.staticLocs frame_1_statics s) 16 128 → Post tb e args s (.returned v) u) :
    ArmFor flags0 classFile x code maxLocals ret World_1 tables_1 room_1 Calls_1 rest_1 Pre_1 Post := by
  intro l hfl _ _ p e ha hc hk s m args below hf hA hF happ hP
  obtain ⟨hcalls, hrest, hpre⟩ := hP
  obtain ⟨-, -, -, hnamed, -, -, -, hat⟩ := (Spec.applies_iff hf).mp happ
  obtain ⟨hg, hn⟩ := and_e (Cond.before_iff.mp (show (Jvm.Cond.and given_1 narrow_1).before args s = true from hpre))
  obtain ⟨gg1, gg2⟩ := and_e hg
  obtain ⟨gg3, gg4⟩ := and_e gg2
  obtain ⟨w0, w1, rfl⟩ : ∃ w0 w1 : Value, args = #[w0, w1] := by
    have hs : args.size = 2 := by simpa [Cond.value, given_1] using gg1
    obtain ⟨L⟩ := args
    match L, hs with
    | [w0, w1], _ => exact ⟨w0, w1, rfl⟩
  have hw := fun d (hd : d ∈ tables_1) => atoms_spec (ws := Jvm.Cond.code x code maxLocals ret :: tables_1) hat d (List.mem_cons_of_mem _ hd)
  have hfit : Fit s := fun {y c} hc i hi => by
    obtain ⟨ha, rfl⟩ := Array.getElem?_eq_some_iff.mp hc
    have q := List.all_eq_true.mp ((Array.all_eq_true_iff_forall_mem.mp hF) _ (Array.getElem_mem ha)) i (List.mem_range.mpr hi)
    simpa [Array.getElem?_eq_getElem hi] using q
  obtain ⟨hsets, hown0⟩ := atoms_of _ (rest_1_c_eq ▸ (show rest_1_c.before _ s = true from hrest))
  have hr0 := Cond.before_iff.mp hown0
  obtain ⟨i0, ei0⟩ := isL_v gg3
  obtain rfl : w0 = (.long i0) := Option.some.inj ei0
  obtain ⟨i1, ei1⟩ := isL_v gg4
  obtain rfl : w1 = (.long i1) := Option.some.inj ei1
  obtain ⟨w_EMPTY, ev_w_EMPTY, S_w_EMPTY, E_w_EMPTY⟩ := own_sta (Cond.before_iff.mp (ow hsets 2 rfl)) (Or.inl (ow hsets 1 rfl))
  have F_w_EMPTY_value := own_fldN ev_w_EMPTY (Cond.before_iff.mp (ow hsets 3 rfl))
  have hS : St0 s w_EMPTY := ⟨S_w_EMPTY, E_w_EMPTY, F_w_EMPTY_value⟩
  obtain ⟨n, o, h1, h2, h3, _, L, rfl, ⟨rfl, N⟩, hq⟩ := rm0 l s _ hw tables_1 w_EMPTY i0 i1 s.heap s.heap.size (Old.start s) hS p e ha hc hk s m _ below hf ((Spec.applies_iff_loose hf).mp happ).1 ⟨rfl, State.Warmed39.refl s, rfl⟩ trivial
  refine ⟨n, _, h1, h2, h3, hpost _ _ _ _ _ _ ⟨Cond.after_iff.mpr rfl, Cond.after_iff.mpr (eq_i res_at (Term.int_eval (1)) rfl), trivial⟩ ⟨hq.1, hq.2.1, (hq.2.2.sift fun y hy => Or.inr (N y hy)).mono (by decide) (by decide)⟩⟩
theorem main_1_1 : Claimed_1_1 := comes_1 fun _ _ _ _ _ _ h hF => ⟨h.1, hF⟩
theorem main_1_2 : Claimed_1_2 := comes_1 fun _ _ _ _ _ _ h hF => ⟨h.2.1, hF⟩
end Jvm.Pilot.@@N@@
namespace Jvm.Pilot.@@N@@
open Jvm Jvm.ClassFile Sem Op Lib Jvm.Free Jvm.Stand Jvm.Pilot.@@N@@.Jvm.D
/-! MADE BY PROGRAM (witnessworld.py) out of the Statement's table words and the real class files: 12 classes; the members and pool entries that the words name. The judged class is class 1, her method 1. -/
namespace start1
open Jvm.ClassFile
def u (s : String) : CpInfo := .utf8 (stringToUtf16 s)
/-- a pool by its gaps: so many unusable entries, then the entry; so many at the end -/
def gap : Nat → List CpInfo → List CpInfo
  | 0, r => r
  | n + 1, r => .unusable :: gap n r
def poolList (es : List (Nat × CpInfo)) (last : Nat) : List CpInfo := es.foldr (fun e r => gap e.1 (e.2 :: r)) (gap last [])
def pool (es : List (Nat × CpInfo)) (last : Nat) : Array CpInfo := ⟨poolList es last⟩
def fileOf (pool : Array CpInfo) (this : Nat) (attrs : Array Attribute := #[]) (ms : Array MethodInfo := #[]) (fl : Nat := 33) (sup : Nat := 0) (ifs : Array Nat := #[]) (fds : Array FieldInfo := #[]) : ClassFile where
  minorVersion := 0
  majorVersion := 65
  constantPool := pool
  accessFlags := fl
  thisClass := this
  superClass := sup
  interfaces := ifs
  fields := fds
  methods := ms
  attributes := attrs
def plain (name : String) (sup : Option ClassId) : Class where
  name := name
  kind := .ordinary
  loader := none
  accessFlags := 33
  super := sup
  interfaces := #[]
  cf := none
  fields := #[]
  methods := #[]
  instanceTypes := #[]
  staticTypes := #[]
  resolved := #[]
  callSites := []
  init := .initialized
  statics := none
  mirror := none

def pool0 : Array CpInfo := pool [(5, u "<init>"), (0, u "()V"), (1, .class_ 10), (1, u "java/lang/Object")] 113

def k0c0 : Code := { maxStack := 0, maxLocals := 1, code := object_method_1_code, exceptionTable := #[], attributes := #[] }
def k0m0 : Method := { name := "<init>", desc := "()V", sig := { parameters := [], returnType := none }, accessFlags := 1, code := some k0c0 }
/-- java/lang/Object -/
def k0 : Class := { plain "java/lang/Object" none with
  accessFlags := 33
  interfaces := #[]
  cf := some (fileOf pool0 8 #[] #[{ accessFlags := 1, nameIndex := 5, descriptorIndex := 6, attributes := #[] }] 33 0 #[] #[])
  fields := #[]
  methods := #[k0m0]
  instanceTypes := #[]
  staticTypes := #[]
  resolved := Array.replicate 124 none
  statics := none }

def pool1 : Array CpInfo := pool [(2, .class_ 4), (1, u "java/lang/Object"), (0, u "<init>"), (0, u "()V"), (0, .methodref 8 9), (0, .class_ 10), (0, .nameAndType 11 12), (0, u "com/example/lease_over_store/leaseoverstore/lease/QueuedLeaseStore$Attempt"), (0, u "notTaken"), (0, u "(J)Lcom/example/lease_over_store/leaseoverstore/lease/QueuedLeaseStore$Attempt;"), (0, .class_ 14), (0, u "com/example/lease_over_store/leaseoverstore/lease/Taken"), (0, .methodref 13 16), (0, .nameAndType 5 17), (0, u "(JLjava/time/Instant;)V"), (0, .methodref 8 19), (0, .nameAndType 20 21), (0, u "taken"), (0, u "(Lcom/example/lease_over_store/leaseoverstore/lease/Taken;)Lcom/example/lease_over_store/leaseoverstore/lease/QueuedLeaseStore$Attempt;"), (0, .methodref 8 23), (0, .nameAndType 24 25), (0, u "isTaken"), (0, u "()Z"), (0, .class_ 27), (0, u "com/example/lease_over_store/leaseoverstore/lease/AttemptNotTakenPinLaw"), (2, u "law"), (0, u "(JJ)Z")] 7

def k1m0 : Method := { name := "<init>", desc := "()V", sig := { parameters := [], returnType := none }, accessFlags := 2, code := none }
def k1c1 : Code := { maxStack := 5, maxLocals := 6, code := code, exceptionTable := #[], attributes := #[] }
def k1m1 : Method := { name := "law", desc := "(JJ)Z", sig := { parameters := [.long, .long], returnType := some .boolean }, accessFlags := 9, code := some k1c1 }
/-- com/example/lease_over_store/leaseoverstore/lease/AttemptNotTakenPinLaw -/
def k1 : Class := { plain "com/example/lease_over_store/leaseoverstore/lease/AttemptNotTakenPinLaw" (some 0) with
  accessFlags := 49
  interfaces := #[]
  cf := some (fileOf pool1 26 #[] #[{ accessFlags := 2, nameIndex := 5, descriptorIndex := 6, attributes := #[] }, { accessFlags := 9, nameIndex := 30, descriptorIndex := 31, attributes := #[] }] 49 2 #[] #[])
  fields := #[]
  methods := #[k1m0, k1m1]
  instanceTypes := #[]
  staticTypes := #[]
  resolved := Array.replicate 39 none
  statics := none }

def pool2 : Array CpInfo := pool [(1, .methodref 2 3), (0, .class_ 4), (0, .nameAndType 5 6), (0, u "java/lang/Object"), (0, u "<init>"), (0, u "()V"), (0, .fieldref 8 9), (0, .class_ 10), (0, .nameAndType 11 12), (0, u "com/example/lease_over_store/leaseoverstore/lease/QueuedLeaseStore$Attempt"), (0, u "taken"), (0, u "Ljava/util/Optional;"), (0, .fieldref 8 14), (0, .nameAndType 15 16), (0, u "leftMillis"), (0, u "J"), (7, u "(Lcom/example/lease_over_store/leaseoverstore/lease/Taken;)Lcom/example/lease_over_store/leaseoverstore/lease/QueuedLeaseStore$Attempt;"), (0, .methodref 26 27), (0, .class_ 28), (0, .nameAndType 29 30), (0, u "java/util/Optional"), (0, u "of"), (0, u "(Ljava/lang/Object;)Ljava/util/Optional;"), (0, .long 18446744073709551615), (1, .methodref 8 34), (0, .nameAndType 5 35), (0, u "(Ljava/util/Optional;J)V"), (0, .methodref 26 37), (0, .nameAndType 38 39), (0, u "isPresent"), (0, u "()Z"), (0, .methodref 26 41), (0, .nameAndType 42 43), (0, u "empty"), (0, u "()Ljava/util/Optional;"), (6, u "isTaken"), (0, u "notTaken"), (0, u "(J)Lcom/example/lease_over_store/leaseoverstore/lease/QueuedLeaseStore$Attempt;"), (3, .class_ 57), (0, u "com/example/lease_over_store/leaseoverstore/lease/QueuedLeaseStore")] 2

def k2c0 : Code := { maxStack := 3, maxLocals := 4, code := prog_20_method_1_code, exceptionTable := #[], attributes := #[] }
def k2m0 : Method := { name := "<init>", desc := "(Ljava/util/Optional;J)V", sig := { parameters := [(.object "java/util/Optional"), .long], returnType := none }, accessFlags := 2, code := some k2c0 }
def k2c1 : Code := { maxStack := 5, maxLocals := 1, code := prog_20_method_3_code, exceptionTable := #[], attributes := #[] }
def k2m1 : Method := { name := "taken", desc := "(Lcom/example/lease_over_store/leaseoverstore/lease/Taken;)Lcom/example/lease_over_store/leaseoverstore/lease/QueuedLeaseStore$Attempt;", sig := { parameters := [(.object "com/example/lease_over_store/leaseoverstore/lease/Taken")], returnType := some (.object "com/example/lease_over_store/leaseoverstore/lease/QueuedLeaseStore$Attempt") }, accessFlags := 9, code := some k2c1 }
def k2c2 : Code := { maxStack := 1, maxLocals := 1, code := prog_20_method_4_code, exceptionTable := #[], attributes := #[] }
def k2m2 : Method := { name := "isTaken", desc := "()Z", sig := { parameters := [], returnType := some .boolean }, accessFlags := 1, code := some k2c2 }
def k2c3 : Code := { maxStack := 5, maxLocals := 2, code := prog_20_method_5_code, exceptionTable := #[], attributes := #[] }
def k2m3 : Method := { name := "notTaken", desc := "(J)Lcom/example/lease_over_store/leaseoverstore/lease/QueuedLeaseStore$Attempt;", sig := { parameters := [.long], returnType := some (.object "com/example/lease_over_store/leaseoverstore/lease/QueuedLeaseStore$Attempt") }, accessFlags := 9, code := some k2c3 }
/-- com/example/lease_over_store/leaseoverstore/lease/QueuedLeaseStore$Attempt -/
def k2 : Class := { plain "com/example/lease_over_store/leaseoverstore/lease/QueuedLeaseStore$Attempt" (some 0) with
  accessFlags := 33
  interfaces := #[]
  cf := some (fileOf pool2 8 #[.nestHost 56] #[{ accessFlags := 2, nameIndex := 5, descriptorIndex := 35, attributes := #[] }, { accessFlags := 9, nameIndex := 11, descriptorIndex := 24, attributes := #[] }, { accessFlags := 1, nameIndex := 50, descriptorIndex := 39, attributes := #[] }, { accessFlags := 9, nameIndex := 51, descriptorIndex := 52, attributes := #[] }] 33 2 #[] #[{ accessFlags := 18, nameIndex := 11, descriptorIndex := 12, attributes := #[] }, { accessFlags := 18, nameIndex := 15, descriptorIndex := 16, attributes := #[] }])
  fields := #[{ name := "taken", type := (.object "java/util/Optional"), accessFlags := 18, slot := 0, constantValue := 0 }, { name := "leftMillis", type := .long, accessFlags := 18, slot := 1, constantValue := 0 }]
  methods := #[k2m0, k2m1, k2m2, k2m3]
  instanceTypes := #[(.object "java/util/Optional"), .long]
  staticTypes := #[]
  resolved := Array.replicate 60 none
  statics := none }

def pool3 : Array CpInfo := pool [(1, .fieldref 2 3), (0, .class_ 4), (0, .nameAndType 5 6), (0, u "java/util/Optional"), (0, u "EMPTY"), (0, u "Ljava/util/Optional;"), (0, .methodref 8 9), (0, .class_ 10), (0, .nameAndType 11 12), (0, u "java/lang/Object"), (0, u "<init>"), (0, u "()V"), (0, .fieldref 2 14), (0, .nameAndType 15 16), (0, u "value"), (0, u "Ljava/lang/Object;"), (0, .methodref 18 19), (0, .class_ 20), (0, .nameAndType 21 22), (0, u "java/util/Objects"), (0, u "requireNonNull"), (0, u "(Ljava/lang/Object;)Ljava/lang/Object;"), (0, .methodref 2 24), (0, .nameAndType 11 25), (0, u "(Ljava/lang/Object;)V"), (20, u "()Z"), (8, u "empty"), (0, u "()Ljava/util/Optional;"), (8, u "(Ljava/lang/Object;)Ljava/util/Optional;"), (2, u "isPresent"), (13, u "of")] 104

def k3c0 : Code := { maxStack := 1, maxLocals := 1, code := jdk_32_method_1_code, exceptionTable := #[], attributes := #[] }
def k3m0 : Method := { name := "empty", desc := "()Ljava/util/Optional;", sig := { parameters := [], returnType := some (.object "java/util/Optional") }, accessFlags := 9, code := some k3c0 }
def k3c1 : Code := { maxStack := 2, maxLocals := 2, code := jdk_32_method_2_code, exceptionTable := #[], attributes := #[] }
def k3m1 : Method := { name := "<init>", desc := "(Ljava/lang/Object;)V", sig := { parameters := [(.object "java/lang/Object")], returnType := none }, accessFlags := 2, code := some k3c1 }
def k3c2 : Code := { maxStack := 3, maxLocals := 1, code := jdk_32_method_3_code, exceptionTable := #[], attributes := #[] }
def k3m2 : Method := { name := "of", desc := "(Ljava/lang/Object;)Ljava/util/Optional;", sig := { parameters := [(.object "java/lang/Object")], returnType := some (.object "java/util/Optional") }, accessFlags := 9, code := some k3c2 }
def k3c3 : Code := { maxStack := 1, maxLocals := 1, code := jdk_32_method_6_code, exceptionTable := #[], attributes := #[] }
def k3m3 : Method := { name := "isPresent", desc := "()Z", sig := { parameters := [], returnType := some .boolean }, accessFlags := 1, code := some k3c3 }
/-- java/util/Optional -/
def k3 : Class := { plain "java/util/Optional" (some 0) with
  accessFlags := 49
  interfaces := #[]
  cf := some (fileOf pool3 2 #[] #[{ accessFlags := 9, nameIndex := 55, descriptorIndex := 56, attributes := #[] }, { accessFlags := 2, nameIndex := 11, descriptorIndex := 25, attributes := #[] }, { accessFlags := 9, nameIndex := 82, descriptorIndex := 65, attributes := #[] }, { accessFlags := 1, nameIndex := 68, descriptorIndex := 46, attributes := #[] }] 49 8 #[] #[{ accessFlags := 26, nameIndex := 5, descriptorIndex := 6, attributes := #[] }, { accessFlags := 18, nameIndex := 15, descriptorIndex := 16, attributes := #[] }])
  fields := #[{ name := "EMPTY", type := (.object "java/util/Optional"), accessFlags := 26, slot := 0, constantValue := 0 }, { name := "value", type := (.object "java/lang/Object"), accessFlags := 18, slot := 0, constantValue := 0 }]
  methods := #[k3m0, k3m1, k3m2, k3m3]
  instanceTypes := #[(.object "java/lang/Object")]
  staticTypes := #[(.object "java/util/Optional")]
  resolved := Array.replicate 187 none
  statics := some 0 }

def pool4 : Array CpInfo := pool [(1, .methodref 2 3), (0, .class_ 4), (0, .nameAndType 5 6), (0, u "com/example/lease_over_store/leaseoverstore/lease/Taken"), (0, u "<init>"), (0, u "(JLjava/time/Instant;Ljava/time/Duration;)V"), (0, .methodref 8 9), (0, .class_ 10), (0, .nameAndType 5 11), (0, u "java/lang/Object"), (0, u "()V"), (0, .fieldref 2 13), (0, .nameAndType 14 15), (0, u "token"), (0, u "J"), (0, .fieldref 2 17), (0, .nameAndType 18 19), (0, u "at"), (0, u "Ljava/time/Instant;"), (0, .fieldref 2 21), (0, .nameAndType 22 23), (0, u "lasts"), (0, u "Ljava/time/Duration;"), (0, u "(JLjava/time/Instant;)V")] 7

def k4c0 : Code := { maxStack := 5, maxLocals := 4, code := prog_26_method_1_code, exceptionTable := #[], attributes := #[] }
def k4m0 : Method := { name := "<init>", desc := "(JLjava/time/Instant;)V", sig := { parameters := [.long, (.object "java/time/Instant")], returnType := none }, accessFlags := 1, code := some k4c0 }
def k4c1 : Code := { maxStack := 3, maxLocals := 5, code := prog_26_method_2_code, exceptionTable := #[], attributes := #[] }
def k4m1 : Method := { name := "<init>", desc := "(JLjava/time/Instant;Ljava/time/Duration;)V", sig := { parameters := [.long, (.object "java/time/Instant"), (.object "java/time/Duration")], returnType := none }, accessFlags := 1, code := some k4c1 }
/-- com/example/lease_over_store/leaseoverstore/lease/Taken -/
def k4 : Class := { plain "com/example/lease_over_store/leaseoverstore/lease/Taken" (some 0) with
  accessFlags := 33
  interfaces := #[]
  cf := some (fileOf pool4 2 #[] #[{ accessFlags := 1, nameIndex := 5, descriptorIndex := 24, attributes := #[] }, { accessFlags := 1, nameIndex := 5, descriptorIndex := 6, attributes := #[] }] 33 8 #[] #[{ accessFlags := 18, nameIndex := 14, descriptorIndex := 15, attributes := #[] }, { accessFlags := 18, nameIndex := 18, descriptorIndex := 19, attributes := #[] }, { accessFlags := 18, nameIndex := 22, descriptorIndex := 23, attributes := #[] }])
  fields := #[{ name := "token", type := .long, accessFlags := 18, slot := 0, constantValue := 0 }, { name := "at", type := (.object "java/time/Instant"), accessFlags := 18, slot := 1, constantValue := 0 }, { name := "lasts", type := (.object "java/time/Duration"), accessFlags := 18, slot := 2, constantValue := 0 }]
  methods := #[k4m0, k4m1]
  instanceTypes := #[.long, (.object "java/time/Instant"), (.object "java/time/Duration")]
  staticTypes := #[]
  resolved := Array.replicate 32 none
  statics := none }

def pool5 : Array CpInfo := pool [(2, .class_ 4), (1, u "java/lang/Object"), (0, u "<init>"), (0, u "()V"), (35, .class_ 44), (1, u "java/util/Objects"), (0, u "requireNonNull"), (0, u "(Ljava/lang/Object;)Ljava/lang/Object;")] 137

def k5m0 : Method := { name := "<init>", desc := "()V", sig := { parameters := [], returnType := none }, accessFlags := 2, code := none }
def k5c1 : Code := { maxStack := 2, maxLocals := 1, code := jdk_31_method_10_code, exceptionTable := #[], attributes := #[] }
def k5m1 : Method := { name := "requireNonNull", desc := "(Ljava/lang/Object;)Ljava/lang/Object;", sig := { parameters := [(.object "java/lang/Object")], returnType := some (.object "java/lang/Object") }, accessFlags := 9, code := some k5c1 }
/-- java/util/Objects -/
def k5 : Class := { plain "java/util/Objects" (some 0) with
  accessFlags := 49
  interfaces := #[]
  cf := some (fileOf pool5 42 #[] #[{ accessFlags := 2, nameIndex := 5, descriptorIndex := 6, attributes := #[] }, { accessFlags := 9, nameIndex := 45, descriptorIndex := 46, attributes := #[] }] 49 2 #[] #[])
  fields := #[]
  methods := #[k5m0, k5m1]
  instanceTypes := #[]
  staticTypes := #[]
  resolved := Array.replicate 184 none
  statics := none }

def pool6 : Array CpInfo := pool [(1, u "java/lang/Cloneable"), (0, .class_ 1), (0, u "java/lang/Object"), (0, .class_ 3)] 3

/-- java/lang/Cloneable -/
def k6 : Class := { plain "java/lang/Cloneable" (some 0) with
  accessFlags := 1537
  interfaces := #[]
  cf := some (fileOf pool6 2 #[] #[] 1537 4 #[] #[])
  fields := #[]
  methods := #[]
  instanceTypes := #[]
  staticTypes := #[]
  resolved := Array.replicate 8 none
  statics := none }

def pool7 : Array CpInfo := pool [(1, u "java/io/Serializable"), (0, .class_ 1), (0, u "java/lang/Object"), (0, .class_ 3)] 3

/-- java/io/Serializable -/
def k7 : Class := { plain "java/io/Serializable" (some 0) with
  accessFlags := 1537
  interfaces := #[]
  cf := some (fileOf pool7 2 #[] #[] 1537 4 #[] #[])
  fields := #[]
  methods := #[]
  instanceTypes := #[]
  staticTypes := #[]
  resolved := Array.replicate 8 none
  statics := none }

/-- the primitive byte -/
def k8 : Class := { plain "byte" none with kind := .primitive 'B', accessFlags := 0x411 }
/-- [B -/
def k9 : Class := { plain "[B" (some 0) with kind := .array 8 .byte, interfaces := #[6, 7], accessFlags := 1041 }

/-- the primitive int -/
def k10 : Class := { plain "int" none with kind := .primitive 'I', accessFlags := 0x411 }
/-- [I -/
def k11 : Class := { plain "[I" (some 0) with kind := .array 10 .int, interfaces := #[6, 7], accessFlags := 1041 }

def heap : Heap := #[{ cls := 3, slots := #[.ref 1], vm := .statics 3 },
  { cls := 3, slots := #[.null], vm := .none }]
def classes : Array Class := #[k0, k1, k2, k3, k4, k5, k6, k7, k8, k9, k10, k11]
def interned : List (Array UInt16 × Addr) := []
def slotsUsed : Nat := 2
def theMethod : MethodId := ⟨1, 1⟩
def args0 : Array Value := #[.long 5, .long 6]
def aboutOver (below : List Frame) : State where
  vm := { classes := classes, interned := interned.toArray }
  heap := heap
  slotsUsed := slotsUsed
  threads := #[{ frames := .invoking theMethod args0 :: below }]
def below0 : List Frame := [.native { method := ⟨0, 0⟩, args := #[] }]
def about1 : State := aboutOver below0
def p0 : Program := .bare "" "" ""
def e0 : Env := launch0.env 0 0 0
theorem w_frames : about1.frames = Frame.invoking theMethod args0 :: below0 := rfl
set_option maxRecDepth 65536 in
theorem w_args : argsFit about1.vm theMethod args0 = true := by decide +kernel
set_option maxRecDepth 65536 in
theorem w_heap : heapFits about1 = true := by decide +kernel
set_option maxRecDepth 65536 in
theorem w_runnable : about1.curStatus? = some .runnable := by decide +kernel
set_option maxRecDepth 65536 in
theorem w_alone : about1.alone = true := by decide +kernel
set_option maxRecDepth 65536 in
theorem w_named : about1.methodNamed? x = some theMethod := by decide +kernel
set_option maxRecDepth 65536 in
theorem w_hears : about1.hears theMethod below0 = true := by decide +kernel
set_option maxRecDepth 65536 in
theorem w_ripe : about1.ripe theMethod args0 below0 = true := by decide +kernel
theorem w_running : about1.status = .running := rfl
set_option maxRecDepth 65536 in
theorem w_room : about1.hasRoom e0.platform room_1 = true :=
  launch0.hasRoom_least _ room_1 (by decide +kernel) (by decide +kernel) (by decide +kernel) (by decide +kernel) (by decide +kernel) (by decide +kernel)
theorem allAtoms_all (ts : List Jvm.Cond) (a : Array Jvm.Value) (st : Jvm.State) : (allAtoms ts).before a st = ts.all (fun c => c.before a st) := by
  induction ts with
  | nil => rfl
  | cons c t ih =>
    show (Jvm.Cond.and c (allAtoms t)).before a st = _
    rw [Jvm.Cond.before_and, ih, List.all_cons]
def words1 : List Jvm.Cond := Jvm.Cond.code x code maxLocals ret :: tables_1
/-- a 'code' word, met by the world's own term for the bytes: nothing is compared byte by byte -/
theorem code_word {y : MethodName} {bytes : ByteArray} {mx : Nat} {rt : Option FieldType} {a : Array Value} {s : State} {m : MethodId} {meth : Method} {c : Code} (h1 : s.methodNamed? y = some m) (h2 : s.vm.method? m = some meth) (h3 : meth.code = some c) (h4 : c.code = bytes)
    (h5 : (c.maxLocals == mx && c.exceptionTable.isEmpty && decide (c.maxStack ≤ mostOperands) && decide (meth.sig.returnType = rt) && !meth.locks && decide (parseMethodDescriptor y.desc = some meth.sig)) = true) : (Jvm.Cond.code y bytes mx rt).before a s = true := by
  simp only [Bool.and_eq_true, beq_iff_eq, Bool.not_eq_true', decide_eq_true_eq] at h5
  obtain ⟨⟨⟨⟨⟨g1, g2⟩, g3⟩, g4⟩, g5⟩, g6⟩ := h5
  simp [Cond.before, Cond.holds, Cond.value, h1, h2, h3, h4, g1, g2, g3, g4, g5, g6]
def isCode : Jvm.Cond → Bool
  | .code _ _ _ _ => true
  | _ => false
theorem all_split {L : List Jvm.Cond} {P : Jvm.Cond → Bool} (h1 : L.all (fun c => isCode c || P c) = true) (h2 : ∀ c ∈ L.filter isCode, P c = true) : L.all P = true := by
  refine List.all_eq_true.mpr fun c hc => ?_
  have h := List.all_eq_true.mp h1 c hc
  rcases Bool.eq_false_or_eq_true (isCode c) with hi | hi
  · exact h2 c (List.mem_filter.mpr ⟨hc, hi⟩)
  · simpa [hi] using h
set_option maxRecDepth 65536 in
theorem w_c0 : (Jvm.Cond.code x code maxLocals ret).before args0 about1 = true := code_word (m := ⟨1, 1⟩) (meth := k1m1) (c := k1c1) (by decide +kernel) rfl rfl rfl (by decide +kernel)
set_option maxRecDepth 65536 in
theorem w_c1 : (Jvm.Cond.code ({ cls := "com/example/lease_over_store/leaseoverstore/lease/QueuedLeaseStore$Attempt", name := "notTaken", desc := "(J)Lcom/example/lease_over_store/leaseoverstore/lease/QueuedLeaseStore$Attempt;" } : Jvm.MethodName) prog_20_method_5_code (2 : Nat) (Option.some (Jvm.ClassFile.FieldType.object "com/example/lease_over_store/leaseoverstore/lease/QueuedLeaseStore$Attempt"))).before args0 about1 = true := code_word (m := ⟨2, 3⟩) (meth := k2m3) (c := k2c3) (by decide +kernel) rfl rfl rfl (by decide +kernel)
set_option maxRecDepth 65536 in
theorem w_c2 : (Jvm.Cond.code ({ cls := "java/util/Optional", name := "empty", desc := "()Ljava/util/Optional;" } : Jvm.MethodName) jdk_32_method_1_code (1 : Nat) (Option.some (Jvm.ClassFile.FieldType.object "java/util/Optional"))).before args0 about1 = true := code_word (m := ⟨3, 0⟩) (meth := k3m0) (c := k3c0) (by decide +kernel) rfl rfl rfl (by decide +kernel)
set_option maxRecDepth 65536 in
theorem w_c3 : (Jvm.Cond.code ({ cls := "com/example/lease_over_store/leaseoverstore/lease/QueuedLeaseStore$Attempt", name := "<init>", desc := "(Ljava/util/Optional;J)V" } : Jvm.MethodName) prog_20_method_1_code (4 : Nat) (Option.none : Option Jvm.ClassFile.FieldType)).before args0 about1 = true := code_word (m := ⟨2, 0⟩) (meth := k2m0) (c := k2c0) (by decide +kernel) rfl rfl rfl (by decide +kernel)
set_option maxRecDepth 65536 in
theorem w_c4 : (Jvm.Cond.code ({ cls := "java/lang/Object", name := "<init>", desc := "()V" } : Jvm.MethodName) object_method_1_code (1 : Nat) (Option.none : Option Jvm.ClassFile.FieldType)).before args0 about1 = true := code_word (m := ⟨0, 0⟩) (meth := k0m0) (c := k0c0) (by decide +kernel) rfl rfl rfl (by decide +kernel)
set_option maxRecDepth 65536 in
theorem w_c5 : (Jvm.Cond.code ({ cls := "com/example/lease_over_store/leaseoverstore/lease/Taken", name := "<init>", desc := "(JLjava/time/Instant;)V" } : Jvm.MethodName) prog_26_method_1_code (4 : Nat) (Option.none : Option Jvm.ClassFile.FieldType)).before args0 about1 = true := code_word (m := ⟨4, 0⟩) (meth := k4m0) (c := k4c0) (by decide +kernel) rfl rfl rfl (by decide +kernel)
set_option maxRecDepth 65536 in
theorem w_c6 : (Jvm.Cond.code ({ cls := "com/example/lease_over_store/leaseoverstore/lease/Taken", name := "<init>", desc := "(JLjava/time/Instant;Ljava/time/Duration;)V" } : Jvm.MethodName) prog_26_method_2_code (5 : Nat) (Option.none : Option Jvm.ClassFile.FieldType)).before args0 about1 = true := code_word (m := ⟨4, 1⟩) (meth := k4m1) (c := k4c1) (by decide +kernel) rfl rfl rfl (by decide +kernel)
set_option maxRecDepth 65536 in
theorem w_c7 : (Jvm.Cond.code ({ cls := "com/example/lease_over_store/leaseoverstore/lease/QueuedLeaseStore$Attempt", name := "taken", desc := "(Lcom/example/lease_over_store/leaseoverstore/lease/Taken;)Lcom/example/lease_over_store/leaseoverstore/lease/QueuedLeaseStore$Attempt;" } : Jvm.MethodName) prog_20_method_3_code (1 : Nat) (Option.some (Jvm.ClassFile.FieldType.object "com/example/lease_over_store/leaseoverstore/lease/QueuedLeaseStore$Attempt"))).before args0 about1 = true := code_word (m := ⟨2, 1⟩) (meth := k2m1) (c := k2c1) (by decide +kernel) rfl rfl rfl (by decide +kernel)
set_option maxRecDepth 65536 in
theorem w_c8 : (Jvm.Cond.code ({ cls := "java/util/Optional", name := "of", desc := "(Ljava/lang/Object;)Ljava/util/Optional;" } : Jvm.MethodName) jdk_32_method_3_code (1 : Nat) (Option.some (Jvm.ClassFile.FieldType.object "java/util/Optional"))).before args0 about1 = true := code_word (m := ⟨3, 2⟩) (meth := k3m2) (c := k3c2) (by decide +kernel) rfl rfl rfl (by decide +kernel)
set_option maxRecDepth 65536 in
theorem w_c9 : (Jvm.Cond.code ({ cls := "java/util/Objects", name := "requireNonNull", desc := "(Ljava/lang/Object;)Ljava/lang/Object;" } : Jvm.MethodName) jdk_31_method_10_code (1 : Nat) (Option.some (Jvm.ClassFile.FieldType.object "java/lang/Object"))).before args0 about1 = true := code_word (m := ⟨5, 1⟩) (meth := k5m1) (c := k5c1) (by decide +kernel) rfl rfl rfl (by decide +kernel)
set_option maxRecDepth 65536 in
theorem w_c10 : (Jvm.Cond.code ({ cls := "java/util/Optional", name := "<init>", desc := "(Ljava/lang/Object;)V" } : Jvm.MethodName) jdk_32_method_2_code (2 : Nat) (Option.none : Option Jvm.ClassFile.FieldType)).before args0 about1 = true := code_word (m := ⟨3, 1⟩) (meth := k3m1) (c := k3c1) (by decide +kernel) rfl rfl rfl (by decide +kernel)
set_option maxRecDepth 65536 in
theorem w_c11 : (Jvm.Cond.code ({ cls := "com/example/lease_over_store/leaseoverstore/lease/QueuedLeaseStore$Attempt", name := "isTaken", desc := "()Z" } : Jvm.MethodName) prog_20_method_4_code (1 : Nat) (Option.some Jvm.ClassFile.FieldType.boolean)).before args0 about1 = true := code_word (m := ⟨2, 2⟩) (meth := k2m2) (c := k2c2) (by decide +kernel) rfl rfl rfl (by decide +kernel)
set_option maxRecDepth 65536 in
theorem w_c12 : (Jvm.Cond.code ({ cls := "java/util/Optional", name := "isPresent", desc := "()Z" } : Jvm.MethodName) jdk_32_method_6_code (1 : Nat) (Option.some Jvm.ClassFile.FieldType.boolean)).before args0 about1 = true := code_word (m := ⟨3, 3⟩) (meth := k3m3) (c := k3c3) (by decide +kernel) rfl rfl rfl (by decide +kernel)
def codes1 : List Jvm.Cond := [Jvm.Cond.code x code maxLocals ret, Jvm.Cond.code ({ cls := "com/example/lease_over_store/leaseoverstore/lease/QueuedLeaseStore$Attempt", name := "notTaken", desc := "(J)Lcom/example/lease_over_store/leaseoverstore/lease/QueuedLeaseStore$Attempt;" } : Jvm.MethodName) prog_20_method_5_code (2 : Nat) (Option.some (Jvm.ClassFile.FieldType.object "com/example/lease_over_store/leaseoverstore/lease/QueuedLeaseStore$Attempt")), Jvm.Cond.code ({ cls := "java/util/Optional", name := "empty", desc := "()Ljava/util/Optional;" } : Jvm.MethodName) jdk_32_method_1_code (1 : Nat) (Option.some (Jvm.ClassFile.FieldType.object "java/util/Optional")), Jvm.Cond.code ({ cls := "com/example/lease_over_store/leaseoverstore/lease/QueuedLeaseStore$Attempt", name := "<init>", desc := "(Ljava/util/Optional;J)V" } : Jvm.MethodName) prog_20_method_1_code (4 : Nat) (Option.none : Option Jvm.ClassFile.FieldType), Jvm.Cond.code ({ cls := "java/lang/Object", name := "<init>", desc := "()V" } : Jvm.MethodName) object_method_1_code (1 : Nat) (Option.none : Option Jvm.ClassFile.FieldType), Jvm.Cond.code ({ cls := "com/example/lease_over_store/leaseoverstore/lease/Taken", name := "<init>", desc := "(JLjava/time/Instant;)V" } : Jvm.MethodName) prog_26_method_1_code (4 : Nat) (Option.none : Option Jvm.ClassFile.FieldType), Jvm.Cond.code ({ cls := "com/example/lease_over_store/leaseoverstore/lease/Taken", name := "<init>", desc := "(JLjava/time/Instant;Ljava/time/Duration;)V" } : Jvm.MethodName) prog_26_method_2_code (5 : Nat) (Option.none : Option Jvm.ClassFile.FieldType), Jvm.Cond.code ({ cls := "com/example/lease_over_store/leaseoverstore/lease/QueuedLeaseStore$Attempt", name := "taken", desc := "(Lcom/example/lease_over_store/leaseoverstore/lease/Taken;)Lcom/example/lease_over_store/leaseoverstore/lease/QueuedLeaseStore$Attempt;" } : Jvm.MethodName) prog_20_method_3_code (1 : Nat) (Option.some (Jvm.ClassFile.FieldType.object "com/example/lease_over_store/leaseoverstore/lease/QueuedLeaseStore$Attempt")), Jvm.Cond.code ({ cls := "java/util/Optional", name := "of", desc := "(Ljava/lang/Object;)Ljava/util/Optional;" } : Jvm.MethodName) jdk_32_method_3_code (1 : Nat) (Option.some (Jvm.ClassFile.FieldType.object "java/util/Optional")), Jvm.Cond.code ({ cls := "java/util/Objects", name := "requireNonNull", desc := "(Ljava/lang/Object;)Ljava/lang/Object;" } : Jvm.MethodName) jdk_31_method_10_code (1 : Nat) (Option.some (Jvm.ClassFile.FieldType.object "java/lang/Object")), Jvm.Cond.code ({ cls := "java/util/Optional", name := "<init>", desc := "(Ljava/lang/Object;)V" } : Jvm.MethodName) jdk_32_method_2_code (2 : Nat) (Option.none : Option Jvm.ClassFile.FieldType), Jvm.Cond.code ({ cls := "com/example/lease_over_store/leaseoverstore/lease/QueuedLeaseStore$Attempt", name := "isTaken", desc := "()Z" } : Jvm.MethodName) prog_20_method_4_code (1 : Nat) (Option.some Jvm.ClassFile.FieldType.boolean), Jvm.Cond.code ({ cls := "java/util/Optional", name := "isPresent", desc := "()Z" } : Jvm.MethodName) jdk_32_method_6_code (1 : Nat) (Option.some Jvm.ClassFile.FieldType.boolean)]
set_option maxRecDepth 65536 in
theorem codes_eq : words1.filter isCode = codes1 := rfl
theorem w_codes : ∀ c ∈ words1.filter isCode, c.before args0 about1 = true := by
  rw [codes_eq]
  intro c hc
  simp only [codes1, List.mem_cons, List.not_mem_nil, or_false] at hc
  rcases hc with rfl | rfl | rfl | rfl | rfl | rfl | rfl | rfl | rfl | rfl | rfl | rfl | rfl
  · exact w_c0
  · exact w_c1
  · exact w_c2
  · exact w_c3
  · exact w_c4
  · exact w_c5
  · exact w_c6
  · exact w_c7
  · exact w_c8
  · exact w_c9
  · exact w_c10
  · exact w_c11
  · exact w_c12
set_option maxRecDepth 65536 in
theorem w_t1 : (words1.take 24).all (fun c => isCode c || c.before args0 about1) = true := by decide +kernel
set_option maxRecDepth 65536 in
theorem w_t2 : ((words1.drop 24).take 24).all (fun c => isCode c || c.before args0 about1) = true := by decide +kernel
set_option maxRecDepth 65536 in
theorem w_t3 : ((words1.drop 24).drop 24).all (fun c => isCode c || c.before args0 about1) = true := by decide +kernel
theorem w_tables : (allAtoms (Jvm.Cond.code x code maxLocals ret :: tables_1)).before args0 about1 = true := by
  rw [allAtoms_all]
  show words1.all (fun c => c.before args0 about1) = true
  refine all_split ?_ w_codes
  rw [← List.take_append_drop 24 words1, List.all_append, w_t1, ← List.take_append_drop 24 (words1.drop 24), List.all_append, w_t2, w_t3]
  rfl
set_option maxRecDepth 65536 in
theorem w_rest : rest_1_c.before args0 about1 = true := by decide +kernel
set_option maxRecDepth 65536 in
theorem w_case : (Jvm.Cond.and given_1 narrow_1).before args0 about1 = true := by decide +kernel
theorem w_applies : (headSpec (Jvm.Cond.code x code maxLocals ret :: tables_1) room_1).applies x e0.platform about1 = true :=
  (Spec.applies_iff w_frames).mpr ⟨w_running, w_runnable, w_alone, w_named, w_hears, w_ripe, w_room, w_tables⟩
theorem atStart : AtStart classFile x code maxLocals ret World_1 tables_1 room_1 Calls_1 rest_1 Pre_1 launch0 p0 e0 about1 theMethod args0 below0 :=
  ⟨lists_1, trivial, launch0.admits_env _ _ _, launch0.least_env, fairChoices_fair.cas, fairChoices_fair.clock, w_frames, w_args, w_heap, w_applies, trivial, w_rest, w_case⟩
end start1
theorem witness_1 : WitnessClaimed_1 := ⟨start1.p0, start1.e0, start1.about1, start1.theMethod, start1.args0, start1.below0, start1.atStart⟩
end Jvm.Pilot.@@N@@
