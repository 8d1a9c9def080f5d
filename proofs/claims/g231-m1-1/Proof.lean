import JvmDerived
import JvmDerived.Pilot.@@N@@Statement
import JvmDerived.Pilot.@@N@@Code
set_option linter.unusedVariables false
set_option linter.unusedSimpArgs false

namespace Jvm.Pilot.@@N@@
open Jvm Jvm.ClassFile Sem Op Lib Jvm.Free Jvm.Stand Jvm.LawKit Jvm.RoadKit Bundle Jvm.Pilot.@@N@@.Jvm.D
abbrev oi (x : Int32) : Slot := .val (.int x)
abbrev oa (x : Addr) : Slot := .val (.ref x)
/-- from here the run comes to its end with what P says -/
def oGo (p : Program) (e : Env) (below : List Frame) (P : Outcome → State → Prop) (T : State) (g : JFrame) : Prop := ∃ s₂ o, Steps p.tables e below (T.setTop g) s₂ ∧ s₂.status = .running ∧ Ended s₂ below o ∧ P o s₂
theorem oby {p : Program} {e : Env} {below : List Frame} {P : Outcome → State → Prop} {T T' : State} {g g' : JFrame} (k : ∀ t, Steps p.tables e below (T'.setTop g') t → Steps p.tables e below (T.setTop g) t) (h : oGo p e below P T' g') : oGo p e below P T g := by
  obtain ⟨s₂, o, h1, h2⟩ := h
  exact ⟨s₂, o, k _ h1, h2⟩
theorem ostart {p : Program} {e : Env} {below : List Frame} {P : Outcome → State → Prop} {T : State} {g g' : JFrame} (q : g = g') (h : oGo p e below P T g') : ∃ s₂ o, Steps p.tables e below (T.setTop g) s₂ ∧ s₂.status = .running ∧ Ended s₂ below o ∧ P o s₂ := by subst q; exact h
theorem oout {p : Program} {e : Env} {below : List Frame} {P : Outcome → State → Prop} {T s₂ : State} {g : JFrame} {o : Outcome} (h1 : Steps p.tables e below (T.setTop g) s₂) (h2 : s₂.status = .running) (h3 : Ended s₂ below o) (h4 : P o s₂) : oGo p e below P T g := ⟨s₂, o, h1, h2, h3, h4⟩
theorem ob {p : Program} {e : Env} {below : List Frame} {P : Outcome → State → Prop} {T : State} {g : JFrame} (T' : State) (g' : JFrame) (k : ∀ t, Steps p.tables e below (T'.setTop g') t → Steps p.tables e below (T.setTop g) t) (h : oGo p e below P T' g') : oGo p e below P T g := oby k h
theorem osuff {p : Program} {e : Env} {below : List Frame} {P : Outcome → State → Prop} {T T' : State} {g g' : JFrame} (h1 : oGo p e below P T' g' → oGo p e below P T g) (h2 : oGo p e below P T' g') : oGo p e below P T g := h1 h2
theorem ow {L : List Jvm.Cond} {Z : State} {a0 : Array Value} (hw : ∀ d ∈ L, d.before a0 Z = true) (k : Nat) {d : Jvm.Cond} (h : L[k]? = some d) : d.before a0 Z = true := hw d (List.mem_of_getElem? h)
theorem on0 {Z : State} {n0 : Nat} {h : Heap} (O : Old Z n0 h) : n0 ≤ h.size := by have h1 := O.1; have h2 := O.2.1; omega
theorem oretA {p : Program} {l : Launch} {e : Env} {R : Room} {s : State} {m : MethodId} {args : Array Value} {below : List Frame} {meth : Method} {c : Code} {T : State} {locs : List Loc} {cells slots : Nat} (X : Stand p l e R s m args below meth c T locs cells slots) (hx : p.tables.exec = Jvm.exec) {pc : Nat} {Ls : Array Slot} {w : Value} {t : FieldType} {rest : List Value} (hret : meth.sig.returnType = some t) (ht : t.isReference = true) (hw : w.isRef = true)
    (hd : decode c.code pc = .ok (.areturn, 1)) {fs : List Frame} (hl : ∀ (f : JFrame) (acts : List Action), f.method = m → f.locked = none → f.entered = [] → (doReturn e (T.setTop f) acts (some w)).1 = T.setFrames fs) :
    Steps p.tables e below (T.setTop (mkF m pc Ls (w :: rest))) (T.setFrames fs) :=
  retOut X hx hret (by cases w <;> first | (simp [Value.isRef] at hw; done) | (cases t <;> rfl)) (Or.inr (Or.inr (Or.inr (Or.inr ⟨rfl, ht, hw⟩)))) hd hl

theorem own_sta {s : State} {args : Array Value} {C n d K : String} (h : (Cond.exactly (.static C n d) K).value args s none s [] = some true) (hi : (Cond.initializedFor C n d).before args s = true ∨ ((Cond.initialized C).before args s = true ∧ (Cond.laysStatic C n d).before args s = true)) :
    ∃ a, (Term.static C n d).eval args s none [] s = some (.ref a) ∧ Sta s s.heap C n d (.ref a) ∧ Exa s s.heap a K := by
  obtain ⟨a, ev⟩ := exa_v h
  exact ⟨a, ev, Sta.start ev hi, Exa.start ev h⟩
theorem own_fldI {s : State} {args : Array Value} {t : Term} {a : Addr} {C n d : String} {k : Int32} (ev : t.eval args s none [] s = some (.ref a)) (h : (Cond.eq (.field t C n d) (.int k)).value args s none s [] = some true) : Fld s s.heap a C n d (.int k) := by
  obtain ⟨x, y, ex, ey, k1, k2⟩ := cmp_v (Or.inl h)
  have e2 : y = .int k := (Option.some.inj ((Term.int_eval k).symm.trans ey)).symm
  subst e2
  obtain ⟨z, rfl⟩ := k2
  have e3 : z = k := gotT (Cond.eq_ints ex ey) h
  subst e3
  exact Fld.start ((fld_at ev).symm.trans ex)
theorem own_fldL {s : State} {args : Array Value} {t : Term} {a : Addr} {C n d : String} {k : Int64} (ev : t.eval args s none [] s = some (.ref a)) (h : (Cond.eq (.field t C n d) (.long k)).value args s none s [] = some true) : Fld s s.heap a C n d (.long k) := by
  obtain ⟨x, y, ex, ey, k1, k2⟩ := cmp_v (Or.inl h)
  have e2 : y = .long k := by simpa [Term.eval] using ey.symm
  subst e2
  obtain ⟨z, rfl⟩ := k2
  have e3 : z = k := gotT (eq_L ex ey) h
  subst e3
  exact Fld.start ((fld_at ev).symm.trans ex)
theorem own_fldN {s : State} {args : Array Value} {t : Term} {a : Addr} {C n d : String} (ev : t.eval args s none [] s = some (.ref a)) (h : (Cond.eq (.field t C n d) .null).value args s none s [] = some true) : Fld s s.heap a C n d .null :=
  Fld.start ((fld_at ev).symm.trans (null_v h))
theorem pn_0 : plainName "com/example/vestwright/vestwright/rules/HceStatus" = true := by first | (simp [plainName, overriddenIn]; done) | decide +kernel
theorem pn_1 : plainName "com/example/vestwright/vestwright/rules/HceStatusHighlyCompensatedPinLaw" = true := by first | (simp [plainName, overriddenIn]; done) | decide +kernel
def St0 (Z : State) (w_OWNER : Addr) (w_NOT_HIGHLY_COMPENSATED : Addr) (w_COMPENSATION : Addr) : Prop := Sta Z Z.heap "com/example/vestwright/vestwright/rules/HceStatus" "OWNER" "Lcom/example/vestwright/vestwright/rules/HceStatus;" (.ref w_OWNER) ∧ Exa Z Z.heap w_OWNER "com/example/vestwright/vestwright/rules/HceStatus" ∧ Sta Z Z.heap "com/example/vestwright/vestwright/rules/HceStatus" "NOT_HIGHLY_COMPENSATED" "Lcom/example/vestwright/vestwright/rules/HceStatus;" (.ref w_NOT_HIGHLY_COMPENSATED) ∧ Exa Z Z.heap w_NOT_HIGHLY_COMPENSATED "com/example/vestwright/vestwright/rules/HceStatus" ∧ Sta Z Z.heap "com/example/vestwright/vestwright/rules/HceStatus" "COMPENSATION" "Lcom/example/vestwright/vestwright/rules/HceStatus;" (.ref w_COMPENSATION) ∧ Exa Z Z.heap w_COMPENSATION "com/example/vestwright/vestwright/rules/HceStatus" ∧ Fld Z Z.heap w_OWNER "java/lang/Enum" "ordinal" "I" (.int (0 : Int32)) ∧ Fld Z Z.heap w_NOT_HIGHLY_COMPENSATED "java/lang/Enum" "ordinal" "I" (.int (2 : Int32)) ∧ Fld Z Z.heap w_COMPENSATION "java/lang/Enum" "ordinal" "I" (.int (1 : Int32)) ∧ w_OWNER ≠ w_NOT_HIGHLY_COMPENSATED ∧ w_OWNER ≠ w_COMPENSATION ∧ w_NOT_HIGHLY_COMPENSATED ≠ w_COMPENSATION

theorem d1_0 : decode prog_45_method_4_code 0 = .ok (.aload_n 0, 1) := by decide +kernel
theorem d1_1 : decode prog_45_method_4_code 1 = .ok (.getstatic 10, 3) := by decide +kernel
theorem d1_4 : decode prog_45_method_4_code 4 = .ok (.if_acmp .eq 7, 3) := by decide +kernel
theorem d1_7 : decode prog_45_method_4_code 7 = .ok (.iconst 1, 1) := by decide +kernel
theorem d1_8 : decode prog_45_method_4_code 8 = .ok (.goto 4, 3) := by decide +kernel
theorem d1_12 : decode prog_45_method_4_code 12 = .ok (.ireturn, 1) := by decide +kernel
def Q_rm_hc_OWNER (Z : State) (w_OWNER : Addr) (w_NOT_HIGHLY_COMPENSATED : Addr) (w_COMPENSATION : Addr)  (h0 : Heap) (n0 : Nat) (v : Option Value) (h : Heap) (L : List Loc) : Prop := v = some (.int (1 : Int32)) ∧ Fr n0 L ∧ h = h0
set_option maxRecDepth 65536 in
set_option maxHeartbeats 40000000 in
theorem rm_hc_OWNER (l : Launch) (Z : State) (a0 : Array Value) (hw : ∀ d ∈ tables_1, d.before a0 Z = true) (ws : List Jvm.Cond) (w_OWNER : Addr) (w_NOT_HIGHLY_COMPENSATED : Addr) (w_COMPENSATION : Addr)  (h0 : Heap) (n0 : Nat) (O0 : Old Z n0 h0) (hS : St0 Z w_OWNER w_NOT_HIGHLY_COMPENSATED w_COMPENSATION ) :
    MetFree l (⟨"com/example/vestwright/vestwright/rules/HceStatus", "highlyCompensated", "()Z"⟩ : MethodName) (head1 (Jvm.Cond.code (⟨"com/example/vestwright/vestwright/rules/HceStatus", "highlyCompensated", "()Z"⟩ : MethodName) prog_45_method_4_code 1 (some .boolean) :: ws) ({ frames := 0, cells := 0, slots := 0, locals := 0 } : Room)) (fun a U => a = #[(.ref w_OWNER)] ∧ Z.Warmed39 U.vm ∧ U.heap = h0) (fun _ _ _ _ _ => True) (fun _ U o U' => ∃ v L, o = .returned v ∧ Q_rm_hc_OWNER Z w_OWNER w_NOT_HIGHLY_COMPENSATED w_COMPENSATION  h0 n0 v U'.heap L ∧ FrameEnd U o U' L ({ frames := 0, cells := 0, slots := 0, locals := 0 } : Room).cells ({ frames := 0, cells := 0, slots := 0, locals := 0 } : Room).slots) := by
  refine MetFree.of_bodySF (plainFor_of_name pn_0) hisR ?_
  intro p e s m args below meth c s₁ Bd hml0 hP hK
  obtain ⟨rfl, hZ, hh⟩ := hP
  have hx := Bd.exec
  have hby := Bd.bytes
  have hml : c.maxLocals = 1 := hml0
  have hown : s.vm.findClass "com/example/vestwright/vestwright/rules/HceStatus" = some m.cls := findClass_of_methodNamed Bd.named
  have hnm := (name_of_methodNamed Bd.named Bd.method).1
  have X0 : Stand p l e ({ frames := 0, cells := 0, slots := 0, locals := 0 } : Room) s m #[(.ref w_OWNER)] below meth c s₁ [] 0 0 := Stand.of_body Bd
  have e0 : s₁.heap = h0 := by rw [← hh, Bd.state]; rfl
  have N0 := Fr.nil n0
  have K0 := Keep.refl h0 []
  obtain ⟨S_w_OWNER, E_w_OWNER, S_w_NOT_HIGHLY_COMPENSATED, E_w_NOT_HIGHLY_COMPENSATED, S_w_COMPENSATION, E_w_COMPENSATION, F_w_OWNER_ordinal, F_w_NOT_HIGHLY_COMPENSATED_ordinal, F_w_COMPENSATION_ordinal, ne_w_OWNER_w_NOT_HIGHLY_COMPENSATED, ne_w_OWNER_w_COMPENSATION, ne_w_NOT_HIGHLY_COMPENSATED_w_COMPENSATION⟩ := (id hS : St0 Z w_OWNER w_NOT_HIGHLY_COMPENSATED w_COMPENSATION )
  refine ostart (g' := (mkF m 0 #[.val (.ref w_OWNER)] [])) (by first | (simp [entryFrame, mkF, argsToLocals, Value.category]; done) | rfl) ?_
  refine ob s₁ (mkF m 1 #[.val (.ref w_OWNER)] [(.ref w_OWNER)]) (fun _ kk => XS.aloadN X0.here hx rfl (hb hby d1_0) rfl rfl kk) ?_
  obtain ⟨T1, X1, e1, st1⟩ := getS2 X0 hx hZ hown (host := "") (Or.inl (ow hw 9 rfl)) Via.refl e0 (S_w_NOT_HIGHLY_COMPENSATED.ext O0.2) (g := (mkF m 1 #[.val (.ref w_OWNER)] [(.ref w_OWNER)])) rfl (hb hby d1_1)
  refine ob T1 (mkF m 4 #[.val (.ref w_OWNER)] [(.ref w_NOT_HIGHLY_COMPENSATED), (.ref w_OWNER)]) (fun _ kk => st1 _ kk) ?_
  refine ob T1 (mkF m 7 #[.val (.ref w_OWNER)] []) (fun _ kk => Jvm.RoadKit.acmp (g := (mkF m 4 #[.val (.ref w_OWNER)] [(.ref w_NOT_HIGHLY_COMPENSATED), (.ref w_OWNER)])) X1 hx rfl rfl rfl (pc0 := 4) (pc' := 7) (same := false) rfl (hb hby d1_4) rfl (decide_eq_false fun q => ne_w_OWNER_w_NOT_HIGHLY_COMPENSATED (Value.ref.inj q)) (by decide) (by decide) kk) ?_
  refine ob T1 (mkF m 8 #[.val (.ref w_OWNER)] [(.int (1 : Int32))]) (fun _ kk => XS.iconst X1.here hx rfl (hb hby d1_7) kk) ?_
  refine ob T1 (mkF m 12 #[.val (.ref w_OWNER)] [(.int (1 : Int32))]) (fun _ kk => XS.goto X1.here hx rfl (pc0 := 8) (pc' := 12) rfl (hb hby d1_8) (by decide) (by decide) kk) ?_
  obtain ⟨fs, hr, hrun, hended, hW, hsame⟩ := X1.leave (v := some (.int (1 : Int32))) (fun h => by rw [Bd.returns] at h; cases h)
  refine oout (retN X1 hx (t := .boolean) Bd.returns (by simp) (hb hby d1_12) hr) hrun hended ⟨_, _, rfl, ?_, ⟨_, rfl⟩, hW, hsame.mono (by decide) (by decide)⟩
  show Q_rm_hc_OWNER Z w_OWNER w_NOT_HIGHLY_COMPENSATED w_COMPENSATION  h0 n0 _ T1.heap _
  rw [e1]
  exact ⟨rfl, N0, rfl⟩

theorem d1_11 : decode prog_45_method_4_code 11 = .ok (.iconst 0, 1) := by decide +kernel
def Q_rm_hc_NOT_H (Z : State) (w_OWNER : Addr) (w_NOT_HIGHLY_COMPENSATED : Addr) (w_COMPENSATION : Addr)  (h0 : Heap) (n0 : Nat) (v : Option Value) (h : Heap) (L : List Loc) : Prop := v = some (.int (0 : Int32)) ∧ Fr n0 L ∧ h = h0
set_option maxRecDepth 65536 in
set_option maxHeartbeats 40000000 in
theorem rm_hc_NOT_H (l : Launch) (Z : State) (a0 : Array Value) (hw : ∀ d ∈ tables_1, d.before a0 Z = true) (ws : List Jvm.Cond) (w_OWNER : Addr) (w_NOT_HIGHLY_COMPENSATED : Addr) (w_COMPENSATION : Addr)  (h0 : Heap) (n0 : Nat) (O0 : Old Z n0 h0) (hS : St0 Z w_OWNER w_NOT_HIGHLY_COMPENSATED w_COMPENSATION ) :
    MetFree l (⟨"com/example/vestwright/vestwright/rules/HceStatus", "highlyCompensated", "()Z"⟩ : MethodName) (head1 (Jvm.Cond.code (⟨"com/example/vestwright/vestwright/rules/HceStatus", "highlyCompensated", "()Z"⟩ : MethodName) prog_45_method_4_code 1 (some .boolean) :: ws) ({ frames := 0, cells := 0, slots := 0, locals := 0 } : Room)) (fun a U => a = #[(.ref w_NOT_HIGHLY_COMPENSATED)] ∧ Z.Warmed39 U.vm ∧ U.heap = h0) (fun _ _ _ _ _ => True) (fun _ U o U' => ∃ v L, o = .returned v ∧ Q_rm_hc_NOT_H Z w_OWNER w_NOT_HIGHLY_COMPENSATED w_COMPENSATION  h0 n0 v U'.heap L ∧ FrameEnd U o U' L ({ frames := 0, cells := 0, slots := 0, locals := 0 } : Room).cells ({ frames := 0, cells := 0, slots := 0, locals := 0 } : Room).slots) := by
  refine MetFree.of_bodySF (plainFor_of_name pn_0) hisR ?_
  intro p e s m args below meth c s₁ Bd hml0 hP hK
  obtain ⟨rfl, hZ, hh⟩ := hP
  have hx := Bd.exec
  have hby := Bd.bytes
  have hml : c.maxLocals = 1 := hml0
  have hown : s.vm.findClass "com/example/vestwright/vestwright/rules/HceStatus" = some m.cls := findClass_of_methodNamed Bd.named
  have hnm := (name_of_methodNamed Bd.named Bd.method).1
  have X0 : Stand p l e ({ frames := 0, cells := 0, slots := 0, locals := 0 } : Room) s m #[(.ref w_NOT_HIGHLY_COMPENSATED)] below meth c s₁ [] 0 0 := Stand.of_body Bd
  have e0 : s₁.heap = h0 := by rw [← hh, Bd.state]; rfl
  have N0 := Fr.nil n0
  have K0 := Keep.refl h0 []
  obtain ⟨S_w_OWNER, E_w_OWNER, S_w_NOT_HIGHLY_COMPENSATED, E_w_NOT_HIGHLY_COMPENSATED, S_w_COMPENSATION, E_w_COMPENSATION, F_w_OWNER_ordinal, F_w_NOT_HIGHLY_COMPENSATED_ordinal, F_w_COMPENSATION_ordinal, ne_w_OWNER_w_NOT_HIGHLY_COMPENSATED, ne_w_OWNER_w_COMPENSATION, ne_w_NOT_HIGHLY_COMPENSATED_w_COMPENSATION⟩ := (id hS : St0 Z w_OWNER w_NOT_HIGHLY_COMPENSATED w_COMPENSATION )
  refine ostart (g' := (mkF m 0 #[.val (.ref w_NOT_HIGHLY_COMPENSATED)] [])) (by first | (simp [entryFrame, mkF, argsToLocals, Value.category]; done) | rfl) ?_
  refine ob s₁ (mkF m 1 #[.val (.ref w_NOT_HIGHLY_COMPENSATED)] [(.ref w_NOT_HIGHLY_COMPENSATED)]) (fun _ kk => XS.aloadN X0.here hx rfl (hb hby d1_0) rfl rfl kk) ?_
  obtain ⟨T1, X1, e1, st1⟩ := getS2 X0 hx hZ hown (host := "") (Or.inl (ow hw 9 rfl)) Via.refl e0 (S_w_NOT_HIGHLY_COMPENSATED.ext O0.2) (g := (mkF m 1 #[.val (.ref w_NOT_HIGHLY_COMPENSATED)] [(.ref w_NOT_HIGHLY_COMPENSATED)])) rfl (hb hby d1_1)
  refine ob T1 (mkF m 4 #[.val (.ref w_NOT_HIGHLY_COMPENSATED)] [(.ref w_NOT_HIGHLY_COMPENSATED), (.ref w_NOT_HIGHLY_COMPENSATED)]) (fun _ kk => st1 _ kk) ?_
  refine ob T1 (mkF m 11 #[.val (.ref w_NOT_HIGHLY_COMPENSATED)] []) (fun _ kk => Jvm.RoadKit.acmp (g := (mkF m 4 #[.val (.ref w_NOT_HIGHLY_COMPENSATED)] [(.ref w_NOT_HIGHLY_COMPENSATED), (.ref w_NOT_HIGHLY_COMPENSATED)])) X1 hx rfl rfl rfl (pc0 := 4) (pc' := 11) (same := true) rfl (hb hby d1_4) rfl (decide_eq_true rfl) (by decide) (by decide) kk) ?_
  refine ob T1 (mkF m 12 #[.val (.ref w_NOT_HIGHLY_COMPENSATED)] [(.int (0 : Int32))]) (fun _ kk => XS.iconst X1.here hx rfl (hb hby d1_11) kk) ?_
  obtain ⟨fs, hr, hrun, hended, hW, hsame⟩ := X1.leave (v := some (.int (0 : Int32))) (fun h => by rw [Bd.returns] at h; cases h)
  refine oout (retN X1 hx (t := .boolean) Bd.returns (by simp) (hb hby d1_12) hr) hrun hended ⟨_, _, rfl, ?_, ⟨_, rfl⟩, hW, hsame.mono (by decide) (by decide)⟩
  show Q_rm_hc_NOT_H Z w_OWNER w_NOT_HIGHLY_COMPENSATED w_COMPENSATION  h0 n0 _ T1.heap _
  rw [e1]
  exact ⟨rfl, N0, rfl⟩

def Q_rm_hc_COMPE (Z : State) (w_OWNER : Addr) (w_NOT_HIGHLY_COMPENSATED : Addr) (w_COMPENSATION : Addr)  (h0 : Heap) (n0 : Nat) (v : Option Value) (h : Heap) (L : List Loc) : Prop := v = some (.int (1 : Int32)) ∧ Fr n0 L ∧ h = h0
set_option maxRecDepth 65536 in
set_option maxHeartbeats 40000000 in
theorem rm_hc_COMPE (l : Launch) (Z : State) (a0 : Array Value) (hw : ∀ d ∈ tables_1, d.before a0 Z = true) (ws : List Jvm.Cond) (w_OWNER : Addr) (w_NOT_HIGHLY_COMPENSATED : Addr) (w_COMPENSATION : Addr)  (h0 : Heap) (n0 : Nat) (O0 : Old Z n0 h0) (hS : St0 Z w_OWNER w_NOT_HIGHLY_COMPENSATED w_COMPENSATION ) :
    MetFree l (⟨"com/example/vestwright/vestwright/rules/HceStatus", "highlyCompensated", "()Z"⟩ : MethodName) (head1 (Jvm.Cond.code (⟨"com/example/vestwright/vestwright/rules/HceStatus", "highlyCompensated", "()Z"⟩ : MethodName) prog_45_method_4_code 1 (some .boolean) :: ws) ({ frames := 0, cells := 0, slots := 0, locals := 0 } : Room)) (fun a U => a = #[(.ref w_COMPENSATION)] ∧ Z.Warmed39 U.vm ∧ U.heap = h0) (fun _ _ _ _ _ => True) (fun _ U o U' => ∃ v L, o = .returned v ∧ Q_rm_hc_COMPE Z w_OWNER w_NOT_HIGHLY_COMPENSATED w_COMPENSATION  h0 n0 v U'.heap L ∧ FrameEnd U o U' L ({ frames := 0, cells := 0, slots := 0, locals := 0 } : Room).cells ({ frames := 0, cells := 0, slots := 0, locals := 0 } : Room).slots) := by
  refine MetFree.of_bodySF (plainFor_of_name pn_0) hisR ?_
  intro p e s m args below meth c s₁ Bd hml0 hP hK
  obtain ⟨rfl, hZ, hh⟩ := hP
  have hx := Bd.exec
  have hby := Bd.bytes
  have hml : c.maxLocals = 1 := hml0
  have hown : s.vm.findClass "com/example/vestwright/vestwright/rules/HceStatus" = some m.cls := findClass_of_methodNamed Bd.named
  have hnm := (name_of_methodNamed Bd.named Bd.method).1
  have X0 : Stand p l e ({ frames := 0, cells := 0, slots := 0, locals := 0 } : Room) s m #[(.ref w_COMPENSATION)] below meth c s₁ [] 0 0 := Stand.of_body Bd
  have e0 : s₁.heap = h0 := by rw [← hh, Bd.state]; rfl
  have N0 := Fr.nil n0
  have K0 := Keep.refl h0 []
  obtain ⟨S_w_OWNER, E_w_OWNER, S_w_NOT_HIGHLY_COMPENSATED, E_w_NOT_HIGHLY_COMPENSATED, S_w_COMPENSATION, E_w_COMPENSATION, F_w_OWNER_ordinal, F_w_NOT_HIGHLY_COMPENSATED_ordinal, F_w_COMPENSATION_ordinal, ne_w_OWNER_w_NOT_HIGHLY_COMPENSATED, ne_w_OWNER_w_COMPENSATION, ne_w_NOT_HIGHLY_COMPENSATED_w_COMPENSATION⟩ := (id hS : St0 Z w_OWNER w_NOT_HIGHLY_COMPENSATED w_COMPENSATION )
  refine ostart (g' := (mkF m 0 #[.val (.ref w_COMPENSATION)] [])) (by first | (simp [entryFrame, mkF, argsToLocals, Value.category]; done) | rfl) ?_
  refine ob s₁ (mkF m 1 #[.val (.ref w_COMPENSATION)] [(.ref w_COMPENSATION)]) (fun _ kk => XS.aloadN X0.here hx rfl (hb hby d1_0) rfl rfl kk) ?_
  obtain ⟨T1, X1, e1, st1⟩ := getS2 X0 hx hZ hown (host := "") (Or.inl (ow hw 9 rfl)) Via.refl e0 (S_w_NOT_HIGHLY_COMPENSATED.ext O0.2) (g := (mkF m 1 #[.val (.ref w_COMPENSATION)] [(.ref w_COMPENSATION)])) rfl (hb hby d1_1)
  refine ob T1 (mkF m 4 #[.val (.ref w_COMPENSATION)] [(.ref w_NOT_HIGHLY_COMPENSATED), (.ref w_COMPENSATION)]) (fun _ kk => st1 _ kk) ?_
  refine ob T1 (mkF m 7 #[.val (.ref w_COMPENSATION)] []) (fun _ kk => Jvm.RoadKit.acmp (g := (mkF m 4 #[.val (.ref w_COMPENSATION)] [(.ref w_NOT_HIGHLY_COMPENSATED), (.ref w_COMPENSATION)])) X1 hx rfl rfl rfl (pc0 := 4) (pc' := 7) (same := false) rfl (hb hby d1_4) rfl (decide_eq_false fun q => (Ne.symm ne_w_NOT_HIGHLY_COMPENSATED_w_COMPENSATION) (Value.ref.inj q)) (by decide) (by decide) kk) ?_
  refine ob T1 (mkF m 8 #[.val (.ref w_COMPENSATION)] [(.int (1 : Int32))]) (fun _ kk => XS.iconst X1.here hx rfl (hb hby d1_7) kk) ?_
  refine ob T1 (mkF m 12 #[.val (.ref w_COMPENSATION)] [(.int (1 : Int32))]) (fun _ kk => XS.goto X1.here hx rfl (pc0 := 8) (pc' := 12) rfl (hb hby d1_8) (by decide) (by decide) kk) ?_
  obtain ⟨fs, hr, hrun, hended, hW, hsame⟩ := X1.leave (v := some (.int (1 : Int32))) (fun h => by rw [Bd.returns] at h; cases h)
  refine oout (retN X1 hx (t := .boolean) Bd.returns (by simp) (hb hby d1_12) hr) hrun hended ⟨_, _, rfl, ?_, ⟨_, rfl⟩, hW, hsame.mono (by decide) (by decide)⟩
  show Q_rm_hc_COMPE Z w_OWNER w_NOT_HIGHLY_COMPENSATED w_COMPENSATION  h0 n0 _ T1.heap _
  rw [e1]
  exact ⟨rfl, N0, rfl⟩

theorem own_k3 (p : Int32) : ((p &&& (2147483647 : Int32)) % (3 : Int32)) = (0 : Int32) ∨ ((p &&& (2147483647 : Int32)) % (3 : Int32)) = (1 : Int32) ∨ ((p &&& (2147483647 : Int32)) % (3 : Int32)) = (2 : Int32) := by
  have h1 := c_mask p (2147483647 : Int32) 31 (by decide) (by decide)
  have h2 := (c_irem (p &&& (2147483647 : Int32)) (3 : Int32) 3 (by decide)).1 (by omega)
  have h3 : ((p &&& (2147483647 : Int32)) % (3 : Int32)).toInt = 0 ∨ ((p &&& (2147483647 : Int32)) % (3 : Int32)).toInt = 1 ∨ ((p &&& (2147483647 : Int32)) % (3 : Int32)).toInt = 2 := by omega
  rcases h3 with h | h | h
  · exact Or.inl (Int32.toInt_inj.mp (h.trans (by decide)))
  · exact Or.inr (Or.inl (Int32.toInt_inj.mp (h.trans (by decide))))
  · exact Or.inr (Or.inr (Int32.toInt_inj.mp (h.trans (by decide))))

theorem pd_0 : parseMethodDescriptor "()Z" = some ⟨[], some .boolean⟩ := by decide +kernel
def Q_rm0 (Z : State) (w_OWNER : Addr) (w_NOT_HIGHLY_COMPENSATED : Addr) (w_COMPENSATION : Addr) (p0 : Int32) (h0 : Heap) (n0 : Nat) (v : Option Value) (h : Heap) (L : List Loc) : Prop := v = some (.int (1 : Int32)) ∧ Fr n0 L
set_option maxRecDepth 65536 in
set_option maxHeartbeats 40000000 in
theorem rm0 (l : Launch) (Z : State) (a0 : Array Value) (hw : ∀ d ∈ tables_1, d.before a0 Z = true) (ws : List Jvm.Cond) (w_OWNER : Addr) (w_NOT_HIGHLY_COMPENSATED : Addr) (w_COMPENSATION : Addr) (p0 : Int32) (h0 : Heap) (n0 : Nat) (O0 : Old Z n0 h0) (hS : St0 Z w_OWNER w_NOT_HIGHLY_COMPENSATED w_COMPENSATION ) :
    MetFree l x (head1 (Jvm.Cond.code x code maxLocals ret :: ws) room_1) (fun a U => a = #[(.int p0)] ∧ Z.Warmed39 U.vm ∧ U.heap = h0) (fun _ _ _ _ _ => True) (fun _ U o U' => ∃ v L, o = .returned v ∧ Q_rm0 Z w_OWNER w_NOT_HIGHLY_COMPENSATED w_COMPENSATION p0 h0 n0 v U'.heap L ∧ FrameEnd U o U' L 0 0) := by
  refine MetFree.of_bodySF (plainFor_of_name pn_1) hisR ?_
  intro p e s m args below meth c s₁ Bd hml0 hP hK
  obtain ⟨rfl, hZ, hh⟩ := hP
  have hx := Bd.exec
  have hby := Bd.bytes
  have hml : c.maxLocals = 4 := hml0
  have hown : s.vm.findClass "com/example/vestwright/vestwright/rules/HceStatusHighlyCompensatedPinLaw" = some m.cls := findClass_of_methodNamed Bd.named
  have hnm := (name_of_methodNamed Bd.named Bd.method).1
  have X0 : Stand p l e room_1 s m #[(.int p0)] below meth c s₁ [] 0 0 := Stand.of_body Bd
  have e0 : s₁.heap = h0 := by rw [← hh, Bd.state]; rfl
  have N0 := Fr.nil n0
  have K0 := Keep.refl h0 []
  obtain ⟨S_w_OWNER, E_w_OWNER, S_w_NOT_HIGHLY_COMPENSATED, E_w_NOT_HIGHLY_COMPENSATED, S_w_COMPENSATION, E_w_COMPENSATION, F_w_OWNER_ordinal, F_w_NOT_HIGHLY_COMPENSATED_ordinal, F_w_COMPENSATION_ordinal, ne_w_OWNER_w_NOT_HIGHLY_COMPENSATED, ne_w_OWNER_w_COMPENSATION, ne_w_NOT_HIGHLY_COMPENSATED_w_COMPENSATION⟩ := (id hS : St0 Z w_OWNER w_NOT_HIGHLY_COMPENSATED w_COMPENSATION )
  refine ostart (g' := (mkF m 0 #[.val (.int p0), .unset, .unset, .unset] [])) (by first | (simp [entryFrame, mkF, argsToLocals, Value.category, maxLocals]; done) | rfl) ?_
  refine ob s₁ (mkF m 1 #[.val (.int p0), .unset, .unset, .unset] [(.int p0)]) (fun _ kk => XS.iloadN X0.here hx rfl (hb hby at_0) rfl kk) ?_
  refine ob s₁ (mkF m 3 #[.val (.int p0), .unset, .unset, .unset] [(.int (2147483647 : Int32)), (.int p0)]) (fun _ kk => X0.ldcInt hx hown (mvT hZ (ow hw 0 rfl)) (g := (mkF m 1 #[.val (.int p0), .unset, .unset, .unset] [(.int p0)])) rfl (hb hby at_1) _ kk) ?_
  refine ob s₁ (mkF m 4 #[.val (.int p0), .unset, .unset, .unset] [(.int (p0 &&& (2147483647 : Int32)))]) (fun _ kk => XS.iand X0.here hx rfl (hb hby at_3) rfl kk) ?_
  refine ob s₁ (mkF m 5 #[.val (.int p0), .unset, .unset, .unset] [(.int (3 : Int32)), (.int (p0 &&& (2147483647 : Int32)))]) (fun _ kk => XS.iconst X0.here hx rfl (hb hby at_4) kk) ?_
  refine ob s₁ (mkF m 6 #[.val (.int p0), .unset, .unset, .unset] [(.int ((p0 &&& (2147483647 : Int32)) % (3 : Int32)))]) (fun _ kk => iremM X0 hx rfl (hb hby at_5) rfl (by decide) kk) ?_
  refine ob s₁ (mkF m 7 #[.val (.int p0), .val (.int ((p0 &&& (2147483647 : Int32)) % (3 : Int32))), .unset, .unset] []) (fun _ kk => XS.istoreN X0.here hx rfl (hb hby at_6) rfl (l' := #[.val (.int p0), .val (.int ((p0 &&& (2147483647 : Int32)) % (3 : Int32))), .unset, .unset]) rfl kk) ?_
  rcases own_k3 p0 with hk | hk | hk
  · rw [hk]
    show oGo p e below _ s₁ (mkF m 7 #[.val (.int p0), .val (.int (0 : Int32)), .unset, .unset] [])
    refine ob s₁ (mkF m 8 #[.val (.int p0), .val (.int (0 : Int32)), .unset, .unset] [(.int (0 : Int32))]) (fun _ kk => XS.iloadN X0.here hx rfl (hb hby at_7) rfl kk) ?_
    refine ob s₁ (mkF m 11 #[.val (.int p0), .val (.int (0 : Int32)), .unset, .unset] []) (fun _ kk => XS.ifNo X0.here hx rfl (hb hby at_8) rfl ((if0 _ _).trans (teq (by decide : (0 : Int32) = (0 : Int32))).2) kk) ?_
    obtain ⟨T1, X1, e1, st1⟩ := getS2 X0 hx hZ hown (host := "") (Or.inl (ow hw 1 rfl)) Via.refl e0 (S_w_OWNER.ext O0.2) (g := (mkF m 11 #[.val (.int p0), .val (.int (0 : Int32)), .unset, .unset] [])) rfl (hb hby at_11)
    refine ob T1 (mkF m 14 #[.val (.int p0), .val (.int (0 : Int32)), .unset, .unset] [(.ref w_OWNER)]) (fun _ kk => st1 _ kk) ?_
    refine ob T1 (mkF m 15 #[.val (.int p0), .val (.int (0 : Int32)), .val (.ref w_OWNER), .unset] []) (fun _ kk => XS.astoreN X1.here hx rfl (hb hby at_14) rfl rfl (l' := #[.val (.int p0), .val (.int (0 : Int32)), .val (.ref w_OWNER), .unset]) rfl kk) ?_
    refine ob T1 (mkF m 16 #[.val (.int p0), .val (.int (0 : Int32)), .val (.ref w_OWNER), .unset] [(.int (1 : Int32))]) (fun _ kk => XS.iconst X1.here hx rfl (hb hby at_15) kk) ?_
    refine ob T1 (mkF m 17 #[.val (.int p0), .val (.int (0 : Int32)), .val (.ref w_OWNER), .val (.int (1 : Int32))] []) (fun _ kk => XS.istoreN X1.here hx rfl (hb hby at_16) rfl (l' := #[.val (.int p0), .val (.int (0 : Int32)), .val (.ref w_OWNER), .val (.int (1 : Int32))]) rfl kk) ?_
    refine ob T1 (mkF m 40 #[.val (.int p0), .val (.int (0 : Int32)), .val (.ref w_OWNER), .val (.int (1 : Int32))] []) (fun _ kk => XS.goto X1.here hx rfl (pc0 := 17) (pc' := 40) rfl (hb hby at_17) (by decide) (by decide) kk) ?_
    refine ob T1 (mkF m 41 #[.val (.int p0), .val (.int (0 : Int32)), .val (.ref w_OWNER), .val (.int (1 : Int32))] [(.ref w_OWNER)]) (fun _ kk => XS.aloadN X1.here hx rfl (hb hby at_40) rfl rfl kk) ?_
    obtain ⟨cq2, kq2, q2a, q2b, q2c⟩ := isOf hZ e1 (E_w_OWNER.ext O0.2)
    obtain ⟨_, _, ⟨T2, L2, k2, n2⟩, -, X2, ⟨Lc2, hQ2, l2, y2, z2⟩, st2⟩ := X1.virtualBack hx (y := (⟨"com/example/vestwright/vestwright/rules/HceStatus", "highlyCompensated", "()Z"⟩ : MethodName)) (z := (⟨"com/example/vestwright/vestwright/rules/HceStatus", "highlyCompensated", "()Z"⟩ : MethodName)) hown (mvT hZ (ow hw 4 rfl)) (mvT hZ (ow hw 5 rfl)) (notFace_of_selects (args := #[]) (mvT hZ (ow hw 7 rfl))) (mvT hZ (ow hw 7 rfl)) (mvT hZ (ow hw 6 rfl)) (by decide) (backOf (W := 0) (rm_hc_OWNER l Z a0 hw [] w_OWNER w_NOT_HIGHLY_COMPENSATED w_COMPENSATION  h0 n0 O0 hS ) hZ (ow hw 8 rfl) (ow hw 2 rfl) (by decide) (by decide)) q2a q2c (g := (mkF m 41 #[.val (.int p0), .val (.int (0 : Int32)), .val (.ref w_OWNER), .val (.int (1 : Int32))] [(.ref w_OWNER)])) rfl (by rw [hml]; rfl) (Steps.refl _) (argsL := []) (rest := []) (lenOf pd_0 rfl) rfl (by show 2 * 0 + _ ≤ _; exact Nat.le_of_eq rfl) (hb hby at_41) (fun _ _ => ⟨rfl, e1, (by decide : 0 + 0 ≤ _), (by decide : 0 + 0 ≤ _)⟩)
    dsimp only [Pt.U, Pt.locs, Pt.cells, Pt.slots] at X2 l2 y2 z2 st2 hQ2
    subst l2 y2 z2
    obtain ⟨rfl, N2q, e2⟩ := hQ2
    have N2 := Fr.app N0 N2q
    refine ob T2 (mkF m 44 #[.val (.int p0), .val (.int (0 : Int32)), .val (.ref w_OWNER), .val (.int (1 : Int32))] [(.int (1 : Int32))]) (fun _ kk => st2.trans kk) ?_
    refine ob T2 (mkF m 45 #[.val (.int p0), .val (.int (0 : Int32)), .val (.ref w_OWNER), .val (.int (1 : Int32))] [(.int (1 : Int32)), (.int (1 : Int32))]) (fun _ kk => XS.iloadN X2.here hx rfl (hb hby at_44) rfl kk) ?_
    refine ob T2 (mkF m 48 #[.val (.int p0), .val (.int (0 : Int32)), .val (.ref w_OWNER), .val (.int (1 : Int32))] []) (fun _ kk => XS.icmpNo X2.here hx rfl (hb hby at_45) rfl (teq (by decide : (1 : Int32) = (1 : Int32))).2 kk) ?_
    refine ob T2 (mkF m 49 #[.val (.int p0), .val (.int (0 : Int32)), .val (.ref w_OWNER), .val (.int (1 : Int32))] [(.int (1 : Int32))]) (fun _ kk => XS.iconst X2.here hx rfl (hb hby at_48) kk) ?_
    refine ob T2 (mkF m 53 #[.val (.int p0), .val (.int (0 : Int32)), .val (.ref w_OWNER), .val (.int (1 : Int32))] [(.int (1 : Int32))]) (fun _ kk => XS.goto X2.here hx rfl (pc0 := 49) (pc' := 53) rfl (hb hby at_49) (by decide) (by decide) kk) ?_
    obtain ⟨fs, hr, hrun, hended, hW, hsame⟩ := X2.leave (v := some (.int (1 : Int32))) (fun h => by rw [Bd.returns] at h; cases h)
    refine oout (retN X2 hx (t := .boolean) Bd.returns (by simp) (hb hby at_53) hr) hrun hended ⟨_, _, rfl, ?_, ⟨_, rfl⟩, hW, hsame.mono (by decide) (by decide)⟩
    show Q_rm0 Z w_OWNER w_NOT_HIGHLY_COMPENSATED w_COMPENSATION p0 h0 n0 _ T2.heap _
    rw [e2]
    exact ⟨rfl, N2⟩
  · rw [hk]
    show oGo p e below _ s₁ (mkF m 7 #[.val (.int p0), .val (.int (1 : Int32)), .unset, .unset] [])
    refine ob s₁ (mkF m 8 #[.val (.int p0), .val (.int (1 : Int32)), .unset, .unset] [(.int (1 : Int32))]) (fun _ kk => XS.iloadN X0.here hx rfl (hb hby at_7) rfl kk) ?_
    refine ob s₁ (mkF m 20 #[.val (.int p0), .val (.int (1 : Int32)), .unset, .unset] []) (fun _ kk => XS.ifYes X0.here hx rfl (pc0 := 8) (pc' := 20) rfl (hb hby at_8) rfl ((if0 _ _).trans (feq (by decide : ¬ ((1 : Int32) = (0 : Int32)))).2) (by decide) (by decide) kk) ?_
    refine ob s₁ (mkF m 21 #[.val (.int p0), .val (.int (1 : Int32)), .unset, .unset] [(.int (1 : Int32))]) (fun _ kk => XS.iloadN X0.here hx rfl (hb hby at_20) rfl kk) ?_
    refine ob s₁ (mkF m 22 #[.val (.int p0), .val (.int (1 : Int32)), .unset, .unset] [(.int (1 : Int32)), (.int (1 : Int32))]) (fun _ kk => XS.iconst X0.here hx rfl (hb hby at_21) kk) ?_
    refine ob s₁ (mkF m 25 #[.val (.int p0), .val (.int (1 : Int32)), .unset, .unset] []) (fun _ kk => XS.icmpNo X0.here hx rfl (hb hby at_22) rfl (teq (by decide : (1 : Int32) = (1 : Int32))).2 kk) ?_
    obtain ⟨T3, X3, e3, st3⟩ := getS2 X0 hx hZ hown (host := "") (Or.inl (ow hw 12 rfl)) Via.refl e0 (S_w_COMPENSATION.ext O0.2) (g := (mkF m 25 #[.val (.int p0), .val (.int (1 : Int32)), .unset, .unset] [])) rfl (hb hby at_25)
    refine ob T3 (mkF m 28 #[.val (.int p0), .val (.int (1 : Int32)), .unset, .unset] [(.ref w_COMPENSATION)]) (fun _ kk => st3 _ kk) ?_
    refine ob T3 (mkF m 29 #[.val (.int p0), .val (.int (1 : Int32)), .val (.ref w_COMPENSATION), .unset] []) (fun _ kk => XS.astoreN X3.here hx rfl (hb hby at_28) rfl rfl (l' := #[.val (.int p0), .val (.int (1 : Int32)), .val (.ref w_COMPENSATION), .unset]) rfl kk) ?_
    refine ob T3 (mkF m 30 #[.val (.int p0), .val (.int (1 : Int32)), .val (.ref w_COMPENSATION), .unset] [(.int (1 : Int32))]) (fun _ kk => XS.iconst X3.here hx rfl (hb hby at_29) kk) ?_
    refine ob T3 (mkF m 31 #[.val (.int p0), .val (.int (1 : Int32)), .val (.ref w_COMPENSATION), .val (.int (1 : Int32))] []) (fun _ kk => XS.istoreN X3.here hx rfl (hb hby at_30) rfl (l' := #[.val (.int p0), .val (.int (1 : Int32)), .val (.ref w_COMPENSATION), .val (.int (1 : Int32))]) rfl kk) ?_
    refine ob T3 (mkF m 40 #[.val (.int p0), .val (.int (1 : Int32)), .val (.ref w_COMPENSATION), .val (.int (1 : Int32))] []) (fun _ kk => XS.goto X3.here hx rfl (pc0 := 31) (pc' := 40) rfl (hb hby at_31) (by decide) (by decide) kk) ?_
    refine ob T3 (mkF m 41 #[.val (.int p0), .val (.int (1 : Int32)), .val (.ref w_COMPENSATION), .val (.int (1 : Int32))] [(.ref w_COMPENSATION)]) (fun _ kk => XS.aloadN X3.here hx rfl (hb hby at_40) rfl rfl kk) ?_
    obtain ⟨cq4, kq4, q4a, q4b, q4c⟩ := isOf hZ e3 (E_w_COMPENSATION.ext O0.2)
    obtain ⟨_, _, ⟨T4, L4, k4, n4⟩, -, X4, ⟨Lc4, hQ4, l4, y4, z4⟩, st4⟩ := X3.virtualBack hx (y := (⟨"com/example/vestwright/vestwright/rules/HceStatus", "highlyCompensated", "()Z"⟩ : MethodName)) (z := (⟨"com/example/vestwright/vestwright/rules/HceStatus", "highlyCompensated", "()Z"⟩ : MethodName)) hown (mvT hZ (ow hw 4 rfl)) (mvT hZ (ow hw 5 rfl)) (notFace_of_selects (args := #[]) (mvT hZ (ow hw 7 rfl))) (mvT hZ (ow hw 7 rfl)) (mvT hZ (ow hw 6 rfl)) (by decide) (backOf (W := 0) (rm_hc_COMPE l Z a0 hw [] w_OWNER w_NOT_HIGHLY_COMPENSATED w_COMPENSATION  h0 n0 O0 hS ) hZ (ow hw 8 rfl) (ow hw 2 rfl) (by decide) (by decide)) q4a q4c (g := (mkF m 41 #[.val (.int p0), .val (.int (1 : Int32)), .val (.ref w_COMPENSATION), .val (.int (1 : Int32))] [(.ref w_COMPENSATION)])) rfl (by rw [hml]; rfl) (Steps.refl _) (argsL := []) (rest := []) (lenOf pd_0 rfl) rfl (by show 2 * 0 + _ ≤ _; exact Nat.le_of_eq rfl) (hb hby at_41) (fun _ _ => ⟨rfl, e3, (by decide : 0 + 0 ≤ _), (by decide : 0 + 0 ≤ _)⟩)
    dsimp only [Pt.U, Pt.locs, Pt.cells, Pt.slots] at X4 l4 y4 z4 st4 hQ4
    subst l4 y4 z4
    obtain ⟨rfl, N4q, e4⟩ := hQ4
    have N4 := Fr.app N0 N4q
    refine ob T4 (mkF m 44 #[.val (.int p0), .val (.int (1 : Int32)), .val (.ref w_COMPENSATION), .val (.int (1 : Int32))] [(.int (1 : Int32))]) (fun _ kk => st4.trans kk) ?_
    refine ob T4 (mkF m 45 #[.val (.int p0), .val (.int (1 : Int32)), .val (.ref w_COMPENSATION), .val (.int (1 : Int32))] [(.int (1 : Int32)), (.int (1 : Int32))]) (fun _ kk => XS.iloadN X4.here hx rfl (hb hby at_44) rfl kk) ?_
    refine ob T4 (mkF m 48 #[.val (.int p0), .val (.int (1 : Int32)), .val (.ref w_COMPENSATION), .val (.int (1 : Int32))] []) (fun _ kk => XS.icmpNo X4.here hx rfl (hb hby at_45) rfl (teq (by decide : (1 : Int32) = (1 : Int32))).2 kk) ?_
    refine ob T4 (mkF m 49 #[.val (.int p0), .val (.int (1 : Int32)), .val (.ref w_COMPENSATION), .val (.int (1 : Int32))] [(.int (1 : Int32))]) (fun _ kk => XS.iconst X4.here hx rfl (hb hby at_48) kk) ?_
    refine ob T4 (mkF m 53 #[.val (.int p0), .val (.int (1 : Int32)), .val (.ref w_COMPENSATION), .val (.int (1 : Int32))] [(.int (1 : Int32))]) (fun _ kk => XS.goto X4.here hx rfl (pc0 := 49) (pc' := 53) rfl (hb hby at_49) (by decide) (by decide) kk) ?_
    obtain ⟨fs, hr, hrun, hended, hW, hsame⟩ := X4.leave (v := some (.int (1 : Int32))) (fun h => by rw [Bd.returns] at h; cases h)
    refine oout (retN X4 hx (t := .boolean) Bd.returns (by simp) (hb hby at_53) hr) hrun hended ⟨_, _, rfl, ?_, ⟨_, rfl⟩, hW, hsame.mono (by decide) (by decide)⟩
    show Q_rm0 Z w_OWNER w_NOT_HIGHLY_COMPENSATED w_COMPENSATION p0 h0 n0 _ T4.heap _
    rw [e4]
    exact ⟨rfl, N4⟩
  · rw [hk]
    show oGo p e below _ s₁ (mkF m 7 #[.val (.int p0), .val (.int (2 : Int32)), .unset, .unset] [])
    refine ob s₁ (mkF m 8 #[.val (.int p0), .val (.int (2 : Int32)), .unset, .unset] [(.int (2 : Int32))]) (fun _ kk => XS.iloadN X0.here hx rfl (hb hby at_7) rfl kk) ?_
    refine ob s₁ (mkF m 20 #[.val (.int p0), .val (.int (2 : Int32)), .unset, .unset] []) (fun _ kk => XS.ifYes X0.here hx rfl (pc0 := 8) (pc' := 20) rfl (hb hby at_8) rfl ((if0 _ _).trans (feq (by decide : ¬ ((2 : Int32) = (0 : Int32)))).2) (by decide) (by decide) kk) ?_
    refine ob s₁ (mkF m 21 #[.val (.int p0), .val (.int (2 : Int32)), .unset, .unset] [(.int (2 : Int32))]) (fun _ kk => XS.iloadN X0.here hx rfl (hb hby at_20) rfl kk) ?_
    refine ob s₁ (mkF m 22 #[.val (.int p0), .val (.int (2 : Int32)), .unset, .unset] [(.int (1 : Int32)), (.int (2 : Int32))]) (fun _ kk => XS.iconst X0.here hx rfl (hb hby at_21) kk) ?_
    refine ob s₁ (mkF m 34 #[.val (.int p0), .val (.int (2 : Int32)), .unset, .unset] []) (fun _ kk => XS.icmpYes X0.here hx rfl (pc0 := 22) (pc' := 34) rfl (hb hby at_22) rfl (feq (by decide : ¬ ((2 : Int32) = (1 : Int32)))).2 (by decide) (by decide) kk) ?_
    obtain ⟨T5, X5, e5, st5⟩ := getS2 X0 hx hZ hown (host := "") (Or.inl (ow hw 11 rfl)) Via.refl e0 (S_w_NOT_HIGHLY_COMPENSATED.ext O0.2) (g := (mkF m 34 #[.val (.int p0), .val (.int (2 : Int32)), .unset, .unset] [])) rfl (hb hby at_34)
    refine ob T5 (mkF m 37 #[.val (.int p0), .val (.int (2 : Int32)), .unset, .unset] [(.ref w_NOT_HIGHLY_COMPENSATED)]) (fun _ kk => st5 _ kk) ?_
    refine ob T5 (mkF m 38 #[.val (.int p0), .val (.int (2 : Int32)), .val (.ref w_NOT_HIGHLY_COMPENSATED), .unset] []) (fun _ kk => XS.astoreN X5.here hx rfl (hb hby at_37) rfl rfl (l' := #[.val (.int p0), .val (.int (2 : Int32)), .val (.ref w_NOT_HIGHLY_COMPENSATED), .unset]) rfl kk) ?_
    refine ob T5 (mkF m 39 #[.val (.int p0), .val (.int (2 : Int32)), .val (.ref w_NOT_HIGHLY_COMPENSATED), .unset] [(.int (0 : Int32))]) (fun _ kk => XS.iconst X5.here hx rfl (hb hby at_38) kk) ?_
    refine ob T5 (mkF m 40 #[.val (.int p0), .val (.int (2 : Int32)), .val (.ref w_NOT_HIGHLY_COMPENSATED), .val (.int (0 : Int32))] []) (fun _ kk => XS.istoreN X5.here hx rfl (hb hby at_39) rfl (l' := #[.val (.int p0), .val (.int (2 : Int32)), .val (.ref w_NOT_HIGHLY_COMPENSATED), .val (.int (0 : Int32))]) rfl kk) ?_
    refine ob T5 (mkF m 41 #[.val (.int p0), .val (.int (2 : Int32)), .val (.ref w_NOT_HIGHLY_COMPENSATED), .val (.int (0 : Int32))] [(.ref w_NOT_HIGHLY_COMPENSATED)]) (fun _ kk => XS.aloadN X5.here hx rfl (hb hby at_40) rfl rfl kk) ?_
    obtain ⟨cq6, kq6, q6a, q6b, q6c⟩ := isOf hZ e5 (E_w_NOT_HIGHLY_COMPENSATED.ext O0.2)
    obtain ⟨_, _, ⟨T6, L6, k6, n6⟩, -, X6, ⟨Lc6, hQ6, l6, y6, z6⟩, st6⟩ := X5.virtualBack hx (y := (⟨"com/example/vestwright/vestwright/rules/HceStatus", "highlyCompensated", "()Z"⟩ : MethodName)) (z := (⟨"com/example/vestwright/vestwright/rules/HceStatus", "highlyCompensated", "()Z"⟩ : MethodName)) hown (mvT hZ (ow hw 4 rfl)) (mvT hZ (ow hw 5 rfl)) (notFace_of_selects (args := #[]) (mvT hZ (ow hw 7 rfl))) (mvT hZ (ow hw 7 rfl)) (mvT hZ (ow hw 6 rfl)) (by decide) (backOf (W := 0) (rm_hc_NOT_H l Z a0 hw [] w_OWNER w_NOT_HIGHLY_COMPENSATED w_COMPENSATION  h0 n0 O0 hS ) hZ (ow hw 8 rfl) (ow hw 2 rfl) (by decide) (by decide)) q6a q6c (g := (mkF m 41 #[.val (.int p0), .val (.int (2 : Int32)), .val (.ref w_NOT_HIGHLY_COMPENSATED), .val (.int (0 : Int32))] [(.ref w_NOT_HIGHLY_COMPENSATED)])) rfl (by rw [hml]; rfl) (Steps.refl _) (argsL := []) (rest := []) (lenOf pd_0 rfl) rfl (by show 2 * 0 + _ ≤ _; exact Nat.le_of_eq rfl) (hb hby at_41) (fun _ _ => ⟨rfl, e5, (by decide : 0 + 0 ≤ _), (by decide : 0 + 0 ≤ _)⟩)
    dsimp only [Pt.U, Pt.locs, Pt.cells, Pt.slots] at X6 l6 y6 z6 st6 hQ6
    subst l6 y6 z6
    obtain ⟨rfl, N6q, e6⟩ := hQ6
    have N6 := Fr.app N0 N6q
    refine ob T6 (mkF m 44 #[.val (.int p0), .val (.int (2 : Int32)), .val (.ref w_NOT_HIGHLY_COMPENSATED), .val (.int (0 : Int32))] [(.int (0 : Int32))]) (fun _ kk => st6.trans kk) ?_
    refine ob T6 (mkF m 45 #[.val (.int p0), .val (.int (2 : Int32)), .val (.ref w_NOT_HIGHLY_COMPENSATED), .val (.int (0 : Int32))] [(.int (0 : Int32)), (.int (0 : Int32))]) (fun _ kk => XS.iloadN X6.here hx rfl (hb hby at_44) rfl kk) ?_
    refine ob T6 (mkF m 48 #[.val (.int p0), .val (.int (2 : Int32)), .val (.ref w_NOT_HIGHLY_COMPENSATED), .val (.int (0 : Int32))] []) (fun _ kk => XS.icmpNo X6.here hx rfl (hb hby at_45) rfl (teq (by decide : (0 : Int32) = (0 : Int32))).2 kk) ?_
    refine ob T6 (mkF m 49 #[.val (.int p0), .val (.int (2 : Int32)), .val (.ref w_NOT_HIGHLY_COMPENSATED), .val (.int (0 : Int32))] [(.int (1 : Int32))]) (fun _ kk => XS.iconst X6.here hx rfl (hb hby at_48) kk) ?_
    refine ob T6 (mkF m 53 #[.val (.int p0), .val (.int (2 : Int32)), .val (.ref w_NOT_HIGHLY_COMPENSATED), .val (.int (0 : Int32))] [(.int (1 : Int32))]) (fun _ kk => XS.goto X6.here hx rfl (pc0 := 49) (pc' := 53) rfl (hb hby at_49) (by decide) (by decide) kk) ?_
    obtain ⟨fs, hr, hrun, hended, hW, hsame⟩ := X6.leave (v := some (.int (1 : Int32))) (fun h => by rw [Bd.returns] at h; cases h)
    refine oout (retN X6 hx (t := .boolean) Bd.returns (by simp) (hb hby at_53) hr) hrun hended ⟨_, _, rfl, ?_, ⟨_, rfl⟩, hW, hsame.mono (by decide) (by decide)⟩
    show Q_rm0 Z w_OWNER w_NOT_HIGHLY_COMPENSATED w_COMPENSATION p0 h0 n0 _ T6.heap _
    rw [e6]
    exact ⟨rfl, N6⟩

set_option maxRecDepth 65536 in
set_option maxHeartbeats 40000000 in
theorem comes_1 {Post : Tables → Env → Array Value → State → Outcome → State → Prop} (hpost : ∀ tb e args s v u, (limb_1_1.after args s (.returned v) u = true ∧ limb_1_2.after args s (.returned v) u = true ∧ True) → FrameEnd s (.returned v) u (Jvm.fieldLocs frame_1_writes args s ++ Jvm.arrayLocs frame_1_arrays args s ++ Jvm.staticLocs frame_1_statics s) 0 0 → Post tb e args s (.returned v) u) :
    ArmFor flags0 classFile x code maxLocals ret World_1 tables_1 room_1 Calls_1 rest_1 Pre_1 Post := by
  intro l hfl _ _ p e ha hc hk s m args below hf hA hF happ hP
  obtain ⟨hcalls, hrest, hpre⟩ := hP
  obtain ⟨-, -, -, hnamed, -, -, -, hat⟩ := (Spec.applies_iff hf).mp happ
  obtain ⟨hg, hn⟩ := and_e (Cond.before_iff.mp (show (Jvm.Cond.and given_1 narrow_1).before args s = true from hpre))
  obtain ⟨gg1, gg2⟩ := and_e hg
  obtain ⟨w0, rfl⟩ : ∃ w0 : Value, args = #[w0] := by
    have hs : args.size = 1 := by simpa [Cond.value, given_1] using gg1
    obtain ⟨L⟩ := args
    match L, hs with
    | [w0], _ => exact ⟨w0, rfl⟩
  have hw := fun d (hd : d ∈ tables_1) => atoms_spec (ws := Jvm.Cond.code x code maxLocals ret :: tables_1) hat d (List.mem_cons_of_mem _ hd)
  have hfit : Fit s := fun {y c} hc i hi => by
    obtain ⟨ha, rfl⟩ := Array.getElem?_eq_some_iff.mp hc
    have q := List.all_eq_true.mp ((Array.all_eq_true_iff_forall_mem.mp hF) _ (Array.getElem_mem ha)) i (List.mem_range.mpr hi)
    simpa [Array.getElem?_eq_getElem hi] using q
  obtain ⟨i0, ei0⟩ := is_v gg2
  obtain rfl : w0 = (.int i0) := Option.some.inj ei0
  obtain ⟨nn1, nn2⟩ := and_e hn
  obtain ⟨nn3, nn4⟩ := and_e nn2
  obtain ⟨nn5, nn6⟩ := and_e nn4
  obtain ⟨nn7, nn8⟩ := and_e nn6
  obtain ⟨nn9, nn10⟩ := and_e nn8
  obtain ⟨w_OWNER, ev_w_OWNER, S_w_OWNER, E_w_OWNER⟩ := own_sta nn1 (Or.inr ⟨(ow hw 2 rfl), (ow hw 3 rfl)⟩)
  obtain ⟨w_NOT_HIGHLY_COMPENSATED, ev_w_NOT_HIGHLY_COMPENSATED, S_w_NOT_HIGHLY_COMPENSATED, E_w_NOT_HIGHLY_COMPENSATED⟩ := own_sta nn3 (Or.inr ⟨(ow hw 2 rfl), (ow hw 10 rfl)⟩)
  obtain ⟨w_COMPENSATION, ev_w_COMPENSATION, S_w_COMPENSATION, E_w_COMPENSATION⟩ := own_sta nn9 (Or.inr ⟨(ow hw 2 rfl), (ow hw 13 rfl)⟩)
  have F_w_OWNER_ordinal := own_fldI ev_w_OWNER nn5
  have F_w_NOT_HIGHLY_COMPENSATED_ordinal := own_fldI ev_w_NOT_HIGHLY_COMPENSATED nn7
  have F_w_COMPENSATION_ordinal := own_fldI ev_w_COMPENSATION nn10
  have ne_w_OWNER_w_NOT_HIGHLY_COMPENSATED : w_OWNER ≠ w_NOT_HIGHLY_COMPENSATED := Fld.ne F_w_OWNER_ordinal F_w_NOT_HIGHLY_COMPENSATED_ordinal (by decide)
  have ne_w_OWNER_w_COMPENSATION : w_OWNER ≠ w_COMPENSATION := Fld.ne F_w_OWNER_ordinal F_w_COMPENSATION_ordinal (by decide)
  have ne_w_NOT_HIGHLY_COMPENSATED_w_COMPENSATION : w_NOT_HIGHLY_COMPENSATED ≠ w_COMPENSATION := Fld.ne F_w_NOT_HIGHLY_COMPENSATED_ordinal F_w_COMPENSATION_ordinal (by decide)
  have hS : St0 s w_OWNER w_NOT_HIGHLY_COMPENSATED w_COMPENSATION := ⟨S_w_OWNER, E_w_OWNER, S_w_NOT_HIGHLY_COMPENSATED, E_w_NOT_HIGHLY_COMPENSATED, S_w_COMPENSATION, E_w_COMPENSATION, F_w_OWNER_ordinal, F_w_NOT_HIGHLY_COMPENSATED_ordinal, F_w_COMPENSATION_ordinal, ne_w_OWNER_w_NOT_HIGHLY_COMPENSATED, ne_w_OWNER_w_COMPENSATION, ne_w_NOT_HIGHLY_COMPENSATED_w_COMPENSATION⟩
  obtain ⟨n, o, h1, h2, h3, _, L, rfl, ⟨rfl, N⟩, hq⟩ := rm0 l s _ hw tables_1 w_OWNER w_NOT_HIGHLY_COMPENSATED w_COMPENSATION i0 s.heap s.heap.size (Old.start s) hS p e ha hc hk s m _ below hf ((Spec.applies_iff_loose hf).mp happ).1 ⟨rfl, State.Warmed39.refl s, rfl⟩ trivial
  refine ⟨n, _, h1, h2, h3, hpost _ _ _ _ _ _ ⟨Cond.after_iff.mpr rfl, Cond.after_iff.mpr (eq_i res_at (Term.int_eval (1)) rfl), trivial⟩ ⟨hq.1, hq.2.1, (hq.2.2.sift fun y hy => Or.inr (N y hy)).mono (by decide) (by decide)⟩⟩
theorem main_1_1 : Claimed_1_1 := comes_1 fun _ _ _ _ _ _ h hF => ⟨h.1, hF⟩
theorem main_1_2 : Claimed_1_2 := comes_1 fun _ _ _ _ _ _ h hF => ⟨h.2.1, hF⟩
end Jvm.Pilot.@@N@@
namespace Jvm.Pilot.@@N@@
open Jvm Jvm.ClassFile Sem Op Lib Jvm.Free Jvm.Stand Jvm.Pilot.@@N@@.Jvm.D
/-! MADE BY PROGRAM (witnessworld.py) out of the Statement's table words and the real class files: 12 classes; the members and pool entries that the words name. The judged class is class 1, her method 1. -/
namespace start1
open Jvm.ClassFile
def u (s : String) : CpInfo := .utf8 (stringToUtf16 s)
/-- a pool by its gaps: so many unusable entries, then the entry; so many at the end -/
def gap : Nat → List CpInfo → List CpInfo
  | 0, r => r
  | n + 1, r => .unusable :: gap n r
def poolList (es : List (Nat × CpInfo)) (last : Nat) : List CpInfo := es.foldr (fun e r => gap e.1 (e.2 :: r)) (gap last [])
def pool (es : List (Nat × CpInfo)) (last : Nat) : Array CpInfo := ⟨poolList es last⟩
def fileOf (pool : Array CpInfo) (this : Nat) (attrs : Array Attribute := #[]) (ms : Array MethodInfo := #[]) (fl : Nat := 33) (sup : Nat := 0) (ifs : Array Nat := #[]) (fds : Array FieldInfo := #[]) : ClassFile where
  minorVersion := 0
  majorVersion := 65
  constantPool := pool
  accessFlags := fl
  thisClass := this
  superClass := sup
  interfaces := ifs
  fields := fds
  methods := ms
  attributes := attrs
def plain (name : String) (sup : Option ClassId) : Class where
  name := name
  kind := .ordinary
  loader := none
  accessFlags := 33
  super := sup
  interfaces := #[]
  cf := none
  fields := #[]
  methods := #[]
  instanceTypes := #[]
  staticTypes := #[]
  resolved := #[]
  callSites := []
  init := .initialized
  statics := none
  mirror := none

def pool0 : Array CpInfo := pool [(5, u "<init>"), (0, u "()V"), (1, .class_ 10), (1, u "java/lang/Object")] 113

def k0m0 : Method := { name := "<init>", desc := "()V", sig := { parameters := [], returnType := none }, accessFlags := 1, code := none }
/-- java/lang/Object -/
def k0 : Class := { plain "java/lang/Object" none with
  accessFlags := 33
  interfaces := #[]
  cf := some (fileOf pool0 8 #[] #[{ accessFlags := 1, nameIndex := 5, descriptorIndex := 6, attributes := #[] }] 33 0 #[] #[])
  fields := #[]
  methods := #[k0m0]
  instanceTypes := #[]
  staticTypes := #[]
  resolved := Array.replicate 124 none
  statics := none }

def pool1 : Array CpInfo := pool [(2, .class_ 4), (1, u "java/lang/Object"), (0, u "<init>"), (0, u "()V"), (0, .integer 2147483647), (0, .fieldref 9 10), (0, .class_ 11), (0, .nameAndType 12 13), (0, u "com/example/vestwright/vestwright/rules/HceStatus"), (0, u "OWNER"), (0, u "Lcom/example/vestwright/vestwright/rules/HceStatus;"), (0, .fieldref 9 15), (0, .nameAndType 16 13), (0, u "COMPENSATION"), (0, .fieldref 9 18), (0, .nameAndType 19 13), (0, u "NOT_HIGHLY_COMPENSATED"), (0, .methodref 9 21), (0, .nameAndType 22 23), (0, u "highlyCompensated"), (0, u "()Z"), (0, .class_ 25), (0, u "com/example/vestwright/vestwright/rules/HceStatusHighlyCompensatedPinLaw"), (2, u "law"), (0, u "(I)Z")] 3

def k1m0 : Method := { name := "<init>", desc := "()V", sig := { parameters := [], returnType := none }, accessFlags := 1, code := none }
def k1c1 : Code := { maxStack := 2, maxLocals := 4, code := code, exceptionTable := #[], attributes := #[] }
def k1m1 : Method := { name := "law", desc := "(I)Z", sig := { parameters := [.int], returnType := some .boolean }, accessFlags := 9, code := some k1c1 }
/-- com/example/vestwright/vestwright/rules/HceStatusHighlyCompensatedPinLaw -/
def k1 : Class := { plain "com/example/vestwright/vestwright/rules/HceStatusHighlyCompensatedPinLaw" (some 0) with
  accessFlags := 49
  interfaces := #[]
  cf := some (fileOf pool1 24 #[] #[{ accessFlags := 1, nameIndex := 5, descriptorIndex := 6, attributes := #[] }, { accessFlags := 9, nameIndex := 28, descriptorIndex := 29, attributes := #[] }] 49 2 #[] #[])
  fields := #[]
  methods := #[k1m0, k1m1]
  instanceTypes := #[]
  staticTypes := #[]
  resolved := Array.replicate 33 none
  statics := none }

def pool2 : Array CpInfo := pool [(1, .class_ 2), (0, u "java/lang/constant/Constable"), (0, .class_ 4), (0, u "java/lang/Object")] 6

/-- java/lang/constant/Constable -/
def k2 : Class := { plain "java/lang/constant/Constable" (some 0) with
  accessFlags := 1537
  interfaces := #[]
  cf := some (fileOf pool2 1 #[] #[] 1537 3 #[] #[])
  fields := #[]
  methods := #[]
  instanceTypes := #[]
  staticTypes := #[]
  resolved := Array.replicate 11 none
  statics := none }

def pool3 : Array CpInfo := pool [(1, .class_ 2), (0, u "java/lang/Comparable"), (0, .class_ 4), (0, u "java/lang/Object")] 7

/-- java/lang/Comparable -/
def k3 : Class := { plain "java/lang/Comparable" (some 0) with
  accessFlags := 1537
  interfaces := #[]
  cf := some (fileOf pool3 1 #[] #[] 1537 3 #[] #[])
  fields := #[]
  methods := #[]
  instanceTypes := #[]
  staticTypes := #[]
  resolved := Array.replicate 12 none
  statics := none }

def pool4 : Array CpInfo := pool [(1, .class_ 2), (0, u "java/io/Serializable"), (0, .class_ 4), (0, u "java/lang/Object")] 2

/-- java/io/Serializable -/
def k4 : Class := { plain "java/io/Serializable" (some 0) with
  accessFlags := 1537
  interfaces := #[]
  cf := some (fileOf pool4 1 #[] #[] 1537 3 #[] #[])
  fields := #[]
  methods := #[]
  instanceTypes := #[]
  staticTypes := #[]
  resolved := Array.replicate 7 none
  statics := none }

def pool5 : Array CpInfo := pool [(2, .class_ 4), (1, u "java/lang/Enum"), (0, u "name"), (0, u "Ljava/lang/String;"), (2, u "ordinal"), (0, u "I"), (1, .class_ 14), (1, u "java/lang/Object"), (4, u "hash"), (86, .class_ 108), (1, u "java/lang/Enum$EnumDesc"), (2, .class_ 112), (0, u "java/lang/constant/Constable"), (0, .class_ 114), (0, u "java/lang/Comparable"), (0, .class_ 116), (0, u "java/io/Serializable")] 87

/-- java/lang/Enum -/
def k5 : Class := { plain "java/lang/Enum" (some 0) with
  accessFlags := 1057
  interfaces := #[2, 3, 4]
  cf := some (fileOf pool5 2 #[.nestMembers #[106]] #[] 1057 12 #[111, 113, 115] #[{ accessFlags := 18, nameIndex := 5, descriptorIndex := 6, attributes := #[] }, { accessFlags := 18, nameIndex := 9, descriptorIndex := 10, attributes := #[] }, { accessFlags := 2, nameIndex := 19, descriptorIndex := 10, attributes := #[] }])
  fields := #[{ name := "name", type := (.object "java/lang/String"), accessFlags := 18, slot := 0, constantValue := 0 }, { name := "ordinal", type := .int, accessFlags := 18, slot := 1, constantValue := 0 }, { name := "hash", type := .int, accessFlags := 2, slot := 2, constantValue := 0 }]
  methods := #[]
  instanceTypes := #[(.object "java/lang/String"), .int, .int]
  staticTypes := #[]
  resolved := Array.replicate 204 none
  statics := none }

def pool6 : Array CpInfo := pool [(1, .class_ 2), (0, u "com/example/vestwright/vestwright/rules/HceStatus"), (2, u "OWNER"), (0, u "Lcom/example/vestwright/vestwright/rules/HceStatus;"), (2, u "COMPENSATION"), (0, .fieldref 1 11), (0, .nameAndType 12 6), (0, u "NOT_HIGHLY_COMPENSATED"), (2, u "$VALUES"), (0, u "[Lcom/example/vestwright/vestwright/rules/HceStatus;"), (6, .class_ 25), (1, u "java/lang/Enum"), (21, u "highlyCompensated"), (0, u "()Z")] 5

def k6c0 : Code := { maxStack := 2, maxLocals := 1, code := prog_45_method_4_code, exceptionTable := #[], attributes := #[] }
def k6m0 : Method := { name := "highlyCompensated", desc := "()Z", sig := { parameters := [], returnType := some .boolean }, accessFlags := 1, code := some k6c0 }
/-- com/example/vestwright/vestwright/rules/HceStatus -/
def k6 : Class := { plain "com/example/vestwright/vestwright/rules/HceStatus" (some 5) with
  accessFlags := 16433
  interfaces := #[]
  cf := some (fileOf pool6 1 #[] #[{ accessFlags := 1, nameIndex := 47, descriptorIndex := 48, attributes := #[] }] 16433 23 #[] #[{ accessFlags := 16409, nameIndex := 5, descriptorIndex := 6, attributes := #[] }, { accessFlags := 16409, nameIndex := 9, descriptorIndex := 6, attributes := #[] }, { accessFlags := 16409, nameIndex := 12, descriptorIndex := 6, attributes := #[] }, { accessFlags := 4122, nameIndex := 15, descriptorIndex := 16, attributes := #[] }])
  fields := #[{ name := "OWNER", type := (.object "com/example/vestwright/vestwright/rules/HceStatus"), accessFlags := 16409, slot := 0, constantValue := 0 }, { name := "COMPENSATION", type := (.object "com/example/vestwright/vestwright/rules/HceStatus"), accessFlags := 16409, slot := 1, constantValue := 0 }, { name := "NOT_HIGHLY_COMPENSATED", type := (.object "com/example/vestwright/vestwright/rules/HceStatus"), accessFlags := 16409, slot := 2, constantValue := 0 }, { name := "$VALUES", type := (.array (.object "com/example/vestwright/vestwright/rules/HceStatus")), accessFlags := 4122, slot := 3, constantValue := 0 }]
  methods := #[k6m0]
  instanceTypes := #[(.object "java/lang/String"), .int, .int]
  staticTypes := #[(.object "com/example/vestwright/vestwright/rules/HceStatus"), (.object "com/example/vestwright/vestwright/rules/HceStatus"), (.object "com/example/vestwright/vestwright/rules/HceStatus"), (.array (.object "com/example/vestwright/vestwright/rules/HceStatus"))]
  resolved := Array.replicate 54 none
  statics := some 0 }

def pool7 : Array CpInfo := pool [(1, u "java/lang/Cloneable"), (0, .class_ 1), (0, u "java/lang/Object"), (0, .class_ 3)] 3

/-- java/lang/Cloneable -/
def k7 : Class := { plain "java/lang/Cloneable" (some 0) with
  accessFlags := 1537
  interfaces := #[]
  cf := some (fileOf pool7 2 #[] #[] 1537 4 #[] #[])
  fields := #[]
  methods := #[]
  instanceTypes := #[]
  staticTypes := #[]
  resolved := Array.replicate 8 none
  statics := none }

/-- the primitive byte -/
def k8 : Class := { plain "byte" none with kind := .primitive 'B', accessFlags := 0x411 }
/-- [B -/
def k9 : Class := { plain "[B" (some 0) with kind := .array 8 .byte, interfaces := #[7, 4], accessFlags := 1041 }

/-- the primitive int -/
def k10 : Class := { plain "int" none with kind := .primitive 'I', accessFlags := 0x411 }
/-- [I -/
def k11 : Class := { plain "[I" (some 0) with kind := .array 10 .int, interfaces := #[7, 4], accessFlags := 1041 }

def heap : Heap := #[{ cls := 6, slots := #[.ref 1, .ref 2, .ref 3, .null], vm := .statics 6 },
  { cls := 6, slots := #[.null, .int 0, .int 0], vm := .none },
  { cls := 6, slots := #[.null, .int 1, .int 0], vm := .none },
  { cls := 6, slots := #[.null, .int 2, .int 0], vm := .none }]
def classes : Array Class := #[k0, k1, k2, k3, k4, k5, k6, k7, k8, k9, k10, k11]
def interned : List (Array UInt16 × Addr) := []
def slotsUsed : Nat := 13
def theMethod : MethodId := ⟨1, 1⟩
def args0 : Array Value := #[.int 5]
def aboutOver (below : List Frame) : State where
  vm := { classes := classes, interned := interned.toArray }
  heap := heap
  slotsUsed := slotsUsed
  threads := #[{ frames := .invoking theMethod args0 :: below }]
def below0 : List Frame := [.native { method := ⟨0, 0⟩, args := #[] }]
def about1 : State := aboutOver below0
def p0 : Program := .bare "" "" ""
def e0 : Env := launch0.env 0 0 0
theorem w_frames : about1.frames = Frame.invoking theMethod args0 :: below0 := rfl
set_option maxRecDepth 65536 in
theorem w_args : argsFit about1.vm theMethod args0 = true := by decide +kernel
set_option maxRecDepth 65536 in
theorem w_heap : heapFits about1 = true := by decide +kernel
set_option maxRecDepth 65536 in
theorem w_runnable : about1.curStatus? = some .runnable := by decide +kernel
set_option maxRecDepth 65536 in
theorem w_alone : about1.alone = true := by decide +kernel
set_option maxRecDepth 65536 in
theorem w_named : about1.methodNamed? x = some theMethod := by decide +kernel
set_option maxRecDepth 65536 in
theorem w_hears : about1.hears theMethod below0 = true := by decide +kernel
set_option maxRecDepth 65536 in
theorem w_ripe : about1.ripe theMethod args0 below0 = true := by decide +kernel
theorem w_running : about1.status = .running := rfl
set_option maxRecDepth 65536 in
theorem w_room : about1.hasRoom e0.platform room_1 = true :=
  launch0.hasRoom_least _ room_1 (by decide +kernel) (by decide +kernel) (by decide +kernel) (by decide +kernel) (by decide +kernel) (by decide +kernel)
theorem allAtoms_all (ts : List Jvm.Cond) (a : Array Jvm.Value) (st : Jvm.State) : (allAtoms ts).before a st = ts.all (fun c => c.before a st) := by
  induction ts with
  | nil => rfl
  | cons c t ih =>
    show (Jvm.Cond.and c (allAtoms t)).before a st = _
    rw [Jvm.Cond.before_and, ih, List.all_cons]
def words1 : List Jvm.Cond := Jvm.Cond.code x code maxLocals ret :: tables_1
/-- a 'code' word, met by the world's own term for the bytes: nothing is compared byte by byte -/
theorem code_word {y : MethodName} {bytes : ByteArray} {mx : Nat} {rt : Option FieldType} {a : Array Value} {s : State} {m : MethodId} {meth : Method} {c : Code} (h1 : s.methodNamed? y = some m) (h2 : s.vm.method? m = some meth) (h3 : meth.code = some c) (h4 : c.code = bytes)
    (h5 : (c.maxLocals == mx && c.exceptionTable.isEmpty && decide (c.maxStack ≤ mostOperands) && decide (meth.sig.returnType = rt) && !meth.locks && decide (parseMethodDescriptor y.desc = some meth.sig)) = true) : (Jvm.Cond.code y bytes mx rt).before a s = true := by
  simp only [Bool.and_eq_true, beq_iff_eq, Bool.not_eq_true', decide_eq_true_eq] at h5
  obtain ⟨⟨⟨⟨⟨g1, g2⟩, g3⟩, g4⟩, g5⟩, g6⟩ := h5
  simp [Cond.before, Cond.holds, Cond.value, h1, h2, h3, h4, g1, g2, g3, g4, g5, g6]
def isCode : Jvm.Cond → Bool
  | .code _ _ _ _ => true
  | _ => false
theorem all_split {L : List Jvm.Cond} {P : Jvm.Cond → Bool} (h1 : L.all (fun c => isCode c || P c) = true) (h2 : ∀ c ∈ L.filter isCode, P c = true) : L.all P = true := by
  refine List.all_eq_true.mpr fun c hc => ?_
  have h := List.all_eq_true.mp h1 c hc
  rcases Bool.eq_false_or_eq_true (isCode c) with hi | hi
  · exact h2 c (List.mem_filter.mpr ⟨hc, hi⟩)
  · simpa [hi] using h
set_option maxRecDepth 65536 in
theorem w_c0 : (Jvm.Cond.code x code maxLocals ret).before args0 about1 = true := code_word (m := ⟨1, 1⟩) (meth := k1m1) (c := k1c1) (by decide +kernel) rfl rfl rfl (by decide +kernel)
set_option maxRecDepth 65536 in
theorem w_c1 : (Jvm.Cond.code ({ cls := "com/example/vestwright/vestwright/rules/HceStatus", name := "highlyCompensated", desc := "()Z" } : Jvm.MethodName) prog_45_method_4_code (1 : Nat) (Option.some Jvm.ClassFile.FieldType.boolean)).before args0 about1 = true := code_word (m := ⟨6, 0⟩) (meth := k6m0) (c := k6c0) (by decide +kernel) rfl rfl rfl (by decide +kernel)
def codes1 : List Jvm.Cond := [Jvm.Cond.code x code maxLocals ret, Jvm.Cond.code ({ cls := "com/example/vestwright/vestwright/rules/HceStatus", name := "highlyCompensated", desc := "()Z" } : Jvm.MethodName) prog_45_method_4_code (1 : Nat) (Option.some Jvm.ClassFile.FieldType.boolean)]
set_option maxRecDepth 65536 in
theorem codes_eq : words1.filter isCode = codes1 := rfl
theorem w_codes : ∀ c ∈ words1.filter isCode, c.before args0 about1 = true := by
  rw [codes_eq]
  intro c hc
  simp only [codes1, List.mem_cons, List.not_mem_nil, or_false] at hc
  rcases hc with rfl | rfl
  · exact w_c0
  · exact w_c1
set_option maxRecDepth 65536 in
theorem w_t1 : words1.all (fun c => isCode c || c.before args0 about1) = true := by decide +kernel
theorem w_tables : (allAtoms (Jvm.Cond.code x code maxLocals ret :: tables_1)).before args0 about1 = true := by
  rw [allAtoms_all]
  show words1.all (fun c => c.before args0 about1) = true
  refine all_split ?_ w_codes
  rw [w_t1]
set_option maxRecDepth 65536 in
theorem w_case : (Jvm.Cond.and given_1 narrow_1).before args0 about1 = true := by decide +kernel
theorem w_applies : (headSpec (Jvm.Cond.code x code maxLocals ret :: tables_1) room_1).applies x e0.platform about1 = true :=
  (Spec.applies_iff w_frames).mpr ⟨w_running, w_runnable, w_alone, w_named, w_hears, w_ripe, w_room, w_tables⟩
theorem atStart : AtStart classFile x code maxLocals ret World_1 tables_1 room_1 Calls_1 rest_1 Pre_1 launch0 p0 e0 about1 theMethod args0 below0 :=
  ⟨lists_1, trivial, launch0.admits_env _ _ _, launch0.least_env, fairChoices_fair.cas, fairChoices_fair.clock, w_frames, w_args, w_heap, w_applies, trivial, trivial, w_case⟩
end start1
theorem witness_1 : WitnessClaimed_1 := ⟨start1.p0, start1.e0, start1.about1, start1.theMethod, start1.args0, start1.below0, start1.atStart⟩
end Jvm.Pilot.@@N@@
