import JvmDerived
import JvmDerived.Pilot.@@N@@Statement
import JvmDerived.Pilot.@@N@@Code
set_option linter.unusedVariables false
set_option linter.unusedSimpArgs false

namespace Jvm.Pilot.@@N@@
open Jvm Jvm.ClassFile Sem Op Lib Jvm.Free Jvm.Stand Jvm.LawKit Jvm.RoadKit Bundle Jvm.Pilot.@@N@@.Jvm.D
abbrev oi (x : Int32) : Slot := .val (.int x)
abbrev oa (x : Addr) : Slot := .val (.ref x)
/-- from here the run comes to its end with what P says -/
def oGo (p : Program) (e : Env) (below : List Frame) (P : Outcome → State → Prop) (T : State) (g : JFrame) : Prop := ∃ s₂ o, Steps p.tables e below (T.setTop g) s₂ ∧ s₂.status = .running ∧ Ended s₂ below o ∧ P o s₂
theorem oby {p : Program} {e : Env} {below : List Frame} {P : Outcome → State → Prop} {T T' : State} {g g' : JFrame} (k : ∀ t, Steps p.tables e below (T'.setTop g') t → Steps p.tables e below (T.setTop g) t) (h : oGo p e below P T' g') : oGo p e below P T g := by
  obtain ⟨s₂, o, h1, h2⟩ := h
  exact ⟨s₂, o, k _ h1, h2⟩
theorem ostart {p : Program} {e : Env} {below : List Frame} {P : Outcome → State → Prop} {T : State} {g g' : JFrame} (q : g = g') (h : oGo p e below P T g') : ∃ s₂ o, Steps p.tables e below (T.setTop g) s₂ ∧ s₂.status = .running ∧ Ended s₂ below o ∧ P o s₂ := by subst q; exact h
theorem oout {p : Program} {e : Env} {below : List Frame} {P : Outcome → State → Prop} {T s₂ : State} {g : JFrame} {o : Outcome} (h1 : Steps p.tables e below (T.setTop g) s₂) (h2 : s₂.status = .running) (h3 : Ended s₂ below o) (h4 : P o s₂) : oGo p e below P T g := ⟨s₂, o, h1, h2, h3, h4⟩
theorem ob {p : Program} {e : Env} {below : List Frame} {P : Outcome → State → Prop} {T : State} {g : JFrame} (T' : State) (g' : JFrame) (k : ∀ t, Steps p.tables e below (T'.setTop g') t → Steps p.tables e below (T.setTop g) t) (h : oGo p e below P T' g') : oGo p e below P T g := oby k h
theorem osuff {p : Program} {e : Env} {below : List Frame} {P : Outcome → State → Prop} {T T' : State} {g g' : JFrame} (h1 : oGo p e below P T' g' → oGo p e below P T g) (h2 : oGo p e below P T' g') : oGo p e below P T g := h1 h2
theorem ow {L : List Jvm.Cond} {Z : State} {a0 : Array Value} (hw : ∀ d ∈ L, d.before a0 Z = true) (k : Nat) {d : Jvm.Cond} (h : L[k]? = some d) : d.before a0 Z = true := hw d (List.mem_of_getElem? h)
theorem on0 {Z : State} {n0 : Nat} {h : Heap} (O : Old Z n0 h) : n0 ≤ h.size := by have h1 := O.1; have h2 := O.2.1; omega
theorem oretA {p : Program} {l : Launch} {e : Env} {R : Room} {s : State} {m : MethodId} {args : Array Value} {below : List Frame} {meth : Method} {c : Code} {T : State} {locs : List Loc} {cells slots : Nat} (X : Stand p l e R s m args below meth c T locs cells slots) (hx : p.tables.exec = Jvm.exec) {pc : Nat} {Ls : Array Slot} {w : Value} {t : FieldType} {rest : List Value} (hret : meth.sig.returnType = some t) (ht : t.isReference = true) (hw : w.isRef = true)
    (hd : decode c.code pc = .ok (.areturn, 1)) {fs : List Frame} (hl : ∀ (f : JFrame) (acts : List Action), f.method = m → f.locked = none → f.entered = [] → (doReturn e (T.setTop f) acts (some w)).1 = T.setFrames fs) :
    Steps p.tables e below (T.setTop (mkF m pc Ls (w :: rest))) (T.setFrames fs) :=
  retOut X hx hret (by cases w <;> first | (simp [Value.isRef] at hw; done) | (cases t <;> rfl)) (Or.inr (Or.inr (Or.inr (Or.inr ⟨rfl, ht, hw⟩)))) hd hl

theorem own_sta {s : State} {args : Array Value} {C n d K : String} (h : (Cond.exactly (.static C n d) K).value args s none s [] = some true) (hi : (Cond.initializedFor C n d).before args s = true ∨ ((Cond.initialized C).before args s = true ∧ (Cond.laysStatic C n d).before args s = true)) :
    ∃ a, (Term.static C n d).eval args s none [] s = some (.ref a) ∧ Sta s s.heap C n d (.ref a) ∧ Exa s s.heap a K := by
  obtain ⟨a, ev⟩ := exa_v h
  exact ⟨a, ev, Sta.start ev hi, Exa.start ev h⟩
theorem own_fldI {s : State} {args : Array Value} {t : Term} {a : Addr} {C n d : String} {k : Int32} (ev : t.eval args s none [] s = some (.ref a)) (h : (Cond.eq (.field t C n d) (.int k)).value args s none s [] = some true) : Fld s s.heap a C n d (.int k) := by
  obtain ⟨x, y, ex, ey, k1, k2⟩ := cmp_v (Or.inl h)
  have e2 : y = .int k := (Option.some.inj ((Term.int_eval k).symm.trans ey)).symm
  subst e2
  obtain ⟨z, rfl⟩ := k2
  have e3 : z = k := gotT (Cond.eq_ints ex ey) h
  subst e3
  exact Fld.start ((fld_at ev).symm.trans ex)
theorem own_fldL {s : State} {args : Array Value} {t : Term} {a : Addr} {C n d : String} {k : Int64} (ev : t.eval args s none [] s = some (.ref a)) (h : (Cond.eq (.field t C n d) (.long k)).value args s none s [] = some true) : Fld s s.heap a C n d (.long k) := by
  obtain ⟨x, y, ex, ey, k1, k2⟩ := cmp_v (Or.inl h)
  have e2 : y = .long k := by simpa [Term.eval] using ey.symm
  subst e2
  obtain ⟨z, rfl⟩ := k2
  have e3 : z = k := gotT (eq_L ex ey) h
  subst e3
  exact Fld.start ((fld_at ev).symm.trans ex)
theorem own_fldN {s : State} {args : Array Value} {t : Term} {a : Addr} {C n d : String} (ev : t.eval args s none [] s = some (.ref a)) (h : (Cond.eq (.field t C n d) .null).value args s none s [] = some true) : Fld s s.heap a C n d .null :=
  Fld.start ((fld_at ev).symm.trans (null_v h))
theorem pn_0 : plainName "com/example/vorgang/vorgang/model/PolicyApplyPinLaw" = true := by first | (simp [plainName, overriddenIn]; done) | decide +kernel
theorem pn_1 : plainName "java/util/Optional" = true := by first | (simp [plainName, overriddenIn]; done) | decide +kernel
theorem pn_2 : plainName "java/lang/Enum" = true := by first | (simp [plainName, overriddenIn]; done) | decide +kernel
theorem pn_3 : plainName "com/example/vorgang/vorgang/model/Policy" = true := by first | (simp [plainName, overriddenIn]; done) | decide +kernel
def St0 (Z : State) (w_Required : Addr) (w_RECEIVED : Addr) (w_NotSupported : Addr) (w_NONE : Addr) (w_RequiresNew : Addr) (w_NEW : Addr) (w_Mandatory : Addr) (w_BeanManaged : Addr) (w_Never : Addr) (w_Supports : Addr) (w_EMPTY : Addr) : Prop := Sta Z Z.heap "com/example/vorgang/vorgang/model/Policy" "Required" "Lcom/example/vorgang/vorgang/model/Policy;" (.ref w_Required) ∧ Exa Z Z.heap w_Required "com/example/vorgang/vorgang/model/Policy" ∧ Sta Z Z.heap "com/example/vorgang/vorgang/model/ContextUse" "RECEIVED" "Lcom/example/vorgang/vorgang/model/ContextUse;" (.ref w_RECEIVED) ∧ Exa Z Z.heap w_RECEIVED "com/example/vorgang/vorgang/model/ContextUse" ∧ Sta Z Z.heap "com/example/vorgang/vorgang/model/Policy" "NotSupported" "Lcom/example/vorgang/vorgang/model/Policy;" (.ref w_NotSupported) ∧ Exa Z Z.heap w_NotSupported "com/example/vorgang/vorgang/model/Policy" ∧ Sta Z Z.heap "com/example/vorgang/vorgang/model/ContextUse" "NONE" "Lcom/example/vorgang/vorgang/model/ContextUse;" (.ref w_NONE) ∧ Exa Z Z.heap w_NONE "com/example/vorgang/vorgang/model/ContextUse" ∧ Sta Z Z.heap "com/example/vorgang/vorgang/model/Policy" "RequiresNew" "Lcom/example/vorgang/vorgang/model/Policy;" (.ref w_RequiresNew) ∧ Exa Z Z.heap w_RequiresNew "com/example/vorgang/vorgang/model/Policy" ∧ Sta Z Z.heap "com/example/vorgang/vorgang/model/ContextUse" "NEW" "Lcom/example/vorgang/vorgang/model/ContextUse;" (.ref w_NEW) ∧ Exa Z Z.heap w_NEW "com/example/vorgang/vorgang/model/ContextUse" ∧ Sta Z Z.heap "com/example/vorgang/vorgang/model/Policy" "Mandatory" "Lcom/example/vorgang/vorgang/model/Policy;" (.ref w_Mandatory) ∧ Exa Z Z.heap w_Mandatory "com/example/vorgang/vorgang/model/Policy" ∧ Sta Z Z.heap "com/example/vorgang/vorgang/model/Policy" "BeanManaged" "Lcom/example/vorgang/vorgang/model/Policy;" (.ref w_BeanManaged) ∧ Exa Z Z.heap w_BeanManaged "com/example/vorgang/vorgang/model/Policy" ∧ Sta Z Z.heap "com/example/vorgang/vorgang/model/Policy" "Never" "Lcom/example/vorgang/vorgang/model/Policy;" (.ref w_Never) ∧ Exa Z Z.heap w_Never "com/example/vorgang/vorgang/model/Policy" ∧ Sta Z Z.heap "com/example/vorgang/vorgang/model/Policy" "Supports" "Lcom/example/vorgang/vorgang/model/Policy;" (.ref w_Supports) ∧ Exa Z Z.heap w_Supports "com/example/vorgang/vorgang/model/Policy" ∧ Sta Z Z.heap "java/util/Optional" "EMPTY" "Ljava/util/Optional;" (.ref w_EMPTY) ∧ Exa Z Z.heap w_EMPTY "java/util/Optional" ∧ Fld Z Z.heap w_Required "java/lang/Enum" "ordinal" "I" (.int (0 : Int32)) ∧ Fld Z Z.heap w_NotSupported "java/lang/Enum" "ordinal" "I" (.int (3 : Int32)) ∧ Fld Z Z.heap w_RequiresNew "java/lang/Enum" "ordinal" "I" (.int (1 : Int32)) ∧ Fld Z Z.heap w_Mandatory "java/lang/Enum" "ordinal" "I" (.int (4 : Int32)) ∧ Fld Z Z.heap w_BeanManaged "java/lang/Enum" "ordinal" "I" (.int (6 : Int32)) ∧ Fld Z Z.heap w_Never "java/lang/Enum" "ordinal" "I" (.int (5 : Int32)) ∧ Fld Z Z.heap w_Supports "java/lang/Enum" "ordinal" "I" (.int (2 : Int32)) ∧ Fld Z Z.heap w_EMPTY "java/util/Optional" "value" "Ljava/lang/Object;" .null ∧ w_Required ≠ w_NotSupported ∧ w_Required ≠ w_RequiresNew ∧ w_Required ≠ w_Mandatory ∧ w_Required ≠ w_BeanManaged ∧ w_Required ≠ w_Never ∧ w_Required ≠ w_Supports ∧ w_NotSupported ≠ w_RequiresNew ∧ w_NotSupported ≠ w_Mandatory ∧ w_NotSupported ≠ w_BeanManaged ∧ w_NotSupported ≠ w_Never ∧ w_NotSupported ≠ w_Supports ∧ w_RequiresNew ≠ w_Mandatory ∧ w_RequiresNew ≠ w_BeanManaged ∧ w_RequiresNew ≠ w_Never ∧ w_RequiresNew ≠ w_Supports ∧ w_Mandatory ≠ w_BeanManaged ∧ w_Mandatory ≠ w_Never ∧ w_Mandatory ≠ w_Supports ∧ w_BeanManaged ≠ w_Never ∧ w_BeanManaged ≠ w_Supports ∧ w_Never ≠ w_Supports

theorem d1_0 : decode method_2_code 0 = .ok (.iload_n 0, 1) := by decide +kernel
theorem d1_1 : decode method_2_code 1 = .ok (.ifCond .ne 7, 3) := by decide +kernel
theorem d1_4 : decode method_2_code 4 = .ok (.getstatic 7, 3) := by decide +kernel
theorem d1_7 : decode method_2_code 7 = .ok (.areturn, 1) := by decide +kernel
def Q_rm_pick0 (Z : State) (w_Required : Addr) (w_RECEIVED : Addr) (w_NotSupported : Addr) (w_NONE : Addr) (w_RequiresNew : Addr) (w_NEW : Addr) (w_Mandatory : Addr) (w_BeanManaged : Addr) (w_Never : Addr) (w_Supports : Addr) (w_EMPTY : Addr)  (h0 : Heap) (n0 : Nat) (v : Option Value) (h : Heap) (L : List Loc) : Prop := v = some (.ref w_Required) ∧ Fr n0 L ∧ h = h0
set_option maxRecDepth 65536 in
set_option maxHeartbeats 40000000 in
theorem rm_pick0 (l : Launch) (Z : State) (a0 : Array Value) (hw : ∀ d ∈ tables_1, d.before a0 Z = true) (ws : List Jvm.Cond) (w_Required : Addr) (w_RECEIVED : Addr) (w_NotSupported : Addr) (w_NONE : Addr) (w_RequiresNew : Addr) (w_NEW : Addr) (w_Mandatory : Addr) (w_BeanManaged : Addr) (w_Never : Addr) (w_Supports : Addr) (w_EMPTY : Addr)  (h0 : Heap) (n0 : Nat) (O0 : Old Z n0 h0) (hS : St0 Z w_Required w_RECEIVED w_NotSupported w_NONE w_RequiresNew w_NEW w_Mandatory w_BeanManaged w_Never w_Supports w_EMPTY ) :
    MetFree l (⟨"com/example/vorgang/vorgang/model/PolicyApplyPinLaw", "pick", "(I)Lcom/example/vorgang/vorgang/model/Policy;"⟩ : MethodName) (head1 (Jvm.Cond.code (⟨"com/example/vorgang/vorgang/model/PolicyApplyPinLaw", "pick", "(I)Lcom/example/vorgang/vorgang/model/Policy;"⟩ : MethodName) method_2_code 1 (some (.object "com/example/vorgang/vorgang/model/Policy")) :: ws) ({ frames := 0, cells := 0, slots := 0, locals := 0 } : Room)) (fun aG UG => aG = #[(.int (0 : Int32))] ∧ Z.Warmed39 UG.vm ∧ UG.heap = h0) (fun _ _ _ _ _ => True) (fun _ UG oG UG' => ∃ vG LG, oG = .returned vG ∧ Q_rm_pick0 Z w_Required w_RECEIVED w_NotSupported w_NONE w_RequiresNew w_NEW w_Mandatory w_BeanManaged w_Never w_Supports w_EMPTY  h0 n0 vG UG'.heap LG ∧ FrameEnd UG oG UG' LG ({ frames := 0, cells := 0, slots := 0, locals := 0 } : Room).cells ({ frames := 0, cells := 0, slots := 0, locals := 0 } : Room).slots) := by
  refine MetFree.of_bodySF (plainFor_of_name pn_0) hisR ?_
  intro pG eG sG mG argsG belowG methG cG s₁ Bd hml0 hP hK
  obtain ⟨rfl, hZ, hh⟩ := hP
  have hx := Bd.exec
  have hby := Bd.bytes
  have hml : cG.maxLocals = 1 := hml0
  have hown : sG.vm.findClass "com/example/vorgang/vorgang/model/PolicyApplyPinLaw" = some mG.cls := findClass_of_methodNamed Bd.named
  have hnm := (name_of_methodNamed Bd.named Bd.method).1
  have X0 : Stand pG l eG ({ frames := 0, cells := 0, slots := 0, locals := 0 } : Room) sG mG #[(.int (0 : Int32))] belowG methG cG s₁ [] 0 0 := Stand.of_body Bd
  have e0 : s₁.heap = h0 := by rw [← hh, Bd.state]; rfl
  have N0 := Fr.nil n0
  have K0 := Keep.refl h0 []
  obtain ⟨S_w_Required, E_w_Required, S_w_RECEIVED, E_w_RECEIVED, S_w_NotSupported, E_w_NotSupported, S_w_NONE, E_w_NONE, S_w_RequiresNew, E_w_RequiresNew, S_w_NEW, E_w_NEW, S_w_Mandatory, E_w_Mandatory, S_w_BeanManaged, E_w_BeanManaged, S_w_Never, E_w_Never, S_w_Supports, E_w_Supports, S_w_EMPTY, E_w_EMPTY, F_w_Required_ordinal, F_w_NotSupported_ordinal, F_w_RequiresNew_ordinal, F_w_Mandatory_ordinal, F_w_BeanManaged_ordinal, F_w_Never_ordinal, F_w_Supports_ordinal, F_w_EMPTY_value, ne_w_Required_w_NotSupported, ne_w_Required_w_RequiresNew, ne_w_Required_w_Mandatory, ne_w_Required_w_BeanManaged, ne_w_Required_w_Never, ne_w_Required_w_Supports, ne_w_NotSupported_w_RequiresNew, ne_w_NotSupported_w_Mandatory, ne_w_NotSupported_w_BeanManaged, ne_w_NotSupported_w_Never, ne_w_NotSupported_w_Supports, ne_w_RequiresNew_w_Mandatory, ne_w_RequiresNew_w_BeanManaged, ne_w_RequiresNew_w_Never, ne_w_RequiresNew_w_Supports, ne_w_Mandatory_w_BeanManaged, ne_w_Mandatory_w_Never, ne_w_Mandatory_w_Supports, ne_w_BeanManaged_w_Never, ne_w_BeanManaged_w_Supports, ne_w_Never_w_Supports⟩ := (id hS : St0 Z w_Required w_RECEIVED w_NotSupported w_NONE w_RequiresNew w_NEW w_Mandatory w_BeanManaged w_Never w_Supports w_EMPTY )
  refine ostart (g' := (mkF mG 0 #[.val (.int (0 : Int32))] [])) (by first | (simp [entryFrame, mkF, argsToLocals, Value.category]; done) | rfl) ?_
  refine ob s₁ (mkF mG 1 #[.val (.int (0 : Int32))] [(.int (0 : Int32))]) (fun _ kk => XS.iloadN X0.here hx rfl (hb hby d1_0) rfl kk) ?_
  refine ob s₁ (mkF mG 4 #[.val (.int (0 : Int32))] []) (fun _ kk => XS.ifNo X0.here hx rfl (hb hby d1_1) rfl ((if0 _ _).trans (teq (by decide : (0 : Int32) = (0 : Int32))).2) kk) ?_
  obtain ⟨T1, X1, e1, st1⟩ := getS2 X0 hx hZ hown (host := "") (Or.inl (ow hw 5 rfl)) Via.refl e0 (S_w_Required.ext O0.2) (g := (mkF mG 4 #[.val (.int (0 : Int32))] [])) rfl (hb hby d1_4)
  refine ob T1 (mkF mG 7 #[.val (.int (0 : Int32))] [(.ref w_Required)]) (fun _ kk => st1 _ kk) ?_
  obtain ⟨fs, hr, hrun, hended, hW, hsame⟩ := X1.leave (v := some (.ref w_Required)) (fun h => by rw [Bd.returns] at h; cases h)
  refine oout (oretA X1 hx Bd.returns rfl rfl (hb hby d1_7) hr) hrun hended ⟨_, _, rfl, ?_, ⟨_, rfl⟩, hW, hsame.mono (by decide) (by decide)⟩
  show Q_rm_pick0 Z w_Required w_RECEIVED w_NotSupported w_NONE w_RequiresNew w_NEW w_Mandatory w_BeanManaged w_Never w_Supports w_EMPTY  h0 n0 _ T1.heap _
  rw [e1]
  exact ⟨rfl, N0, rfl⟩

theorem d1_8 : decode method_2_code 8 = .ok (.iload_n 0, 1) := by decide +kernel
theorem d1_9 : decode method_2_code 9 = .ok (.iconst 1, 1) := by decide +kernel
theorem d1_10 : decode method_2_code 10 = .ok (.if_icmp .ne 7, 3) := by decide +kernel
theorem d1_13 : decode method_2_code 13 = .ok (.getstatic 13, 3) := by decide +kernel
theorem d1_16 : decode method_2_code 16 = .ok (.areturn, 1) := by decide +kernel
def Q_rm_pick1 (Z : State) (w_Required : Addr) (w_RECEIVED : Addr) (w_NotSupported : Addr) (w_NONE : Addr) (w_RequiresNew : Addr) (w_NEW : Addr) (w_Mandatory : Addr) (w_BeanManaged : Addr) (w_Never : Addr) (w_Supports : Addr) (w_EMPTY : Addr)  (h0 : Heap) (n0 : Nat) (v : Option Value) (h : Heap) (L : List Loc) : Prop := v = some (.ref w_RequiresNew) ∧ Fr n0 L ∧ h = h0
set_option maxRecDepth 65536 in
set_option maxHeartbeats 40000000 in
theorem rm_pick1 (l : Launch) (Z : State) (a0 : Array Value) (hw : ∀ d ∈ tables_1, d.before a0 Z = true) (ws : List Jvm.Cond) (w_Required : Addr) (w_RECEIVED : Addr) (w_NotSupported : Addr) (w_NONE : Addr) (w_RequiresNew : Addr) (w_NEW : Addr) (w_Mandatory : Addr) (w_BeanManaged : Addr) (w_Never : Addr) (w_Supports : Addr) (w_EMPTY : Addr)  (h0 : Heap) (n0 : Nat) (O0 : Old Z n0 h0) (hS : St0 Z w_Required w_RECEIVED w_NotSupported w_NONE w_RequiresNew w_NEW w_Mandatory w_BeanManaged w_Never w_Supports w_EMPTY ) :
    MetFree l (⟨"com/example/vorgang/vorgang/model/PolicyApplyPinLaw", "pick", "(I)Lcom/example/vorgang/vorgang/model/Policy;"⟩ : MethodName) (head1 (Jvm.Cond.code (⟨"com/example/vorgang/vorgang/model/PolicyApplyPinLaw", "pick", "(I)Lcom/example/vorgang/vorgang/model/Policy;"⟩ : MethodName) method_2_code 1 (some (.object "com/example/vorgang/vorgang/model/Policy")) :: ws) ({ frames := 0, cells := 0, slots := 0, locals := 0 } : Room)) (fun aG UG => aG = #[(.int (1 : Int32))] ∧ Z.Warmed39 UG.vm ∧ UG.heap = h0) (fun _ _ _ _ _ => True) (fun _ UG oG UG' => ∃ vG LG, oG = .returned vG ∧ Q_rm_pick1 Z w_Required w_RECEIVED w_NotSupported w_NONE w_RequiresNew w_NEW w_Mandatory w_BeanManaged w_Never w_Supports w_EMPTY  h0 n0 vG UG'.heap LG ∧ FrameEnd UG oG UG' LG ({ frames := 0, cells := 0, slots := 0, locals := 0 } : Room).cells ({ frames := 0, cells := 0, slots := 0, locals := 0 } : Room).slots) := by
  refine MetFree.of_bodySF (plainFor_of_name pn_0) hisR ?_
  intro pG eG sG mG argsG belowG methG cG s₁ Bd hml0 hP hK
  obtain ⟨rfl, hZ, hh⟩ := hP
  have hx := Bd.exec
  have hby := Bd.bytes
  have hml : cG.maxLocals = 1 := hml0
  have hown : sG.vm.findClass "com/example/vorgang/vorgang/model/PolicyApplyPinLaw" = some mG.cls := findClass_of_methodNamed Bd.named
  have hnm := (name_of_methodNamed Bd.named Bd.method).1
  have X0 : Stand pG l eG ({ frames := 0, cells := 0, slots := 0, locals := 0 } : Room) sG mG #[(.int (1 : Int32))] belowG methG cG s₁ [] 0 0 := Stand.of_body Bd
  have e0 : s₁.heap = h0 := by rw [← hh, Bd.state]; rfl
  have N0 := Fr.nil n0
  have K0 := Keep.refl h0 []
  obtain ⟨S_w_Required, E_w_Required, S_w_RECEIVED, E_w_RECEIVED, S_w_NotSupported, E_w_NotSupported, S_w_NONE, E_w_NONE, S_w_RequiresNew, E_w_RequiresNew, S_w_NEW, E_w_NEW, S_w_Mandatory, E_w_Mandatory, S_w_BeanManaged, E_w_BeanManaged, S_w_Never, E_w_Never, S_w_Supports, E_w_Supports, S_w_EMPTY, E_w_EMPTY, F_w_Required_ordinal, F_w_NotSupported_ordinal, F_w_RequiresNew_ordinal, F_w_Mandatory_ordinal, F_w_BeanManaged_ordinal, F_w_Never_ordinal, F_w_Supports_ordinal, F_w_EMPTY_value, ne_w_Required_w_NotSupported, ne_w_Required_w_RequiresNew, ne_w_Required_w_Mandatory, ne_w_Required_w_BeanManaged, ne_w_Required_w_Never, ne_w_Required_w_Supports, ne_w_NotSupported_w_RequiresNew, ne_w_NotSupported_w_Mandatory, ne_w_NotSupported_w_BeanManaged, ne_w_NotSupported_w_Never, ne_w_NotSupported_w_Supports, ne_w_RequiresNew_w_Mandatory, ne_w_RequiresNew_w_BeanManaged, ne_w_RequiresNew_w_Never, ne_w_RequiresNew_w_Supports, ne_w_Mandatory_w_BeanManaged, ne_w_Mandatory_w_Never, ne_w_Mandatory_w_Supports, ne_w_BeanManaged_w_Never, ne_w_BeanManaged_w_Supports, ne_w_Never_w_Supports⟩ := (id hS : St0 Z w_Required w_RECEIVED w_NotSupported w_NONE w_RequiresNew w_NEW w_Mandatory w_BeanManaged w_Never w_Supports w_EMPTY )
  refine ostart (g' := (mkF mG 0 #[.val (.int (1 : Int32))] [])) (by first | (simp [entryFrame, mkF, argsToLocals, Value.category]; done) | rfl) ?_
  refine ob s₁ (mkF mG 1 #[.val (.int (1 : Int32))] [(.int (1 : Int32))]) (fun _ kk => XS.iloadN X0.here hx rfl (hb hby d1_0) rfl kk) ?_
  refine ob s₁ (mkF mG 8 #[.val (.int (1 : Int32))] []) (fun _ kk => XS.ifYes X0.here hx rfl (pc0 := 1) (pc' := 8) rfl (hb hby d1_1) rfl ((if0 _ _).trans (feq (by decide : ¬ ((1 : Int32) = (0 : Int32)))).2) (by decide) (by decide) kk) ?_
  refine ob s₁ (mkF mG 9 #[.val (.int (1 : Int32))] [(.int (1 : Int32))]) (fun _ kk => XS.iloadN X0.here hx rfl (hb hby d1_8) rfl kk) ?_
  refine ob s₁ (mkF mG 10 #[.val (.int (1 : Int32))] [(.int (1 : Int32)), (.int (1 : Int32))]) (fun _ kk => XS.iconst X0.here hx rfl (hb hby d1_9) kk) ?_
  refine ob s₁ (mkF mG 13 #[.val (.int (1 : Int32))] []) (fun _ kk => XS.icmpNo X0.here hx rfl (hb hby d1_10) rfl (teq (by decide : (1 : Int32) = (1 : Int32))).2 kk) ?_
  obtain ⟨T1, X1, e1, st1⟩ := getS2 X0 hx hZ hown (host := "") (Or.inl (ow hw 56 rfl)) Via.refl e0 (S_w_RequiresNew.ext O0.2) (g := (mkF mG 13 #[.val (.int (1 : Int32))] [])) rfl (hb hby d1_13)
  refine ob T1 (mkF mG 16 #[.val (.int (1 : Int32))] [(.ref w_RequiresNew)]) (fun _ kk => st1 _ kk) ?_
  obtain ⟨fs, hr, hrun, hended, hW, hsame⟩ := X1.leave (v := some (.ref w_RequiresNew)) (fun h => by rw [Bd.returns] at h; cases h)
  refine oout (oretA X1 hx Bd.returns rfl rfl (hb hby d1_16) hr) hrun hended ⟨_, _, rfl, ?_, ⟨_, rfl⟩, hW, hsame.mono (by decide) (by decide)⟩
  show Q_rm_pick1 Z w_Required w_RECEIVED w_NotSupported w_NONE w_RequiresNew w_NEW w_Mandatory w_BeanManaged w_Never w_Supports w_EMPTY  h0 n0 _ T1.heap _
  rw [e1]
  exact ⟨rfl, N0, rfl⟩

theorem d1_17 : decode method_2_code 17 = .ok (.iload_n 0, 1) := by decide +kernel
theorem d1_18 : decode method_2_code 18 = .ok (.iconst 2, 1) := by decide +kernel
theorem d1_19 : decode method_2_code 19 = .ok (.if_icmp .ne 7, 3) := by decide +kernel
theorem d1_22 : decode method_2_code 22 = .ok (.getstatic 16, 3) := by decide +kernel
theorem d1_25 : decode method_2_code 25 = .ok (.areturn, 1) := by decide +kernel
def Q_rm_pick2 (Z : State) (w_Required : Addr) (w_RECEIVED : Addr) (w_NotSupported : Addr) (w_NONE : Addr) (w_RequiresNew : Addr) (w_NEW : Addr) (w_Mandatory : Addr) (w_BeanManaged : Addr) (w_Never : Addr) (w_Supports : Addr) (w_EMPTY : Addr)  (h0 : Heap) (n0 : Nat) (v : Option Value) (h : Heap) (L : List Loc) : Prop := v = some (.ref w_Supports) ∧ Fr n0 L ∧ h = h0
set_option maxRecDepth 65536 in
set_option maxHeartbeats 40000000 in
theorem rm_pick2 (l : Launch) (Z : State) (a0 : Array Value) (hw : ∀ d ∈ tables_1, d.before a0 Z = true) (ws : List Jvm.Cond) (w_Required : Addr) (w_RECEIVED : Addr) (w_NotSupported : Addr) (w_NONE : Addr) (w_RequiresNew : Addr) (w_NEW : Addr) (w_Mandatory : Addr) (w_BeanManaged : Addr) (w_Never : Addr) (w_Supports : Addr) (w_EMPTY : Addr)  (h0 : Heap) (n0 : Nat) (O0 : Old Z n0 h0) (hS : St0 Z w_Required w_RECEIVED w_NotSupported w_NONE w_RequiresNew w_NEW w_Mandatory w_BeanManaged w_Never w_Supports w_EMPTY ) :
    MetFree l (⟨"com/example/vorgang/vorgang/model/PolicyApplyPinLaw", "pick", "(I)Lcom/example/vorgang/vorgang/model/Policy;"⟩ : MethodName) (head1 (Jvm.Cond.code (⟨"com/example/vorgang/vorgang/model/PolicyApplyPinLaw", "pick", "(I)Lcom/example/vorgang/vorgang/model/Policy;"⟩ : MethodName) method_2_code 1 (some (.object "com/example/vorgang/vorgang/model/Policy")) :: ws) ({ frames := 0, cells := 0, slots := 0, locals := 0 } : Room)) (fun aG UG => aG = #[(.int (2 : Int32))] ∧ Z.Warmed39 UG.vm ∧ UG.heap = h0) (fun _ _ _ _ _ => True) (fun _ UG oG UG' => ∃ vG LG, oG = .returned vG ∧ Q_rm_pick2 Z w_Required w_RECEIVED w_NotSupported w_NONE w_RequiresNew w_NEW w_Mandatory w_BeanManaged w_Never w_Supports w_EMPTY  h0 n0 vG UG'.heap LG ∧ FrameEnd UG oG UG' LG ({ frames := 0, cells := 0, slots := 0, locals := 0 } : Room).cells ({ frames := 0, cells := 0, slots := 0, locals := 0 } : Room).slots) := by
  refine MetFree.of_bodySF (plainFor_of_name pn_0) hisR ?_
  intro pG eG sG mG argsG belowG methG cG s₁ Bd hml0 hP hK
  obtain ⟨rfl, hZ, hh⟩ := hP
  have hx := Bd.exec
  have hby := Bd.bytes
  have hml : cG.maxLocals = 1 := hml0
  have hown : sG.vm.findClass "com/example/vorgang/vorgang/model/PolicyApplyPinLaw" = some mG.cls := findClass_of_methodNamed Bd.named
  have hnm := (name_of_methodNamed Bd.named Bd.method).1
  have X0 : Stand pG l eG ({ frames := 0, cells := 0, slots := 0, locals := 0 } : Room) sG mG #[(.int (2 : Int32))] belowG methG cG s₁ [] 0 0 := Stand.of_body Bd
  have e0 : s₁.heap = h0 := by rw [← hh, Bd.state]; rfl
  have N0 := Fr.nil n0
  have K0 := Keep.refl h0 []
  obtain ⟨S_w_Required, E_w_Required, S_w_RECEIVED, E_w_RECEIVED, S_w_NotSupported, E_w_NotSupported, S_w_NONE, E_w_NONE, S_w_RequiresNew, E_w_RequiresNew, S_w_NEW, E_w_NEW, S_w_Mandatory, E_w_Mandatory, S_w_BeanManaged, E_w_BeanManaged, S_w_Never, E_w_Never, S_w_Supports, E_w_Supports, S_w_EMPTY, E_w_EMPTY, F_w_Required_ordinal, F_w_NotSupported_ordinal, F_w_RequiresNew_ordinal, F_w_Mandatory_ordinal, F_w_BeanManaged_ordinal, F_w_Never_ordinal, F_w_Supports_ordinal, F_w_EMPTY_value, ne_w_Required_w_NotSupported, ne_w_Required_w_RequiresNew, ne_w_Required_w_Mandatory, ne_w_Required_w_BeanManaged, ne_w_Required_w_Never, ne_w_Required_w_Supports, ne_w_NotSupported_w_RequiresNew, ne_w_NotSupported_w_Mandatory, ne_w_NotSupported_w_BeanManaged, ne_w_NotSupported_w_Never, ne_w_NotSupported_w_Supports, ne_w_RequiresNew_w_Mandatory, ne_w_RequiresNew_w_BeanManaged, ne_w_RequiresNew_w_Never, ne_w_RequiresNew_w_Supports, ne_w_Mandatory_w_BeanManaged, ne_w_Mandatory_w_Never, ne_w_Mandatory_w_Supports, ne_w_BeanManaged_w_Never, ne_w_BeanManaged_w_Supports, ne_w_Never_w_Supports⟩ := (id hS : St0 Z w_Required w_RECEIVED w_NotSupported w_NONE w_RequiresNew w_NEW w_Mandatory w_BeanManaged w_Never w_Supports w_EMPTY )
  refine ostart (g' := (mkF mG 0 #[.val (.int (2 : Int32))] [])) (by first | (simp [entryFrame, mkF, argsToLocals, Value.category]; done) | rfl) ?_
  refine ob s₁ (mkF mG 1 #[.val (.int (2 : Int32))] [(.int (2 : Int32))]) (fun _ kk => XS.iloadN X0.here hx rfl (hb hby d1_0) rfl kk) ?_
  refine ob s₁ (mkF mG 8 #[.val (.int (2 : Int32))] []) (fun _ kk => XS.ifYes X0.here hx rfl (pc0 := 1) (pc' := 8) rfl (hb hby d1_1) rfl ((if0 _ _).trans (feq (by decide : ¬ ((2 : Int32) = (0 : Int32)))).2) (by decide) (by decide) kk) ?_
  refine ob s₁ (mkF mG 9 #[.val (.int (2 : Int32))] [(.int (2 : Int32))]) (fun _ kk => XS.iloadN X0.here hx rfl (hb hby d1_8) rfl kk) ?_
  refine ob s₁ (mkF mG 10 #[.val (.int (2 : Int32))] [(.int (1 : Int32)), (.int (2 : Int32))]) (fun _ kk => XS.iconst X0.here hx rfl (hb hby d1_9) kk) ?_
  refine ob s₁ (mkF mG 17 #[.val (.int (2 : Int32))] []) (fun _ kk => XS.icmpYes X0.here hx rfl (pc0 := 10) (pc' := 17) rfl (hb hby d1_10) rfl (feq (by decide : ¬ ((2 : Int32) = (1 : Int32)))).2 (by decide) (by decide) kk) ?_
  refine ob s₁ (mkF mG 18 #[.val (.int (2 : Int32))] [(.int (2 : Int32))]) (fun _ kk => XS.iloadN X0.here hx rfl (hb hby d1_17) rfl kk) ?_
  refine ob s₁ (mkF mG 19 #[.val (.int (2 : Int32))] [(.int (2 : Int32)), (.int (2 : Int32))]) (fun _ kk => XS.iconst X0.here hx rfl (hb hby d1_18) kk) ?_
  refine ob s₁ (mkF mG 22 #[.val (.int (2 : Int32))] []) (fun _ kk => XS.icmpNo X0.here hx rfl (hb hby d1_19) rfl (teq (by decide : (2 : Int32) = (2 : Int32))).2 kk) ?_
  obtain ⟨T1, X1, e1, st1⟩ := getS2 X0 hx hZ hown (host := "") (Or.inl (ow hw 68 rfl)) Via.refl e0 (S_w_Supports.ext O0.2) (g := (mkF mG 22 #[.val (.int (2 : Int32))] [])) rfl (hb hby d1_22)
  refine ob T1 (mkF mG 25 #[.val (.int (2 : Int32))] [(.ref w_Supports)]) (fun _ kk => st1 _ kk) ?_
  obtain ⟨fs, hr, hrun, hended, hW, hsame⟩ := X1.leave (v := some (.ref w_Supports)) (fun h => by rw [Bd.returns] at h; cases h)
  refine oout (oretA X1 hx Bd.returns rfl rfl (hb hby d1_25) hr) hrun hended ⟨_, _, rfl, ?_, ⟨_, rfl⟩, hW, hsame.mono (by decide) (by decide)⟩
  show Q_rm_pick2 Z w_Required w_RECEIVED w_NotSupported w_NONE w_RequiresNew w_NEW w_Mandatory w_BeanManaged w_Never w_Supports w_EMPTY  h0 n0 _ T1.heap _
  rw [e1]
  exact ⟨rfl, N0, rfl⟩

theorem d1_26 : decode method_2_code 26 = .ok (.iload_n 0, 1) := by decide +kernel
theorem d1_27 : decode method_2_code 27 = .ok (.iconst 3, 1) := by decide +kernel
theorem d1_28 : decode method_2_code 28 = .ok (.if_icmp .ne 7, 3) := by decide +kernel
theorem d1_31 : decode method_2_code 31 = .ok (.getstatic 19, 3) := by decide +kernel
theorem d1_34 : decode method_2_code 34 = .ok (.areturn, 1) := by decide +kernel
def Q_rm_pick3 (Z : State) (w_Required : Addr) (w_RECEIVED : Addr) (w_NotSupported : Addr) (w_NONE : Addr) (w_RequiresNew : Addr) (w_NEW : Addr) (w_Mandatory : Addr) (w_BeanManaged : Addr) (w_Never : Addr) (w_Supports : Addr) (w_EMPTY : Addr)  (h0 : Heap) (n0 : Nat) (v : Option Value) (h : Heap) (L : List Loc) : Prop := v = some (.ref w_NotSupported) ∧ Fr n0 L ∧ h = h0
set_option maxRecDepth 65536 in
set_option maxHeartbeats 40000000 in
theorem rm_pick3 (l : Launch) (Z : State) (a0 : Array Value) (hw : ∀ d ∈ tables_1, d.before a0 Z = true) (ws : List Jvm.Cond) (w_Required : Addr) (w_RECEIVED : Addr) (w_NotSupported : Addr) (w_NONE : Addr) (w_RequiresNew : Addr) (w_NEW : Addr) (w_Mandatory : Addr) (w_BeanManaged : Addr) (w_Never : Addr) (w_Supports : Addr) (w_EMPTY : Addr)  (h0 : Heap) (n0 : Nat) (O0 : Old Z n0 h0) (hS : St0 Z w_Required w_RECEIVED w_NotSupported w_NONE w_RequiresNew w_NEW w_Mandatory w_BeanManaged w_Never w_Supports w_EMPTY ) :
    MetFree l (⟨"com/example/vorgang/vorgang/model/PolicyApplyPinLaw", "pick", "(I)Lcom/example/vorgang/vorgang/model/Policy;"⟩ : MethodName) (head1 (Jvm.Cond.code (⟨"com/example/vorgang/vorgang/model/PolicyApplyPinLaw", "pick", "(I)Lcom/example/vorgang/vorgang/model/Policy;"⟩ : MethodName) method_2_code 1 (some (.object "com/example/vorgang/vorgang/model/Policy")) :: ws) ({ frames := 0, cells := 0, slots := 0, locals := 0 } : Room)) (fun aG UG => aG = #[(.int (3 : Int32))] ∧ Z.Warmed39 UG.vm ∧ UG.heap = h0) (fun _ _ _ _ _ => True) (fun _ UG oG UG' => ∃ vG LG, oG = .returned vG ∧ Q_rm_pick3 Z w_Required w_RECEIVED w_NotSupported w_NONE w_RequiresNew w_NEW w_Mandatory w_BeanManaged w_Never w_Supports w_EMPTY  h0 n0 vG UG'.heap LG ∧ FrameEnd UG oG UG' LG ({ frames := 0, cells := 0, slots := 0, locals := 0 } : Room).cells ({ frames := 0, cells := 0, slots := 0, locals := 0 } : Room).slots) := by
  refine MetFree.of_bodySF (plainFor_of_name pn_0) hisR ?_
  intro pG eG sG mG argsG belowG methG cG s₁ Bd hml0 hP hK
  obtain ⟨rfl, hZ, hh⟩ := hP
  have hx := Bd.exec
  have hby := Bd.bytes
  have hml : cG.maxLocals = 1 := hml0
  have hown : sG.vm.findClass "com/example/vorgang/vorgang/model/PolicyApplyPinLaw" = some mG.cls := findClass_of_methodNamed Bd.named
  have hnm := (name_of_methodNamed Bd.named Bd.method).1
  have X0 : Stand pG l eG ({ frames := 0, cells := 0, slots := 0, locals := 0 } : Room) sG mG #[(.int (3 : Int32))] belowG methG cG s₁ [] 0 0 := Stand.of_body Bd
  have e0 : s₁.heap = h0 := by rw [← hh, Bd.state]; rfl
  have N0 := Fr.nil n0
  have K0 := Keep.refl h0 []
  obtain ⟨S_w_Required, E_w_Required, S_w_RECEIVED, E_w_RECEIVED, S_w_NotSupported, E_w_NotSupported, S_w_NONE, E_w_NONE, S_w_RequiresNew, E_w_RequiresNew, S_w_NEW, E_w_NEW, S_w_Mandatory, E_w_Mandatory, S_w_BeanManaged, E_w_BeanManaged, S_w_Never, E_w_Never, S_w_Supports, E_w_Supports, S_w_EMPTY, E_w_EMPTY, F_w_Required_ordinal, F_w_NotSupported_ordinal, F_w_RequiresNew_ordinal, F_w_Mandatory_ordinal, F_w_BeanManaged_ordinal, F_w_Never_ordinal, F_w_Supports_ordinal, F_w_EMPTY_value, ne_w_Required_w_NotSupported, ne_w_Required_w_RequiresNew, ne_w_Required_w_Mandatory, ne_w_Required_w_BeanManaged, ne_w_Required_w_Never, ne_w_Required_w_Supports, ne_w_NotSupported_w_RequiresNew, ne_w_NotSupported_w_Mandatory, ne_w_NotSupported_w_BeanManaged, ne_w_NotSupported_w_Never, ne_w_NotSupported_w_Supports, ne_w_RequiresNew_w_Mandatory, ne_w_RequiresNew_w_BeanManaged, ne_w_RequiresNew_w_Never, ne_w_RequiresNew_w_Supports, ne_w_Mandatory_w_BeanManaged, ne_w_Mandatory_w_Never, ne_w_Mandatory_w_Supports, ne_w_BeanManaged_w_Never, ne_w_BeanManaged_w_Supports, ne_w_Never_w_Supports⟩ := (id hS : St0 Z w_Required w_RECEIVED w_NotSupported w_NONE w_RequiresNew w_NEW w_Mandatory w_BeanManaged w_Never w_Supports w_EMPTY )
  refine ostart (g' := (mkF mG 0 #[.val (.int (3 : Int32))] [])) (by first | (simp [entryFrame, mkF, argsToLocals, Value.category]; done) | rfl) ?_
  refine ob s₁ (mkF mG 1 #[.val (.int (3 : Int32))] [(.int (3 : Int32))]) (fun _ kk => XS.iloadN X0.here hx rfl (hb hby d1_0) rfl kk) ?_
  refine ob s₁ (mkF mG 8 #[.val (.int (3 : Int32))] []) (fun _ kk => XS.ifYes X0.here hx rfl (pc0 := 1) (pc' := 8) rfl (hb hby d1_1) rfl ((if0 _ _).trans (feq (by decide : ¬ ((3 : Int32) = (0 : Int32)))).2) (by decide) (by decide) kk) ?_
  refine ob s₁ (mkF mG 9 #[.val (.int (3 : Int32))] [(.int (3 : Int32))]) (fun _ kk => XS.iloadN X0.here hx rfl (hb hby d1_8) rfl kk) ?_
  refine ob s₁ (mkF mG 10 #[.val (.int (3 : Int32))] [(.int (1 : Int32)), (.int (3 : Int32))]) (fun _ kk => XS.iconst X0.here hx rfl (hb hby d1_9) kk) ?_
  refine ob s₁ (mkF mG 17 #[.val (.int (3 : Int32))] []) (fun _ kk => XS.icmpYes X0.here hx rfl (pc0 := 10) (pc' := 17) rfl (hb hby d1_10) rfl (feq (by decide : ¬ ((3 : Int32) = (1 : Int32)))).2 (by decide) (by decide) kk) ?_
  refine ob s₁ (mkF mG 18 #[.val (.int (3 : Int32))] [(.int (3 : Int32))]) (fun _ kk => XS.iloadN X0.here hx rfl (hb hby d1_17) rfl kk) ?_
  refine ob s₁ (mkF mG 19 #[.val (.int (3 : Int32))] [(.int (2 : Int32)), (.int (3 : Int32))]) (fun _ kk => XS.iconst X0.here hx rfl (hb hby d1_18) kk) ?_
  refine ob s₁ (mkF mG 26 #[.val (.int (3 : Int32))] []) (fun _ kk => XS.icmpYes X0.here hx rfl (pc0 := 19) (pc' := 26) rfl (hb hby d1_19) rfl (feq (by decide : ¬ ((3 : Int32) = (2 : Int32)))).2 (by decide) (by decide) kk) ?_
  refine ob s₁ (mkF mG 27 #[.val (.int (3 : Int32))] [(.int (3 : Int32))]) (fun _ kk => XS.iloadN X0.here hx rfl (hb hby d1_26) rfl kk) ?_
  refine ob s₁ (mkF mG 28 #[.val (.int (3 : Int32))] [(.int (3 : Int32)), (.int (3 : Int32))]) (fun _ kk => XS.iconst X0.here hx rfl (hb hby d1_27) kk) ?_
  refine ob s₁ (mkF mG 31 #[.val (.int (3 : Int32))] []) (fun _ kk => XS.icmpNo X0.here hx rfl (hb hby d1_28) rfl (teq (by decide : (3 : Int32) = (3 : Int32))).2 kk) ?_
  obtain ⟨T1, X1, e1, st1⟩ := getS2 X0 hx hZ hown (host := "") (Or.inl (ow hw 51 rfl)) Via.refl e0 (S_w_NotSupported.ext O0.2) (g := (mkF mG 31 #[.val (.int (3 : Int32))] [])) rfl (hb hby d1_31)
  refine ob T1 (mkF mG 34 #[.val (.int (3 : Int32))] [(.ref w_NotSupported)]) (fun _ kk => st1 _ kk) ?_
  obtain ⟨fs, hr, hrun, hended, hW, hsame⟩ := X1.leave (v := some (.ref w_NotSupported)) (fun h => by rw [Bd.returns] at h; cases h)
  refine oout (oretA X1 hx Bd.returns rfl rfl (hb hby d1_34) hr) hrun hended ⟨_, _, rfl, ?_, ⟨_, rfl⟩, hW, hsame.mono (by decide) (by decide)⟩
  show Q_rm_pick3 Z w_Required w_RECEIVED w_NotSupported w_NONE w_RequiresNew w_NEW w_Mandatory w_BeanManaged w_Never w_Supports w_EMPTY  h0 n0 _ T1.heap _
  rw [e1]
  exact ⟨rfl, N0, rfl⟩

theorem d1_35 : decode method_2_code 35 = .ok (.iload_n 0, 1) := by decide +kernel
theorem d1_36 : decode method_2_code 36 = .ok (.iconst 4, 1) := by decide +kernel
theorem d1_37 : decode method_2_code 37 = .ok (.if_icmp .ne 7, 3) := by decide +kernel
theorem d1_40 : decode method_2_code 40 = .ok (.getstatic 22, 3) := by decide +kernel
theorem d1_43 : decode method_2_code 43 = .ok (.areturn, 1) := by decide +kernel
def Q_rm_pick4 (Z : State) (w_Required : Addr) (w_RECEIVED : Addr) (w_NotSupported : Addr) (w_NONE : Addr) (w_RequiresNew : Addr) (w_NEW : Addr) (w_Mandatory : Addr) (w_BeanManaged : Addr) (w_Never : Addr) (w_Supports : Addr) (w_EMPTY : Addr)  (h0 : Heap) (n0 : Nat) (v : Option Value) (h : Heap) (L : List Loc) : Prop := v = some (.ref w_Mandatory) ∧ Fr n0 L ∧ h = h0
set_option maxRecDepth 65536 in
set_option maxHeartbeats 40000000 in
theorem rm_pick4 (l : Launch) (Z : State) (a0 : Array Value) (hw : ∀ d ∈ tables_1, d.before a0 Z = true) (ws : List Jvm.Cond) (w_Required : Addr) (w_RECEIVED : Addr) (w_NotSupported : Addr) (w_NONE : Addr) (w_RequiresNew : Addr) (w_NEW : Addr) (w_Mandatory : Addr) (w_BeanManaged : Addr) (w_Never : Addr) (w_Supports : Addr) (w_EMPTY : Addr)  (h0 : Heap) (n0 : Nat) (O0 : Old Z n0 h0) (hS : St0 Z w_Required w_RECEIVED w_NotSupported w_NONE w_RequiresNew w_NEW w_Mandatory w_BeanManaged w_Never w_Supports w_EMPTY ) :
    MetFree l (⟨"com/example/vorgang/vorgang/model/PolicyApplyPinLaw", "pick", "(I)Lcom/example/vorgang/vorgang/model/Policy;"⟩ : MethodName) (head1 (Jvm.Cond.code (⟨"com/example/vorgang/vorgang/model/PolicyApplyPinLaw", "pick", "(I)Lcom/example/vorgang/vorgang/model/Policy;"⟩ : MethodName) method_2_code 1 (some (.object "com/example/vorgang/vorgang/model/Policy")) :: ws) ({ frames := 0, cells := 0, slots := 0, locals := 0 } : Room)) (fun aG UG => aG = #[(.int (4 : Int32))] ∧ Z.Warmed39 UG.vm ∧ UG.heap = h0) (fun _ _ _ _ _ => True) (fun _ UG oG UG' => ∃ vG LG, oG = .returned vG ∧ Q_rm_pick4 Z w_Required w_RECEIVED w_NotSupported w_NONE w_RequiresNew w_NEW w_Mandatory w_BeanManaged w_Never w_Supports w_EMPTY  h0 n0 vG UG'.heap LG ∧ FrameEnd UG oG UG' LG ({ frames := 0, cells := 0, slots := 0, locals := 0 } : Room).cells ({ frames := 0, cells := 0, slots := 0, locals := 0 } : Room).slots) := by
  refine MetFree.of_bodySF (plainFor_of_name pn_0) hisR ?_
  intro pG eG sG mG argsG belowG methG cG s₁ Bd hml0 hP hK
  obtain ⟨rfl, hZ, hh⟩ := hP
  have hx := Bd.exec
  have hby := Bd.bytes
  have hml : cG.maxLocals = 1 := hml0
  have hown : sG.vm.findClass "com/example/vorgang/vorgang/model/PolicyApplyPinLaw" = some mG.cls := findClass_of_methodNamed Bd.named
  have hnm := (name_of_methodNamed Bd.named Bd.method).1
  have X0 : Stand pG l eG ({ frames := 0, cells := 0, slots := 0, locals := 0 } : Room) sG mG #[(.int (4 : Int32))] belowG methG cG s₁ [] 0 0 := Stand.of_body Bd
  have e0 : s₁.heap = h0 := by rw [← hh, Bd.state]; rfl
  have N0 := Fr.nil n0
  have K0 := Keep.refl h0 []
  obtain ⟨S_w_Required, E_w_Required, S_w_RECEIVED, E_w_RECEIVED, S_w_NotSupported, E_w_NotSupported, S_w_NONE, E_w_NONE, S_w_RequiresNew, E_w_RequiresNew, S_w_NEW, E_w_NEW, S_w_Mandatory, E_w_Mandatory, S_w_BeanManaged, E_w_BeanManaged, S_w_Never, E_w_Never, S_w_Supports, E_w_Supports, S_w_EMPTY, E_w_EMPTY, F_w_Required_ordinal, F_w_NotSupported_ordinal, F_w_RequiresNew_ordinal, F_w_Mandatory_ordinal, F_w_BeanManaged_ordinal, F_w_Never_ordinal, F_w_Supports_ordinal, F_w_EMPTY_value, ne_w_Required_w_NotSupported, ne_w_Required_w_RequiresNew, ne_w_Required_w_Mandatory, ne_w_Required_w_BeanManaged, ne_w_Required_w_Never, ne_w_Required_w_Supports, ne_w_NotSupported_w_RequiresNew, ne_w_NotSupported_w_Mandatory, ne_w_NotSupported_w_BeanManaged, ne_w_NotSupported_w_Never, ne_w_NotSupported_w_Supports, ne_w_RequiresNew_w_Mandatory, ne_w_RequiresNew_w_BeanManaged, ne_w_RequiresNew_w_Never, ne_w_RequiresNew_w_Supports, ne_w_Mandatory_w_BeanManaged, ne_w_Mandatory_w_Never, ne_w_Mandatory_w_Supports, ne_w_BeanManaged_w_Never, ne_w_BeanManaged_w_Supports, ne_w_Never_w_Supports⟩ := (id hS : St0 Z w_Required w_RECEIVED w_NotSupported w_NONE w_RequiresNew w_NEW w_Mandatory w_BeanManaged w_Never w_Supports w_EMPTY )
  refine ostart (g' := (mkF mG 0 #[.val (.int (4 : Int32))] [])) (by first | (simp [entryFrame, mkF, argsToLocals, Value.category]; done) | rfl) ?_
  refine ob s₁ (mkF mG 1 #[.val (.int (4 : Int32))] [(.int (4 : Int32))]) (fun _ kk => XS.iloadN X0.here hx rfl (hb hby d1_0) rfl kk) ?_
  refine ob s₁ (mkF mG 8 #[.val (.int (4 : Int32))] []) (fun _ kk => XS.ifYes X0.here hx rfl (pc0 := 1) (pc' := 8) rfl (hb hby d1_1) rfl ((if0 _ _).trans (feq (by decide : ¬ ((4 : Int32) = (0 : Int32)))).2) (by decide) (by decide) kk) ?_
  refine ob s₁ (mkF mG 9 #[.val (.int (4 : Int32))] [(.int (4 : Int32))]) (fun _ kk => XS.iloadN X0.here hx rfl (hb hby d1_8) rfl kk) ?_
  refine ob s₁ (mkF mG 10 #[.val (.int (4 : Int32))] [(.int (1 : Int32)), (.int (4 : Int32))]) (fun _ kk => XS.iconst X0.here hx rfl (hb hby d1_9) kk) ?_
  refine ob s₁ (mkF mG 17 #[.val (.int (4 : Int32))] []) (fun _ kk => XS.icmpYes X0.here hx rfl (pc0 := 10) (pc' := 17) rfl (hb hby d1_10) rfl (feq (by decide : ¬ ((4 : Int32) = (1 : Int32)))).2 (by decide) (by decide) kk) ?_
  refine ob s₁ (mkF mG 18 #[.val (.int (4 : Int32))] [(.int (4 : Int32))]) (fun _ kk => XS.iloadN X0.here hx rfl (hb hby d1_17) rfl kk) ?_
  refine ob s₁ (mkF mG 19 #[.val (.int (4 : Int32))] [(.int (2 : Int32)), (.int (4 : Int32))]) (fun _ kk => XS.iconst X0.here hx rfl (hb hby d1_18) kk) ?_
  refine ob s₁ (mkF mG 26 #[.val (.int (4 : Int32))] []) (fun _ kk => XS.icmpYes X0.here hx rfl (pc0 := 19) (pc' := 26) rfl (hb hby d1_19) rfl (feq (by decide : ¬ ((4 : Int32) = (2 : Int32)))).2 (by decide) (by decide) kk) ?_
  refine ob s₁ (mkF mG 27 #[.val (.int (4 : Int32))] [(.int (4 : Int32))]) (fun _ kk => XS.iloadN X0.here hx rfl (hb hby d1_26) rfl kk) ?_
  refine ob s₁ (mkF mG 28 #[.val (.int (4 : Int32))] [(.int (3 : Int32)), (.int (4 : Int32))]) (fun _ kk => XS.iconst X0.here hx rfl (hb hby d1_27) kk) ?_
  refine ob s₁ (mkF mG 35 #[.val (.int (4 : Int32))] []) (fun _ kk => XS.icmpYes X0.here hx rfl (pc0 := 28) (pc' := 35) rfl (hb hby d1_28) rfl (feq (by decide : ¬ ((4 : Int32) = (3 : Int32)))).2 (by decide) (by decide) kk) ?_
  refine ob s₁ (mkF mG 36 #[.val (.int (4 : Int32))] [(.int (4 : Int32))]) (fun _ kk => XS.iloadN X0.here hx rfl (hb hby d1_35) rfl kk) ?_
  refine ob s₁ (mkF mG 37 #[.val (.int (4 : Int32))] [(.int (4 : Int32)), (.int (4 : Int32))]) (fun _ kk => XS.iconst X0.here hx rfl (hb hby d1_36) kk) ?_
  refine ob s₁ (mkF mG 40 #[.val (.int (4 : Int32))] []) (fun _ kk => XS.icmpNo X0.here hx rfl (hb hby d1_37) rfl (teq (by decide : (4 : Int32) = (4 : Int32))).2 kk) ?_
  obtain ⟨T1, X1, e1, st1⟩ := getS2 X0 hx hZ hown (host := "") (Or.inl (ow hw 61 rfl)) Via.refl e0 (S_w_Mandatory.ext O0.2) (g := (mkF mG 40 #[.val (.int (4 : Int32))] [])) rfl (hb hby d1_40)
  refine ob T1 (mkF mG 43 #[.val (.int (4 : Int32))] [(.ref w_Mandatory)]) (fun _ kk => st1 _ kk) ?_
  obtain ⟨fs, hr, hrun, hended, hW, hsame⟩ := X1.leave (v := some (.ref w_Mandatory)) (fun h => by rw [Bd.returns] at h; cases h)
  refine oout (oretA X1 hx Bd.returns rfl rfl (hb hby d1_43) hr) hrun hended ⟨_, _, rfl, ?_, ⟨_, rfl⟩, hW, hsame.mono (by decide) (by decide)⟩
  show Q_rm_pick4 Z w_Required w_RECEIVED w_NotSupported w_NONE w_RequiresNew w_NEW w_Mandatory w_BeanManaged w_Never w_Supports w_EMPTY  h0 n0 _ T1.heap _
  rw [e1]
  exact ⟨rfl, N0, rfl⟩

theorem d1_44 : decode method_2_code 44 = .ok (.iload_n 0, 1) := by decide +kernel
theorem d1_45 : decode method_2_code 45 = .ok (.iconst 5, 1) := by decide +kernel
theorem d1_46 : decode method_2_code 46 = .ok (.if_icmp .ne 7, 3) := by decide +kernel
theorem d1_49 : decode method_2_code 49 = .ok (.getstatic 25, 3) := by decide +kernel
theorem d1_52 : decode method_2_code 52 = .ok (.areturn, 1) := by decide +kernel
def Q_rm_pick5 (Z : State) (w_Required : Addr) (w_RECEIVED : Addr) (w_NotSupported : Addr) (w_NONE : Addr) (w_RequiresNew : Addr) (w_NEW : Addr) (w_Mandatory : Addr) (w_BeanManaged : Addr) (w_Never : Addr) (w_Supports : Addr) (w_EMPTY : Addr)  (h0 : Heap) (n0 : Nat) (v : Option Value) (h : Heap) (L : List Loc) : Prop := v = some (.ref w_Never) ∧ Fr n0 L ∧ h = h0
set_option maxRecDepth 65536 in
set_option maxHeartbeats 40000000 in
theorem rm_pick5 (l : Launch) (Z : State) (a0 : Array Value) (hw : ∀ d ∈ tables_1, d.before a0 Z = true) (ws : List Jvm.Cond) (w_Required : Addr) (w_RECEIVED : Addr) (w_NotSupported : Addr) (w_NONE : Addr) (w_RequiresNew : Addr) (w_NEW : Addr) (w_Mandatory : Addr) (w_BeanManaged : Addr) (w_Never : Addr) (w_Supports : Addr) (w_EMPTY : Addr)  (h0 : Heap) (n0 : Nat) (O0 : Old Z n0 h0) (hS : St0 Z w_Required w_RECEIVED w_NotSupported w_NONE w_RequiresNew w_NEW w_Mandatory w_BeanManaged w_Never w_Supports w_EMPTY ) :
    MetFree l (⟨"com/example/vorgang/vorgang/model/PolicyApplyPinLaw", "pick", "(I)Lcom/example/vorgang/vorgang/model/Policy;"⟩ : MethodName) (head1 (Jvm.Cond.code (⟨"com/example/vorgang/vorgang/model/PolicyApplyPinLaw", "pick", "(I)Lcom/example/vorgang/vorgang/model/Policy;"⟩ : MethodName) method_2_code 1 (some (.object "com/example/vorgang/vorgang/model/Policy")) :: ws) ({ frames := 0, cells := 0, slots := 0, locals := 0 } : Room)) (fun aG UG => aG = #[(.int (5 : Int32))] ∧ Z.Warmed39 UG.vm ∧ UG.heap = h0) (fun _ _ _ _ _ => True) (fun _ UG oG UG' => ∃ vG LG, oG = .returned vG ∧ Q_rm_pick5 Z w_Required w_RECEIVED w_NotSupported w_NONE w_RequiresNew w_NEW w_Mandatory w_BeanManaged w_Never w_Supports w_EMPTY  h0 n0 vG UG'.heap LG ∧ FrameEnd UG oG UG' LG ({ frames := 0, cells := 0, slots := 0, locals := 0 } : Room).cells ({ frames := 0, cells := 0, slots := 0, locals := 0 } : Room).slots) := by
  refine MetFree.of_bodySF (plainFor_of_name pn_0) hisR ?_
  intro pG eG sG mG argsG belowG methG cG s₁ Bd hml0 hP hK
  obtain ⟨rfl, hZ, hh⟩ := hP
  have hx := Bd.exec
  have hby := Bd.bytes
  have hml : cG.maxLocals = 1 := hml0
  have hown : sG.vm.findClass "com/example/vorgang/vorgang/model/PolicyApplyPinLaw" = some mG.cls := findClass_of_methodNamed Bd.named
  have hnm := (name_of_methodNamed Bd.named Bd.method).1
  have X0 : Stand pG l eG ({ frames := 0, cells := 0, slots := 0, locals := 0 } : Room) sG mG #[(.int (5 : Int32))] belowG methG cG s₁ [] 0 0 := Stand.of_body Bd
  have e0 : s₁.heap = h0 := by rw [← hh, Bd.state]; rfl
  have N0 := Fr.nil n0
  have K0 := Keep.refl h0 []
  obtain ⟨S_w_Required, E_w_Required, S_w_RECEIVED, E_w_RECEIVED, S_w_NotSupported, E_w_NotSupported, S_w_NONE, E_w_NONE, S_w_RequiresNew, E_w_RequiresNew, S_w_NEW, E_w_NEW, S_w_Mandatory, E_w_Mandatory, S_w_BeanManaged, E_w_BeanManaged, S_w_Never, E_w_Never, S_w_Supports, E_w_Supports, S_w_EMPTY, E_w_EMPTY, F_w_Required_ordinal, F_w_NotSupported_ordinal, F_w_RequiresNew_ordinal, F_w_Mandatory_ordinal, F_w_BeanManaged_ordinal, F_w_Never_ordinal, F_w_Supports_ordinal, F_w_EMPTY_value, ne_w_Required_w_NotSupported, ne_w_Required_w_RequiresNew, ne_w_Required_w_Mandatory, ne_w_Required_w_BeanManaged, ne_w_Required_w_Never, ne_w_Required_w_Supports, ne_w_NotSupported_w_RequiresNew, ne_w_NotSupported_w_Mandatory, ne_w_NotSupported_w_BeanManaged, ne_w_NotSupported_w_Never, ne_w_NotSupported_w_Supports, ne_w_RequiresNew_w_Mandatory, ne_w_RequiresNew_w_BeanManaged, ne_w_RequiresNew_w_Never, ne_w_RequiresNew_w_Supports, ne_w_Mandatory_w_BeanManaged, ne_w_Mandatory_w_Never, ne_w_Mandatory_w_Supports, ne_w_BeanManaged_w_Never, ne_w_BeanManaged_w_Supports, ne_w_Never_w_Supports⟩ := (id hS : St0 Z w_Required w_RECEIVED w_NotSupported w_NONE w_RequiresNew w_NEW w_Mandatory w_BeanManaged w_Never w_Supports w_EMPTY )
  refine ostart (g' := (mkF mG 0 #[.val (.int (5 : Int32))] [])) (by first | (simp [entryFrame, mkF, argsToLocals, Value.category]; done) | rfl) ?_
  refine ob s₁ (mkF mG 1 #[.val (.int (5 : Int32))] [(.int (5 : Int32))]) (fun _ kk => XS.iloadN X0.here hx rfl (hb hby d1_0) rfl kk) ?_
  refine ob s₁ (mkF mG 8 #[.val (.int (5 : Int32))] []) (fun _ kk => XS.ifYes X0.here hx rfl (pc0 := 1) (pc' := 8) rfl (hb hby d1_1) rfl ((if0 _ _).trans (feq (by decide : ¬ ((5 : Int32) = (0 : Int32)))).2) (by decide) (by decide) kk) ?_
  refine ob s₁ (mkF mG 9 #[.val (.int (5 : Int32))] [(.int (5 : Int32))]) (fun _ kk => XS.iloadN X0.here hx rfl (hb hby d1_8) rfl kk) ?_
  refine ob s₁ (mkF mG 10 #[.val (.int (5 : Int32))] [(.int (1 : Int32)), (.int (5 : Int32))]) (fun _ kk => XS.iconst X0.here hx rfl (hb hby d1_9) kk) ?_
  refine ob s₁ (mkF mG 17 #[.val (.int (5 : Int32))] []) (fun _ kk => XS.icmpYes X0.here hx rfl (pc0 := 10) (pc' := 17) rfl (hb hby d1_10) rfl (feq (by decide : ¬ ((5 : Int32) = (1 : Int32)))).2 (by decide) (by decide) kk) ?_
  refine ob s₁ (mkF mG 18 #[.val (.int (5 : Int32))] [(.int (5 : Int32))]) (fun _ kk => XS.iloadN X0.here hx rfl (hb hby d1_17) rfl kk) ?_
  refine ob s₁ (mkF mG 19 #[.val (.int (5 : Int32))] [(.int (2 : Int32)), (.int (5 : Int32))]) (fun _ kk => XS.iconst X0.here hx rfl (hb hby d1_18) kk) ?_
  refine ob s₁ (mkF mG 26 #[.val (.int (5 : Int32))] []) (fun _ kk => XS.icmpYes X0.here hx rfl (pc0 := 19) (pc' := 26) rfl (hb hby d1_19) rfl (feq (by decide : ¬ ((5 : Int32) = (2 : Int32)))).2 (by decide) (by decide) kk) ?_
  refine ob s₁ (mkF mG 27 #[.val (.int (5 : Int32))] [(.int (5 : Int32))]) (fun _ kk => XS.iloadN X0.here hx rfl (hb hby d1_26) rfl kk) ?_
  refine ob s₁ (mkF mG 28 #[.val (.int (5 : Int32))] [(.int (3 : Int32)), (.int (5 : Int32))]) (fun _ kk => XS.iconst X0.here hx rfl (hb hby d1_27) kk) ?_
  refine ob s₁ (mkF mG 35 #[.val (.int (5 : Int32))] []) (fun _ kk => XS.icmpYes X0.here hx rfl (pc0 := 28) (pc' := 35) rfl (hb hby d1_28) rfl (feq (by decide : ¬ ((5 : Int32) = (3 : Int32)))).2 (by decide) (by decide) kk) ?_
  refine ob s₁ (mkF mG 36 #[.val (.int (5 : Int32))] [(.int (5 : Int32))]) (fun _ kk => XS.iloadN X0.here hx rfl (hb hby d1_35) rfl kk) ?_
  refine ob s₁ (mkF mG 37 #[.val (.int (5 : Int32))] [(.int (4 : Int32)), (.int (5 : Int32))]) (fun _ kk => XS.iconst X0.here hx rfl (hb hby d1_36) kk) ?_
  refine ob s₁ (mkF mG 44 #[.val (.int (5 : Int32))] []) (fun _ kk => XS.icmpYes X0.here hx rfl (pc0 := 37) (pc' := 44) rfl (hb hby d1_37) rfl (feq (by decide : ¬ ((5 : Int32) = (4 : Int32)))).2 (by decide) (by decide) kk) ?_
  refine ob s₁ (mkF mG 45 #[.val (.int (5 : Int32))] [(.int (5 : Int32))]) (fun _ kk => XS.iloadN X0.here hx rfl (hb hby d1_44) rfl kk) ?_
  refine ob s₁ (mkF mG 46 #[.val (.int (5 : Int32))] [(.int (5 : Int32)), (.int (5 : Int32))]) (fun _ kk => XS.iconst X0.here hx rfl (hb hby d1_45) kk) ?_
  refine ob s₁ (mkF mG 49 #[.val (.int (5 : Int32))] []) (fun _ kk => XS.icmpNo X0.here hx rfl (hb hby d1_46) rfl (teq (by decide : (5 : Int32) = (5 : Int32))).2 kk) ?_
  obtain ⟨T1, X1, e1, st1⟩ := getS2 X0 hx hZ hown (host := "") (Or.inl (ow hw 66 rfl)) Via.refl e0 (S_w_Never.ext O0.2) (g := (mkF mG 49 #[.val (.int (5 : Int32))] [])) rfl (hb hby d1_49)
  refine ob T1 (mkF mG 52 #[.val (.int (5 : Int32))] [(.ref w_Never)]) (fun _ kk => st1 _ kk) ?_
  obtain ⟨fs, hr, hrun, hended, hW, hsame⟩ := X1.leave (v := some (.ref w_Never)) (fun h => by rw [Bd.returns] at h; cases h)
  refine oout (oretA X1 hx Bd.returns rfl rfl (hb hby d1_52) hr) hrun hended ⟨_, _, rfl, ?_, ⟨_, rfl⟩, hW, hsame.mono (by decide) (by decide)⟩
  show Q_rm_pick5 Z w_Required w_RECEIVED w_NotSupported w_NONE w_RequiresNew w_NEW w_Mandatory w_BeanManaged w_Never w_Supports w_EMPTY  h0 n0 _ T1.heap _
  rw [e1]
  exact ⟨rfl, N0, rfl⟩

theorem d1_53 : decode method_2_code 53 = .ok (.getstatic 28, 3) := by decide +kernel
theorem d1_56 : decode method_2_code 56 = .ok (.areturn, 1) := by decide +kernel
def Q_rm_pick6 (Z : State) (w_Required : Addr) (w_RECEIVED : Addr) (w_NotSupported : Addr) (w_NONE : Addr) (w_RequiresNew : Addr) (w_NEW : Addr) (w_Mandatory : Addr) (w_BeanManaged : Addr) (w_Never : Addr) (w_Supports : Addr) (w_EMPTY : Addr)  (h0 : Heap) (n0 : Nat) (v : Option Value) (h : Heap) (L : List Loc) : Prop := v = some (.ref w_BeanManaged) ∧ Fr n0 L ∧ h = h0
set_option maxRecDepth 65536 in
set_option maxHeartbeats 40000000 in
theorem rm_pick6 (l : Launch) (Z : State) (a0 : Array Value) (hw : ∀ d ∈ tables_1, d.before a0 Z = true) (ws : List Jvm.Cond) (w_Required : Addr) (w_RECEIVED : Addr) (w_NotSupported : Addr) (w_NONE : Addr) (w_RequiresNew : Addr) (w_NEW : Addr) (w_Mandatory : Addr) (w_BeanManaged : Addr) (w_Never : Addr) (w_Supports : Addr) (w_EMPTY : Addr)  (h0 : Heap) (n0 : Nat) (O0 : Old Z n0 h0) (hS : St0 Z w_Required w_RECEIVED w_NotSupported w_NONE w_RequiresNew w_NEW w_Mandatory w_BeanManaged w_Never w_Supports w_EMPTY ) :
    MetFree l (⟨"com/example/vorgang/vorgang/model/PolicyApplyPinLaw", "pick", "(I)Lcom/example/vorgang/vorgang/model/Policy;"⟩ : MethodName) (head1 (Jvm.Cond.code (⟨"com/example/vorgang/vorgang/model/PolicyApplyPinLaw", "pick", "(I)Lcom/example/vorgang/vorgang/model/Policy;"⟩ : MethodName) method_2_code 1 (some (.object "com/example/vorgang/vorgang/model/Policy")) :: ws) ({ frames := 0, cells := 0, slots := 0, locals := 0 } : Room)) (fun aG UG => aG = #[(.int (6 : Int32))] ∧ Z.Warmed39 UG.vm ∧ UG.heap = h0) (fun _ _ _ _ _ => True) (fun _ UG oG UG' => ∃ vG LG, oG = .returned vG ∧ Q_rm_pick6 Z w_Required w_RECEIVED w_NotSupported w_NONE w_RequiresNew w_NEW w_Mandatory w_BeanManaged w_Never w_Supports w_EMPTY  h0 n0 vG UG'.heap LG ∧ FrameEnd UG oG UG' LG ({ frames := 0, cells := 0, slots := 0, locals := 0 } : Room).cells ({ frames := 0, cells := 0, slots := 0, locals := 0 } : Room).slots) := by
  refine MetFree.of_bodySF (plainFor_of_name pn_0) hisR ?_
  intro pG eG sG mG argsG belowG methG cG s₁ Bd hml0 hP hK
  obtain ⟨rfl, hZ, hh⟩ := hP
  have hx := Bd.exec
  have hby := Bd.bytes
  have hml : cG.maxLocals = 1 := hml0
  have hown : sG.vm.findClass "com/example/vorgang/vorgang/model/PolicyApplyPinLaw" = some mG.cls := findClass_of_methodNamed Bd.named
  have hnm := (name_of_methodNamed Bd.named Bd.method).1
  have X0 : Stand pG l eG ({ frames := 0, cells := 0, slots := 0, locals := 0 } : Room) sG mG #[(.int (6 : Int32))] belowG methG cG s₁ [] 0 0 := Stand.of_body Bd
  have e0 : s₁.heap = h0 := by rw [← hh, Bd.state]; rfl
  have N0 := Fr.nil n0
  have K0 := Keep.refl h0 []
  obtain ⟨S_w_Required, E_w_Required, S_w_RECEIVED, E_w_RECEIVED, S_w_NotSupported, E_w_NotSupported, S_w_NONE, E_w_NONE, S_w_RequiresNew, E_w_RequiresNew, S_w_NEW, E_w_NEW, S_w_Mandatory, E_w_Mandatory, S_w_BeanManaged, E_w_BeanManaged, S_w_Never, E_w_Never, S_w_Supports, E_w_Supports, S_w_EMPTY, E_w_EMPTY, F_w_Required_ordinal, F_w_NotSupported_ordinal, F_w_RequiresNew_ordinal, F_w_Mandatory_ordinal, F_w_BeanManaged_ordinal, F_w_Never_ordinal, F_w_Supports_ordinal, F_w_EMPTY_value, ne_w_Required_w_NotSupported, ne_w_Required_w_RequiresNew, ne_w_Required_w_Mandatory, ne_w_Required_w_BeanManaged, ne_w_Required_w_Never, ne_w_Required_w_Supports, ne_w_NotSupported_w_RequiresNew, ne_w_NotSupported_w_Mandatory, ne_w_NotSupported_w_BeanManaged, ne_w_NotSupported_w_Never, ne_w_NotSupported_w_Supports, ne_w_RequiresNew_w_Mandatory, ne_w_RequiresNew_w_BeanManaged, ne_w_RequiresNew_w_Never, ne_w_RequiresNew_w_Supports, ne_w_Mandatory_w_BeanManaged, ne_w_Mandatory_w_Never, ne_w_Mandatory_w_Supports, ne_w_BeanManaged_w_Never, ne_w_BeanManaged_w_Supports, ne_w_Never_w_Supports⟩ := (id hS : St0 Z w_Required w_RECEIVED w_NotSupported w_NONE w_RequiresNew w_NEW w_Mandatory w_BeanManaged w_Never w_Supports w_EMPTY )
  refine ostart (g' := (mkF mG 0 #[.val (.int (6 : Int32))] [])) (by first | (simp [entryFrame, mkF, argsToLocals, Value.category]; done) | rfl) ?_
  refine ob s₁ (mkF mG 1 #[.val (.int (6 : Int32))] [(.int (6 : Int32))]) (fun _ kk => XS.iloadN X0.here hx rfl (hb hby d1_0) rfl kk) ?_
  refine ob s₁ (mkF mG 8 #[.val (.int (6 : Int32))] []) (fun _ kk => XS.ifYes X0.here hx rfl (pc0 := 1) (pc' := 8) rfl (hb hby d1_1) rfl ((if0 _ _).trans (feq (by decide : ¬ ((6 : Int32) = (0 : Int32)))).2) (by decide) (by decide) kk) ?_
  refine ob s₁ (mkF mG 9 #[.val (.int (6 : Int32))] [(.int (6 : Int32))]) (fun _ kk => XS.iloadN X0.here hx rfl (hb hby d1_8) rfl kk) ?_
  refine ob s₁ (mkF mG 10 #[.val (.int (6 : Int32))] [(.int (1 : Int32)), (.int (6 : Int32))]) (fun _ kk => XS.iconst X0.here hx rfl (hb hby d1_9) kk) ?_
  refine ob s₁ (mkF mG 17 #[.val (.int (6 : Int32))] []) (fun _ kk => XS.icmpYes X0.here hx rfl (pc0 := 10) (pc' := 17) rfl (hb hby d1_10) rfl (feq (by decide : ¬ ((6 : Int32) = (1 : Int32)))).2 (by decide) (by decide) kk) ?_
  refine ob s₁ (mkF mG 18 #[.val (.int (6 : Int32))] [(.int (6 : Int32))]) (fun _ kk => XS.iloadN X0.here hx rfl (hb hby d1_17) rfl kk) ?_
  refine ob s₁ (mkF mG 19 #[.val (.int (6 : Int32))] [(.int (2 : Int32)), (.int (6 : Int32))]) (fun _ kk => XS.iconst X0.here hx rfl (hb hby d1_18) kk) ?_
  refine ob s₁ (mkF mG 26 #[.val (.int (6 : Int32))] []) (fun _ kk => XS.icmpYes X0.here hx rfl (pc0 := 19) (pc' := 26) rfl (hb hby d1_19) rfl (feq (by decide : ¬ ((6 : Int32) = (2 : Int32)))).2 (by decide) (by decide) kk) ?_
  refine ob s₁ (mkF mG 27 #[.val (.int (6 : Int32))] [(.int (6 : Int32))]) (fun _ kk => XS.iloadN X0.here hx rfl (hb hby d1_26) rfl kk) ?_
  refine ob s₁ (mkF mG 28 #[.val (.int (6 : Int32))] [(.int (3 : Int32)), (.int (6 : Int32))]) (fun _ kk => XS.iconst X0.here hx rfl (hb hby d1_27) kk) ?_
  refine ob s₁ (mkF mG 35 #[.val (.int (6 : Int32))] []) (fun _ kk => XS.icmpYes X0.here hx rfl (pc0 := 28) (pc' := 35) rfl (hb hby d1_28) rfl (feq (by decide : ¬ ((6 : Int32) = (3 : Int32)))).2 (by decide) (by decide) kk) ?_
  refine ob s₁ (mkF mG 36 #[.val (.int (6 : Int32))] [(.int (6 : Int32))]) (fun _ kk => XS.iloadN X0.here hx rfl (hb hby d1_35) rfl kk) ?_
  refine ob s₁ (mkF mG 37 #[.val (.int (6 : Int32))] [(.int (4 : Int32)), (.int (6 : Int32))]) (fun _ kk => XS.iconst X0.here hx rfl (hb hby d1_36) kk) ?_
  refine ob s₁ (mkF mG 44 #[.val (.int (6 : Int32))] []) (fun _ kk => XS.icmpYes X0.here hx rfl (pc0 := 37) (pc' := 44) rfl (hb hby d1_37) rfl (feq (by decide : ¬ ((6 : Int32) = (4 : Int32)))).2 (by decide) (by decide) kk) ?_
  refine ob s₁ (mkF mG 45 #[.val (.int (6 : Int32))] [(.int (6 : Int32))]) (fun _ kk => XS.iloadN X0.here hx rfl (hb hby d1_44) rfl kk) ?_
  refine ob s₁ (mkF mG 46 #[.val (.int (6 : Int32))] [(.int (5 : Int32)), (.int (6 : Int32))]) (fun _ kk => XS.iconst X0.here hx rfl (hb hby d1_45) kk) ?_
  refine ob s₁ (mkF mG 53 #[.val (.int (6 : Int32))] []) (fun _ kk => XS.icmpYes X0.here hx rfl (pc0 := 46) (pc' := 53) rfl (hb hby d1_46) rfl (feq (by decide : ¬ ((6 : Int32) = (5 : Int32)))).2 (by decide) (by decide) kk) ?_
  obtain ⟨T1, X1, e1, st1⟩ := getS2 X0 hx hZ hown (host := "") (Or.inl (ow hw 64 rfl)) Via.refl e0 (S_w_BeanManaged.ext O0.2) (g := (mkF mG 53 #[.val (.int (6 : Int32))] [])) rfl (hb hby d1_53)
  refine ob T1 (mkF mG 56 #[.val (.int (6 : Int32))] [(.ref w_BeanManaged)]) (fun _ kk => st1 _ kk) ?_
  obtain ⟨fs, hr, hrun, hended, hW, hsame⟩ := X1.leave (v := some (.ref w_BeanManaged)) (fun h => by rw [Bd.returns] at h; cases h)
  refine oout (oretA X1 hx Bd.returns rfl rfl (hb hby d1_56) hr) hrun hended ⟨_, _, rfl, ?_, ⟨_, rfl⟩, hW, hsame.mono (by decide) (by decide)⟩
  show Q_rm_pick6 Z w_Required w_RECEIVED w_NotSupported w_NONE w_RequiresNew w_NEW w_Mandatory w_BeanManaged w_Never w_Supports w_EMPTY  h0 n0 _ T1.heap _
  rw [e1]
  exact ⟨rfl, N0, rfl⟩

theorem d5_0 : decode jdk_32_method_2_code 0 = .ok (.aload_n 0, 1) := by decide +kernel
theorem d5_1 : decode jdk_32_method_2_code 1 = .ok (.invokespecial 7, 3) := by decide +kernel
theorem d5_4 : decode jdk_32_method_2_code 4 = .ok (.aload_n 0, 1) := by decide +kernel
theorem d5_5 : decode jdk_32_method_2_code 5 = .ok (.aload_n 1, 1) := by decide +kernel
theorem d5_6 : decode jdk_32_method_2_code 6 = .ok (.putfield 13, 3) := by decide +kernel
theorem d5_9 : decode jdk_32_method_2_code 9 = .ok (.return_, 1) := by decide +kernel
def Q_rm_opi (Z : State) (w_Required : Addr) (w_RECEIVED : Addr) (w_NotSupported : Addr) (w_NONE : Addr) (w_RequiresNew : Addr) (w_NEW : Addr) (w_Mandatory : Addr) (w_BeanManaged : Addr) (w_Never : Addr) (w_Supports : Addr) (w_EMPTY : Addr) (a : Addr) (o : Addr) (u0 : Value) (h0 : Heap) (n0 : Nat) (v : Option Value) (h : Heap) (L : List Loc) : Prop := v = none ∧ Fr n0 L ∧ Keep h0 h [a] ∧ Old Z n0 h ∧ Fld Z h a "java/util/Optional" "value" "Ljava/lang/Object;" (.ref o)
set_option maxRecDepth 65536 in
set_option maxHeartbeats 40000000 in
theorem rm_opi (l : Launch) (Z : State) (a0 : Array Value) (hw : ∀ d ∈ tables_1, d.before a0 Z = true) (ws : List Jvm.Cond) (w_Required : Addr) (w_RECEIVED : Addr) (w_NotSupported : Addr) (w_NONE : Addr) (w_RequiresNew : Addr) (w_NEW : Addr) (w_Mandatory : Addr) (w_BeanManaged : Addr) (w_Never : Addr) (w_Supports : Addr) (w_EMPTY : Addr) (a : Addr) (o : Addr) (u0 : Value) (h0 : Heap) (n0 : Nat) (O0 : Old Z n0 h0) (hS : St0 Z w_Required w_RECEIVED w_NotSupported w_NONE w_RequiresNew w_NEW w_Mandatory w_BeanManaged w_Never w_Supports w_EMPTY ) (E_a : Exa Z h0 a "java/util/Optional") (F_0 : Fld Z h0 a "java/util/Optional" "value" "Ljava/lang/Object;" u0) (n_a : n0 ≤ a) :
    MetFree l (⟨"java/util/Optional", "<init>", "(Ljava/lang/Object;)V"⟩ : MethodName) (head1 (Jvm.Cond.code (⟨"java/util/Optional", "<init>", "(Ljava/lang/Object;)V"⟩ : MethodName) jdk_32_method_2_code 2 none :: ws) ({ frames := 1, cells := 0, slots := 0, locals := 12 } : Room)) (fun aG UG => aG = #[(.ref a), (.ref o)] ∧ Z.Warmed39 UG.vm ∧ UG.heap = h0) (fun _ _ _ _ _ => True) (fun _ UG oG UG' => ∃ vG LG, oG = .returned vG ∧ Q_rm_opi Z w_Required w_RECEIVED w_NotSupported w_NONE w_RequiresNew w_NEW w_Mandatory w_BeanManaged w_Never w_Supports w_EMPTY a o u0 h0 n0 vG UG'.heap LG ∧ FrameEnd UG oG UG' LG ({ frames := 1, cells := 0, slots := 0, locals := 12 } : Room).cells ({ frames := 1, cells := 0, slots := 0, locals := 12 } : Room).slots) := by
  refine MetFree.of_bodySF (plainFor_of_name pn_1) hisR ?_
  intro pG eG sG mG argsG belowG methG cG s₁ Bd hml0 hP hK
  obtain ⟨rfl, hZ, hh⟩ := hP
  have hx := Bd.exec
  have hby := Bd.bytes
  have hml : cG.maxLocals = 2 := hml0
  have hown : sG.vm.findClass "java/util/Optional" = some mG.cls := findClass_of_methodNamed Bd.named
  have hnm := (name_of_methodNamed Bd.named Bd.method).1
  have X0 : Stand pG l eG ({ frames := 1, cells := 0, slots := 0, locals := 12 } : Room) sG mG #[(.ref a), (.ref o)] belowG methG cG s₁ [] 0 0 := Stand.of_body Bd
  have e0 : s₁.heap = h0 := by rw [← hh, Bd.state]; rfl
  have N0 := Fr.nil n0
  have K0 := Keep.refl h0 [a]
  obtain ⟨S_w_Required, E_w_Required, S_w_RECEIVED, E_w_RECEIVED, S_w_NotSupported, E_w_NotSupported, S_w_NONE, E_w_NONE, S_w_RequiresNew, E_w_RequiresNew, S_w_NEW, E_w_NEW, S_w_Mandatory, E_w_Mandatory, S_w_BeanManaged, E_w_BeanManaged, S_w_Never, E_w_Never, S_w_Supports, E_w_Supports, S_w_EMPTY, E_w_EMPTY, F_w_Required_ordinal, F_w_NotSupported_ordinal, F_w_RequiresNew_ordinal, F_w_Mandatory_ordinal, F_w_BeanManaged_ordinal, F_w_Never_ordinal, F_w_Supports_ordinal, F_w_EMPTY_value, ne_w_Required_w_NotSupported, ne_w_Required_w_RequiresNew, ne_w_Required_w_Mandatory, ne_w_Required_w_BeanManaged, ne_w_Required_w_Never, ne_w_Required_w_Supports, ne_w_NotSupported_w_RequiresNew, ne_w_NotSupported_w_Mandatory, ne_w_NotSupported_w_BeanManaged, ne_w_NotSupported_w_Never, ne_w_NotSupported_w_Supports, ne_w_RequiresNew_w_Mandatory, ne_w_RequiresNew_w_BeanManaged, ne_w_RequiresNew_w_Never, ne_w_RequiresNew_w_Supports, ne_w_Mandatory_w_BeanManaged, ne_w_Mandatory_w_Never, ne_w_Mandatory_w_Supports, ne_w_BeanManaged_w_Never, ne_w_BeanManaged_w_Supports, ne_w_Never_w_Supports⟩ := (id hS : St0 Z w_Required w_RECEIVED w_NotSupported w_NONE w_RequiresNew w_NEW w_Mandatory w_BeanManaged w_Never w_Supports w_EMPTY )
  refine ostart (g' := (mkF mG 0 #[.val (.ref a), .val (.ref o)] [])) (by first | (simp [entryFrame, mkF, argsToLocals, Value.category]; done) | rfl) ?_
  refine ob s₁ (mkF mG 1 #[.val (.ref a), .val (.ref o)] [(.ref a)]) (fun _ kk => XS.aloadN X0.here hx rfl (hb hby d5_0) rfl rfl kk) ?_
  obtain ⟨T1, X1, e1, st1⟩ := initO X0 hx hZ hown (ow hw 35 rfl) (ow hw 36 rfl) (ow hw 37 rfl) e0 (g := (mkF mG 1 #[.val (.ref a), .val (.ref o)] [(.ref a)])) rfl (by rw [hml]; rfl) rfl (hb hby d5_1) (by decide) (W := 0) (by show 2 * 0 + _ ≤ _; exact Nat.le_of_eq rfl) (by decide)
  refine ob T1 (mkF mG 4 #[.val (.ref a), .val (.ref o)] []) (fun _ kk => st1 _ kk) ?_
  refine ob T1 (mkF mG 5 #[.val (.ref a), .val (.ref o)] [(.ref a)]) (fun _ kk => XS.aloadN X1.here hx rfl (hb hby d5_4) rfl rfl kk) ?_
  refine ob T1 (mkF mG 6 #[.val (.ref a), .val (.ref o)] [(.ref o), (.ref a)]) (fun _ kk => XS.aloadN X1.here hx rfl (hb hby d5_5) rfl rfl kk) ?_
  obtain ⟨T2, h2, X2, e2, W2, st2⟩ := putF X1 hx hZ hown (host := "") (Or.inl (ow hw 38 rfl)) Via.refl e1 F_0 E_a (Or.inr ⟨(ow hw 39 rfl), rfl, hnm⟩) (ow hw 30 rfl) (ty := (.object "java/lang/Object")) (by decide) rfl rfl (g := (mkF mG 6 #[.val (.ref a), .val (.ref o)] [(.ref o), (.ref a)])) rfl rfl (hb hby d5_6)
  have F2 := F_0.same W2
  have O2 := O0.wr W2 n_a
  have K2 := K0.wr W2 (Or.inl (List.mem_of_getElem? (i := 0) rfl))
  have N2 := Fr.snoc X2 N0 n_a
  refine ob T2 (mkF mG 9 #[.val (.ref a), .val (.ref o)] []) (fun _ kk => st2 _ kk) ?_
  obtain ⟨fs, hr, hrun, hended, hW, hsame⟩ := X2.leave (v := none) (fun _ => rfl)
  refine oout (X2.returnOut hx Bd.returns (hb hby d5_9) hr) hrun hended ⟨_, _, rfl, ?_, ⟨_, rfl⟩, hW, hsame.mono (by decide) (by decide)⟩
  show Q_rm_opi Z w_Required w_RECEIVED w_NotSupported w_NONE w_RequiresNew w_NEW w_Mandatory w_BeanManaged w_Never w_Supports w_EMPTY a o u0 h0 n0 _ T2.heap _
  rw [e2]
  exact ⟨rfl, N2, K2, O2, F2⟩

theorem d4_0 : decode jdk_32_method_4_code 0 = .ok (.aload_n 0, 1) := by decide +kernel
theorem d4_1 : decode jdk_32_method_4_code 1 = .ok (.ifnonnull 9, 3) := by decide +kernel
theorem d4_4 : decode jdk_32_method_4_code 4 = .ok (.getstatic 1, 3) := by decide +kernel
theorem d4_7 : decode jdk_32_method_4_code 7 = .ok (.goto 11, 3) := by decide +kernel
theorem d4_18 : decode jdk_32_method_4_code 18 = .ok (.areturn, 1) := by decide +kernel
def Q_rm_onN (Z : State) (w_Required : Addr) (w_RECEIVED : Addr) (w_NotSupported : Addr) (w_NONE : Addr) (w_RequiresNew : Addr) (w_NEW : Addr) (w_Mandatory : Addr) (w_BeanManaged : Addr) (w_Never : Addr) (w_Supports : Addr) (w_EMPTY : Addr)  (h0 : Heap) (n0 : Nat) (v : Option Value) (h : Heap) (L : List Loc) : Prop := v = some (.ref w_EMPTY) ∧ Fr n0 L ∧ h = h0
set_option maxRecDepth 65536 in
set_option maxHeartbeats 40000000 in
theorem rm_onN (l : Launch) (Z : State) (a0 : Array Value) (hw : ∀ d ∈ tables_1, d.before a0 Z = true) (ws : List Jvm.Cond) (w_Required : Addr) (w_RECEIVED : Addr) (w_NotSupported : Addr) (w_NONE : Addr) (w_RequiresNew : Addr) (w_NEW : Addr) (w_Mandatory : Addr) (w_BeanManaged : Addr) (w_Never : Addr) (w_Supports : Addr) (w_EMPTY : Addr)  (h0 : Heap) (n0 : Nat) (O0 : Old Z n0 h0) (hS : St0 Z w_Required w_RECEIVED w_NotSupported w_NONE w_RequiresNew w_NEW w_Mandatory w_BeanManaged w_Never w_Supports w_EMPTY ) :
    MetFree l (⟨"java/util/Optional", "ofNullable", "(Ljava/lang/Object;)Ljava/util/Optional;"⟩ : MethodName) (head1 (Jvm.Cond.code (⟨"java/util/Optional", "ofNullable", "(Ljava/lang/Object;)Ljava/util/Optional;"⟩ : MethodName) jdk_32_method_4_code 1 (some (.object "java/util/Optional")) :: ws) ({ frames := 0, cells := 0, slots := 0, locals := 0 } : Room)) (fun aG UG => aG = #[.null] ∧ Z.Warmed39 UG.vm ∧ UG.heap = h0) (fun _ _ _ _ _ => True) (fun _ UG oG UG' => ∃ vG LG, oG = .returned vG ∧ Q_rm_onN Z w_Required w_RECEIVED w_NotSupported w_NONE w_RequiresNew w_NEW w_Mandatory w_BeanManaged w_Never w_Supports w_EMPTY  h0 n0 vG UG'.heap LG ∧ FrameEnd UG oG UG' LG ({ frames := 0, cells := 0, slots := 0, locals := 0 } : Room).cells ({ frames := 0, cells := 0, slots := 0, locals := 0 } : Room).slots) := by
  refine MetFree.of_bodySF (plainFor_of_name pn_1) hisR ?_
  intro pG eG sG mG argsG belowG methG cG s₁ Bd hml0 hP hK
  obtain ⟨rfl, hZ, hh⟩ := hP
  have hx := Bd.exec
  have hby := Bd.bytes
  have hml : cG.maxLocals = 1 := hml0
  have hown : sG.vm.findClass "java/util/Optional" = some mG.cls := findClass_of_methodNamed Bd.named
  have hnm := (name_of_methodNamed Bd.named Bd.method).1
  have X0 : Stand pG l eG ({ frames := 0, cells := 0, slots := 0, locals := 0 } : Room) sG mG #[.null] belowG methG cG s₁ [] 0 0 := Stand.of_body Bd
  have e0 : s₁.heap = h0 := by rw [← hh, Bd.state]; rfl
  have N0 := Fr.nil n0
  have K0 := Keep.refl h0 []
  obtain ⟨S_w_Required, E_w_Required, S_w_RECEIVED, E_w_RECEIVED, S_w_NotSupported, E_w_NotSupported, S_w_NONE, E_w_NONE, S_w_RequiresNew, E_w_RequiresNew, S_w_NEW, E_w_NEW, S_w_Mandatory, E_w_Mandatory, S_w_BeanManaged, E_w_BeanManaged, S_w_Never, E_w_Never, S_w_Supports, E_w_Supports, S_w_EMPTY, E_w_EMPTY, F_w_Required_ordinal, F_w_NotSupported_ordinal, F_w_RequiresNew_ordinal, F_w_Mandatory_ordinal, F_w_BeanManaged_ordinal, F_w_Never_ordinal, F_w_Supports_ordinal, F_w_EMPTY_value, ne_w_Required_w_NotSupported, ne_w_Required_w_RequiresNew, ne_w_Required_w_Mandatory, ne_w_Required_w_BeanManaged, ne_w_Required_w_Never, ne_w_Required_w_Supports, ne_w_NotSupported_w_RequiresNew, ne_w_NotSupported_w_Mandatory, ne_w_NotSupported_w_BeanManaged, ne_w_NotSupported_w_Never, ne_w_NotSupported_w_Supports, ne_w_RequiresNew_w_Mandatory, ne_w_RequiresNew_w_BeanManaged, ne_w_RequiresNew_w_Never, ne_w_RequiresNew_w_Supports, ne_w_Mandatory_w_BeanManaged, ne_w_Mandatory_w_Never, ne_w_Mandatory_w_Supports, ne_w_BeanManaged_w_Never, ne_w_BeanManaged_w_Supports, ne_w_Never_w_Supports⟩ := (id hS : St0 Z w_Required w_RECEIVED w_NotSupported w_NONE w_RequiresNew w_NEW w_Mandatory w_BeanManaged w_Never w_Supports w_EMPTY )
  refine ostart (g' := (mkF mG 0 #[.val .null] [])) (by first | (simp [entryFrame, mkF, argsToLocals, Value.category]; done) | rfl) ?_
  refine ob s₁ (mkF mG 1 #[.val .null] [.null]) (fun _ kk => XS.aloadN X0.here hx rfl (hb hby d4_0) rfl rfl kk) ?_
  refine ob s₁ (mkF mG 4 #[.val .null] []) (fun _ kk => XS.ifnonnullNo X0.here hx rfl (hb hby d4_1) rfl kk) ?_
  obtain ⟨T1, X1, e1, st1⟩ := getS2 X0 hx hZ hown (host := "") (Or.inl (ow hw 63 rfl)) Via.refl e0 (S_w_EMPTY.ext O0.2) (g := (mkF mG 4 #[.val .null] [])) rfl (hb hby d4_4)
  refine ob T1 (mkF mG 7 #[.val .null] [(.ref w_EMPTY)]) (fun _ kk => st1 _ kk) ?_
  refine ob T1 (mkF mG 18 #[.val .null] [(.ref w_EMPTY)]) (fun _ kk => XS.goto X1.here hx rfl (pc0 := 7) (pc' := 18) rfl (hb hby d4_7) (by decide) (by decide) kk) ?_
  obtain ⟨fs, hr, hrun, hended, hW, hsame⟩ := X1.leave (v := some (.ref w_EMPTY)) (fun h => by rw [Bd.returns] at h; cases h)
  refine oout (oretA X1 hx Bd.returns rfl rfl (hb hby d4_18) hr) hrun hended ⟨_, _, rfl, ?_, ⟨_, rfl⟩, hW, hsame.mono (by decide) (by decide)⟩
  show Q_rm_onN Z w_Required w_RECEIVED w_NotSupported w_NONE w_RequiresNew w_NEW w_Mandatory w_BeanManaged w_Never w_Supports w_EMPTY  h0 n0 _ T1.heap _
  rw [e1]
  exact ⟨rfl, N0, rfl⟩

theorem d4_10 : decode jdk_32_method_4_code 10 = .ok (.new 2, 3) := by decide +kernel
theorem d4_13 : decode jdk_32_method_4_code 13 = .ok (.dup, 1) := by decide +kernel
theorem d4_14 : decode jdk_32_method_4_code 14 = .ok (.aload_n 0, 1) := by decide +kernel
theorem d4_15 : decode jdk_32_method_4_code 15 = .ok (.invokespecial 23, 3) := by decide +kernel
theorem pd_0 : parseMethodDescriptor "(Ljava/lang/Object;)V" = some ⟨[(.object "java/lang/Object")], none⟩ := by decide +kernel
def Q_rm_onS (Z : State) (w_Required : Addr) (w_RECEIVED : Addr) (w_NotSupported : Addr) (w_NONE : Addr) (w_RequiresNew : Addr) (w_NEW : Addr) (w_Mandatory : Addr) (w_BeanManaged : Addr) (w_Never : Addr) (w_Supports : Addr) (w_EMPTY : Addr) (o : Addr) (h0 : Heap) (n0 : Nat) (v : Option Value) (h : Heap) (L : List Loc) : Prop := ∃ (b0 : Addr), v = some (.ref b0) ∧ Fr n0 L ∧ Keep h0 h [] ∧ Old Z n0 h ∧ n0 ≤ b0 ∧ h0.size ≤ b0 ∧ Exa Z h b0 "java/util/Optional" ∧ Fld Z h b0 "java/util/Optional" "value" "Ljava/lang/Object;" (.ref o)
set_option maxRecDepth 65536 in
set_option maxHeartbeats 40000000 in
theorem rm_onS (l : Launch) (Z : State) (a0 : Array Value) (hw : ∀ d ∈ tables_1, d.before a0 Z = true) (ws : List Jvm.Cond) (w_Required : Addr) (w_RECEIVED : Addr) (w_NotSupported : Addr) (w_NONE : Addr) (w_RequiresNew : Addr) (w_NEW : Addr) (w_Mandatory : Addr) (w_BeanManaged : Addr) (w_Never : Addr) (w_Supports : Addr) (w_EMPTY : Addr) (o : Addr) (h0 : Heap) (n0 : Nat) (O0 : Old Z n0 h0) (hS : St0 Z w_Required w_RECEIVED w_NotSupported w_NONE w_RequiresNew w_NEW w_Mandatory w_BeanManaged w_Never w_Supports w_EMPTY ) :
    MetFree l (⟨"java/util/Optional", "ofNullable", "(Ljava/lang/Object;)Ljava/util/Optional;"⟩ : MethodName) (head1 (Jvm.Cond.code (⟨"java/util/Optional", "ofNullable", "(Ljava/lang/Object;)Ljava/util/Optional;"⟩ : MethodName) jdk_32_method_4_code 1 (some (.object "java/util/Optional")) :: ws) ({ frames := 2, cells := 1, slots := 1, locals := 26 } : Room)) (fun aG UG => aG = #[(.ref o)] ∧ Z.Warmed39 UG.vm ∧ UG.heap = h0) (fun _ _ _ _ _ => True) (fun _ UG oG UG' => ∃ vG LG, oG = .returned vG ∧ Q_rm_onS Z w_Required w_RECEIVED w_NotSupported w_NONE w_RequiresNew w_NEW w_Mandatory w_BeanManaged w_Never w_Supports w_EMPTY o h0 n0 vG UG'.heap LG ∧ FrameEnd UG oG UG' LG ({ frames := 2, cells := 1, slots := 1, locals := 26 } : Room).cells ({ frames := 2, cells := 1, slots := 1, locals := 26 } : Room).slots) := by
  refine MetFree.of_bodySF (plainFor_of_name pn_1) hisR ?_
  intro pG eG sG mG argsG belowG methG cG s₁ Bd hml0 hP hK
  obtain ⟨rfl, hZ, hh⟩ := hP
  have hx := Bd.exec
  have hby := Bd.bytes
  have hml : cG.maxLocals = 1 := hml0
  have hown : sG.vm.findClass "java/util/Optional" = some mG.cls := findClass_of_methodNamed Bd.named
  have hnm := (name_of_methodNamed Bd.named Bd.method).1
  have X0 : Stand pG l eG ({ frames := 2, cells := 1, slots := 1, locals := 26 } : Room) sG mG #[(.ref o)] belowG methG cG s₁ [] 0 0 := Stand.of_body Bd
  have e0 : s₁.heap = h0 := by rw [← hh, Bd.state]; rfl
  have N0 := Fr.nil n0
  have K0 := Keep.refl h0 []
  obtain ⟨S_w_Required, E_w_Required, S_w_RECEIVED, E_w_RECEIVED, S_w_NotSupported, E_w_NotSupported, S_w_NONE, E_w_NONE, S_w_RequiresNew, E_w_RequiresNew, S_w_NEW, E_w_NEW, S_w_Mandatory, E_w_Mandatory, S_w_BeanManaged, E_w_BeanManaged, S_w_Never, E_w_Never, S_w_Supports, E_w_Supports, S_w_EMPTY, E_w_EMPTY, F_w_Required_ordinal, F_w_NotSupported_ordinal, F_w_RequiresNew_ordinal, F_w_Mandatory_ordinal, F_w_BeanManaged_ordinal, F_w_Never_ordinal, F_w_Supports_ordinal, F_w_EMPTY_value, ne_w_Required_w_NotSupported, ne_w_Required_w_RequiresNew, ne_w_Required_w_Mandatory, ne_w_Required_w_BeanManaged, ne_w_Required_w_Never, ne_w_Required_w_Supports, ne_w_NotSupported_w_RequiresNew, ne_w_NotSupported_w_Mandatory, ne_w_NotSupported_w_BeanManaged, ne_w_NotSupported_w_Never, ne_w_NotSupported_w_Supports, ne_w_RequiresNew_w_Mandatory, ne_w_RequiresNew_w_BeanManaged, ne_w_RequiresNew_w_Never, ne_w_RequiresNew_w_Supports, ne_w_Mandatory_w_BeanManaged, ne_w_Mandatory_w_Never, ne_w_Mandatory_w_Supports, ne_w_BeanManaged_w_Never, ne_w_BeanManaged_w_Supports, ne_w_Never_w_Supports⟩ := (id hS : St0 Z w_Required w_RECEIVED w_NotSupported w_NONE w_RequiresNew w_NEW w_Mandatory w_BeanManaged w_Never w_Supports w_EMPTY )
  refine ostart (g' := (mkF mG 0 #[.val (.ref o)] [])) (by first | (simp [entryFrame, mkF, argsToLocals, Value.category]; done) | rfl) ?_
  refine ob s₁ (mkF mG 1 #[.val (.ref o)] [(.ref o)]) (fun _ kk => XS.aloadN X0.here hx rfl (hb hby d4_0) rfl rfl kk) ?_
  refine ob s₁ (mkF mG 10 #[.val (.ref o)] []) (fun _ kk => XS.ifnonnullYes X0.here hx rfl (pc0 := 1) (pc' := 10) rfl (hb hby d4_1) rfl (by decide) (by decide) kk) ?_
  obtain ⟨T1, h1, X1, e1, E1, A1, D1, _x1, st1⟩ := newO X0 hx hZ hown (ow hw 29 rfl) (ow hw 30 rfl) (ow hw 27 rfl) e0 (g := (mkF mG 10 #[.val (.ref o)] [])) rfl (hb hby d4_10) (by decide) (by decide)
  obtain ⟨b1, g1⟩ : ∃ z, z = h0.size := ⟨_, rfl⟩
  rw [← g1] at A1 D1 st1
  have n_b1 : n0 ≤ b1 := Nat.le_trans (on0 O0) (Nat.le_of_eq g1.symm)
  have sz_b1 : h0.size ≤ b1 := Nat.le_trans K0.1 (Nat.le_of_eq g1.symm)
  have O1 := O0.ext E1
  have K1 := K0.ext E1
  have F1_39 : Fld Z h1 b1 "java/util/Optional" "value" "Ljava/lang/Object;" .null := D1 (Or.inr (ow hw 39 rfl)) (ty := (.object "java/lang/Object")) (by decide)
  refine ob T1 (mkF mG 13 #[.val (.ref o)] [(.ref b1)]) (fun _ kk => st1 _ kk) ?_
  refine ob T1 (mkF mG 14 #[.val (.ref o)] [(.ref b1), (.ref b1)]) (fun _ kk => XS.dup X1.here hx rfl (hb hby d4_13) rfl rfl kk) ?_
  refine ob T1 (mkF mG 15 #[.val (.ref o)] [(.ref o), (.ref b1), (.ref b1)]) (fun _ kk => XS.aloadN X1.here hx rfl (hb hby d4_14) rfl rfl kk) ?_
  obtain ⟨_, _, ⟨T2, L2, k2, n2⟩, -, X2, ⟨Lc2, hQ2, l2, y2, z2⟩, st2⟩ := X1.specialBack hx (y := (⟨"java/util/Optional", "<init>", "(Ljava/lang/Object;)V"⟩ : MethodName)) rfl hown (mvT hZ (ow hw 31 rfl)) (mvT hZ (ow hw 32 rfl)) (mvT hZ (ow hw 34 rfl)) (by decide) (backOf (W := 1) (rm_opi l Z a0 hw [] w_Required w_RECEIVED w_NotSupported w_NONE w_RequiresNew w_NEW w_Mandatory w_BeanManaged w_Never w_Supports w_EMPTY b1 o .null h1 n0 O1 hS A1 F1_39 n_b1) hZ (ow hw 34 rfl) (ow hw 27 rfl) (by decide) (by decide)) (g := (mkF mG 15 #[.val (.ref o)] [(.ref o), (.ref b1), (.ref b1)])) rfl (by rw [hml]; rfl) (Steps.refl _) (a := b1) (argsL := [(.ref o)]) (rest := [(.ref b1)]) (lenOf pd_0 rfl) rfl (by show 2 * 0 + _ ≤ _; exact Nat.le_of_eq rfl) (hb hby d4_15) (fun _ _ => ⟨rfl, e1, (by decide : 1 + 0 ≤ _), (by decide : 1 + 0 ≤ _)⟩)
  dsimp only [Pt.U, Pt.locs, Pt.cells, Pt.slots] at X2 l2 y2 z2 st2 hQ2
  subst l2 y2 z2
  obtain ⟨h2, e2⟩ : ∃ h, T2.heap = h := ⟨_, rfl⟩
  rw [e2] at hQ2
  obtain ⟨rfl, N2q, K2q, O2, F2_0⟩ := hQ2
  have N2 := Fr.app N0 N2q
  have K2 := K1.trans K2q (allS (Or.inr sz_b1) all0)
  refine ob T2 (mkF mG 18 #[.val (.ref o)] [(.ref b1)]) (fun _ kk => st2.trans kk) ?_
  obtain ⟨fs, hr, hrun, hended, hW, hsame⟩ := X2.leave (v := some (.ref b1)) (fun h => by rw [Bd.returns] at h; cases h)
  refine oout (oretA X2 hx Bd.returns rfl rfl (hb hby d4_18) hr) hrun hended ⟨_, _, rfl, ?_, ⟨_, rfl⟩, hW, hsame.mono (by decide) (by decide)⟩
  show Q_rm_onS Z w_Required w_RECEIVED w_NotSupported w_NONE w_RequiresNew w_NEW w_Mandatory w_BeanManaged w_Never w_Supports w_EMPTY o h0 n0 _ T2.heap _
  rw [e2]
  exact ⟨b1, rfl, N2, K2, O2, n_b1, sz_b1, (A1.keep K2q), F2_0⟩

theorem d3_0 : decode jdk_37_method_2_code 0 = .ok (.aload_n 0, 1) := by decide +kernel
theorem d3_1 : decode jdk_37_method_2_code 1 = .ok (.getfield 7, 3) := by decide +kernel
theorem d3_4 : decode jdk_37_method_2_code 4 = .ok (.ireturn, 1) := by decide +kernel
def Q_rm_ord_Required (Z : State) (w_Required : Addr) (w_RECEIVED : Addr) (w_NotSupported : Addr) (w_NONE : Addr) (w_RequiresNew : Addr) (w_NEW : Addr) (w_Mandatory : Addr) (w_BeanManaged : Addr) (w_Never : Addr) (w_Supports : Addr) (w_EMPTY : Addr)  (h0 : Heap) (n0 : Nat) (v : Option Value) (h : Heap) (L : List Loc) : Prop := v = some (.int (0 : Int32)) ∧ Fr n0 L ∧ h = h0
set_option maxRecDepth 65536 in
set_option maxHeartbeats 40000000 in
theorem rm_ord_Required (l : Launch) (Z : State) (a0 : Array Value) (hw : ∀ d ∈ tables_1, d.before a0 Z = true) (ws : List Jvm.Cond) (w_Required : Addr) (w_RECEIVED : Addr) (w_NotSupported : Addr) (w_NONE : Addr) (w_RequiresNew : Addr) (w_NEW : Addr) (w_Mandatory : Addr) (w_BeanManaged : Addr) (w_Never : Addr) (w_Supports : Addr) (w_EMPTY : Addr)  (h0 : Heap) (n0 : Nat) (O0 : Old Z n0 h0) (hS : St0 Z w_Required w_RECEIVED w_NotSupported w_NONE w_RequiresNew w_NEW w_Mandatory w_BeanManaged w_Never w_Supports w_EMPTY ) :
    MetFree l (⟨"java/lang/Enum", "ordinal", "()I"⟩ : MethodName) (head1 (Jvm.Cond.code (⟨"java/lang/Enum", "ordinal", "()I"⟩ : MethodName) jdk_37_method_2_code 1 (some .int) :: ws) ({ frames := 0, cells := 0, slots := 0, locals := 0 } : Room)) (fun aG UG => aG = #[(.ref w_Required)] ∧ Z.Warmed39 UG.vm ∧ UG.heap = h0) (fun _ _ _ _ _ => True) (fun _ UG oG UG' => ∃ vG LG, oG = .returned vG ∧ Q_rm_ord_Required Z w_Required w_RECEIVED w_NotSupported w_NONE w_RequiresNew w_NEW w_Mandatory w_BeanManaged w_Never w_Supports w_EMPTY  h0 n0 vG UG'.heap LG ∧ FrameEnd UG oG UG' LG ({ frames := 0, cells := 0, slots := 0, locals := 0 } : Room).cells ({ frames := 0, cells := 0, slots := 0, locals := 0 } : Room).slots) := by
  refine MetFree.of_bodySF (plainFor_of_name pn_2) hisR ?_
  intro pG eG sG mG argsG belowG methG cG s₁ Bd hml0 hP hK
  obtain ⟨rfl, hZ, hh⟩ := hP
  have hx := Bd.exec
  have hby := Bd.bytes
  have hml : cG.maxLocals = 1 := hml0
  have hown : sG.vm.findClass "java/lang/Enum" = some mG.cls := findClass_of_methodNamed Bd.named
  have hnm := (name_of_methodNamed Bd.named Bd.method).1
  have X0 : Stand pG l eG ({ frames := 0, cells := 0, slots := 0, locals := 0 } : Room) sG mG #[(.ref w_Required)] belowG methG cG s₁ [] 0 0 := Stand.of_body Bd
  have e0 : s₁.heap = h0 := by rw [← hh, Bd.state]; rfl
  have N0 := Fr.nil n0
  have K0 := Keep.refl h0 []
  obtain ⟨S_w_Required, E_w_Required, S_w_RECEIVED, E_w_RECEIVED, S_w_NotSupported, E_w_NotSupported, S_w_NONE, E_w_NONE, S_w_RequiresNew, E_w_RequiresNew, S_w_NEW, E_w_NEW, S_w_Mandatory, E_w_Mandatory, S_w_BeanManaged, E_w_BeanManaged, S_w_Never, E_w_Never, S_w_Supports, E_w_Supports, S_w_EMPTY, E_w_EMPTY, F_w_Required_ordinal, F_w_NotSupported_ordinal, F_w_RequiresNew_ordinal, F_w_Mandatory_ordinal, F_w_BeanManaged_ordinal, F_w_Never_ordinal, F_w_Supports_ordinal, F_w_EMPTY_value, ne_w_Required_w_NotSupported, ne_w_Required_w_RequiresNew, ne_w_Required_w_Mandatory, ne_w_Required_w_BeanManaged, ne_w_Required_w_Never, ne_w_Required_w_Supports, ne_w_NotSupported_w_RequiresNew, ne_w_NotSupported_w_Mandatory, ne_w_NotSupported_w_BeanManaged, ne_w_NotSupported_w_Never, ne_w_NotSupported_w_Supports, ne_w_RequiresNew_w_Mandatory, ne_w_RequiresNew_w_BeanManaged, ne_w_RequiresNew_w_Never, ne_w_RequiresNew_w_Supports, ne_w_Mandatory_w_BeanManaged, ne_w_Mandatory_w_Never, ne_w_Mandatory_w_Supports, ne_w_BeanManaged_w_Never, ne_w_BeanManaged_w_Supports, ne_w_Never_w_Supports⟩ := (id hS : St0 Z w_Required w_RECEIVED w_NotSupported w_NONE w_RequiresNew w_NEW w_Mandatory w_BeanManaged w_Never w_Supports w_EMPTY )
  refine ostart (g' := (mkF mG 0 #[.val (.ref w_Required)] [])) (by first | (simp [entryFrame, mkF, argsToLocals, Value.category]; done) | rfl) ?_
  refine ob s₁ (mkF mG 1 #[.val (.ref w_Required)] [(.ref w_Required)]) (fun _ kk => XS.aloadN X0.here hx rfl (hb hby d3_0) rfl rfl kk) ?_
  obtain ⟨T1, X1, e1, st1⟩ := getF X0 hx hZ hown (host := "") (Or.inl (ow hw 20 rfl)) Via.refl e0 (F_w_Required_ordinal.ext O0.2) (g := (mkF mG 1 #[.val (.ref w_Required)] [(.ref w_Required)])) rfl rfl (hb hby d3_1)
  refine ob T1 (mkF mG 4 #[.val (.ref w_Required)] [(.int (0 : Int32))]) (fun _ kk => st1 _ kk) ?_
  obtain ⟨fs, hr, hrun, hended, hW, hsame⟩ := X1.leave (v := some (.int (0 : Int32))) (fun h => by rw [Bd.returns] at h; cases h)
  refine oout (retOut X1 hx Bd.returns rfl (Or.inl ⟨rfl, Or.inl rfl, _, rfl⟩) (hb hby d3_4) hr) hrun hended ⟨_, _, rfl, ?_, ⟨_, rfl⟩, hW, hsame.mono (by decide) (by decide)⟩
  show Q_rm_ord_Required Z w_Required w_RECEIVED w_NotSupported w_NONE w_RequiresNew w_NEW w_Mandatory w_BeanManaged w_Never w_Supports w_EMPTY  h0 n0 _ T1.heap _
  rw [e1]
  exact ⟨rfl, N0, rfl⟩

def Q_rm_ord_RequiresNew (Z : State) (w_Required : Addr) (w_RECEIVED : Addr) (w_NotSupported : Addr) (w_NONE : Addr) (w_RequiresNew : Addr) (w_NEW : Addr) (w_Mandatory : Addr) (w_BeanManaged : Addr) (w_Never : Addr) (w_Supports : Addr) (w_EMPTY : Addr)  (h0 : Heap) (n0 : Nat) (v : Option Value) (h : Heap) (L : List Loc) : Prop := v = some (.int (1 : Int32)) ∧ Fr n0 L ∧ h = h0
set_option maxRecDepth 65536 in
set_option maxHeartbeats 40000000 in
theorem rm_ord_RequiresNew (l : Launch) (Z : State) (a0 : Array Value) (hw : ∀ d ∈ tables_1, d.before a0 Z = true) (ws : List Jvm.Cond) (w_Required : Addr) (w_RECEIVED : Addr) (w_NotSupported : Addr) (w_NONE : Addr) (w_RequiresNew : Addr) (w_NEW : Addr) (w_Mandatory : Addr) (w_BeanManaged : Addr) (w_Never : Addr) (w_Supports : Addr) (w_EMPTY : Addr)  (h0 : Heap) (n0 : Nat) (O0 : Old Z n0 h0) (hS : St0 Z w_Required w_RECEIVED w_NotSupported w_NONE w_RequiresNew w_NEW w_Mandatory w_BeanManaged w_Never w_Supports w_EMPTY ) :
    MetFree l (⟨"java/lang/Enum", "ordinal", "()I"⟩ : MethodName) (head1 (Jvm.Cond.code (⟨"java/lang/Enum", "ordinal", "()I"⟩ : MethodName) jdk_37_method_2_code 1 (some .int) :: ws) ({ frames := 0, cells := 0, slots := 0, locals := 0 } : Room)) (fun aG UG => aG = #[(.ref w_RequiresNew)] ∧ Z.Warmed39 UG.vm ∧ UG.heap = h0) (fun _ _ _ _ _ => True) (fun _ UG oG UG' => ∃ vG LG, oG = .returned vG ∧ Q_rm_ord_RequiresNew Z w_Required w_RECEIVED w_NotSupported w_NONE w_RequiresNew w_NEW w_Mandatory w_BeanManaged w_Never w_Supports w_EMPTY  h0 n0 vG UG'.heap LG ∧ FrameEnd UG oG UG' LG ({ frames := 0, cells := 0, slots := 0, locals := 0 } : Room).cells ({ frames := 0, cells := 0, slots := 0, locals := 0 } : Room).slots) := by
  refine MetFree.of_bodySF (plainFor_of_name pn_2) hisR ?_
  intro pG eG sG mG argsG belowG methG cG s₁ Bd hml0 hP hK
  obtain ⟨rfl, hZ, hh⟩ := hP
  have hx := Bd.exec
  have hby := Bd.bytes
  have hml : cG.maxLocals = 1 := hml0
  have hown : sG.vm.findClass "java/lang/Enum" = some mG.cls := findClass_of_methodNamed Bd.named
  have hnm := (name_of_methodNamed Bd.named Bd.method).1
  have X0 : Stand pG l eG ({ frames := 0, cells := 0, slots := 0, locals := 0 } : Room) sG mG #[(.ref w_RequiresNew)] belowG methG cG s₁ [] 0 0 := Stand.of_body Bd
  have e0 : s₁.heap = h0 := by rw [← hh, Bd.state]; rfl
  have N0 := Fr.nil n0
  have K0 := Keep.refl h0 []
  obtain ⟨S_w_Required, E_w_Required, S_w_RECEIVED, E_w_RECEIVED, S_w_NotSupported, E_w_NotSupported, S_w_NONE, E_w_NONE, S_w_RequiresNew, E_w_RequiresNew, S_w_NEW, E_w_NEW, S_w_Mandatory, E_w_Mandatory, S_w_BeanManaged, E_w_BeanManaged, S_w_Never, E_w_Never, S_w_Supports, E_w_Supports, S_w_EMPTY, E_w_EMPTY, F_w_Required_ordinal, F_w_NotSupported_ordinal, F_w_RequiresNew_ordinal, F_w_Mandatory_ordinal, F_w_BeanManaged_ordinal, F_w_Never_ordinal, F_w_Supports_ordinal, F_w_EMPTY_value, ne_w_Required_w_NotSupported, ne_w_Required_w_RequiresNew, ne_w_Required_w_Mandatory, ne_w_Required_w_BeanManaged, ne_w_Required_w_Never, ne_w_Required_w_Supports, ne_w_NotSupported_w_RequiresNew, ne_w_NotSupported_w_Mandatory, ne_w_NotSupported_w_BeanManaged, ne_w_NotSupported_w_Never, ne_w_NotSupported_w_Supports, ne_w_RequiresNew_w_Mandatory, ne_w_RequiresNew_w_BeanManaged, ne_w_RequiresNew_w_Never, ne_w_RequiresNew_w_Supports, ne_w_Mandatory_w_BeanManaged, ne_w_Mandatory_w_Never, ne_w_Mandatory_w_Supports, ne_w_BeanManaged_w_Never, ne_w_BeanManaged_w_Supports, ne_w_Never_w_Supports⟩ := (id hS : St0 Z w_Required w_RECEIVED w_NotSupported w_NONE w_RequiresNew w_NEW w_Mandatory w_BeanManaged w_Never w_Supports w_EMPTY )
  refine ostart (g' := (mkF mG 0 #[.val (.ref w_RequiresNew)] [])) (by first | (simp [entryFrame, mkF, argsToLocals, Value.category]; done) | rfl) ?_
  refine ob s₁ (mkF mG 1 #[.val (.ref w_RequiresNew)] [(.ref w_RequiresNew)]) (fun _ kk => XS.aloadN X0.here hx rfl (hb hby d3_0) rfl rfl kk) ?_
  obtain ⟨T1, X1, e1, st1⟩ := getF X0 hx hZ hown (host := "") (Or.inl (ow hw 20 rfl)) Via.refl e0 (F_w_RequiresNew_ordinal.ext O0.2) (g := (mkF mG 1 #[.val (.ref w_RequiresNew)] [(.ref w_RequiresNew)])) rfl rfl (hb hby d3_1)
  refine ob T1 (mkF mG 4 #[.val (.ref w_RequiresNew)] [(.int (1 : Int32))]) (fun _ kk => st1 _ kk) ?_
  obtain ⟨fs, hr, hrun, hended, hW, hsame⟩ := X1.leave (v := some (.int (1 : Int32))) (fun h => by rw [Bd.returns] at h; cases h)
  refine oout (retOut X1 hx Bd.returns rfl (Or.inl ⟨rfl, Or.inl rfl, _, rfl⟩) (hb hby d3_4) hr) hrun hended ⟨_, _, rfl, ?_, ⟨_, rfl⟩, hW, hsame.mono (by decide) (by decide)⟩
  show Q_rm_ord_RequiresNew Z w_Required w_RECEIVED w_NotSupported w_NONE w_RequiresNew w_NEW w_Mandatory w_BeanManaged w_Never w_Supports w_EMPTY  h0 n0 _ T1.heap _
  rw [e1]
  exact ⟨rfl, N0, rfl⟩

def Q_rm_ord_Supports (Z : State) (w_Required : Addr) (w_RECEIVED : Addr) (w_NotSupported : Addr) (w_NONE : Addr) (w_RequiresNew : Addr) (w_NEW : Addr) (w_Mandatory : Addr) (w_BeanManaged : Addr) (w_Never : Addr) (w_Supports : Addr) (w_EMPTY : Addr)  (h0 : Heap) (n0 : Nat) (v : Option Value) (h : Heap) (L : List Loc) : Prop := v = some (.int (2 : Int32)) ∧ Fr n0 L ∧ h = h0
set_option maxRecDepth 65536 in
set_option maxHeartbeats 40000000 in
theorem rm_ord_Supports (l : Launch) (Z : State) (a0 : Array Value) (hw : ∀ d ∈ tables_1, d.before a0 Z = true) (ws : List Jvm.Cond) (w_Required : Addr) (w_RECEIVED : Addr) (w_NotSupported : Addr) (w_NONE : Addr) (w_RequiresNew : Addr) (w_NEW : Addr) (w_Mandatory : Addr) (w_BeanManaged : Addr) (w_Never : Addr) (w_Supports : Addr) (w_EMPTY : Addr)  (h0 : Heap) (n0 : Nat) (O0 : Old Z n0 h0) (hS : St0 Z w_Required w_RECEIVED w_NotSupported w_NONE w_RequiresNew w_NEW w_Mandatory w_BeanManaged w_Never w_Supports w_EMPTY ) :
    MetFree l (⟨"java/lang/Enum", "ordinal", "()I"⟩ : MethodName) (head1 (Jvm.Cond.code (⟨"java/lang/Enum", "ordinal", "()I"⟩ : MethodName) jdk_37_method_2_code 1 (some .int) :: ws) ({ frames := 0, cells := 0, slots := 0, locals := 0 } : Room)) (fun aG UG => aG = #[(.ref w_Supports)] ∧ Z.Warmed39 UG.vm ∧ UG.heap = h0) (fun _ _ _ _ _ => True) (fun _ UG oG UG' => ∃ vG LG, oG = .returned vG ∧ Q_rm_ord_Supports Z w_Required w_RECEIVED w_NotSupported w_NONE w_RequiresNew w_NEW w_Mandatory w_BeanManaged w_Never w_Supports w_EMPTY  h0 n0 vG UG'.heap LG ∧ FrameEnd UG oG UG' LG ({ frames := 0, cells := 0, slots := 0, locals := 0 } : Room).cells ({ frames := 0, cells := 0, slots := 0, locals := 0 } : Room).slots) := by
  refine MetFree.of_bodySF (plainFor_of_name pn_2) hisR ?_
  intro pG eG sG mG argsG belowG methG cG s₁ Bd hml0 hP hK
  obtain ⟨rfl, hZ, hh⟩ := hP
  have hx := Bd.exec
  have hby := Bd.bytes
  have hml : cG.maxLocals = 1 := hml0
  have hown : sG.vm.findClass "java/lang/Enum" = some mG.cls := findClass_of_methodNamed Bd.named
  have hnm := (name_of_methodNamed Bd.named Bd.method).1
  have X0 : Stand pG l eG ({ frames := 0, cells := 0, slots := 0, locals := 0 } : Room) sG mG #[(.ref w_Supports)] belowG methG cG s₁ [] 0 0 := Stand.of_body Bd
  have e0 : s₁.heap = h0 := by rw [← hh, Bd.state]; rfl
  have N0 := Fr.nil n0
  have K0 := Keep.refl h0 []
  obtain ⟨S_w_Required, E_w_Required, S_w_RECEIVED, E_w_RECEIVED, S_w_NotSupported, E_w_NotSupported, S_w_NONE, E_w_NONE, S_w_RequiresNew, E_w_RequiresNew, S_w_NEW, E_w_NEW, S_w_Mandatory, E_w_Mandatory, S_w_BeanManaged, E_w_BeanManaged, S_w_Never, E_w_Never, S_w_Supports, E_w_Supports, S_w_EMPTY, E_w_EMPTY, F_w_Required_ordinal, F_w_NotSupported_ordinal, F_w_RequiresNew_ordinal, F_w_Mandatory_ordinal, F_w_BeanManaged_ordinal, F_w_Never_ordinal, F_w_Supports_ordinal, F_w_EMPTY_value, ne_w_Required_w_NotSupported, ne_w_Required_w_RequiresNew, ne_w_Required_w_Mandatory, ne_w_Required_w_BeanManaged, ne_w_Required_w_Never, ne_w_Required_w_Supports, ne_w_NotSupported_w_RequiresNew, ne_w_NotSupported_w_Mandatory, ne_w_NotSupported_w_BeanManaged, ne_w_NotSupported_w_Never, ne_w_NotSupported_w_Supports, ne_w_RequiresNew_w_Mandatory, ne_w_RequiresNew_w_BeanManaged, ne_w_RequiresNew_w_Never, ne_w_RequiresNew_w_Supports, ne_w_Mandatory_w_BeanManaged, ne_w_Mandatory_w_Never, ne_w_Mandatory_w_Supports, ne_w_BeanManaged_w_Never, ne_w_BeanManaged_w_Supports, ne_w_Never_w_Supports⟩ := (id hS : St0 Z w_Required w_RECEIVED w_NotSupported w_NONE w_RequiresNew w_NEW w_Mandatory w_BeanManaged w_Never w_Supports w_EMPTY )
  refine ostart (g' := (mkF mG 0 #[.val (.ref w_Supports)] [])) (by first | (simp [entryFrame, mkF, argsToLocals, Value.category]; done) | rfl) ?_
  refine ob s₁ (mkF mG 1 #[.val (.ref w_Supports)] [(.ref w_Supports)]) (fun _ kk => XS.aloadN X0.here hx rfl (hb hby d3_0) rfl rfl kk) ?_
  obtain ⟨T1, X1, e1, st1⟩ := getF X0 hx hZ hown (host := "") (Or.inl (ow hw 20 rfl)) Via.refl e0 (F_w_Supports_ordinal.ext O0.2) (g := (mkF mG 1 #[.val (.ref w_Supports)] [(.ref w_Supports)])) rfl rfl (hb hby d3_1)
  refine ob T1 (mkF mG 4 #[.val (.ref w_Supports)] [(.int (2 : Int32))]) (fun _ kk => st1 _ kk) ?_
  obtain ⟨fs, hr, hrun, hended, hW, hsame⟩ := X1.leave (v := some (.int (2 : Int32))) (fun h => by rw [Bd.returns] at h; cases h)
  refine oout (retOut X1 hx Bd.returns rfl (Or.inl ⟨rfl, Or.inl rfl, _, rfl⟩) (hb hby d3_4) hr) hrun hended ⟨_, _, rfl, ?_, ⟨_, rfl⟩, hW, hsame.mono (by decide) (by decide)⟩
  show Q_rm_ord_Supports Z w_Required w_RECEIVED w_NotSupported w_NONE w_RequiresNew w_NEW w_Mandatory w_BeanManaged w_Never w_Supports w_EMPTY  h0 n0 _ T1.heap _
  rw [e1]
  exact ⟨rfl, N0, rfl⟩

def Q_rm_ord_NotSupported (Z : State) (w_Required : Addr) (w_RECEIVED : Addr) (w_NotSupported : Addr) (w_NONE : Addr) (w_RequiresNew : Addr) (w_NEW : Addr) (w_Mandatory : Addr) (w_BeanManaged : Addr) (w_Never : Addr) (w_Supports : Addr) (w_EMPTY : Addr)  (h0 : Heap) (n0 : Nat) (v : Option Value) (h : Heap) (L : List Loc) : Prop := v = some (.int (3 : Int32)) ∧ Fr n0 L ∧ h = h0
set_option maxRecDepth 65536 in
set_option maxHeartbeats 40000000 in
theorem rm_ord_NotSupported (l : Launch) (Z : State) (a0 : Array Value) (hw : ∀ d ∈ tables_1, d.before a0 Z = true) (ws : List Jvm.Cond) (w_Required : Addr) (w_RECEIVED : Addr) (w_NotSupported : Addr) (w_NONE : Addr) (w_RequiresNew : Addr) (w_NEW : Addr) (w_Mandatory : Addr) (w_BeanManaged : Addr) (w_Never : Addr) (w_Supports : Addr) (w_EMPTY : Addr)  (h0 : Heap) (n0 : Nat) (O0 : Old Z n0 h0) (hS : St0 Z w_Required w_RECEIVED w_NotSupported w_NONE w_RequiresNew w_NEW w_Mandatory w_BeanManaged w_Never w_Supports w_EMPTY ) :
    MetFree l (⟨"java/lang/Enum", "ordinal", "()I"⟩ : MethodName) (head1 (Jvm.Cond.code (⟨"java/lang/Enum", "ordinal", "()I"⟩ : MethodName) jdk_37_method_2_code 1 (some .int) :: ws) ({ frames := 0, cells := 0, slots := 0, locals := 0 } : Room)) (fun aG UG => aG = #[(.ref w_NotSupported)] ∧ Z.Warmed39 UG.vm ∧ UG.heap = h0) (fun _ _ _ _ _ => True) (fun _ UG oG UG' => ∃ vG LG, oG = .returned vG ∧ Q_rm_ord_NotSupported Z w_Required w_RECEIVED w_NotSupported w_NONE w_RequiresNew w_NEW w_Mandatory w_BeanManaged w_Never w_Supports w_EMPTY  h0 n0 vG UG'.heap LG ∧ FrameEnd UG oG UG' LG ({ frames := 0, cells := 0, slots := 0, locals := 0 } : Room).cells ({ frames := 0, cells := 0, slots := 0, locals := 0 } : Room).slots) := by
  refine MetFree.of_bodySF (plainFor_of_name pn_2) hisR ?_
  intro pG eG sG mG argsG belowG methG cG s₁ Bd hml0 hP hK
  obtain ⟨rfl, hZ, hh⟩ := hP
  have hx := Bd.exec
  have hby := Bd.bytes
  have hml : cG.maxLocals = 1 := hml0
  have hown : sG.vm.findClass "java/lang/Enum" = some mG.cls := findClass_of_methodNamed Bd.named
  have hnm := (name_of_methodNamed Bd.named Bd.method).1
  have X0 : Stand pG l eG ({ frames := 0, cells := 0, slots := 0, locals := 0 } : Room) sG mG #[(.ref w_NotSupported)] belowG methG cG s₁ [] 0 0 := Stand.of_body Bd
  have e0 : s₁.heap = h0 := by rw [← hh, Bd.state]; rfl
  have N0 := Fr.nil n0
  have K0 := Keep.refl h0 []
  obtain ⟨S_w_Required, E_w_Required, S_w_RECEIVED, E_w_RECEIVED, S_w_NotSupported, E_w_NotSupported, S_w_NONE, E_w_NONE, S_w_RequiresNew, E_w_RequiresNew, S_w_NEW, E_w_NEW, S_w_Mandatory, E_w_Mandatory, S_w_BeanManaged, E_w_BeanManaged, S_w_Never, E_w_Never, S_w_Supports, E_w_Supports, S_w_EMPTY, E_w_EMPTY, F_w_Required_ordinal, F_w_NotSupported_ordinal, F_w_RequiresNew_ordinal, F_w_Mandatory_ordinal, F_w_BeanManaged_ordinal, F_w_Never_ordinal, F_w_Supports_ordinal, F_w_EMPTY_value, ne_w_Required_w_NotSupported, ne_w_Required_w_RequiresNew, ne_w_Required_w_Mandatory, ne_w_Required_w_BeanManaged, ne_w_Required_w_Never, ne_w_Required_w_Supports, ne_w_NotSupported_w_RequiresNew, ne_w_NotSupported_w_Mandatory, ne_w_NotSupported_w_BeanManaged, ne_w_NotSupported_w_Never, ne_w_NotSupported_w_Supports, ne_w_RequiresNew_w_Mandatory, ne_w_RequiresNew_w_BeanManaged, ne_w_RequiresNew_w_Never, ne_w_RequiresNew_w_Supports, ne_w_Mandatory_w_BeanManaged, ne_w_Mandatory_w_Never, ne_w_Mandatory_w_Supports, ne_w_BeanManaged_w_Never, ne_w_BeanManaged_w_Supports, ne_w_Never_w_Supports⟩ := (id hS : St0 Z w_Required w_RECEIVED w_NotSupported w_NONE w_RequiresNew w_NEW w_Mandatory w_BeanManaged w_Never w_Supports w_EMPTY )
  refine ostart (g' := (mkF mG 0 #[.val (.ref w_NotSupported)] [])) (by first | (simp [entryFrame, mkF, argsToLocals, Value.category]; done) | rfl) ?_
  refine ob s₁ (mkF mG 1 #[.val (.ref w_NotSupported)] [(.ref w_NotSupported)]) (fun _ kk => XS.aloadN X0.here hx rfl (hb hby d3_0) rfl rfl kk) ?_
  obtain ⟨T1, X1, e1, st1⟩ := getF X0 hx hZ hown (host := "") (Or.inl (ow hw 20 rfl)) Via.refl e0 (F_w_NotSupported_ordinal.ext O0.2) (g := (mkF mG 1 #[.val (.ref w_NotSupported)] [(.ref w_NotSupported)])) rfl rfl (hb hby d3_1)
  refine ob T1 (mkF mG 4 #[.val (.ref w_NotSupported)] [(.int (3 : Int32))]) (fun _ kk => st1 _ kk) ?_
  obtain ⟨fs, hr, hrun, hended, hW, hsame⟩ := X1.leave (v := some (.int (3 : Int32))) (fun h => by rw [Bd.returns] at h; cases h)
  refine oout (retOut X1 hx Bd.returns rfl (Or.inl ⟨rfl, Or.inl rfl, _, rfl⟩) (hb hby d3_4) hr) hrun hended ⟨_, _, rfl, ?_, ⟨_, rfl⟩, hW, hsame.mono (by decide) (by decide)⟩
  show Q_rm_ord_NotSupported Z w_Required w_RECEIVED w_NotSupported w_NONE w_RequiresNew w_NEW w_Mandatory w_BeanManaged w_Never w_Supports w_EMPTY  h0 n0 _ T1.heap _
  rw [e1]
  exact ⟨rfl, N0, rfl⟩

def Q_rm_ord_Mandatory (Z : State) (w_Required : Addr) (w_RECEIVED : Addr) (w_NotSupported : Addr) (w_NONE : Addr) (w_RequiresNew : Addr) (w_NEW : Addr) (w_Mandatory : Addr) (w_BeanManaged : Addr) (w_Never : Addr) (w_Supports : Addr) (w_EMPTY : Addr)  (h0 : Heap) (n0 : Nat) (v : Option Value) (h : Heap) (L : List Loc) : Prop := v = some (.int (4 : Int32)) ∧ Fr n0 L ∧ h = h0
set_option maxRecDepth 65536 in
set_option maxHeartbeats 40000000 in
theorem rm_ord_Mandatory (l : Launch) (Z : State) (a0 : Array Value) (hw : ∀ d ∈ tables_1, d.before a0 Z = true) (ws : List Jvm.Cond) (w_Required : Addr) (w_RECEIVED : Addr) (w_NotSupported : Addr) (w_NONE : Addr) (w_RequiresNew : Addr) (w_NEW : Addr) (w_Mandatory : Addr) (w_BeanManaged : Addr) (w_Never : Addr) (w_Supports : Addr) (w_EMPTY : Addr)  (h0 : Heap) (n0 : Nat) (O0 : Old Z n0 h0) (hS : St0 Z w_Required w_RECEIVED w_NotSupported w_NONE w_RequiresNew w_NEW w_Mandatory w_BeanManaged w_Never w_Supports w_EMPTY ) :
    MetFree l (⟨"java/lang/Enum", "ordinal", "()I"⟩ : MethodName) (head1 (Jvm.Cond.code (⟨"java/lang/Enum", "ordinal", "()I"⟩ : MethodName) jdk_37_method_2_code 1 (some .int) :: ws) ({ frames := 0, cells := 0, slots := 0, locals := 0 } : Room)) (fun aG UG => aG = #[(.ref w_Mandatory)] ∧ Z.Warmed39 UG.vm ∧ UG.heap = h0) (fun _ _ _ _ _ => True) (fun _ UG oG UG' => ∃ vG LG, oG = .returned vG ∧ Q_rm_ord_Mandatory Z w_Required w_RECEIVED w_NotSupported w_NONE w_RequiresNew w_NEW w_Mandatory w_BeanManaged w_Never w_Supports w_EMPTY  h0 n0 vG UG'.heap LG ∧ FrameEnd UG oG UG' LG ({ frames := 0, cells := 0, slots := 0, locals := 0 } : Room).cells ({ frames := 0, cells := 0, slots := 0, locals := 0 } : Room).slots) := by
  refine MetFree.of_bodySF (plainFor_of_name pn_2) hisR ?_
  intro pG eG sG mG argsG belowG methG cG s₁ Bd hml0 hP hK
  obtain ⟨rfl, hZ, hh⟩ := hP
  have hx := Bd.exec
  have hby := Bd.bytes
  have hml : cG.maxLocals = 1 := hml0
  have hown : sG.vm.findClass "java/lang/Enum" = some mG.cls := findClass_of_methodNamed Bd.named
  have hnm := (name_of_methodNamed Bd.named Bd.method).1
  have X0 : Stand pG l eG ({ frames := 0, cells := 0, slots := 0, locals := 0 } : Room) sG mG #[(.ref w_Mandatory)] belowG methG cG s₁ [] 0 0 := Stand.of_body Bd
  have e0 : s₁.heap = h0 := by rw [← hh, Bd.state]; rfl
  have N0 := Fr.nil n0
  have K0 := Keep.refl h0 []
  obtain ⟨S_w_Required, E_w_Required, S_w_RECEIVED, E_w_RECEIVED, S_w_NotSupported, E_w_NotSupported, S_w_NONE, E_w_NONE, S_w_RequiresNew, E_w_RequiresNew, S_w_NEW, E_w_NEW, S_w_Mandatory, E_w_Mandatory, S_w_BeanManaged, E_w_BeanManaged, S_w_Never, E_w_Never, S_w_Supports, E_w_Supports, S_w_EMPTY, E_w_EMPTY, F_w_Required_ordinal, F_w_NotSupported_ordinal, F_w_RequiresNew_ordinal, F_w_Mandatory_ordinal, F_w_BeanManaged_ordinal, F_w_Never_ordinal, F_w_Supports_ordinal, F_w_EMPTY_value, ne_w_Required_w_NotSupported, ne_w_Required_w_RequiresNew, ne_w_Required_w_Mandatory, ne_w_Required_w_BeanManaged, ne_w_Required_w_Never, ne_w_Required_w_Supports, ne_w_NotSupported_w_RequiresNew, ne_w_NotSupported_w_Mandatory, ne_w_NotSupported_w_BeanManaged, ne_w_NotSupported_w_Never, ne_w_NotSupported_w_Supports, ne_w_RequiresNew_w_Mandatory, ne_w_RequiresNew_w_BeanManaged, ne_w_RequiresNew_w_Never, ne_w_RequiresNew_w_Supports, ne_w_Mandatory_w_BeanManaged, ne_w_Mandatory_w_Never, ne_w_Mandatory_w_Supports, ne_w_BeanManaged_w_Never, ne_w_BeanManaged_w_Supports, ne_w_Never_w_Supports⟩ := (id hS : St0 Z w_Required w_RECEIVED w_NotSupported w_NONE w_RequiresNew w_NEW w_Mandatory w_BeanManaged w_Never w_Supports w_EMPTY )
  refine ostart (g' := (mkF mG 0 #[.val (.ref w_Mandatory)] [])) (by first | (simp [entryFrame, mkF, argsToLocals, Value.category]; done) | rfl) ?_
  refine ob s₁ (mkF mG 1 #[.val (.ref w_Mandatory)] [(.ref w_Mandatory)]) (fun _ kk => XS.aloadN X0.here hx rfl (hb hby d3_0) rfl rfl kk) ?_
  obtain ⟨T1, X1, e1, st1⟩ := getF X0 hx hZ hown (host := "") (Or.inl (ow hw 20 rfl)) Via.refl e0 (F_w_Mandatory_ordinal.ext O0.2) (g := (mkF mG 1 #[.val (.ref w_Mandatory)] [(.ref w_Mandatory)])) rfl rfl (hb hby d3_1)
  refine ob T1 (mkF mG 4 #[.val (.ref w_Mandatory)] [(.int (4 : Int32))]) (fun _ kk => st1 _ kk) ?_
  obtain ⟨fs, hr, hrun, hended, hW, hsame⟩ := X1.leave (v := some (.int (4 : Int32))) (fun h => by rw [Bd.returns] at h; cases h)
  refine oout (retOut X1 hx Bd.returns rfl (Or.inl ⟨rfl, Or.inl rfl, _, rfl⟩) (hb hby d3_4) hr) hrun hended ⟨_, _, rfl, ?_, ⟨_, rfl⟩, hW, hsame.mono (by decide) (by decide)⟩
  show Q_rm_ord_Mandatory Z w_Required w_RECEIVED w_NotSupported w_NONE w_RequiresNew w_NEW w_Mandatory w_BeanManaged w_Never w_Supports w_EMPTY  h0 n0 _ T1.heap _
  rw [e1]
  exact ⟨rfl, N0, rfl⟩

def Q_rm_ord_Never (Z : State) (w_Required : Addr) (w_RECEIVED : Addr) (w_NotSupported : Addr) (w_NONE : Addr) (w_RequiresNew : Addr) (w_NEW : Addr) (w_Mandatory : Addr) (w_BeanManaged : Addr) (w_Never : Addr) (w_Supports : Addr) (w_EMPTY : Addr)  (h0 : Heap) (n0 : Nat) (v : Option Value) (h : Heap) (L : List Loc) : Prop := v = some (.int (5 : Int32)) ∧ Fr n0 L ∧ h = h0
set_option maxRecDepth 65536 in
set_option maxHeartbeats 40000000 in
theorem rm_ord_Never (l : Launch) (Z : State) (a0 : Array Value) (hw : ∀ d ∈ tables_1, d.before a0 Z = true) (ws : List Jvm.Cond) (w_Required : Addr) (w_RECEIVED : Addr) (w_NotSupported : Addr) (w_NONE : Addr) (w_RequiresNew : Addr) (w_NEW : Addr) (w_Mandatory : Addr) (w_BeanManaged : Addr) (w_Never : Addr) (w_Supports : Addr) (w_EMPTY : Addr)  (h0 : Heap) (n0 : Nat) (O0 : Old Z n0 h0) (hS : St0 Z w_Required w_RECEIVED w_NotSupported w_NONE w_RequiresNew w_NEW w_Mandatory w_BeanManaged w_Never w_Supports w_EMPTY ) :
    MetFree l (⟨"java/lang/Enum", "ordinal", "()I"⟩ : MethodName) (head1 (Jvm.Cond.code (⟨"java/lang/Enum", "ordinal", "()I"⟩ : MethodName) jdk_37_method_2_code 1 (some .int) :: ws) ({ frames := 0, cells := 0, slots := 0, locals := 0 } : Room)) (fun aG UG => aG = #[(.ref w_Never)] ∧ Z.Warmed39 UG.vm ∧ UG.heap = h0) (fun _ _ _ _ _ => True) (fun _ UG oG UG' => ∃ vG LG, oG = .returned vG ∧ Q_rm_ord_Never Z w_Required w_RECEIVED w_NotSupported w_NONE w_RequiresNew w_NEW w_Mandatory w_BeanManaged w_Never w_Supports w_EMPTY  h0 n0 vG UG'.heap LG ∧ FrameEnd UG oG UG' LG ({ frames := 0, cells := 0, slots := 0, locals := 0 } : Room).cells ({ frames := 0, cells := 0, slots := 0, locals := 0 } : Room).slots) := by
  refine MetFree.of_bodySF (plainFor_of_name pn_2) hisR ?_
  intro pG eG sG mG argsG belowG methG cG s₁ Bd hml0 hP hK
  obtain ⟨rfl, hZ, hh⟩ := hP
  have hx := Bd.exec
  have hby := Bd.bytes
  have hml : cG.maxLocals = 1 := hml0
  have hown : sG.vm.findClass "java/lang/Enum" = some mG.cls := findClass_of_methodNamed Bd.named
  have hnm := (name_of_methodNamed Bd.named Bd.method).1
  have X0 : Stand pG l eG ({ frames := 0, cells := 0, slots := 0, locals := 0 } : Room) sG mG #[(.ref w_Never)] belowG methG cG s₁ [] 0 0 := Stand.of_body Bd
  have e0 : s₁.heap = h0 := by rw [← hh, Bd.state]; rfl
  have N0 := Fr.nil n0
  have K0 := Keep.refl h0 []
  obtain ⟨S_w_Required, E_w_Required, S_w_RECEIVED, E_w_RECEIVED, S_w_NotSupported, E_w_NotSupported, S_w_NONE, E_w_NONE, S_w_RequiresNew, E_w_RequiresNew, S_w_NEW, E_w_NEW, S_w_Mandatory, E_w_Mandatory, S_w_BeanManaged, E_w_BeanManaged, S_w_Never, E_w_Never, S_w_Supports, E_w_Supports, S_w_EMPTY, E_w_EMPTY, F_w_Required_ordinal, F_w_NotSupported_ordinal, F_w_RequiresNew_ordinal, F_w_Mandatory_ordinal, F_w_BeanManaged_ordinal, F_w_Never_ordinal, F_w_Supports_ordinal, F_w_EMPTY_value, ne_w_Required_w_NotSupported, ne_w_Required_w_RequiresNew, ne_w_Required_w_Mandatory, ne_w_Required_w_BeanManaged, ne_w_Required_w_Never, ne_w_Required_w_Supports, ne_w_NotSupported_w_RequiresNew, ne_w_NotSupported_w_Mandatory, ne_w_NotSupported_w_BeanManaged, ne_w_NotSupported_w_Never, ne_w_NotSupported_w_Supports, ne_w_RequiresNew_w_Mandatory, ne_w_RequiresNew_w_BeanManaged, ne_w_RequiresNew_w_Never, ne_w_RequiresNew_w_Supports, ne_w_Mandatory_w_BeanManaged, ne_w_Mandatory_w_Never, ne_w_Mandatory_w_Supports, ne_w_BeanManaged_w_Never, ne_w_BeanManaged_w_Supports, ne_w_Never_w_Supports⟩ := (id hS : St0 Z w_Required w_RECEIVED w_NotSupported w_NONE w_RequiresNew w_NEW w_Mandatory w_BeanManaged w_Never w_Supports w_EMPTY )
  refine ostart (g' := (mkF mG 0 #[.val (.ref w_Never)] [])) (by first | (simp [entryFrame, mkF, argsToLocals, Value.category]; done) | rfl) ?_
  refine ob s₁ (mkF mG 1 #[.val (.ref w_Never)] [(.ref w_Never)]) (fun _ kk => XS.aloadN X0.here hx rfl (hb hby d3_0) rfl rfl kk) ?_
  obtain ⟨T1, X1, e1, st1⟩ := getF X0 hx hZ hown (host := "") (Or.inl (ow hw 20 rfl)) Via.refl e0 (F_w_Never_ordinal.ext O0.2) (g := (mkF mG 1 #[.val (.ref w_Never)] [(.ref w_Never)])) rfl rfl (hb hby d3_1)
  refine ob T1 (mkF mG 4 #[.val (.ref w_Never)] [(.int (5 : Int32))]) (fun _ kk => st1 _ kk) ?_
  obtain ⟨fs, hr, hrun, hended, hW, hsame⟩ := X1.leave (v := some (.int (5 : Int32))) (fun h => by rw [Bd.returns] at h; cases h)
  refine oout (retOut X1 hx Bd.returns rfl (Or.inl ⟨rfl, Or.inl rfl, _, rfl⟩) (hb hby d3_4) hr) hrun hended ⟨_, _, rfl, ?_, ⟨_, rfl⟩, hW, hsame.mono (by decide) (by decide)⟩
  show Q_rm_ord_Never Z w_Required w_RECEIVED w_NotSupported w_NONE w_RequiresNew w_NEW w_Mandatory w_BeanManaged w_Never w_Supports w_EMPTY  h0 n0 _ T1.heap _
  rw [e1]
  exact ⟨rfl, N0, rfl⟩

def Q_rm_ord_BeanManaged (Z : State) (w_Required : Addr) (w_RECEIVED : Addr) (w_NotSupported : Addr) (w_NONE : Addr) (w_RequiresNew : Addr) (w_NEW : Addr) (w_Mandatory : Addr) (w_BeanManaged : Addr) (w_Never : Addr) (w_Supports : Addr) (w_EMPTY : Addr)  (h0 : Heap) (n0 : Nat) (v : Option Value) (h : Heap) (L : List Loc) : Prop := v = some (.int (6 : Int32)) ∧ Fr n0 L ∧ h = h0
set_option maxRecDepth 65536 in
set_option maxHeartbeats 40000000 in
theorem rm_ord_BeanManaged (l : Launch) (Z : State) (a0 : Array Value) (hw : ∀ d ∈ tables_1, d.before a0 Z = true) (ws : List Jvm.Cond) (w_Required : Addr) (w_RECEIVED : Addr) (w_NotSupported : Addr) (w_NONE : Addr) (w_RequiresNew : Addr) (w_NEW : Addr) (w_Mandatory : Addr) (w_BeanManaged : Addr) (w_Never : Addr) (w_Supports : Addr) (w_EMPTY : Addr)  (h0 : Heap) (n0 : Nat) (O0 : Old Z n0 h0) (hS : St0 Z w_Required w_RECEIVED w_NotSupported w_NONE w_RequiresNew w_NEW w_Mandatory w_BeanManaged w_Never w_Supports w_EMPTY ) :
    MetFree l (⟨"java/lang/Enum", "ordinal", "()I"⟩ : MethodName) (head1 (Jvm.Cond.code (⟨"java/lang/Enum", "ordinal", "()I"⟩ : MethodName) jdk_37_method_2_code 1 (some .int) :: ws) ({ frames := 0, cells := 0, slots := 0, locals := 0 } : Room)) (fun aG UG => aG = #[(.ref w_BeanManaged)] ∧ Z.Warmed39 UG.vm ∧ UG.heap = h0) (fun _ _ _ _ _ => True) (fun _ UG oG UG' => ∃ vG LG, oG = .returned vG ∧ Q_rm_ord_BeanManaged Z w_Required w_RECEIVED w_NotSupported w_NONE w_RequiresNew w_NEW w_Mandatory w_BeanManaged w_Never w_Supports w_EMPTY  h0 n0 vG UG'.heap LG ∧ FrameEnd UG oG UG' LG ({ frames := 0, cells := 0, slots := 0, locals := 0 } : Room).cells ({ frames := 0, cells := 0, slots := 0, locals := 0 } : Room).slots) := by
  refine MetFree.of_bodySF (plainFor_of_name pn_2) hisR ?_
  intro pG eG sG mG argsG belowG methG cG s₁ Bd hml0 hP hK
  obtain ⟨rfl, hZ, hh⟩ := hP
  have hx := Bd.exec
  have hby := Bd.bytes
  have hml : cG.maxLocals = 1 := hml0
  have hown : sG.vm.findClass "java/lang/Enum" = some mG.cls := findClass_of_methodNamed Bd.named
  have hnm := (name_of_methodNamed Bd.named Bd.method).1
  have X0 : Stand pG l eG ({ frames := 0, cells := 0, slots := 0, locals := 0 } : Room) sG mG #[(.ref w_BeanManaged)] belowG methG cG s₁ [] 0 0 := Stand.of_body Bd
  have e0 : s₁.heap = h0 := by rw [← hh, Bd.state]; rfl
  have N0 := Fr.nil n0
  have K0 := Keep.refl h0 []
  obtain ⟨S_w_Required, E_w_Required, S_w_RECEIVED, E_w_RECEIVED, S_w_NotSupported, E_w_NotSupported, S_w_NONE, E_w_NONE, S_w_RequiresNew, E_w_RequiresNew, S_w_NEW, E_w_NEW, S_w_Mandatory, E_w_Mandatory, S_w_BeanManaged, E_w_BeanManaged, S_w_Never, E_w_Never, S_w_Supports, E_w_Supports, S_w_EMPTY, E_w_EMPTY, F_w_Required_ordinal, F_w_NotSupported_ordinal, F_w_RequiresNew_ordinal, F_w_Mandatory_ordinal, F_w_BeanManaged_ordinal, F_w_Never_ordinal, F_w_Supports_ordinal, F_w_EMPTY_value, ne_w_Required_w_NotSupported, ne_w_Required_w_RequiresNew, ne_w_Required_w_Mandatory, ne_w_Required_w_BeanManaged, ne_w_Required_w_Never, ne_w_Required_w_Supports, ne_w_NotSupported_w_RequiresNew, ne_w_NotSupported_w_Mandatory, ne_w_NotSupported_w_BeanManaged, ne_w_NotSupported_w_Never, ne_w_NotSupported_w_Supports, ne_w_RequiresNew_w_Mandatory, ne_w_RequiresNew_w_BeanManaged, ne_w_RequiresNew_w_Never, ne_w_RequiresNew_w_Supports, ne_w_Mandatory_w_BeanManaged, ne_w_Mandatory_w_Never, ne_w_Mandatory_w_Supports, ne_w_BeanManaged_w_Never, ne_w_BeanManaged_w_Supports, ne_w_Never_w_Supports⟩ := (id hS : St0 Z w_Required w_RECEIVED w_NotSupported w_NONE w_RequiresNew w_NEW w_Mandatory w_BeanManaged w_Never w_Supports w_EMPTY )
  refine ostart (g' := (mkF mG 0 #[.val (.ref w_BeanManaged)] [])) (by first | (simp [entryFrame, mkF, argsToLocals, Value.category]; done) | rfl) ?_
  refine ob s₁ (mkF mG 1 #[.val (.ref w_BeanManaged)] [(.ref w_BeanManaged)]) (fun _ kk => XS.aloadN X0.here hx rfl (hb hby d3_0) rfl rfl kk) ?_
  obtain ⟨T1, X1, e1, st1⟩ := getF X0 hx hZ hown (host := "") (Or.inl (ow hw 20 rfl)) Via.refl e0 (F_w_BeanManaged_ordinal.ext O0.2) (g := (mkF mG 1 #[.val (.ref w_BeanManaged)] [(.ref w_BeanManaged)])) rfl rfl (hb hby d3_1)
  refine ob T1 (mkF mG 4 #[.val (.ref w_BeanManaged)] [(.int (6 : Int32))]) (fun _ kk => st1 _ kk) ?_
  obtain ⟨fs, hr, hrun, hended, hW, hsame⟩ := X1.leave (v := some (.int (6 : Int32))) (fun h => by rw [Bd.returns] at h; cases h)
  refine oout (retOut X1 hx Bd.returns rfl (Or.inl ⟨rfl, Or.inl rfl, _, rfl⟩) (hb hby d3_4) hr) hrun hended ⟨_, _, rfl, ?_, ⟨_, rfl⟩, hW, hsame.mono (by decide) (by decide)⟩
  show Q_rm_ord_BeanManaged Z w_Required w_RECEIVED w_NotSupported w_NONE w_RequiresNew w_NEW w_Mandatory w_BeanManaged w_Never w_Supports w_EMPTY  h0 n0 _ T1.heap _
  rw [e1]
  exact ⟨rfl, N0, rfl⟩

theorem d2_0 : decode prog_18_method_4_code 0 = .ok (.aload_n 0, 1) := by decide +kernel
theorem d2_1 : decode prog_18_method_4_code 1 = .ok (.invokevirtual 44, 3) := by decide +kernel
theorem d2_4 : decode prog_18_method_4_code 4 = .ok (.tableswitch 44 0 6 #[54, 70, 76, 92, 98, 112, 92], 44) := by decide +kernel
theorem d2_58 : decode prog_18_method_4_code 58 = .ok (.iload_n 1, 1) := by decide +kernel
theorem d2_59 : decode prog_18_method_4_code 59 = .ok (.ifCond .eq 9, 3) := by decide +kernel
theorem d2_68 : decode prog_18_method_4_code 68 = .ok (.getstatic 59, 3) := by decide +kernel
theorem d2_71 : decode prog_18_method_4_code 71 = .ok (.goto 56, 3) := by decide +kernel
theorem d2_127 : decode prog_18_method_4_code 127 = .ok (.astore_n 2, 1) := by decide +kernel
theorem d2_128 : decode prog_18_method_4_code 128 = .ok (.aload_n 2, 1) := by decide +kernel
theorem d2_129 : decode prog_18_method_4_code 129 = .ok (.invokestatic 65, 3) := by decide +kernel
theorem d2_132 : decode prog_18_method_4_code 132 = .ok (.areturn, 1) := by decide +kernel
theorem pd_1 : parseMethodDescriptor "()I" = some ⟨[], some .int⟩ := by decide +kernel
theorem pd_2 : parseMethodDescriptor "(Ljava/lang/Object;)Ljava/util/Optional;" = some ⟨[(.object "java/lang/Object")], some (.object "java/util/Optional")⟩ := by decide +kernel
def Q_rm_ap0_0 (Z : State) (w_Required : Addr) (w_RECEIVED : Addr) (w_NotSupported : Addr) (w_NONE : Addr) (w_RequiresNew : Addr) (w_NEW : Addr) (w_Mandatory : Addr) (w_BeanManaged : Addr) (w_Never : Addr) (w_Supports : Addr) (w_EMPTY : Addr)  (h0 : Heap) (n0 : Nat) (v : Option Value) (h : Heap) (L : List Loc) : Prop := ∃ (b0 : Addr), v = some (.ref b0) ∧ Fr n0 L ∧ Keep h0 h [] ∧ Old Z n0 h ∧ n0 ≤ b0 ∧ h0.size ≤ b0 ∧ Exa Z h b0 "java/util/Optional" ∧ Fld Z h b0 "java/util/Optional" "value" "Ljava/lang/Object;" (.ref w_NEW)
set_option maxRecDepth 65536 in
set_option maxHeartbeats 40000000 in
theorem rm_ap0_0 (l : Launch) (Z : State) (a0 : Array Value) (hw : ∀ d ∈ tables_1, d.before a0 Z = true) (ws : List Jvm.Cond) (w_Required : Addr) (w_RECEIVED : Addr) (w_NotSupported : Addr) (w_NONE : Addr) (w_RequiresNew : Addr) (w_NEW : Addr) (w_Mandatory : Addr) (w_BeanManaged : Addr) (w_Never : Addr) (w_Supports : Addr) (w_EMPTY : Addr)  (h0 : Heap) (n0 : Nat) (O0 : Old Z n0 h0) (hS : St0 Z w_Required w_RECEIVED w_NotSupported w_NONE w_RequiresNew w_NEW w_Mandatory w_BeanManaged w_Never w_Supports w_EMPTY ) :
    MetFree l (⟨"com/example/vorgang/vorgang/model/Policy", "apply", "(Z)Ljava/util/Optional;"⟩ : MethodName) (head1 (Jvm.Cond.code (⟨"com/example/vorgang/vorgang/model/Policy", "apply", "(Z)Ljava/util/Optional;"⟩ : MethodName) prog_18_method_4_code 3 (some (.object "java/util/Optional")) :: ws) ({ frames := 3, cells := 1, slots := 1, locals := 38 } : Room)) (fun aG UG => aG = #[(.ref w_Required), (.int (0 : Int32))] ∧ Z.Warmed39 UG.vm ∧ UG.heap = h0) (fun _ _ _ _ _ => True) (fun _ UG oG UG' => ∃ vG LG, oG = .returned vG ∧ Q_rm_ap0_0 Z w_Required w_RECEIVED w_NotSupported w_NONE w_RequiresNew w_NEW w_Mandatory w_BeanManaged w_Never w_Supports w_EMPTY  h0 n0 vG UG'.heap LG ∧ FrameEnd UG oG UG' LG ({ frames := 3, cells := 1, slots := 1, locals := 38 } : Room).cells ({ frames := 3, cells := 1, slots := 1, locals := 38 } : Room).slots) := by
  refine MetFree.of_bodySF (plainFor_of_name pn_3) hisR ?_
  intro pG eG sG mG argsG belowG methG cG s₁ Bd hml0 hP hK
  obtain ⟨rfl, hZ, hh⟩ := hP
  have hx := Bd.exec
  have hby := Bd.bytes
  have hml : cG.maxLocals = 3 := hml0
  have hown : sG.vm.findClass "com/example/vorgang/vorgang/model/Policy" = some mG.cls := findClass_of_methodNamed Bd.named
  have hnm := (name_of_methodNamed Bd.named Bd.method).1
  have X0 : Stand pG l eG ({ frames := 3, cells := 1, slots := 1, locals := 38 } : Room) sG mG #[(.ref w_Required), (.int (0 : Int32))] belowG methG cG s₁ [] 0 0 := Stand.of_body Bd
  have e0 : s₁.heap = h0 := by rw [← hh, Bd.state]; rfl
  have N0 := Fr.nil n0
  have K0 := Keep.refl h0 []
  obtain ⟨S_w_Required, E_w_Required, S_w_RECEIVED, E_w_RECEIVED, S_w_NotSupported, E_w_NotSupported, S_w_NONE, E_w_NONE, S_w_RequiresNew, E_w_RequiresNew, S_w_NEW, E_w_NEW, S_w_Mandatory, E_w_Mandatory, S_w_BeanManaged, E_w_BeanManaged, S_w_Never, E_w_Never, S_w_Supports, E_w_Supports, S_w_EMPTY, E_w_EMPTY, F_w_Required_ordinal, F_w_NotSupported_ordinal, F_w_RequiresNew_ordinal, F_w_Mandatory_ordinal, F_w_BeanManaged_ordinal, F_w_Never_ordinal, F_w_Supports_ordinal, F_w_EMPTY_value, ne_w_Required_w_NotSupported, ne_w_Required_w_RequiresNew, ne_w_Required_w_Mandatory, ne_w_Required_w_BeanManaged, ne_w_Required_w_Never, ne_w_Required_w_Supports, ne_w_NotSupported_w_RequiresNew, ne_w_NotSupported_w_Mandatory, ne_w_NotSupported_w_BeanManaged, ne_w_NotSupported_w_Never, ne_w_NotSupported_w_Supports, ne_w_RequiresNew_w_Mandatory, ne_w_RequiresNew_w_BeanManaged, ne_w_RequiresNew_w_Never, ne_w_RequiresNew_w_Supports, ne_w_Mandatory_w_BeanManaged, ne_w_Mandatory_w_Never, ne_w_Mandatory_w_Supports, ne_w_BeanManaged_w_Never, ne_w_BeanManaged_w_Supports, ne_w_Never_w_Supports⟩ := (id hS : St0 Z w_Required w_RECEIVED w_NotSupported w_NONE w_RequiresNew w_NEW w_Mandatory w_BeanManaged w_Never w_Supports w_EMPTY )
  refine ostart (g' := (mkF mG 0 #[.val (.ref w_Required), .val (.int (0 : Int32)), .unset] [])) (by first | (simp [entryFrame, mkF, argsToLocals, Value.category]; done) | rfl) ?_
  refine ob s₁ (mkF mG 1 #[.val (.ref w_Required), .val (.int (0 : Int32)), .unset] [(.ref w_Required)]) (fun _ kk => XS.aloadN X0.here hx rfl (hb hby d2_0) rfl rfl kk) ?_
  obtain ⟨cq1, kq1, q1a, q1b, q1c⟩ := isOf hZ e0 (E_w_Required.ext O0.2)
  obtain ⟨_, _, ⟨T1, L1, k1, n1⟩, -, X1, ⟨Lc1, hQ1, l1, y1, z1⟩, st1⟩ := X0.virtualBackUp hx (x := (⟨"com/example/vorgang/vorgang/model/Policy", "ordinal", "()I"⟩ : MethodName)) (y := (⟨"java/lang/Enum", "ordinal", "()I"⟩ : MethodName)) (owner := "java/lang/Enum") hown (mvT hZ (ow hw 13 rfl)) (mvT hZ (ow hw 14 rfl)) (mvT hZ (ow hw 15 rfl)) (by decide) (mvT hZ (ow hw 17 rfl)) (mvT hZ (ow hw 16 rfl)) (backOf (W := 0) (rm_ord_Required l Z a0 hw [] w_Required w_RECEIVED w_NotSupported w_NONE w_RequiresNew w_NEW w_Mandatory w_BeanManaged w_Never w_Supports w_EMPTY  h0 n0 O0 hS ) hZ (ow hw 19 rfl) (ow hw 18 rfl) (by decide) (by decide)) q1a q1c (g := (mkF mG 1 #[.val (.ref w_Required), .val (.int (0 : Int32)), .unset] [(.ref w_Required)])) rfl (by rw [hml]; rfl) (Steps.refl _) (argsL := []) (rest := []) (lenOf pd_1 rfl) rfl (by show 2 * 0 + _ ≤ _; exact Nat.le_of_eq rfl) (hb hby d2_1) (fun _ _ => ⟨rfl, e0, (by decide : 0 + 0 ≤ _), (by decide : 0 + 0 ≤ _)⟩)
  dsimp only [Pt.U, Pt.locs, Pt.cells, Pt.slots] at X1 l1 y1 z1 st1 hQ1
  subst l1 y1 z1
  obtain ⟨rfl, N1q, e1⟩ := hQ1
  have N1 := Fr.app N0 N1q
  refine ob T1 (mkF mG 4 #[.val (.ref w_Required), .val (.int (0 : Int32)), .unset] [(.int (0 : Int32))]) (fun _ kk => st1.trans kk) ?_
  refine ob T1 (mkF mG 58 #[.val (.ref w_Required), .val (.int (0 : Int32)), .unset] []) (fun _ kk => XS.tswIn X1.here hx rfl (pc0 := 4) (pc' := 58) rfl (hb hby d2_4) rfl (by decide) (o := 54) (by decide) (by decide) (by decide) kk) ?_
  refine ob T1 (mkF mG 59 #[.val (.ref w_Required), .val (.int (0 : Int32)), .unset] [(.int (0 : Int32))]) (fun _ kk => XS.iloadN X1.here hx rfl (hb hby d2_58) rfl kk) ?_
  refine ob T1 (mkF mG 68 #[.val (.ref w_Required), .val (.int (0 : Int32)), .unset] []) (fun _ kk => XS.ifYes X1.here hx rfl (pc0 := 59) (pc' := 68) rfl (hb hby d2_59) rfl ((if0 _ _).trans (teq (by decide : (0 : Int32) = (0 : Int32))).1) (by decide) (by decide) kk) ?_
  obtain ⟨T2, X2, e2, st2⟩ := getS2 X1 hx hZ hown (host := "") (Or.inl (ow hw 58 rfl)) Via.refl e1 (S_w_NEW.ext O0.2) (g := (mkF mG 68 #[.val (.ref w_Required), .val (.int (0 : Int32)), .unset] [])) rfl (hb hby d2_68)
  refine ob T2 (mkF mG 71 #[.val (.ref w_Required), .val (.int (0 : Int32)), .unset] [(.ref w_NEW)]) (fun _ kk => st2 _ kk) ?_
  refine ob T2 (mkF mG 127 #[.val (.ref w_Required), .val (.int (0 : Int32)), .unset] [(.ref w_NEW)]) (fun _ kk => XS.goto X2.here hx rfl (pc0 := 71) (pc' := 127) rfl (hb hby d2_71) (by decide) (by decide) kk) ?_
  refine ob T2 (mkF mG 128 #[.val (.ref w_Required), .val (.int (0 : Int32)), .val (.ref w_NEW)] []) (fun _ kk => XS.astoreN X2.here hx rfl (hb hby d2_127) rfl rfl (l' := #[.val (.ref w_Required), .val (.int (0 : Int32)), .val (.ref w_NEW)]) rfl kk) ?_
  refine ob T2 (mkF mG 129 #[.val (.ref w_Required), .val (.int (0 : Int32)), .val (.ref w_NEW)] [(.ref w_NEW)]) (fun _ kk => XS.aloadN X2.here hx rfl (hb hby d2_128) rfl rfl kk) ?_
  obtain ⟨_, _, ⟨T3, L3, k3, n3⟩, -, X3, ⟨Lc3, hQ3, l3, y3, z3⟩, st3⟩ := Jvm.LawKit.callS X2 hx (y := (⟨"java/util/Optional", "ofNullable", "(Ljava/lang/Object;)Ljava/util/Optional;"⟩ : MethodName)) hown (mvT hZ (ow hw 25 rfl)) (mvT hZ (ow hw 26 rfl)) (mvT hZ (ow hw 27 rfl)) (mvT hZ (ow hw 28 rfl)) (by decide) (backOf (W := 0) (rm_onS l Z a0 hw [] w_Required w_RECEIVED w_NotSupported w_NONE w_RequiresNew w_NEW w_Mandatory w_BeanManaged w_Never w_Supports w_EMPTY w_NEW h0 n0 O0 hS ) hZ (ow hw 28 rfl) (ow hw 27 rfl) (by decide) (by decide)) (g := (mkF mG 129 #[.val (.ref w_Required), .val (.int (0 : Int32)), .val (.ref w_NEW)] [(.ref w_NEW)])) rfl (by rw [hml]; rfl) (argsL := [(.ref w_NEW)]) (rest := []) (lenOf pd_2 rfl) rfl (by show 2 * 0 + _ ≤ _; exact Nat.le_of_eq rfl) (hb hby d2_129) (fun _ _ => ⟨rfl, e2, (by decide : 0 + 1 ≤ _), (by decide : 0 + 1 ≤ _)⟩)
  dsimp only [Pt.U, Pt.locs, Pt.cells, Pt.slots] at X3 l3 y3 z3 st3 hQ3
  subst l3 y3 z3
  obtain ⟨h3, e3⟩ : ∃ h, T3.heap = h := ⟨_, rfl⟩
  rw [e3] at hQ3
  obtain ⟨b0_3, rfl, N3q, K3q, O3, n_b0_3, z_b0_3, F3_0, F3_1⟩ := hQ3
  have N3 := Fr.app N1 N3q
  have sz_b0_3 : h0.size ≤ b0_3 := Nat.le_trans K0.1 z_b0_3
  have K3 := K0.trans K3q all0
  refine ob T3 (mkF mG 132 #[.val (.ref w_Required), .val (.int (0 : Int32)), .val (.ref w_NEW)] [(.ref b0_3)]) (fun _ kk => st3 _ kk) ?_
  obtain ⟨fs, hr, hrun, hended, hW, hsame⟩ := X3.leave (v := some (.ref b0_3)) (fun h => by rw [Bd.returns] at h; cases h)
  refine oout (oretA X3 hx Bd.returns rfl rfl (hb hby d2_132) hr) hrun hended ⟨_, _, rfl, ?_, ⟨_, rfl⟩, hW, hsame.mono (by decide) (by decide)⟩
  show Q_rm_ap0_0 Z w_Required w_RECEIVED w_NotSupported w_NONE w_RequiresNew w_NEW w_Mandatory w_BeanManaged w_Never w_Supports w_EMPTY  h0 n0 _ T3.heap _
  rw [e3]
  exact ⟨b0_3, rfl, N3, K3, O3, n_b0_3, sz_b0_3, F3_0, F3_1⟩

theorem d2_62 : decode prog_18_method_4_code 62 = .ok (.getstatic 53, 3) := by decide +kernel
theorem d2_65 : decode prog_18_method_4_code 65 = .ok (.goto 62, 3) := by decide +kernel
def Q_rm_ap0_1 (Z : State) (w_Required : Addr) (w_RECEIVED : Addr) (w_NotSupported : Addr) (w_NONE : Addr) (w_RequiresNew : Addr) (w_NEW : Addr) (w_Mandatory : Addr) (w_BeanManaged : Addr) (w_Never : Addr) (w_Supports : Addr) (w_EMPTY : Addr)  (h0 : Heap) (n0 : Nat) (v : Option Value) (h : Heap) (L : List Loc) : Prop := ∃ (b0 : Addr), v = some (.ref b0) ∧ Fr n0 L ∧ Keep h0 h [] ∧ Old Z n0 h ∧ n0 ≤ b0 ∧ h0.size ≤ b0 ∧ Exa Z h b0 "java/util/Optional" ∧ Fld Z h b0 "java/util/Optional" "value" "Ljava/lang/Object;" (.ref w_RECEIVED)
set_option maxRecDepth 65536 in
set_option maxHeartbeats 40000000 in
theorem rm_ap0_1 (l : Launch) (Z : State) (a0 : Array Value) (hw : ∀ d ∈ tables_1, d.before a0 Z = true) (ws : List Jvm.Cond) (w_Required : Addr) (w_RECEIVED : Addr) (w_NotSupported : Addr) (w_NONE : Addr) (w_RequiresNew : Addr) (w_NEW : Addr) (w_Mandatory : Addr) (w_BeanManaged : Addr) (w_Never : Addr) (w_Supports : Addr) (w_EMPTY : Addr)  (h0 : Heap) (n0 : Nat) (O0 : Old Z n0 h0) (hS : St0 Z w_Required w_RECEIVED w_NotSupported w_NONE w_RequiresNew w_NEW w_Mandatory w_BeanManaged w_Never w_Supports w_EMPTY ) :
    MetFree l (⟨"com/example/vorgang/vorgang/model/Policy", "apply", "(Z)Ljava/util/Optional;"⟩ : MethodName) (head1 (Jvm.Cond.code (⟨"com/example/vorgang/vorgang/model/Policy", "apply", "(Z)Ljava/util/Optional;"⟩ : MethodName) prog_18_method_4_code 3 (some (.object "java/util/Optional")) :: ws) ({ frames := 3, cells := 1, slots := 1, locals := 38 } : Room)) (fun aG UG => aG = #[(.ref w_Required), (.int (1 : Int32))] ∧ Z.Warmed39 UG.vm ∧ UG.heap = h0) (fun _ _ _ _ _ => True) (fun _ UG oG UG' => ∃ vG LG, oG = .returned vG ∧ Q_rm_ap0_1 Z w_Required w_RECEIVED w_NotSupported w_NONE w_RequiresNew w_NEW w_Mandatory w_BeanManaged w_Never w_Supports w_EMPTY  h0 n0 vG UG'.heap LG ∧ FrameEnd UG oG UG' LG ({ frames := 3, cells := 1, slots := 1, locals := 38 } : Room).cells ({ frames := 3, cells := 1, slots := 1, locals := 38 } : Room).slots) := by
  refine MetFree.of_bodySF (plainFor_of_name pn_3) hisR ?_
  intro pG eG sG mG argsG belowG methG cG s₁ Bd hml0 hP hK
  obtain ⟨rfl, hZ, hh⟩ := hP
  have hx := Bd.exec
  have hby := Bd.bytes
  have hml : cG.maxLocals = 3 := hml0
  have hown : sG.vm.findClass "com/example/vorgang/vorgang/model/Policy" = some mG.cls := findClass_of_methodNamed Bd.named
  have hnm := (name_of_methodNamed Bd.named Bd.method).1
  have X0 : Stand pG l eG ({ frames := 3, cells := 1, slots := 1, locals := 38 } : Room) sG mG #[(.ref w_Required), (.int (1 : Int32))] belowG methG cG s₁ [] 0 0 := Stand.of_body Bd
  have e0 : s₁.heap = h0 := by rw [← hh, Bd.state]; rfl
  have N0 := Fr.nil n0
  have K0 := Keep.refl h0 []
  obtain ⟨S_w_Required, E_w_Required, S_w_RECEIVED, E_w_RECEIVED, S_w_NotSupported, E_w_NotSupported, S_w_NONE, E_w_NONE, S_w_RequiresNew, E_w_RequiresNew, S_w_NEW, E_w_NEW, S_w_Mandatory, E_w_Mandatory, S_w_BeanManaged, E_w_BeanManaged, S_w_Never, E_w_Never, S_w_Supports, E_w_Supports, S_w_EMPTY, E_w_EMPTY, F_w_Required_ordinal, F_w_NotSupported_ordinal, F_w_RequiresNew_ordinal, F_w_Mandatory_ordinal, F_w_BeanManaged_ordinal, F_w_Never_ordinal, F_w_Supports_ordinal, F_w_EMPTY_value, ne_w_Required_w_NotSupported, ne_w_Required_w_RequiresNew, ne_w_Required_w_Mandatory, ne_w_Required_w_BeanManaged, ne_w_Required_w_Never, ne_w_Required_w_Supports, ne_w_NotSupported_w_RequiresNew, ne_w_NotSupported_w_Mandatory, ne_w_NotSupported_w_BeanManaged, ne_w_NotSupported_w_Never, ne_w_NotSupported_w_Supports, ne_w_RequiresNew_w_Mandatory, ne_w_RequiresNew_w_BeanManaged, ne_w_RequiresNew_w_Never, ne_w_RequiresNew_w_Supports, ne_w_Mandatory_w_BeanManaged, ne_w_Mandatory_w_Never, ne_w_Mandatory_w_Supports, ne_w_BeanManaged_w_Never, ne_w_BeanManaged_w_Supports, ne_w_Never_w_Supports⟩ := (id hS : St0 Z w_Required w_RECEIVED w_NotSupported w_NONE w_RequiresNew w_NEW w_Mandatory w_BeanManaged w_Never w_Supports w_EMPTY )
  refine ostart (g' := (mkF mG 0 #[.val (.ref w_Required), .val (.int (1 : Int32)), .unset] [])) (by first | (simp [entryFrame, mkF, argsToLocals, Value.category]; done) | rfl) ?_
  refine ob s₁ (mkF mG 1 #[.val (.ref w_Required), .val (.int (1 : Int32)), .unset] [(.ref w_Required)]) (fun _ kk => XS.aloadN X0.here hx rfl (hb hby d2_0) rfl rfl kk) ?_
  obtain ⟨cq1, kq1, q1a, q1b, q1c⟩ := isOf hZ e0 (E_w_Required.ext O0.2)
  obtain ⟨_, _, ⟨T1, L1, k1, n1⟩, -, X1, ⟨Lc1, hQ1, l1, y1, z1⟩, st1⟩ := X0.virtualBackUp hx (x := (⟨"com/example/vorgang/vorgang/model/Policy", "ordinal", "()I"⟩ : MethodName)) (y := (⟨"java/lang/Enum", "ordinal", "()I"⟩ : MethodName)) (owner := "java/lang/Enum") hown (mvT hZ (ow hw 13 rfl)) (mvT hZ (ow hw 14 rfl)) (mvT hZ (ow hw 15 rfl)) (by decide) (mvT hZ (ow hw 17 rfl)) (mvT hZ (ow hw 16 rfl)) (backOf (W := 0) (rm_ord_Required l Z a0 hw [] w_Required w_RECEIVED w_NotSupported w_NONE w_RequiresNew w_NEW w_Mandatory w_BeanManaged w_Never w_Supports w_EMPTY  h0 n0 O0 hS ) hZ (ow hw 19 rfl) (ow hw 18 rfl) (by decide) (by decide)) q1a q1c (g := (mkF mG 1 #[.val (.ref w_Required), .val (.int (1 : Int32)), .unset] [(.ref w_Required)])) rfl (by rw [hml]; rfl) (Steps.refl _) (argsL := []) (rest := []) (lenOf pd_1 rfl) rfl (by show 2 * 0 + _ ≤ _; exact Nat.le_of_eq rfl) (hb hby d2_1) (fun _ _ => ⟨rfl, e0, (by decide : 0 + 0 ≤ _), (by decide : 0 + 0 ≤ _)⟩)
  dsimp only [Pt.U, Pt.locs, Pt.cells, Pt.slots] at X1 l1 y1 z1 st1 hQ1
  subst l1 y1 z1
  obtain ⟨rfl, N1q, e1⟩ := hQ1
  have N1 := Fr.app N0 N1q
  refine ob T1 (mkF mG 4 #[.val (.ref w_Required), .val (.int (1 : Int32)), .unset] [(.int (0 : Int32))]) (fun _ kk => st1.trans kk) ?_
  refine ob T1 (mkF mG 58 #[.val (.ref w_Required), .val (.int (1 : Int32)), .unset] []) (fun _ kk => XS.tswIn X1.here hx rfl (pc0 := 4) (pc' := 58) rfl (hb hby d2_4) rfl (by decide) (o := 54) (by decide) (by decide) (by decide) kk) ?_
  refine ob T1 (mkF mG 59 #[.val (.ref w_Required), .val (.int (1 : Int32)), .unset] [(.int (1 : Int32))]) (fun _ kk => XS.iloadN X1.here hx rfl (hb hby d2_58) rfl kk) ?_
  refine ob T1 (mkF mG 62 #[.val (.ref w_Required), .val (.int (1 : Int32)), .unset] []) (fun _ kk => XS.ifNo X1.here hx rfl (hb hby d2_59) rfl ((if0 _ _).trans (feq (by decide : ¬ ((1 : Int32) = (0 : Int32)))).1) kk) ?_
  obtain ⟨T2, X2, e2, st2⟩ := getS2 X1 hx hZ hown (host := "") (Or.inl (ow hw 22 rfl)) Via.refl e1 (S_w_RECEIVED.ext O0.2) (g := (mkF mG 62 #[.val (.ref w_Required), .val (.int (1 : Int32)), .unset] [])) rfl (hb hby d2_62)
  refine ob T2 (mkF mG 65 #[.val (.ref w_Required), .val (.int (1 : Int32)), .unset] [(.ref w_RECEIVED)]) (fun _ kk => st2 _ kk) ?_
  refine ob T2 (mkF mG 127 #[.val (.ref w_Required), .val (.int (1 : Int32)), .unset] [(.ref w_RECEIVED)]) (fun _ kk => XS.goto X2.here hx rfl (pc0 := 65) (pc' := 127) rfl (hb hby d2_65) (by decide) (by decide) kk) ?_
  refine ob T2 (mkF mG 128 #[.val (.ref w_Required), .val (.int (1 : Int32)), .val (.ref w_RECEIVED)] []) (fun _ kk => XS.astoreN X2.here hx rfl (hb hby d2_127) rfl rfl (l' := #[.val (.ref w_Required), .val (.int (1 : Int32)), .val (.ref w_RECEIVED)]) rfl kk) ?_
  refine ob T2 (mkF mG 129 #[.val (.ref w_Required), .val (.int (1 : Int32)), .val (.ref w_RECEIVED)] [(.ref w_RECEIVED)]) (fun _ kk => XS.aloadN X2.here hx rfl (hb hby d2_128) rfl rfl kk) ?_
  obtain ⟨_, _, ⟨T3, L3, k3, n3⟩, -, X3, ⟨Lc3, hQ3, l3, y3, z3⟩, st3⟩ := Jvm.LawKit.callS X2 hx (y := (⟨"java/util/Optional", "ofNullable", "(Ljava/lang/Object;)Ljava/util/Optional;"⟩ : MethodName)) hown (mvT hZ (ow hw 25 rfl)) (mvT hZ (ow hw 26 rfl)) (mvT hZ (ow hw 27 rfl)) (mvT hZ (ow hw 28 rfl)) (by decide) (backOf (W := 0) (rm_onS l Z a0 hw [] w_Required w_RECEIVED w_NotSupported w_NONE w_RequiresNew w_NEW w_Mandatory w_BeanManaged w_Never w_Supports w_EMPTY w_RECEIVED h0 n0 O0 hS ) hZ (ow hw 28 rfl) (ow hw 27 rfl) (by decide) (by decide)) (g := (mkF mG 129 #[.val (.ref w_Required), .val (.int (1 : Int32)), .val (.ref w_RECEIVED)] [(.ref w_RECEIVED)])) rfl (by rw [hml]; rfl) (argsL := [(.ref w_RECEIVED)]) (rest := []) (lenOf pd_2 rfl) rfl (by show 2 * 0 + _ ≤ _; exact Nat.le_of_eq rfl) (hb hby d2_129) (fun _ _ => ⟨rfl, e2, (by decide : 0 + 1 ≤ _), (by decide : 0 + 1 ≤ _)⟩)
  dsimp only [Pt.U, Pt.locs, Pt.cells, Pt.slots] at X3 l3 y3 z3 st3 hQ3
  subst l3 y3 z3
  obtain ⟨h3, e3⟩ : ∃ h, T3.heap = h := ⟨_, rfl⟩
  rw [e3] at hQ3
  obtain ⟨b0_3, rfl, N3q, K3q, O3, n_b0_3, z_b0_3, F3_0, F3_1⟩ := hQ3
  have N3 := Fr.app N1 N3q
  have sz_b0_3 : h0.size ≤ b0_3 := Nat.le_trans K0.1 z_b0_3
  have K3 := K0.trans K3q all0
  refine ob T3 (mkF mG 132 #[.val (.ref w_Required), .val (.int (1 : Int32)), .val (.ref w_RECEIVED)] [(.ref b0_3)]) (fun _ kk => st3 _ kk) ?_
  obtain ⟨fs, hr, hrun, hended, hW, hsame⟩ := X3.leave (v := some (.ref b0_3)) (fun h => by rw [Bd.returns] at h; cases h)
  refine oout (oretA X3 hx Bd.returns rfl rfl (hb hby d2_132) hr) hrun hended ⟨_, _, rfl, ?_, ⟨_, rfl⟩, hW, hsame.mono (by decide) (by decide)⟩
  show Q_rm_ap0_1 Z w_Required w_RECEIVED w_NotSupported w_NONE w_RequiresNew w_NEW w_Mandatory w_BeanManaged w_Never w_Supports w_EMPTY  h0 n0 _ T3.heap _
  rw [e3]
  exact ⟨b0_3, rfl, N3, K3, O3, n_b0_3, sz_b0_3, F3_0, F3_1⟩

theorem d2_74 : decode prog_18_method_4_code 74 = .ok (.getstatic 59, 3) := by decide +kernel
theorem d2_77 : decode prog_18_method_4_code 77 = .ok (.goto 50, 3) := by decide +kernel
def Q_rm_ap1_0 (Z : State) (w_Required : Addr) (w_RECEIVED : Addr) (w_NotSupported : Addr) (w_NONE : Addr) (w_RequiresNew : Addr) (w_NEW : Addr) (w_Mandatory : Addr) (w_BeanManaged : Addr) (w_Never : Addr) (w_Supports : Addr) (w_EMPTY : Addr)  (h0 : Heap) (n0 : Nat) (v : Option Value) (h : Heap) (L : List Loc) : Prop := ∃ (b0 : Addr), v = some (.ref b0) ∧ Fr n0 L ∧ Keep h0 h [] ∧ Old Z n0 h ∧ n0 ≤ b0 ∧ h0.size ≤ b0 ∧ Exa Z h b0 "java/util/Optional" ∧ Fld Z h b0 "java/util/Optional" "value" "Ljava/lang/Object;" (.ref w_NEW)
set_option maxRecDepth 65536 in
set_option maxHeartbeats 40000000 in
theorem rm_ap1_0 (l : Launch) (Z : State) (a0 : Array Value) (hw : ∀ d ∈ tables_1, d.before a0 Z = true) (ws : List Jvm.Cond) (w_Required : Addr) (w_RECEIVED : Addr) (w_NotSupported : Addr) (w_NONE : Addr) (w_RequiresNew : Addr) (w_NEW : Addr) (w_Mandatory : Addr) (w_BeanManaged : Addr) (w_Never : Addr) (w_Supports : Addr) (w_EMPTY : Addr)  (h0 : Heap) (n0 : Nat) (O0 : Old Z n0 h0) (hS : St0 Z w_Required w_RECEIVED w_NotSupported w_NONE w_RequiresNew w_NEW w_Mandatory w_BeanManaged w_Never w_Supports w_EMPTY ) :
    MetFree l (⟨"com/example/vorgang/vorgang/model/Policy", "apply", "(Z)Ljava/util/Optional;"⟩ : MethodName) (head1 (Jvm.Cond.code (⟨"com/example/vorgang/vorgang/model/Policy", "apply", "(Z)Ljava/util/Optional;"⟩ : MethodName) prog_18_method_4_code 3 (some (.object "java/util/Optional")) :: ws) ({ frames := 3, cells := 1, slots := 1, locals := 38 } : Room)) (fun aG UG => aG = #[(.ref w_RequiresNew), (.int (0 : Int32))] ∧ Z.Warmed39 UG.vm ∧ UG.heap = h0) (fun _ _ _ _ _ => True) (fun _ UG oG UG' => ∃ vG LG, oG = .returned vG ∧ Q_rm_ap1_0 Z w_Required w_RECEIVED w_NotSupported w_NONE w_RequiresNew w_NEW w_Mandatory w_BeanManaged w_Never w_Supports w_EMPTY  h0 n0 vG UG'.heap LG ∧ FrameEnd UG oG UG' LG ({ frames := 3, cells := 1, slots := 1, locals := 38 } : Room).cells ({ frames := 3, cells := 1, slots := 1, locals := 38 } : Room).slots) := by
  refine MetFree.of_bodySF (plainFor_of_name pn_3) hisR ?_
  intro pG eG sG mG argsG belowG methG cG s₁ Bd hml0 hP hK
  obtain ⟨rfl, hZ, hh⟩ := hP
  have hx := Bd.exec
  have hby := Bd.bytes
  have hml : cG.maxLocals = 3 := hml0
  have hown : sG.vm.findClass "com/example/vorgang/vorgang/model/Policy" = some mG.cls := findClass_of_methodNamed Bd.named
  have hnm := (name_of_methodNamed Bd.named Bd.method).1
  have X0 : Stand pG l eG ({ frames := 3, cells := 1, slots := 1, locals := 38 } : Room) sG mG #[(.ref w_RequiresNew), (.int (0 : Int32))] belowG methG cG s₁ [] 0 0 := Stand.of_body Bd
  have e0 : s₁.heap = h0 := by rw [← hh, Bd.state]; rfl
  have N0 := Fr.nil n0
  have K0 := Keep.refl h0 []
  obtain ⟨S_w_Required, E_w_Required, S_w_RECEIVED, E_w_RECEIVED, S_w_NotSupported, E_w_NotSupported, S_w_NONE, E_w_NONE, S_w_RequiresNew, E_w_RequiresNew, S_w_NEW, E_w_NEW, S_w_Mandatory, E_w_Mandatory, S_w_BeanManaged, E_w_BeanManaged, S_w_Never, E_w_Never, S_w_Supports, E_w_Supports, S_w_EMPTY, E_w_EMPTY, F_w_Required_ordinal, F_w_NotSupported_ordinal, F_w_RequiresNew_ordinal, F_w_Mandatory_ordinal, F_w_BeanManaged_ordinal, F_w_Never_ordinal, F_w_Supports_ordinal, F_w_EMPTY_value, ne_w_Required_w_NotSupported, ne_w_Required_w_RequiresNew, ne_w_Required_w_Mandatory, ne_w_Required_w_BeanManaged, ne_w_Required_w_Never, ne_w_Required_w_Supports, ne_w_NotSupported_w_RequiresNew, ne_w_NotSupported_w_Mandatory, ne_w_NotSupported_w_BeanManaged, ne_w_NotSupported_w_Never, ne_w_NotSupported_w_Supports, ne_w_RequiresNew_w_Mandatory, ne_w_RequiresNew_w_BeanManaged, ne_w_RequiresNew_w_Never, ne_w_RequiresNew_w_Supports, ne_w_Mandatory_w_BeanManaged, ne_w_Mandatory_w_Never, ne_w_Mandatory_w_Supports, ne_w_BeanManaged_w_Never, ne_w_BeanManaged_w_Supports, ne_w_Never_w_Supports⟩ := (id hS : St0 Z w_Required w_RECEIVED w_NotSupported w_NONE w_RequiresNew w_NEW w_Mandatory w_BeanManaged w_Never w_Supports w_EMPTY )
  refine ostart (g' := (mkF mG 0 #[.val (.ref w_RequiresNew), .val (.int (0 : Int32)), .unset] [])) (by first | (simp [entryFrame, mkF, argsToLocals, Value.category]; done) | rfl) ?_
  refine ob s₁ (mkF mG 1 #[.val (.ref w_RequiresNew), .val (.int (0 : Int32)), .unset] [(.ref w_RequiresNew)]) (fun _ kk => XS.aloadN X0.here hx rfl (hb hby d2_0) rfl rfl kk) ?_
  obtain ⟨cq1, kq1, q1a, q1b, q1c⟩ := isOf hZ e0 (E_w_RequiresNew.ext O0.2)
  obtain ⟨_, _, ⟨T1, L1, k1, n1⟩, -, X1, ⟨Lc1, hQ1, l1, y1, z1⟩, st1⟩ := X0.virtualBackUp hx (x := (⟨"com/example/vorgang/vorgang/model/Policy", "ordinal", "()I"⟩ : MethodName)) (y := (⟨"java/lang/Enum", "ordinal", "()I"⟩ : MethodName)) (owner := "java/lang/Enum") hown (mvT hZ (ow hw 13 rfl)) (mvT hZ (ow hw 14 rfl)) (mvT hZ (ow hw 15 rfl)) (by decide) (mvT hZ (ow hw 17 rfl)) (mvT hZ (ow hw 16 rfl)) (backOf (W := 0) (rm_ord_RequiresNew l Z a0 hw [] w_Required w_RECEIVED w_NotSupported w_NONE w_RequiresNew w_NEW w_Mandatory w_BeanManaged w_Never w_Supports w_EMPTY  h0 n0 O0 hS ) hZ (ow hw 19 rfl) (ow hw 18 rfl) (by decide) (by decide)) q1a q1c (g := (mkF mG 1 #[.val (.ref w_RequiresNew), .val (.int (0 : Int32)), .unset] [(.ref w_RequiresNew)])) rfl (by rw [hml]; rfl) (Steps.refl _) (argsL := []) (rest := []) (lenOf pd_1 rfl) rfl (by show 2 * 0 + _ ≤ _; exact Nat.le_of_eq rfl) (hb hby d2_1) (fun _ _ => ⟨rfl, e0, (by decide : 0 + 0 ≤ _), (by decide : 0 + 0 ≤ _)⟩)
  dsimp only [Pt.U, Pt.locs, Pt.cells, Pt.slots] at X1 l1 y1 z1 st1 hQ1
  subst l1 y1 z1
  obtain ⟨rfl, N1q, e1⟩ := hQ1
  have N1 := Fr.app N0 N1q
  refine ob T1 (mkF mG 4 #[.val (.ref w_RequiresNew), .val (.int (0 : Int32)), .unset] [(.int (1 : Int32))]) (fun _ kk => st1.trans kk) ?_
  refine ob T1 (mkF mG 74 #[.val (.ref w_RequiresNew), .val (.int (0 : Int32)), .unset] []) (fun _ kk => XS.tswIn X1.here hx rfl (pc0 := 4) (pc' := 74) rfl (hb hby d2_4) rfl (by decide) (o := 70) (by decide) (by decide) (by decide) kk) ?_
  obtain ⟨T2, X2, e2, st2⟩ := getS2 X1 hx hZ hown (host := "") (Or.inl (ow hw 58 rfl)) Via.refl e1 (S_w_NEW.ext O0.2) (g := (mkF mG 74 #[.val (.ref w_RequiresNew), .val (.int (0 : Int32)), .unset] [])) rfl (hb hby d2_74)
  refine ob T2 (mkF mG 77 #[.val (.ref w_RequiresNew), .val (.int (0 : Int32)), .unset] [(.ref w_NEW)]) (fun _ kk => st2 _ kk) ?_
  refine ob T2 (mkF mG 127 #[.val (.ref w_RequiresNew), .val (.int (0 : Int32)), .unset] [(.ref w_NEW)]) (fun _ kk => XS.goto X2.here hx rfl (pc0 := 77) (pc' := 127) rfl (hb hby d2_77) (by decide) (by decide) kk) ?_
  refine ob T2 (mkF mG 128 #[.val (.ref w_RequiresNew), .val (.int (0 : Int32)), .val (.ref w_NEW)] []) (fun _ kk => XS.astoreN X2.here hx rfl (hb hby d2_127) rfl rfl (l' := #[.val (.ref w_RequiresNew), .val (.int (0 : Int32)), .val (.ref w_NEW)]) rfl kk) ?_
  refine ob T2 (mkF mG 129 #[.val (.ref w_RequiresNew), .val (.int (0 : Int32)), .val (.ref w_NEW)] [(.ref w_NEW)]) (fun _ kk => XS.aloadN X2.here hx rfl (hb hby d2_128) rfl rfl kk) ?_
  obtain ⟨_, _, ⟨T3, L3, k3, n3⟩, -, X3, ⟨Lc3, hQ3, l3, y3, z3⟩, st3⟩ := Jvm.LawKit.callS X2 hx (y := (⟨"java/util/Optional", "ofNullable", "(Ljava/lang/Object;)Ljava/util/Optional;"⟩ : MethodName)) hown (mvT hZ (ow hw 25 rfl)) (mvT hZ (ow hw 26 rfl)) (mvT hZ (ow hw 27 rfl)) (mvT hZ (ow hw 28 rfl)) (by decide) (backOf (W := 0) (rm_onS l Z a0 hw [] w_Required w_RECEIVED w_NotSupported w_NONE w_RequiresNew w_NEW w_Mandatory w_BeanManaged w_Never w_Supports w_EMPTY w_NEW h0 n0 O0 hS ) hZ (ow hw 28 rfl) (ow hw 27 rfl) (by decide) (by decide)) (g := (mkF mG 129 #[.val (.ref w_RequiresNew), .val (.int (0 : Int32)), .val (.ref w_NEW)] [(.ref w_NEW)])) rfl (by rw [hml]; rfl) (argsL := [(.ref w_NEW)]) (rest := []) (lenOf pd_2 rfl) rfl (by show 2 * 0 + _ ≤ _; exact Nat.le_of_eq rfl) (hb hby d2_129) (fun _ _ => ⟨rfl, e2, (by decide : 0 + 1 ≤ _), (by decide : 0 + 1 ≤ _)⟩)
  dsimp only [Pt.U, Pt.locs, Pt.cells, Pt.slots] at X3 l3 y3 z3 st3 hQ3
  subst l3 y3 z3
  obtain ⟨h3, e3⟩ : ∃ h, T3.heap = h := ⟨_, rfl⟩
  rw [e3] at hQ3
  obtain ⟨b0_3, rfl, N3q, K3q, O3, n_b0_3, z_b0_3, F3_0, F3_1⟩ := hQ3
  have N3 := Fr.app N1 N3q
  have sz_b0_3 : h0.size ≤ b0_3 := Nat.le_trans K0.1 z_b0_3
  have K3 := K0.trans K3q all0
  refine ob T3 (mkF mG 132 #[.val (.ref w_RequiresNew), .val (.int (0 : Int32)), .val (.ref w_NEW)] [(.ref b0_3)]) (fun _ kk => st3 _ kk) ?_
  obtain ⟨fs, hr, hrun, hended, hW, hsame⟩ := X3.leave (v := some (.ref b0_3)) (fun h => by rw [Bd.returns] at h; cases h)
  refine oout (oretA X3 hx Bd.returns rfl rfl (hb hby d2_132) hr) hrun hended ⟨_, _, rfl, ?_, ⟨_, rfl⟩, hW, hsame.mono (by decide) (by decide)⟩
  show Q_rm_ap1_0 Z w_Required w_RECEIVED w_NotSupported w_NONE w_RequiresNew w_NEW w_Mandatory w_BeanManaged w_Never w_Supports w_EMPTY  h0 n0 _ T3.heap _
  rw [e3]
  exact ⟨b0_3, rfl, N3, K3, O3, n_b0_3, sz_b0_3, F3_0, F3_1⟩

def Q_rm_ap1_1 (Z : State) (w_Required : Addr) (w_RECEIVED : Addr) (w_NotSupported : Addr) (w_NONE : Addr) (w_RequiresNew : Addr) (w_NEW : Addr) (w_Mandatory : Addr) (w_BeanManaged : Addr) (w_Never : Addr) (w_Supports : Addr) (w_EMPTY : Addr)  (h0 : Heap) (n0 : Nat) (v : Option Value) (h : Heap) (L : List Loc) : Prop := ∃ (b0 : Addr), v = some (.ref b0) ∧ Fr n0 L ∧ Keep h0 h [] ∧ Old Z n0 h ∧ n0 ≤ b0 ∧ h0.size ≤ b0 ∧ Exa Z h b0 "java/util/Optional" ∧ Fld Z h b0 "java/util/Optional" "value" "Ljava/lang/Object;" (.ref w_NEW)
set_option maxRecDepth 65536 in
set_option maxHeartbeats 40000000 in
theorem rm_ap1_1 (l : Launch) (Z : State) (a0 : Array Value) (hw : ∀ d ∈ tables_1, d.before a0 Z = true) (ws : List Jvm.Cond) (w_Required : Addr) (w_RECEIVED : Addr) (w_NotSupported : Addr) (w_NONE : Addr) (w_RequiresNew : Addr) (w_NEW : Addr) (w_Mandatory : Addr) (w_BeanManaged : Addr) (w_Never : Addr) (w_Supports : Addr) (w_EMPTY : Addr)  (h0 : Heap) (n0 : Nat) (O0 : Old Z n0 h0) (hS : St0 Z w_Required w_RECEIVED w_NotSupported w_NONE w_RequiresNew w_NEW w_Mandatory w_BeanManaged w_Never w_Supports w_EMPTY ) :
    MetFree l (⟨"com/example/vorgang/vorgang/model/Policy", "apply", "(Z)Ljava/util/Optional;"⟩ : MethodName) (head1 (Jvm.Cond.code (⟨"com/example/vorgang/vorgang/model/Policy", "apply", "(Z)Ljava/util/Optional;"⟩ : MethodName) prog_18_method_4_code 3 (some (.object "java/util/Optional")) :: ws) ({ frames := 3, cells := 1, slots := 1, locals := 38 } : Room)) (fun aG UG => aG = #[(.ref w_RequiresNew), (.int (1 : Int32))] ∧ Z.Warmed39 UG.vm ∧ UG.heap = h0) (fun _ _ _ _ _ => True) (fun _ UG oG UG' => ∃ vG LG, oG = .returned vG ∧ Q_rm_ap1_1 Z w_Required w_RECEIVED w_NotSupported w_NONE w_RequiresNew w_NEW w_Mandatory w_BeanManaged w_Never w_Supports w_EMPTY  h0 n0 vG UG'.heap LG ∧ FrameEnd UG oG UG' LG ({ frames := 3, cells := 1, slots := 1, locals := 38 } : Room).cells ({ frames := 3, cells := 1, slots := 1, locals := 38 } : Room).slots) := by
  refine MetFree.of_bodySF (plainFor_of_name pn_3) hisR ?_
  intro pG eG sG mG argsG belowG methG cG s₁ Bd hml0 hP hK
  obtain ⟨rfl, hZ, hh⟩ := hP
  have hx := Bd.exec
  have hby := Bd.bytes
  have hml : cG.maxLocals = 3 := hml0
  have hown : sG.vm.findClass "com/example/vorgang/vorgang/model/Policy" = some mG.cls := findClass_of_methodNamed Bd.named
  have hnm := (name_of_methodNamed Bd.named Bd.method).1
  have X0 : Stand pG l eG ({ frames := 3, cells := 1, slots := 1, locals := 38 } : Room) sG mG #[(.ref w_RequiresNew), (.int (1 : Int32))] belowG methG cG s₁ [] 0 0 := Stand.of_body Bd
  have e0 : s₁.heap = h0 := by rw [← hh, Bd.state]; rfl
  have N0 := Fr.nil n0
  have K0 := Keep.refl h0 []
  obtain ⟨S_w_Required, E_w_Required, S_w_RECEIVED, E_w_RECEIVED, S_w_NotSupported, E_w_NotSupported, S_w_NONE, E_w_NONE, S_w_RequiresNew, E_w_RequiresNew, S_w_NEW, E_w_NEW, S_w_Mandatory, E_w_Mandatory, S_w_BeanManaged, E_w_BeanManaged, S_w_Never, E_w_Never, S_w_Supports, E_w_Supports, S_w_EMPTY, E_w_EMPTY, F_w_Required_ordinal, F_w_NotSupported_ordinal, F_w_RequiresNew_ordinal, F_w_Mandatory_ordinal, F_w_BeanManaged_ordinal, F_w_Never_ordinal, F_w_Supports_ordinal, F_w_EMPTY_value, ne_w_Required_w_NotSupported, ne_w_Required_w_RequiresNew, ne_w_Required_w_Mandatory, ne_w_Required_w_BeanManaged, ne_w_Required_w_Never, ne_w_Required_w_Supports, ne_w_NotSupported_w_RequiresNew, ne_w_NotSupported_w_Mandatory, ne_w_NotSupported_w_BeanManaged, ne_w_NotSupported_w_Never, ne_w_NotSupported_w_Supports, ne_w_RequiresNew_w_Mandatory, ne_w_RequiresNew_w_BeanManaged, ne_w_RequiresNew_w_Never, ne_w_RequiresNew_w_Supports, ne_w_Mandatory_w_BeanManaged, ne_w_Mandatory_w_Never, ne_w_Mandatory_w_Supports, ne_w_BeanManaged_w_Never, ne_w_BeanManaged_w_Supports, ne_w_Never_w_Supports⟩ := (id hS : St0 Z w_Required w_RECEIVED w_NotSupported w_NONE w_RequiresNew w_NEW w_Mandatory w_BeanManaged w_Never w_Supports w_EMPTY )
  refine ostart (g' := (mkF mG 0 #[.val (.ref w_RequiresNew), .val (.int (1 : Int32)), .unset] [])) (by first | (simp [entryFrame, mkF, argsToLocals, Value.category]; done) | rfl) ?_
  refine ob s₁ (mkF mG 1 #[.val (.ref w_RequiresNew), .val (.int (1 : Int32)), .unset] [(.ref w_RequiresNew)]) (fun _ kk => XS.aloadN X0.here hx rfl (hb hby d2_0) rfl rfl kk) ?_
  obtain ⟨cq1, kq1, q1a, q1b, q1c⟩ := isOf hZ e0 (E_w_RequiresNew.ext O0.2)
  obtain ⟨_, _, ⟨T1, L1, k1, n1⟩, -, X1, ⟨Lc1, hQ1, l1, y1, z1⟩, st1⟩ := X0.virtualBackUp hx (x := (⟨"com/example/vorgang/vorgang/model/Policy", "ordinal", "()I"⟩ : MethodName)) (y := (⟨"java/lang/Enum", "ordinal", "()I"⟩ : MethodName)) (owner := "java/lang/Enum") hown (mvT hZ (ow hw 13 rfl)) (mvT hZ (ow hw 14 rfl)) (mvT hZ (ow hw 15 rfl)) (by decide) (mvT hZ (ow hw 17 rfl)) (mvT hZ (ow hw 16 rfl)) (backOf (W := 0) (rm_ord_RequiresNew l Z a0 hw [] w_Required w_RECEIVED w_NotSupported w_NONE w_RequiresNew w_NEW w_Mandatory w_BeanManaged w_Never w_Supports w_EMPTY  h0 n0 O0 hS ) hZ (ow hw 19 rfl) (ow hw 18 rfl) (by decide) (by decide)) q1a q1c (g := (mkF mG 1 #[.val (.ref w_RequiresNew), .val (.int (1 : Int32)), .unset] [(.ref w_RequiresNew)])) rfl (by rw [hml]; rfl) (Steps.refl _) (argsL := []) (rest := []) (lenOf pd_1 rfl) rfl (by show 2 * 0 + _ ≤ _; exact Nat.le_of_eq rfl) (hb hby d2_1) (fun _ _ => ⟨rfl, e0, (by decide : 0 + 0 ≤ _), (by decide : 0 + 0 ≤ _)⟩)
  dsimp only [Pt.U, Pt.locs, Pt.cells, Pt.slots] at X1 l1 y1 z1 st1 hQ1
  subst l1 y1 z1
  obtain ⟨rfl, N1q, e1⟩ := hQ1
  have N1 := Fr.app N0 N1q
  refine ob T1 (mkF mG 4 #[.val (.ref w_RequiresNew), .val (.int (1 : Int32)), .unset] [(.int (1 : Int32))]) (fun _ kk => st1.trans kk) ?_
  refine ob T1 (mkF mG 74 #[.val (.ref w_RequiresNew), .val (.int (1 : Int32)), .unset] []) (fun _ kk => XS.tswIn X1.here hx rfl (pc0 := 4) (pc' := 74) rfl (hb hby d2_4) rfl (by decide) (o := 70) (by decide) (by decide) (by decide) kk) ?_
  obtain ⟨T2, X2, e2, st2⟩ := getS2 X1 hx hZ hown (host := "") (Or.inl (ow hw 58 rfl)) Via.refl e1 (S_w_NEW.ext O0.2) (g := (mkF mG 74 #[.val (.ref w_RequiresNew), .val (.int (1 : Int32)), .unset] [])) rfl (hb hby d2_74)
  refine ob T2 (mkF mG 77 #[.val (.ref w_RequiresNew), .val (.int (1 : Int32)), .unset] [(.ref w_NEW)]) (fun _ kk => st2 _ kk) ?_
  refine ob T2 (mkF mG 127 #[.val (.ref w_RequiresNew), .val (.int (1 : Int32)), .unset] [(.ref w_NEW)]) (fun _ kk => XS.goto X2.here hx rfl (pc0 := 77) (pc' := 127) rfl (hb hby d2_77) (by decide) (by decide) kk) ?_
  refine ob T2 (mkF mG 128 #[.val (.ref w_RequiresNew), .val (.int (1 : Int32)), .val (.ref w_NEW)] []) (fun _ kk => XS.astoreN X2.here hx rfl (hb hby d2_127) rfl rfl (l' := #[.val (.ref w_RequiresNew), .val (.int (1 : Int32)), .val (.ref w_NEW)]) rfl kk) ?_
  refine ob T2 (mkF mG 129 #[.val (.ref w_RequiresNew), .val (.int (1 : Int32)), .val (.ref w_NEW)] [(.ref w_NEW)]) (fun _ kk => XS.aloadN X2.here hx rfl (hb hby d2_128) rfl rfl kk) ?_
  obtain ⟨_, _, ⟨T3, L3, k3, n3⟩, -, X3, ⟨Lc3, hQ3, l3, y3, z3⟩, st3⟩ := Jvm.LawKit.callS X2 hx (y := (⟨"java/util/Optional", "ofNullable", "(Ljava/lang/Object;)Ljava/util/Optional;"⟩ : MethodName)) hown (mvT hZ (ow hw 25 rfl)) (mvT hZ (ow hw 26 rfl)) (mvT hZ (ow hw 27 rfl)) (mvT hZ (ow hw 28 rfl)) (by decide) (backOf (W := 0) (rm_onS l Z a0 hw [] w_Required w_RECEIVED w_NotSupported w_NONE w_RequiresNew w_NEW w_Mandatory w_BeanManaged w_Never w_Supports w_EMPTY w_NEW h0 n0 O0 hS ) hZ (ow hw 28 rfl) (ow hw 27 rfl) (by decide) (by decide)) (g := (mkF mG 129 #[.val (.ref w_RequiresNew), .val (.int (1 : Int32)), .val (.ref w_NEW)] [(.ref w_NEW)])) rfl (by rw [hml]; rfl) (argsL := [(.ref w_NEW)]) (rest := []) (lenOf pd_2 rfl) rfl (by show 2 * 0 + _ ≤ _; exact Nat.le_of_eq rfl) (hb hby d2_129) (fun _ _ => ⟨rfl, e2, (by decide : 0 + 1 ≤ _), (by decide : 0 + 1 ≤ _)⟩)
  dsimp only [Pt.U, Pt.locs, Pt.cells, Pt.slots] at X3 l3 y3 z3 st3 hQ3
  subst l3 y3 z3
  obtain ⟨h3, e3⟩ : ∃ h, T3.heap = h := ⟨_, rfl⟩
  rw [e3] at hQ3
  obtain ⟨b0_3, rfl, N3q, K3q, O3, n_b0_3, z_b0_3, F3_0, F3_1⟩ := hQ3
  have N3 := Fr.app N1 N3q
  have sz_b0_3 : h0.size ≤ b0_3 := Nat.le_trans K0.1 z_b0_3
  have K3 := K0.trans K3q all0
  refine ob T3 (mkF mG 132 #[.val (.ref w_RequiresNew), .val (.int (1 : Int32)), .val (.ref w_NEW)] [(.ref b0_3)]) (fun _ kk => st3 _ kk) ?_
  obtain ⟨fs, hr, hrun, hended, hW, hsame⟩ := X3.leave (v := some (.ref b0_3)) (fun h => by rw [Bd.returns] at h; cases h)
  refine oout (oretA X3 hx Bd.returns rfl rfl (hb hby d2_132) hr) hrun hended ⟨_, _, rfl, ?_, ⟨_, rfl⟩, hW, hsame.mono (by decide) (by decide)⟩
  show Q_rm_ap1_1 Z w_Required w_RECEIVED w_NotSupported w_NONE w_RequiresNew w_NEW w_Mandatory w_BeanManaged w_Never w_Supports w_EMPTY  h0 n0 _ T3.heap _
  rw [e3]
  exact ⟨b0_3, rfl, N3, K3, O3, n_b0_3, sz_b0_3, F3_0, F3_1⟩

theorem d2_80 : decode prog_18_method_4_code 80 = .ok (.iload_n 1, 1) := by decide +kernel
theorem d2_81 : decode prog_18_method_4_code 81 = .ok (.ifCond .eq 9, 3) := by decide +kernel
theorem d2_90 : decode prog_18_method_4_code 90 = .ok (.getstatic 62, 3) := by decide +kernel
theorem d2_93 : decode prog_18_method_4_code 93 = .ok (.goto 34, 3) := by decide +kernel
def Q_rm_ap2_0 (Z : State) (w_Required : Addr) (w_RECEIVED : Addr) (w_NotSupported : Addr) (w_NONE : Addr) (w_RequiresNew : Addr) (w_NEW : Addr) (w_Mandatory : Addr) (w_BeanManaged : Addr) (w_Never : Addr) (w_Supports : Addr) (w_EMPTY : Addr)  (h0 : Heap) (n0 : Nat) (v : Option Value) (h : Heap) (L : List Loc) : Prop := ∃ (b0 : Addr), v = some (.ref b0) ∧ Fr n0 L ∧ Keep h0 h [] ∧ Old Z n0 h ∧ n0 ≤ b0 ∧ h0.size ≤ b0 ∧ Exa Z h b0 "java/util/Optional" ∧ Fld Z h b0 "java/util/Optional" "value" "Ljava/lang/Object;" (.ref w_NONE)
set_option maxRecDepth 65536 in
set_option maxHeartbeats 40000000 in
theorem rm_ap2_0 (l : Launch) (Z : State) (a0 : Array Value) (hw : ∀ d ∈ tables_1, d.before a0 Z = true) (ws : List Jvm.Cond) (w_Required : Addr) (w_RECEIVED : Addr) (w_NotSupported : Addr) (w_NONE : Addr) (w_RequiresNew : Addr) (w_NEW : Addr) (w_Mandatory : Addr) (w_BeanManaged : Addr) (w_Never : Addr) (w_Supports : Addr) (w_EMPTY : Addr)  (h0 : Heap) (n0 : Nat) (O0 : Old Z n0 h0) (hS : St0 Z w_Required w_RECEIVED w_NotSupported w_NONE w_RequiresNew w_NEW w_Mandatory w_BeanManaged w_Never w_Supports w_EMPTY ) :
    MetFree l (⟨"com/example/vorgang/vorgang/model/Policy", "apply", "(Z)Ljava/util/Optional;"⟩ : MethodName) (head1 (Jvm.Cond.code (⟨"com/example/vorgang/vorgang/model/Policy", "apply", "(Z)Ljava/util/Optional;"⟩ : MethodName) prog_18_method_4_code 3 (some (.object "java/util/Optional")) :: ws) ({ frames := 3, cells := 1, slots := 1, locals := 38 } : Room)) (fun aG UG => aG = #[(.ref w_Supports), (.int (0 : Int32))] ∧ Z.Warmed39 UG.vm ∧ UG.heap = h0) (fun _ _ _ _ _ => True) (fun _ UG oG UG' => ∃ vG LG, oG = .returned vG ∧ Q_rm_ap2_0 Z w_Required w_RECEIVED w_NotSupported w_NONE w_RequiresNew w_NEW w_Mandatory w_BeanManaged w_Never w_Supports w_EMPTY  h0 n0 vG UG'.heap LG ∧ FrameEnd UG oG UG' LG ({ frames := 3, cells := 1, slots := 1, locals := 38 } : Room).cells ({ frames := 3, cells := 1, slots := 1, locals := 38 } : Room).slots) := by
  refine MetFree.of_bodySF (plainFor_of_name pn_3) hisR ?_
  intro pG eG sG mG argsG belowG methG cG s₁ Bd hml0 hP hK
  obtain ⟨rfl, hZ, hh⟩ := hP
  have hx := Bd.exec
  have hby := Bd.bytes
  have hml : cG.maxLocals = 3 := hml0
  have hown : sG.vm.findClass "com/example/vorgang/vorgang/model/Policy" = some mG.cls := findClass_of_methodNamed Bd.named
  have hnm := (name_of_methodNamed Bd.named Bd.method).1
  have X0 : Stand pG l eG ({ frames := 3, cells := 1, slots := 1, locals := 38 } : Room) sG mG #[(.ref w_Supports), (.int (0 : Int32))] belowG methG cG s₁ [] 0 0 := Stand.of_body Bd
  have e0 : s₁.heap = h0 := by rw [← hh, Bd.state]; rfl
  have N0 := Fr.nil n0
  have K0 := Keep.refl h0 []
  obtain ⟨S_w_Required, E_w_Required, S_w_RECEIVED, E_w_RECEIVED, S_w_NotSupported, E_w_NotSupported, S_w_NONE, E_w_NONE, S_w_RequiresNew, E_w_RequiresNew, S_w_NEW, E_w_NEW, S_w_Mandatory, E_w_Mandatory, S_w_BeanManaged, E_w_BeanManaged, S_w_Never, E_w_Never, S_w_Supports, E_w_Supports, S_w_EMPTY, E_w_EMPTY, F_w_Required_ordinal, F_w_NotSupported_ordinal, F_w_RequiresNew_ordinal, F_w_Mandatory_ordinal, F_w_BeanManaged_ordinal, F_w_Never_ordinal, F_w_Supports_ordinal, F_w_EMPTY_value, ne_w_Required_w_NotSupported, ne_w_Required_w_RequiresNew, ne_w_Required_w_Mandatory, ne_w_Required_w_BeanManaged, ne_w_Required_w_Never, ne_w_Required_w_Supports, ne_w_NotSupported_w_RequiresNew, ne_w_NotSupported_w_Mandatory, ne_w_NotSupported_w_BeanManaged, ne_w_NotSupported_w_Never, ne_w_NotSupported_w_Supports, ne_w_RequiresNew_w_Mandatory, ne_w_RequiresNew_w_BeanManaged, ne_w_RequiresNew_w_Never, ne_w_RequiresNew_w_Supports, ne_w_Mandatory_w_BeanManaged, ne_w_Mandatory_w_Never, ne_w_Mandatory_w_Supports, ne_w_BeanManaged_w_Never, ne_w_BeanManaged_w_Supports, ne_w_Never_w_Supports⟩ := (id hS : St0 Z w_Required w_RECEIVED w_NotSupported w_NONE w_RequiresNew w_NEW w_Mandatory w_BeanManaged w_Never w_Supports w_EMPTY )
  refine ostart (g' := (mkF mG 0 #[.val (.ref w_Supports), .val (.int (0 : Int32)), .unset] [])) (by first | (simp [entryFrame, mkF, argsToLocals, Value.category]; done) | rfl) ?_
  refine ob s₁ (mkF mG 1 #[.val (.ref w_Supports), .val (.int (0 : Int32)), .unset] [(.ref w_Supports)]) (fun _ kk => XS.aloadN X0.here hx rfl (hb hby d2_0) rfl rfl kk) ?_
  obtain ⟨cq1, kq1, q1a, q1b, q1c⟩ := isOf hZ e0 (E_w_Supports.ext O0.2)
  obtain ⟨_, _, ⟨T1, L1, k1, n1⟩, -, X1, ⟨Lc1, hQ1, l1, y1, z1⟩, st1⟩ := X0.virtualBackUp hx (x := (⟨"com/example/vorgang/vorgang/model/Policy", "ordinal", "()I"⟩ : MethodName)) (y := (⟨"java/lang/Enum", "ordinal", "()I"⟩ : MethodName)) (owner := "java/lang/Enum") hown (mvT hZ (ow hw 13 rfl)) (mvT hZ (ow hw 14 rfl)) (mvT hZ (ow hw 15 rfl)) (by decide) (mvT hZ (ow hw 17 rfl)) (mvT hZ (ow hw 16 rfl)) (backOf (W := 0) (rm_ord_Supports l Z a0 hw [] w_Required w_RECEIVED w_NotSupported w_NONE w_RequiresNew w_NEW w_Mandatory w_BeanManaged w_Never w_Supports w_EMPTY  h0 n0 O0 hS ) hZ (ow hw 19 rfl) (ow hw 18 rfl) (by decide) (by decide)) q1a q1c (g := (mkF mG 1 #[.val (.ref w_Supports), .val (.int (0 : Int32)), .unset] [(.ref w_Supports)])) rfl (by rw [hml]; rfl) (Steps.refl _) (argsL := []) (rest := []) (lenOf pd_1 rfl) rfl (by show 2 * 0 + _ ≤ _; exact Nat.le_of_eq rfl) (hb hby d2_1) (fun _ _ => ⟨rfl, e0, (by decide : 0 + 0 ≤ _), (by decide : 0 + 0 ≤ _)⟩)
  dsimp only [Pt.U, Pt.locs, Pt.cells, Pt.slots] at X1 l1 y1 z1 st1 hQ1
  subst l1 y1 z1
  obtain ⟨rfl, N1q, e1⟩ := hQ1
  have N1 := Fr.app N0 N1q
  refine ob T1 (mkF mG 4 #[.val (.ref w_Supports), .val (.int (0 : Int32)), .unset] [(.int (2 : Int32))]) (fun _ kk => st1.trans kk) ?_
  refine ob T1 (mkF mG 80 #[.val (.ref w_Supports), .val (.int (0 : Int32)), .unset] []) (fun _ kk => XS.tswIn X1.here hx rfl (pc0 := 4) (pc' := 80) rfl (hb hby d2_4) rfl (by decide) (o := 76) (by decide) (by decide) (by decide) kk) ?_
  refine ob T1 (mkF mG 81 #[.val (.ref w_Supports), .val (.int (0 : Int32)), .unset] [(.int (0 : Int32))]) (fun _ kk => XS.iloadN X1.here hx rfl (hb hby d2_80) rfl kk) ?_
  refine ob T1 (mkF mG 90 #[.val (.ref w_Supports), .val (.int (0 : Int32)), .unset] []) (fun _ kk => XS.ifYes X1.here hx rfl (pc0 := 81) (pc' := 90) rfl (hb hby d2_81) rfl ((if0 _ _).trans (teq (by decide : (0 : Int32) = (0 : Int32))).1) (by decide) (by decide) kk) ?_
  obtain ⟨T2, X2, e2, st2⟩ := getS2 X1 hx hZ hown (host := "") (Or.inl (ow hw 53 rfl)) Via.refl e1 (S_w_NONE.ext O0.2) (g := (mkF mG 90 #[.val (.ref w_Supports), .val (.int (0 : Int32)), .unset] [])) rfl (hb hby d2_90)
  refine ob T2 (mkF mG 93 #[.val (.ref w_Supports), .val (.int (0 : Int32)), .unset] [(.ref w_NONE)]) (fun _ kk => st2 _ kk) ?_
  refine ob T2 (mkF mG 127 #[.val (.ref w_Supports), .val (.int (0 : Int32)), .unset] [(.ref w_NONE)]) (fun _ kk => XS.goto X2.here hx rfl (pc0 := 93) (pc' := 127) rfl (hb hby d2_93) (by decide) (by decide) kk) ?_
  refine ob T2 (mkF mG 128 #[.val (.ref w_Supports), .val (.int (0 : Int32)), .val (.ref w_NONE)] []) (fun _ kk => XS.astoreN X2.here hx rfl (hb hby d2_127) rfl rfl (l' := #[.val (.ref w_Supports), .val (.int (0 : Int32)), .val (.ref w_NONE)]) rfl kk) ?_
  refine ob T2 (mkF mG 129 #[.val (.ref w_Supports), .val (.int (0 : Int32)), .val (.ref w_NONE)] [(.ref w_NONE)]) (fun _ kk => XS.aloadN X2.here hx rfl (hb hby d2_128) rfl rfl kk) ?_
  obtain ⟨_, _, ⟨T3, L3, k3, n3⟩, -, X3, ⟨Lc3, hQ3, l3, y3, z3⟩, st3⟩ := Jvm.LawKit.callS X2 hx (y := (⟨"java/util/Optional", "ofNullable", "(Ljava/lang/Object;)Ljava/util/Optional;"⟩ : MethodName)) hown (mvT hZ (ow hw 25 rfl)) (mvT hZ (ow hw 26 rfl)) (mvT hZ (ow hw 27 rfl)) (mvT hZ (ow hw 28 rfl)) (by decide) (backOf (W := 0) (rm_onS l Z a0 hw [] w_Required w_RECEIVED w_NotSupported w_NONE w_RequiresNew w_NEW w_Mandatory w_BeanManaged w_Never w_Supports w_EMPTY w_NONE h0 n0 O0 hS ) hZ (ow hw 28 rfl) (ow hw 27 rfl) (by decide) (by decide)) (g := (mkF mG 129 #[.val (.ref w_Supports), .val (.int (0 : Int32)), .val (.ref w_NONE)] [(.ref w_NONE)])) rfl (by rw [hml]; rfl) (argsL := [(.ref w_NONE)]) (rest := []) (lenOf pd_2 rfl) rfl (by show 2 * 0 + _ ≤ _; exact Nat.le_of_eq rfl) (hb hby d2_129) (fun _ _ => ⟨rfl, e2, (by decide : 0 + 1 ≤ _), (by decide : 0 + 1 ≤ _)⟩)
  dsimp only [Pt.U, Pt.locs, Pt.cells, Pt.slots] at X3 l3 y3 z3 st3 hQ3
  subst l3 y3 z3
  obtain ⟨h3, e3⟩ : ∃ h, T3.heap = h := ⟨_, rfl⟩
  rw [e3] at hQ3
  obtain ⟨b0_3, rfl, N3q, K3q, O3, n_b0_3, z_b0_3, F3_0, F3_1⟩ := hQ3
  have N3 := Fr.app N1 N3q
  have sz_b0_3 : h0.size ≤ b0_3 := Nat.le_trans K0.1 z_b0_3
  have K3 := K0.trans K3q all0
  refine ob T3 (mkF mG 132 #[.val (.ref w_Supports), .val (.int (0 : Int32)), .val (.ref w_NONE)] [(.ref b0_3)]) (fun _ kk => st3 _ kk) ?_
  obtain ⟨fs, hr, hrun, hended, hW, hsame⟩ := X3.leave (v := some (.ref b0_3)) (fun h => by rw [Bd.returns] at h; cases h)
  refine oout (oretA X3 hx Bd.returns rfl rfl (hb hby d2_132) hr) hrun hended ⟨_, _, rfl, ?_, ⟨_, rfl⟩, hW, hsame.mono (by decide) (by decide)⟩
  show Q_rm_ap2_0 Z w_Required w_RECEIVED w_NotSupported w_NONE w_RequiresNew w_NEW w_Mandatory w_BeanManaged w_Never w_Supports w_EMPTY  h0 n0 _ T3.heap _
  rw [e3]
  exact ⟨b0_3, rfl, N3, K3, O3, n_b0_3, sz_b0_3, F3_0, F3_1⟩

theorem d2_84 : decode prog_18_method_4_code 84 = .ok (.getstatic 53, 3) := by decide +kernel
theorem d2_87 : decode prog_18_method_4_code 87 = .ok (.goto 40, 3) := by decide +kernel
def Q_rm_ap2_1 (Z : State) (w_Required : Addr) (w_RECEIVED : Addr) (w_NotSupported : Addr) (w_NONE : Addr) (w_RequiresNew : Addr) (w_NEW : Addr) (w_Mandatory : Addr) (w_BeanManaged : Addr) (w_Never : Addr) (w_Supports : Addr) (w_EMPTY : Addr)  (h0 : Heap) (n0 : Nat) (v : Option Value) (h : Heap) (L : List Loc) : Prop := ∃ (b0 : Addr), v = some (.ref b0) ∧ Fr n0 L ∧ Keep h0 h [] ∧ Old Z n0 h ∧ n0 ≤ b0 ∧ h0.size ≤ b0 ∧ Exa Z h b0 "java/util/Optional" ∧ Fld Z h b0 "java/util/Optional" "value" "Ljava/lang/Object;" (.ref w_RECEIVED)
set_option maxRecDepth 65536 in
set_option maxHeartbeats 40000000 in
theorem rm_ap2_1 (l : Launch) (Z : State) (a0 : Array Value) (hw : ∀ d ∈ tables_1, d.before a0 Z = true) (ws : List Jvm.Cond) (w_Required : Addr) (w_RECEIVED : Addr) (w_NotSupported : Addr) (w_NONE : Addr) (w_RequiresNew : Addr) (w_NEW : Addr) (w_Mandatory : Addr) (w_BeanManaged : Addr) (w_Never : Addr) (w_Supports : Addr) (w_EMPTY : Addr)  (h0 : Heap) (n0 : Nat) (O0 : Old Z n0 h0) (hS : St0 Z w_Required w_RECEIVED w_NotSupported w_NONE w_RequiresNew w_NEW w_Mandatory w_BeanManaged w_Never w_Supports w_EMPTY ) :
    MetFree l (⟨"com/example/vorgang/vorgang/model/Policy", "apply", "(Z)Ljava/util/Optional;"⟩ : MethodName) (head1 (Jvm.Cond.code (⟨"com/example/vorgang/vorgang/model/Policy", "apply", "(Z)Ljava/util/Optional;"⟩ : MethodName) prog_18_method_4_code 3 (some (.object "java/util/Optional")) :: ws) ({ frames := 3, cells := 1, slots := 1, locals := 38 } : Room)) (fun aG UG => aG = #[(.ref w_Supports), (.int (1 : Int32))] ∧ Z.Warmed39 UG.vm ∧ UG.heap = h0) (fun _ _ _ _ _ => True) (fun _ UG oG UG' => ∃ vG LG, oG = .returned vG ∧ Q_rm_ap2_1 Z w_Required w_RECEIVED w_NotSupported w_NONE w_RequiresNew w_NEW w_Mandatory w_BeanManaged w_Never w_Supports w_EMPTY  h0 n0 vG UG'.heap LG ∧ FrameEnd UG oG UG' LG ({ frames := 3, cells := 1, slots := 1, locals := 38 } : Room).cells ({ frames := 3, cells := 1, slots := 1, locals := 38 } : Room).slots) := by
  refine MetFree.of_bodySF (plainFor_of_name pn_3) hisR ?_
  intro pG eG sG mG argsG belowG methG cG s₁ Bd hml0 hP hK
  obtain ⟨rfl, hZ, hh⟩ := hP
  have hx := Bd.exec
  have hby := Bd.bytes
  have hml : cG.maxLocals = 3 := hml0
  have hown : sG.vm.findClass "com/example/vorgang/vorgang/model/Policy" = some mG.cls := findClass_of_methodNamed Bd.named
  have hnm := (name_of_methodNamed Bd.named Bd.method).1
  have X0 : Stand pG l eG ({ frames := 3, cells := 1, slots := 1, locals := 38 } : Room) sG mG #[(.ref w_Supports), (.int (1 : Int32))] belowG methG cG s₁ [] 0 0 := Stand.of_body Bd
  have e0 : s₁.heap = h0 := by rw [← hh, Bd.state]; rfl
  have N0 := Fr.nil n0
  have K0 := Keep.refl h0 []
  obtain ⟨S_w_Required, E_w_Required, S_w_RECEIVED, E_w_RECEIVED, S_w_NotSupported, E_w_NotSupported, S_w_NONE, E_w_NONE, S_w_RequiresNew, E_w_RequiresNew, S_w_NEW, E_w_NEW, S_w_Mandatory, E_w_Mandatory, S_w_BeanManaged, E_w_BeanManaged, S_w_Never, E_w_Never, S_w_Supports, E_w_Supports, S_w_EMPTY, E_w_EMPTY, F_w_Required_ordinal, F_w_NotSupported_ordinal, F_w_RequiresNew_ordinal, F_w_Mandatory_ordinal, F_w_BeanManaged_ordinal, F_w_Never_ordinal, F_w_Supports_ordinal, F_w_EMPTY_value, ne_w_Required_w_NotSupported, ne_w_Required_w_RequiresNew, ne_w_Required_w_Mandatory, ne_w_Required_w_BeanManaged, ne_w_Required_w_Never, ne_w_Required_w_Supports, ne_w_NotSupported_w_RequiresNew, ne_w_NotSupported_w_Mandatory, ne_w_NotSupported_w_BeanManaged, ne_w_NotSupported_w_Never, ne_w_NotSupported_w_Supports, ne_w_RequiresNew_w_Mandatory, ne_w_RequiresNew_w_BeanManaged, ne_w_RequiresNew_w_Never, ne_w_RequiresNew_w_Supports, ne_w_Mandatory_w_BeanManaged, ne_w_Mandatory_w_Never, ne_w_Mandatory_w_Supports, ne_w_BeanManaged_w_Never, ne_w_BeanManaged_w_Supports, ne_w_Never_w_Supports⟩ := (id hS : St0 Z w_Required w_RECEIVED w_NotSupported w_NONE w_RequiresNew w_NEW w_Mandatory w_BeanManaged w_Never w_Supports w_EMPTY )
  refine ostart (g' := (mkF mG 0 #[.val (.ref w_Supports), .val (.int (1 : Int32)), .unset] [])) (by first | (simp [entryFrame, mkF, argsToLocals, Value.category]; done) | rfl) ?_
  refine ob s₁ (mkF mG 1 #[.val (.ref w_Supports), .val (.int (1 : Int32)), .unset] [(.ref w_Supports)]) (fun _ kk => XS.aloadN X0.here hx rfl (hb hby d2_0) rfl rfl kk) ?_
  obtain ⟨cq1, kq1, q1a, q1b, q1c⟩ := isOf hZ e0 (E_w_Supports.ext O0.2)
  obtain ⟨_, _, ⟨T1, L1, k1, n1⟩, -, X1, ⟨Lc1, hQ1, l1, y1, z1⟩, st1⟩ := X0.virtualBackUp hx (x := (⟨"com/example/vorgang/vorgang/model/Policy", "ordinal", "()I"⟩ : MethodName)) (y := (⟨"java/lang/Enum", "ordinal", "()I"⟩ : MethodName)) (owner := "java/lang/Enum") hown (mvT hZ (ow hw 13 rfl)) (mvT hZ (ow hw 14 rfl)) (mvT hZ (ow hw 15 rfl)) (by decide) (mvT hZ (ow hw 17 rfl)) (mvT hZ (ow hw 16 rfl)) (backOf (W := 0) (rm_ord_Supports l Z a0 hw [] w_Required w_RECEIVED w_NotSupported w_NONE w_RequiresNew w_NEW w_Mandatory w_BeanManaged w_Never w_Supports w_EMPTY  h0 n0 O0 hS ) hZ (ow hw 19 rfl) (ow hw 18 rfl) (by decide) (by decide)) q1a q1c (g := (mkF mG 1 #[.val (.ref w_Supports), .val (.int (1 : Int32)), .unset] [(.ref w_Supports)])) rfl (by rw [hml]; rfl) (Steps.refl _) (argsL := []) (rest := []) (lenOf pd_1 rfl) rfl (by show 2 * 0 + _ ≤ _; exact Nat.le_of_eq rfl) (hb hby d2_1) (fun _ _ => ⟨rfl, e0, (by decide : 0 + 0 ≤ _), (by decide : 0 + 0 ≤ _)⟩)
  dsimp only [Pt.U, Pt.locs, Pt.cells, Pt.slots] at X1 l1 y1 z1 st1 hQ1
  subst l1 y1 z1
  obtain ⟨rfl, N1q, e1⟩ := hQ1
  have N1 := Fr.app N0 N1q
  refine ob T1 (mkF mG 4 #[.val (.ref w_Supports), .val (.int (1 : Int32)), .unset] [(.int (2 : Int32))]) (fun _ kk => st1.trans kk) ?_
  refine ob T1 (mkF mG 80 #[.val (.ref w_Supports), .val (.int (1 : Int32)), .unset] []) (fun _ kk => XS.tswIn X1.here hx rfl (pc0 := 4) (pc' := 80) rfl (hb hby d2_4) rfl (by decide) (o := 76) (by decide) (by decide) (by decide) kk) ?_
  refine ob T1 (mkF mG 81 #[.val (.ref w_Supports), .val (.int (1 : Int32)), .unset] [(.int (1 : Int32))]) (fun _ kk => XS.iloadN X1.here hx rfl (hb hby d2_80) rfl kk) ?_
  refine ob T1 (mkF mG 84 #[.val (.ref w_Supports), .val (.int (1 : Int32)), .unset] []) (fun _ kk => XS.ifNo X1.here hx rfl (hb hby d2_81) rfl ((if0 _ _).trans (feq (by decide : ¬ ((1 : Int32) = (0 : Int32)))).1) kk) ?_
  obtain ⟨T2, X2, e2, st2⟩ := getS2 X1 hx hZ hown (host := "") (Or.inl (ow hw 22 rfl)) Via.refl e1 (S_w_RECEIVED.ext O0.2) (g := (mkF mG 84 #[.val (.ref w_Supports), .val (.int (1 : Int32)), .unset] [])) rfl (hb hby d2_84)
  refine ob T2 (mkF mG 87 #[.val (.ref w_Supports), .val (.int (1 : Int32)), .unset] [(.ref w_RECEIVED)]) (fun _ kk => st2 _ kk) ?_
  refine ob T2 (mkF mG 127 #[.val (.ref w_Supports), .val (.int (1 : Int32)), .unset] [(.ref w_RECEIVED)]) (fun _ kk => XS.goto X2.here hx rfl (pc0 := 87) (pc' := 127) rfl (hb hby d2_87) (by decide) (by decide) kk) ?_
  refine ob T2 (mkF mG 128 #[.val (.ref w_Supports), .val (.int (1 : Int32)), .val (.ref w_RECEIVED)] []) (fun _ kk => XS.astoreN X2.here hx rfl (hb hby d2_127) rfl rfl (l' := #[.val (.ref w_Supports), .val (.int (1 : Int32)), .val (.ref w_RECEIVED)]) rfl kk) ?_
  refine ob T2 (mkF mG 129 #[.val (.ref w_Supports), .val (.int (1 : Int32)), .val (.ref w_RECEIVED)] [(.ref w_RECEIVED)]) (fun _ kk => XS.aloadN X2.here hx rfl (hb hby d2_128) rfl rfl kk) ?_
  obtain ⟨_, _, ⟨T3, L3, k3, n3⟩, -, X3, ⟨Lc3, hQ3, l3, y3, z3⟩, st3⟩ := Jvm.LawKit.callS X2 hx (y := (⟨"java/util/Optional", "ofNullable", "(Ljava/lang/Object;)Ljava/util/Optional;"⟩ : MethodName)) hown (mvT hZ (ow hw 25 rfl)) (mvT hZ (ow hw 26 rfl)) (mvT hZ (ow hw 27 rfl)) (mvT hZ (ow hw 28 rfl)) (by decide) (backOf (W := 0) (rm_onS l Z a0 hw [] w_Required w_RECEIVED w_NotSupported w_NONE w_RequiresNew w_NEW w_Mandatory w_BeanManaged w_Never w_Supports w_EMPTY w_RECEIVED h0 n0 O0 hS ) hZ (ow hw 28 rfl) (ow hw 27 rfl) (by decide) (by decide)) (g := (mkF mG 129 #[.val (.ref w_Supports), .val (.int (1 : Int32)), .val (.ref w_RECEIVED)] [(.ref w_RECEIVED)])) rfl (by rw [hml]; rfl) (argsL := [(.ref w_RECEIVED)]) (rest := []) (lenOf pd_2 rfl) rfl (by show 2 * 0 + _ ≤ _; exact Nat.le_of_eq rfl) (hb hby d2_129) (fun _ _ => ⟨rfl, e2, (by decide : 0 + 1 ≤ _), (by decide : 0 + 1 ≤ _)⟩)
  dsimp only [Pt.U, Pt.locs, Pt.cells, Pt.slots] at X3 l3 y3 z3 st3 hQ3
  subst l3 y3 z3
  obtain ⟨h3, e3⟩ : ∃ h, T3.heap = h := ⟨_, rfl⟩
  rw [e3] at hQ3
  obtain ⟨b0_3, rfl, N3q, K3q, O3, n_b0_3, z_b0_3, F3_0, F3_1⟩ := hQ3
  have N3 := Fr.app N1 N3q
  have sz_b0_3 : h0.size ≤ b0_3 := Nat.le_trans K0.1 z_b0_3
  have K3 := K0.trans K3q all0
  refine ob T3 (mkF mG 132 #[.val (.ref w_Supports), .val (.int (1 : Int32)), .val (.ref w_RECEIVED)] [(.ref b0_3)]) (fun _ kk => st3 _ kk) ?_
  obtain ⟨fs, hr, hrun, hended, hW, hsame⟩ := X3.leave (v := some (.ref b0_3)) (fun h => by rw [Bd.returns] at h; cases h)
  refine oout (oretA X3 hx Bd.returns rfl rfl (hb hby d2_132) hr) hrun hended ⟨_, _, rfl, ?_, ⟨_, rfl⟩, hW, hsame.mono (by decide) (by decide)⟩
  show Q_rm_ap2_1 Z w_Required w_RECEIVED w_NotSupported w_NONE w_RequiresNew w_NEW w_Mandatory w_BeanManaged w_Never w_Supports w_EMPTY  h0 n0 _ T3.heap _
  rw [e3]
  exact ⟨b0_3, rfl, N3, K3, O3, n_b0_3, sz_b0_3, F3_0, F3_1⟩

theorem d2_96 : decode prog_18_method_4_code 96 = .ok (.getstatic 62, 3) := by decide +kernel
theorem d2_99 : decode prog_18_method_4_code 99 = .ok (.goto 28, 3) := by decide +kernel
def Q_rm_ap3_0 (Z : State) (w_Required : Addr) (w_RECEIVED : Addr) (w_NotSupported : Addr) (w_NONE : Addr) (w_RequiresNew : Addr) (w_NEW : Addr) (w_Mandatory : Addr) (w_BeanManaged : Addr) (w_Never : Addr) (w_Supports : Addr) (w_EMPTY : Addr)  (h0 : Heap) (n0 : Nat) (v : Option Value) (h : Heap) (L : List Loc) : Prop := ∃ (b0 : Addr), v = some (.ref b0) ∧ Fr n0 L ∧ Keep h0 h [] ∧ Old Z n0 h ∧ n0 ≤ b0 ∧ h0.size ≤ b0 ∧ Exa Z h b0 "java/util/Optional" ∧ Fld Z h b0 "java/util/Optional" "value" "Ljava/lang/Object;" (.ref w_NONE)
set_option maxRecDepth 65536 in
set_option maxHeartbeats 40000000 in
theorem rm_ap3_0 (l : Launch) (Z : State) (a0 : Array Value) (hw : ∀ d ∈ tables_1, d.before a0 Z = true) (ws : List Jvm.Cond) (w_Required : Addr) (w_RECEIVED : Addr) (w_NotSupported : Addr) (w_NONE : Addr) (w_RequiresNew : Addr) (w_NEW : Addr) (w_Mandatory : Addr) (w_BeanManaged : Addr) (w_Never : Addr) (w_Supports : Addr) (w_EMPTY : Addr)  (h0 : Heap) (n0 : Nat) (O0 : Old Z n0 h0) (hS : St0 Z w_Required w_RECEIVED w_NotSupported w_NONE w_RequiresNew w_NEW w_Mandatory w_BeanManaged w_Never w_Supports w_EMPTY ) :
    MetFree l (⟨"com/example/vorgang/vorgang/model/Policy", "apply", "(Z)Ljava/util/Optional;"⟩ : MethodName) (head1 (Jvm.Cond.code (⟨"com/example/vorgang/vorgang/model/Policy", "apply", "(Z)Ljava/util/Optional;"⟩ : MethodName) prog_18_method_4_code 3 (some (.object "java/util/Optional")) :: ws) ({ frames := 3, cells := 1, slots := 1, locals := 38 } : Room)) (fun aG UG => aG = #[(.ref w_NotSupported), (.int (0 : Int32))] ∧ Z.Warmed39 UG.vm ∧ UG.heap = h0) (fun _ _ _ _ _ => True) (fun _ UG oG UG' => ∃ vG LG, oG = .returned vG ∧ Q_rm_ap3_0 Z w_Required w_RECEIVED w_NotSupported w_NONE w_RequiresNew w_NEW w_Mandatory w_BeanManaged w_Never w_Supports w_EMPTY  h0 n0 vG UG'.heap LG ∧ FrameEnd UG oG UG' LG ({ frames := 3, cells := 1, slots := 1, locals := 38 } : Room).cells ({ frames := 3, cells := 1, slots := 1, locals := 38 } : Room).slots) := by
  refine MetFree.of_bodySF (plainFor_of_name pn_3) hisR ?_
  intro pG eG sG mG argsG belowG methG cG s₁ Bd hml0 hP hK
  obtain ⟨rfl, hZ, hh⟩ := hP
  have hx := Bd.exec
  have hby := Bd.bytes
  have hml : cG.maxLocals = 3 := hml0
  have hown : sG.vm.findClass "com/example/vorgang/vorgang/model/Policy" = some mG.cls := findClass_of_methodNamed Bd.named
  have hnm := (name_of_methodNamed Bd.named Bd.method).1
  have X0 : Stand pG l eG ({ frames := 3, cells := 1, slots := 1, locals := 38 } : Room) sG mG #[(.ref w_NotSupported), (.int (0 : Int32))] belowG methG cG s₁ [] 0 0 := Stand.of_body Bd
  have e0 : s₁.heap = h0 := by rw [← hh, Bd.state]; rfl
  have N0 := Fr.nil n0
  have K0 := Keep.refl h0 []
  obtain ⟨S_w_Required, E_w_Required, S_w_RECEIVED, E_w_RECEIVED, S_w_NotSupported, E_w_NotSupported, S_w_NONE, E_w_NONE, S_w_RequiresNew, E_w_RequiresNew, S_w_NEW, E_w_NEW, S_w_Mandatory, E_w_Mandatory, S_w_BeanManaged, E_w_BeanManaged, S_w_Never, E_w_Never, S_w_Supports, E_w_Supports, S_w_EMPTY, E_w_EMPTY, F_w_Required_ordinal, F_w_NotSupported_ordinal, F_w_RequiresNew_ordinal, F_w_Mandatory_ordinal, F_w_BeanManaged_ordinal, F_w_Never_ordinal, F_w_Supports_ordinal, F_w_EMPTY_value, ne_w_Required_w_NotSupported, ne_w_Required_w_RequiresNew, ne_w_Required_w_Mandatory, ne_w_Required_w_BeanManaged, ne_w_Required_w_Never, ne_w_Required_w_Supports, ne_w_NotSupported_w_RequiresNew, ne_w_NotSupported_w_Mandatory, ne_w_NotSupported_w_BeanManaged, ne_w_NotSupported_w_Never, ne_w_NotSupported_w_Supports, ne_w_RequiresNew_w_Mandatory, ne_w_RequiresNew_w_BeanManaged, ne_w_RequiresNew_w_Never, ne_w_RequiresNew_w_Supports, ne_w_Mandatory_w_BeanManaged, ne_w_Mandatory_w_Never, ne_w_Mandatory_w_Supports, ne_w_BeanManaged_w_Never, ne_w_BeanManaged_w_Supports, ne_w_Never_w_Supports⟩ := (id hS : St0 Z w_Required w_RECEIVED w_NotSupported w_NONE w_RequiresNew w_NEW w_Mandatory w_BeanManaged w_Never w_Supports w_EMPTY )
  refine ostart (g' := (mkF mG 0 #[.val (.ref w_NotSupported), .val (.int (0 : Int32)), .unset] [])) (by first | (simp [entryFrame, mkF, argsToLocals, Value.category]; done) | rfl) ?_
  refine ob s₁ (mkF mG 1 #[.val (.ref w_NotSupported), .val (.int (0 : Int32)), .unset] [(.ref w_NotSupported)]) (fun _ kk => XS.aloadN X0.here hx rfl (hb hby d2_0) rfl rfl kk) ?_
  obtain ⟨cq1, kq1, q1a, q1b, q1c⟩ := isOf hZ e0 (E_w_NotSupported.ext O0.2)
  obtain ⟨_, _, ⟨T1, L1, k1, n1⟩, -, X1, ⟨Lc1, hQ1, l1, y1, z1⟩, st1⟩ := X0.virtualBackUp hx (x := (⟨"com/example/vorgang/vorgang/model/Policy", "ordinal", "()I"⟩ : MethodName)) (y := (⟨"java/lang/Enum", "ordinal", "()I"⟩ : MethodName)) (owner := "java/lang/Enum") hown (mvT hZ (ow hw 13 rfl)) (mvT hZ (ow hw 14 rfl)) (mvT hZ (ow hw 15 rfl)) (by decide) (mvT hZ (ow hw 17 rfl)) (mvT hZ (ow hw 16 rfl)) (backOf (W := 0) (rm_ord_NotSupported l Z a0 hw [] w_Required w_RECEIVED w_NotSupported w_NONE w_RequiresNew w_NEW w_Mandatory w_BeanManaged w_Never w_Supports w_EMPTY  h0 n0 O0 hS ) hZ (ow hw 19 rfl) (ow hw 18 rfl) (by decide) (by decide)) q1a q1c (g := (mkF mG 1 #[.val (.ref w_NotSupported), .val (.int (0 : Int32)), .unset] [(.ref w_NotSupported)])) rfl (by rw [hml]; rfl) (Steps.refl _) (argsL := []) (rest := []) (lenOf pd_1 rfl) rfl (by show 2 * 0 + _ ≤ _; exact Nat.le_of_eq rfl) (hb hby d2_1) (fun _ _ => ⟨rfl, e0, (by decide : 0 + 0 ≤ _), (by decide : 0 + 0 ≤ _)⟩)
  dsimp only [Pt.U, Pt.locs, Pt.cells, Pt.slots] at X1 l1 y1 z1 st1 hQ1
  subst l1 y1 z1
  obtain ⟨rfl, N1q, e1⟩ := hQ1
  have N1 := Fr.app N0 N1q
  refine ob T1 (mkF mG 4 #[.val (.ref w_NotSupported), .val (.int (0 : Int32)), .unset] [(.int (3 : Int32))]) (fun _ kk => st1.trans kk) ?_
  refine ob T1 (mkF mG 96 #[.val (.ref w_NotSupported), .val (.int (0 : Int32)), .unset] []) (fun _ kk => XS.tswIn X1.here hx rfl (pc0 := 4) (pc' := 96) rfl (hb hby d2_4) rfl (by decide) (o := 92) (by decide) (by decide) (by decide) kk) ?_
  obtain ⟨T2, X2, e2, st2⟩ := getS2 X1 hx hZ hown (host := "") (Or.inl (ow hw 53 rfl)) Via.refl e1 (S_w_NONE.ext O0.2) (g := (mkF mG 96 #[.val (.ref w_NotSupported), .val (.int (0 : Int32)), .unset] [])) rfl (hb hby d2_96)
  refine ob T2 (mkF mG 99 #[.val (.ref w_NotSupported), .val (.int (0 : Int32)), .unset] [(.ref w_NONE)]) (fun _ kk => st2 _ kk) ?_
  refine ob T2 (mkF mG 127 #[.val (.ref w_NotSupported), .val (.int (0 : Int32)), .unset] [(.ref w_NONE)]) (fun _ kk => XS.goto X2.here hx rfl (pc0 := 99) (pc' := 127) rfl (hb hby d2_99) (by decide) (by decide) kk) ?_
  refine ob T2 (mkF mG 128 #[.val (.ref w_NotSupported), .val (.int (0 : Int32)), .val (.ref w_NONE)] []) (fun _ kk => XS.astoreN X2.here hx rfl (hb hby d2_127) rfl rfl (l' := #[.val (.ref w_NotSupported), .val (.int (0 : Int32)), .val (.ref w_NONE)]) rfl kk) ?_
  refine ob T2 (mkF mG 129 #[.val (.ref w_NotSupported), .val (.int (0 : Int32)), .val (.ref w_NONE)] [(.ref w_NONE)]) (fun _ kk => XS.aloadN X2.here hx rfl (hb hby d2_128) rfl rfl kk) ?_
  obtain ⟨_, _, ⟨T3, L3, k3, n3⟩, -, X3, ⟨Lc3, hQ3, l3, y3, z3⟩, st3⟩ := Jvm.LawKit.callS X2 hx (y := (⟨"java/util/Optional", "ofNullable", "(Ljava/lang/Object;)Ljava/util/Optional;"⟩ : MethodName)) hown (mvT hZ (ow hw 25 rfl)) (mvT hZ (ow hw 26 rfl)) (mvT hZ (ow hw 27 rfl)) (mvT hZ (ow hw 28 rfl)) (by decide) (backOf (W := 0) (rm_onS l Z a0 hw [] w_Required w_RECEIVED w_NotSupported w_NONE w_RequiresNew w_NEW w_Mandatory w_BeanManaged w_Never w_Supports w_EMPTY w_NONE h0 n0 O0 hS ) hZ (ow hw 28 rfl) (ow hw 27 rfl) (by decide) (by decide)) (g := (mkF mG 129 #[.val (.ref w_NotSupported), .val (.int (0 : Int32)), .val (.ref w_NONE)] [(.ref w_NONE)])) rfl (by rw [hml]; rfl) (argsL := [(.ref w_NONE)]) (rest := []) (lenOf pd_2 rfl) rfl (by show 2 * 0 + _ ≤ _; exact Nat.le_of_eq rfl) (hb hby d2_129) (fun _ _ => ⟨rfl, e2, (by decide : 0 + 1 ≤ _), (by decide : 0 + 1 ≤ _)⟩)
  dsimp only [Pt.U, Pt.locs, Pt.cells, Pt.slots] at X3 l3 y3 z3 st3 hQ3
  subst l3 y3 z3
  obtain ⟨h3, e3⟩ : ∃ h, T3.heap = h := ⟨_, rfl⟩
  rw [e3] at hQ3
  obtain ⟨b0_3, rfl, N3q, K3q, O3, n_b0_3, z_b0_3, F3_0, F3_1⟩ := hQ3
  have N3 := Fr.app N1 N3q
  have sz_b0_3 : h0.size ≤ b0_3 := Nat.le_trans K0.1 z_b0_3
  have K3 := K0.trans K3q all0
  refine ob T3 (mkF mG 132 #[.val (.ref w_NotSupported), .val (.int (0 : Int32)), .val (.ref w_NONE)] [(.ref b0_3)]) (fun _ kk => st3 _ kk) ?_
  obtain ⟨fs, hr, hrun, hended, hW, hsame⟩ := X3.leave (v := some (.ref b0_3)) (fun h => by rw [Bd.returns] at h; cases h)
  refine oout (oretA X3 hx Bd.returns rfl rfl (hb hby d2_132) hr) hrun hended ⟨_, _, rfl, ?_, ⟨_, rfl⟩, hW, hsame.mono (by decide) (by decide)⟩
  show Q_rm_ap3_0 Z w_Required w_RECEIVED w_NotSupported w_NONE w_RequiresNew w_NEW w_Mandatory w_BeanManaged w_Never w_Supports w_EMPTY  h0 n0 _ T3.heap _
  rw [e3]
  exact ⟨b0_3, rfl, N3, K3, O3, n_b0_3, sz_b0_3, F3_0, F3_1⟩

def Q_rm_ap3_1 (Z : State) (w_Required : Addr) (w_RECEIVED : Addr) (w_NotSupported : Addr) (w_NONE : Addr) (w_RequiresNew : Addr) (w_NEW : Addr) (w_Mandatory : Addr) (w_BeanManaged : Addr) (w_Never : Addr) (w_Supports : Addr) (w_EMPTY : Addr)  (h0 : Heap) (n0 : Nat) (v : Option Value) (h : Heap) (L : List Loc) : Prop := ∃ (b0 : Addr), v = some (.ref b0) ∧ Fr n0 L ∧ Keep h0 h [] ∧ Old Z n0 h ∧ n0 ≤ b0 ∧ h0.size ≤ b0 ∧ Exa Z h b0 "java/util/Optional" ∧ Fld Z h b0 "java/util/Optional" "value" "Ljava/lang/Object;" (.ref w_NONE)
set_option maxRecDepth 65536 in
set_option maxHeartbeats 40000000 in
theorem rm_ap3_1 (l : Launch) (Z : State) (a0 : Array Value) (hw : ∀ d ∈ tables_1, d.before a0 Z = true) (ws : List Jvm.Cond) (w_Required : Addr) (w_RECEIVED : Addr) (w_NotSupported : Addr) (w_NONE : Addr) (w_RequiresNew : Addr) (w_NEW : Addr) (w_Mandatory : Addr) (w_BeanManaged : Addr) (w_Never : Addr) (w_Supports : Addr) (w_EMPTY : Addr)  (h0 : Heap) (n0 : Nat) (O0 : Old Z n0 h0) (hS : St0 Z w_Required w_RECEIVED w_NotSupported w_NONE w_RequiresNew w_NEW w_Mandatory w_BeanManaged w_Never w_Supports w_EMPTY ) :
    MetFree l (⟨"com/example/vorgang/vorgang/model/Policy", "apply", "(Z)Ljava/util/Optional;"⟩ : MethodName) (head1 (Jvm.Cond.code (⟨"com/example/vorgang/vorgang/model/Policy", "apply", "(Z)Ljava/util/Optional;"⟩ : MethodName) prog_18_method_4_code 3 (some (.object "java/util/Optional")) :: ws) ({ frames := 3, cells := 1, slots := 1, locals := 38 } : Room)) (fun aG UG => aG = #[(.ref w_NotSupported), (.int (1 : Int32))] ∧ Z.Warmed39 UG.vm ∧ UG.heap = h0) (fun _ _ _ _ _ => True) (fun _ UG oG UG' => ∃ vG LG, oG = .returned vG ∧ Q_rm_ap3_1 Z w_Required w_RECEIVED w_NotSupported w_NONE w_RequiresNew w_NEW w_Mandatory w_BeanManaged w_Never w_Supports w_EMPTY  h0 n0 vG UG'.heap LG ∧ FrameEnd UG oG UG' LG ({ frames := 3, cells := 1, slots := 1, locals := 38 } : Room).cells ({ frames := 3, cells := 1, slots := 1, locals := 38 } : Room).slots) := by
  refine MetFree.of_bodySF (plainFor_of_name pn_3) hisR ?_
  intro pG eG sG mG argsG belowG methG cG s₁ Bd hml0 hP hK
  obtain ⟨rfl, hZ, hh⟩ := hP
  have hx := Bd.exec
  have hby := Bd.bytes
  have hml : cG.maxLocals = 3 := hml0
  have hown : sG.vm.findClass "com/example/vorgang/vorgang/model/Policy" = some mG.cls := findClass_of_methodNamed Bd.named
  have hnm := (name_of_methodNamed Bd.named Bd.method).1
  have X0 : Stand pG l eG ({ frames := 3, cells := 1, slots := 1, locals := 38 } : Room) sG mG #[(.ref w_NotSupported), (.int (1 : Int32))] belowG methG cG s₁ [] 0 0 := Stand.of_body Bd
  have e0 : s₁.heap = h0 := by rw [← hh, Bd.state]; rfl
  have N0 := Fr.nil n0
  have K0 := Keep.refl h0 []
  obtain ⟨S_w_Required, E_w_Required, S_w_RECEIVED, E_w_RECEIVED, S_w_NotSupported, E_w_NotSupported, S_w_NONE, E_w_NONE, S_w_RequiresNew, E_w_RequiresNew, S_w_NEW, E_w_NEW, S_w_Mandatory, E_w_Mandatory, S_w_BeanManaged, E_w_BeanManaged, S_w_Never, E_w_Never, S_w_Supports, E_w_Supports, S_w_EMPTY, E_w_EMPTY, F_w_Required_ordinal, F_w_NotSupported_ordinal, F_w_RequiresNew_ordinal, F_w_Mandatory_ordinal, F_w_BeanManaged_ordinal, F_w_Never_ordinal, F_w_Supports_ordinal, F_w_EMPTY_value, ne_w_Required_w_NotSupported, ne_w_Required_w_RequiresNew, ne_w_Required_w_Mandatory, ne_w_Required_w_BeanManaged, ne_w_Required_w_Never, ne_w_Required_w_Supports, ne_w_NotSupported_w_RequiresNew, ne_w_NotSupported_w_Mandatory, ne_w_NotSupported_w_BeanManaged, ne_w_NotSupported_w_Never, ne_w_NotSupported_w_Supports, ne_w_RequiresNew_w_Mandatory, ne_w_RequiresNew_w_BeanManaged, ne_w_RequiresNew_w_Never, ne_w_RequiresNew_w_Supports, ne_w_Mandatory_w_BeanManaged, ne_w_Mandatory_w_Never, ne_w_Mandatory_w_Supports, ne_w_BeanManaged_w_Never, ne_w_BeanManaged_w_Supports, ne_w_Never_w_Supports⟩ := (id hS : St0 Z w_Required w_RECEIVED w_NotSupported w_NONE w_RequiresNew w_NEW w_Mandatory w_BeanManaged w_Never w_Supports w_EMPTY )
  refine ostart (g' := (mkF mG 0 #[.val (.ref w_NotSupported), .val (.int (1 : Int32)), .unset] [])) (by first | (simp [entryFrame, mkF, argsToLocals, Value.category]; done) | rfl) ?_
  refine ob s₁ (mkF mG 1 #[.val (.ref w_NotSupported), .val (.int (1 : Int32)), .unset] [(.ref w_NotSupported)]) (fun _ kk => XS.aloadN X0.here hx rfl (hb hby d2_0) rfl rfl kk) ?_
  obtain ⟨cq1, kq1, q1a, q1b, q1c⟩ := isOf hZ e0 (E_w_NotSupported.ext O0.2)
  obtain ⟨_, _, ⟨T1, L1, k1, n1⟩, -, X1, ⟨Lc1, hQ1, l1, y1, z1⟩, st1⟩ := X0.virtualBackUp hx (x := (⟨"com/example/vorgang/vorgang/model/Policy", "ordinal", "()I"⟩ : MethodName)) (y := (⟨"java/lang/Enum", "ordinal", "()I"⟩ : MethodName)) (owner := "java/lang/Enum") hown (mvT hZ (ow hw 13 rfl)) (mvT hZ (ow hw 14 rfl)) (mvT hZ (ow hw 15 rfl)) (by decide) (mvT hZ (ow hw 17 rfl)) (mvT hZ (ow hw 16 rfl)) (backOf (W := 0) (rm_ord_NotSupported l Z a0 hw [] w_Required w_RECEIVED w_NotSupported w_NONE w_RequiresNew w_NEW w_Mandatory w_BeanManaged w_Never w_Supports w_EMPTY  h0 n0 O0 hS ) hZ (ow hw 19 rfl) (ow hw 18 rfl) (by decide) (by decide)) q1a q1c (g := (mkF mG 1 #[.val (.ref w_NotSupported), .val (.int (1 : Int32)), .unset] [(.ref w_NotSupported)])) rfl (by rw [hml]; rfl) (Steps.refl _) (argsL := []) (rest := []) (lenOf pd_1 rfl) rfl (by show 2 * 0 + _ ≤ _; exact Nat.le_of_eq rfl) (hb hby d2_1) (fun _ _ => ⟨rfl, e0, (by decide : 0 + 0 ≤ _), (by decide : 0 + 0 ≤ _)⟩)
  dsimp only [Pt.U, Pt.locs, Pt.cells, Pt.slots] at X1 l1 y1 z1 st1 hQ1
  subst l1 y1 z1
  obtain ⟨rfl, N1q, e1⟩ := hQ1
  have N1 := Fr.app N0 N1q
  refine ob T1 (mkF mG 4 #[.val (.ref w_NotSupported), .val (.int (1 : Int32)), .unset] [(.int (3 : Int32))]) (fun _ kk => st1.trans kk) ?_
  refine ob T1 (mkF mG 96 #[.val (.ref w_NotSupported), .val (.int (1 : Int32)), .unset] []) (fun _ kk => XS.tswIn X1.here hx rfl (pc0 := 4) (pc' := 96) rfl (hb hby d2_4) rfl (by decide) (o := 92) (by decide) (by decide) (by decide) kk) ?_
  obtain ⟨T2, X2, e2, st2⟩ := getS2 X1 hx hZ hown (host := "") (Or.inl (ow hw 53 rfl)) Via.refl e1 (S_w_NONE.ext O0.2) (g := (mkF mG 96 #[.val (.ref w_NotSupported), .val (.int (1 : Int32)), .unset] [])) rfl (hb hby d2_96)
  refine ob T2 (mkF mG 99 #[.val (.ref w_NotSupported), .val (.int (1 : Int32)), .unset] [(.ref w_NONE)]) (fun _ kk => st2 _ kk) ?_
  refine ob T2 (mkF mG 127 #[.val (.ref w_NotSupported), .val (.int (1 : Int32)), .unset] [(.ref w_NONE)]) (fun _ kk => XS.goto X2.here hx rfl (pc0 := 99) (pc' := 127) rfl (hb hby d2_99) (by decide) (by decide) kk) ?_
  refine ob T2 (mkF mG 128 #[.val (.ref w_NotSupported), .val (.int (1 : Int32)), .val (.ref w_NONE)] []) (fun _ kk => XS.astoreN X2.here hx rfl (hb hby d2_127) rfl rfl (l' := #[.val (.ref w_NotSupported), .val (.int (1 : Int32)), .val (.ref w_NONE)]) rfl kk) ?_
  refine ob T2 (mkF mG 129 #[.val (.ref w_NotSupported), .val (.int (1 : Int32)), .val (.ref w_NONE)] [(.ref w_NONE)]) (fun _ kk => XS.aloadN X2.here hx rfl (hb hby d2_128) rfl rfl kk) ?_
  obtain ⟨_, _, ⟨T3, L3, k3, n3⟩, -, X3, ⟨Lc3, hQ3, l3, y3, z3⟩, st3⟩ := Jvm.LawKit.callS X2 hx (y := (⟨"java/util/Optional", "ofNullable", "(Ljava/lang/Object;)Ljava/util/Optional;"⟩ : MethodName)) hown (mvT hZ (ow hw 25 rfl)) (mvT hZ (ow hw 26 rfl)) (mvT hZ (ow hw 27 rfl)) (mvT hZ (ow hw 28 rfl)) (by decide) (backOf (W := 0) (rm_onS l Z a0 hw [] w_Required w_RECEIVED w_NotSupported w_NONE w_RequiresNew w_NEW w_Mandatory w_BeanManaged w_Never w_Supports w_EMPTY w_NONE h0 n0 O0 hS ) hZ (ow hw 28 rfl) (ow hw 27 rfl) (by decide) (by decide)) (g := (mkF mG 129 #[.val (.ref w_NotSupported), .val (.int (1 : Int32)), .val (.ref w_NONE)] [(.ref w_NONE)])) rfl (by rw [hml]; rfl) (argsL := [(.ref w_NONE)]) (rest := []) (lenOf pd_2 rfl) rfl (by show 2 * 0 + _ ≤ _; exact Nat.le_of_eq rfl) (hb hby d2_129) (fun _ _ => ⟨rfl, e2, (by decide : 0 + 1 ≤ _), (by decide : 0 + 1 ≤ _)⟩)
  dsimp only [Pt.U, Pt.locs, Pt.cells, Pt.slots] at X3 l3 y3 z3 st3 hQ3
  subst l3 y3 z3
  obtain ⟨h3, e3⟩ : ∃ h, T3.heap = h := ⟨_, rfl⟩
  rw [e3] at hQ3
  obtain ⟨b0_3, rfl, N3q, K3q, O3, n_b0_3, z_b0_3, F3_0, F3_1⟩ := hQ3
  have N3 := Fr.app N1 N3q
  have sz_b0_3 : h0.size ≤ b0_3 := Nat.le_trans K0.1 z_b0_3
  have K3 := K0.trans K3q all0
  refine ob T3 (mkF mG 132 #[.val (.ref w_NotSupported), .val (.int (1 : Int32)), .val (.ref w_NONE)] [(.ref b0_3)]) (fun _ kk => st3 _ kk) ?_
  obtain ⟨fs, hr, hrun, hended, hW, hsame⟩ := X3.leave (v := some (.ref b0_3)) (fun h => by rw [Bd.returns] at h; cases h)
  refine oout (oretA X3 hx Bd.returns rfl rfl (hb hby d2_132) hr) hrun hended ⟨_, _, rfl, ?_, ⟨_, rfl⟩, hW, hsame.mono (by decide) (by decide)⟩
  show Q_rm_ap3_1 Z w_Required w_RECEIVED w_NotSupported w_NONE w_RequiresNew w_NEW w_Mandatory w_BeanManaged w_Never w_Supports w_EMPTY  h0 n0 _ T3.heap _
  rw [e3]
  exact ⟨b0_3, rfl, N3, K3, O3, n_b0_3, sz_b0_3, F3_0, F3_1⟩

theorem d2_102 : decode prog_18_method_4_code 102 = .ok (.iload_n 1, 1) := by decide +kernel
theorem d2_103 : decode prog_18_method_4_code 103 = .ok (.ifCond .eq 9, 3) := by decide +kernel
theorem d2_112 : decode prog_18_method_4_code 112 = .ok (.aconst_null, 1) := by decide +kernel
theorem d2_113 : decode prog_18_method_4_code 113 = .ok (.goto 14, 3) := by decide +kernel
def Q_rm_ap4_0 (Z : State) (w_Required : Addr) (w_RECEIVED : Addr) (w_NotSupported : Addr) (w_NONE : Addr) (w_RequiresNew : Addr) (w_NEW : Addr) (w_Mandatory : Addr) (w_BeanManaged : Addr) (w_Never : Addr) (w_Supports : Addr) (w_EMPTY : Addr)  (h0 : Heap) (n0 : Nat) (v : Option Value) (h : Heap) (L : List Loc) : Prop := v = some (.ref w_EMPTY) ∧ Fr n0 L ∧ h = h0
set_option maxRecDepth 65536 in
set_option maxHeartbeats 40000000 in
theorem rm_ap4_0 (l : Launch) (Z : State) (a0 : Array Value) (hw : ∀ d ∈ tables_1, d.before a0 Z = true) (ws : List Jvm.Cond) (w_Required : Addr) (w_RECEIVED : Addr) (w_NotSupported : Addr) (w_NONE : Addr) (w_RequiresNew : Addr) (w_NEW : Addr) (w_Mandatory : Addr) (w_BeanManaged : Addr) (w_Never : Addr) (w_Supports : Addr) (w_EMPTY : Addr)  (h0 : Heap) (n0 : Nat) (O0 : Old Z n0 h0) (hS : St0 Z w_Required w_RECEIVED w_NotSupported w_NONE w_RequiresNew w_NEW w_Mandatory w_BeanManaged w_Never w_Supports w_EMPTY ) :
    MetFree l (⟨"com/example/vorgang/vorgang/model/Policy", "apply", "(Z)Ljava/util/Optional;"⟩ : MethodName) (head1 (Jvm.Cond.code (⟨"com/example/vorgang/vorgang/model/Policy", "apply", "(Z)Ljava/util/Optional;"⟩ : MethodName) prog_18_method_4_code 3 (some (.object "java/util/Optional")) :: ws) ({ frames := 1, cells := 0, slots := 0, locals := 12 } : Room)) (fun aG UG => aG = #[(.ref w_Mandatory), (.int (0 : Int32))] ∧ Z.Warmed39 UG.vm ∧ UG.heap = h0) (fun _ _ _ _ _ => True) (fun _ UG oG UG' => ∃ vG LG, oG = .returned vG ∧ Q_rm_ap4_0 Z w_Required w_RECEIVED w_NotSupported w_NONE w_RequiresNew w_NEW w_Mandatory w_BeanManaged w_Never w_Supports w_EMPTY  h0 n0 vG UG'.heap LG ∧ FrameEnd UG oG UG' LG ({ frames := 1, cells := 0, slots := 0, locals := 12 } : Room).cells ({ frames := 1, cells := 0, slots := 0, locals := 12 } : Room).slots) := by
  refine MetFree.of_bodySF (plainFor_of_name pn_3) hisR ?_
  intro pG eG sG mG argsG belowG methG cG s₁ Bd hml0 hP hK
  obtain ⟨rfl, hZ, hh⟩ := hP
  have hx := Bd.exec
  have hby := Bd.bytes
  have hml : cG.maxLocals = 3 := hml0
  have hown : sG.vm.findClass "com/example/vorgang/vorgang/model/Policy" = some mG.cls := findClass_of_methodNamed Bd.named
  have hnm := (name_of_methodNamed Bd.named Bd.method).1
  have X0 : Stand pG l eG ({ frames := 1, cells := 0, slots := 0, locals := 12 } : Room) sG mG #[(.ref w_Mandatory), (.int (0 : Int32))] belowG methG cG s₁ [] 0 0 := Stand.of_body Bd
  have e0 : s₁.heap = h0 := by rw [← hh, Bd.state]; rfl
  have N0 := Fr.nil n0
  have K0 := Keep.refl h0 []
  obtain ⟨S_w_Required, E_w_Required, S_w_RECEIVED, E_w_RECEIVED, S_w_NotSupported, E_w_NotSupported, S_w_NONE, E_w_NONE, S_w_RequiresNew, E_w_RequiresNew, S_w_NEW, E_w_NEW, S_w_Mandatory, E_w_Mandatory, S_w_BeanManaged, E_w_BeanManaged, S_w_Never, E_w_Never, S_w_Supports, E_w_Supports, S_w_EMPTY, E_w_EMPTY, F_w_Required_ordinal, F_w_NotSupported_ordinal, F_w_RequiresNew_ordinal, F_w_Mandatory_ordinal, F_w_BeanManaged_ordinal, F_w_Never_ordinal, F_w_Supports_ordinal, F_w_EMPTY_value, ne_w_Required_w_NotSupported, ne_w_Required_w_RequiresNew, ne_w_Required_w_Mandatory, ne_w_Required_w_BeanManaged, ne_w_Required_w_Never, ne_w_Required_w_Supports, ne_w_NotSupported_w_RequiresNew, ne_w_NotSupported_w_Mandatory, ne_w_NotSupported_w_BeanManaged, ne_w_NotSupported_w_Never, ne_w_NotSupported_w_Supports, ne_w_RequiresNew_w_Mandatory, ne_w_RequiresNew_w_BeanManaged, ne_w_RequiresNew_w_Never, ne_w_RequiresNew_w_Supports, ne_w_Mandatory_w_BeanManaged, ne_w_Mandatory_w_Never, ne_w_Mandatory_w_Supports, ne_w_BeanManaged_w_Never, ne_w_BeanManaged_w_Supports, ne_w_Never_w_Supports⟩ := (id hS : St0 Z w_Required w_RECEIVED w_NotSupported w_NONE w_RequiresNew w_NEW w_Mandatory w_BeanManaged w_Never w_Supports w_EMPTY )
  refine ostart (g' := (mkF mG 0 #[.val (.ref w_Mandatory), .val (.int (0 : Int32)), .unset] [])) (by first | (simp [entryFrame, mkF, argsToLocals, Value.category]; done) | rfl) ?_
  refine ob s₁ (mkF mG 1 #[.val (.ref w_Mandatory), .val (.int (0 : Int32)), .unset] [(.ref w_Mandatory)]) (fun _ kk => XS.aloadN X0.here hx rfl (hb hby d2_0) rfl rfl kk) ?_
  obtain ⟨cq1, kq1, q1a, q1b, q1c⟩ := isOf hZ e0 (E_w_Mandatory.ext O0.2)
  obtain ⟨_, _, ⟨T1, L1, k1, n1⟩, -, X1, ⟨Lc1, hQ1, l1, y1, z1⟩, st1⟩ := X0.virtualBackUp hx (x := (⟨"com/example/vorgang/vorgang/model/Policy", "ordinal", "()I"⟩ : MethodName)) (y := (⟨"java/lang/Enum", "ordinal", "()I"⟩ : MethodName)) (owner := "java/lang/Enum") hown (mvT hZ (ow hw 13 rfl)) (mvT hZ (ow hw 14 rfl)) (mvT hZ (ow hw 15 rfl)) (by decide) (mvT hZ (ow hw 17 rfl)) (mvT hZ (ow hw 16 rfl)) (backOf (W := 0) (rm_ord_Mandatory l Z a0 hw [] w_Required w_RECEIVED w_NotSupported w_NONE w_RequiresNew w_NEW w_Mandatory w_BeanManaged w_Never w_Supports w_EMPTY  h0 n0 O0 hS ) hZ (ow hw 19 rfl) (ow hw 18 rfl) (by decide) (by decide)) q1a q1c (g := (mkF mG 1 #[.val (.ref w_Mandatory), .val (.int (0 : Int32)), .unset] [(.ref w_Mandatory)])) rfl (by rw [hml]; rfl) (Steps.refl _) (argsL := []) (rest := []) (lenOf pd_1 rfl) rfl (by show 2 * 0 + _ ≤ _; exact Nat.le_of_eq rfl) (hb hby d2_1) (fun _ _ => ⟨rfl, e0, (by decide : 0 + 0 ≤ _), (by decide : 0 + 0 ≤ _)⟩)
  dsimp only [Pt.U, Pt.locs, Pt.cells, Pt.slots] at X1 l1 y1 z1 st1 hQ1
  subst l1 y1 z1
  obtain ⟨rfl, N1q, e1⟩ := hQ1
  have N1 := Fr.app N0 N1q
  refine ob T1 (mkF mG 4 #[.val (.ref w_Mandatory), .val (.int (0 : Int32)), .unset] [(.int (4 : Int32))]) (fun _ kk => st1.trans kk) ?_
  refine ob T1 (mkF mG 102 #[.val (.ref w_Mandatory), .val (.int (0 : Int32)), .unset] []) (fun _ kk => XS.tswIn X1.here hx rfl (pc0 := 4) (pc' := 102) rfl (hb hby d2_4) rfl (by decide) (o := 98) (by decide) (by decide) (by decide) kk) ?_
  refine ob T1 (mkF mG 103 #[.val (.ref w_Mandatory), .val (.int (0 : Int32)), .unset] [(.int (0 : Int32))]) (fun _ kk => XS.iloadN X1.here hx rfl (hb hby d2_102) rfl kk) ?_
  refine ob T1 (mkF mG 112 #[.val (.ref w_Mandatory), .val (.int (0 : Int32)), .unset] []) (fun _ kk => XS.ifYes X1.here hx rfl (pc0 := 103) (pc' := 112) rfl (hb hby d2_103) rfl ((if0 _ _).trans (teq (by decide : (0 : Int32) = (0 : Int32))).1) (by decide) (by decide) kk) ?_
  refine ob T1 (mkF mG 113 #[.val (.ref w_Mandatory), .val (.int (0 : Int32)), .unset] [.null]) (fun _ kk => XS.aconstNull X1.here hx rfl (hb hby d2_112) kk) ?_
  refine ob T1 (mkF mG 127 #[.val (.ref w_Mandatory), .val (.int (0 : Int32)), .unset] [.null]) (fun _ kk => XS.goto X1.here hx rfl (pc0 := 113) (pc' := 127) rfl (hb hby d2_113) (by decide) (by decide) kk) ?_
  refine ob T1 (mkF mG 128 #[.val (.ref w_Mandatory), .val (.int (0 : Int32)), .val .null] []) (fun _ kk => XS.astoreN X1.here hx rfl (hb hby d2_127) rfl rfl (l' := #[.val (.ref w_Mandatory), .val (.int (0 : Int32)), .val .null]) rfl kk) ?_
  refine ob T1 (mkF mG 129 #[.val (.ref w_Mandatory), .val (.int (0 : Int32)), .val .null] [.null]) (fun _ kk => XS.aloadN X1.here hx rfl (hb hby d2_128) rfl rfl kk) ?_
  obtain ⟨_, _, ⟨T2, L2, k2, n2⟩, -, X2, ⟨Lc2, hQ2, l2, y2, z2⟩, st2⟩ := Jvm.LawKit.callS X1 hx (y := (⟨"java/util/Optional", "ofNullable", "(Ljava/lang/Object;)Ljava/util/Optional;"⟩ : MethodName)) hown (mvT hZ (ow hw 25 rfl)) (mvT hZ (ow hw 26 rfl)) (mvT hZ (ow hw 27 rfl)) (mvT hZ (ow hw 28 rfl)) (by decide) (backOf (W := 0) (rm_onN l Z a0 hw [] w_Required w_RECEIVED w_NotSupported w_NONE w_RequiresNew w_NEW w_Mandatory w_BeanManaged w_Never w_Supports w_EMPTY  h0 n0 O0 hS ) hZ (ow hw 28 rfl) (ow hw 27 rfl) (by decide) (by decide)) (g := (mkF mG 129 #[.val (.ref w_Mandatory), .val (.int (0 : Int32)), .val .null] [.null])) rfl (by rw [hml]; rfl) (argsL := [.null]) (rest := []) (lenOf pd_2 rfl) rfl (by show 2 * 0 + _ ≤ _; exact Nat.le_of_eq rfl) (hb hby d2_129) (fun _ _ => ⟨rfl, e1, (by decide : 0 + 0 ≤ _), (by decide : 0 + 0 ≤ _)⟩)
  dsimp only [Pt.U, Pt.locs, Pt.cells, Pt.slots] at X2 l2 y2 z2 st2 hQ2
  subst l2 y2 z2
  obtain ⟨rfl, N2q, e2⟩ := hQ2
  have N2 := Fr.app N1 N2q
  refine ob T2 (mkF mG 132 #[.val (.ref w_Mandatory), .val (.int (0 : Int32)), .val .null] [(.ref w_EMPTY)]) (fun _ kk => st2 _ kk) ?_
  obtain ⟨fs, hr, hrun, hended, hW, hsame⟩ := X2.leave (v := some (.ref w_EMPTY)) (fun h => by rw [Bd.returns] at h; cases h)
  refine oout (oretA X2 hx Bd.returns rfl rfl (hb hby d2_132) hr) hrun hended ⟨_, _, rfl, ?_, ⟨_, rfl⟩, hW, hsame.mono (by decide) (by decide)⟩
  show Q_rm_ap4_0 Z w_Required w_RECEIVED w_NotSupported w_NONE w_RequiresNew w_NEW w_Mandatory w_BeanManaged w_Never w_Supports w_EMPTY  h0 n0 _ T2.heap _
  rw [e2]
  exact ⟨rfl, N2, rfl⟩

theorem d2_106 : decode prog_18_method_4_code 106 = .ok (.getstatic 53, 3) := by decide +kernel
theorem d2_109 : decode prog_18_method_4_code 109 = .ok (.goto 18, 3) := by decide +kernel
def Q_rm_ap4_1 (Z : State) (w_Required : Addr) (w_RECEIVED : Addr) (w_NotSupported : Addr) (w_NONE : Addr) (w_RequiresNew : Addr) (w_NEW : Addr) (w_Mandatory : Addr) (w_BeanManaged : Addr) (w_Never : Addr) (w_Supports : Addr) (w_EMPTY : Addr)  (h0 : Heap) (n0 : Nat) (v : Option Value) (h : Heap) (L : List Loc) : Prop := ∃ (b0 : Addr), v = some (.ref b0) ∧ Fr n0 L ∧ Keep h0 h [] ∧ Old Z n0 h ∧ n0 ≤ b0 ∧ h0.size ≤ b0 ∧ Exa Z h b0 "java/util/Optional" ∧ Fld Z h b0 "java/util/Optional" "value" "Ljava/lang/Object;" (.ref w_RECEIVED)
set_option maxRecDepth 65536 in
set_option maxHeartbeats 40000000 in
theorem rm_ap4_1 (l : Launch) (Z : State) (a0 : Array Value) (hw : ∀ d ∈ tables_1, d.before a0 Z = true) (ws : List Jvm.Cond) (w_Required : Addr) (w_RECEIVED : Addr) (w_NotSupported : Addr) (w_NONE : Addr) (w_RequiresNew : Addr) (w_NEW : Addr) (w_Mandatory : Addr) (w_BeanManaged : Addr) (w_Never : Addr) (w_Supports : Addr) (w_EMPTY : Addr)  (h0 : Heap) (n0 : Nat) (O0 : Old Z n0 h0) (hS : St0 Z w_Required w_RECEIVED w_NotSupported w_NONE w_RequiresNew w_NEW w_Mandatory w_BeanManaged w_Never w_Supports w_EMPTY ) :
    MetFree l (⟨"com/example/vorgang/vorgang/model/Policy", "apply", "(Z)Ljava/util/Optional;"⟩ : MethodName) (head1 (Jvm.Cond.code (⟨"com/example/vorgang/vorgang/model/Policy", "apply", "(Z)Ljava/util/Optional;"⟩ : MethodName) prog_18_method_4_code 3 (some (.object "java/util/Optional")) :: ws) ({ frames := 3, cells := 1, slots := 1, locals := 38 } : Room)) (fun aG UG => aG = #[(.ref w_Mandatory), (.int (1 : Int32))] ∧ Z.Warmed39 UG.vm ∧ UG.heap = h0) (fun _ _ _ _ _ => True) (fun _ UG oG UG' => ∃ vG LG, oG = .returned vG ∧ Q_rm_ap4_1 Z w_Required w_RECEIVED w_NotSupported w_NONE w_RequiresNew w_NEW w_Mandatory w_BeanManaged w_Never w_Supports w_EMPTY  h0 n0 vG UG'.heap LG ∧ FrameEnd UG oG UG' LG ({ frames := 3, cells := 1, slots := 1, locals := 38 } : Room).cells ({ frames := 3, cells := 1, slots := 1, locals := 38 } : Room).slots) := by
  refine MetFree.of_bodySF (plainFor_of_name pn_3) hisR ?_
  intro pG eG sG mG argsG belowG methG cG s₁ Bd hml0 hP hK
  obtain ⟨rfl, hZ, hh⟩ := hP
  have hx := Bd.exec
  have hby := Bd.bytes
  have hml : cG.maxLocals = 3 := hml0
  have hown : sG.vm.findClass "com/example/vorgang/vorgang/model/Policy" = some mG.cls := findClass_of_methodNamed Bd.named
  have hnm := (name_of_methodNamed Bd.named Bd.method).1
  have X0 : Stand pG l eG ({ frames := 3, cells := 1, slots := 1, locals := 38 } : Room) sG mG #[(.ref w_Mandatory), (.int (1 : Int32))] belowG methG cG s₁ [] 0 0 := Stand.of_body Bd
  have e0 : s₁.heap = h0 := by rw [← hh, Bd.state]; rfl
  have N0 := Fr.nil n0
  have K0 := Keep.refl h0 []
  obtain ⟨S_w_Required, E_w_Required, S_w_RECEIVED, E_w_RECEIVED, S_w_NotSupported, E_w_NotSupported, S_w_NONE, E_w_NONE, S_w_RequiresNew, E_w_RequiresNew, S_w_NEW, E_w_NEW, S_w_Mandatory, E_w_Mandatory, S_w_BeanManaged, E_w_BeanManaged, S_w_Never, E_w_Never, S_w_Supports, E_w_Supports, S_w_EMPTY, E_w_EMPTY, F_w_Required_ordinal, F_w_NotSupported_ordinal, F_w_RequiresNew_ordinal, F_w_Mandatory_ordinal, F_w_BeanManaged_ordinal, F_w_Never_ordinal, F_w_Supports_ordinal, F_w_EMPTY_value, ne_w_Required_w_NotSupported, ne_w_Required_w_RequiresNew, ne_w_Required_w_Mandatory, ne_w_Required_w_BeanManaged, ne_w_Required_w_Never, ne_w_Required_w_Supports, ne_w_NotSupported_w_RequiresNew, ne_w_NotSupported_w_Mandatory, ne_w_NotSupported_w_BeanManaged, ne_w_NotSupported_w_Never, ne_w_NotSupported_w_Supports, ne_w_RequiresNew_w_Mandatory, ne_w_RequiresNew_w_BeanManaged, ne_w_RequiresNew_w_Never, ne_w_RequiresNew_w_Supports, ne_w_Mandatory_w_BeanManaged, ne_w_Mandatory_w_Never, ne_w_Mandatory_w_Supports, ne_w_BeanManaged_w_Never, ne_w_BeanManaged_w_Supports, ne_w_Never_w_Supports⟩ := (id hS : St0 Z w_Required w_RECEIVED w_NotSupported w_NONE w_RequiresNew w_NEW w_Mandatory w_BeanManaged w_Never w_Supports w_EMPTY )
  refine ostart (g' := (mkF mG 0 #[.val (.ref w_Mandatory), .val (.int (1 : Int32)), .unset] [])) (by first | (simp [entryFrame, mkF, argsToLocals, Value.category]; done) | rfl) ?_
  refine ob s₁ (mkF mG 1 #[.val (.ref w_Mandatory), .val (.int (1 : Int32)), .unset] [(.ref w_Mandatory)]) (fun _ kk => XS.aloadN X0.here hx rfl (hb hby d2_0) rfl rfl kk) ?_
  obtain ⟨cq1, kq1, q1a, q1b, q1c⟩ := isOf hZ e0 (E_w_Mandatory.ext O0.2)
  obtain ⟨_, _, ⟨T1, L1, k1, n1⟩, -, X1, ⟨Lc1, hQ1, l1, y1, z1⟩, st1⟩ := X0.virtualBackUp hx (x := (⟨"com/example/vorgang/vorgang/model/Policy", "ordinal", "()I"⟩ : MethodName)) (y := (⟨"java/lang/Enum", "ordinal", "()I"⟩ : MethodName)) (owner := "java/lang/Enum") hown (mvT hZ (ow hw 13 rfl)) (mvT hZ (ow hw 14 rfl)) (mvT hZ (ow hw 15 rfl)) (by decide) (mvT hZ (ow hw 17 rfl)) (mvT hZ (ow hw 16 rfl)) (backOf (W := 0) (rm_ord_Mandatory l Z a0 hw [] w_Required w_RECEIVED w_NotSupported w_NONE w_RequiresNew w_NEW w_Mandatory w_BeanManaged w_Never w_Supports w_EMPTY  h0 n0 O0 hS ) hZ (ow hw 19 rfl) (ow hw 18 rfl) (by decide) (by decide)) q1a q1c (g := (mkF mG 1 #[.val (.ref w_Mandatory), .val (.int (1 : Int32)), .unset] [(.ref w_Mandatory)])) rfl (by rw [hml]; rfl) (Steps.refl _) (argsL := []) (rest := []) (lenOf pd_1 rfl) rfl (by show 2 * 0 + _ ≤ _; exact Nat.le_of_eq rfl) (hb hby d2_1) (fun _ _ => ⟨rfl, e0, (by decide : 0 + 0 ≤ _), (by decide : 0 + 0 ≤ _)⟩)
  dsimp only [Pt.U, Pt.locs, Pt.cells, Pt.slots] at X1 l1 y1 z1 st1 hQ1
  subst l1 y1 z1
  obtain ⟨rfl, N1q, e1⟩ := hQ1
  have N1 := Fr.app N0 N1q
  refine ob T1 (mkF mG 4 #[.val (.ref w_Mandatory), .val (.int (1 : Int32)), .unset] [(.int (4 : Int32))]) (fun _ kk => st1.trans kk) ?_
  refine ob T1 (mkF mG 102 #[.val (.ref w_Mandatory), .val (.int (1 : Int32)), .unset] []) (fun _ kk => XS.tswIn X1.here hx rfl (pc0 := 4) (pc' := 102) rfl (hb hby d2_4) rfl (by decide) (o := 98) (by decide) (by decide) (by decide) kk) ?_
  refine ob T1 (mkF mG 103 #[.val (.ref w_Mandatory), .val (.int (1 : Int32)), .unset] [(.int (1 : Int32))]) (fun _ kk => XS.iloadN X1.here hx rfl (hb hby d2_102) rfl kk) ?_
  refine ob T1 (mkF mG 106 #[.val (.ref w_Mandatory), .val (.int (1 : Int32)), .unset] []) (fun _ kk => XS.ifNo X1.here hx rfl (hb hby d2_103) rfl ((if0 _ _).trans (feq (by decide : ¬ ((1 : Int32) = (0 : Int32)))).1) kk) ?_
  obtain ⟨T2, X2, e2, st2⟩ := getS2 X1 hx hZ hown (host := "") (Or.inl (ow hw 22 rfl)) Via.refl e1 (S_w_RECEIVED.ext O0.2) (g := (mkF mG 106 #[.val (.ref w_Mandatory), .val (.int (1 : Int32)), .unset] [])) rfl (hb hby d2_106)
  refine ob T2 (mkF mG 109 #[.val (.ref w_Mandatory), .val (.int (1 : Int32)), .unset] [(.ref w_RECEIVED)]) (fun _ kk => st2 _ kk) ?_
  refine ob T2 (mkF mG 127 #[.val (.ref w_Mandatory), .val (.int (1 : Int32)), .unset] [(.ref w_RECEIVED)]) (fun _ kk => XS.goto X2.here hx rfl (pc0 := 109) (pc' := 127) rfl (hb hby d2_109) (by decide) (by decide) kk) ?_
  refine ob T2 (mkF mG 128 #[.val (.ref w_Mandatory), .val (.int (1 : Int32)), .val (.ref w_RECEIVED)] []) (fun _ kk => XS.astoreN X2.here hx rfl (hb hby d2_127) rfl rfl (l' := #[.val (.ref w_Mandatory), .val (.int (1 : Int32)), .val (.ref w_RECEIVED)]) rfl kk) ?_
  refine ob T2 (mkF mG 129 #[.val (.ref w_Mandatory), .val (.int (1 : Int32)), .val (.ref w_RECEIVED)] [(.ref w_RECEIVED)]) (fun _ kk => XS.aloadN X2.here hx rfl (hb hby d2_128) rfl rfl kk) ?_
  obtain ⟨_, _, ⟨T3, L3, k3, n3⟩, -, X3, ⟨Lc3, hQ3, l3, y3, z3⟩, st3⟩ := Jvm.LawKit.callS X2 hx (y := (⟨"java/util/Optional", "ofNullable", "(Ljava/lang/Object;)Ljava/util/Optional;"⟩ : MethodName)) hown (mvT hZ (ow hw 25 rfl)) (mvT hZ (ow hw 26 rfl)) (mvT hZ (ow hw 27 rfl)) (mvT hZ (ow hw 28 rfl)) (by decide) (backOf (W := 0) (rm_onS l Z a0 hw [] w_Required w_RECEIVED w_NotSupported w_NONE w_RequiresNew w_NEW w_Mandatory w_BeanManaged w_Never w_Supports w_EMPTY w_RECEIVED h0 n0 O0 hS ) hZ (ow hw 28 rfl) (ow hw 27 rfl) (by decide) (by decide)) (g := (mkF mG 129 #[.val (.ref w_Mandatory), .val (.int (1 : Int32)), .val (.ref w_RECEIVED)] [(.ref w_RECEIVED)])) rfl (by rw [hml]; rfl) (argsL := [(.ref w_RECEIVED)]) (rest := []) (lenOf pd_2 rfl) rfl (by show 2 * 0 + _ ≤ _; exact Nat.le_of_eq rfl) (hb hby d2_129) (fun _ _ => ⟨rfl, e2, (by decide : 0 + 1 ≤ _), (by decide : 0 + 1 ≤ _)⟩)
  dsimp only [Pt.U, Pt.locs, Pt.cells, Pt.slots] at X3 l3 y3 z3 st3 hQ3
  subst l3 y3 z3
  obtain ⟨h3, e3⟩ : ∃ h, T3.heap = h := ⟨_, rfl⟩
  rw [e3] at hQ3
  obtain ⟨b0_3, rfl, N3q, K3q, O3, n_b0_3, z_b0_3, F3_0, F3_1⟩ := hQ3
  have N3 := Fr.app N1 N3q
  have sz_b0_3 : h0.size ≤ b0_3 := Nat.le_trans K0.1 z_b0_3
  have K3 := K0.trans K3q all0
  refine ob T3 (mkF mG 132 #[.val (.ref w_Mandatory), .val (.int (1 : Int32)), .val (.ref w_RECEIVED)] [(.ref b0_3)]) (fun _ kk => st3 _ kk) ?_
  obtain ⟨fs, hr, hrun, hended, hW, hsame⟩ := X3.leave (v := some (.ref b0_3)) (fun h => by rw [Bd.returns] at h; cases h)
  refine oout (oretA X3 hx Bd.returns rfl rfl (hb hby d2_132) hr) hrun hended ⟨_, _, rfl, ?_, ⟨_, rfl⟩, hW, hsame.mono (by decide) (by decide)⟩
  show Q_rm_ap4_1 Z w_Required w_RECEIVED w_NotSupported w_NONE w_RequiresNew w_NEW w_Mandatory w_BeanManaged w_Never w_Supports w_EMPTY  h0 n0 _ T3.heap _
  rw [e3]
  exact ⟨b0_3, rfl, N3, K3, O3, n_b0_3, sz_b0_3, F3_0, F3_1⟩

theorem d2_116 : decode prog_18_method_4_code 116 = .ok (.iload_n 1, 1) := by decide +kernel
theorem d2_117 : decode prog_18_method_4_code 117 = .ok (.ifCond .eq 7, 3) := by decide +kernel
theorem d2_124 : decode prog_18_method_4_code 124 = .ok (.getstatic 62, 3) := by decide +kernel
def Q_rm_ap5_0 (Z : State) (w_Required : Addr) (w_RECEIVED : Addr) (w_NotSupported : Addr) (w_NONE : Addr) (w_RequiresNew : Addr) (w_NEW : Addr) (w_Mandatory : Addr) (w_BeanManaged : Addr) (w_Never : Addr) (w_Supports : Addr) (w_EMPTY : Addr)  (h0 : Heap) (n0 : Nat) (v : Option Value) (h : Heap) (L : List Loc) : Prop := ∃ (b0 : Addr), v = some (.ref b0) ∧ Fr n0 L ∧ Keep h0 h [] ∧ Old Z n0 h ∧ n0 ≤ b0 ∧ h0.size ≤ b0 ∧ Exa Z h b0 "java/util/Optional" ∧ Fld Z h b0 "java/util/Optional" "value" "Ljava/lang/Object;" (.ref w_NONE)
set_option maxRecDepth 65536 in
set_option maxHeartbeats 40000000 in
theorem rm_ap5_0 (l : Launch) (Z : State) (a0 : Array Value) (hw : ∀ d ∈ tables_1, d.before a0 Z = true) (ws : List Jvm.Cond) (w_Required : Addr) (w_RECEIVED : Addr) (w_NotSupported : Addr) (w_NONE : Addr) (w_RequiresNew : Addr) (w_NEW : Addr) (w_Mandatory : Addr) (w_BeanManaged : Addr) (w_Never : Addr) (w_Supports : Addr) (w_EMPTY : Addr)  (h0 : Heap) (n0 : Nat) (O0 : Old Z n0 h0) (hS : St0 Z w_Required w_RECEIVED w_NotSupported w_NONE w_RequiresNew w_NEW w_Mandatory w_BeanManaged w_Never w_Supports w_EMPTY ) :
    MetFree l (⟨"com/example/vorgang/vorgang/model/Policy", "apply", "(Z)Ljava/util/Optional;"⟩ : MethodName) (head1 (Jvm.Cond.code (⟨"com/example/vorgang/vorgang/model/Policy", "apply", "(Z)Ljava/util/Optional;"⟩ : MethodName) prog_18_method_4_code 3 (some (.object "java/util/Optional")) :: ws) ({ frames := 3, cells := 1, slots := 1, locals := 38 } : Room)) (fun aG UG => aG = #[(.ref w_Never), (.int (0 : Int32))] ∧ Z.Warmed39 UG.vm ∧ UG.heap = h0) (fun _ _ _ _ _ => True) (fun _ UG oG UG' => ∃ vG LG, oG = .returned vG ∧ Q_rm_ap5_0 Z w_Required w_RECEIVED w_NotSupported w_NONE w_RequiresNew w_NEW w_Mandatory w_BeanManaged w_Never w_Supports w_EMPTY  h0 n0 vG UG'.heap LG ∧ FrameEnd UG oG UG' LG ({ frames := 3, cells := 1, slots := 1, locals := 38 } : Room).cells ({ frames := 3, cells := 1, slots := 1, locals := 38 } : Room).slots) := by
  refine MetFree.of_bodySF (plainFor_of_name pn_3) hisR ?_
  intro pG eG sG mG argsG belowG methG cG s₁ Bd hml0 hP hK
  obtain ⟨rfl, hZ, hh⟩ := hP
  have hx := Bd.exec
  have hby := Bd.bytes
  have hml : cG.maxLocals = 3 := hml0
  have hown : sG.vm.findClass "com/example/vorgang/vorgang/model/Policy" = some mG.cls := findClass_of_methodNamed Bd.named
  have hnm := (name_of_methodNamed Bd.named Bd.method).1
  have X0 : Stand pG l eG ({ frames := 3, cells := 1, slots := 1, locals := 38 } : Room) sG mG #[(.ref w_Never), (.int (0 : Int32))] belowG methG cG s₁ [] 0 0 := Stand.of_body Bd
  have e0 : s₁.heap = h0 := by rw [← hh, Bd.state]; rfl
  have N0 := Fr.nil n0
  have K0 := Keep.refl h0 []
  obtain ⟨S_w_Required, E_w_Required, S_w_RECEIVED, E_w_RECEIVED, S_w_NotSupported, E_w_NotSupported, S_w_NONE, E_w_NONE, S_w_RequiresNew, E_w_RequiresNew, S_w_NEW, E_w_NEW, S_w_Mandatory, E_w_Mandatory, S_w_BeanManaged, E_w_BeanManaged, S_w_Never, E_w_Never, S_w_Supports, E_w_Supports, S_w_EMPTY, E_w_EMPTY, F_w_Required_ordinal, F_w_NotSupported_ordinal, F_w_RequiresNew_ordinal, F_w_Mandatory_ordinal, F_w_BeanManaged_ordinal, F_w_Never_ordinal, F_w_Supports_ordinal, F_w_EMPTY_value, ne_w_Required_w_NotSupported, ne_w_Required_w_RequiresNew, ne_w_Required_w_Mandatory, ne_w_Required_w_BeanManaged, ne_w_Required_w_Never, ne_w_Required_w_Supports, ne_w_NotSupported_w_RequiresNew, ne_w_NotSupported_w_Mandatory, ne_w_NotSupported_w_BeanManaged, ne_w_NotSupported_w_Never, ne_w_NotSupported_w_Supports, ne_w_RequiresNew_w_Mandatory, ne_w_RequiresNew_w_BeanManaged, ne_w_RequiresNew_w_Never, ne_w_RequiresNew_w_Supports, ne_w_Mandatory_w_BeanManaged, ne_w_Mandatory_w_Never, ne_w_Mandatory_w_Supports, ne_w_BeanManaged_w_Never, ne_w_BeanManaged_w_Supports, ne_w_Never_w_Supports⟩ := (id hS : St0 Z w_Required w_RECEIVED w_NotSupported w_NONE w_RequiresNew w_NEW w_Mandatory w_BeanManaged w_Never w_Supports w_EMPTY )
  refine ostart (g' := (mkF mG 0 #[.val (.ref w_Never), .val (.int (0 : Int32)), .unset] [])) (by first | (simp [entryFrame, mkF, argsToLocals, Value.category]; done) | rfl) ?_
  refine ob s₁ (mkF mG 1 #[.val (.ref w_Never), .val (.int (0 : Int32)), .unset] [(.ref w_Never)]) (fun _ kk => XS.aloadN X0.here hx rfl (hb hby d2_0) rfl rfl kk) ?_
  obtain ⟨cq1, kq1, q1a, q1b, q1c⟩ := isOf hZ e0 (E_w_Never.ext O0.2)
  obtain ⟨_, _, ⟨T1, L1, k1, n1⟩, -, X1, ⟨Lc1, hQ1, l1, y1, z1⟩, st1⟩ := X0.virtualBackUp hx (x := (⟨"com/example/vorgang/vorgang/model/Policy", "ordinal", "()I"⟩ : MethodName)) (y := (⟨"java/lang/Enum", "ordinal", "()I"⟩ : MethodName)) (owner := "java/lang/Enum") hown (mvT hZ (ow hw 13 rfl)) (mvT hZ (ow hw 14 rfl)) (mvT hZ (ow hw 15 rfl)) (by decide) (mvT hZ (ow hw 17 rfl)) (mvT hZ (ow hw 16 rfl)) (backOf (W := 0) (rm_ord_Never l Z a0 hw [] w_Required w_RECEIVED w_NotSupported w_NONE w_RequiresNew w_NEW w_Mandatory w_BeanManaged w_Never w_Supports w_EMPTY  h0 n0 O0 hS ) hZ (ow hw 19 rfl) (ow hw 18 rfl) (by decide) (by decide)) q1a q1c (g := (mkF mG 1 #[.val (.ref w_Never), .val (.int (0 : Int32)), .unset] [(.ref w_Never)])) rfl (by rw [hml]; rfl) (Steps.refl _) (argsL := []) (rest := []) (lenOf pd_1 rfl) rfl (by show 2 * 0 + _ ≤ _; exact Nat.le_of_eq rfl) (hb hby d2_1) (fun _ _ => ⟨rfl, e0, (by decide : 0 + 0 ≤ _), (by decide : 0 + 0 ≤ _)⟩)
  dsimp only [Pt.U, Pt.locs, Pt.cells, Pt.slots] at X1 l1 y1 z1 st1 hQ1
  subst l1 y1 z1
  obtain ⟨rfl, N1q, e1⟩ := hQ1
  have N1 := Fr.app N0 N1q
  refine ob T1 (mkF mG 4 #[.val (.ref w_Never), .val (.int (0 : Int32)), .unset] [(.int (5 : Int32))]) (fun _ kk => st1.trans kk) ?_
  refine ob T1 (mkF mG 116 #[.val (.ref w_Never), .val (.int (0 : Int32)), .unset] []) (fun _ kk => XS.tswIn X1.here hx rfl (pc0 := 4) (pc' := 116) rfl (hb hby d2_4) rfl (by decide) (o := 112) (by decide) (by decide) (by decide) kk) ?_
  refine ob T1 (mkF mG 117 #[.val (.ref w_Never), .val (.int (0 : Int32)), .unset] [(.int (0 : Int32))]) (fun _ kk => XS.iloadN X1.here hx rfl (hb hby d2_116) rfl kk) ?_
  refine ob T1 (mkF mG 124 #[.val (.ref w_Never), .val (.int (0 : Int32)), .unset] []) (fun _ kk => XS.ifYes X1.here hx rfl (pc0 := 117) (pc' := 124) rfl (hb hby d2_117) rfl ((if0 _ _).trans (teq (by decide : (0 : Int32) = (0 : Int32))).1) (by decide) (by decide) kk) ?_
  obtain ⟨T2, X2, e2, st2⟩ := getS2 X1 hx hZ hown (host := "") (Or.inl (ow hw 53 rfl)) Via.refl e1 (S_w_NONE.ext O0.2) (g := (mkF mG 124 #[.val (.ref w_Never), .val (.int (0 : Int32)), .unset] [])) rfl (hb hby d2_124)
  refine ob T2 (mkF mG 127 #[.val (.ref w_Never), .val (.int (0 : Int32)), .unset] [(.ref w_NONE)]) (fun _ kk => st2 _ kk) ?_
  refine ob T2 (mkF mG 128 #[.val (.ref w_Never), .val (.int (0 : Int32)), .val (.ref w_NONE)] []) (fun _ kk => XS.astoreN X2.here hx rfl (hb hby d2_127) rfl rfl (l' := #[.val (.ref w_Never), .val (.int (0 : Int32)), .val (.ref w_NONE)]) rfl kk) ?_
  refine ob T2 (mkF mG 129 #[.val (.ref w_Never), .val (.int (0 : Int32)), .val (.ref w_NONE)] [(.ref w_NONE)]) (fun _ kk => XS.aloadN X2.here hx rfl (hb hby d2_128) rfl rfl kk) ?_
  obtain ⟨_, _, ⟨T3, L3, k3, n3⟩, -, X3, ⟨Lc3, hQ3, l3, y3, z3⟩, st3⟩ := Jvm.LawKit.callS X2 hx (y := (⟨"java/util/Optional", "ofNullable", "(Ljava/lang/Object;)Ljava/util/Optional;"⟩ : MethodName)) hown (mvT hZ (ow hw 25 rfl)) (mvT hZ (ow hw 26 rfl)) (mvT hZ (ow hw 27 rfl)) (mvT hZ (ow hw 28 rfl)) (by decide) (backOf (W := 0) (rm_onS l Z a0 hw [] w_Required w_RECEIVED w_NotSupported w_NONE w_RequiresNew w_NEW w_Mandatory w_BeanManaged w_Never w_Supports w_EMPTY w_NONE h0 n0 O0 hS ) hZ (ow hw 28 rfl) (ow hw 27 rfl) (by decide) (by decide)) (g := (mkF mG 129 #[.val (.ref w_Never), .val (.int (0 : Int32)), .val (.ref w_NONE)] [(.ref w_NONE)])) rfl (by rw [hml]; rfl) (argsL := [(.ref w_NONE)]) (rest := []) (lenOf pd_2 rfl) rfl (by show 2 * 0 + _ ≤ _; exact Nat.le_of_eq rfl) (hb hby d2_129) (fun _ _ => ⟨rfl, e2, (by decide : 0 + 1 ≤ _), (by decide : 0 + 1 ≤ _)⟩)
  dsimp only [Pt.U, Pt.locs, Pt.cells, Pt.slots] at X3 l3 y3 z3 st3 hQ3
  subst l3 y3 z3
  obtain ⟨h3, e3⟩ : ∃ h, T3.heap = h := ⟨_, rfl⟩
  rw [e3] at hQ3
  obtain ⟨b0_3, rfl, N3q, K3q, O3, n_b0_3, z_b0_3, F3_0, F3_1⟩ := hQ3
  have N3 := Fr.app N1 N3q
  have sz_b0_3 : h0.size ≤ b0_3 := Nat.le_trans K0.1 z_b0_3
  have K3 := K0.trans K3q all0
  refine ob T3 (mkF mG 132 #[.val (.ref w_Never), .val (.int (0 : Int32)), .val (.ref w_NONE)] [(.ref b0_3)]) (fun _ kk => st3 _ kk) ?_
  obtain ⟨fs, hr, hrun, hended, hW, hsame⟩ := X3.leave (v := some (.ref b0_3)) (fun h => by rw [Bd.returns] at h; cases h)
  refine oout (oretA X3 hx Bd.returns rfl rfl (hb hby d2_132) hr) hrun hended ⟨_, _, rfl, ?_, ⟨_, rfl⟩, hW, hsame.mono (by decide) (by decide)⟩
  show Q_rm_ap5_0 Z w_Required w_RECEIVED w_NotSupported w_NONE w_RequiresNew w_NEW w_Mandatory w_BeanManaged w_Never w_Supports w_EMPTY  h0 n0 _ T3.heap _
  rw [e3]
  exact ⟨b0_3, rfl, N3, K3, O3, n_b0_3, sz_b0_3, F3_0, F3_1⟩

theorem d2_120 : decode prog_18_method_4_code 120 = .ok (.aconst_null, 1) := by decide +kernel
theorem d2_121 : decode prog_18_method_4_code 121 = .ok (.goto 6, 3) := by decide +kernel
def Q_rm_ap5_1 (Z : State) (w_Required : Addr) (w_RECEIVED : Addr) (w_NotSupported : Addr) (w_NONE : Addr) (w_RequiresNew : Addr) (w_NEW : Addr) (w_Mandatory : Addr) (w_BeanManaged : Addr) (w_Never : Addr) (w_Supports : Addr) (w_EMPTY : Addr)  (h0 : Heap) (n0 : Nat) (v : Option Value) (h : Heap) (L : List Loc) : Prop := v = some (.ref w_EMPTY) ∧ Fr n0 L ∧ h = h0
set_option maxRecDepth 65536 in
set_option maxHeartbeats 40000000 in
theorem rm_ap5_1 (l : Launch) (Z : State) (a0 : Array Value) (hw : ∀ d ∈ tables_1, d.before a0 Z = true) (ws : List Jvm.Cond) (w_Required : Addr) (w_RECEIVED : Addr) (w_NotSupported : Addr) (w_NONE : Addr) (w_RequiresNew : Addr) (w_NEW : Addr) (w_Mandatory : Addr) (w_BeanManaged : Addr) (w_Never : Addr) (w_Supports : Addr) (w_EMPTY : Addr)  (h0 : Heap) (n0 : Nat) (O0 : Old Z n0 h0) (hS : St0 Z w_Required w_RECEIVED w_NotSupported w_NONE w_RequiresNew w_NEW w_Mandatory w_BeanManaged w_Never w_Supports w_EMPTY ) :
    MetFree l (⟨"com/example/vorgang/vorgang/model/Policy", "apply", "(Z)Ljava/util/Optional;"⟩ : MethodName) (head1 (Jvm.Cond.code (⟨"com/example/vorgang/vorgang/model/Policy", "apply", "(Z)Ljava/util/Optional;"⟩ : MethodName) prog_18_method_4_code 3 (some (.object "java/util/Optional")) :: ws) ({ frames := 1, cells := 0, slots := 0, locals := 12 } : Room)) (fun aG UG => aG = #[(.ref w_Never), (.int (1 : Int32))] ∧ Z.Warmed39 UG.vm ∧ UG.heap = h0) (fun _ _ _ _ _ => True) (fun _ UG oG UG' => ∃ vG LG, oG = .returned vG ∧ Q_rm_ap5_1 Z w_Required w_RECEIVED w_NotSupported w_NONE w_RequiresNew w_NEW w_Mandatory w_BeanManaged w_Never w_Supports w_EMPTY  h0 n0 vG UG'.heap LG ∧ FrameEnd UG oG UG' LG ({ frames := 1, cells := 0, slots := 0, locals := 12 } : Room).cells ({ frames := 1, cells := 0, slots := 0, locals := 12 } : Room).slots) := by
  refine MetFree.of_bodySF (plainFor_of_name pn_3) hisR ?_
  intro pG eG sG mG argsG belowG methG cG s₁ Bd hml0 hP hK
  obtain ⟨rfl, hZ, hh⟩ := hP
  have hx := Bd.exec
  have hby := Bd.bytes
  have hml : cG.maxLocals = 3 := hml0
  have hown : sG.vm.findClass "com/example/vorgang/vorgang/model/Policy" = some mG.cls := findClass_of_methodNamed Bd.named
  have hnm := (name_of_methodNamed Bd.named Bd.method).1
  have X0 : Stand pG l eG ({ frames := 1, cells := 0, slots := 0, locals := 12 } : Room) sG mG #[(.ref w_Never), (.int (1 : Int32))] belowG methG cG s₁ [] 0 0 := Stand.of_body Bd
  have e0 : s₁.heap = h0 := by rw [← hh, Bd.state]; rfl
  have N0 := Fr.nil n0
  have K0 := Keep.refl h0 []
  obtain ⟨S_w_Required, E_w_Required, S_w_RECEIVED, E_w_RECEIVED, S_w_NotSupported, E_w_NotSupported, S_w_NONE, E_w_NONE, S_w_RequiresNew, E_w_RequiresNew, S_w_NEW, E_w_NEW, S_w_Mandatory, E_w_Mandatory, S_w_BeanManaged, E_w_BeanManaged, S_w_Never, E_w_Never, S_w_Supports, E_w_Supports, S_w_EMPTY, E_w_EMPTY, F_w_Required_ordinal, F_w_NotSupported_ordinal, F_w_RequiresNew_ordinal, F_w_Mandatory_ordinal, F_w_BeanManaged_ordinal, F_w_Never_ordinal, F_w_Supports_ordinal, F_w_EMPTY_value, ne_w_Required_w_NotSupported, ne_w_Required_w_RequiresNew, ne_w_Required_w_Mandatory, ne_w_Required_w_BeanManaged, ne_w_Required_w_Never, ne_w_Required_w_Supports, ne_w_NotSupported_w_RequiresNew, ne_w_NotSupported_w_Mandatory, ne_w_NotSupported_w_BeanManaged, ne_w_NotSupported_w_Never, ne_w_NotSupported_w_Supports, ne_w_RequiresNew_w_Mandatory, ne_w_RequiresNew_w_BeanManaged, ne_w_RequiresNew_w_Never, ne_w_RequiresNew_w_Supports, ne_w_Mandatory_w_BeanManaged, ne_w_Mandatory_w_Never, ne_w_Mandatory_w_Supports, ne_w_BeanManaged_w_Never, ne_w_BeanManaged_w_Supports, ne_w_Never_w_Supports⟩ := (id hS : St0 Z w_Required w_RECEIVED w_NotSupported w_NONE w_RequiresNew w_NEW w_Mandatory w_BeanManaged w_Never w_Supports w_EMPTY )
  refine ostart (g' := (mkF mG 0 #[.val (.ref w_Never), .val (.int (1 : Int32)), .unset] [])) (by first | (simp [entryFrame, mkF, argsToLocals, Value.category]; done) | rfl) ?_
  refine ob s₁ (mkF mG 1 #[.val (.ref w_Never), .val (.int (1 : Int32)), .unset] [(.ref w_Never)]) (fun _ kk => XS.aloadN X0.here hx rfl (hb hby d2_0) rfl rfl kk) ?_
  obtain ⟨cq1, kq1, q1a, q1b, q1c⟩ := isOf hZ e0 (E_w_Never.ext O0.2)
  obtain ⟨_, _, ⟨T1, L1, k1, n1⟩, -, X1, ⟨Lc1, hQ1, l1, y1, z1⟩, st1⟩ := X0.virtualBackUp hx (x := (⟨"com/example/vorgang/vorgang/model/Policy", "ordinal", "()I"⟩ : MethodName)) (y := (⟨"java/lang/Enum", "ordinal", "()I"⟩ : MethodName)) (owner := "java/lang/Enum") hown (mvT hZ (ow hw 13 rfl)) (mvT hZ (ow hw 14 rfl)) (mvT hZ (ow hw 15 rfl)) (by decide) (mvT hZ (ow hw 17 rfl)) (mvT hZ (ow hw 16 rfl)) (backOf (W := 0) (rm_ord_Never l Z a0 hw [] w_Required w_RECEIVED w_NotSupported w_NONE w_RequiresNew w_NEW w_Mandatory w_BeanManaged w_Never w_Supports w_EMPTY  h0 n0 O0 hS ) hZ (ow hw 19 rfl) (ow hw 18 rfl) (by decide) (by decide)) q1a q1c (g := (mkF mG 1 #[.val (.ref w_Never), .val (.int (1 : Int32)), .unset] [(.ref w_Never)])) rfl (by rw [hml]; rfl) (Steps.refl _) (argsL := []) (rest := []) (lenOf pd_1 rfl) rfl (by show 2 * 0 + _ ≤ _; exact Nat.le_of_eq rfl) (hb hby d2_1) (fun _ _ => ⟨rfl, e0, (by decide : 0 + 0 ≤ _), (by decide : 0 + 0 ≤ _)⟩)
  dsimp only [Pt.U, Pt.locs, Pt.cells, Pt.slots] at X1 l1 y1 z1 st1 hQ1
  subst l1 y1 z1
  obtain ⟨rfl, N1q, e1⟩ := hQ1
  have N1 := Fr.app N0 N1q
  refine ob T1 (mkF mG 4 #[.val (.ref w_Never), .val (.int (1 : Int32)), .unset] [(.int (5 : Int32))]) (fun _ kk => st1.trans kk) ?_
  refine ob T1 (mkF mG 116 #[.val (.ref w_Never), .val (.int (1 : Int32)), .unset] []) (fun _ kk => XS.tswIn X1.here hx rfl (pc0 := 4) (pc' := 116) rfl (hb hby d2_4) rfl (by decide) (o := 112) (by decide) (by decide) (by decide) kk) ?_
  refine ob T1 (mkF mG 117 #[.val (.ref w_Never), .val (.int (1 : Int32)), .unset] [(.int (1 : Int32))]) (fun _ kk => XS.iloadN X1.here hx rfl (hb hby d2_116) rfl kk) ?_
  refine ob T1 (mkF mG 120 #[.val (.ref w_Never), .val (.int (1 : Int32)), .unset] []) (fun _ kk => XS.ifNo X1.here hx rfl (hb hby d2_117) rfl ((if0 _ _).trans (feq (by decide : ¬ ((1 : Int32) = (0 : Int32)))).1) kk) ?_
  refine ob T1 (mkF mG 121 #[.val (.ref w_Never), .val (.int (1 : Int32)), .unset] [.null]) (fun _ kk => XS.aconstNull X1.here hx rfl (hb hby d2_120) kk) ?_
  refine ob T1 (mkF mG 127 #[.val (.ref w_Never), .val (.int (1 : Int32)), .unset] [.null]) (fun _ kk => XS.goto X1.here hx rfl (pc0 := 121) (pc' := 127) rfl (hb hby d2_121) (by decide) (by decide) kk) ?_
  refine ob T1 (mkF mG 128 #[.val (.ref w_Never), .val (.int (1 : Int32)), .val .null] []) (fun _ kk => XS.astoreN X1.here hx rfl (hb hby d2_127) rfl rfl (l' := #[.val (.ref w_Never), .val (.int (1 : Int32)), .val .null]) rfl kk) ?_
  refine ob T1 (mkF mG 129 #[.val (.ref w_Never), .val (.int (1 : Int32)), .val .null] [.null]) (fun _ kk => XS.aloadN X1.here hx rfl (hb hby d2_128) rfl rfl kk) ?_
  obtain ⟨_, _, ⟨T2, L2, k2, n2⟩, -, X2, ⟨Lc2, hQ2, l2, y2, z2⟩, st2⟩ := Jvm.LawKit.callS X1 hx (y := (⟨"java/util/Optional", "ofNullable", "(Ljava/lang/Object;)Ljava/util/Optional;"⟩ : MethodName)) hown (mvT hZ (ow hw 25 rfl)) (mvT hZ (ow hw 26 rfl)) (mvT hZ (ow hw 27 rfl)) (mvT hZ (ow hw 28 rfl)) (by decide) (backOf (W := 0) (rm_onN l Z a0 hw [] w_Required w_RECEIVED w_NotSupported w_NONE w_RequiresNew w_NEW w_Mandatory w_BeanManaged w_Never w_Supports w_EMPTY  h0 n0 O0 hS ) hZ (ow hw 28 rfl) (ow hw 27 rfl) (by decide) (by decide)) (g := (mkF mG 129 #[.val (.ref w_Never), .val (.int (1 : Int32)), .val .null] [.null])) rfl (by rw [hml]; rfl) (argsL := [.null]) (rest := []) (lenOf pd_2 rfl) rfl (by show 2 * 0 + _ ≤ _; exact Nat.le_of_eq rfl) (hb hby d2_129) (fun _ _ => ⟨rfl, e1, (by decide : 0 + 0 ≤ _), (by decide : 0 + 0 ≤ _)⟩)
  dsimp only [Pt.U, Pt.locs, Pt.cells, Pt.slots] at X2 l2 y2 z2 st2 hQ2
  subst l2 y2 z2
  obtain ⟨rfl, N2q, e2⟩ := hQ2
  have N2 := Fr.app N1 N2q
  refine ob T2 (mkF mG 132 #[.val (.ref w_Never), .val (.int (1 : Int32)), .val .null] [(.ref w_EMPTY)]) (fun _ kk => st2 _ kk) ?_
  obtain ⟨fs, hr, hrun, hended, hW, hsame⟩ := X2.leave (v := some (.ref w_EMPTY)) (fun h => by rw [Bd.returns] at h; cases h)
  refine oout (oretA X2 hx Bd.returns rfl rfl (hb hby d2_132) hr) hrun hended ⟨_, _, rfl, ?_, ⟨_, rfl⟩, hW, hsame.mono (by decide) (by decide)⟩
  show Q_rm_ap5_1 Z w_Required w_RECEIVED w_NotSupported w_NONE w_RequiresNew w_NEW w_Mandatory w_BeanManaged w_Never w_Supports w_EMPTY  h0 n0 _ T2.heap _
  rw [e2]
  exact ⟨rfl, N2, rfl⟩

def Q_rm_ap6_0 (Z : State) (w_Required : Addr) (w_RECEIVED : Addr) (w_NotSupported : Addr) (w_NONE : Addr) (w_RequiresNew : Addr) (w_NEW : Addr) (w_Mandatory : Addr) (w_BeanManaged : Addr) (w_Never : Addr) (w_Supports : Addr) (w_EMPTY : Addr)  (h0 : Heap) (n0 : Nat) (v : Option Value) (h : Heap) (L : List Loc) : Prop := ∃ (b0 : Addr), v = some (.ref b0) ∧ Fr n0 L ∧ Keep h0 h [] ∧ Old Z n0 h ∧ n0 ≤ b0 ∧ h0.size ≤ b0 ∧ Exa Z h b0 "java/util/Optional" ∧ Fld Z h b0 "java/util/Optional" "value" "Ljava/lang/Object;" (.ref w_NONE)
set_option maxRecDepth 65536 in
set_option maxHeartbeats 40000000 in
theorem rm_ap6_0 (l : Launch) (Z : State) (a0 : Array Value) (hw : ∀ d ∈ tables_1, d.before a0 Z = true) (ws : List Jvm.Cond) (w_Required : Addr) (w_RECEIVED : Addr) (w_NotSupported : Addr) (w_NONE : Addr) (w_RequiresNew : Addr) (w_NEW : Addr) (w_Mandatory : Addr) (w_BeanManaged : Addr) (w_Never : Addr) (w_Supports : Addr) (w_EMPTY : Addr)  (h0 : Heap) (n0 : Nat) (O0 : Old Z n0 h0) (hS : St0 Z w_Required w_RECEIVED w_NotSupported w_NONE w_RequiresNew w_NEW w_Mandatory w_BeanManaged w_Never w_Supports w_EMPTY ) :
    MetFree l (⟨"com/example/vorgang/vorgang/model/Policy", "apply", "(Z)Ljava/util/Optional;"⟩ : MethodName) (head1 (Jvm.Cond.code (⟨"com/example/vorgang/vorgang/model/Policy", "apply", "(Z)Ljava/util/Optional;"⟩ : MethodName) prog_18_method_4_code 3 (some (.object "java/util/Optional")) :: ws) ({ frames := 3, cells := 1, slots := 1, locals := 38 } : Room)) (fun aG UG => aG = #[(.ref w_BeanManaged), (.int (0 : Int32))] ∧ Z.Warmed39 UG.vm ∧ UG.heap = h0) (fun _ _ _ _ _ => True) (fun _ UG oG UG' => ∃ vG LG, oG = .returned vG ∧ Q_rm_ap6_0 Z w_Required w_RECEIVED w_NotSupported w_NONE w_RequiresNew w_NEW w_Mandatory w_BeanManaged w_Never w_Supports w_EMPTY  h0 n0 vG UG'.heap LG ∧ FrameEnd UG oG UG' LG ({ frames := 3, cells := 1, slots := 1, locals := 38 } : Room).cells ({ frames := 3, cells := 1, slots := 1, locals := 38 } : Room).slots) := by
  refine MetFree.of_bodySF (plainFor_of_name pn_3) hisR ?_
  intro pG eG sG mG argsG belowG methG cG s₁ Bd hml0 hP hK
  obtain ⟨rfl, hZ, hh⟩ := hP
  have hx := Bd.exec
  have hby := Bd.bytes
  have hml : cG.maxLocals = 3 := hml0
  have hown : sG.vm.findClass "com/example/vorgang/vorgang/model/Policy" = some mG.cls := findClass_of_methodNamed Bd.named
  have hnm := (name_of_methodNamed Bd.named Bd.method).1
  have X0 : Stand pG l eG ({ frames := 3, cells := 1, slots := 1, locals := 38 } : Room) sG mG #[(.ref w_BeanManaged), (.int (0 : Int32))] belowG methG cG s₁ [] 0 0 := Stand.of_body Bd
  have e0 : s₁.heap = h0 := by rw [← hh, Bd.state]; rfl
  have N0 := Fr.nil n0
  have K0 := Keep.refl h0 []
  obtain ⟨S_w_Required, E_w_Required, S_w_RECEIVED, E_w_RECEIVED, S_w_NotSupported, E_w_NotSupported, S_w_NONE, E_w_NONE, S_w_RequiresNew, E_w_RequiresNew, S_w_NEW, E_w_NEW, S_w_Mandatory, E_w_Mandatory, S_w_BeanManaged, E_w_BeanManaged, S_w_Never, E_w_Never, S_w_Supports, E_w_Supports, S_w_EMPTY, E_w_EMPTY, F_w_Required_ordinal, F_w_NotSupported_ordinal, F_w_RequiresNew_ordinal, F_w_Mandatory_ordinal, F_w_BeanManaged_ordinal, F_w_Never_ordinal, F_w_Supports_ordinal, F_w_EMPTY_value, ne_w_Required_w_NotSupported, ne_w_Required_w_RequiresNew, ne_w_Required_w_Mandatory, ne_w_Required_w_BeanManaged, ne_w_Required_w_Never, ne_w_Required_w_Supports, ne_w_NotSupported_w_RequiresNew, ne_w_NotSupported_w_Mandatory, ne_w_NotSupported_w_BeanManaged, ne_w_NotSupported_w_Never, ne_w_NotSupported_w_Supports, ne_w_RequiresNew_w_Mandatory, ne_w_RequiresNew_w_BeanManaged, ne_w_RequiresNew_w_Never, ne_w_RequiresNew_w_Supports, ne_w_Mandatory_w_BeanManaged, ne_w_Mandatory_w_Never, ne_w_Mandatory_w_Supports, ne_w_BeanManaged_w_Never, ne_w_BeanManaged_w_Supports, ne_w_Never_w_Supports⟩ := (id hS : St0 Z w_Required w_RECEIVED w_NotSupported w_NONE w_RequiresNew w_NEW w_Mandatory w_BeanManaged w_Never w_Supports w_EMPTY )
  refine ostart (g' := (mkF mG 0 #[.val (.ref w_BeanManaged), .val (.int (0 : Int32)), .unset] [])) (by first | (simp [entryFrame, mkF, argsToLocals, Value.category]; done) | rfl) ?_
  refine ob s₁ (mkF mG 1 #[.val (.ref w_BeanManaged), .val (.int (0 : Int32)), .unset] [(.ref w_BeanManaged)]) (fun _ kk => XS.aloadN X0.here hx rfl (hb hby d2_0) rfl rfl kk) ?_
  obtain ⟨cq1, kq1, q1a, q1b, q1c⟩ := isOf hZ e0 (E_w_BeanManaged.ext O0.2)
  obtain ⟨_, _, ⟨T1, L1, k1, n1⟩, -, X1, ⟨Lc1, hQ1, l1, y1, z1⟩, st1⟩ := X0.virtualBackUp hx (x := (⟨"com/example/vorgang/vorgang/model/Policy", "ordinal", "()I"⟩ : MethodName)) (y := (⟨"java/lang/Enum", "ordinal", "()I"⟩ : MethodName)) (owner := "java/lang/Enum") hown (mvT hZ (ow hw 13 rfl)) (mvT hZ (ow hw 14 rfl)) (mvT hZ (ow hw 15 rfl)) (by decide) (mvT hZ (ow hw 17 rfl)) (mvT hZ (ow hw 16 rfl)) (backOf (W := 0) (rm_ord_BeanManaged l Z a0 hw [] w_Required w_RECEIVED w_NotSupported w_NONE w_RequiresNew w_NEW w_Mandatory w_BeanManaged w_Never w_Supports w_EMPTY  h0 n0 O0 hS ) hZ (ow hw 19 rfl) (ow hw 18 rfl) (by decide) (by decide)) q1a q1c (g := (mkF mG 1 #[.val (.ref w_BeanManaged), .val (.int (0 : Int32)), .unset] [(.ref w_BeanManaged)])) rfl (by rw [hml]; rfl) (Steps.refl _) (argsL := []) (rest := []) (lenOf pd_1 rfl) rfl (by show 2 * 0 + _ ≤ _; exact Nat.le_of_eq rfl) (hb hby d2_1) (fun _ _ => ⟨rfl, e0, (by decide : 0 + 0 ≤ _), (by decide : 0 + 0 ≤ _)⟩)
  dsimp only [Pt.U, Pt.locs, Pt.cells, Pt.slots] at X1 l1 y1 z1 st1 hQ1
  subst l1 y1 z1
  obtain ⟨rfl, N1q, e1⟩ := hQ1
  have N1 := Fr.app N0 N1q
  refine ob T1 (mkF mG 4 #[.val (.ref w_BeanManaged), .val (.int (0 : Int32)), .unset] [(.int (6 : Int32))]) (fun _ kk => st1.trans kk) ?_
  refine ob T1 (mkF mG 96 #[.val (.ref w_BeanManaged), .val (.int (0 : Int32)), .unset] []) (fun _ kk => XS.tswIn X1.here hx rfl (pc0 := 4) (pc' := 96) rfl (hb hby d2_4) rfl (by decide) (o := 92) (by decide) (by decide) (by decide) kk) ?_
  obtain ⟨T2, X2, e2, st2⟩ := getS2 X1 hx hZ hown (host := "") (Or.inl (ow hw 53 rfl)) Via.refl e1 (S_w_NONE.ext O0.2) (g := (mkF mG 96 #[.val (.ref w_BeanManaged), .val (.int (0 : Int32)), .unset] [])) rfl (hb hby d2_96)
  refine ob T2 (mkF mG 99 #[.val (.ref w_BeanManaged), .val (.int (0 : Int32)), .unset] [(.ref w_NONE)]) (fun _ kk => st2 _ kk) ?_
  refine ob T2 (mkF mG 127 #[.val (.ref w_BeanManaged), .val (.int (0 : Int32)), .unset] [(.ref w_NONE)]) (fun _ kk => XS.goto X2.here hx rfl (pc0 := 99) (pc' := 127) rfl (hb hby d2_99) (by decide) (by decide) kk) ?_
  refine ob T2 (mkF mG 128 #[.val (.ref w_BeanManaged), .val (.int (0 : Int32)), .val (.ref w_NONE)] []) (fun _ kk => XS.astoreN X2.here hx rfl (hb hby d2_127) rfl rfl (l' := #[.val (.ref w_BeanManaged), .val (.int (0 : Int32)), .val (.ref w_NONE)]) rfl kk) ?_
  refine ob T2 (mkF mG 129 #[.val (.ref w_BeanManaged), .val (.int (0 : Int32)), .val (.ref w_NONE)] [(.ref w_NONE)]) (fun _ kk => XS.aloadN X2.here hx rfl (hb hby d2_128) rfl rfl kk) ?_
  obtain ⟨_, _, ⟨T3, L3, k3, n3⟩, -, X3, ⟨Lc3, hQ3, l3, y3, z3⟩, st3⟩ := Jvm.LawKit.callS X2 hx (y := (⟨"java/util/Optional", "ofNullable", "(Ljava/lang/Object;)Ljava/util/Optional;"⟩ : MethodName)) hown (mvT hZ (ow hw 25 rfl)) (mvT hZ (ow hw 26 rfl)) (mvT hZ (ow hw 27 rfl)) (mvT hZ (ow hw 28 rfl)) (by decide) (backOf (W := 0) (rm_onS l Z a0 hw [] w_Required w_RECEIVED w_NotSupported w_NONE w_RequiresNew w_NEW w_Mandatory w_BeanManaged w_Never w_Supports w_EMPTY w_NONE h0 n0 O0 hS ) hZ (ow hw 28 rfl) (ow hw 27 rfl) (by decide) (by decide)) (g := (mkF mG 129 #[.val (.ref w_BeanManaged), .val (.int (0 : Int32)), .val (.ref w_NONE)] [(.ref w_NONE)])) rfl (by rw [hml]; rfl) (argsL := [(.ref w_NONE)]) (rest := []) (lenOf pd_2 rfl) rfl (by show 2 * 0 + _ ≤ _; exact Nat.le_of_eq rfl) (hb hby d2_129) (fun _ _ => ⟨rfl, e2, (by decide : 0 + 1 ≤ _), (by decide : 0 + 1 ≤ _)⟩)
  dsimp only [Pt.U, Pt.locs, Pt.cells, Pt.slots] at X3 l3 y3 z3 st3 hQ3
  subst l3 y3 z3
  obtain ⟨h3, e3⟩ : ∃ h, T3.heap = h := ⟨_, rfl⟩
  rw [e3] at hQ3
  obtain ⟨b0_3, rfl, N3q, K3q, O3, n_b0_3, z_b0_3, F3_0, F3_1⟩ := hQ3
  have N3 := Fr.app N1 N3q
  have sz_b0_3 : h0.size ≤ b0_3 := Nat.le_trans K0.1 z_b0_3
  have K3 := K0.trans K3q all0
  refine ob T3 (mkF mG 132 #[.val (.ref w_BeanManaged), .val (.int (0 : Int32)), .val (.ref w_NONE)] [(.ref b0_3)]) (fun _ kk => st3 _ kk) ?_
  obtain ⟨fs, hr, hrun, hended, hW, hsame⟩ := X3.leave (v := some (.ref b0_3)) (fun h => by rw [Bd.returns] at h; cases h)
  refine oout (oretA X3 hx Bd.returns rfl rfl (hb hby d2_132) hr) hrun hended ⟨_, _, rfl, ?_, ⟨_, rfl⟩, hW, hsame.mono (by decide) (by decide)⟩
  show Q_rm_ap6_0 Z w_Required w_RECEIVED w_NotSupported w_NONE w_RequiresNew w_NEW w_Mandatory w_BeanManaged w_Never w_Supports w_EMPTY  h0 n0 _ T3.heap _
  rw [e3]
  exact ⟨b0_3, rfl, N3, K3, O3, n_b0_3, sz_b0_3, F3_0, F3_1⟩

def Q_rm_ap6_1 (Z : State) (w_Required : Addr) (w_RECEIVED : Addr) (w_NotSupported : Addr) (w_NONE : Addr) (w_RequiresNew : Addr) (w_NEW : Addr) (w_Mandatory : Addr) (w_BeanManaged : Addr) (w_Never : Addr) (w_Supports : Addr) (w_EMPTY : Addr)  (h0 : Heap) (n0 : Nat) (v : Option Value) (h : Heap) (L : List Loc) : Prop := ∃ (b0 : Addr), v = some (.ref b0) ∧ Fr n0 L ∧ Keep h0 h [] ∧ Old Z n0 h ∧ n0 ≤ b0 ∧ h0.size ≤ b0 ∧ Exa Z h b0 "java/util/Optional" ∧ Fld Z h b0 "java/util/Optional" "value" "Ljava/lang/Object;" (.ref w_NONE)
set_option maxRecDepth 65536 in
set_option maxHeartbeats 40000000 in
theorem rm_ap6_1 (l : Launch) (Z : State) (a0 : Array Value) (hw : ∀ d ∈ tables_1, d.before a0 Z = true) (ws : List Jvm.Cond) (w_Required : Addr) (w_RECEIVED : Addr) (w_NotSupported : Addr) (w_NONE : Addr) (w_RequiresNew : Addr) (w_NEW : Addr) (w_Mandatory : Addr) (w_BeanManaged : Addr) (w_Never : Addr) (w_Supports : Addr) (w_EMPTY : Addr)  (h0 : Heap) (n0 : Nat) (O0 : Old Z n0 h0) (hS : St0 Z w_Required w_RECEIVED w_NotSupported w_NONE w_RequiresNew w_NEW w_Mandatory w_BeanManaged w_Never w_Supports w_EMPTY ) :
    MetFree l (⟨"com/example/vorgang/vorgang/model/Policy", "apply", "(Z)Ljava/util/Optional;"⟩ : MethodName) (head1 (Jvm.Cond.code (⟨"com/example/vorgang/vorgang/model/Policy", "apply", "(Z)Ljava/util/Optional;"⟩ : MethodName) prog_18_method_4_code 3 (some (.object "java/util/Optional")) :: ws) ({ frames := 3, cells := 1, slots := 1, locals := 38 } : Room)) (fun aG UG => aG = #[(.ref w_BeanManaged), (.int (1 : Int32))] ∧ Z.Warmed39 UG.vm ∧ UG.heap = h0) (fun _ _ _ _ _ => True) (fun _ UG oG UG' => ∃ vG LG, oG = .returned vG ∧ Q_rm_ap6_1 Z w_Required w_RECEIVED w_NotSupported w_NONE w_RequiresNew w_NEW w_Mandatory w_BeanManaged w_Never w_Supports w_EMPTY  h0 n0 vG UG'.heap LG ∧ FrameEnd UG oG UG' LG ({ frames := 3, cells := 1, slots := 1, locals := 38 } : Room).cells ({ frames := 3, cells := 1, slots := 1, locals := 38 } : Room).slots) := by
  refine MetFree.of_bodySF (plainFor_of_name pn_3) hisR ?_
  intro pG eG sG mG argsG belowG methG cG s₁ Bd hml0 hP hK
  obtain ⟨rfl, hZ, hh⟩ := hP
  have hx := Bd.exec
  have hby := Bd.bytes
  have hml : cG.maxLocals = 3 := hml0
  have hown : sG.vm.findClass "com/example/vorgang/vorgang/model/Policy" = some mG.cls := findClass_of_methodNamed Bd.named
  have hnm := (name_of_methodNamed Bd.named Bd.method).1
  have X0 : Stand pG l eG ({ frames := 3, cells := 1, slots := 1, locals := 38 } : Room) sG mG #[(.ref w_BeanManaged), (.int (1 : Int32))] belowG methG cG s₁ [] 0 0 := Stand.of_body Bd
  have e0 : s₁.heap = h0 := by rw [← hh, Bd.state]; rfl
  have N0 := Fr.nil n0
  have K0 := Keep.refl h0 []
  obtain ⟨S_w_Required, E_w_Required, S_w_RECEIVED, E_w_RECEIVED, S_w_NotSupported, E_w_NotSupported, S_w_NONE, E_w_NONE, S_w_RequiresNew, E_w_RequiresNew, S_w_NEW, E_w_NEW, S_w_Mandatory, E_w_Mandatory, S_w_BeanManaged, E_w_BeanManaged, S_w_Never, E_w_Never, S_w_Supports, E_w_Supports, S_w_EMPTY, E_w_EMPTY, F_w_Required_ordinal, F_w_NotSupported_ordinal, F_w_RequiresNew_ordinal, F_w_Mandatory_ordinal, F_w_BeanManaged_ordinal, F_w_Never_ordinal, F_w_Supports_ordinal, F_w_EMPTY_value, ne_w_Required_w_NotSupported, ne_w_Required_w_RequiresNew, ne_w_Required_w_Mandatory, ne_w_Required_w_BeanManaged, ne_w_Required_w_Never, ne_w_Required_w_Supports, ne_w_NotSupported_w_RequiresNew, ne_w_NotSupported_w_Mandatory, ne_w_NotSupported_w_BeanManaged, ne_w_NotSupported_w_Never, ne_w_NotSupported_w_Supports, ne_w_RequiresNew_w_Mandatory, ne_w_RequiresNew_w_BeanManaged, ne_w_RequiresNew_w_Never, ne_w_RequiresNew_w_Supports, ne_w_Mandatory_w_BeanManaged, ne_w_Mandatory_w_Never, ne_w_Mandatory_w_Supports, ne_w_BeanManaged_w_Never, ne_w_BeanManaged_w_Supports, ne_w_Never_w_Supports⟩ := (id hS : St0 Z w_Required w_RECEIVED w_NotSupported w_NONE w_RequiresNew w_NEW w_Mandatory w_BeanManaged w_Never w_Supports w_EMPTY )
  refine ostart (g' := (mkF mG 0 #[.val (.ref w_BeanManaged), .val (.int (1 : Int32)), .unset] [])) (by first | (simp [entryFrame, mkF, argsToLocals, Value.category]; done) | rfl) ?_
  refine ob s₁ (mkF mG 1 #[.val (.ref w_BeanManaged), .val (.int (1 : Int32)), .unset] [(.ref w_BeanManaged)]) (fun _ kk => XS.aloadN X0.here hx rfl (hb hby d2_0) rfl rfl kk) ?_
  obtain ⟨cq1, kq1, q1a, q1b, q1c⟩ := isOf hZ e0 (E_w_BeanManaged.ext O0.2)
  obtain ⟨_, _, ⟨T1, L1, k1, n1⟩, -, X1, ⟨Lc1, hQ1, l1, y1, z1⟩, st1⟩ := X0.virtualBackUp hx (x := (⟨"com/example/vorgang/vorgang/model/Policy", "ordinal", "()I"⟩ : MethodName)) (y := (⟨"java/lang/Enum", "ordinal", "()I"⟩ : MethodName)) (owner := "java/lang/Enum") hown (mvT hZ (ow hw 13 rfl)) (mvT hZ (ow hw 14 rfl)) (mvT hZ (ow hw 15 rfl)) (by decide) (mvT hZ (ow hw 17 rfl)) (mvT hZ (ow hw 16 rfl)) (backOf (W := 0) (rm_ord_BeanManaged l Z a0 hw [] w_Required w_RECEIVED w_NotSupported w_NONE w_RequiresNew w_NEW w_Mandatory w_BeanManaged w_Never w_Supports w_EMPTY  h0 n0 O0 hS ) hZ (ow hw 19 rfl) (ow hw 18 rfl) (by decide) (by decide)) q1a q1c (g := (mkF mG 1 #[.val (.ref w_BeanManaged), .val (.int (1 : Int32)), .unset] [(.ref w_BeanManaged)])) rfl (by rw [hml]; rfl) (Steps.refl _) (argsL := []) (rest := []) (lenOf pd_1 rfl) rfl (by show 2 * 0 + _ ≤ _; exact Nat.le_of_eq rfl) (hb hby d2_1) (fun _ _ => ⟨rfl, e0, (by decide : 0 + 0 ≤ _), (by decide : 0 + 0 ≤ _)⟩)
  dsimp only [Pt.U, Pt.locs, Pt.cells, Pt.slots] at X1 l1 y1 z1 st1 hQ1
  subst l1 y1 z1
  obtain ⟨rfl, N1q, e1⟩ := hQ1
  have N1 := Fr.app N0 N1q
  refine ob T1 (mkF mG 4 #[.val (.ref w_BeanManaged), .val (.int (1 : Int32)), .unset] [(.int (6 : Int32))]) (fun _ kk => st1.trans kk) ?_
  refine ob T1 (mkF mG 96 #[.val (.ref w_BeanManaged), .val (.int (1 : Int32)), .unset] []) (fun _ kk => XS.tswIn X1.here hx rfl (pc0 := 4) (pc' := 96) rfl (hb hby d2_4) rfl (by decide) (o := 92) (by decide) (by decide) (by decide) kk) ?_
  obtain ⟨T2, X2, e2, st2⟩ := getS2 X1 hx hZ hown (host := "") (Or.inl (ow hw 53 rfl)) Via.refl e1 (S_w_NONE.ext O0.2) (g := (mkF mG 96 #[.val (.ref w_BeanManaged), .val (.int (1 : Int32)), .unset] [])) rfl (hb hby d2_96)
  refine ob T2 (mkF mG 99 #[.val (.ref w_BeanManaged), .val (.int (1 : Int32)), .unset] [(.ref w_NONE)]) (fun _ kk => st2 _ kk) ?_
  refine ob T2 (mkF mG 127 #[.val (.ref w_BeanManaged), .val (.int (1 : Int32)), .unset] [(.ref w_NONE)]) (fun _ kk => XS.goto X2.here hx rfl (pc0 := 99) (pc' := 127) rfl (hb hby d2_99) (by decide) (by decide) kk) ?_
  refine ob T2 (mkF mG 128 #[.val (.ref w_BeanManaged), .val (.int (1 : Int32)), .val (.ref w_NONE)] []) (fun _ kk => XS.astoreN X2.here hx rfl (hb hby d2_127) rfl rfl (l' := #[.val (.ref w_BeanManaged), .val (.int (1 : Int32)), .val (.ref w_NONE)]) rfl kk) ?_
  refine ob T2 (mkF mG 129 #[.val (.ref w_BeanManaged), .val (.int (1 : Int32)), .val (.ref w_NONE)] [(.ref w_NONE)]) (fun _ kk => XS.aloadN X2.here hx rfl (hb hby d2_128) rfl rfl kk) ?_
  obtain ⟨_, _, ⟨T3, L3, k3, n3⟩, -, X3, ⟨Lc3, hQ3, l3, y3, z3⟩, st3⟩ := Jvm.LawKit.callS X2 hx (y := (⟨"java/util/Optional", "ofNullable", "(Ljava/lang/Object;)Ljava/util/Optional;"⟩ : MethodName)) hown (mvT hZ (ow hw 25 rfl)) (mvT hZ (ow hw 26 rfl)) (mvT hZ (ow hw 27 rfl)) (mvT hZ (ow hw 28 rfl)) (by decide) (backOf (W := 0) (rm_onS l Z a0 hw [] w_Required w_RECEIVED w_NotSupported w_NONE w_RequiresNew w_NEW w_Mandatory w_BeanManaged w_Never w_Supports w_EMPTY w_NONE h0 n0 O0 hS ) hZ (ow hw 28 rfl) (ow hw 27 rfl) (by decide) (by decide)) (g := (mkF mG 129 #[.val (.ref w_BeanManaged), .val (.int (1 : Int32)), .val (.ref w_NONE)] [(.ref w_NONE)])) rfl (by rw [hml]; rfl) (argsL := [(.ref w_NONE)]) (rest := []) (lenOf pd_2 rfl) rfl (by show 2 * 0 + _ ≤ _; exact Nat.le_of_eq rfl) (hb hby d2_129) (fun _ _ => ⟨rfl, e2, (by decide : 0 + 1 ≤ _), (by decide : 0 + 1 ≤ _)⟩)
  dsimp only [Pt.U, Pt.locs, Pt.cells, Pt.slots] at X3 l3 y3 z3 st3 hQ3
  subst l3 y3 z3
  obtain ⟨h3, e3⟩ : ∃ h, T3.heap = h := ⟨_, rfl⟩
  rw [e3] at hQ3
  obtain ⟨b0_3, rfl, N3q, K3q, O3, n_b0_3, z_b0_3, F3_0, F3_1⟩ := hQ3
  have N3 := Fr.app N1 N3q
  have sz_b0_3 : h0.size ≤ b0_3 := Nat.le_trans K0.1 z_b0_3
  have K3 := K0.trans K3q all0
  refine ob T3 (mkF mG 132 #[.val (.ref w_BeanManaged), .val (.int (1 : Int32)), .val (.ref w_NONE)] [(.ref b0_3)]) (fun _ kk => st3 _ kk) ?_
  obtain ⟨fs, hr, hrun, hended, hW, hsame⟩ := X3.leave (v := some (.ref b0_3)) (fun h => by rw [Bd.returns] at h; cases h)
  refine oout (oretA X3 hx Bd.returns rfl rfl (hb hby d2_132) hr) hrun hended ⟨_, _, rfl, ?_, ⟨_, rfl⟩, hW, hsame.mono (by decide) (by decide)⟩
  show Q_rm_ap6_1 Z w_Required w_RECEIVED w_NotSupported w_NONE w_RequiresNew w_NEW w_Mandatory w_BeanManaged w_Never w_Supports w_EMPTY  h0 n0 _ T3.heap _
  rw [e3]
  exact ⟨b0_3, rfl, N3, K3, O3, n_b0_3, sz_b0_3, F3_0, F3_1⟩

theorem d7_0 : decode jdk_32_method_6_code 0 = .ok (.aload_n 0, 1) := by decide +kernel
theorem d7_1 : decode jdk_32_method_6_code 1 = .ok (.getfield 13, 3) := by decide +kernel
theorem d7_4 : decode jdk_32_method_6_code 4 = .ok (.ifnull 7, 3) := by decide +kernel
theorem d7_11 : decode jdk_32_method_6_code 11 = .ok (.iconst 0, 1) := by decide +kernel
theorem d7_12 : decode jdk_32_method_6_code 12 = .ok (.ireturn, 1) := by decide +kernel
def Q_rm_ipE (Z : State) (w_Required : Addr) (w_RECEIVED : Addr) (w_NotSupported : Addr) (w_NONE : Addr) (w_RequiresNew : Addr) (w_NEW : Addr) (w_Mandatory : Addr) (w_BeanManaged : Addr) (w_Never : Addr) (w_Supports : Addr) (w_EMPTY : Addr)  (h0 : Heap) (n0 : Nat) (v : Option Value) (h : Heap) (L : List Loc) : Prop := v = some (.int (0 : Int32)) ∧ Fr n0 L ∧ h = h0
set_option maxRecDepth 65536 in
set_option maxHeartbeats 40000000 in
theorem rm_ipE (l : Launch) (Z : State) (a0 : Array Value) (hw : ∀ d ∈ tables_1, d.before a0 Z = true) (ws : List Jvm.Cond) (w_Required : Addr) (w_RECEIVED : Addr) (w_NotSupported : Addr) (w_NONE : Addr) (w_RequiresNew : Addr) (w_NEW : Addr) (w_Mandatory : Addr) (w_BeanManaged : Addr) (w_Never : Addr) (w_Supports : Addr) (w_EMPTY : Addr)  (h0 : Heap) (n0 : Nat) (O0 : Old Z n0 h0) (hS : St0 Z w_Required w_RECEIVED w_NotSupported w_NONE w_RequiresNew w_NEW w_Mandatory w_BeanManaged w_Never w_Supports w_EMPTY ) :
    MetFree l (⟨"java/util/Optional", "isPresent", "()Z"⟩ : MethodName) (head1 (Jvm.Cond.code (⟨"java/util/Optional", "isPresent", "()Z"⟩ : MethodName) jdk_32_method_6_code 1 (some .boolean) :: ws) ({ frames := 0, cells := 0, slots := 0, locals := 0 } : Room)) (fun aG UG => aG = #[(.ref w_EMPTY)] ∧ Z.Warmed39 UG.vm ∧ UG.heap = h0) (fun _ _ _ _ _ => True) (fun _ UG oG UG' => ∃ vG LG, oG = .returned vG ∧ Q_rm_ipE Z w_Required w_RECEIVED w_NotSupported w_NONE w_RequiresNew w_NEW w_Mandatory w_BeanManaged w_Never w_Supports w_EMPTY  h0 n0 vG UG'.heap LG ∧ FrameEnd UG oG UG' LG ({ frames := 0, cells := 0, slots := 0, locals := 0 } : Room).cells ({ frames := 0, cells := 0, slots := 0, locals := 0 } : Room).slots) := by
  refine MetFree.of_bodySF (plainFor_of_name pn_1) hisR ?_
  intro pG eG sG mG argsG belowG methG cG s₁ Bd hml0 hP hK
  obtain ⟨rfl, hZ, hh⟩ := hP
  have hx := Bd.exec
  have hby := Bd.bytes
  have hml : cG.maxLocals = 1 := hml0
  have hown : sG.vm.findClass "java/util/Optional" = some mG.cls := findClass_of_methodNamed Bd.named
  have hnm := (name_of_methodNamed Bd.named Bd.method).1
  have X0 : Stand pG l eG ({ frames := 0, cells := 0, slots := 0, locals := 0 } : Room) sG mG #[(.ref w_EMPTY)] belowG methG cG s₁ [] 0 0 := Stand.of_body Bd
  have e0 : s₁.heap = h0 := by rw [← hh, Bd.state]; rfl
  have N0 := Fr.nil n0
  have K0 := Keep.refl h0 []
  obtain ⟨S_w_Required, E_w_Required, S_w_RECEIVED, E_w_RECEIVED, S_w_NotSupported, E_w_NotSupported, S_w_NONE, E_w_NONE, S_w_RequiresNew, E_w_RequiresNew, S_w_NEW, E_w_NEW, S_w_Mandatory, E_w_Mandatory, S_w_BeanManaged, E_w_BeanManaged, S_w_Never, E_w_Never, S_w_Supports, E_w_Supports, S_w_EMPTY, E_w_EMPTY, F_w_Required_ordinal, F_w_NotSupported_ordinal, F_w_RequiresNew_ordinal, F_w_Mandatory_ordinal, F_w_BeanManaged_ordinal, F_w_Never_ordinal, F_w_Supports_ordinal, F_w_EMPTY_value, ne_w_Required_w_NotSupported, ne_w_Required_w_RequiresNew, ne_w_Required_w_Mandatory, ne_w_Required_w_BeanManaged, ne_w_Required_w_Never, ne_w_Required_w_Supports, ne_w_NotSupported_w_RequiresNew, ne_w_NotSupported_w_Mandatory, ne_w_NotSupported_w_BeanManaged, ne_w_NotSupported_w_Never, ne_w_NotSupported_w_Supports, ne_w_RequiresNew_w_Mandatory, ne_w_RequiresNew_w_BeanManaged, ne_w_RequiresNew_w_Never, ne_w_RequiresNew_w_Supports, ne_w_Mandatory_w_BeanManaged, ne_w_Mandatory_w_Never, ne_w_Mandatory_w_Supports, ne_w_BeanManaged_w_Never, ne_w_BeanManaged_w_Supports, ne_w_Never_w_Supports⟩ := (id hS : St0 Z w_Required w_RECEIVED w_NotSupported w_NONE w_RequiresNew w_NEW w_Mandatory w_BeanManaged w_Never w_Supports w_EMPTY )
  refine ostart (g' := (mkF mG 0 #[.val (.ref w_EMPTY)] [])) (by first | (simp [entryFrame, mkF, argsToLocals, Value.category]; done) | rfl) ?_
  refine ob s₁ (mkF mG 1 #[.val (.ref w_EMPTY)] [(.ref w_EMPTY)]) (fun _ kk => XS.aloadN X0.here hx rfl (hb hby d7_0) rfl rfl kk) ?_
  obtain ⟨T1, X1, e1, st1⟩ := getF X0 hx hZ hown (host := "") (Or.inl (ow hw 38 rfl)) Via.refl e0 (F_w_EMPTY_value.ext O0.2) (g := (mkF mG 1 #[.val (.ref w_EMPTY)] [(.ref w_EMPTY)])) rfl rfl (hb hby d7_1)
  refine ob T1 (mkF mG 4 #[.val (.ref w_EMPTY)] [.null]) (fun _ kk => st1 _ kk) ?_
  refine ob T1 (mkF mG 11 #[.val (.ref w_EMPTY)] []) (fun _ kk => XS.ifnullYes X1.here hx rfl (pc0 := 4) (pc' := 11) rfl (hb hby d7_4) rfl (by decide) (by decide) kk) ?_
  refine ob T1 (mkF mG 12 #[.val (.ref w_EMPTY)] [(.int (0 : Int32))]) (fun _ kk => XS.iconst X1.here hx rfl (hb hby d7_11) kk) ?_
  obtain ⟨fs, hr, hrun, hended, hW, hsame⟩ := X1.leave (v := some (.int (0 : Int32))) (fun h => by rw [Bd.returns] at h; cases h)
  refine oout (retN X1 hx (t := .boolean) Bd.returns (by simp) (hb hby d7_12) hr) hrun hended ⟨_, _, rfl, ?_, ⟨_, rfl⟩, hW, hsame.mono (by decide) (by decide)⟩
  show Q_rm_ipE Z w_Required w_RECEIVED w_NotSupported w_NONE w_RequiresNew w_NEW w_Mandatory w_BeanManaged w_Never w_Supports w_EMPTY  h0 n0 _ T1.heap _
  rw [e1]
  exact ⟨rfl, N0, rfl⟩

theorem d7_7 : decode jdk_32_method_6_code 7 = .ok (.iconst 1, 1) := by decide +kernel
theorem d7_8 : decode jdk_32_method_6_code 8 = .ok (.goto 4, 3) := by decide +kernel
def Q_rm_ipS (Z : State) (w_Required : Addr) (w_RECEIVED : Addr) (w_NotSupported : Addr) (w_NONE : Addr) (w_RequiresNew : Addr) (w_NEW : Addr) (w_Mandatory : Addr) (w_BeanManaged : Addr) (w_Never : Addr) (w_Supports : Addr) (w_EMPTY : Addr) (a : Addr) (o : Addr) (h0 : Heap) (n0 : Nat) (v : Option Value) (h : Heap) (L : List Loc) : Prop := v = some (.int (1 : Int32)) ∧ Fr n0 L ∧ h = h0
set_option maxRecDepth 65536 in
set_option maxHeartbeats 40000000 in
theorem rm_ipS (l : Launch) (Z : State) (a0 : Array Value) (hw : ∀ d ∈ tables_1, d.before a0 Z = true) (ws : List Jvm.Cond) (w_Required : Addr) (w_RECEIVED : Addr) (w_NotSupported : Addr) (w_NONE : Addr) (w_RequiresNew : Addr) (w_NEW : Addr) (w_Mandatory : Addr) (w_BeanManaged : Addr) (w_Never : Addr) (w_Supports : Addr) (w_EMPTY : Addr) (a : Addr) (o : Addr) (h0 : Heap) (n0 : Nat) (O0 : Old Z n0 h0) (hS : St0 Z w_Required w_RECEIVED w_NotSupported w_NONE w_RequiresNew w_NEW w_Mandatory w_BeanManaged w_Never w_Supports w_EMPTY ) (F_a : Fld Z h0 a "java/util/Optional" "value" "Ljava/lang/Object;" (.ref o)) :
    MetFree l (⟨"java/util/Optional", "isPresent", "()Z"⟩ : MethodName) (head1 (Jvm.Cond.code (⟨"java/util/Optional", "isPresent", "()Z"⟩ : MethodName) jdk_32_method_6_code 1 (some .boolean) :: ws) ({ frames := 0, cells := 0, slots := 0, locals := 0 } : Room)) (fun aG UG => aG = #[(.ref a)] ∧ Z.Warmed39 UG.vm ∧ UG.heap = h0) (fun _ _ _ _ _ => True) (fun _ UG oG UG' => ∃ vG LG, oG = .returned vG ∧ Q_rm_ipS Z w_Required w_RECEIVED w_NotSupported w_NONE w_RequiresNew w_NEW w_Mandatory w_BeanManaged w_Never w_Supports w_EMPTY a o h0 n0 vG UG'.heap LG ∧ FrameEnd UG oG UG' LG ({ frames := 0, cells := 0, slots := 0, locals := 0 } : Room).cells ({ frames := 0, cells := 0, slots := 0, locals := 0 } : Room).slots) := by
  refine MetFree.of_bodySF (plainFor_of_name pn_1) hisR ?_
  intro pG eG sG mG argsG belowG methG cG s₁ Bd hml0 hP hK
  obtain ⟨rfl, hZ, hh⟩ := hP
  have hx := Bd.exec
  have hby := Bd.bytes
  have hml : cG.maxLocals = 1 := hml0
  have hown : sG.vm.findClass "java/util/Optional" = some mG.cls := findClass_of_methodNamed Bd.named
  have hnm := (name_of_methodNamed Bd.named Bd.method).1
  have X0 : Stand pG l eG ({ frames := 0, cells := 0, slots := 0, locals := 0 } : Room) sG mG #[(.ref a)] belowG methG cG s₁ [] 0 0 := Stand.of_body Bd
  have e0 : s₁.heap = h0 := by rw [← hh, Bd.state]; rfl
  have N0 := Fr.nil n0
  have K0 := Keep.refl h0 []
  obtain ⟨S_w_Required, E_w_Required, S_w_RECEIVED, E_w_RECEIVED, S_w_NotSupported, E_w_NotSupported, S_w_NONE, E_w_NONE, S_w_RequiresNew, E_w_RequiresNew, S_w_NEW, E_w_NEW, S_w_Mandatory, E_w_Mandatory, S_w_BeanManaged, E_w_BeanManaged, S_w_Never, E_w_Never, S_w_Supports, E_w_Supports, S_w_EMPTY, E_w_EMPTY, F_w_Required_ordinal, F_w_NotSupported_ordinal, F_w_RequiresNew_ordinal, F_w_Mandatory_ordinal, F_w_BeanManaged_ordinal, F_w_Never_ordinal, F_w_Supports_ordinal, F_w_EMPTY_value, ne_w_Required_w_NotSupported, ne_w_Required_w_RequiresNew, ne_w_Required_w_Mandatory, ne_w_Required_w_BeanManaged, ne_w_Required_w_Never, ne_w_Required_w_Supports, ne_w_NotSupported_w_RequiresNew, ne_w_NotSupported_w_Mandatory, ne_w_NotSupported_w_BeanManaged, ne_w_NotSupported_w_Never, ne_w_NotSupported_w_Supports, ne_w_RequiresNew_w_Mandatory, ne_w_RequiresNew_w_BeanManaged, ne_w_RequiresNew_w_Never, ne_w_RequiresNew_w_Supports, ne_w_Mandatory_w_BeanManaged, ne_w_Mandatory_w_Never, ne_w_Mandatory_w_Supports, ne_w_BeanManaged_w_Never, ne_w_BeanManaged_w_Supports, ne_w_Never_w_Supports⟩ := (id hS : St0 Z w_Required w_RECEIVED w_NotSupported w_NONE w_RequiresNew w_NEW w_Mandatory w_BeanManaged w_Never w_Supports w_EMPTY )
  refine ostart (g' := (mkF mG 0 #[.val (.ref a)] [])) (by first | (simp [entryFrame, mkF, argsToLocals, Value.category]; done) | rfl) ?_
  refine ob s₁ (mkF mG 1 #[.val (.ref a)] [(.ref a)]) (fun _ kk => XS.aloadN X0.here hx rfl (hb hby d7_0) rfl rfl kk) ?_
  obtain ⟨T1, X1, e1, st1⟩ := getF X0 hx hZ hown (host := "") (Or.inl (ow hw 38 rfl)) Via.refl e0 F_a (g := (mkF mG 1 #[.val (.ref a)] [(.ref a)])) rfl rfl (hb hby d7_1)
  refine ob T1 (mkF mG 4 #[.val (.ref a)] [(.ref o)]) (fun _ kk => st1 _ kk) ?_
  refine ob T1 (mkF mG 7 #[.val (.ref a)] []) (fun _ kk => XS.ifnullNo X1.here hx rfl (hb hby d7_4) rfl kk) ?_
  refine ob T1 (mkF mG 8 #[.val (.ref a)] [(.int (1 : Int32))]) (fun _ kk => XS.iconst X1.here hx rfl (hb hby d7_7) kk) ?_
  refine ob T1 (mkF mG 12 #[.val (.ref a)] [(.int (1 : Int32))]) (fun _ kk => XS.goto X1.here hx rfl (pc0 := 8) (pc' := 12) rfl (hb hby d7_8) (by decide) (by decide) kk) ?_
  obtain ⟨fs, hr, hrun, hended, hW, hsame⟩ := X1.leave (v := some (.int (1 : Int32))) (fun h => by rw [Bd.returns] at h; cases h)
  refine oout (retN X1 hx (t := .boolean) Bd.returns (by simp) (hb hby d7_12) hr) hrun hended ⟨_, _, rfl, ?_, ⟨_, rfl⟩, hW, hsame.mono (by decide) (by decide)⟩
  show Q_rm_ipS Z w_Required w_RECEIVED w_NotSupported w_NONE w_RequiresNew w_NEW w_Mandatory w_BeanManaged w_Never w_Supports w_EMPTY a o h0 n0 _ T1.heap _
  rw [e1]
  exact ⟨rfl, N0, rfl⟩

theorem d8_0 : decode jdk_32_method_5_code 0 = .ok (.aload_n 0, 1) := by decide +kernel
theorem d8_1 : decode jdk_32_method_5_code 1 = .ok (.getfield 13, 3) := by decide +kernel
theorem d8_4 : decode jdk_32_method_5_code 4 = .ok (.ifnonnull 13, 3) := by decide +kernel
theorem d8_17 : decode jdk_32_method_5_code 17 = .ok (.aload_n 0, 1) := by decide +kernel
theorem d8_18 : decode jdk_32_method_5_code 18 = .ok (.getfield 13, 3) := by decide +kernel
theorem d8_21 : decode jdk_32_method_5_code 21 = .ok (.areturn, 1) := by decide +kernel
def Q_rm_get (Z : State) (w_Required : Addr) (w_RECEIVED : Addr) (w_NotSupported : Addr) (w_NONE : Addr) (w_RequiresNew : Addr) (w_NEW : Addr) (w_Mandatory : Addr) (w_BeanManaged : Addr) (w_Never : Addr) (w_Supports : Addr) (w_EMPTY : Addr) (a : Addr) (o : Addr) (h0 : Heap) (n0 : Nat) (v : Option Value) (h : Heap) (L : List Loc) : Prop := v = some (.ref o) ∧ Fr n0 L ∧ h = h0
set_option maxRecDepth 65536 in
set_option maxHeartbeats 40000000 in
theorem rm_get (l : Launch) (Z : State) (a0 : Array Value) (hw : ∀ d ∈ tables_1, d.before a0 Z = true) (ws : List Jvm.Cond) (w_Required : Addr) (w_RECEIVED : Addr) (w_NotSupported : Addr) (w_NONE : Addr) (w_RequiresNew : Addr) (w_NEW : Addr) (w_Mandatory : Addr) (w_BeanManaged : Addr) (w_Never : Addr) (w_Supports : Addr) (w_EMPTY : Addr) (a : Addr) (o : Addr) (h0 : Heap) (n0 : Nat) (O0 : Old Z n0 h0) (hS : St0 Z w_Required w_RECEIVED w_NotSupported w_NONE w_RequiresNew w_NEW w_Mandatory w_BeanManaged w_Never w_Supports w_EMPTY ) (F_a : Fld Z h0 a "java/util/Optional" "value" "Ljava/lang/Object;" (.ref o)) :
    MetFree l (⟨"java/util/Optional", "get", "()Ljava/lang/Object;"⟩ : MethodName) (head1 (Jvm.Cond.code (⟨"java/util/Optional", "get", "()Ljava/lang/Object;"⟩ : MethodName) jdk_32_method_5_code 1 (some (.object "java/lang/Object")) :: ws) ({ frames := 0, cells := 0, slots := 0, locals := 0 } : Room)) (fun aG UG => aG = #[(.ref a)] ∧ Z.Warmed39 UG.vm ∧ UG.heap = h0) (fun _ _ _ _ _ => True) (fun _ UG oG UG' => ∃ vG LG, oG = .returned vG ∧ Q_rm_get Z w_Required w_RECEIVED w_NotSupported w_NONE w_RequiresNew w_NEW w_Mandatory w_BeanManaged w_Never w_Supports w_EMPTY a o h0 n0 vG UG'.heap LG ∧ FrameEnd UG oG UG' LG ({ frames := 0, cells := 0, slots := 0, locals := 0 } : Room).cells ({ frames := 0, cells := 0, slots := 0, locals := 0 } : Room).slots) := by
  refine MetFree.of_bodySF (plainFor_of_name pn_1) hisR ?_
  intro pG eG sG mG argsG belowG methG cG s₁ Bd hml0 hP hK
  obtain ⟨rfl, hZ, hh⟩ := hP
  have hx := Bd.exec
  have hby := Bd.bytes
  have hml : cG.maxLocals = 1 := hml0
  have hown : sG.vm.findClass "java/util/Optional" = some mG.cls := findClass_of_methodNamed Bd.named
  have hnm := (name_of_methodNamed Bd.named Bd.method).1
  have X0 : Stand pG l eG ({ frames := 0, cells := 0, slots := 0, locals := 0 } : Room) sG mG #[(.ref a)] belowG methG cG s₁ [] 0 0 := Stand.of_body Bd
  have e0 : s₁.heap = h0 := by rw [← hh, Bd.state]; rfl
  have N0 := Fr.nil n0
  have K0 := Keep.refl h0 []
  obtain ⟨S_w_Required, E_w_Required, S_w_RECEIVED, E_w_RECEIVED, S_w_NotSupported, E_w_NotSupported, S_w_NONE, E_w_NONE, S_w_RequiresNew, E_w_RequiresNew, S_w_NEW, E_w_NEW, S_w_Mandatory, E_w_Mandatory, S_w_BeanManaged, E_w_BeanManaged, S_w_Never, E_w_Never, S_w_Supports, E_w_Supports, S_w_EMPTY, E_w_EMPTY, F_w_Required_ordinal, F_w_NotSupported_ordinal, F_w_RequiresNew_ordinal, F_w_Mandatory_ordinal, F_w_BeanManaged_ordinal, F_w_Never_ordinal, F_w_Supports_ordinal, F_w_EMPTY_value, ne_w_Required_w_NotSupported, ne_w_Required_w_RequiresNew, ne_w_Required_w_Mandatory, ne_w_Required_w_BeanManaged, ne_w_Required_w_Never, ne_w_Required_w_Supports, ne_w_NotSupported_w_RequiresNew, ne_w_NotSupported_w_Mandatory, ne_w_NotSupported_w_BeanManaged, ne_w_NotSupported_w_Never, ne_w_NotSupported_w_Supports, ne_w_RequiresNew_w_Mandatory, ne_w_RequiresNew_w_BeanManaged, ne_w_RequiresNew_w_Never, ne_w_RequiresNew_w_Supports, ne_w_Mandatory_w_BeanManaged, ne_w_Mandatory_w_Never, ne_w_Mandatory_w_Supports, ne_w_BeanManaged_w_Never, ne_w_BeanManaged_w_Supports, ne_w_Never_w_Supports⟩ := (id hS : St0 Z w_Required w_RECEIVED w_NotSupported w_NONE w_RequiresNew w_NEW w_Mandatory w_BeanManaged w_Never w_Supports w_EMPTY )
  refine ostart (g' := (mkF mG 0 #[.val (.ref a)] [])) (by first | (simp [entryFrame, mkF, argsToLocals, Value.category]; done) | rfl) ?_
  refine ob s₁ (mkF mG 1 #[.val (.ref a)] [(.ref a)]) (fun _ kk => XS.aloadN X0.here hx rfl (hb hby d8_0) rfl rfl kk) ?_
  obtain ⟨T1, X1, e1, st1⟩ := getF X0 hx hZ hown (host := "") (Or.inl (ow hw 38 rfl)) Via.refl e0 F_a (g := (mkF mG 1 #[.val (.ref a)] [(.ref a)])) rfl rfl (hb hby d8_1)
  refine ob T1 (mkF mG 4 #[.val (.ref a)] [(.ref o)]) (fun _ kk => st1 _ kk) ?_
  refine ob T1 (mkF mG 17 #[.val (.ref a)] []) (fun _ kk => XS.ifnonnullYes X1.here hx rfl (pc0 := 4) (pc' := 17) rfl (hb hby d8_4) rfl (by decide) (by decide) kk) ?_
  refine ob T1 (mkF mG 18 #[.val (.ref a)] [(.ref a)]) (fun _ kk => XS.aloadN X1.here hx rfl (hb hby d8_17) rfl rfl kk) ?_
  obtain ⟨T2, X2, e2, st2⟩ := getF X1 hx hZ hown (host := "") (Or.inl (ow hw 38 rfl)) Via.refl e1 F_a (g := (mkF mG 18 #[.val (.ref a)] [(.ref a)])) rfl rfl (hb hby d8_18)
  refine ob T2 (mkF mG 21 #[.val (.ref a)] [(.ref o)]) (fun _ kk => st2 _ kk) ?_
  obtain ⟨fs, hr, hrun, hended, hW, hsame⟩ := X2.leave (v := some (.ref o)) (fun h => by rw [Bd.returns] at h; cases h)
  refine oout (oretA X2 hx Bd.returns rfl rfl (hb hby d8_21) hr) hrun hended ⟨_, _, rfl, ?_, ⟨_, rfl⟩, hW, hsame.mono (by decide) (by decide)⟩
  show Q_rm_get Z w_Required w_RECEIVED w_NotSupported w_NONE w_RequiresNew w_NEW w_Mandatory w_BeanManaged w_Never w_Supports w_EMPTY a o h0 n0 _ T2.heap _
  rw [e2]
  exact ⟨rfl, N0, rfl⟩

theorem own_k7 (p : Int32) : ∃ k : Int32, ((p &&& (2147483647 : Int32)) % (7 : Int32)) = k ∧ (k = 0 ∨ k = 1 ∨ k = 2 ∨ k = 3 ∨ k = 4 ∨ k = 5 ∨ k = 6) := by
  refine ⟨_, rfl, ?_⟩
  have h1 := c_mask p (2147483647 : Int32) 31 (by decide) (by decide)
  have h2 := (c_irem (p &&& (2147483647 : Int32)) (7 : Int32) 7 (by decide)).1 (by omega)
  generalize (p &&& (2147483647 : Int32)) % (7 : Int32) = k at *
  have h3 : k.toInt = 0 ∨ k.toInt = 1 ∨ k.toInt = 2 ∨ k.toInt = 3 ∨ k.toInt = 4 ∨ k.toInt = 5 ∨ k.toInt = 6 := by omega
  rcases h3 with h | h | h | h | h | h | h
  · exact Or.inl (Int32.toInt_inj.mp (h.trans (by decide)))
  · exact Or.inr (Or.inl (Int32.toInt_inj.mp (h.trans (by decide))))
  · exact Or.inr (Or.inr (Or.inl (Int32.toInt_inj.mp (h.trans (by decide)))))
  · exact Or.inr (Or.inr (Or.inr (Or.inl (Int32.toInt_inj.mp (h.trans (by decide))))))
  · exact Or.inr (Or.inr (Or.inr (Or.inr (Or.inl (Int32.toInt_inj.mp (h.trans (by decide)))))))
  · exact Or.inr (Or.inr (Or.inr (Or.inr (Or.inr (Or.inl (Int32.toInt_inj.mp (h.trans (by decide))))))))
  · exact Or.inr (Or.inr (Or.inr (Or.inr (Or.inr (Or.inr (Int32.toInt_inj.mp (h.trans (by decide))))))))

theorem pd_3 : parseMethodDescriptor "(I)Lcom/example/vorgang/vorgang/model/Policy;" = some ⟨[.int], some (.object "com/example/vorgang/vorgang/model/Policy")⟩ := by decide +kernel
theorem pd_4 : parseMethodDescriptor "(Z)Ljava/util/Optional;" = some ⟨[.boolean], some (.object "java/util/Optional")⟩ := by decide +kernel
theorem pd_5 : parseMethodDescriptor "()Z" = some ⟨[], some .boolean⟩ := by decide +kernel
theorem pd_6 : parseMethodDescriptor "()Ljava/lang/Object;" = some ⟨[], some (.object "java/lang/Object")⟩ := by decide +kernel
def Q_rm0 (Z : State) (w_Required : Addr) (w_RECEIVED : Addr) (w_NotSupported : Addr) (w_NONE : Addr) (w_RequiresNew : Addr) (w_NEW : Addr) (w_Mandatory : Addr) (w_BeanManaged : Addr) (w_Never : Addr) (w_Supports : Addr) (w_EMPTY : Addr) (p0 : Int32) (p1 : Int32) (h0 : Heap) (n0 : Nat) (v : Option Value) (h : Heap) (L : List Loc) : Prop := v = some (.int (1 : Int32)) ∧ Fr n0 L
set_option maxRecDepth 65536 in
set_option maxHeartbeats 40000000 in
theorem rm0 (l : Launch) (Z : State) (a0 : Array Value) (hw : ∀ d ∈ tables_1, d.before a0 Z = true) (ws : List Jvm.Cond) (w_Required : Addr) (w_RECEIVED : Addr) (w_NotSupported : Addr) (w_NONE : Addr) (w_RequiresNew : Addr) (w_NEW : Addr) (w_Mandatory : Addr) (w_BeanManaged : Addr) (w_Never : Addr) (w_Supports : Addr) (w_EMPTY : Addr) (p0 : Int32) (p1 : Int32) (h0 : Heap) (n0 : Nat) (O0 : Old Z n0 h0) (hS : St0 Z w_Required w_RECEIVED w_NotSupported w_NONE w_RequiresNew w_NEW w_Mandatory w_BeanManaged w_Never w_Supports w_EMPTY ) :
    MetFree l x (head1 (Jvm.Cond.code x code maxLocals ret :: ws) room_1) (fun aG UG => aG = #[(.int p0), (.int p1)] ∧ Z.Warmed39 UG.vm ∧ UG.heap = h0) (fun _ _ _ _ _ => True) (fun _ UG oG UG' => ∃ vG LG, oG = .returned vG ∧ Q_rm0 Z w_Required w_RECEIVED w_NotSupported w_NONE w_RequiresNew w_NEW w_Mandatory w_BeanManaged w_Never w_Supports w_EMPTY p0 p1 h0 n0 vG UG'.heap LG ∧ FrameEnd UG oG UG' LG 16 128) := by
  refine MetFree.of_bodySF (plainFor_of_name pn_0) hisR ?_
  intro pG eG sG mG argsG belowG methG cG s₁ Bd hml0 hP hK
  obtain ⟨rfl, hZ, hh⟩ := hP
  have hx := Bd.exec
  have hby := Bd.bytes
  have hml : cG.maxLocals = 9 := hml0
  have hown : sG.vm.findClass "com/example/vorgang/vorgang/model/PolicyApplyPinLaw" = some mG.cls := findClass_of_methodNamed Bd.named
  have hnm := (name_of_methodNamed Bd.named Bd.method).1
  have X0 : Stand pG l eG room_1 sG mG #[(.int p0), (.int p1)] belowG methG cG s₁ [] 0 0 := Stand.of_body Bd
  have e0 : s₁.heap = h0 := by rw [← hh, Bd.state]; rfl
  have N0 := Fr.nil n0
  have K0 := Keep.refl h0 []
  obtain ⟨S_w_Required, E_w_Required, S_w_RECEIVED, E_w_RECEIVED, S_w_NotSupported, E_w_NotSupported, S_w_NONE, E_w_NONE, S_w_RequiresNew, E_w_RequiresNew, S_w_NEW, E_w_NEW, S_w_Mandatory, E_w_Mandatory, S_w_BeanManaged, E_w_BeanManaged, S_w_Never, E_w_Never, S_w_Supports, E_w_Supports, S_w_EMPTY, E_w_EMPTY, F_w_Required_ordinal, F_w_NotSupported_ordinal, F_w_RequiresNew_ordinal, F_w_Mandatory_ordinal, F_w_BeanManaged_ordinal, F_w_Never_ordinal, F_w_Supports_ordinal, F_w_EMPTY_value, ne_w_Required_w_NotSupported, ne_w_Required_w_RequiresNew, ne_w_Required_w_Mandatory, ne_w_Required_w_BeanManaged, ne_w_Required_w_Never, ne_w_Required_w_Supports, ne_w_NotSupported_w_RequiresNew, ne_w_NotSupported_w_Mandatory, ne_w_NotSupported_w_BeanManaged, ne_w_NotSupported_w_Never, ne_w_NotSupported_w_Supports, ne_w_RequiresNew_w_Mandatory, ne_w_RequiresNew_w_BeanManaged, ne_w_RequiresNew_w_Never, ne_w_RequiresNew_w_Supports, ne_w_Mandatory_w_BeanManaged, ne_w_Mandatory_w_Never, ne_w_Mandatory_w_Supports, ne_w_BeanManaged_w_Never, ne_w_BeanManaged_w_Supports, ne_w_Never_w_Supports⟩ := (id hS : St0 Z w_Required w_RECEIVED w_NotSupported w_NONE w_RequiresNew w_NEW w_Mandatory w_BeanManaged w_Never w_Supports w_EMPTY )
  refine ostart (g' := (mkF mG 0 #[.val (.int p0), .val (.int p1), .unset, .unset, .unset, .unset, .unset, .unset, .unset] [])) (by first | (simp [entryFrame, mkF, argsToLocals, Value.category, maxLocals]; done) | rfl) ?_
  refine ob s₁ (mkF mG 1 #[.val (.int p0), .val (.int p1), .unset, .unset, .unset, .unset, .unset, .unset, .unset] [(.int p0)]) (fun _ kk => XS.iloadN X0.here hx rfl (hb hby at_0) rfl kk) ?_
  refine ob s₁ (mkF mG 3 #[.val (.int p0), .val (.int p1), .unset, .unset, .unset, .unset, .unset, .unset, .unset] [(.int (2147483647 : Int32)), (.int p0)]) (fun _ kk => X0.ldcInt hx hown (mvT hZ (ow hw 0 rfl)) (g := (mkF mG 1 #[.val (.int p0), .val (.int p1), .unset, .unset, .unset, .unset, .unset, .unset, .unset] [(.int p0)])) rfl (hb hby at_1) _ kk) ?_
  refine ob s₁ (mkF mG 4 #[.val (.int p0), .val (.int p1), .unset, .unset, .unset, .unset, .unset, .unset, .unset] [(.int (p0 &&& (2147483647 : Int32)))]) (fun _ kk => XS.iand X0.here hx rfl (hb hby at_3) rfl kk) ?_
  refine ob s₁ (mkF mG 6 #[.val (.int p0), .val (.int p1), .unset, .unset, .unset, .unset, .unset, .unset, .unset] [(.int (7 : Int32)), (.int (p0 &&& (2147483647 : Int32)))]) (fun _ kk => XS.bipush X0.here hx rfl (hb hby at_4) kk) ?_
  refine ob s₁ (mkF mG 7 #[.val (.int p0), .val (.int p1), .unset, .unset, .unset, .unset, .unset, .unset, .unset] [(.int ((p0 &&& (2147483647 : Int32)) % (7 : Int32)))]) (fun _ kk => iremM X0 hx rfl (hb hby at_6) rfl (by decide) kk) ?_
  refine ob s₁ (mkF mG 8 #[.val (.int p0), .val (.int p1), .val (.int ((p0 &&& (2147483647 : Int32)) % (7 : Int32))), .unset, .unset, .unset, .unset, .unset, .unset] []) (fun _ kk => XS.istoreN X0.here hx rfl (hb hby at_7) rfl (l' := #[.val (.int p0), .val (.int p1), .val (.int ((p0 &&& (2147483647 : Int32)) % (7 : Int32))), .unset, .unset, .unset, .unset, .unset, .unset]) rfl kk) ?_
  obtain ⟨k7, e7, hk7⟩ := own_k7 p0
  rw [e7]
  rcases hk7 with rfl | rfl | rfl | rfl | rfl | rfl | rfl
  · skip
    show oGo pG eG belowG _ s₁ (mkF mG 8 #[.val (.int p0), .val (.int p1), .val (.int (0 : Int32)), .unset, .unset, .unset, .unset, .unset, .unset] [])
    refine ob s₁ (mkF mG 9 #[.val (.int p0), .val (.int p1), .val (.int (0 : Int32)), .unset, .unset, .unset, .unset, .unset, .unset] [(.int p1)]) (fun _ kk => XS.iloadN X0.here hx rfl (hb hby at_8) rfl kk) ?_
    refine ob s₁ (mkF mG 10 #[.val (.int p0), .val (.int p1), .val (.int (0 : Int32)), .unset, .unset, .unset, .unset, .unset, .unset] [(.int (1 : Int32)), (.int p1)]) (fun _ kk => XS.iconst X0.here hx rfl (hb hby at_9) kk) ?_
    refine ob s₁ (mkF mG 11 #[.val (.int p0), .val (.int p1), .val (.int (0 : Int32)), .unset, .unset, .unset, .unset, .unset, .unset] [(.int (p1 &&& (1 : Int32)))]) (fun _ kk => XS.iand X0.here hx rfl (hb hby at_10) rfl kk) ?_
    by_cases hc1 : (p1 &&& (1 : Int32)) = (0 : Int32)
    · skip
      refine ob s₁ (mkF mG 18 #[.val (.int p0), .val (.int p1), .val (.int (0 : Int32)), .unset, .unset, .unset, .unset, .unset, .unset] []) (fun _ kk => XS.ifYes X0.here hx rfl (pc0 := 11) (pc' := 18) rfl (hb hby at_11) rfl ((if0 _ _).trans (teq hc1).1) (by decide) (by decide) kk) ?_
      refine ob s₁ (mkF mG 19 #[.val (.int p0), .val (.int p1), .val (.int (0 : Int32)), .unset, .unset, .unset, .unset, .unset, .unset] [(.int (0 : Int32))]) (fun _ kk => XS.iconst X0.here hx rfl (hb hby at_18) kk) ?_
      refine ob s₁ (mkF mG 20 #[.val (.int p0), .val (.int p1), .val (.int (0 : Int32)), .val (.int (0 : Int32)), .unset, .unset, .unset, .unset, .unset] []) (fun _ kk => XS.istoreN X0.here hx rfl (hb hby at_19) rfl (l' := #[.val (.int p0), .val (.int p1), .val (.int (0 : Int32)), .val (.int (0 : Int32)), .unset, .unset, .unset, .unset, .unset]) rfl kk) ?_
      refine ob s₁ (mkF mG 21 #[.val (.int p0), .val (.int p1), .val (.int (0 : Int32)), .val (.int (0 : Int32)), .unset, .unset, .unset, .unset, .unset] [(.int (0 : Int32))]) (fun _ kk => XS.iloadN X0.here hx rfl (hb hby at_20) rfl kk) ?_
      obtain ⟨_, _, ⟨T2, L2, k2, n2⟩, -, X2, ⟨Lc2, hQ2, l2, y2, z2⟩, st2⟩ := Jvm.LawKit.callS X0 hx (y := (⟨"com/example/vorgang/vorgang/model/PolicyApplyPinLaw", "pick", "(I)Lcom/example/vorgang/vorgang/model/Policy;"⟩ : MethodName)) hown (mvT hZ (ow hw 1 rfl)) (mvT hZ (ow hw 2 rfl)) (mvT hZ (ow hw 3 rfl)) (mvT hZ (ow hw 4 rfl)) (by decide) (backOf (W := 0) (rm_pick0 l Z a0 hw [] w_Required w_RECEIVED w_NotSupported w_NONE w_RequiresNew w_NEW w_Mandatory w_BeanManaged w_Never w_Supports w_EMPTY  h0 n0 O0 hS ) hZ (ow hw 4 rfl) (ow hw 3 rfl) (by decide) (by decide)) (g := (mkF mG 21 #[.val (.int p0), .val (.int p1), .val (.int (0 : Int32)), .val (.int (0 : Int32)), .unset, .unset, .unset, .unset, .unset] [(.int (0 : Int32))])) rfl (by rw [hml]; rfl) (argsL := [(.int (0 : Int32))]) (rest := []) (lenOf pd_3 rfl) rfl (by show 2 * 0 + _ ≤ _; exact Nat.le_of_eq rfl) (hb hby at_21) (fun _ _ => ⟨rfl, e0, (by decide : 0 + 0 ≤ _), (by decide : 0 + 0 ≤ _)⟩)
      dsimp only [Pt.U, Pt.locs, Pt.cells, Pt.slots] at X2 l2 y2 z2 st2 hQ2
      subst l2 y2 z2
      obtain ⟨rfl, N2q, e2⟩ := hQ2
      have N2 := Fr.app N0 N2q
      refine ob T2 (mkF mG 24 #[.val (.int p0), .val (.int p1), .val (.int (0 : Int32)), .val (.int (0 : Int32)), .unset, .unset, .unset, .unset, .unset] [(.ref w_Required)]) (fun _ kk => st2 _ kk) ?_
      refine ob T2 (mkF mG 26 #[.val (.int p0), .val (.int p1), .val (.int (0 : Int32)), .val (.int (0 : Int32)), .val (.ref w_Required), .unset, .unset, .unset, .unset] []) (fun _ kk => XS.astore X2.here hx rfl (hb hby at_24) rfl rfl (l' := #[.val (.int p0), .val (.int p1), .val (.int (0 : Int32)), .val (.int (0 : Int32)), .val (.ref w_Required), .unset, .unset, .unset, .unset]) rfl kk) ?_
      refine ob T2 (mkF mG 28 #[.val (.int p0), .val (.int p1), .val (.int (0 : Int32)), .val (.int (0 : Int32)), .val (.ref w_Required), .unset, .unset, .unset, .unset] [(.ref w_Required)]) (fun _ kk => XS.aload X2.here hx rfl (hb hby at_26) rfl rfl kk) ?_
      refine ob T2 (mkF mG 29 #[.val (.int p0), .val (.int p1), .val (.int (0 : Int32)), .val (.int (0 : Int32)), .val (.ref w_Required), .unset, .unset, .unset, .unset] [(.int (0 : Int32)), (.ref w_Required)]) (fun _ kk => XS.iloadN X2.here hx rfl (hb hby at_28) rfl kk) ?_
      obtain ⟨cq3, kq3, q3a, q3b, q3c⟩ := isOf hZ e2 (E_w_Required.ext O0.2)
      obtain ⟨_, _, ⟨T3, L3, k3, n3⟩, -, X3, ⟨Lc3, hQ3, l3, y3, z3⟩, st3⟩ := X2.virtualBack hx (y := (⟨"com/example/vorgang/vorgang/model/Policy", "apply", "(Z)Ljava/util/Optional;"⟩ : MethodName)) (z := (⟨"com/example/vorgang/vorgang/model/Policy", "apply", "(Z)Ljava/util/Optional;"⟩ : MethodName)) hown (mvT hZ (ow hw 8 rfl)) (mvT hZ (ow hw 9 rfl)) (notFace_of_selects (args := #[]) (mvT hZ (ow hw 11 rfl))) (mvT hZ (ow hw 11 rfl)) (mvT hZ (ow hw 10 rfl)) (by decide) (backOf (W := 0) (rm_ap0_0 l Z a0 hw [] w_Required w_RECEIVED w_NotSupported w_NONE w_RequiresNew w_NEW w_Mandatory w_BeanManaged w_Never w_Supports w_EMPTY  h0 n0 O0 hS ) hZ (ow hw 12 rfl) (ow hw 6 rfl) (by decide) (by decide)) q3a q3c (g := (mkF mG 29 #[.val (.int p0), .val (.int p1), .val (.int (0 : Int32)), .val (.int (0 : Int32)), .val (.ref w_Required), .unset, .unset, .unset, .unset] [(.int (0 : Int32)), (.ref w_Required)])) rfl (by rw [hml]; rfl) (Steps.refl _) (argsL := [(.int (0 : Int32))]) (rest := []) (lenOf pd_4 rfl) rfl (by show 2 * 0 + _ ≤ _; exact Nat.le_of_eq rfl) (hb hby at_29) (fun _ _ => ⟨rfl, e2, (by decide : 0 + 1 ≤ _), (by decide : 0 + 1 ≤ _)⟩)
      dsimp only [Pt.U, Pt.locs, Pt.cells, Pt.slots] at X3 l3 y3 z3 st3 hQ3
      subst l3 y3 z3
      obtain ⟨h3, e3⟩ : ∃ h, T3.heap = h := ⟨_, rfl⟩
      rw [e3] at hQ3
      obtain ⟨b0_3, rfl, N3q, K3q, O3, n_b0_3, z_b0_3, F3_0, F3_1⟩ := hQ3
      have N3 := Fr.app N2 N3q
      have sz_b0_3 : h0.size ≤ b0_3 := Nat.le_trans K0.1 z_b0_3
      have K3 := K0.trans K3q all0
      refine ob T3 (mkF mG 32 #[.val (.int p0), .val (.int p1), .val (.int (0 : Int32)), .val (.int (0 : Int32)), .val (.ref w_Required), .unset, .unset, .unset, .unset] [(.ref b0_3)]) (fun _ kk => st3.trans kk) ?_
      refine ob T3 (mkF mG 34 #[.val (.int p0), .val (.int p1), .val (.int (0 : Int32)), .val (.int (0 : Int32)), .val (.ref w_Required), .val (.ref b0_3), .unset, .unset, .unset] []) (fun _ kk => XS.astore X3.here hx rfl (hb hby at_32) rfl rfl (l' := #[.val (.int p0), .val (.int p1), .val (.int (0 : Int32)), .val (.int (0 : Int32)), .val (.ref w_Required), .val (.ref b0_3), .unset, .unset, .unset]) rfl kk) ?_
      refine ob T3 (mkF mG 36 #[.val (.int p0), .val (.int p1), .val (.int (0 : Int32)), .val (.int (0 : Int32)), .val (.ref w_Required), .val (.ref b0_3), .unset, .unset, .unset] [(.ref b0_3)]) (fun _ kk => XS.aload X3.here hx rfl (hb hby at_34) rfl rfl kk) ?_
      refine ob T3 (mkF mG 41 #[.val (.int p0), .val (.int p1), .val (.int (0 : Int32)), .val (.int (0 : Int32)), .val (.ref w_Required), .val (.ref b0_3), .unset, .unset, .unset] []) (fun _ kk => XS.ifnonnullYes X3.here hx rfl (pc0 := 36) (pc' := 41) rfl (hb hby at_36) rfl (by decide) (by decide) kk) ?_
      refine ob T3 (mkF mG 42 #[.val (.int p0), .val (.int p1), .val (.int (0 : Int32)), .val (.int (0 : Int32)), .val (.ref w_Required), .val (.ref b0_3), .unset, .unset, .unset] [(.int (0 : Int32))]) (fun _ kk => XS.iloadN X3.here hx rfl (hb hby at_41) rfl kk) ?_
      refine ob T3 (mkF mG 43 #[.val (.int p0), .val (.int p1), .val (.int (0 : Int32)), .val (.int (0 : Int32)), .val (.ref w_Required), .val (.ref b0_3), .unset, .unset, .unset] [(.int (4 : Int32)), (.int (0 : Int32))]) (fun _ kk => XS.iconst X3.here hx rfl (hb hby at_42) kk) ?_
      refine ob T3 (mkF mG 50 #[.val (.int p0), .val (.int p1), .val (.int (0 : Int32)), .val (.int (0 : Int32)), .val (.ref w_Required), .val (.ref b0_3), .unset, .unset, .unset] []) (fun _ kk => XS.icmpYes X3.here hx rfl (pc0 := 43) (pc' := 50) rfl (hb hby at_43) rfl (feq (by decide : ¬ ((0 : Int32) = (4 : Int32)))).2 (by decide) (by decide) kk) ?_
      refine ob T3 (mkF mG 51 #[.val (.int p0), .val (.int p1), .val (.int (0 : Int32)), .val (.int (0 : Int32)), .val (.ref w_Required), .val (.ref b0_3), .unset, .unset, .unset] [(.int (0 : Int32))]) (fun _ kk => XS.iloadN X3.here hx rfl (hb hby at_50) rfl kk) ?_
      refine ob T3 (mkF mG 52 #[.val (.int p0), .val (.int p1), .val (.int (0 : Int32)), .val (.int (0 : Int32)), .val (.ref w_Required), .val (.ref b0_3), .unset, .unset, .unset] [(.int (5 : Int32)), (.int (0 : Int32))]) (fun _ kk => XS.iconst X3.here hx rfl (hb hby at_51) kk) ?_
      refine ob T3 (mkF mG 63 #[.val (.int p0), .val (.int p1), .val (.int (0 : Int32)), .val (.int (0 : Int32)), .val (.ref w_Required), .val (.ref b0_3), .unset, .unset, .unset] []) (fun _ kk => XS.icmpYes X3.here hx rfl (pc0 := 52) (pc' := 63) rfl (hb hby at_52) rfl (feq (by decide : ¬ ((0 : Int32) = (5 : Int32)))).2 (by decide) (by decide) kk) ?_
      refine ob T3 (mkF mG 64 #[.val (.int p0), .val (.int p1), .val (.int (0 : Int32)), .val (.int (0 : Int32)), .val (.ref w_Required), .val (.ref b0_3), .unset, .unset, .unset] [(.int (0 : Int32))]) (fun _ kk => XS.iconst X3.here hx rfl (hb hby at_63) kk) ?_
      refine ob T3 (mkF mG 66 #[.val (.int p0), .val (.int p1), .val (.int (0 : Int32)), .val (.int (0 : Int32)), .val (.ref w_Required), .val (.ref b0_3), .val (.int (0 : Int32)), .unset, .unset] []) (fun _ kk => XS.istore X3.here hx rfl (hb hby at_64) rfl (l' := #[.val (.int p0), .val (.int p1), .val (.int (0 : Int32)), .val (.int (0 : Int32)), .val (.ref w_Required), .val (.ref b0_3), .val (.int (0 : Int32)), .unset, .unset]) rfl kk) ?_
      refine ob T3 (mkF mG 68 #[.val (.int p0), .val (.int p1), .val (.int (0 : Int32)), .val (.int (0 : Int32)), .val (.ref w_Required), .val (.ref b0_3), .val (.int (0 : Int32)), .unset, .unset] [(.int (0 : Int32))]) (fun _ kk => XS.iload X3.here hx rfl (hb hby at_66) rfl kk) ?_
      refine ob T3 (mkF mG 85 #[.val (.int p0), .val (.int p1), .val (.int (0 : Int32)), .val (.int (0 : Int32)), .val (.ref w_Required), .val (.ref b0_3), .val (.int (0 : Int32)), .unset, .unset] []) (fun _ kk => XS.ifYes X3.here hx rfl (pc0 := 68) (pc' := 85) rfl (hb hby at_68) rfl ((if0 _ _).trans (teq (by decide : (0 : Int32) = (0 : Int32))).1) (by decide) (by decide) kk) ?_
      refine ob T3 (mkF mG 87 #[.val (.int p0), .val (.int p1), .val (.int (0 : Int32)), .val (.int (0 : Int32)), .val (.ref w_Required), .val (.ref b0_3), .val (.int (0 : Int32)), .unset, .unset] [(.ref b0_3)]) (fun _ kk => XS.aload X3.here hx rfl (hb hby at_85) rfl rfl kk) ?_
      obtain ⟨cq4, kq4, q4a, q4b, q4c⟩ := isOf hZ e3 F3_0
      obtain ⟨_, _, ⟨T4, L4, k4, n4⟩, -, X4, ⟨Lc4, hQ4, l4, y4, z4⟩, st4⟩ := X3.virtualBack hx (y := (⟨"java/util/Optional", "isPresent", "()Z"⟩ : MethodName)) (z := (⟨"java/util/Optional", "isPresent", "()Z"⟩ : MethodName)) hown (mvT hZ (ow hw 40 rfl)) (mvT hZ (ow hw 41 rfl)) (notFace_of_selects (args := #[]) (mvT hZ (ow hw 43 rfl))) (mvT hZ (ow hw 43 rfl)) (mvT hZ (ow hw 42 rfl)) (by decide) (backOf (W := 0) (rm_ipS l Z a0 hw [] w_Required w_RECEIVED w_NotSupported w_NONE w_RequiresNew w_NEW w_Mandatory w_BeanManaged w_Never w_Supports w_EMPTY b0_3 w_NEW h3 n0 O3 hS F3_1) hZ (ow hw 44 rfl) (ow hw 27 rfl) (by decide) (by decide)) q4a q4c (g := (mkF mG 87 #[.val (.int p0), .val (.int p1), .val (.int (0 : Int32)), .val (.int (0 : Int32)), .val (.ref w_Required), .val (.ref b0_3), .val (.int (0 : Int32)), .unset, .unset] [(.ref b0_3)])) rfl (by rw [hml]; rfl) (Steps.refl _) (argsL := []) (rest := []) (lenOf pd_5 rfl) rfl (by show 2 * 0 + _ ≤ _; exact Nat.le_of_eq rfl) (hb hby at_87) (fun _ _ => ⟨rfl, e3, (by decide : 1 + 0 ≤ _), (by decide : 1 + 0 ≤ _)⟩)
      dsimp only [Pt.U, Pt.locs, Pt.cells, Pt.slots] at X4 l4 y4 z4 st4 hQ4
      subst l4 y4 z4
      obtain ⟨rfl, N4q, e4⟩ := hQ4
      have N4 := Fr.app N3 N4q
      refine ob T4 (mkF mG 90 #[.val (.int p0), .val (.int p1), .val (.int (0 : Int32)), .val (.int (0 : Int32)), .val (.ref w_Required), .val (.ref b0_3), .val (.int (0 : Int32)), .unset, .unset] [(.int (1 : Int32))]) (fun _ kk => st4.trans kk) ?_
      refine ob T4 (mkF mG 95 #[.val (.int p0), .val (.int p1), .val (.int (0 : Int32)), .val (.int (0 : Int32)), .val (.ref w_Required), .val (.ref b0_3), .val (.int (0 : Int32)), .unset, .unset] []) (fun _ kk => XS.ifYes X4.here hx rfl (pc0 := 90) (pc' := 95) rfl (hb hby at_90) rfl ((if0 _ _).trans (feq (by decide : ¬ ((1 : Int32) = (0 : Int32)))).2) (by decide) (by decide) kk) ?_
      refine ob T4 (mkF mG 96 #[.val (.int p0), .val (.int p1), .val (.int (0 : Int32)), .val (.int (0 : Int32)), .val (.ref w_Required), .val (.ref b0_3), .val (.int (0 : Int32)), .unset, .unset] [(.int (0 : Int32))]) (fun _ kk => XS.iloadN X4.here hx rfl (hb hby at_95) rfl kk) ?_
      refine ob T4 (mkF mG 117 #[.val (.int p0), .val (.int p1), .val (.int (0 : Int32)), .val (.int (0 : Int32)), .val (.ref w_Required), .val (.ref b0_3), .val (.int (0 : Int32)), .unset, .unset] []) (fun _ kk => XS.ifYes X4.here hx rfl (pc0 := 96) (pc' := 117) rfl (hb hby at_96) rfl ((if0 _ _).trans (teq (by decide : (0 : Int32) = (0 : Int32))).1) (by decide) (by decide) kk) ?_
      refine ob T4 (mkF mG 118 #[.val (.int p0), .val (.int p1), .val (.int (0 : Int32)), .val (.int (0 : Int32)), .val (.ref w_Required), .val (.ref b0_3), .val (.int (0 : Int32)), .unset, .unset] [(.int (0 : Int32))]) (fun _ kk => XS.iconst X4.here hx rfl (hb hby at_117) kk) ?_
      refine ob T4 (mkF mG 120 #[.val (.int p0), .val (.int p1), .val (.int (0 : Int32)), .val (.int (0 : Int32)), .val (.ref w_Required), .val (.ref b0_3), .val (.int (0 : Int32)), .val (.int (0 : Int32)), .unset] []) (fun _ kk => XS.istore X4.here hx rfl (hb hby at_118) rfl (l' := #[.val (.int p0), .val (.int p1), .val (.int (0 : Int32)), .val (.int (0 : Int32)), .val (.ref w_Required), .val (.ref b0_3), .val (.int (0 : Int32)), .val (.int (0 : Int32)), .unset]) rfl kk) ?_
      refine ob T4 (mkF mG 122 #[.val (.int p0), .val (.int p1), .val (.int (0 : Int32)), .val (.int (0 : Int32)), .val (.ref w_Required), .val (.ref b0_3), .val (.int (0 : Int32)), .val (.int (0 : Int32)), .unset] [(.int (0 : Int32))]) (fun _ kk => XS.iload X4.here hx rfl (hb hby at_120) rfl kk) ?_
      refine ob T4 (mkF mG 133 #[.val (.int p0), .val (.int p1), .val (.int (0 : Int32)), .val (.int (0 : Int32)), .val (.ref w_Required), .val (.ref b0_3), .val (.int (0 : Int32)), .val (.int (0 : Int32)), .unset] []) (fun _ kk => XS.ifYes X4.here hx rfl (pc0 := 122) (pc' := 133) rfl (hb hby at_122) rfl ((if0 _ _).trans (teq (by decide : (0 : Int32) = (0 : Int32))).1) (by decide) (by decide) kk) ?_
      refine ob T4 (mkF mG 134 #[.val (.int p0), .val (.int p1), .val (.int (0 : Int32)), .val (.int (0 : Int32)), .val (.ref w_Required), .val (.ref b0_3), .val (.int (0 : Int32)), .val (.int (0 : Int32)), .unset] [(.int (0 : Int32))]) (fun _ kk => XS.iloadN X4.here hx rfl (hb hby at_133) rfl kk) ?_
      refine ob T4 (mkF mG 135 #[.val (.int p0), .val (.int p1), .val (.int (0 : Int32)), .val (.int (0 : Int32)), .val (.ref w_Required), .val (.ref b0_3), .val (.int (0 : Int32)), .val (.int (0 : Int32)), .unset] [(.int (1 : Int32)), (.int (0 : Int32))]) (fun _ kk => XS.iconst X4.here hx rfl (hb hby at_134) kk) ?_
      refine ob T4 (mkF mG 138 #[.val (.int p0), .val (.int p1), .val (.int (0 : Int32)), .val (.int (0 : Int32)), .val (.ref w_Required), .val (.ref b0_3), .val (.int (0 : Int32)), .val (.int (0 : Int32)), .unset] []) (fun _ kk => XS.icmpNo X4.here hx rfl (hb hby at_135) rfl (feq (by decide : ¬ ((0 : Int32) = (1 : Int32)))).1 kk) ?_
      refine ob T4 (mkF mG 139 #[.val (.int p0), .val (.int p1), .val (.int (0 : Int32)), .val (.int (0 : Int32)), .val (.ref w_Required), .val (.ref b0_3), .val (.int (0 : Int32)), .val (.int (0 : Int32)), .unset] [(.int (0 : Int32))]) (fun _ kk => XS.iloadN X4.here hx rfl (hb hby at_138) rfl kk) ?_
      refine ob T4 (mkF mG 142 #[.val (.int p0), .val (.int p1), .val (.int (0 : Int32)), .val (.int (0 : Int32)), .val (.ref w_Required), .val (.ref b0_3), .val (.int (0 : Int32)), .val (.int (0 : Int32)), .unset] []) (fun _ kk => XS.ifNo X4.here hx rfl (hb hby at_139) rfl ((if0 _ _).trans (teq (by decide : (0 : Int32) = (0 : Int32))).2) kk) ?_
      refine ob T4 (mkF mG 143 #[.val (.int p0), .val (.int p1), .val (.int (0 : Int32)), .val (.int (0 : Int32)), .val (.ref w_Required), .val (.ref b0_3), .val (.int (0 : Int32)), .val (.int (0 : Int32)), .unset] [(.int (0 : Int32))]) (fun _ kk => XS.iloadN X4.here hx rfl (hb hby at_142) rfl kk) ?_
      refine ob T4 (mkF mG 146 #[.val (.int p0), .val (.int p1), .val (.int (0 : Int32)), .val (.int (0 : Int32)), .val (.ref w_Required), .val (.ref b0_3), .val (.int (0 : Int32)), .val (.int (0 : Int32)), .unset] []) (fun _ kk => XS.ifNo X4.here hx rfl (hb hby at_143) rfl ((if0 _ _).trans (teq (by decide : (0 : Int32) = (0 : Int32))).2) kk) ?_
      obtain ⟨T5, X5, e5, st5⟩ := getS2 X4 hx hZ hown (host := "") (Or.inl (ow hw 60 rfl)) Via.refl e4 (S_w_NEW.ext O3.2) (g := (mkF mG 146 #[.val (.int p0), .val (.int p1), .val (.int (0 : Int32)), .val (.int (0 : Int32)), .val (.ref w_Required), .val (.ref b0_3), .val (.int (0 : Int32)), .val (.int (0 : Int32)), .unset] [])) rfl (hb hby at_146)
      refine ob T5 (mkF mG 149 #[.val (.int p0), .val (.int p1), .val (.int (0 : Int32)), .val (.int (0 : Int32)), .val (.ref w_Required), .val (.ref b0_3), .val (.int (0 : Int32)), .val (.int (0 : Int32)), .unset] [(.ref w_NEW)]) (fun _ kk => st5 _ kk) ?_
      refine ob T5 (mkF mG 151 #[.val (.int p0), .val (.int p1), .val (.int (0 : Int32)), .val (.int (0 : Int32)), .val (.ref w_Required), .val (.ref b0_3), .val (.int (0 : Int32)), .val (.int (0 : Int32)), .val (.ref w_NEW)] []) (fun _ kk => XS.astore X5.here hx rfl (hb hby at_149) rfl rfl (l' := #[.val (.int p0), .val (.int p1), .val (.int (0 : Int32)), .val (.int (0 : Int32)), .val (.ref w_Required), .val (.ref b0_3), .val (.int (0 : Int32)), .val (.int (0 : Int32)), .val (.ref w_NEW)]) rfl kk) ?_
      refine ob T5 (mkF mG 159 #[.val (.int p0), .val (.int p1), .val (.int (0 : Int32)), .val (.int (0 : Int32)), .val (.ref w_Required), .val (.ref b0_3), .val (.int (0 : Int32)), .val (.int (0 : Int32)), .val (.ref w_NEW)] []) (fun _ kk => XS.goto X5.here hx rfl (pc0 := 151) (pc' := 159) rfl (hb hby at_151) (by decide) (by decide) kk) ?_
      refine ob T5 (mkF mG 161 #[.val (.int p0), .val (.int p1), .val (.int (0 : Int32)), .val (.int (0 : Int32)), .val (.ref w_Required), .val (.ref b0_3), .val (.int (0 : Int32)), .val (.int (0 : Int32)), .val (.ref w_NEW)] [(.ref b0_3)]) (fun _ kk => XS.aload X5.here hx rfl (hb hby at_159) rfl rfl kk) ?_
      obtain ⟨cq6, kq6, q6a, q6b, q6c⟩ := isOf hZ e5 F3_0
      obtain ⟨_, _, ⟨T6, L6, k6, n6⟩, -, X6, ⟨Lc6, hQ6, l6, y6, z6⟩, st6⟩ := X5.virtualBack hx (y := (⟨"java/util/Optional", "get", "()Ljava/lang/Object;"⟩ : MethodName)) (z := (⟨"java/util/Optional", "get", "()Ljava/lang/Object;"⟩ : MethodName)) hown (mvT hZ (ow hw 46 rfl)) (mvT hZ (ow hw 47 rfl)) (notFace_of_selects (args := #[]) (mvT hZ (ow hw 49 rfl))) (mvT hZ (ow hw 49 rfl)) (mvT hZ (ow hw 48 rfl)) (by decide) (backOf (W := 0) (rm_get l Z a0 hw [] w_Required w_RECEIVED w_NotSupported w_NONE w_RequiresNew w_NEW w_Mandatory w_BeanManaged w_Never w_Supports w_EMPTY b0_3 w_NEW h3 n0 O3 hS F3_1) hZ (ow hw 50 rfl) (ow hw 27 rfl) (by decide) (by decide)) q6a q6c (g := (mkF mG 161 #[.val (.int p0), .val (.int p1), .val (.int (0 : Int32)), .val (.int (0 : Int32)), .val (.ref w_Required), .val (.ref b0_3), .val (.int (0 : Int32)), .val (.int (0 : Int32)), .val (.ref w_NEW)] [(.ref b0_3)])) rfl (by rw [hml]; rfl) (Steps.refl _) (argsL := []) (rest := []) (lenOf pd_6 rfl) rfl (by show 2 * 0 + _ ≤ _; exact Nat.le_of_eq rfl) (hb hby at_161) (fun _ _ => ⟨rfl, e5, (by decide : 1 + 0 ≤ _), (by decide : 1 + 0 ≤ _)⟩)
      dsimp only [Pt.U, Pt.locs, Pt.cells, Pt.slots] at X6 l6 y6 z6 st6 hQ6
      subst l6 y6 z6
      obtain ⟨rfl, N6q, e6⟩ := hQ6
      have N6 := Fr.app N4 N6q
      refine ob T6 (mkF mG 164 #[.val (.int p0), .val (.int p1), .val (.int (0 : Int32)), .val (.int (0 : Int32)), .val (.ref w_Required), .val (.ref b0_3), .val (.int (0 : Int32)), .val (.int (0 : Int32)), .val (.ref w_NEW)] [(.ref w_NEW)]) (fun _ kk => st6.trans kk) ?_
      refine ob T6 (mkF mG 166 #[.val (.int p0), .val (.int p1), .val (.int (0 : Int32)), .val (.int (0 : Int32)), .val (.ref w_Required), .val (.ref b0_3), .val (.int (0 : Int32)), .val (.int (0 : Int32)), .val (.ref w_NEW)] [(.ref w_NEW), (.ref w_NEW)]) (fun _ kk => XS.aload X6.here hx rfl (hb hby at_164) rfl rfl kk) ?_
      refine ob T6 (mkF mG 169 #[.val (.int p0), .val (.int p1), .val (.int (0 : Int32)), .val (.int (0 : Int32)), .val (.ref w_Required), .val (.ref b0_3), .val (.int (0 : Int32)), .val (.int (0 : Int32)), .val (.ref w_NEW)] []) (fun _ kk => Jvm.RoadKit.acmp (g := (mkF mG 166 #[.val (.int p0), .val (.int p1), .val (.int (0 : Int32)), .val (.int (0 : Int32)), .val (.ref w_Required), .val (.ref b0_3), .val (.int (0 : Int32)), .val (.int (0 : Int32)), .val (.ref w_NEW)] [(.ref w_NEW), (.ref w_NEW)])) X6 hx rfl rfl rfl (pc0 := 166) (pc' := 169) (same := true) rfl (hb hby at_166) rfl (decide_eq_true rfl) (by decide) (by decide) kk) ?_
      refine ob T6 (mkF mG 170 #[.val (.int p0), .val (.int p1), .val (.int (0 : Int32)), .val (.int (0 : Int32)), .val (.ref w_Required), .val (.ref b0_3), .val (.int (0 : Int32)), .val (.int (0 : Int32)), .val (.ref w_NEW)] [(.int (1 : Int32))]) (fun _ kk => XS.iconst X6.here hx rfl (hb hby at_169) kk) ?_
      refine ob T6 (mkF mG 174 #[.val (.int p0), .val (.int p1), .val (.int (0 : Int32)), .val (.int (0 : Int32)), .val (.ref w_Required), .val (.ref b0_3), .val (.int (0 : Int32)), .val (.int (0 : Int32)), .val (.ref w_NEW)] [(.int (1 : Int32))]) (fun _ kk => XS.goto X6.here hx rfl (pc0 := 170) (pc' := 174) rfl (hb hby at_170) (by decide) (by decide) kk) ?_
      obtain ⟨fs, hr, hrun, hended, hW, hsame⟩ := X6.leave (v := some (.int (1 : Int32))) (fun h => by rw [Bd.returns] at h; cases h)
      refine oout (retN X6 hx (t := .boolean) Bd.returns (by simp) (hb hby at_174) hr) hrun hended ⟨_, _, rfl, ?_, ⟨_, rfl⟩, hW, hsame.mono (by decide) (by decide)⟩
      show Q_rm0 Z w_Required w_RECEIVED w_NotSupported w_NONE w_RequiresNew w_NEW w_Mandatory w_BeanManaged w_Never w_Supports w_EMPTY p0 p1 h0 n0 _ T6.heap _
      rw [e6]
      exact ⟨rfl, N6⟩
    · skip
      refine ob s₁ (mkF mG 14 #[.val (.int p0), .val (.int p1), .val (.int (0 : Int32)), .unset, .unset, .unset, .unset, .unset, .unset] []) (fun _ kk => XS.ifNo X0.here hx rfl (hb hby at_11) rfl ((if0 _ _).trans (feq hc1).1) kk) ?_
      refine ob s₁ (mkF mG 15 #[.val (.int p0), .val (.int p1), .val (.int (0 : Int32)), .unset, .unset, .unset, .unset, .unset, .unset] [(.int (1 : Int32))]) (fun _ kk => XS.iconst X0.here hx rfl (hb hby at_14) kk) ?_
      refine ob s₁ (mkF mG 19 #[.val (.int p0), .val (.int p1), .val (.int (0 : Int32)), .unset, .unset, .unset, .unset, .unset, .unset] [(.int (1 : Int32))]) (fun _ kk => XS.goto X0.here hx rfl (pc0 := 15) (pc' := 19) rfl (hb hby at_15) (by decide) (by decide) kk) ?_
      refine ob s₁ (mkF mG 20 #[.val (.int p0), .val (.int p1), .val (.int (0 : Int32)), .val (.int (1 : Int32)), .unset, .unset, .unset, .unset, .unset] []) (fun _ kk => XS.istoreN X0.here hx rfl (hb hby at_19) rfl (l' := #[.val (.int p0), .val (.int p1), .val (.int (0 : Int32)), .val (.int (1 : Int32)), .unset, .unset, .unset, .unset, .unset]) rfl kk) ?_
      refine ob s₁ (mkF mG 21 #[.val (.int p0), .val (.int p1), .val (.int (0 : Int32)), .val (.int (1 : Int32)), .unset, .unset, .unset, .unset, .unset] [(.int (0 : Int32))]) (fun _ kk => XS.iloadN X0.here hx rfl (hb hby at_20) rfl kk) ?_
      obtain ⟨_, _, ⟨T7, L7, k7, n7⟩, -, X7, ⟨Lc7, hQ7, l7, y7, z7⟩, st7⟩ := Jvm.LawKit.callS X0 hx (y := (⟨"com/example/vorgang/vorgang/model/PolicyApplyPinLaw", "pick", "(I)Lcom/example/vorgang/vorgang/model/Policy;"⟩ : MethodName)) hown (mvT hZ (ow hw 1 rfl)) (mvT hZ (ow hw 2 rfl)) (mvT hZ (ow hw 3 rfl)) (mvT hZ (ow hw 4 rfl)) (by decide) (backOf (W := 0) (rm_pick0 l Z a0 hw [] w_Required w_RECEIVED w_NotSupported w_NONE w_RequiresNew w_NEW w_Mandatory w_BeanManaged w_Never w_Supports w_EMPTY  h0 n0 O0 hS ) hZ (ow hw 4 rfl) (ow hw 3 rfl) (by decide) (by decide)) (g := (mkF mG 21 #[.val (.int p0), .val (.int p1), .val (.int (0 : Int32)), .val (.int (1 : Int32)), .unset, .unset, .unset, .unset, .unset] [(.int (0 : Int32))])) rfl (by rw [hml]; rfl) (argsL := [(.int (0 : Int32))]) (rest := []) (lenOf pd_3 rfl) rfl (by show 2 * 0 + _ ≤ _; exact Nat.le_of_eq rfl) (hb hby at_21) (fun _ _ => ⟨rfl, e0, (by decide : 0 + 0 ≤ _), (by decide : 0 + 0 ≤ _)⟩)
      dsimp only [Pt.U, Pt.locs, Pt.cells, Pt.slots] at X7 l7 y7 z7 st7 hQ7
      subst l7 y7 z7
      obtain ⟨rfl, N7q, e7⟩ := hQ7
      have N7 := Fr.app N0 N7q
      refine ob T7 (mkF mG 24 #[.val (.int p0), .val (.int p1), .val (.int (0 : Int32)), .val (.int (1 : Int32)), .unset, .unset, .unset, .unset, .unset] [(.ref w_Required)]) (fun _ kk => st7 _ kk) ?_
      refine ob T7 (mkF mG 26 #[.val (.int p0), .val (.int p1), .val (.int (0 : Int32)), .val (.int (1 : Int32)), .val (.ref w_Required), .unset, .unset, .unset, .unset] []) (fun _ kk => XS.astore X7.here hx rfl (hb hby at_24) rfl rfl (l' := #[.val (.int p0), .val (.int p1), .val (.int (0 : Int32)), .val (.int (1 : Int32)), .val (.ref w_Required), .unset, .unset, .unset, .unset]) rfl kk) ?_
      refine ob T7 (mkF mG 28 #[.val (.int p0), .val (.int p1), .val (.int (0 : Int32)), .val (.int (1 : Int32)), .val (.ref w_Required), .unset, .unset, .unset, .unset] [(.ref w_Required)]) (fun _ kk => XS.aload X7.here hx rfl (hb hby at_26) rfl rfl kk) ?_
      refine ob T7 (mkF mG 29 #[.val (.int p0), .val (.int p1), .val (.int (0 : Int32)), .val (.int (1 : Int32)), .val (.ref w_Required), .unset, .unset, .unset, .unset] [(.int (1 : Int32)), (.ref w_Required)]) (fun _ kk => XS.iloadN X7.here hx rfl (hb hby at_28) rfl kk) ?_
      obtain ⟨cq8, kq8, q8a, q8b, q8c⟩ := isOf hZ e7 (E_w_Required.ext O0.2)
      obtain ⟨_, _, ⟨T8, L8, k8, n8⟩, -, X8, ⟨Lc8, hQ8, l8, y8, z8⟩, st8⟩ := X7.virtualBack hx (y := (⟨"com/example/vorgang/vorgang/model/Policy", "apply", "(Z)Ljava/util/Optional;"⟩ : MethodName)) (z := (⟨"com/example/vorgang/vorgang/model/Policy", "apply", "(Z)Ljava/util/Optional;"⟩ : MethodName)) hown (mvT hZ (ow hw 8 rfl)) (mvT hZ (ow hw 9 rfl)) (notFace_of_selects (args := #[]) (mvT hZ (ow hw 11 rfl))) (mvT hZ (ow hw 11 rfl)) (mvT hZ (ow hw 10 rfl)) (by decide) (backOf (W := 0) (rm_ap0_1 l Z a0 hw [] w_Required w_RECEIVED w_NotSupported w_NONE w_RequiresNew w_NEW w_Mandatory w_BeanManaged w_Never w_Supports w_EMPTY  h0 n0 O0 hS ) hZ (ow hw 12 rfl) (ow hw 6 rfl) (by decide) (by decide)) q8a q8c (g := (mkF mG 29 #[.val (.int p0), .val (.int p1), .val (.int (0 : Int32)), .val (.int (1 : Int32)), .val (.ref w_Required), .unset, .unset, .unset, .unset] [(.int (1 : Int32)), (.ref w_Required)])) rfl (by rw [hml]; rfl) (Steps.refl _) (argsL := [(.int (1 : Int32))]) (rest := []) (lenOf pd_4 rfl) rfl (by show 2 * 0 + _ ≤ _; exact Nat.le_of_eq rfl) (hb hby at_29) (fun _ _ => ⟨rfl, e7, (by decide : 0 + 1 ≤ _), (by decide : 0 + 1 ≤ _)⟩)
      dsimp only [Pt.U, Pt.locs, Pt.cells, Pt.slots] at X8 l8 y8 z8 st8 hQ8
      subst l8 y8 z8
      obtain ⟨h8, e8⟩ : ∃ h, T8.heap = h := ⟨_, rfl⟩
      rw [e8] at hQ8
      obtain ⟨b0_8, rfl, N8q, K8q, O8, n_b0_8, z_b0_8, F8_0, F8_1⟩ := hQ8
      have N8 := Fr.app N7 N8q
      have sz_b0_8 : h0.size ≤ b0_8 := Nat.le_trans K0.1 z_b0_8
      have K8 := K0.trans K8q all0
      refine ob T8 (mkF mG 32 #[.val (.int p0), .val (.int p1), .val (.int (0 : Int32)), .val (.int (1 : Int32)), .val (.ref w_Required), .unset, .unset, .unset, .unset] [(.ref b0_8)]) (fun _ kk => st8.trans kk) ?_
      refine ob T8 (mkF mG 34 #[.val (.int p0), .val (.int p1), .val (.int (0 : Int32)), .val (.int (1 : Int32)), .val (.ref w_Required), .val (.ref b0_8), .unset, .unset, .unset] []) (fun _ kk => XS.astore X8.here hx rfl (hb hby at_32) rfl rfl (l' := #[.val (.int p0), .val (.int p1), .val (.int (0 : Int32)), .val (.int (1 : Int32)), .val (.ref w_Required), .val (.ref b0_8), .unset, .unset, .unset]) rfl kk) ?_
      refine ob T8 (mkF mG 36 #[.val (.int p0), .val (.int p1), .val (.int (0 : Int32)), .val (.int (1 : Int32)), .val (.ref w_Required), .val (.ref b0_8), .unset, .unset, .unset] [(.ref b0_8)]) (fun _ kk => XS.aload X8.here hx rfl (hb hby at_34) rfl rfl kk) ?_
      refine ob T8 (mkF mG 41 #[.val (.int p0), .val (.int p1), .val (.int (0 : Int32)), .val (.int (1 : Int32)), .val (.ref w_Required), .val (.ref b0_8), .unset, .unset, .unset] []) (fun _ kk => XS.ifnonnullYes X8.here hx rfl (pc0 := 36) (pc' := 41) rfl (hb hby at_36) rfl (by decide) (by decide) kk) ?_
      refine ob T8 (mkF mG 42 #[.val (.int p0), .val (.int p1), .val (.int (0 : Int32)), .val (.int (1 : Int32)), .val (.ref w_Required), .val (.ref b0_8), .unset, .unset, .unset] [(.int (0 : Int32))]) (fun _ kk => XS.iloadN X8.here hx rfl (hb hby at_41) rfl kk) ?_
      refine ob T8 (mkF mG 43 #[.val (.int p0), .val (.int p1), .val (.int (0 : Int32)), .val (.int (1 : Int32)), .val (.ref w_Required), .val (.ref b0_8), .unset, .unset, .unset] [(.int (4 : Int32)), (.int (0 : Int32))]) (fun _ kk => XS.iconst X8.here hx rfl (hb hby at_42) kk) ?_
      refine ob T8 (mkF mG 50 #[.val (.int p0), .val (.int p1), .val (.int (0 : Int32)), .val (.int (1 : Int32)), .val (.ref w_Required), .val (.ref b0_8), .unset, .unset, .unset] []) (fun _ kk => XS.icmpYes X8.here hx rfl (pc0 := 43) (pc' := 50) rfl (hb hby at_43) rfl (feq (by decide : ¬ ((0 : Int32) = (4 : Int32)))).2 (by decide) (by decide) kk) ?_
      refine ob T8 (mkF mG 51 #[.val (.int p0), .val (.int p1), .val (.int (0 : Int32)), .val (.int (1 : Int32)), .val (.ref w_Required), .val (.ref b0_8), .unset, .unset, .unset] [(.int (0 : Int32))]) (fun _ kk => XS.iloadN X8.here hx rfl (hb hby at_50) rfl kk) ?_
      refine ob T8 (mkF mG 52 #[.val (.int p0), .val (.int p1), .val (.int (0 : Int32)), .val (.int (1 : Int32)), .val (.ref w_Required), .val (.ref b0_8), .unset, .unset, .unset] [(.int (5 : Int32)), (.int (0 : Int32))]) (fun _ kk => XS.iconst X8.here hx rfl (hb hby at_51) kk) ?_
      refine ob T8 (mkF mG 63 #[.val (.int p0), .val (.int p1), .val (.int (0 : Int32)), .val (.int (1 : Int32)), .val (.ref w_Required), .val (.ref b0_8), .unset, .unset, .unset] []) (fun _ kk => XS.icmpYes X8.here hx rfl (pc0 := 52) (pc' := 63) rfl (hb hby at_52) rfl (feq (by decide : ¬ ((0 : Int32) = (5 : Int32)))).2 (by decide) (by decide) kk) ?_
      refine ob T8 (mkF mG 64 #[.val (.int p0), .val (.int p1), .val (.int (0 : Int32)), .val (.int (1 : Int32)), .val (.ref w_Required), .val (.ref b0_8), .unset, .unset, .unset] [(.int (0 : Int32))]) (fun _ kk => XS.iconst X8.here hx rfl (hb hby at_63) kk) ?_
      refine ob T8 (mkF mG 66 #[.val (.int p0), .val (.int p1), .val (.int (0 : Int32)), .val (.int (1 : Int32)), .val (.ref w_Required), .val (.ref b0_8), .val (.int (0 : Int32)), .unset, .unset] []) (fun _ kk => XS.istore X8.here hx rfl (hb hby at_64) rfl (l' := #[.val (.int p0), .val (.int p1), .val (.int (0 : Int32)), .val (.int (1 : Int32)), .val (.ref w_Required), .val (.ref b0_8), .val (.int (0 : Int32)), .unset, .unset]) rfl kk) ?_
      refine ob T8 (mkF mG 68 #[.val (.int p0), .val (.int p1), .val (.int (0 : Int32)), .val (.int (1 : Int32)), .val (.ref w_Required), .val (.ref b0_8), .val (.int (0 : Int32)), .unset, .unset] [(.int (0 : Int32))]) (fun _ kk => XS.iload X8.here hx rfl (hb hby at_66) rfl kk) ?_
      refine ob T8 (mkF mG 85 #[.val (.int p0), .val (.int p1), .val (.int (0 : Int32)), .val (.int (1 : Int32)), .val (.ref w_Required), .val (.ref b0_8), .val (.int (0 : Int32)), .unset, .unset] []) (fun _ kk => XS.ifYes X8.here hx rfl (pc0 := 68) (pc' := 85) rfl (hb hby at_68) rfl ((if0 _ _).trans (teq (by decide : (0 : Int32) = (0 : Int32))).1) (by decide) (by decide) kk) ?_
      refine ob T8 (mkF mG 87 #[.val (.int p0), .val (.int p1), .val (.int (0 : Int32)), .val (.int (1 : Int32)), .val (.ref w_Required), .val (.ref b0_8), .val (.int (0 : Int32)), .unset, .unset] [(.ref b0_8)]) (fun _ kk => XS.aload X8.here hx rfl (hb hby at_85) rfl rfl kk) ?_
      obtain ⟨cq9, kq9, q9a, q9b, q9c⟩ := isOf hZ e8 F8_0
      obtain ⟨_, _, ⟨T9, L9, k9, n9⟩, -, X9, ⟨Lc9, hQ9, l9, y9, z9⟩, st9⟩ := X8.virtualBack hx (y := (⟨"java/util/Optional", "isPresent", "()Z"⟩ : MethodName)) (z := (⟨"java/util/Optional", "isPresent", "()Z"⟩ : MethodName)) hown (mvT hZ (ow hw 40 rfl)) (mvT hZ (ow hw 41 rfl)) (notFace_of_selects (args := #[]) (mvT hZ (ow hw 43 rfl))) (mvT hZ (ow hw 43 rfl)) (mvT hZ (ow hw 42 rfl)) (by decide) (backOf (W := 0) (rm_ipS l Z a0 hw [] w_Required w_RECEIVED w_NotSupported w_NONE w_RequiresNew w_NEW w_Mandatory w_BeanManaged w_Never w_Supports w_EMPTY b0_8 w_RECEIVED h8 n0 O8 hS F8_1) hZ (ow hw 44 rfl) (ow hw 27 rfl) (by decide) (by decide)) q9a q9c (g := (mkF mG 87 #[.val (.int p0), .val (.int p1), .val (.int (0 : Int32)), .val (.int (1 : Int32)), .val (.ref w_Required), .val (.ref b0_8), .val (.int (0 : Int32)), .unset, .unset] [(.ref b0_8)])) rfl (by rw [hml]; rfl) (Steps.refl _) (argsL := []) (rest := []) (lenOf pd_5 rfl) rfl (by show 2 * 0 + _ ≤ _; exact Nat.le_of_eq rfl) (hb hby at_87) (fun _ _ => ⟨rfl, e8, (by decide : 1 + 0 ≤ _), (by decide : 1 + 0 ≤ _)⟩)
      dsimp only [Pt.U, Pt.locs, Pt.cells, Pt.slots] at X9 l9 y9 z9 st9 hQ9
      subst l9 y9 z9
      obtain ⟨rfl, N9q, e9⟩ := hQ9
      have N9 := Fr.app N8 N9q
      refine ob T9 (mkF mG 90 #[.val (.int p0), .val (.int p1), .val (.int (0 : Int32)), .val (.int (1 : Int32)), .val (.ref w_Required), .val (.ref b0_8), .val (.int (0 : Int32)), .unset, .unset] [(.int (1 : Int32))]) (fun _ kk => st9.trans kk) ?_
      refine ob T9 (mkF mG 95 #[.val (.int p0), .val (.int p1), .val (.int (0 : Int32)), .val (.int (1 : Int32)), .val (.ref w_Required), .val (.ref b0_8), .val (.int (0 : Int32)), .unset, .unset] []) (fun _ kk => XS.ifYes X9.here hx rfl (pc0 := 90) (pc' := 95) rfl (hb hby at_90) rfl ((if0 _ _).trans (feq (by decide : ¬ ((1 : Int32) = (0 : Int32)))).2) (by decide) (by decide) kk) ?_
      refine ob T9 (mkF mG 96 #[.val (.int p0), .val (.int p1), .val (.int (0 : Int32)), .val (.int (1 : Int32)), .val (.ref w_Required), .val (.ref b0_8), .val (.int (0 : Int32)), .unset, .unset] [(.int (1 : Int32))]) (fun _ kk => XS.iloadN X9.here hx rfl (hb hby at_95) rfl kk) ?_
      refine ob T9 (mkF mG 99 #[.val (.int p0), .val (.int p1), .val (.int (0 : Int32)), .val (.int (1 : Int32)), .val (.ref w_Required), .val (.ref b0_8), .val (.int (0 : Int32)), .unset, .unset] []) (fun _ kk => XS.ifNo X9.here hx rfl (hb hby at_96) rfl ((if0 _ _).trans (feq (by decide : ¬ ((1 : Int32) = (0 : Int32)))).1) kk) ?_
      refine ob T9 (mkF mG 100 #[.val (.int p0), .val (.int p1), .val (.int (0 : Int32)), .val (.int (1 : Int32)), .val (.ref w_Required), .val (.ref b0_8), .val (.int (0 : Int32)), .unset, .unset] [(.int (0 : Int32))]) (fun _ kk => XS.iloadN X9.here hx rfl (hb hby at_99) rfl kk) ?_
      refine ob T9 (mkF mG 113 #[.val (.int p0), .val (.int p1), .val (.int (0 : Int32)), .val (.int (1 : Int32)), .val (.ref w_Required), .val (.ref b0_8), .val (.int (0 : Int32)), .unset, .unset] []) (fun _ kk => XS.ifYes X9.here hx rfl (pc0 := 100) (pc' := 113) rfl (hb hby at_100) rfl ((if0 _ _).trans (teq (by decide : (0 : Int32) = (0 : Int32))).1) (by decide) (by decide) kk) ?_
      refine ob T9 (mkF mG 114 #[.val (.int p0), .val (.int p1), .val (.int (0 : Int32)), .val (.int (1 : Int32)), .val (.ref w_Required), .val (.ref b0_8), .val (.int (0 : Int32)), .unset, .unset] [(.int (1 : Int32))]) (fun _ kk => XS.iconst X9.here hx rfl (hb hby at_113) kk) ?_
      refine ob T9 (mkF mG 118 #[.val (.int p0), .val (.int p1), .val (.int (0 : Int32)), .val (.int (1 : Int32)), .val (.ref w_Required), .val (.ref b0_8), .val (.int (0 : Int32)), .unset, .unset] [(.int (1 : Int32))]) (fun _ kk => XS.goto X9.here hx rfl (pc0 := 114) (pc' := 118) rfl (hb hby at_114) (by decide) (by decide) kk) ?_
      refine ob T9 (mkF mG 120 #[.val (.int p0), .val (.int p1), .val (.int (0 : Int32)), .val (.int (1 : Int32)), .val (.ref w_Required), .val (.ref b0_8), .val (.int (0 : Int32)), .val (.int (1 : Int32)), .unset] []) (fun _ kk => XS.istore X9.here hx rfl (hb hby at_118) rfl (l' := #[.val (.int p0), .val (.int p1), .val (.int (0 : Int32)), .val (.int (1 : Int32)), .val (.ref w_Required), .val (.ref b0_8), .val (.int (0 : Int32)), .val (.int (1 : Int32)), .unset]) rfl kk) ?_
      refine ob T9 (mkF mG 122 #[.val (.int p0), .val (.int p1), .val (.int (0 : Int32)), .val (.int (1 : Int32)), .val (.ref w_Required), .val (.ref b0_8), .val (.int (0 : Int32)), .val (.int (1 : Int32)), .unset] [(.int (1 : Int32))]) (fun _ kk => XS.iload X9.here hx rfl (hb hby at_120) rfl kk) ?_
      refine ob T9 (mkF mG 125 #[.val (.int p0), .val (.int p1), .val (.int (0 : Int32)), .val (.int (1 : Int32)), .val (.ref w_Required), .val (.ref b0_8), .val (.int (0 : Int32)), .val (.int (1 : Int32)), .unset] []) (fun _ kk => XS.ifNo X9.here hx rfl (hb hby at_122) rfl ((if0 _ _).trans (feq (by decide : ¬ ((1 : Int32) = (0 : Int32)))).1) kk) ?_
      obtain ⟨T10, X10, e10, st10⟩ := getS2 X9 hx hZ hown (host := "") (Or.inl (ow hw 45 rfl)) Via.refl e9 (S_w_RECEIVED.ext O8.2) (g := (mkF mG 125 #[.val (.int p0), .val (.int p1), .val (.int (0 : Int32)), .val (.int (1 : Int32)), .val (.ref w_Required), .val (.ref b0_8), .val (.int (0 : Int32)), .val (.int (1 : Int32)), .unset] [])) rfl (hb hby at_125)
      refine ob T10 (mkF mG 128 #[.val (.int p0), .val (.int p1), .val (.int (0 : Int32)), .val (.int (1 : Int32)), .val (.ref w_Required), .val (.ref b0_8), .val (.int (0 : Int32)), .val (.int (1 : Int32)), .unset] [(.ref w_RECEIVED)]) (fun _ kk => st10 _ kk) ?_
      refine ob T10 (mkF mG 130 #[.val (.int p0), .val (.int p1), .val (.int (0 : Int32)), .val (.int (1 : Int32)), .val (.ref w_Required), .val (.ref b0_8), .val (.int (0 : Int32)), .val (.int (1 : Int32)), .val (.ref w_RECEIVED)] []) (fun _ kk => XS.astore X10.here hx rfl (hb hby at_128) rfl rfl (l' := #[.val (.int p0), .val (.int p1), .val (.int (0 : Int32)), .val (.int (1 : Int32)), .val (.ref w_Required), .val (.ref b0_8), .val (.int (0 : Int32)), .val (.int (1 : Int32)), .val (.ref w_RECEIVED)]) rfl kk) ?_
      refine ob T10 (mkF mG 159 #[.val (.int p0), .val (.int p1), .val (.int (0 : Int32)), .val (.int (1 : Int32)), .val (.ref w_Required), .val (.ref b0_8), .val (.int (0 : Int32)), .val (.int (1 : Int32)), .val (.ref w_RECEIVED)] []) (fun _ kk => XS.goto X10.here hx rfl (pc0 := 130) (pc' := 159) rfl (hb hby at_130) (by decide) (by decide) kk) ?_
      refine ob T10 (mkF mG 161 #[.val (.int p0), .val (.int p1), .val (.int (0 : Int32)), .val (.int (1 : Int32)), .val (.ref w_Required), .val (.ref b0_8), .val (.int (0 : Int32)), .val (.int (1 : Int32)), .val (.ref w_RECEIVED)] [(.ref b0_8)]) (fun _ kk => XS.aload X10.here hx rfl (hb hby at_159) rfl rfl kk) ?_
      obtain ⟨cq11, kq11, q11a, q11b, q11c⟩ := isOf hZ e10 F8_0
      obtain ⟨_, _, ⟨T11, L11, k11, n11⟩, -, X11, ⟨Lc11, hQ11, l11, y11, z11⟩, st11⟩ := X10.virtualBack hx (y := (⟨"java/util/Optional", "get", "()Ljava/lang/Object;"⟩ : MethodName)) (z := (⟨"java/util/Optional", "get", "()Ljava/lang/Object;"⟩ : MethodName)) hown (mvT hZ (ow hw 46 rfl)) (mvT hZ (ow hw 47 rfl)) (notFace_of_selects (args := #[]) (mvT hZ (ow hw 49 rfl))) (mvT hZ (ow hw 49 rfl)) (mvT hZ (ow hw 48 rfl)) (by decide) (backOf (W := 0) (rm_get l Z a0 hw [] w_Required w_RECEIVED w_NotSupported w_NONE w_RequiresNew w_NEW w_Mandatory w_BeanManaged w_Never w_Supports w_EMPTY b0_8 w_RECEIVED h8 n0 O8 hS F8_1) hZ (ow hw 50 rfl) (ow hw 27 rfl) (by decide) (by decide)) q11a q11c (g := (mkF mG 161 #[.val (.int p0), .val (.int p1), .val (.int (0 : Int32)), .val (.int (1 : Int32)), .val (.ref w_Required), .val (.ref b0_8), .val (.int (0 : Int32)), .val (.int (1 : Int32)), .val (.ref w_RECEIVED)] [(.ref b0_8)])) rfl (by rw [hml]; rfl) (Steps.refl _) (argsL := []) (rest := []) (lenOf pd_6 rfl) rfl (by show 2 * 0 + _ ≤ _; exact Nat.le_of_eq rfl) (hb hby at_161) (fun _ _ => ⟨rfl, e10, (by decide : 1 + 0 ≤ _), (by decide : 1 + 0 ≤ _)⟩)
      dsimp only [Pt.U, Pt.locs, Pt.cells, Pt.slots] at X11 l11 y11 z11 st11 hQ11
      subst l11 y11 z11
      obtain ⟨rfl, N11q, e11⟩ := hQ11
      have N11 := Fr.app N9 N11q
      refine ob T11 (mkF mG 164 #[.val (.int p0), .val (.int p1), .val (.int (0 : Int32)), .val (.int (1 : Int32)), .val (.ref w_Required), .val (.ref b0_8), .val (.int (0 : Int32)), .val (.int (1 : Int32)), .val (.ref w_RECEIVED)] [(.ref w_RECEIVED)]) (fun _ kk => st11.trans kk) ?_
      refine ob T11 (mkF mG 166 #[.val (.int p0), .val (.int p1), .val (.int (0 : Int32)), .val (.int (1 : Int32)), .val (.ref w_Required), .val (.ref b0_8), .val (.int (0 : Int32)), .val (.int (1 : Int32)), .val (.ref w_RECEIVED)] [(.ref w_RECEIVED), (.ref w_RECEIVED)]) (fun _ kk => XS.aload X11.here hx rfl (hb hby at_164) rfl rfl kk) ?_
      refine ob T11 (mkF mG 169 #[.val (.int p0), .val (.int p1), .val (.int (0 : Int32)), .val (.int (1 : Int32)), .val (.ref w_Required), .val (.ref b0_8), .val (.int (0 : Int32)), .val (.int (1 : Int32)), .val (.ref w_RECEIVED)] []) (fun _ kk => Jvm.RoadKit.acmp (g := (mkF mG 166 #[.val (.int p0), .val (.int p1), .val (.int (0 : Int32)), .val (.int (1 : Int32)), .val (.ref w_Required), .val (.ref b0_8), .val (.int (0 : Int32)), .val (.int (1 : Int32)), .val (.ref w_RECEIVED)] [(.ref w_RECEIVED), (.ref w_RECEIVED)])) X11 hx rfl rfl rfl (pc0 := 166) (pc' := 169) (same := true) rfl (hb hby at_166) rfl (decide_eq_true rfl) (by decide) (by decide) kk) ?_
      refine ob T11 (mkF mG 170 #[.val (.int p0), .val (.int p1), .val (.int (0 : Int32)), .val (.int (1 : Int32)), .val (.ref w_Required), .val (.ref b0_8), .val (.int (0 : Int32)), .val (.int (1 : Int32)), .val (.ref w_RECEIVED)] [(.int (1 : Int32))]) (fun _ kk => XS.iconst X11.here hx rfl (hb hby at_169) kk) ?_
      refine ob T11 (mkF mG 174 #[.val (.int p0), .val (.int p1), .val (.int (0 : Int32)), .val (.int (1 : Int32)), .val (.ref w_Required), .val (.ref b0_8), .val (.int (0 : Int32)), .val (.int (1 : Int32)), .val (.ref w_RECEIVED)] [(.int (1 : Int32))]) (fun _ kk => XS.goto X11.here hx rfl (pc0 := 170) (pc' := 174) rfl (hb hby at_170) (by decide) (by decide) kk) ?_
      obtain ⟨fs, hr, hrun, hended, hW, hsame⟩ := X11.leave (v := some (.int (1 : Int32))) (fun h => by rw [Bd.returns] at h; cases h)
      refine oout (retN X11 hx (t := .boolean) Bd.returns (by simp) (hb hby at_174) hr) hrun hended ⟨_, _, rfl, ?_, ⟨_, rfl⟩, hW, hsame.mono (by decide) (by decide)⟩
      show Q_rm0 Z w_Required w_RECEIVED w_NotSupported w_NONE w_RequiresNew w_NEW w_Mandatory w_BeanManaged w_Never w_Supports w_EMPTY p0 p1 h0 n0 _ T11.heap _
      rw [e11]
      exact ⟨rfl, N11⟩
  · skip
    show oGo pG eG belowG _ s₁ (mkF mG 8 #[.val (.int p0), .val (.int p1), .val (.int (1 : Int32)), .unset, .unset, .unset, .unset, .unset, .unset] [])
    refine ob s₁ (mkF mG 9 #[.val (.int p0), .val (.int p1), .val (.int (1 : Int32)), .unset, .unset, .unset, .unset, .unset, .unset] [(.int p1)]) (fun _ kk => XS.iloadN X0.here hx rfl (hb hby at_8) rfl kk) ?_
    refine ob s₁ (mkF mG 10 #[.val (.int p0), .val (.int p1), .val (.int (1 : Int32)), .unset, .unset, .unset, .unset, .unset, .unset] [(.int (1 : Int32)), (.int p1)]) (fun _ kk => XS.iconst X0.here hx rfl (hb hby at_9) kk) ?_
    refine ob s₁ (mkF mG 11 #[.val (.int p0), .val (.int p1), .val (.int (1 : Int32)), .unset, .unset, .unset, .unset, .unset, .unset] [(.int (p1 &&& (1 : Int32)))]) (fun _ kk => XS.iand X0.here hx rfl (hb hby at_10) rfl kk) ?_
    by_cases hc12 : (p1 &&& (1 : Int32)) = (0 : Int32)
    · skip
      refine ob s₁ (mkF mG 18 #[.val (.int p0), .val (.int p1), .val (.int (1 : Int32)), .unset, .unset, .unset, .unset, .unset, .unset] []) (fun _ kk => XS.ifYes X0.here hx rfl (pc0 := 11) (pc' := 18) rfl (hb hby at_11) rfl ((if0 _ _).trans (teq hc12).1) (by decide) (by decide) kk) ?_
      refine ob s₁ (mkF mG 19 #[.val (.int p0), .val (.int p1), .val (.int (1 : Int32)), .unset, .unset, .unset, .unset, .unset, .unset] [(.int (0 : Int32))]) (fun _ kk => XS.iconst X0.here hx rfl (hb hby at_18) kk) ?_
      refine ob s₁ (mkF mG 20 #[.val (.int p0), .val (.int p1), .val (.int (1 : Int32)), .val (.int (0 : Int32)), .unset, .unset, .unset, .unset, .unset] []) (fun _ kk => XS.istoreN X0.here hx rfl (hb hby at_19) rfl (l' := #[.val (.int p0), .val (.int p1), .val (.int (1 : Int32)), .val (.int (0 : Int32)), .unset, .unset, .unset, .unset, .unset]) rfl kk) ?_
      refine ob s₁ (mkF mG 21 #[.val (.int p0), .val (.int p1), .val (.int (1 : Int32)), .val (.int (0 : Int32)), .unset, .unset, .unset, .unset, .unset] [(.int (1 : Int32))]) (fun _ kk => XS.iloadN X0.here hx rfl (hb hby at_20) rfl kk) ?_
      obtain ⟨_, _, ⟨T13, L13, k13, n13⟩, -, X13, ⟨Lc13, hQ13, l13, y13, z13⟩, st13⟩ := Jvm.LawKit.callS X0 hx (y := (⟨"com/example/vorgang/vorgang/model/PolicyApplyPinLaw", "pick", "(I)Lcom/example/vorgang/vorgang/model/Policy;"⟩ : MethodName)) hown (mvT hZ (ow hw 1 rfl)) (mvT hZ (ow hw 2 rfl)) (mvT hZ (ow hw 3 rfl)) (mvT hZ (ow hw 4 rfl)) (by decide) (backOf (W := 0) (rm_pick1 l Z a0 hw [] w_Required w_RECEIVED w_NotSupported w_NONE w_RequiresNew w_NEW w_Mandatory w_BeanManaged w_Never w_Supports w_EMPTY  h0 n0 O0 hS ) hZ (ow hw 4 rfl) (ow hw 3 rfl) (by decide) (by decide)) (g := (mkF mG 21 #[.val (.int p0), .val (.int p1), .val (.int (1 : Int32)), .val (.int (0 : Int32)), .unset, .unset, .unset, .unset, .unset] [(.int (1 : Int32))])) rfl (by rw [hml]; rfl) (argsL := [(.int (1 : Int32))]) (rest := []) (lenOf pd_3 rfl) rfl (by show 2 * 0 + _ ≤ _; exact Nat.le_of_eq rfl) (hb hby at_21) (fun _ _ => ⟨rfl, e0, (by decide : 0 + 0 ≤ _), (by decide : 0 + 0 ≤ _)⟩)
      dsimp only [Pt.U, Pt.locs, Pt.cells, Pt.slots] at X13 l13 y13 z13 st13 hQ13
      subst l13 y13 z13
      obtain ⟨rfl, N13q, e13⟩ := hQ13
      have N13 := Fr.app N0 N13q
      refine ob T13 (mkF mG 24 #[.val (.int p0), .val (.int p1), .val (.int (1 : Int32)), .val (.int (0 : Int32)), .unset, .unset, .unset, .unset, .unset] [(.ref w_RequiresNew)]) (fun _ kk => st13 _ kk) ?_
      refine ob T13 (mkF mG 26 #[.val (.int p0), .val (.int p1), .val (.int (1 : Int32)), .val (.int (0 : Int32)), .val (.ref w_RequiresNew), .unset, .unset, .unset, .unset] []) (fun _ kk => XS.astore X13.here hx rfl (hb hby at_24) rfl rfl (l' := #[.val (.int p0), .val (.int p1), .val (.int (1 : Int32)), .val (.int (0 : Int32)), .val (.ref w_RequiresNew), .unset, .unset, .unset, .unset]) rfl kk) ?_
      refine ob T13 (mkF mG 28 #[.val (.int p0), .val (.int p1), .val (.int (1 : Int32)), .val (.int (0 : Int32)), .val (.ref w_RequiresNew), .unset, .unset, .unset, .unset] [(.ref w_RequiresNew)]) (fun _ kk => XS.aload X13.here hx rfl (hb hby at_26) rfl rfl kk) ?_
      refine ob T13 (mkF mG 29 #[.val (.int p0), .val (.int p1), .val (.int (1 : Int32)), .val (.int (0 : Int32)), .val (.ref w_RequiresNew), .unset, .unset, .unset, .unset] [(.int (0 : Int32)), (.ref w_RequiresNew)]) (fun _ kk => XS.iloadN X13.here hx rfl (hb hby at_28) rfl kk) ?_
      obtain ⟨cq14, kq14, q14a, q14b, q14c⟩ := isOf hZ e13 (E_w_RequiresNew.ext O0.2)
      obtain ⟨_, _, ⟨T14, L14, k14, n14⟩, -, X14, ⟨Lc14, hQ14, l14, y14, z14⟩, st14⟩ := X13.virtualBack hx (y := (⟨"com/example/vorgang/vorgang/model/Policy", "apply", "(Z)Ljava/util/Optional;"⟩ : MethodName)) (z := (⟨"com/example/vorgang/vorgang/model/Policy", "apply", "(Z)Ljava/util/Optional;"⟩ : MethodName)) hown (mvT hZ (ow hw 8 rfl)) (mvT hZ (ow hw 9 rfl)) (notFace_of_selects (args := #[]) (mvT hZ (ow hw 11 rfl))) (mvT hZ (ow hw 11 rfl)) (mvT hZ (ow hw 10 rfl)) (by decide) (backOf (W := 0) (rm_ap1_0 l Z a0 hw [] w_Required w_RECEIVED w_NotSupported w_NONE w_RequiresNew w_NEW w_Mandatory w_BeanManaged w_Never w_Supports w_EMPTY  h0 n0 O0 hS ) hZ (ow hw 12 rfl) (ow hw 6 rfl) (by decide) (by decide)) q14a q14c (g := (mkF mG 29 #[.val (.int p0), .val (.int p1), .val (.int (1 : Int32)), .val (.int (0 : Int32)), .val (.ref w_RequiresNew), .unset, .unset, .unset, .unset] [(.int (0 : Int32)), (.ref w_RequiresNew)])) rfl (by rw [hml]; rfl) (Steps.refl _) (argsL := [(.int (0 : Int32))]) (rest := []) (lenOf pd_4 rfl) rfl (by show 2 * 0 + _ ≤ _; exact Nat.le_of_eq rfl) (hb hby at_29) (fun _ _ => ⟨rfl, e13, (by decide : 0 + 1 ≤ _), (by decide : 0 + 1 ≤ _)⟩)
      dsimp only [Pt.U, Pt.locs, Pt.cells, Pt.slots] at X14 l14 y14 z14 st14 hQ14
      subst l14 y14 z14
      obtain ⟨h14, e14⟩ : ∃ h, T14.heap = h := ⟨_, rfl⟩
      rw [e14] at hQ14
      obtain ⟨b0_14, rfl, N14q, K14q, O14, n_b0_14, z_b0_14, F14_0, F14_1⟩ := hQ14
      have N14 := Fr.app N13 N14q
      have sz_b0_14 : h0.size ≤ b0_14 := Nat.le_trans K0.1 z_b0_14
      have K14 := K0.trans K14q all0
      refine ob T14 (mkF mG 32 #[.val (.int p0), .val (.int p1), .val (.int (1 : Int32)), .val (.int (0 : Int32)), .val (.ref w_RequiresNew), .unset, .unset, .unset, .unset] [(.ref b0_14)]) (fun _ kk => st14.trans kk) ?_
      refine ob T14 (mkF mG 34 #[.val (.int p0), .val (.int p1), .val (.int (1 : Int32)), .val (.int (0 : Int32)), .val (.ref w_RequiresNew), .val (.ref b0_14), .unset, .unset, .unset] []) (fun _ kk => XS.astore X14.here hx rfl (hb hby at_32) rfl rfl (l' := #[.val (.int p0), .val (.int p1), .val (.int (1 : Int32)), .val (.int (0 : Int32)), .val (.ref w_RequiresNew), .val (.ref b0_14), .unset, .unset, .unset]) rfl kk) ?_
      refine ob T14 (mkF mG 36 #[.val (.int p0), .val (.int p1), .val (.int (1 : Int32)), .val (.int (0 : Int32)), .val (.ref w_RequiresNew), .val (.ref b0_14), .unset, .unset, .unset] [(.ref b0_14)]) (fun _ kk => XS.aload X14.here hx rfl (hb hby at_34) rfl rfl kk) ?_
      refine ob T14 (mkF mG 41 #[.val (.int p0), .val (.int p1), .val (.int (1 : Int32)), .val (.int (0 : Int32)), .val (.ref w_RequiresNew), .val (.ref b0_14), .unset, .unset, .unset] []) (fun _ kk => XS.ifnonnullYes X14.here hx rfl (pc0 := 36) (pc' := 41) rfl (hb hby at_36) rfl (by decide) (by decide) kk) ?_
      refine ob T14 (mkF mG 42 #[.val (.int p0), .val (.int p1), .val (.int (1 : Int32)), .val (.int (0 : Int32)), .val (.ref w_RequiresNew), .val (.ref b0_14), .unset, .unset, .unset] [(.int (1 : Int32))]) (fun _ kk => XS.iloadN X14.here hx rfl (hb hby at_41) rfl kk) ?_
      refine ob T14 (mkF mG 43 #[.val (.int p0), .val (.int p1), .val (.int (1 : Int32)), .val (.int (0 : Int32)), .val (.ref w_RequiresNew), .val (.ref b0_14), .unset, .unset, .unset] [(.int (4 : Int32)), (.int (1 : Int32))]) (fun _ kk => XS.iconst X14.here hx rfl (hb hby at_42) kk) ?_
      refine ob T14 (mkF mG 50 #[.val (.int p0), .val (.int p1), .val (.int (1 : Int32)), .val (.int (0 : Int32)), .val (.ref w_RequiresNew), .val (.ref b0_14), .unset, .unset, .unset] []) (fun _ kk => XS.icmpYes X14.here hx rfl (pc0 := 43) (pc' := 50) rfl (hb hby at_43) rfl (feq (by decide : ¬ ((1 : Int32) = (4 : Int32)))).2 (by decide) (by decide) kk) ?_
      refine ob T14 (mkF mG 51 #[.val (.int p0), .val (.int p1), .val (.int (1 : Int32)), .val (.int (0 : Int32)), .val (.ref w_RequiresNew), .val (.ref b0_14), .unset, .unset, .unset] [(.int (1 : Int32))]) (fun _ kk => XS.iloadN X14.here hx rfl (hb hby at_50) rfl kk) ?_
      refine ob T14 (mkF mG 52 #[.val (.int p0), .val (.int p1), .val (.int (1 : Int32)), .val (.int (0 : Int32)), .val (.ref w_RequiresNew), .val (.ref b0_14), .unset, .unset, .unset] [(.int (5 : Int32)), (.int (1 : Int32))]) (fun _ kk => XS.iconst X14.here hx rfl (hb hby at_51) kk) ?_
      refine ob T14 (mkF mG 63 #[.val (.int p0), .val (.int p1), .val (.int (1 : Int32)), .val (.int (0 : Int32)), .val (.ref w_RequiresNew), .val (.ref b0_14), .unset, .unset, .unset] []) (fun _ kk => XS.icmpYes X14.here hx rfl (pc0 := 52) (pc' := 63) rfl (hb hby at_52) rfl (feq (by decide : ¬ ((1 : Int32) = (5 : Int32)))).2 (by decide) (by decide) kk) ?_
      refine ob T14 (mkF mG 64 #[.val (.int p0), .val (.int p1), .val (.int (1 : Int32)), .val (.int (0 : Int32)), .val (.ref w_RequiresNew), .val (.ref b0_14), .unset, .unset, .unset] [(.int (0 : Int32))]) (fun _ kk => XS.iconst X14.here hx rfl (hb hby at_63) kk) ?_
      refine ob T14 (mkF mG 66 #[.val (.int p0), .val (.int p1), .val (.int (1 : Int32)), .val (.int (0 : Int32)), .val (.ref w_RequiresNew), .val (.ref b0_14), .val (.int (0 : Int32)), .unset, .unset] []) (fun _ kk => XS.istore X14.here hx rfl (hb hby at_64) rfl (l' := #[.val (.int p0), .val (.int p1), .val (.int (1 : Int32)), .val (.int (0 : Int32)), .val (.ref w_RequiresNew), .val (.ref b0_14), .val (.int (0 : Int32)), .unset, .unset]) rfl kk) ?_
      refine ob T14 (mkF mG 68 #[.val (.int p0), .val (.int p1), .val (.int (1 : Int32)), .val (.int (0 : Int32)), .val (.ref w_RequiresNew), .val (.ref b0_14), .val (.int (0 : Int32)), .unset, .unset] [(.int (0 : Int32))]) (fun _ kk => XS.iload X14.here hx rfl (hb hby at_66) rfl kk) ?_
      refine ob T14 (mkF mG 85 #[.val (.int p0), .val (.int p1), .val (.int (1 : Int32)), .val (.int (0 : Int32)), .val (.ref w_RequiresNew), .val (.ref b0_14), .val (.int (0 : Int32)), .unset, .unset] []) (fun _ kk => XS.ifYes X14.here hx rfl (pc0 := 68) (pc' := 85) rfl (hb hby at_68) rfl ((if0 _ _).trans (teq (by decide : (0 : Int32) = (0 : Int32))).1) (by decide) (by decide) kk) ?_
      refine ob T14 (mkF mG 87 #[.val (.int p0), .val (.int p1), .val (.int (1 : Int32)), .val (.int (0 : Int32)), .val (.ref w_RequiresNew), .val (.ref b0_14), .val (.int (0 : Int32)), .unset, .unset] [(.ref b0_14)]) (fun _ kk => XS.aload X14.here hx rfl (hb hby at_85) rfl rfl kk) ?_
      obtain ⟨cq15, kq15, q15a, q15b, q15c⟩ := isOf hZ e14 F14_0
      obtain ⟨_, _, ⟨T15, L15, k15, n15⟩, -, X15, ⟨Lc15, hQ15, l15, y15, z15⟩, st15⟩ := X14.virtualBack hx (y := (⟨"java/util/Optional", "isPresent", "()Z"⟩ : MethodName)) (z := (⟨"java/util/Optional", "isPresent", "()Z"⟩ : MethodName)) hown (mvT hZ (ow hw 40 rfl)) (mvT hZ (ow hw 41 rfl)) (notFace_of_selects (args := #[]) (mvT hZ (ow hw 43 rfl))) (mvT hZ (ow hw 43 rfl)) (mvT hZ (ow hw 42 rfl)) (by decide) (backOf (W := 0) (rm_ipS l Z a0 hw [] w_Required w_RECEIVED w_NotSupported w_NONE w_RequiresNew w_NEW w_Mandatory w_BeanManaged w_Never w_Supports w_EMPTY b0_14 w_NEW h14 n0 O14 hS F14_1) hZ (ow hw 44 rfl) (ow hw 27 rfl) (by decide) (by decide)) q15a q15c (g := (mkF mG 87 #[.val (.int p0), .val (.int p1), .val (.int (1 : Int32)), .val (.int (0 : Int32)), .val (.ref w_RequiresNew), .val (.ref b0_14), .val (.int (0 : Int32)), .unset, .unset] [(.ref b0_14)])) rfl (by rw [hml]; rfl) (Steps.refl _) (argsL := []) (rest := []) (lenOf pd_5 rfl) rfl (by show 2 * 0 + _ ≤ _; exact Nat.le_of_eq rfl) (hb hby at_87) (fun _ _ => ⟨rfl, e14, (by decide : 1 + 0 ≤ _), (by decide : 1 + 0 ≤ _)⟩)
      dsimp only [Pt.U, Pt.locs, Pt.cells, Pt.slots] at X15 l15 y15 z15 st15 hQ15
      subst l15 y15 z15
      obtain ⟨rfl, N15q, e15⟩ := hQ15
      have N15 := Fr.app N14 N15q
      refine ob T15 (mkF mG 90 #[.val (.int p0), .val (.int p1), .val (.int (1 : Int32)), .val (.int (0 : Int32)), .val (.ref w_RequiresNew), .val (.ref b0_14), .val (.int (0 : Int32)), .unset, .unset] [(.int (1 : Int32))]) (fun _ kk => st15.trans kk) ?_
      refine ob T15 (mkF mG 95 #[.val (.int p0), .val (.int p1), .val (.int (1 : Int32)), .val (.int (0 : Int32)), .val (.ref w_RequiresNew), .val (.ref b0_14), .val (.int (0 : Int32)), .unset, .unset] []) (fun _ kk => XS.ifYes X15.here hx rfl (pc0 := 90) (pc' := 95) rfl (hb hby at_90) rfl ((if0 _ _).trans (feq (by decide : ¬ ((1 : Int32) = (0 : Int32)))).2) (by decide) (by decide) kk) ?_
      refine ob T15 (mkF mG 96 #[.val (.int p0), .val (.int p1), .val (.int (1 : Int32)), .val (.int (0 : Int32)), .val (.ref w_RequiresNew), .val (.ref b0_14), .val (.int (0 : Int32)), .unset, .unset] [(.int (0 : Int32))]) (fun _ kk => XS.iloadN X15.here hx rfl (hb hby at_95) rfl kk) ?_
      refine ob T15 (mkF mG 117 #[.val (.int p0), .val (.int p1), .val (.int (1 : Int32)), .val (.int (0 : Int32)), .val (.ref w_RequiresNew), .val (.ref b0_14), .val (.int (0 : Int32)), .unset, .unset] []) (fun _ kk => XS.ifYes X15.here hx rfl (pc0 := 96) (pc' := 117) rfl (hb hby at_96) rfl ((if0 _ _).trans (teq (by decide : (0 : Int32) = (0 : Int32))).1) (by decide) (by decide) kk) ?_
      refine ob T15 (mkF mG 118 #[.val (.int p0), .val (.int p1), .val (.int (1 : Int32)), .val (.int (0 : Int32)), .val (.ref w_RequiresNew), .val (.ref b0_14), .val (.int (0 : Int32)), .unset, .unset] [(.int (0 : Int32))]) (fun _ kk => XS.iconst X15.here hx rfl (hb hby at_117) kk) ?_
      refine ob T15 (mkF mG 120 #[.val (.int p0), .val (.int p1), .val (.int (1 : Int32)), .val (.int (0 : Int32)), .val (.ref w_RequiresNew), .val (.ref b0_14), .val (.int (0 : Int32)), .val (.int (0 : Int32)), .unset] []) (fun _ kk => XS.istore X15.here hx rfl (hb hby at_118) rfl (l' := #[.val (.int p0), .val (.int p1), .val (.int (1 : Int32)), .val (.int (0 : Int32)), .val (.ref w_RequiresNew), .val (.ref b0_14), .val (.int (0 : Int32)), .val (.int (0 : Int32)), .unset]) rfl kk) ?_
      refine ob T15 (mkF mG 122 #[.val (.int p0), .val (.int p1), .val (.int (1 : Int32)), .val (.int (0 : Int32)), .val (.ref w_RequiresNew), .val (.ref b0_14), .val (.int (0 : Int32)), .val (.int (0 : Int32)), .unset] [(.int (0 : Int32))]) (fun _ kk => XS.iload X15.here hx rfl (hb hby at_120) rfl kk) ?_
      refine ob T15 (mkF mG 133 #[.val (.int p0), .val (.int p1), .val (.int (1 : Int32)), .val (.int (0 : Int32)), .val (.ref w_RequiresNew), .val (.ref b0_14), .val (.int (0 : Int32)), .val (.int (0 : Int32)), .unset] []) (fun _ kk => XS.ifYes X15.here hx rfl (pc0 := 122) (pc' := 133) rfl (hb hby at_122) rfl ((if0 _ _).trans (teq (by decide : (0 : Int32) = (0 : Int32))).1) (by decide) (by decide) kk) ?_
      refine ob T15 (mkF mG 134 #[.val (.int p0), .val (.int p1), .val (.int (1 : Int32)), .val (.int (0 : Int32)), .val (.ref w_RequiresNew), .val (.ref b0_14), .val (.int (0 : Int32)), .val (.int (0 : Int32)), .unset] [(.int (1 : Int32))]) (fun _ kk => XS.iloadN X15.here hx rfl (hb hby at_133) rfl kk) ?_
      refine ob T15 (mkF mG 135 #[.val (.int p0), .val (.int p1), .val (.int (1 : Int32)), .val (.int (0 : Int32)), .val (.ref w_RequiresNew), .val (.ref b0_14), .val (.int (0 : Int32)), .val (.int (0 : Int32)), .unset] [(.int (1 : Int32)), (.int (1 : Int32))]) (fun _ kk => XS.iconst X15.here hx rfl (hb hby at_134) kk) ?_
      refine ob T15 (mkF mG 146 #[.val (.int p0), .val (.int p1), .val (.int (1 : Int32)), .val (.int (0 : Int32)), .val (.ref w_RequiresNew), .val (.ref b0_14), .val (.int (0 : Int32)), .val (.int (0 : Int32)), .unset] []) (fun _ kk => XS.icmpYes X15.here hx rfl (pc0 := 135) (pc' := 146) rfl (hb hby at_135) rfl (teq (by decide : (1 : Int32) = (1 : Int32))).1 (by decide) (by decide) kk) ?_
      obtain ⟨T16, X16, e16, st16⟩ := getS2 X15 hx hZ hown (host := "") (Or.inl (ow hw 60 rfl)) Via.refl e15 (S_w_NEW.ext O14.2) (g := (mkF mG 146 #[.val (.int p0), .val (.int p1), .val (.int (1 : Int32)), .val (.int (0 : Int32)), .val (.ref w_RequiresNew), .val (.ref b0_14), .val (.int (0 : Int32)), .val (.int (0 : Int32)), .unset] [])) rfl (hb hby at_146)
      refine ob T16 (mkF mG 149 #[.val (.int p0), .val (.int p1), .val (.int (1 : Int32)), .val (.int (0 : Int32)), .val (.ref w_RequiresNew), .val (.ref b0_14), .val (.int (0 : Int32)), .val (.int (0 : Int32)), .unset] [(.ref w_NEW)]) (fun _ kk => st16 _ kk) ?_
      refine ob T16 (mkF mG 151 #[.val (.int p0), .val (.int p1), .val (.int (1 : Int32)), .val (.int (0 : Int32)), .val (.ref w_RequiresNew), .val (.ref b0_14), .val (.int (0 : Int32)), .val (.int (0 : Int32)), .val (.ref w_NEW)] []) (fun _ kk => XS.astore X16.here hx rfl (hb hby at_149) rfl rfl (l' := #[.val (.int p0), .val (.int p1), .val (.int (1 : Int32)), .val (.int (0 : Int32)), .val (.ref w_RequiresNew), .val (.ref b0_14), .val (.int (0 : Int32)), .val (.int (0 : Int32)), .val (.ref w_NEW)]) rfl kk) ?_
      refine ob T16 (mkF mG 159 #[.val (.int p0), .val (.int p1), .val (.int (1 : Int32)), .val (.int (0 : Int32)), .val (.ref w_RequiresNew), .val (.ref b0_14), .val (.int (0 : Int32)), .val (.int (0 : Int32)), .val (.ref w_NEW)] []) (fun _ kk => XS.goto X16.here hx rfl (pc0 := 151) (pc' := 159) rfl (hb hby at_151) (by decide) (by decide) kk) ?_
      refine ob T16 (mkF mG 161 #[.val (.int p0), .val (.int p1), .val (.int (1 : Int32)), .val (.int (0 : Int32)), .val (.ref w_RequiresNew), .val (.ref b0_14), .val (.int (0 : Int32)), .val (.int (0 : Int32)), .val (.ref w_NEW)] [(.ref b0_14)]) (fun _ kk => XS.aload X16.here hx rfl (hb hby at_159) rfl rfl kk) ?_
      obtain ⟨cq17, kq17, q17a, q17b, q17c⟩ := isOf hZ e16 F14_0
      obtain ⟨_, _, ⟨T17, L17, k17, n17⟩, -, X17, ⟨Lc17, hQ17, l17, y17, z17⟩, st17⟩ := X16.virtualBack hx (y := (⟨"java/util/Optional", "get", "()Ljava/lang/Object;"⟩ : MethodName)) (z := (⟨"java/util/Optional", "get", "()Ljava/lang/Object;"⟩ : MethodName)) hown (mvT hZ (ow hw 46 rfl)) (mvT hZ (ow hw 47 rfl)) (notFace_of_selects (args := #[]) (mvT hZ (ow hw 49 rfl))) (mvT hZ (ow hw 49 rfl)) (mvT hZ (ow hw 48 rfl)) (by decide) (backOf (W := 0) (rm_get l Z a0 hw [] w_Required w_RECEIVED w_NotSupported w_NONE w_RequiresNew w_NEW w_Mandatory w_BeanManaged w_Never w_Supports w_EMPTY b0_14 w_NEW h14 n0 O14 hS F14_1) hZ (ow hw 50 rfl) (ow hw 27 rfl) (by decide) (by decide)) q17a q17c (g := (mkF mG 161 #[.val (.int p0), .val (.int p1), .val (.int (1 : Int32)), .val (.int (0 : Int32)), .val (.ref w_RequiresNew), .val (.ref b0_14), .val (.int (0 : Int32)), .val (.int (0 : Int32)), .val (.ref w_NEW)] [(.ref b0_14)])) rfl (by rw [hml]; rfl) (Steps.refl _) (argsL := []) (rest := []) (lenOf pd_6 rfl) rfl (by show 2 * 0 + _ ≤ _; exact Nat.le_of_eq rfl) (hb hby at_161) (fun _ _ => ⟨rfl, e16, (by decide : 1 + 0 ≤ _), (by decide : 1 + 0 ≤ _)⟩)
      dsimp only [Pt.U, Pt.locs, Pt.cells, Pt.slots] at X17 l17 y17 z17 st17 hQ17
      subst l17 y17 z17
      obtain ⟨rfl, N17q, e17⟩ := hQ17
      have N17 := Fr.app N15 N17q
      refine ob T17 (mkF mG 164 #[.val (.int p0), .val (.int p1), .val (.int (1 : Int32)), .val (.int (0 : Int32)), .val (.ref w_RequiresNew), .val (.ref b0_14), .val (.int (0 : Int32)), .val (.int (0 : Int32)), .val (.ref w_NEW)] [(.ref w_NEW)]) (fun _ kk => st17.trans kk) ?_
      refine ob T17 (mkF mG 166 #[.val (.int p0), .val (.int p1), .val (.int (1 : Int32)), .val (.int (0 : Int32)), .val (.ref w_RequiresNew), .val (.ref b0_14), .val (.int (0 : Int32)), .val (.int (0 : Int32)), .val (.ref w_NEW)] [(.ref w_NEW), (.ref w_NEW)]) (fun _ kk => XS.aload X17.here hx rfl (hb hby at_164) rfl rfl kk) ?_
      refine ob T17 (mkF mG 169 #[.val (.int p0), .val (.int p1), .val (.int (1 : Int32)), .val (.int (0 : Int32)), .val (.ref w_RequiresNew), .val (.ref b0_14), .val (.int (0 : Int32)), .val (.int (0 : Int32)), .val (.ref w_NEW)] []) (fun _ kk => Jvm.RoadKit.acmp (g := (mkF mG 166 #[.val (.int p0), .val (.int p1), .val (.int (1 : Int32)), .val (.int (0 : Int32)), .val (.ref w_RequiresNew), .val (.ref b0_14), .val (.int (0 : Int32)), .val (.int (0 : Int32)), .val (.ref w_NEW)] [(.ref w_NEW), (.ref w_NEW)])) X17 hx rfl rfl rfl (pc0 := 166) (pc' := 169) (same := true) rfl (hb hby at_166) rfl (decide_eq_true rfl) (by decide) (by decide) kk) ?_
      refine ob T17 (mkF mG 170 #[.val (.int p0), .val (.int p1), .val (.int (1 : Int32)), .val (.int (0 : Int32)), .val (.ref w_RequiresNew), .val (.ref b0_14), .val (.int (0 : Int32)), .val (.int (0 : Int32)), .val (.ref w_NEW)] [(.int (1 : Int32))]) (fun _ kk => XS.iconst X17.here hx rfl (hb hby at_169) kk) ?_
      refine ob T17 (mkF mG 174 #[.val (.int p0), .val (.int p1), .val (.int (1 : Int32)), .val (.int (0 : Int32)), .val (.ref w_RequiresNew), .val (.ref b0_14), .val (.int (0 : Int32)), .val (.int (0 : Int32)), .val (.ref w_NEW)] [(.int (1 : Int32))]) (fun _ kk => XS.goto X17.here hx rfl (pc0 := 170) (pc' := 174) rfl (hb hby at_170) (by decide) (by decide) kk) ?_
      obtain ⟨fs, hr, hrun, hended, hW, hsame⟩ := X17.leave (v := some (.int (1 : Int32))) (fun h => by rw [Bd.returns] at h; cases h)
      refine oout (retN X17 hx (t := .boolean) Bd.returns (by simp) (hb hby at_174) hr) hrun hended ⟨_, _, rfl, ?_, ⟨_, rfl⟩, hW, hsame.mono (by decide) (by decide)⟩
      show Q_rm0 Z w_Required w_RECEIVED w_NotSupported w_NONE w_RequiresNew w_NEW w_Mandatory w_BeanManaged w_Never w_Supports w_EMPTY p0 p1 h0 n0 _ T17.heap _
      rw [e17]
      exact ⟨rfl, N17⟩
    · skip
      refine ob s₁ (mkF mG 14 #[.val (.int p0), .val (.int p1), .val (.int (1 : Int32)), .unset, .unset, .unset, .unset, .unset, .unset] []) (fun _ kk => XS.ifNo X0.here hx rfl (hb hby at_11) rfl ((if0 _ _).trans (feq hc12).1) kk) ?_
      refine ob s₁ (mkF mG 15 #[.val (.int p0), .val (.int p1), .val (.int (1 : Int32)), .unset, .unset, .unset, .unset, .unset, .unset] [(.int (1 : Int32))]) (fun _ kk => XS.iconst X0.here hx rfl (hb hby at_14) kk) ?_
      refine ob s₁ (mkF mG 19 #[.val (.int p0), .val (.int p1), .val (.int (1 : Int32)), .unset, .unset, .unset, .unset, .unset, .unset] [(.int (1 : Int32))]) (fun _ kk => XS.goto X0.here hx rfl (pc0 := 15) (pc' := 19) rfl (hb hby at_15) (by decide) (by decide) kk) ?_
      refine ob s₁ (mkF mG 20 #[.val (.int p0), .val (.int p1), .val (.int (1 : Int32)), .val (.int (1 : Int32)), .unset, .unset, .unset, .unset, .unset] []) (fun _ kk => XS.istoreN X0.here hx rfl (hb hby at_19) rfl (l' := #[.val (.int p0), .val (.int p1), .val (.int (1 : Int32)), .val (.int (1 : Int32)), .unset, .unset, .unset, .unset, .unset]) rfl kk) ?_
      refine ob s₁ (mkF mG 21 #[.val (.int p0), .val (.int p1), .val (.int (1 : Int32)), .val (.int (1 : Int32)), .unset, .unset, .unset, .unset, .unset] [(.int (1 : Int32))]) (fun _ kk => XS.iloadN X0.here hx rfl (hb hby at_20) rfl kk) ?_
      obtain ⟨_, _, ⟨T18, L18, k18, n18⟩, -, X18, ⟨Lc18, hQ18, l18, y18, z18⟩, st18⟩ := Jvm.LawKit.callS X0 hx (y := (⟨"com/example/vorgang/vorgang/model/PolicyApplyPinLaw", "pick", "(I)Lcom/example/vorgang/vorgang/model/Policy;"⟩ : MethodName)) hown (mvT hZ (ow hw 1 rfl)) (mvT hZ (ow hw 2 rfl)) (mvT hZ (ow hw 3 rfl)) (mvT hZ (ow hw 4 rfl)) (by decide) (backOf (W := 0) (rm_pick1 l Z a0 hw [] w_Required w_RECEIVED w_NotSupported w_NONE w_RequiresNew w_NEW w_Mandatory w_BeanManaged w_Never w_Supports w_EMPTY  h0 n0 O0 hS ) hZ (ow hw 4 rfl) (ow hw 3 rfl) (by decide) (by decide)) (g := (mkF mG 21 #[.val (.int p0), .val (.int p1), .val (.int (1 : Int32)), .val (.int (1 : Int32)), .unset, .unset, .unset, .unset, .unset] [(.int (1 : Int32))])) rfl (by rw [hml]; rfl) (argsL := [(.int (1 : Int32))]) (rest := []) (lenOf pd_3 rfl) rfl (by show 2 * 0 + _ ≤ _; exact Nat.le_of_eq rfl) (hb hby at_21) (fun _ _ => ⟨rfl, e0, (by decide : 0 + 0 ≤ _), (by decide : 0 + 0 ≤ _)⟩)
      dsimp only [Pt.U, Pt.locs, Pt.cells, Pt.slots] at X18 l18 y18 z18 st18 hQ18
      subst l18 y18 z18
      obtain ⟨rfl, N18q, e18⟩ := hQ18
      have N18 := Fr.app N0 N18q
      refine ob T18 (mkF mG 24 #[.val (.int p0), .val (.int p1), .val (.int (1 : Int32)), .val (.int (1 : Int32)), .unset, .unset, .unset, .unset, .unset] [(.ref w_RequiresNew)]) (fun _ kk => st18 _ kk) ?_
      refine ob T18 (mkF mG 26 #[.val (.int p0), .val (.int p1), .val (.int (1 : Int32)), .val (.int (1 : Int32)), .val (.ref w_RequiresNew), .unset, .unset, .unset, .unset] []) (fun _ kk => XS.astore X18.here hx rfl (hb hby at_24) rfl rfl (l' := #[.val (.int p0), .val (.int p1), .val (.int (1 : Int32)), .val (.int (1 : Int32)), .val (.ref w_RequiresNew), .unset, .unset, .unset, .unset]) rfl kk) ?_
      refine ob T18 (mkF mG 28 #[.val (.int p0), .val (.int p1), .val (.int (1 : Int32)), .val (.int (1 : Int32)), .val (.ref w_RequiresNew), .unset, .unset, .unset, .unset] [(.ref w_RequiresNew)]) (fun _ kk => XS.aload X18.here hx rfl (hb hby at_26) rfl rfl kk) ?_
      refine ob T18 (mkF mG 29 #[.val (.int p0), .val (.int p1), .val (.int (1 : Int32)), .val (.int (1 : Int32)), .val (.ref w_RequiresNew), .unset, .unset, .unset, .unset] [(.int (1 : Int32)), (.ref w_RequiresNew)]) (fun _ kk => XS.iloadN X18.here hx rfl (hb hby at_28) rfl kk) ?_
      obtain ⟨cq19, kq19, q19a, q19b, q19c⟩ := isOf hZ e18 (E_w_RequiresNew.ext O0.2)
      obtain ⟨_, _, ⟨T19, L19, k19, n19⟩, -, X19, ⟨Lc19, hQ19, l19, y19, z19⟩, st19⟩ := X18.virtualBack hx (y := (⟨"com/example/vorgang/vorgang/model/Policy", "apply", "(Z)Ljava/util/Optional;"⟩ : MethodName)) (z := (⟨"com/example/vorgang/vorgang/model/Policy", "apply", "(Z)Ljava/util/Optional;"⟩ : MethodName)) hown (mvT hZ (ow hw 8 rfl)) (mvT hZ (ow hw 9 rfl)) (notFace_of_selects (args := #[]) (mvT hZ (ow hw 11 rfl))) (mvT hZ (ow hw 11 rfl)) (mvT hZ (ow hw 10 rfl)) (by decide) (backOf (W := 0) (rm_ap1_1 l Z a0 hw [] w_Required w_RECEIVED w_NotSupported w_NONE w_RequiresNew w_NEW w_Mandatory w_BeanManaged w_Never w_Supports w_EMPTY  h0 n0 O0 hS ) hZ (ow hw 12 rfl) (ow hw 6 rfl) (by decide) (by decide)) q19a q19c (g := (mkF mG 29 #[.val (.int p0), .val (.int p1), .val (.int (1 : Int32)), .val (.int (1 : Int32)), .val (.ref w_RequiresNew), .unset, .unset, .unset, .unset] [(.int (1 : Int32)), (.ref w_RequiresNew)])) rfl (by rw [hml]; rfl) (Steps.refl _) (argsL := [(.int (1 : Int32))]) (rest := []) (lenOf pd_4 rfl) rfl (by show 2 * 0 + _ ≤ _; exact Nat.le_of_eq rfl) (hb hby at_29) (fun _ _ => ⟨rfl, e18, (by decide : 0 + 1 ≤ _), (by decide : 0 + 1 ≤ _)⟩)
      dsimp only [Pt.U, Pt.locs, Pt.cells, Pt.slots] at X19 l19 y19 z19 st19 hQ19
      subst l19 y19 z19
      obtain ⟨h19, e19⟩ : ∃ h, T19.heap = h := ⟨_, rfl⟩
      rw [e19] at hQ19
      obtain ⟨b0_19, rfl, N19q, K19q, O19, n_b0_19, z_b0_19, F19_0, F19_1⟩ := hQ19
      have N19 := Fr.app N18 N19q
      have sz_b0_19 : h0.size ≤ b0_19 := Nat.le_trans K0.1 z_b0_19
      have K19 := K0.trans K19q all0
      refine ob T19 (mkF mG 32 #[.val (.int p0), .val (.int p1), .val (.int (1 : Int32)), .val (.int (1 : Int32)), .val (.ref w_RequiresNew), .unset, .unset, .unset, .unset] [(.ref b0_19)]) (fun _ kk => st19.trans kk) ?_
      refine ob T19 (mkF mG 34 #[.val (.int p0), .val (.int p1), .val (.int (1 : Int32)), .val (.int (1 : Int32)), .val (.ref w_RequiresNew), .val (.ref b0_19), .unset, .unset, .unset] []) (fun _ kk => XS.astore X19.here hx rfl (hb hby at_32) rfl rfl (l' := #[.val (.int p0), .val (.int p1), .val (.int (1 : Int32)), .val (.int (1 : Int32)), .val (.ref w_RequiresNew), .val (.ref b0_19), .unset, .unset, .unset]) rfl kk) ?_
      refine ob T19 (mkF mG 36 #[.val (.int p0), .val (.int p1), .val (.int (1 : Int32)), .val (.int (1 : Int32)), .val (.ref w_RequiresNew), .val (.ref b0_19), .unset, .unset, .unset] [(.ref b0_19)]) (fun _ kk => XS.aload X19.here hx rfl (hb hby at_34) rfl rfl kk) ?_
      refine ob T19 (mkF mG 41 #[.val (.int p0), .val (.int p1), .val (.int (1 : Int32)), .val (.int (1 : Int32)), .val (.ref w_RequiresNew), .val (.ref b0_19), .unset, .unset, .unset] []) (fun _ kk => XS.ifnonnullYes X19.here hx rfl (pc0 := 36) (pc' := 41) rfl (hb hby at_36) rfl (by decide) (by decide) kk) ?_
      refine ob T19 (mkF mG 42 #[.val (.int p0), .val (.int p1), .val (.int (1 : Int32)), .val (.int (1 : Int32)), .val (.ref w_RequiresNew), .val (.ref b0_19), .unset, .unset, .unset] [(.int (1 : Int32))]) (fun _ kk => XS.iloadN X19.here hx rfl (hb hby at_41) rfl kk) ?_
      refine ob T19 (mkF mG 43 #[.val (.int p0), .val (.int p1), .val (.int (1 : Int32)), .val (.int (1 : Int32)), .val (.ref w_RequiresNew), .val (.ref b0_19), .unset, .unset, .unset] [(.int (4 : Int32)), (.int (1 : Int32))]) (fun _ kk => XS.iconst X19.here hx rfl (hb hby at_42) kk) ?_
      refine ob T19 (mkF mG 50 #[.val (.int p0), .val (.int p1), .val (.int (1 : Int32)), .val (.int (1 : Int32)), .val (.ref w_RequiresNew), .val (.ref b0_19), .unset, .unset, .unset] []) (fun _ kk => XS.icmpYes X19.here hx rfl (pc0 := 43) (pc' := 50) rfl (hb hby at_43) rfl (feq (by decide : ¬ ((1 : Int32) = (4 : Int32)))).2 (by decide) (by decide) kk) ?_
      refine ob T19 (mkF mG 51 #[.val (.int p0), .val (.int p1), .val (.int (1 : Int32)), .val (.int (1 : Int32)), .val (.ref w_RequiresNew), .val (.ref b0_19), .unset, .unset, .unset] [(.int (1 : Int32))]) (fun _ kk => XS.iloadN X19.here hx rfl (hb hby at_50) rfl kk) ?_
      refine ob T19 (mkF mG 52 #[.val (.int p0), .val (.int p1), .val (.int (1 : Int32)), .val (.int (1 : Int32)), .val (.ref w_RequiresNew), .val (.ref b0_19), .unset, .unset, .unset] [(.int (5 : Int32)), (.int (1 : Int32))]) (fun _ kk => XS.iconst X19.here hx rfl (hb hby at_51) kk) ?_
      refine ob T19 (mkF mG 63 #[.val (.int p0), .val (.int p1), .val (.int (1 : Int32)), .val (.int (1 : Int32)), .val (.ref w_RequiresNew), .val (.ref b0_19), .unset, .unset, .unset] []) (fun _ kk => XS.icmpYes X19.here hx rfl (pc0 := 52) (pc' := 63) rfl (hb hby at_52) rfl (feq (by decide : ¬ ((1 : Int32) = (5 : Int32)))).2 (by decide) (by decide) kk) ?_
      refine ob T19 (mkF mG 64 #[.val (.int p0), .val (.int p1), .val (.int (1 : Int32)), .val (.int (1 : Int32)), .val (.ref w_RequiresNew), .val (.ref b0_19), .unset, .unset, .unset] [(.int (0 : Int32))]) (fun _ kk => XS.iconst X19.here hx rfl (hb hby at_63) kk) ?_
      refine ob T19 (mkF mG 66 #[.val (.int p0), .val (.int p1), .val (.int (1 : Int32)), .val (.int (1 : Int32)), .val (.ref w_RequiresNew), .val (.ref b0_19), .val (.int (0 : Int32)), .unset, .unset] []) (fun _ kk => XS.istore X19.here hx rfl (hb hby at_64) rfl (l' := #[.val (.int p0), .val (.int p1), .val (.int (1 : Int32)), .val (.int (1 : Int32)), .val (.ref w_RequiresNew), .val (.ref b0_19), .val (.int (0 : Int32)), .unset, .unset]) rfl kk) ?_
      refine ob T19 (mkF mG 68 #[.val (.int p0), .val (.int p1), .val (.int (1 : Int32)), .val (.int (1 : Int32)), .val (.ref w_RequiresNew), .val (.ref b0_19), .val (.int (0 : Int32)), .unset, .unset] [(.int (0 : Int32))]) (fun _ kk => XS.iload X19.here hx rfl (hb hby at_66) rfl kk) ?_
      refine ob T19 (mkF mG 85 #[.val (.int p0), .val (.int p1), .val (.int (1 : Int32)), .val (.int (1 : Int32)), .val (.ref w_RequiresNew), .val (.ref b0_19), .val (.int (0 : Int32)), .unset, .unset] []) (fun _ kk => XS.ifYes X19.here hx rfl (pc0 := 68) (pc' := 85) rfl (hb hby at_68) rfl ((if0 _ _).trans (teq (by decide : (0 : Int32) = (0 : Int32))).1) (by decide) (by decide) kk) ?_
      refine ob T19 (mkF mG 87 #[.val (.int p0), .val (.int p1), .val (.int (1 : Int32)), .val (.int (1 : Int32)), .val (.ref w_RequiresNew), .val (.ref b0_19), .val (.int (0 : Int32)), .unset, .unset] [(.ref b0_19)]) (fun _ kk => XS.aload X19.here hx rfl (hb hby at_85) rfl rfl kk) ?_
      obtain ⟨cq20, kq20, q20a, q20b, q20c⟩ := isOf hZ e19 F19_0
      obtain ⟨_, _, ⟨T20, L20, k20, n20⟩, -, X20, ⟨Lc20, hQ20, l20, y20, z20⟩, st20⟩ := X19.virtualBack hx (y := (⟨"java/util/Optional", "isPresent", "()Z"⟩ : MethodName)) (z := (⟨"java/util/Optional", "isPresent", "()Z"⟩ : MethodName)) hown (mvT hZ (ow hw 40 rfl)) (mvT hZ (ow hw 41 rfl)) (notFace_of_selects (args := #[]) (mvT hZ (ow hw 43 rfl))) (mvT hZ (ow hw 43 rfl)) (mvT hZ (ow hw 42 rfl)) (by decide) (backOf (W := 0) (rm_ipS l Z a0 hw [] w_Required w_RECEIVED w_NotSupported w_NONE w_RequiresNew w_NEW w_Mandatory w_BeanManaged w_Never w_Supports w_EMPTY b0_19 w_NEW h19 n0 O19 hS F19_1) hZ (ow hw 44 rfl) (ow hw 27 rfl) (by decide) (by decide)) q20a q20c (g := (mkF mG 87 #[.val (.int p0), .val (.int p1), .val (.int (1 : Int32)), .val (.int (1 : Int32)), .val (.ref w_RequiresNew), .val (.ref b0_19), .val (.int (0 : Int32)), .unset, .unset] [(.ref b0_19)])) rfl (by rw [hml]; rfl) (Steps.refl _) (argsL := []) (rest := []) (lenOf pd_5 rfl) rfl (by show 2 * 0 + _ ≤ _; exact Nat.le_of_eq rfl) (hb hby at_87) (fun _ _ => ⟨rfl, e19, (by decide : 1 + 0 ≤ _), (by decide : 1 + 0 ≤ _)⟩)
      dsimp only [Pt.U, Pt.locs, Pt.cells, Pt.slots] at X20 l20 y20 z20 st20 hQ20
      subst l20 y20 z20
      obtain ⟨rfl, N20q, e20⟩ := hQ20
      have N20 := Fr.app N19 N20q
      refine ob T20 (mkF mG 90 #[.val (.int p0), .val (.int p1), .val (.int (1 : Int32)), .val (.int (1 : Int32)), .val (.ref w_RequiresNew), .val (.ref b0_19), .val (.int (0 : Int32)), .unset, .unset] [(.int (1 : Int32))]) (fun _ kk => st20.trans kk) ?_
      refine ob T20 (mkF mG 95 #[.val (.int p0), .val (.int p1), .val (.int (1 : Int32)), .val (.int (1 : Int32)), .val (.ref w_RequiresNew), .val (.ref b0_19), .val (.int (0 : Int32)), .unset, .unset] []) (fun _ kk => XS.ifYes X20.here hx rfl (pc0 := 90) (pc' := 95) rfl (hb hby at_90) rfl ((if0 _ _).trans (feq (by decide : ¬ ((1 : Int32) = (0 : Int32)))).2) (by decide) (by decide) kk) ?_
      refine ob T20 (mkF mG 96 #[.val (.int p0), .val (.int p1), .val (.int (1 : Int32)), .val (.int (1 : Int32)), .val (.ref w_RequiresNew), .val (.ref b0_19), .val (.int (0 : Int32)), .unset, .unset] [(.int (1 : Int32))]) (fun _ kk => XS.iloadN X20.here hx rfl (hb hby at_95) rfl kk) ?_
      refine ob T20 (mkF mG 99 #[.val (.int p0), .val (.int p1), .val (.int (1 : Int32)), .val (.int (1 : Int32)), .val (.ref w_RequiresNew), .val (.ref b0_19), .val (.int (0 : Int32)), .unset, .unset] []) (fun _ kk => XS.ifNo X20.here hx rfl (hb hby at_96) rfl ((if0 _ _).trans (feq (by decide : ¬ ((1 : Int32) = (0 : Int32)))).1) kk) ?_
      refine ob T20 (mkF mG 100 #[.val (.int p0), .val (.int p1), .val (.int (1 : Int32)), .val (.int (1 : Int32)), .val (.ref w_RequiresNew), .val (.ref b0_19), .val (.int (0 : Int32)), .unset, .unset] [(.int (1 : Int32))]) (fun _ kk => XS.iloadN X20.here hx rfl (hb hby at_99) rfl kk) ?_
      refine ob T20 (mkF mG 103 #[.val (.int p0), .val (.int p1), .val (.int (1 : Int32)), .val (.int (1 : Int32)), .val (.ref w_RequiresNew), .val (.ref b0_19), .val (.int (0 : Int32)), .unset, .unset] []) (fun _ kk => XS.ifNo X20.here hx rfl (hb hby at_100) rfl ((if0 _ _).trans (feq (by decide : ¬ ((1 : Int32) = (0 : Int32)))).1) kk) ?_
      refine ob T20 (mkF mG 104 #[.val (.int p0), .val (.int p1), .val (.int (1 : Int32)), .val (.int (1 : Int32)), .val (.ref w_RequiresNew), .val (.ref b0_19), .val (.int (0 : Int32)), .unset, .unset] [(.int (1 : Int32))]) (fun _ kk => XS.iloadN X20.here hx rfl (hb hby at_103) rfl kk) ?_
      refine ob T20 (mkF mG 105 #[.val (.int p0), .val (.int p1), .val (.int (1 : Int32)), .val (.int (1 : Int32)), .val (.ref w_RequiresNew), .val (.ref b0_19), .val (.int (0 : Int32)), .unset, .unset] [(.int (2 : Int32)), (.int (1 : Int32))]) (fun _ kk => XS.iconst X20.here hx rfl (hb hby at_104) kk) ?_
      refine ob T20 (mkF mG 108 #[.val (.int p0), .val (.int p1), .val (.int (1 : Int32)), .val (.int (1 : Int32)), .val (.ref w_RequiresNew), .val (.ref b0_19), .val (.int (0 : Int32)), .unset, .unset] []) (fun _ kk => XS.icmpNo X20.here hx rfl (hb hby at_105) rfl (feq (by decide : ¬ ((1 : Int32) = (2 : Int32)))).1 kk) ?_
      refine ob T20 (mkF mG 109 #[.val (.int p0), .val (.int p1), .val (.int (1 : Int32)), .val (.int (1 : Int32)), .val (.ref w_RequiresNew), .val (.ref b0_19), .val (.int (0 : Int32)), .unset, .unset] [(.int (1 : Int32))]) (fun _ kk => XS.iloadN X20.here hx rfl (hb hby at_108) rfl kk) ?_
      refine ob T20 (mkF mG 110 #[.val (.int p0), .val (.int p1), .val (.int (1 : Int32)), .val (.int (1 : Int32)), .val (.ref w_RequiresNew), .val (.ref b0_19), .val (.int (0 : Int32)), .unset, .unset] [(.int (4 : Int32)), (.int (1 : Int32))]) (fun _ kk => XS.iconst X20.here hx rfl (hb hby at_109) kk) ?_
      refine ob T20 (mkF mG 117 #[.val (.int p0), .val (.int p1), .val (.int (1 : Int32)), .val (.int (1 : Int32)), .val (.ref w_RequiresNew), .val (.ref b0_19), .val (.int (0 : Int32)), .unset, .unset] []) (fun _ kk => XS.icmpYes X20.here hx rfl (pc0 := 110) (pc' := 117) rfl (hb hby at_110) rfl (feq (by decide : ¬ ((1 : Int32) = (4 : Int32)))).2 (by decide) (by decide) kk) ?_
      refine ob T20 (mkF mG 118 #[.val (.int p0), .val (.int p1), .val (.int (1 : Int32)), .val (.int (1 : Int32)), .val (.ref w_RequiresNew), .val (.ref b0_19), .val (.int (0 : Int32)), .unset, .unset] [(.int (0 : Int32))]) (fun _ kk => XS.iconst X20.here hx rfl (hb hby at_117) kk) ?_
      refine ob T20 (mkF mG 120 #[.val (.int p0), .val (.int p1), .val (.int (1 : Int32)), .val (.int (1 : Int32)), .val (.ref w_RequiresNew), .val (.ref b0_19), .val (.int (0 : Int32)), .val (.int (0 : Int32)), .unset] []) (fun _ kk => XS.istore X20.here hx rfl (hb hby at_118) rfl (l' := #[.val (.int p0), .val (.int p1), .val (.int (1 : Int32)), .val (.int (1 : Int32)), .val (.ref w_RequiresNew), .val (.ref b0_19), .val (.int (0 : Int32)), .val (.int (0 : Int32)), .unset]) rfl kk) ?_
      refine ob T20 (mkF mG 122 #[.val (.int p0), .val (.int p1), .val (.int (1 : Int32)), .val (.int (1 : Int32)), .val (.ref w_RequiresNew), .val (.ref b0_19), .val (.int (0 : Int32)), .val (.int (0 : Int32)), .unset] [(.int (0 : Int32))]) (fun _ kk => XS.iload X20.here hx rfl (hb hby at_120) rfl kk) ?_
      refine ob T20 (mkF mG 133 #[.val (.int p0), .val (.int p1), .val (.int (1 : Int32)), .val (.int (1 : Int32)), .val (.ref w_RequiresNew), .val (.ref b0_19), .val (.int (0 : Int32)), .val (.int (0 : Int32)), .unset] []) (fun _ kk => XS.ifYes X20.here hx rfl (pc0 := 122) (pc' := 133) rfl (hb hby at_122) rfl ((if0 _ _).trans (teq (by decide : (0 : Int32) = (0 : Int32))).1) (by decide) (by decide) kk) ?_
      refine ob T20 (mkF mG 134 #[.val (.int p0), .val (.int p1), .val (.int (1 : Int32)), .val (.int (1 : Int32)), .val (.ref w_RequiresNew), .val (.ref b0_19), .val (.int (0 : Int32)), .val (.int (0 : Int32)), .unset] [(.int (1 : Int32))]) (fun _ kk => XS.iloadN X20.here hx rfl (hb hby at_133) rfl kk) ?_
      refine ob T20 (mkF mG 135 #[.val (.int p0), .val (.int p1), .val (.int (1 : Int32)), .val (.int (1 : Int32)), .val (.ref w_RequiresNew), .val (.ref b0_19), .val (.int (0 : Int32)), .val (.int (0 : Int32)), .unset] [(.int (1 : Int32)), (.int (1 : Int32))]) (fun _ kk => XS.iconst X20.here hx rfl (hb hby at_134) kk) ?_
      refine ob T20 (mkF mG 146 #[.val (.int p0), .val (.int p1), .val (.int (1 : Int32)), .val (.int (1 : Int32)), .val (.ref w_RequiresNew), .val (.ref b0_19), .val (.int (0 : Int32)), .val (.int (0 : Int32)), .unset] []) (fun _ kk => XS.icmpYes X20.here hx rfl (pc0 := 135) (pc' := 146) rfl (hb hby at_135) rfl (teq (by decide : (1 : Int32) = (1 : Int32))).1 (by decide) (by decide) kk) ?_
      obtain ⟨T21, X21, e21, st21⟩ := getS2 X20 hx hZ hown (host := "") (Or.inl (ow hw 60 rfl)) Via.refl e20 (S_w_NEW.ext O19.2) (g := (mkF mG 146 #[.val (.int p0), .val (.int p1), .val (.int (1 : Int32)), .val (.int (1 : Int32)), .val (.ref w_RequiresNew), .val (.ref b0_19), .val (.int (0 : Int32)), .val (.int (0 : Int32)), .unset] [])) rfl (hb hby at_146)
      refine ob T21 (mkF mG 149 #[.val (.int p0), .val (.int p1), .val (.int (1 : Int32)), .val (.int (1 : Int32)), .val (.ref w_RequiresNew), .val (.ref b0_19), .val (.int (0 : Int32)), .val (.int (0 : Int32)), .unset] [(.ref w_NEW)]) (fun _ kk => st21 _ kk) ?_
      refine ob T21 (mkF mG 151 #[.val (.int p0), .val (.int p1), .val (.int (1 : Int32)), .val (.int (1 : Int32)), .val (.ref w_RequiresNew), .val (.ref b0_19), .val (.int (0 : Int32)), .val (.int (0 : Int32)), .val (.ref w_NEW)] []) (fun _ kk => XS.astore X21.here hx rfl (hb hby at_149) rfl rfl (l' := #[.val (.int p0), .val (.int p1), .val (.int (1 : Int32)), .val (.int (1 : Int32)), .val (.ref w_RequiresNew), .val (.ref b0_19), .val (.int (0 : Int32)), .val (.int (0 : Int32)), .val (.ref w_NEW)]) rfl kk) ?_
      refine ob T21 (mkF mG 159 #[.val (.int p0), .val (.int p1), .val (.int (1 : Int32)), .val (.int (1 : Int32)), .val (.ref w_RequiresNew), .val (.ref b0_19), .val (.int (0 : Int32)), .val (.int (0 : Int32)), .val (.ref w_NEW)] []) (fun _ kk => XS.goto X21.here hx rfl (pc0 := 151) (pc' := 159) rfl (hb hby at_151) (by decide) (by decide) kk) ?_
      refine ob T21 (mkF mG 161 #[.val (.int p0), .val (.int p1), .val (.int (1 : Int32)), .val (.int (1 : Int32)), .val (.ref w_RequiresNew), .val (.ref b0_19), .val (.int (0 : Int32)), .val (.int (0 : Int32)), .val (.ref w_NEW)] [(.ref b0_19)]) (fun _ kk => XS.aload X21.here hx rfl (hb hby at_159) rfl rfl kk) ?_
      obtain ⟨cq22, kq22, q22a, q22b, q22c⟩ := isOf hZ e21 F19_0
      obtain ⟨_, _, ⟨T22, L22, k22, n22⟩, -, X22, ⟨Lc22, hQ22, l22, y22, z22⟩, st22⟩ := X21.virtualBack hx (y := (⟨"java/util/Optional", "get", "()Ljava/lang/Object;"⟩ : MethodName)) (z := (⟨"java/util/Optional", "get", "()Ljava/lang/Object;"⟩ : MethodName)) hown (mvT hZ (ow hw 46 rfl)) (mvT hZ (ow hw 47 rfl)) (notFace_of_selects (args := #[]) (mvT hZ (ow hw 49 rfl))) (mvT hZ (ow hw 49 rfl)) (mvT hZ (ow hw 48 rfl)) (by decide) (backOf (W := 0) (rm_get l Z a0 hw [] w_Required w_RECEIVED w_NotSupported w_NONE w_RequiresNew w_NEW w_Mandatory w_BeanManaged w_Never w_Supports w_EMPTY b0_19 w_NEW h19 n0 O19 hS F19_1) hZ (ow hw 50 rfl) (ow hw 27 rfl) (by decide) (by decide)) q22a q22c (g := (mkF mG 161 #[.val (.int p0), .val (.int p1), .val (.int (1 : Int32)), .val (.int (1 : Int32)), .val (.ref w_RequiresNew), .val (.ref b0_19), .val (.int (0 : Int32)), .val (.int (0 : Int32)), .val (.ref w_NEW)] [(.ref b0_19)])) rfl (by rw [hml]; rfl) (Steps.refl _) (argsL := []) (rest := []) (lenOf pd_6 rfl) rfl (by show 2 * 0 + _ ≤ _; exact Nat.le_of_eq rfl) (hb hby at_161) (fun _ _ => ⟨rfl, e21, (by decide : 1 + 0 ≤ _), (by decide : 1 + 0 ≤ _)⟩)
      dsimp only [Pt.U, Pt.locs, Pt.cells, Pt.slots] at X22 l22 y22 z22 st22 hQ22
      subst l22 y22 z22
      obtain ⟨rfl, N22q, e22⟩ := hQ22
      have N22 := Fr.app N20 N22q
      refine ob T22 (mkF mG 164 #[.val (.int p0), .val (.int p1), .val (.int (1 : Int32)), .val (.int (1 : Int32)), .val (.ref w_RequiresNew), .val (.ref b0_19), .val (.int (0 : Int32)), .val (.int (0 : Int32)), .val (.ref w_NEW)] [(.ref w_NEW)]) (fun _ kk => st22.trans kk) ?_
      refine ob T22 (mkF mG 166 #[.val (.int p0), .val (.int p1), .val (.int (1 : Int32)), .val (.int (1 : Int32)), .val (.ref w_RequiresNew), .val (.ref b0_19), .val (.int (0 : Int32)), .val (.int (0 : Int32)), .val (.ref w_NEW)] [(.ref w_NEW), (.ref w_NEW)]) (fun _ kk => XS.aload X22.here hx rfl (hb hby at_164) rfl rfl kk) ?_
      refine ob T22 (mkF mG 169 #[.val (.int p0), .val (.int p1), .val (.int (1 : Int32)), .val (.int (1 : Int32)), .val (.ref w_RequiresNew), .val (.ref b0_19), .val (.int (0 : Int32)), .val (.int (0 : Int32)), .val (.ref w_NEW)] []) (fun _ kk => Jvm.RoadKit.acmp (g := (mkF mG 166 #[.val (.int p0), .val (.int p1), .val (.int (1 : Int32)), .val (.int (1 : Int32)), .val (.ref w_RequiresNew), .val (.ref b0_19), .val (.int (0 : Int32)), .val (.int (0 : Int32)), .val (.ref w_NEW)] [(.ref w_NEW), (.ref w_NEW)])) X22 hx rfl rfl rfl (pc0 := 166) (pc' := 169) (same := true) rfl (hb hby at_166) rfl (decide_eq_true rfl) (by decide) (by decide) kk) ?_
      refine ob T22 (mkF mG 170 #[.val (.int p0), .val (.int p1), .val (.int (1 : Int32)), .val (.int (1 : Int32)), .val (.ref w_RequiresNew), .val (.ref b0_19), .val (.int (0 : Int32)), .val (.int (0 : Int32)), .val (.ref w_NEW)] [(.int (1 : Int32))]) (fun _ kk => XS.iconst X22.here hx rfl (hb hby at_169) kk) ?_
      refine ob T22 (mkF mG 174 #[.val (.int p0), .val (.int p1), .val (.int (1 : Int32)), .val (.int (1 : Int32)), .val (.ref w_RequiresNew), .val (.ref b0_19), .val (.int (0 : Int32)), .val (.int (0 : Int32)), .val (.ref w_NEW)] [(.int (1 : Int32))]) (fun _ kk => XS.goto X22.here hx rfl (pc0 := 170) (pc' := 174) rfl (hb hby at_170) (by decide) (by decide) kk) ?_
      obtain ⟨fs, hr, hrun, hended, hW, hsame⟩ := X22.leave (v := some (.int (1 : Int32))) (fun h => by rw [Bd.returns] at h; cases h)
      refine oout (retN X22 hx (t := .boolean) Bd.returns (by simp) (hb hby at_174) hr) hrun hended ⟨_, _, rfl, ?_, ⟨_, rfl⟩, hW, hsame.mono (by decide) (by decide)⟩
      show Q_rm0 Z w_Required w_RECEIVED w_NotSupported w_NONE w_RequiresNew w_NEW w_Mandatory w_BeanManaged w_Never w_Supports w_EMPTY p0 p1 h0 n0 _ T22.heap _
      rw [e22]
      exact ⟨rfl, N22⟩
  · skip
    show oGo pG eG belowG _ s₁ (mkF mG 8 #[.val (.int p0), .val (.int p1), .val (.int (2 : Int32)), .unset, .unset, .unset, .unset, .unset, .unset] [])
    refine ob s₁ (mkF mG 9 #[.val (.int p0), .val (.int p1), .val (.int (2 : Int32)), .unset, .unset, .unset, .unset, .unset, .unset] [(.int p1)]) (fun _ kk => XS.iloadN X0.here hx rfl (hb hby at_8) rfl kk) ?_
    refine ob s₁ (mkF mG 10 #[.val (.int p0), .val (.int p1), .val (.int (2 : Int32)), .unset, .unset, .unset, .unset, .unset, .unset] [(.int (1 : Int32)), (.int p1)]) (fun _ kk => XS.iconst X0.here hx rfl (hb hby at_9) kk) ?_
    refine ob s₁ (mkF mG 11 #[.val (.int p0), .val (.int p1), .val (.int (2 : Int32)), .unset, .unset, .unset, .unset, .unset, .unset] [(.int (p1 &&& (1 : Int32)))]) (fun _ kk => XS.iand X0.here hx rfl (hb hby at_10) rfl kk) ?_
    by_cases hc23 : (p1 &&& (1 : Int32)) = (0 : Int32)
    · skip
      refine ob s₁ (mkF mG 18 #[.val (.int p0), .val (.int p1), .val (.int (2 : Int32)), .unset, .unset, .unset, .unset, .unset, .unset] []) (fun _ kk => XS.ifYes X0.here hx rfl (pc0 := 11) (pc' := 18) rfl (hb hby at_11) rfl ((if0 _ _).trans (teq hc23).1) (by decide) (by decide) kk) ?_
      refine ob s₁ (mkF mG 19 #[.val (.int p0), .val (.int p1), .val (.int (2 : Int32)), .unset, .unset, .unset, .unset, .unset, .unset] [(.int (0 : Int32))]) (fun _ kk => XS.iconst X0.here hx rfl (hb hby at_18) kk) ?_
      refine ob s₁ (mkF mG 20 #[.val (.int p0), .val (.int p1), .val (.int (2 : Int32)), .val (.int (0 : Int32)), .unset, .unset, .unset, .unset, .unset] []) (fun _ kk => XS.istoreN X0.here hx rfl (hb hby at_19) rfl (l' := #[.val (.int p0), .val (.int p1), .val (.int (2 : Int32)), .val (.int (0 : Int32)), .unset, .unset, .unset, .unset, .unset]) rfl kk) ?_
      refine ob s₁ (mkF mG 21 #[.val (.int p0), .val (.int p1), .val (.int (2 : Int32)), .val (.int (0 : Int32)), .unset, .unset, .unset, .unset, .unset] [(.int (2 : Int32))]) (fun _ kk => XS.iloadN X0.here hx rfl (hb hby at_20) rfl kk) ?_
      obtain ⟨_, _, ⟨T24, L24, k24, n24⟩, -, X24, ⟨Lc24, hQ24, l24, y24, z24⟩, st24⟩ := Jvm.LawKit.callS X0 hx (y := (⟨"com/example/vorgang/vorgang/model/PolicyApplyPinLaw", "pick", "(I)Lcom/example/vorgang/vorgang/model/Policy;"⟩ : MethodName)) hown (mvT hZ (ow hw 1 rfl)) (mvT hZ (ow hw 2 rfl)) (mvT hZ (ow hw 3 rfl)) (mvT hZ (ow hw 4 rfl)) (by decide) (backOf (W := 0) (rm_pick2 l Z a0 hw [] w_Required w_RECEIVED w_NotSupported w_NONE w_RequiresNew w_NEW w_Mandatory w_BeanManaged w_Never w_Supports w_EMPTY  h0 n0 O0 hS ) hZ (ow hw 4 rfl) (ow hw 3 rfl) (by decide) (by decide)) (g := (mkF mG 21 #[.val (.int p0), .val (.int p1), .val (.int (2 : Int32)), .val (.int (0 : Int32)), .unset, .unset, .unset, .unset, .unset] [(.int (2 : Int32))])) rfl (by rw [hml]; rfl) (argsL := [(.int (2 : Int32))]) (rest := []) (lenOf pd_3 rfl) rfl (by show 2 * 0 + _ ≤ _; exact Nat.le_of_eq rfl) (hb hby at_21) (fun _ _ => ⟨rfl, e0, (by decide : 0 + 0 ≤ _), (by decide : 0 + 0 ≤ _)⟩)
      dsimp only [Pt.U, Pt.locs, Pt.cells, Pt.slots] at X24 l24 y24 z24 st24 hQ24
      subst l24 y24 z24
      obtain ⟨rfl, N24q, e24⟩ := hQ24
      have N24 := Fr.app N0 N24q
      refine ob T24 (mkF mG 24 #[.val (.int p0), .val (.int p1), .val (.int (2 : Int32)), .val (.int (0 : Int32)), .unset, .unset, .unset, .unset, .unset] [(.ref w_Supports)]) (fun _ kk => st24 _ kk) ?_
      refine ob T24 (mkF mG 26 #[.val (.int p0), .val (.int p1), .val (.int (2 : Int32)), .val (.int (0 : Int32)), .val (.ref w_Supports), .unset, .unset, .unset, .unset] []) (fun _ kk => XS.astore X24.here hx rfl (hb hby at_24) rfl rfl (l' := #[.val (.int p0), .val (.int p1), .val (.int (2 : Int32)), .val (.int (0 : Int32)), .val (.ref w_Supports), .unset, .unset, .unset, .unset]) rfl kk) ?_
      refine ob T24 (mkF mG 28 #[.val (.int p0), .val (.int p1), .val (.int (2 : Int32)), .val (.int (0 : Int32)), .val (.ref w_Supports), .unset, .unset, .unset, .unset] [(.ref w_Supports)]) (fun _ kk => XS.aload X24.here hx rfl (hb hby at_26) rfl rfl kk) ?_
      refine ob T24 (mkF mG 29 #[.val (.int p0), .val (.int p1), .val (.int (2 : Int32)), .val (.int (0 : Int32)), .val (.ref w_Supports), .unset, .unset, .unset, .unset] [(.int (0 : Int32)), (.ref w_Supports)]) (fun _ kk => XS.iloadN X24.here hx rfl (hb hby at_28) rfl kk) ?_
      obtain ⟨cq25, kq25, q25a, q25b, q25c⟩ := isOf hZ e24 (E_w_Supports.ext O0.2)
      obtain ⟨_, _, ⟨T25, L25, k25, n25⟩, -, X25, ⟨Lc25, hQ25, l25, y25, z25⟩, st25⟩ := X24.virtualBack hx (y := (⟨"com/example/vorgang/vorgang/model/Policy", "apply", "(Z)Ljava/util/Optional;"⟩ : MethodName)) (z := (⟨"com/example/vorgang/vorgang/model/Policy", "apply", "(Z)Ljava/util/Optional;"⟩ : MethodName)) hown (mvT hZ (ow hw 8 rfl)) (mvT hZ (ow hw 9 rfl)) (notFace_of_selects (args := #[]) (mvT hZ (ow hw 11 rfl))) (mvT hZ (ow hw 11 rfl)) (mvT hZ (ow hw 10 rfl)) (by decide) (backOf (W := 0) (rm_ap2_0 l Z a0 hw [] w_Required w_RECEIVED w_NotSupported w_NONE w_RequiresNew w_NEW w_Mandatory w_BeanManaged w_Never w_Supports w_EMPTY  h0 n0 O0 hS ) hZ (ow hw 12 rfl) (ow hw 6 rfl) (by decide) (by decide)) q25a q25c (g := (mkF mG 29 #[.val (.int p0), .val (.int p1), .val (.int (2 : Int32)), .val (.int (0 : Int32)), .val (.ref w_Supports), .unset, .unset, .unset, .unset] [(.int (0 : Int32)), (.ref w_Supports)])) rfl (by rw [hml]; rfl) (Steps.refl _) (argsL := [(.int (0 : Int32))]) (rest := []) (lenOf pd_4 rfl) rfl (by show 2 * 0 + _ ≤ _; exact Nat.le_of_eq rfl) (hb hby at_29) (fun _ _ => ⟨rfl, e24, (by decide : 0 + 1 ≤ _), (by decide : 0 + 1 ≤ _)⟩)
      dsimp only [Pt.U, Pt.locs, Pt.cells, Pt.slots] at X25 l25 y25 z25 st25 hQ25
      subst l25 y25 z25
      obtain ⟨h25, e25⟩ : ∃ h, T25.heap = h := ⟨_, rfl⟩
      rw [e25] at hQ25
      obtain ⟨b0_25, rfl, N25q, K25q, O25, n_b0_25, z_b0_25, F25_0, F25_1⟩ := hQ25
      have N25 := Fr.app N24 N25q
      have sz_b0_25 : h0.size ≤ b0_25 := Nat.le_trans K0.1 z_b0_25
      have K25 := K0.trans K25q all0
      refine ob T25 (mkF mG 32 #[.val (.int p0), .val (.int p1), .val (.int (2 : Int32)), .val (.int (0 : Int32)), .val (.ref w_Supports), .unset, .unset, .unset, .unset] [(.ref b0_25)]) (fun _ kk => st25.trans kk) ?_
      refine ob T25 (mkF mG 34 #[.val (.int p0), .val (.int p1), .val (.int (2 : Int32)), .val (.int (0 : Int32)), .val (.ref w_Supports), .val (.ref b0_25), .unset, .unset, .unset] []) (fun _ kk => XS.astore X25.here hx rfl (hb hby at_32) rfl rfl (l' := #[.val (.int p0), .val (.int p1), .val (.int (2 : Int32)), .val (.int (0 : Int32)), .val (.ref w_Supports), .val (.ref b0_25), .unset, .unset, .unset]) rfl kk) ?_
      refine ob T25 (mkF mG 36 #[.val (.int p0), .val (.int p1), .val (.int (2 : Int32)), .val (.int (0 : Int32)), .val (.ref w_Supports), .val (.ref b0_25), .unset, .unset, .unset] [(.ref b0_25)]) (fun _ kk => XS.aload X25.here hx rfl (hb hby at_34) rfl rfl kk) ?_
      refine ob T25 (mkF mG 41 #[.val (.int p0), .val (.int p1), .val (.int (2 : Int32)), .val (.int (0 : Int32)), .val (.ref w_Supports), .val (.ref b0_25), .unset, .unset, .unset] []) (fun _ kk => XS.ifnonnullYes X25.here hx rfl (pc0 := 36) (pc' := 41) rfl (hb hby at_36) rfl (by decide) (by decide) kk) ?_
      refine ob T25 (mkF mG 42 #[.val (.int p0), .val (.int p1), .val (.int (2 : Int32)), .val (.int (0 : Int32)), .val (.ref w_Supports), .val (.ref b0_25), .unset, .unset, .unset] [(.int (2 : Int32))]) (fun _ kk => XS.iloadN X25.here hx rfl (hb hby at_41) rfl kk) ?_
      refine ob T25 (mkF mG 43 #[.val (.int p0), .val (.int p1), .val (.int (2 : Int32)), .val (.int (0 : Int32)), .val (.ref w_Supports), .val (.ref b0_25), .unset, .unset, .unset] [(.int (4 : Int32)), (.int (2 : Int32))]) (fun _ kk => XS.iconst X25.here hx rfl (hb hby at_42) kk) ?_
      refine ob T25 (mkF mG 50 #[.val (.int p0), .val (.int p1), .val (.int (2 : Int32)), .val (.int (0 : Int32)), .val (.ref w_Supports), .val (.ref b0_25), .unset, .unset, .unset] []) (fun _ kk => XS.icmpYes X25.here hx rfl (pc0 := 43) (pc' := 50) rfl (hb hby at_43) rfl (feq (by decide : ¬ ((2 : Int32) = (4 : Int32)))).2 (by decide) (by decide) kk) ?_
      refine ob T25 (mkF mG 51 #[.val (.int p0), .val (.int p1), .val (.int (2 : Int32)), .val (.int (0 : Int32)), .val (.ref w_Supports), .val (.ref b0_25), .unset, .unset, .unset] [(.int (2 : Int32))]) (fun _ kk => XS.iloadN X25.here hx rfl (hb hby at_50) rfl kk) ?_
      refine ob T25 (mkF mG 52 #[.val (.int p0), .val (.int p1), .val (.int (2 : Int32)), .val (.int (0 : Int32)), .val (.ref w_Supports), .val (.ref b0_25), .unset, .unset, .unset] [(.int (5 : Int32)), (.int (2 : Int32))]) (fun _ kk => XS.iconst X25.here hx rfl (hb hby at_51) kk) ?_
      refine ob T25 (mkF mG 63 #[.val (.int p0), .val (.int p1), .val (.int (2 : Int32)), .val (.int (0 : Int32)), .val (.ref w_Supports), .val (.ref b0_25), .unset, .unset, .unset] []) (fun _ kk => XS.icmpYes X25.here hx rfl (pc0 := 52) (pc' := 63) rfl (hb hby at_52) rfl (feq (by decide : ¬ ((2 : Int32) = (5 : Int32)))).2 (by decide) (by decide) kk) ?_
      refine ob T25 (mkF mG 64 #[.val (.int p0), .val (.int p1), .val (.int (2 : Int32)), .val (.int (0 : Int32)), .val (.ref w_Supports), .val (.ref b0_25), .unset, .unset, .unset] [(.int (0 : Int32))]) (fun _ kk => XS.iconst X25.here hx rfl (hb hby at_63) kk) ?_
      refine ob T25 (mkF mG 66 #[.val (.int p0), .val (.int p1), .val (.int (2 : Int32)), .val (.int (0 : Int32)), .val (.ref w_Supports), .val (.ref b0_25), .val (.int (0 : Int32)), .unset, .unset] []) (fun _ kk => XS.istore X25.here hx rfl (hb hby at_64) rfl (l' := #[.val (.int p0), .val (.int p1), .val (.int (2 : Int32)), .val (.int (0 : Int32)), .val (.ref w_Supports), .val (.ref b0_25), .val (.int (0 : Int32)), .unset, .unset]) rfl kk) ?_
      refine ob T25 (mkF mG 68 #[.val (.int p0), .val (.int p1), .val (.int (2 : Int32)), .val (.int (0 : Int32)), .val (.ref w_Supports), .val (.ref b0_25), .val (.int (0 : Int32)), .unset, .unset] [(.int (0 : Int32))]) (fun _ kk => XS.iload X25.here hx rfl (hb hby at_66) rfl kk) ?_
      refine ob T25 (mkF mG 85 #[.val (.int p0), .val (.int p1), .val (.int (2 : Int32)), .val (.int (0 : Int32)), .val (.ref w_Supports), .val (.ref b0_25), .val (.int (0 : Int32)), .unset, .unset] []) (fun _ kk => XS.ifYes X25.here hx rfl (pc0 := 68) (pc' := 85) rfl (hb hby at_68) rfl ((if0 _ _).trans (teq (by decide : (0 : Int32) = (0 : Int32))).1) (by decide) (by decide) kk) ?_
      refine ob T25 (mkF mG 87 #[.val (.int p0), .val (.int p1), .val (.int (2 : Int32)), .val (.int (0 : Int32)), .val (.ref w_Supports), .val (.ref b0_25), .val (.int (0 : Int32)), .unset, .unset] [(.ref b0_25)]) (fun _ kk => XS.aload X25.here hx rfl (hb hby at_85) rfl rfl kk) ?_
      obtain ⟨cq26, kq26, q26a, q26b, q26c⟩ := isOf hZ e25 F25_0
      obtain ⟨_, _, ⟨T26, L26, k26, n26⟩, -, X26, ⟨Lc26, hQ26, l26, y26, z26⟩, st26⟩ := X25.virtualBack hx (y := (⟨"java/util/Optional", "isPresent", "()Z"⟩ : MethodName)) (z := (⟨"java/util/Optional", "isPresent", "()Z"⟩ : MethodName)) hown (mvT hZ (ow hw 40 rfl)) (mvT hZ (ow hw 41 rfl)) (notFace_of_selects (args := #[]) (mvT hZ (ow hw 43 rfl))) (mvT hZ (ow hw 43 rfl)) (mvT hZ (ow hw 42 rfl)) (by decide) (backOf (W := 0) (rm_ipS l Z a0 hw [] w_Required w_RECEIVED w_NotSupported w_NONE w_RequiresNew w_NEW w_Mandatory w_BeanManaged w_Never w_Supports w_EMPTY b0_25 w_NONE h25 n0 O25 hS F25_1) hZ (ow hw 44 rfl) (ow hw 27 rfl) (by decide) (by decide)) q26a q26c (g := (mkF mG 87 #[.val (.int p0), .val (.int p1), .val (.int (2 : Int32)), .val (.int (0 : Int32)), .val (.ref w_Supports), .val (.ref b0_25), .val (.int (0 : Int32)), .unset, .unset] [(.ref b0_25)])) rfl (by rw [hml]; rfl) (Steps.refl _) (argsL := []) (rest := []) (lenOf pd_5 rfl) rfl (by show 2 * 0 + _ ≤ _; exact Nat.le_of_eq rfl) (hb hby at_87) (fun _ _ => ⟨rfl, e25, (by decide : 1 + 0 ≤ _), (by decide : 1 + 0 ≤ _)⟩)
      dsimp only [Pt.U, Pt.locs, Pt.cells, Pt.slots] at X26 l26 y26 z26 st26 hQ26
      subst l26 y26 z26
      obtain ⟨rfl, N26q, e26⟩ := hQ26
      have N26 := Fr.app N25 N26q
      refine ob T26 (mkF mG 90 #[.val (.int p0), .val (.int p1), .val (.int (2 : Int32)), .val (.int (0 : Int32)), .val (.ref w_Supports), .val (.ref b0_25), .val (.int (0 : Int32)), .unset, .unset] [(.int (1 : Int32))]) (fun _ kk => st26.trans kk) ?_
      refine ob T26 (mkF mG 95 #[.val (.int p0), .val (.int p1), .val (.int (2 : Int32)), .val (.int (0 : Int32)), .val (.ref w_Supports), .val (.ref b0_25), .val (.int (0 : Int32)), .unset, .unset] []) (fun _ kk => XS.ifYes X26.here hx rfl (pc0 := 90) (pc' := 95) rfl (hb hby at_90) rfl ((if0 _ _).trans (feq (by decide : ¬ ((1 : Int32) = (0 : Int32)))).2) (by decide) (by decide) kk) ?_
      refine ob T26 (mkF mG 96 #[.val (.int p0), .val (.int p1), .val (.int (2 : Int32)), .val (.int (0 : Int32)), .val (.ref w_Supports), .val (.ref b0_25), .val (.int (0 : Int32)), .unset, .unset] [(.int (0 : Int32))]) (fun _ kk => XS.iloadN X26.here hx rfl (hb hby at_95) rfl kk) ?_
      refine ob T26 (mkF mG 117 #[.val (.int p0), .val (.int p1), .val (.int (2 : Int32)), .val (.int (0 : Int32)), .val (.ref w_Supports), .val (.ref b0_25), .val (.int (0 : Int32)), .unset, .unset] []) (fun _ kk => XS.ifYes X26.here hx rfl (pc0 := 96) (pc' := 117) rfl (hb hby at_96) rfl ((if0 _ _).trans (teq (by decide : (0 : Int32) = (0 : Int32))).1) (by decide) (by decide) kk) ?_
      refine ob T26 (mkF mG 118 #[.val (.int p0), .val (.int p1), .val (.int (2 : Int32)), .val (.int (0 : Int32)), .val (.ref w_Supports), .val (.ref b0_25), .val (.int (0 : Int32)), .unset, .unset] [(.int (0 : Int32))]) (fun _ kk => XS.iconst X26.here hx rfl (hb hby at_117) kk) ?_
      refine ob T26 (mkF mG 120 #[.val (.int p0), .val (.int p1), .val (.int (2 : Int32)), .val (.int (0 : Int32)), .val (.ref w_Supports), .val (.ref b0_25), .val (.int (0 : Int32)), .val (.int (0 : Int32)), .unset] []) (fun _ kk => XS.istore X26.here hx rfl (hb hby at_118) rfl (l' := #[.val (.int p0), .val (.int p1), .val (.int (2 : Int32)), .val (.int (0 : Int32)), .val (.ref w_Supports), .val (.ref b0_25), .val (.int (0 : Int32)), .val (.int (0 : Int32)), .unset]) rfl kk) ?_
      refine ob T26 (mkF mG 122 #[.val (.int p0), .val (.int p1), .val (.int (2 : Int32)), .val (.int (0 : Int32)), .val (.ref w_Supports), .val (.ref b0_25), .val (.int (0 : Int32)), .val (.int (0 : Int32)), .unset] [(.int (0 : Int32))]) (fun _ kk => XS.iload X26.here hx rfl (hb hby at_120) rfl kk) ?_
      refine ob T26 (mkF mG 133 #[.val (.int p0), .val (.int p1), .val (.int (2 : Int32)), .val (.int (0 : Int32)), .val (.ref w_Supports), .val (.ref b0_25), .val (.int (0 : Int32)), .val (.int (0 : Int32)), .unset] []) (fun _ kk => XS.ifYes X26.here hx rfl (pc0 := 122) (pc' := 133) rfl (hb hby at_122) rfl ((if0 _ _).trans (teq (by decide : (0 : Int32) = (0 : Int32))).1) (by decide) (by decide) kk) ?_
      refine ob T26 (mkF mG 134 #[.val (.int p0), .val (.int p1), .val (.int (2 : Int32)), .val (.int (0 : Int32)), .val (.ref w_Supports), .val (.ref b0_25), .val (.int (0 : Int32)), .val (.int (0 : Int32)), .unset] [(.int (2 : Int32))]) (fun _ kk => XS.iloadN X26.here hx rfl (hb hby at_133) rfl kk) ?_
      refine ob T26 (mkF mG 135 #[.val (.int p0), .val (.int p1), .val (.int (2 : Int32)), .val (.int (0 : Int32)), .val (.ref w_Supports), .val (.ref b0_25), .val (.int (0 : Int32)), .val (.int (0 : Int32)), .unset] [(.int (1 : Int32)), (.int (2 : Int32))]) (fun _ kk => XS.iconst X26.here hx rfl (hb hby at_134) kk) ?_
      refine ob T26 (mkF mG 138 #[.val (.int p0), .val (.int p1), .val (.int (2 : Int32)), .val (.int (0 : Int32)), .val (.ref w_Supports), .val (.ref b0_25), .val (.int (0 : Int32)), .val (.int (0 : Int32)), .unset] []) (fun _ kk => XS.icmpNo X26.here hx rfl (hb hby at_135) rfl (feq (by decide : ¬ ((2 : Int32) = (1 : Int32)))).1 kk) ?_
      refine ob T26 (mkF mG 139 #[.val (.int p0), .val (.int p1), .val (.int (2 : Int32)), .val (.int (0 : Int32)), .val (.ref w_Supports), .val (.ref b0_25), .val (.int (0 : Int32)), .val (.int (0 : Int32)), .unset] [(.int (2 : Int32))]) (fun _ kk => XS.iloadN X26.here hx rfl (hb hby at_138) rfl kk) ?_
      refine ob T26 (mkF mG 154 #[.val (.int p0), .val (.int p1), .val (.int (2 : Int32)), .val (.int (0 : Int32)), .val (.ref w_Supports), .val (.ref b0_25), .val (.int (0 : Int32)), .val (.int (0 : Int32)), .unset] []) (fun _ kk => XS.ifYes X26.here hx rfl (pc0 := 139) (pc' := 154) rfl (hb hby at_139) rfl ((if0 _ _).trans (feq (by decide : ¬ ((2 : Int32) = (0 : Int32)))).2) (by decide) (by decide) kk) ?_
      obtain ⟨T27, X27, e27, st27⟩ := getS2 X26 hx hZ hown (host := "") (Or.inl (ow hw 55 rfl)) Via.refl e26 (S_w_NONE.ext O25.2) (g := (mkF mG 154 #[.val (.int p0), .val (.int p1), .val (.int (2 : Int32)), .val (.int (0 : Int32)), .val (.ref w_Supports), .val (.ref b0_25), .val (.int (0 : Int32)), .val (.int (0 : Int32)), .unset] [])) rfl (hb hby at_154)
      refine ob T27 (mkF mG 157 #[.val (.int p0), .val (.int p1), .val (.int (2 : Int32)), .val (.int (0 : Int32)), .val (.ref w_Supports), .val (.ref b0_25), .val (.int (0 : Int32)), .val (.int (0 : Int32)), .unset] [(.ref w_NONE)]) (fun _ kk => st27 _ kk) ?_
      refine ob T27 (mkF mG 159 #[.val (.int p0), .val (.int p1), .val (.int (2 : Int32)), .val (.int (0 : Int32)), .val (.ref w_Supports), .val (.ref b0_25), .val (.int (0 : Int32)), .val (.int (0 : Int32)), .val (.ref w_NONE)] []) (fun _ kk => XS.astore X27.here hx rfl (hb hby at_157) rfl rfl (l' := #[.val (.int p0), .val (.int p1), .val (.int (2 : Int32)), .val (.int (0 : Int32)), .val (.ref w_Supports), .val (.ref b0_25), .val (.int (0 : Int32)), .val (.int (0 : Int32)), .val (.ref w_NONE)]) rfl kk) ?_
      refine ob T27 (mkF mG 161 #[.val (.int p0), .val (.int p1), .val (.int (2 : Int32)), .val (.int (0 : Int32)), .val (.ref w_Supports), .val (.ref b0_25), .val (.int (0 : Int32)), .val (.int (0 : Int32)), .val (.ref w_NONE)] [(.ref b0_25)]) (fun _ kk => XS.aload X27.here hx rfl (hb hby at_159) rfl rfl kk) ?_
      obtain ⟨cq28, kq28, q28a, q28b, q28c⟩ := isOf hZ e27 F25_0
      obtain ⟨_, _, ⟨T28, L28, k28, n28⟩, -, X28, ⟨Lc28, hQ28, l28, y28, z28⟩, st28⟩ := X27.virtualBack hx (y := (⟨"java/util/Optional", "get", "()Ljava/lang/Object;"⟩ : MethodName)) (z := (⟨"java/util/Optional", "get", "()Ljava/lang/Object;"⟩ : MethodName)) hown (mvT hZ (ow hw 46 rfl)) (mvT hZ (ow hw 47 rfl)) (notFace_of_selects (args := #[]) (mvT hZ (ow hw 49 rfl))) (mvT hZ (ow hw 49 rfl)) (mvT hZ (ow hw 48 rfl)) (by decide) (backOf (W := 0) (rm_get l Z a0 hw [] w_Required w_RECEIVED w_NotSupported w_NONE w_RequiresNew w_NEW w_Mandatory w_BeanManaged w_Never w_Supports w_EMPTY b0_25 w_NONE h25 n0 O25 hS F25_1) hZ (ow hw 50 rfl) (ow hw 27 rfl) (by decide) (by decide)) q28a q28c (g := (mkF mG 161 #[.val (.int p0), .val (.int p1), .val (.int (2 : Int32)), .val (.int (0 : Int32)), .val (.ref w_Supports), .val (.ref b0_25), .val (.int (0 : Int32)), .val (.int (0 : Int32)), .val (.ref w_NONE)] [(.ref b0_25)])) rfl (by rw [hml]; rfl) (Steps.refl _) (argsL := []) (rest := []) (lenOf pd_6 rfl) rfl (by show 2 * 0 + _ ≤ _; exact Nat.le_of_eq rfl) (hb hby at_161) (fun _ _ => ⟨rfl, e27, (by decide : 1 + 0 ≤ _), (by decide : 1 + 0 ≤ _)⟩)
      dsimp only [Pt.U, Pt.locs, Pt.cells, Pt.slots] at X28 l28 y28 z28 st28 hQ28
      subst l28 y28 z28
      obtain ⟨rfl, N28q, e28⟩ := hQ28
      have N28 := Fr.app N26 N28q
      refine ob T28 (mkF mG 164 #[.val (.int p0), .val (.int p1), .val (.int (2 : Int32)), .val (.int (0 : Int32)), .val (.ref w_Supports), .val (.ref b0_25), .val (.int (0 : Int32)), .val (.int (0 : Int32)), .val (.ref w_NONE)] [(.ref w_NONE)]) (fun _ kk => st28.trans kk) ?_
      refine ob T28 (mkF mG 166 #[.val (.int p0), .val (.int p1), .val (.int (2 : Int32)), .val (.int (0 : Int32)), .val (.ref w_Supports), .val (.ref b0_25), .val (.int (0 : Int32)), .val (.int (0 : Int32)), .val (.ref w_NONE)] [(.ref w_NONE), (.ref w_NONE)]) (fun _ kk => XS.aload X28.here hx rfl (hb hby at_164) rfl rfl kk) ?_
      refine ob T28 (mkF mG 169 #[.val (.int p0), .val (.int p1), .val (.int (2 : Int32)), .val (.int (0 : Int32)), .val (.ref w_Supports), .val (.ref b0_25), .val (.int (0 : Int32)), .val (.int (0 : Int32)), .val (.ref w_NONE)] []) (fun _ kk => Jvm.RoadKit.acmp (g := (mkF mG 166 #[.val (.int p0), .val (.int p1), .val (.int (2 : Int32)), .val (.int (0 : Int32)), .val (.ref w_Supports), .val (.ref b0_25), .val (.int (0 : Int32)), .val (.int (0 : Int32)), .val (.ref w_NONE)] [(.ref w_NONE), (.ref w_NONE)])) X28 hx rfl rfl rfl (pc0 := 166) (pc' := 169) (same := true) rfl (hb hby at_166) rfl (decide_eq_true rfl) (by decide) (by decide) kk) ?_
      refine ob T28 (mkF mG 170 #[.val (.int p0), .val (.int p1), .val (.int (2 : Int32)), .val (.int (0 : Int32)), .val (.ref w_Supports), .val (.ref b0_25), .val (.int (0 : Int32)), .val (.int (0 : Int32)), .val (.ref w_NONE)] [(.int (1 : Int32))]) (fun _ kk => XS.iconst X28.here hx rfl (hb hby at_169) kk) ?_
      refine ob T28 (mkF mG 174 #[.val (.int p0), .val (.int p1), .val (.int (2 : Int32)), .val (.int (0 : Int32)), .val (.ref w_Supports), .val (.ref b0_25), .val (.int (0 : Int32)), .val (.int (0 : Int32)), .val (.ref w_NONE)] [(.int (1 : Int32))]) (fun _ kk => XS.goto X28.here hx rfl (pc0 := 170) (pc' := 174) rfl (hb hby at_170) (by decide) (by decide) kk) ?_
      obtain ⟨fs, hr, hrun, hended, hW, hsame⟩ := X28.leave (v := some (.int (1 : Int32))) (fun h => by rw [Bd.returns] at h; cases h)
      refine oout (retN X28 hx (t := .boolean) Bd.returns (by simp) (hb hby at_174) hr) hrun hended ⟨_, _, rfl, ?_, ⟨_, rfl⟩, hW, hsame.mono (by decide) (by decide)⟩
      show Q_rm0 Z w_Required w_RECEIVED w_NotSupported w_NONE w_RequiresNew w_NEW w_Mandatory w_BeanManaged w_Never w_Supports w_EMPTY p0 p1 h0 n0 _ T28.heap _
      rw [e28]
      exact ⟨rfl, N28⟩
    · skip
      refine ob s₁ (mkF mG 14 #[.val (.int p0), .val (.int p1), .val (.int (2 : Int32)), .unset, .unset, .unset, .unset, .unset, .unset] []) (fun _ kk => XS.ifNo X0.here hx rfl (hb hby at_11) rfl ((if0 _ _).trans (feq hc23).1) kk) ?_
      refine ob s₁ (mkF mG 15 #[.val (.int p0), .val (.int p1), .val (.int (2 : Int32)), .unset, .unset, .unset, .unset, .unset, .unset] [(.int (1 : Int32))]) (fun _ kk => XS.iconst X0.here hx rfl (hb hby at_14) kk) ?_
      refine ob s₁ (mkF mG 19 #[.val (.int p0), .val (.int p1), .val (.int (2 : Int32)), .unset, .unset, .unset, .unset, .unset, .unset] [(.int (1 : Int32))]) (fun _ kk => XS.goto X0.here hx rfl (pc0 := 15) (pc' := 19) rfl (hb hby at_15) (by decide) (by decide) kk) ?_
      refine ob s₁ (mkF mG 20 #[.val (.int p0), .val (.int p1), .val (.int (2 : Int32)), .val (.int (1 : Int32)), .unset, .unset, .unset, .unset, .unset] []) (fun _ kk => XS.istoreN X0.here hx rfl (hb hby at_19) rfl (l' := #[.val (.int p0), .val (.int p1), .val (.int (2 : Int32)), .val (.int (1 : Int32)), .unset, .unset, .unset, .unset, .unset]) rfl kk) ?_
      refine ob s₁ (mkF mG 21 #[.val (.int p0), .val (.int p1), .val (.int (2 : Int32)), .val (.int (1 : Int32)), .unset, .unset, .unset, .unset, .unset] [(.int (2 : Int32))]) (fun _ kk => XS.iloadN X0.here hx rfl (hb hby at_20) rfl kk) ?_
      obtain ⟨_, _, ⟨T29, L29, k29, n29⟩, -, X29, ⟨Lc29, hQ29, l29, y29, z29⟩, st29⟩ := Jvm.LawKit.callS X0 hx (y := (⟨"com/example/vorgang/vorgang/model/PolicyApplyPinLaw", "pick", "(I)Lcom/example/vorgang/vorgang/model/Policy;"⟩ : MethodName)) hown (mvT hZ (ow hw 1 rfl)) (mvT hZ (ow hw 2 rfl)) (mvT hZ (ow hw 3 rfl)) (mvT hZ (ow hw 4 rfl)) (by decide) (backOf (W := 0) (rm_pick2 l Z a0 hw [] w_Required w_RECEIVED w_NotSupported w_NONE w_RequiresNew w_NEW w_Mandatory w_BeanManaged w_Never w_Supports w_EMPTY  h0 n0 O0 hS ) hZ (ow hw 4 rfl) (ow hw 3 rfl) (by decide) (by decide)) (g := (mkF mG 21 #[.val (.int p0), .val (.int p1), .val (.int (2 : Int32)), .val (.int (1 : Int32)), .unset, .unset, .unset, .unset, .unset] [(.int (2 : Int32))])) rfl (by rw [hml]; rfl) (argsL := [(.int (2 : Int32))]) (rest := []) (lenOf pd_3 rfl) rfl (by show 2 * 0 + _ ≤ _; exact Nat.le_of_eq rfl) (hb hby at_21) (fun _ _ => ⟨rfl, e0, (by decide : 0 + 0 ≤ _), (by decide : 0 + 0 ≤ _)⟩)
      dsimp only [Pt.U, Pt.locs, Pt.cells, Pt.slots] at X29 l29 y29 z29 st29 hQ29
      subst l29 y29 z29
      obtain ⟨rfl, N29q, e29⟩ := hQ29
      have N29 := Fr.app N0 N29q
      refine ob T29 (mkF mG 24 #[.val (.int p0), .val (.int p1), .val (.int (2 : Int32)), .val (.int (1 : Int32)), .unset, .unset, .unset, .unset, .unset] [(.ref w_Supports)]) (fun _ kk => st29 _ kk) ?_
      refine ob T29 (mkF mG 26 #[.val (.int p0), .val (.int p1), .val (.int (2 : Int32)), .val (.int (1 : Int32)), .val (.ref w_Supports), .unset, .unset, .unset, .unset] []) (fun _ kk => XS.astore X29.here hx rfl (hb hby at_24) rfl rfl (l' := #[.val (.int p0), .val (.int p1), .val (.int (2 : Int32)), .val (.int (1 : Int32)), .val (.ref w_Supports), .unset, .unset, .unset, .unset]) rfl kk) ?_
      refine ob T29 (mkF mG 28 #[.val (.int p0), .val (.int p1), .val (.int (2 : Int32)), .val (.int (1 : Int32)), .val (.ref w_Supports), .unset, .unset, .unset, .unset] [(.ref w_Supports)]) (fun _ kk => XS.aload X29.here hx rfl (hb hby at_26) rfl rfl kk) ?_
      refine ob T29 (mkF mG 29 #[.val (.int p0), .val (.int p1), .val (.int (2 : Int32)), .val (.int (1 : Int32)), .val (.ref w_Supports), .unset, .unset, .unset, .unset] [(.int (1 : Int32)), (.ref w_Supports)]) (fun _ kk => XS.iloadN X29.here hx rfl (hb hby at_28) rfl kk) ?_
      obtain ⟨cq30, kq30, q30a, q30b, q30c⟩ := isOf hZ e29 (E_w_Supports.ext O0.2)
      obtain ⟨_, _, ⟨T30, L30, k30, n30⟩, -, X30, ⟨Lc30, hQ30, l30, y30, z30⟩, st30⟩ := X29.virtualBack hx (y := (⟨"com/example/vorgang/vorgang/model/Policy", "apply", "(Z)Ljava/util/Optional;"⟩ : MethodName)) (z := (⟨"com/example/vorgang/vorgang/model/Policy", "apply", "(Z)Ljava/util/Optional;"⟩ : MethodName)) hown (mvT hZ (ow hw 8 rfl)) (mvT hZ (ow hw 9 rfl)) (notFace_of_selects (args := #[]) (mvT hZ (ow hw 11 rfl))) (mvT hZ (ow hw 11 rfl)) (mvT hZ (ow hw 10 rfl)) (by decide) (backOf (W := 0) (rm_ap2_1 l Z a0 hw [] w_Required w_RECEIVED w_NotSupported w_NONE w_RequiresNew w_NEW w_Mandatory w_BeanManaged w_Never w_Supports w_EMPTY  h0 n0 O0 hS ) hZ (ow hw 12 rfl) (ow hw 6 rfl) (by decide) (by decide)) q30a q30c (g := (mkF mG 29 #[.val (.int p0), .val (.int p1), .val (.int (2 : Int32)), .val (.int (1 : Int32)), .val (.ref w_Supports), .unset, .unset, .unset, .unset] [(.int (1 : Int32)), (.ref w_Supports)])) rfl (by rw [hml]; rfl) (Steps.refl _) (argsL := [(.int (1 : Int32))]) (rest := []) (lenOf pd_4 rfl) rfl (by show 2 * 0 + _ ≤ _; exact Nat.le_of_eq rfl) (hb hby at_29) (fun _ _ => ⟨rfl, e29, (by decide : 0 + 1 ≤ _), (by decide : 0 + 1 ≤ _)⟩)
      dsimp only [Pt.U, Pt.locs, Pt.cells, Pt.slots] at X30 l30 y30 z30 st30 hQ30
      subst l30 y30 z30
      obtain ⟨h30, e30⟩ : ∃ h, T30.heap = h := ⟨_, rfl⟩
      rw [e30] at hQ30
      obtain ⟨b0_30, rfl, N30q, K30q, O30, n_b0_30, z_b0_30, F30_0, F30_1⟩ := hQ30
      have N30 := Fr.app N29 N30q
      have sz_b0_30 : h0.size ≤ b0_30 := Nat.le_trans K0.1 z_b0_30
      have K30 := K0.trans K30q all0
      refine ob T30 (mkF mG 32 #[.val (.int p0), .val (.int p1), .val (.int (2 : Int32)), .val (.int (1 : Int32)), .val (.ref w_Supports), .unset, .unset, .unset, .unset] [(.ref b0_30)]) (fun _ kk => st30.trans kk) ?_
      refine ob T30 (mkF mG 34 #[.val (.int p0), .val (.int p1), .val (.int (2 : Int32)), .val (.int (1 : Int32)), .val (.ref w_Supports), .val (.ref b0_30), .unset, .unset, .unset] []) (fun _ kk => XS.astore X30.here hx rfl (hb hby at_32) rfl rfl (l' := #[.val (.int p0), .val (.int p1), .val (.int (2 : Int32)), .val (.int (1 : Int32)), .val (.ref w_Supports), .val (.ref b0_30), .unset, .unset, .unset]) rfl kk) ?_
      refine ob T30 (mkF mG 36 #[.val (.int p0), .val (.int p1), .val (.int (2 : Int32)), .val (.int (1 : Int32)), .val (.ref w_Supports), .val (.ref b0_30), .unset, .unset, .unset] [(.ref b0_30)]) (fun _ kk => XS.aload X30.here hx rfl (hb hby at_34) rfl rfl kk) ?_
      refine ob T30 (mkF mG 41 #[.val (.int p0), .val (.int p1), .val (.int (2 : Int32)), .val (.int (1 : Int32)), .val (.ref w_Supports), .val (.ref b0_30), .unset, .unset, .unset] []) (fun _ kk => XS.ifnonnullYes X30.here hx rfl (pc0 := 36) (pc' := 41) rfl (hb hby at_36) rfl (by decide) (by decide) kk) ?_
      refine ob T30 (mkF mG 42 #[.val (.int p0), .val (.int p1), .val (.int (2 : Int32)), .val (.int (1 : Int32)), .val (.ref w_Supports), .val (.ref b0_30), .unset, .unset, .unset] [(.int (2 : Int32))]) (fun _ kk => XS.iloadN X30.here hx rfl (hb hby at_41) rfl kk) ?_
      refine ob T30 (mkF mG 43 #[.val (.int p0), .val (.int p1), .val (.int (2 : Int32)), .val (.int (1 : Int32)), .val (.ref w_Supports), .val (.ref b0_30), .unset, .unset, .unset] [(.int (4 : Int32)), (.int (2 : Int32))]) (fun _ kk => XS.iconst X30.here hx rfl (hb hby at_42) kk) ?_
      refine ob T30 (mkF mG 50 #[.val (.int p0), .val (.int p1), .val (.int (2 : Int32)), .val (.int (1 : Int32)), .val (.ref w_Supports), .val (.ref b0_30), .unset, .unset, .unset] []) (fun _ kk => XS.icmpYes X30.here hx rfl (pc0 := 43) (pc' := 50) rfl (hb hby at_43) rfl (feq (by decide : ¬ ((2 : Int32) = (4 : Int32)))).2 (by decide) (by decide) kk) ?_
      refine ob T30 (mkF mG 51 #[.val (.int p0), .val (.int p1), .val (.int (2 : Int32)), .val (.int (1 : Int32)), .val (.ref w_Supports), .val (.ref b0_30), .unset, .unset, .unset] [(.int (2 : Int32))]) (fun _ kk => XS.iloadN X30.here hx rfl (hb hby at_50) rfl kk) ?_
      refine ob T30 (mkF mG 52 #[.val (.int p0), .val (.int p1), .val (.int (2 : Int32)), .val (.int (1 : Int32)), .val (.ref w_Supports), .val (.ref b0_30), .unset, .unset, .unset] [(.int (5 : Int32)), (.int (2 : Int32))]) (fun _ kk => XS.iconst X30.here hx rfl (hb hby at_51) kk) ?_
      refine ob T30 (mkF mG 63 #[.val (.int p0), .val (.int p1), .val (.int (2 : Int32)), .val (.int (1 : Int32)), .val (.ref w_Supports), .val (.ref b0_30), .unset, .unset, .unset] []) (fun _ kk => XS.icmpYes X30.here hx rfl (pc0 := 52) (pc' := 63) rfl (hb hby at_52) rfl (feq (by decide : ¬ ((2 : Int32) = (5 : Int32)))).2 (by decide) (by decide) kk) ?_
      refine ob T30 (mkF mG 64 #[.val (.int p0), .val (.int p1), .val (.int (2 : Int32)), .val (.int (1 : Int32)), .val (.ref w_Supports), .val (.ref b0_30), .unset, .unset, .unset] [(.int (0 : Int32))]) (fun _ kk => XS.iconst X30.here hx rfl (hb hby at_63) kk) ?_
      refine ob T30 (mkF mG 66 #[.val (.int p0), .val (.int p1), .val (.int (2 : Int32)), .val (.int (1 : Int32)), .val (.ref w_Supports), .val (.ref b0_30), .val (.int (0 : Int32)), .unset, .unset] []) (fun _ kk => XS.istore X30.here hx rfl (hb hby at_64) rfl (l' := #[.val (.int p0), .val (.int p1), .val (.int (2 : Int32)), .val (.int (1 : Int32)), .val (.ref w_Supports), .val (.ref b0_30), .val (.int (0 : Int32)), .unset, .unset]) rfl kk) ?_
      refine ob T30 (mkF mG 68 #[.val (.int p0), .val (.int p1), .val (.int (2 : Int32)), .val (.int (1 : Int32)), .val (.ref w_Supports), .val (.ref b0_30), .val (.int (0 : Int32)), .unset, .unset] [(.int (0 : Int32))]) (fun _ kk => XS.iload X30.here hx rfl (hb hby at_66) rfl kk) ?_
      refine ob T30 (mkF mG 85 #[.val (.int p0), .val (.int p1), .val (.int (2 : Int32)), .val (.int (1 : Int32)), .val (.ref w_Supports), .val (.ref b0_30), .val (.int (0 : Int32)), .unset, .unset] []) (fun _ kk => XS.ifYes X30.here hx rfl (pc0 := 68) (pc' := 85) rfl (hb hby at_68) rfl ((if0 _ _).trans (teq (by decide : (0 : Int32) = (0 : Int32))).1) (by decide) (by decide) kk) ?_
      refine ob T30 (mkF mG 87 #[.val (.int p0), .val (.int p1), .val (.int (2 : Int32)), .val (.int (1 : Int32)), .val (.ref w_Supports), .val (.ref b0_30), .val (.int (0 : Int32)), .unset, .unset] [(.ref b0_30)]) (fun _ kk => XS.aload X30.here hx rfl (hb hby at_85) rfl rfl kk) ?_
      obtain ⟨cq31, kq31, q31a, q31b, q31c⟩ := isOf hZ e30 F30_0
      obtain ⟨_, _, ⟨T31, L31, k31, n31⟩, -, X31, ⟨Lc31, hQ31, l31, y31, z31⟩, st31⟩ := X30.virtualBack hx (y := (⟨"java/util/Optional", "isPresent", "()Z"⟩ : MethodName)) (z := (⟨"java/util/Optional", "isPresent", "()Z"⟩ : MethodName)) hown (mvT hZ (ow hw 40 rfl)) (mvT hZ (ow hw 41 rfl)) (notFace_of_selects (args := #[]) (mvT hZ (ow hw 43 rfl))) (mvT hZ (ow hw 43 rfl)) (mvT hZ (ow hw 42 rfl)) (by decide) (backOf (W := 0) (rm_ipS l Z a0 hw [] w_Required w_RECEIVED w_NotSupported w_NONE w_RequiresNew w_NEW w_Mandatory w_BeanManaged w_Never w_Supports w_EMPTY b0_30 w_RECEIVED h30 n0 O30 hS F30_1) hZ (ow hw 44 rfl) (ow hw 27 rfl) (by decide) (by decide)) q31a q31c (g := (mkF mG 87 #[.val (.int p0), .val (.int p1), .val (.int (2 : Int32)), .val (.int (1 : Int32)), .val (.ref w_Supports), .val (.ref b0_30), .val (.int (0 : Int32)), .unset, .unset] [(.ref b0_30)])) rfl (by rw [hml]; rfl) (Steps.refl _) (argsL := []) (rest := []) (lenOf pd_5 rfl) rfl (by show 2 * 0 + _ ≤ _; exact Nat.le_of_eq rfl) (hb hby at_87) (fun _ _ => ⟨rfl, e30, (by decide : 1 + 0 ≤ _), (by decide : 1 + 0 ≤ _)⟩)
      dsimp only [Pt.U, Pt.locs, Pt.cells, Pt.slots] at X31 l31 y31 z31 st31 hQ31
      subst l31 y31 z31
      obtain ⟨rfl, N31q, e31⟩ := hQ31
      have N31 := Fr.app N30 N31q
      refine ob T31 (mkF mG 90 #[.val (.int p0), .val (.int p1), .val (.int (2 : Int32)), .val (.int (1 : Int32)), .val (.ref w_Supports), .val (.ref b0_30), .val (.int (0 : Int32)), .unset, .unset] [(.int (1 : Int32))]) (fun _ kk => st31.trans kk) ?_
      refine ob T31 (mkF mG 95 #[.val (.int p0), .val (.int p1), .val (.int (2 : Int32)), .val (.int (1 : Int32)), .val (.ref w_Supports), .val (.ref b0_30), .val (.int (0 : Int32)), .unset, .unset] []) (fun _ kk => XS.ifYes X31.here hx rfl (pc0 := 90) (pc' := 95) rfl (hb hby at_90) rfl ((if0 _ _).trans (feq (by decide : ¬ ((1 : Int32) = (0 : Int32)))).2) (by decide) (by decide) kk) ?_
      refine ob T31 (mkF mG 96 #[.val (.int p0), .val (.int p1), .val (.int (2 : Int32)), .val (.int (1 : Int32)), .val (.ref w_Supports), .val (.ref b0_30), .val (.int (0 : Int32)), .unset, .unset] [(.int (1 : Int32))]) (fun _ kk => XS.iloadN X31.here hx rfl (hb hby at_95) rfl kk) ?_
      refine ob T31 (mkF mG 99 #[.val (.int p0), .val (.int p1), .val (.int (2 : Int32)), .val (.int (1 : Int32)), .val (.ref w_Supports), .val (.ref b0_30), .val (.int (0 : Int32)), .unset, .unset] []) (fun _ kk => XS.ifNo X31.here hx rfl (hb hby at_96) rfl ((if0 _ _).trans (feq (by decide : ¬ ((1 : Int32) = (0 : Int32)))).1) kk) ?_
      refine ob T31 (mkF mG 100 #[.val (.int p0), .val (.int p1), .val (.int (2 : Int32)), .val (.int (1 : Int32)), .val (.ref w_Supports), .val (.ref b0_30), .val (.int (0 : Int32)), .unset, .unset] [(.int (2 : Int32))]) (fun _ kk => XS.iloadN X31.here hx rfl (hb hby at_99) rfl kk) ?_
      refine ob T31 (mkF mG 103 #[.val (.int p0), .val (.int p1), .val (.int (2 : Int32)), .val (.int (1 : Int32)), .val (.ref w_Supports), .val (.ref b0_30), .val (.int (0 : Int32)), .unset, .unset] []) (fun _ kk => XS.ifNo X31.here hx rfl (hb hby at_100) rfl ((if0 _ _).trans (feq (by decide : ¬ ((2 : Int32) = (0 : Int32)))).1) kk) ?_
      refine ob T31 (mkF mG 104 #[.val (.int p0), .val (.int p1), .val (.int (2 : Int32)), .val (.int (1 : Int32)), .val (.ref w_Supports), .val (.ref b0_30), .val (.int (0 : Int32)), .unset, .unset] [(.int (2 : Int32))]) (fun _ kk => XS.iloadN X31.here hx rfl (hb hby at_103) rfl kk) ?_
      refine ob T31 (mkF mG 105 #[.val (.int p0), .val (.int p1), .val (.int (2 : Int32)), .val (.int (1 : Int32)), .val (.ref w_Supports), .val (.ref b0_30), .val (.int (0 : Int32)), .unset, .unset] [(.int (2 : Int32)), (.int (2 : Int32))]) (fun _ kk => XS.iconst X31.here hx rfl (hb hby at_104) kk) ?_
      refine ob T31 (mkF mG 113 #[.val (.int p0), .val (.int p1), .val (.int (2 : Int32)), .val (.int (1 : Int32)), .val (.ref w_Supports), .val (.ref b0_30), .val (.int (0 : Int32)), .unset, .unset] []) (fun _ kk => XS.icmpYes X31.here hx rfl (pc0 := 105) (pc' := 113) rfl (hb hby at_105) rfl (teq (by decide : (2 : Int32) = (2 : Int32))).1 (by decide) (by decide) kk) ?_
      refine ob T31 (mkF mG 114 #[.val (.int p0), .val (.int p1), .val (.int (2 : Int32)), .val (.int (1 : Int32)), .val (.ref w_Supports), .val (.ref b0_30), .val (.int (0 : Int32)), .unset, .unset] [(.int (1 : Int32))]) (fun _ kk => XS.iconst X31.here hx rfl (hb hby at_113) kk) ?_
      refine ob T31 (mkF mG 118 #[.val (.int p0), .val (.int p1), .val (.int (2 : Int32)), .val (.int (1 : Int32)), .val (.ref w_Supports), .val (.ref b0_30), .val (.int (0 : Int32)), .unset, .unset] [(.int (1 : Int32))]) (fun _ kk => XS.goto X31.here hx rfl (pc0 := 114) (pc' := 118) rfl (hb hby at_114) (by decide) (by decide) kk) ?_
      refine ob T31 (mkF mG 120 #[.val (.int p0), .val (.int p1), .val (.int (2 : Int32)), .val (.int (1 : Int32)), .val (.ref w_Supports), .val (.ref b0_30), .val (.int (0 : Int32)), .val (.int (1 : Int32)), .unset] []) (fun _ kk => XS.istore X31.here hx rfl (hb hby at_118) rfl (l' := #[.val (.int p0), .val (.int p1), .val (.int (2 : Int32)), .val (.int (1 : Int32)), .val (.ref w_Supports), .val (.ref b0_30), .val (.int (0 : Int32)), .val (.int (1 : Int32)), .unset]) rfl kk) ?_
      refine ob T31 (mkF mG 122 #[.val (.int p0), .val (.int p1), .val (.int (2 : Int32)), .val (.int (1 : Int32)), .val (.ref w_Supports), .val (.ref b0_30), .val (.int (0 : Int32)), .val (.int (1 : Int32)), .unset] [(.int (1 : Int32))]) (fun _ kk => XS.iload X31.here hx rfl (hb hby at_120) rfl kk) ?_
      refine ob T31 (mkF mG 125 #[.val (.int p0), .val (.int p1), .val (.int (2 : Int32)), .val (.int (1 : Int32)), .val (.ref w_Supports), .val (.ref b0_30), .val (.int (0 : Int32)), .val (.int (1 : Int32)), .unset] []) (fun _ kk => XS.ifNo X31.here hx rfl (hb hby at_122) rfl ((if0 _ _).trans (feq (by decide : ¬ ((1 : Int32) = (0 : Int32)))).1) kk) ?_
      obtain ⟨T32, X32, e32, st32⟩ := getS2 X31 hx hZ hown (host := "") (Or.inl (ow hw 45 rfl)) Via.refl e31 (S_w_RECEIVED.ext O30.2) (g := (mkF mG 125 #[.val (.int p0), .val (.int p1), .val (.int (2 : Int32)), .val (.int (1 : Int32)), .val (.ref w_Supports), .val (.ref b0_30), .val (.int (0 : Int32)), .val (.int (1 : Int32)), .unset] [])) rfl (hb hby at_125)
      refine ob T32 (mkF mG 128 #[.val (.int p0), .val (.int p1), .val (.int (2 : Int32)), .val (.int (1 : Int32)), .val (.ref w_Supports), .val (.ref b0_30), .val (.int (0 : Int32)), .val (.int (1 : Int32)), .unset] [(.ref w_RECEIVED)]) (fun _ kk => st32 _ kk) ?_
      refine ob T32 (mkF mG 130 #[.val (.int p0), .val (.int p1), .val (.int (2 : Int32)), .val (.int (1 : Int32)), .val (.ref w_Supports), .val (.ref b0_30), .val (.int (0 : Int32)), .val (.int (1 : Int32)), .val (.ref w_RECEIVED)] []) (fun _ kk => XS.astore X32.here hx rfl (hb hby at_128) rfl rfl (l' := #[.val (.int p0), .val (.int p1), .val (.int (2 : Int32)), .val (.int (1 : Int32)), .val (.ref w_Supports), .val (.ref b0_30), .val (.int (0 : Int32)), .val (.int (1 : Int32)), .val (.ref w_RECEIVED)]) rfl kk) ?_
      refine ob T32 (mkF mG 159 #[.val (.int p0), .val (.int p1), .val (.int (2 : Int32)), .val (.int (1 : Int32)), .val (.ref w_Supports), .val (.ref b0_30), .val (.int (0 : Int32)), .val (.int (1 : Int32)), .val (.ref w_RECEIVED)] []) (fun _ kk => XS.goto X32.here hx rfl (pc0 := 130) (pc' := 159) rfl (hb hby at_130) (by decide) (by decide) kk) ?_
      refine ob T32 (mkF mG 161 #[.val (.int p0), .val (.int p1), .val (.int (2 : Int32)), .val (.int (1 : Int32)), .val (.ref w_Supports), .val (.ref b0_30), .val (.int (0 : Int32)), .val (.int (1 : Int32)), .val (.ref w_RECEIVED)] [(.ref b0_30)]) (fun _ kk => XS.aload X32.here hx rfl (hb hby at_159) rfl rfl kk) ?_
      obtain ⟨cq33, kq33, q33a, q33b, q33c⟩ := isOf hZ e32 F30_0
      obtain ⟨_, _, ⟨T33, L33, k33, n33⟩, -, X33, ⟨Lc33, hQ33, l33, y33, z33⟩, st33⟩ := X32.virtualBack hx (y := (⟨"java/util/Optional", "get", "()Ljava/lang/Object;"⟩ : MethodName)) (z := (⟨"java/util/Optional", "get", "()Ljava/lang/Object;"⟩ : MethodName)) hown (mvT hZ (ow hw 46 rfl)) (mvT hZ (ow hw 47 rfl)) (notFace_of_selects (args := #[]) (mvT hZ (ow hw 49 rfl))) (mvT hZ (ow hw 49 rfl)) (mvT hZ (ow hw 48 rfl)) (by decide) (backOf (W := 0) (rm_get l Z a0 hw [] w_Required w_RECEIVED w_NotSupported w_NONE w_RequiresNew w_NEW w_Mandatory w_BeanManaged w_Never w_Supports w_EMPTY b0_30 w_RECEIVED h30 n0 O30 hS F30_1) hZ (ow hw 50 rfl) (ow hw 27 rfl) (by decide) (by decide)) q33a q33c (g := (mkF mG 161 #[.val (.int p0), .val (.int p1), .val (.int (2 : Int32)), .val (.int (1 : Int32)), .val (.ref w_Supports), .val (.ref b0_30), .val (.int (0 : Int32)), .val (.int (1 : Int32)), .val (.ref w_RECEIVED)] [(.ref b0_30)])) rfl (by rw [hml]; rfl) (Steps.refl _) (argsL := []) (rest := []) (lenOf pd_6 rfl) rfl (by show 2 * 0 + _ ≤ _; exact Nat.le_of_eq rfl) (hb hby at_161) (fun _ _ => ⟨rfl, e32, (by decide : 1 + 0 ≤ _), (by decide : 1 + 0 ≤ _)⟩)
      dsimp only [Pt.U, Pt.locs, Pt.cells, Pt.slots] at X33 l33 y33 z33 st33 hQ33
      subst l33 y33 z33
      obtain ⟨rfl, N33q, e33⟩ := hQ33
      have N33 := Fr.app N31 N33q
      refine ob T33 (mkF mG 164 #[.val (.int p0), .val (.int p1), .val (.int (2 : Int32)), .val (.int (1 : Int32)), .val (.ref w_Supports), .val (.ref b0_30), .val (.int (0 : Int32)), .val (.int (1 : Int32)), .val (.ref w_RECEIVED)] [(.ref w_RECEIVED)]) (fun _ kk => st33.trans kk) ?_
      refine ob T33 (mkF mG 166 #[.val (.int p0), .val (.int p1), .val (.int (2 : Int32)), .val (.int (1 : Int32)), .val (.ref w_Supports), .val (.ref b0_30), .val (.int (0 : Int32)), .val (.int (1 : Int32)), .val (.ref w_RECEIVED)] [(.ref w_RECEIVED), (.ref w_RECEIVED)]) (fun _ kk => XS.aload X33.here hx rfl (hb hby at_164) rfl rfl kk) ?_
      refine ob T33 (mkF mG 169 #[.val (.int p0), .val (.int p1), .val (.int (2 : Int32)), .val (.int (1 : Int32)), .val (.ref w_Supports), .val (.ref b0_30), .val (.int (0 : Int32)), .val (.int (1 : Int32)), .val (.ref w_RECEIVED)] []) (fun _ kk => Jvm.RoadKit.acmp (g := (mkF mG 166 #[.val (.int p0), .val (.int p1), .val (.int (2 : Int32)), .val (.int (1 : Int32)), .val (.ref w_Supports), .val (.ref b0_30), .val (.int (0 : Int32)), .val (.int (1 : Int32)), .val (.ref w_RECEIVED)] [(.ref w_RECEIVED), (.ref w_RECEIVED)])) X33 hx rfl rfl rfl (pc0 := 166) (pc' := 169) (same := true) rfl (hb hby at_166) rfl (decide_eq_true rfl) (by decide) (by decide) kk) ?_
      refine ob T33 (mkF mG 170 #[.val (.int p0), .val (.int p1), .val (.int (2 : Int32)), .val (.int (1 : Int32)), .val (.ref w_Supports), .val (.ref b0_30), .val (.int (0 : Int32)), .val (.int (1 : Int32)), .val (.ref w_RECEIVED)] [(.int (1 : Int32))]) (fun _ kk => XS.iconst X33.here hx rfl (hb hby at_169) kk) ?_
      refine ob T33 (mkF mG 174 #[.val (.int p0), .val (.int p1), .val (.int (2 : Int32)), .val (.int (1 : Int32)), .val (.ref w_Supports), .val (.ref b0_30), .val (.int (0 : Int32)), .val (.int (1 : Int32)), .val (.ref w_RECEIVED)] [(.int (1 : Int32))]) (fun _ kk => XS.goto X33.here hx rfl (pc0 := 170) (pc' := 174) rfl (hb hby at_170) (by decide) (by decide) kk) ?_
      obtain ⟨fs, hr, hrun, hended, hW, hsame⟩ := X33.leave (v := some (.int (1 : Int32))) (fun h => by rw [Bd.returns] at h; cases h)
      refine oout (retN X33 hx (t := .boolean) Bd.returns (by simp) (hb hby at_174) hr) hrun hended ⟨_, _, rfl, ?_, ⟨_, rfl⟩, hW, hsame.mono (by decide) (by decide)⟩
      show Q_rm0 Z w_Required w_RECEIVED w_NotSupported w_NONE w_RequiresNew w_NEW w_Mandatory w_BeanManaged w_Never w_Supports w_EMPTY p0 p1 h0 n0 _ T33.heap _
      rw [e33]
      exact ⟨rfl, N33⟩
  · skip
    show oGo pG eG belowG _ s₁ (mkF mG 8 #[.val (.int p0), .val (.int p1), .val (.int (3 : Int32)), .unset, .unset, .unset, .unset, .unset, .unset] [])
    refine ob s₁ (mkF mG 9 #[.val (.int p0), .val (.int p1), .val (.int (3 : Int32)), .unset, .unset, .unset, .unset, .unset, .unset] [(.int p1)]) (fun _ kk => XS.iloadN X0.here hx rfl (hb hby at_8) rfl kk) ?_
    refine ob s₁ (mkF mG 10 #[.val (.int p0), .val (.int p1), .val (.int (3 : Int32)), .unset, .unset, .unset, .unset, .unset, .unset] [(.int (1 : Int32)), (.int p1)]) (fun _ kk => XS.iconst X0.here hx rfl (hb hby at_9) kk) ?_
    refine ob s₁ (mkF mG 11 #[.val (.int p0), .val (.int p1), .val (.int (3 : Int32)), .unset, .unset, .unset, .unset, .unset, .unset] [(.int (p1 &&& (1 : Int32)))]) (fun _ kk => XS.iand X0.here hx rfl (hb hby at_10) rfl kk) ?_
    by_cases hc34 : (p1 &&& (1 : Int32)) = (0 : Int32)
    · skip
      refine ob s₁ (mkF mG 18 #[.val (.int p0), .val (.int p1), .val (.int (3 : Int32)), .unset, .unset, .unset, .unset, .unset, .unset] []) (fun _ kk => XS.ifYes X0.here hx rfl (pc0 := 11) (pc' := 18) rfl (hb hby at_11) rfl ((if0 _ _).trans (teq hc34).1) (by decide) (by decide) kk) ?_
      refine ob s₁ (mkF mG 19 #[.val (.int p0), .val (.int p1), .val (.int (3 : Int32)), .unset, .unset, .unset, .unset, .unset, .unset] [(.int (0 : Int32))]) (fun _ kk => XS.iconst X0.here hx rfl (hb hby at_18) kk) ?_
      refine ob s₁ (mkF mG 20 #[.val (.int p0), .val (.int p1), .val (.int (3 : Int32)), .val (.int (0 : Int32)), .unset, .unset, .unset, .unset, .unset] []) (fun _ kk => XS.istoreN X0.here hx rfl (hb hby at_19) rfl (l' := #[.val (.int p0), .val (.int p1), .val (.int (3 : Int32)), .val (.int (0 : Int32)), .unset, .unset, .unset, .unset, .unset]) rfl kk) ?_
      refine ob s₁ (mkF mG 21 #[.val (.int p0), .val (.int p1), .val (.int (3 : Int32)), .val (.int (0 : Int32)), .unset, .unset, .unset, .unset, .unset] [(.int (3 : Int32))]) (fun _ kk => XS.iloadN X0.here hx rfl (hb hby at_20) rfl kk) ?_
      obtain ⟨_, _, ⟨T35, L35, k35, n35⟩, -, X35, ⟨Lc35, hQ35, l35, y35, z35⟩, st35⟩ := Jvm.LawKit.callS X0 hx (y := (⟨"com/example/vorgang/vorgang/model/PolicyApplyPinLaw", "pick", "(I)Lcom/example/vorgang/vorgang/model/Policy;"⟩ : MethodName)) hown (mvT hZ (ow hw 1 rfl)) (mvT hZ (ow hw 2 rfl)) (mvT hZ (ow hw 3 rfl)) (mvT hZ (ow hw 4 rfl)) (by decide) (backOf (W := 0) (rm_pick3 l Z a0 hw [] w_Required w_RECEIVED w_NotSupported w_NONE w_RequiresNew w_NEW w_Mandatory w_BeanManaged w_Never w_Supports w_EMPTY  h0 n0 O0 hS ) hZ (ow hw 4 rfl) (ow hw 3 rfl) (by decide) (by decide)) (g := (mkF mG 21 #[.val (.int p0), .val (.int p1), .val (.int (3 : Int32)), .val (.int (0 : Int32)), .unset, .unset, .unset, .unset, .unset] [(.int (3 : Int32))])) rfl (by rw [hml]; rfl) (argsL := [(.int (3 : Int32))]) (rest := []) (lenOf pd_3 rfl) rfl (by show 2 * 0 + _ ≤ _; exact Nat.le_of_eq rfl) (hb hby at_21) (fun _ _ => ⟨rfl, e0, (by decide : 0 + 0 ≤ _), (by decide : 0 + 0 ≤ _)⟩)
      dsimp only [Pt.U, Pt.locs, Pt.cells, Pt.slots] at X35 l35 y35 z35 st35 hQ35
      subst l35 y35 z35
      obtain ⟨rfl, N35q, e35⟩ := hQ35
      have N35 := Fr.app N0 N35q
      refine ob T35 (mkF mG 24 #[.val (.int p0), .val (.int p1), .val (.int (3 : Int32)), .val (.int (0 : Int32)), .unset, .unset, .unset, .unset, .unset] [(.ref w_NotSupported)]) (fun _ kk => st35 _ kk) ?_
      refine ob T35 (mkF mG 26 #[.val (.int p0), .val (.int p1), .val (.int (3 : Int32)), .val (.int (0 : Int32)), .val (.ref w_NotSupported), .unset, .unset, .unset, .unset] []) (fun _ kk => XS.astore X35.here hx rfl (hb hby at_24) rfl rfl (l' := #[.val (.int p0), .val (.int p1), .val (.int (3 : Int32)), .val (.int (0 : Int32)), .val (.ref w_NotSupported), .unset, .unset, .unset, .unset]) rfl kk) ?_
      refine ob T35 (mkF mG 28 #[.val (.int p0), .val (.int p1), .val (.int (3 : Int32)), .val (.int (0 : Int32)), .val (.ref w_NotSupported), .unset, .unset, .unset, .unset] [(.ref w_NotSupported)]) (fun _ kk => XS.aload X35.here hx rfl (hb hby at_26) rfl rfl kk) ?_
      refine ob T35 (mkF mG 29 #[.val (.int p0), .val (.int p1), .val (.int (3 : Int32)), .val (.int (0 : Int32)), .val (.ref w_NotSupported), .unset, .unset, .unset, .unset] [(.int (0 : Int32)), (.ref w_NotSupported)]) (fun _ kk => XS.iloadN X35.here hx rfl (hb hby at_28) rfl kk) ?_
      obtain ⟨cq36, kq36, q36a, q36b, q36c⟩ := isOf hZ e35 (E_w_NotSupported.ext O0.2)
      obtain ⟨_, _, ⟨T36, L36, k36, n36⟩, -, X36, ⟨Lc36, hQ36, l36, y36, z36⟩, st36⟩ := X35.virtualBack hx (y := (⟨"com/example/vorgang/vorgang/model/Policy", "apply", "(Z)Ljava/util/Optional;"⟩ : MethodName)) (z := (⟨"com/example/vorgang/vorgang/model/Policy", "apply", "(Z)Ljava/util/Optional;"⟩ : MethodName)) hown (mvT hZ (ow hw 8 rfl)) (mvT hZ (ow hw 9 rfl)) (notFace_of_selects (args := #[]) (mvT hZ (ow hw 11 rfl))) (mvT hZ (ow hw 11 rfl)) (mvT hZ (ow hw 10 rfl)) (by decide) (backOf (W := 0) (rm_ap3_0 l Z a0 hw [] w_Required w_RECEIVED w_NotSupported w_NONE w_RequiresNew w_NEW w_Mandatory w_BeanManaged w_Never w_Supports w_EMPTY  h0 n0 O0 hS ) hZ (ow hw 12 rfl) (ow hw 6 rfl) (by decide) (by decide)) q36a q36c (g := (mkF mG 29 #[.val (.int p0), .val (.int p1), .val (.int (3 : Int32)), .val (.int (0 : Int32)), .val (.ref w_NotSupported), .unset, .unset, .unset, .unset] [(.int (0 : Int32)), (.ref w_NotSupported)])) rfl (by rw [hml]; rfl) (Steps.refl _) (argsL := [(.int (0 : Int32))]) (rest := []) (lenOf pd_4 rfl) rfl (by show 2 * 0 + _ ≤ _; exact Nat.le_of_eq rfl) (hb hby at_29) (fun _ _ => ⟨rfl, e35, (by decide : 0 + 1 ≤ _), (by decide : 0 + 1 ≤ _)⟩)
      dsimp only [Pt.U, Pt.locs, Pt.cells, Pt.slots] at X36 l36 y36 z36 st36 hQ36
      subst l36 y36 z36
      obtain ⟨h36, e36⟩ : ∃ h, T36.heap = h := ⟨_, rfl⟩
      rw [e36] at hQ36
      obtain ⟨b0_36, rfl, N36q, K36q, O36, n_b0_36, z_b0_36, F36_0, F36_1⟩ := hQ36
      have N36 := Fr.app N35 N36q
      have sz_b0_36 : h0.size ≤ b0_36 := Nat.le_trans K0.1 z_b0_36
      have K36 := K0.trans K36q all0
      refine ob T36 (mkF mG 32 #[.val (.int p0), .val (.int p1), .val (.int (3 : Int32)), .val (.int (0 : Int32)), .val (.ref w_NotSupported), .unset, .unset, .unset, .unset] [(.ref b0_36)]) (fun _ kk => st36.trans kk) ?_
      refine ob T36 (mkF mG 34 #[.val (.int p0), .val (.int p1), .val (.int (3 : Int32)), .val (.int (0 : Int32)), .val (.ref w_NotSupported), .val (.ref b0_36), .unset, .unset, .unset] []) (fun _ kk => XS.astore X36.here hx rfl (hb hby at_32) rfl rfl (l' := #[.val (.int p0), .val (.int p1), .val (.int (3 : Int32)), .val (.int (0 : Int32)), .val (.ref w_NotSupported), .val (.ref b0_36), .unset, .unset, .unset]) rfl kk) ?_
      refine ob T36 (mkF mG 36 #[.val (.int p0), .val (.int p1), .val (.int (3 : Int32)), .val (.int (0 : Int32)), .val (.ref w_NotSupported), .val (.ref b0_36), .unset, .unset, .unset] [(.ref b0_36)]) (fun _ kk => XS.aload X36.here hx rfl (hb hby at_34) rfl rfl kk) ?_
      refine ob T36 (mkF mG 41 #[.val (.int p0), .val (.int p1), .val (.int (3 : Int32)), .val (.int (0 : Int32)), .val (.ref w_NotSupported), .val (.ref b0_36), .unset, .unset, .unset] []) (fun _ kk => XS.ifnonnullYes X36.here hx rfl (pc0 := 36) (pc' := 41) rfl (hb hby at_36) rfl (by decide) (by decide) kk) ?_
      refine ob T36 (mkF mG 42 #[.val (.int p0), .val (.int p1), .val (.int (3 : Int32)), .val (.int (0 : Int32)), .val (.ref w_NotSupported), .val (.ref b0_36), .unset, .unset, .unset] [(.int (3 : Int32))]) (fun _ kk => XS.iloadN X36.here hx rfl (hb hby at_41) rfl kk) ?_
      refine ob T36 (mkF mG 43 #[.val (.int p0), .val (.int p1), .val (.int (3 : Int32)), .val (.int (0 : Int32)), .val (.ref w_NotSupported), .val (.ref b0_36), .unset, .unset, .unset] [(.int (4 : Int32)), (.int (3 : Int32))]) (fun _ kk => XS.iconst X36.here hx rfl (hb hby at_42) kk) ?_
      refine ob T36 (mkF mG 50 #[.val (.int p0), .val (.int p1), .val (.int (3 : Int32)), .val (.int (0 : Int32)), .val (.ref w_NotSupported), .val (.ref b0_36), .unset, .unset, .unset] []) (fun _ kk => XS.icmpYes X36.here hx rfl (pc0 := 43) (pc' := 50) rfl (hb hby at_43) rfl (feq (by decide : ¬ ((3 : Int32) = (4 : Int32)))).2 (by decide) (by decide) kk) ?_
      refine ob T36 (mkF mG 51 #[.val (.int p0), .val (.int p1), .val (.int (3 : Int32)), .val (.int (0 : Int32)), .val (.ref w_NotSupported), .val (.ref b0_36), .unset, .unset, .unset] [(.int (3 : Int32))]) (fun _ kk => XS.iloadN X36.here hx rfl (hb hby at_50) rfl kk) ?_
      refine ob T36 (mkF mG 52 #[.val (.int p0), .val (.int p1), .val (.int (3 : Int32)), .val (.int (0 : Int32)), .val (.ref w_NotSupported), .val (.ref b0_36), .unset, .unset, .unset] [(.int (5 : Int32)), (.int (3 : Int32))]) (fun _ kk => XS.iconst X36.here hx rfl (hb hby at_51) kk) ?_
      refine ob T36 (mkF mG 63 #[.val (.int p0), .val (.int p1), .val (.int (3 : Int32)), .val (.int (0 : Int32)), .val (.ref w_NotSupported), .val (.ref b0_36), .unset, .unset, .unset] []) (fun _ kk => XS.icmpYes X36.here hx rfl (pc0 := 52) (pc' := 63) rfl (hb hby at_52) rfl (feq (by decide : ¬ ((3 : Int32) = (5 : Int32)))).2 (by decide) (by decide) kk) ?_
      refine ob T36 (mkF mG 64 #[.val (.int p0), .val (.int p1), .val (.int (3 : Int32)), .val (.int (0 : Int32)), .val (.ref w_NotSupported), .val (.ref b0_36), .unset, .unset, .unset] [(.int (0 : Int32))]) (fun _ kk => XS.iconst X36.here hx rfl (hb hby at_63) kk) ?_
      refine ob T36 (mkF mG 66 #[.val (.int p0), .val (.int p1), .val (.int (3 : Int32)), .val (.int (0 : Int32)), .val (.ref w_NotSupported), .val (.ref b0_36), .val (.int (0 : Int32)), .unset, .unset] []) (fun _ kk => XS.istore X36.here hx rfl (hb hby at_64) rfl (l' := #[.val (.int p0), .val (.int p1), .val (.int (3 : Int32)), .val (.int (0 : Int32)), .val (.ref w_NotSupported), .val (.ref b0_36), .val (.int (0 : Int32)), .unset, .unset]) rfl kk) ?_
      refine ob T36 (mkF mG 68 #[.val (.int p0), .val (.int p1), .val (.int (3 : Int32)), .val (.int (0 : Int32)), .val (.ref w_NotSupported), .val (.ref b0_36), .val (.int (0 : Int32)), .unset, .unset] [(.int (0 : Int32))]) (fun _ kk => XS.iload X36.here hx rfl (hb hby at_66) rfl kk) ?_
      refine ob T36 (mkF mG 85 #[.val (.int p0), .val (.int p1), .val (.int (3 : Int32)), .val (.int (0 : Int32)), .val (.ref w_NotSupported), .val (.ref b0_36), .val (.int (0 : Int32)), .unset, .unset] []) (fun _ kk => XS.ifYes X36.here hx rfl (pc0 := 68) (pc' := 85) rfl (hb hby at_68) rfl ((if0 _ _).trans (teq (by decide : (0 : Int32) = (0 : Int32))).1) (by decide) (by decide) kk) ?_
      refine ob T36 (mkF mG 87 #[.val (.int p0), .val (.int p1), .val (.int (3 : Int32)), .val (.int (0 : Int32)), .val (.ref w_NotSupported), .val (.ref b0_36), .val (.int (0 : Int32)), .unset, .unset] [(.ref b0_36)]) (fun _ kk => XS.aload X36.here hx rfl (hb hby at_85) rfl rfl kk) ?_
      obtain ⟨cq37, kq37, q37a, q37b, q37c⟩ := isOf hZ e36 F36_0
      obtain ⟨_, _, ⟨T37, L37, k37, n37⟩, -, X37, ⟨Lc37, hQ37, l37, y37, z37⟩, st37⟩ := X36.virtualBack hx (y := (⟨"java/util/Optional", "isPresent", "()Z"⟩ : MethodName)) (z := (⟨"java/util/Optional", "isPresent", "()Z"⟩ : MethodName)) hown (mvT hZ (ow hw 40 rfl)) (mvT hZ (ow hw 41 rfl)) (notFace_of_selects (args := #[]) (mvT hZ (ow hw 43 rfl))) (mvT hZ (ow hw 43 rfl)) (mvT hZ (ow hw 42 rfl)) (by decide) (backOf (W := 0) (rm_ipS l Z a0 hw [] w_Required w_RECEIVED w_NotSupported w_NONE w_RequiresNew w_NEW w_Mandatory w_BeanManaged w_Never w_Supports w_EMPTY b0_36 w_NONE h36 n0 O36 hS F36_1) hZ (ow hw 44 rfl) (ow hw 27 rfl) (by decide) (by decide)) q37a q37c (g := (mkF mG 87 #[.val (.int p0), .val (.int p1), .val (.int (3 : Int32)), .val (.int (0 : Int32)), .val (.ref w_NotSupported), .val (.ref b0_36), .val (.int (0 : Int32)), .unset, .unset] [(.ref b0_36)])) rfl (by rw [hml]; rfl) (Steps.refl _) (argsL := []) (rest := []) (lenOf pd_5 rfl) rfl (by show 2 * 0 + _ ≤ _; exact Nat.le_of_eq rfl) (hb hby at_87) (fun _ _ => ⟨rfl, e36, (by decide : 1 + 0 ≤ _), (by decide : 1 + 0 ≤ _)⟩)
      dsimp only [Pt.U, Pt.locs, Pt.cells, Pt.slots] at X37 l37 y37 z37 st37 hQ37
      subst l37 y37 z37
      obtain ⟨rfl, N37q, e37⟩ := hQ37
      have N37 := Fr.app N36 N37q
      refine ob T37 (mkF mG 90 #[.val (.int p0), .val (.int p1), .val (.int (3 : Int32)), .val (.int (0 : Int32)), .val (.ref w_NotSupported), .val (.ref b0_36), .val (.int (0 : Int32)), .unset, .unset] [(.int (1 : Int32))]) (fun _ kk => st37.trans kk) ?_
      refine ob T37 (mkF mG 95 #[.val (.int p0), .val (.int p1), .val (.int (3 : Int32)), .val (.int (0 : Int32)), .val (.ref w_NotSupported), .val (.ref b0_36), .val (.int (0 : Int32)), .unset, .unset] []) (fun _ kk => XS.ifYes X37.here hx rfl (pc0 := 90) (pc' := 95) rfl (hb hby at_90) rfl ((if0 _ _).trans (feq (by decide : ¬ ((1 : Int32) = (0 : Int32)))).2) (by decide) (by decide) kk) ?_
      refine ob T37 (mkF mG 96 #[.val (.int p0), .val (.int p1), .val (.int (3 : Int32)), .val (.int (0 : Int32)), .val (.ref w_NotSupported), .val (.ref b0_36), .val (.int (0 : Int32)), .unset, .unset] [(.int (0 : Int32))]) (fun _ kk => XS.iloadN X37.here hx rfl (hb hby at_95) rfl kk) ?_
      refine ob T37 (mkF mG 117 #[.val (.int p0), .val (.int p1), .val (.int (3 : Int32)), .val (.int (0 : Int32)), .val (.ref w_NotSupported), .val (.ref b0_36), .val (.int (0 : Int32)), .unset, .unset] []) (fun _ kk => XS.ifYes X37.here hx rfl (pc0 := 96) (pc' := 117) rfl (hb hby at_96) rfl ((if0 _ _).trans (teq (by decide : (0 : Int32) = (0 : Int32))).1) (by decide) (by decide) kk) ?_
      refine ob T37 (mkF mG 118 #[.val (.int p0), .val (.int p1), .val (.int (3 : Int32)), .val (.int (0 : Int32)), .val (.ref w_NotSupported), .val (.ref b0_36), .val (.int (0 : Int32)), .unset, .unset] [(.int (0 : Int32))]) (fun _ kk => XS.iconst X37.here hx rfl (hb hby at_117) kk) ?_
      refine ob T37 (mkF mG 120 #[.val (.int p0), .val (.int p1), .val (.int (3 : Int32)), .val (.int (0 : Int32)), .val (.ref w_NotSupported), .val (.ref b0_36), .val (.int (0 : Int32)), .val (.int (0 : Int32)), .unset] []) (fun _ kk => XS.istore X37.here hx rfl (hb hby at_118) rfl (l' := #[.val (.int p0), .val (.int p1), .val (.int (3 : Int32)), .val (.int (0 : Int32)), .val (.ref w_NotSupported), .val (.ref b0_36), .val (.int (0 : Int32)), .val (.int (0 : Int32)), .unset]) rfl kk) ?_
      refine ob T37 (mkF mG 122 #[.val (.int p0), .val (.int p1), .val (.int (3 : Int32)), .val (.int (0 : Int32)), .val (.ref w_NotSupported), .val (.ref b0_36), .val (.int (0 : Int32)), .val (.int (0 : Int32)), .unset] [(.int (0 : Int32))]) (fun _ kk => XS.iload X37.here hx rfl (hb hby at_120) rfl kk) ?_
      refine ob T37 (mkF mG 133 #[.val (.int p0), .val (.int p1), .val (.int (3 : Int32)), .val (.int (0 : Int32)), .val (.ref w_NotSupported), .val (.ref b0_36), .val (.int (0 : Int32)), .val (.int (0 : Int32)), .unset] []) (fun _ kk => XS.ifYes X37.here hx rfl (pc0 := 122) (pc' := 133) rfl (hb hby at_122) rfl ((if0 _ _).trans (teq (by decide : (0 : Int32) = (0 : Int32))).1) (by decide) (by decide) kk) ?_
      refine ob T37 (mkF mG 134 #[.val (.int p0), .val (.int p1), .val (.int (3 : Int32)), .val (.int (0 : Int32)), .val (.ref w_NotSupported), .val (.ref b0_36), .val (.int (0 : Int32)), .val (.int (0 : Int32)), .unset] [(.int (3 : Int32))]) (fun _ kk => XS.iloadN X37.here hx rfl (hb hby at_133) rfl kk) ?_
      refine ob T37 (mkF mG 135 #[.val (.int p0), .val (.int p1), .val (.int (3 : Int32)), .val (.int (0 : Int32)), .val (.ref w_NotSupported), .val (.ref b0_36), .val (.int (0 : Int32)), .val (.int (0 : Int32)), .unset] [(.int (1 : Int32)), (.int (3 : Int32))]) (fun _ kk => XS.iconst X37.here hx rfl (hb hby at_134) kk) ?_
      refine ob T37 (mkF mG 138 #[.val (.int p0), .val (.int p1), .val (.int (3 : Int32)), .val (.int (0 : Int32)), .val (.ref w_NotSupported), .val (.ref b0_36), .val (.int (0 : Int32)), .val (.int (0 : Int32)), .unset] []) (fun _ kk => XS.icmpNo X37.here hx rfl (hb hby at_135) rfl (feq (by decide : ¬ ((3 : Int32) = (1 : Int32)))).1 kk) ?_
      refine ob T37 (mkF mG 139 #[.val (.int p0), .val (.int p1), .val (.int (3 : Int32)), .val (.int (0 : Int32)), .val (.ref w_NotSupported), .val (.ref b0_36), .val (.int (0 : Int32)), .val (.int (0 : Int32)), .unset] [(.int (3 : Int32))]) (fun _ kk => XS.iloadN X37.here hx rfl (hb hby at_138) rfl kk) ?_
      refine ob T37 (mkF mG 154 #[.val (.int p0), .val (.int p1), .val (.int (3 : Int32)), .val (.int (0 : Int32)), .val (.ref w_NotSupported), .val (.ref b0_36), .val (.int (0 : Int32)), .val (.int (0 : Int32)), .unset] []) (fun _ kk => XS.ifYes X37.here hx rfl (pc0 := 139) (pc' := 154) rfl (hb hby at_139) rfl ((if0 _ _).trans (feq (by decide : ¬ ((3 : Int32) = (0 : Int32)))).2) (by decide) (by decide) kk) ?_
      obtain ⟨T38, X38, e38, st38⟩ := getS2 X37 hx hZ hown (host := "") (Or.inl (ow hw 55 rfl)) Via.refl e37 (S_w_NONE.ext O36.2) (g := (mkF mG 154 #[.val (.int p0), .val (.int p1), .val (.int (3 : Int32)), .val (.int (0 : Int32)), .val (.ref w_NotSupported), .val (.ref b0_36), .val (.int (0 : Int32)), .val (.int (0 : Int32)), .unset] [])) rfl (hb hby at_154)
      refine ob T38 (mkF mG 157 #[.val (.int p0), .val (.int p1), .val (.int (3 : Int32)), .val (.int (0 : Int32)), .val (.ref w_NotSupported), .val (.ref b0_36), .val (.int (0 : Int32)), .val (.int (0 : Int32)), .unset] [(.ref w_NONE)]) (fun _ kk => st38 _ kk) ?_
      refine ob T38 (mkF mG 159 #[.val (.int p0), .val (.int p1), .val (.int (3 : Int32)), .val (.int (0 : Int32)), .val (.ref w_NotSupported), .val (.ref b0_36), .val (.int (0 : Int32)), .val (.int (0 : Int32)), .val (.ref w_NONE)] []) (fun _ kk => XS.astore X38.here hx rfl (hb hby at_157) rfl rfl (l' := #[.val (.int p0), .val (.int p1), .val (.int (3 : Int32)), .val (.int (0 : Int32)), .val (.ref w_NotSupported), .val (.ref b0_36), .val (.int (0 : Int32)), .val (.int (0 : Int32)), .val (.ref w_NONE)]) rfl kk) ?_
      refine ob T38 (mkF mG 161 #[.val (.int p0), .val (.int p1), .val (.int (3 : Int32)), .val (.int (0 : Int32)), .val (.ref w_NotSupported), .val (.ref b0_36), .val (.int (0 : Int32)), .val (.int (0 : Int32)), .val (.ref w_NONE)] [(.ref b0_36)]) (fun _ kk => XS.aload X38.here hx rfl (hb hby at_159) rfl rfl kk) ?_
      obtain ⟨cq39, kq39, q39a, q39b, q39c⟩ := isOf hZ e38 F36_0
      obtain ⟨_, _, ⟨T39, L39, k39, n39⟩, -, X39, ⟨Lc39, hQ39, l39, y39, z39⟩, st39⟩ := X38.virtualBack hx (y := (⟨"java/util/Optional", "get", "()Ljava/lang/Object;"⟩ : MethodName)) (z := (⟨"java/util/Optional", "get", "()Ljava/lang/Object;"⟩ : MethodName)) hown (mvT hZ (ow hw 46 rfl)) (mvT hZ (ow hw 47 rfl)) (notFace_of_selects (args := #[]) (mvT hZ (ow hw 49 rfl))) (mvT hZ (ow hw 49 rfl)) (mvT hZ (ow hw 48 rfl)) (by decide) (backOf (W := 0) (rm_get l Z a0 hw [] w_Required w_RECEIVED w_NotSupported w_NONE w_RequiresNew w_NEW w_Mandatory w_BeanManaged w_Never w_Supports w_EMPTY b0_36 w_NONE h36 n0 O36 hS F36_1) hZ (ow hw 50 rfl) (ow hw 27 rfl) (by decide) (by decide)) q39a q39c (g := (mkF mG 161 #[.val (.int p0), .val (.int p1), .val (.int (3 : Int32)), .val (.int (0 : Int32)), .val (.ref w_NotSupported), .val (.ref b0_36), .val (.int (0 : Int32)), .val (.int (0 : Int32)), .val (.ref w_NONE)] [(.ref b0_36)])) rfl (by rw [hml]; rfl) (Steps.refl _) (argsL := []) (rest := []) (lenOf pd_6 rfl) rfl (by show 2 * 0 + _ ≤ _; exact Nat.le_of_eq rfl) (hb hby at_161) (fun _ _ => ⟨rfl, e38, (by decide : 1 + 0 ≤ _), (by decide : 1 + 0 ≤ _)⟩)
      dsimp only [Pt.U, Pt.locs, Pt.cells, Pt.slots] at X39 l39 y39 z39 st39 hQ39
      subst l39 y39 z39
      obtain ⟨rfl, N39q, e39⟩ := hQ39
      have N39 := Fr.app N37 N39q
      refine ob T39 (mkF mG 164 #[.val (.int p0), .val (.int p1), .val (.int (3 : Int32)), .val (.int (0 : Int32)), .val (.ref w_NotSupported), .val (.ref b0_36), .val (.int (0 : Int32)), .val (.int (0 : Int32)), .val (.ref w_NONE)] [(.ref w_NONE)]) (fun _ kk => st39.trans kk) ?_
      refine ob T39 (mkF mG 166 #[.val (.int p0), .val (.int p1), .val (.int (3 : Int32)), .val (.int (0 : Int32)), .val (.ref w_NotSupported), .val (.ref b0_36), .val (.int (0 : Int32)), .val (.int (0 : Int32)), .val (.ref w_NONE)] [(.ref w_NONE), (.ref w_NONE)]) (fun _ kk => XS.aload X39.here hx rfl (hb hby at_164) rfl rfl kk) ?_
      refine ob T39 (mkF mG 169 #[.val (.int p0), .val (.int p1), .val (.int (3 : Int32)), .val (.int (0 : Int32)), .val (.ref w_NotSupported), .val (.ref b0_36), .val (.int (0 : Int32)), .val (.int (0 : Int32)), .val (.ref w_NONE)] []) (fun _ kk => Jvm.RoadKit.acmp (g := (mkF mG 166 #[.val (.int p0), .val (.int p1), .val (.int (3 : Int32)), .val (.int (0 : Int32)), .val (.ref w_NotSupported), .val (.ref b0_36), .val (.int (0 : Int32)), .val (.int (0 : Int32)), .val (.ref w_NONE)] [(.ref w_NONE), (.ref w_NONE)])) X39 hx rfl rfl rfl (pc0 := 166) (pc' := 169) (same := true) rfl (hb hby at_166) rfl (decide_eq_true rfl) (by decide) (by decide) kk) ?_
      refine ob T39 (mkF mG 170 #[.val (.int p0), .val (.int p1), .val (.int (3 : Int32)), .val (.int (0 : Int32)), .val (.ref w_NotSupported), .val (.ref b0_36), .val (.int (0 : Int32)), .val (.int (0 : Int32)), .val (.ref w_NONE)] [(.int (1 : Int32))]) (fun _ kk => XS.iconst X39.here hx rfl (hb hby at_169) kk) ?_
      refine ob T39 (mkF mG 174 #[.val (.int p0), .val (.int p1), .val (.int (3 : Int32)), .val (.int (0 : Int32)), .val (.ref w_NotSupported), .val (.ref b0_36), .val (.int (0 : Int32)), .val (.int (0 : Int32)), .val (.ref w_NONE)] [(.int (1 : Int32))]) (fun _ kk => XS.goto X39.here hx rfl (pc0 := 170) (pc' := 174) rfl (hb hby at_170) (by decide) (by decide) kk) ?_
      obtain ⟨fs, hr, hrun, hended, hW, hsame⟩ := X39.leave (v := some (.int (1 : Int32))) (fun h => by rw [Bd.returns] at h; cases h)
      refine oout (retN X39 hx (t := .boolean) Bd.returns (by simp) (hb hby at_174) hr) hrun hended ⟨_, _, rfl, ?_, ⟨_, rfl⟩, hW, hsame.mono (by decide) (by decide)⟩
      show Q_rm0 Z w_Required w_RECEIVED w_NotSupported w_NONE w_RequiresNew w_NEW w_Mandatory w_BeanManaged w_Never w_Supports w_EMPTY p0 p1 h0 n0 _ T39.heap _
      rw [e39]
      exact ⟨rfl, N39⟩
    · skip
      refine ob s₁ (mkF mG 14 #[.val (.int p0), .val (.int p1), .val (.int (3 : Int32)), .unset, .unset, .unset, .unset, .unset, .unset] []) (fun _ kk => XS.ifNo X0.here hx rfl (hb hby at_11) rfl ((if0 _ _).trans (feq hc34).1) kk) ?_
      refine ob s₁ (mkF mG 15 #[.val (.int p0), .val (.int p1), .val (.int (3 : Int32)), .unset, .unset, .unset, .unset, .unset, .unset] [(.int (1 : Int32))]) (fun _ kk => XS.iconst X0.here hx rfl (hb hby at_14) kk) ?_
      refine ob s₁ (mkF mG 19 #[.val (.int p0), .val (.int p1), .val (.int (3 : Int32)), .unset, .unset, .unset, .unset, .unset, .unset] [(.int (1 : Int32))]) (fun _ kk => XS.goto X0.here hx rfl (pc0 := 15) (pc' := 19) rfl (hb hby at_15) (by decide) (by decide) kk) ?_
      refine ob s₁ (mkF mG 20 #[.val (.int p0), .val (.int p1), .val (.int (3 : Int32)), .val (.int (1 : Int32)), .unset, .unset, .unset, .unset, .unset] []) (fun _ kk => XS.istoreN X0.here hx rfl (hb hby at_19) rfl (l' := #[.val (.int p0), .val (.int p1), .val (.int (3 : Int32)), .val (.int (1 : Int32)), .unset, .unset, .unset, .unset, .unset]) rfl kk) ?_
      refine ob s₁ (mkF mG 21 #[.val (.int p0), .val (.int p1), .val (.int (3 : Int32)), .val (.int (1 : Int32)), .unset, .unset, .unset, .unset, .unset] [(.int (3 : Int32))]) (fun _ kk => XS.iloadN X0.here hx rfl (hb hby at_20) rfl kk) ?_
      obtain ⟨_, _, ⟨T40, L40, k40, n40⟩, -, X40, ⟨Lc40, hQ40, l40, y40, z40⟩, st40⟩ := Jvm.LawKit.callS X0 hx (y := (⟨"com/example/vorgang/vorgang/model/PolicyApplyPinLaw", "pick", "(I)Lcom/example/vorgang/vorgang/model/Policy;"⟩ : MethodName)) hown (mvT hZ (ow hw 1 rfl)) (mvT hZ (ow hw 2 rfl)) (mvT hZ (ow hw 3 rfl)) (mvT hZ (ow hw 4 rfl)) (by decide) (backOf (W := 0) (rm_pick3 l Z a0 hw [] w_Required w_RECEIVED w_NotSupported w_NONE w_RequiresNew w_NEW w_Mandatory w_BeanManaged w_Never w_Supports w_EMPTY  h0 n0 O0 hS ) hZ (ow hw 4 rfl) (ow hw 3 rfl) (by decide) (by decide)) (g := (mkF mG 21 #[.val (.int p0), .val (.int p1), .val (.int (3 : Int32)), .val (.int (1 : Int32)), .unset, .unset, .unset, .unset, .unset] [(.int (3 : Int32))])) rfl (by rw [hml]; rfl) (argsL := [(.int (3 : Int32))]) (rest := []) (lenOf pd_3 rfl) rfl (by show 2 * 0 + _ ≤ _; exact Nat.le_of_eq rfl) (hb hby at_21) (fun _ _ => ⟨rfl, e0, (by decide : 0 + 0 ≤ _), (by decide : 0 + 0 ≤ _)⟩)
      dsimp only [Pt.U, Pt.locs, Pt.cells, Pt.slots] at X40 l40 y40 z40 st40 hQ40
      subst l40 y40 z40
      obtain ⟨rfl, N40q, e40⟩ := hQ40
      have N40 := Fr.app N0 N40q
      refine ob T40 (mkF mG 24 #[.val (.int p0), .val (.int p1), .val (.int (3 : Int32)), .val (.int (1 : Int32)), .unset, .unset, .unset, .unset, .unset] [(.ref w_NotSupported)]) (fun _ kk => st40 _ kk) ?_
      refine ob T40 (mkF mG 26 #[.val (.int p0), .val (.int p1), .val (.int (3 : Int32)), .val (.int (1 : Int32)), .val (.ref w_NotSupported), .unset, .unset, .unset, .unset] []) (fun _ kk => XS.astore X40.here hx rfl (hb hby at_24) rfl rfl (l' := #[.val (.int p0), .val (.int p1), .val (.int (3 : Int32)), .val (.int (1 : Int32)), .val (.ref w_NotSupported), .unset, .unset, .unset, .unset]) rfl kk) ?_
      refine ob T40 (mkF mG 28 #[.val (.int p0), .val (.int p1), .val (.int (3 : Int32)), .val (.int (1 : Int32)), .val (.ref w_NotSupported), .unset, .unset, .unset, .unset] [(.ref w_NotSupported)]) (fun _ kk => XS.aload X40.here hx rfl (hb hby at_26) rfl rfl kk) ?_
      refine ob T40 (mkF mG 29 #[.val (.int p0), .val (.int p1), .val (.int (3 : Int32)), .val (.int (1 : Int32)), .val (.ref w_NotSupported), .unset, .unset, .unset, .unset] [(.int (1 : Int32)), (.ref w_NotSupported)]) (fun _ kk => XS.iloadN X40.here hx rfl (hb hby at_28) rfl kk) ?_
      obtain ⟨cq41, kq41, q41a, q41b, q41c⟩ := isOf hZ e40 (E_w_NotSupported.ext O0.2)
      obtain ⟨_, _, ⟨T41, L41, k41, n41⟩, -, X41, ⟨Lc41, hQ41, l41, y41, z41⟩, st41⟩ := X40.virtualBack hx (y := (⟨"com/example/vorgang/vorgang/model/Policy", "apply", "(Z)Ljava/util/Optional;"⟩ : MethodName)) (z := (⟨"com/example/vorgang/vorgang/model/Policy", "apply", "(Z)Ljava/util/Optional;"⟩ : MethodName)) hown (mvT hZ (ow hw 8 rfl)) (mvT hZ (ow hw 9 rfl)) (notFace_of_selects (args := #[]) (mvT hZ (ow hw 11 rfl))) (mvT hZ (ow hw 11 rfl)) (mvT hZ (ow hw 10 rfl)) (by decide) (backOf (W := 0) (rm_ap3_1 l Z a0 hw [] w_Required w_RECEIVED w_NotSupported w_NONE w_RequiresNew w_NEW w_Mandatory w_BeanManaged w_Never w_Supports w_EMPTY  h0 n0 O0 hS ) hZ (ow hw 12 rfl) (ow hw 6 rfl) (by decide) (by decide)) q41a q41c (g := (mkF mG 29 #[.val (.int p0), .val (.int p1), .val (.int (3 : Int32)), .val (.int (1 : Int32)), .val (.ref w_NotSupported), .unset, .unset, .unset, .unset] [(.int (1 : Int32)), (.ref w_NotSupported)])) rfl (by rw [hml]; rfl) (Steps.refl _) (argsL := [(.int (1 : Int32))]) (rest := []) (lenOf pd_4 rfl) rfl (by show 2 * 0 + _ ≤ _; exact Nat.le_of_eq rfl) (hb hby at_29) (fun _ _ => ⟨rfl, e40, (by decide : 0 + 1 ≤ _), (by decide : 0 + 1 ≤ _)⟩)
      dsimp only [Pt.U, Pt.locs, Pt.cells, Pt.slots] at X41 l41 y41 z41 st41 hQ41
      subst l41 y41 z41
      obtain ⟨h41, e41⟩ : ∃ h, T41.heap = h := ⟨_, rfl⟩
      rw [e41] at hQ41
      obtain ⟨b0_41, rfl, N41q, K41q, O41, n_b0_41, z_b0_41, F41_0, F41_1⟩ := hQ41
      have N41 := Fr.app N40 N41q
      have sz_b0_41 : h0.size ≤ b0_41 := Nat.le_trans K0.1 z_b0_41
      have K41 := K0.trans K41q all0
      refine ob T41 (mkF mG 32 #[.val (.int p0), .val (.int p1), .val (.int (3 : Int32)), .val (.int (1 : Int32)), .val (.ref w_NotSupported), .unset, .unset, .unset, .unset] [(.ref b0_41)]) (fun _ kk => st41.trans kk) ?_
      refine ob T41 (mkF mG 34 #[.val (.int p0), .val (.int p1), .val (.int (3 : Int32)), .val (.int (1 : Int32)), .val (.ref w_NotSupported), .val (.ref b0_41), .unset, .unset, .unset] []) (fun _ kk => XS.astore X41.here hx rfl (hb hby at_32) rfl rfl (l' := #[.val (.int p0), .val (.int p1), .val (.int (3 : Int32)), .val (.int (1 : Int32)), .val (.ref w_NotSupported), .val (.ref b0_41), .unset, .unset, .unset]) rfl kk) ?_
      refine ob T41 (mkF mG 36 #[.val (.int p0), .val (.int p1), .val (.int (3 : Int32)), .val (.int (1 : Int32)), .val (.ref w_NotSupported), .val (.ref b0_41), .unset, .unset, .unset] [(.ref b0_41)]) (fun _ kk => XS.aload X41.here hx rfl (hb hby at_34) rfl rfl kk) ?_
      refine ob T41 (mkF mG 41 #[.val (.int p0), .val (.int p1), .val (.int (3 : Int32)), .val (.int (1 : Int32)), .val (.ref w_NotSupported), .val (.ref b0_41), .unset, .unset, .unset] []) (fun _ kk => XS.ifnonnullYes X41.here hx rfl (pc0 := 36) (pc' := 41) rfl (hb hby at_36) rfl (by decide) (by decide) kk) ?_
      refine ob T41 (mkF mG 42 #[.val (.int p0), .val (.int p1), .val (.int (3 : Int32)), .val (.int (1 : Int32)), .val (.ref w_NotSupported), .val (.ref b0_41), .unset, .unset, .unset] [(.int (3 : Int32))]) (fun _ kk => XS.iloadN X41.here hx rfl (hb hby at_41) rfl kk) ?_
      refine ob T41 (mkF mG 43 #[.val (.int p0), .val (.int p1), .val (.int (3 : Int32)), .val (.int (1 : Int32)), .val (.ref w_NotSupported), .val (.ref b0_41), .unset, .unset, .unset] [(.int (4 : Int32)), (.int (3 : Int32))]) (fun _ kk => XS.iconst X41.here hx rfl (hb hby at_42) kk) ?_
      refine ob T41 (mkF mG 50 #[.val (.int p0), .val (.int p1), .val (.int (3 : Int32)), .val (.int (1 : Int32)), .val (.ref w_NotSupported), .val (.ref b0_41), .unset, .unset, .unset] []) (fun _ kk => XS.icmpYes X41.here hx rfl (pc0 := 43) (pc' := 50) rfl (hb hby at_43) rfl (feq (by decide : ¬ ((3 : Int32) = (4 : Int32)))).2 (by decide) (by decide) kk) ?_
      refine ob T41 (mkF mG 51 #[.val (.int p0), .val (.int p1), .val (.int (3 : Int32)), .val (.int (1 : Int32)), .val (.ref w_NotSupported), .val (.ref b0_41), .unset, .unset, .unset] [(.int (3 : Int32))]) (fun _ kk => XS.iloadN X41.here hx rfl (hb hby at_50) rfl kk) ?_
      refine ob T41 (mkF mG 52 #[.val (.int p0), .val (.int p1), .val (.int (3 : Int32)), .val (.int (1 : Int32)), .val (.ref w_NotSupported), .val (.ref b0_41), .unset, .unset, .unset] [(.int (5 : Int32)), (.int (3 : Int32))]) (fun _ kk => XS.iconst X41.here hx rfl (hb hby at_51) kk) ?_
      refine ob T41 (mkF mG 63 #[.val (.int p0), .val (.int p1), .val (.int (3 : Int32)), .val (.int (1 : Int32)), .val (.ref w_NotSupported), .val (.ref b0_41), .unset, .unset, .unset] []) (fun _ kk => XS.icmpYes X41.here hx rfl (pc0 := 52) (pc' := 63) rfl (hb hby at_52) rfl (feq (by decide : ¬ ((3 : Int32) = (5 : Int32)))).2 (by decide) (by decide) kk) ?_
      refine ob T41 (mkF mG 64 #[.val (.int p0), .val (.int p1), .val (.int (3 : Int32)), .val (.int (1 : Int32)), .val (.ref w_NotSupported), .val (.ref b0_41), .unset, .unset, .unset] [(.int (0 : Int32))]) (fun _ kk => XS.iconst X41.here hx rfl (hb hby at_63) kk) ?_
      refine ob T41 (mkF mG 66 #[.val (.int p0), .val (.int p1), .val (.int (3 : Int32)), .val (.int (1 : Int32)), .val (.ref w_NotSupported), .val (.ref b0_41), .val (.int (0 : Int32)), .unset, .unset] []) (fun _ kk => XS.istore X41.here hx rfl (hb hby at_64) rfl (l' := #[.val (.int p0), .val (.int p1), .val (.int (3 : Int32)), .val (.int (1 : Int32)), .val (.ref w_NotSupported), .val (.ref b0_41), .val (.int (0 : Int32)), .unset, .unset]) rfl kk) ?_
      refine ob T41 (mkF mG 68 #[.val (.int p0), .val (.int p1), .val (.int (3 : Int32)), .val (.int (1 : Int32)), .val (.ref w_NotSupported), .val (.ref b0_41), .val (.int (0 : Int32)), .unset, .unset] [(.int (0 : Int32))]) (fun _ kk => XS.iload X41.here hx rfl (hb hby at_66) rfl kk) ?_
      refine ob T41 (mkF mG 85 #[.val (.int p0), .val (.int p1), .val (.int (3 : Int32)), .val (.int (1 : Int32)), .val (.ref w_NotSupported), .val (.ref b0_41), .val (.int (0 : Int32)), .unset, .unset] []) (fun _ kk => XS.ifYes X41.here hx rfl (pc0 := 68) (pc' := 85) rfl (hb hby at_68) rfl ((if0 _ _).trans (teq (by decide : (0 : Int32) = (0 : Int32))).1) (by decide) (by decide) kk) ?_
      refine ob T41 (mkF mG 87 #[.val (.int p0), .val (.int p1), .val (.int (3 : Int32)), .val (.int (1 : Int32)), .val (.ref w_NotSupported), .val (.ref b0_41), .val (.int (0 : Int32)), .unset, .unset] [(.ref b0_41)]) (fun _ kk => XS.aload X41.here hx rfl (hb hby at_85) rfl rfl kk) ?_
      obtain ⟨cq42, kq42, q42a, q42b, q42c⟩ := isOf hZ e41 F41_0
      obtain ⟨_, _, ⟨T42, L42, k42, n42⟩, -, X42, ⟨Lc42, hQ42, l42, y42, z42⟩, st42⟩ := X41.virtualBack hx (y := (⟨"java/util/Optional", "isPresent", "()Z"⟩ : MethodName)) (z := (⟨"java/util/Optional", "isPresent", "()Z"⟩ : MethodName)) hown (mvT hZ (ow hw 40 rfl)) (mvT hZ (ow hw 41 rfl)) (notFace_of_selects (args := #[]) (mvT hZ (ow hw 43 rfl))) (mvT hZ (ow hw 43 rfl)) (mvT hZ (ow hw 42 rfl)) (by decide) (backOf (W := 0) (rm_ipS l Z a0 hw [] w_Required w_RECEIVED w_NotSupported w_NONE w_RequiresNew w_NEW w_Mandatory w_BeanManaged w_Never w_Supports w_EMPTY b0_41 w_NONE h41 n0 O41 hS F41_1) hZ (ow hw 44 rfl) (ow hw 27 rfl) (by decide) (by decide)) q42a q42c (g := (mkF mG 87 #[.val (.int p0), .val (.int p1), .val (.int (3 : Int32)), .val (.int (1 : Int32)), .val (.ref w_NotSupported), .val (.ref b0_41), .val (.int (0 : Int32)), .unset, .unset] [(.ref b0_41)])) rfl (by rw [hml]; rfl) (Steps.refl _) (argsL := []) (rest := []) (lenOf pd_5 rfl) rfl (by show 2 * 0 + _ ≤ _; exact Nat.le_of_eq rfl) (hb hby at_87) (fun _ _ => ⟨rfl, e41, (by decide : 1 + 0 ≤ _), (by decide : 1 + 0 ≤ _)⟩)
      dsimp only [Pt.U, Pt.locs, Pt.cells, Pt.slots] at X42 l42 y42 z42 st42 hQ42
      subst l42 y42 z42
      obtain ⟨rfl, N42q, e42⟩ := hQ42
      have N42 := Fr.app N41 N42q
      refine ob T42 (mkF mG 90 #[.val (.int p0), .val (.int p1), .val (.int (3 : Int32)), .val (.int (1 : Int32)), .val (.ref w_NotSupported), .val (.ref b0_41), .val (.int (0 : Int32)), .unset, .unset] [(.int (1 : Int32))]) (fun _ kk => st42.trans kk) ?_
      refine ob T42 (mkF mG 95 #[.val (.int p0), .val (.int p1), .val (.int (3 : Int32)), .val (.int (1 : Int32)), .val (.ref w_NotSupported), .val (.ref b0_41), .val (.int (0 : Int32)), .unset, .unset] []) (fun _ kk => XS.ifYes X42.here hx rfl (pc0 := 90) (pc' := 95) rfl (hb hby at_90) rfl ((if0 _ _).trans (feq (by decide : ¬ ((1 : Int32) = (0 : Int32)))).2) (by decide) (by decide) kk) ?_
      refine ob T42 (mkF mG 96 #[.val (.int p0), .val (.int p1), .val (.int (3 : Int32)), .val (.int (1 : Int32)), .val (.ref w_NotSupported), .val (.ref b0_41), .val (.int (0 : Int32)), .unset, .unset] [(.int (1 : Int32))]) (fun _ kk => XS.iloadN X42.here hx rfl (hb hby at_95) rfl kk) ?_
      refine ob T42 (mkF mG 99 #[.val (.int p0), .val (.int p1), .val (.int (3 : Int32)), .val (.int (1 : Int32)), .val (.ref w_NotSupported), .val (.ref b0_41), .val (.int (0 : Int32)), .unset, .unset] []) (fun _ kk => XS.ifNo X42.here hx rfl (hb hby at_96) rfl ((if0 _ _).trans (feq (by decide : ¬ ((1 : Int32) = (0 : Int32)))).1) kk) ?_
      refine ob T42 (mkF mG 100 #[.val (.int p0), .val (.int p1), .val (.int (3 : Int32)), .val (.int (1 : Int32)), .val (.ref w_NotSupported), .val (.ref b0_41), .val (.int (0 : Int32)), .unset, .unset] [(.int (3 : Int32))]) (fun _ kk => XS.iloadN X42.here hx rfl (hb hby at_99) rfl kk) ?_
      refine ob T42 (mkF mG 103 #[.val (.int p0), .val (.int p1), .val (.int (3 : Int32)), .val (.int (1 : Int32)), .val (.ref w_NotSupported), .val (.ref b0_41), .val (.int (0 : Int32)), .unset, .unset] []) (fun _ kk => XS.ifNo X42.here hx rfl (hb hby at_100) rfl ((if0 _ _).trans (feq (by decide : ¬ ((3 : Int32) = (0 : Int32)))).1) kk) ?_
      refine ob T42 (mkF mG 104 #[.val (.int p0), .val (.int p1), .val (.int (3 : Int32)), .val (.int (1 : Int32)), .val (.ref w_NotSupported), .val (.ref b0_41), .val (.int (0 : Int32)), .unset, .unset] [(.int (3 : Int32))]) (fun _ kk => XS.iloadN X42.here hx rfl (hb hby at_103) rfl kk) ?_
      refine ob T42 (mkF mG 105 #[.val (.int p0), .val (.int p1), .val (.int (3 : Int32)), .val (.int (1 : Int32)), .val (.ref w_NotSupported), .val (.ref b0_41), .val (.int (0 : Int32)), .unset, .unset] [(.int (2 : Int32)), (.int (3 : Int32))]) (fun _ kk => XS.iconst X42.here hx rfl (hb hby at_104) kk) ?_
      refine ob T42 (mkF mG 108 #[.val (.int p0), .val (.int p1), .val (.int (3 : Int32)), .val (.int (1 : Int32)), .val (.ref w_NotSupported), .val (.ref b0_41), .val (.int (0 : Int32)), .unset, .unset] []) (fun _ kk => XS.icmpNo X42.here hx rfl (hb hby at_105) rfl (feq (by decide : ¬ ((3 : Int32) = (2 : Int32)))).1 kk) ?_
      refine ob T42 (mkF mG 109 #[.val (.int p0), .val (.int p1), .val (.int (3 : Int32)), .val (.int (1 : Int32)), .val (.ref w_NotSupported), .val (.ref b0_41), .val (.int (0 : Int32)), .unset, .unset] [(.int (3 : Int32))]) (fun _ kk => XS.iloadN X42.here hx rfl (hb hby at_108) rfl kk) ?_
      refine ob T42 (mkF mG 110 #[.val (.int p0), .val (.int p1), .val (.int (3 : Int32)), .val (.int (1 : Int32)), .val (.ref w_NotSupported), .val (.ref b0_41), .val (.int (0 : Int32)), .unset, .unset] [(.int (4 : Int32)), (.int (3 : Int32))]) (fun _ kk => XS.iconst X42.here hx rfl (hb hby at_109) kk) ?_
      refine ob T42 (mkF mG 117 #[.val (.int p0), .val (.int p1), .val (.int (3 : Int32)), .val (.int (1 : Int32)), .val (.ref w_NotSupported), .val (.ref b0_41), .val (.int (0 : Int32)), .unset, .unset] []) (fun _ kk => XS.icmpYes X42.here hx rfl (pc0 := 110) (pc' := 117) rfl (hb hby at_110) rfl (feq (by decide : ¬ ((3 : Int32) = (4 : Int32)))).2 (by decide) (by decide) kk) ?_
      refine ob T42 (mkF mG 118 #[.val (.int p0), .val (.int p1), .val (.int (3 : Int32)), .val (.int (1 : Int32)), .val (.ref w_NotSupported), .val (.ref b0_41), .val (.int (0 : Int32)), .unset, .unset] [(.int (0 : Int32))]) (fun _ kk => XS.iconst X42.here hx rfl (hb hby at_117) kk) ?_
      refine ob T42 (mkF mG 120 #[.val (.int p0), .val (.int p1), .val (.int (3 : Int32)), .val (.int (1 : Int32)), .val (.ref w_NotSupported), .val (.ref b0_41), .val (.int (0 : Int32)), .val (.int (0 : Int32)), .unset] []) (fun _ kk => XS.istore X42.here hx rfl (hb hby at_118) rfl (l' := #[.val (.int p0), .val (.int p1), .val (.int (3 : Int32)), .val (.int (1 : Int32)), .val (.ref w_NotSupported), .val (.ref b0_41), .val (.int (0 : Int32)), .val (.int (0 : Int32)), .unset]) rfl kk) ?_
      refine ob T42 (mkF mG 122 #[.val (.int p0), .val (.int p1), .val (.int (3 : Int32)), .val (.int (1 : Int32)), .val (.ref w_NotSupported), .val (.ref b0_41), .val (.int (0 : Int32)), .val (.int (0 : Int32)), .unset] [(.int (0 : Int32))]) (fun _ kk => XS.iload X42.here hx rfl (hb hby at_120) rfl kk) ?_
      refine ob T42 (mkF mG 133 #[.val (.int p0), .val (.int p1), .val (.int (3 : Int32)), .val (.int (1 : Int32)), .val (.ref w_NotSupported), .val (.ref b0_41), .val (.int (0 : Int32)), .val (.int (0 : Int32)), .unset] []) (fun _ kk => XS.ifYes X42.here hx rfl (pc0 := 122) (pc' := 133) rfl (hb hby at_122) rfl ((if0 _ _).trans (teq (by decide : (0 : Int32) = (0 : Int32))).1) (by decide) (by decide) kk) ?_
      refine ob T42 (mkF mG 134 #[.val (.int p0), .val (.int p1), .val (.int (3 : Int32)), .val (.int (1 : Int32)), .val (.ref w_NotSupported), .val (.ref b0_41), .val (.int (0 : Int32)), .val (.int (0 : Int32)), .unset] [(.int (3 : Int32))]) (fun _ kk => XS.iloadN X42.here hx rfl (hb hby at_133) rfl kk) ?_
      refine ob T42 (mkF mG 135 #[.val (.int p0), .val (.int p1), .val (.int (3 : Int32)), .val (.int (1 : Int32)), .val (.ref w_NotSupported), .val (.ref b0_41), .val (.int (0 : Int32)), .val (.int (0 : Int32)), .unset] [(.int (1 : Int32)), (.int (3 : Int32))]) (fun _ kk => XS.iconst X42.here hx rfl (hb hby at_134) kk) ?_
      refine ob T42 (mkF mG 138 #[.val (.int p0), .val (.int p1), .val (.int (3 : Int32)), .val (.int (1 : Int32)), .val (.ref w_NotSupported), .val (.ref b0_41), .val (.int (0 : Int32)), .val (.int (0 : Int32)), .unset] []) (fun _ kk => XS.icmpNo X42.here hx rfl (hb hby at_135) rfl (feq (by decide : ¬ ((3 : Int32) = (1 : Int32)))).1 kk) ?_
      refine ob T42 (mkF mG 139 #[.val (.int p0), .val (.int p1), .val (.int (3 : Int32)), .val (.int (1 : Int32)), .val (.ref w_NotSupported), .val (.ref b0_41), .val (.int (0 : Int32)), .val (.int (0 : Int32)), .unset] [(.int (3 : Int32))]) (fun _ kk => XS.iloadN X42.here hx rfl (hb hby at_138) rfl kk) ?_
      refine ob T42 (mkF mG 154 #[.val (.int p0), .val (.int p1), .val (.int (3 : Int32)), .val (.int (1 : Int32)), .val (.ref w_NotSupported), .val (.ref b0_41), .val (.int (0 : Int32)), .val (.int (0 : Int32)), .unset] []) (fun _ kk => XS.ifYes X42.here hx rfl (pc0 := 139) (pc' := 154) rfl (hb hby at_139) rfl ((if0 _ _).trans (feq (by decide : ¬ ((3 : Int32) = (0 : Int32)))).2) (by decide) (by decide) kk) ?_
      obtain ⟨T43, X43, e43, st43⟩ := getS2 X42 hx hZ hown (host := "") (Or.inl (ow hw 55 rfl)) Via.refl e42 (S_w_NONE.ext O41.2) (g := (mkF mG 154 #[.val (.int p0), .val (.int p1), .val (.int (3 : Int32)), .val (.int (1 : Int32)), .val (.ref w_NotSupported), .val (.ref b0_41), .val (.int (0 : Int32)), .val (.int (0 : Int32)), .unset] [])) rfl (hb hby at_154)
      refine ob T43 (mkF mG 157 #[.val (.int p0), .val (.int p1), .val (.int (3 : Int32)), .val (.int (1 : Int32)), .val (.ref w_NotSupported), .val (.ref b0_41), .val (.int (0 : Int32)), .val (.int (0 : Int32)), .unset] [(.ref w_NONE)]) (fun _ kk => st43 _ kk) ?_
      refine ob T43 (mkF mG 159 #[.val (.int p0), .val (.int p1), .val (.int (3 : Int32)), .val (.int (1 : Int32)), .val (.ref w_NotSupported), .val (.ref b0_41), .val (.int (0 : Int32)), .val (.int (0 : Int32)), .val (.ref w_NONE)] []) (fun _ kk => XS.astore X43.here hx rfl (hb hby at_157) rfl rfl (l' := #[.val (.int p0), .val (.int p1), .val (.int (3 : Int32)), .val (.int (1 : Int32)), .val (.ref w_NotSupported), .val (.ref b0_41), .val (.int (0 : Int32)), .val (.int (0 : Int32)), .val (.ref w_NONE)]) rfl kk) ?_
      refine ob T43 (mkF mG 161 #[.val (.int p0), .val (.int p1), .val (.int (3 : Int32)), .val (.int (1 : Int32)), .val (.ref w_NotSupported), .val (.ref b0_41), .val (.int (0 : Int32)), .val (.int (0 : Int32)), .val (.ref w_NONE)] [(.ref b0_41)]) (fun _ kk => XS.aload X43.here hx rfl (hb hby at_159) rfl rfl kk) ?_
      obtain ⟨cq44, kq44, q44a, q44b, q44c⟩ := isOf hZ e43 F41_0
      obtain ⟨_, _, ⟨T44, L44, k44, n44⟩, -, X44, ⟨Lc44, hQ44, l44, y44, z44⟩, st44⟩ := X43.virtualBack hx (y := (⟨"java/util/Optional", "get", "()Ljava/lang/Object;"⟩ : MethodName)) (z := (⟨"java/util/Optional", "get", "()Ljava/lang/Object;"⟩ : MethodName)) hown (mvT hZ (ow hw 46 rfl)) (mvT hZ (ow hw 47 rfl)) (notFace_of_selects (args := #[]) (mvT hZ (ow hw 49 rfl))) (mvT hZ (ow hw 49 rfl)) (mvT hZ (ow hw 48 rfl)) (by decide) (backOf (W := 0) (rm_get l Z a0 hw [] w_Required w_RECEIVED w_NotSupported w_NONE w_RequiresNew w_NEW w_Mandatory w_BeanManaged w_Never w_Supports w_EMPTY b0_41 w_NONE h41 n0 O41 hS F41_1) hZ (ow hw 50 rfl) (ow hw 27 rfl) (by decide) (by decide)) q44a q44c (g := (mkF mG 161 #[.val (.int p0), .val (.int p1), .val (.int (3 : Int32)), .val (.int (1 : Int32)), .val (.ref w_NotSupported), .val (.ref b0_41), .val (.int (0 : Int32)), .val (.int (0 : Int32)), .val (.ref w_NONE)] [(.ref b0_41)])) rfl (by rw [hml]; rfl) (Steps.refl _) (argsL := []) (rest := []) (lenOf pd_6 rfl) rfl (by show 2 * 0 + _ ≤ _; exact Nat.le_of_eq rfl) (hb hby at_161) (fun _ _ => ⟨rfl, e43, (by decide : 1 + 0 ≤ _), (by decide : 1 + 0 ≤ _)⟩)
      dsimp only [Pt.U, Pt.locs, Pt.cells, Pt.slots] at X44 l44 y44 z44 st44 hQ44
      subst l44 y44 z44
      obtain ⟨rfl, N44q, e44⟩ := hQ44
      have N44 := Fr.app N42 N44q
      refine ob T44 (mkF mG 164 #[.val (.int p0), .val (.int p1), .val (.int (3 : Int32)), .val (.int (1 : Int32)), .val (.ref w_NotSupported), .val (.ref b0_41), .val (.int (0 : Int32)), .val (.int (0 : Int32)), .val (.ref w_NONE)] [(.ref w_NONE)]) (fun _ kk => st44.trans kk) ?_
      refine ob T44 (mkF mG 166 #[.val (.int p0), .val (.int p1), .val (.int (3 : Int32)), .val (.int (1 : Int32)), .val (.ref w_NotSupported), .val (.ref b0_41), .val (.int (0 : Int32)), .val (.int (0 : Int32)), .val (.ref w_NONE)] [(.ref w_NONE), (.ref w_NONE)]) (fun _ kk => XS.aload X44.here hx rfl (hb hby at_164) rfl rfl kk) ?_
      refine ob T44 (mkF mG 169 #[.val (.int p0), .val (.int p1), .val (.int (3 : Int32)), .val (.int (1 : Int32)), .val (.ref w_NotSupported), .val (.ref b0_41), .val (.int (0 : Int32)), .val (.int (0 : Int32)), .val (.ref w_NONE)] []) (fun _ kk => Jvm.RoadKit.acmp (g := (mkF mG 166 #[.val (.int p0), .val (.int p1), .val (.int (3 : Int32)), .val (.int (1 : Int32)), .val (.ref w_NotSupported), .val (.ref b0_41), .val (.int (0 : Int32)), .val (.int (0 : Int32)), .val (.ref w_NONE)] [(.ref w_NONE), (.ref w_NONE)])) X44 hx rfl rfl rfl (pc0 := 166) (pc' := 169) (same := true) rfl (hb hby at_166) rfl (decide_eq_true rfl) (by decide) (by decide) kk) ?_
      refine ob T44 (mkF mG 170 #[.val (.int p0), .val (.int p1), .val (.int (3 : Int32)), .val (.int (1 : Int32)), .val (.ref w_NotSupported), .val (.ref b0_41), .val (.int (0 : Int32)), .val (.int (0 : Int32)), .val (.ref w_NONE)] [(.int (1 : Int32))]) (fun _ kk => XS.iconst X44.here hx rfl (hb hby at_169) kk) ?_
      refine ob T44 (mkF mG 174 #[.val (.int p0), .val (.int p1), .val (.int (3 : Int32)), .val (.int (1 : Int32)), .val (.ref w_NotSupported), .val (.ref b0_41), .val (.int (0 : Int32)), .val (.int (0 : Int32)), .val (.ref w_NONE)] [(.int (1 : Int32))]) (fun _ kk => XS.goto X44.here hx rfl (pc0 := 170) (pc' := 174) rfl (hb hby at_170) (by decide) (by decide) kk) ?_
      obtain ⟨fs, hr, hrun, hended, hW, hsame⟩ := X44.leave (v := some (.int (1 : Int32))) (fun h => by rw [Bd.returns] at h; cases h)
      refine oout (retN X44 hx (t := .boolean) Bd.returns (by simp) (hb hby at_174) hr) hrun hended ⟨_, _, rfl, ?_, ⟨_, rfl⟩, hW, hsame.mono (by decide) (by decide)⟩
      show Q_rm0 Z w_Required w_RECEIVED w_NotSupported w_NONE w_RequiresNew w_NEW w_Mandatory w_BeanManaged w_Never w_Supports w_EMPTY p0 p1 h0 n0 _ T44.heap _
      rw [e44]
      exact ⟨rfl, N44⟩
  · skip
    show oGo pG eG belowG _ s₁ (mkF mG 8 #[.val (.int p0), .val (.int p1), .val (.int (4 : Int32)), .unset, .unset, .unset, .unset, .unset, .unset] [])
    refine ob s₁ (mkF mG 9 #[.val (.int p0), .val (.int p1), .val (.int (4 : Int32)), .unset, .unset, .unset, .unset, .unset, .unset] [(.int p1)]) (fun _ kk => XS.iloadN X0.here hx rfl (hb hby at_8) rfl kk) ?_
    refine ob s₁ (mkF mG 10 #[.val (.int p0), .val (.int p1), .val (.int (4 : Int32)), .unset, .unset, .unset, .unset, .unset, .unset] [(.int (1 : Int32)), (.int p1)]) (fun _ kk => XS.iconst X0.here hx rfl (hb hby at_9) kk) ?_
    refine ob s₁ (mkF mG 11 #[.val (.int p0), .val (.int p1), .val (.int (4 : Int32)), .unset, .unset, .unset, .unset, .unset, .unset] [(.int (p1 &&& (1 : Int32)))]) (fun _ kk => XS.iand X0.here hx rfl (hb hby at_10) rfl kk) ?_
    by_cases hc45 : (p1 &&& (1 : Int32)) = (0 : Int32)
    · skip
      refine ob s₁ (mkF mG 18 #[.val (.int p0), .val (.int p1), .val (.int (4 : Int32)), .unset, .unset, .unset, .unset, .unset, .unset] []) (fun _ kk => XS.ifYes X0.here hx rfl (pc0 := 11) (pc' := 18) rfl (hb hby at_11) rfl ((if0 _ _).trans (teq hc45).1) (by decide) (by decide) kk) ?_
      refine ob s₁ (mkF mG 19 #[.val (.int p0), .val (.int p1), .val (.int (4 : Int32)), .unset, .unset, .unset, .unset, .unset, .unset] [(.int (0 : Int32))]) (fun _ kk => XS.iconst X0.here hx rfl (hb hby at_18) kk) ?_
      refine ob s₁ (mkF mG 20 #[.val (.int p0), .val (.int p1), .val (.int (4 : Int32)), .val (.int (0 : Int32)), .unset, .unset, .unset, .unset, .unset] []) (fun _ kk => XS.istoreN X0.here hx rfl (hb hby at_19) rfl (l' := #[.val (.int p0), .val (.int p1), .val (.int (4 : Int32)), .val (.int (0 : Int32)), .unset, .unset, .unset, .unset, .unset]) rfl kk) ?_
      refine ob s₁ (mkF mG 21 #[.val (.int p0), .val (.int p1), .val (.int (4 : Int32)), .val (.int (0 : Int32)), .unset, .unset, .unset, .unset, .unset] [(.int (4 : Int32))]) (fun _ kk => XS.iloadN X0.here hx rfl (hb hby at_20) rfl kk) ?_
      obtain ⟨_, _, ⟨T46, L46, k46, n46⟩, -, X46, ⟨Lc46, hQ46, l46, y46, z46⟩, st46⟩ := Jvm.LawKit.callS X0 hx (y := (⟨"com/example/vorgang/vorgang/model/PolicyApplyPinLaw", "pick", "(I)Lcom/example/vorgang/vorgang/model/Policy;"⟩ : MethodName)) hown (mvT hZ (ow hw 1 rfl)) (mvT hZ (ow hw 2 rfl)) (mvT hZ (ow hw 3 rfl)) (mvT hZ (ow hw 4 rfl)) (by decide) (backOf (W := 0) (rm_pick4 l Z a0 hw [] w_Required w_RECEIVED w_NotSupported w_NONE w_RequiresNew w_NEW w_Mandatory w_BeanManaged w_Never w_Supports w_EMPTY  h0 n0 O0 hS ) hZ (ow hw 4 rfl) (ow hw 3 rfl) (by decide) (by decide)) (g := (mkF mG 21 #[.val (.int p0), .val (.int p1), .val (.int (4 : Int32)), .val (.int (0 : Int32)), .unset, .unset, .unset, .unset, .unset] [(.int (4 : Int32))])) rfl (by rw [hml]; rfl) (argsL := [(.int (4 : Int32))]) (rest := []) (lenOf pd_3 rfl) rfl (by show 2 * 0 + _ ≤ _; exact Nat.le_of_eq rfl) (hb hby at_21) (fun _ _ => ⟨rfl, e0, (by decide : 0 + 0 ≤ _), (by decide : 0 + 0 ≤ _)⟩)
      dsimp only [Pt.U, Pt.locs, Pt.cells, Pt.slots] at X46 l46 y46 z46 st46 hQ46
      subst l46 y46 z46
      obtain ⟨rfl, N46q, e46⟩ := hQ46
      have N46 := Fr.app N0 N46q
      refine ob T46 (mkF mG 24 #[.val (.int p0), .val (.int p1), .val (.int (4 : Int32)), .val (.int (0 : Int32)), .unset, .unset, .unset, .unset, .unset] [(.ref w_Mandatory)]) (fun _ kk => st46 _ kk) ?_
      refine ob T46 (mkF mG 26 #[.val (.int p0), .val (.int p1), .val (.int (4 : Int32)), .val (.int (0 : Int32)), .val (.ref w_Mandatory), .unset, .unset, .unset, .unset] []) (fun _ kk => XS.astore X46.here hx rfl (hb hby at_24) rfl rfl (l' := #[.val (.int p0), .val (.int p1), .val (.int (4 : Int32)), .val (.int (0 : Int32)), .val (.ref w_Mandatory), .unset, .unset, .unset, .unset]) rfl kk) ?_
      refine ob T46 (mkF mG 28 #[.val (.int p0), .val (.int p1), .val (.int (4 : Int32)), .val (.int (0 : Int32)), .val (.ref w_Mandatory), .unset, .unset, .unset, .unset] [(.ref w_Mandatory)]) (fun _ kk => XS.aload X46.here hx rfl (hb hby at_26) rfl rfl kk) ?_
      refine ob T46 (mkF mG 29 #[.val (.int p0), .val (.int p1), .val (.int (4 : Int32)), .val (.int (0 : Int32)), .val (.ref w_Mandatory), .unset, .unset, .unset, .unset] [(.int (0 : Int32)), (.ref w_Mandatory)]) (fun _ kk => XS.iloadN X46.here hx rfl (hb hby at_28) rfl kk) ?_
      obtain ⟨cq47, kq47, q47a, q47b, q47c⟩ := isOf hZ e46 (E_w_Mandatory.ext O0.2)
      obtain ⟨_, _, ⟨T47, L47, k47, n47⟩, -, X47, ⟨Lc47, hQ47, l47, y47, z47⟩, st47⟩ := X46.virtualBack hx (y := (⟨"com/example/vorgang/vorgang/model/Policy", "apply", "(Z)Ljava/util/Optional;"⟩ : MethodName)) (z := (⟨"com/example/vorgang/vorgang/model/Policy", "apply", "(Z)Ljava/util/Optional;"⟩ : MethodName)) hown (mvT hZ (ow hw 8 rfl)) (mvT hZ (ow hw 9 rfl)) (notFace_of_selects (args := #[]) (mvT hZ (ow hw 11 rfl))) (mvT hZ (ow hw 11 rfl)) (mvT hZ (ow hw 10 rfl)) (by decide) (backOf (W := 0) (rm_ap4_0 l Z a0 hw [] w_Required w_RECEIVED w_NotSupported w_NONE w_RequiresNew w_NEW w_Mandatory w_BeanManaged w_Never w_Supports w_EMPTY  h0 n0 O0 hS ) hZ (ow hw 12 rfl) (ow hw 6 rfl) (by decide) (by decide)) q47a q47c (g := (mkF mG 29 #[.val (.int p0), .val (.int p1), .val (.int (4 : Int32)), .val (.int (0 : Int32)), .val (.ref w_Mandatory), .unset, .unset, .unset, .unset] [(.int (0 : Int32)), (.ref w_Mandatory)])) rfl (by rw [hml]; rfl) (Steps.refl _) (argsL := [(.int (0 : Int32))]) (rest := []) (lenOf pd_4 rfl) rfl (by show 2 * 0 + _ ≤ _; exact Nat.le_of_eq rfl) (hb hby at_29) (fun _ _ => ⟨rfl, e46, (by decide : 0 + 0 ≤ _), (by decide : 0 + 0 ≤ _)⟩)
      dsimp only [Pt.U, Pt.locs, Pt.cells, Pt.slots] at X47 l47 y47 z47 st47 hQ47
      subst l47 y47 z47
      obtain ⟨rfl, N47q, e47⟩ := hQ47
      have N47 := Fr.app N46 N47q
      refine ob T47 (mkF mG 32 #[.val (.int p0), .val (.int p1), .val (.int (4 : Int32)), .val (.int (0 : Int32)), .val (.ref w_Mandatory), .unset, .unset, .unset, .unset] [(.ref w_EMPTY)]) (fun _ kk => st47.trans kk) ?_
      refine ob T47 (mkF mG 34 #[.val (.int p0), .val (.int p1), .val (.int (4 : Int32)), .val (.int (0 : Int32)), .val (.ref w_Mandatory), .val (.ref w_EMPTY), .unset, .unset, .unset] []) (fun _ kk => XS.astore X47.here hx rfl (hb hby at_32) rfl rfl (l' := #[.val (.int p0), .val (.int p1), .val (.int (4 : Int32)), .val (.int (0 : Int32)), .val (.ref w_Mandatory), .val (.ref w_EMPTY), .unset, .unset, .unset]) rfl kk) ?_
      refine ob T47 (mkF mG 36 #[.val (.int p0), .val (.int p1), .val (.int (4 : Int32)), .val (.int (0 : Int32)), .val (.ref w_Mandatory), .val (.ref w_EMPTY), .unset, .unset, .unset] [(.ref w_EMPTY)]) (fun _ kk => XS.aload X47.here hx rfl (hb hby at_34) rfl rfl kk) ?_
      refine ob T47 (mkF mG 41 #[.val (.int p0), .val (.int p1), .val (.int (4 : Int32)), .val (.int (0 : Int32)), .val (.ref w_Mandatory), .val (.ref w_EMPTY), .unset, .unset, .unset] []) (fun _ kk => XS.ifnonnullYes X47.here hx rfl (pc0 := 36) (pc' := 41) rfl (hb hby at_36) rfl (by decide) (by decide) kk) ?_
      refine ob T47 (mkF mG 42 #[.val (.int p0), .val (.int p1), .val (.int (4 : Int32)), .val (.int (0 : Int32)), .val (.ref w_Mandatory), .val (.ref w_EMPTY), .unset, .unset, .unset] [(.int (4 : Int32))]) (fun _ kk => XS.iloadN X47.here hx rfl (hb hby at_41) rfl kk) ?_
      refine ob T47 (mkF mG 43 #[.val (.int p0), .val (.int p1), .val (.int (4 : Int32)), .val (.int (0 : Int32)), .val (.ref w_Mandatory), .val (.ref w_EMPTY), .unset, .unset, .unset] [(.int (4 : Int32)), (.int (4 : Int32))]) (fun _ kk => XS.iconst X47.here hx rfl (hb hby at_42) kk) ?_
      refine ob T47 (mkF mG 46 #[.val (.int p0), .val (.int p1), .val (.int (4 : Int32)), .val (.int (0 : Int32)), .val (.ref w_Mandatory), .val (.ref w_EMPTY), .unset, .unset, .unset] []) (fun _ kk => XS.icmpNo X47.here hx rfl (hb hby at_43) rfl (teq (by decide : (4 : Int32) = (4 : Int32))).2 kk) ?_
      refine ob T47 (mkF mG 47 #[.val (.int p0), .val (.int p1), .val (.int (4 : Int32)), .val (.int (0 : Int32)), .val (.ref w_Mandatory), .val (.ref w_EMPTY), .unset, .unset, .unset] [(.int (0 : Int32))]) (fun _ kk => XS.iloadN X47.here hx rfl (hb hby at_46) rfl kk) ?_
      refine ob T47 (mkF mG 59 #[.val (.int p0), .val (.int p1), .val (.int (4 : Int32)), .val (.int (0 : Int32)), .val (.ref w_Mandatory), .val (.ref w_EMPTY), .unset, .unset, .unset] []) (fun _ kk => XS.ifYes X47.here hx rfl (pc0 := 47) (pc' := 59) rfl (hb hby at_47) rfl ((if0 _ _).trans (teq (by decide : (0 : Int32) = (0 : Int32))).1) (by decide) (by decide) kk) ?_
      refine ob T47 (mkF mG 60 #[.val (.int p0), .val (.int p1), .val (.int (4 : Int32)), .val (.int (0 : Int32)), .val (.ref w_Mandatory), .val (.ref w_EMPTY), .unset, .unset, .unset] [(.int (1 : Int32))]) (fun _ kk => XS.iconst X47.here hx rfl (hb hby at_59) kk) ?_
      refine ob T47 (mkF mG 64 #[.val (.int p0), .val (.int p1), .val (.int (4 : Int32)), .val (.int (0 : Int32)), .val (.ref w_Mandatory), .val (.ref w_EMPTY), .unset, .unset, .unset] [(.int (1 : Int32))]) (fun _ kk => XS.goto X47.here hx rfl (pc0 := 60) (pc' := 64) rfl (hb hby at_60) (by decide) (by decide) kk) ?_
      refine ob T47 (mkF mG 66 #[.val (.int p0), .val (.int p1), .val (.int (4 : Int32)), .val (.int (0 : Int32)), .val (.ref w_Mandatory), .val (.ref w_EMPTY), .val (.int (1 : Int32)), .unset, .unset] []) (fun _ kk => XS.istore X47.here hx rfl (hb hby at_64) rfl (l' := #[.val (.int p0), .val (.int p1), .val (.int (4 : Int32)), .val (.int (0 : Int32)), .val (.ref w_Mandatory), .val (.ref w_EMPTY), .val (.int (1 : Int32)), .unset, .unset]) rfl kk) ?_
      refine ob T47 (mkF mG 68 #[.val (.int p0), .val (.int p1), .val (.int (4 : Int32)), .val (.int (0 : Int32)), .val (.ref w_Mandatory), .val (.ref w_EMPTY), .val (.int (1 : Int32)), .unset, .unset] [(.int (1 : Int32))]) (fun _ kk => XS.iload X47.here hx rfl (hb hby at_66) rfl kk) ?_
      refine ob T47 (mkF mG 71 #[.val (.int p0), .val (.int p1), .val (.int (4 : Int32)), .val (.int (0 : Int32)), .val (.ref w_Mandatory), .val (.ref w_EMPTY), .val (.int (1 : Int32)), .unset, .unset] []) (fun _ kk => XS.ifNo X47.here hx rfl (hb hby at_68) rfl ((if0 _ _).trans (feq (by decide : ¬ ((1 : Int32) = (0 : Int32)))).1) kk) ?_
      refine ob T47 (mkF mG 73 #[.val (.int p0), .val (.int p1), .val (.int (4 : Int32)), .val (.int (0 : Int32)), .val (.ref w_Mandatory), .val (.ref w_EMPTY), .val (.int (1 : Int32)), .unset, .unset] [(.ref w_EMPTY)]) (fun _ kk => XS.aload X47.here hx rfl (hb hby at_71) rfl rfl kk) ?_
      obtain ⟨cq48, kq48, q48a, q48b, q48c⟩ := isOf hZ e47 (E_w_EMPTY.ext O0.2)
      obtain ⟨_, _, ⟨T48, L48, k48, n48⟩, -, X48, ⟨Lc48, hQ48, l48, y48, z48⟩, st48⟩ := X47.virtualBack hx (y := (⟨"java/util/Optional", "isPresent", "()Z"⟩ : MethodName)) (z := (⟨"java/util/Optional", "isPresent", "()Z"⟩ : MethodName)) hown (mvT hZ (ow hw 40 rfl)) (mvT hZ (ow hw 41 rfl)) (notFace_of_selects (args := #[]) (mvT hZ (ow hw 43 rfl))) (mvT hZ (ow hw 43 rfl)) (mvT hZ (ow hw 42 rfl)) (by decide) (backOf (W := 0) (rm_ipE l Z a0 hw [] w_Required w_RECEIVED w_NotSupported w_NONE w_RequiresNew w_NEW w_Mandatory w_BeanManaged w_Never w_Supports w_EMPTY  h0 n0 O0 hS ) hZ (ow hw 44 rfl) (ow hw 27 rfl) (by decide) (by decide)) q48a q48c (g := (mkF mG 73 #[.val (.int p0), .val (.int p1), .val (.int (4 : Int32)), .val (.int (0 : Int32)), .val (.ref w_Mandatory), .val (.ref w_EMPTY), .val (.int (1 : Int32)), .unset, .unset] [(.ref w_EMPTY)])) rfl (by rw [hml]; rfl) (Steps.refl _) (argsL := []) (rest := []) (lenOf pd_5 rfl) rfl (by show 2 * 0 + _ ≤ _; exact Nat.le_of_eq rfl) (hb hby at_73) (fun _ _ => ⟨rfl, e47, (by decide : 0 + 0 ≤ _), (by decide : 0 + 0 ≤ _)⟩)
      dsimp only [Pt.U, Pt.locs, Pt.cells, Pt.slots] at X48 l48 y48 z48 st48 hQ48
      subst l48 y48 z48
      obtain ⟨rfl, N48q, e48⟩ := hQ48
      have N48 := Fr.app N47 N48q
      refine ob T48 (mkF mG 76 #[.val (.int p0), .val (.int p1), .val (.int (4 : Int32)), .val (.int (0 : Int32)), .val (.ref w_Mandatory), .val (.ref w_EMPTY), .val (.int (1 : Int32)), .unset, .unset] [(.int (0 : Int32))]) (fun _ kk => st48.trans kk) ?_
      refine ob T48 (mkF mG 79 #[.val (.int p0), .val (.int p1), .val (.int (4 : Int32)), .val (.int (0 : Int32)), .val (.ref w_Mandatory), .val (.ref w_EMPTY), .val (.int (1 : Int32)), .unset, .unset] []) (fun _ kk => XS.ifNo X48.here hx rfl (hb hby at_76) rfl ((if0 _ _).trans (teq (by decide : (0 : Int32) = (0 : Int32))).2) kk) ?_
      refine ob T48 (mkF mG 80 #[.val (.int p0), .val (.int p1), .val (.int (4 : Int32)), .val (.int (0 : Int32)), .val (.ref w_Mandatory), .val (.ref w_EMPTY), .val (.int (1 : Int32)), .unset, .unset] [(.int (1 : Int32))]) (fun _ kk => XS.iconst X48.here hx rfl (hb hby at_79) kk) ?_
      refine ob T48 (mkF mG 84 #[.val (.int p0), .val (.int p1), .val (.int (4 : Int32)), .val (.int (0 : Int32)), .val (.ref w_Mandatory), .val (.ref w_EMPTY), .val (.int (1 : Int32)), .unset, .unset] [(.int (1 : Int32))]) (fun _ kk => XS.goto X48.here hx rfl (pc0 := 80) (pc' := 84) rfl (hb hby at_80) (by decide) (by decide) kk) ?_
      obtain ⟨fs, hr, hrun, hended, hW, hsame⟩ := X48.leave (v := some (.int (1 : Int32))) (fun h => by rw [Bd.returns] at h; cases h)
      refine oout (retN X48 hx (t := .boolean) Bd.returns (by simp) (hb hby at_84) hr) hrun hended ⟨_, _, rfl, ?_, ⟨_, rfl⟩, hW, hsame.mono (by decide) (by decide)⟩
      show Q_rm0 Z w_Required w_RECEIVED w_NotSupported w_NONE w_RequiresNew w_NEW w_Mandatory w_BeanManaged w_Never w_Supports w_EMPTY p0 p1 h0 n0 _ T48.heap _
      rw [e48]
      exact ⟨rfl, N48⟩
    · skip
      refine ob s₁ (mkF mG 14 #[.val (.int p0), .val (.int p1), .val (.int (4 : Int32)), .unset, .unset, .unset, .unset, .unset, .unset] []) (fun _ kk => XS.ifNo X0.here hx rfl (hb hby at_11) rfl ((if0 _ _).trans (feq hc45).1) kk) ?_
      refine ob s₁ (mkF mG 15 #[.val (.int p0), .val (.int p1), .val (.int (4 : Int32)), .unset, .unset, .unset, .unset, .unset, .unset] [(.int (1 : Int32))]) (fun _ kk => XS.iconst X0.here hx rfl (hb hby at_14) kk) ?_
      refine ob s₁ (mkF mG 19 #[.val (.int p0), .val (.int p1), .val (.int (4 : Int32)), .unset, .unset, .unset, .unset, .unset, .unset] [(.int (1 : Int32))]) (fun _ kk => XS.goto X0.here hx rfl (pc0 := 15) (pc' := 19) rfl (hb hby at_15) (by decide) (by decide) kk) ?_
      refine ob s₁ (mkF mG 20 #[.val (.int p0), .val (.int p1), .val (.int (4 : Int32)), .val (.int (1 : Int32)), .unset, .unset, .unset, .unset, .unset] []) (fun _ kk => XS.istoreN X0.here hx rfl (hb hby at_19) rfl (l' := #[.val (.int p0), .val (.int p1), .val (.int (4 : Int32)), .val (.int (1 : Int32)), .unset, .unset, .unset, .unset, .unset]) rfl kk) ?_
      refine ob s₁ (mkF mG 21 #[.val (.int p0), .val (.int p1), .val (.int (4 : Int32)), .val (.int (1 : Int32)), .unset, .unset, .unset, .unset, .unset] [(.int (4 : Int32))]) (fun _ kk => XS.iloadN X0.here hx rfl (hb hby at_20) rfl kk) ?_
      obtain ⟨_, _, ⟨T49, L49, k49, n49⟩, -, X49, ⟨Lc49, hQ49, l49, y49, z49⟩, st49⟩ := Jvm.LawKit.callS X0 hx (y := (⟨"com/example/vorgang/vorgang/model/PolicyApplyPinLaw", "pick", "(I)Lcom/example/vorgang/vorgang/model/Policy;"⟩ : MethodName)) hown (mvT hZ (ow hw 1 rfl)) (mvT hZ (ow hw 2 rfl)) (mvT hZ (ow hw 3 rfl)) (mvT hZ (ow hw 4 rfl)) (by decide) (backOf (W := 0) (rm_pick4 l Z a0 hw [] w_Required w_RECEIVED w_NotSupported w_NONE w_RequiresNew w_NEW w_Mandatory w_BeanManaged w_Never w_Supports w_EMPTY  h0 n0 O0 hS ) hZ (ow hw 4 rfl) (ow hw 3 rfl) (by decide) (by decide)) (g := (mkF mG 21 #[.val (.int p0), .val (.int p1), .val (.int (4 : Int32)), .val (.int (1 : Int32)), .unset, .unset, .unset, .unset, .unset] [(.int (4 : Int32))])) rfl (by rw [hml]; rfl) (argsL := [(.int (4 : Int32))]) (rest := []) (lenOf pd_3 rfl) rfl (by show 2 * 0 + _ ≤ _; exact Nat.le_of_eq rfl) (hb hby at_21) (fun _ _ => ⟨rfl, e0, (by decide : 0 + 0 ≤ _), (by decide : 0 + 0 ≤ _)⟩)
      dsimp only [Pt.U, Pt.locs, Pt.cells, Pt.slots] at X49 l49 y49 z49 st49 hQ49
      subst l49 y49 z49
      obtain ⟨rfl, N49q, e49⟩ := hQ49
      have N49 := Fr.app N0 N49q
      refine ob T49 (mkF mG 24 #[.val (.int p0), .val (.int p1), .val (.int (4 : Int32)), .val (.int (1 : Int32)), .unset, .unset, .unset, .unset, .unset] [(.ref w_Mandatory)]) (fun _ kk => st49 _ kk) ?_
      refine ob T49 (mkF mG 26 #[.val (.int p0), .val (.int p1), .val (.int (4 : Int32)), .val (.int (1 : Int32)), .val (.ref w_Mandatory), .unset, .unset, .unset, .unset] []) (fun _ kk => XS.astore X49.here hx rfl (hb hby at_24) rfl rfl (l' := #[.val (.int p0), .val (.int p1), .val (.int (4 : Int32)), .val (.int (1 : Int32)), .val (.ref w_Mandatory), .unset, .unset, .unset, .unset]) rfl kk) ?_
      refine ob T49 (mkF mG 28 #[.val (.int p0), .val (.int p1), .val (.int (4 : Int32)), .val (.int (1 : Int32)), .val (.ref w_Mandatory), .unset, .unset, .unset, .unset] [(.ref w_Mandatory)]) (fun _ kk => XS.aload X49.here hx rfl (hb hby at_26) rfl rfl kk) ?_
      refine ob T49 (mkF mG 29 #[.val (.int p0), .val (.int p1), .val (.int (4 : Int32)), .val (.int (1 : Int32)), .val (.ref w_Mandatory), .unset, .unset, .unset, .unset] [(.int (1 : Int32)), (.ref w_Mandatory)]) (fun _ kk => XS.iloadN X49.here hx rfl (hb hby at_28) rfl kk) ?_
      obtain ⟨cq50, kq50, q50a, q50b, q50c⟩ := isOf hZ e49 (E_w_Mandatory.ext O0.2)
      obtain ⟨_, _, ⟨T50, L50, k50, n50⟩, -, X50, ⟨Lc50, hQ50, l50, y50, z50⟩, st50⟩ := X49.virtualBack hx (y := (⟨"com/example/vorgang/vorgang/model/Policy", "apply", "(Z)Ljava/util/Optional;"⟩ : MethodName)) (z := (⟨"com/example/vorgang/vorgang/model/Policy", "apply", "(Z)Ljava/util/Optional;"⟩ : MethodName)) hown (mvT hZ (ow hw 8 rfl)) (mvT hZ (ow hw 9 rfl)) (notFace_of_selects (args := #[]) (mvT hZ (ow hw 11 rfl))) (mvT hZ (ow hw 11 rfl)) (mvT hZ (ow hw 10 rfl)) (by decide) (backOf (W := 0) (rm_ap4_1 l Z a0 hw [] w_Required w_RECEIVED w_NotSupported w_NONE w_RequiresNew w_NEW w_Mandatory w_BeanManaged w_Never w_Supports w_EMPTY  h0 n0 O0 hS ) hZ (ow hw 12 rfl) (ow hw 6 rfl) (by decide) (by decide)) q50a q50c (g := (mkF mG 29 #[.val (.int p0), .val (.int p1), .val (.int (4 : Int32)), .val (.int (1 : Int32)), .val (.ref w_Mandatory), .unset, .unset, .unset, .unset] [(.int (1 : Int32)), (.ref w_Mandatory)])) rfl (by rw [hml]; rfl) (Steps.refl _) (argsL := [(.int (1 : Int32))]) (rest := []) (lenOf pd_4 rfl) rfl (by show 2 * 0 + _ ≤ _; exact Nat.le_of_eq rfl) (hb hby at_29) (fun _ _ => ⟨rfl, e49, (by decide : 0 + 1 ≤ _), (by decide : 0 + 1 ≤ _)⟩)
      dsimp only [Pt.U, Pt.locs, Pt.cells, Pt.slots] at X50 l50 y50 z50 st50 hQ50
      subst l50 y50 z50
      obtain ⟨h50, e50⟩ : ∃ h, T50.heap = h := ⟨_, rfl⟩
      rw [e50] at hQ50
      obtain ⟨b0_50, rfl, N50q, K50q, O50, n_b0_50, z_b0_50, F50_0, F50_1⟩ := hQ50
      have N50 := Fr.app N49 N50q
      have sz_b0_50 : h0.size ≤ b0_50 := Nat.le_trans K0.1 z_b0_50
      have K50 := K0.trans K50q all0
      refine ob T50 (mkF mG 32 #[.val (.int p0), .val (.int p1), .val (.int (4 : Int32)), .val (.int (1 : Int32)), .val (.ref w_Mandatory), .unset, .unset, .unset, .unset] [(.ref b0_50)]) (fun _ kk => st50.trans kk) ?_
      refine ob T50 (mkF mG 34 #[.val (.int p0), .val (.int p1), .val (.int (4 : Int32)), .val (.int (1 : Int32)), .val (.ref w_Mandatory), .val (.ref b0_50), .unset, .unset, .unset] []) (fun _ kk => XS.astore X50.here hx rfl (hb hby at_32) rfl rfl (l' := #[.val (.int p0), .val (.int p1), .val (.int (4 : Int32)), .val (.int (1 : Int32)), .val (.ref w_Mandatory), .val (.ref b0_50), .unset, .unset, .unset]) rfl kk) ?_
      refine ob T50 (mkF mG 36 #[.val (.int p0), .val (.int p1), .val (.int (4 : Int32)), .val (.int (1 : Int32)), .val (.ref w_Mandatory), .val (.ref b0_50), .unset, .unset, .unset] [(.ref b0_50)]) (fun _ kk => XS.aload X50.here hx rfl (hb hby at_34) rfl rfl kk) ?_
      refine ob T50 (mkF mG 41 #[.val (.int p0), .val (.int p1), .val (.int (4 : Int32)), .val (.int (1 : Int32)), .val (.ref w_Mandatory), .val (.ref b0_50), .unset, .unset, .unset] []) (fun _ kk => XS.ifnonnullYes X50.here hx rfl (pc0 := 36) (pc' := 41) rfl (hb hby at_36) rfl (by decide) (by decide) kk) ?_
      refine ob T50 (mkF mG 42 #[.val (.int p0), .val (.int p1), .val (.int (4 : Int32)), .val (.int (1 : Int32)), .val (.ref w_Mandatory), .val (.ref b0_50), .unset, .unset, .unset] [(.int (4 : Int32))]) (fun _ kk => XS.iloadN X50.here hx rfl (hb hby at_41) rfl kk) ?_
      refine ob T50 (mkF mG 43 #[.val (.int p0), .val (.int p1), .val (.int (4 : Int32)), .val (.int (1 : Int32)), .val (.ref w_Mandatory), .val (.ref b0_50), .unset, .unset, .unset] [(.int (4 : Int32)), (.int (4 : Int32))]) (fun _ kk => XS.iconst X50.here hx rfl (hb hby at_42) kk) ?_
      refine ob T50 (mkF mG 46 #[.val (.int p0), .val (.int p1), .val (.int (4 : Int32)), .val (.int (1 : Int32)), .val (.ref w_Mandatory), .val (.ref b0_50), .unset, .unset, .unset] []) (fun _ kk => XS.icmpNo X50.here hx rfl (hb hby at_43) rfl (teq (by decide : (4 : Int32) = (4 : Int32))).2 kk) ?_
      refine ob T50 (mkF mG 47 #[.val (.int p0), .val (.int p1), .val (.int (4 : Int32)), .val (.int (1 : Int32)), .val (.ref w_Mandatory), .val (.ref b0_50), .unset, .unset, .unset] [(.int (1 : Int32))]) (fun _ kk => XS.iloadN X50.here hx rfl (hb hby at_46) rfl kk) ?_
      refine ob T50 (mkF mG 50 #[.val (.int p0), .val (.int p1), .val (.int (4 : Int32)), .val (.int (1 : Int32)), .val (.ref w_Mandatory), .val (.ref b0_50), .unset, .unset, .unset] []) (fun _ kk => XS.ifNo X50.here hx rfl (hb hby at_47) rfl ((if0 _ _).trans (feq (by decide : ¬ ((1 : Int32) = (0 : Int32)))).1) kk) ?_
      refine ob T50 (mkF mG 51 #[.val (.int p0), .val (.int p1), .val (.int (4 : Int32)), .val (.int (1 : Int32)), .val (.ref w_Mandatory), .val (.ref b0_50), .unset, .unset, .unset] [(.int (4 : Int32))]) (fun _ kk => XS.iloadN X50.here hx rfl (hb hby at_50) rfl kk) ?_
      refine ob T50 (mkF mG 52 #[.val (.int p0), .val (.int p1), .val (.int (4 : Int32)), .val (.int (1 : Int32)), .val (.ref w_Mandatory), .val (.ref b0_50), .unset, .unset, .unset] [(.int (5 : Int32)), (.int (4 : Int32))]) (fun _ kk => XS.iconst X50.here hx rfl (hb hby at_51) kk) ?_
      refine ob T50 (mkF mG 63 #[.val (.int p0), .val (.int p1), .val (.int (4 : Int32)), .val (.int (1 : Int32)), .val (.ref w_Mandatory), .val (.ref b0_50), .unset, .unset, .unset] []) (fun _ kk => XS.icmpYes X50.here hx rfl (pc0 := 52) (pc' := 63) rfl (hb hby at_52) rfl (feq (by decide : ¬ ((4 : Int32) = (5 : Int32)))).2 (by decide) (by decide) kk) ?_
      refine ob T50 (mkF mG 64 #[.val (.int p0), .val (.int p1), .val (.int (4 : Int32)), .val (.int (1 : Int32)), .val (.ref w_Mandatory), .val (.ref b0_50), .unset, .unset, .unset] [(.int (0 : Int32))]) (fun _ kk => XS.iconst X50.here hx rfl (hb hby at_63) kk) ?_
      refine ob T50 (mkF mG 66 #[.val (.int p0), .val (.int p1), .val (.int (4 : Int32)), .val (.int (1 : Int32)), .val (.ref w_Mandatory), .val (.ref b0_50), .val (.int (0 : Int32)), .unset, .unset] []) (fun _ kk => XS.istore X50.here hx rfl (hb hby at_64) rfl (l' := #[.val (.int p0), .val (.int p1), .val (.int (4 : Int32)), .val (.int (1 : Int32)), .val (.ref w_Mandatory), .val (.ref b0_50), .val (.int (0 : Int32)), .unset, .unset]) rfl kk) ?_
      refine ob T50 (mkF mG 68 #[.val (.int p0), .val (.int p1), .val (.int (4 : Int32)), .val (.int (1 : Int32)), .val (.ref w_Mandatory), .val (.ref b0_50), .val (.int (0 : Int32)), .unset, .unset] [(.int (0 : Int32))]) (fun _ kk => XS.iload X50.here hx rfl (hb hby at_66) rfl kk) ?_
      refine ob T50 (mkF mG 85 #[.val (.int p0), .val (.int p1), .val (.int (4 : Int32)), .val (.int (1 : Int32)), .val (.ref w_Mandatory), .val (.ref b0_50), .val (.int (0 : Int32)), .unset, .unset] []) (fun _ kk => XS.ifYes X50.here hx rfl (pc0 := 68) (pc' := 85) rfl (hb hby at_68) rfl ((if0 _ _).trans (teq (by decide : (0 : Int32) = (0 : Int32))).1) (by decide) (by decide) kk) ?_
      refine ob T50 (mkF mG 87 #[.val (.int p0), .val (.int p1), .val (.int (4 : Int32)), .val (.int (1 : Int32)), .val (.ref w_Mandatory), .val (.ref b0_50), .val (.int (0 : Int32)), .unset, .unset] [(.ref b0_50)]) (fun _ kk => XS.aload X50.here hx rfl (hb hby at_85) rfl rfl kk) ?_
      obtain ⟨cq51, kq51, q51a, q51b, q51c⟩ := isOf hZ e50 F50_0
      obtain ⟨_, _, ⟨T51, L51, k51, n51⟩, -, X51, ⟨Lc51, hQ51, l51, y51, z51⟩, st51⟩ := X50.virtualBack hx (y := (⟨"java/util/Optional", "isPresent", "()Z"⟩ : MethodName)) (z := (⟨"java/util/Optional", "isPresent", "()Z"⟩ : MethodName)) hown (mvT hZ (ow hw 40 rfl)) (mvT hZ (ow hw 41 rfl)) (notFace_of_selects (args := #[]) (mvT hZ (ow hw 43 rfl))) (mvT hZ (ow hw 43 rfl)) (mvT hZ (ow hw 42 rfl)) (by decide) (backOf (W := 0) (rm_ipS l Z a0 hw [] w_Required w_RECEIVED w_NotSupported w_NONE w_RequiresNew w_NEW w_Mandatory w_BeanManaged w_Never w_Supports w_EMPTY b0_50 w_RECEIVED h50 n0 O50 hS F50_1) hZ (ow hw 44 rfl) (ow hw 27 rfl) (by decide) (by decide)) q51a q51c (g := (mkF mG 87 #[.val (.int p0), .val (.int p1), .val (.int (4 : Int32)), .val (.int (1 : Int32)), .val (.ref w_Mandatory), .val (.ref b0_50), .val (.int (0 : Int32)), .unset, .unset] [(.ref b0_50)])) rfl (by rw [hml]; rfl) (Steps.refl _) (argsL := []) (rest := []) (lenOf pd_5 rfl) rfl (by show 2 * 0 + _ ≤ _; exact Nat.le_of_eq rfl) (hb hby at_87) (fun _ _ => ⟨rfl, e50, (by decide : 1 + 0 ≤ _), (by decide : 1 + 0 ≤ _)⟩)
      dsimp only [Pt.U, Pt.locs, Pt.cells, Pt.slots] at X51 l51 y51 z51 st51 hQ51
      subst l51 y51 z51
      obtain ⟨rfl, N51q, e51⟩ := hQ51
      have N51 := Fr.app N50 N51q
      refine ob T51 (mkF mG 90 #[.val (.int p0), .val (.int p1), .val (.int (4 : Int32)), .val (.int (1 : Int32)), .val (.ref w_Mandatory), .val (.ref b0_50), .val (.int (0 : Int32)), .unset, .unset] [(.int (1 : Int32))]) (fun _ kk => st51.trans kk) ?_
      refine ob T51 (mkF mG 95 #[.val (.int p0), .val (.int p1), .val (.int (4 : Int32)), .val (.int (1 : Int32)), .val (.ref w_Mandatory), .val (.ref b0_50), .val (.int (0 : Int32)), .unset, .unset] []) (fun _ kk => XS.ifYes X51.here hx rfl (pc0 := 90) (pc' := 95) rfl (hb hby at_90) rfl ((if0 _ _).trans (feq (by decide : ¬ ((1 : Int32) = (0 : Int32)))).2) (by decide) (by decide) kk) ?_
      refine ob T51 (mkF mG 96 #[.val (.int p0), .val (.int p1), .val (.int (4 : Int32)), .val (.int (1 : Int32)), .val (.ref w_Mandatory), .val (.ref b0_50), .val (.int (0 : Int32)), .unset, .unset] [(.int (1 : Int32))]) (fun _ kk => XS.iloadN X51.here hx rfl (hb hby at_95) rfl kk) ?_
      refine ob T51 (mkF mG 99 #[.val (.int p0), .val (.int p1), .val (.int (4 : Int32)), .val (.int (1 : Int32)), .val (.ref w_Mandatory), .val (.ref b0_50), .val (.int (0 : Int32)), .unset, .unset] []) (fun _ kk => XS.ifNo X51.here hx rfl (hb hby at_96) rfl ((if0 _ _).trans (feq (by decide : ¬ ((1 : Int32) = (0 : Int32)))).1) kk) ?_
      refine ob T51 (mkF mG 100 #[.val (.int p0), .val (.int p1), .val (.int (4 : Int32)), .val (.int (1 : Int32)), .val (.ref w_Mandatory), .val (.ref b0_50), .val (.int (0 : Int32)), .unset, .unset] [(.int (4 : Int32))]) (fun _ kk => XS.iloadN X51.here hx rfl (hb hby at_99) rfl kk) ?_
      refine ob T51 (mkF mG 103 #[.val (.int p0), .val (.int p1), .val (.int (4 : Int32)), .val (.int (1 : Int32)), .val (.ref w_Mandatory), .val (.ref b0_50), .val (.int (0 : Int32)), .unset, .unset] []) (fun _ kk => XS.ifNo X51.here hx rfl (hb hby at_100) rfl ((if0 _ _).trans (feq (by decide : ¬ ((4 : Int32) = (0 : Int32)))).1) kk) ?_
      refine ob T51 (mkF mG 104 #[.val (.int p0), .val (.int p1), .val (.int (4 : Int32)), .val (.int (1 : Int32)), .val (.ref w_Mandatory), .val (.ref b0_50), .val (.int (0 : Int32)), .unset, .unset] [(.int (4 : Int32))]) (fun _ kk => XS.iloadN X51.here hx rfl (hb hby at_103) rfl kk) ?_
      refine ob T51 (mkF mG 105 #[.val (.int p0), .val (.int p1), .val (.int (4 : Int32)), .val (.int (1 : Int32)), .val (.ref w_Mandatory), .val (.ref b0_50), .val (.int (0 : Int32)), .unset, .unset] [(.int (2 : Int32)), (.int (4 : Int32))]) (fun _ kk => XS.iconst X51.here hx rfl (hb hby at_104) kk) ?_
      refine ob T51 (mkF mG 108 #[.val (.int p0), .val (.int p1), .val (.int (4 : Int32)), .val (.int (1 : Int32)), .val (.ref w_Mandatory), .val (.ref b0_50), .val (.int (0 : Int32)), .unset, .unset] []) (fun _ kk => XS.icmpNo X51.here hx rfl (hb hby at_105) rfl (feq (by decide : ¬ ((4 : Int32) = (2 : Int32)))).1 kk) ?_
      refine ob T51 (mkF mG 109 #[.val (.int p0), .val (.int p1), .val (.int (4 : Int32)), .val (.int (1 : Int32)), .val (.ref w_Mandatory), .val (.ref b0_50), .val (.int (0 : Int32)), .unset, .unset] [(.int (4 : Int32))]) (fun _ kk => XS.iloadN X51.here hx rfl (hb hby at_108) rfl kk) ?_
      refine ob T51 (mkF mG 110 #[.val (.int p0), .val (.int p1), .val (.int (4 : Int32)), .val (.int (1 : Int32)), .val (.ref w_Mandatory), .val (.ref b0_50), .val (.int (0 : Int32)), .unset, .unset] [(.int (4 : Int32)), (.int (4 : Int32))]) (fun _ kk => XS.iconst X51.here hx rfl (hb hby at_109) kk) ?_
      refine ob T51 (mkF mG 113 #[.val (.int p0), .val (.int p1), .val (.int (4 : Int32)), .val (.int (1 : Int32)), .val (.ref w_Mandatory), .val (.ref b0_50), .val (.int (0 : Int32)), .unset, .unset] []) (fun _ kk => XS.icmpNo X51.here hx rfl (hb hby at_110) rfl (teq (by decide : (4 : Int32) = (4 : Int32))).2 kk) ?_
      refine ob T51 (mkF mG 114 #[.val (.int p0), .val (.int p1), .val (.int (4 : Int32)), .val (.int (1 : Int32)), .val (.ref w_Mandatory), .val (.ref b0_50), .val (.int (0 : Int32)), .unset, .unset] [(.int (1 : Int32))]) (fun _ kk => XS.iconst X51.here hx rfl (hb hby at_113) kk) ?_
      refine ob T51 (mkF mG 118 #[.val (.int p0), .val (.int p1), .val (.int (4 : Int32)), .val (.int (1 : Int32)), .val (.ref w_Mandatory), .val (.ref b0_50), .val (.int (0 : Int32)), .unset, .unset] [(.int (1 : Int32))]) (fun _ kk => XS.goto X51.here hx rfl (pc0 := 114) (pc' := 118) rfl (hb hby at_114) (by decide) (by decide) kk) ?_
      refine ob T51 (mkF mG 120 #[.val (.int p0), .val (.int p1), .val (.int (4 : Int32)), .val (.int (1 : Int32)), .val (.ref w_Mandatory), .val (.ref b0_50), .val (.int (0 : Int32)), .val (.int (1 : Int32)), .unset] []) (fun _ kk => XS.istore X51.here hx rfl (hb hby at_118) rfl (l' := #[.val (.int p0), .val (.int p1), .val (.int (4 : Int32)), .val (.int (1 : Int32)), .val (.ref w_Mandatory), .val (.ref b0_50), .val (.int (0 : Int32)), .val (.int (1 : Int32)), .unset]) rfl kk) ?_
      refine ob T51 (mkF mG 122 #[.val (.int p0), .val (.int p1), .val (.int (4 : Int32)), .val (.int (1 : Int32)), .val (.ref w_Mandatory), .val (.ref b0_50), .val (.int (0 : Int32)), .val (.int (1 : Int32)), .unset] [(.int (1 : Int32))]) (fun _ kk => XS.iload X51.here hx rfl (hb hby at_120) rfl kk) ?_
      refine ob T51 (mkF mG 125 #[.val (.int p0), .val (.int p1), .val (.int (4 : Int32)), .val (.int (1 : Int32)), .val (.ref w_Mandatory), .val (.ref b0_50), .val (.int (0 : Int32)), .val (.int (1 : Int32)), .unset] []) (fun _ kk => XS.ifNo X51.here hx rfl (hb hby at_122) rfl ((if0 _ _).trans (feq (by decide : ¬ ((1 : Int32) = (0 : Int32)))).1) kk) ?_
      obtain ⟨T52, X52, e52, st52⟩ := getS2 X51 hx hZ hown (host := "") (Or.inl (ow hw 45 rfl)) Via.refl e51 (S_w_RECEIVED.ext O50.2) (g := (mkF mG 125 #[.val (.int p0), .val (.int p1), .val (.int (4 : Int32)), .val (.int (1 : Int32)), .val (.ref w_Mandatory), .val (.ref b0_50), .val (.int (0 : Int32)), .val (.int (1 : Int32)), .unset] [])) rfl (hb hby at_125)
      refine ob T52 (mkF mG 128 #[.val (.int p0), .val (.int p1), .val (.int (4 : Int32)), .val (.int (1 : Int32)), .val (.ref w_Mandatory), .val (.ref b0_50), .val (.int (0 : Int32)), .val (.int (1 : Int32)), .unset] [(.ref w_RECEIVED)]) (fun _ kk => st52 _ kk) ?_
      refine ob T52 (mkF mG 130 #[.val (.int p0), .val (.int p1), .val (.int (4 : Int32)), .val (.int (1 : Int32)), .val (.ref w_Mandatory), .val (.ref b0_50), .val (.int (0 : Int32)), .val (.int (1 : Int32)), .val (.ref w_RECEIVED)] []) (fun _ kk => XS.astore X52.here hx rfl (hb hby at_128) rfl rfl (l' := #[.val (.int p0), .val (.int p1), .val (.int (4 : Int32)), .val (.int (1 : Int32)), .val (.ref w_Mandatory), .val (.ref b0_50), .val (.int (0 : Int32)), .val (.int (1 : Int32)), .val (.ref w_RECEIVED)]) rfl kk) ?_
      refine ob T52 (mkF mG 159 #[.val (.int p0), .val (.int p1), .val (.int (4 : Int32)), .val (.int (1 : Int32)), .val (.ref w_Mandatory), .val (.ref b0_50), .val (.int (0 : Int32)), .val (.int (1 : Int32)), .val (.ref w_RECEIVED)] []) (fun _ kk => XS.goto X52.here hx rfl (pc0 := 130) (pc' := 159) rfl (hb hby at_130) (by decide) (by decide) kk) ?_
      refine ob T52 (mkF mG 161 #[.val (.int p0), .val (.int p1), .val (.int (4 : Int32)), .val (.int (1 : Int32)), .val (.ref w_Mandatory), .val (.ref b0_50), .val (.int (0 : Int32)), .val (.int (1 : Int32)), .val (.ref w_RECEIVED)] [(.ref b0_50)]) (fun _ kk => XS.aload X52.here hx rfl (hb hby at_159) rfl rfl kk) ?_
      obtain ⟨cq53, kq53, q53a, q53b, q53c⟩ := isOf hZ e52 F50_0
      obtain ⟨_, _, ⟨T53, L53, k53, n53⟩, -, X53, ⟨Lc53, hQ53, l53, y53, z53⟩, st53⟩ := X52.virtualBack hx (y := (⟨"java/util/Optional", "get", "()Ljava/lang/Object;"⟩ : MethodName)) (z := (⟨"java/util/Optional", "get", "()Ljava/lang/Object;"⟩ : MethodName)) hown (mvT hZ (ow hw 46 rfl)) (mvT hZ (ow hw 47 rfl)) (notFace_of_selects (args := #[]) (mvT hZ (ow hw 49 rfl))) (mvT hZ (ow hw 49 rfl)) (mvT hZ (ow hw 48 rfl)) (by decide) (backOf (W := 0) (rm_get l Z a0 hw [] w_Required w_RECEIVED w_NotSupported w_NONE w_RequiresNew w_NEW w_Mandatory w_BeanManaged w_Never w_Supports w_EMPTY b0_50 w_RECEIVED h50 n0 O50 hS F50_1) hZ (ow hw 50 rfl) (ow hw 27 rfl) (by decide) (by decide)) q53a q53c (g := (mkF mG 161 #[.val (.int p0), .val (.int p1), .val (.int (4 : Int32)), .val (.int (1 : Int32)), .val (.ref w_Mandatory), .val (.ref b0_50), .val (.int (0 : Int32)), .val (.int (1 : Int32)), .val (.ref w_RECEIVED)] [(.ref b0_50)])) rfl (by rw [hml]; rfl) (Steps.refl _) (argsL := []) (rest := []) (lenOf pd_6 rfl) rfl (by show 2 * 0 + _ ≤ _; exact Nat.le_of_eq rfl) (hb hby at_161) (fun _ _ => ⟨rfl, e52, (by decide : 1 + 0 ≤ _), (by decide : 1 + 0 ≤ _)⟩)
      dsimp only [Pt.U, Pt.locs, Pt.cells, Pt.slots] at X53 l53 y53 z53 st53 hQ53
      subst l53 y53 z53
      obtain ⟨rfl, N53q, e53⟩ := hQ53
      have N53 := Fr.app N51 N53q
      refine ob T53 (mkF mG 164 #[.val (.int p0), .val (.int p1), .val (.int (4 : Int32)), .val (.int (1 : Int32)), .val (.ref w_Mandatory), .val (.ref b0_50), .val (.int (0 : Int32)), .val (.int (1 : Int32)), .val (.ref w_RECEIVED)] [(.ref w_RECEIVED)]) (fun _ kk => st53.trans kk) ?_
      refine ob T53 (mkF mG 166 #[.val (.int p0), .val (.int p1), .val (.int (4 : Int32)), .val (.int (1 : Int32)), .val (.ref w_Mandatory), .val (.ref b0_50), .val (.int (0 : Int32)), .val (.int (1 : Int32)), .val (.ref w_RECEIVED)] [(.ref w_RECEIVED), (.ref w_RECEIVED)]) (fun _ kk => XS.aload X53.here hx rfl (hb hby at_164) rfl rfl kk) ?_
      refine ob T53 (mkF mG 169 #[.val (.int p0), .val (.int p1), .val (.int (4 : Int32)), .val (.int (1 : Int32)), .val (.ref w_Mandatory), .val (.ref b0_50), .val (.int (0 : Int32)), .val (.int (1 : Int32)), .val (.ref w_RECEIVED)] []) (fun _ kk => Jvm.RoadKit.acmp (g := (mkF mG 166 #[.val (.int p0), .val (.int p1), .val (.int (4 : Int32)), .val (.int (1 : Int32)), .val (.ref w_Mandatory), .val (.ref b0_50), .val (.int (0 : Int32)), .val (.int (1 : Int32)), .val (.ref w_RECEIVED)] [(.ref w_RECEIVED), (.ref w_RECEIVED)])) X53 hx rfl rfl rfl (pc0 := 166) (pc' := 169) (same := true) rfl (hb hby at_166) rfl (decide_eq_true rfl) (by decide) (by decide) kk) ?_
      refine ob T53 (mkF mG 170 #[.val (.int p0), .val (.int p1), .val (.int (4 : Int32)), .val (.int (1 : Int32)), .val (.ref w_Mandatory), .val (.ref b0_50), .val (.int (0 : Int32)), .val (.int (1 : Int32)), .val (.ref w_RECEIVED)] [(.int (1 : Int32))]) (fun _ kk => XS.iconst X53.here hx rfl (hb hby at_169) kk) ?_
      refine ob T53 (mkF mG 174 #[.val (.int p0), .val (.int p1), .val (.int (4 : Int32)), .val (.int (1 : Int32)), .val (.ref w_Mandatory), .val (.ref b0_50), .val (.int (0 : Int32)), .val (.int (1 : Int32)), .val (.ref w_RECEIVED)] [(.int (1 : Int32))]) (fun _ kk => XS.goto X53.here hx rfl (pc0 := 170) (pc' := 174) rfl (hb hby at_170) (by decide) (by decide) kk) ?_
      obtain ⟨fs, hr, hrun, hended, hW, hsame⟩ := X53.leave (v := some (.int (1 : Int32))) (fun h => by rw [Bd.returns] at h; cases h)
      refine oout (retN X53 hx (t := .boolean) Bd.returns (by simp) (hb hby at_174) hr) hrun hended ⟨_, _, rfl, ?_, ⟨_, rfl⟩, hW, hsame.mono (by decide) (by decide)⟩
      show Q_rm0 Z w_Required w_RECEIVED w_NotSupported w_NONE w_RequiresNew w_NEW w_Mandatory w_BeanManaged w_Never w_Supports w_EMPTY p0 p1 h0 n0 _ T53.heap _
      rw [e53]
      exact ⟨rfl, N53⟩
  · skip
    show oGo pG eG belowG _ s₁ (mkF mG 8 #[.val (.int p0), .val (.int p1), .val (.int (5 : Int32)), .unset, .unset, .unset, .unset, .unset, .unset] [])
    refine ob s₁ (mkF mG 9 #[.val (.int p0), .val (.int p1), .val (.int (5 : Int32)), .unset, .unset, .unset, .unset, .unset, .unset] [(.int p1)]) (fun _ kk => XS.iloadN X0.here hx rfl (hb hby at_8) rfl kk) ?_
    refine ob s₁ (mkF mG 10 #[.val (.int p0), .val (.int p1), .val (.int (5 : Int32)), .unset, .unset, .unset, .unset, .unset, .unset] [(.int (1 : Int32)), (.int p1)]) (fun _ kk => XS.iconst X0.here hx rfl (hb hby at_9) kk) ?_
    refine ob s₁ (mkF mG 11 #[.val (.int p0), .val (.int p1), .val (.int (5 : Int32)), .unset, .unset, .unset, .unset, .unset, .unset] [(.int (p1 &&& (1 : Int32)))]) (fun _ kk => XS.iand X0.here hx rfl (hb hby at_10) rfl kk) ?_
    by_cases hc54 : (p1 &&& (1 : Int32)) = (0 : Int32)
    · skip
      refine ob s₁ (mkF mG 18 #[.val (.int p0), .val (.int p1), .val (.int (5 : Int32)), .unset, .unset, .unset, .unset, .unset, .unset] []) (fun _ kk => XS.ifYes X0.here hx rfl (pc0 := 11) (pc' := 18) rfl (hb hby at_11) rfl ((if0 _ _).trans (teq hc54).1) (by decide) (by decide) kk) ?_
      refine ob s₁ (mkF mG 19 #[.val (.int p0), .val (.int p1), .val (.int (5 : Int32)), .unset, .unset, .unset, .unset, .unset, .unset] [(.int (0 : Int32))]) (fun _ kk => XS.iconst X0.here hx rfl (hb hby at_18) kk) ?_
      refine ob s₁ (mkF mG 20 #[.val (.int p0), .val (.int p1), .val (.int (5 : Int32)), .val (.int (0 : Int32)), .unset, .unset, .unset, .unset, .unset] []) (fun _ kk => XS.istoreN X0.here hx rfl (hb hby at_19) rfl (l' := #[.val (.int p0), .val (.int p1), .val (.int (5 : Int32)), .val (.int (0 : Int32)), .unset, .unset, .unset, .unset, .unset]) rfl kk) ?_
      refine ob s₁ (mkF mG 21 #[.val (.int p0), .val (.int p1), .val (.int (5 : Int32)), .val (.int (0 : Int32)), .unset, .unset, .unset, .unset, .unset] [(.int (5 : Int32))]) (fun _ kk => XS.iloadN X0.here hx rfl (hb hby at_20) rfl kk) ?_
      obtain ⟨_, _, ⟨T55, L55, k55, n55⟩, -, X55, ⟨Lc55, hQ55, l55, y55, z55⟩, st55⟩ := Jvm.LawKit.callS X0 hx (y := (⟨"com/example/vorgang/vorgang/model/PolicyApplyPinLaw", "pick", "(I)Lcom/example/vorgang/vorgang/model/Policy;"⟩ : MethodName)) hown (mvT hZ (ow hw 1 rfl)) (mvT hZ (ow hw 2 rfl)) (mvT hZ (ow hw 3 rfl)) (mvT hZ (ow hw 4 rfl)) (by decide) (backOf (W := 0) (rm_pick5 l Z a0 hw [] w_Required w_RECEIVED w_NotSupported w_NONE w_RequiresNew w_NEW w_Mandatory w_BeanManaged w_Never w_Supports w_EMPTY  h0 n0 O0 hS ) hZ (ow hw 4 rfl) (ow hw 3 rfl) (by decide) (by decide)) (g := (mkF mG 21 #[.val (.int p0), .val (.int p1), .val (.int (5 : Int32)), .val (.int (0 : Int32)), .unset, .unset, .unset, .unset, .unset] [(.int (5 : Int32))])) rfl (by rw [hml]; rfl) (argsL := [(.int (5 : Int32))]) (rest := []) (lenOf pd_3 rfl) rfl (by show 2 * 0 + _ ≤ _; exact Nat.le_of_eq rfl) (hb hby at_21) (fun _ _ => ⟨rfl, e0, (by decide : 0 + 0 ≤ _), (by decide : 0 + 0 ≤ _)⟩)
      dsimp only [Pt.U, Pt.locs, Pt.cells, Pt.slots] at X55 l55 y55 z55 st55 hQ55
      subst l55 y55 z55
      obtain ⟨rfl, N55q, e55⟩ := hQ55
      have N55 := Fr.app N0 N55q
      refine ob T55 (mkF mG 24 #[.val (.int p0), .val (.int p1), .val (.int (5 : Int32)), .val (.int (0 : Int32)), .unset, .unset, .unset, .unset, .unset] [(.ref w_Never)]) (fun _ kk => st55 _ kk) ?_
      refine ob T55 (mkF mG 26 #[.val (.int p0), .val (.int p1), .val (.int (5 : Int32)), .val (.int (0 : Int32)), .val (.ref w_Never), .unset, .unset, .unset, .unset] []) (fun _ kk => XS.astore X55.here hx rfl (hb hby at_24) rfl rfl (l' := #[.val (.int p0), .val (.int p1), .val (.int (5 : Int32)), .val (.int (0 : Int32)), .val (.ref w_Never), .unset, .unset, .unset, .unset]) rfl kk) ?_
      refine ob T55 (mkF mG 28 #[.val (.int p0), .val (.int p1), .val (.int (5 : Int32)), .val (.int (0 : Int32)), .val (.ref w_Never), .unset, .unset, .unset, .unset] [(.ref w_Never)]) (fun _ kk => XS.aload X55.here hx rfl (hb hby at_26) rfl rfl kk) ?_
      refine ob T55 (mkF mG 29 #[.val (.int p0), .val (.int p1), .val (.int (5 : Int32)), .val (.int (0 : Int32)), .val (.ref w_Never), .unset, .unset, .unset, .unset] [(.int (0 : Int32)), (.ref w_Never)]) (fun _ kk => XS.iloadN X55.here hx rfl (hb hby at_28) rfl kk) ?_
      obtain ⟨cq56, kq56, q56a, q56b, q56c⟩ := isOf hZ e55 (E_w_Never.ext O0.2)
      obtain ⟨_, _, ⟨T56, L56, k56, n56⟩, -, X56, ⟨Lc56, hQ56, l56, y56, z56⟩, st56⟩ := X55.virtualBack hx (y := (⟨"com/example/vorgang/vorgang/model/Policy", "apply", "(Z)Ljava/util/Optional;"⟩ : MethodName)) (z := (⟨"com/example/vorgang/vorgang/model/Policy", "apply", "(Z)Ljava/util/Optional;"⟩ : MethodName)) hown (mvT hZ (ow hw 8 rfl)) (mvT hZ (ow hw 9 rfl)) (notFace_of_selects (args := #[]) (mvT hZ (ow hw 11 rfl))) (mvT hZ (ow hw 11 rfl)) (mvT hZ (ow hw 10 rfl)) (by decide) (backOf (W := 0) (rm_ap5_0 l Z a0 hw [] w_Required w_RECEIVED w_NotSupported w_NONE w_RequiresNew w_NEW w_Mandatory w_BeanManaged w_Never w_Supports w_EMPTY  h0 n0 O0 hS ) hZ (ow hw 12 rfl) (ow hw 6 rfl) (by decide) (by decide)) q56a q56c (g := (mkF mG 29 #[.val (.int p0), .val (.int p1), .val (.int (5 : Int32)), .val (.int (0 : Int32)), .val (.ref w_Never), .unset, .unset, .unset, .unset] [(.int (0 : Int32)), (.ref w_Never)])) rfl (by rw [hml]; rfl) (Steps.refl _) (argsL := [(.int (0 : Int32))]) (rest := []) (lenOf pd_4 rfl) rfl (by show 2 * 0 + _ ≤ _; exact Nat.le_of_eq rfl) (hb hby at_29) (fun _ _ => ⟨rfl, e55, (by decide : 0 + 1 ≤ _), (by decide : 0 + 1 ≤ _)⟩)
      dsimp only [Pt.U, Pt.locs, Pt.cells, Pt.slots] at X56 l56 y56 z56 st56 hQ56
      subst l56 y56 z56
      obtain ⟨h56, e56⟩ : ∃ h, T56.heap = h := ⟨_, rfl⟩
      rw [e56] at hQ56
      obtain ⟨b0_56, rfl, N56q, K56q, O56, n_b0_56, z_b0_56, F56_0, F56_1⟩ := hQ56
      have N56 := Fr.app N55 N56q
      have sz_b0_56 : h0.size ≤ b0_56 := Nat.le_trans K0.1 z_b0_56
      have K56 := K0.trans K56q all0
      refine ob T56 (mkF mG 32 #[.val (.int p0), .val (.int p1), .val (.int (5 : Int32)), .val (.int (0 : Int32)), .val (.ref w_Never), .unset, .unset, .unset, .unset] [(.ref b0_56)]) (fun _ kk => st56.trans kk) ?_
      refine ob T56 (mkF mG 34 #[.val (.int p0), .val (.int p1), .val (.int (5 : Int32)), .val (.int (0 : Int32)), .val (.ref w_Never), .val (.ref b0_56), .unset, .unset, .unset] []) (fun _ kk => XS.astore X56.here hx rfl (hb hby at_32) rfl rfl (l' := #[.val (.int p0), .val (.int p1), .val (.int (5 : Int32)), .val (.int (0 : Int32)), .val (.ref w_Never), .val (.ref b0_56), .unset, .unset, .unset]) rfl kk) ?_
      refine ob T56 (mkF mG 36 #[.val (.int p0), .val (.int p1), .val (.int (5 : Int32)), .val (.int (0 : Int32)), .val (.ref w_Never), .val (.ref b0_56), .unset, .unset, .unset] [(.ref b0_56)]) (fun _ kk => XS.aload X56.here hx rfl (hb hby at_34) rfl rfl kk) ?_
      refine ob T56 (mkF mG 41 #[.val (.int p0), .val (.int p1), .val (.int (5 : Int32)), .val (.int (0 : Int32)), .val (.ref w_Never), .val (.ref b0_56), .unset, .unset, .unset] []) (fun _ kk => XS.ifnonnullYes X56.here hx rfl (pc0 := 36) (pc' := 41) rfl (hb hby at_36) rfl (by decide) (by decide) kk) ?_
      refine ob T56 (mkF mG 42 #[.val (.int p0), .val (.int p1), .val (.int (5 : Int32)), .val (.int (0 : Int32)), .val (.ref w_Never), .val (.ref b0_56), .unset, .unset, .unset] [(.int (5 : Int32))]) (fun _ kk => XS.iloadN X56.here hx rfl (hb hby at_41) rfl kk) ?_
      refine ob T56 (mkF mG 43 #[.val (.int p0), .val (.int p1), .val (.int (5 : Int32)), .val (.int (0 : Int32)), .val (.ref w_Never), .val (.ref b0_56), .unset, .unset, .unset] [(.int (4 : Int32)), (.int (5 : Int32))]) (fun _ kk => XS.iconst X56.here hx rfl (hb hby at_42) kk) ?_
      refine ob T56 (mkF mG 50 #[.val (.int p0), .val (.int p1), .val (.int (5 : Int32)), .val (.int (0 : Int32)), .val (.ref w_Never), .val (.ref b0_56), .unset, .unset, .unset] []) (fun _ kk => XS.icmpYes X56.here hx rfl (pc0 := 43) (pc' := 50) rfl (hb hby at_43) rfl (feq (by decide : ¬ ((5 : Int32) = (4 : Int32)))).2 (by decide) (by decide) kk) ?_
      refine ob T56 (mkF mG 51 #[.val (.int p0), .val (.int p1), .val (.int (5 : Int32)), .val (.int (0 : Int32)), .val (.ref w_Never), .val (.ref b0_56), .unset, .unset, .unset] [(.int (5 : Int32))]) (fun _ kk => XS.iloadN X56.here hx rfl (hb hby at_50) rfl kk) ?_
      refine ob T56 (mkF mG 52 #[.val (.int p0), .val (.int p1), .val (.int (5 : Int32)), .val (.int (0 : Int32)), .val (.ref w_Never), .val (.ref b0_56), .unset, .unset, .unset] [(.int (5 : Int32)), (.int (5 : Int32))]) (fun _ kk => XS.iconst X56.here hx rfl (hb hby at_51) kk) ?_
      refine ob T56 (mkF mG 55 #[.val (.int p0), .val (.int p1), .val (.int (5 : Int32)), .val (.int (0 : Int32)), .val (.ref w_Never), .val (.ref b0_56), .unset, .unset, .unset] []) (fun _ kk => XS.icmpNo X56.here hx rfl (hb hby at_52) rfl (teq (by decide : (5 : Int32) = (5 : Int32))).2 kk) ?_
      refine ob T56 (mkF mG 56 #[.val (.int p0), .val (.int p1), .val (.int (5 : Int32)), .val (.int (0 : Int32)), .val (.ref w_Never), .val (.ref b0_56), .unset, .unset, .unset] [(.int (0 : Int32))]) (fun _ kk => XS.iloadN X56.here hx rfl (hb hby at_55) rfl kk) ?_
      refine ob T56 (mkF mG 63 #[.val (.int p0), .val (.int p1), .val (.int (5 : Int32)), .val (.int (0 : Int32)), .val (.ref w_Never), .val (.ref b0_56), .unset, .unset, .unset] []) (fun _ kk => XS.ifYes X56.here hx rfl (pc0 := 56) (pc' := 63) rfl (hb hby at_56) rfl ((if0 _ _).trans (teq (by decide : (0 : Int32) = (0 : Int32))).1) (by decide) (by decide) kk) ?_
      refine ob T56 (mkF mG 64 #[.val (.int p0), .val (.int p1), .val (.int (5 : Int32)), .val (.int (0 : Int32)), .val (.ref w_Never), .val (.ref b0_56), .unset, .unset, .unset] [(.int (0 : Int32))]) (fun _ kk => XS.iconst X56.here hx rfl (hb hby at_63) kk) ?_
      refine ob T56 (mkF mG 66 #[.val (.int p0), .val (.int p1), .val (.int (5 : Int32)), .val (.int (0 : Int32)), .val (.ref w_Never), .val (.ref b0_56), .val (.int (0 : Int32)), .unset, .unset] []) (fun _ kk => XS.istore X56.here hx rfl (hb hby at_64) rfl (l' := #[.val (.int p0), .val (.int p1), .val (.int (5 : Int32)), .val (.int (0 : Int32)), .val (.ref w_Never), .val (.ref b0_56), .val (.int (0 : Int32)), .unset, .unset]) rfl kk) ?_
      refine ob T56 (mkF mG 68 #[.val (.int p0), .val (.int p1), .val (.int (5 : Int32)), .val (.int (0 : Int32)), .val (.ref w_Never), .val (.ref b0_56), .val (.int (0 : Int32)), .unset, .unset] [(.int (0 : Int32))]) (fun _ kk => XS.iload X56.here hx rfl (hb hby at_66) rfl kk) ?_
      refine ob T56 (mkF mG 85 #[.val (.int p0), .val (.int p1), .val (.int (5 : Int32)), .val (.int (0 : Int32)), .val (.ref w_Never), .val (.ref b0_56), .val (.int (0 : Int32)), .unset, .unset] []) (fun _ kk => XS.ifYes X56.here hx rfl (pc0 := 68) (pc' := 85) rfl (hb hby at_68) rfl ((if0 _ _).trans (teq (by decide : (0 : Int32) = (0 : Int32))).1) (by decide) (by decide) kk) ?_
      refine ob T56 (mkF mG 87 #[.val (.int p0), .val (.int p1), .val (.int (5 : Int32)), .val (.int (0 : Int32)), .val (.ref w_Never), .val (.ref b0_56), .val (.int (0 : Int32)), .unset, .unset] [(.ref b0_56)]) (fun _ kk => XS.aload X56.here hx rfl (hb hby at_85) rfl rfl kk) ?_
      obtain ⟨cq57, kq57, q57a, q57b, q57c⟩ := isOf hZ e56 F56_0
      obtain ⟨_, _, ⟨T57, L57, k57, n57⟩, -, X57, ⟨Lc57, hQ57, l57, y57, z57⟩, st57⟩ := X56.virtualBack hx (y := (⟨"java/util/Optional", "isPresent", "()Z"⟩ : MethodName)) (z := (⟨"java/util/Optional", "isPresent", "()Z"⟩ : MethodName)) hown (mvT hZ (ow hw 40 rfl)) (mvT hZ (ow hw 41 rfl)) (notFace_of_selects (args := #[]) (mvT hZ (ow hw 43 rfl))) (mvT hZ (ow hw 43 rfl)) (mvT hZ (ow hw 42 rfl)) (by decide) (backOf (W := 0) (rm_ipS l Z a0 hw [] w_Required w_RECEIVED w_NotSupported w_NONE w_RequiresNew w_NEW w_Mandatory w_BeanManaged w_Never w_Supports w_EMPTY b0_56 w_NONE h56 n0 O56 hS F56_1) hZ (ow hw 44 rfl) (ow hw 27 rfl) (by decide) (by decide)) q57a q57c (g := (mkF mG 87 #[.val (.int p0), .val (.int p1), .val (.int (5 : Int32)), .val (.int (0 : Int32)), .val (.ref w_Never), .val (.ref b0_56), .val (.int (0 : Int32)), .unset, .unset] [(.ref b0_56)])) rfl (by rw [hml]; rfl) (Steps.refl _) (argsL := []) (rest := []) (lenOf pd_5 rfl) rfl (by show 2 * 0 + _ ≤ _; exact Nat.le_of_eq rfl) (hb hby at_87) (fun _ _ => ⟨rfl, e56, (by decide : 1 + 0 ≤ _), (by decide : 1 + 0 ≤ _)⟩)
      dsimp only [Pt.U, Pt.locs, Pt.cells, Pt.slots] at X57 l57 y57 z57 st57 hQ57
      subst l57 y57 z57
      obtain ⟨rfl, N57q, e57⟩ := hQ57
      have N57 := Fr.app N56 N57q
      refine ob T57 (mkF mG 90 #[.val (.int p0), .val (.int p1), .val (.int (5 : Int32)), .val (.int (0 : Int32)), .val (.ref w_Never), .val (.ref b0_56), .val (.int (0 : Int32)), .unset, .unset] [(.int (1 : Int32))]) (fun _ kk => st57.trans kk) ?_
      refine ob T57 (mkF mG 95 #[.val (.int p0), .val (.int p1), .val (.int (5 : Int32)), .val (.int (0 : Int32)), .val (.ref w_Never), .val (.ref b0_56), .val (.int (0 : Int32)), .unset, .unset] []) (fun _ kk => XS.ifYes X57.here hx rfl (pc0 := 90) (pc' := 95) rfl (hb hby at_90) rfl ((if0 _ _).trans (feq (by decide : ¬ ((1 : Int32) = (0 : Int32)))).2) (by decide) (by decide) kk) ?_
      refine ob T57 (mkF mG 96 #[.val (.int p0), .val (.int p1), .val (.int (5 : Int32)), .val (.int (0 : Int32)), .val (.ref w_Never), .val (.ref b0_56), .val (.int (0 : Int32)), .unset, .unset] [(.int (0 : Int32))]) (fun _ kk => XS.iloadN X57.here hx rfl (hb hby at_95) rfl kk) ?_
      refine ob T57 (mkF mG 117 #[.val (.int p0), .val (.int p1), .val (.int (5 : Int32)), .val (.int (0 : Int32)), .val (.ref w_Never), .val (.ref b0_56), .val (.int (0 : Int32)), .unset, .unset] []) (fun _ kk => XS.ifYes X57.here hx rfl (pc0 := 96) (pc' := 117) rfl (hb hby at_96) rfl ((if0 _ _).trans (teq (by decide : (0 : Int32) = (0 : Int32))).1) (by decide) (by decide) kk) ?_
      refine ob T57 (mkF mG 118 #[.val (.int p0), .val (.int p1), .val (.int (5 : Int32)), .val (.int (0 : Int32)), .val (.ref w_Never), .val (.ref b0_56), .val (.int (0 : Int32)), .unset, .unset] [(.int (0 : Int32))]) (fun _ kk => XS.iconst X57.here hx rfl (hb hby at_117) kk) ?_
      refine ob T57 (mkF mG 120 #[.val (.int p0), .val (.int p1), .val (.int (5 : Int32)), .val (.int (0 : Int32)), .val (.ref w_Never), .val (.ref b0_56), .val (.int (0 : Int32)), .val (.int (0 : Int32)), .unset] []) (fun _ kk => XS.istore X57.here hx rfl (hb hby at_118) rfl (l' := #[.val (.int p0), .val (.int p1), .val (.int (5 : Int32)), .val (.int (0 : Int32)), .val (.ref w_Never), .val (.ref b0_56), .val (.int (0 : Int32)), .val (.int (0 : Int32)), .unset]) rfl kk) ?_
      refine ob T57 (mkF mG 122 #[.val (.int p0), .val (.int p1), .val (.int (5 : Int32)), .val (.int (0 : Int32)), .val (.ref w_Never), .val (.ref b0_56), .val (.int (0 : Int32)), .val (.int (0 : Int32)), .unset] [(.int (0 : Int32))]) (fun _ kk => XS.iload X57.here hx rfl (hb hby at_120) rfl kk) ?_
      refine ob T57 (mkF mG 133 #[.val (.int p0), .val (.int p1), .val (.int (5 : Int32)), .val (.int (0 : Int32)), .val (.ref w_Never), .val (.ref b0_56), .val (.int (0 : Int32)), .val (.int (0 : Int32)), .unset] []) (fun _ kk => XS.ifYes X57.here hx rfl (pc0 := 122) (pc' := 133) rfl (hb hby at_122) rfl ((if0 _ _).trans (teq (by decide : (0 : Int32) = (0 : Int32))).1) (by decide) (by decide) kk) ?_
      refine ob T57 (mkF mG 134 #[.val (.int p0), .val (.int p1), .val (.int (5 : Int32)), .val (.int (0 : Int32)), .val (.ref w_Never), .val (.ref b0_56), .val (.int (0 : Int32)), .val (.int (0 : Int32)), .unset] [(.int (5 : Int32))]) (fun _ kk => XS.iloadN X57.here hx rfl (hb hby at_133) rfl kk) ?_
      refine ob T57 (mkF mG 135 #[.val (.int p0), .val (.int p1), .val (.int (5 : Int32)), .val (.int (0 : Int32)), .val (.ref w_Never), .val (.ref b0_56), .val (.int (0 : Int32)), .val (.int (0 : Int32)), .unset] [(.int (1 : Int32)), (.int (5 : Int32))]) (fun _ kk => XS.iconst X57.here hx rfl (hb hby at_134) kk) ?_
      refine ob T57 (mkF mG 138 #[.val (.int p0), .val (.int p1), .val (.int (5 : Int32)), .val (.int (0 : Int32)), .val (.ref w_Never), .val (.ref b0_56), .val (.int (0 : Int32)), .val (.int (0 : Int32)), .unset] []) (fun _ kk => XS.icmpNo X57.here hx rfl (hb hby at_135) rfl (feq (by decide : ¬ ((5 : Int32) = (1 : Int32)))).1 kk) ?_
      refine ob T57 (mkF mG 139 #[.val (.int p0), .val (.int p1), .val (.int (5 : Int32)), .val (.int (0 : Int32)), .val (.ref w_Never), .val (.ref b0_56), .val (.int (0 : Int32)), .val (.int (0 : Int32)), .unset] [(.int (5 : Int32))]) (fun _ kk => XS.iloadN X57.here hx rfl (hb hby at_138) rfl kk) ?_
      refine ob T57 (mkF mG 154 #[.val (.int p0), .val (.int p1), .val (.int (5 : Int32)), .val (.int (0 : Int32)), .val (.ref w_Never), .val (.ref b0_56), .val (.int (0 : Int32)), .val (.int (0 : Int32)), .unset] []) (fun _ kk => XS.ifYes X57.here hx rfl (pc0 := 139) (pc' := 154) rfl (hb hby at_139) rfl ((if0 _ _).trans (feq (by decide : ¬ ((5 : Int32) = (0 : Int32)))).2) (by decide) (by decide) kk) ?_
      obtain ⟨T58, X58, e58, st58⟩ := getS2 X57 hx hZ hown (host := "") (Or.inl (ow hw 55 rfl)) Via.refl e57 (S_w_NONE.ext O56.2) (g := (mkF mG 154 #[.val (.int p0), .val (.int p1), .val (.int (5 : Int32)), .val (.int (0 : Int32)), .val (.ref w_Never), .val (.ref b0_56), .val (.int (0 : Int32)), .val (.int (0 : Int32)), .unset] [])) rfl (hb hby at_154)
      refine ob T58 (mkF mG 157 #[.val (.int p0), .val (.int p1), .val (.int (5 : Int32)), .val (.int (0 : Int32)), .val (.ref w_Never), .val (.ref b0_56), .val (.int (0 : Int32)), .val (.int (0 : Int32)), .unset] [(.ref w_NONE)]) (fun _ kk => st58 _ kk) ?_
      refine ob T58 (mkF mG 159 #[.val (.int p0), .val (.int p1), .val (.int (5 : Int32)), .val (.int (0 : Int32)), .val (.ref w_Never), .val (.ref b0_56), .val (.int (0 : Int32)), .val (.int (0 : Int32)), .val (.ref w_NONE)] []) (fun _ kk => XS.astore X58.here hx rfl (hb hby at_157) rfl rfl (l' := #[.val (.int p0), .val (.int p1), .val (.int (5 : Int32)), .val (.int (0 : Int32)), .val (.ref w_Never), .val (.ref b0_56), .val (.int (0 : Int32)), .val (.int (0 : Int32)), .val (.ref w_NONE)]) rfl kk) ?_
      refine ob T58 (mkF mG 161 #[.val (.int p0), .val (.int p1), .val (.int (5 : Int32)), .val (.int (0 : Int32)), .val (.ref w_Never), .val (.ref b0_56), .val (.int (0 : Int32)), .val (.int (0 : Int32)), .val (.ref w_NONE)] [(.ref b0_56)]) (fun _ kk => XS.aload X58.here hx rfl (hb hby at_159) rfl rfl kk) ?_
      obtain ⟨cq59, kq59, q59a, q59b, q59c⟩ := isOf hZ e58 F56_0
      obtain ⟨_, _, ⟨T59, L59, k59, n59⟩, -, X59, ⟨Lc59, hQ59, l59, y59, z59⟩, st59⟩ := X58.virtualBack hx (y := (⟨"java/util/Optional", "get", "()Ljava/lang/Object;"⟩ : MethodName)) (z := (⟨"java/util/Optional", "get", "()Ljava/lang/Object;"⟩ : MethodName)) hown (mvT hZ (ow hw 46 rfl)) (mvT hZ (ow hw 47 rfl)) (notFace_of_selects (args := #[]) (mvT hZ (ow hw 49 rfl))) (mvT hZ (ow hw 49 rfl)) (mvT hZ (ow hw 48 rfl)) (by decide) (backOf (W := 0) (rm_get l Z a0 hw [] w_Required w_RECEIVED w_NotSupported w_NONE w_RequiresNew w_NEW w_Mandatory w_BeanManaged w_Never w_Supports w_EMPTY b0_56 w_NONE h56 n0 O56 hS F56_1) hZ (ow hw 50 rfl) (ow hw 27 rfl) (by decide) (by decide)) q59a q59c (g := (mkF mG 161 #[.val (.int p0), .val (.int p1), .val (.int (5 : Int32)), .val (.int (0 : Int32)), .val (.ref w_Never), .val (.ref b0_56), .val (.int (0 : Int32)), .val (.int (0 : Int32)), .val (.ref w_NONE)] [(.ref b0_56)])) rfl (by rw [hml]; rfl) (Steps.refl _) (argsL := []) (rest := []) (lenOf pd_6 rfl) rfl (by show 2 * 0 + _ ≤ _; exact Nat.le_of_eq rfl) (hb hby at_161) (fun _ _ => ⟨rfl, e58, (by decide : 1 + 0 ≤ _), (by decide : 1 + 0 ≤ _)⟩)
      dsimp only [Pt.U, Pt.locs, Pt.cells, Pt.slots] at X59 l59 y59 z59 st59 hQ59
      subst l59 y59 z59
      obtain ⟨rfl, N59q, e59⟩ := hQ59
      have N59 := Fr.app N57 N59q
      refine ob T59 (mkF mG 164 #[.val (.int p0), .val (.int p1), .val (.int (5 : Int32)), .val (.int (0 : Int32)), .val (.ref w_Never), .val (.ref b0_56), .val (.int (0 : Int32)), .val (.int (0 : Int32)), .val (.ref w_NONE)] [(.ref w_NONE)]) (fun _ kk => st59.trans kk) ?_
      refine ob T59 (mkF mG 166 #[.val (.int p0), .val (.int p1), .val (.int (5 : Int32)), .val (.int (0 : Int32)), .val (.ref w_Never), .val (.ref b0_56), .val (.int (0 : Int32)), .val (.int (0 : Int32)), .val (.ref w_NONE)] [(.ref w_NONE), (.ref w_NONE)]) (fun _ kk => XS.aload X59.here hx rfl (hb hby at_164) rfl rfl kk) ?_
      refine ob T59 (mkF mG 169 #[.val (.int p0), .val (.int p1), .val (.int (5 : Int32)), .val (.int (0 : Int32)), .val (.ref w_Never), .val (.ref b0_56), .val (.int (0 : Int32)), .val (.int (0 : Int32)), .val (.ref w_NONE)] []) (fun _ kk => Jvm.RoadKit.acmp (g := (mkF mG 166 #[.val (.int p0), .val (.int p1), .val (.int (5 : Int32)), .val (.int (0 : Int32)), .val (.ref w_Never), .val (.ref b0_56), .val (.int (0 : Int32)), .val (.int (0 : Int32)), .val (.ref w_NONE)] [(.ref w_NONE), (.ref w_NONE)])) X59 hx rfl rfl rfl (pc0 := 166) (pc' := 169) (same := true) rfl (hb hby at_166) rfl (decide_eq_true rfl) (by decide) (by decide) kk) ?_
      refine ob T59 (mkF mG 170 #[.val (.int p0), .val (.int p1), .val (.int (5 : Int32)), .val (.int (0 : Int32)), .val (.ref w_Never), .val (.ref b0_56), .val (.int (0 : Int32)), .val (.int (0 : Int32)), .val (.ref w_NONE)] [(.int (1 : Int32))]) (fun _ kk => XS.iconst X59.here hx rfl (hb hby at_169) kk) ?_
      refine ob T59 (mkF mG 174 #[.val (.int p0), .val (.int p1), .val (.int (5 : Int32)), .val (.int (0 : Int32)), .val (.ref w_Never), .val (.ref b0_56), .val (.int (0 : Int32)), .val (.int (0 : Int32)), .val (.ref w_NONE)] [(.int (1 : Int32))]) (fun _ kk => XS.goto X59.here hx rfl (pc0 := 170) (pc' := 174) rfl (hb hby at_170) (by decide) (by decide) kk) ?_
      obtain ⟨fs, hr, hrun, hended, hW, hsame⟩ := X59.leave (v := some (.int (1 : Int32))) (fun h => by rw [Bd.returns] at h; cases h)
      refine oout (retN X59 hx (t := .boolean) Bd.returns (by simp) (hb hby at_174) hr) hrun hended ⟨_, _, rfl, ?_, ⟨_, rfl⟩, hW, hsame.mono (by decide) (by decide)⟩
      show Q_rm0 Z w_Required w_RECEIVED w_NotSupported w_NONE w_RequiresNew w_NEW w_Mandatory w_BeanManaged w_Never w_Supports w_EMPTY p0 p1 h0 n0 _ T59.heap _
      rw [e59]
      exact ⟨rfl, N59⟩
    · skip
      refine ob s₁ (mkF mG 14 #[.val (.int p0), .val (.int p1), .val (.int (5 : Int32)), .unset, .unset, .unset, .unset, .unset, .unset] []) (fun _ kk => XS.ifNo X0.here hx rfl (hb hby at_11) rfl ((if0 _ _).trans (feq hc54).1) kk) ?_
      refine ob s₁ (mkF mG 15 #[.val (.int p0), .val (.int p1), .val (.int (5 : Int32)), .unset, .unset, .unset, .unset, .unset, .unset] [(.int (1 : Int32))]) (fun _ kk => XS.iconst X0.here hx rfl (hb hby at_14) kk) ?_
      refine ob s₁ (mkF mG 19 #[.val (.int p0), .val (.int p1), .val (.int (5 : Int32)), .unset, .unset, .unset, .unset, .unset, .unset] [(.int (1 : Int32))]) (fun _ kk => XS.goto X0.here hx rfl (pc0 := 15) (pc' := 19) rfl (hb hby at_15) (by decide) (by decide) kk) ?_
      refine ob s₁ (mkF mG 20 #[.val (.int p0), .val (.int p1), .val (.int (5 : Int32)), .val (.int (1 : Int32)), .unset, .unset, .unset, .unset, .unset] []) (fun _ kk => XS.istoreN X0.here hx rfl (hb hby at_19) rfl (l' := #[.val (.int p0), .val (.int p1), .val (.int (5 : Int32)), .val (.int (1 : Int32)), .unset, .unset, .unset, .unset, .unset]) rfl kk) ?_
      refine ob s₁ (mkF mG 21 #[.val (.int p0), .val (.int p1), .val (.int (5 : Int32)), .val (.int (1 : Int32)), .unset, .unset, .unset, .unset, .unset] [(.int (5 : Int32))]) (fun _ kk => XS.iloadN X0.here hx rfl (hb hby at_20) rfl kk) ?_
      obtain ⟨_, _, ⟨T60, L60, k60, n60⟩, -, X60, ⟨Lc60, hQ60, l60, y60, z60⟩, st60⟩ := Jvm.LawKit.callS X0 hx (y := (⟨"com/example/vorgang/vorgang/model/PolicyApplyPinLaw", "pick", "(I)Lcom/example/vorgang/vorgang/model/Policy;"⟩ : MethodName)) hown (mvT hZ (ow hw 1 rfl)) (mvT hZ (ow hw 2 rfl)) (mvT hZ (ow hw 3 rfl)) (mvT hZ (ow hw 4 rfl)) (by decide) (backOf (W := 0) (rm_pick5 l Z a0 hw [] w_Required w_RECEIVED w_NotSupported w_NONE w_RequiresNew w_NEW w_Mandatory w_BeanManaged w_Never w_Supports w_EMPTY  h0 n0 O0 hS ) hZ (ow hw 4 rfl) (ow hw 3 rfl) (by decide) (by decide)) (g := (mkF mG 21 #[.val (.int p0), .val (.int p1), .val (.int (5 : Int32)), .val (.int (1 : Int32)), .unset, .unset, .unset, .unset, .unset] [(.int (5 : Int32))])) rfl (by rw [hml]; rfl) (argsL := [(.int (5 : Int32))]) (rest := []) (lenOf pd_3 rfl) rfl (by show 2 * 0 + _ ≤ _; exact Nat.le_of_eq rfl) (hb hby at_21) (fun _ _ => ⟨rfl, e0, (by decide : 0 + 0 ≤ _), (by decide : 0 + 0 ≤ _)⟩)
      dsimp only [Pt.U, Pt.locs, Pt.cells, Pt.slots] at X60 l60 y60 z60 st60 hQ60
      subst l60 y60 z60
      obtain ⟨rfl, N60q, e60⟩ := hQ60
      have N60 := Fr.app N0 N60q
      refine ob T60 (mkF mG 24 #[.val (.int p0), .val (.int p1), .val (.int (5 : Int32)), .val (.int (1 : Int32)), .unset, .unset, .unset, .unset, .unset] [(.ref w_Never)]) (fun _ kk => st60 _ kk) ?_
      refine ob T60 (mkF mG 26 #[.val (.int p0), .val (.int p1), .val (.int (5 : Int32)), .val (.int (1 : Int32)), .val (.ref w_Never), .unset, .unset, .unset, .unset] []) (fun _ kk => XS.astore X60.here hx rfl (hb hby at_24) rfl rfl (l' := #[.val (.int p0), .val (.int p1), .val (.int (5 : Int32)), .val (.int (1 : Int32)), .val (.ref w_Never), .unset, .unset, .unset, .unset]) rfl kk) ?_
      refine ob T60 (mkF mG 28 #[.val (.int p0), .val (.int p1), .val (.int (5 : Int32)), .val (.int (1 : Int32)), .val (.ref w_Never), .unset, .unset, .unset, .unset] [(.ref w_Never)]) (fun _ kk => XS.aload X60.here hx rfl (hb hby at_26) rfl rfl kk) ?_
      refine ob T60 (mkF mG 29 #[.val (.int p0), .val (.int p1), .val (.int (5 : Int32)), .val (.int (1 : Int32)), .val (.ref w_Never), .unset, .unset, .unset, .unset] [(.int (1 : Int32)), (.ref w_Never)]) (fun _ kk => XS.iloadN X60.here hx rfl (hb hby at_28) rfl kk) ?_
      obtain ⟨cq61, kq61, q61a, q61b, q61c⟩ := isOf hZ e60 (E_w_Never.ext O0.2)
      obtain ⟨_, _, ⟨T61, L61, k61, n61⟩, -, X61, ⟨Lc61, hQ61, l61, y61, z61⟩, st61⟩ := X60.virtualBack hx (y := (⟨"com/example/vorgang/vorgang/model/Policy", "apply", "(Z)Ljava/util/Optional;"⟩ : MethodName)) (z := (⟨"com/example/vorgang/vorgang/model/Policy", "apply", "(Z)Ljava/util/Optional;"⟩ : MethodName)) hown (mvT hZ (ow hw 8 rfl)) (mvT hZ (ow hw 9 rfl)) (notFace_of_selects (args := #[]) (mvT hZ (ow hw 11 rfl))) (mvT hZ (ow hw 11 rfl)) (mvT hZ (ow hw 10 rfl)) (by decide) (backOf (W := 0) (rm_ap5_1 l Z a0 hw [] w_Required w_RECEIVED w_NotSupported w_NONE w_RequiresNew w_NEW w_Mandatory w_BeanManaged w_Never w_Supports w_EMPTY  h0 n0 O0 hS ) hZ (ow hw 12 rfl) (ow hw 6 rfl) (by decide) (by decide)) q61a q61c (g := (mkF mG 29 #[.val (.int p0), .val (.int p1), .val (.int (5 : Int32)), .val (.int (1 : Int32)), .val (.ref w_Never), .unset, .unset, .unset, .unset] [(.int (1 : Int32)), (.ref w_Never)])) rfl (by rw [hml]; rfl) (Steps.refl _) (argsL := [(.int (1 : Int32))]) (rest := []) (lenOf pd_4 rfl) rfl (by show 2 * 0 + _ ≤ _; exact Nat.le_of_eq rfl) (hb hby at_29) (fun _ _ => ⟨rfl, e60, (by decide : 0 + 0 ≤ _), (by decide : 0 + 0 ≤ _)⟩)
      dsimp only [Pt.U, Pt.locs, Pt.cells, Pt.slots] at X61 l61 y61 z61 st61 hQ61
      subst l61 y61 z61
      obtain ⟨rfl, N61q, e61⟩ := hQ61
      have N61 := Fr.app N60 N61q
      refine ob T61 (mkF mG 32 #[.val (.int p0), .val (.int p1), .val (.int (5 : Int32)), .val (.int (1 : Int32)), .val (.ref w_Never), .unset, .unset, .unset, .unset] [(.ref w_EMPTY)]) (fun _ kk => st61.trans kk) ?_
      refine ob T61 (mkF mG 34 #[.val (.int p0), .val (.int p1), .val (.int (5 : Int32)), .val (.int (1 : Int32)), .val (.ref w_Never), .val (.ref w_EMPTY), .unset, .unset, .unset] []) (fun _ kk => XS.astore X61.here hx rfl (hb hby at_32) rfl rfl (l' := #[.val (.int p0), .val (.int p1), .val (.int (5 : Int32)), .val (.int (1 : Int32)), .val (.ref w_Never), .val (.ref w_EMPTY), .unset, .unset, .unset]) rfl kk) ?_
      refine ob T61 (mkF mG 36 #[.val (.int p0), .val (.int p1), .val (.int (5 : Int32)), .val (.int (1 : Int32)), .val (.ref w_Never), .val (.ref w_EMPTY), .unset, .unset, .unset] [(.ref w_EMPTY)]) (fun _ kk => XS.aload X61.here hx rfl (hb hby at_34) rfl rfl kk) ?_
      refine ob T61 (mkF mG 41 #[.val (.int p0), .val (.int p1), .val (.int (5 : Int32)), .val (.int (1 : Int32)), .val (.ref w_Never), .val (.ref w_EMPTY), .unset, .unset, .unset] []) (fun _ kk => XS.ifnonnullYes X61.here hx rfl (pc0 := 36) (pc' := 41) rfl (hb hby at_36) rfl (by decide) (by decide) kk) ?_
      refine ob T61 (mkF mG 42 #[.val (.int p0), .val (.int p1), .val (.int (5 : Int32)), .val (.int (1 : Int32)), .val (.ref w_Never), .val (.ref w_EMPTY), .unset, .unset, .unset] [(.int (5 : Int32))]) (fun _ kk => XS.iloadN X61.here hx rfl (hb hby at_41) rfl kk) ?_
      refine ob T61 (mkF mG 43 #[.val (.int p0), .val (.int p1), .val (.int (5 : Int32)), .val (.int (1 : Int32)), .val (.ref w_Never), .val (.ref w_EMPTY), .unset, .unset, .unset] [(.int (4 : Int32)), (.int (5 : Int32))]) (fun _ kk => XS.iconst X61.here hx rfl (hb hby at_42) kk) ?_
      refine ob T61 (mkF mG 50 #[.val (.int p0), .val (.int p1), .val (.int (5 : Int32)), .val (.int (1 : Int32)), .val (.ref w_Never), .val (.ref w_EMPTY), .unset, .unset, .unset] []) (fun _ kk => XS.icmpYes X61.here hx rfl (pc0 := 43) (pc' := 50) rfl (hb hby at_43) rfl (feq (by decide : ¬ ((5 : Int32) = (4 : Int32)))).2 (by decide) (by decide) kk) ?_
      refine ob T61 (mkF mG 51 #[.val (.int p0), .val (.int p1), .val (.int (5 : Int32)), .val (.int (1 : Int32)), .val (.ref w_Never), .val (.ref w_EMPTY), .unset, .unset, .unset] [(.int (5 : Int32))]) (fun _ kk => XS.iloadN X61.here hx rfl (hb hby at_50) rfl kk) ?_
      refine ob T61 (mkF mG 52 #[.val (.int p0), .val (.int p1), .val (.int (5 : Int32)), .val (.int (1 : Int32)), .val (.ref w_Never), .val (.ref w_EMPTY), .unset, .unset, .unset] [(.int (5 : Int32)), (.int (5 : Int32))]) (fun _ kk => XS.iconst X61.here hx rfl (hb hby at_51) kk) ?_
      refine ob T61 (mkF mG 55 #[.val (.int p0), .val (.int p1), .val (.int (5 : Int32)), .val (.int (1 : Int32)), .val (.ref w_Never), .val (.ref w_EMPTY), .unset, .unset, .unset] []) (fun _ kk => XS.icmpNo X61.here hx rfl (hb hby at_52) rfl (teq (by decide : (5 : Int32) = (5 : Int32))).2 kk) ?_
      refine ob T61 (mkF mG 56 #[.val (.int p0), .val (.int p1), .val (.int (5 : Int32)), .val (.int (1 : Int32)), .val (.ref w_Never), .val (.ref w_EMPTY), .unset, .unset, .unset] [(.int (1 : Int32))]) (fun _ kk => XS.iloadN X61.here hx rfl (hb hby at_55) rfl kk) ?_
      refine ob T61 (mkF mG 59 #[.val (.int p0), .val (.int p1), .val (.int (5 : Int32)), .val (.int (1 : Int32)), .val (.ref w_Never), .val (.ref w_EMPTY), .unset, .unset, .unset] []) (fun _ kk => XS.ifNo X61.here hx rfl (hb hby at_56) rfl ((if0 _ _).trans (feq (by decide : ¬ ((1 : Int32) = (0 : Int32)))).1) kk) ?_
      refine ob T61 (mkF mG 60 #[.val (.int p0), .val (.int p1), .val (.int (5 : Int32)), .val (.int (1 : Int32)), .val (.ref w_Never), .val (.ref w_EMPTY), .unset, .unset, .unset] [(.int (1 : Int32))]) (fun _ kk => XS.iconst X61.here hx rfl (hb hby at_59) kk) ?_
      refine ob T61 (mkF mG 64 #[.val (.int p0), .val (.int p1), .val (.int (5 : Int32)), .val (.int (1 : Int32)), .val (.ref w_Never), .val (.ref w_EMPTY), .unset, .unset, .unset] [(.int (1 : Int32))]) (fun _ kk => XS.goto X61.here hx rfl (pc0 := 60) (pc' := 64) rfl (hb hby at_60) (by decide) (by decide) kk) ?_
      refine ob T61 (mkF mG 66 #[.val (.int p0), .val (.int p1), .val (.int (5 : Int32)), .val (.int (1 : Int32)), .val (.ref w_Never), .val (.ref w_EMPTY), .val (.int (1 : Int32)), .unset, .unset] []) (fun _ kk => XS.istore X61.here hx rfl (hb hby at_64) rfl (l' := #[.val (.int p0), .val (.int p1), .val (.int (5 : Int32)), .val (.int (1 : Int32)), .val (.ref w_Never), .val (.ref w_EMPTY), .val (.int (1 : Int32)), .unset, .unset]) rfl kk) ?_
      refine ob T61 (mkF mG 68 #[.val (.int p0), .val (.int p1), .val (.int (5 : Int32)), .val (.int (1 : Int32)), .val (.ref w_Never), .val (.ref w_EMPTY), .val (.int (1 : Int32)), .unset, .unset] [(.int (1 : Int32))]) (fun _ kk => XS.iload X61.here hx rfl (hb hby at_66) rfl kk) ?_
      refine ob T61 (mkF mG 71 #[.val (.int p0), .val (.int p1), .val (.int (5 : Int32)), .val (.int (1 : Int32)), .val (.ref w_Never), .val (.ref w_EMPTY), .val (.int (1 : Int32)), .unset, .unset] []) (fun _ kk => XS.ifNo X61.here hx rfl (hb hby at_68) rfl ((if0 _ _).trans (feq (by decide : ¬ ((1 : Int32) = (0 : Int32)))).1) kk) ?_
      refine ob T61 (mkF mG 73 #[.val (.int p0), .val (.int p1), .val (.int (5 : Int32)), .val (.int (1 : Int32)), .val (.ref w_Never), .val (.ref w_EMPTY), .val (.int (1 : Int32)), .unset, .unset] [(.ref w_EMPTY)]) (fun _ kk => XS.aload X61.here hx rfl (hb hby at_71) rfl rfl kk) ?_
      obtain ⟨cq62, kq62, q62a, q62b, q62c⟩ := isOf hZ e61 (E_w_EMPTY.ext O0.2)
      obtain ⟨_, _, ⟨T62, L62, k62, n62⟩, -, X62, ⟨Lc62, hQ62, l62, y62, z62⟩, st62⟩ := X61.virtualBack hx (y := (⟨"java/util/Optional", "isPresent", "()Z"⟩ : MethodName)) (z := (⟨"java/util/Optional", "isPresent", "()Z"⟩ : MethodName)) hown (mvT hZ (ow hw 40 rfl)) (mvT hZ (ow hw 41 rfl)) (notFace_of_selects (args := #[]) (mvT hZ (ow hw 43 rfl))) (mvT hZ (ow hw 43 rfl)) (mvT hZ (ow hw 42 rfl)) (by decide) (backOf (W := 0) (rm_ipE l Z a0 hw [] w_Required w_RECEIVED w_NotSupported w_NONE w_RequiresNew w_NEW w_Mandatory w_BeanManaged w_Never w_Supports w_EMPTY  h0 n0 O0 hS ) hZ (ow hw 44 rfl) (ow hw 27 rfl) (by decide) (by decide)) q62a q62c (g := (mkF mG 73 #[.val (.int p0), .val (.int p1), .val (.int (5 : Int32)), .val (.int (1 : Int32)), .val (.ref w_Never), .val (.ref w_EMPTY), .val (.int (1 : Int32)), .unset, .unset] [(.ref w_EMPTY)])) rfl (by rw [hml]; rfl) (Steps.refl _) (argsL := []) (rest := []) (lenOf pd_5 rfl) rfl (by show 2 * 0 + _ ≤ _; exact Nat.le_of_eq rfl) (hb hby at_73) (fun _ _ => ⟨rfl, e61, (by decide : 0 + 0 ≤ _), (by decide : 0 + 0 ≤ _)⟩)
      dsimp only [Pt.U, Pt.locs, Pt.cells, Pt.slots] at X62 l62 y62 z62 st62 hQ62
      subst l62 y62 z62
      obtain ⟨rfl, N62q, e62⟩ := hQ62
      have N62 := Fr.app N61 N62q
      refine ob T62 (mkF mG 76 #[.val (.int p0), .val (.int p1), .val (.int (5 : Int32)), .val (.int (1 : Int32)), .val (.ref w_Never), .val (.ref w_EMPTY), .val (.int (1 : Int32)), .unset, .unset] [(.int (0 : Int32))]) (fun _ kk => st62.trans kk) ?_
      refine ob T62 (mkF mG 79 #[.val (.int p0), .val (.int p1), .val (.int (5 : Int32)), .val (.int (1 : Int32)), .val (.ref w_Never), .val (.ref w_EMPTY), .val (.int (1 : Int32)), .unset, .unset] []) (fun _ kk => XS.ifNo X62.here hx rfl (hb hby at_76) rfl ((if0 _ _).trans (teq (by decide : (0 : Int32) = (0 : Int32))).2) kk) ?_
      refine ob T62 (mkF mG 80 #[.val (.int p0), .val (.int p1), .val (.int (5 : Int32)), .val (.int (1 : Int32)), .val (.ref w_Never), .val (.ref w_EMPTY), .val (.int (1 : Int32)), .unset, .unset] [(.int (1 : Int32))]) (fun _ kk => XS.iconst X62.here hx rfl (hb hby at_79) kk) ?_
      refine ob T62 (mkF mG 84 #[.val (.int p0), .val (.int p1), .val (.int (5 : Int32)), .val (.int (1 : Int32)), .val (.ref w_Never), .val (.ref w_EMPTY), .val (.int (1 : Int32)), .unset, .unset] [(.int (1 : Int32))]) (fun _ kk => XS.goto X62.here hx rfl (pc0 := 80) (pc' := 84) rfl (hb hby at_80) (by decide) (by decide) kk) ?_
      obtain ⟨fs, hr, hrun, hended, hW, hsame⟩ := X62.leave (v := some (.int (1 : Int32))) (fun h => by rw [Bd.returns] at h; cases h)
      refine oout (retN X62 hx (t := .boolean) Bd.returns (by simp) (hb hby at_84) hr) hrun hended ⟨_, _, rfl, ?_, ⟨_, rfl⟩, hW, hsame.mono (by decide) (by decide)⟩
      show Q_rm0 Z w_Required w_RECEIVED w_NotSupported w_NONE w_RequiresNew w_NEW w_Mandatory w_BeanManaged w_Never w_Supports w_EMPTY p0 p1 h0 n0 _ T62.heap _
      rw [e62]
      exact ⟨rfl, N62⟩
  · skip
    show oGo pG eG belowG _ s₁ (mkF mG 8 #[.val (.int p0), .val (.int p1), .val (.int (6 : Int32)), .unset, .unset, .unset, .unset, .unset, .unset] [])
    refine ob s₁ (mkF mG 9 #[.val (.int p0), .val (.int p1), .val (.int (6 : Int32)), .unset, .unset, .unset, .unset, .unset, .unset] [(.int p1)]) (fun _ kk => XS.iloadN X0.here hx rfl (hb hby at_8) rfl kk) ?_
    refine ob s₁ (mkF mG 10 #[.val (.int p0), .val (.int p1), .val (.int (6 : Int32)), .unset, .unset, .unset, .unset, .unset, .unset] [(.int (1 : Int32)), (.int p1)]) (fun _ kk => XS.iconst X0.here hx rfl (hb hby at_9) kk) ?_
    refine ob s₁ (mkF mG 11 #[.val (.int p0), .val (.int p1), .val (.int (6 : Int32)), .unset, .unset, .unset, .unset, .unset, .unset] [(.int (p1 &&& (1 : Int32)))]) (fun _ kk => XS.iand X0.here hx rfl (hb hby at_10) rfl kk) ?_
    by_cases hc63 : (p1 &&& (1 : Int32)) = (0 : Int32)
    · skip
      refine ob s₁ (mkF mG 18 #[.val (.int p0), .val (.int p1), .val (.int (6 : Int32)), .unset, .unset, .unset, .unset, .unset, .unset] []) (fun _ kk => XS.ifYes X0.here hx rfl (pc0 := 11) (pc' := 18) rfl (hb hby at_11) rfl ((if0 _ _).trans (teq hc63).1) (by decide) (by decide) kk) ?_
      refine ob s₁ (mkF mG 19 #[.val (.int p0), .val (.int p1), .val (.int (6 : Int32)), .unset, .unset, .unset, .unset, .unset, .unset] [(.int (0 : Int32))]) (fun _ kk => XS.iconst X0.here hx rfl (hb hby at_18) kk) ?_
      refine ob s₁ (mkF mG 20 #[.val (.int p0), .val (.int p1), .val (.int (6 : Int32)), .val (.int (0 : Int32)), .unset, .unset, .unset, .unset, .unset] []) (fun _ kk => XS.istoreN X0.here hx rfl (hb hby at_19) rfl (l' := #[.val (.int p0), .val (.int p1), .val (.int (6 : Int32)), .val (.int (0 : Int32)), .unset, .unset, .unset, .unset, .unset]) rfl kk) ?_
      refine ob s₁ (mkF mG 21 #[.val (.int p0), .val (.int p1), .val (.int (6 : Int32)), .val (.int (0 : Int32)), .unset, .unset, .unset, .unset, .unset] [(.int (6 : Int32))]) (fun _ kk => XS.iloadN X0.here hx rfl (hb hby at_20) rfl kk) ?_
      obtain ⟨_, _, ⟨T64, L64, k64, n64⟩, -, X64, ⟨Lc64, hQ64, l64, y64, z64⟩, st64⟩ := Jvm.LawKit.callS X0 hx (y := (⟨"com/example/vorgang/vorgang/model/PolicyApplyPinLaw", "pick", "(I)Lcom/example/vorgang/vorgang/model/Policy;"⟩ : MethodName)) hown (mvT hZ (ow hw 1 rfl)) (mvT hZ (ow hw 2 rfl)) (mvT hZ (ow hw 3 rfl)) (mvT hZ (ow hw 4 rfl)) (by decide) (backOf (W := 0) (rm_pick6 l Z a0 hw [] w_Required w_RECEIVED w_NotSupported w_NONE w_RequiresNew w_NEW w_Mandatory w_BeanManaged w_Never w_Supports w_EMPTY  h0 n0 O0 hS ) hZ (ow hw 4 rfl) (ow hw 3 rfl) (by decide) (by decide)) (g := (mkF mG 21 #[.val (.int p0), .val (.int p1), .val (.int (6 : Int32)), .val (.int (0 : Int32)), .unset, .unset, .unset, .unset, .unset] [(.int (6 : Int32))])) rfl (by rw [hml]; rfl) (argsL := [(.int (6 : Int32))]) (rest := []) (lenOf pd_3 rfl) rfl (by show 2 * 0 + _ ≤ _; exact Nat.le_of_eq rfl) (hb hby at_21) (fun _ _ => ⟨rfl, e0, (by decide : 0 + 0 ≤ _), (by decide : 0 + 0 ≤ _)⟩)
      dsimp only [Pt.U, Pt.locs, Pt.cells, Pt.slots] at X64 l64 y64 z64 st64 hQ64
      subst l64 y64 z64
      obtain ⟨rfl, N64q, e64⟩ := hQ64
      have N64 := Fr.app N0 N64q
      refine ob T64 (mkF mG 24 #[.val (.int p0), .val (.int p1), .val (.int (6 : Int32)), .val (.int (0 : Int32)), .unset, .unset, .unset, .unset, .unset] [(.ref w_BeanManaged)]) (fun _ kk => st64 _ kk) ?_
      refine ob T64 (mkF mG 26 #[.val (.int p0), .val (.int p1), .val (.int (6 : Int32)), .val (.int (0 : Int32)), .val (.ref w_BeanManaged), .unset, .unset, .unset, .unset] []) (fun _ kk => XS.astore X64.here hx rfl (hb hby at_24) rfl rfl (l' := #[.val (.int p0), .val (.int p1), .val (.int (6 : Int32)), .val (.int (0 : Int32)), .val (.ref w_BeanManaged), .unset, .unset, .unset, .unset]) rfl kk) ?_
      refine ob T64 (mkF mG 28 #[.val (.int p0), .val (.int p1), .val (.int (6 : Int32)), .val (.int (0 : Int32)), .val (.ref w_BeanManaged), .unset, .unset, .unset, .unset] [(.ref w_BeanManaged)]) (fun _ kk => XS.aload X64.here hx rfl (hb hby at_26) rfl rfl kk) ?_
      refine ob T64 (mkF mG 29 #[.val (.int p0), .val (.int p1), .val (.int (6 : Int32)), .val (.int (0 : Int32)), .val (.ref w_BeanManaged), .unset, .unset, .unset, .unset] [(.int (0 : Int32)), (.ref w_BeanManaged)]) (fun _ kk => XS.iloadN X64.here hx rfl (hb hby at_28) rfl kk) ?_
      obtain ⟨cq65, kq65, q65a, q65b, q65c⟩ := isOf hZ e64 (E_w_BeanManaged.ext O0.2)
      obtain ⟨_, _, ⟨T65, L65, k65, n65⟩, -, X65, ⟨Lc65, hQ65, l65, y65, z65⟩, st65⟩ := X64.virtualBack hx (y := (⟨"com/example/vorgang/vorgang/model/Policy", "apply", "(Z)Ljava/util/Optional;"⟩ : MethodName)) (z := (⟨"com/example/vorgang/vorgang/model/Policy", "apply", "(Z)Ljava/util/Optional;"⟩ : MethodName)) hown (mvT hZ (ow hw 8 rfl)) (mvT hZ (ow hw 9 rfl)) (notFace_of_selects (args := #[]) (mvT hZ (ow hw 11 rfl))) (mvT hZ (ow hw 11 rfl)) (mvT hZ (ow hw 10 rfl)) (by decide) (backOf (W := 0) (rm_ap6_0 l Z a0 hw [] w_Required w_RECEIVED w_NotSupported w_NONE w_RequiresNew w_NEW w_Mandatory w_BeanManaged w_Never w_Supports w_EMPTY  h0 n0 O0 hS ) hZ (ow hw 12 rfl) (ow hw 6 rfl) (by decide) (by decide)) q65a q65c (g := (mkF mG 29 #[.val (.int p0), .val (.int p1), .val (.int (6 : Int32)), .val (.int (0 : Int32)), .val (.ref w_BeanManaged), .unset, .unset, .unset, .unset] [(.int (0 : Int32)), (.ref w_BeanManaged)])) rfl (by rw [hml]; rfl) (Steps.refl _) (argsL := [(.int (0 : Int32))]) (rest := []) (lenOf pd_4 rfl) rfl (by show 2 * 0 + _ ≤ _; exact Nat.le_of_eq rfl) (hb hby at_29) (fun _ _ => ⟨rfl, e64, (by decide : 0 + 1 ≤ _), (by decide : 0 + 1 ≤ _)⟩)
      dsimp only [Pt.U, Pt.locs, Pt.cells, Pt.slots] at X65 l65 y65 z65 st65 hQ65
      subst l65 y65 z65
      obtain ⟨h65, e65⟩ : ∃ h, T65.heap = h := ⟨_, rfl⟩
      rw [e65] at hQ65
      obtain ⟨b0_65, rfl, N65q, K65q, O65, n_b0_65, z_b0_65, F65_0, F65_1⟩ := hQ65
      have N65 := Fr.app N64 N65q
      have sz_b0_65 : h0.size ≤ b0_65 := Nat.le_trans K0.1 z_b0_65
      have K65 := K0.trans K65q all0
      refine ob T65 (mkF mG 32 #[.val (.int p0), .val (.int p1), .val (.int (6 : Int32)), .val (.int (0 : Int32)), .val (.ref w_BeanManaged), .unset, .unset, .unset, .unset] [(.ref b0_65)]) (fun _ kk => st65.trans kk) ?_
      refine ob T65 (mkF mG 34 #[.val (.int p0), .val (.int p1), .val (.int (6 : Int32)), .val (.int (0 : Int32)), .val (.ref w_BeanManaged), .val (.ref b0_65), .unset, .unset, .unset] []) (fun _ kk => XS.astore X65.here hx rfl (hb hby at_32) rfl rfl (l' := #[.val (.int p0), .val (.int p1), .val (.int (6 : Int32)), .val (.int (0 : Int32)), .val (.ref w_BeanManaged), .val (.ref b0_65), .unset, .unset, .unset]) rfl kk) ?_
      refine ob T65 (mkF mG 36 #[.val (.int p0), .val (.int p1), .val (.int (6 : Int32)), .val (.int (0 : Int32)), .val (.ref w_BeanManaged), .val (.ref b0_65), .unset, .unset, .unset] [(.ref b0_65)]) (fun _ kk => XS.aload X65.here hx rfl (hb hby at_34) rfl rfl kk) ?_
      refine ob T65 (mkF mG 41 #[.val (.int p0), .val (.int p1), .val (.int (6 : Int32)), .val (.int (0 : Int32)), .val (.ref w_BeanManaged), .val (.ref b0_65), .unset, .unset, .unset] []) (fun _ kk => XS.ifnonnullYes X65.here hx rfl (pc0 := 36) (pc' := 41) rfl (hb hby at_36) rfl (by decide) (by decide) kk) ?_
      refine ob T65 (mkF mG 42 #[.val (.int p0), .val (.int p1), .val (.int (6 : Int32)), .val (.int (0 : Int32)), .val (.ref w_BeanManaged), .val (.ref b0_65), .unset, .unset, .unset] [(.int (6 : Int32))]) (fun _ kk => XS.iloadN X65.here hx rfl (hb hby at_41) rfl kk) ?_
      refine ob T65 (mkF mG 43 #[.val (.int p0), .val (.int p1), .val (.int (6 : Int32)), .val (.int (0 : Int32)), .val (.ref w_BeanManaged), .val (.ref b0_65), .unset, .unset, .unset] [(.int (4 : Int32)), (.int (6 : Int32))]) (fun _ kk => XS.iconst X65.here hx rfl (hb hby at_42) kk) ?_
      refine ob T65 (mkF mG 50 #[.val (.int p0), .val (.int p1), .val (.int (6 : Int32)), .val (.int (0 : Int32)), .val (.ref w_BeanManaged), .val (.ref b0_65), .unset, .unset, .unset] []) (fun _ kk => XS.icmpYes X65.here hx rfl (pc0 := 43) (pc' := 50) rfl (hb hby at_43) rfl (feq (by decide : ¬ ((6 : Int32) = (4 : Int32)))).2 (by decide) (by decide) kk) ?_
      refine ob T65 (mkF mG 51 #[.val (.int p0), .val (.int p1), .val (.int (6 : Int32)), .val (.int (0 : Int32)), .val (.ref w_BeanManaged), .val (.ref b0_65), .unset, .unset, .unset] [(.int (6 : Int32))]) (fun _ kk => XS.iloadN X65.here hx rfl (hb hby at_50) rfl kk) ?_
      refine ob T65 (mkF mG 52 #[.val (.int p0), .val (.int p1), .val (.int (6 : Int32)), .val (.int (0 : Int32)), .val (.ref w_BeanManaged), .val (.ref b0_65), .unset, .unset, .unset] [(.int (5 : Int32)), (.int (6 : Int32))]) (fun _ kk => XS.iconst X65.here hx rfl (hb hby at_51) kk) ?_
      refine ob T65 (mkF mG 63 #[.val (.int p0), .val (.int p1), .val (.int (6 : Int32)), .val (.int (0 : Int32)), .val (.ref w_BeanManaged), .val (.ref b0_65), .unset, .unset, .unset] []) (fun _ kk => XS.icmpYes X65.here hx rfl (pc0 := 52) (pc' := 63) rfl (hb hby at_52) rfl (feq (by decide : ¬ ((6 : Int32) = (5 : Int32)))).2 (by decide) (by decide) kk) ?_
      refine ob T65 (mkF mG 64 #[.val (.int p0), .val (.int p1), .val (.int (6 : Int32)), .val (.int (0 : Int32)), .val (.ref w_BeanManaged), .val (.ref b0_65), .unset, .unset, .unset] [(.int (0 : Int32))]) (fun _ kk => XS.iconst X65.here hx rfl (hb hby at_63) kk) ?_
      refine ob T65 (mkF mG 66 #[.val (.int p0), .val (.int p1), .val (.int (6 : Int32)), .val (.int (0 : Int32)), .val (.ref w_BeanManaged), .val (.ref b0_65), .val (.int (0 : Int32)), .unset, .unset] []) (fun _ kk => XS.istore X65.here hx rfl (hb hby at_64) rfl (l' := #[.val (.int p0), .val (.int p1), .val (.int (6 : Int32)), .val (.int (0 : Int32)), .val (.ref w_BeanManaged), .val (.ref b0_65), .val (.int (0 : Int32)), .unset, .unset]) rfl kk) ?_
      refine ob T65 (mkF mG 68 #[.val (.int p0), .val (.int p1), .val (.int (6 : Int32)), .val (.int (0 : Int32)), .val (.ref w_BeanManaged), .val (.ref b0_65), .val (.int (0 : Int32)), .unset, .unset] [(.int (0 : Int32))]) (fun _ kk => XS.iload X65.here hx rfl (hb hby at_66) rfl kk) ?_
      refine ob T65 (mkF mG 85 #[.val (.int p0), .val (.int p1), .val (.int (6 : Int32)), .val (.int (0 : Int32)), .val (.ref w_BeanManaged), .val (.ref b0_65), .val (.int (0 : Int32)), .unset, .unset] []) (fun _ kk => XS.ifYes X65.here hx rfl (pc0 := 68) (pc' := 85) rfl (hb hby at_68) rfl ((if0 _ _).trans (teq (by decide : (0 : Int32) = (0 : Int32))).1) (by decide) (by decide) kk) ?_
      refine ob T65 (mkF mG 87 #[.val (.int p0), .val (.int p1), .val (.int (6 : Int32)), .val (.int (0 : Int32)), .val (.ref w_BeanManaged), .val (.ref b0_65), .val (.int (0 : Int32)), .unset, .unset] [(.ref b0_65)]) (fun _ kk => XS.aload X65.here hx rfl (hb hby at_85) rfl rfl kk) ?_
      obtain ⟨cq66, kq66, q66a, q66b, q66c⟩ := isOf hZ e65 F65_0
      obtain ⟨_, _, ⟨T66, L66, k66, n66⟩, -, X66, ⟨Lc66, hQ66, l66, y66, z66⟩, st66⟩ := X65.virtualBack hx (y := (⟨"java/util/Optional", "isPresent", "()Z"⟩ : MethodName)) (z := (⟨"java/util/Optional", "isPresent", "()Z"⟩ : MethodName)) hown (mvT hZ (ow hw 40 rfl)) (mvT hZ (ow hw 41 rfl)) (notFace_of_selects (args := #[]) (mvT hZ (ow hw 43 rfl))) (mvT hZ (ow hw 43 rfl)) (mvT hZ (ow hw 42 rfl)) (by decide) (backOf (W := 0) (rm_ipS l Z a0 hw [] w_Required w_RECEIVED w_NotSupported w_NONE w_RequiresNew w_NEW w_Mandatory w_BeanManaged w_Never w_Supports w_EMPTY b0_65 w_NONE h65 n0 O65 hS F65_1) hZ (ow hw 44 rfl) (ow hw 27 rfl) (by decide) (by decide)) q66a q66c (g := (mkF mG 87 #[.val (.int p0), .val (.int p1), .val (.int (6 : Int32)), .val (.int (0 : Int32)), .val (.ref w_BeanManaged), .val (.ref b0_65), .val (.int (0 : Int32)), .unset, .unset] [(.ref b0_65)])) rfl (by rw [hml]; rfl) (Steps.refl _) (argsL := []) (rest := []) (lenOf pd_5 rfl) rfl (by show 2 * 0 + _ ≤ _; exact Nat.le_of_eq rfl) (hb hby at_87) (fun _ _ => ⟨rfl, e65, (by decide : 1 + 0 ≤ _), (by decide : 1 + 0 ≤ _)⟩)
      dsimp only [Pt.U, Pt.locs, Pt.cells, Pt.slots] at X66 l66 y66 z66 st66 hQ66
      subst l66 y66 z66
      obtain ⟨rfl, N66q, e66⟩ := hQ66
      have N66 := Fr.app N65 N66q
      refine ob T66 (mkF mG 90 #[.val (.int p0), .val (.int p1), .val (.int (6 : Int32)), .val (.int (0 : Int32)), .val (.ref w_BeanManaged), .val (.ref b0_65), .val (.int (0 : Int32)), .unset, .unset] [(.int (1 : Int32))]) (fun _ kk => st66.trans kk) ?_
      refine ob T66 (mkF mG 95 #[.val (.int p0), .val (.int p1), .val (.int (6 : Int32)), .val (.int (0 : Int32)), .val (.ref w_BeanManaged), .val (.ref b0_65), .val (.int (0 : Int32)), .unset, .unset] []) (fun _ kk => XS.ifYes X66.here hx rfl (pc0 := 90) (pc' := 95) rfl (hb hby at_90) rfl ((if0 _ _).trans (feq (by decide : ¬ ((1 : Int32) = (0 : Int32)))).2) (by decide) (by decide) kk) ?_
      refine ob T66 (mkF mG 96 #[.val (.int p0), .val (.int p1), .val (.int (6 : Int32)), .val (.int (0 : Int32)), .val (.ref w_BeanManaged), .val (.ref b0_65), .val (.int (0 : Int32)), .unset, .unset] [(.int (0 : Int32))]) (fun _ kk => XS.iloadN X66.here hx rfl (hb hby at_95) rfl kk) ?_
      refine ob T66 (mkF mG 117 #[.val (.int p0), .val (.int p1), .val (.int (6 : Int32)), .val (.int (0 : Int32)), .val (.ref w_BeanManaged), .val (.ref b0_65), .val (.int (0 : Int32)), .unset, .unset] []) (fun _ kk => XS.ifYes X66.here hx rfl (pc0 := 96) (pc' := 117) rfl (hb hby at_96) rfl ((if0 _ _).trans (teq (by decide : (0 : Int32) = (0 : Int32))).1) (by decide) (by decide) kk) ?_
      refine ob T66 (mkF mG 118 #[.val (.int p0), .val (.int p1), .val (.int (6 : Int32)), .val (.int (0 : Int32)), .val (.ref w_BeanManaged), .val (.ref b0_65), .val (.int (0 : Int32)), .unset, .unset] [(.int (0 : Int32))]) (fun _ kk => XS.iconst X66.here hx rfl (hb hby at_117) kk) ?_
      refine ob T66 (mkF mG 120 #[.val (.int p0), .val (.int p1), .val (.int (6 : Int32)), .val (.int (0 : Int32)), .val (.ref w_BeanManaged), .val (.ref b0_65), .val (.int (0 : Int32)), .val (.int (0 : Int32)), .unset] []) (fun _ kk => XS.istore X66.here hx rfl (hb hby at_118) rfl (l' := #[.val (.int p0), .val (.int p1), .val (.int (6 : Int32)), .val (.int (0 : Int32)), .val (.ref w_BeanManaged), .val (.ref b0_65), .val (.int (0 : Int32)), .val (.int (0 : Int32)), .unset]) rfl kk) ?_
      refine ob T66 (mkF mG 122 #[.val (.int p0), .val (.int p1), .val (.int (6 : Int32)), .val (.int (0 : Int32)), .val (.ref w_BeanManaged), .val (.ref b0_65), .val (.int (0 : Int32)), .val (.int (0 : Int32)), .unset] [(.int (0 : Int32))]) (fun _ kk => XS.iload X66.here hx rfl (hb hby at_120) rfl kk) ?_
      refine ob T66 (mkF mG 133 #[.val (.int p0), .val (.int p1), .val (.int (6 : Int32)), .val (.int (0 : Int32)), .val (.ref w_BeanManaged), .val (.ref b0_65), .val (.int (0 : Int32)), .val (.int (0 : Int32)), .unset] []) (fun _ kk => XS.ifYes X66.here hx rfl (pc0 := 122) (pc' := 133) rfl (hb hby at_122) rfl ((if0 _ _).trans (teq (by decide : (0 : Int32) = (0 : Int32))).1) (by decide) (by decide) kk) ?_
      refine ob T66 (mkF mG 134 #[.val (.int p0), .val (.int p1), .val (.int (6 : Int32)), .val (.int (0 : Int32)), .val (.ref w_BeanManaged), .val (.ref b0_65), .val (.int (0 : Int32)), .val (.int (0 : Int32)), .unset] [(.int (6 : Int32))]) (fun _ kk => XS.iloadN X66.here hx rfl (hb hby at_133) rfl kk) ?_
      refine ob T66 (mkF mG 135 #[.val (.int p0), .val (.int p1), .val (.int (6 : Int32)), .val (.int (0 : Int32)), .val (.ref w_BeanManaged), .val (.ref b0_65), .val (.int (0 : Int32)), .val (.int (0 : Int32)), .unset] [(.int (1 : Int32)), (.int (6 : Int32))]) (fun _ kk => XS.iconst X66.here hx rfl (hb hby at_134) kk) ?_
      refine ob T66 (mkF mG 138 #[.val (.int p0), .val (.int p1), .val (.int (6 : Int32)), .val (.int (0 : Int32)), .val (.ref w_BeanManaged), .val (.ref b0_65), .val (.int (0 : Int32)), .val (.int (0 : Int32)), .unset] []) (fun _ kk => XS.icmpNo X66.here hx rfl (hb hby at_135) rfl (feq (by decide : ¬ ((6 : Int32) = (1 : Int32)))).1 kk) ?_
      refine ob T66 (mkF mG 139 #[.val (.int p0), .val (.int p1), .val (.int (6 : Int32)), .val (.int (0 : Int32)), .val (.ref w_BeanManaged), .val (.ref b0_65), .val (.int (0 : Int32)), .val (.int (0 : Int32)), .unset] [(.int (6 : Int32))]) (fun _ kk => XS.iloadN X66.here hx rfl (hb hby at_138) rfl kk) ?_
      refine ob T66 (mkF mG 154 #[.val (.int p0), .val (.int p1), .val (.int (6 : Int32)), .val (.int (0 : Int32)), .val (.ref w_BeanManaged), .val (.ref b0_65), .val (.int (0 : Int32)), .val (.int (0 : Int32)), .unset] []) (fun _ kk => XS.ifYes X66.here hx rfl (pc0 := 139) (pc' := 154) rfl (hb hby at_139) rfl ((if0 _ _).trans (feq (by decide : ¬ ((6 : Int32) = (0 : Int32)))).2) (by decide) (by decide) kk) ?_
      obtain ⟨T67, X67, e67, st67⟩ := getS2 X66 hx hZ hown (host := "") (Or.inl (ow hw 55 rfl)) Via.refl e66 (S_w_NONE.ext O65.2) (g := (mkF mG 154 #[.val (.int p0), .val (.int p1), .val (.int (6 : Int32)), .val (.int (0 : Int32)), .val (.ref w_BeanManaged), .val (.ref b0_65), .val (.int (0 : Int32)), .val (.int (0 : Int32)), .unset] [])) rfl (hb hby at_154)
      refine ob T67 (mkF mG 157 #[.val (.int p0), .val (.int p1), .val (.int (6 : Int32)), .val (.int (0 : Int32)), .val (.ref w_BeanManaged), .val (.ref b0_65), .val (.int (0 : Int32)), .val (.int (0 : Int32)), .unset] [(.ref w_NONE)]) (fun _ kk => st67 _ kk) ?_
      refine ob T67 (mkF mG 159 #[.val (.int p0), .val (.int p1), .val (.int (6 : Int32)), .val (.int (0 : Int32)), .val (.ref w_BeanManaged), .val (.ref b0_65), .val (.int (0 : Int32)), .val (.int (0 : Int32)), .val (.ref w_NONE)] []) (fun _ kk => XS.astore X67.here hx rfl (hb hby at_157) rfl rfl (l' := #[.val (.int p0), .val (.int p1), .val (.int (6 : Int32)), .val (.int (0 : Int32)), .val (.ref w_BeanManaged), .val (.ref b0_65), .val (.int (0 : Int32)), .val (.int (0 : Int32)), .val (.ref w_NONE)]) rfl kk) ?_
      refine ob T67 (mkF mG 161 #[.val (.int p0), .val (.int p1), .val (.int (6 : Int32)), .val (.int (0 : Int32)), .val (.ref w_BeanManaged), .val (.ref b0_65), .val (.int (0 : Int32)), .val (.int (0 : Int32)), .val (.ref w_NONE)] [(.ref b0_65)]) (fun _ kk => XS.aload X67.here hx rfl (hb hby at_159) rfl rfl kk) ?_
      obtain ⟨cq68, kq68, q68a, q68b, q68c⟩ := isOf hZ e67 F65_0
      obtain ⟨_, _, ⟨T68, L68, k68, n68⟩, -, X68, ⟨Lc68, hQ68, l68, y68, z68⟩, st68⟩ := X67.virtualBack hx (y := (⟨"java/util/Optional", "get", "()Ljava/lang/Object;"⟩ : MethodName)) (z := (⟨"java/util/Optional", "get", "()Ljava/lang/Object;"⟩ : MethodName)) hown (mvT hZ (ow hw 46 rfl)) (mvT hZ (ow hw 47 rfl)) (notFace_of_selects (args := #[]) (mvT hZ (ow hw 49 rfl))) (mvT hZ (ow hw 49 rfl)) (mvT hZ (ow hw 48 rfl)) (by decide) (backOf (W := 0) (rm_get l Z a0 hw [] w_Required w_RECEIVED w_NotSupported w_NONE w_RequiresNew w_NEW w_Mandatory w_BeanManaged w_Never w_Supports w_EMPTY b0_65 w_NONE h65 n0 O65 hS F65_1) hZ (ow hw 50 rfl) (ow hw 27 rfl) (by decide) (by decide)) q68a q68c (g := (mkF mG 161 #[.val (.int p0), .val (.int p1), .val (.int (6 : Int32)), .val (.int (0 : Int32)), .val (.ref w_BeanManaged), .val (.ref b0_65), .val (.int (0 : Int32)), .val (.int (0 : Int32)), .val (.ref w_NONE)] [(.ref b0_65)])) rfl (by rw [hml]; rfl) (Steps.refl _) (argsL := []) (rest := []) (lenOf pd_6 rfl) rfl (by show 2 * 0 + _ ≤ _; exact Nat.le_of_eq rfl) (hb hby at_161) (fun _ _ => ⟨rfl, e67, (by decide : 1 + 0 ≤ _), (by decide : 1 + 0 ≤ _)⟩)
      dsimp only [Pt.U, Pt.locs, Pt.cells, Pt.slots] at X68 l68 y68 z68 st68 hQ68
      subst l68 y68 z68
      obtain ⟨rfl, N68q, e68⟩ := hQ68
      have N68 := Fr.app N66 N68q
      refine ob T68 (mkF mG 164 #[.val (.int p0), .val (.int p1), .val (.int (6 : Int32)), .val (.int (0 : Int32)), .val (.ref w_BeanManaged), .val (.ref b0_65), .val (.int (0 : Int32)), .val (.int (0 : Int32)), .val (.ref w_NONE)] [(.ref w_NONE)]) (fun _ kk => st68.trans kk) ?_
      refine ob T68 (mkF mG 166 #[.val (.int p0), .val (.int p1), .val (.int (6 : Int32)), .val (.int (0 : Int32)), .val (.ref w_BeanManaged), .val (.ref b0_65), .val (.int (0 : Int32)), .val (.int (0 : Int32)), .val (.ref w_NONE)] [(.ref w_NONE), (.ref w_NONE)]) (fun _ kk => XS.aload X68.here hx rfl (hb hby at_164) rfl rfl kk) ?_
      refine ob T68 (mkF mG 169 #[.val (.int p0), .val (.int p1), .val (.int (6 : Int32)), .val (.int (0 : Int32)), .val (.ref w_BeanManaged), .val (.ref b0_65), .val (.int (0 : Int32)), .val (.int (0 : Int32)), .val (.ref w_NONE)] []) (fun _ kk => Jvm.RoadKit.acmp (g := (mkF mG 166 #[.val (.int p0), .val (.int p1), .val (.int (6 : Int32)), .val (.int (0 : Int32)), .val (.ref w_BeanManaged), .val (.ref b0_65), .val (.int (0 : Int32)), .val (.int (0 : Int32)), .val (.ref w_NONE)] [(.ref w_NONE), (.ref w_NONE)])) X68 hx rfl rfl rfl (pc0 := 166) (pc' := 169) (same := true) rfl (hb hby at_166) rfl (decide_eq_true rfl) (by decide) (by decide) kk) ?_
      refine ob T68 (mkF mG 170 #[.val (.int p0), .val (.int p1), .val (.int (6 : Int32)), .val (.int (0 : Int32)), .val (.ref w_BeanManaged), .val (.ref b0_65), .val (.int (0 : Int32)), .val (.int (0 : Int32)), .val (.ref w_NONE)] [(.int (1 : Int32))]) (fun _ kk => XS.iconst X68.here hx rfl (hb hby at_169) kk) ?_
      refine ob T68 (mkF mG 174 #[.val (.int p0), .val (.int p1), .val (.int (6 : Int32)), .val (.int (0 : Int32)), .val (.ref w_BeanManaged), .val (.ref b0_65), .val (.int (0 : Int32)), .val (.int (0 : Int32)), .val (.ref w_NONE)] [(.int (1 : Int32))]) (fun _ kk => XS.goto X68.here hx rfl (pc0 := 170) (pc' := 174) rfl (hb hby at_170) (by decide) (by decide) kk) ?_
      obtain ⟨fs, hr, hrun, hended, hW, hsame⟩ := X68.leave (v := some (.int (1 : Int32))) (fun h => by rw [Bd.returns] at h; cases h)
      refine oout (retN X68 hx (t := .boolean) Bd.returns (by simp) (hb hby at_174) hr) hrun hended ⟨_, _, rfl, ?_, ⟨_, rfl⟩, hW, hsame.mono (by decide) (by decide)⟩
      show Q_rm0 Z w_Required w_RECEIVED w_NotSupported w_NONE w_RequiresNew w_NEW w_Mandatory w_BeanManaged w_Never w_Supports w_EMPTY p0 p1 h0 n0 _ T68.heap _
      rw [e68]
      exact ⟨rfl, N68⟩
    · skip
      refine ob s₁ (mkF mG 14 #[.val (.int p0), .val (.int p1), .val (.int (6 : Int32)), .unset, .unset, .unset, .unset, .unset, .unset] []) (fun _ kk => XS.ifNo X0.here hx rfl (hb hby at_11) rfl ((if0 _ _).trans (feq hc63).1) kk) ?_
      refine ob s₁ (mkF mG 15 #[.val (.int p0), .val (.int p1), .val (.int (6 : Int32)), .unset, .unset, .unset, .unset, .unset, .unset] [(.int (1 : Int32))]) (fun _ kk => XS.iconst X0.here hx rfl (hb hby at_14) kk) ?_
      refine ob s₁ (mkF mG 19 #[.val (.int p0), .val (.int p1), .val (.int (6 : Int32)), .unset, .unset, .unset, .unset, .unset, .unset] [(.int (1 : Int32))]) (fun _ kk => XS.goto X0.here hx rfl (pc0 := 15) (pc' := 19) rfl (hb hby at_15) (by decide) (by decide) kk) ?_
      refine ob s₁ (mkF mG 20 #[.val (.int p0), .val (.int p1), .val (.int (6 : Int32)), .val (.int (1 : Int32)), .unset, .unset, .unset, .unset, .unset] []) (fun _ kk => XS.istoreN X0.here hx rfl (hb hby at_19) rfl (l' := #[.val (.int p0), .val (.int p1), .val (.int (6 : Int32)), .val (.int (1 : Int32)), .unset, .unset, .unset, .unset, .unset]) rfl kk) ?_
      refine ob s₁ (mkF mG 21 #[.val (.int p0), .val (.int p1), .val (.int (6 : Int32)), .val (.int (1 : Int32)), .unset, .unset, .unset, .unset, .unset] [(.int (6 : Int32))]) (fun _ kk => XS.iloadN X0.here hx rfl (hb hby at_20) rfl kk) ?_
      obtain ⟨_, _, ⟨T69, L69, k69, n69⟩, -, X69, ⟨Lc69, hQ69, l69, y69, z69⟩, st69⟩ := Jvm.LawKit.callS X0 hx (y := (⟨"com/example/vorgang/vorgang/model/PolicyApplyPinLaw", "pick", "(I)Lcom/example/vorgang/vorgang/model/Policy;"⟩ : MethodName)) hown (mvT hZ (ow hw 1 rfl)) (mvT hZ (ow hw 2 rfl)) (mvT hZ (ow hw 3 rfl)) (mvT hZ (ow hw 4 rfl)) (by decide) (backOf (W := 0) (rm_pick6 l Z a0 hw [] w_Required w_RECEIVED w_NotSupported w_NONE w_RequiresNew w_NEW w_Mandatory w_BeanManaged w_Never w_Supports w_EMPTY  h0 n0 O0 hS ) hZ (ow hw 4 rfl) (ow hw 3 rfl) (by decide) (by decide)) (g := (mkF mG 21 #[.val (.int p0), .val (.int p1), .val (.int (6 : Int32)), .val (.int (1 : Int32)), .unset, .unset, .unset, .unset, .unset] [(.int (6 : Int32))])) rfl (by rw [hml]; rfl) (argsL := [(.int (6 : Int32))]) (rest := []) (lenOf pd_3 rfl) rfl (by show 2 * 0 + _ ≤ _; exact Nat.le_of_eq rfl) (hb hby at_21) (fun _ _ => ⟨rfl, e0, (by decide : 0 + 0 ≤ _), (by decide : 0 + 0 ≤ _)⟩)
      dsimp only [Pt.U, Pt.locs, Pt.cells, Pt.slots] at X69 l69 y69 z69 st69 hQ69
      subst l69 y69 z69
      obtain ⟨rfl, N69q, e69⟩ := hQ69
      have N69 := Fr.app N0 N69q
      refine ob T69 (mkF mG 24 #[.val (.int p0), .val (.int p1), .val (.int (6 : Int32)), .val (.int (1 : Int32)), .unset, .unset, .unset, .unset, .unset] [(.ref w_BeanManaged)]) (fun _ kk => st69 _ kk) ?_
      refine ob T69 (mkF mG 26 #[.val (.int p0), .val (.int p1), .val (.int (6 : Int32)), .val (.int (1 : Int32)), .val (.ref w_BeanManaged), .unset, .unset, .unset, .unset] []) (fun _ kk => XS.astore X69.here hx rfl (hb hby at_24) rfl rfl (l' := #[.val (.int p0), .val (.int p1), .val (.int (6 : Int32)), .val (.int (1 : Int32)), .val (.ref w_BeanManaged), .unset, .unset, .unset, .unset]) rfl kk) ?_
      refine ob T69 (mkF mG 28 #[.val (.int p0), .val (.int p1), .val (.int (6 : Int32)), .val (.int (1 : Int32)), .val (.ref w_BeanManaged), .unset, .unset, .unset, .unset] [(.ref w_BeanManaged)]) (fun _ kk => XS.aload X69.here hx rfl (hb hby at_26) rfl rfl kk) ?_
      refine ob T69 (mkF mG 29 #[.val (.int p0), .val (.int p1), .val (.int (6 : Int32)), .val (.int (1 : Int32)), .val (.ref w_BeanManaged), .unset, .unset, .unset, .unset] [(.int (1 : Int32)), (.ref w_BeanManaged)]) (fun _ kk => XS.iloadN X69.here hx rfl (hb hby at_28) rfl kk) ?_
      obtain ⟨cq70, kq70, q70a, q70b, q70c⟩ := isOf hZ e69 (E_w_BeanManaged.ext O0.2)
      obtain ⟨_, _, ⟨T70, L70, k70, n70⟩, -, X70, ⟨Lc70, hQ70, l70, y70, z70⟩, st70⟩ := X69.virtualBack hx (y := (⟨"com/example/vorgang/vorgang/model/Policy", "apply", "(Z)Ljava/util/Optional;"⟩ : MethodName)) (z := (⟨"com/example/vorgang/vorgang/model/Policy", "apply", "(Z)Ljava/util/Optional;"⟩ : MethodName)) hown (mvT hZ (ow hw 8 rfl)) (mvT hZ (ow hw 9 rfl)) (notFace_of_selects (args := #[]) (mvT hZ (ow hw 11 rfl))) (mvT hZ (ow hw 11 rfl)) (mvT hZ (ow hw 10 rfl)) (by decide) (backOf (W := 0) (rm_ap6_1 l Z a0 hw [] w_Required w_RECEIVED w_NotSupported w_NONE w_RequiresNew w_NEW w_Mandatory w_BeanManaged w_Never w_Supports w_EMPTY  h0 n0 O0 hS ) hZ (ow hw 12 rfl) (ow hw 6 rfl) (by decide) (by decide)) q70a q70c (g := (mkF mG 29 #[.val (.int p0), .val (.int p1), .val (.int (6 : Int32)), .val (.int (1 : Int32)), .val (.ref w_BeanManaged), .unset, .unset, .unset, .unset] [(.int (1 : Int32)), (.ref w_BeanManaged)])) rfl (by rw [hml]; rfl) (Steps.refl _) (argsL := [(.int (1 : Int32))]) (rest := []) (lenOf pd_4 rfl) rfl (by show 2 * 0 + _ ≤ _; exact Nat.le_of_eq rfl) (hb hby at_29) (fun _ _ => ⟨rfl, e69, (by decide : 0 + 1 ≤ _), (by decide : 0 + 1 ≤ _)⟩)
      dsimp only [Pt.U, Pt.locs, Pt.cells, Pt.slots] at X70 l70 y70 z70 st70 hQ70
      subst l70 y70 z70
      obtain ⟨h70, e70⟩ : ∃ h, T70.heap = h := ⟨_, rfl⟩
      rw [e70] at hQ70
      obtain ⟨b0_70, rfl, N70q, K70q, O70, n_b0_70, z_b0_70, F70_0, F70_1⟩ := hQ70
      have N70 := Fr.app N69 N70q
      have sz_b0_70 : h0.size ≤ b0_70 := Nat.le_trans K0.1 z_b0_70
      have K70 := K0.trans K70q all0
      refine ob T70 (mkF mG 32 #[.val (.int p0), .val (.int p1), .val (.int (6 : Int32)), .val (.int (1 : Int32)), .val (.ref w_BeanManaged), .unset, .unset, .unset, .unset] [(.ref b0_70)]) (fun _ kk => st70.trans kk) ?_
      refine ob T70 (mkF mG 34 #[.val (.int p0), .val (.int p1), .val (.int (6 : Int32)), .val (.int (1 : Int32)), .val (.ref w_BeanManaged), .val (.ref b0_70), .unset, .unset, .unset] []) (fun _ kk => XS.astore X70.here hx rfl (hb hby at_32) rfl rfl (l' := #[.val (.int p0), .val (.int p1), .val (.int (6 : Int32)), .val (.int (1 : Int32)), .val (.ref w_BeanManaged), .val (.ref b0_70), .unset, .unset, .unset]) rfl kk) ?_
      refine ob T70 (mkF mG 36 #[.val (.int p0), .val (.int p1), .val (.int (6 : Int32)), .val (.int (1 : Int32)), .val (.ref w_BeanManaged), .val (.ref b0_70), .unset, .unset, .unset] [(.ref b0_70)]) (fun _ kk => XS.aload X70.here hx rfl (hb hby at_34) rfl rfl kk) ?_
      refine ob T70 (mkF mG 41 #[.val (.int p0), .val (.int p1), .val (.int (6 : Int32)), .val (.int (1 : Int32)), .val (.ref w_BeanManaged), .val (.ref b0_70), .unset, .unset, .unset] []) (fun _ kk => XS.ifnonnullYes X70.here hx rfl (pc0 := 36) (pc' := 41) rfl (hb hby at_36) rfl (by decide) (by decide) kk) ?_
      refine ob T70 (mkF mG 42 #[.val (.int p0), .val (.int p1), .val (.int (6 : Int32)), .val (.int (1 : Int32)), .val (.ref w_BeanManaged), .val (.ref b0_70), .unset, .unset, .unset] [(.int (6 : Int32))]) (fun _ kk => XS.iloadN X70.here hx rfl (hb hby at_41) rfl kk) ?_
      refine ob T70 (mkF mG 43 #[.val (.int p0), .val (.int p1), .val (.int (6 : Int32)), .val (.int (1 : Int32)), .val (.ref w_BeanManaged), .val (.ref b0_70), .unset, .unset, .unset] [(.int (4 : Int32)), (.int (6 : Int32))]) (fun _ kk => XS.iconst X70.here hx rfl (hb hby at_42) kk) ?_
      refine ob T70 (mkF mG 50 #[.val (.int p0), .val (.int p1), .val (.int (6 : Int32)), .val (.int (1 : Int32)), .val (.ref w_BeanManaged), .val (.ref b0_70), .unset, .unset, .unset] []) (fun _ kk => XS.icmpYes X70.here hx rfl (pc0 := 43) (pc' := 50) rfl (hb hby at_43) rfl (feq (by decide : ¬ ((6 : Int32) = (4 : Int32)))).2 (by decide) (by decide) kk) ?_
      refine ob T70 (mkF mG 51 #[.val (.int p0), .val (.int p1), .val (.int (6 : Int32)), .val (.int (1 : Int32)), .val (.ref w_BeanManaged), .val (.ref b0_70), .unset, .unset, .unset] [(.int (6 : Int32))]) (fun _ kk => XS.iloadN X70.here hx rfl (hb hby at_50) rfl kk) ?_
      refine ob T70 (mkF mG 52 #[.val (.int p0), .val (.int p1), .val (.int (6 : Int32)), .val (.int (1 : Int32)), .val (.ref w_BeanManaged), .val (.ref b0_70), .unset, .unset, .unset] [(.int (5 : Int32)), (.int (6 : Int32))]) (fun _ kk => XS.iconst X70.here hx rfl (hb hby at_51) kk) ?_
      refine ob T70 (mkF mG 63 #[.val (.int p0), .val (.int p1), .val (.int (6 : Int32)), .val (.int (1 : Int32)), .val (.ref w_BeanManaged), .val (.ref b0_70), .unset, .unset, .unset] []) (fun _ kk => XS.icmpYes X70.here hx rfl (pc0 := 52) (pc' := 63) rfl (hb hby at_52) rfl (feq (by decide : ¬ ((6 : Int32) = (5 : Int32)))).2 (by decide) (by decide) kk) ?_
      refine ob T70 (mkF mG 64 #[.val (.int p0), .val (.int p1), .val (.int (6 : Int32)), .val (.int (1 : Int32)), .val (.ref w_BeanManaged), .val (.ref b0_70), .unset, .unset, .unset] [(.int (0 : Int32))]) (fun _ kk => XS.iconst X70.here hx rfl (hb hby at_63) kk) ?_
      refine ob T70 (mkF mG 66 #[.val (.int p0), .val (.int p1), .val (.int (6 : Int32)), .val (.int (1 : Int32)), .val (.ref w_BeanManaged), .val (.ref b0_70), .val (.int (0 : Int32)), .unset, .unset] []) (fun _ kk => XS.istore X70.here hx rfl (hb hby at_64) rfl (l' := #[.val (.int p0), .val (.int p1), .val (.int (6 : Int32)), .val (.int (1 : Int32)), .val (.ref w_BeanManaged), .val (.ref b0_70), .val (.int (0 : Int32)), .unset, .unset]) rfl kk) ?_
      refine ob T70 (mkF mG 68 #[.val (.int p0), .val (.int p1), .val (.int (6 : Int32)), .val (.int (1 : Int32)), .val (.ref w_BeanManaged), .val (.ref b0_70), .val (.int (0 : Int32)), .unset, .unset] [(.int (0 : Int32))]) (fun _ kk => XS.iload X70.here hx rfl (hb hby at_66) rfl kk) ?_
      refine ob T70 (mkF mG 85 #[.val (.int p0), .val (.int p1), .val (.int (6 : Int32)), .val (.int (1 : Int32)), .val (.ref w_BeanManaged), .val (.ref b0_70), .val (.int (0 : Int32)), .unset, .unset] []) (fun _ kk => XS.ifYes X70.here hx rfl (pc0 := 68) (pc' := 85) rfl (hb hby at_68) rfl ((if0 _ _).trans (teq (by decide : (0 : Int32) = (0 : Int32))).1) (by decide) (by decide) kk) ?_
      refine ob T70 (mkF mG 87 #[.val (.int p0), .val (.int p1), .val (.int (6 : Int32)), .val (.int (1 : Int32)), .val (.ref w_BeanManaged), .val (.ref b0_70), .val (.int (0 : Int32)), .unset, .unset] [(.ref b0_70)]) (fun _ kk => XS.aload X70.here hx rfl (hb hby at_85) rfl rfl kk) ?_
      obtain ⟨cq71, kq71, q71a, q71b, q71c⟩ := isOf hZ e70 F70_0
      obtain ⟨_, _, ⟨T71, L71, k71, n71⟩, -, X71, ⟨Lc71, hQ71, l71, y71, z71⟩, st71⟩ := X70.virtualBack hx (y := (⟨"java/util/Optional", "isPresent", "()Z"⟩ : MethodName)) (z := (⟨"java/util/Optional", "isPresent", "()Z"⟩ : MethodName)) hown (mvT hZ (ow hw 40 rfl)) (mvT hZ (ow hw 41 rfl)) (notFace_of_selects (args := #[]) (mvT hZ (ow hw 43 rfl))) (mvT hZ (ow hw 43 rfl)) (mvT hZ (ow hw 42 rfl)) (by decide) (backOf (W := 0) (rm_ipS l Z a0 hw [] w_Required w_RECEIVED w_NotSupported w_NONE w_RequiresNew w_NEW w_Mandatory w_BeanManaged w_Never w_Supports w_EMPTY b0_70 w_NONE h70 n0 O70 hS F70_1) hZ (ow hw 44 rfl) (ow hw 27 rfl) (by decide) (by decide)) q71a q71c (g := (mkF mG 87 #[.val (.int p0), .val (.int p1), .val (.int (6 : Int32)), .val (.int (1 : Int32)), .val (.ref w_BeanManaged), .val (.ref b0_70), .val (.int (0 : Int32)), .unset, .unset] [(.ref b0_70)])) rfl (by rw [hml]; rfl) (Steps.refl _) (argsL := []) (rest := []) (lenOf pd_5 rfl) rfl (by show 2 * 0 + _ ≤ _; exact Nat.le_of_eq rfl) (hb hby at_87) (fun _ _ => ⟨rfl, e70, (by decide : 1 + 0 ≤ _), (by decide : 1 + 0 ≤ _)⟩)
      dsimp only [Pt.U, Pt.locs, Pt.cells, Pt.slots] at X71 l71 y71 z71 st71 hQ71
      subst l71 y71 z71
      obtain ⟨rfl, N71q, e71⟩ := hQ71
      have N71 := Fr.app N70 N71q
      refine ob T71 (mkF mG 90 #[.val (.int p0), .val (.int p1), .val (.int (6 : Int32)), .val (.int (1 : Int32)), .val (.ref w_BeanManaged), .val (.ref b0_70), .val (.int (0 : Int32)), .unset, .unset] [(.int (1 : Int32))]) (fun _ kk => st71.trans kk) ?_
      refine ob T71 (mkF mG 95 #[.val (.int p0), .val (.int p1), .val (.int (6 : Int32)), .val (.int (1 : Int32)), .val (.ref w_BeanManaged), .val (.ref b0_70), .val (.int (0 : Int32)), .unset, .unset] []) (fun _ kk => XS.ifYes X71.here hx rfl (pc0 := 90) (pc' := 95) rfl (hb hby at_90) rfl ((if0 _ _).trans (feq (by decide : ¬ ((1 : Int32) = (0 : Int32)))).2) (by decide) (by decide) kk) ?_
      refine ob T71 (mkF mG 96 #[.val (.int p0), .val (.int p1), .val (.int (6 : Int32)), .val (.int (1 : Int32)), .val (.ref w_BeanManaged), .val (.ref b0_70), .val (.int (0 : Int32)), .unset, .unset] [(.int (1 : Int32))]) (fun _ kk => XS.iloadN X71.here hx rfl (hb hby at_95) rfl kk) ?_
      refine ob T71 (mkF mG 99 #[.val (.int p0), .val (.int p1), .val (.int (6 : Int32)), .val (.int (1 : Int32)), .val (.ref w_BeanManaged), .val (.ref b0_70), .val (.int (0 : Int32)), .unset, .unset] []) (fun _ kk => XS.ifNo X71.here hx rfl (hb hby at_96) rfl ((if0 _ _).trans (feq (by decide : ¬ ((1 : Int32) = (0 : Int32)))).1) kk) ?_
      refine ob T71 (mkF mG 100 #[.val (.int p0), .val (.int p1), .val (.int (6 : Int32)), .val (.int (1 : Int32)), .val (.ref w_BeanManaged), .val (.ref b0_70), .val (.int (0 : Int32)), .unset, .unset] [(.int (6 : Int32))]) (fun _ kk => XS.iloadN X71.here hx rfl (hb hby at_99) rfl kk) ?_
      refine ob T71 (mkF mG 103 #[.val (.int p0), .val (.int p1), .val (.int (6 : Int32)), .val (.int (1 : Int32)), .val (.ref w_BeanManaged), .val (.ref b0_70), .val (.int (0 : Int32)), .unset, .unset] []) (fun _ kk => XS.ifNo X71.here hx rfl (hb hby at_100) rfl ((if0 _ _).trans (feq (by decide : ¬ ((6 : Int32) = (0 : Int32)))).1) kk) ?_
      refine ob T71 (mkF mG 104 #[.val (.int p0), .val (.int p1), .val (.int (6 : Int32)), .val (.int (1 : Int32)), .val (.ref w_BeanManaged), .val (.ref b0_70), .val (.int (0 : Int32)), .unset, .unset] [(.int (6 : Int32))]) (fun _ kk => XS.iloadN X71.here hx rfl (hb hby at_103) rfl kk) ?_
      refine ob T71 (mkF mG 105 #[.val (.int p0), .val (.int p1), .val (.int (6 : Int32)), .val (.int (1 : Int32)), .val (.ref w_BeanManaged), .val (.ref b0_70), .val (.int (0 : Int32)), .unset, .unset] [(.int (2 : Int32)), (.int (6 : Int32))]) (fun _ kk => XS.iconst X71.here hx rfl (hb hby at_104) kk) ?_
      refine ob T71 (mkF mG 108 #[.val (.int p0), .val (.int p1), .val (.int (6 : Int32)), .val (.int (1 : Int32)), .val (.ref w_BeanManaged), .val (.ref b0_70), .val (.int (0 : Int32)), .unset, .unset] []) (fun _ kk => XS.icmpNo X71.here hx rfl (hb hby at_105) rfl (feq (by decide : ¬ ((6 : Int32) = (2 : Int32)))).1 kk) ?_
      refine ob T71 (mkF mG 109 #[.val (.int p0), .val (.int p1), .val (.int (6 : Int32)), .val (.int (1 : Int32)), .val (.ref w_BeanManaged), .val (.ref b0_70), .val (.int (0 : Int32)), .unset, .unset] [(.int (6 : Int32))]) (fun _ kk => XS.iloadN X71.here hx rfl (hb hby at_108) rfl kk) ?_
      refine ob T71 (mkF mG 110 #[.val (.int p0), .val (.int p1), .val (.int (6 : Int32)), .val (.int (1 : Int32)), .val (.ref w_BeanManaged), .val (.ref b0_70), .val (.int (0 : Int32)), .unset, .unset] [(.int (4 : Int32)), (.int (6 : Int32))]) (fun _ kk => XS.iconst X71.here hx rfl (hb hby at_109) kk) ?_
      refine ob T71 (mkF mG 117 #[.val (.int p0), .val (.int p1), .val (.int (6 : Int32)), .val (.int (1 : Int32)), .val (.ref w_BeanManaged), .val (.ref b0_70), .val (.int (0 : Int32)), .unset, .unset] []) (fun _ kk => XS.icmpYes X71.here hx rfl (pc0 := 110) (pc' := 117) rfl (hb hby at_110) rfl (feq (by decide : ¬ ((6 : Int32) = (4 : Int32)))).2 (by decide) (by decide) kk) ?_
      refine ob T71 (mkF mG 118 #[.val (.int p0), .val (.int p1), .val (.int (6 : Int32)), .val (.int (1 : Int32)), .val (.ref w_BeanManaged), .val (.ref b0_70), .val (.int (0 : Int32)), .unset, .unset] [(.int (0 : Int32))]) (fun _ kk => XS.iconst X71.here hx rfl (hb hby at_117) kk) ?_
      refine ob T71 (mkF mG 120 #[.val (.int p0), .val (.int p1), .val (.int (6 : Int32)), .val (.int (1 : Int32)), .val (.ref w_BeanManaged), .val (.ref b0_70), .val (.int (0 : Int32)), .val (.int (0 : Int32)), .unset] []) (fun _ kk => XS.istore X71.here hx rfl (hb hby at_118) rfl (l' := #[.val (.int p0), .val (.int p1), .val (.int (6 : Int32)), .val (.int (1 : Int32)), .val (.ref w_BeanManaged), .val (.ref b0_70), .val (.int (0 : Int32)), .val (.int (0 : Int32)), .unset]) rfl kk) ?_
      refine ob T71 (mkF mG 122 #[.val (.int p0), .val (.int p1), .val (.int (6 : Int32)), .val (.int (1 : Int32)), .val (.ref w_BeanManaged), .val (.ref b0_70), .val (.int (0 : Int32)), .val (.int (0 : Int32)), .unset] [(.int (0 : Int32))]) (fun _ kk => XS.iload X71.here hx rfl (hb hby at_120) rfl kk) ?_
      refine ob T71 (mkF mG 133 #[.val (.int p0), .val (.int p1), .val (.int (6 : Int32)), .val (.int (1 : Int32)), .val (.ref w_BeanManaged), .val (.ref b0_70), .val (.int (0 : Int32)), .val (.int (0 : Int32)), .unset] []) (fun _ kk => XS.ifYes X71.here hx rfl (pc0 := 122) (pc' := 133) rfl (hb hby at_122) rfl ((if0 _ _).trans (teq (by decide : (0 : Int32) = (0 : Int32))).1) (by decide) (by decide) kk) ?_
      refine ob T71 (mkF mG 134 #[.val (.int p0), .val (.int p1), .val (.int (6 : Int32)), .val (.int (1 : Int32)), .val (.ref w_BeanManaged), .val (.ref b0_70), .val (.int (0 : Int32)), .val (.int (0 : Int32)), .unset] [(.int (6 : Int32))]) (fun _ kk => XS.iloadN X71.here hx rfl (hb hby at_133) rfl kk) ?_
      refine ob T71 (mkF mG 135 #[.val (.int p0), .val (.int p1), .val (.int (6 : Int32)), .val (.int (1 : Int32)), .val (.ref w_BeanManaged), .val (.ref b0_70), .val (.int (0 : Int32)), .val (.int (0 : Int32)), .unset] [(.int (1 : Int32)), (.int (6 : Int32))]) (fun _ kk => XS.iconst X71.here hx rfl (hb hby at_134) kk) ?_
      refine ob T71 (mkF mG 138 #[.val (.int p0), .val (.int p1), .val (.int (6 : Int32)), .val (.int (1 : Int32)), .val (.ref w_BeanManaged), .val (.ref b0_70), .val (.int (0 : Int32)), .val (.int (0 : Int32)), .unset] []) (fun _ kk => XS.icmpNo X71.here hx rfl (hb hby at_135) rfl (feq (by decide : ¬ ((6 : Int32) = (1 : Int32)))).1 kk) ?_
      refine ob T71 (mkF mG 139 #[.val (.int p0), .val (.int p1), .val (.int (6 : Int32)), .val (.int (1 : Int32)), .val (.ref w_BeanManaged), .val (.ref b0_70), .val (.int (0 : Int32)), .val (.int (0 : Int32)), .unset] [(.int (6 : Int32))]) (fun _ kk => XS.iloadN X71.here hx rfl (hb hby at_138) rfl kk) ?_
      refine ob T71 (mkF mG 154 #[.val (.int p0), .val (.int p1), .val (.int (6 : Int32)), .val (.int (1 : Int32)), .val (.ref w_BeanManaged), .val (.ref b0_70), .val (.int (0 : Int32)), .val (.int (0 : Int32)), .unset] []) (fun _ kk => XS.ifYes X71.here hx rfl (pc0 := 139) (pc' := 154) rfl (hb hby at_139) rfl ((if0 _ _).trans (feq (by decide : ¬ ((6 : Int32) = (0 : Int32)))).2) (by decide) (by decide) kk) ?_
      obtain ⟨T72, X72, e72, st72⟩ := getS2 X71 hx hZ hown (host := "") (Or.inl (ow hw 55 rfl)) Via.refl e71 (S_w_NONE.ext O70.2) (g := (mkF mG 154 #[.val (.int p0), .val (.int p1), .val (.int (6 : Int32)), .val (.int (1 : Int32)), .val (.ref w_BeanManaged), .val (.ref b0_70), .val (.int (0 : Int32)), .val (.int (0 : Int32)), .unset] [])) rfl (hb hby at_154)
      refine ob T72 (mkF mG 157 #[.val (.int p0), .val (.int p1), .val (.int (6 : Int32)), .val (.int (1 : Int32)), .val (.ref w_BeanManaged), .val (.ref b0_70), .val (.int (0 : Int32)), .val (.int (0 : Int32)), .unset] [(.ref w_NONE)]) (fun _ kk => st72 _ kk) ?_
      refine ob T72 (mkF mG 159 #[.val (.int p0), .val (.int p1), .val (.int (6 : Int32)), .val (.int (1 : Int32)), .val (.ref w_BeanManaged), .val (.ref b0_70), .val (.int (0 : Int32)), .val (.int (0 : Int32)), .val (.ref w_NONE)] []) (fun _ kk => XS.astore X72.here hx rfl (hb hby at_157) rfl rfl (l' := #[.val (.int p0), .val (.int p1), .val (.int (6 : Int32)), .val (.int (1 : Int32)), .val (.ref w_BeanManaged), .val (.ref b0_70), .val (.int (0 : Int32)), .val (.int (0 : Int32)), .val (.ref w_NONE)]) rfl kk) ?_
      refine ob T72 (mkF mG 161 #[.val (.int p0), .val (.int p1), .val (.int (6 : Int32)), .val (.int (1 : Int32)), .val (.ref w_BeanManaged), .val (.ref b0_70), .val (.int (0 : Int32)), .val (.int (0 : Int32)), .val (.ref w_NONE)] [(.ref b0_70)]) (fun _ kk => XS.aload X72.here hx rfl (hb hby at_159) rfl rfl kk) ?_
      obtain ⟨cq73, kq73, q73a, q73b, q73c⟩ := isOf hZ e72 F70_0
      obtain ⟨_, _, ⟨T73, L73, k73, n73⟩, -, X73, ⟨Lc73, hQ73, l73, y73, z73⟩, st73⟩ := X72.virtualBack hx (y := (⟨"java/util/Optional", "get", "()Ljava/lang/Object;"⟩ : MethodName)) (z := (⟨"java/util/Optional", "get", "()Ljava/lang/Object;"⟩ : MethodName)) hown (mvT hZ (ow hw 46 rfl)) (mvT hZ (ow hw 47 rfl)) (notFace_of_selects (args := #[]) (mvT hZ (ow hw 49 rfl))) (mvT hZ (ow hw 49 rfl)) (mvT hZ (ow hw 48 rfl)) (by decide) (backOf (W := 0) (rm_get l Z a0 hw [] w_Required w_RECEIVED w_NotSupported w_NONE w_RequiresNew w_NEW w_Mandatory w_BeanManaged w_Never w_Supports w_EMPTY b0_70 w_NONE h70 n0 O70 hS F70_1) hZ (ow hw 50 rfl) (ow hw 27 rfl) (by decide) (by decide)) q73a q73c (g := (mkF mG 161 #[.val (.int p0), .val (.int p1), .val (.int (6 : Int32)), .val (.int (1 : Int32)), .val (.ref w_BeanManaged), .val (.ref b0_70), .val (.int (0 : Int32)), .val (.int (0 : Int32)), .val (.ref w_NONE)] [(.ref b0_70)])) rfl (by rw [hml]; rfl) (Steps.refl _) (argsL := []) (rest := []) (lenOf pd_6 rfl) rfl (by show 2 * 0 + _ ≤ _; exact Nat.le_of_eq rfl) (hb hby at_161) (fun _ _ => ⟨rfl, e72, (by decide : 1 + 0 ≤ _), (by decide : 1 + 0 ≤ _)⟩)
      dsimp only [Pt.U, Pt.locs, Pt.cells, Pt.slots] at X73 l73 y73 z73 st73 hQ73
      subst l73 y73 z73
      obtain ⟨rfl, N73q, e73⟩ := hQ73
      have N73 := Fr.app N71 N73q
      refine ob T73 (mkF mG 164 #[.val (.int p0), .val (.int p1), .val (.int (6 : Int32)), .val (.int (1 : Int32)), .val (.ref w_BeanManaged), .val (.ref b0_70), .val (.int (0 : Int32)), .val (.int (0 : Int32)), .val (.ref w_NONE)] [(.ref w_NONE)]) (fun _ kk => st73.trans kk) ?_
      refine ob T73 (mkF mG 166 #[.val (.int p0), .val (.int p1), .val (.int (6 : Int32)), .val (.int (1 : Int32)), .val (.ref w_BeanManaged), .val (.ref b0_70), .val (.int (0 : Int32)), .val (.int (0 : Int32)), .val (.ref w_NONE)] [(.ref w_NONE), (.ref w_NONE)]) (fun _ kk => XS.aload X73.here hx rfl (hb hby at_164) rfl rfl kk) ?_
      refine ob T73 (mkF mG 169 #[.val (.int p0), .val (.int p1), .val (.int (6 : Int32)), .val (.int (1 : Int32)), .val (.ref w_BeanManaged), .val (.ref b0_70), .val (.int (0 : Int32)), .val (.int (0 : Int32)), .val (.ref w_NONE)] []) (fun _ kk => Jvm.RoadKit.acmp (g := (mkF mG 166 #[.val (.int p0), .val (.int p1), .val (.int (6 : Int32)), .val (.int (1 : Int32)), .val (.ref w_BeanManaged), .val (.ref b0_70), .val (.int (0 : Int32)), .val (.int (0 : Int32)), .val (.ref w_NONE)] [(.ref w_NONE), (.ref w_NONE)])) X73 hx rfl rfl rfl (pc0 := 166) (pc' := 169) (same := true) rfl (hb hby at_166) rfl (decide_eq_true rfl) (by decide) (by decide) kk) ?_
      refine ob T73 (mkF mG 170 #[.val (.int p0), .val (.int p1), .val (.int (6 : Int32)), .val (.int (1 : Int32)), .val (.ref w_BeanManaged), .val (.ref b0_70), .val (.int (0 : Int32)), .val (.int (0 : Int32)), .val (.ref w_NONE)] [(.int (1 : Int32))]) (fun _ kk => XS.iconst X73.here hx rfl (hb hby at_169) kk) ?_
      refine ob T73 (mkF mG 174 #[.val (.int p0), .val (.int p1), .val (.int (6 : Int32)), .val (.int (1 : Int32)), .val (.ref w_BeanManaged), .val (.ref b0_70), .val (.int (0 : Int32)), .val (.int (0 : Int32)), .val (.ref w_NONE)] [(.int (1 : Int32))]) (fun _ kk => XS.goto X73.here hx rfl (pc0 := 170) (pc' := 174) rfl (hb hby at_170) (by decide) (by decide) kk) ?_
      obtain ⟨fs, hr, hrun, hended, hW, hsame⟩ := X73.leave (v := some (.int (1 : Int32))) (fun h => by rw [Bd.returns] at h; cases h)
      refine oout (retN X73 hx (t := .boolean) Bd.returns (by simp) (hb hby at_174) hr) hrun hended ⟨_, _, rfl, ?_, ⟨_, rfl⟩, hW, hsame.mono (by decide) (by decide)⟩
      show Q_rm0 Z w_Required w_RECEIVED w_NotSupported w_NONE w_RequiresNew w_NEW w_Mandatory w_BeanManaged w_Never w_Supports w_EMPTY p0 p1 h0 n0 _ T73.heap _
      rw [e73]
      exact ⟨rfl, N73⟩

set_option maxRecDepth 65536 in
set_option maxHeartbeats 40000000 in
theorem comes_1 {Post : Tables → Env → Array Value → State → Outcome → State → Prop} (hpost : ∀ tb e args s v u, (limb_1_1.after args s (.returned v) u = true ∧ limb_1_2.after args s (.returned v) u = true ∧ True) → FrameEnd s (.returned v) u (Jvm.fieldLocs frame_1_writes args s ++ Jvm.arrayLocs frame_1_arrays args s ++ Jvm.staticLocs frame_1_statics s) 16 128 → Post tb e args s (.returned v) u) :
    ArmFor flags0 classFile x code maxLocals ret World_1 tables_1 room_1 Calls_1 rest_1 Pre_1 Post := by
  intro l hfl _ _ p e ha hc hk s m args below hf hA hF happ hP
  obtain ⟨hcalls, hrest, hpre⟩ := hP
  obtain ⟨-, -, -, hnamed, -, -, -, hat⟩ := (Spec.applies_iff hf).mp happ
  obtain ⟨hg, hn⟩ := and_e (Cond.before_iff.mp (show (Jvm.Cond.and given_1 narrow_1).before args s = true from hpre))
  obtain ⟨gg1, gg2⟩ := and_e hg
  obtain ⟨gg3, gg4⟩ := and_e gg2
  obtain ⟨w0, w1, rfl⟩ : ∃ w0 w1 : Value, args = #[w0, w1] := by
    have hs : args.size = 2 := by simpa [Cond.value, given_1] using gg1
    obtain ⟨L⟩ := args
    match L, hs with
    | [w0, w1], _ => exact ⟨w0, w1, rfl⟩
  have hw := fun d (hd : d ∈ tables_1) => atoms_spec (ws := Jvm.Cond.code x code maxLocals ret :: tables_1) hat d (List.mem_cons_of_mem _ hd)
  have hfit : Fit s := fun {y c} hc i hi => by
    obtain ⟨ha, rfl⟩ := Array.getElem?_eq_some_iff.mp hc
    have q := List.all_eq_true.mp ((Array.all_eq_true_iff_forall_mem.mp hF) _ (Array.getElem_mem ha)) i (List.mem_range.mpr hi)
    simpa [Array.getElem?_eq_getElem hi] using q
  obtain ⟨hsets, hown0⟩ := atoms_of _ (rest_1_c_eq ▸ (show rest_1_c.before _ s = true from hrest))
  have hr0 := Cond.before_iff.mp hown0
  obtain ⟨i0, ei0⟩ := is_v gg3
  obtain rfl : w0 = (.int i0) := Option.some.inj ei0
  obtain ⟨i1, ei1⟩ := is_v gg4
  obtain rfl : w1 = (.int i1) := Option.some.inj ei1
  obtain ⟨nn1, nn2⟩ := and_e hn
  obtain ⟨nn3, nn4⟩ := and_e nn2
  obtain ⟨nn5, nn6⟩ := and_e nn4
  obtain ⟨nn7, nn8⟩ := and_e nn6
  obtain ⟨nn9, nn10⟩ := and_e nn8
  obtain ⟨nn11, nn12⟩ := and_e nn10
  obtain ⟨nn13, nn14⟩ := and_e nn12
  obtain ⟨nn15, nn16⟩ := and_e nn14
  obtain ⟨nn17, nn18⟩ := and_e nn16
  obtain ⟨nn19, nn20⟩ := and_e nn18
  obtain ⟨nn21, nn22⟩ := and_e nn20
  obtain ⟨nn23, nn24⟩ := and_e nn22
  obtain ⟨nn25, nn26⟩ := and_e nn24
  obtain ⟨nn27, nn28⟩ := and_e nn26
  obtain ⟨nn29, nn30⟩ := and_e nn28
  obtain ⟨nn31, nn32⟩ := and_e nn30
  obtain ⟨w_Required, ev_w_Required, S_w_Required, E_w_Required⟩ := own_sta nn1 (Or.inr ⟨(ow hw 6 rfl), (ow hw 7 rfl)⟩)
  obtain ⟨w_RECEIVED, ev_w_RECEIVED, S_w_RECEIVED, E_w_RECEIVED⟩ := own_sta nn5 (Or.inr ⟨(ow hw 23 rfl), (ow hw 24 rfl)⟩)
  obtain ⟨w_NotSupported, ev_w_NotSupported, S_w_NotSupported, E_w_NotSupported⟩ := own_sta nn7 (Or.inr ⟨(ow hw 6 rfl), (ow hw 52 rfl)⟩)
  obtain ⟨w_NONE, ev_w_NONE, S_w_NONE, E_w_NONE⟩ := own_sta nn11 (Or.inr ⟨(ow hw 23 rfl), (ow hw 54 rfl)⟩)
  obtain ⟨w_RequiresNew, ev_w_RequiresNew, S_w_RequiresNew, E_w_RequiresNew⟩ := own_sta nn13 (Or.inr ⟨(ow hw 6 rfl), (ow hw 57 rfl)⟩)
  obtain ⟨w_NEW, ev_w_NEW, S_w_NEW, E_w_NEW⟩ := own_sta nn17 (Or.inr ⟨(ow hw 23 rfl), (ow hw 59 rfl)⟩)
  obtain ⟨w_Mandatory, ev_w_Mandatory, S_w_Mandatory, E_w_Mandatory⟩ := own_sta nn19 (Or.inr ⟨(ow hw 6 rfl), (ow hw 62 rfl)⟩)
  obtain ⟨w_BeanManaged, ev_w_BeanManaged, S_w_BeanManaged, E_w_BeanManaged⟩ := own_sta nn23 (Or.inr ⟨(ow hw 6 rfl), (ow hw 65 rfl)⟩)
  obtain ⟨w_Never, ev_w_Never, S_w_Never, E_w_Never⟩ := own_sta nn27 (Or.inr ⟨(ow hw 6 rfl), (ow hw 67 rfl)⟩)
  obtain ⟨w_Supports, ev_w_Supports, S_w_Supports, E_w_Supports⟩ := own_sta nn31 (Or.inr ⟨(ow hw 6 rfl), (ow hw 69 rfl)⟩)
  obtain ⟨w_EMPTY, ev_w_EMPTY, S_w_EMPTY, E_w_EMPTY⟩ := own_sta (Cond.before_iff.mp (ow hsets 2 rfl)) (Or.inl (ow hsets 1 rfl))
  have F_w_Required_ordinal := own_fldI ev_w_Required nn3
  have F_w_NotSupported_ordinal := own_fldI ev_w_NotSupported nn9
  have F_w_RequiresNew_ordinal := own_fldI ev_w_RequiresNew nn15
  have F_w_Mandatory_ordinal := own_fldI ev_w_Mandatory nn21
  have F_w_BeanManaged_ordinal := own_fldI ev_w_BeanManaged nn25
  have F_w_Never_ordinal := own_fldI ev_w_Never nn29
  have F_w_Supports_ordinal := own_fldI ev_w_Supports nn32
  have F_w_EMPTY_value := own_fldN ev_w_EMPTY (Cond.before_iff.mp (ow hsets 3 rfl))
  have ne_w_Required_w_NotSupported : w_Required ≠ w_NotSupported := Fld.ne F_w_Required_ordinal F_w_NotSupported_ordinal (by decide)
  have ne_w_Required_w_RequiresNew : w_Required ≠ w_RequiresNew := Fld.ne F_w_Required_ordinal F_w_RequiresNew_ordinal (by decide)
  have ne_w_Required_w_Mandatory : w_Required ≠ w_Mandatory := Fld.ne F_w_Required_ordinal F_w_Mandatory_ordinal (by decide)
  have ne_w_Required_w_BeanManaged : w_Required ≠ w_BeanManaged := Fld.ne F_w_Required_ordinal F_w_BeanManaged_ordinal (by decide)
  have ne_w_Required_w_Never : w_Required ≠ w_Never := Fld.ne F_w_Required_ordinal F_w_Never_ordinal (by decide)
  have ne_w_Required_w_Supports : w_Required ≠ w_Supports := Fld.ne F_w_Required_ordinal F_w_Supports_ordinal (by decide)
  have ne_w_NotSupported_w_RequiresNew : w_NotSupported ≠ w_RequiresNew := Fld.ne F_w_NotSupported_ordinal F_w_RequiresNew_ordinal (by decide)
  have ne_w_NotSupported_w_Mandatory : w_NotSupported ≠ w_Mandatory := Fld.ne F_w_NotSupported_ordinal F_w_Mandatory_ordinal (by decide)
  have ne_w_NotSupported_w_BeanManaged : w_NotSupported ≠ w_BeanManaged := Fld.ne F_w_NotSupported_ordinal F_w_BeanManaged_ordinal (by decide)
  have ne_w_NotSupported_w_Never : w_NotSupported ≠ w_Never := Fld.ne F_w_NotSupported_ordinal F_w_Never_ordinal (by decide)
  have ne_w_NotSupported_w_Supports : w_NotSupported ≠ w_Supports := Fld.ne F_w_NotSupported_ordinal F_w_Supports_ordinal (by decide)
  have ne_w_RequiresNew_w_Mandatory : w_RequiresNew ≠ w_Mandatory := Fld.ne F_w_RequiresNew_ordinal F_w_Mandatory_ordinal (by decide)
  have ne_w_RequiresNew_w_BeanManaged : w_RequiresNew ≠ w_BeanManaged := Fld.ne F_w_RequiresNew_ordinal F_w_BeanManaged_ordinal (by decide)
  have ne_w_RequiresNew_w_Never : w_RequiresNew ≠ w_Never := Fld.ne F_w_RequiresNew_ordinal F_w_Never_ordinal (by decide)
  have ne_w_RequiresNew_w_Supports : w_RequiresNew ≠ w_Supports := Fld.ne F_w_RequiresNew_ordinal F_w_Supports_ordinal (by decide)
  have ne_w_Mandatory_w_BeanManaged : w_Mandatory ≠ w_BeanManaged := Fld.ne F_w_Mandatory_ordinal F_w_BeanManaged_ordinal (by decide)
  have ne_w_Mandatory_w_Never : w_Mandatory ≠ w_Never := Fld.ne F_w_Mandatory_ordinal F_w_Never_ordinal (by decide)
  have ne_w_Mandatory_w_Supports : w_Mandatory ≠ w_Supports := Fld.ne F_w_Mandatory_ordinal F_w_Supports_ordinal (by decide)
  have ne_w_BeanManaged_w_Never : w_BeanManaged ≠ w_Never := Fld.ne F_w_BeanManaged_ordinal F_w_Never_ordinal (by decide)
  have ne_w_BeanManaged_w_Supports : w_BeanManaged ≠ w_Supports := Fld.ne F_w_BeanManaged_ordinal F_w_Supports_ordinal (by decide)
  have ne_w_Never_w_Supports : w_Never ≠ w_Supports := Fld.ne F_w_Never_ordinal F_w_Supports_ordinal (by decide)
  have hS : St0 s w_Required w_RECEIVED w_NotSupported w_NONE w_RequiresNew w_NEW w_Mandatory w_BeanManaged w_Never w_Supports w_EMPTY := ⟨S_w_Required, E_w_Required, S_w_RECEIVED, E_w_RECEIVED, S_w_NotSupported, E_w_NotSupported, S_w_NONE, E_w_NONE, S_w_RequiresNew, E_w_RequiresNew, S_w_NEW, E_w_NEW, S_w_Mandatory, E_w_Mandatory, S_w_BeanManaged, E_w_BeanManaged, S_w_Never, E_w_Never, S_w_Supports, E_w_Supports, S_w_EMPTY, E_w_EMPTY, F_w_Required_ordinal, F_w_NotSupported_ordinal, F_w_RequiresNew_ordinal, F_w_Mandatory_ordinal, F_w_BeanManaged_ordinal, F_w_Never_ordinal, F_w_Supports_ordinal, F_w_EMPTY_value, ne_w_Required_w_NotSupported, ne_w_Required_w_RequiresNew, ne_w_Required_w_Mandatory, ne_w_Required_w_BeanManaged, ne_w_Required_w_Never, ne_w_Required_w_Supports, ne_w_NotSupported_w_RequiresNew, ne_w_NotSupported_w_Mandatory, ne_w_NotSupported_w_BeanManaged, ne_w_NotSupported_w_Never, ne_w_NotSupported_w_Supports, ne_w_RequiresNew_w_Mandatory, ne_w_RequiresNew_w_BeanManaged, ne_w_RequiresNew_w_Never, ne_w_RequiresNew_w_Supports, ne_w_Mandatory_w_BeanManaged, ne_w_Mandatory_w_Never, ne_w_Mandatory_w_Supports, ne_w_BeanManaged_w_Never, ne_w_BeanManaged_w_Supports, ne_w_Never_w_Supports⟩
  obtain ⟨n, o, h1, h2, h3, _, L, rfl, ⟨rfl, N⟩, hq⟩ := rm0 l s _ hw tables_1 w_Required w_RECEIVED w_NotSupported w_NONE w_RequiresNew w_NEW w_Mandatory w_BeanManaged w_Never w_Supports w_EMPTY i0 i1 s.heap s.heap.size (Old.start s) hS p e ha hc hk s m _ below hf ((Spec.applies_iff_loose hf).mp happ).1 ⟨rfl, State.Warmed39.refl s, rfl⟩ trivial
  refine ⟨n, _, h1, h2, h3, hpost _ _ _ _ _ _ ⟨Cond.after_iff.mpr rfl, Cond.after_iff.mpr (eq_i res_at (Term.int_eval (1)) rfl), trivial⟩ ⟨hq.1, hq.2.1, (hq.2.2.sift fun y hy => Or.inr (N y hy)).mono (by decide) (by decide)⟩⟩
theorem main_1_1 : Claimed_1_1 := comes_1 fun _ _ _ _ _ _ h hF => ⟨h.1, hF⟩
theorem main_1_2 : Claimed_1_2 := comes_1 fun _ _ _ _ _ _ h hF => ⟨h.2.1, hF⟩
end Jvm.Pilot.@@N@@
namespace Jvm.Pilot.@@N@@
open Jvm Jvm.ClassFile Sem Op Lib Jvm.Free Jvm.Stand Jvm.Pilot.@@N@@.Jvm.D
/-! MADE BY PROGRAM (witnessworld.py) out of the Statement's table words and the real class files: 14 classes; the members and pool entries that the words name. The judged class is class 1, her method 2. -/
namespace start1
open Jvm.ClassFile
def u (s : String) : CpInfo := .utf8 (stringToUtf16 s)
/-- a pool by its gaps: so many unusable entries, then the entry; so many at the end -/
def gap : Nat → List CpInfo → List CpInfo
  | 0, r => r
  | n + 1, r => .unusable :: gap n r
def poolList (es : List (Nat × CpInfo)) (last : Nat) : List CpInfo := es.foldr (fun e r => gap e.1 (e.2 :: r)) (gap last [])
def pool (es : List (Nat × CpInfo)) (last : Nat) : Array CpInfo := ⟨poolList es last⟩
def fileOf (pool : Array CpInfo) (this : Nat) (attrs : Array Attribute := #[]) (ms : Array MethodInfo := #[]) (fl : Nat := 33) (sup : Nat := 0) (ifs : Array Nat := #[]) (fds : Array FieldInfo := #[]) : ClassFile where
  minorVersion := 0
  majorVersion := 65
  constantPool := pool
  accessFlags := fl
  thisClass := this
  superClass := sup
  interfaces := ifs
  fields := fds
  methods := ms
  attributes := attrs
def plain (name : String) (sup : Option ClassId) : Class where
  name := name
  kind := .ordinary
  loader := none
  accessFlags := 33
  super := sup
  interfaces := #[]
  cf := none
  fields := #[]
  methods := #[]
  instanceTypes := #[]
  staticTypes := #[]
  resolved := #[]
  callSites := []
  init := .initialized
  statics := none
  mirror := none

def pool0 : Array CpInfo := pool [(5, u "<init>"), (0, u "()V"), (1, .class_ 10), (1, u "java/lang/Object")] 113

def k0c0 : Code := { maxStack := 0, maxLocals := 1, code := object_method_1_code, exceptionTable := #[], attributes := #[] }
def k0m0 : Method := { name := "<init>", desc := "()V", sig := { parameters := [], returnType := none }, accessFlags := 1, code := some k0c0 }
/-- java/lang/Object -/
def k0 : Class := { plain "java/lang/Object" none with
  accessFlags := 33
  interfaces := #[]
  cf := some (fileOf pool0 8 #[] #[{ accessFlags := 1, nameIndex := 5, descriptorIndex := 6, attributes := #[] }] 33 0 #[] #[])
  fields := #[]
  methods := #[k0m0]
  instanceTypes := #[]
  staticTypes := #[]
  resolved := Array.replicate 124 none
  statics := none }

def pool1 : Array CpInfo := pool [(2, .class_ 4), (1, u "java/lang/Object"), (0, u "<init>"), (0, u "()V"), (0, .fieldref 8 9), (0, .class_ 10), (0, .nameAndType 11 12), (0, u "com/example/vorgang/vorgang/model/Policy"), (0, u "Required"), (0, u "Lcom/example/vorgang/vorgang/model/Policy;"), (0, .fieldref 8 14), (0, .nameAndType 15 12), (0, u "RequiresNew"), (0, .fieldref 8 17), (0, .nameAndType 18 12), (0, u "Supports"), (0, .fieldref 8 20), (0, .nameAndType 21 12), (0, u "NotSupported"), (0, .fieldref 8 23), (0, .nameAndType 24 12), (0, u "Mandatory"), (0, .fieldref 8 26), (0, .nameAndType 27 12), (0, u "Never"), (0, .fieldref 8 29), (0, .nameAndType 30 12), (0, u "BeanManaged"), (0, .integer 2147483647), (0, .methodref 33 34), (0, .class_ 35), (0, .nameAndType 36 37), (0, u "com/example/vorgang/vorgang/model/PolicyApplyPinLaw"), (0, u "pick"), (0, u "(I)Lcom/example/vorgang/vorgang/model/Policy;"), (0, .methodref 8 39), (0, .nameAndType 40 41), (0, u "apply"), (0, u "(Z)Ljava/util/Optional;"), (0, .methodref 43 44), (0, .class_ 45), (0, .nameAndType 46 47), (0, u "java/util/Optional"), (0, u "isPresent"), (0, u "()Z"), (0, .fieldref 49 50), (0, .class_ 51), (0, .nameAndType 52 53), (0, u "com/example/vorgang/vorgang/model/ContextUse"), (0, u "RECEIVED"), (0, u "Lcom/example/vorgang/vorgang/model/ContextUse;"), (0, .fieldref 49 55), (0, .nameAndType 56 53), (0, u "NEW"), (0, .fieldref 49 58), (0, .nameAndType 59 53), (0, u "NONE"), (0, .methodref 43 61), (0, .nameAndType 62 63), (0, u "get"), (0, u "()Ljava/lang/Object;"), (3, u "law"), (0, u "(II)Z")] 2

def k1m0 : Method := { name := "<init>", desc := "()V", sig := { parameters := [], returnType := none }, accessFlags := 1, code := none }
def k1c1 : Code := { maxStack := 2, maxLocals := 1, code := method_2_code, exceptionTable := #[], attributes := #[] }
def k1m1 : Method := { name := "pick", desc := "(I)Lcom/example/vorgang/vorgang/model/Policy;", sig := { parameters := [.int], returnType := some (.object "com/example/vorgang/vorgang/model/Policy") }, accessFlags := 10, code := some k1c1 }
def k1c2 : Code := { maxStack := 2, maxLocals := 9, code := code, exceptionTable := #[], attributes := #[] }
def k1m2 : Method := { name := "law", desc := "(II)Z", sig := { parameters := [.int, .int], returnType := some .boolean }, accessFlags := 9, code := some k1c2 }
/-- com/example/vorgang/vorgang/model/PolicyApplyPinLaw -/
def k1 : Class := { plain "com/example/vorgang/vorgang/model/PolicyApplyPinLaw" (some 0) with
  accessFlags := 49
  interfaces := #[]
  cf := some (fileOf pool1 33 #[] #[{ accessFlags := 1, nameIndex := 5, descriptorIndex := 6, attributes := #[] }, { accessFlags := 10, nameIndex := 36, descriptorIndex := 37, attributes := #[] }, { accessFlags := 9, nameIndex := 67, descriptorIndex := 68, attributes := #[] }] 49 2 #[] #[])
  fields := #[]
  methods := #[k1m0, k1m1, k1m2]
  instanceTypes := #[]
  staticTypes := #[]
  resolved := Array.replicate 71 none
  statics := none }

def pool2 : Array CpInfo := pool [(1, .class_ 2), (0, u "java/lang/constant/Constable"), (0, .class_ 4), (0, u "java/lang/Object")] 6

/-- java/lang/constant/Constable -/
def k2 : Class := { plain "java/lang/constant/Constable" (some 0) with
  accessFlags := 1537
  interfaces := #[]
  cf := some (fileOf pool2 1 #[] #[] 1537 3 #[] #[])
  fields := #[]
  methods := #[]
  instanceTypes := #[]
  staticTypes := #[]
  resolved := Array.replicate 11 none
  statics := none }

def pool3 : Array CpInfo := pool [(1, .class_ 2), (0, u "java/lang/Comparable"), (0, .class_ 4), (0, u "java/lang/Object")] 7

/-- java/lang/Comparable -/
def k3 : Class := { plain "java/lang/Comparable" (some 0) with
  accessFlags := 1537
  interfaces := #[]
  cf := some (fileOf pool3 1 #[] #[] 1537 3 #[] #[])
  fields := #[]
  methods := #[]
  instanceTypes := #[]
  staticTypes := #[]
  resolved := Array.replicate 12 none
  statics := none }

def pool4 : Array CpInfo := pool [(1, .class_ 2), (0, u "java/io/Serializable"), (0, .class_ 4), (0, u "java/lang/Object")] 2

/-- java/io/Serializable -/
def k4 : Class := { plain "java/io/Serializable" (some 0) with
  accessFlags := 1537
  interfaces := #[]
  cf := some (fileOf pool4 1 #[] #[] 1537 3 #[] #[])
  fields := #[]
  methods := #[]
  instanceTypes := #[]
  staticTypes := #[]
  resolved := Array.replicate 7 none
  statics := none }

def pool5 : Array CpInfo := pool [(2, .class_ 4), (1, u "java/lang/Enum"), (0, u "name"), (0, u "Ljava/lang/String;"), (0, .fieldref 2 8), (0, .nameAndType 9 10), (0, u "ordinal"), (0, u "I"), (1, .class_ 14), (1, u "java/lang/Object"), (4, u "hash"), (86, .class_ 108), (1, u "java/lang/Enum$EnumDesc"), (2, .class_ 112), (0, u "java/lang/constant/Constable"), (0, .class_ 114), (0, u "java/lang/Comparable"), (0, .class_ 116), (0, u "java/io/Serializable"), (9, u "()I")] 77

def k5c0 : Code := { maxStack := 1, maxLocals := 1, code := jdk_37_method_2_code, exceptionTable := #[], attributes := #[] }
def k5m0 : Method := { name := "ordinal", desc := "()I", sig := { parameters := [], returnType := some .int }, accessFlags := 17, code := some k5c0 }
/-- java/lang/Enum -/
def k5 : Class := { plain "java/lang/Enum" (some 0) with
  accessFlags := 1057
  interfaces := #[2, 3, 4]
  cf := some (fileOf pool5 2 #[.nestMembers #[106]] #[{ accessFlags := 17, nameIndex := 9, descriptorIndex := 126, attributes := #[] }] 1057 12 #[111, 113, 115] #[{ accessFlags := 18, nameIndex := 5, descriptorIndex := 6, attributes := #[] }, { accessFlags := 18, nameIndex := 9, descriptorIndex := 10, attributes := #[] }, { accessFlags := 2, nameIndex := 19, descriptorIndex := 10, attributes := #[] }])
  fields := #[{ name := "name", type := (.object "java/lang/String"), accessFlags := 18, slot := 0, constantValue := 0 }, { name := "ordinal", type := .int, accessFlags := 18, slot := 1, constantValue := 0 }, { name := "hash", type := .int, accessFlags := 2, slot := 2, constantValue := 0 }]
  methods := #[k5m0]
  instanceTypes := #[(.object "java/lang/String"), .int, .int]
  staticTypes := #[]
  resolved := Array.replicate 204 none
  statics := none }

def pool6 : Array CpInfo := pool [(1, .class_ 2), (0, u "com/example/vorgang/vorgang/model/Policy"), (2, u "Required"), (0, u "Lcom/example/vorgang/vorgang/model/Policy;"), (2, u "RequiresNew"), (2, u "Supports"), (2, u "NotSupported"), (2, u "Mandatory"), (2, u "Never"), (2, u "BeanManaged"), (2, u "$VALUES"), (0, u "[Lcom/example/vorgang/vorgang/model/Policy;"), (6, .class_ 37), (1, u "java/lang/Enum"), (6, .methodref 1 45), (0, .nameAndType 46 47), (0, u "ordinal"), (0, u "()I"), (5, .fieldref 54 55), (0, .class_ 56), (0, .nameAndType 57 58), (0, u "com/example/vorgang/vorgang/model/ContextUse"), (0, u "RECEIVED"), (0, u "Lcom/example/vorgang/vorgang/model/ContextUse;"), (0, .fieldref 54 60), (0, .nameAndType 61 58), (0, u "NEW"), (0, .fieldref 54 63), (0, .nameAndType 64 58), (0, u "NONE"), (0, .methodref 66 67), (0, .class_ 68), (0, .nameAndType 69 70), (0, u "java/util/Optional"), (0, u "ofNullable"), (0, u "(Ljava/lang/Object;)Ljava/util/Optional;"), (19, u "apply"), (0, u "(Z)Ljava/util/Optional;")] 6

def k6c0 : Code := { maxStack := 4, maxLocals := 3, code := prog_18_method_4_code, exceptionTable := #[], attributes := #[] }
def k6m0 : Method := { name := "apply", desc := "(Z)Ljava/util/Optional;", sig := { parameters := [.boolean], returnType := some (.object "java/util/Optional") }, accessFlags := 0, code := some k6c0 }
/-- com/example/vorgang/vorgang/model/Policy -/
def k6 : Class := { plain "com/example/vorgang/vorgang/model/Policy" (some 5) with
  accessFlags := 16433
  interfaces := #[]
  cf := some (fileOf pool6 1 #[] #[{ accessFlags := 0, nameIndex := 90, descriptorIndex := 91, attributes := #[] }] 16433 35 #[] #[{ accessFlags := 16409, nameIndex := 5, descriptorIndex := 6, attributes := #[] }, { accessFlags := 16409, nameIndex := 9, descriptorIndex := 6, attributes := #[] }, { accessFlags := 16409, nameIndex := 12, descriptorIndex := 6, attributes := #[] }, { accessFlags := 16409, nameIndex := 15, descriptorIndex := 6, attributes := #[] }, { accessFlags := 16409, nameIndex := 18, descriptorIndex := 6, attributes := #[] }, { accessFlags := 16409, nameIndex := 21, descriptorIndex := 6, attributes := #[] }, { accessFlags := 16409, nameIndex := 24, descriptorIndex := 6, attributes := #[] }, { accessFlags := 4122, nameIndex := 27, descriptorIndex := 28, attributes := #[] }])
  fields := #[{ name := "Required", type := (.object "com/example/vorgang/vorgang/model/Policy"), accessFlags := 16409, slot := 0, constantValue := 0 }, { name := "RequiresNew", type := (.object "com/example/vorgang/vorgang/model/Policy"), accessFlags := 16409, slot := 1, constantValue := 0 }, { name := "Supports", type := (.object "com/example/vorgang/vorgang/model/Policy"), accessFlags := 16409, slot := 2, constantValue := 0 }, { name := "NotSupported", type := (.object "com/example/vorgang/vorgang/model/Policy"), accessFlags := 16409, slot := 3, constantValue := 0 }, { name := "Mandatory", type := (.object "com/example/vorgang/vorgang/model/Policy"), accessFlags := 16409, slot := 4, constantValue := 0 }, { name := "Never", type := (.object "com/example/vorgang/vorgang/model/Policy"), accessFlags := 16409, slot := 5, constantValue := 0 }, { name := "BeanManaged", type := (.object "com/example/vorgang/vorgang/model/Policy"), accessFlags := 16409, slot := 6, constantValue := 0 }, { name := "$VALUES", type := (.array (.object "com/example/vorgang/vorgang/model/Policy")), accessFlags := 4122, slot := 7, constantValue := 0 }]
  methods := #[k6m0]
  instanceTypes := #[(.object "java/lang/String"), .int, .int]
  staticTypes := #[(.object "com/example/vorgang/vorgang/model/Policy"), (.object "com/example/vorgang/vorgang/model/Policy"), (.object "com/example/vorgang/vorgang/model/Policy"), (.object "com/example/vorgang/vorgang/model/Policy"), (.object "com/example/vorgang/vorgang/model/Policy"), (.object "com/example/vorgang/vorgang/model/Policy"), (.object "com/example/vorgang/vorgang/model/Policy"), (.array (.object "com/example/vorgang/vorgang/model/Policy"))]
  resolved := Array.replicate 98 none
  statics := some 0 }

def pool7 : Array CpInfo := pool [(1, .class_ 2), (0, u "com/example/vorgang/vorgang/model/ContextUse"), (2, u "NONE"), (0, u "Lcom/example/vorgang/vorgang/model/ContextUse;"), (2, u "RECEIVED"), (2, u "NEW"), (2, u "$VALUES"), (0, u "[Lcom/example/vorgang/vorgang/model/ContextUse;"), (6, .class_ 25), (1, u "java/lang/Enum")] 25

/-- com/example/vorgang/vorgang/model/ContextUse -/
def k7 : Class := { plain "com/example/vorgang/vorgang/model/ContextUse" (some 5) with
  accessFlags := 16433
  interfaces := #[]
  cf := some (fileOf pool7 1 #[] #[] 16433 23 #[] #[{ accessFlags := 16409, nameIndex := 5, descriptorIndex := 6, attributes := #[] }, { accessFlags := 16409, nameIndex := 9, descriptorIndex := 6, attributes := #[] }, { accessFlags := 16409, nameIndex := 12, descriptorIndex := 6, attributes := #[] }, { accessFlags := 4122, nameIndex := 15, descriptorIndex := 16, attributes := #[] }])
  fields := #[{ name := "NONE", type := (.object "com/example/vorgang/vorgang/model/ContextUse"), accessFlags := 16409, slot := 0, constantValue := 0 }, { name := "RECEIVED", type := (.object "com/example/vorgang/vorgang/model/ContextUse"), accessFlags := 16409, slot := 1, constantValue := 0 }, { name := "NEW", type := (.object "com/example/vorgang/vorgang/model/ContextUse"), accessFlags := 16409, slot := 2, constantValue := 0 }, { name := "$VALUES", type := (.array (.object "com/example/vorgang/vorgang/model/ContextUse")), accessFlags := 4122, slot := 3, constantValue := 0 }]
  methods := #[]
  instanceTypes := #[(.object "java/lang/String"), .int, .int]
  staticTypes := #[(.object "com/example/vorgang/vorgang/model/ContextUse"), (.object "com/example/vorgang/vorgang/model/ContextUse"), (.object "com/example/vorgang/vorgang/model/ContextUse"), (.array (.object "com/example/vorgang/vorgang/model/ContextUse"))]
  resolved := Array.replicate 51 none
  statics := some 1 }

def pool8 : Array CpInfo := pool [(1, .fieldref 2 3), (0, .class_ 4), (0, .nameAndType 5 6), (0, u "java/util/Optional"), (0, u "EMPTY"), (0, u "Ljava/util/Optional;"), (0, .methodref 8 9), (0, .class_ 10), (0, .nameAndType 11 12), (0, u "java/lang/Object"), (0, u "<init>"), (0, u "()V"), (0, .fieldref 2 14), (0, .nameAndType 15 16), (0, u "value"), (0, u "Ljava/lang/Object;"), (6, .methodref 2 24), (0, .nameAndType 11 25), (0, u "(Ljava/lang/Object;)V"), (20, u "()Z"), (17, u "ofNullable"), (0, u "(Ljava/lang/Object;)Ljava/util/Optional;"), (2, u "isPresent"), (4, u "get"), (0, u "()Ljava/lang/Object;")] 112

def k8c0 : Code := { maxStack := 2, maxLocals := 2, code := jdk_32_method_2_code, exceptionTable := #[], attributes := #[] }
def k8m0 : Method := { name := "<init>", desc := "(Ljava/lang/Object;)V", sig := { parameters := [(.object "java/lang/Object")], returnType := none }, accessFlags := 2, code := some k8c0 }
def k8c1 : Code := { maxStack := 3, maxLocals := 1, code := jdk_32_method_4_code, exceptionTable := #[], attributes := #[] }
def k8m1 : Method := { name := "ofNullable", desc := "(Ljava/lang/Object;)Ljava/util/Optional;", sig := { parameters := [(.object "java/lang/Object")], returnType := some (.object "java/util/Optional") }, accessFlags := 9, code := some k8c1 }
def k8c2 : Code := { maxStack := 3, maxLocals := 1, code := jdk_32_method_5_code, exceptionTable := #[], attributes := #[] }
def k8m2 : Method := { name := "get", desc := "()Ljava/lang/Object;", sig := { parameters := [], returnType := some (.object "java/lang/Object") }, accessFlags := 1, code := some k8c2 }
def k8c3 : Code := { maxStack := 1, maxLocals := 1, code := jdk_32_method_6_code, exceptionTable := #[], attributes := #[] }
def k8m3 : Method := { name := "isPresent", desc := "()Z", sig := { parameters := [], returnType := some .boolean }, accessFlags := 1, code := some k8c3 }
/-- java/util/Optional -/
def k8 : Class := { plain "java/util/Optional" (some 0) with
  accessFlags := 49
  interfaces := #[]
  cf := some (fileOf pool8 2 #[] #[{ accessFlags := 2, nameIndex := 11, descriptorIndex := 25, attributes := #[] }, { accessFlags := 9, nameIndex := 64, descriptorIndex := 65, attributes := #[] }, { accessFlags := 1, nameIndex := 73, descriptorIndex := 74, attributes := #[] }, { accessFlags := 1, nameIndex := 68, descriptorIndex := 46, attributes := #[] }] 49 8 #[] #[{ accessFlags := 26, nameIndex := 5, descriptorIndex := 6, attributes := #[] }, { accessFlags := 18, nameIndex := 15, descriptorIndex := 16, attributes := #[] }])
  fields := #[{ name := "EMPTY", type := (.object "java/util/Optional"), accessFlags := 26, slot := 0, constantValue := 0 }, { name := "value", type := (.object "java/lang/Object"), accessFlags := 18, slot := 0, constantValue := 0 }]
  methods := #[k8m0, k8m1, k8m2, k8m3]
  instanceTypes := #[(.object "java/lang/Object")]
  staticTypes := #[(.object "java/util/Optional")]
  resolved := Array.replicate 187 none
  statics := some 2 }

def pool9 : Array CpInfo := pool [(1, u "java/lang/Cloneable"), (0, .class_ 1), (0, u "java/lang/Object"), (0, .class_ 3)] 3

/-- java/lang/Cloneable -/
def k9 : Class := { plain "java/lang/Cloneable" (some 0) with
  accessFlags := 1537
  interfaces := #[]
  cf := some (fileOf pool9 2 #[] #[] 1537 4 #[] #[])
  fields := #[]
  methods := #[]
  instanceTypes := #[]
  staticTypes := #[]
  resolved := Array.replicate 8 none
  statics := none }

/-- the primitive byte -/
def k10 : Class := { plain "byte" none with kind := .primitive 'B', accessFlags := 0x411 }
/-- [B -/
def k11 : Class := { plain "[B" (some 0) with kind := .array 10 .byte, interfaces := #[9, 4], accessFlags := 1041 }

/-- the primitive int -/
def k12 : Class := { plain "int" none with kind := .primitive 'I', accessFlags := 0x411 }
/-- [I -/
def k13 : Class := { plain "[I" (some 0) with kind := .array 12 .int, interfaces := #[9, 4], accessFlags := 1041 }

def heap : Heap := #[{ cls := 6, slots := #[.ref 3, .ref 4, .ref 5, .ref 6, .ref 7, .ref 8, .ref 9, .null], vm := .statics 6 },
  { cls := 7, slots := #[.ref 10, .ref 11, .ref 12, .null], vm := .statics 7 },
  { cls := 8, slots := #[.ref 13], vm := .statics 8 },
  { cls := 6, slots := #[.null, .int 0, .int 0], vm := .none },
  { cls := 6, slots := #[.null, .int 1, .int 0], vm := .none },
  { cls := 6, slots := #[.null, .int 2, .int 0], vm := .none },
  { cls := 6, slots := #[.null, .int 3, .int 0], vm := .none },
  { cls := 6, slots := #[.null, .int 4, .int 0], vm := .none },
  { cls := 6, slots := #[.null, .int 5, .int 0], vm := .none },
  { cls := 6, slots := #[.null, .int 6, .int 0], vm := .none },
  { cls := 7, slots := #[.null, .int 0, .int 0], vm := .none },
  { cls := 7, slots := #[.null, .int 1, .int 0], vm := .none },
  { cls := 7, slots := #[.null, .int 2, .int 0], vm := .none },
  { cls := 8, slots := #[.null], vm := .none }]
def classes : Array Class := #[k0, k1, k2, k3, k4, k5, k6, k7, k8, k9, k10, k11, k12, k13]
def interned : List (Array UInt16 × Addr) := []
def slotsUsed : Nat := 44
def theMethod : MethodId := ⟨1, 2⟩
def args0 : Array Value := #[.int 5, .int 1]
def aboutOver (below : List Frame) : State where
  vm := { classes := classes, interned := interned.toArray }
  heap := heap
  slotsUsed := slotsUsed
  threads := #[{ frames := .invoking theMethod args0 :: below }]
def below0 : List Frame := [.native { method := ⟨0, 0⟩, args := #[] }]
def about1 : State := aboutOver below0
def p0 : Program := .bare "" "" ""
def e0 : Env := launch0.env 0 0 0
theorem w_frames : about1.frames = Frame.invoking theMethod args0 :: below0 := rfl
set_option maxRecDepth 65536 in
theorem w_args : argsFit about1.vm theMethod args0 = true := by decide +kernel
set_option maxRecDepth 65536 in
theorem w_heap : heapFits about1 = true := by decide +kernel
set_option maxRecDepth 65536 in
theorem w_runnable : about1.curStatus? = some .runnable := by decide +kernel
set_option maxRecDepth 65536 in
theorem w_alone : about1.alone = true := by decide +kernel
set_option maxRecDepth 65536 in
theorem w_named : about1.methodNamed? x = some theMethod := by decide +kernel
set_option maxRecDepth 65536 in
theorem w_hears : about1.hears theMethod below0 = true := by decide +kernel
set_option maxRecDepth 65536 in
theorem w_ripe : about1.ripe theMethod args0 below0 = true := by decide +kernel
theorem w_running : about1.status = .running := rfl
set_option maxRecDepth 65536 in
theorem w_room : about1.hasRoom e0.platform room_1 = true :=
  launch0.hasRoom_least _ room_1 (by decide +kernel) (by decide +kernel) (by decide +kernel) (by decide +kernel) (by decide +kernel) (by decide +kernel)
theorem allAtoms_all (ts : List Jvm.Cond) (a : Array Jvm.Value) (st : Jvm.State) : (allAtoms ts).before a st = ts.all (fun c => c.before a st) := by
  induction ts with
  | nil => rfl
  | cons c t ih =>
    show (Jvm.Cond.and c (allAtoms t)).before a st = _
    rw [Jvm.Cond.before_and, ih, List.all_cons]
def words1 : List Jvm.Cond := Jvm.Cond.code x code maxLocals ret :: tables_1
/-- a 'code' word, met by the world's own term for the bytes: nothing is compared byte by byte -/
theorem code_word {y : MethodName} {bytes : ByteArray} {mx : Nat} {rt : Option FieldType} {a : Array Value} {s : State} {m : MethodId} {meth : Method} {c : Code} (h1 : s.methodNamed? y = some m) (h2 : s.vm.method? m = some meth) (h3 : meth.code = some c) (h4 : c.code = bytes)
    (h5 : (c.maxLocals == mx && c.exceptionTable.isEmpty && decide (c.maxStack ≤ mostOperands) && decide (meth.sig.returnType = rt) && !meth.locks && decide (parseMethodDescriptor y.desc = some meth.sig)) = true) : (Jvm.Cond.code y bytes mx rt).before a s = true := by
  simp only [Bool.and_eq_true, beq_iff_eq, Bool.not_eq_true', decide_eq_true_eq] at h5
  obtain ⟨⟨⟨⟨⟨g1, g2⟩, g3⟩, g4⟩, g5⟩, g6⟩ := h5
  simp [Cond.before, Cond.holds, Cond.value, h1, h2, h3, h4, g1, g2, g3, g4, g5, g6]
def isCode : Jvm.Cond → Bool
  | .code _ _ _ _ => true
  | _ => false
theorem all_split {L : List Jvm.Cond} {P : Jvm.Cond → Bool} (h1 : L.all (fun c => isCode c || P c) = true) (h2 : ∀ c ∈ L.filter isCode, P c = true) : L.all P = true := by
  refine List.all_eq_true.mpr fun c hc => ?_
  have h := List.all_eq_true.mp h1 c hc
  rcases Bool.eq_false_or_eq_true (isCode c) with hi | hi
  · exact h2 c (List.mem_filter.mpr ⟨hc, hi⟩)
  · simpa [hi] using h
set_option maxRecDepth 65536 in
theorem w_c0 : (Jvm.Cond.code x code maxLocals ret).before args0 about1 = true := code_word (m := ⟨1, 2⟩) (meth := k1m2) (c := k1c2) (by decide +kernel) rfl rfl rfl (by decide +kernel)
set_option maxRecDepth 65536 in
theorem w_c1 : (Jvm.Cond.code ({ cls := "com/example/vorgang/vorgang/model/PolicyApplyPinLaw", name := "pick", desc := "(I)Lcom/example/vorgang/vorgang/model/Policy;" } : Jvm.MethodName) method_2_code (1 : Nat) (Option.some (Jvm.ClassFile.FieldType.object "com/example/vorgang/vorgang/model/Policy"))).before args0 about1 = true := code_word (m := ⟨1, 1⟩) (meth := k1m1) (c := k1c1) (by decide +kernel) rfl rfl rfl (by decide +kernel)
set_option maxRecDepth 65536 in
theorem w_c2 : (Jvm.Cond.code ({ cls := "com/example/vorgang/vorgang/model/Policy", name := "apply", desc := "(Z)Ljava/util/Optional;" } : Jvm.MethodName) prog_18_method_4_code (3 : Nat) (Option.some (Jvm.ClassFile.FieldType.object "java/util/Optional"))).before args0 about1 = true := code_word (m := ⟨6, 0⟩) (meth := k6m0) (c := k6c0) (by decide +kernel) rfl rfl rfl (by decide +kernel)
set_option maxRecDepth 65536 in
theorem w_c3 : (Jvm.Cond.code ({ cls := "java/lang/Enum", name := "ordinal", desc := "()I" } : Jvm.MethodName) jdk_37_method_2_code (1 : Nat) (Option.some Jvm.ClassFile.FieldType.int)).before args0 about1 = true := code_word (m := ⟨5, 0⟩) (meth := k5m0) (c := k5c0) (by decide +kernel) rfl rfl rfl (by decide +kernel)
set_option maxRecDepth 65536 in
theorem w_c4 : (Jvm.Cond.code ({ cls := "java/util/Optional", name := "ofNullable", desc := "(Ljava/lang/Object;)Ljava/util/Optional;" } : Jvm.MethodName) jdk_32_method_4_code (1 : Nat) (Option.some (Jvm.ClassFile.FieldType.object "java/util/Optional"))).before args0 about1 = true := code_word (m := ⟨8, 1⟩) (meth := k8m1) (c := k8c1) (by decide +kernel) rfl rfl rfl (by decide +kernel)
set_option maxRecDepth 65536 in
theorem w_c5 : (Jvm.Cond.code ({ cls := "java/util/Optional", name := "<init>", desc := "(Ljava/lang/Object;)V" } : Jvm.MethodName) jdk_32_method_2_code (2 : Nat) (Option.none : Option Jvm.ClassFile.FieldType)).before args0 about1 = true := code_word (m := ⟨8, 0⟩) (meth := k8m0) (c := k8c0) (by decide +kernel) rfl rfl rfl (by decide +kernel)
set_option maxRecDepth 65536 in
theorem w_c6 : (Jvm.Cond.code ({ cls := "java/lang/Object", name := "<init>", desc := "()V" } : Jvm.MethodName) object_method_1_code (1 : Nat) (Option.none : Option Jvm.ClassFile.FieldType)).before args0 about1 = true := code_word (m := ⟨0, 0⟩) (meth := k0m0) (c := k0c0) (by decide +kernel) rfl rfl rfl (by decide +kernel)
set_option maxRecDepth 65536 in
theorem w_c7 : (Jvm.Cond.code ({ cls := "java/util/Optional", name := "isPresent", desc := "()Z" } : Jvm.MethodName) jdk_32_method_6_code (1 : Nat) (Option.some Jvm.ClassFile.FieldType.boolean)).before args0 about1 = true := code_word (m := ⟨8, 3⟩) (meth := k8m3) (c := k8c3) (by decide +kernel) rfl rfl rfl (by decide +kernel)
set_option maxRecDepth 65536 in
theorem w_c8 : (Jvm.Cond.code ({ cls := "java/util/Optional", name := "get", desc := "()Ljava/lang/Object;" } : Jvm.MethodName) jdk_32_method_5_code (1 : Nat) (Option.some (Jvm.ClassFile.FieldType.object "java/lang/Object"))).before args0 about1 = true := code_word (m := ⟨8, 2⟩) (meth := k8m2) (c := k8c2) (by decide +kernel) rfl rfl rfl (by decide +kernel)
def codes1 : List Jvm.Cond := [Jvm.Cond.code x code maxLocals ret, Jvm.Cond.code ({ cls := "com/example/vorgang/vorgang/model/PolicyApplyPinLaw", name := "pick", desc := "(I)Lcom/example/vorgang/vorgang/model/Policy;" } : Jvm.MethodName) method_2_code (1 : Nat) (Option.some (Jvm.ClassFile.FieldType.object "com/example/vorgang/vorgang/model/Policy")), Jvm.Cond.code ({ cls := "com/example/vorgang/vorgang/model/Policy", name := "apply", desc := "(Z)Ljava/util/Optional;" } : Jvm.MethodName) prog_18_method_4_code (3 : Nat) (Option.some (Jvm.ClassFile.FieldType.object "java/util/Optional")), Jvm.Cond.code ({ cls := "java/lang/Enum", name := "ordinal", desc := "()I" } : Jvm.MethodName) jdk_37_method_2_code (1 : Nat) (Option.some Jvm.ClassFile.FieldType.int), Jvm.Cond.code ({ cls := "java/util/Optional", name := "ofNullable", desc := "(Ljava/lang/Object;)Ljava/util/Optional;" } : Jvm.MethodName) jdk_32_method_4_code (1 : Nat) (Option.some (Jvm.ClassFile.FieldType.object "java/util/Optional")), Jvm.Cond.code ({ cls := "java/util/Optional", name := "<init>", desc := "(Ljava/lang/Object;)V" } : Jvm.MethodName) jdk_32_method_2_code (2 : Nat) (Option.none : Option Jvm.ClassFile.FieldType), Jvm.Cond.code ({ cls := "java/lang/Object", name := "<init>", desc := "()V" } : Jvm.MethodName) object_method_1_code (1 : Nat) (Option.none : Option Jvm.ClassFile.FieldType), Jvm.Cond.code ({ cls := "java/util/Optional", name := "isPresent", desc := "()Z" } : Jvm.MethodName) jdk_32_method_6_code (1 : Nat) (Option.some Jvm.ClassFile.FieldType.boolean), Jvm.Cond.code ({ cls := "java/util/Optional", name := "get", desc := "()Ljava/lang/Object;" } : Jvm.MethodName) jdk_32_method_5_code (1 : Nat) (Option.some (Jvm.ClassFile.FieldType.object "java/lang/Object"))]
set_option maxRecDepth 65536 in
theorem codes_eq : words1.filter isCode = codes1 := rfl
theorem w_codes : ∀ c ∈ words1.filter isCode, c.before args0 about1 = true := by
  rw [codes_eq]
  intro c hc
  simp only [codes1, List.mem_cons, List.not_mem_nil, or_false] at hc
  rcases hc with rfl | rfl | rfl | rfl | rfl | rfl | rfl | rfl | rfl
  · exact w_c0
  · exact w_c1
  · exact w_c2
  · exact w_c3
  · exact w_c4
  · exact w_c5
  · exact w_c6
  · exact w_c7
  · exact w_c8
set_option maxRecDepth 65536 in
theorem w_t1 : (words1.take 24).all (fun c => isCode c || c.before args0 about1) = true := by decide +kernel
set_option maxRecDepth 65536 in
theorem w_t2 : ((words1.drop 24).take 24).all (fun c => isCode c || c.before args0 about1) = true := by decide +kernel
set_option maxRecDepth 65536 in
theorem w_t3 : ((words1.drop 24).drop 24).all (fun c => isCode c || c.before args0 about1) = true := by decide +kernel
theorem w_tables : (allAtoms (Jvm.Cond.code x code maxLocals ret :: tables_1)).before args0 about1 = true := by
  rw [allAtoms_all]
  show words1.all (fun c => c.before args0 about1) = true
  refine all_split ?_ w_codes
  rw [← List.take_append_drop 24 words1, List.all_append, w_t1, ← List.take_append_drop 24 (words1.drop 24), List.all_append, w_t2, w_t3]
  rfl
set_option maxRecDepth 65536 in
theorem w_rest : rest_1_c.before args0 about1 = true := by decide +kernel
set_option maxRecDepth 65536 in
theorem w_case : (Jvm.Cond.and given_1 narrow_1).before args0 about1 = true := by decide +kernel
theorem w_applies : (headSpec (Jvm.Cond.code x code maxLocals ret :: tables_1) room_1).applies x e0.platform about1 = true :=
  (Spec.applies_iff w_frames).mpr ⟨w_running, w_runnable, w_alone, w_named, w_hears, w_ripe, w_room, w_tables⟩
theorem atStart : AtStart classFile x code maxLocals ret World_1 tables_1 room_1 Calls_1 rest_1 Pre_1 launch0 p0 e0 about1 theMethod args0 below0 :=
  ⟨lists_1, trivial, launch0.admits_env _ _ _, launch0.least_env, fairChoices_fair.cas, fairChoices_fair.clock, w_frames, w_args, w_heap, w_applies, trivial, w_rest, w_case⟩
end start1
theorem witness_1 : WitnessClaimed_1 := ⟨start1.p0, start1.e0, start1.about1, start1.theMethod, start1.args0, start1.below0, start1.atStart⟩
end Jvm.Pilot.@@N@@
