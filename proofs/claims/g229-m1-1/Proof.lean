import JvmDerived
import JvmDerived.Pilot.@@N@@Statement
import JvmDerived.Pilot.@@N@@Code
set_option linter.unusedVariables false
set_option linter.unusedSimpArgs false

namespace Jvm.Pilot.@@N@@
open Jvm Jvm.ClassFile Sem Op Lib Jvm.Free Jvm.Stand Jvm.LawKit Jvm.RoadKit Bundle Jvm.Pilot.@@N@@.Jvm.D
abbrev oi (x : Int32) : Slot := .val (.int x)
abbrev oa (x : Addr) : Slot := .val (.ref x)
/-- from here the run comes to its end with what P says -/
def oGo (p : Program) (e : Env) (below : List Frame) (P : Outcome → State → Prop) (T : State) (g : JFrame) : Prop := ∃ s₂ o, Steps p.tables e below (T.setTop g) s₂ ∧ s₂.status = .running ∧ Ended s₂ below o ∧ P o s₂
theorem oby {p : Program} {e : Env} {below : List Frame} {P : Outcome → State → Prop} {T T' : State} {g g' : JFrame} (k : ∀ t, Steps p.tables e below (T'.setTop g') t → Steps p.tables e below (T.setTop g) t) (h : oGo p e below P T' g') : oGo p e below P T g := by
  obtain ⟨s₂, o, h1, h2⟩ := h
  exact ⟨s₂, o, k _ h1, h2⟩
theorem ostart {p : Program} {e : Env} {below : List Frame} {P : Outcome → State → Prop} {T : State} {g g' : JFrame} (q : g = g') (h : oGo p e below P T g') : ∃ s₂ o, Steps p.tables e below (T.setTop g) s₂ ∧ s₂.status = .running ∧ Ended s₂ below o ∧ P o s₂ := by subst q; exact h
theorem oout {p : Program} {e : Env} {below : List Frame} {P : Outcome → State → Prop} {T s₂ : State} {g : JFrame} {o : Outcome} (h1 : Steps p.tables e below (T.setTop g) s₂) (h2 : s₂.status = .running) (h3 : Ended s₂ below o) (h4 : P o s₂) : oGo p e below P T g := ⟨s₂, o, h1, h2, h3, h4⟩
theorem ob {p : Program} {e : Env} {below : List Frame} {P : Outcome → State → Prop} {T : State} {g : JFrame} (T' : State) (g' : JFrame) (k : ∀ t, Steps p.tables e below (T'.setTop g') t → Steps p.tables e below (T.setTop g) t) (h : oGo p e below P T' g') : oGo p e below P T g := oby k h
theorem osuff {p : Program} {e : Env} {below : List Frame} {P : Outcome → State → Prop} {T T' : State} {g g' : JFrame} (h1 : oGo p e below P T' g' → oGo p e below P T g) (h2 : oGo p e below P T' g') : oGo p e below P T g := h1 h2
theorem ow {L : List Jvm.Cond} {Z : State} {a0 : Array Value} (hw : ∀ d ∈ L, d.before a0 Z = true) (k : Nat) {d : Jvm.Cond} (h : L[k]? = some d) : d.before a0 Z = true := hw d (List.mem_of_getElem? h)
theorem on0 {Z : State} {n0 : Nat} {h : Heap} (O : Old Z n0 h) : n0 ≤ h.size := by have h1 := O.1; have h2 := O.2.1; omega
theorem oretA {p : Program} {l : Launch} {e : Env} {R : Room} {s : State} {m : MethodId} {args : Array Value} {below : List Frame} {meth : Method} {c : Code} {T : State} {locs : List Loc} {cells slots : Nat} (X : Stand p l e R s m args below meth c T locs cells slots) (hx : p.tables.exec = Jvm.exec) {pc : Nat} {Ls : Array Slot} {w : Value} {t : FieldType} {rest : List Value} (hret : meth.sig.returnType = some t) (ht : t.isReference = true) (hw : w.isRef = true)
    (hd : decode c.code pc = .ok (.areturn, 1)) {fs : List Frame} (hl : ∀ (f : JFrame) (acts : List Action), f.method = m → f.locked = none → f.entered = [] → (doReturn e (T.setTop f) acts (some w)).1 = T.setFrames fs) :
    Steps p.tables e below (T.setTop (mkF m pc Ls (w :: rest))) (T.setFrames fs) :=
  retOut X hx hret (by cases w <;> first | (simp [Value.isRef] at hw; done) | (cases t <;> rfl)) (Or.inr (Or.inr (Or.inr (Or.inr ⟨rfl, ht, hw⟩)))) hd hl

theorem own_sta {s : State} {args : Array Value} {C n d K : String} (h : (Cond.exactly (.static C n d) K).value args s none s [] = some true) (hi : (Cond.initializedFor C n d).before args s = true ∨ ((Cond.initialized C).before args s = true ∧ (Cond.laysStatic C n d).before args s = true)) :
    ∃ a, (Term.static C n d).eval args s none [] s = some (.ref a) ∧ Sta s s.heap C n d (.ref a) ∧ Exa s s.heap a K := by
  obtain ⟨a, ev⟩ := exa_v h
  exact ⟨a, ev, Sta.start ev hi, Exa.start ev h⟩
theorem own_fldI {s : State} {args : Array Value} {t : Term} {a : Addr} {C n d : String} {k : Int32} (ev : t.eval args s none [] s = some (.ref a)) (h : (Cond.eq (.field t C n d) (.int k)).value args s none s [] = some true) : Fld s s.heap a C n d (.int k) := by
  obtain ⟨x, y, ex, ey, k1, k2⟩ := cmp_v (Or.inl h)
  have e2 : y = .int k := (Option.some.inj ((Term.int_eval k).symm.trans ey)).symm
  subst e2
  obtain ⟨z, rfl⟩ := k2
  have e3 : z = k := gotT (Cond.eq_ints ex ey) h
  subst e3
  exact Fld.start ((fld_at ev).symm.trans ex)
theorem own_fldL {s : State} {args : Array Value} {t : Term} {a : Addr} {C n d : String} {k : Int64} (ev : t.eval args s none [] s = some (.ref a)) (h : (Cond.eq (.field t C n d) (.long k)).value args s none s [] = some true) : Fld s s.heap a C n d (.long k) := by
  obtain ⟨x, y, ex, ey, k1, k2⟩ := cmp_v (Or.inl h)
  have e2 : y = .long k := by simpa [Term.eval] using ey.symm
  subst e2
  obtain ⟨z, rfl⟩ := k2
  have e3 : z = k := gotT (eq_L ex ey) h
  subst e3
  exact Fld.start ((fld_at ev).symm.trans ex)
theorem own_fldN {s : State} {args : Array Value} {t : Term} {a : Addr} {C n d : String} (ev : t.eval args s none [] s = some (.ref a)) (h : (Cond.eq (.field t C n d) .null).value args s none s [] = some true) : Fld s s.heap a C n d .null :=
  Fld.start ((fld_at ev).symm.trans (null_v h))
theorem pn_0 : plainName "com/example/carrel/carrel/document/BoundDocument$FileType" = true := by first | (simp [plainName, overriddenIn]; done) | decide +kernel
theorem pn_1 : plainName "com/example/carrel/carrel/document/FileTypeOfPinLaw" = true := by first | (simp [plainName, overriddenIn]; done) | decide +kernel
theorem own_len {s : State} {args : Array Value} {t : Term} {a : Addr} {c : Cell} {z : Int32} (A : s.arrayAt? a = some c) (ev : t.eval args s none [] s = some (.ref a)) (h : (Cond.eq (.length t) (.int z)).value args s none s [] = some true) : c.slots.size < 2 ^ 31 ∧ c.slots.size.toInt32 = z := by
  have e := eqv_i (Term.int_eval z) h
  have hl : c.slots.size < 2 ^ 31 := by
    by_cases q : c.slots.size < 2 ^ 31
    · exact q
    · exfalso
      have q' : ¬ c.slots.size < 2147483648 := q
      simp [Term.eval, ev, A, q'] at e
  rw [len_f ev A hl] at e
  exact ⟨hl, by simpa using e⟩
theorem own_eqR {s : State} {args : Array Value} {X Y : Term} {w : Addr} (hY : Y.eval args s none [] s = some (.ref w)) (h : (Cond.eq X Y).value args s none s [] = some true) : X.eval args s none [] s = some (.ref w) := by
  obtain ⟨x, y, e1, e2, k1, k2⟩ := cmp_v (Or.inl h)
  cases hY.symm.trans e2
  have hx : x.isRef = true := k2.2
  rw [e1]
  exact congrArg some (gotT (eq_R e1 hY hx rfl) h)

def St0 (Z : State) (w_IMAGE_600 : Addr) (w_THUMBNAIL : Addr) (w_PAGE_TEXT : Addr) (w_NOTES : Addr) (w_OTHER : Addr) (w_IMAGE_300 : Addr) (w_VALUES : Addr) (c_VALUES : Cell) : Prop := Sta Z Z.heap "com/example/carrel/carrel/document/BoundDocument$FileType" "IMAGE_600" "Lcom/example/carrel/carrel/document/BoundDocument$FileType;" (.ref w_IMAGE_600) ∧ Exa Z Z.heap w_IMAGE_600 "com/example/carrel/carrel/document/BoundDocument$FileType" ∧ Sta Z Z.heap "com/example/carrel/carrel/document/BoundDocument$FileType" "THUMBNAIL" "Lcom/example/carrel/carrel/document/BoundDocument$FileType;" (.ref w_THUMBNAIL) ∧ Exa Z Z.heap w_THUMBNAIL "com/example/carrel/carrel/document/BoundDocument$FileType" ∧ Sta Z Z.heap "com/example/carrel/carrel/document/BoundDocument$FileType" "PAGE_TEXT" "Lcom/example/carrel/carrel/document/BoundDocument$FileType;" (.ref w_PAGE_TEXT) ∧ Exa Z Z.heap w_PAGE_TEXT "com/example/carrel/carrel/document/BoundDocument$FileType" ∧ Sta Z Z.heap "com/example/carrel/carrel/document/BoundDocument$FileType" "NOTES" "Lcom/example/carrel/carrel/document/BoundDocument$FileType;" (.ref w_NOTES) ∧ Exa Z Z.heap w_NOTES "com/example/carrel/carrel/document/BoundDocument$FileType" ∧ Sta Z Z.heap "com/example/carrel/carrel/document/BoundDocument$FileType" "OTHER" "Lcom/example/carrel/carrel/document/BoundDocument$FileType;" (.ref w_OTHER) ∧ Exa Z Z.heap w_OTHER "com/example/carrel/carrel/document/BoundDocument$FileType" ∧ Sta Z Z.heap "com/example/carrel/carrel/document/BoundDocument$FileType" "IMAGE_300" "Lcom/example/carrel/carrel/document/BoundDocument$FileType;" (.ref w_IMAGE_300) ∧ Exa Z Z.heap w_IMAGE_300 "com/example/carrel/carrel/document/BoundDocument$FileType" ∧ Sta Z Z.heap "com/example/carrel/carrel/document/BoundDocument$FileType" "$VALUES" "[Lcom/example/carrel/carrel/document/BoundDocument$FileType;" (.ref w_VALUES) ∧ Exa Z Z.heap w_VALUES "[Lcom/example/carrel/carrel/document/BoundDocument$FileType;" ∧ Arv Z Z.heap w_VALUES c_VALUES.cls (.object "com/example/carrel/carrel/document/BoundDocument$FileType") (6 : Int32) [(.ref w_IMAGE_600), (.ref w_THUMBNAIL), (.ref w_PAGE_TEXT), (.ref w_NOTES), (.ref w_OTHER), (.ref w_IMAGE_300)] .null ∧ Fld Z Z.heap w_IMAGE_600 "com/example/carrel/carrel/document/BoundDocument$FileType" "number" "I" (.int (1 : Int32)) ∧ Fld Z Z.heap w_THUMBNAIL "com/example/carrel/carrel/document/BoundDocument$FileType" "number" "I" (.int (2 : Int32)) ∧ Fld Z Z.heap w_PAGE_TEXT "com/example/carrel/carrel/document/BoundDocument$FileType" "number" "I" (.int (3 : Int32)) ∧ Fld Z Z.heap w_NOTES "com/example/carrel/carrel/document/BoundDocument$FileType" "number" "I" (.int (4 : Int32)) ∧ Fld Z Z.heap w_OTHER "com/example/carrel/carrel/document/BoundDocument$FileType" "number" "I" (.int (5 : Int32)) ∧ Fld Z Z.heap w_IMAGE_300 "com/example/carrel/carrel/document/BoundDocument$FileType" "number" "I" (.int (6 : Int32)) ∧ w_IMAGE_600 ≠ w_THUMBNAIL ∧ w_IMAGE_600 ≠ w_PAGE_TEXT ∧ w_IMAGE_600 ≠ w_NOTES ∧ w_IMAGE_600 ≠ w_OTHER ∧ w_IMAGE_600 ≠ w_IMAGE_300 ∧ w_THUMBNAIL ≠ w_PAGE_TEXT ∧ w_THUMBNAIL ≠ w_NOTES ∧ w_THUMBNAIL ≠ w_OTHER ∧ w_THUMBNAIL ≠ w_IMAGE_300 ∧ w_PAGE_TEXT ≠ w_NOTES ∧ w_PAGE_TEXT ≠ w_OTHER ∧ w_PAGE_TEXT ≠ w_IMAGE_300 ∧ w_NOTES ≠ w_OTHER ∧ w_NOTES ≠ w_IMAGE_300 ∧ w_OTHER ≠ w_IMAGE_300

theorem d2_0 : decode prog_15_method_1_code 0 = .ok (.getstatic 22, 3) := by decide +kernel
theorem d2_3 : decode prog_15_method_1_code 3 = .ok (.invokevirtual 26, 3) := by decide +kernel
theorem d2_6 : decode prog_15_method_1_code 6 = .ok (.checkcast 27, 3) := by decide +kernel
theorem d2_9 : decode prog_15_method_1_code 9 = .ok (.areturn, 1) := by decide +kernel
def Q_rm_values (Z : State) (w_IMAGE_600 : Addr) (w_THUMBNAIL : Addr) (w_PAGE_TEXT : Addr) (w_NOTES : Addr) (w_OTHER : Addr) (w_IMAGE_300 : Addr) (w_VALUES : Addr) (c_VALUES : Cell)  (h0 : Heap) (n0 : Nat) (v : Option Value) (h : Heap) (L : List Loc) : Prop := ∃ (b0 : Addr), v = some (.ref b0) ∧ Fr n0 L ∧ Keep h0 h [] ∧ Old Z n0 h ∧ n0 ≤ b0 ∧ h0.size ≤ b0 ∧ Exa Z h b0 "[Lcom/example/carrel/carrel/document/BoundDocument$FileType;" ∧ Arv Z h b0 c_VALUES.cls (.object "com/example/carrel/carrel/document/BoundDocument$FileType") (6 : Int32) [(.ref w_IMAGE_600), (.ref w_THUMBNAIL), (.ref w_PAGE_TEXT), (.ref w_NOTES), (.ref w_OTHER), (.ref w_IMAGE_300)] .null
set_option maxRecDepth 65536 in
set_option maxHeartbeats 40000000 in
theorem rm_values (l : Launch) (Z : State) (a0 : Array Value) (hw : ∀ d ∈ tables_1, d.before a0 Z = true) (ws : List Jvm.Cond) (w_IMAGE_600 : Addr) (w_THUMBNAIL : Addr) (w_PAGE_TEXT : Addr) (w_NOTES : Addr) (w_OTHER : Addr) (w_IMAGE_300 : Addr) (w_VALUES : Addr) (c_VALUES : Cell)  (h0 : Heap) (n0 : Nat) (O0 : Old Z n0 h0) (hS : St0 Z w_IMAGE_600 w_THUMBNAIL w_PAGE_TEXT w_NOTES w_OTHER w_IMAGE_300 w_VALUES c_VALUES ) :
    MetFree l (⟨"com/example/carrel/carrel/document/BoundDocument$FileType", "values", "()[Lcom/example/carrel/carrel/document/BoundDocument$FileType;"⟩ : MethodName) (head1 (Jvm.Cond.code (⟨"com/example/carrel/carrel/document/BoundDocument$FileType", "values", "()[Lcom/example/carrel/carrel/document/BoundDocument$FileType;"⟩ : MethodName) prog_15_method_1_code 0 (some (.array (.object "com/example/carrel/carrel/document/BoundDocument$FileType"))) :: ws) ({ frames := 1, cells := 1, slots := 6, locals := 14 } : Room)) (fun aG UG => aG = #[] ∧ Z.Warmed39 UG.vm ∧ UG.heap = h0) (fun _ _ _ _ _ => True) (fun _ UG oG UG' => ∃ vG LG, oG = .returned vG ∧ Q_rm_values Z w_IMAGE_600 w_THUMBNAIL w_PAGE_TEXT w_NOTES w_OTHER w_IMAGE_300 w_VALUES c_VALUES  h0 n0 vG UG'.heap LG ∧ FrameEnd UG oG UG' LG ({ frames := 1, cells := 1, slots := 6, locals := 14 } : Room).cells ({ frames := 1, cells := 1, slots := 6, locals := 14 } : Room).slots) := by
  refine MetFree.of_bodySF (plainFor_of_name pn_0) hisR ?_
  intro pG eG sG mG argsG belowG methG cG s₁ Bd hml0 hP hK
  obtain ⟨rfl, hZ, hh⟩ := hP
  have hx := Bd.exec
  have hby := Bd.bytes
  have hml : cG.maxLocals = 0 := hml0
  have hown : sG.vm.findClass "com/example/carrel/carrel/document/BoundDocument$FileType" = some mG.cls := findClass_of_methodNamed Bd.named
  have hnm := (name_of_methodNamed Bd.named Bd.method).1
  have X0 : Stand pG l eG ({ frames := 1, cells := 1, slots := 6, locals := 14 } : Room) sG mG #[] belowG methG cG s₁ [] 0 0 := Stand.of_body Bd
  have e0 : s₁.heap = h0 := by rw [← hh, Bd.state]; rfl
  have N0 := Fr.nil n0
  have K0 := Keep.refl h0 []
  obtain ⟨S_w_IMAGE_600, E_w_IMAGE_600, S_w_THUMBNAIL, E_w_THUMBNAIL, S_w_PAGE_TEXT, E_w_PAGE_TEXT, S_w_NOTES, E_w_NOTES, S_w_OTHER, E_w_OTHER, S_w_IMAGE_300, E_w_IMAGE_300, S_w_VALUES, E_w_VALUES, V_w_VALUES, F_w_IMAGE_600_number, F_w_THUMBNAIL_number, F_w_PAGE_TEXT_number, F_w_NOTES_number, F_w_OTHER_number, F_w_IMAGE_300_number, ne_w_IMAGE_600_w_THUMBNAIL, ne_w_IMAGE_600_w_PAGE_TEXT, ne_w_IMAGE_600_w_NOTES, ne_w_IMAGE_600_w_OTHER, ne_w_IMAGE_600_w_IMAGE_300, ne_w_THUMBNAIL_w_PAGE_TEXT, ne_w_THUMBNAIL_w_NOTES, ne_w_THUMBNAIL_w_OTHER, ne_w_THUMBNAIL_w_IMAGE_300, ne_w_PAGE_TEXT_w_NOTES, ne_w_PAGE_TEXT_w_OTHER, ne_w_PAGE_TEXT_w_IMAGE_300, ne_w_NOTES_w_OTHER, ne_w_NOTES_w_IMAGE_300, ne_w_OTHER_w_IMAGE_300⟩ := (id hS : St0 Z w_IMAGE_600 w_THUMBNAIL w_PAGE_TEXT w_NOTES w_OTHER w_IMAGE_300 w_VALUES c_VALUES )
  refine ostart (g' := (mkF mG 0 #[] [])) (by first | (simp [entryFrame, mkF, argsToLocals, Value.category]; done) | rfl) ?_
  obtain ⟨T1, X1, e1, st1⟩ := getS2 X0 hx hZ hown (host := "") (Or.inl (ow hw 7 rfl)) Via.refl e0 (S_w_VALUES.ext O0.2) (g := (mkF mG 0 #[] [])) rfl (hb hby d2_0)
  refine ob T1 (mkF mG 3 #[] [(.ref w_VALUES)]) (fun _ kk => st1 _ kk) ?_
  obtain ⟨T2, h2, X2, e2, E2, V2, A2, st2⟩ := cloneH X1 hx hZ hown (ow hw 9 rfl) (ow hw 10 rfl) (ow hw 14 rfl) (ow hw 12 rfl) (ow hw 13 rfl) (ow hw 15 rfl) e1 (Arv.arh (V_w_VALUES.ext O0.2)) (E_w_VALUES.ext O0.2) (g := (mkF mG 3 #[] [(.ref w_VALUES)])) rfl (by rw [hml]; rfl) rfl (hb hby d2_3) (by decide) (W := 0) (cap := 6) (by show 2 * 0 + _ ≤ _; exact Nat.le_of_eq rfl) (by decide) (by decide) (by decide) (by decide)
  obtain ⟨b2, g2⟩ : ∃ z, z = h0.size := ⟨_, rfl⟩
  rw [← g2] at V2 A2 st2
  have n_b2 : n0 ≤ b2 := Nat.le_trans (on0 O0) (Nat.le_of_eq g2.symm)
  have sz_b2 : h0.size ≤ b2 := Nat.le_trans K0.1 (Nat.le_of_eq g2.symm)
  have O2 := O0.ext E2
  have K2 := K0.ext E2
  have VV2 : Arv Z h2 b2 c_VALUES.cls (.object "com/example/carrel/carrel/document/BoundDocument$FileType") (6 : Int32) [(.ref w_IMAGE_600), (.ref w_THUMBNAIL), (.ref w_PAGE_TEXT), (.ref w_NOTES), (.ref w_OTHER), (.ref w_IMAGE_300)] .null := V2
  refine ob T2 (mkF mG 6 #[] [(.ref b2)]) (fun _ kk => st2 _ kk) ?_
  obtain ⟨T3, X3, e3, st3⟩ := castY X2 hx hZ hown (ow hw 23 rfl) e2 (Ins.self A2) (g := (mkF mG 6 #[] [(.ref b2)])) rfl rfl (hb hby d2_6)
  refine ob T3 (mkF mG 9 #[] [(.ref b2)]) (fun _ kk => st3 _ kk) ?_
  obtain ⟨fs, hr, hrun, hended, hW, hsame⟩ := X3.leave (v := some (.ref b2)) (fun h => by rw [Bd.returns] at h; cases h)
  refine oout (oretA X3 hx Bd.returns rfl rfl (hb hby d2_9) hr) hrun hended ⟨_, _, rfl, ?_, ⟨_, rfl⟩, hW, hsame.mono (by decide) (by decide)⟩
  show Q_rm_values Z w_IMAGE_600 w_THUMBNAIL w_PAGE_TEXT w_NOTES w_OTHER w_IMAGE_300 w_VALUES c_VALUES  h0 n0 _ T3.heap _
  rw [e3]
  exact ⟨b2, rfl, N0, K2, O2, n_b2, sz_b2, A2, VV2⟩

theorem d1_0 : decode prog_15_method_6_code 0 = .ok (.invokestatic 49, 3) := by decide +kernel
theorem d1_3 : decode prog_15_method_6_code 3 = .ok (.astore_n 1, 1) := by decide +kernel
theorem d1_4 : decode prog_15_method_6_code 4 = .ok (.aload_n 1, 1) := by decide +kernel
theorem d1_5 : decode prog_15_method_6_code 5 = .ok (.arraylength, 1) := by decide +kernel
theorem d1_6 : decode prog_15_method_6_code 6 = .ok (.istore_n 2, 1) := by decide +kernel
theorem d1_7 : decode prog_15_method_6_code 7 = .ok (.iconst 0, 1) := by decide +kernel
theorem d1_8 : decode prog_15_method_6_code 8 = .ok (.istore_n 3, 1) := by decide +kernel
theorem d1_9 : decode prog_15_method_6_code 9 = .ok (.iload_n 3, 1) := by decide +kernel
theorem d1_10 : decode prog_15_method_6_code 10 = .ok (.iload_n 2, 1) := by decide +kernel
theorem d1_11 : decode prog_15_method_6_code 11 = .ok (.if_icmp .ge 26, 3) := by decide +kernel
theorem d1_14 : decode prog_15_method_6_code 14 = .ok (.aload_n 1, 1) := by decide +kernel
theorem d1_15 : decode prog_15_method_6_code 15 = .ok (.iload_n 3, 1) := by decide +kernel
theorem d1_16 : decode prog_15_method_6_code 16 = .ok (.aaload, 1) := by decide +kernel
theorem d1_17 : decode prog_15_method_6_code 17 = .ok (.astore 4, 2) := by decide +kernel
theorem d1_19 : decode prog_15_method_6_code 19 = .ok (.aload 4, 2) := by decide +kernel
theorem d1_21 : decode prog_15_method_6_code 21 = .ok (.getfield 41, 3) := by decide +kernel
theorem d1_24 : decode prog_15_method_6_code 24 = .ok (.iload_n 0, 1) := by decide +kernel
theorem d1_25 : decode prog_15_method_6_code 25 = .ok (.if_icmp .ne 6, 3) := by decide +kernel
theorem d1_28 : decode prog_15_method_6_code 28 = .ok (.aload 4, 2) := by decide +kernel
theorem d1_30 : decode prog_15_method_6_code 30 = .ok (.areturn, 1) := by decide +kernel
theorem pd_0 : parseMethodDescriptor "()[Lcom/example/carrel/carrel/document/BoundDocument$FileType;" = some ⟨[], some (.array (.object "com/example/carrel/carrel/document/BoundDocument$FileType"))⟩ := by decide +kernel
def Q_rm_of1 (Z : State) (w_IMAGE_600 : Addr) (w_THUMBNAIL : Addr) (w_PAGE_TEXT : Addr) (w_NOTES : Addr) (w_OTHER : Addr) (w_IMAGE_300 : Addr) (w_VALUES : Addr) (c_VALUES : Cell)  (h0 : Heap) (n0 : Nat) (v : Option Value) (h : Heap) (L : List Loc) : Prop := v = some (.ref w_IMAGE_600) ∧ Fr n0 L ∧ Keep h0 h [] ∧ Old Z n0 h
set_option maxRecDepth 65536 in
set_option maxHeartbeats 40000000 in
theorem rm_of1 (l : Launch) (Z : State) (a0 : Array Value) (hw : ∀ d ∈ tables_1, d.before a0 Z = true) (ws : List Jvm.Cond) (w_IMAGE_600 : Addr) (w_THUMBNAIL : Addr) (w_PAGE_TEXT : Addr) (w_NOTES : Addr) (w_OTHER : Addr) (w_IMAGE_300 : Addr) (w_VALUES : Addr) (c_VALUES : Cell)  (h0 : Heap) (n0 : Nat) (O0 : Old Z n0 h0) (hS : St0 Z w_IMAGE_600 w_THUMBNAIL w_PAGE_TEXT w_NOTES w_OTHER w_IMAGE_300 w_VALUES c_VALUES ) :
    MetFree l (⟨"com/example/carrel/carrel/document/BoundDocument$FileType", "of", "(I)Lcom/example/carrel/carrel/document/BoundDocument$FileType;"⟩ : MethodName) (head1 (Jvm.Cond.code (⟨"com/example/carrel/carrel/document/BoundDocument$FileType", "of", "(I)Lcom/example/carrel/carrel/document/BoundDocument$FileType;"⟩ : MethodName) prog_15_method_6_code 5 (some (.object "com/example/carrel/carrel/document/BoundDocument$FileType")) :: ws) ({ frames := 2, cells := 1, slots := 6, locals := 25 } : Room)) (fun aG UG => aG = #[(.int (1 : Int32))] ∧ Z.Warmed39 UG.vm ∧ UG.heap = h0) (fun _ _ _ _ _ => True) (fun _ UG oG UG' => ∃ vG LG, oG = .returned vG ∧ Q_rm_of1 Z w_IMAGE_600 w_THUMBNAIL w_PAGE_TEXT w_NOTES w_OTHER w_IMAGE_300 w_VALUES c_VALUES  h0 n0 vG UG'.heap LG ∧ FrameEnd UG oG UG' LG ({ frames := 2, cells := 1, slots := 6, locals := 25 } : Room).cells ({ frames := 2, cells := 1, slots := 6, locals := 25 } : Room).slots) := by
  refine MetFree.of_bodySF (plainFor_of_name pn_0) hisR ?_
  intro pG eG sG mG argsG belowG methG cG s₁ Bd hml0 hP hK
  obtain ⟨rfl, hZ, hh⟩ := hP
  have hx := Bd.exec
  have hby := Bd.bytes
  have hml : cG.maxLocals = 5 := hml0
  have hown : sG.vm.findClass "com/example/carrel/carrel/document/BoundDocument$FileType" = some mG.cls := findClass_of_methodNamed Bd.named
  have hnm := (name_of_methodNamed Bd.named Bd.method).1
  have X0 : Stand pG l eG ({ frames := 2, cells := 1, slots := 6, locals := 25 } : Room) sG mG #[(.int (1 : Int32))] belowG methG cG s₁ [] 0 0 := Stand.of_body Bd
  have e0 : s₁.heap = h0 := by rw [← hh, Bd.state]; rfl
  have N0 := Fr.nil n0
  have K0 := Keep.refl h0 []
  obtain ⟨S_w_IMAGE_600, E_w_IMAGE_600, S_w_THUMBNAIL, E_w_THUMBNAIL, S_w_PAGE_TEXT, E_w_PAGE_TEXT, S_w_NOTES, E_w_NOTES, S_w_OTHER, E_w_OTHER, S_w_IMAGE_300, E_w_IMAGE_300, S_w_VALUES, E_w_VALUES, V_w_VALUES, F_w_IMAGE_600_number, F_w_THUMBNAIL_number, F_w_PAGE_TEXT_number, F_w_NOTES_number, F_w_OTHER_number, F_w_IMAGE_300_number, ne_w_IMAGE_600_w_THUMBNAIL, ne_w_IMAGE_600_w_PAGE_TEXT, ne_w_IMAGE_600_w_NOTES, ne_w_IMAGE_600_w_OTHER, ne_w_IMAGE_600_w_IMAGE_300, ne_w_THUMBNAIL_w_PAGE_TEXT, ne_w_THUMBNAIL_w_NOTES, ne_w_THUMBNAIL_w_OTHER, ne_w_THUMBNAIL_w_IMAGE_300, ne_w_PAGE_TEXT_w_NOTES, ne_w_PAGE_TEXT_w_OTHER, ne_w_PAGE_TEXT_w_IMAGE_300, ne_w_NOTES_w_OTHER, ne_w_NOTES_w_IMAGE_300, ne_w_OTHER_w_IMAGE_300⟩ := (id hS : St0 Z w_IMAGE_600 w_THUMBNAIL w_PAGE_TEXT w_NOTES w_OTHER w_IMAGE_300 w_VALUES c_VALUES )
  refine ostart (g' := (mkF mG 0 #[.val (.int (1 : Int32)), .unset, .unset, .unset, .unset] [])) (by first | (simp [entryFrame, mkF, argsToLocals, Value.category]; done) | rfl) ?_
  obtain ⟨_, _, ⟨T1, L1, k1, n1⟩, -, X1, ⟨Lc1, hQ1, l1, y1, z1⟩, st1⟩ := Jvm.LawKit.callS X0 hx (y := (⟨"com/example/carrel/carrel/document/BoundDocument$FileType", "values", "()[Lcom/example/carrel/carrel/document/BoundDocument$FileType;"⟩ : MethodName)) hown (mvT hZ (ow hw 4 rfl)) (mvT hZ (ow hw 5 rfl)) (mvT hZ (ow hw 2 rfl)) (mvT hZ (ow hw 6 rfl)) (by decide) (backOf (W := 0) (rm_values l Z a0 hw [] w_IMAGE_600 w_THUMBNAIL w_PAGE_TEXT w_NOTES w_OTHER w_IMAGE_300 w_VALUES c_VALUES  h0 n0 O0 hS ) hZ (ow hw 6 rfl) (ow hw 2 rfl) (by decide) (by decide)) (g := (mkF mG 0 #[.val (.int (1 : Int32)), .unset, .unset, .unset, .unset] [])) rfl (by rw [hml]; rfl) (argsL := []) (rest := []) (lenOf pd_0 rfl) rfl (by show 2 * 0 + _ ≤ _; exact Nat.le_of_eq rfl) (hb hby d1_0) (fun _ _ => ⟨rfl, e0, (by decide : 0 + 1 ≤ _), (by decide : 0 + 6 ≤ _)⟩)
  dsimp only [Pt.U, Pt.locs, Pt.cells, Pt.slots] at X1 l1 y1 z1 st1 hQ1
  subst l1 y1 z1
  obtain ⟨h1, e1⟩ : ∃ h, T1.heap = h := ⟨_, rfl⟩
  rw [e1] at hQ1
  obtain ⟨b0_1, rfl, N1q, K1q, O1, n_b0_1, z_b0_1, F1_0, F1_1⟩ := hQ1
  have N1 := Fr.app N0 N1q
  have sz_b0_1 : h0.size ≤ b0_1 := Nat.le_trans K0.1 z_b0_1
  have K1 := K0.trans K1q all0
  refine ob T1 (mkF mG 3 #[.val (.int (1 : Int32)), .unset, .unset, .unset, .unset] [(.ref b0_1)]) (fun _ kk => st1 _ kk) ?_
  refine ob T1 (mkF mG 4 #[.val (.int (1 : Int32)), .val (.ref b0_1), .unset, .unset, .unset] []) (fun _ kk => XS.astoreN X1.here hx rfl (hb hby d1_3) rfl rfl (l' := #[.val (.int (1 : Int32)), .val (.ref b0_1), .unset, .unset, .unset]) rfl kk) ?_
  refine ob T1 (mkF mG 5 #[.val (.int (1 : Int32)), .val (.ref b0_1), .unset, .unset, .unset] [(.ref b0_1)]) (fun _ kk => XS.aloadN X1.here hx rfl (hb hby d1_4) rfl rfl kk) ?_
  obtain ⟨cl2, Ar2, -, S2, N2a, -, -⟩ := id F1_1
  refine oby (T' := T1) (g' := (mkF mG 6 #[.val (.int (1 : Int32)), .val (.ref b0_1), .unset, .unset, .unset] [(.int (6 : Int32))])) (fun ot ok => X1.arraylength hx (by rw [e1]; exact Ar2.1) (State.isArrayOf_alike hZ.alike Ar2.2.1) (g := (mkF mG 5 #[.val (.int (1 : Int32)), .val (.ref b0_1), .unset, .unset, .unset] [(.ref b0_1)])) rfl rfl (hb hby d1_5) _ (by rw [len_of S2 N2a]; exact ok)) ?_
  refine ob T1 (mkF mG 7 #[.val (.int (1 : Int32)), .val (.ref b0_1), .val (.int (6 : Int32)), .unset, .unset] []) (fun _ kk => XS.istoreN X1.here hx rfl (hb hby d1_6) rfl (l' := #[.val (.int (1 : Int32)), .val (.ref b0_1), .val (.int (6 : Int32)), .unset, .unset]) rfl kk) ?_
  refine ob T1 (mkF mG 8 #[.val (.int (1 : Int32)), .val (.ref b0_1), .val (.int (6 : Int32)), .unset, .unset] [(.int (0 : Int32))]) (fun _ kk => XS.iconst X1.here hx rfl (hb hby d1_7) kk) ?_
  refine ob T1 (mkF mG 9 #[.val (.int (1 : Int32)), .val (.ref b0_1), .val (.int (6 : Int32)), .val (.int (0 : Int32)), .unset] []) (fun _ kk => XS.istoreN X1.here hx rfl (hb hby d1_8) rfl (l' := #[.val (.int (1 : Int32)), .val (.ref b0_1), .val (.int (6 : Int32)), .val (.int (0 : Int32)), .unset]) rfl kk) ?_
  refine ob T1 (mkF mG 10 #[.val (.int (1 : Int32)), .val (.ref b0_1), .val (.int (6 : Int32)), .val (.int (0 : Int32)), .unset] [(.int (0 : Int32))]) (fun _ kk => XS.iloadN X1.here hx rfl (hb hby d1_9) rfl kk) ?_
  refine ob T1 (mkF mG 11 #[.val (.int (1 : Int32)), .val (.ref b0_1), .val (.int (6 : Int32)), .val (.int (0 : Int32)), .unset] [(.int (6 : Int32)), (.int (0 : Int32))]) (fun _ kk => XS.iloadN X1.here hx rfl (hb hby d1_10) rfl kk) ?_
  refine ob T1 (mkF mG 14 #[.val (.int (1 : Int32)), .val (.ref b0_1), .val (.int (6 : Int32)), .val (.int (0 : Int32)), .unset] []) (fun _ kk => XS.icmpNo X1.here hx rfl (hb hby d1_11) rfl (tlt (by decide : (0 : Int32) < (6 : Int32))).2.1 kk) ?_
  refine ob T1 (mkF mG 15 #[.val (.int (1 : Int32)), .val (.ref b0_1), .val (.int (6 : Int32)), .val (.int (0 : Int32)), .unset] [(.ref b0_1)]) (fun _ kk => XS.aloadN X1.here hx rfl (hb hby d1_14) rfl rfl kk) ?_
  refine ob T1 (mkF mG 16 #[.val (.int (1 : Int32)), .val (.ref b0_1), .val (.int (6 : Int32)), .val (.int (0 : Int32)), .unset] [(.int (0 : Int32)), (.ref b0_1)]) (fun _ kk => XS.iloadN X1.here hx rfl (hb hby d1_15) rfl kk) ?_
  obtain ⟨cl3, Ar3, -, S3, N3a, H3, -⟩ := id F1_1
  have hin3 : ¬ ((0 : Int32) < 0 ∨ cl3.slots.size ≤ ((0 : Int32)).toNatClampNeg) := inb_of S3 ⟨by decide, by decide⟩
  refine ob T1 (mkF mG 17 #[.val (.int (1 : Int32)), .val (.ref b0_1), .val (.int (6 : Int32)), .val (.int (0 : Int32)), .unset] [(.ref w_IMAGE_600)]) (fun _ kk => X1.aaload hx (j := (0 : Int32)) (v := (.ref w_IMAGE_600)) (by rw [e1]; exact Ar3.1) (State.isArrayOf_alike hZ.alike Ar3.2.1) rfl Ar3.2.2 hin3 (Has.at H3 hin3 rfl) (g := (mkF mG 16 #[.val (.int (1 : Int32)), .val (.ref b0_1), .val (.int (6 : Int32)), .val (.int (0 : Int32)), .unset] [(.int (0 : Int32)), (.ref b0_1)])) rfl rfl (hb hby d1_16) _ kk) ?_
  refine ob T1 (mkF mG 19 #[.val (.int (1 : Int32)), .val (.ref b0_1), .val (.int (6 : Int32)), .val (.int (0 : Int32)), .val (.ref w_IMAGE_600)] []) (fun _ kk => XS.astore X1.here hx rfl (hb hby d1_17) rfl rfl (l' := #[.val (.int (1 : Int32)), .val (.ref b0_1), .val (.int (6 : Int32)), .val (.int (0 : Int32)), .val (.ref w_IMAGE_600)]) rfl kk) ?_
  refine ob T1 (mkF mG 21 #[.val (.int (1 : Int32)), .val (.ref b0_1), .val (.int (6 : Int32)), .val (.int (0 : Int32)), .val (.ref w_IMAGE_600)] [(.ref w_IMAGE_600)]) (fun _ kk => XS.aload X1.here hx rfl (hb hby d1_19) rfl rfl kk) ?_
  obtain ⟨T4, X4, e4, st4⟩ := getF X1 hx hZ hown (host := "") (Or.inl (ow hw 25 rfl)) Via.refl e1 (F_w_IMAGE_600_number.ext O1.2) (g := (mkF mG 21 #[.val (.int (1 : Int32)), .val (.ref b0_1), .val (.int (6 : Int32)), .val (.int (0 : Int32)), .val (.ref w_IMAGE_600)] [(.ref w_IMAGE_600)])) rfl rfl (hb hby d1_21)
  refine ob T4 (mkF mG 24 #[.val (.int (1 : Int32)), .val (.ref b0_1), .val (.int (6 : Int32)), .val (.int (0 : Int32)), .val (.ref w_IMAGE_600)] [(.int (1 : Int32))]) (fun _ kk => st4 _ kk) ?_
  refine ob T4 (mkF mG 25 #[.val (.int (1 : Int32)), .val (.ref b0_1), .val (.int (6 : Int32)), .val (.int (0 : Int32)), .val (.ref w_IMAGE_600)] [(.int (1 : Int32)), (.int (1 : Int32))]) (fun _ kk => XS.iloadN X4.here hx rfl (hb hby d1_24) rfl kk) ?_
  refine ob T4 (mkF mG 28 #[.val (.int (1 : Int32)), .val (.ref b0_1), .val (.int (6 : Int32)), .val (.int (0 : Int32)), .val (.ref w_IMAGE_600)] []) (fun _ kk => XS.icmpNo X4.here hx rfl (hb hby d1_25) rfl (teq (by decide : (1 : Int32) = (1 : Int32))).2 kk) ?_
  refine ob T4 (mkF mG 30 #[.val (.int (1 : Int32)), .val (.ref b0_1), .val (.int (6 : Int32)), .val (.int (0 : Int32)), .val (.ref w_IMAGE_600)] [(.ref w_IMAGE_600)]) (fun _ kk => XS.aload X4.here hx rfl (hb hby d1_28) rfl rfl kk) ?_
  obtain ⟨fs, hr, hrun, hended, hW, hsame⟩ := X4.leave (v := some (.ref w_IMAGE_600)) (fun h => by rw [Bd.returns] at h; cases h)
  refine oout (oretA X4 hx Bd.returns rfl rfl (hb hby d1_30) hr) hrun hended ⟨_, _, rfl, ?_, ⟨_, rfl⟩, hW, hsame.mono (by decide) (by decide)⟩
  show Q_rm_of1 Z w_IMAGE_600 w_THUMBNAIL w_PAGE_TEXT w_NOTES w_OTHER w_IMAGE_300 w_VALUES c_VALUES  h0 n0 _ T4.heap _
  rw [e4]
  exact ⟨rfl, N1, K1, O1⟩

theorem d3_0 : decode method_3_code 0 = .ok (.iload_n 0, 1) := by decide +kernel
theorem d3_1 : decode method_3_code 1 = .ok (.iconst 1, 1) := by decide +kernel
theorem d3_2 : decode method_3_code 2 = .ok (.if_icmp .ne 7, 3) := by decide +kernel
theorem d3_5 : decode method_3_code 5 = .ok (.getstatic 18, 3) := by decide +kernel
theorem d3_8 : decode method_3_code 8 = .ok (.areturn, 1) := by decide +kernel
def Q_rm_ex1 (Z : State) (w_IMAGE_600 : Addr) (w_THUMBNAIL : Addr) (w_PAGE_TEXT : Addr) (w_NOTES : Addr) (w_OTHER : Addr) (w_IMAGE_300 : Addr) (w_VALUES : Addr) (c_VALUES : Cell)  (h0 : Heap) (n0 : Nat) (v : Option Value) (h : Heap) (L : List Loc) : Prop := v = some (.ref w_IMAGE_600) ∧ Fr n0 L ∧ h = h0
set_option maxRecDepth 65536 in
set_option maxHeartbeats 40000000 in
theorem rm_ex1 (l : Launch) (Z : State) (a0 : Array Value) (hw : ∀ d ∈ tables_1, d.before a0 Z = true) (ws : List Jvm.Cond) (w_IMAGE_600 : Addr) (w_THUMBNAIL : Addr) (w_PAGE_TEXT : Addr) (w_NOTES : Addr) (w_OTHER : Addr) (w_IMAGE_300 : Addr) (w_VALUES : Addr) (c_VALUES : Cell)  (h0 : Heap) (n0 : Nat) (O0 : Old Z n0 h0) (hS : St0 Z w_IMAGE_600 w_THUMBNAIL w_PAGE_TEXT w_NOTES w_OTHER w_IMAGE_300 w_VALUES c_VALUES ) :
    MetFree l (⟨"com/example/carrel/carrel/document/FileTypeOfPinLaw", "expected", "(I)Lcom/example/carrel/carrel/document/BoundDocument$FileType;"⟩ : MethodName) (head1 (Jvm.Cond.code (⟨"com/example/carrel/carrel/document/FileTypeOfPinLaw", "expected", "(I)Lcom/example/carrel/carrel/document/BoundDocument$FileType;"⟩ : MethodName) method_3_code 1 (some (.object "com/example/carrel/carrel/document/BoundDocument$FileType")) :: ws) ({ frames := 0, cells := 0, slots := 0, locals := 0 } : Room)) (fun aG UG => aG = #[(.int (1 : Int32))] ∧ Z.Warmed39 UG.vm ∧ UG.heap = h0) (fun _ _ _ _ _ => True) (fun _ UG oG UG' => ∃ vG LG, oG = .returned vG ∧ Q_rm_ex1 Z w_IMAGE_600 w_THUMBNAIL w_PAGE_TEXT w_NOTES w_OTHER w_IMAGE_300 w_VALUES c_VALUES  h0 n0 vG UG'.heap LG ∧ FrameEnd UG oG UG' LG ({ frames := 0, cells := 0, slots := 0, locals := 0 } : Room).cells ({ frames := 0, cells := 0, slots := 0, locals := 0 } : Room).slots) := by
  refine MetFree.of_bodySF (plainFor_of_name pn_1) hisR ?_
  intro pG eG sG mG argsG belowG methG cG s₁ Bd hml0 hP hK
  obtain ⟨rfl, hZ, hh⟩ := hP
  have hx := Bd.exec
  have hby := Bd.bytes
  have hml : cG.maxLocals = 1 := hml0
  have hown : sG.vm.findClass "com/example/carrel/carrel/document/FileTypeOfPinLaw" = some mG.cls := findClass_of_methodNamed Bd.named
  have hnm := (name_of_methodNamed Bd.named Bd.method).1
  have X0 : Stand pG l eG ({ frames := 0, cells := 0, slots := 0, locals := 0 } : Room) sG mG #[(.int (1 : Int32))] belowG methG cG s₁ [] 0 0 := Stand.of_body Bd
  have e0 : s₁.heap = h0 := by rw [← hh, Bd.state]; rfl
  have N0 := Fr.nil n0
  have K0 := Keep.refl h0 []
  obtain ⟨S_w_IMAGE_600, E_w_IMAGE_600, S_w_THUMBNAIL, E_w_THUMBNAIL, S_w_PAGE_TEXT, E_w_PAGE_TEXT, S_w_NOTES, E_w_NOTES, S_w_OTHER, E_w_OTHER, S_w_IMAGE_300, E_w_IMAGE_300, S_w_VALUES, E_w_VALUES, V_w_VALUES, F_w_IMAGE_600_number, F_w_THUMBNAIL_number, F_w_PAGE_TEXT_number, F_w_NOTES_number, F_w_OTHER_number, F_w_IMAGE_300_number, ne_w_IMAGE_600_w_THUMBNAIL, ne_w_IMAGE_600_w_PAGE_TEXT, ne_w_IMAGE_600_w_NOTES, ne_w_IMAGE_600_w_OTHER, ne_w_IMAGE_600_w_IMAGE_300, ne_w_THUMBNAIL_w_PAGE_TEXT, ne_w_THUMBNAIL_w_NOTES, ne_w_THUMBNAIL_w_OTHER, ne_w_THUMBNAIL_w_IMAGE_300, ne_w_PAGE_TEXT_w_NOTES, ne_w_PAGE_TEXT_w_OTHER, ne_w_PAGE_TEXT_w_IMAGE_300, ne_w_NOTES_w_OTHER, ne_w_NOTES_w_IMAGE_300, ne_w_OTHER_w_IMAGE_300⟩ := (id hS : St0 Z w_IMAGE_600 w_THUMBNAIL w_PAGE_TEXT w_NOTES w_OTHER w_IMAGE_300 w_VALUES c_VALUES )
  refine ostart (g' := (mkF mG 0 #[.val (.int (1 : Int32))] [])) (by first | (simp [entryFrame, mkF, argsToLocals, Value.category]; done) | rfl) ?_
  refine ob s₁ (mkF mG 1 #[.val (.int (1 : Int32))] [(.int (1 : Int32))]) (fun _ kk => XS.iloadN X0.here hx rfl (hb hby d3_0) rfl kk) ?_
  refine ob s₁ (mkF mG 2 #[.val (.int (1 : Int32))] [(.int (1 : Int32)), (.int (1 : Int32))]) (fun _ kk => XS.iconst X0.here hx rfl (hb hby d3_1) kk) ?_
  refine ob s₁ (mkF mG 5 #[.val (.int (1 : Int32))] []) (fun _ kk => XS.icmpNo X0.here hx rfl (hb hby d3_2) rfl (teq (by decide : (1 : Int32) = (1 : Int32))).2 kk) ?_
  obtain ⟨T1, X1, e1, st1⟩ := getS2 X0 hx hZ hown (host := "") (Or.inl (ow hw 34 rfl)) Via.refl e0 (S_w_IMAGE_600.ext O0.2) (g := (mkF mG 5 #[.val (.int (1 : Int32))] [])) rfl (hb hby d3_5)
  refine ob T1 (mkF mG 8 #[.val (.int (1 : Int32))] [(.ref w_IMAGE_600)]) (fun _ kk => st1 _ kk) ?_
  obtain ⟨fs, hr, hrun, hended, hW, hsame⟩ := X1.leave (v := some (.ref w_IMAGE_600)) (fun h => by rw [Bd.returns] at h; cases h)
  refine oout (oretA X1 hx Bd.returns rfl rfl (hb hby d3_8) hr) hrun hended ⟨_, _, rfl, ?_, ⟨_, rfl⟩, hW, hsame.mono (by decide) (by decide)⟩
  show Q_rm_ex1 Z w_IMAGE_600 w_THUMBNAIL w_PAGE_TEXT w_NOTES w_OTHER w_IMAGE_300 w_VALUES c_VALUES  h0 n0 _ T1.heap _
  rw [e1]
  exact ⟨rfl, N0, rfl⟩

theorem d1_31 : decode prog_15_method_6_code 31 = .ok (.iinc 3 1, 3) := by decide +kernel
theorem d1_34 : decode prog_15_method_6_code 34 = .ok (.goto (-25), 3) := by decide +kernel
def Q_rm_of2 (Z : State) (w_IMAGE_600 : Addr) (w_THUMBNAIL : Addr) (w_PAGE_TEXT : Addr) (w_NOTES : Addr) (w_OTHER : Addr) (w_IMAGE_300 : Addr) (w_VALUES : Addr) (c_VALUES : Cell)  (h0 : Heap) (n0 : Nat) (v : Option Value) (h : Heap) (L : List Loc) : Prop := v = some (.ref w_THUMBNAIL) ∧ Fr n0 L ∧ Keep h0 h [] ∧ Old Z n0 h
set_option maxRecDepth 65536 in
set_option maxHeartbeats 40000000 in
theorem rm_of2 (l : Launch) (Z : State) (a0 : Array Value) (hw : ∀ d ∈ tables_1, d.before a0 Z = true) (ws : List Jvm.Cond) (w_IMAGE_600 : Addr) (w_THUMBNAIL : Addr) (w_PAGE_TEXT : Addr) (w_NOTES : Addr) (w_OTHER : Addr) (w_IMAGE_300 : Addr) (w_VALUES : Addr) (c_VALUES : Cell)  (h0 : Heap) (n0 : Nat) (O0 : Old Z n0 h0) (hS : St0 Z w_IMAGE_600 w_THUMBNAIL w_PAGE_TEXT w_NOTES w_OTHER w_IMAGE_300 w_VALUES c_VALUES ) :
    MetFree l (⟨"com/example/carrel/carrel/document/BoundDocument$FileType", "of", "(I)Lcom/example/carrel/carrel/document/BoundDocument$FileType;"⟩ : MethodName) (head1 (Jvm.Cond.code (⟨"com/example/carrel/carrel/document/BoundDocument$FileType", "of", "(I)Lcom/example/carrel/carrel/document/BoundDocument$FileType;"⟩ : MethodName) prog_15_method_6_code 5 (some (.object "com/example/carrel/carrel/document/BoundDocument$FileType")) :: ws) ({ frames := 2, cells := 1, slots := 6, locals := 25 } : Room)) (fun aG UG => aG = #[(.int (2 : Int32))] ∧ Z.Warmed39 UG.vm ∧ UG.heap = h0) (fun _ _ _ _ _ => True) (fun _ UG oG UG' => ∃ vG LG, oG = .returned vG ∧ Q_rm_of2 Z w_IMAGE_600 w_THUMBNAIL w_PAGE_TEXT w_NOTES w_OTHER w_IMAGE_300 w_VALUES c_VALUES  h0 n0 vG UG'.heap LG ∧ FrameEnd UG oG UG' LG ({ frames := 2, cells := 1, slots := 6, locals := 25 } : Room).cells ({ frames := 2, cells := 1, slots := 6, locals := 25 } : Room).slots) := by
  refine MetFree.of_bodySF (plainFor_of_name pn_0) hisR ?_
  intro pG eG sG mG argsG belowG methG cG s₁ Bd hml0 hP hK
  obtain ⟨rfl, hZ, hh⟩ := hP
  have hx := Bd.exec
  have hby := Bd.bytes
  have hml : cG.maxLocals = 5 := hml0
  have hown : sG.vm.findClass "com/example/carrel/carrel/document/BoundDocument$FileType" = some mG.cls := findClass_of_methodNamed Bd.named
  have hnm := (name_of_methodNamed Bd.named Bd.method).1
  have X0 : Stand pG l eG ({ frames := 2, cells := 1, slots := 6, locals := 25 } : Room) sG mG #[(.int (2 : Int32))] belowG methG cG s₁ [] 0 0 := Stand.of_body Bd
  have e0 : s₁.heap = h0 := by rw [← hh, Bd.state]; rfl
  have N0 := Fr.nil n0
  have K0 := Keep.refl h0 []
  obtain ⟨S_w_IMAGE_600, E_w_IMAGE_600, S_w_THUMBNAIL, E_w_THUMBNAIL, S_w_PAGE_TEXT, E_w_PAGE_TEXT, S_w_NOTES, E_w_NOTES, S_w_OTHER, E_w_OTHER, S_w_IMAGE_300, E_w_IMAGE_300, S_w_VALUES, E_w_VALUES, V_w_VALUES, F_w_IMAGE_600_number, F_w_THUMBNAIL_number, F_w_PAGE_TEXT_number, F_w_NOTES_number, F_w_OTHER_number, F_w_IMAGE_300_number, ne_w_IMAGE_600_w_THUMBNAIL, ne_w_IMAGE_600_w_PAGE_TEXT, ne_w_IMAGE_600_w_NOTES, ne_w_IMAGE_600_w_OTHER, ne_w_IMAGE_600_w_IMAGE_300, ne_w_THUMBNAIL_w_PAGE_TEXT, ne_w_THUMBNAIL_w_NOTES, ne_w_THUMBNAIL_w_OTHER, ne_w_THUMBNAIL_w_IMAGE_300, ne_w_PAGE_TEXT_w_NOTES, ne_w_PAGE_TEXT_w_OTHER, ne_w_PAGE_TEXT_w_IMAGE_300, ne_w_NOTES_w_OTHER, ne_w_NOTES_w_IMAGE_300, ne_w_OTHER_w_IMAGE_300⟩ := (id hS : St0 Z w_IMAGE_600 w_THUMBNAIL w_PAGE_TEXT w_NOTES w_OTHER w_IMAGE_300 w_VALUES c_VALUES )
  refine ostart (g' := (mkF mG 0 #[.val (.int (2 : Int32)), .unset, .unset, .unset, .unset] [])) (by first | (simp [entryFrame, mkF, argsToLocals, Value.category]; done) | rfl) ?_
  obtain ⟨_, _, ⟨T1, L1, k1, n1⟩, -, X1, ⟨Lc1, hQ1, l1, y1, z1⟩, st1⟩ := Jvm.LawKit.callS X0 hx (y := (⟨"com/example/carrel/carrel/document/BoundDocument$FileType", "values", "()[Lcom/example/carrel/carrel/document/BoundDocument$FileType;"⟩ : MethodName)) hown (mvT hZ (ow hw 4 rfl)) (mvT hZ (ow hw 5 rfl)) (mvT hZ (ow hw 2 rfl)) (mvT hZ (ow hw 6 rfl)) (by decide) (backOf (W := 0) (rm_values l Z a0 hw [] w_IMAGE_600 w_THUMBNAIL w_PAGE_TEXT w_NOTES w_OTHER w_IMAGE_300 w_VALUES c_VALUES  h0 n0 O0 hS ) hZ (ow hw 6 rfl) (ow hw 2 rfl) (by decide) (by decide)) (g := (mkF mG 0 #[.val (.int (2 : Int32)), .unset, .unset, .unset, .unset] [])) rfl (by rw [hml]; rfl) (argsL := []) (rest := []) (lenOf pd_0 rfl) rfl (by show 2 * 0 + _ ≤ _; exact Nat.le_of_eq rfl) (hb hby d1_0) (fun _ _ => ⟨rfl, e0, (by decide : 0 + 1 ≤ _), (by decide : 0 + 6 ≤ _)⟩)
  dsimp only [Pt.U, Pt.locs, Pt.cells, Pt.slots] at X1 l1 y1 z1 st1 hQ1
  subst l1 y1 z1
  obtain ⟨h1, e1⟩ : ∃ h, T1.heap = h := ⟨_, rfl⟩
  rw [e1] at hQ1
  obtain ⟨b0_1, rfl, N1q, K1q, O1, n_b0_1, z_b0_1, F1_0, F1_1⟩ := hQ1
  have N1 := Fr.app N0 N1q
  have sz_b0_1 : h0.size ≤ b0_1 := Nat.le_trans K0.1 z_b0_1
  have K1 := K0.trans K1q all0
  refine ob T1 (mkF mG 3 #[.val (.int (2 : Int32)), .unset, .unset, .unset, .unset] [(.ref b0_1)]) (fun _ kk => st1 _ kk) ?_
  refine ob T1 (mkF mG 4 #[.val (.int (2 : Int32)), .val (.ref b0_1), .unset, .unset, .unset] []) (fun _ kk => XS.astoreN X1.here hx rfl (hb hby d1_3) rfl rfl (l' := #[.val (.int (2 : Int32)), .val (.ref b0_1), .unset, .unset, .unset]) rfl kk) ?_
  refine ob T1 (mkF mG 5 #[.val (.int (2 : Int32)), .val (.ref b0_1), .unset, .unset, .unset] [(.ref b0_1)]) (fun _ kk => XS.aloadN X1.here hx rfl (hb hby d1_4) rfl rfl kk) ?_
  obtain ⟨cl2, Ar2, -, S2, N2a, -, -⟩ := id F1_1
  refine oby (T' := T1) (g' := (mkF mG 6 #[.val (.int (2 : Int32)), .val (.ref b0_1), .unset, .unset, .unset] [(.int (6 : Int32))])) (fun ot ok => X1.arraylength hx (by rw [e1]; exact Ar2.1) (State.isArrayOf_alike hZ.alike Ar2.2.1) (g := (mkF mG 5 #[.val (.int (2 : Int32)), .val (.ref b0_1), .unset, .unset, .unset] [(.ref b0_1)])) rfl rfl (hb hby d1_5) _ (by rw [len_of S2 N2a]; exact ok)) ?_
  refine ob T1 (mkF mG 7 #[.val (.int (2 : Int32)), .val (.ref b0_1), .val (.int (6 : Int32)), .unset, .unset] []) (fun _ kk => XS.istoreN X1.here hx rfl (hb hby d1_6) rfl (l' := #[.val (.int (2 : Int32)), .val (.ref b0_1), .val (.int (6 : Int32)), .unset, .unset]) rfl kk) ?_
  refine ob T1 (mkF mG 8 #[.val (.int (2 : Int32)), .val (.ref b0_1), .val (.int (6 : Int32)), .unset, .unset] [(.int (0 : Int32))]) (fun _ kk => XS.iconst X1.here hx rfl (hb hby d1_7) kk) ?_
  refine ob T1 (mkF mG 9 #[.val (.int (2 : Int32)), .val (.ref b0_1), .val (.int (6 : Int32)), .val (.int (0 : Int32)), .unset] []) (fun _ kk => XS.istoreN X1.here hx rfl (hb hby d1_8) rfl (l' := #[.val (.int (2 : Int32)), .val (.ref b0_1), .val (.int (6 : Int32)), .val (.int (0 : Int32)), .unset]) rfl kk) ?_
  refine ob T1 (mkF mG 10 #[.val (.int (2 : Int32)), .val (.ref b0_1), .val (.int (6 : Int32)), .val (.int (0 : Int32)), .unset] [(.int (0 : Int32))]) (fun _ kk => XS.iloadN X1.here hx rfl (hb hby d1_9) rfl kk) ?_
  refine ob T1 (mkF mG 11 #[.val (.int (2 : Int32)), .val (.ref b0_1), .val (.int (6 : Int32)), .val (.int (0 : Int32)), .unset] [(.int (6 : Int32)), (.int (0 : Int32))]) (fun _ kk => XS.iloadN X1.here hx rfl (hb hby d1_10) rfl kk) ?_
  refine ob T1 (mkF mG 14 #[.val (.int (2 : Int32)), .val (.ref b0_1), .val (.int (6 : Int32)), .val (.int (0 : Int32)), .unset] []) (fun _ kk => XS.icmpNo X1.here hx rfl (hb hby d1_11) rfl (tlt (by decide : (0 : Int32) < (6 : Int32))).2.1 kk) ?_
  refine ob T1 (mkF mG 15 #[.val (.int (2 : Int32)), .val (.ref b0_1), .val (.int (6 : Int32)), .val (.int (0 : Int32)), .unset] [(.ref b0_1)]) (fun _ kk => XS.aloadN X1.here hx rfl (hb hby d1_14) rfl rfl kk) ?_
  refine ob T1 (mkF mG 16 #[.val (.int (2 : Int32)), .val (.ref b0_1), .val (.int (6 : Int32)), .val (.int (0 : Int32)), .unset] [(.int (0 : Int32)), (.ref b0_1)]) (fun _ kk => XS.iloadN X1.here hx rfl (hb hby d1_15) rfl kk) ?_
  obtain ⟨cl3, Ar3, -, S3, N3a, H3, -⟩ := id F1_1
  have hin3 : ¬ ((0 : Int32) < 0 ∨ cl3.slots.size ≤ ((0 : Int32)).toNatClampNeg) := inb_of S3 ⟨by decide, by decide⟩
  refine ob T1 (mkF mG 17 #[.val (.int (2 : Int32)), .val (.ref b0_1), .val (.int (6 : Int32)), .val (.int (0 : Int32)), .unset] [(.ref w_IMAGE_600)]) (fun _ kk => X1.aaload hx (j := (0 : Int32)) (v := (.ref w_IMAGE_600)) (by rw [e1]; exact Ar3.1) (State.isArrayOf_alike hZ.alike Ar3.2.1) rfl Ar3.2.2 hin3 (Has.at H3 hin3 rfl) (g := (mkF mG 16 #[.val (.int (2 : Int32)), .val (.ref b0_1), .val (.int (6 : Int32)), .val (.int (0 : Int32)), .unset] [(.int (0 : Int32)), (.ref b0_1)])) rfl rfl (hb hby d1_16) _ kk) ?_
  refine ob T1 (mkF mG 19 #[.val (.int (2 : Int32)), .val (.ref b0_1), .val (.int (6 : Int32)), .val (.int (0 : Int32)), .val (.ref w_IMAGE_600)] []) (fun _ kk => XS.astore X1.here hx rfl (hb hby d1_17) rfl rfl (l' := #[.val (.int (2 : Int32)), .val (.ref b0_1), .val (.int (6 : Int32)), .val (.int (0 : Int32)), .val (.ref w_IMAGE_600)]) rfl kk) ?_
  refine ob T1 (mkF mG 21 #[.val (.int (2 : Int32)), .val (.ref b0_1), .val (.int (6 : Int32)), .val (.int (0 : Int32)), .val (.ref w_IMAGE_600)] [(.ref w_IMAGE_600)]) (fun _ kk => XS.aload X1.here hx rfl (hb hby d1_19) rfl rfl kk) ?_
  obtain ⟨T4, X4, e4, st4⟩ := getF X1 hx hZ hown (host := "") (Or.inl (ow hw 25 rfl)) Via.refl e1 (F_w_IMAGE_600_number.ext O1.2) (g := (mkF mG 21 #[.val (.int (2 : Int32)), .val (.ref b0_1), .val (.int (6 : Int32)), .val (.int (0 : Int32)), .val (.ref w_IMAGE_600)] [(.ref w_IMAGE_600)])) rfl rfl (hb hby d1_21)
  refine ob T4 (mkF mG 24 #[.val (.int (2 : Int32)), .val (.ref b0_1), .val (.int (6 : Int32)), .val (.int (0 : Int32)), .val (.ref w_IMAGE_600)] [(.int (1 : Int32))]) (fun _ kk => st4 _ kk) ?_
  refine ob T4 (mkF mG 25 #[.val (.int (2 : Int32)), .val (.ref b0_1), .val (.int (6 : Int32)), .val (.int (0 : Int32)), .val (.ref w_IMAGE_600)] [(.int (2 : Int32)), (.int (1 : Int32))]) (fun _ kk => XS.iloadN X4.here hx rfl (hb hby d1_24) rfl kk) ?_
  refine ob T4 (mkF mG 31 #[.val (.int (2 : Int32)), .val (.ref b0_1), .val (.int (6 : Int32)), .val (.int (0 : Int32)), .val (.ref w_IMAGE_600)] []) (fun _ kk => XS.icmpYes X4.here hx rfl (pc0 := 25) (pc' := 31) rfl (hb hby d1_25) rfl (feq (by decide : ¬ ((1 : Int32) = (2 : Int32)))).2 (by decide) (by decide) kk) ?_
  refine ob T4 (mkF mG 34 #[.val (.int (2 : Int32)), .val (.ref b0_1), .val (.int (6 : Int32)), .val (.int (1 : Int32)), .val (.ref w_IMAGE_600)] []) (fun _ kk => XS.iinc X4.here hx rfl (hb hby d1_31) rfl (l' := #[.val (.int (2 : Int32)), .val (.ref b0_1), .val (.int (6 : Int32)), .val (.int (1 : Int32)), .val (.ref w_IMAGE_600)]) rfl kk) ?_
  refine ob T4 (mkF mG 9 #[.val (.int (2 : Int32)), .val (.ref b0_1), .val (.int (6 : Int32)), .val (.int (1 : Int32)), .val (.ref w_IMAGE_600)] []) (fun _ kk => XS.goto X4.here hx rfl (pc0 := 34) (pc' := 9) rfl (hb hby d1_34) (by decide) (by decide) kk) ?_
  refine ob T4 (mkF mG 10 #[.val (.int (2 : Int32)), .val (.ref b0_1), .val (.int (6 : Int32)), .val (.int (1 : Int32)), .val (.ref w_IMAGE_600)] [(.int (1 : Int32))]) (fun _ kk => XS.iloadN X4.here hx rfl (hb hby d1_9) rfl kk) ?_
  refine ob T4 (mkF mG 11 #[.val (.int (2 : Int32)), .val (.ref b0_1), .val (.int (6 : Int32)), .val (.int (1 : Int32)), .val (.ref w_IMAGE_600)] [(.int (6 : Int32)), (.int (1 : Int32))]) (fun _ kk => XS.iloadN X4.here hx rfl (hb hby d1_10) rfl kk) ?_
  refine ob T4 (mkF mG 14 #[.val (.int (2 : Int32)), .val (.ref b0_1), .val (.int (6 : Int32)), .val (.int (1 : Int32)), .val (.ref w_IMAGE_600)] []) (fun _ kk => XS.icmpNo X4.here hx rfl (hb hby d1_11) rfl (tlt (by decide : (1 : Int32) < (6 : Int32))).2.1 kk) ?_
  refine ob T4 (mkF mG 15 #[.val (.int (2 : Int32)), .val (.ref b0_1), .val (.int (6 : Int32)), .val (.int (1 : Int32)), .val (.ref w_IMAGE_600)] [(.ref b0_1)]) (fun _ kk => XS.aloadN X4.here hx rfl (hb hby d1_14) rfl rfl kk) ?_
  refine ob T4 (mkF mG 16 #[.val (.int (2 : Int32)), .val (.ref b0_1), .val (.int (6 : Int32)), .val (.int (1 : Int32)), .val (.ref w_IMAGE_600)] [(.int (1 : Int32)), (.ref b0_1)]) (fun _ kk => XS.iloadN X4.here hx rfl (hb hby d1_15) rfl kk) ?_
  obtain ⟨cl5, Ar5, -, S5, N5a, H5, -⟩ := id F1_1
  have hin5 : ¬ ((1 : Int32) < 0 ∨ cl5.slots.size ≤ ((1 : Int32)).toNatClampNeg) := inb_of S5 ⟨by decide, by decide⟩
  refine ob T4 (mkF mG 17 #[.val (.int (2 : Int32)), .val (.ref b0_1), .val (.int (6 : Int32)), .val (.int (1 : Int32)), .val (.ref w_IMAGE_600)] [(.ref w_THUMBNAIL)]) (fun _ kk => X4.aaload hx (j := (1 : Int32)) (v := (.ref w_THUMBNAIL)) (by rw [e4]; exact Ar5.1) (State.isArrayOf_alike hZ.alike Ar5.2.1) rfl Ar5.2.2 hin5 (Has.at H5 hin5 rfl) (g := (mkF mG 16 #[.val (.int (2 : Int32)), .val (.ref b0_1), .val (.int (6 : Int32)), .val (.int (1 : Int32)), .val (.ref w_IMAGE_600)] [(.int (1 : Int32)), (.ref b0_1)])) rfl rfl (hb hby d1_16) _ kk) ?_
  refine ob T4 (mkF mG 19 #[.val (.int (2 : Int32)), .val (.ref b0_1), .val (.int (6 : Int32)), .val (.int (1 : Int32)), .val (.ref w_THUMBNAIL)] []) (fun _ kk => XS.astore X4.here hx rfl (hb hby d1_17) rfl rfl (l' := #[.val (.int (2 : Int32)), .val (.ref b0_1), .val (.int (6 : Int32)), .val (.int (1 : Int32)), .val (.ref w_THUMBNAIL)]) rfl kk) ?_
  refine ob T4 (mkF mG 21 #[.val (.int (2 : Int32)), .val (.ref b0_1), .val (.int (6 : Int32)), .val (.int (1 : Int32)), .val (.ref w_THUMBNAIL)] [(.ref w_THUMBNAIL)]) (fun _ kk => XS.aload X4.here hx rfl (hb hby d1_19) rfl rfl kk) ?_
  obtain ⟨T6, X6, e6, st6⟩ := getF X4 hx hZ hown (host := "") (Or.inl (ow hw 25 rfl)) Via.refl e4 (F_w_THUMBNAIL_number.ext O1.2) (g := (mkF mG 21 #[.val (.int (2 : Int32)), .val (.ref b0_1), .val (.int (6 : Int32)), .val (.int (1 : Int32)), .val (.ref w_THUMBNAIL)] [(.ref w_THUMBNAIL)])) rfl rfl (hb hby d1_21)
  refine ob T6 (mkF mG 24 #[.val (.int (2 : Int32)), .val (.ref b0_1), .val (.int (6 : Int32)), .val (.int (1 : Int32)), .val (.ref w_THUMBNAIL)] [(.int (2 : Int32))]) (fun _ kk => st6 _ kk) ?_
  refine ob T6 (mkF mG 25 #[.val (.int (2 : Int32)), .val (.ref b0_1), .val (.int (6 : Int32)), .val (.int (1 : Int32)), .val (.ref w_THUMBNAIL)] [(.int (2 : Int32)), (.int (2 : Int32))]) (fun _ kk => XS.iloadN X6.here hx rfl (hb hby d1_24) rfl kk) ?_
  refine ob T6 (mkF mG 28 #[.val (.int (2 : Int32)), .val (.ref b0_1), .val (.int (6 : Int32)), .val (.int (1 : Int32)), .val (.ref w_THUMBNAIL)] []) (fun _ kk => XS.icmpNo X6.here hx rfl (hb hby d1_25) rfl (teq (by decide : (2 : Int32) = (2 : Int32))).2 kk) ?_
  refine ob T6 (mkF mG 30 #[.val (.int (2 : Int32)), .val (.ref b0_1), .val (.int (6 : Int32)), .val (.int (1 : Int32)), .val (.ref w_THUMBNAIL)] [(.ref w_THUMBNAIL)]) (fun _ kk => XS.aload X6.here hx rfl (hb hby d1_28) rfl rfl kk) ?_
  obtain ⟨fs, hr, hrun, hended, hW, hsame⟩ := X6.leave (v := some (.ref w_THUMBNAIL)) (fun h => by rw [Bd.returns] at h; cases h)
  refine oout (oretA X6 hx Bd.returns rfl rfl (hb hby d1_30) hr) hrun hended ⟨_, _, rfl, ?_, ⟨_, rfl⟩, hW, hsame.mono (by decide) (by decide)⟩
  show Q_rm_of2 Z w_IMAGE_600 w_THUMBNAIL w_PAGE_TEXT w_NOTES w_OTHER w_IMAGE_300 w_VALUES c_VALUES  h0 n0 _ T6.heap _
  rw [e6]
  exact ⟨rfl, N1, K1, O1⟩

theorem d3_9 : decode method_3_code 9 = .ok (.iload_n 0, 1) := by decide +kernel
theorem d3_10 : decode method_3_code 10 = .ok (.iconst 2, 1) := by decide +kernel
theorem d3_11 : decode method_3_code 11 = .ok (.if_icmp .ne 7, 3) := by decide +kernel
theorem d3_14 : decode method_3_code 14 = .ok (.getstatic 22, 3) := by decide +kernel
theorem d3_17 : decode method_3_code 17 = .ok (.areturn, 1) := by decide +kernel
def Q_rm_ex2 (Z : State) (w_IMAGE_600 : Addr) (w_THUMBNAIL : Addr) (w_PAGE_TEXT : Addr) (w_NOTES : Addr) (w_OTHER : Addr) (w_IMAGE_300 : Addr) (w_VALUES : Addr) (c_VALUES : Cell)  (h0 : Heap) (n0 : Nat) (v : Option Value) (h : Heap) (L : List Loc) : Prop := v = some (.ref w_THUMBNAIL) ∧ Fr n0 L ∧ h = h0
set_option maxRecDepth 65536 in
set_option maxHeartbeats 40000000 in
theorem rm_ex2 (l : Launch) (Z : State) (a0 : Array Value) (hw : ∀ d ∈ tables_1, d.before a0 Z = true) (ws : List Jvm.Cond) (w_IMAGE_600 : Addr) (w_THUMBNAIL : Addr) (w_PAGE_TEXT : Addr) (w_NOTES : Addr) (w_OTHER : Addr) (w_IMAGE_300 : Addr) (w_VALUES : Addr) (c_VALUES : Cell)  (h0 : Heap) (n0 : Nat) (O0 : Old Z n0 h0) (hS : St0 Z w_IMAGE_600 w_THUMBNAIL w_PAGE_TEXT w_NOTES w_OTHER w_IMAGE_300 w_VALUES c_VALUES ) :
    MetFree l (⟨"com/example/carrel/carrel/document/FileTypeOfPinLaw", "expected", "(I)Lcom/example/carrel/carrel/document/BoundDocument$FileType;"⟩ : MethodName) (head1 (Jvm.Cond.code (⟨"com/example/carrel/carrel/document/FileTypeOfPinLaw", "expected", "(I)Lcom/example/carrel/carrel/document/BoundDocument$FileType;"⟩ : MethodName) method_3_code 1 (some (.object "com/example/carrel/carrel/document/BoundDocument$FileType")) :: ws) ({ frames := 0, cells := 0, slots := 0, locals := 0 } : Room)) (fun aG UG => aG = #[(.int (2 : Int32))] ∧ Z.Warmed39 UG.vm ∧ UG.heap = h0) (fun _ _ _ _ _ => True) (fun _ UG oG UG' => ∃ vG LG, oG = .returned vG ∧ Q_rm_ex2 Z w_IMAGE_600 w_THUMBNAIL w_PAGE_TEXT w_NOTES w_OTHER w_IMAGE_300 w_VALUES c_VALUES  h0 n0 vG UG'.heap LG ∧ FrameEnd UG oG UG' LG ({ frames := 0, cells := 0, slots := 0, locals := 0 } : Room).cells ({ frames := 0, cells := 0, slots := 0, locals := 0 } : Room).slots) := by
  refine MetFree.of_bodySF (plainFor_of_name pn_1) hisR ?_
  intro pG eG sG mG argsG belowG methG cG s₁ Bd hml0 hP hK
  obtain ⟨rfl, hZ, hh⟩ := hP
  have hx := Bd.exec
  have hby := Bd.bytes
  have hml : cG.maxLocals = 1 := hml0
  have hown : sG.vm.findClass "com/example/carrel/carrel/document/FileTypeOfPinLaw" = some mG.cls := findClass_of_methodNamed Bd.named
  have hnm := (name_of_methodNamed Bd.named Bd.method).1
  have X0 : Stand pG l eG ({ frames := 0, cells := 0, slots := 0, locals := 0 } : Room) sG mG #[(.int (2 : Int32))] belowG methG cG s₁ [] 0 0 := Stand.of_body Bd
  have e0 : s₁.heap = h0 := by rw [← hh, Bd.state]; rfl
  have N0 := Fr.nil n0
  have K0 := Keep.refl h0 []
  obtain ⟨S_w_IMAGE_600, E_w_IMAGE_600, S_w_THUMBNAIL, E_w_THUMBNAIL, S_w_PAGE_TEXT, E_w_PAGE_TEXT, S_w_NOTES, E_w_NOTES, S_w_OTHER, E_w_OTHER, S_w_IMAGE_300, E_w_IMAGE_300, S_w_VALUES, E_w_VALUES, V_w_VALUES, F_w_IMAGE_600_number, F_w_THUMBNAIL_number, F_w_PAGE_TEXT_number, F_w_NOTES_number, F_w_OTHER_number, F_w_IMAGE_300_number, ne_w_IMAGE_600_w_THUMBNAIL, ne_w_IMAGE_600_w_PAGE_TEXT, ne_w_IMAGE_600_w_NOTES, ne_w_IMAGE_600_w_OTHER, ne_w_IMAGE_600_w_IMAGE_300, ne_w_THUMBNAIL_w_PAGE_TEXT, ne_w_THUMBNAIL_w_NOTES, ne_w_THUMBNAIL_w_OTHER, ne_w_THUMBNAIL_w_IMAGE_300, ne_w_PAGE_TEXT_w_NOTES, ne_w_PAGE_TEXT_w_OTHER, ne_w_PAGE_TEXT_w_IMAGE_300, ne_w_NOTES_w_OTHER, ne_w_NOTES_w_IMAGE_300, ne_w_OTHER_w_IMAGE_300⟩ := (id hS : St0 Z w_IMAGE_600 w_THUMBNAIL w_PAGE_TEXT w_NOTES w_OTHER w_IMAGE_300 w_VALUES c_VALUES )
  refine ostart (g' := (mkF mG 0 #[.val (.int (2 : Int32))] [])) (by first | (simp [entryFrame, mkF, argsToLocals, Value.category]; done) | rfl) ?_
  refine ob s₁ (mkF mG 1 #[.val (.int (2 : Int32))] [(.int (2 : Int32))]) (fun _ kk => XS.iloadN X0.here hx rfl (hb hby d3_0) rfl kk) ?_
  refine ob s₁ (mkF mG 2 #[.val (.int (2 : Int32))] [(.int (1 : Int32)), (.int (2 : Int32))]) (fun _ kk => XS.iconst X0.here hx rfl (hb hby d3_1) kk) ?_
  refine ob s₁ (mkF mG 9 #[.val (.int (2 : Int32))] []) (fun _ kk => XS.icmpYes X0.here hx rfl (pc0 := 2) (pc' := 9) rfl (hb hby d3_2) rfl (feq (by decide : ¬ ((2 : Int32) = (1 : Int32)))).2 (by decide) (by decide) kk) ?_
  refine ob s₁ (mkF mG 10 #[.val (.int (2 : Int32))] [(.int (2 : Int32))]) (fun _ kk => XS.iloadN X0.here hx rfl (hb hby d3_9) rfl kk) ?_
  refine ob s₁ (mkF mG 11 #[.val (.int (2 : Int32))] [(.int (2 : Int32)), (.int (2 : Int32))]) (fun _ kk => XS.iconst X0.here hx rfl (hb hby d3_10) kk) ?_
  refine ob s₁ (mkF mG 14 #[.val (.int (2 : Int32))] []) (fun _ kk => XS.icmpNo X0.here hx rfl (hb hby d3_11) rfl (teq (by decide : (2 : Int32) = (2 : Int32))).2 kk) ?_
  obtain ⟨T1, X1, e1, st1⟩ := getS2 X0 hx hZ hown (host := "") (Or.inl (ow hw 32 rfl)) Via.refl e0 (S_w_THUMBNAIL.ext O0.2) (g := (mkF mG 14 #[.val (.int (2 : Int32))] [])) rfl (hb hby d3_14)
  refine ob T1 (mkF mG 17 #[.val (.int (2 : Int32))] [(.ref w_THUMBNAIL)]) (fun _ kk => st1 _ kk) ?_
  obtain ⟨fs, hr, hrun, hended, hW, hsame⟩ := X1.leave (v := some (.ref w_THUMBNAIL)) (fun h => by rw [Bd.returns] at h; cases h)
  refine oout (oretA X1 hx Bd.returns rfl rfl (hb hby d3_17) hr) hrun hended ⟨_, _, rfl, ?_, ⟨_, rfl⟩, hW, hsame.mono (by decide) (by decide)⟩
  show Q_rm_ex2 Z w_IMAGE_600 w_THUMBNAIL w_PAGE_TEXT w_NOTES w_OTHER w_IMAGE_300 w_VALUES c_VALUES  h0 n0 _ T1.heap _
  rw [e1]
  exact ⟨rfl, N0, rfl⟩

def Q_rm_of3 (Z : State) (w_IMAGE_600 : Addr) (w_THUMBNAIL : Addr) (w_PAGE_TEXT : Addr) (w_NOTES : Addr) (w_OTHER : Addr) (w_IMAGE_300 : Addr) (w_VALUES : Addr) (c_VALUES : Cell)  (h0 : Heap) (n0 : Nat) (v : Option Value) (h : Heap) (L : List Loc) : Prop := v = some (.ref w_PAGE_TEXT) ∧ Fr n0 L ∧ Keep h0 h [] ∧ Old Z n0 h
set_option maxRecDepth 65536 in
set_option maxHeartbeats 40000000 in
theorem rm_of3 (l : Launch) (Z : State) (a0 : Array Value) (hw : ∀ d ∈ tables_1, d.before a0 Z = true) (ws : List Jvm.Cond) (w_IMAGE_600 : Addr) (w_THUMBNAIL : Addr) (w_PAGE_TEXT : Addr) (w_NOTES : Addr) (w_OTHER : Addr) (w_IMAGE_300 : Addr) (w_VALUES : Addr) (c_VALUES : Cell)  (h0 : Heap) (n0 : Nat) (O0 : Old Z n0 h0) (hS : St0 Z w_IMAGE_600 w_THUMBNAIL w_PAGE_TEXT w_NOTES w_OTHER w_IMAGE_300 w_VALUES c_VALUES ) :
    MetFree l (⟨"com/example/carrel/carrel/document/BoundDocument$FileType", "of", "(I)Lcom/example/carrel/carrel/document/BoundDocument$FileType;"⟩ : MethodName) (head1 (Jvm.Cond.code (⟨"com/example/carrel/carrel/document/BoundDocument$FileType", "of", "(I)Lcom/example/carrel/carrel/document/BoundDocument$FileType;"⟩ : MethodName) prog_15_method_6_code 5 (some (.object "com/example/carrel/carrel/document/BoundDocument$FileType")) :: ws) ({ frames := 2, cells := 1, slots := 6, locals := 25 } : Room)) (fun aG UG => aG = #[(.int (3 : Int32))] ∧ Z.Warmed39 UG.vm ∧ UG.heap = h0) (fun _ _ _ _ _ => True) (fun _ UG oG UG' => ∃ vG LG, oG = .returned vG ∧ Q_rm_of3 Z w_IMAGE_600 w_THUMBNAIL w_PAGE_TEXT w_NOTES w_OTHER w_IMAGE_300 w_VALUES c_VALUES  h0 n0 vG UG'.heap LG ∧ FrameEnd UG oG UG' LG ({ frames := 2, cells := 1, slots := 6, locals := 25 } : Room).cells ({ frames := 2, cells := 1, slots := 6, locals := 25 } : Room).slots) := by
  refine MetFree.of_bodySF (plainFor_of_name pn_0) hisR ?_
  intro pG eG sG mG argsG belowG methG cG s₁ Bd hml0 hP hK
  obtain ⟨rfl, hZ, hh⟩ := hP
  have hx := Bd.exec
  have hby := Bd.bytes
  have hml : cG.maxLocals = 5 := hml0
  have hown : sG.vm.findClass "com/example/carrel/carrel/document/BoundDocument$FileType" = some mG.cls := findClass_of_methodNamed Bd.named
  have hnm := (name_of_methodNamed Bd.named Bd.method).1
  have X0 : Stand pG l eG ({ frames := 2, cells := 1, slots := 6, locals := 25 } : Room) sG mG #[(.int (3 : Int32))] belowG methG cG s₁ [] 0 0 := Stand.of_body Bd
  have e0 : s₁.heap = h0 := by rw [← hh, Bd.state]; rfl
  have N0 := Fr.nil n0
  have K0 := Keep.refl h0 []
  obtain ⟨S_w_IMAGE_600, E_w_IMAGE_600, S_w_THUMBNAIL, E_w_THUMBNAIL, S_w_PAGE_TEXT, E_w_PAGE_TEXT, S_w_NOTES, E_w_NOTES, S_w_OTHER, E_w_OTHER, S_w_IMAGE_300, E_w_IMAGE_300, S_w_VALUES, E_w_VALUES, V_w_VALUES, F_w_IMAGE_600_number, F_w_THUMBNAIL_number, F_w_PAGE_TEXT_number, F_w_NOTES_number, F_w_OTHER_number, F_w_IMAGE_300_number, ne_w_IMAGE_600_w_THUMBNAIL, ne_w_IMAGE_600_w_PAGE_TEXT, ne_w_IMAGE_600_w_NOTES, ne_w_IMAGE_600_w_OTHER, ne_w_IMAGE_600_w_IMAGE_300, ne_w_THUMBNAIL_w_PAGE_TEXT, ne_w_THUMBNAIL_w_NOTES, ne_w_THUMBNAIL_w_OTHER, ne_w_THUMBNAIL_w_IMAGE_300, ne_w_PAGE_TEXT_w_NOTES, ne_w_PAGE_TEXT_w_OTHER, ne_w_PAGE_TEXT_w_IMAGE_300, ne_w_NOTES_w_OTHER, ne_w_NOTES_w_IMAGE_300, ne_w_OTHER_w_IMAGE_300⟩ := (id hS : St0 Z w_IMAGE_600 w_THUMBNAIL w_PAGE_TEXT w_NOTES w_OTHER w_IMAGE_300 w_VALUES c_VALUES )
  refine ostart (g' := (mkF mG 0 #[.val (.int (3 : Int32)), .unset, .unset, .unset, .unset] [])) (by first | (simp [entryFrame, mkF, argsToLocals, Value.category]; done) | rfl) ?_
  obtain ⟨_, _, ⟨T1, L1, k1, n1⟩, -, X1, ⟨Lc1, hQ1, l1, y1, z1⟩, st1⟩ := Jvm.LawKit.callS X0 hx (y := (⟨"com/example/carrel/carrel/document/BoundDocument$FileType", "values", "()[Lcom/example/carrel/carrel/document/BoundDocument$FileType;"⟩ : MethodName)) hown (mvT hZ (ow hw 4 rfl)) (mvT hZ (ow hw 5 rfl)) (mvT hZ (ow hw 2 rfl)) (mvT hZ (ow hw 6 rfl)) (by decide) (backOf (W := 0) (rm_values l Z a0 hw [] w_IMAGE_600 w_THUMBNAIL w_PAGE_TEXT w_NOTES w_OTHER w_IMAGE_300 w_VALUES c_VALUES  h0 n0 O0 hS ) hZ (ow hw 6 rfl) (ow hw 2 rfl) (by decide) (by decide)) (g := (mkF mG 0 #[.val (.int (3 : Int32)), .unset, .unset, .unset, .unset] [])) rfl (by rw [hml]; rfl) (argsL := []) (rest := []) (lenOf pd_0 rfl) rfl (by show 2 * 0 + _ ≤ _; exact Nat.le_of_eq rfl) (hb hby d1_0) (fun _ _ => ⟨rfl, e0, (by decide : 0 + 1 ≤ _), (by decide : 0 + 6 ≤ _)⟩)
  dsimp only [Pt.U, Pt.locs, Pt.cells, Pt.slots] at X1 l1 y1 z1 st1 hQ1
  subst l1 y1 z1
  obtain ⟨h1, e1⟩ : ∃ h, T1.heap = h := ⟨_, rfl⟩
  rw [e1] at hQ1
  obtain ⟨b0_1, rfl, N1q, K1q, O1, n_b0_1, z_b0_1, F1_0, F1_1⟩ := hQ1
  have N1 := Fr.app N0 N1q
  have sz_b0_1 : h0.size ≤ b0_1 := Nat.le_trans K0.1 z_b0_1
  have K1 := K0.trans K1q all0
  refine ob T1 (mkF mG 3 #[.val (.int (3 : Int32)), .unset, .unset, .unset, .unset] [(.ref b0_1)]) (fun _ kk => st1 _ kk) ?_
  refine ob T1 (mkF mG 4 #[.val (.int (3 : Int32)), .val (.ref b0_1), .unset, .unset, .unset] []) (fun _ kk => XS.astoreN X1.here hx rfl (hb hby d1_3) rfl rfl (l' := #[.val (.int (3 : Int32)), .val (.ref b0_1), .unset, .unset, .unset]) rfl kk) ?_
  refine ob T1 (mkF mG 5 #[.val (.int (3 : Int32)), .val (.ref b0_1), .unset, .unset, .unset] [(.ref b0_1)]) (fun _ kk => XS.aloadN X1.here hx rfl (hb hby d1_4) rfl rfl kk) ?_
  obtain ⟨cl2, Ar2, -, S2, N2a, -, -⟩ := id F1_1
  refine oby (T' := T1) (g' := (mkF mG 6 #[.val (.int (3 : Int32)), .val (.ref b0_1), .unset, .unset, .unset] [(.int (6 : Int32))])) (fun ot ok => X1.arraylength hx (by rw [e1]; exact Ar2.1) (State.isArrayOf_alike hZ.alike Ar2.2.1) (g := (mkF mG 5 #[.val (.int (3 : Int32)), .val (.ref b0_1), .unset, .unset, .unset] [(.ref b0_1)])) rfl rfl (hb hby d1_5) _ (by rw [len_of S2 N2a]; exact ok)) ?_
  refine ob T1 (mkF mG 7 #[.val (.int (3 : Int32)), .val (.ref b0_1), .val (.int (6 : Int32)), .unset, .unset] []) (fun _ kk => XS.istoreN X1.here hx rfl (hb hby d1_6) rfl (l' := #[.val (.int (3 : Int32)), .val (.ref b0_1), .val (.int (6 : Int32)), .unset, .unset]) rfl kk) ?_
  refine ob T1 (mkF mG 8 #[.val (.int (3 : Int32)), .val (.ref b0_1), .val (.int (6 : Int32)), .unset, .unset] [(.int (0 : Int32))]) (fun _ kk => XS.iconst X1.here hx rfl (hb hby d1_7) kk) ?_
  refine ob T1 (mkF mG 9 #[.val (.int (3 : Int32)), .val (.ref b0_1), .val (.int (6 : Int32)), .val (.int (0 : Int32)), .unset] []) (fun _ kk => XS.istoreN X1.here hx rfl (hb hby d1_8) rfl (l' := #[.val (.int (3 : Int32)), .val (.ref b0_1), .val (.int (6 : Int32)), .val (.int (0 : Int32)), .unset]) rfl kk) ?_
  refine ob T1 (mkF mG 10 #[.val (.int (3 : Int32)), .val (.ref b0_1), .val (.int (6 : Int32)), .val (.int (0 : Int32)), .unset] [(.int (0 : Int32))]) (fun _ kk => XS.iloadN X1.here hx rfl (hb hby d1_9) rfl kk) ?_
  refine ob T1 (mkF mG 11 #[.val (.int (3 : Int32)), .val (.ref b0_1), .val (.int (6 : Int32)), .val (.int (0 : Int32)), .unset] [(.int (6 : Int32)), (.int (0 : Int32))]) (fun _ kk => XS.iloadN X1.here hx rfl (hb hby d1_10) rfl kk) ?_
  refine ob T1 (mkF mG 14 #[.val (.int (3 : Int32)), .val (.ref b0_1), .val (.int (6 : Int32)), .val (.int (0 : Int32)), .unset] []) (fun _ kk => XS.icmpNo X1.here hx rfl (hb hby d1_11) rfl (tlt (by decide : (0 : Int32) < (6 : Int32))).2.1 kk) ?_
  refine ob T1 (mkF mG 15 #[.val (.int (3 : Int32)), .val (.ref b0_1), .val (.int (6 : Int32)), .val (.int (0 : Int32)), .unset] [(.ref b0_1)]) (fun _ kk => XS.aloadN X1.here hx rfl (hb hby d1_14) rfl rfl kk) ?_
  refine ob T1 (mkF mG 16 #[.val (.int (3 : Int32)), .val (.ref b0_1), .val (.int (6 : Int32)), .val (.int (0 : Int32)), .unset] [(.int (0 : Int32)), (.ref b0_1)]) (fun _ kk => XS.iloadN X1.here hx rfl (hb hby d1_15) rfl kk) ?_
  obtain ⟨cl3, Ar3, -, S3, N3a, H3, -⟩ := id F1_1
  have hin3 : ¬ ((0 : Int32) < 0 ∨ cl3.slots.size ≤ ((0 : Int32)).toNatClampNeg) := inb_of S3 ⟨by decide, by decide⟩
  refine ob T1 (mkF mG 17 #[.val (.int (3 : Int32)), .val (.ref b0_1), .val (.int (6 : Int32)), .val (.int (0 : Int32)), .unset] [(.ref w_IMAGE_600)]) (fun _ kk => X1.aaload hx (j := (0 : Int32)) (v := (.ref w_IMAGE_600)) (by rw [e1]; exact Ar3.1) (State.isArrayOf_alike hZ.alike Ar3.2.1) rfl Ar3.2.2 hin3 (Has.at H3 hin3 rfl) (g := (mkF mG 16 #[.val (.int (3 : Int32)), .val (.ref b0_1), .val (.int (6 : Int32)), .val (.int (0 : Int32)), .unset] [(.int (0 : Int32)), (.ref b0_1)])) rfl rfl (hb hby d1_16) _ kk) ?_
  refine ob T1 (mkF mG 19 #[.val (.int (3 : Int32)), .val (.ref b0_1), .val (.int (6 : Int32)), .val (.int (0 : Int32)), .val (.ref w_IMAGE_600)] []) (fun _ kk => XS.astore X1.here hx rfl (hb hby d1_17) rfl rfl (l' := #[.val (.int (3 : Int32)), .val (.ref b0_1), .val (.int (6 : Int32)), .val (.int (0 : Int32)), .val (.ref w_IMAGE_600)]) rfl kk) ?_
  refine ob T1 (mkF mG 21 #[.val (.int (3 : Int32)), .val (.ref b0_1), .val (.int (6 : Int32)), .val (.int (0 : Int32)), .val (.ref w_IMAGE_600)] [(.ref w_IMAGE_600)]) (fun _ kk => XS.aload X1.here hx rfl (hb hby d1_19) rfl rfl kk) ?_
  obtain ⟨T4, X4, e4, st4⟩ := getF X1 hx hZ hown (host := "") (Or.inl (ow hw 25 rfl)) Via.refl e1 (F_w_IMAGE_600_number.ext O1.2) (g := (mkF mG 21 #[.val (.int (3 : Int32)), .val (.ref b0_1), .val (.int (6 : Int32)), .val (.int (0 : Int32)), .val (.ref w_IMAGE_600)] [(.ref w_IMAGE_600)])) rfl rfl (hb hby d1_21)
  refine ob T4 (mkF mG 24 #[.val (.int (3 : Int32)), .val (.ref b0_1), .val (.int (6 : Int32)), .val (.int (0 : Int32)), .val (.ref w_IMAGE_600)] [(.int (1 : Int32))]) (fun _ kk => st4 _ kk) ?_
  refine ob T4 (mkF mG 25 #[.val (.int (3 : Int32)), .val (.ref b0_1), .val (.int (6 : Int32)), .val (.int (0 : Int32)), .val (.ref w_IMAGE_600)] [(.int (3 : Int32)), (.int (1 : Int32))]) (fun _ kk => XS.iloadN X4.here hx rfl (hb hby d1_24) rfl kk) ?_
  refine ob T4 (mkF mG 31 #[.val (.int (3 : Int32)), .val (.ref b0_1), .val (.int (6 : Int32)), .val (.int (0 : Int32)), .val (.ref w_IMAGE_600)] []) (fun _ kk => XS.icmpYes X4.here hx rfl (pc0 := 25) (pc' := 31) rfl (hb hby d1_25) rfl (feq (by decide : ¬ ((1 : Int32) = (3 : Int32)))).2 (by decide) (by decide) kk) ?_
  refine ob T4 (mkF mG 34 #[.val (.int (3 : Int32)), .val (.ref b0_1), .val (.int (6 : Int32)), .val (.int (1 : Int32)), .val (.ref w_IMAGE_600)] []) (fun _ kk => XS.iinc X4.here hx rfl (hb hby d1_31) rfl (l' := #[.val (.int (3 : Int32)), .val (.ref b0_1), .val (.int (6 : Int32)), .val (.int (1 : Int32)), .val (.ref w_IMAGE_600)]) rfl kk) ?_
  refine ob T4 (mkF mG 9 #[.val (.int (3 : Int32)), .val (.ref b0_1), .val (.int (6 : Int32)), .val (.int (1 : Int32)), .val (.ref w_IMAGE_600)] []) (fun _ kk => XS.goto X4.here hx rfl (pc0 := 34) (pc' := 9) rfl (hb hby d1_34) (by decide) (by decide) kk) ?_
  refine ob T4 (mkF mG 10 #[.val (.int (3 : Int32)), .val (.ref b0_1), .val (.int (6 : Int32)), .val (.int (1 : Int32)), .val (.ref w_IMAGE_600)] [(.int (1 : Int32))]) (fun _ kk => XS.iloadN X4.here hx rfl (hb hby d1_9) rfl kk) ?_
  refine ob T4 (mkF mG 11 #[.val (.int (3 : Int32)), .val (.ref b0_1), .val (.int (6 : Int32)), .val (.int (1 : Int32)), .val (.ref w_IMAGE_600)] [(.int (6 : Int32)), (.int (1 : Int32))]) (fun _ kk => XS.iloadN X4.here hx rfl (hb hby d1_10) rfl kk) ?_
  refine ob T4 (mkF mG 14 #[.val (.int (3 : Int32)), .val (.ref b0_1), .val (.int (6 : Int32)), .val (.int (1 : Int32)), .val (.ref w_IMAGE_600)] []) (fun _ kk => XS.icmpNo X4.here hx rfl (hb hby d1_11) rfl (tlt (by decide : (1 : Int32) < (6 : Int32))).2.1 kk) ?_
  refine ob T4 (mkF mG 15 #[.val (.int (3 : Int32)), .val (.ref b0_1), .val (.int (6 : Int32)), .val (.int (1 : Int32)), .val (.ref w_IMAGE_600)] [(.ref b0_1)]) (fun _ kk => XS.aloadN X4.here hx rfl (hb hby d1_14) rfl rfl kk) ?_
  refine ob T4 (mkF mG 16 #[.val (.int (3 : Int32)), .val (.ref b0_1), .val (.int (6 : Int32)), .val (.int (1 : Int32)), .val (.ref w_IMAGE_600)] [(.int (1 : Int32)), (.ref b0_1)]) (fun _ kk => XS.iloadN X4.here hx rfl (hb hby d1_15) rfl kk) ?_
  obtain ⟨cl5, Ar5, -, S5, N5a, H5, -⟩ := id F1_1
  have hin5 : ¬ ((1 : Int32) < 0 ∨ cl5.slots.size ≤ ((1 : Int32)).toNatClampNeg) := inb_of S5 ⟨by decide, by decide⟩
  refine ob T4 (mkF mG 17 #[.val (.int (3 : Int32)), .val (.ref b0_1), .val (.int (6 : Int32)), .val (.int (1 : Int32)), .val (.ref w_IMAGE_600)] [(.ref w_THUMBNAIL)]) (fun _ kk => X4.aaload hx (j := (1 : Int32)) (v := (.ref w_THUMBNAIL)) (by rw [e4]; exact Ar5.1) (State.isArrayOf_alike hZ.alike Ar5.2.1) rfl Ar5.2.2 hin5 (Has.at H5 hin5 rfl) (g := (mkF mG 16 #[.val (.int (3 : Int32)), .val (.ref b0_1), .val (.int (6 : Int32)), .val (.int (1 : Int32)), .val (.ref w_IMAGE_600)] [(.int (1 : Int32)), (.ref b0_1)])) rfl rfl (hb hby d1_16) _ kk) ?_
  refine ob T4 (mkF mG 19 #[.val (.int (3 : Int32)), .val (.ref b0_1), .val (.int (6 : Int32)), .val (.int (1 : Int32)), .val (.ref w_THUMBNAIL)] []) (fun _ kk => XS.astore X4.here hx rfl (hb hby d1_17) rfl rfl (l' := #[.val (.int (3 : Int32)), .val (.ref b0_1), .val (.int (6 : Int32)), .val (.int (1 : Int32)), .val (.ref w_THUMBNAIL)]) rfl kk) ?_
  refine ob T4 (mkF mG 21 #[.val (.int (3 : Int32)), .val (.ref b0_1), .val (.int (6 : Int32)), .val (.int (1 : Int32)), .val (.ref w_THUMBNAIL)] [(.ref w_THUMBNAIL)]) (fun _ kk => XS.aload X4.here hx rfl (hb hby d1_19) rfl rfl kk) ?_
  obtain ⟨T6, X6, e6, st6⟩ := getF X4 hx hZ hown (host := "") (Or.inl (ow hw 25 rfl)) Via.refl e4 (F_w_THUMBNAIL_number.ext O1.2) (g := (mkF mG 21 #[.val (.int (3 : Int32)), .val (.ref b0_1), .val (.int (6 : Int32)), .val (.int (1 : Int32)), .val (.ref w_THUMBNAIL)] [(.ref w_THUMBNAIL)])) rfl rfl (hb hby d1_21)
  refine ob T6 (mkF mG 24 #[.val (.int (3 : Int32)), .val (.ref b0_1), .val (.int (6 : Int32)), .val (.int (1 : Int32)), .val (.ref w_THUMBNAIL)] [(.int (2 : Int32))]) (fun _ kk => st6 _ kk) ?_
  refine ob T6 (mkF mG 25 #[.val (.int (3 : Int32)), .val (.ref b0_1), .val (.int (6 : Int32)), .val (.int (1 : Int32)), .val (.ref w_THUMBNAIL)] [(.int (3 : Int32)), (.int (2 : Int32))]) (fun _ kk => XS.iloadN X6.here hx rfl (hb hby d1_24) rfl kk) ?_
  refine ob T6 (mkF mG 31 #[.val (.int (3 : Int32)), .val (.ref b0_1), .val (.int (6 : Int32)), .val (.int (1 : Int32)), .val (.ref w_THUMBNAIL)] []) (fun _ kk => XS.icmpYes X6.here hx rfl (pc0 := 25) (pc' := 31) rfl (hb hby d1_25) rfl (feq (by decide : ¬ ((2 : Int32) = (3 : Int32)))).2 (by decide) (by decide) kk) ?_
  refine ob T6 (mkF mG 34 #[.val (.int (3 : Int32)), .val (.ref b0_1), .val (.int (6 : Int32)), .val (.int (2 : Int32)), .val (.ref w_THUMBNAIL)] []) (fun _ kk => XS.iinc X6.here hx rfl (hb hby d1_31) rfl (l' := #[.val (.int (3 : Int32)), .val (.ref b0_1), .val (.int (6 : Int32)), .val (.int (2 : Int32)), .val (.ref w_THUMBNAIL)]) rfl kk) ?_
  refine ob T6 (mkF mG 9 #[.val (.int (3 : Int32)), .val (.ref b0_1), .val (.int (6 : Int32)), .val (.int (2 : Int32)), .val (.ref w_THUMBNAIL)] []) (fun _ kk => XS.goto X6.here hx rfl (pc0 := 34) (pc' := 9) rfl (hb hby d1_34) (by decide) (by decide) kk) ?_
  refine ob T6 (mkF mG 10 #[.val (.int (3 : Int32)), .val (.ref b0_1), .val (.int (6 : Int32)), .val (.int (2 : Int32)), .val (.ref w_THUMBNAIL)] [(.int (2 : Int32))]) (fun _ kk => XS.iloadN X6.here hx rfl (hb hby d1_9) rfl kk) ?_
  refine ob T6 (mkF mG 11 #[.val (.int (3 : Int32)), .val (.ref b0_1), .val (.int (6 : Int32)), .val (.int (2 : Int32)), .val (.ref w_THUMBNAIL)] [(.int (6 : Int32)), (.int (2 : Int32))]) (fun _ kk => XS.iloadN X6.here hx rfl (hb hby d1_10) rfl kk) ?_
  refine ob T6 (mkF mG 14 #[.val (.int (3 : Int32)), .val (.ref b0_1), .val (.int (6 : Int32)), .val (.int (2 : Int32)), .val (.ref w_THUMBNAIL)] []) (fun _ kk => XS.icmpNo X6.here hx rfl (hb hby d1_11) rfl (tlt (by decide : (2 : Int32) < (6 : Int32))).2.1 kk) ?_
  refine ob T6 (mkF mG 15 #[.val (.int (3 : Int32)), .val (.ref b0_1), .val (.int (6 : Int32)), .val (.int (2 : Int32)), .val (.ref w_THUMBNAIL)] [(.ref b0_1)]) (fun _ kk => XS.aloadN X6.here hx rfl (hb hby d1_14) rfl rfl kk) ?_
  refine ob T6 (mkF mG 16 #[.val (.int (3 : Int32)), .val (.ref b0_1), .val (.int (6 : Int32)), .val (.int (2 : Int32)), .val (.ref w_THUMBNAIL)] [(.int (2 : Int32)), (.ref b0_1)]) (fun _ kk => XS.iloadN X6.here hx rfl (hb hby d1_15) rfl kk) ?_
  obtain ⟨cl7, Ar7, -, S7, N7a, H7, -⟩ := id F1_1
  have hin7 : ¬ ((2 : Int32) < 0 ∨ cl7.slots.size ≤ ((2 : Int32)).toNatClampNeg) := inb_of S7 ⟨by decide, by decide⟩
  refine ob T6 (mkF mG 17 #[.val (.int (3 : Int32)), .val (.ref b0_1), .val (.int (6 : Int32)), .val (.int (2 : Int32)), .val (.ref w_THUMBNAIL)] [(.ref w_PAGE_TEXT)]) (fun _ kk => X6.aaload hx (j := (2 : Int32)) (v := (.ref w_PAGE_TEXT)) (by rw [e6]; exact Ar7.1) (State.isArrayOf_alike hZ.alike Ar7.2.1) rfl Ar7.2.2 hin7 (Has.at H7 hin7 rfl) (g := (mkF mG 16 #[.val (.int (3 : Int32)), .val (.ref b0_1), .val (.int (6 : Int32)), .val (.int (2 : Int32)), .val (.ref w_THUMBNAIL)] [(.int (2 : Int32)), (.ref b0_1)])) rfl rfl (hb hby d1_16) _ kk) ?_
  refine ob T6 (mkF mG 19 #[.val (.int (3 : Int32)), .val (.ref b0_1), .val (.int (6 : Int32)), .val (.int (2 : Int32)), .val (.ref w_PAGE_TEXT)] []) (fun _ kk => XS.astore X6.here hx rfl (hb hby d1_17) rfl rfl (l' := #[.val (.int (3 : Int32)), .val (.ref b0_1), .val (.int (6 : Int32)), .val (.int (2 : Int32)), .val (.ref w_PAGE_TEXT)]) rfl kk) ?_
  refine ob T6 (mkF mG 21 #[.val (.int (3 : Int32)), .val (.ref b0_1), .val (.int (6 : Int32)), .val (.int (2 : Int32)), .val (.ref w_PAGE_TEXT)] [(.ref w_PAGE_TEXT)]) (fun _ kk => XS.aload X6.here hx rfl (hb hby d1_19) rfl rfl kk) ?_
  obtain ⟨T8, X8, e8, st8⟩ := getF X6 hx hZ hown (host := "") (Or.inl (ow hw 25 rfl)) Via.refl e6 (F_w_PAGE_TEXT_number.ext O1.2) (g := (mkF mG 21 #[.val (.int (3 : Int32)), .val (.ref b0_1), .val (.int (6 : Int32)), .val (.int (2 : Int32)), .val (.ref w_PAGE_TEXT)] [(.ref w_PAGE_TEXT)])) rfl rfl (hb hby d1_21)
  refine ob T8 (mkF mG 24 #[.val (.int (3 : Int32)), .val (.ref b0_1), .val (.int (6 : Int32)), .val (.int (2 : Int32)), .val (.ref w_PAGE_TEXT)] [(.int (3 : Int32))]) (fun _ kk => st8 _ kk) ?_
  refine ob T8 (mkF mG 25 #[.val (.int (3 : Int32)), .val (.ref b0_1), .val (.int (6 : Int32)), .val (.int (2 : Int32)), .val (.ref w_PAGE_TEXT)] [(.int (3 : Int32)), (.int (3 : Int32))]) (fun _ kk => XS.iloadN X8.here hx rfl (hb hby d1_24) rfl kk) ?_
  refine ob T8 (mkF mG 28 #[.val (.int (3 : Int32)), .val (.ref b0_1), .val (.int (6 : Int32)), .val (.int (2 : Int32)), .val (.ref w_PAGE_TEXT)] []) (fun _ kk => XS.icmpNo X8.here hx rfl (hb hby d1_25) rfl (teq (by decide : (3 : Int32) = (3 : Int32))).2 kk) ?_
  refine ob T8 (mkF mG 30 #[.val (.int (3 : Int32)), .val (.ref b0_1), .val (.int (6 : Int32)), .val (.int (2 : Int32)), .val (.ref w_PAGE_TEXT)] [(.ref w_PAGE_TEXT)]) (fun _ kk => XS.aload X8.here hx rfl (hb hby d1_28) rfl rfl kk) ?_
  obtain ⟨fs, hr, hrun, hended, hW, hsame⟩ := X8.leave (v := some (.ref w_PAGE_TEXT)) (fun h => by rw [Bd.returns] at h; cases h)
  refine oout (oretA X8 hx Bd.returns rfl rfl (hb hby d1_30) hr) hrun hended ⟨_, _, rfl, ?_, ⟨_, rfl⟩, hW, hsame.mono (by decide) (by decide)⟩
  show Q_rm_of3 Z w_IMAGE_600 w_THUMBNAIL w_PAGE_TEXT w_NOTES w_OTHER w_IMAGE_300 w_VALUES c_VALUES  h0 n0 _ T8.heap _
  rw [e8]
  exact ⟨rfl, N1, K1, O1⟩

theorem d3_18 : decode method_3_code 18 = .ok (.iload_n 0, 1) := by decide +kernel
theorem d3_19 : decode method_3_code 19 = .ok (.iconst 3, 1) := by decide +kernel
theorem d3_20 : decode method_3_code 20 = .ok (.if_icmp .ne 7, 3) := by decide +kernel
theorem d3_23 : decode method_3_code 23 = .ok (.getstatic 25, 3) := by decide +kernel
theorem d3_26 : decode method_3_code 26 = .ok (.areturn, 1) := by decide +kernel
def Q_rm_ex3 (Z : State) (w_IMAGE_600 : Addr) (w_THUMBNAIL : Addr) (w_PAGE_TEXT : Addr) (w_NOTES : Addr) (w_OTHER : Addr) (w_IMAGE_300 : Addr) (w_VALUES : Addr) (c_VALUES : Cell)  (h0 : Heap) (n0 : Nat) (v : Option Value) (h : Heap) (L : List Loc) : Prop := v = some (.ref w_PAGE_TEXT) ∧ Fr n0 L ∧ h = h0
set_option maxRecDepth 65536 in
set_option maxHeartbeats 40000000 in
theorem rm_ex3 (l : Launch) (Z : State) (a0 : Array Value) (hw : ∀ d ∈ tables_1, d.before a0 Z = true) (ws : List Jvm.Cond) (w_IMAGE_600 : Addr) (w_THUMBNAIL : Addr) (w_PAGE_TEXT : Addr) (w_NOTES : Addr) (w_OTHER : Addr) (w_IMAGE_300 : Addr) (w_VALUES : Addr) (c_VALUES : Cell)  (h0 : Heap) (n0 : Nat) (O0 : Old Z n0 h0) (hS : St0 Z w_IMAGE_600 w_THUMBNAIL w_PAGE_TEXT w_NOTES w_OTHER w_IMAGE_300 w_VALUES c_VALUES ) :
    MetFree l (⟨"com/example/carrel/carrel/document/FileTypeOfPinLaw", "expected", "(I)Lcom/example/carrel/carrel/document/BoundDocument$FileType;"⟩ : MethodName) (head1 (Jvm.Cond.code (⟨"com/example/carrel/carrel/document/FileTypeOfPinLaw", "expected", "(I)Lcom/example/carrel/carrel/document/BoundDocument$FileType;"⟩ : MethodName) method_3_code 1 (some (.object "com/example/carrel/carrel/document/BoundDocument$FileType")) :: ws) ({ frames := 0, cells := 0, slots := 0, locals := 0 } : Room)) (fun aG UG => aG = #[(.int (3 : Int32))] ∧ Z.Warmed39 UG.vm ∧ UG.heap = h0) (fun _ _ _ _ _ => True) (fun _ UG oG UG' => ∃ vG LG, oG = .returned vG ∧ Q_rm_ex3 Z w_IMAGE_600 w_THUMBNAIL w_PAGE_TEXT w_NOTES w_OTHER w_IMAGE_300 w_VALUES c_VALUES  h0 n0 vG UG'.heap LG ∧ FrameEnd UG oG UG' LG ({ frames := 0, cells := 0, slots := 0, locals := 0 } : Room).cells ({ frames := 0, cells := 0, slots := 0, locals := 0 } : Room).slots) := by
  refine MetFree.of_bodySF (plainFor_of_name pn_1) hisR ?_
  intro pG eG sG mG argsG belowG methG cG s₁ Bd hml0 hP hK
  obtain ⟨rfl, hZ, hh⟩ := hP
  have hx := Bd.exec
  have hby := Bd.bytes
  have hml : cG.maxLocals = 1 := hml0
  have hown : sG.vm.findClass "com/example/carrel/carrel/document/FileTypeOfPinLaw" = some mG.cls := findClass_of_methodNamed Bd.named
  have hnm := (name_of_methodNamed Bd.named Bd.method).1
  have X0 : Stand pG l eG ({ frames := 0, cells := 0, slots := 0, locals := 0 } : Room) sG mG #[(.int (3 : Int32))] belowG methG cG s₁ [] 0 0 := Stand.of_body Bd
  have e0 : s₁.heap = h0 := by rw [← hh, Bd.state]; rfl
  have N0 := Fr.nil n0
  have K0 := Keep.refl h0 []
  obtain ⟨S_w_IMAGE_600, E_w_IMAGE_600, S_w_THUMBNAIL, E_w_THUMBNAIL, S_w_PAGE_TEXT, E_w_PAGE_TEXT, S_w_NOTES, E_w_NOTES, S_w_OTHER, E_w_OTHER, S_w_IMAGE_300, E_w_IMAGE_300, S_w_VALUES, E_w_VALUES, V_w_VALUES, F_w_IMAGE_600_number, F_w_THUMBNAIL_number, F_w_PAGE_TEXT_number, F_w_NOTES_number, F_w_OTHER_number, F_w_IMAGE_300_number, ne_w_IMAGE_600_w_THUMBNAIL, ne_w_IMAGE_600_w_PAGE_TEXT, ne_w_IMAGE_600_w_NOTES, ne_w_IMAGE_600_w_OTHER, ne_w_IMAGE_600_w_IMAGE_300, ne_w_THUMBNAIL_w_PAGE_TEXT, ne_w_THUMBNAIL_w_NOTES, ne_w_THUMBNAIL_w_OTHER, ne_w_THUMBNAIL_w_IMAGE_300, ne_w_PAGE_TEXT_w_NOTES, ne_w_PAGE_TEXT_w_OTHER, ne_w_PAGE_TEXT_w_IMAGE_300, ne_w_NOTES_w_OTHER, ne_w_NOTES_w_IMAGE_300, ne_w_OTHER_w_IMAGE_300⟩ := (id hS : St0 Z w_IMAGE_600 w_THUMBNAIL w_PAGE_TEXT w_NOTES w_OTHER w_IMAGE_300 w_VALUES c_VALUES )
  refine ostart (g' := (mkF mG 0 #[.val (.int (3 : Int32))] [])) (by first | (simp [entryFrame, mkF, argsToLocals, Value.category]; done) | rfl) ?_
  refine ob s₁ (mkF mG 1 #[.val (.int (3 : Int32))] [(.int (3 : Int32))]) (fun _ kk => XS.iloadN X0.here hx rfl (hb hby d3_0) rfl kk) ?_
  refine ob s₁ (mkF mG 2 #[.val (.int (3 : Int32))] [(.int (1 : Int32)), (.int (3 : Int32))]) (fun _ kk => XS.iconst X0.here hx rfl (hb hby d3_1) kk) ?_
  refine ob s₁ (mkF mG 9 #[.val (.int (3 : Int32))] []) (fun _ kk => XS.icmpYes X0.here hx rfl (pc0 := 2) (pc' := 9) rfl (hb hby d3_2) rfl (feq (by decide : ¬ ((3 : Int32) = (1 : Int32)))).2 (by decide) (by decide) kk) ?_
  refine ob s₁ (mkF mG 10 #[.val (.int (3 : Int32))] [(.int (3 : Int32))]) (fun _ kk => XS.iloadN X0.here hx rfl (hb hby d3_9) rfl kk) ?_
  refine ob s₁ (mkF mG 11 #[.val (.int (3 : Int32))] [(.int (2 : Int32)), (.int (3 : Int32))]) (fun _ kk => XS.iconst X0.here hx rfl (hb hby d3_10) kk) ?_
  refine ob s₁ (mkF mG 18 #[.val (.int (3 : Int32))] []) (fun _ kk => XS.icmpYes X0.here hx rfl (pc0 := 11) (pc' := 18) rfl (hb hby d3_11) rfl (feq (by decide : ¬ ((3 : Int32) = (2 : Int32)))).2 (by decide) (by decide) kk) ?_
  refine ob s₁ (mkF mG 19 #[.val (.int (3 : Int32))] [(.int (3 : Int32))]) (fun _ kk => XS.iloadN X0.here hx rfl (hb hby d3_18) rfl kk) ?_
  refine ob s₁ (mkF mG 20 #[.val (.int (3 : Int32))] [(.int (3 : Int32)), (.int (3 : Int32))]) (fun _ kk => XS.iconst X0.here hx rfl (hb hby d3_19) kk) ?_
  refine ob s₁ (mkF mG 23 #[.val (.int (3 : Int32))] []) (fun _ kk => XS.icmpNo X0.here hx rfl (hb hby d3_20) rfl (teq (by decide : (3 : Int32) = (3 : Int32))).2 kk) ?_
  obtain ⟨T1, X1, e1, st1⟩ := getS2 X0 hx hZ hown (host := "") (Or.inl (ow hw 33 rfl)) Via.refl e0 (S_w_PAGE_TEXT.ext O0.2) (g := (mkF mG 23 #[.val (.int (3 : Int32))] [])) rfl (hb hby d3_23)
  refine ob T1 (mkF mG 26 #[.val (.int (3 : Int32))] [(.ref w_PAGE_TEXT)]) (fun _ kk => st1 _ kk) ?_
  obtain ⟨fs, hr, hrun, hended, hW, hsame⟩ := X1.leave (v := some (.ref w_PAGE_TEXT)) (fun h => by rw [Bd.returns] at h; cases h)
  refine oout (oretA X1 hx Bd.returns rfl rfl (hb hby d3_26) hr) hrun hended ⟨_, _, rfl, ?_, ⟨_, rfl⟩, hW, hsame.mono (by decide) (by decide)⟩
  show Q_rm_ex3 Z w_IMAGE_600 w_THUMBNAIL w_PAGE_TEXT w_NOTES w_OTHER w_IMAGE_300 w_VALUES c_VALUES  h0 n0 _ T1.heap _
  rw [e1]
  exact ⟨rfl, N0, rfl⟩

def Q_rm_of4 (Z : State) (w_IMAGE_600 : Addr) (w_THUMBNAIL : Addr) (w_PAGE_TEXT : Addr) (w_NOTES : Addr) (w_OTHER : Addr) (w_IMAGE_300 : Addr) (w_VALUES : Addr) (c_VALUES : Cell)  (h0 : Heap) (n0 : Nat) (v : Option Value) (h : Heap) (L : List Loc) : Prop := v = some (.ref w_NOTES) ∧ Fr n0 L ∧ Keep h0 h [] ∧ Old Z n0 h
set_option maxRecDepth 65536 in
set_option maxHeartbeats 40000000 in
theorem rm_of4 (l : Launch) (Z : State) (a0 : Array Value) (hw : ∀ d ∈ tables_1, d.before a0 Z = true) (ws : List Jvm.Cond) (w_IMAGE_600 : Addr) (w_THUMBNAIL : Addr) (w_PAGE_TEXT : Addr) (w_NOTES : Addr) (w_OTHER : Addr) (w_IMAGE_300 : Addr) (w_VALUES : Addr) (c_VALUES : Cell)  (h0 : Heap) (n0 : Nat) (O0 : Old Z n0 h0) (hS : St0 Z w_IMAGE_600 w_THUMBNAIL w_PAGE_TEXT w_NOTES w_OTHER w_IMAGE_300 w_VALUES c_VALUES ) :
    MetFree l (⟨"com/example/carrel/carrel/document/BoundDocument$FileType", "of", "(I)Lcom/example/carrel/carrel/document/BoundDocument$FileType;"⟩ : MethodName) (head1 (Jvm.Cond.code (⟨"com/example/carrel/carrel/document/BoundDocument$FileType", "of", "(I)Lcom/example/carrel/carrel/document/BoundDocument$FileType;"⟩ : MethodName) prog_15_method_6_code 5 (some (.object "com/example/carrel/carrel/document/BoundDocument$FileType")) :: ws) ({ frames := 2, cells := 1, slots := 6, locals := 25 } : Room)) (fun aG UG => aG = #[(.int (4 : Int32))] ∧ Z.Warmed39 UG.vm ∧ UG.heap = h0) (fun _ _ _ _ _ => True) (fun _ UG oG UG' => ∃ vG LG, oG = .returned vG ∧ Q_rm_of4 Z w_IMAGE_600 w_THUMBNAIL w_PAGE_TEXT w_NOTES w_OTHER w_IMAGE_300 w_VALUES c_VALUES  h0 n0 vG UG'.heap LG ∧ FrameEnd UG oG UG' LG ({ frames := 2, cells := 1, slots := 6, locals := 25 } : Room).cells ({ frames := 2, cells := 1, slots := 6, locals := 25 } : Room).slots) := by
  refine MetFree.of_bodySF (plainFor_of_name pn_0) hisR ?_
  intro pG eG sG mG argsG belowG methG cG s₁ Bd hml0 hP hK
  obtain ⟨rfl, hZ, hh⟩ := hP
  have hx := Bd.exec
  have hby := Bd.bytes
  have hml : cG.maxLocals = 5 := hml0
  have hown : sG.vm.findClass "com/example/carrel/carrel/document/BoundDocument$FileType" = some mG.cls := findClass_of_methodNamed Bd.named
  have hnm := (name_of_methodNamed Bd.named Bd.method).1
  have X0 : Stand pG l eG ({ frames := 2, cells := 1, slots := 6, locals := 25 } : Room) sG mG #[(.int (4 : Int32))] belowG methG cG s₁ [] 0 0 := Stand.of_body Bd
  have e0 : s₁.heap = h0 := by rw [← hh, Bd.state]; rfl
  have N0 := Fr.nil n0
  have K0 := Keep.refl h0 []
  obtain ⟨S_w_IMAGE_600, E_w_IMAGE_600, S_w_THUMBNAIL, E_w_THUMBNAIL, S_w_PAGE_TEXT, E_w_PAGE_TEXT, S_w_NOTES, E_w_NOTES, S_w_OTHER, E_w_OTHER, S_w_IMAGE_300, E_w_IMAGE_300, S_w_VALUES, E_w_VALUES, V_w_VALUES, F_w_IMAGE_600_number, F_w_THUMBNAIL_number, F_w_PAGE_TEXT_number, F_w_NOTES_number, F_w_OTHER_number, F_w_IMAGE_300_number, ne_w_IMAGE_600_w_THUMBNAIL, ne_w_IMAGE_600_w_PAGE_TEXT, ne_w_IMAGE_600_w_NOTES, ne_w_IMAGE_600_w_OTHER, ne_w_IMAGE_600_w_IMAGE_300, ne_w_THUMBNAIL_w_PAGE_TEXT, ne_w_THUMBNAIL_w_NOTES, ne_w_THUMBNAIL_w_OTHER, ne_w_THUMBNAIL_w_IMAGE_300, ne_w_PAGE_TEXT_w_NOTES, ne_w_PAGE_TEXT_w_OTHER, ne_w_PAGE_TEXT_w_IMAGE_300, ne_w_NOTES_w_OTHER, ne_w_NOTES_w_IMAGE_300, ne_w_OTHER_w_IMAGE_300⟩ := (id hS : St0 Z w_IMAGE_600 w_THUMBNAIL w_PAGE_TEXT w_NOTES w_OTHER w_IMAGE_300 w_VALUES c_VALUES )
  refine ostart (g' := (mkF mG 0 #[.val (.int (4 : Int32)), .unset, .unset, .unset, .unset] [])) (by first | (simp [entryFrame, mkF, argsToLocals, Value.category]; done) | rfl) ?_
  obtain ⟨_, _, ⟨T1, L1, k1, n1⟩, -, X1, ⟨Lc1, hQ1, l1, y1, z1⟩, st1⟩ := Jvm.LawKit.callS X0 hx (y := (⟨"com/example/carrel/carrel/document/BoundDocument$FileType", "values", "()[Lcom/example/carrel/carrel/document/BoundDocument$FileType;"⟩ : MethodName)) hown (mvT hZ (ow hw 4 rfl)) (mvT hZ (ow hw 5 rfl)) (mvT hZ (ow hw 2 rfl)) (mvT hZ (ow hw 6 rfl)) (by decide) (backOf (W := 0) (rm_values l Z a0 hw [] w_IMAGE_600 w_THUMBNAIL w_PAGE_TEXT w_NOTES w_OTHER w_IMAGE_300 w_VALUES c_VALUES  h0 n0 O0 hS ) hZ (ow hw 6 rfl) (ow hw 2 rfl) (by decide) (by decide)) (g := (mkF mG 0 #[.val (.int (4 : Int32)), .unset, .unset, .unset, .unset] [])) rfl (by rw [hml]; rfl) (argsL := []) (rest := []) (lenOf pd_0 rfl) rfl (by show 2 * 0 + _ ≤ _; exact Nat.le_of_eq rfl) (hb hby d1_0) (fun _ _ => ⟨rfl, e0, (by decide : 0 + 1 ≤ _), (by decide : 0 + 6 ≤ _)⟩)
  dsimp only [Pt.U, Pt.locs, Pt.cells, Pt.slots] at X1 l1 y1 z1 st1 hQ1
  subst l1 y1 z1
  obtain ⟨h1, e1⟩ : ∃ h, T1.heap = h := ⟨_, rfl⟩
  rw [e1] at hQ1
  obtain ⟨b0_1, rfl, N1q, K1q, O1, n_b0_1, z_b0_1, F1_0, F1_1⟩ := hQ1
  have N1 := Fr.app N0 N1q
  have sz_b0_1 : h0.size ≤ b0_1 := Nat.le_trans K0.1 z_b0_1
  have K1 := K0.trans K1q all0
  refine ob T1 (mkF mG 3 #[.val (.int (4 : Int32)), .unset, .unset, .unset, .unset] [(.ref b0_1)]) (fun _ kk => st1 _ kk) ?_
  refine ob T1 (mkF mG 4 #[.val (.int (4 : Int32)), .val (.ref b0_1), .unset, .unset, .unset] []) (fun _ kk => XS.astoreN X1.here hx rfl (hb hby d1_3) rfl rfl (l' := #[.val (.int (4 : Int32)), .val (.ref b0_1), .unset, .unset, .unset]) rfl kk) ?_
  refine ob T1 (mkF mG 5 #[.val (.int (4 : Int32)), .val (.ref b0_1), .unset, .unset, .unset] [(.ref b0_1)]) (fun _ kk => XS.aloadN X1.here hx rfl (hb hby d1_4) rfl rfl kk) ?_
  obtain ⟨cl2, Ar2, -, S2, N2a, -, -⟩ := id F1_1
  refine oby (T' := T1) (g' := (mkF mG 6 #[.val (.int (4 : Int32)), .val (.ref b0_1), .unset, .unset, .unset] [(.int (6 : Int32))])) (fun ot ok => X1.arraylength hx (by rw [e1]; exact Ar2.1) (State.isArrayOf_alike hZ.alike Ar2.2.1) (g := (mkF mG 5 #[.val (.int (4 : Int32)), .val (.ref b0_1), .unset, .unset, .unset] [(.ref b0_1)])) rfl rfl (hb hby d1_5) _ (by rw [len_of S2 N2a]; exact ok)) ?_
  refine ob T1 (mkF mG 7 #[.val (.int (4 : Int32)), .val (.ref b0_1), .val (.int (6 : Int32)), .unset, .unset] []) (fun _ kk => XS.istoreN X1.here hx rfl (hb hby d1_6) rfl (l' := #[.val (.int (4 : Int32)), .val (.ref b0_1), .val (.int (6 : Int32)), .unset, .unset]) rfl kk) ?_
  refine ob T1 (mkF mG 8 #[.val (.int (4 : Int32)), .val (.ref b0_1), .val (.int (6 : Int32)), .unset, .unset] [(.int (0 : Int32))]) (fun _ kk => XS.iconst X1.here hx rfl (hb hby d1_7) kk) ?_
  refine ob T1 (mkF mG 9 #[.val (.int (4 : Int32)), .val (.ref b0_1), .val (.int (6 : Int32)), .val (.int (0 : Int32)), .unset] []) (fun _ kk => XS.istoreN X1.here hx rfl (hb hby d1_8) rfl (l' := #[.val (.int (4 : Int32)), .val (.ref b0_1), .val (.int (6 : Int32)), .val (.int (0 : Int32)), .unset]) rfl kk) ?_
  refine ob T1 (mkF mG 10 #[.val (.int (4 : Int32)), .val (.ref b0_1), .val (.int (6 : Int32)), .val (.int (0 : Int32)), .unset] [(.int (0 : Int32))]) (fun _ kk => XS.iloadN X1.here hx rfl (hb hby d1_9) rfl kk) ?_
  refine ob T1 (mkF mG 11 #[.val (.int (4 : Int32)), .val (.ref b0_1), .val (.int (6 : Int32)), .val (.int (0 : Int32)), .unset] [(.int (6 : Int32)), (.int (0 : Int32))]) (fun _ kk => XS.iloadN X1.here hx rfl (hb hby d1_10) rfl kk) ?_
  refine ob T1 (mkF mG 14 #[.val (.int (4 : Int32)), .val (.ref b0_1), .val (.int (6 : Int32)), .val (.int (0 : Int32)), .unset] []) (fun _ kk => XS.icmpNo X1.here hx rfl (hb hby d1_11) rfl (tlt (by decide : (0 : Int32) < (6 : Int32))).2.1 kk) ?_
  refine ob T1 (mkF mG 15 #[.val (.int (4 : Int32)), .val (.ref b0_1), .val (.int (6 : Int32)), .val (.int (0 : Int32)), .unset] [(.ref b0_1)]) (fun _ kk => XS.aloadN X1.here hx rfl (hb hby d1_14) rfl rfl kk) ?_
  refine ob T1 (mkF mG 16 #[.val (.int (4 : Int32)), .val (.ref b0_1), .val (.int (6 : Int32)), .val (.int (0 : Int32)), .unset] [(.int (0 : Int32)), (.ref b0_1)]) (fun _ kk => XS.iloadN X1.here hx rfl (hb hby d1_15) rfl kk) ?_
  obtain ⟨cl3, Ar3, -, S3, N3a, H3, -⟩ := id F1_1
  have hin3 : ¬ ((0 : Int32) < 0 ∨ cl3.slots.size ≤ ((0 : Int32)).toNatClampNeg) := inb_of S3 ⟨by decide, by decide⟩
  refine ob T1 (mkF mG 17 #[.val (.int (4 : Int32)), .val (.ref b0_1), .val (.int (6 : Int32)), .val (.int (0 : Int32)), .unset] [(.ref w_IMAGE_600)]) (fun _ kk => X1.aaload hx (j := (0 : Int32)) (v := (.ref w_IMAGE_600)) (by rw [e1]; exact Ar3.1) (State.isArrayOf_alike hZ.alike Ar3.2.1) rfl Ar3.2.2 hin3 (Has.at H3 hin3 rfl) (g := (mkF mG 16 #[.val (.int (4 : Int32)), .val (.ref b0_1), .val (.int (6 : Int32)), .val (.int (0 : Int32)), .unset] [(.int (0 : Int32)), (.ref b0_1)])) rfl rfl (hb hby d1_16) _ kk) ?_
  refine ob T1 (mkF mG 19 #[.val (.int (4 : Int32)), .val (.ref b0_1), .val (.int (6 : Int32)), .val (.int (0 : Int32)), .val (.ref w_IMAGE_600)] []) (fun _ kk => XS.astore X1.here hx rfl (hb hby d1_17) rfl rfl (l' := #[.val (.int (4 : Int32)), .val (.ref b0_1), .val (.int (6 : Int32)), .val (.int (0 : Int32)), .val (.ref w_IMAGE_600)]) rfl kk) ?_
  refine ob T1 (mkF mG 21 #[.val (.int (4 : Int32)), .val (.ref b0_1), .val (.int (6 : Int32)), .val (.int (0 : Int32)), .val (.ref w_IMAGE_600)] [(.ref w_IMAGE_600)]) (fun _ kk => XS.aload X1.here hx rfl (hb hby d1_19) rfl rfl kk) ?_
  obtain ⟨T4, X4, e4, st4⟩ := getF X1 hx hZ hown (host := "") (Or.inl (ow hw 25 rfl)) Via.refl e1 (F_w_IMAGE_600_number.ext O1.2) (g := (mkF mG 21 #[.val (.int (4 : Int32)), .val (.ref b0_1), .val (.int (6 : Int32)), .val (.int (0 : Int32)), .val (.ref w_IMAGE_600)] [(.ref w_IMAGE_600)])) rfl rfl (hb hby d1_21)
  refine ob T4 (mkF mG 24 #[.val (.int (4 : Int32)), .val (.ref b0_1), .val (.int (6 : Int32)), .val (.int (0 : Int32)), .val (.ref w_IMAGE_600)] [(.int (1 : Int32))]) (fun _ kk => st4 _ kk) ?_
  refine ob T4 (mkF mG 25 #[.val (.int (4 : Int32)), .val (.ref b0_1), .val (.int (6 : Int32)), .val (.int (0 : Int32)), .val (.ref w_IMAGE_600)] [(.int (4 : Int32)), (.int (1 : Int32))]) (fun _ kk => XS.iloadN X4.here hx rfl (hb hby d1_24) rfl kk) ?_
  refine ob T4 (mkF mG 31 #[.val (.int (4 : Int32)), .val (.ref b0_1), .val (.int (6 : Int32)), .val (.int (0 : Int32)), .val (.ref w_IMAGE_600)] []) (fun _ kk => XS.icmpYes X4.here hx rfl (pc0 := 25) (pc' := 31) rfl (hb hby d1_25) rfl (feq (by decide : ¬ ((1 : Int32) = (4 : Int32)))).2 (by decide) (by decide) kk) ?_
  refine ob T4 (mkF mG 34 #[.val (.int (4 : Int32)), .val (.ref b0_1), .val (.int (6 : Int32)), .val (.int (1 : Int32)), .val (.ref w_IMAGE_600)] []) (fun _ kk => XS.iinc X4.here hx rfl (hb hby d1_31) rfl (l' := #[.val (.int (4 : Int32)), .val (.ref b0_1), .val (.int (6 : Int32)), .val (.int (1 : Int32)), .val (.ref w_IMAGE_600)]) rfl kk) ?_
  refine ob T4 (mkF mG 9 #[.val (.int (4 : Int32)), .val (.ref b0_1), .val (.int (6 : Int32)), .val (.int (1 : Int32)), .val (.ref w_IMAGE_600)] []) (fun _ kk => XS.goto X4.here hx rfl (pc0 := 34) (pc' := 9) rfl (hb hby d1_34) (by decide) (by decide) kk) ?_
  refine ob T4 (mkF mG 10 #[.val (.int (4 : Int32)), .val (.ref b0_1), .val (.int (6 : Int32)), .val (.int (1 : Int32)), .val (.ref w_IMAGE_600)] [(.int (1 : Int32))]) (fun _ kk => XS.iloadN X4.here hx rfl (hb hby d1_9) rfl kk) ?_
  refine ob T4 (mkF mG 11 #[.val (.int (4 : Int32)), .val (.ref b0_1), .val (.int (6 : Int32)), .val (.int (1 : Int32)), .val (.ref w_IMAGE_600)] [(.int (6 : Int32)), (.int (1 : Int32))]) (fun _ kk => XS.iloadN X4.here hx rfl (hb hby d1_10) rfl kk) ?_
  refine ob T4 (mkF mG 14 #[.val (.int (4 : Int32)), .val (.ref b0_1), .val (.int (6 : Int32)), .val (.int (1 : Int32)), .val (.ref w_IMAGE_600)] []) (fun _ kk => XS.icmpNo X4.here hx rfl (hb hby d1_11) rfl (tlt (by decide : (1 : Int32) < (6 : Int32))).2.1 kk) ?_
  refine ob T4 (mkF mG 15 #[.val (.int (4 : Int32)), .val (.ref b0_1), .val (.int (6 : Int32)), .val (.int (1 : Int32)), .val (.ref w_IMAGE_600)] [(.ref b0_1)]) (fun _ kk => XS.aloadN X4.here hx rfl (hb hby d1_14) rfl rfl kk) ?_
  refine ob T4 (mkF mG 16 #[.val (.int (4 : Int32)), .val (.ref b0_1), .val (.int (6 : Int32)), .val (.int (1 : Int32)), .val (.ref w_IMAGE_600)] [(.int (1 : Int32)), (.ref b0_1)]) (fun _ kk => XS.iloadN X4.here hx rfl (hb hby d1_15) rfl kk) ?_
  obtain ⟨cl5, Ar5, -, S5, N5a, H5, -⟩ := id F1_1
  have hin5 : ¬ ((1 : Int32) < 0 ∨ cl5.slots.size ≤ ((1 : Int32)).toNatClampNeg) := inb_of S5 ⟨by decide, by decide⟩
  refine ob T4 (mkF mG 17 #[.val (.int (4 : Int32)), .val (.ref b0_1), .val (.int (6 : Int32)), .val (.int (1 : Int32)), .val (.ref w_IMAGE_600)] [(.ref w_THUMBNAIL)]) (fun _ kk => X4.aaload hx (j := (1 : Int32)) (v := (.ref w_THUMBNAIL)) (by rw [e4]; exact Ar5.1) (State.isArrayOf_alike hZ.alike Ar5.2.1) rfl Ar5.2.2 hin5 (Has.at H5 hin5 rfl) (g := (mkF mG 16 #[.val (.int (4 : Int32)), .val (.ref b0_1), .val (.int (6 : Int32)), .val (.int (1 : Int32)), .val (.ref w_IMAGE_600)] [(.int (1 : Int32)), (.ref b0_1)])) rfl rfl (hb hby d1_16) _ kk) ?_
  refine ob T4 (mkF mG 19 #[.val (.int (4 : Int32)), .val (.ref b0_1), .val (.int (6 : Int32)), .val (.int (1 : Int32)), .val (.ref w_THUMBNAIL)] []) (fun _ kk => XS.astore X4.here hx rfl (hb hby d1_17) rfl rfl (l' := #[.val (.int (4 : Int32)), .val (.ref b0_1), .val (.int (6 : Int32)), .val (.int (1 : Int32)), .val (.ref w_THUMBNAIL)]) rfl kk) ?_
  refine ob T4 (mkF mG 21 #[.val (.int (4 : Int32)), .val (.ref b0_1), .val (.int (6 : Int32)), .val (.int (1 : Int32)), .val (.ref w_THUMBNAIL)] [(.ref w_THUMBNAIL)]) (fun _ kk => XS.aload X4.here hx rfl (hb hby d1_19) rfl rfl kk) ?_
  obtain ⟨T6, X6, e6, st6⟩ := getF X4 hx hZ hown (host := "") (Or.inl (ow hw 25 rfl)) Via.refl e4 (F_w_THUMBNAIL_number.ext O1.2) (g := (mkF mG 21 #[.val (.int (4 : Int32)), .val (.ref b0_1), .val (.int (6 : Int32)), .val (.int (1 : Int32)), .val (.ref w_THUMBNAIL)] [(.ref w_THUMBNAIL)])) rfl rfl (hb hby d1_21)
  refine ob T6 (mkF mG 24 #[.val (.int (4 : Int32)), .val (.ref b0_1), .val (.int (6 : Int32)), .val (.int (1 : Int32)), .val (.ref w_THUMBNAIL)] [(.int (2 : Int32))]) (fun _ kk => st6 _ kk) ?_
  refine ob T6 (mkF mG 25 #[.val (.int (4 : Int32)), .val (.ref b0_1), .val (.int (6 : Int32)), .val (.int (1 : Int32)), .val (.ref w_THUMBNAIL)] [(.int (4 : Int32)), (.int (2 : Int32))]) (fun _ kk => XS.iloadN X6.here hx rfl (hb hby d1_24) rfl kk) ?_
  refine ob T6 (mkF mG 31 #[.val (.int (4 : Int32)), .val (.ref b0_1), .val (.int (6 : Int32)), .val (.int (1 : Int32)), .val (.ref w_THUMBNAIL)] []) (fun _ kk => XS.icmpYes X6.here hx rfl (pc0 := 25) (pc' := 31) rfl (hb hby d1_25) rfl (feq (by decide : ¬ ((2 : Int32) = (4 : Int32)))).2 (by decide) (by decide) kk) ?_
  refine ob T6 (mkF mG 34 #[.val (.int (4 : Int32)), .val (.ref b0_1), .val (.int (6 : Int32)), .val (.int (2 : Int32)), .val (.ref w_THUMBNAIL)] []) (fun _ kk => XS.iinc X6.here hx rfl (hb hby d1_31) rfl (l' := #[.val (.int (4 : Int32)), .val (.ref b0_1), .val (.int (6 : Int32)), .val (.int (2 : Int32)), .val (.ref w_THUMBNAIL)]) rfl kk) ?_
  refine ob T6 (mkF mG 9 #[.val (.int (4 : Int32)), .val (.ref b0_1), .val (.int (6 : Int32)), .val (.int (2 : Int32)), .val (.ref w_THUMBNAIL)] []) (fun _ kk => XS.goto X6.here hx rfl (pc0 := 34) (pc' := 9) rfl (hb hby d1_34) (by decide) (by decide) kk) ?_
  refine ob T6 (mkF mG 10 #[.val (.int (4 : Int32)), .val (.ref b0_1), .val (.int (6 : Int32)), .val (.int (2 : Int32)), .val (.ref w_THUMBNAIL)] [(.int (2 : Int32))]) (fun _ kk => XS.iloadN X6.here hx rfl (hb hby d1_9) rfl kk) ?_
  refine ob T6 (mkF mG 11 #[.val (.int (4 : Int32)), .val (.ref b0_1), .val (.int (6 : Int32)), .val (.int (2 : Int32)), .val (.ref w_THUMBNAIL)] [(.int (6 : Int32)), (.int (2 : Int32))]) (fun _ kk => XS.iloadN X6.here hx rfl (hb hby d1_10) rfl kk) ?_
  refine ob T6 (mkF mG 14 #[.val (.int (4 : Int32)), .val (.ref b0_1), .val (.int (6 : Int32)), .val (.int (2 : Int32)), .val (.ref w_THUMBNAIL)] []) (fun _ kk => XS.icmpNo X6.here hx rfl (hb hby d1_11) rfl (tlt (by decide : (2 : Int32) < (6 : Int32))).2.1 kk) ?_
  refine ob T6 (mkF mG 15 #[.val (.int (4 : Int32)), .val (.ref b0_1), .val (.int (6 : Int32)), .val (.int (2 : Int32)), .val (.ref w_THUMBNAIL)] [(.ref b0_1)]) (fun _ kk => XS.aloadN X6.here hx rfl (hb hby d1_14) rfl rfl kk) ?_
  refine ob T6 (mkF mG 16 #[.val (.int (4 : Int32)), .val (.ref b0_1), .val (.int (6 : Int32)), .val (.int (2 : Int32)), .val (.ref w_THUMBNAIL)] [(.int (2 : Int32)), (.ref b0_1)]) (fun _ kk => XS.iloadN X6.here hx rfl (hb hby d1_15) rfl kk) ?_
  obtain ⟨cl7, Ar7, -, S7, N7a, H7, -⟩ := id F1_1
  have hin7 : ¬ ((2 : Int32) < 0 ∨ cl7.slots.size ≤ ((2 : Int32)).toNatClampNeg) := inb_of S7 ⟨by decide, by decide⟩
  refine ob T6 (mkF mG 17 #[.val (.int (4 : Int32)), .val (.ref b0_1), .val (.int (6 : Int32)), .val (.int (2 : Int32)), .val (.ref w_THUMBNAIL)] [(.ref w_PAGE_TEXT)]) (fun _ kk => X6.aaload hx (j := (2 : Int32)) (v := (.ref w_PAGE_TEXT)) (by rw [e6]; exact Ar7.1) (State.isArrayOf_alike hZ.alike Ar7.2.1) rfl Ar7.2.2 hin7 (Has.at H7 hin7 rfl) (g := (mkF mG 16 #[.val (.int (4 : Int32)), .val (.ref b0_1), .val (.int (6 : Int32)), .val (.int (2 : Int32)), .val (.ref w_THUMBNAIL)] [(.int (2 : Int32)), (.ref b0_1)])) rfl rfl (hb hby d1_16) _ kk) ?_
  refine ob T6 (mkF mG 19 #[.val (.int (4 : Int32)), .val (.ref b0_1), .val (.int (6 : Int32)), .val (.int (2 : Int32)), .val (.ref w_PAGE_TEXT)] []) (fun _ kk => XS.astore X6.here hx rfl (hb hby d1_17) rfl rfl (l' := #[.val (.int (4 : Int32)), .val (.ref b0_1), .val (.int (6 : Int32)), .val (.int (2 : Int32)), .val (.ref w_PAGE_TEXT)]) rfl kk) ?_
  refine ob T6 (mkF mG 21 #[.val (.int (4 : Int32)), .val (.ref b0_1), .val (.int (6 : Int32)), .val (.int (2 : Int32)), .val (.ref w_PAGE_TEXT)] [(.ref w_PAGE_TEXT)]) (fun _ kk => XS.aload X6.here hx rfl (hb hby d1_19) rfl rfl kk) ?_
  obtain ⟨T8, X8, e8, st8⟩ := getF X6 hx hZ hown (host := "") (Or.inl (ow hw 25 rfl)) Via.refl e6 (F_w_PAGE_TEXT_number.ext O1.2) (g := (mkF mG 21 #[.val (.int (4 : Int32)), .val (.ref b0_1), .val (.int (6 : Int32)), .val (.int (2 : Int32)), .val (.ref w_PAGE_TEXT)] [(.ref w_PAGE_TEXT)])) rfl rfl (hb hby d1_21)
  refine ob T8 (mkF mG 24 #[.val (.int (4 : Int32)), .val (.ref b0_1), .val (.int (6 : Int32)), .val (.int (2 : Int32)), .val (.ref w_PAGE_TEXT)] [(.int (3 : Int32))]) (fun _ kk => st8 _ kk) ?_
  refine ob T8 (mkF mG 25 #[.val (.int (4 : Int32)), .val (.ref b0_1), .val (.int (6 : Int32)), .val (.int (2 : Int32)), .val (.ref w_PAGE_TEXT)] [(.int (4 : Int32)), (.int (3 : Int32))]) (fun _ kk => XS.iloadN X8.here hx rfl (hb hby d1_24) rfl kk) ?_
  refine ob T8 (mkF mG 31 #[.val (.int (4 : Int32)), .val (.ref b0_1), .val (.int (6 : Int32)), .val (.int (2 : Int32)), .val (.ref w_PAGE_TEXT)] []) (fun _ kk => XS.icmpYes X8.here hx rfl (pc0 := 25) (pc' := 31) rfl (hb hby d1_25) rfl (feq (by decide : ¬ ((3 : Int32) = (4 : Int32)))).2 (by decide) (by decide) kk) ?_
  refine ob T8 (mkF mG 34 #[.val (.int (4 : Int32)), .val (.ref b0_1), .val (.int (6 : Int32)), .val (.int (3 : Int32)), .val (.ref w_PAGE_TEXT)] []) (fun _ kk => XS.iinc X8.here hx rfl (hb hby d1_31) rfl (l' := #[.val (.int (4 : Int32)), .val (.ref b0_1), .val (.int (6 : Int32)), .val (.int (3 : Int32)), .val (.ref w_PAGE_TEXT)]) rfl kk) ?_
  refine ob T8 (mkF mG 9 #[.val (.int (4 : Int32)), .val (.ref b0_1), .val (.int (6 : Int32)), .val (.int (3 : Int32)), .val (.ref w_PAGE_TEXT)] []) (fun _ kk => XS.goto X8.here hx rfl (pc0 := 34) (pc' := 9) rfl (hb hby d1_34) (by decide) (by decide) kk) ?_
  refine ob T8 (mkF mG 10 #[.val (.int (4 : Int32)), .val (.ref b0_1), .val (.int (6 : Int32)), .val (.int (3 : Int32)), .val (.ref w_PAGE_TEXT)] [(.int (3 : Int32))]) (fun _ kk => XS.iloadN X8.here hx rfl (hb hby d1_9) rfl kk) ?_
  refine ob T8 (mkF mG 11 #[.val (.int (4 : Int32)), .val (.ref b0_1), .val (.int (6 : Int32)), .val (.int (3 : Int32)), .val (.ref w_PAGE_TEXT)] [(.int (6 : Int32)), (.int (3 : Int32))]) (fun _ kk => XS.iloadN X8.here hx rfl (hb hby d1_10) rfl kk) ?_
  refine ob T8 (mkF mG 14 #[.val (.int (4 : Int32)), .val (.ref b0_1), .val (.int (6 : Int32)), .val (.int (3 : Int32)), .val (.ref w_PAGE_TEXT)] []) (fun _ kk => XS.icmpNo X8.here hx rfl (hb hby d1_11) rfl (tlt (by decide : (3 : Int32) < (6 : Int32))).2.1 kk) ?_
  refine ob T8 (mkF mG 15 #[.val (.int (4 : Int32)), .val (.ref b0_1), .val (.int (6 : Int32)), .val (.int (3 : Int32)), .val (.ref w_PAGE_TEXT)] [(.ref b0_1)]) (fun _ kk => XS.aloadN X8.here hx rfl (hb hby d1_14) rfl rfl kk) ?_
  refine ob T8 (mkF mG 16 #[.val (.int (4 : Int32)), .val (.ref b0_1), .val (.int (6 : Int32)), .val (.int (3 : Int32)), .val (.ref w_PAGE_TEXT)] [(.int (3 : Int32)), (.ref b0_1)]) (fun _ kk => XS.iloadN X8.here hx rfl (hb hby d1_15) rfl kk) ?_
  obtain ⟨cl9, Ar9, -, S9, N9a, H9, -⟩ := id F1_1
  have hin9 : ¬ ((3 : Int32) < 0 ∨ cl9.slots.size ≤ ((3 : Int32)).toNatClampNeg) := inb_of S9 ⟨by decide, by decide⟩
  refine ob T8 (mkF mG 17 #[.val (.int (4 : Int32)), .val (.ref b0_1), .val (.int (6 : Int32)), .val (.int (3 : Int32)), .val (.ref w_PAGE_TEXT)] [(.ref w_NOTES)]) (fun _ kk => X8.aaload hx (j := (3 : Int32)) (v := (.ref w_NOTES)) (by rw [e8]; exact Ar9.1) (State.isArrayOf_alike hZ.alike Ar9.2.1) rfl Ar9.2.2 hin9 (Has.at H9 hin9 rfl) (g := (mkF mG 16 #[.val (.int (4 : Int32)), .val (.ref b0_1), .val (.int (6 : Int32)), .val (.int (3 : Int32)), .val (.ref w_PAGE_TEXT)] [(.int (3 : Int32)), (.ref b0_1)])) rfl rfl (hb hby d1_16) _ kk) ?_
  refine ob T8 (mkF mG 19 #[.val (.int (4 : Int32)), .val (.ref b0_1), .val (.int (6 : Int32)), .val (.int (3 : Int32)), .val (.ref w_NOTES)] []) (fun _ kk => XS.astore X8.here hx rfl (hb hby d1_17) rfl rfl (l' := #[.val (.int (4 : Int32)), .val (.ref b0_1), .val (.int (6 : Int32)), .val (.int (3 : Int32)), .val (.ref w_NOTES)]) rfl kk) ?_
  refine ob T8 (mkF mG 21 #[.val (.int (4 : Int32)), .val (.ref b0_1), .val (.int (6 : Int32)), .val (.int (3 : Int32)), .val (.ref w_NOTES)] [(.ref w_NOTES)]) (fun _ kk => XS.aload X8.here hx rfl (hb hby d1_19) rfl rfl kk) ?_
  obtain ⟨T10, X10, e10, st10⟩ := getF X8 hx hZ hown (host := "") (Or.inl (ow hw 25 rfl)) Via.refl e8 (F_w_NOTES_number.ext O1.2) (g := (mkF mG 21 #[.val (.int (4 : Int32)), .val (.ref b0_1), .val (.int (6 : Int32)), .val (.int (3 : Int32)), .val (.ref w_NOTES)] [(.ref w_NOTES)])) rfl rfl (hb hby d1_21)
  refine ob T10 (mkF mG 24 #[.val (.int (4 : Int32)), .val (.ref b0_1), .val (.int (6 : Int32)), .val (.int (3 : Int32)), .val (.ref w_NOTES)] [(.int (4 : Int32))]) (fun _ kk => st10 _ kk) ?_
  refine ob T10 (mkF mG 25 #[.val (.int (4 : Int32)), .val (.ref b0_1), .val (.int (6 : Int32)), .val (.int (3 : Int32)), .val (.ref w_NOTES)] [(.int (4 : Int32)), (.int (4 : Int32))]) (fun _ kk => XS.iloadN X10.here hx rfl (hb hby d1_24) rfl kk) ?_
  refine ob T10 (mkF mG 28 #[.val (.int (4 : Int32)), .val (.ref b0_1), .val (.int (6 : Int32)), .val (.int (3 : Int32)), .val (.ref w_NOTES)] []) (fun _ kk => XS.icmpNo X10.here hx rfl (hb hby d1_25) rfl (teq (by decide : (4 : Int32) = (4 : Int32))).2 kk) ?_
  refine ob T10 (mkF mG 30 #[.val (.int (4 : Int32)), .val (.ref b0_1), .val (.int (6 : Int32)), .val (.int (3 : Int32)), .val (.ref w_NOTES)] [(.ref w_NOTES)]) (fun _ kk => XS.aload X10.here hx rfl (hb hby d1_28) rfl rfl kk) ?_
  obtain ⟨fs, hr, hrun, hended, hW, hsame⟩ := X10.leave (v := some (.ref w_NOTES)) (fun h => by rw [Bd.returns] at h; cases h)
  refine oout (oretA X10 hx Bd.returns rfl rfl (hb hby d1_30) hr) hrun hended ⟨_, _, rfl, ?_, ⟨_, rfl⟩, hW, hsame.mono (by decide) (by decide)⟩
  show Q_rm_of4 Z w_IMAGE_600 w_THUMBNAIL w_PAGE_TEXT w_NOTES w_OTHER w_IMAGE_300 w_VALUES c_VALUES  h0 n0 _ T10.heap _
  rw [e10]
  exact ⟨rfl, N1, K1, O1⟩

theorem d3_27 : decode method_3_code 27 = .ok (.iload_n 0, 1) := by decide +kernel
theorem d3_28 : decode method_3_code 28 = .ok (.iconst 4, 1) := by decide +kernel
theorem d3_29 : decode method_3_code 29 = .ok (.if_icmp .ne 7, 3) := by decide +kernel
theorem d3_32 : decode method_3_code 32 = .ok (.getstatic 28, 3) := by decide +kernel
theorem d3_35 : decode method_3_code 35 = .ok (.areturn, 1) := by decide +kernel
def Q_rm_ex4 (Z : State) (w_IMAGE_600 : Addr) (w_THUMBNAIL : Addr) (w_PAGE_TEXT : Addr) (w_NOTES : Addr) (w_OTHER : Addr) (w_IMAGE_300 : Addr) (w_VALUES : Addr) (c_VALUES : Cell)  (h0 : Heap) (n0 : Nat) (v : Option Value) (h : Heap) (L : List Loc) : Prop := v = some (.ref w_NOTES) ∧ Fr n0 L ∧ h = h0
set_option maxRecDepth 65536 in
set_option maxHeartbeats 40000000 in
theorem rm_ex4 (l : Launch) (Z : State) (a0 : Array Value) (hw : ∀ d ∈ tables_1, d.before a0 Z = true) (ws : List Jvm.Cond) (w_IMAGE_600 : Addr) (w_THUMBNAIL : Addr) (w_PAGE_TEXT : Addr) (w_NOTES : Addr) (w_OTHER : Addr) (w_IMAGE_300 : Addr) (w_VALUES : Addr) (c_VALUES : Cell)  (h0 : Heap) (n0 : Nat) (O0 : Old Z n0 h0) (hS : St0 Z w_IMAGE_600 w_THUMBNAIL w_PAGE_TEXT w_NOTES w_OTHER w_IMAGE_300 w_VALUES c_VALUES ) :
    MetFree l (⟨"com/example/carrel/carrel/document/FileTypeOfPinLaw", "expected", "(I)Lcom/example/carrel/carrel/document/BoundDocument$FileType;"⟩ : MethodName) (head1 (Jvm.Cond.code (⟨"com/example/carrel/carrel/document/FileTypeOfPinLaw", "expected", "(I)Lcom/example/carrel/carrel/document/BoundDocument$FileType;"⟩ : MethodName) method_3_code 1 (some (.object "com/example/carrel/carrel/document/BoundDocument$FileType")) :: ws) ({ frames := 0, cells := 0, slots := 0, locals := 0 } : Room)) (fun aG UG => aG = #[(.int (4 : Int32))] ∧ Z.Warmed39 UG.vm ∧ UG.heap = h0) (fun _ _ _ _ _ => True) (fun _ UG oG UG' => ∃ vG LG, oG = .returned vG ∧ Q_rm_ex4 Z w_IMAGE_600 w_THUMBNAIL w_PAGE_TEXT w_NOTES w_OTHER w_IMAGE_300 w_VALUES c_VALUES  h0 n0 vG UG'.heap LG ∧ FrameEnd UG oG UG' LG ({ frames := 0, cells := 0, slots := 0, locals := 0 } : Room).cells ({ frames := 0, cells := 0, slots := 0, locals := 0 } : Room).slots) := by
  refine MetFree.of_bodySF (plainFor_of_name pn_1) hisR ?_
  intro pG eG sG mG argsG belowG methG cG s₁ Bd hml0 hP hK
  obtain ⟨rfl, hZ, hh⟩ := hP
  have hx := Bd.exec
  have hby := Bd.bytes
  have hml : cG.maxLocals = 1 := hml0
  have hown : sG.vm.findClass "com/example/carrel/carrel/document/FileTypeOfPinLaw" = some mG.cls := findClass_of_methodNamed Bd.named
  have hnm := (name_of_methodNamed Bd.named Bd.method).1
  have X0 : Stand pG l eG ({ frames := 0, cells := 0, slots := 0, locals := 0 } : Room) sG mG #[(.int (4 : Int32))] belowG methG cG s₁ [] 0 0 := Stand.of_body Bd
  have e0 : s₁.heap = h0 := by rw [← hh, Bd.state]; rfl
  have N0 := Fr.nil n0
  have K0 := Keep.refl h0 []
  obtain ⟨S_w_IMAGE_600, E_w_IMAGE_600, S_w_THUMBNAIL, E_w_THUMBNAIL, S_w_PAGE_TEXT, E_w_PAGE_TEXT, S_w_NOTES, E_w_NOTES, S_w_OTHER, E_w_OTHER, S_w_IMAGE_300, E_w_IMAGE_300, S_w_VALUES, E_w_VALUES, V_w_VALUES, F_w_IMAGE_600_number, F_w_THUMBNAIL_number, F_w_PAGE_TEXT_number, F_w_NOTES_number, F_w_OTHER_number, F_w_IMAGE_300_number, ne_w_IMAGE_600_w_THUMBNAIL, ne_w_IMAGE_600_w_PAGE_TEXT, ne_w_IMAGE_600_w_NOTES, ne_w_IMAGE_600_w_OTHER, ne_w_IMAGE_600_w_IMAGE_300, ne_w_THUMBNAIL_w_PAGE_TEXT, ne_w_THUMBNAIL_w_NOTES, ne_w_THUMBNAIL_w_OTHER, ne_w_THUMBNAIL_w_IMAGE_300, ne_w_PAGE_TEXT_w_NOTES, ne_w_PAGE_TEXT_w_OTHER, ne_w_PAGE_TEXT_w_IMAGE_300, ne_w_NOTES_w_OTHER, ne_w_NOTES_w_IMAGE_300, ne_w_OTHER_w_IMAGE_300⟩ := (id hS : St0 Z w_IMAGE_600 w_THUMBNAIL w_PAGE_TEXT w_NOTES w_OTHER w_IMAGE_300 w_VALUES c_VALUES )
  refine ostart (g' := (mkF mG 0 #[.val (.int (4 : Int32))] [])) (by first | (simp [entryFrame, mkF, argsToLocals, Value.category]; done) | rfl) ?_
  refine ob s₁ (mkF mG 1 #[.val (.int (4 : Int32))] [(.int (4 : Int32))]) (fun _ kk => XS.iloadN X0.here hx rfl (hb hby d3_0) rfl kk) ?_
  refine ob s₁ (mkF mG 2 #[.val (.int (4 : Int32))] [(.int (1 : Int32)), (.int (4 : Int32))]) (fun _ kk => XS.iconst X0.here hx rfl (hb hby d3_1) kk) ?_
  refine ob s₁ (mkF mG 9 #[.val (.int (4 : Int32))] []) (fun _ kk => XS.icmpYes X0.here hx rfl (pc0 := 2) (pc' := 9) rfl (hb hby d3_2) rfl (feq (by decide : ¬ ((4 : Int32) = (1 : Int32)))).2 (by decide) (by decide) kk) ?_
  refine ob s₁ (mkF mG 10 #[.val (.int (4 : Int32))] [(.int (4 : Int32))]) (fun _ kk => XS.iloadN X0.here hx rfl (hb hby d3_9) rfl kk) ?_
  refine ob s₁ (mkF mG 11 #[.val (.int (4 : Int32))] [(.int (2 : Int32)), (.int (4 : Int32))]) (fun _ kk => XS.iconst X0.here hx rfl (hb hby d3_10) kk) ?_
  refine ob s₁ (mkF mG 18 #[.val (.int (4 : Int32))] []) (fun _ kk => XS.icmpYes X0.here hx rfl (pc0 := 11) (pc' := 18) rfl (hb hby d3_11) rfl (feq (by decide : ¬ ((4 : Int32) = (2 : Int32)))).2 (by decide) (by decide) kk) ?_
  refine ob s₁ (mkF mG 19 #[.val (.int (4 : Int32))] [(.int (4 : Int32))]) (fun _ kk => XS.iloadN X0.here hx rfl (hb hby d3_18) rfl kk) ?_
  refine ob s₁ (mkF mG 20 #[.val (.int (4 : Int32))] [(.int (3 : Int32)), (.int (4 : Int32))]) (fun _ kk => XS.iconst X0.here hx rfl (hb hby d3_19) kk) ?_
  refine ob s₁ (mkF mG 27 #[.val (.int (4 : Int32))] []) (fun _ kk => XS.icmpYes X0.here hx rfl (pc0 := 20) (pc' := 27) rfl (hb hby d3_20) rfl (feq (by decide : ¬ ((4 : Int32) = (3 : Int32)))).2 (by decide) (by decide) kk) ?_
  refine ob s₁ (mkF mG 28 #[.val (.int (4 : Int32))] [(.int (4 : Int32))]) (fun _ kk => XS.iloadN X0.here hx rfl (hb hby d3_27) rfl kk) ?_
  refine ob s₁ (mkF mG 29 #[.val (.int (4 : Int32))] [(.int (4 : Int32)), (.int (4 : Int32))]) (fun _ kk => XS.iconst X0.here hx rfl (hb hby d3_28) kk) ?_
  refine ob s₁ (mkF mG 32 #[.val (.int (4 : Int32))] []) (fun _ kk => XS.icmpNo X0.here hx rfl (hb hby d3_29) rfl (teq (by decide : (4 : Int32) = (4 : Int32))).2 kk) ?_
  obtain ⟨T1, X1, e1, st1⟩ := getS2 X0 hx hZ hown (host := "") (Or.inl (ow hw 31 rfl)) Via.refl e0 (S_w_NOTES.ext O0.2) (g := (mkF mG 32 #[.val (.int (4 : Int32))] [])) rfl (hb hby d3_32)
  refine ob T1 (mkF mG 35 #[.val (.int (4 : Int32))] [(.ref w_NOTES)]) (fun _ kk => st1 _ kk) ?_
  obtain ⟨fs, hr, hrun, hended, hW, hsame⟩ := X1.leave (v := some (.ref w_NOTES)) (fun h => by rw [Bd.returns] at h; cases h)
  refine oout (oretA X1 hx Bd.returns rfl rfl (hb hby d3_35) hr) hrun hended ⟨_, _, rfl, ?_, ⟨_, rfl⟩, hW, hsame.mono (by decide) (by decide)⟩
  show Q_rm_ex4 Z w_IMAGE_600 w_THUMBNAIL w_PAGE_TEXT w_NOTES w_OTHER w_IMAGE_300 w_VALUES c_VALUES  h0 n0 _ T1.heap _
  rw [e1]
  exact ⟨rfl, N0, rfl⟩

def Q_rm_of5 (Z : State) (w_IMAGE_600 : Addr) (w_THUMBNAIL : Addr) (w_PAGE_TEXT : Addr) (w_NOTES : Addr) (w_OTHER : Addr) (w_IMAGE_300 : Addr) (w_VALUES : Addr) (c_VALUES : Cell)  (h0 : Heap) (n0 : Nat) (v : Option Value) (h : Heap) (L : List Loc) : Prop := v = some (.ref w_OTHER) ∧ Fr n0 L ∧ Keep h0 h [] ∧ Old Z n0 h
set_option maxRecDepth 65536 in
set_option maxHeartbeats 40000000 in
theorem rm_of5 (l : Launch) (Z : State) (a0 : Array Value) (hw : ∀ d ∈ tables_1, d.before a0 Z = true) (ws : List Jvm.Cond) (w_IMAGE_600 : Addr) (w_THUMBNAIL : Addr) (w_PAGE_TEXT : Addr) (w_NOTES : Addr) (w_OTHER : Addr) (w_IMAGE_300 : Addr) (w_VALUES : Addr) (c_VALUES : Cell)  (h0 : Heap) (n0 : Nat) (O0 : Old Z n0 h0) (hS : St0 Z w_IMAGE_600 w_THUMBNAIL w_PAGE_TEXT w_NOTES w_OTHER w_IMAGE_300 w_VALUES c_VALUES ) :
    MetFree l (⟨"com/example/carrel/carrel/document/BoundDocument$FileType", "of", "(I)Lcom/example/carrel/carrel/document/BoundDocument$FileType;"⟩ : MethodName) (head1 (Jvm.Cond.code (⟨"com/example/carrel/carrel/document/BoundDocument$FileType", "of", "(I)Lcom/example/carrel/carrel/document/BoundDocument$FileType;"⟩ : MethodName) prog_15_method_6_code 5 (some (.object "com/example/carrel/carrel/document/BoundDocument$FileType")) :: ws) ({ frames := 2, cells := 1, slots := 6, locals := 25 } : Room)) (fun aG UG => aG = #[(.int (5 : Int32))] ∧ Z.Warmed39 UG.vm ∧ UG.heap = h0) (fun _ _ _ _ _ => True) (fun _ UG oG UG' => ∃ vG LG, oG = .returned vG ∧ Q_rm_of5 Z w_IMAGE_600 w_THUMBNAIL w_PAGE_TEXT w_NOTES w_OTHER w_IMAGE_300 w_VALUES c_VALUES  h0 n0 vG UG'.heap LG ∧ FrameEnd UG oG UG' LG ({ frames := 2, cells := 1, slots := 6, locals := 25 } : Room).cells ({ frames := 2, cells := 1, slots := 6, locals := 25 } : Room).slots) := by
  refine MetFree.of_bodySF (plainFor_of_name pn_0) hisR ?_
  intro pG eG sG mG argsG belowG methG cG s₁ Bd hml0 hP hK
  obtain ⟨rfl, hZ, hh⟩ := hP
  have hx := Bd.exec
  have hby := Bd.bytes
  have hml : cG.maxLocals = 5 := hml0
  have hown : sG.vm.findClass "com/example/carrel/carrel/document/BoundDocument$FileType" = some mG.cls := findClass_of_methodNamed Bd.named
  have hnm := (name_of_methodNamed Bd.named Bd.method).1
  have X0 : Stand pG l eG ({ frames := 2, cells := 1, slots := 6, locals := 25 } : Room) sG mG #[(.int (5 : Int32))] belowG methG cG s₁ [] 0 0 := Stand.of_body Bd
  have e0 : s₁.heap = h0 := by rw [← hh, Bd.state]; rfl
  have N0 := Fr.nil n0
  have K0 := Keep.refl h0 []
  obtain ⟨S_w_IMAGE_600, E_w_IMAGE_600, S_w_THUMBNAIL, E_w_THUMBNAIL, S_w_PAGE_TEXT, E_w_PAGE_TEXT, S_w_NOTES, E_w_NOTES, S_w_OTHER, E_w_OTHER, S_w_IMAGE_300, E_w_IMAGE_300, S_w_VALUES, E_w_VALUES, V_w_VALUES, F_w_IMAGE_600_number, F_w_THUMBNAIL_number, F_w_PAGE_TEXT_number, F_w_NOTES_number, F_w_OTHER_number, F_w_IMAGE_300_number, ne_w_IMAGE_600_w_THUMBNAIL, ne_w_IMAGE_600_w_PAGE_TEXT, ne_w_IMAGE_600_w_NOTES, ne_w_IMAGE_600_w_OTHER, ne_w_IMAGE_600_w_IMAGE_300, ne_w_THUMBNAIL_w_PAGE_TEXT, ne_w_THUMBNAIL_w_NOTES, ne_w_THUMBNAIL_w_OTHER, ne_w_THUMBNAIL_w_IMAGE_300, ne_w_PAGE_TEXT_w_NOTES, ne_w_PAGE_TEXT_w_OTHER, ne_w_PAGE_TEXT_w_IMAGE_300, ne_w_NOTES_w_OTHER, ne_w_NOTES_w_IMAGE_300, ne_w_OTHER_w_IMAGE_300⟩ := (id hS : St0 Z w_IMAGE_600 w_THUMBNAIL w_PAGE_TEXT w_NOTES w_OTHER w_IMAGE_300 w_VALUES c_VALUES )
  refine ostart (g' := (mkF mG 0 #[.val (.int (5 : Int32)), .unset, .unset, .unset, .unset] [])) (by first | (simp [entryFrame, mkF, argsToLocals, Value.category]; done) | rfl) ?_
  obtain ⟨_, _, ⟨T1, L1, k1, n1⟩, -, X1, ⟨Lc1, hQ1, l1, y1, z1⟩, st1⟩ := Jvm.LawKit.callS X0 hx (y := (⟨"com/example/carrel/carrel/document/BoundDocument$FileType", "values", "()[Lcom/example/carrel/carrel/document/BoundDocument$FileType;"⟩ : MethodName)) hown (mvT hZ (ow hw 4 rfl)) (mvT hZ (ow hw 5 rfl)) (mvT hZ (ow hw 2 rfl)) (mvT hZ (ow hw 6 rfl)) (by decide) (backOf (W := 0) (rm_values l Z a0 hw [] w_IMAGE_600 w_THUMBNAIL w_PAGE_TEXT w_NOTES w_OTHER w_IMAGE_300 w_VALUES c_VALUES  h0 n0 O0 hS ) hZ (ow hw 6 rfl) (ow hw 2 rfl) (by decide) (by decide)) (g := (mkF mG 0 #[.val (.int (5 : Int32)), .unset, .unset, .unset, .unset] [])) rfl (by rw [hml]; rfl) (argsL := []) (rest := []) (lenOf pd_0 rfl) rfl (by show 2 * 0 + _ ≤ _; exact Nat.le_of_eq rfl) (hb hby d1_0) (fun _ _ => ⟨rfl, e0, (by decide : 0 + 1 ≤ _), (by decide : 0 + 6 ≤ _)⟩)
  dsimp only [Pt.U, Pt.locs, Pt.cells, Pt.slots] at X1 l1 y1 z1 st1 hQ1
  subst l1 y1 z1
  obtain ⟨h1, e1⟩ : ∃ h, T1.heap = h := ⟨_, rfl⟩
  rw [e1] at hQ1
  obtain ⟨b0_1, rfl, N1q, K1q, O1, n_b0_1, z_b0_1, F1_0, F1_1⟩ := hQ1
  have N1 := Fr.app N0 N1q
  have sz_b0_1 : h0.size ≤ b0_1 := Nat.le_trans K0.1 z_b0_1
  have K1 := K0.trans K1q all0
  refine ob T1 (mkF mG 3 #[.val (.int (5 : Int32)), .unset, .unset, .unset, .unset] [(.ref b0_1)]) (fun _ kk => st1 _ kk) ?_
  refine ob T1 (mkF mG 4 #[.val (.int (5 : Int32)), .val (.ref b0_1), .unset, .unset, .unset] []) (fun _ kk => XS.astoreN X1.here hx rfl (hb hby d1_3) rfl rfl (l' := #[.val (.int (5 : Int32)), .val (.ref b0_1), .unset, .unset, .unset]) rfl kk) ?_
  refine ob T1 (mkF mG 5 #[.val (.int (5 : Int32)), .val (.ref b0_1), .unset, .unset, .unset] [(.ref b0_1)]) (fun _ kk => XS.aloadN X1.here hx rfl (hb hby d1_4) rfl rfl kk) ?_
  obtain ⟨cl2, Ar2, -, S2, N2a, -, -⟩ := id F1_1
  refine oby (T' := T1) (g' := (mkF mG 6 #[.val (.int (5 : Int32)), .val (.ref b0_1), .unset, .unset, .unset] [(.int (6 : Int32))])) (fun ot ok => X1.arraylength hx (by rw [e1]; exact Ar2.1) (State.isArrayOf_alike hZ.alike Ar2.2.1) (g := (mkF mG 5 #[.val (.int (5 : Int32)), .val (.ref b0_1), .unset, .unset, .unset] [(.ref b0_1)])) rfl rfl (hb hby d1_5) _ (by rw [len_of S2 N2a]; exact ok)) ?_
  refine ob T1 (mkF mG 7 #[.val (.int (5 : Int32)), .val (.ref b0_1), .val (.int (6 : Int32)), .unset, .unset] []) (fun _ kk => XS.istoreN X1.here hx rfl (hb hby d1_6) rfl (l' := #[.val (.int (5 : Int32)), .val (.ref b0_1), .val (.int (6 : Int32)), .unset, .unset]) rfl kk) ?_
  refine ob T1 (mkF mG 8 #[.val (.int (5 : Int32)), .val (.ref b0_1), .val (.int (6 : Int32)), .unset, .unset] [(.int (0 : Int32))]) (fun _ kk => XS.iconst X1.here hx rfl (hb hby d1_7) kk) ?_
  refine ob T1 (mkF mG 9 #[.val (.int (5 : Int32)), .val (.ref b0_1), .val (.int (6 : Int32)), .val (.int (0 : Int32)), .unset] []) (fun _ kk => XS.istoreN X1.here hx rfl (hb hby d1_8) rfl (l' := #[.val (.int (5 : Int32)), .val (.ref b0_1), .val (.int (6 : Int32)), .val (.int (0 : Int32)), .unset]) rfl kk) ?_
  refine ob T1 (mkF mG 10 #[.val (.int (5 : Int32)), .val (.ref b0_1), .val (.int (6 : Int32)), .val (.int (0 : Int32)), .unset] [(.int (0 : Int32))]) (fun _ kk => XS.iloadN X1.here hx rfl (hb hby d1_9) rfl kk) ?_
  refine ob T1 (mkF mG 11 #[.val (.int (5 : Int32)), .val (.ref b0_1), .val (.int (6 : Int32)), .val (.int (0 : Int32)), .unset] [(.int (6 : Int32)), (.int (0 : Int32))]) (fun _ kk => XS.iloadN X1.here hx rfl (hb hby d1_10) rfl kk) ?_
  refine ob T1 (mkF mG 14 #[.val (.int (5 : Int32)), .val (.ref b0_1), .val (.int (6 : Int32)), .val (.int (0 : Int32)), .unset] []) (fun _ kk => XS.icmpNo X1.here hx rfl (hb hby d1_11) rfl (tlt (by decide : (0 : Int32) < (6 : Int32))).2.1 kk) ?_
  refine ob T1 (mkF mG 15 #[.val (.int (5 : Int32)), .val (.ref b0_1), .val (.int (6 : Int32)), .val (.int (0 : Int32)), .unset] [(.ref b0_1)]) (fun _ kk => XS.aloadN X1.here hx rfl (hb hby d1_14) rfl rfl kk) ?_
  refine ob T1 (mkF mG 16 #[.val (.int (5 : Int32)), .val (.ref b0_1), .val (.int (6 : Int32)), .val (.int (0 : Int32)), .unset] [(.int (0 : Int32)), (.ref b0_1)]) (fun _ kk => XS.iloadN X1.here hx rfl (hb hby d1_15) rfl kk) ?_
  obtain ⟨cl3, Ar3, -, S3, N3a, H3, -⟩ := id F1_1
  have hin3 : ¬ ((0 : Int32) < 0 ∨ cl3.slots.size ≤ ((0 : Int32)).toNatClampNeg) := inb_of S3 ⟨by decide, by decide⟩
  refine ob T1 (mkF mG 17 #[.val (.int (5 : Int32)), .val (.ref b0_1), .val (.int (6 : Int32)), .val (.int (0 : Int32)), .unset] [(.ref w_IMAGE_600)]) (fun _ kk => X1.aaload hx (j := (0 : Int32)) (v := (.ref w_IMAGE_600)) (by rw [e1]; exact Ar3.1) (State.isArrayOf_alike hZ.alike Ar3.2.1) rfl Ar3.2.2 hin3 (Has.at H3 hin3 rfl) (g := (mkF mG 16 #[.val (.int (5 : Int32)), .val (.ref b0_1), .val (.int (6 : Int32)), .val (.int (0 : Int32)), .unset] [(.int (0 : Int32)), (.ref b0_1)])) rfl rfl (hb hby d1_16) _ kk) ?_
  refine ob T1 (mkF mG 19 #[.val (.int (5 : Int32)), .val (.ref b0_1), .val (.int (6 : Int32)), .val (.int (0 : Int32)), .val (.ref w_IMAGE_600)] []) (fun _ kk => XS.astore X1.here hx rfl (hb hby d1_17) rfl rfl (l' := #[.val (.int (5 : Int32)), .val (.ref b0_1), .val (.int (6 : Int32)), .val (.int (0 : Int32)), .val (.ref w_IMAGE_600)]) rfl kk) ?_
  refine ob T1 (mkF mG 21 #[.val (.int (5 : Int32)), .val (.ref b0_1), .val (.int (6 : Int32)), .val (.int (0 : Int32)), .val (.ref w_IMAGE_600)] [(.ref w_IMAGE_600)]) (fun _ kk => XS.aload X1.here hx rfl (hb hby d1_19) rfl rfl kk) ?_
  obtain ⟨T4, X4, e4, st4⟩ := getF X1 hx hZ hown (host := "") (Or.inl (ow hw 25 rfl)) Via.refl e1 (F_w_IMAGE_600_number.ext O1.2) (g := (mkF mG 21 #[.val (.int (5 : Int32)), .val (.ref b0_1), .val (.int (6 : Int32)), .val (.int (0 : Int32)), .val (.ref w_IMAGE_600)] [(.ref w_IMAGE_600)])) rfl rfl (hb hby d1_21)
  refine ob T4 (mkF mG 24 #[.val (.int (5 : Int32)), .val (.ref b0_1), .val (.int (6 : Int32)), .val (.int (0 : Int32)), .val (.ref w_IMAGE_600)] [(.int (1 : Int32))]) (fun _ kk => st4 _ kk) ?_
  refine ob T4 (mkF mG 25 #[.val (.int (5 : Int32)), .val (.ref b0_1), .val (.int (6 : Int32)), .val (.int (0 : Int32)), .val (.ref w_IMAGE_600)] [(.int (5 : Int32)), (.int (1 : Int32))]) (fun _ kk => XS.iloadN X4.here hx rfl (hb hby d1_24) rfl kk) ?_
  refine ob T4 (mkF mG 31 #[.val (.int (5 : Int32)), .val (.ref b0_1), .val (.int (6 : Int32)), .val (.int (0 : Int32)), .val (.ref w_IMAGE_600)] []) (fun _ kk => XS.icmpYes X4.here hx rfl (pc0 := 25) (pc' := 31) rfl (hb hby d1_25) rfl (feq (by decide : ¬ ((1 : Int32) = (5 : Int32)))).2 (by decide) (by decide) kk) ?_
  refine ob T4 (mkF mG 34 #[.val (.int (5 : Int32)), .val (.ref b0_1), .val (.int (6 : Int32)), .val (.int (1 : Int32)), .val (.ref w_IMAGE_600)] []) (fun _ kk => XS.iinc X4.here hx rfl (hb hby d1_31) rfl (l' := #[.val (.int (5 : Int32)), .val (.ref b0_1), .val (.int (6 : Int32)), .val (.int (1 : Int32)), .val (.ref w_IMAGE_600)]) rfl kk) ?_
  refine ob T4 (mkF mG 9 #[.val (.int (5 : Int32)), .val (.ref b0_1), .val (.int (6 : Int32)), .val (.int (1 : Int32)), .val (.ref w_IMAGE_600)] []) (fun _ kk => XS.goto X4.here hx rfl (pc0 := 34) (pc' := 9) rfl (hb hby d1_34) (by decide) (by decide) kk) ?_
  refine ob T4 (mkF mG 10 #[.val (.int (5 : Int32)), .val (.ref b0_1), .val (.int (6 : Int32)), .val (.int (1 : Int32)), .val (.ref w_IMAGE_600)] [(.int (1 : Int32))]) (fun _ kk => XS.iloadN X4.here hx rfl (hb hby d1_9) rfl kk) ?_
  refine ob T4 (mkF mG 11 #[.val (.int (5 : Int32)), .val (.ref b0_1), .val (.int (6 : Int32)), .val (.int (1 : Int32)), .val (.ref w_IMAGE_600)] [(.int (6 : Int32)), (.int (1 : Int32))]) (fun _ kk => XS.iloadN X4.here hx rfl (hb hby d1_10) rfl kk) ?_
  refine ob T4 (mkF mG 14 #[.val (.int (5 : Int32)), .val (.ref b0_1), .val (.int (6 : Int32)), .val (.int (1 : Int32)), .val (.ref w_IMAGE_600)] []) (fun _ kk => XS.icmpNo X4.here hx rfl (hb hby d1_11) rfl (tlt (by decide : (1 : Int32) < (6 : Int32))).2.1 kk) ?_
  refine ob T4 (mkF mG 15 #[.val (.int (5 : Int32)), .val (.ref b0_1), .val (.int (6 : Int32)), .val (.int (1 : Int32)), .val (.ref w_IMAGE_600)] [(.ref b0_1)]) (fun _ kk => XS.aloadN X4.here hx rfl (hb hby d1_14) rfl rfl kk) ?_
  refine ob T4 (mkF mG 16 #[.val (.int (5 : Int32)), .val (.ref b0_1), .val (.int (6 : Int32)), .val (.int (1 : Int32)), .val (.ref w_IMAGE_600)] [(.int (1 : Int32)), (.ref b0_1)]) (fun _ kk => XS.iloadN X4.here hx rfl (hb hby d1_15) rfl kk) ?_
  obtain ⟨cl5, Ar5, -, S5, N5a, H5, -⟩ := id F1_1
  have hin5 : ¬ ((1 : Int32) < 0 ∨ cl5.slots.size ≤ ((1 : Int32)).toNatClampNeg) := inb_of S5 ⟨by decide, by decide⟩
  refine ob T4 (mkF mG 17 #[.val (.int (5 : Int32)), .val (.ref b0_1), .val (.int (6 : Int32)), .val (.int (1 : Int32)), .val (.ref w_IMAGE_600)] [(.ref w_THUMBNAIL)]) (fun _ kk => X4.aaload hx (j := (1 : Int32)) (v := (.ref w_THUMBNAIL)) (by rw [e4]; exact Ar5.1) (State.isArrayOf_alike hZ.alike Ar5.2.1) rfl Ar5.2.2 hin5 (Has.at H5 hin5 rfl) (g := (mkF mG 16 #[.val (.int (5 : Int32)), .val (.ref b0_1), .val (.int (6 : Int32)), .val (.int (1 : Int32)), .val (.ref w_IMAGE_600)] [(.int (1 : Int32)), (.ref b0_1)])) rfl rfl (hb hby d1_16) _ kk) ?_
  refine ob T4 (mkF mG 19 #[.val (.int (5 : Int32)), .val (.ref b0_1), .val (.int (6 : Int32)), .val (.int (1 : Int32)), .val (.ref w_THUMBNAIL)] []) (fun _ kk => XS.astore X4.here hx rfl (hb hby d1_17) rfl rfl (l' := #[.val (.int (5 : Int32)), .val (.ref b0_1), .val (.int (6 : Int32)), .val (.int (1 : Int32)), .val (.ref w_THUMBNAIL)]) rfl kk) ?_
  refine ob T4 (mkF mG 21 #[.val (.int (5 : Int32)), .val (.ref b0_1), .val (.int (6 : Int32)), .val (.int (1 : Int32)), .val (.ref w_THUMBNAIL)] [(.ref w_THUMBNAIL)]) (fun _ kk => XS.aload X4.here hx rfl (hb hby d1_19) rfl rfl kk) ?_
  obtain ⟨T6, X6, e6, st6⟩ := getF X4 hx hZ hown (host := "") (Or.inl (ow hw 25 rfl)) Via.refl e4 (F_w_THUMBNAIL_number.ext O1.2) (g := (mkF mG 21 #[.val (.int (5 : Int32)), .val (.ref b0_1), .val (.int (6 : Int32)), .val (.int (1 : Int32)), .val (.ref w_THUMBNAIL)] [(.ref w_THUMBNAIL)])) rfl rfl (hb hby d1_21)
  refine ob T6 (mkF mG 24 #[.val (.int (5 : Int32)), .val (.ref b0_1), .val (.int (6 : Int32)), .val (.int (1 : Int32)), .val (.ref w_THUMBNAIL)] [(.int (2 : Int32))]) (fun _ kk => st6 _ kk) ?_
  refine ob T6 (mkF mG 25 #[.val (.int (5 : Int32)), .val (.ref b0_1), .val (.int (6 : Int32)), .val (.int (1 : Int32)), .val (.ref w_THUMBNAIL)] [(.int (5 : Int32)), (.int (2 : Int32))]) (fun _ kk => XS.iloadN X6.here hx rfl (hb hby d1_24) rfl kk) ?_
  refine ob T6 (mkF mG 31 #[.val (.int (5 : Int32)), .val (.ref b0_1), .val (.int (6 : Int32)), .val (.int (1 : Int32)), .val (.ref w_THUMBNAIL)] []) (fun _ kk => XS.icmpYes X6.here hx rfl (pc0 := 25) (pc' := 31) rfl (hb hby d1_25) rfl (feq (by decide : ¬ ((2 : Int32) = (5 : Int32)))).2 (by decide) (by decide) kk) ?_
  refine ob T6 (mkF mG 34 #[.val (.int (5 : Int32)), .val (.ref b0_1), .val (.int (6 : Int32)), .val (.int (2 : Int32)), .val (.ref w_THUMBNAIL)] []) (fun _ kk => XS.iinc X6.here hx rfl (hb hby d1_31) rfl (l' := #[.val (.int (5 : Int32)), .val (.ref b0_1), .val (.int (6 : Int32)), .val (.int (2 : Int32)), .val (.ref w_THUMBNAIL)]) rfl kk) ?_
  refine ob T6 (mkF mG 9 #[.val (.int (5 : Int32)), .val (.ref b0_1), .val (.int (6 : Int32)), .val (.int (2 : Int32)), .val (.ref w_THUMBNAIL)] []) (fun _ kk => XS.goto X6.here hx rfl (pc0 := 34) (pc' := 9) rfl (hb hby d1_34) (by decide) (by decide) kk) ?_
  refine ob T6 (mkF mG 10 #[.val (.int (5 : Int32)), .val (.ref b0_1), .val (.int (6 : Int32)), .val (.int (2 : Int32)), .val (.ref w_THUMBNAIL)] [(.int (2 : Int32))]) (fun _ kk => XS.iloadN X6.here hx rfl (hb hby d1_9) rfl kk) ?_
  refine ob T6 (mkF mG 11 #[.val (.int (5 : Int32)), .val (.ref b0_1), .val (.int (6 : Int32)), .val (.int (2 : Int32)), .val (.ref w_THUMBNAIL)] [(.int (6 : Int32)), (.int (2 : Int32))]) (fun _ kk => XS.iloadN X6.here hx rfl (hb hby d1_10) rfl kk) ?_
  refine ob T6 (mkF mG 14 #[.val (.int (5 : Int32)), .val (.ref b0_1), .val (.int (6 : Int32)), .val (.int (2 : Int32)), .val (.ref w_THUMBNAIL)] []) (fun _ kk => XS.icmpNo X6.here hx rfl (hb hby d1_11) rfl (tlt (by decide : (2 : Int32) < (6 : Int32))).2.1 kk) ?_
  refine ob T6 (mkF mG 15 #[.val (.int (5 : Int32)), .val (.ref b0_1), .val (.int (6 : Int32)), .val (.int (2 : Int32)), .val (.ref w_THUMBNAIL)] [(.ref b0_1)]) (fun _ kk => XS.aloadN X6.here hx rfl (hb hby d1_14) rfl rfl kk) ?_
  refine ob T6 (mkF mG 16 #[.val (.int (5 : Int32)), .val (.ref b0_1), .val (.int (6 : Int32)), .val (.int (2 : Int32)), .val (.ref w_THUMBNAIL)] [(.int (2 : Int32)), (.ref b0_1)]) (fun _ kk => XS.iloadN X6.here hx rfl (hb hby d1_15) rfl kk) ?_
  obtain ⟨cl7, Ar7, -, S7, N7a, H7, -⟩ := id F1_1
  have hin7 : ¬ ((2 : Int32) < 0 ∨ cl7.slots.size ≤ ((2 : Int32)).toNatClampNeg) := inb_of S7 ⟨by decide, by decide⟩
  refine ob T6 (mkF mG 17 #[.val (.int (5 : Int32)), .val (.ref b0_1), .val (.int (6 : Int32)), .val (.int (2 : Int32)), .val (.ref w_THUMBNAIL)] [(.ref w_PAGE_TEXT)]) (fun _ kk => X6.aaload hx (j := (2 : Int32)) (v := (.ref w_PAGE_TEXT)) (by rw [e6]; exact Ar7.1) (State.isArrayOf_alike hZ.alike Ar7.2.1) rfl Ar7.2.2 hin7 (Has.at H7 hin7 rfl) (g := (mkF mG 16 #[.val (.int (5 : Int32)), .val (.ref b0_1), .val (.int (6 : Int32)), .val (.int (2 : Int32)), .val (.ref w_THUMBNAIL)] [(.int (2 : Int32)), (.ref b0_1)])) rfl rfl (hb hby d1_16) _ kk) ?_
  refine ob T6 (mkF mG 19 #[.val (.int (5 : Int32)), .val (.ref b0_1), .val (.int (6 : Int32)), .val (.int (2 : Int32)), .val (.ref w_PAGE_TEXT)] []) (fun _ kk => XS.astore X6.here hx rfl (hb hby d1_17) rfl rfl (l' := #[.val (.int (5 : Int32)), .val (.ref b0_1), .val (.int (6 : Int32)), .val (.int (2 : Int32)), .val (.ref w_PAGE_TEXT)]) rfl kk) ?_
  refine ob T6 (mkF mG 21 #[.val (.int (5 : Int32)), .val (.ref b0_1), .val (.int (6 : Int32)), .val (.int (2 : Int32)), .val (.ref w_PAGE_TEXT)] [(.ref w_PAGE_TEXT)]) (fun _ kk => XS.aload X6.here hx rfl (hb hby d1_19) rfl rfl kk) ?_
  obtain ⟨T8, X8, e8, st8⟩ := getF X6 hx hZ hown (host := "") (Or.inl (ow hw 25 rfl)) Via.refl e6 (F_w_PAGE_TEXT_number.ext O1.2) (g := (mkF mG 21 #[.val (.int (5 : Int32)), .val (.ref b0_1), .val (.int (6 : Int32)), .val (.int (2 : Int32)), .val (.ref w_PAGE_TEXT)] [(.ref w_PAGE_TEXT)])) rfl rfl (hb hby d1_21)
  refine ob T8 (mkF mG 24 #[.val (.int (5 : Int32)), .val (.ref b0_1), .val (.int (6 : Int32)), .val (.int (2 : Int32)), .val (.ref w_PAGE_TEXT)] [(.int (3 : Int32))]) (fun _ kk => st8 _ kk) ?_
  refine ob T8 (mkF mG 25 #[.val (.int (5 : Int32)), .val (.ref b0_1), .val (.int (6 : Int32)), .val (.int (2 : Int32)), .val (.ref w_PAGE_TEXT)] [(.int (5 : Int32)), (.int (3 : Int32))]) (fun _ kk => XS.iloadN X8.here hx rfl (hb hby d1_24) rfl kk) ?_
  refine ob T8 (mkF mG 31 #[.val (.int (5 : Int32)), .val (.ref b0_1), .val (.int (6 : Int32)), .val (.int (2 : Int32)), .val (.ref w_PAGE_TEXT)] []) (fun _ kk => XS.icmpYes X8.here hx rfl (pc0 := 25) (pc' := 31) rfl (hb hby d1_25) rfl (feq (by decide : ¬ ((3 : Int32) = (5 : Int32)))).2 (by decide) (by decide) kk) ?_
  refine ob T8 (mkF mG 34 #[.val (.int (5 : Int32)), .val (.ref b0_1), .val (.int (6 : Int32)), .val (.int (3 : Int32)), .val (.ref w_PAGE_TEXT)] []) (fun _ kk => XS.iinc X8.here hx rfl (hb hby d1_31) rfl (l' := #[.val (.int (5 : Int32)), .val (.ref b0_1), .val (.int (6 : Int32)), .val (.int (3 : Int32)), .val (.ref w_PAGE_TEXT)]) rfl kk) ?_
  refine ob T8 (mkF mG 9 #[.val (.int (5 : Int32)), .val (.ref b0_1), .val (.int (6 : Int32)), .val (.int (3 : Int32)), .val (.ref w_PAGE_TEXT)] []) (fun _ kk => XS.goto X8.here hx rfl (pc0 := 34) (pc' := 9) rfl (hb hby d1_34) (by decide) (by decide) kk) ?_
  refine ob T8 (mkF mG 10 #[.val (.int (5 : Int32)), .val (.ref b0_1), .val (.int (6 : Int32)), .val (.int (3 : Int32)), .val (.ref w_PAGE_TEXT)] [(.int (3 : Int32))]) (fun _ kk => XS.iloadN X8.here hx rfl (hb hby d1_9) rfl kk) ?_
  refine ob T8 (mkF mG 11 #[.val (.int (5 : Int32)), .val (.ref b0_1), .val (.int (6 : Int32)), .val (.int (3 : Int32)), .val (.ref w_PAGE_TEXT)] [(.int (6 : Int32)), (.int (3 : Int32))]) (fun _ kk => XS.iloadN X8.here hx rfl (hb hby d1_10) rfl kk) ?_
  refine ob T8 (mkF mG 14 #[.val (.int (5 : Int32)), .val (.ref b0_1), .val (.int (6 : Int32)), .val (.int (3 : Int32)), .val (.ref w_PAGE_TEXT)] []) (fun _ kk => XS.icmpNo X8.here hx rfl (hb hby d1_11) rfl (tlt (by decide : (3 : Int32) < (6 : Int32))).2.1 kk) ?_
  refine ob T8 (mkF mG 15 #[.val (.int (5 : Int32)), .val (.ref b0_1), .val (.int (6 : Int32)), .val (.int (3 : Int32)), .val (.ref w_PAGE_TEXT)] [(.ref b0_1)]) (fun _ kk => XS.aloadN X8.here hx rfl (hb hby d1_14) rfl rfl kk) ?_
  refine ob T8 (mkF mG 16 #[.val (.int (5 : Int32)), .val (.ref b0_1), .val (.int (6 : Int32)), .val (.int (3 : Int32)), .val (.ref w_PAGE_TEXT)] [(.int (3 : Int32)), (.ref b0_1)]) (fun _ kk => XS.iloadN X8.here hx rfl (hb hby d1_15) rfl kk) ?_
  obtain ⟨cl9, Ar9, -, S9, N9a, H9, -⟩ := id F1_1
  have hin9 : ¬ ((3 : Int32) < 0 ∨ cl9.slots.size ≤ ((3 : Int32)).toNatClampNeg) := inb_of S9 ⟨by decide, by decide⟩
  refine ob T8 (mkF mG 17 #[.val (.int (5 : Int32)), .val (.ref b0_1), .val (.int (6 : Int32)), .val (.int (3 : Int32)), .val (.ref w_PAGE_TEXT)] [(.ref w_NOTES)]) (fun _ kk => X8.aaload hx (j := (3 : Int32)) (v := (.ref w_NOTES)) (by rw [e8]; exact Ar9.1) (State.isArrayOf_alike hZ.alike Ar9.2.1) rfl Ar9.2.2 hin9 (Has.at H9 hin9 rfl) (g := (mkF mG 16 #[.val (.int (5 : Int32)), .val (.ref b0_1), .val (.int (6 : Int32)), .val (.int (3 : Int32)), .val (.ref w_PAGE_TEXT)] [(.int (3 : Int32)), (.ref b0_1)])) rfl rfl (hb hby d1_16) _ kk) ?_
  refine ob T8 (mkF mG 19 #[.val (.int (5 : Int32)), .val (.ref b0_1), .val (.int (6 : Int32)), .val (.int (3 : Int32)), .val (.ref w_NOTES)] []) (fun _ kk => XS.astore X8.here hx rfl (hb hby d1_17) rfl rfl (l' := #[.val (.int (5 : Int32)), .val (.ref b0_1), .val (.int (6 : Int32)), .val (.int (3 : Int32)), .val (.ref w_NOTES)]) rfl kk) ?_
  refine ob T8 (mkF mG 21 #[.val (.int (5 : Int32)), .val (.ref b0_1), .val (.int (6 : Int32)), .val (.int (3 : Int32)), .val (.ref w_NOTES)] [(.ref w_NOTES)]) (fun _ kk => XS.aload X8.here hx rfl (hb hby d1_19) rfl rfl kk) ?_
  obtain ⟨T10, X10, e10, st10⟩ := getF X8 hx hZ hown (host := "") (Or.inl (ow hw 25 rfl)) Via.refl e8 (F_w_NOTES_number.ext O1.2) (g := (mkF mG 21 #[.val (.int (5 : Int32)), .val (.ref b0_1), .val (.int (6 : Int32)), .val (.int (3 : Int32)), .val (.ref w_NOTES)] [(.ref w_NOTES)])) rfl rfl (hb hby d1_21)
  refine ob T10 (mkF mG 24 #[.val (.int (5 : Int32)), .val (.ref b0_1), .val (.int (6 : Int32)), .val (.int (3 : Int32)), .val (.ref w_NOTES)] [(.int (4 : Int32))]) (fun _ kk => st10 _ kk) ?_
  refine ob T10 (mkF mG 25 #[.val (.int (5 : Int32)), .val (.ref b0_1), .val (.int (6 : Int32)), .val (.int (3 : Int32)), .val (.ref w_NOTES)] [(.int (5 : Int32)), (.int (4 : Int32))]) (fun _ kk => XS.iloadN X10.here hx rfl (hb hby d1_24) rfl kk) ?_
  refine ob T10 (mkF mG 31 #[.val (.int (5 : Int32)), .val (.ref b0_1), .val (.int (6 : Int32)), .val (.int (3 : Int32)), .val (.ref w_NOTES)] []) (fun _ kk => XS.icmpYes X10.here hx rfl (pc0 := 25) (pc' := 31) rfl (hb hby d1_25) rfl (feq (by decide : ¬ ((4 : Int32) = (5 : Int32)))).2 (by decide) (by decide) kk) ?_
  refine ob T10 (mkF mG 34 #[.val (.int (5 : Int32)), .val (.ref b0_1), .val (.int (6 : Int32)), .val (.int (4 : Int32)), .val (.ref w_NOTES)] []) (fun _ kk => XS.iinc X10.here hx rfl (hb hby d1_31) rfl (l' := #[.val (.int (5 : Int32)), .val (.ref b0_1), .val (.int (6 : Int32)), .val (.int (4 : Int32)), .val (.ref w_NOTES)]) rfl kk) ?_
  refine ob T10 (mkF mG 9 #[.val (.int (5 : Int32)), .val (.ref b0_1), .val (.int (6 : Int32)), .val (.int (4 : Int32)), .val (.ref w_NOTES)] []) (fun _ kk => XS.goto X10.here hx rfl (pc0 := 34) (pc' := 9) rfl (hb hby d1_34) (by decide) (by decide) kk) ?_
  refine ob T10 (mkF mG 10 #[.val (.int (5 : Int32)), .val (.ref b0_1), .val (.int (6 : Int32)), .val (.int (4 : Int32)), .val (.ref w_NOTES)] [(.int (4 : Int32))]) (fun _ kk => XS.iloadN X10.here hx rfl (hb hby d1_9) rfl kk) ?_
  refine ob T10 (mkF mG 11 #[.val (.int (5 : Int32)), .val (.ref b0_1), .val (.int (6 : Int32)), .val (.int (4 : Int32)), .val (.ref w_NOTES)] [(.int (6 : Int32)), (.int (4 : Int32))]) (fun _ kk => XS.iloadN X10.here hx rfl (hb hby d1_10) rfl kk) ?_
  refine ob T10 (mkF mG 14 #[.val (.int (5 : Int32)), .val (.ref b0_1), .val (.int (6 : Int32)), .val (.int (4 : Int32)), .val (.ref w_NOTES)] []) (fun _ kk => XS.icmpNo X10.here hx rfl (hb hby d1_11) rfl (tlt (by decide : (4 : Int32) < (6 : Int32))).2.1 kk) ?_
  refine ob T10 (mkF mG 15 #[.val (.int (5 : Int32)), .val (.ref b0_1), .val (.int (6 : Int32)), .val (.int (4 : Int32)), .val (.ref w_NOTES)] [(.ref b0_1)]) (fun _ kk => XS.aloadN X10.here hx rfl (hb hby d1_14) rfl rfl kk) ?_
  refine ob T10 (mkF mG 16 #[.val (.int (5 : Int32)), .val (.ref b0_1), .val (.int (6 : Int32)), .val (.int (4 : Int32)), .val (.ref w_NOTES)] [(.int (4 : Int32)), (.ref b0_1)]) (fun _ kk => XS.iloadN X10.here hx rfl (hb hby d1_15) rfl kk) ?_
  obtain ⟨cl11, Ar11, -, S11, N11a, H11, -⟩ := id F1_1
  have hin11 : ¬ ((4 : Int32) < 0 ∨ cl11.slots.size ≤ ((4 : Int32)).toNatClampNeg) := inb_of S11 ⟨by decide, by decide⟩
  refine ob T10 (mkF mG 17 #[.val (.int (5 : Int32)), .val (.ref b0_1), .val (.int (6 : Int32)), .val (.int (4 : Int32)), .val (.ref w_NOTES)] [(.ref w_OTHER)]) (fun _ kk => X10.aaload hx (j := (4 : Int32)) (v := (.ref w_OTHER)) (by rw [e10]; exact Ar11.1) (State.isArrayOf_alike hZ.alike Ar11.2.1) rfl Ar11.2.2 hin11 (Has.at H11 hin11 rfl) (g := (mkF mG 16 #[.val (.int (5 : Int32)), .val (.ref b0_1), .val (.int (6 : Int32)), .val (.int (4 : Int32)), .val (.ref w_NOTES)] [(.int (4 : Int32)), (.ref b0_1)])) rfl rfl (hb hby d1_16) _ kk) ?_
  refine ob T10 (mkF mG 19 #[.val (.int (5 : Int32)), .val (.ref b0_1), .val (.int (6 : Int32)), .val (.int (4 : Int32)), .val (.ref w_OTHER)] []) (fun _ kk => XS.astore X10.here hx rfl (hb hby d1_17) rfl rfl (l' := #[.val (.int (5 : Int32)), .val (.ref b0_1), .val (.int (6 : Int32)), .val (.int (4 : Int32)), .val (.ref w_OTHER)]) rfl kk) ?_
  refine ob T10 (mkF mG 21 #[.val (.int (5 : Int32)), .val (.ref b0_1), .val (.int (6 : Int32)), .val (.int (4 : Int32)), .val (.ref w_OTHER)] [(.ref w_OTHER)]) (fun _ kk => XS.aload X10.here hx rfl (hb hby d1_19) rfl rfl kk) ?_
  obtain ⟨T12, X12, e12, st12⟩ := getF X10 hx hZ hown (host := "") (Or.inl (ow hw 25 rfl)) Via.refl e10 (F_w_OTHER_number.ext O1.2) (g := (mkF mG 21 #[.val (.int (5 : Int32)), .val (.ref b0_1), .val (.int (6 : Int32)), .val (.int (4 : Int32)), .val (.ref w_OTHER)] [(.ref w_OTHER)])) rfl rfl (hb hby d1_21)
  refine ob T12 (mkF mG 24 #[.val (.int (5 : Int32)), .val (.ref b0_1), .val (.int (6 : Int32)), .val (.int (4 : Int32)), .val (.ref w_OTHER)] [(.int (5 : Int32))]) (fun _ kk => st12 _ kk) ?_
  refine ob T12 (mkF mG 25 #[.val (.int (5 : Int32)), .val (.ref b0_1), .val (.int (6 : Int32)), .val (.int (4 : Int32)), .val (.ref w_OTHER)] [(.int (5 : Int32)), (.int (5 : Int32))]) (fun _ kk => XS.iloadN X12.here hx rfl (hb hby d1_24) rfl kk) ?_
  refine ob T12 (mkF mG 28 #[.val (.int (5 : Int32)), .val (.ref b0_1), .val (.int (6 : Int32)), .val (.int (4 : Int32)), .val (.ref w_OTHER)] []) (fun _ kk => XS.icmpNo X12.here hx rfl (hb hby d1_25) rfl (teq (by decide : (5 : Int32) = (5 : Int32))).2 kk) ?_
  refine ob T12 (mkF mG 30 #[.val (.int (5 : Int32)), .val (.ref b0_1), .val (.int (6 : Int32)), .val (.int (4 : Int32)), .val (.ref w_OTHER)] [(.ref w_OTHER)]) (fun _ kk => XS.aload X12.here hx rfl (hb hby d1_28) rfl rfl kk) ?_
  obtain ⟨fs, hr, hrun, hended, hW, hsame⟩ := X12.leave (v := some (.ref w_OTHER)) (fun h => by rw [Bd.returns] at h; cases h)
  refine oout (oretA X12 hx Bd.returns rfl rfl (hb hby d1_30) hr) hrun hended ⟨_, _, rfl, ?_, ⟨_, rfl⟩, hW, hsame.mono (by decide) (by decide)⟩
  show Q_rm_of5 Z w_IMAGE_600 w_THUMBNAIL w_PAGE_TEXT w_NOTES w_OTHER w_IMAGE_300 w_VALUES c_VALUES  h0 n0 _ T12.heap _
  rw [e12]
  exact ⟨rfl, N1, K1, O1⟩

theorem d3_36 : decode method_3_code 36 = .ok (.iload_n 0, 1) := by decide +kernel
theorem d3_37 : decode method_3_code 37 = .ok (.iconst 5, 1) := by decide +kernel
theorem d3_38 : decode method_3_code 38 = .ok (.if_icmp .ne 7, 3) := by decide +kernel
theorem d3_41 : decode method_3_code 41 = .ok (.getstatic 31, 3) := by decide +kernel
theorem d3_44 : decode method_3_code 44 = .ok (.areturn, 1) := by decide +kernel
def Q_rm_ex5 (Z : State) (w_IMAGE_600 : Addr) (w_THUMBNAIL : Addr) (w_PAGE_TEXT : Addr) (w_NOTES : Addr) (w_OTHER : Addr) (w_IMAGE_300 : Addr) (w_VALUES : Addr) (c_VALUES : Cell)  (h0 : Heap) (n0 : Nat) (v : Option Value) (h : Heap) (L : List Loc) : Prop := v = some (.ref w_OTHER) ∧ Fr n0 L ∧ h = h0
set_option maxRecDepth 65536 in
set_option maxHeartbeats 40000000 in
theorem rm_ex5 (l : Launch) (Z : State) (a0 : Array Value) (hw : ∀ d ∈ tables_1, d.before a0 Z = true) (ws : List Jvm.Cond) (w_IMAGE_600 : Addr) (w_THUMBNAIL : Addr) (w_PAGE_TEXT : Addr) (w_NOTES : Addr) (w_OTHER : Addr) (w_IMAGE_300 : Addr) (w_VALUES : Addr) (c_VALUES : Cell)  (h0 : Heap) (n0 : Nat) (O0 : Old Z n0 h0) (hS : St0 Z w_IMAGE_600 w_THUMBNAIL w_PAGE_TEXT w_NOTES w_OTHER w_IMAGE_300 w_VALUES c_VALUES ) :
    MetFree l (⟨"com/example/carrel/carrel/document/FileTypeOfPinLaw", "expected", "(I)Lcom/example/carrel/carrel/document/BoundDocument$FileType;"⟩ : MethodName) (head1 (Jvm.Cond.code (⟨"com/example/carrel/carrel/document/FileTypeOfPinLaw", "expected", "(I)Lcom/example/carrel/carrel/document/BoundDocument$FileType;"⟩ : MethodName) method_3_code 1 (some (.object "com/example/carrel/carrel/document/BoundDocument$FileType")) :: ws) ({ frames := 0, cells := 0, slots := 0, locals := 0 } : Room)) (fun aG UG => aG = #[(.int (5 : Int32))] ∧ Z.Warmed39 UG.vm ∧ UG.heap = h0) (fun _ _ _ _ _ => True) (fun _ UG oG UG' => ∃ vG LG, oG = .returned vG ∧ Q_rm_ex5 Z w_IMAGE_600 w_THUMBNAIL w_PAGE_TEXT w_NOTES w_OTHER w_IMAGE_300 w_VALUES c_VALUES  h0 n0 vG UG'.heap LG ∧ FrameEnd UG oG UG' LG ({ frames := 0, cells := 0, slots := 0, locals := 0 } : Room).cells ({ frames := 0, cells := 0, slots := 0, locals := 0 } : Room).slots) := by
  refine MetFree.of_bodySF (plainFor_of_name pn_1) hisR ?_
  intro pG eG sG mG argsG belowG methG cG s₁ Bd hml0 hP hK
  obtain ⟨rfl, hZ, hh⟩ := hP
  have hx := Bd.exec
  have hby := Bd.bytes
  have hml : cG.maxLocals = 1 := hml0
  have hown : sG.vm.findClass "com/example/carrel/carrel/document/FileTypeOfPinLaw" = some mG.cls := findClass_of_methodNamed Bd.named
  have hnm := (name_of_methodNamed Bd.named Bd.method).1
  have X0 : Stand pG l eG ({ frames := 0, cells := 0, slots := 0, locals := 0 } : Room) sG mG #[(.int (5 : Int32))] belowG methG cG s₁ [] 0 0 := Stand.of_body Bd
  have e0 : s₁.heap = h0 := by rw [← hh, Bd.state]; rfl
  have N0 := Fr.nil n0
  have K0 := Keep.refl h0 []
  obtain ⟨S_w_IMAGE_600, E_w_IMAGE_600, S_w_THUMBNAIL, E_w_THUMBNAIL, S_w_PAGE_TEXT, E_w_PAGE_TEXT, S_w_NOTES, E_w_NOTES, S_w_OTHER, E_w_OTHER, S_w_IMAGE_300, E_w_IMAGE_300, S_w_VALUES, E_w_VALUES, V_w_VALUES, F_w_IMAGE_600_number, F_w_THUMBNAIL_number, F_w_PAGE_TEXT_number, F_w_NOTES_number, F_w_OTHER_number, F_w_IMAGE_300_number, ne_w_IMAGE_600_w_THUMBNAIL, ne_w_IMAGE_600_w_PAGE_TEXT, ne_w_IMAGE_600_w_NOTES, ne_w_IMAGE_600_w_OTHER, ne_w_IMAGE_600_w_IMAGE_300, ne_w_THUMBNAIL_w_PAGE_TEXT, ne_w_THUMBNAIL_w_NOTES, ne_w_THUMBNAIL_w_OTHER, ne_w_THUMBNAIL_w_IMAGE_300, ne_w_PAGE_TEXT_w_NOTES, ne_w_PAGE_TEXT_w_OTHER, ne_w_PAGE_TEXT_w_IMAGE_300, ne_w_NOTES_w_OTHER, ne_w_NOTES_w_IMAGE_300, ne_w_OTHER_w_IMAGE_300⟩ := (id hS : St0 Z w_IMAGE_600 w_THUMBNAIL w_PAGE_TEXT w_NOTES w_OTHER w_IMAGE_300 w_VALUES c_VALUES )
  refine ostart (g' := (mkF mG 0 #[.val (.int (5 : Int32))] [])) (by first | (simp [entryFrame, mkF, argsToLocals, Value.category]; done) | rfl) ?_
  refine ob s₁ (mkF mG 1 #[.val (.int (5 : Int32))] [(.int (5 : Int32))]) (fun _ kk => XS.iloadN X0.here hx rfl (hb hby d3_0) rfl kk) ?_
  refine ob s₁ (mkF mG 2 #[.val (.int (5 : Int32))] [(.int (1 : Int32)), (.int (5 : Int32))]) (fun _ kk => XS.iconst X0.here hx rfl (hb hby d3_1) kk) ?_
  refine ob s₁ (mkF mG 9 #[.val (.int (5 : Int32))] []) (fun _ kk => XS.icmpYes X0.here hx rfl (pc0 := 2) (pc' := 9) rfl (hb hby d3_2) rfl (feq (by decide : ¬ ((5 : Int32) = (1 : Int32)))).2 (by decide) (by decide) kk) ?_
  refine ob s₁ (mkF mG 10 #[.val (.int (5 : Int32))] [(.int (5 : Int32))]) (fun _ kk => XS.iloadN X0.here hx rfl (hb hby d3_9) rfl kk) ?_
  refine ob s₁ (mkF mG 11 #[.val (.int (5 : Int32))] [(.int (2 : Int32)), (.int (5 : Int32))]) (fun _ kk => XS.iconst X0.here hx rfl (hb hby d3_10) kk) ?_
  refine ob s₁ (mkF mG 18 #[.val (.int (5 : Int32))] []) (fun _ kk => XS.icmpYes X0.here hx rfl (pc0 := 11) (pc' := 18) rfl (hb hby d3_11) rfl (feq (by decide : ¬ ((5 : Int32) = (2 : Int32)))).2 (by decide) (by decide) kk) ?_
  refine ob s₁ (mkF mG 19 #[.val (.int (5 : Int32))] [(.int (5 : Int32))]) (fun _ kk => XS.iloadN X0.here hx rfl (hb hby d3_18) rfl kk) ?_
  refine ob s₁ (mkF mG 20 #[.val (.int (5 : Int32))] [(.int (3 : Int32)), (.int (5 : Int32))]) (fun _ kk => XS.iconst X0.here hx rfl (hb hby d3_19) kk) ?_
  refine ob s₁ (mkF mG 27 #[.val (.int (5 : Int32))] []) (fun _ kk => XS.icmpYes X0.here hx rfl (pc0 := 20) (pc' := 27) rfl (hb hby d3_20) rfl (feq (by decide : ¬ ((5 : Int32) = (3 : Int32)))).2 (by decide) (by decide) kk) ?_
  refine ob s₁ (mkF mG 28 #[.val (.int (5 : Int32))] [(.int (5 : Int32))]) (fun _ kk => XS.iloadN X0.here hx rfl (hb hby d3_27) rfl kk) ?_
  refine ob s₁ (mkF mG 29 #[.val (.int (5 : Int32))] [(.int (4 : Int32)), (.int (5 : Int32))]) (fun _ kk => XS.iconst X0.here hx rfl (hb hby d3_28) kk) ?_
  refine ob s₁ (mkF mG 36 #[.val (.int (5 : Int32))] []) (fun _ kk => XS.icmpYes X0.here hx rfl (pc0 := 29) (pc' := 36) rfl (hb hby d3_29) rfl (feq (by decide : ¬ ((5 : Int32) = (4 : Int32)))).2 (by decide) (by decide) kk) ?_
  refine ob s₁ (mkF mG 37 #[.val (.int (5 : Int32))] [(.int (5 : Int32))]) (fun _ kk => XS.iloadN X0.here hx rfl (hb hby d3_36) rfl kk) ?_
  refine ob s₁ (mkF mG 38 #[.val (.int (5 : Int32))] [(.int (5 : Int32)), (.int (5 : Int32))]) (fun _ kk => XS.iconst X0.here hx rfl (hb hby d3_37) kk) ?_
  refine ob s₁ (mkF mG 41 #[.val (.int (5 : Int32))] []) (fun _ kk => XS.icmpNo X0.here hx rfl (hb hby d3_38) rfl (teq (by decide : (5 : Int32) = (5 : Int32))).2 kk) ?_
  obtain ⟨T1, X1, e1, st1⟩ := getS2 X0 hx hZ hown (host := "") (Or.inl (ow hw 35 rfl)) Via.refl e0 (S_w_OTHER.ext O0.2) (g := (mkF mG 41 #[.val (.int (5 : Int32))] [])) rfl (hb hby d3_41)
  refine ob T1 (mkF mG 44 #[.val (.int (5 : Int32))] [(.ref w_OTHER)]) (fun _ kk => st1 _ kk) ?_
  obtain ⟨fs, hr, hrun, hended, hW, hsame⟩ := X1.leave (v := some (.ref w_OTHER)) (fun h => by rw [Bd.returns] at h; cases h)
  refine oout (oretA X1 hx Bd.returns rfl rfl (hb hby d3_44) hr) hrun hended ⟨_, _, rfl, ?_, ⟨_, rfl⟩, hW, hsame.mono (by decide) (by decide)⟩
  show Q_rm_ex5 Z w_IMAGE_600 w_THUMBNAIL w_PAGE_TEXT w_NOTES w_OTHER w_IMAGE_300 w_VALUES c_VALUES  h0 n0 _ T1.heap _
  rw [e1]
  exact ⟨rfl, N0, rfl⟩

def Q_rm_of6 (Z : State) (w_IMAGE_600 : Addr) (w_THUMBNAIL : Addr) (w_PAGE_TEXT : Addr) (w_NOTES : Addr) (w_OTHER : Addr) (w_IMAGE_300 : Addr) (w_VALUES : Addr) (c_VALUES : Cell)  (h0 : Heap) (n0 : Nat) (v : Option Value) (h : Heap) (L : List Loc) : Prop := v = some (.ref w_IMAGE_300) ∧ Fr n0 L ∧ Keep h0 h [] ∧ Old Z n0 h
set_option maxRecDepth 65536 in
set_option maxHeartbeats 40000000 in
theorem rm_of6 (l : Launch) (Z : State) (a0 : Array Value) (hw : ∀ d ∈ tables_1, d.before a0 Z = true) (ws : List Jvm.Cond) (w_IMAGE_600 : Addr) (w_THUMBNAIL : Addr) (w_PAGE_TEXT : Addr) (w_NOTES : Addr) (w_OTHER : Addr) (w_IMAGE_300 : Addr) (w_VALUES : Addr) (c_VALUES : Cell)  (h0 : Heap) (n0 : Nat) (O0 : Old Z n0 h0) (hS : St0 Z w_IMAGE_600 w_THUMBNAIL w_PAGE_TEXT w_NOTES w_OTHER w_IMAGE_300 w_VALUES c_VALUES ) :
    MetFree l (⟨"com/example/carrel/carrel/document/BoundDocument$FileType", "of", "(I)Lcom/example/carrel/carrel/document/BoundDocument$FileType;"⟩ : MethodName) (head1 (Jvm.Cond.code (⟨"com/example/carrel/carrel/document/BoundDocument$FileType", "of", "(I)Lcom/example/carrel/carrel/document/BoundDocument$FileType;"⟩ : MethodName) prog_15_method_6_code 5 (some (.object "com/example/carrel/carrel/document/BoundDocument$FileType")) :: ws) ({ frames := 2, cells := 1, slots := 6, locals := 25 } : Room)) (fun aG UG => aG = #[(.int (6 : Int32))] ∧ Z.Warmed39 UG.vm ∧ UG.heap = h0) (fun _ _ _ _ _ => True) (fun _ UG oG UG' => ∃ vG LG, oG = .returned vG ∧ Q_rm_of6 Z w_IMAGE_600 w_THUMBNAIL w_PAGE_TEXT w_NOTES w_OTHER w_IMAGE_300 w_VALUES c_VALUES  h0 n0 vG UG'.heap LG ∧ FrameEnd UG oG UG' LG ({ frames := 2, cells := 1, slots := 6, locals := 25 } : Room).cells ({ frames := 2, cells := 1, slots := 6, locals := 25 } : Room).slots) := by
  refine MetFree.of_bodySF (plainFor_of_name pn_0) hisR ?_
  intro pG eG sG mG argsG belowG methG cG s₁ Bd hml0 hP hK
  obtain ⟨rfl, hZ, hh⟩ := hP
  have hx := Bd.exec
  have hby := Bd.bytes
  have hml : cG.maxLocals = 5 := hml0
  have hown : sG.vm.findClass "com/example/carrel/carrel/document/BoundDocument$FileType" = some mG.cls := findClass_of_methodNamed Bd.named
  have hnm := (name_of_methodNamed Bd.named Bd.method).1
  have X0 : Stand pG l eG ({ frames := 2, cells := 1, slots := 6, locals := 25 } : Room) sG mG #[(.int (6 : Int32))] belowG methG cG s₁ [] 0 0 := Stand.of_body Bd
  have e0 : s₁.heap = h0 := by rw [← hh, Bd.state]; rfl
  have N0 := Fr.nil n0
  have K0 := Keep.refl h0 []
  obtain ⟨S_w_IMAGE_600, E_w_IMAGE_600, S_w_THUMBNAIL, E_w_THUMBNAIL, S_w_PAGE_TEXT, E_w_PAGE_TEXT, S_w_NOTES, E_w_NOTES, S_w_OTHER, E_w_OTHER, S_w_IMAGE_300, E_w_IMAGE_300, S_w_VALUES, E_w_VALUES, V_w_VALUES, F_w_IMAGE_600_number, F_w_THUMBNAIL_number, F_w_PAGE_TEXT_number, F_w_NOTES_number, F_w_OTHER_number, F_w_IMAGE_300_number, ne_w_IMAGE_600_w_THUMBNAIL, ne_w_IMAGE_600_w_PAGE_TEXT, ne_w_IMAGE_600_w_NOTES, ne_w_IMAGE_600_w_OTHER, ne_w_IMAGE_600_w_IMAGE_300, ne_w_THUMBNAIL_w_PAGE_TEXT, ne_w_THUMBNAIL_w_NOTES, ne_w_THUMBNAIL_w_OTHER, ne_w_THUMBNAIL_w_IMAGE_300, ne_w_PAGE_TEXT_w_NOTES, ne_w_PAGE_TEXT_w_OTHER, ne_w_PAGE_TEXT_w_IMAGE_300, ne_w_NOTES_w_OTHER, ne_w_NOTES_w_IMAGE_300, ne_w_OTHER_w_IMAGE_300⟩ := (id hS : St0 Z w_IMAGE_600 w_THUMBNAIL w_PAGE_TEXT w_NOTES w_OTHER w_IMAGE_300 w_VALUES c_VALUES )
  refine ostart (g' := (mkF mG 0 #[.val (.int (6 : Int32)), .unset, .unset, .unset, .unset] [])) (by first | (simp [entryFrame, mkF, argsToLocals, Value.category]; done) | rfl) ?_
  obtain ⟨_, _, ⟨T1, L1, k1, n1⟩, -, X1, ⟨Lc1, hQ1, l1, y1, z1⟩, st1⟩ := Jvm.LawKit.callS X0 hx (y := (⟨"com/example/carrel/carrel/document/BoundDocument$FileType", "values", "()[Lcom/example/carrel/carrel/document/BoundDocument$FileType;"⟩ : MethodName)) hown (mvT hZ (ow hw 4 rfl)) (mvT hZ (ow hw 5 rfl)) (mvT hZ (ow hw 2 rfl)) (mvT hZ (ow hw 6 rfl)) (by decide) (backOf (W := 0) (rm_values l Z a0 hw [] w_IMAGE_600 w_THUMBNAIL w_PAGE_TEXT w_NOTES w_OTHER w_IMAGE_300 w_VALUES c_VALUES  h0 n0 O0 hS ) hZ (ow hw 6 rfl) (ow hw 2 rfl) (by decide) (by decide)) (g := (mkF mG 0 #[.val (.int (6 : Int32)), .unset, .unset, .unset, .unset] [])) rfl (by rw [hml]; rfl) (argsL := []) (rest := []) (lenOf pd_0 rfl) rfl (by show 2 * 0 + _ ≤ _; exact Nat.le_of_eq rfl) (hb hby d1_0) (fun _ _ => ⟨rfl, e0, (by decide : 0 + 1 ≤ _), (by decide : 0 + 6 ≤ _)⟩)
  dsimp only [Pt.U, Pt.locs, Pt.cells, Pt.slots] at X1 l1 y1 z1 st1 hQ1
  subst l1 y1 z1
  obtain ⟨h1, e1⟩ : ∃ h, T1.heap = h := ⟨_, rfl⟩
  rw [e1] at hQ1
  obtain ⟨b0_1, rfl, N1q, K1q, O1, n_b0_1, z_b0_1, F1_0, F1_1⟩ := hQ1
  have N1 := Fr.app N0 N1q
  have sz_b0_1 : h0.size ≤ b0_1 := Nat.le_trans K0.1 z_b0_1
  have K1 := K0.trans K1q all0
  refine ob T1 (mkF mG 3 #[.val (.int (6 : Int32)), .unset, .unset, .unset, .unset] [(.ref b0_1)]) (fun _ kk => st1 _ kk) ?_
  refine ob T1 (mkF mG 4 #[.val (.int (6 : Int32)), .val (.ref b0_1), .unset, .unset, .unset] []) (fun _ kk => XS.astoreN X1.here hx rfl (hb hby d1_3) rfl rfl (l' := #[.val (.int (6 : Int32)), .val (.ref b0_1), .unset, .unset, .unset]) rfl kk) ?_
  refine ob T1 (mkF mG 5 #[.val (.int (6 : Int32)), .val (.ref b0_1), .unset, .unset, .unset] [(.ref b0_1)]) (fun _ kk => XS.aloadN X1.here hx rfl (hb hby d1_4) rfl rfl kk) ?_
  obtain ⟨cl2, Ar2, -, S2, N2a, -, -⟩ := id F1_1
  refine oby (T' := T1) (g' := (mkF mG 6 #[.val (.int (6 : Int32)), .val (.ref b0_1), .unset, .unset, .unset] [(.int (6 : Int32))])) (fun ot ok => X1.arraylength hx (by rw [e1]; exact Ar2.1) (State.isArrayOf_alike hZ.alike Ar2.2.1) (g := (mkF mG 5 #[.val (.int (6 : Int32)), .val (.ref b0_1), .unset, .unset, .unset] [(.ref b0_1)])) rfl rfl (hb hby d1_5) _ (by rw [len_of S2 N2a]; exact ok)) ?_
  refine ob T1 (mkF mG 7 #[.val (.int (6 : Int32)), .val (.ref b0_1), .val (.int (6 : Int32)), .unset, .unset] []) (fun _ kk => XS.istoreN X1.here hx rfl (hb hby d1_6) rfl (l' := #[.val (.int (6 : Int32)), .val (.ref b0_1), .val (.int (6 : Int32)), .unset, .unset]) rfl kk) ?_
  refine ob T1 (mkF mG 8 #[.val (.int (6 : Int32)), .val (.ref b0_1), .val (.int (6 : Int32)), .unset, .unset] [(.int (0 : Int32))]) (fun _ kk => XS.iconst X1.here hx rfl (hb hby d1_7) kk) ?_
  refine ob T1 (mkF mG 9 #[.val (.int (6 : Int32)), .val (.ref b0_1), .val (.int (6 : Int32)), .val (.int (0 : Int32)), .unset] []) (fun _ kk => XS.istoreN X1.here hx rfl (hb hby d1_8) rfl (l' := #[.val (.int (6 : Int32)), .val (.ref b0_1), .val (.int (6 : Int32)), .val (.int (0 : Int32)), .unset]) rfl kk) ?_
  refine ob T1 (mkF mG 10 #[.val (.int (6 : Int32)), .val (.ref b0_1), .val (.int (6 : Int32)), .val (.int (0 : Int32)), .unset] [(.int (0 : Int32))]) (fun _ kk => XS.iloadN X1.here hx rfl (hb hby d1_9) rfl kk) ?_
  refine ob T1 (mkF mG 11 #[.val (.int (6 : Int32)), .val (.ref b0_1), .val (.int (6 : Int32)), .val (.int (0 : Int32)), .unset] [(.int (6 : Int32)), (.int (0 : Int32))]) (fun _ kk => XS.iloadN X1.here hx rfl (hb hby d1_10) rfl kk) ?_
  refine ob T1 (mkF mG 14 #[.val (.int (6 : Int32)), .val (.ref b0_1), .val (.int (6 : Int32)), .val (.int (0 : Int32)), .unset] []) (fun _ kk => XS.icmpNo X1.here hx rfl (hb hby d1_11) rfl (tlt (by decide : (0 : Int32) < (6 : Int32))).2.1 kk) ?_
  refine ob T1 (mkF mG 15 #[.val (.int (6 : Int32)), .val (.ref b0_1), .val (.int (6 : Int32)), .val (.int (0 : Int32)), .unset] [(.ref b0_1)]) (fun _ kk => XS.aloadN X1.here hx rfl (hb hby d1_14) rfl rfl kk) ?_
  refine ob T1 (mkF mG 16 #[.val (.int (6 : Int32)), .val (.ref b0_1), .val (.int (6 : Int32)), .val (.int (0 : Int32)), .unset] [(.int (0 : Int32)), (.ref b0_1)]) (fun _ kk => XS.iloadN X1.here hx rfl (hb hby d1_15) rfl kk) ?_
  obtain ⟨cl3, Ar3, -, S3, N3a, H3, -⟩ := id F1_1
  have hin3 : ¬ ((0 : Int32) < 0 ∨ cl3.slots.size ≤ ((0 : Int32)).toNatClampNeg) := inb_of S3 ⟨by decide, by decide⟩
  refine ob T1 (mkF mG 17 #[.val (.int (6 : Int32)), .val (.ref b0_1), .val (.int (6 : Int32)), .val (.int (0 : Int32)), .unset] [(.ref w_IMAGE_600)]) (fun _ kk => X1.aaload hx (j := (0 : Int32)) (v := (.ref w_IMAGE_600)) (by rw [e1]; exact Ar3.1) (State.isArrayOf_alike hZ.alike Ar3.2.1) rfl Ar3.2.2 hin3 (Has.at H3 hin3 rfl) (g := (mkF mG 16 #[.val (.int (6 : Int32)), .val (.ref b0_1), .val (.int (6 : Int32)), .val (.int (0 : Int32)), .unset] [(.int (0 : Int32)), (.ref b0_1)])) rfl rfl (hb hby d1_16) _ kk) ?_
  refine ob T1 (mkF mG 19 #[.val (.int (6 : Int32)), .val (.ref b0_1), .val (.int (6 : Int32)), .val (.int (0 : Int32)), .val (.ref w_IMAGE_600)] []) (fun _ kk => XS.astore X1.here hx rfl (hb hby d1_17) rfl rfl (l' := #[.val (.int (6 : Int32)), .val (.ref b0_1), .val (.int (6 : Int32)), .val (.int (0 : Int32)), .val (.ref w_IMAGE_600)]) rfl kk) ?_
  refine ob T1 (mkF mG 21 #[.val (.int (6 : Int32)), .val (.ref b0_1), .val (.int (6 : Int32)), .val (.int (0 : Int32)), .val (.ref w_IMAGE_600)] [(.ref w_IMAGE_600)]) (fun _ kk => XS.aload X1.here hx rfl (hb hby d1_19) rfl rfl kk) ?_
  obtain ⟨T4, X4, e4, st4⟩ := getF X1 hx hZ hown (host := "") (Or.inl (ow hw 25 rfl)) Via.refl e1 (F_w_IMAGE_600_number.ext O1.2) (g := (mkF mG 21 #[.val (.int (6 : Int32)), .val (.ref b0_1), .val (.int (6 : Int32)), .val (.int (0 : Int32)), .val (.ref w_IMAGE_600)] [(.ref w_IMAGE_600)])) rfl rfl (hb hby d1_21)
  refine ob T4 (mkF mG 24 #[.val (.int (6 : Int32)), .val (.ref b0_1), .val (.int (6 : Int32)), .val (.int (0 : Int32)), .val (.ref w_IMAGE_600)] [(.int (1 : Int32))]) (fun _ kk => st4 _ kk) ?_
  refine ob T4 (mkF mG 25 #[.val (.int (6 : Int32)), .val (.ref b0_1), .val (.int (6 : Int32)), .val (.int (0 : Int32)), .val (.ref w_IMAGE_600)] [(.int (6 : Int32)), (.int (1 : Int32))]) (fun _ kk => XS.iloadN X4.here hx rfl (hb hby d1_24) rfl kk) ?_
  refine ob T4 (mkF mG 31 #[.val (.int (6 : Int32)), .val (.ref b0_1), .val (.int (6 : Int32)), .val (.int (0 : Int32)), .val (.ref w_IMAGE_600)] []) (fun _ kk => XS.icmpYes X4.here hx rfl (pc0 := 25) (pc' := 31) rfl (hb hby d1_25) rfl (feq (by decide : ¬ ((1 : Int32) = (6 : Int32)))).2 (by decide) (by decide) kk) ?_
  refine ob T4 (mkF mG 34 #[.val (.int (6 : Int32)), .val (.ref b0_1), .val (.int (6 : Int32)), .val (.int (1 : Int32)), .val (.ref w_IMAGE_600)] []) (fun _ kk => XS.iinc X4.here hx rfl (hb hby d1_31) rfl (l' := #[.val (.int (6 : Int32)), .val (.ref b0_1), .val (.int (6 : Int32)), .val (.int (1 : Int32)), .val (.ref w_IMAGE_600)]) rfl kk) ?_
  refine ob T4 (mkF mG 9 #[.val (.int (6 : Int32)), .val (.ref b0_1), .val (.int (6 : Int32)), .val (.int (1 : Int32)), .val (.ref w_IMAGE_600)] []) (fun _ kk => XS.goto X4.here hx rfl (pc0 := 34) (pc' := 9) rfl (hb hby d1_34) (by decide) (by decide) kk) ?_
  refine ob T4 (mkF mG 10 #[.val (.int (6 : Int32)), .val (.ref b0_1), .val (.int (6 : Int32)), .val (.int (1 : Int32)), .val (.ref w_IMAGE_600)] [(.int (1 : Int32))]) (fun _ kk => XS.iloadN X4.here hx rfl (hb hby d1_9) rfl kk) ?_
  refine ob T4 (mkF mG 11 #[.val (.int (6 : Int32)), .val (.ref b0_1), .val (.int (6 : Int32)), .val (.int (1 : Int32)), .val (.ref w_IMAGE_600)] [(.int (6 : Int32)), (.int (1 : Int32))]) (fun _ kk => XS.iloadN X4.here hx rfl (hb hby d1_10) rfl kk) ?_
  refine ob T4 (mkF mG 14 #[.val (.int (6 : Int32)), .val (.ref b0_1), .val (.int (6 : Int32)), .val (.int (1 : Int32)), .val (.ref w_IMAGE_600)] []) (fun _ kk => XS.icmpNo X4.here hx rfl (hb hby d1_11) rfl (tlt (by decide : (1 : Int32) < (6 : Int32))).2.1 kk) ?_
  refine ob T4 (mkF mG 15 #[.val (.int (6 : Int32)), .val (.ref b0_1), .val (.int (6 : Int32)), .val (.int (1 : Int32)), .val (.ref w_IMAGE_600)] [(.ref b0_1)]) (fun _ kk => XS.aloadN X4.here hx rfl (hb hby d1_14) rfl rfl kk) ?_
  refine ob T4 (mkF mG 16 #[.val (.int (6 : Int32)), .val (.ref b0_1), .val (.int (6 : Int32)), .val (.int (1 : Int32)), .val (.ref w_IMAGE_600)] [(.int (1 : Int32)), (.ref b0_1)]) (fun _ kk => XS.iloadN X4.here hx rfl (hb hby d1_15) rfl kk) ?_
  obtain ⟨cl5, Ar5, -, S5, N5a, H5, -⟩ := id F1_1
  have hin5 : ¬ ((1 : Int32) < 0 ∨ cl5.slots.size ≤ ((1 : Int32)).toNatClampNeg) := inb_of S5 ⟨by decide, by decide⟩
  refine ob T4 (mkF mG 17 #[.val (.int (6 : Int32)), .val (.ref b0_1), .val (.int (6 : Int32)), .val (.int (1 : Int32)), .val (.ref w_IMAGE_600)] [(.ref w_THUMBNAIL)]) (fun _ kk => X4.aaload hx (j := (1 : Int32)) (v := (.ref w_THUMBNAIL)) (by rw [e4]; exact Ar5.1) (State.isArrayOf_alike hZ.alike Ar5.2.1) rfl Ar5.2.2 hin5 (Has.at H5 hin5 rfl) (g := (mkF mG 16 #[.val (.int (6 : Int32)), .val (.ref b0_1), .val (.int (6 : Int32)), .val (.int (1 : Int32)), .val (.ref w_IMAGE_600)] [(.int (1 : Int32)), (.ref b0_1)])) rfl rfl (hb hby d1_16) _ kk) ?_
  refine ob T4 (mkF mG 19 #[.val (.int (6 : Int32)), .val (.ref b0_1), .val (.int (6 : Int32)), .val (.int (1 : Int32)), .val (.ref w_THUMBNAIL)] []) (fun _ kk => XS.astore X4.here hx rfl (hb hby d1_17) rfl rfl (l' := #[.val (.int (6 : Int32)), .val (.ref b0_1), .val (.int (6 : Int32)), .val (.int (1 : Int32)), .val (.ref w_THUMBNAIL)]) rfl kk) ?_
  refine ob T4 (mkF mG 21 #[.val (.int (6 : Int32)), .val (.ref b0_1), .val (.int (6 : Int32)), .val (.int (1 : Int32)), .val (.ref w_THUMBNAIL)] [(.ref w_THUMBNAIL)]) (fun _ kk => XS.aload X4.here hx rfl (hb hby d1_19) rfl rfl kk) ?_
  obtain ⟨T6, X6, e6, st6⟩ := getF X4 hx hZ hown (host := "") (Or.inl (ow hw 25 rfl)) Via.refl e4 (F_w_THUMBNAIL_number.ext O1.2) (g := (mkF mG 21 #[.val (.int (6 : Int32)), .val (.ref b0_1), .val (.int (6 : Int32)), .val (.int (1 : Int32)), .val (.ref w_THUMBNAIL)] [(.ref w_THUMBNAIL)])) rfl rfl (hb hby d1_21)
  refine ob T6 (mkF mG 24 #[.val (.int (6 : Int32)), .val (.ref b0_1), .val (.int (6 : Int32)), .val (.int (1 : Int32)), .val (.ref w_THUMBNAIL)] [(.int (2 : Int32))]) (fun _ kk => st6 _ kk) ?_
  refine ob T6 (mkF mG 25 #[.val (.int (6 : Int32)), .val (.ref b0_1), .val (.int (6 : Int32)), .val (.int (1 : Int32)), .val (.ref w_THUMBNAIL)] [(.int (6 : Int32)), (.int (2 : Int32))]) (fun _ kk => XS.iloadN X6.here hx rfl (hb hby d1_24) rfl kk) ?_
  refine ob T6 (mkF mG 31 #[.val (.int (6 : Int32)), .val (.ref b0_1), .val (.int (6 : Int32)), .val (.int (1 : Int32)), .val (.ref w_THUMBNAIL)] []) (fun _ kk => XS.icmpYes X6.here hx rfl (pc0 := 25) (pc' := 31) rfl (hb hby d1_25) rfl (feq (by decide : ¬ ((2 : Int32) = (6 : Int32)))).2 (by decide) (by decide) kk) ?_
  refine ob T6 (mkF mG 34 #[.val (.int (6 : Int32)), .val (.ref b0_1), .val (.int (6 : Int32)), .val (.int (2 : Int32)), .val (.ref w_THUMBNAIL)] []) (fun _ kk => XS.iinc X6.here hx rfl (hb hby d1_31) rfl (l' := #[.val (.int (6 : Int32)), .val (.ref b0_1), .val (.int (6 : Int32)), .val (.int (2 : Int32)), .val (.ref w_THUMBNAIL)]) rfl kk) ?_
  refine ob T6 (mkF mG 9 #[.val (.int (6 : Int32)), .val (.ref b0_1), .val (.int (6 : Int32)), .val (.int (2 : Int32)), .val (.ref w_THUMBNAIL)] []) (fun _ kk => XS.goto X6.here hx rfl (pc0 := 34) (pc' := 9) rfl (hb hby d1_34) (by decide) (by decide) kk) ?_
  refine ob T6 (mkF mG 10 #[.val (.int (6 : Int32)), .val (.ref b0_1), .val (.int (6 : Int32)), .val (.int (2 : Int32)), .val (.ref w_THUMBNAIL)] [(.int (2 : Int32))]) (fun _ kk => XS.iloadN X6.here hx rfl (hb hby d1_9) rfl kk) ?_
  refine ob T6 (mkF mG 11 #[.val (.int (6 : Int32)), .val (.ref b0_1), .val (.int (6 : Int32)), .val (.int (2 : Int32)), .val (.ref w_THUMBNAIL)] [(.int (6 : Int32)), (.int (2 : Int32))]) (fun _ kk => XS.iloadN X6.here hx rfl (hb hby d1_10) rfl kk) ?_
  refine ob T6 (mkF mG 14 #[.val (.int (6 : Int32)), .val (.ref b0_1), .val (.int (6 : Int32)), .val (.int (2 : Int32)), .val (.ref w_THUMBNAIL)] []) (fun _ kk => XS.icmpNo X6.here hx rfl (hb hby d1_11) rfl (tlt (by decide : (2 : Int32) < (6 : Int32))).2.1 kk) ?_
  refine ob T6 (mkF mG 15 #[.val (.int (6 : Int32)), .val (.ref b0_1), .val (.int (6 : Int32)), .val (.int (2 : Int32)), .val (.ref w_THUMBNAIL)] [(.ref b0_1)]) (fun _ kk => XS.aloadN X6.here hx rfl (hb hby d1_14) rfl rfl kk) ?_
  refine ob T6 (mkF mG 16 #[.val (.int (6 : Int32)), .val (.ref b0_1), .val (.int (6 : Int32)), .val (.int (2 : Int32)), .val (.ref w_THUMBNAIL)] [(.int (2 : Int32)), (.ref b0_1)]) (fun _ kk => XS.iloadN X6.here hx rfl (hb hby d1_15) rfl kk) ?_
  obtain ⟨cl7, Ar7, -, S7, N7a, H7, -⟩ := id F1_1
  have hin7 : ¬ ((2 : Int32) < 0 ∨ cl7.slots.size ≤ ((2 : Int32)).toNatClampNeg) := inb_of S7 ⟨by decide, by decide⟩
  refine ob T6 (mkF mG 17 #[.val (.int (6 : Int32)), .val (.ref b0_1), .val (.int (6 : Int32)), .val (.int (2 : Int32)), .val (.ref w_THUMBNAIL)] [(.ref w_PAGE_TEXT)]) (fun _ kk => X6.aaload hx (j := (2 : Int32)) (v := (.ref w_PAGE_TEXT)) (by rw [e6]; exact Ar7.1) (State.isArrayOf_alike hZ.alike Ar7.2.1) rfl Ar7.2.2 hin7 (Has.at H7 hin7 rfl) (g := (mkF mG 16 #[.val (.int (6 : Int32)), .val (.ref b0_1), .val (.int (6 : Int32)), .val (.int (2 : Int32)), .val (.ref w_THUMBNAIL)] [(.int (2 : Int32)), (.ref b0_1)])) rfl rfl (hb hby d1_16) _ kk) ?_
  refine ob T6 (mkF mG 19 #[.val (.int (6 : Int32)), .val (.ref b0_1), .val (.int (6 : Int32)), .val (.int (2 : Int32)), .val (.ref w_PAGE_TEXT)] []) (fun _ kk => XS.astore X6.here hx rfl (hb hby d1_17) rfl rfl (l' := #[.val (.int (6 : Int32)), .val (.ref b0_1), .val (.int (6 : Int32)), .val (.int (2 : Int32)), .val (.ref w_PAGE_TEXT)]) rfl kk) ?_
  refine ob T6 (mkF mG 21 #[.val (.int (6 : Int32)), .val (.ref b0_1), .val (.int (6 : Int32)), .val (.int (2 : Int32)), .val (.ref w_PAGE_TEXT)] [(.ref w_PAGE_TEXT)]) (fun _ kk => XS.aload X6.here hx rfl (hb hby d1_19) rfl rfl kk) ?_
  obtain ⟨T8, X8, e8, st8⟩ := getF X6 hx hZ hown (host := "") (Or.inl (ow hw 25 rfl)) Via.refl e6 (F_w_PAGE_TEXT_number.ext O1.2) (g := (mkF mG 21 #[.val (.int (6 : Int32)), .val (.ref b0_1), .val (.int (6 : Int32)), .val (.int (2 : Int32)), .val (.ref w_PAGE_TEXT)] [(.ref w_PAGE_TEXT)])) rfl rfl (hb hby d1_21)
  refine ob T8 (mkF mG 24 #[.val (.int (6 : Int32)), .val (.ref b0_1), .val (.int (6 : Int32)), .val (.int (2 : Int32)), .val (.ref w_PAGE_TEXT)] [(.int (3 : Int32))]) (fun _ kk => st8 _ kk) ?_
  refine ob T8 (mkF mG 25 #[.val (.int (6 : Int32)), .val (.ref b0_1), .val (.int (6 : Int32)), .val (.int (2 : Int32)), .val (.ref w_PAGE_TEXT)] [(.int (6 : Int32)), (.int (3 : Int32))]) (fun _ kk => XS.iloadN X8.here hx rfl (hb hby d1_24) rfl kk) ?_
  refine ob T8 (mkF mG 31 #[.val (.int (6 : Int32)), .val (.ref b0_1), .val (.int (6 : Int32)), .val (.int (2 : Int32)), .val (.ref w_PAGE_TEXT)] []) (fun _ kk => XS.icmpYes X8.here hx rfl (pc0 := 25) (pc' := 31) rfl (hb hby d1_25) rfl (feq (by decide : ¬ ((3 : Int32) = (6 : Int32)))).2 (by decide) (by decide) kk) ?_
  refine ob T8 (mkF mG 34 #[.val (.int (6 : Int32)), .val (.ref b0_1), .val (.int (6 : Int32)), .val (.int (3 : Int32)), .val (.ref w_PAGE_TEXT)] []) (fun _ kk => XS.iinc X8.here hx rfl (hb hby d1_31) rfl (l' := #[.val (.int (6 : Int32)), .val (.ref b0_1), .val (.int (6 : Int32)), .val (.int (3 : Int32)), .val (.ref w_PAGE_TEXT)]) rfl kk) ?_
  refine ob T8 (mkF mG 9 #[.val (.int (6 : Int32)), .val (.ref b0_1), .val (.int (6 : Int32)), .val (.int (3 : Int32)), .val (.ref w_PAGE_TEXT)] []) (fun _ kk => XS.goto X8.here hx rfl (pc0 := 34) (pc' := 9) rfl (hb hby d1_34) (by decide) (by decide) kk) ?_
  refine ob T8 (mkF mG 10 #[.val (.int (6 : Int32)), .val (.ref b0_1), .val (.int (6 : Int32)), .val (.int (3 : Int32)), .val (.ref w_PAGE_TEXT)] [(.int (3 : Int32))]) (fun _ kk => XS.iloadN X8.here hx rfl (hb hby d1_9) rfl kk) ?_
  refine ob T8 (mkF mG 11 #[.val (.int (6 : Int32)), .val (.ref b0_1), .val (.int (6 : Int32)), .val (.int (3 : Int32)), .val (.ref w_PAGE_TEXT)] [(.int (6 : Int32)), (.int (3 : Int32))]) (fun _ kk => XS.iloadN X8.here hx rfl (hb hby d1_10) rfl kk) ?_
  refine ob T8 (mkF mG 14 #[.val (.int (6 : Int32)), .val (.ref b0_1), .val (.int (6 : Int32)), .val (.int (3 : Int32)), .val (.ref w_PAGE_TEXT)] []) (fun _ kk => XS.icmpNo X8.here hx rfl (hb hby d1_11) rfl (tlt (by decide : (3 : Int32) < (6 : Int32))).2.1 kk) ?_
  refine ob T8 (mkF mG 15 #[.val (.int (6 : Int32)), .val (.ref b0_1), .val (.int (6 : Int32)), .val (.int (3 : Int32)), .val (.ref w_PAGE_TEXT)] [(.ref b0_1)]) (fun _ kk => XS.aloadN X8.here hx rfl (hb hby d1_14) rfl rfl kk) ?_
  refine ob T8 (mkF mG 16 #[.val (.int (6 : Int32)), .val (.ref b0_1), .val (.int (6 : Int32)), .val (.int (3 : Int32)), .val (.ref w_PAGE_TEXT)] [(.int (3 : Int32)), (.ref b0_1)]) (fun _ kk => XS.iloadN X8.here hx rfl (hb hby d1_15) rfl kk) ?_
  obtain ⟨cl9, Ar9, -, S9, N9a, H9, -⟩ := id F1_1
  have hin9 : ¬ ((3 : Int32) < 0 ∨ cl9.slots.size ≤ ((3 : Int32)).toNatClampNeg) := inb_of S9 ⟨by decide, by decide⟩
  refine ob T8 (mkF mG 17 #[.val (.int (6 : Int32)), .val (.ref b0_1), .val (.int (6 : Int32)), .val (.int (3 : Int32)), .val (.ref w_PAGE_TEXT)] [(.ref w_NOTES)]) (fun _ kk => X8.aaload hx (j := (3 : Int32)) (v := (.ref w_NOTES)) (by rw [e8]; exact Ar9.1) (State.isArrayOf_alike hZ.alike Ar9.2.1) rfl Ar9.2.2 hin9 (Has.at H9 hin9 rfl) (g := (mkF mG 16 #[.val (.int (6 : Int32)), .val (.ref b0_1), .val (.int (6 : Int32)), .val (.int (3 : Int32)), .val (.ref w_PAGE_TEXT)] [(.int (3 : Int32)), (.ref b0_1)])) rfl rfl (hb hby d1_16) _ kk) ?_
  refine ob T8 (mkF mG 19 #[.val (.int (6 : Int32)), .val (.ref b0_1), .val (.int (6 : Int32)), .val (.int (3 : Int32)), .val (.ref w_NOTES)] []) (fun _ kk => XS.astore X8.here hx rfl (hb hby d1_17) rfl rfl (l' := #[.val (.int (6 : Int32)), .val (.ref b0_1), .val (.int (6 : Int32)), .val (.int (3 : Int32)), .val (.ref w_NOTES)]) rfl kk) ?_
  refine ob T8 (mkF mG 21 #[.val (.int (6 : Int32)), .val (.ref b0_1), .val (.int (6 : Int32)), .val (.int (3 : Int32)), .val (.ref w_NOTES)] [(.ref w_NOTES)]) (fun _ kk => XS.aload X8.here hx rfl (hb hby d1_19) rfl rfl kk) ?_
  obtain ⟨T10, X10, e10, st10⟩ := getF X8 hx hZ hown (host := "") (Or.inl (ow hw 25 rfl)) Via.refl e8 (F_w_NOTES_number.ext O1.2) (g := (mkF mG 21 #[.val (.int (6 : Int32)), .val (.ref b0_1), .val (.int (6 : Int32)), .val (.int (3 : Int32)), .val (.ref w_NOTES)] [(.ref w_NOTES)])) rfl rfl (hb hby d1_21)
  refine ob T10 (mkF mG 24 #[.val (.int (6 : Int32)), .val (.ref b0_1), .val (.int (6 : Int32)), .val (.int (3 : Int32)), .val (.ref w_NOTES)] [(.int (4 : Int32))]) (fun _ kk => st10 _ kk) ?_
  refine ob T10 (mkF mG 25 #[.val (.int (6 : Int32)), .val (.ref b0_1), .val (.int (6 : Int32)), .val (.int (3 : Int32)), .val (.ref w_NOTES)] [(.int (6 : Int32)), (.int (4 : Int32))]) (fun _ kk => XS.iloadN X10.here hx rfl (hb hby d1_24) rfl kk) ?_
  refine ob T10 (mkF mG 31 #[.val (.int (6 : Int32)), .val (.ref b0_1), .val (.int (6 : Int32)), .val (.int (3 : Int32)), .val (.ref w_NOTES)] []) (fun _ kk => XS.icmpYes X10.here hx rfl (pc0 := 25) (pc' := 31) rfl (hb hby d1_25) rfl (feq (by decide : ¬ ((4 : Int32) = (6 : Int32)))).2 (by decide) (by decide) kk) ?_
  refine ob T10 (mkF mG 34 #[.val (.int (6 : Int32)), .val (.ref b0_1), .val (.int (6 : Int32)), .val (.int (4 : Int32)), .val (.ref w_NOTES)] []) (fun _ kk => XS.iinc X10.here hx rfl (hb hby d1_31) rfl (l' := #[.val (.int (6 : Int32)), .val (.ref b0_1), .val (.int (6 : Int32)), .val (.int (4 : Int32)), .val (.ref w_NOTES)]) rfl kk) ?_
  refine ob T10 (mkF mG 9 #[.val (.int (6 : Int32)), .val (.ref b0_1), .val (.int (6 : Int32)), .val (.int (4 : Int32)), .val (.ref w_NOTES)] []) (fun _ kk => XS.goto X10.here hx rfl (pc0 := 34) (pc' := 9) rfl (hb hby d1_34) (by decide) (by decide) kk) ?_
  refine ob T10 (mkF mG 10 #[.val (.int (6 : Int32)), .val (.ref b0_1), .val (.int (6 : Int32)), .val (.int (4 : Int32)), .val (.ref w_NOTES)] [(.int (4 : Int32))]) (fun _ kk => XS.iloadN X10.here hx rfl (hb hby d1_9) rfl kk) ?_
  refine ob T10 (mkF mG 11 #[.val (.int (6 : Int32)), .val (.ref b0_1), .val (.int (6 : Int32)), .val (.int (4 : Int32)), .val (.ref w_NOTES)] [(.int (6 : Int32)), (.int (4 : Int32))]) (fun _ kk => XS.iloadN X10.here hx rfl (hb hby d1_10) rfl kk) ?_
  refine ob T10 (mkF mG 14 #[.val (.int (6 : Int32)), .val (.ref b0_1), .val (.int (6 : Int32)), .val (.int (4 : Int32)), .val (.ref w_NOTES)] []) (fun _ kk => XS.icmpNo X10.here hx rfl (hb hby d1_11) rfl (tlt (by decide : (4 : Int32) < (6 : Int32))).2.1 kk) ?_
  refine ob T10 (mkF mG 15 #[.val (.int (6 : Int32)), .val (.ref b0_1), .val (.int (6 : Int32)), .val (.int (4 : Int32)), .val (.ref w_NOTES)] [(.ref b0_1)]) (fun _ kk => XS.aloadN X10.here hx rfl (hb hby d1_14) rfl rfl kk) ?_
  refine ob T10 (mkF mG 16 #[.val (.int (6 : Int32)), .val (.ref b0_1), .val (.int (6 : Int32)), .val (.int (4 : Int32)), .val (.ref w_NOTES)] [(.int (4 : Int32)), (.ref b0_1)]) (fun _ kk => XS.iloadN X10.here hx rfl (hb hby d1_15) rfl kk) ?_
  obtain ⟨cl11, Ar11, -, S11, N11a, H11, -⟩ := id F1_1
  have hin11 : ¬ ((4 : Int32) < 0 ∨ cl11.slots.size ≤ ((4 : Int32)).toNatClampNeg) := inb_of S11 ⟨by decide, by decide⟩
  refine ob T10 (mkF mG 17 #[.val (.int (6 : Int32)), .val (.ref b0_1), .val (.int (6 : Int32)), .val (.int (4 : Int32)), .val (.ref w_NOTES)] [(.ref w_OTHER)]) (fun _ kk => X10.aaload hx (j := (4 : Int32)) (v := (.ref w_OTHER)) (by rw [e10]; exact Ar11.1) (State.isArrayOf_alike hZ.alike Ar11.2.1) rfl Ar11.2.2 hin11 (Has.at H11 hin11 rfl) (g := (mkF mG 16 #[.val (.int (6 : Int32)), .val (.ref b0_1), .val (.int (6 : Int32)), .val (.int (4 : Int32)), .val (.ref w_NOTES)] [(.int (4 : Int32)), (.ref b0_1)])) rfl rfl (hb hby d1_16) _ kk) ?_
  refine ob T10 (mkF mG 19 #[.val (.int (6 : Int32)), .val (.ref b0_1), .val (.int (6 : Int32)), .val (.int (4 : Int32)), .val (.ref w_OTHER)] []) (fun _ kk => XS.astore X10.here hx rfl (hb hby d1_17) rfl rfl (l' := #[.val (.int (6 : Int32)), .val (.ref b0_1), .val (.int (6 : Int32)), .val (.int (4 : Int32)), .val (.ref w_OTHER)]) rfl kk) ?_
  refine ob T10 (mkF mG 21 #[.val (.int (6 : Int32)), .val (.ref b0_1), .val (.int (6 : Int32)), .val (.int (4 : Int32)), .val (.ref w_OTHER)] [(.ref w_OTHER)]) (fun _ kk => XS.aload X10.here hx rfl (hb hby d1_19) rfl rfl kk) ?_
  obtain ⟨T12, X12, e12, st12⟩ := getF X10 hx hZ hown (host := "") (Or.inl (ow hw 25 rfl)) Via.refl e10 (F_w_OTHER_number.ext O1.2) (g := (mkF mG 21 #[.val (.int (6 : Int32)), .val (.ref b0_1), .val (.int (6 : Int32)), .val (.int (4 : Int32)), .val (.ref w_OTHER)] [(.ref w_OTHER)])) rfl rfl (hb hby d1_21)
  refine ob T12 (mkF mG 24 #[.val (.int (6 : Int32)), .val (.ref b0_1), .val (.int (6 : Int32)), .val (.int (4 : Int32)), .val (.ref w_OTHER)] [(.int (5 : Int32))]) (fun _ kk => st12 _ kk) ?_
  refine ob T12 (mkF mG 25 #[.val (.int (6 : Int32)), .val (.ref b0_1), .val (.int (6 : Int32)), .val (.int (4 : Int32)), .val (.ref w_OTHER)] [(.int (6 : Int32)), (.int (5 : Int32))]) (fun _ kk => XS.iloadN X12.here hx rfl (hb hby d1_24) rfl kk) ?_
  refine ob T12 (mkF mG 31 #[.val (.int (6 : Int32)), .val (.ref b0_1), .val (.int (6 : Int32)), .val (.int (4 : Int32)), .val (.ref w_OTHER)] []) (fun _ kk => XS.icmpYes X12.here hx rfl (pc0 := 25) (pc' := 31) rfl (hb hby d1_25) rfl (feq (by decide : ¬ ((5 : Int32) = (6 : Int32)))).2 (by decide) (by decide) kk) ?_
  refine ob T12 (mkF mG 34 #[.val (.int (6 : Int32)), .val (.ref b0_1), .val (.int (6 : Int32)), .val (.int (5 : Int32)), .val (.ref w_OTHER)] []) (fun _ kk => XS.iinc X12.here hx rfl (hb hby d1_31) rfl (l' := #[.val (.int (6 : Int32)), .val (.ref b0_1), .val (.int (6 : Int32)), .val (.int (5 : Int32)), .val (.ref w_OTHER)]) rfl kk) ?_
  refine ob T12 (mkF mG 9 #[.val (.int (6 : Int32)), .val (.ref b0_1), .val (.int (6 : Int32)), .val (.int (5 : Int32)), .val (.ref w_OTHER)] []) (fun _ kk => XS.goto X12.here hx rfl (pc0 := 34) (pc' := 9) rfl (hb hby d1_34) (by decide) (by decide) kk) ?_
  refine ob T12 (mkF mG 10 #[.val (.int (6 : Int32)), .val (.ref b0_1), .val (.int (6 : Int32)), .val (.int (5 : Int32)), .val (.ref w_OTHER)] [(.int (5 : Int32))]) (fun _ kk => XS.iloadN X12.here hx rfl (hb hby d1_9) rfl kk) ?_
  refine ob T12 (mkF mG 11 #[.val (.int (6 : Int32)), .val (.ref b0_1), .val (.int (6 : Int32)), .val (.int (5 : Int32)), .val (.ref w_OTHER)] [(.int (6 : Int32)), (.int (5 : Int32))]) (fun _ kk => XS.iloadN X12.here hx rfl (hb hby d1_10) rfl kk) ?_
  refine ob T12 (mkF mG 14 #[.val (.int (6 : Int32)), .val (.ref b0_1), .val (.int (6 : Int32)), .val (.int (5 : Int32)), .val (.ref w_OTHER)] []) (fun _ kk => XS.icmpNo X12.here hx rfl (hb hby d1_11) rfl (tlt (by decide : (5 : Int32) < (6 : Int32))).2.1 kk) ?_
  refine ob T12 (mkF mG 15 #[.val (.int (6 : Int32)), .val (.ref b0_1), .val (.int (6 : Int32)), .val (.int (5 : Int32)), .val (.ref w_OTHER)] [(.ref b0_1)]) (fun _ kk => XS.aloadN X12.here hx rfl (hb hby d1_14) rfl rfl kk) ?_
  refine ob T12 (mkF mG 16 #[.val (.int (6 : Int32)), .val (.ref b0_1), .val (.int (6 : Int32)), .val (.int (5 : Int32)), .val (.ref w_OTHER)] [(.int (5 : Int32)), (.ref b0_1)]) (fun _ kk => XS.iloadN X12.here hx rfl (hb hby d1_15) rfl kk) ?_
  obtain ⟨cl13, Ar13, -, S13, N13a, H13, -⟩ := id F1_1
  have hin13 : ¬ ((5 : Int32) < 0 ∨ cl13.slots.size ≤ ((5 : Int32)).toNatClampNeg) := inb_of S13 ⟨by decide, by decide⟩
  refine ob T12 (mkF mG 17 #[.val (.int (6 : Int32)), .val (.ref b0_1), .val (.int (6 : Int32)), .val (.int (5 : Int32)), .val (.ref w_OTHER)] [(.ref w_IMAGE_300)]) (fun _ kk => X12.aaload hx (j := (5 : Int32)) (v := (.ref w_IMAGE_300)) (by rw [e12]; exact Ar13.1) (State.isArrayOf_alike hZ.alike Ar13.2.1) rfl Ar13.2.2 hin13 (Has.at H13 hin13 rfl) (g := (mkF mG 16 #[.val (.int (6 : Int32)), .val (.ref b0_1), .val (.int (6 : Int32)), .val (.int (5 : Int32)), .val (.ref w_OTHER)] [(.int (5 : Int32)), (.ref b0_1)])) rfl rfl (hb hby d1_16) _ kk) ?_
  refine ob T12 (mkF mG 19 #[.val (.int (6 : Int32)), .val (.ref b0_1), .val (.int (6 : Int32)), .val (.int (5 : Int32)), .val (.ref w_IMAGE_300)] []) (fun _ kk => XS.astore X12.here hx rfl (hb hby d1_17) rfl rfl (l' := #[.val (.int (6 : Int32)), .val (.ref b0_1), .val (.int (6 : Int32)), .val (.int (5 : Int32)), .val (.ref w_IMAGE_300)]) rfl kk) ?_
  refine ob T12 (mkF mG 21 #[.val (.int (6 : Int32)), .val (.ref b0_1), .val (.int (6 : Int32)), .val (.int (5 : Int32)), .val (.ref w_IMAGE_300)] [(.ref w_IMAGE_300)]) (fun _ kk => XS.aload X12.here hx rfl (hb hby d1_19) rfl rfl kk) ?_
  obtain ⟨T14, X14, e14, st14⟩ := getF X12 hx hZ hown (host := "") (Or.inl (ow hw 25 rfl)) Via.refl e12 (F_w_IMAGE_300_number.ext O1.2) (g := (mkF mG 21 #[.val (.int (6 : Int32)), .val (.ref b0_1), .val (.int (6 : Int32)), .val (.int (5 : Int32)), .val (.ref w_IMAGE_300)] [(.ref w_IMAGE_300)])) rfl rfl (hb hby d1_21)
  refine ob T14 (mkF mG 24 #[.val (.int (6 : Int32)), .val (.ref b0_1), .val (.int (6 : Int32)), .val (.int (5 : Int32)), .val (.ref w_IMAGE_300)] [(.int (6 : Int32))]) (fun _ kk => st14 _ kk) ?_
  refine ob T14 (mkF mG 25 #[.val (.int (6 : Int32)), .val (.ref b0_1), .val (.int (6 : Int32)), .val (.int (5 : Int32)), .val (.ref w_IMAGE_300)] [(.int (6 : Int32)), (.int (6 : Int32))]) (fun _ kk => XS.iloadN X14.here hx rfl (hb hby d1_24) rfl kk) ?_
  refine ob T14 (mkF mG 28 #[.val (.int (6 : Int32)), .val (.ref b0_1), .val (.int (6 : Int32)), .val (.int (5 : Int32)), .val (.ref w_IMAGE_300)] []) (fun _ kk => XS.icmpNo X14.here hx rfl (hb hby d1_25) rfl (teq (by decide : (6 : Int32) = (6 : Int32))).2 kk) ?_
  refine ob T14 (mkF mG 30 #[.val (.int (6 : Int32)), .val (.ref b0_1), .val (.int (6 : Int32)), .val (.int (5 : Int32)), .val (.ref w_IMAGE_300)] [(.ref w_IMAGE_300)]) (fun _ kk => XS.aload X14.here hx rfl (hb hby d1_28) rfl rfl kk) ?_
  obtain ⟨fs, hr, hrun, hended, hW, hsame⟩ := X14.leave (v := some (.ref w_IMAGE_300)) (fun h => by rw [Bd.returns] at h; cases h)
  refine oout (oretA X14 hx Bd.returns rfl rfl (hb hby d1_30) hr) hrun hended ⟨_, _, rfl, ?_, ⟨_, rfl⟩, hW, hsame.mono (by decide) (by decide)⟩
  show Q_rm_of6 Z w_IMAGE_600 w_THUMBNAIL w_PAGE_TEXT w_NOTES w_OTHER w_IMAGE_300 w_VALUES c_VALUES  h0 n0 _ T14.heap _
  rw [e14]
  exact ⟨rfl, N1, K1, O1⟩

theorem d3_45 : decode method_3_code 45 = .ok (.iload_n 0, 1) := by decide +kernel
theorem d3_46 : decode method_3_code 46 = .ok (.bipush 6, 2) := by decide +kernel
theorem d3_48 : decode method_3_code 48 = .ok (.if_icmp .ne 7, 3) := by decide +kernel
theorem d3_51 : decode method_3_code 51 = .ok (.getstatic 34, 3) := by decide +kernel
theorem d3_54 : decode method_3_code 54 = .ok (.areturn, 1) := by decide +kernel
def Q_rm_ex6 (Z : State) (w_IMAGE_600 : Addr) (w_THUMBNAIL : Addr) (w_PAGE_TEXT : Addr) (w_NOTES : Addr) (w_OTHER : Addr) (w_IMAGE_300 : Addr) (w_VALUES : Addr) (c_VALUES : Cell)  (h0 : Heap) (n0 : Nat) (v : Option Value) (h : Heap) (L : List Loc) : Prop := v = some (.ref w_IMAGE_300) ∧ Fr n0 L ∧ h = h0
set_option maxRecDepth 65536 in
set_option maxHeartbeats 40000000 in
theorem rm_ex6 (l : Launch) (Z : State) (a0 : Array Value) (hw : ∀ d ∈ tables_1, d.before a0 Z = true) (ws : List Jvm.Cond) (w_IMAGE_600 : Addr) (w_THUMBNAIL : Addr) (w_PAGE_TEXT : Addr) (w_NOTES : Addr) (w_OTHER : Addr) (w_IMAGE_300 : Addr) (w_VALUES : Addr) (c_VALUES : Cell)  (h0 : Heap) (n0 : Nat) (O0 : Old Z n0 h0) (hS : St0 Z w_IMAGE_600 w_THUMBNAIL w_PAGE_TEXT w_NOTES w_OTHER w_IMAGE_300 w_VALUES c_VALUES ) :
    MetFree l (⟨"com/example/carrel/carrel/document/FileTypeOfPinLaw", "expected", "(I)Lcom/example/carrel/carrel/document/BoundDocument$FileType;"⟩ : MethodName) (head1 (Jvm.Cond.code (⟨"com/example/carrel/carrel/document/FileTypeOfPinLaw", "expected", "(I)Lcom/example/carrel/carrel/document/BoundDocument$FileType;"⟩ : MethodName) method_3_code 1 (some (.object "com/example/carrel/carrel/document/BoundDocument$FileType")) :: ws) ({ frames := 0, cells := 0, slots := 0, locals := 0 } : Room)) (fun aG UG => aG = #[(.int (6 : Int32))] ∧ Z.Warmed39 UG.vm ∧ UG.heap = h0) (fun _ _ _ _ _ => True) (fun _ UG oG UG' => ∃ vG LG, oG = .returned vG ∧ Q_rm_ex6 Z w_IMAGE_600 w_THUMBNAIL w_PAGE_TEXT w_NOTES w_OTHER w_IMAGE_300 w_VALUES c_VALUES  h0 n0 vG UG'.heap LG ∧ FrameEnd UG oG UG' LG ({ frames := 0, cells := 0, slots := 0, locals := 0 } : Room).cells ({ frames := 0, cells := 0, slots := 0, locals := 0 } : Room).slots) := by
  refine MetFree.of_bodySF (plainFor_of_name pn_1) hisR ?_
  intro pG eG sG mG argsG belowG methG cG s₁ Bd hml0 hP hK
  obtain ⟨rfl, hZ, hh⟩ := hP
  have hx := Bd.exec
  have hby := Bd.bytes
  have hml : cG.maxLocals = 1 := hml0
  have hown : sG.vm.findClass "com/example/carrel/carrel/document/FileTypeOfPinLaw" = some mG.cls := findClass_of_methodNamed Bd.named
  have hnm := (name_of_methodNamed Bd.named Bd.method).1
  have X0 : Stand pG l eG ({ frames := 0, cells := 0, slots := 0, locals := 0 } : Room) sG mG #[(.int (6 : Int32))] belowG methG cG s₁ [] 0 0 := Stand.of_body Bd
  have e0 : s₁.heap = h0 := by rw [← hh, Bd.state]; rfl
  have N0 := Fr.nil n0
  have K0 := Keep.refl h0 []
  obtain ⟨S_w_IMAGE_600, E_w_IMAGE_600, S_w_THUMBNAIL, E_w_THUMBNAIL, S_w_PAGE_TEXT, E_w_PAGE_TEXT, S_w_NOTES, E_w_NOTES, S_w_OTHER, E_w_OTHER, S_w_IMAGE_300, E_w_IMAGE_300, S_w_VALUES, E_w_VALUES, V_w_VALUES, F_w_IMAGE_600_number, F_w_THUMBNAIL_number, F_w_PAGE_TEXT_number, F_w_NOTES_number, F_w_OTHER_number, F_w_IMAGE_300_number, ne_w_IMAGE_600_w_THUMBNAIL, ne_w_IMAGE_600_w_PAGE_TEXT, ne_w_IMAGE_600_w_NOTES, ne_w_IMAGE_600_w_OTHER, ne_w_IMAGE_600_w_IMAGE_300, ne_w_THUMBNAIL_w_PAGE_TEXT, ne_w_THUMBNAIL_w_NOTES, ne_w_THUMBNAIL_w_OTHER, ne_w_THUMBNAIL_w_IMAGE_300, ne_w_PAGE_TEXT_w_NOTES, ne_w_PAGE_TEXT_w_OTHER, ne_w_PAGE_TEXT_w_IMAGE_300, ne_w_NOTES_w_OTHER, ne_w_NOTES_w_IMAGE_300, ne_w_OTHER_w_IMAGE_300⟩ := (id hS : St0 Z w_IMAGE_600 w_THUMBNAIL w_PAGE_TEXT w_NOTES w_OTHER w_IMAGE_300 w_VALUES c_VALUES )
  refine ostart (g' := (mkF mG 0 #[.val (.int (6 : Int32))] [])) (by first | (simp [entryFrame, mkF, argsToLocals, Value.category]; done) | rfl) ?_
  refine ob s₁ (mkF mG 1 #[.val (.int (6 : Int32))] [(.int (6 : Int32))]) (fun _ kk => XS.iloadN X0.here hx rfl (hb hby d3_0) rfl kk) ?_
  refine ob s₁ (mkF mG 2 #[.val (.int (6 : Int32))] [(.int (1 : Int32)), (.int (6 : Int32))]) (fun _ kk => XS.iconst X0.here hx rfl (hb hby d3_1) kk) ?_
  refine ob s₁ (mkF mG 9 #[.val (.int (6 : Int32))] []) (fun _ kk => XS.icmpYes X0.here hx rfl (pc0 := 2) (pc' := 9) rfl (hb hby d3_2) rfl (feq (by decide : ¬ ((6 : Int32) = (1 : Int32)))).2 (by decide) (by decide) kk) ?_
  refine ob s₁ (mkF mG 10 #[.val (.int (6 : Int32))] [(.int (6 : Int32))]) (fun _ kk => XS.iloadN X0.here hx rfl (hb hby d3_9) rfl kk) ?_
  refine ob s₁ (mkF mG 11 #[.val (.int (6 : Int32))] [(.int (2 : Int32)), (.int (6 : Int32))]) (fun _ kk => XS.iconst X0.here hx rfl (hb hby d3_10) kk) ?_
  refine ob s₁ (mkF mG 18 #[.val (.int (6 : Int32))] []) (fun _ kk => XS.icmpYes X0.here hx rfl (pc0 := 11) (pc' := 18) rfl (hb hby d3_11) rfl (feq (by decide : ¬ ((6 : Int32) = (2 : Int32)))).2 (by decide) (by decide) kk) ?_
  refine ob s₁ (mkF mG 19 #[.val (.int (6 : Int32))] [(.int (6 : Int32))]) (fun _ kk => XS.iloadN X0.here hx rfl (hb hby d3_18) rfl kk) ?_
  refine ob s₁ (mkF mG 20 #[.val (.int (6 : Int32))] [(.int (3 : Int32)), (.int (6 : Int32))]) (fun _ kk => XS.iconst X0.here hx rfl (hb hby d3_19) kk) ?_
  refine ob s₁ (mkF mG 27 #[.val (.int (6 : Int32))] []) (fun _ kk => XS.icmpYes X0.here hx rfl (pc0 := 20) (pc' := 27) rfl (hb hby d3_20) rfl (feq (by decide : ¬ ((6 : Int32) = (3 : Int32)))).2 (by decide) (by decide) kk) ?_
  refine ob s₁ (mkF mG 28 #[.val (.int (6 : Int32))] [(.int (6 : Int32))]) (fun _ kk => XS.iloadN X0.here hx rfl (hb hby d3_27) rfl kk) ?_
  refine ob s₁ (mkF mG 29 #[.val (.int (6 : Int32))] [(.int (4 : Int32)), (.int (6 : Int32))]) (fun _ kk => XS.iconst X0.here hx rfl (hb hby d3_28) kk) ?_
  refine ob s₁ (mkF mG 36 #[.val (.int (6 : Int32))] []) (fun _ kk => XS.icmpYes X0.here hx rfl (pc0 := 29) (pc' := 36) rfl (hb hby d3_29) rfl (feq (by decide : ¬ ((6 : Int32) = (4 : Int32)))).2 (by decide) (by decide) kk) ?_
  refine ob s₁ (mkF mG 37 #[.val (.int (6 : Int32))] [(.int (6 : Int32))]) (fun _ kk => XS.iloadN X0.here hx rfl (hb hby d3_36) rfl kk) ?_
  refine ob s₁ (mkF mG 38 #[.val (.int (6 : Int32))] [(.int (5 : Int32)), (.int (6 : Int32))]) (fun _ kk => XS.iconst X0.here hx rfl (hb hby d3_37) kk) ?_
  refine ob s₁ (mkF mG 45 #[.val (.int (6 : Int32))] []) (fun _ kk => XS.icmpYes X0.here hx rfl (pc0 := 38) (pc' := 45) rfl (hb hby d3_38) rfl (feq (by decide : ¬ ((6 : Int32) = (5 : Int32)))).2 (by decide) (by decide) kk) ?_
  refine ob s₁ (mkF mG 46 #[.val (.int (6 : Int32))] [(.int (6 : Int32))]) (fun _ kk => XS.iloadN X0.here hx rfl (hb hby d3_45) rfl kk) ?_
  refine ob s₁ (mkF mG 48 #[.val (.int (6 : Int32))] [(.int (6 : Int32)), (.int (6 : Int32))]) (fun _ kk => XS.bipush X0.here hx rfl (hb hby d3_46) kk) ?_
  refine ob s₁ (mkF mG 51 #[.val (.int (6 : Int32))] []) (fun _ kk => XS.icmpNo X0.here hx rfl (hb hby d3_48) rfl (teq (by decide : (6 : Int32) = (6 : Int32))).2 kk) ?_
  obtain ⟨T1, X1, e1, st1⟩ := getS2 X0 hx hZ hown (host := "") (Or.inl (ow hw 36 rfl)) Via.refl e0 (S_w_IMAGE_300.ext O0.2) (g := (mkF mG 51 #[.val (.int (6 : Int32))] [])) rfl (hb hby d3_51)
  refine ob T1 (mkF mG 54 #[.val (.int (6 : Int32))] [(.ref w_IMAGE_300)]) (fun _ kk => st1 _ kk) ?_
  obtain ⟨fs, hr, hrun, hended, hW, hsame⟩ := X1.leave (v := some (.ref w_IMAGE_300)) (fun h => by rw [Bd.returns] at h; cases h)
  refine oout (oretA X1 hx Bd.returns rfl rfl (hb hby d3_54) hr) hrun hended ⟨_, _, rfl, ?_, ⟨_, rfl⟩, hW, hsame.mono (by decide) (by decide)⟩
  show Q_rm_ex6 Z w_IMAGE_600 w_THUMBNAIL w_PAGE_TEXT w_NOTES w_OTHER w_IMAGE_300 w_VALUES c_VALUES  h0 n0 _ T1.heap _
  rw [e1]
  exact ⟨rfl, N0, rfl⟩

theorem d1_37 : decode prog_15_method_6_code 37 = .ok (.aconst_null, 1) := by decide +kernel
theorem d1_38 : decode prog_15_method_6_code 38 = .ok (.areturn, 1) := by decide +kernel
def Q_rm_of0 (Z : State) (w_IMAGE_600 : Addr) (w_THUMBNAIL : Addr) (w_PAGE_TEXT : Addr) (w_NOTES : Addr) (w_OTHER : Addr) (w_IMAGE_300 : Addr) (w_VALUES : Addr) (c_VALUES : Cell) (x : Int32) (h0 : Heap) (n0 : Nat) (v : Option Value) (h : Heap) (L : List Loc) : Prop := v = some .null ∧ Fr n0 L ∧ Keep h0 h [] ∧ Old Z n0 h
set_option maxRecDepth 65536 in
set_option maxHeartbeats 40000000 in
theorem rm_of0 (l : Launch) (Z : State) (a0 : Array Value) (hw : ∀ d ∈ tables_1, d.before a0 Z = true) (ws : List Jvm.Cond) (w_IMAGE_600 : Addr) (w_THUMBNAIL : Addr) (w_PAGE_TEXT : Addr) (w_NOTES : Addr) (w_OTHER : Addr) (w_IMAGE_300 : Addr) (w_VALUES : Addr) (c_VALUES : Cell) (x : Int32) (h0 : Heap) (n0 : Nat) (O0 : Old Z n0 h0) (hS : St0 Z w_IMAGE_600 w_THUMBNAIL w_PAGE_TEXT w_NOTES w_OTHER w_IMAGE_300 w_VALUES c_VALUES ) (hx1 : ¬ (x = (1 : Int32))) (hx2 : ¬ (x = (2 : Int32))) (hx3 : ¬ (x = (3 : Int32))) (hx4 : ¬ (x = (4 : Int32))) (hx5 : ¬ (x = (5 : Int32))) (hx6 : ¬ (x = (6 : Int32))) :
    MetFree l (⟨"com/example/carrel/carrel/document/BoundDocument$FileType", "of", "(I)Lcom/example/carrel/carrel/document/BoundDocument$FileType;"⟩ : MethodName) (head1 (Jvm.Cond.code (⟨"com/example/carrel/carrel/document/BoundDocument$FileType", "of", "(I)Lcom/example/carrel/carrel/document/BoundDocument$FileType;"⟩ : MethodName) prog_15_method_6_code 5 (some (.object "com/example/carrel/carrel/document/BoundDocument$FileType")) :: ws) ({ frames := 2, cells := 1, slots := 6, locals := 25 } : Room)) (fun aG UG => aG = #[(.int x)] ∧ Z.Warmed39 UG.vm ∧ UG.heap = h0) (fun _ _ _ _ _ => True) (fun _ UG oG UG' => ∃ vG LG, oG = .returned vG ∧ Q_rm_of0 Z w_IMAGE_600 w_THUMBNAIL w_PAGE_TEXT w_NOTES w_OTHER w_IMAGE_300 w_VALUES c_VALUES x h0 n0 vG UG'.heap LG ∧ FrameEnd UG oG UG' LG ({ frames := 2, cells := 1, slots := 6, locals := 25 } : Room).cells ({ frames := 2, cells := 1, slots := 6, locals := 25 } : Room).slots) := by
  refine MetFree.of_bodySF (plainFor_of_name pn_0) hisR ?_
  intro pG eG sG mG argsG belowG methG cG s₁ Bd hml0 hP hK
  obtain ⟨rfl, hZ, hh⟩ := hP
  have hx := Bd.exec
  have hby := Bd.bytes
  have hml : cG.maxLocals = 5 := hml0
  have hown : sG.vm.findClass "com/example/carrel/carrel/document/BoundDocument$FileType" = some mG.cls := findClass_of_methodNamed Bd.named
  have hnm := (name_of_methodNamed Bd.named Bd.method).1
  have X0 : Stand pG l eG ({ frames := 2, cells := 1, slots := 6, locals := 25 } : Room) sG mG #[(.int x)] belowG methG cG s₁ [] 0 0 := Stand.of_body Bd
  have e0 : s₁.heap = h0 := by rw [← hh, Bd.state]; rfl
  have N0 := Fr.nil n0
  have K0 := Keep.refl h0 []
  obtain ⟨S_w_IMAGE_600, E_w_IMAGE_600, S_w_THUMBNAIL, E_w_THUMBNAIL, S_w_PAGE_TEXT, E_w_PAGE_TEXT, S_w_NOTES, E_w_NOTES, S_w_OTHER, E_w_OTHER, S_w_IMAGE_300, E_w_IMAGE_300, S_w_VALUES, E_w_VALUES, V_w_VALUES, F_w_IMAGE_600_number, F_w_THUMBNAIL_number, F_w_PAGE_TEXT_number, F_w_NOTES_number, F_w_OTHER_number, F_w_IMAGE_300_number, ne_w_IMAGE_600_w_THUMBNAIL, ne_w_IMAGE_600_w_PAGE_TEXT, ne_w_IMAGE_600_w_NOTES, ne_w_IMAGE_600_w_OTHER, ne_w_IMAGE_600_w_IMAGE_300, ne_w_THUMBNAIL_w_PAGE_TEXT, ne_w_THUMBNAIL_w_NOTES, ne_w_THUMBNAIL_w_OTHER, ne_w_THUMBNAIL_w_IMAGE_300, ne_w_PAGE_TEXT_w_NOTES, ne_w_PAGE_TEXT_w_OTHER, ne_w_PAGE_TEXT_w_IMAGE_300, ne_w_NOTES_w_OTHER, ne_w_NOTES_w_IMAGE_300, ne_w_OTHER_w_IMAGE_300⟩ := (id hS : St0 Z w_IMAGE_600 w_THUMBNAIL w_PAGE_TEXT w_NOTES w_OTHER w_IMAGE_300 w_VALUES c_VALUES )
  refine ostart (g' := (mkF mG 0 #[.val (.int x), .unset, .unset, .unset, .unset] [])) (by first | (simp [entryFrame, mkF, argsToLocals, Value.category]; done) | rfl) ?_
  obtain ⟨_, _, ⟨T1, L1, k1, n1⟩, -, X1, ⟨Lc1, hQ1, l1, y1, z1⟩, st1⟩ := Jvm.LawKit.callS X0 hx (y := (⟨"com/example/carrel/carrel/document/BoundDocument$FileType", "values", "()[Lcom/example/carrel/carrel/document/BoundDocument$FileType;"⟩ : MethodName)) hown (mvT hZ (ow hw 4 rfl)) (mvT hZ (ow hw 5 rfl)) (mvT hZ (ow hw 2 rfl)) (mvT hZ (ow hw 6 rfl)) (by decide) (backOf (W := 0) (rm_values l Z a0 hw [] w_IMAGE_600 w_THUMBNAIL w_PAGE_TEXT w_NOTES w_OTHER w_IMAGE_300 w_VALUES c_VALUES  h0 n0 O0 hS ) hZ (ow hw 6 rfl) (ow hw 2 rfl) (by decide) (by decide)) (g := (mkF mG 0 #[.val (.int x), .unset, .unset, .unset, .unset] [])) rfl (by rw [hml]; rfl) (argsL := []) (rest := []) (lenOf pd_0 rfl) rfl (by show 2 * 0 + _ ≤ _; exact Nat.le_of_eq rfl) (hb hby d1_0) (fun _ _ => ⟨rfl, e0, (by decide : 0 + 1 ≤ _), (by decide : 0 + 6 ≤ _)⟩)
  dsimp only [Pt.U, Pt.locs, Pt.cells, Pt.slots] at X1 l1 y1 z1 st1 hQ1
  subst l1 y1 z1
  obtain ⟨h1, e1⟩ : ∃ h, T1.heap = h := ⟨_, rfl⟩
  rw [e1] at hQ1
  obtain ⟨b0_1, rfl, N1q, K1q, O1, n_b0_1, z_b0_1, F1_0, F1_1⟩ := hQ1
  have N1 := Fr.app N0 N1q
  have sz_b0_1 : h0.size ≤ b0_1 := Nat.le_trans K0.1 z_b0_1
  have K1 := K0.trans K1q all0
  refine ob T1 (mkF mG 3 #[.val (.int x), .unset, .unset, .unset, .unset] [(.ref b0_1)]) (fun _ kk => st1 _ kk) ?_
  refine ob T1 (mkF mG 4 #[.val (.int x), .val (.ref b0_1), .unset, .unset, .unset] []) (fun _ kk => XS.astoreN X1.here hx rfl (hb hby d1_3) rfl rfl (l' := #[.val (.int x), .val (.ref b0_1), .unset, .unset, .unset]) rfl kk) ?_
  refine ob T1 (mkF mG 5 #[.val (.int x), .val (.ref b0_1), .unset, .unset, .unset] [(.ref b0_1)]) (fun _ kk => XS.aloadN X1.here hx rfl (hb hby d1_4) rfl rfl kk) ?_
  obtain ⟨cl2, Ar2, -, S2, N2a, -, -⟩ := id F1_1
  refine oby (T' := T1) (g' := (mkF mG 6 #[.val (.int x), .val (.ref b0_1), .unset, .unset, .unset] [(.int (6 : Int32))])) (fun ot ok => X1.arraylength hx (by rw [e1]; exact Ar2.1) (State.isArrayOf_alike hZ.alike Ar2.2.1) (g := (mkF mG 5 #[.val (.int x), .val (.ref b0_1), .unset, .unset, .unset] [(.ref b0_1)])) rfl rfl (hb hby d1_5) _ (by rw [len_of S2 N2a]; exact ok)) ?_
  refine ob T1 (mkF mG 7 #[.val (.int x), .val (.ref b0_1), .val (.int (6 : Int32)), .unset, .unset] []) (fun _ kk => XS.istoreN X1.here hx rfl (hb hby d1_6) rfl (l' := #[.val (.int x), .val (.ref b0_1), .val (.int (6 : Int32)), .unset, .unset]) rfl kk) ?_
  refine ob T1 (mkF mG 8 #[.val (.int x), .val (.ref b0_1), .val (.int (6 : Int32)), .unset, .unset] [(.int (0 : Int32))]) (fun _ kk => XS.iconst X1.here hx rfl (hb hby d1_7) kk) ?_
  refine ob T1 (mkF mG 9 #[.val (.int x), .val (.ref b0_1), .val (.int (6 : Int32)), .val (.int (0 : Int32)), .unset] []) (fun _ kk => XS.istoreN X1.here hx rfl (hb hby d1_8) rfl (l' := #[.val (.int x), .val (.ref b0_1), .val (.int (6 : Int32)), .val (.int (0 : Int32)), .unset]) rfl kk) ?_
  refine ob T1 (mkF mG 10 #[.val (.int x), .val (.ref b0_1), .val (.int (6 : Int32)), .val (.int (0 : Int32)), .unset] [(.int (0 : Int32))]) (fun _ kk => XS.iloadN X1.here hx rfl (hb hby d1_9) rfl kk) ?_
  refine ob T1 (mkF mG 11 #[.val (.int x), .val (.ref b0_1), .val (.int (6 : Int32)), .val (.int (0 : Int32)), .unset] [(.int (6 : Int32)), (.int (0 : Int32))]) (fun _ kk => XS.iloadN X1.here hx rfl (hb hby d1_10) rfl kk) ?_
  refine ob T1 (mkF mG 14 #[.val (.int x), .val (.ref b0_1), .val (.int (6 : Int32)), .val (.int (0 : Int32)), .unset] []) (fun _ kk => XS.icmpNo X1.here hx rfl (hb hby d1_11) rfl (tlt (by decide : (0 : Int32) < (6 : Int32))).2.1 kk) ?_
  refine ob T1 (mkF mG 15 #[.val (.int x), .val (.ref b0_1), .val (.int (6 : Int32)), .val (.int (0 : Int32)), .unset] [(.ref b0_1)]) (fun _ kk => XS.aloadN X1.here hx rfl (hb hby d1_14) rfl rfl kk) ?_
  refine ob T1 (mkF mG 16 #[.val (.int x), .val (.ref b0_1), .val (.int (6 : Int32)), .val (.int (0 : Int32)), .unset] [(.int (0 : Int32)), (.ref b0_1)]) (fun _ kk => XS.iloadN X1.here hx rfl (hb hby d1_15) rfl kk) ?_
  obtain ⟨cl3, Ar3, -, S3, N3a, H3, -⟩ := id F1_1
  have hin3 : ¬ ((0 : Int32) < 0 ∨ cl3.slots.size ≤ ((0 : Int32)).toNatClampNeg) := inb_of S3 ⟨by decide, by decide⟩
  refine ob T1 (mkF mG 17 #[.val (.int x), .val (.ref b0_1), .val (.int (6 : Int32)), .val (.int (0 : Int32)), .unset] [(.ref w_IMAGE_600)]) (fun _ kk => X1.aaload hx (j := (0 : Int32)) (v := (.ref w_IMAGE_600)) (by rw [e1]; exact Ar3.1) (State.isArrayOf_alike hZ.alike Ar3.2.1) rfl Ar3.2.2 hin3 (Has.at H3 hin3 rfl) (g := (mkF mG 16 #[.val (.int x), .val (.ref b0_1), .val (.int (6 : Int32)), .val (.int (0 : Int32)), .unset] [(.int (0 : Int32)), (.ref b0_1)])) rfl rfl (hb hby d1_16) _ kk) ?_
  refine ob T1 (mkF mG 19 #[.val (.int x), .val (.ref b0_1), .val (.int (6 : Int32)), .val (.int (0 : Int32)), .val (.ref w_IMAGE_600)] []) (fun _ kk => XS.astore X1.here hx rfl (hb hby d1_17) rfl rfl (l' := #[.val (.int x), .val (.ref b0_1), .val (.int (6 : Int32)), .val (.int (0 : Int32)), .val (.ref w_IMAGE_600)]) rfl kk) ?_
  refine ob T1 (mkF mG 21 #[.val (.int x), .val (.ref b0_1), .val (.int (6 : Int32)), .val (.int (0 : Int32)), .val (.ref w_IMAGE_600)] [(.ref w_IMAGE_600)]) (fun _ kk => XS.aload X1.here hx rfl (hb hby d1_19) rfl rfl kk) ?_
  obtain ⟨T4, X4, e4, st4⟩ := getF X1 hx hZ hown (host := "") (Or.inl (ow hw 25 rfl)) Via.refl e1 (F_w_IMAGE_600_number.ext O1.2) (g := (mkF mG 21 #[.val (.int x), .val (.ref b0_1), .val (.int (6 : Int32)), .val (.int (0 : Int32)), .val (.ref w_IMAGE_600)] [(.ref w_IMAGE_600)])) rfl rfl (hb hby d1_21)
  refine ob T4 (mkF mG 24 #[.val (.int x), .val (.ref b0_1), .val (.int (6 : Int32)), .val (.int (0 : Int32)), .val (.ref w_IMAGE_600)] [(.int (1 : Int32))]) (fun _ kk => st4 _ kk) ?_
  refine ob T4 (mkF mG 25 #[.val (.int x), .val (.ref b0_1), .val (.int (6 : Int32)), .val (.int (0 : Int32)), .val (.ref w_IMAGE_600)] [(.int x), (.int (1 : Int32))]) (fun _ kk => XS.iloadN X4.here hx rfl (hb hby d1_24) rfl kk) ?_
  refine ob T4 (mkF mG 31 #[.val (.int x), .val (.ref b0_1), .val (.int (6 : Int32)), .val (.int (0 : Int32)), .val (.ref w_IMAGE_600)] []) (fun _ kk => XS.icmpYes X4.here hx rfl (pc0 := 25) (pc' := 31) rfl (hb hby d1_25) rfl (feq (fun q => hx1 q.symm)).2 (by decide) (by decide) kk) ?_
  refine ob T4 (mkF mG 34 #[.val (.int x), .val (.ref b0_1), .val (.int (6 : Int32)), .val (.int (1 : Int32)), .val (.ref w_IMAGE_600)] []) (fun _ kk => XS.iinc X4.here hx rfl (hb hby d1_31) rfl (l' := #[.val (.int x), .val (.ref b0_1), .val (.int (6 : Int32)), .val (.int (1 : Int32)), .val (.ref w_IMAGE_600)]) rfl kk) ?_
  refine ob T4 (mkF mG 9 #[.val (.int x), .val (.ref b0_1), .val (.int (6 : Int32)), .val (.int (1 : Int32)), .val (.ref w_IMAGE_600)] []) (fun _ kk => XS.goto X4.here hx rfl (pc0 := 34) (pc' := 9) rfl (hb hby d1_34) (by decide) (by decide) kk) ?_
  refine ob T4 (mkF mG 10 #[.val (.int x), .val (.ref b0_1), .val (.int (6 : Int32)), .val (.int (1 : Int32)), .val (.ref w_IMAGE_600)] [(.int (1 : Int32))]) (fun _ kk => XS.iloadN X4.here hx rfl (hb hby d1_9) rfl kk) ?_
  refine ob T4 (mkF mG 11 #[.val (.int x), .val (.ref b0_1), .val (.int (6 : Int32)), .val (.int (1 : Int32)), .val (.ref w_IMAGE_600)] [(.int (6 : Int32)), (.int (1 : Int32))]) (fun _ kk => XS.iloadN X4.here hx rfl (hb hby d1_10) rfl kk) ?_
  refine ob T4 (mkF mG 14 #[.val (.int x), .val (.ref b0_1), .val (.int (6 : Int32)), .val (.int (1 : Int32)), .val (.ref w_IMAGE_600)] []) (fun _ kk => XS.icmpNo X4.here hx rfl (hb hby d1_11) rfl (tlt (by decide : (1 : Int32) < (6 : Int32))).2.1 kk) ?_
  refine ob T4 (mkF mG 15 #[.val (.int x), .val (.ref b0_1), .val (.int (6 : Int32)), .val (.int (1 : Int32)), .val (.ref w_IMAGE_600)] [(.ref b0_1)]) (fun _ kk => XS.aloadN X4.here hx rfl (hb hby d1_14) rfl rfl kk) ?_
  refine ob T4 (mkF mG 16 #[.val (.int x), .val (.ref b0_1), .val (.int (6 : Int32)), .val (.int (1 : Int32)), .val (.ref w_IMAGE_600)] [(.int (1 : Int32)), (.ref b0_1)]) (fun _ kk => XS.iloadN X4.here hx rfl (hb hby d1_15) rfl kk) ?_
  obtain ⟨cl5, Ar5, -, S5, N5a, H5, -⟩ := id F1_1
  have hin5 : ¬ ((1 : Int32) < 0 ∨ cl5.slots.size ≤ ((1 : Int32)).toNatClampNeg) := inb_of S5 ⟨by decide, by decide⟩
  refine ob T4 (mkF mG 17 #[.val (.int x), .val (.ref b0_1), .val (.int (6 : Int32)), .val (.int (1 : Int32)), .val (.ref w_IMAGE_600)] [(.ref w_THUMBNAIL)]) (fun _ kk => X4.aaload hx (j := (1 : Int32)) (v := (.ref w_THUMBNAIL)) (by rw [e4]; exact Ar5.1) (State.isArrayOf_alike hZ.alike Ar5.2.1) rfl Ar5.2.2 hin5 (Has.at H5 hin5 rfl) (g := (mkF mG 16 #[.val (.int x), .val (.ref b0_1), .val (.int (6 : Int32)), .val (.int (1 : Int32)), .val (.ref w_IMAGE_600)] [(.int (1 : Int32)), (.ref b0_1)])) rfl rfl (hb hby d1_16) _ kk) ?_
  refine ob T4 (mkF mG 19 #[.val (.int x), .val (.ref b0_1), .val (.int (6 : Int32)), .val (.int (1 : Int32)), .val (.ref w_THUMBNAIL)] []) (fun _ kk => XS.astore X4.here hx rfl (hb hby d1_17) rfl rfl (l' := #[.val (.int x), .val (.ref b0_1), .val (.int (6 : Int32)), .val (.int (1 : Int32)), .val (.ref w_THUMBNAIL)]) rfl kk) ?_
  refine ob T4 (mkF mG 21 #[.val (.int x), .val (.ref b0_1), .val (.int (6 : Int32)), .val (.int (1 : Int32)), .val (.ref w_THUMBNAIL)] [(.ref w_THUMBNAIL)]) (fun _ kk => XS.aload X4.here hx rfl (hb hby d1_19) rfl rfl kk) ?_
  obtain ⟨T6, X6, e6, st6⟩ := getF X4 hx hZ hown (host := "") (Or.inl (ow hw 25 rfl)) Via.refl e4 (F_w_THUMBNAIL_number.ext O1.2) (g := (mkF mG 21 #[.val (.int x), .val (.ref b0_1), .val (.int (6 : Int32)), .val (.int (1 : Int32)), .val (.ref w_THUMBNAIL)] [(.ref w_THUMBNAIL)])) rfl rfl (hb hby d1_21)
  refine ob T6 (mkF mG 24 #[.val (.int x), .val (.ref b0_1), .val (.int (6 : Int32)), .val (.int (1 : Int32)), .val (.ref w_THUMBNAIL)] [(.int (2 : Int32))]) (fun _ kk => st6 _ kk) ?_
  refine ob T6 (mkF mG 25 #[.val (.int x), .val (.ref b0_1), .val (.int (6 : Int32)), .val (.int (1 : Int32)), .val (.ref w_THUMBNAIL)] [(.int x), (.int (2 : Int32))]) (fun _ kk => XS.iloadN X6.here hx rfl (hb hby d1_24) rfl kk) ?_
  refine ob T6 (mkF mG 31 #[.val (.int x), .val (.ref b0_1), .val (.int (6 : Int32)), .val (.int (1 : Int32)), .val (.ref w_THUMBNAIL)] []) (fun _ kk => XS.icmpYes X6.here hx rfl (pc0 := 25) (pc' := 31) rfl (hb hby d1_25) rfl (feq (fun q => hx2 q.symm)).2 (by decide) (by decide) kk) ?_
  refine ob T6 (mkF mG 34 #[.val (.int x), .val (.ref b0_1), .val (.int (6 : Int32)), .val (.int (2 : Int32)), .val (.ref w_THUMBNAIL)] []) (fun _ kk => XS.iinc X6.here hx rfl (hb hby d1_31) rfl (l' := #[.val (.int x), .val (.ref b0_1), .val (.int (6 : Int32)), .val (.int (2 : Int32)), .val (.ref w_THUMBNAIL)]) rfl kk) ?_
  refine ob T6 (mkF mG 9 #[.val (.int x), .val (.ref b0_1), .val (.int (6 : Int32)), .val (.int (2 : Int32)), .val (.ref w_THUMBNAIL)] []) (fun _ kk => XS.goto X6.here hx rfl (pc0 := 34) (pc' := 9) rfl (hb hby d1_34) (by decide) (by decide) kk) ?_
  refine ob T6 (mkF mG 10 #[.val (.int x), .val (.ref b0_1), .val (.int (6 : Int32)), .val (.int (2 : Int32)), .val (.ref w_THUMBNAIL)] [(.int (2 : Int32))]) (fun _ kk => XS.iloadN X6.here hx rfl (hb hby d1_9) rfl kk) ?_
  refine ob T6 (mkF mG 11 #[.val (.int x), .val (.ref b0_1), .val (.int (6 : Int32)), .val (.int (2 : Int32)), .val (.ref w_THUMBNAIL)] [(.int (6 : Int32)), (.int (2 : Int32))]) (fun _ kk => XS.iloadN X6.here hx rfl (hb hby d1_10) rfl kk) ?_
  refine ob T6 (mkF mG 14 #[.val (.int x), .val (.ref b0_1), .val (.int (6 : Int32)), .val (.int (2 : Int32)), .val (.ref w_THUMBNAIL)] []) (fun _ kk => XS.icmpNo X6.here hx rfl (hb hby d1_11) rfl (tlt (by decide : (2 : Int32) < (6 : Int32))).2.1 kk) ?_
  refine ob T6 (mkF mG 15 #[.val (.int x), .val (.ref b0_1), .val (.int (6 : Int32)), .val (.int (2 : Int32)), .val (.ref w_THUMBNAIL)] [(.ref b0_1)]) (fun _ kk => XS.aloadN X6.here hx rfl (hb hby d1_14) rfl rfl kk) ?_
  refine ob T6 (mkF mG 16 #[.val (.int x), .val (.ref b0_1), .val (.int (6 : Int32)), .val (.int (2 : Int32)), .val (.ref w_THUMBNAIL)] [(.int (2 : Int32)), (.ref b0_1)]) (fun _ kk => XS.iloadN X6.here hx rfl (hb hby d1_15) rfl kk) ?_
  obtain ⟨cl7, Ar7, -, S7, N7a, H7, -⟩ := id F1_1
  have hin7 : ¬ ((2 : Int32) < 0 ∨ cl7.slots.size ≤ ((2 : Int32)).toNatClampNeg) := inb_of S7 ⟨by decide, by decide⟩
  refine ob T6 (mkF mG 17 #[.val (.int x), .val (.ref b0_1), .val (.int (6 : Int32)), .val (.int (2 : Int32)), .val (.ref w_THUMBNAIL)] [(.ref w_PAGE_TEXT)]) (fun _ kk => X6.aaload hx (j := (2 : Int32)) (v := (.ref w_PAGE_TEXT)) (by rw [e6]; exact Ar7.1) (State.isArrayOf_alike hZ.alike Ar7.2.1) rfl Ar7.2.2 hin7 (Has.at H7 hin7 rfl) (g := (mkF mG 16 #[.val (.int x), .val (.ref b0_1), .val (.int (6 : Int32)), .val (.int (2 : Int32)), .val (.ref w_THUMBNAIL)] [(.int (2 : Int32)), (.ref b0_1)])) rfl rfl (hb hby d1_16) _ kk) ?_
  refine ob T6 (mkF mG 19 #[.val (.int x), .val (.ref b0_1), .val (.int (6 : Int32)), .val (.int (2 : Int32)), .val (.ref w_PAGE_TEXT)] []) (fun _ kk => XS.astore X6.here hx rfl (hb hby d1_17) rfl rfl (l' := #[.val (.int x), .val (.ref b0_1), .val (.int (6 : Int32)), .val (.int (2 : Int32)), .val (.ref w_PAGE_TEXT)]) rfl kk) ?_
  refine ob T6 (mkF mG 21 #[.val (.int x), .val (.ref b0_1), .val (.int (6 : Int32)), .val (.int (2 : Int32)), .val (.ref w_PAGE_TEXT)] [(.ref w_PAGE_TEXT)]) (fun _ kk => XS.aload X6.here hx rfl (hb hby d1_19) rfl rfl kk) ?_
  obtain ⟨T8, X8, e8, st8⟩ := getF X6 hx hZ hown (host := "") (Or.inl (ow hw 25 rfl)) Via.refl e6 (F_w_PAGE_TEXT_number.ext O1.2) (g := (mkF mG 21 #[.val (.int x), .val (.ref b0_1), .val (.int (6 : Int32)), .val (.int (2 : Int32)), .val (.ref w_PAGE_TEXT)] [(.ref w_PAGE_TEXT)])) rfl rfl (hb hby d1_21)
  refine ob T8 (mkF mG 24 #[.val (.int x), .val (.ref b0_1), .val (.int (6 : Int32)), .val (.int (2 : Int32)), .val (.ref w_PAGE_TEXT)] [(.int (3 : Int32))]) (fun _ kk => st8 _ kk) ?_
  refine ob T8 (mkF mG 25 #[.val (.int x), .val (.ref b0_1), .val (.int (6 : Int32)), .val (.int (2 : Int32)), .val (.ref w_PAGE_TEXT)] [(.int x), (.int (3 : Int32))]) (fun _ kk => XS.iloadN X8.here hx rfl (hb hby d1_24) rfl kk) ?_
  refine ob T8 (mkF mG 31 #[.val (.int x), .val (.ref b0_1), .val (.int (6 : Int32)), .val (.int (2 : Int32)), .val (.ref w_PAGE_TEXT)] []) (fun _ kk => XS.icmpYes X8.here hx rfl (pc0 := 25) (pc' := 31) rfl (hb hby d1_25) rfl (feq (fun q => hx3 q.symm)).2 (by decide) (by decide) kk) ?_
  refine ob T8 (mkF mG 34 #[.val (.int x), .val (.ref b0_1), .val (.int (6 : Int32)), .val (.int (3 : Int32)), .val (.ref w_PAGE_TEXT)] []) (fun _ kk => XS.iinc X8.here hx rfl (hb hby d1_31) rfl (l' := #[.val (.int x), .val (.ref b0_1), .val (.int (6 : Int32)), .val (.int (3 : Int32)), .val (.ref w_PAGE_TEXT)]) rfl kk) ?_
  refine ob T8 (mkF mG 9 #[.val (.int x), .val (.ref b0_1), .val (.int (6 : Int32)), .val (.int (3 : Int32)), .val (.ref w_PAGE_TEXT)] []) (fun _ kk => XS.goto X8.here hx rfl (pc0 := 34) (pc' := 9) rfl (hb hby d1_34) (by decide) (by decide) kk) ?_
  refine ob T8 (mkF mG 10 #[.val (.int x), .val (.ref b0_1), .val (.int (6 : Int32)), .val (.int (3 : Int32)), .val (.ref w_PAGE_TEXT)] [(.int (3 : Int32))]) (fun _ kk => XS.iloadN X8.here hx rfl (hb hby d1_9) rfl kk) ?_
  refine ob T8 (mkF mG 11 #[.val (.int x), .val (.ref b0_1), .val (.int (6 : Int32)), .val (.int (3 : Int32)), .val (.ref w_PAGE_TEXT)] [(.int (6 : Int32)), (.int (3 : Int32))]) (fun _ kk => XS.iloadN X8.here hx rfl (hb hby d1_10) rfl kk) ?_
  refine ob T8 (mkF mG 14 #[.val (.int x), .val (.ref b0_1), .val (.int (6 : Int32)), .val (.int (3 : Int32)), .val (.ref w_PAGE_TEXT)] []) (fun _ kk => XS.icmpNo X8.here hx rfl (hb hby d1_11) rfl (tlt (by decide : (3 : Int32) < (6 : Int32))).2.1 kk) ?_
  refine ob T8 (mkF mG 15 #[.val (.int x), .val (.ref b0_1), .val (.int (6 : Int32)), .val (.int (3 : Int32)), .val (.ref w_PAGE_TEXT)] [(.ref b0_1)]) (fun _ kk => XS.aloadN X8.here hx rfl (hb hby d1_14) rfl rfl kk) ?_
  refine ob T8 (mkF mG 16 #[.val (.int x), .val (.ref b0_1), .val (.int (6 : Int32)), .val (.int (3 : Int32)), .val (.ref w_PAGE_TEXT)] [(.int (3 : Int32)), (.ref b0_1)]) (fun _ kk => XS.iloadN X8.here hx rfl (hb hby d1_15) rfl kk) ?_
  obtain ⟨cl9, Ar9, -, S9, N9a, H9, -⟩ := id F1_1
  have hin9 : ¬ ((3 : Int32) < 0 ∨ cl9.slots.size ≤ ((3 : Int32)).toNatClampNeg) := inb_of S9 ⟨by decide, by decide⟩
  refine ob T8 (mkF mG 17 #[.val (.int x), .val (.ref b0_1), .val (.int (6 : Int32)), .val (.int (3 : Int32)), .val (.ref w_PAGE_TEXT)] [(.ref w_NOTES)]) (fun _ kk => X8.aaload hx (j := (3 : Int32)) (v := (.ref w_NOTES)) (by rw [e8]; exact Ar9.1) (State.isArrayOf_alike hZ.alike Ar9.2.1) rfl Ar9.2.2 hin9 (Has.at H9 hin9 rfl) (g := (mkF mG 16 #[.val (.int x), .val (.ref b0_1), .val (.int (6 : Int32)), .val (.int (3 : Int32)), .val (.ref w_PAGE_TEXT)] [(.int (3 : Int32)), (.ref b0_1)])) rfl rfl (hb hby d1_16) _ kk) ?_
  refine ob T8 (mkF mG 19 #[.val (.int x), .val (.ref b0_1), .val (.int (6 : Int32)), .val (.int (3 : Int32)), .val (.ref w_NOTES)] []) (fun _ kk => XS.astore X8.here hx rfl (hb hby d1_17) rfl rfl (l' := #[.val (.int x), .val (.ref b0_1), .val (.int (6 : Int32)), .val (.int (3 : Int32)), .val (.ref w_NOTES)]) rfl kk) ?_
  refine ob T8 (mkF mG 21 #[.val (.int x), .val (.ref b0_1), .val (.int (6 : Int32)), .val (.int (3 : Int32)), .val (.ref w_NOTES)] [(.ref w_NOTES)]) (fun _ kk => XS.aload X8.here hx rfl (hb hby d1_19) rfl rfl kk) ?_
  obtain ⟨T10, X10, e10, st10⟩ := getF X8 hx hZ hown (host := "") (Or.inl (ow hw 25 rfl)) Via.refl e8 (F_w_NOTES_number.ext O1.2) (g := (mkF mG 21 #[.val (.int x), .val (.ref b0_1), .val (.int (6 : Int32)), .val (.int (3 : Int32)), .val (.ref w_NOTES)] [(.ref w_NOTES)])) rfl rfl (hb hby d1_21)
  refine ob T10 (mkF mG 24 #[.val (.int x), .val (.ref b0_1), .val (.int (6 : Int32)), .val (.int (3 : Int32)), .val (.ref w_NOTES)] [(.int (4 : Int32))]) (fun _ kk => st10 _ kk) ?_
  refine ob T10 (mkF mG 25 #[.val (.int x), .val (.ref b0_1), .val (.int (6 : Int32)), .val (.int (3 : Int32)), .val (.ref w_NOTES)] [(.int x), (.int (4 : Int32))]) (fun _ kk => XS.iloadN X10.here hx rfl (hb hby d1_24) rfl kk) ?_
  refine ob T10 (mkF mG 31 #[.val (.int x), .val (.ref b0_1), .val (.int (6 : Int32)), .val (.int (3 : Int32)), .val (.ref w_NOTES)] []) (fun _ kk => XS.icmpYes X10.here hx rfl (pc0 := 25) (pc' := 31) rfl (hb hby d1_25) rfl (feq (fun q => hx4 q.symm)).2 (by decide) (by decide) kk) ?_
  refine ob T10 (mkF mG 34 #[.val (.int x), .val (.ref b0_1), .val (.int (6 : Int32)), .val (.int (4 : Int32)), .val (.ref w_NOTES)] []) (fun _ kk => XS.iinc X10.here hx rfl (hb hby d1_31) rfl (l' := #[.val (.int x), .val (.ref b0_1), .val (.int (6 : Int32)), .val (.int (4 : Int32)), .val (.ref w_NOTES)]) rfl kk) ?_
  refine ob T10 (mkF mG 9 #[.val (.int x), .val (.ref b0_1), .val (.int (6 : Int32)), .val (.int (4 : Int32)), .val (.ref w_NOTES)] []) (fun _ kk => XS.goto X10.here hx rfl (pc0 := 34) (pc' := 9) rfl (hb hby d1_34) (by decide) (by decide) kk) ?_
  refine ob T10 (mkF mG 10 #[.val (.int x), .val (.ref b0_1), .val (.int (6 : Int32)), .val (.int (4 : Int32)), .val (.ref w_NOTES)] [(.int (4 : Int32))]) (fun _ kk => XS.iloadN X10.here hx rfl (hb hby d1_9) rfl kk) ?_
  refine ob T10 (mkF mG 11 #[.val (.int x), .val (.ref b0_1), .val (.int (6 : Int32)), .val (.int (4 : Int32)), .val (.ref w_NOTES)] [(.int (6 : Int32)), (.int (4 : Int32))]) (fun _ kk => XS.iloadN X10.here hx rfl (hb hby d1_10) rfl kk) ?_
  refine ob T10 (mkF mG 14 #[.val (.int x), .val (.ref b0_1), .val (.int (6 : Int32)), .val (.int (4 : Int32)), .val (.ref w_NOTES)] []) (fun _ kk => XS.icmpNo X10.here hx rfl (hb hby d1_11) rfl (tlt (by decide : (4 : Int32) < (6 : Int32))).2.1 kk) ?_
  refine ob T10 (mkF mG 15 #[.val (.int x), .val (.ref b0_1), .val (.int (6 : Int32)), .val (.int (4 : Int32)), .val (.ref w_NOTES)] [(.ref b0_1)]) (fun _ kk => XS.aloadN X10.here hx rfl (hb hby d1_14) rfl rfl kk) ?_
  refine ob T10 (mkF mG 16 #[.val (.int x), .val (.ref b0_1), .val (.int (6 : Int32)), .val (.int (4 : Int32)), .val (.ref w_NOTES)] [(.int (4 : Int32)), (.ref b0_1)]) (fun _ kk => XS.iloadN X10.here hx rfl (hb hby d1_15) rfl kk) ?_
  obtain ⟨cl11, Ar11, -, S11, N11a, H11, -⟩ := id F1_1
  have hin11 : ¬ ((4 : Int32) < 0 ∨ cl11.slots.size ≤ ((4 : Int32)).toNatClampNeg) := inb_of S11 ⟨by decide, by decide⟩
  refine ob T10 (mkF mG 17 #[.val (.int x), .val (.ref b0_1), .val (.int (6 : Int32)), .val (.int (4 : Int32)), .val (.ref w_NOTES)] [(.ref w_OTHER)]) (fun _ kk => X10.aaload hx (j := (4 : Int32)) (v := (.ref w_OTHER)) (by rw [e10]; exact Ar11.1) (State.isArrayOf_alike hZ.alike Ar11.2.1) rfl Ar11.2.2 hin11 (Has.at H11 hin11 rfl) (g := (mkF mG 16 #[.val (.int x), .val (.ref b0_1), .val (.int (6 : Int32)), .val (.int (4 : Int32)), .val (.ref w_NOTES)] [(.int (4 : Int32)), (.ref b0_1)])) rfl rfl (hb hby d1_16) _ kk) ?_
  refine ob T10 (mkF mG 19 #[.val (.int x), .val (.ref b0_1), .val (.int (6 : Int32)), .val (.int (4 : Int32)), .val (.ref w_OTHER)] []) (fun _ kk => XS.astore X10.here hx rfl (hb hby d1_17) rfl rfl (l' := #[.val (.int x), .val (.ref b0_1), .val (.int (6 : Int32)), .val (.int (4 : Int32)), .val (.ref w_OTHER)]) rfl kk) ?_
  refine ob T10 (mkF mG 21 #[.val (.int x), .val (.ref b0_1), .val (.int (6 : Int32)), .val (.int (4 : Int32)), .val (.ref w_OTHER)] [(.ref w_OTHER)]) (fun _ kk => XS.aload X10.here hx rfl (hb hby d1_19) rfl rfl kk) ?_
  obtain ⟨T12, X12, e12, st12⟩ := getF X10 hx hZ hown (host := "") (Or.inl (ow hw 25 rfl)) Via.refl e10 (F_w_OTHER_number.ext O1.2) (g := (mkF mG 21 #[.val (.int x), .val (.ref b0_1), .val (.int (6 : Int32)), .val (.int (4 : Int32)), .val (.ref w_OTHER)] [(.ref w_OTHER)])) rfl rfl (hb hby d1_21)
  refine ob T12 (mkF mG 24 #[.val (.int x), .val (.ref b0_1), .val (.int (6 : Int32)), .val (.int (4 : Int32)), .val (.ref w_OTHER)] [(.int (5 : Int32))]) (fun _ kk => st12 _ kk) ?_
  refine ob T12 (mkF mG 25 #[.val (.int x), .val (.ref b0_1), .val (.int (6 : Int32)), .val (.int (4 : Int32)), .val (.ref w_OTHER)] [(.int x), (.int (5 : Int32))]) (fun _ kk => XS.iloadN X12.here hx rfl (hb hby d1_24) rfl kk) ?_
  refine ob T12 (mkF mG 31 #[.val (.int x), .val (.ref b0_1), .val (.int (6 : Int32)), .val (.int (4 : Int32)), .val (.ref w_OTHER)] []) (fun _ kk => XS.icmpYes X12.here hx rfl (pc0 := 25) (pc' := 31) rfl (hb hby d1_25) rfl (feq (fun q => hx5 q.symm)).2 (by decide) (by decide) kk) ?_
  refine ob T12 (mkF mG 34 #[.val (.int x), .val (.ref b0_1), .val (.int (6 : Int32)), .val (.int (5 : Int32)), .val (.ref w_OTHER)] []) (fun _ kk => XS.iinc X12.here hx rfl (hb hby d1_31) rfl (l' := #[.val (.int x), .val (.ref b0_1), .val (.int (6 : Int32)), .val (.int (5 : Int32)), .val (.ref w_OTHER)]) rfl kk) ?_
  refine ob T12 (mkF mG 9 #[.val (.int x), .val (.ref b0_1), .val (.int (6 : Int32)), .val (.int (5 : Int32)), .val (.ref w_OTHER)] []) (fun _ kk => XS.goto X12.here hx rfl (pc0 := 34) (pc' := 9) rfl (hb hby d1_34) (by decide) (by decide) kk) ?_
  refine ob T12 (mkF mG 10 #[.val (.int x), .val (.ref b0_1), .val (.int (6 : Int32)), .val (.int (5 : Int32)), .val (.ref w_OTHER)] [(.int (5 : Int32))]) (fun _ kk => XS.iloadN X12.here hx rfl (hb hby d1_9) rfl kk) ?_
  refine ob T12 (mkF mG 11 #[.val (.int x), .val (.ref b0_1), .val (.int (6 : Int32)), .val (.int (5 : Int32)), .val (.ref w_OTHER)] [(.int (6 : Int32)), (.int (5 : Int32))]) (fun _ kk => XS.iloadN X12.here hx rfl (hb hby d1_10) rfl kk) ?_
  refine ob T12 (mkF mG 14 #[.val (.int x), .val (.ref b0_1), .val (.int (6 : Int32)), .val (.int (5 : Int32)), .val (.ref w_OTHER)] []) (fun _ kk => XS.icmpNo X12.here hx rfl (hb hby d1_11) rfl (tlt (by decide : (5 : Int32) < (6 : Int32))).2.1 kk) ?_
  refine ob T12 (mkF mG 15 #[.val (.int x), .val (.ref b0_1), .val (.int (6 : Int32)), .val (.int (5 : Int32)), .val (.ref w_OTHER)] [(.ref b0_1)]) (fun _ kk => XS.aloadN X12.here hx rfl (hb hby d1_14) rfl rfl kk) ?_
  refine ob T12 (mkF mG 16 #[.val (.int x), .val (.ref b0_1), .val (.int (6 : Int32)), .val (.int (5 : Int32)), .val (.ref w_OTHER)] [(.int (5 : Int32)), (.ref b0_1)]) (fun _ kk => XS.iloadN X12.here hx rfl (hb hby d1_15) rfl kk) ?_
  obtain ⟨cl13, Ar13, -, S13, N13a, H13, -⟩ := id F1_1
  have hin13 : ¬ ((5 : Int32) < 0 ∨ cl13.slots.size ≤ ((5 : Int32)).toNatClampNeg) := inb_of S13 ⟨by decide, by decide⟩
  refine ob T12 (mkF mG 17 #[.val (.int x), .val (.ref b0_1), .val (.int (6 : Int32)), .val (.int (5 : Int32)), .val (.ref w_OTHER)] [(.ref w_IMAGE_300)]) (fun _ kk => X12.aaload hx (j := (5 : Int32)) (v := (.ref w_IMAGE_300)) (by rw [e12]; exact Ar13.1) (State.isArrayOf_alike hZ.alike Ar13.2.1) rfl Ar13.2.2 hin13 (Has.at H13 hin13 rfl) (g := (mkF mG 16 #[.val (.int x), .val (.ref b0_1), .val (.int (6 : Int32)), .val (.int (5 : Int32)), .val (.ref w_OTHER)] [(.int (5 : Int32)), (.ref b0_1)])) rfl rfl (hb hby d1_16) _ kk) ?_
  refine ob T12 (mkF mG 19 #[.val (.int x), .val (.ref b0_1), .val (.int (6 : Int32)), .val (.int (5 : Int32)), .val (.ref w_IMAGE_300)] []) (fun _ kk => XS.astore X12.here hx rfl (hb hby d1_17) rfl rfl (l' := #[.val (.int x), .val (.ref b0_1), .val (.int (6 : Int32)), .val (.int (5 : Int32)), .val (.ref w_IMAGE_300)]) rfl kk) ?_
  refine ob T12 (mkF mG 21 #[.val (.int x), .val (.ref b0_1), .val (.int (6 : Int32)), .val (.int (5 : Int32)), .val (.ref w_IMAGE_300)] [(.ref w_IMAGE_300)]) (fun _ kk => XS.aload X12.here hx rfl (hb hby d1_19) rfl rfl kk) ?_
  obtain ⟨T14, X14, e14, st14⟩ := getF X12 hx hZ hown (host := "") (Or.inl (ow hw 25 rfl)) Via.refl e12 (F_w_IMAGE_300_number.ext O1.2) (g := (mkF mG 21 #[.val (.int x), .val (.ref b0_1), .val (.int (6 : Int32)), .val (.int (5 : Int32)), .val (.ref w_IMAGE_300)] [(.ref w_IMAGE_300)])) rfl rfl (hb hby d1_21)
  refine ob T14 (mkF mG 24 #[.val (.int x), .val (.ref b0_1), .val (.int (6 : Int32)), .val (.int (5 : Int32)), .val (.ref w_IMAGE_300)] [(.int (6 : Int32))]) (fun _ kk => st14 _ kk) ?_
  refine ob T14 (mkF mG 25 #[.val (.int x), .val (.ref b0_1), .val (.int (6 : Int32)), .val (.int (5 : Int32)), .val (.ref w_IMAGE_300)] [(.int x), (.int (6 : Int32))]) (fun _ kk => XS.iloadN X14.here hx rfl (hb hby d1_24) rfl kk) ?_
  refine ob T14 (mkF mG 31 #[.val (.int x), .val (.ref b0_1), .val (.int (6 : Int32)), .val (.int (5 : Int32)), .val (.ref w_IMAGE_300)] []) (fun _ kk => XS.icmpYes X14.here hx rfl (pc0 := 25) (pc' := 31) rfl (hb hby d1_25) rfl (feq (fun q => hx6 q.symm)).2 (by decide) (by decide) kk) ?_
  refine ob T14 (mkF mG 34 #[.val (.int x), .val (.ref b0_1), .val (.int (6 : Int32)), .val (.int (6 : Int32)), .val (.ref w_IMAGE_300)] []) (fun _ kk => XS.iinc X14.here hx rfl (hb hby d1_31) rfl (l' := #[.val (.int x), .val (.ref b0_1), .val (.int (6 : Int32)), .val (.int (6 : Int32)), .val (.ref w_IMAGE_300)]) rfl kk) ?_
  refine ob T14 (mkF mG 9 #[.val (.int x), .val (.ref b0_1), .val (.int (6 : Int32)), .val (.int (6 : Int32)), .val (.ref w_IMAGE_300)] []) (fun _ kk => XS.goto X14.here hx rfl (pc0 := 34) (pc' := 9) rfl (hb hby d1_34) (by decide) (by decide) kk) ?_
  refine ob T14 (mkF mG 10 #[.val (.int x), .val (.ref b0_1), .val (.int (6 : Int32)), .val (.int (6 : Int32)), .val (.ref w_IMAGE_300)] [(.int (6 : Int32))]) (fun _ kk => XS.iloadN X14.here hx rfl (hb hby d1_9) rfl kk) ?_
  refine ob T14 (mkF mG 11 #[.val (.int x), .val (.ref b0_1), .val (.int (6 : Int32)), .val (.int (6 : Int32)), .val (.ref w_IMAGE_300)] [(.int (6 : Int32)), (.int (6 : Int32))]) (fun _ kk => XS.iloadN X14.here hx rfl (hb hby d1_10) rfl kk) ?_
  refine ob T14 (mkF mG 37 #[.val (.int x), .val (.ref b0_1), .val (.int (6 : Int32)), .val (.int (6 : Int32)), .val (.ref w_IMAGE_300)] []) (fun _ kk => XS.icmpYes X14.here hx rfl (pc0 := 11) (pc' := 37) rfl (hb hby d1_11) rfl (flt (by decide : ¬ ((6 : Int32) < (6 : Int32)))).2.1 (by decide) (by decide) kk) ?_
  refine ob T14 (mkF mG 38 #[.val (.int x), .val (.ref b0_1), .val (.int (6 : Int32)), .val (.int (6 : Int32)), .val (.ref w_IMAGE_300)] [.null]) (fun _ kk => XS.aconstNull X14.here hx rfl (hb hby d1_37) kk) ?_
  obtain ⟨fs, hr, hrun, hended, hW, hsame⟩ := X14.leave (v := some .null) (fun h => by rw [Bd.returns] at h; cases h)
  refine oout (oretA X14 hx Bd.returns rfl rfl (hb hby d1_38) hr) hrun hended ⟨_, _, rfl, ?_, ⟨_, rfl⟩, hW, hsame.mono (by decide) (by decide)⟩
  show Q_rm_of0 Z w_IMAGE_600 w_THUMBNAIL w_PAGE_TEXT w_NOTES w_OTHER w_IMAGE_300 w_VALUES c_VALUES x h0 n0 _ T14.heap _
  rw [e14]
  exact ⟨rfl, N1, K1, O1⟩

theorem d3_55 : decode method_3_code 55 = .ok (.aconst_null, 1) := by decide +kernel
theorem d3_56 : decode method_3_code 56 = .ok (.areturn, 1) := by decide +kernel
def Q_rm_ex0 (Z : State) (w_IMAGE_600 : Addr) (w_THUMBNAIL : Addr) (w_PAGE_TEXT : Addr) (w_NOTES : Addr) (w_OTHER : Addr) (w_IMAGE_300 : Addr) (w_VALUES : Addr) (c_VALUES : Cell) (x : Int32) (h0 : Heap) (n0 : Nat) (v : Option Value) (h : Heap) (L : List Loc) : Prop := v = some .null ∧ Fr n0 L ∧ h = h0
set_option maxRecDepth 65536 in
set_option maxHeartbeats 40000000 in
theorem rm_ex0 (l : Launch) (Z : State) (a0 : Array Value) (hw : ∀ d ∈ tables_1, d.before a0 Z = true) (ws : List Jvm.Cond) (w_IMAGE_600 : Addr) (w_THUMBNAIL : Addr) (w_PAGE_TEXT : Addr) (w_NOTES : Addr) (w_OTHER : Addr) (w_IMAGE_300 : Addr) (w_VALUES : Addr) (c_VALUES : Cell) (x : Int32) (h0 : Heap) (n0 : Nat) (O0 : Old Z n0 h0) (hS : St0 Z w_IMAGE_600 w_THUMBNAIL w_PAGE_TEXT w_NOTES w_OTHER w_IMAGE_300 w_VALUES c_VALUES ) (hx1 : ¬ (x = (1 : Int32))) (hx2 : ¬ (x = (2 : Int32))) (hx3 : ¬ (x = (3 : Int32))) (hx4 : ¬ (x = (4 : Int32))) (hx5 : ¬ (x = (5 : Int32))) (hx6 : ¬ (x = (6 : Int32))) :
    MetFree l (⟨"com/example/carrel/carrel/document/FileTypeOfPinLaw", "expected", "(I)Lcom/example/carrel/carrel/document/BoundDocument$FileType;"⟩ : MethodName) (head1 (Jvm.Cond.code (⟨"com/example/carrel/carrel/document/FileTypeOfPinLaw", "expected", "(I)Lcom/example/carrel/carrel/document/BoundDocument$FileType;"⟩ : MethodName) method_3_code 1 (some (.object "com/example/carrel/carrel/document/BoundDocument$FileType")) :: ws) ({ frames := 0, cells := 0, slots := 0, locals := 0 } : Room)) (fun aG UG => aG = #[(.int x)] ∧ Z.Warmed39 UG.vm ∧ UG.heap = h0) (fun _ _ _ _ _ => True) (fun _ UG oG UG' => ∃ vG LG, oG = .returned vG ∧ Q_rm_ex0 Z w_IMAGE_600 w_THUMBNAIL w_PAGE_TEXT w_NOTES w_OTHER w_IMAGE_300 w_VALUES c_VALUES x h0 n0 vG UG'.heap LG ∧ FrameEnd UG oG UG' LG ({ frames := 0, cells := 0, slots := 0, locals := 0 } : Room).cells ({ frames := 0, cells := 0, slots := 0, locals := 0 } : Room).slots) := by
  refine MetFree.of_bodySF (plainFor_of_name pn_1) hisR ?_
  intro pG eG sG mG argsG belowG methG cG s₁ Bd hml0 hP hK
  obtain ⟨rfl, hZ, hh⟩ := hP
  have hx := Bd.exec
  have hby := Bd.bytes
  have hml : cG.maxLocals = 1 := hml0
  have hown : sG.vm.findClass "com/example/carrel/carrel/document/FileTypeOfPinLaw" = some mG.cls := findClass_of_methodNamed Bd.named
  have hnm := (name_of_methodNamed Bd.named Bd.method).1
  have X0 : Stand pG l eG ({ frames := 0, cells := 0, slots := 0, locals := 0 } : Room) sG mG #[(.int x)] belowG methG cG s₁ [] 0 0 := Stand.of_body Bd
  have e0 : s₁.heap = h0 := by rw [← hh, Bd.state]; rfl
  have N0 := Fr.nil n0
  have K0 := Keep.refl h0 []
  obtain ⟨S_w_IMAGE_600, E_w_IMAGE_600, S_w_THUMBNAIL, E_w_THUMBNAIL, S_w_PAGE_TEXT, E_w_PAGE_TEXT, S_w_NOTES, E_w_NOTES, S_w_OTHER, E_w_OTHER, S_w_IMAGE_300, E_w_IMAGE_300, S_w_VALUES, E_w_VALUES, V_w_VALUES, F_w_IMAGE_600_number, F_w_THUMBNAIL_number, F_w_PAGE_TEXT_number, F_w_NOTES_number, F_w_OTHER_number, F_w_IMAGE_300_number, ne_w_IMAGE_600_w_THUMBNAIL, ne_w_IMAGE_600_w_PAGE_TEXT, ne_w_IMAGE_600_w_NOTES, ne_w_IMAGE_600_w_OTHER, ne_w_IMAGE_600_w_IMAGE_300, ne_w_THUMBNAIL_w_PAGE_TEXT, ne_w_THUMBNAIL_w_NOTES, ne_w_THUMBNAIL_w_OTHER, ne_w_THUMBNAIL_w_IMAGE_300, ne_w_PAGE_TEXT_w_NOTES, ne_w_PAGE_TEXT_w_OTHER, ne_w_PAGE_TEXT_w_IMAGE_300, ne_w_NOTES_w_OTHER, ne_w_NOTES_w_IMAGE_300, ne_w_OTHER_w_IMAGE_300⟩ := (id hS : St0 Z w_IMAGE_600 w_THUMBNAIL w_PAGE_TEXT w_NOTES w_OTHER w_IMAGE_300 w_VALUES c_VALUES )
  refine ostart (g' := (mkF mG 0 #[.val (.int x)] [])) (by first | (simp [entryFrame, mkF, argsToLocals, Value.category]; done) | rfl) ?_
  refine ob s₁ (mkF mG 1 #[.val (.int x)] [(.int x)]) (fun _ kk => XS.iloadN X0.here hx rfl (hb hby d3_0) rfl kk) ?_
  refine ob s₁ (mkF mG 2 #[.val (.int x)] [(.int (1 : Int32)), (.int x)]) (fun _ kk => XS.iconst X0.here hx rfl (hb hby d3_1) kk) ?_
  refine ob s₁ (mkF mG 9 #[.val (.int x)] []) (fun _ kk => XS.icmpYes X0.here hx rfl (pc0 := 2) (pc' := 9) rfl (hb hby d3_2) rfl (feq hx1).2 (by decide) (by decide) kk) ?_
  refine ob s₁ (mkF mG 10 #[.val (.int x)] [(.int x)]) (fun _ kk => XS.iloadN X0.here hx rfl (hb hby d3_9) rfl kk) ?_
  refine ob s₁ (mkF mG 11 #[.val (.int x)] [(.int (2 : Int32)), (.int x)]) (fun _ kk => XS.iconst X0.here hx rfl (hb hby d3_10) kk) ?_
  refine ob s₁ (mkF mG 18 #[.val (.int x)] []) (fun _ kk => XS.icmpYes X0.here hx rfl (pc0 := 11) (pc' := 18) rfl (hb hby d3_11) rfl (feq hx2).2 (by decide) (by decide) kk) ?_
  refine ob s₁ (mkF mG 19 #[.val (.int x)] [(.int x)]) (fun _ kk => XS.iloadN X0.here hx rfl (hb hby d3_18) rfl kk) ?_
  refine ob s₁ (mkF mG 20 #[.val (.int x)] [(.int (3 : Int32)), (.int x)]) (fun _ kk => XS.iconst X0.here hx rfl (hb hby d3_19) kk) ?_
  refine ob s₁ (mkF mG 27 #[.val (.int x)] []) (fun _ kk => XS.icmpYes X0.here hx rfl (pc0 := 20) (pc' := 27) rfl (hb hby d3_20) rfl (feq hx3).2 (by decide) (by decide) kk) ?_
  refine ob s₁ (mkF mG 28 #[.val (.int x)] [(.int x)]) (fun _ kk => XS.iloadN X0.here hx rfl (hb hby d3_27) rfl kk) ?_
  refine ob s₁ (mkF mG 29 #[.val (.int x)] [(.int (4 : Int32)), (.int x)]) (fun _ kk => XS.iconst X0.here hx rfl (hb hby d3_28) kk) ?_
  refine ob s₁ (mkF mG 36 #[.val (.int x)] []) (fun _ kk => XS.icmpYes X0.here hx rfl (pc0 := 29) (pc' := 36) rfl (hb hby d3_29) rfl (feq hx4).2 (by decide) (by decide) kk) ?_
  refine ob s₁ (mkF mG 37 #[.val (.int x)] [(.int x)]) (fun _ kk => XS.iloadN X0.here hx rfl (hb hby d3_36) rfl kk) ?_
  refine ob s₁ (mkF mG 38 #[.val (.int x)] [(.int (5 : Int32)), (.int x)]) (fun _ kk => XS.iconst X0.here hx rfl (hb hby d3_37) kk) ?_
  refine ob s₁ (mkF mG 45 #[.val (.int x)] []) (fun _ kk => XS.icmpYes X0.here hx rfl (pc0 := 38) (pc' := 45) rfl (hb hby d3_38) rfl (feq hx5).2 (by decide) (by decide) kk) ?_
  refine ob s₁ (mkF mG 46 #[.val (.int x)] [(.int x)]) (fun _ kk => XS.iloadN X0.here hx rfl (hb hby d3_45) rfl kk) ?_
  refine ob s₁ (mkF mG 48 #[.val (.int x)] [(.int (6 : Int32)), (.int x)]) (fun _ kk => XS.bipush X0.here hx rfl (hb hby d3_46) kk) ?_
  refine ob s₁ (mkF mG 55 #[.val (.int x)] []) (fun _ kk => XS.icmpYes X0.here hx rfl (pc0 := 48) (pc' := 55) rfl (hb hby d3_48) rfl (feq hx6).2 (by decide) (by decide) kk) ?_
  refine ob s₁ (mkF mG 56 #[.val (.int x)] [.null]) (fun _ kk => XS.aconstNull X0.here hx rfl (hb hby d3_55) kk) ?_
  obtain ⟨fs, hr, hrun, hended, hW, hsame⟩ := X0.leave (v := some .null) (fun h => by rw [Bd.returns] at h; cases h)
  refine oout (oretA X0 hx Bd.returns rfl rfl (hb hby d3_56) hr) hrun hended ⟨_, _, rfl, ?_, ⟨_, rfl⟩, hW, hsame.mono (by decide) (by decide)⟩
  show Q_rm_ex0 Z w_IMAGE_600 w_THUMBNAIL w_PAGE_TEXT w_NOTES w_OTHER w_IMAGE_300 w_VALUES c_VALUES x h0 n0 _ s₁.heap _
  rw [e0]
  exact ⟨rfl, N0, rfl⟩

theorem pd_1 : parseMethodDescriptor "(I)Lcom/example/carrel/carrel/document/BoundDocument$FileType;" = some ⟨[.int], some (.object "com/example/carrel/carrel/document/BoundDocument$FileType")⟩ := by decide +kernel
def Q_rm0 (Z : State) (w_IMAGE_600 : Addr) (w_THUMBNAIL : Addr) (w_PAGE_TEXT : Addr) (w_NOTES : Addr) (w_OTHER : Addr) (w_IMAGE_300 : Addr) (w_VALUES : Addr) (c_VALUES : Cell) (i0 : Int32) (i1 : Int32) (h0 : Heap) (n0 : Nat) (v : Option Value) (h : Heap) (L : List Loc) : Prop := v = some (.int (1 : Int32)) ∧ Fr n0 L
set_option maxRecDepth 65536 in
set_option maxHeartbeats 40000000 in
theorem rm0 (l : Launch) (Z : State) (a0 : Array Value) (hw : ∀ d ∈ tables_1, d.before a0 Z = true) (ws : List Jvm.Cond) (w_IMAGE_600 : Addr) (w_THUMBNAIL : Addr) (w_PAGE_TEXT : Addr) (w_NOTES : Addr) (w_OTHER : Addr) (w_IMAGE_300 : Addr) (w_VALUES : Addr) (c_VALUES : Cell) (i0 : Int32) (i1 : Int32) (h0 : Heap) (n0 : Nat) (O0 : Old Z n0 h0) (hS : St0 Z w_IMAGE_600 w_THUMBNAIL w_PAGE_TEXT w_NOTES w_OTHER w_IMAGE_300 w_VALUES c_VALUES ) :
    MetFree l x (head1 (Jvm.Cond.code x code maxLocals ret :: ws) room_1) (fun aG UG => aG = #[(.int i0), (.int i1)] ∧ Z.Warmed39 UG.vm ∧ UG.heap = h0) (fun _ _ _ _ _ => True) (fun _ UG oG UG' => ∃ vG LG, oG = .returned vG ∧ Q_rm0 Z w_IMAGE_600 w_THUMBNAIL w_PAGE_TEXT w_NOTES w_OTHER w_IMAGE_300 w_VALUES c_VALUES i0 i1 h0 n0 vG UG'.heap LG ∧ FrameEnd UG oG UG' LG 16 128) := by
  refine MetFree.of_bodySF (plainFor_of_name pn_1) hisR ?_
  intro pG eG sG mG argsG belowG methG cG s₁ Bd hml0 hP hK
  obtain ⟨rfl, hZ, hh⟩ := hP
  have hx := Bd.exec
  have hby := Bd.bytes
  have hml : cG.maxLocals = 4 := hml0
  have hown : sG.vm.findClass "com/example/carrel/carrel/document/FileTypeOfPinLaw" = some mG.cls := findClass_of_methodNamed Bd.named
  have hnm := (name_of_methodNamed Bd.named Bd.method).1
  have X0 : Stand pG l eG room_1 sG mG #[(.int i0), (.int i1)] belowG methG cG s₁ [] 0 0 := Stand.of_body Bd
  have e0 : s₁.heap = h0 := by rw [← hh, Bd.state]; rfl
  have N0 := Fr.nil n0
  have K0 := Keep.refl h0 []
  obtain ⟨S_w_IMAGE_600, E_w_IMAGE_600, S_w_THUMBNAIL, E_w_THUMBNAIL, S_w_PAGE_TEXT, E_w_PAGE_TEXT, S_w_NOTES, E_w_NOTES, S_w_OTHER, E_w_OTHER, S_w_IMAGE_300, E_w_IMAGE_300, S_w_VALUES, E_w_VALUES, V_w_VALUES, F_w_IMAGE_600_number, F_w_THUMBNAIL_number, F_w_PAGE_TEXT_number, F_w_NOTES_number, F_w_OTHER_number, F_w_IMAGE_300_number, ne_w_IMAGE_600_w_THUMBNAIL, ne_w_IMAGE_600_w_PAGE_TEXT, ne_w_IMAGE_600_w_NOTES, ne_w_IMAGE_600_w_OTHER, ne_w_IMAGE_600_w_IMAGE_300, ne_w_THUMBNAIL_w_PAGE_TEXT, ne_w_THUMBNAIL_w_NOTES, ne_w_THUMBNAIL_w_OTHER, ne_w_THUMBNAIL_w_IMAGE_300, ne_w_PAGE_TEXT_w_NOTES, ne_w_PAGE_TEXT_w_OTHER, ne_w_PAGE_TEXT_w_IMAGE_300, ne_w_NOTES_w_OTHER, ne_w_NOTES_w_IMAGE_300, ne_w_OTHER_w_IMAGE_300⟩ := (id hS : St0 Z w_IMAGE_600 w_THUMBNAIL w_PAGE_TEXT w_NOTES w_OTHER w_IMAGE_300 w_VALUES c_VALUES )
  refine ostart (g' := (mkF mG 0 #[.val (.int i0), .val (.int i1), .unset, .unset] [])) (by first | (simp [entryFrame, mkF, argsToLocals, Value.category, maxLocals]; done) | rfl) ?_
  refine ob s₁ (mkF mG 1 #[.val (.int i0), .val (.int i1), .unset, .unset] [(.int i1)]) (fun _ kk => XS.iloadN X0.here hx rfl (hb hby at_0) rfl kk) ?_
  refine ob s₁ (mkF mG 2 #[.val (.int i0), .val (.int i1), .unset, .unset] [(.int (1 : Int32)), (.int i1)]) (fun _ kk => XS.iconst X0.here hx rfl (hb hby at_1) kk) ?_
  refine ob s₁ (mkF mG 3 #[.val (.int i0), .val (.int i1), .unset, .unset] [(.int (i1 &&& (1 : Int32)))]) (fun _ kk => XS.iand X0.here hx rfl (hb hby at_2) rfl kk) ?_
  by_cases hc1 : (i1 &&& (1 : Int32)) = (0 : Int32)
  · skip
    refine ob s₁ (mkF mG 10 #[.val (.int i0), .val (.int i1), .unset, .unset] []) (fun _ kk => XS.ifYes X0.here hx rfl (pc0 := 3) (pc' := 10) rfl (hb hby at_3) rfl ((if0 _ _).trans (teq hc1).1) (by decide) (by decide) kk) ?_
    refine ob s₁ (mkF mG 11 #[.val (.int i0), .val (.int i1), .unset, .unset] [(.int i0)]) (fun _ kk => XS.iloadN X0.here hx rfl (hb hby at_10) rfl kk) ?_
    refine ob s₁ (mkF mG 13 #[.val (.int i0), .val (.int i1), .unset, .unset] [(.int (15 : Int32)), (.int i0)]) (fun _ kk => XS.bipush X0.here hx rfl (hb hby at_11) kk) ?_
    refine ob s₁ (mkF mG 14 #[.val (.int i0), .val (.int i1), .unset, .unset] [(.int (i0 &&& (15 : Int32)))]) (fun _ kk => XS.iand X0.here hx rfl (hb hby at_13) rfl kk) ?_
    refine ob s₁ (mkF mG 15 #[.val (.int i0), .val (.int i1), .unset, .unset] [(.int (4 : Int32)), (.int (i0 &&& (15 : Int32)))]) (fun _ kk => XS.iconst X0.here hx rfl (hb hby at_14) kk) ?_
    refine ob s₁ (mkF mG 16 #[.val (.int i0), .val (.int i1), .unset, .unset] [(.int ((i0 &&& (15 : Int32)) - (4 : Int32)))]) (fun _ kk => XS.isub X0.here hx rfl (hb hby at_15) rfl kk) ?_
    refine ob s₁ (mkF mG 17 #[.val (.int i0), .val (.int i1), .val (.int ((i0 &&& (15 : Int32)) - (4 : Int32))), .unset] []) (fun _ kk => XS.istoreN X0.here hx rfl (hb hby at_16) rfl (l' := #[.val (.int i0), .val (.int i1), .val (.int ((i0 &&& (15 : Int32)) - (4 : Int32))), .unset]) rfl kk) ?_
    generalize hxx : ((i0 &&& (15 : Int32)) - (4 : Int32)) = x
    show oGo pG eG belowG _ s₁ (mkF mG 17 #[.val (.int i0), .val (.int i1), .val (.int x), .unset] [])
    by_cases hx1 : x = (1 : Int32)
    · clear hxx; subst hx1
      refine ob s₁ (mkF mG 18 #[.val (.int i0), .val (.int i1), .val (.int (1 : Int32)), .unset] [(.int (1 : Int32))]) (fun _ kk => XS.iloadN X0.here hx rfl (hb hby at_17) rfl kk) ?_
      obtain ⟨_, _, ⟨T2, L2, k2, n2⟩, -, X2, ⟨Lc2, hQ2, l2, y2, z2⟩, st2⟩ := Jvm.LawKit.callS X0 hx (y := (⟨"com/example/carrel/carrel/document/BoundDocument$FileType", "of", "(I)Lcom/example/carrel/carrel/document/BoundDocument$FileType;"⟩ : MethodName)) hown (mvT hZ (ow hw 0 rfl)) (mvT hZ (ow hw 1 rfl)) (mvT hZ (ow hw 2 rfl)) (mvT hZ (ow hw 3 rfl)) (by decide) (backOf (W := 0) (rm_of1 l Z a0 hw [] w_IMAGE_600 w_THUMBNAIL w_PAGE_TEXT w_NOTES w_OTHER w_IMAGE_300 w_VALUES c_VALUES  h0 n0 O0 hS ) hZ (ow hw 3 rfl) (ow hw 2 rfl) (by decide) (by decide)) (g := (mkF mG 18 #[.val (.int i0), .val (.int i1), .val (.int (1 : Int32)), .unset] [(.int (1 : Int32))])) rfl (by rw [hml]; rfl) (argsL := [(.int (1 : Int32))]) (rest := []) (lenOf pd_1 rfl) rfl (by show 2 * 0 + _ ≤ _; exact Nat.le_of_eq rfl) (hb hby at_18) (fun _ _ => ⟨rfl, e0, (by decide : 0 + 1 ≤ _), (by decide : 0 + 6 ≤ _)⟩)
      dsimp only [Pt.U, Pt.locs, Pt.cells, Pt.slots] at X2 l2 y2 z2 st2 hQ2
      subst l2 y2 z2
      obtain ⟨h2, e2⟩ : ∃ h, T2.heap = h := ⟨_, rfl⟩
      rw [e2] at hQ2
      obtain ⟨rfl, N2q, K2q, O2⟩ := hQ2
      have N2 := Fr.app N0 N2q
      have K2 := K0.trans K2q all0
      refine ob T2 (mkF mG 21 #[.val (.int i0), .val (.int i1), .val (.int (1 : Int32)), .unset] [(.ref w_IMAGE_600)]) (fun _ kk => st2 _ kk) ?_
      refine ob T2 (mkF mG 22 #[.val (.int i0), .val (.int i1), .val (.int (1 : Int32)), .val (.ref w_IMAGE_600)] []) (fun _ kk => XS.astoreN X2.here hx rfl (hb hby at_21) rfl rfl (l' := #[.val (.int i0), .val (.int i1), .val (.int (1 : Int32)), .val (.ref w_IMAGE_600)]) rfl kk) ?_
      refine ob T2 (mkF mG 23 #[.val (.int i0), .val (.int i1), .val (.int (1 : Int32)), .val (.ref w_IMAGE_600)] [(.ref w_IMAGE_600)]) (fun _ kk => XS.aloadN X2.here hx rfl (hb hby at_22) rfl rfl kk) ?_
      refine ob T2 (mkF mG 24 #[.val (.int i0), .val (.int i1), .val (.int (1 : Int32)), .val (.ref w_IMAGE_600)] [(.int (1 : Int32)), (.ref w_IMAGE_600)]) (fun _ kk => XS.iloadN X2.here hx rfl (hb hby at_23) rfl kk) ?_
      obtain ⟨_, _, ⟨T3, L3, k3, n3⟩, -, X3, ⟨Lc3, hQ3, l3, y3, z3⟩, st3⟩ := Jvm.LawKit.callS X2 hx (y := (⟨"com/example/carrel/carrel/document/FileTypeOfPinLaw", "expected", "(I)Lcom/example/carrel/carrel/document/BoundDocument$FileType;"⟩ : MethodName)) hown (mvT hZ (ow hw 27 rfl)) (mvT hZ (ow hw 28 rfl)) (mvT hZ (ow hw 29 rfl)) (mvT hZ (ow hw 30 rfl)) (by decide) (backOf (W := 1) (rm_ex1 l Z a0 hw [] w_IMAGE_600 w_THUMBNAIL w_PAGE_TEXT w_NOTES w_OTHER w_IMAGE_300 w_VALUES c_VALUES  h2 n0 O2 hS ) hZ (ow hw 30 rfl) (ow hw 29 rfl) (by decide) (by decide)) (g := (mkF mG 24 #[.val (.int i0), .val (.int i1), .val (.int (1 : Int32)), .val (.ref w_IMAGE_600)] [(.int (1 : Int32)), (.ref w_IMAGE_600)])) rfl (by rw [hml]; rfl) (argsL := [(.int (1 : Int32))]) (rest := [(.ref w_IMAGE_600)]) (lenOf pd_1 rfl) rfl (by show 2 * 0 + _ ≤ _; exact Nat.le_of_eq rfl) (hb hby at_24) (fun _ _ => ⟨rfl, e2, (by decide : 1 + 0 ≤ _), (by decide : 6 + 0 ≤ _)⟩)
      dsimp only [Pt.U, Pt.locs, Pt.cells, Pt.slots] at X3 l3 y3 z3 st3 hQ3
      subst l3 y3 z3
      obtain ⟨rfl, N3q, e3⟩ := hQ3
      have N3 := Fr.app N2 N3q
      refine ob T3 (mkF mG 27 #[.val (.int i0), .val (.int i1), .val (.int (1 : Int32)), .val (.ref w_IMAGE_600)] [(.ref w_IMAGE_600), (.ref w_IMAGE_600)]) (fun _ kk => st3 _ kk) ?_
      refine ob T3 (mkF mG 30 #[.val (.int i0), .val (.int i1), .val (.int (1 : Int32)), .val (.ref w_IMAGE_600)] []) (fun _ kk => Jvm.RoadKit.acmp (g := (mkF mG 27 #[.val (.int i0), .val (.int i1), .val (.int (1 : Int32)), .val (.ref w_IMAGE_600)] [(.ref w_IMAGE_600), (.ref w_IMAGE_600)])) X3 hx rfl rfl rfl (pc0 := 27) (pc' := 30) (same := true) rfl (hb hby at_27) rfl (decide_eq_true rfl) (by decide) (by decide) kk) ?_
      refine ob T3 (mkF mG 31 #[.val (.int i0), .val (.int i1), .val (.int (1 : Int32)), .val (.ref w_IMAGE_600)] [(.int (1 : Int32))]) (fun _ kk => XS.iconst X3.here hx rfl (hb hby at_30) kk) ?_
      refine ob T3 (mkF mG 35 #[.val (.int i0), .val (.int i1), .val (.int (1 : Int32)), .val (.ref w_IMAGE_600)] [(.int (1 : Int32))]) (fun _ kk => XS.goto X3.here hx rfl (pc0 := 31) (pc' := 35) rfl (hb hby at_31) (by decide) (by decide) kk) ?_
      obtain ⟨fs, hr, hrun, hended, hW, hsame⟩ := X3.leave (v := some (.int (1 : Int32))) (fun h => by rw [Bd.returns] at h; cases h)
      refine oout (retN X3 hx (t := .boolean) Bd.returns (by simp) (hb hby at_35) hr) hrun hended ⟨_, _, rfl, ?_, ⟨_, rfl⟩, hW, hsame.mono (by decide) (by decide)⟩
      show Q_rm0 Z w_IMAGE_600 w_THUMBNAIL w_PAGE_TEXT w_NOTES w_OTHER w_IMAGE_300 w_VALUES c_VALUES i0 i1 h0 n0 _ T3.heap _
      rw [e3]
      exact ⟨rfl, N3⟩
    by_cases hx2 : x = (2 : Int32)
    · clear hxx; subst hx2
      refine ob s₁ (mkF mG 18 #[.val (.int i0), .val (.int i1), .val (.int (2 : Int32)), .unset] [(.int (2 : Int32))]) (fun _ kk => XS.iloadN X0.here hx rfl (hb hby at_17) rfl kk) ?_
      obtain ⟨_, _, ⟨T4, L4, k4, n4⟩, -, X4, ⟨Lc4, hQ4, l4, y4, z4⟩, st4⟩ := Jvm.LawKit.callS X0 hx (y := (⟨"com/example/carrel/carrel/document/BoundDocument$FileType", "of", "(I)Lcom/example/carrel/carrel/document/BoundDocument$FileType;"⟩ : MethodName)) hown (mvT hZ (ow hw 0 rfl)) (mvT hZ (ow hw 1 rfl)) (mvT hZ (ow hw 2 rfl)) (mvT hZ (ow hw 3 rfl)) (by decide) (backOf (W := 0) (rm_of2 l Z a0 hw [] w_IMAGE_600 w_THUMBNAIL w_PAGE_TEXT w_NOTES w_OTHER w_IMAGE_300 w_VALUES c_VALUES  h0 n0 O0 hS ) hZ (ow hw 3 rfl) (ow hw 2 rfl) (by decide) (by decide)) (g := (mkF mG 18 #[.val (.int i0), .val (.int i1), .val (.int (2 : Int32)), .unset] [(.int (2 : Int32))])) rfl (by rw [hml]; rfl) (argsL := [(.int (2 : Int32))]) (rest := []) (lenOf pd_1 rfl) rfl (by show 2 * 0 + _ ≤ _; exact Nat.le_of_eq rfl) (hb hby at_18) (fun _ _ => ⟨rfl, e0, (by decide : 0 + 1 ≤ _), (by decide : 0 + 6 ≤ _)⟩)
      dsimp only [Pt.U, Pt.locs, Pt.cells, Pt.slots] at X4 l4 y4 z4 st4 hQ4
      subst l4 y4 z4
      obtain ⟨h4, e4⟩ : ∃ h, T4.heap = h := ⟨_, rfl⟩
      rw [e4] at hQ4
      obtain ⟨rfl, N4q, K4q, O4⟩ := hQ4
      have N4 := Fr.app N0 N4q
      have K4 := K0.trans K4q all0
      refine ob T4 (mkF mG 21 #[.val (.int i0), .val (.int i1), .val (.int (2 : Int32)), .unset] [(.ref w_THUMBNAIL)]) (fun _ kk => st4 _ kk) ?_
      refine ob T4 (mkF mG 22 #[.val (.int i0), .val (.int i1), .val (.int (2 : Int32)), .val (.ref w_THUMBNAIL)] []) (fun _ kk => XS.astoreN X4.here hx rfl (hb hby at_21) rfl rfl (l' := #[.val (.int i0), .val (.int i1), .val (.int (2 : Int32)), .val (.ref w_THUMBNAIL)]) rfl kk) ?_
      refine ob T4 (mkF mG 23 #[.val (.int i0), .val (.int i1), .val (.int (2 : Int32)), .val (.ref w_THUMBNAIL)] [(.ref w_THUMBNAIL)]) (fun _ kk => XS.aloadN X4.here hx rfl (hb hby at_22) rfl rfl kk) ?_
      refine ob T4 (mkF mG 24 #[.val (.int i0), .val (.int i1), .val (.int (2 : Int32)), .val (.ref w_THUMBNAIL)] [(.int (2 : Int32)), (.ref w_THUMBNAIL)]) (fun _ kk => XS.iloadN X4.here hx rfl (hb hby at_23) rfl kk) ?_
      obtain ⟨_, _, ⟨T5, L5, k5, n5⟩, -, X5, ⟨Lc5, hQ5, l5, y5, z5⟩, st5⟩ := Jvm.LawKit.callS X4 hx (y := (⟨"com/example/carrel/carrel/document/FileTypeOfPinLaw", "expected", "(I)Lcom/example/carrel/carrel/document/BoundDocument$FileType;"⟩ : MethodName)) hown (mvT hZ (ow hw 27 rfl)) (mvT hZ (ow hw 28 rfl)) (mvT hZ (ow hw 29 rfl)) (mvT hZ (ow hw 30 rfl)) (by decide) (backOf (W := 1) (rm_ex2 l Z a0 hw [] w_IMAGE_600 w_THUMBNAIL w_PAGE_TEXT w_NOTES w_OTHER w_IMAGE_300 w_VALUES c_VALUES  h4 n0 O4 hS ) hZ (ow hw 30 rfl) (ow hw 29 rfl) (by decide) (by decide)) (g := (mkF mG 24 #[.val (.int i0), .val (.int i1), .val (.int (2 : Int32)), .val (.ref w_THUMBNAIL)] [(.int (2 : Int32)), (.ref w_THUMBNAIL)])) rfl (by rw [hml]; rfl) (argsL := [(.int (2 : Int32))]) (rest := [(.ref w_THUMBNAIL)]) (lenOf pd_1 rfl) rfl (by show 2 * 0 + _ ≤ _; exact Nat.le_of_eq rfl) (hb hby at_24) (fun _ _ => ⟨rfl, e4, (by decide : 1 + 0 ≤ _), (by decide : 6 + 0 ≤ _)⟩)
      dsimp only [Pt.U, Pt.locs, Pt.cells, Pt.slots] at X5 l5 y5 z5 st5 hQ5
      subst l5 y5 z5
      obtain ⟨rfl, N5q, e5⟩ := hQ5
      have N5 := Fr.app N4 N5q
      refine ob T5 (mkF mG 27 #[.val (.int i0), .val (.int i1), .val (.int (2 : Int32)), .val (.ref w_THUMBNAIL)] [(.ref w_THUMBNAIL), (.ref w_THUMBNAIL)]) (fun _ kk => st5 _ kk) ?_
      refine ob T5 (mkF mG 30 #[.val (.int i0), .val (.int i1), .val (.int (2 : Int32)), .val (.ref w_THUMBNAIL)] []) (fun _ kk => Jvm.RoadKit.acmp (g := (mkF mG 27 #[.val (.int i0), .val (.int i1), .val (.int (2 : Int32)), .val (.ref w_THUMBNAIL)] [(.ref w_THUMBNAIL), (.ref w_THUMBNAIL)])) X5 hx rfl rfl rfl (pc0 := 27) (pc' := 30) (same := true) rfl (hb hby at_27) rfl (decide_eq_true rfl) (by decide) (by decide) kk) ?_
      refine ob T5 (mkF mG 31 #[.val (.int i0), .val (.int i1), .val (.int (2 : Int32)), .val (.ref w_THUMBNAIL)] [(.int (1 : Int32))]) (fun _ kk => XS.iconst X5.here hx rfl (hb hby at_30) kk) ?_
      refine ob T5 (mkF mG 35 #[.val (.int i0), .val (.int i1), .val (.int (2 : Int32)), .val (.ref w_THUMBNAIL)] [(.int (1 : Int32))]) (fun _ kk => XS.goto X5.here hx rfl (pc0 := 31) (pc' := 35) rfl (hb hby at_31) (by decide) (by decide) kk) ?_
      obtain ⟨fs, hr, hrun, hended, hW, hsame⟩ := X5.leave (v := some (.int (1 : Int32))) (fun h => by rw [Bd.returns] at h; cases h)
      refine oout (retN X5 hx (t := .boolean) Bd.returns (by simp) (hb hby at_35) hr) hrun hended ⟨_, _, rfl, ?_, ⟨_, rfl⟩, hW, hsame.mono (by decide) (by decide)⟩
      show Q_rm0 Z w_IMAGE_600 w_THUMBNAIL w_PAGE_TEXT w_NOTES w_OTHER w_IMAGE_300 w_VALUES c_VALUES i0 i1 h0 n0 _ T5.heap _
      rw [e5]
      exact ⟨rfl, N5⟩
    by_cases hx3 : x = (3 : Int32)
    · clear hxx; subst hx3
      refine ob s₁ (mkF mG 18 #[.val (.int i0), .val (.int i1), .val (.int (3 : Int32)), .unset] [(.int (3 : Int32))]) (fun _ kk => XS.iloadN X0.here hx rfl (hb hby at_17) rfl kk) ?_
      obtain ⟨_, _, ⟨T6, L6, k6, n6⟩, -, X6, ⟨Lc6, hQ6, l6, y6, z6⟩, st6⟩ := Jvm.LawKit.callS X0 hx (y := (⟨"com/example/carrel/carrel/document/BoundDocument$FileType", "of", "(I)Lcom/example/carrel/carrel/document/BoundDocument$FileType;"⟩ : MethodName)) hown (mvT hZ (ow hw 0 rfl)) (mvT hZ (ow hw 1 rfl)) (mvT hZ (ow hw 2 rfl)) (mvT hZ (ow hw 3 rfl)) (by decide) (backOf (W := 0) (rm_of3 l Z a0 hw [] w_IMAGE_600 w_THUMBNAIL w_PAGE_TEXT w_NOTES w_OTHER w_IMAGE_300 w_VALUES c_VALUES  h0 n0 O0 hS ) hZ (ow hw 3 rfl) (ow hw 2 rfl) (by decide) (by decide)) (g := (mkF mG 18 #[.val (.int i0), .val (.int i1), .val (.int (3 : Int32)), .unset] [(.int (3 : Int32))])) rfl (by rw [hml]; rfl) (argsL := [(.int (3 : Int32))]) (rest := []) (lenOf pd_1 rfl) rfl (by show 2 * 0 + _ ≤ _; exact Nat.le_of_eq rfl) (hb hby at_18) (fun _ _ => ⟨rfl, e0, (by decide : 0 + 1 ≤ _), (by decide : 0 + 6 ≤ _)⟩)
      dsimp only [Pt.U, Pt.locs, Pt.cells, Pt.slots] at X6 l6 y6 z6 st6 hQ6
      subst l6 y6 z6
      obtain ⟨h6, e6⟩ : ∃ h, T6.heap = h := ⟨_, rfl⟩
      rw [e6] at hQ6
      obtain ⟨rfl, N6q, K6q, O6⟩ := hQ6
      have N6 := Fr.app N0 N6q
      have K6 := K0.trans K6q all0
      refine ob T6 (mkF mG 21 #[.val (.int i0), .val (.int i1), .val (.int (3 : Int32)), .unset] [(.ref w_PAGE_TEXT)]) (fun _ kk => st6 _ kk) ?_
      refine ob T6 (mkF mG 22 #[.val (.int i0), .val (.int i1), .val (.int (3 : Int32)), .val (.ref w_PAGE_TEXT)] []) (fun _ kk => XS.astoreN X6.here hx rfl (hb hby at_21) rfl rfl (l' := #[.val (.int i0), .val (.int i1), .val (.int (3 : Int32)), .val (.ref w_PAGE_TEXT)]) rfl kk) ?_
      refine ob T6 (mkF mG 23 #[.val (.int i0), .val (.int i1), .val (.int (3 : Int32)), .val (.ref w_PAGE_TEXT)] [(.ref w_PAGE_TEXT)]) (fun _ kk => XS.aloadN X6.here hx rfl (hb hby at_22) rfl rfl kk) ?_
      refine ob T6 (mkF mG 24 #[.val (.int i0), .val (.int i1), .val (.int (3 : Int32)), .val (.ref w_PAGE_TEXT)] [(.int (3 : Int32)), (.ref w_PAGE_TEXT)]) (fun _ kk => XS.iloadN X6.here hx rfl (hb hby at_23) rfl kk) ?_
      obtain ⟨_, _, ⟨T7, L7, k7, n7⟩, -, X7, ⟨Lc7, hQ7, l7, y7, z7⟩, st7⟩ := Jvm.LawKit.callS X6 hx (y := (⟨"com/example/carrel/carrel/document/FileTypeOfPinLaw", "expected", "(I)Lcom/example/carrel/carrel/document/BoundDocument$FileType;"⟩ : MethodName)) hown (mvT hZ (ow hw 27 rfl)) (mvT hZ (ow hw 28 rfl)) (mvT hZ (ow hw 29 rfl)) (mvT hZ (ow hw 30 rfl)) (by decide) (backOf (W := 1) (rm_ex3 l Z a0 hw [] w_IMAGE_600 w_THUMBNAIL w_PAGE_TEXT w_NOTES w_OTHER w_IMAGE_300 w_VALUES c_VALUES  h6 n0 O6 hS ) hZ (ow hw 30 rfl) (ow hw 29 rfl) (by decide) (by decide)) (g := (mkF mG 24 #[.val (.int i0), .val (.int i1), .val (.int (3 : Int32)), .val (.ref w_PAGE_TEXT)] [(.int (3 : Int32)), (.ref w_PAGE_TEXT)])) rfl (by rw [hml]; rfl) (argsL := [(.int (3 : Int32))]) (rest := [(.ref w_PAGE_TEXT)]) (lenOf pd_1 rfl) rfl (by show 2 * 0 + _ ≤ _; exact Nat.le_of_eq rfl) (hb hby at_24) (fun _ _ => ⟨rfl, e6, (by decide : 1 + 0 ≤ _), (by decide : 6 + 0 ≤ _)⟩)
      dsimp only [Pt.U, Pt.locs, Pt.cells, Pt.slots] at X7 l7 y7 z7 st7 hQ7
      subst l7 y7 z7
      obtain ⟨rfl, N7q, e7⟩ := hQ7
      have N7 := Fr.app N6 N7q
      refine ob T7 (mkF mG 27 #[.val (.int i0), .val (.int i1), .val (.int (3 : Int32)), .val (.ref w_PAGE_TEXT)] [(.ref w_PAGE_TEXT), (.ref w_PAGE_TEXT)]) (fun _ kk => st7 _ kk) ?_
      refine ob T7 (mkF mG 30 #[.val (.int i0), .val (.int i1), .val (.int (3 : Int32)), .val (.ref w_PAGE_TEXT)] []) (fun _ kk => Jvm.RoadKit.acmp (g := (mkF mG 27 #[.val (.int i0), .val (.int i1), .val (.int (3 : Int32)), .val (.ref w_PAGE_TEXT)] [(.ref w_PAGE_TEXT), (.ref w_PAGE_TEXT)])) X7 hx rfl rfl rfl (pc0 := 27) (pc' := 30) (same := true) rfl (hb hby at_27) rfl (decide_eq_true rfl) (by decide) (by decide) kk) ?_
      refine ob T7 (mkF mG 31 #[.val (.int i0), .val (.int i1), .val (.int (3 : Int32)), .val (.ref w_PAGE_TEXT)] [(.int (1 : Int32))]) (fun _ kk => XS.iconst X7.here hx rfl (hb hby at_30) kk) ?_
      refine ob T7 (mkF mG 35 #[.val (.int i0), .val (.int i1), .val (.int (3 : Int32)), .val (.ref w_PAGE_TEXT)] [(.int (1 : Int32))]) (fun _ kk => XS.goto X7.here hx rfl (pc0 := 31) (pc' := 35) rfl (hb hby at_31) (by decide) (by decide) kk) ?_
      obtain ⟨fs, hr, hrun, hended, hW, hsame⟩ := X7.leave (v := some (.int (1 : Int32))) (fun h => by rw [Bd.returns] at h; cases h)
      refine oout (retN X7 hx (t := .boolean) Bd.returns (by simp) (hb hby at_35) hr) hrun hended ⟨_, _, rfl, ?_, ⟨_, rfl⟩, hW, hsame.mono (by decide) (by decide)⟩
      show Q_rm0 Z w_IMAGE_600 w_THUMBNAIL w_PAGE_TEXT w_NOTES w_OTHER w_IMAGE_300 w_VALUES c_VALUES i0 i1 h0 n0 _ T7.heap _
      rw [e7]
      exact ⟨rfl, N7⟩
    by_cases hx4 : x = (4 : Int32)
    · clear hxx; subst hx4
      refine ob s₁ (mkF mG 18 #[.val (.int i0), .val (.int i1), .val (.int (4 : Int32)), .unset] [(.int (4 : Int32))]) (fun _ kk => XS.iloadN X0.here hx rfl (hb hby at_17) rfl kk) ?_
      obtain ⟨_, _, ⟨T8, L8, k8, n8⟩, -, X8, ⟨Lc8, hQ8, l8, y8, z8⟩, st8⟩ := Jvm.LawKit.callS X0 hx (y := (⟨"com/example/carrel/carrel/document/BoundDocument$FileType", "of", "(I)Lcom/example/carrel/carrel/document/BoundDocument$FileType;"⟩ : MethodName)) hown (mvT hZ (ow hw 0 rfl)) (mvT hZ (ow hw 1 rfl)) (mvT hZ (ow hw 2 rfl)) (mvT hZ (ow hw 3 rfl)) (by decide) (backOf (W := 0) (rm_of4 l Z a0 hw [] w_IMAGE_600 w_THUMBNAIL w_PAGE_TEXT w_NOTES w_OTHER w_IMAGE_300 w_VALUES c_VALUES  h0 n0 O0 hS ) hZ (ow hw 3 rfl) (ow hw 2 rfl) (by decide) (by decide)) (g := (mkF mG 18 #[.val (.int i0), .val (.int i1), .val (.int (4 : Int32)), .unset] [(.int (4 : Int32))])) rfl (by rw [hml]; rfl) (argsL := [(.int (4 : Int32))]) (rest := []) (lenOf pd_1 rfl) rfl (by show 2 * 0 + _ ≤ _; exact Nat.le_of_eq rfl) (hb hby at_18) (fun _ _ => ⟨rfl, e0, (by decide : 0 + 1 ≤ _), (by decide : 0 + 6 ≤ _)⟩)
      dsimp only [Pt.U, Pt.locs, Pt.cells, Pt.slots] at X8 l8 y8 z8 st8 hQ8
      subst l8 y8 z8
      obtain ⟨h8, e8⟩ : ∃ h, T8.heap = h := ⟨_, rfl⟩
      rw [e8] at hQ8
      obtain ⟨rfl, N8q, K8q, O8⟩ := hQ8
      have N8 := Fr.app N0 N8q
      have K8 := K0.trans K8q all0
      refine ob T8 (mkF mG 21 #[.val (.int i0), .val (.int i1), .val (.int (4 : Int32)), .unset] [(.ref w_NOTES)]) (fun _ kk => st8 _ kk) ?_
      refine ob T8 (mkF mG 22 #[.val (.int i0), .val (.int i1), .val (.int (4 : Int32)), .val (.ref w_NOTES)] []) (fun _ kk => XS.astoreN X8.here hx rfl (hb hby at_21) rfl rfl (l' := #[.val (.int i0), .val (.int i1), .val (.int (4 : Int32)), .val (.ref w_NOTES)]) rfl kk) ?_
      refine ob T8 (mkF mG 23 #[.val (.int i0), .val (.int i1), .val (.int (4 : Int32)), .val (.ref w_NOTES)] [(.ref w_NOTES)]) (fun _ kk => XS.aloadN X8.here hx rfl (hb hby at_22) rfl rfl kk) ?_
      refine ob T8 (mkF mG 24 #[.val (.int i0), .val (.int i1), .val (.int (4 : Int32)), .val (.ref w_NOTES)] [(.int (4 : Int32)), (.ref w_NOTES)]) (fun _ kk => XS.iloadN X8.here hx rfl (hb hby at_23) rfl kk) ?_
      obtain ⟨_, _, ⟨T9, L9, k9, n9⟩, -, X9, ⟨Lc9, hQ9, l9, y9, z9⟩, st9⟩ := Jvm.LawKit.callS X8 hx (y := (⟨"com/example/carrel/carrel/document/FileTypeOfPinLaw", "expected", "(I)Lcom/example/carrel/carrel/document/BoundDocument$FileType;"⟩ : MethodName)) hown (mvT hZ (ow hw 27 rfl)) (mvT hZ (ow hw 28 rfl)) (mvT hZ (ow hw 29 rfl)) (mvT hZ (ow hw 30 rfl)) (by decide) (backOf (W := 1) (rm_ex4 l Z a0 hw [] w_IMAGE_600 w_THUMBNAIL w_PAGE_TEXT w_NOTES w_OTHER w_IMAGE_300 w_VALUES c_VALUES  h8 n0 O8 hS ) hZ (ow hw 30 rfl) (ow hw 29 rfl) (by decide) (by decide)) (g := (mkF mG 24 #[.val (.int i0), .val (.int i1), .val (.int (4 : Int32)), .val (.ref w_NOTES)] [(.int (4 : Int32)), (.ref w_NOTES)])) rfl (by rw [hml]; rfl) (argsL := [(.int (4 : Int32))]) (rest := [(.ref w_NOTES)]) (lenOf pd_1 rfl) rfl (by show 2 * 0 + _ ≤ _; exact Nat.le_of_eq rfl) (hb hby at_24) (fun _ _ => ⟨rfl, e8, (by decide : 1 + 0 ≤ _), (by decide : 6 + 0 ≤ _)⟩)
      dsimp only [Pt.U, Pt.locs, Pt.cells, Pt.slots] at X9 l9 y9 z9 st9 hQ9
      subst l9 y9 z9
      obtain ⟨rfl, N9q, e9⟩ := hQ9
      have N9 := Fr.app N8 N9q
      refine ob T9 (mkF mG 27 #[.val (.int i0), .val (.int i1), .val (.int (4 : Int32)), .val (.ref w_NOTES)] [(.ref w_NOTES), (.ref w_NOTES)]) (fun _ kk => st9 _ kk) ?_
      refine ob T9 (mkF mG 30 #[.val (.int i0), .val (.int i1), .val (.int (4 : Int32)), .val (.ref w_NOTES)] []) (fun _ kk => Jvm.RoadKit.acmp (g := (mkF mG 27 #[.val (.int i0), .val (.int i1), .val (.int (4 : Int32)), .val (.ref w_NOTES)] [(.ref w_NOTES), (.ref w_NOTES)])) X9 hx rfl rfl rfl (pc0 := 27) (pc' := 30) (same := true) rfl (hb hby at_27) rfl (decide_eq_true rfl) (by decide) (by decide) kk) ?_
      refine ob T9 (mkF mG 31 #[.val (.int i0), .val (.int i1), .val (.int (4 : Int32)), .val (.ref w_NOTES)] [(.int (1 : Int32))]) (fun _ kk => XS.iconst X9.here hx rfl (hb hby at_30) kk) ?_
      refine ob T9 (mkF mG 35 #[.val (.int i0), .val (.int i1), .val (.int (4 : Int32)), .val (.ref w_NOTES)] [(.int (1 : Int32))]) (fun _ kk => XS.goto X9.here hx rfl (pc0 := 31) (pc' := 35) rfl (hb hby at_31) (by decide) (by decide) kk) ?_
      obtain ⟨fs, hr, hrun, hended, hW, hsame⟩ := X9.leave (v := some (.int (1 : Int32))) (fun h => by rw [Bd.returns] at h; cases h)
      refine oout (retN X9 hx (t := .boolean) Bd.returns (by simp) (hb hby at_35) hr) hrun hended ⟨_, _, rfl, ?_, ⟨_, rfl⟩, hW, hsame.mono (by decide) (by decide)⟩
      show Q_rm0 Z w_IMAGE_600 w_THUMBNAIL w_PAGE_TEXT w_NOTES w_OTHER w_IMAGE_300 w_VALUES c_VALUES i0 i1 h0 n0 _ T9.heap _
      rw [e9]
      exact ⟨rfl, N9⟩
    by_cases hx5 : x = (5 : Int32)
    · clear hxx; subst hx5
      refine ob s₁ (mkF mG 18 #[.val (.int i0), .val (.int i1), .val (.int (5 : Int32)), .unset] [(.int (5 : Int32))]) (fun _ kk => XS.iloadN X0.here hx rfl (hb hby at_17) rfl kk) ?_
      obtain ⟨_, _, ⟨T10, L10, k10, n10⟩, -, X10, ⟨Lc10, hQ10, l10, y10, z10⟩, st10⟩ := Jvm.LawKit.callS X0 hx (y := (⟨"com/example/carrel/carrel/document/BoundDocument$FileType", "of", "(I)Lcom/example/carrel/carrel/document/BoundDocument$FileType;"⟩ : MethodName)) hown (mvT hZ (ow hw 0 rfl)) (mvT hZ (ow hw 1 rfl)) (mvT hZ (ow hw 2 rfl)) (mvT hZ (ow hw 3 rfl)) (by decide) (backOf (W := 0) (rm_of5 l Z a0 hw [] w_IMAGE_600 w_THUMBNAIL w_PAGE_TEXT w_NOTES w_OTHER w_IMAGE_300 w_VALUES c_VALUES  h0 n0 O0 hS ) hZ (ow hw 3 rfl) (ow hw 2 rfl) (by decide) (by decide)) (g := (mkF mG 18 #[.val (.int i0), .val (.int i1), .val (.int (5 : Int32)), .unset] [(.int (5 : Int32))])) rfl (by rw [hml]; rfl) (argsL := [(.int (5 : Int32))]) (rest := []) (lenOf pd_1 rfl) rfl (by show 2 * 0 + _ ≤ _; exact Nat.le_of_eq rfl) (hb hby at_18) (fun _ _ => ⟨rfl, e0, (by decide : 0 + 1 ≤ _), (by decide : 0 + 6 ≤ _)⟩)
      dsimp only [Pt.U, Pt.locs, Pt.cells, Pt.slots] at X10 l10 y10 z10 st10 hQ10
      subst l10 y10 z10
      obtain ⟨h10, e10⟩ : ∃ h, T10.heap = h := ⟨_, rfl⟩
      rw [e10] at hQ10
      obtain ⟨rfl, N10q, K10q, O10⟩ := hQ10
      have N10 := Fr.app N0 N10q
      have K10 := K0.trans K10q all0
      refine ob T10 (mkF mG 21 #[.val (.int i0), .val (.int i1), .val (.int (5 : Int32)), .unset] [(.ref w_OTHER)]) (fun _ kk => st10 _ kk) ?_
      refine ob T10 (mkF mG 22 #[.val (.int i0), .val (.int i1), .val (.int (5 : Int32)), .val (.ref w_OTHER)] []) (fun _ kk => XS.astoreN X10.here hx rfl (hb hby at_21) rfl rfl (l' := #[.val (.int i0), .val (.int i1), .val (.int (5 : Int32)), .val (.ref w_OTHER)]) rfl kk) ?_
      refine ob T10 (mkF mG 23 #[.val (.int i0), .val (.int i1), .val (.int (5 : Int32)), .val (.ref w_OTHER)] [(.ref w_OTHER)]) (fun _ kk => XS.aloadN X10.here hx rfl (hb hby at_22) rfl rfl kk) ?_
      refine ob T10 (mkF mG 24 #[.val (.int i0), .val (.int i1), .val (.int (5 : Int32)), .val (.ref w_OTHER)] [(.int (5 : Int32)), (.ref w_OTHER)]) (fun _ kk => XS.iloadN X10.here hx rfl (hb hby at_23) rfl kk) ?_
      obtain ⟨_, _, ⟨T11, L11, k11, n11⟩, -, X11, ⟨Lc11, hQ11, l11, y11, z11⟩, st11⟩ := Jvm.LawKit.callS X10 hx (y := (⟨"com/example/carrel/carrel/document/FileTypeOfPinLaw", "expected", "(I)Lcom/example/carrel/carrel/document/BoundDocument$FileType;"⟩ : MethodName)) hown (mvT hZ (ow hw 27 rfl)) (mvT hZ (ow hw 28 rfl)) (mvT hZ (ow hw 29 rfl)) (mvT hZ (ow hw 30 rfl)) (by decide) (backOf (W := 1) (rm_ex5 l Z a0 hw [] w_IMAGE_600 w_THUMBNAIL w_PAGE_TEXT w_NOTES w_OTHER w_IMAGE_300 w_VALUES c_VALUES  h10 n0 O10 hS ) hZ (ow hw 30 rfl) (ow hw 29 rfl) (by decide) (by decide)) (g := (mkF mG 24 #[.val (.int i0), .val (.int i1), .val (.int (5 : Int32)), .val (.ref w_OTHER)] [(.int (5 : Int32)), (.ref w_OTHER)])) rfl (by rw [hml]; rfl) (argsL := [(.int (5 : Int32))]) (rest := [(.ref w_OTHER)]) (lenOf pd_1 rfl) rfl (by show 2 * 0 + _ ≤ _; exact Nat.le_of_eq rfl) (hb hby at_24) (fun _ _ => ⟨rfl, e10, (by decide : 1 + 0 ≤ _), (by decide : 6 + 0 ≤ _)⟩)
      dsimp only [Pt.U, Pt.locs, Pt.cells, Pt.slots] at X11 l11 y11 z11 st11 hQ11
      subst l11 y11 z11
      obtain ⟨rfl, N11q, e11⟩ := hQ11
      have N11 := Fr.app N10 N11q
      refine ob T11 (mkF mG 27 #[.val (.int i0), .val (.int i1), .val (.int (5 : Int32)), .val (.ref w_OTHER)] [(.ref w_OTHER), (.ref w_OTHER)]) (fun _ kk => st11 _ kk) ?_
      refine ob T11 (mkF mG 30 #[.val (.int i0), .val (.int i1), .val (.int (5 : Int32)), .val (.ref w_OTHER)] []) (fun _ kk => Jvm.RoadKit.acmp (g := (mkF mG 27 #[.val (.int i0), .val (.int i1), .val (.int (5 : Int32)), .val (.ref w_OTHER)] [(.ref w_OTHER), (.ref w_OTHER)])) X11 hx rfl rfl rfl (pc0 := 27) (pc' := 30) (same := true) rfl (hb hby at_27) rfl (decide_eq_true rfl) (by decide) (by decide) kk) ?_
      refine ob T11 (mkF mG 31 #[.val (.int i0), .val (.int i1), .val (.int (5 : Int32)), .val (.ref w_OTHER)] [(.int (1 : Int32))]) (fun _ kk => XS.iconst X11.here hx rfl (hb hby at_30) kk) ?_
      refine ob T11 (mkF mG 35 #[.val (.int i0), .val (.int i1), .val (.int (5 : Int32)), .val (.ref w_OTHER)] [(.int (1 : Int32))]) (fun _ kk => XS.goto X11.here hx rfl (pc0 := 31) (pc' := 35) rfl (hb hby at_31) (by decide) (by decide) kk) ?_
      obtain ⟨fs, hr, hrun, hended, hW, hsame⟩ := X11.leave (v := some (.int (1 : Int32))) (fun h => by rw [Bd.returns] at h; cases h)
      refine oout (retN X11 hx (t := .boolean) Bd.returns (by simp) (hb hby at_35) hr) hrun hended ⟨_, _, rfl, ?_, ⟨_, rfl⟩, hW, hsame.mono (by decide) (by decide)⟩
      show Q_rm0 Z w_IMAGE_600 w_THUMBNAIL w_PAGE_TEXT w_NOTES w_OTHER w_IMAGE_300 w_VALUES c_VALUES i0 i1 h0 n0 _ T11.heap _
      rw [e11]
      exact ⟨rfl, N11⟩
    by_cases hx6 : x = (6 : Int32)
    · clear hxx; subst hx6
      refine ob s₁ (mkF mG 18 #[.val (.int i0), .val (.int i1), .val (.int (6 : Int32)), .unset] [(.int (6 : Int32))]) (fun _ kk => XS.iloadN X0.here hx rfl (hb hby at_17) rfl kk) ?_
      obtain ⟨_, _, ⟨T12, L12, k12, n12⟩, -, X12, ⟨Lc12, hQ12, l12, y12, z12⟩, st12⟩ := Jvm.LawKit.callS X0 hx (y := (⟨"com/example/carrel/carrel/document/BoundDocument$FileType", "of", "(I)Lcom/example/carrel/carrel/document/BoundDocument$FileType;"⟩ : MethodName)) hown (mvT hZ (ow hw 0 rfl)) (mvT hZ (ow hw 1 rfl)) (mvT hZ (ow hw 2 rfl)) (mvT hZ (ow hw 3 rfl)) (by decide) (backOf (W := 0) (rm_of6 l Z a0 hw [] w_IMAGE_600 w_THUMBNAIL w_PAGE_TEXT w_NOTES w_OTHER w_IMAGE_300 w_VALUES c_VALUES  h0 n0 O0 hS ) hZ (ow hw 3 rfl) (ow hw 2 rfl) (by decide) (by decide)) (g := (mkF mG 18 #[.val (.int i0), .val (.int i1), .val (.int (6 : Int32)), .unset] [(.int (6 : Int32))])) rfl (by rw [hml]; rfl) (argsL := [(.int (6 : Int32))]) (rest := []) (lenOf pd_1 rfl) rfl (by show 2 * 0 + _ ≤ _; exact Nat.le_of_eq rfl) (hb hby at_18) (fun _ _ => ⟨rfl, e0, (by decide : 0 + 1 ≤ _), (by decide : 0 + 6 ≤ _)⟩)
      dsimp only [Pt.U, Pt.locs, Pt.cells, Pt.slots] at X12 l12 y12 z12 st12 hQ12
      subst l12 y12 z12
      obtain ⟨h12, e12⟩ : ∃ h, T12.heap = h := ⟨_, rfl⟩
      rw [e12] at hQ12
      obtain ⟨rfl, N12q, K12q, O12⟩ := hQ12
      have N12 := Fr.app N0 N12q
      have K12 := K0.trans K12q all0
      refine ob T12 (mkF mG 21 #[.val (.int i0), .val (.int i1), .val (.int (6 : Int32)), .unset] [(.ref w_IMAGE_300)]) (fun _ kk => st12 _ kk) ?_
      refine ob T12 (mkF mG 22 #[.val (.int i0), .val (.int i1), .val (.int (6 : Int32)), .val (.ref w_IMAGE_300)] []) (fun _ kk => XS.astoreN X12.here hx rfl (hb hby at_21) rfl rfl (l' := #[.val (.int i0), .val (.int i1), .val (.int (6 : Int32)), .val (.ref w_IMAGE_300)]) rfl kk) ?_
      refine ob T12 (mkF mG 23 #[.val (.int i0), .val (.int i1), .val (.int (6 : Int32)), .val (.ref w_IMAGE_300)] [(.ref w_IMAGE_300)]) (fun _ kk => XS.aloadN X12.here hx rfl (hb hby at_22) rfl rfl kk) ?_
      refine ob T12 (mkF mG 24 #[.val (.int i0), .val (.int i1), .val (.int (6 : Int32)), .val (.ref w_IMAGE_300)] [(.int (6 : Int32)), (.ref w_IMAGE_300)]) (fun _ kk => XS.iloadN X12.here hx rfl (hb hby at_23) rfl kk) ?_
      obtain ⟨_, _, ⟨T13, L13, k13, n13⟩, -, X13, ⟨Lc13, hQ13, l13, y13, z13⟩, st13⟩ := Jvm.LawKit.callS X12 hx (y := (⟨"com/example/carrel/carrel/document/FileTypeOfPinLaw", "expected", "(I)Lcom/example/carrel/carrel/document/BoundDocument$FileType;"⟩ : MethodName)) hown (mvT hZ (ow hw 27 rfl)) (mvT hZ (ow hw 28 rfl)) (mvT hZ (ow hw 29 rfl)) (mvT hZ (ow hw 30 rfl)) (by decide) (backOf (W := 1) (rm_ex6 l Z a0 hw [] w_IMAGE_600 w_THUMBNAIL w_PAGE_TEXT w_NOTES w_OTHER w_IMAGE_300 w_VALUES c_VALUES  h12 n0 O12 hS ) hZ (ow hw 30 rfl) (ow hw 29 rfl) (by decide) (by decide)) (g := (mkF mG 24 #[.val (.int i0), .val (.int i1), .val (.int (6 : Int32)), .val (.ref w_IMAGE_300)] [(.int (6 : Int32)), (.ref w_IMAGE_300)])) rfl (by rw [hml]; rfl) (argsL := [(.int (6 : Int32))]) (rest := [(.ref w_IMAGE_300)]) (lenOf pd_1 rfl) rfl (by show 2 * 0 + _ ≤ _; exact Nat.le_of_eq rfl) (hb hby at_24) (fun _ _ => ⟨rfl, e12, (by decide : 1 + 0 ≤ _), (by decide : 6 + 0 ≤ _)⟩)
      dsimp only [Pt.U, Pt.locs, Pt.cells, Pt.slots] at X13 l13 y13 z13 st13 hQ13
      subst l13 y13 z13
      obtain ⟨rfl, N13q, e13⟩ := hQ13
      have N13 := Fr.app N12 N13q
      refine ob T13 (mkF mG 27 #[.val (.int i0), .val (.int i1), .val (.int (6 : Int32)), .val (.ref w_IMAGE_300)] [(.ref w_IMAGE_300), (.ref w_IMAGE_300)]) (fun _ kk => st13 _ kk) ?_
      refine ob T13 (mkF mG 30 #[.val (.int i0), .val (.int i1), .val (.int (6 : Int32)), .val (.ref w_IMAGE_300)] []) (fun _ kk => Jvm.RoadKit.acmp (g := (mkF mG 27 #[.val (.int i0), .val (.int i1), .val (.int (6 : Int32)), .val (.ref w_IMAGE_300)] [(.ref w_IMAGE_300), (.ref w_IMAGE_300)])) X13 hx rfl rfl rfl (pc0 := 27) (pc' := 30) (same := true) rfl (hb hby at_27) rfl (decide_eq_true rfl) (by decide) (by decide) kk) ?_
      refine ob T13 (mkF mG 31 #[.val (.int i0), .val (.int i1), .val (.int (6 : Int32)), .val (.ref w_IMAGE_300)] [(.int (1 : Int32))]) (fun _ kk => XS.iconst X13.here hx rfl (hb hby at_30) kk) ?_
      refine ob T13 (mkF mG 35 #[.val (.int i0), .val (.int i1), .val (.int (6 : Int32)), .val (.ref w_IMAGE_300)] [(.int (1 : Int32))]) (fun _ kk => XS.goto X13.here hx rfl (pc0 := 31) (pc' := 35) rfl (hb hby at_31) (by decide) (by decide) kk) ?_
      obtain ⟨fs, hr, hrun, hended, hW, hsame⟩ := X13.leave (v := some (.int (1 : Int32))) (fun h => by rw [Bd.returns] at h; cases h)
      refine oout (retN X13 hx (t := .boolean) Bd.returns (by simp) (hb hby at_35) hr) hrun hended ⟨_, _, rfl, ?_, ⟨_, rfl⟩, hW, hsame.mono (by decide) (by decide)⟩
      show Q_rm0 Z w_IMAGE_600 w_THUMBNAIL w_PAGE_TEXT w_NOTES w_OTHER w_IMAGE_300 w_VALUES c_VALUES i0 i1 h0 n0 _ T13.heap _
      rw [e13]
      exact ⟨rfl, N13⟩
    refine ob s₁ (mkF mG 18 #[.val (.int i0), .val (.int i1), .val (.int x), .unset] [(.int x)]) (fun _ kk => XS.iloadN X0.here hx rfl (hb hby at_17) rfl kk) ?_
    obtain ⟨_, _, ⟨T14, L14, k14, n14⟩, -, X14, ⟨Lc14, hQ14, l14, y14, z14⟩, st14⟩ := Jvm.LawKit.callS X0 hx (y := (⟨"com/example/carrel/carrel/document/BoundDocument$FileType", "of", "(I)Lcom/example/carrel/carrel/document/BoundDocument$FileType;"⟩ : MethodName)) hown (mvT hZ (ow hw 0 rfl)) (mvT hZ (ow hw 1 rfl)) (mvT hZ (ow hw 2 rfl)) (mvT hZ (ow hw 3 rfl)) (by decide) (backOf (W := 0) (rm_of0 l Z a0 hw [] w_IMAGE_600 w_THUMBNAIL w_PAGE_TEXT w_NOTES w_OTHER w_IMAGE_300 w_VALUES c_VALUES x h0 n0 O0 hS hx1 hx2 hx3 hx4 hx5 hx6) hZ (ow hw 3 rfl) (ow hw 2 rfl) (by decide) (by decide)) (g := (mkF mG 18 #[.val (.int i0), .val (.int i1), .val (.int x), .unset] [(.int x)])) rfl (by rw [hml]; rfl) (argsL := [(.int x)]) (rest := []) (lenOf pd_1 rfl) rfl (by show 2 * 0 + _ ≤ _; exact Nat.le_of_eq rfl) (hb hby at_18) (fun _ _ => ⟨rfl, e0, (by decide : 0 + 1 ≤ _), (by decide : 0 + 6 ≤ _)⟩)
    dsimp only [Pt.U, Pt.locs, Pt.cells, Pt.slots] at X14 l14 y14 z14 st14 hQ14
    subst l14 y14 z14
    obtain ⟨h14, e14⟩ : ∃ h, T14.heap = h := ⟨_, rfl⟩
    rw [e14] at hQ14
    obtain ⟨rfl, N14q, K14q, O14⟩ := hQ14
    have N14 := Fr.app N0 N14q
    have K14 := K0.trans K14q all0
    refine ob T14 (mkF mG 21 #[.val (.int i0), .val (.int i1), .val (.int x), .unset] [.null]) (fun _ kk => st14 _ kk) ?_
    refine ob T14 (mkF mG 22 #[.val (.int i0), .val (.int i1), .val (.int x), .val .null] []) (fun _ kk => XS.astoreN X14.here hx rfl (hb hby at_21) rfl rfl (l' := #[.val (.int i0), .val (.int i1), .val (.int x), .val .null]) rfl kk) ?_
    refine ob T14 (mkF mG 23 #[.val (.int i0), .val (.int i1), .val (.int x), .val .null] [.null]) (fun _ kk => XS.aloadN X14.here hx rfl (hb hby at_22) rfl rfl kk) ?_
    refine ob T14 (mkF mG 24 #[.val (.int i0), .val (.int i1), .val (.int x), .val .null] [(.int x), .null]) (fun _ kk => XS.iloadN X14.here hx rfl (hb hby at_23) rfl kk) ?_
    obtain ⟨_, _, ⟨T15, L15, k15, n15⟩, -, X15, ⟨Lc15, hQ15, l15, y15, z15⟩, st15⟩ := Jvm.LawKit.callS X14 hx (y := (⟨"com/example/carrel/carrel/document/FileTypeOfPinLaw", "expected", "(I)Lcom/example/carrel/carrel/document/BoundDocument$FileType;"⟩ : MethodName)) hown (mvT hZ (ow hw 27 rfl)) (mvT hZ (ow hw 28 rfl)) (mvT hZ (ow hw 29 rfl)) (mvT hZ (ow hw 30 rfl)) (by decide) (backOf (W := 1) (rm_ex0 l Z a0 hw [] w_IMAGE_600 w_THUMBNAIL w_PAGE_TEXT w_NOTES w_OTHER w_IMAGE_300 w_VALUES c_VALUES x h14 n0 O14 hS hx1 hx2 hx3 hx4 hx5 hx6) hZ (ow hw 30 rfl) (ow hw 29 rfl) (by decide) (by decide)) (g := (mkF mG 24 #[.val (.int i0), .val (.int i1), .val (.int x), .val .null] [(.int x), .null])) rfl (by rw [hml]; rfl) (argsL := [(.int x)]) (rest := [.null]) (lenOf pd_1 rfl) rfl (by show 2 * 0 + _ ≤ _; exact Nat.le_of_eq rfl) (hb hby at_24) (fun _ _ => ⟨rfl, e14, (by decide : 1 + 0 ≤ _), (by decide : 6 + 0 ≤ _)⟩)
    dsimp only [Pt.U, Pt.locs, Pt.cells, Pt.slots] at X15 l15 y15 z15 st15 hQ15
    subst l15 y15 z15
    obtain ⟨rfl, N15q, e15⟩ := hQ15
    have N15 := Fr.app N14 N15q
    refine ob T15 (mkF mG 27 #[.val (.int i0), .val (.int i1), .val (.int x), .val .null] [.null, .null]) (fun _ kk => st15 _ kk) ?_
    refine ob T15 (mkF mG 30 #[.val (.int i0), .val (.int i1), .val (.int x), .val .null] []) (fun _ kk => Jvm.RoadKit.acmp (g := (mkF mG 27 #[.val (.int i0), .val (.int i1), .val (.int x), .val .null] [.null, .null])) X15 hx rfl rfl rfl (pc0 := 27) (pc' := 30) (same := true) rfl (hb hby at_27) rfl (decide_eq_true rfl) (by decide) (by decide) kk) ?_
    refine ob T15 (mkF mG 31 #[.val (.int i0), .val (.int i1), .val (.int x), .val .null] [(.int (1 : Int32))]) (fun _ kk => XS.iconst X15.here hx rfl (hb hby at_30) kk) ?_
    refine ob T15 (mkF mG 35 #[.val (.int i0), .val (.int i1), .val (.int x), .val .null] [(.int (1 : Int32))]) (fun _ kk => XS.goto X15.here hx rfl (pc0 := 31) (pc' := 35) rfl (hb hby at_31) (by decide) (by decide) kk) ?_
    obtain ⟨fs, hr, hrun, hended, hW, hsame⟩ := X15.leave (v := some (.int (1 : Int32))) (fun h => by rw [Bd.returns] at h; cases h)
    refine oout (retN X15 hx (t := .boolean) Bd.returns (by simp) (hb hby at_35) hr) hrun hended ⟨_, _, rfl, ?_, ⟨_, rfl⟩, hW, hsame.mono (by decide) (by decide)⟩
    show Q_rm0 Z w_IMAGE_600 w_THUMBNAIL w_PAGE_TEXT w_NOTES w_OTHER w_IMAGE_300 w_VALUES c_VALUES i0 i1 h0 n0 _ T15.heap _
    rw [e15]
    exact ⟨rfl, N15⟩
  · skip
    refine ob s₁ (mkF mG 6 #[.val (.int i0), .val (.int i1), .unset, .unset] []) (fun _ kk => XS.ifNo X0.here hx rfl (hb hby at_3) rfl ((if0 _ _).trans (feq hc1).1) kk) ?_
    refine ob s₁ (mkF mG 7 #[.val (.int i0), .val (.int i1), .unset, .unset] [(.int i0)]) (fun _ kk => XS.iloadN X0.here hx rfl (hb hby at_6) rfl kk) ?_
    refine ob s₁ (mkF mG 16 #[.val (.int i0), .val (.int i1), .unset, .unset] [(.int i0)]) (fun _ kk => XS.goto X0.here hx rfl (pc0 := 7) (pc' := 16) rfl (hb hby at_7) (by decide) (by decide) kk) ?_
    refine ob s₁ (mkF mG 17 #[.val (.int i0), .val (.int i1), .val (.int i0), .unset] []) (fun _ kk => XS.istoreN X0.here hx rfl (hb hby at_16) rfl (l' := #[.val (.int i0), .val (.int i1), .val (.int i0), .unset]) rfl kk) ?_
    generalize hxx : i0 = x
    show oGo pG eG belowG _ s₁ (mkF mG 17 #[.val (.int x), .val (.int i1), .val (.int x), .unset] [])
    by_cases hx1 : x = (1 : Int32)
    · clear hxx; subst hx1
      refine ob s₁ (mkF mG 18 #[.val (.int (1 : Int32)), .val (.int i1), .val (.int (1 : Int32)), .unset] [(.int (1 : Int32))]) (fun _ kk => XS.iloadN X0.here hx rfl (hb hby at_17) rfl kk) ?_
      obtain ⟨_, _, ⟨T16, L16, k16, n16⟩, -, X16, ⟨Lc16, hQ16, l16, y16, z16⟩, st16⟩ := Jvm.LawKit.callS X0 hx (y := (⟨"com/example/carrel/carrel/document/BoundDocument$FileType", "of", "(I)Lcom/example/carrel/carrel/document/BoundDocument$FileType;"⟩ : MethodName)) hown (mvT hZ (ow hw 0 rfl)) (mvT hZ (ow hw 1 rfl)) (mvT hZ (ow hw 2 rfl)) (mvT hZ (ow hw 3 rfl)) (by decide) (backOf (W := 0) (rm_of1 l Z a0 hw [] w_IMAGE_600 w_THUMBNAIL w_PAGE_TEXT w_NOTES w_OTHER w_IMAGE_300 w_VALUES c_VALUES  h0 n0 O0 hS ) hZ (ow hw 3 rfl) (ow hw 2 rfl) (by decide) (by decide)) (g := (mkF mG 18 #[.val (.int (1 : Int32)), .val (.int i1), .val (.int (1 : Int32)), .unset] [(.int (1 : Int32))])) rfl (by rw [hml]; rfl) (argsL := [(.int (1 : Int32))]) (rest := []) (lenOf pd_1 rfl) rfl (by show 2 * 0 + _ ≤ _; exact Nat.le_of_eq rfl) (hb hby at_18) (fun _ _ => ⟨rfl, e0, (by decide : 0 + 1 ≤ _), (by decide : 0 + 6 ≤ _)⟩)
      dsimp only [Pt.U, Pt.locs, Pt.cells, Pt.slots] at X16 l16 y16 z16 st16 hQ16
      subst l16 y16 z16
      obtain ⟨h16, e16⟩ : ∃ h, T16.heap = h := ⟨_, rfl⟩
      rw [e16] at hQ16
      obtain ⟨rfl, N16q, K16q, O16⟩ := hQ16
      have N16 := Fr.app N0 N16q
      have K16 := K0.trans K16q all0
      refine ob T16 (mkF mG 21 #[.val (.int (1 : Int32)), .val (.int i1), .val (.int (1 : Int32)), .unset] [(.ref w_IMAGE_600)]) (fun _ kk => st16 _ kk) ?_
      refine ob T16 (mkF mG 22 #[.val (.int (1 : Int32)), .val (.int i1), .val (.int (1 : Int32)), .val (.ref w_IMAGE_600)] []) (fun _ kk => XS.astoreN X16.here hx rfl (hb hby at_21) rfl rfl (l' := #[.val (.int (1 : Int32)), .val (.int i1), .val (.int (1 : Int32)), .val (.ref w_IMAGE_600)]) rfl kk) ?_
      refine ob T16 (mkF mG 23 #[.val (.int (1 : Int32)), .val (.int i1), .val (.int (1 : Int32)), .val (.ref w_IMAGE_600)] [(.ref w_IMAGE_600)]) (fun _ kk => XS.aloadN X16.here hx rfl (hb hby at_22) rfl rfl kk) ?_
      refine ob T16 (mkF mG 24 #[.val (.int (1 : Int32)), .val (.int i1), .val (.int (1 : Int32)), .val (.ref w_IMAGE_600)] [(.int (1 : Int32)), (.ref w_IMAGE_600)]) (fun _ kk => XS.iloadN X16.here hx rfl (hb hby at_23) rfl kk) ?_
      obtain ⟨_, _, ⟨T17, L17, k17, n17⟩, -, X17, ⟨Lc17, hQ17, l17, y17, z17⟩, st17⟩ := Jvm.LawKit.callS X16 hx (y := (⟨"com/example/carrel/carrel/document/FileTypeOfPinLaw", "expected", "(I)Lcom/example/carrel/carrel/document/BoundDocument$FileType;"⟩ : MethodName)) hown (mvT hZ (ow hw 27 rfl)) (mvT hZ (ow hw 28 rfl)) (mvT hZ (ow hw 29 rfl)) (mvT hZ (ow hw 30 rfl)) (by decide) (backOf (W := 1) (rm_ex1 l Z a0 hw [] w_IMAGE_600 w_THUMBNAIL w_PAGE_TEXT w_NOTES w_OTHER w_IMAGE_300 w_VALUES c_VALUES  h16 n0 O16 hS ) hZ (ow hw 30 rfl) (ow hw 29 rfl) (by decide) (by decide)) (g := (mkF mG 24 #[.val (.int (1 : Int32)), .val (.int i1), .val (.int (1 : Int32)), .val (.ref w_IMAGE_600)] [(.int (1 : Int32)), (.ref w_IMAGE_600)])) rfl (by rw [hml]; rfl) (argsL := [(.int (1 : Int32))]) (rest := [(.ref w_IMAGE_600)]) (lenOf pd_1 rfl) rfl (by show 2 * 0 + _ ≤ _; exact Nat.le_of_eq rfl) (hb hby at_24) (fun _ _ => ⟨rfl, e16, (by decide : 1 + 0 ≤ _), (by decide : 6 + 0 ≤ _)⟩)
      dsimp only [Pt.U, Pt.locs, Pt.cells, Pt.slots] at X17 l17 y17 z17 st17 hQ17
      subst l17 y17 z17
      obtain ⟨rfl, N17q, e17⟩ := hQ17
      have N17 := Fr.app N16 N17q
      refine ob T17 (mkF mG 27 #[.val (.int (1 : Int32)), .val (.int i1), .val (.int (1 : Int32)), .val (.ref w_IMAGE_600)] [(.ref w_IMAGE_600), (.ref w_IMAGE_600)]) (fun _ kk => st17 _ kk) ?_
      refine ob T17 (mkF mG 30 #[.val (.int (1 : Int32)), .val (.int i1), .val (.int (1 : Int32)), .val (.ref w_IMAGE_600)] []) (fun _ kk => Jvm.RoadKit.acmp (g := (mkF mG 27 #[.val (.int (1 : Int32)), .val (.int i1), .val (.int (1 : Int32)), .val (.ref w_IMAGE_600)] [(.ref w_IMAGE_600), (.ref w_IMAGE_600)])) X17 hx rfl rfl rfl (pc0 := 27) (pc' := 30) (same := true) rfl (hb hby at_27) rfl (decide_eq_true rfl) (by decide) (by decide) kk) ?_
      refine ob T17 (mkF mG 31 #[.val (.int (1 : Int32)), .val (.int i1), .val (.int (1 : Int32)), .val (.ref w_IMAGE_600)] [(.int (1 : Int32))]) (fun _ kk => XS.iconst X17.here hx rfl (hb hby at_30) kk) ?_
      refine ob T17 (mkF mG 35 #[.val (.int (1 : Int32)), .val (.int i1), .val (.int (1 : Int32)), .val (.ref w_IMAGE_600)] [(.int (1 : Int32))]) (fun _ kk => XS.goto X17.here hx rfl (pc0 := 31) (pc' := 35) rfl (hb hby at_31) (by decide) (by decide) kk) ?_
      obtain ⟨fs, hr, hrun, hended, hW, hsame⟩ := X17.leave (v := some (.int (1 : Int32))) (fun h => by rw [Bd.returns] at h; cases h)
      refine oout (retN X17 hx (t := .boolean) Bd.returns (by simp) (hb hby at_35) hr) hrun hended ⟨_, _, rfl, ?_, ⟨_, rfl⟩, hW, hsame.mono (by decide) (by decide)⟩
      show Q_rm0 Z w_IMAGE_600 w_THUMBNAIL w_PAGE_TEXT w_NOTES w_OTHER w_IMAGE_300 w_VALUES c_VALUES i0 i1 h0 n0 _ T17.heap _
      rw [e17]
      exact ⟨rfl, N17⟩
    by_cases hx2 : x = (2 : Int32)
    · clear hxx; subst hx2
      refine ob s₁ (mkF mG 18 #[.val (.int (2 : Int32)), .val (.int i1), .val (.int (2 : Int32)), .unset] [(.int (2 : Int32))]) (fun _ kk => XS.iloadN X0.here hx rfl (hb hby at_17) rfl kk) ?_
      obtain ⟨_, _, ⟨T18, L18, k18, n18⟩, -, X18, ⟨Lc18, hQ18, l18, y18, z18⟩, st18⟩ := Jvm.LawKit.callS X0 hx (y := (⟨"com/example/carrel/carrel/document/BoundDocument$FileType", "of", "(I)Lcom/example/carrel/carrel/document/BoundDocument$FileType;"⟩ : MethodName)) hown (mvT hZ (ow hw 0 rfl)) (mvT hZ (ow hw 1 rfl)) (mvT hZ (ow hw 2 rfl)) (mvT hZ (ow hw 3 rfl)) (by decide) (backOf (W := 0) (rm_of2 l Z a0 hw [] w_IMAGE_600 w_THUMBNAIL w_PAGE_TEXT w_NOTES w_OTHER w_IMAGE_300 w_VALUES c_VALUES  h0 n0 O0 hS ) hZ (ow hw 3 rfl) (ow hw 2 rfl) (by decide) (by decide)) (g := (mkF mG 18 #[.val (.int (2 : Int32)), .val (.int i1), .val (.int (2 : Int32)), .unset] [(.int (2 : Int32))])) rfl (by rw [hml]; rfl) (argsL := [(.int (2 : Int32))]) (rest := []) (lenOf pd_1 rfl) rfl (by show 2 * 0 + _ ≤ _; exact Nat.le_of_eq rfl) (hb hby at_18) (fun _ _ => ⟨rfl, e0, (by decide : 0 + 1 ≤ _), (by decide : 0 + 6 ≤ _)⟩)
      dsimp only [Pt.U, Pt.locs, Pt.cells, Pt.slots] at X18 l18 y18 z18 st18 hQ18
      subst l18 y18 z18
      obtain ⟨h18, e18⟩ : ∃ h, T18.heap = h := ⟨_, rfl⟩
      rw [e18] at hQ18
      obtain ⟨rfl, N18q, K18q, O18⟩ := hQ18
      have N18 := Fr.app N0 N18q
      have K18 := K0.trans K18q all0
      refine ob T18 (mkF mG 21 #[.val (.int (2 : Int32)), .val (.int i1), .val (.int (2 : Int32)), .unset] [(.ref w_THUMBNAIL)]) (fun _ kk => st18 _ kk) ?_
      refine ob T18 (mkF mG 22 #[.val (.int (2 : Int32)), .val (.int i1), .val (.int (2 : Int32)), .val (.ref w_THUMBNAIL)] []) (fun _ kk => XS.astoreN X18.here hx rfl (hb hby at_21) rfl rfl (l' := #[.val (.int (2 : Int32)), .val (.int i1), .val (.int (2 : Int32)), .val (.ref w_THUMBNAIL)]) rfl kk) ?_
      refine ob T18 (mkF mG 23 #[.val (.int (2 : Int32)), .val (.int i1), .val (.int (2 : Int32)), .val (.ref w_THUMBNAIL)] [(.ref w_THUMBNAIL)]) (fun _ kk => XS.aloadN X18.here hx rfl (hb hby at_22) rfl rfl kk) ?_
      refine ob T18 (mkF mG 24 #[.val (.int (2 : Int32)), .val (.int i1), .val (.int (2 : Int32)), .val (.ref w_THUMBNAIL)] [(.int (2 : Int32)), (.ref w_THUMBNAIL)]) (fun _ kk => XS.iloadN X18.here hx rfl (hb hby at_23) rfl kk) ?_
      obtain ⟨_, _, ⟨T19, L19, k19, n19⟩, -, X19, ⟨Lc19, hQ19, l19, y19, z19⟩, st19⟩ := Jvm.LawKit.callS X18 hx (y := (⟨"com/example/carrel/carrel/document/FileTypeOfPinLaw", "expected", "(I)Lcom/example/carrel/carrel/document/BoundDocument$FileType;"⟩ : MethodName)) hown (mvT hZ (ow hw 27 rfl)) (mvT hZ (ow hw 28 rfl)) (mvT hZ (ow hw 29 rfl)) (mvT hZ (ow hw 30 rfl)) (by decide) (backOf (W := 1) (rm_ex2 l Z a0 hw [] w_IMAGE_600 w_THUMBNAIL w_PAGE_TEXT w_NOTES w_OTHER w_IMAGE_300 w_VALUES c_VALUES  h18 n0 O18 hS ) hZ (ow hw 30 rfl) (ow hw 29 rfl) (by decide) (by decide)) (g := (mkF mG 24 #[.val (.int (2 : Int32)), .val (.int i1), .val (.int (2 : Int32)), .val (.ref w_THUMBNAIL)] [(.int (2 : Int32)), (.ref w_THUMBNAIL)])) rfl (by rw [hml]; rfl) (argsL := [(.int (2 : Int32))]) (rest := [(.ref w_THUMBNAIL)]) (lenOf pd_1 rfl) rfl (by show 2 * 0 + _ ≤ _; exact Nat.le_of_eq rfl) (hb hby at_24) (fun _ _ => ⟨rfl, e18, (by decide : 1 + 0 ≤ _), (by decide : 6 + 0 ≤ _)⟩)
      dsimp only [Pt.U, Pt.locs, Pt.cells, Pt.slots] at X19 l19 y19 z19 st19 hQ19
      subst l19 y19 z19
      obtain ⟨rfl, N19q, e19⟩ := hQ19
      have N19 := Fr.app N18 N19q
      refine ob T19 (mkF mG 27 #[.val (.int (2 : Int32)), .val (.int i1), .val (.int (2 : Int32)), .val (.ref w_THUMBNAIL)] [(.ref w_THUMBNAIL), (.ref w_THUMBNAIL)]) (fun _ kk => st19 _ kk) ?_
      refine ob T19 (mkF mG 30 #[.val (.int (2 : Int32)), .val (.int i1), .val (.int (2 : Int32)), .val (.ref w_THUMBNAIL)] []) (fun _ kk => Jvm.RoadKit.acmp (g := (mkF mG 27 #[.val (.int (2 : Int32)), .val (.int i1), .val (.int (2 : Int32)), .val (.ref w_THUMBNAIL)] [(.ref w_THUMBNAIL), (.ref w_THUMBNAIL)])) X19 hx rfl rfl rfl (pc0 := 27) (pc' := 30) (same := true) rfl (hb hby at_27) rfl (decide_eq_true rfl) (by decide) (by decide) kk) ?_
      refine ob T19 (mkF mG 31 #[.val (.int (2 : Int32)), .val (.int i1), .val (.int (2 : Int32)), .val (.ref w_THUMBNAIL)] [(.int (1 : Int32))]) (fun _ kk => XS.iconst X19.here hx rfl (hb hby at_30) kk) ?_
      refine ob T19 (mkF mG 35 #[.val (.int (2 : Int32)), .val (.int i1), .val (.int (2 : Int32)), .val (.ref w_THUMBNAIL)] [(.int (1 : Int32))]) (fun _ kk => XS.goto X19.here hx rfl (pc0 := 31) (pc' := 35) rfl (hb hby at_31) (by decide) (by decide) kk) ?_
      obtain ⟨fs, hr, hrun, hended, hW, hsame⟩ := X19.leave (v := some (.int (1 : Int32))) (fun h => by rw [Bd.returns] at h; cases h)
      refine oout (retN X19 hx (t := .boolean) Bd.returns (by simp) (hb hby at_35) hr) hrun hended ⟨_, _, rfl, ?_, ⟨_, rfl⟩, hW, hsame.mono (by decide) (by decide)⟩
      show Q_rm0 Z w_IMAGE_600 w_THUMBNAIL w_PAGE_TEXT w_NOTES w_OTHER w_IMAGE_300 w_VALUES c_VALUES i0 i1 h0 n0 _ T19.heap _
      rw [e19]
      exact ⟨rfl, N19⟩
    by_cases hx3 : x = (3 : Int32)
    · clear hxx; subst hx3
      refine ob s₁ (mkF mG 18 #[.val (.int (3 : Int32)), .val (.int i1), .val (.int (3 : Int32)), .unset] [(.int (3 : Int32))]) (fun _ kk => XS.iloadN X0.here hx rfl (hb hby at_17) rfl kk) ?_
      obtain ⟨_, _, ⟨T20, L20, k20, n20⟩, -, X20, ⟨Lc20, hQ20, l20, y20, z20⟩, st20⟩ := Jvm.LawKit.callS X0 hx (y := (⟨"com/example/carrel/carrel/document/BoundDocument$FileType", "of", "(I)Lcom/example/carrel/carrel/document/BoundDocument$FileType;"⟩ : MethodName)) hown (mvT hZ (ow hw 0 rfl)) (mvT hZ (ow hw 1 rfl)) (mvT hZ (ow hw 2 rfl)) (mvT hZ (ow hw 3 rfl)) (by decide) (backOf (W := 0) (rm_of3 l Z a0 hw [] w_IMAGE_600 w_THUMBNAIL w_PAGE_TEXT w_NOTES w_OTHER w_IMAGE_300 w_VALUES c_VALUES  h0 n0 O0 hS ) hZ (ow hw 3 rfl) (ow hw 2 rfl) (by decide) (by decide)) (g := (mkF mG 18 #[.val (.int (3 : Int32)), .val (.int i1), .val (.int (3 : Int32)), .unset] [(.int (3 : Int32))])) rfl (by rw [hml]; rfl) (argsL := [(.int (3 : Int32))]) (rest := []) (lenOf pd_1 rfl) rfl (by show 2 * 0 + _ ≤ _; exact Nat.le_of_eq rfl) (hb hby at_18) (fun _ _ => ⟨rfl, e0, (by decide : 0 + 1 ≤ _), (by decide : 0 + 6 ≤ _)⟩)
      dsimp only [Pt.U, Pt.locs, Pt.cells, Pt.slots] at X20 l20 y20 z20 st20 hQ20
      subst l20 y20 z20
      obtain ⟨h20, e20⟩ : ∃ h, T20.heap = h := ⟨_, rfl⟩
      rw [e20] at hQ20
      obtain ⟨rfl, N20q, K20q, O20⟩ := hQ20
      have N20 := Fr.app N0 N20q
      have K20 := K0.trans K20q all0
      refine ob T20 (mkF mG 21 #[.val (.int (3 : Int32)), .val (.int i1), .val (.int (3 : Int32)), .unset] [(.ref w_PAGE_TEXT)]) (fun _ kk => st20 _ kk) ?_
      refine ob T20 (mkF mG 22 #[.val (.int (3 : Int32)), .val (.int i1), .val (.int (3 : Int32)), .val (.ref w_PAGE_TEXT)] []) (fun _ kk => XS.astoreN X20.here hx rfl (hb hby at_21) rfl rfl (l' := #[.val (.int (3 : Int32)), .val (.int i1), .val (.int (3 : Int32)), .val (.ref w_PAGE_TEXT)]) rfl kk) ?_
      refine ob T20 (mkF mG 23 #[.val (.int (3 : Int32)), .val (.int i1), .val (.int (3 : Int32)), .val (.ref w_PAGE_TEXT)] [(.ref w_PAGE_TEXT)]) (fun _ kk => XS.aloadN X20.here hx rfl (hb hby at_22) rfl rfl kk) ?_
      refine ob T20 (mkF mG 24 #[.val (.int (3 : Int32)), .val (.int i1), .val (.int (3 : Int32)), .val (.ref w_PAGE_TEXT)] [(.int (3 : Int32)), (.ref w_PAGE_TEXT)]) (fun _ kk => XS.iloadN X20.here hx rfl (hb hby at_23) rfl kk) ?_
      obtain ⟨_, _, ⟨T21, L21, k21, n21⟩, -, X21, ⟨Lc21, hQ21, l21, y21, z21⟩, st21⟩ := Jvm.LawKit.callS X20 hx (y := (⟨"com/example/carrel/carrel/document/FileTypeOfPinLaw", "expected", "(I)Lcom/example/carrel/carrel/document/BoundDocument$FileType;"⟩ : MethodName)) hown (mvT hZ (ow hw 27 rfl)) (mvT hZ (ow hw 28 rfl)) (mvT hZ (ow hw 29 rfl)) (mvT hZ (ow hw 30 rfl)) (by decide) (backOf (W := 1) (rm_ex3 l Z a0 hw [] w_IMAGE_600 w_THUMBNAIL w_PAGE_TEXT w_NOTES w_OTHER w_IMAGE_300 w_VALUES c_VALUES  h20 n0 O20 hS ) hZ (ow hw 30 rfl) (ow hw 29 rfl) (by decide) (by decide)) (g := (mkF mG 24 #[.val (.int (3 : Int32)), .val (.int i1), .val (.int (3 : Int32)), .val (.ref w_PAGE_TEXT)] [(.int (3 : Int32)), (.ref w_PAGE_TEXT)])) rfl (by rw [hml]; rfl) (argsL := [(.int (3 : Int32))]) (rest := [(.ref w_PAGE_TEXT)]) (lenOf pd_1 rfl) rfl (by show 2 * 0 + _ ≤ _; exact Nat.le_of_eq rfl) (hb hby at_24) (fun _ _ => ⟨rfl, e20, (by decide : 1 + 0 ≤ _), (by decide : 6 + 0 ≤ _)⟩)
      dsimp only [Pt.U, Pt.locs, Pt.cells, Pt.slots] at X21 l21 y21 z21 st21 hQ21
      subst l21 y21 z21
      obtain ⟨rfl, N21q, e21⟩ := hQ21
      have N21 := Fr.app N20 N21q
      refine ob T21 (mkF mG 27 #[.val (.int (3 : Int32)), .val (.int i1), .val (.int (3 : Int32)), .val (.ref w_PAGE_TEXT)] [(.ref w_PAGE_TEXT), (.ref w_PAGE_TEXT)]) (fun _ kk => st21 _ kk) ?_
      refine ob T21 (mkF mG 30 #[.val (.int (3 : Int32)), .val (.int i1), .val (.int (3 : Int32)), .val (.ref w_PAGE_TEXT)] []) (fun _ kk => Jvm.RoadKit.acmp (g := (mkF mG 27 #[.val (.int (3 : Int32)), .val (.int i1), .val (.int (3 : Int32)), .val (.ref w_PAGE_TEXT)] [(.ref w_PAGE_TEXT), (.ref w_PAGE_TEXT)])) X21 hx rfl rfl rfl (pc0 := 27) (pc' := 30) (same := true) rfl (hb hby at_27) rfl (decide_eq_true rfl) (by decide) (by decide) kk) ?_
      refine ob T21 (mkF mG 31 #[.val (.int (3 : Int32)), .val (.int i1), .val (.int (3 : Int32)), .val (.ref w_PAGE_TEXT)] [(.int (1 : Int32))]) (fun _ kk => XS.iconst X21.here hx rfl (hb hby at_30) kk) ?_
      refine ob T21 (mkF mG 35 #[.val (.int (3 : Int32)), .val (.int i1), .val (.int (3 : Int32)), .val (.ref w_PAGE_TEXT)] [(.int (1 : Int32))]) (fun _ kk => XS.goto X21.here hx rfl (pc0 := 31) (pc' := 35) rfl (hb hby at_31) (by decide) (by decide) kk) ?_
      obtain ⟨fs, hr, hrun, hended, hW, hsame⟩ := X21.leave (v := some (.int (1 : Int32))) (fun h => by rw [Bd.returns] at h; cases h)
      refine oout (retN X21 hx (t := .boolean) Bd.returns (by simp) (hb hby at_35) hr) hrun hended ⟨_, _, rfl, ?_, ⟨_, rfl⟩, hW, hsame.mono (by decide) (by decide)⟩
      show Q_rm0 Z w_IMAGE_600 w_THUMBNAIL w_PAGE_TEXT w_NOTES w_OTHER w_IMAGE_300 w_VALUES c_VALUES i0 i1 h0 n0 _ T21.heap _
      rw [e21]
      exact ⟨rfl, N21⟩
    by_cases hx4 : x = (4 : Int32)
    · clear hxx; subst hx4
      refine ob s₁ (mkF mG 18 #[.val (.int (4 : Int32)), .val (.int i1), .val (.int (4 : Int32)), .unset] [(.int (4 : Int32))]) (fun _ kk => XS.iloadN X0.here hx rfl (hb hby at_17) rfl kk) ?_
      obtain ⟨_, _, ⟨T22, L22, k22, n22⟩, -, X22, ⟨Lc22, hQ22, l22, y22, z22⟩, st22⟩ := Jvm.LawKit.callS X0 hx (y := (⟨"com/example/carrel/carrel/document/BoundDocument$FileType", "of", "(I)Lcom/example/carrel/carrel/document/BoundDocument$FileType;"⟩ : MethodName)) hown (mvT hZ (ow hw 0 rfl)) (mvT hZ (ow hw 1 rfl)) (mvT hZ (ow hw 2 rfl)) (mvT hZ (ow hw 3 rfl)) (by decide) (backOf (W := 0) (rm_of4 l Z a0 hw [] w_IMAGE_600 w_THUMBNAIL w_PAGE_TEXT w_NOTES w_OTHER w_IMAGE_300 w_VALUES c_VALUES  h0 n0 O0 hS ) hZ (ow hw 3 rfl) (ow hw 2 rfl) (by decide) (by decide)) (g := (mkF mG 18 #[.val (.int (4 : Int32)), .val (.int i1), .val (.int (4 : Int32)), .unset] [(.int (4 : Int32))])) rfl (by rw [hml]; rfl) (argsL := [(.int (4 : Int32))]) (rest := []) (lenOf pd_1 rfl) rfl (by show 2 * 0 + _ ≤ _; exact Nat.le_of_eq rfl) (hb hby at_18) (fun _ _ => ⟨rfl, e0, (by decide : 0 + 1 ≤ _), (by decide : 0 + 6 ≤ _)⟩)
      dsimp only [Pt.U, Pt.locs, Pt.cells, Pt.slots] at X22 l22 y22 z22 st22 hQ22
      subst l22 y22 z22
      obtain ⟨h22, e22⟩ : ∃ h, T22.heap = h := ⟨_, rfl⟩
      rw [e22] at hQ22
      obtain ⟨rfl, N22q, K22q, O22⟩ := hQ22
      have N22 := Fr.app N0 N22q
      have K22 := K0.trans K22q all0
      refine ob T22 (mkF mG 21 #[.val (.int (4 : Int32)), .val (.int i1), .val (.int (4 : Int32)), .unset] [(.ref w_NOTES)]) (fun _ kk => st22 _ kk) ?_
      refine ob T22 (mkF mG 22 #[.val (.int (4 : Int32)), .val (.int i1), .val (.int (4 : Int32)), .val (.ref w_NOTES)] []) (fun _ kk => XS.astoreN X22.here hx rfl (hb hby at_21) rfl rfl (l' := #[.val (.int (4 : Int32)), .val (.int i1), .val (.int (4 : Int32)), .val (.ref w_NOTES)]) rfl kk) ?_
      refine ob T22 (mkF mG 23 #[.val (.int (4 : Int32)), .val (.int i1), .val (.int (4 : Int32)), .val (.ref w_NOTES)] [(.ref w_NOTES)]) (fun _ kk => XS.aloadN X22.here hx rfl (hb hby at_22) rfl rfl kk) ?_
      refine ob T22 (mkF mG 24 #[.val (.int (4 : Int32)), .val (.int i1), .val (.int (4 : Int32)), .val (.ref w_NOTES)] [(.int (4 : Int32)), (.ref w_NOTES)]) (fun _ kk => XS.iloadN X22.here hx rfl (hb hby at_23) rfl kk) ?_
      obtain ⟨_, _, ⟨T23, L23, k23, n23⟩, -, X23, ⟨Lc23, hQ23, l23, y23, z23⟩, st23⟩ := Jvm.LawKit.callS X22 hx (y := (⟨"com/example/carrel/carrel/document/FileTypeOfPinLaw", "expected", "(I)Lcom/example/carrel/carrel/document/BoundDocument$FileType;"⟩ : MethodName)) hown (mvT hZ (ow hw 27 rfl)) (mvT hZ (ow hw 28 rfl)) (mvT hZ (ow hw 29 rfl)) (mvT hZ (ow hw 30 rfl)) (by decide) (backOf (W := 1) (rm_ex4 l Z a0 hw [] w_IMAGE_600 w_THUMBNAIL w_PAGE_TEXT w_NOTES w_OTHER w_IMAGE_300 w_VALUES c_VALUES  h22 n0 O22 hS ) hZ (ow hw 30 rfl) (ow hw 29 rfl) (by decide) (by decide)) (g := (mkF mG 24 #[.val (.int (4 : Int32)), .val (.int i1), .val (.int (4 : Int32)), .val (.ref w_NOTES)] [(.int (4 : Int32)), (.ref w_NOTES)])) rfl (by rw [hml]; rfl) (argsL := [(.int (4 : Int32))]) (rest := [(.ref w_NOTES)]) (lenOf pd_1 rfl) rfl (by show 2 * 0 + _ ≤ _; exact Nat.le_of_eq rfl) (hb hby at_24) (fun _ _ => ⟨rfl, e22, (by decide : 1 + 0 ≤ _), (by decide : 6 + 0 ≤ _)⟩)
      dsimp only [Pt.U, Pt.locs, Pt.cells, Pt.slots] at X23 l23 y23 z23 st23 hQ23
      subst l23 y23 z23
      obtain ⟨rfl, N23q, e23⟩ := hQ23
      have N23 := Fr.app N22 N23q
      refine ob T23 (mkF mG 27 #[.val (.int (4 : Int32)), .val (.int i1), .val (.int (4 : Int32)), .val (.ref w_NOTES)] [(.ref w_NOTES), (.ref w_NOTES)]) (fun _ kk => st23 _ kk) ?_
      refine ob T23 (mkF mG 30 #[.val (.int (4 : Int32)), .val (.int i1), .val (.int (4 : Int32)), .val (.ref w_NOTES)] []) (fun _ kk => Jvm.RoadKit.acmp (g := (mkF mG 27 #[.val (.int (4 : Int32)), .val (.int i1), .val (.int (4 : Int32)), .val (.ref w_NOTES)] [(.ref w_NOTES), (.ref w_NOTES)])) X23 hx rfl rfl rfl (pc0 := 27) (pc' := 30) (same := true) rfl (hb hby at_27) rfl (decide_eq_true rfl) (by decide) (by decide) kk) ?_
      refine ob T23 (mkF mG 31 #[.val (.int (4 : Int32)), .val (.int i1), .val (.int (4 : Int32)), .val (.ref w_NOTES)] [(.int (1 : Int32))]) (fun _ kk => XS.iconst X23.here hx rfl (hb hby at_30) kk) ?_
      refine ob T23 (mkF mG 35 #[.val (.int (4 : Int32)), .val (.int i1), .val (.int (4 : Int32)), .val (.ref w_NOTES)] [(.int (1 : Int32))]) (fun _ kk => XS.goto X23.here hx rfl (pc0 := 31) (pc' := 35) rfl (hb hby at_31) (by decide) (by decide) kk) ?_
      obtain ⟨fs, hr, hrun, hended, hW, hsame⟩ := X23.leave (v := some (.int (1 : Int32))) (fun h => by rw [Bd.returns] at h; cases h)
      refine oout (retN X23 hx (t := .boolean) Bd.returns (by simp) (hb hby at_35) hr) hrun hended ⟨_, _, rfl, ?_, ⟨_, rfl⟩, hW, hsame.mono (by decide) (by decide)⟩
      show Q_rm0 Z w_IMAGE_600 w_THUMBNAIL w_PAGE_TEXT w_NOTES w_OTHER w_IMAGE_300 w_VALUES c_VALUES i0 i1 h0 n0 _ T23.heap _
      rw [e23]
      exact ⟨rfl, N23⟩
    by_cases hx5 : x = (5 : Int32)
    · clear hxx; subst hx5
      refine ob s₁ (mkF mG 18 #[.val (.int (5 : Int32)), .val (.int i1), .val (.int (5 : Int32)), .unset] [(.int (5 : Int32))]) (fun _ kk => XS.iloadN X0.here hx rfl (hb hby at_17) rfl kk) ?_
      obtain ⟨_, _, ⟨T24, L24, k24, n24⟩, -, X24, ⟨Lc24, hQ24, l24, y24, z24⟩, st24⟩ := Jvm.LawKit.callS X0 hx (y := (⟨"com/example/carrel/carrel/document/BoundDocument$FileType", "of", "(I)Lcom/example/carrel/carrel/document/BoundDocument$FileType;"⟩ : MethodName)) hown (mvT hZ (ow hw 0 rfl)) (mvT hZ (ow hw 1 rfl)) (mvT hZ (ow hw 2 rfl)) (mvT hZ (ow hw 3 rfl)) (by decide) (backOf (W := 0) (rm_of5 l Z a0 hw [] w_IMAGE_600 w_THUMBNAIL w_PAGE_TEXT w_NOTES w_OTHER w_IMAGE_300 w_VALUES c_VALUES  h0 n0 O0 hS ) hZ (ow hw 3 rfl) (ow hw 2 rfl) (by decide) (by decide)) (g := (mkF mG 18 #[.val (.int (5 : Int32)), .val (.int i1), .val (.int (5 : Int32)), .unset] [(.int (5 : Int32))])) rfl (by rw [hml]; rfl) (argsL := [(.int (5 : Int32))]) (rest := []) (lenOf pd_1 rfl) rfl (by show 2 * 0 + _ ≤ _; exact Nat.le_of_eq rfl) (hb hby at_18) (fun _ _ => ⟨rfl, e0, (by decide : 0 + 1 ≤ _), (by decide : 0 + 6 ≤ _)⟩)
      dsimp only [Pt.U, Pt.locs, Pt.cells, Pt.slots] at X24 l24 y24 z24 st24 hQ24
      subst l24 y24 z24
      obtain ⟨h24, e24⟩ : ∃ h, T24.heap = h := ⟨_, rfl⟩
      rw [e24] at hQ24
      obtain ⟨rfl, N24q, K24q, O24⟩ := hQ24
      have N24 := Fr.app N0 N24q
      have K24 := K0.trans K24q all0
      refine ob T24 (mkF mG 21 #[.val (.int (5 : Int32)), .val (.int i1), .val (.int (5 : Int32)), .unset] [(.ref w_OTHER)]) (fun _ kk => st24 _ kk) ?_
      refine ob T24 (mkF mG 22 #[.val (.int (5 : Int32)), .val (.int i1), .val (.int (5 : Int32)), .val (.ref w_OTHER)] []) (fun _ kk => XS.astoreN X24.here hx rfl (hb hby at_21) rfl rfl (l' := #[.val (.int (5 : Int32)), .val (.int i1), .val (.int (5 : Int32)), .val (.ref w_OTHER)]) rfl kk) ?_
      refine ob T24 (mkF mG 23 #[.val (.int (5 : Int32)), .val (.int i1), .val (.int (5 : Int32)), .val (.ref w_OTHER)] [(.ref w_OTHER)]) (fun _ kk => XS.aloadN X24.here hx rfl (hb hby at_22) rfl rfl kk) ?_
      refine ob T24 (mkF mG 24 #[.val (.int (5 : Int32)), .val (.int i1), .val (.int (5 : Int32)), .val (.ref w_OTHER)] [(.int (5 : Int32)), (.ref w_OTHER)]) (fun _ kk => XS.iloadN X24.here hx rfl (hb hby at_23) rfl kk) ?_
      obtain ⟨_, _, ⟨T25, L25, k25, n25⟩, -, X25, ⟨Lc25, hQ25, l25, y25, z25⟩, st25⟩ := Jvm.LawKit.callS X24 hx (y := (⟨"com/example/carrel/carrel/document/FileTypeOfPinLaw", "expected", "(I)Lcom/example/carrel/carrel/document/BoundDocument$FileType;"⟩ : MethodName)) hown (mvT hZ (ow hw 27 rfl)) (mvT hZ (ow hw 28 rfl)) (mvT hZ (ow hw 29 rfl)) (mvT hZ (ow hw 30 rfl)) (by decide) (backOf (W := 1) (rm_ex5 l Z a0 hw [] w_IMAGE_600 w_THUMBNAIL w_PAGE_TEXT w_NOTES w_OTHER w_IMAGE_300 w_VALUES c_VALUES  h24 n0 O24 hS ) hZ (ow hw 30 rfl) (ow hw 29 rfl) (by decide) (by decide)) (g := (mkF mG 24 #[.val (.int (5 : Int32)), .val (.int i1), .val (.int (5 : Int32)), .val (.ref w_OTHER)] [(.int (5 : Int32)), (.ref w_OTHER)])) rfl (by rw [hml]; rfl) (argsL := [(.int (5 : Int32))]) (rest := [(.ref w_OTHER)]) (lenOf pd_1 rfl) rfl (by show 2 * 0 + _ ≤ _; exact Nat.le_of_eq rfl) (hb hby at_24) (fun _ _ => ⟨rfl, e24, (by decide : 1 + 0 ≤ _), (by decide : 6 + 0 ≤ _)⟩)
      dsimp only [Pt.U, Pt.locs, Pt.cells, Pt.slots] at X25 l25 y25 z25 st25 hQ25
      subst l25 y25 z25
      obtain ⟨rfl, N25q, e25⟩ := hQ25
      have N25 := Fr.app N24 N25q
      refine ob T25 (mkF mG 27 #[.val (.int (5 : Int32)), .val (.int i1), .val (.int (5 : Int32)), .val (.ref w_OTHER)] [(.ref w_OTHER), (.ref w_OTHER)]) (fun _ kk => st25 _ kk) ?_
      refine ob T25 (mkF mG 30 #[.val (.int (5 : Int32)), .val (.int i1), .val (.int (5 : Int32)), .val (.ref w_OTHER)] []) (fun _ kk => Jvm.RoadKit.acmp (g := (mkF mG 27 #[.val (.int (5 : Int32)), .val (.int i1), .val (.int (5 : Int32)), .val (.ref w_OTHER)] [(.ref w_OTHER), (.ref w_OTHER)])) X25 hx rfl rfl rfl (pc0 := 27) (pc' := 30) (same := true) rfl (hb hby at_27) rfl (decide_eq_true rfl) (by decide) (by decide) kk) ?_
      refine ob T25 (mkF mG 31 #[.val (.int (5 : Int32)), .val (.int i1), .val (.int (5 : Int32)), .val (.ref w_OTHER)] [(.int (1 : Int32))]) (fun _ kk => XS.iconst X25.here hx rfl (hb hby at_30) kk) ?_
      refine ob T25 (mkF mG 35 #[.val (.int (5 : Int32)), .val (.int i1), .val (.int (5 : Int32)), .val (.ref w_OTHER)] [(.int (1 : Int32))]) (fun _ kk => XS.goto X25.here hx rfl (pc0 := 31) (pc' := 35) rfl (hb hby at_31) (by decide) (by decide) kk) ?_
      obtain ⟨fs, hr, hrun, hended, hW, hsame⟩ := X25.leave (v := some (.int (1 : Int32))) (fun h => by rw [Bd.returns] at h; cases h)
      refine oout (retN X25 hx (t := .boolean) Bd.returns (by simp) (hb hby at_35) hr) hrun hended ⟨_, _, rfl, ?_, ⟨_, rfl⟩, hW, hsame.mono (by decide) (by decide)⟩
      show Q_rm0 Z w_IMAGE_600 w_THUMBNAIL w_PAGE_TEXT w_NOTES w_OTHER w_IMAGE_300 w_VALUES c_VALUES i0 i1 h0 n0 _ T25.heap _
      rw [e25]
      exact ⟨rfl, N25⟩
    by_cases hx6 : x = (6 : Int32)
    · clear hxx; subst hx6
      refine ob s₁ (mkF mG 18 #[.val (.int (6 : Int32)), .val (.int i1), .val (.int (6 : Int32)), .unset] [(.int (6 : Int32))]) (fun _ kk => XS.iloadN X0.here hx rfl (hb hby at_17) rfl kk) ?_
      obtain ⟨_, _, ⟨T26, L26, k26, n26⟩, -, X26, ⟨Lc26, hQ26, l26, y26, z26⟩, st26⟩ := Jvm.LawKit.callS X0 hx (y := (⟨"com/example/carrel/carrel/document/BoundDocument$FileType", "of", "(I)Lcom/example/carrel/carrel/document/BoundDocument$FileType;"⟩ : MethodName)) hown (mvT hZ (ow hw 0 rfl)) (mvT hZ (ow hw 1 rfl)) (mvT hZ (ow hw 2 rfl)) (mvT hZ (ow hw 3 rfl)) (by decide) (backOf (W := 0) (rm_of6 l Z a0 hw [] w_IMAGE_600 w_THUMBNAIL w_PAGE_TEXT w_NOTES w_OTHER w_IMAGE_300 w_VALUES c_VALUES  h0 n0 O0 hS ) hZ (ow hw 3 rfl) (ow hw 2 rfl) (by decide) (by decide)) (g := (mkF mG 18 #[.val (.int (6 : Int32)), .val (.int i1), .val (.int (6 : Int32)), .unset] [(.int (6 : Int32))])) rfl (by rw [hml]; rfl) (argsL := [(.int (6 : Int32))]) (rest := []) (lenOf pd_1 rfl) rfl (by show 2 * 0 + _ ≤ _; exact Nat.le_of_eq rfl) (hb hby at_18) (fun _ _ => ⟨rfl, e0, (by decide : 0 + 1 ≤ _), (by decide : 0 + 6 ≤ _)⟩)
      dsimp only [Pt.U, Pt.locs, Pt.cells, Pt.slots] at X26 l26 y26 z26 st26 hQ26
      subst l26 y26 z26
      obtain ⟨h26, e26⟩ : ∃ h, T26.heap = h := ⟨_, rfl⟩
      rw [e26] at hQ26
      obtain ⟨rfl, N26q, K26q, O26⟩ := hQ26
      have N26 := Fr.app N0 N26q
      have K26 := K0.trans K26q all0
      refine ob T26 (mkF mG 21 #[.val (.int (6 : Int32)), .val (.int i1), .val (.int (6 : Int32)), .unset] [(.ref w_IMAGE_300)]) (fun _ kk => st26 _ kk) ?_
      refine ob T26 (mkF mG 22 #[.val (.int (6 : Int32)), .val (.int i1), .val (.int (6 : Int32)), .val (.ref w_IMAGE_300)] []) (fun _ kk => XS.astoreN X26.here hx rfl (hb hby at_21) rfl rfl (l' := #[.val (.int (6 : Int32)), .val (.int i1), .val (.int (6 : Int32)), .val (.ref w_IMAGE_300)]) rfl kk) ?_
      refine ob T26 (mkF mG 23 #[.val (.int (6 : Int32)), .val (.int i1), .val (.int (6 : Int32)), .val (.ref w_IMAGE_300)] [(.ref w_IMAGE_300)]) (fun _ kk => XS.aloadN X26.here hx rfl (hb hby at_22) rfl rfl kk) ?_
      refine ob T26 (mkF mG 24 #[.val (.int (6 : Int32)), .val (.int i1), .val (.int (6 : Int32)), .val (.ref w_IMAGE_300)] [(.int (6 : Int32)), (.ref w_IMAGE_300)]) (fun _ kk => XS.iloadN X26.here hx rfl (hb hby at_23) rfl kk) ?_
      obtain ⟨_, _, ⟨T27, L27, k27, n27⟩, -, X27, ⟨Lc27, hQ27, l27, y27, z27⟩, st27⟩ := Jvm.LawKit.callS X26 hx (y := (⟨"com/example/carrel/carrel/document/FileTypeOfPinLaw", "expected", "(I)Lcom/example/carrel/carrel/document/BoundDocument$FileType;"⟩ : MethodName)) hown (mvT hZ (ow hw 27 rfl)) (mvT hZ (ow hw 28 rfl)) (mvT hZ (ow hw 29 rfl)) (mvT hZ (ow hw 30 rfl)) (by decide) (backOf (W := 1) (rm_ex6 l Z a0 hw [] w_IMAGE_600 w_THUMBNAIL w_PAGE_TEXT w_NOTES w_OTHER w_IMAGE_300 w_VALUES c_VALUES  h26 n0 O26 hS ) hZ (ow hw 30 rfl) (ow hw 29 rfl) (by decide) (by decide)) (g := (mkF mG 24 #[.val (.int (6 : Int32)), .val (.int i1), .val (.int (6 : Int32)), .val (.ref w_IMAGE_300)] [(.int (6 : Int32)), (.ref w_IMAGE_300)])) rfl (by rw [hml]; rfl) (argsL := [(.int (6 : Int32))]) (rest := [(.ref w_IMAGE_300)]) (lenOf pd_1 rfl) rfl (by show 2 * 0 + _ ≤ _; exact Nat.le_of_eq rfl) (hb hby at_24) (fun _ _ => ⟨rfl, e26, (by decide : 1 + 0 ≤ _), (by decide : 6 + 0 ≤ _)⟩)
      dsimp only [Pt.U, Pt.locs, Pt.cells, Pt.slots] at X27 l27 y27 z27 st27 hQ27
      subst l27 y27 z27
      obtain ⟨rfl, N27q, e27⟩ := hQ27
      have N27 := Fr.app N26 N27q
      refine ob T27 (mkF mG 27 #[.val (.int (6 : Int32)), .val (.int i1), .val (.int (6 : Int32)), .val (.ref w_IMAGE_300)] [(.ref w_IMAGE_300), (.ref w_IMAGE_300)]) (fun _ kk => st27 _ kk) ?_
      refine ob T27 (mkF mG 30 #[.val (.int (6 : Int32)), .val (.int i1), .val (.int (6 : Int32)), .val (.ref w_IMAGE_300)] []) (fun _ kk => Jvm.RoadKit.acmp (g := (mkF mG 27 #[.val (.int (6 : Int32)), .val (.int i1), .val (.int (6 : Int32)), .val (.ref w_IMAGE_300)] [(.ref w_IMAGE_300), (.ref w_IMAGE_300)])) X27 hx rfl rfl rfl (pc0 := 27) (pc' := 30) (same := true) rfl (hb hby at_27) rfl (decide_eq_true rfl) (by decide) (by decide) kk) ?_
      refine ob T27 (mkF mG 31 #[.val (.int (6 : Int32)), .val (.int i1), .val (.int (6 : Int32)), .val (.ref w_IMAGE_300)] [(.int (1 : Int32))]) (fun _ kk => XS.iconst X27.here hx rfl (hb hby at_30) kk) ?_
      refine ob T27 (mkF mG 35 #[.val (.int (6 : Int32)), .val (.int i1), .val (.int (6 : Int32)), .val (.ref w_IMAGE_300)] [(.int (1 : Int32))]) (fun _ kk => XS.goto X27.here hx rfl (pc0 := 31) (pc' := 35) rfl (hb hby at_31) (by decide) (by decide) kk) ?_
      obtain ⟨fs, hr, hrun, hended, hW, hsame⟩ := X27.leave (v := some (.int (1 : Int32))) (fun h => by rw [Bd.returns] at h; cases h)
      refine oout (retN X27 hx (t := .boolean) Bd.returns (by simp) (hb hby at_35) hr) hrun hended ⟨_, _, rfl, ?_, ⟨_, rfl⟩, hW, hsame.mono (by decide) (by decide)⟩
      show Q_rm0 Z w_IMAGE_600 w_THUMBNAIL w_PAGE_TEXT w_NOTES w_OTHER w_IMAGE_300 w_VALUES c_VALUES i0 i1 h0 n0 _ T27.heap _
      rw [e27]
      exact ⟨rfl, N27⟩
    refine ob s₁ (mkF mG 18 #[.val (.int x), .val (.int i1), .val (.int x), .unset] [(.int x)]) (fun _ kk => XS.iloadN X0.here hx rfl (hb hby at_17) rfl kk) ?_
    obtain ⟨_, _, ⟨T28, L28, k28, n28⟩, -, X28, ⟨Lc28, hQ28, l28, y28, z28⟩, st28⟩ := Jvm.LawKit.callS X0 hx (y := (⟨"com/example/carrel/carrel/document/BoundDocument$FileType", "of", "(I)Lcom/example/carrel/carrel/document/BoundDocument$FileType;"⟩ : MethodName)) hown (mvT hZ (ow hw 0 rfl)) (mvT hZ (ow hw 1 rfl)) (mvT hZ (ow hw 2 rfl)) (mvT hZ (ow hw 3 rfl)) (by decide) (backOf (W := 0) (rm_of0 l Z a0 hw [] w_IMAGE_600 w_THUMBNAIL w_PAGE_TEXT w_NOTES w_OTHER w_IMAGE_300 w_VALUES c_VALUES x h0 n0 O0 hS hx1 hx2 hx3 hx4 hx5 hx6) hZ (ow hw 3 rfl) (ow hw 2 rfl) (by decide) (by decide)) (g := (mkF mG 18 #[.val (.int x), .val (.int i1), .val (.int x), .unset] [(.int x)])) rfl (by rw [hml]; rfl) (argsL := [(.int x)]) (rest := []) (lenOf pd_1 rfl) rfl (by show 2 * 0 + _ ≤ _; exact Nat.le_of_eq rfl) (hb hby at_18) (fun _ _ => ⟨rfl, e0, (by decide : 0 + 1 ≤ _), (by decide : 0 + 6 ≤ _)⟩)
    dsimp only [Pt.U, Pt.locs, Pt.cells, Pt.slots] at X28 l28 y28 z28 st28 hQ28
    subst l28 y28 z28
    obtain ⟨h28, e28⟩ : ∃ h, T28.heap = h := ⟨_, rfl⟩
    rw [e28] at hQ28
    obtain ⟨rfl, N28q, K28q, O28⟩ := hQ28
    have N28 := Fr.app N0 N28q
    have K28 := K0.trans K28q all0
    refine ob T28 (mkF mG 21 #[.val (.int x), .val (.int i1), .val (.int x), .unset] [.null]) (fun _ kk => st28 _ kk) ?_
    refine ob T28 (mkF mG 22 #[.val (.int x), .val (.int i1), .val (.int x), .val .null] []) (fun _ kk => XS.astoreN X28.here hx rfl (hb hby at_21) rfl rfl (l' := #[.val (.int x), .val (.int i1), .val (.int x), .val .null]) rfl kk) ?_
    refine ob T28 (mkF mG 23 #[.val (.int x), .val (.int i1), .val (.int x), .val .null] [.null]) (fun _ kk => XS.aloadN X28.here hx rfl (hb hby at_22) rfl rfl kk) ?_
    refine ob T28 (mkF mG 24 #[.val (.int x), .val (.int i1), .val (.int x), .val .null] [(.int x), .null]) (fun _ kk => XS.iloadN X28.here hx rfl (hb hby at_23) rfl kk) ?_
    obtain ⟨_, _, ⟨T29, L29, k29, n29⟩, -, X29, ⟨Lc29, hQ29, l29, y29, z29⟩, st29⟩ := Jvm.LawKit.callS X28 hx (y := (⟨"com/example/carrel/carrel/document/FileTypeOfPinLaw", "expected", "(I)Lcom/example/carrel/carrel/document/BoundDocument$FileType;"⟩ : MethodName)) hown (mvT hZ (ow hw 27 rfl)) (mvT hZ (ow hw 28 rfl)) (mvT hZ (ow hw 29 rfl)) (mvT hZ (ow hw 30 rfl)) (by decide) (backOf (W := 1) (rm_ex0 l Z a0 hw [] w_IMAGE_600 w_THUMBNAIL w_PAGE_TEXT w_NOTES w_OTHER w_IMAGE_300 w_VALUES c_VALUES x h28 n0 O28 hS hx1 hx2 hx3 hx4 hx5 hx6) hZ (ow hw 30 rfl) (ow hw 29 rfl) (by decide) (by decide)) (g := (mkF mG 24 #[.val (.int x), .val (.int i1), .val (.int x), .val .null] [(.int x), .null])) rfl (by rw [hml]; rfl) (argsL := [(.int x)]) (rest := [.null]) (lenOf pd_1 rfl) rfl (by show 2 * 0 + _ ≤ _; exact Nat.le_of_eq rfl) (hb hby at_24) (fun _ _ => ⟨rfl, e28, (by decide : 1 + 0 ≤ _), (by decide : 6 + 0 ≤ _)⟩)
    dsimp only [Pt.U, Pt.locs, Pt.cells, Pt.slots] at X29 l29 y29 z29 st29 hQ29
    subst l29 y29 z29
    obtain ⟨rfl, N29q, e29⟩ := hQ29
    have N29 := Fr.app N28 N29q
    refine ob T29 (mkF mG 27 #[.val (.int x), .val (.int i1), .val (.int x), .val .null] [.null, .null]) (fun _ kk => st29 _ kk) ?_
    refine ob T29 (mkF mG 30 #[.val (.int x), .val (.int i1), .val (.int x), .val .null] []) (fun _ kk => Jvm.RoadKit.acmp (g := (mkF mG 27 #[.val (.int x), .val (.int i1), .val (.int x), .val .null] [.null, .null])) X29 hx rfl rfl rfl (pc0 := 27) (pc' := 30) (same := true) rfl (hb hby at_27) rfl (decide_eq_true rfl) (by decide) (by decide) kk) ?_
    refine ob T29 (mkF mG 31 #[.val (.int x), .val (.int i1), .val (.int x), .val .null] [(.int (1 : Int32))]) (fun _ kk => XS.iconst X29.here hx rfl (hb hby at_30) kk) ?_
    refine ob T29 (mkF mG 35 #[.val (.int x), .val (.int i1), .val (.int x), .val .null] [(.int (1 : Int32))]) (fun _ kk => XS.goto X29.here hx rfl (pc0 := 31) (pc' := 35) rfl (hb hby at_31) (by decide) (by decide) kk) ?_
    obtain ⟨fs, hr, hrun, hended, hW, hsame⟩ := X29.leave (v := some (.int (1 : Int32))) (fun h => by rw [Bd.returns] at h; cases h)
    refine oout (retN X29 hx (t := .boolean) Bd.returns (by simp) (hb hby at_35) hr) hrun hended ⟨_, _, rfl, ?_, ⟨_, rfl⟩, hW, hsame.mono (by decide) (by decide)⟩
    show Q_rm0 Z w_IMAGE_600 w_THUMBNAIL w_PAGE_TEXT w_NOTES w_OTHER w_IMAGE_300 w_VALUES c_VALUES i0 i1 h0 n0 _ T29.heap _
    rw [e29]
    exact ⟨rfl, N29⟩

set_option maxRecDepth 65536 in
set_option maxHeartbeats 40000000 in
theorem comes_1 {Post : Tables → Env → Array Value → State → Outcome → State → Prop} (hpost : ∀ tb e args s v u, (limb_1_1.after args s (.returned v) u = true ∧ limb_1_2.after args s (.returned v) u = true ∧ True) → FrameEnd s (.returned v) u (Jvm.fieldLocs frame_1_writes args s ++ Jvm.arrayLocs frame_1_arrays args s ++ Jvm.staticLocs frame_1_statics s) 16 128 → Post tb e args s (.returned v) u) :
    ArmFor flags0 classFile x code maxLocals ret World_1 tables_1 room_1 Calls_1 rest_1 Pre_1 Post := by
  intro l hfl _ _ p e ha hc hk s m args below hf hA hF happ hP
  obtain ⟨hcalls, hrest, hpre⟩ := hP
  obtain ⟨-, -, -, hnamed, -, -, -, hat⟩ := (Spec.applies_iff hf).mp happ
  obtain ⟨hg, hn⟩ := and_e (Cond.before_iff.mp (show (Jvm.Cond.and given_1 narrow_1).before args s = true from hpre))
  obtain ⟨gg1, gg2⟩ := and_e hg
  obtain ⟨gg3, gg4⟩ := and_e gg2
  obtain ⟨w0, w1, rfl⟩ : ∃ w0 w1 : Value, args = #[w0, w1] := by
    have hs : args.size = 2 := by simpa [Cond.value, given_1] using gg1
    obtain ⟨L⟩ := args
    match L, hs with
    | [w0, w1], _ => exact ⟨w0, w1, rfl⟩
  have hw := fun d (hd : d ∈ tables_1) => atoms_spec (ws := Jvm.Cond.code x code maxLocals ret :: tables_1) hat d (List.mem_cons_of_mem _ hd)
  have hfit : Fit s := fun {y c} hc i hi => by
    obtain ⟨ha, rfl⟩ := Array.getElem?_eq_some_iff.mp hc
    have q := List.all_eq_true.mp ((Array.all_eq_true_iff_forall_mem.mp hF) _ (Array.getElem_mem ha)) i (List.mem_range.mpr hi)
    simpa [Array.getElem?_eq_getElem hi] using q
  obtain ⟨i0, ei0⟩ := is_v gg3
  obtain rfl : w0 = (.int i0) := Option.some.inj ei0
  obtain ⟨i1, ei1⟩ := is_v gg4
  obtain rfl : w1 = (.int i1) := Option.some.inj ei1
  obtain ⟨nn1, nn2⟩ := and_e hn
  obtain ⟨nn3, nn4⟩ := and_e nn2
  obtain ⟨nn5, nn6⟩ := and_e nn4
  obtain ⟨nn7, nn8⟩ := and_e nn6
  obtain ⟨nn9, nn10⟩ := and_e nn8
  obtain ⟨nn11, nn12⟩ := and_e nn10
  obtain ⟨nn13, nn14⟩ := and_e nn12
  obtain ⟨nn15, nn16⟩ := and_e nn14
  obtain ⟨nn17, nn18⟩ := and_e nn16
  obtain ⟨nn19, nn20⟩ := and_e nn18
  obtain ⟨nn21, nn22⟩ := and_e nn20
  obtain ⟨nn23, nn24⟩ := and_e nn22
  obtain ⟨nn25, nn26⟩ := and_e nn24
  obtain ⟨nn27, nn28⟩ := and_e nn26
  obtain ⟨nn29, nn30⟩ := and_e nn28
  obtain ⟨nn31, nn32⟩ := and_e nn30
  obtain ⟨nn33, nn34⟩ := and_e nn32
  obtain ⟨nn35, nn36⟩ := and_e nn34
  obtain ⟨nn37, nn38⟩ := and_e nn36
  obtain ⟨nn39, nn40⟩ := and_e nn38
  obtain ⟨w_IMAGE_600, ev_w_IMAGE_600, S_w_IMAGE_600, E_w_IMAGE_600⟩ := own_sta nn7 (Or.inr ⟨(ow hw 2 rfl), (ow hw 16 rfl)⟩)
  obtain ⟨w_THUMBNAIL, ev_w_THUMBNAIL, S_w_THUMBNAIL, E_w_THUMBNAIL⟩ := own_sta nn11 (Or.inr ⟨(ow hw 2 rfl), (ow hw 17 rfl)⟩)
  obtain ⟨w_PAGE_TEXT, ev_w_PAGE_TEXT, S_w_PAGE_TEXT, E_w_PAGE_TEXT⟩ := own_sta nn15 (Or.inr ⟨(ow hw 2 rfl), (ow hw 18 rfl)⟩)
  obtain ⟨w_NOTES, ev_w_NOTES, S_w_NOTES, E_w_NOTES⟩ := own_sta nn19 (Or.inr ⟨(ow hw 2 rfl), (ow hw 19 rfl)⟩)
  obtain ⟨w_OTHER, ev_w_OTHER, S_w_OTHER, E_w_OTHER⟩ := own_sta nn23 (Or.inr ⟨(ow hw 2 rfl), (ow hw 20 rfl)⟩)
  obtain ⟨w_IMAGE_300, ev_w_IMAGE_300, S_w_IMAGE_300, E_w_IMAGE_300⟩ := own_sta nn27 (Or.inr ⟨(ow hw 2 rfl), (ow hw 21 rfl)⟩)
  obtain ⟨w_VALUES, ev_w_VALUES⟩ := arr_v nn1
  have S_w_VALUES := Sta.start ev_w_VALUES (Or.inr ⟨(ow hw 2 rfl), (ow hw 8 rfl)⟩)
  obtain ⟨c_VALUES, A_w_VALUES⟩ := Arr.start ev_w_VALUES nn1
  have E_w_VALUES := Exa.start ev_w_VALUES nn3
  obtain ⟨l_w_VALUES, q_w_VALUES⟩ := own_len (A_w_VALUES.fin (Vm.Alike.refl _)) ev_w_VALUES nn5
  have el_w_VALUES_0 := (elem_in (own_eqR ev_w_IMAGE_600 nn9) ev_w_VALUES (Term.int_eval (0 : Int32)) A_w_VALUES.1).2
  have el_w_VALUES_1 := (elem_in (own_eqR ev_w_THUMBNAIL nn13) ev_w_VALUES (Term.int_eval (1 : Int32)) A_w_VALUES.1).2
  have el_w_VALUES_2 := (elem_in (own_eqR ev_w_PAGE_TEXT nn17) ev_w_VALUES (Term.int_eval (2 : Int32)) A_w_VALUES.1).2
  have el_w_VALUES_3 := (elem_in (own_eqR ev_w_NOTES nn21) ev_w_VALUES (Term.int_eval (3 : Int32)) A_w_VALUES.1).2
  have el_w_VALUES_4 := (elem_in (own_eqR ev_w_OTHER nn25) ev_w_VALUES (Term.int_eval (4 : Int32)) A_w_VALUES.1).2
  have el_w_VALUES_5 := (elem_in (own_eqR ev_w_IMAGE_300 nn29) ev_w_VALUES (Term.int_eval (5 : Int32)) A_w_VALUES.1).2
  have V_w_VALUES : Arv s s.heap w_VALUES c_VALUES.cls (.object "com/example/carrel/carrel/document/BoundDocument$FileType") (6 : Int32) [(.ref w_IMAGE_600), (.ref w_THUMBNAIL), (.ref w_PAGE_TEXT), (.ref w_NOTES), (.ref w_OTHER), (.ref w_IMAGE_300)] .null := Arv.start hfit A_w_VALUES l_w_VALUES q_w_VALUES (by decide) rfl ⟨el_w_VALUES_0, el_w_VALUES_1, el_w_VALUES_2, el_w_VALUES_3, el_w_VALUES_4, el_w_VALUES_5, trivial⟩
  have F_w_IMAGE_600_number := own_fldI ev_w_IMAGE_600 nn31
  have F_w_THUMBNAIL_number := own_fldI ev_w_THUMBNAIL nn33
  have F_w_PAGE_TEXT_number := own_fldI ev_w_PAGE_TEXT nn35
  have F_w_NOTES_number := own_fldI ev_w_NOTES nn37
  have F_w_OTHER_number := own_fldI ev_w_OTHER nn39
  have F_w_IMAGE_300_number := own_fldI ev_w_IMAGE_300 nn40
  have ne_w_IMAGE_600_w_THUMBNAIL : w_IMAGE_600 ≠ w_THUMBNAIL := Fld.ne F_w_IMAGE_600_number F_w_THUMBNAIL_number (by decide)
  have ne_w_IMAGE_600_w_PAGE_TEXT : w_IMAGE_600 ≠ w_PAGE_TEXT := Fld.ne F_w_IMAGE_600_number F_w_PAGE_TEXT_number (by decide)
  have ne_w_IMAGE_600_w_NOTES : w_IMAGE_600 ≠ w_NOTES := Fld.ne F_w_IMAGE_600_number F_w_NOTES_number (by decide)
  have ne_w_IMAGE_600_w_OTHER : w_IMAGE_600 ≠ w_OTHER := Fld.ne F_w_IMAGE_600_number F_w_OTHER_number (by decide)
  have ne_w_IMAGE_600_w_IMAGE_300 : w_IMAGE_600 ≠ w_IMAGE_300 := Fld.ne F_w_IMAGE_600_number F_w_IMAGE_300_number (by decide)
  have ne_w_THUMBNAIL_w_PAGE_TEXT : w_THUMBNAIL ≠ w_PAGE_TEXT := Fld.ne F_w_THUMBNAIL_number F_w_PAGE_TEXT_number (by decide)
  have ne_w_THUMBNAIL_w_NOTES : w_THUMBNAIL ≠ w_NOTES := Fld.ne F_w_THUMBNAIL_number F_w_NOTES_number (by decide)
  have ne_w_THUMBNAIL_w_OTHER : w_THUMBNAIL ≠ w_OTHER := Fld.ne F_w_THUMBNAIL_number F_w_OTHER_number (by decide)
  have ne_w_THUMBNAIL_w_IMAGE_300 : w_THUMBNAIL ≠ w_IMAGE_300 := Fld.ne F_w_THUMBNAIL_number F_w_IMAGE_300_number (by decide)
  have ne_w_PAGE_TEXT_w_NOTES : w_PAGE_TEXT ≠ w_NOTES := Fld.ne F_w_PAGE_TEXT_number F_w_NOTES_number (by decide)
  have ne_w_PAGE_TEXT_w_OTHER : w_PAGE_TEXT ≠ w_OTHER := Fld.ne F_w_PAGE_TEXT_number F_w_OTHER_number (by decide)
  have ne_w_PAGE_TEXT_w_IMAGE_300 : w_PAGE_TEXT ≠ w_IMAGE_300 := Fld.ne F_w_PAGE_TEXT_number F_w_IMAGE_300_number (by decide)
  have ne_w_NOTES_w_OTHER : w_NOTES ≠ w_OTHER := Fld.ne F_w_NOTES_number F_w_OTHER_number (by decide)
  have ne_w_NOTES_w_IMAGE_300 : w_NOTES ≠ w_IMAGE_300 := Fld.ne F_w_NOTES_number F_w_IMAGE_300_number (by decide)
  have ne_w_OTHER_w_IMAGE_300 : w_OTHER ≠ w_IMAGE_300 := Fld.ne F_w_OTHER_number F_w_IMAGE_300_number (by decide)
  have hS : St0 s w_IMAGE_600 w_THUMBNAIL w_PAGE_TEXT w_NOTES w_OTHER w_IMAGE_300 w_VALUES c_VALUES := ⟨S_w_IMAGE_600, E_w_IMAGE_600, S_w_THUMBNAIL, E_w_THUMBNAIL, S_w_PAGE_TEXT, E_w_PAGE_TEXT, S_w_NOTES, E_w_NOTES, S_w_OTHER, E_w_OTHER, S_w_IMAGE_300, E_w_IMAGE_300, S_w_VALUES, E_w_VALUES, V_w_VALUES, F_w_IMAGE_600_number, F_w_THUMBNAIL_number, F_w_PAGE_TEXT_number, F_w_NOTES_number, F_w_OTHER_number, F_w_IMAGE_300_number, ne_w_IMAGE_600_w_THUMBNAIL, ne_w_IMAGE_600_w_PAGE_TEXT, ne_w_IMAGE_600_w_NOTES, ne_w_IMAGE_600_w_OTHER, ne_w_IMAGE_600_w_IMAGE_300, ne_w_THUMBNAIL_w_PAGE_TEXT, ne_w_THUMBNAIL_w_NOTES, ne_w_THUMBNAIL_w_OTHER, ne_w_THUMBNAIL_w_IMAGE_300, ne_w_PAGE_TEXT_w_NOTES, ne_w_PAGE_TEXT_w_OTHER, ne_w_PAGE_TEXT_w_IMAGE_300, ne_w_NOTES_w_OTHER, ne_w_NOTES_w_IMAGE_300, ne_w_OTHER_w_IMAGE_300⟩
  obtain ⟨n, o, h1, h2, h3, _, L, rfl, ⟨rfl, N⟩, hq⟩ := rm0 l s _ hw tables_1 w_IMAGE_600 w_THUMBNAIL w_PAGE_TEXT w_NOTES w_OTHER w_IMAGE_300 w_VALUES c_VALUES i0 i1 s.heap s.heap.size (Old.start s) hS p e ha hc hk s m _ below hf ((Spec.applies_iff_loose hf).mp happ).1 ⟨rfl, State.Warmed39.refl s, rfl⟩ trivial
  refine ⟨n, _, h1, h2, h3, hpost _ _ _ _ _ _ ⟨Cond.after_iff.mpr rfl, Cond.after_iff.mpr (eq_i res_at (Term.int_eval (1)) rfl), trivial⟩ ⟨hq.1, hq.2.1, (hq.2.2.sift fun y hy => Or.inr (N y hy)).mono (by decide) (by decide)⟩⟩
theorem main_1_1 : Claimed_1_1 := comes_1 fun _ _ _ _ _ _ h hF => ⟨h.1, hF⟩
theorem main_1_2 : Claimed_1_2 := comes_1 fun _ _ _ _ _ _ h hF => ⟨h.2.1, hF⟩
end Jvm.Pilot.@@N@@
namespace Jvm.Pilot.@@N@@
open Jvm Jvm.ClassFile Sem Op Lib Jvm.Free Jvm.Stand Jvm.Pilot.@@N@@.Jvm.D
/-! MADE BY PROGRAM (witnessworld.py) out of the Statement's table words and the real class files: 13 classes; the members and pool entries that the words name. The judged class is class 1, her method 1. -/
namespace start1
open Jvm.ClassFile
def u (s : String) : CpInfo := .utf8 (stringToUtf16 s)
/-- a pool by its gaps: so many unusable entries, then the entry; so many at the end -/
def gap : Nat → List CpInfo → List CpInfo
  | 0, r => r
  | n + 1, r => .unusable :: gap n r
def poolList (es : List (Nat × CpInfo)) (last : Nat) : List CpInfo := es.foldr (fun e r => gap e.1 (e.2 :: r)) (gap last [])
def pool (es : List (Nat × CpInfo)) (last : Nat) : Array CpInfo := ⟨poolList es last⟩
def fileOf (pool : Array CpInfo) (this : Nat) (attrs : Array Attribute := #[]) (ms : Array MethodInfo := #[]) (fl : Nat := 33) (sup : Nat := 0) (ifs : Array Nat := #[]) (fds : Array FieldInfo := #[]) : ClassFile where
  minorVersion := 0
  majorVersion := 65
  constantPool := pool
  accessFlags := fl
  thisClass := this
  superClass := sup
  interfaces := ifs
  fields := fds
  methods := ms
  attributes := attrs
def plain (name : String) (sup : Option ClassId) : Class where
  name := name
  kind := .ordinary
  loader := none
  accessFlags := 33
  super := sup
  interfaces := #[]
  cf := none
  fields := #[]
  methods := #[]
  instanceTypes := #[]
  staticTypes := #[]
  resolved := #[]
  callSites := []
  init := .initialized
  statics := none
  mirror := none

def pool0 : Array CpInfo := pool [(5, u "<init>"), (0, u "()V"), (1, .class_ 10), (1, u "java/lang/Object"), (85, u "clone"), (0, u "()Ljava/lang/Object;")] 26

def k0m0 : Method := { name := "<init>", desc := "()V", sig := { parameters := [], returnType := none }, accessFlags := 1, code := none }
def k0m1 : Method := { name := "clone", desc := "()Ljava/lang/Object;", sig := { parameters := [], returnType := some (.object "java/lang/Object") }, accessFlags := 260, code := none }
/-- java/lang/Object -/
def k0 : Class := { plain "java/lang/Object" none with
  accessFlags := 33
  interfaces := #[]
  cf := some (fileOf pool0 8 #[] #[{ accessFlags := 1, nameIndex := 5, descriptorIndex := 6, attributes := #[] }, { accessFlags := 260, nameIndex := 96, descriptorIndex := 97, attributes := #[] }] 33 0 #[] #[])
  fields := #[]
  methods := #[k0m0, k0m1]
  instanceTypes := #[]
  staticTypes := #[]
  resolved := Array.replicate 124 none
  statics := none }

def pool1 : Array CpInfo := pool [(2, .class_ 4), (1, u "java/lang/Object"), (0, u "<init>"), (0, u "()V"), (0, .methodref 8 9), (0, .class_ 10), (0, .nameAndType 11 12), (0, u "com/example/carrel/carrel/document/BoundDocument$FileType"), (0, u "of"), (0, u "(I)Lcom/example/carrel/carrel/document/BoundDocument$FileType;"), (0, .methodref 14 15), (0, .class_ 16), (0, .nameAndType 17 12), (0, u "com/example/carrel/carrel/document/FileTypeOfPinLaw"), (0, u "expected"), (0, .fieldref 8 19), (0, .nameAndType 20 21), (0, u "IMAGE_600"), (0, u "Lcom/example/carrel/carrel/document/BoundDocument$FileType;"), (0, .fieldref 8 23), (0, .nameAndType 24 21), (0, u "THUMBNAIL"), (0, .fieldref 8 26), (0, .nameAndType 27 21), (0, u "PAGE_TEXT"), (0, .fieldref 8 29), (0, .nameAndType 30 21), (0, u "NOTES"), (0, .fieldref 8 32), (0, .nameAndType 33 21), (0, u "OTHER"), (0, .fieldref 8 35), (0, .nameAndType 36 21), (0, u "IMAGE_300"), (2, u "law"), (0, u "(II)Z")] 7

def k1m0 : Method := { name := "<init>", desc := "()V", sig := { parameters := [], returnType := none }, accessFlags := 2, code := none }
def k1c1 : Code := { maxStack := 2, maxLocals := 4, code := code, exceptionTable := #[], attributes := #[] }
def k1m1 : Method := { name := "law", desc := "(II)Z", sig := { parameters := [.int, .int], returnType := some .boolean }, accessFlags := 9, code := some k1c1 }
def k1c2 : Code := { maxStack := 2, maxLocals := 1, code := method_3_code, exceptionTable := #[], attributes := #[] }
def k1m2 : Method := { name := "expected", desc := "(I)Lcom/example/carrel/carrel/document/BoundDocument$FileType;", sig := { parameters := [.int], returnType := some (.object "com/example/carrel/carrel/document/BoundDocument$FileType") }, accessFlags := 10, code := some k1c2 }
/-- com/example/carrel/carrel/document/FileTypeOfPinLaw -/
def k1 : Class := { plain "com/example/carrel/carrel/document/FileTypeOfPinLaw" (some 0) with
  accessFlags := 49
  interfaces := #[]
  cf := some (fileOf pool1 14 #[] #[{ accessFlags := 2, nameIndex := 5, descriptorIndex := 6, attributes := #[] }, { accessFlags := 9, nameIndex := 39, descriptorIndex := 40, attributes := #[] }, { accessFlags := 10, nameIndex := 17, descriptorIndex := 12, attributes := #[] }] 49 2 #[] #[])
  fields := #[]
  methods := #[k1m0, k1m1, k1m2]
  instanceTypes := #[]
  staticTypes := #[]
  resolved := Array.replicate 48 none
  statics := none }

def pool2 : Array CpInfo := pool [(1, .class_ 2), (0, u "java/lang/constant/Constable"), (0, .class_ 4), (0, u "java/lang/Object")] 6

/-- java/lang/constant/Constable -/
def k2 : Class := { plain "java/lang/constant/Constable" (some 0) with
  accessFlags := 1537
  interfaces := #[]
  cf := some (fileOf pool2 1 #[] #[] 1537 3 #[] #[])
  fields := #[]
  methods := #[]
  instanceTypes := #[]
  staticTypes := #[]
  resolved := Array.replicate 11 none
  statics := none }

def pool3 : Array CpInfo := pool [(1, .class_ 2), (0, u "java/lang/Comparable"), (0, .class_ 4), (0, u "java/lang/Object")] 7

/-- java/lang/Comparable -/
def k3 : Class := { plain "java/lang/Comparable" (some 0) with
  accessFlags := 1537
  interfaces := #[]
  cf := some (fileOf pool3 1 #[] #[] 1537 3 #[] #[])
  fields := #[]
  methods := #[]
  instanceTypes := #[]
  staticTypes := #[]
  resolved := Array.replicate 12 none
  statics := none }

def pool4 : Array CpInfo := pool [(1, .class_ 2), (0, u "java/io/Serializable"), (0, .class_ 4), (0, u "java/lang/Object")] 2

/-- java/io/Serializable -/
def k4 : Class := { plain "java/io/Serializable" (some 0) with
  accessFlags := 1537
  interfaces := #[]
  cf := some (fileOf pool4 1 #[] #[] 1537 3 #[] #[])
  fields := #[]
  methods := #[]
  instanceTypes := #[]
  staticTypes := #[]
  resolved := Array.replicate 7 none
  statics := none }

def pool5 : Array CpInfo := pool [(2, .class_ 4), (1, u "java/lang/Enum"), (0, u "name"), (0, u "Ljava/lang/String;"), (2, u "ordinal"), (0, u "I"), (1, .class_ 14), (1, u "java/lang/Object"), (4, u "hash"), (86, .class_ 108), (1, u "java/lang/Enum$EnumDesc"), (2, .class_ 112), (0, u "java/lang/constant/Constable"), (0, .class_ 114), (0, u "java/lang/Comparable"), (0, .class_ 116), (0, u "java/io/Serializable")] 87

/-- java/lang/Enum -/
def k5 : Class := { plain "java/lang/Enum" (some 0) with
  accessFlags := 1057
  interfaces := #[2, 3, 4]
  cf := some (fileOf pool5 2 #[.nestMembers #[106]] #[] 1057 12 #[111, 113, 115] #[{ accessFlags := 18, nameIndex := 5, descriptorIndex := 6, attributes := #[] }, { accessFlags := 18, nameIndex := 9, descriptorIndex := 10, attributes := #[] }, { accessFlags := 2, nameIndex := 19, descriptorIndex := 10, attributes := #[] }])
  fields := #[{ name := "name", type := (.object "java/lang/String"), accessFlags := 18, slot := 0, constantValue := 0 }, { name := "ordinal", type := .int, accessFlags := 18, slot := 1, constantValue := 0 }, { name := "hash", type := .int, accessFlags := 2, slot := 2, constantValue := 0 }]
  methods := #[]
  instanceTypes := #[(.object "java/lang/String"), .int, .int]
  staticTypes := #[]
  resolved := Array.replicate 204 none
  statics := none }

def pool6 : Array CpInfo := pool [(1, .class_ 2), (0, u "com/example/carrel/carrel/document/BoundDocument$FileType"), (2, u "IMAGE_600"), (0, u "Lcom/example/carrel/carrel/document/BoundDocument$FileType;"), (2, u "THUMBNAIL"), (2, u "PAGE_TEXT"), (2, u "NOTES"), (2, u "OTHER"), (2, u "IMAGE_300"), (0, .fieldref 1 23), (0, .nameAndType 24 25), (0, u "$VALUES"), (0, u "[Lcom/example/carrel/carrel/document/BoundDocument$FileType;"), (0, .methodref 27 28), (0, .class_ 25), (0, .nameAndType 29 30), (0, u "clone"), (0, u "()Ljava/lang/Object;"), (1, .class_ 34), (1, u "java/lang/Enum"), (6, .fieldref 1 42), (0, .nameAndType 43 44), (0, u "number"), (0, u "I"), (2, u "image"), (0, u "Z"), (0, .methodref 1 50), (0, .nameAndType 51 52), (0, u "values"), (0, u "()[Lcom/example/carrel/carrel/document/BoundDocument$FileType;"), (21, u "of"), (0, u "(I)Lcom/example/carrel/carrel/document/BoundDocument$FileType;"), (7, .class_ 84), (0, u "com/example/carrel/carrel/document/BoundDocument")] 2

def k6c0 : Code := { maxStack := 1, maxLocals := 0, code := prog_15_method_1_code, exceptionTable := #[], attributes := #[] }
def k6m0 : Method := { name := "values", desc := "()[Lcom/example/carrel/carrel/document/BoundDocument$FileType;", sig := { parameters := [], returnType := some (.array (.object "com/example/carrel/carrel/document/BoundDocument$FileType")) }, accessFlags := 9, code := some k6c0 }
def k6c1 : Code := { maxStack := 2, maxLocals := 5, code := prog_15_method_6_code, exceptionTable := #[], attributes := #[] }
def k6m1 : Method := { name := "of", desc := "(I)Lcom/example/carrel/carrel/document/BoundDocument$FileType;", sig := { parameters := [.int], returnType := some (.object "com/example/carrel/carrel/document/BoundDocument$FileType") }, accessFlags := 9, code := some k6c1 }
/-- com/example/carrel/carrel/document/BoundDocument$FileType -/
def k6 : Class := { plain "com/example/carrel/carrel/document/BoundDocument$FileType" (some 5) with
  accessFlags := 16433
  interfaces := #[]
  cf := some (fileOf pool6 1 #[.nestHost 83] #[{ accessFlags := 9, nameIndex := 51, descriptorIndex := 52, attributes := #[] }, { accessFlags := 9, nameIndex := 74, descriptorIndex := 75, attributes := #[] }] 16433 32 #[] #[{ accessFlags := 16409, nameIndex := 5, descriptorIndex := 6, attributes := #[] }, { accessFlags := 16409, nameIndex := 9, descriptorIndex := 6, attributes := #[] }, { accessFlags := 16409, nameIndex := 12, descriptorIndex := 6, attributes := #[] }, { accessFlags := 16409, nameIndex := 15, descriptorIndex := 6, attributes := #[] }, { accessFlags := 16409, nameIndex := 18, descriptorIndex := 6, attributes := #[] }, { accessFlags := 16409, nameIndex := 21, descriptorIndex := 6, attributes := #[] }, { accessFlags := 18, nameIndex := 43, descriptorIndex := 44, attributes := #[] }, { accessFlags := 18, nameIndex := 47, descriptorIndex := 48, attributes := #[] }, { accessFlags := 4122, nameIndex := 24, descriptorIndex := 25, attributes := #[] }])
  fields := #[{ name := "IMAGE_600", type := (.object "com/example/carrel/carrel/document/BoundDocument$FileType"), accessFlags := 16409, slot := 0, constantValue := 0 }, { name := "THUMBNAIL", type := (.object "com/example/carrel/carrel/document/BoundDocument$FileType"), accessFlags := 16409, slot := 1, constantValue := 0 }, { name := "PAGE_TEXT", type := (.object "com/example/carrel/carrel/document/BoundDocument$FileType"), accessFlags := 16409, slot := 2, constantValue := 0 }, { name := "NOTES", type := (.object "com/example/carrel/carrel/document/BoundDocument$FileType"), accessFlags := 16409, slot := 3, constantValue := 0 }, { name := "OTHER", type := (.object "com/example/carrel/carrel/document/BoundDocument$FileType"), accessFlags := 16409, slot := 4, constantValue := 0 }, { name := "IMAGE_300", type := (.object "com/example/carrel/carrel/document/BoundDocument$FileType"), accessFlags := 16409, slot := 5, constantValue := 0 }, { name := "number", type := .int, accessFlags := 18, slot := 3, constantValue := 0 }, { name := "image", type := .boolean, accessFlags := 18, slot := 4, constantValue := 0 }, { name := "$VALUES", type := (.array (.object "com/example/carrel/carrel/document/BoundDocument$FileType")), accessFlags := 4122, slot := 6, constantValue := 0 }]
  methods := #[k6m0, k6m1]
  instanceTypes := #[(.object "java/lang/String"), .int, .int, .int, .boolean]
  staticTypes := #[(.object "com/example/carrel/carrel/document/BoundDocument$FileType"), (.object "com/example/carrel/carrel/document/BoundDocument$FileType"), (.object "com/example/carrel/carrel/document/BoundDocument$FileType"), (.object "com/example/carrel/carrel/document/BoundDocument$FileType"), (.object "com/example/carrel/carrel/document/BoundDocument$FileType"), (.object "com/example/carrel/carrel/document/BoundDocument$FileType"), (.array (.object "com/example/carrel/carrel/document/BoundDocument$FileType"))]
  resolved := Array.replicate 87 none
  statics := some 0 }

def pool7 : Array CpInfo := pool [(1, .class_ 2), (0, u "java/lang/Cloneable"), (0, .class_ 4), (0, u "java/lang/Object")] 2

/-- java/lang/Cloneable -/
def k7 : Class := { plain "java/lang/Cloneable" (some 0) with
  accessFlags := 1537
  interfaces := #[]
  cf := some (fileOf pool7 1 #[] #[] 1537 3 #[] #[])
  fields := #[]
  methods := #[]
  instanceTypes := #[]
  staticTypes := #[]
  resolved := Array.replicate 7 none
  statics := none }

/-- the primitive byte -/
def k8 : Class := { plain "byte" none with kind := .primitive 'B', accessFlags := 0x411 }
/-- [B -/
def k9 : Class := { plain "[B" (some 0) with kind := .array 8 .byte, interfaces := #[7, 4], accessFlags := 1041 }

/-- the primitive int -/
def k10 : Class := { plain "int" none with kind := .primitive 'I', accessFlags := 0x411 }
/-- [I -/
def k11 : Class := { plain "[I" (some 0) with kind := .array 10 .int, interfaces := #[7, 4], accessFlags := 1041 }

/-- [Lcom/example/carrel/carrel/document/BoundDocument$FileType; -/
def k12 : Class := { plain "[Lcom/example/carrel/carrel/document/BoundDocument$FileType;" (some 0) with kind := .array 6 (.object "com/example/carrel/carrel/document/BoundDocument$FileType"), interfaces := #[7, 4], accessFlags := 1041 }

def heap : Heap := #[{ cls := 6, slots := #[.ref 2, .ref 3, .ref 4, .ref 5, .ref 6, .ref 7, .ref 1], vm := .statics 6 },
  { cls := 12, slots := #[.ref 2, .ref 3, .ref 4, .ref 5, .ref 6, .ref 7], vm := .none },
  { cls := 6, slots := #[.null, .int 0, .int 0, .int 1, .int 0], vm := .none },
  { cls := 6, slots := #[.null, .int 1, .int 0, .int 2, .int 0], vm := .none },
  { cls := 6, slots := #[.null, .int 2, .int 0, .int 3, .int 0], vm := .none },
  { cls := 6, slots := #[.null, .int 3, .int 0, .int 4, .int 0], vm := .none },
  { cls := 6, slots := #[.null, .int 4, .int 0, .int 5, .int 0], vm := .none },
  { cls := 6, slots := #[.null, .int 5, .int 0, .int 6, .int 0], vm := .none }]
def classes : Array Class := #[k0, k1, k2, k3, k4, k5, k6, k7, k8, k9, k10, k11, k12]
def interned : List (Array UInt16 × Addr) := []
def slotsUsed : Nat := 43
def theMethod : MethodId := ⟨1, 1⟩
def args0 : Array Value := #[.int 5, .int 6]
def aboutOver (below : List Frame) : State where
  vm := { classes := classes, interned := interned.toArray }
  heap := heap
  slotsUsed := slotsUsed
  threads := #[{ frames := .invoking theMethod args0 :: below }]
def below0 : List Frame := [.native { method := ⟨0, 0⟩, args := #[] }]
def about1 : State := aboutOver below0
def p0 : Program := .bare "" "" ""
def e0 : Env := launch0.env 0 0 0
theorem w_frames : about1.frames = Frame.invoking theMethod args0 :: below0 := rfl
set_option maxRecDepth 65536 in
theorem w_args : argsFit about1.vm theMethod args0 = true := by decide +kernel
set_option maxRecDepth 65536 in
theorem w_heap : heapFits about1 = true := by decide +kernel
set_option maxRecDepth 65536 in
theorem w_runnable : about1.curStatus? = some .runnable := by decide +kernel
set_option maxRecDepth 65536 in
theorem w_alone : about1.alone = true := by decide +kernel
set_option maxRecDepth 65536 in
theorem w_named : about1.methodNamed? x = some theMethod := by decide +kernel
set_option maxRecDepth 65536 in
theorem w_hears : about1.hears theMethod below0 = true := by decide +kernel
set_option maxRecDepth 65536 in
theorem w_ripe : about1.ripe theMethod args0 below0 = true := by decide +kernel
theorem w_running : about1.status = .running := rfl
set_option maxRecDepth 65536 in
theorem w_room : about1.hasRoom e0.platform room_1 = true :=
  launch0.hasRoom_least _ room_1 (by decide +kernel) (by decide +kernel) (by decide +kernel) (by decide +kernel) (by decide +kernel) (by decide +kernel)
theorem allAtoms_all (ts : List Jvm.Cond) (a : Array Jvm.Value) (st : Jvm.State) : (allAtoms ts).before a st = ts.all (fun c => c.before a st) := by
  induction ts with
  | nil => rfl
  | cons c t ih =>
    show (Jvm.Cond.and c (allAtoms t)).before a st = _
    rw [Jvm.Cond.before_and, ih, List.all_cons]
def words1 : List Jvm.Cond := Jvm.Cond.code x code maxLocals ret :: tables_1
/-- a 'code' word, met by the world's own term for the bytes: nothing is compared byte by byte -/
theorem code_word {y : MethodName} {bytes : ByteArray} {mx : Nat} {rt : Option FieldType} {a : Array Value} {s : State} {m : MethodId} {meth : Method} {c : Code} (h1 : s.methodNamed? y = some m) (h2 : s.vm.method? m = some meth) (h3 : meth.code = some c) (h4 : c.code = bytes)
    (h5 : (c.maxLocals == mx && c.exceptionTable.isEmpty && decide (c.maxStack ≤ mostOperands) && decide (meth.sig.returnType = rt) && !meth.locks && decide (parseMethodDescriptor y.desc = some meth.sig)) = true) : (Jvm.Cond.code y bytes mx rt).before a s = true := by
  simp only [Bool.and_eq_true, beq_iff_eq, Bool.not_eq_true', decide_eq_true_eq] at h5
  obtain ⟨⟨⟨⟨⟨g1, g2⟩, g3⟩, g4⟩, g5⟩, g6⟩ := h5
  simp [Cond.before, Cond.holds, Cond.value, h1, h2, h3, h4, g1, g2, g3, g4, g5, g6]
def isCode : Jvm.Cond → Bool
  | .code _ _ _ _ => true
  | _ => false
theorem all_split {L : List Jvm.Cond} {P : Jvm.Cond → Bool} (h1 : L.all (fun c => isCode c || P c) = true) (h2 : ∀ c ∈ L.filter isCode, P c = true) : L.all P = true := by
  refine List.all_eq_true.mpr fun c hc => ?_
  have h := List.all_eq_true.mp h1 c hc
  rcases Bool.eq_false_or_eq_true (isCode c) with hi | hi
  · exact h2 c (List.mem_filter.mpr ⟨hc, hi⟩)
  · simpa [hi] using h
set_option maxRecDepth 65536 in
theorem w_c0 : (Jvm.Cond.code x code maxLocals ret).before args0 about1 = true := code_word (m := ⟨1, 1⟩) (meth := k1m1) (c := k1c1) (by decide +kernel) rfl rfl rfl (by decide +kernel)
set_option maxRecDepth 65536 in
theorem w_c1 : (Jvm.Cond.code ({ cls := "com/example/carrel/carrel/document/BoundDocument$FileType", name := "of", desc := "(I)Lcom/example/carrel/carrel/document/BoundDocument$FileType;" } : Jvm.MethodName) prog_15_method_6_code (5 : Nat) (Option.some (Jvm.ClassFile.FieldType.object "com/example/carrel/carrel/document/BoundDocument$FileType"))).before args0 about1 = true := code_word (m := ⟨6, 1⟩) (meth := k6m1) (c := k6c1) (by decide +kernel) rfl rfl rfl (by decide +kernel)
set_option maxRecDepth 65536 in
theorem w_c2 : (Jvm.Cond.code ({ cls := "com/example/carrel/carrel/document/BoundDocument$FileType", name := "values", desc := "()[Lcom/example/carrel/carrel/document/BoundDocument$FileType;" } : Jvm.MethodName) prog_15_method_1_code (0 : Nat) (Option.some (Jvm.ClassFile.FieldType.array (Jvm.ClassFile.FieldType.object "com/example/carrel/carrel/document/BoundDocument$FileType")))).before args0 about1 = true := code_word (m := ⟨6, 0⟩) (meth := k6m0) (c := k6c0) (by decide +kernel) rfl rfl rfl (by decide +kernel)
set_option maxRecDepth 65536 in
theorem w_c3 : (Jvm.Cond.code ({ cls := "com/example/carrel/carrel/document/FileTypeOfPinLaw", name := "expected", desc := "(I)Lcom/example/carrel/carrel/document/BoundDocument$FileType;" } : Jvm.MethodName) method_3_code (1 : Nat) (Option.some (Jvm.ClassFile.FieldType.object "com/example/carrel/carrel/document/BoundDocument$FileType"))).before args0 about1 = true := code_word (m := ⟨1, 2⟩) (meth := k1m2) (c := k1c2) (by decide +kernel) rfl rfl rfl (by decide +kernel)
def codes1 : List Jvm.Cond := [Jvm.Cond.code x code maxLocals ret, Jvm.Cond.code ({ cls := "com/example/carrel/carrel/document/BoundDocument$FileType", name := "of", desc := "(I)Lcom/example/carrel/carrel/document/BoundDocument$FileType;" } : Jvm.MethodName) prog_15_method_6_code (5 : Nat) (Option.some (Jvm.ClassFile.FieldType.object "com/example/carrel/carrel/document/BoundDocument$FileType")), Jvm.Cond.code ({ cls := "com/example/carrel/carrel/document/BoundDocument$FileType", name := "values", desc := "()[Lcom/example/carrel/carrel/document/BoundDocument$FileType;" } : Jvm.MethodName) prog_15_method_1_code (0 : Nat) (Option.some (Jvm.ClassFile.FieldType.array (Jvm.ClassFile.FieldType.object "com/example/carrel/carrel/document/BoundDocument$FileType"))), Jvm.Cond.code ({ cls := "com/example/carrel/carrel/document/FileTypeOfPinLaw", name := "expected", desc := "(I)Lcom/example/carrel/carrel/document/BoundDocument$FileType;" } : Jvm.MethodName) method_3_code (1 : Nat) (Option.some (Jvm.ClassFile.FieldType.object "com/example/carrel/carrel/document/BoundDocument$FileType"))]
set_option maxRecDepth 65536 in
theorem codes_eq : words1.filter isCode = codes1 := rfl
theorem w_codes : ∀ c ∈ words1.filter isCode, c.before args0 about1 = true := by
  rw [codes_eq]
  intro c hc
  simp only [codes1, List.mem_cons, List.not_mem_nil, or_false] at hc
  rcases hc with rfl | rfl | rfl | rfl
  · exact w_c0
  · exact w_c1
  · exact w_c2
  · exact w_c3
set_option maxRecDepth 65536 in
theorem w_t1 : (words1.take 24).all (fun c => isCode c || c.before args0 about1) = true := by decide +kernel
set_option maxRecDepth 65536 in
theorem w_t2 : (words1.drop 24).all (fun c => isCode c || c.before args0 about1) = true := by decide +kernel
theorem w_tables : (allAtoms (Jvm.Cond.code x code maxLocals ret :: tables_1)).before args0 about1 = true := by
  rw [allAtoms_all]
  show words1.all (fun c => c.before args0 about1) = true
  refine all_split ?_ w_codes
  rw [← List.take_append_drop 24 words1, List.all_append, w_t1, w_t2]
  rfl
set_option maxRecDepth 65536 in
theorem w_case : (Jvm.Cond.and given_1 narrow_1).before args0 about1 = true := by decide +kernel
theorem w_applies : (headSpec (Jvm.Cond.code x code maxLocals ret :: tables_1) room_1).applies x e0.platform about1 = true :=
  (Spec.applies_iff w_frames).mpr ⟨w_running, w_runnable, w_alone, w_named, w_hears, w_ripe, w_room, w_tables⟩
theorem atStart : AtStart classFile x code maxLocals ret World_1 tables_1 room_1 Calls_1 rest_1 Pre_1 launch0 p0 e0 about1 theMethod args0 below0 :=
  ⟨lists_1, trivial, launch0.admits_env _ _ _, launch0.least_env, fairChoices_fair.cas, fairChoices_fair.clock, w_frames, w_args, w_heap, w_applies, trivial, trivial, w_case⟩
end start1
theorem witness_1 : WitnessClaimed_1 := ⟨start1.p0, start1.e0, start1.about1, start1.theMethod, start1.args0, start1.below0, start1.atStart⟩
end Jvm.Pilot.@@N@@
