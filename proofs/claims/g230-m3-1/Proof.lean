import JvmDerived
import JvmDerived.Pilot.@@N@@Statement
import JvmDerived.Pilot.@@N@@Code
set_option linter.unusedVariables false
set_option linter.unusedSimpArgs false
@@BLOCK:LamKit.lean.txt@@

namespace Jvm.Pilot.@@N@@
open Jvm Jvm.ClassFile Sem Op Lib Jvm.Free Jvm.Stand Jvm.LawKit Jvm.RoadKit Bundle Jvm.Pilot.@@N@@.Jvm.D
abbrev oi (x : Int32) : Slot := .val (.int x)
abbrev oa (x : Addr) : Slot := .val (.ref x)
abbrev oRm (f c s l : Nat) : Room := { frames := f, cells := c, slots := s, locals := l }
/-- from here the run comes to its end with what P says -/
def oGo (p : Program) (e : Env) (below : List Frame) (P : Outcome → State → Prop) (T : State) (g : JFrame) : Prop := ∃ s₂ o, Steps p.tables e below (T.setTop g) s₂ ∧ s₂.status = .running ∧ Ended s₂ below o ∧ P o s₂
theorem oby {p : Program} {e : Env} {below : List Frame} {P : Outcome → State → Prop} {T T' : State} {g g' : JFrame} (k : ∀ t, Steps p.tables e below (T'.setTop g') t → Steps p.tables e below (T.setTop g) t) (h : oGo p e below P T' g') : oGo p e below P T g := by
  obtain ⟨s₂, o, h1, h2⟩ := h
  exact ⟨s₂, o, k _ h1, h2⟩
theorem ostart {p : Program} {e : Env} {below : List Frame} {P : Outcome → State → Prop} {T : State} {g g' : JFrame} (q : g = g') (h : oGo p e below P T g') : ∃ s₂ o, Steps p.tables e below (T.setTop g) s₂ ∧ s₂.status = .running ∧ Ended s₂ below o ∧ P o s₂ := by subst q; exact h
theorem oout {p : Program} {e : Env} {below : List Frame} {P : Outcome → State → Prop} {T s₂ : State} {g : JFrame} {o : Outcome} (h1 : Steps p.tables e below (T.setTop g) s₂) (h2 : s₂.status = .running) (h3 : Ended s₂ below o) (h4 : P o s₂) : oGo p e below P T g := ⟨s₂, o, h1, h2, h3, h4⟩
theorem ob {p : Program} {e : Env} {below : List Frame} {P : Outcome → State → Prop} {T : State} {g : JFrame} (T' : State) (g' : JFrame) (k : ∀ t, Steps p.tables e below (T'.setTop g') t → Steps p.tables e below (T.setTop g) t) (h : oGo p e below P T' g') : oGo p e below P T g := oby k h
theorem osuff {p : Program} {e : Env} {below : List Frame} {P : Outcome → State → Prop} {T T' : State} {g g' : JFrame} (h1 : oGo p e below P T' g' → oGo p e below P T g) (h2 : oGo p e below P T' g') : oGo p e below P T g := h1 h2
theorem oname {p : Program} {e : Env} {below : List Frame} {P : Outcome → State → Prop} {T : State} {g : JFrame} (h : ∀ PP : Outcome → State → Prop, (∀ o s, P o s → PP o s) → oGo p e below PP T g) : oGo p e below P T g := h P (fun _ _ q => q)
theorem ow {L : List Jvm.Cond} {Z : State} {a0 : Array Value} (hw : ∀ d ∈ L, d.before a0 Z = true) (k : Nat) {d : Jvm.Cond} (h : L[k]? = some d) : d.before a0 Z = true := hw d (List.mem_of_getElem? h)
theorem on0 {Z : State} {n0 : Nat} {h : Heap} (O : Old Z n0 h) : n0 ≤ h.size := by have h1 := O.1; have h2 := O.2.1; omega
theorem oretA {p : Program} {l : Launch} {e : Env} {R : Room} {s : State} {m : MethodId} {args : Array Value} {below : List Frame} {meth : Method} {c : Code} {T : State} {locs : List Loc} {cells slots : Nat} (X : Stand p l e R s m args below meth c T locs cells slots) (hx : p.tables.exec = Jvm.exec) {pc : Nat} {Ls : Array Slot} {w : Value} {t : FieldType} {rest : List Value} (hret : meth.sig.returnType = some t) (ht : t.isReference = true) (hw : w.isRef = true)
    (hd : decode c.code pc = .ok (.areturn, 1)) {fs : List Frame} (hl : ∀ (f : JFrame) (acts : List Action), f.method = m → f.locked = none → f.entered = [] → (doReturn e (T.setTop f) acts (some w)).1 = T.setFrames fs) :
    Steps p.tables e below (T.setTop (mkF m pc Ls (w :: rest))) (T.setFrames fs) :=
  retOut X hx hret (by cases w <;> first | (simp [Value.isRef] at hw; done) | (cases t <;> rfl)) (Or.inr (Or.inr (Or.inr (Or.inr ⟨rfl, ht, hw⟩)))) hd hl

theorem own_sta {s : State} {args : Array Value} {C n d K : String} (h : (Cond.exactly (.static C n d) K).value args s none s [] = some true) (hi : (Cond.initializedFor C n d).before args s = true ∨ ((Cond.initialized C).before args s = true ∧ (Cond.laysStatic C n d).before args s = true)) :
    ∃ a, (Term.static C n d).eval args s none [] s = some (.ref a) ∧ Sta s s.heap C n d (.ref a) ∧ Exa s s.heap a K := by
  obtain ⟨a, ev⟩ := exa_v h
  exact ⟨a, ev, Sta.start ev hi, Exa.start ev h⟩
theorem own_fldI {s : State} {args : Array Value} {t : Term} {a : Addr} {C n d : String} {k : Int32} (ev : t.eval args s none [] s = some (.ref a)) (h : (Cond.eq (.field t C n d) (.int k)).value args s none s [] = some true) : Fld s s.heap a C n d (.int k) := by
  obtain ⟨x, y, ex, ey, k1, k2⟩ := cmp_v (Or.inl h)
  have e2 : y = .int k := (Option.some.inj ((Term.int_eval k).symm.trans ey)).symm
  subst e2
  obtain ⟨z, rfl⟩ := k2
  have e3 : z = k := gotT (Cond.eq_ints ex ey) h
  subst e3
  exact Fld.start ((fld_at ev).symm.trans ex)
theorem own_fldL {s : State} {args : Array Value} {t : Term} {a : Addr} {C n d : String} {k : Int64} (ev : t.eval args s none [] s = some (.ref a)) (h : (Cond.eq (.field t C n d) (.long k)).value args s none s [] = some true) : Fld s s.heap a C n d (.long k) := by
  obtain ⟨x, y, ex, ey, k1, k2⟩ := cmp_v (Or.inl h)
  have e2 : y = .long k := by simpa [Term.eval] using ey.symm
  subst e2
  obtain ⟨z, rfl⟩ := k2
  have e3 : z = k := gotT (eq_L ex ey) h
  subst e3
  exact Fld.start ((fld_at ev).symm.trans ex)
theorem own_fldN {s : State} {args : Array Value} {t : Term} {a : Addr} {C n d : String} (ev : t.eval args s none [] s = some (.ref a)) (h : (Cond.eq (.field t C n d) .null).value args s none s [] = some true) : Fld s s.heap a C n d .null :=
  Fld.start ((fld_at ev).symm.trans (null_v h))
theorem pn_0 : plainName "com/example/vorgang/vorgang/model/CallPolicyDispatchPinLaw" = true := by first | (simp [plainName, overriddenIn]; done) | decide +kernel
theorem pn_1 : plainName "java/lang/Enum" = true := by first | (simp [plainName, overriddenIn]; done) | decide +kernel
theorem pn_2 : plainName "java/util/Optional" = true := by first | (simp [plainName, overriddenIn]; done) | decide +kernel
theorem pn_3 : plainName "java/util/Objects" = true := by first | (simp [plainName, overriddenIn]; done) | decide +kernel
theorem pn_4 : plainName "java/lang/Record" = true := by first | (simp [plainName, overriddenIn]; done) | decide +kernel
theorem pn_5 : plainName "com/example/vorgang/vorgang/model/Policy" = true := by first | (simp [plainName, overriddenIn]; done) | decide +kernel
theorem pn_6 : plainName "com/example/vorgang/vorgang/model/CallPolicy" = true := by first | (simp [plainName, overriddenIn]; done) | decide +kernel
theorem pn_7 : plainName "com/example/vorgang/vorgang/model/CallContexts" = true := by first | (simp [plainName, overriddenIn]; done) | decide +kernel
def oEL : List (String × Nat) := []
theorem own_EW {Z : State} {a0 : Array Value} (hw : ∀ d ∈ tables_1, d.before a0 Z = true) : EW Z a0 oEL := EW.nil
theorem own_atoms : ∀ d ∈ Bundle.stringAtoms, d ∈ tables_1 := by decide +kernel

def oMer (p : Program) (e : Env) (below : List Frame) (A : Int32 → Prop) (T : State) (g' : Int32 → JFrame) (g : JFrame) : Prop := ∃ z, A z ∧ ∀ t, Steps p.tables e below (T.setTop (g' z)) t → Steps p.tables e below (T.setTop g) t
theorem om {p : Program} {e : Env} {below : List Frame} {A : Int32 → Prop} {T : State} {g' : Int32 → JFrame} {g g1 : JFrame} (k : ∀ t, Steps p.tables e below (T.setTop g1) t → Steps p.tables e below (T.setTop g) t) (h : oMer p e below A T g' g1) : oMer p e below A T g' g := by
  obtain ⟨z, h1, h2⟩ := h
  exact ⟨z, h1, fun t q => k t (h2 t q)⟩
theorem omerge {p : Program} {e : Env} {below : List Frame} {P : Outcome → State → Prop} {A : Int32 → Prop} {T : State} {g' : Int32 → JFrame} {g : JFrame} (h1 : oMer p e below A T g' g) (h2 : ∀ z, A z → oGo p e below P T (g' z)) : oGo p e below P T g := by
  obtain ⟨z, ha, k⟩ := h1
  exact oby k (h2 z ha)
theorem omergeE {p : Program} {e : Env} {below : List Frame} {P : Outcome → State → Prop} {w : Int32} {T : State} {g' : Int32 → JFrame} {g : JFrame} (h1 : oMer p e below (fun z => z = w) T g' g) (h2 : oGo p e below P T (g' w)) : oGo p e below P T g := by
  obtain ⟨z, ha, k⟩ := h1
  exact oby (fun t q => k t (by rw [show z = w from ha]; exact q)) h2
section Lam
variable {p : Program} {l : Launch} {e : Env} {R : Room} {s : State} {m : MethodId} {args : Array Value} {below : List Frame} {meth : Method} {c : Code} {T : State} {locs : List Loc} {cells slots : Nat} {Z : State} {a0 : Array Value} {h : Heap} {vm0 : Vm}
def oLam (h : Heap) (f : Addr) (cK : ClassId) (vs : List Value) : Prop := ∃ cell : Cell, h[f]? = some cell ∧ cell.cls = cK ∧ cell.vm = .none ∧ cell.slots = vs.toArray
theorem oLam.lt {f : Addr} {cK : ClassId} {vs : List Value} (F : oLam h f cK vs) : f < h.size := by
  obtain ⟨c, h1, -⟩ := F
  exact (Array.getElem?_eq_some_iff.mp h1).1
theorem oLam.ext {h' : Heap} {f : Addr} {cK : ClassId} {vs : List Value} (F : oLam h f cK vs) (E : Ext h h') : oLam h' f cK vs := by
  obtain ⟨c, h1, h2⟩ := F
  exact ⟨c, E.2 _ _ h1, h2⟩
theorem oLam.keep {h' : Heap} {f : Addr} {cK : ClassId} {vs : List Value} {ws : List Addr} (F : oLam h f cK vs) (K : Keep h h' ws) (n : f ∉ ws) : oLam h' f cK vs := by
  obtain ⟨c, h1, h2⟩ := F
  exact ⟨c, K.2.1 _ _ h1 n, h2⟩
theorem own_chv {vm : Vm} : CHv Z oEL vm h := show CHv Z [] vm h from fun _ hp => by cases hp
theorem own_chr {h' : Heap} {vm vm1 : Vm} (q : h.size ≤ h'.size) : CHr Z oEL vm h vm1 h' := show CHr Z [] vm h vm1 h' from ⟨(fun _ hp => by cases hp), q, fun y hy => by obtain ⟨_, hp, -⟩ := hy; cases hp⟩
theorem own_getD {α : Type} {o : Option α} (d : α) (h : o.isSome = true) : o = some (o.getD d) := by
  cases o with
  | none => cases h
  | some x => rfl
theorem own_lam {x : MethodName} {pc index : Nat} {σ : Lambda.Shape} (w : (Jvm.Cond.lambdaSite x pc index σ).before a0 Z = true) (hc : σ.captured ≠ []) : ∃ cK, Z.lambdaAt? x pc index σ = some (cK, none) := by
  obtain ⟨cK, one, hL⟩ := Cond.lambdaSite_spec w
  obtain ⟨_, _, _, _, _, lk, -, -, -, -, -, -, -, -, hlk⟩ := State.lambdaAt?_spec hL
  rcases hlk with ⟨a, cell, -, -, hcap, -⟩ | ⟨-, hone, -⟩
  · exact absurd hcap hc
  · rw [hone] at hL
    exact ⟨cK, hL⟩
/-- an entry that the start's tables have resolved stays so -/
theorem own_res {vm : Vm} (hZ : Z.Warmed39 vm) {c : ClassId} {k : Class} (hk : Z.vm.classes[c]? = some k) :
    ∃ k', vm.classes[c]? = some k' ∧ k' = { k with resolved := k'.resolved, nestHost := k'.nestHost, nestHostError := k'.nestHostError } ∧ ∀ (i : Nat) (r : Resolved), k.resolved[i]? = some (some r) → k'.resolved[i]? = some (some r) := by
  obtain ⟨k', h1, h2, -, h3, -⟩ := hZ.2.2.2 c k hk
  refine ⟨k', h1, h2, fun i r hr => ?_⟩
  rcases h3 i with q | ⟨q, -⟩
  · rw [q]; exact hr
  · rw [hr] at q; cases q
/-- what the site's rule has made, at the start's tables -/
theorem own_made {x : MethodName} {pc index : Nat} {σ : Lambda.Shape} {cK : ClassId} (L : Z.lambdaAt? x pc index σ = some (cK, none)) (hO : (Jvm.Cond.instantiable "java/lang/Object" 0).before a0 Z = true)
    {cf : ClassFile} (hfile : σ.file x.cls = some cf) {lay : Array Field × Array FieldType × Array FieldType} (hlay : layoutFields cf 0 = some lay) {methods : Array Method} (hms : layoutMethods cf = some methods) {fw : Method} (h1 : methods[1]? = some fw) :
    ∃ (k tk : Class) (file : ClassFile) (b : Method) (toy : ClassId) (target : MethodId), Z.vm.classes[cK]? = some k ∧ k.name = x.cls ++ "$$Lambda" ∧ k.kind = .ordinary ∧ k.instanceTypes = lay.2.1 ∧ k.cf = some file ∧ file.constantPool = cf.constantPool ∧ Z.vm.method? ⟨cK, 1⟩ = some b ∧ Lambda.sameMethod fw b = true ∧
      Z.vm.findClass σ.implClass = some toy ∧ Z.vm.classes[toy]? = some tk ∧ tk.isInterface = σ.implItf ∧ ((methodIn toy σ.implName σ.implDesc.toString tk.isInterface none).ask { classPath := fun _ => none } Z.vm).1 = .ok target ∧
      (∀ (i : Nat) (r : Resolved), (Lambda.resolvedOf { classPath := fun _ => none } Z.vm cf lay.1 cK)[i]? = some (some r) → k.resolved[i]? = some (some r)) ∧ (∀ (i : Nat) (a : Field), lay.1[i]? = some a → k.fields[i]? = some a) := by
  obtain ⟨m, dk, cfd, i0, p0, lk, hn, hk, -, -, -, -, hmade, -, -⟩ := State.lambdaAt?_spec L
  obtain ⟨dk', hdk', hnm⟩ := className_of_methodNamed hn
  cases hk.symm.trans hdk'
  obtain ⟨dk2, k, ok, tk, file, cf', object, iface, toy, lay', methods', target, found, hd', hkK, hf, hcf, hobj, -, hok, hlay', hms', ht, htk, hg, -, hrec, -, -, -, hitf, hpool, hmeth, hfields, hty, hres, -⟩ := Lambda.isMade_spec hmade
  cases hk.symm.trans hd'
  rw [hnm, hfile] at hcf
  cases hcf
  obtain ⟨cO, kO, hfO, hkO, -, -, -, hsz⟩ := Cond.instantiable_spec hO
  cases hfO.symm.trans hobj
  cases hkO.symm.trans hok
  have hemp : ok.instanceTypes = #[] := Array.eq_empty_of_size_eq_zero hsz
  rw [hsz, hlay] at hlay'
  cases hlay'
  cases hms.symm.trans hms'
  obtain ⟨b, hb, hsame⟩ := hmeth 1 fw h1
  exact ⟨k, tk, file, b, toy, target, hkK, by rw [hrec.1, hnm], hrec.2.1, by rw [hty.1, hemp]; simp, hf, hpool.2.1, by simp [Vm.method?, hkK, hb], hsame, ht, htk, hitf, hg, hres, hfields⟩
theorem own_fnx {U : State} {xi : MethodName} {cF : ClassId} {mk : MethodId} (hal : Z.vm.Alike U.vm) (H : Jvm.Free.HMW.FnX xi cF mk Z) : Jvm.Free.HMW.FnX xi cF mk U := by
  obtain ⟨kF, methK, h1, h2, h3, h4, h5⟩ := H
  obtain ⟨kF', h1', -⟩ := hal.2.2 _ _ h1
  refine ⟨kF', methK, h1', by rw [hal.method?]; exact h2, h3, h4, fun r0 r hn hr => ?_⟩
  have hn' : Z.methodNamed? xi = some r0 := (State.methodNamed?_setVm (s := Z) hal xi).symm.trans hn
  rw [hal.method?] at hr
  obtain ⟨a, b, c⟩ := h5 r0 r hn' hr
  refine ⟨by rw [hal.assignable]; exact a, by rw [hal.selectMethod]; exact b, ?_⟩
  simp only [hal.superclasses, hal.declaredIn]
  exact c
/-- the site makes its object -/
theorem own_mk (X : Stand p l e R s m args below meth c T locs cells slots) (hx : p.tables.exec = Jvm.exec) (hZ : Z.Warmed39 s.vm) {x : MethodName} {pc index : Nat} {σ : Lambda.Shape} {cK : ClassId} (L : Z.lambdaAt? x pc index σ = some (cK, none)) (hn : Z.methodNamed? x = some m)
    (hO : (Jvm.Cond.instantiable "java/lang/Object" 0).before a0 Z = true) (eT : T.heap = h) {tys : Array FieldType} (hlay : ((σ.file x.cls).bind (layoutFields · 0)).map (·.2.1) = some tys) {vals rest : List Value} (hcap : vals.length = σ.captured.length)
    (hnar : ((tys.toList.zip vals).map fun (t, v) => narrow t v) = vals) (hfit : ∀ (i : Nat) (v : Value), vals.toArray[i]? = some v → ∃ t, tys[i]? = some t ∧ fits t v = true)
    {g : JFrame} (hg : g.method = m) (hsize : g.locals.size = c.maxLocals) (hpc : g.pc = pc) (hd : decode c.code g.pc = .ok (.invokedynamic index, 5)) (hstack : g.stack = vals.reverse ++ rest)
    (hwords : 2 * g.monitorRoom + (g.stack.map fun v => v.category).sum + 3072 ≤ R.locals) (hc : cells + 1 ≤ R.cells) {n : Nat} (hvl : vals.length = n) (hl : slots + n ≤ R.slots) :
    ∃ T' h', Stand p l e R s m args below meth c T' locs (cells + 1) (slots + n) ∧ T'.heap = h' ∧ Ext h h' ∧ oLam h' h.size cK vals ∧
      ∀ target, Steps p.tables e below (T'.setTop { g with pc := g.pc + 5, stack := .ref h.size :: rest }) target → Steps p.tables e below (T.setTop g) target := by
  subst eT
  subst hpc
  obtain ⟨m', k, cf, i0, p0, lk, hm', hk, hcf, hshape, -, hfind, hmade, -, hlk⟩ := State.lambdaAt?_spec L
  cases hn.symm.trans hm'
  have hlk2 : lk = .makes cK := by
    rcases hlk with ⟨a, cell, -, q, -⟩ | q
    · cases q
    · exact q.1
  subst hlk2
  obtain ⟨k2, hk2, hnm⟩ := className_of_methodNamed hn
  cases hk.symm.trans hk2
  obtain ⟨bsm, nt, desc, site, hcp, hnt, hsite, hpar⟩ := Lambda.shapeOf?_site hshape
  obtain ⟨kK, hkK, hty, hkind, -⟩ := Lambda.made_types hmade hk hO (by rw [hnm]; exact hlay)
  obtain ⟨k', hk', ek⟩ := hZ.alike.2.2 _ _ hk
  obtain ⟨kK', hkK', ekK⟩ := hZ.alike.2.2 _ _ hkK
  have ety : kK'.instanceTypes = tys := by rw [ekK]; exact hty
  have ekind : kK'.kind = .ordinary := by rw [ekK]; exact hkind
  have hsl : ((kK'.instanceTypes.toList.zip vals).map fun (t, v) => narrow t v) = vals := by rw [ety]; exact hnar
  have hsz : vals.toArray.size = n := by simpa using hvl
  obtain ⟨X', st⟩ := X.lambdaMakes hx hg hsize hd (k := k') (kc := kK') (cf := cf) (i0 := i0) (p0 := p0) (cK := cK) (vals := vals) (rest := rest) hk' (by rw [ek]; exact hfind) (by rw [ek]; exact hcf) hcp hnt (parseLong_of_parse hsite) (by rw [hpar]; exact hcap) hstack hkK'
    (by rw [X.admits.platform]; exact hwords) hc (by rw [hsl, hvl]; exact hl)
    (fun i v hv => by
      rw [hsl] at hv
      obtain ⟨t, h1, h2⟩ := hfit i v hv
      simp [State.fitsSlot, State.slotType?, hkK', ekind, ety, h1, h2])
  rw [hsl] at X' st
  rw [hsz] at X'
  exact ⟨_, _, X', rfl, ext_of (fun a ha => State.heap_pushCell_of_lt _ _ ha), ⟨_, State.heap_pushCell_size _ _, rfl, rfl, rfl⟩, st⟩
/-- an interface call on an object of the made class: into the forwarder -/
theorem own_face (X : Stand p l e R s m args below meth c T locs cells slots) (hx : p.tables.exec = Jvm.exec) {own : String} {index count : Nat} {xi : MethodName} (hown : s.vm.findClass own = some m.cls) (hlink : (Jvm.Cond.methodLink own index xi).before args s = true) (hdecl : (Jvm.Cond.declares xi).before args s = true)
    (hface : (Jvm.Cond.interfaceMethod xi.cls xi.cls xi.name xi.desc).before args s = true) (hy : xi.cls ≠ "java/lang/invoke/MethodHandle" ∧ xi.cls ≠ "java/lang/invoke/VarHandle") {cF : ClassId} {mF : MethodId} (hFn : Jvm.Free.HMW.FnX xi cF mF s) {b : Addr} (hrecv : IsOf cF T b)
    {g : JFrame} (hg : g.method = m) {argsL rest : List Value} (hlen : ∀ sig, parseMethodDescriptor xi.desc = some sig → argsL.length = sig.parameters.length) (hstack : g.stack = argsL.reverse ++ .ref b :: rest) (hdg : decode c.code g.pc = .ok (.invokeinterface index count, 5)) :
    ∃ vm', Stand p l e R s m args below meth c (T.setVm vm') locs cells slots ∧ Steps p.tables e below (T.setTop g) (doInvoke e ((T.setVm vm').setTop { g with stack := rest }) [] mF (.ref b :: argsL).toArray).1 := by
  obtain ⟨cell, hcell, hcls, hst⟩ := hrecv
  obtain ⟨r0, r, hn, hrm, hstR, hsig⟩ := Cond.declares_spec hdecl
  obtain ⟨cL, kL, r1, hcL, hkL, hiL, -, hn1⟩ := Cond.interfaceMethod_spec hface
  cases hn.symm.trans hn1
  have hr0 : r0.cls = cL := Option.some.inj ((findClass_of_methodNamed hn).symm.trans hcL)
  obtain ⟨kF, methK, hkF, hmK, hpub, habs, hrest⟩ := hFn
  obtain ⟨hasg, hsel, hway⟩ := hrest r0 r hn hrm
  obtain ⟨vm', X', hstep⟩ := X.invokeinterface hx hown hlink hn hrm hstR (by rw [hr0]; exact hkL) hiL hy (a := b) (cell := cell) (kcell := kF) hcell (fun q hq => by rw [hq] at hst; cases hst) (by rw [hcls]; exact hkF) (by rw [hcls]; exact hasg) (m' := mF) (meth' := methK)
    (by rw [Launch.admits_selectMethod X.admits, hcls]; exact hsel) hmK (by rw [hcls]; exact hway) hpub habs (g := g) hg (argsL := argsL) (rest := rest) (hlen _ hsig) hstack hdg
  exact ⟨vm', X', hstep _ fun acts => by rw [doInvoke_state]; exact Steps.refl _⟩
/-- the inner walk has ended, and may have interned -/
theorem own_outW (X : Stand p l e R s m args below meth c T locs cells slots) {g : JFrame} (hg : g.method = m) {ig : Instr} {len : Nat} (hdg : decode c.code g.pc = .ok (ig, len)) {mk : MethodId} {a : Array Value} {t : State} {v : Option Value} {L : List Loc} {k n : Nat}
    (hend : Ended t (.java g :: below) (.returned v)) (hR : ReturnedEndW (T.calling g mk a) (.returned v) t L k n) :
    ∃ T', Stand p l e R (s.setVm T'.vm) m args below meth c T' (locs ++ L) (cells + k) (slots + n) ∧ s.Since T'.vm T'.heap.size ∧ T.heap.size ≤ T'.heap.size ∧ T'.heap = t.heap ∧ T'.vm = t.vm ∧ t = T'.setTop { g with pc := g.pc + len, stack := v.toList ++ g.stack } := by
  obtain ⟨-, hW0, hB, hs⟩ := hR
  have hW : T.Warmed39 t.vm := hW0
  have hend' : Ended (t.setVm T.vm) (.java g :: below) (.returned v) := by
    obtain ⟨c2, i2, len2, h1, h2, h3⟩ := hend
    refine ⟨c2, i2, len2, ?_, h2, h3⟩
    rw [State.code?_eq] at h1 ⊢
    rw [hW.alike.method?] at h1
    exact h1
  obtain ⟨T2, X2, -, -, ht⟩ := X.outOf hg hdg (mk := mk) (a := a) (t := t.setVm T.vm) (v := v) (L := L) (k := k) (n := n) hend' (State.WarmedH.refl (T.calling g mk a)) hs
  have hWs : s.Warmed39 t.vm := State.Warmed39.trans X.warmed.wide hW
  have hh : T2.heap = t.heap := (congrArg State.heap ht).symm
  refine ⟨T2.setVm t.vm, X2.retabled hWs, ⟨hWs, fun j q hj hq => ?_⟩, ?_, hh, rfl, ?_⟩
  · have hj' : T.vm.interned.size ≤ j := by rw [X.warmed.interned_eq]; exact hj
    obtain ⟨x, y⟩ := hB j q hj' hq
    exact ⟨Nat.le_trans X.same.2.1 x, by show q.2 < T2.heap.size; rw [hh]; exact y⟩
  · show T.heap.size ≤ T2.heap.size
    rw [hh]; exact hs.2.1
  · exact congrArg (fun z : State => z.setVm t.vm) ht
/-- through a method that no search finds, whose walk may intern -/
theorem own_thru {U : State} {L : List Loc} {cc nn : Nat} (X : Stand p l e R s m args below meth c U L cc nn) {g : JFrame} (hg : g.method = m) (hsize : g.locals.size = c.maxLocals) {ig : Instr} {len : Nat} (hdg : decode c.code g.pc = .ok (ig, len))
    {mk : MethodId} {methk : Method} {ck : Code} (a : Array Value) {R' : Room} (hmk : U.vm.method? mk = some methk) (hck : methk.code = some ck) (hlk : methk.locks = false) (hpk : U.plainMethod mk)
    (hframes : R'.frames + 1 ≤ R.frames) (hlocals : 2 * g.monitorRoom + (g.stack.map fun v => v.category).sum + (ck.maxLocals + 11) + R'.locals ≤ R.locals) (hcells : cc + R'.cells ≤ R.cells) (hslots : nn + R'.slots ≤ R.slots)
    {Φ : Option Value → State → List Loc → Nat → Nat → Prop}
    (body : ∀ U₀, U₀ = (U.setTop g).pushFrame (.java (entryFrame mk a ck.maxLocals)) → Stand p l e R' (U.calling g mk a) mk a (.java g :: below) methk ck U₀ [] 0 0 →
      ∃ v U₁ L₁ c₁ n₁, Stand p l e R' ((U.calling g mk a).setVm U₁.vm) mk a (.java g :: below) methk ck U₁ L₁ c₁ n₁ ∧ (U.calling g mk a).Since U₁.vm U₁.heap.size ∧ (methk.sig.returnType = none → v = none) ∧ Φ v U₁ L₁ c₁ n₁ ∧
        ∀ fs, (∀ (f : JFrame) (acts : List Action), f.method = mk → f.locked = none → f.entered = [] → (doReturn e (U₁.setTop f) acts v).1 = U₁.setFrames fs) → Steps p.tables e (.java g :: below) (U₀.setTop (entryFrame mk a ck.maxLocals)) (U₁.setFrames fs)) :
    ∃ v T' U₁ L₁ c₁ n₁, Stand p l e R (s.setVm T'.vm) m args below meth c T' (L ++ L₁) (cc + c₁) (nn + n₁) ∧ s.Since T'.vm T'.heap.size ∧ U.heap.size ≤ T'.heap.size ∧ Φ v U₁ L₁ c₁ n₁ ∧ T'.heap = U₁.heap ∧ T'.vm = U₁.vm ∧
      Steps p.tables e below (doInvoke e (U.setTop g) [] mk a).1 (T'.setTop { g with pc := g.pc + len, stack := v.toList ++ g.stack }) := by
  obtain ⟨Y₀, hin⟩ := X.into hg hsize hdg a (R' := R') hmk hck hlk hpk hframes hlocals hcells hslots
  obtain ⟨v, U₁, L₁, c₁, n₁, Y₁, hS, hv, hΦ, hsteps⟩ := body _ rfl Y₀
  obtain ⟨fs, hleave, -, hended, hR⟩ := Y₁.leaveW hS (Nat.le_refl _) hv hlk
  obtain ⟨T', X', hS', hgr, hh, hvm, ht⟩ := own_outW X hg hdg hended hR
  refine ⟨v, T', U₁, L₁, c₁, n₁, X', hS', hgr, hΦ, hh, hvm, ?_⟩
  rw [hin [], ← ht]
  exact Steps.weaken (mid := [.java g]) (hsteps fs hleave)
theorem own_statR (Y : Stand p l e R s m args below meth c T locs cells slots) (hx : p.tables.exec = Jvm.exec) {index n : Nat} {y : MethodName} (hA : Jvm.Free.Fw.StaticAt e T m.cls index y n)
    {W : Nat} {Pre : Pt → Array Value → Prop} {Post : Pt → Array Value → Option Value → Pt → Prop} (hK : BackS l R p e below s args y 3 W Pre Post) {g : JFrame} (hg : g.method = m) (hsize : g.locals.size = c.maxLocals) {argsL rest : List Value} (hlen : argsL.length = n) (hstack : g.stack = argsL.reverse ++ rest) (hW : 2 * g.monitorRoom + (rest.map fun v => v.category).sum ≤ W)
    (hpre : Pre ⟨T, locs, cells, slots⟩ argsL.toArray) (hdg : decode c.code g.pc = .ok (.invokestatic index, 3)) :
    ∃ (v : Option Value) (B : Pt), Stand p l e R (s.setVm B.U.vm) m args below meth c B.U B.locs B.cells B.slots ∧ s.Since B.U.vm B.U.heap.size ∧ T.heap.size ≤ B.U.heap.size ∧ Post ⟨T, locs, cells, slots⟩ argsL.toArray v B ∧ Steps p.tables e below (T.setTop g) (B.U.setTop { g with pc := g.pc + 3, stack := v.toList ++ rest }) := by
  subst hg
  obtain ⟨t, kt, metht, q1, q2, q3, q4, q5, q6, q7, q8, q9⟩ := hA
  obtain ⟨v, B, Y', hS, hgr, hpost, hsteps⟩ := hK g.method meth c ⟨T, locs, cells, slots⟩ { g with stack := rest } (.invokestatic index) t argsL.toArray Y rfl hsize hdg hW q9 hpre
  refine ⟨v, B, Y', hS, hgr, hpost, Steps.trans ?_ hsteps⟩
  jvm_step Y.here [hx, hdg, invokestatic.wp_ready (e := e) (s := T) (m := t) (k := kt) (meth := metht) (args := argsL) (rest := rest) (f := g) Y.here.top q1 q2 q3 q4 q5 q6 q7 (hlen.trans q8.symm) hstack]
  intro acts
  rw [doInvoke_state]
  exact Steps.refl _
theorem own_virtR (Y : Stand p l e R s m args below meth c T locs cells slots) (hx : p.tables.exec = Jvm.exec) {index n : Nat} {y : MethodName} {cB : ClassId} (hA : Jvm.Free.Fw.VirtualAt e T m.cls index y cB n)
    {W : Nat} {Pre : Pt → Array Value → Prop} {Post : Pt → Array Value → Option Value → Pt → Prop} (hK : BackS l R p e below s args y 3 W Pre Post) {g : JFrame} (hg : g.method = m) (hsize : g.locals.size = c.maxLocals) {a : Addr} {cell : Cell} (hcell : T.heap[a]? = some cell) (hcls : cell.cls = cB) (hobj : ∀ q, cell.vm ≠ .statics q)
    {argsL rest : List Value} (hlen : argsL.length = n) (hstack : g.stack = argsL.reverse ++ .ref a :: rest) (hW : 2 * g.monitorRoom + (rest.map fun v => v.category).sum ≤ W)
    (hpre : Pre ⟨T, locs, cells, slots⟩ (.ref a :: argsL).toArray) (hdg : decode c.code g.pc = .ok (.invokevirtual index, 3)) :
    ∃ (v : Option Value) (B : Pt), Stand p l e R (s.setVm B.U.vm) m args below meth c B.U B.locs B.cells B.slots ∧ s.Since B.U.vm B.U.heap.size ∧ T.heap.size ≤ B.U.heap.size ∧ Post ⟨T, locs, cells, slots⟩ (.ref a :: argsL).toArray v B ∧ Steps p.tables e below (T.setTop g) (B.U.setTop { g with pc := g.pc + 3, stack := v.toList ++ rest }) := by
  subst hg
  obtain ⟨r, t, kr, kt, methr, metht, q1, q2, q3, q4, q5, q6, q7, q8, q9, q10, q11, q12, q13⟩ := hA
  obtain ⟨v, B, Y', hS, hgr, hpost, hsteps⟩ := hK g.method meth c ⟨T, locs, cells, slots⟩ { g with stack := rest } (.invokevirtual index) t (.ref a :: argsL).toArray Y rfl hsize hdg hW q13 hpre
  refine ⟨v, B, Y', hS, hgr, hpost, Steps.trans ?_ hsteps⟩
  jvm_step Y.here [hx, hdg, invokevirtual.wp_ready (e := e) (s := T) (r := r) (m := t) (k := kr) (mk := kt) (rmeth := methr) (meth := metht) (a := a) (args := argsL) (rest := rest) (cell := cell) (f := g) Y.here.top q1 q2 q3 q4 q5 q6 (hlen.trans q7.symm) hstack hcell hobj (by rw [hcls]; exact q8) q9 q10 q11 q12]
  intro acts
  rw [doInvoke_state]
  exact Steps.refl _
end Lam

abbrev ox1 : MethodName := ⟨"com/example/vorgang/vorgang/model/CallPolicy", "dispatch", "(ZZ)Ljava/util/Optional;"⟩
abbrev ox2 : MethodName := ⟨"com/example/vorgang/vorgang/model/CallPolicy", "lambda$dispatch$1", "(ZZLcom/example/vorgang/vorgang/model/ContextUse;)Ljava/util/Optional;"⟩
abbrev oxi : MethodName := ⟨"java/util/function/Function", "apply", "(Ljava/lang/Object;)Ljava/lang/Object;"⟩

def oL1 : Lambda.Shape := (Jvm.Lambda.Shape.mk "java/util/function/Function" "apply" (Jvm.ClassFile.MethodDescriptor.mk ([(Jvm.ClassFile.FieldType.object "java/lang/Object")] : List Jvm.ClassFile.FieldType) (Option.some (Jvm.ClassFile.FieldType.object "java/lang/Object"))) ([(Jvm.ClassFile.FieldType.object "com/example/vorgang/vorgang/model/CallPolicy"), Jvm.ClassFile.FieldType.boolean, Jvm.ClassFile.FieldType.boolean] : List Jvm.ClassFile.FieldType) (5 : Nat) "com/example/vorgang/vorgang/model/CallPolicy" "lambda$dispatch$1" (Jvm.ClassFile.MethodDescriptor.mk ([Jvm.ClassFile.FieldType.boolean, Jvm.ClassFile.FieldType.boolean, (Jvm.ClassFile.FieldType.object "com/example/vorgang/vorgang/model/ContextUse")] : List Jvm.ClassFile.FieldType) (Option.some (Jvm.ClassFile.FieldType.object "java/util/Optional"))) false (Jvm.ClassFile.MethodDescriptor.mk ([(Jvm.ClassFile.FieldType.object "com/example/vorgang/vorgang/model/ContextUse")] : List Jvm.ClassFile.FieldType) (Option.some (Jvm.ClassFile.FieldType.object "java/util/Optional"))))
def oF1 : ByteArray := ⟨#[0x2a, 0xb4, 0x00, 0x12, 0x2a, 0xb4, 0x00, 0x14, 0x2a, 0xb4, 0x00, 0x16, 0x2b, 0xc0, 0x00, 0x1a, 0xb6, 0x00, 0x20, 0xb0]⟩
theorem of1_0 : decode oF1 0 = .ok (.aload_n 0, 1) := by decide +kernel
theorem of1_1 : decode oF1 1 = .ok (.getfield 18, 3) := by decide +kernel
theorem of1_4 : decode oF1 4 = .ok (.aload_n 0, 1) := by decide +kernel
theorem of1_5 : decode oF1 5 = .ok (.getfield 20, 3) := by decide +kernel
theorem of1_8 : decode oF1 8 = .ok (.aload_n 0, 1) := by decide +kernel
theorem of1_9 : decode oF1 9 = .ok (.getfield 22, 3) := by decide +kernel
theorem of1_12 : decode oF1 12 = .ok (.aload_n 1, 1) := by decide +kernel
theorem of1_13 : decode oF1 13 = .ok (.checkcast 26, 3) := by decide +kernel
theorem of1_16 : decode oF1 16 = .ok (.invokevirtual 32, 3) := by decide +kernel
theorem of1_19 : decode oF1 19 = .ok (.areturn, 1) := by decide +kernel
def oD1 : ClassFile := (oL1.file "com/example/vorgang/vorgang/model/CallPolicy").getD { minorVersion := 0, majorVersion := 0, constantPool := #[], accessFlags := 0, thisClass := 0, superClass := 0, interfaces := #[], fields := #[], methods := #[], attributes := #[] }
theorem oz_file1 : oL1.file "com/example/vorgang/vorgang/model/CallPolicy" = some oD1 := own_getD _ (by decide +kernel)
def oY1 : Array Field × Array FieldType × Array FieldType := (layoutFields oD1 0).getD (#[], #[], #[])
theorem oz_lay1 : layoutFields oD1 0 = some oY1 := own_getD _ (by decide +kernel)
def oM1 : Array Method := (layoutMethods oD1).getD #[]
theorem oz_ms1 : layoutMethods oD1 = some oM1 := own_getD _ (by decide +kernel)
def oW1 : Method := (oM1[1]?).getD default
theorem oz_fw1 : oM1[1]? = some oW1 := own_getD _ (by decide +kernel)
theorem oz_code1 : (oW1.code.map fun c => (c.code.data, c.maxLocals)) = some (oF1.data, 2) := by decide +kernel
theorem oz_fl1 : oW1.accessFlags = 0x0001 := by decide +kernel
theorem oz_ret1 : oW1.sig.returnType = some (.object "java/lang/Object") := by decide +kernel
theorem oz_m1 : oD1.constantPool[32]? = some (.methodref 28 31) ∧ oD1.constantPool.className? 28 = some "com/example/vorgang/vorgang/model/CallPolicy" ∧ oD1.constantPool.nameAndType? 31 = some ("lambda$dispatch$1", "(ZZLcom/example/vorgang/vorgang/model/ContextUse;)Ljava/util/Optional;") := by decide +kernel
theorem oz_c1 : oD1.constantPool[28]? = some (.class_ 27) ∧ oD1.constantPool.string? 27 = some "com/example/vorgang/vorgang/model/CallPolicy" ∧ 28 ≠ oD1.thisClass := by decide +kernel
theorem oz_k1 : oD1.constantPool[26]? = some (.class_ 25) ∧ oD1.constantPool.string? 25 = some "com/example/vorgang/vorgang/model/ContextUse" ∧ 26 ≠ oD1.thisClass := by decide +kernel
theorem oz_f1_0 : oD1.constantPool[18]? = some (.fieldref 2 17) ∧ oD1.constantPool.nameAndType? 17 = some ("arg$1", "Lcom/example/vorgang/vorgang/model/CallPolicy;") ∧ oY1.1.findIdx? (·.name == "arg$1") = some 0 ∧ (oY1.1[0]?).map (fun f => (f.isStatic, f.slot)) = some (false, 0) := by decide +kernel
theorem oz_f1_1 : oD1.constantPool[20]? = some (.fieldref 2 19) ∧ oD1.constantPool.nameAndType? 19 = some ("arg$2", "Z") ∧ oY1.1.findIdx? (·.name == "arg$2") = some 1 ∧ (oY1.1[1]?).map (fun f => (f.isStatic, f.slot)) = some (false, 1) := by decide +kernel
theorem oz_f1_2 : oD1.constantPool[22]? = some (.fieldref 2 21) ∧ oD1.constantPool.nameAndType? 21 = some ("arg$3", "Z") ∧ oY1.1.findIdx? (·.name == "arg$3") = some 2 ∧ (oY1.1[2]?).map (fun f => (f.isStatic, f.slot)) = some (false, 2) := by decide +kernel
def oT1 : Array FieldType := #[(.object "com/example/vorgang/vorgang/model/CallPolicy"), .boolean, .boolean]
theorem oz_t1 : ((oL1.file "com/example/vorgang/vorgang/model/CallPolicy").bind (layoutFields · 0)).map (·.2.1) = some oT1 := by decide +kernel
theorem oz_d1 : oL1.implDesc.toString = "(ZZLcom/example/vorgang/vorgang/model/ContextUse;)Ljava/util/Optional;" := by decide +kernel

def oL2 : Lambda.Shape := (Jvm.Lambda.Shape.mk "java/util/function/Function" "apply" (Jvm.ClassFile.MethodDescriptor.mk ([(Jvm.ClassFile.FieldType.object "java/lang/Object")] : List Jvm.ClassFile.FieldType) (Option.some (Jvm.ClassFile.FieldType.object "java/lang/Object"))) ([(Jvm.ClassFile.FieldType.object "com/example/vorgang/vorgang/model/ContextUse")] : List Jvm.ClassFile.FieldType) (6 : Nat) "com/example/vorgang/vorgang/model/CallPolicy" "lambda$dispatch$0" (Jvm.ClassFile.MethodDescriptor.mk ([(Jvm.ClassFile.FieldType.object "com/example/vorgang/vorgang/model/ContextUse"), (Jvm.ClassFile.FieldType.object "com/example/vorgang/vorgang/model/ContextUse")] : List Jvm.ClassFile.FieldType) (Option.some (Jvm.ClassFile.FieldType.object "com/example/vorgang/vorgang/model/CallContexts"))) false (Jvm.ClassFile.MethodDescriptor.mk ([(Jvm.ClassFile.FieldType.object "com/example/vorgang/vorgang/model/ContextUse")] : List Jvm.ClassFile.FieldType) (Option.some (Jvm.ClassFile.FieldType.object "com/example/vorgang/vorgang/model/CallContexts"))))
def oF2 : ByteArray := ⟨#[0x2a, 0xb4, 0x00, 0x0f, 0x2b, 0xc0, 0x00, 0x13, 0xb8, 0x00, 0x19, 0xb0]⟩
theorem of2_0 : decode oF2 0 = .ok (.aload_n 0, 1) := by decide +kernel
theorem of2_1 : decode oF2 1 = .ok (.getfield 15, 3) := by decide +kernel
theorem of2_4 : decode oF2 4 = .ok (.aload_n 1, 1) := by decide +kernel
theorem of2_5 : decode oF2 5 = .ok (.checkcast 19, 3) := by decide +kernel
theorem of2_8 : decode oF2 8 = .ok (.invokestatic 25, 3) := by decide +kernel
theorem of2_11 : decode oF2 11 = .ok (.areturn, 1) := by decide +kernel
def oD2 : ClassFile := (oL2.file "com/example/vorgang/vorgang/model/CallPolicy").getD { minorVersion := 0, majorVersion := 0, constantPool := #[], accessFlags := 0, thisClass := 0, superClass := 0, interfaces := #[], fields := #[], methods := #[], attributes := #[] }
theorem oz_file2 : oL2.file "com/example/vorgang/vorgang/model/CallPolicy" = some oD2 := own_getD _ (by decide +kernel)
def oY2 : Array Field × Array FieldType × Array FieldType := (layoutFields oD2 0).getD (#[], #[], #[])
theorem oz_lay2 : layoutFields oD2 0 = some oY2 := own_getD _ (by decide +kernel)
def oM2 : Array Method := (layoutMethods oD2).getD #[]
theorem oz_ms2 : layoutMethods oD2 = some oM2 := own_getD _ (by decide +kernel)
def oW2 : Method := (oM2[1]?).getD default
theorem oz_fw2 : oM2[1]? = some oW2 := own_getD _ (by decide +kernel)
theorem oz_code2 : (oW2.code.map fun c => (c.code.data, c.maxLocals)) = some (oF2.data, 2) := by decide +kernel
theorem oz_fl2 : oW2.accessFlags = 0x0001 := by decide +kernel
theorem oz_ret2 : oW2.sig.returnType = some (.object "java/lang/Object") := by decide +kernel
theorem oz_m2 : oD2.constantPool[25]? = some (.methodref 21 24) ∧ oD2.constantPool.className? 21 = some "com/example/vorgang/vorgang/model/CallPolicy" ∧ oD2.constantPool.nameAndType? 24 = some ("lambda$dispatch$0", "(Lcom/example/vorgang/vorgang/model/ContextUse;Lcom/example/vorgang/vorgang/model/ContextUse;)Lcom/example/vorgang/vorgang/model/CallContexts;") := by decide +kernel
theorem oz_c2 : oD2.constantPool[21]? = some (.class_ 20) ∧ oD2.constantPool.string? 20 = some "com/example/vorgang/vorgang/model/CallPolicy" ∧ 21 ≠ oD2.thisClass := by decide +kernel
theorem oz_k2 : oD2.constantPool[19]? = some (.class_ 18) ∧ oD2.constantPool.string? 18 = some "com/example/vorgang/vorgang/model/ContextUse" ∧ 19 ≠ oD2.thisClass := by decide +kernel
theorem oz_f2_0 : oD2.constantPool[15]? = some (.fieldref 2 14) ∧ oD2.constantPool.nameAndType? 14 = some ("arg$1", "Lcom/example/vorgang/vorgang/model/ContextUse;") ∧ oY2.1.findIdx? (·.name == "arg$1") = some 0 ∧ (oY2.1[0]?).map (fun f => (f.isStatic, f.slot)) = some (false, 0) := by decide +kernel
def oT2 : Array FieldType := #[(.object "com/example/vorgang/vorgang/model/ContextUse")]
theorem oz_t2 : ((oL2.file "com/example/vorgang/vorgang/model/CallPolicy").bind (layoutFields · 0)).map (·.2.1) = some oT2 := by decide +kernel
theorem oz_d2 : oL2.implDesc.toString = "(Lcom/example/vorgang/vorgang/model/ContextUse;Lcom/example/vorgang/vorgang/model/ContextUse;)Lcom/example/vorgang/vorgang/model/CallContexts;" := by decide +kernel

theorem oz_pl : plainName ("com/example/vorgang/vorgang/model/CallPolicy" ++ "$$Lambda") = true := by first | (simp [plainName, overriddenIn]; done) | decide +kernel

theorem pd_0 : parseMethodDescriptor "(Ljava/lang/Object;)Ljava/lang/Object;" = some ⟨[(.object "java/lang/Object")], some (.object "java/lang/Object")⟩ := by decide +kernel

theorem pd_1 : parseMethodDescriptor "(ZZLcom/example/vorgang/vorgang/model/ContextUse;)Ljava/util/Optional;" = some ⟨[.boolean, .boolean, (.object "com/example/vorgang/vorgang/model/ContextUse")], some (.object "java/util/Optional")⟩ := by decide +kernel

theorem pd_2 : parseMethodDescriptor "(Lcom/example/vorgang/vorgang/model/ContextUse;Lcom/example/vorgang/vorgang/model/ContextUse;)Lcom/example/vorgang/vorgang/model/CallContexts;" = some ⟨[(.object "com/example/vorgang/vorgang/model/ContextUse"), (.object "com/example/vorgang/vorgang/model/ContextUse")], some (.object "com/example/vorgang/vorgang/model/CallContexts")⟩ := by decide +kernel

section LamCall
variable {p : Program} {l : Launch} {e : Env} {R : Room} {s : State} {m : MethodId} {args : Array Value} {below : List Frame} {meth : Method} {c : Code} {T : State} {locs : List Loc} {cells slots : Nat} {Z : State} {a0 : Array Value} {h : Heap} {vm0 : Vm}

set_option maxHeartbeats 8000000 in
theorem own_app1 (X : Stand p l e R (s.setVm vm0) m args below meth c T locs cells slots) (hx : p.tables.exec = Jvm.exec) (hZ : Z.Warmed39 vm0) (hw : ∀ d ∈ tables_1, d.before a0 Z = true) {cK : ClassId} (L : Z.lambdaAt? ox1 11 48 oL1 = some (cK, none))
    {own : String} {index count : Nat} (hown : vm0.findClass own = some m.cls) (hlink : (Jvm.Cond.methodLink own index oxi).before a0 Z = true) (eT : T.heap = h) {f v : Addr} {cp : Addr} {sr : Int32} {tr : Int32} (F : oLam h f cK [.ref cp, .int sr, .int tr]) (Er : Exa Z h cp "com/example/vorgang/vorgang/model/CallPolicy") (Ev : Exa Z h v "com/example/vorgang/vorgang/model/ContextUse")
    {rm : Room} {Q : Option Value → Heap → List Loc → Prop} (hM : MetFree l (⟨"com/example/vorgang/vorgang/model/CallPolicy", "lambda$dispatch$1", "(ZZLcom/example/vorgang/vorgang/model/ContextUse;)Ljava/util/Optional;"⟩ : MethodName) (head1 [Jvm.Cond.code (⟨"com/example/vorgang/vorgang/model/CallPolicy", "lambda$dispatch$1", "(ZZLcom/example/vorgang/vorgang/model/ContextUse;)Ljava/util/Optional;"⟩ : MethodName) prog_10_method_8_code 5 (some (.object "java/util/Optional"))] rm) (fun a U => a = #[.ref cp, .int sr, .int tr, .ref v] ∧ Z.Warmed39 U.vm ∧ U.heap = h ∧ CHv Z oEL U.vm h) (fun _ _ _ _ _ => True) (fun _ U o U' => ∃ vv LL, o = .returned vv ∧ Q vv U'.heap LL ∧ CHr Z oEL U.vm U.heap U'.vm U'.heap ∧ ReturnedEndW U o U' LL rm.cells rm.slots))
    (hret : ∀ vv hh LL, Q vv hh LL → ∃ w, vv = some w ∧ w.isRef = true) (hf : rm.frames + 2 ≤ R.frames) {W : Nat} (hl : W + 29 + rm.locals ≤ R.locals) {g : JFrame} (hg : g.method = m) (hsize : g.locals.size = c.maxLocals) {rest : List Value} (hstack : g.stack = .ref v :: .ref f :: rest) (hW : 2 * g.monitorRoom + (rest.map fun v => v.category).sum ≤ W)
    (hdg : decode c.code g.pc = .ok (.invokeinterface index count, 5)) (hc : cells + rm.cells ≤ R.cells) (hsl : slots + rm.slots ≤ R.slots) :
    ∃ (vv : Option Value) (B : Pt), Stand p l e R ((s.setVm vm0).setVm B.U.vm) m args below meth c B.U B.locs B.cells B.slots ∧ (s.setVm vm0).Since B.U.vm B.U.heap.size ∧ T.heap.size ≤ B.U.heap.size ∧ (∃ LL, Q vv B.U.heap LL ∧ B.locs = locs ++ LL ∧ B.cells = cells + rm.cells ∧ B.slots = slots + rm.slots ∧ CHr Z oEL vm0 h B.U.vm B.U.heap) ∧
      Steps p.tables e below (T.setTop g) (B.U.setTop { g with pc := g.pc + 5, stack := vv.toList ++ rest }) := by
  have hZ0 : Z.Warmed39 (s.setVm vm0).vm := hZ
  obtain ⟨kK, tk, file, fb, toy, tgt, hkK, hkn, hkind, hty, hfile, hpool, hmk, hsame, htoy, htk, hitf, hlook, hres, hfld⟩ := own_made L (ow hw 81 rfl) oz_file1 oz_lay1 oz_ms1 oz_fw1
  obtain ⟨-, -, qsig, qfl, cx, cy, hcx, hcy, -, hml, hbytes, -⟩ := Lambda.sameMethod_spec hsame
  have hcc := oz_code1
  rw [hcx] at hcc
  simp only [Option.map_some, Option.some.injEq, Prod.mk.injEq] at hcc
  have hby : cy.code = oF1 := by rw [hbytes]; exact ByteArray.ext hcc.1
  have hmx : cy.maxLocals = 2 := by rw [hml]; exact hcc.2
  have hfn : Jvm.Free.HMW.FnX oxi cK ⟨cK, 1⟩ (s.setVm vm0) := own_fnx (Z := Z) hZ.alike (Jvm.Free.Fn.of_lambdaAt (xi := oxi) L rfl rfl (by decide +kernel) (ow hw 97 rfl) oz_file1 oz_ms1 oz_fw1 oz_fl1).1
  obtain ⟨cell, hcell, hccl, hcvm, hcsl⟩ := F
  obtain ⟨vm1, X1, st1⟩ := own_face X hx hown (mvT hZ0 hlink) (mvT hZ0 (ow hw 96 rfl)) (mvT hZ0 (ow hw 97 rfl)) (by decide) hfn (b := f) ⟨cell, by rw [eT]; exact hcell, hccl, by rw [hcvm]; rfl⟩ hg (argsL := [.ref v]) (rest := rest) (lenOf pd_0 rfl) (by rw [hstack]; rfl) hdg
  have hZ1 : Z.Warmed39 vm1 := wtrans (s := s.setVm vm0) (U := T.setVm vm1) hZ0 X1.warmed
  have hal1 := hZ1.alike
  obtain ⟨k1, hk1, ek1, hr1⟩ := own_res hZ1 hkK
  obtain ⟨tk1, htk1, etk1⟩ := hal1.2.2 _ _ htk
  have hitf1 : tk1.isInterface = tk.isInterface := by rw [etk1]; rfl
  have hlook' := hlook
  rw [oz_d1] at hlook'
  obtain ⟨fl0, hfl0, hp0⟩ := Option.map_eq_some_iff.mp oz_f1_0.2.2.2
  simp only [Prod.mk.injEq] at hp0
  obtain ⟨fl1, hfl1, hp1⟩ := Option.map_eq_some_iff.mp oz_f1_1.2.2.2
  simp only [Prod.mk.injEq] at hp1
  obtain ⟨fl2, hfl2, hp2⟩ := Option.map_eq_some_iff.mp oz_f1_2.2.2.2
  simp only [Prod.mk.injEq] at hp2
  obtain ⟨cv, cT, hcv, hfT, hbv⟩ := Ins.self Ev
  simp only [Bool.and_eq_true, Bool.not_eq_true'] at hbv
  obtain ⟨cv', kv, hcv', -, hkv, -, -⟩ := Ev
  cases hcv.symm.trans hcv'
  obtain ⟨kT, hkT, -⟩ := Vm.findClass_spec hfT
  obtain ⟨kv1, hkv1, -⟩ := hal1.2.2 _ _ hkv
  obtain ⟨kT1, hkT1, -⟩ := hal1.2.2 _ _ hkT
  obtain ⟨cr, kr, hcr, hfr, hkr, hcrs, -⟩ := Er
  have etoy : toy = cr.cls := Option.some.inj ((show Z.vm.findClass "com/example/vorgang/vorgang/model/CallPolicy" = some toy from htoy).symm.trans hfr)
  obtain ⟨tn, hnY⟩ := Cond.code_named (ow hw 101 rfl)
  have etn : tgt = tn := Except.ok.inj (hlook'.symm.trans (Jvm.Free.Fw.look_of_named hnY (by decide) toy tk htoy htk))
  subst etn
  have hrt : fb.sig.returnType = some (.object "java/lang/Object") := by rw [qsig]; exact oz_ret1
  have hlk : fb.locks = false := by simp [Method.locks, Method.isSynchronized, qfl, oz_fl1, hasFlag, Acc.synchronized]
  obtain ⟨vv, T', U1, L1, c1, n1, X', hS', hgr, ⟨hQ, e1, e2⟩, hh', hv', st2⟩ := own_thru X1 (g := { g with stack := rest }) hg hsize hdg (mk := ⟨cK, 1⟩) (methk := fb) (ck := cy) #[.ref f, .ref v] (R' := { frames := rm.frames + 1, cells := rm.cells, slots := rm.slots, locals := 16 + rm.locals })
    (by show vm1.method? _ = _; rw [hal1.method?]; exact hmk) hcy hlk (State.plainMethod.of_name (fun k' hk' => by cases hk1.symm.trans hk'; rw [show k1.name = kK.name from by rw [ek1], hkn]; exact oz_pl)) (by show rm.frames + 1 + 1 ≤ R.frames; omega)
    (by show 2 * g.monitorRoom + (rest.map fun v => v.category).sum + (cy.maxLocals + 11) + (16 + rm.locals) ≤ R.locals; rw [hmx]; omega) hc hsl
    (Φ := fun vv U₁ L₁ c₁ n₁ => Q vv U₁.heap L₁ ∧ c₁ = rm.cells ∧ n₁ = rm.slots)
    (fun U₀ hU₀ Y₀ => by
      have hvm : U₀.vm = vm1 := by rw [hU₀]; rfl
      have hhp : U₀.heap = h := by rw [hU₀]; exact eT
      have hZU : Z.Warmed39 U₀.vm := by rw [hvm]; exact hZ1
      rw [hmx, Jvm.Free.Fw.entry2 _ _ (x := .ref v) rfl]
      have j1 : Steps p.tables e (.java { g with stack := rest } :: below) (U₀.setTop { method := ⟨cK, 1⟩, pc := 0, locals := #[.val (.ref f), .val (.ref v)], stack := [], locked := none }) (U₀.setTop { method := ⟨cK, 1⟩, pc := 1, locals := #[.val (.ref f), .val (.ref v)], stack := [.ref f], locked := none }) := by
        jvm_step Y₀.here [hx, hby, of1_0, Value.isRef]
        exact Steps.refl _
      have j2 := Y₀.getfieldR hx (g := { method := ⟨cK, 1⟩, pc := 1, locals := #[.val (.ref f), .val (.ref v)], stack := [.ref f], locked := none }) rfl (index := 18) (cF := cK) (a := f) (field := fl0) (cell := cell) (v := .ref cp) (rest := []) (by rw [hvm]; exact ⟨k1, 0, k1, hk1, hr1 18 _ (hres 18 _ (Lambda.resolvedOf_field oz_f1_0.1 oz_f1_0.2.1 oz_f1_0.2.2.1)), hk1, by rw [ek1]; exact hfld 0 _ hfl0⟩) hp0.1 rfl (by rw [hhp]; exact hcell) (by rw [hcvm]; intro q; cases q) (by rw [hp0.2, hcsl]; rfl) (by rw [hby]; exact of1_1) j1
      have j3 : Steps p.tables e (.java { g with stack := rest } :: below) (U₀.setTop { method := ⟨cK, 1⟩, pc := 0, locals := #[.val (.ref f), .val (.ref v)], stack := [], locked := none }) (U₀.setTop { method := ⟨cK, 1⟩, pc := 5, locals := #[.val (.ref f), .val (.ref v)], stack := [.ref f, .ref cp], locked := none }) := by
        refine j2.trans ?_
        show Steps p.tables e (.java { g with stack := rest } :: below) (U₀.setTop { method := ⟨cK, 1⟩, pc := 4, locals := #[.val (.ref f), .val (.ref v)], stack := [.ref cp], locked := none }) _
        jvm_step Y₀.here [hx, hby, of1_4, Value.isRef]
        exact Steps.refl _
      have j4 := Y₀.getfieldR hx (g := { method := ⟨cK, 1⟩, pc := 5, locals := #[.val (.ref f), .val (.ref v)], stack := [.ref f, .ref cp], locked := none }) rfl (index := 20) (cF := cK) (a := f) (field := fl1) (cell := cell) (v := .int sr) (rest := [.ref cp]) (by rw [hvm]; exact ⟨k1, 1, k1, hk1, hr1 20 _ (hres 20 _ (Lambda.resolvedOf_field oz_f1_1.1 oz_f1_1.2.1 oz_f1_1.2.2.1)), hk1, by rw [ek1]; exact hfld 1 _ hfl1⟩) hp1.1 rfl (by rw [hhp]; exact hcell) (by rw [hcvm]; intro q; cases q) (by rw [hp1.2, hcsl]; rfl) (by rw [hby]; exact of1_5) j3
      have j5 : Steps p.tables e (.java { g with stack := rest } :: below) (U₀.setTop { method := ⟨cK, 1⟩, pc := 0, locals := #[.val (.ref f), .val (.ref v)], stack := [], locked := none }) (U₀.setTop { method := ⟨cK, 1⟩, pc := 9, locals := #[.val (.ref f), .val (.ref v)], stack := [.ref f, .int sr, .ref cp], locked := none }) := by
        refine j4.trans ?_
        show Steps p.tables e (.java { g with stack := rest } :: below) (U₀.setTop { method := ⟨cK, 1⟩, pc := 8, locals := #[.val (.ref f), .val (.ref v)], stack := [.int sr, .ref cp], locked := none }) _
        jvm_step Y₀.here [hx, hby, of1_8, Value.isRef]
        exact Steps.refl _
      have j6 := Y₀.getfieldR hx (g := { method := ⟨cK, 1⟩, pc := 9, locals := #[.val (.ref f), .val (.ref v)], stack := [.ref f, .int sr, .ref cp], locked := none }) rfl (index := 22) (cF := cK) (a := f) (field := fl2) (cell := cell) (v := .int tr) (rest := [.int sr, .ref cp]) (by rw [hvm]; exact ⟨k1, 2, k1, hk1, hr1 22 _ (hres 22 _ (Lambda.resolvedOf_field oz_f1_2.1 oz_f1_2.2.1 oz_f1_2.2.2.1)), hk1, by rw [ek1]; exact hfld 2 _ hfl2⟩) hp2.1 rfl (by rw [hhp]; exact hcell) (by rw [hcvm]; intro q; cases q) (by rw [hp2.2, hcsl]; rfl) (by rw [hby]; exact of1_9) j5
      have j7 : Steps p.tables e (.java { g with stack := rest } :: below) (U₀.setTop { method := ⟨cK, 1⟩, pc := 0, locals := #[.val (.ref f), .val (.ref v)], stack := [], locked := none }) (U₀.setTop { method := ⟨cK, 1⟩, pc := 13, locals := #[.val (.ref f), .val (.ref v)], stack := [.ref v, .int tr, .int sr, .ref cp], locked := none }) := by
        refine j6.trans ?_
        show Steps p.tables e (.java { g with stack := rest } :: below) (U₀.setTop { method := ⟨cK, 1⟩, pc := 12, locals := #[.val (.ref f), .val (.ref v)], stack := [.int tr, .int sr, .ref cp], locked := none }) _
        jvm_step Y₀.here [hx, hby, of1_12, Value.isRef]
        exact Steps.refl _
      have j8 := Y₀.checkcastR hx (g := { method := ⟨cK, 1⟩, pc := 13, locals := #[.val (.ref f), .val (.ref v)], stack := [.ref v, .int tr, .int sr, .ref cp], locked := none }) rfl (index := 26) (cT := cT) (x := .ref v) (rest := [.int tr, .int sr, .ref cp]) (by rw [hvm]; exact ⟨k1, hk1, hr1 26 _ (hres 26 _ (Lambda.resolvedOf_class oz_k1.1 oz_k1.2.2 oz_k1.2.1 hfT))⟩) rfl (Or.inr ⟨v, cv, kv1, kT1, rfl, by rw [hhp]; exact hcv, (fun q hq => by have z := hbv.1; rw [hq] at z; cases z), by rw [hvm]; exact hkv1, by rw [hvm]; exact hkT1, by rw [hvm, hal1.assignable]; exact hbv.2⟩) (by rw [hby]; exact of1_13) j7
      have hnU : U₀.methodNamed? (⟨"com/example/vorgang/vorgang/model/CallPolicy", "lambda$dispatch$1", "(ZZLcom/example/vorgang/vorgang/model/ContextUse;)Ljava/util/Optional;"⟩ : MethodName) = some tgt := (State.methodNamed?_setVm (s := Z) hZU.alike (⟨"com/example/vorgang/vorgang/model/CallPolicy", "lambda$dispatch$1", "(ZZLcom/example/vorgang/vorgang/model/ContextUse;)Ljava/util/Optional;"⟩ : MethodName)).trans hnY
      have hfU : U₀.vm.findClass "com/example/vorgang/vorgang/model/CallPolicy" = some toy := by rw [hvm, hal1.findClass]; exact htoy
      have hkU : U₀.vm.classes[toy]? = some tk1 := by rw [hvm]; exact htk1
      have hiU : tk1.isInterface = false := hitf1.trans hitf
      have hin : (Jvm.Cond.instanceMethod (⟨"com/example/vorgang/vorgang/model/CallPolicy", "lambda$dispatch$1", "(ZZLcom/example/vorgang/vorgang/model/ContextUse;)Ljava/util/Optional;"⟩ : MethodName)).before #[] U₀ = true := mv hZU (ow hw 99 rfl)
      have hsel := selects_self_of_private (args := #[]) (y := (⟨"com/example/vorgang/vorgang/model/CallPolicy", "lambda$dispatch$1", "(ZZLcom/example/vorgang/vorgang/model/ContextUse;)Ljava/util/Optional;"⟩ : MethodName)) hfU hkU hiU (Cond.privateMethod_at (mvP hZU (ow hw 100 rfl) (args := #[]))) hin (by decide)
      have hA : Jvm.Free.Fw.VirtualAt e U₀ cK 32 (⟨"com/example/vorgang/vorgang/model/CallPolicy", "lambda$dispatch$1", "(ZZLcom/example/vorgang/vorgang/model/ContextUse;)Ljava/util/Optional;"⟩ : MethodName) toy 3 := Jvm.Free.Fw.VirtualAt.of_made X.admits (ci := 28) (nt := 31) (kK := k1) (tk := tk1) (file := file) (t := tgt) (bytes := prog_10_method_8_code) (maxL := 5) (ret := (some (.object "java/util/Optional"))) (by rw [hvm]; exact hk1) (by rw [ek1]; exact hfile) (by rw [hpool]; exact oz_m1.1) (by rw [hvm]; exact ⟨k1, hk1, hr1 32 _ (hres 32 _ (Lambda.resolvedOf_method oz_m1.1 oz_m1.2.1 htoy htk oz_m1.2.2 hlook'))⟩) (by rw [hvm]; exact ⟨k1, hk1, hr1 28 _ (hres 28 _ (Lambda.resolvedOf_class oz_c1.1 oz_c1.2.2 oz_c1.2.1 htoy))⟩) hfU hkU hiU hnU (by decide) (mv hZU (ow hw 101 rfl)) hin hsel pd_1 rfl
      have hK := backOfSH (l := l) (p := p) (e := e) (below := .java { g with stack := rest } :: below) (s := (T.setVm vm1).calling { g with stack := rest } ⟨cK, 1⟩ #[.ref f, .ref v]) (args := #[.ref f, .ref v]) (R := { frames := rm.frames + 1, cells := rm.cells, slots := rm.slots, locals := 16 + rm.locals }) (len := 3) (W := 0) hM hZ1 (ow hw 101 rfl) (ow hw 3 rfl) (Nat.le_refl _) (by show 0 + (5 + 11) + rm.locals ≤ 16 + rm.locals; omega) (own_EW hw) own_chv
      obtain ⟨w0, ⟨U₁, L₁, c₁, n₁⟩, Y₁, hS₁, hg₁, ⟨LL, hQ, el, ec, es, -⟩, jE⟩ := own_virtR (s := ((T.setVm vm1).calling { g with stack := rest } ⟨cK, 1⟩ #[.ref f, .ref v]).setVm vm1) Y₀ hx hA hK (g := { method := ⟨cK, 1⟩, pc := 16, locals := #[.val (.ref f), .val (.ref v)], stack := [.ref v, .int tr, .int sr, .ref cp], locked := none }) rfl (by rw [hmx]; rfl) (a := cp) (cell := cr) (by rw [hhp]; exact hcr) etoy.symm (fun q hq => by have z := hcrs; rw [hq] at z; cases z) (argsL := [.int sr, .int tr, .ref v]) (rest := []) rfl rfl (by show 2 * 0 + 0 ≤ 0; decide) ⟨rfl, hhp, by show 0 + rm.cells ≤ rm.cells; omega, by show 0 + rm.slots ≤ rm.slots; omega⟩ (by rw [hby]; exact of1_16)
      dsimp only [Pt.U, Pt.locs, Pt.cells, Pt.slots] at Y₁ hS₁ hg₁ hQ el ec es jE
      subst el ec es
      obtain ⟨w, rfl, hw1⟩ := hret _ _ _ hQ
      exact ⟨some w, U₁, _, _, _, Y₁, hS₁, (fun q => by rw [hrt] at q; cases q), ⟨hQ, Nat.zero_add _, Nat.zero_add _⟩, fun fs hleave => (j8.trans jE).trans (Y₁.areturnOut hx hw1 hrt rfl (by rw [hby]; exact of1_19) hleave)⟩)
  subst e1 e2
  refine ⟨vv, ⟨T', locs ++ L1, cells + rm.cells, slots + rm.slots⟩, X', hS', hgr, ⟨L1, ?_, rfl, rfl, rfl, own_chr (by rw [← eT]; exact hgr)⟩, st1.trans st2⟩
  show Q vv T'.heap L1
  rw [hh']; exact hQ

set_option maxHeartbeats 8000000 in
theorem own_app2 (X : Stand p l e R (s.setVm vm0) m args below meth c T locs cells slots) (hx : p.tables.exec = Jvm.exec) (hZ : Z.Warmed39 vm0) (hw : ∀ d ∈ tables_1, d.before a0 Z = true) {cK : ClassId} (L : Z.lambdaAt? ox2 47 66 oL2 = some (cK, none))
    {own : String} {index count : Nat} (hown : vm0.findClass own = some m.cls) (hlink : (Jvm.Cond.methodLink own index oxi).before a0 Z = true) (eT : T.heap = h) {f v : Addr} {u : Addr} (F : oLam h f cK [.ref u]) (Ev : Exa Z h v "com/example/vorgang/vorgang/model/ContextUse")
    {rm : Room} {Q : Option Value → Heap → List Loc → Prop} (hM : MetFree l (⟨"com/example/vorgang/vorgang/model/CallPolicy", "lambda$dispatch$0", "(Lcom/example/vorgang/vorgang/model/ContextUse;Lcom/example/vorgang/vorgang/model/ContextUse;)Lcom/example/vorgang/vorgang/model/CallContexts;"⟩ : MethodName) (head1 [Jvm.Cond.code (⟨"com/example/vorgang/vorgang/model/CallPolicy", "lambda$dispatch$0", "(Lcom/example/vorgang/vorgang/model/ContextUse;Lcom/example/vorgang/vorgang/model/ContextUse;)Lcom/example/vorgang/vorgang/model/CallContexts;"⟩ : MethodName) prog_10_method_9_code 2 (some (.object "com/example/vorgang/vorgang/model/CallContexts"))] rm) (fun a U => a = #[.ref u, .ref v] ∧ Z.Warmed39 U.vm ∧ U.heap = h ∧ CHv Z oEL U.vm h) (fun _ _ _ _ _ => True) (fun _ U o U' => ∃ vv LL, o = .returned vv ∧ Q vv U'.heap LL ∧ CHr Z oEL U.vm U.heap U'.vm U'.heap ∧ ReturnedEndW U o U' LL rm.cells rm.slots))
    (hret : ∀ vv hh LL, Q vv hh LL → ∃ w, vv = some w ∧ w.isRef = true) (hf : rm.frames + 2 ≤ R.frames) {W : Nat} (hl : W + 26 + rm.locals ≤ R.locals) {g : JFrame} (hg : g.method = m) (hsize : g.locals.size = c.maxLocals) {rest : List Value} (hstack : g.stack = .ref v :: .ref f :: rest) (hW : 2 * g.monitorRoom + (rest.map fun v => v.category).sum ≤ W)
    (hdg : decode c.code g.pc = .ok (.invokeinterface index count, 5)) (hc : cells + rm.cells ≤ R.cells) (hsl : slots + rm.slots ≤ R.slots) :
    ∃ (vv : Option Value) (B : Pt), Stand p l e R ((s.setVm vm0).setVm B.U.vm) m args below meth c B.U B.locs B.cells B.slots ∧ (s.setVm vm0).Since B.U.vm B.U.heap.size ∧ T.heap.size ≤ B.U.heap.size ∧ (∃ LL, Q vv B.U.heap LL ∧ B.locs = locs ++ LL ∧ B.cells = cells + rm.cells ∧ B.slots = slots + rm.slots ∧ CHr Z oEL vm0 h B.U.vm B.U.heap) ∧
      Steps p.tables e below (T.setTop g) (B.U.setTop { g with pc := g.pc + 5, stack := vv.toList ++ rest }) := by
  have hZ0 : Z.Warmed39 (s.setVm vm0).vm := hZ
  obtain ⟨kK, tk, file, fb, toy, tgt, hkK, hkn, hkind, hty, hfile, hpool, hmk, hsame, htoy, htk, hitf, hlook, hres, hfld⟩ := own_made L (ow hw 81 rfl) oz_file2 oz_lay2 oz_ms2 oz_fw2
  obtain ⟨-, -, qsig, qfl, cx, cy, hcx, hcy, -, hml, hbytes, -⟩ := Lambda.sameMethod_spec hsame
  have hcc := oz_code2
  rw [hcx] at hcc
  simp only [Option.map_some, Option.some.injEq, Prod.mk.injEq] at hcc
  have hby : cy.code = oF2 := by rw [hbytes]; exact ByteArray.ext hcc.1
  have hmx : cy.maxLocals = 2 := by rw [hml]; exact hcc.2
  have hfn : Jvm.Free.HMW.FnX oxi cK ⟨cK, 1⟩ (s.setVm vm0) := own_fnx (Z := Z) hZ.alike (Jvm.Free.Fn.of_lambdaAt (xi := oxi) L rfl rfl (by decide +kernel) (ow hw 97 rfl) oz_file2 oz_ms2 oz_fw2 oz_fl2).1
  obtain ⟨cell, hcell, hccl, hcvm, hcsl⟩ := F
  obtain ⟨vm1, X1, st1⟩ := own_face X hx hown (mvT hZ0 hlink) (mvT hZ0 (ow hw 96 rfl)) (mvT hZ0 (ow hw 97 rfl)) (by decide) hfn (b := f) ⟨cell, by rw [eT]; exact hcell, hccl, by rw [hcvm]; rfl⟩ hg (argsL := [.ref v]) (rest := rest) (lenOf pd_0 rfl) (by rw [hstack]; rfl) hdg
  have hZ1 : Z.Warmed39 vm1 := wtrans (s := s.setVm vm0) (U := T.setVm vm1) hZ0 X1.warmed
  have hal1 := hZ1.alike
  obtain ⟨k1, hk1, ek1, hr1⟩ := own_res hZ1 hkK
  obtain ⟨tk1, htk1, etk1⟩ := hal1.2.2 _ _ htk
  have hitf1 : tk1.isInterface = tk.isInterface := by rw [etk1]; rfl
  have hlook' := hlook
  rw [oz_d2] at hlook'
  obtain ⟨fl0, hfl0, hp0⟩ := Option.map_eq_some_iff.mp oz_f2_0.2.2.2
  simp only [Prod.mk.injEq] at hp0
  obtain ⟨cv, cT, hcv, hfT, hbv⟩ := Ins.self Ev
  simp only [Bool.and_eq_true, Bool.not_eq_true'] at hbv
  obtain ⟨cv', kv, hcv', -, hkv, -, -⟩ := Ev
  cases hcv.symm.trans hcv'
  obtain ⟨kT, hkT, -⟩ := Vm.findClass_spec hfT
  obtain ⟨kv1, hkv1, -⟩ := hal1.2.2 _ _ hkv
  obtain ⟨kT1, hkT1, -⟩ := hal1.2.2 _ _ hkT
  have hrt : fb.sig.returnType = some (.object "java/lang/Object") := by rw [qsig]; exact oz_ret2
  have hlk : fb.locks = false := by simp [Method.locks, Method.isSynchronized, qfl, oz_fl2, hasFlag, Acc.synchronized]
  obtain ⟨vv, T', U1, L1, c1, n1, X', hS', hgr, ⟨hQ, e1, e2⟩, hh', hv', st2⟩ := own_thru X1 (g := { g with stack := rest }) hg hsize hdg (mk := ⟨cK, 1⟩) (methk := fb) (ck := cy) #[.ref f, .ref v] (R' := { frames := rm.frames + 1, cells := rm.cells, slots := rm.slots, locals := 13 + rm.locals })
    (by show vm1.method? _ = _; rw [hal1.method?]; exact hmk) hcy hlk (State.plainMethod.of_name (fun k' hk' => by cases hk1.symm.trans hk'; rw [show k1.name = kK.name from by rw [ek1], hkn]; exact oz_pl)) (by show rm.frames + 1 + 1 ≤ R.frames; omega)
    (by show 2 * g.monitorRoom + (rest.map fun v => v.category).sum + (cy.maxLocals + 11) + (13 + rm.locals) ≤ R.locals; rw [hmx]; omega) hc hsl
    (Φ := fun vv U₁ L₁ c₁ n₁ => Q vv U₁.heap L₁ ∧ c₁ = rm.cells ∧ n₁ = rm.slots)
    (fun U₀ hU₀ Y₀ => by
      have hvm : U₀.vm = vm1 := by rw [hU₀]; rfl
      have hhp : U₀.heap = h := by rw [hU₀]; exact eT
      have hZU : Z.Warmed39 U₀.vm := by rw [hvm]; exact hZ1
      rw [hmx, Jvm.Free.Fw.entry2 _ _ (x := .ref v) rfl]
      have j1 : Steps p.tables e (.java { g with stack := rest } :: below) (U₀.setTop { method := ⟨cK, 1⟩, pc := 0, locals := #[.val (.ref f), .val (.ref v)], stack := [], locked := none }) (U₀.setTop { method := ⟨cK, 1⟩, pc := 1, locals := #[.val (.ref f), .val (.ref v)], stack := [.ref f], locked := none }) := by
        jvm_step Y₀.here [hx, hby, of2_0, Value.isRef]
        exact Steps.refl _
      have j2 := Y₀.getfieldR hx (g := { method := ⟨cK, 1⟩, pc := 1, locals := #[.val (.ref f), .val (.ref v)], stack := [.ref f], locked := none }) rfl (index := 15) (cF := cK) (a := f) (field := fl0) (cell := cell) (v := .ref u) (rest := []) (by rw [hvm]; exact ⟨k1, 0, k1, hk1, hr1 15 _ (hres 15 _ (Lambda.resolvedOf_field oz_f2_0.1 oz_f2_0.2.1 oz_f2_0.2.2.1)), hk1, by rw [ek1]; exact hfld 0 _ hfl0⟩) hp0.1 rfl (by rw [hhp]; exact hcell) (by rw [hcvm]; intro q; cases q) (by rw [hp0.2, hcsl]; rfl) (by rw [hby]; exact of2_1) j1
      have j3 : Steps p.tables e (.java { g with stack := rest } :: below) (U₀.setTop { method := ⟨cK, 1⟩, pc := 0, locals := #[.val (.ref f), .val (.ref v)], stack := [], locked := none }) (U₀.setTop { method := ⟨cK, 1⟩, pc := 5, locals := #[.val (.ref f), .val (.ref v)], stack := [.ref v, .ref u], locked := none }) := by
        refine j2.trans ?_
        show Steps p.tables e (.java { g with stack := rest } :: below) (U₀.setTop { method := ⟨cK, 1⟩, pc := 4, locals := #[.val (.ref f), .val (.ref v)], stack := [.ref u], locked := none }) _
        jvm_step Y₀.here [hx, hby, of2_4, Value.isRef]
        exact Steps.refl _
      have j4 := Y₀.checkcastR hx (g := { method := ⟨cK, 1⟩, pc := 5, locals := #[.val (.ref f), .val (.ref v)], stack := [.ref v, .ref u], locked := none }) rfl (index := 19) (cT := cT) (x := .ref v) (rest := [.ref u]) (by rw [hvm]; exact ⟨k1, hk1, hr1 19 _ (hres 19 _ (Lambda.resolvedOf_class oz_k2.1 oz_k2.2.2 oz_k2.2.1 hfT))⟩) rfl (Or.inr ⟨v, cv, kv1, kT1, rfl, by rw [hhp]; exact hcv, (fun q hq => by have z := hbv.1; rw [hq] at z; cases z), by rw [hvm]; exact hkv1, by rw [hvm]; exact hkT1, by rw [hvm, hal1.assignable]; exact hbv.2⟩) (by rw [hby]; exact of2_5) j3
      have hA : Jvm.Free.Fw.StaticAt e U₀ cK 25 (⟨"com/example/vorgang/vorgang/model/CallPolicy", "lambda$dispatch$0", "(Lcom/example/vorgang/vorgang/model/ContextUse;Lcom/example/vorgang/vorgang/model/ContextUse;)Lcom/example/vorgang/vorgang/model/CallContexts;"⟩ : MethodName) 2 := Jvm.Free.Fw.StaticAt.of_made (ci := 21) (nt := 24) (kK := k1) (tk := tk1) (file := file) (toy := toy) (t := tgt) (bytes := prog_10_method_9_code) (maxL := 2) (ret := (some (.object "com/example/vorgang/vorgang/model/CallContexts"))) (by rw [hvm]; exact hk1) (by rw [ek1]; exact hfile) (by rw [hpool]; exact oz_m2.1) (by rw [hpool]; exact oz_m2.2.2) (by rw [hvm]; exact ⟨k1, hk1, hr1 25 _ (hres 25 _ (Lambda.resolvedOf_method oz_m2.1 oz_m2.2.1 htoy htk oz_m2.2.2 hlook'))⟩) (by rw [hvm]; exact ⟨k1, hk1, hr1 21 _ (hres 21 _ (Lambda.resolvedOf_class oz_c2.1 oz_c2.2.2 oz_c2.2.1 htoy))⟩) (by rw [hvm, hal1.findClass]; exact htoy) (by rw [hvm]; exact htk1) (by rw [hvm, Lambda.methodIn_ask_alike hal1, hitf1]; exact hlook') (by decide) (mv hZU (ow hw 114 rfl)) (mv hZU (ow hw 113 rfl)) (mv hZU (ow hw 3 rfl)) pd_2 rfl
      have hK := backOfSH (l := l) (p := p) (e := e) (below := .java { g with stack := rest } :: below) (s := (T.setVm vm1).calling { g with stack := rest } ⟨cK, 1⟩ #[.ref f, .ref v]) (args := #[.ref f, .ref v]) (R := { frames := rm.frames + 1, cells := rm.cells, slots := rm.slots, locals := 13 + rm.locals }) (len := 3) (W := 0) hM hZ1 (ow hw 114 rfl) (ow hw 3 rfl) (Nat.le_refl _) (by show 0 + (2 + 11) + rm.locals ≤ 13 + rm.locals; omega) (own_EW hw) own_chv
      obtain ⟨w0, ⟨U₁, L₁, c₁, n₁⟩, Y₁, hS₁, hg₁, ⟨LL, hQ, el, ec, es, -⟩, jE⟩ := own_statR (s := ((T.setVm vm1).calling { g with stack := rest } ⟨cK, 1⟩ #[.ref f, .ref v]).setVm vm1) Y₀ hx hA hK (g := { method := ⟨cK, 1⟩, pc := 8, locals := #[.val (.ref f), .val (.ref v)], stack := [.ref v, .ref u], locked := none }) rfl (by rw [hmx]; rfl) (argsL := [.ref u, .ref v]) (rest := []) rfl rfl (by show 2 * 0 + 0 ≤ 0; decide) ⟨rfl, hhp, by show 0 + rm.cells ≤ rm.cells; omega, by show 0 + rm.slots ≤ rm.slots; omega⟩ (by rw [hby]; exact of2_8)
      dsimp only [Pt.U, Pt.locs, Pt.cells, Pt.slots] at Y₁ hS₁ hg₁ hQ el ec es jE
      subst el ec es
      obtain ⟨w, rfl, hw1⟩ := hret _ _ _ hQ
      exact ⟨some w, U₁, _, _, _, Y₁, hS₁, (fun q => by rw [hrt] at q; cases q), ⟨hQ, Nat.zero_add _, Nat.zero_add _⟩, fun fs hleave => (j4.trans jE).trans (Y₁.areturnOut hx hw1 hrt rfl (by rw [hby]; exact of2_11) hleave)⟩)
  subst e1 e2
  refine ⟨vv, ⟨T', locs ++ L1, cells + rm.cells, slots + rm.slots⟩, X', hS', hgr, ⟨L1, ?_, rfl, rfl, rfl, own_chr (by rw [← eT]; exact hgr)⟩, st1.trans st2⟩
  show Q vv T'.heap L1
  rw [hh']; exact hQ

end LamCall

def St0 (Z : State) (wA wD wG wU wV wN wB wC wF wE wO : Addr) (k_1 k_2 : ClassId) : Prop := Sta Z Z.heap "com/example/vorgang/vorgang/model/Policy" "Required" "Lcom/example/vorgang/vorgang/model/Policy;" (.ref wA) ∧ Exa Z Z.heap wA "com/example/vorgang/vorgang/model/Policy" ∧ Sta Z Z.heap "com/example/vorgang/vorgang/model/Policy" "NotSupported" "Lcom/example/vorgang/vorgang/model/Policy;" (.ref wD) ∧ Exa Z Z.heap wD "com/example/vorgang/vorgang/model/Policy" ∧ Sta Z Z.heap "com/example/vorgang/vorgang/model/Policy" "BeanManaged" "Lcom/example/vorgang/vorgang/model/Policy;" (.ref wG) ∧ Exa Z Z.heap wG "com/example/vorgang/vorgang/model/Policy" ∧ Sta Z Z.heap "com/example/vorgang/vorgang/model/ContextUse" "NEW" "Lcom/example/vorgang/vorgang/model/ContextUse;" (.ref wU) ∧ Exa Z Z.heap wU "com/example/vorgang/vorgang/model/ContextUse" ∧ Sta Z Z.heap "com/example/vorgang/vorgang/model/ContextUse" "RECEIVED" "Lcom/example/vorgang/vorgang/model/ContextUse;" (.ref wV) ∧ Exa Z Z.heap wV "com/example/vorgang/vorgang/model/ContextUse" ∧ Sta Z Z.heap "com/example/vorgang/vorgang/model/ContextUse" "NONE" "Lcom/example/vorgang/vorgang/model/ContextUse;" (.ref wN) ∧ Exa Z Z.heap wN "com/example/vorgang/vorgang/model/ContextUse" ∧ Sta Z Z.heap "com/example/vorgang/vorgang/model/Policy" "RequiresNew" "Lcom/example/vorgang/vorgang/model/Policy;" (.ref wB) ∧ Exa Z Z.heap wB "com/example/vorgang/vorgang/model/Policy" ∧ Sta Z Z.heap "com/example/vorgang/vorgang/model/Policy" "Supports" "Lcom/example/vorgang/vorgang/model/Policy;" (.ref wC) ∧ Exa Z Z.heap wC "com/example/vorgang/vorgang/model/Policy" ∧ Sta Z Z.heap "com/example/vorgang/vorgang/model/Policy" "Never" "Lcom/example/vorgang/vorgang/model/Policy;" (.ref wF) ∧ Exa Z Z.heap wF "com/example/vorgang/vorgang/model/Policy" ∧ Sta Z Z.heap "com/example/vorgang/vorgang/model/Policy" "Mandatory" "Lcom/example/vorgang/vorgang/model/Policy;" (.ref wE) ∧ Exa Z Z.heap wE "com/example/vorgang/vorgang/model/Policy" ∧ Sta Z Z.heap "java/util/Optional" "EMPTY" "Ljava/util/Optional;" (.ref wO) ∧ Exa Z Z.heap wO "java/util/Optional" ∧ Fld Z Z.heap wA "java/lang/Enum" "ordinal" "I" (.int (0 : Int32)) ∧ Fld Z Z.heap wG "java/lang/Enum" "ordinal" "I" (.int (6 : Int32)) ∧ Fld Z Z.heap wD "java/lang/Enum" "ordinal" "I" (.int (3 : Int32)) ∧ Fld Z Z.heap wU "java/lang/Enum" "ordinal" "I" (.int (2 : Int32)) ∧ Fld Z Z.heap wV "java/lang/Enum" "ordinal" "I" (.int (1 : Int32)) ∧ Fld Z Z.heap wN "java/lang/Enum" "ordinal" "I" (.int (0 : Int32)) ∧ Fld Z Z.heap wB "java/lang/Enum" "ordinal" "I" (.int (1 : Int32)) ∧ Fld Z Z.heap wC "java/lang/Enum" "ordinal" "I" (.int (2 : Int32)) ∧ Fld Z Z.heap wF "java/lang/Enum" "ordinal" "I" (.int (5 : Int32)) ∧ Fld Z Z.heap wE "java/lang/Enum" "ordinal" "I" (.int (4 : Int32)) ∧ Fld Z Z.heap wO "java/util/Optional" "value" "Ljava/lang/Object;" .null ∧ Z.lambdaAt? ox1 11 48 oL1 = some (k_1, none) ∧ Z.lambdaAt? ox2 47 66 oL2 = some (k_2, none) ∧ wA ≠ wG ∧ wA ≠ wD ∧ wA ≠ wB ∧ wA ≠ wC ∧ wA ≠ wF ∧ wA ≠ wE ∧ wG ≠ wD ∧ wG ≠ wB ∧ wG ≠ wC ∧ wG ≠ wF ∧ wG ≠ wE ∧ wD ≠ wB ∧ wD ≠ wC ∧ wD ≠ wF ∧ wD ≠ wE ∧ wU ≠ wV ∧ wU ≠ wN ∧ wV ≠ wN ∧ wB ≠ wC ∧ wB ≠ wF ∧ wB ≠ wE ∧ wC ≠ wF ∧ wC ≠ wE ∧ wF ≠ wE

abbrev oK6 (k : Int32) : Prop := k = (0 : Int32) ∨ k = (1 : Int32) ∨ k = (2 : Int32) ∨ k = (3 : Int32) ∨ k = (4 : Int32) ∨ k = (5 : Int32)
abbrev oK7 (k : Int32) : Prop := k = (0 : Int32) ∨ k = (1 : Int32) ∨ k = (2 : Int32) ∨ k = (3 : Int32) ∨ k = (4 : Int32) ∨ k = (5 : Int32) ∨ k = (6 : Int32)
abbrev oBo (b : Int32) : Prop := b = (0 : Int32) ∨ b = (1 : Int32)
abbrev oKT (k t : Int32) : Prop := (k = (6 : Int32) ∧ t = (6 : Int32)) ∨ (oK6 k ∧ oK6 t)
def oPol (wA wB wC wD wE wF wG : Addr) (k : Int32) (a : Addr) : Prop := (k = (0 : Int32) ∧ wA = a) ∨ (k = (1 : Int32) ∧ wB = a) ∨ (k = (2 : Int32) ∧ wC = a) ∨ (k = (3 : Int32) ∧ wD = a) ∨ (k = (4 : Int32) ∧ wE = a) ∨ (k = (5 : Int32) ∧ wF = a) ∨ (k = (6 : Int32) ∧ wG = a)
def oUse (wN wV wU : Addr) (z : Int32) (u : Addr) : Prop := (z = (0 : Int32) ∧ wN = u) ∨ (z = (1 : Int32) ∧ wV = u) ∨ (z = (2 : Int32) ∧ wU = u)
def oRu (k b : Int32) : Int32 := if k = 0 then (if b = 0 then 2 else 1) else if k = 1 then 2 else if k = 2 then (if b = 0 then 0 else 1) else if k = 3 then 0 else if k = 4 then (if b = 0 then -1 else 1) else if k = 5 then (if b = 0 then 0 else -1) else 0
def oSm (z b : Int32) : Int32 := if z = 1 then 1 else if z = 0 then (if b = 0 then 1 else 0) else 0
def oAn (t z : Int32) : Int32 := if t = 0 then 0 else if z = 0 then 0 else 1
theorem own_smA {z b : Int32} (h : z = 1) : oSm z b = 1 := by simp [oSm, h]
theorem own_smB {z b : Int32} (h1 : ¬ z = 1) (h2 : ¬ z = 0) : oSm z b = 0 := by simp [oSm, h1, h2]
theorem own_smC {z b : Int32} (h2 : z = 0) (h3 : ¬ b = 0) : oSm z b = 0 := by subst h2; simp [oSm, h3]
theorem own_smD {z b : Int32} (h2 : z = 0) (h3 : b = 0) : oSm z b = 1 := by subst h2; subst h3; decide
theorem own_anA {t z : Int32} (h : t = 0) : oAn t z = 0 := by simp [oAn, h]
theorem own_anB {t z : Int32} (h : z = 0) : oAn t z = 0 := by simp [oAn, h]
theorem own_anC {t z : Int32} (h1 : ¬ t = 0) (h2 : ¬ z = 0) : oAn t z = 1 := by simp [oAn, h1, h2]
theorem own_anO (t z : Int32) : oBo (oAn t z) := by
  by_cases h1 : t = 0
  · exact Or.inl (own_anA h1)
  · by_cases h2 : z = 0
    · exact Or.inl (own_anB h2)
    · exact Or.inr (own_anC h1 h2)
theorem own_76 {k : Int32} (h : oK7 k) (n : ¬ k = (6 : Int32)) : oK6 k := by
  rcases h with h | h | h | h | h | h | h
  · exact Or.inl h
  · exact Or.inr (Or.inl h)
  · exact Or.inr (Or.inr (Or.inl h))
  · exact Or.inr (Or.inr (Or.inr (Or.inl h)))
  · exact Or.inr (Or.inr (Or.inr (Or.inr (Or.inl h))))
  · exact Or.inr (Or.inr (Or.inr (Or.inr (Or.inr h))))
  · exact absurd h n
theorem own_67 {k : Int32} (h : oK6 k) : oK7 k := by
  rcases h with h | h | h | h | h | h
  · exact Or.inl h
  · exact Or.inr (Or.inl h)
  · exact Or.inr (Or.inr (Or.inl h))
  · exact Or.inr (Or.inr (Or.inr (Or.inl h)))
  · exact Or.inr (Or.inr (Or.inr (Or.inr (Or.inl h))))
  · exact Or.inr (Or.inr (Or.inr (Or.inr (Or.inr (Or.inl h)))))

theorem own_k7 (p : Int32) : ∃ k : Int32, ((p &&& (2147483647 : Int32)) % (7 : Int32)) = k ∧ oK7 k := by
  refine ⟨_, rfl, ?_⟩
  have h1 := c_mask p (2147483647 : Int32) 31 (by decide) (by decide)
  have h2 := (c_irem (p &&& (2147483647 : Int32)) (7 : Int32) 7 (by decide)).1 (by omega)
  generalize (p &&& (2147483647 : Int32)) % (7 : Int32) = k at *
  have h3 : k.toInt = 0 ∨ k.toInt = 1 ∨ k.toInt = 2 ∨ k.toInt = 3 ∨ k.toInt = 4 ∨ k.toInt = 5 ∨ k.toInt = 6 := by omega
  rcases h3 with h | h | h | h | h | h | h
  · exact Or.inl (Int32.toInt_inj.mp (h.trans (by decide)))
  · exact Or.inr (Or.inl (Int32.toInt_inj.mp (h.trans (by decide))))
  · exact Or.inr (Or.inr (Or.inl (Int32.toInt_inj.mp (h.trans (by decide)))))
  · exact Or.inr (Or.inr (Or.inr (Or.inl (Int32.toInt_inj.mp (h.trans (by decide))))))
  · exact Or.inr (Or.inr (Or.inr (Or.inr (Or.inl (Int32.toInt_inj.mp (h.trans (by decide)))))))
  · exact Or.inr (Or.inr (Or.inr (Or.inr (Or.inr (Or.inl (Int32.toInt_inj.mp (h.trans (by decide))))))))
  · exact Or.inr (Or.inr (Or.inr (Or.inr (Or.inr (Or.inr ((Int32.toInt_inj.mp (h.trans (by decide)))))))))

theorem own_k6 (p : Int32) : ∃ k : Int32, ((p &&& (2147483647 : Int32)) % (6 : Int32)) = k ∧ oK6 k := by
  refine ⟨_, rfl, ?_⟩
  have h1 := c_mask p (2147483647 : Int32) 31 (by decide) (by decide)
  have h2 := (c_irem (p &&& (2147483647 : Int32)) (6 : Int32) 6 (by decide)).1 (by omega)
  generalize (p &&& (2147483647 : Int32)) % (6 : Int32) = k at *
  have h3 : k.toInt = 0 ∨ k.toInt = 1 ∨ k.toInt = 2 ∨ k.toInt = 3 ∨ k.toInt = 4 ∨ k.toInt = 5 := by omega
  rcases h3 with h | h | h | h | h | h
  · exact Or.inl (Int32.toInt_inj.mp (h.trans (by decide)))
  · exact Or.inr (Or.inl (Int32.toInt_inj.mp (h.trans (by decide))))
  · exact Or.inr (Or.inr (Or.inl (Int32.toInt_inj.mp (h.trans (by decide)))))
  · exact Or.inr (Or.inr (Or.inr (Or.inl (Int32.toInt_inj.mp (h.trans (by decide))))))
  · exact Or.inr (Or.inr (Or.inr (Or.inr (Or.inl (Int32.toInt_inj.mp (h.trans (by decide)))))))
  · exact Or.inr (Or.inr (Or.inr (Or.inr (Or.inr ((Int32.toInt_inj.mp (h.trans (by decide))))))))

theorem own_pol {wA wB wC wD wE wF wG : Addr} {k : Int32} (h : oK7 k) : ∃ a, oPol wA wB wC wD wE wF wG k a := by
  rcases h with h | h | h | h | h | h | h
  · exact ⟨_, Or.inl ⟨h, rfl⟩⟩
  · exact ⟨_, Or.inr (Or.inl ⟨h, rfl⟩)⟩
  · exact ⟨_, Or.inr (Or.inr (Or.inl ⟨h, rfl⟩))⟩
  · exact ⟨_, Or.inr (Or.inr (Or.inr (Or.inl ⟨h, rfl⟩)))⟩
  · exact ⟨_, Or.inr (Or.inr (Or.inr (Or.inr (Or.inl ⟨h, rfl⟩))))⟩
  · exact ⟨_, Or.inr (Or.inr (Or.inr (Or.inr (Or.inr (Or.inl ⟨h, rfl⟩)))))⟩
  · exact ⟨_, Or.inr (Or.inr (Or.inr (Or.inr (Or.inr (Or.inr (⟨h, rfl⟩))))))⟩
theorem own_pe {Z : State} {wA wD wG wU wV wN wB wC wF wE wO : Addr} {k_1 k_2 : ClassId} (hS : St0 Z wA wD wG wU wV wN wB wC wF wE wO k_1 k_2) {k : Int32} {a : Addr} (h : oPol wA wB wC wD wE wF wG k a) : Exa Z Z.heap a "com/example/vorgang/vorgang/model/Policy" := by
  obtain ⟨S_wA, E_wA, S_wD, E_wD, S_wG, E_wG, S_wU, E_wU, S_wV, E_wV, S_wN, E_wN, S_wB, E_wB, S_wC, E_wC, S_wF, E_wF, S_wE, E_wE, S_wO, E_wO, F_wA_ordinal, F_wG_ordinal, F_wD_ordinal, F_wU_ordinal, F_wV_ordinal, F_wN_ordinal, F_wB_ordinal, F_wC_ordinal, F_wF_ordinal, F_wE_ordinal, F_wO_value, L_1, L_2, ne_wA_wG, ne_wA_wD, ne_wA_wB, ne_wA_wC, ne_wA_wF, ne_wA_wE, ne_wG_wD, ne_wG_wB, ne_wG_wC, ne_wG_wF, ne_wG_wE, ne_wD_wB, ne_wD_wC, ne_wD_wF, ne_wD_wE, ne_wU_wV, ne_wU_wN, ne_wV_wN, ne_wB_wC, ne_wB_wF, ne_wB_wE, ne_wC_wF, ne_wC_wE, ne_wF_wE⟩ := hS
  rcases h with ⟨-, e2⟩ | ⟨-, e2⟩ | ⟨-, e2⟩ | ⟨-, e2⟩ | ⟨-, e2⟩ | ⟨-, e2⟩ | ⟨-, e2⟩
  · subst e2; exact E_wA
  · subst e2; exact E_wB
  · subst e2; exact E_wC
  · subst e2; exact E_wD
  · subst e2; exact E_wE
  · subst e2; exact E_wF
  · subst e2; exact E_wG
theorem own_ue {Z : State} {wA wD wG wU wV wN wB wC wF wE wO : Addr} {k_1 k_2 : ClassId} (hS : St0 Z wA wD wG wU wV wN wB wC wF wE wO k_1 k_2) {z : Int32} {u : Addr} (h : oUse wN wV wU z u) : Exa Z Z.heap u "com/example/vorgang/vorgang/model/ContextUse" := by
  obtain ⟨S_wA, E_wA, S_wD, E_wD, S_wG, E_wG, S_wU, E_wU, S_wV, E_wV, S_wN, E_wN, S_wB, E_wB, S_wC, E_wC, S_wF, E_wF, S_wE, E_wE, S_wO, E_wO, F_wA_ordinal, F_wG_ordinal, F_wD_ordinal, F_wU_ordinal, F_wV_ordinal, F_wN_ordinal, F_wB_ordinal, F_wC_ordinal, F_wF_ordinal, F_wE_ordinal, F_wO_value, L_1, L_2, ne_wA_wG, ne_wA_wD, ne_wA_wB, ne_wA_wC, ne_wA_wF, ne_wA_wE, ne_wG_wD, ne_wG_wB, ne_wG_wC, ne_wG_wF, ne_wG_wE, ne_wD_wB, ne_wD_wC, ne_wD_wF, ne_wD_wE, ne_wU_wV, ne_wU_wN, ne_wV_wN, ne_wB_wC, ne_wB_wF, ne_wB_wE, ne_wC_wF, ne_wC_wE, ne_wF_wE⟩ := hS
  rcases h with ⟨-, e2⟩ | ⟨-, e2⟩ | ⟨-, e2⟩
  · subst e2; exact E_wN
  · subst e2; exact E_wV
  · subst e2; exact E_wU
theorem own_uo {Z : State} {wA wD wG wU wV wN wB wC wF wE wO : Addr} {k_1 k_2 : ClassId} (hS : St0 Z wA wD wG wU wV wN wB wC wF wE wO k_1 k_2) {z : Int32} {u : Addr} (h : oUse wN wV wU z u) : Fld Z Z.heap u "java/lang/Enum" "ordinal" "I" (.int z) := by
  obtain ⟨S_wA, E_wA, S_wD, E_wD, S_wG, E_wG, S_wU, E_wU, S_wV, E_wV, S_wN, E_wN, S_wB, E_wB, S_wC, E_wC, S_wF, E_wF, S_wE, E_wE, S_wO, E_wO, F_wA_ordinal, F_wG_ordinal, F_wD_ordinal, F_wU_ordinal, F_wV_ordinal, F_wN_ordinal, F_wB_ordinal, F_wC_ordinal, F_wF_ordinal, F_wE_ordinal, F_wO_value, L_1, L_2, ne_wA_wG, ne_wA_wD, ne_wA_wB, ne_wA_wC, ne_wA_wF, ne_wA_wE, ne_wG_wD, ne_wG_wB, ne_wG_wC, ne_wG_wF, ne_wG_wE, ne_wD_wB, ne_wD_wC, ne_wD_wF, ne_wD_wE, ne_wU_wV, ne_wU_wN, ne_wV_wN, ne_wB_wC, ne_wB_wF, ne_wB_wE, ne_wC_wF, ne_wC_wE, ne_wF_wE⟩ := hS
  rcases h with ⟨e1, e2⟩ | ⟨e1, e2⟩ | ⟨e1, e2⟩
  · subst e1; subst e2; exact F_wN_ordinal
  · subst e1; subst e2; exact F_wV_ordinal
  · subst e1; subst e2; exact F_wU_ordinal
theorem own_bm {Z : State} {wA wD wG wU wV wN wB wC wF wE wO : Addr} {k_1 k_2 : ClassId} (hS : St0 Z wA wD wG wU wV wN wB wC wF wE wO k_1 k_2) {k t : Int32} {a b : Addr} (h1 : oPol wA wB wC wD wE wF wG k a) (h2 : oPol wA wB wC wD wE wF wG t b) (h : oKT k t) : (wG = a ∧ wG = b) ∨ (a ≠ wG ∧ b ≠ wG) := by
  obtain ⟨S_wA, E_wA, S_wD, E_wD, S_wG, E_wG, S_wU, E_wU, S_wV, E_wV, S_wN, E_wN, S_wB, E_wB, S_wC, E_wC, S_wF, E_wF, S_wE, E_wE, S_wO, E_wO, F_wA_ordinal, F_wG_ordinal, F_wD_ordinal, F_wU_ordinal, F_wV_ordinal, F_wN_ordinal, F_wB_ordinal, F_wC_ordinal, F_wF_ordinal, F_wE_ordinal, F_wO_value, L_1, L_2, ne_wA_wG, ne_wA_wD, ne_wA_wB, ne_wA_wC, ne_wA_wF, ne_wA_wE, ne_wG_wD, ne_wG_wB, ne_wG_wC, ne_wG_wF, ne_wG_wE, ne_wD_wB, ne_wD_wC, ne_wD_wF, ne_wD_wE, ne_wU_wV, ne_wU_wN, ne_wV_wN, ne_wB_wC, ne_wB_wF, ne_wB_wE, ne_wC_wF, ne_wC_wE, ne_wF_wE⟩ := hS
  have n6 : ∀ {k : Int32} {a : Addr}, oPol wA wB wC wD wE wF wG k a → oK6 k → a ≠ wG := by
    intro k a h1 h2
    rcases h1 with ⟨e1, e2⟩ | ⟨e1, e2⟩ | ⟨e1, e2⟩ | ⟨e1, e2⟩ | ⟨e1, e2⟩ | ⟨e1, e2⟩ | ⟨e1, e2⟩
    · subst e2; exact ne_wA_wG
    · subst e2; exact (Ne.symm ne_wG_wB)
    · subst e2; exact (Ne.symm ne_wG_wC)
    · subst e2; exact (Ne.symm ne_wG_wD)
    · subst e2; exact (Ne.symm ne_wG_wE)
    · subst e2; exact (Ne.symm ne_wG_wF)
    · rw [e1] at h2; exact absurd h2 (by decide)
  have e6 : ∀ {k : Int32} {a : Addr}, oPol wA wB wC wD wE wF wG k a → k = (6 : Int32) → wG = a := by
    intro k a h1 h2
    rcases h1 with ⟨e1, e2⟩ | ⟨e1, e2⟩ | ⟨e1, e2⟩ | ⟨e1, e2⟩ | ⟨e1, e2⟩ | ⟨e1, e2⟩ | ⟨e1, e2⟩
    · rw [h2] at e1; exact absurd e1 (by decide)
    · rw [h2] at e1; exact absurd e1 (by decide)
    · rw [h2] at e1; exact absurd e1 (by decide)
    · rw [h2] at e1; exact absurd e1 (by decide)
    · rw [h2] at e1; exact absurd e1 (by decide)
    · rw [h2] at e1; exact absurd e1 (by decide)
    · exact e2
  rcases h with ⟨h3, h4⟩ | ⟨h3, h4⟩
  · exact Or.inl ⟨e6 h1 h3, e6 h2 h4⟩
  · exact Or.inr ⟨n6 h1 h3, n6 h2 h4⟩
theorem own_use {wN wV wU : Addr} {k b z : Int32} (hk : oK7 k) (hb : oBo b) (hz : oRu k b = z) (hn : ¬ z < (0 : Int32)) : ∃ u, oUse wN wV wU z u := by
  have h3 : z = 0 ∨ z = 1 ∨ z = 2 := by
    subst hz
    revert hn
    rcases hk with rfl | rfl | rfl | rfl | rfl | rfl | rfl <;> rcases hb with rfl | rfl <;> decide
  rcases h3 with h3 | h3 | h3
  · exact ⟨_, Or.inl ⟨h3, rfl⟩⟩
  · exact ⟨_, Or.inr (Or.inl ⟨h3, rfl⟩)⟩
  · exact ⟨_, Or.inr (Or.inr ⟨h3, rfl⟩)⟩

theorem own_use0 {wN wV wU u : Addr} (h : oUse wN wV wU (0 : Int32) u) : wN = u := by
  rcases h with ⟨e1, e2⟩ | ⟨e1, e2⟩ | ⟨e1, e2⟩
  · exact e2
  · exact absurd e1 (by decide)
  · exact absurd e1 (by decide)

theorem own_use1 {wN wV wU u : Addr} (h : oUse wN wV wU (1 : Int32) u) : wV = u := by
  rcases h with ⟨e1, e2⟩ | ⟨e1, e2⟩ | ⟨e1, e2⟩
  · exact absurd e1 (by decide)
  · exact e2
  · exact absurd e1 (by decide)

theorem own_use2 {wN wV wU u : Addr} (h : oUse wN wV wU (2 : Int32) u) : wU = u := by
  rcases h with ⟨e1, e2⟩ | ⟨e1, e2⟩ | ⟨e1, e2⟩
  · exact absurd e1 (by decide)
  · exact absurd e1 (by decide)
  · exact e2

theorem own_useN {wN wV wU u : Addr} (h : oUse wN wV wU (-1 : Int32) u) : False := by
  rcases h with ⟨e1, e2⟩ | ⟨e1, e2⟩ | ⟨e1, e2⟩
  · exact absurd e1 (by decide)
  · exact absurd e1 (by decide)
  · exact absurd e1 (by decide)

theorem own_nar1 {cp : Addr} {sr tr : Int32} (h1 : oBo sr) (h2 : oBo tr) : ((oT1.toList.zip [(.ref cp : Value), .int sr, .int tr]).map fun (t, v) => narrow t v) = [.ref cp, .int sr, .int tr] := by
  rcases h1 with rfl | rfl <;> rcases h2 with rfl | rfl <;> rfl
theorem own_fit1 {cp : Addr} {sr tr : Int32} (h1 : oBo sr) (h2 : oBo tr) : ∀ (i : Nat) (v : Value), ([(.ref cp : Value), .int sr, .int tr] : List Value).toArray[i]? = some v → ∃ t, oT1[i]? = some t ∧ fits t v = true := by
  intro i v hv
  rcases i with _ | _ | _ | i
  · simp at hv; subst hv; exact ⟨_, rfl, rfl⟩
  · simp at hv; subst hv; exact ⟨_, rfl, by rcases h1 with rfl | rfl <;> rfl⟩
  · simp at hv; subst hv; exact ⟨_, rfl, by rcases h2 with rfl | rfl <;> rfl⟩
  · simp at hv
theorem own_nar2 {u : Addr} : ((oT2.toList.zip [(.ref u : Value)]).map fun (t, v) => narrow t v) = [.ref u] := rfl
theorem own_fit2 {u : Addr} : ∀ (i : Nat) (v : Value), ([(.ref u : Value)] : List Value).toArray[i]? = some v → ∃ t, oT2[i]? = some t ∧ fits t v = true := by
  intro i v hv
  rcases i with _ | i
  · simp at hv; subst hv; exact ⟨_, rfl, rfl⟩
  · simp at hv

theorem d1_0 : decode method_2_code 0 = .ok (.iload_n 0, 1) := by decide +kernel
theorem d1_1 : decode method_2_code 1 = .ok (.ifCond .ne 7, 3) := by decide +kernel
theorem d1_4 : decode method_2_code 4 = .ok (.getstatic 7, 3) := by decide +kernel
theorem d1_7 : decode method_2_code 7 = .ok (.areturn, 1) := by decide +kernel
def Q_rm_pol0 (Z : State) (wA wD wG wU wV wN wB wC wF wE wO : Addr) (k_1 k_2 : ClassId)  (h0 : Heap) (n0 : Nat) (v : Option Value) (h : Heap) (L : List Loc) : Prop := v = some (.ref wA) ∧ Fr n0 L ∧ h = h0
set_option maxRecDepth 65536 in
set_option maxHeartbeats 40000000 in
theorem rm_pol0 (l : Launch) (Z : State) (a0 : Array Value) (hw : ∀ d ∈ tables_1, d.before a0 Z = true) (ws : List Jvm.Cond) (wA wD wG wU wV wN wB wC wF wE wO : Addr) (k_1 k_2 : ClassId)  (h0 : Heap) (n0 : Nat) (O0 : Old Z n0 h0) (hS : St0 Z wA wD wG wU wV wN wB wC wF wE wO k_1 k_2 ) :
    MetFree l (⟨"com/example/vorgang/vorgang/model/CallPolicyDispatchPinLaw", "policy", "(I)Lcom/example/vorgang/vorgang/model/Policy;"⟩ : MethodName) (head1 (Jvm.Cond.code (⟨"com/example/vorgang/vorgang/model/CallPolicyDispatchPinLaw", "policy", "(I)Lcom/example/vorgang/vorgang/model/Policy;"⟩ : MethodName) method_2_code 1 (some (.object "com/example/vorgang/vorgang/model/Policy")) :: ws) ({ frames := 0, cells := 0, slots := 0, locals := 0 } : Room)) (fun aG UG => aG = #[(.int (0 : Int32))] ∧ Z.Warmed39 UG.vm ∧ UG.heap = h0) (fun _ _ _ _ _ => True) (fun _ UG oG UG' => ∃ vG LG, oG = .returned vG ∧ Q_rm_pol0 Z wA wD wG wU wV wN wB wC wF wE wO k_1 k_2  h0 n0 vG UG'.heap LG ∧ FrameEnd UG oG UG' LG ({ frames := 0, cells := 0, slots := 0, locals := 0 } : Room).cells ({ frames := 0, cells := 0, slots := 0, locals := 0 } : Room).slots) := by
  refine MetFree.of_bodySF (plainFor_of_name pn_0) hisR ?_
  intro pG eG sG mG argsG belowG methG cG s₁ Bd hml0 hP hK
  obtain ⟨rfl, hZ, hh⟩ := hP
  have hx := Bd.exec
  have hby := Bd.bytes
  have hml : cG.maxLocals = 1 := hml0
  have hown : sG.vm.findClass "com/example/vorgang/vorgang/model/CallPolicyDispatchPinLaw" = some mG.cls := findClass_of_methodNamed Bd.named
  have hnm := (name_of_methodNamed Bd.named Bd.method).1
  have X0 : Stand pG l eG ({ frames := 0, cells := 0, slots := 0, locals := 0 } : Room) sG mG #[(.int (0 : Int32))] belowG methG cG s₁ [] 0 0 := Stand.of_body Bd
  have e0 : s₁.heap = h0 := by rw [← hh, Bd.state]; rfl
  have N0 := Fr.nil n0
  have K0 := Keep.refl h0 []
  obtain ⟨S_wA, E_wA, S_wD, E_wD, S_wG, E_wG, S_wU, E_wU, S_wV, E_wV, S_wN, E_wN, S_wB, E_wB, S_wC, E_wC, S_wF, E_wF, S_wE, E_wE, S_wO, E_wO, F_wA_ordinal, F_wG_ordinal, F_wD_ordinal, F_wU_ordinal, F_wV_ordinal, F_wN_ordinal, F_wB_ordinal, F_wC_ordinal, F_wF_ordinal, F_wE_ordinal, F_wO_value, L_1, L_2, ne_wA_wG, ne_wA_wD, ne_wA_wB, ne_wA_wC, ne_wA_wF, ne_wA_wE, ne_wG_wD, ne_wG_wB, ne_wG_wC, ne_wG_wF, ne_wG_wE, ne_wD_wB, ne_wD_wC, ne_wD_wF, ne_wD_wE, ne_wU_wV, ne_wU_wN, ne_wV_wN, ne_wB_wC, ne_wB_wF, ne_wB_wE, ne_wC_wF, ne_wC_wE, ne_wF_wE⟩ := (id hS : St0 Z wA wD wG wU wV wN wB wC wF wE wO k_1 k_2 )
  refine ostart (g' := (mkF mG 0 #[oi (0 : Int32)] [])) (by first | (simp [entryFrame, mkF, argsToLocals, Value.category]; done) | rfl) ?_
  refine ob s₁ (mkF mG 1 #[oi (0 : Int32)] [(.int (0 : Int32))]) (fun _ kk => XS.iloadN X0.here hx rfl (hb hby d1_0) rfl kk) ?_
  refine ob s₁ (mkF mG 4 #[oi (0 : Int32)] []) (fun _ kk => XS.ifNo X0.here hx rfl (hb hby d1_1) rfl ((if0 _ _).trans (teq (by decide : (0 : Int32) = (0 : Int32))).2) kk) ?_
  obtain ⟨T1, X1, e1, st1⟩ := getS2 X0 hx hZ hown (host := "") (Or.inl (ow hw 8 rfl)) Via.refl e0 (S_wA.ext O0.2) (g := (mkF mG 4 #[oi (0 : Int32)] [])) rfl (hb hby d1_4)
  refine ob T1 (mkF mG 7 #[oi (0 : Int32)] [(.ref wA)]) (fun _ kk => st1 _ kk) ?_
  obtain ⟨fs, hr, hrun, hended, hW, hsame⟩ := X1.leave (v := some (.ref wA)) (fun h => by rw [Bd.returns] at h; cases h)
  refine oout (oretA X1 hx Bd.returns rfl rfl (hb hby d1_7) hr) hrun hended ⟨_, _, rfl, ?_, ⟨_, rfl⟩, hW, hsame.mono (by decide) (by decide)⟩
  show Q_rm_pol0 Z wA wD wG wU wV wN wB wC wF wE wO k_1 k_2  h0 n0 _ T1.heap _
  rw [e1]
  exact ⟨rfl, N0, rfl⟩

theorem d1_8 : decode method_2_code 8 = .ok (.iload_n 0, 1) := by decide +kernel
theorem d1_9 : decode method_2_code 9 = .ok (.iconst 1, 1) := by decide +kernel
theorem d1_10 : decode method_2_code 10 = .ok (.if_icmp .ne 7, 3) := by decide +kernel
theorem d1_13 : decode method_2_code 13 = .ok (.getstatic 13, 3) := by decide +kernel
theorem d1_16 : decode method_2_code 16 = .ok (.areturn, 1) := by decide +kernel
def Q_rm_pol1 (Z : State) (wA wD wG wU wV wN wB wC wF wE wO : Addr) (k_1 k_2 : ClassId)  (h0 : Heap) (n0 : Nat) (v : Option Value) (h : Heap) (L : List Loc) : Prop := v = some (.ref wB) ∧ Fr n0 L ∧ h = h0
set_option maxRecDepth 65536 in
set_option maxHeartbeats 40000000 in
theorem rm_pol1 (l : Launch) (Z : State) (a0 : Array Value) (hw : ∀ d ∈ tables_1, d.before a0 Z = true) (ws : List Jvm.Cond) (wA wD wG wU wV wN wB wC wF wE wO : Addr) (k_1 k_2 : ClassId)  (h0 : Heap) (n0 : Nat) (O0 : Old Z n0 h0) (hS : St0 Z wA wD wG wU wV wN wB wC wF wE wO k_1 k_2 ) :
    MetFree l (⟨"com/example/vorgang/vorgang/model/CallPolicyDispatchPinLaw", "policy", "(I)Lcom/example/vorgang/vorgang/model/Policy;"⟩ : MethodName) (head1 (Jvm.Cond.code (⟨"com/example/vorgang/vorgang/model/CallPolicyDispatchPinLaw", "policy", "(I)Lcom/example/vorgang/vorgang/model/Policy;"⟩ : MethodName) method_2_code 1 (some (.object "com/example/vorgang/vorgang/model/Policy")) :: ws) ({ frames := 0, cells := 0, slots := 0, locals := 0 } : Room)) (fun aG UG => aG = #[(.int (1 : Int32))] ∧ Z.Warmed39 UG.vm ∧ UG.heap = h0) (fun _ _ _ _ _ => True) (fun _ UG oG UG' => ∃ vG LG, oG = .returned vG ∧ Q_rm_pol1 Z wA wD wG wU wV wN wB wC wF wE wO k_1 k_2  h0 n0 vG UG'.heap LG ∧ FrameEnd UG oG UG' LG ({ frames := 0, cells := 0, slots := 0, locals := 0 } : Room).cells ({ frames := 0, cells := 0, slots := 0, locals := 0 } : Room).slots) := by
  refine MetFree.of_bodySF (plainFor_of_name pn_0) hisR ?_
  intro pG eG sG mG argsG belowG methG cG s₁ Bd hml0 hP hK
  obtain ⟨rfl, hZ, hh⟩ := hP
  have hx := Bd.exec
  have hby := Bd.bytes
  have hml : cG.maxLocals = 1 := hml0
  have hown : sG.vm.findClass "com/example/vorgang/vorgang/model/CallPolicyDispatchPinLaw" = some mG.cls := findClass_of_methodNamed Bd.named
  have hnm := (name_of_methodNamed Bd.named Bd.method).1
  have X0 : Stand pG l eG ({ frames := 0, cells := 0, slots := 0, locals := 0 } : Room) sG mG #[(.int (1 : Int32))] belowG methG cG s₁ [] 0 0 := Stand.of_body Bd
  have e0 : s₁.heap = h0 := by rw [← hh, Bd.state]; rfl
  have N0 := Fr.nil n0
  have K0 := Keep.refl h0 []
  obtain ⟨S_wA, E_wA, S_wD, E_wD, S_wG, E_wG, S_wU, E_wU, S_wV, E_wV, S_wN, E_wN, S_wB, E_wB, S_wC, E_wC, S_wF, E_wF, S_wE, E_wE, S_wO, E_wO, F_wA_ordinal, F_wG_ordinal, F_wD_ordinal, F_wU_ordinal, F_wV_ordinal, F_wN_ordinal, F_wB_ordinal, F_wC_ordinal, F_wF_ordinal, F_wE_ordinal, F_wO_value, L_1, L_2, ne_wA_wG, ne_wA_wD, ne_wA_wB, ne_wA_wC, ne_wA_wF, ne_wA_wE, ne_wG_wD, ne_wG_wB, ne_wG_wC, ne_wG_wF, ne_wG_wE, ne_wD_wB, ne_wD_wC, ne_wD_wF, ne_wD_wE, ne_wU_wV, ne_wU_wN, ne_wV_wN, ne_wB_wC, ne_wB_wF, ne_wB_wE, ne_wC_wF, ne_wC_wE, ne_wF_wE⟩ := (id hS : St0 Z wA wD wG wU wV wN wB wC wF wE wO k_1 k_2 )
  refine ostart (g' := (mkF mG 0 #[oi (1 : Int32)] [])) (by first | (simp [entryFrame, mkF, argsToLocals, Value.category]; done) | rfl) ?_
  refine ob s₁ (mkF mG 1 #[oi (1 : Int32)] [(.int (1 : Int32))]) (fun _ kk => XS.iloadN X0.here hx rfl (hb hby d1_0) rfl kk) ?_
  refine ob s₁ (mkF mG 8 #[oi (1 : Int32)] []) (fun _ kk => XS.ifYes X0.here hx rfl (pc0 := 1) (pc' := 8) rfl (hb hby d1_1) rfl ((if0 _ _).trans (feq (by decide : ¬ ((1 : Int32) = (0 : Int32)))).2) (by decide) (by decide) kk) ?_
  refine ob s₁ (mkF mG 9 #[oi (1 : Int32)] [(.int (1 : Int32))]) (fun _ kk => XS.iloadN X0.here hx rfl (hb hby d1_8) rfl kk) ?_
  refine ob s₁ (mkF mG 10 #[oi (1 : Int32)] [(.int (1 : Int32)), (.int (1 : Int32))]) (fun _ kk => XS.iconst X0.here hx rfl (hb hby d1_9) kk) ?_
  refine ob s₁ (mkF mG 13 #[oi (1 : Int32)] []) (fun _ kk => XS.icmpNo X0.here hx rfl (hb hby d1_10) rfl (teq (by decide : (1 : Int32) = (1 : Int32))).2 kk) ?_
  obtain ⟨T1, X1, e1, st1⟩ := getS2 X0 hx hZ hown (host := "") (Or.inl (ow hw 159 rfl)) Via.refl e0 (S_wB.ext O0.2) (g := (mkF mG 13 #[oi (1 : Int32)] [])) rfl (hb hby d1_13)
  refine ob T1 (mkF mG 16 #[oi (1 : Int32)] [(.ref wB)]) (fun _ kk => st1 _ kk) ?_
  obtain ⟨fs, hr, hrun, hended, hW, hsame⟩ := X1.leave (v := some (.ref wB)) (fun h => by rw [Bd.returns] at h; cases h)
  refine oout (oretA X1 hx Bd.returns rfl rfl (hb hby d1_16) hr) hrun hended ⟨_, _, rfl, ?_, ⟨_, rfl⟩, hW, hsame.mono (by decide) (by decide)⟩
  show Q_rm_pol1 Z wA wD wG wU wV wN wB wC wF wE wO k_1 k_2  h0 n0 _ T1.heap _
  rw [e1]
  exact ⟨rfl, N0, rfl⟩

theorem d1_17 : decode method_2_code 17 = .ok (.iload_n 0, 1) := by decide +kernel
theorem d1_18 : decode method_2_code 18 = .ok (.iconst 2, 1) := by decide +kernel
theorem d1_19 : decode method_2_code 19 = .ok (.if_icmp .ne 7, 3) := by decide +kernel
theorem d1_22 : decode method_2_code 22 = .ok (.getstatic 16, 3) := by decide +kernel
theorem d1_25 : decode method_2_code 25 = .ok (.areturn, 1) := by decide +kernel
def Q_rm_pol2 (Z : State) (wA wD wG wU wV wN wB wC wF wE wO : Addr) (k_1 k_2 : ClassId)  (h0 : Heap) (n0 : Nat) (v : Option Value) (h : Heap) (L : List Loc) : Prop := v = some (.ref wC) ∧ Fr n0 L ∧ h = h0
set_option maxRecDepth 65536 in
set_option maxHeartbeats 40000000 in
theorem rm_pol2 (l : Launch) (Z : State) (a0 : Array Value) (hw : ∀ d ∈ tables_1, d.before a0 Z = true) (ws : List Jvm.Cond) (wA wD wG wU wV wN wB wC wF wE wO : Addr) (k_1 k_2 : ClassId)  (h0 : Heap) (n0 : Nat) (O0 : Old Z n0 h0) (hS : St0 Z wA wD wG wU wV wN wB wC wF wE wO k_1 k_2 ) :
    MetFree l (⟨"com/example/vorgang/vorgang/model/CallPolicyDispatchPinLaw", "policy", "(I)Lcom/example/vorgang/vorgang/model/Policy;"⟩ : MethodName) (head1 (Jvm.Cond.code (⟨"com/example/vorgang/vorgang/model/CallPolicyDispatchPinLaw", "policy", "(I)Lcom/example/vorgang/vorgang/model/Policy;"⟩ : MethodName) method_2_code 1 (some (.object "com/example/vorgang/vorgang/model/Policy")) :: ws) ({ frames := 0, cells := 0, slots := 0, locals := 0 } : Room)) (fun aG UG => aG = #[(.int (2 : Int32))] ∧ Z.Warmed39 UG.vm ∧ UG.heap = h0) (fun _ _ _ _ _ => True) (fun _ UG oG UG' => ∃ vG LG, oG = .returned vG ∧ Q_rm_pol2 Z wA wD wG wU wV wN wB wC wF wE wO k_1 k_2  h0 n0 vG UG'.heap LG ∧ FrameEnd UG oG UG' LG ({ frames := 0, cells := 0, slots := 0, locals := 0 } : Room).cells ({ frames := 0, cells := 0, slots := 0, locals := 0 } : Room).slots) := by
  refine MetFree.of_bodySF (plainFor_of_name pn_0) hisR ?_
  intro pG eG sG mG argsG belowG methG cG s₁ Bd hml0 hP hK
  obtain ⟨rfl, hZ, hh⟩ := hP
  have hx := Bd.exec
  have hby := Bd.bytes
  have hml : cG.maxLocals = 1 := hml0
  have hown : sG.vm.findClass "com/example/vorgang/vorgang/model/CallPolicyDispatchPinLaw" = some mG.cls := findClass_of_methodNamed Bd.named
  have hnm := (name_of_methodNamed Bd.named Bd.method).1
  have X0 : Stand pG l eG ({ frames := 0, cells := 0, slots := 0, locals := 0 } : Room) sG mG #[(.int (2 : Int32))] belowG methG cG s₁ [] 0 0 := Stand.of_body Bd
  have e0 : s₁.heap = h0 := by rw [← hh, Bd.state]; rfl
  have N0 := Fr.nil n0
  have K0 := Keep.refl h0 []
  obtain ⟨S_wA, E_wA, S_wD, E_wD, S_wG, E_wG, S_wU, E_wU, S_wV, E_wV, S_wN, E_wN, S_wB, E_wB, S_wC, E_wC, S_wF, E_wF, S_wE, E_wE, S_wO, E_wO, F_wA_ordinal, F_wG_ordinal, F_wD_ordinal, F_wU_ordinal, F_wV_ordinal, F_wN_ordinal, F_wB_ordinal, F_wC_ordinal, F_wF_ordinal, F_wE_ordinal, F_wO_value, L_1, L_2, ne_wA_wG, ne_wA_wD, ne_wA_wB, ne_wA_wC, ne_wA_wF, ne_wA_wE, ne_wG_wD, ne_wG_wB, ne_wG_wC, ne_wG_wF, ne_wG_wE, ne_wD_wB, ne_wD_wC, ne_wD_wF, ne_wD_wE, ne_wU_wV, ne_wU_wN, ne_wV_wN, ne_wB_wC, ne_wB_wF, ne_wB_wE, ne_wC_wF, ne_wC_wE, ne_wF_wE⟩ := (id hS : St0 Z wA wD wG wU wV wN wB wC wF wE wO k_1 k_2 )
  refine ostart (g' := (mkF mG 0 #[oi (2 : Int32)] [])) (by first | (simp [entryFrame, mkF, argsToLocals, Value.category]; done) | rfl) ?_
  refine ob s₁ (mkF mG 1 #[oi (2 : Int32)] [(.int (2 : Int32))]) (fun _ kk => XS.iloadN X0.here hx rfl (hb hby d1_0) rfl kk) ?_
  refine ob s₁ (mkF mG 8 #[oi (2 : Int32)] []) (fun _ kk => XS.ifYes X0.here hx rfl (pc0 := 1) (pc' := 8) rfl (hb hby d1_1) rfl ((if0 _ _).trans (feq (by decide : ¬ ((2 : Int32) = (0 : Int32)))).2) (by decide) (by decide) kk) ?_
  refine ob s₁ (mkF mG 9 #[oi (2 : Int32)] [(.int (2 : Int32))]) (fun _ kk => XS.iloadN X0.here hx rfl (hb hby d1_8) rfl kk) ?_
  refine ob s₁ (mkF mG 10 #[oi (2 : Int32)] [(.int (1 : Int32)), (.int (2 : Int32))]) (fun _ kk => XS.iconst X0.here hx rfl (hb hby d1_9) kk) ?_
  refine ob s₁ (mkF mG 17 #[oi (2 : Int32)] []) (fun _ kk => XS.icmpYes X0.here hx rfl (pc0 := 10) (pc' := 17) rfl (hb hby d1_10) rfl (feq (by decide : ¬ ((2 : Int32) = (1 : Int32)))).2 (by decide) (by decide) kk) ?_
  refine ob s₁ (mkF mG 18 #[oi (2 : Int32)] [(.int (2 : Int32))]) (fun _ kk => XS.iloadN X0.here hx rfl (hb hby d1_17) rfl kk) ?_
  refine ob s₁ (mkF mG 19 #[oi (2 : Int32)] [(.int (2 : Int32)), (.int (2 : Int32))]) (fun _ kk => XS.iconst X0.here hx rfl (hb hby d1_18) kk) ?_
  refine ob s₁ (mkF mG 22 #[oi (2 : Int32)] []) (fun _ kk => XS.icmpNo X0.here hx rfl (hb hby d1_19) rfl (teq (by decide : (2 : Int32) = (2 : Int32))).2 kk) ?_
  obtain ⟨T1, X1, e1, st1⟩ := getS2 X0 hx hZ hown (host := "") (Or.inl (ow hw 161 rfl)) Via.refl e0 (S_wC.ext O0.2) (g := (mkF mG 22 #[oi (2 : Int32)] [])) rfl (hb hby d1_22)
  refine ob T1 (mkF mG 25 #[oi (2 : Int32)] [(.ref wC)]) (fun _ kk => st1 _ kk) ?_
  obtain ⟨fs, hr, hrun, hended, hW, hsame⟩ := X1.leave (v := some (.ref wC)) (fun h => by rw [Bd.returns] at h; cases h)
  refine oout (oretA X1 hx Bd.returns rfl rfl (hb hby d1_25) hr) hrun hended ⟨_, _, rfl, ?_, ⟨_, rfl⟩, hW, hsame.mono (by decide) (by decide)⟩
  show Q_rm_pol2 Z wA wD wG wU wV wN wB wC wF wE wO k_1 k_2  h0 n0 _ T1.heap _
  rw [e1]
  exact ⟨rfl, N0, rfl⟩

theorem d1_26 : decode method_2_code 26 = .ok (.iload_n 0, 1) := by decide +kernel
theorem d1_27 : decode method_2_code 27 = .ok (.iconst 3, 1) := by decide +kernel
theorem d1_28 : decode method_2_code 28 = .ok (.if_icmp .ne 7, 3) := by decide +kernel
theorem d1_31 : decode method_2_code 31 = .ok (.getstatic 19, 3) := by decide +kernel
theorem d1_34 : decode method_2_code 34 = .ok (.areturn, 1) := by decide +kernel
def Q_rm_pol3 (Z : State) (wA wD wG wU wV wN wB wC wF wE wO : Addr) (k_1 k_2 : ClassId)  (h0 : Heap) (n0 : Nat) (v : Option Value) (h : Heap) (L : List Loc) : Prop := v = some (.ref wD) ∧ Fr n0 L ∧ h = h0
set_option maxRecDepth 65536 in
set_option maxHeartbeats 40000000 in
theorem rm_pol3 (l : Launch) (Z : State) (a0 : Array Value) (hw : ∀ d ∈ tables_1, d.before a0 Z = true) (ws : List Jvm.Cond) (wA wD wG wU wV wN wB wC wF wE wO : Addr) (k_1 k_2 : ClassId)  (h0 : Heap) (n0 : Nat) (O0 : Old Z n0 h0) (hS : St0 Z wA wD wG wU wV wN wB wC wF wE wO k_1 k_2 ) :
    MetFree l (⟨"com/example/vorgang/vorgang/model/CallPolicyDispatchPinLaw", "policy", "(I)Lcom/example/vorgang/vorgang/model/Policy;"⟩ : MethodName) (head1 (Jvm.Cond.code (⟨"com/example/vorgang/vorgang/model/CallPolicyDispatchPinLaw", "policy", "(I)Lcom/example/vorgang/vorgang/model/Policy;"⟩ : MethodName) method_2_code 1 (some (.object "com/example/vorgang/vorgang/model/Policy")) :: ws) ({ frames := 0, cells := 0, slots := 0, locals := 0 } : Room)) (fun aG UG => aG = #[(.int (3 : Int32))] ∧ Z.Warmed39 UG.vm ∧ UG.heap = h0) (fun _ _ _ _ _ => True) (fun _ UG oG UG' => ∃ vG LG, oG = .returned vG ∧ Q_rm_pol3 Z wA wD wG wU wV wN wB wC wF wE wO k_1 k_2  h0 n0 vG UG'.heap LG ∧ FrameEnd UG oG UG' LG ({ frames := 0, cells := 0, slots := 0, locals := 0 } : Room).cells ({ frames := 0, cells := 0, slots := 0, locals := 0 } : Room).slots) := by
  refine MetFree.of_bodySF (plainFor_of_name pn_0) hisR ?_
  intro pG eG sG mG argsG belowG methG cG s₁ Bd hml0 hP hK
  obtain ⟨rfl, hZ, hh⟩ := hP
  have hx := Bd.exec
  have hby := Bd.bytes
  have hml : cG.maxLocals = 1 := hml0
  have hown : sG.vm.findClass "com/example/vorgang/vorgang/model/CallPolicyDispatchPinLaw" = some mG.cls := findClass_of_methodNamed Bd.named
  have hnm := (name_of_methodNamed Bd.named Bd.method).1
  have X0 : Stand pG l eG ({ frames := 0, cells := 0, slots := 0, locals := 0 } : Room) sG mG #[(.int (3 : Int32))] belowG methG cG s₁ [] 0 0 := Stand.of_body Bd
  have e0 : s₁.heap = h0 := by rw [← hh, Bd.state]; rfl
  have N0 := Fr.nil n0
  have K0 := Keep.refl h0 []
  obtain ⟨S_wA, E_wA, S_wD, E_wD, S_wG, E_wG, S_wU, E_wU, S_wV, E_wV, S_wN, E_wN, S_wB, E_wB, S_wC, E_wC, S_wF, E_wF, S_wE, E_wE, S_wO, E_wO, F_wA_ordinal, F_wG_ordinal, F_wD_ordinal, F_wU_ordinal, F_wV_ordinal, F_wN_ordinal, F_wB_ordinal, F_wC_ordinal, F_wF_ordinal, F_wE_ordinal, F_wO_value, L_1, L_2, ne_wA_wG, ne_wA_wD, ne_wA_wB, ne_wA_wC, ne_wA_wF, ne_wA_wE, ne_wG_wD, ne_wG_wB, ne_wG_wC, ne_wG_wF, ne_wG_wE, ne_wD_wB, ne_wD_wC, ne_wD_wF, ne_wD_wE, ne_wU_wV, ne_wU_wN, ne_wV_wN, ne_wB_wC, ne_wB_wF, ne_wB_wE, ne_wC_wF, ne_wC_wE, ne_wF_wE⟩ := (id hS : St0 Z wA wD wG wU wV wN wB wC wF wE wO k_1 k_2 )
  refine ostart (g' := (mkF mG 0 #[oi (3 : Int32)] [])) (by first | (simp [entryFrame, mkF, argsToLocals, Value.category]; done) | rfl) ?_
  refine ob s₁ (mkF mG 1 #[oi (3 : Int32)] [(.int (3 : Int32))]) (fun _ kk => XS.iloadN X0.here hx rfl (hb hby d1_0) rfl kk) ?_
  refine ob s₁ (mkF mG 8 #[oi (3 : Int32)] []) (fun _ kk => XS.ifYes X0.here hx rfl (pc0 := 1) (pc' := 8) rfl (hb hby d1_1) rfl ((if0 _ _).trans (feq (by decide : ¬ ((3 : Int32) = (0 : Int32)))).2) (by decide) (by decide) kk) ?_
  refine ob s₁ (mkF mG 9 #[oi (3 : Int32)] [(.int (3 : Int32))]) (fun _ kk => XS.iloadN X0.here hx rfl (hb hby d1_8) rfl kk) ?_
  refine ob s₁ (mkF mG 10 #[oi (3 : Int32)] [(.int (1 : Int32)), (.int (3 : Int32))]) (fun _ kk => XS.iconst X0.here hx rfl (hb hby d1_9) kk) ?_
  refine ob s₁ (mkF mG 17 #[oi (3 : Int32)] []) (fun _ kk => XS.icmpYes X0.here hx rfl (pc0 := 10) (pc' := 17) rfl (hb hby d1_10) rfl (feq (by decide : ¬ ((3 : Int32) = (1 : Int32)))).2 (by decide) (by decide) kk) ?_
  refine ob s₁ (mkF mG 18 #[oi (3 : Int32)] [(.int (3 : Int32))]) (fun _ kk => XS.iloadN X0.here hx rfl (hb hby d1_17) rfl kk) ?_
  refine ob s₁ (mkF mG 19 #[oi (3 : Int32)] [(.int (2 : Int32)), (.int (3 : Int32))]) (fun _ kk => XS.iconst X0.here hx rfl (hb hby d1_18) kk) ?_
  refine ob s₁ (mkF mG 26 #[oi (3 : Int32)] []) (fun _ kk => XS.icmpYes X0.here hx rfl (pc0 := 19) (pc' := 26) rfl (hb hby d1_19) rfl (feq (by decide : ¬ ((3 : Int32) = (2 : Int32)))).2 (by decide) (by decide) kk) ?_
  refine ob s₁ (mkF mG 27 #[oi (3 : Int32)] [(.int (3 : Int32))]) (fun _ kk => XS.iloadN X0.here hx rfl (hb hby d1_26) rfl kk) ?_
  refine ob s₁ (mkF mG 28 #[oi (3 : Int32)] [(.int (3 : Int32)), (.int (3 : Int32))]) (fun _ kk => XS.iconst X0.here hx rfl (hb hby d1_27) kk) ?_
  refine ob s₁ (mkF mG 31 #[oi (3 : Int32)] []) (fun _ kk => XS.icmpNo X0.here hx rfl (hb hby d1_28) rfl (teq (by decide : (3 : Int32) = (3 : Int32))).2 kk) ?_
  obtain ⟨T1, X1, e1, st1⟩ := getS2 X0 hx hZ hown (host := "") (Or.inl (ow hw 11 rfl)) Via.refl e0 (S_wD.ext O0.2) (g := (mkF mG 31 #[oi (3 : Int32)] [])) rfl (hb hby d1_31)
  refine ob T1 (mkF mG 34 #[oi (3 : Int32)] [(.ref wD)]) (fun _ kk => st1 _ kk) ?_
  obtain ⟨fs, hr, hrun, hended, hW, hsame⟩ := X1.leave (v := some (.ref wD)) (fun h => by rw [Bd.returns] at h; cases h)
  refine oout (oretA X1 hx Bd.returns rfl rfl (hb hby d1_34) hr) hrun hended ⟨_, _, rfl, ?_, ⟨_, rfl⟩, hW, hsame.mono (by decide) (by decide)⟩
  show Q_rm_pol3 Z wA wD wG wU wV wN wB wC wF wE wO k_1 k_2  h0 n0 _ T1.heap _
  rw [e1]
  exact ⟨rfl, N0, rfl⟩

theorem d1_35 : decode method_2_code 35 = .ok (.iload_n 0, 1) := by decide +kernel
theorem d1_36 : decode method_2_code 36 = .ok (.iconst 4, 1) := by decide +kernel
theorem d1_37 : decode method_2_code 37 = .ok (.if_icmp .ne 7, 3) := by decide +kernel
theorem d1_40 : decode method_2_code 40 = .ok (.getstatic 22, 3) := by decide +kernel
theorem d1_43 : decode method_2_code 43 = .ok (.areturn, 1) := by decide +kernel
def Q_rm_pol4 (Z : State) (wA wD wG wU wV wN wB wC wF wE wO : Addr) (k_1 k_2 : ClassId)  (h0 : Heap) (n0 : Nat) (v : Option Value) (h : Heap) (L : List Loc) : Prop := v = some (.ref wE) ∧ Fr n0 L ∧ h = h0
set_option maxRecDepth 65536 in
set_option maxHeartbeats 40000000 in
theorem rm_pol4 (l : Launch) (Z : State) (a0 : Array Value) (hw : ∀ d ∈ tables_1, d.before a0 Z = true) (ws : List Jvm.Cond) (wA wD wG wU wV wN wB wC wF wE wO : Addr) (k_1 k_2 : ClassId)  (h0 : Heap) (n0 : Nat) (O0 : Old Z n0 h0) (hS : St0 Z wA wD wG wU wV wN wB wC wF wE wO k_1 k_2 ) :
    MetFree l (⟨"com/example/vorgang/vorgang/model/CallPolicyDispatchPinLaw", "policy", "(I)Lcom/example/vorgang/vorgang/model/Policy;"⟩ : MethodName) (head1 (Jvm.Cond.code (⟨"com/example/vorgang/vorgang/model/CallPolicyDispatchPinLaw", "policy", "(I)Lcom/example/vorgang/vorgang/model/Policy;"⟩ : MethodName) method_2_code 1 (some (.object "com/example/vorgang/vorgang/model/Policy")) :: ws) ({ frames := 0, cells := 0, slots := 0, locals := 0 } : Room)) (fun aG UG => aG = #[(.int (4 : Int32))] ∧ Z.Warmed39 UG.vm ∧ UG.heap = h0) (fun _ _ _ _ _ => True) (fun _ UG oG UG' => ∃ vG LG, oG = .returned vG ∧ Q_rm_pol4 Z wA wD wG wU wV wN wB wC wF wE wO k_1 k_2  h0 n0 vG UG'.heap LG ∧ FrameEnd UG oG UG' LG ({ frames := 0, cells := 0, slots := 0, locals := 0 } : Room).cells ({ frames := 0, cells := 0, slots := 0, locals := 0 } : Room).slots) := by
  refine MetFree.of_bodySF (plainFor_of_name pn_0) hisR ?_
  intro pG eG sG mG argsG belowG methG cG s₁ Bd hml0 hP hK
  obtain ⟨rfl, hZ, hh⟩ := hP
  have hx := Bd.exec
  have hby := Bd.bytes
  have hml : cG.maxLocals = 1 := hml0
  have hown : sG.vm.findClass "com/example/vorgang/vorgang/model/CallPolicyDispatchPinLaw" = some mG.cls := findClass_of_methodNamed Bd.named
  have hnm := (name_of_methodNamed Bd.named Bd.method).1
  have X0 : Stand pG l eG ({ frames := 0, cells := 0, slots := 0, locals := 0 } : Room) sG mG #[(.int (4 : Int32))] belowG methG cG s₁ [] 0 0 := Stand.of_body Bd
  have e0 : s₁.heap = h0 := by rw [← hh, Bd.state]; rfl
  have N0 := Fr.nil n0
  have K0 := Keep.refl h0 []
  obtain ⟨S_wA, E_wA, S_wD, E_wD, S_wG, E_wG, S_wU, E_wU, S_wV, E_wV, S_wN, E_wN, S_wB, E_wB, S_wC, E_wC, S_wF, E_wF, S_wE, E_wE, S_wO, E_wO, F_wA_ordinal, F_wG_ordinal, F_wD_ordinal, F_wU_ordinal, F_wV_ordinal, F_wN_ordinal, F_wB_ordinal, F_wC_ordinal, F_wF_ordinal, F_wE_ordinal, F_wO_value, L_1, L_2, ne_wA_wG, ne_wA_wD, ne_wA_wB, ne_wA_wC, ne_wA_wF, ne_wA_wE, ne_wG_wD, ne_wG_wB, ne_wG_wC, ne_wG_wF, ne_wG_wE, ne_wD_wB, ne_wD_wC, ne_wD_wF, ne_wD_wE, ne_wU_wV, ne_wU_wN, ne_wV_wN, ne_wB_wC, ne_wB_wF, ne_wB_wE, ne_wC_wF, ne_wC_wE, ne_wF_wE⟩ := (id hS : St0 Z wA wD wG wU wV wN wB wC wF wE wO k_1 k_2 )
  refine ostart (g' := (mkF mG 0 #[oi (4 : Int32)] [])) (by first | (simp [entryFrame, mkF, argsToLocals, Value.category]; done) | rfl) ?_
  refine ob s₁ (mkF mG 1 #[oi (4 : Int32)] [(.int (4 : Int32))]) (fun _ kk => XS.iloadN X0.here hx rfl (hb hby d1_0) rfl kk) ?_
  refine ob s₁ (mkF mG 8 #[oi (4 : Int32)] []) (fun _ kk => XS.ifYes X0.here hx rfl (pc0 := 1) (pc' := 8) rfl (hb hby d1_1) rfl ((if0 _ _).trans (feq (by decide : ¬ ((4 : Int32) = (0 : Int32)))).2) (by decide) (by decide) kk) ?_
  refine ob s₁ (mkF mG 9 #[oi (4 : Int32)] [(.int (4 : Int32))]) (fun _ kk => XS.iloadN X0.here hx rfl (hb hby d1_8) rfl kk) ?_
  refine ob s₁ (mkF mG 10 #[oi (4 : Int32)] [(.int (1 : Int32)), (.int (4 : Int32))]) (fun _ kk => XS.iconst X0.here hx rfl (hb hby d1_9) kk) ?_
  refine ob s₁ (mkF mG 17 #[oi (4 : Int32)] []) (fun _ kk => XS.icmpYes X0.here hx rfl (pc0 := 10) (pc' := 17) rfl (hb hby d1_10) rfl (feq (by decide : ¬ ((4 : Int32) = (1 : Int32)))).2 (by decide) (by decide) kk) ?_
  refine ob s₁ (mkF mG 18 #[oi (4 : Int32)] [(.int (4 : Int32))]) (fun _ kk => XS.iloadN X0.here hx rfl (hb hby d1_17) rfl kk) ?_
  refine ob s₁ (mkF mG 19 #[oi (4 : Int32)] [(.int (2 : Int32)), (.int (4 : Int32))]) (fun _ kk => XS.iconst X0.here hx rfl (hb hby d1_18) kk) ?_
  refine ob s₁ (mkF mG 26 #[oi (4 : Int32)] []) (fun _ kk => XS.icmpYes X0.here hx rfl (pc0 := 19) (pc' := 26) rfl (hb hby d1_19) rfl (feq (by decide : ¬ ((4 : Int32) = (2 : Int32)))).2 (by decide) (by decide) kk) ?_
  refine ob s₁ (mkF mG 27 #[oi (4 : Int32)] [(.int (4 : Int32))]) (fun _ kk => XS.iloadN X0.here hx rfl (hb hby d1_26) rfl kk) ?_
  refine ob s₁ (mkF mG 28 #[oi (4 : Int32)] [(.int (3 : Int32)), (.int (4 : Int32))]) (fun _ kk => XS.iconst X0.here hx rfl (hb hby d1_27) kk) ?_
  refine ob s₁ (mkF mG 35 #[oi (4 : Int32)] []) (fun _ kk => XS.icmpYes X0.here hx rfl (pc0 := 28) (pc' := 35) rfl (hb hby d1_28) rfl (feq (by decide : ¬ ((4 : Int32) = (3 : Int32)))).2 (by decide) (by decide) kk) ?_
  refine ob s₁ (mkF mG 36 #[oi (4 : Int32)] [(.int (4 : Int32))]) (fun _ kk => XS.iloadN X0.here hx rfl (hb hby d1_35) rfl kk) ?_
  refine ob s₁ (mkF mG 37 #[oi (4 : Int32)] [(.int (4 : Int32)), (.int (4 : Int32))]) (fun _ kk => XS.iconst X0.here hx rfl (hb hby d1_36) kk) ?_
  refine ob s₁ (mkF mG 40 #[oi (4 : Int32)] []) (fun _ kk => XS.icmpNo X0.here hx rfl (hb hby d1_37) rfl (teq (by decide : (4 : Int32) = (4 : Int32))).2 kk) ?_
  obtain ⟨T1, X1, e1, st1⟩ := getS2 X0 hx hZ hown (host := "") (Or.inl (ow hw 165 rfl)) Via.refl e0 (S_wE.ext O0.2) (g := (mkF mG 40 #[oi (4 : Int32)] [])) rfl (hb hby d1_40)
  refine ob T1 (mkF mG 43 #[oi (4 : Int32)] [(.ref wE)]) (fun _ kk => st1 _ kk) ?_
  obtain ⟨fs, hr, hrun, hended, hW, hsame⟩ := X1.leave (v := some (.ref wE)) (fun h => by rw [Bd.returns] at h; cases h)
  refine oout (oretA X1 hx Bd.returns rfl rfl (hb hby d1_43) hr) hrun hended ⟨_, _, rfl, ?_, ⟨_, rfl⟩, hW, hsame.mono (by decide) (by decide)⟩
  show Q_rm_pol4 Z wA wD wG wU wV wN wB wC wF wE wO k_1 k_2  h0 n0 _ T1.heap _
  rw [e1]
  exact ⟨rfl, N0, rfl⟩

theorem d1_44 : decode method_2_code 44 = .ok (.iload_n 0, 1) := by decide +kernel
theorem d1_45 : decode method_2_code 45 = .ok (.iconst 5, 1) := by decide +kernel
theorem d1_46 : decode method_2_code 46 = .ok (.if_icmp .ne 7, 3) := by decide +kernel
theorem d1_49 : decode method_2_code 49 = .ok (.getstatic 25, 3) := by decide +kernel
theorem d1_52 : decode method_2_code 52 = .ok (.areturn, 1) := by decide +kernel
def Q_rm_pol5 (Z : State) (wA wD wG wU wV wN wB wC wF wE wO : Addr) (k_1 k_2 : ClassId)  (h0 : Heap) (n0 : Nat) (v : Option Value) (h : Heap) (L : List Loc) : Prop := v = some (.ref wF) ∧ Fr n0 L ∧ h = h0
set_option maxRecDepth 65536 in
set_option maxHeartbeats 40000000 in
theorem rm_pol5 (l : Launch) (Z : State) (a0 : Array Value) (hw : ∀ d ∈ tables_1, d.before a0 Z = true) (ws : List Jvm.Cond) (wA wD wG wU wV wN wB wC wF wE wO : Addr) (k_1 k_2 : ClassId)  (h0 : Heap) (n0 : Nat) (O0 : Old Z n0 h0) (hS : St0 Z wA wD wG wU wV wN wB wC wF wE wO k_1 k_2 ) :
    MetFree l (⟨"com/example/vorgang/vorgang/model/CallPolicyDispatchPinLaw", "policy", "(I)Lcom/example/vorgang/vorgang/model/Policy;"⟩ : MethodName) (head1 (Jvm.Cond.code (⟨"com/example/vorgang/vorgang/model/CallPolicyDispatchPinLaw", "policy", "(I)Lcom/example/vorgang/vorgang/model/Policy;"⟩ : MethodName) method_2_code 1 (some (.object "com/example/vorgang/vorgang/model/Policy")) :: ws) ({ frames := 0, cells := 0, slots := 0, locals := 0 } : Room)) (fun aG UG => aG = #[(.int (5 : Int32))] ∧ Z.Warmed39 UG.vm ∧ UG.heap = h0) (fun _ _ _ _ _ => True) (fun _ UG oG UG' => ∃ vG LG, oG = .returned vG ∧ Q_rm_pol5 Z wA wD wG wU wV wN wB wC wF wE wO k_1 k_2  h0 n0 vG UG'.heap LG ∧ FrameEnd UG oG UG' LG ({ frames := 0, cells := 0, slots := 0, locals := 0 } : Room).cells ({ frames := 0, cells := 0, slots := 0, locals := 0 } : Room).slots) := by
  refine MetFree.of_bodySF (plainFor_of_name pn_0) hisR ?_
  intro pG eG sG mG argsG belowG methG cG s₁ Bd hml0 hP hK
  obtain ⟨rfl, hZ, hh⟩ := hP
  have hx := Bd.exec
  have hby := Bd.bytes
  have hml : cG.maxLocals = 1 := hml0
  have hown : sG.vm.findClass "com/example/vorgang/vorgang/model/CallPolicyDispatchPinLaw" = some mG.cls := findClass_of_methodNamed Bd.named
  have hnm := (name_of_methodNamed Bd.named Bd.method).1
  have X0 : Stand pG l eG ({ frames := 0, cells := 0, slots := 0, locals := 0 } : Room) sG mG #[(.int (5 : Int32))] belowG methG cG s₁ [] 0 0 := Stand.of_body Bd
  have e0 : s₁.heap = h0 := by rw [← hh, Bd.state]; rfl
  have N0 := Fr.nil n0
  have K0 := Keep.refl h0 []
  obtain ⟨S_wA, E_wA, S_wD, E_wD, S_wG, E_wG, S_wU, E_wU, S_wV, E_wV, S_wN, E_wN, S_wB, E_wB, S_wC, E_wC, S_wF, E_wF, S_wE, E_wE, S_wO, E_wO, F_wA_ordinal, F_wG_ordinal, F_wD_ordinal, F_wU_ordinal, F_wV_ordinal, F_wN_ordinal, F_wB_ordinal, F_wC_ordinal, F_wF_ordinal, F_wE_ordinal, F_wO_value, L_1, L_2, ne_wA_wG, ne_wA_wD, ne_wA_wB, ne_wA_wC, ne_wA_wF, ne_wA_wE, ne_wG_wD, ne_wG_wB, ne_wG_wC, ne_wG_wF, ne_wG_wE, ne_wD_wB, ne_wD_wC, ne_wD_wF, ne_wD_wE, ne_wU_wV, ne_wU_wN, ne_wV_wN, ne_wB_wC, ne_wB_wF, ne_wB_wE, ne_wC_wF, ne_wC_wE, ne_wF_wE⟩ := (id hS : St0 Z wA wD wG wU wV wN wB wC wF wE wO k_1 k_2 )
  refine ostart (g' := (mkF mG 0 #[oi (5 : Int32)] [])) (by first | (simp [entryFrame, mkF, argsToLocals, Value.category]; done) | rfl) ?_
  refine ob s₁ (mkF mG 1 #[oi (5 : Int32)] [(.int (5 : Int32))]) (fun _ kk => XS.iloadN X0.here hx rfl (hb hby d1_0) rfl kk) ?_
  refine ob s₁ (mkF mG 8 #[oi (5 : Int32)] []) (fun _ kk => XS.ifYes X0.here hx rfl (pc0 := 1) (pc' := 8) rfl (hb hby d1_1) rfl ((if0 _ _).trans (feq (by decide : ¬ ((5 : Int32) = (0 : Int32)))).2) (by decide) (by decide) kk) ?_
  refine ob s₁ (mkF mG 9 #[oi (5 : Int32)] [(.int (5 : Int32))]) (fun _ kk => XS.iloadN X0.here hx rfl (hb hby d1_8) rfl kk) ?_
  refine ob s₁ (mkF mG 10 #[oi (5 : Int32)] [(.int (1 : Int32)), (.int (5 : Int32))]) (fun _ kk => XS.iconst X0.here hx rfl (hb hby d1_9) kk) ?_
  refine ob s₁ (mkF mG 17 #[oi (5 : Int32)] []) (fun _ kk => XS.icmpYes X0.here hx rfl (pc0 := 10) (pc' := 17) rfl (hb hby d1_10) rfl (feq (by decide : ¬ ((5 : Int32) = (1 : Int32)))).2 (by decide) (by decide) kk) ?_
  refine ob s₁ (mkF mG 18 #[oi (5 : Int32)] [(.int (5 : Int32))]) (fun _ kk => XS.iloadN X0.here hx rfl (hb hby d1_17) rfl kk) ?_
  refine ob s₁ (mkF mG 19 #[oi (5 : Int32)] [(.int (2 : Int32)), (.int (5 : Int32))]) (fun _ kk => XS.iconst X0.here hx rfl (hb hby d1_18) kk) ?_
  refine ob s₁ (mkF mG 26 #[oi (5 : Int32)] []) (fun _ kk => XS.icmpYes X0.here hx rfl (pc0 := 19) (pc' := 26) rfl (hb hby d1_19) rfl (feq (by decide : ¬ ((5 : Int32) = (2 : Int32)))).2 (by decide) (by decide) kk) ?_
  refine ob s₁ (mkF mG 27 #[oi (5 : Int32)] [(.int (5 : Int32))]) (fun _ kk => XS.iloadN X0.here hx rfl (hb hby d1_26) rfl kk) ?_
  refine ob s₁ (mkF mG 28 #[oi (5 : Int32)] [(.int (3 : Int32)), (.int (5 : Int32))]) (fun _ kk => XS.iconst X0.here hx rfl (hb hby d1_27) kk) ?_
  refine ob s₁ (mkF mG 35 #[oi (5 : Int32)] []) (fun _ kk => XS.icmpYes X0.here hx rfl (pc0 := 28) (pc' := 35) rfl (hb hby d1_28) rfl (feq (by decide : ¬ ((5 : Int32) = (3 : Int32)))).2 (by decide) (by decide) kk) ?_
  refine ob s₁ (mkF mG 36 #[oi (5 : Int32)] [(.int (5 : Int32))]) (fun _ kk => XS.iloadN X0.here hx rfl (hb hby d1_35) rfl kk) ?_
  refine ob s₁ (mkF mG 37 #[oi (5 : Int32)] [(.int (4 : Int32)), (.int (5 : Int32))]) (fun _ kk => XS.iconst X0.here hx rfl (hb hby d1_36) kk) ?_
  refine ob s₁ (mkF mG 44 #[oi (5 : Int32)] []) (fun _ kk => XS.icmpYes X0.here hx rfl (pc0 := 37) (pc' := 44) rfl (hb hby d1_37) rfl (feq (by decide : ¬ ((5 : Int32) = (4 : Int32)))).2 (by decide) (by decide) kk) ?_
  refine ob s₁ (mkF mG 45 #[oi (5 : Int32)] [(.int (5 : Int32))]) (fun _ kk => XS.iloadN X0.here hx rfl (hb hby d1_44) rfl kk) ?_
  refine ob s₁ (mkF mG 46 #[oi (5 : Int32)] [(.int (5 : Int32)), (.int (5 : Int32))]) (fun _ kk => XS.iconst X0.here hx rfl (hb hby d1_45) kk) ?_
  refine ob s₁ (mkF mG 49 #[oi (5 : Int32)] []) (fun _ kk => XS.icmpNo X0.here hx rfl (hb hby d1_46) rfl (teq (by decide : (5 : Int32) = (5 : Int32))).2 kk) ?_
  obtain ⟨T1, X1, e1, st1⟩ := getS2 X0 hx hZ hown (host := "") (Or.inl (ow hw 163 rfl)) Via.refl e0 (S_wF.ext O0.2) (g := (mkF mG 49 #[oi (5 : Int32)] [])) rfl (hb hby d1_49)
  refine ob T1 (mkF mG 52 #[oi (5 : Int32)] [(.ref wF)]) (fun _ kk => st1 _ kk) ?_
  obtain ⟨fs, hr, hrun, hended, hW, hsame⟩ := X1.leave (v := some (.ref wF)) (fun h => by rw [Bd.returns] at h; cases h)
  refine oout (oretA X1 hx Bd.returns rfl rfl (hb hby d1_52) hr) hrun hended ⟨_, _, rfl, ?_, ⟨_, rfl⟩, hW, hsame.mono (by decide) (by decide)⟩
  show Q_rm_pol5 Z wA wD wG wU wV wN wB wC wF wE wO k_1 k_2  h0 n0 _ T1.heap _
  rw [e1]
  exact ⟨rfl, N0, rfl⟩

theorem d1_53 : decode method_2_code 53 = .ok (.getstatic 28, 3) := by decide +kernel
theorem d1_56 : decode method_2_code 56 = .ok (.areturn, 1) := by decide +kernel
def Q_rm_pol6 (Z : State) (wA wD wG wU wV wN wB wC wF wE wO : Addr) (k_1 k_2 : ClassId)  (h0 : Heap) (n0 : Nat) (v : Option Value) (h : Heap) (L : List Loc) : Prop := v = some (.ref wG) ∧ Fr n0 L ∧ h = h0
set_option maxRecDepth 65536 in
set_option maxHeartbeats 40000000 in
theorem rm_pol6 (l : Launch) (Z : State) (a0 : Array Value) (hw : ∀ d ∈ tables_1, d.before a0 Z = true) (ws : List Jvm.Cond) (wA wD wG wU wV wN wB wC wF wE wO : Addr) (k_1 k_2 : ClassId)  (h0 : Heap) (n0 : Nat) (O0 : Old Z n0 h0) (hS : St0 Z wA wD wG wU wV wN wB wC wF wE wO k_1 k_2 ) :
    MetFree l (⟨"com/example/vorgang/vorgang/model/CallPolicyDispatchPinLaw", "policy", "(I)Lcom/example/vorgang/vorgang/model/Policy;"⟩ : MethodName) (head1 (Jvm.Cond.code (⟨"com/example/vorgang/vorgang/model/CallPolicyDispatchPinLaw", "policy", "(I)Lcom/example/vorgang/vorgang/model/Policy;"⟩ : MethodName) method_2_code 1 (some (.object "com/example/vorgang/vorgang/model/Policy")) :: ws) ({ frames := 0, cells := 0, slots := 0, locals := 0 } : Room)) (fun aG UG => aG = #[(.int (6 : Int32))] ∧ Z.Warmed39 UG.vm ∧ UG.heap = h0) (fun _ _ _ _ _ => True) (fun _ UG oG UG' => ∃ vG LG, oG = .returned vG ∧ Q_rm_pol6 Z wA wD wG wU wV wN wB wC wF wE wO k_1 k_2  h0 n0 vG UG'.heap LG ∧ FrameEnd UG oG UG' LG ({ frames := 0, cells := 0, slots := 0, locals := 0 } : Room).cells ({ frames := 0, cells := 0, slots := 0, locals := 0 } : Room).slots) := by
  refine MetFree.of_bodySF (plainFor_of_name pn_0) hisR ?_
  intro pG eG sG mG argsG belowG methG cG s₁ Bd hml0 hP hK
  obtain ⟨rfl, hZ, hh⟩ := hP
  have hx := Bd.exec
  have hby := Bd.bytes
  have hml : cG.maxLocals = 1 := hml0
  have hown : sG.vm.findClass "com/example/vorgang/vorgang/model/CallPolicyDispatchPinLaw" = some mG.cls := findClass_of_methodNamed Bd.named
  have hnm := (name_of_methodNamed Bd.named Bd.method).1
  have X0 : Stand pG l eG ({ frames := 0, cells := 0, slots := 0, locals := 0 } : Room) sG mG #[(.int (6 : Int32))] belowG methG cG s₁ [] 0 0 := Stand.of_body Bd
  have e0 : s₁.heap = h0 := by rw [← hh, Bd.state]; rfl
  have N0 := Fr.nil n0
  have K0 := Keep.refl h0 []
  obtain ⟨S_wA, E_wA, S_wD, E_wD, S_wG, E_wG, S_wU, E_wU, S_wV, E_wV, S_wN, E_wN, S_wB, E_wB, S_wC, E_wC, S_wF, E_wF, S_wE, E_wE, S_wO, E_wO, F_wA_ordinal, F_wG_ordinal, F_wD_ordinal, F_wU_ordinal, F_wV_ordinal, F_wN_ordinal, F_wB_ordinal, F_wC_ordinal, F_wF_ordinal, F_wE_ordinal, F_wO_value, L_1, L_2, ne_wA_wG, ne_wA_wD, ne_wA_wB, ne_wA_wC, ne_wA_wF, ne_wA_wE, ne_wG_wD, ne_wG_wB, ne_wG_wC, ne_wG_wF, ne_wG_wE, ne_wD_wB, ne_wD_wC, ne_wD_wF, ne_wD_wE, ne_wU_wV, ne_wU_wN, ne_wV_wN, ne_wB_wC, ne_wB_wF, ne_wB_wE, ne_wC_wF, ne_wC_wE, ne_wF_wE⟩ := (id hS : St0 Z wA wD wG wU wV wN wB wC wF wE wO k_1 k_2 )
  refine ostart (g' := (mkF mG 0 #[oi (6 : Int32)] [])) (by first | (simp [entryFrame, mkF, argsToLocals, Value.category]; done) | rfl) ?_
  refine ob s₁ (mkF mG 1 #[oi (6 : Int32)] [(.int (6 : Int32))]) (fun _ kk => XS.iloadN X0.here hx rfl (hb hby d1_0) rfl kk) ?_
  refine ob s₁ (mkF mG 8 #[oi (6 : Int32)] []) (fun _ kk => XS.ifYes X0.here hx rfl (pc0 := 1) (pc' := 8) rfl (hb hby d1_1) rfl ((if0 _ _).trans (feq (by decide : ¬ ((6 : Int32) = (0 : Int32)))).2) (by decide) (by decide) kk) ?_
  refine ob s₁ (mkF mG 9 #[oi (6 : Int32)] [(.int (6 : Int32))]) (fun _ kk => XS.iloadN X0.here hx rfl (hb hby d1_8) rfl kk) ?_
  refine ob s₁ (mkF mG 10 #[oi (6 : Int32)] [(.int (1 : Int32)), (.int (6 : Int32))]) (fun _ kk => XS.iconst X0.here hx rfl (hb hby d1_9) kk) ?_
  refine ob s₁ (mkF mG 17 #[oi (6 : Int32)] []) (fun _ kk => XS.icmpYes X0.here hx rfl (pc0 := 10) (pc' := 17) rfl (hb hby d1_10) rfl (feq (by decide : ¬ ((6 : Int32) = (1 : Int32)))).2 (by decide) (by decide) kk) ?_
  refine ob s₁ (mkF mG 18 #[oi (6 : Int32)] [(.int (6 : Int32))]) (fun _ kk => XS.iloadN X0.here hx rfl (hb hby d1_17) rfl kk) ?_
  refine ob s₁ (mkF mG 19 #[oi (6 : Int32)] [(.int (2 : Int32)), (.int (6 : Int32))]) (fun _ kk => XS.iconst X0.here hx rfl (hb hby d1_18) kk) ?_
  refine ob s₁ (mkF mG 26 #[oi (6 : Int32)] []) (fun _ kk => XS.icmpYes X0.here hx rfl (pc0 := 19) (pc' := 26) rfl (hb hby d1_19) rfl (feq (by decide : ¬ ((6 : Int32) = (2 : Int32)))).2 (by decide) (by decide) kk) ?_
  refine ob s₁ (mkF mG 27 #[oi (6 : Int32)] [(.int (6 : Int32))]) (fun _ kk => XS.iloadN X0.here hx rfl (hb hby d1_26) rfl kk) ?_
  refine ob s₁ (mkF mG 28 #[oi (6 : Int32)] [(.int (3 : Int32)), (.int (6 : Int32))]) (fun _ kk => XS.iconst X0.here hx rfl (hb hby d1_27) kk) ?_
  refine ob s₁ (mkF mG 35 #[oi (6 : Int32)] []) (fun _ kk => XS.icmpYes X0.here hx rfl (pc0 := 28) (pc' := 35) rfl (hb hby d1_28) rfl (feq (by decide : ¬ ((6 : Int32) = (3 : Int32)))).2 (by decide) (by decide) kk) ?_
  refine ob s₁ (mkF mG 36 #[oi (6 : Int32)] [(.int (6 : Int32))]) (fun _ kk => XS.iloadN X0.here hx rfl (hb hby d1_35) rfl kk) ?_
  refine ob s₁ (mkF mG 37 #[oi (6 : Int32)] [(.int (4 : Int32)), (.int (6 : Int32))]) (fun _ kk => XS.iconst X0.here hx rfl (hb hby d1_36) kk) ?_
  refine ob s₁ (mkF mG 44 #[oi (6 : Int32)] []) (fun _ kk => XS.icmpYes X0.here hx rfl (pc0 := 37) (pc' := 44) rfl (hb hby d1_37) rfl (feq (by decide : ¬ ((6 : Int32) = (4 : Int32)))).2 (by decide) (by decide) kk) ?_
  refine ob s₁ (mkF mG 45 #[oi (6 : Int32)] [(.int (6 : Int32))]) (fun _ kk => XS.iloadN X0.here hx rfl (hb hby d1_44) rfl kk) ?_
  refine ob s₁ (mkF mG 46 #[oi (6 : Int32)] [(.int (5 : Int32)), (.int (6 : Int32))]) (fun _ kk => XS.iconst X0.here hx rfl (hb hby d1_45) kk) ?_
  refine ob s₁ (mkF mG 53 #[oi (6 : Int32)] []) (fun _ kk => XS.icmpYes X0.here hx rfl (pc0 := 46) (pc' := 53) rfl (hb hby d1_46) rfl (feq (by decide : ¬ ((6 : Int32) = (5 : Int32)))).2 (by decide) (by decide) kk) ?_
  obtain ⟨T1, X1, e1, st1⟩ := getS2 X0 hx hZ hown (host := "") (Or.inl (ow hw 172 rfl)) Via.refl e0 (S_wG.ext O0.2) (g := (mkF mG 53 #[oi (6 : Int32)] [])) rfl (hb hby d1_53)
  refine ob T1 (mkF mG 56 #[oi (6 : Int32)] [(.ref wG)]) (fun _ kk => st1 _ kk) ?_
  obtain ⟨fs, hr, hrun, hended, hW, hsame⟩ := X1.leave (v := some (.ref wG)) (fun h => by rw [Bd.returns] at h; cases h)
  refine oout (oretA X1 hx Bd.returns rfl rfl (hb hby d1_56) hr) hrun hended ⟨_, _, rfl, ?_, ⟨_, rfl⟩, hW, hsame.mono (by decide) (by decide)⟩
  show Q_rm_pol6 Z wA wD wG wU wV wN wB wC wF wE wO k_1 k_2  h0 n0 _ T1.heap _
  rw [e1]
  exact ⟨rfl, N0, rfl⟩

def Q_rm_polA (Z : State) (wA wD wG wU wV wN wB wC wF wE wO : Addr) (k_1 k_2 : ClassId) (ki : Int32) (pk : Addr) (h0 : Heap) (n0 : Nat) (v : Option Value) (h : Heap) (L : List Loc) : Prop := v = some (.ref pk) ∧ Fr n0 L ∧ h = h0
set_option maxRecDepth 65536 in
set_option maxHeartbeats 40000000 in
theorem rm_polA (l : Launch) (Z : State) (a0 : Array Value) (hw : ∀ d ∈ tables_1, d.before a0 Z = true) (ws : List Jvm.Cond) (wA wD wG wU wV wN wB wC wF wE wO : Addr) (k_1 k_2 : ClassId) (ki : Int32) (pk : Addr) (h0 : Heap) (n0 : Nat) (O0 : Old Z n0 h0) (hS : St0 Z wA wD wG wU wV wN wB wC wF wE wO k_1 k_2 ) (pK : oPol wA wB wC wD wE wF wG ki pk) :
    MetFree l (⟨"com/example/vorgang/vorgang/model/CallPolicyDispatchPinLaw", "policy", "(I)Lcom/example/vorgang/vorgang/model/Policy;"⟩ : MethodName) (head1 (Jvm.Cond.code (⟨"com/example/vorgang/vorgang/model/CallPolicyDispatchPinLaw", "policy", "(I)Lcom/example/vorgang/vorgang/model/Policy;"⟩ : MethodName) method_2_code 1 (some (.object "com/example/vorgang/vorgang/model/Policy")) :: ws) ({ frames := 0, cells := 0, slots := 0, locals := 0 } : Room)) (fun aG UG => aG = #[(.int ki)] ∧ Z.Warmed39 UG.vm ∧ UG.heap = h0) (fun _ _ _ _ _ => True) (fun _ UG oG UG' => ∃ vG LG, oG = .returned vG ∧ Q_rm_polA Z wA wD wG wU wV wN wB wC wF wE wO k_1 k_2 ki pk h0 n0 vG UG'.heap LG ∧ FrameEnd UG oG UG' LG ({ frames := 0, cells := 0, slots := 0, locals := 0 } : Room).cells ({ frames := 0, cells := 0, slots := 0, locals := 0 } : Room).slots) := by
  rcases pK with ⟨e1, e2⟩ | ⟨e1, e2⟩ | ⟨e1, e2⟩ | ⟨e1, e2⟩ | ⟨e1, e2⟩ | ⟨e1, e2⟩ | ⟨e1, e2⟩
  · subst e1; subst e2; exact rm_pol0 l Z a0 hw ws wA wD wG wU wV wN wB wC wF wE wO k_1 k_2  h0 n0 O0 hS
  · subst e1; subst e2; exact rm_pol1 l Z a0 hw ws wA wD wG wU wV wN wB wC wF wE wO k_1 k_2  h0 n0 O0 hS
  · subst e1; subst e2; exact rm_pol2 l Z a0 hw ws wA wD wG wU wV wN wB wC wF wE wO k_1 k_2  h0 n0 O0 hS
  · subst e1; subst e2; exact rm_pol3 l Z a0 hw ws wA wD wG wU wV wN wB wC wF wE wO k_1 k_2  h0 n0 O0 hS
  · subst e1; subst e2; exact rm_pol4 l Z a0 hw ws wA wD wG wU wV wN wB wC wF wE wO k_1 k_2  h0 n0 O0 hS
  · subst e1; subst e2; exact rm_pol5 l Z a0 hw ws wA wD wG wU wV wN wB wC wF wE wO k_1 k_2  h0 n0 O0 hS
  · subst e1; subst e2; exact rm_pol6 l Z a0 hw ws wA wD wG wU wV wN wB wC wF wE wO k_1 k_2  h0 n0 O0 hS

theorem d18_0 : decode method_3_code 0 = .ok (.iload_n 0, 1) := by decide +kernel
theorem d18_1 : decode method_3_code 1 = .ok (.ifCond .ne 13, 3) := by decide +kernel
theorem d18_4 : decode method_3_code 4 = .ok (.iload_n 1, 1) := by decide +kernel
theorem d18_5 : decode method_3_code 5 = .ok (.ifCond .eq 7, 3) := by decide +kernel
theorem d18_12 : decode method_3_code 12 = .ok (.iconst 2, 1) := by decide +kernel
theorem d18_13 : decode method_3_code 13 = .ok (.ireturn, 1) := by decide +kernel
def Q_rm_ru0_0 (Z : State) (wA wD wG wU wV wN wB wC wF wE wO : Addr) (k_1 k_2 : ClassId)  (h0 : Heap) (n0 : Nat) (v : Option Value) (h : Heap) (L : List Loc) : Prop := v = some (.int (2 : Int32)) ∧ Fr n0 L ∧ h = h0
set_option maxRecDepth 65536 in
set_option maxHeartbeats 40000000 in
theorem rm_ru0_0 (l : Launch) (Z : State) (a0 : Array Value) (hw : ∀ d ∈ tables_1, d.before a0 Z = true) (ws : List Jvm.Cond) (wA wD wG wU wV wN wB wC wF wE wO : Addr) (k_1 k_2 : ClassId)  (h0 : Heap) (n0 : Nat) (O0 : Old Z n0 h0) (hS : St0 Z wA wD wG wU wV wN wB wC wF wE wO k_1 k_2 ) :
    MetFree l (⟨"com/example/vorgang/vorgang/model/CallPolicyDispatchPinLaw", "rule", "(IZ)I"⟩ : MethodName) (head1 (Jvm.Cond.code (⟨"com/example/vorgang/vorgang/model/CallPolicyDispatchPinLaw", "rule", "(IZ)I"⟩ : MethodName) method_3_code 2 (some .int) :: ws) ({ frames := 0, cells := 0, slots := 0, locals := 0 } : Room)) (fun aG UG => aG = #[(.int (0 : Int32)), (.int (0 : Int32))] ∧ Z.Warmed39 UG.vm ∧ UG.heap = h0) (fun _ _ _ _ _ => True) (fun _ UG oG UG' => ∃ vG LG, oG = .returned vG ∧ Q_rm_ru0_0 Z wA wD wG wU wV wN wB wC wF wE wO k_1 k_2  h0 n0 vG UG'.heap LG ∧ FrameEnd UG oG UG' LG ({ frames := 0, cells := 0, slots := 0, locals := 0 } : Room).cells ({ frames := 0, cells := 0, slots := 0, locals := 0 } : Room).slots) := by
  refine MetFree.of_bodySF (plainFor_of_name pn_0) hisR ?_
  intro pG eG sG mG argsG belowG methG cG s₁ Bd hml0 hP hK
  obtain ⟨rfl, hZ, hh⟩ := hP
  have hx := Bd.exec
  have hby := Bd.bytes
  have hml : cG.maxLocals = 2 := hml0
  have hown : sG.vm.findClass "com/example/vorgang/vorgang/model/CallPolicyDispatchPinLaw" = some mG.cls := findClass_of_methodNamed Bd.named
  have hnm := (name_of_methodNamed Bd.named Bd.method).1
  have X0 : Stand pG l eG ({ frames := 0, cells := 0, slots := 0, locals := 0 } : Room) sG mG #[(.int (0 : Int32)), (.int (0 : Int32))] belowG methG cG s₁ [] 0 0 := Stand.of_body Bd
  have e0 : s₁.heap = h0 := by rw [← hh, Bd.state]; rfl
  have N0 := Fr.nil n0
  have K0 := Keep.refl h0 []
  obtain ⟨S_wA, E_wA, S_wD, E_wD, S_wG, E_wG, S_wU, E_wU, S_wV, E_wV, S_wN, E_wN, S_wB, E_wB, S_wC, E_wC, S_wF, E_wF, S_wE, E_wE, S_wO, E_wO, F_wA_ordinal, F_wG_ordinal, F_wD_ordinal, F_wU_ordinal, F_wV_ordinal, F_wN_ordinal, F_wB_ordinal, F_wC_ordinal, F_wF_ordinal, F_wE_ordinal, F_wO_value, L_1, L_2, ne_wA_wG, ne_wA_wD, ne_wA_wB, ne_wA_wC, ne_wA_wF, ne_wA_wE, ne_wG_wD, ne_wG_wB, ne_wG_wC, ne_wG_wF, ne_wG_wE, ne_wD_wB, ne_wD_wC, ne_wD_wF, ne_wD_wE, ne_wU_wV, ne_wU_wN, ne_wV_wN, ne_wB_wC, ne_wB_wF, ne_wB_wE, ne_wC_wF, ne_wC_wE, ne_wF_wE⟩ := (id hS : St0 Z wA wD wG wU wV wN wB wC wF wE wO k_1 k_2 )
  refine ostart (g' := (mkF mG 0 #[oi (0 : Int32), oi (0 : Int32)] [])) (by first | (simp [entryFrame, mkF, argsToLocals, Value.category]; done) | rfl) ?_
  refine ob s₁ (mkF mG 1 #[oi (0 : Int32), oi (0 : Int32)] [(.int (0 : Int32))]) (fun _ kk => XS.iloadN X0.here hx rfl (hb hby d18_0) rfl kk) ?_
  refine ob s₁ (mkF mG 4 #[oi (0 : Int32), oi (0 : Int32)] []) (fun _ kk => XS.ifNo X0.here hx rfl (hb hby d18_1) rfl ((if0 _ _).trans (teq (by decide : (0 : Int32) = (0 : Int32))).2) kk) ?_
  refine ob s₁ (mkF mG 5 #[oi (0 : Int32), oi (0 : Int32)] [(.int (0 : Int32))]) (fun _ kk => XS.iloadN X0.here hx rfl (hb hby d18_4) rfl kk) ?_
  refine ob s₁ (mkF mG 12 #[oi (0 : Int32), oi (0 : Int32)] []) (fun _ kk => XS.ifYes X0.here hx rfl (pc0 := 5) (pc' := 12) rfl (hb hby d18_5) rfl ((if0 _ _).trans (teq (by decide : (0 : Int32) = (0 : Int32))).1) (by decide) (by decide) kk) ?_
  refine ob s₁ (mkF mG 13 #[oi (0 : Int32), oi (0 : Int32)] [(.int (2 : Int32))]) (fun _ kk => XS.iconst X0.here hx rfl (hb hby d18_12) kk) ?_
  obtain ⟨fs, hr, hrun, hended, hW, hsame⟩ := X0.leave (v := some (.int (2 : Int32))) (fun h => by rw [Bd.returns] at h; cases h)
  refine oout (retOut X0 hx Bd.returns rfl (Or.inl ⟨rfl, Or.inl rfl, _, rfl⟩) (hb hby d18_13) hr) hrun hended ⟨_, _, rfl, ?_, ⟨_, rfl⟩, hW, hsame.mono (by decide) (by decide)⟩
  show Q_rm_ru0_0 Z wA wD wG wU wV wN wB wC wF wE wO k_1 k_2  h0 n0 _ s₁.heap _
  rw [e0]
  exact ⟨rfl, N0, rfl⟩

theorem d18_8 : decode method_3_code 8 = .ok (.iconst 1, 1) := by decide +kernel
theorem d18_9 : decode method_3_code 9 = .ok (.goto 4, 3) := by decide +kernel
def Q_rm_ru0_1 (Z : State) (wA wD wG wU wV wN wB wC wF wE wO : Addr) (k_1 k_2 : ClassId)  (h0 : Heap) (n0 : Nat) (v : Option Value) (h : Heap) (L : List Loc) : Prop := v = some (.int (1 : Int32)) ∧ Fr n0 L ∧ h = h0
set_option maxRecDepth 65536 in
set_option maxHeartbeats 40000000 in
theorem rm_ru0_1 (l : Launch) (Z : State) (a0 : Array Value) (hw : ∀ d ∈ tables_1, d.before a0 Z = true) (ws : List Jvm.Cond) (wA wD wG wU wV wN wB wC wF wE wO : Addr) (k_1 k_2 : ClassId)  (h0 : Heap) (n0 : Nat) (O0 : Old Z n0 h0) (hS : St0 Z wA wD wG wU wV wN wB wC wF wE wO k_1 k_2 ) :
    MetFree l (⟨"com/example/vorgang/vorgang/model/CallPolicyDispatchPinLaw", "rule", "(IZ)I"⟩ : MethodName) (head1 (Jvm.Cond.code (⟨"com/example/vorgang/vorgang/model/CallPolicyDispatchPinLaw", "rule", "(IZ)I"⟩ : MethodName) method_3_code 2 (some .int) :: ws) ({ frames := 0, cells := 0, slots := 0, locals := 0 } : Room)) (fun aG UG => aG = #[(.int (0 : Int32)), (.int (1 : Int32))] ∧ Z.Warmed39 UG.vm ∧ UG.heap = h0) (fun _ _ _ _ _ => True) (fun _ UG oG UG' => ∃ vG LG, oG = .returned vG ∧ Q_rm_ru0_1 Z wA wD wG wU wV wN wB wC wF wE wO k_1 k_2  h0 n0 vG UG'.heap LG ∧ FrameEnd UG oG UG' LG ({ frames := 0, cells := 0, slots := 0, locals := 0 } : Room).cells ({ frames := 0, cells := 0, slots := 0, locals := 0 } : Room).slots) := by
  refine MetFree.of_bodySF (plainFor_of_name pn_0) hisR ?_
  intro pG eG sG mG argsG belowG methG cG s₁ Bd hml0 hP hK
  obtain ⟨rfl, hZ, hh⟩ := hP
  have hx := Bd.exec
  have hby := Bd.bytes
  have hml : cG.maxLocals = 2 := hml0
  have hown : sG.vm.findClass "com/example/vorgang/vorgang/model/CallPolicyDispatchPinLaw" = some mG.cls := findClass_of_methodNamed Bd.named
  have hnm := (name_of_methodNamed Bd.named Bd.method).1
  have X0 : Stand pG l eG ({ frames := 0, cells := 0, slots := 0, locals := 0 } : Room) sG mG #[(.int (0 : Int32)), (.int (1 : Int32))] belowG methG cG s₁ [] 0 0 := Stand.of_body Bd
  have e0 : s₁.heap = h0 := by rw [← hh, Bd.state]; rfl
  have N0 := Fr.nil n0
  have K0 := Keep.refl h0 []
  obtain ⟨S_wA, E_wA, S_wD, E_wD, S_wG, E_wG, S_wU, E_wU, S_wV, E_wV, S_wN, E_wN, S_wB, E_wB, S_wC, E_wC, S_wF, E_wF, S_wE, E_wE, S_wO, E_wO, F_wA_ordinal, F_wG_ordinal, F_wD_ordinal, F_wU_ordinal, F_wV_ordinal, F_wN_ordinal, F_wB_ordinal, F_wC_ordinal, F_wF_ordinal, F_wE_ordinal, F_wO_value, L_1, L_2, ne_wA_wG, ne_wA_wD, ne_wA_wB, ne_wA_wC, ne_wA_wF, ne_wA_wE, ne_wG_wD, ne_wG_wB, ne_wG_wC, ne_wG_wF, ne_wG_wE, ne_wD_wB, ne_wD_wC, ne_wD_wF, ne_wD_wE, ne_wU_wV, ne_wU_wN, ne_wV_wN, ne_wB_wC, ne_wB_wF, ne_wB_wE, ne_wC_wF, ne_wC_wE, ne_wF_wE⟩ := (id hS : St0 Z wA wD wG wU wV wN wB wC wF wE wO k_1 k_2 )
  refine ostart (g' := (mkF mG 0 #[oi (0 : Int32), oi (1 : Int32)] [])) (by first | (simp [entryFrame, mkF, argsToLocals, Value.category]; done) | rfl) ?_
  refine ob s₁ (mkF mG 1 #[oi (0 : Int32), oi (1 : Int32)] [(.int (0 : Int32))]) (fun _ kk => XS.iloadN X0.here hx rfl (hb hby d18_0) rfl kk) ?_
  refine ob s₁ (mkF mG 4 #[oi (0 : Int32), oi (1 : Int32)] []) (fun _ kk => XS.ifNo X0.here hx rfl (hb hby d18_1) rfl ((if0 _ _).trans (teq (by decide : (0 : Int32) = (0 : Int32))).2) kk) ?_
  refine ob s₁ (mkF mG 5 #[oi (0 : Int32), oi (1 : Int32)] [(.int (1 : Int32))]) (fun _ kk => XS.iloadN X0.here hx rfl (hb hby d18_4) rfl kk) ?_
  refine ob s₁ (mkF mG 8 #[oi (0 : Int32), oi (1 : Int32)] []) (fun _ kk => XS.ifNo X0.here hx rfl (hb hby d18_5) rfl ((if0 _ _).trans (feq (by decide : ¬ ((1 : Int32) = (0 : Int32)))).1) kk) ?_
  refine ob s₁ (mkF mG 9 #[oi (0 : Int32), oi (1 : Int32)] [(.int (1 : Int32))]) (fun _ kk => XS.iconst X0.here hx rfl (hb hby d18_8) kk) ?_
  refine ob s₁ (mkF mG 13 #[oi (0 : Int32), oi (1 : Int32)] [(.int (1 : Int32))]) (fun _ kk => XS.goto X0.here hx rfl (pc0 := 9) (pc' := 13) rfl (hb hby d18_9) (by decide) (by decide) kk) ?_
  obtain ⟨fs, hr, hrun, hended, hW, hsame⟩ := X0.leave (v := some (.int (1 : Int32))) (fun h => by rw [Bd.returns] at h; cases h)
  refine oout (retOut X0 hx Bd.returns rfl (Or.inl ⟨rfl, Or.inl rfl, _, rfl⟩) (hb hby d18_13) hr) hrun hended ⟨_, _, rfl, ?_, ⟨_, rfl⟩, hW, hsame.mono (by decide) (by decide)⟩
  show Q_rm_ru0_1 Z wA wD wG wU wV wN wB wC wF wE wO k_1 k_2  h0 n0 _ s₁.heap _
  rw [e0]
  exact ⟨rfl, N0, rfl⟩

theorem d18_14 : decode method_3_code 14 = .ok (.iload_n 0, 1) := by decide +kernel
theorem d18_15 : decode method_3_code 15 = .ok (.iconst 1, 1) := by decide +kernel
theorem d18_16 : decode method_3_code 16 = .ok (.if_icmp .ne 5, 3) := by decide +kernel
theorem d18_19 : decode method_3_code 19 = .ok (.iconst 2, 1) := by decide +kernel
theorem d18_20 : decode method_3_code 20 = .ok (.ireturn, 1) := by decide +kernel
def Q_rm_ru1_0 (Z : State) (wA wD wG wU wV wN wB wC wF wE wO : Addr) (k_1 k_2 : ClassId)  (h0 : Heap) (n0 : Nat) (v : Option Value) (h : Heap) (L : List Loc) : Prop := v = some (.int (2 : Int32)) ∧ Fr n0 L ∧ h = h0
set_option maxRecDepth 65536 in
set_option maxHeartbeats 40000000 in
theorem rm_ru1_0 (l : Launch) (Z : State) (a0 : Array Value) (hw : ∀ d ∈ tables_1, d.before a0 Z = true) (ws : List Jvm.Cond) (wA wD wG wU wV wN wB wC wF wE wO : Addr) (k_1 k_2 : ClassId)  (h0 : Heap) (n0 : Nat) (O0 : Old Z n0 h0) (hS : St0 Z wA wD wG wU wV wN wB wC wF wE wO k_1 k_2 ) :
    MetFree l (⟨"com/example/vorgang/vorgang/model/CallPolicyDispatchPinLaw", "rule", "(IZ)I"⟩ : MethodName) (head1 (Jvm.Cond.code (⟨"com/example/vorgang/vorgang/model/CallPolicyDispatchPinLaw", "rule", "(IZ)I"⟩ : MethodName) method_3_code 2 (some .int) :: ws) ({ frames := 0, cells := 0, slots := 0, locals := 0 } : Room)) (fun aG UG => aG = #[(.int (1 : Int32)), (.int (0 : Int32))] ∧ Z.Warmed39 UG.vm ∧ UG.heap = h0) (fun _ _ _ _ _ => True) (fun _ UG oG UG' => ∃ vG LG, oG = .returned vG ∧ Q_rm_ru1_0 Z wA wD wG wU wV wN wB wC wF wE wO k_1 k_2  h0 n0 vG UG'.heap LG ∧ FrameEnd UG oG UG' LG ({ frames := 0, cells := 0, slots := 0, locals := 0 } : Room).cells ({ frames := 0, cells := 0, slots := 0, locals := 0 } : Room).slots) := by
  refine MetFree.of_bodySF (plainFor_of_name pn_0) hisR ?_
  intro pG eG sG mG argsG belowG methG cG s₁ Bd hml0 hP hK
  obtain ⟨rfl, hZ, hh⟩ := hP
  have hx := Bd.exec
  have hby := Bd.bytes
  have hml : cG.maxLocals = 2 := hml0
  have hown : sG.vm.findClass "com/example/vorgang/vorgang/model/CallPolicyDispatchPinLaw" = some mG.cls := findClass_of_methodNamed Bd.named
  have hnm := (name_of_methodNamed Bd.named Bd.method).1
  have X0 : Stand pG l eG ({ frames := 0, cells := 0, slots := 0, locals := 0 } : Room) sG mG #[(.int (1 : Int32)), (.int (0 : Int32))] belowG methG cG s₁ [] 0 0 := Stand.of_body Bd
  have e0 : s₁.heap = h0 := by rw [← hh, Bd.state]; rfl
  have N0 := Fr.nil n0
  have K0 := Keep.refl h0 []
  obtain ⟨S_wA, E_wA, S_wD, E_wD, S_wG, E_wG, S_wU, E_wU, S_wV, E_wV, S_wN, E_wN, S_wB, E_wB, S_wC, E_wC, S_wF, E_wF, S_wE, E_wE, S_wO, E_wO, F_wA_ordinal, F_wG_ordinal, F_wD_ordinal, F_wU_ordinal, F_wV_ordinal, F_wN_ordinal, F_wB_ordinal, F_wC_ordinal, F_wF_ordinal, F_wE_ordinal, F_wO_value, L_1, L_2, ne_wA_wG, ne_wA_wD, ne_wA_wB, ne_wA_wC, ne_wA_wF, ne_wA_wE, ne_wG_wD, ne_wG_wB, ne_wG_wC, ne_wG_wF, ne_wG_wE, ne_wD_wB, ne_wD_wC, ne_wD_wF, ne_wD_wE, ne_wU_wV, ne_wU_wN, ne_wV_wN, ne_wB_wC, ne_wB_wF, ne_wB_wE, ne_wC_wF, ne_wC_wE, ne_wF_wE⟩ := (id hS : St0 Z wA wD wG wU wV wN wB wC wF wE wO k_1 k_2 )
  refine ostart (g' := (mkF mG 0 #[oi (1 : Int32), oi (0 : Int32)] [])) (by first | (simp [entryFrame, mkF, argsToLocals, Value.category]; done) | rfl) ?_
  refine ob s₁ (mkF mG 1 #[oi (1 : Int32), oi (0 : Int32)] [(.int (1 : Int32))]) (fun _ kk => XS.iloadN X0.here hx rfl (hb hby d18_0) rfl kk) ?_
  refine ob s₁ (mkF mG 14 #[oi (1 : Int32), oi (0 : Int32)] []) (fun _ kk => XS.ifYes X0.here hx rfl (pc0 := 1) (pc' := 14) rfl (hb hby d18_1) rfl ((if0 _ _).trans (feq (by decide : ¬ ((1 : Int32) = (0 : Int32)))).2) (by decide) (by decide) kk) ?_
  refine ob s₁ (mkF mG 15 #[oi (1 : Int32), oi (0 : Int32)] [(.int (1 : Int32))]) (fun _ kk => XS.iloadN X0.here hx rfl (hb hby d18_14) rfl kk) ?_
  refine ob s₁ (mkF mG 16 #[oi (1 : Int32), oi (0 : Int32)] [(.int (1 : Int32)), (.int (1 : Int32))]) (fun _ kk => XS.iconst X0.here hx rfl (hb hby d18_15) kk) ?_
  refine ob s₁ (mkF mG 19 #[oi (1 : Int32), oi (0 : Int32)] []) (fun _ kk => XS.icmpNo X0.here hx rfl (hb hby d18_16) rfl (teq (by decide : (1 : Int32) = (1 : Int32))).2 kk) ?_
  refine ob s₁ (mkF mG 20 #[oi (1 : Int32), oi (0 : Int32)] [(.int (2 : Int32))]) (fun _ kk => XS.iconst X0.here hx rfl (hb hby d18_19) kk) ?_
  obtain ⟨fs, hr, hrun, hended, hW, hsame⟩ := X0.leave (v := some (.int (2 : Int32))) (fun h => by rw [Bd.returns] at h; cases h)
  refine oout (retOut X0 hx Bd.returns rfl (Or.inl ⟨rfl, Or.inl rfl, _, rfl⟩) (hb hby d18_20) hr) hrun hended ⟨_, _, rfl, ?_, ⟨_, rfl⟩, hW, hsame.mono (by decide) (by decide)⟩
  show Q_rm_ru1_0 Z wA wD wG wU wV wN wB wC wF wE wO k_1 k_2  h0 n0 _ s₁.heap _
  rw [e0]
  exact ⟨rfl, N0, rfl⟩

def Q_rm_ru1_1 (Z : State) (wA wD wG wU wV wN wB wC wF wE wO : Addr) (k_1 k_2 : ClassId)  (h0 : Heap) (n0 : Nat) (v : Option Value) (h : Heap) (L : List Loc) : Prop := v = some (.int (2 : Int32)) ∧ Fr n0 L ∧ h = h0
set_option maxRecDepth 65536 in
set_option maxHeartbeats 40000000 in
theorem rm_ru1_1 (l : Launch) (Z : State) (a0 : Array Value) (hw : ∀ d ∈ tables_1, d.before a0 Z = true) (ws : List Jvm.Cond) (wA wD wG wU wV wN wB wC wF wE wO : Addr) (k_1 k_2 : ClassId)  (h0 : Heap) (n0 : Nat) (O0 : Old Z n0 h0) (hS : St0 Z wA wD wG wU wV wN wB wC wF wE wO k_1 k_2 ) :
    MetFree l (⟨"com/example/vorgang/vorgang/model/CallPolicyDispatchPinLaw", "rule", "(IZ)I"⟩ : MethodName) (head1 (Jvm.Cond.code (⟨"com/example/vorgang/vorgang/model/CallPolicyDispatchPinLaw", "rule", "(IZ)I"⟩ : MethodName) method_3_code 2 (some .int) :: ws) ({ frames := 0, cells := 0, slots := 0, locals := 0 } : Room)) (fun aG UG => aG = #[(.int (1 : Int32)), (.int (1 : Int32))] ∧ Z.Warmed39 UG.vm ∧ UG.heap = h0) (fun _ _ _ _ _ => True) (fun _ UG oG UG' => ∃ vG LG, oG = .returned vG ∧ Q_rm_ru1_1 Z wA wD wG wU wV wN wB wC wF wE wO k_1 k_2  h0 n0 vG UG'.heap LG ∧ FrameEnd UG oG UG' LG ({ frames := 0, cells := 0, slots := 0, locals := 0 } : Room).cells ({ frames := 0, cells := 0, slots := 0, locals := 0 } : Room).slots) := by
  refine MetFree.of_bodySF (plainFor_of_name pn_0) hisR ?_
  intro pG eG sG mG argsG belowG methG cG s₁ Bd hml0 hP hK
  obtain ⟨rfl, hZ, hh⟩ := hP
  have hx := Bd.exec
  have hby := Bd.bytes
  have hml : cG.maxLocals = 2 := hml0
  have hown : sG.vm.findClass "com/example/vorgang/vorgang/model/CallPolicyDispatchPinLaw" = some mG.cls := findClass_of_methodNamed Bd.named
  have hnm := (name_of_methodNamed Bd.named Bd.method).1
  have X0 : Stand pG l eG ({ frames := 0, cells := 0, slots := 0, locals := 0 } : Room) sG mG #[(.int (1 : Int32)), (.int (1 : Int32))] belowG methG cG s₁ [] 0 0 := Stand.of_body Bd
  have e0 : s₁.heap = h0 := by rw [← hh, Bd.state]; rfl
  have N0 := Fr.nil n0
  have K0 := Keep.refl h0 []
  obtain ⟨S_wA, E_wA, S_wD, E_wD, S_wG, E_wG, S_wU, E_wU, S_wV, E_wV, S_wN, E_wN, S_wB, E_wB, S_wC, E_wC, S_wF, E_wF, S_wE, E_wE, S_wO, E_wO, F_wA_ordinal, F_wG_ordinal, F_wD_ordinal, F_wU_ordinal, F_wV_ordinal, F_wN_ordinal, F_wB_ordinal, F_wC_ordinal, F_wF_ordinal, F_wE_ordinal, F_wO_value, L_1, L_2, ne_wA_wG, ne_wA_wD, ne_wA_wB, ne_wA_wC, ne_wA_wF, ne_wA_wE, ne_wG_wD, ne_wG_wB, ne_wG_wC, ne_wG_wF, ne_wG_wE, ne_wD_wB, ne_wD_wC, ne_wD_wF, ne_wD_wE, ne_wU_wV, ne_wU_wN, ne_wV_wN, ne_wB_wC, ne_wB_wF, ne_wB_wE, ne_wC_wF, ne_wC_wE, ne_wF_wE⟩ := (id hS : St0 Z wA wD wG wU wV wN wB wC wF wE wO k_1 k_2 )
  refine ostart (g' := (mkF mG 0 #[oi (1 : Int32), oi (1 : Int32)] [])) (by first | (simp [entryFrame, mkF, argsToLocals, Value.category]; done) | rfl) ?_
  refine ob s₁ (mkF mG 1 #[oi (1 : Int32), oi (1 : Int32)] [(.int (1 : Int32))]) (fun _ kk => XS.iloadN X0.here hx rfl (hb hby d18_0) rfl kk) ?_
  refine ob s₁ (mkF mG 14 #[oi (1 : Int32), oi (1 : Int32)] []) (fun _ kk => XS.ifYes X0.here hx rfl (pc0 := 1) (pc' := 14) rfl (hb hby d18_1) rfl ((if0 _ _).trans (feq (by decide : ¬ ((1 : Int32) = (0 : Int32)))).2) (by decide) (by decide) kk) ?_
  refine ob s₁ (mkF mG 15 #[oi (1 : Int32), oi (1 : Int32)] [(.int (1 : Int32))]) (fun _ kk => XS.iloadN X0.here hx rfl (hb hby d18_14) rfl kk) ?_
  refine ob s₁ (mkF mG 16 #[oi (1 : Int32), oi (1 : Int32)] [(.int (1 : Int32)), (.int (1 : Int32))]) (fun _ kk => XS.iconst X0.here hx rfl (hb hby d18_15) kk) ?_
  refine ob s₁ (mkF mG 19 #[oi (1 : Int32), oi (1 : Int32)] []) (fun _ kk => XS.icmpNo X0.here hx rfl (hb hby d18_16) rfl (teq (by decide : (1 : Int32) = (1 : Int32))).2 kk) ?_
  refine ob s₁ (mkF mG 20 #[oi (1 : Int32), oi (1 : Int32)] [(.int (2 : Int32))]) (fun _ kk => XS.iconst X0.here hx rfl (hb hby d18_19) kk) ?_
  obtain ⟨fs, hr, hrun, hended, hW, hsame⟩ := X0.leave (v := some (.int (2 : Int32))) (fun h => by rw [Bd.returns] at h; cases h)
  refine oout (retOut X0 hx Bd.returns rfl (Or.inl ⟨rfl, Or.inl rfl, _, rfl⟩) (hb hby d18_20) hr) hrun hended ⟨_, _, rfl, ?_, ⟨_, rfl⟩, hW, hsame.mono (by decide) (by decide)⟩
  show Q_rm_ru1_1 Z wA wD wG wU wV wN wB wC wF wE wO k_1 k_2  h0 n0 _ s₁.heap _
  rw [e0]
  exact ⟨rfl, N0, rfl⟩

theorem d18_21 : decode method_3_code 21 = .ok (.iload_n 0, 1) := by decide +kernel
theorem d18_22 : decode method_3_code 22 = .ok (.iconst 2, 1) := by decide +kernel
theorem d18_23 : decode method_3_code 23 = .ok (.if_icmp .ne 13, 3) := by decide +kernel
theorem d18_26 : decode method_3_code 26 = .ok (.iload_n 1, 1) := by decide +kernel
theorem d18_27 : decode method_3_code 27 = .ok (.ifCond .eq 7, 3) := by decide +kernel
theorem d18_34 : decode method_3_code 34 = .ok (.iconst 0, 1) := by decide +kernel
theorem d18_35 : decode method_3_code 35 = .ok (.ireturn, 1) := by decide +kernel
def Q_rm_ru2_0 (Z : State) (wA wD wG wU wV wN wB wC wF wE wO : Addr) (k_1 k_2 : ClassId)  (h0 : Heap) (n0 : Nat) (v : Option Value) (h : Heap) (L : List Loc) : Prop := v = some (.int (0 : Int32)) ∧ Fr n0 L ∧ h = h0
set_option maxRecDepth 65536 in
set_option maxHeartbeats 40000000 in
theorem rm_ru2_0 (l : Launch) (Z : State) (a0 : Array Value) (hw : ∀ d ∈ tables_1, d.before a0 Z = true) (ws : List Jvm.Cond) (wA wD wG wU wV wN wB wC wF wE wO : Addr) (k_1 k_2 : ClassId)  (h0 : Heap) (n0 : Nat) (O0 : Old Z n0 h0) (hS : St0 Z wA wD wG wU wV wN wB wC wF wE wO k_1 k_2 ) :
    MetFree l (⟨"com/example/vorgang/vorgang/model/CallPolicyDispatchPinLaw", "rule", "(IZ)I"⟩ : MethodName) (head1 (Jvm.Cond.code (⟨"com/example/vorgang/vorgang/model/CallPolicyDispatchPinLaw", "rule", "(IZ)I"⟩ : MethodName) method_3_code 2 (some .int) :: ws) ({ frames := 0, cells := 0, slots := 0, locals := 0 } : Room)) (fun aG UG => aG = #[(.int (2 : Int32)), (.int (0 : Int32))] ∧ Z.Warmed39 UG.vm ∧ UG.heap = h0) (fun _ _ _ _ _ => True) (fun _ UG oG UG' => ∃ vG LG, oG = .returned vG ∧ Q_rm_ru2_0 Z wA wD wG wU wV wN wB wC wF wE wO k_1 k_2  h0 n0 vG UG'.heap LG ∧ FrameEnd UG oG UG' LG ({ frames := 0, cells := 0, slots := 0, locals := 0 } : Room).cells ({ frames := 0, cells := 0, slots := 0, locals := 0 } : Room).slots) := by
  refine MetFree.of_bodySF (plainFor_of_name pn_0) hisR ?_
  intro pG eG sG mG argsG belowG methG cG s₁ Bd hml0 hP hK
  obtain ⟨rfl, hZ, hh⟩ := hP
  have hx := Bd.exec
  have hby := Bd.bytes
  have hml : cG.maxLocals = 2 := hml0
  have hown : sG.vm.findClass "com/example/vorgang/vorgang/model/CallPolicyDispatchPinLaw" = some mG.cls := findClass_of_methodNamed Bd.named
  have hnm := (name_of_methodNamed Bd.named Bd.method).1
  have X0 : Stand pG l eG ({ frames := 0, cells := 0, slots := 0, locals := 0 } : Room) sG mG #[(.int (2 : Int32)), (.int (0 : Int32))] belowG methG cG s₁ [] 0 0 := Stand.of_body Bd
  have e0 : s₁.heap = h0 := by rw [← hh, Bd.state]; rfl
  have N0 := Fr.nil n0
  have K0 := Keep.refl h0 []
  obtain ⟨S_wA, E_wA, S_wD, E_wD, S_wG, E_wG, S_wU, E_wU, S_wV, E_wV, S_wN, E_wN, S_wB, E_wB, S_wC, E_wC, S_wF, E_wF, S_wE, E_wE, S_wO, E_wO, F_wA_ordinal, F_wG_ordinal, F_wD_ordinal, F_wU_ordinal, F_wV_ordinal, F_wN_ordinal, F_wB_ordinal, F_wC_ordinal, F_wF_ordinal, F_wE_ordinal, F_wO_value, L_1, L_2, ne_wA_wG, ne_wA_wD, ne_wA_wB, ne_wA_wC, ne_wA_wF, ne_wA_wE, ne_wG_wD, ne_wG_wB, ne_wG_wC, ne_wG_wF, ne_wG_wE, ne_wD_wB, ne_wD_wC, ne_wD_wF, ne_wD_wE, ne_wU_wV, ne_wU_wN, ne_wV_wN, ne_wB_wC, ne_wB_wF, ne_wB_wE, ne_wC_wF, ne_wC_wE, ne_wF_wE⟩ := (id hS : St0 Z wA wD wG wU wV wN wB wC wF wE wO k_1 k_2 )
  refine ostart (g' := (mkF mG 0 #[oi (2 : Int32), oi (0 : Int32)] [])) (by first | (simp [entryFrame, mkF, argsToLocals, Value.category]; done) | rfl) ?_
  refine ob s₁ (mkF mG 1 #[oi (2 : Int32), oi (0 : Int32)] [(.int (2 : Int32))]) (fun _ kk => XS.iloadN X0.here hx rfl (hb hby d18_0) rfl kk) ?_
  refine ob s₁ (mkF mG 14 #[oi (2 : Int32), oi (0 : Int32)] []) (fun _ kk => XS.ifYes X0.here hx rfl (pc0 := 1) (pc' := 14) rfl (hb hby d18_1) rfl ((if0 _ _).trans (feq (by decide : ¬ ((2 : Int32) = (0 : Int32)))).2) (by decide) (by decide) kk) ?_
  refine ob s₁ (mkF mG 15 #[oi (2 : Int32), oi (0 : Int32)] [(.int (2 : Int32))]) (fun _ kk => XS.iloadN X0.here hx rfl (hb hby d18_14) rfl kk) ?_
  refine ob s₁ (mkF mG 16 #[oi (2 : Int32), oi (0 : Int32)] [(.int (1 : Int32)), (.int (2 : Int32))]) (fun _ kk => XS.iconst X0.here hx rfl (hb hby d18_15) kk) ?_
  refine ob s₁ (mkF mG 21 #[oi (2 : Int32), oi (0 : Int32)] []) (fun _ kk => XS.icmpYes X0.here hx rfl (pc0 := 16) (pc' := 21) rfl (hb hby d18_16) rfl (feq (by decide : ¬ ((2 : Int32) = (1 : Int32)))).2 (by decide) (by decide) kk) ?_
  refine ob s₁ (mkF mG 22 #[oi (2 : Int32), oi (0 : Int32)] [(.int (2 : Int32))]) (fun _ kk => XS.iloadN X0.here hx rfl (hb hby d18_21) rfl kk) ?_
  refine ob s₁ (mkF mG 23 #[oi (2 : Int32), oi (0 : Int32)] [(.int (2 : Int32)), (.int (2 : Int32))]) (fun _ kk => XS.iconst X0.here hx rfl (hb hby d18_22) kk) ?_
  refine ob s₁ (mkF mG 26 #[oi (2 : Int32), oi (0 : Int32)] []) (fun _ kk => XS.icmpNo X0.here hx rfl (hb hby d18_23) rfl (teq (by decide : (2 : Int32) = (2 : Int32))).2 kk) ?_
  refine ob s₁ (mkF mG 27 #[oi (2 : Int32), oi (0 : Int32)] [(.int (0 : Int32))]) (fun _ kk => XS.iloadN X0.here hx rfl (hb hby d18_26) rfl kk) ?_
  refine ob s₁ (mkF mG 34 #[oi (2 : Int32), oi (0 : Int32)] []) (fun _ kk => XS.ifYes X0.here hx rfl (pc0 := 27) (pc' := 34) rfl (hb hby d18_27) rfl ((if0 _ _).trans (teq (by decide : (0 : Int32) = (0 : Int32))).1) (by decide) (by decide) kk) ?_
  refine ob s₁ (mkF mG 35 #[oi (2 : Int32), oi (0 : Int32)] [(.int (0 : Int32))]) (fun _ kk => XS.iconst X0.here hx rfl (hb hby d18_34) kk) ?_
  obtain ⟨fs, hr, hrun, hended, hW, hsame⟩ := X0.leave (v := some (.int (0 : Int32))) (fun h => by rw [Bd.returns] at h; cases h)
  refine oout (retOut X0 hx Bd.returns rfl (Or.inl ⟨rfl, Or.inl rfl, _, rfl⟩) (hb hby d18_35) hr) hrun hended ⟨_, _, rfl, ?_, ⟨_, rfl⟩, hW, hsame.mono (by decide) (by decide)⟩
  show Q_rm_ru2_0 Z wA wD wG wU wV wN wB wC wF wE wO k_1 k_2  h0 n0 _ s₁.heap _
  rw [e0]
  exact ⟨rfl, N0, rfl⟩

theorem d18_30 : decode method_3_code 30 = .ok (.iconst 1, 1) := by decide +kernel
theorem d18_31 : decode method_3_code 31 = .ok (.goto 4, 3) := by decide +kernel
def Q_rm_ru2_1 (Z : State) (wA wD wG wU wV wN wB wC wF wE wO : Addr) (k_1 k_2 : ClassId)  (h0 : Heap) (n0 : Nat) (v : Option Value) (h : Heap) (L : List Loc) : Prop := v = some (.int (1 : Int32)) ∧ Fr n0 L ∧ h = h0
set_option maxRecDepth 65536 in
set_option maxHeartbeats 40000000 in
theorem rm_ru2_1 (l : Launch) (Z : State) (a0 : Array Value) (hw : ∀ d ∈ tables_1, d.before a0 Z = true) (ws : List Jvm.Cond) (wA wD wG wU wV wN wB wC wF wE wO : Addr) (k_1 k_2 : ClassId)  (h0 : Heap) (n0 : Nat) (O0 : Old Z n0 h0) (hS : St0 Z wA wD wG wU wV wN wB wC wF wE wO k_1 k_2 ) :
    MetFree l (⟨"com/example/vorgang/vorgang/model/CallPolicyDispatchPinLaw", "rule", "(IZ)I"⟩ : MethodName) (head1 (Jvm.Cond.code (⟨"com/example/vorgang/vorgang/model/CallPolicyDispatchPinLaw", "rule", "(IZ)I"⟩ : MethodName) method_3_code 2 (some .int) :: ws) ({ frames := 0, cells := 0, slots := 0, locals := 0 } : Room)) (fun aG UG => aG = #[(.int (2 : Int32)), (.int (1 : Int32))] ∧ Z.Warmed39 UG.vm ∧ UG.heap = h0) (fun _ _ _ _ _ => True) (fun _ UG oG UG' => ∃ vG LG, oG = .returned vG ∧ Q_rm_ru2_1 Z wA wD wG wU wV wN wB wC wF wE wO k_1 k_2  h0 n0 vG UG'.heap LG ∧ FrameEnd UG oG UG' LG ({ frames := 0, cells := 0, slots := 0, locals := 0 } : Room).cells ({ frames := 0, cells := 0, slots := 0, locals := 0 } : Room).slots) := by
  refine MetFree.of_bodySF (plainFor_of_name pn_0) hisR ?_
  intro pG eG sG mG argsG belowG methG cG s₁ Bd hml0 hP hK
  obtain ⟨rfl, hZ, hh⟩ := hP
  have hx := Bd.exec
  have hby := Bd.bytes
  have hml : cG.maxLocals = 2 := hml0
  have hown : sG.vm.findClass "com/example/vorgang/vorgang/model/CallPolicyDispatchPinLaw" = some mG.cls := findClass_of_methodNamed Bd.named
  have hnm := (name_of_methodNamed Bd.named Bd.method).1
  have X0 : Stand pG l eG ({ frames := 0, cells := 0, slots := 0, locals := 0 } : Room) sG mG #[(.int (2 : Int32)), (.int (1 : Int32))] belowG methG cG s₁ [] 0 0 := Stand.of_body Bd
  have e0 : s₁.heap = h0 := by rw [← hh, Bd.state]; rfl
  have N0 := Fr.nil n0
  have K0 := Keep.refl h0 []
  obtain ⟨S_wA, E_wA, S_wD, E_wD, S_wG, E_wG, S_wU, E_wU, S_wV, E_wV, S_wN, E_wN, S_wB, E_wB, S_wC, E_wC, S_wF, E_wF, S_wE, E_wE, S_wO, E_wO, F_wA_ordinal, F_wG_ordinal, F_wD_ordinal, F_wU_ordinal, F_wV_ordinal, F_wN_ordinal, F_wB_ordinal, F_wC_ordinal, F_wF_ordinal, F_wE_ordinal, F_wO_value, L_1, L_2, ne_wA_wG, ne_wA_wD, ne_wA_wB, ne_wA_wC, ne_wA_wF, ne_wA_wE, ne_wG_wD, ne_wG_wB, ne_wG_wC, ne_wG_wF, ne_wG_wE, ne_wD_wB, ne_wD_wC, ne_wD_wF, ne_wD_wE, ne_wU_wV, ne_wU_wN, ne_wV_wN, ne_wB_wC, ne_wB_wF, ne_wB_wE, ne_wC_wF, ne_wC_wE, ne_wF_wE⟩ := (id hS : St0 Z wA wD wG wU wV wN wB wC wF wE wO k_1 k_2 )
  refine ostart (g' := (mkF mG 0 #[oi (2 : Int32), oi (1 : Int32)] [])) (by first | (simp [entryFrame, mkF, argsToLocals, Value.category]; done) | rfl) ?_
  refine ob s₁ (mkF mG 1 #[oi (2 : Int32), oi (1 : Int32)] [(.int (2 : Int32))]) (fun _ kk => XS.iloadN X0.here hx rfl (hb hby d18_0) rfl kk) ?_
  refine ob s₁ (mkF mG 14 #[oi (2 : Int32), oi (1 : Int32)] []) (fun _ kk => XS.ifYes X0.here hx rfl (pc0 := 1) (pc' := 14) rfl (hb hby d18_1) rfl ((if0 _ _).trans (feq (by decide : ¬ ((2 : Int32) = (0 : Int32)))).2) (by decide) (by decide) kk) ?_
  refine ob s₁ (mkF mG 15 #[oi (2 : Int32), oi (1 : Int32)] [(.int (2 : Int32))]) (fun _ kk => XS.iloadN X0.here hx rfl (hb hby d18_14) rfl kk) ?_
  refine ob s₁ (mkF mG 16 #[oi (2 : Int32), oi (1 : Int32)] [(.int (1 : Int32)), (.int (2 : Int32))]) (fun _ kk => XS.iconst X0.here hx rfl (hb hby d18_15) kk) ?_
  refine ob s₁ (mkF mG 21 #[oi (2 : Int32), oi (1 : Int32)] []) (fun _ kk => XS.icmpYes X0.here hx rfl (pc0 := 16) (pc' := 21) rfl (hb hby d18_16) rfl (feq (by decide : ¬ ((2 : Int32) = (1 : Int32)))).2 (by decide) (by decide) kk) ?_
  refine ob s₁ (mkF mG 22 #[oi (2 : Int32), oi (1 : Int32)] [(.int (2 : Int32))]) (fun _ kk => XS.iloadN X0.here hx rfl (hb hby d18_21) rfl kk) ?_
  refine ob s₁ (mkF mG 23 #[oi (2 : Int32), oi (1 : Int32)] [(.int (2 : Int32)), (.int (2 : Int32))]) (fun _ kk => XS.iconst X0.here hx rfl (hb hby d18_22) kk) ?_
  refine ob s₁ (mkF mG 26 #[oi (2 : Int32), oi (1 : Int32)] []) (fun _ kk => XS.icmpNo X0.here hx rfl (hb hby d18_23) rfl (teq (by decide : (2 : Int32) = (2 : Int32))).2 kk) ?_
  refine ob s₁ (mkF mG 27 #[oi (2 : Int32), oi (1 : Int32)] [(.int (1 : Int32))]) (fun _ kk => XS.iloadN X0.here hx rfl (hb hby d18_26) rfl kk) ?_
  refine ob s₁ (mkF mG 30 #[oi (2 : Int32), oi (1 : Int32)] []) (fun _ kk => XS.ifNo X0.here hx rfl (hb hby d18_27) rfl ((if0 _ _).trans (feq (by decide : ¬ ((1 : Int32) = (0 : Int32)))).1) kk) ?_
  refine ob s₁ (mkF mG 31 #[oi (2 : Int32), oi (1 : Int32)] [(.int (1 : Int32))]) (fun _ kk => XS.iconst X0.here hx rfl (hb hby d18_30) kk) ?_
  refine ob s₁ (mkF mG 35 #[oi (2 : Int32), oi (1 : Int32)] [(.int (1 : Int32))]) (fun _ kk => XS.goto X0.here hx rfl (pc0 := 31) (pc' := 35) rfl (hb hby d18_31) (by decide) (by decide) kk) ?_
  obtain ⟨fs, hr, hrun, hended, hW, hsame⟩ := X0.leave (v := some (.int (1 : Int32))) (fun h => by rw [Bd.returns] at h; cases h)
  refine oout (retOut X0 hx Bd.returns rfl (Or.inl ⟨rfl, Or.inl rfl, _, rfl⟩) (hb hby d18_35) hr) hrun hended ⟨_, _, rfl, ?_, ⟨_, rfl⟩, hW, hsame.mono (by decide) (by decide)⟩
  show Q_rm_ru2_1 Z wA wD wG wU wV wN wB wC wF wE wO k_1 k_2  h0 n0 _ s₁.heap _
  rw [e0]
  exact ⟨rfl, N0, rfl⟩

theorem d18_36 : decode method_3_code 36 = .ok (.iload_n 0, 1) := by decide +kernel
theorem d18_37 : decode method_3_code 37 = .ok (.iconst 3, 1) := by decide +kernel
theorem d18_38 : decode method_3_code 38 = .ok (.if_icmp .ne 5, 3) := by decide +kernel
theorem d18_41 : decode method_3_code 41 = .ok (.iconst 0, 1) := by decide +kernel
theorem d18_42 : decode method_3_code 42 = .ok (.ireturn, 1) := by decide +kernel
def Q_rm_ru3_0 (Z : State) (wA wD wG wU wV wN wB wC wF wE wO : Addr) (k_1 k_2 : ClassId)  (h0 : Heap) (n0 : Nat) (v : Option Value) (h : Heap) (L : List Loc) : Prop := v = some (.int (0 : Int32)) ∧ Fr n0 L ∧ h = h0
set_option maxRecDepth 65536 in
set_option maxHeartbeats 40000000 in
theorem rm_ru3_0 (l : Launch) (Z : State) (a0 : Array Value) (hw : ∀ d ∈ tables_1, d.before a0 Z = true) (ws : List Jvm.Cond) (wA wD wG wU wV wN wB wC wF wE wO : Addr) (k_1 k_2 : ClassId)  (h0 : Heap) (n0 : Nat) (O0 : Old Z n0 h0) (hS : St0 Z wA wD wG wU wV wN wB wC wF wE wO k_1 k_2 ) :
    MetFree l (⟨"com/example/vorgang/vorgang/model/CallPolicyDispatchPinLaw", "rule", "(IZ)I"⟩ : MethodName) (head1 (Jvm.Cond.code (⟨"com/example/vorgang/vorgang/model/CallPolicyDispatchPinLaw", "rule", "(IZ)I"⟩ : MethodName) method_3_code 2 (some .int) :: ws) ({ frames := 0, cells := 0, slots := 0, locals := 0 } : Room)) (fun aG UG => aG = #[(.int (3 : Int32)), (.int (0 : Int32))] ∧ Z.Warmed39 UG.vm ∧ UG.heap = h0) (fun _ _ _ _ _ => True) (fun _ UG oG UG' => ∃ vG LG, oG = .returned vG ∧ Q_rm_ru3_0 Z wA wD wG wU wV wN wB wC wF wE wO k_1 k_2  h0 n0 vG UG'.heap LG ∧ FrameEnd UG oG UG' LG ({ frames := 0, cells := 0, slots := 0, locals := 0 } : Room).cells ({ frames := 0, cells := 0, slots := 0, locals := 0 } : Room).slots) := by
  refine MetFree.of_bodySF (plainFor_of_name pn_0) hisR ?_
  intro pG eG sG mG argsG belowG methG cG s₁ Bd hml0 hP hK
  obtain ⟨rfl, hZ, hh⟩ := hP
  have hx := Bd.exec
  have hby := Bd.bytes
  have hml : cG.maxLocals = 2 := hml0
  have hown : sG.vm.findClass "com/example/vorgang/vorgang/model/CallPolicyDispatchPinLaw" = some mG.cls := findClass_of_methodNamed Bd.named
  have hnm := (name_of_methodNamed Bd.named Bd.method).1
  have X0 : Stand pG l eG ({ frames := 0, cells := 0, slots := 0, locals := 0 } : Room) sG mG #[(.int (3 : Int32)), (.int (0 : Int32))] belowG methG cG s₁ [] 0 0 := Stand.of_body Bd
  have e0 : s₁.heap = h0 := by rw [← hh, Bd.state]; rfl
  have N0 := Fr.nil n0
  have K0 := Keep.refl h0 []
  obtain ⟨S_wA, E_wA, S_wD, E_wD, S_wG, E_wG, S_wU, E_wU, S_wV, E_wV, S_wN, E_wN, S_wB, E_wB, S_wC, E_wC, S_wF, E_wF, S_wE, E_wE, S_wO, E_wO, F_wA_ordinal, F_wG_ordinal, F_wD_ordinal, F_wU_ordinal, F_wV_ordinal, F_wN_ordinal, F_wB_ordinal, F_wC_ordinal, F_wF_ordinal, F_wE_ordinal, F_wO_value, L_1, L_2, ne_wA_wG, ne_wA_wD, ne_wA_wB, ne_wA_wC, ne_wA_wF, ne_wA_wE, ne_wG_wD, ne_wG_wB, ne_wG_wC, ne_wG_wF, ne_wG_wE, ne_wD_wB, ne_wD_wC, ne_wD_wF, ne_wD_wE, ne_wU_wV, ne_wU_wN, ne_wV_wN, ne_wB_wC, ne_wB_wF, ne_wB_wE, ne_wC_wF, ne_wC_wE, ne_wF_wE⟩ := (id hS : St0 Z wA wD wG wU wV wN wB wC wF wE wO k_1 k_2 )
  refine ostart (g' := (mkF mG 0 #[oi (3 : Int32), oi (0 : Int32)] [])) (by first | (simp [entryFrame, mkF, argsToLocals, Value.category]; done) | rfl) ?_
  refine ob s₁ (mkF mG 1 #[oi (3 : Int32), oi (0 : Int32)] [(.int (3 : Int32))]) (fun _ kk => XS.iloadN X0.here hx rfl (hb hby d18_0) rfl kk) ?_
  refine ob s₁ (mkF mG 14 #[oi (3 : Int32), oi (0 : Int32)] []) (fun _ kk => XS.ifYes X0.here hx rfl (pc0 := 1) (pc' := 14) rfl (hb hby d18_1) rfl ((if0 _ _).trans (feq (by decide : ¬ ((3 : Int32) = (0 : Int32)))).2) (by decide) (by decide) kk) ?_
  refine ob s₁ (mkF mG 15 #[oi (3 : Int32), oi (0 : Int32)] [(.int (3 : Int32))]) (fun _ kk => XS.iloadN X0.here hx rfl (hb hby d18_14) rfl kk) ?_
  refine ob s₁ (mkF mG 16 #[oi (3 : Int32), oi (0 : Int32)] [(.int (1 : Int32)), (.int (3 : Int32))]) (fun _ kk => XS.iconst X0.here hx rfl (hb hby d18_15) kk) ?_
  refine ob s₁ (mkF mG 21 #[oi (3 : Int32), oi (0 : Int32)] []) (fun _ kk => XS.icmpYes X0.here hx rfl (pc0 := 16) (pc' := 21) rfl (hb hby d18_16) rfl (feq (by decide : ¬ ((3 : Int32) = (1 : Int32)))).2 (by decide) (by decide) kk) ?_
  refine ob s₁ (mkF mG 22 #[oi (3 : Int32), oi (0 : Int32)] [(.int (3 : Int32))]) (fun _ kk => XS.iloadN X0.here hx rfl (hb hby d18_21) rfl kk) ?_
  refine ob s₁ (mkF mG 23 #[oi (3 : Int32), oi (0 : Int32)] [(.int (2 : Int32)), (.int (3 : Int32))]) (fun _ kk => XS.iconst X0.here hx rfl (hb hby d18_22) kk) ?_
  refine ob s₁ (mkF mG 36 #[oi (3 : Int32), oi (0 : Int32)] []) (fun _ kk => XS.icmpYes X0.here hx rfl (pc0 := 23) (pc' := 36) rfl (hb hby d18_23) rfl (feq (by decide : ¬ ((3 : Int32) = (2 : Int32)))).2 (by decide) (by decide) kk) ?_
  refine ob s₁ (mkF mG 37 #[oi (3 : Int32), oi (0 : Int32)] [(.int (3 : Int32))]) (fun _ kk => XS.iloadN X0.here hx rfl (hb hby d18_36) rfl kk) ?_
  refine ob s₁ (mkF mG 38 #[oi (3 : Int32), oi (0 : Int32)] [(.int (3 : Int32)), (.int (3 : Int32))]) (fun _ kk => XS.iconst X0.here hx rfl (hb hby d18_37) kk) ?_
  refine ob s₁ (mkF mG 41 #[oi (3 : Int32), oi (0 : Int32)] []) (fun _ kk => XS.icmpNo X0.here hx rfl (hb hby d18_38) rfl (teq (by decide : (3 : Int32) = (3 : Int32))).2 kk) ?_
  refine ob s₁ (mkF mG 42 #[oi (3 : Int32), oi (0 : Int32)] [(.int (0 : Int32))]) (fun _ kk => XS.iconst X0.here hx rfl (hb hby d18_41) kk) ?_
  obtain ⟨fs, hr, hrun, hended, hW, hsame⟩ := X0.leave (v := some (.int (0 : Int32))) (fun h => by rw [Bd.returns] at h; cases h)
  refine oout (retOut X0 hx Bd.returns rfl (Or.inl ⟨rfl, Or.inl rfl, _, rfl⟩) (hb hby d18_42) hr) hrun hended ⟨_, _, rfl, ?_, ⟨_, rfl⟩, hW, hsame.mono (by decide) (by decide)⟩
  show Q_rm_ru3_0 Z wA wD wG wU wV wN wB wC wF wE wO k_1 k_2  h0 n0 _ s₁.heap _
  rw [e0]
  exact ⟨rfl, N0, rfl⟩

def Q_rm_ru3_1 (Z : State) (wA wD wG wU wV wN wB wC wF wE wO : Addr) (k_1 k_2 : ClassId)  (h0 : Heap) (n0 : Nat) (v : Option Value) (h : Heap) (L : List Loc) : Prop := v = some (.int (0 : Int32)) ∧ Fr n0 L ∧ h = h0
set_option maxRecDepth 65536 in
set_option maxHeartbeats 40000000 in
theorem rm_ru3_1 (l : Launch) (Z : State) (a0 : Array Value) (hw : ∀ d ∈ tables_1, d.before a0 Z = true) (ws : List Jvm.Cond) (wA wD wG wU wV wN wB wC wF wE wO : Addr) (k_1 k_2 : ClassId)  (h0 : Heap) (n0 : Nat) (O0 : Old Z n0 h0) (hS : St0 Z wA wD wG wU wV wN wB wC wF wE wO k_1 k_2 ) :
    MetFree l (⟨"com/example/vorgang/vorgang/model/CallPolicyDispatchPinLaw", "rule", "(IZ)I"⟩ : MethodName) (head1 (Jvm.Cond.code (⟨"com/example/vorgang/vorgang/model/CallPolicyDispatchPinLaw", "rule", "(IZ)I"⟩ : MethodName) method_3_code 2 (some .int) :: ws) ({ frames := 0, cells := 0, slots := 0, locals := 0 } : Room)) (fun aG UG => aG = #[(.int (3 : Int32)), (.int (1 : Int32))] ∧ Z.Warmed39 UG.vm ∧ UG.heap = h0) (fun _ _ _ _ _ => True) (fun _ UG oG UG' => ∃ vG LG, oG = .returned vG ∧ Q_rm_ru3_1 Z wA wD wG wU wV wN wB wC wF wE wO k_1 k_2  h0 n0 vG UG'.heap LG ∧ FrameEnd UG oG UG' LG ({ frames := 0, cells := 0, slots := 0, locals := 0 } : Room).cells ({ frames := 0, cells := 0, slots := 0, locals := 0 } : Room).slots) := by
  refine MetFree.of_bodySF (plainFor_of_name pn_0) hisR ?_
  intro pG eG sG mG argsG belowG methG cG s₁ Bd hml0 hP hK
  obtain ⟨rfl, hZ, hh⟩ := hP
  have hx := Bd.exec
  have hby := Bd.bytes
  have hml : cG.maxLocals = 2 := hml0
  have hown : sG.vm.findClass "com/example/vorgang/vorgang/model/CallPolicyDispatchPinLaw" = some mG.cls := findClass_of_methodNamed Bd.named
  have hnm := (name_of_methodNamed Bd.named Bd.method).1
  have X0 : Stand pG l eG ({ frames := 0, cells := 0, slots := 0, locals := 0 } : Room) sG mG #[(.int (3 : Int32)), (.int (1 : Int32))] belowG methG cG s₁ [] 0 0 := Stand.of_body Bd
  have e0 : s₁.heap = h0 := by rw [← hh, Bd.state]; rfl
  have N0 := Fr.nil n0
  have K0 := Keep.refl h0 []
  obtain ⟨S_wA, E_wA, S_wD, E_wD, S_wG, E_wG, S_wU, E_wU, S_wV, E_wV, S_wN, E_wN, S_wB, E_wB, S_wC, E_wC, S_wF, E_wF, S_wE, E_wE, S_wO, E_wO, F_wA_ordinal, F_wG_ordinal, F_wD_ordinal, F_wU_ordinal, F_wV_ordinal, F_wN_ordinal, F_wB_ordinal, F_wC_ordinal, F_wF_ordinal, F_wE_ordinal, F_wO_value, L_1, L_2, ne_wA_wG, ne_wA_wD, ne_wA_wB, ne_wA_wC, ne_wA_wF, ne_wA_wE, ne_wG_wD, ne_wG_wB, ne_wG_wC, ne_wG_wF, ne_wG_wE, ne_wD_wB, ne_wD_wC, ne_wD_wF, ne_wD_wE, ne_wU_wV, ne_wU_wN, ne_wV_wN, ne_wB_wC, ne_wB_wF, ne_wB_wE, ne_wC_wF, ne_wC_wE, ne_wF_wE⟩ := (id hS : St0 Z wA wD wG wU wV wN wB wC wF wE wO k_1 k_2 )
  refine ostart (g' := (mkF mG 0 #[oi (3 : Int32), oi (1 : Int32)] [])) (by first | (simp [entryFrame, mkF, argsToLocals, Value.category]; done) | rfl) ?_
  refine ob s₁ (mkF mG 1 #[oi (3 : Int32), oi (1 : Int32)] [(.int (3 : Int32))]) (fun _ kk => XS.iloadN X0.here hx rfl (hb hby d18_0) rfl kk) ?_
  refine ob s₁ (mkF mG 14 #[oi (3 : Int32), oi (1 : Int32)] []) (fun _ kk => XS.ifYes X0.here hx rfl (pc0 := 1) (pc' := 14) rfl (hb hby d18_1) rfl ((if0 _ _).trans (feq (by decide : ¬ ((3 : Int32) = (0 : Int32)))).2) (by decide) (by decide) kk) ?_
  refine ob s₁ (mkF mG 15 #[oi (3 : Int32), oi (1 : Int32)] [(.int (3 : Int32))]) (fun _ kk => XS.iloadN X0.here hx rfl (hb hby d18_14) rfl kk) ?_
  refine ob s₁ (mkF mG 16 #[oi (3 : Int32), oi (1 : Int32)] [(.int (1 : Int32)), (.int (3 : Int32))]) (fun _ kk => XS.iconst X0.here hx rfl (hb hby d18_15) kk) ?_
  refine ob s₁ (mkF mG 21 #[oi (3 : Int32), oi (1 : Int32)] []) (fun _ kk => XS.icmpYes X0.here hx rfl (pc0 := 16) (pc' := 21) rfl (hb hby d18_16) rfl (feq (by decide : ¬ ((3 : Int32) = (1 : Int32)))).2 (by decide) (by decide) kk) ?_
  refine ob s₁ (mkF mG 22 #[oi (3 : Int32), oi (1 : Int32)] [(.int (3 : Int32))]) (fun _ kk => XS.iloadN X0.here hx rfl (hb hby d18_21) rfl kk) ?_
  refine ob s₁ (mkF mG 23 #[oi (3 : Int32), oi (1 : Int32)] [(.int (2 : Int32)), (.int (3 : Int32))]) (fun _ kk => XS.iconst X0.here hx rfl (hb hby d18_22) kk) ?_
  refine ob s₁ (mkF mG 36 #[oi (3 : Int32), oi (1 : Int32)] []) (fun _ kk => XS.icmpYes X0.here hx rfl (pc0 := 23) (pc' := 36) rfl (hb hby d18_23) rfl (feq (by decide : ¬ ((3 : Int32) = (2 : Int32)))).2 (by decide) (by decide) kk) ?_
  refine ob s₁ (mkF mG 37 #[oi (3 : Int32), oi (1 : Int32)] [(.int (3 : Int32))]) (fun _ kk => XS.iloadN X0.here hx rfl (hb hby d18_36) rfl kk) ?_
  refine ob s₁ (mkF mG 38 #[oi (3 : Int32), oi (1 : Int32)] [(.int (3 : Int32)), (.int (3 : Int32))]) (fun _ kk => XS.iconst X0.here hx rfl (hb hby d18_37) kk) ?_
  refine ob s₁ (mkF mG 41 #[oi (3 : Int32), oi (1 : Int32)] []) (fun _ kk => XS.icmpNo X0.here hx rfl (hb hby d18_38) rfl (teq (by decide : (3 : Int32) = (3 : Int32))).2 kk) ?_
  refine ob s₁ (mkF mG 42 #[oi (3 : Int32), oi (1 : Int32)] [(.int (0 : Int32))]) (fun _ kk => XS.iconst X0.here hx rfl (hb hby d18_41) kk) ?_
  obtain ⟨fs, hr, hrun, hended, hW, hsame⟩ := X0.leave (v := some (.int (0 : Int32))) (fun h => by rw [Bd.returns] at h; cases h)
  refine oout (retOut X0 hx Bd.returns rfl (Or.inl ⟨rfl, Or.inl rfl, _, rfl⟩) (hb hby d18_42) hr) hrun hended ⟨_, _, rfl, ?_, ⟨_, rfl⟩, hW, hsame.mono (by decide) (by decide)⟩
  show Q_rm_ru3_1 Z wA wD wG wU wV wN wB wC wF wE wO k_1 k_2  h0 n0 _ s₁.heap _
  rw [e0]
  exact ⟨rfl, N0, rfl⟩

theorem d18_43 : decode method_3_code 43 = .ok (.iload_n 0, 1) := by decide +kernel
theorem d18_44 : decode method_3_code 44 = .ok (.iconst 4, 1) := by decide +kernel
theorem d18_45 : decode method_3_code 45 = .ok (.if_icmp .ne 13, 3) := by decide +kernel
theorem d18_48 : decode method_3_code 48 = .ok (.iload_n 1, 1) := by decide +kernel
theorem d18_49 : decode method_3_code 49 = .ok (.ifCond .eq 7, 3) := by decide +kernel
theorem d18_56 : decode method_3_code 56 = .ok (.iconst (-1), 1) := by decide +kernel
theorem d18_57 : decode method_3_code 57 = .ok (.ireturn, 1) := by decide +kernel
def Q_rm_ru4_0 (Z : State) (wA wD wG wU wV wN wB wC wF wE wO : Addr) (k_1 k_2 : ClassId)  (h0 : Heap) (n0 : Nat) (v : Option Value) (h : Heap) (L : List Loc) : Prop := v = some (.int (-1 : Int32)) ∧ Fr n0 L ∧ h = h0
set_option maxRecDepth 65536 in
set_option maxHeartbeats 40000000 in
theorem rm_ru4_0 (l : Launch) (Z : State) (a0 : Array Value) (hw : ∀ d ∈ tables_1, d.before a0 Z = true) (ws : List Jvm.Cond) (wA wD wG wU wV wN wB wC wF wE wO : Addr) (k_1 k_2 : ClassId)  (h0 : Heap) (n0 : Nat) (O0 : Old Z n0 h0) (hS : St0 Z wA wD wG wU wV wN wB wC wF wE wO k_1 k_2 ) :
    MetFree l (⟨"com/example/vorgang/vorgang/model/CallPolicyDispatchPinLaw", "rule", "(IZ)I"⟩ : MethodName) (head1 (Jvm.Cond.code (⟨"com/example/vorgang/vorgang/model/CallPolicyDispatchPinLaw", "rule", "(IZ)I"⟩ : MethodName) method_3_code 2 (some .int) :: ws) ({ frames := 0, cells := 0, slots := 0, locals := 0 } : Room)) (fun aG UG => aG = #[(.int (4 : Int32)), (.int (0 : Int32))] ∧ Z.Warmed39 UG.vm ∧ UG.heap = h0) (fun _ _ _ _ _ => True) (fun _ UG oG UG' => ∃ vG LG, oG = .returned vG ∧ Q_rm_ru4_0 Z wA wD wG wU wV wN wB wC wF wE wO k_1 k_2  h0 n0 vG UG'.heap LG ∧ FrameEnd UG oG UG' LG ({ frames := 0, cells := 0, slots := 0, locals := 0 } : Room).cells ({ frames := 0, cells := 0, slots := 0, locals := 0 } : Room).slots) := by
  refine MetFree.of_bodySF (plainFor_of_name pn_0) hisR ?_
  intro pG eG sG mG argsG belowG methG cG s₁ Bd hml0 hP hK
  obtain ⟨rfl, hZ, hh⟩ := hP
  have hx := Bd.exec
  have hby := Bd.bytes
  have hml : cG.maxLocals = 2 := hml0
  have hown : sG.vm.findClass "com/example/vorgang/vorgang/model/CallPolicyDispatchPinLaw" = some mG.cls := findClass_of_methodNamed Bd.named
  have hnm := (name_of_methodNamed Bd.named Bd.method).1
  have X0 : Stand pG l eG ({ frames := 0, cells := 0, slots := 0, locals := 0 } : Room) sG mG #[(.int (4 : Int32)), (.int (0 : Int32))] belowG methG cG s₁ [] 0 0 := Stand.of_body Bd
  have e0 : s₁.heap = h0 := by rw [← hh, Bd.state]; rfl
  have N0 := Fr.nil n0
  have K0 := Keep.refl h0 []
  obtain ⟨S_wA, E_wA, S_wD, E_wD, S_wG, E_wG, S_wU, E_wU, S_wV, E_wV, S_wN, E_wN, S_wB, E_wB, S_wC, E_wC, S_wF, E_wF, S_wE, E_wE, S_wO, E_wO, F_wA_ordinal, F_wG_ordinal, F_wD_ordinal, F_wU_ordinal, F_wV_ordinal, F_wN_ordinal, F_wB_ordinal, F_wC_ordinal, F_wF_ordinal, F_wE_ordinal, F_wO_value, L_1, L_2, ne_wA_wG, ne_wA_wD, ne_wA_wB, ne_wA_wC, ne_wA_wF, ne_wA_wE, ne_wG_wD, ne_wG_wB, ne_wG_wC, ne_wG_wF, ne_wG_wE, ne_wD_wB, ne_wD_wC, ne_wD_wF, ne_wD_wE, ne_wU_wV, ne_wU_wN, ne_wV_wN, ne_wB_wC, ne_wB_wF, ne_wB_wE, ne_wC_wF, ne_wC_wE, ne_wF_wE⟩ := (id hS : St0 Z wA wD wG wU wV wN wB wC wF wE wO k_1 k_2 )
  refine ostart (g' := (mkF mG 0 #[oi (4 : Int32), oi (0 : Int32)] [])) (by first | (simp [entryFrame, mkF, argsToLocals, Value.category]; done) | rfl) ?_
  refine ob s₁ (mkF mG 1 #[oi (4 : Int32), oi (0 : Int32)] [(.int (4 : Int32))]) (fun _ kk => XS.iloadN X0.here hx rfl (hb hby d18_0) rfl kk) ?_
  refine ob s₁ (mkF mG 14 #[oi (4 : Int32), oi (0 : Int32)] []) (fun _ kk => XS.ifYes X0.here hx rfl (pc0 := 1) (pc' := 14) rfl (hb hby d18_1) rfl ((if0 _ _).trans (feq (by decide : ¬ ((4 : Int32) = (0 : Int32)))).2) (by decide) (by decide) kk) ?_
  refine ob s₁ (mkF mG 15 #[oi (4 : Int32), oi (0 : Int32)] [(.int (4 : Int32))]) (fun _ kk => XS.iloadN X0.here hx rfl (hb hby d18_14) rfl kk) ?_
  refine ob s₁ (mkF mG 16 #[oi (4 : Int32), oi (0 : Int32)] [(.int (1 : Int32)), (.int (4 : Int32))]) (fun _ kk => XS.iconst X0.here hx rfl (hb hby d18_15) kk) ?_
  refine ob s₁ (mkF mG 21 #[oi (4 : Int32), oi (0 : Int32)] []) (fun _ kk => XS.icmpYes X0.here hx rfl (pc0 := 16) (pc' := 21) rfl (hb hby d18_16) rfl (feq (by decide : ¬ ((4 : Int32) = (1 : Int32)))).2 (by decide) (by decide) kk) ?_
  refine ob s₁ (mkF mG 22 #[oi (4 : Int32), oi (0 : Int32)] [(.int (4 : Int32))]) (fun _ kk => XS.iloadN X0.here hx rfl (hb hby d18_21) rfl kk) ?_
  refine ob s₁ (mkF mG 23 #[oi (4 : Int32), oi (0 : Int32)] [(.int (2 : Int32)), (.int (4 : Int32))]) (fun _ kk => XS.iconst X0.here hx rfl (hb hby d18_22) kk) ?_
  refine ob s₁ (mkF mG 36 #[oi (4 : Int32), oi (0 : Int32)] []) (fun _ kk => XS.icmpYes X0.here hx rfl (pc0 := 23) (pc' := 36) rfl (hb hby d18_23) rfl (feq (by decide : ¬ ((4 : Int32) = (2 : Int32)))).2 (by decide) (by decide) kk) ?_
  refine ob s₁ (mkF mG 37 #[oi (4 : Int32), oi (0 : Int32)] [(.int (4 : Int32))]) (fun _ kk => XS.iloadN X0.here hx rfl (hb hby d18_36) rfl kk) ?_
  refine ob s₁ (mkF mG 38 #[oi (4 : Int32), oi (0 : Int32)] [(.int (3 : Int32)), (.int (4 : Int32))]) (fun _ kk => XS.iconst X0.here hx rfl (hb hby d18_37) kk) ?_
  refine ob s₁ (mkF mG 43 #[oi (4 : Int32), oi (0 : Int32)] []) (fun _ kk => XS.icmpYes X0.here hx rfl (pc0 := 38) (pc' := 43) rfl (hb hby d18_38) rfl (feq (by decide : ¬ ((4 : Int32) = (3 : Int32)))).2 (by decide) (by decide) kk) ?_
  refine ob s₁ (mkF mG 44 #[oi (4 : Int32), oi (0 : Int32)] [(.int (4 : Int32))]) (fun _ kk => XS.iloadN X0.here hx rfl (hb hby d18_43) rfl kk) ?_
  refine ob s₁ (mkF mG 45 #[oi (4 : Int32), oi (0 : Int32)] [(.int (4 : Int32)), (.int (4 : Int32))]) (fun _ kk => XS.iconst X0.here hx rfl (hb hby d18_44) kk) ?_
  refine ob s₁ (mkF mG 48 #[oi (4 : Int32), oi (0 : Int32)] []) (fun _ kk => XS.icmpNo X0.here hx rfl (hb hby d18_45) rfl (teq (by decide : (4 : Int32) = (4 : Int32))).2 kk) ?_
  refine ob s₁ (mkF mG 49 #[oi (4 : Int32), oi (0 : Int32)] [(.int (0 : Int32))]) (fun _ kk => XS.iloadN X0.here hx rfl (hb hby d18_48) rfl kk) ?_
  refine ob s₁ (mkF mG 56 #[oi (4 : Int32), oi (0 : Int32)] []) (fun _ kk => XS.ifYes X0.here hx rfl (pc0 := 49) (pc' := 56) rfl (hb hby d18_49) rfl ((if0 _ _).trans (teq (by decide : (0 : Int32) = (0 : Int32))).1) (by decide) (by decide) kk) ?_
  refine ob s₁ (mkF mG 57 #[oi (4 : Int32), oi (0 : Int32)] [(.int (-1 : Int32))]) (fun _ kk => XS.iconst X0.here hx rfl (hb hby d18_56) kk) ?_
  obtain ⟨fs, hr, hrun, hended, hW, hsame⟩ := X0.leave (v := some (.int (-1 : Int32))) (fun h => by rw [Bd.returns] at h; cases h)
  refine oout (retOut X0 hx Bd.returns rfl (Or.inl ⟨rfl, Or.inl rfl, _, rfl⟩) (hb hby d18_57) hr) hrun hended ⟨_, _, rfl, ?_, ⟨_, rfl⟩, hW, hsame.mono (by decide) (by decide)⟩
  show Q_rm_ru4_0 Z wA wD wG wU wV wN wB wC wF wE wO k_1 k_2  h0 n0 _ s₁.heap _
  rw [e0]
  exact ⟨rfl, N0, rfl⟩

theorem d18_52 : decode method_3_code 52 = .ok (.iconst 1, 1) := by decide +kernel
theorem d18_53 : decode method_3_code 53 = .ok (.goto 4, 3) := by decide +kernel
def Q_rm_ru4_1 (Z : State) (wA wD wG wU wV wN wB wC wF wE wO : Addr) (k_1 k_2 : ClassId)  (h0 : Heap) (n0 : Nat) (v : Option Value) (h : Heap) (L : List Loc) : Prop := v = some (.int (1 : Int32)) ∧ Fr n0 L ∧ h = h0
set_option maxRecDepth 65536 in
set_option maxHeartbeats 40000000 in
theorem rm_ru4_1 (l : Launch) (Z : State) (a0 : Array Value) (hw : ∀ d ∈ tables_1, d.before a0 Z = true) (ws : List Jvm.Cond) (wA wD wG wU wV wN wB wC wF wE wO : Addr) (k_1 k_2 : ClassId)  (h0 : Heap) (n0 : Nat) (O0 : Old Z n0 h0) (hS : St0 Z wA wD wG wU wV wN wB wC wF wE wO k_1 k_2 ) :
    MetFree l (⟨"com/example/vorgang/vorgang/model/CallPolicyDispatchPinLaw", "rule", "(IZ)I"⟩ : MethodName) (head1 (Jvm.Cond.code (⟨"com/example/vorgang/vorgang/model/CallPolicyDispatchPinLaw", "rule", "(IZ)I"⟩ : MethodName) method_3_code 2 (some .int) :: ws) ({ frames := 0, cells := 0, slots := 0, locals := 0 } : Room)) (fun aG UG => aG = #[(.int (4 : Int32)), (.int (1 : Int32))] ∧ Z.Warmed39 UG.vm ∧ UG.heap = h0) (fun _ _ _ _ _ => True) (fun _ UG oG UG' => ∃ vG LG, oG = .returned vG ∧ Q_rm_ru4_1 Z wA wD wG wU wV wN wB wC wF wE wO k_1 k_2  h0 n0 vG UG'.heap LG ∧ FrameEnd UG oG UG' LG ({ frames := 0, cells := 0, slots := 0, locals := 0 } : Room).cells ({ frames := 0, cells := 0, slots := 0, locals := 0 } : Room).slots) := by
  refine MetFree.of_bodySF (plainFor_of_name pn_0) hisR ?_
  intro pG eG sG mG argsG belowG methG cG s₁ Bd hml0 hP hK
  obtain ⟨rfl, hZ, hh⟩ := hP
  have hx := Bd.exec
  have hby := Bd.bytes
  have hml : cG.maxLocals = 2 := hml0
  have hown : sG.vm.findClass "com/example/vorgang/vorgang/model/CallPolicyDispatchPinLaw" = some mG.cls := findClass_of_methodNamed Bd.named
  have hnm := (name_of_methodNamed Bd.named Bd.method).1
  have X0 : Stand pG l eG ({ frames := 0, cells := 0, slots := 0, locals := 0 } : Room) sG mG #[(.int (4 : Int32)), (.int (1 : Int32))] belowG methG cG s₁ [] 0 0 := Stand.of_body Bd
  have e0 : s₁.heap = h0 := by rw [← hh, Bd.state]; rfl
  have N0 := Fr.nil n0
  have K0 := Keep.refl h0 []
  obtain ⟨S_wA, E_wA, S_wD, E_wD, S_wG, E_wG, S_wU, E_wU, S_wV, E_wV, S_wN, E_wN, S_wB, E_wB, S_wC, E_wC, S_wF, E_wF, S_wE, E_wE, S_wO, E_wO, F_wA_ordinal, F_wG_ordinal, F_wD_ordinal, F_wU_ordinal, F_wV_ordinal, F_wN_ordinal, F_wB_ordinal, F_wC_ordinal, F_wF_ordinal, F_wE_ordinal, F_wO_value, L_1, L_2, ne_wA_wG, ne_wA_wD, ne_wA_wB, ne_wA_wC, ne_wA_wF, ne_wA_wE, ne_wG_wD, ne_wG_wB, ne_wG_wC, ne_wG_wF, ne_wG_wE, ne_wD_wB, ne_wD_wC, ne_wD_wF, ne_wD_wE, ne_wU_wV, ne_wU_wN, ne_wV_wN, ne_wB_wC, ne_wB_wF, ne_wB_wE, ne_wC_wF, ne_wC_wE, ne_wF_wE⟩ := (id hS : St0 Z wA wD wG wU wV wN wB wC wF wE wO k_1 k_2 )
  refine ostart (g' := (mkF mG 0 #[oi (4 : Int32), oi (1 : Int32)] [])) (by first | (simp [entryFrame, mkF, argsToLocals, Value.category]; done) | rfl) ?_
  refine ob s₁ (mkF mG 1 #[oi (4 : Int32), oi (1 : Int32)] [(.int (4 : Int32))]) (fun _ kk => XS.iloadN X0.here hx rfl (hb hby d18_0) rfl kk) ?_
  refine ob s₁ (mkF mG 14 #[oi (4 : Int32), oi (1 : Int32)] []) (fun _ kk => XS.ifYes X0.here hx rfl (pc0 := 1) (pc' := 14) rfl (hb hby d18_1) rfl ((if0 _ _).trans (feq (by decide : ¬ ((4 : Int32) = (0 : Int32)))).2) (by decide) (by decide) kk) ?_
  refine ob s₁ (mkF mG 15 #[oi (4 : Int32), oi (1 : Int32)] [(.int (4 : Int32))]) (fun _ kk => XS.iloadN X0.here hx rfl (hb hby d18_14) rfl kk) ?_
  refine ob s₁ (mkF mG 16 #[oi (4 : Int32), oi (1 : Int32)] [(.int (1 : Int32)), (.int (4 : Int32))]) (fun _ kk => XS.iconst X0.here hx rfl (hb hby d18_15) kk) ?_
  refine ob s₁ (mkF mG 21 #[oi (4 : Int32), oi (1 : Int32)] []) (fun _ kk => XS.icmpYes X0.here hx rfl (pc0 := 16) (pc' := 21) rfl (hb hby d18_16) rfl (feq (by decide : ¬ ((4 : Int32) = (1 : Int32)))).2 (by decide) (by decide) kk) ?_
  refine ob s₁ (mkF mG 22 #[oi (4 : Int32), oi (1 : Int32)] [(.int (4 : Int32))]) (fun _ kk => XS.iloadN X0.here hx rfl (hb hby d18_21) rfl kk) ?_
  refine ob s₁ (mkF mG 23 #[oi (4 : Int32), oi (1 : Int32)] [(.int (2 : Int32)), (.int (4 : Int32))]) (fun _ kk => XS.iconst X0.here hx rfl (hb hby d18_22) kk) ?_
  refine ob s₁ (mkF mG 36 #[oi (4 : Int32), oi (1 : Int32)] []) (fun _ kk => XS.icmpYes X0.here hx rfl (pc0 := 23) (pc' := 36) rfl (hb hby d18_23) rfl (feq (by decide : ¬ ((4 : Int32) = (2 : Int32)))).2 (by decide) (by decide) kk) ?_
  refine ob s₁ (mkF mG 37 #[oi (4 : Int32), oi (1 : Int32)] [(.int (4 : Int32))]) (fun _ kk => XS.iloadN X0.here hx rfl (hb hby d18_36) rfl kk) ?_
  refine ob s₁ (mkF mG 38 #[oi (4 : Int32), oi (1 : Int32)] [(.int (3 : Int32)), (.int (4 : Int32))]) (fun _ kk => XS.iconst X0.here hx rfl (hb hby d18_37) kk) ?_
  refine ob s₁ (mkF mG 43 #[oi (4 : Int32), oi (1 : Int32)] []) (fun _ kk => XS.icmpYes X0.here hx rfl (pc0 := 38) (pc' := 43) rfl (hb hby d18_38) rfl (feq (by decide : ¬ ((4 : Int32) = (3 : Int32)))).2 (by decide) (by decide) kk) ?_
  refine ob s₁ (mkF mG 44 #[oi (4 : Int32), oi (1 : Int32)] [(.int (4 : Int32))]) (fun _ kk => XS.iloadN X0.here hx rfl (hb hby d18_43) rfl kk) ?_
  refine ob s₁ (mkF mG 45 #[oi (4 : Int32), oi (1 : Int32)] [(.int (4 : Int32)), (.int (4 : Int32))]) (fun _ kk => XS.iconst X0.here hx rfl (hb hby d18_44) kk) ?_
  refine ob s₁ (mkF mG 48 #[oi (4 : Int32), oi (1 : Int32)] []) (fun _ kk => XS.icmpNo X0.here hx rfl (hb hby d18_45) rfl (teq (by decide : (4 : Int32) = (4 : Int32))).2 kk) ?_
  refine ob s₁ (mkF mG 49 #[oi (4 : Int32), oi (1 : Int32)] [(.int (1 : Int32))]) (fun _ kk => XS.iloadN X0.here hx rfl (hb hby d18_48) rfl kk) ?_
  refine ob s₁ (mkF mG 52 #[oi (4 : Int32), oi (1 : Int32)] []) (fun _ kk => XS.ifNo X0.here hx rfl (hb hby d18_49) rfl ((if0 _ _).trans (feq (by decide : ¬ ((1 : Int32) = (0 : Int32)))).1) kk) ?_
  refine ob s₁ (mkF mG 53 #[oi (4 : Int32), oi (1 : Int32)] [(.int (1 : Int32))]) (fun _ kk => XS.iconst X0.here hx rfl (hb hby d18_52) kk) ?_
  refine ob s₁ (mkF mG 57 #[oi (4 : Int32), oi (1 : Int32)] [(.int (1 : Int32))]) (fun _ kk => XS.goto X0.here hx rfl (pc0 := 53) (pc' := 57) rfl (hb hby d18_53) (by decide) (by decide) kk) ?_
  obtain ⟨fs, hr, hrun, hended, hW, hsame⟩ := X0.leave (v := some (.int (1 : Int32))) (fun h => by rw [Bd.returns] at h; cases h)
  refine oout (retOut X0 hx Bd.returns rfl (Or.inl ⟨rfl, Or.inl rfl, _, rfl⟩) (hb hby d18_57) hr) hrun hended ⟨_, _, rfl, ?_, ⟨_, rfl⟩, hW, hsame.mono (by decide) (by decide)⟩
  show Q_rm_ru4_1 Z wA wD wG wU wV wN wB wC wF wE wO k_1 k_2  h0 n0 _ s₁.heap _
  rw [e0]
  exact ⟨rfl, N0, rfl⟩

theorem d18_58 : decode method_3_code 58 = .ok (.iload_n 0, 1) := by decide +kernel
theorem d18_59 : decode method_3_code 59 = .ok (.iconst 5, 1) := by decide +kernel
theorem d18_60 : decode method_3_code 60 = .ok (.if_icmp .ne 13, 3) := by decide +kernel
theorem d18_63 : decode method_3_code 63 = .ok (.iload_n 1, 1) := by decide +kernel
theorem d18_64 : decode method_3_code 64 = .ok (.ifCond .eq 7, 3) := by decide +kernel
theorem d18_71 : decode method_3_code 71 = .ok (.iconst 0, 1) := by decide +kernel
theorem d18_72 : decode method_3_code 72 = .ok (.ireturn, 1) := by decide +kernel
def Q_rm_ru5_0 (Z : State) (wA wD wG wU wV wN wB wC wF wE wO : Addr) (k_1 k_2 : ClassId)  (h0 : Heap) (n0 : Nat) (v : Option Value) (h : Heap) (L : List Loc) : Prop := v = some (.int (0 : Int32)) ∧ Fr n0 L ∧ h = h0
set_option maxRecDepth 65536 in
set_option maxHeartbeats 40000000 in
theorem rm_ru5_0 (l : Launch) (Z : State) (a0 : Array Value) (hw : ∀ d ∈ tables_1, d.before a0 Z = true) (ws : List Jvm.Cond) (wA wD wG wU wV wN wB wC wF wE wO : Addr) (k_1 k_2 : ClassId)  (h0 : Heap) (n0 : Nat) (O0 : Old Z n0 h0) (hS : St0 Z wA wD wG wU wV wN wB wC wF wE wO k_1 k_2 ) :
    MetFree l (⟨"com/example/vorgang/vorgang/model/CallPolicyDispatchPinLaw", "rule", "(IZ)I"⟩ : MethodName) (head1 (Jvm.Cond.code (⟨"com/example/vorgang/vorgang/model/CallPolicyDispatchPinLaw", "rule", "(IZ)I"⟩ : MethodName) method_3_code 2 (some .int) :: ws) ({ frames := 0, cells := 0, slots := 0, locals := 0 } : Room)) (fun aG UG => aG = #[(.int (5 : Int32)), (.int (0 : Int32))] ∧ Z.Warmed39 UG.vm ∧ UG.heap = h0) (fun _ _ _ _ _ => True) (fun _ UG oG UG' => ∃ vG LG, oG = .returned vG ∧ Q_rm_ru5_0 Z wA wD wG wU wV wN wB wC wF wE wO k_1 k_2  h0 n0 vG UG'.heap LG ∧ FrameEnd UG oG UG' LG ({ frames := 0, cells := 0, slots := 0, locals := 0 } : Room).cells ({ frames := 0, cells := 0, slots := 0, locals := 0 } : Room).slots) := by
  refine MetFree.of_bodySF (plainFor_of_name pn_0) hisR ?_
  intro pG eG sG mG argsG belowG methG cG s₁ Bd hml0 hP hK
  obtain ⟨rfl, hZ, hh⟩ := hP
  have hx := Bd.exec
  have hby := Bd.bytes
  have hml : cG.maxLocals = 2 := hml0
  have hown : sG.vm.findClass "com/example/vorgang/vorgang/model/CallPolicyDispatchPinLaw" = some mG.cls := findClass_of_methodNamed Bd.named
  have hnm := (name_of_methodNamed Bd.named Bd.method).1
  have X0 : Stand pG l eG ({ frames := 0, cells := 0, slots := 0, locals := 0 } : Room) sG mG #[(.int (5 : Int32)), (.int (0 : Int32))] belowG methG cG s₁ [] 0 0 := Stand.of_body Bd
  have e0 : s₁.heap = h0 := by rw [← hh, Bd.state]; rfl
  have N0 := Fr.nil n0
  have K0 := Keep.refl h0 []
  obtain ⟨S_wA, E_wA, S_wD, E_wD, S_wG, E_wG, S_wU, E_wU, S_wV, E_wV, S_wN, E_wN, S_wB, E_wB, S_wC, E_wC, S_wF, E_wF, S_wE, E_wE, S_wO, E_wO, F_wA_ordinal, F_wG_ordinal, F_wD_ordinal, F_wU_ordinal, F_wV_ordinal, F_wN_ordinal, F_wB_ordinal, F_wC_ordinal, F_wF_ordinal, F_wE_ordinal, F_wO_value, L_1, L_2, ne_wA_wG, ne_wA_wD, ne_wA_wB, ne_wA_wC, ne_wA_wF, ne_wA_wE, ne_wG_wD, ne_wG_wB, ne_wG_wC, ne_wG_wF, ne_wG_wE, ne_wD_wB, ne_wD_wC, ne_wD_wF, ne_wD_wE, ne_wU_wV, ne_wU_wN, ne_wV_wN, ne_wB_wC, ne_wB_wF, ne_wB_wE, ne_wC_wF, ne_wC_wE, ne_wF_wE⟩ := (id hS : St0 Z wA wD wG wU wV wN wB wC wF wE wO k_1 k_2 )
  refine ostart (g' := (mkF mG 0 #[oi (5 : Int32), oi (0 : Int32)] [])) (by first | (simp [entryFrame, mkF, argsToLocals, Value.category]; done) | rfl) ?_
  refine ob s₁ (mkF mG 1 #[oi (5 : Int32), oi (0 : Int32)] [(.int (5 : Int32))]) (fun _ kk => XS.iloadN X0.here hx rfl (hb hby d18_0) rfl kk) ?_
  refine ob s₁ (mkF mG 14 #[oi (5 : Int32), oi (0 : Int32)] []) (fun _ kk => XS.ifYes X0.here hx rfl (pc0 := 1) (pc' := 14) rfl (hb hby d18_1) rfl ((if0 _ _).trans (feq (by decide : ¬ ((5 : Int32) = (0 : Int32)))).2) (by decide) (by decide) kk) ?_
  refine ob s₁ (mkF mG 15 #[oi (5 : Int32), oi (0 : Int32)] [(.int (5 : Int32))]) (fun _ kk => XS.iloadN X0.here hx rfl (hb hby d18_14) rfl kk) ?_
  refine ob s₁ (mkF mG 16 #[oi (5 : Int32), oi (0 : Int32)] [(.int (1 : Int32)), (.int (5 : Int32))]) (fun _ kk => XS.iconst X0.here hx rfl (hb hby d18_15) kk) ?_
  refine ob s₁ (mkF mG 21 #[oi (5 : Int32), oi (0 : Int32)] []) (fun _ kk => XS.icmpYes X0.here hx rfl (pc0 := 16) (pc' := 21) rfl (hb hby d18_16) rfl (feq (by decide : ¬ ((5 : Int32) = (1 : Int32)))).2 (by decide) (by decide) kk) ?_
  refine ob s₁ (mkF mG 22 #[oi (5 : Int32), oi (0 : Int32)] [(.int (5 : Int32))]) (fun _ kk => XS.iloadN X0.here hx rfl (hb hby d18_21) rfl kk) ?_
  refine ob s₁ (mkF mG 23 #[oi (5 : Int32), oi (0 : Int32)] [(.int (2 : Int32)), (.int (5 : Int32))]) (fun _ kk => XS.iconst X0.here hx rfl (hb hby d18_22) kk) ?_
  refine ob s₁ (mkF mG 36 #[oi (5 : Int32), oi (0 : Int32)] []) (fun _ kk => XS.icmpYes X0.here hx rfl (pc0 := 23) (pc' := 36) rfl (hb hby d18_23) rfl (feq (by decide : ¬ ((5 : Int32) = (2 : Int32)))).2 (by decide) (by decide) kk) ?_
  refine ob s₁ (mkF mG 37 #[oi (5 : Int32), oi (0 : Int32)] [(.int (5 : Int32))]) (fun _ kk => XS.iloadN X0.here hx rfl (hb hby d18_36) rfl kk) ?_
  refine ob s₁ (mkF mG 38 #[oi (5 : Int32), oi (0 : Int32)] [(.int (3 : Int32)), (.int (5 : Int32))]) (fun _ kk => XS.iconst X0.here hx rfl (hb hby d18_37) kk) ?_
  refine ob s₁ (mkF mG 43 #[oi (5 : Int32), oi (0 : Int32)] []) (fun _ kk => XS.icmpYes X0.here hx rfl (pc0 := 38) (pc' := 43) rfl (hb hby d18_38) rfl (feq (by decide : ¬ ((5 : Int32) = (3 : Int32)))).2 (by decide) (by decide) kk) ?_
  refine ob s₁ (mkF mG 44 #[oi (5 : Int32), oi (0 : Int32)] [(.int (5 : Int32))]) (fun _ kk => XS.iloadN X0.here hx rfl (hb hby d18_43) rfl kk) ?_
  refine ob s₁ (mkF mG 45 #[oi (5 : Int32), oi (0 : Int32)] [(.int (4 : Int32)), (.int (5 : Int32))]) (fun _ kk => XS.iconst X0.here hx rfl (hb hby d18_44) kk) ?_
  refine ob s₁ (mkF mG 58 #[oi (5 : Int32), oi (0 : Int32)] []) (fun _ kk => XS.icmpYes X0.here hx rfl (pc0 := 45) (pc' := 58) rfl (hb hby d18_45) rfl (feq (by decide : ¬ ((5 : Int32) = (4 : Int32)))).2 (by decide) (by decide) kk) ?_
  refine ob s₁ (mkF mG 59 #[oi (5 : Int32), oi (0 : Int32)] [(.int (5 : Int32))]) (fun _ kk => XS.iloadN X0.here hx rfl (hb hby d18_58) rfl kk) ?_
  refine ob s₁ (mkF mG 60 #[oi (5 : Int32), oi (0 : Int32)] [(.int (5 : Int32)), (.int (5 : Int32))]) (fun _ kk => XS.iconst X0.here hx rfl (hb hby d18_59) kk) ?_
  refine ob s₁ (mkF mG 63 #[oi (5 : Int32), oi (0 : Int32)] []) (fun _ kk => XS.icmpNo X0.here hx rfl (hb hby d18_60) rfl (teq (by decide : (5 : Int32) = (5 : Int32))).2 kk) ?_
  refine ob s₁ (mkF mG 64 #[oi (5 : Int32), oi (0 : Int32)] [(.int (0 : Int32))]) (fun _ kk => XS.iloadN X0.here hx rfl (hb hby d18_63) rfl kk) ?_
  refine ob s₁ (mkF mG 71 #[oi (5 : Int32), oi (0 : Int32)] []) (fun _ kk => XS.ifYes X0.here hx rfl (pc0 := 64) (pc' := 71) rfl (hb hby d18_64) rfl ((if0 _ _).trans (teq (by decide : (0 : Int32) = (0 : Int32))).1) (by decide) (by decide) kk) ?_
  refine ob s₁ (mkF mG 72 #[oi (5 : Int32), oi (0 : Int32)] [(.int (0 : Int32))]) (fun _ kk => XS.iconst X0.here hx rfl (hb hby d18_71) kk) ?_
  obtain ⟨fs, hr, hrun, hended, hW, hsame⟩ := X0.leave (v := some (.int (0 : Int32))) (fun h => by rw [Bd.returns] at h; cases h)
  refine oout (retOut X0 hx Bd.returns rfl (Or.inl ⟨rfl, Or.inl rfl, _, rfl⟩) (hb hby d18_72) hr) hrun hended ⟨_, _, rfl, ?_, ⟨_, rfl⟩, hW, hsame.mono (by decide) (by decide)⟩
  show Q_rm_ru5_0 Z wA wD wG wU wV wN wB wC wF wE wO k_1 k_2  h0 n0 _ s₁.heap _
  rw [e0]
  exact ⟨rfl, N0, rfl⟩

theorem d18_67 : decode method_3_code 67 = .ok (.iconst (-1), 1) := by decide +kernel
theorem d18_68 : decode method_3_code 68 = .ok (.goto 4, 3) := by decide +kernel
def Q_rm_ru5_1 (Z : State) (wA wD wG wU wV wN wB wC wF wE wO : Addr) (k_1 k_2 : ClassId)  (h0 : Heap) (n0 : Nat) (v : Option Value) (h : Heap) (L : List Loc) : Prop := v = some (.int (-1 : Int32)) ∧ Fr n0 L ∧ h = h0
set_option maxRecDepth 65536 in
set_option maxHeartbeats 40000000 in
theorem rm_ru5_1 (l : Launch) (Z : State) (a0 : Array Value) (hw : ∀ d ∈ tables_1, d.before a0 Z = true) (ws : List Jvm.Cond) (wA wD wG wU wV wN wB wC wF wE wO : Addr) (k_1 k_2 : ClassId)  (h0 : Heap) (n0 : Nat) (O0 : Old Z n0 h0) (hS : St0 Z wA wD wG wU wV wN wB wC wF wE wO k_1 k_2 ) :
    MetFree l (⟨"com/example/vorgang/vorgang/model/CallPolicyDispatchPinLaw", "rule", "(IZ)I"⟩ : MethodName) (head1 (Jvm.Cond.code (⟨"com/example/vorgang/vorgang/model/CallPolicyDispatchPinLaw", "rule", "(IZ)I"⟩ : MethodName) method_3_code 2 (some .int) :: ws) ({ frames := 0, cells := 0, slots := 0, locals := 0 } : Room)) (fun aG UG => aG = #[(.int (5 : Int32)), (.int (1 : Int32))] ∧ Z.Warmed39 UG.vm ∧ UG.heap = h0) (fun _ _ _ _ _ => True) (fun _ UG oG UG' => ∃ vG LG, oG = .returned vG ∧ Q_rm_ru5_1 Z wA wD wG wU wV wN wB wC wF wE wO k_1 k_2  h0 n0 vG UG'.heap LG ∧ FrameEnd UG oG UG' LG ({ frames := 0, cells := 0, slots := 0, locals := 0 } : Room).cells ({ frames := 0, cells := 0, slots := 0, locals := 0 } : Room).slots) := by
  refine MetFree.of_bodySF (plainFor_of_name pn_0) hisR ?_
  intro pG eG sG mG argsG belowG methG cG s₁ Bd hml0 hP hK
  obtain ⟨rfl, hZ, hh⟩ := hP
  have hx := Bd.exec
  have hby := Bd.bytes
  have hml : cG.maxLocals = 2 := hml0
  have hown : sG.vm.findClass "com/example/vorgang/vorgang/model/CallPolicyDispatchPinLaw" = some mG.cls := findClass_of_methodNamed Bd.named
  have hnm := (name_of_methodNamed Bd.named Bd.method).1
  have X0 : Stand pG l eG ({ frames := 0, cells := 0, slots := 0, locals := 0 } : Room) sG mG #[(.int (5 : Int32)), (.int (1 : Int32))] belowG methG cG s₁ [] 0 0 := Stand.of_body Bd
  have e0 : s₁.heap = h0 := by rw [← hh, Bd.state]; rfl
  have N0 := Fr.nil n0
  have K0 := Keep.refl h0 []
  obtain ⟨S_wA, E_wA, S_wD, E_wD, S_wG, E_wG, S_wU, E_wU, S_wV, E_wV, S_wN, E_wN, S_wB, E_wB, S_wC, E_wC, S_wF, E_wF, S_wE, E_wE, S_wO, E_wO, F_wA_ordinal, F_wG_ordinal, F_wD_ordinal, F_wU_ordinal, F_wV_ordinal, F_wN_ordinal, F_wB_ordinal, F_wC_ordinal, F_wF_ordinal, F_wE_ordinal, F_wO_value, L_1, L_2, ne_wA_wG, ne_wA_wD, ne_wA_wB, ne_wA_wC, ne_wA_wF, ne_wA_wE, ne_wG_wD, ne_wG_wB, ne_wG_wC, ne_wG_wF, ne_wG_wE, ne_wD_wB, ne_wD_wC, ne_wD_wF, ne_wD_wE, ne_wU_wV, ne_wU_wN, ne_wV_wN, ne_wB_wC, ne_wB_wF, ne_wB_wE, ne_wC_wF, ne_wC_wE, ne_wF_wE⟩ := (id hS : St0 Z wA wD wG wU wV wN wB wC wF wE wO k_1 k_2 )
  refine ostart (g' := (mkF mG 0 #[oi (5 : Int32), oi (1 : Int32)] [])) (by first | (simp [entryFrame, mkF, argsToLocals, Value.category]; done) | rfl) ?_
  refine ob s₁ (mkF mG 1 #[oi (5 : Int32), oi (1 : Int32)] [(.int (5 : Int32))]) (fun _ kk => XS.iloadN X0.here hx rfl (hb hby d18_0) rfl kk) ?_
  refine ob s₁ (mkF mG 14 #[oi (5 : Int32), oi (1 : Int32)] []) (fun _ kk => XS.ifYes X0.here hx rfl (pc0 := 1) (pc' := 14) rfl (hb hby d18_1) rfl ((if0 _ _).trans (feq (by decide : ¬ ((5 : Int32) = (0 : Int32)))).2) (by decide) (by decide) kk) ?_
  refine ob s₁ (mkF mG 15 #[oi (5 : Int32), oi (1 : Int32)] [(.int (5 : Int32))]) (fun _ kk => XS.iloadN X0.here hx rfl (hb hby d18_14) rfl kk) ?_
  refine ob s₁ (mkF mG 16 #[oi (5 : Int32), oi (1 : Int32)] [(.int (1 : Int32)), (.int (5 : Int32))]) (fun _ kk => XS.iconst X0.here hx rfl (hb hby d18_15) kk) ?_
  refine ob s₁ (mkF mG 21 #[oi (5 : Int32), oi (1 : Int32)] []) (fun _ kk => XS.icmpYes X0.here hx rfl (pc0 := 16) (pc' := 21) rfl (hb hby d18_16) rfl (feq (by decide : ¬ ((5 : Int32) = (1 : Int32)))).2 (by decide) (by decide) kk) ?_
  refine ob s₁ (mkF mG 22 #[oi (5 : Int32), oi (1 : Int32)] [(.int (5 : Int32))]) (fun _ kk => XS.iloadN X0.here hx rfl (hb hby d18_21) rfl kk) ?_
  refine ob s₁ (mkF mG 23 #[oi (5 : Int32), oi (1 : Int32)] [(.int (2 : Int32)), (.int (5 : Int32))]) (fun _ kk => XS.iconst X0.here hx rfl (hb hby d18_22) kk) ?_
  refine ob s₁ (mkF mG 36 #[oi (5 : Int32), oi (1 : Int32)] []) (fun _ kk => XS.icmpYes X0.here hx rfl (pc0 := 23) (pc' := 36) rfl (hb hby d18_23) rfl (feq (by decide : ¬ ((5 : Int32) = (2 : Int32)))).2 (by decide) (by decide) kk) ?_
  refine ob s₁ (mkF mG 37 #[oi (5 : Int32), oi (1 : Int32)] [(.int (5 : Int32))]) (fun _ kk => XS.iloadN X0.here hx rfl (hb hby d18_36) rfl kk) ?_
  refine ob s₁ (mkF mG 38 #[oi (5 : Int32), oi (1 : Int32)] [(.int (3 : Int32)), (.int (5 : Int32))]) (fun _ kk => XS.iconst X0.here hx rfl (hb hby d18_37) kk) ?_
  refine ob s₁ (mkF mG 43 #[oi (5 : Int32), oi (1 : Int32)] []) (fun _ kk => XS.icmpYes X0.here hx rfl (pc0 := 38) (pc' := 43) rfl (hb hby d18_38) rfl (feq (by decide : ¬ ((5 : Int32) = (3 : Int32)))).2 (by decide) (by decide) kk) ?_
  refine ob s₁ (mkF mG 44 #[oi (5 : Int32), oi (1 : Int32)] [(.int (5 : Int32))]) (fun _ kk => XS.iloadN X0.here hx rfl (hb hby d18_43) rfl kk) ?_
  refine ob s₁ (mkF mG 45 #[oi (5 : Int32), oi (1 : Int32)] [(.int (4 : Int32)), (.int (5 : Int32))]) (fun _ kk => XS.iconst X0.here hx rfl (hb hby d18_44) kk) ?_
  refine ob s₁ (mkF mG 58 #[oi (5 : Int32), oi (1 : Int32)] []) (fun _ kk => XS.icmpYes X0.here hx rfl (pc0 := 45) (pc' := 58) rfl (hb hby d18_45) rfl (feq (by decide : ¬ ((5 : Int32) = (4 : Int32)))).2 (by decide) (by decide) kk) ?_
  refine ob s₁ (mkF mG 59 #[oi (5 : Int32), oi (1 : Int32)] [(.int (5 : Int32))]) (fun _ kk => XS.iloadN X0.here hx rfl (hb hby d18_58) rfl kk) ?_
  refine ob s₁ (mkF mG 60 #[oi (5 : Int32), oi (1 : Int32)] [(.int (5 : Int32)), (.int (5 : Int32))]) (fun _ kk => XS.iconst X0.here hx rfl (hb hby d18_59) kk) ?_
  refine ob s₁ (mkF mG 63 #[oi (5 : Int32), oi (1 : Int32)] []) (fun _ kk => XS.icmpNo X0.here hx rfl (hb hby d18_60) rfl (teq (by decide : (5 : Int32) = (5 : Int32))).2 kk) ?_
  refine ob s₁ (mkF mG 64 #[oi (5 : Int32), oi (1 : Int32)] [(.int (1 : Int32))]) (fun _ kk => XS.iloadN X0.here hx rfl (hb hby d18_63) rfl kk) ?_
  refine ob s₁ (mkF mG 67 #[oi (5 : Int32), oi (1 : Int32)] []) (fun _ kk => XS.ifNo X0.here hx rfl (hb hby d18_64) rfl ((if0 _ _).trans (feq (by decide : ¬ ((1 : Int32) = (0 : Int32)))).1) kk) ?_
  refine ob s₁ (mkF mG 68 #[oi (5 : Int32), oi (1 : Int32)] [(.int (-1 : Int32))]) (fun _ kk => XS.iconst X0.here hx rfl (hb hby d18_67) kk) ?_
  refine ob s₁ (mkF mG 72 #[oi (5 : Int32), oi (1 : Int32)] [(.int (-1 : Int32))]) (fun _ kk => XS.goto X0.here hx rfl (pc0 := 68) (pc' := 72) rfl (hb hby d18_68) (by decide) (by decide) kk) ?_
  obtain ⟨fs, hr, hrun, hended, hW, hsame⟩ := X0.leave (v := some (.int (-1 : Int32))) (fun h => by rw [Bd.returns] at h; cases h)
  refine oout (retOut X0 hx Bd.returns rfl (Or.inl ⟨rfl, Or.inl rfl, _, rfl⟩) (hb hby d18_72) hr) hrun hended ⟨_, _, rfl, ?_, ⟨_, rfl⟩, hW, hsame.mono (by decide) (by decide)⟩
  show Q_rm_ru5_1 Z wA wD wG wU wV wN wB wC wF wE wO k_1 k_2  h0 n0 _ s₁.heap _
  rw [e0]
  exact ⟨rfl, N0, rfl⟩

theorem d18_73 : decode method_3_code 73 = .ok (.iconst 0, 1) := by decide +kernel
theorem d18_74 : decode method_3_code 74 = .ok (.ireturn, 1) := by decide +kernel
def Q_rm_ru6_0 (Z : State) (wA wD wG wU wV wN wB wC wF wE wO : Addr) (k_1 k_2 : ClassId)  (h0 : Heap) (n0 : Nat) (v : Option Value) (h : Heap) (L : List Loc) : Prop := v = some (.int (0 : Int32)) ∧ Fr n0 L ∧ h = h0
set_option maxRecDepth 65536 in
set_option maxHeartbeats 40000000 in
theorem rm_ru6_0 (l : Launch) (Z : State) (a0 : Array Value) (hw : ∀ d ∈ tables_1, d.before a0 Z = true) (ws : List Jvm.Cond) (wA wD wG wU wV wN wB wC wF wE wO : Addr) (k_1 k_2 : ClassId)  (h0 : Heap) (n0 : Nat) (O0 : Old Z n0 h0) (hS : St0 Z wA wD wG wU wV wN wB wC wF wE wO k_1 k_2 ) :
    MetFree l (⟨"com/example/vorgang/vorgang/model/CallPolicyDispatchPinLaw", "rule", "(IZ)I"⟩ : MethodName) (head1 (Jvm.Cond.code (⟨"com/example/vorgang/vorgang/model/CallPolicyDispatchPinLaw", "rule", "(IZ)I"⟩ : MethodName) method_3_code 2 (some .int) :: ws) ({ frames := 0, cells := 0, slots := 0, locals := 0 } : Room)) (fun aG UG => aG = #[(.int (6 : Int32)), (.int (0 : Int32))] ∧ Z.Warmed39 UG.vm ∧ UG.heap = h0) (fun _ _ _ _ _ => True) (fun _ UG oG UG' => ∃ vG LG, oG = .returned vG ∧ Q_rm_ru6_0 Z wA wD wG wU wV wN wB wC wF wE wO k_1 k_2  h0 n0 vG UG'.heap LG ∧ FrameEnd UG oG UG' LG ({ frames := 0, cells := 0, slots := 0, locals := 0 } : Room).cells ({ frames := 0, cells := 0, slots := 0, locals := 0 } : Room).slots) := by
  refine MetFree.of_bodySF (plainFor_of_name pn_0) hisR ?_
  intro pG eG sG mG argsG belowG methG cG s₁ Bd hml0 hP hK
  obtain ⟨rfl, hZ, hh⟩ := hP
  have hx := Bd.exec
  have hby := Bd.bytes
  have hml : cG.maxLocals = 2 := hml0
  have hown : sG.vm.findClass "com/example/vorgang/vorgang/model/CallPolicyDispatchPinLaw" = some mG.cls := findClass_of_methodNamed Bd.named
  have hnm := (name_of_methodNamed Bd.named Bd.method).1
  have X0 : Stand pG l eG ({ frames := 0, cells := 0, slots := 0, locals := 0 } : Room) sG mG #[(.int (6 : Int32)), (.int (0 : Int32))] belowG methG cG s₁ [] 0 0 := Stand.of_body Bd
  have e0 : s₁.heap = h0 := by rw [← hh, Bd.state]; rfl
  have N0 := Fr.nil n0
  have K0 := Keep.refl h0 []
  obtain ⟨S_wA, E_wA, S_wD, E_wD, S_wG, E_wG, S_wU, E_wU, S_wV, E_wV, S_wN, E_wN, S_wB, E_wB, S_wC, E_wC, S_wF, E_wF, S_wE, E_wE, S_wO, E_wO, F_wA_ordinal, F_wG_ordinal, F_wD_ordinal, F_wU_ordinal, F_wV_ordinal, F_wN_ordinal, F_wB_ordinal, F_wC_ordinal, F_wF_ordinal, F_wE_ordinal, F_wO_value, L_1, L_2, ne_wA_wG, ne_wA_wD, ne_wA_wB, ne_wA_wC, ne_wA_wF, ne_wA_wE, ne_wG_wD, ne_wG_wB, ne_wG_wC, ne_wG_wF, ne_wG_wE, ne_wD_wB, ne_wD_wC, ne_wD_wF, ne_wD_wE, ne_wU_wV, ne_wU_wN, ne_wV_wN, ne_wB_wC, ne_wB_wF, ne_wB_wE, ne_wC_wF, ne_wC_wE, ne_wF_wE⟩ := (id hS : St0 Z wA wD wG wU wV wN wB wC wF wE wO k_1 k_2 )
  refine ostart (g' := (mkF mG 0 #[oi (6 : Int32), oi (0 : Int32)] [])) (by first | (simp [entryFrame, mkF, argsToLocals, Value.category]; done) | rfl) ?_
  refine ob s₁ (mkF mG 1 #[oi (6 : Int32), oi (0 : Int32)] [(.int (6 : Int32))]) (fun _ kk => XS.iloadN X0.here hx rfl (hb hby d18_0) rfl kk) ?_
  refine ob s₁ (mkF mG 14 #[oi (6 : Int32), oi (0 : Int32)] []) (fun _ kk => XS.ifYes X0.here hx rfl (pc0 := 1) (pc' := 14) rfl (hb hby d18_1) rfl ((if0 _ _).trans (feq (by decide : ¬ ((6 : Int32) = (0 : Int32)))).2) (by decide) (by decide) kk) ?_
  refine ob s₁ (mkF mG 15 #[oi (6 : Int32), oi (0 : Int32)] [(.int (6 : Int32))]) (fun _ kk => XS.iloadN X0.here hx rfl (hb hby d18_14) rfl kk) ?_
  refine ob s₁ (mkF mG 16 #[oi (6 : Int32), oi (0 : Int32)] [(.int (1 : Int32)), (.int (6 : Int32))]) (fun _ kk => XS.iconst X0.here hx rfl (hb hby d18_15) kk) ?_
  refine ob s₁ (mkF mG 21 #[oi (6 : Int32), oi (0 : Int32)] []) (fun _ kk => XS.icmpYes X0.here hx rfl (pc0 := 16) (pc' := 21) rfl (hb hby d18_16) rfl (feq (by decide : ¬ ((6 : Int32) = (1 : Int32)))).2 (by decide) (by decide) kk) ?_
  refine ob s₁ (mkF mG 22 #[oi (6 : Int32), oi (0 : Int32)] [(.int (6 : Int32))]) (fun _ kk => XS.iloadN X0.here hx rfl (hb hby d18_21) rfl kk) ?_
  refine ob s₁ (mkF mG 23 #[oi (6 : Int32), oi (0 : Int32)] [(.int (2 : Int32)), (.int (6 : Int32))]) (fun _ kk => XS.iconst X0.here hx rfl (hb hby d18_22) kk) ?_
  refine ob s₁ (mkF mG 36 #[oi (6 : Int32), oi (0 : Int32)] []) (fun _ kk => XS.icmpYes X0.here hx rfl (pc0 := 23) (pc' := 36) rfl (hb hby d18_23) rfl (feq (by decide : ¬ ((6 : Int32) = (2 : Int32)))).2 (by decide) (by decide) kk) ?_
  refine ob s₁ (mkF mG 37 #[oi (6 : Int32), oi (0 : Int32)] [(.int (6 : Int32))]) (fun _ kk => XS.iloadN X0.here hx rfl (hb hby d18_36) rfl kk) ?_
  refine ob s₁ (mkF mG 38 #[oi (6 : Int32), oi (0 : Int32)] [(.int (3 : Int32)), (.int (6 : Int32))]) (fun _ kk => XS.iconst X0.here hx rfl (hb hby d18_37) kk) ?_
  refine ob s₁ (mkF mG 43 #[oi (6 : Int32), oi (0 : Int32)] []) (fun _ kk => XS.icmpYes X0.here hx rfl (pc0 := 38) (pc' := 43) rfl (hb hby d18_38) rfl (feq (by decide : ¬ ((6 : Int32) = (3 : Int32)))).2 (by decide) (by decide) kk) ?_
  refine ob s₁ (mkF mG 44 #[oi (6 : Int32), oi (0 : Int32)] [(.int (6 : Int32))]) (fun _ kk => XS.iloadN X0.here hx rfl (hb hby d18_43) rfl kk) ?_
  refine ob s₁ (mkF mG 45 #[oi (6 : Int32), oi (0 : Int32)] [(.int (4 : Int32)), (.int (6 : Int32))]) (fun _ kk => XS.iconst X0.here hx rfl (hb hby d18_44) kk) ?_
  refine ob s₁ (mkF mG 58 #[oi (6 : Int32), oi (0 : Int32)] []) (fun _ kk => XS.icmpYes X0.here hx rfl (pc0 := 45) (pc' := 58) rfl (hb hby d18_45) rfl (feq (by decide : ¬ ((6 : Int32) = (4 : Int32)))).2 (by decide) (by decide) kk) ?_
  refine ob s₁ (mkF mG 59 #[oi (6 : Int32), oi (0 : Int32)] [(.int (6 : Int32))]) (fun _ kk => XS.iloadN X0.here hx rfl (hb hby d18_58) rfl kk) ?_
  refine ob s₁ (mkF mG 60 #[oi (6 : Int32), oi (0 : Int32)] [(.int (5 : Int32)), (.int (6 : Int32))]) (fun _ kk => XS.iconst X0.here hx rfl (hb hby d18_59) kk) ?_
  refine ob s₁ (mkF mG 73 #[oi (6 : Int32), oi (0 : Int32)] []) (fun _ kk => XS.icmpYes X0.here hx rfl (pc0 := 60) (pc' := 73) rfl (hb hby d18_60) rfl (feq (by decide : ¬ ((6 : Int32) = (5 : Int32)))).2 (by decide) (by decide) kk) ?_
  refine ob s₁ (mkF mG 74 #[oi (6 : Int32), oi (0 : Int32)] [(.int (0 : Int32))]) (fun _ kk => XS.iconst X0.here hx rfl (hb hby d18_73) kk) ?_
  obtain ⟨fs, hr, hrun, hended, hW, hsame⟩ := X0.leave (v := some (.int (0 : Int32))) (fun h => by rw [Bd.returns] at h; cases h)
  refine oout (retOut X0 hx Bd.returns rfl (Or.inl ⟨rfl, Or.inl rfl, _, rfl⟩) (hb hby d18_74) hr) hrun hended ⟨_, _, rfl, ?_, ⟨_, rfl⟩, hW, hsame.mono (by decide) (by decide)⟩
  show Q_rm_ru6_0 Z wA wD wG wU wV wN wB wC wF wE wO k_1 k_2  h0 n0 _ s₁.heap _
  rw [e0]
  exact ⟨rfl, N0, rfl⟩

def Q_rm_ru6_1 (Z : State) (wA wD wG wU wV wN wB wC wF wE wO : Addr) (k_1 k_2 : ClassId)  (h0 : Heap) (n0 : Nat) (v : Option Value) (h : Heap) (L : List Loc) : Prop := v = some (.int (0 : Int32)) ∧ Fr n0 L ∧ h = h0
set_option maxRecDepth 65536 in
set_option maxHeartbeats 40000000 in
theorem rm_ru6_1 (l : Launch) (Z : State) (a0 : Array Value) (hw : ∀ d ∈ tables_1, d.before a0 Z = true) (ws : List Jvm.Cond) (wA wD wG wU wV wN wB wC wF wE wO : Addr) (k_1 k_2 : ClassId)  (h0 : Heap) (n0 : Nat) (O0 : Old Z n0 h0) (hS : St0 Z wA wD wG wU wV wN wB wC wF wE wO k_1 k_2 ) :
    MetFree l (⟨"com/example/vorgang/vorgang/model/CallPolicyDispatchPinLaw", "rule", "(IZ)I"⟩ : MethodName) (head1 (Jvm.Cond.code (⟨"com/example/vorgang/vorgang/model/CallPolicyDispatchPinLaw", "rule", "(IZ)I"⟩ : MethodName) method_3_code 2 (some .int) :: ws) ({ frames := 0, cells := 0, slots := 0, locals := 0 } : Room)) (fun aG UG => aG = #[(.int (6 : Int32)), (.int (1 : Int32))] ∧ Z.Warmed39 UG.vm ∧ UG.heap = h0) (fun _ _ _ _ _ => True) (fun _ UG oG UG' => ∃ vG LG, oG = .returned vG ∧ Q_rm_ru6_1 Z wA wD wG wU wV wN wB wC wF wE wO k_1 k_2  h0 n0 vG UG'.heap LG ∧ FrameEnd UG oG UG' LG ({ frames := 0, cells := 0, slots := 0, locals := 0 } : Room).cells ({ frames := 0, cells := 0, slots := 0, locals := 0 } : Room).slots) := by
  refine MetFree.of_bodySF (plainFor_of_name pn_0) hisR ?_
  intro pG eG sG mG argsG belowG methG cG s₁ Bd hml0 hP hK
  obtain ⟨rfl, hZ, hh⟩ := hP
  have hx := Bd.exec
  have hby := Bd.bytes
  have hml : cG.maxLocals = 2 := hml0
  have hown : sG.vm.findClass "com/example/vorgang/vorgang/model/CallPolicyDispatchPinLaw" = some mG.cls := findClass_of_methodNamed Bd.named
  have hnm := (name_of_methodNamed Bd.named Bd.method).1
  have X0 : Stand pG l eG ({ frames := 0, cells := 0, slots := 0, locals := 0 } : Room) sG mG #[(.int (6 : Int32)), (.int (1 : Int32))] belowG methG cG s₁ [] 0 0 := Stand.of_body Bd
  have e0 : s₁.heap = h0 := by rw [← hh, Bd.state]; rfl
  have N0 := Fr.nil n0
  have K0 := Keep.refl h0 []
  obtain ⟨S_wA, E_wA, S_wD, E_wD, S_wG, E_wG, S_wU, E_wU, S_wV, E_wV, S_wN, E_wN, S_wB, E_wB, S_wC, E_wC, S_wF, E_wF, S_wE, E_wE, S_wO, E_wO, F_wA_ordinal, F_wG_ordinal, F_wD_ordinal, F_wU_ordinal, F_wV_ordinal, F_wN_ordinal, F_wB_ordinal, F_wC_ordinal, F_wF_ordinal, F_wE_ordinal, F_wO_value, L_1, L_2, ne_wA_wG, ne_wA_wD, ne_wA_wB, ne_wA_wC, ne_wA_wF, ne_wA_wE, ne_wG_wD, ne_wG_wB, ne_wG_wC, ne_wG_wF, ne_wG_wE, ne_wD_wB, ne_wD_wC, ne_wD_wF, ne_wD_wE, ne_wU_wV, ne_wU_wN, ne_wV_wN, ne_wB_wC, ne_wB_wF, ne_wB_wE, ne_wC_wF, ne_wC_wE, ne_wF_wE⟩ := (id hS : St0 Z wA wD wG wU wV wN wB wC wF wE wO k_1 k_2 )
  refine ostart (g' := (mkF mG 0 #[oi (6 : Int32), oi (1 : Int32)] [])) (by first | (simp [entryFrame, mkF, argsToLocals, Value.category]; done) | rfl) ?_
  refine ob s₁ (mkF mG 1 #[oi (6 : Int32), oi (1 : Int32)] [(.int (6 : Int32))]) (fun _ kk => XS.iloadN X0.here hx rfl (hb hby d18_0) rfl kk) ?_
  refine ob s₁ (mkF mG 14 #[oi (6 : Int32), oi (1 : Int32)] []) (fun _ kk => XS.ifYes X0.here hx rfl (pc0 := 1) (pc' := 14) rfl (hb hby d18_1) rfl ((if0 _ _).trans (feq (by decide : ¬ ((6 : Int32) = (0 : Int32)))).2) (by decide) (by decide) kk) ?_
  refine ob s₁ (mkF mG 15 #[oi (6 : Int32), oi (1 : Int32)] [(.int (6 : Int32))]) (fun _ kk => XS.iloadN X0.here hx rfl (hb hby d18_14) rfl kk) ?_
  refine ob s₁ (mkF mG 16 #[oi (6 : Int32), oi (1 : Int32)] [(.int (1 : Int32)), (.int (6 : Int32))]) (fun _ kk => XS.iconst X0.here hx rfl (hb hby d18_15) kk) ?_
  refine ob s₁ (mkF mG 21 #[oi (6 : Int32), oi (1 : Int32)] []) (fun _ kk => XS.icmpYes X0.here hx rfl (pc0 := 16) (pc' := 21) rfl (hb hby d18_16) rfl (feq (by decide : ¬ ((6 : Int32) = (1 : Int32)))).2 (by decide) (by decide) kk) ?_
  refine ob s₁ (mkF mG 22 #[oi (6 : Int32), oi (1 : Int32)] [(.int (6 : Int32))]) (fun _ kk => XS.iloadN X0.here hx rfl (hb hby d18_21) rfl kk) ?_
  refine ob s₁ (mkF mG 23 #[oi (6 : Int32), oi (1 : Int32)] [(.int (2 : Int32)), (.int (6 : Int32))]) (fun _ kk => XS.iconst X0.here hx rfl (hb hby d18_22) kk) ?_
  refine ob s₁ (mkF mG 36 #[oi (6 : Int32), oi (1 : Int32)] []) (fun _ kk => XS.icmpYes X0.here hx rfl (pc0 := 23) (pc' := 36) rfl (hb hby d18_23) rfl (feq (by decide : ¬ ((6 : Int32) = (2 : Int32)))).2 (by decide) (by decide) kk) ?_
  refine ob s₁ (mkF mG 37 #[oi (6 : Int32), oi (1 : Int32)] [(.int (6 : Int32))]) (fun _ kk => XS.iloadN X0.here hx rfl (hb hby d18_36) rfl kk) ?_
  refine ob s₁ (mkF mG 38 #[oi (6 : Int32), oi (1 : Int32)] [(.int (3 : Int32)), (.int (6 : Int32))]) (fun _ kk => XS.iconst X0.here hx rfl (hb hby d18_37) kk) ?_
  refine ob s₁ (mkF mG 43 #[oi (6 : Int32), oi (1 : Int32)] []) (fun _ kk => XS.icmpYes X0.here hx rfl (pc0 := 38) (pc' := 43) rfl (hb hby d18_38) rfl (feq (by decide : ¬ ((6 : Int32) = (3 : Int32)))).2 (by decide) (by decide) kk) ?_
  refine ob s₁ (mkF mG 44 #[oi (6 : Int32), oi (1 : Int32)] [(.int (6 : Int32))]) (fun _ kk => XS.iloadN X0.here hx rfl (hb hby d18_43) rfl kk) ?_
  refine ob s₁ (mkF mG 45 #[oi (6 : Int32), oi (1 : Int32)] [(.int (4 : Int32)), (.int (6 : Int32))]) (fun _ kk => XS.iconst X0.here hx rfl (hb hby d18_44) kk) ?_
  refine ob s₁ (mkF mG 58 #[oi (6 : Int32), oi (1 : Int32)] []) (fun _ kk => XS.icmpYes X0.here hx rfl (pc0 := 45) (pc' := 58) rfl (hb hby d18_45) rfl (feq (by decide : ¬ ((6 : Int32) = (4 : Int32)))).2 (by decide) (by decide) kk) ?_
  refine ob s₁ (mkF mG 59 #[oi (6 : Int32), oi (1 : Int32)] [(.int (6 : Int32))]) (fun _ kk => XS.iloadN X0.here hx rfl (hb hby d18_58) rfl kk) ?_
  refine ob s₁ (mkF mG 60 #[oi (6 : Int32), oi (1 : Int32)] [(.int (5 : Int32)), (.int (6 : Int32))]) (fun _ kk => XS.iconst X0.here hx rfl (hb hby d18_59) kk) ?_
  refine ob s₁ (mkF mG 73 #[oi (6 : Int32), oi (1 : Int32)] []) (fun _ kk => XS.icmpYes X0.here hx rfl (pc0 := 60) (pc' := 73) rfl (hb hby d18_60) rfl (feq (by decide : ¬ ((6 : Int32) = (5 : Int32)))).2 (by decide) (by decide) kk) ?_
  refine ob s₁ (mkF mG 74 #[oi (6 : Int32), oi (1 : Int32)] [(.int (0 : Int32))]) (fun _ kk => XS.iconst X0.here hx rfl (hb hby d18_73) kk) ?_
  obtain ⟨fs, hr, hrun, hended, hW, hsame⟩ := X0.leave (v := some (.int (0 : Int32))) (fun h => by rw [Bd.returns] at h; cases h)
  refine oout (retOut X0 hx Bd.returns rfl (Or.inl ⟨rfl, Or.inl rfl, _, rfl⟩) (hb hby d18_74) hr) hrun hended ⟨_, _, rfl, ?_, ⟨_, rfl⟩, hW, hsame.mono (by decide) (by decide)⟩
  show Q_rm_ru6_1 Z wA wD wG wU wV wN wB wC wF wE wO k_1 k_2  h0 n0 _ s₁.heap _
  rw [e0]
  exact ⟨rfl, N0, rfl⟩

def Q_rm_ruA (Z : State) (wA wD wG wU wV wN wB wC wF wE wO : Addr) (k_1 k_2 : ClassId) (ki bv zv : Int32) (h0 : Heap) (n0 : Nat) (v : Option Value) (h : Heap) (L : List Loc) : Prop := v = some (.int zv) ∧ Fr n0 L ∧ h = h0
set_option maxRecDepth 65536 in
set_option maxHeartbeats 40000000 in
theorem rm_ruA (l : Launch) (Z : State) (a0 : Array Value) (hw : ∀ d ∈ tables_1, d.before a0 Z = true) (ws : List Jvm.Cond) (wA wD wG wU wV wN wB wC wF wE wO : Addr) (k_1 k_2 : ClassId) (ki bv zv : Int32) (h0 : Heap) (n0 : Nat) (O0 : Old Z n0 h0) (hS : St0 Z wA wD wG wU wV wN wB wC wF wE wO k_1 k_2 ) (hk : oK7 ki) (hb : oBo bv) (hz : oRu ki bv = zv) :
    MetFree l (⟨"com/example/vorgang/vorgang/model/CallPolicyDispatchPinLaw", "rule", "(IZ)I"⟩ : MethodName) (head1 (Jvm.Cond.code (⟨"com/example/vorgang/vorgang/model/CallPolicyDispatchPinLaw", "rule", "(IZ)I"⟩ : MethodName) method_3_code 2 (some .int) :: ws) ({ frames := 0, cells := 0, slots := 0, locals := 0 } : Room)) (fun aG UG => aG = #[(.int ki), (.int bv)] ∧ Z.Warmed39 UG.vm ∧ UG.heap = h0) (fun _ _ _ _ _ => True) (fun _ UG oG UG' => ∃ vG LG, oG = .returned vG ∧ Q_rm_ruA Z wA wD wG wU wV wN wB wC wF wE wO k_1 k_2 ki bv zv h0 n0 vG UG'.heap LG ∧ FrameEnd UG oG UG' LG ({ frames := 0, cells := 0, slots := 0, locals := 0 } : Room).cells ({ frames := 0, cells := 0, slots := 0, locals := 0 } : Room).slots) := by
  rcases hk with e1 | e1 | e1 | e1 | e1 | e1 | e1
  · subst e1; rcases hb with e3 | e3
    · subst e3; have e4 : zv = (2 : Int32) := hz.symm.trans (by decide); subst e4; exact rm_ru0_0 l Z a0 hw ws wA wD wG wU wV wN wB wC wF wE wO k_1 k_2  h0 n0 O0 hS
    · subst e3; have e4 : zv = (1 : Int32) := hz.symm.trans (by decide); subst e4; exact rm_ru0_1 l Z a0 hw ws wA wD wG wU wV wN wB wC wF wE wO k_1 k_2  h0 n0 O0 hS
  · subst e1; rcases hb with e3 | e3
    · subst e3; have e4 : zv = (2 : Int32) := hz.symm.trans (by decide); subst e4; exact rm_ru1_0 l Z a0 hw ws wA wD wG wU wV wN wB wC wF wE wO k_1 k_2  h0 n0 O0 hS
    · subst e3; have e4 : zv = (2 : Int32) := hz.symm.trans (by decide); subst e4; exact rm_ru1_1 l Z a0 hw ws wA wD wG wU wV wN wB wC wF wE wO k_1 k_2  h0 n0 O0 hS
  · subst e1; rcases hb with e3 | e3
    · subst e3; have e4 : zv = (0 : Int32) := hz.symm.trans (by decide); subst e4; exact rm_ru2_0 l Z a0 hw ws wA wD wG wU wV wN wB wC wF wE wO k_1 k_2  h0 n0 O0 hS
    · subst e3; have e4 : zv = (1 : Int32) := hz.symm.trans (by decide); subst e4; exact rm_ru2_1 l Z a0 hw ws wA wD wG wU wV wN wB wC wF wE wO k_1 k_2  h0 n0 O0 hS
  · subst e1; rcases hb with e3 | e3
    · subst e3; have e4 : zv = (0 : Int32) := hz.symm.trans (by decide); subst e4; exact rm_ru3_0 l Z a0 hw ws wA wD wG wU wV wN wB wC wF wE wO k_1 k_2  h0 n0 O0 hS
    · subst e3; have e4 : zv = (0 : Int32) := hz.symm.trans (by decide); subst e4; exact rm_ru3_1 l Z a0 hw ws wA wD wG wU wV wN wB wC wF wE wO k_1 k_2  h0 n0 O0 hS
  · subst e1; rcases hb with e3 | e3
    · subst e3; have e4 : zv = (-1 : Int32) := hz.symm.trans (by decide); subst e4; exact rm_ru4_0 l Z a0 hw ws wA wD wG wU wV wN wB wC wF wE wO k_1 k_2  h0 n0 O0 hS
    · subst e3; have e4 : zv = (1 : Int32) := hz.symm.trans (by decide); subst e4; exact rm_ru4_1 l Z a0 hw ws wA wD wG wU wV wN wB wC wF wE wO k_1 k_2  h0 n0 O0 hS
  · subst e1; rcases hb with e3 | e3
    · subst e3; have e4 : zv = (0 : Int32) := hz.symm.trans (by decide); subst e4; exact rm_ru5_0 l Z a0 hw ws wA wD wG wU wV wN wB wC wF wE wO k_1 k_2  h0 n0 O0 hS
    · subst e3; have e4 : zv = (-1 : Int32) := hz.symm.trans (by decide); subst e4; exact rm_ru5_1 l Z a0 hw ws wA wD wG wU wV wN wB wC wF wE wO k_1 k_2  h0 n0 O0 hS
  · subst e1; rcases hb with e3 | e3
    · subst e3; have e4 : zv = (0 : Int32) := hz.symm.trans (by decide); subst e4; exact rm_ru6_0 l Z a0 hw ws wA wD wG wU wV wN wB wC wF wE wO k_1 k_2  h0 n0 O0 hS
    · subst e3; have e4 : zv = (0 : Int32) := hz.symm.trans (by decide); subst e4; exact rm_ru6_1 l Z a0 hw ws wA wD wG wU wV wN wB wC wF wE wO k_1 k_2  h0 n0 O0 hS

theorem d8_0 : decode jdk_37_method_2_code 0 = .ok (.aload_n 0, 1) := by decide +kernel
theorem d8_1 : decode jdk_37_method_2_code 1 = .ok (.getfield 7, 3) := by decide +kernel
theorem d8_4 : decode jdk_37_method_2_code 4 = .ok (.ireturn, 1) := by decide +kernel
def Q_rm_ord (Z : State) (wA wD wG wU wV wN wB wC wF wE wO : Addr) (k_1 k_2 : ClassId) (a : Addr) (zv : Int32) (h0 : Heap) (n0 : Nat) (v : Option Value) (h : Heap) (L : List Loc) : Prop := v = some (.int zv) ∧ Fr n0 L ∧ h = h0
set_option maxRecDepth 65536 in
set_option maxHeartbeats 40000000 in
theorem rm_ord (l : Launch) (Z : State) (a0 : Array Value) (hw : ∀ d ∈ tables_1, d.before a0 Z = true) (ws : List Jvm.Cond) (wA wD wG wU wV wN wB wC wF wE wO : Addr) (k_1 k_2 : ClassId) (a : Addr) (zv : Int32) (h0 : Heap) (n0 : Nat) (O0 : Old Z n0 h0) (hS : St0 Z wA wD wG wU wV wN wB wC wF wE wO k_1 k_2 ) (F_a : Fld Z h0 a "java/lang/Enum" "ordinal" "I" (.int zv)) :
    MetFree l (⟨"java/lang/Enum", "ordinal", "()I"⟩ : MethodName) (head1 (Jvm.Cond.code (⟨"java/lang/Enum", "ordinal", "()I"⟩ : MethodName) jdk_37_method_2_code 1 (some .int) :: ws) ({ frames := 0, cells := 0, slots := 0, locals := 0 } : Room)) (fun aG UG => aG = #[(.ref a)] ∧ Z.Warmed39 UG.vm ∧ UG.heap = h0) (fun _ _ _ _ _ => True) (fun _ UG oG UG' => ∃ vG LG, oG = .returned vG ∧ Q_rm_ord Z wA wD wG wU wV wN wB wC wF wE wO k_1 k_2 a zv h0 n0 vG UG'.heap LG ∧ FrameEnd UG oG UG' LG ({ frames := 0, cells := 0, slots := 0, locals := 0 } : Room).cells ({ frames := 0, cells := 0, slots := 0, locals := 0 } : Room).slots) := by
  refine MetFree.of_bodySF (plainFor_of_name pn_1) hisR ?_
  intro pG eG sG mG argsG belowG methG cG s₁ Bd hml0 hP hK
  obtain ⟨rfl, hZ, hh⟩ := hP
  have hx := Bd.exec
  have hby := Bd.bytes
  have hml : cG.maxLocals = 1 := hml0
  have hown : sG.vm.findClass "java/lang/Enum" = some mG.cls := findClass_of_methodNamed Bd.named
  have hnm := (name_of_methodNamed Bd.named Bd.method).1
  have X0 : Stand pG l eG ({ frames := 0, cells := 0, slots := 0, locals := 0 } : Room) sG mG #[(.ref a)] belowG methG cG s₁ [] 0 0 := Stand.of_body Bd
  have e0 : s₁.heap = h0 := by rw [← hh, Bd.state]; rfl
  have N0 := Fr.nil n0
  have K0 := Keep.refl h0 []
  obtain ⟨S_wA, E_wA, S_wD, E_wD, S_wG, E_wG, S_wU, E_wU, S_wV, E_wV, S_wN, E_wN, S_wB, E_wB, S_wC, E_wC, S_wF, E_wF, S_wE, E_wE, S_wO, E_wO, F_wA_ordinal, F_wG_ordinal, F_wD_ordinal, F_wU_ordinal, F_wV_ordinal, F_wN_ordinal, F_wB_ordinal, F_wC_ordinal, F_wF_ordinal, F_wE_ordinal, F_wO_value, L_1, L_2, ne_wA_wG, ne_wA_wD, ne_wA_wB, ne_wA_wC, ne_wA_wF, ne_wA_wE, ne_wG_wD, ne_wG_wB, ne_wG_wC, ne_wG_wF, ne_wG_wE, ne_wD_wB, ne_wD_wC, ne_wD_wF, ne_wD_wE, ne_wU_wV, ne_wU_wN, ne_wV_wN, ne_wB_wC, ne_wB_wF, ne_wB_wE, ne_wC_wF, ne_wC_wE, ne_wF_wE⟩ := (id hS : St0 Z wA wD wG wU wV wN wB wC wF wE wO k_1 k_2 )
  refine ostart (g' := (mkF mG 0 #[oa a] [])) (by first | (simp [entryFrame, mkF, argsToLocals, Value.category]; done) | rfl) ?_
  refine ob s₁ (mkF mG 1 #[oa a] [(.ref a)]) (fun _ kk => XS.aloadN X0.here hx rfl (hb hby d8_0) rfl rfl kk) ?_
  obtain ⟨T1, X1, e1, st1⟩ := getF X0 hx hZ hown (host := "") (Or.inl (ow hw 60 rfl)) Via.refl e0 F_a (g := (mkF mG 1 #[oa a] [(.ref a)])) rfl rfl (hb hby d8_1)
  refine ob T1 (mkF mG 4 #[oa a] [(.int zv)]) (fun _ kk => st1 _ kk) ?_
  obtain ⟨fs, hr, hrun, hended, hW, hsame⟩ := X1.leave (v := some (.int zv)) (fun h => by rw [Bd.returns] at h; cases h)
  refine oout (retOut X1 hx Bd.returns rfl (Or.inl ⟨rfl, Or.inl rfl, _, rfl⟩) (hb hby d8_4) hr) hrun hended ⟨_, _, rfl, ?_, ⟨_, rfl⟩, hW, hsame.mono (by decide) (by decide)⟩
  show Q_rm_ord Z wA wD wG wU wV wN wB wC wF wE wO k_1 k_2 a zv h0 n0 _ T1.heap _
  rw [e1]
  exact ⟨rfl, N0, rfl⟩

theorem d10_0 : decode jdk_32_method_2_code 0 = .ok (.aload_n 0, 1) := by decide +kernel
theorem d10_1 : decode jdk_32_method_2_code 1 = .ok (.invokespecial 7, 3) := by decide +kernel
theorem d10_4 : decode jdk_32_method_2_code 4 = .ok (.aload_n 0, 1) := by decide +kernel
theorem d10_5 : decode jdk_32_method_2_code 5 = .ok (.aload_n 1, 1) := by decide +kernel
theorem d10_6 : decode jdk_32_method_2_code 6 = .ok (.putfield 13, 3) := by decide +kernel
theorem d10_9 : decode jdk_32_method_2_code 9 = .ok (.return_, 1) := by decide +kernel
def Q_rm_opi (Z : State) (wA wD wG wU wV wN wB wC wF wE wO : Addr) (k_1 k_2 : ClassId) (a o : Addr) (u0 : Value) (h0 : Heap) (n0 : Nat) (v : Option Value) (h : Heap) (L : List Loc) : Prop := v = none ∧ Fr n0 L ∧ Keep h0 h [a] ∧ Old Z n0 h ∧ Fld Z h a "java/util/Optional" "value" "Ljava/lang/Object;" (.ref o)
set_option maxRecDepth 65536 in
set_option maxHeartbeats 40000000 in
theorem rm_opi (l : Launch) (Z : State) (a0 : Array Value) (hw : ∀ d ∈ tables_1, d.before a0 Z = true) (ws : List Jvm.Cond) (wA wD wG wU wV wN wB wC wF wE wO : Addr) (k_1 k_2 : ClassId) (a o : Addr) (u0 : Value) (h0 : Heap) (n0 : Nat) (O0 : Old Z n0 h0) (hS : St0 Z wA wD wG wU wV wN wB wC wF wE wO k_1 k_2 ) (E_a : Exa Z h0 a "java/util/Optional") (F_0 : Fld Z h0 a "java/util/Optional" "value" "Ljava/lang/Object;" u0) (n_a : n0 ≤ a) :
    MetFree l (⟨"java/util/Optional", "<init>", "(Ljava/lang/Object;)V"⟩ : MethodName) (head1 (Jvm.Cond.code (⟨"java/util/Optional", "<init>", "(Ljava/lang/Object;)V"⟩ : MethodName) jdk_32_method_2_code 2 none :: ws) ({ frames := 1, cells := 0, slots := 0, locals := 12 } : Room)) (fun aG UG => aG = #[(.ref a), (.ref o)] ∧ Z.Warmed39 UG.vm ∧ UG.heap = h0) (fun _ _ _ _ _ => True) (fun _ UG oG UG' => ∃ vG LG, oG = .returned vG ∧ Q_rm_opi Z wA wD wG wU wV wN wB wC wF wE wO k_1 k_2 a o u0 h0 n0 vG UG'.heap LG ∧ FrameEnd UG oG UG' LG ({ frames := 1, cells := 0, slots := 0, locals := 12 } : Room).cells ({ frames := 1, cells := 0, slots := 0, locals := 12 } : Room).slots) := by
  refine MetFree.of_bodySF (plainFor_of_name pn_2) hisR ?_
  intro pG eG sG mG argsG belowG methG cG s₁ Bd hml0 hP hK
  obtain ⟨rfl, hZ, hh⟩ := hP
  have hx := Bd.exec
  have hby := Bd.bytes
  have hml : cG.maxLocals = 2 := hml0
  have hown : sG.vm.findClass "java/util/Optional" = some mG.cls := findClass_of_methodNamed Bd.named
  have hnm := (name_of_methodNamed Bd.named Bd.method).1
  have X0 : Stand pG l eG ({ frames := 1, cells := 0, slots := 0, locals := 12 } : Room) sG mG #[(.ref a), (.ref o)] belowG methG cG s₁ [] 0 0 := Stand.of_body Bd
  have e0 : s₁.heap = h0 := by rw [← hh, Bd.state]; rfl
  have N0 := Fr.nil n0
  have K0 := Keep.refl h0 [a]
  obtain ⟨S_wA, E_wA, S_wD, E_wD, S_wG, E_wG, S_wU, E_wU, S_wV, E_wV, S_wN, E_wN, S_wB, E_wB, S_wC, E_wC, S_wF, E_wF, S_wE, E_wE, S_wO, E_wO, F_wA_ordinal, F_wG_ordinal, F_wD_ordinal, F_wU_ordinal, F_wV_ordinal, F_wN_ordinal, F_wB_ordinal, F_wC_ordinal, F_wF_ordinal, F_wE_ordinal, F_wO_value, L_1, L_2, ne_wA_wG, ne_wA_wD, ne_wA_wB, ne_wA_wC, ne_wA_wF, ne_wA_wE, ne_wG_wD, ne_wG_wB, ne_wG_wC, ne_wG_wF, ne_wG_wE, ne_wD_wB, ne_wD_wC, ne_wD_wF, ne_wD_wE, ne_wU_wV, ne_wU_wN, ne_wV_wN, ne_wB_wC, ne_wB_wF, ne_wB_wE, ne_wC_wF, ne_wC_wE, ne_wF_wE⟩ := (id hS : St0 Z wA wD wG wU wV wN wB wC wF wE wO k_1 k_2 )
  refine ostart (g' := (mkF mG 0 #[oa a, oa o] [])) (by first | (simp [entryFrame, mkF, argsToLocals, Value.category]; done) | rfl) ?_
  refine ob s₁ (mkF mG 1 #[oa a, oa o] [(.ref a)]) (fun _ kk => XS.aloadN X0.here hx rfl (hb hby d10_0) rfl rfl kk) ?_
  obtain ⟨T1, X1, e1, st1⟩ := initO X0 hx hZ hown (ow hw 75 rfl) (ow hw 22 rfl) (ow hw 23 rfl) e0 (g := (mkF mG 1 #[oa a, oa o] [(.ref a)])) rfl (by rw [hml]; rfl) rfl (hb hby d10_1) (by decide) (W := 0) (by show 2 * 0 + _ ≤ _; exact Nat.le_of_eq rfl) (by decide)
  refine ob T1 (mkF mG 4 #[oa a, oa o] []) (fun _ kk => st1 _ kk) ?_
  refine ob T1 (mkF mG 5 #[oa a, oa o] [(.ref a)]) (fun _ kk => XS.aloadN X1.here hx rfl (hb hby d10_4) rfl rfl kk) ?_
  refine ob T1 (mkF mG 6 #[oa a, oa o] [(.ref o), (.ref a)]) (fun _ kk => XS.aloadN X1.here hx rfl (hb hby d10_5) rfl rfl kk) ?_
  obtain ⟨T2, h2, X2, e2, W2, st2⟩ := putF X1 hx hZ hown (host := "") (Or.inl (ow hw 76 rfl)) Via.refl e1 F_0 E_a (Or.inr ⟨(ow hw 77 rfl), rfl, hnm⟩) (ow hw 70 rfl) (ty := (.object "java/lang/Object")) (by decide) rfl rfl (g := (mkF mG 6 #[oa a, oa o] [(.ref o), (.ref a)])) rfl rfl (hb hby d10_6)
  have F2 := F_0.same W2
  have O2 := O0.wr W2 n_a
  have K2 := K0.wr W2 (Or.inl (List.mem_of_getElem? (i := 0) rfl))
  have N2 := Fr.snoc X2 N0 n_a
  obtain ⟨LL3, X2, N2⟩ : ∃ LL, Stand pG l eG _ _ mG _ belowG methG cG T2 LL 0 0 ∧ Fr n0 LL := ⟨_, X2, N2⟩
  refine ob T2 (mkF mG 9 #[oa a, oa o] []) (fun _ kk => st2 _ kk) ?_
  obtain ⟨fs, hr, hrun, hended, hW, hsame⟩ := X2.leave (v := none) (fun _ => rfl)
  refine oout (X2.returnOut hx Bd.returns (hb hby d10_9) hr) hrun hended ⟨_, _, rfl, ?_, ⟨_, rfl⟩, hW, hsame.mono (by decide) (by decide)⟩
  show Q_rm_opi Z wA wD wG wU wV wN wB wC wF wE wO k_1 k_2 a o u0 h0 n0 _ T2.heap _
  rw [e2]
  exact ⟨rfl, N2, K2, O2, F2⟩

theorem d9_0 : decode jdk_32_method_4_code 0 = .ok (.aload_n 0, 1) := by decide +kernel
theorem d9_1 : decode jdk_32_method_4_code 1 = .ok (.ifnonnull 9, 3) := by decide +kernel
theorem d9_4 : decode jdk_32_method_4_code 4 = .ok (.getstatic 1, 3) := by decide +kernel
theorem d9_7 : decode jdk_32_method_4_code 7 = .ok (.goto 11, 3) := by decide +kernel
theorem d9_18 : decode jdk_32_method_4_code 18 = .ok (.areturn, 1) := by decide +kernel
def Q_rm_onN (Z : State) (wA wD wG wU wV wN wB wC wF wE wO : Addr) (k_1 k_2 : ClassId)  (h0 : Heap) (n0 : Nat) (v : Option Value) (h : Heap) (L : List Loc) : Prop := v = some (.ref wO) ∧ Fr n0 L ∧ h = h0
set_option maxRecDepth 65536 in
set_option maxHeartbeats 40000000 in
theorem rm_onN (l : Launch) (Z : State) (a0 : Array Value) (hw : ∀ d ∈ tables_1, d.before a0 Z = true) (ws : List Jvm.Cond) (wA wD wG wU wV wN wB wC wF wE wO : Addr) (k_1 k_2 : ClassId)  (h0 : Heap) (n0 : Nat) (O0 : Old Z n0 h0) (hS : St0 Z wA wD wG wU wV wN wB wC wF wE wO k_1 k_2 ) :
    MetFree l (⟨"java/util/Optional", "ofNullable", "(Ljava/lang/Object;)Ljava/util/Optional;"⟩ : MethodName) (head1 (Jvm.Cond.code (⟨"java/util/Optional", "ofNullable", "(Ljava/lang/Object;)Ljava/util/Optional;"⟩ : MethodName) jdk_32_method_4_code 1 (some (.object "java/util/Optional")) :: ws) ({ frames := 0, cells := 0, slots := 0, locals := 0 } : Room)) (fun aG UG => aG = #[.null] ∧ Z.Warmed39 UG.vm ∧ UG.heap = h0) (fun _ _ _ _ _ => True) (fun _ UG oG UG' => ∃ vG LG, oG = .returned vG ∧ Q_rm_onN Z wA wD wG wU wV wN wB wC wF wE wO k_1 k_2  h0 n0 vG UG'.heap LG ∧ FrameEnd UG oG UG' LG ({ frames := 0, cells := 0, slots := 0, locals := 0 } : Room).cells ({ frames := 0, cells := 0, slots := 0, locals := 0 } : Room).slots) := by
  refine MetFree.of_bodySF (plainFor_of_name pn_2) hisR ?_
  intro pG eG sG mG argsG belowG methG cG s₁ Bd hml0 hP hK
  obtain ⟨rfl, hZ, hh⟩ := hP
  have hx := Bd.exec
  have hby := Bd.bytes
  have hml : cG.maxLocals = 1 := hml0
  have hown : sG.vm.findClass "java/util/Optional" = some mG.cls := findClass_of_methodNamed Bd.named
  have hnm := (name_of_methodNamed Bd.named Bd.method).1
  have X0 : Stand pG l eG ({ frames := 0, cells := 0, slots := 0, locals := 0 } : Room) sG mG #[.null] belowG methG cG s₁ [] 0 0 := Stand.of_body Bd
  have e0 : s₁.heap = h0 := by rw [← hh, Bd.state]; rfl
  have N0 := Fr.nil n0
  have K0 := Keep.refl h0 []
  obtain ⟨S_wA, E_wA, S_wD, E_wD, S_wG, E_wG, S_wU, E_wU, S_wV, E_wV, S_wN, E_wN, S_wB, E_wB, S_wC, E_wC, S_wF, E_wF, S_wE, E_wE, S_wO, E_wO, F_wA_ordinal, F_wG_ordinal, F_wD_ordinal, F_wU_ordinal, F_wV_ordinal, F_wN_ordinal, F_wB_ordinal, F_wC_ordinal, F_wF_ordinal, F_wE_ordinal, F_wO_value, L_1, L_2, ne_wA_wG, ne_wA_wD, ne_wA_wB, ne_wA_wC, ne_wA_wF, ne_wA_wE, ne_wG_wD, ne_wG_wB, ne_wG_wC, ne_wG_wF, ne_wG_wE, ne_wD_wB, ne_wD_wC, ne_wD_wF, ne_wD_wE, ne_wU_wV, ne_wU_wN, ne_wV_wN, ne_wB_wC, ne_wB_wF, ne_wB_wE, ne_wC_wF, ne_wC_wE, ne_wF_wE⟩ := (id hS : St0 Z wA wD wG wU wV wN wB wC wF wE wO k_1 k_2 )
  refine ostart (g' := (mkF mG 0 #[.val .null] [])) (by first | (simp [entryFrame, mkF, argsToLocals, Value.category]; done) | rfl) ?_
  refine ob s₁ (mkF mG 1 #[.val .null] [.null]) (fun _ kk => XS.aloadN X0.here hx rfl (hb hby d9_0) rfl rfl kk) ?_
  refine ob s₁ (mkF mG 4 #[.val .null] []) (fun _ kk => XS.ifnonnullNo X0.here hx rfl (hb hby d9_1) rfl kk) ?_
  obtain ⟨T1, X1, e1, st1⟩ := getS2 X0 hx hZ hown (host := "") (Or.inl (ow hw 167 rfl)) Via.refl e0 (S_wO.ext O0.2) (g := (mkF mG 4 #[.val .null] [])) rfl (hb hby d9_4)
  refine ob T1 (mkF mG 7 #[.val .null] [(.ref wO)]) (fun _ kk => st1 _ kk) ?_
  refine ob T1 (mkF mG 18 #[.val .null] [(.ref wO)]) (fun _ kk => XS.goto X1.here hx rfl (pc0 := 7) (pc' := 18) rfl (hb hby d9_7) (by decide) (by decide) kk) ?_
  obtain ⟨fs, hr, hrun, hended, hW, hsame⟩ := X1.leave (v := some (.ref wO)) (fun h => by rw [Bd.returns] at h; cases h)
  refine oout (oretA X1 hx Bd.returns rfl rfl (hb hby d9_18) hr) hrun hended ⟨_, _, rfl, ?_, ⟨_, rfl⟩, hW, hsame.mono (by decide) (by decide)⟩
  show Q_rm_onN Z wA wD wG wU wV wN wB wC wF wE wO k_1 k_2  h0 n0 _ T1.heap _
  rw [e1]
  exact ⟨rfl, N0, rfl⟩

theorem d9_10 : decode jdk_32_method_4_code 10 = .ok (.new 2, 3) := by decide +kernel
theorem d9_13 : decode jdk_32_method_4_code 13 = .ok (.dup, 1) := by decide +kernel
theorem d9_14 : decode jdk_32_method_4_code 14 = .ok (.aload_n 0, 1) := by decide +kernel
theorem d9_15 : decode jdk_32_method_4_code 15 = .ok (.invokespecial 23, 3) := by decide +kernel
theorem pd_3 : parseMethodDescriptor "(Ljava/lang/Object;)V" = some ⟨[(.object "java/lang/Object")], none⟩ := by decide +kernel
def Q_rm_onS (Z : State) (wA wD wG wU wV wN wB wC wF wE wO : Addr) (k_1 k_2 : ClassId) (o : Addr) (h0 : Heap) (n0 : Nat) (v : Option Value) (h : Heap) (L : List Loc) : Prop := ∃ (b0 : Addr), v = some (.ref b0) ∧ Fr n0 L ∧ Keep h0 h [] ∧ Old Z n0 h ∧ n0 ≤ b0 ∧ h0.size ≤ b0 ∧ Exa Z h b0 "java/util/Optional" ∧ Fld Z h b0 "java/util/Optional" "value" "Ljava/lang/Object;" (.ref o)
set_option maxRecDepth 65536 in
set_option maxHeartbeats 40000000 in
theorem rm_onS (l : Launch) (Z : State) (a0 : Array Value) (hw : ∀ d ∈ tables_1, d.before a0 Z = true) (ws : List Jvm.Cond) (wA wD wG wU wV wN wB wC wF wE wO : Addr) (k_1 k_2 : ClassId) (o : Addr) (h0 : Heap) (n0 : Nat) (O0 : Old Z n0 h0) (hS : St0 Z wA wD wG wU wV wN wB wC wF wE wO k_1 k_2 ) :
    MetFree l (⟨"java/util/Optional", "ofNullable", "(Ljava/lang/Object;)Ljava/util/Optional;"⟩ : MethodName) (head1 (Jvm.Cond.code (⟨"java/util/Optional", "ofNullable", "(Ljava/lang/Object;)Ljava/util/Optional;"⟩ : MethodName) jdk_32_method_4_code 1 (some (.object "java/util/Optional")) :: ws) ({ frames := 2, cells := 1, slots := 1, locals := 26 } : Room)) (fun aG UG => aG = #[(.ref o)] ∧ Z.Warmed39 UG.vm ∧ UG.heap = h0) (fun _ _ _ _ _ => True) (fun _ UG oG UG' => ∃ vG LG, oG = .returned vG ∧ Q_rm_onS Z wA wD wG wU wV wN wB wC wF wE wO k_1 k_2 o h0 n0 vG UG'.heap LG ∧ FrameEnd UG oG UG' LG ({ frames := 2, cells := 1, slots := 1, locals := 26 } : Room).cells ({ frames := 2, cells := 1, slots := 1, locals := 26 } : Room).slots) := by
  refine MetFree.of_bodySF (plainFor_of_name pn_2) hisR ?_
  intro pG eG sG mG argsG belowG methG cG s₁ Bd hml0 hP hK
  obtain ⟨rfl, hZ, hh⟩ := hP
  have hx := Bd.exec
  have hby := Bd.bytes
  have hml : cG.maxLocals = 1 := hml0
  have hown : sG.vm.findClass "java/util/Optional" = some mG.cls := findClass_of_methodNamed Bd.named
  have hnm := (name_of_methodNamed Bd.named Bd.method).1
  have X0 : Stand pG l eG ({ frames := 2, cells := 1, slots := 1, locals := 26 } : Room) sG mG #[(.ref o)] belowG methG cG s₁ [] 0 0 := Stand.of_body Bd
  have e0 : s₁.heap = h0 := by rw [← hh, Bd.state]; rfl
  have N0 := Fr.nil n0
  have K0 := Keep.refl h0 []
  obtain ⟨S_wA, E_wA, S_wD, E_wD, S_wG, E_wG, S_wU, E_wU, S_wV, E_wV, S_wN, E_wN, S_wB, E_wB, S_wC, E_wC, S_wF, E_wF, S_wE, E_wE, S_wO, E_wO, F_wA_ordinal, F_wG_ordinal, F_wD_ordinal, F_wU_ordinal, F_wV_ordinal, F_wN_ordinal, F_wB_ordinal, F_wC_ordinal, F_wF_ordinal, F_wE_ordinal, F_wO_value, L_1, L_2, ne_wA_wG, ne_wA_wD, ne_wA_wB, ne_wA_wC, ne_wA_wF, ne_wA_wE, ne_wG_wD, ne_wG_wB, ne_wG_wC, ne_wG_wF, ne_wG_wE, ne_wD_wB, ne_wD_wC, ne_wD_wF, ne_wD_wE, ne_wU_wV, ne_wU_wN, ne_wV_wN, ne_wB_wC, ne_wB_wF, ne_wB_wE, ne_wC_wF, ne_wC_wE, ne_wF_wE⟩ := (id hS : St0 Z wA wD wG wU wV wN wB wC wF wE wO k_1 k_2 )
  refine ostart (g' := (mkF mG 0 #[oa o] [])) (by first | (simp [entryFrame, mkF, argsToLocals, Value.category]; done) | rfl) ?_
  refine ob s₁ (mkF mG 1 #[oa o] [(.ref o)]) (fun _ kk => XS.aloadN X0.here hx rfl (hb hby d9_0) rfl rfl kk) ?_
  refine ob s₁ (mkF mG 10 #[oa o] []) (fun _ kk => XS.ifnonnullYes X0.here hx rfl (pc0 := 1) (pc' := 10) rfl (hb hby d9_1) rfl (by decide) (by decide) kk) ?_
  obtain ⟨T1, h1, X1, e1, E1, A1, D1, _x1, st1⟩ := newO X0 hx hZ hown (ow hw 69 rfl) (ow hw 70 rfl) (ow hw 67 rfl) e0 (g := (mkF mG 10 #[oa o] [])) rfl (hb hby d9_10) (by decide) (by decide)
  obtain ⟨b1, g1⟩ : ∃ z, z = h0.size := ⟨_, rfl⟩
  rw [← g1] at A1 D1 st1
  have n_b1 : n0 ≤ b1 := Nat.le_trans (on0 O0) (Nat.le_of_eq g1.symm)
  have sz_b1 : h0.size ≤ b1 := Nat.le_trans K0.1 (Nat.le_of_eq g1.symm)
  have O1 := O0.ext E1
  have K1 := K0.ext E1
  obtain ⟨LL2, X1, N0⟩ : ∃ LL, Stand pG l eG _ _ mG _ belowG methG cG T1 LL 1 1 ∧ Fr n0 LL := ⟨_, X1, N0⟩
  have F1_77 : Fld Z h1 b1 "java/util/Optional" "value" "Ljava/lang/Object;" .null := D1 (Or.inr (ow hw 77 rfl)) (ty := (.object "java/lang/Object")) (by decide)
  refine ob T1 (mkF mG 13 #[oa o] [(.ref b1)]) (fun _ kk => st1 _ kk) ?_
  refine ob T1 (mkF mG 14 #[oa o] [(.ref b1), (.ref b1)]) (fun _ kk => XS.dup X1.here hx rfl (hb hby d9_13) rfl rfl kk) ?_
  refine ob T1 (mkF mG 15 #[oa o] [(.ref o), (.ref b1), (.ref b1)]) (fun _ kk => XS.aloadN X1.here hx rfl (hb hby d9_14) rfl rfl kk) ?_
  obtain ⟨_, _, ⟨T3, L3, k3, n3⟩, -, X3, ⟨Lc3, hQ3, l3, y3, z3⟩, st3⟩ := X1.specialBack hx (y := (⟨"java/util/Optional", "<init>", "(Ljava/lang/Object;)V"⟩ : MethodName)) rfl hown (mvT hZ (ow hw 71 rfl)) (mvT hZ (ow hw 72 rfl)) (mvT hZ (ow hw 74 rfl)) (by decide) (backOf (W := 1) (rm_opi l Z a0 hw [] wA wD wG wU wV wN wB wC wF wE wO k_1 k_2 b1 o .null h1 n0 O1 hS A1 F1_77 n_b1) hZ (ow hw 74 rfl) (ow hw 67 rfl) (by decide) (by decide)) (g := (mkF mG 15 #[oa o] [(.ref o), (.ref b1), (.ref b1)])) rfl (by rw [hml]; rfl) (Steps.refl _) (a := b1) (argsL := [(.ref o)]) (rest := [(.ref b1)]) (lenOf pd_3 rfl) rfl (by show 2 * 0 + _ ≤ _; exact Nat.le_of_eq rfl) (hb hby d9_15) (fun _ _ => ⟨rfl, e1, (by decide : 1 + 0 ≤ _), (by decide : 1 + 0 ≤ _)⟩)
  dsimp only [Pt.U, Pt.locs, Pt.cells, Pt.slots] at X3 l3 y3 z3 st3 hQ3
  subst l3 y3 z3
  obtain ⟨h3, e3⟩ : ∃ h, T3.heap = h := ⟨_, rfl⟩
  rw [e3] at hQ3
  obtain ⟨rfl, N3q, K3q, O3, F3_0⟩ := hQ3
  have N3 := Fr.app N0 N3q
  have K3 := K1.trans K3q (allS (Or.inr sz_b1) all0)
  obtain ⟨LL4, X3, N3⟩ : ∃ LL, Stand pG l eG _ _ mG _ belowG methG cG T3 LL 1 1 ∧ Fr n0 LL := ⟨_, X3, N3⟩
  refine ob T3 (mkF mG 18 #[oa o] [(.ref b1)]) (fun _ kk => st3.trans kk) ?_
  obtain ⟨fs, hr, hrun, hended, hW, hsame⟩ := X3.leave (v := some (.ref b1)) (fun h => by rw [Bd.returns] at h; cases h)
  refine oout (oretA X3 hx Bd.returns rfl rfl (hb hby d9_18) hr) hrun hended ⟨_, _, rfl, ?_, ⟨_, rfl⟩, hW, hsame.mono (by decide) (by decide)⟩
  show Q_rm_onS Z wA wD wG wU wV wN wB wC wF wE wO k_1 k_2 o h0 n0 _ T3.heap _
  rw [e3]
  exact ⟨b1, rfl, N3, K3, O3, n_b1, sz_b1, (A1.keep K3q), F3_0⟩

theorem d19_0 : decode jdk_32_method_6_code 0 = .ok (.aload_n 0, 1) := by decide +kernel
theorem d19_1 : decode jdk_32_method_6_code 1 = .ok (.getfield 13, 3) := by decide +kernel
theorem d19_4 : decode jdk_32_method_6_code 4 = .ok (.ifnull 7, 3) := by decide +kernel
theorem d19_11 : decode jdk_32_method_6_code 11 = .ok (.iconst 0, 1) := by decide +kernel
theorem d19_12 : decode jdk_32_method_6_code 12 = .ok (.ireturn, 1) := by decide +kernel
def Q_rm_ipE (Z : State) (wA wD wG wU wV wN wB wC wF wE wO : Addr) (k_1 k_2 : ClassId)  (h0 : Heap) (n0 : Nat) (v : Option Value) (h : Heap) (L : List Loc) : Prop := v = some (.int (0 : Int32)) ∧ Fr n0 L ∧ h = h0
set_option maxRecDepth 65536 in
set_option maxHeartbeats 40000000 in
theorem rm_ipE (l : Launch) (Z : State) (a0 : Array Value) (hw : ∀ d ∈ tables_1, d.before a0 Z = true) (ws : List Jvm.Cond) (wA wD wG wU wV wN wB wC wF wE wO : Addr) (k_1 k_2 : ClassId)  (h0 : Heap) (n0 : Nat) (O0 : Old Z n0 h0) (hS : St0 Z wA wD wG wU wV wN wB wC wF wE wO k_1 k_2 ) :
    MetFree l (⟨"java/util/Optional", "isPresent", "()Z"⟩ : MethodName) (head1 (Jvm.Cond.code (⟨"java/util/Optional", "isPresent", "()Z"⟩ : MethodName) jdk_32_method_6_code 1 (some .boolean) :: ws) ({ frames := 0, cells := 0, slots := 0, locals := 0 } : Room)) (fun aG UG => aG = #[(.ref wO)] ∧ Z.Warmed39 UG.vm ∧ UG.heap = h0) (fun _ _ _ _ _ => True) (fun _ UG oG UG' => ∃ vG LG, oG = .returned vG ∧ Q_rm_ipE Z wA wD wG wU wV wN wB wC wF wE wO k_1 k_2  h0 n0 vG UG'.heap LG ∧ FrameEnd UG oG UG' LG ({ frames := 0, cells := 0, slots := 0, locals := 0 } : Room).cells ({ frames := 0, cells := 0, slots := 0, locals := 0 } : Room).slots) := by
  refine MetFree.of_bodySF (plainFor_of_name pn_2) hisR ?_
  intro pG eG sG mG argsG belowG methG cG s₁ Bd hml0 hP hK
  obtain ⟨rfl, hZ, hh⟩ := hP
  have hx := Bd.exec
  have hby := Bd.bytes
  have hml : cG.maxLocals = 1 := hml0
  have hown : sG.vm.findClass "java/util/Optional" = some mG.cls := findClass_of_methodNamed Bd.named
  have hnm := (name_of_methodNamed Bd.named Bd.method).1
  have X0 : Stand pG l eG ({ frames := 0, cells := 0, slots := 0, locals := 0 } : Room) sG mG #[(.ref wO)] belowG methG cG s₁ [] 0 0 := Stand.of_body Bd
  have e0 : s₁.heap = h0 := by rw [← hh, Bd.state]; rfl
  have N0 := Fr.nil n0
  have K0 := Keep.refl h0 []
  obtain ⟨S_wA, E_wA, S_wD, E_wD, S_wG, E_wG, S_wU, E_wU, S_wV, E_wV, S_wN, E_wN, S_wB, E_wB, S_wC, E_wC, S_wF, E_wF, S_wE, E_wE, S_wO, E_wO, F_wA_ordinal, F_wG_ordinal, F_wD_ordinal, F_wU_ordinal, F_wV_ordinal, F_wN_ordinal, F_wB_ordinal, F_wC_ordinal, F_wF_ordinal, F_wE_ordinal, F_wO_value, L_1, L_2, ne_wA_wG, ne_wA_wD, ne_wA_wB, ne_wA_wC, ne_wA_wF, ne_wA_wE, ne_wG_wD, ne_wG_wB, ne_wG_wC, ne_wG_wF, ne_wG_wE, ne_wD_wB, ne_wD_wC, ne_wD_wF, ne_wD_wE, ne_wU_wV, ne_wU_wN, ne_wV_wN, ne_wB_wC, ne_wB_wF, ne_wB_wE, ne_wC_wF, ne_wC_wE, ne_wF_wE⟩ := (id hS : St0 Z wA wD wG wU wV wN wB wC wF wE wO k_1 k_2 )
  refine ostart (g' := (mkF mG 0 #[oa wO] [])) (by first | (simp [entryFrame, mkF, argsToLocals, Value.category]; done) | rfl) ?_
  refine ob s₁ (mkF mG 1 #[oa wO] [(.ref wO)]) (fun _ kk => XS.aloadN X0.here hx rfl (hb hby d19_0) rfl rfl kk) ?_
  obtain ⟨T1, X1, e1, st1⟩ := getF X0 hx hZ hown (host := "") (Or.inl (ow hw 76 rfl)) Via.refl e0 (F_wO_value.ext O0.2) (g := (mkF mG 1 #[oa wO] [(.ref wO)])) rfl rfl (hb hby d19_1)
  refine ob T1 (mkF mG 4 #[oa wO] [.null]) (fun _ kk => st1 _ kk) ?_
  refine ob T1 (mkF mG 11 #[oa wO] []) (fun _ kk => XS.ifnullYes X1.here hx rfl (pc0 := 4) (pc' := 11) rfl (hb hby d19_4) rfl (by decide) (by decide) kk) ?_
  refine ob T1 (mkF mG 12 #[oa wO] [(.int (0 : Int32))]) (fun _ kk => XS.iconst X1.here hx rfl (hb hby d19_11) kk) ?_
  obtain ⟨fs, hr, hrun, hended, hW, hsame⟩ := X1.leave (v := some (.int (0 : Int32))) (fun h => by rw [Bd.returns] at h; cases h)
  refine oout (retN X1 hx (t := .boolean) Bd.returns (by simp) (hb hby d19_12) hr) hrun hended ⟨_, _, rfl, ?_, ⟨_, rfl⟩, hW, hsame.mono (by decide) (by decide)⟩
  show Q_rm_ipE Z wA wD wG wU wV wN wB wC wF wE wO k_1 k_2  h0 n0 _ T1.heap _
  rw [e1]
  exact ⟨rfl, N0, rfl⟩

theorem d19_7 : decode jdk_32_method_6_code 7 = .ok (.iconst 1, 1) := by decide +kernel
theorem d19_8 : decode jdk_32_method_6_code 8 = .ok (.goto 4, 3) := by decide +kernel
def Q_rm_ipS (Z : State) (wA wD wG wU wV wN wB wC wF wE wO : Addr) (k_1 k_2 : ClassId) (a o : Addr) (h0 : Heap) (n0 : Nat) (v : Option Value) (h : Heap) (L : List Loc) : Prop := v = some (.int (1 : Int32)) ∧ Fr n0 L ∧ h = h0
set_option maxRecDepth 65536 in
set_option maxHeartbeats 40000000 in
theorem rm_ipS (l : Launch) (Z : State) (a0 : Array Value) (hw : ∀ d ∈ tables_1, d.before a0 Z = true) (ws : List Jvm.Cond) (wA wD wG wU wV wN wB wC wF wE wO : Addr) (k_1 k_2 : ClassId) (a o : Addr) (h0 : Heap) (n0 : Nat) (O0 : Old Z n0 h0) (hS : St0 Z wA wD wG wU wV wN wB wC wF wE wO k_1 k_2 ) (F_a : Fld Z h0 a "java/util/Optional" "value" "Ljava/lang/Object;" (.ref o)) :
    MetFree l (⟨"java/util/Optional", "isPresent", "()Z"⟩ : MethodName) (head1 (Jvm.Cond.code (⟨"java/util/Optional", "isPresent", "()Z"⟩ : MethodName) jdk_32_method_6_code 1 (some .boolean) :: ws) ({ frames := 0, cells := 0, slots := 0, locals := 0 } : Room)) (fun aG UG => aG = #[(.ref a)] ∧ Z.Warmed39 UG.vm ∧ UG.heap = h0) (fun _ _ _ _ _ => True) (fun _ UG oG UG' => ∃ vG LG, oG = .returned vG ∧ Q_rm_ipS Z wA wD wG wU wV wN wB wC wF wE wO k_1 k_2 a o h0 n0 vG UG'.heap LG ∧ FrameEnd UG oG UG' LG ({ frames := 0, cells := 0, slots := 0, locals := 0 } : Room).cells ({ frames := 0, cells := 0, slots := 0, locals := 0 } : Room).slots) := by
  refine MetFree.of_bodySF (plainFor_of_name pn_2) hisR ?_
  intro pG eG sG mG argsG belowG methG cG s₁ Bd hml0 hP hK
  obtain ⟨rfl, hZ, hh⟩ := hP
  have hx := Bd.exec
  have hby := Bd.bytes
  have hml : cG.maxLocals = 1 := hml0
  have hown : sG.vm.findClass "java/util/Optional" = some mG.cls := findClass_of_methodNamed Bd.named
  have hnm := (name_of_methodNamed Bd.named Bd.method).1
  have X0 : Stand pG l eG ({ frames := 0, cells := 0, slots := 0, locals := 0 } : Room) sG mG #[(.ref a)] belowG methG cG s₁ [] 0 0 := Stand.of_body Bd
  have e0 : s₁.heap = h0 := by rw [← hh, Bd.state]; rfl
  have N0 := Fr.nil n0
  have K0 := Keep.refl h0 []
  obtain ⟨S_wA, E_wA, S_wD, E_wD, S_wG, E_wG, S_wU, E_wU, S_wV, E_wV, S_wN, E_wN, S_wB, E_wB, S_wC, E_wC, S_wF, E_wF, S_wE, E_wE, S_wO, E_wO, F_wA_ordinal, F_wG_ordinal, F_wD_ordinal, F_wU_ordinal, F_wV_ordinal, F_wN_ordinal, F_wB_ordinal, F_wC_ordinal, F_wF_ordinal, F_wE_ordinal, F_wO_value, L_1, L_2, ne_wA_wG, ne_wA_wD, ne_wA_wB, ne_wA_wC, ne_wA_wF, ne_wA_wE, ne_wG_wD, ne_wG_wB, ne_wG_wC, ne_wG_wF, ne_wG_wE, ne_wD_wB, ne_wD_wC, ne_wD_wF, ne_wD_wE, ne_wU_wV, ne_wU_wN, ne_wV_wN, ne_wB_wC, ne_wB_wF, ne_wB_wE, ne_wC_wF, ne_wC_wE, ne_wF_wE⟩ := (id hS : St0 Z wA wD wG wU wV wN wB wC wF wE wO k_1 k_2 )
  refine ostart (g' := (mkF mG 0 #[oa a] [])) (by first | (simp [entryFrame, mkF, argsToLocals, Value.category]; done) | rfl) ?_
  refine ob s₁ (mkF mG 1 #[oa a] [(.ref a)]) (fun _ kk => XS.aloadN X0.here hx rfl (hb hby d19_0) rfl rfl kk) ?_
  obtain ⟨T1, X1, e1, st1⟩ := getF X0 hx hZ hown (host := "") (Or.inl (ow hw 76 rfl)) Via.refl e0 F_a (g := (mkF mG 1 #[oa a] [(.ref a)])) rfl rfl (hb hby d19_1)
  refine ob T1 (mkF mG 4 #[oa a] [(.ref o)]) (fun _ kk => st1 _ kk) ?_
  refine ob T1 (mkF mG 7 #[oa a] []) (fun _ kk => XS.ifnullNo X1.here hx rfl (hb hby d19_4) rfl kk) ?_
  refine ob T1 (mkF mG 8 #[oa a] [(.int (1 : Int32))]) (fun _ kk => XS.iconst X1.here hx rfl (hb hby d19_7) kk) ?_
  refine ob T1 (mkF mG 12 #[oa a] [(.int (1 : Int32))]) (fun _ kk => XS.goto X1.here hx rfl (pc0 := 8) (pc' := 12) rfl (hb hby d19_8) (by decide) (by decide) kk) ?_
  obtain ⟨fs, hr, hrun, hended, hW, hsame⟩ := X1.leave (v := some (.int (1 : Int32))) (fun h => by rw [Bd.returns] at h; cases h)
  refine oout (retN X1 hx (t := .boolean) Bd.returns (by simp) (hb hby d19_12) hr) hrun hended ⟨_, _, rfl, ?_, ⟨_, rfl⟩, hW, hsame.mono (by decide) (by decide)⟩
  show Q_rm_ipS Z wA wD wG wU wV wN wB wC wF wE wO k_1 k_2 a o h0 n0 _ T1.heap _
  rw [e1]
  exact ⟨rfl, N0, rfl⟩

theorem d13_0 : decode jdk_32_method_7_code 0 = .ok (.aload_n 0, 1) := by decide +kernel
theorem d13_1 : decode jdk_32_method_7_code 1 = .ok (.getfield 13, 3) := by decide +kernel
theorem d13_4 : decode jdk_32_method_7_code 4 = .ok (.ifnonnull 7, 3) := by decide +kernel
theorem d13_7 : decode jdk_32_method_7_code 7 = .ok (.iconst 1, 1) := by decide +kernel
theorem d13_8 : decode jdk_32_method_7_code 8 = .ok (.goto 4, 3) := by decide +kernel
theorem d13_12 : decode jdk_32_method_7_code 12 = .ok (.ireturn, 1) := by decide +kernel
def Q_rm_ieE (Z : State) (wA wD wG wU wV wN wB wC wF wE wO : Addr) (k_1 k_2 : ClassId)  (h0 : Heap) (n0 : Nat) (v : Option Value) (h : Heap) (L : List Loc) : Prop := v = some (.int (1 : Int32)) ∧ Fr n0 L ∧ h = h0
set_option maxRecDepth 65536 in
set_option maxHeartbeats 40000000 in
theorem rm_ieE (l : Launch) (Z : State) (a0 : Array Value) (hw : ∀ d ∈ tables_1, d.before a0 Z = true) (ws : List Jvm.Cond) (wA wD wG wU wV wN wB wC wF wE wO : Addr) (k_1 k_2 : ClassId)  (h0 : Heap) (n0 : Nat) (O0 : Old Z n0 h0) (hS : St0 Z wA wD wG wU wV wN wB wC wF wE wO k_1 k_2 ) :
    MetFree l (⟨"java/util/Optional", "isEmpty", "()Z"⟩ : MethodName) (head1 (Jvm.Cond.code (⟨"java/util/Optional", "isEmpty", "()Z"⟩ : MethodName) jdk_32_method_7_code 1 (some .boolean) :: ws) ({ frames := 0, cells := 0, slots := 0, locals := 0 } : Room)) (fun aG UG => aG = #[(.ref wO)] ∧ Z.Warmed39 UG.vm ∧ UG.heap = h0) (fun _ _ _ _ _ => True) (fun _ UG oG UG' => ∃ vG LG, oG = .returned vG ∧ Q_rm_ieE Z wA wD wG wU wV wN wB wC wF wE wO k_1 k_2  h0 n0 vG UG'.heap LG ∧ FrameEnd UG oG UG' LG ({ frames := 0, cells := 0, slots := 0, locals := 0 } : Room).cells ({ frames := 0, cells := 0, slots := 0, locals := 0 } : Room).slots) := by
  refine MetFree.of_bodySF (plainFor_of_name pn_2) hisR ?_
  intro pG eG sG mG argsG belowG methG cG s₁ Bd hml0 hP hK
  obtain ⟨rfl, hZ, hh⟩ := hP
  have hx := Bd.exec
  have hby := Bd.bytes
  have hml : cG.maxLocals = 1 := hml0
  have hown : sG.vm.findClass "java/util/Optional" = some mG.cls := findClass_of_methodNamed Bd.named
  have hnm := (name_of_methodNamed Bd.named Bd.method).1
  have X0 : Stand pG l eG ({ frames := 0, cells := 0, slots := 0, locals := 0 } : Room) sG mG #[(.ref wO)] belowG methG cG s₁ [] 0 0 := Stand.of_body Bd
  have e0 : s₁.heap = h0 := by rw [← hh, Bd.state]; rfl
  have N0 := Fr.nil n0
  have K0 := Keep.refl h0 []
  obtain ⟨S_wA, E_wA, S_wD, E_wD, S_wG, E_wG, S_wU, E_wU, S_wV, E_wV, S_wN, E_wN, S_wB, E_wB, S_wC, E_wC, S_wF, E_wF, S_wE, E_wE, S_wO, E_wO, F_wA_ordinal, F_wG_ordinal, F_wD_ordinal, F_wU_ordinal, F_wV_ordinal, F_wN_ordinal, F_wB_ordinal, F_wC_ordinal, F_wF_ordinal, F_wE_ordinal, F_wO_value, L_1, L_2, ne_wA_wG, ne_wA_wD, ne_wA_wB, ne_wA_wC, ne_wA_wF, ne_wA_wE, ne_wG_wD, ne_wG_wB, ne_wG_wC, ne_wG_wF, ne_wG_wE, ne_wD_wB, ne_wD_wC, ne_wD_wF, ne_wD_wE, ne_wU_wV, ne_wU_wN, ne_wV_wN, ne_wB_wC, ne_wB_wF, ne_wB_wE, ne_wC_wF, ne_wC_wE, ne_wF_wE⟩ := (id hS : St0 Z wA wD wG wU wV wN wB wC wF wE wO k_1 k_2 )
  refine ostart (g' := (mkF mG 0 #[oa wO] [])) (by first | (simp [entryFrame, mkF, argsToLocals, Value.category]; done) | rfl) ?_
  refine ob s₁ (mkF mG 1 #[oa wO] [(.ref wO)]) (fun _ kk => XS.aloadN X0.here hx rfl (hb hby d13_0) rfl rfl kk) ?_
  obtain ⟨T1, X1, e1, st1⟩ := getF X0 hx hZ hown (host := "") (Or.inl (ow hw 76 rfl)) Via.refl e0 (F_wO_value.ext O0.2) (g := (mkF mG 1 #[oa wO] [(.ref wO)])) rfl rfl (hb hby d13_1)
  refine ob T1 (mkF mG 4 #[oa wO] [.null]) (fun _ kk => st1 _ kk) ?_
  refine ob T1 (mkF mG 7 #[oa wO] []) (fun _ kk => XS.ifnonnullNo X1.here hx rfl (hb hby d13_4) rfl kk) ?_
  refine ob T1 (mkF mG 8 #[oa wO] [(.int (1 : Int32))]) (fun _ kk => XS.iconst X1.here hx rfl (hb hby d13_7) kk) ?_
  refine ob T1 (mkF mG 12 #[oa wO] [(.int (1 : Int32))]) (fun _ kk => XS.goto X1.here hx rfl (pc0 := 8) (pc' := 12) rfl (hb hby d13_8) (by decide) (by decide) kk) ?_
  obtain ⟨fs, hr, hrun, hended, hW, hsame⟩ := X1.leave (v := some (.int (1 : Int32))) (fun h => by rw [Bd.returns] at h; cases h)
  refine oout (retN X1 hx (t := .boolean) Bd.returns (by simp) (hb hby d13_12) hr) hrun hended ⟨_, _, rfl, ?_, ⟨_, rfl⟩, hW, hsame.mono (by decide) (by decide)⟩
  show Q_rm_ieE Z wA wD wG wU wV wN wB wC wF wE wO k_1 k_2  h0 n0 _ T1.heap _
  rw [e1]
  exact ⟨rfl, N0, rfl⟩

theorem d13_11 : decode jdk_32_method_7_code 11 = .ok (.iconst 0, 1) := by decide +kernel
def Q_rm_ieS (Z : State) (wA wD wG wU wV wN wB wC wF wE wO : Addr) (k_1 k_2 : ClassId) (a o : Addr) (h0 : Heap) (n0 : Nat) (v : Option Value) (h : Heap) (L : List Loc) : Prop := v = some (.int (0 : Int32)) ∧ Fr n0 L ∧ h = h0
set_option maxRecDepth 65536 in
set_option maxHeartbeats 40000000 in
theorem rm_ieS (l : Launch) (Z : State) (a0 : Array Value) (hw : ∀ d ∈ tables_1, d.before a0 Z = true) (ws : List Jvm.Cond) (wA wD wG wU wV wN wB wC wF wE wO : Addr) (k_1 k_2 : ClassId) (a o : Addr) (h0 : Heap) (n0 : Nat) (O0 : Old Z n0 h0) (hS : St0 Z wA wD wG wU wV wN wB wC wF wE wO k_1 k_2 ) (F_a : Fld Z h0 a "java/util/Optional" "value" "Ljava/lang/Object;" (.ref o)) :
    MetFree l (⟨"java/util/Optional", "isEmpty", "()Z"⟩ : MethodName) (head1 (Jvm.Cond.code (⟨"java/util/Optional", "isEmpty", "()Z"⟩ : MethodName) jdk_32_method_7_code 1 (some .boolean) :: ws) ({ frames := 0, cells := 0, slots := 0, locals := 0 } : Room)) (fun aG UG => aG = #[(.ref a)] ∧ Z.Warmed39 UG.vm ∧ UG.heap = h0) (fun _ _ _ _ _ => True) (fun _ UG oG UG' => ∃ vG LG, oG = .returned vG ∧ Q_rm_ieS Z wA wD wG wU wV wN wB wC wF wE wO k_1 k_2 a o h0 n0 vG UG'.heap LG ∧ FrameEnd UG oG UG' LG ({ frames := 0, cells := 0, slots := 0, locals := 0 } : Room).cells ({ frames := 0, cells := 0, slots := 0, locals := 0 } : Room).slots) := by
  refine MetFree.of_bodySF (plainFor_of_name pn_2) hisR ?_
  intro pG eG sG mG argsG belowG methG cG s₁ Bd hml0 hP hK
  obtain ⟨rfl, hZ, hh⟩ := hP
  have hx := Bd.exec
  have hby := Bd.bytes
  have hml : cG.maxLocals = 1 := hml0
  have hown : sG.vm.findClass "java/util/Optional" = some mG.cls := findClass_of_methodNamed Bd.named
  have hnm := (name_of_methodNamed Bd.named Bd.method).1
  have X0 : Stand pG l eG ({ frames := 0, cells := 0, slots := 0, locals := 0 } : Room) sG mG #[(.ref a)] belowG methG cG s₁ [] 0 0 := Stand.of_body Bd
  have e0 : s₁.heap = h0 := by rw [← hh, Bd.state]; rfl
  have N0 := Fr.nil n0
  have K0 := Keep.refl h0 []
  obtain ⟨S_wA, E_wA, S_wD, E_wD, S_wG, E_wG, S_wU, E_wU, S_wV, E_wV, S_wN, E_wN, S_wB, E_wB, S_wC, E_wC, S_wF, E_wF, S_wE, E_wE, S_wO, E_wO, F_wA_ordinal, F_wG_ordinal, F_wD_ordinal, F_wU_ordinal, F_wV_ordinal, F_wN_ordinal, F_wB_ordinal, F_wC_ordinal, F_wF_ordinal, F_wE_ordinal, F_wO_value, L_1, L_2, ne_wA_wG, ne_wA_wD, ne_wA_wB, ne_wA_wC, ne_wA_wF, ne_wA_wE, ne_wG_wD, ne_wG_wB, ne_wG_wC, ne_wG_wF, ne_wG_wE, ne_wD_wB, ne_wD_wC, ne_wD_wF, ne_wD_wE, ne_wU_wV, ne_wU_wN, ne_wV_wN, ne_wB_wC, ne_wB_wF, ne_wB_wE, ne_wC_wF, ne_wC_wE, ne_wF_wE⟩ := (id hS : St0 Z wA wD wG wU wV wN wB wC wF wE wO k_1 k_2 )
  refine ostart (g' := (mkF mG 0 #[oa a] [])) (by first | (simp [entryFrame, mkF, argsToLocals, Value.category]; done) | rfl) ?_
  refine ob s₁ (mkF mG 1 #[oa a] [(.ref a)]) (fun _ kk => XS.aloadN X0.here hx rfl (hb hby d13_0) rfl rfl kk) ?_
  obtain ⟨T1, X1, e1, st1⟩ := getF X0 hx hZ hown (host := "") (Or.inl (ow hw 76 rfl)) Via.refl e0 F_a (g := (mkF mG 1 #[oa a] [(.ref a)])) rfl rfl (hb hby d13_1)
  refine ob T1 (mkF mG 4 #[oa a] [(.ref o)]) (fun _ kk => st1 _ kk) ?_
  refine ob T1 (mkF mG 11 #[oa a] []) (fun _ kk => XS.ifnonnullYes X1.here hx rfl (pc0 := 4) (pc' := 11) rfl (hb hby d13_4) rfl (by decide) (by decide) kk) ?_
  refine ob T1 (mkF mG 12 #[oa a] [(.int (0 : Int32))]) (fun _ kk => XS.iconst X1.here hx rfl (hb hby d13_11) kk) ?_
  obtain ⟨fs, hr, hrun, hended, hW, hsame⟩ := X1.leave (v := some (.int (0 : Int32))) (fun h => by rw [Bd.returns] at h; cases h)
  refine oout (retN X1 hx (t := .boolean) Bd.returns (by simp) (hb hby d13_12) hr) hrun hended ⟨_, _, rfl, ?_, ⟨_, rfl⟩, hW, hsame.mono (by decide) (by decide)⟩
  show Q_rm_ieS Z wA wD wG wU wV wN wB wC wF wE wO k_1 k_2 a o h0 n0 _ T1.heap _
  rw [e1]
  exact ⟨rfl, N0, rfl⟩

theorem d20_0 : decode jdk_32_method_5_code 0 = .ok (.aload_n 0, 1) := by decide +kernel
theorem d20_1 : decode jdk_32_method_5_code 1 = .ok (.getfield 13, 3) := by decide +kernel
theorem d20_4 : decode jdk_32_method_5_code 4 = .ok (.ifnonnull 13, 3) := by decide +kernel
theorem d20_17 : decode jdk_32_method_5_code 17 = .ok (.aload_n 0, 1) := by decide +kernel
theorem d20_18 : decode jdk_32_method_5_code 18 = .ok (.getfield 13, 3) := by decide +kernel
theorem d20_21 : decode jdk_32_method_5_code 21 = .ok (.areturn, 1) := by decide +kernel
def Q_rm_get (Z : State) (wA wD wG wU wV wN wB wC wF wE wO : Addr) (k_1 k_2 : ClassId) (a o : Addr) (h0 : Heap) (n0 : Nat) (v : Option Value) (h : Heap) (L : List Loc) : Prop := v = some (.ref o) ∧ Fr n0 L ∧ h = h0
set_option maxRecDepth 65536 in
set_option maxHeartbeats 40000000 in
theorem rm_get (l : Launch) (Z : State) (a0 : Array Value) (hw : ∀ d ∈ tables_1, d.before a0 Z = true) (ws : List Jvm.Cond) (wA wD wG wU wV wN wB wC wF wE wO : Addr) (k_1 k_2 : ClassId) (a o : Addr) (h0 : Heap) (n0 : Nat) (O0 : Old Z n0 h0) (hS : St0 Z wA wD wG wU wV wN wB wC wF wE wO k_1 k_2 ) (F_a : Fld Z h0 a "java/util/Optional" "value" "Ljava/lang/Object;" (.ref o)) :
    MetFree l (⟨"java/util/Optional", "get", "()Ljava/lang/Object;"⟩ : MethodName) (head1 (Jvm.Cond.code (⟨"java/util/Optional", "get", "()Ljava/lang/Object;"⟩ : MethodName) jdk_32_method_5_code 1 (some (.object "java/lang/Object")) :: ws) ({ frames := 0, cells := 0, slots := 0, locals := 0 } : Room)) (fun aG UG => aG = #[(.ref a)] ∧ Z.Warmed39 UG.vm ∧ UG.heap = h0) (fun _ _ _ _ _ => True) (fun _ UG oG UG' => ∃ vG LG, oG = .returned vG ∧ Q_rm_get Z wA wD wG wU wV wN wB wC wF wE wO k_1 k_2 a o h0 n0 vG UG'.heap LG ∧ FrameEnd UG oG UG' LG ({ frames := 0, cells := 0, slots := 0, locals := 0 } : Room).cells ({ frames := 0, cells := 0, slots := 0, locals := 0 } : Room).slots) := by
  refine MetFree.of_bodySF (plainFor_of_name pn_2) hisR ?_
  intro pG eG sG mG argsG belowG methG cG s₁ Bd hml0 hP hK
  obtain ⟨rfl, hZ, hh⟩ := hP
  have hx := Bd.exec
  have hby := Bd.bytes
  have hml : cG.maxLocals = 1 := hml0
  have hown : sG.vm.findClass "java/util/Optional" = some mG.cls := findClass_of_methodNamed Bd.named
  have hnm := (name_of_methodNamed Bd.named Bd.method).1
  have X0 : Stand pG l eG ({ frames := 0, cells := 0, slots := 0, locals := 0 } : Room) sG mG #[(.ref a)] belowG methG cG s₁ [] 0 0 := Stand.of_body Bd
  have e0 : s₁.heap = h0 := by rw [← hh, Bd.state]; rfl
  have N0 := Fr.nil n0
  have K0 := Keep.refl h0 []
  obtain ⟨S_wA, E_wA, S_wD, E_wD, S_wG, E_wG, S_wU, E_wU, S_wV, E_wV, S_wN, E_wN, S_wB, E_wB, S_wC, E_wC, S_wF, E_wF, S_wE, E_wE, S_wO, E_wO, F_wA_ordinal, F_wG_ordinal, F_wD_ordinal, F_wU_ordinal, F_wV_ordinal, F_wN_ordinal, F_wB_ordinal, F_wC_ordinal, F_wF_ordinal, F_wE_ordinal, F_wO_value, L_1, L_2, ne_wA_wG, ne_wA_wD, ne_wA_wB, ne_wA_wC, ne_wA_wF, ne_wA_wE, ne_wG_wD, ne_wG_wB, ne_wG_wC, ne_wG_wF, ne_wG_wE, ne_wD_wB, ne_wD_wC, ne_wD_wF, ne_wD_wE, ne_wU_wV, ne_wU_wN, ne_wV_wN, ne_wB_wC, ne_wB_wF, ne_wB_wE, ne_wC_wF, ne_wC_wE, ne_wF_wE⟩ := (id hS : St0 Z wA wD wG wU wV wN wB wC wF wE wO k_1 k_2 )
  refine ostart (g' := (mkF mG 0 #[oa a] [])) (by first | (simp [entryFrame, mkF, argsToLocals, Value.category]; done) | rfl) ?_
  refine ob s₁ (mkF mG 1 #[oa a] [(.ref a)]) (fun _ kk => XS.aloadN X0.here hx rfl (hb hby d20_0) rfl rfl kk) ?_
  obtain ⟨T1, X1, e1, st1⟩ := getF X0 hx hZ hown (host := "") (Or.inl (ow hw 76 rfl)) Via.refl e0 F_a (g := (mkF mG 1 #[oa a] [(.ref a)])) rfl rfl (hb hby d20_1)
  refine ob T1 (mkF mG 4 #[oa a] [(.ref o)]) (fun _ kk => st1 _ kk) ?_
  refine ob T1 (mkF mG 17 #[oa a] []) (fun _ kk => XS.ifnonnullYes X1.here hx rfl (pc0 := 4) (pc' := 17) rfl (hb hby d20_4) rfl (by decide) (by decide) kk) ?_
  refine ob T1 (mkF mG 18 #[oa a] [(.ref a)]) (fun _ kk => XS.aloadN X1.here hx rfl (hb hby d20_17) rfl rfl kk) ?_
  obtain ⟨T2, X2, e2, st2⟩ := getF X1 hx hZ hown (host := "") (Or.inl (ow hw 76 rfl)) Via.refl e1 F_a (g := (mkF mG 18 #[oa a] [(.ref a)])) rfl rfl (hb hby d20_18)
  refine ob T2 (mkF mG 21 #[oa a] [(.ref o)]) (fun _ kk => st2 _ kk) ?_
  obtain ⟨fs, hr, hrun, hended, hW, hsame⟩ := X2.leave (v := some (.ref o)) (fun h => by rw [Bd.returns] at h; cases h)
  refine oout (oretA X2 hx Bd.returns rfl rfl (hb hby d20_21) hr) hrun hended ⟨_, _, rfl, ?_, ⟨_, rfl⟩, hW, hsame.mono (by decide) (by decide)⟩
  show Q_rm_get Z wA wD wG wU wV wN wB wC wF wE wO k_1 k_2 a o h0 n0 _ T2.heap _
  rw [e2]
  exact ⟨rfl, N0, rfl⟩

theorem d23_0 : decode jdk_32_method_1_code 0 = .ok (.getstatic 1, 3) := by decide +kernel
theorem d23_3 : decode jdk_32_method_1_code 3 = .ok (.astore_n 0, 1) := by decide +kernel
theorem d23_4 : decode jdk_32_method_1_code 4 = .ok (.aload_n 0, 1) := by decide +kernel
theorem d23_5 : decode jdk_32_method_1_code 5 = .ok (.areturn, 1) := by decide +kernel
def Q_rm_emp (Z : State) (wA wD wG wU wV wN wB wC wF wE wO : Addr) (k_1 k_2 : ClassId)  (h0 : Heap) (n0 : Nat) (v : Option Value) (h : Heap) (L : List Loc) : Prop := v = some (.ref wO) ∧ Fr n0 L ∧ h = h0
set_option maxRecDepth 65536 in
set_option maxHeartbeats 40000000 in
theorem rm_emp (l : Launch) (Z : State) (a0 : Array Value) (hw : ∀ d ∈ tables_1, d.before a0 Z = true) (ws : List Jvm.Cond) (wA wD wG wU wV wN wB wC wF wE wO : Addr) (k_1 k_2 : ClassId)  (h0 : Heap) (n0 : Nat) (O0 : Old Z n0 h0) (hS : St0 Z wA wD wG wU wV wN wB wC wF wE wO k_1 k_2 ) :
    MetFree l (⟨"java/util/Optional", "empty", "()Ljava/util/Optional;"⟩ : MethodName) (head1 (Jvm.Cond.code (⟨"java/util/Optional", "empty", "()Ljava/util/Optional;"⟩ : MethodName) jdk_32_method_1_code 1 (some (.object "java/util/Optional")) :: ws) ({ frames := 0, cells := 0, slots := 0, locals := 0 } : Room)) (fun aG UG => aG = #[] ∧ Z.Warmed39 UG.vm ∧ UG.heap = h0) (fun _ _ _ _ _ => True) (fun _ UG oG UG' => ∃ vG LG, oG = .returned vG ∧ Q_rm_emp Z wA wD wG wU wV wN wB wC wF wE wO k_1 k_2  h0 n0 vG UG'.heap LG ∧ FrameEnd UG oG UG' LG ({ frames := 0, cells := 0, slots := 0, locals := 0 } : Room).cells ({ frames := 0, cells := 0, slots := 0, locals := 0 } : Room).slots) := by
  refine MetFree.of_bodySF (plainFor_of_name pn_2) hisR ?_
  intro pG eG sG mG argsG belowG methG cG s₁ Bd hml0 hP hK
  obtain ⟨rfl, hZ, hh⟩ := hP
  have hx := Bd.exec
  have hby := Bd.bytes
  have hml : cG.maxLocals = 1 := hml0
  have hown : sG.vm.findClass "java/util/Optional" = some mG.cls := findClass_of_methodNamed Bd.named
  have hnm := (name_of_methodNamed Bd.named Bd.method).1
  have X0 : Stand pG l eG ({ frames := 0, cells := 0, slots := 0, locals := 0 } : Room) sG mG #[] belowG methG cG s₁ [] 0 0 := Stand.of_body Bd
  have e0 : s₁.heap = h0 := by rw [← hh, Bd.state]; rfl
  have N0 := Fr.nil n0
  have K0 := Keep.refl h0 []
  obtain ⟨S_wA, E_wA, S_wD, E_wD, S_wG, E_wG, S_wU, E_wU, S_wV, E_wV, S_wN, E_wN, S_wB, E_wB, S_wC, E_wC, S_wF, E_wF, S_wE, E_wE, S_wO, E_wO, F_wA_ordinal, F_wG_ordinal, F_wD_ordinal, F_wU_ordinal, F_wV_ordinal, F_wN_ordinal, F_wB_ordinal, F_wC_ordinal, F_wF_ordinal, F_wE_ordinal, F_wO_value, L_1, L_2, ne_wA_wG, ne_wA_wD, ne_wA_wB, ne_wA_wC, ne_wA_wF, ne_wA_wE, ne_wG_wD, ne_wG_wB, ne_wG_wC, ne_wG_wF, ne_wG_wE, ne_wD_wB, ne_wD_wC, ne_wD_wF, ne_wD_wE, ne_wU_wV, ne_wU_wN, ne_wV_wN, ne_wB_wC, ne_wB_wF, ne_wB_wE, ne_wC_wF, ne_wC_wE, ne_wF_wE⟩ := (id hS : St0 Z wA wD wG wU wV wN wB wC wF wE wO k_1 k_2 )
  refine ostart (g' := (mkF mG 0 #[.unset] [])) (by first | (simp [entryFrame, mkF, argsToLocals, Value.category]; done) | rfl) ?_
  obtain ⟨T1, X1, e1, st1⟩ := getS2 X0 hx hZ hown (host := "") (Or.inl (ow hw 167 rfl)) Via.refl e0 (S_wO.ext O0.2) (g := (mkF mG 0 #[.unset] [])) rfl (hb hby d23_0)
  refine ob T1 (mkF mG 3 #[.unset] [(.ref wO)]) (fun _ kk => st1 _ kk) ?_
  refine ob T1 (mkF mG 4 #[oa wO] []) (fun _ kk => XS.astoreN X1.here hx rfl (hb hby d23_3) rfl rfl (l' := #[oa wO]) rfl kk) ?_
  refine ob T1 (mkF mG 5 #[oa wO] [(.ref wO)]) (fun _ kk => XS.aloadN X1.here hx rfl (hb hby d23_4) rfl rfl kk) ?_
  obtain ⟨fs, hr, hrun, hended, hW, hsame⟩ := X1.leave (v := some (.ref wO)) (fun h => by rw [Bd.returns] at h; cases h)
  refine oout (oretA X1 hx Bd.returns rfl rfl (hb hby d23_5) hr) hrun hended ⟨_, _, rfl, ?_, ⟨_, rfl⟩, hW, hsame.mono (by decide) (by decide)⟩
  show Q_rm_emp Z wA wD wG wU wV wN wB wC wF wE wO k_1 k_2  h0 n0 _ T1.heap _
  rw [e1]
  exact ⟨rfl, N0, rfl⟩

theorem d12_0 : decode jdk_31_method_10_code 0 = .ok (.aload_n 0, 1) := by decide +kernel
theorem d12_1 : decode jdk_31_method_10_code 1 = .ok (.ifnonnull 11, 3) := by decide +kernel
theorem d12_12 : decode jdk_31_method_10_code 12 = .ok (.aload_n 0, 1) := by decide +kernel
theorem d12_13 : decode jdk_31_method_10_code 13 = .ok (.areturn, 1) := by decide +kernel
def Q_rm_rn1 (Z : State) (wA wD wG wU wV wN wB wC wF wE wO : Addr) (k_1 k_2 : ClassId) (o : Addr) (h0 : Heap) (n0 : Nat) (v : Option Value) (h : Heap) (L : List Loc) : Prop := v = some (.ref o) ∧ Fr n0 L ∧ h = h0
set_option maxRecDepth 65536 in
set_option maxHeartbeats 40000000 in
theorem rm_rn1 (l : Launch) (Z : State) (a0 : Array Value) (hw : ∀ d ∈ tables_1, d.before a0 Z = true) (ws : List Jvm.Cond) (wA wD wG wU wV wN wB wC wF wE wO : Addr) (k_1 k_2 : ClassId) (o : Addr) (h0 : Heap) (n0 : Nat) (O0 : Old Z n0 h0) (hS : St0 Z wA wD wG wU wV wN wB wC wF wE wO k_1 k_2 ) :
    MetFree l (⟨"java/util/Objects", "requireNonNull", "(Ljava/lang/Object;)Ljava/lang/Object;"⟩ : MethodName) (head1 (Jvm.Cond.code (⟨"java/util/Objects", "requireNonNull", "(Ljava/lang/Object;)Ljava/lang/Object;"⟩ : MethodName) jdk_31_method_10_code 1 (some (.object "java/lang/Object")) :: ws) ({ frames := 0, cells := 0, slots := 0, locals := 0 } : Room)) (fun aG UG => aG = #[(.ref o)] ∧ Z.Warmed39 UG.vm ∧ UG.heap = h0) (fun _ _ _ _ _ => True) (fun _ UG oG UG' => ∃ vG LG, oG = .returned vG ∧ Q_rm_rn1 Z wA wD wG wU wV wN wB wC wF wE wO k_1 k_2 o h0 n0 vG UG'.heap LG ∧ FrameEnd UG oG UG' LG ({ frames := 0, cells := 0, slots := 0, locals := 0 } : Room).cells ({ frames := 0, cells := 0, slots := 0, locals := 0 } : Room).slots) := by
  refine MetFree.of_bodySF (plainFor_of_name pn_3) hisR ?_
  intro pG eG sG mG argsG belowG methG cG s₁ Bd hml0 hP hK
  obtain ⟨rfl, hZ, hh⟩ := hP
  have hx := Bd.exec
  have hby := Bd.bytes
  have hml : cG.maxLocals = 1 := hml0
  have hown : sG.vm.findClass "java/util/Objects" = some mG.cls := findClass_of_methodNamed Bd.named
  have hnm := (name_of_methodNamed Bd.named Bd.method).1
  have X0 : Stand pG l eG ({ frames := 0, cells := 0, slots := 0, locals := 0 } : Room) sG mG #[(.ref o)] belowG methG cG s₁ [] 0 0 := Stand.of_body Bd
  have e0 : s₁.heap = h0 := by rw [← hh, Bd.state]; rfl
  have N0 := Fr.nil n0
  have K0 := Keep.refl h0 []
  obtain ⟨S_wA, E_wA, S_wD, E_wD, S_wG, E_wG, S_wU, E_wU, S_wV, E_wV, S_wN, E_wN, S_wB, E_wB, S_wC, E_wC, S_wF, E_wF, S_wE, E_wE, S_wO, E_wO, F_wA_ordinal, F_wG_ordinal, F_wD_ordinal, F_wU_ordinal, F_wV_ordinal, F_wN_ordinal, F_wB_ordinal, F_wC_ordinal, F_wF_ordinal, F_wE_ordinal, F_wO_value, L_1, L_2, ne_wA_wG, ne_wA_wD, ne_wA_wB, ne_wA_wC, ne_wA_wF, ne_wA_wE, ne_wG_wD, ne_wG_wB, ne_wG_wC, ne_wG_wF, ne_wG_wE, ne_wD_wB, ne_wD_wC, ne_wD_wF, ne_wD_wE, ne_wU_wV, ne_wU_wN, ne_wV_wN, ne_wB_wC, ne_wB_wF, ne_wB_wE, ne_wC_wF, ne_wC_wE, ne_wF_wE⟩ := (id hS : St0 Z wA wD wG wU wV wN wB wC wF wE wO k_1 k_2 )
  refine ostart (g' := (mkF mG 0 #[oa o] [])) (by first | (simp [entryFrame, mkF, argsToLocals, Value.category]; done) | rfl) ?_
  refine ob s₁ (mkF mG 1 #[oa o] [(.ref o)]) (fun _ kk => XS.aloadN X0.here hx rfl (hb hby d12_0) rfl rfl kk) ?_
  refine ob s₁ (mkF mG 12 #[oa o] []) (fun _ kk => XS.ifnonnullYes X0.here hx rfl (pc0 := 1) (pc' := 12) rfl (hb hby d12_1) rfl (by decide) (by decide) kk) ?_
  refine ob s₁ (mkF mG 13 #[oa o] [(.ref o)]) (fun _ kk => XS.aloadN X0.here hx rfl (hb hby d12_12) rfl rfl kk) ?_
  obtain ⟨fs, hr, hrun, hended, hW, hsame⟩ := X0.leave (v := some (.ref o)) (fun h => by rw [Bd.returns] at h; cases h)
  refine oout (oretA X0 hx Bd.returns rfl rfl (hb hby d12_13) hr) hrun hended ⟨_, _, rfl, ?_, ⟨_, rfl⟩, hW, hsame.mono (by decide) (by decide)⟩
  show Q_rm_rn1 Z wA wD wG wU wV wN wB wC wF wE wO k_1 k_2 o h0 n0 _ s₁.heap _
  rw [e0]
  exact ⟨rfl, N0, rfl⟩

theorem d5_0 : decode jdk_31_method_11_code 0 = .ok (.aload_n 0, 1) := by decide +kernel
theorem d5_1 : decode jdk_31_method_11_code 1 = .ok (.ifnonnull 12, 3) := by decide +kernel
theorem d5_13 : decode jdk_31_method_11_code 13 = .ok (.aload_n 0, 1) := by decide +kernel
theorem d5_14 : decode jdk_31_method_11_code 14 = .ok (.areturn, 1) := by decide +kernel
def Q_rm_rn2 (Z : State) (wA wD wG wU wV wN wB wC wF wE wO : Addr) (k_1 k_2 : ClassId) (o q : Addr) (h0 : Heap) (n0 : Nat) (v : Option Value) (h : Heap) (L : List Loc) : Prop := v = some (.ref o) ∧ Fr n0 L ∧ h = h0
set_option maxRecDepth 65536 in
set_option maxHeartbeats 40000000 in
theorem rm_rn2 (l : Launch) (Z : State) (a0 : Array Value) (hw : ∀ d ∈ tables_1, d.before a0 Z = true) (ws : List Jvm.Cond) (wA wD wG wU wV wN wB wC wF wE wO : Addr) (k_1 k_2 : ClassId) (o q : Addr) (h0 : Heap) (n0 : Nat) (O0 : Old Z n0 h0) (hS : St0 Z wA wD wG wU wV wN wB wC wF wE wO k_1 k_2 ) :
    MetFree l (⟨"java/util/Objects", "requireNonNull", "(Ljava/lang/Object;Ljava/lang/String;)Ljava/lang/Object;"⟩ : MethodName) (head1 (Jvm.Cond.code (⟨"java/util/Objects", "requireNonNull", "(Ljava/lang/Object;Ljava/lang/String;)Ljava/lang/Object;"⟩ : MethodName) jdk_31_method_11_code 2 (some (.object "java/lang/Object")) :: ws) ({ frames := 0, cells := 0, slots := 0, locals := 0 } : Room)) (fun aG UG => aG = #[(.ref o), (.ref q)] ∧ Z.Warmed39 UG.vm ∧ UG.heap = h0) (fun _ _ _ _ _ => True) (fun _ UG oG UG' => ∃ vG LG, oG = .returned vG ∧ Q_rm_rn2 Z wA wD wG wU wV wN wB wC wF wE wO k_1 k_2 o q h0 n0 vG UG'.heap LG ∧ FrameEnd UG oG UG' LG ({ frames := 0, cells := 0, slots := 0, locals := 0 } : Room).cells ({ frames := 0, cells := 0, slots := 0, locals := 0 } : Room).slots) := by
  refine MetFree.of_bodySF (plainFor_of_name pn_3) hisR ?_
  intro pG eG sG mG argsG belowG methG cG s₁ Bd hml0 hP hK
  obtain ⟨rfl, hZ, hh⟩ := hP
  have hx := Bd.exec
  have hby := Bd.bytes
  have hml : cG.maxLocals = 2 := hml0
  have hown : sG.vm.findClass "java/util/Objects" = some mG.cls := findClass_of_methodNamed Bd.named
  have hnm := (name_of_methodNamed Bd.named Bd.method).1
  have X0 : Stand pG l eG ({ frames := 0, cells := 0, slots := 0, locals := 0 } : Room) sG mG #[(.ref o), (.ref q)] belowG methG cG s₁ [] 0 0 := Stand.of_body Bd
  have e0 : s₁.heap = h0 := by rw [← hh, Bd.state]; rfl
  have N0 := Fr.nil n0
  have K0 := Keep.refl h0 []
  obtain ⟨S_wA, E_wA, S_wD, E_wD, S_wG, E_wG, S_wU, E_wU, S_wV, E_wV, S_wN, E_wN, S_wB, E_wB, S_wC, E_wC, S_wF, E_wF, S_wE, E_wE, S_wO, E_wO, F_wA_ordinal, F_wG_ordinal, F_wD_ordinal, F_wU_ordinal, F_wV_ordinal, F_wN_ordinal, F_wB_ordinal, F_wC_ordinal, F_wF_ordinal, F_wE_ordinal, F_wO_value, L_1, L_2, ne_wA_wG, ne_wA_wD, ne_wA_wB, ne_wA_wC, ne_wA_wF, ne_wA_wE, ne_wG_wD, ne_wG_wB, ne_wG_wC, ne_wG_wF, ne_wG_wE, ne_wD_wB, ne_wD_wC, ne_wD_wF, ne_wD_wE, ne_wU_wV, ne_wU_wN, ne_wV_wN, ne_wB_wC, ne_wB_wF, ne_wB_wE, ne_wC_wF, ne_wC_wE, ne_wF_wE⟩ := (id hS : St0 Z wA wD wG wU wV wN wB wC wF wE wO k_1 k_2 )
  refine ostart (g' := (mkF mG 0 #[oa o, oa q] [])) (by first | (simp [entryFrame, mkF, argsToLocals, Value.category]; done) | rfl) ?_
  refine ob s₁ (mkF mG 1 #[oa o, oa q] [(.ref o)]) (fun _ kk => XS.aloadN X0.here hx rfl (hb hby d5_0) rfl rfl kk) ?_
  refine ob s₁ (mkF mG 13 #[oa o, oa q] []) (fun _ kk => XS.ifnonnullYes X0.here hx rfl (pc0 := 1) (pc' := 13) rfl (hb hby d5_1) rfl (by decide) (by decide) kk) ?_
  refine ob s₁ (mkF mG 14 #[oa o, oa q] [(.ref o)]) (fun _ kk => XS.aloadN X0.here hx rfl (hb hby d5_13) rfl rfl kk) ?_
  obtain ⟨fs, hr, hrun, hended, hW, hsame⟩ := X0.leave (v := some (.ref o)) (fun h => by rw [Bd.returns] at h; cases h)
  refine oout (oretA X0 hx Bd.returns rfl rfl (hb hby d5_14) hr) hrun hended ⟨_, _, rfl, ?_, ⟨_, rfl⟩, hW, hsame.mono (by decide) (by decide)⟩
  show Q_rm_rn2 Z wA wD wG wU wV wN wB wC wF wE wO k_1 k_2 o q h0 n0 _ s₁.heap _
  rw [e0]
  exact ⟨rfl, N0, rfl⟩

theorem d3_0 : decode jdk_30_method_1_code 0 = .ok (.aload_n 0, 1) := by decide +kernel
theorem d3_1 : decode jdk_30_method_1_code 1 = .ok (.invokespecial 1, 3) := by decide +kernel
theorem d3_4 : decode jdk_30_method_1_code 4 = .ok (.return_, 1) := by decide +kernel
def Q_rm_rec (Z : State) (wA wD wG wU wV wN wB wC wF wE wO : Addr) (k_1 k_2 : ClassId) (a : Addr) (h0 : Heap) (n0 : Nat) (v : Option Value) (h : Heap) (L : List Loc) : Prop := v = none ∧ Fr n0 L ∧ h = h0
set_option maxRecDepth 65536 in
set_option maxHeartbeats 40000000 in
theorem rm_rec (l : Launch) (Z : State) (a0 : Array Value) (hw : ∀ d ∈ tables_1, d.before a0 Z = true) (ws : List Jvm.Cond) (wA wD wG wU wV wN wB wC wF wE wO : Addr) (k_1 k_2 : ClassId) (a : Addr) (h0 : Heap) (n0 : Nat) (O0 : Old Z n0 h0) (hS : St0 Z wA wD wG wU wV wN wB wC wF wE wO k_1 k_2 ) :
    MetFree l (⟨"java/lang/Record", "<init>", "()V"⟩ : MethodName) (head1 (Jvm.Cond.code (⟨"java/lang/Record", "<init>", "()V"⟩ : MethodName) jdk_30_method_1_code 1 none :: ws) ({ frames := 1, cells := 0, slots := 0, locals := 12 } : Room)) (fun aG UG => aG = #[(.ref a)] ∧ Z.Warmed39 UG.vm ∧ UG.heap = h0) (fun _ _ _ _ _ => True) (fun _ UG oG UG' => ∃ vG LG, oG = .returned vG ∧ Q_rm_rec Z wA wD wG wU wV wN wB wC wF wE wO k_1 k_2 a h0 n0 vG UG'.heap LG ∧ FrameEnd UG oG UG' LG ({ frames := 1, cells := 0, slots := 0, locals := 12 } : Room).cells ({ frames := 1, cells := 0, slots := 0, locals := 12 } : Room).slots) := by
  refine MetFree.of_bodySF (plainFor_of_name pn_4) hisR ?_
  intro pG eG sG mG argsG belowG methG cG s₁ Bd hml0 hP hK
  obtain ⟨rfl, hZ, hh⟩ := hP
  have hx := Bd.exec
  have hby := Bd.bytes
  have hml : cG.maxLocals = 1 := hml0
  have hown : sG.vm.findClass "java/lang/Record" = some mG.cls := findClass_of_methodNamed Bd.named
  have hnm := (name_of_methodNamed Bd.named Bd.method).1
  have X0 : Stand pG l eG ({ frames := 1, cells := 0, slots := 0, locals := 12 } : Room) sG mG #[(.ref a)] belowG methG cG s₁ [] 0 0 := Stand.of_body Bd
  have e0 : s₁.heap = h0 := by rw [← hh, Bd.state]; rfl
  have N0 := Fr.nil n0
  have K0 := Keep.refl h0 []
  obtain ⟨S_wA, E_wA, S_wD, E_wD, S_wG, E_wG, S_wU, E_wU, S_wV, E_wV, S_wN, E_wN, S_wB, E_wB, S_wC, E_wC, S_wF, E_wF, S_wE, E_wE, S_wO, E_wO, F_wA_ordinal, F_wG_ordinal, F_wD_ordinal, F_wU_ordinal, F_wV_ordinal, F_wN_ordinal, F_wB_ordinal, F_wC_ordinal, F_wF_ordinal, F_wE_ordinal, F_wO_value, L_1, L_2, ne_wA_wG, ne_wA_wD, ne_wA_wB, ne_wA_wC, ne_wA_wF, ne_wA_wE, ne_wG_wD, ne_wG_wB, ne_wG_wC, ne_wG_wF, ne_wG_wE, ne_wD_wB, ne_wD_wC, ne_wD_wF, ne_wD_wE, ne_wU_wV, ne_wU_wN, ne_wV_wN, ne_wB_wC, ne_wB_wF, ne_wB_wE, ne_wC_wF, ne_wC_wE, ne_wF_wE⟩ := (id hS : St0 Z wA wD wG wU wV wN wB wC wF wE wO k_1 k_2 )
  refine ostart (g' := (mkF mG 0 #[oa a] [])) (by first | (simp [entryFrame, mkF, argsToLocals, Value.category]; done) | rfl) ?_
  refine ob s₁ (mkF mG 1 #[oa a] [(.ref a)]) (fun _ kk => XS.aloadN X0.here hx rfl (hb hby d3_0) rfl rfl kk) ?_
  obtain ⟨T1, X1, e1, st1⟩ := initO X0 hx hZ hown (ow hw 21 rfl) (ow hw 22 rfl) (ow hw 23 rfl) e0 (g := (mkF mG 1 #[oa a] [(.ref a)])) rfl (by rw [hml]; rfl) rfl (hb hby d3_1) (by decide) (W := 0) (by show 2 * 0 + _ ≤ _; exact Nat.le_of_eq rfl) (by decide)
  refine ob T1 (mkF mG 4 #[oa a] []) (fun _ kk => st1 _ kk) ?_
  obtain ⟨fs, hr, hrun, hended, hW, hsame⟩ := X1.leave (v := none) (fun _ => rfl)
  refine oout (X1.returnOut hx Bd.returns (hb hby d3_4) hr) hrun hended ⟨_, _, rfl, ?_, ⟨_, rfl⟩, hW, hsame.mono (by decide) (by decide)⟩
  show Q_rm_rec Z wA wD wG wU wV wN wB wC wF wE wO k_1 k_2 a h0 n0 _ T1.heap _
  rw [e1]
  exact ⟨rfl, N0, rfl⟩

theorem d7_0 : decode prog_19_method_4_code 0 = .ok (.aload_n 0, 1) := by decide +kernel
theorem d7_1 : decode prog_19_method_4_code 1 = .ok (.invokevirtual 44, 3) := by decide +kernel
theorem d7_4 : decode prog_19_method_4_code 4 = .ok (.tableswitch 44 0 6 #[54, 70, 76, 92, 98, 112, 92], 44) := by decide +kernel
theorem d7_58 : decode prog_19_method_4_code 58 = .ok (.iload_n 1, 1) := by decide +kernel
theorem d7_59 : decode prog_19_method_4_code 59 = .ok (.ifCond .eq 9, 3) := by decide +kernel
theorem d7_68 : decode prog_19_method_4_code 68 = .ok (.getstatic 59, 3) := by decide +kernel
theorem d7_71 : decode prog_19_method_4_code 71 = .ok (.goto 56, 3) := by decide +kernel
theorem d7_127 : decode prog_19_method_4_code 127 = .ok (.astore_n 2, 1) := by decide +kernel
theorem d7_128 : decode prog_19_method_4_code 128 = .ok (.aload_n 2, 1) := by decide +kernel
theorem d7_129 : decode prog_19_method_4_code 129 = .ok (.invokestatic 65, 3) := by decide +kernel
theorem d7_132 : decode prog_19_method_4_code 132 = .ok (.areturn, 1) := by decide +kernel
theorem pd_4 : parseMethodDescriptor "()I" = some ⟨[], some .int⟩ := by decide +kernel
theorem pd_5 : parseMethodDescriptor "(Ljava/lang/Object;)Ljava/util/Optional;" = some ⟨[(.object "java/lang/Object")], some (.object "java/util/Optional")⟩ := by decide +kernel
def Q_rm_ap0_0 (Z : State) (wA wD wG wU wV wN wB wC wF wE wO : Addr) (k_1 k_2 : ClassId)  (h0 : Heap) (n0 : Nat) (v : Option Value) (h : Heap) (L : List Loc) : Prop := ∃ (b0 : Addr), v = some (.ref b0) ∧ Fr n0 L ∧ Keep h0 h [] ∧ Old Z n0 h ∧ n0 ≤ b0 ∧ h0.size ≤ b0 ∧ Exa Z h b0 "java/util/Optional" ∧ Fld Z h b0 "java/util/Optional" "value" "Ljava/lang/Object;" (.ref wU)
set_option maxRecDepth 65536 in
set_option maxHeartbeats 40000000 in
theorem rm_ap0_0 (l : Launch) (Z : State) (a0 : Array Value) (hw : ∀ d ∈ tables_1, d.before a0 Z = true) (ws : List Jvm.Cond) (wA wD wG wU wV wN wB wC wF wE wO : Addr) (k_1 k_2 : ClassId)  (h0 : Heap) (n0 : Nat) (O0 : Old Z n0 h0) (hS : St0 Z wA wD wG wU wV wN wB wC wF wE wO k_1 k_2 ) :
    MetFree l (⟨"com/example/vorgang/vorgang/model/Policy", "apply", "(Z)Ljava/util/Optional;"⟩ : MethodName) (head1 (Jvm.Cond.code (⟨"com/example/vorgang/vorgang/model/Policy", "apply", "(Z)Ljava/util/Optional;"⟩ : MethodName) prog_19_method_4_code 3 (some (.object "java/util/Optional")) :: ws) ({ frames := 3, cells := 1, slots := 1, locals := 60 } : Room)) (fun aG UG => aG = #[(.ref wA), (.int (0 : Int32))] ∧ Z.Warmed39 UG.vm ∧ UG.heap = h0) (fun _ _ _ _ _ => True) (fun _ UG oG UG' => ∃ vG LG, oG = .returned vG ∧ Q_rm_ap0_0 Z wA wD wG wU wV wN wB wC wF wE wO k_1 k_2  h0 n0 vG UG'.heap LG ∧ FrameEnd UG oG UG' LG ({ frames := 3, cells := 1, slots := 1, locals := 60 } : Room).cells ({ frames := 3, cells := 1, slots := 1, locals := 60 } : Room).slots) := by
  refine MetFree.of_bodySF (plainFor_of_name pn_5) hisR ?_
  intro pG eG sG mG argsG belowG methG cG s₁ Bd hml0 hP hK
  obtain ⟨rfl, hZ, hh⟩ := hP
  have hx := Bd.exec
  have hby := Bd.bytes
  have hml : cG.maxLocals = 3 := hml0
  have hown : sG.vm.findClass "com/example/vorgang/vorgang/model/Policy" = some mG.cls := findClass_of_methodNamed Bd.named
  have hnm := (name_of_methodNamed Bd.named Bd.method).1
  have X0 : Stand pG l eG ({ frames := 3, cells := 1, slots := 1, locals := 60 } : Room) sG mG #[(.ref wA), (.int (0 : Int32))] belowG methG cG s₁ [] 0 0 := Stand.of_body Bd
  have e0 : s₁.heap = h0 := by rw [← hh, Bd.state]; rfl
  have N0 := Fr.nil n0
  have K0 := Keep.refl h0 []
  obtain ⟨S_wA, E_wA, S_wD, E_wD, S_wG, E_wG, S_wU, E_wU, S_wV, E_wV, S_wN, E_wN, S_wB, E_wB, S_wC, E_wC, S_wF, E_wF, S_wE, E_wE, S_wO, E_wO, F_wA_ordinal, F_wG_ordinal, F_wD_ordinal, F_wU_ordinal, F_wV_ordinal, F_wN_ordinal, F_wB_ordinal, F_wC_ordinal, F_wF_ordinal, F_wE_ordinal, F_wO_value, L_1, L_2, ne_wA_wG, ne_wA_wD, ne_wA_wB, ne_wA_wC, ne_wA_wF, ne_wA_wE, ne_wG_wD, ne_wG_wB, ne_wG_wC, ne_wG_wF, ne_wG_wE, ne_wD_wB, ne_wD_wC, ne_wD_wF, ne_wD_wE, ne_wU_wV, ne_wU_wN, ne_wV_wN, ne_wB_wC, ne_wB_wF, ne_wB_wE, ne_wC_wF, ne_wC_wE, ne_wF_wE⟩ := (id hS : St0 Z wA wD wG wU wV wN wB wC wF wE wO k_1 k_2 )
  refine ostart (g' := (mkF mG 0 #[oa wA, oi (0 : Int32), .unset] [])) (by first | (simp [entryFrame, mkF, argsToLocals, Value.category]; done) | rfl) ?_
  refine ob s₁ (mkF mG 1 #[oa wA, oi (0 : Int32), .unset] [(.ref wA)]) (fun _ kk => XS.aloadN X0.here hx rfl (hb hby d7_0) rfl rfl kk) ?_
  obtain ⟨cq1, kq1, q1a, q1b, q1c⟩ := isOf hZ e0 (E_wA.ext O0.2)
  obtain ⟨_, _, ⟨T1, L1, k1, n1⟩, -, X1, ⟨Lc1, hQ1, l1, y1, z1⟩, st1⟩ := X0.virtualBackUp hx (x := (⟨"com/example/vorgang/vorgang/model/Policy", "ordinal", "()I"⟩ : MethodName)) (y := (⟨"java/lang/Enum", "ordinal", "()I"⟩ : MethodName)) (owner := "java/lang/Enum") hown (mvT hZ (ow hw 53 rfl)) (mvT hZ (ow hw 54 rfl)) (mvT hZ (ow hw 55 rfl)) (by decide) (mvT hZ (ow hw 57 rfl)) (mvT hZ (ow hw 56 rfl)) (backOf (W := 0) (rm_ord l Z a0 hw [] wA wD wG wU wV wN wB wC wF wE wO k_1 k_2 wA (0 : Int32) h0 n0 O0 hS (F_wA_ordinal.ext O0.2)) hZ (ow hw 59 rfl) (ow hw 58 rfl) (by decide) (by decide)) q1a q1c (g := (mkF mG 1 #[oa wA, oi (0 : Int32), .unset] [(.ref wA)])) rfl (by rw [hml]; rfl) (Steps.refl _) (argsL := []) (rest := []) (lenOf pd_4 rfl) rfl (by show 2 * 0 + _ ≤ _; exact Nat.le_of_eq rfl) (hb hby d7_1) (fun _ _ => ⟨rfl, e0, (by decide : 0 + 0 ≤ _), (by decide : 0 + 0 ≤ _)⟩)
  dsimp only [Pt.U, Pt.locs, Pt.cells, Pt.slots] at X1 l1 y1 z1 st1 hQ1
  subst l1 y1 z1
  obtain ⟨rfl, N1q, e1⟩ := hQ1
  have N1 := Fr.app N0 N1q
  obtain ⟨LL2, X1, N1⟩ : ∃ LL, Stand pG l eG _ _ mG _ belowG methG cG T1 LL 0 0 ∧ Fr n0 LL := ⟨_, X1, N1⟩
  refine ob T1 (mkF mG 4 #[oa wA, oi (0 : Int32), .unset] [(.int (0 : Int32))]) (fun _ kk => st1.trans kk) ?_
  refine ob T1 (mkF mG 58 #[oa wA, oi (0 : Int32), .unset] []) (fun _ kk => XS.tswIn X1.here hx rfl (pc0 := 4) (pc' := 58) rfl (hb hby d7_4) rfl (by decide) (o := 54) (by decide) (by decide) (by decide) kk) ?_
  refine ob T1 (mkF mG 59 #[oa wA, oi (0 : Int32), .unset] [(.int (0 : Int32))]) (fun _ kk => XS.iloadN X1.here hx rfl (hb hby d7_58) rfl kk) ?_
  refine ob T1 (mkF mG 68 #[oa wA, oi (0 : Int32), .unset] []) (fun _ kk => XS.ifYes X1.here hx rfl (pc0 := 59) (pc' := 68) rfl (hb hby d7_59) rfl ((if0 _ _).trans (teq (by decide : (0 : Int32) = (0 : Int32))).1) (by decide) (by decide) kk) ?_
  obtain ⟨T3, X3, e3, st3⟩ := getS2 X1 hx hZ hown (host := "") (Or.inl (ow hw 62 rfl)) Via.refl e1 (S_wU.ext O0.2) (g := (mkF mG 68 #[oa wA, oi (0 : Int32), .unset] [])) rfl (hb hby d7_68)
  refine ob T3 (mkF mG 71 #[oa wA, oi (0 : Int32), .unset] [(.ref wU)]) (fun _ kk => st3 _ kk) ?_
  refine ob T3 (mkF mG 127 #[oa wA, oi (0 : Int32), .unset] [(.ref wU)]) (fun _ kk => XS.goto X3.here hx rfl (pc0 := 71) (pc' := 127) rfl (hb hby d7_71) (by decide) (by decide) kk) ?_
  refine ob T3 (mkF mG 128 #[oa wA, oi (0 : Int32), oa wU] []) (fun _ kk => XS.astoreN X3.here hx rfl (hb hby d7_127) rfl rfl (l' := #[oa wA, oi (0 : Int32), oa wU]) rfl kk) ?_
  refine ob T3 (mkF mG 129 #[oa wA, oi (0 : Int32), oa wU] [(.ref wU)]) (fun _ kk => XS.aloadN X3.here hx rfl (hb hby d7_128) rfl rfl kk) ?_
  obtain ⟨_, _, ⟨T4, L4, k4, n4⟩, -, X4, ⟨Lc4, hQ4, l4, y4, z4⟩, st4⟩ := Jvm.LawKit.callS X3 hx (y := (⟨"java/util/Optional", "ofNullable", "(Ljava/lang/Object;)Ljava/util/Optional;"⟩ : MethodName)) hown (mvT hZ (ow hw 65 rfl)) (mvT hZ (ow hw 66 rfl)) (mvT hZ (ow hw 67 rfl)) (mvT hZ (ow hw 68 rfl)) (by decide) (backOf (W := 0) (rm_onS l Z a0 hw [] wA wD wG wU wV wN wB wC wF wE wO k_1 k_2 wU h0 n0 O0 hS ) hZ (ow hw 68 rfl) (ow hw 67 rfl) (by decide) (by decide)) (g := (mkF mG 129 #[oa wA, oi (0 : Int32), oa wU] [(.ref wU)])) rfl (by rw [hml]; rfl) (argsL := [(.ref wU)]) (rest := []) (lenOf pd_5 rfl) rfl (by show 2 * 0 + _ ≤ _; exact Nat.le_of_eq rfl) (hb hby d7_129) (fun _ _ => ⟨rfl, e3, (by decide : 0 + 1 ≤ _), (by decide : 0 + 1 ≤ _)⟩)
  dsimp only [Pt.U, Pt.locs, Pt.cells, Pt.slots] at X4 l4 y4 z4 st4 hQ4
  subst l4 y4 z4
  obtain ⟨h4, e4⟩ : ∃ h, T4.heap = h := ⟨_, rfl⟩
  rw [e4] at hQ4
  obtain ⟨b0_4, rfl, N4q, K4q, O4, n_b0_4, z_b0_4, F4_0, F4_1⟩ := hQ4
  have N4 := Fr.app N1 N4q
  have sz_b0_4 : h0.size ≤ b0_4 := Nat.le_trans K0.1 z_b0_4
  have K4 := K0.trans K4q all0
  obtain ⟨LL5, X4, N4⟩ : ∃ LL, Stand pG l eG _ _ mG _ belowG methG cG T4 LL 1 1 ∧ Fr n0 LL := ⟨_, X4, N4⟩
  refine ob T4 (mkF mG 132 #[oa wA, oi (0 : Int32), oa wU] [(.ref b0_4)]) (fun _ kk => st4 _ kk) ?_
  obtain ⟨fs, hr, hrun, hended, hW, hsame⟩ := X4.leave (v := some (.ref b0_4)) (fun h => by rw [Bd.returns] at h; cases h)
  refine oout (oretA X4 hx Bd.returns rfl rfl (hb hby d7_132) hr) hrun hended ⟨_, _, rfl, ?_, ⟨_, rfl⟩, hW, hsame.mono (by decide) (by decide)⟩
  show Q_rm_ap0_0 Z wA wD wG wU wV wN wB wC wF wE wO k_1 k_2  h0 n0 _ T4.heap _
  rw [e4]
  exact ⟨b0_4, rfl, N4, K4, O4, n_b0_4, sz_b0_4, F4_0, F4_1⟩

theorem d7_62 : decode prog_19_method_4_code 62 = .ok (.getstatic 53, 3) := by decide +kernel
theorem d7_65 : decode prog_19_method_4_code 65 = .ok (.goto 62, 3) := by decide +kernel
def Q_rm_ap0_1 (Z : State) (wA wD wG wU wV wN wB wC wF wE wO : Addr) (k_1 k_2 : ClassId)  (h0 : Heap) (n0 : Nat) (v : Option Value) (h : Heap) (L : List Loc) : Prop := ∃ (b0 : Addr), v = some (.ref b0) ∧ Fr n0 L ∧ Keep h0 h [] ∧ Old Z n0 h ∧ n0 ≤ b0 ∧ h0.size ≤ b0 ∧ Exa Z h b0 "java/util/Optional" ∧ Fld Z h b0 "java/util/Optional" "value" "Ljava/lang/Object;" (.ref wV)
set_option maxRecDepth 65536 in
set_option maxHeartbeats 40000000 in
theorem rm_ap0_1 (l : Launch) (Z : State) (a0 : Array Value) (hw : ∀ d ∈ tables_1, d.before a0 Z = true) (ws : List Jvm.Cond) (wA wD wG wU wV wN wB wC wF wE wO : Addr) (k_1 k_2 : ClassId)  (h0 : Heap) (n0 : Nat) (O0 : Old Z n0 h0) (hS : St0 Z wA wD wG wU wV wN wB wC wF wE wO k_1 k_2 ) :
    MetFree l (⟨"com/example/vorgang/vorgang/model/Policy", "apply", "(Z)Ljava/util/Optional;"⟩ : MethodName) (head1 (Jvm.Cond.code (⟨"com/example/vorgang/vorgang/model/Policy", "apply", "(Z)Ljava/util/Optional;"⟩ : MethodName) prog_19_method_4_code 3 (some (.object "java/util/Optional")) :: ws) ({ frames := 3, cells := 1, slots := 1, locals := 60 } : Room)) (fun aG UG => aG = #[(.ref wA), (.int (1 : Int32))] ∧ Z.Warmed39 UG.vm ∧ UG.heap = h0) (fun _ _ _ _ _ => True) (fun _ UG oG UG' => ∃ vG LG, oG = .returned vG ∧ Q_rm_ap0_1 Z wA wD wG wU wV wN wB wC wF wE wO k_1 k_2  h0 n0 vG UG'.heap LG ∧ FrameEnd UG oG UG' LG ({ frames := 3, cells := 1, slots := 1, locals := 60 } : Room).cells ({ frames := 3, cells := 1, slots := 1, locals := 60 } : Room).slots) := by
  refine MetFree.of_bodySF (plainFor_of_name pn_5) hisR ?_
  intro pG eG sG mG argsG belowG methG cG s₁ Bd hml0 hP hK
  obtain ⟨rfl, hZ, hh⟩ := hP
  have hx := Bd.exec
  have hby := Bd.bytes
  have hml : cG.maxLocals = 3 := hml0
  have hown : sG.vm.findClass "com/example/vorgang/vorgang/model/Policy" = some mG.cls := findClass_of_methodNamed Bd.named
  have hnm := (name_of_methodNamed Bd.named Bd.method).1
  have X0 : Stand pG l eG ({ frames := 3, cells := 1, slots := 1, locals := 60 } : Room) sG mG #[(.ref wA), (.int (1 : Int32))] belowG methG cG s₁ [] 0 0 := Stand.of_body Bd
  have e0 : s₁.heap = h0 := by rw [← hh, Bd.state]; rfl
  have N0 := Fr.nil n0
  have K0 := Keep.refl h0 []
  obtain ⟨S_wA, E_wA, S_wD, E_wD, S_wG, E_wG, S_wU, E_wU, S_wV, E_wV, S_wN, E_wN, S_wB, E_wB, S_wC, E_wC, S_wF, E_wF, S_wE, E_wE, S_wO, E_wO, F_wA_ordinal, F_wG_ordinal, F_wD_ordinal, F_wU_ordinal, F_wV_ordinal, F_wN_ordinal, F_wB_ordinal, F_wC_ordinal, F_wF_ordinal, F_wE_ordinal, F_wO_value, L_1, L_2, ne_wA_wG, ne_wA_wD, ne_wA_wB, ne_wA_wC, ne_wA_wF, ne_wA_wE, ne_wG_wD, ne_wG_wB, ne_wG_wC, ne_wG_wF, ne_wG_wE, ne_wD_wB, ne_wD_wC, ne_wD_wF, ne_wD_wE, ne_wU_wV, ne_wU_wN, ne_wV_wN, ne_wB_wC, ne_wB_wF, ne_wB_wE, ne_wC_wF, ne_wC_wE, ne_wF_wE⟩ := (id hS : St0 Z wA wD wG wU wV wN wB wC wF wE wO k_1 k_2 )
  refine ostart (g' := (mkF mG 0 #[oa wA, oi (1 : Int32), .unset] [])) (by first | (simp [entryFrame, mkF, argsToLocals, Value.category]; done) | rfl) ?_
  refine ob s₁ (mkF mG 1 #[oa wA, oi (1 : Int32), .unset] [(.ref wA)]) (fun _ kk => XS.aloadN X0.here hx rfl (hb hby d7_0) rfl rfl kk) ?_
  obtain ⟨cq1, kq1, q1a, q1b, q1c⟩ := isOf hZ e0 (E_wA.ext O0.2)
  obtain ⟨_, _, ⟨T1, L1, k1, n1⟩, -, X1, ⟨Lc1, hQ1, l1, y1, z1⟩, st1⟩ := X0.virtualBackUp hx (x := (⟨"com/example/vorgang/vorgang/model/Policy", "ordinal", "()I"⟩ : MethodName)) (y := (⟨"java/lang/Enum", "ordinal", "()I"⟩ : MethodName)) (owner := "java/lang/Enum") hown (mvT hZ (ow hw 53 rfl)) (mvT hZ (ow hw 54 rfl)) (mvT hZ (ow hw 55 rfl)) (by decide) (mvT hZ (ow hw 57 rfl)) (mvT hZ (ow hw 56 rfl)) (backOf (W := 0) (rm_ord l Z a0 hw [] wA wD wG wU wV wN wB wC wF wE wO k_1 k_2 wA (0 : Int32) h0 n0 O0 hS (F_wA_ordinal.ext O0.2)) hZ (ow hw 59 rfl) (ow hw 58 rfl) (by decide) (by decide)) q1a q1c (g := (mkF mG 1 #[oa wA, oi (1 : Int32), .unset] [(.ref wA)])) rfl (by rw [hml]; rfl) (Steps.refl _) (argsL := []) (rest := []) (lenOf pd_4 rfl) rfl (by show 2 * 0 + _ ≤ _; exact Nat.le_of_eq rfl) (hb hby d7_1) (fun _ _ => ⟨rfl, e0, (by decide : 0 + 0 ≤ _), (by decide : 0 + 0 ≤ _)⟩)
  dsimp only [Pt.U, Pt.locs, Pt.cells, Pt.slots] at X1 l1 y1 z1 st1 hQ1
  subst l1 y1 z1
  obtain ⟨rfl, N1q, e1⟩ := hQ1
  have N1 := Fr.app N0 N1q
  obtain ⟨LL2, X1, N1⟩ : ∃ LL, Stand pG l eG _ _ mG _ belowG methG cG T1 LL 0 0 ∧ Fr n0 LL := ⟨_, X1, N1⟩
  refine ob T1 (mkF mG 4 #[oa wA, oi (1 : Int32), .unset] [(.int (0 : Int32))]) (fun _ kk => st1.trans kk) ?_
  refine ob T1 (mkF mG 58 #[oa wA, oi (1 : Int32), .unset] []) (fun _ kk => XS.tswIn X1.here hx rfl (pc0 := 4) (pc' := 58) rfl (hb hby d7_4) rfl (by decide) (o := 54) (by decide) (by decide) (by decide) kk) ?_
  refine ob T1 (mkF mG 59 #[oa wA, oi (1 : Int32), .unset] [(.int (1 : Int32))]) (fun _ kk => XS.iloadN X1.here hx rfl (hb hby d7_58) rfl kk) ?_
  refine ob T1 (mkF mG 62 #[oa wA, oi (1 : Int32), .unset] []) (fun _ kk => XS.ifNo X1.here hx rfl (hb hby d7_59) rfl ((if0 _ _).trans (feq (by decide : ¬ ((1 : Int32) = (0 : Int32)))).1) kk) ?_
  obtain ⟨T3, X3, e3, st3⟩ := getS2 X1 hx hZ hown (host := "") (Or.inl (ow hw 171 rfl)) Via.refl e1 (S_wV.ext O0.2) (g := (mkF mG 62 #[oa wA, oi (1 : Int32), .unset] [])) rfl (hb hby d7_62)
  refine ob T3 (mkF mG 65 #[oa wA, oi (1 : Int32), .unset] [(.ref wV)]) (fun _ kk => st3 _ kk) ?_
  refine ob T3 (mkF mG 127 #[oa wA, oi (1 : Int32), .unset] [(.ref wV)]) (fun _ kk => XS.goto X3.here hx rfl (pc0 := 65) (pc' := 127) rfl (hb hby d7_65) (by decide) (by decide) kk) ?_
  refine ob T3 (mkF mG 128 #[oa wA, oi (1 : Int32), oa wV] []) (fun _ kk => XS.astoreN X3.here hx rfl (hb hby d7_127) rfl rfl (l' := #[oa wA, oi (1 : Int32), oa wV]) rfl kk) ?_
  refine ob T3 (mkF mG 129 #[oa wA, oi (1 : Int32), oa wV] [(.ref wV)]) (fun _ kk => XS.aloadN X3.here hx rfl (hb hby d7_128) rfl rfl kk) ?_
  obtain ⟨_, _, ⟨T4, L4, k4, n4⟩, -, X4, ⟨Lc4, hQ4, l4, y4, z4⟩, st4⟩ := Jvm.LawKit.callS X3 hx (y := (⟨"java/util/Optional", "ofNullable", "(Ljava/lang/Object;)Ljava/util/Optional;"⟩ : MethodName)) hown (mvT hZ (ow hw 65 rfl)) (mvT hZ (ow hw 66 rfl)) (mvT hZ (ow hw 67 rfl)) (mvT hZ (ow hw 68 rfl)) (by decide) (backOf (W := 0) (rm_onS l Z a0 hw [] wA wD wG wU wV wN wB wC wF wE wO k_1 k_2 wV h0 n0 O0 hS ) hZ (ow hw 68 rfl) (ow hw 67 rfl) (by decide) (by decide)) (g := (mkF mG 129 #[oa wA, oi (1 : Int32), oa wV] [(.ref wV)])) rfl (by rw [hml]; rfl) (argsL := [(.ref wV)]) (rest := []) (lenOf pd_5 rfl) rfl (by show 2 * 0 + _ ≤ _; exact Nat.le_of_eq rfl) (hb hby d7_129) (fun _ _ => ⟨rfl, e3, (by decide : 0 + 1 ≤ _), (by decide : 0 + 1 ≤ _)⟩)
  dsimp only [Pt.U, Pt.locs, Pt.cells, Pt.slots] at X4 l4 y4 z4 st4 hQ4
  subst l4 y4 z4
  obtain ⟨h4, e4⟩ : ∃ h, T4.heap = h := ⟨_, rfl⟩
  rw [e4] at hQ4
  obtain ⟨b0_4, rfl, N4q, K4q, O4, n_b0_4, z_b0_4, F4_0, F4_1⟩ := hQ4
  have N4 := Fr.app N1 N4q
  have sz_b0_4 : h0.size ≤ b0_4 := Nat.le_trans K0.1 z_b0_4
  have K4 := K0.trans K4q all0
  obtain ⟨LL5, X4, N4⟩ : ∃ LL, Stand pG l eG _ _ mG _ belowG methG cG T4 LL 1 1 ∧ Fr n0 LL := ⟨_, X4, N4⟩
  refine ob T4 (mkF mG 132 #[oa wA, oi (1 : Int32), oa wV] [(.ref b0_4)]) (fun _ kk => st4 _ kk) ?_
  obtain ⟨fs, hr, hrun, hended, hW, hsame⟩ := X4.leave (v := some (.ref b0_4)) (fun h => by rw [Bd.returns] at h; cases h)
  refine oout (oretA X4 hx Bd.returns rfl rfl (hb hby d7_132) hr) hrun hended ⟨_, _, rfl, ?_, ⟨_, rfl⟩, hW, hsame.mono (by decide) (by decide)⟩
  show Q_rm_ap0_1 Z wA wD wG wU wV wN wB wC wF wE wO k_1 k_2  h0 n0 _ T4.heap _
  rw [e4]
  exact ⟨b0_4, rfl, N4, K4, O4, n_b0_4, sz_b0_4, F4_0, F4_1⟩

theorem d7_74 : decode prog_19_method_4_code 74 = .ok (.getstatic 59, 3) := by decide +kernel
theorem d7_77 : decode prog_19_method_4_code 77 = .ok (.goto 50, 3) := by decide +kernel
def Q_rm_ap1_0 (Z : State) (wA wD wG wU wV wN wB wC wF wE wO : Addr) (k_1 k_2 : ClassId)  (h0 : Heap) (n0 : Nat) (v : Option Value) (h : Heap) (L : List Loc) : Prop := ∃ (b0 : Addr), v = some (.ref b0) ∧ Fr n0 L ∧ Keep h0 h [] ∧ Old Z n0 h ∧ n0 ≤ b0 ∧ h0.size ≤ b0 ∧ Exa Z h b0 "java/util/Optional" ∧ Fld Z h b0 "java/util/Optional" "value" "Ljava/lang/Object;" (.ref wU)
set_option maxRecDepth 65536 in
set_option maxHeartbeats 40000000 in
theorem rm_ap1_0 (l : Launch) (Z : State) (a0 : Array Value) (hw : ∀ d ∈ tables_1, d.before a0 Z = true) (ws : List Jvm.Cond) (wA wD wG wU wV wN wB wC wF wE wO : Addr) (k_1 k_2 : ClassId)  (h0 : Heap) (n0 : Nat) (O0 : Old Z n0 h0) (hS : St0 Z wA wD wG wU wV wN wB wC wF wE wO k_1 k_2 ) :
    MetFree l (⟨"com/example/vorgang/vorgang/model/Policy", "apply", "(Z)Ljava/util/Optional;"⟩ : MethodName) (head1 (Jvm.Cond.code (⟨"com/example/vorgang/vorgang/model/Policy", "apply", "(Z)Ljava/util/Optional;"⟩ : MethodName) prog_19_method_4_code 3 (some (.object "java/util/Optional")) :: ws) ({ frames := 3, cells := 1, slots := 1, locals := 60 } : Room)) (fun aG UG => aG = #[(.ref wB), (.int (0 : Int32))] ∧ Z.Warmed39 UG.vm ∧ UG.heap = h0) (fun _ _ _ _ _ => True) (fun _ UG oG UG' => ∃ vG LG, oG = .returned vG ∧ Q_rm_ap1_0 Z wA wD wG wU wV wN wB wC wF wE wO k_1 k_2  h0 n0 vG UG'.heap LG ∧ FrameEnd UG oG UG' LG ({ frames := 3, cells := 1, slots := 1, locals := 60 } : Room).cells ({ frames := 3, cells := 1, slots := 1, locals := 60 } : Room).slots) := by
  refine MetFree.of_bodySF (plainFor_of_name pn_5) hisR ?_
  intro pG eG sG mG argsG belowG methG cG s₁ Bd hml0 hP hK
  obtain ⟨rfl, hZ, hh⟩ := hP
  have hx := Bd.exec
  have hby := Bd.bytes
  have hml : cG.maxLocals = 3 := hml0
  have hown : sG.vm.findClass "com/example/vorgang/vorgang/model/Policy" = some mG.cls := findClass_of_methodNamed Bd.named
  have hnm := (name_of_methodNamed Bd.named Bd.method).1
  have X0 : Stand pG l eG ({ frames := 3, cells := 1, slots := 1, locals := 60 } : Room) sG mG #[(.ref wB), (.int (0 : Int32))] belowG methG cG s₁ [] 0 0 := Stand.of_body Bd
  have e0 : s₁.heap = h0 := by rw [← hh, Bd.state]; rfl
  have N0 := Fr.nil n0
  have K0 := Keep.refl h0 []
  obtain ⟨S_wA, E_wA, S_wD, E_wD, S_wG, E_wG, S_wU, E_wU, S_wV, E_wV, S_wN, E_wN, S_wB, E_wB, S_wC, E_wC, S_wF, E_wF, S_wE, E_wE, S_wO, E_wO, F_wA_ordinal, F_wG_ordinal, F_wD_ordinal, F_wU_ordinal, F_wV_ordinal, F_wN_ordinal, F_wB_ordinal, F_wC_ordinal, F_wF_ordinal, F_wE_ordinal, F_wO_value, L_1, L_2, ne_wA_wG, ne_wA_wD, ne_wA_wB, ne_wA_wC, ne_wA_wF, ne_wA_wE, ne_wG_wD, ne_wG_wB, ne_wG_wC, ne_wG_wF, ne_wG_wE, ne_wD_wB, ne_wD_wC, ne_wD_wF, ne_wD_wE, ne_wU_wV, ne_wU_wN, ne_wV_wN, ne_wB_wC, ne_wB_wF, ne_wB_wE, ne_wC_wF, ne_wC_wE, ne_wF_wE⟩ := (id hS : St0 Z wA wD wG wU wV wN wB wC wF wE wO k_1 k_2 )
  refine ostart (g' := (mkF mG 0 #[oa wB, oi (0 : Int32), .unset] [])) (by first | (simp [entryFrame, mkF, argsToLocals, Value.category]; done) | rfl) ?_
  refine ob s₁ (mkF mG 1 #[oa wB, oi (0 : Int32), .unset] [(.ref wB)]) (fun _ kk => XS.aloadN X0.here hx rfl (hb hby d7_0) rfl rfl kk) ?_
  obtain ⟨cq1, kq1, q1a, q1b, q1c⟩ := isOf hZ e0 (E_wB.ext O0.2)
  obtain ⟨_, _, ⟨T1, L1, k1, n1⟩, -, X1, ⟨Lc1, hQ1, l1, y1, z1⟩, st1⟩ := X0.virtualBackUp hx (x := (⟨"com/example/vorgang/vorgang/model/Policy", "ordinal", "()I"⟩ : MethodName)) (y := (⟨"java/lang/Enum", "ordinal", "()I"⟩ : MethodName)) (owner := "java/lang/Enum") hown (mvT hZ (ow hw 53 rfl)) (mvT hZ (ow hw 54 rfl)) (mvT hZ (ow hw 55 rfl)) (by decide) (mvT hZ (ow hw 57 rfl)) (mvT hZ (ow hw 56 rfl)) (backOf (W := 0) (rm_ord l Z a0 hw [] wA wD wG wU wV wN wB wC wF wE wO k_1 k_2 wB (1 : Int32) h0 n0 O0 hS (F_wB_ordinal.ext O0.2)) hZ (ow hw 59 rfl) (ow hw 58 rfl) (by decide) (by decide)) q1a q1c (g := (mkF mG 1 #[oa wB, oi (0 : Int32), .unset] [(.ref wB)])) rfl (by rw [hml]; rfl) (Steps.refl _) (argsL := []) (rest := []) (lenOf pd_4 rfl) rfl (by show 2 * 0 + _ ≤ _; exact Nat.le_of_eq rfl) (hb hby d7_1) (fun _ _ => ⟨rfl, e0, (by decide : 0 + 0 ≤ _), (by decide : 0 + 0 ≤ _)⟩)
  dsimp only [Pt.U, Pt.locs, Pt.cells, Pt.slots] at X1 l1 y1 z1 st1 hQ1
  subst l1 y1 z1
  obtain ⟨rfl, N1q, e1⟩ := hQ1
  have N1 := Fr.app N0 N1q
  obtain ⟨LL2, X1, N1⟩ : ∃ LL, Stand pG l eG _ _ mG _ belowG methG cG T1 LL 0 0 ∧ Fr n0 LL := ⟨_, X1, N1⟩
  refine ob T1 (mkF mG 4 #[oa wB, oi (0 : Int32), .unset] [(.int (1 : Int32))]) (fun _ kk => st1.trans kk) ?_
  refine ob T1 (mkF mG 74 #[oa wB, oi (0 : Int32), .unset] []) (fun _ kk => XS.tswIn X1.here hx rfl (pc0 := 4) (pc' := 74) rfl (hb hby d7_4) rfl (by decide) (o := 70) (by decide) (by decide) (by decide) kk) ?_
  obtain ⟨T3, X3, e3, st3⟩ := getS2 X1 hx hZ hown (host := "") (Or.inl (ow hw 62 rfl)) Via.refl e1 (S_wU.ext O0.2) (g := (mkF mG 74 #[oa wB, oi (0 : Int32), .unset] [])) rfl (hb hby d7_74)
  refine ob T3 (mkF mG 77 #[oa wB, oi (0 : Int32), .unset] [(.ref wU)]) (fun _ kk => st3 _ kk) ?_
  refine ob T3 (mkF mG 127 #[oa wB, oi (0 : Int32), .unset] [(.ref wU)]) (fun _ kk => XS.goto X3.here hx rfl (pc0 := 77) (pc' := 127) rfl (hb hby d7_77) (by decide) (by decide) kk) ?_
  refine ob T3 (mkF mG 128 #[oa wB, oi (0 : Int32), oa wU] []) (fun _ kk => XS.astoreN X3.here hx rfl (hb hby d7_127) rfl rfl (l' := #[oa wB, oi (0 : Int32), oa wU]) rfl kk) ?_
  refine ob T3 (mkF mG 129 #[oa wB, oi (0 : Int32), oa wU] [(.ref wU)]) (fun _ kk => XS.aloadN X3.here hx rfl (hb hby d7_128) rfl rfl kk) ?_
  obtain ⟨_, _, ⟨T4, L4, k4, n4⟩, -, X4, ⟨Lc4, hQ4, l4, y4, z4⟩, st4⟩ := Jvm.LawKit.callS X3 hx (y := (⟨"java/util/Optional", "ofNullable", "(Ljava/lang/Object;)Ljava/util/Optional;"⟩ : MethodName)) hown (mvT hZ (ow hw 65 rfl)) (mvT hZ (ow hw 66 rfl)) (mvT hZ (ow hw 67 rfl)) (mvT hZ (ow hw 68 rfl)) (by decide) (backOf (W := 0) (rm_onS l Z a0 hw [] wA wD wG wU wV wN wB wC wF wE wO k_1 k_2 wU h0 n0 O0 hS ) hZ (ow hw 68 rfl) (ow hw 67 rfl) (by decide) (by decide)) (g := (mkF mG 129 #[oa wB, oi (0 : Int32), oa wU] [(.ref wU)])) rfl (by rw [hml]; rfl) (argsL := [(.ref wU)]) (rest := []) (lenOf pd_5 rfl) rfl (by show 2 * 0 + _ ≤ _; exact Nat.le_of_eq rfl) (hb hby d7_129) (fun _ _ => ⟨rfl, e3, (by decide : 0 + 1 ≤ _), (by decide : 0 + 1 ≤ _)⟩)
  dsimp only [Pt.U, Pt.locs, Pt.cells, Pt.slots] at X4 l4 y4 z4 st4 hQ4
  subst l4 y4 z4
  obtain ⟨h4, e4⟩ : ∃ h, T4.heap = h := ⟨_, rfl⟩
  rw [e4] at hQ4
  obtain ⟨b0_4, rfl, N4q, K4q, O4, n_b0_4, z_b0_4, F4_0, F4_1⟩ := hQ4
  have N4 := Fr.app N1 N4q
  have sz_b0_4 : h0.size ≤ b0_4 := Nat.le_trans K0.1 z_b0_4
  have K4 := K0.trans K4q all0
  obtain ⟨LL5, X4, N4⟩ : ∃ LL, Stand pG l eG _ _ mG _ belowG methG cG T4 LL 1 1 ∧ Fr n0 LL := ⟨_, X4, N4⟩
  refine ob T4 (mkF mG 132 #[oa wB, oi (0 : Int32), oa wU] [(.ref b0_4)]) (fun _ kk => st4 _ kk) ?_
  obtain ⟨fs, hr, hrun, hended, hW, hsame⟩ := X4.leave (v := some (.ref b0_4)) (fun h => by rw [Bd.returns] at h; cases h)
  refine oout (oretA X4 hx Bd.returns rfl rfl (hb hby d7_132) hr) hrun hended ⟨_, _, rfl, ?_, ⟨_, rfl⟩, hW, hsame.mono (by decide) (by decide)⟩
  show Q_rm_ap1_0 Z wA wD wG wU wV wN wB wC wF wE wO k_1 k_2  h0 n0 _ T4.heap _
  rw [e4]
  exact ⟨b0_4, rfl, N4, K4, O4, n_b0_4, sz_b0_4, F4_0, F4_1⟩

def Q_rm_ap1_1 (Z : State) (wA wD wG wU wV wN wB wC wF wE wO : Addr) (k_1 k_2 : ClassId)  (h0 : Heap) (n0 : Nat) (v : Option Value) (h : Heap) (L : List Loc) : Prop := ∃ (b0 : Addr), v = some (.ref b0) ∧ Fr n0 L ∧ Keep h0 h [] ∧ Old Z n0 h ∧ n0 ≤ b0 ∧ h0.size ≤ b0 ∧ Exa Z h b0 "java/util/Optional" ∧ Fld Z h b0 "java/util/Optional" "value" "Ljava/lang/Object;" (.ref wU)
set_option maxRecDepth 65536 in
set_option maxHeartbeats 40000000 in
theorem rm_ap1_1 (l : Launch) (Z : State) (a0 : Array Value) (hw : ∀ d ∈ tables_1, d.before a0 Z = true) (ws : List Jvm.Cond) (wA wD wG wU wV wN wB wC wF wE wO : Addr) (k_1 k_2 : ClassId)  (h0 : Heap) (n0 : Nat) (O0 : Old Z n0 h0) (hS : St0 Z wA wD wG wU wV wN wB wC wF wE wO k_1 k_2 ) :
    MetFree l (⟨"com/example/vorgang/vorgang/model/Policy", "apply", "(Z)Ljava/util/Optional;"⟩ : MethodName) (head1 (Jvm.Cond.code (⟨"com/example/vorgang/vorgang/model/Policy", "apply", "(Z)Ljava/util/Optional;"⟩ : MethodName) prog_19_method_4_code 3 (some (.object "java/util/Optional")) :: ws) ({ frames := 3, cells := 1, slots := 1, locals := 60 } : Room)) (fun aG UG => aG = #[(.ref wB), (.int (1 : Int32))] ∧ Z.Warmed39 UG.vm ∧ UG.heap = h0) (fun _ _ _ _ _ => True) (fun _ UG oG UG' => ∃ vG LG, oG = .returned vG ∧ Q_rm_ap1_1 Z wA wD wG wU wV wN wB wC wF wE wO k_1 k_2  h0 n0 vG UG'.heap LG ∧ FrameEnd UG oG UG' LG ({ frames := 3, cells := 1, slots := 1, locals := 60 } : Room).cells ({ frames := 3, cells := 1, slots := 1, locals := 60 } : Room).slots) := by
  refine MetFree.of_bodySF (plainFor_of_name pn_5) hisR ?_
  intro pG eG sG mG argsG belowG methG cG s₁ Bd hml0 hP hK
  obtain ⟨rfl, hZ, hh⟩ := hP
  have hx := Bd.exec
  have hby := Bd.bytes
  have hml : cG.maxLocals = 3 := hml0
  have hown : sG.vm.findClass "com/example/vorgang/vorgang/model/Policy" = some mG.cls := findClass_of_methodNamed Bd.named
  have hnm := (name_of_methodNamed Bd.named Bd.method).1
  have X0 : Stand pG l eG ({ frames := 3, cells := 1, slots := 1, locals := 60 } : Room) sG mG #[(.ref wB), (.int (1 : Int32))] belowG methG cG s₁ [] 0 0 := Stand.of_body Bd
  have e0 : s₁.heap = h0 := by rw [← hh, Bd.state]; rfl
  have N0 := Fr.nil n0
  have K0 := Keep.refl h0 []
  obtain ⟨S_wA, E_wA, S_wD, E_wD, S_wG, E_wG, S_wU, E_wU, S_wV, E_wV, S_wN, E_wN, S_wB, E_wB, S_wC, E_wC, S_wF, E_wF, S_wE, E_wE, S_wO, E_wO, F_wA_ordinal, F_wG_ordinal, F_wD_ordinal, F_wU_ordinal, F_wV_ordinal, F_wN_ordinal, F_wB_ordinal, F_wC_ordinal, F_wF_ordinal, F_wE_ordinal, F_wO_value, L_1, L_2, ne_wA_wG, ne_wA_wD, ne_wA_wB, ne_wA_wC, ne_wA_wF, ne_wA_wE, ne_wG_wD, ne_wG_wB, ne_wG_wC, ne_wG_wF, ne_wG_wE, ne_wD_wB, ne_wD_wC, ne_wD_wF, ne_wD_wE, ne_wU_wV, ne_wU_wN, ne_wV_wN, ne_wB_wC, ne_wB_wF, ne_wB_wE, ne_wC_wF, ne_wC_wE, ne_wF_wE⟩ := (id hS : St0 Z wA wD wG wU wV wN wB wC wF wE wO k_1 k_2 )
  refine ostart (g' := (mkF mG 0 #[oa wB, oi (1 : Int32), .unset] [])) (by first | (simp [entryFrame, mkF, argsToLocals, Value.category]; done) | rfl) ?_
  refine ob s₁ (mkF mG 1 #[oa wB, oi (1 : Int32), .unset] [(.ref wB)]) (fun _ kk => XS.aloadN X0.here hx rfl (hb hby d7_0) rfl rfl kk) ?_
  obtain ⟨cq1, kq1, q1a, q1b, q1c⟩ := isOf hZ e0 (E_wB.ext O0.2)
  obtain ⟨_, _, ⟨T1, L1, k1, n1⟩, -, X1, ⟨Lc1, hQ1, l1, y1, z1⟩, st1⟩ := X0.virtualBackUp hx (x := (⟨"com/example/vorgang/vorgang/model/Policy", "ordinal", "()I"⟩ : MethodName)) (y := (⟨"java/lang/Enum", "ordinal", "()I"⟩ : MethodName)) (owner := "java/lang/Enum") hown (mvT hZ (ow hw 53 rfl)) (mvT hZ (ow hw 54 rfl)) (mvT hZ (ow hw 55 rfl)) (by decide) (mvT hZ (ow hw 57 rfl)) (mvT hZ (ow hw 56 rfl)) (backOf (W := 0) (rm_ord l Z a0 hw [] wA wD wG wU wV wN wB wC wF wE wO k_1 k_2 wB (1 : Int32) h0 n0 O0 hS (F_wB_ordinal.ext O0.2)) hZ (ow hw 59 rfl) (ow hw 58 rfl) (by decide) (by decide)) q1a q1c (g := (mkF mG 1 #[oa wB, oi (1 : Int32), .unset] [(.ref wB)])) rfl (by rw [hml]; rfl) (Steps.refl _) (argsL := []) (rest := []) (lenOf pd_4 rfl) rfl (by show 2 * 0 + _ ≤ _; exact Nat.le_of_eq rfl) (hb hby d7_1) (fun _ _ => ⟨rfl, e0, (by decide : 0 + 0 ≤ _), (by decide : 0 + 0 ≤ _)⟩)
  dsimp only [Pt.U, Pt.locs, Pt.cells, Pt.slots] at X1 l1 y1 z1 st1 hQ1
  subst l1 y1 z1
  obtain ⟨rfl, N1q, e1⟩ := hQ1
  have N1 := Fr.app N0 N1q
  obtain ⟨LL2, X1, N1⟩ : ∃ LL, Stand pG l eG _ _ mG _ belowG methG cG T1 LL 0 0 ∧ Fr n0 LL := ⟨_, X1, N1⟩
  refine ob T1 (mkF mG 4 #[oa wB, oi (1 : Int32), .unset] [(.int (1 : Int32))]) (fun _ kk => st1.trans kk) ?_
  refine ob T1 (mkF mG 74 #[oa wB, oi (1 : Int32), .unset] []) (fun _ kk => XS.tswIn X1.here hx rfl (pc0 := 4) (pc' := 74) rfl (hb hby d7_4) rfl (by decide) (o := 70) (by decide) (by decide) (by decide) kk) ?_
  obtain ⟨T3, X3, e3, st3⟩ := getS2 X1 hx hZ hown (host := "") (Or.inl (ow hw 62 rfl)) Via.refl e1 (S_wU.ext O0.2) (g := (mkF mG 74 #[oa wB, oi (1 : Int32), .unset] [])) rfl (hb hby d7_74)
  refine ob T3 (mkF mG 77 #[oa wB, oi (1 : Int32), .unset] [(.ref wU)]) (fun _ kk => st3 _ kk) ?_
  refine ob T3 (mkF mG 127 #[oa wB, oi (1 : Int32), .unset] [(.ref wU)]) (fun _ kk => XS.goto X3.here hx rfl (pc0 := 77) (pc' := 127) rfl (hb hby d7_77) (by decide) (by decide) kk) ?_
  refine ob T3 (mkF mG 128 #[oa wB, oi (1 : Int32), oa wU] []) (fun _ kk => XS.astoreN X3.here hx rfl (hb hby d7_127) rfl rfl (l' := #[oa wB, oi (1 : Int32), oa wU]) rfl kk) ?_
  refine ob T3 (mkF mG 129 #[oa wB, oi (1 : Int32), oa wU] [(.ref wU)]) (fun _ kk => XS.aloadN X3.here hx rfl (hb hby d7_128) rfl rfl kk) ?_
  obtain ⟨_, _, ⟨T4, L4, k4, n4⟩, -, X4, ⟨Lc4, hQ4, l4, y4, z4⟩, st4⟩ := Jvm.LawKit.callS X3 hx (y := (⟨"java/util/Optional", "ofNullable", "(Ljava/lang/Object;)Ljava/util/Optional;"⟩ : MethodName)) hown (mvT hZ (ow hw 65 rfl)) (mvT hZ (ow hw 66 rfl)) (mvT hZ (ow hw 67 rfl)) (mvT hZ (ow hw 68 rfl)) (by decide) (backOf (W := 0) (rm_onS l Z a0 hw [] wA wD wG wU wV wN wB wC wF wE wO k_1 k_2 wU h0 n0 O0 hS ) hZ (ow hw 68 rfl) (ow hw 67 rfl) (by decide) (by decide)) (g := (mkF mG 129 #[oa wB, oi (1 : Int32), oa wU] [(.ref wU)])) rfl (by rw [hml]; rfl) (argsL := [(.ref wU)]) (rest := []) (lenOf pd_5 rfl) rfl (by show 2 * 0 + _ ≤ _; exact Nat.le_of_eq rfl) (hb hby d7_129) (fun _ _ => ⟨rfl, e3, (by decide : 0 + 1 ≤ _), (by decide : 0 + 1 ≤ _)⟩)
  dsimp only [Pt.U, Pt.locs, Pt.cells, Pt.slots] at X4 l4 y4 z4 st4 hQ4
  subst l4 y4 z4
  obtain ⟨h4, e4⟩ : ∃ h, T4.heap = h := ⟨_, rfl⟩
  rw [e4] at hQ4
  obtain ⟨b0_4, rfl, N4q, K4q, O4, n_b0_4, z_b0_4, F4_0, F4_1⟩ := hQ4
  have N4 := Fr.app N1 N4q
  have sz_b0_4 : h0.size ≤ b0_4 := Nat.le_trans K0.1 z_b0_4
  have K4 := K0.trans K4q all0
  obtain ⟨LL5, X4, N4⟩ : ∃ LL, Stand pG l eG _ _ mG _ belowG methG cG T4 LL 1 1 ∧ Fr n0 LL := ⟨_, X4, N4⟩
  refine ob T4 (mkF mG 132 #[oa wB, oi (1 : Int32), oa wU] [(.ref b0_4)]) (fun _ kk => st4 _ kk) ?_
  obtain ⟨fs, hr, hrun, hended, hW, hsame⟩ := X4.leave (v := some (.ref b0_4)) (fun h => by rw [Bd.returns] at h; cases h)
  refine oout (oretA X4 hx Bd.returns rfl rfl (hb hby d7_132) hr) hrun hended ⟨_, _, rfl, ?_, ⟨_, rfl⟩, hW, hsame.mono (by decide) (by decide)⟩
  show Q_rm_ap1_1 Z wA wD wG wU wV wN wB wC wF wE wO k_1 k_2  h0 n0 _ T4.heap _
  rw [e4]
  exact ⟨b0_4, rfl, N4, K4, O4, n_b0_4, sz_b0_4, F4_0, F4_1⟩

theorem d7_80 : decode prog_19_method_4_code 80 = .ok (.iload_n 1, 1) := by decide +kernel
theorem d7_81 : decode prog_19_method_4_code 81 = .ok (.ifCond .eq 9, 3) := by decide +kernel
theorem d7_90 : decode prog_19_method_4_code 90 = .ok (.getstatic 62, 3) := by decide +kernel
theorem d7_93 : decode prog_19_method_4_code 93 = .ok (.goto 34, 3) := by decide +kernel
def Q_rm_ap2_0 (Z : State) (wA wD wG wU wV wN wB wC wF wE wO : Addr) (k_1 k_2 : ClassId)  (h0 : Heap) (n0 : Nat) (v : Option Value) (h : Heap) (L : List Loc) : Prop := ∃ (b0 : Addr), v = some (.ref b0) ∧ Fr n0 L ∧ Keep h0 h [] ∧ Old Z n0 h ∧ n0 ≤ b0 ∧ h0.size ≤ b0 ∧ Exa Z h b0 "java/util/Optional" ∧ Fld Z h b0 "java/util/Optional" "value" "Ljava/lang/Object;" (.ref wN)
set_option maxRecDepth 65536 in
set_option maxHeartbeats 40000000 in
theorem rm_ap2_0 (l : Launch) (Z : State) (a0 : Array Value) (hw : ∀ d ∈ tables_1, d.before a0 Z = true) (ws : List Jvm.Cond) (wA wD wG wU wV wN wB wC wF wE wO : Addr) (k_1 k_2 : ClassId)  (h0 : Heap) (n0 : Nat) (O0 : Old Z n0 h0) (hS : St0 Z wA wD wG wU wV wN wB wC wF wE wO k_1 k_2 ) :
    MetFree l (⟨"com/example/vorgang/vorgang/model/Policy", "apply", "(Z)Ljava/util/Optional;"⟩ : MethodName) (head1 (Jvm.Cond.code (⟨"com/example/vorgang/vorgang/model/Policy", "apply", "(Z)Ljava/util/Optional;"⟩ : MethodName) prog_19_method_4_code 3 (some (.object "java/util/Optional")) :: ws) ({ frames := 3, cells := 1, slots := 1, locals := 60 } : Room)) (fun aG UG => aG = #[(.ref wC), (.int (0 : Int32))] ∧ Z.Warmed39 UG.vm ∧ UG.heap = h0) (fun _ _ _ _ _ => True) (fun _ UG oG UG' => ∃ vG LG, oG = .returned vG ∧ Q_rm_ap2_0 Z wA wD wG wU wV wN wB wC wF wE wO k_1 k_2  h0 n0 vG UG'.heap LG ∧ FrameEnd UG oG UG' LG ({ frames := 3, cells := 1, slots := 1, locals := 60 } : Room).cells ({ frames := 3, cells := 1, slots := 1, locals := 60 } : Room).slots) := by
  refine MetFree.of_bodySF (plainFor_of_name pn_5) hisR ?_
  intro pG eG sG mG argsG belowG methG cG s₁ Bd hml0 hP hK
  obtain ⟨rfl, hZ, hh⟩ := hP
  have hx := Bd.exec
  have hby := Bd.bytes
  have hml : cG.maxLocals = 3 := hml0
  have hown : sG.vm.findClass "com/example/vorgang/vorgang/model/Policy" = some mG.cls := findClass_of_methodNamed Bd.named
  have hnm := (name_of_methodNamed Bd.named Bd.method).1
  have X0 : Stand pG l eG ({ frames := 3, cells := 1, slots := 1, locals := 60 } : Room) sG mG #[(.ref wC), (.int (0 : Int32))] belowG methG cG s₁ [] 0 0 := Stand.of_body Bd
  have e0 : s₁.heap = h0 := by rw [← hh, Bd.state]; rfl
  have N0 := Fr.nil n0
  have K0 := Keep.refl h0 []
  obtain ⟨S_wA, E_wA, S_wD, E_wD, S_wG, E_wG, S_wU, E_wU, S_wV, E_wV, S_wN, E_wN, S_wB, E_wB, S_wC, E_wC, S_wF, E_wF, S_wE, E_wE, S_wO, E_wO, F_wA_ordinal, F_wG_ordinal, F_wD_ordinal, F_wU_ordinal, F_wV_ordinal, F_wN_ordinal, F_wB_ordinal, F_wC_ordinal, F_wF_ordinal, F_wE_ordinal, F_wO_value, L_1, L_2, ne_wA_wG, ne_wA_wD, ne_wA_wB, ne_wA_wC, ne_wA_wF, ne_wA_wE, ne_wG_wD, ne_wG_wB, ne_wG_wC, ne_wG_wF, ne_wG_wE, ne_wD_wB, ne_wD_wC, ne_wD_wF, ne_wD_wE, ne_wU_wV, ne_wU_wN, ne_wV_wN, ne_wB_wC, ne_wB_wF, ne_wB_wE, ne_wC_wF, ne_wC_wE, ne_wF_wE⟩ := (id hS : St0 Z wA wD wG wU wV wN wB wC wF wE wO k_1 k_2 )
  refine ostart (g' := (mkF mG 0 #[oa wC, oi (0 : Int32), .unset] [])) (by first | (simp [entryFrame, mkF, argsToLocals, Value.category]; done) | rfl) ?_
  refine ob s₁ (mkF mG 1 #[oa wC, oi (0 : Int32), .unset] [(.ref wC)]) (fun _ kk => XS.aloadN X0.here hx rfl (hb hby d7_0) rfl rfl kk) ?_
  obtain ⟨cq1, kq1, q1a, q1b, q1c⟩ := isOf hZ e0 (E_wC.ext O0.2)
  obtain ⟨_, _, ⟨T1, L1, k1, n1⟩, -, X1, ⟨Lc1, hQ1, l1, y1, z1⟩, st1⟩ := X0.virtualBackUp hx (x := (⟨"com/example/vorgang/vorgang/model/Policy", "ordinal", "()I"⟩ : MethodName)) (y := (⟨"java/lang/Enum", "ordinal", "()I"⟩ : MethodName)) (owner := "java/lang/Enum") hown (mvT hZ (ow hw 53 rfl)) (mvT hZ (ow hw 54 rfl)) (mvT hZ (ow hw 55 rfl)) (by decide) (mvT hZ (ow hw 57 rfl)) (mvT hZ (ow hw 56 rfl)) (backOf (W := 0) (rm_ord l Z a0 hw [] wA wD wG wU wV wN wB wC wF wE wO k_1 k_2 wC (2 : Int32) h0 n0 O0 hS (F_wC_ordinal.ext O0.2)) hZ (ow hw 59 rfl) (ow hw 58 rfl) (by decide) (by decide)) q1a q1c (g := (mkF mG 1 #[oa wC, oi (0 : Int32), .unset] [(.ref wC)])) rfl (by rw [hml]; rfl) (Steps.refl _) (argsL := []) (rest := []) (lenOf pd_4 rfl) rfl (by show 2 * 0 + _ ≤ _; exact Nat.le_of_eq rfl) (hb hby d7_1) (fun _ _ => ⟨rfl, e0, (by decide : 0 + 0 ≤ _), (by decide : 0 + 0 ≤ _)⟩)
  dsimp only [Pt.U, Pt.locs, Pt.cells, Pt.slots] at X1 l1 y1 z1 st1 hQ1
  subst l1 y1 z1
  obtain ⟨rfl, N1q, e1⟩ := hQ1
  have N1 := Fr.app N0 N1q
  obtain ⟨LL2, X1, N1⟩ : ∃ LL, Stand pG l eG _ _ mG _ belowG methG cG T1 LL 0 0 ∧ Fr n0 LL := ⟨_, X1, N1⟩
  refine ob T1 (mkF mG 4 #[oa wC, oi (0 : Int32), .unset] [(.int (2 : Int32))]) (fun _ kk => st1.trans kk) ?_
  refine ob T1 (mkF mG 80 #[oa wC, oi (0 : Int32), .unset] []) (fun _ kk => XS.tswIn X1.here hx rfl (pc0 := 4) (pc' := 80) rfl (hb hby d7_4) rfl (by decide) (o := 76) (by decide) (by decide) (by decide) kk) ?_
  refine ob T1 (mkF mG 81 #[oa wC, oi (0 : Int32), .unset] [(.int (0 : Int32))]) (fun _ kk => XS.iloadN X1.here hx rfl (hb hby d7_80) rfl kk) ?_
  refine ob T1 (mkF mG 90 #[oa wC, oi (0 : Int32), .unset] []) (fun _ kk => XS.ifYes X1.here hx rfl (pc0 := 81) (pc' := 90) rfl (hb hby d7_81) rfl ((if0 _ _).trans (teq (by decide : (0 : Int32) = (0 : Int32))).1) (by decide) (by decide) kk) ?_
  obtain ⟨T3, X3, e3, st3⟩ := getS2 X1 hx hZ hown (host := "") (Or.inl (ow hw 106 rfl)) Via.refl e1 (S_wN.ext O0.2) (g := (mkF mG 90 #[oa wC, oi (0 : Int32), .unset] [])) rfl (hb hby d7_90)
  refine ob T3 (mkF mG 93 #[oa wC, oi (0 : Int32), .unset] [(.ref wN)]) (fun _ kk => st3 _ kk) ?_
  refine ob T3 (mkF mG 127 #[oa wC, oi (0 : Int32), .unset] [(.ref wN)]) (fun _ kk => XS.goto X3.here hx rfl (pc0 := 93) (pc' := 127) rfl (hb hby d7_93) (by decide) (by decide) kk) ?_
  refine ob T3 (mkF mG 128 #[oa wC, oi (0 : Int32), oa wN] []) (fun _ kk => XS.astoreN X3.here hx rfl (hb hby d7_127) rfl rfl (l' := #[oa wC, oi (0 : Int32), oa wN]) rfl kk) ?_
  refine ob T3 (mkF mG 129 #[oa wC, oi (0 : Int32), oa wN] [(.ref wN)]) (fun _ kk => XS.aloadN X3.here hx rfl (hb hby d7_128) rfl rfl kk) ?_
  obtain ⟨_, _, ⟨T4, L4, k4, n4⟩, -, X4, ⟨Lc4, hQ4, l4, y4, z4⟩, st4⟩ := Jvm.LawKit.callS X3 hx (y := (⟨"java/util/Optional", "ofNullable", "(Ljava/lang/Object;)Ljava/util/Optional;"⟩ : MethodName)) hown (mvT hZ (ow hw 65 rfl)) (mvT hZ (ow hw 66 rfl)) (mvT hZ (ow hw 67 rfl)) (mvT hZ (ow hw 68 rfl)) (by decide) (backOf (W := 0) (rm_onS l Z a0 hw [] wA wD wG wU wV wN wB wC wF wE wO k_1 k_2 wN h0 n0 O0 hS ) hZ (ow hw 68 rfl) (ow hw 67 rfl) (by decide) (by decide)) (g := (mkF mG 129 #[oa wC, oi (0 : Int32), oa wN] [(.ref wN)])) rfl (by rw [hml]; rfl) (argsL := [(.ref wN)]) (rest := []) (lenOf pd_5 rfl) rfl (by show 2 * 0 + _ ≤ _; exact Nat.le_of_eq rfl) (hb hby d7_129) (fun _ _ => ⟨rfl, e3, (by decide : 0 + 1 ≤ _), (by decide : 0 + 1 ≤ _)⟩)
  dsimp only [Pt.U, Pt.locs, Pt.cells, Pt.slots] at X4 l4 y4 z4 st4 hQ4
  subst l4 y4 z4
  obtain ⟨h4, e4⟩ : ∃ h, T4.heap = h := ⟨_, rfl⟩
  rw [e4] at hQ4
  obtain ⟨b0_4, rfl, N4q, K4q, O4, n_b0_4, z_b0_4, F4_0, F4_1⟩ := hQ4
  have N4 := Fr.app N1 N4q
  have sz_b0_4 : h0.size ≤ b0_4 := Nat.le_trans K0.1 z_b0_4
  have K4 := K0.trans K4q all0
  obtain ⟨LL5, X4, N4⟩ : ∃ LL, Stand pG l eG _ _ mG _ belowG methG cG T4 LL 1 1 ∧ Fr n0 LL := ⟨_, X4, N4⟩
  refine ob T4 (mkF mG 132 #[oa wC, oi (0 : Int32), oa wN] [(.ref b0_4)]) (fun _ kk => st4 _ kk) ?_
  obtain ⟨fs, hr, hrun, hended, hW, hsame⟩ := X4.leave (v := some (.ref b0_4)) (fun h => by rw [Bd.returns] at h; cases h)
  refine oout (oretA X4 hx Bd.returns rfl rfl (hb hby d7_132) hr) hrun hended ⟨_, _, rfl, ?_, ⟨_, rfl⟩, hW, hsame.mono (by decide) (by decide)⟩
  show Q_rm_ap2_0 Z wA wD wG wU wV wN wB wC wF wE wO k_1 k_2  h0 n0 _ T4.heap _
  rw [e4]
  exact ⟨b0_4, rfl, N4, K4, O4, n_b0_4, sz_b0_4, F4_0, F4_1⟩

theorem d7_84 : decode prog_19_method_4_code 84 = .ok (.getstatic 53, 3) := by decide +kernel
theorem d7_87 : decode prog_19_method_4_code 87 = .ok (.goto 40, 3) := by decide +kernel
def Q_rm_ap2_1 (Z : State) (wA wD wG wU wV wN wB wC wF wE wO : Addr) (k_1 k_2 : ClassId)  (h0 : Heap) (n0 : Nat) (v : Option Value) (h : Heap) (L : List Loc) : Prop := ∃ (b0 : Addr), v = some (.ref b0) ∧ Fr n0 L ∧ Keep h0 h [] ∧ Old Z n0 h ∧ n0 ≤ b0 ∧ h0.size ≤ b0 ∧ Exa Z h b0 "java/util/Optional" ∧ Fld Z h b0 "java/util/Optional" "value" "Ljava/lang/Object;" (.ref wV)
set_option maxRecDepth 65536 in
set_option maxHeartbeats 40000000 in
theorem rm_ap2_1 (l : Launch) (Z : State) (a0 : Array Value) (hw : ∀ d ∈ tables_1, d.before a0 Z = true) (ws : List Jvm.Cond) (wA wD wG wU wV wN wB wC wF wE wO : Addr) (k_1 k_2 : ClassId)  (h0 : Heap) (n0 : Nat) (O0 : Old Z n0 h0) (hS : St0 Z wA wD wG wU wV wN wB wC wF wE wO k_1 k_2 ) :
    MetFree l (⟨"com/example/vorgang/vorgang/model/Policy", "apply", "(Z)Ljava/util/Optional;"⟩ : MethodName) (head1 (Jvm.Cond.code (⟨"com/example/vorgang/vorgang/model/Policy", "apply", "(Z)Ljava/util/Optional;"⟩ : MethodName) prog_19_method_4_code 3 (some (.object "java/util/Optional")) :: ws) ({ frames := 3, cells := 1, slots := 1, locals := 60 } : Room)) (fun aG UG => aG = #[(.ref wC), (.int (1 : Int32))] ∧ Z.Warmed39 UG.vm ∧ UG.heap = h0) (fun _ _ _ _ _ => True) (fun _ UG oG UG' => ∃ vG LG, oG = .returned vG ∧ Q_rm_ap2_1 Z wA wD wG wU wV wN wB wC wF wE wO k_1 k_2  h0 n0 vG UG'.heap LG ∧ FrameEnd UG oG UG' LG ({ frames := 3, cells := 1, slots := 1, locals := 60 } : Room).cells ({ frames := 3, cells := 1, slots := 1, locals := 60 } : Room).slots) := by
  refine MetFree.of_bodySF (plainFor_of_name pn_5) hisR ?_
  intro pG eG sG mG argsG belowG methG cG s₁ Bd hml0 hP hK
  obtain ⟨rfl, hZ, hh⟩ := hP
  have hx := Bd.exec
  have hby := Bd.bytes
  have hml : cG.maxLocals = 3 := hml0
  have hown : sG.vm.findClass "com/example/vorgang/vorgang/model/Policy" = some mG.cls := findClass_of_methodNamed Bd.named
  have hnm := (name_of_methodNamed Bd.named Bd.method).1
  have X0 : Stand pG l eG ({ frames := 3, cells := 1, slots := 1, locals := 60 } : Room) sG mG #[(.ref wC), (.int (1 : Int32))] belowG methG cG s₁ [] 0 0 := Stand.of_body Bd
  have e0 : s₁.heap = h0 := by rw [← hh, Bd.state]; rfl
  have N0 := Fr.nil n0
  have K0 := Keep.refl h0 []
  obtain ⟨S_wA, E_wA, S_wD, E_wD, S_wG, E_wG, S_wU, E_wU, S_wV, E_wV, S_wN, E_wN, S_wB, E_wB, S_wC, E_wC, S_wF, E_wF, S_wE, E_wE, S_wO, E_wO, F_wA_ordinal, F_wG_ordinal, F_wD_ordinal, F_wU_ordinal, F_wV_ordinal, F_wN_ordinal, F_wB_ordinal, F_wC_ordinal, F_wF_ordinal, F_wE_ordinal, F_wO_value, L_1, L_2, ne_wA_wG, ne_wA_wD, ne_wA_wB, ne_wA_wC, ne_wA_wF, ne_wA_wE, ne_wG_wD, ne_wG_wB, ne_wG_wC, ne_wG_wF, ne_wG_wE, ne_wD_wB, ne_wD_wC, ne_wD_wF, ne_wD_wE, ne_wU_wV, ne_wU_wN, ne_wV_wN, ne_wB_wC, ne_wB_wF, ne_wB_wE, ne_wC_wF, ne_wC_wE, ne_wF_wE⟩ := (id hS : St0 Z wA wD wG wU wV wN wB wC wF wE wO k_1 k_2 )
  refine ostart (g' := (mkF mG 0 #[oa wC, oi (1 : Int32), .unset] [])) (by first | (simp [entryFrame, mkF, argsToLocals, Value.category]; done) | rfl) ?_
  refine ob s₁ (mkF mG 1 #[oa wC, oi (1 : Int32), .unset] [(.ref wC)]) (fun _ kk => XS.aloadN X0.here hx rfl (hb hby d7_0) rfl rfl kk) ?_
  obtain ⟨cq1, kq1, q1a, q1b, q1c⟩ := isOf hZ e0 (E_wC.ext O0.2)
  obtain ⟨_, _, ⟨T1, L1, k1, n1⟩, -, X1, ⟨Lc1, hQ1, l1, y1, z1⟩, st1⟩ := X0.virtualBackUp hx (x := (⟨"com/example/vorgang/vorgang/model/Policy", "ordinal", "()I"⟩ : MethodName)) (y := (⟨"java/lang/Enum", "ordinal", "()I"⟩ : MethodName)) (owner := "java/lang/Enum") hown (mvT hZ (ow hw 53 rfl)) (mvT hZ (ow hw 54 rfl)) (mvT hZ (ow hw 55 rfl)) (by decide) (mvT hZ (ow hw 57 rfl)) (mvT hZ (ow hw 56 rfl)) (backOf (W := 0) (rm_ord l Z a0 hw [] wA wD wG wU wV wN wB wC wF wE wO k_1 k_2 wC (2 : Int32) h0 n0 O0 hS (F_wC_ordinal.ext O0.2)) hZ (ow hw 59 rfl) (ow hw 58 rfl) (by decide) (by decide)) q1a q1c (g := (mkF mG 1 #[oa wC, oi (1 : Int32), .unset] [(.ref wC)])) rfl (by rw [hml]; rfl) (Steps.refl _) (argsL := []) (rest := []) (lenOf pd_4 rfl) rfl (by show 2 * 0 + _ ≤ _; exact Nat.le_of_eq rfl) (hb hby d7_1) (fun _ _ => ⟨rfl, e0, (by decide : 0 + 0 ≤ _), (by decide : 0 + 0 ≤ _)⟩)
  dsimp only [Pt.U, Pt.locs, Pt.cells, Pt.slots] at X1 l1 y1 z1 st1 hQ1
  subst l1 y1 z1
  obtain ⟨rfl, N1q, e1⟩ := hQ1
  have N1 := Fr.app N0 N1q
  obtain ⟨LL2, X1, N1⟩ : ∃ LL, Stand pG l eG _ _ mG _ belowG methG cG T1 LL 0 0 ∧ Fr n0 LL := ⟨_, X1, N1⟩
  refine ob T1 (mkF mG 4 #[oa wC, oi (1 : Int32), .unset] [(.int (2 : Int32))]) (fun _ kk => st1.trans kk) ?_
  refine ob T1 (mkF mG 80 #[oa wC, oi (1 : Int32), .unset] []) (fun _ kk => XS.tswIn X1.here hx rfl (pc0 := 4) (pc' := 80) rfl (hb hby d7_4) rfl (by decide) (o := 76) (by decide) (by decide) (by decide) kk) ?_
  refine ob T1 (mkF mG 81 #[oa wC, oi (1 : Int32), .unset] [(.int (1 : Int32))]) (fun _ kk => XS.iloadN X1.here hx rfl (hb hby d7_80) rfl kk) ?_
  refine ob T1 (mkF mG 84 #[oa wC, oi (1 : Int32), .unset] []) (fun _ kk => XS.ifNo X1.here hx rfl (hb hby d7_81) rfl ((if0 _ _).trans (feq (by decide : ¬ ((1 : Int32) = (0 : Int32)))).1) kk) ?_
  obtain ⟨T3, X3, e3, st3⟩ := getS2 X1 hx hZ hown (host := "") (Or.inl (ow hw 171 rfl)) Via.refl e1 (S_wV.ext O0.2) (g := (mkF mG 84 #[oa wC, oi (1 : Int32), .unset] [])) rfl (hb hby d7_84)
  refine ob T3 (mkF mG 87 #[oa wC, oi (1 : Int32), .unset] [(.ref wV)]) (fun _ kk => st3 _ kk) ?_
  refine ob T3 (mkF mG 127 #[oa wC, oi (1 : Int32), .unset] [(.ref wV)]) (fun _ kk => XS.goto X3.here hx rfl (pc0 := 87) (pc' := 127) rfl (hb hby d7_87) (by decide) (by decide) kk) ?_
  refine ob T3 (mkF mG 128 #[oa wC, oi (1 : Int32), oa wV] []) (fun _ kk => XS.astoreN X3.here hx rfl (hb hby d7_127) rfl rfl (l' := #[oa wC, oi (1 : Int32), oa wV]) rfl kk) ?_
  refine ob T3 (mkF mG 129 #[oa wC, oi (1 : Int32), oa wV] [(.ref wV)]) (fun _ kk => XS.aloadN X3.here hx rfl (hb hby d7_128) rfl rfl kk) ?_
  obtain ⟨_, _, ⟨T4, L4, k4, n4⟩, -, X4, ⟨Lc4, hQ4, l4, y4, z4⟩, st4⟩ := Jvm.LawKit.callS X3 hx (y := (⟨"java/util/Optional", "ofNullable", "(Ljava/lang/Object;)Ljava/util/Optional;"⟩ : MethodName)) hown (mvT hZ (ow hw 65 rfl)) (mvT hZ (ow hw 66 rfl)) (mvT hZ (ow hw 67 rfl)) (mvT hZ (ow hw 68 rfl)) (by decide) (backOf (W := 0) (rm_onS l Z a0 hw [] wA wD wG wU wV wN wB wC wF wE wO k_1 k_2 wV h0 n0 O0 hS ) hZ (ow hw 68 rfl) (ow hw 67 rfl) (by decide) (by decide)) (g := (mkF mG 129 #[oa wC, oi (1 : Int32), oa wV] [(.ref wV)])) rfl (by rw [hml]; rfl) (argsL := [(.ref wV)]) (rest := []) (lenOf pd_5 rfl) rfl (by show 2 * 0 + _ ≤ _; exact Nat.le_of_eq rfl) (hb hby d7_129) (fun _ _ => ⟨rfl, e3, (by decide : 0 + 1 ≤ _), (by decide : 0 + 1 ≤ _)⟩)
  dsimp only [Pt.U, Pt.locs, Pt.cells, Pt.slots] at X4 l4 y4 z4 st4 hQ4
  subst l4 y4 z4
  obtain ⟨h4, e4⟩ : ∃ h, T4.heap = h := ⟨_, rfl⟩
  rw [e4] at hQ4
  obtain ⟨b0_4, rfl, N4q, K4q, O4, n_b0_4, z_b0_4, F4_0, F4_1⟩ := hQ4
  have N4 := Fr.app N1 N4q
  have sz_b0_4 : h0.size ≤ b0_4 := Nat.le_trans K0.1 z_b0_4
  have K4 := K0.trans K4q all0
  obtain ⟨LL5, X4, N4⟩ : ∃ LL, Stand pG l eG _ _ mG _ belowG methG cG T4 LL 1 1 ∧ Fr n0 LL := ⟨_, X4, N4⟩
  refine ob T4 (mkF mG 132 #[oa wC, oi (1 : Int32), oa wV] [(.ref b0_4)]) (fun _ kk => st4 _ kk) ?_
  obtain ⟨fs, hr, hrun, hended, hW, hsame⟩ := X4.leave (v := some (.ref b0_4)) (fun h => by rw [Bd.returns] at h; cases h)
  refine oout (oretA X4 hx Bd.returns rfl rfl (hb hby d7_132) hr) hrun hended ⟨_, _, rfl, ?_, ⟨_, rfl⟩, hW, hsame.mono (by decide) (by decide)⟩
  show Q_rm_ap2_1 Z wA wD wG wU wV wN wB wC wF wE wO k_1 k_2  h0 n0 _ T4.heap _
  rw [e4]
  exact ⟨b0_4, rfl, N4, K4, O4, n_b0_4, sz_b0_4, F4_0, F4_1⟩

theorem d7_96 : decode prog_19_method_4_code 96 = .ok (.getstatic 62, 3) := by decide +kernel
theorem d7_99 : decode prog_19_method_4_code 99 = .ok (.goto 28, 3) := by decide +kernel
def Q_rm_ap3_0 (Z : State) (wA wD wG wU wV wN wB wC wF wE wO : Addr) (k_1 k_2 : ClassId)  (h0 : Heap) (n0 : Nat) (v : Option Value) (h : Heap) (L : List Loc) : Prop := ∃ (b0 : Addr), v = some (.ref b0) ∧ Fr n0 L ∧ Keep h0 h [] ∧ Old Z n0 h ∧ n0 ≤ b0 ∧ h0.size ≤ b0 ∧ Exa Z h b0 "java/util/Optional" ∧ Fld Z h b0 "java/util/Optional" "value" "Ljava/lang/Object;" (.ref wN)
set_option maxRecDepth 65536 in
set_option maxHeartbeats 40000000 in
theorem rm_ap3_0 (l : Launch) (Z : State) (a0 : Array Value) (hw : ∀ d ∈ tables_1, d.before a0 Z = true) (ws : List Jvm.Cond) (wA wD wG wU wV wN wB wC wF wE wO : Addr) (k_1 k_2 : ClassId)  (h0 : Heap) (n0 : Nat) (O0 : Old Z n0 h0) (hS : St0 Z wA wD wG wU wV wN wB wC wF wE wO k_1 k_2 ) :
    MetFree l (⟨"com/example/vorgang/vorgang/model/Policy", "apply", "(Z)Ljava/util/Optional;"⟩ : MethodName) (head1 (Jvm.Cond.code (⟨"com/example/vorgang/vorgang/model/Policy", "apply", "(Z)Ljava/util/Optional;"⟩ : MethodName) prog_19_method_4_code 3 (some (.object "java/util/Optional")) :: ws) ({ frames := 3, cells := 1, slots := 1, locals := 60 } : Room)) (fun aG UG => aG = #[(.ref wD), (.int (0 : Int32))] ∧ Z.Warmed39 UG.vm ∧ UG.heap = h0) (fun _ _ _ _ _ => True) (fun _ UG oG UG' => ∃ vG LG, oG = .returned vG ∧ Q_rm_ap3_0 Z wA wD wG wU wV wN wB wC wF wE wO k_1 k_2  h0 n0 vG UG'.heap LG ∧ FrameEnd UG oG UG' LG ({ frames := 3, cells := 1, slots := 1, locals := 60 } : Room).cells ({ frames := 3, cells := 1, slots := 1, locals := 60 } : Room).slots) := by
  refine MetFree.of_bodySF (plainFor_of_name pn_5) hisR ?_
  intro pG eG sG mG argsG belowG methG cG s₁ Bd hml0 hP hK
  obtain ⟨rfl, hZ, hh⟩ := hP
  have hx := Bd.exec
  have hby := Bd.bytes
  have hml : cG.maxLocals = 3 := hml0
  have hown : sG.vm.findClass "com/example/vorgang/vorgang/model/Policy" = some mG.cls := findClass_of_methodNamed Bd.named
  have hnm := (name_of_methodNamed Bd.named Bd.method).1
  have X0 : Stand pG l eG ({ frames := 3, cells := 1, slots := 1, locals := 60 } : Room) sG mG #[(.ref wD), (.int (0 : Int32))] belowG methG cG s₁ [] 0 0 := Stand.of_body Bd
  have e0 : s₁.heap = h0 := by rw [← hh, Bd.state]; rfl
  have N0 := Fr.nil n0
  have K0 := Keep.refl h0 []
  obtain ⟨S_wA, E_wA, S_wD, E_wD, S_wG, E_wG, S_wU, E_wU, S_wV, E_wV, S_wN, E_wN, S_wB, E_wB, S_wC, E_wC, S_wF, E_wF, S_wE, E_wE, S_wO, E_wO, F_wA_ordinal, F_wG_ordinal, F_wD_ordinal, F_wU_ordinal, F_wV_ordinal, F_wN_ordinal, F_wB_ordinal, F_wC_ordinal, F_wF_ordinal, F_wE_ordinal, F_wO_value, L_1, L_2, ne_wA_wG, ne_wA_wD, ne_wA_wB, ne_wA_wC, ne_wA_wF, ne_wA_wE, ne_wG_wD, ne_wG_wB, ne_wG_wC, ne_wG_wF, ne_wG_wE, ne_wD_wB, ne_wD_wC, ne_wD_wF, ne_wD_wE, ne_wU_wV, ne_wU_wN, ne_wV_wN, ne_wB_wC, ne_wB_wF, ne_wB_wE, ne_wC_wF, ne_wC_wE, ne_wF_wE⟩ := (id hS : St0 Z wA wD wG wU wV wN wB wC wF wE wO k_1 k_2 )
  refine ostart (g' := (mkF mG 0 #[oa wD, oi (0 : Int32), .unset] [])) (by first | (simp [entryFrame, mkF, argsToLocals, Value.category]; done) | rfl) ?_
  refine ob s₁ (mkF mG 1 #[oa wD, oi (0 : Int32), .unset] [(.ref wD)]) (fun _ kk => XS.aloadN X0.here hx rfl (hb hby d7_0) rfl rfl kk) ?_
  obtain ⟨cq1, kq1, q1a, q1b, q1c⟩ := isOf hZ e0 (E_wD.ext O0.2)
  obtain ⟨_, _, ⟨T1, L1, k1, n1⟩, -, X1, ⟨Lc1, hQ1, l1, y1, z1⟩, st1⟩ := X0.virtualBackUp hx (x := (⟨"com/example/vorgang/vorgang/model/Policy", "ordinal", "()I"⟩ : MethodName)) (y := (⟨"java/lang/Enum", "ordinal", "()I"⟩ : MethodName)) (owner := "java/lang/Enum") hown (mvT hZ (ow hw 53 rfl)) (mvT hZ (ow hw 54 rfl)) (mvT hZ (ow hw 55 rfl)) (by decide) (mvT hZ (ow hw 57 rfl)) (mvT hZ (ow hw 56 rfl)) (backOf (W := 0) (rm_ord l Z a0 hw [] wA wD wG wU wV wN wB wC wF wE wO k_1 k_2 wD (3 : Int32) h0 n0 O0 hS (F_wD_ordinal.ext O0.2)) hZ (ow hw 59 rfl) (ow hw 58 rfl) (by decide) (by decide)) q1a q1c (g := (mkF mG 1 #[oa wD, oi (0 : Int32), .unset] [(.ref wD)])) rfl (by rw [hml]; rfl) (Steps.refl _) (argsL := []) (rest := []) (lenOf pd_4 rfl) rfl (by show 2 * 0 + _ ≤ _; exact Nat.le_of_eq rfl) (hb hby d7_1) (fun _ _ => ⟨rfl, e0, (by decide : 0 + 0 ≤ _), (by decide : 0 + 0 ≤ _)⟩)
  dsimp only [Pt.U, Pt.locs, Pt.cells, Pt.slots] at X1 l1 y1 z1 st1 hQ1
  subst l1 y1 z1
  obtain ⟨rfl, N1q, e1⟩ := hQ1
  have N1 := Fr.app N0 N1q
  obtain ⟨LL2, X1, N1⟩ : ∃ LL, Stand pG l eG _ _ mG _ belowG methG cG T1 LL 0 0 ∧ Fr n0 LL := ⟨_, X1, N1⟩
  refine ob T1 (mkF mG 4 #[oa wD, oi (0 : Int32), .unset] [(.int (3 : Int32))]) (fun _ kk => st1.trans kk) ?_
  refine ob T1 (mkF mG 96 #[oa wD, oi (0 : Int32), .unset] []) (fun _ kk => XS.tswIn X1.here hx rfl (pc0 := 4) (pc' := 96) rfl (hb hby d7_4) rfl (by decide) (o := 92) (by decide) (by decide) (by decide) kk) ?_
  obtain ⟨T3, X3, e3, st3⟩ := getS2 X1 hx hZ hown (host := "") (Or.inl (ow hw 106 rfl)) Via.refl e1 (S_wN.ext O0.2) (g := (mkF mG 96 #[oa wD, oi (0 : Int32), .unset] [])) rfl (hb hby d7_96)
  refine ob T3 (mkF mG 99 #[oa wD, oi (0 : Int32), .unset] [(.ref wN)]) (fun _ kk => st3 _ kk) ?_
  refine ob T3 (mkF mG 127 #[oa wD, oi (0 : Int32), .unset] [(.ref wN)]) (fun _ kk => XS.goto X3.here hx rfl (pc0 := 99) (pc' := 127) rfl (hb hby d7_99) (by decide) (by decide) kk) ?_
  refine ob T3 (mkF mG 128 #[oa wD, oi (0 : Int32), oa wN] []) (fun _ kk => XS.astoreN X3.here hx rfl (hb hby d7_127) rfl rfl (l' := #[oa wD, oi (0 : Int32), oa wN]) rfl kk) ?_
  refine ob T3 (mkF mG 129 #[oa wD, oi (0 : Int32), oa wN] [(.ref wN)]) (fun _ kk => XS.aloadN X3.here hx rfl (hb hby d7_128) rfl rfl kk) ?_
  obtain ⟨_, _, ⟨T4, L4, k4, n4⟩, -, X4, ⟨Lc4, hQ4, l4, y4, z4⟩, st4⟩ := Jvm.LawKit.callS X3 hx (y := (⟨"java/util/Optional", "ofNullable", "(Ljava/lang/Object;)Ljava/util/Optional;"⟩ : MethodName)) hown (mvT hZ (ow hw 65 rfl)) (mvT hZ (ow hw 66 rfl)) (mvT hZ (ow hw 67 rfl)) (mvT hZ (ow hw 68 rfl)) (by decide) (backOf (W := 0) (rm_onS l Z a0 hw [] wA wD wG wU wV wN wB wC wF wE wO k_1 k_2 wN h0 n0 O0 hS ) hZ (ow hw 68 rfl) (ow hw 67 rfl) (by decide) (by decide)) (g := (mkF mG 129 #[oa wD, oi (0 : Int32), oa wN] [(.ref wN)])) rfl (by rw [hml]; rfl) (argsL := [(.ref wN)]) (rest := []) (lenOf pd_5 rfl) rfl (by show 2 * 0 + _ ≤ _; exact Nat.le_of_eq rfl) (hb hby d7_129) (fun _ _ => ⟨rfl, e3, (by decide : 0 + 1 ≤ _), (by decide : 0 + 1 ≤ _)⟩)
  dsimp only [Pt.U, Pt.locs, Pt.cells, Pt.slots] at X4 l4 y4 z4 st4 hQ4
  subst l4 y4 z4
  obtain ⟨h4, e4⟩ : ∃ h, T4.heap = h := ⟨_, rfl⟩
  rw [e4] at hQ4
  obtain ⟨b0_4, rfl, N4q, K4q, O4, n_b0_4, z_b0_4, F4_0, F4_1⟩ := hQ4
  have N4 := Fr.app N1 N4q
  have sz_b0_4 : h0.size ≤ b0_4 := Nat.le_trans K0.1 z_b0_4
  have K4 := K0.trans K4q all0
  obtain ⟨LL5, X4, N4⟩ : ∃ LL, Stand pG l eG _ _ mG _ belowG methG cG T4 LL 1 1 ∧ Fr n0 LL := ⟨_, X4, N4⟩
  refine ob T4 (mkF mG 132 #[oa wD, oi (0 : Int32), oa wN] [(.ref b0_4)]) (fun _ kk => st4 _ kk) ?_
  obtain ⟨fs, hr, hrun, hended, hW, hsame⟩ := X4.leave (v := some (.ref b0_4)) (fun h => by rw [Bd.returns] at h; cases h)
  refine oout (oretA X4 hx Bd.returns rfl rfl (hb hby d7_132) hr) hrun hended ⟨_, _, rfl, ?_, ⟨_, rfl⟩, hW, hsame.mono (by decide) (by decide)⟩
  show Q_rm_ap3_0 Z wA wD wG wU wV wN wB wC wF wE wO k_1 k_2  h0 n0 _ T4.heap _
  rw [e4]
  exact ⟨b0_4, rfl, N4, K4, O4, n_b0_4, sz_b0_4, F4_0, F4_1⟩

def Q_rm_ap3_1 (Z : State) (wA wD wG wU wV wN wB wC wF wE wO : Addr) (k_1 k_2 : ClassId)  (h0 : Heap) (n0 : Nat) (v : Option Value) (h : Heap) (L : List Loc) : Prop := ∃ (b0 : Addr), v = some (.ref b0) ∧ Fr n0 L ∧ Keep h0 h [] ∧ Old Z n0 h ∧ n0 ≤ b0 ∧ h0.size ≤ b0 ∧ Exa Z h b0 "java/util/Optional" ∧ Fld Z h b0 "java/util/Optional" "value" "Ljava/lang/Object;" (.ref wN)
set_option maxRecDepth 65536 in
set_option maxHeartbeats 40000000 in
theorem rm_ap3_1 (l : Launch) (Z : State) (a0 : Array Value) (hw : ∀ d ∈ tables_1, d.before a0 Z = true) (ws : List Jvm.Cond) (wA wD wG wU wV wN wB wC wF wE wO : Addr) (k_1 k_2 : ClassId)  (h0 : Heap) (n0 : Nat) (O0 : Old Z n0 h0) (hS : St0 Z wA wD wG wU wV wN wB wC wF wE wO k_1 k_2 ) :
    MetFree l (⟨"com/example/vorgang/vorgang/model/Policy", "apply", "(Z)Ljava/util/Optional;"⟩ : MethodName) (head1 (Jvm.Cond.code (⟨"com/example/vorgang/vorgang/model/Policy", "apply", "(Z)Ljava/util/Optional;"⟩ : MethodName) prog_19_method_4_code 3 (some (.object "java/util/Optional")) :: ws) ({ frames := 3, cells := 1, slots := 1, locals := 60 } : Room)) (fun aG UG => aG = #[(.ref wD), (.int (1 : Int32))] ∧ Z.Warmed39 UG.vm ∧ UG.heap = h0) (fun _ _ _ _ _ => True) (fun _ UG oG UG' => ∃ vG LG, oG = .returned vG ∧ Q_rm_ap3_1 Z wA wD wG wU wV wN wB wC wF wE wO k_1 k_2  h0 n0 vG UG'.heap LG ∧ FrameEnd UG oG UG' LG ({ frames := 3, cells := 1, slots := 1, locals := 60 } : Room).cells ({ frames := 3, cells := 1, slots := 1, locals := 60 } : Room).slots) := by
  refine MetFree.of_bodySF (plainFor_of_name pn_5) hisR ?_
  intro pG eG sG mG argsG belowG methG cG s₁ Bd hml0 hP hK
  obtain ⟨rfl, hZ, hh⟩ := hP
  have hx := Bd.exec
  have hby := Bd.bytes
  have hml : cG.maxLocals = 3 := hml0
  have hown : sG.vm.findClass "com/example/vorgang/vorgang/model/Policy" = some mG.cls := findClass_of_methodNamed Bd.named
  have hnm := (name_of_methodNamed Bd.named Bd.method).1
  have X0 : Stand pG l eG ({ frames := 3, cells := 1, slots := 1, locals := 60 } : Room) sG mG #[(.ref wD), (.int (1 : Int32))] belowG methG cG s₁ [] 0 0 := Stand.of_body Bd
  have e0 : s₁.heap = h0 := by rw [← hh, Bd.state]; rfl
  have N0 := Fr.nil n0
  have K0 := Keep.refl h0 []
  obtain ⟨S_wA, E_wA, S_wD, E_wD, S_wG, E_wG, S_wU, E_wU, S_wV, E_wV, S_wN, E_wN, S_wB, E_wB, S_wC, E_wC, S_wF, E_wF, S_wE, E_wE, S_wO, E_wO, F_wA_ordinal, F_wG_ordinal, F_wD_ordinal, F_wU_ordinal, F_wV_ordinal, F_wN_ordinal, F_wB_ordinal, F_wC_ordinal, F_wF_ordinal, F_wE_ordinal, F_wO_value, L_1, L_2, ne_wA_wG, ne_wA_wD, ne_wA_wB, ne_wA_wC, ne_wA_wF, ne_wA_wE, ne_wG_wD, ne_wG_wB, ne_wG_wC, ne_wG_wF, ne_wG_wE, ne_wD_wB, ne_wD_wC, ne_wD_wF, ne_wD_wE, ne_wU_wV, ne_wU_wN, ne_wV_wN, ne_wB_wC, ne_wB_wF, ne_wB_wE, ne_wC_wF, ne_wC_wE, ne_wF_wE⟩ := (id hS : St0 Z wA wD wG wU wV wN wB wC wF wE wO k_1 k_2 )
  refine ostart (g' := (mkF mG 0 #[oa wD, oi (1 : Int32), .unset] [])) (by first | (simp [entryFrame, mkF, argsToLocals, Value.category]; done) | rfl) ?_
  refine ob s₁ (mkF mG 1 #[oa wD, oi (1 : Int32), .unset] [(.ref wD)]) (fun _ kk => XS.aloadN X0.here hx rfl (hb hby d7_0) rfl rfl kk) ?_
  obtain ⟨cq1, kq1, q1a, q1b, q1c⟩ := isOf hZ e0 (E_wD.ext O0.2)
  obtain ⟨_, _, ⟨T1, L1, k1, n1⟩, -, X1, ⟨Lc1, hQ1, l1, y1, z1⟩, st1⟩ := X0.virtualBackUp hx (x := (⟨"com/example/vorgang/vorgang/model/Policy", "ordinal", "()I"⟩ : MethodName)) (y := (⟨"java/lang/Enum", "ordinal", "()I"⟩ : MethodName)) (owner := "java/lang/Enum") hown (mvT hZ (ow hw 53 rfl)) (mvT hZ (ow hw 54 rfl)) (mvT hZ (ow hw 55 rfl)) (by decide) (mvT hZ (ow hw 57 rfl)) (mvT hZ (ow hw 56 rfl)) (backOf (W := 0) (rm_ord l Z a0 hw [] wA wD wG wU wV wN wB wC wF wE wO k_1 k_2 wD (3 : Int32) h0 n0 O0 hS (F_wD_ordinal.ext O0.2)) hZ (ow hw 59 rfl) (ow hw 58 rfl) (by decide) (by decide)) q1a q1c (g := (mkF mG 1 #[oa wD, oi (1 : Int32), .unset] [(.ref wD)])) rfl (by rw [hml]; rfl) (Steps.refl _) (argsL := []) (rest := []) (lenOf pd_4 rfl) rfl (by show 2 * 0 + _ ≤ _; exact Nat.le_of_eq rfl) (hb hby d7_1) (fun _ _ => ⟨rfl, e0, (by decide : 0 + 0 ≤ _), (by decide : 0 + 0 ≤ _)⟩)
  dsimp only [Pt.U, Pt.locs, Pt.cells, Pt.slots] at X1 l1 y1 z1 st1 hQ1
  subst l1 y1 z1
  obtain ⟨rfl, N1q, e1⟩ := hQ1
  have N1 := Fr.app N0 N1q
  obtain ⟨LL2, X1, N1⟩ : ∃ LL, Stand pG l eG _ _ mG _ belowG methG cG T1 LL 0 0 ∧ Fr n0 LL := ⟨_, X1, N1⟩
  refine ob T1 (mkF mG 4 #[oa wD, oi (1 : Int32), .unset] [(.int (3 : Int32))]) (fun _ kk => st1.trans kk) ?_
  refine ob T1 (mkF mG 96 #[oa wD, oi (1 : Int32), .unset] []) (fun _ kk => XS.tswIn X1.here hx rfl (pc0 := 4) (pc' := 96) rfl (hb hby d7_4) rfl (by decide) (o := 92) (by decide) (by decide) (by decide) kk) ?_
  obtain ⟨T3, X3, e3, st3⟩ := getS2 X1 hx hZ hown (host := "") (Or.inl (ow hw 106 rfl)) Via.refl e1 (S_wN.ext O0.2) (g := (mkF mG 96 #[oa wD, oi (1 : Int32), .unset] [])) rfl (hb hby d7_96)
  refine ob T3 (mkF mG 99 #[oa wD, oi (1 : Int32), .unset] [(.ref wN)]) (fun _ kk => st3 _ kk) ?_
  refine ob T3 (mkF mG 127 #[oa wD, oi (1 : Int32), .unset] [(.ref wN)]) (fun _ kk => XS.goto X3.here hx rfl (pc0 := 99) (pc' := 127) rfl (hb hby d7_99) (by decide) (by decide) kk) ?_
  refine ob T3 (mkF mG 128 #[oa wD, oi (1 : Int32), oa wN] []) (fun _ kk => XS.astoreN X3.here hx rfl (hb hby d7_127) rfl rfl (l' := #[oa wD, oi (1 : Int32), oa wN]) rfl kk) ?_
  refine ob T3 (mkF mG 129 #[oa wD, oi (1 : Int32), oa wN] [(.ref wN)]) (fun _ kk => XS.aloadN X3.here hx rfl (hb hby d7_128) rfl rfl kk) ?_
  obtain ⟨_, _, ⟨T4, L4, k4, n4⟩, -, X4, ⟨Lc4, hQ4, l4, y4, z4⟩, st4⟩ := Jvm.LawKit.callS X3 hx (y := (⟨"java/util/Optional", "ofNullable", "(Ljava/lang/Object;)Ljava/util/Optional;"⟩ : MethodName)) hown (mvT hZ (ow hw 65 rfl)) (mvT hZ (ow hw 66 rfl)) (mvT hZ (ow hw 67 rfl)) (mvT hZ (ow hw 68 rfl)) (by decide) (backOf (W := 0) (rm_onS l Z a0 hw [] wA wD wG wU wV wN wB wC wF wE wO k_1 k_2 wN h0 n0 O0 hS ) hZ (ow hw 68 rfl) (ow hw 67 rfl) (by decide) (by decide)) (g := (mkF mG 129 #[oa wD, oi (1 : Int32), oa wN] [(.ref wN)])) rfl (by rw [hml]; rfl) (argsL := [(.ref wN)]) (rest := []) (lenOf pd_5 rfl) rfl (by show 2 * 0 + _ ≤ _; exact Nat.le_of_eq rfl) (hb hby d7_129) (fun _ _ => ⟨rfl, e3, (by decide : 0 + 1 ≤ _), (by decide : 0 + 1 ≤ _)⟩)
  dsimp only [Pt.U, Pt.locs, Pt.cells, Pt.slots] at X4 l4 y4 z4 st4 hQ4
  subst l4 y4 z4
  obtain ⟨h4, e4⟩ : ∃ h, T4.heap = h := ⟨_, rfl⟩
  rw [e4] at hQ4
  obtain ⟨b0_4, rfl, N4q, K4q, O4, n_b0_4, z_b0_4, F4_0, F4_1⟩ := hQ4
  have N4 := Fr.app N1 N4q
  have sz_b0_4 : h0.size ≤ b0_4 := Nat.le_trans K0.1 z_b0_4
  have K4 := K0.trans K4q all0
  obtain ⟨LL5, X4, N4⟩ : ∃ LL, Stand pG l eG _ _ mG _ belowG methG cG T4 LL 1 1 ∧ Fr n0 LL := ⟨_, X4, N4⟩
  refine ob T4 (mkF mG 132 #[oa wD, oi (1 : Int32), oa wN] [(.ref b0_4)]) (fun _ kk => st4 _ kk) ?_
  obtain ⟨fs, hr, hrun, hended, hW, hsame⟩ := X4.leave (v := some (.ref b0_4)) (fun h => by rw [Bd.returns] at h; cases h)
  refine oout (oretA X4 hx Bd.returns rfl rfl (hb hby d7_132) hr) hrun hended ⟨_, _, rfl, ?_, ⟨_, rfl⟩, hW, hsame.mono (by decide) (by decide)⟩
  show Q_rm_ap3_1 Z wA wD wG wU wV wN wB wC wF wE wO k_1 k_2  h0 n0 _ T4.heap _
  rw [e4]
  exact ⟨b0_4, rfl, N4, K4, O4, n_b0_4, sz_b0_4, F4_0, F4_1⟩

theorem d7_102 : decode prog_19_method_4_code 102 = .ok (.iload_n 1, 1) := by decide +kernel
theorem d7_103 : decode prog_19_method_4_code 103 = .ok (.ifCond .eq 9, 3) := by decide +kernel
theorem d7_112 : decode prog_19_method_4_code 112 = .ok (.aconst_null, 1) := by decide +kernel
theorem d7_113 : decode prog_19_method_4_code 113 = .ok (.goto 14, 3) := by decide +kernel
def Q_rm_ap4_0 (Z : State) (wA wD wG wU wV wN wB wC wF wE wO : Addr) (k_1 k_2 : ClassId)  (h0 : Heap) (n0 : Nat) (v : Option Value) (h : Heap) (L : List Loc) : Prop := v = some (.ref wO) ∧ Fr n0 L ∧ h = h0
set_option maxRecDepth 65536 in
set_option maxHeartbeats 40000000 in
theorem rm_ap4_0 (l : Launch) (Z : State) (a0 : Array Value) (hw : ∀ d ∈ tables_1, d.before a0 Z = true) (ws : List Jvm.Cond) (wA wD wG wU wV wN wB wC wF wE wO : Addr) (k_1 k_2 : ClassId)  (h0 : Heap) (n0 : Nat) (O0 : Old Z n0 h0) (hS : St0 Z wA wD wG wU wV wN wB wC wF wE wO k_1 k_2 ) :
    MetFree l (⟨"com/example/vorgang/vorgang/model/Policy", "apply", "(Z)Ljava/util/Optional;"⟩ : MethodName) (head1 (Jvm.Cond.code (⟨"com/example/vorgang/vorgang/model/Policy", "apply", "(Z)Ljava/util/Optional;"⟩ : MethodName) prog_19_method_4_code 3 (some (.object "java/util/Optional")) :: ws) ({ frames := 1, cells := 0, slots := 0, locals := 12 } : Room)) (fun aG UG => aG = #[(.ref wE), (.int (0 : Int32))] ∧ Z.Warmed39 UG.vm ∧ UG.heap = h0) (fun _ _ _ _ _ => True) (fun _ UG oG UG' => ∃ vG LG, oG = .returned vG ∧ Q_rm_ap4_0 Z wA wD wG wU wV wN wB wC wF wE wO k_1 k_2  h0 n0 vG UG'.heap LG ∧ FrameEnd UG oG UG' LG ({ frames := 1, cells := 0, slots := 0, locals := 12 } : Room).cells ({ frames := 1, cells := 0, slots := 0, locals := 12 } : Room).slots) := by
  refine MetFree.of_bodySF (plainFor_of_name pn_5) hisR ?_
  intro pG eG sG mG argsG belowG methG cG s₁ Bd hml0 hP hK
  obtain ⟨rfl, hZ, hh⟩ := hP
  have hx := Bd.exec
  have hby := Bd.bytes
  have hml : cG.maxLocals = 3 := hml0
  have hown : sG.vm.findClass "com/example/vorgang/vorgang/model/Policy" = some mG.cls := findClass_of_methodNamed Bd.named
  have hnm := (name_of_methodNamed Bd.named Bd.method).1
  have X0 : Stand pG l eG ({ frames := 1, cells := 0, slots := 0, locals := 12 } : Room) sG mG #[(.ref wE), (.int (0 : Int32))] belowG methG cG s₁ [] 0 0 := Stand.of_body Bd
  have e0 : s₁.heap = h0 := by rw [← hh, Bd.state]; rfl
  have N0 := Fr.nil n0
  have K0 := Keep.refl h0 []
  obtain ⟨S_wA, E_wA, S_wD, E_wD, S_wG, E_wG, S_wU, E_wU, S_wV, E_wV, S_wN, E_wN, S_wB, E_wB, S_wC, E_wC, S_wF, E_wF, S_wE, E_wE, S_wO, E_wO, F_wA_ordinal, F_wG_ordinal, F_wD_ordinal, F_wU_ordinal, F_wV_ordinal, F_wN_ordinal, F_wB_ordinal, F_wC_ordinal, F_wF_ordinal, F_wE_ordinal, F_wO_value, L_1, L_2, ne_wA_wG, ne_wA_wD, ne_wA_wB, ne_wA_wC, ne_wA_wF, ne_wA_wE, ne_wG_wD, ne_wG_wB, ne_wG_wC, ne_wG_wF, ne_wG_wE, ne_wD_wB, ne_wD_wC, ne_wD_wF, ne_wD_wE, ne_wU_wV, ne_wU_wN, ne_wV_wN, ne_wB_wC, ne_wB_wF, ne_wB_wE, ne_wC_wF, ne_wC_wE, ne_wF_wE⟩ := (id hS : St0 Z wA wD wG wU wV wN wB wC wF wE wO k_1 k_2 )
  refine ostart (g' := (mkF mG 0 #[oa wE, oi (0 : Int32), .unset] [])) (by first | (simp [entryFrame, mkF, argsToLocals, Value.category]; done) | rfl) ?_
  refine ob s₁ (mkF mG 1 #[oa wE, oi (0 : Int32), .unset] [(.ref wE)]) (fun _ kk => XS.aloadN X0.here hx rfl (hb hby d7_0) rfl rfl kk) ?_
  obtain ⟨cq1, kq1, q1a, q1b, q1c⟩ := isOf hZ e0 (E_wE.ext O0.2)
  obtain ⟨_, _, ⟨T1, L1, k1, n1⟩, -, X1, ⟨Lc1, hQ1, l1, y1, z1⟩, st1⟩ := X0.virtualBackUp hx (x := (⟨"com/example/vorgang/vorgang/model/Policy", "ordinal", "()I"⟩ : MethodName)) (y := (⟨"java/lang/Enum", "ordinal", "()I"⟩ : MethodName)) (owner := "java/lang/Enum") hown (mvT hZ (ow hw 53 rfl)) (mvT hZ (ow hw 54 rfl)) (mvT hZ (ow hw 55 rfl)) (by decide) (mvT hZ (ow hw 57 rfl)) (mvT hZ (ow hw 56 rfl)) (backOf (W := 0) (rm_ord l Z a0 hw [] wA wD wG wU wV wN wB wC wF wE wO k_1 k_2 wE (4 : Int32) h0 n0 O0 hS (F_wE_ordinal.ext O0.2)) hZ (ow hw 59 rfl) (ow hw 58 rfl) (by decide) (by decide)) q1a q1c (g := (mkF mG 1 #[oa wE, oi (0 : Int32), .unset] [(.ref wE)])) rfl (by rw [hml]; rfl) (Steps.refl _) (argsL := []) (rest := []) (lenOf pd_4 rfl) rfl (by show 2 * 0 + _ ≤ _; exact Nat.le_of_eq rfl) (hb hby d7_1) (fun _ _ => ⟨rfl, e0, (by decide : 0 + 0 ≤ _), (by decide : 0 + 0 ≤ _)⟩)
  dsimp only [Pt.U, Pt.locs, Pt.cells, Pt.slots] at X1 l1 y1 z1 st1 hQ1
  subst l1 y1 z1
  obtain ⟨rfl, N1q, e1⟩ := hQ1
  have N1 := Fr.app N0 N1q
  obtain ⟨LL2, X1, N1⟩ : ∃ LL, Stand pG l eG _ _ mG _ belowG methG cG T1 LL 0 0 ∧ Fr n0 LL := ⟨_, X1, N1⟩
  refine ob T1 (mkF mG 4 #[oa wE, oi (0 : Int32), .unset] [(.int (4 : Int32))]) (fun _ kk => st1.trans kk) ?_
  refine ob T1 (mkF mG 102 #[oa wE, oi (0 : Int32), .unset] []) (fun _ kk => XS.tswIn X1.here hx rfl (pc0 := 4) (pc' := 102) rfl (hb hby d7_4) rfl (by decide) (o := 98) (by decide) (by decide) (by decide) kk) ?_
  refine ob T1 (mkF mG 103 #[oa wE, oi (0 : Int32), .unset] [(.int (0 : Int32))]) (fun _ kk => XS.iloadN X1.here hx rfl (hb hby d7_102) rfl kk) ?_
  refine ob T1 (mkF mG 112 #[oa wE, oi (0 : Int32), .unset] []) (fun _ kk => XS.ifYes X1.here hx rfl (pc0 := 103) (pc' := 112) rfl (hb hby d7_103) rfl ((if0 _ _).trans (teq (by decide : (0 : Int32) = (0 : Int32))).1) (by decide) (by decide) kk) ?_
  refine ob T1 (mkF mG 113 #[oa wE, oi (0 : Int32), .unset] [.null]) (fun _ kk => XS.aconstNull X1.here hx rfl (hb hby d7_112) kk) ?_
  refine ob T1 (mkF mG 127 #[oa wE, oi (0 : Int32), .unset] [.null]) (fun _ kk => XS.goto X1.here hx rfl (pc0 := 113) (pc' := 127) rfl (hb hby d7_113) (by decide) (by decide) kk) ?_
  refine ob T1 (mkF mG 128 #[oa wE, oi (0 : Int32), .val .null] []) (fun _ kk => XS.astoreN X1.here hx rfl (hb hby d7_127) rfl rfl (l' := #[oa wE, oi (0 : Int32), .val .null]) rfl kk) ?_
  refine ob T1 (mkF mG 129 #[oa wE, oi (0 : Int32), .val .null] [.null]) (fun _ kk => XS.aloadN X1.here hx rfl (hb hby d7_128) rfl rfl kk) ?_
  obtain ⟨_, _, ⟨T3, L3, k3, n3⟩, -, X3, ⟨Lc3, hQ3, l3, y3, z3⟩, st3⟩ := Jvm.LawKit.callS X1 hx (y := (⟨"java/util/Optional", "ofNullable", "(Ljava/lang/Object;)Ljava/util/Optional;"⟩ : MethodName)) hown (mvT hZ (ow hw 65 rfl)) (mvT hZ (ow hw 66 rfl)) (mvT hZ (ow hw 67 rfl)) (mvT hZ (ow hw 68 rfl)) (by decide) (backOf (W := 0) (rm_onN l Z a0 hw [] wA wD wG wU wV wN wB wC wF wE wO k_1 k_2  h0 n0 O0 hS ) hZ (ow hw 68 rfl) (ow hw 67 rfl) (by decide) (by decide)) (g := (mkF mG 129 #[oa wE, oi (0 : Int32), .val .null] [.null])) rfl (by rw [hml]; rfl) (argsL := [.null]) (rest := []) (lenOf pd_5 rfl) rfl (by show 2 * 0 + _ ≤ _; exact Nat.le_of_eq rfl) (hb hby d7_129) (fun _ _ => ⟨rfl, e1, (by decide : 0 + 0 ≤ _), (by decide : 0 + 0 ≤ _)⟩)
  dsimp only [Pt.U, Pt.locs, Pt.cells, Pt.slots] at X3 l3 y3 z3 st3 hQ3
  subst l3 y3 z3
  obtain ⟨rfl, N3q, e3⟩ := hQ3
  have N3 := Fr.app N1 N3q
  obtain ⟨LL4, X3, N3⟩ : ∃ LL, Stand pG l eG _ _ mG _ belowG methG cG T3 LL 0 0 ∧ Fr n0 LL := ⟨_, X3, N3⟩
  refine ob T3 (mkF mG 132 #[oa wE, oi (0 : Int32), .val .null] [(.ref wO)]) (fun _ kk => st3 _ kk) ?_
  obtain ⟨fs, hr, hrun, hended, hW, hsame⟩ := X3.leave (v := some (.ref wO)) (fun h => by rw [Bd.returns] at h; cases h)
  refine oout (oretA X3 hx Bd.returns rfl rfl (hb hby d7_132) hr) hrun hended ⟨_, _, rfl, ?_, ⟨_, rfl⟩, hW, hsame.mono (by decide) (by decide)⟩
  show Q_rm_ap4_0 Z wA wD wG wU wV wN wB wC wF wE wO k_1 k_2  h0 n0 _ T3.heap _
  rw [e3]
  exact ⟨rfl, N3, rfl⟩

theorem d7_106 : decode prog_19_method_4_code 106 = .ok (.getstatic 53, 3) := by decide +kernel
theorem d7_109 : decode prog_19_method_4_code 109 = .ok (.goto 18, 3) := by decide +kernel
def Q_rm_ap4_1 (Z : State) (wA wD wG wU wV wN wB wC wF wE wO : Addr) (k_1 k_2 : ClassId)  (h0 : Heap) (n0 : Nat) (v : Option Value) (h : Heap) (L : List Loc) : Prop := ∃ (b0 : Addr), v = some (.ref b0) ∧ Fr n0 L ∧ Keep h0 h [] ∧ Old Z n0 h ∧ n0 ≤ b0 ∧ h0.size ≤ b0 ∧ Exa Z h b0 "java/util/Optional" ∧ Fld Z h b0 "java/util/Optional" "value" "Ljava/lang/Object;" (.ref wV)
set_option maxRecDepth 65536 in
set_option maxHeartbeats 40000000 in
theorem rm_ap4_1 (l : Launch) (Z : State) (a0 : Array Value) (hw : ∀ d ∈ tables_1, d.before a0 Z = true) (ws : List Jvm.Cond) (wA wD wG wU wV wN wB wC wF wE wO : Addr) (k_1 k_2 : ClassId)  (h0 : Heap) (n0 : Nat) (O0 : Old Z n0 h0) (hS : St0 Z wA wD wG wU wV wN wB wC wF wE wO k_1 k_2 ) :
    MetFree l (⟨"com/example/vorgang/vorgang/model/Policy", "apply", "(Z)Ljava/util/Optional;"⟩ : MethodName) (head1 (Jvm.Cond.code (⟨"com/example/vorgang/vorgang/model/Policy", "apply", "(Z)Ljava/util/Optional;"⟩ : MethodName) prog_19_method_4_code 3 (some (.object "java/util/Optional")) :: ws) ({ frames := 3, cells := 1, slots := 1, locals := 60 } : Room)) (fun aG UG => aG = #[(.ref wE), (.int (1 : Int32))] ∧ Z.Warmed39 UG.vm ∧ UG.heap = h0) (fun _ _ _ _ _ => True) (fun _ UG oG UG' => ∃ vG LG, oG = .returned vG ∧ Q_rm_ap4_1 Z wA wD wG wU wV wN wB wC wF wE wO k_1 k_2  h0 n0 vG UG'.heap LG ∧ FrameEnd UG oG UG' LG ({ frames := 3, cells := 1, slots := 1, locals := 60 } : Room).cells ({ frames := 3, cells := 1, slots := 1, locals := 60 } : Room).slots) := by
  refine MetFree.of_bodySF (plainFor_of_name pn_5) hisR ?_
  intro pG eG sG mG argsG belowG methG cG s₁ Bd hml0 hP hK
  obtain ⟨rfl, hZ, hh⟩ := hP
  have hx := Bd.exec
  have hby := Bd.bytes
  have hml : cG.maxLocals = 3 := hml0
  have hown : sG.vm.findClass "com/example/vorgang/vorgang/model/Policy" = some mG.cls := findClass_of_methodNamed Bd.named
  have hnm := (name_of_methodNamed Bd.named Bd.method).1
  have X0 : Stand pG l eG ({ frames := 3, cells := 1, slots := 1, locals := 60 } : Room) sG mG #[(.ref wE), (.int (1 : Int32))] belowG methG cG s₁ [] 0 0 := Stand.of_body Bd
  have e0 : s₁.heap = h0 := by rw [← hh, Bd.state]; rfl
  have N0 := Fr.nil n0
  have K0 := Keep.refl h0 []
  obtain ⟨S_wA, E_wA, S_wD, E_wD, S_wG, E_wG, S_wU, E_wU, S_wV, E_wV, S_wN, E_wN, S_wB, E_wB, S_wC, E_wC, S_wF, E_wF, S_wE, E_wE, S_wO, E_wO, F_wA_ordinal, F_wG_ordinal, F_wD_ordinal, F_wU_ordinal, F_wV_ordinal, F_wN_ordinal, F_wB_ordinal, F_wC_ordinal, F_wF_ordinal, F_wE_ordinal, F_wO_value, L_1, L_2, ne_wA_wG, ne_wA_wD, ne_wA_wB, ne_wA_wC, ne_wA_wF, ne_wA_wE, ne_wG_wD, ne_wG_wB, ne_wG_wC, ne_wG_wF, ne_wG_wE, ne_wD_wB, ne_wD_wC, ne_wD_wF, ne_wD_wE, ne_wU_wV, ne_wU_wN, ne_wV_wN, ne_wB_wC, ne_wB_wF, ne_wB_wE, ne_wC_wF, ne_wC_wE, ne_wF_wE⟩ := (id hS : St0 Z wA wD wG wU wV wN wB wC wF wE wO k_1 k_2 )
  refine ostart (g' := (mkF mG 0 #[oa wE, oi (1 : Int32), .unset] [])) (by first | (simp [entryFrame, mkF, argsToLocals, Value.category]; done) | rfl) ?_
  refine ob s₁ (mkF mG 1 #[oa wE, oi (1 : Int32), .unset] [(.ref wE)]) (fun _ kk => XS.aloadN X0.here hx rfl (hb hby d7_0) rfl rfl kk) ?_
  obtain ⟨cq1, kq1, q1a, q1b, q1c⟩ := isOf hZ e0 (E_wE.ext O0.2)
  obtain ⟨_, _, ⟨T1, L1, k1, n1⟩, -, X1, ⟨Lc1, hQ1, l1, y1, z1⟩, st1⟩ := X0.virtualBackUp hx (x := (⟨"com/example/vorgang/vorgang/model/Policy", "ordinal", "()I"⟩ : MethodName)) (y := (⟨"java/lang/Enum", "ordinal", "()I"⟩ : MethodName)) (owner := "java/lang/Enum") hown (mvT hZ (ow hw 53 rfl)) (mvT hZ (ow hw 54 rfl)) (mvT hZ (ow hw 55 rfl)) (by decide) (mvT hZ (ow hw 57 rfl)) (mvT hZ (ow hw 56 rfl)) (backOf (W := 0) (rm_ord l Z a0 hw [] wA wD wG wU wV wN wB wC wF wE wO k_1 k_2 wE (4 : Int32) h0 n0 O0 hS (F_wE_ordinal.ext O0.2)) hZ (ow hw 59 rfl) (ow hw 58 rfl) (by decide) (by decide)) q1a q1c (g := (mkF mG 1 #[oa wE, oi (1 : Int32), .unset] [(.ref wE)])) rfl (by rw [hml]; rfl) (Steps.refl _) (argsL := []) (rest := []) (lenOf pd_4 rfl) rfl (by show 2 * 0 + _ ≤ _; exact Nat.le_of_eq rfl) (hb hby d7_1) (fun _ _ => ⟨rfl, e0, (by decide : 0 + 0 ≤ _), (by decide : 0 + 0 ≤ _)⟩)
  dsimp only [Pt.U, Pt.locs, Pt.cells, Pt.slots] at X1 l1 y1 z1 st1 hQ1
  subst l1 y1 z1
  obtain ⟨rfl, N1q, e1⟩ := hQ1
  have N1 := Fr.app N0 N1q
  obtain ⟨LL2, X1, N1⟩ : ∃ LL, Stand pG l eG _ _ mG _ belowG methG cG T1 LL 0 0 ∧ Fr n0 LL := ⟨_, X1, N1⟩
  refine ob T1 (mkF mG 4 #[oa wE, oi (1 : Int32), .unset] [(.int (4 : Int32))]) (fun _ kk => st1.trans kk) ?_
  refine ob T1 (mkF mG 102 #[oa wE, oi (1 : Int32), .unset] []) (fun _ kk => XS.tswIn X1.here hx rfl (pc0 := 4) (pc' := 102) rfl (hb hby d7_4) rfl (by decide) (o := 98) (by decide) (by decide) (by decide) kk) ?_
  refine ob T1 (mkF mG 103 #[oa wE, oi (1 : Int32), .unset] [(.int (1 : Int32))]) (fun _ kk => XS.iloadN X1.here hx rfl (hb hby d7_102) rfl kk) ?_
  refine ob T1 (mkF mG 106 #[oa wE, oi (1 : Int32), .unset] []) (fun _ kk => XS.ifNo X1.here hx rfl (hb hby d7_103) rfl ((if0 _ _).trans (feq (by decide : ¬ ((1 : Int32) = (0 : Int32)))).1) kk) ?_
  obtain ⟨T3, X3, e3, st3⟩ := getS2 X1 hx hZ hown (host := "") (Or.inl (ow hw 171 rfl)) Via.refl e1 (S_wV.ext O0.2) (g := (mkF mG 106 #[oa wE, oi (1 : Int32), .unset] [])) rfl (hb hby d7_106)
  refine ob T3 (mkF mG 109 #[oa wE, oi (1 : Int32), .unset] [(.ref wV)]) (fun _ kk => st3 _ kk) ?_
  refine ob T3 (mkF mG 127 #[oa wE, oi (1 : Int32), .unset] [(.ref wV)]) (fun _ kk => XS.goto X3.here hx rfl (pc0 := 109) (pc' := 127) rfl (hb hby d7_109) (by decide) (by decide) kk) ?_
  refine ob T3 (mkF mG 128 #[oa wE, oi (1 : Int32), oa wV] []) (fun _ kk => XS.astoreN X3.here hx rfl (hb hby d7_127) rfl rfl (l' := #[oa wE, oi (1 : Int32), oa wV]) rfl kk) ?_
  refine ob T3 (mkF mG 129 #[oa wE, oi (1 : Int32), oa wV] [(.ref wV)]) (fun _ kk => XS.aloadN X3.here hx rfl (hb hby d7_128) rfl rfl kk) ?_
  obtain ⟨_, _, ⟨T4, L4, k4, n4⟩, -, X4, ⟨Lc4, hQ4, l4, y4, z4⟩, st4⟩ := Jvm.LawKit.callS X3 hx (y := (⟨"java/util/Optional", "ofNullable", "(Ljava/lang/Object;)Ljava/util/Optional;"⟩ : MethodName)) hown (mvT hZ (ow hw 65 rfl)) (mvT hZ (ow hw 66 rfl)) (mvT hZ (ow hw 67 rfl)) (mvT hZ (ow hw 68 rfl)) (by decide) (backOf (W := 0) (rm_onS l Z a0 hw [] wA wD wG wU wV wN wB wC wF wE wO k_1 k_2 wV h0 n0 O0 hS ) hZ (ow hw 68 rfl) (ow hw 67 rfl) (by decide) (by decide)) (g := (mkF mG 129 #[oa wE, oi (1 : Int32), oa wV] [(.ref wV)])) rfl (by rw [hml]; rfl) (argsL := [(.ref wV)]) (rest := []) (lenOf pd_5 rfl) rfl (by show 2 * 0 + _ ≤ _; exact Nat.le_of_eq rfl) (hb hby d7_129) (fun _ _ => ⟨rfl, e3, (by decide : 0 + 1 ≤ _), (by decide : 0 + 1 ≤ _)⟩)
  dsimp only [Pt.U, Pt.locs, Pt.cells, Pt.slots] at X4 l4 y4 z4 st4 hQ4
  subst l4 y4 z4
  obtain ⟨h4, e4⟩ : ∃ h, T4.heap = h := ⟨_, rfl⟩
  rw [e4] at hQ4
  obtain ⟨b0_4, rfl, N4q, K4q, O4, n_b0_4, z_b0_4, F4_0, F4_1⟩ := hQ4
  have N4 := Fr.app N1 N4q
  have sz_b0_4 : h0.size ≤ b0_4 := Nat.le_trans K0.1 z_b0_4
  have K4 := K0.trans K4q all0
  obtain ⟨LL5, X4, N4⟩ : ∃ LL, Stand pG l eG _ _ mG _ belowG methG cG T4 LL 1 1 ∧ Fr n0 LL := ⟨_, X4, N4⟩
  refine ob T4 (mkF mG 132 #[oa wE, oi (1 : Int32), oa wV] [(.ref b0_4)]) (fun _ kk => st4 _ kk) ?_
  obtain ⟨fs, hr, hrun, hended, hW, hsame⟩ := X4.leave (v := some (.ref b0_4)) (fun h => by rw [Bd.returns] at h; cases h)
  refine oout (oretA X4 hx Bd.returns rfl rfl (hb hby d7_132) hr) hrun hended ⟨_, _, rfl, ?_, ⟨_, rfl⟩, hW, hsame.mono (by decide) (by decide)⟩
  show Q_rm_ap4_1 Z wA wD wG wU wV wN wB wC wF wE wO k_1 k_2  h0 n0 _ T4.heap _
  rw [e4]
  exact ⟨b0_4, rfl, N4, K4, O4, n_b0_4, sz_b0_4, F4_0, F4_1⟩

theorem d7_116 : decode prog_19_method_4_code 116 = .ok (.iload_n 1, 1) := by decide +kernel
theorem d7_117 : decode prog_19_method_4_code 117 = .ok (.ifCond .eq 7, 3) := by decide +kernel
theorem d7_124 : decode prog_19_method_4_code 124 = .ok (.getstatic 62, 3) := by decide +kernel
def Q_rm_ap5_0 (Z : State) (wA wD wG wU wV wN wB wC wF wE wO : Addr) (k_1 k_2 : ClassId)  (h0 : Heap) (n0 : Nat) (v : Option Value) (h : Heap) (L : List Loc) : Prop := ∃ (b0 : Addr), v = some (.ref b0) ∧ Fr n0 L ∧ Keep h0 h [] ∧ Old Z n0 h ∧ n0 ≤ b0 ∧ h0.size ≤ b0 ∧ Exa Z h b0 "java/util/Optional" ∧ Fld Z h b0 "java/util/Optional" "value" "Ljava/lang/Object;" (.ref wN)
set_option maxRecDepth 65536 in
set_option maxHeartbeats 40000000 in
theorem rm_ap5_0 (l : Launch) (Z : State) (a0 : Array Value) (hw : ∀ d ∈ tables_1, d.before a0 Z = true) (ws : List Jvm.Cond) (wA wD wG wU wV wN wB wC wF wE wO : Addr) (k_1 k_2 : ClassId)  (h0 : Heap) (n0 : Nat) (O0 : Old Z n0 h0) (hS : St0 Z wA wD wG wU wV wN wB wC wF wE wO k_1 k_2 ) :
    MetFree l (⟨"com/example/vorgang/vorgang/model/Policy", "apply", "(Z)Ljava/util/Optional;"⟩ : MethodName) (head1 (Jvm.Cond.code (⟨"com/example/vorgang/vorgang/model/Policy", "apply", "(Z)Ljava/util/Optional;"⟩ : MethodName) prog_19_method_4_code 3 (some (.object "java/util/Optional")) :: ws) ({ frames := 3, cells := 1, slots := 1, locals := 60 } : Room)) (fun aG UG => aG = #[(.ref wF), (.int (0 : Int32))] ∧ Z.Warmed39 UG.vm ∧ UG.heap = h0) (fun _ _ _ _ _ => True) (fun _ UG oG UG' => ∃ vG LG, oG = .returned vG ∧ Q_rm_ap5_0 Z wA wD wG wU wV wN wB wC wF wE wO k_1 k_2  h0 n0 vG UG'.heap LG ∧ FrameEnd UG oG UG' LG ({ frames := 3, cells := 1, slots := 1, locals := 60 } : Room).cells ({ frames := 3, cells := 1, slots := 1, locals := 60 } : Room).slots) := by
  refine MetFree.of_bodySF (plainFor_of_name pn_5) hisR ?_
  intro pG eG sG mG argsG belowG methG cG s₁ Bd hml0 hP hK
  obtain ⟨rfl, hZ, hh⟩ := hP
  have hx := Bd.exec
  have hby := Bd.bytes
  have hml : cG.maxLocals = 3 := hml0
  have hown : sG.vm.findClass "com/example/vorgang/vorgang/model/Policy" = some mG.cls := findClass_of_methodNamed Bd.named
  have hnm := (name_of_methodNamed Bd.named Bd.method).1
  have X0 : Stand pG l eG ({ frames := 3, cells := 1, slots := 1, locals := 60 } : Room) sG mG #[(.ref wF), (.int (0 : Int32))] belowG methG cG s₁ [] 0 0 := Stand.of_body Bd
  have e0 : s₁.heap = h0 := by rw [← hh, Bd.state]; rfl
  have N0 := Fr.nil n0
  have K0 := Keep.refl h0 []
  obtain ⟨S_wA, E_wA, S_wD, E_wD, S_wG, E_wG, S_wU, E_wU, S_wV, E_wV, S_wN, E_wN, S_wB, E_wB, S_wC, E_wC, S_wF, E_wF, S_wE, E_wE, S_wO, E_wO, F_wA_ordinal, F_wG_ordinal, F_wD_ordinal, F_wU_ordinal, F_wV_ordinal, F_wN_ordinal, F_wB_ordinal, F_wC_ordinal, F_wF_ordinal, F_wE_ordinal, F_wO_value, L_1, L_2, ne_wA_wG, ne_wA_wD, ne_wA_wB, ne_wA_wC, ne_wA_wF, ne_wA_wE, ne_wG_wD, ne_wG_wB, ne_wG_wC, ne_wG_wF, ne_wG_wE, ne_wD_wB, ne_wD_wC, ne_wD_wF, ne_wD_wE, ne_wU_wV, ne_wU_wN, ne_wV_wN, ne_wB_wC, ne_wB_wF, ne_wB_wE, ne_wC_wF, ne_wC_wE, ne_wF_wE⟩ := (id hS : St0 Z wA wD wG wU wV wN wB wC wF wE wO k_1 k_2 )
  refine ostart (g' := (mkF mG 0 #[oa wF, oi (0 : Int32), .unset] [])) (by first | (simp [entryFrame, mkF, argsToLocals, Value.category]; done) | rfl) ?_
  refine ob s₁ (mkF mG 1 #[oa wF, oi (0 : Int32), .unset] [(.ref wF)]) (fun _ kk => XS.aloadN X0.here hx rfl (hb hby d7_0) rfl rfl kk) ?_
  obtain ⟨cq1, kq1, q1a, q1b, q1c⟩ := isOf hZ e0 (E_wF.ext O0.2)
  obtain ⟨_, _, ⟨T1, L1, k1, n1⟩, -, X1, ⟨Lc1, hQ1, l1, y1, z1⟩, st1⟩ := X0.virtualBackUp hx (x := (⟨"com/example/vorgang/vorgang/model/Policy", "ordinal", "()I"⟩ : MethodName)) (y := (⟨"java/lang/Enum", "ordinal", "()I"⟩ : MethodName)) (owner := "java/lang/Enum") hown (mvT hZ (ow hw 53 rfl)) (mvT hZ (ow hw 54 rfl)) (mvT hZ (ow hw 55 rfl)) (by decide) (mvT hZ (ow hw 57 rfl)) (mvT hZ (ow hw 56 rfl)) (backOf (W := 0) (rm_ord l Z a0 hw [] wA wD wG wU wV wN wB wC wF wE wO k_1 k_2 wF (5 : Int32) h0 n0 O0 hS (F_wF_ordinal.ext O0.2)) hZ (ow hw 59 rfl) (ow hw 58 rfl) (by decide) (by decide)) q1a q1c (g := (mkF mG 1 #[oa wF, oi (0 : Int32), .unset] [(.ref wF)])) rfl (by rw [hml]; rfl) (Steps.refl _) (argsL := []) (rest := []) (lenOf pd_4 rfl) rfl (by show 2 * 0 + _ ≤ _; exact Nat.le_of_eq rfl) (hb hby d7_1) (fun _ _ => ⟨rfl, e0, (by decide : 0 + 0 ≤ _), (by decide : 0 + 0 ≤ _)⟩)
  dsimp only [Pt.U, Pt.locs, Pt.cells, Pt.slots] at X1 l1 y1 z1 st1 hQ1
  subst l1 y1 z1
  obtain ⟨rfl, N1q, e1⟩ := hQ1
  have N1 := Fr.app N0 N1q
  obtain ⟨LL2, X1, N1⟩ : ∃ LL, Stand pG l eG _ _ mG _ belowG methG cG T1 LL 0 0 ∧ Fr n0 LL := ⟨_, X1, N1⟩
  refine ob T1 (mkF mG 4 #[oa wF, oi (0 : Int32), .unset] [(.int (5 : Int32))]) (fun _ kk => st1.trans kk) ?_
  refine ob T1 (mkF mG 116 #[oa wF, oi (0 : Int32), .unset] []) (fun _ kk => XS.tswIn X1.here hx rfl (pc0 := 4) (pc' := 116) rfl (hb hby d7_4) rfl (by decide) (o := 112) (by decide) (by decide) (by decide) kk) ?_
  refine ob T1 (mkF mG 117 #[oa wF, oi (0 : Int32), .unset] [(.int (0 : Int32))]) (fun _ kk => XS.iloadN X1.here hx rfl (hb hby d7_116) rfl kk) ?_
  refine ob T1 (mkF mG 124 #[oa wF, oi (0 : Int32), .unset] []) (fun _ kk => XS.ifYes X1.here hx rfl (pc0 := 117) (pc' := 124) rfl (hb hby d7_117) rfl ((if0 _ _).trans (teq (by decide : (0 : Int32) = (0 : Int32))).1) (by decide) (by decide) kk) ?_
  obtain ⟨T3, X3, e3, st3⟩ := getS2 X1 hx hZ hown (host := "") (Or.inl (ow hw 106 rfl)) Via.refl e1 (S_wN.ext O0.2) (g := (mkF mG 124 #[oa wF, oi (0 : Int32), .unset] [])) rfl (hb hby d7_124)
  refine ob T3 (mkF mG 127 #[oa wF, oi (0 : Int32), .unset] [(.ref wN)]) (fun _ kk => st3 _ kk) ?_
  refine ob T3 (mkF mG 128 #[oa wF, oi (0 : Int32), oa wN] []) (fun _ kk => XS.astoreN X3.here hx rfl (hb hby d7_127) rfl rfl (l' := #[oa wF, oi (0 : Int32), oa wN]) rfl kk) ?_
  refine ob T3 (mkF mG 129 #[oa wF, oi (0 : Int32), oa wN] [(.ref wN)]) (fun _ kk => XS.aloadN X3.here hx rfl (hb hby d7_128) rfl rfl kk) ?_
  obtain ⟨_, _, ⟨T4, L4, k4, n4⟩, -, X4, ⟨Lc4, hQ4, l4, y4, z4⟩, st4⟩ := Jvm.LawKit.callS X3 hx (y := (⟨"java/util/Optional", "ofNullable", "(Ljava/lang/Object;)Ljava/util/Optional;"⟩ : MethodName)) hown (mvT hZ (ow hw 65 rfl)) (mvT hZ (ow hw 66 rfl)) (mvT hZ (ow hw 67 rfl)) (mvT hZ (ow hw 68 rfl)) (by decide) (backOf (W := 0) (rm_onS l Z a0 hw [] wA wD wG wU wV wN wB wC wF wE wO k_1 k_2 wN h0 n0 O0 hS ) hZ (ow hw 68 rfl) (ow hw 67 rfl) (by decide) (by decide)) (g := (mkF mG 129 #[oa wF, oi (0 : Int32), oa wN] [(.ref wN)])) rfl (by rw [hml]; rfl) (argsL := [(.ref wN)]) (rest := []) (lenOf pd_5 rfl) rfl (by show 2 * 0 + _ ≤ _; exact Nat.le_of_eq rfl) (hb hby d7_129) (fun _ _ => ⟨rfl, e3, (by decide : 0 + 1 ≤ _), (by decide : 0 + 1 ≤ _)⟩)
  dsimp only [Pt.U, Pt.locs, Pt.cells, Pt.slots] at X4 l4 y4 z4 st4 hQ4
  subst l4 y4 z4
  obtain ⟨h4, e4⟩ : ∃ h, T4.heap = h := ⟨_, rfl⟩
  rw [e4] at hQ4
  obtain ⟨b0_4, rfl, N4q, K4q, O4, n_b0_4, z_b0_4, F4_0, F4_1⟩ := hQ4
  have N4 := Fr.app N1 N4q
  have sz_b0_4 : h0.size ≤ b0_4 := Nat.le_trans K0.1 z_b0_4
  have K4 := K0.trans K4q all0
  obtain ⟨LL5, X4, N4⟩ : ∃ LL, Stand pG l eG _ _ mG _ belowG methG cG T4 LL 1 1 ∧ Fr n0 LL := ⟨_, X4, N4⟩
  refine ob T4 (mkF mG 132 #[oa wF, oi (0 : Int32), oa wN] [(.ref b0_4)]) (fun _ kk => st4 _ kk) ?_
  obtain ⟨fs, hr, hrun, hended, hW, hsame⟩ := X4.leave (v := some (.ref b0_4)) (fun h => by rw [Bd.returns] at h; cases h)
  refine oout (oretA X4 hx Bd.returns rfl rfl (hb hby d7_132) hr) hrun hended ⟨_, _, rfl, ?_, ⟨_, rfl⟩, hW, hsame.mono (by decide) (by decide)⟩
  show Q_rm_ap5_0 Z wA wD wG wU wV wN wB wC wF wE wO k_1 k_2  h0 n0 _ T4.heap _
  rw [e4]
  exact ⟨b0_4, rfl, N4, K4, O4, n_b0_4, sz_b0_4, F4_0, F4_1⟩

theorem d7_120 : decode prog_19_method_4_code 120 = .ok (.aconst_null, 1) := by decide +kernel
theorem d7_121 : decode prog_19_method_4_code 121 = .ok (.goto 6, 3) := by decide +kernel
def Q_rm_ap5_1 (Z : State) (wA wD wG wU wV wN wB wC wF wE wO : Addr) (k_1 k_2 : ClassId)  (h0 : Heap) (n0 : Nat) (v : Option Value) (h : Heap) (L : List Loc) : Prop := v = some (.ref wO) ∧ Fr n0 L ∧ h = h0
set_option maxRecDepth 65536 in
set_option maxHeartbeats 40000000 in
theorem rm_ap5_1 (l : Launch) (Z : State) (a0 : Array Value) (hw : ∀ d ∈ tables_1, d.before a0 Z = true) (ws : List Jvm.Cond) (wA wD wG wU wV wN wB wC wF wE wO : Addr) (k_1 k_2 : ClassId)  (h0 : Heap) (n0 : Nat) (O0 : Old Z n0 h0) (hS : St0 Z wA wD wG wU wV wN wB wC wF wE wO k_1 k_2 ) :
    MetFree l (⟨"com/example/vorgang/vorgang/model/Policy", "apply", "(Z)Ljava/util/Optional;"⟩ : MethodName) (head1 (Jvm.Cond.code (⟨"com/example/vorgang/vorgang/model/Policy", "apply", "(Z)Ljava/util/Optional;"⟩ : MethodName) prog_19_method_4_code 3 (some (.object "java/util/Optional")) :: ws) ({ frames := 1, cells := 0, slots := 0, locals := 12 } : Room)) (fun aG UG => aG = #[(.ref wF), (.int (1 : Int32))] ∧ Z.Warmed39 UG.vm ∧ UG.heap = h0) (fun _ _ _ _ _ => True) (fun _ UG oG UG' => ∃ vG LG, oG = .returned vG ∧ Q_rm_ap5_1 Z wA wD wG wU wV wN wB wC wF wE wO k_1 k_2  h0 n0 vG UG'.heap LG ∧ FrameEnd UG oG UG' LG ({ frames := 1, cells := 0, slots := 0, locals := 12 } : Room).cells ({ frames := 1, cells := 0, slots := 0, locals := 12 } : Room).slots) := by
  refine MetFree.of_bodySF (plainFor_of_name pn_5) hisR ?_
  intro pG eG sG mG argsG belowG methG cG s₁ Bd hml0 hP hK
  obtain ⟨rfl, hZ, hh⟩ := hP
  have hx := Bd.exec
  have hby := Bd.bytes
  have hml : cG.maxLocals = 3 := hml0
  have hown : sG.vm.findClass "com/example/vorgang/vorgang/model/Policy" = some mG.cls := findClass_of_methodNamed Bd.named
  have hnm := (name_of_methodNamed Bd.named Bd.method).1
  have X0 : Stand pG l eG ({ frames := 1, cells := 0, slots := 0, locals := 12 } : Room) sG mG #[(.ref wF), (.int (1 : Int32))] belowG methG cG s₁ [] 0 0 := Stand.of_body Bd
  have e0 : s₁.heap = h0 := by rw [← hh, Bd.state]; rfl
  have N0 := Fr.nil n0
  have K0 := Keep.refl h0 []
  obtain ⟨S_wA, E_wA, S_wD, E_wD, S_wG, E_wG, S_wU, E_wU, S_wV, E_wV, S_wN, E_wN, S_wB, E_wB, S_wC, E_wC, S_wF, E_wF, S_wE, E_wE, S_wO, E_wO, F_wA_ordinal, F_wG_ordinal, F_wD_ordinal, F_wU_ordinal, F_wV_ordinal, F_wN_ordinal, F_wB_ordinal, F_wC_ordinal, F_wF_ordinal, F_wE_ordinal, F_wO_value, L_1, L_2, ne_wA_wG, ne_wA_wD, ne_wA_wB, ne_wA_wC, ne_wA_wF, ne_wA_wE, ne_wG_wD, ne_wG_wB, ne_wG_wC, ne_wG_wF, ne_wG_wE, ne_wD_wB, ne_wD_wC, ne_wD_wF, ne_wD_wE, ne_wU_wV, ne_wU_wN, ne_wV_wN, ne_wB_wC, ne_wB_wF, ne_wB_wE, ne_wC_wF, ne_wC_wE, ne_wF_wE⟩ := (id hS : St0 Z wA wD wG wU wV wN wB wC wF wE wO k_1 k_2 )
  refine ostart (g' := (mkF mG 0 #[oa wF, oi (1 : Int32), .unset] [])) (by first | (simp [entryFrame, mkF, argsToLocals, Value.category]; done) | rfl) ?_
  refine ob s₁ (mkF mG 1 #[oa wF, oi (1 : Int32), .unset] [(.ref wF)]) (fun _ kk => XS.aloadN X0.here hx rfl (hb hby d7_0) rfl rfl kk) ?_
  obtain ⟨cq1, kq1, q1a, q1b, q1c⟩ := isOf hZ e0 (E_wF.ext O0.2)
  obtain ⟨_, _, ⟨T1, L1, k1, n1⟩, -, X1, ⟨Lc1, hQ1, l1, y1, z1⟩, st1⟩ := X0.virtualBackUp hx (x := (⟨"com/example/vorgang/vorgang/model/Policy", "ordinal", "()I"⟩ : MethodName)) (y := (⟨"java/lang/Enum", "ordinal", "()I"⟩ : MethodName)) (owner := "java/lang/Enum") hown (mvT hZ (ow hw 53 rfl)) (mvT hZ (ow hw 54 rfl)) (mvT hZ (ow hw 55 rfl)) (by decide) (mvT hZ (ow hw 57 rfl)) (mvT hZ (ow hw 56 rfl)) (backOf (W := 0) (rm_ord l Z a0 hw [] wA wD wG wU wV wN wB wC wF wE wO k_1 k_2 wF (5 : Int32) h0 n0 O0 hS (F_wF_ordinal.ext O0.2)) hZ (ow hw 59 rfl) (ow hw 58 rfl) (by decide) (by decide)) q1a q1c (g := (mkF mG 1 #[oa wF, oi (1 : Int32), .unset] [(.ref wF)])) rfl (by rw [hml]; rfl) (Steps.refl _) (argsL := []) (rest := []) (lenOf pd_4 rfl) rfl (by show 2 * 0 + _ ≤ _; exact Nat.le_of_eq rfl) (hb hby d7_1) (fun _ _ => ⟨rfl, e0, (by decide : 0 + 0 ≤ _), (by decide : 0 + 0 ≤ _)⟩)
  dsimp only [Pt.U, Pt.locs, Pt.cells, Pt.slots] at X1 l1 y1 z1 st1 hQ1
  subst l1 y1 z1
  obtain ⟨rfl, N1q, e1⟩ := hQ1
  have N1 := Fr.app N0 N1q
  obtain ⟨LL2, X1, N1⟩ : ∃ LL, Stand pG l eG _ _ mG _ belowG methG cG T1 LL 0 0 ∧ Fr n0 LL := ⟨_, X1, N1⟩
  refine ob T1 (mkF mG 4 #[oa wF, oi (1 : Int32), .unset] [(.int (5 : Int32))]) (fun _ kk => st1.trans kk) ?_
  refine ob T1 (mkF mG 116 #[oa wF, oi (1 : Int32), .unset] []) (fun _ kk => XS.tswIn X1.here hx rfl (pc0 := 4) (pc' := 116) rfl (hb hby d7_4) rfl (by decide) (o := 112) (by decide) (by decide) (by decide) kk) ?_
  refine ob T1 (mkF mG 117 #[oa wF, oi (1 : Int32), .unset] [(.int (1 : Int32))]) (fun _ kk => XS.iloadN X1.here hx rfl (hb hby d7_116) rfl kk) ?_
  refine ob T1 (mkF mG 120 #[oa wF, oi (1 : Int32), .unset] []) (fun _ kk => XS.ifNo X1.here hx rfl (hb hby d7_117) rfl ((if0 _ _).trans (feq (by decide : ¬ ((1 : Int32) = (0 : Int32)))).1) kk) ?_
  refine ob T1 (mkF mG 121 #[oa wF, oi (1 : Int32), .unset] [.null]) (fun _ kk => XS.aconstNull X1.here hx rfl (hb hby d7_120) kk) ?_
  refine ob T1 (mkF mG 127 #[oa wF, oi (1 : Int32), .unset] [.null]) (fun _ kk => XS.goto X1.here hx rfl (pc0 := 121) (pc' := 127) rfl (hb hby d7_121) (by decide) (by decide) kk) ?_
  refine ob T1 (mkF mG 128 #[oa wF, oi (1 : Int32), .val .null] []) (fun _ kk => XS.astoreN X1.here hx rfl (hb hby d7_127) rfl rfl (l' := #[oa wF, oi (1 : Int32), .val .null]) rfl kk) ?_
  refine ob T1 (mkF mG 129 #[oa wF, oi (1 : Int32), .val .null] [.null]) (fun _ kk => XS.aloadN X1.here hx rfl (hb hby d7_128) rfl rfl kk) ?_
  obtain ⟨_, _, ⟨T3, L3, k3, n3⟩, -, X3, ⟨Lc3, hQ3, l3, y3, z3⟩, st3⟩ := Jvm.LawKit.callS X1 hx (y := (⟨"java/util/Optional", "ofNullable", "(Ljava/lang/Object;)Ljava/util/Optional;"⟩ : MethodName)) hown (mvT hZ (ow hw 65 rfl)) (mvT hZ (ow hw 66 rfl)) (mvT hZ (ow hw 67 rfl)) (mvT hZ (ow hw 68 rfl)) (by decide) (backOf (W := 0) (rm_onN l Z a0 hw [] wA wD wG wU wV wN wB wC wF wE wO k_1 k_2  h0 n0 O0 hS ) hZ (ow hw 68 rfl) (ow hw 67 rfl) (by decide) (by decide)) (g := (mkF mG 129 #[oa wF, oi (1 : Int32), .val .null] [.null])) rfl (by rw [hml]; rfl) (argsL := [.null]) (rest := []) (lenOf pd_5 rfl) rfl (by show 2 * 0 + _ ≤ _; exact Nat.le_of_eq rfl) (hb hby d7_129) (fun _ _ => ⟨rfl, e1, (by decide : 0 + 0 ≤ _), (by decide : 0 + 0 ≤ _)⟩)
  dsimp only [Pt.U, Pt.locs, Pt.cells, Pt.slots] at X3 l3 y3 z3 st3 hQ3
  subst l3 y3 z3
  obtain ⟨rfl, N3q, e3⟩ := hQ3
  have N3 := Fr.app N1 N3q
  obtain ⟨LL4, X3, N3⟩ : ∃ LL, Stand pG l eG _ _ mG _ belowG methG cG T3 LL 0 0 ∧ Fr n0 LL := ⟨_, X3, N3⟩
  refine ob T3 (mkF mG 132 #[oa wF, oi (1 : Int32), .val .null] [(.ref wO)]) (fun _ kk => st3 _ kk) ?_
  obtain ⟨fs, hr, hrun, hended, hW, hsame⟩ := X3.leave (v := some (.ref wO)) (fun h => by rw [Bd.returns] at h; cases h)
  refine oout (oretA X3 hx Bd.returns rfl rfl (hb hby d7_132) hr) hrun hended ⟨_, _, rfl, ?_, ⟨_, rfl⟩, hW, hsame.mono (by decide) (by decide)⟩
  show Q_rm_ap5_1 Z wA wD wG wU wV wN wB wC wF wE wO k_1 k_2  h0 n0 _ T3.heap _
  rw [e3]
  exact ⟨rfl, N3, rfl⟩

def Q_rm_ap6_0 (Z : State) (wA wD wG wU wV wN wB wC wF wE wO : Addr) (k_1 k_2 : ClassId)  (h0 : Heap) (n0 : Nat) (v : Option Value) (h : Heap) (L : List Loc) : Prop := ∃ (b0 : Addr), v = some (.ref b0) ∧ Fr n0 L ∧ Keep h0 h [] ∧ Old Z n0 h ∧ n0 ≤ b0 ∧ h0.size ≤ b0 ∧ Exa Z h b0 "java/util/Optional" ∧ Fld Z h b0 "java/util/Optional" "value" "Ljava/lang/Object;" (.ref wN)
set_option maxRecDepth 65536 in
set_option maxHeartbeats 40000000 in
theorem rm_ap6_0 (l : Launch) (Z : State) (a0 : Array Value) (hw : ∀ d ∈ tables_1, d.before a0 Z = true) (ws : List Jvm.Cond) (wA wD wG wU wV wN wB wC wF wE wO : Addr) (k_1 k_2 : ClassId)  (h0 : Heap) (n0 : Nat) (O0 : Old Z n0 h0) (hS : St0 Z wA wD wG wU wV wN wB wC wF wE wO k_1 k_2 ) :
    MetFree l (⟨"com/example/vorgang/vorgang/model/Policy", "apply", "(Z)Ljava/util/Optional;"⟩ : MethodName) (head1 (Jvm.Cond.code (⟨"com/example/vorgang/vorgang/model/Policy", "apply", "(Z)Ljava/util/Optional;"⟩ : MethodName) prog_19_method_4_code 3 (some (.object "java/util/Optional")) :: ws) ({ frames := 3, cells := 1, slots := 1, locals := 60 } : Room)) (fun aG UG => aG = #[(.ref wG), (.int (0 : Int32))] ∧ Z.Warmed39 UG.vm ∧ UG.heap = h0) (fun _ _ _ _ _ => True) (fun _ UG oG UG' => ∃ vG LG, oG = .returned vG ∧ Q_rm_ap6_0 Z wA wD wG wU wV wN wB wC wF wE wO k_1 k_2  h0 n0 vG UG'.heap LG ∧ FrameEnd UG oG UG' LG ({ frames := 3, cells := 1, slots := 1, locals := 60 } : Room).cells ({ frames := 3, cells := 1, slots := 1, locals := 60 } : Room).slots) := by
  refine MetFree.of_bodySF (plainFor_of_name pn_5) hisR ?_
  intro pG eG sG mG argsG belowG methG cG s₁ Bd hml0 hP hK
  obtain ⟨rfl, hZ, hh⟩ := hP
  have hx := Bd.exec
  have hby := Bd.bytes
  have hml : cG.maxLocals = 3 := hml0
  have hown : sG.vm.findClass "com/example/vorgang/vorgang/model/Policy" = some mG.cls := findClass_of_methodNamed Bd.named
  have hnm := (name_of_methodNamed Bd.named Bd.method).1
  have X0 : Stand pG l eG ({ frames := 3, cells := 1, slots := 1, locals := 60 } : Room) sG mG #[(.ref wG), (.int (0 : Int32))] belowG methG cG s₁ [] 0 0 := Stand.of_body Bd
  have e0 : s₁.heap = h0 := by rw [← hh, Bd.state]; rfl
  have N0 := Fr.nil n0
  have K0 := Keep.refl h0 []
  obtain ⟨S_wA, E_wA, S_wD, E_wD, S_wG, E_wG, S_wU, E_wU, S_wV, E_wV, S_wN, E_wN, S_wB, E_wB, S_wC, E_wC, S_wF, E_wF, S_wE, E_wE, S_wO, E_wO, F_wA_ordinal, F_wG_ordinal, F_wD_ordinal, F_wU_ordinal, F_wV_ordinal, F_wN_ordinal, F_wB_ordinal, F_wC_ordinal, F_wF_ordinal, F_wE_ordinal, F_wO_value, L_1, L_2, ne_wA_wG, ne_wA_wD, ne_wA_wB, ne_wA_wC, ne_wA_wF, ne_wA_wE, ne_wG_wD, ne_wG_wB, ne_wG_wC, ne_wG_wF, ne_wG_wE, ne_wD_wB, ne_wD_wC, ne_wD_wF, ne_wD_wE, ne_wU_wV, ne_wU_wN, ne_wV_wN, ne_wB_wC, ne_wB_wF, ne_wB_wE, ne_wC_wF, ne_wC_wE, ne_wF_wE⟩ := (id hS : St0 Z wA wD wG wU wV wN wB wC wF wE wO k_1 k_2 )
  refine ostart (g' := (mkF mG 0 #[oa wG, oi (0 : Int32), .unset] [])) (by first | (simp [entryFrame, mkF, argsToLocals, Value.category]; done) | rfl) ?_
  refine ob s₁ (mkF mG 1 #[oa wG, oi (0 : Int32), .unset] [(.ref wG)]) (fun _ kk => XS.aloadN X0.here hx rfl (hb hby d7_0) rfl rfl kk) ?_
  obtain ⟨cq1, kq1, q1a, q1b, q1c⟩ := isOf hZ e0 (E_wG.ext O0.2)
  obtain ⟨_, _, ⟨T1, L1, k1, n1⟩, -, X1, ⟨Lc1, hQ1, l1, y1, z1⟩, st1⟩ := X0.virtualBackUp hx (x := (⟨"com/example/vorgang/vorgang/model/Policy", "ordinal", "()I"⟩ : MethodName)) (y := (⟨"java/lang/Enum", "ordinal", "()I"⟩ : MethodName)) (owner := "java/lang/Enum") hown (mvT hZ (ow hw 53 rfl)) (mvT hZ (ow hw 54 rfl)) (mvT hZ (ow hw 55 rfl)) (by decide) (mvT hZ (ow hw 57 rfl)) (mvT hZ (ow hw 56 rfl)) (backOf (W := 0) (rm_ord l Z a0 hw [] wA wD wG wU wV wN wB wC wF wE wO k_1 k_2 wG (6 : Int32) h0 n0 O0 hS (F_wG_ordinal.ext O0.2)) hZ (ow hw 59 rfl) (ow hw 58 rfl) (by decide) (by decide)) q1a q1c (g := (mkF mG 1 #[oa wG, oi (0 : Int32), .unset] [(.ref wG)])) rfl (by rw [hml]; rfl) (Steps.refl _) (argsL := []) (rest := []) (lenOf pd_4 rfl) rfl (by show 2 * 0 + _ ≤ _; exact Nat.le_of_eq rfl) (hb hby d7_1) (fun _ _ => ⟨rfl, e0, (by decide : 0 + 0 ≤ _), (by decide : 0 + 0 ≤ _)⟩)
  dsimp only [Pt.U, Pt.locs, Pt.cells, Pt.slots] at X1 l1 y1 z1 st1 hQ1
  subst l1 y1 z1
  obtain ⟨rfl, N1q, e1⟩ := hQ1
  have N1 := Fr.app N0 N1q
  obtain ⟨LL2, X1, N1⟩ : ∃ LL, Stand pG l eG _ _ mG _ belowG methG cG T1 LL 0 0 ∧ Fr n0 LL := ⟨_, X1, N1⟩
  refine ob T1 (mkF mG 4 #[oa wG, oi (0 : Int32), .unset] [(.int (6 : Int32))]) (fun _ kk => st1.trans kk) ?_
  refine ob T1 (mkF mG 96 #[oa wG, oi (0 : Int32), .unset] []) (fun _ kk => XS.tswIn X1.here hx rfl (pc0 := 4) (pc' := 96) rfl (hb hby d7_4) rfl (by decide) (o := 92) (by decide) (by decide) (by decide) kk) ?_
  obtain ⟨T3, X3, e3, st3⟩ := getS2 X1 hx hZ hown (host := "") (Or.inl (ow hw 106 rfl)) Via.refl e1 (S_wN.ext O0.2) (g := (mkF mG 96 #[oa wG, oi (0 : Int32), .unset] [])) rfl (hb hby d7_96)
  refine ob T3 (mkF mG 99 #[oa wG, oi (0 : Int32), .unset] [(.ref wN)]) (fun _ kk => st3 _ kk) ?_
  refine ob T3 (mkF mG 127 #[oa wG, oi (0 : Int32), .unset] [(.ref wN)]) (fun _ kk => XS.goto X3.here hx rfl (pc0 := 99) (pc' := 127) rfl (hb hby d7_99) (by decide) (by decide) kk) ?_
  refine ob T3 (mkF mG 128 #[oa wG, oi (0 : Int32), oa wN] []) (fun _ kk => XS.astoreN X3.here hx rfl (hb hby d7_127) rfl rfl (l' := #[oa wG, oi (0 : Int32), oa wN]) rfl kk) ?_
  refine ob T3 (mkF mG 129 #[oa wG, oi (0 : Int32), oa wN] [(.ref wN)]) (fun _ kk => XS.aloadN X3.here hx rfl (hb hby d7_128) rfl rfl kk) ?_
  obtain ⟨_, _, ⟨T4, L4, k4, n4⟩, -, X4, ⟨Lc4, hQ4, l4, y4, z4⟩, st4⟩ := Jvm.LawKit.callS X3 hx (y := (⟨"java/util/Optional", "ofNullable", "(Ljava/lang/Object;)Ljava/util/Optional;"⟩ : MethodName)) hown (mvT hZ (ow hw 65 rfl)) (mvT hZ (ow hw 66 rfl)) (mvT hZ (ow hw 67 rfl)) (mvT hZ (ow hw 68 rfl)) (by decide) (backOf (W := 0) (rm_onS l Z a0 hw [] wA wD wG wU wV wN wB wC wF wE wO k_1 k_2 wN h0 n0 O0 hS ) hZ (ow hw 68 rfl) (ow hw 67 rfl) (by decide) (by decide)) (g := (mkF mG 129 #[oa wG, oi (0 : Int32), oa wN] [(.ref wN)])) rfl (by rw [hml]; rfl) (argsL := [(.ref wN)]) (rest := []) (lenOf pd_5 rfl) rfl (by show 2 * 0 + _ ≤ _; exact Nat.le_of_eq rfl) (hb hby d7_129) (fun _ _ => ⟨rfl, e3, (by decide : 0 + 1 ≤ _), (by decide : 0 + 1 ≤ _)⟩)
  dsimp only [Pt.U, Pt.locs, Pt.cells, Pt.slots] at X4 l4 y4 z4 st4 hQ4
  subst l4 y4 z4
  obtain ⟨h4, e4⟩ : ∃ h, T4.heap = h := ⟨_, rfl⟩
  rw [e4] at hQ4
  obtain ⟨b0_4, rfl, N4q, K4q, O4, n_b0_4, z_b0_4, F4_0, F4_1⟩ := hQ4
  have N4 := Fr.app N1 N4q
  have sz_b0_4 : h0.size ≤ b0_4 := Nat.le_trans K0.1 z_b0_4
  have K4 := K0.trans K4q all0
  obtain ⟨LL5, X4, N4⟩ : ∃ LL, Stand pG l eG _ _ mG _ belowG methG cG T4 LL 1 1 ∧ Fr n0 LL := ⟨_, X4, N4⟩
  refine ob T4 (mkF mG 132 #[oa wG, oi (0 : Int32), oa wN] [(.ref b0_4)]) (fun _ kk => st4 _ kk) ?_
  obtain ⟨fs, hr, hrun, hended, hW, hsame⟩ := X4.leave (v := some (.ref b0_4)) (fun h => by rw [Bd.returns] at h; cases h)
  refine oout (oretA X4 hx Bd.returns rfl rfl (hb hby d7_132) hr) hrun hended ⟨_, _, rfl, ?_, ⟨_, rfl⟩, hW, hsame.mono (by decide) (by decide)⟩
  show Q_rm_ap6_0 Z wA wD wG wU wV wN wB wC wF wE wO k_1 k_2  h0 n0 _ T4.heap _
  rw [e4]
  exact ⟨b0_4, rfl, N4, K4, O4, n_b0_4, sz_b0_4, F4_0, F4_1⟩

def Q_rm_ap6_1 (Z : State) (wA wD wG wU wV wN wB wC wF wE wO : Addr) (k_1 k_2 : ClassId)  (h0 : Heap) (n0 : Nat) (v : Option Value) (h : Heap) (L : List Loc) : Prop := ∃ (b0 : Addr), v = some (.ref b0) ∧ Fr n0 L ∧ Keep h0 h [] ∧ Old Z n0 h ∧ n0 ≤ b0 ∧ h0.size ≤ b0 ∧ Exa Z h b0 "java/util/Optional" ∧ Fld Z h b0 "java/util/Optional" "value" "Ljava/lang/Object;" (.ref wN)
set_option maxRecDepth 65536 in
set_option maxHeartbeats 40000000 in
theorem rm_ap6_1 (l : Launch) (Z : State) (a0 : Array Value) (hw : ∀ d ∈ tables_1, d.before a0 Z = true) (ws : List Jvm.Cond) (wA wD wG wU wV wN wB wC wF wE wO : Addr) (k_1 k_2 : ClassId)  (h0 : Heap) (n0 : Nat) (O0 : Old Z n0 h0) (hS : St0 Z wA wD wG wU wV wN wB wC wF wE wO k_1 k_2 ) :
    MetFree l (⟨"com/example/vorgang/vorgang/model/Policy", "apply", "(Z)Ljava/util/Optional;"⟩ : MethodName) (head1 (Jvm.Cond.code (⟨"com/example/vorgang/vorgang/model/Policy", "apply", "(Z)Ljava/util/Optional;"⟩ : MethodName) prog_19_method_4_code 3 (some (.object "java/util/Optional")) :: ws) ({ frames := 3, cells := 1, slots := 1, locals := 60 } : Room)) (fun aG UG => aG = #[(.ref wG), (.int (1 : Int32))] ∧ Z.Warmed39 UG.vm ∧ UG.heap = h0) (fun _ _ _ _ _ => True) (fun _ UG oG UG' => ∃ vG LG, oG = .returned vG ∧ Q_rm_ap6_1 Z wA wD wG wU wV wN wB wC wF wE wO k_1 k_2  h0 n0 vG UG'.heap LG ∧ FrameEnd UG oG UG' LG ({ frames := 3, cells := 1, slots := 1, locals := 60 } : Room).cells ({ frames := 3, cells := 1, slots := 1, locals := 60 } : Room).slots) := by
  refine MetFree.of_bodySF (plainFor_of_name pn_5) hisR ?_
  intro pG eG sG mG argsG belowG methG cG s₁ Bd hml0 hP hK
  obtain ⟨rfl, hZ, hh⟩ := hP
  have hx := Bd.exec
  have hby := Bd.bytes
  have hml : cG.maxLocals = 3 := hml0
  have hown : sG.vm.findClass "com/example/vorgang/vorgang/model/Policy" = some mG.cls := findClass_of_methodNamed Bd.named
  have hnm := (name_of_methodNamed Bd.named Bd.method).1
  have X0 : Stand pG l eG ({ frames := 3, cells := 1, slots := 1, locals := 60 } : Room) sG mG #[(.ref wG), (.int (1 : Int32))] belowG methG cG s₁ [] 0 0 := Stand.of_body Bd
  have e0 : s₁.heap = h0 := by rw [← hh, Bd.state]; rfl
  have N0 := Fr.nil n0
  have K0 := Keep.refl h0 []
  obtain ⟨S_wA, E_wA, S_wD, E_wD, S_wG, E_wG, S_wU, E_wU, S_wV, E_wV, S_wN, E_wN, S_wB, E_wB, S_wC, E_wC, S_wF, E_wF, S_wE, E_wE, S_wO, E_wO, F_wA_ordinal, F_wG_ordinal, F_wD_ordinal, F_wU_ordinal, F_wV_ordinal, F_wN_ordinal, F_wB_ordinal, F_wC_ordinal, F_wF_ordinal, F_wE_ordinal, F_wO_value, L_1, L_2, ne_wA_wG, ne_wA_wD, ne_wA_wB, ne_wA_wC, ne_wA_wF, ne_wA_wE, ne_wG_wD, ne_wG_wB, ne_wG_wC, ne_wG_wF, ne_wG_wE, ne_wD_wB, ne_wD_wC, ne_wD_wF, ne_wD_wE, ne_wU_wV, ne_wU_wN, ne_wV_wN, ne_wB_wC, ne_wB_wF, ne_wB_wE, ne_wC_wF, ne_wC_wE, ne_wF_wE⟩ := (id hS : St0 Z wA wD wG wU wV wN wB wC wF wE wO k_1 k_2 )
  refine ostart (g' := (mkF mG 0 #[oa wG, oi (1 : Int32), .unset] [])) (by first | (simp [entryFrame, mkF, argsToLocals, Value.category]; done) | rfl) ?_
  refine ob s₁ (mkF mG 1 #[oa wG, oi (1 : Int32), .unset] [(.ref wG)]) (fun _ kk => XS.aloadN X0.here hx rfl (hb hby d7_0) rfl rfl kk) ?_
  obtain ⟨cq1, kq1, q1a, q1b, q1c⟩ := isOf hZ e0 (E_wG.ext O0.2)
  obtain ⟨_, _, ⟨T1, L1, k1, n1⟩, -, X1, ⟨Lc1, hQ1, l1, y1, z1⟩, st1⟩ := X0.virtualBackUp hx (x := (⟨"com/example/vorgang/vorgang/model/Policy", "ordinal", "()I"⟩ : MethodName)) (y := (⟨"java/lang/Enum", "ordinal", "()I"⟩ : MethodName)) (owner := "java/lang/Enum") hown (mvT hZ (ow hw 53 rfl)) (mvT hZ (ow hw 54 rfl)) (mvT hZ (ow hw 55 rfl)) (by decide) (mvT hZ (ow hw 57 rfl)) (mvT hZ (ow hw 56 rfl)) (backOf (W := 0) (rm_ord l Z a0 hw [] wA wD wG wU wV wN wB wC wF wE wO k_1 k_2 wG (6 : Int32) h0 n0 O0 hS (F_wG_ordinal.ext O0.2)) hZ (ow hw 59 rfl) (ow hw 58 rfl) (by decide) (by decide)) q1a q1c (g := (mkF mG 1 #[oa wG, oi (1 : Int32), .unset] [(.ref wG)])) rfl (by rw [hml]; rfl) (Steps.refl _) (argsL := []) (rest := []) (lenOf pd_4 rfl) rfl (by show 2 * 0 + _ ≤ _; exact Nat.le_of_eq rfl) (hb hby d7_1) (fun _ _ => ⟨rfl, e0, (by decide : 0 + 0 ≤ _), (by decide : 0 + 0 ≤ _)⟩)
  dsimp only [Pt.U, Pt.locs, Pt.cells, Pt.slots] at X1 l1 y1 z1 st1 hQ1
  subst l1 y1 z1
  obtain ⟨rfl, N1q, e1⟩ := hQ1
  have N1 := Fr.app N0 N1q
  obtain ⟨LL2, X1, N1⟩ : ∃ LL, Stand pG l eG _ _ mG _ belowG methG cG T1 LL 0 0 ∧ Fr n0 LL := ⟨_, X1, N1⟩
  refine ob T1 (mkF mG 4 #[oa wG, oi (1 : Int32), .unset] [(.int (6 : Int32))]) (fun _ kk => st1.trans kk) ?_
  refine ob T1 (mkF mG 96 #[oa wG, oi (1 : Int32), .unset] []) (fun _ kk => XS.tswIn X1.here hx rfl (pc0 := 4) (pc' := 96) rfl (hb hby d7_4) rfl (by decide) (o := 92) (by decide) (by decide) (by decide) kk) ?_
  obtain ⟨T3, X3, e3, st3⟩ := getS2 X1 hx hZ hown (host := "") (Or.inl (ow hw 106 rfl)) Via.refl e1 (S_wN.ext O0.2) (g := (mkF mG 96 #[oa wG, oi (1 : Int32), .unset] [])) rfl (hb hby d7_96)
  refine ob T3 (mkF mG 99 #[oa wG, oi (1 : Int32), .unset] [(.ref wN)]) (fun _ kk => st3 _ kk) ?_
  refine ob T3 (mkF mG 127 #[oa wG, oi (1 : Int32), .unset] [(.ref wN)]) (fun _ kk => XS.goto X3.here hx rfl (pc0 := 99) (pc' := 127) rfl (hb hby d7_99) (by decide) (by decide) kk) ?_
  refine ob T3 (mkF mG 128 #[oa wG, oi (1 : Int32), oa wN] []) (fun _ kk => XS.astoreN X3.here hx rfl (hb hby d7_127) rfl rfl (l' := #[oa wG, oi (1 : Int32), oa wN]) rfl kk) ?_
  refine ob T3 (mkF mG 129 #[oa wG, oi (1 : Int32), oa wN] [(.ref wN)]) (fun _ kk => XS.aloadN X3.here hx rfl (hb hby d7_128) rfl rfl kk) ?_
  obtain ⟨_, _, ⟨T4, L4, k4, n4⟩, -, X4, ⟨Lc4, hQ4, l4, y4, z4⟩, st4⟩ := Jvm.LawKit.callS X3 hx (y := (⟨"java/util/Optional", "ofNullable", "(Ljava/lang/Object;)Ljava/util/Optional;"⟩ : MethodName)) hown (mvT hZ (ow hw 65 rfl)) (mvT hZ (ow hw 66 rfl)) (mvT hZ (ow hw 67 rfl)) (mvT hZ (ow hw 68 rfl)) (by decide) (backOf (W := 0) (rm_onS l Z a0 hw [] wA wD wG wU wV wN wB wC wF wE wO k_1 k_2 wN h0 n0 O0 hS ) hZ (ow hw 68 rfl) (ow hw 67 rfl) (by decide) (by decide)) (g := (mkF mG 129 #[oa wG, oi (1 : Int32), oa wN] [(.ref wN)])) rfl (by rw [hml]; rfl) (argsL := [(.ref wN)]) (rest := []) (lenOf pd_5 rfl) rfl (by show 2 * 0 + _ ≤ _; exact Nat.le_of_eq rfl) (hb hby d7_129) (fun _ _ => ⟨rfl, e3, (by decide : 0 + 1 ≤ _), (by decide : 0 + 1 ≤ _)⟩)
  dsimp only [Pt.U, Pt.locs, Pt.cells, Pt.slots] at X4 l4 y4 z4 st4 hQ4
  subst l4 y4 z4
  obtain ⟨h4, e4⟩ : ∃ h, T4.heap = h := ⟨_, rfl⟩
  rw [e4] at hQ4
  obtain ⟨b0_4, rfl, N4q, K4q, O4, n_b0_4, z_b0_4, F4_0, F4_1⟩ := hQ4
  have N4 := Fr.app N1 N4q
  have sz_b0_4 : h0.size ≤ b0_4 := Nat.le_trans K0.1 z_b0_4
  have K4 := K0.trans K4q all0
  obtain ⟨LL5, X4, N4⟩ : ∃ LL, Stand pG l eG _ _ mG _ belowG methG cG T4 LL 1 1 ∧ Fr n0 LL := ⟨_, X4, N4⟩
  refine ob T4 (mkF mG 132 #[oa wG, oi (1 : Int32), oa wN] [(.ref b0_4)]) (fun _ kk => st4 _ kk) ?_
  obtain ⟨fs, hr, hrun, hended, hW, hsame⟩ := X4.leave (v := some (.ref b0_4)) (fun h => by rw [Bd.returns] at h; cases h)
  refine oout (oretA X4 hx Bd.returns rfl rfl (hb hby d7_132) hr) hrun hended ⟨_, _, rfl, ?_, ⟨_, rfl⟩, hW, hsame.mono (by decide) (by decide)⟩
  show Q_rm_ap6_1 Z wA wD wG wU wV wN wB wC wF wE wO k_1 k_2  h0 n0 _ T4.heap _
  rw [e4]
  exact ⟨b0_4, rfl, N4, K4, O4, n_b0_4, sz_b0_4, F4_0, F4_1⟩

def Q_rm_apE (Z : State) (wA wD wG wU wV wN wB wC wF wE wO : Addr) (k_1 k_2 : ClassId) (pk : Addr) (ki bv zv : Int32) (h0 : Heap) (n0 : Nat) (v : Option Value) (h : Heap) (L : List Loc) : Prop := v = some (.ref wO) ∧ Fr n0 L ∧ h = h0
set_option maxRecDepth 65536 in
set_option maxHeartbeats 40000000 in
theorem rm_apE (l : Launch) (Z : State) (a0 : Array Value) (hw : ∀ d ∈ tables_1, d.before a0 Z = true) (ws : List Jvm.Cond) (wA wD wG wU wV wN wB wC wF wE wO : Addr) (k_1 k_2 : ClassId) (pk : Addr) (ki bv zv : Int32) (h0 : Heap) (n0 : Nat) (O0 : Old Z n0 h0) (hS : St0 Z wA wD wG wU wV wN wB wC wF wE wO k_1 k_2 ) (pK : oPol wA wB wC wD wE wF wG ki pk) (hb : oBo bv) (hz : oRu ki bv = zv) (lS : zv < (0 : Int32)) :
    MetFree l (⟨"com/example/vorgang/vorgang/model/Policy", "apply", "(Z)Ljava/util/Optional;"⟩ : MethodName) (head1 (Jvm.Cond.code (⟨"com/example/vorgang/vorgang/model/Policy", "apply", "(Z)Ljava/util/Optional;"⟩ : MethodName) prog_19_method_4_code 3 (some (.object "java/util/Optional")) :: ws) ({ frames := 1, cells := 0, slots := 0, locals := 12 } : Room)) (fun aG UG => aG = #[(.ref pk), (.int bv)] ∧ Z.Warmed39 UG.vm ∧ UG.heap = h0) (fun _ _ _ _ _ => True) (fun _ UG oG UG' => ∃ vG LG, oG = .returned vG ∧ Q_rm_apE Z wA wD wG wU wV wN wB wC wF wE wO k_1 k_2 pk ki bv zv h0 n0 vG UG'.heap LG ∧ FrameEnd UG oG UG' LG ({ frames := 1, cells := 0, slots := 0, locals := 12 } : Room).cells ({ frames := 1, cells := 0, slots := 0, locals := 12 } : Room).slots) := by
  rcases pK with ⟨e1, e2⟩ | ⟨e1, e2⟩ | ⟨e1, e2⟩ | ⟨e1, e2⟩ | ⟨e1, e2⟩ | ⟨e1, e2⟩ | ⟨e1, e2⟩
  · subst e1; subst e2; rcases hb with e3 | e3
    · subst e3; have e4 : zv = (2 : Int32) := hz.symm.trans (by decide); subst e4; exact absurd lS (by decide)
    · subst e3; have e4 : zv = (1 : Int32) := hz.symm.trans (by decide); subst e4; exact absurd lS (by decide)
  · subst e1; subst e2; rcases hb with e3 | e3
    · subst e3; have e4 : zv = (2 : Int32) := hz.symm.trans (by decide); subst e4; exact absurd lS (by decide)
    · subst e3; have e4 : zv = (2 : Int32) := hz.symm.trans (by decide); subst e4; exact absurd lS (by decide)
  · subst e1; subst e2; rcases hb with e3 | e3
    · subst e3; have e4 : zv = (0 : Int32) := hz.symm.trans (by decide); subst e4; exact absurd lS (by decide)
    · subst e3; have e4 : zv = (1 : Int32) := hz.symm.trans (by decide); subst e4; exact absurd lS (by decide)
  · subst e1; subst e2; rcases hb with e3 | e3
    · subst e3; have e4 : zv = (0 : Int32) := hz.symm.trans (by decide); subst e4; exact absurd lS (by decide)
    · subst e3; have e4 : zv = (0 : Int32) := hz.symm.trans (by decide); subst e4; exact absurd lS (by decide)
  · subst e1; subst e2; rcases hb with e3 | e3
    · subst e3; have e4 : zv = (-1 : Int32) := hz.symm.trans (by decide); subst e4; exact rm_ap4_0 l Z a0 hw ws wA wD wG wU wV wN wB wC wF wE wO k_1 k_2  h0 n0 O0 hS
    · subst e3; have e4 : zv = (1 : Int32) := hz.symm.trans (by decide); subst e4; exact absurd lS (by decide)
  · subst e1; subst e2; rcases hb with e3 | e3
    · subst e3; have e4 : zv = (0 : Int32) := hz.symm.trans (by decide); subst e4; exact absurd lS (by decide)
    · subst e3; have e4 : zv = (-1 : Int32) := hz.symm.trans (by decide); subst e4; exact rm_ap5_1 l Z a0 hw ws wA wD wG wU wV wN wB wC wF wE wO k_1 k_2  h0 n0 O0 hS
  · subst e1; subst e2; rcases hb with e3 | e3
    · subst e3; have e4 : zv = (0 : Int32) := hz.symm.trans (by decide); subst e4; exact absurd lS (by decide)
    · subst e3; have e4 : zv = (0 : Int32) := hz.symm.trans (by decide); subst e4; exact absurd lS (by decide)

def Q_rm_apS (Z : State) (wA wD wG wU wV wN wB wC wF wE wO : Addr) (k_1 k_2 : ClassId) (pk : Addr) (ki bv zv : Int32) (uu : Addr) (h0 : Heap) (n0 : Nat) (v : Option Value) (h : Heap) (L : List Loc) : Prop := ∃ (b0 : Addr), v = some (.ref b0) ∧ Fr n0 L ∧ Keep h0 h [] ∧ Old Z n0 h ∧ n0 ≤ b0 ∧ h0.size ≤ b0 ∧ Exa Z h b0 "java/util/Optional" ∧ Fld Z h b0 "java/util/Optional" "value" "Ljava/lang/Object;" (.ref uu)
set_option maxRecDepth 65536 in
set_option maxHeartbeats 40000000 in
theorem rm_apS (l : Launch) (Z : State) (a0 : Array Value) (hw : ∀ d ∈ tables_1, d.before a0 Z = true) (ws : List Jvm.Cond) (wA wD wG wU wV wN wB wC wF wE wO : Addr) (k_1 k_2 : ClassId) (pk : Addr) (ki bv zv : Int32) (uu : Addr) (h0 : Heap) (n0 : Nat) (O0 : Old Z n0 h0) (hS : St0 Z wA wD wG wU wV wN wB wC wF wE wO k_1 k_2 ) (pK : oPol wA wB wC wD wE wF wG ki pk) (hb : oBo bv) (hz : oRu ki bv = zv) (uS : oUse wN wV wU zv uu) :
    MetFree l (⟨"com/example/vorgang/vorgang/model/Policy", "apply", "(Z)Ljava/util/Optional;"⟩ : MethodName) (head1 (Jvm.Cond.code (⟨"com/example/vorgang/vorgang/model/Policy", "apply", "(Z)Ljava/util/Optional;"⟩ : MethodName) prog_19_method_4_code 3 (some (.object "java/util/Optional")) :: ws) ({ frames := 3, cells := 1, slots := 1, locals := 60 } : Room)) (fun aG UG => aG = #[(.ref pk), (.int bv)] ∧ Z.Warmed39 UG.vm ∧ UG.heap = h0) (fun _ _ _ _ _ => True) (fun _ UG oG UG' => ∃ vG LG, oG = .returned vG ∧ Q_rm_apS Z wA wD wG wU wV wN wB wC wF wE wO k_1 k_2 pk ki bv zv uu h0 n0 vG UG'.heap LG ∧ FrameEnd UG oG UG' LG ({ frames := 3, cells := 1, slots := 1, locals := 60 } : Room).cells ({ frames := 3, cells := 1, slots := 1, locals := 60 } : Room).slots) := by
  rcases pK with ⟨e1, e2⟩ | ⟨e1, e2⟩ | ⟨e1, e2⟩ | ⟨e1, e2⟩ | ⟨e1, e2⟩ | ⟨e1, e2⟩ | ⟨e1, e2⟩
  · subst e1; subst e2; rcases hb with e3 | e3
    · subst e3; have e4 : zv = (2 : Int32) := hz.symm.trans (by decide); subst e4; have e5 := own_use2 uS; subst e5; exact rm_ap0_0 l Z a0 hw ws wA wD wG wU wV wN wB wC wF wE wO k_1 k_2  h0 n0 O0 hS
    · subst e3; have e4 : zv = (1 : Int32) := hz.symm.trans (by decide); subst e4; have e5 := own_use1 uS; subst e5; exact rm_ap0_1 l Z a0 hw ws wA wD wG wU wV wN wB wC wF wE wO k_1 k_2  h0 n0 O0 hS
  · subst e1; subst e2; rcases hb with e3 | e3
    · subst e3; have e4 : zv = (2 : Int32) := hz.symm.trans (by decide); subst e4; have e5 := own_use2 uS; subst e5; exact rm_ap1_0 l Z a0 hw ws wA wD wG wU wV wN wB wC wF wE wO k_1 k_2  h0 n0 O0 hS
    · subst e3; have e4 : zv = (2 : Int32) := hz.symm.trans (by decide); subst e4; have e5 := own_use2 uS; subst e5; exact rm_ap1_1 l Z a0 hw ws wA wD wG wU wV wN wB wC wF wE wO k_1 k_2  h0 n0 O0 hS
  · subst e1; subst e2; rcases hb with e3 | e3
    · subst e3; have e4 : zv = (0 : Int32) := hz.symm.trans (by decide); subst e4; have e5 := own_use0 uS; subst e5; exact rm_ap2_0 l Z a0 hw ws wA wD wG wU wV wN wB wC wF wE wO k_1 k_2  h0 n0 O0 hS
    · subst e3; have e4 : zv = (1 : Int32) := hz.symm.trans (by decide); subst e4; have e5 := own_use1 uS; subst e5; exact rm_ap2_1 l Z a0 hw ws wA wD wG wU wV wN wB wC wF wE wO k_1 k_2  h0 n0 O0 hS
  · subst e1; subst e2; rcases hb with e3 | e3
    · subst e3; have e4 : zv = (0 : Int32) := hz.symm.trans (by decide); subst e4; have e5 := own_use0 uS; subst e5; exact rm_ap3_0 l Z a0 hw ws wA wD wG wU wV wN wB wC wF wE wO k_1 k_2  h0 n0 O0 hS
    · subst e3; have e4 : zv = (0 : Int32) := hz.symm.trans (by decide); subst e4; have e5 := own_use0 uS; subst e5; exact rm_ap3_1 l Z a0 hw ws wA wD wG wU wV wN wB wC wF wE wO k_1 k_2  h0 n0 O0 hS
  · subst e1; subst e2; rcases hb with e3 | e3
    · subst e3; have e4 : zv = (-1 : Int32) := hz.symm.trans (by decide); subst e4; exact (own_useN uS).elim
    · subst e3; have e4 : zv = (1 : Int32) := hz.symm.trans (by decide); subst e4; have e5 := own_use1 uS; subst e5; exact rm_ap4_1 l Z a0 hw ws wA wD wG wU wV wN wB wC wF wE wO k_1 k_2  h0 n0 O0 hS
  · subst e1; subst e2; rcases hb with e3 | e3
    · subst e3; have e4 : zv = (0 : Int32) := hz.symm.trans (by decide); subst e4; have e5 := own_use0 uS; subst e5; exact rm_ap5_0 l Z a0 hw ws wA wD wG wU wV wN wB wC wF wE wO k_1 k_2  h0 n0 O0 hS
    · subst e3; have e4 : zv = (-1 : Int32) := hz.symm.trans (by decide); subst e4; exact (own_useN uS).elim
  · subst e1; subst e2; rcases hb with e3 | e3
    · subst e3; have e4 : zv = (0 : Int32) := hz.symm.trans (by decide); subst e4; have e5 := own_use0 uS; subst e5; exact rm_ap6_0 l Z a0 hw ws wA wD wG wU wV wN wB wC wF wE wO k_1 k_2  h0 n0 O0 hS
    · subst e3; have e4 : zv = (0 : Int32) := hz.symm.trans (by decide); subst e4; have e5 := own_use0 uS; subst e5; exact rm_ap6_1 l Z a0 hw ws wA wD wG wU wV wN wB wC wF wE wO k_1 k_2  h0 n0 O0 hS

theorem d2_0 : decode prog_10_method_1_code 0 = .ok (.aload_n 0, 1) := by decide +kernel
theorem d2_1 : decode prog_10_method_1_code 1 = .ok (.invokespecial 1, 3) := by decide +kernel
theorem d2_4 : decode prog_10_method_1_code 4 = .ok (.aload_n 1, 1) := by decide +kernel
theorem d2_5 : decode prog_10_method_1_code 5 = .ok (.ldc 7, 2) := by decide +kernel
theorem d2_7 : decode prog_10_method_1_code 7 = .ok (.invokestatic 9, 3) := by decide +kernel
theorem d2_10 : decode prog_10_method_1_code 10 = .ok (.pop, 1) := by decide +kernel
theorem d2_11 : decode prog_10_method_1_code 11 = .ok (.aload_n 2, 1) := by decide +kernel
theorem d2_12 : decode prog_10_method_1_code 12 = .ok (.ldc 15, 2) := by decide +kernel
theorem d2_14 : decode prog_10_method_1_code 14 = .ok (.invokestatic 9, 3) := by decide +kernel
theorem d2_17 : decode prog_10_method_1_code 17 = .ok (.pop, 1) := by decide +kernel
theorem d2_18 : decode prog_10_method_1_code 18 = .ok (.aload_n 1, 1) := by decide +kernel
theorem d2_19 : decode prog_10_method_1_code 19 = .ok (.getstatic 17, 3) := by decide +kernel
theorem d2_22 : decode prog_10_method_1_code 22 = .ok (.if_acmp .ne 7, 3) := by decide +kernel
theorem d2_29 : decode prog_10_method_1_code 29 = .ok (.iconst 0, 1) := by decide +kernel
theorem d2_30 : decode prog_10_method_1_code 30 = .ok (.aload_n 2, 1) := by decide +kernel
theorem d2_31 : decode prog_10_method_1_code 31 = .ok (.getstatic 17, 3) := by decide +kernel
theorem d2_34 : decode prog_10_method_1_code 34 = .ok (.if_acmp .ne 7, 3) := by decide +kernel
theorem d2_41 : decode prog_10_method_1_code 41 = .ok (.iconst 0, 1) := by decide +kernel
theorem d2_42 : decode prog_10_method_1_code 42 = .ok (.if_icmp .eq 24, 3) := by decide +kernel
theorem d2_66 : decode prog_10_method_1_code 66 = .ok (.aload_n 0, 1) := by decide +kernel
theorem d2_67 : decode prog_10_method_1_code 67 = .ok (.aload_n 1, 1) := by decide +kernel
theorem d2_68 : decode prog_10_method_1_code 68 = .ok (.putfield 38, 3) := by decide +kernel
theorem d2_71 : decode prog_10_method_1_code 71 = .ok (.aload_n 0, 1) := by decide +kernel
theorem d2_72 : decode prog_10_method_1_code 72 = .ok (.aload_n 2, 1) := by decide +kernel
theorem d2_73 : decode prog_10_method_1_code 73 = .ok (.putfield 42, 3) := by decide +kernel
theorem d2_76 : decode prog_10_method_1_code 76 = .ok (.return_, 1) := by decide +kernel
theorem pd_6 : parseMethodDescriptor "()V" = some ⟨[], none⟩ := by decide +kernel
theorem pd_7 : parseMethodDescriptor "(Ljava/lang/Object;Ljava/lang/String;)Ljava/lang/Object;" = some ⟨[(.object "java/lang/Object"), (.object "java/lang/String")], some (.object "java/lang/Object")⟩ := by decide +kernel
def Q_rm_ciN (Z : State) (wA wD wG wU wV wN wB wC wF wE wO : Addr) (k_1 k_2 : ClassId) (a pa pb : Addr) (u0 u1 : Value) (h0 : Heap) (n0 : Nat) (v : Option Value) (h : Heap) (L : List Loc) : Prop := v = none ∧ Fr n0 L ∧ Keep h0 h [a] ∧ Old Z n0 h ∧ Fld Z h a "com/example/vorgang/vorgang/model/CallPolicy" "sessionKind" "Lcom/example/vorgang/vorgang/model/Policy;" (.ref pa) ∧ Fld Z h a "com/example/vorgang/vorgang/model/CallPolicy" "transactionType" "Lcom/example/vorgang/vorgang/model/Policy;" (.ref pb)
set_option maxRecDepth 65536 in
set_option maxHeartbeats 40000000 in
theorem rm_ciN (l : Launch) (Z : State) (a0 : Array Value) (hw : ∀ d ∈ tables_1, d.before a0 Z = true) (ws : List Jvm.Cond) (wA wD wG wU wV wN wB wC wF wE wO : Addr) (k_1 k_2 : ClassId) (a pa pb : Addr) (u0 u1 : Value) (h0 : Heap) (n0 : Nat) (O0 : Old Z n0 h0) (hS : St0 Z wA wD wG wU wV wN wB wC wF wE wO k_1 k_2 ) (E_a : Exa Z h0 a "com/example/vorgang/vorgang/model/CallPolicy") (F_0 : Fld Z h0 a "com/example/vorgang/vorgang/model/CallPolicy" "sessionKind" "Lcom/example/vorgang/vorgang/model/Policy;" u0) (F_1 : Fld Z h0 a "com/example/vorgang/vorgang/model/CallPolicy" "transactionType" "Lcom/example/vorgang/vorgang/model/Policy;" u1) (n_a : n0 ≤ a) (ne_pa_wG : pa ≠ wG) (ne_pb_wG : pb ≠ wG) :
    MetFree l (⟨"com/example/vorgang/vorgang/model/CallPolicy", "<init>", "(Lcom/example/vorgang/vorgang/model/Policy;Lcom/example/vorgang/vorgang/model/Policy;)V"⟩ : MethodName) (head1 (Jvm.Cond.code (⟨"com/example/vorgang/vorgang/model/CallPolicy", "<init>", "(Lcom/example/vorgang/vorgang/model/Policy;Lcom/example/vorgang/vorgang/model/Policy;)V"⟩ : MethodName) prog_10_method_1_code 3 none :: ws) ({ frames := 2, cells := 4, slots := 112, locals := 24 } : Room)) (fun aG UG => aG = #[(.ref a), (.ref pa), (.ref pb)] ∧ Z.Warmed39 UG.vm ∧ UG.heap = h0 ∧ CHv Z oEL UG.vm h0) (fun _ _ _ _ _ => True) (fun _ UG oG UG' => ∃ vG LG, oG = .returned vG ∧ Q_rm_ciN Z wA wD wG wU wV wN wB wC wF wE wO k_1 k_2 a pa pb u0 u1 h0 n0 vG UG'.heap LG ∧ CHr Z oEL UG.vm UG.heap UG'.vm UG'.heap ∧ ReturnedEndW UG oG UG' LG ({ frames := 2, cells := 4, slots := 112, locals := 24 } : Room).cells ({ frames := 2, cells := 4, slots := 112, locals := 24 } : Room).slots) := by
  refine MetFree.of_bodySF (plainFor_of_name pn_6) hisR ?_
  intro pG eG sG mG argsG belowG methG cG s₁ Bd hml0 hP hK
  obtain ⟨rfl, hZ, hh, hC⟩ := hP
  have hx := Bd.exec
  have hby := Bd.bytes
  have hml : cG.maxLocals = 3 := hml0
  have hown : sG.vm.findClass "com/example/vorgang/vorgang/model/CallPolicy" = some mG.cls := findClass_of_methodNamed Bd.named
  have hnm := (name_of_methodNamed Bd.named Bd.method).1
  have X0 : Stand pG l eG ({ frames := 2, cells := 4, slots := 112, locals := 24 } : Room) (sG.setVm sG.vm) mG #[(.ref a), (.ref pa), (.ref pb)] belowG methG cG s₁ [] 0 0 := Stand.of_body Bd
  have e0 : s₁.heap = h0 := by rw [← hh, Bd.state]; rfl
  have N0 := Fr.nil n0
  have K0 := Keep.refl h0 [a]
  have hS0 : sG.Since sG.vm h0.size := (State.WarmedH.refl sG).since _
  have hk0 : h0.size ≤ h0.size := Nat.le_refl _
  have CR0 : CHr Z oEL sG.vm h0 sG.vm h0 := CHr.refl hC
  have hEL : EW Z a0 oEL := own_EW hw
  obtain ⟨S_wA, E_wA, S_wD, E_wD, S_wG, E_wG, S_wU, E_wU, S_wV, E_wV, S_wN, E_wN, S_wB, E_wB, S_wC, E_wC, S_wF, E_wF, S_wE, E_wE, S_wO, E_wO, F_wA_ordinal, F_wG_ordinal, F_wD_ordinal, F_wU_ordinal, F_wV_ordinal, F_wN_ordinal, F_wB_ordinal, F_wC_ordinal, F_wF_ordinal, F_wE_ordinal, F_wO_value, L_1, L_2, ne_wA_wG, ne_wA_wD, ne_wA_wB, ne_wA_wC, ne_wA_wF, ne_wA_wE, ne_wG_wD, ne_wG_wB, ne_wG_wC, ne_wG_wF, ne_wG_wE, ne_wD_wB, ne_wD_wC, ne_wD_wF, ne_wD_wE, ne_wU_wV, ne_wU_wN, ne_wV_wN, ne_wB_wC, ne_wB_wF, ne_wB_wE, ne_wC_wF, ne_wC_wE, ne_wF_wE⟩ := (id hS : St0 Z wA wD wG wU wV wN wB wC wF wE wO k_1 k_2 )
  refine ostart (g' := (mkF mG 0 #[oa a, oa pa, oa pb] [])) (by first | (simp [entryFrame, mkF, argsToLocals, Value.category]; done) | rfl) ?_
  refine ob s₁ (mkF mG 1 #[oa a, oa pa, oa pb] [(.ref a)]) (fun _ kk => XS.aloadN X0.here hx rfl (hb hby d2_0) rfl rfl kk) ?_
  obtain ⟨_, _, ⟨T1, L1, k1, n1⟩, -, X1, ⟨Lc1, hQ1, l1, y1, z1⟩, st1⟩ := X0.specialBack hx (y := (⟨"java/lang/Record", "<init>", "()V"⟩ : MethodName)) rfl hown (mvT hZ (ow hw 16 rfl)) (mvT hZ (ow hw 17 rfl)) (mvT hZ (ow hw 20 rfl)) (by decide) (backOf (W := 0) (rm_rec l Z a0 hw [] wA wD wG wU wV wN wB wC wF wE wO k_1 k_2 a h0 n0 O0 hS ) hZ (ow hw 20 rfl) (ow hw 19 rfl) (by decide) (by decide)) (g := (mkF mG 1 #[oa a, oa pa, oa pb] [(.ref a)])) rfl (by rw [hml]; rfl) (Steps.refl _) (a := a) (argsL := []) (rest := []) (lenOf pd_6 rfl) rfl (by show 2 * 0 + _ ≤ _; exact Nat.le_of_eq rfl) (hb hby d2_1) (fun _ _ => ⟨rfl, e0, (by decide : 0 + 0 ≤ _), (by decide : 0 + 0 ≤ _)⟩)
  dsimp only [Pt.U, Pt.locs, Pt.cells, Pt.slots] at X1 l1 y1 z1 st1 hQ1
  subst l1 y1 z1
  obtain ⟨rfl, N1q, e1⟩ := hQ1
  have N1 := Fr.app N0 N1q
  obtain ⟨LL2, X1, N1⟩ : ∃ LL, Stand pG l eG _ _ mG _ belowG methG cG T1 LL 0 0 ∧ Fr n0 LL := ⟨_, X1, N1⟩
  refine ob T1 (mkF mG 4 #[oa a, oa pa, oa pb] []) (fun _ kk => st1.trans kk) ?_
  refine ob T1 (mkF mG 5 #[oa a, oa pa, oa pb] [(.ref pa)]) (fun _ kk => XS.aloadN X1.here hx rfl (hb hby d2_4) rfl rfl kk) ?_
  obtain ⟨a3, T3, h3, k13, X3, e3, E3, hS3, hk3, hZ, hown, CS3, Li3, st3⟩ := ldcOH X1 hx hZ hown (ow hw 24 rfl) (fun d hd => hw d (own_atoms d hd)) e1 hS0 hk0 hEL CR0.1 (g := (mkF mG 5 #[oa a, oa pa, oa pb] [(.ref pa)])) rfl (hb hby d2_5) (n := 44) (by decide) (by decide) (by decide) (by decide)
  have CR3 := CR0.trans CS3
  have O3 := O0.ext E3
  have K3 := K0.ext E3
  obtain ⟨LL4, X3, N1⟩ : ∃ LL, Stand pG l eG _ _ mG _ belowG methG cG T3 LL 2 48 ∧ Fr n0 LL := ⟨_, X3, N1⟩
  refine ob T3 (mkF mG 7 #[oa a, oa pa, oa pb] [(.ref a3), (.ref pa)]) (fun _ kk => st3 _ kk) ?_
  obtain ⟨_, _, ⟨T5, L5, k5, n5⟩, -, X5, ⟨Lc5, hQ5, l5, y5, z5⟩, st5⟩ := Jvm.LawKit.callS X3 hx (y := (⟨"java/util/Objects", "requireNonNull", "(Ljava/lang/Object;Ljava/lang/String;)Ljava/lang/Object;"⟩ : MethodName)) hown (mvT hZ (ow hw 32 rfl)) (mvT hZ (ow hw 33 rfl)) (mvT hZ (ow hw 34 rfl)) (mvT hZ (ow hw 35 rfl)) (by decide) (backOf (W := 0) (rm_rn2 l Z a0 hw [] wA wD wG wU wV wN wB wC wF wE wO k_1 k_2 pa a3 h3 n0 O3 hS ) hZ (ow hw 35 rfl) (ow hw 34 rfl) (by decide) (by decide)) (g := (mkF mG 7 #[oa a, oa pa, oa pb] [(.ref a3), (.ref pa)])) rfl (by rw [hml]; rfl) (argsL := [(.ref pa), (.ref a3)]) (rest := []) (lenOf pd_7 rfl) rfl (by show 2 * 0 + _ ≤ _; exact Nat.le_of_eq rfl) (hb hby d2_7) (fun _ _ => ⟨rfl, e3, (by decide : 2 + 0 ≤ _), (by decide : 48 + 0 ≤ _)⟩)
  dsimp only [Pt.U, Pt.locs, Pt.cells, Pt.slots] at X5 l5 y5 z5 st5 hQ5
  subst l5 y5 z5
  obtain ⟨rfl, N5q, e5⟩ := hQ5
  have N5 := Fr.app N1 N5q
  obtain ⟨LL6, X5, N5⟩ : ∃ LL, Stand pG l eG _ _ mG _ belowG methG cG T5 LL 2 48 ∧ Fr n0 LL := ⟨_, X5, N5⟩
  refine ob T5 (mkF mG 10 #[oa a, oa pa, oa pb] [(.ref pa)]) (fun _ kk => st5 _ kk) ?_
  refine ob T5 (mkF mG 11 #[oa a, oa pa, oa pb] []) (fun _ kk => XS.pop X5.here hx rfl (hb hby d2_10) rfl rfl kk) ?_
  refine ob T5 (mkF mG 12 #[oa a, oa pa, oa pb] [(.ref pb)]) (fun _ kk => XS.aloadN X5.here hx rfl (hb hby d2_11) rfl rfl kk) ?_
  obtain ⟨a7, T7, h7, k17, X7, e7, E7, hS7, hk7, hZ, hown, CS7, Li7, st7⟩ := ldcOH X5 hx hZ hown (ow hw 36 rfl) (fun d hd => hw d (own_atoms d hd)) e5 hS3 hk3 hEL CR3.1 (g := (mkF mG 12 #[oa a, oa pa, oa pb] [(.ref pb)])) rfl (hb hby d2_12) (n := 60) (by decide) (by decide) (by decide) (by decide)
  have CR7 := CR3.trans CS7
  have O7 := O3.ext E7
  have K7 := K3.ext E7
  obtain ⟨LL8, X7, N5⟩ : ∃ LL, Stand pG l eG _ _ mG _ belowG methG cG T7 LL 4 112 ∧ Fr n0 LL := ⟨_, X7, N5⟩
  refine ob T7 (mkF mG 14 #[oa a, oa pa, oa pb] [(.ref a7), (.ref pb)]) (fun _ kk => st7 _ kk) ?_
  obtain ⟨_, _, ⟨T9, L9, k9, n9⟩, -, X9, ⟨Lc9, hQ9, l9, y9, z9⟩, st9⟩ := Jvm.LawKit.callS X7 hx (y := (⟨"java/util/Objects", "requireNonNull", "(Ljava/lang/Object;Ljava/lang/String;)Ljava/lang/Object;"⟩ : MethodName)) hown (mvT hZ (ow hw 32 rfl)) (mvT hZ (ow hw 33 rfl)) (mvT hZ (ow hw 34 rfl)) (mvT hZ (ow hw 35 rfl)) (by decide) (backOf (W := 0) (rm_rn2 l Z a0 hw [] wA wD wG wU wV wN wB wC wF wE wO k_1 k_2 pb a7 h7 n0 O7 hS ) hZ (ow hw 35 rfl) (ow hw 34 rfl) (by decide) (by decide)) (g := (mkF mG 14 #[oa a, oa pa, oa pb] [(.ref a7), (.ref pb)])) rfl (by rw [hml]; rfl) (argsL := [(.ref pb), (.ref a7)]) (rest := []) (lenOf pd_7 rfl) rfl (by show 2 * 0 + _ ≤ _; exact Nat.le_of_eq rfl) (hb hby d2_14) (fun _ _ => ⟨rfl, e7, (by decide : 4 + 0 ≤ _), (by decide : 112 + 0 ≤ _)⟩)
  dsimp only [Pt.U, Pt.locs, Pt.cells, Pt.slots] at X9 l9 y9 z9 st9 hQ9
  subst l9 y9 z9
  obtain ⟨rfl, N9q, e9⟩ := hQ9
  have N9 := Fr.app N5 N9q
  obtain ⟨LL10, X9, N9⟩ : ∃ LL, Stand pG l eG _ _ mG _ belowG methG cG T9 LL 4 112 ∧ Fr n0 LL := ⟨_, X9, N9⟩
  refine ob T9 (mkF mG 17 #[oa a, oa pa, oa pb] [(.ref pb)]) (fun _ kk => st9 _ kk) ?_
  refine ob T9 (mkF mG 18 #[oa a, oa pa, oa pb] []) (fun _ kk => XS.pop X9.here hx rfl (hb hby d2_17) rfl rfl kk) ?_
  refine ob T9 (mkF mG 19 #[oa a, oa pa, oa pb] [(.ref pa)]) (fun _ kk => XS.aloadN X9.here hx rfl (hb hby d2_18) rfl rfl kk) ?_
  obtain ⟨T11, X11, e11, st11⟩ := getS2 X9 hx hZ hown (host := "") (Or.inl (ow hw 37 rfl)) Via.refl e9 (S_wG.ext O7.2) (g := (mkF mG 19 #[oa a, oa pa, oa pb] [(.ref pa)])) rfl (hb hby d2_19)
  refine ob T11 (mkF mG 22 #[oa a, oa pa, oa pb] [(.ref wG), (.ref pa)]) (fun _ kk => st11 _ kk) ?_
  refine ob T11 (mkF mG 29 #[oa a, oa pa, oa pb] []) (fun _ kk => Jvm.RoadKit.acmp (g := (mkF mG 22 #[oa a, oa pa, oa pb] [(.ref wG), (.ref pa)])) X11 hx rfl rfl rfl (pc0 := 22) (pc' := 29) (same := false) rfl (hb hby d2_22) rfl (decide_eq_false fun q => ne_pa_wG (Value.ref.inj q)) (by decide) (by decide) kk) ?_
  refine ob T11 (mkF mG 30 #[oa a, oa pa, oa pb] [(.int (0 : Int32))]) (fun _ kk => XS.iconst X11.here hx rfl (hb hby d2_29) kk) ?_
  refine ob T11 (mkF mG 31 #[oa a, oa pa, oa pb] [(.ref pb), (.int (0 : Int32))]) (fun _ kk => XS.aloadN X11.here hx rfl (hb hby d2_30) rfl rfl kk) ?_
  obtain ⟨T12, X12, e12, st12⟩ := getS2 X11 hx hZ hown (host := "") (Or.inl (ow hw 37 rfl)) Via.refl e11 (S_wG.ext O7.2) (g := (mkF mG 31 #[oa a, oa pa, oa pb] [(.ref pb), (.int (0 : Int32))])) rfl (hb hby d2_31)
  refine ob T12 (mkF mG 34 #[oa a, oa pa, oa pb] [(.ref wG), (.ref pb), (.int (0 : Int32))]) (fun _ kk => st12 _ kk) ?_
  refine ob T12 (mkF mG 41 #[oa a, oa pa, oa pb] [(.int (0 : Int32))]) (fun _ kk => Jvm.RoadKit.acmp (g := (mkF mG 34 #[oa a, oa pa, oa pb] [(.ref wG), (.ref pb), (.int (0 : Int32))])) X12 hx rfl rfl rfl (pc0 := 34) (pc' := 41) (same := false) rfl (hb hby d2_34) rfl (decide_eq_false fun q => ne_pb_wG (Value.ref.inj q)) (by decide) (by decide) kk) ?_
  refine ob T12 (mkF mG 42 #[oa a, oa pa, oa pb] [(.int (0 : Int32)), (.int (0 : Int32))]) (fun _ kk => XS.iconst X12.here hx rfl (hb hby d2_41) kk) ?_
  refine ob T12 (mkF mG 66 #[oa a, oa pa, oa pb] []) (fun _ kk => XS.icmpYes X12.here hx rfl (pc0 := 42) (pc' := 66) rfl (hb hby d2_42) rfl (teq (by decide : (0 : Int32) = (0 : Int32))).1 (by decide) (by decide) kk) ?_
  refine ob T12 (mkF mG 67 #[oa a, oa pa, oa pb] [(.ref a)]) (fun _ kk => XS.aloadN X12.here hx rfl (hb hby d2_66) rfl rfl kk) ?_
  refine ob T12 (mkF mG 68 #[oa a, oa pa, oa pb] [(.ref pa), (.ref a)]) (fun _ kk => XS.aloadN X12.here hx rfl (hb hby d2_67) rfl rfl kk) ?_
  obtain ⟨T13, h13, X13, e13, W13, st13⟩ := putF X12 hx hZ hown (host := "") (Or.inl (ow hw 39 rfl)) Via.refl e12 ((F_0.ext E3).ext E7) ((E_a.ext E3).ext E7) (Or.inr ⟨(ow hw 40 rfl), rfl, hnm⟩) (ow hw 2 rfl) (ty := (.object "com/example/vorgang/vorgang/model/Policy")) (by decide) rfl rfl (g := (mkF mG 68 #[oa a, oa pa, oa pb] [(.ref pa), (.ref a)])) rfl rfl (hb hby d2_68)
  have F13 := ((F_0.ext E3).ext E7).same W13
  have CS13 : CHr Z oEL T7.vm h7 T7.vm h13 := CHr.wr W13 (Safe.exa hZ.alike ((E_a.ext E3).ext E7) (by decide) (by decide)) CR7.1
  have CR13 := CR7.trans CS13
  have O13 := O7.wr W13 n_a
  have K13 := K7.wr W13 (Or.inl (List.mem_of_getElem? (i := 0) rfl))
  have N13 := Fr.snoc X13 N9 n_a
  obtain ⟨LL14, X13, N13⟩ : ∃ LL, Stand pG l eG _ _ mG _ belowG methG cG T13 LL 4 112 ∧ Fr n0 LL := ⟨_, X13, N13⟩
  refine ob T13 (mkF mG 71 #[oa a, oa pa, oa pb] []) (fun _ kk => st13 _ kk) ?_
  refine ob T13 (mkF mG 72 #[oa a, oa pa, oa pb] [(.ref a)]) (fun _ kk => XS.aloadN X13.here hx rfl (hb hby d2_71) rfl rfl kk) ?_
  refine ob T13 (mkF mG 73 #[oa a, oa pa, oa pb] [(.ref pb), (.ref a)]) (fun _ kk => XS.aloadN X13.here hx rfl (hb hby d2_72) rfl rfl kk) ?_
  obtain ⟨T15, h15, X15, e15, W15, st15⟩ := putF X13 hx hZ hown (host := "") (Or.inl (ow hw 41 rfl)) Via.refl e13 (((F_1.ext E3).ext E7).other W13 (Or.inr (slot_ne (Or.inr (ow hw 42 rfl)) (Or.inr (ow hw 40 rfl)) (by decide) (t := (.object "com/example/vorgang/vorgang/model/Policy")) (t' := (.object "com/example/vorgang/vorgang/model/Policy")) (by decide) (by decide)))) (((E_a.ext E3).ext E7).wr W13) (Or.inr ⟨(ow hw 42 rfl), rfl, hnm⟩) (ow hw 2 rfl) (ty := (.object "com/example/vorgang/vorgang/model/Policy")) (by decide) rfl rfl (g := (mkF mG 73 #[oa a, oa pa, oa pb] [(.ref pb), (.ref a)])) rfl rfl (hb hby d2_73)
  have F15 := (((F_1.ext E3).ext E7).other W13 (Or.inr (slot_ne (Or.inr (ow hw 42 rfl)) (Or.inr (ow hw 40 rfl)) (by decide) (t := (.object "com/example/vorgang/vorgang/model/Policy")) (t' := (.object "com/example/vorgang/vorgang/model/Policy")) (by decide) (by decide)))).same W15
  have CS15 : CHr Z oEL T7.vm h13 T7.vm h15 := CHr.wr W15 (Safe.exa hZ.alike (((E_a.ext E3).ext E7).wr W13) (by decide) (by decide)) CR13.1
  have CR15 := CR13.trans CS15
  have O15 := O13.wr W15 n_a
  have K15 := K13.wr W15 (Or.inl (List.mem_of_getElem? (i := 0) rfl))
  have N15 := Fr.snoc X15 N13 n_a
  obtain ⟨LL16, X15, N15⟩ : ∃ LL, Stand pG l eG _ _ mG _ belowG methG cG T15 LL 4 112 ∧ Fr n0 LL := ⟨_, X15, N15⟩
  refine ob T15 (mkF mG 76 #[oa a, oa pa, oa pb] []) (fun _ kk => st15 _ kk) ?_
  obtain ⟨fs, hr, hrun, hended, hW, hsame⟩ := X15.leave (v := none) (fun _ => rfl)
  obtain ⟨w1, w2, w3⟩ := State.Since.ended (U := T15.setFrames fs) hS7 hW (by show _ ≤ T15.heap.size; rw [e15]; exact (Nat.le_trans (Nat.le_trans hk7 CS13.2.1) CS15.2.1)) hsame
  have CF := CR15.trans (CHv.at X15 hZ hEL CR15.1)
  refine oout (X15.returnOut hx Bd.returns (hb hby d2_76) hr) hrun hended ⟨_, _, rfl, ?_, ?_, ⟨_, rfl⟩, w1, w2, w3.mono (by decide) (by decide)⟩
  · show Q_rm_ciN Z wA wD wG wU wV wN wB wC wF wE wO k_1 k_2 a pa pb u0 u1 h0 n0 _ T15.heap _
    rw [e15]
    exact ⟨rfl, N15, K15, O15, (F13.other W15 (Or.inr (slot_ne (Or.inr (ow hw 40 rfl)) (Or.inr (ow hw 42 rfl)) (by decide) (t := (.object "com/example/vorgang/vorgang/model/Policy")) (t' := (.object "com/example/vorgang/vorgang/model/Policy")) (by decide) (by decide)))), F15⟩
  · show CHr Z oEL sG.vm sG.heap T15.vm T15.heap
    rw [hh, e15]
    exact CF

theorem d2_25 : decode prog_10_method_1_code 25 = .ok (.iconst 1, 1) := by decide +kernel
theorem d2_26 : decode prog_10_method_1_code 26 = .ok (.goto 4, 3) := by decide +kernel
theorem d2_37 : decode prog_10_method_1_code 37 = .ok (.iconst 1, 1) := by decide +kernel
theorem d2_38 : decode prog_10_method_1_code 38 = .ok (.goto 4, 3) := by decide +kernel
def Q_rm_ciB (Z : State) (wA wD wG wU wV wN wB wC wF wE wO : Addr) (k_1 k_2 : ClassId) (a : Addr) (u0 u1 : Value) (h0 : Heap) (n0 : Nat) (v : Option Value) (h : Heap) (L : List Loc) : Prop := v = none ∧ Fr n0 L ∧ Keep h0 h [a] ∧ Old Z n0 h ∧ Fld Z h a "com/example/vorgang/vorgang/model/CallPolicy" "sessionKind" "Lcom/example/vorgang/vorgang/model/Policy;" (.ref wG) ∧ Fld Z h a "com/example/vorgang/vorgang/model/CallPolicy" "transactionType" "Lcom/example/vorgang/vorgang/model/Policy;" (.ref wG)
set_option maxRecDepth 65536 in
set_option maxHeartbeats 40000000 in
theorem rm_ciB (l : Launch) (Z : State) (a0 : Array Value) (hw : ∀ d ∈ tables_1, d.before a0 Z = true) (ws : List Jvm.Cond) (wA wD wG wU wV wN wB wC wF wE wO : Addr) (k_1 k_2 : ClassId) (a : Addr) (u0 u1 : Value) (h0 : Heap) (n0 : Nat) (O0 : Old Z n0 h0) (hS : St0 Z wA wD wG wU wV wN wB wC wF wE wO k_1 k_2 ) (E_a : Exa Z h0 a "com/example/vorgang/vorgang/model/CallPolicy") (F_0 : Fld Z h0 a "com/example/vorgang/vorgang/model/CallPolicy" "sessionKind" "Lcom/example/vorgang/vorgang/model/Policy;" u0) (F_1 : Fld Z h0 a "com/example/vorgang/vorgang/model/CallPolicy" "transactionType" "Lcom/example/vorgang/vorgang/model/Policy;" u1) (n_a : n0 ≤ a) :
    MetFree l (⟨"com/example/vorgang/vorgang/model/CallPolicy", "<init>", "(Lcom/example/vorgang/vorgang/model/Policy;Lcom/example/vorgang/vorgang/model/Policy;)V"⟩ : MethodName) (head1 (Jvm.Cond.code (⟨"com/example/vorgang/vorgang/model/CallPolicy", "<init>", "(Lcom/example/vorgang/vorgang/model/Policy;Lcom/example/vorgang/vorgang/model/Policy;)V"⟩ : MethodName) prog_10_method_1_code 3 none :: ws) ({ frames := 2, cells := 4, slots := 112, locals := 24 } : Room)) (fun aG UG => aG = #[(.ref a), (.ref wG), (.ref wG)] ∧ Z.Warmed39 UG.vm ∧ UG.heap = h0 ∧ CHv Z oEL UG.vm h0) (fun _ _ _ _ _ => True) (fun _ UG oG UG' => ∃ vG LG, oG = .returned vG ∧ Q_rm_ciB Z wA wD wG wU wV wN wB wC wF wE wO k_1 k_2 a u0 u1 h0 n0 vG UG'.heap LG ∧ CHr Z oEL UG.vm UG.heap UG'.vm UG'.heap ∧ ReturnedEndW UG oG UG' LG ({ frames := 2, cells := 4, slots := 112, locals := 24 } : Room).cells ({ frames := 2, cells := 4, slots := 112, locals := 24 } : Room).slots) := by
  refine MetFree.of_bodySF (plainFor_of_name pn_6) hisR ?_
  intro pG eG sG mG argsG belowG methG cG s₁ Bd hml0 hP hK
  obtain ⟨rfl, hZ, hh, hC⟩ := hP
  have hx := Bd.exec
  have hby := Bd.bytes
  have hml : cG.maxLocals = 3 := hml0
  have hown : sG.vm.findClass "com/example/vorgang/vorgang/model/CallPolicy" = some mG.cls := findClass_of_methodNamed Bd.named
  have hnm := (name_of_methodNamed Bd.named Bd.method).1
  have X0 : Stand pG l eG ({ frames := 2, cells := 4, slots := 112, locals := 24 } : Room) (sG.setVm sG.vm) mG #[(.ref a), (.ref wG), (.ref wG)] belowG methG cG s₁ [] 0 0 := Stand.of_body Bd
  have e0 : s₁.heap = h0 := by rw [← hh, Bd.state]; rfl
  have N0 := Fr.nil n0
  have K0 := Keep.refl h0 [a]
  have hS0 : sG.Since sG.vm h0.size := (State.WarmedH.refl sG).since _
  have hk0 : h0.size ≤ h0.size := Nat.le_refl _
  have CR0 : CHr Z oEL sG.vm h0 sG.vm h0 := CHr.refl hC
  have hEL : EW Z a0 oEL := own_EW hw
  obtain ⟨S_wA, E_wA, S_wD, E_wD, S_wG, E_wG, S_wU, E_wU, S_wV, E_wV, S_wN, E_wN, S_wB, E_wB, S_wC, E_wC, S_wF, E_wF, S_wE, E_wE, S_wO, E_wO, F_wA_ordinal, F_wG_ordinal, F_wD_ordinal, F_wU_ordinal, F_wV_ordinal, F_wN_ordinal, F_wB_ordinal, F_wC_ordinal, F_wF_ordinal, F_wE_ordinal, F_wO_value, L_1, L_2, ne_wA_wG, ne_wA_wD, ne_wA_wB, ne_wA_wC, ne_wA_wF, ne_wA_wE, ne_wG_wD, ne_wG_wB, ne_wG_wC, ne_wG_wF, ne_wG_wE, ne_wD_wB, ne_wD_wC, ne_wD_wF, ne_wD_wE, ne_wU_wV, ne_wU_wN, ne_wV_wN, ne_wB_wC, ne_wB_wF, ne_wB_wE, ne_wC_wF, ne_wC_wE, ne_wF_wE⟩ := (id hS : St0 Z wA wD wG wU wV wN wB wC wF wE wO k_1 k_2 )
  refine ostart (g' := (mkF mG 0 #[oa a, oa wG, oa wG] [])) (by first | (simp [entryFrame, mkF, argsToLocals, Value.category]; done) | rfl) ?_
  refine ob s₁ (mkF mG 1 #[oa a, oa wG, oa wG] [(.ref a)]) (fun _ kk => XS.aloadN X0.here hx rfl (hb hby d2_0) rfl rfl kk) ?_
  obtain ⟨_, _, ⟨T1, L1, k1, n1⟩, -, X1, ⟨Lc1, hQ1, l1, y1, z1⟩, st1⟩ := X0.specialBack hx (y := (⟨"java/lang/Record", "<init>", "()V"⟩ : MethodName)) rfl hown (mvT hZ (ow hw 16 rfl)) (mvT hZ (ow hw 17 rfl)) (mvT hZ (ow hw 20 rfl)) (by decide) (backOf (W := 0) (rm_rec l Z a0 hw [] wA wD wG wU wV wN wB wC wF wE wO k_1 k_2 a h0 n0 O0 hS ) hZ (ow hw 20 rfl) (ow hw 19 rfl) (by decide) (by decide)) (g := (mkF mG 1 #[oa a, oa wG, oa wG] [(.ref a)])) rfl (by rw [hml]; rfl) (Steps.refl _) (a := a) (argsL := []) (rest := []) (lenOf pd_6 rfl) rfl (by show 2 * 0 + _ ≤ _; exact Nat.le_of_eq rfl) (hb hby d2_1) (fun _ _ => ⟨rfl, e0, (by decide : 0 + 0 ≤ _), (by decide : 0 + 0 ≤ _)⟩)
  dsimp only [Pt.U, Pt.locs, Pt.cells, Pt.slots] at X1 l1 y1 z1 st1 hQ1
  subst l1 y1 z1
  obtain ⟨rfl, N1q, e1⟩ := hQ1
  have N1 := Fr.app N0 N1q
  obtain ⟨LL2, X1, N1⟩ : ∃ LL, Stand pG l eG _ _ mG _ belowG methG cG T1 LL 0 0 ∧ Fr n0 LL := ⟨_, X1, N1⟩
  refine ob T1 (mkF mG 4 #[oa a, oa wG, oa wG] []) (fun _ kk => st1.trans kk) ?_
  refine ob T1 (mkF mG 5 #[oa a, oa wG, oa wG] [(.ref wG)]) (fun _ kk => XS.aloadN X1.here hx rfl (hb hby d2_4) rfl rfl kk) ?_
  obtain ⟨a3, T3, h3, k13, X3, e3, E3, hS3, hk3, hZ, hown, CS3, Li3, st3⟩ := ldcOH X1 hx hZ hown (ow hw 24 rfl) (fun d hd => hw d (own_atoms d hd)) e1 hS0 hk0 hEL CR0.1 (g := (mkF mG 5 #[oa a, oa wG, oa wG] [(.ref wG)])) rfl (hb hby d2_5) (n := 44) (by decide) (by decide) (by decide) (by decide)
  have CR3 := CR0.trans CS3
  have O3 := O0.ext E3
  have K3 := K0.ext E3
  obtain ⟨LL4, X3, N1⟩ : ∃ LL, Stand pG l eG _ _ mG _ belowG methG cG T3 LL 2 48 ∧ Fr n0 LL := ⟨_, X3, N1⟩
  refine ob T3 (mkF mG 7 #[oa a, oa wG, oa wG] [(.ref a3), (.ref wG)]) (fun _ kk => st3 _ kk) ?_
  obtain ⟨_, _, ⟨T5, L5, k5, n5⟩, -, X5, ⟨Lc5, hQ5, l5, y5, z5⟩, st5⟩ := Jvm.LawKit.callS X3 hx (y := (⟨"java/util/Objects", "requireNonNull", "(Ljava/lang/Object;Ljava/lang/String;)Ljava/lang/Object;"⟩ : MethodName)) hown (mvT hZ (ow hw 32 rfl)) (mvT hZ (ow hw 33 rfl)) (mvT hZ (ow hw 34 rfl)) (mvT hZ (ow hw 35 rfl)) (by decide) (backOf (W := 0) (rm_rn2 l Z a0 hw [] wA wD wG wU wV wN wB wC wF wE wO k_1 k_2 wG a3 h3 n0 O3 hS ) hZ (ow hw 35 rfl) (ow hw 34 rfl) (by decide) (by decide)) (g := (mkF mG 7 #[oa a, oa wG, oa wG] [(.ref a3), (.ref wG)])) rfl (by rw [hml]; rfl) (argsL := [(.ref wG), (.ref a3)]) (rest := []) (lenOf pd_7 rfl) rfl (by show 2 * 0 + _ ≤ _; exact Nat.le_of_eq rfl) (hb hby d2_7) (fun _ _ => ⟨rfl, e3, (by decide : 2 + 0 ≤ _), (by decide : 48 + 0 ≤ _)⟩)
  dsimp only [Pt.U, Pt.locs, Pt.cells, Pt.slots] at X5 l5 y5 z5 st5 hQ5
  subst l5 y5 z5
  obtain ⟨rfl, N5q, e5⟩ := hQ5
  have N5 := Fr.app N1 N5q
  obtain ⟨LL6, X5, N5⟩ : ∃ LL, Stand pG l eG _ _ mG _ belowG methG cG T5 LL 2 48 ∧ Fr n0 LL := ⟨_, X5, N5⟩
  refine ob T5 (mkF mG 10 #[oa a, oa wG, oa wG] [(.ref wG)]) (fun _ kk => st5 _ kk) ?_
  refine ob T5 (mkF mG 11 #[oa a, oa wG, oa wG] []) (fun _ kk => XS.pop X5.here hx rfl (hb hby d2_10) rfl rfl kk) ?_
  refine ob T5 (mkF mG 12 #[oa a, oa wG, oa wG] [(.ref wG)]) (fun _ kk => XS.aloadN X5.here hx rfl (hb hby d2_11) rfl rfl kk) ?_
  obtain ⟨a7, T7, h7, k17, X7, e7, E7, hS7, hk7, hZ, hown, CS7, Li7, st7⟩ := ldcOH X5 hx hZ hown (ow hw 36 rfl) (fun d hd => hw d (own_atoms d hd)) e5 hS3 hk3 hEL CR3.1 (g := (mkF mG 12 #[oa a, oa wG, oa wG] [(.ref wG)])) rfl (hb hby d2_12) (n := 60) (by decide) (by decide) (by decide) (by decide)
  have CR7 := CR3.trans CS7
  have O7 := O3.ext E7
  have K7 := K3.ext E7
  obtain ⟨LL8, X7, N5⟩ : ∃ LL, Stand pG l eG _ _ mG _ belowG methG cG T7 LL 4 112 ∧ Fr n0 LL := ⟨_, X7, N5⟩
  refine ob T7 (mkF mG 14 #[oa a, oa wG, oa wG] [(.ref a7), (.ref wG)]) (fun _ kk => st7 _ kk) ?_
  obtain ⟨_, _, ⟨T9, L9, k9, n9⟩, -, X9, ⟨Lc9, hQ9, l9, y9, z9⟩, st9⟩ := Jvm.LawKit.callS X7 hx (y := (⟨"java/util/Objects", "requireNonNull", "(Ljava/lang/Object;Ljava/lang/String;)Ljava/lang/Object;"⟩ : MethodName)) hown (mvT hZ (ow hw 32 rfl)) (mvT hZ (ow hw 33 rfl)) (mvT hZ (ow hw 34 rfl)) (mvT hZ (ow hw 35 rfl)) (by decide) (backOf (W := 0) (rm_rn2 l Z a0 hw [] wA wD wG wU wV wN wB wC wF wE wO k_1 k_2 wG a7 h7 n0 O7 hS ) hZ (ow hw 35 rfl) (ow hw 34 rfl) (by decide) (by decide)) (g := (mkF mG 14 #[oa a, oa wG, oa wG] [(.ref a7), (.ref wG)])) rfl (by rw [hml]; rfl) (argsL := [(.ref wG), (.ref a7)]) (rest := []) (lenOf pd_7 rfl) rfl (by show 2 * 0 + _ ≤ _; exact Nat.le_of_eq rfl) (hb hby d2_14) (fun _ _ => ⟨rfl, e7, (by decide : 4 + 0 ≤ _), (by decide : 112 + 0 ≤ _)⟩)
  dsimp only [Pt.U, Pt.locs, Pt.cells, Pt.slots] at X9 l9 y9 z9 st9 hQ9
  subst l9 y9 z9
  obtain ⟨rfl, N9q, e9⟩ := hQ9
  have N9 := Fr.app N5 N9q
  obtain ⟨LL10, X9, N9⟩ : ∃ LL, Stand pG l eG _ _ mG _ belowG methG cG T9 LL 4 112 ∧ Fr n0 LL := ⟨_, X9, N9⟩
  refine ob T9 (mkF mG 17 #[oa a, oa wG, oa wG] [(.ref wG)]) (fun _ kk => st9 _ kk) ?_
  refine ob T9 (mkF mG 18 #[oa a, oa wG, oa wG] []) (fun _ kk => XS.pop X9.here hx rfl (hb hby d2_17) rfl rfl kk) ?_
  refine ob T9 (mkF mG 19 #[oa a, oa wG, oa wG] [(.ref wG)]) (fun _ kk => XS.aloadN X9.here hx rfl (hb hby d2_18) rfl rfl kk) ?_
  obtain ⟨T11, X11, e11, st11⟩ := getS2 X9 hx hZ hown (host := "") (Or.inl (ow hw 37 rfl)) Via.refl e9 (S_wG.ext O7.2) (g := (mkF mG 19 #[oa a, oa wG, oa wG] [(.ref wG)])) rfl (hb hby d2_19)
  refine ob T11 (mkF mG 22 #[oa a, oa wG, oa wG] [(.ref wG), (.ref wG)]) (fun _ kk => st11 _ kk) ?_
  refine ob T11 (mkF mG 25 #[oa a, oa wG, oa wG] []) (fun _ kk => Jvm.RoadKit.acmp (g := (mkF mG 22 #[oa a, oa wG, oa wG] [(.ref wG), (.ref wG)])) X11 hx rfl rfl rfl (pc0 := 22) (pc' := 25) (same := true) rfl (hb hby d2_22) rfl (decide_eq_true rfl) (by decide) (by decide) kk) ?_
  refine ob T11 (mkF mG 26 #[oa a, oa wG, oa wG] [(.int (1 : Int32))]) (fun _ kk => XS.iconst X11.here hx rfl (hb hby d2_25) kk) ?_
  refine ob T11 (mkF mG 30 #[oa a, oa wG, oa wG] [(.int (1 : Int32))]) (fun _ kk => XS.goto X11.here hx rfl (pc0 := 26) (pc' := 30) rfl (hb hby d2_26) (by decide) (by decide) kk) ?_
  refine ob T11 (mkF mG 31 #[oa a, oa wG, oa wG] [(.ref wG), (.int (1 : Int32))]) (fun _ kk => XS.aloadN X11.here hx rfl (hb hby d2_30) rfl rfl kk) ?_
  obtain ⟨T12, X12, e12, st12⟩ := getS2 X11 hx hZ hown (host := "") (Or.inl (ow hw 37 rfl)) Via.refl e11 (S_wG.ext O7.2) (g := (mkF mG 31 #[oa a, oa wG, oa wG] [(.ref wG), (.int (1 : Int32))])) rfl (hb hby d2_31)
  refine ob T12 (mkF mG 34 #[oa a, oa wG, oa wG] [(.ref wG), (.ref wG), (.int (1 : Int32))]) (fun _ kk => st12 _ kk) ?_
  refine ob T12 (mkF mG 37 #[oa a, oa wG, oa wG] [(.int (1 : Int32))]) (fun _ kk => Jvm.RoadKit.acmp (g := (mkF mG 34 #[oa a, oa wG, oa wG] [(.ref wG), (.ref wG), (.int (1 : Int32))])) X12 hx rfl rfl rfl (pc0 := 34) (pc' := 37) (same := true) rfl (hb hby d2_34) rfl (decide_eq_true rfl) (by decide) (by decide) kk) ?_
  refine ob T12 (mkF mG 38 #[oa a, oa wG, oa wG] [(.int (1 : Int32)), (.int (1 : Int32))]) (fun _ kk => XS.iconst X12.here hx rfl (hb hby d2_37) kk) ?_
  refine ob T12 (mkF mG 42 #[oa a, oa wG, oa wG] [(.int (1 : Int32)), (.int (1 : Int32))]) (fun _ kk => XS.goto X12.here hx rfl (pc0 := 38) (pc' := 42) rfl (hb hby d2_38) (by decide) (by decide) kk) ?_
  refine ob T12 (mkF mG 66 #[oa a, oa wG, oa wG] []) (fun _ kk => XS.icmpYes X12.here hx rfl (pc0 := 42) (pc' := 66) rfl (hb hby d2_42) rfl (teq (by decide : (1 : Int32) = (1 : Int32))).1 (by decide) (by decide) kk) ?_
  refine ob T12 (mkF mG 67 #[oa a, oa wG, oa wG] [(.ref a)]) (fun _ kk => XS.aloadN X12.here hx rfl (hb hby d2_66) rfl rfl kk) ?_
  refine ob T12 (mkF mG 68 #[oa a, oa wG, oa wG] [(.ref wG), (.ref a)]) (fun _ kk => XS.aloadN X12.here hx rfl (hb hby d2_67) rfl rfl kk) ?_
  obtain ⟨T13, h13, X13, e13, W13, st13⟩ := putF X12 hx hZ hown (host := "") (Or.inl (ow hw 39 rfl)) Via.refl e12 ((F_0.ext E3).ext E7) ((E_a.ext E3).ext E7) (Or.inr ⟨(ow hw 40 rfl), rfl, hnm⟩) (ow hw 2 rfl) (ty := (.object "com/example/vorgang/vorgang/model/Policy")) (by decide) rfl rfl (g := (mkF mG 68 #[oa a, oa wG, oa wG] [(.ref wG), (.ref a)])) rfl rfl (hb hby d2_68)
  have F13 := ((F_0.ext E3).ext E7).same W13
  have CS13 : CHr Z oEL T7.vm h7 T7.vm h13 := CHr.wr W13 (Safe.exa hZ.alike ((E_a.ext E3).ext E7) (by decide) (by decide)) CR7.1
  have CR13 := CR7.trans CS13
  have O13 := O7.wr W13 n_a
  have K13 := K7.wr W13 (Or.inl (List.mem_of_getElem? (i := 0) rfl))
  have N13 := Fr.snoc X13 N9 n_a
  obtain ⟨LL14, X13, N13⟩ : ∃ LL, Stand pG l eG _ _ mG _ belowG methG cG T13 LL 4 112 ∧ Fr n0 LL := ⟨_, X13, N13⟩
  refine ob T13 (mkF mG 71 #[oa a, oa wG, oa wG] []) (fun _ kk => st13 _ kk) ?_
  refine ob T13 (mkF mG 72 #[oa a, oa wG, oa wG] [(.ref a)]) (fun _ kk => XS.aloadN X13.here hx rfl (hb hby d2_71) rfl rfl kk) ?_
  refine ob T13 (mkF mG 73 #[oa a, oa wG, oa wG] [(.ref wG), (.ref a)]) (fun _ kk => XS.aloadN X13.here hx rfl (hb hby d2_72) rfl rfl kk) ?_
  obtain ⟨T15, h15, X15, e15, W15, st15⟩ := putF X13 hx hZ hown (host := "") (Or.inl (ow hw 41 rfl)) Via.refl e13 (((F_1.ext E3).ext E7).other W13 (Or.inr (slot_ne (Or.inr (ow hw 42 rfl)) (Or.inr (ow hw 40 rfl)) (by decide) (t := (.object "com/example/vorgang/vorgang/model/Policy")) (t' := (.object "com/example/vorgang/vorgang/model/Policy")) (by decide) (by decide)))) (((E_a.ext E3).ext E7).wr W13) (Or.inr ⟨(ow hw 42 rfl), rfl, hnm⟩) (ow hw 2 rfl) (ty := (.object "com/example/vorgang/vorgang/model/Policy")) (by decide) rfl rfl (g := (mkF mG 73 #[oa a, oa wG, oa wG] [(.ref wG), (.ref a)])) rfl rfl (hb hby d2_73)
  have F15 := (((F_1.ext E3).ext E7).other W13 (Or.inr (slot_ne (Or.inr (ow hw 42 rfl)) (Or.inr (ow hw 40 rfl)) (by decide) (t := (.object "com/example/vorgang/vorgang/model/Policy")) (t' := (.object "com/example/vorgang/vorgang/model/Policy")) (by decide) (by decide)))).same W15
  have CS15 : CHr Z oEL T7.vm h13 T7.vm h15 := CHr.wr W15 (Safe.exa hZ.alike (((E_a.ext E3).ext E7).wr W13) (by decide) (by decide)) CR13.1
  have CR15 := CR13.trans CS15
  have O15 := O13.wr W15 n_a
  have K15 := K13.wr W15 (Or.inl (List.mem_of_getElem? (i := 0) rfl))
  have N15 := Fr.snoc X15 N13 n_a
  obtain ⟨LL16, X15, N15⟩ : ∃ LL, Stand pG l eG _ _ mG _ belowG methG cG T15 LL 4 112 ∧ Fr n0 LL := ⟨_, X15, N15⟩
  refine ob T15 (mkF mG 76 #[oa a, oa wG, oa wG] []) (fun _ kk => st15 _ kk) ?_
  obtain ⟨fs, hr, hrun, hended, hW, hsame⟩ := X15.leave (v := none) (fun _ => rfl)
  obtain ⟨w1, w2, w3⟩ := State.Since.ended (U := T15.setFrames fs) hS7 hW (by show _ ≤ T15.heap.size; rw [e15]; exact (Nat.le_trans (Nat.le_trans hk7 CS13.2.1) CS15.2.1)) hsame
  have CF := CR15.trans (CHv.at X15 hZ hEL CR15.1)
  refine oout (X15.returnOut hx Bd.returns (hb hby d2_76) hr) hrun hended ⟨_, _, rfl, ?_, ?_, ⟨_, rfl⟩, w1, w2, w3.mono (by decide) (by decide)⟩
  · show Q_rm_ciB Z wA wD wG wU wV wN wB wC wF wE wO k_1 k_2 a u0 u1 h0 n0 _ T15.heap _
    rw [e15]
    exact ⟨rfl, N15, K15, O15, (F13.other W15 (Or.inr (slot_ne (Or.inr (ow hw 40 rfl)) (Or.inr (ow hw 42 rfl)) (by decide) (t := (.object "com/example/vorgang/vorgang/model/Policy")) (t' := (.object "com/example/vorgang/vorgang/model/Policy")) (by decide) (by decide)))), F15⟩
  · show CHr Z oEL sG.vm sG.heap T15.vm T15.heap
    rw [hh, e15]
    exact CF

def Q_rm_ciA (Z : State) (wA wD wG wU wV wN wB wC wF wE wO : Addr) (k_1 k_2 : ClassId) (a pa pb : Addr) (u0 u1 : Value) (h0 : Heap) (n0 : Nat) (v : Option Value) (h : Heap) (L : List Loc) : Prop := v = none ∧ Fr n0 L ∧ Keep h0 h [a] ∧ Old Z n0 h ∧ Fld Z h a "com/example/vorgang/vorgang/model/CallPolicy" "sessionKind" "Lcom/example/vorgang/vorgang/model/Policy;" (.ref pa) ∧ Fld Z h a "com/example/vorgang/vorgang/model/CallPolicy" "transactionType" "Lcom/example/vorgang/vorgang/model/Policy;" (.ref pb)
set_option maxRecDepth 65536 in
set_option maxHeartbeats 40000000 in
theorem rm_ciA (l : Launch) (Z : State) (a0 : Array Value) (hw : ∀ d ∈ tables_1, d.before a0 Z = true) (ws : List Jvm.Cond) (wA wD wG wU wV wN wB wC wF wE wO : Addr) (k_1 k_2 : ClassId) (a pa pb : Addr) (u0 u1 : Value) (h0 : Heap) (n0 : Nat) (O0 : Old Z n0 h0) (hS : St0 Z wA wD wG wU wV wN wB wC wF wE wO k_1 k_2 ) (E_a : Exa Z h0 a "com/example/vorgang/vorgang/model/CallPolicy") (F_0 : Fld Z h0 a "com/example/vorgang/vorgang/model/CallPolicy" "sessionKind" "Lcom/example/vorgang/vorgang/model/Policy;" u0) (F_1 : Fld Z h0 a "com/example/vorgang/vorgang/model/CallPolicy" "transactionType" "Lcom/example/vorgang/vorgang/model/Policy;" u1) (n_a : n0 ≤ a) (hBM : (wG = pa ∧ wG = pb) ∨ (pa ≠ wG ∧ pb ≠ wG)) :
    MetFree l (⟨"com/example/vorgang/vorgang/model/CallPolicy", "<init>", "(Lcom/example/vorgang/vorgang/model/Policy;Lcom/example/vorgang/vorgang/model/Policy;)V"⟩ : MethodName) (head1 (Jvm.Cond.code (⟨"com/example/vorgang/vorgang/model/CallPolicy", "<init>", "(Lcom/example/vorgang/vorgang/model/Policy;Lcom/example/vorgang/vorgang/model/Policy;)V"⟩ : MethodName) prog_10_method_1_code 3 none :: ws) ({ frames := 2, cells := 4, slots := 112, locals := 24 } : Room)) (fun aG UG => aG = #[(.ref a), (.ref pa), (.ref pb)] ∧ Z.Warmed39 UG.vm ∧ UG.heap = h0 ∧ CHv Z oEL UG.vm h0) (fun _ _ _ _ _ => True) (fun _ UG oG UG' => ∃ vG LG, oG = .returned vG ∧ Q_rm_ciA Z wA wD wG wU wV wN wB wC wF wE wO k_1 k_2 a pa pb u0 u1 h0 n0 vG UG'.heap LG ∧ CHr Z oEL UG.vm UG.heap UG'.vm UG'.heap ∧ ReturnedEndW UG oG UG' LG ({ frames := 2, cells := 4, slots := 112, locals := 24 } : Room).cells ({ frames := 2, cells := 4, slots := 112, locals := 24 } : Room).slots) := by
  rcases hBM with ⟨e1, e2⟩ | ⟨e1, e2⟩
  · subst e1; subst e2; exact rm_ciB l Z a0 hw ws wA wD wG wU wV wN wB wC wF wE wO k_1 k_2 a u0 u1 h0 n0 O0 hS E_a F_0 F_1 n_a
  · exact rm_ciN l Z a0 hw ws wA wD wG wU wV wN wB wC wF wE wO k_1 k_2 a pa pb u0 u1 h0 n0 O0 hS E_a F_0 F_1 n_a e1 e2

theorem d17_0 : decode prog_9_method_1_code 0 = .ok (.aload_n 0, 1) := by decide +kernel
theorem d17_1 : decode prog_9_method_1_code 1 = .ok (.invokespecial 1, 3) := by decide +kernel
theorem d17_4 : decode prog_9_method_1_code 4 = .ok (.aload_n 1, 1) := by decide +kernel
theorem d17_5 : decode prog_9_method_1_code 5 = .ok (.ldc 7, 2) := by decide +kernel
theorem d17_7 : decode prog_9_method_1_code 7 = .ok (.invokestatic 9, 3) := by decide +kernel
theorem d17_10 : decode prog_9_method_1_code 10 = .ok (.pop, 1) := by decide +kernel
theorem d17_11 : decode prog_9_method_1_code 11 = .ok (.aload_n 2, 1) := by decide +kernel
theorem d17_12 : decode prog_9_method_1_code 12 = .ok (.ldc 15, 2) := by decide +kernel
theorem d17_14 : decode prog_9_method_1_code 14 = .ok (.invokestatic 9, 3) := by decide +kernel
theorem d17_17 : decode prog_9_method_1_code 17 = .ok (.pop, 1) := by decide +kernel
theorem d17_18 : decode prog_9_method_1_code 18 = .ok (.aload_n 0, 1) := by decide +kernel
theorem d17_19 : decode prog_9_method_1_code 19 = .ok (.aload_n 1, 1) := by decide +kernel
theorem d17_20 : decode prog_9_method_1_code 20 = .ok (.putfield 17, 3) := by decide +kernel
theorem d17_23 : decode prog_9_method_1_code 23 = .ok (.aload_n 0, 1) := by decide +kernel
theorem d17_24 : decode prog_9_method_1_code 24 = .ok (.aload_n 2, 1) := by decide +kernel
theorem d17_25 : decode prog_9_method_1_code 25 = .ok (.putfield 22, 3) := by decide +kernel
theorem d17_28 : decode prog_9_method_1_code 28 = .ok (.return_, 1) := by decide +kernel
def Q_rm_cci (Z : State) (wA wD wG wU wV wN wB wC wF wE wO : Addr) (k_1 k_2 : ClassId) (a pa pb : Addr) (u0 u1 : Value) (h0 : Heap) (n0 : Nat) (v : Option Value) (h : Heap) (L : List Loc) : Prop := v = none ∧ Fr n0 L ∧ Keep h0 h [a] ∧ Old Z n0 h ∧ Fld Z h a "com/example/vorgang/vorgang/model/CallContexts" "session" "Lcom/example/vorgang/vorgang/model/ContextUse;" (.ref pa) ∧ Fld Z h a "com/example/vorgang/vorgang/model/CallContexts" "transaction" "Lcom/example/vorgang/vorgang/model/ContextUse;" (.ref pb)
set_option maxRecDepth 65536 in
set_option maxHeartbeats 40000000 in
theorem rm_cci (l : Launch) (Z : State) (a0 : Array Value) (hw : ∀ d ∈ tables_1, d.before a0 Z = true) (ws : List Jvm.Cond) (wA wD wG wU wV wN wB wC wF wE wO : Addr) (k_1 k_2 : ClassId) (a pa pb : Addr) (u0 u1 : Value) (h0 : Heap) (n0 : Nat) (O0 : Old Z n0 h0) (hS : St0 Z wA wD wG wU wV wN wB wC wF wE wO k_1 k_2 ) (E_a : Exa Z h0 a "com/example/vorgang/vorgang/model/CallContexts") (F_0 : Fld Z h0 a "com/example/vorgang/vorgang/model/CallContexts" "session" "Lcom/example/vorgang/vorgang/model/ContextUse;" u0) (F_1 : Fld Z h0 a "com/example/vorgang/vorgang/model/CallContexts" "transaction" "Lcom/example/vorgang/vorgang/model/ContextUse;" u1) (n_a : n0 ≤ a) :
    MetFree l (⟨"com/example/vorgang/vorgang/model/CallContexts", "<init>", "(Lcom/example/vorgang/vorgang/model/ContextUse;Lcom/example/vorgang/vorgang/model/ContextUse;)V"⟩ : MethodName) (head1 (Jvm.Cond.code (⟨"com/example/vorgang/vorgang/model/CallContexts", "<init>", "(Lcom/example/vorgang/vorgang/model/ContextUse;Lcom/example/vorgang/vorgang/model/ContextUse;)V"⟩ : MethodName) prog_9_method_1_code 3 none :: ws) ({ frames := 2, cells := 4, slots := 80, locals := 24 } : Room)) (fun aG UG => aG = #[(.ref a), (.ref pa), (.ref pb)] ∧ Z.Warmed39 UG.vm ∧ UG.heap = h0 ∧ CHv Z oEL UG.vm h0) (fun _ _ _ _ _ => True) (fun _ UG oG UG' => ∃ vG LG, oG = .returned vG ∧ Q_rm_cci Z wA wD wG wU wV wN wB wC wF wE wO k_1 k_2 a pa pb u0 u1 h0 n0 vG UG'.heap LG ∧ CHr Z oEL UG.vm UG.heap UG'.vm UG'.heap ∧ ReturnedEndW UG oG UG' LG ({ frames := 2, cells := 4, slots := 80, locals := 24 } : Room).cells ({ frames := 2, cells := 4, slots := 80, locals := 24 } : Room).slots) := by
  refine MetFree.of_bodySF (plainFor_of_name pn_7) hisR ?_
  intro pG eG sG mG argsG belowG methG cG s₁ Bd hml0 hP hK
  obtain ⟨rfl, hZ, hh, hC⟩ := hP
  have hx := Bd.exec
  have hby := Bd.bytes
  have hml : cG.maxLocals = 3 := hml0
  have hown : sG.vm.findClass "com/example/vorgang/vorgang/model/CallContexts" = some mG.cls := findClass_of_methodNamed Bd.named
  have hnm := (name_of_methodNamed Bd.named Bd.method).1
  have X0 : Stand pG l eG ({ frames := 2, cells := 4, slots := 80, locals := 24 } : Room) (sG.setVm sG.vm) mG #[(.ref a), (.ref pa), (.ref pb)] belowG methG cG s₁ [] 0 0 := Stand.of_body Bd
  have e0 : s₁.heap = h0 := by rw [← hh, Bd.state]; rfl
  have N0 := Fr.nil n0
  have K0 := Keep.refl h0 [a]
  have hS0 : sG.Since sG.vm h0.size := (State.WarmedH.refl sG).since _
  have hk0 : h0.size ≤ h0.size := Nat.le_refl _
  have CR0 : CHr Z oEL sG.vm h0 sG.vm h0 := CHr.refl hC
  have hEL : EW Z a0 oEL := own_EW hw
  obtain ⟨S_wA, E_wA, S_wD, E_wD, S_wG, E_wG, S_wU, E_wU, S_wV, E_wV, S_wN, E_wN, S_wB, E_wB, S_wC, E_wC, S_wF, E_wF, S_wE, E_wE, S_wO, E_wO, F_wA_ordinal, F_wG_ordinal, F_wD_ordinal, F_wU_ordinal, F_wV_ordinal, F_wN_ordinal, F_wB_ordinal, F_wC_ordinal, F_wF_ordinal, F_wE_ordinal, F_wO_value, L_1, L_2, ne_wA_wG, ne_wA_wD, ne_wA_wB, ne_wA_wC, ne_wA_wF, ne_wA_wE, ne_wG_wD, ne_wG_wB, ne_wG_wC, ne_wG_wF, ne_wG_wE, ne_wD_wB, ne_wD_wC, ne_wD_wF, ne_wD_wE, ne_wU_wV, ne_wU_wN, ne_wV_wN, ne_wB_wC, ne_wB_wF, ne_wB_wE, ne_wC_wF, ne_wC_wE, ne_wF_wE⟩ := (id hS : St0 Z wA wD wG wU wV wN wB wC wF wE wO k_1 k_2 )
  refine ostart (g' := (mkF mG 0 #[oa a, oa pa, oa pb] [])) (by first | (simp [entryFrame, mkF, argsToLocals, Value.category]; done) | rfl) ?_
  refine ob s₁ (mkF mG 1 #[oa a, oa pa, oa pb] [(.ref a)]) (fun _ kk => XS.aloadN X0.here hx rfl (hb hby d17_0) rfl rfl kk) ?_
  obtain ⟨_, _, ⟨T1, L1, k1, n1⟩, -, X1, ⟨Lc1, hQ1, l1, y1, z1⟩, st1⟩ := X0.specialBack hx (y := (⟨"java/lang/Record", "<init>", "()V"⟩ : MethodName)) rfl hown (mvT hZ (ow hw 121 rfl)) (mvT hZ (ow hw 17 rfl)) (mvT hZ (ow hw 20 rfl)) (by decide) (backOf (W := 0) (rm_rec l Z a0 hw [] wA wD wG wU wV wN wB wC wF wE wO k_1 k_2 a h0 n0 O0 hS ) hZ (ow hw 20 rfl) (ow hw 19 rfl) (by decide) (by decide)) (g := (mkF mG 1 #[oa a, oa pa, oa pb] [(.ref a)])) rfl (by rw [hml]; rfl) (Steps.refl _) (a := a) (argsL := []) (rest := []) (lenOf pd_6 rfl) rfl (by show 2 * 0 + _ ≤ _; exact Nat.le_of_eq rfl) (hb hby d17_1) (fun _ _ => ⟨rfl, e0, (by decide : 0 + 0 ≤ _), (by decide : 0 + 0 ≤ _)⟩)
  dsimp only [Pt.U, Pt.locs, Pt.cells, Pt.slots] at X1 l1 y1 z1 st1 hQ1
  subst l1 y1 z1
  obtain ⟨rfl, N1q, e1⟩ := hQ1
  have N1 := Fr.app N0 N1q
  obtain ⟨LL2, X1, N1⟩ : ∃ LL, Stand pG l eG _ _ mG _ belowG methG cG T1 LL 0 0 ∧ Fr n0 LL := ⟨_, X1, N1⟩
  refine ob T1 (mkF mG 4 #[oa a, oa pa, oa pb] []) (fun _ kk => st1.trans kk) ?_
  refine ob T1 (mkF mG 5 #[oa a, oa pa, oa pb] [(.ref pa)]) (fun _ kk => XS.aloadN X1.here hx rfl (hb hby d17_4) rfl rfl kk) ?_
  obtain ⟨a3, T3, h3, k13, X3, e3, E3, hS3, hk3, hZ, hown, CS3, Li3, st3⟩ := ldcOH X1 hx hZ hown (ow hw 122 rfl) (fun d hd => hw d (own_atoms d hd)) e1 hS0 hk0 hEL CR0.1 (g := (mkF mG 5 #[oa a, oa pa, oa pb] [(.ref pa)])) rfl (hb hby d17_5) (n := 28) (by decide) (by decide) (by decide) (by decide)
  have CR3 := CR0.trans CS3
  have O3 := O0.ext E3
  have K3 := K0.ext E3
  obtain ⟨LL4, X3, N1⟩ : ∃ LL, Stand pG l eG _ _ mG _ belowG methG cG T3 LL 2 32 ∧ Fr n0 LL := ⟨_, X3, N1⟩
  refine ob T3 (mkF mG 7 #[oa a, oa pa, oa pb] [(.ref a3), (.ref pa)]) (fun _ kk => st3 _ kk) ?_
  obtain ⟨_, _, ⟨T5, L5, k5, n5⟩, -, X5, ⟨Lc5, hQ5, l5, y5, z5⟩, st5⟩ := Jvm.LawKit.callS X3 hx (y := (⟨"java/util/Objects", "requireNonNull", "(Ljava/lang/Object;Ljava/lang/String;)Ljava/lang/Object;"⟩ : MethodName)) hown (mvT hZ (ow hw 123 rfl)) (mvT hZ (ow hw 33 rfl)) (mvT hZ (ow hw 34 rfl)) (mvT hZ (ow hw 35 rfl)) (by decide) (backOf (W := 0) (rm_rn2 l Z a0 hw [] wA wD wG wU wV wN wB wC wF wE wO k_1 k_2 pa a3 h3 n0 O3 hS ) hZ (ow hw 35 rfl) (ow hw 34 rfl) (by decide) (by decide)) (g := (mkF mG 7 #[oa a, oa pa, oa pb] [(.ref a3), (.ref pa)])) rfl (by rw [hml]; rfl) (argsL := [(.ref pa), (.ref a3)]) (rest := []) (lenOf pd_7 rfl) rfl (by show 2 * 0 + _ ≤ _; exact Nat.le_of_eq rfl) (hb hby d17_7) (fun _ _ => ⟨rfl, e3, (by decide : 2 + 0 ≤ _), (by decide : 32 + 0 ≤ _)⟩)
  dsimp only [Pt.U, Pt.locs, Pt.cells, Pt.slots] at X5 l5 y5 z5 st5 hQ5
  subst l5 y5 z5
  obtain ⟨rfl, N5q, e5⟩ := hQ5
  have N5 := Fr.app N1 N5q
  obtain ⟨LL6, X5, N5⟩ : ∃ LL, Stand pG l eG _ _ mG _ belowG methG cG T5 LL 2 32 ∧ Fr n0 LL := ⟨_, X5, N5⟩
  refine ob T5 (mkF mG 10 #[oa a, oa pa, oa pb] [(.ref pa)]) (fun _ kk => st5 _ kk) ?_
  refine ob T5 (mkF mG 11 #[oa a, oa pa, oa pb] []) (fun _ kk => XS.pop X5.here hx rfl (hb hby d17_10) rfl rfl kk) ?_
  refine ob T5 (mkF mG 12 #[oa a, oa pa, oa pb] [(.ref pb)]) (fun _ kk => XS.aloadN X5.here hx rfl (hb hby d17_11) rfl rfl kk) ?_
  obtain ⟨a7, T7, h7, k17, X7, e7, E7, hS7, hk7, hZ, hown, CS7, Li7, st7⟩ := ldcOH X5 hx hZ hown (ow hw 124 rfl) (fun d hd => hw d (own_atoms d hd)) e5 hS3 hk3 hEL CR3.1 (g := (mkF mG 12 #[oa a, oa pa, oa pb] [(.ref pb)])) rfl (hb hby d17_12) (n := 44) (by decide) (by decide) (by decide) (by decide)
  have CR7 := CR3.trans CS7
  have O7 := O3.ext E7
  have K7 := K3.ext E7
  obtain ⟨LL8, X7, N5⟩ : ∃ LL, Stand pG l eG _ _ mG _ belowG methG cG T7 LL 4 80 ∧ Fr n0 LL := ⟨_, X7, N5⟩
  refine ob T7 (mkF mG 14 #[oa a, oa pa, oa pb] [(.ref a7), (.ref pb)]) (fun _ kk => st7 _ kk) ?_
  obtain ⟨_, _, ⟨T9, L9, k9, n9⟩, -, X9, ⟨Lc9, hQ9, l9, y9, z9⟩, st9⟩ := Jvm.LawKit.callS X7 hx (y := (⟨"java/util/Objects", "requireNonNull", "(Ljava/lang/Object;Ljava/lang/String;)Ljava/lang/Object;"⟩ : MethodName)) hown (mvT hZ (ow hw 123 rfl)) (mvT hZ (ow hw 33 rfl)) (mvT hZ (ow hw 34 rfl)) (mvT hZ (ow hw 35 rfl)) (by decide) (backOf (W := 0) (rm_rn2 l Z a0 hw [] wA wD wG wU wV wN wB wC wF wE wO k_1 k_2 pb a7 h7 n0 O7 hS ) hZ (ow hw 35 rfl) (ow hw 34 rfl) (by decide) (by decide)) (g := (mkF mG 14 #[oa a, oa pa, oa pb] [(.ref a7), (.ref pb)])) rfl (by rw [hml]; rfl) (argsL := [(.ref pb), (.ref a7)]) (rest := []) (lenOf pd_7 rfl) rfl (by show 2 * 0 + _ ≤ _; exact Nat.le_of_eq rfl) (hb hby d17_14) (fun _ _ => ⟨rfl, e7, (by decide : 4 + 0 ≤ _), (by decide : 80 + 0 ≤ _)⟩)
  dsimp only [Pt.U, Pt.locs, Pt.cells, Pt.slots] at X9 l9 y9 z9 st9 hQ9
  subst l9 y9 z9
  obtain ⟨rfl, N9q, e9⟩ := hQ9
  have N9 := Fr.app N5 N9q
  obtain ⟨LL10, X9, N9⟩ : ∃ LL, Stand pG l eG _ _ mG _ belowG methG cG T9 LL 4 80 ∧ Fr n0 LL := ⟨_, X9, N9⟩
  refine ob T9 (mkF mG 17 #[oa a, oa pa, oa pb] [(.ref pb)]) (fun _ kk => st9 _ kk) ?_
  refine ob T9 (mkF mG 18 #[oa a, oa pa, oa pb] []) (fun _ kk => XS.pop X9.here hx rfl (hb hby d17_17) rfl rfl kk) ?_
  refine ob T9 (mkF mG 19 #[oa a, oa pa, oa pb] [(.ref a)]) (fun _ kk => XS.aloadN X9.here hx rfl (hb hby d17_18) rfl rfl kk) ?_
  refine ob T9 (mkF mG 20 #[oa a, oa pa, oa pb] [(.ref pa), (.ref a)]) (fun _ kk => XS.aloadN X9.here hx rfl (hb hby d17_19) rfl rfl kk) ?_
  obtain ⟨T11, h11, X11, e11, W11, st11⟩ := putF X9 hx hZ hown (host := "") (Or.inl (ow hw 125 rfl)) Via.refl e9 ((F_0.ext E3).ext E7) ((E_a.ext E3).ext E7) (Or.inr ⟨(ow hw 126 rfl), rfl, hnm⟩) (ow hw 116 rfl) (ty := (.object "com/example/vorgang/vorgang/model/ContextUse")) (by decide) rfl rfl (g := (mkF mG 20 #[oa a, oa pa, oa pb] [(.ref pa), (.ref a)])) rfl rfl (hb hby d17_20)
  have F11 := ((F_0.ext E3).ext E7).same W11
  have CS11 : CHr Z oEL T7.vm h7 T7.vm h11 := CHr.wr W11 (Safe.exa hZ.alike ((E_a.ext E3).ext E7) (by decide) (by decide)) CR7.1
  have CR11 := CR7.trans CS11
  have O11 := O7.wr W11 n_a
  have K11 := K7.wr W11 (Or.inl (List.mem_of_getElem? (i := 0) rfl))
  have N11 := Fr.snoc X11 N9 n_a
  obtain ⟨LL12, X11, N11⟩ : ∃ LL, Stand pG l eG _ _ mG _ belowG methG cG T11 LL 4 80 ∧ Fr n0 LL := ⟨_, X11, N11⟩
  refine ob T11 (mkF mG 23 #[oa a, oa pa, oa pb] []) (fun _ kk => st11 _ kk) ?_
  refine ob T11 (mkF mG 24 #[oa a, oa pa, oa pb] [(.ref a)]) (fun _ kk => XS.aloadN X11.here hx rfl (hb hby d17_23) rfl rfl kk) ?_
  refine ob T11 (mkF mG 25 #[oa a, oa pa, oa pb] [(.ref pb), (.ref a)]) (fun _ kk => XS.aloadN X11.here hx rfl (hb hby d17_24) rfl rfl kk) ?_
  obtain ⟨T13, h13, X13, e13, W13, st13⟩ := putF X11 hx hZ hown (host := "") (Or.inl (ow hw 127 rfl)) Via.refl e11 (((F_1.ext E3).ext E7).other W11 (Or.inr (slot_ne (Or.inr (ow hw 128 rfl)) (Or.inr (ow hw 126 rfl)) (by decide) (t := (.object "com/example/vorgang/vorgang/model/ContextUse")) (t' := (.object "com/example/vorgang/vorgang/model/ContextUse")) (by decide) (by decide)))) (((E_a.ext E3).ext E7).wr W11) (Or.inr ⟨(ow hw 128 rfl), rfl, hnm⟩) (ow hw 116 rfl) (ty := (.object "com/example/vorgang/vorgang/model/ContextUse")) (by decide) rfl rfl (g := (mkF mG 25 #[oa a, oa pa, oa pb] [(.ref pb), (.ref a)])) rfl rfl (hb hby d17_25)
  have F13 := (((F_1.ext E3).ext E7).other W11 (Or.inr (slot_ne (Or.inr (ow hw 128 rfl)) (Or.inr (ow hw 126 rfl)) (by decide) (t := (.object "com/example/vorgang/vorgang/model/ContextUse")) (t' := (.object "com/example/vorgang/vorgang/model/ContextUse")) (by decide) (by decide)))).same W13
  have CS13 : CHr Z oEL T7.vm h11 T7.vm h13 := CHr.wr W13 (Safe.exa hZ.alike (((E_a.ext E3).ext E7).wr W11) (by decide) (by decide)) CR11.1
  have CR13 := CR11.trans CS13
  have O13 := O11.wr W13 n_a
  have K13 := K11.wr W13 (Or.inl (List.mem_of_getElem? (i := 0) rfl))
  have N13 := Fr.snoc X13 N11 n_a
  obtain ⟨LL14, X13, N13⟩ : ∃ LL, Stand pG l eG _ _ mG _ belowG methG cG T13 LL 4 80 ∧ Fr n0 LL := ⟨_, X13, N13⟩
  refine ob T13 (mkF mG 28 #[oa a, oa pa, oa pb] []) (fun _ kk => st13 _ kk) ?_
  obtain ⟨fs, hr, hrun, hended, hW, hsame⟩ := X13.leave (v := none) (fun _ => rfl)
  obtain ⟨w1, w2, w3⟩ := State.Since.ended (U := T13.setFrames fs) hS7 hW (by show _ ≤ T13.heap.size; rw [e13]; exact (Nat.le_trans (Nat.le_trans hk7 CS11.2.1) CS13.2.1)) hsame
  have CF := CR13.trans (CHv.at X13 hZ hEL CR13.1)
  refine oout (X13.returnOut hx Bd.returns (hb hby d17_28) hr) hrun hended ⟨_, _, rfl, ?_, ?_, ⟨_, rfl⟩, w1, w2, w3.mono (by decide) (by decide)⟩
  · show Q_rm_cci Z wA wD wG wU wV wN wB wC wF wE wO k_1 k_2 a pa pb u0 u1 h0 n0 _ T13.heap _
    rw [e13]
    exact ⟨rfl, N13, K13, O13, (F11.other W13 (Or.inr (slot_ne (Or.inr (ow hw 126 rfl)) (Or.inr (ow hw 128 rfl)) (by decide) (t := (.object "com/example/vorgang/vorgang/model/ContextUse")) (t' := (.object "com/example/vorgang/vorgang/model/ContextUse")) (by decide) (by decide)))), F13⟩
  · show CHr Z oEL sG.vm sG.heap T13.vm T13.heap
    rw [hh, e13]
    exact CF

theorem d16_0 : decode prog_10_method_9_code 0 = .ok (.new 72, 3) := by decide +kernel
theorem d16_3 : decode prog_10_method_9_code 3 = .ok (.dup, 1) := by decide +kernel
theorem d16_4 : decode prog_10_method_9_code 4 = .ok (.aload_n 0, 1) := by decide +kernel
theorem d16_5 : decode prog_10_method_9_code 5 = .ok (.aload_n 1, 1) := by decide +kernel
theorem d16_6 : decode prog_10_method_9_code 6 = .ok (.invokespecial 74, 3) := by decide +kernel
theorem d16_9 : decode prog_10_method_9_code 9 = .ok (.areturn, 1) := by decide +kernel
theorem pd_8 : parseMethodDescriptor "(Lcom/example/vorgang/vorgang/model/ContextUse;Lcom/example/vorgang/vorgang/model/ContextUse;)V" = some ⟨[(.object "com/example/vorgang/vorgang/model/ContextUse"), (.object "com/example/vorgang/vorgang/model/ContextUse")], none⟩ := by decide +kernel
def Q_rm_ld0 (Z : State) (wA wD wG wU wV wN wB wC wF wE wO : Addr) (k_1 k_2 : ClassId) (ua ub : Addr) (h0 : Heap) (n0 : Nat) (v : Option Value) (h : Heap) (L : List Loc) : Prop := ∃ (b0 : Addr), v = some (.ref b0) ∧ Fr n0 L ∧ Keep h0 h [] ∧ Old Z n0 h ∧ n0 ≤ b0 ∧ h0.size ≤ b0 ∧ Exa Z h b0 "com/example/vorgang/vorgang/model/CallContexts" ∧ Fld Z h b0 "com/example/vorgang/vorgang/model/CallContexts" "session" "Lcom/example/vorgang/vorgang/model/ContextUse;" (.ref ua) ∧ Fld Z h b0 "com/example/vorgang/vorgang/model/CallContexts" "transaction" "Lcom/example/vorgang/vorgang/model/ContextUse;" (.ref ub)
set_option maxRecDepth 65536 in
set_option maxHeartbeats 40000000 in
theorem rm_ld0 (l : Launch) (Z : State) (a0 : Array Value) (hw : ∀ d ∈ tables_1, d.before a0 Z = true) (ws : List Jvm.Cond) (wA wD wG wU wV wN wB wC wF wE wO : Addr) (k_1 k_2 : ClassId) (ua ub : Addr) (h0 : Heap) (n0 : Nat) (O0 : Old Z n0 h0) (hS : St0 Z wA wD wG wU wV wN wB wC wF wE wO k_1 k_2 ) :
    MetFree l (⟨"com/example/vorgang/vorgang/model/CallPolicy", "lambda$dispatch$0", "(Lcom/example/vorgang/vorgang/model/ContextUse;Lcom/example/vorgang/vorgang/model/ContextUse;)Lcom/example/vorgang/vorgang/model/CallContexts;"⟩ : MethodName) (head1 (Jvm.Cond.code (⟨"com/example/vorgang/vorgang/model/CallPolicy", "lambda$dispatch$0", "(Lcom/example/vorgang/vorgang/model/ContextUse;Lcom/example/vorgang/vorgang/model/ContextUse;)Lcom/example/vorgang/vorgang/model/CallContexts;"⟩ : MethodName) prog_10_method_9_code 2 (some (.object "com/example/vorgang/vorgang/model/CallContexts")) :: ws) ({ frames := 3, cells := 5, slots := 82, locals := 39 } : Room)) (fun aG UG => aG = #[(.ref ua), (.ref ub)] ∧ Z.Warmed39 UG.vm ∧ UG.heap = h0 ∧ CHv Z oEL UG.vm h0) (fun _ _ _ _ _ => True) (fun _ UG oG UG' => ∃ vG LG, oG = .returned vG ∧ Q_rm_ld0 Z wA wD wG wU wV wN wB wC wF wE wO k_1 k_2 ua ub h0 n0 vG UG'.heap LG ∧ CHr Z oEL UG.vm UG.heap UG'.vm UG'.heap ∧ ReturnedEndW UG oG UG' LG ({ frames := 3, cells := 5, slots := 82, locals := 39 } : Room).cells ({ frames := 3, cells := 5, slots := 82, locals := 39 } : Room).slots) := by
  refine MetFree.of_bodySF (plainFor_of_name pn_6) hisR ?_
  intro pG eG sG mG argsG belowG methG cG s₁ Bd hml0 hP hK
  obtain ⟨rfl, hZ, hh, hC⟩ := hP
  have hx := Bd.exec
  have hby := Bd.bytes
  have hml : cG.maxLocals = 2 := hml0
  have hown : sG.vm.findClass "com/example/vorgang/vorgang/model/CallPolicy" = some mG.cls := findClass_of_methodNamed Bd.named
  have hnm := (name_of_methodNamed Bd.named Bd.method).1
  have X0 : Stand pG l eG ({ frames := 3, cells := 5, slots := 82, locals := 39 } : Room) (sG.setVm sG.vm) mG #[(.ref ua), (.ref ub)] belowG methG cG s₁ [] 0 0 := Stand.of_body Bd
  have e0 : s₁.heap = h0 := by rw [← hh, Bd.state]; rfl
  have N0 := Fr.nil n0
  have K0 := Keep.refl h0 []
  have hS0 : sG.Since sG.vm h0.size := (State.WarmedH.refl sG).since _
  have hk0 : h0.size ≤ h0.size := Nat.le_refl _
  have CR0 : CHr Z oEL sG.vm h0 sG.vm h0 := CHr.refl hC
  have hEL : EW Z a0 oEL := own_EW hw
  obtain ⟨S_wA, E_wA, S_wD, E_wD, S_wG, E_wG, S_wU, E_wU, S_wV, E_wV, S_wN, E_wN, S_wB, E_wB, S_wC, E_wC, S_wF, E_wF, S_wE, E_wE, S_wO, E_wO, F_wA_ordinal, F_wG_ordinal, F_wD_ordinal, F_wU_ordinal, F_wV_ordinal, F_wN_ordinal, F_wB_ordinal, F_wC_ordinal, F_wF_ordinal, F_wE_ordinal, F_wO_value, L_1, L_2, ne_wA_wG, ne_wA_wD, ne_wA_wB, ne_wA_wC, ne_wA_wF, ne_wA_wE, ne_wG_wD, ne_wG_wB, ne_wG_wC, ne_wG_wF, ne_wG_wE, ne_wD_wB, ne_wD_wC, ne_wD_wF, ne_wD_wE, ne_wU_wV, ne_wU_wN, ne_wV_wN, ne_wB_wC, ne_wB_wF, ne_wB_wE, ne_wC_wF, ne_wC_wE, ne_wF_wE⟩ := (id hS : St0 Z wA wD wG wU wV wN wB wC wF wE wO k_1 k_2 )
  refine ostart (g' := (mkF mG 0 #[oa ua, oa ub] [])) (by first | (simp [entryFrame, mkF, argsToLocals, Value.category]; done) | rfl) ?_
  obtain ⟨T1, h1, X1, e1, E1, A1, D1, _x1, st1⟩ := newO X0 hx hZ hown (ow hw 115 rfl) (ow hw 116 rfl) (ow hw 117 rfl) e0 (g := (mkF mG 0 #[oa ua, oa ub] [])) rfl (hb hby d16_0) (by decide) (by decide)
  obtain ⟨b1, g1⟩ : ∃ z, z = h0.size := ⟨_, rfl⟩
  rw [← g1] at A1 D1 st1
  have n_b1 : n0 ≤ b1 := Nat.le_trans (on0 O0) (Nat.le_of_eq g1.symm)
  have sz_b1 : h0.size ≤ b1 := Nat.le_trans K0.1 (Nat.le_of_eq g1.symm)
  have CS1 : CHr Z oEL sG.vm h0 sG.vm h1 := CHr.ext E1 CR0.1
  have CR1 := CR0.trans CS1
  have O1 := O0.ext E1
  have K1 := K0.ext E1
  obtain ⟨LL2, X1, N0⟩ : ∃ LL, Stand pG l eG _ _ mG _ belowG methG cG T1 LL 1 2 ∧ Fr n0 LL := ⟨_, X1, N0⟩
  have sf_b1 : Safe Z oEL sG.vm h1 b1 := Safe.ext E1 CR0.1 (Safe.new (Nat.le_of_eq g1.symm))
  have F1_126 : Fld Z h1 b1 "com/example/vorgang/vorgang/model/CallContexts" "session" "Lcom/example/vorgang/vorgang/model/ContextUse;" .null := D1 (Or.inr (ow hw 126 rfl)) (ty := (.object "com/example/vorgang/vorgang/model/ContextUse")) (by decide)
  have F1_128 : Fld Z h1 b1 "com/example/vorgang/vorgang/model/CallContexts" "transaction" "Lcom/example/vorgang/vorgang/model/ContextUse;" .null := D1 (Or.inr (ow hw 128 rfl)) (ty := (.object "com/example/vorgang/vorgang/model/ContextUse")) (by decide)
  refine ob T1 (mkF mG 3 #[oa ua, oa ub] [(.ref b1)]) (fun _ kk => st1 _ kk) ?_
  refine ob T1 (mkF mG 4 #[oa ua, oa ub] [(.ref b1), (.ref b1)]) (fun _ kk => XS.dup X1.here hx rfl (hb hby d16_3) rfl rfl kk) ?_
  refine ob T1 (mkF mG 5 #[oa ua, oa ub] [(.ref ua), (.ref b1), (.ref b1)]) (fun _ kk => XS.aloadN X1.here hx rfl (hb hby d16_4) rfl rfl kk) ?_
  refine ob T1 (mkF mG 6 #[oa ua, oa ub] [(.ref ub), (.ref ua), (.ref b1), (.ref b1)]) (fun _ kk => XS.aloadN X1.here hx rfl (hb hby d16_5) rfl rfl kk) ?_
  obtain ⟨_, _, ⟨T3, L3, k3, n3⟩, -, X3, hS3, gs3, ⟨Lc3, hQ3, l3, y3, z3, CS3⟩, st3⟩ := X1.specialBackS hx (y := (⟨"com/example/vorgang/vorgang/model/CallContexts", "<init>", "(Lcom/example/vorgang/vorgang/model/ContextUse;Lcom/example/vorgang/vorgang/model/ContextUse;)V"⟩ : MethodName)) rfl hown (mvT hZ (ow hw 118 rfl)) (mvT hZ (ow hw 119 rfl)) (mvT hZ (ow hw 120 rfl)) (by decide) (backOfSH (W := 1) (rm_cci l Z a0 hw [] wA wD wG wU wV wN wB wC wF wE wO k_1 k_2 b1 ua ub .null .null h1 n0 O1 hS A1 F1_126 F1_128 n_b1) hZ (ow hw 120 rfl) (ow hw 117 rfl) (by decide) (by decide) hEL CR1.1) (g := (mkF mG 6 #[oa ua, oa ub] [(.ref ub), (.ref ua), (.ref b1), (.ref b1)])) rfl (by rw [hml]; rfl) (Steps.refl _) (a := b1) (argsL := [(.ref ua), (.ref ub)]) (rest := [(.ref b1)]) (lenOf pd_8 rfl) rfl (by show 2 * 0 + _ ≤ _; exact Nat.le_of_eq rfl) (hb hby d16_6) (fun _ _ => ⟨rfl, e1, (by decide : 1 + 4 ≤ _), (by decide : 2 + 80 ≤ _)⟩)
  dsimp only [Pt.U, Pt.locs, Pt.cells, Pt.slots] at X3 l3 y3 z3 st3 hQ3 hS3 gs3 CS3
  subst l3 y3 z3
  obtain ⟨X3, hS3, hZ, hown⟩ := rebS hS0 (by rw [e1]; exact (Nat.le_trans hk0 CS1.2.1)) X3 hS3 gs3 hZ hown
  obtain ⟨h3, e3⟩ : ∃ h, T3.heap = h := ⟨_, rfl⟩
  rw [e3] at hQ3
  obtain ⟨rfl, N3q, K3q, O3, F3_0, F3_1⟩ := hQ3
  have N3 := Fr.app N0 N3q
  have K3 := K1.trans K3q (allS (Or.inr sz_b1) all0)
  rw [e3] at CS3 hS3
  have hk3 : h3.size ≤ h3.size := Nat.le_refl _
  have CR3 := CR1.trans CS3
  obtain ⟨LL4, X3, N3⟩ : ∃ LL, Stand pG l eG _ _ mG _ belowG methG cG T3 LL 5 82 ∧ Fr n0 LL := ⟨_, X3, N3⟩
  refine ob T3 (mkF mG 9 #[oa ua, oa ub] [(.ref b1)]) (fun _ kk => st3.trans kk) ?_
  obtain ⟨fs, hr, hrun, hended, hW, hsame⟩ := X3.leave (v := some (.ref b1)) (fun h => by rw [Bd.returns] at h; cases h)
  obtain ⟨w1, w2, w3⟩ := State.Since.ended (U := T3.setFrames fs) hS3 hW (by show _ ≤ T3.heap.size; rw [e3]; exact hk3) hsame
  have CF := CR3.trans (CHv.at X3 hZ hEL CR3.1)
  refine oout (oretA X3 hx Bd.returns rfl rfl (hb hby d16_9) hr) hrun hended ⟨_, _, rfl, ?_, ?_, ⟨_, rfl⟩, w1, w2, w3.mono (by decide) (by decide)⟩
  · show Q_rm_ld0 Z wA wD wG wU wV wN wB wC wF wE wO k_1 k_2 ua ub h0 n0 _ T3.heap _
    rw [e3]
    exact ⟨b1, rfl, N3, K3, O3, n_b1, sz_b1, (A1.keep K3q), F3_0, F3_1⟩
  · show CHr Z oEL sG.vm sG.heap T3.vm T3.heap
    rw [hh, e3]
    exact CF

theorem d15_0 : decode jdk_32_method_11_code 0 = .ok (.aload_n 1, 1) := by decide +kernel
theorem d15_1 : decode jdk_32_method_11_code 1 = .ok (.invokestatic 17, 3) := by decide +kernel
theorem d15_4 : decode jdk_32_method_11_code 4 = .ok (.pop, 1) := by decide +kernel
theorem d15_5 : decode jdk_32_method_11_code 5 = .ok (.aload_n 0, 1) := by decide +kernel
theorem d15_6 : decode jdk_32_method_11_code 6 = .ok (.invokevirtual 43, 3) := by decide +kernel
theorem d15_9 : decode jdk_32_method_11_code 9 = .ok (.ifCond .eq 7, 3) := by decide +kernel
theorem d15_12 : decode jdk_32_method_11_code 12 = .ok (.invokestatic 53, 3) := by decide +kernel
theorem d15_15 : decode jdk_32_method_11_code 15 = .ok (.areturn, 1) := by decide +kernel
theorem pd_9 : parseMethodDescriptor "()Z" = some ⟨[], some .boolean⟩ := by decide +kernel
theorem pd_10 : parseMethodDescriptor "()Ljava/util/Optional;" = some ⟨[], some (.object "java/util/Optional")⟩ := by decide +kernel
def Q_rm_mapE (Z : State) (wA wD wG wU wV wN wB wC wF wE wO : Addr) (k_1 k_2 : ClassId) (f : Addr) (h0 : Heap) (n0 : Nat) (v : Option Value) (h : Heap) (L : List Loc) : Prop := v = some (.ref wO) ∧ Fr n0 L ∧ h = h0
set_option maxRecDepth 65536 in
set_option maxHeartbeats 40000000 in
theorem rm_mapE (l : Launch) (Z : State) (a0 : Array Value) (hw : ∀ d ∈ tables_1, d.before a0 Z = true) (ws : List Jvm.Cond) (wA wD wG wU wV wN wB wC wF wE wO : Addr) (k_1 k_2 : ClassId) (f : Addr) (h0 : Heap) (n0 : Nat) (O0 : Old Z n0 h0) (hS : St0 Z wA wD wG wU wV wN wB wC wF wE wO k_1 k_2 ) :
    MetFree l (⟨"java/util/Optional", "map", "(Ljava/util/function/Function;)Ljava/util/Optional;"⟩ : MethodName) (head1 (Jvm.Cond.code (⟨"java/util/Optional", "map", "(Ljava/util/function/Function;)Ljava/util/Optional;"⟩ : MethodName) jdk_32_method_11_code 2 (some (.object "java/util/Optional")) :: ws) ({ frames := 1, cells := 0, slots := 0, locals := 12 } : Room)) (fun aG UG => aG = #[(.ref wO), (.ref f)] ∧ Z.Warmed39 UG.vm ∧ UG.heap = h0) (fun _ _ _ _ _ => True) (fun _ UG oG UG' => ∃ vG LG, oG = .returned vG ∧ Q_rm_mapE Z wA wD wG wU wV wN wB wC wF wE wO k_1 k_2 f h0 n0 vG UG'.heap LG ∧ FrameEnd UG oG UG' LG ({ frames := 1, cells := 0, slots := 0, locals := 12 } : Room).cells ({ frames := 1, cells := 0, slots := 0, locals := 12 } : Room).slots) := by
  refine MetFree.of_bodySF (plainFor_of_name pn_2) hisR ?_
  intro pG eG sG mG argsG belowG methG cG s₁ Bd hml0 hP hK
  obtain ⟨rfl, hZ, hh⟩ := hP
  have hx := Bd.exec
  have hby := Bd.bytes
  have hml : cG.maxLocals = 2 := hml0
  have hown : sG.vm.findClass "java/util/Optional" = some mG.cls := findClass_of_methodNamed Bd.named
  have hnm := (name_of_methodNamed Bd.named Bd.method).1
  have X0 : Stand pG l eG ({ frames := 1, cells := 0, slots := 0, locals := 12 } : Room) sG mG #[(.ref wO), (.ref f)] belowG methG cG s₁ [] 0 0 := Stand.of_body Bd
  have e0 : s₁.heap = h0 := by rw [← hh, Bd.state]; rfl
  have N0 := Fr.nil n0
  have K0 := Keep.refl h0 []
  obtain ⟨S_wA, E_wA, S_wD, E_wD, S_wG, E_wG, S_wU, E_wU, S_wV, E_wV, S_wN, E_wN, S_wB, E_wB, S_wC, E_wC, S_wF, E_wF, S_wE, E_wE, S_wO, E_wO, F_wA_ordinal, F_wG_ordinal, F_wD_ordinal, F_wU_ordinal, F_wV_ordinal, F_wN_ordinal, F_wB_ordinal, F_wC_ordinal, F_wF_ordinal, F_wE_ordinal, F_wO_value, L_1, L_2, ne_wA_wG, ne_wA_wD, ne_wA_wB, ne_wA_wC, ne_wA_wF, ne_wA_wE, ne_wG_wD, ne_wG_wB, ne_wG_wC, ne_wG_wF, ne_wG_wE, ne_wD_wB, ne_wD_wC, ne_wD_wF, ne_wD_wE, ne_wU_wV, ne_wU_wN, ne_wV_wN, ne_wB_wC, ne_wB_wF, ne_wB_wE, ne_wC_wF, ne_wC_wE, ne_wF_wE⟩ := (id hS : St0 Z wA wD wG wU wV wN wB wC wF wE wO k_1 k_2 )
  refine ostart (g' := (mkF mG 0 #[oa wO, oa f] [])) (by first | (simp [entryFrame, mkF, argsToLocals, Value.category]; done) | rfl) ?_
  refine ob s₁ (mkF mG 1 #[oa wO, oa f] [(.ref f)]) (fun _ kk => XS.aloadN X0.here hx rfl (hb hby d15_0) rfl rfl kk) ?_
  obtain ⟨_, _, ⟨T1, L1, k1, n1⟩, -, X1, ⟨Lc1, hQ1, l1, y1, z1⟩, st1⟩ := Jvm.LawKit.callS X0 hx (y := (⟨"java/util/Objects", "requireNonNull", "(Ljava/lang/Object;)Ljava/lang/Object;"⟩ : MethodName)) hown (mvT hZ (ow hw 87 rfl)) (mvT hZ (ow hw 88 rfl)) (mvT hZ (ow hw 34 rfl)) (mvT hZ (ow hw 89 rfl)) (by decide) (backOf (W := 0) (rm_rn1 l Z a0 hw [] wA wD wG wU wV wN wB wC wF wE wO k_1 k_2 f h0 n0 O0 hS ) hZ (ow hw 89 rfl) (ow hw 34 rfl) (by decide) (by decide)) (g := (mkF mG 1 #[oa wO, oa f] [(.ref f)])) rfl (by rw [hml]; rfl) (argsL := [(.ref f)]) (rest := []) (lenOf pd_0 rfl) rfl (by show 2 * 0 + _ ≤ _; exact Nat.le_of_eq rfl) (hb hby d15_1) (fun _ _ => ⟨rfl, e0, (by decide : 0 + 0 ≤ _), (by decide : 0 + 0 ≤ _)⟩)
  dsimp only [Pt.U, Pt.locs, Pt.cells, Pt.slots] at X1 l1 y1 z1 st1 hQ1
  subst l1 y1 z1
  obtain ⟨rfl, N1q, e1⟩ := hQ1
  have N1 := Fr.app N0 N1q
  obtain ⟨LL2, X1, N1⟩ : ∃ LL, Stand pG l eG _ _ mG _ belowG methG cG T1 LL 0 0 ∧ Fr n0 LL := ⟨_, X1, N1⟩
  refine ob T1 (mkF mG 4 #[oa wO, oa f] [(.ref f)]) (fun _ kk => st1 _ kk) ?_
  refine ob T1 (mkF mG 5 #[oa wO, oa f] []) (fun _ kk => XS.pop X1.here hx rfl (hb hby d15_4) rfl rfl kk) ?_
  refine ob T1 (mkF mG 6 #[oa wO, oa f] [(.ref wO)]) (fun _ kk => XS.aloadN X1.here hx rfl (hb hby d15_5) rfl rfl kk) ?_
  obtain ⟨cq3, kq3, q3a, q3b, q3c⟩ := isOf hZ e1 (E_wO.ext O0.2)
  obtain ⟨_, _, ⟨T3, L3, k3, n3⟩, -, X3, ⟨Lc3, hQ3, l3, y3, z3⟩, st3⟩ := X1.virtualBack hx (y := (⟨"java/util/Optional", "isEmpty", "()Z"⟩ : MethodName)) (z := (⟨"java/util/Optional", "isEmpty", "()Z"⟩ : MethodName)) hown (mvT hZ (ow hw 90 rfl)) (mvT hZ (ow hw 91 rfl)) (notFace_of_selects (args := #[]) (mvT hZ (ow hw 93 rfl))) (mvT hZ (ow hw 93 rfl)) (mvT hZ (ow hw 92 rfl)) (by decide) (backOf (W := 0) (rm_ieE l Z a0 hw [] wA wD wG wU wV wN wB wC wF wE wO k_1 k_2  h0 n0 O0 hS ) hZ (ow hw 94 rfl) (ow hw 67 rfl) (by decide) (by decide)) q3a q3c (g := (mkF mG 6 #[oa wO, oa f] [(.ref wO)])) rfl (by rw [hml]; rfl) (Steps.refl _) (argsL := []) (rest := []) (lenOf pd_9 rfl) rfl (by show 2 * 0 + _ ≤ _; exact Nat.le_of_eq rfl) (hb hby d15_6) (fun _ _ => ⟨rfl, e1, (by decide : 0 + 0 ≤ _), (by decide : 0 + 0 ≤ _)⟩)
  dsimp only [Pt.U, Pt.locs, Pt.cells, Pt.slots] at X3 l3 y3 z3 st3 hQ3
  subst l3 y3 z3
  obtain ⟨rfl, N3q, e3⟩ := hQ3
  have N3 := Fr.app N1 N3q
  obtain ⟨LL4, X3, N3⟩ : ∃ LL, Stand pG l eG _ _ mG _ belowG methG cG T3 LL 0 0 ∧ Fr n0 LL := ⟨_, X3, N3⟩
  refine ob T3 (mkF mG 9 #[oa wO, oa f] [(.int (1 : Int32))]) (fun _ kk => st3.trans kk) ?_
  refine ob T3 (mkF mG 12 #[oa wO, oa f] []) (fun _ kk => XS.ifNo X3.here hx rfl (hb hby d15_9) rfl ((if0 _ _).trans (feq (by decide : ¬ ((1 : Int32) = (0 : Int32)))).1) kk) ?_
  obtain ⟨_, _, ⟨T5, L5, k5, n5⟩, -, X5, ⟨Lc5, hQ5, l5, y5, z5⟩, st5⟩ := Jvm.LawKit.callS X3 hx (y := (⟨"java/util/Optional", "empty", "()Ljava/util/Optional;"⟩ : MethodName)) hown (mvT hZ (ow hw 168 rfl)) (mvT hZ (ow hw 169 rfl)) (mvT hZ (ow hw 67 rfl)) (mvT hZ (ow hw 170 rfl)) (by decide) (backOf (W := 0) (rm_emp l Z a0 hw [] wA wD wG wU wV wN wB wC wF wE wO k_1 k_2  h0 n0 O0 hS ) hZ (ow hw 170 rfl) (ow hw 67 rfl) (by decide) (by decide)) (g := (mkF mG 12 #[oa wO, oa f] [])) rfl (by rw [hml]; rfl) (argsL := []) (rest := []) (lenOf pd_10 rfl) rfl (by show 2 * 0 + _ ≤ _; exact Nat.le_of_eq rfl) (hb hby d15_12) (fun _ _ => ⟨rfl, e3, (by decide : 0 + 0 ≤ _), (by decide : 0 + 0 ≤ _)⟩)
  dsimp only [Pt.U, Pt.locs, Pt.cells, Pt.slots] at X5 l5 y5 z5 st5 hQ5
  subst l5 y5 z5
  obtain ⟨rfl, N5q, e5⟩ := hQ5
  have N5 := Fr.app N3 N5q
  obtain ⟨LL6, X5, N5⟩ : ∃ LL, Stand pG l eG _ _ mG _ belowG methG cG T5 LL 0 0 ∧ Fr n0 LL := ⟨_, X5, N5⟩
  refine ob T5 (mkF mG 15 #[oa wO, oa f] [(.ref wO)]) (fun _ kk => st5 _ kk) ?_
  obtain ⟨fs, hr, hrun, hended, hW, hsame⟩ := X5.leave (v := some (.ref wO)) (fun h => by rw [Bd.returns] at h; cases h)
  refine oout (oretA X5 hx Bd.returns rfl rfl (hb hby d15_15) hr) hrun hended ⟨_, _, rfl, ?_, ⟨_, rfl⟩, hW, hsame.mono (by decide) (by decide)⟩
  show Q_rm_mapE Z wA wD wG wU wV wN wB wC wF wE wO k_1 k_2 f h0 n0 _ T5.heap _
  rw [e5]
  exact ⟨rfl, N5, rfl⟩

theorem d15_16 : decode jdk_32_method_11_code 16 = .ok (.aload_n 1, 1) := by decide +kernel
theorem d15_17 : decode jdk_32_method_11_code 17 = .ok (.aload_n 0, 1) := by decide +kernel
theorem d15_18 : decode jdk_32_method_11_code 18 = .ok (.getfield 13, 3) := by decide +kernel
theorem d15_21 : decode jdk_32_method_11_code 21 = .ok (.invokeinterface 57 2, 5) := by decide +kernel
theorem d15_26 : decode jdk_32_method_11_code 26 = .ok (.invokestatic 62, 3) := by decide +kernel
theorem d15_29 : decode jdk_32_method_11_code 29 = .ok (.areturn, 1) := by decide +kernel
def Q_rm_mapS (Z : State) (wA wD wG wU wV wN wB wC wF wE wO : Addr) (k_1 k_2 : ClassId) (o f ua ub : Addr) (h0 : Heap) (n0 : Nat) (v : Option Value) (h : Heap) (L : List Loc) : Prop := ∃ (b0 b1 : Addr), v = some (.ref b0) ∧ Fr n0 L ∧ Keep h0 h [] ∧ Old Z n0 h ∧ n0 ≤ b0 ∧ n0 ≤ b1 ∧ h0.size ≤ b0 ∧ h0.size ≤ b1 ∧ Exa Z h b0 "java/util/Optional" ∧ Fld Z h b0 "java/util/Optional" "value" "Ljava/lang/Object;" (.ref b1) ∧ Exa Z h b1 "com/example/vorgang/vorgang/model/CallContexts" ∧ Fld Z h b1 "com/example/vorgang/vorgang/model/CallContexts" "session" "Lcom/example/vorgang/vorgang/model/ContextUse;" (.ref ua) ∧ Fld Z h b1 "com/example/vorgang/vorgang/model/CallContexts" "transaction" "Lcom/example/vorgang/vorgang/model/ContextUse;" (.ref ub)
set_option maxRecDepth 65536 in
set_option maxHeartbeats 40000000 in
theorem rm_mapS (l : Launch) (Z : State) (a0 : Array Value) (hw : ∀ d ∈ tables_1, d.before a0 Z = true) (ws : List Jvm.Cond) (wA wD wG wU wV wN wB wC wF wE wO : Addr) (k_1 k_2 : ClassId) (o f ua ub : Addr) (h0 : Heap) (n0 : Nat) (O0 : Old Z n0 h0) (hS : St0 Z wA wD wG wU wV wN wB wC wF wE wO k_1 k_2 ) (E_o : Exa Z h0 o "java/util/Optional") (F_o : Fld Z h0 o "java/util/Optional" "value" "Ljava/lang/Object;" (.ref ub)) (F_f : oLam h0 f k_2 [(.ref ua)]) (E_ub : Exa Z h0 ub "com/example/vorgang/vorgang/model/ContextUse") :
    MetFree l (⟨"java/util/Optional", "map", "(Ljava/util/function/Function;)Ljava/util/Optional;"⟩ : MethodName) (head1 (Jvm.Cond.code (⟨"java/util/Optional", "map", "(Ljava/util/function/Function;)Ljava/util/Optional;"⟩ : MethodName) jdk_32_method_11_code 2 (some (.object "java/util/Optional")) :: ws) ({ frames := 5, cells := 6, slots := 83, locals := 65 } : Room)) (fun aG UG => aG = #[(.ref o), (.ref f)] ∧ Z.Warmed39 UG.vm ∧ UG.heap = h0 ∧ CHv Z oEL UG.vm h0) (fun _ _ _ _ _ => True) (fun _ UG oG UG' => ∃ vG LG, oG = .returned vG ∧ Q_rm_mapS Z wA wD wG wU wV wN wB wC wF wE wO k_1 k_2 o f ua ub h0 n0 vG UG'.heap LG ∧ CHr Z oEL UG.vm UG.heap UG'.vm UG'.heap ∧ ReturnedEndW UG oG UG' LG ({ frames := 5, cells := 6, slots := 83, locals := 65 } : Room).cells ({ frames := 5, cells := 6, slots := 83, locals := 65 } : Room).slots) := by
  refine MetFree.of_bodySF (plainFor_of_name pn_2) hisR ?_
  intro pG eG sG mG argsG belowG methG cG s₁ Bd hml0 hP hK
  obtain ⟨rfl, hZ, hh, hC⟩ := hP
  have hx := Bd.exec
  have hby := Bd.bytes
  have hml : cG.maxLocals = 2 := hml0
  have hown : sG.vm.findClass "java/util/Optional" = some mG.cls := findClass_of_methodNamed Bd.named
  have hnm := (name_of_methodNamed Bd.named Bd.method).1
  have X0 : Stand pG l eG ({ frames := 5, cells := 6, slots := 83, locals := 65 } : Room) (sG.setVm sG.vm) mG #[(.ref o), (.ref f)] belowG methG cG s₁ [] 0 0 := Stand.of_body Bd
  have e0 : s₁.heap = h0 := by rw [← hh, Bd.state]; rfl
  have N0 := Fr.nil n0
  have K0 := Keep.refl h0 []
  have hS0 : sG.Since sG.vm h0.size := (State.WarmedH.refl sG).since _
  have hk0 : h0.size ≤ h0.size := Nat.le_refl _
  have CR0 : CHr Z oEL sG.vm h0 sG.vm h0 := CHr.refl hC
  have hEL : EW Z a0 oEL := own_EW hw
  obtain ⟨S_wA, E_wA, S_wD, E_wD, S_wG, E_wG, S_wU, E_wU, S_wV, E_wV, S_wN, E_wN, S_wB, E_wB, S_wC, E_wC, S_wF, E_wF, S_wE, E_wE, S_wO, E_wO, F_wA_ordinal, F_wG_ordinal, F_wD_ordinal, F_wU_ordinal, F_wV_ordinal, F_wN_ordinal, F_wB_ordinal, F_wC_ordinal, F_wF_ordinal, F_wE_ordinal, F_wO_value, L_1, L_2, ne_wA_wG, ne_wA_wD, ne_wA_wB, ne_wA_wC, ne_wA_wF, ne_wA_wE, ne_wG_wD, ne_wG_wB, ne_wG_wC, ne_wG_wF, ne_wG_wE, ne_wD_wB, ne_wD_wC, ne_wD_wF, ne_wD_wE, ne_wU_wV, ne_wU_wN, ne_wV_wN, ne_wB_wC, ne_wB_wF, ne_wB_wE, ne_wC_wF, ne_wC_wE, ne_wF_wE⟩ := (id hS : St0 Z wA wD wG wU wV wN wB wC wF wE wO k_1 k_2 )
  refine ostart (g' := (mkF mG 0 #[oa o, oa f] [])) (by first | (simp [entryFrame, mkF, argsToLocals, Value.category]; done) | rfl) ?_
  refine ob s₁ (mkF mG 1 #[oa o, oa f] [(.ref f)]) (fun _ kk => XS.aloadN X0.here hx rfl (hb hby d15_0) rfl rfl kk) ?_
  obtain ⟨_, _, ⟨T1, L1, k1, n1⟩, -, X1, ⟨Lc1, hQ1, l1, y1, z1⟩, st1⟩ := Jvm.LawKit.callS X0 hx (y := (⟨"java/util/Objects", "requireNonNull", "(Ljava/lang/Object;)Ljava/lang/Object;"⟩ : MethodName)) hown (mvT hZ (ow hw 87 rfl)) (mvT hZ (ow hw 88 rfl)) (mvT hZ (ow hw 34 rfl)) (mvT hZ (ow hw 89 rfl)) (by decide) (backOf (W := 0) (rm_rn1 l Z a0 hw [] wA wD wG wU wV wN wB wC wF wE wO k_1 k_2 f h0 n0 O0 hS ) hZ (ow hw 89 rfl) (ow hw 34 rfl) (by decide) (by decide)) (g := (mkF mG 1 #[oa o, oa f] [(.ref f)])) rfl (by rw [hml]; rfl) (argsL := [(.ref f)]) (rest := []) (lenOf pd_0 rfl) rfl (by show 2 * 0 + _ ≤ _; exact Nat.le_of_eq rfl) (hb hby d15_1) (fun _ _ => ⟨rfl, e0, (by decide : 0 + 0 ≤ _), (by decide : 0 + 0 ≤ _)⟩)
  dsimp only [Pt.U, Pt.locs, Pt.cells, Pt.slots] at X1 l1 y1 z1 st1 hQ1
  subst l1 y1 z1
  obtain ⟨rfl, N1q, e1⟩ := hQ1
  have N1 := Fr.app N0 N1q
  obtain ⟨LL2, X1, N1⟩ : ∃ LL, Stand pG l eG _ _ mG _ belowG methG cG T1 LL 0 0 ∧ Fr n0 LL := ⟨_, X1, N1⟩
  refine ob T1 (mkF mG 4 #[oa o, oa f] [(.ref f)]) (fun _ kk => st1 _ kk) ?_
  refine ob T1 (mkF mG 5 #[oa o, oa f] []) (fun _ kk => XS.pop X1.here hx rfl (hb hby d15_4) rfl rfl kk) ?_
  refine ob T1 (mkF mG 6 #[oa o, oa f] [(.ref o)]) (fun _ kk => XS.aloadN X1.here hx rfl (hb hby d15_5) rfl rfl kk) ?_
  obtain ⟨cq3, kq3, q3a, q3b, q3c⟩ := isOf hZ e1 E_o
  obtain ⟨_, _, ⟨T3, L3, k3, n3⟩, -, X3, ⟨Lc3, hQ3, l3, y3, z3⟩, st3⟩ := X1.virtualBack hx (y := (⟨"java/util/Optional", "isEmpty", "()Z"⟩ : MethodName)) (z := (⟨"java/util/Optional", "isEmpty", "()Z"⟩ : MethodName)) hown (mvT hZ (ow hw 90 rfl)) (mvT hZ (ow hw 91 rfl)) (notFace_of_selects (args := #[]) (mvT hZ (ow hw 93 rfl))) (mvT hZ (ow hw 93 rfl)) (mvT hZ (ow hw 92 rfl)) (by decide) (backOf (W := 0) (rm_ieS l Z a0 hw [] wA wD wG wU wV wN wB wC wF wE wO k_1 k_2 o ub h0 n0 O0 hS F_o) hZ (ow hw 94 rfl) (ow hw 67 rfl) (by decide) (by decide)) q3a q3c (g := (mkF mG 6 #[oa o, oa f] [(.ref o)])) rfl (by rw [hml]; rfl) (Steps.refl _) (argsL := []) (rest := []) (lenOf pd_9 rfl) rfl (by show 2 * 0 + _ ≤ _; exact Nat.le_of_eq rfl) (hb hby d15_6) (fun _ _ => ⟨rfl, e1, (by decide : 0 + 0 ≤ _), (by decide : 0 + 0 ≤ _)⟩)
  dsimp only [Pt.U, Pt.locs, Pt.cells, Pt.slots] at X3 l3 y3 z3 st3 hQ3
  subst l3 y3 z3
  obtain ⟨rfl, N3q, e3⟩ := hQ3
  have N3 := Fr.app N1 N3q
  obtain ⟨LL4, X3, N3⟩ : ∃ LL, Stand pG l eG _ _ mG _ belowG methG cG T3 LL 0 0 ∧ Fr n0 LL := ⟨_, X3, N3⟩
  refine ob T3 (mkF mG 9 #[oa o, oa f] [(.int (0 : Int32))]) (fun _ kk => st3.trans kk) ?_
  refine ob T3 (mkF mG 16 #[oa o, oa f] []) (fun _ kk => XS.ifYes X3.here hx rfl (pc0 := 9) (pc' := 16) rfl (hb hby d15_9) rfl ((if0 _ _).trans (teq (by decide : (0 : Int32) = (0 : Int32))).1) (by decide) (by decide) kk) ?_
  refine ob T3 (mkF mG 17 #[oa o, oa f] [(.ref f)]) (fun _ kk => XS.aloadN X3.here hx rfl (hb hby d15_16) rfl rfl kk) ?_
  refine ob T3 (mkF mG 18 #[oa o, oa f] [(.ref o), (.ref f)]) (fun _ kk => XS.aloadN X3.here hx rfl (hb hby d15_17) rfl rfl kk) ?_
  obtain ⟨T5, X5, e5, st5⟩ := getF X3 hx hZ hown (host := "") (Or.inl (ow hw 76 rfl)) Via.refl e3 F_o (g := (mkF mG 18 #[oa o, oa f] [(.ref o), (.ref f)])) rfl rfl (hb hby d15_18)
  refine ob T5 (mkF mG 21 #[oa o, oa f] [(.ref ub), (.ref f)]) (fun _ kk => st5 _ kk) ?_
  obtain ⟨_, ⟨T6, L6, k6, n6⟩, X6, hS6, gs6, ⟨Lc6, hQ6, l6, y6, z6, CS6⟩, st6⟩ := own_app2 X5 hx hZ hw L_2 hown (ow hw 95 rfl) e5 F_f E_ub (rm_ld0 l Z a0 hw [] wA wD wG wU wV wN wB wC wF wE wO k_1 k_2 ua ub h0 n0 O0 hS ) (fun _ _ _ q => by obtain ⟨_, hv, -⟩ := q; exact ⟨_, hv, rfl⟩) (by decide) (W := 0) (by decide) (g := (mkF mG 21 #[oa o, oa f] [(.ref ub), (.ref f)])) rfl (by rw [hml]; rfl) rfl (by show 2 * 0 + _ ≤ _; exact Nat.le_of_eq rfl) (hb hby d15_21) (by decide : 0 + 5 ≤ _) (by decide : 0 + 82 ≤ _)
  dsimp only [Pt.U, Pt.locs, Pt.cells, Pt.slots] at X6 l6 y6 z6 st6 hQ6 hS6 gs6 CS6
  subst l6 y6 z6
  obtain ⟨X6, hS6, hZ, hown⟩ := rebS hS0 (by rw [e5]; exact hk0) X6 hS6 gs6 hZ hown
  obtain ⟨h6, e6⟩ : ∃ h, T6.heap = h := ⟨_, rfl⟩
  rw [e6] at hQ6
  obtain ⟨b0_6, rfl, N6q, K6q, O6, n_b0_6, z_b0_6, F6_0, F6_1, F6_2⟩ := hQ6
  have N6 := Fr.app N3 N6q
  have sz_b0_6 : h0.size ≤ b0_6 := Nat.le_trans K0.1 z_b0_6
  have ne_o_b0_6 : o ≠ b0_6 := Nat.ne_of_lt (Nat.lt_of_lt_of_le E_o.lt z_b0_6)
  have ne_f_b0_6 : f ≠ b0_6 := Nat.ne_of_lt (Nat.lt_of_lt_of_le F_f.lt z_b0_6)
  have ne_ub_b0_6 : ub ≠ b0_6 := Nat.ne_of_lt (Nat.lt_of_lt_of_le E_ub.lt z_b0_6)
  have K6 := K0.trans K6q all0
  rw [e6] at CS6 hS6
  have hk6 : h6.size ≤ h6.size := Nat.le_refl _
  have CR6 := CR0.trans CS6
  obtain ⟨LL7, X6, N6⟩ : ∃ LL, Stand pG l eG _ _ mG _ belowG methG cG T6 LL 5 82 ∧ Fr n0 LL := ⟨_, X6, N6⟩
  refine ob T6 (mkF mG 26 #[oa o, oa f] [(.ref b0_6)]) (fun _ kk => st6.trans kk) ?_
  obtain ⟨_, _, ⟨T8, L8, k8, n8⟩, -, X8, ⟨Lc8, hQ8, l8, y8, z8⟩, st8⟩ := Jvm.LawKit.callS X6 hx (y := (⟨"java/util/Optional", "ofNullable", "(Ljava/lang/Object;)Ljava/util/Optional;"⟩ : MethodName)) hown (mvT hZ (ow hw 129 rfl)) (mvT hZ (ow hw 66 rfl)) (mvT hZ (ow hw 67 rfl)) (mvT hZ (ow hw 68 rfl)) (by decide) (backOf (W := 0) (rm_onS l Z a0 hw [] wA wD wG wU wV wN wB wC wF wE wO k_1 k_2 b0_6 h6 n0 O6 hS ) hZ (ow hw 68 rfl) (ow hw 67 rfl) (by decide) (by decide)) (g := (mkF mG 26 #[oa o, oa f] [(.ref b0_6)])) rfl (by rw [hml]; rfl) (argsL := [(.ref b0_6)]) (rest := []) (lenOf pd_5 rfl) rfl (by show 2 * 0 + _ ≤ _; exact Nat.le_of_eq rfl) (hb hby d15_26) (fun _ _ => ⟨rfl, e6, (by decide : 5 + 1 ≤ _), (by decide : 82 + 1 ≤ _)⟩)
  dsimp only [Pt.U, Pt.locs, Pt.cells, Pt.slots] at X8 l8 y8 z8 st8 hQ8
  subst l8 y8 z8
  obtain ⟨h8, e8⟩ : ∃ h, T8.heap = h := ⟨_, rfl⟩
  rw [e8] at hQ8
  obtain ⟨b0_8, rfl, N8q, K8q, O8, n_b0_8, z_b0_8, F8_0, F8_1⟩ := hQ8
  have N8 := Fr.app N6 N8q
  have sz_b0_8 : h0.size ≤ b0_8 := Nat.le_trans K6.1 z_b0_8
  have ne_o_b0_8 : o ≠ b0_8 := Nat.ne_of_lt (Nat.lt_of_lt_of_le (E_o.keep K6q).lt z_b0_8)
  have ne_f_b0_8 : f ≠ b0_8 := Nat.ne_of_lt (Nat.lt_of_lt_of_le (F_f.keep K6q nin0).lt z_b0_8)
  have ne_ub_b0_8 : ub ≠ b0_8 := Nat.ne_of_lt (Nat.lt_of_lt_of_le (E_ub.keep K6q).lt z_b0_8)
  have ne_b0_6_b0_8 : b0_6 ≠ b0_8 := Nat.ne_of_lt (Nat.lt_of_lt_of_le F6_0.lt z_b0_8)
  have K8 := K6.trans K8q all0
  have CS8 : CHr Z oEL T6.vm h6 T6.vm h8 := CHr.keep K8q sf0 CR6.1
  have CR8 := CR6.trans CS8
  obtain ⟨LL9, X8, N8⟩ : ∃ LL, Stand pG l eG _ _ mG _ belowG methG cG T8 LL 6 83 ∧ Fr n0 LL := ⟨_, X8, N8⟩
  refine ob T8 (mkF mG 29 #[oa o, oa f] [(.ref b0_8)]) (fun _ kk => st8 _ kk) ?_
  obtain ⟨fs, hr, hrun, hended, hW, hsame⟩ := X8.leave (v := some (.ref b0_8)) (fun h => by rw [Bd.returns] at h; cases h)
  obtain ⟨w1, w2, w3⟩ := State.Since.ended (U := T8.setFrames fs) hS6 hW (by show _ ≤ T8.heap.size; rw [e8]; exact (Nat.le_trans hk6 CS8.2.1)) hsame
  have CF := CR8.trans (CHv.at X8 hZ hEL CR8.1)
  refine oout (oretA X8 hx Bd.returns rfl rfl (hb hby d15_29) hr) hrun hended ⟨_, _, rfl, ?_, ?_, ⟨_, rfl⟩, w1, w2, w3.mono (by decide) (by decide)⟩
  · show Q_rm_mapS Z wA wD wG wU wV wN wB wC wF wE wO k_1 k_2 o f ua ub h0 n0 _ T8.heap _
    rw [e8]
    exact ⟨b0_8, b0_6, rfl, N8, K8, O8, n_b0_8, n_b0_6, sz_b0_8, sz_b0_6, F8_0, F8_1, (F6_0.keep K8q), (F6_1.keep K8q nin0), (F6_2.keep K8q nin0)⟩
  · show CHr Z oEL sG.vm sG.heap T8.vm T8.heap
    rw [hh, e8]
    exact CF

theorem d14_0 : decode prog_10_method_8_code 0 = .ok (.aload_n 3, 1) := by decide +kernel
theorem d14_1 : decode prog_10_method_8_code 1 = .ok (.getstatic 57, 3) := by decide +kernel
theorem d14_4 : decode prog_10_method_8_code 4 = .ok (.if_acmp .eq 14, 3) := by decide +kernel
theorem d14_7 : decode prog_10_method_8_code 7 = .ok (.aload_n 3, 1) := by decide +kernel
theorem d14_8 : decode prog_10_method_8_code 8 = .ok (.getstatic 63, 3) := by decide +kernel
theorem d14_11 : decode prog_10_method_8_code 11 = .ok (.if_acmp .ne 11, 3) := by decide +kernel
theorem d14_14 : decode prog_10_method_8_code 14 = .ok (.iload_n 1, 1) := by decide +kernel
theorem d14_15 : decode prog_10_method_8_code 15 = .ok (.ifCond .ne 7, 3) := by decide +kernel
theorem d14_18 : decode prog_10_method_8_code 18 = .ok (.iconst 1, 1) := by decide +kernel
theorem d14_19 : decode prog_10_method_8_code 19 = .ok (.goto 4, 3) := by decide +kernel
theorem d14_23 : decode prog_10_method_8_code 23 = .ok (.istore 4, 2) := by decide +kernel
theorem d14_25 : decode prog_10_method_8_code 25 = .ok (.aload_n 0, 1) := by decide +kernel
theorem d14_26 : decode prog_10_method_8_code 26 = .ok (.getfield 42, 3) := by decide +kernel
theorem d14_29 : decode prog_10_method_8_code 29 = .ok (.iload_n 2, 1) := by decide +kernel
theorem d14_30 : decode prog_10_method_8_code 30 = .ok (.ifCond .eq 12, 3) := by decide +kernel
theorem d14_42 : decode prog_10_method_8_code 42 = .ok (.iconst 0, 1) := by decide +kernel
theorem d14_43 : decode prog_10_method_8_code 43 = .ok (.invokevirtual 44, 3) := by decide +kernel
theorem d14_46 : decode prog_10_method_8_code 46 = .ok (.aload_n 3, 1) := by decide +kernel
theorem d14_47 : decode prog_10_method_8_code 47 = .ok (.invokedynamic 66, 5) := by decide +kernel
theorem d14_52 : decode prog_10_method_8_code 52 = .ok (.invokevirtual 69, 3) := by decide +kernel
theorem d14_55 : decode prog_10_method_8_code 55 = .ok (.areturn, 1) := by decide +kernel
theorem pd_11 : parseMethodDescriptor "(Z)Ljava/util/Optional;" = some ⟨[.boolean], some (.object "java/util/Optional")⟩ := by decide +kernel
theorem pd_12 : parseMethodDescriptor "(Ljava/util/function/Function;)Ljava/util/Optional;" = some ⟨[(.object "java/util/function/Function")], some (.object "java/util/Optional")⟩ := by decide +kernel
def Q_rm_ld1E_000 (Z : State) (wA wD wG wU wV wN wB wC wF wE wO : Addr) (k_1 k_2 : ClassId) (a pt : Addr) (ti xv : Int32) (h0 : Heap) (n0 : Nat) (v : Option Value) (h : Heap) (L : List Loc) : Prop := v = some (.ref wO) ∧ Fr n0 L ∧ Keep h0 h [] ∧ Old Z n0 h
set_option maxRecDepth 65536 in
set_option maxHeartbeats 40000000 in
theorem rm_ld1E_000 (l : Launch) (Z : State) (a0 : Array Value) (hw : ∀ d ∈ tables_1, d.before a0 Z = true) (ws : List Jvm.Cond) (wA wD wG wU wV wN wB wC wF wE wO : Addr) (k_1 k_2 : ClassId) (a pt : Addr) (ti xv : Int32) (h0 : Heap) (n0 : Nat) (O0 : Old Z n0 h0) (hS : St0 Z wA wD wG wU wV wN wB wC wF wE wO k_1 k_2 ) (F_t : Fld Z h0 a "com/example/vorgang/vorgang/model/CallPolicy" "transactionType" "Lcom/example/vorgang/vorgang/model/Policy;" (.ref pt)) (pT : oPol wA wB wC wD wE wF wG ti pt) (rX : oRu ti (0 : Int32) = xv) (lX : xv < (0 : Int32)) :
    MetFree l (⟨"com/example/vorgang/vorgang/model/CallPolicy", "lambda$dispatch$1", "(ZZLcom/example/vorgang/vorgang/model/ContextUse;)Ljava/util/Optional;"⟩ : MethodName) (head1 (Jvm.Cond.code (⟨"com/example/vorgang/vorgang/model/CallPolicy", "lambda$dispatch$1", "(ZZLcom/example/vorgang/vorgang/model/ContextUse;)Ljava/util/Optional;"⟩ : MethodName) prog_10_method_8_code 5 (some (.object "java/util/Optional")) :: ws) ({ frames := 6, cells := 8, slots := 90, locals := 3080 } : Room)) (fun aG UG => aG = #[(.ref a), (.int (0 : Int32)), (.int (0 : Int32)), (.ref wN)] ∧ Z.Warmed39 UG.vm ∧ UG.heap = h0 ∧ CHv Z oEL UG.vm h0) (fun _ _ _ _ _ => True) (fun _ UG oG UG' => ∃ vG LG, oG = .returned vG ∧ Q_rm_ld1E_000 Z wA wD wG wU wV wN wB wC wF wE wO k_1 k_2 a pt ti xv h0 n0 vG UG'.heap LG ∧ CHr Z oEL UG.vm UG.heap UG'.vm UG'.heap ∧ ReturnedEndW UG oG UG' LG ({ frames := 6, cells := 8, slots := 90, locals := 3080 } : Room).cells ({ frames := 6, cells := 8, slots := 90, locals := 3080 } : Room).slots) := by
  refine MetFree.of_bodySF (plainFor_of_name pn_6) hisR ?_
  intro pG eG sG mG argsG belowG methG cG s₁ Bd hml0 hP hK
  obtain ⟨rfl, hZ, hh, hC⟩ := hP
  have hx := Bd.exec
  have hby := Bd.bytes
  have hml : cG.maxLocals = 5 := hml0
  have hown : sG.vm.findClass "com/example/vorgang/vorgang/model/CallPolicy" = some mG.cls := findClass_of_methodNamed Bd.named
  have hnm := (name_of_methodNamed Bd.named Bd.method).1
  have X0 : Stand pG l eG ({ frames := 6, cells := 8, slots := 90, locals := 3080 } : Room) (sG.setVm sG.vm) mG #[(.ref a), (.int (0 : Int32)), (.int (0 : Int32)), (.ref wN)] belowG methG cG s₁ [] 0 0 := Stand.of_body Bd
  have e0 : s₁.heap = h0 := by rw [← hh, Bd.state]; rfl
  have N0 := Fr.nil n0
  have K0 := Keep.refl h0 []
  have hS0 : sG.Since sG.vm h0.size := (State.WarmedH.refl sG).since _
  have hk0 : h0.size ≤ h0.size := Nat.le_refl _
  have CR0 : CHr Z oEL sG.vm h0 sG.vm h0 := CHr.refl hC
  have hEL : EW Z a0 oEL := own_EW hw
  obtain ⟨S_wA, E_wA, S_wD, E_wD, S_wG, E_wG, S_wU, E_wU, S_wV, E_wV, S_wN, E_wN, S_wB, E_wB, S_wC, E_wC, S_wF, E_wF, S_wE, E_wE, S_wO, E_wO, F_wA_ordinal, F_wG_ordinal, F_wD_ordinal, F_wU_ordinal, F_wV_ordinal, F_wN_ordinal, F_wB_ordinal, F_wC_ordinal, F_wF_ordinal, F_wE_ordinal, F_wO_value, L_1, L_2, ne_wA_wG, ne_wA_wD, ne_wA_wB, ne_wA_wC, ne_wA_wF, ne_wA_wE, ne_wG_wD, ne_wG_wB, ne_wG_wC, ne_wG_wF, ne_wG_wE, ne_wD_wB, ne_wD_wC, ne_wD_wF, ne_wD_wE, ne_wU_wV, ne_wU_wN, ne_wV_wN, ne_wB_wC, ne_wB_wF, ne_wB_wE, ne_wC_wF, ne_wC_wE, ne_wF_wE⟩ := (id hS : St0 Z wA wD wG wU wV wN wB wC wF wE wO k_1 k_2 )
  have hZ0 := hZ
  have E_pt := own_pe hS pT
  refine ostart (g' := (mkF mG 0 #[oa a, oi (0 : Int32), oi (0 : Int32), oa wN, .unset] [])) (by first | (simp [entryFrame, mkF, argsToLocals, Value.category]; done) | rfl) ?_
  refine ob s₁ (mkF mG 1 #[oa a, oi (0 : Int32), oi (0 : Int32), oa wN, .unset] [(.ref wN)]) (fun _ kk => XS.aloadN X0.here hx rfl (hb hby d14_0) rfl rfl kk) ?_
  obtain ⟨T1, X1, e1, st1⟩ := getS2 X0 hx hZ hown (host := "") (Or.inl (ow hw 102 rfl)) Via.refl e0 (S_wV.ext O0.2) (g := (mkF mG 1 #[oa a, oi (0 : Int32), oi (0 : Int32), oa wN, .unset] [(.ref wN)])) rfl (hb hby d14_1)
  refine ob T1 (mkF mG 4 #[oa a, oi (0 : Int32), oi (0 : Int32), oa wN, .unset] [(.ref wV), (.ref wN)]) (fun _ kk => st1 _ kk) ?_
  refine ob T1 (mkF mG 7 #[oa a, oi (0 : Int32), oi (0 : Int32), oa wN, .unset] []) (fun _ kk => Jvm.RoadKit.acmp (g := (mkF mG 4 #[oa a, oi (0 : Int32), oi (0 : Int32), oa wN, .unset] [(.ref wV), (.ref wN)])) X1 hx rfl rfl rfl (pc0 := 4) (pc' := 7) (same := false) rfl (hb hby d14_4) rfl (decide_eq_false fun q => (Ne.symm ne_wV_wN) (Value.ref.inj q)) (by decide) (by decide) kk) ?_
  refine ob T1 (mkF mG 8 #[oa a, oi (0 : Int32), oi (0 : Int32), oa wN, .unset] [(.ref wN)]) (fun _ kk => XS.aloadN X1.here hx rfl (hb hby d14_7) rfl rfl kk) ?_
  obtain ⟨T2, X2, e2, st2⟩ := getS2 X1 hx hZ hown (host := "") (Or.inl (ow hw 104 rfl)) Via.refl e1 (S_wN.ext O0.2) (g := (mkF mG 8 #[oa a, oi (0 : Int32), oi (0 : Int32), oa wN, .unset] [(.ref wN)])) rfl (hb hby d14_8)
  refine ob T2 (mkF mG 11 #[oa a, oi (0 : Int32), oi (0 : Int32), oa wN, .unset] [(.ref wN), (.ref wN)]) (fun _ kk => st2 _ kk) ?_
  refine ob T2 (mkF mG 14 #[oa a, oi (0 : Int32), oi (0 : Int32), oa wN, .unset] []) (fun _ kk => Jvm.RoadKit.acmp (g := (mkF mG 11 #[oa a, oi (0 : Int32), oi (0 : Int32), oa wN, .unset] [(.ref wN), (.ref wN)])) X2 hx rfl rfl rfl (pc0 := 11) (pc' := 14) (same := true) rfl (hb hby d14_11) rfl (decide_eq_true rfl) (by decide) (by decide) kk) ?_
  refine ob T2 (mkF mG 15 #[oa a, oi (0 : Int32), oi (0 : Int32), oa wN, .unset] [(.int (0 : Int32))]) (fun _ kk => XS.iloadN X2.here hx rfl (hb hby d14_14) rfl kk) ?_
  refine ob T2 (mkF mG 18 #[oa a, oi (0 : Int32), oi (0 : Int32), oa wN, .unset] []) (fun _ kk => XS.ifNo X2.here hx rfl (hb hby d14_15) rfl ((if0 _ _).trans (teq (by decide : (0 : Int32) = (0 : Int32))).2) kk) ?_
  refine ob T2 (mkF mG 19 #[oa a, oi (0 : Int32), oi (0 : Int32), oa wN, .unset] [(.int (1 : Int32))]) (fun _ kk => XS.iconst X2.here hx rfl (hb hby d14_18) kk) ?_
  refine ob T2 (mkF mG 23 #[oa a, oi (0 : Int32), oi (0 : Int32), oa wN, .unset] [(.int (1 : Int32))]) (fun _ kk => XS.goto X2.here hx rfl (pc0 := 19) (pc' := 23) rfl (hb hby d14_19) (by decide) (by decide) kk) ?_
  refine ob T2 (mkF mG 25 #[oa a, oi (0 : Int32), oi (0 : Int32), oa wN, oi (1 : Int32)] []) (fun _ kk => XS.istore X2.here hx rfl (hb hby d14_23) rfl (l' := #[oa a, oi (0 : Int32), oi (0 : Int32), oa wN, oi (1 : Int32)]) rfl kk) ?_
  refine ob T2 (mkF mG 26 #[oa a, oi (0 : Int32), oi (0 : Int32), oa wN, oi (1 : Int32)] [(.ref a)]) (fun _ kk => XS.aloadN X2.here hx rfl (hb hby d14_25) rfl rfl kk) ?_
  obtain ⟨T3, X3, e3, st3⟩ := getF X2 hx hZ hown (host := "") (Or.inl (ow hw 41 rfl)) Via.refl e2 F_t (g := (mkF mG 26 #[oa a, oi (0 : Int32), oi (0 : Int32), oa wN, oi (1 : Int32)] [(.ref a)])) rfl rfl (hb hby d14_26)
  refine ob T3 (mkF mG 29 #[oa a, oi (0 : Int32), oi (0 : Int32), oa wN, oi (1 : Int32)] [(.ref pt)]) (fun _ kk => st3 _ kk) ?_
  refine ob T3 (mkF mG 30 #[oa a, oi (0 : Int32), oi (0 : Int32), oa wN, oi (1 : Int32)] [(.int (0 : Int32)), (.ref pt)]) (fun _ kk => XS.iloadN X3.here hx rfl (hb hby d14_29) rfl kk) ?_
  refine ob T3 (mkF mG 42 #[oa a, oi (0 : Int32), oi (0 : Int32), oa wN, oi (1 : Int32)] [(.ref pt)]) (fun _ kk => XS.ifYes X3.here hx rfl (pc0 := 30) (pc' := 42) rfl (hb hby d14_30) rfl ((if0 _ _).trans (teq (by decide : (0 : Int32) = (0 : Int32))).1) (by decide) (by decide) kk) ?_
  refine ob T3 (mkF mG 43 #[oa a, oi (0 : Int32), oi (0 : Int32), oa wN, oi (1 : Int32)] [(.int (0 : Int32)), (.ref pt)]) (fun _ kk => XS.iconst X3.here hx rfl (hb hby d14_42) kk) ?_
  obtain ⟨cq4, kq4, q4a, q4b, q4c⟩ := isOf hZ e3 (E_pt.ext O0.2)
  obtain ⟨_, _, ⟨T4, L4, k4, n4⟩, -, X4, ⟨Lc4, hQ4, l4, y4, z4⟩, st4⟩ := X3.virtualBack hx (y := (⟨"com/example/vorgang/vorgang/model/Policy", "apply", "(Z)Ljava/util/Optional;"⟩ : MethodName)) (z := (⟨"com/example/vorgang/vorgang/model/Policy", "apply", "(Z)Ljava/util/Optional;"⟩ : MethodName)) hown (mvT hZ (ow hw 48 rfl)) (mvT hZ (ow hw 49 rfl)) (notFace_of_selects (args := #[]) (mvT hZ (ow hw 51 rfl))) (mvT hZ (ow hw 51 rfl)) (mvT hZ (ow hw 50 rfl)) (by decide) (backOf (W := 0) (rm_apE l Z a0 hw [] wA wD wG wU wV wN wB wC wF wE wO k_1 k_2 pt ti (0 : Int32) xv h0 n0 O0 hS pT (Or.inl rfl) rX lX) hZ (ow hw 52 rfl) (ow hw 9 rfl) (by decide) (by decide)) q4a q4c (g := (mkF mG 43 #[oa a, oi (0 : Int32), oi (0 : Int32), oa wN, oi (1 : Int32)] [(.int (0 : Int32)), (.ref pt)])) rfl (by rw [hml]; rfl) (Steps.refl _) (argsL := [(.int (0 : Int32))]) (rest := []) (lenOf pd_11 rfl) rfl (by show 2 * 0 + _ ≤ _; exact Nat.le_of_eq rfl) (hb hby d14_43) (fun _ _ => ⟨rfl, e3, (by decide : 0 + 0 ≤ _), (by decide : 0 + 0 ≤ _)⟩)
  dsimp only [Pt.U, Pt.locs, Pt.cells, Pt.slots] at X4 l4 y4 z4 st4 hQ4
  subst l4 y4 z4
  obtain ⟨rfl, N4q, e4⟩ := hQ4
  have N4 := Fr.app N0 N4q
  obtain ⟨LL5, X4, N4⟩ : ∃ LL, Stand pG l eG _ _ mG _ belowG methG cG T4 LL 0 0 ∧ Fr n0 LL := ⟨_, X4, N4⟩
  refine ob T4 (mkF mG 46 #[oa a, oi (0 : Int32), oi (0 : Int32), oa wN, oi (1 : Int32)] [(.ref wO)]) (fun _ kk => st4.trans kk) ?_
  refine ob T4 (mkF mG 47 #[oa a, oi (0 : Int32), oi (0 : Int32), oa wN, oi (1 : Int32)] [(.ref wN), (.ref wO)]) (fun _ kk => XS.aloadN X4.here hx rfl (hb hby d14_46) rfl rfl kk) ?_
  have hnZ : Z.methodNamed? ox2 = some mG := (State.methodNamed?_setVm (s := Z) hZ0.alike ox2).symm.trans Bd.named
  obtain ⟨T6, h6, X6, e6, E6, A6, st6⟩ := own_mk X4 hx hZ L_2 hnZ (ow hw 81 rfl) e4 oz_t2 (vals := [(.ref wN)]) (rest := [(.ref wO)]) rfl own_nar2 own_fit2 (g := (mkF mG 47 #[oa a, oi (0 : Int32), oi (0 : Int32), oa wN, oi (1 : Int32)] [(.ref wN), (.ref wO)])) rfl (by rw [hml]; rfl) rfl (hb hby d14_47) rfl (by show 2 * 0 + 2 + 3072 ≤ _; decide) (by decide) (n := 1) rfl (by decide)
  obtain ⟨b6, g6⟩ : ∃ z, z = h0.size := ⟨_, rfl⟩
  rw [← g6] at A6 st6
  have n_b6 : n0 ≤ b6 := Nat.le_trans (on0 O0) (Nat.le_of_eq g6.symm)
  have sz_b6 : h0.size ≤ b6 := Nat.le_trans K0.1 (Nat.le_of_eq g6.symm)
  have ne_a_b6 : a ≠ b6 := Nat.ne_of_lt (Nat.lt_of_lt_of_le F_t.lt (Nat.le_of_eq g6.symm))
  have CS6 : CHr Z oEL sG.vm h0 sG.vm h6 := CHr.ext E6 CR0.1
  have CR6 := CR0.trans CS6
  have O6 := O0.ext E6
  have K6 := K0.ext E6
  obtain ⟨LL7, X6, N4⟩ : ∃ LL, Stand pG l eG _ _ mG _ belowG methG cG T6 LL 1 1 ∧ Fr n0 LL := ⟨_, X6, N4⟩
  refine ob T6 (mkF mG 52 #[oa a, oi (0 : Int32), oi (0 : Int32), oa wN, oi (1 : Int32)] [(.ref b6), (.ref wO)]) (fun _ kk => st6 _ kk) ?_
  obtain ⟨cq8, kq8, q8a, q8b, q8c⟩ := isOf hZ e6 (E_wO.ext O6.2)
  obtain ⟨_, _, ⟨T8, L8, k8, n8⟩, -, X8, ⟨Lc8, hQ8, l8, y8, z8⟩, st8⟩ := X6.virtualBack hx (y := (⟨"java/util/Optional", "map", "(Ljava/util/function/Function;)Ljava/util/Optional;"⟩ : MethodName)) (z := (⟨"java/util/Optional", "map", "(Ljava/util/function/Function;)Ljava/util/Optional;"⟩ : MethodName)) hown (mvT hZ (ow hw 108 rfl)) (mvT hZ (ow hw 109 rfl)) (notFace_of_selects (args := #[]) (mvT hZ (ow hw 111 rfl))) (mvT hZ (ow hw 111 rfl)) (mvT hZ (ow hw 110 rfl)) (by decide) (backOf (W := 0) (rm_mapE l Z a0 hw [] wA wD wG wU wV wN wB wC wF wE wO k_1 k_2 b6 h6 n0 O6 hS ) hZ (ow hw 112 rfl) (ow hw 67 rfl) (by decide) (by decide)) q8a q8c (g := (mkF mG 52 #[oa a, oi (0 : Int32), oi (0 : Int32), oa wN, oi (1 : Int32)] [(.ref b6), (.ref wO)])) rfl (by rw [hml]; rfl) (Steps.refl _) (argsL := [(.ref b6)]) (rest := []) (lenOf pd_12 rfl) rfl (by show 2 * 0 + _ ≤ _; exact Nat.le_of_eq rfl) (hb hby d14_52) (fun _ _ => ⟨rfl, e6, (by decide : 1 + 0 ≤ _), (by decide : 1 + 0 ≤ _)⟩)
  dsimp only [Pt.U, Pt.locs, Pt.cells, Pt.slots] at X8 l8 y8 z8 st8 hQ8
  subst l8 y8 z8
  obtain ⟨rfl, N8q, e8⟩ := hQ8
  have N8 := Fr.app N4 N8q
  obtain ⟨LL9, X8, N8⟩ : ∃ LL, Stand pG l eG _ _ mG _ belowG methG cG T8 LL 1 1 ∧ Fr n0 LL := ⟨_, X8, N8⟩
  refine ob T8 (mkF mG 55 #[oa a, oi (0 : Int32), oi (0 : Int32), oa wN, oi (1 : Int32)] [(.ref wO)]) (fun _ kk => st8.trans kk) ?_
  obtain ⟨fs, hr, hrun, hended, hW, hsame⟩ := X8.leave (v := some (.ref wO)) (fun h => by rw [Bd.returns] at h; cases h)
  obtain ⟨w1, w2, w3⟩ := State.Since.ended (U := T8.setFrames fs) hS0 hW (by show _ ≤ T8.heap.size; rw [e8]; exact (Nat.le_trans hk0 CS6.2.1)) hsame
  have CF := CR6.trans (CHv.at X8 hZ hEL CR6.1)
  refine oout (oretA X8 hx Bd.returns rfl rfl (hb hby d14_55) hr) hrun hended ⟨_, _, rfl, ?_, ?_, ⟨_, rfl⟩, w1, w2, w3.mono (by decide) (by decide)⟩
  · show Q_rm_ld1E_000 Z wA wD wG wU wV wN wB wC wF wE wO k_1 k_2 a pt ti xv h0 n0 _ T8.heap _
    rw [e8]
    exact ⟨rfl, N8, K6, O6⟩
  · show CHr Z oEL sG.vm sG.heap T8.vm T8.heap
    rw [hh, e8]
    exact CF

theorem d14_33 : decode prog_10_method_8_code 33 = .ok (.iload 4, 2) := by decide +kernel
theorem d14_35 : decode prog_10_method_8_code 35 = .ok (.ifCond .eq 7, 3) := by decide +kernel
theorem d14_38 : decode prog_10_method_8_code 38 = .ok (.iconst 1, 1) := by decide +kernel
theorem d14_39 : decode prog_10_method_8_code 39 = .ok (.goto 4, 3) := by decide +kernel
def Q_rm_ld1E_001 (Z : State) (wA wD wG wU wV wN wB wC wF wE wO : Addr) (k_1 k_2 : ClassId) (a pt : Addr) (ti xv : Int32) (h0 : Heap) (n0 : Nat) (v : Option Value) (h : Heap) (L : List Loc) : Prop := v = some (.ref wO) ∧ Fr n0 L ∧ Keep h0 h [] ∧ Old Z n0 h
set_option maxRecDepth 65536 in
set_option maxHeartbeats 40000000 in
theorem rm_ld1E_001 (l : Launch) (Z : State) (a0 : Array Value) (hw : ∀ d ∈ tables_1, d.before a0 Z = true) (ws : List Jvm.Cond) (wA wD wG wU wV wN wB wC wF wE wO : Addr) (k_1 k_2 : ClassId) (a pt : Addr) (ti xv : Int32) (h0 : Heap) (n0 : Nat) (O0 : Old Z n0 h0) (hS : St0 Z wA wD wG wU wV wN wB wC wF wE wO k_1 k_2 ) (F_t : Fld Z h0 a "com/example/vorgang/vorgang/model/CallPolicy" "transactionType" "Lcom/example/vorgang/vorgang/model/Policy;" (.ref pt)) (pT : oPol wA wB wC wD wE wF wG ti pt) (rX : oRu ti (1 : Int32) = xv) (lX : xv < (0 : Int32)) :
    MetFree l (⟨"com/example/vorgang/vorgang/model/CallPolicy", "lambda$dispatch$1", "(ZZLcom/example/vorgang/vorgang/model/ContextUse;)Ljava/util/Optional;"⟩ : MethodName) (head1 (Jvm.Cond.code (⟨"com/example/vorgang/vorgang/model/CallPolicy", "lambda$dispatch$1", "(ZZLcom/example/vorgang/vorgang/model/ContextUse;)Ljava/util/Optional;"⟩ : MethodName) prog_10_method_8_code 5 (some (.object "java/util/Optional")) :: ws) ({ frames := 6, cells := 8, slots := 90, locals := 3080 } : Room)) (fun aG UG => aG = #[(.ref a), (.int (0 : Int32)), (.int (1 : Int32)), (.ref wN)] ∧ Z.Warmed39 UG.vm ∧ UG.heap = h0 ∧ CHv Z oEL UG.vm h0) (fun _ _ _ _ _ => True) (fun _ UG oG UG' => ∃ vG LG, oG = .returned vG ∧ Q_rm_ld1E_001 Z wA wD wG wU wV wN wB wC wF wE wO k_1 k_2 a pt ti xv h0 n0 vG UG'.heap LG ∧ CHr Z oEL UG.vm UG.heap UG'.vm UG'.heap ∧ ReturnedEndW UG oG UG' LG ({ frames := 6, cells := 8, slots := 90, locals := 3080 } : Room).cells ({ frames := 6, cells := 8, slots := 90, locals := 3080 } : Room).slots) := by
  refine MetFree.of_bodySF (plainFor_of_name pn_6) hisR ?_
  intro pG eG sG mG argsG belowG methG cG s₁ Bd hml0 hP hK
  obtain ⟨rfl, hZ, hh, hC⟩ := hP
  have hx := Bd.exec
  have hby := Bd.bytes
  have hml : cG.maxLocals = 5 := hml0
  have hown : sG.vm.findClass "com/example/vorgang/vorgang/model/CallPolicy" = some mG.cls := findClass_of_methodNamed Bd.named
  have hnm := (name_of_methodNamed Bd.named Bd.method).1
  have X0 : Stand pG l eG ({ frames := 6, cells := 8, slots := 90, locals := 3080 } : Room) (sG.setVm sG.vm) mG #[(.ref a), (.int (0 : Int32)), (.int (1 : Int32)), (.ref wN)] belowG methG cG s₁ [] 0 0 := Stand.of_body Bd
  have e0 : s₁.heap = h0 := by rw [← hh, Bd.state]; rfl
  have N0 := Fr.nil n0
  have K0 := Keep.refl h0 []
  have hS0 : sG.Since sG.vm h0.size := (State.WarmedH.refl sG).since _
  have hk0 : h0.size ≤ h0.size := Nat.le_refl _
  have CR0 : CHr Z oEL sG.vm h0 sG.vm h0 := CHr.refl hC
  have hEL : EW Z a0 oEL := own_EW hw
  obtain ⟨S_wA, E_wA, S_wD, E_wD, S_wG, E_wG, S_wU, E_wU, S_wV, E_wV, S_wN, E_wN, S_wB, E_wB, S_wC, E_wC, S_wF, E_wF, S_wE, E_wE, S_wO, E_wO, F_wA_ordinal, F_wG_ordinal, F_wD_ordinal, F_wU_ordinal, F_wV_ordinal, F_wN_ordinal, F_wB_ordinal, F_wC_ordinal, F_wF_ordinal, F_wE_ordinal, F_wO_value, L_1, L_2, ne_wA_wG, ne_wA_wD, ne_wA_wB, ne_wA_wC, ne_wA_wF, ne_wA_wE, ne_wG_wD, ne_wG_wB, ne_wG_wC, ne_wG_wF, ne_wG_wE, ne_wD_wB, ne_wD_wC, ne_wD_wF, ne_wD_wE, ne_wU_wV, ne_wU_wN, ne_wV_wN, ne_wB_wC, ne_wB_wF, ne_wB_wE, ne_wC_wF, ne_wC_wE, ne_wF_wE⟩ := (id hS : St0 Z wA wD wG wU wV wN wB wC wF wE wO k_1 k_2 )
  have hZ0 := hZ
  have E_pt := own_pe hS pT
  refine ostart (g' := (mkF mG 0 #[oa a, oi (0 : Int32), oi (1 : Int32), oa wN, .unset] [])) (by first | (simp [entryFrame, mkF, argsToLocals, Value.category]; done) | rfl) ?_
  refine ob s₁ (mkF mG 1 #[oa a, oi (0 : Int32), oi (1 : Int32), oa wN, .unset] [(.ref wN)]) (fun _ kk => XS.aloadN X0.here hx rfl (hb hby d14_0) rfl rfl kk) ?_
  obtain ⟨T1, X1, e1, st1⟩ := getS2 X0 hx hZ hown (host := "") (Or.inl (ow hw 102 rfl)) Via.refl e0 (S_wV.ext O0.2) (g := (mkF mG 1 #[oa a, oi (0 : Int32), oi (1 : Int32), oa wN, .unset] [(.ref wN)])) rfl (hb hby d14_1)
  refine ob T1 (mkF mG 4 #[oa a, oi (0 : Int32), oi (1 : Int32), oa wN, .unset] [(.ref wV), (.ref wN)]) (fun _ kk => st1 _ kk) ?_
  refine ob T1 (mkF mG 7 #[oa a, oi (0 : Int32), oi (1 : Int32), oa wN, .unset] []) (fun _ kk => Jvm.RoadKit.acmp (g := (mkF mG 4 #[oa a, oi (0 : Int32), oi (1 : Int32), oa wN, .unset] [(.ref wV), (.ref wN)])) X1 hx rfl rfl rfl (pc0 := 4) (pc' := 7) (same := false) rfl (hb hby d14_4) rfl (decide_eq_false fun q => (Ne.symm ne_wV_wN) (Value.ref.inj q)) (by decide) (by decide) kk) ?_
  refine ob T1 (mkF mG 8 #[oa a, oi (0 : Int32), oi (1 : Int32), oa wN, .unset] [(.ref wN)]) (fun _ kk => XS.aloadN X1.here hx rfl (hb hby d14_7) rfl rfl kk) ?_
  obtain ⟨T2, X2, e2, st2⟩ := getS2 X1 hx hZ hown (host := "") (Or.inl (ow hw 104 rfl)) Via.refl e1 (S_wN.ext O0.2) (g := (mkF mG 8 #[oa a, oi (0 : Int32), oi (1 : Int32), oa wN, .unset] [(.ref wN)])) rfl (hb hby d14_8)
  refine ob T2 (mkF mG 11 #[oa a, oi (0 : Int32), oi (1 : Int32), oa wN, .unset] [(.ref wN), (.ref wN)]) (fun _ kk => st2 _ kk) ?_
  refine ob T2 (mkF mG 14 #[oa a, oi (0 : Int32), oi (1 : Int32), oa wN, .unset] []) (fun _ kk => Jvm.RoadKit.acmp (g := (mkF mG 11 #[oa a, oi (0 : Int32), oi (1 : Int32), oa wN, .unset] [(.ref wN), (.ref wN)])) X2 hx rfl rfl rfl (pc0 := 11) (pc' := 14) (same := true) rfl (hb hby d14_11) rfl (decide_eq_true rfl) (by decide) (by decide) kk) ?_
  refine ob T2 (mkF mG 15 #[oa a, oi (0 : Int32), oi (1 : Int32), oa wN, .unset] [(.int (0 : Int32))]) (fun _ kk => XS.iloadN X2.here hx rfl (hb hby d14_14) rfl kk) ?_
  refine ob T2 (mkF mG 18 #[oa a, oi (0 : Int32), oi (1 : Int32), oa wN, .unset] []) (fun _ kk => XS.ifNo X2.here hx rfl (hb hby d14_15) rfl ((if0 _ _).trans (teq (by decide : (0 : Int32) = (0 : Int32))).2) kk) ?_
  refine ob T2 (mkF mG 19 #[oa a, oi (0 : Int32), oi (1 : Int32), oa wN, .unset] [(.int (1 : Int32))]) (fun _ kk => XS.iconst X2.here hx rfl (hb hby d14_18) kk) ?_
  refine ob T2 (mkF mG 23 #[oa a, oi (0 : Int32), oi (1 : Int32), oa wN, .unset] [(.int (1 : Int32))]) (fun _ kk => XS.goto X2.here hx rfl (pc0 := 19) (pc' := 23) rfl (hb hby d14_19) (by decide) (by decide) kk) ?_
  refine ob T2 (mkF mG 25 #[oa a, oi (0 : Int32), oi (1 : Int32), oa wN, oi (1 : Int32)] []) (fun _ kk => XS.istore X2.here hx rfl (hb hby d14_23) rfl (l' := #[oa a, oi (0 : Int32), oi (1 : Int32), oa wN, oi (1 : Int32)]) rfl kk) ?_
  refine ob T2 (mkF mG 26 #[oa a, oi (0 : Int32), oi (1 : Int32), oa wN, oi (1 : Int32)] [(.ref a)]) (fun _ kk => XS.aloadN X2.here hx rfl (hb hby d14_25) rfl rfl kk) ?_
  obtain ⟨T3, X3, e3, st3⟩ := getF X2 hx hZ hown (host := "") (Or.inl (ow hw 41 rfl)) Via.refl e2 F_t (g := (mkF mG 26 #[oa a, oi (0 : Int32), oi (1 : Int32), oa wN, oi (1 : Int32)] [(.ref a)])) rfl rfl (hb hby d14_26)
  refine ob T3 (mkF mG 29 #[oa a, oi (0 : Int32), oi (1 : Int32), oa wN, oi (1 : Int32)] [(.ref pt)]) (fun _ kk => st3 _ kk) ?_
  refine ob T3 (mkF mG 30 #[oa a, oi (0 : Int32), oi (1 : Int32), oa wN, oi (1 : Int32)] [(.int (1 : Int32)), (.ref pt)]) (fun _ kk => XS.iloadN X3.here hx rfl (hb hby d14_29) rfl kk) ?_
  refine ob T3 (mkF mG 33 #[oa a, oi (0 : Int32), oi (1 : Int32), oa wN, oi (1 : Int32)] [(.ref pt)]) (fun _ kk => XS.ifNo X3.here hx rfl (hb hby d14_30) rfl ((if0 _ _).trans (feq (by decide : ¬ ((1 : Int32) = (0 : Int32)))).1) kk) ?_
  refine ob T3 (mkF mG 35 #[oa a, oi (0 : Int32), oi (1 : Int32), oa wN, oi (1 : Int32)] [(.int (1 : Int32)), (.ref pt)]) (fun _ kk => XS.iload X3.here hx rfl (hb hby d14_33) rfl kk) ?_
  refine ob T3 (mkF mG 38 #[oa a, oi (0 : Int32), oi (1 : Int32), oa wN, oi (1 : Int32)] [(.ref pt)]) (fun _ kk => XS.ifNo X3.here hx rfl (hb hby d14_35) rfl ((if0 _ _).trans (feq (by decide : ¬ ((1 : Int32) = (0 : Int32)))).1) kk) ?_
  refine ob T3 (mkF mG 39 #[oa a, oi (0 : Int32), oi (1 : Int32), oa wN, oi (1 : Int32)] [(.int (1 : Int32)), (.ref pt)]) (fun _ kk => XS.iconst X3.here hx rfl (hb hby d14_38) kk) ?_
  refine ob T3 (mkF mG 43 #[oa a, oi (0 : Int32), oi (1 : Int32), oa wN, oi (1 : Int32)] [(.int (1 : Int32)), (.ref pt)]) (fun _ kk => XS.goto X3.here hx rfl (pc0 := 39) (pc' := 43) rfl (hb hby d14_39) (by decide) (by decide) kk) ?_
  obtain ⟨cq4, kq4, q4a, q4b, q4c⟩ := isOf hZ e3 (E_pt.ext O0.2)
  obtain ⟨_, _, ⟨T4, L4, k4, n4⟩, -, X4, ⟨Lc4, hQ4, l4, y4, z4⟩, st4⟩ := X3.virtualBack hx (y := (⟨"com/example/vorgang/vorgang/model/Policy", "apply", "(Z)Ljava/util/Optional;"⟩ : MethodName)) (z := (⟨"com/example/vorgang/vorgang/model/Policy", "apply", "(Z)Ljava/util/Optional;"⟩ : MethodName)) hown (mvT hZ (ow hw 48 rfl)) (mvT hZ (ow hw 49 rfl)) (notFace_of_selects (args := #[]) (mvT hZ (ow hw 51 rfl))) (mvT hZ (ow hw 51 rfl)) (mvT hZ (ow hw 50 rfl)) (by decide) (backOf (W := 0) (rm_apE l Z a0 hw [] wA wD wG wU wV wN wB wC wF wE wO k_1 k_2 pt ti (1 : Int32) xv h0 n0 O0 hS pT (Or.inr rfl) rX lX) hZ (ow hw 52 rfl) (ow hw 9 rfl) (by decide) (by decide)) q4a q4c (g := (mkF mG 43 #[oa a, oi (0 : Int32), oi (1 : Int32), oa wN, oi (1 : Int32)] [(.int (1 : Int32)), (.ref pt)])) rfl (by rw [hml]; rfl) (Steps.refl _) (argsL := [(.int (1 : Int32))]) (rest := []) (lenOf pd_11 rfl) rfl (by show 2 * 0 + _ ≤ _; exact Nat.le_of_eq rfl) (hb hby d14_43) (fun _ _ => ⟨rfl, e3, (by decide : 0 + 0 ≤ _), (by decide : 0 + 0 ≤ _)⟩)
  dsimp only [Pt.U, Pt.locs, Pt.cells, Pt.slots] at X4 l4 y4 z4 st4 hQ4
  subst l4 y4 z4
  obtain ⟨rfl, N4q, e4⟩ := hQ4
  have N4 := Fr.app N0 N4q
  obtain ⟨LL5, X4, N4⟩ : ∃ LL, Stand pG l eG _ _ mG _ belowG methG cG T4 LL 0 0 ∧ Fr n0 LL := ⟨_, X4, N4⟩
  refine ob T4 (mkF mG 46 #[oa a, oi (0 : Int32), oi (1 : Int32), oa wN, oi (1 : Int32)] [(.ref wO)]) (fun _ kk => st4.trans kk) ?_
  refine ob T4 (mkF mG 47 #[oa a, oi (0 : Int32), oi (1 : Int32), oa wN, oi (1 : Int32)] [(.ref wN), (.ref wO)]) (fun _ kk => XS.aloadN X4.here hx rfl (hb hby d14_46) rfl rfl kk) ?_
  have hnZ : Z.methodNamed? ox2 = some mG := (State.methodNamed?_setVm (s := Z) hZ0.alike ox2).symm.trans Bd.named
  obtain ⟨T6, h6, X6, e6, E6, A6, st6⟩ := own_mk X4 hx hZ L_2 hnZ (ow hw 81 rfl) e4 oz_t2 (vals := [(.ref wN)]) (rest := [(.ref wO)]) rfl own_nar2 own_fit2 (g := (mkF mG 47 #[oa a, oi (0 : Int32), oi (1 : Int32), oa wN, oi (1 : Int32)] [(.ref wN), (.ref wO)])) rfl (by rw [hml]; rfl) rfl (hb hby d14_47) rfl (by show 2 * 0 + 2 + 3072 ≤ _; decide) (by decide) (n := 1) rfl (by decide)
  obtain ⟨b6, g6⟩ : ∃ z, z = h0.size := ⟨_, rfl⟩
  rw [← g6] at A6 st6
  have n_b6 : n0 ≤ b6 := Nat.le_trans (on0 O0) (Nat.le_of_eq g6.symm)
  have sz_b6 : h0.size ≤ b6 := Nat.le_trans K0.1 (Nat.le_of_eq g6.symm)
  have ne_a_b6 : a ≠ b6 := Nat.ne_of_lt (Nat.lt_of_lt_of_le F_t.lt (Nat.le_of_eq g6.symm))
  have CS6 : CHr Z oEL sG.vm h0 sG.vm h6 := CHr.ext E6 CR0.1
  have CR6 := CR0.trans CS6
  have O6 := O0.ext E6
  have K6 := K0.ext E6
  obtain ⟨LL7, X6, N4⟩ : ∃ LL, Stand pG l eG _ _ mG _ belowG methG cG T6 LL 1 1 ∧ Fr n0 LL := ⟨_, X6, N4⟩
  refine ob T6 (mkF mG 52 #[oa a, oi (0 : Int32), oi (1 : Int32), oa wN, oi (1 : Int32)] [(.ref b6), (.ref wO)]) (fun _ kk => st6 _ kk) ?_
  obtain ⟨cq8, kq8, q8a, q8b, q8c⟩ := isOf hZ e6 (E_wO.ext O6.2)
  obtain ⟨_, _, ⟨T8, L8, k8, n8⟩, -, X8, ⟨Lc8, hQ8, l8, y8, z8⟩, st8⟩ := X6.virtualBack hx (y := (⟨"java/util/Optional", "map", "(Ljava/util/function/Function;)Ljava/util/Optional;"⟩ : MethodName)) (z := (⟨"java/util/Optional", "map", "(Ljava/util/function/Function;)Ljava/util/Optional;"⟩ : MethodName)) hown (mvT hZ (ow hw 108 rfl)) (mvT hZ (ow hw 109 rfl)) (notFace_of_selects (args := #[]) (mvT hZ (ow hw 111 rfl))) (mvT hZ (ow hw 111 rfl)) (mvT hZ (ow hw 110 rfl)) (by decide) (backOf (W := 0) (rm_mapE l Z a0 hw [] wA wD wG wU wV wN wB wC wF wE wO k_1 k_2 b6 h6 n0 O6 hS ) hZ (ow hw 112 rfl) (ow hw 67 rfl) (by decide) (by decide)) q8a q8c (g := (mkF mG 52 #[oa a, oi (0 : Int32), oi (1 : Int32), oa wN, oi (1 : Int32)] [(.ref b6), (.ref wO)])) rfl (by rw [hml]; rfl) (Steps.refl _) (argsL := [(.ref b6)]) (rest := []) (lenOf pd_12 rfl) rfl (by show 2 * 0 + _ ≤ _; exact Nat.le_of_eq rfl) (hb hby d14_52) (fun _ _ => ⟨rfl, e6, (by decide : 1 + 0 ≤ _), (by decide : 1 + 0 ≤ _)⟩)
  dsimp only [Pt.U, Pt.locs, Pt.cells, Pt.slots] at X8 l8 y8 z8 st8 hQ8
  subst l8 y8 z8
  obtain ⟨rfl, N8q, e8⟩ := hQ8
  have N8 := Fr.app N4 N8q
  obtain ⟨LL9, X8, N8⟩ : ∃ LL, Stand pG l eG _ _ mG _ belowG methG cG T8 LL 1 1 ∧ Fr n0 LL := ⟨_, X8, N8⟩
  refine ob T8 (mkF mG 55 #[oa a, oi (0 : Int32), oi (1 : Int32), oa wN, oi (1 : Int32)] [(.ref wO)]) (fun _ kk => st8.trans kk) ?_
  obtain ⟨fs, hr, hrun, hended, hW, hsame⟩ := X8.leave (v := some (.ref wO)) (fun h => by rw [Bd.returns] at h; cases h)
  obtain ⟨w1, w2, w3⟩ := State.Since.ended (U := T8.setFrames fs) hS0 hW (by show _ ≤ T8.heap.size; rw [e8]; exact (Nat.le_trans hk0 CS6.2.1)) hsame
  have CF := CR6.trans (CHv.at X8 hZ hEL CR6.1)
  refine oout (oretA X8 hx Bd.returns rfl rfl (hb hby d14_55) hr) hrun hended ⟨_, _, rfl, ?_, ?_, ⟨_, rfl⟩, w1, w2, w3.mono (by decide) (by decide)⟩
  · show Q_rm_ld1E_001 Z wA wD wG wU wV wN wB wC wF wE wO k_1 k_2 a pt ti xv h0 n0 _ T8.heap _
    rw [e8]
    exact ⟨rfl, N8, K6, O6⟩
  · show CHr Z oEL sG.vm sG.heap T8.vm T8.heap
    rw [hh, e8]
    exact CF

theorem d14_22 : decode prog_10_method_8_code 22 = .ok (.iconst 0, 1) := by decide +kernel
def Q_rm_ld1E_010 (Z : State) (wA wD wG wU wV wN wB wC wF wE wO : Addr) (k_1 k_2 : ClassId) (a pt : Addr) (ti xv : Int32) (h0 : Heap) (n0 : Nat) (v : Option Value) (h : Heap) (L : List Loc) : Prop := v = some (.ref wO) ∧ Fr n0 L ∧ Keep h0 h [] ∧ Old Z n0 h
set_option maxRecDepth 65536 in
set_option maxHeartbeats 40000000 in
theorem rm_ld1E_010 (l : Launch) (Z : State) (a0 : Array Value) (hw : ∀ d ∈ tables_1, d.before a0 Z = true) (ws : List Jvm.Cond) (wA wD wG wU wV wN wB wC wF wE wO : Addr) (k_1 k_2 : ClassId) (a pt : Addr) (ti xv : Int32) (h0 : Heap) (n0 : Nat) (O0 : Old Z n0 h0) (hS : St0 Z wA wD wG wU wV wN wB wC wF wE wO k_1 k_2 ) (F_t : Fld Z h0 a "com/example/vorgang/vorgang/model/CallPolicy" "transactionType" "Lcom/example/vorgang/vorgang/model/Policy;" (.ref pt)) (pT : oPol wA wB wC wD wE wF wG ti pt) (rX : oRu ti (0 : Int32) = xv) (lX : xv < (0 : Int32)) :
    MetFree l (⟨"com/example/vorgang/vorgang/model/CallPolicy", "lambda$dispatch$1", "(ZZLcom/example/vorgang/vorgang/model/ContextUse;)Ljava/util/Optional;"⟩ : MethodName) (head1 (Jvm.Cond.code (⟨"com/example/vorgang/vorgang/model/CallPolicy", "lambda$dispatch$1", "(ZZLcom/example/vorgang/vorgang/model/ContextUse;)Ljava/util/Optional;"⟩ : MethodName) prog_10_method_8_code 5 (some (.object "java/util/Optional")) :: ws) ({ frames := 6, cells := 8, slots := 90, locals := 3080 } : Room)) (fun aG UG => aG = #[(.ref a), (.int (1 : Int32)), (.int (0 : Int32)), (.ref wN)] ∧ Z.Warmed39 UG.vm ∧ UG.heap = h0 ∧ CHv Z oEL UG.vm h0) (fun _ _ _ _ _ => True) (fun _ UG oG UG' => ∃ vG LG, oG = .returned vG ∧ Q_rm_ld1E_010 Z wA wD wG wU wV wN wB wC wF wE wO k_1 k_2 a pt ti xv h0 n0 vG UG'.heap LG ∧ CHr Z oEL UG.vm UG.heap UG'.vm UG'.heap ∧ ReturnedEndW UG oG UG' LG ({ frames := 6, cells := 8, slots := 90, locals := 3080 } : Room).cells ({ frames := 6, cells := 8, slots := 90, locals := 3080 } : Room).slots) := by
  refine MetFree.of_bodySF (plainFor_of_name pn_6) hisR ?_
  intro pG eG sG mG argsG belowG methG cG s₁ Bd hml0 hP hK
  obtain ⟨rfl, hZ, hh, hC⟩ := hP
  have hx := Bd.exec
  have hby := Bd.bytes
  have hml : cG.maxLocals = 5 := hml0
  have hown : sG.vm.findClass "com/example/vorgang/vorgang/model/CallPolicy" = some mG.cls := findClass_of_methodNamed Bd.named
  have hnm := (name_of_methodNamed Bd.named Bd.method).1
  have X0 : Stand pG l eG ({ frames := 6, cells := 8, slots := 90, locals := 3080 } : Room) (sG.setVm sG.vm) mG #[(.ref a), (.int (1 : Int32)), (.int (0 : Int32)), (.ref wN)] belowG methG cG s₁ [] 0 0 := Stand.of_body Bd
  have e0 : s₁.heap = h0 := by rw [← hh, Bd.state]; rfl
  have N0 := Fr.nil n0
  have K0 := Keep.refl h0 []
  have hS0 : sG.Since sG.vm h0.size := (State.WarmedH.refl sG).since _
  have hk0 : h0.size ≤ h0.size := Nat.le_refl _
  have CR0 : CHr Z oEL sG.vm h0 sG.vm h0 := CHr.refl hC
  have hEL : EW Z a0 oEL := own_EW hw
  obtain ⟨S_wA, E_wA, S_wD, E_wD, S_wG, E_wG, S_wU, E_wU, S_wV, E_wV, S_wN, E_wN, S_wB, E_wB, S_wC, E_wC, S_wF, E_wF, S_wE, E_wE, S_wO, E_wO, F_wA_ordinal, F_wG_ordinal, F_wD_ordinal, F_wU_ordinal, F_wV_ordinal, F_wN_ordinal, F_wB_ordinal, F_wC_ordinal, F_wF_ordinal, F_wE_ordinal, F_wO_value, L_1, L_2, ne_wA_wG, ne_wA_wD, ne_wA_wB, ne_wA_wC, ne_wA_wF, ne_wA_wE, ne_wG_wD, ne_wG_wB, ne_wG_wC, ne_wG_wF, ne_wG_wE, ne_wD_wB, ne_wD_wC, ne_wD_wF, ne_wD_wE, ne_wU_wV, ne_wU_wN, ne_wV_wN, ne_wB_wC, ne_wB_wF, ne_wB_wE, ne_wC_wF, ne_wC_wE, ne_wF_wE⟩ := (id hS : St0 Z wA wD wG wU wV wN wB wC wF wE wO k_1 k_2 )
  have hZ0 := hZ
  have E_pt := own_pe hS pT
  refine ostart (g' := (mkF mG 0 #[oa a, oi (1 : Int32), oi (0 : Int32), oa wN, .unset] [])) (by first | (simp [entryFrame, mkF, argsToLocals, Value.category]; done) | rfl) ?_
  refine ob s₁ (mkF mG 1 #[oa a, oi (1 : Int32), oi (0 : Int32), oa wN, .unset] [(.ref wN)]) (fun _ kk => XS.aloadN X0.here hx rfl (hb hby d14_0) rfl rfl kk) ?_
  obtain ⟨T1, X1, e1, st1⟩ := getS2 X0 hx hZ hown (host := "") (Or.inl (ow hw 102 rfl)) Via.refl e0 (S_wV.ext O0.2) (g := (mkF mG 1 #[oa a, oi (1 : Int32), oi (0 : Int32), oa wN, .unset] [(.ref wN)])) rfl (hb hby d14_1)
  refine ob T1 (mkF mG 4 #[oa a, oi (1 : Int32), oi (0 : Int32), oa wN, .unset] [(.ref wV), (.ref wN)]) (fun _ kk => st1 _ kk) ?_
  refine ob T1 (mkF mG 7 #[oa a, oi (1 : Int32), oi (0 : Int32), oa wN, .unset] []) (fun _ kk => Jvm.RoadKit.acmp (g := (mkF mG 4 #[oa a, oi (1 : Int32), oi (0 : Int32), oa wN, .unset] [(.ref wV), (.ref wN)])) X1 hx rfl rfl rfl (pc0 := 4) (pc' := 7) (same := false) rfl (hb hby d14_4) rfl (decide_eq_false fun q => (Ne.symm ne_wV_wN) (Value.ref.inj q)) (by decide) (by decide) kk) ?_
  refine ob T1 (mkF mG 8 #[oa a, oi (1 : Int32), oi (0 : Int32), oa wN, .unset] [(.ref wN)]) (fun _ kk => XS.aloadN X1.here hx rfl (hb hby d14_7) rfl rfl kk) ?_
  obtain ⟨T2, X2, e2, st2⟩ := getS2 X1 hx hZ hown (host := "") (Or.inl (ow hw 104 rfl)) Via.refl e1 (S_wN.ext O0.2) (g := (mkF mG 8 #[oa a, oi (1 : Int32), oi (0 : Int32), oa wN, .unset] [(.ref wN)])) rfl (hb hby d14_8)
  refine ob T2 (mkF mG 11 #[oa a, oi (1 : Int32), oi (0 : Int32), oa wN, .unset] [(.ref wN), (.ref wN)]) (fun _ kk => st2 _ kk) ?_
  refine ob T2 (mkF mG 14 #[oa a, oi (1 : Int32), oi (0 : Int32), oa wN, .unset] []) (fun _ kk => Jvm.RoadKit.acmp (g := (mkF mG 11 #[oa a, oi (1 : Int32), oi (0 : Int32), oa wN, .unset] [(.ref wN), (.ref wN)])) X2 hx rfl rfl rfl (pc0 := 11) (pc' := 14) (same := true) rfl (hb hby d14_11) rfl (decide_eq_true rfl) (by decide) (by decide) kk) ?_
  refine ob T2 (mkF mG 15 #[oa a, oi (1 : Int32), oi (0 : Int32), oa wN, .unset] [(.int (1 : Int32))]) (fun _ kk => XS.iloadN X2.here hx rfl (hb hby d14_14) rfl kk) ?_
  refine ob T2 (mkF mG 22 #[oa a, oi (1 : Int32), oi (0 : Int32), oa wN, .unset] []) (fun _ kk => XS.ifYes X2.here hx rfl (pc0 := 15) (pc' := 22) rfl (hb hby d14_15) rfl ((if0 _ _).trans (feq (by decide : ¬ ((1 : Int32) = (0 : Int32)))).2) (by decide) (by decide) kk) ?_
  refine ob T2 (mkF mG 23 #[oa a, oi (1 : Int32), oi (0 : Int32), oa wN, .unset] [(.int (0 : Int32))]) (fun _ kk => XS.iconst X2.here hx rfl (hb hby d14_22) kk) ?_
  refine ob T2 (mkF mG 25 #[oa a, oi (1 : Int32), oi (0 : Int32), oa wN, oi (0 : Int32)] []) (fun _ kk => XS.istore X2.here hx rfl (hb hby d14_23) rfl (l' := #[oa a, oi (1 : Int32), oi (0 : Int32), oa wN, oi (0 : Int32)]) rfl kk) ?_
  refine ob T2 (mkF mG 26 #[oa a, oi (1 : Int32), oi (0 : Int32), oa wN, oi (0 : Int32)] [(.ref a)]) (fun _ kk => XS.aloadN X2.here hx rfl (hb hby d14_25) rfl rfl kk) ?_
  obtain ⟨T3, X3, e3, st3⟩ := getF X2 hx hZ hown (host := "") (Or.inl (ow hw 41 rfl)) Via.refl e2 F_t (g := (mkF mG 26 #[oa a, oi (1 : Int32), oi (0 : Int32), oa wN, oi (0 : Int32)] [(.ref a)])) rfl rfl (hb hby d14_26)
  refine ob T3 (mkF mG 29 #[oa a, oi (1 : Int32), oi (0 : Int32), oa wN, oi (0 : Int32)] [(.ref pt)]) (fun _ kk => st3 _ kk) ?_
  refine ob T3 (mkF mG 30 #[oa a, oi (1 : Int32), oi (0 : Int32), oa wN, oi (0 : Int32)] [(.int (0 : Int32)), (.ref pt)]) (fun _ kk => XS.iloadN X3.here hx rfl (hb hby d14_29) rfl kk) ?_
  refine ob T3 (mkF mG 42 #[oa a, oi (1 : Int32), oi (0 : Int32), oa wN, oi (0 : Int32)] [(.ref pt)]) (fun _ kk => XS.ifYes X3.here hx rfl (pc0 := 30) (pc' := 42) rfl (hb hby d14_30) rfl ((if0 _ _).trans (teq (by decide : (0 : Int32) = (0 : Int32))).1) (by decide) (by decide) kk) ?_
  refine ob T3 (mkF mG 43 #[oa a, oi (1 : Int32), oi (0 : Int32), oa wN, oi (0 : Int32)] [(.int (0 : Int32)), (.ref pt)]) (fun _ kk => XS.iconst X3.here hx rfl (hb hby d14_42) kk) ?_
  obtain ⟨cq4, kq4, q4a, q4b, q4c⟩ := isOf hZ e3 (E_pt.ext O0.2)
  obtain ⟨_, _, ⟨T4, L4, k4, n4⟩, -, X4, ⟨Lc4, hQ4, l4, y4, z4⟩, st4⟩ := X3.virtualBack hx (y := (⟨"com/example/vorgang/vorgang/model/Policy", "apply", "(Z)Ljava/util/Optional;"⟩ : MethodName)) (z := (⟨"com/example/vorgang/vorgang/model/Policy", "apply", "(Z)Ljava/util/Optional;"⟩ : MethodName)) hown (mvT hZ (ow hw 48 rfl)) (mvT hZ (ow hw 49 rfl)) (notFace_of_selects (args := #[]) (mvT hZ (ow hw 51 rfl))) (mvT hZ (ow hw 51 rfl)) (mvT hZ (ow hw 50 rfl)) (by decide) (backOf (W := 0) (rm_apE l Z a0 hw [] wA wD wG wU wV wN wB wC wF wE wO k_1 k_2 pt ti (0 : Int32) xv h0 n0 O0 hS pT (Or.inl rfl) rX lX) hZ (ow hw 52 rfl) (ow hw 9 rfl) (by decide) (by decide)) q4a q4c (g := (mkF mG 43 #[oa a, oi (1 : Int32), oi (0 : Int32), oa wN, oi (0 : Int32)] [(.int (0 : Int32)), (.ref pt)])) rfl (by rw [hml]; rfl) (Steps.refl _) (argsL := [(.int (0 : Int32))]) (rest := []) (lenOf pd_11 rfl) rfl (by show 2 * 0 + _ ≤ _; exact Nat.le_of_eq rfl) (hb hby d14_43) (fun _ _ => ⟨rfl, e3, (by decide : 0 + 0 ≤ _), (by decide : 0 + 0 ≤ _)⟩)
  dsimp only [Pt.U, Pt.locs, Pt.cells, Pt.slots] at X4 l4 y4 z4 st4 hQ4
  subst l4 y4 z4
  obtain ⟨rfl, N4q, e4⟩ := hQ4
  have N4 := Fr.app N0 N4q
  obtain ⟨LL5, X4, N4⟩ : ∃ LL, Stand pG l eG _ _ mG _ belowG methG cG T4 LL 0 0 ∧ Fr n0 LL := ⟨_, X4, N4⟩
  refine ob T4 (mkF mG 46 #[oa a, oi (1 : Int32), oi (0 : Int32), oa wN, oi (0 : Int32)] [(.ref wO)]) (fun _ kk => st4.trans kk) ?_
  refine ob T4 (mkF mG 47 #[oa a, oi (1 : Int32), oi (0 : Int32), oa wN, oi (0 : Int32)] [(.ref wN), (.ref wO)]) (fun _ kk => XS.aloadN X4.here hx rfl (hb hby d14_46) rfl rfl kk) ?_
  have hnZ : Z.methodNamed? ox2 = some mG := (State.methodNamed?_setVm (s := Z) hZ0.alike ox2).symm.trans Bd.named
  obtain ⟨T6, h6, X6, e6, E6, A6, st6⟩ := own_mk X4 hx hZ L_2 hnZ (ow hw 81 rfl) e4 oz_t2 (vals := [(.ref wN)]) (rest := [(.ref wO)]) rfl own_nar2 own_fit2 (g := (mkF mG 47 #[oa a, oi (1 : Int32), oi (0 : Int32), oa wN, oi (0 : Int32)] [(.ref wN), (.ref wO)])) rfl (by rw [hml]; rfl) rfl (hb hby d14_47) rfl (by show 2 * 0 + 2 + 3072 ≤ _; decide) (by decide) (n := 1) rfl (by decide)
  obtain ⟨b6, g6⟩ : ∃ z, z = h0.size := ⟨_, rfl⟩
  rw [← g6] at A6 st6
  have n_b6 : n0 ≤ b6 := Nat.le_trans (on0 O0) (Nat.le_of_eq g6.symm)
  have sz_b6 : h0.size ≤ b6 := Nat.le_trans K0.1 (Nat.le_of_eq g6.symm)
  have ne_a_b6 : a ≠ b6 := Nat.ne_of_lt (Nat.lt_of_lt_of_le F_t.lt (Nat.le_of_eq g6.symm))
  have CS6 : CHr Z oEL sG.vm h0 sG.vm h6 := CHr.ext E6 CR0.1
  have CR6 := CR0.trans CS6
  have O6 := O0.ext E6
  have K6 := K0.ext E6
  obtain ⟨LL7, X6, N4⟩ : ∃ LL, Stand pG l eG _ _ mG _ belowG methG cG T6 LL 1 1 ∧ Fr n0 LL := ⟨_, X6, N4⟩
  refine ob T6 (mkF mG 52 #[oa a, oi (1 : Int32), oi (0 : Int32), oa wN, oi (0 : Int32)] [(.ref b6), (.ref wO)]) (fun _ kk => st6 _ kk) ?_
  obtain ⟨cq8, kq8, q8a, q8b, q8c⟩ := isOf hZ e6 (E_wO.ext O6.2)
  obtain ⟨_, _, ⟨T8, L8, k8, n8⟩, -, X8, ⟨Lc8, hQ8, l8, y8, z8⟩, st8⟩ := X6.virtualBack hx (y := (⟨"java/util/Optional", "map", "(Ljava/util/function/Function;)Ljava/util/Optional;"⟩ : MethodName)) (z := (⟨"java/util/Optional", "map", "(Ljava/util/function/Function;)Ljava/util/Optional;"⟩ : MethodName)) hown (mvT hZ (ow hw 108 rfl)) (mvT hZ (ow hw 109 rfl)) (notFace_of_selects (args := #[]) (mvT hZ (ow hw 111 rfl))) (mvT hZ (ow hw 111 rfl)) (mvT hZ (ow hw 110 rfl)) (by decide) (backOf (W := 0) (rm_mapE l Z a0 hw [] wA wD wG wU wV wN wB wC wF wE wO k_1 k_2 b6 h6 n0 O6 hS ) hZ (ow hw 112 rfl) (ow hw 67 rfl) (by decide) (by decide)) q8a q8c (g := (mkF mG 52 #[oa a, oi (1 : Int32), oi (0 : Int32), oa wN, oi (0 : Int32)] [(.ref b6), (.ref wO)])) rfl (by rw [hml]; rfl) (Steps.refl _) (argsL := [(.ref b6)]) (rest := []) (lenOf pd_12 rfl) rfl (by show 2 * 0 + _ ≤ _; exact Nat.le_of_eq rfl) (hb hby d14_52) (fun _ _ => ⟨rfl, e6, (by decide : 1 + 0 ≤ _), (by decide : 1 + 0 ≤ _)⟩)
  dsimp only [Pt.U, Pt.locs, Pt.cells, Pt.slots] at X8 l8 y8 z8 st8 hQ8
  subst l8 y8 z8
  obtain ⟨rfl, N8q, e8⟩ := hQ8
  have N8 := Fr.app N4 N8q
  obtain ⟨LL9, X8, N8⟩ : ∃ LL, Stand pG l eG _ _ mG _ belowG methG cG T8 LL 1 1 ∧ Fr n0 LL := ⟨_, X8, N8⟩
  refine ob T8 (mkF mG 55 #[oa a, oi (1 : Int32), oi (0 : Int32), oa wN, oi (0 : Int32)] [(.ref wO)]) (fun _ kk => st8.trans kk) ?_
  obtain ⟨fs, hr, hrun, hended, hW, hsame⟩ := X8.leave (v := some (.ref wO)) (fun h => by rw [Bd.returns] at h; cases h)
  obtain ⟨w1, w2, w3⟩ := State.Since.ended (U := T8.setFrames fs) hS0 hW (by show _ ≤ T8.heap.size; rw [e8]; exact (Nat.le_trans hk0 CS6.2.1)) hsame
  have CF := CR6.trans (CHv.at X8 hZ hEL CR6.1)
  refine oout (oretA X8 hx Bd.returns rfl rfl (hb hby d14_55) hr) hrun hended ⟨_, _, rfl, ?_, ?_, ⟨_, rfl⟩, w1, w2, w3.mono (by decide) (by decide)⟩
  · show Q_rm_ld1E_010 Z wA wD wG wU wV wN wB wC wF wE wO k_1 k_2 a pt ti xv h0 n0 _ T8.heap _
    rw [e8]
    exact ⟨rfl, N8, K6, O6⟩
  · show CHr Z oEL sG.vm sG.heap T8.vm T8.heap
    rw [hh, e8]
    exact CF

def Q_rm_ld1E_011 (Z : State) (wA wD wG wU wV wN wB wC wF wE wO : Addr) (k_1 k_2 : ClassId) (a pt : Addr) (ti xv : Int32) (h0 : Heap) (n0 : Nat) (v : Option Value) (h : Heap) (L : List Loc) : Prop := v = some (.ref wO) ∧ Fr n0 L ∧ Keep h0 h [] ∧ Old Z n0 h
set_option maxRecDepth 65536 in
set_option maxHeartbeats 40000000 in
theorem rm_ld1E_011 (l : Launch) (Z : State) (a0 : Array Value) (hw : ∀ d ∈ tables_1, d.before a0 Z = true) (ws : List Jvm.Cond) (wA wD wG wU wV wN wB wC wF wE wO : Addr) (k_1 k_2 : ClassId) (a pt : Addr) (ti xv : Int32) (h0 : Heap) (n0 : Nat) (O0 : Old Z n0 h0) (hS : St0 Z wA wD wG wU wV wN wB wC wF wE wO k_1 k_2 ) (F_t : Fld Z h0 a "com/example/vorgang/vorgang/model/CallPolicy" "transactionType" "Lcom/example/vorgang/vorgang/model/Policy;" (.ref pt)) (pT : oPol wA wB wC wD wE wF wG ti pt) (rX : oRu ti (0 : Int32) = xv) (lX : xv < (0 : Int32)) :
    MetFree l (⟨"com/example/vorgang/vorgang/model/CallPolicy", "lambda$dispatch$1", "(ZZLcom/example/vorgang/vorgang/model/ContextUse;)Ljava/util/Optional;"⟩ : MethodName) (head1 (Jvm.Cond.code (⟨"com/example/vorgang/vorgang/model/CallPolicy", "lambda$dispatch$1", "(ZZLcom/example/vorgang/vorgang/model/ContextUse;)Ljava/util/Optional;"⟩ : MethodName) prog_10_method_8_code 5 (some (.object "java/util/Optional")) :: ws) ({ frames := 6, cells := 8, slots := 90, locals := 3080 } : Room)) (fun aG UG => aG = #[(.ref a), (.int (1 : Int32)), (.int (1 : Int32)), (.ref wN)] ∧ Z.Warmed39 UG.vm ∧ UG.heap = h0 ∧ CHv Z oEL UG.vm h0) (fun _ _ _ _ _ => True) (fun _ UG oG UG' => ∃ vG LG, oG = .returned vG ∧ Q_rm_ld1E_011 Z wA wD wG wU wV wN wB wC wF wE wO k_1 k_2 a pt ti xv h0 n0 vG UG'.heap LG ∧ CHr Z oEL UG.vm UG.heap UG'.vm UG'.heap ∧ ReturnedEndW UG oG UG' LG ({ frames := 6, cells := 8, slots := 90, locals := 3080 } : Room).cells ({ frames := 6, cells := 8, slots := 90, locals := 3080 } : Room).slots) := by
  refine MetFree.of_bodySF (plainFor_of_name pn_6) hisR ?_
  intro pG eG sG mG argsG belowG methG cG s₁ Bd hml0 hP hK
  obtain ⟨rfl, hZ, hh, hC⟩ := hP
  have hx := Bd.exec
  have hby := Bd.bytes
  have hml : cG.maxLocals = 5 := hml0
  have hown : sG.vm.findClass "com/example/vorgang/vorgang/model/CallPolicy" = some mG.cls := findClass_of_methodNamed Bd.named
  have hnm := (name_of_methodNamed Bd.named Bd.method).1
  have X0 : Stand pG l eG ({ frames := 6, cells := 8, slots := 90, locals := 3080 } : Room) (sG.setVm sG.vm) mG #[(.ref a), (.int (1 : Int32)), (.int (1 : Int32)), (.ref wN)] belowG methG cG s₁ [] 0 0 := Stand.of_body Bd
  have e0 : s₁.heap = h0 := by rw [← hh, Bd.state]; rfl
  have N0 := Fr.nil n0
  have K0 := Keep.refl h0 []
  have hS0 : sG.Since sG.vm h0.size := (State.WarmedH.refl sG).since _
  have hk0 : h0.size ≤ h0.size := Nat.le_refl _
  have CR0 : CHr Z oEL sG.vm h0 sG.vm h0 := CHr.refl hC
  have hEL : EW Z a0 oEL := own_EW hw
  obtain ⟨S_wA, E_wA, S_wD, E_wD, S_wG, E_wG, S_wU, E_wU, S_wV, E_wV, S_wN, E_wN, S_wB, E_wB, S_wC, E_wC, S_wF, E_wF, S_wE, E_wE, S_wO, E_wO, F_wA_ordinal, F_wG_ordinal, F_wD_ordinal, F_wU_ordinal, F_wV_ordinal, F_wN_ordinal, F_wB_ordinal, F_wC_ordinal, F_wF_ordinal, F_wE_ordinal, F_wO_value, L_1, L_2, ne_wA_wG, ne_wA_wD, ne_wA_wB, ne_wA_wC, ne_wA_wF, ne_wA_wE, ne_wG_wD, ne_wG_wB, ne_wG_wC, ne_wG_wF, ne_wG_wE, ne_wD_wB, ne_wD_wC, ne_wD_wF, ne_wD_wE, ne_wU_wV, ne_wU_wN, ne_wV_wN, ne_wB_wC, ne_wB_wF, ne_wB_wE, ne_wC_wF, ne_wC_wE, ne_wF_wE⟩ := (id hS : St0 Z wA wD wG wU wV wN wB wC wF wE wO k_1 k_2 )
  have hZ0 := hZ
  have E_pt := own_pe hS pT
  refine ostart (g' := (mkF mG 0 #[oa a, oi (1 : Int32), oi (1 : Int32), oa wN, .unset] [])) (by first | (simp [entryFrame, mkF, argsToLocals, Value.category]; done) | rfl) ?_
  refine ob s₁ (mkF mG 1 #[oa a, oi (1 : Int32), oi (1 : Int32), oa wN, .unset] [(.ref wN)]) (fun _ kk => XS.aloadN X0.here hx rfl (hb hby d14_0) rfl rfl kk) ?_
  obtain ⟨T1, X1, e1, st1⟩ := getS2 X0 hx hZ hown (host := "") (Or.inl (ow hw 102 rfl)) Via.refl e0 (S_wV.ext O0.2) (g := (mkF mG 1 #[oa a, oi (1 : Int32), oi (1 : Int32), oa wN, .unset] [(.ref wN)])) rfl (hb hby d14_1)
  refine ob T1 (mkF mG 4 #[oa a, oi (1 : Int32), oi (1 : Int32), oa wN, .unset] [(.ref wV), (.ref wN)]) (fun _ kk => st1 _ kk) ?_
  refine ob T1 (mkF mG 7 #[oa a, oi (1 : Int32), oi (1 : Int32), oa wN, .unset] []) (fun _ kk => Jvm.RoadKit.acmp (g := (mkF mG 4 #[oa a, oi (1 : Int32), oi (1 : Int32), oa wN, .unset] [(.ref wV), (.ref wN)])) X1 hx rfl rfl rfl (pc0 := 4) (pc' := 7) (same := false) rfl (hb hby d14_4) rfl (decide_eq_false fun q => (Ne.symm ne_wV_wN) (Value.ref.inj q)) (by decide) (by decide) kk) ?_
  refine ob T1 (mkF mG 8 #[oa a, oi (1 : Int32), oi (1 : Int32), oa wN, .unset] [(.ref wN)]) (fun _ kk => XS.aloadN X1.here hx rfl (hb hby d14_7) rfl rfl kk) ?_
  obtain ⟨T2, X2, e2, st2⟩ := getS2 X1 hx hZ hown (host := "") (Or.inl (ow hw 104 rfl)) Via.refl e1 (S_wN.ext O0.2) (g := (mkF mG 8 #[oa a, oi (1 : Int32), oi (1 : Int32), oa wN, .unset] [(.ref wN)])) rfl (hb hby d14_8)
  refine ob T2 (mkF mG 11 #[oa a, oi (1 : Int32), oi (1 : Int32), oa wN, .unset] [(.ref wN), (.ref wN)]) (fun _ kk => st2 _ kk) ?_
  refine ob T2 (mkF mG 14 #[oa a, oi (1 : Int32), oi (1 : Int32), oa wN, .unset] []) (fun _ kk => Jvm.RoadKit.acmp (g := (mkF mG 11 #[oa a, oi (1 : Int32), oi (1 : Int32), oa wN, .unset] [(.ref wN), (.ref wN)])) X2 hx rfl rfl rfl (pc0 := 11) (pc' := 14) (same := true) rfl (hb hby d14_11) rfl (decide_eq_true rfl) (by decide) (by decide) kk) ?_
  refine ob T2 (mkF mG 15 #[oa a, oi (1 : Int32), oi (1 : Int32), oa wN, .unset] [(.int (1 : Int32))]) (fun _ kk => XS.iloadN X2.here hx rfl (hb hby d14_14) rfl kk) ?_
  refine ob T2 (mkF mG 22 #[oa a, oi (1 : Int32), oi (1 : Int32), oa wN, .unset] []) (fun _ kk => XS.ifYes X2.here hx rfl (pc0 := 15) (pc' := 22) rfl (hb hby d14_15) rfl ((if0 _ _).trans (feq (by decide : ¬ ((1 : Int32) = (0 : Int32)))).2) (by decide) (by decide) kk) ?_
  refine ob T2 (mkF mG 23 #[oa a, oi (1 : Int32), oi (1 : Int32), oa wN, .unset] [(.int (0 : Int32))]) (fun _ kk => XS.iconst X2.here hx rfl (hb hby d14_22) kk) ?_
  refine ob T2 (mkF mG 25 #[oa a, oi (1 : Int32), oi (1 : Int32), oa wN, oi (0 : Int32)] []) (fun _ kk => XS.istore X2.here hx rfl (hb hby d14_23) rfl (l' := #[oa a, oi (1 : Int32), oi (1 : Int32), oa wN, oi (0 : Int32)]) rfl kk) ?_
  refine ob T2 (mkF mG 26 #[oa a, oi (1 : Int32), oi (1 : Int32), oa wN, oi (0 : Int32)] [(.ref a)]) (fun _ kk => XS.aloadN X2.here hx rfl (hb hby d14_25) rfl rfl kk) ?_
  obtain ⟨T3, X3, e3, st3⟩ := getF X2 hx hZ hown (host := "") (Or.inl (ow hw 41 rfl)) Via.refl e2 F_t (g := (mkF mG 26 #[oa a, oi (1 : Int32), oi (1 : Int32), oa wN, oi (0 : Int32)] [(.ref a)])) rfl rfl (hb hby d14_26)
  refine ob T3 (mkF mG 29 #[oa a, oi (1 : Int32), oi (1 : Int32), oa wN, oi (0 : Int32)] [(.ref pt)]) (fun _ kk => st3 _ kk) ?_
  refine ob T3 (mkF mG 30 #[oa a, oi (1 : Int32), oi (1 : Int32), oa wN, oi (0 : Int32)] [(.int (1 : Int32)), (.ref pt)]) (fun _ kk => XS.iloadN X3.here hx rfl (hb hby d14_29) rfl kk) ?_
  refine ob T3 (mkF mG 33 #[oa a, oi (1 : Int32), oi (1 : Int32), oa wN, oi (0 : Int32)] [(.ref pt)]) (fun _ kk => XS.ifNo X3.here hx rfl (hb hby d14_30) rfl ((if0 _ _).trans (feq (by decide : ¬ ((1 : Int32) = (0 : Int32)))).1) kk) ?_
  refine ob T3 (mkF mG 35 #[oa a, oi (1 : Int32), oi (1 : Int32), oa wN, oi (0 : Int32)] [(.int (0 : Int32)), (.ref pt)]) (fun _ kk => XS.iload X3.here hx rfl (hb hby d14_33) rfl kk) ?_
  refine ob T3 (mkF mG 42 #[oa a, oi (1 : Int32), oi (1 : Int32), oa wN, oi (0 : Int32)] [(.ref pt)]) (fun _ kk => XS.ifYes X3.here hx rfl (pc0 := 35) (pc' := 42) rfl (hb hby d14_35) rfl ((if0 _ _).trans (teq (by decide : (0 : Int32) = (0 : Int32))).1) (by decide) (by decide) kk) ?_
  refine ob T3 (mkF mG 43 #[oa a, oi (1 : Int32), oi (1 : Int32), oa wN, oi (0 : Int32)] [(.int (0 : Int32)), (.ref pt)]) (fun _ kk => XS.iconst X3.here hx rfl (hb hby d14_42) kk) ?_
  obtain ⟨cq4, kq4, q4a, q4b, q4c⟩ := isOf hZ e3 (E_pt.ext O0.2)
  obtain ⟨_, _, ⟨T4, L4, k4, n4⟩, -, X4, ⟨Lc4, hQ4, l4, y4, z4⟩, st4⟩ := X3.virtualBack hx (y := (⟨"com/example/vorgang/vorgang/model/Policy", "apply", "(Z)Ljava/util/Optional;"⟩ : MethodName)) (z := (⟨"com/example/vorgang/vorgang/model/Policy", "apply", "(Z)Ljava/util/Optional;"⟩ : MethodName)) hown (mvT hZ (ow hw 48 rfl)) (mvT hZ (ow hw 49 rfl)) (notFace_of_selects (args := #[]) (mvT hZ (ow hw 51 rfl))) (mvT hZ (ow hw 51 rfl)) (mvT hZ (ow hw 50 rfl)) (by decide) (backOf (W := 0) (rm_apE l Z a0 hw [] wA wD wG wU wV wN wB wC wF wE wO k_1 k_2 pt ti (0 : Int32) xv h0 n0 O0 hS pT (Or.inl rfl) rX lX) hZ (ow hw 52 rfl) (ow hw 9 rfl) (by decide) (by decide)) q4a q4c (g := (mkF mG 43 #[oa a, oi (1 : Int32), oi (1 : Int32), oa wN, oi (0 : Int32)] [(.int (0 : Int32)), (.ref pt)])) rfl (by rw [hml]; rfl) (Steps.refl _) (argsL := [(.int (0 : Int32))]) (rest := []) (lenOf pd_11 rfl) rfl (by show 2 * 0 + _ ≤ _; exact Nat.le_of_eq rfl) (hb hby d14_43) (fun _ _ => ⟨rfl, e3, (by decide : 0 + 0 ≤ _), (by decide : 0 + 0 ≤ _)⟩)
  dsimp only [Pt.U, Pt.locs, Pt.cells, Pt.slots] at X4 l4 y4 z4 st4 hQ4
  subst l4 y4 z4
  obtain ⟨rfl, N4q, e4⟩ := hQ4
  have N4 := Fr.app N0 N4q
  obtain ⟨LL5, X4, N4⟩ : ∃ LL, Stand pG l eG _ _ mG _ belowG methG cG T4 LL 0 0 ∧ Fr n0 LL := ⟨_, X4, N4⟩
  refine ob T4 (mkF mG 46 #[oa a, oi (1 : Int32), oi (1 : Int32), oa wN, oi (0 : Int32)] [(.ref wO)]) (fun _ kk => st4.trans kk) ?_
  refine ob T4 (mkF mG 47 #[oa a, oi (1 : Int32), oi (1 : Int32), oa wN, oi (0 : Int32)] [(.ref wN), (.ref wO)]) (fun _ kk => XS.aloadN X4.here hx rfl (hb hby d14_46) rfl rfl kk) ?_
  have hnZ : Z.methodNamed? ox2 = some mG := (State.methodNamed?_setVm (s := Z) hZ0.alike ox2).symm.trans Bd.named
  obtain ⟨T6, h6, X6, e6, E6, A6, st6⟩ := own_mk X4 hx hZ L_2 hnZ (ow hw 81 rfl) e4 oz_t2 (vals := [(.ref wN)]) (rest := [(.ref wO)]) rfl own_nar2 own_fit2 (g := (mkF mG 47 #[oa a, oi (1 : Int32), oi (1 : Int32), oa wN, oi (0 : Int32)] [(.ref wN), (.ref wO)])) rfl (by rw [hml]; rfl) rfl (hb hby d14_47) rfl (by show 2 * 0 + 2 + 3072 ≤ _; decide) (by decide) (n := 1) rfl (by decide)
  obtain ⟨b6, g6⟩ : ∃ z, z = h0.size := ⟨_, rfl⟩
  rw [← g6] at A6 st6
  have n_b6 : n0 ≤ b6 := Nat.le_trans (on0 O0) (Nat.le_of_eq g6.symm)
  have sz_b6 : h0.size ≤ b6 := Nat.le_trans K0.1 (Nat.le_of_eq g6.symm)
  have ne_a_b6 : a ≠ b6 := Nat.ne_of_lt (Nat.lt_of_lt_of_le F_t.lt (Nat.le_of_eq g6.symm))
  have CS6 : CHr Z oEL sG.vm h0 sG.vm h6 := CHr.ext E6 CR0.1
  have CR6 := CR0.trans CS6
  have O6 := O0.ext E6
  have K6 := K0.ext E6
  obtain ⟨LL7, X6, N4⟩ : ∃ LL, Stand pG l eG _ _ mG _ belowG methG cG T6 LL 1 1 ∧ Fr n0 LL := ⟨_, X6, N4⟩
  refine ob T6 (mkF mG 52 #[oa a, oi (1 : Int32), oi (1 : Int32), oa wN, oi (0 : Int32)] [(.ref b6), (.ref wO)]) (fun _ kk => st6 _ kk) ?_
  obtain ⟨cq8, kq8, q8a, q8b, q8c⟩ := isOf hZ e6 (E_wO.ext O6.2)
  obtain ⟨_, _, ⟨T8, L8, k8, n8⟩, -, X8, ⟨Lc8, hQ8, l8, y8, z8⟩, st8⟩ := X6.virtualBack hx (y := (⟨"java/util/Optional", "map", "(Ljava/util/function/Function;)Ljava/util/Optional;"⟩ : MethodName)) (z := (⟨"java/util/Optional", "map", "(Ljava/util/function/Function;)Ljava/util/Optional;"⟩ : MethodName)) hown (mvT hZ (ow hw 108 rfl)) (mvT hZ (ow hw 109 rfl)) (notFace_of_selects (args := #[]) (mvT hZ (ow hw 111 rfl))) (mvT hZ (ow hw 111 rfl)) (mvT hZ (ow hw 110 rfl)) (by decide) (backOf (W := 0) (rm_mapE l Z a0 hw [] wA wD wG wU wV wN wB wC wF wE wO k_1 k_2 b6 h6 n0 O6 hS ) hZ (ow hw 112 rfl) (ow hw 67 rfl) (by decide) (by decide)) q8a q8c (g := (mkF mG 52 #[oa a, oi (1 : Int32), oi (1 : Int32), oa wN, oi (0 : Int32)] [(.ref b6), (.ref wO)])) rfl (by rw [hml]; rfl) (Steps.refl _) (argsL := [(.ref b6)]) (rest := []) (lenOf pd_12 rfl) rfl (by show 2 * 0 + _ ≤ _; exact Nat.le_of_eq rfl) (hb hby d14_52) (fun _ _ => ⟨rfl, e6, (by decide : 1 + 0 ≤ _), (by decide : 1 + 0 ≤ _)⟩)
  dsimp only [Pt.U, Pt.locs, Pt.cells, Pt.slots] at X8 l8 y8 z8 st8 hQ8
  subst l8 y8 z8
  obtain ⟨rfl, N8q, e8⟩ := hQ8
  have N8 := Fr.app N4 N8q
  obtain ⟨LL9, X8, N8⟩ : ∃ LL, Stand pG l eG _ _ mG _ belowG methG cG T8 LL 1 1 ∧ Fr n0 LL := ⟨_, X8, N8⟩
  refine ob T8 (mkF mG 55 #[oa a, oi (1 : Int32), oi (1 : Int32), oa wN, oi (0 : Int32)] [(.ref wO)]) (fun _ kk => st8.trans kk) ?_
  obtain ⟨fs, hr, hrun, hended, hW, hsame⟩ := X8.leave (v := some (.ref wO)) (fun h => by rw [Bd.returns] at h; cases h)
  obtain ⟨w1, w2, w3⟩ := State.Since.ended (U := T8.setFrames fs) hS0 hW (by show _ ≤ T8.heap.size; rw [e8]; exact (Nat.le_trans hk0 CS6.2.1)) hsame
  have CF := CR6.trans (CHv.at X8 hZ hEL CR6.1)
  refine oout (oretA X8 hx Bd.returns rfl rfl (hb hby d14_55) hr) hrun hended ⟨_, _, rfl, ?_, ?_, ⟨_, rfl⟩, w1, w2, w3.mono (by decide) (by decide)⟩
  · show Q_rm_ld1E_011 Z wA wD wG wU wV wN wB wC wF wE wO k_1 k_2 a pt ti xv h0 n0 _ T8.heap _
    rw [e8]
    exact ⟨rfl, N8, K6, O6⟩
  · show CHr Z oEL sG.vm sG.heap T8.vm T8.heap
    rw [hh, e8]
    exact CF

def Q_rm_ld1E_1x0 (Z : State) (wA wD wG wU wV wN wB wC wF wE wO : Addr) (k_1 k_2 : ClassId) (a : Addr) (sr : Int32) (pt : Addr) (ti xv : Int32) (h0 : Heap) (n0 : Nat) (v : Option Value) (h : Heap) (L : List Loc) : Prop := v = some (.ref wO) ∧ Fr n0 L ∧ Keep h0 h [] ∧ Old Z n0 h
set_option maxRecDepth 65536 in
set_option maxHeartbeats 40000000 in
theorem rm_ld1E_1x0 (l : Launch) (Z : State) (a0 : Array Value) (hw : ∀ d ∈ tables_1, d.before a0 Z = true) (ws : List Jvm.Cond) (wA wD wG wU wV wN wB wC wF wE wO : Addr) (k_1 k_2 : ClassId) (a : Addr) (sr : Int32) (pt : Addr) (ti xv : Int32) (h0 : Heap) (n0 : Nat) (O0 : Old Z n0 h0) (hS : St0 Z wA wD wG wU wV wN wB wC wF wE wO k_1 k_2 ) (F_t : Fld Z h0 a "com/example/vorgang/vorgang/model/CallPolicy" "transactionType" "Lcom/example/vorgang/vorgang/model/Policy;" (.ref pt)) (pT : oPol wA wB wC wD wE wF wG ti pt) (rX : oRu ti (0 : Int32) = xv) (lX : xv < (0 : Int32)) :
    MetFree l (⟨"com/example/vorgang/vorgang/model/CallPolicy", "lambda$dispatch$1", "(ZZLcom/example/vorgang/vorgang/model/ContextUse;)Ljava/util/Optional;"⟩ : MethodName) (head1 (Jvm.Cond.code (⟨"com/example/vorgang/vorgang/model/CallPolicy", "lambda$dispatch$1", "(ZZLcom/example/vorgang/vorgang/model/ContextUse;)Ljava/util/Optional;"⟩ : MethodName) prog_10_method_8_code 5 (some (.object "java/util/Optional")) :: ws) ({ frames := 6, cells := 8, slots := 90, locals := 3080 } : Room)) (fun aG UG => aG = #[(.ref a), (.int sr), (.int (0 : Int32)), (.ref wV)] ∧ Z.Warmed39 UG.vm ∧ UG.heap = h0 ∧ CHv Z oEL UG.vm h0) (fun _ _ _ _ _ => True) (fun _ UG oG UG' => ∃ vG LG, oG = .returned vG ∧ Q_rm_ld1E_1x0 Z wA wD wG wU wV wN wB wC wF wE wO k_1 k_2 a sr pt ti xv h0 n0 vG UG'.heap LG ∧ CHr Z oEL UG.vm UG.heap UG'.vm UG'.heap ∧ ReturnedEndW UG oG UG' LG ({ frames := 6, cells := 8, slots := 90, locals := 3080 } : Room).cells ({ frames := 6, cells := 8, slots := 90, locals := 3080 } : Room).slots) := by
  refine MetFree.of_bodySF (plainFor_of_name pn_6) hisR ?_
  intro pG eG sG mG argsG belowG methG cG s₁ Bd hml0 hP hK
  obtain ⟨rfl, hZ, hh, hC⟩ := hP
  have hx := Bd.exec
  have hby := Bd.bytes
  have hml : cG.maxLocals = 5 := hml0
  have hown : sG.vm.findClass "com/example/vorgang/vorgang/model/CallPolicy" = some mG.cls := findClass_of_methodNamed Bd.named
  have hnm := (name_of_methodNamed Bd.named Bd.method).1
  have X0 : Stand pG l eG ({ frames := 6, cells := 8, slots := 90, locals := 3080 } : Room) (sG.setVm sG.vm) mG #[(.ref a), (.int sr), (.int (0 : Int32)), (.ref wV)] belowG methG cG s₁ [] 0 0 := Stand.of_body Bd
  have e0 : s₁.heap = h0 := by rw [← hh, Bd.state]; rfl
  have N0 := Fr.nil n0
  have K0 := Keep.refl h0 []
  have hS0 : sG.Since sG.vm h0.size := (State.WarmedH.refl sG).since _
  have hk0 : h0.size ≤ h0.size := Nat.le_refl _
  have CR0 : CHr Z oEL sG.vm h0 sG.vm h0 := CHr.refl hC
  have hEL : EW Z a0 oEL := own_EW hw
  obtain ⟨S_wA, E_wA, S_wD, E_wD, S_wG, E_wG, S_wU, E_wU, S_wV, E_wV, S_wN, E_wN, S_wB, E_wB, S_wC, E_wC, S_wF, E_wF, S_wE, E_wE, S_wO, E_wO, F_wA_ordinal, F_wG_ordinal, F_wD_ordinal, F_wU_ordinal, F_wV_ordinal, F_wN_ordinal, F_wB_ordinal, F_wC_ordinal, F_wF_ordinal, F_wE_ordinal, F_wO_value, L_1, L_2, ne_wA_wG, ne_wA_wD, ne_wA_wB, ne_wA_wC, ne_wA_wF, ne_wA_wE, ne_wG_wD, ne_wG_wB, ne_wG_wC, ne_wG_wF, ne_wG_wE, ne_wD_wB, ne_wD_wC, ne_wD_wF, ne_wD_wE, ne_wU_wV, ne_wU_wN, ne_wV_wN, ne_wB_wC, ne_wB_wF, ne_wB_wE, ne_wC_wF, ne_wC_wE, ne_wF_wE⟩ := (id hS : St0 Z wA wD wG wU wV wN wB wC wF wE wO k_1 k_2 )
  have hZ0 := hZ
  have E_pt := own_pe hS pT
  refine ostart (g' := (mkF mG 0 #[oa a, oi sr, oi (0 : Int32), oa wV, .unset] [])) (by first | (simp [entryFrame, mkF, argsToLocals, Value.category]; done) | rfl) ?_
  refine ob s₁ (mkF mG 1 #[oa a, oi sr, oi (0 : Int32), oa wV, .unset] [(.ref wV)]) (fun _ kk => XS.aloadN X0.here hx rfl (hb hby d14_0) rfl rfl kk) ?_
  obtain ⟨T1, X1, e1, st1⟩ := getS2 X0 hx hZ hown (host := "") (Or.inl (ow hw 102 rfl)) Via.refl e0 (S_wV.ext O0.2) (g := (mkF mG 1 #[oa a, oi sr, oi (0 : Int32), oa wV, .unset] [(.ref wV)])) rfl (hb hby d14_1)
  refine ob T1 (mkF mG 4 #[oa a, oi sr, oi (0 : Int32), oa wV, .unset] [(.ref wV), (.ref wV)]) (fun _ kk => st1 _ kk) ?_
  refine ob T1 (mkF mG 18 #[oa a, oi sr, oi (0 : Int32), oa wV, .unset] []) (fun _ kk => Jvm.RoadKit.acmp (g := (mkF mG 4 #[oa a, oi sr, oi (0 : Int32), oa wV, .unset] [(.ref wV), (.ref wV)])) X1 hx rfl rfl rfl (pc0 := 4) (pc' := 18) (same := true) rfl (hb hby d14_4) rfl (decide_eq_true rfl) (by decide) (by decide) kk) ?_
  refine ob T1 (mkF mG 19 #[oa a, oi sr, oi (0 : Int32), oa wV, .unset] [(.int (1 : Int32))]) (fun _ kk => XS.iconst X1.here hx rfl (hb hby d14_18) kk) ?_
  refine ob T1 (mkF mG 23 #[oa a, oi sr, oi (0 : Int32), oa wV, .unset] [(.int (1 : Int32))]) (fun _ kk => XS.goto X1.here hx rfl (pc0 := 19) (pc' := 23) rfl (hb hby d14_19) (by decide) (by decide) kk) ?_
  refine ob T1 (mkF mG 25 #[oa a, oi sr, oi (0 : Int32), oa wV, oi (1 : Int32)] []) (fun _ kk => XS.istore X1.here hx rfl (hb hby d14_23) rfl (l' := #[oa a, oi sr, oi (0 : Int32), oa wV, oi (1 : Int32)]) rfl kk) ?_
  refine ob T1 (mkF mG 26 #[oa a, oi sr, oi (0 : Int32), oa wV, oi (1 : Int32)] [(.ref a)]) (fun _ kk => XS.aloadN X1.here hx rfl (hb hby d14_25) rfl rfl kk) ?_
  obtain ⟨T2, X2, e2, st2⟩ := getF X1 hx hZ hown (host := "") (Or.inl (ow hw 41 rfl)) Via.refl e1 F_t (g := (mkF mG 26 #[oa a, oi sr, oi (0 : Int32), oa wV, oi (1 : Int32)] [(.ref a)])) rfl rfl (hb hby d14_26)
  refine ob T2 (mkF mG 29 #[oa a, oi sr, oi (0 : Int32), oa wV, oi (1 : Int32)] [(.ref pt)]) (fun _ kk => st2 _ kk) ?_
  refine ob T2 (mkF mG 30 #[oa a, oi sr, oi (0 : Int32), oa wV, oi (1 : Int32)] [(.int (0 : Int32)), (.ref pt)]) (fun _ kk => XS.iloadN X2.here hx rfl (hb hby d14_29) rfl kk) ?_
  refine ob T2 (mkF mG 42 #[oa a, oi sr, oi (0 : Int32), oa wV, oi (1 : Int32)] [(.ref pt)]) (fun _ kk => XS.ifYes X2.here hx rfl (pc0 := 30) (pc' := 42) rfl (hb hby d14_30) rfl ((if0 _ _).trans (teq (by decide : (0 : Int32) = (0 : Int32))).1) (by decide) (by decide) kk) ?_
  refine ob T2 (mkF mG 43 #[oa a, oi sr, oi (0 : Int32), oa wV, oi (1 : Int32)] [(.int (0 : Int32)), (.ref pt)]) (fun _ kk => XS.iconst X2.here hx rfl (hb hby d14_42) kk) ?_
  obtain ⟨cq3, kq3, q3a, q3b, q3c⟩ := isOf hZ e2 (E_pt.ext O0.2)
  obtain ⟨_, _, ⟨T3, L3, k3, n3⟩, -, X3, ⟨Lc3, hQ3, l3, y3, z3⟩, st3⟩ := X2.virtualBack hx (y := (⟨"com/example/vorgang/vorgang/model/Policy", "apply", "(Z)Ljava/util/Optional;"⟩ : MethodName)) (z := (⟨"com/example/vorgang/vorgang/model/Policy", "apply", "(Z)Ljava/util/Optional;"⟩ : MethodName)) hown (mvT hZ (ow hw 48 rfl)) (mvT hZ (ow hw 49 rfl)) (notFace_of_selects (args := #[]) (mvT hZ (ow hw 51 rfl))) (mvT hZ (ow hw 51 rfl)) (mvT hZ (ow hw 50 rfl)) (by decide) (backOf (W := 0) (rm_apE l Z a0 hw [] wA wD wG wU wV wN wB wC wF wE wO k_1 k_2 pt ti (0 : Int32) xv h0 n0 O0 hS pT (Or.inl rfl) rX lX) hZ (ow hw 52 rfl) (ow hw 9 rfl) (by decide) (by decide)) q3a q3c (g := (mkF mG 43 #[oa a, oi sr, oi (0 : Int32), oa wV, oi (1 : Int32)] [(.int (0 : Int32)), (.ref pt)])) rfl (by rw [hml]; rfl) (Steps.refl _) (argsL := [(.int (0 : Int32))]) (rest := []) (lenOf pd_11 rfl) rfl (by show 2 * 0 + _ ≤ _; exact Nat.le_of_eq rfl) (hb hby d14_43) (fun _ _ => ⟨rfl, e2, (by decide : 0 + 0 ≤ _), (by decide : 0 + 0 ≤ _)⟩)
  dsimp only [Pt.U, Pt.locs, Pt.cells, Pt.slots] at X3 l3 y3 z3 st3 hQ3
  subst l3 y3 z3
  obtain ⟨rfl, N3q, e3⟩ := hQ3
  have N3 := Fr.app N0 N3q
  obtain ⟨LL4, X3, N3⟩ : ∃ LL, Stand pG l eG _ _ mG _ belowG methG cG T3 LL 0 0 ∧ Fr n0 LL := ⟨_, X3, N3⟩
  refine ob T3 (mkF mG 46 #[oa a, oi sr, oi (0 : Int32), oa wV, oi (1 : Int32)] [(.ref wO)]) (fun _ kk => st3.trans kk) ?_
  refine ob T3 (mkF mG 47 #[oa a, oi sr, oi (0 : Int32), oa wV, oi (1 : Int32)] [(.ref wV), (.ref wO)]) (fun _ kk => XS.aloadN X3.here hx rfl (hb hby d14_46) rfl rfl kk) ?_
  have hnZ : Z.methodNamed? ox2 = some mG := (State.methodNamed?_setVm (s := Z) hZ0.alike ox2).symm.trans Bd.named
  obtain ⟨T5, h5, X5, e5, E5, A5, st5⟩ := own_mk X3 hx hZ L_2 hnZ (ow hw 81 rfl) e3 oz_t2 (vals := [(.ref wV)]) (rest := [(.ref wO)]) rfl own_nar2 own_fit2 (g := (mkF mG 47 #[oa a, oi sr, oi (0 : Int32), oa wV, oi (1 : Int32)] [(.ref wV), (.ref wO)])) rfl (by rw [hml]; rfl) rfl (hb hby d14_47) rfl (by show 2 * 0 + 2 + 3072 ≤ _; decide) (by decide) (n := 1) rfl (by decide)
  obtain ⟨b5, g5⟩ : ∃ z, z = h0.size := ⟨_, rfl⟩
  rw [← g5] at A5 st5
  have n_b5 : n0 ≤ b5 := Nat.le_trans (on0 O0) (Nat.le_of_eq g5.symm)
  have sz_b5 : h0.size ≤ b5 := Nat.le_trans K0.1 (Nat.le_of_eq g5.symm)
  have ne_a_b5 : a ≠ b5 := Nat.ne_of_lt (Nat.lt_of_lt_of_le F_t.lt (Nat.le_of_eq g5.symm))
  have CS5 : CHr Z oEL sG.vm h0 sG.vm h5 := CHr.ext E5 CR0.1
  have CR5 := CR0.trans CS5
  have O5 := O0.ext E5
  have K5 := K0.ext E5
  obtain ⟨LL6, X5, N3⟩ : ∃ LL, Stand pG l eG _ _ mG _ belowG methG cG T5 LL 1 1 ∧ Fr n0 LL := ⟨_, X5, N3⟩
  refine ob T5 (mkF mG 52 #[oa a, oi sr, oi (0 : Int32), oa wV, oi (1 : Int32)] [(.ref b5), (.ref wO)]) (fun _ kk => st5 _ kk) ?_
  obtain ⟨cq7, kq7, q7a, q7b, q7c⟩ := isOf hZ e5 (E_wO.ext O5.2)
  obtain ⟨_, _, ⟨T7, L7, k7, n7⟩, -, X7, ⟨Lc7, hQ7, l7, y7, z7⟩, st7⟩ := X5.virtualBack hx (y := (⟨"java/util/Optional", "map", "(Ljava/util/function/Function;)Ljava/util/Optional;"⟩ : MethodName)) (z := (⟨"java/util/Optional", "map", "(Ljava/util/function/Function;)Ljava/util/Optional;"⟩ : MethodName)) hown (mvT hZ (ow hw 108 rfl)) (mvT hZ (ow hw 109 rfl)) (notFace_of_selects (args := #[]) (mvT hZ (ow hw 111 rfl))) (mvT hZ (ow hw 111 rfl)) (mvT hZ (ow hw 110 rfl)) (by decide) (backOf (W := 0) (rm_mapE l Z a0 hw [] wA wD wG wU wV wN wB wC wF wE wO k_1 k_2 b5 h5 n0 O5 hS ) hZ (ow hw 112 rfl) (ow hw 67 rfl) (by decide) (by decide)) q7a q7c (g := (mkF mG 52 #[oa a, oi sr, oi (0 : Int32), oa wV, oi (1 : Int32)] [(.ref b5), (.ref wO)])) rfl (by rw [hml]; rfl) (Steps.refl _) (argsL := [(.ref b5)]) (rest := []) (lenOf pd_12 rfl) rfl (by show 2 * 0 + _ ≤ _; exact Nat.le_of_eq rfl) (hb hby d14_52) (fun _ _ => ⟨rfl, e5, (by decide : 1 + 0 ≤ _), (by decide : 1 + 0 ≤ _)⟩)
  dsimp only [Pt.U, Pt.locs, Pt.cells, Pt.slots] at X7 l7 y7 z7 st7 hQ7
  subst l7 y7 z7
  obtain ⟨rfl, N7q, e7⟩ := hQ7
  have N7 := Fr.app N3 N7q
  obtain ⟨LL8, X7, N7⟩ : ∃ LL, Stand pG l eG _ _ mG _ belowG methG cG T7 LL 1 1 ∧ Fr n0 LL := ⟨_, X7, N7⟩
  refine ob T7 (mkF mG 55 #[oa a, oi sr, oi (0 : Int32), oa wV, oi (1 : Int32)] [(.ref wO)]) (fun _ kk => st7.trans kk) ?_
  obtain ⟨fs, hr, hrun, hended, hW, hsame⟩ := X7.leave (v := some (.ref wO)) (fun h => by rw [Bd.returns] at h; cases h)
  obtain ⟨w1, w2, w3⟩ := State.Since.ended (U := T7.setFrames fs) hS0 hW (by show _ ≤ T7.heap.size; rw [e7]; exact (Nat.le_trans hk0 CS5.2.1)) hsame
  have CF := CR5.trans (CHv.at X7 hZ hEL CR5.1)
  refine oout (oretA X7 hx Bd.returns rfl rfl (hb hby d14_55) hr) hrun hended ⟨_, _, rfl, ?_, ?_, ⟨_, rfl⟩, w1, w2, w3.mono (by decide) (by decide)⟩
  · show Q_rm_ld1E_1x0 Z wA wD wG wU wV wN wB wC wF wE wO k_1 k_2 a sr pt ti xv h0 n0 _ T7.heap _
    rw [e7]
    exact ⟨rfl, N7, K5, O5⟩
  · show CHr Z oEL sG.vm sG.heap T7.vm T7.heap
    rw [hh, e7]
    exact CF

def Q_rm_ld1E_1x1 (Z : State) (wA wD wG wU wV wN wB wC wF wE wO : Addr) (k_1 k_2 : ClassId) (a : Addr) (sr : Int32) (pt : Addr) (ti xv : Int32) (h0 : Heap) (n0 : Nat) (v : Option Value) (h : Heap) (L : List Loc) : Prop := v = some (.ref wO) ∧ Fr n0 L ∧ Keep h0 h [] ∧ Old Z n0 h
set_option maxRecDepth 65536 in
set_option maxHeartbeats 40000000 in
theorem rm_ld1E_1x1 (l : Launch) (Z : State) (a0 : Array Value) (hw : ∀ d ∈ tables_1, d.before a0 Z = true) (ws : List Jvm.Cond) (wA wD wG wU wV wN wB wC wF wE wO : Addr) (k_1 k_2 : ClassId) (a : Addr) (sr : Int32) (pt : Addr) (ti xv : Int32) (h0 : Heap) (n0 : Nat) (O0 : Old Z n0 h0) (hS : St0 Z wA wD wG wU wV wN wB wC wF wE wO k_1 k_2 ) (F_t : Fld Z h0 a "com/example/vorgang/vorgang/model/CallPolicy" "transactionType" "Lcom/example/vorgang/vorgang/model/Policy;" (.ref pt)) (pT : oPol wA wB wC wD wE wF wG ti pt) (rX : oRu ti (1 : Int32) = xv) (lX : xv < (0 : Int32)) :
    MetFree l (⟨"com/example/vorgang/vorgang/model/CallPolicy", "lambda$dispatch$1", "(ZZLcom/example/vorgang/vorgang/model/ContextUse;)Ljava/util/Optional;"⟩ : MethodName) (head1 (Jvm.Cond.code (⟨"com/example/vorgang/vorgang/model/CallPolicy", "lambda$dispatch$1", "(ZZLcom/example/vorgang/vorgang/model/ContextUse;)Ljava/util/Optional;"⟩ : MethodName) prog_10_method_8_code 5 (some (.object "java/util/Optional")) :: ws) ({ frames := 6, cells := 8, slots := 90, locals := 3080 } : Room)) (fun aG UG => aG = #[(.ref a), (.int sr), (.int (1 : Int32)), (.ref wV)] ∧ Z.Warmed39 UG.vm ∧ UG.heap = h0 ∧ CHv Z oEL UG.vm h0) (fun _ _ _ _ _ => True) (fun _ UG oG UG' => ∃ vG LG, oG = .returned vG ∧ Q_rm_ld1E_1x1 Z wA wD wG wU wV wN wB wC wF wE wO k_1 k_2 a sr pt ti xv h0 n0 vG UG'.heap LG ∧ CHr Z oEL UG.vm UG.heap UG'.vm UG'.heap ∧ ReturnedEndW UG oG UG' LG ({ frames := 6, cells := 8, slots := 90, locals := 3080 } : Room).cells ({ frames := 6, cells := 8, slots := 90, locals := 3080 } : Room).slots) := by
  refine MetFree.of_bodySF (plainFor_of_name pn_6) hisR ?_
  intro pG eG sG mG argsG belowG methG cG s₁ Bd hml0 hP hK
  obtain ⟨rfl, hZ, hh, hC⟩ := hP
  have hx := Bd.exec
  have hby := Bd.bytes
  have hml : cG.maxLocals = 5 := hml0
  have hown : sG.vm.findClass "com/example/vorgang/vorgang/model/CallPolicy" = some mG.cls := findClass_of_methodNamed Bd.named
  have hnm := (name_of_methodNamed Bd.named Bd.method).1
  have X0 : Stand pG l eG ({ frames := 6, cells := 8, slots := 90, locals := 3080 } : Room) (sG.setVm sG.vm) mG #[(.ref a), (.int sr), (.int (1 : Int32)), (.ref wV)] belowG methG cG s₁ [] 0 0 := Stand.of_body Bd
  have e0 : s₁.heap = h0 := by rw [← hh, Bd.state]; rfl
  have N0 := Fr.nil n0
  have K0 := Keep.refl h0 []
  have hS0 : sG.Since sG.vm h0.size := (State.WarmedH.refl sG).since _
  have hk0 : h0.size ≤ h0.size := Nat.le_refl _
  have CR0 : CHr Z oEL sG.vm h0 sG.vm h0 := CHr.refl hC
  have hEL : EW Z a0 oEL := own_EW hw
  obtain ⟨S_wA, E_wA, S_wD, E_wD, S_wG, E_wG, S_wU, E_wU, S_wV, E_wV, S_wN, E_wN, S_wB, E_wB, S_wC, E_wC, S_wF, E_wF, S_wE, E_wE, S_wO, E_wO, F_wA_ordinal, F_wG_ordinal, F_wD_ordinal, F_wU_ordinal, F_wV_ordinal, F_wN_ordinal, F_wB_ordinal, F_wC_ordinal, F_wF_ordinal, F_wE_ordinal, F_wO_value, L_1, L_2, ne_wA_wG, ne_wA_wD, ne_wA_wB, ne_wA_wC, ne_wA_wF, ne_wA_wE, ne_wG_wD, ne_wG_wB, ne_wG_wC, ne_wG_wF, ne_wG_wE, ne_wD_wB, ne_wD_wC, ne_wD_wF, ne_wD_wE, ne_wU_wV, ne_wU_wN, ne_wV_wN, ne_wB_wC, ne_wB_wF, ne_wB_wE, ne_wC_wF, ne_wC_wE, ne_wF_wE⟩ := (id hS : St0 Z wA wD wG wU wV wN wB wC wF wE wO k_1 k_2 )
  have hZ0 := hZ
  have E_pt := own_pe hS pT
  refine ostart (g' := (mkF mG 0 #[oa a, oi sr, oi (1 : Int32), oa wV, .unset] [])) (by first | (simp [entryFrame, mkF, argsToLocals, Value.category]; done) | rfl) ?_
  refine ob s₁ (mkF mG 1 #[oa a, oi sr, oi (1 : Int32), oa wV, .unset] [(.ref wV)]) (fun _ kk => XS.aloadN X0.here hx rfl (hb hby d14_0) rfl rfl kk) ?_
  obtain ⟨T1, X1, e1, st1⟩ := getS2 X0 hx hZ hown (host := "") (Or.inl (ow hw 102 rfl)) Via.refl e0 (S_wV.ext O0.2) (g := (mkF mG 1 #[oa a, oi sr, oi (1 : Int32), oa wV, .unset] [(.ref wV)])) rfl (hb hby d14_1)
  refine ob T1 (mkF mG 4 #[oa a, oi sr, oi (1 : Int32), oa wV, .unset] [(.ref wV), (.ref wV)]) (fun _ kk => st1 _ kk) ?_
  refine ob T1 (mkF mG 18 #[oa a, oi sr, oi (1 : Int32), oa wV, .unset] []) (fun _ kk => Jvm.RoadKit.acmp (g := (mkF mG 4 #[oa a, oi sr, oi (1 : Int32), oa wV, .unset] [(.ref wV), (.ref wV)])) X1 hx rfl rfl rfl (pc0 := 4) (pc' := 18) (same := true) rfl (hb hby d14_4) rfl (decide_eq_true rfl) (by decide) (by decide) kk) ?_
  refine ob T1 (mkF mG 19 #[oa a, oi sr, oi (1 : Int32), oa wV, .unset] [(.int (1 : Int32))]) (fun _ kk => XS.iconst X1.here hx rfl (hb hby d14_18) kk) ?_
  refine ob T1 (mkF mG 23 #[oa a, oi sr, oi (1 : Int32), oa wV, .unset] [(.int (1 : Int32))]) (fun _ kk => XS.goto X1.here hx rfl (pc0 := 19) (pc' := 23) rfl (hb hby d14_19) (by decide) (by decide) kk) ?_
  refine ob T1 (mkF mG 25 #[oa a, oi sr, oi (1 : Int32), oa wV, oi (1 : Int32)] []) (fun _ kk => XS.istore X1.here hx rfl (hb hby d14_23) rfl (l' := #[oa a, oi sr, oi (1 : Int32), oa wV, oi (1 : Int32)]) rfl kk) ?_
  refine ob T1 (mkF mG 26 #[oa a, oi sr, oi (1 : Int32), oa wV, oi (1 : Int32)] [(.ref a)]) (fun _ kk => XS.aloadN X1.here hx rfl (hb hby d14_25) rfl rfl kk) ?_
  obtain ⟨T2, X2, e2, st2⟩ := getF X1 hx hZ hown (host := "") (Or.inl (ow hw 41 rfl)) Via.refl e1 F_t (g := (mkF mG 26 #[oa a, oi sr, oi (1 : Int32), oa wV, oi (1 : Int32)] [(.ref a)])) rfl rfl (hb hby d14_26)
  refine ob T2 (mkF mG 29 #[oa a, oi sr, oi (1 : Int32), oa wV, oi (1 : Int32)] [(.ref pt)]) (fun _ kk => st2 _ kk) ?_
  refine ob T2 (mkF mG 30 #[oa a, oi sr, oi (1 : Int32), oa wV, oi (1 : Int32)] [(.int (1 : Int32)), (.ref pt)]) (fun _ kk => XS.iloadN X2.here hx rfl (hb hby d14_29) rfl kk) ?_
  refine ob T2 (mkF mG 33 #[oa a, oi sr, oi (1 : Int32), oa wV, oi (1 : Int32)] [(.ref pt)]) (fun _ kk => XS.ifNo X2.here hx rfl (hb hby d14_30) rfl ((if0 _ _).trans (feq (by decide : ¬ ((1 : Int32) = (0 : Int32)))).1) kk) ?_
  refine ob T2 (mkF mG 35 #[oa a, oi sr, oi (1 : Int32), oa wV, oi (1 : Int32)] [(.int (1 : Int32)), (.ref pt)]) (fun _ kk => XS.iload X2.here hx rfl (hb hby d14_33) rfl kk) ?_
  refine ob T2 (mkF mG 38 #[oa a, oi sr, oi (1 : Int32), oa wV, oi (1 : Int32)] [(.ref pt)]) (fun _ kk => XS.ifNo X2.here hx rfl (hb hby d14_35) rfl ((if0 _ _).trans (feq (by decide : ¬ ((1 : Int32) = (0 : Int32)))).1) kk) ?_
  refine ob T2 (mkF mG 39 #[oa a, oi sr, oi (1 : Int32), oa wV, oi (1 : Int32)] [(.int (1 : Int32)), (.ref pt)]) (fun _ kk => XS.iconst X2.here hx rfl (hb hby d14_38) kk) ?_
  refine ob T2 (mkF mG 43 #[oa a, oi sr, oi (1 : Int32), oa wV, oi (1 : Int32)] [(.int (1 : Int32)), (.ref pt)]) (fun _ kk => XS.goto X2.here hx rfl (pc0 := 39) (pc' := 43) rfl (hb hby d14_39) (by decide) (by decide) kk) ?_
  obtain ⟨cq3, kq3, q3a, q3b, q3c⟩ := isOf hZ e2 (E_pt.ext O0.2)
  obtain ⟨_, _, ⟨T3, L3, k3, n3⟩, -, X3, ⟨Lc3, hQ3, l3, y3, z3⟩, st3⟩ := X2.virtualBack hx (y := (⟨"com/example/vorgang/vorgang/model/Policy", "apply", "(Z)Ljava/util/Optional;"⟩ : MethodName)) (z := (⟨"com/example/vorgang/vorgang/model/Policy", "apply", "(Z)Ljava/util/Optional;"⟩ : MethodName)) hown (mvT hZ (ow hw 48 rfl)) (mvT hZ (ow hw 49 rfl)) (notFace_of_selects (args := #[]) (mvT hZ (ow hw 51 rfl))) (mvT hZ (ow hw 51 rfl)) (mvT hZ (ow hw 50 rfl)) (by decide) (backOf (W := 0) (rm_apE l Z a0 hw [] wA wD wG wU wV wN wB wC wF wE wO k_1 k_2 pt ti (1 : Int32) xv h0 n0 O0 hS pT (Or.inr rfl) rX lX) hZ (ow hw 52 rfl) (ow hw 9 rfl) (by decide) (by decide)) q3a q3c (g := (mkF mG 43 #[oa a, oi sr, oi (1 : Int32), oa wV, oi (1 : Int32)] [(.int (1 : Int32)), (.ref pt)])) rfl (by rw [hml]; rfl) (Steps.refl _) (argsL := [(.int (1 : Int32))]) (rest := []) (lenOf pd_11 rfl) rfl (by show 2 * 0 + _ ≤ _; exact Nat.le_of_eq rfl) (hb hby d14_43) (fun _ _ => ⟨rfl, e2, (by decide : 0 + 0 ≤ _), (by decide : 0 + 0 ≤ _)⟩)
  dsimp only [Pt.U, Pt.locs, Pt.cells, Pt.slots] at X3 l3 y3 z3 st3 hQ3
  subst l3 y3 z3
  obtain ⟨rfl, N3q, e3⟩ := hQ3
  have N3 := Fr.app N0 N3q
  obtain ⟨LL4, X3, N3⟩ : ∃ LL, Stand pG l eG _ _ mG _ belowG methG cG T3 LL 0 0 ∧ Fr n0 LL := ⟨_, X3, N3⟩
  refine ob T3 (mkF mG 46 #[oa a, oi sr, oi (1 : Int32), oa wV, oi (1 : Int32)] [(.ref wO)]) (fun _ kk => st3.trans kk) ?_
  refine ob T3 (mkF mG 47 #[oa a, oi sr, oi (1 : Int32), oa wV, oi (1 : Int32)] [(.ref wV), (.ref wO)]) (fun _ kk => XS.aloadN X3.here hx rfl (hb hby d14_46) rfl rfl kk) ?_
  have hnZ : Z.methodNamed? ox2 = some mG := (State.methodNamed?_setVm (s := Z) hZ0.alike ox2).symm.trans Bd.named
  obtain ⟨T5, h5, X5, e5, E5, A5, st5⟩ := own_mk X3 hx hZ L_2 hnZ (ow hw 81 rfl) e3 oz_t2 (vals := [(.ref wV)]) (rest := [(.ref wO)]) rfl own_nar2 own_fit2 (g := (mkF mG 47 #[oa a, oi sr, oi (1 : Int32), oa wV, oi (1 : Int32)] [(.ref wV), (.ref wO)])) rfl (by rw [hml]; rfl) rfl (hb hby d14_47) rfl (by show 2 * 0 + 2 + 3072 ≤ _; decide) (by decide) (n := 1) rfl (by decide)
  obtain ⟨b5, g5⟩ : ∃ z, z = h0.size := ⟨_, rfl⟩
  rw [← g5] at A5 st5
  have n_b5 : n0 ≤ b5 := Nat.le_trans (on0 O0) (Nat.le_of_eq g5.symm)
  have sz_b5 : h0.size ≤ b5 := Nat.le_trans K0.1 (Nat.le_of_eq g5.symm)
  have ne_a_b5 : a ≠ b5 := Nat.ne_of_lt (Nat.lt_of_lt_of_le F_t.lt (Nat.le_of_eq g5.symm))
  have CS5 : CHr Z oEL sG.vm h0 sG.vm h5 := CHr.ext E5 CR0.1
  have CR5 := CR0.trans CS5
  have O5 := O0.ext E5
  have K5 := K0.ext E5
  obtain ⟨LL6, X5, N3⟩ : ∃ LL, Stand pG l eG _ _ mG _ belowG methG cG T5 LL 1 1 ∧ Fr n0 LL := ⟨_, X5, N3⟩
  refine ob T5 (mkF mG 52 #[oa a, oi sr, oi (1 : Int32), oa wV, oi (1 : Int32)] [(.ref b5), (.ref wO)]) (fun _ kk => st5 _ kk) ?_
  obtain ⟨cq7, kq7, q7a, q7b, q7c⟩ := isOf hZ e5 (E_wO.ext O5.2)
  obtain ⟨_, _, ⟨T7, L7, k7, n7⟩, -, X7, ⟨Lc7, hQ7, l7, y7, z7⟩, st7⟩ := X5.virtualBack hx (y := (⟨"java/util/Optional", "map", "(Ljava/util/function/Function;)Ljava/util/Optional;"⟩ : MethodName)) (z := (⟨"java/util/Optional", "map", "(Ljava/util/function/Function;)Ljava/util/Optional;"⟩ : MethodName)) hown (mvT hZ (ow hw 108 rfl)) (mvT hZ (ow hw 109 rfl)) (notFace_of_selects (args := #[]) (mvT hZ (ow hw 111 rfl))) (mvT hZ (ow hw 111 rfl)) (mvT hZ (ow hw 110 rfl)) (by decide) (backOf (W := 0) (rm_mapE l Z a0 hw [] wA wD wG wU wV wN wB wC wF wE wO k_1 k_2 b5 h5 n0 O5 hS ) hZ (ow hw 112 rfl) (ow hw 67 rfl) (by decide) (by decide)) q7a q7c (g := (mkF mG 52 #[oa a, oi sr, oi (1 : Int32), oa wV, oi (1 : Int32)] [(.ref b5), (.ref wO)])) rfl (by rw [hml]; rfl) (Steps.refl _) (argsL := [(.ref b5)]) (rest := []) (lenOf pd_12 rfl) rfl (by show 2 * 0 + _ ≤ _; exact Nat.le_of_eq rfl) (hb hby d14_52) (fun _ _ => ⟨rfl, e5, (by decide : 1 + 0 ≤ _), (by decide : 1 + 0 ≤ _)⟩)
  dsimp only [Pt.U, Pt.locs, Pt.cells, Pt.slots] at X7 l7 y7 z7 st7 hQ7
  subst l7 y7 z7
  obtain ⟨rfl, N7q, e7⟩ := hQ7
  have N7 := Fr.app N3 N7q
  obtain ⟨LL8, X7, N7⟩ : ∃ LL, Stand pG l eG _ _ mG _ belowG methG cG T7 LL 1 1 ∧ Fr n0 LL := ⟨_, X7, N7⟩
  refine ob T7 (mkF mG 55 #[oa a, oi sr, oi (1 : Int32), oa wV, oi (1 : Int32)] [(.ref wO)]) (fun _ kk => st7.trans kk) ?_
  obtain ⟨fs, hr, hrun, hended, hW, hsame⟩ := X7.leave (v := some (.ref wO)) (fun h => by rw [Bd.returns] at h; cases h)
  obtain ⟨w1, w2, w3⟩ := State.Since.ended (U := T7.setFrames fs) hS0 hW (by show _ ≤ T7.heap.size; rw [e7]; exact (Nat.le_trans hk0 CS5.2.1)) hsame
  have CF := CR5.trans (CHv.at X7 hZ hEL CR5.1)
  refine oout (oretA X7 hx Bd.returns rfl rfl (hb hby d14_55) hr) hrun hended ⟨_, _, rfl, ?_, ?_, ⟨_, rfl⟩, w1, w2, w3.mono (by decide) (by decide)⟩
  · show Q_rm_ld1E_1x1 Z wA wD wG wU wV wN wB wC wF wE wO k_1 k_2 a sr pt ti xv h0 n0 _ T7.heap _
    rw [e7]
    exact ⟨rfl, N7, K5, O5⟩
  · show CHr Z oEL sG.vm sG.heap T7.vm T7.heap
    rw [hh, e7]
    exact CF

def Q_rm_ld1E_2x0 (Z : State) (wA wD wG wU wV wN wB wC wF wE wO : Addr) (k_1 k_2 : ClassId) (a : Addr) (sr : Int32) (pt : Addr) (ti xv : Int32) (h0 : Heap) (n0 : Nat) (v : Option Value) (h : Heap) (L : List Loc) : Prop := v = some (.ref wO) ∧ Fr n0 L ∧ Keep h0 h [] ∧ Old Z n0 h
set_option maxRecDepth 65536 in
set_option maxHeartbeats 40000000 in
theorem rm_ld1E_2x0 (l : Launch) (Z : State) (a0 : Array Value) (hw : ∀ d ∈ tables_1, d.before a0 Z = true) (ws : List Jvm.Cond) (wA wD wG wU wV wN wB wC wF wE wO : Addr) (k_1 k_2 : ClassId) (a : Addr) (sr : Int32) (pt : Addr) (ti xv : Int32) (h0 : Heap) (n0 : Nat) (O0 : Old Z n0 h0) (hS : St0 Z wA wD wG wU wV wN wB wC wF wE wO k_1 k_2 ) (F_t : Fld Z h0 a "com/example/vorgang/vorgang/model/CallPolicy" "transactionType" "Lcom/example/vorgang/vorgang/model/Policy;" (.ref pt)) (pT : oPol wA wB wC wD wE wF wG ti pt) (rX : oRu ti (0 : Int32) = xv) (lX : xv < (0 : Int32)) :
    MetFree l (⟨"com/example/vorgang/vorgang/model/CallPolicy", "lambda$dispatch$1", "(ZZLcom/example/vorgang/vorgang/model/ContextUse;)Ljava/util/Optional;"⟩ : MethodName) (head1 (Jvm.Cond.code (⟨"com/example/vorgang/vorgang/model/CallPolicy", "lambda$dispatch$1", "(ZZLcom/example/vorgang/vorgang/model/ContextUse;)Ljava/util/Optional;"⟩ : MethodName) prog_10_method_8_code 5 (some (.object "java/util/Optional")) :: ws) ({ frames := 6, cells := 8, slots := 90, locals := 3080 } : Room)) (fun aG UG => aG = #[(.ref a), (.int sr), (.int (0 : Int32)), (.ref wU)] ∧ Z.Warmed39 UG.vm ∧ UG.heap = h0 ∧ CHv Z oEL UG.vm h0) (fun _ _ _ _ _ => True) (fun _ UG oG UG' => ∃ vG LG, oG = .returned vG ∧ Q_rm_ld1E_2x0 Z wA wD wG wU wV wN wB wC wF wE wO k_1 k_2 a sr pt ti xv h0 n0 vG UG'.heap LG ∧ CHr Z oEL UG.vm UG.heap UG'.vm UG'.heap ∧ ReturnedEndW UG oG UG' LG ({ frames := 6, cells := 8, slots := 90, locals := 3080 } : Room).cells ({ frames := 6, cells := 8, slots := 90, locals := 3080 } : Room).slots) := by
  refine MetFree.of_bodySF (plainFor_of_name pn_6) hisR ?_
  intro pG eG sG mG argsG belowG methG cG s₁ Bd hml0 hP hK
  obtain ⟨rfl, hZ, hh, hC⟩ := hP
  have hx := Bd.exec
  have hby := Bd.bytes
  have hml : cG.maxLocals = 5 := hml0
  have hown : sG.vm.findClass "com/example/vorgang/vorgang/model/CallPolicy" = some mG.cls := findClass_of_methodNamed Bd.named
  have hnm := (name_of_methodNamed Bd.named Bd.method).1
  have X0 : Stand pG l eG ({ frames := 6, cells := 8, slots := 90, locals := 3080 } : Room) (sG.setVm sG.vm) mG #[(.ref a), (.int sr), (.int (0 : Int32)), (.ref wU)] belowG methG cG s₁ [] 0 0 := Stand.of_body Bd
  have e0 : s₁.heap = h0 := by rw [← hh, Bd.state]; rfl
  have N0 := Fr.nil n0
  have K0 := Keep.refl h0 []
  have hS0 : sG.Since sG.vm h0.size := (State.WarmedH.refl sG).since _
  have hk0 : h0.size ≤ h0.size := Nat.le_refl _
  have CR0 : CHr Z oEL sG.vm h0 sG.vm h0 := CHr.refl hC
  have hEL : EW Z a0 oEL := own_EW hw
  obtain ⟨S_wA, E_wA, S_wD, E_wD, S_wG, E_wG, S_wU, E_wU, S_wV, E_wV, S_wN, E_wN, S_wB, E_wB, S_wC, E_wC, S_wF, E_wF, S_wE, E_wE, S_wO, E_wO, F_wA_ordinal, F_wG_ordinal, F_wD_ordinal, F_wU_ordinal, F_wV_ordinal, F_wN_ordinal, F_wB_ordinal, F_wC_ordinal, F_wF_ordinal, F_wE_ordinal, F_wO_value, L_1, L_2, ne_wA_wG, ne_wA_wD, ne_wA_wB, ne_wA_wC, ne_wA_wF, ne_wA_wE, ne_wG_wD, ne_wG_wB, ne_wG_wC, ne_wG_wF, ne_wG_wE, ne_wD_wB, ne_wD_wC, ne_wD_wF, ne_wD_wE, ne_wU_wV, ne_wU_wN, ne_wV_wN, ne_wB_wC, ne_wB_wF, ne_wB_wE, ne_wC_wF, ne_wC_wE, ne_wF_wE⟩ := (id hS : St0 Z wA wD wG wU wV wN wB wC wF wE wO k_1 k_2 )
  have hZ0 := hZ
  have E_pt := own_pe hS pT
  refine ostart (g' := (mkF mG 0 #[oa a, oi sr, oi (0 : Int32), oa wU, .unset] [])) (by first | (simp [entryFrame, mkF, argsToLocals, Value.category]; done) | rfl) ?_
  refine ob s₁ (mkF mG 1 #[oa a, oi sr, oi (0 : Int32), oa wU, .unset] [(.ref wU)]) (fun _ kk => XS.aloadN X0.here hx rfl (hb hby d14_0) rfl rfl kk) ?_
  obtain ⟨T1, X1, e1, st1⟩ := getS2 X0 hx hZ hown (host := "") (Or.inl (ow hw 102 rfl)) Via.refl e0 (S_wV.ext O0.2) (g := (mkF mG 1 #[oa a, oi sr, oi (0 : Int32), oa wU, .unset] [(.ref wU)])) rfl (hb hby d14_1)
  refine ob T1 (mkF mG 4 #[oa a, oi sr, oi (0 : Int32), oa wU, .unset] [(.ref wV), (.ref wU)]) (fun _ kk => st1 _ kk) ?_
  refine ob T1 (mkF mG 7 #[oa a, oi sr, oi (0 : Int32), oa wU, .unset] []) (fun _ kk => Jvm.RoadKit.acmp (g := (mkF mG 4 #[oa a, oi sr, oi (0 : Int32), oa wU, .unset] [(.ref wV), (.ref wU)])) X1 hx rfl rfl rfl (pc0 := 4) (pc' := 7) (same := false) rfl (hb hby d14_4) rfl (decide_eq_false fun q => ne_wU_wV (Value.ref.inj q)) (by decide) (by decide) kk) ?_
  refine ob T1 (mkF mG 8 #[oa a, oi sr, oi (0 : Int32), oa wU, .unset] [(.ref wU)]) (fun _ kk => XS.aloadN X1.here hx rfl (hb hby d14_7) rfl rfl kk) ?_
  obtain ⟨T2, X2, e2, st2⟩ := getS2 X1 hx hZ hown (host := "") (Or.inl (ow hw 104 rfl)) Via.refl e1 (S_wN.ext O0.2) (g := (mkF mG 8 #[oa a, oi sr, oi (0 : Int32), oa wU, .unset] [(.ref wU)])) rfl (hb hby d14_8)
  refine ob T2 (mkF mG 11 #[oa a, oi sr, oi (0 : Int32), oa wU, .unset] [(.ref wN), (.ref wU)]) (fun _ kk => st2 _ kk) ?_
  refine ob T2 (mkF mG 22 #[oa a, oi sr, oi (0 : Int32), oa wU, .unset] []) (fun _ kk => Jvm.RoadKit.acmp (g := (mkF mG 11 #[oa a, oi sr, oi (0 : Int32), oa wU, .unset] [(.ref wN), (.ref wU)])) X2 hx rfl rfl rfl (pc0 := 11) (pc' := 22) (same := false) rfl (hb hby d14_11) rfl (decide_eq_false fun q => ne_wU_wN (Value.ref.inj q)) (by decide) (by decide) kk) ?_
  refine ob T2 (mkF mG 23 #[oa a, oi sr, oi (0 : Int32), oa wU, .unset] [(.int (0 : Int32))]) (fun _ kk => XS.iconst X2.here hx rfl (hb hby d14_22) kk) ?_
  refine ob T2 (mkF mG 25 #[oa a, oi sr, oi (0 : Int32), oa wU, oi (0 : Int32)] []) (fun _ kk => XS.istore X2.here hx rfl (hb hby d14_23) rfl (l' := #[oa a, oi sr, oi (0 : Int32), oa wU, oi (0 : Int32)]) rfl kk) ?_
  refine ob T2 (mkF mG 26 #[oa a, oi sr, oi (0 : Int32), oa wU, oi (0 : Int32)] [(.ref a)]) (fun _ kk => XS.aloadN X2.here hx rfl (hb hby d14_25) rfl rfl kk) ?_
  obtain ⟨T3, X3, e3, st3⟩ := getF X2 hx hZ hown (host := "") (Or.inl (ow hw 41 rfl)) Via.refl e2 F_t (g := (mkF mG 26 #[oa a, oi sr, oi (0 : Int32), oa wU, oi (0 : Int32)] [(.ref a)])) rfl rfl (hb hby d14_26)
  refine ob T3 (mkF mG 29 #[oa a, oi sr, oi (0 : Int32), oa wU, oi (0 : Int32)] [(.ref pt)]) (fun _ kk => st3 _ kk) ?_
  refine ob T3 (mkF mG 30 #[oa a, oi sr, oi (0 : Int32), oa wU, oi (0 : Int32)] [(.int (0 : Int32)), (.ref pt)]) (fun _ kk => XS.iloadN X3.here hx rfl (hb hby d14_29) rfl kk) ?_
  refine ob T3 (mkF mG 42 #[oa a, oi sr, oi (0 : Int32), oa wU, oi (0 : Int32)] [(.ref pt)]) (fun _ kk => XS.ifYes X3.here hx rfl (pc0 := 30) (pc' := 42) rfl (hb hby d14_30) rfl ((if0 _ _).trans (teq (by decide : (0 : Int32) = (0 : Int32))).1) (by decide) (by decide) kk) ?_
  refine ob T3 (mkF mG 43 #[oa a, oi sr, oi (0 : Int32), oa wU, oi (0 : Int32)] [(.int (0 : Int32)), (.ref pt)]) (fun _ kk => XS.iconst X3.here hx rfl (hb hby d14_42) kk) ?_
  obtain ⟨cq4, kq4, q4a, q4b, q4c⟩ := isOf hZ e3 (E_pt.ext O0.2)
  obtain ⟨_, _, ⟨T4, L4, k4, n4⟩, -, X4, ⟨Lc4, hQ4, l4, y4, z4⟩, st4⟩ := X3.virtualBack hx (y := (⟨"com/example/vorgang/vorgang/model/Policy", "apply", "(Z)Ljava/util/Optional;"⟩ : MethodName)) (z := (⟨"com/example/vorgang/vorgang/model/Policy", "apply", "(Z)Ljava/util/Optional;"⟩ : MethodName)) hown (mvT hZ (ow hw 48 rfl)) (mvT hZ (ow hw 49 rfl)) (notFace_of_selects (args := #[]) (mvT hZ (ow hw 51 rfl))) (mvT hZ (ow hw 51 rfl)) (mvT hZ (ow hw 50 rfl)) (by decide) (backOf (W := 0) (rm_apE l Z a0 hw [] wA wD wG wU wV wN wB wC wF wE wO k_1 k_2 pt ti (0 : Int32) xv h0 n0 O0 hS pT (Or.inl rfl) rX lX) hZ (ow hw 52 rfl) (ow hw 9 rfl) (by decide) (by decide)) q4a q4c (g := (mkF mG 43 #[oa a, oi sr, oi (0 : Int32), oa wU, oi (0 : Int32)] [(.int (0 : Int32)), (.ref pt)])) rfl (by rw [hml]; rfl) (Steps.refl _) (argsL := [(.int (0 : Int32))]) (rest := []) (lenOf pd_11 rfl) rfl (by show 2 * 0 + _ ≤ _; exact Nat.le_of_eq rfl) (hb hby d14_43) (fun _ _ => ⟨rfl, e3, (by decide : 0 + 0 ≤ _), (by decide : 0 + 0 ≤ _)⟩)
  dsimp only [Pt.U, Pt.locs, Pt.cells, Pt.slots] at X4 l4 y4 z4 st4 hQ4
  subst l4 y4 z4
  obtain ⟨rfl, N4q, e4⟩ := hQ4
  have N4 := Fr.app N0 N4q
  obtain ⟨LL5, X4, N4⟩ : ∃ LL, Stand pG l eG _ _ mG _ belowG methG cG T4 LL 0 0 ∧ Fr n0 LL := ⟨_, X4, N4⟩
  refine ob T4 (mkF mG 46 #[oa a, oi sr, oi (0 : Int32), oa wU, oi (0 : Int32)] [(.ref wO)]) (fun _ kk => st4.trans kk) ?_
  refine ob T4 (mkF mG 47 #[oa a, oi sr, oi (0 : Int32), oa wU, oi (0 : Int32)] [(.ref wU), (.ref wO)]) (fun _ kk => XS.aloadN X4.here hx rfl (hb hby d14_46) rfl rfl kk) ?_
  have hnZ : Z.methodNamed? ox2 = some mG := (State.methodNamed?_setVm (s := Z) hZ0.alike ox2).symm.trans Bd.named
  obtain ⟨T6, h6, X6, e6, E6, A6, st6⟩ := own_mk X4 hx hZ L_2 hnZ (ow hw 81 rfl) e4 oz_t2 (vals := [(.ref wU)]) (rest := [(.ref wO)]) rfl own_nar2 own_fit2 (g := (mkF mG 47 #[oa a, oi sr, oi (0 : Int32), oa wU, oi (0 : Int32)] [(.ref wU), (.ref wO)])) rfl (by rw [hml]; rfl) rfl (hb hby d14_47) rfl (by show 2 * 0 + 2 + 3072 ≤ _; decide) (by decide) (n := 1) rfl (by decide)
  obtain ⟨b6, g6⟩ : ∃ z, z = h0.size := ⟨_, rfl⟩
  rw [← g6] at A6 st6
  have n_b6 : n0 ≤ b6 := Nat.le_trans (on0 O0) (Nat.le_of_eq g6.symm)
  have sz_b6 : h0.size ≤ b6 := Nat.le_trans K0.1 (Nat.le_of_eq g6.symm)
  have ne_a_b6 : a ≠ b6 := Nat.ne_of_lt (Nat.lt_of_lt_of_le F_t.lt (Nat.le_of_eq g6.symm))
  have CS6 : CHr Z oEL sG.vm h0 sG.vm h6 := CHr.ext E6 CR0.1
  have CR6 := CR0.trans CS6
  have O6 := O0.ext E6
  have K6 := K0.ext E6
  obtain ⟨LL7, X6, N4⟩ : ∃ LL, Stand pG l eG _ _ mG _ belowG methG cG T6 LL 1 1 ∧ Fr n0 LL := ⟨_, X6, N4⟩
  refine ob T6 (mkF mG 52 #[oa a, oi sr, oi (0 : Int32), oa wU, oi (0 : Int32)] [(.ref b6), (.ref wO)]) (fun _ kk => st6 _ kk) ?_
  obtain ⟨cq8, kq8, q8a, q8b, q8c⟩ := isOf hZ e6 (E_wO.ext O6.2)
  obtain ⟨_, _, ⟨T8, L8, k8, n8⟩, -, X8, ⟨Lc8, hQ8, l8, y8, z8⟩, st8⟩ := X6.virtualBack hx (y := (⟨"java/util/Optional", "map", "(Ljava/util/function/Function;)Ljava/util/Optional;"⟩ : MethodName)) (z := (⟨"java/util/Optional", "map", "(Ljava/util/function/Function;)Ljava/util/Optional;"⟩ : MethodName)) hown (mvT hZ (ow hw 108 rfl)) (mvT hZ (ow hw 109 rfl)) (notFace_of_selects (args := #[]) (mvT hZ (ow hw 111 rfl))) (mvT hZ (ow hw 111 rfl)) (mvT hZ (ow hw 110 rfl)) (by decide) (backOf (W := 0) (rm_mapE l Z a0 hw [] wA wD wG wU wV wN wB wC wF wE wO k_1 k_2 b6 h6 n0 O6 hS ) hZ (ow hw 112 rfl) (ow hw 67 rfl) (by decide) (by decide)) q8a q8c (g := (mkF mG 52 #[oa a, oi sr, oi (0 : Int32), oa wU, oi (0 : Int32)] [(.ref b6), (.ref wO)])) rfl (by rw [hml]; rfl) (Steps.refl _) (argsL := [(.ref b6)]) (rest := []) (lenOf pd_12 rfl) rfl (by show 2 * 0 + _ ≤ _; exact Nat.le_of_eq rfl) (hb hby d14_52) (fun _ _ => ⟨rfl, e6, (by decide : 1 + 0 ≤ _), (by decide : 1 + 0 ≤ _)⟩)
  dsimp only [Pt.U, Pt.locs, Pt.cells, Pt.slots] at X8 l8 y8 z8 st8 hQ8
  subst l8 y8 z8
  obtain ⟨rfl, N8q, e8⟩ := hQ8
  have N8 := Fr.app N4 N8q
  obtain ⟨LL9, X8, N8⟩ : ∃ LL, Stand pG l eG _ _ mG _ belowG methG cG T8 LL 1 1 ∧ Fr n0 LL := ⟨_, X8, N8⟩
  refine ob T8 (mkF mG 55 #[oa a, oi sr, oi (0 : Int32), oa wU, oi (0 : Int32)] [(.ref wO)]) (fun _ kk => st8.trans kk) ?_
  obtain ⟨fs, hr, hrun, hended, hW, hsame⟩ := X8.leave (v := some (.ref wO)) (fun h => by rw [Bd.returns] at h; cases h)
  obtain ⟨w1, w2, w3⟩ := State.Since.ended (U := T8.setFrames fs) hS0 hW (by show _ ≤ T8.heap.size; rw [e8]; exact (Nat.le_trans hk0 CS6.2.1)) hsame
  have CF := CR6.trans (CHv.at X8 hZ hEL CR6.1)
  refine oout (oretA X8 hx Bd.returns rfl rfl (hb hby d14_55) hr) hrun hended ⟨_, _, rfl, ?_, ?_, ⟨_, rfl⟩, w1, w2, w3.mono (by decide) (by decide)⟩
  · show Q_rm_ld1E_2x0 Z wA wD wG wU wV wN wB wC wF wE wO k_1 k_2 a sr pt ti xv h0 n0 _ T8.heap _
    rw [e8]
    exact ⟨rfl, N8, K6, O6⟩
  · show CHr Z oEL sG.vm sG.heap T8.vm T8.heap
    rw [hh, e8]
    exact CF

def Q_rm_ld1E_2x1 (Z : State) (wA wD wG wU wV wN wB wC wF wE wO : Addr) (k_1 k_2 : ClassId) (a : Addr) (sr : Int32) (pt : Addr) (ti xv : Int32) (h0 : Heap) (n0 : Nat) (v : Option Value) (h : Heap) (L : List Loc) : Prop := v = some (.ref wO) ∧ Fr n0 L ∧ Keep h0 h [] ∧ Old Z n0 h
set_option maxRecDepth 65536 in
set_option maxHeartbeats 40000000 in
theorem rm_ld1E_2x1 (l : Launch) (Z : State) (a0 : Array Value) (hw : ∀ d ∈ tables_1, d.before a0 Z = true) (ws : List Jvm.Cond) (wA wD wG wU wV wN wB wC wF wE wO : Addr) (k_1 k_2 : ClassId) (a : Addr) (sr : Int32) (pt : Addr) (ti xv : Int32) (h0 : Heap) (n0 : Nat) (O0 : Old Z n0 h0) (hS : St0 Z wA wD wG wU wV wN wB wC wF wE wO k_1 k_2 ) (F_t : Fld Z h0 a "com/example/vorgang/vorgang/model/CallPolicy" "transactionType" "Lcom/example/vorgang/vorgang/model/Policy;" (.ref pt)) (pT : oPol wA wB wC wD wE wF wG ti pt) (rX : oRu ti (0 : Int32) = xv) (lX : xv < (0 : Int32)) :
    MetFree l (⟨"com/example/vorgang/vorgang/model/CallPolicy", "lambda$dispatch$1", "(ZZLcom/example/vorgang/vorgang/model/ContextUse;)Ljava/util/Optional;"⟩ : MethodName) (head1 (Jvm.Cond.code (⟨"com/example/vorgang/vorgang/model/CallPolicy", "lambda$dispatch$1", "(ZZLcom/example/vorgang/vorgang/model/ContextUse;)Ljava/util/Optional;"⟩ : MethodName) prog_10_method_8_code 5 (some (.object "java/util/Optional")) :: ws) ({ frames := 6, cells := 8, slots := 90, locals := 3080 } : Room)) (fun aG UG => aG = #[(.ref a), (.int sr), (.int (1 : Int32)), (.ref wU)] ∧ Z.Warmed39 UG.vm ∧ UG.heap = h0 ∧ CHv Z oEL UG.vm h0) (fun _ _ _ _ _ => True) (fun _ UG oG UG' => ∃ vG LG, oG = .returned vG ∧ Q_rm_ld1E_2x1 Z wA wD wG wU wV wN wB wC wF wE wO k_1 k_2 a sr pt ti xv h0 n0 vG UG'.heap LG ∧ CHr Z oEL UG.vm UG.heap UG'.vm UG'.heap ∧ ReturnedEndW UG oG UG' LG ({ frames := 6, cells := 8, slots := 90, locals := 3080 } : Room).cells ({ frames := 6, cells := 8, slots := 90, locals := 3080 } : Room).slots) := by
  refine MetFree.of_bodySF (plainFor_of_name pn_6) hisR ?_
  intro pG eG sG mG argsG belowG methG cG s₁ Bd hml0 hP hK
  obtain ⟨rfl, hZ, hh, hC⟩ := hP
  have hx := Bd.exec
  have hby := Bd.bytes
  have hml : cG.maxLocals = 5 := hml0
  have hown : sG.vm.findClass "com/example/vorgang/vorgang/model/CallPolicy" = some mG.cls := findClass_of_methodNamed Bd.named
  have hnm := (name_of_methodNamed Bd.named Bd.method).1
  have X0 : Stand pG l eG ({ frames := 6, cells := 8, slots := 90, locals := 3080 } : Room) (sG.setVm sG.vm) mG #[(.ref a), (.int sr), (.int (1 : Int32)), (.ref wU)] belowG methG cG s₁ [] 0 0 := Stand.of_body Bd
  have e0 : s₁.heap = h0 := by rw [← hh, Bd.state]; rfl
  have N0 := Fr.nil n0
  have K0 := Keep.refl h0 []
  have hS0 : sG.Since sG.vm h0.size := (State.WarmedH.refl sG).since _
  have hk0 : h0.size ≤ h0.size := Nat.le_refl _
  have CR0 : CHr Z oEL sG.vm h0 sG.vm h0 := CHr.refl hC
  have hEL : EW Z a0 oEL := own_EW hw
  obtain ⟨S_wA, E_wA, S_wD, E_wD, S_wG, E_wG, S_wU, E_wU, S_wV, E_wV, S_wN, E_wN, S_wB, E_wB, S_wC, E_wC, S_wF, E_wF, S_wE, E_wE, S_wO, E_wO, F_wA_ordinal, F_wG_ordinal, F_wD_ordinal, F_wU_ordinal, F_wV_ordinal, F_wN_ordinal, F_wB_ordinal, F_wC_ordinal, F_wF_ordinal, F_wE_ordinal, F_wO_value, L_1, L_2, ne_wA_wG, ne_wA_wD, ne_wA_wB, ne_wA_wC, ne_wA_wF, ne_wA_wE, ne_wG_wD, ne_wG_wB, ne_wG_wC, ne_wG_wF, ne_wG_wE, ne_wD_wB, ne_wD_wC, ne_wD_wF, ne_wD_wE, ne_wU_wV, ne_wU_wN, ne_wV_wN, ne_wB_wC, ne_wB_wF, ne_wB_wE, ne_wC_wF, ne_wC_wE, ne_wF_wE⟩ := (id hS : St0 Z wA wD wG wU wV wN wB wC wF wE wO k_1 k_2 )
  have hZ0 := hZ
  have E_pt := own_pe hS pT
  refine ostart (g' := (mkF mG 0 #[oa a, oi sr, oi (1 : Int32), oa wU, .unset] [])) (by first | (simp [entryFrame, mkF, argsToLocals, Value.category]; done) | rfl) ?_
  refine ob s₁ (mkF mG 1 #[oa a, oi sr, oi (1 : Int32), oa wU, .unset] [(.ref wU)]) (fun _ kk => XS.aloadN X0.here hx rfl (hb hby d14_0) rfl rfl kk) ?_
  obtain ⟨T1, X1, e1, st1⟩ := getS2 X0 hx hZ hown (host := "") (Or.inl (ow hw 102 rfl)) Via.refl e0 (S_wV.ext O0.2) (g := (mkF mG 1 #[oa a, oi sr, oi (1 : Int32), oa wU, .unset] [(.ref wU)])) rfl (hb hby d14_1)
  refine ob T1 (mkF mG 4 #[oa a, oi sr, oi (1 : Int32), oa wU, .unset] [(.ref wV), (.ref wU)]) (fun _ kk => st1 _ kk) ?_
  refine ob T1 (mkF mG 7 #[oa a, oi sr, oi (1 : Int32), oa wU, .unset] []) (fun _ kk => Jvm.RoadKit.acmp (g := (mkF mG 4 #[oa a, oi sr, oi (1 : Int32), oa wU, .unset] [(.ref wV), (.ref wU)])) X1 hx rfl rfl rfl (pc0 := 4) (pc' := 7) (same := false) rfl (hb hby d14_4) rfl (decide_eq_false fun q => ne_wU_wV (Value.ref.inj q)) (by decide) (by decide) kk) ?_
  refine ob T1 (mkF mG 8 #[oa a, oi sr, oi (1 : Int32), oa wU, .unset] [(.ref wU)]) (fun _ kk => XS.aloadN X1.here hx rfl (hb hby d14_7) rfl rfl kk) ?_
  obtain ⟨T2, X2, e2, st2⟩ := getS2 X1 hx hZ hown (host := "") (Or.inl (ow hw 104 rfl)) Via.refl e1 (S_wN.ext O0.2) (g := (mkF mG 8 #[oa a, oi sr, oi (1 : Int32), oa wU, .unset] [(.ref wU)])) rfl (hb hby d14_8)
  refine ob T2 (mkF mG 11 #[oa a, oi sr, oi (1 : Int32), oa wU, .unset] [(.ref wN), (.ref wU)]) (fun _ kk => st2 _ kk) ?_
  refine ob T2 (mkF mG 22 #[oa a, oi sr, oi (1 : Int32), oa wU, .unset] []) (fun _ kk => Jvm.RoadKit.acmp (g := (mkF mG 11 #[oa a, oi sr, oi (1 : Int32), oa wU, .unset] [(.ref wN), (.ref wU)])) X2 hx rfl rfl rfl (pc0 := 11) (pc' := 22) (same := false) rfl (hb hby d14_11) rfl (decide_eq_false fun q => ne_wU_wN (Value.ref.inj q)) (by decide) (by decide) kk) ?_
  refine ob T2 (mkF mG 23 #[oa a, oi sr, oi (1 : Int32), oa wU, .unset] [(.int (0 : Int32))]) (fun _ kk => XS.iconst X2.here hx rfl (hb hby d14_22) kk) ?_
  refine ob T2 (mkF mG 25 #[oa a, oi sr, oi (1 : Int32), oa wU, oi (0 : Int32)] []) (fun _ kk => XS.istore X2.here hx rfl (hb hby d14_23) rfl (l' := #[oa a, oi sr, oi (1 : Int32), oa wU, oi (0 : Int32)]) rfl kk) ?_
  refine ob T2 (mkF mG 26 #[oa a, oi sr, oi (1 : Int32), oa wU, oi (0 : Int32)] [(.ref a)]) (fun _ kk => XS.aloadN X2.here hx rfl (hb hby d14_25) rfl rfl kk) ?_
  obtain ⟨T3, X3, e3, st3⟩ := getF X2 hx hZ hown (host := "") (Or.inl (ow hw 41 rfl)) Via.refl e2 F_t (g := (mkF mG 26 #[oa a, oi sr, oi (1 : Int32), oa wU, oi (0 : Int32)] [(.ref a)])) rfl rfl (hb hby d14_26)
  refine ob T3 (mkF mG 29 #[oa a, oi sr, oi (1 : Int32), oa wU, oi (0 : Int32)] [(.ref pt)]) (fun _ kk => st3 _ kk) ?_
  refine ob T3 (mkF mG 30 #[oa a, oi sr, oi (1 : Int32), oa wU, oi (0 : Int32)] [(.int (1 : Int32)), (.ref pt)]) (fun _ kk => XS.iloadN X3.here hx rfl (hb hby d14_29) rfl kk) ?_
  refine ob T3 (mkF mG 33 #[oa a, oi sr, oi (1 : Int32), oa wU, oi (0 : Int32)] [(.ref pt)]) (fun _ kk => XS.ifNo X3.here hx rfl (hb hby d14_30) rfl ((if0 _ _).trans (feq (by decide : ¬ ((1 : Int32) = (0 : Int32)))).1) kk) ?_
  refine ob T3 (mkF mG 35 #[oa a, oi sr, oi (1 : Int32), oa wU, oi (0 : Int32)] [(.int (0 : Int32)), (.ref pt)]) (fun _ kk => XS.iload X3.here hx rfl (hb hby d14_33) rfl kk) ?_
  refine ob T3 (mkF mG 42 #[oa a, oi sr, oi (1 : Int32), oa wU, oi (0 : Int32)] [(.ref pt)]) (fun _ kk => XS.ifYes X3.here hx rfl (pc0 := 35) (pc' := 42) rfl (hb hby d14_35) rfl ((if0 _ _).trans (teq (by decide : (0 : Int32) = (0 : Int32))).1) (by decide) (by decide) kk) ?_
  refine ob T3 (mkF mG 43 #[oa a, oi sr, oi (1 : Int32), oa wU, oi (0 : Int32)] [(.int (0 : Int32)), (.ref pt)]) (fun _ kk => XS.iconst X3.here hx rfl (hb hby d14_42) kk) ?_
  obtain ⟨cq4, kq4, q4a, q4b, q4c⟩ := isOf hZ e3 (E_pt.ext O0.2)
  obtain ⟨_, _, ⟨T4, L4, k4, n4⟩, -, X4, ⟨Lc4, hQ4, l4, y4, z4⟩, st4⟩ := X3.virtualBack hx (y := (⟨"com/example/vorgang/vorgang/model/Policy", "apply", "(Z)Ljava/util/Optional;"⟩ : MethodName)) (z := (⟨"com/example/vorgang/vorgang/model/Policy", "apply", "(Z)Ljava/util/Optional;"⟩ : MethodName)) hown (mvT hZ (ow hw 48 rfl)) (mvT hZ (ow hw 49 rfl)) (notFace_of_selects (args := #[]) (mvT hZ (ow hw 51 rfl))) (mvT hZ (ow hw 51 rfl)) (mvT hZ (ow hw 50 rfl)) (by decide) (backOf (W := 0) (rm_apE l Z a0 hw [] wA wD wG wU wV wN wB wC wF wE wO k_1 k_2 pt ti (0 : Int32) xv h0 n0 O0 hS pT (Or.inl rfl) rX lX) hZ (ow hw 52 rfl) (ow hw 9 rfl) (by decide) (by decide)) q4a q4c (g := (mkF mG 43 #[oa a, oi sr, oi (1 : Int32), oa wU, oi (0 : Int32)] [(.int (0 : Int32)), (.ref pt)])) rfl (by rw [hml]; rfl) (Steps.refl _) (argsL := [(.int (0 : Int32))]) (rest := []) (lenOf pd_11 rfl) rfl (by show 2 * 0 + _ ≤ _; exact Nat.le_of_eq rfl) (hb hby d14_43) (fun _ _ => ⟨rfl, e3, (by decide : 0 + 0 ≤ _), (by decide : 0 + 0 ≤ _)⟩)
  dsimp only [Pt.U, Pt.locs, Pt.cells, Pt.slots] at X4 l4 y4 z4 st4 hQ4
  subst l4 y4 z4
  obtain ⟨rfl, N4q, e4⟩ := hQ4
  have N4 := Fr.app N0 N4q
  obtain ⟨LL5, X4, N4⟩ : ∃ LL, Stand pG l eG _ _ mG _ belowG methG cG T4 LL 0 0 ∧ Fr n0 LL := ⟨_, X4, N4⟩
  refine ob T4 (mkF mG 46 #[oa a, oi sr, oi (1 : Int32), oa wU, oi (0 : Int32)] [(.ref wO)]) (fun _ kk => st4.trans kk) ?_
  refine ob T4 (mkF mG 47 #[oa a, oi sr, oi (1 : Int32), oa wU, oi (0 : Int32)] [(.ref wU), (.ref wO)]) (fun _ kk => XS.aloadN X4.here hx rfl (hb hby d14_46) rfl rfl kk) ?_
  have hnZ : Z.methodNamed? ox2 = some mG := (State.methodNamed?_setVm (s := Z) hZ0.alike ox2).symm.trans Bd.named
  obtain ⟨T6, h6, X6, e6, E6, A6, st6⟩ := own_mk X4 hx hZ L_2 hnZ (ow hw 81 rfl) e4 oz_t2 (vals := [(.ref wU)]) (rest := [(.ref wO)]) rfl own_nar2 own_fit2 (g := (mkF mG 47 #[oa a, oi sr, oi (1 : Int32), oa wU, oi (0 : Int32)] [(.ref wU), (.ref wO)])) rfl (by rw [hml]; rfl) rfl (hb hby d14_47) rfl (by show 2 * 0 + 2 + 3072 ≤ _; decide) (by decide) (n := 1) rfl (by decide)
  obtain ⟨b6, g6⟩ : ∃ z, z = h0.size := ⟨_, rfl⟩
  rw [← g6] at A6 st6
  have n_b6 : n0 ≤ b6 := Nat.le_trans (on0 O0) (Nat.le_of_eq g6.symm)
  have sz_b6 : h0.size ≤ b6 := Nat.le_trans K0.1 (Nat.le_of_eq g6.symm)
  have ne_a_b6 : a ≠ b6 := Nat.ne_of_lt (Nat.lt_of_lt_of_le F_t.lt (Nat.le_of_eq g6.symm))
  have CS6 : CHr Z oEL sG.vm h0 sG.vm h6 := CHr.ext E6 CR0.1
  have CR6 := CR0.trans CS6
  have O6 := O0.ext E6
  have K6 := K0.ext E6
  obtain ⟨LL7, X6, N4⟩ : ∃ LL, Stand pG l eG _ _ mG _ belowG methG cG T6 LL 1 1 ∧ Fr n0 LL := ⟨_, X6, N4⟩
  refine ob T6 (mkF mG 52 #[oa a, oi sr, oi (1 : Int32), oa wU, oi (0 : Int32)] [(.ref b6), (.ref wO)]) (fun _ kk => st6 _ kk) ?_
  obtain ⟨cq8, kq8, q8a, q8b, q8c⟩ := isOf hZ e6 (E_wO.ext O6.2)
  obtain ⟨_, _, ⟨T8, L8, k8, n8⟩, -, X8, ⟨Lc8, hQ8, l8, y8, z8⟩, st8⟩ := X6.virtualBack hx (y := (⟨"java/util/Optional", "map", "(Ljava/util/function/Function;)Ljava/util/Optional;"⟩ : MethodName)) (z := (⟨"java/util/Optional", "map", "(Ljava/util/function/Function;)Ljava/util/Optional;"⟩ : MethodName)) hown (mvT hZ (ow hw 108 rfl)) (mvT hZ (ow hw 109 rfl)) (notFace_of_selects (args := #[]) (mvT hZ (ow hw 111 rfl))) (mvT hZ (ow hw 111 rfl)) (mvT hZ (ow hw 110 rfl)) (by decide) (backOf (W := 0) (rm_mapE l Z a0 hw [] wA wD wG wU wV wN wB wC wF wE wO k_1 k_2 b6 h6 n0 O6 hS ) hZ (ow hw 112 rfl) (ow hw 67 rfl) (by decide) (by decide)) q8a q8c (g := (mkF mG 52 #[oa a, oi sr, oi (1 : Int32), oa wU, oi (0 : Int32)] [(.ref b6), (.ref wO)])) rfl (by rw [hml]; rfl) (Steps.refl _) (argsL := [(.ref b6)]) (rest := []) (lenOf pd_12 rfl) rfl (by show 2 * 0 + _ ≤ _; exact Nat.le_of_eq rfl) (hb hby d14_52) (fun _ _ => ⟨rfl, e6, (by decide : 1 + 0 ≤ _), (by decide : 1 + 0 ≤ _)⟩)
  dsimp only [Pt.U, Pt.locs, Pt.cells, Pt.slots] at X8 l8 y8 z8 st8 hQ8
  subst l8 y8 z8
  obtain ⟨rfl, N8q, e8⟩ := hQ8
  have N8 := Fr.app N4 N8q
  obtain ⟨LL9, X8, N8⟩ : ∃ LL, Stand pG l eG _ _ mG _ belowG methG cG T8 LL 1 1 ∧ Fr n0 LL := ⟨_, X8, N8⟩
  refine ob T8 (mkF mG 55 #[oa a, oi sr, oi (1 : Int32), oa wU, oi (0 : Int32)] [(.ref wO)]) (fun _ kk => st8.trans kk) ?_
  obtain ⟨fs, hr, hrun, hended, hW, hsame⟩ := X8.leave (v := some (.ref wO)) (fun h => by rw [Bd.returns] at h; cases h)
  obtain ⟨w1, w2, w3⟩ := State.Since.ended (U := T8.setFrames fs) hS0 hW (by show _ ≤ T8.heap.size; rw [e8]; exact (Nat.le_trans hk0 CS6.2.1)) hsame
  have CF := CR6.trans (CHv.at X8 hZ hEL CR6.1)
  refine oout (oretA X8 hx Bd.returns rfl rfl (hb hby d14_55) hr) hrun hended ⟨_, _, rfl, ?_, ?_, ⟨_, rfl⟩, w1, w2, w3.mono (by decide) (by decide)⟩
  · show Q_rm_ld1E_2x1 Z wA wD wG wU wV wN wB wC wF wE wO k_1 k_2 a sr pt ti xv h0 n0 _ T8.heap _
    rw [e8]
    exact ⟨rfl, N8, K6, O6⟩
  · show CHr Z oEL sG.vm sG.heap T8.vm T8.heap
    rw [hh, e8]
    exact CF

def Q_rm_ld1S_000 (Z : State) (wA wD wG wU wV wN wB wC wF wE wO : Addr) (k_1 k_2 : ClassId) (a pt : Addr) (ti xv : Int32) (u2 : Addr) (h0 : Heap) (n0 : Nat) (v : Option Value) (h : Heap) (L : List Loc) : Prop := ∃ (b0 b1 : Addr), v = some (.ref b0) ∧ Fr n0 L ∧ Keep h0 h [] ∧ Old Z n0 h ∧ n0 ≤ b0 ∧ n0 ≤ b1 ∧ h0.size ≤ b0 ∧ h0.size ≤ b1 ∧ Exa Z h b0 "java/util/Optional" ∧ Fld Z h b0 "java/util/Optional" "value" "Ljava/lang/Object;" (.ref b1) ∧ Exa Z h b1 "com/example/vorgang/vorgang/model/CallContexts" ∧ Fld Z h b1 "com/example/vorgang/vorgang/model/CallContexts" "session" "Lcom/example/vorgang/vorgang/model/ContextUse;" (.ref wN) ∧ Fld Z h b1 "com/example/vorgang/vorgang/model/CallContexts" "transaction" "Lcom/example/vorgang/vorgang/model/ContextUse;" (.ref u2)
set_option maxRecDepth 65536 in
set_option maxHeartbeats 40000000 in
theorem rm_ld1S_000 (l : Launch) (Z : State) (a0 : Array Value) (hw : ∀ d ∈ tables_1, d.before a0 Z = true) (ws : List Jvm.Cond) (wA wD wG wU wV wN wB wC wF wE wO : Addr) (k_1 k_2 : ClassId) (a pt : Addr) (ti xv : Int32) (u2 : Addr) (h0 : Heap) (n0 : Nat) (O0 : Old Z n0 h0) (hS : St0 Z wA wD wG wU wV wN wB wC wF wE wO k_1 k_2 ) (F_t : Fld Z h0 a "com/example/vorgang/vorgang/model/CallPolicy" "transactionType" "Lcom/example/vorgang/vorgang/model/Policy;" (.ref pt)) (pT : oPol wA wB wC wD wE wF wG ti pt) (rX : oRu ti (0 : Int32) = xv) (uX : oUse wN wV wU xv u2) :
    MetFree l (⟨"com/example/vorgang/vorgang/model/CallPolicy", "lambda$dispatch$1", "(ZZLcom/example/vorgang/vorgang/model/ContextUse;)Ljava/util/Optional;"⟩ : MethodName) (head1 (Jvm.Cond.code (⟨"com/example/vorgang/vorgang/model/CallPolicy", "lambda$dispatch$1", "(ZZLcom/example/vorgang/vorgang/model/ContextUse;)Ljava/util/Optional;"⟩ : MethodName) prog_10_method_8_code 5 (some (.object "java/util/Optional")) :: ws) ({ frames := 6, cells := 8, slots := 90, locals := 3080 } : Room)) (fun aG UG => aG = #[(.ref a), (.int (0 : Int32)), (.int (0 : Int32)), (.ref wN)] ∧ Z.Warmed39 UG.vm ∧ UG.heap = h0 ∧ CHv Z oEL UG.vm h0) (fun _ _ _ _ _ => True) (fun _ UG oG UG' => ∃ vG LG, oG = .returned vG ∧ Q_rm_ld1S_000 Z wA wD wG wU wV wN wB wC wF wE wO k_1 k_2 a pt ti xv u2 h0 n0 vG UG'.heap LG ∧ CHr Z oEL UG.vm UG.heap UG'.vm UG'.heap ∧ ReturnedEndW UG oG UG' LG ({ frames := 6, cells := 8, slots := 90, locals := 3080 } : Room).cells ({ frames := 6, cells := 8, slots := 90, locals := 3080 } : Room).slots) := by
  refine MetFree.of_bodySF (plainFor_of_name pn_6) hisR ?_
  intro pG eG sG mG argsG belowG methG cG s₁ Bd hml0 hP hK
  obtain ⟨rfl, hZ, hh, hC⟩ := hP
  have hx := Bd.exec
  have hby := Bd.bytes
  have hml : cG.maxLocals = 5 := hml0
  have hown : sG.vm.findClass "com/example/vorgang/vorgang/model/CallPolicy" = some mG.cls := findClass_of_methodNamed Bd.named
  have hnm := (name_of_methodNamed Bd.named Bd.method).1
  have X0 : Stand pG l eG ({ frames := 6, cells := 8, slots := 90, locals := 3080 } : Room) (sG.setVm sG.vm) mG #[(.ref a), (.int (0 : Int32)), (.int (0 : Int32)), (.ref wN)] belowG methG cG s₁ [] 0 0 := Stand.of_body Bd
  have e0 : s₁.heap = h0 := by rw [← hh, Bd.state]; rfl
  have N0 := Fr.nil n0
  have K0 := Keep.refl h0 []
  have hS0 : sG.Since sG.vm h0.size := (State.WarmedH.refl sG).since _
  have hk0 : h0.size ≤ h0.size := Nat.le_refl _
  have CR0 : CHr Z oEL sG.vm h0 sG.vm h0 := CHr.refl hC
  have hEL : EW Z a0 oEL := own_EW hw
  obtain ⟨S_wA, E_wA, S_wD, E_wD, S_wG, E_wG, S_wU, E_wU, S_wV, E_wV, S_wN, E_wN, S_wB, E_wB, S_wC, E_wC, S_wF, E_wF, S_wE, E_wE, S_wO, E_wO, F_wA_ordinal, F_wG_ordinal, F_wD_ordinal, F_wU_ordinal, F_wV_ordinal, F_wN_ordinal, F_wB_ordinal, F_wC_ordinal, F_wF_ordinal, F_wE_ordinal, F_wO_value, L_1, L_2, ne_wA_wG, ne_wA_wD, ne_wA_wB, ne_wA_wC, ne_wA_wF, ne_wA_wE, ne_wG_wD, ne_wG_wB, ne_wG_wC, ne_wG_wF, ne_wG_wE, ne_wD_wB, ne_wD_wC, ne_wD_wF, ne_wD_wE, ne_wU_wV, ne_wU_wN, ne_wV_wN, ne_wB_wC, ne_wB_wF, ne_wB_wE, ne_wC_wF, ne_wC_wE, ne_wF_wE⟩ := (id hS : St0 Z wA wD wG wU wV wN wB wC wF wE wO k_1 k_2 )
  have hZ0 := hZ
  have E_pt := own_pe hS pT
  have E_u2 := own_ue hS uX
  refine ostart (g' := (mkF mG 0 #[oa a, oi (0 : Int32), oi (0 : Int32), oa wN, .unset] [])) (by first | (simp [entryFrame, mkF, argsToLocals, Value.category]; done) | rfl) ?_
  refine ob s₁ (mkF mG 1 #[oa a, oi (0 : Int32), oi (0 : Int32), oa wN, .unset] [(.ref wN)]) (fun _ kk => XS.aloadN X0.here hx rfl (hb hby d14_0) rfl rfl kk) ?_
  obtain ⟨T1, X1, e1, st1⟩ := getS2 X0 hx hZ hown (host := "") (Or.inl (ow hw 102 rfl)) Via.refl e0 (S_wV.ext O0.2) (g := (mkF mG 1 #[oa a, oi (0 : Int32), oi (0 : Int32), oa wN, .unset] [(.ref wN)])) rfl (hb hby d14_1)
  refine ob T1 (mkF mG 4 #[oa a, oi (0 : Int32), oi (0 : Int32), oa wN, .unset] [(.ref wV), (.ref wN)]) (fun _ kk => st1 _ kk) ?_
  refine ob T1 (mkF mG 7 #[oa a, oi (0 : Int32), oi (0 : Int32), oa wN, .unset] []) (fun _ kk => Jvm.RoadKit.acmp (g := (mkF mG 4 #[oa a, oi (0 : Int32), oi (0 : Int32), oa wN, .unset] [(.ref wV), (.ref wN)])) X1 hx rfl rfl rfl (pc0 := 4) (pc' := 7) (same := false) rfl (hb hby d14_4) rfl (decide_eq_false fun q => (Ne.symm ne_wV_wN) (Value.ref.inj q)) (by decide) (by decide) kk) ?_
  refine ob T1 (mkF mG 8 #[oa a, oi (0 : Int32), oi (0 : Int32), oa wN, .unset] [(.ref wN)]) (fun _ kk => XS.aloadN X1.here hx rfl (hb hby d14_7) rfl rfl kk) ?_
  obtain ⟨T2, X2, e2, st2⟩ := getS2 X1 hx hZ hown (host := "") (Or.inl (ow hw 104 rfl)) Via.refl e1 (S_wN.ext O0.2) (g := (mkF mG 8 #[oa a, oi (0 : Int32), oi (0 : Int32), oa wN, .unset] [(.ref wN)])) rfl (hb hby d14_8)
  refine ob T2 (mkF mG 11 #[oa a, oi (0 : Int32), oi (0 : Int32), oa wN, .unset] [(.ref wN), (.ref wN)]) (fun _ kk => st2 _ kk) ?_
  refine ob T2 (mkF mG 14 #[oa a, oi (0 : Int32), oi (0 : Int32), oa wN, .unset] []) (fun _ kk => Jvm.RoadKit.acmp (g := (mkF mG 11 #[oa a, oi (0 : Int32), oi (0 : Int32), oa wN, .unset] [(.ref wN), (.ref wN)])) X2 hx rfl rfl rfl (pc0 := 11) (pc' := 14) (same := true) rfl (hb hby d14_11) rfl (decide_eq_true rfl) (by decide) (by decide) kk) ?_
  refine ob T2 (mkF mG 15 #[oa a, oi (0 : Int32), oi (0 : Int32), oa wN, .unset] [(.int (0 : Int32))]) (fun _ kk => XS.iloadN X2.here hx rfl (hb hby d14_14) rfl kk) ?_
  refine ob T2 (mkF mG 18 #[oa a, oi (0 : Int32), oi (0 : Int32), oa wN, .unset] []) (fun _ kk => XS.ifNo X2.here hx rfl (hb hby d14_15) rfl ((if0 _ _).trans (teq (by decide : (0 : Int32) = (0 : Int32))).2) kk) ?_
  refine ob T2 (mkF mG 19 #[oa a, oi (0 : Int32), oi (0 : Int32), oa wN, .unset] [(.int (1 : Int32))]) (fun _ kk => XS.iconst X2.here hx rfl (hb hby d14_18) kk) ?_
  refine ob T2 (mkF mG 23 #[oa a, oi (0 : Int32), oi (0 : Int32), oa wN, .unset] [(.int (1 : Int32))]) (fun _ kk => XS.goto X2.here hx rfl (pc0 := 19) (pc' := 23) rfl (hb hby d14_19) (by decide) (by decide) kk) ?_
  refine ob T2 (mkF mG 25 #[oa a, oi (0 : Int32), oi (0 : Int32), oa wN, oi (1 : Int32)] []) (fun _ kk => XS.istore X2.here hx rfl (hb hby d14_23) rfl (l' := #[oa a, oi (0 : Int32), oi (0 : Int32), oa wN, oi (1 : Int32)]) rfl kk) ?_
  refine ob T2 (mkF mG 26 #[oa a, oi (0 : Int32), oi (0 : Int32), oa wN, oi (1 : Int32)] [(.ref a)]) (fun _ kk => XS.aloadN X2.here hx rfl (hb hby d14_25) rfl rfl kk) ?_
  obtain ⟨T3, X3, e3, st3⟩ := getF X2 hx hZ hown (host := "") (Or.inl (ow hw 41 rfl)) Via.refl e2 F_t (g := (mkF mG 26 #[oa a, oi (0 : Int32), oi (0 : Int32), oa wN, oi (1 : Int32)] [(.ref a)])) rfl rfl (hb hby d14_26)
  refine ob T3 (mkF mG 29 #[oa a, oi (0 : Int32), oi (0 : Int32), oa wN, oi (1 : Int32)] [(.ref pt)]) (fun _ kk => st3 _ kk) ?_
  refine ob T3 (mkF mG 30 #[oa a, oi (0 : Int32), oi (0 : Int32), oa wN, oi (1 : Int32)] [(.int (0 : Int32)), (.ref pt)]) (fun _ kk => XS.iloadN X3.here hx rfl (hb hby d14_29) rfl kk) ?_
  refine ob T3 (mkF mG 42 #[oa a, oi (0 : Int32), oi (0 : Int32), oa wN, oi (1 : Int32)] [(.ref pt)]) (fun _ kk => XS.ifYes X3.here hx rfl (pc0 := 30) (pc' := 42) rfl (hb hby d14_30) rfl ((if0 _ _).trans (teq (by decide : (0 : Int32) = (0 : Int32))).1) (by decide) (by decide) kk) ?_
  refine ob T3 (mkF mG 43 #[oa a, oi (0 : Int32), oi (0 : Int32), oa wN, oi (1 : Int32)] [(.int (0 : Int32)), (.ref pt)]) (fun _ kk => XS.iconst X3.here hx rfl (hb hby d14_42) kk) ?_
  obtain ⟨cq4, kq4, q4a, q4b, q4c⟩ := isOf hZ e3 (E_pt.ext O0.2)
  obtain ⟨_, _, ⟨T4, L4, k4, n4⟩, -, X4, ⟨Lc4, hQ4, l4, y4, z4⟩, st4⟩ := X3.virtualBack hx (y := (⟨"com/example/vorgang/vorgang/model/Policy", "apply", "(Z)Ljava/util/Optional;"⟩ : MethodName)) (z := (⟨"com/example/vorgang/vorgang/model/Policy", "apply", "(Z)Ljava/util/Optional;"⟩ : MethodName)) hown (mvT hZ (ow hw 48 rfl)) (mvT hZ (ow hw 49 rfl)) (notFace_of_selects (args := #[]) (mvT hZ (ow hw 51 rfl))) (mvT hZ (ow hw 51 rfl)) (mvT hZ (ow hw 50 rfl)) (by decide) (backOf (W := 0) (rm_apS l Z a0 hw [] wA wD wG wU wV wN wB wC wF wE wO k_1 k_2 pt ti (0 : Int32) xv u2 h0 n0 O0 hS pT (Or.inl rfl) rX uX) hZ (ow hw 52 rfl) (ow hw 9 rfl) (by decide) (by decide)) q4a q4c (g := (mkF mG 43 #[oa a, oi (0 : Int32), oi (0 : Int32), oa wN, oi (1 : Int32)] [(.int (0 : Int32)), (.ref pt)])) rfl (by rw [hml]; rfl) (Steps.refl _) (argsL := [(.int (0 : Int32))]) (rest := []) (lenOf pd_11 rfl) rfl (by show 2 * 0 + _ ≤ _; exact Nat.le_of_eq rfl) (hb hby d14_43) (fun _ _ => ⟨rfl, e3, (by decide : 0 + 1 ≤ _), (by decide : 0 + 1 ≤ _)⟩)
  dsimp only [Pt.U, Pt.locs, Pt.cells, Pt.slots] at X4 l4 y4 z4 st4 hQ4
  subst l4 y4 z4
  obtain ⟨h4, e4⟩ : ∃ h, T4.heap = h := ⟨_, rfl⟩
  rw [e4] at hQ4
  obtain ⟨b0_4, rfl, N4q, K4q, O4, n_b0_4, z_b0_4, F4_0, F4_1⟩ := hQ4
  have N4 := Fr.app N0 N4q
  have sz_b0_4 : h0.size ≤ b0_4 := Nat.le_trans K0.1 z_b0_4
  have ne_a_b0_4 : a ≠ b0_4 := Nat.ne_of_lt (Nat.lt_of_lt_of_le F_t.lt z_b0_4)
  have K4 := K0.trans K4q all0
  have CS4 : CHr Z oEL sG.vm h0 sG.vm h4 := CHr.keep K4q sf0 CR0.1
  have CR4 := CR0.trans CS4
  obtain ⟨LL5, X4, N4⟩ : ∃ LL, Stand pG l eG _ _ mG _ belowG methG cG T4 LL 1 1 ∧ Fr n0 LL := ⟨_, X4, N4⟩
  refine ob T4 (mkF mG 46 #[oa a, oi (0 : Int32), oi (0 : Int32), oa wN, oi (1 : Int32)] [(.ref b0_4)]) (fun _ kk => st4.trans kk) ?_
  refine ob T4 (mkF mG 47 #[oa a, oi (0 : Int32), oi (0 : Int32), oa wN, oi (1 : Int32)] [(.ref wN), (.ref b0_4)]) (fun _ kk => XS.aloadN X4.here hx rfl (hb hby d14_46) rfl rfl kk) ?_
  have hnZ : Z.methodNamed? ox2 = some mG := (State.methodNamed?_setVm (s := Z) hZ0.alike ox2).symm.trans Bd.named
  obtain ⟨T6, h6, X6, e6, E6, A6, st6⟩ := own_mk X4 hx hZ L_2 hnZ (ow hw 81 rfl) e4 oz_t2 (vals := [(.ref wN)]) (rest := [(.ref b0_4)]) rfl own_nar2 own_fit2 (g := (mkF mG 47 #[oa a, oi (0 : Int32), oi (0 : Int32), oa wN, oi (1 : Int32)] [(.ref wN), (.ref b0_4)])) rfl (by rw [hml]; rfl) rfl (hb hby d14_47) rfl (by show 2 * 0 + 2 + 3072 ≤ _; decide) (by decide) (n := 1) rfl (by decide)
  obtain ⟨b6, g6⟩ : ∃ z, z = h4.size := ⟨_, rfl⟩
  rw [← g6] at A6 st6
  have n_b6 : n0 ≤ b6 := Nat.le_trans (on0 O4) (Nat.le_of_eq g6.symm)
  have sz_b6 : h0.size ≤ b6 := Nat.le_trans K4.1 (Nat.le_of_eq g6.symm)
  have ne_a_b6 : a ≠ b6 := Nat.ne_of_lt (Nat.lt_of_lt_of_le (F_t.keep K4q nin0).lt (Nat.le_of_eq g6.symm))
  have ne_b0_4_b6 : b0_4 ≠ b6 := Nat.ne_of_lt (Nat.lt_of_lt_of_le F4_0.lt (Nat.le_of_eq g6.symm))
  have CS6 : CHr Z oEL sG.vm h4 sG.vm h6 := CHr.ext E6 CR4.1
  have CR6 := CR4.trans CS6
  have O6 := O4.ext E6
  have K6 := K4.ext E6
  obtain ⟨LL7, X6, N4⟩ : ∃ LL, Stand pG l eG _ _ mG _ belowG methG cG T6 LL 2 2 ∧ Fr n0 LL := ⟨_, X6, N4⟩
  refine ob T6 (mkF mG 52 #[oa a, oi (0 : Int32), oi (0 : Int32), oa wN, oi (1 : Int32)] [(.ref b6), (.ref b0_4)]) (fun _ kk => st6 _ kk) ?_
  obtain ⟨cq8, kq8, q8a, q8b, q8c⟩ := isOf hZ e6 (F4_0.ext E6)
  obtain ⟨_, _, ⟨T8, L8, k8, n8⟩, -, X8, hS8, gs8, ⟨Lc8, hQ8, l8, y8, z8, CS8⟩, st8⟩ := X6.virtualBackS hx (y := (⟨"java/util/Optional", "map", "(Ljava/util/function/Function;)Ljava/util/Optional;"⟩ : MethodName)) (z := (⟨"java/util/Optional", "map", "(Ljava/util/function/Function;)Ljava/util/Optional;"⟩ : MethodName)) hown (mvT hZ (ow hw 108 rfl)) (mvT hZ (ow hw 109 rfl)) (notFace_of_selects (args := #[]) (mvT hZ (ow hw 111 rfl))) (mvT hZ (ow hw 111 rfl)) (mvT hZ (ow hw 110 rfl)) (by decide) (backOfSH (W := 0) (rm_mapS l Z a0 hw [] wA wD wG wU wV wN wB wC wF wE wO k_1 k_2 b0_4 b6 wN u2 h6 n0 O6 hS (F4_0.ext E6) (F4_1.ext E6) A6 (E_u2.ext O6.2)) hZ (ow hw 112 rfl) (ow hw 67 rfl) (by decide) (by decide) hEL CR6.1) q8a q8c (g := (mkF mG 52 #[oa a, oi (0 : Int32), oi (0 : Int32), oa wN, oi (1 : Int32)] [(.ref b6), (.ref b0_4)])) rfl (by rw [hml]; rfl) (Steps.refl _) (argsL := [(.ref b6)]) (rest := []) (lenOf pd_12 rfl) rfl (by show 2 * 0 + _ ≤ _; exact Nat.le_of_eq rfl) (hb hby d14_52) (fun _ _ => ⟨rfl, e6, (by decide : 2 + 6 ≤ _), (by decide : 2 + 83 ≤ _)⟩)
  dsimp only [Pt.U, Pt.locs, Pt.cells, Pt.slots] at X8 l8 y8 z8 st8 hQ8 hS8 gs8 CS8
  subst l8 y8 z8
  obtain ⟨X8, hS8, hZ, hown⟩ := rebS hS0 (by rw [e6]; exact (Nat.le_trans (Nat.le_trans hk0 CS4.2.1) CS6.2.1)) X8 hS8 gs8 hZ hown
  obtain ⟨h8, e8⟩ : ∃ h, T8.heap = h := ⟨_, rfl⟩
  rw [e8] at hQ8
  obtain ⟨b0_8, b1_8, rfl, N8q, K8q, O8, n_b0_8, n_b1_8, z_b0_8, z_b1_8, F8_0, F8_1, F8_2, F8_3, F8_4⟩ := hQ8
  have N8 := Fr.app N4 N8q
  have sz_b0_8 : h0.size ≤ b0_8 := Nat.le_trans K6.1 z_b0_8
  have ne_a_b0_8 : a ≠ b0_8 := Nat.ne_of_lt (Nat.lt_of_lt_of_le ((F_t.keep K4q nin0).ext E6).lt z_b0_8)
  have ne_b0_4_b0_8 : b0_4 ≠ b0_8 := Nat.ne_of_lt (Nat.lt_of_lt_of_le (F4_0.ext E6).lt z_b0_8)
  have ne_b6_b0_8 : b6 ≠ b0_8 := Nat.ne_of_lt (Nat.lt_of_lt_of_le A6.lt z_b0_8)
  have sz_b1_8 : h0.size ≤ b1_8 := Nat.le_trans K6.1 z_b1_8
  have ne_a_b1_8 : a ≠ b1_8 := Nat.ne_of_lt (Nat.lt_of_lt_of_le ((F_t.keep K4q nin0).ext E6).lt z_b1_8)
  have ne_b0_4_b1_8 : b0_4 ≠ b1_8 := Nat.ne_of_lt (Nat.lt_of_lt_of_le (F4_0.ext E6).lt z_b1_8)
  have ne_b6_b1_8 : b6 ≠ b1_8 := Nat.ne_of_lt (Nat.lt_of_lt_of_le A6.lt z_b1_8)
  have K8 := K6.trans K8q all0
  rw [e8] at CS8 hS8
  have hk8 : h8.size ≤ h8.size := Nat.le_refl _
  have CR8 := CR6.trans CS8
  obtain ⟨LL9, X8, N8⟩ : ∃ LL, Stand pG l eG _ _ mG _ belowG methG cG T8 LL 8 85 ∧ Fr n0 LL := ⟨_, X8, N8⟩
  refine ob T8 (mkF mG 55 #[oa a, oi (0 : Int32), oi (0 : Int32), oa wN, oi (1 : Int32)] [(.ref b0_8)]) (fun _ kk => st8.trans kk) ?_
  obtain ⟨fs, hr, hrun, hended, hW, hsame⟩ := X8.leave (v := some (.ref b0_8)) (fun h => by rw [Bd.returns] at h; cases h)
  obtain ⟨w1, w2, w3⟩ := State.Since.ended (U := T8.setFrames fs) hS8 hW (by show _ ≤ T8.heap.size; rw [e8]; exact hk8) hsame
  have CF := CR8.trans (CHv.at X8 hZ hEL CR8.1)
  refine oout (oretA X8 hx Bd.returns rfl rfl (hb hby d14_55) hr) hrun hended ⟨_, _, rfl, ?_, ?_, ⟨_, rfl⟩, w1, w2, w3.mono (by decide) (by decide)⟩
  · show Q_rm_ld1S_000 Z wA wD wG wU wV wN wB wC wF wE wO k_1 k_2 a pt ti xv u2 h0 n0 _ T8.heap _
    rw [e8]
    exact ⟨b0_8, b1_8, rfl, N8, K8, O8, n_b0_8, n_b1_8, sz_b0_8, sz_b1_8, F8_0, F8_1, F8_2, F8_3, F8_4⟩
  · show CHr Z oEL sG.vm sG.heap T8.vm T8.heap
    rw [hh, e8]
    exact CF

def Q_rm_ld1S_001 (Z : State) (wA wD wG wU wV wN wB wC wF wE wO : Addr) (k_1 k_2 : ClassId) (a pt : Addr) (ti xv : Int32) (u2 : Addr) (h0 : Heap) (n0 : Nat) (v : Option Value) (h : Heap) (L : List Loc) : Prop := ∃ (b0 b1 : Addr), v = some (.ref b0) ∧ Fr n0 L ∧ Keep h0 h [] ∧ Old Z n0 h ∧ n0 ≤ b0 ∧ n0 ≤ b1 ∧ h0.size ≤ b0 ∧ h0.size ≤ b1 ∧ Exa Z h b0 "java/util/Optional" ∧ Fld Z h b0 "java/util/Optional" "value" "Ljava/lang/Object;" (.ref b1) ∧ Exa Z h b1 "com/example/vorgang/vorgang/model/CallContexts" ∧ Fld Z h b1 "com/example/vorgang/vorgang/model/CallContexts" "session" "Lcom/example/vorgang/vorgang/model/ContextUse;" (.ref wN) ∧ Fld Z h b1 "com/example/vorgang/vorgang/model/CallContexts" "transaction" "Lcom/example/vorgang/vorgang/model/ContextUse;" (.ref u2)
set_option maxRecDepth 65536 in
set_option maxHeartbeats 40000000 in
theorem rm_ld1S_001 (l : Launch) (Z : State) (a0 : Array Value) (hw : ∀ d ∈ tables_1, d.before a0 Z = true) (ws : List Jvm.Cond) (wA wD wG wU wV wN wB wC wF wE wO : Addr) (k_1 k_2 : ClassId) (a pt : Addr) (ti xv : Int32) (u2 : Addr) (h0 : Heap) (n0 : Nat) (O0 : Old Z n0 h0) (hS : St0 Z wA wD wG wU wV wN wB wC wF wE wO k_1 k_2 ) (F_t : Fld Z h0 a "com/example/vorgang/vorgang/model/CallPolicy" "transactionType" "Lcom/example/vorgang/vorgang/model/Policy;" (.ref pt)) (pT : oPol wA wB wC wD wE wF wG ti pt) (rX : oRu ti (1 : Int32) = xv) (uX : oUse wN wV wU xv u2) :
    MetFree l (⟨"com/example/vorgang/vorgang/model/CallPolicy", "lambda$dispatch$1", "(ZZLcom/example/vorgang/vorgang/model/ContextUse;)Ljava/util/Optional;"⟩ : MethodName) (head1 (Jvm.Cond.code (⟨"com/example/vorgang/vorgang/model/CallPolicy", "lambda$dispatch$1", "(ZZLcom/example/vorgang/vorgang/model/ContextUse;)Ljava/util/Optional;"⟩ : MethodName) prog_10_method_8_code 5 (some (.object "java/util/Optional")) :: ws) ({ frames := 6, cells := 8, slots := 90, locals := 3080 } : Room)) (fun aG UG => aG = #[(.ref a), (.int (0 : Int32)), (.int (1 : Int32)), (.ref wN)] ∧ Z.Warmed39 UG.vm ∧ UG.heap = h0 ∧ CHv Z oEL UG.vm h0) (fun _ _ _ _ _ => True) (fun _ UG oG UG' => ∃ vG LG, oG = .returned vG ∧ Q_rm_ld1S_001 Z wA wD wG wU wV wN wB wC wF wE wO k_1 k_2 a pt ti xv u2 h0 n0 vG UG'.heap LG ∧ CHr Z oEL UG.vm UG.heap UG'.vm UG'.heap ∧ ReturnedEndW UG oG UG' LG ({ frames := 6, cells := 8, slots := 90, locals := 3080 } : Room).cells ({ frames := 6, cells := 8, slots := 90, locals := 3080 } : Room).slots) := by
  refine MetFree.of_bodySF (plainFor_of_name pn_6) hisR ?_
  intro pG eG sG mG argsG belowG methG cG s₁ Bd hml0 hP hK
  obtain ⟨rfl, hZ, hh, hC⟩ := hP
  have hx := Bd.exec
  have hby := Bd.bytes
  have hml : cG.maxLocals = 5 := hml0
  have hown : sG.vm.findClass "com/example/vorgang/vorgang/model/CallPolicy" = some mG.cls := findClass_of_methodNamed Bd.named
  have hnm := (name_of_methodNamed Bd.named Bd.method).1
  have X0 : Stand pG l eG ({ frames := 6, cells := 8, slots := 90, locals := 3080 } : Room) (sG.setVm sG.vm) mG #[(.ref a), (.int (0 : Int32)), (.int (1 : Int32)), (.ref wN)] belowG methG cG s₁ [] 0 0 := Stand.of_body Bd
  have e0 : s₁.heap = h0 := by rw [← hh, Bd.state]; rfl
  have N0 := Fr.nil n0
  have K0 := Keep.refl h0 []
  have hS0 : sG.Since sG.vm h0.size := (State.WarmedH.refl sG).since _
  have hk0 : h0.size ≤ h0.size := Nat.le_refl _
  have CR0 : CHr Z oEL sG.vm h0 sG.vm h0 := CHr.refl hC
  have hEL : EW Z a0 oEL := own_EW hw
  obtain ⟨S_wA, E_wA, S_wD, E_wD, S_wG, E_wG, S_wU, E_wU, S_wV, E_wV, S_wN, E_wN, S_wB, E_wB, S_wC, E_wC, S_wF, E_wF, S_wE, E_wE, S_wO, E_wO, F_wA_ordinal, F_wG_ordinal, F_wD_ordinal, F_wU_ordinal, F_wV_ordinal, F_wN_ordinal, F_wB_ordinal, F_wC_ordinal, F_wF_ordinal, F_wE_ordinal, F_wO_value, L_1, L_2, ne_wA_wG, ne_wA_wD, ne_wA_wB, ne_wA_wC, ne_wA_wF, ne_wA_wE, ne_wG_wD, ne_wG_wB, ne_wG_wC, ne_wG_wF, ne_wG_wE, ne_wD_wB, ne_wD_wC, ne_wD_wF, ne_wD_wE, ne_wU_wV, ne_wU_wN, ne_wV_wN, ne_wB_wC, ne_wB_wF, ne_wB_wE, ne_wC_wF, ne_wC_wE, ne_wF_wE⟩ := (id hS : St0 Z wA wD wG wU wV wN wB wC wF wE wO k_1 k_2 )
  have hZ0 := hZ
  have E_pt := own_pe hS pT
  have E_u2 := own_ue hS uX
  refine ostart (g' := (mkF mG 0 #[oa a, oi (0 : Int32), oi (1 : Int32), oa wN, .unset] [])) (by first | (simp [entryFrame, mkF, argsToLocals, Value.category]; done) | rfl) ?_
  refine ob s₁ (mkF mG 1 #[oa a, oi (0 : Int32), oi (1 : Int32), oa wN, .unset] [(.ref wN)]) (fun _ kk => XS.aloadN X0.here hx rfl (hb hby d14_0) rfl rfl kk) ?_
  obtain ⟨T1, X1, e1, st1⟩ := getS2 X0 hx hZ hown (host := "") (Or.inl (ow hw 102 rfl)) Via.refl e0 (S_wV.ext O0.2) (g := (mkF mG 1 #[oa a, oi (0 : Int32), oi (1 : Int32), oa wN, .unset] [(.ref wN)])) rfl (hb hby d14_1)
  refine ob T1 (mkF mG 4 #[oa a, oi (0 : Int32), oi (1 : Int32), oa wN, .unset] [(.ref wV), (.ref wN)]) (fun _ kk => st1 _ kk) ?_
  refine ob T1 (mkF mG 7 #[oa a, oi (0 : Int32), oi (1 : Int32), oa wN, .unset] []) (fun _ kk => Jvm.RoadKit.acmp (g := (mkF mG 4 #[oa a, oi (0 : Int32), oi (1 : Int32), oa wN, .unset] [(.ref wV), (.ref wN)])) X1 hx rfl rfl rfl (pc0 := 4) (pc' := 7) (same := false) rfl (hb hby d14_4) rfl (decide_eq_false fun q => (Ne.symm ne_wV_wN) (Value.ref.inj q)) (by decide) (by decide) kk) ?_
  refine ob T1 (mkF mG 8 #[oa a, oi (0 : Int32), oi (1 : Int32), oa wN, .unset] [(.ref wN)]) (fun _ kk => XS.aloadN X1.here hx rfl (hb hby d14_7) rfl rfl kk) ?_
  obtain ⟨T2, X2, e2, st2⟩ := getS2 X1 hx hZ hown (host := "") (Or.inl (ow hw 104 rfl)) Via.refl e1 (S_wN.ext O0.2) (g := (mkF mG 8 #[oa a, oi (0 : Int32), oi (1 : Int32), oa wN, .unset] [(.ref wN)])) rfl (hb hby d14_8)
  refine ob T2 (mkF mG 11 #[oa a, oi (0 : Int32), oi (1 : Int32), oa wN, .unset] [(.ref wN), (.ref wN)]) (fun _ kk => st2 _ kk) ?_
  refine ob T2 (mkF mG 14 #[oa a, oi (0 : Int32), oi (1 : Int32), oa wN, .unset] []) (fun _ kk => Jvm.RoadKit.acmp (g := (mkF mG 11 #[oa a, oi (0 : Int32), oi (1 : Int32), oa wN, .unset] [(.ref wN), (.ref wN)])) X2 hx rfl rfl rfl (pc0 := 11) (pc' := 14) (same := true) rfl (hb hby d14_11) rfl (decide_eq_true rfl) (by decide) (by decide) kk) ?_
  refine ob T2 (mkF mG 15 #[oa a, oi (0 : Int32), oi (1 : Int32), oa wN, .unset] [(.int (0 : Int32))]) (fun _ kk => XS.iloadN X2.here hx rfl (hb hby d14_14) rfl kk) ?_
  refine ob T2 (mkF mG 18 #[oa a, oi (0 : Int32), oi (1 : Int32), oa wN, .unset] []) (fun _ kk => XS.ifNo X2.here hx rfl (hb hby d14_15) rfl ((if0 _ _).trans (teq (by decide : (0 : Int32) = (0 : Int32))).2) kk) ?_
  refine ob T2 (mkF mG 19 #[oa a, oi (0 : Int32), oi (1 : Int32), oa wN, .unset] [(.int (1 : Int32))]) (fun _ kk => XS.iconst X2.here hx rfl (hb hby d14_18) kk) ?_
  refine ob T2 (mkF mG 23 #[oa a, oi (0 : Int32), oi (1 : Int32), oa wN, .unset] [(.int (1 : Int32))]) (fun _ kk => XS.goto X2.here hx rfl (pc0 := 19) (pc' := 23) rfl (hb hby d14_19) (by decide) (by decide) kk) ?_
  refine ob T2 (mkF mG 25 #[oa a, oi (0 : Int32), oi (1 : Int32), oa wN, oi (1 : Int32)] []) (fun _ kk => XS.istore X2.here hx rfl (hb hby d14_23) rfl (l' := #[oa a, oi (0 : Int32), oi (1 : Int32), oa wN, oi (1 : Int32)]) rfl kk) ?_
  refine ob T2 (mkF mG 26 #[oa a, oi (0 : Int32), oi (1 : Int32), oa wN, oi (1 : Int32)] [(.ref a)]) (fun _ kk => XS.aloadN X2.here hx rfl (hb hby d14_25) rfl rfl kk) ?_
  obtain ⟨T3, X3, e3, st3⟩ := getF X2 hx hZ hown (host := "") (Or.inl (ow hw 41 rfl)) Via.refl e2 F_t (g := (mkF mG 26 #[oa a, oi (0 : Int32), oi (1 : Int32), oa wN, oi (1 : Int32)] [(.ref a)])) rfl rfl (hb hby d14_26)
  refine ob T3 (mkF mG 29 #[oa a, oi (0 : Int32), oi (1 : Int32), oa wN, oi (1 : Int32)] [(.ref pt)]) (fun _ kk => st3 _ kk) ?_
  refine ob T3 (mkF mG 30 #[oa a, oi (0 : Int32), oi (1 : Int32), oa wN, oi (1 : Int32)] [(.int (1 : Int32)), (.ref pt)]) (fun _ kk => XS.iloadN X3.here hx rfl (hb hby d14_29) rfl kk) ?_
  refine ob T3 (mkF mG 33 #[oa a, oi (0 : Int32), oi (1 : Int32), oa wN, oi (1 : Int32)] [(.ref pt)]) (fun _ kk => XS.ifNo X3.here hx rfl (hb hby d14_30) rfl ((if0 _ _).trans (feq (by decide : ¬ ((1 : Int32) = (0 : Int32)))).1) kk) ?_
  refine ob T3 (mkF mG 35 #[oa a, oi (0 : Int32), oi (1 : Int32), oa wN, oi (1 : Int32)] [(.int (1 : Int32)), (.ref pt)]) (fun _ kk => XS.iload X3.here hx rfl (hb hby d14_33) rfl kk) ?_
  refine ob T3 (mkF mG 38 #[oa a, oi (0 : Int32), oi (1 : Int32), oa wN, oi (1 : Int32)] [(.ref pt)]) (fun _ kk => XS.ifNo X3.here hx rfl (hb hby d14_35) rfl ((if0 _ _).trans (feq (by decide : ¬ ((1 : Int32) = (0 : Int32)))).1) kk) ?_
  refine ob T3 (mkF mG 39 #[oa a, oi (0 : Int32), oi (1 : Int32), oa wN, oi (1 : Int32)] [(.int (1 : Int32)), (.ref pt)]) (fun _ kk => XS.iconst X3.here hx rfl (hb hby d14_38) kk) ?_
  refine ob T3 (mkF mG 43 #[oa a, oi (0 : Int32), oi (1 : Int32), oa wN, oi (1 : Int32)] [(.int (1 : Int32)), (.ref pt)]) (fun _ kk => XS.goto X3.here hx rfl (pc0 := 39) (pc' := 43) rfl (hb hby d14_39) (by decide) (by decide) kk) ?_
  obtain ⟨cq4, kq4, q4a, q4b, q4c⟩ := isOf hZ e3 (E_pt.ext O0.2)
  obtain ⟨_, _, ⟨T4, L4, k4, n4⟩, -, X4, ⟨Lc4, hQ4, l4, y4, z4⟩, st4⟩ := X3.virtualBack hx (y := (⟨"com/example/vorgang/vorgang/model/Policy", "apply", "(Z)Ljava/util/Optional;"⟩ : MethodName)) (z := (⟨"com/example/vorgang/vorgang/model/Policy", "apply", "(Z)Ljava/util/Optional;"⟩ : MethodName)) hown (mvT hZ (ow hw 48 rfl)) (mvT hZ (ow hw 49 rfl)) (notFace_of_selects (args := #[]) (mvT hZ (ow hw 51 rfl))) (mvT hZ (ow hw 51 rfl)) (mvT hZ (ow hw 50 rfl)) (by decide) (backOf (W := 0) (rm_apS l Z a0 hw [] wA wD wG wU wV wN wB wC wF wE wO k_1 k_2 pt ti (1 : Int32) xv u2 h0 n0 O0 hS pT (Or.inr rfl) rX uX) hZ (ow hw 52 rfl) (ow hw 9 rfl) (by decide) (by decide)) q4a q4c (g := (mkF mG 43 #[oa a, oi (0 : Int32), oi (1 : Int32), oa wN, oi (1 : Int32)] [(.int (1 : Int32)), (.ref pt)])) rfl (by rw [hml]; rfl) (Steps.refl _) (argsL := [(.int (1 : Int32))]) (rest := []) (lenOf pd_11 rfl) rfl (by show 2 * 0 + _ ≤ _; exact Nat.le_of_eq rfl) (hb hby d14_43) (fun _ _ => ⟨rfl, e3, (by decide : 0 + 1 ≤ _), (by decide : 0 + 1 ≤ _)⟩)
  dsimp only [Pt.U, Pt.locs, Pt.cells, Pt.slots] at X4 l4 y4 z4 st4 hQ4
  subst l4 y4 z4
  obtain ⟨h4, e4⟩ : ∃ h, T4.heap = h := ⟨_, rfl⟩
  rw [e4] at hQ4
  obtain ⟨b0_4, rfl, N4q, K4q, O4, n_b0_4, z_b0_4, F4_0, F4_1⟩ := hQ4
  have N4 := Fr.app N0 N4q
  have sz_b0_4 : h0.size ≤ b0_4 := Nat.le_trans K0.1 z_b0_4
  have ne_a_b0_4 : a ≠ b0_4 := Nat.ne_of_lt (Nat.lt_of_lt_of_le F_t.lt z_b0_4)
  have K4 := K0.trans K4q all0
  have CS4 : CHr Z oEL sG.vm h0 sG.vm h4 := CHr.keep K4q sf0 CR0.1
  have CR4 := CR0.trans CS4
  obtain ⟨LL5, X4, N4⟩ : ∃ LL, Stand pG l eG _ _ mG _ belowG methG cG T4 LL 1 1 ∧ Fr n0 LL := ⟨_, X4, N4⟩
  refine ob T4 (mkF mG 46 #[oa a, oi (0 : Int32), oi (1 : Int32), oa wN, oi (1 : Int32)] [(.ref b0_4)]) (fun _ kk => st4.trans kk) ?_
  refine ob T4 (mkF mG 47 #[oa a, oi (0 : Int32), oi (1 : Int32), oa wN, oi (1 : Int32)] [(.ref wN), (.ref b0_4)]) (fun _ kk => XS.aloadN X4.here hx rfl (hb hby d14_46) rfl rfl kk) ?_
  have hnZ : Z.methodNamed? ox2 = some mG := (State.methodNamed?_setVm (s := Z) hZ0.alike ox2).symm.trans Bd.named
  obtain ⟨T6, h6, X6, e6, E6, A6, st6⟩ := own_mk X4 hx hZ L_2 hnZ (ow hw 81 rfl) e4 oz_t2 (vals := [(.ref wN)]) (rest := [(.ref b0_4)]) rfl own_nar2 own_fit2 (g := (mkF mG 47 #[oa a, oi (0 : Int32), oi (1 : Int32), oa wN, oi (1 : Int32)] [(.ref wN), (.ref b0_4)])) rfl (by rw [hml]; rfl) rfl (hb hby d14_47) rfl (by show 2 * 0 + 2 + 3072 ≤ _; decide) (by decide) (n := 1) rfl (by decide)
  obtain ⟨b6, g6⟩ : ∃ z, z = h4.size := ⟨_, rfl⟩
  rw [← g6] at A6 st6
  have n_b6 : n0 ≤ b6 := Nat.le_trans (on0 O4) (Nat.le_of_eq g6.symm)
  have sz_b6 : h0.size ≤ b6 := Nat.le_trans K4.1 (Nat.le_of_eq g6.symm)
  have ne_a_b6 : a ≠ b6 := Nat.ne_of_lt (Nat.lt_of_lt_of_le (F_t.keep K4q nin0).lt (Nat.le_of_eq g6.symm))
  have ne_b0_4_b6 : b0_4 ≠ b6 := Nat.ne_of_lt (Nat.lt_of_lt_of_le F4_0.lt (Nat.le_of_eq g6.symm))
  have CS6 : CHr Z oEL sG.vm h4 sG.vm h6 := CHr.ext E6 CR4.1
  have CR6 := CR4.trans CS6
  have O6 := O4.ext E6
  have K6 := K4.ext E6
  obtain ⟨LL7, X6, N4⟩ : ∃ LL, Stand pG l eG _ _ mG _ belowG methG cG T6 LL 2 2 ∧ Fr n0 LL := ⟨_, X6, N4⟩
  refine ob T6 (mkF mG 52 #[oa a, oi (0 : Int32), oi (1 : Int32), oa wN, oi (1 : Int32)] [(.ref b6), (.ref b0_4)]) (fun _ kk => st6 _ kk) ?_
  obtain ⟨cq8, kq8, q8a, q8b, q8c⟩ := isOf hZ e6 (F4_0.ext E6)
  obtain ⟨_, _, ⟨T8, L8, k8, n8⟩, -, X8, hS8, gs8, ⟨Lc8, hQ8, l8, y8, z8, CS8⟩, st8⟩ := X6.virtualBackS hx (y := (⟨"java/util/Optional", "map", "(Ljava/util/function/Function;)Ljava/util/Optional;"⟩ : MethodName)) (z := (⟨"java/util/Optional", "map", "(Ljava/util/function/Function;)Ljava/util/Optional;"⟩ : MethodName)) hown (mvT hZ (ow hw 108 rfl)) (mvT hZ (ow hw 109 rfl)) (notFace_of_selects (args := #[]) (mvT hZ (ow hw 111 rfl))) (mvT hZ (ow hw 111 rfl)) (mvT hZ (ow hw 110 rfl)) (by decide) (backOfSH (W := 0) (rm_mapS l Z a0 hw [] wA wD wG wU wV wN wB wC wF wE wO k_1 k_2 b0_4 b6 wN u2 h6 n0 O6 hS (F4_0.ext E6) (F4_1.ext E6) A6 (E_u2.ext O6.2)) hZ (ow hw 112 rfl) (ow hw 67 rfl) (by decide) (by decide) hEL CR6.1) q8a q8c (g := (mkF mG 52 #[oa a, oi (0 : Int32), oi (1 : Int32), oa wN, oi (1 : Int32)] [(.ref b6), (.ref b0_4)])) rfl (by rw [hml]; rfl) (Steps.refl _) (argsL := [(.ref b6)]) (rest := []) (lenOf pd_12 rfl) rfl (by show 2 * 0 + _ ≤ _; exact Nat.le_of_eq rfl) (hb hby d14_52) (fun _ _ => ⟨rfl, e6, (by decide : 2 + 6 ≤ _), (by decide : 2 + 83 ≤ _)⟩)
  dsimp only [Pt.U, Pt.locs, Pt.cells, Pt.slots] at X8 l8 y8 z8 st8 hQ8 hS8 gs8 CS8
  subst l8 y8 z8
  obtain ⟨X8, hS8, hZ, hown⟩ := rebS hS0 (by rw [e6]; exact (Nat.le_trans (Nat.le_trans hk0 CS4.2.1) CS6.2.1)) X8 hS8 gs8 hZ hown
  obtain ⟨h8, e8⟩ : ∃ h, T8.heap = h := ⟨_, rfl⟩
  rw [e8] at hQ8
  obtain ⟨b0_8, b1_8, rfl, N8q, K8q, O8, n_b0_8, n_b1_8, z_b0_8, z_b1_8, F8_0, F8_1, F8_2, F8_3, F8_4⟩ := hQ8
  have N8 := Fr.app N4 N8q
  have sz_b0_8 : h0.size ≤ b0_8 := Nat.le_trans K6.1 z_b0_8
  have ne_a_b0_8 : a ≠ b0_8 := Nat.ne_of_lt (Nat.lt_of_lt_of_le ((F_t.keep K4q nin0).ext E6).lt z_b0_8)
  have ne_b0_4_b0_8 : b0_4 ≠ b0_8 := Nat.ne_of_lt (Nat.lt_of_lt_of_le (F4_0.ext E6).lt z_b0_8)
  have ne_b6_b0_8 : b6 ≠ b0_8 := Nat.ne_of_lt (Nat.lt_of_lt_of_le A6.lt z_b0_8)
  have sz_b1_8 : h0.size ≤ b1_8 := Nat.le_trans K6.1 z_b1_8
  have ne_a_b1_8 : a ≠ b1_8 := Nat.ne_of_lt (Nat.lt_of_lt_of_le ((F_t.keep K4q nin0).ext E6).lt z_b1_8)
  have ne_b0_4_b1_8 : b0_4 ≠ b1_8 := Nat.ne_of_lt (Nat.lt_of_lt_of_le (F4_0.ext E6).lt z_b1_8)
  have ne_b6_b1_8 : b6 ≠ b1_8 := Nat.ne_of_lt (Nat.lt_of_lt_of_le A6.lt z_b1_8)
  have K8 := K6.trans K8q all0
  rw [e8] at CS8 hS8
  have hk8 : h8.size ≤ h8.size := Nat.le_refl _
  have CR8 := CR6.trans CS8
  obtain ⟨LL9, X8, N8⟩ : ∃ LL, Stand pG l eG _ _ mG _ belowG methG cG T8 LL 8 85 ∧ Fr n0 LL := ⟨_, X8, N8⟩
  refine ob T8 (mkF mG 55 #[oa a, oi (0 : Int32), oi (1 : Int32), oa wN, oi (1 : Int32)] [(.ref b0_8)]) (fun _ kk => st8.trans kk) ?_
  obtain ⟨fs, hr, hrun, hended, hW, hsame⟩ := X8.leave (v := some (.ref b0_8)) (fun h => by rw [Bd.returns] at h; cases h)
  obtain ⟨w1, w2, w3⟩ := State.Since.ended (U := T8.setFrames fs) hS8 hW (by show _ ≤ T8.heap.size; rw [e8]; exact hk8) hsame
  have CF := CR8.trans (CHv.at X8 hZ hEL CR8.1)
  refine oout (oretA X8 hx Bd.returns rfl rfl (hb hby d14_55) hr) hrun hended ⟨_, _, rfl, ?_, ?_, ⟨_, rfl⟩, w1, w2, w3.mono (by decide) (by decide)⟩
  · show Q_rm_ld1S_001 Z wA wD wG wU wV wN wB wC wF wE wO k_1 k_2 a pt ti xv u2 h0 n0 _ T8.heap _
    rw [e8]
    exact ⟨b0_8, b1_8, rfl, N8, K8, O8, n_b0_8, n_b1_8, sz_b0_8, sz_b1_8, F8_0, F8_1, F8_2, F8_3, F8_4⟩
  · show CHr Z oEL sG.vm sG.heap T8.vm T8.heap
    rw [hh, e8]
    exact CF

def Q_rm_ld1S_010 (Z : State) (wA wD wG wU wV wN wB wC wF wE wO : Addr) (k_1 k_2 : ClassId) (a pt : Addr) (ti xv : Int32) (u2 : Addr) (h0 : Heap) (n0 : Nat) (v : Option Value) (h : Heap) (L : List Loc) : Prop := ∃ (b0 b1 : Addr), v = some (.ref b0) ∧ Fr n0 L ∧ Keep h0 h [] ∧ Old Z n0 h ∧ n0 ≤ b0 ∧ n0 ≤ b1 ∧ h0.size ≤ b0 ∧ h0.size ≤ b1 ∧ Exa Z h b0 "java/util/Optional" ∧ Fld Z h b0 "java/util/Optional" "value" "Ljava/lang/Object;" (.ref b1) ∧ Exa Z h b1 "com/example/vorgang/vorgang/model/CallContexts" ∧ Fld Z h b1 "com/example/vorgang/vorgang/model/CallContexts" "session" "Lcom/example/vorgang/vorgang/model/ContextUse;" (.ref wN) ∧ Fld Z h b1 "com/example/vorgang/vorgang/model/CallContexts" "transaction" "Lcom/example/vorgang/vorgang/model/ContextUse;" (.ref u2)
set_option maxRecDepth 65536 in
set_option maxHeartbeats 40000000 in
theorem rm_ld1S_010 (l : Launch) (Z : State) (a0 : Array Value) (hw : ∀ d ∈ tables_1, d.before a0 Z = true) (ws : List Jvm.Cond) (wA wD wG wU wV wN wB wC wF wE wO : Addr) (k_1 k_2 : ClassId) (a pt : Addr) (ti xv : Int32) (u2 : Addr) (h0 : Heap) (n0 : Nat) (O0 : Old Z n0 h0) (hS : St0 Z wA wD wG wU wV wN wB wC wF wE wO k_1 k_2 ) (F_t : Fld Z h0 a "com/example/vorgang/vorgang/model/CallPolicy" "transactionType" "Lcom/example/vorgang/vorgang/model/Policy;" (.ref pt)) (pT : oPol wA wB wC wD wE wF wG ti pt) (rX : oRu ti (0 : Int32) = xv) (uX : oUse wN wV wU xv u2) :
    MetFree l (⟨"com/example/vorgang/vorgang/model/CallPolicy", "lambda$dispatch$1", "(ZZLcom/example/vorgang/vorgang/model/ContextUse;)Ljava/util/Optional;"⟩ : MethodName) (head1 (Jvm.Cond.code (⟨"com/example/vorgang/vorgang/model/CallPolicy", "lambda$dispatch$1", "(ZZLcom/example/vorgang/vorgang/model/ContextUse;)Ljava/util/Optional;"⟩ : MethodName) prog_10_method_8_code 5 (some (.object "java/util/Optional")) :: ws) ({ frames := 6, cells := 8, slots := 90, locals := 3080 } : Room)) (fun aG UG => aG = #[(.ref a), (.int (1 : Int32)), (.int (0 : Int32)), (.ref wN)] ∧ Z.Warmed39 UG.vm ∧ UG.heap = h0 ∧ CHv Z oEL UG.vm h0) (fun _ _ _ _ _ => True) (fun _ UG oG UG' => ∃ vG LG, oG = .returned vG ∧ Q_rm_ld1S_010 Z wA wD wG wU wV wN wB wC wF wE wO k_1 k_2 a pt ti xv u2 h0 n0 vG UG'.heap LG ∧ CHr Z oEL UG.vm UG.heap UG'.vm UG'.heap ∧ ReturnedEndW UG oG UG' LG ({ frames := 6, cells := 8, slots := 90, locals := 3080 } : Room).cells ({ frames := 6, cells := 8, slots := 90, locals := 3080 } : Room).slots) := by
  refine MetFree.of_bodySF (plainFor_of_name pn_6) hisR ?_
  intro pG eG sG mG argsG belowG methG cG s₁ Bd hml0 hP hK
  obtain ⟨rfl, hZ, hh, hC⟩ := hP
  have hx := Bd.exec
  have hby := Bd.bytes
  have hml : cG.maxLocals = 5 := hml0
  have hown : sG.vm.findClass "com/example/vorgang/vorgang/model/CallPolicy" = some mG.cls := findClass_of_methodNamed Bd.named
  have hnm := (name_of_methodNamed Bd.named Bd.method).1
  have X0 : Stand pG l eG ({ frames := 6, cells := 8, slots := 90, locals := 3080 } : Room) (sG.setVm sG.vm) mG #[(.ref a), (.int (1 : Int32)), (.int (0 : Int32)), (.ref wN)] belowG methG cG s₁ [] 0 0 := Stand.of_body Bd
  have e0 : s₁.heap = h0 := by rw [← hh, Bd.state]; rfl
  have N0 := Fr.nil n0
  have K0 := Keep.refl h0 []
  have hS0 : sG.Since sG.vm h0.size := (State.WarmedH.refl sG).since _
  have hk0 : h0.size ≤ h0.size := Nat.le_refl _
  have CR0 : CHr Z oEL sG.vm h0 sG.vm h0 := CHr.refl hC
  have hEL : EW Z a0 oEL := own_EW hw
  obtain ⟨S_wA, E_wA, S_wD, E_wD, S_wG, E_wG, S_wU, E_wU, S_wV, E_wV, S_wN, E_wN, S_wB, E_wB, S_wC, E_wC, S_wF, E_wF, S_wE, E_wE, S_wO, E_wO, F_wA_ordinal, F_wG_ordinal, F_wD_ordinal, F_wU_ordinal, F_wV_ordinal, F_wN_ordinal, F_wB_ordinal, F_wC_ordinal, F_wF_ordinal, F_wE_ordinal, F_wO_value, L_1, L_2, ne_wA_wG, ne_wA_wD, ne_wA_wB, ne_wA_wC, ne_wA_wF, ne_wA_wE, ne_wG_wD, ne_wG_wB, ne_wG_wC, ne_wG_wF, ne_wG_wE, ne_wD_wB, ne_wD_wC, ne_wD_wF, ne_wD_wE, ne_wU_wV, ne_wU_wN, ne_wV_wN, ne_wB_wC, ne_wB_wF, ne_wB_wE, ne_wC_wF, ne_wC_wE, ne_wF_wE⟩ := (id hS : St0 Z wA wD wG wU wV wN wB wC wF wE wO k_1 k_2 )
  have hZ0 := hZ
  have E_pt := own_pe hS pT
  have E_u2 := own_ue hS uX
  refine ostart (g' := (mkF mG 0 #[oa a, oi (1 : Int32), oi (0 : Int32), oa wN, .unset] [])) (by first | (simp [entryFrame, mkF, argsToLocals, Value.category]; done) | rfl) ?_
  refine ob s₁ (mkF mG 1 #[oa a, oi (1 : Int32), oi (0 : Int32), oa wN, .unset] [(.ref wN)]) (fun _ kk => XS.aloadN X0.here hx rfl (hb hby d14_0) rfl rfl kk) ?_
  obtain ⟨T1, X1, e1, st1⟩ := getS2 X0 hx hZ hown (host := "") (Or.inl (ow hw 102 rfl)) Via.refl e0 (S_wV.ext O0.2) (g := (mkF mG 1 #[oa a, oi (1 : Int32), oi (0 : Int32), oa wN, .unset] [(.ref wN)])) rfl (hb hby d14_1)
  refine ob T1 (mkF mG 4 #[oa a, oi (1 : Int32), oi (0 : Int32), oa wN, .unset] [(.ref wV), (.ref wN)]) (fun _ kk => st1 _ kk) ?_
  refine ob T1 (mkF mG 7 #[oa a, oi (1 : Int32), oi (0 : Int32), oa wN, .unset] []) (fun _ kk => Jvm.RoadKit.acmp (g := (mkF mG 4 #[oa a, oi (1 : Int32), oi (0 : Int32), oa wN, .unset] [(.ref wV), (.ref wN)])) X1 hx rfl rfl rfl (pc0 := 4) (pc' := 7) (same := false) rfl (hb hby d14_4) rfl (decide_eq_false fun q => (Ne.symm ne_wV_wN) (Value.ref.inj q)) (by decide) (by decide) kk) ?_
  refine ob T1 (mkF mG 8 #[oa a, oi (1 : Int32), oi (0 : Int32), oa wN, .unset] [(.ref wN)]) (fun _ kk => XS.aloadN X1.here hx rfl (hb hby d14_7) rfl rfl kk) ?_
  obtain ⟨T2, X2, e2, st2⟩ := getS2 X1 hx hZ hown (host := "") (Or.inl (ow hw 104 rfl)) Via.refl e1 (S_wN.ext O0.2) (g := (mkF mG 8 #[oa a, oi (1 : Int32), oi (0 : Int32), oa wN, .unset] [(.ref wN)])) rfl (hb hby d14_8)
  refine ob T2 (mkF mG 11 #[oa a, oi (1 : Int32), oi (0 : Int32), oa wN, .unset] [(.ref wN), (.ref wN)]) (fun _ kk => st2 _ kk) ?_
  refine ob T2 (mkF mG 14 #[oa a, oi (1 : Int32), oi (0 : Int32), oa wN, .unset] []) (fun _ kk => Jvm.RoadKit.acmp (g := (mkF mG 11 #[oa a, oi (1 : Int32), oi (0 : Int32), oa wN, .unset] [(.ref wN), (.ref wN)])) X2 hx rfl rfl rfl (pc0 := 11) (pc' := 14) (same := true) rfl (hb hby d14_11) rfl (decide_eq_true rfl) (by decide) (by decide) kk) ?_
  refine ob T2 (mkF mG 15 #[oa a, oi (1 : Int32), oi (0 : Int32), oa wN, .unset] [(.int (1 : Int32))]) (fun _ kk => XS.iloadN X2.here hx rfl (hb hby d14_14) rfl kk) ?_
  refine ob T2 (mkF mG 22 #[oa a, oi (1 : Int32), oi (0 : Int32), oa wN, .unset] []) (fun _ kk => XS.ifYes X2.here hx rfl (pc0 := 15) (pc' := 22) rfl (hb hby d14_15) rfl ((if0 _ _).trans (feq (by decide : ¬ ((1 : Int32) = (0 : Int32)))).2) (by decide) (by decide) kk) ?_
  refine ob T2 (mkF mG 23 #[oa a, oi (1 : Int32), oi (0 : Int32), oa wN, .unset] [(.int (0 : Int32))]) (fun _ kk => XS.iconst X2.here hx rfl (hb hby d14_22) kk) ?_
  refine ob T2 (mkF mG 25 #[oa a, oi (1 : Int32), oi (0 : Int32), oa wN, oi (0 : Int32)] []) (fun _ kk => XS.istore X2.here hx rfl (hb hby d14_23) rfl (l' := #[oa a, oi (1 : Int32), oi (0 : Int32), oa wN, oi (0 : Int32)]) rfl kk) ?_
  refine ob T2 (mkF mG 26 #[oa a, oi (1 : Int32), oi (0 : Int32), oa wN, oi (0 : Int32)] [(.ref a)]) (fun _ kk => XS.aloadN X2.here hx rfl (hb hby d14_25) rfl rfl kk) ?_
  obtain ⟨T3, X3, e3, st3⟩ := getF X2 hx hZ hown (host := "") (Or.inl (ow hw 41 rfl)) Via.refl e2 F_t (g := (mkF mG 26 #[oa a, oi (1 : Int32), oi (0 : Int32), oa wN, oi (0 : Int32)] [(.ref a)])) rfl rfl (hb hby d14_26)
  refine ob T3 (mkF mG 29 #[oa a, oi (1 : Int32), oi (0 : Int32), oa wN, oi (0 : Int32)] [(.ref pt)]) (fun _ kk => st3 _ kk) ?_
  refine ob T3 (mkF mG 30 #[oa a, oi (1 : Int32), oi (0 : Int32), oa wN, oi (0 : Int32)] [(.int (0 : Int32)), (.ref pt)]) (fun _ kk => XS.iloadN X3.here hx rfl (hb hby d14_29) rfl kk) ?_
  refine ob T3 (mkF mG 42 #[oa a, oi (1 : Int32), oi (0 : Int32), oa wN, oi (0 : Int32)] [(.ref pt)]) (fun _ kk => XS.ifYes X3.here hx rfl (pc0 := 30) (pc' := 42) rfl (hb hby d14_30) rfl ((if0 _ _).trans (teq (by decide : (0 : Int32) = (0 : Int32))).1) (by decide) (by decide) kk) ?_
  refine ob T3 (mkF mG 43 #[oa a, oi (1 : Int32), oi (0 : Int32), oa wN, oi (0 : Int32)] [(.int (0 : Int32)), (.ref pt)]) (fun _ kk => XS.iconst X3.here hx rfl (hb hby d14_42) kk) ?_
  obtain ⟨cq4, kq4, q4a, q4b, q4c⟩ := isOf hZ e3 (E_pt.ext O0.2)
  obtain ⟨_, _, ⟨T4, L4, k4, n4⟩, -, X4, ⟨Lc4, hQ4, l4, y4, z4⟩, st4⟩ := X3.virtualBack hx (y := (⟨"com/example/vorgang/vorgang/model/Policy", "apply", "(Z)Ljava/util/Optional;"⟩ : MethodName)) (z := (⟨"com/example/vorgang/vorgang/model/Policy", "apply", "(Z)Ljava/util/Optional;"⟩ : MethodName)) hown (mvT hZ (ow hw 48 rfl)) (mvT hZ (ow hw 49 rfl)) (notFace_of_selects (args := #[]) (mvT hZ (ow hw 51 rfl))) (mvT hZ (ow hw 51 rfl)) (mvT hZ (ow hw 50 rfl)) (by decide) (backOf (W := 0) (rm_apS l Z a0 hw [] wA wD wG wU wV wN wB wC wF wE wO k_1 k_2 pt ti (0 : Int32) xv u2 h0 n0 O0 hS pT (Or.inl rfl) rX uX) hZ (ow hw 52 rfl) (ow hw 9 rfl) (by decide) (by decide)) q4a q4c (g := (mkF mG 43 #[oa a, oi (1 : Int32), oi (0 : Int32), oa wN, oi (0 : Int32)] [(.int (0 : Int32)), (.ref pt)])) rfl (by rw [hml]; rfl) (Steps.refl _) (argsL := [(.int (0 : Int32))]) (rest := []) (lenOf pd_11 rfl) rfl (by show 2 * 0 + _ ≤ _; exact Nat.le_of_eq rfl) (hb hby d14_43) (fun _ _ => ⟨rfl, e3, (by decide : 0 + 1 ≤ _), (by decide : 0 + 1 ≤ _)⟩)
  dsimp only [Pt.U, Pt.locs, Pt.cells, Pt.slots] at X4 l4 y4 z4 st4 hQ4
  subst l4 y4 z4
  obtain ⟨h4, e4⟩ : ∃ h, T4.heap = h := ⟨_, rfl⟩
  rw [e4] at hQ4
  obtain ⟨b0_4, rfl, N4q, K4q, O4, n_b0_4, z_b0_4, F4_0, F4_1⟩ := hQ4
  have N4 := Fr.app N0 N4q
  have sz_b0_4 : h0.size ≤ b0_4 := Nat.le_trans K0.1 z_b0_4
  have ne_a_b0_4 : a ≠ b0_4 := Nat.ne_of_lt (Nat.lt_of_lt_of_le F_t.lt z_b0_4)
  have K4 := K0.trans K4q all0
  have CS4 : CHr Z oEL sG.vm h0 sG.vm h4 := CHr.keep K4q sf0 CR0.1
  have CR4 := CR0.trans CS4
  obtain ⟨LL5, X4, N4⟩ : ∃ LL, Stand pG l eG _ _ mG _ belowG methG cG T4 LL 1 1 ∧ Fr n0 LL := ⟨_, X4, N4⟩
  refine ob T4 (mkF mG 46 #[oa a, oi (1 : Int32), oi (0 : Int32), oa wN, oi (0 : Int32)] [(.ref b0_4)]) (fun _ kk => st4.trans kk) ?_
  refine ob T4 (mkF mG 47 #[oa a, oi (1 : Int32), oi (0 : Int32), oa wN, oi (0 : Int32)] [(.ref wN), (.ref b0_4)]) (fun _ kk => XS.aloadN X4.here hx rfl (hb hby d14_46) rfl rfl kk) ?_
  have hnZ : Z.methodNamed? ox2 = some mG := (State.methodNamed?_setVm (s := Z) hZ0.alike ox2).symm.trans Bd.named
  obtain ⟨T6, h6, X6, e6, E6, A6, st6⟩ := own_mk X4 hx hZ L_2 hnZ (ow hw 81 rfl) e4 oz_t2 (vals := [(.ref wN)]) (rest := [(.ref b0_4)]) rfl own_nar2 own_fit2 (g := (mkF mG 47 #[oa a, oi (1 : Int32), oi (0 : Int32), oa wN, oi (0 : Int32)] [(.ref wN), (.ref b0_4)])) rfl (by rw [hml]; rfl) rfl (hb hby d14_47) rfl (by show 2 * 0 + 2 + 3072 ≤ _; decide) (by decide) (n := 1) rfl (by decide)
  obtain ⟨b6, g6⟩ : ∃ z, z = h4.size := ⟨_, rfl⟩
  rw [← g6] at A6 st6
  have n_b6 : n0 ≤ b6 := Nat.le_trans (on0 O4) (Nat.le_of_eq g6.symm)
  have sz_b6 : h0.size ≤ b6 := Nat.le_trans K4.1 (Nat.le_of_eq g6.symm)
  have ne_a_b6 : a ≠ b6 := Nat.ne_of_lt (Nat.lt_of_lt_of_le (F_t.keep K4q nin0).lt (Nat.le_of_eq g6.symm))
  have ne_b0_4_b6 : b0_4 ≠ b6 := Nat.ne_of_lt (Nat.lt_of_lt_of_le F4_0.lt (Nat.le_of_eq g6.symm))
  have CS6 : CHr Z oEL sG.vm h4 sG.vm h6 := CHr.ext E6 CR4.1
  have CR6 := CR4.trans CS6
  have O6 := O4.ext E6
  have K6 := K4.ext E6
  obtain ⟨LL7, X6, N4⟩ : ∃ LL, Stand pG l eG _ _ mG _ belowG methG cG T6 LL 2 2 ∧ Fr n0 LL := ⟨_, X6, N4⟩
  refine ob T6 (mkF mG 52 #[oa a, oi (1 : Int32), oi (0 : Int32), oa wN, oi (0 : Int32)] [(.ref b6), (.ref b0_4)]) (fun _ kk => st6 _ kk) ?_
  obtain ⟨cq8, kq8, q8a, q8b, q8c⟩ := isOf hZ e6 (F4_0.ext E6)
  obtain ⟨_, _, ⟨T8, L8, k8, n8⟩, -, X8, hS8, gs8, ⟨Lc8, hQ8, l8, y8, z8, CS8⟩, st8⟩ := X6.virtualBackS hx (y := (⟨"java/util/Optional", "map", "(Ljava/util/function/Function;)Ljava/util/Optional;"⟩ : MethodName)) (z := (⟨"java/util/Optional", "map", "(Ljava/util/function/Function;)Ljava/util/Optional;"⟩ : MethodName)) hown (mvT hZ (ow hw 108 rfl)) (mvT hZ (ow hw 109 rfl)) (notFace_of_selects (args := #[]) (mvT hZ (ow hw 111 rfl))) (mvT hZ (ow hw 111 rfl)) (mvT hZ (ow hw 110 rfl)) (by decide) (backOfSH (W := 0) (rm_mapS l Z a0 hw [] wA wD wG wU wV wN wB wC wF wE wO k_1 k_2 b0_4 b6 wN u2 h6 n0 O6 hS (F4_0.ext E6) (F4_1.ext E6) A6 (E_u2.ext O6.2)) hZ (ow hw 112 rfl) (ow hw 67 rfl) (by decide) (by decide) hEL CR6.1) q8a q8c (g := (mkF mG 52 #[oa a, oi (1 : Int32), oi (0 : Int32), oa wN, oi (0 : Int32)] [(.ref b6), (.ref b0_4)])) rfl (by rw [hml]; rfl) (Steps.refl _) (argsL := [(.ref b6)]) (rest := []) (lenOf pd_12 rfl) rfl (by show 2 * 0 + _ ≤ _; exact Nat.le_of_eq rfl) (hb hby d14_52) (fun _ _ => ⟨rfl, e6, (by decide : 2 + 6 ≤ _), (by decide : 2 + 83 ≤ _)⟩)
  dsimp only [Pt.U, Pt.locs, Pt.cells, Pt.slots] at X8 l8 y8 z8 st8 hQ8 hS8 gs8 CS8
  subst l8 y8 z8
  obtain ⟨X8, hS8, hZ, hown⟩ := rebS hS0 (by rw [e6]; exact (Nat.le_trans (Nat.le_trans hk0 CS4.2.1) CS6.2.1)) X8 hS8 gs8 hZ hown
  obtain ⟨h8, e8⟩ : ∃ h, T8.heap = h := ⟨_, rfl⟩
  rw [e8] at hQ8
  obtain ⟨b0_8, b1_8, rfl, N8q, K8q, O8, n_b0_8, n_b1_8, z_b0_8, z_b1_8, F8_0, F8_1, F8_2, F8_3, F8_4⟩ := hQ8
  have N8 := Fr.app N4 N8q
  have sz_b0_8 : h0.size ≤ b0_8 := Nat.le_trans K6.1 z_b0_8
  have ne_a_b0_8 : a ≠ b0_8 := Nat.ne_of_lt (Nat.lt_of_lt_of_le ((F_t.keep K4q nin0).ext E6).lt z_b0_8)
  have ne_b0_4_b0_8 : b0_4 ≠ b0_8 := Nat.ne_of_lt (Nat.lt_of_lt_of_le (F4_0.ext E6).lt z_b0_8)
  have ne_b6_b0_8 : b6 ≠ b0_8 := Nat.ne_of_lt (Nat.lt_of_lt_of_le A6.lt z_b0_8)
  have sz_b1_8 : h0.size ≤ b1_8 := Nat.le_trans K6.1 z_b1_8
  have ne_a_b1_8 : a ≠ b1_8 := Nat.ne_of_lt (Nat.lt_of_lt_of_le ((F_t.keep K4q nin0).ext E6).lt z_b1_8)
  have ne_b0_4_b1_8 : b0_4 ≠ b1_8 := Nat.ne_of_lt (Nat.lt_of_lt_of_le (F4_0.ext E6).lt z_b1_8)
  have ne_b6_b1_8 : b6 ≠ b1_8 := Nat.ne_of_lt (Nat.lt_of_lt_of_le A6.lt z_b1_8)
  have K8 := K6.trans K8q all0
  rw [e8] at CS8 hS8
  have hk8 : h8.size ≤ h8.size := Nat.le_refl _
  have CR8 := CR6.trans CS8
  obtain ⟨LL9, X8, N8⟩ : ∃ LL, Stand pG l eG _ _ mG _ belowG methG cG T8 LL 8 85 ∧ Fr n0 LL := ⟨_, X8, N8⟩
  refine ob T8 (mkF mG 55 #[oa a, oi (1 : Int32), oi (0 : Int32), oa wN, oi (0 : Int32)] [(.ref b0_8)]) (fun _ kk => st8.trans kk) ?_
  obtain ⟨fs, hr, hrun, hended, hW, hsame⟩ := X8.leave (v := some (.ref b0_8)) (fun h => by rw [Bd.returns] at h; cases h)
  obtain ⟨w1, w2, w3⟩ := State.Since.ended (U := T8.setFrames fs) hS8 hW (by show _ ≤ T8.heap.size; rw [e8]; exact hk8) hsame
  have CF := CR8.trans (CHv.at X8 hZ hEL CR8.1)
  refine oout (oretA X8 hx Bd.returns rfl rfl (hb hby d14_55) hr) hrun hended ⟨_, _, rfl, ?_, ?_, ⟨_, rfl⟩, w1, w2, w3.mono (by decide) (by decide)⟩
  · show Q_rm_ld1S_010 Z wA wD wG wU wV wN wB wC wF wE wO k_1 k_2 a pt ti xv u2 h0 n0 _ T8.heap _
    rw [e8]
    exact ⟨b0_8, b1_8, rfl, N8, K8, O8, n_b0_8, n_b1_8, sz_b0_8, sz_b1_8, F8_0, F8_1, F8_2, F8_3, F8_4⟩
  · show CHr Z oEL sG.vm sG.heap T8.vm T8.heap
    rw [hh, e8]
    exact CF

def Q_rm_ld1S_011 (Z : State) (wA wD wG wU wV wN wB wC wF wE wO : Addr) (k_1 k_2 : ClassId) (a pt : Addr) (ti xv : Int32) (u2 : Addr) (h0 : Heap) (n0 : Nat) (v : Option Value) (h : Heap) (L : List Loc) : Prop := ∃ (b0 b1 : Addr), v = some (.ref b0) ∧ Fr n0 L ∧ Keep h0 h [] ∧ Old Z n0 h ∧ n0 ≤ b0 ∧ n0 ≤ b1 ∧ h0.size ≤ b0 ∧ h0.size ≤ b1 ∧ Exa Z h b0 "java/util/Optional" ∧ Fld Z h b0 "java/util/Optional" "value" "Ljava/lang/Object;" (.ref b1) ∧ Exa Z h b1 "com/example/vorgang/vorgang/model/CallContexts" ∧ Fld Z h b1 "com/example/vorgang/vorgang/model/CallContexts" "session" "Lcom/example/vorgang/vorgang/model/ContextUse;" (.ref wN) ∧ Fld Z h b1 "com/example/vorgang/vorgang/model/CallContexts" "transaction" "Lcom/example/vorgang/vorgang/model/ContextUse;" (.ref u2)
set_option maxRecDepth 65536 in
set_option maxHeartbeats 40000000 in
theorem rm_ld1S_011 (l : Launch) (Z : State) (a0 : Array Value) (hw : ∀ d ∈ tables_1, d.before a0 Z = true) (ws : List Jvm.Cond) (wA wD wG wU wV wN wB wC wF wE wO : Addr) (k_1 k_2 : ClassId) (a pt : Addr) (ti xv : Int32) (u2 : Addr) (h0 : Heap) (n0 : Nat) (O0 : Old Z n0 h0) (hS : St0 Z wA wD wG wU wV wN wB wC wF wE wO k_1 k_2 ) (F_t : Fld Z h0 a "com/example/vorgang/vorgang/model/CallPolicy" "transactionType" "Lcom/example/vorgang/vorgang/model/Policy;" (.ref pt)) (pT : oPol wA wB wC wD wE wF wG ti pt) (rX : oRu ti (0 : Int32) = xv) (uX : oUse wN wV wU xv u2) :
    MetFree l (⟨"com/example/vorgang/vorgang/model/CallPolicy", "lambda$dispatch$1", "(ZZLcom/example/vorgang/vorgang/model/ContextUse;)Ljava/util/Optional;"⟩ : MethodName) (head1 (Jvm.Cond.code (⟨"com/example/vorgang/vorgang/model/CallPolicy", "lambda$dispatch$1", "(ZZLcom/example/vorgang/vorgang/model/ContextUse;)Ljava/util/Optional;"⟩ : MethodName) prog_10_method_8_code 5 (some (.object "java/util/Optional")) :: ws) ({ frames := 6, cells := 8, slots := 90, locals := 3080 } : Room)) (fun aG UG => aG = #[(.ref a), (.int (1 : Int32)), (.int (1 : Int32)), (.ref wN)] ∧ Z.Warmed39 UG.vm ∧ UG.heap = h0 ∧ CHv Z oEL UG.vm h0) (fun _ _ _ _ _ => True) (fun _ UG oG UG' => ∃ vG LG, oG = .returned vG ∧ Q_rm_ld1S_011 Z wA wD wG wU wV wN wB wC wF wE wO k_1 k_2 a pt ti xv u2 h0 n0 vG UG'.heap LG ∧ CHr Z oEL UG.vm UG.heap UG'.vm UG'.heap ∧ ReturnedEndW UG oG UG' LG ({ frames := 6, cells := 8, slots := 90, locals := 3080 } : Room).cells ({ frames := 6, cells := 8, slots := 90, locals := 3080 } : Room).slots) := by
  refine MetFree.of_bodySF (plainFor_of_name pn_6) hisR ?_
  intro pG eG sG mG argsG belowG methG cG s₁ Bd hml0 hP hK
  obtain ⟨rfl, hZ, hh, hC⟩ := hP
  have hx := Bd.exec
  have hby := Bd.bytes
  have hml : cG.maxLocals = 5 := hml0
  have hown : sG.vm.findClass "com/example/vorgang/vorgang/model/CallPolicy" = some mG.cls := findClass_of_methodNamed Bd.named
  have hnm := (name_of_methodNamed Bd.named Bd.method).1
  have X0 : Stand pG l eG ({ frames := 6, cells := 8, slots := 90, locals := 3080 } : Room) (sG.setVm sG.vm) mG #[(.ref a), (.int (1 : Int32)), (.int (1 : Int32)), (.ref wN)] belowG methG cG s₁ [] 0 0 := Stand.of_body Bd
  have e0 : s₁.heap = h0 := by rw [← hh, Bd.state]; rfl
  have N0 := Fr.nil n0
  have K0 := Keep.refl h0 []
  have hS0 : sG.Since sG.vm h0.size := (State.WarmedH.refl sG).since _
  have hk0 : h0.size ≤ h0.size := Nat.le_refl _
  have CR0 : CHr Z oEL sG.vm h0 sG.vm h0 := CHr.refl hC
  have hEL : EW Z a0 oEL := own_EW hw
  obtain ⟨S_wA, E_wA, S_wD, E_wD, S_wG, E_wG, S_wU, E_wU, S_wV, E_wV, S_wN, E_wN, S_wB, E_wB, S_wC, E_wC, S_wF, E_wF, S_wE, E_wE, S_wO, E_wO, F_wA_ordinal, F_wG_ordinal, F_wD_ordinal, F_wU_ordinal, F_wV_ordinal, F_wN_ordinal, F_wB_ordinal, F_wC_ordinal, F_wF_ordinal, F_wE_ordinal, F_wO_value, L_1, L_2, ne_wA_wG, ne_wA_wD, ne_wA_wB, ne_wA_wC, ne_wA_wF, ne_wA_wE, ne_wG_wD, ne_wG_wB, ne_wG_wC, ne_wG_wF, ne_wG_wE, ne_wD_wB, ne_wD_wC, ne_wD_wF, ne_wD_wE, ne_wU_wV, ne_wU_wN, ne_wV_wN, ne_wB_wC, ne_wB_wF, ne_wB_wE, ne_wC_wF, ne_wC_wE, ne_wF_wE⟩ := (id hS : St0 Z wA wD wG wU wV wN wB wC wF wE wO k_1 k_2 )
  have hZ0 := hZ
  have E_pt := own_pe hS pT
  have E_u2 := own_ue hS uX
  refine ostart (g' := (mkF mG 0 #[oa a, oi (1 : Int32), oi (1 : Int32), oa wN, .unset] [])) (by first | (simp [entryFrame, mkF, argsToLocals, Value.category]; done) | rfl) ?_
  refine ob s₁ (mkF mG 1 #[oa a, oi (1 : Int32), oi (1 : Int32), oa wN, .unset] [(.ref wN)]) (fun _ kk => XS.aloadN X0.here hx rfl (hb hby d14_0) rfl rfl kk) ?_
  obtain ⟨T1, X1, e1, st1⟩ := getS2 X0 hx hZ hown (host := "") (Or.inl (ow hw 102 rfl)) Via.refl e0 (S_wV.ext O0.2) (g := (mkF mG 1 #[oa a, oi (1 : Int32), oi (1 : Int32), oa wN, .unset] [(.ref wN)])) rfl (hb hby d14_1)
  refine ob T1 (mkF mG 4 #[oa a, oi (1 : Int32), oi (1 : Int32), oa wN, .unset] [(.ref wV), (.ref wN)]) (fun _ kk => st1 _ kk) ?_
  refine ob T1 (mkF mG 7 #[oa a, oi (1 : Int32), oi (1 : Int32), oa wN, .unset] []) (fun _ kk => Jvm.RoadKit.acmp (g := (mkF mG 4 #[oa a, oi (1 : Int32), oi (1 : Int32), oa wN, .unset] [(.ref wV), (.ref wN)])) X1 hx rfl rfl rfl (pc0 := 4) (pc' := 7) (same := false) rfl (hb hby d14_4) rfl (decide_eq_false fun q => (Ne.symm ne_wV_wN) (Value.ref.inj q)) (by decide) (by decide) kk) ?_
  refine ob T1 (mkF mG 8 #[oa a, oi (1 : Int32), oi (1 : Int32), oa wN, .unset] [(.ref wN)]) (fun _ kk => XS.aloadN X1.here hx rfl (hb hby d14_7) rfl rfl kk) ?_
  obtain ⟨T2, X2, e2, st2⟩ := getS2 X1 hx hZ hown (host := "") (Or.inl (ow hw 104 rfl)) Via.refl e1 (S_wN.ext O0.2) (g := (mkF mG 8 #[oa a, oi (1 : Int32), oi (1 : Int32), oa wN, .unset] [(.ref wN)])) rfl (hb hby d14_8)
  refine ob T2 (mkF mG 11 #[oa a, oi (1 : Int32), oi (1 : Int32), oa wN, .unset] [(.ref wN), (.ref wN)]) (fun _ kk => st2 _ kk) ?_
  refine ob T2 (mkF mG 14 #[oa a, oi (1 : Int32), oi (1 : Int32), oa wN, .unset] []) (fun _ kk => Jvm.RoadKit.acmp (g := (mkF mG 11 #[oa a, oi (1 : Int32), oi (1 : Int32), oa wN, .unset] [(.ref wN), (.ref wN)])) X2 hx rfl rfl rfl (pc0 := 11) (pc' := 14) (same := true) rfl (hb hby d14_11) rfl (decide_eq_true rfl) (by decide) (by decide) kk) ?_
  refine ob T2 (mkF mG 15 #[oa a, oi (1 : Int32), oi (1 : Int32), oa wN, .unset] [(.int (1 : Int32))]) (fun _ kk => XS.iloadN X2.here hx rfl (hb hby d14_14) rfl kk) ?_
  refine ob T2 (mkF mG 22 #[oa a, oi (1 : Int32), oi (1 : Int32), oa wN, .unset] []) (fun _ kk => XS.ifYes X2.here hx rfl (pc0 := 15) (pc' := 22) rfl (hb hby d14_15) rfl ((if0 _ _).trans (feq (by decide : ¬ ((1 : Int32) = (0 : Int32)))).2) (by decide) (by decide) kk) ?_
  refine ob T2 (mkF mG 23 #[oa a, oi (1 : Int32), oi (1 : Int32), oa wN, .unset] [(.int (0 : Int32))]) (fun _ kk => XS.iconst X2.here hx rfl (hb hby d14_22) kk) ?_
  refine ob T2 (mkF mG 25 #[oa a, oi (1 : Int32), oi (1 : Int32), oa wN, oi (0 : Int32)] []) (fun _ kk => XS.istore X2.here hx rfl (hb hby d14_23) rfl (l' := #[oa a, oi (1 : Int32), oi (1 : Int32), oa wN, oi (0 : Int32)]) rfl kk) ?_
  refine ob T2 (mkF mG 26 #[oa a, oi (1 : Int32), oi (1 : Int32), oa wN, oi (0 : Int32)] [(.ref a)]) (fun _ kk => XS.aloadN X2.here hx rfl (hb hby d14_25) rfl rfl kk) ?_
  obtain ⟨T3, X3, e3, st3⟩ := getF X2 hx hZ hown (host := "") (Or.inl (ow hw 41 rfl)) Via.refl e2 F_t (g := (mkF mG 26 #[oa a, oi (1 : Int32), oi (1 : Int32), oa wN, oi (0 : Int32)] [(.ref a)])) rfl rfl (hb hby d14_26)
  refine ob T3 (mkF mG 29 #[oa a, oi (1 : Int32), oi (1 : Int32), oa wN, oi (0 : Int32)] [(.ref pt)]) (fun _ kk => st3 _ kk) ?_
  refine ob T3 (mkF mG 30 #[oa a, oi (1 : Int32), oi (1 : Int32), oa wN, oi (0 : Int32)] [(.int (1 : Int32)), (.ref pt)]) (fun _ kk => XS.iloadN X3.here hx rfl (hb hby d14_29) rfl kk) ?_
  refine ob T3 (mkF mG 33 #[oa a, oi (1 : Int32), oi (1 : Int32), oa wN, oi (0 : Int32)] [(.ref pt)]) (fun _ kk => XS.ifNo X3.here hx rfl (hb hby d14_30) rfl ((if0 _ _).trans (feq (by decide : ¬ ((1 : Int32) = (0 : Int32)))).1) kk) ?_
  refine ob T3 (mkF mG 35 #[oa a, oi (1 : Int32), oi (1 : Int32), oa wN, oi (0 : Int32)] [(.int (0 : Int32)), (.ref pt)]) (fun _ kk => XS.iload X3.here hx rfl (hb hby d14_33) rfl kk) ?_
  refine ob T3 (mkF mG 42 #[oa a, oi (1 : Int32), oi (1 : Int32), oa wN, oi (0 : Int32)] [(.ref pt)]) (fun _ kk => XS.ifYes X3.here hx rfl (pc0 := 35) (pc' := 42) rfl (hb hby d14_35) rfl ((if0 _ _).trans (teq (by decide : (0 : Int32) = (0 : Int32))).1) (by decide) (by decide) kk) ?_
  refine ob T3 (mkF mG 43 #[oa a, oi (1 : Int32), oi (1 : Int32), oa wN, oi (0 : Int32)] [(.int (0 : Int32)), (.ref pt)]) (fun _ kk => XS.iconst X3.here hx rfl (hb hby d14_42) kk) ?_
  obtain ⟨cq4, kq4, q4a, q4b, q4c⟩ := isOf hZ e3 (E_pt.ext O0.2)
  obtain ⟨_, _, ⟨T4, L4, k4, n4⟩, -, X4, ⟨Lc4, hQ4, l4, y4, z4⟩, st4⟩ := X3.virtualBack hx (y := (⟨"com/example/vorgang/vorgang/model/Policy", "apply", "(Z)Ljava/util/Optional;"⟩ : MethodName)) (z := (⟨"com/example/vorgang/vorgang/model/Policy", "apply", "(Z)Ljava/util/Optional;"⟩ : MethodName)) hown (mvT hZ (ow hw 48 rfl)) (mvT hZ (ow hw 49 rfl)) (notFace_of_selects (args := #[]) (mvT hZ (ow hw 51 rfl))) (mvT hZ (ow hw 51 rfl)) (mvT hZ (ow hw 50 rfl)) (by decide) (backOf (W := 0) (rm_apS l Z a0 hw [] wA wD wG wU wV wN wB wC wF wE wO k_1 k_2 pt ti (0 : Int32) xv u2 h0 n0 O0 hS pT (Or.inl rfl) rX uX) hZ (ow hw 52 rfl) (ow hw 9 rfl) (by decide) (by decide)) q4a q4c (g := (mkF mG 43 #[oa a, oi (1 : Int32), oi (1 : Int32), oa wN, oi (0 : Int32)] [(.int (0 : Int32)), (.ref pt)])) rfl (by rw [hml]; rfl) (Steps.refl _) (argsL := [(.int (0 : Int32))]) (rest := []) (lenOf pd_11 rfl) rfl (by show 2 * 0 + _ ≤ _; exact Nat.le_of_eq rfl) (hb hby d14_43) (fun _ _ => ⟨rfl, e3, (by decide : 0 + 1 ≤ _), (by decide : 0 + 1 ≤ _)⟩)
  dsimp only [Pt.U, Pt.locs, Pt.cells, Pt.slots] at X4 l4 y4 z4 st4 hQ4
  subst l4 y4 z4
  obtain ⟨h4, e4⟩ : ∃ h, T4.heap = h := ⟨_, rfl⟩
  rw [e4] at hQ4
  obtain ⟨b0_4, rfl, N4q, K4q, O4, n_b0_4, z_b0_4, F4_0, F4_1⟩ := hQ4
  have N4 := Fr.app N0 N4q
  have sz_b0_4 : h0.size ≤ b0_4 := Nat.le_trans K0.1 z_b0_4
  have ne_a_b0_4 : a ≠ b0_4 := Nat.ne_of_lt (Nat.lt_of_lt_of_le F_t.lt z_b0_4)
  have K4 := K0.trans K4q all0
  have CS4 : CHr Z oEL sG.vm h0 sG.vm h4 := CHr.keep K4q sf0 CR0.1
  have CR4 := CR0.trans CS4
  obtain ⟨LL5, X4, N4⟩ : ∃ LL, Stand pG l eG _ _ mG _ belowG methG cG T4 LL 1 1 ∧ Fr n0 LL := ⟨_, X4, N4⟩
  refine ob T4 (mkF mG 46 #[oa a, oi (1 : Int32), oi (1 : Int32), oa wN, oi (0 : Int32)] [(.ref b0_4)]) (fun _ kk => st4.trans kk) ?_
  refine ob T4 (mkF mG 47 #[oa a, oi (1 : Int32), oi (1 : Int32), oa wN, oi (0 : Int32)] [(.ref wN), (.ref b0_4)]) (fun _ kk => XS.aloadN X4.here hx rfl (hb hby d14_46) rfl rfl kk) ?_
  have hnZ : Z.methodNamed? ox2 = some mG := (State.methodNamed?_setVm (s := Z) hZ0.alike ox2).symm.trans Bd.named
  obtain ⟨T6, h6, X6, e6, E6, A6, st6⟩ := own_mk X4 hx hZ L_2 hnZ (ow hw 81 rfl) e4 oz_t2 (vals := [(.ref wN)]) (rest := [(.ref b0_4)]) rfl own_nar2 own_fit2 (g := (mkF mG 47 #[oa a, oi (1 : Int32), oi (1 : Int32), oa wN, oi (0 : Int32)] [(.ref wN), (.ref b0_4)])) rfl (by rw [hml]; rfl) rfl (hb hby d14_47) rfl (by show 2 * 0 + 2 + 3072 ≤ _; decide) (by decide) (n := 1) rfl (by decide)
  obtain ⟨b6, g6⟩ : ∃ z, z = h4.size := ⟨_, rfl⟩
  rw [← g6] at A6 st6
  have n_b6 : n0 ≤ b6 := Nat.le_trans (on0 O4) (Nat.le_of_eq g6.symm)
  have sz_b6 : h0.size ≤ b6 := Nat.le_trans K4.1 (Nat.le_of_eq g6.symm)
  have ne_a_b6 : a ≠ b6 := Nat.ne_of_lt (Nat.lt_of_lt_of_le (F_t.keep K4q nin0).lt (Nat.le_of_eq g6.symm))
  have ne_b0_4_b6 : b0_4 ≠ b6 := Nat.ne_of_lt (Nat.lt_of_lt_of_le F4_0.lt (Nat.le_of_eq g6.symm))
  have CS6 : CHr Z oEL sG.vm h4 sG.vm h6 := CHr.ext E6 CR4.1
  have CR6 := CR4.trans CS6
  have O6 := O4.ext E6
  have K6 := K4.ext E6
  obtain ⟨LL7, X6, N4⟩ : ∃ LL, Stand pG l eG _ _ mG _ belowG methG cG T6 LL 2 2 ∧ Fr n0 LL := ⟨_, X6, N4⟩
  refine ob T6 (mkF mG 52 #[oa a, oi (1 : Int32), oi (1 : Int32), oa wN, oi (0 : Int32)] [(.ref b6), (.ref b0_4)]) (fun _ kk => st6 _ kk) ?_
  obtain ⟨cq8, kq8, q8a, q8b, q8c⟩ := isOf hZ e6 (F4_0.ext E6)
  obtain ⟨_, _, ⟨T8, L8, k8, n8⟩, -, X8, hS8, gs8, ⟨Lc8, hQ8, l8, y8, z8, CS8⟩, st8⟩ := X6.virtualBackS hx (y := (⟨"java/util/Optional", "map", "(Ljava/util/function/Function;)Ljava/util/Optional;"⟩ : MethodName)) (z := (⟨"java/util/Optional", "map", "(Ljava/util/function/Function;)Ljava/util/Optional;"⟩ : MethodName)) hown (mvT hZ (ow hw 108 rfl)) (mvT hZ (ow hw 109 rfl)) (notFace_of_selects (args := #[]) (mvT hZ (ow hw 111 rfl))) (mvT hZ (ow hw 111 rfl)) (mvT hZ (ow hw 110 rfl)) (by decide) (backOfSH (W := 0) (rm_mapS l Z a0 hw [] wA wD wG wU wV wN wB wC wF wE wO k_1 k_2 b0_4 b6 wN u2 h6 n0 O6 hS (F4_0.ext E6) (F4_1.ext E6) A6 (E_u2.ext O6.2)) hZ (ow hw 112 rfl) (ow hw 67 rfl) (by decide) (by decide) hEL CR6.1) q8a q8c (g := (mkF mG 52 #[oa a, oi (1 : Int32), oi (1 : Int32), oa wN, oi (0 : Int32)] [(.ref b6), (.ref b0_4)])) rfl (by rw [hml]; rfl) (Steps.refl _) (argsL := [(.ref b6)]) (rest := []) (lenOf pd_12 rfl) rfl (by show 2 * 0 + _ ≤ _; exact Nat.le_of_eq rfl) (hb hby d14_52) (fun _ _ => ⟨rfl, e6, (by decide : 2 + 6 ≤ _), (by decide : 2 + 83 ≤ _)⟩)
  dsimp only [Pt.U, Pt.locs, Pt.cells, Pt.slots] at X8 l8 y8 z8 st8 hQ8 hS8 gs8 CS8
  subst l8 y8 z8
  obtain ⟨X8, hS8, hZ, hown⟩ := rebS hS0 (by rw [e6]; exact (Nat.le_trans (Nat.le_trans hk0 CS4.2.1) CS6.2.1)) X8 hS8 gs8 hZ hown
  obtain ⟨h8, e8⟩ : ∃ h, T8.heap = h := ⟨_, rfl⟩
  rw [e8] at hQ8
  obtain ⟨b0_8, b1_8, rfl, N8q, K8q, O8, n_b0_8, n_b1_8, z_b0_8, z_b1_8, F8_0, F8_1, F8_2, F8_3, F8_4⟩ := hQ8
  have N8 := Fr.app N4 N8q
  have sz_b0_8 : h0.size ≤ b0_8 := Nat.le_trans K6.1 z_b0_8
  have ne_a_b0_8 : a ≠ b0_8 := Nat.ne_of_lt (Nat.lt_of_lt_of_le ((F_t.keep K4q nin0).ext E6).lt z_b0_8)
  have ne_b0_4_b0_8 : b0_4 ≠ b0_8 := Nat.ne_of_lt (Nat.lt_of_lt_of_le (F4_0.ext E6).lt z_b0_8)
  have ne_b6_b0_8 : b6 ≠ b0_8 := Nat.ne_of_lt (Nat.lt_of_lt_of_le A6.lt z_b0_8)
  have sz_b1_8 : h0.size ≤ b1_8 := Nat.le_trans K6.1 z_b1_8
  have ne_a_b1_8 : a ≠ b1_8 := Nat.ne_of_lt (Nat.lt_of_lt_of_le ((F_t.keep K4q nin0).ext E6).lt z_b1_8)
  have ne_b0_4_b1_8 : b0_4 ≠ b1_8 := Nat.ne_of_lt (Nat.lt_of_lt_of_le (F4_0.ext E6).lt z_b1_8)
  have ne_b6_b1_8 : b6 ≠ b1_8 := Nat.ne_of_lt (Nat.lt_of_lt_of_le A6.lt z_b1_8)
  have K8 := K6.trans K8q all0
  rw [e8] at CS8 hS8
  have hk8 : h8.size ≤ h8.size := Nat.le_refl _
  have CR8 := CR6.trans CS8
  obtain ⟨LL9, X8, N8⟩ : ∃ LL, Stand pG l eG _ _ mG _ belowG methG cG T8 LL 8 85 ∧ Fr n0 LL := ⟨_, X8, N8⟩
  refine ob T8 (mkF mG 55 #[oa a, oi (1 : Int32), oi (1 : Int32), oa wN, oi (0 : Int32)] [(.ref b0_8)]) (fun _ kk => st8.trans kk) ?_
  obtain ⟨fs, hr, hrun, hended, hW, hsame⟩ := X8.leave (v := some (.ref b0_8)) (fun h => by rw [Bd.returns] at h; cases h)
  obtain ⟨w1, w2, w3⟩ := State.Since.ended (U := T8.setFrames fs) hS8 hW (by show _ ≤ T8.heap.size; rw [e8]; exact hk8) hsame
  have CF := CR8.trans (CHv.at X8 hZ hEL CR8.1)
  refine oout (oretA X8 hx Bd.returns rfl rfl (hb hby d14_55) hr) hrun hended ⟨_, _, rfl, ?_, ?_, ⟨_, rfl⟩, w1, w2, w3.mono (by decide) (by decide)⟩
  · show Q_rm_ld1S_011 Z wA wD wG wU wV wN wB wC wF wE wO k_1 k_2 a pt ti xv u2 h0 n0 _ T8.heap _
    rw [e8]
    exact ⟨b0_8, b1_8, rfl, N8, K8, O8, n_b0_8, n_b1_8, sz_b0_8, sz_b1_8, F8_0, F8_1, F8_2, F8_3, F8_4⟩
  · show CHr Z oEL sG.vm sG.heap T8.vm T8.heap
    rw [hh, e8]
    exact CF

def Q_rm_ld1S_1x0 (Z : State) (wA wD wG wU wV wN wB wC wF wE wO : Addr) (k_1 k_2 : ClassId) (a : Addr) (sr : Int32) (pt : Addr) (ti xv : Int32) (u2 : Addr) (h0 : Heap) (n0 : Nat) (v : Option Value) (h : Heap) (L : List Loc) : Prop := ∃ (b0 b1 : Addr), v = some (.ref b0) ∧ Fr n0 L ∧ Keep h0 h [] ∧ Old Z n0 h ∧ n0 ≤ b0 ∧ n0 ≤ b1 ∧ h0.size ≤ b0 ∧ h0.size ≤ b1 ∧ Exa Z h b0 "java/util/Optional" ∧ Fld Z h b0 "java/util/Optional" "value" "Ljava/lang/Object;" (.ref b1) ∧ Exa Z h b1 "com/example/vorgang/vorgang/model/CallContexts" ∧ Fld Z h b1 "com/example/vorgang/vorgang/model/CallContexts" "session" "Lcom/example/vorgang/vorgang/model/ContextUse;" (.ref wV) ∧ Fld Z h b1 "com/example/vorgang/vorgang/model/CallContexts" "transaction" "Lcom/example/vorgang/vorgang/model/ContextUse;" (.ref u2)
set_option maxRecDepth 65536 in
set_option maxHeartbeats 40000000 in
theorem rm_ld1S_1x0 (l : Launch) (Z : State) (a0 : Array Value) (hw : ∀ d ∈ tables_1, d.before a0 Z = true) (ws : List Jvm.Cond) (wA wD wG wU wV wN wB wC wF wE wO : Addr) (k_1 k_2 : ClassId) (a : Addr) (sr : Int32) (pt : Addr) (ti xv : Int32) (u2 : Addr) (h0 : Heap) (n0 : Nat) (O0 : Old Z n0 h0) (hS : St0 Z wA wD wG wU wV wN wB wC wF wE wO k_1 k_2 ) (F_t : Fld Z h0 a "com/example/vorgang/vorgang/model/CallPolicy" "transactionType" "Lcom/example/vorgang/vorgang/model/Policy;" (.ref pt)) (pT : oPol wA wB wC wD wE wF wG ti pt) (rX : oRu ti (0 : Int32) = xv) (uX : oUse wN wV wU xv u2) :
    MetFree l (⟨"com/example/vorgang/vorgang/model/CallPolicy", "lambda$dispatch$1", "(ZZLcom/example/vorgang/vorgang/model/ContextUse;)Ljava/util/Optional;"⟩ : MethodName) (head1 (Jvm.Cond.code (⟨"com/example/vorgang/vorgang/model/CallPolicy", "lambda$dispatch$1", "(ZZLcom/example/vorgang/vorgang/model/ContextUse;)Ljava/util/Optional;"⟩ : MethodName) prog_10_method_8_code 5 (some (.object "java/util/Optional")) :: ws) ({ frames := 6, cells := 8, slots := 90, locals := 3080 } : Room)) (fun aG UG => aG = #[(.ref a), (.int sr), (.int (0 : Int32)), (.ref wV)] ∧ Z.Warmed39 UG.vm ∧ UG.heap = h0 ∧ CHv Z oEL UG.vm h0) (fun _ _ _ _ _ => True) (fun _ UG oG UG' => ∃ vG LG, oG = .returned vG ∧ Q_rm_ld1S_1x0 Z wA wD wG wU wV wN wB wC wF wE wO k_1 k_2 a sr pt ti xv u2 h0 n0 vG UG'.heap LG ∧ CHr Z oEL UG.vm UG.heap UG'.vm UG'.heap ∧ ReturnedEndW UG oG UG' LG ({ frames := 6, cells := 8, slots := 90, locals := 3080 } : Room).cells ({ frames := 6, cells := 8, slots := 90, locals := 3080 } : Room).slots) := by
  refine MetFree.of_bodySF (plainFor_of_name pn_6) hisR ?_
  intro pG eG sG mG argsG belowG methG cG s₁ Bd hml0 hP hK
  obtain ⟨rfl, hZ, hh, hC⟩ := hP
  have hx := Bd.exec
  have hby := Bd.bytes
  have hml : cG.maxLocals = 5 := hml0
  have hown : sG.vm.findClass "com/example/vorgang/vorgang/model/CallPolicy" = some mG.cls := findClass_of_methodNamed Bd.named
  have hnm := (name_of_methodNamed Bd.named Bd.method).1
  have X0 : Stand pG l eG ({ frames := 6, cells := 8, slots := 90, locals := 3080 } : Room) (sG.setVm sG.vm) mG #[(.ref a), (.int sr), (.int (0 : Int32)), (.ref wV)] belowG methG cG s₁ [] 0 0 := Stand.of_body Bd
  have e0 : s₁.heap = h0 := by rw [← hh, Bd.state]; rfl
  have N0 := Fr.nil n0
  have K0 := Keep.refl h0 []
  have hS0 : sG.Since sG.vm h0.size := (State.WarmedH.refl sG).since _
  have hk0 : h0.size ≤ h0.size := Nat.le_refl _
  have CR0 : CHr Z oEL sG.vm h0 sG.vm h0 := CHr.refl hC
  have hEL : EW Z a0 oEL := own_EW hw
  obtain ⟨S_wA, E_wA, S_wD, E_wD, S_wG, E_wG, S_wU, E_wU, S_wV, E_wV, S_wN, E_wN, S_wB, E_wB, S_wC, E_wC, S_wF, E_wF, S_wE, E_wE, S_wO, E_wO, F_wA_ordinal, F_wG_ordinal, F_wD_ordinal, F_wU_ordinal, F_wV_ordinal, F_wN_ordinal, F_wB_ordinal, F_wC_ordinal, F_wF_ordinal, F_wE_ordinal, F_wO_value, L_1, L_2, ne_wA_wG, ne_wA_wD, ne_wA_wB, ne_wA_wC, ne_wA_wF, ne_wA_wE, ne_wG_wD, ne_wG_wB, ne_wG_wC, ne_wG_wF, ne_wG_wE, ne_wD_wB, ne_wD_wC, ne_wD_wF, ne_wD_wE, ne_wU_wV, ne_wU_wN, ne_wV_wN, ne_wB_wC, ne_wB_wF, ne_wB_wE, ne_wC_wF, ne_wC_wE, ne_wF_wE⟩ := (id hS : St0 Z wA wD wG wU wV wN wB wC wF wE wO k_1 k_2 )
  have hZ0 := hZ
  have E_pt := own_pe hS pT
  have E_u2 := own_ue hS uX
  refine ostart (g' := (mkF mG 0 #[oa a, oi sr, oi (0 : Int32), oa wV, .unset] [])) (by first | (simp [entryFrame, mkF, argsToLocals, Value.category]; done) | rfl) ?_
  refine ob s₁ (mkF mG 1 #[oa a, oi sr, oi (0 : Int32), oa wV, .unset] [(.ref wV)]) (fun _ kk => XS.aloadN X0.here hx rfl (hb hby d14_0) rfl rfl kk) ?_
  obtain ⟨T1, X1, e1, st1⟩ := getS2 X0 hx hZ hown (host := "") (Or.inl (ow hw 102 rfl)) Via.refl e0 (S_wV.ext O0.2) (g := (mkF mG 1 #[oa a, oi sr, oi (0 : Int32), oa wV, .unset] [(.ref wV)])) rfl (hb hby d14_1)
  refine ob T1 (mkF mG 4 #[oa a, oi sr, oi (0 : Int32), oa wV, .unset] [(.ref wV), (.ref wV)]) (fun _ kk => st1 _ kk) ?_
  refine ob T1 (mkF mG 18 #[oa a, oi sr, oi (0 : Int32), oa wV, .unset] []) (fun _ kk => Jvm.RoadKit.acmp (g := (mkF mG 4 #[oa a, oi sr, oi (0 : Int32), oa wV, .unset] [(.ref wV), (.ref wV)])) X1 hx rfl rfl rfl (pc0 := 4) (pc' := 18) (same := true) rfl (hb hby d14_4) rfl (decide_eq_true rfl) (by decide) (by decide) kk) ?_
  refine ob T1 (mkF mG 19 #[oa a, oi sr, oi (0 : Int32), oa wV, .unset] [(.int (1 : Int32))]) (fun _ kk => XS.iconst X1.here hx rfl (hb hby d14_18) kk) ?_
  refine ob T1 (mkF mG 23 #[oa a, oi sr, oi (0 : Int32), oa wV, .unset] [(.int (1 : Int32))]) (fun _ kk => XS.goto X1.here hx rfl (pc0 := 19) (pc' := 23) rfl (hb hby d14_19) (by decide) (by decide) kk) ?_
  refine ob T1 (mkF mG 25 #[oa a, oi sr, oi (0 : Int32), oa wV, oi (1 : Int32)] []) (fun _ kk => XS.istore X1.here hx rfl (hb hby d14_23) rfl (l' := #[oa a, oi sr, oi (0 : Int32), oa wV, oi (1 : Int32)]) rfl kk) ?_
  refine ob T1 (mkF mG 26 #[oa a, oi sr, oi (0 : Int32), oa wV, oi (1 : Int32)] [(.ref a)]) (fun _ kk => XS.aloadN X1.here hx rfl (hb hby d14_25) rfl rfl kk) ?_
  obtain ⟨T2, X2, e2, st2⟩ := getF X1 hx hZ hown (host := "") (Or.inl (ow hw 41 rfl)) Via.refl e1 F_t (g := (mkF mG 26 #[oa a, oi sr, oi (0 : Int32), oa wV, oi (1 : Int32)] [(.ref a)])) rfl rfl (hb hby d14_26)
  refine ob T2 (mkF mG 29 #[oa a, oi sr, oi (0 : Int32), oa wV, oi (1 : Int32)] [(.ref pt)]) (fun _ kk => st2 _ kk) ?_
  refine ob T2 (mkF mG 30 #[oa a, oi sr, oi (0 : Int32), oa wV, oi (1 : Int32)] [(.int (0 : Int32)), (.ref pt)]) (fun _ kk => XS.iloadN X2.here hx rfl (hb hby d14_29) rfl kk) ?_
  refine ob T2 (mkF mG 42 #[oa a, oi sr, oi (0 : Int32), oa wV, oi (1 : Int32)] [(.ref pt)]) (fun _ kk => XS.ifYes X2.here hx rfl (pc0 := 30) (pc' := 42) rfl (hb hby d14_30) rfl ((if0 _ _).trans (teq (by decide : (0 : Int32) = (0 : Int32))).1) (by decide) (by decide) kk) ?_
  refine ob T2 (mkF mG 43 #[oa a, oi sr, oi (0 : Int32), oa wV, oi (1 : Int32)] [(.int (0 : Int32)), (.ref pt)]) (fun _ kk => XS.iconst X2.here hx rfl (hb hby d14_42) kk) ?_
  obtain ⟨cq3, kq3, q3a, q3b, q3c⟩ := isOf hZ e2 (E_pt.ext O0.2)
  obtain ⟨_, _, ⟨T3, L3, k3, n3⟩, -, X3, ⟨Lc3, hQ3, l3, y3, z3⟩, st3⟩ := X2.virtualBack hx (y := (⟨"com/example/vorgang/vorgang/model/Policy", "apply", "(Z)Ljava/util/Optional;"⟩ : MethodName)) (z := (⟨"com/example/vorgang/vorgang/model/Policy", "apply", "(Z)Ljava/util/Optional;"⟩ : MethodName)) hown (mvT hZ (ow hw 48 rfl)) (mvT hZ (ow hw 49 rfl)) (notFace_of_selects (args := #[]) (mvT hZ (ow hw 51 rfl))) (mvT hZ (ow hw 51 rfl)) (mvT hZ (ow hw 50 rfl)) (by decide) (backOf (W := 0) (rm_apS l Z a0 hw [] wA wD wG wU wV wN wB wC wF wE wO k_1 k_2 pt ti (0 : Int32) xv u2 h0 n0 O0 hS pT (Or.inl rfl) rX uX) hZ (ow hw 52 rfl) (ow hw 9 rfl) (by decide) (by decide)) q3a q3c (g := (mkF mG 43 #[oa a, oi sr, oi (0 : Int32), oa wV, oi (1 : Int32)] [(.int (0 : Int32)), (.ref pt)])) rfl (by rw [hml]; rfl) (Steps.refl _) (argsL := [(.int (0 : Int32))]) (rest := []) (lenOf pd_11 rfl) rfl (by show 2 * 0 + _ ≤ _; exact Nat.le_of_eq rfl) (hb hby d14_43) (fun _ _ => ⟨rfl, e2, (by decide : 0 + 1 ≤ _), (by decide : 0 + 1 ≤ _)⟩)
  dsimp only [Pt.U, Pt.locs, Pt.cells, Pt.slots] at X3 l3 y3 z3 st3 hQ3
  subst l3 y3 z3
  obtain ⟨h3, e3⟩ : ∃ h, T3.heap = h := ⟨_, rfl⟩
  rw [e3] at hQ3
  obtain ⟨b0_3, rfl, N3q, K3q, O3, n_b0_3, z_b0_3, F3_0, F3_1⟩ := hQ3
  have N3 := Fr.app N0 N3q
  have sz_b0_3 : h0.size ≤ b0_3 := Nat.le_trans K0.1 z_b0_3
  have ne_a_b0_3 : a ≠ b0_3 := Nat.ne_of_lt (Nat.lt_of_lt_of_le F_t.lt z_b0_3)
  have K3 := K0.trans K3q all0
  have CS3 : CHr Z oEL sG.vm h0 sG.vm h3 := CHr.keep K3q sf0 CR0.1
  have CR3 := CR0.trans CS3
  obtain ⟨LL4, X3, N3⟩ : ∃ LL, Stand pG l eG _ _ mG _ belowG methG cG T3 LL 1 1 ∧ Fr n0 LL := ⟨_, X3, N3⟩
  refine ob T3 (mkF mG 46 #[oa a, oi sr, oi (0 : Int32), oa wV, oi (1 : Int32)] [(.ref b0_3)]) (fun _ kk => st3.trans kk) ?_
  refine ob T3 (mkF mG 47 #[oa a, oi sr, oi (0 : Int32), oa wV, oi (1 : Int32)] [(.ref wV), (.ref b0_3)]) (fun _ kk => XS.aloadN X3.here hx rfl (hb hby d14_46) rfl rfl kk) ?_
  have hnZ : Z.methodNamed? ox2 = some mG := (State.methodNamed?_setVm (s := Z) hZ0.alike ox2).symm.trans Bd.named
  obtain ⟨T5, h5, X5, e5, E5, A5, st5⟩ := own_mk X3 hx hZ L_2 hnZ (ow hw 81 rfl) e3 oz_t2 (vals := [(.ref wV)]) (rest := [(.ref b0_3)]) rfl own_nar2 own_fit2 (g := (mkF mG 47 #[oa a, oi sr, oi (0 : Int32), oa wV, oi (1 : Int32)] [(.ref wV), (.ref b0_3)])) rfl (by rw [hml]; rfl) rfl (hb hby d14_47) rfl (by show 2 * 0 + 2 + 3072 ≤ _; decide) (by decide) (n := 1) rfl (by decide)
  obtain ⟨b5, g5⟩ : ∃ z, z = h3.size := ⟨_, rfl⟩
  rw [← g5] at A5 st5
  have n_b5 : n0 ≤ b5 := Nat.le_trans (on0 O3) (Nat.le_of_eq g5.symm)
  have sz_b5 : h0.size ≤ b5 := Nat.le_trans K3.1 (Nat.le_of_eq g5.symm)
  have ne_a_b5 : a ≠ b5 := Nat.ne_of_lt (Nat.lt_of_lt_of_le (F_t.keep K3q nin0).lt (Nat.le_of_eq g5.symm))
  have ne_b0_3_b5 : b0_3 ≠ b5 := Nat.ne_of_lt (Nat.lt_of_lt_of_le F3_0.lt (Nat.le_of_eq g5.symm))
  have CS5 : CHr Z oEL sG.vm h3 sG.vm h5 := CHr.ext E5 CR3.1
  have CR5 := CR3.trans CS5
  have O5 := O3.ext E5
  have K5 := K3.ext E5
  obtain ⟨LL6, X5, N3⟩ : ∃ LL, Stand pG l eG _ _ mG _ belowG methG cG T5 LL 2 2 ∧ Fr n0 LL := ⟨_, X5, N3⟩
  refine ob T5 (mkF mG 52 #[oa a, oi sr, oi (0 : Int32), oa wV, oi (1 : Int32)] [(.ref b5), (.ref b0_3)]) (fun _ kk => st5 _ kk) ?_
  obtain ⟨cq7, kq7, q7a, q7b, q7c⟩ := isOf hZ e5 (F3_0.ext E5)
  obtain ⟨_, _, ⟨T7, L7, k7, n7⟩, -, X7, hS7, gs7, ⟨Lc7, hQ7, l7, y7, z7, CS7⟩, st7⟩ := X5.virtualBackS hx (y := (⟨"java/util/Optional", "map", "(Ljava/util/function/Function;)Ljava/util/Optional;"⟩ : MethodName)) (z := (⟨"java/util/Optional", "map", "(Ljava/util/function/Function;)Ljava/util/Optional;"⟩ : MethodName)) hown (mvT hZ (ow hw 108 rfl)) (mvT hZ (ow hw 109 rfl)) (notFace_of_selects (args := #[]) (mvT hZ (ow hw 111 rfl))) (mvT hZ (ow hw 111 rfl)) (mvT hZ (ow hw 110 rfl)) (by decide) (backOfSH (W := 0) (rm_mapS l Z a0 hw [] wA wD wG wU wV wN wB wC wF wE wO k_1 k_2 b0_3 b5 wV u2 h5 n0 O5 hS (F3_0.ext E5) (F3_1.ext E5) A5 (E_u2.ext O5.2)) hZ (ow hw 112 rfl) (ow hw 67 rfl) (by decide) (by decide) hEL CR5.1) q7a q7c (g := (mkF mG 52 #[oa a, oi sr, oi (0 : Int32), oa wV, oi (1 : Int32)] [(.ref b5), (.ref b0_3)])) rfl (by rw [hml]; rfl) (Steps.refl _) (argsL := [(.ref b5)]) (rest := []) (lenOf pd_12 rfl) rfl (by show 2 * 0 + _ ≤ _; exact Nat.le_of_eq rfl) (hb hby d14_52) (fun _ _ => ⟨rfl, e5, (by decide : 2 + 6 ≤ _), (by decide : 2 + 83 ≤ _)⟩)
  dsimp only [Pt.U, Pt.locs, Pt.cells, Pt.slots] at X7 l7 y7 z7 st7 hQ7 hS7 gs7 CS7
  subst l7 y7 z7
  obtain ⟨X7, hS7, hZ, hown⟩ := rebS hS0 (by rw [e5]; exact (Nat.le_trans (Nat.le_trans hk0 CS3.2.1) CS5.2.1)) X7 hS7 gs7 hZ hown
  obtain ⟨h7, e7⟩ : ∃ h, T7.heap = h := ⟨_, rfl⟩
  rw [e7] at hQ7
  obtain ⟨b0_7, b1_7, rfl, N7q, K7q, O7, n_b0_7, n_b1_7, z_b0_7, z_b1_7, F7_0, F7_1, F7_2, F7_3, F7_4⟩ := hQ7
  have N7 := Fr.app N3 N7q
  have sz_b0_7 : h0.size ≤ b0_7 := Nat.le_trans K5.1 z_b0_7
  have ne_a_b0_7 : a ≠ b0_7 := Nat.ne_of_lt (Nat.lt_of_lt_of_le ((F_t.keep K3q nin0).ext E5).lt z_b0_7)
  have ne_b0_3_b0_7 : b0_3 ≠ b0_7 := Nat.ne_of_lt (Nat.lt_of_lt_of_le (F3_0.ext E5).lt z_b0_7)
  have ne_b5_b0_7 : b5 ≠ b0_7 := Nat.ne_of_lt (Nat.lt_of_lt_of_le A5.lt z_b0_7)
  have sz_b1_7 : h0.size ≤ b1_7 := Nat.le_trans K5.1 z_b1_7
  have ne_a_b1_7 : a ≠ b1_7 := Nat.ne_of_lt (Nat.lt_of_lt_of_le ((F_t.keep K3q nin0).ext E5).lt z_b1_7)
  have ne_b0_3_b1_7 : b0_3 ≠ b1_7 := Nat.ne_of_lt (Nat.lt_of_lt_of_le (F3_0.ext E5).lt z_b1_7)
  have ne_b5_b1_7 : b5 ≠ b1_7 := Nat.ne_of_lt (Nat.lt_of_lt_of_le A5.lt z_b1_7)
  have K7 := K5.trans K7q all0
  rw [e7] at CS7 hS7
  have hk7 : h7.size ≤ h7.size := Nat.le_refl _
  have CR7 := CR5.trans CS7
  obtain ⟨LL8, X7, N7⟩ : ∃ LL, Stand pG l eG _ _ mG _ belowG methG cG T7 LL 8 85 ∧ Fr n0 LL := ⟨_, X7, N7⟩
  refine ob T7 (mkF mG 55 #[oa a, oi sr, oi (0 : Int32), oa wV, oi (1 : Int32)] [(.ref b0_7)]) (fun _ kk => st7.trans kk) ?_
  obtain ⟨fs, hr, hrun, hended, hW, hsame⟩ := X7.leave (v := some (.ref b0_7)) (fun h => by rw [Bd.returns] at h; cases h)
  obtain ⟨w1, w2, w3⟩ := State.Since.ended (U := T7.setFrames fs) hS7 hW (by show _ ≤ T7.heap.size; rw [e7]; exact hk7) hsame
  have CF := CR7.trans (CHv.at X7 hZ hEL CR7.1)
  refine oout (oretA X7 hx Bd.returns rfl rfl (hb hby d14_55) hr) hrun hended ⟨_, _, rfl, ?_, ?_, ⟨_, rfl⟩, w1, w2, w3.mono (by decide) (by decide)⟩
  · show Q_rm_ld1S_1x0 Z wA wD wG wU wV wN wB wC wF wE wO k_1 k_2 a sr pt ti xv u2 h0 n0 _ T7.heap _
    rw [e7]
    exact ⟨b0_7, b1_7, rfl, N7, K7, O7, n_b0_7, n_b1_7, sz_b0_7, sz_b1_7, F7_0, F7_1, F7_2, F7_3, F7_4⟩
  · show CHr Z oEL sG.vm sG.heap T7.vm T7.heap
    rw [hh, e7]
    exact CF

def Q_rm_ld1S_1x1 (Z : State) (wA wD wG wU wV wN wB wC wF wE wO : Addr) (k_1 k_2 : ClassId) (a : Addr) (sr : Int32) (pt : Addr) (ti xv : Int32) (u2 : Addr) (h0 : Heap) (n0 : Nat) (v : Option Value) (h : Heap) (L : List Loc) : Prop := ∃ (b0 b1 : Addr), v = some (.ref b0) ∧ Fr n0 L ∧ Keep h0 h [] ∧ Old Z n0 h ∧ n0 ≤ b0 ∧ n0 ≤ b1 ∧ h0.size ≤ b0 ∧ h0.size ≤ b1 ∧ Exa Z h b0 "java/util/Optional" ∧ Fld Z h b0 "java/util/Optional" "value" "Ljava/lang/Object;" (.ref b1) ∧ Exa Z h b1 "com/example/vorgang/vorgang/model/CallContexts" ∧ Fld Z h b1 "com/example/vorgang/vorgang/model/CallContexts" "session" "Lcom/example/vorgang/vorgang/model/ContextUse;" (.ref wV) ∧ Fld Z h b1 "com/example/vorgang/vorgang/model/CallContexts" "transaction" "Lcom/example/vorgang/vorgang/model/ContextUse;" (.ref u2)
set_option maxRecDepth 65536 in
set_option maxHeartbeats 40000000 in
theorem rm_ld1S_1x1 (l : Launch) (Z : State) (a0 : Array Value) (hw : ∀ d ∈ tables_1, d.before a0 Z = true) (ws : List Jvm.Cond) (wA wD wG wU wV wN wB wC wF wE wO : Addr) (k_1 k_2 : ClassId) (a : Addr) (sr : Int32) (pt : Addr) (ti xv : Int32) (u2 : Addr) (h0 : Heap) (n0 : Nat) (O0 : Old Z n0 h0) (hS : St0 Z wA wD wG wU wV wN wB wC wF wE wO k_1 k_2 ) (F_t : Fld Z h0 a "com/example/vorgang/vorgang/model/CallPolicy" "transactionType" "Lcom/example/vorgang/vorgang/model/Policy;" (.ref pt)) (pT : oPol wA wB wC wD wE wF wG ti pt) (rX : oRu ti (1 : Int32) = xv) (uX : oUse wN wV wU xv u2) :
    MetFree l (⟨"com/example/vorgang/vorgang/model/CallPolicy", "lambda$dispatch$1", "(ZZLcom/example/vorgang/vorgang/model/ContextUse;)Ljava/util/Optional;"⟩ : MethodName) (head1 (Jvm.Cond.code (⟨"com/example/vorgang/vorgang/model/CallPolicy", "lambda$dispatch$1", "(ZZLcom/example/vorgang/vorgang/model/ContextUse;)Ljava/util/Optional;"⟩ : MethodName) prog_10_method_8_code 5 (some (.object "java/util/Optional")) :: ws) ({ frames := 6, cells := 8, slots := 90, locals := 3080 } : Room)) (fun aG UG => aG = #[(.ref a), (.int sr), (.int (1 : Int32)), (.ref wV)] ∧ Z.Warmed39 UG.vm ∧ UG.heap = h0 ∧ CHv Z oEL UG.vm h0) (fun _ _ _ _ _ => True) (fun _ UG oG UG' => ∃ vG LG, oG = .returned vG ∧ Q_rm_ld1S_1x1 Z wA wD wG wU wV wN wB wC wF wE wO k_1 k_2 a sr pt ti xv u2 h0 n0 vG UG'.heap LG ∧ CHr Z oEL UG.vm UG.heap UG'.vm UG'.heap ∧ ReturnedEndW UG oG UG' LG ({ frames := 6, cells := 8, slots := 90, locals := 3080 } : Room).cells ({ frames := 6, cells := 8, slots := 90, locals := 3080 } : Room).slots) := by
  refine MetFree.of_bodySF (plainFor_of_name pn_6) hisR ?_
  intro pG eG sG mG argsG belowG methG cG s₁ Bd hml0 hP hK
  obtain ⟨rfl, hZ, hh, hC⟩ := hP
  have hx := Bd.exec
  have hby := Bd.bytes
  have hml : cG.maxLocals = 5 := hml0
  have hown : sG.vm.findClass "com/example/vorgang/vorgang/model/CallPolicy" = some mG.cls := findClass_of_methodNamed Bd.named
  have hnm := (name_of_methodNamed Bd.named Bd.method).1
  have X0 : Stand pG l eG ({ frames := 6, cells := 8, slots := 90, locals := 3080 } : Room) (sG.setVm sG.vm) mG #[(.ref a), (.int sr), (.int (1 : Int32)), (.ref wV)] belowG methG cG s₁ [] 0 0 := Stand.of_body Bd
  have e0 : s₁.heap = h0 := by rw [← hh, Bd.state]; rfl
  have N0 := Fr.nil n0
  have K0 := Keep.refl h0 []
  have hS0 : sG.Since sG.vm h0.size := (State.WarmedH.refl sG).since _
  have hk0 : h0.size ≤ h0.size := Nat.le_refl _
  have CR0 : CHr Z oEL sG.vm h0 sG.vm h0 := CHr.refl hC
  have hEL : EW Z a0 oEL := own_EW hw
  obtain ⟨S_wA, E_wA, S_wD, E_wD, S_wG, E_wG, S_wU, E_wU, S_wV, E_wV, S_wN, E_wN, S_wB, E_wB, S_wC, E_wC, S_wF, E_wF, S_wE, E_wE, S_wO, E_wO, F_wA_ordinal, F_wG_ordinal, F_wD_ordinal, F_wU_ordinal, F_wV_ordinal, F_wN_ordinal, F_wB_ordinal, F_wC_ordinal, F_wF_ordinal, F_wE_ordinal, F_wO_value, L_1, L_2, ne_wA_wG, ne_wA_wD, ne_wA_wB, ne_wA_wC, ne_wA_wF, ne_wA_wE, ne_wG_wD, ne_wG_wB, ne_wG_wC, ne_wG_wF, ne_wG_wE, ne_wD_wB, ne_wD_wC, ne_wD_wF, ne_wD_wE, ne_wU_wV, ne_wU_wN, ne_wV_wN, ne_wB_wC, ne_wB_wF, ne_wB_wE, ne_wC_wF, ne_wC_wE, ne_wF_wE⟩ := (id hS : St0 Z wA wD wG wU wV wN wB wC wF wE wO k_1 k_2 )
  have hZ0 := hZ
  have E_pt := own_pe hS pT
  have E_u2 := own_ue hS uX
  refine ostart (g' := (mkF mG 0 #[oa a, oi sr, oi (1 : Int32), oa wV, .unset] [])) (by first | (simp [entryFrame, mkF, argsToLocals, Value.category]; done) | rfl) ?_
  refine ob s₁ (mkF mG 1 #[oa a, oi sr, oi (1 : Int32), oa wV, .unset] [(.ref wV)]) (fun _ kk => XS.aloadN X0.here hx rfl (hb hby d14_0) rfl rfl kk) ?_
  obtain ⟨T1, X1, e1, st1⟩ := getS2 X0 hx hZ hown (host := "") (Or.inl (ow hw 102 rfl)) Via.refl e0 (S_wV.ext O0.2) (g := (mkF mG 1 #[oa a, oi sr, oi (1 : Int32), oa wV, .unset] [(.ref wV)])) rfl (hb hby d14_1)
  refine ob T1 (mkF mG 4 #[oa a, oi sr, oi (1 : Int32), oa wV, .unset] [(.ref wV), (.ref wV)]) (fun _ kk => st1 _ kk) ?_
  refine ob T1 (mkF mG 18 #[oa a, oi sr, oi (1 : Int32), oa wV, .unset] []) (fun _ kk => Jvm.RoadKit.acmp (g := (mkF mG 4 #[oa a, oi sr, oi (1 : Int32), oa wV, .unset] [(.ref wV), (.ref wV)])) X1 hx rfl rfl rfl (pc0 := 4) (pc' := 18) (same := true) rfl (hb hby d14_4) rfl (decide_eq_true rfl) (by decide) (by decide) kk) ?_
  refine ob T1 (mkF mG 19 #[oa a, oi sr, oi (1 : Int32), oa wV, .unset] [(.int (1 : Int32))]) (fun _ kk => XS.iconst X1.here hx rfl (hb hby d14_18) kk) ?_
  refine ob T1 (mkF mG 23 #[oa a, oi sr, oi (1 : Int32), oa wV, .unset] [(.int (1 : Int32))]) (fun _ kk => XS.goto X1.here hx rfl (pc0 := 19) (pc' := 23) rfl (hb hby d14_19) (by decide) (by decide) kk) ?_
  refine ob T1 (mkF mG 25 #[oa a, oi sr, oi (1 : Int32), oa wV, oi (1 : Int32)] []) (fun _ kk => XS.istore X1.here hx rfl (hb hby d14_23) rfl (l' := #[oa a, oi sr, oi (1 : Int32), oa wV, oi (1 : Int32)]) rfl kk) ?_
  refine ob T1 (mkF mG 26 #[oa a, oi sr, oi (1 : Int32), oa wV, oi (1 : Int32)] [(.ref a)]) (fun _ kk => XS.aloadN X1.here hx rfl (hb hby d14_25) rfl rfl kk) ?_
  obtain ⟨T2, X2, e2, st2⟩ := getF X1 hx hZ hown (host := "") (Or.inl (ow hw 41 rfl)) Via.refl e1 F_t (g := (mkF mG 26 #[oa a, oi sr, oi (1 : Int32), oa wV, oi (1 : Int32)] [(.ref a)])) rfl rfl (hb hby d14_26)
  refine ob T2 (mkF mG 29 #[oa a, oi sr, oi (1 : Int32), oa wV, oi (1 : Int32)] [(.ref pt)]) (fun _ kk => st2 _ kk) ?_
  refine ob T2 (mkF mG 30 #[oa a, oi sr, oi (1 : Int32), oa wV, oi (1 : Int32)] [(.int (1 : Int32)), (.ref pt)]) (fun _ kk => XS.iloadN X2.here hx rfl (hb hby d14_29) rfl kk) ?_
  refine ob T2 (mkF mG 33 #[oa a, oi sr, oi (1 : Int32), oa wV, oi (1 : Int32)] [(.ref pt)]) (fun _ kk => XS.ifNo X2.here hx rfl (hb hby d14_30) rfl ((if0 _ _).trans (feq (by decide : ¬ ((1 : Int32) = (0 : Int32)))).1) kk) ?_
  refine ob T2 (mkF mG 35 #[oa a, oi sr, oi (1 : Int32), oa wV, oi (1 : Int32)] [(.int (1 : Int32)), (.ref pt)]) (fun _ kk => XS.iload X2.here hx rfl (hb hby d14_33) rfl kk) ?_
  refine ob T2 (mkF mG 38 #[oa a, oi sr, oi (1 : Int32), oa wV, oi (1 : Int32)] [(.ref pt)]) (fun _ kk => XS.ifNo X2.here hx rfl (hb hby d14_35) rfl ((if0 _ _).trans (feq (by decide : ¬ ((1 : Int32) = (0 : Int32)))).1) kk) ?_
  refine ob T2 (mkF mG 39 #[oa a, oi sr, oi (1 : Int32), oa wV, oi (1 : Int32)] [(.int (1 : Int32)), (.ref pt)]) (fun _ kk => XS.iconst X2.here hx rfl (hb hby d14_38) kk) ?_
  refine ob T2 (mkF mG 43 #[oa a, oi sr, oi (1 : Int32), oa wV, oi (1 : Int32)] [(.int (1 : Int32)), (.ref pt)]) (fun _ kk => XS.goto X2.here hx rfl (pc0 := 39) (pc' := 43) rfl (hb hby d14_39) (by decide) (by decide) kk) ?_
  obtain ⟨cq3, kq3, q3a, q3b, q3c⟩ := isOf hZ e2 (E_pt.ext O0.2)
  obtain ⟨_, _, ⟨T3, L3, k3, n3⟩, -, X3, ⟨Lc3, hQ3, l3, y3, z3⟩, st3⟩ := X2.virtualBack hx (y := (⟨"com/example/vorgang/vorgang/model/Policy", "apply", "(Z)Ljava/util/Optional;"⟩ : MethodName)) (z := (⟨"com/example/vorgang/vorgang/model/Policy", "apply", "(Z)Ljava/util/Optional;"⟩ : MethodName)) hown (mvT hZ (ow hw 48 rfl)) (mvT hZ (ow hw 49 rfl)) (notFace_of_selects (args := #[]) (mvT hZ (ow hw 51 rfl))) (mvT hZ (ow hw 51 rfl)) (mvT hZ (ow hw 50 rfl)) (by decide) (backOf (W := 0) (rm_apS l Z a0 hw [] wA wD wG wU wV wN wB wC wF wE wO k_1 k_2 pt ti (1 : Int32) xv u2 h0 n0 O0 hS pT (Or.inr rfl) rX uX) hZ (ow hw 52 rfl) (ow hw 9 rfl) (by decide) (by decide)) q3a q3c (g := (mkF mG 43 #[oa a, oi sr, oi (1 : Int32), oa wV, oi (1 : Int32)] [(.int (1 : Int32)), (.ref pt)])) rfl (by rw [hml]; rfl) (Steps.refl _) (argsL := [(.int (1 : Int32))]) (rest := []) (lenOf pd_11 rfl) rfl (by show 2 * 0 + _ ≤ _; exact Nat.le_of_eq rfl) (hb hby d14_43) (fun _ _ => ⟨rfl, e2, (by decide : 0 + 1 ≤ _), (by decide : 0 + 1 ≤ _)⟩)
  dsimp only [Pt.U, Pt.locs, Pt.cells, Pt.slots] at X3 l3 y3 z3 st3 hQ3
  subst l3 y3 z3
  obtain ⟨h3, e3⟩ : ∃ h, T3.heap = h := ⟨_, rfl⟩
  rw [e3] at hQ3
  obtain ⟨b0_3, rfl, N3q, K3q, O3, n_b0_3, z_b0_3, F3_0, F3_1⟩ := hQ3
  have N3 := Fr.app N0 N3q
  have sz_b0_3 : h0.size ≤ b0_3 := Nat.le_trans K0.1 z_b0_3
  have ne_a_b0_3 : a ≠ b0_3 := Nat.ne_of_lt (Nat.lt_of_lt_of_le F_t.lt z_b0_3)
  have K3 := K0.trans K3q all0
  have CS3 : CHr Z oEL sG.vm h0 sG.vm h3 := CHr.keep K3q sf0 CR0.1
  have CR3 := CR0.trans CS3
  obtain ⟨LL4, X3, N3⟩ : ∃ LL, Stand pG l eG _ _ mG _ belowG methG cG T3 LL 1 1 ∧ Fr n0 LL := ⟨_, X3, N3⟩
  refine ob T3 (mkF mG 46 #[oa a, oi sr, oi (1 : Int32), oa wV, oi (1 : Int32)] [(.ref b0_3)]) (fun _ kk => st3.trans kk) ?_
  refine ob T3 (mkF mG 47 #[oa a, oi sr, oi (1 : Int32), oa wV, oi (1 : Int32)] [(.ref wV), (.ref b0_3)]) (fun _ kk => XS.aloadN X3.here hx rfl (hb hby d14_46) rfl rfl kk) ?_
  have hnZ : Z.methodNamed? ox2 = some mG := (State.methodNamed?_setVm (s := Z) hZ0.alike ox2).symm.trans Bd.named
  obtain ⟨T5, h5, X5, e5, E5, A5, st5⟩ := own_mk X3 hx hZ L_2 hnZ (ow hw 81 rfl) e3 oz_t2 (vals := [(.ref wV)]) (rest := [(.ref b0_3)]) rfl own_nar2 own_fit2 (g := (mkF mG 47 #[oa a, oi sr, oi (1 : Int32), oa wV, oi (1 : Int32)] [(.ref wV), (.ref b0_3)])) rfl (by rw [hml]; rfl) rfl (hb hby d14_47) rfl (by show 2 * 0 + 2 + 3072 ≤ _; decide) (by decide) (n := 1) rfl (by decide)
  obtain ⟨b5, g5⟩ : ∃ z, z = h3.size := ⟨_, rfl⟩
  rw [← g5] at A5 st5
  have n_b5 : n0 ≤ b5 := Nat.le_trans (on0 O3) (Nat.le_of_eq g5.symm)
  have sz_b5 : h0.size ≤ b5 := Nat.le_trans K3.1 (Nat.le_of_eq g5.symm)
  have ne_a_b5 : a ≠ b5 := Nat.ne_of_lt (Nat.lt_of_lt_of_le (F_t.keep K3q nin0).lt (Nat.le_of_eq g5.symm))
  have ne_b0_3_b5 : b0_3 ≠ b5 := Nat.ne_of_lt (Nat.lt_of_lt_of_le F3_0.lt (Nat.le_of_eq g5.symm))
  have CS5 : CHr Z oEL sG.vm h3 sG.vm h5 := CHr.ext E5 CR3.1
  have CR5 := CR3.trans CS5
  have O5 := O3.ext E5
  have K5 := K3.ext E5
  obtain ⟨LL6, X5, N3⟩ : ∃ LL, Stand pG l eG _ _ mG _ belowG methG cG T5 LL 2 2 ∧ Fr n0 LL := ⟨_, X5, N3⟩
  refine ob T5 (mkF mG 52 #[oa a, oi sr, oi (1 : Int32), oa wV, oi (1 : Int32)] [(.ref b5), (.ref b0_3)]) (fun _ kk => st5 _ kk) ?_
  obtain ⟨cq7, kq7, q7a, q7b, q7c⟩ := isOf hZ e5 (F3_0.ext E5)
  obtain ⟨_, _, ⟨T7, L7, k7, n7⟩, -, X7, hS7, gs7, ⟨Lc7, hQ7, l7, y7, z7, CS7⟩, st7⟩ := X5.virtualBackS hx (y := (⟨"java/util/Optional", "map", "(Ljava/util/function/Function;)Ljava/util/Optional;"⟩ : MethodName)) (z := (⟨"java/util/Optional", "map", "(Ljava/util/function/Function;)Ljava/util/Optional;"⟩ : MethodName)) hown (mvT hZ (ow hw 108 rfl)) (mvT hZ (ow hw 109 rfl)) (notFace_of_selects (args := #[]) (mvT hZ (ow hw 111 rfl))) (mvT hZ (ow hw 111 rfl)) (mvT hZ (ow hw 110 rfl)) (by decide) (backOfSH (W := 0) (rm_mapS l Z a0 hw [] wA wD wG wU wV wN wB wC wF wE wO k_1 k_2 b0_3 b5 wV u2 h5 n0 O5 hS (F3_0.ext E5) (F3_1.ext E5) A5 (E_u2.ext O5.2)) hZ (ow hw 112 rfl) (ow hw 67 rfl) (by decide) (by decide) hEL CR5.1) q7a q7c (g := (mkF mG 52 #[oa a, oi sr, oi (1 : Int32), oa wV, oi (1 : Int32)] [(.ref b5), (.ref b0_3)])) rfl (by rw [hml]; rfl) (Steps.refl _) (argsL := [(.ref b5)]) (rest := []) (lenOf pd_12 rfl) rfl (by show 2 * 0 + _ ≤ _; exact Nat.le_of_eq rfl) (hb hby d14_52) (fun _ _ => ⟨rfl, e5, (by decide : 2 + 6 ≤ _), (by decide : 2 + 83 ≤ _)⟩)
  dsimp only [Pt.U, Pt.locs, Pt.cells, Pt.slots] at X7 l7 y7 z7 st7 hQ7 hS7 gs7 CS7
  subst l7 y7 z7
  obtain ⟨X7, hS7, hZ, hown⟩ := rebS hS0 (by rw [e5]; exact (Nat.le_trans (Nat.le_trans hk0 CS3.2.1) CS5.2.1)) X7 hS7 gs7 hZ hown
  obtain ⟨h7, e7⟩ : ∃ h, T7.heap = h := ⟨_, rfl⟩
  rw [e7] at hQ7
  obtain ⟨b0_7, b1_7, rfl, N7q, K7q, O7, n_b0_7, n_b1_7, z_b0_7, z_b1_7, F7_0, F7_1, F7_2, F7_3, F7_4⟩ := hQ7
  have N7 := Fr.app N3 N7q
  have sz_b0_7 : h0.size ≤ b0_7 := Nat.le_trans K5.1 z_b0_7
  have ne_a_b0_7 : a ≠ b0_7 := Nat.ne_of_lt (Nat.lt_of_lt_of_le ((F_t.keep K3q nin0).ext E5).lt z_b0_7)
  have ne_b0_3_b0_7 : b0_3 ≠ b0_7 := Nat.ne_of_lt (Nat.lt_of_lt_of_le (F3_0.ext E5).lt z_b0_7)
  have ne_b5_b0_7 : b5 ≠ b0_7 := Nat.ne_of_lt (Nat.lt_of_lt_of_le A5.lt z_b0_7)
  have sz_b1_7 : h0.size ≤ b1_7 := Nat.le_trans K5.1 z_b1_7
  have ne_a_b1_7 : a ≠ b1_7 := Nat.ne_of_lt (Nat.lt_of_lt_of_le ((F_t.keep K3q nin0).ext E5).lt z_b1_7)
  have ne_b0_3_b1_7 : b0_3 ≠ b1_7 := Nat.ne_of_lt (Nat.lt_of_lt_of_le (F3_0.ext E5).lt z_b1_7)
  have ne_b5_b1_7 : b5 ≠ b1_7 := Nat.ne_of_lt (Nat.lt_of_lt_of_le A5.lt z_b1_7)
  have K7 := K5.trans K7q all0
  rw [e7] at CS7 hS7
  have hk7 : h7.size ≤ h7.size := Nat.le_refl _
  have CR7 := CR5.trans CS7
  obtain ⟨LL8, X7, N7⟩ : ∃ LL, Stand pG l eG _ _ mG _ belowG methG cG T7 LL 8 85 ∧ Fr n0 LL := ⟨_, X7, N7⟩
  refine ob T7 (mkF mG 55 #[oa a, oi sr, oi (1 : Int32), oa wV, oi (1 : Int32)] [(.ref b0_7)]) (fun _ kk => st7.trans kk) ?_
  obtain ⟨fs, hr, hrun, hended, hW, hsame⟩ := X7.leave (v := some (.ref b0_7)) (fun h => by rw [Bd.returns] at h; cases h)
  obtain ⟨w1, w2, w3⟩ := State.Since.ended (U := T7.setFrames fs) hS7 hW (by show _ ≤ T7.heap.size; rw [e7]; exact hk7) hsame
  have CF := CR7.trans (CHv.at X7 hZ hEL CR7.1)
  refine oout (oretA X7 hx Bd.returns rfl rfl (hb hby d14_55) hr) hrun hended ⟨_, _, rfl, ?_, ?_, ⟨_, rfl⟩, w1, w2, w3.mono (by decide) (by decide)⟩
  · show Q_rm_ld1S_1x1 Z wA wD wG wU wV wN wB wC wF wE wO k_1 k_2 a sr pt ti xv u2 h0 n0 _ T7.heap _
    rw [e7]
    exact ⟨b0_7, b1_7, rfl, N7, K7, O7, n_b0_7, n_b1_7, sz_b0_7, sz_b1_7, F7_0, F7_1, F7_2, F7_3, F7_4⟩
  · show CHr Z oEL sG.vm sG.heap T7.vm T7.heap
    rw [hh, e7]
    exact CF

def Q_rm_ld1S_2x0 (Z : State) (wA wD wG wU wV wN wB wC wF wE wO : Addr) (k_1 k_2 : ClassId) (a : Addr) (sr : Int32) (pt : Addr) (ti xv : Int32) (u2 : Addr) (h0 : Heap) (n0 : Nat) (v : Option Value) (h : Heap) (L : List Loc) : Prop := ∃ (b0 b1 : Addr), v = some (.ref b0) ∧ Fr n0 L ∧ Keep h0 h [] ∧ Old Z n0 h ∧ n0 ≤ b0 ∧ n0 ≤ b1 ∧ h0.size ≤ b0 ∧ h0.size ≤ b1 ∧ Exa Z h b0 "java/util/Optional" ∧ Fld Z h b0 "java/util/Optional" "value" "Ljava/lang/Object;" (.ref b1) ∧ Exa Z h b1 "com/example/vorgang/vorgang/model/CallContexts" ∧ Fld Z h b1 "com/example/vorgang/vorgang/model/CallContexts" "session" "Lcom/example/vorgang/vorgang/model/ContextUse;" (.ref wU) ∧ Fld Z h b1 "com/example/vorgang/vorgang/model/CallContexts" "transaction" "Lcom/example/vorgang/vorgang/model/ContextUse;" (.ref u2)
set_option maxRecDepth 65536 in
set_option maxHeartbeats 40000000 in
theorem rm_ld1S_2x0 (l : Launch) (Z : State) (a0 : Array Value) (hw : ∀ d ∈ tables_1, d.before a0 Z = true) (ws : List Jvm.Cond) (wA wD wG wU wV wN wB wC wF wE wO : Addr) (k_1 k_2 : ClassId) (a : Addr) (sr : Int32) (pt : Addr) (ti xv : Int32) (u2 : Addr) (h0 : Heap) (n0 : Nat) (O0 : Old Z n0 h0) (hS : St0 Z wA wD wG wU wV wN wB wC wF wE wO k_1 k_2 ) (F_t : Fld Z h0 a "com/example/vorgang/vorgang/model/CallPolicy" "transactionType" "Lcom/example/vorgang/vorgang/model/Policy;" (.ref pt)) (pT : oPol wA wB wC wD wE wF wG ti pt) (rX : oRu ti (0 : Int32) = xv) (uX : oUse wN wV wU xv u2) :
    MetFree l (⟨"com/example/vorgang/vorgang/model/CallPolicy", "lambda$dispatch$1", "(ZZLcom/example/vorgang/vorgang/model/ContextUse;)Ljava/util/Optional;"⟩ : MethodName) (head1 (Jvm.Cond.code (⟨"com/example/vorgang/vorgang/model/CallPolicy", "lambda$dispatch$1", "(ZZLcom/example/vorgang/vorgang/model/ContextUse;)Ljava/util/Optional;"⟩ : MethodName) prog_10_method_8_code 5 (some (.object "java/util/Optional")) :: ws) ({ frames := 6, cells := 8, slots := 90, locals := 3080 } : Room)) (fun aG UG => aG = #[(.ref a), (.int sr), (.int (0 : Int32)), (.ref wU)] ∧ Z.Warmed39 UG.vm ∧ UG.heap = h0 ∧ CHv Z oEL UG.vm h0) (fun _ _ _ _ _ => True) (fun _ UG oG UG' => ∃ vG LG, oG = .returned vG ∧ Q_rm_ld1S_2x0 Z wA wD wG wU wV wN wB wC wF wE wO k_1 k_2 a sr pt ti xv u2 h0 n0 vG UG'.heap LG ∧ CHr Z oEL UG.vm UG.heap UG'.vm UG'.heap ∧ ReturnedEndW UG oG UG' LG ({ frames := 6, cells := 8, slots := 90, locals := 3080 } : Room).cells ({ frames := 6, cells := 8, slots := 90, locals := 3080 } : Room).slots) := by
  refine MetFree.of_bodySF (plainFor_of_name pn_6) hisR ?_
  intro pG eG sG mG argsG belowG methG cG s₁ Bd hml0 hP hK
  obtain ⟨rfl, hZ, hh, hC⟩ := hP
  have hx := Bd.exec
  have hby := Bd.bytes
  have hml : cG.maxLocals = 5 := hml0
  have hown : sG.vm.findClass "com/example/vorgang/vorgang/model/CallPolicy" = some mG.cls := findClass_of_methodNamed Bd.named
  have hnm := (name_of_methodNamed Bd.named Bd.method).1
  have X0 : Stand pG l eG ({ frames := 6, cells := 8, slots := 90, locals := 3080 } : Room) (sG.setVm sG.vm) mG #[(.ref a), (.int sr), (.int (0 : Int32)), (.ref wU)] belowG methG cG s₁ [] 0 0 := Stand.of_body Bd
  have e0 : s₁.heap = h0 := by rw [← hh, Bd.state]; rfl
  have N0 := Fr.nil n0
  have K0 := Keep.refl h0 []
  have hS0 : sG.Since sG.vm h0.size := (State.WarmedH.refl sG).since _
  have hk0 : h0.size ≤ h0.size := Nat.le_refl _
  have CR0 : CHr Z oEL sG.vm h0 sG.vm h0 := CHr.refl hC
  have hEL : EW Z a0 oEL := own_EW hw
  obtain ⟨S_wA, E_wA, S_wD, E_wD, S_wG, E_wG, S_wU, E_wU, S_wV, E_wV, S_wN, E_wN, S_wB, E_wB, S_wC, E_wC, S_wF, E_wF, S_wE, E_wE, S_wO, E_wO, F_wA_ordinal, F_wG_ordinal, F_wD_ordinal, F_wU_ordinal, F_wV_ordinal, F_wN_ordinal, F_wB_ordinal, F_wC_ordinal, F_wF_ordinal, F_wE_ordinal, F_wO_value, L_1, L_2, ne_wA_wG, ne_wA_wD, ne_wA_wB, ne_wA_wC, ne_wA_wF, ne_wA_wE, ne_wG_wD, ne_wG_wB, ne_wG_wC, ne_wG_wF, ne_wG_wE, ne_wD_wB, ne_wD_wC, ne_wD_wF, ne_wD_wE, ne_wU_wV, ne_wU_wN, ne_wV_wN, ne_wB_wC, ne_wB_wF, ne_wB_wE, ne_wC_wF, ne_wC_wE, ne_wF_wE⟩ := (id hS : St0 Z wA wD wG wU wV wN wB wC wF wE wO k_1 k_2 )
  have hZ0 := hZ
  have E_pt := own_pe hS pT
  have E_u2 := own_ue hS uX
  refine ostart (g' := (mkF mG 0 #[oa a, oi sr, oi (0 : Int32), oa wU, .unset] [])) (by first | (simp [entryFrame, mkF, argsToLocals, Value.category]; done) | rfl) ?_
  refine ob s₁ (mkF mG 1 #[oa a, oi sr, oi (0 : Int32), oa wU, .unset] [(.ref wU)]) (fun _ kk => XS.aloadN X0.here hx rfl (hb hby d14_0) rfl rfl kk) ?_
  obtain ⟨T1, X1, e1, st1⟩ := getS2 X0 hx hZ hown (host := "") (Or.inl (ow hw 102 rfl)) Via.refl e0 (S_wV.ext O0.2) (g := (mkF mG 1 #[oa a, oi sr, oi (0 : Int32), oa wU, .unset] [(.ref wU)])) rfl (hb hby d14_1)
  refine ob T1 (mkF mG 4 #[oa a, oi sr, oi (0 : Int32), oa wU, .unset] [(.ref wV), (.ref wU)]) (fun _ kk => st1 _ kk) ?_
  refine ob T1 (mkF mG 7 #[oa a, oi sr, oi (0 : Int32), oa wU, .unset] []) (fun _ kk => Jvm.RoadKit.acmp (g := (mkF mG 4 #[oa a, oi sr, oi (0 : Int32), oa wU, .unset] [(.ref wV), (.ref wU)])) X1 hx rfl rfl rfl (pc0 := 4) (pc' := 7) (same := false) rfl (hb hby d14_4) rfl (decide_eq_false fun q => ne_wU_wV (Value.ref.inj q)) (by decide) (by decide) kk) ?_
  refine ob T1 (mkF mG 8 #[oa a, oi sr, oi (0 : Int32), oa wU, .unset] [(.ref wU)]) (fun _ kk => XS.aloadN X1.here hx rfl (hb hby d14_7) rfl rfl kk) ?_
  obtain ⟨T2, X2, e2, st2⟩ := getS2 X1 hx hZ hown (host := "") (Or.inl (ow hw 104 rfl)) Via.refl e1 (S_wN.ext O0.2) (g := (mkF mG 8 #[oa a, oi sr, oi (0 : Int32), oa wU, .unset] [(.ref wU)])) rfl (hb hby d14_8)
  refine ob T2 (mkF mG 11 #[oa a, oi sr, oi (0 : Int32), oa wU, .unset] [(.ref wN), (.ref wU)]) (fun _ kk => st2 _ kk) ?_
  refine ob T2 (mkF mG 22 #[oa a, oi sr, oi (0 : Int32), oa wU, .unset] []) (fun _ kk => Jvm.RoadKit.acmp (g := (mkF mG 11 #[oa a, oi sr, oi (0 : Int32), oa wU, .unset] [(.ref wN), (.ref wU)])) X2 hx rfl rfl rfl (pc0 := 11) (pc' := 22) (same := false) rfl (hb hby d14_11) rfl (decide_eq_false fun q => ne_wU_wN (Value.ref.inj q)) (by decide) (by decide) kk) ?_
  refine ob T2 (mkF mG 23 #[oa a, oi sr, oi (0 : Int32), oa wU, .unset] [(.int (0 : Int32))]) (fun _ kk => XS.iconst X2.here hx rfl (hb hby d14_22) kk) ?_
  refine ob T2 (mkF mG 25 #[oa a, oi sr, oi (0 : Int32), oa wU, oi (0 : Int32)] []) (fun _ kk => XS.istore X2.here hx rfl (hb hby d14_23) rfl (l' := #[oa a, oi sr, oi (0 : Int32), oa wU, oi (0 : Int32)]) rfl kk) ?_
  refine ob T2 (mkF mG 26 #[oa a, oi sr, oi (0 : Int32), oa wU, oi (0 : Int32)] [(.ref a)]) (fun _ kk => XS.aloadN X2.here hx rfl (hb hby d14_25) rfl rfl kk) ?_
  obtain ⟨T3, X3, e3, st3⟩ := getF X2 hx hZ hown (host := "") (Or.inl (ow hw 41 rfl)) Via.refl e2 F_t (g := (mkF mG 26 #[oa a, oi sr, oi (0 : Int32), oa wU, oi (0 : Int32)] [(.ref a)])) rfl rfl (hb hby d14_26)
  refine ob T3 (mkF mG 29 #[oa a, oi sr, oi (0 : Int32), oa wU, oi (0 : Int32)] [(.ref pt)]) (fun _ kk => st3 _ kk) ?_
  refine ob T3 (mkF mG 30 #[oa a, oi sr, oi (0 : Int32), oa wU, oi (0 : Int32)] [(.int (0 : Int32)), (.ref pt)]) (fun _ kk => XS.iloadN X3.here hx rfl (hb hby d14_29) rfl kk) ?_
  refine ob T3 (mkF mG 42 #[oa a, oi sr, oi (0 : Int32), oa wU, oi (0 : Int32)] [(.ref pt)]) (fun _ kk => XS.ifYes X3.here hx rfl (pc0 := 30) (pc' := 42) rfl (hb hby d14_30) rfl ((if0 _ _).trans (teq (by decide : (0 : Int32) = (0 : Int32))).1) (by decide) (by decide) kk) ?_
  refine ob T3 (mkF mG 43 #[oa a, oi sr, oi (0 : Int32), oa wU, oi (0 : Int32)] [(.int (0 : Int32)), (.ref pt)]) (fun _ kk => XS.iconst X3.here hx rfl (hb hby d14_42) kk) ?_
  obtain ⟨cq4, kq4, q4a, q4b, q4c⟩ := isOf hZ e3 (E_pt.ext O0.2)
  obtain ⟨_, _, ⟨T4, L4, k4, n4⟩, -, X4, ⟨Lc4, hQ4, l4, y4, z4⟩, st4⟩ := X3.virtualBack hx (y := (⟨"com/example/vorgang/vorgang/model/Policy", "apply", "(Z)Ljava/util/Optional;"⟩ : MethodName)) (z := (⟨"com/example/vorgang/vorgang/model/Policy", "apply", "(Z)Ljava/util/Optional;"⟩ : MethodName)) hown (mvT hZ (ow hw 48 rfl)) (mvT hZ (ow hw 49 rfl)) (notFace_of_selects (args := #[]) (mvT hZ (ow hw 51 rfl))) (mvT hZ (ow hw 51 rfl)) (mvT hZ (ow hw 50 rfl)) (by decide) (backOf (W := 0) (rm_apS l Z a0 hw [] wA wD wG wU wV wN wB wC wF wE wO k_1 k_2 pt ti (0 : Int32) xv u2 h0 n0 O0 hS pT (Or.inl rfl) rX uX) hZ (ow hw 52 rfl) (ow hw 9 rfl) (by decide) (by decide)) q4a q4c (g := (mkF mG 43 #[oa a, oi sr, oi (0 : Int32), oa wU, oi (0 : Int32)] [(.int (0 : Int32)), (.ref pt)])) rfl (by rw [hml]; rfl) (Steps.refl _) (argsL := [(.int (0 : Int32))]) (rest := []) (lenOf pd_11 rfl) rfl (by show 2 * 0 + _ ≤ _; exact Nat.le_of_eq rfl) (hb hby d14_43) (fun _ _ => ⟨rfl, e3, (by decide : 0 + 1 ≤ _), (by decide : 0 + 1 ≤ _)⟩)
  dsimp only [Pt.U, Pt.locs, Pt.cells, Pt.slots] at X4 l4 y4 z4 st4 hQ4
  subst l4 y4 z4
  obtain ⟨h4, e4⟩ : ∃ h, T4.heap = h := ⟨_, rfl⟩
  rw [e4] at hQ4
  obtain ⟨b0_4, rfl, N4q, K4q, O4, n_b0_4, z_b0_4, F4_0, F4_1⟩ := hQ4
  have N4 := Fr.app N0 N4q
  have sz_b0_4 : h0.size ≤ b0_4 := Nat.le_trans K0.1 z_b0_4
  have ne_a_b0_4 : a ≠ b0_4 := Nat.ne_of_lt (Nat.lt_of_lt_of_le F_t.lt z_b0_4)
  have K4 := K0.trans K4q all0
  have CS4 : CHr Z oEL sG.vm h0 sG.vm h4 := CHr.keep K4q sf0 CR0.1
  have CR4 := CR0.trans CS4
  obtain ⟨LL5, X4, N4⟩ : ∃ LL, Stand pG l eG _ _ mG _ belowG methG cG T4 LL 1 1 ∧ Fr n0 LL := ⟨_, X4, N4⟩
  refine ob T4 (mkF mG 46 #[oa a, oi sr, oi (0 : Int32), oa wU, oi (0 : Int32)] [(.ref b0_4)]) (fun _ kk => st4.trans kk) ?_
  refine ob T4 (mkF mG 47 #[oa a, oi sr, oi (0 : Int32), oa wU, oi (0 : Int32)] [(.ref wU), (.ref b0_4)]) (fun _ kk => XS.aloadN X4.here hx rfl (hb hby d14_46) rfl rfl kk) ?_
  have hnZ : Z.methodNamed? ox2 = some mG := (State.methodNamed?_setVm (s := Z) hZ0.alike ox2).symm.trans Bd.named
  obtain ⟨T6, h6, X6, e6, E6, A6, st6⟩ := own_mk X4 hx hZ L_2 hnZ (ow hw 81 rfl) e4 oz_t2 (vals := [(.ref wU)]) (rest := [(.ref b0_4)]) rfl own_nar2 own_fit2 (g := (mkF mG 47 #[oa a, oi sr, oi (0 : Int32), oa wU, oi (0 : Int32)] [(.ref wU), (.ref b0_4)])) rfl (by rw [hml]; rfl) rfl (hb hby d14_47) rfl (by show 2 * 0 + 2 + 3072 ≤ _; decide) (by decide) (n := 1) rfl (by decide)
  obtain ⟨b6, g6⟩ : ∃ z, z = h4.size := ⟨_, rfl⟩
  rw [← g6] at A6 st6
  have n_b6 : n0 ≤ b6 := Nat.le_trans (on0 O4) (Nat.le_of_eq g6.symm)
  have sz_b6 : h0.size ≤ b6 := Nat.le_trans K4.1 (Nat.le_of_eq g6.symm)
  have ne_a_b6 : a ≠ b6 := Nat.ne_of_lt (Nat.lt_of_lt_of_le (F_t.keep K4q nin0).lt (Nat.le_of_eq g6.symm))
  have ne_b0_4_b6 : b0_4 ≠ b6 := Nat.ne_of_lt (Nat.lt_of_lt_of_le F4_0.lt (Nat.le_of_eq g6.symm))
  have CS6 : CHr Z oEL sG.vm h4 sG.vm h6 := CHr.ext E6 CR4.1
  have CR6 := CR4.trans CS6
  have O6 := O4.ext E6
  have K6 := K4.ext E6
  obtain ⟨LL7, X6, N4⟩ : ∃ LL, Stand pG l eG _ _ mG _ belowG methG cG T6 LL 2 2 ∧ Fr n0 LL := ⟨_, X6, N4⟩
  refine ob T6 (mkF mG 52 #[oa a, oi sr, oi (0 : Int32), oa wU, oi (0 : Int32)] [(.ref b6), (.ref b0_4)]) (fun _ kk => st6 _ kk) ?_
  obtain ⟨cq8, kq8, q8a, q8b, q8c⟩ := isOf hZ e6 (F4_0.ext E6)
  obtain ⟨_, _, ⟨T8, L8, k8, n8⟩, -, X8, hS8, gs8, ⟨Lc8, hQ8, l8, y8, z8, CS8⟩, st8⟩ := X6.virtualBackS hx (y := (⟨"java/util/Optional", "map", "(Ljava/util/function/Function;)Ljava/util/Optional;"⟩ : MethodName)) (z := (⟨"java/util/Optional", "map", "(Ljava/util/function/Function;)Ljava/util/Optional;"⟩ : MethodName)) hown (mvT hZ (ow hw 108 rfl)) (mvT hZ (ow hw 109 rfl)) (notFace_of_selects (args := #[]) (mvT hZ (ow hw 111 rfl))) (mvT hZ (ow hw 111 rfl)) (mvT hZ (ow hw 110 rfl)) (by decide) (backOfSH (W := 0) (rm_mapS l Z a0 hw [] wA wD wG wU wV wN wB wC wF wE wO k_1 k_2 b0_4 b6 wU u2 h6 n0 O6 hS (F4_0.ext E6) (F4_1.ext E6) A6 (E_u2.ext O6.2)) hZ (ow hw 112 rfl) (ow hw 67 rfl) (by decide) (by decide) hEL CR6.1) q8a q8c (g := (mkF mG 52 #[oa a, oi sr, oi (0 : Int32), oa wU, oi (0 : Int32)] [(.ref b6), (.ref b0_4)])) rfl (by rw [hml]; rfl) (Steps.refl _) (argsL := [(.ref b6)]) (rest := []) (lenOf pd_12 rfl) rfl (by show 2 * 0 + _ ≤ _; exact Nat.le_of_eq rfl) (hb hby d14_52) (fun _ _ => ⟨rfl, e6, (by decide : 2 + 6 ≤ _), (by decide : 2 + 83 ≤ _)⟩)
  dsimp only [Pt.U, Pt.locs, Pt.cells, Pt.slots] at X8 l8 y8 z8 st8 hQ8 hS8 gs8 CS8
  subst l8 y8 z8
  obtain ⟨X8, hS8, hZ, hown⟩ := rebS hS0 (by rw [e6]; exact (Nat.le_trans (Nat.le_trans hk0 CS4.2.1) CS6.2.1)) X8 hS8 gs8 hZ hown
  obtain ⟨h8, e8⟩ : ∃ h, T8.heap = h := ⟨_, rfl⟩
  rw [e8] at hQ8
  obtain ⟨b0_8, b1_8, rfl, N8q, K8q, O8, n_b0_8, n_b1_8, z_b0_8, z_b1_8, F8_0, F8_1, F8_2, F8_3, F8_4⟩ := hQ8
  have N8 := Fr.app N4 N8q
  have sz_b0_8 : h0.size ≤ b0_8 := Nat.le_trans K6.1 z_b0_8
  have ne_a_b0_8 : a ≠ b0_8 := Nat.ne_of_lt (Nat.lt_of_lt_of_le ((F_t.keep K4q nin0).ext E6).lt z_b0_8)
  have ne_b0_4_b0_8 : b0_4 ≠ b0_8 := Nat.ne_of_lt (Nat.lt_of_lt_of_le (F4_0.ext E6).lt z_b0_8)
  have ne_b6_b0_8 : b6 ≠ b0_8 := Nat.ne_of_lt (Nat.lt_of_lt_of_le A6.lt z_b0_8)
  have sz_b1_8 : h0.size ≤ b1_8 := Nat.le_trans K6.1 z_b1_8
  have ne_a_b1_8 : a ≠ b1_8 := Nat.ne_of_lt (Nat.lt_of_lt_of_le ((F_t.keep K4q nin0).ext E6).lt z_b1_8)
  have ne_b0_4_b1_8 : b0_4 ≠ b1_8 := Nat.ne_of_lt (Nat.lt_of_lt_of_le (F4_0.ext E6).lt z_b1_8)
  have ne_b6_b1_8 : b6 ≠ b1_8 := Nat.ne_of_lt (Nat.lt_of_lt_of_le A6.lt z_b1_8)
  have K8 := K6.trans K8q all0
  rw [e8] at CS8 hS8
  have hk8 : h8.size ≤ h8.size := Nat.le_refl _
  have CR8 := CR6.trans CS8
  obtain ⟨LL9, X8, N8⟩ : ∃ LL, Stand pG l eG _ _ mG _ belowG methG cG T8 LL 8 85 ∧ Fr n0 LL := ⟨_, X8, N8⟩
  refine ob T8 (mkF mG 55 #[oa a, oi sr, oi (0 : Int32), oa wU, oi (0 : Int32)] [(.ref b0_8)]) (fun _ kk => st8.trans kk) ?_
  obtain ⟨fs, hr, hrun, hended, hW, hsame⟩ := X8.leave (v := some (.ref b0_8)) (fun h => by rw [Bd.returns] at h; cases h)
  obtain ⟨w1, w2, w3⟩ := State.Since.ended (U := T8.setFrames fs) hS8 hW (by show _ ≤ T8.heap.size; rw [e8]; exact hk8) hsame
  have CF := CR8.trans (CHv.at X8 hZ hEL CR8.1)
  refine oout (oretA X8 hx Bd.returns rfl rfl (hb hby d14_55) hr) hrun hended ⟨_, _, rfl, ?_, ?_, ⟨_, rfl⟩, w1, w2, w3.mono (by decide) (by decide)⟩
  · show Q_rm_ld1S_2x0 Z wA wD wG wU wV wN wB wC wF wE wO k_1 k_2 a sr pt ti xv u2 h0 n0 _ T8.heap _
    rw [e8]
    exact ⟨b0_8, b1_8, rfl, N8, K8, O8, n_b0_8, n_b1_8, sz_b0_8, sz_b1_8, F8_0, F8_1, F8_2, F8_3, F8_4⟩
  · show CHr Z oEL sG.vm sG.heap T8.vm T8.heap
    rw [hh, e8]
    exact CF

def Q_rm_ld1S_2x1 (Z : State) (wA wD wG wU wV wN wB wC wF wE wO : Addr) (k_1 k_2 : ClassId) (a : Addr) (sr : Int32) (pt : Addr) (ti xv : Int32) (u2 : Addr) (h0 : Heap) (n0 : Nat) (v : Option Value) (h : Heap) (L : List Loc) : Prop := ∃ (b0 b1 : Addr), v = some (.ref b0) ∧ Fr n0 L ∧ Keep h0 h [] ∧ Old Z n0 h ∧ n0 ≤ b0 ∧ n0 ≤ b1 ∧ h0.size ≤ b0 ∧ h0.size ≤ b1 ∧ Exa Z h b0 "java/util/Optional" ∧ Fld Z h b0 "java/util/Optional" "value" "Ljava/lang/Object;" (.ref b1) ∧ Exa Z h b1 "com/example/vorgang/vorgang/model/CallContexts" ∧ Fld Z h b1 "com/example/vorgang/vorgang/model/CallContexts" "session" "Lcom/example/vorgang/vorgang/model/ContextUse;" (.ref wU) ∧ Fld Z h b1 "com/example/vorgang/vorgang/model/CallContexts" "transaction" "Lcom/example/vorgang/vorgang/model/ContextUse;" (.ref u2)
set_option maxRecDepth 65536 in
set_option maxHeartbeats 40000000 in
theorem rm_ld1S_2x1 (l : Launch) (Z : State) (a0 : Array Value) (hw : ∀ d ∈ tables_1, d.before a0 Z = true) (ws : List Jvm.Cond) (wA wD wG wU wV wN wB wC wF wE wO : Addr) (k_1 k_2 : ClassId) (a : Addr) (sr : Int32) (pt : Addr) (ti xv : Int32) (u2 : Addr) (h0 : Heap) (n0 : Nat) (O0 : Old Z n0 h0) (hS : St0 Z wA wD wG wU wV wN wB wC wF wE wO k_1 k_2 ) (F_t : Fld Z h0 a "com/example/vorgang/vorgang/model/CallPolicy" "transactionType" "Lcom/example/vorgang/vorgang/model/Policy;" (.ref pt)) (pT : oPol wA wB wC wD wE wF wG ti pt) (rX : oRu ti (0 : Int32) = xv) (uX : oUse wN wV wU xv u2) :
    MetFree l (⟨"com/example/vorgang/vorgang/model/CallPolicy", "lambda$dispatch$1", "(ZZLcom/example/vorgang/vorgang/model/ContextUse;)Ljava/util/Optional;"⟩ : MethodName) (head1 (Jvm.Cond.code (⟨"com/example/vorgang/vorgang/model/CallPolicy", "lambda$dispatch$1", "(ZZLcom/example/vorgang/vorgang/model/ContextUse;)Ljava/util/Optional;"⟩ : MethodName) prog_10_method_8_code 5 (some (.object "java/util/Optional")) :: ws) ({ frames := 6, cells := 8, slots := 90, locals := 3080 } : Room)) (fun aG UG => aG = #[(.ref a), (.int sr), (.int (1 : Int32)), (.ref wU)] ∧ Z.Warmed39 UG.vm ∧ UG.heap = h0 ∧ CHv Z oEL UG.vm h0) (fun _ _ _ _ _ => True) (fun _ UG oG UG' => ∃ vG LG, oG = .returned vG ∧ Q_rm_ld1S_2x1 Z wA wD wG wU wV wN wB wC wF wE wO k_1 k_2 a sr pt ti xv u2 h0 n0 vG UG'.heap LG ∧ CHr Z oEL UG.vm UG.heap UG'.vm UG'.heap ∧ ReturnedEndW UG oG UG' LG ({ frames := 6, cells := 8, slots := 90, locals := 3080 } : Room).cells ({ frames := 6, cells := 8, slots := 90, locals := 3080 } : Room).slots) := by
  refine MetFree.of_bodySF (plainFor_of_name pn_6) hisR ?_
  intro pG eG sG mG argsG belowG methG cG s₁ Bd hml0 hP hK
  obtain ⟨rfl, hZ, hh, hC⟩ := hP
  have hx := Bd.exec
  have hby := Bd.bytes
  have hml : cG.maxLocals = 5 := hml0
  have hown : sG.vm.findClass "com/example/vorgang/vorgang/model/CallPolicy" = some mG.cls := findClass_of_methodNamed Bd.named
  have hnm := (name_of_methodNamed Bd.named Bd.method).1
  have X0 : Stand pG l eG ({ frames := 6, cells := 8, slots := 90, locals := 3080 } : Room) (sG.setVm sG.vm) mG #[(.ref a), (.int sr), (.int (1 : Int32)), (.ref wU)] belowG methG cG s₁ [] 0 0 := Stand.of_body Bd
  have e0 : s₁.heap = h0 := by rw [← hh, Bd.state]; rfl
  have N0 := Fr.nil n0
  have K0 := Keep.refl h0 []
  have hS0 : sG.Since sG.vm h0.size := (State.WarmedH.refl sG).since _
  have hk0 : h0.size ≤ h0.size := Nat.le_refl _
  have CR0 : CHr Z oEL sG.vm h0 sG.vm h0 := CHr.refl hC
  have hEL : EW Z a0 oEL := own_EW hw
  obtain ⟨S_wA, E_wA, S_wD, E_wD, S_wG, E_wG, S_wU, E_wU, S_wV, E_wV, S_wN, E_wN, S_wB, E_wB, S_wC, E_wC, S_wF, E_wF, S_wE, E_wE, S_wO, E_wO, F_wA_ordinal, F_wG_ordinal, F_wD_ordinal, F_wU_ordinal, F_wV_ordinal, F_wN_ordinal, F_wB_ordinal, F_wC_ordinal, F_wF_ordinal, F_wE_ordinal, F_wO_value, L_1, L_2, ne_wA_wG, ne_wA_wD, ne_wA_wB, ne_wA_wC, ne_wA_wF, ne_wA_wE, ne_wG_wD, ne_wG_wB, ne_wG_wC, ne_wG_wF, ne_wG_wE, ne_wD_wB, ne_wD_wC, ne_wD_wF, ne_wD_wE, ne_wU_wV, ne_wU_wN, ne_wV_wN, ne_wB_wC, ne_wB_wF, ne_wB_wE, ne_wC_wF, ne_wC_wE, ne_wF_wE⟩ := (id hS : St0 Z wA wD wG wU wV wN wB wC wF wE wO k_1 k_2 )
  have hZ0 := hZ
  have E_pt := own_pe hS pT
  have E_u2 := own_ue hS uX
  refine ostart (g' := (mkF mG 0 #[oa a, oi sr, oi (1 : Int32), oa wU, .unset] [])) (by first | (simp [entryFrame, mkF, argsToLocals, Value.category]; done) | rfl) ?_
  refine ob s₁ (mkF mG 1 #[oa a, oi sr, oi (1 : Int32), oa wU, .unset] [(.ref wU)]) (fun _ kk => XS.aloadN X0.here hx rfl (hb hby d14_0) rfl rfl kk) ?_
  obtain ⟨T1, X1, e1, st1⟩ := getS2 X0 hx hZ hown (host := "") (Or.inl (ow hw 102 rfl)) Via.refl e0 (S_wV.ext O0.2) (g := (mkF mG 1 #[oa a, oi sr, oi (1 : Int32), oa wU, .unset] [(.ref wU)])) rfl (hb hby d14_1)
  refine ob T1 (mkF mG 4 #[oa a, oi sr, oi (1 : Int32), oa wU, .unset] [(.ref wV), (.ref wU)]) (fun _ kk => st1 _ kk) ?_
  refine ob T1 (mkF mG 7 #[oa a, oi sr, oi (1 : Int32), oa wU, .unset] []) (fun _ kk => Jvm.RoadKit.acmp (g := (mkF mG 4 #[oa a, oi sr, oi (1 : Int32), oa wU, .unset] [(.ref wV), (.ref wU)])) X1 hx rfl rfl rfl (pc0 := 4) (pc' := 7) (same := false) rfl (hb hby d14_4) rfl (decide_eq_false fun q => ne_wU_wV (Value.ref.inj q)) (by decide) (by decide) kk) ?_
  refine ob T1 (mkF mG 8 #[oa a, oi sr, oi (1 : Int32), oa wU, .unset] [(.ref wU)]) (fun _ kk => XS.aloadN X1.here hx rfl (hb hby d14_7) rfl rfl kk) ?_
  obtain ⟨T2, X2, e2, st2⟩ := getS2 X1 hx hZ hown (host := "") (Or.inl (ow hw 104 rfl)) Via.refl e1 (S_wN.ext O0.2) (g := (mkF mG 8 #[oa a, oi sr, oi (1 : Int32), oa wU, .unset] [(.ref wU)])) rfl (hb hby d14_8)
  refine ob T2 (mkF mG 11 #[oa a, oi sr, oi (1 : Int32), oa wU, .unset] [(.ref wN), (.ref wU)]) (fun _ kk => st2 _ kk) ?_
  refine ob T2 (mkF mG 22 #[oa a, oi sr, oi (1 : Int32), oa wU, .unset] []) (fun _ kk => Jvm.RoadKit.acmp (g := (mkF mG 11 #[oa a, oi sr, oi (1 : Int32), oa wU, .unset] [(.ref wN), (.ref wU)])) X2 hx rfl rfl rfl (pc0 := 11) (pc' := 22) (same := false) rfl (hb hby d14_11) rfl (decide_eq_false fun q => ne_wU_wN (Value.ref.inj q)) (by decide) (by decide) kk) ?_
  refine ob T2 (mkF mG 23 #[oa a, oi sr, oi (1 : Int32), oa wU, .unset] [(.int (0 : Int32))]) (fun _ kk => XS.iconst X2.here hx rfl (hb hby d14_22) kk) ?_
  refine ob T2 (mkF mG 25 #[oa a, oi sr, oi (1 : Int32), oa wU, oi (0 : Int32)] []) (fun _ kk => XS.istore X2.here hx rfl (hb hby d14_23) rfl (l' := #[oa a, oi sr, oi (1 : Int32), oa wU, oi (0 : Int32)]) rfl kk) ?_
  refine ob T2 (mkF mG 26 #[oa a, oi sr, oi (1 : Int32), oa wU, oi (0 : Int32)] [(.ref a)]) (fun _ kk => XS.aloadN X2.here hx rfl (hb hby d14_25) rfl rfl kk) ?_
  obtain ⟨T3, X3, e3, st3⟩ := getF X2 hx hZ hown (host := "") (Or.inl (ow hw 41 rfl)) Via.refl e2 F_t (g := (mkF mG 26 #[oa a, oi sr, oi (1 : Int32), oa wU, oi (0 : Int32)] [(.ref a)])) rfl rfl (hb hby d14_26)
  refine ob T3 (mkF mG 29 #[oa a, oi sr, oi (1 : Int32), oa wU, oi (0 : Int32)] [(.ref pt)]) (fun _ kk => st3 _ kk) ?_
  refine ob T3 (mkF mG 30 #[oa a, oi sr, oi (1 : Int32), oa wU, oi (0 : Int32)] [(.int (1 : Int32)), (.ref pt)]) (fun _ kk => XS.iloadN X3.here hx rfl (hb hby d14_29) rfl kk) ?_
  refine ob T3 (mkF mG 33 #[oa a, oi sr, oi (1 : Int32), oa wU, oi (0 : Int32)] [(.ref pt)]) (fun _ kk => XS.ifNo X3.here hx rfl (hb hby d14_30) rfl ((if0 _ _).trans (feq (by decide : ¬ ((1 : Int32) = (0 : Int32)))).1) kk) ?_
  refine ob T3 (mkF mG 35 #[oa a, oi sr, oi (1 : Int32), oa wU, oi (0 : Int32)] [(.int (0 : Int32)), (.ref pt)]) (fun _ kk => XS.iload X3.here hx rfl (hb hby d14_33) rfl kk) ?_
  refine ob T3 (mkF mG 42 #[oa a, oi sr, oi (1 : Int32), oa wU, oi (0 : Int32)] [(.ref pt)]) (fun _ kk => XS.ifYes X3.here hx rfl (pc0 := 35) (pc' := 42) rfl (hb hby d14_35) rfl ((if0 _ _).trans (teq (by decide : (0 : Int32) = (0 : Int32))).1) (by decide) (by decide) kk) ?_
  refine ob T3 (mkF mG 43 #[oa a, oi sr, oi (1 : Int32), oa wU, oi (0 : Int32)] [(.int (0 : Int32)), (.ref pt)]) (fun _ kk => XS.iconst X3.here hx rfl (hb hby d14_42) kk) ?_
  obtain ⟨cq4, kq4, q4a, q4b, q4c⟩ := isOf hZ e3 (E_pt.ext O0.2)
  obtain ⟨_, _, ⟨T4, L4, k4, n4⟩, -, X4, ⟨Lc4, hQ4, l4, y4, z4⟩, st4⟩ := X3.virtualBack hx (y := (⟨"com/example/vorgang/vorgang/model/Policy", "apply", "(Z)Ljava/util/Optional;"⟩ : MethodName)) (z := (⟨"com/example/vorgang/vorgang/model/Policy", "apply", "(Z)Ljava/util/Optional;"⟩ : MethodName)) hown (mvT hZ (ow hw 48 rfl)) (mvT hZ (ow hw 49 rfl)) (notFace_of_selects (args := #[]) (mvT hZ (ow hw 51 rfl))) (mvT hZ (ow hw 51 rfl)) (mvT hZ (ow hw 50 rfl)) (by decide) (backOf (W := 0) (rm_apS l Z a0 hw [] wA wD wG wU wV wN wB wC wF wE wO k_1 k_2 pt ti (0 : Int32) xv u2 h0 n0 O0 hS pT (Or.inl rfl) rX uX) hZ (ow hw 52 rfl) (ow hw 9 rfl) (by decide) (by decide)) q4a q4c (g := (mkF mG 43 #[oa a, oi sr, oi (1 : Int32), oa wU, oi (0 : Int32)] [(.int (0 : Int32)), (.ref pt)])) rfl (by rw [hml]; rfl) (Steps.refl _) (argsL := [(.int (0 : Int32))]) (rest := []) (lenOf pd_11 rfl) rfl (by show 2 * 0 + _ ≤ _; exact Nat.le_of_eq rfl) (hb hby d14_43) (fun _ _ => ⟨rfl, e3, (by decide : 0 + 1 ≤ _), (by decide : 0 + 1 ≤ _)⟩)
  dsimp only [Pt.U, Pt.locs, Pt.cells, Pt.slots] at X4 l4 y4 z4 st4 hQ4
  subst l4 y4 z4
  obtain ⟨h4, e4⟩ : ∃ h, T4.heap = h := ⟨_, rfl⟩
  rw [e4] at hQ4
  obtain ⟨b0_4, rfl, N4q, K4q, O4, n_b0_4, z_b0_4, F4_0, F4_1⟩ := hQ4
  have N4 := Fr.app N0 N4q
  have sz_b0_4 : h0.size ≤ b0_4 := Nat.le_trans K0.1 z_b0_4
  have ne_a_b0_4 : a ≠ b0_4 := Nat.ne_of_lt (Nat.lt_of_lt_of_le F_t.lt z_b0_4)
  have K4 := K0.trans K4q all0
  have CS4 : CHr Z oEL sG.vm h0 sG.vm h4 := CHr.keep K4q sf0 CR0.1
  have CR4 := CR0.trans CS4
  obtain ⟨LL5, X4, N4⟩ : ∃ LL, Stand pG l eG _ _ mG _ belowG methG cG T4 LL 1 1 ∧ Fr n0 LL := ⟨_, X4, N4⟩
  refine ob T4 (mkF mG 46 #[oa a, oi sr, oi (1 : Int32), oa wU, oi (0 : Int32)] [(.ref b0_4)]) (fun _ kk => st4.trans kk) ?_
  refine ob T4 (mkF mG 47 #[oa a, oi sr, oi (1 : Int32), oa wU, oi (0 : Int32)] [(.ref wU), (.ref b0_4)]) (fun _ kk => XS.aloadN X4.here hx rfl (hb hby d14_46) rfl rfl kk) ?_
  have hnZ : Z.methodNamed? ox2 = some mG := (State.methodNamed?_setVm (s := Z) hZ0.alike ox2).symm.trans Bd.named
  obtain ⟨T6, h6, X6, e6, E6, A6, st6⟩ := own_mk X4 hx hZ L_2 hnZ (ow hw 81 rfl) e4 oz_t2 (vals := [(.ref wU)]) (rest := [(.ref b0_4)]) rfl own_nar2 own_fit2 (g := (mkF mG 47 #[oa a, oi sr, oi (1 : Int32), oa wU, oi (0 : Int32)] [(.ref wU), (.ref b0_4)])) rfl (by rw [hml]; rfl) rfl (hb hby d14_47) rfl (by show 2 * 0 + 2 + 3072 ≤ _; decide) (by decide) (n := 1) rfl (by decide)
  obtain ⟨b6, g6⟩ : ∃ z, z = h4.size := ⟨_, rfl⟩
  rw [← g6] at A6 st6
  have n_b6 : n0 ≤ b6 := Nat.le_trans (on0 O4) (Nat.le_of_eq g6.symm)
  have sz_b6 : h0.size ≤ b6 := Nat.le_trans K4.1 (Nat.le_of_eq g6.symm)
  have ne_a_b6 : a ≠ b6 := Nat.ne_of_lt (Nat.lt_of_lt_of_le (F_t.keep K4q nin0).lt (Nat.le_of_eq g6.symm))
  have ne_b0_4_b6 : b0_4 ≠ b6 := Nat.ne_of_lt (Nat.lt_of_lt_of_le F4_0.lt (Nat.le_of_eq g6.symm))
  have CS6 : CHr Z oEL sG.vm h4 sG.vm h6 := CHr.ext E6 CR4.1
  have CR6 := CR4.trans CS6
  have O6 := O4.ext E6
  have K6 := K4.ext E6
  obtain ⟨LL7, X6, N4⟩ : ∃ LL, Stand pG l eG _ _ mG _ belowG methG cG T6 LL 2 2 ∧ Fr n0 LL := ⟨_, X6, N4⟩
  refine ob T6 (mkF mG 52 #[oa a, oi sr, oi (1 : Int32), oa wU, oi (0 : Int32)] [(.ref b6), (.ref b0_4)]) (fun _ kk => st6 _ kk) ?_
  obtain ⟨cq8, kq8, q8a, q8b, q8c⟩ := isOf hZ e6 (F4_0.ext E6)
  obtain ⟨_, _, ⟨T8, L8, k8, n8⟩, -, X8, hS8, gs8, ⟨Lc8, hQ8, l8, y8, z8, CS8⟩, st8⟩ := X6.virtualBackS hx (y := (⟨"java/util/Optional", "map", "(Ljava/util/function/Function;)Ljava/util/Optional;"⟩ : MethodName)) (z := (⟨"java/util/Optional", "map", "(Ljava/util/function/Function;)Ljava/util/Optional;"⟩ : MethodName)) hown (mvT hZ (ow hw 108 rfl)) (mvT hZ (ow hw 109 rfl)) (notFace_of_selects (args := #[]) (mvT hZ (ow hw 111 rfl))) (mvT hZ (ow hw 111 rfl)) (mvT hZ (ow hw 110 rfl)) (by decide) (backOfSH (W := 0) (rm_mapS l Z a0 hw [] wA wD wG wU wV wN wB wC wF wE wO k_1 k_2 b0_4 b6 wU u2 h6 n0 O6 hS (F4_0.ext E6) (F4_1.ext E6) A6 (E_u2.ext O6.2)) hZ (ow hw 112 rfl) (ow hw 67 rfl) (by decide) (by decide) hEL CR6.1) q8a q8c (g := (mkF mG 52 #[oa a, oi sr, oi (1 : Int32), oa wU, oi (0 : Int32)] [(.ref b6), (.ref b0_4)])) rfl (by rw [hml]; rfl) (Steps.refl _) (argsL := [(.ref b6)]) (rest := []) (lenOf pd_12 rfl) rfl (by show 2 * 0 + _ ≤ _; exact Nat.le_of_eq rfl) (hb hby d14_52) (fun _ _ => ⟨rfl, e6, (by decide : 2 + 6 ≤ _), (by decide : 2 + 83 ≤ _)⟩)
  dsimp only [Pt.U, Pt.locs, Pt.cells, Pt.slots] at X8 l8 y8 z8 st8 hQ8 hS8 gs8 CS8
  subst l8 y8 z8
  obtain ⟨X8, hS8, hZ, hown⟩ := rebS hS0 (by rw [e6]; exact (Nat.le_trans (Nat.le_trans hk0 CS4.2.1) CS6.2.1)) X8 hS8 gs8 hZ hown
  obtain ⟨h8, e8⟩ : ∃ h, T8.heap = h := ⟨_, rfl⟩
  rw [e8] at hQ8
  obtain ⟨b0_8, b1_8, rfl, N8q, K8q, O8, n_b0_8, n_b1_8, z_b0_8, z_b1_8, F8_0, F8_1, F8_2, F8_3, F8_4⟩ := hQ8
  have N8 := Fr.app N4 N8q
  have sz_b0_8 : h0.size ≤ b0_8 := Nat.le_trans K6.1 z_b0_8
  have ne_a_b0_8 : a ≠ b0_8 := Nat.ne_of_lt (Nat.lt_of_lt_of_le ((F_t.keep K4q nin0).ext E6).lt z_b0_8)
  have ne_b0_4_b0_8 : b0_4 ≠ b0_8 := Nat.ne_of_lt (Nat.lt_of_lt_of_le (F4_0.ext E6).lt z_b0_8)
  have ne_b6_b0_8 : b6 ≠ b0_8 := Nat.ne_of_lt (Nat.lt_of_lt_of_le A6.lt z_b0_8)
  have sz_b1_8 : h0.size ≤ b1_8 := Nat.le_trans K6.1 z_b1_8
  have ne_a_b1_8 : a ≠ b1_8 := Nat.ne_of_lt (Nat.lt_of_lt_of_le ((F_t.keep K4q nin0).ext E6).lt z_b1_8)
  have ne_b0_4_b1_8 : b0_4 ≠ b1_8 := Nat.ne_of_lt (Nat.lt_of_lt_of_le (F4_0.ext E6).lt z_b1_8)
  have ne_b6_b1_8 : b6 ≠ b1_8 := Nat.ne_of_lt (Nat.lt_of_lt_of_le A6.lt z_b1_8)
  have K8 := K6.trans K8q all0
  rw [e8] at CS8 hS8
  have hk8 : h8.size ≤ h8.size := Nat.le_refl _
  have CR8 := CR6.trans CS8
  obtain ⟨LL9, X8, N8⟩ : ∃ LL, Stand pG l eG _ _ mG _ belowG methG cG T8 LL 8 85 ∧ Fr n0 LL := ⟨_, X8, N8⟩
  refine ob T8 (mkF mG 55 #[oa a, oi sr, oi (1 : Int32), oa wU, oi (0 : Int32)] [(.ref b0_8)]) (fun _ kk => st8.trans kk) ?_
  obtain ⟨fs, hr, hrun, hended, hW, hsame⟩ := X8.leave (v := some (.ref b0_8)) (fun h => by rw [Bd.returns] at h; cases h)
  obtain ⟨w1, w2, w3⟩ := State.Since.ended (U := T8.setFrames fs) hS8 hW (by show _ ≤ T8.heap.size; rw [e8]; exact hk8) hsame
  have CF := CR8.trans (CHv.at X8 hZ hEL CR8.1)
  refine oout (oretA X8 hx Bd.returns rfl rfl (hb hby d14_55) hr) hrun hended ⟨_, _, rfl, ?_, ?_, ⟨_, rfl⟩, w1, w2, w3.mono (by decide) (by decide)⟩
  · show Q_rm_ld1S_2x1 Z wA wD wG wU wV wN wB wC wF wE wO k_1 k_2 a sr pt ti xv u2 h0 n0 _ T8.heap _
    rw [e8]
    exact ⟨b0_8, b1_8, rfl, N8, K8, O8, n_b0_8, n_b1_8, sz_b0_8, sz_b1_8, F8_0, F8_1, F8_2, F8_3, F8_4⟩
  · show CHr Z oEL sG.vm sG.heap T8.vm T8.heap
    rw [hh, e8]
    exact CF

def Q_rm_ldA0 (Z : State) (wA wD wG wU wV wN wB wC wF wE wO : Addr) (k_1 k_2 : ClassId) (a : Addr) (sr tr : Int32) (uu : Addr) (si sm bv ti xv : Int32) (pt : Addr) (h0 : Heap) (n0 : Nat) (v : Option Value) (h : Heap) (L : List Loc) : Prop := v = some (.ref wO) ∧ Fr n0 L ∧ Keep h0 h [] ∧ Old Z n0 h
set_option maxRecDepth 65536 in
set_option maxHeartbeats 40000000 in
theorem rm_ldA0 (l : Launch) (Z : State) (a0 : Array Value) (hw : ∀ d ∈ tables_1, d.before a0 Z = true) (ws : List Jvm.Cond) (wA wD wG wU wV wN wB wC wF wE wO : Addr) (k_1 k_2 : ClassId) (a : Addr) (sr tr : Int32) (uu : Addr) (si sm bv ti xv : Int32) (pt : Addr) (h0 : Heap) (n0 : Nat) (O0 : Old Z n0 h0) (hS : St0 Z wA wD wG wU wV wN wB wC wF wE wO k_1 k_2 ) (F_t : Fld Z h0 a "com/example/vorgang/vorgang/model/CallPolicy" "transactionType" "Lcom/example/vorgang/vorgang/model/Policy;" (.ref pt)) (uS : oUse wN wV wU si uu) (bS : oBo sr) (bT : oBo tr) (rM : oSm si sr = sm) (rB : oAn tr sm = bv) (pT : oPol wA wB wC wD wE wF wG ti pt) (rX : oRu ti bv = xv) (lX : xv < (0 : Int32)) :
    MetFree l (⟨"com/example/vorgang/vorgang/model/CallPolicy", "lambda$dispatch$1", "(ZZLcom/example/vorgang/vorgang/model/ContextUse;)Ljava/util/Optional;"⟩ : MethodName) (head1 (Jvm.Cond.code (⟨"com/example/vorgang/vorgang/model/CallPolicy", "lambda$dispatch$1", "(ZZLcom/example/vorgang/vorgang/model/ContextUse;)Ljava/util/Optional;"⟩ : MethodName) prog_10_method_8_code 5 (some (.object "java/util/Optional")) :: ws) ({ frames := 6, cells := 8, slots := 90, locals := 3080 } : Room)) (fun aG UG => aG = #[(.ref a), (.int sr), (.int tr), (.ref uu)] ∧ Z.Warmed39 UG.vm ∧ UG.heap = h0 ∧ CHv Z oEL UG.vm h0) (fun _ _ _ _ _ => True) (fun _ UG oG UG' => ∃ vG LG, oG = .returned vG ∧ Q_rm_ldA0 Z wA wD wG wU wV wN wB wC wF wE wO k_1 k_2 a sr tr uu si sm bv ti xv pt h0 n0 vG UG'.heap LG ∧ CHr Z oEL UG.vm UG.heap UG'.vm UG'.heap ∧ ReturnedEndW UG oG UG' LG ({ frames := 6, cells := 8, slots := 90, locals := 3080 } : Room).cells ({ frames := 6, cells := 8, slots := 90, locals := 3080 } : Room).slots) := by
  rcases uS with ⟨e1, e2⟩ | ⟨e1, e2⟩ | ⟨e1, e2⟩
  · subst e1; subst e2; rcases bS with e3 | e3
    · subst e3; rcases bT with e4 | e4
      · subst e4; have e5 : sm = (1 : Int32) := rM.symm.trans (by decide); subst e5; have e6 : bv = (0 : Int32) := rB.symm.trans (by decide); subst e6; exact rm_ld1E_000 l Z a0 hw ws wA wD wG wU wV wN wB wC wF wE wO k_1 k_2 a pt ti xv h0 n0 O0 hS F_t pT rX lX
      · subst e4; have e5 : sm = (1 : Int32) := rM.symm.trans (by decide); subst e5; have e6 : bv = (1 : Int32) := rB.symm.trans (by decide); subst e6; exact rm_ld1E_001 l Z a0 hw ws wA wD wG wU wV wN wB wC wF wE wO k_1 k_2 a pt ti xv h0 n0 O0 hS F_t pT rX lX
    · subst e3; rcases bT with e4 | e4
      · subst e4; have e5 : sm = (0 : Int32) := rM.symm.trans (by decide); subst e5; have e6 : bv = (0 : Int32) := rB.symm.trans (by decide); subst e6; exact rm_ld1E_010 l Z a0 hw ws wA wD wG wU wV wN wB wC wF wE wO k_1 k_2 a pt ti xv h0 n0 O0 hS F_t pT rX lX
      · subst e4; have e5 : sm = (0 : Int32) := rM.symm.trans (by decide); subst e5; have e6 : bv = (0 : Int32) := rB.symm.trans (by decide); subst e6; exact rm_ld1E_011 l Z a0 hw ws wA wD wG wU wV wN wB wC wF wE wO k_1 k_2 a pt ti xv h0 n0 O0 hS F_t pT rX lX
  · subst e1; subst e2; rcases bS with e3 | e3
    · subst e3; rcases bT with e4 | e4
      · subst e4; have e5 : sm = (1 : Int32) := rM.symm.trans (by decide); subst e5; have e6 : bv = (0 : Int32) := rB.symm.trans (by decide); subst e6; exact rm_ld1E_1x0 l Z a0 hw ws wA wD wG wU wV wN wB wC wF wE wO k_1 k_2 a (0 : Int32) pt ti xv h0 n0 O0 hS F_t pT rX lX
      · subst e4; have e5 : sm = (1 : Int32) := rM.symm.trans (by decide); subst e5; have e6 : bv = (1 : Int32) := rB.symm.trans (by decide); subst e6; exact rm_ld1E_1x1 l Z a0 hw ws wA wD wG wU wV wN wB wC wF wE wO k_1 k_2 a (0 : Int32) pt ti xv h0 n0 O0 hS F_t pT rX lX
    · subst e3; rcases bT with e4 | e4
      · subst e4; have e5 : sm = (1 : Int32) := rM.symm.trans (by decide); subst e5; have e6 : bv = (0 : Int32) := rB.symm.trans (by decide); subst e6; exact rm_ld1E_1x0 l Z a0 hw ws wA wD wG wU wV wN wB wC wF wE wO k_1 k_2 a (1 : Int32) pt ti xv h0 n0 O0 hS F_t pT rX lX
      · subst e4; have e5 : sm = (1 : Int32) := rM.symm.trans (by decide); subst e5; have e6 : bv = (1 : Int32) := rB.symm.trans (by decide); subst e6; exact rm_ld1E_1x1 l Z a0 hw ws wA wD wG wU wV wN wB wC wF wE wO k_1 k_2 a (1 : Int32) pt ti xv h0 n0 O0 hS F_t pT rX lX
  · subst e1; subst e2; rcases bS with e3 | e3
    · subst e3; rcases bT with e4 | e4
      · subst e4; have e5 : sm = (0 : Int32) := rM.symm.trans (by decide); subst e5; have e6 : bv = (0 : Int32) := rB.symm.trans (by decide); subst e6; exact rm_ld1E_2x0 l Z a0 hw ws wA wD wG wU wV wN wB wC wF wE wO k_1 k_2 a (0 : Int32) pt ti xv h0 n0 O0 hS F_t pT rX lX
      · subst e4; have e5 : sm = (0 : Int32) := rM.symm.trans (by decide); subst e5; have e6 : bv = (0 : Int32) := rB.symm.trans (by decide); subst e6; exact rm_ld1E_2x1 l Z a0 hw ws wA wD wG wU wV wN wB wC wF wE wO k_1 k_2 a (0 : Int32) pt ti xv h0 n0 O0 hS F_t pT rX lX
    · subst e3; rcases bT with e4 | e4
      · subst e4; have e5 : sm = (0 : Int32) := rM.symm.trans (by decide); subst e5; have e6 : bv = (0 : Int32) := rB.symm.trans (by decide); subst e6; exact rm_ld1E_2x0 l Z a0 hw ws wA wD wG wU wV wN wB wC wF wE wO k_1 k_2 a (1 : Int32) pt ti xv h0 n0 O0 hS F_t pT rX lX
      · subst e4; have e5 : sm = (0 : Int32) := rM.symm.trans (by decide); subst e5; have e6 : bv = (0 : Int32) := rB.symm.trans (by decide); subst e6; exact rm_ld1E_2x1 l Z a0 hw ws wA wD wG wU wV wN wB wC wF wE wO k_1 k_2 a (1 : Int32) pt ti xv h0 n0 O0 hS F_t pT rX lX

def Q_rm_ldA1 (Z : State) (wA wD wG wU wV wN wB wC wF wE wO : Addr) (k_1 k_2 : ClassId) (a : Addr) (sr tr : Int32) (uu : Addr) (si sm bv ti xv : Int32) (pt u2 : Addr) (h0 : Heap) (n0 : Nat) (v : Option Value) (h : Heap) (L : List Loc) : Prop := ∃ (b0 b1 : Addr), v = some (.ref b0) ∧ Fr n0 L ∧ Keep h0 h [] ∧ Old Z n0 h ∧ n0 ≤ b0 ∧ n0 ≤ b1 ∧ h0.size ≤ b0 ∧ h0.size ≤ b1 ∧ Exa Z h b0 "java/util/Optional" ∧ Fld Z h b0 "java/util/Optional" "value" "Ljava/lang/Object;" (.ref b1) ∧ Exa Z h b1 "com/example/vorgang/vorgang/model/CallContexts" ∧ Fld Z h b1 "com/example/vorgang/vorgang/model/CallContexts" "session" "Lcom/example/vorgang/vorgang/model/ContextUse;" (.ref uu) ∧ Fld Z h b1 "com/example/vorgang/vorgang/model/CallContexts" "transaction" "Lcom/example/vorgang/vorgang/model/ContextUse;" (.ref u2)
set_option maxRecDepth 65536 in
set_option maxHeartbeats 40000000 in
theorem rm_ldA1 (l : Launch) (Z : State) (a0 : Array Value) (hw : ∀ d ∈ tables_1, d.before a0 Z = true) (ws : List Jvm.Cond) (wA wD wG wU wV wN wB wC wF wE wO : Addr) (k_1 k_2 : ClassId) (a : Addr) (sr tr : Int32) (uu : Addr) (si sm bv ti xv : Int32) (pt u2 : Addr) (h0 : Heap) (n0 : Nat) (O0 : Old Z n0 h0) (hS : St0 Z wA wD wG wU wV wN wB wC wF wE wO k_1 k_2 ) (F_t : Fld Z h0 a "com/example/vorgang/vorgang/model/CallPolicy" "transactionType" "Lcom/example/vorgang/vorgang/model/Policy;" (.ref pt)) (uS : oUse wN wV wU si uu) (bS : oBo sr) (bT : oBo tr) (rM : oSm si sr = sm) (rB : oAn tr sm = bv) (pT : oPol wA wB wC wD wE wF wG ti pt) (rX : oRu ti bv = xv) (uX : oUse wN wV wU xv u2) :
    MetFree l (⟨"com/example/vorgang/vorgang/model/CallPolicy", "lambda$dispatch$1", "(ZZLcom/example/vorgang/vorgang/model/ContextUse;)Ljava/util/Optional;"⟩ : MethodName) (head1 (Jvm.Cond.code (⟨"com/example/vorgang/vorgang/model/CallPolicy", "lambda$dispatch$1", "(ZZLcom/example/vorgang/vorgang/model/ContextUse;)Ljava/util/Optional;"⟩ : MethodName) prog_10_method_8_code 5 (some (.object "java/util/Optional")) :: ws) ({ frames := 6, cells := 8, slots := 90, locals := 3080 } : Room)) (fun aG UG => aG = #[(.ref a), (.int sr), (.int tr), (.ref uu)] ∧ Z.Warmed39 UG.vm ∧ UG.heap = h0 ∧ CHv Z oEL UG.vm h0) (fun _ _ _ _ _ => True) (fun _ UG oG UG' => ∃ vG LG, oG = .returned vG ∧ Q_rm_ldA1 Z wA wD wG wU wV wN wB wC wF wE wO k_1 k_2 a sr tr uu si sm bv ti xv pt u2 h0 n0 vG UG'.heap LG ∧ CHr Z oEL UG.vm UG.heap UG'.vm UG'.heap ∧ ReturnedEndW UG oG UG' LG ({ frames := 6, cells := 8, slots := 90, locals := 3080 } : Room).cells ({ frames := 6, cells := 8, slots := 90, locals := 3080 } : Room).slots) := by
  rcases uS with ⟨e1, e2⟩ | ⟨e1, e2⟩ | ⟨e1, e2⟩
  · subst e1; subst e2; rcases bS with e3 | e3
    · subst e3; rcases bT with e4 | e4
      · subst e4; have e5 : sm = (1 : Int32) := rM.symm.trans (by decide); subst e5; have e6 : bv = (0 : Int32) := rB.symm.trans (by decide); subst e6; exact rm_ld1S_000 l Z a0 hw ws wA wD wG wU wV wN wB wC wF wE wO k_1 k_2 a pt ti xv u2 h0 n0 O0 hS F_t pT rX uX
      · subst e4; have e5 : sm = (1 : Int32) := rM.symm.trans (by decide); subst e5; have e6 : bv = (1 : Int32) := rB.symm.trans (by decide); subst e6; exact rm_ld1S_001 l Z a0 hw ws wA wD wG wU wV wN wB wC wF wE wO k_1 k_2 a pt ti xv u2 h0 n0 O0 hS F_t pT rX uX
    · subst e3; rcases bT with e4 | e4
      · subst e4; have e5 : sm = (0 : Int32) := rM.symm.trans (by decide); subst e5; have e6 : bv = (0 : Int32) := rB.symm.trans (by decide); subst e6; exact rm_ld1S_010 l Z a0 hw ws wA wD wG wU wV wN wB wC wF wE wO k_1 k_2 a pt ti xv u2 h0 n0 O0 hS F_t pT rX uX
      · subst e4; have e5 : sm = (0 : Int32) := rM.symm.trans (by decide); subst e5; have e6 : bv = (0 : Int32) := rB.symm.trans (by decide); subst e6; exact rm_ld1S_011 l Z a0 hw ws wA wD wG wU wV wN wB wC wF wE wO k_1 k_2 a pt ti xv u2 h0 n0 O0 hS F_t pT rX uX
  · subst e1; subst e2; rcases bS with e3 | e3
    · subst e3; rcases bT with e4 | e4
      · subst e4; have e5 : sm = (1 : Int32) := rM.symm.trans (by decide); subst e5; have e6 : bv = (0 : Int32) := rB.symm.trans (by decide); subst e6; exact rm_ld1S_1x0 l Z a0 hw ws wA wD wG wU wV wN wB wC wF wE wO k_1 k_2 a (0 : Int32) pt ti xv u2 h0 n0 O0 hS F_t pT rX uX
      · subst e4; have e5 : sm = (1 : Int32) := rM.symm.trans (by decide); subst e5; have e6 : bv = (1 : Int32) := rB.symm.trans (by decide); subst e6; exact rm_ld1S_1x1 l Z a0 hw ws wA wD wG wU wV wN wB wC wF wE wO k_1 k_2 a (0 : Int32) pt ti xv u2 h0 n0 O0 hS F_t pT rX uX
    · subst e3; rcases bT with e4 | e4
      · subst e4; have e5 : sm = (1 : Int32) := rM.symm.trans (by decide); subst e5; have e6 : bv = (0 : Int32) := rB.symm.trans (by decide); subst e6; exact rm_ld1S_1x0 l Z a0 hw ws wA wD wG wU wV wN wB wC wF wE wO k_1 k_2 a (1 : Int32) pt ti xv u2 h0 n0 O0 hS F_t pT rX uX
      · subst e4; have e5 : sm = (1 : Int32) := rM.symm.trans (by decide); subst e5; have e6 : bv = (1 : Int32) := rB.symm.trans (by decide); subst e6; exact rm_ld1S_1x1 l Z a0 hw ws wA wD wG wU wV wN wB wC wF wE wO k_1 k_2 a (1 : Int32) pt ti xv u2 h0 n0 O0 hS F_t pT rX uX
  · subst e1; subst e2; rcases bS with e3 | e3
    · subst e3; rcases bT with e4 | e4
      · subst e4; have e5 : sm = (0 : Int32) := rM.symm.trans (by decide); subst e5; have e6 : bv = (0 : Int32) := rB.symm.trans (by decide); subst e6; exact rm_ld1S_2x0 l Z a0 hw ws wA wD wG wU wV wN wB wC wF wE wO k_1 k_2 a (0 : Int32) pt ti xv u2 h0 n0 O0 hS F_t pT rX uX
      · subst e4; have e5 : sm = (0 : Int32) := rM.symm.trans (by decide); subst e5; have e6 : bv = (0 : Int32) := rB.symm.trans (by decide); subst e6; exact rm_ld1S_2x1 l Z a0 hw ws wA wD wG wU wV wN wB wC wF wE wO k_1 k_2 a (0 : Int32) pt ti xv u2 h0 n0 O0 hS F_t pT rX uX
    · subst e3; rcases bT with e4 | e4
      · subst e4; have e5 : sm = (0 : Int32) := rM.symm.trans (by decide); subst e5; have e6 : bv = (0 : Int32) := rB.symm.trans (by decide); subst e6; exact rm_ld1S_2x0 l Z a0 hw ws wA wD wG wU wV wN wB wC wF wE wO k_1 k_2 a (1 : Int32) pt ti xv u2 h0 n0 O0 hS F_t pT rX uX
      · subst e4; have e5 : sm = (0 : Int32) := rM.symm.trans (by decide); subst e5; have e6 : bv = (0 : Int32) := rB.symm.trans (by decide); subst e6; exact rm_ld1S_2x1 l Z a0 hw ws wA wD wG wU wV wN wB wC wF wE wO k_1 k_2 a (1 : Int32) pt ti xv u2 h0 n0 O0 hS F_t pT rX uX

theorem d11_0 : decode jdk_32_method_12_code 0 = .ok (.aload_n 1, 1) := by decide +kernel
theorem d11_1 : decode jdk_32_method_12_code 1 = .ok (.invokestatic 17, 3) := by decide +kernel
theorem d11_4 : decode jdk_32_method_12_code 4 = .ok (.pop, 1) := by decide +kernel
theorem d11_5 : decode jdk_32_method_12_code 5 = .ok (.aload_n 0, 1) := by decide +kernel
theorem d11_6 : decode jdk_32_method_12_code 6 = .ok (.invokevirtual 43, 3) := by decide +kernel
theorem d11_9 : decode jdk_32_method_12_code 9 = .ok (.ifCond .eq 7, 3) := by decide +kernel
theorem d11_12 : decode jdk_32_method_12_code 12 = .ok (.invokestatic 53, 3) := by decide +kernel
theorem d11_15 : decode jdk_32_method_12_code 15 = .ok (.areturn, 1) := by decide +kernel
def Q_rm_fmE (Z : State) (wA wD wG wU wV wN wB wC wF wE wO : Addr) (k_1 k_2 : ClassId) (f : Addr) (h0 : Heap) (n0 : Nat) (v : Option Value) (h : Heap) (L : List Loc) : Prop := v = some (.ref wO) ∧ Fr n0 L ∧ h = h0
set_option maxRecDepth 65536 in
set_option maxHeartbeats 40000000 in
theorem rm_fmE (l : Launch) (Z : State) (a0 : Array Value) (hw : ∀ d ∈ tables_1, d.before a0 Z = true) (ws : List Jvm.Cond) (wA wD wG wU wV wN wB wC wF wE wO : Addr) (k_1 k_2 : ClassId) (f : Addr) (h0 : Heap) (n0 : Nat) (O0 : Old Z n0 h0) (hS : St0 Z wA wD wG wU wV wN wB wC wF wE wO k_1 k_2 ) :
    MetFree l (⟨"java/util/Optional", "flatMap", "(Ljava/util/function/Function;)Ljava/util/Optional;"⟩ : MethodName) (head1 (Jvm.Cond.code (⟨"java/util/Optional", "flatMap", "(Ljava/util/function/Function;)Ljava/util/Optional;"⟩ : MethodName) jdk_32_method_12_code 3 (some (.object "java/util/Optional")) :: ws) ({ frames := 1, cells := 0, slots := 0, locals := 12 } : Room)) (fun aG UG => aG = #[(.ref wO), (.ref f)] ∧ Z.Warmed39 UG.vm ∧ UG.heap = h0) (fun _ _ _ _ _ => True) (fun _ UG oG UG' => ∃ vG LG, oG = .returned vG ∧ Q_rm_fmE Z wA wD wG wU wV wN wB wC wF wE wO k_1 k_2 f h0 n0 vG UG'.heap LG ∧ FrameEnd UG oG UG' LG ({ frames := 1, cells := 0, slots := 0, locals := 12 } : Room).cells ({ frames := 1, cells := 0, slots := 0, locals := 12 } : Room).slots) := by
  refine MetFree.of_bodySF (plainFor_of_name pn_2) hisR ?_
  intro pG eG sG mG argsG belowG methG cG s₁ Bd hml0 hP hK
  obtain ⟨rfl, hZ, hh⟩ := hP
  have hx := Bd.exec
  have hby := Bd.bytes
  have hml : cG.maxLocals = 3 := hml0
  have hown : sG.vm.findClass "java/util/Optional" = some mG.cls := findClass_of_methodNamed Bd.named
  have hnm := (name_of_methodNamed Bd.named Bd.method).1
  have X0 : Stand pG l eG ({ frames := 1, cells := 0, slots := 0, locals := 12 } : Room) sG mG #[(.ref wO), (.ref f)] belowG methG cG s₁ [] 0 0 := Stand.of_body Bd
  have e0 : s₁.heap = h0 := by rw [← hh, Bd.state]; rfl
  have N0 := Fr.nil n0
  have K0 := Keep.refl h0 []
  obtain ⟨S_wA, E_wA, S_wD, E_wD, S_wG, E_wG, S_wU, E_wU, S_wV, E_wV, S_wN, E_wN, S_wB, E_wB, S_wC, E_wC, S_wF, E_wF, S_wE, E_wE, S_wO, E_wO, F_wA_ordinal, F_wG_ordinal, F_wD_ordinal, F_wU_ordinal, F_wV_ordinal, F_wN_ordinal, F_wB_ordinal, F_wC_ordinal, F_wF_ordinal, F_wE_ordinal, F_wO_value, L_1, L_2, ne_wA_wG, ne_wA_wD, ne_wA_wB, ne_wA_wC, ne_wA_wF, ne_wA_wE, ne_wG_wD, ne_wG_wB, ne_wG_wC, ne_wG_wF, ne_wG_wE, ne_wD_wB, ne_wD_wC, ne_wD_wF, ne_wD_wE, ne_wU_wV, ne_wU_wN, ne_wV_wN, ne_wB_wC, ne_wB_wF, ne_wB_wE, ne_wC_wF, ne_wC_wE, ne_wF_wE⟩ := (id hS : St0 Z wA wD wG wU wV wN wB wC wF wE wO k_1 k_2 )
  refine ostart (g' := (mkF mG 0 #[oa wO, oa f, .unset] [])) (by first | (simp [entryFrame, mkF, argsToLocals, Value.category]; done) | rfl) ?_
  refine ob s₁ (mkF mG 1 #[oa wO, oa f, .unset] [(.ref f)]) (fun _ kk => XS.aloadN X0.here hx rfl (hb hby d11_0) rfl rfl kk) ?_
  obtain ⟨_, _, ⟨T1, L1, k1, n1⟩, -, X1, ⟨Lc1, hQ1, l1, y1, z1⟩, st1⟩ := Jvm.LawKit.callS X0 hx (y := (⟨"java/util/Objects", "requireNonNull", "(Ljava/lang/Object;)Ljava/lang/Object;"⟩ : MethodName)) hown (mvT hZ (ow hw 87 rfl)) (mvT hZ (ow hw 88 rfl)) (mvT hZ (ow hw 34 rfl)) (mvT hZ (ow hw 89 rfl)) (by decide) (backOf (W := 0) (rm_rn1 l Z a0 hw [] wA wD wG wU wV wN wB wC wF wE wO k_1 k_2 f h0 n0 O0 hS ) hZ (ow hw 89 rfl) (ow hw 34 rfl) (by decide) (by decide)) (g := (mkF mG 1 #[oa wO, oa f, .unset] [(.ref f)])) rfl (by rw [hml]; rfl) (argsL := [(.ref f)]) (rest := []) (lenOf pd_0 rfl) rfl (by show 2 * 0 + _ ≤ _; exact Nat.le_of_eq rfl) (hb hby d11_1) (fun _ _ => ⟨rfl, e0, (by decide : 0 + 0 ≤ _), (by decide : 0 + 0 ≤ _)⟩)
  dsimp only [Pt.U, Pt.locs, Pt.cells, Pt.slots] at X1 l1 y1 z1 st1 hQ1
  subst l1 y1 z1
  obtain ⟨rfl, N1q, e1⟩ := hQ1
  have N1 := Fr.app N0 N1q
  obtain ⟨LL2, X1, N1⟩ : ∃ LL, Stand pG l eG _ _ mG _ belowG methG cG T1 LL 0 0 ∧ Fr n0 LL := ⟨_, X1, N1⟩
  refine ob T1 (mkF mG 4 #[oa wO, oa f, .unset] [(.ref f)]) (fun _ kk => st1 _ kk) ?_
  refine ob T1 (mkF mG 5 #[oa wO, oa f, .unset] []) (fun _ kk => XS.pop X1.here hx rfl (hb hby d11_4) rfl rfl kk) ?_
  refine ob T1 (mkF mG 6 #[oa wO, oa f, .unset] [(.ref wO)]) (fun _ kk => XS.aloadN X1.here hx rfl (hb hby d11_5) rfl rfl kk) ?_
  obtain ⟨cq3, kq3, q3a, q3b, q3c⟩ := isOf hZ e1 (E_wO.ext O0.2)
  obtain ⟨_, _, ⟨T3, L3, k3, n3⟩, -, X3, ⟨Lc3, hQ3, l3, y3, z3⟩, st3⟩ := X1.virtualBack hx (y := (⟨"java/util/Optional", "isEmpty", "()Z"⟩ : MethodName)) (z := (⟨"java/util/Optional", "isEmpty", "()Z"⟩ : MethodName)) hown (mvT hZ (ow hw 90 rfl)) (mvT hZ (ow hw 91 rfl)) (notFace_of_selects (args := #[]) (mvT hZ (ow hw 93 rfl))) (mvT hZ (ow hw 93 rfl)) (mvT hZ (ow hw 92 rfl)) (by decide) (backOf (W := 0) (rm_ieE l Z a0 hw [] wA wD wG wU wV wN wB wC wF wE wO k_1 k_2  h0 n0 O0 hS ) hZ (ow hw 94 rfl) (ow hw 67 rfl) (by decide) (by decide)) q3a q3c (g := (mkF mG 6 #[oa wO, oa f, .unset] [(.ref wO)])) rfl (by rw [hml]; rfl) (Steps.refl _) (argsL := []) (rest := []) (lenOf pd_9 rfl) rfl (by show 2 * 0 + _ ≤ _; exact Nat.le_of_eq rfl) (hb hby d11_6) (fun _ _ => ⟨rfl, e1, (by decide : 0 + 0 ≤ _), (by decide : 0 + 0 ≤ _)⟩)
  dsimp only [Pt.U, Pt.locs, Pt.cells, Pt.slots] at X3 l3 y3 z3 st3 hQ3
  subst l3 y3 z3
  obtain ⟨rfl, N3q, e3⟩ := hQ3
  have N3 := Fr.app N1 N3q
  obtain ⟨LL4, X3, N3⟩ : ∃ LL, Stand pG l eG _ _ mG _ belowG methG cG T3 LL 0 0 ∧ Fr n0 LL := ⟨_, X3, N3⟩
  refine ob T3 (mkF mG 9 #[oa wO, oa f, .unset] [(.int (1 : Int32))]) (fun _ kk => st3.trans kk) ?_
  refine ob T3 (mkF mG 12 #[oa wO, oa f, .unset] []) (fun _ kk => XS.ifNo X3.here hx rfl (hb hby d11_9) rfl ((if0 _ _).trans (feq (by decide : ¬ ((1 : Int32) = (0 : Int32)))).1) kk) ?_
  obtain ⟨_, _, ⟨T5, L5, k5, n5⟩, -, X5, ⟨Lc5, hQ5, l5, y5, z5⟩, st5⟩ := Jvm.LawKit.callS X3 hx (y := (⟨"java/util/Optional", "empty", "()Ljava/util/Optional;"⟩ : MethodName)) hown (mvT hZ (ow hw 168 rfl)) (mvT hZ (ow hw 169 rfl)) (mvT hZ (ow hw 67 rfl)) (mvT hZ (ow hw 170 rfl)) (by decide) (backOf (W := 0) (rm_emp l Z a0 hw [] wA wD wG wU wV wN wB wC wF wE wO k_1 k_2  h0 n0 O0 hS ) hZ (ow hw 170 rfl) (ow hw 67 rfl) (by decide) (by decide)) (g := (mkF mG 12 #[oa wO, oa f, .unset] [])) rfl (by rw [hml]; rfl) (argsL := []) (rest := []) (lenOf pd_10 rfl) rfl (by show 2 * 0 + _ ≤ _; exact Nat.le_of_eq rfl) (hb hby d11_12) (fun _ _ => ⟨rfl, e3, (by decide : 0 + 0 ≤ _), (by decide : 0 + 0 ≤ _)⟩)
  dsimp only [Pt.U, Pt.locs, Pt.cells, Pt.slots] at X5 l5 y5 z5 st5 hQ5
  subst l5 y5 z5
  obtain ⟨rfl, N5q, e5⟩ := hQ5
  have N5 := Fr.app N3 N5q
  obtain ⟨LL6, X5, N5⟩ : ∃ LL, Stand pG l eG _ _ mG _ belowG methG cG T5 LL 0 0 ∧ Fr n0 LL := ⟨_, X5, N5⟩
  refine ob T5 (mkF mG 15 #[oa wO, oa f, .unset] [(.ref wO)]) (fun _ kk => st5 _ kk) ?_
  obtain ⟨fs, hr, hrun, hended, hW, hsame⟩ := X5.leave (v := some (.ref wO)) (fun h => by rw [Bd.returns] at h; cases h)
  refine oout (oretA X5 hx Bd.returns rfl rfl (hb hby d11_15) hr) hrun hended ⟨_, _, rfl, ?_, ⟨_, rfl⟩, hW, hsame.mono (by decide) (by decide)⟩
  show Q_rm_fmE Z wA wD wG wU wV wN wB wC wF wE wO k_1 k_2 f h0 n0 _ T5.heap _
  rw [e5]
  exact ⟨rfl, N5, rfl⟩

theorem d11_16 : decode jdk_32_method_12_code 16 = .ok (.aload_n 1, 1) := by decide +kernel
theorem d11_17 : decode jdk_32_method_12_code 17 = .ok (.aload_n 0, 1) := by decide +kernel
theorem d11_18 : decode jdk_32_method_12_code 18 = .ok (.getfield 13, 3) := by decide +kernel
theorem d11_21 : decode jdk_32_method_12_code 21 = .ok (.invokeinterface 57 2, 5) := by decide +kernel
theorem d11_26 : decode jdk_32_method_12_code 26 = .ok (.checkcast 2, 3) := by decide +kernel
theorem d11_29 : decode jdk_32_method_12_code 29 = .ok (.astore_n 2, 1) := by decide +kernel
theorem d11_30 : decode jdk_32_method_12_code 30 = .ok (.aload_n 2, 1) := by decide +kernel
theorem d11_31 : decode jdk_32_method_12_code 31 = .ok (.invokestatic 17, 3) := by decide +kernel
theorem d11_34 : decode jdk_32_method_12_code 34 = .ok (.checkcast 2, 3) := by decide +kernel
theorem d11_37 : decode jdk_32_method_12_code 37 = .ok (.areturn, 1) := by decide +kernel
def Q_rm_fm0 (Z : State) (wA wD wG wU wV wN wB wC wF wE wO : Addr) (k_1 k_2 : ClassId) (o f a uu : Addr) (sr tr si sm bv ti xv : Int32) (pt : Addr) (h0 : Heap) (n0 : Nat) (v : Option Value) (h : Heap) (L : List Loc) : Prop := v = some (.ref wO) ∧ Fr n0 L ∧ Keep h0 h [] ∧ Old Z n0 h
set_option maxRecDepth 65536 in
set_option maxHeartbeats 40000000 in
theorem rm_fm0 (l : Launch) (Z : State) (a0 : Array Value) (hw : ∀ d ∈ tables_1, d.before a0 Z = true) (ws : List Jvm.Cond) (wA wD wG wU wV wN wB wC wF wE wO : Addr) (k_1 k_2 : ClassId) (o f a uu : Addr) (sr tr si sm bv ti xv : Int32) (pt : Addr) (h0 : Heap) (n0 : Nat) (O0 : Old Z n0 h0) (hS : St0 Z wA wD wG wU wV wN wB wC wF wE wO k_1 k_2 ) (E_o : Exa Z h0 o "java/util/Optional") (F_o : Fld Z h0 o "java/util/Optional" "value" "Ljava/lang/Object;" (.ref uu)) (F_f : oLam h0 f k_1 [(.ref a), (.int sr), (.int tr)]) (E_a : Exa Z h0 a "com/example/vorgang/vorgang/model/CallPolicy") (F_t : Fld Z h0 a "com/example/vorgang/vorgang/model/CallPolicy" "transactionType" "Lcom/example/vorgang/vorgang/model/Policy;" (.ref pt)) (uS : oUse wN wV wU si uu) (bS : oBo sr) (bT : oBo tr) (rM : oSm si sr = sm) (rB : oAn tr sm = bv) (pT : oPol wA wB wC wD wE wF wG ti pt) (rX : oRu ti bv = xv) (lX : xv < (0 : Int32)) :
    MetFree l (⟨"java/util/Optional", "flatMap", "(Ljava/util/function/Function;)Ljava/util/Optional;"⟩ : MethodName) (head1 (Jvm.Cond.code (⟨"java/util/Optional", "flatMap", "(Ljava/util/function/Function;)Ljava/util/Optional;"⟩ : MethodName) jdk_32_method_12_code 3 (some (.object "java/util/Optional")) :: ws) ({ frames := 8, cells := 8, slots := 90, locals := 3109 } : Room)) (fun aG UG => aG = #[(.ref o), (.ref f)] ∧ Z.Warmed39 UG.vm ∧ UG.heap = h0 ∧ CHv Z oEL UG.vm h0) (fun _ _ _ _ _ => True) (fun _ UG oG UG' => ∃ vG LG, oG = .returned vG ∧ Q_rm_fm0 Z wA wD wG wU wV wN wB wC wF wE wO k_1 k_2 o f a uu sr tr si sm bv ti xv pt h0 n0 vG UG'.heap LG ∧ CHr Z oEL UG.vm UG.heap UG'.vm UG'.heap ∧ ReturnedEndW UG oG UG' LG ({ frames := 8, cells := 8, slots := 90, locals := 3109 } : Room).cells ({ frames := 8, cells := 8, slots := 90, locals := 3109 } : Room).slots) := by
  refine MetFree.of_bodySF (plainFor_of_name pn_2) hisR ?_
  intro pG eG sG mG argsG belowG methG cG s₁ Bd hml0 hP hK
  obtain ⟨rfl, hZ, hh, hC⟩ := hP
  have hx := Bd.exec
  have hby := Bd.bytes
  have hml : cG.maxLocals = 3 := hml0
  have hown : sG.vm.findClass "java/util/Optional" = some mG.cls := findClass_of_methodNamed Bd.named
  have hnm := (name_of_methodNamed Bd.named Bd.method).1
  have X0 : Stand pG l eG ({ frames := 8, cells := 8, slots := 90, locals := 3109 } : Room) (sG.setVm sG.vm) mG #[(.ref o), (.ref f)] belowG methG cG s₁ [] 0 0 := Stand.of_body Bd
  have e0 : s₁.heap = h0 := by rw [← hh, Bd.state]; rfl
  have N0 := Fr.nil n0
  have K0 := Keep.refl h0 []
  have hS0 : sG.Since sG.vm h0.size := (State.WarmedH.refl sG).since _
  have hk0 : h0.size ≤ h0.size := Nat.le_refl _
  have CR0 : CHr Z oEL sG.vm h0 sG.vm h0 := CHr.refl hC
  have hEL : EW Z a0 oEL := own_EW hw
  obtain ⟨S_wA, E_wA, S_wD, E_wD, S_wG, E_wG, S_wU, E_wU, S_wV, E_wV, S_wN, E_wN, S_wB, E_wB, S_wC, E_wC, S_wF, E_wF, S_wE, E_wE, S_wO, E_wO, F_wA_ordinal, F_wG_ordinal, F_wD_ordinal, F_wU_ordinal, F_wV_ordinal, F_wN_ordinal, F_wB_ordinal, F_wC_ordinal, F_wF_ordinal, F_wE_ordinal, F_wO_value, L_1, L_2, ne_wA_wG, ne_wA_wD, ne_wA_wB, ne_wA_wC, ne_wA_wF, ne_wA_wE, ne_wG_wD, ne_wG_wB, ne_wG_wC, ne_wG_wF, ne_wG_wE, ne_wD_wB, ne_wD_wC, ne_wD_wF, ne_wD_wE, ne_wU_wV, ne_wU_wN, ne_wV_wN, ne_wB_wC, ne_wB_wF, ne_wB_wE, ne_wC_wF, ne_wC_wE, ne_wF_wE⟩ := (id hS : St0 Z wA wD wG wU wV wN wB wC wF wE wO k_1 k_2 )
  have E_uu := own_ue hS uS
  refine ostart (g' := (mkF mG 0 #[oa o, oa f, .unset] [])) (by first | (simp [entryFrame, mkF, argsToLocals, Value.category]; done) | rfl) ?_
  refine ob s₁ (mkF mG 1 #[oa o, oa f, .unset] [(.ref f)]) (fun _ kk => XS.aloadN X0.here hx rfl (hb hby d11_0) rfl rfl kk) ?_
  obtain ⟨_, _, ⟨T1, L1, k1, n1⟩, -, X1, ⟨Lc1, hQ1, l1, y1, z1⟩, st1⟩ := Jvm.LawKit.callS X0 hx (y := (⟨"java/util/Objects", "requireNonNull", "(Ljava/lang/Object;)Ljava/lang/Object;"⟩ : MethodName)) hown (mvT hZ (ow hw 87 rfl)) (mvT hZ (ow hw 88 rfl)) (mvT hZ (ow hw 34 rfl)) (mvT hZ (ow hw 89 rfl)) (by decide) (backOf (W := 0) (rm_rn1 l Z a0 hw [] wA wD wG wU wV wN wB wC wF wE wO k_1 k_2 f h0 n0 O0 hS ) hZ (ow hw 89 rfl) (ow hw 34 rfl) (by decide) (by decide)) (g := (mkF mG 1 #[oa o, oa f, .unset] [(.ref f)])) rfl (by rw [hml]; rfl) (argsL := [(.ref f)]) (rest := []) (lenOf pd_0 rfl) rfl (by show 2 * 0 + _ ≤ _; exact Nat.le_of_eq rfl) (hb hby d11_1) (fun _ _ => ⟨rfl, e0, (by decide : 0 + 0 ≤ _), (by decide : 0 + 0 ≤ _)⟩)
  dsimp only [Pt.U, Pt.locs, Pt.cells, Pt.slots] at X1 l1 y1 z1 st1 hQ1
  subst l1 y1 z1
  obtain ⟨rfl, N1q, e1⟩ := hQ1
  have N1 := Fr.app N0 N1q
  obtain ⟨LL2, X1, N1⟩ : ∃ LL, Stand pG l eG _ _ mG _ belowG methG cG T1 LL 0 0 ∧ Fr n0 LL := ⟨_, X1, N1⟩
  refine ob T1 (mkF mG 4 #[oa o, oa f, .unset] [(.ref f)]) (fun _ kk => st1 _ kk) ?_
  refine ob T1 (mkF mG 5 #[oa o, oa f, .unset] []) (fun _ kk => XS.pop X1.here hx rfl (hb hby d11_4) rfl rfl kk) ?_
  refine ob T1 (mkF mG 6 #[oa o, oa f, .unset] [(.ref o)]) (fun _ kk => XS.aloadN X1.here hx rfl (hb hby d11_5) rfl rfl kk) ?_
  obtain ⟨cq3, kq3, q3a, q3b, q3c⟩ := isOf hZ e1 E_o
  obtain ⟨_, _, ⟨T3, L3, k3, n3⟩, -, X3, ⟨Lc3, hQ3, l3, y3, z3⟩, st3⟩ := X1.virtualBack hx (y := (⟨"java/util/Optional", "isEmpty", "()Z"⟩ : MethodName)) (z := (⟨"java/util/Optional", "isEmpty", "()Z"⟩ : MethodName)) hown (mvT hZ (ow hw 90 rfl)) (mvT hZ (ow hw 91 rfl)) (notFace_of_selects (args := #[]) (mvT hZ (ow hw 93 rfl))) (mvT hZ (ow hw 93 rfl)) (mvT hZ (ow hw 92 rfl)) (by decide) (backOf (W := 0) (rm_ieS l Z a0 hw [] wA wD wG wU wV wN wB wC wF wE wO k_1 k_2 o uu h0 n0 O0 hS F_o) hZ (ow hw 94 rfl) (ow hw 67 rfl) (by decide) (by decide)) q3a q3c (g := (mkF mG 6 #[oa o, oa f, .unset] [(.ref o)])) rfl (by rw [hml]; rfl) (Steps.refl _) (argsL := []) (rest := []) (lenOf pd_9 rfl) rfl (by show 2 * 0 + _ ≤ _; exact Nat.le_of_eq rfl) (hb hby d11_6) (fun _ _ => ⟨rfl, e1, (by decide : 0 + 0 ≤ _), (by decide : 0 + 0 ≤ _)⟩)
  dsimp only [Pt.U, Pt.locs, Pt.cells, Pt.slots] at X3 l3 y3 z3 st3 hQ3
  subst l3 y3 z3
  obtain ⟨rfl, N3q, e3⟩ := hQ3
  have N3 := Fr.app N1 N3q
  obtain ⟨LL4, X3, N3⟩ : ∃ LL, Stand pG l eG _ _ mG _ belowG methG cG T3 LL 0 0 ∧ Fr n0 LL := ⟨_, X3, N3⟩
  refine ob T3 (mkF mG 9 #[oa o, oa f, .unset] [(.int (0 : Int32))]) (fun _ kk => st3.trans kk) ?_
  refine ob T3 (mkF mG 16 #[oa o, oa f, .unset] []) (fun _ kk => XS.ifYes X3.here hx rfl (pc0 := 9) (pc' := 16) rfl (hb hby d11_9) rfl ((if0 _ _).trans (teq (by decide : (0 : Int32) = (0 : Int32))).1) (by decide) (by decide) kk) ?_
  refine ob T3 (mkF mG 17 #[oa o, oa f, .unset] [(.ref f)]) (fun _ kk => XS.aloadN X3.here hx rfl (hb hby d11_16) rfl rfl kk) ?_
  refine ob T3 (mkF mG 18 #[oa o, oa f, .unset] [(.ref o), (.ref f)]) (fun _ kk => XS.aloadN X3.here hx rfl (hb hby d11_17) rfl rfl kk) ?_
  obtain ⟨T5, X5, e5, st5⟩ := getF X3 hx hZ hown (host := "") (Or.inl (ow hw 76 rfl)) Via.refl e3 F_o (g := (mkF mG 18 #[oa o, oa f, .unset] [(.ref o), (.ref f)])) rfl rfl (hb hby d11_18)
  refine ob T5 (mkF mG 21 #[oa o, oa f, .unset] [(.ref uu), (.ref f)]) (fun _ kk => st5 _ kk) ?_
  obtain ⟨_, ⟨T6, L6, k6, n6⟩, X6, hS6, gs6, ⟨Lc6, hQ6, l6, y6, z6, CS6⟩, st6⟩ := own_app1 X5 hx hZ hw L_1 hown (ow hw 95 rfl) e5 F_f E_a (E_uu.ext O0.2) (rm_ldA0 l Z a0 hw [] wA wD wG wU wV wN wB wC wF wE wO k_1 k_2 a sr tr uu si sm bv ti xv pt h0 n0 O0 hS F_t uS bS bT rM rB pT rX lX) (fun _ _ _ q => by obtain ⟨hv, -⟩ := q; exact ⟨_, hv, rfl⟩) (by decide) (W := 0) (by decide) (g := (mkF mG 21 #[oa o, oa f, .unset] [(.ref uu), (.ref f)])) rfl (by rw [hml]; rfl) rfl (by show 2 * 0 + _ ≤ _; exact Nat.le_of_eq rfl) (hb hby d11_21) (by decide : 0 + 8 ≤ _) (by decide : 0 + 90 ≤ _)
  dsimp only [Pt.U, Pt.locs, Pt.cells, Pt.slots] at X6 l6 y6 z6 st6 hQ6 hS6 gs6 CS6
  subst l6 y6 z6
  obtain ⟨X6, hS6, hZ, hown⟩ := rebS hS0 (by rw [e5]; exact hk0) X6 hS6 gs6 hZ hown
  obtain ⟨h6, e6⟩ : ∃ h, T6.heap = h := ⟨_, rfl⟩
  rw [e6] at hQ6
  obtain ⟨rfl, N6q, K6q, O6⟩ := hQ6
  have N6 := Fr.app N3 N6q
  have K6 := K0.trans K6q all0
  rw [e6] at CS6 hS6
  have hk6 : h6.size ≤ h6.size := Nat.le_refl _
  have CR6 := CR0.trans CS6
  obtain ⟨LL7, X6, N6⟩ : ∃ LL, Stand pG l eG _ _ mG _ belowG methG cG T6 LL 8 90 ∧ Fr n0 LL := ⟨_, X6, N6⟩
  refine ob T6 (mkF mG 26 #[oa o, oa f, .unset] [(.ref wO)]) (fun _ kk => st6.trans kk) ?_
  obtain ⟨T8, X8, e8, st8⟩ := castY X6 hx hZ hown (ow hw 69 rfl) e6 (Ins.self (E_wO.ext O6.2)) (g := (mkF mG 26 #[oa o, oa f, .unset] [(.ref wO)])) rfl rfl (hb hby d11_26)
  refine ob T8 (mkF mG 29 #[oa o, oa f, .unset] [(.ref wO)]) (fun _ kk => st8 _ kk) ?_
  refine ob T8 (mkF mG 30 #[oa o, oa f, oa wO] []) (fun _ kk => XS.astoreN X8.here hx rfl (hb hby d11_29) rfl rfl (l' := #[oa o, oa f, oa wO]) rfl kk) ?_
  refine ob T8 (mkF mG 31 #[oa o, oa f, oa wO] [(.ref wO)]) (fun _ kk => XS.aloadN X8.here hx rfl (hb hby d11_30) rfl rfl kk) ?_
  obtain ⟨_, _, ⟨T9, L9, k9, n9⟩, -, X9, ⟨Lc9, hQ9, l9, y9, z9⟩, st9⟩ := Jvm.LawKit.callS X8 hx (y := (⟨"java/util/Objects", "requireNonNull", "(Ljava/lang/Object;)Ljava/lang/Object;"⟩ : MethodName)) hown (mvT hZ (ow hw 87 rfl)) (mvT hZ (ow hw 88 rfl)) (mvT hZ (ow hw 34 rfl)) (mvT hZ (ow hw 89 rfl)) (by decide) (backOf (W := 0) (rm_rn1 l Z a0 hw [] wA wD wG wU wV wN wB wC wF wE wO k_1 k_2 wO h6 n0 O6 hS ) hZ (ow hw 89 rfl) (ow hw 34 rfl) (by decide) (by decide)) (g := (mkF mG 31 #[oa o, oa f, oa wO] [(.ref wO)])) rfl (by rw [hml]; rfl) (argsL := [(.ref wO)]) (rest := []) (lenOf pd_0 rfl) rfl (by show 2 * 0 + _ ≤ _; exact Nat.le_of_eq rfl) (hb hby d11_31) (fun _ _ => ⟨rfl, e8, (by decide : 8 + 0 ≤ _), (by decide : 90 + 0 ≤ _)⟩)
  dsimp only [Pt.U, Pt.locs, Pt.cells, Pt.slots] at X9 l9 y9 z9 st9 hQ9
  subst l9 y9 z9
  obtain ⟨rfl, N9q, e9⟩ := hQ9
  have N9 := Fr.app N6 N9q
  obtain ⟨LL10, X9, N9⟩ : ∃ LL, Stand pG l eG _ _ mG _ belowG methG cG T9 LL 8 90 ∧ Fr n0 LL := ⟨_, X9, N9⟩
  refine ob T9 (mkF mG 34 #[oa o, oa f, oa wO] [(.ref wO)]) (fun _ kk => st9 _ kk) ?_
  obtain ⟨T11, X11, e11, st11⟩ := castY X9 hx hZ hown (ow hw 69 rfl) e9 (Ins.self (E_wO.ext O6.2)) (g := (mkF mG 34 #[oa o, oa f, oa wO] [(.ref wO)])) rfl rfl (hb hby d11_34)
  refine ob T11 (mkF mG 37 #[oa o, oa f, oa wO] [(.ref wO)]) (fun _ kk => st11 _ kk) ?_
  obtain ⟨fs, hr, hrun, hended, hW, hsame⟩ := X11.leave (v := some (.ref wO)) (fun h => by rw [Bd.returns] at h; cases h)
  obtain ⟨w1, w2, w3⟩ := State.Since.ended (U := T11.setFrames fs) hS6 hW (by show _ ≤ T11.heap.size; rw [e11]; exact hk6) hsame
  have CF := CR6.trans (CHv.at X11 hZ hEL CR6.1)
  refine oout (oretA X11 hx Bd.returns rfl rfl (hb hby d11_37) hr) hrun hended ⟨_, _, rfl, ?_, ?_, ⟨_, rfl⟩, w1, w2, w3.mono (by decide) (by decide)⟩
  · show Q_rm_fm0 Z wA wD wG wU wV wN wB wC wF wE wO k_1 k_2 o f a uu sr tr si sm bv ti xv pt h0 n0 _ T11.heap _
    rw [e11]
    exact ⟨rfl, N9, K6, O6⟩
  · show CHr Z oEL sG.vm sG.heap T11.vm T11.heap
    rw [hh, e11]
    exact CF

def Q_rm_fm1 (Z : State) (wA wD wG wU wV wN wB wC wF wE wO : Addr) (k_1 k_2 : ClassId) (o f a uu : Addr) (sr tr si sm bv ti xv : Int32) (pt u2 : Addr) (h0 : Heap) (n0 : Nat) (v : Option Value) (h : Heap) (L : List Loc) : Prop := ∃ (b0 b1 : Addr), v = some (.ref b0) ∧ Fr n0 L ∧ Keep h0 h [] ∧ Old Z n0 h ∧ n0 ≤ b0 ∧ n0 ≤ b1 ∧ h0.size ≤ b0 ∧ h0.size ≤ b1 ∧ Exa Z h b0 "java/util/Optional" ∧ Fld Z h b0 "java/util/Optional" "value" "Ljava/lang/Object;" (.ref b1) ∧ Exa Z h b1 "com/example/vorgang/vorgang/model/CallContexts" ∧ Fld Z h b1 "com/example/vorgang/vorgang/model/CallContexts" "session" "Lcom/example/vorgang/vorgang/model/ContextUse;" (.ref uu) ∧ Fld Z h b1 "com/example/vorgang/vorgang/model/CallContexts" "transaction" "Lcom/example/vorgang/vorgang/model/ContextUse;" (.ref u2)
set_option maxRecDepth 65536 in
set_option maxHeartbeats 40000000 in
theorem rm_fm1 (l : Launch) (Z : State) (a0 : Array Value) (hw : ∀ d ∈ tables_1, d.before a0 Z = true) (ws : List Jvm.Cond) (wA wD wG wU wV wN wB wC wF wE wO : Addr) (k_1 k_2 : ClassId) (o f a uu : Addr) (sr tr si sm bv ti xv : Int32) (pt u2 : Addr) (h0 : Heap) (n0 : Nat) (O0 : Old Z n0 h0) (hS : St0 Z wA wD wG wU wV wN wB wC wF wE wO k_1 k_2 ) (E_o : Exa Z h0 o "java/util/Optional") (F_o : Fld Z h0 o "java/util/Optional" "value" "Ljava/lang/Object;" (.ref uu)) (F_f : oLam h0 f k_1 [(.ref a), (.int sr), (.int tr)]) (E_a : Exa Z h0 a "com/example/vorgang/vorgang/model/CallPolicy") (F_t : Fld Z h0 a "com/example/vorgang/vorgang/model/CallPolicy" "transactionType" "Lcom/example/vorgang/vorgang/model/Policy;" (.ref pt)) (uS : oUse wN wV wU si uu) (bS : oBo sr) (bT : oBo tr) (rM : oSm si sr = sm) (rB : oAn tr sm = bv) (pT : oPol wA wB wC wD wE wF wG ti pt) (rX : oRu ti bv = xv) (uX : oUse wN wV wU xv u2) :
    MetFree l (⟨"java/util/Optional", "flatMap", "(Ljava/util/function/Function;)Ljava/util/Optional;"⟩ : MethodName) (head1 (Jvm.Cond.code (⟨"java/util/Optional", "flatMap", "(Ljava/util/function/Function;)Ljava/util/Optional;"⟩ : MethodName) jdk_32_method_12_code 3 (some (.object "java/util/Optional")) :: ws) ({ frames := 8, cells := 8, slots := 90, locals := 3109 } : Room)) (fun aG UG => aG = #[(.ref o), (.ref f)] ∧ Z.Warmed39 UG.vm ∧ UG.heap = h0 ∧ CHv Z oEL UG.vm h0) (fun _ _ _ _ _ => True) (fun _ UG oG UG' => ∃ vG LG, oG = .returned vG ∧ Q_rm_fm1 Z wA wD wG wU wV wN wB wC wF wE wO k_1 k_2 o f a uu sr tr si sm bv ti xv pt u2 h0 n0 vG UG'.heap LG ∧ CHr Z oEL UG.vm UG.heap UG'.vm UG'.heap ∧ ReturnedEndW UG oG UG' LG ({ frames := 8, cells := 8, slots := 90, locals := 3109 } : Room).cells ({ frames := 8, cells := 8, slots := 90, locals := 3109 } : Room).slots) := by
  refine MetFree.of_bodySF (plainFor_of_name pn_2) hisR ?_
  intro pG eG sG mG argsG belowG methG cG s₁ Bd hml0 hP hK
  obtain ⟨rfl, hZ, hh, hC⟩ := hP
  have hx := Bd.exec
  have hby := Bd.bytes
  have hml : cG.maxLocals = 3 := hml0
  have hown : sG.vm.findClass "java/util/Optional" = some mG.cls := findClass_of_methodNamed Bd.named
  have hnm := (name_of_methodNamed Bd.named Bd.method).1
  have X0 : Stand pG l eG ({ frames := 8, cells := 8, slots := 90, locals := 3109 } : Room) (sG.setVm sG.vm) mG #[(.ref o), (.ref f)] belowG methG cG s₁ [] 0 0 := Stand.of_body Bd
  have e0 : s₁.heap = h0 := by rw [← hh, Bd.state]; rfl
  have N0 := Fr.nil n0
  have K0 := Keep.refl h0 []
  have hS0 : sG.Since sG.vm h0.size := (State.WarmedH.refl sG).since _
  have hk0 : h0.size ≤ h0.size := Nat.le_refl _
  have CR0 : CHr Z oEL sG.vm h0 sG.vm h0 := CHr.refl hC
  have hEL : EW Z a0 oEL := own_EW hw
  obtain ⟨S_wA, E_wA, S_wD, E_wD, S_wG, E_wG, S_wU, E_wU, S_wV, E_wV, S_wN, E_wN, S_wB, E_wB, S_wC, E_wC, S_wF, E_wF, S_wE, E_wE, S_wO, E_wO, F_wA_ordinal, F_wG_ordinal, F_wD_ordinal, F_wU_ordinal, F_wV_ordinal, F_wN_ordinal, F_wB_ordinal, F_wC_ordinal, F_wF_ordinal, F_wE_ordinal, F_wO_value, L_1, L_2, ne_wA_wG, ne_wA_wD, ne_wA_wB, ne_wA_wC, ne_wA_wF, ne_wA_wE, ne_wG_wD, ne_wG_wB, ne_wG_wC, ne_wG_wF, ne_wG_wE, ne_wD_wB, ne_wD_wC, ne_wD_wF, ne_wD_wE, ne_wU_wV, ne_wU_wN, ne_wV_wN, ne_wB_wC, ne_wB_wF, ne_wB_wE, ne_wC_wF, ne_wC_wE, ne_wF_wE⟩ := (id hS : St0 Z wA wD wG wU wV wN wB wC wF wE wO k_1 k_2 )
  have E_uu := own_ue hS uS
  refine ostart (g' := (mkF mG 0 #[oa o, oa f, .unset] [])) (by first | (simp [entryFrame, mkF, argsToLocals, Value.category]; done) | rfl) ?_
  refine ob s₁ (mkF mG 1 #[oa o, oa f, .unset] [(.ref f)]) (fun _ kk => XS.aloadN X0.here hx rfl (hb hby d11_0) rfl rfl kk) ?_
  obtain ⟨_, _, ⟨T1, L1, k1, n1⟩, -, X1, ⟨Lc1, hQ1, l1, y1, z1⟩, st1⟩ := Jvm.LawKit.callS X0 hx (y := (⟨"java/util/Objects", "requireNonNull", "(Ljava/lang/Object;)Ljava/lang/Object;"⟩ : MethodName)) hown (mvT hZ (ow hw 87 rfl)) (mvT hZ (ow hw 88 rfl)) (mvT hZ (ow hw 34 rfl)) (mvT hZ (ow hw 89 rfl)) (by decide) (backOf (W := 0) (rm_rn1 l Z a0 hw [] wA wD wG wU wV wN wB wC wF wE wO k_1 k_2 f h0 n0 O0 hS ) hZ (ow hw 89 rfl) (ow hw 34 rfl) (by decide) (by decide)) (g := (mkF mG 1 #[oa o, oa f, .unset] [(.ref f)])) rfl (by rw [hml]; rfl) (argsL := [(.ref f)]) (rest := []) (lenOf pd_0 rfl) rfl (by show 2 * 0 + _ ≤ _; exact Nat.le_of_eq rfl) (hb hby d11_1) (fun _ _ => ⟨rfl, e0, (by decide : 0 + 0 ≤ _), (by decide : 0 + 0 ≤ _)⟩)
  dsimp only [Pt.U, Pt.locs, Pt.cells, Pt.slots] at X1 l1 y1 z1 st1 hQ1
  subst l1 y1 z1
  obtain ⟨rfl, N1q, e1⟩ := hQ1
  have N1 := Fr.app N0 N1q
  obtain ⟨LL2, X1, N1⟩ : ∃ LL, Stand pG l eG _ _ mG _ belowG methG cG T1 LL 0 0 ∧ Fr n0 LL := ⟨_, X1, N1⟩
  refine ob T1 (mkF mG 4 #[oa o, oa f, .unset] [(.ref f)]) (fun _ kk => st1 _ kk) ?_
  refine ob T1 (mkF mG 5 #[oa o, oa f, .unset] []) (fun _ kk => XS.pop X1.here hx rfl (hb hby d11_4) rfl rfl kk) ?_
  refine ob T1 (mkF mG 6 #[oa o, oa f, .unset] [(.ref o)]) (fun _ kk => XS.aloadN X1.here hx rfl (hb hby d11_5) rfl rfl kk) ?_
  obtain ⟨cq3, kq3, q3a, q3b, q3c⟩ := isOf hZ e1 E_o
  obtain ⟨_, _, ⟨T3, L3, k3, n3⟩, -, X3, ⟨Lc3, hQ3, l3, y3, z3⟩, st3⟩ := X1.virtualBack hx (y := (⟨"java/util/Optional", "isEmpty", "()Z"⟩ : MethodName)) (z := (⟨"java/util/Optional", "isEmpty", "()Z"⟩ : MethodName)) hown (mvT hZ (ow hw 90 rfl)) (mvT hZ (ow hw 91 rfl)) (notFace_of_selects (args := #[]) (mvT hZ (ow hw 93 rfl))) (mvT hZ (ow hw 93 rfl)) (mvT hZ (ow hw 92 rfl)) (by decide) (backOf (W := 0) (rm_ieS l Z a0 hw [] wA wD wG wU wV wN wB wC wF wE wO k_1 k_2 o uu h0 n0 O0 hS F_o) hZ (ow hw 94 rfl) (ow hw 67 rfl) (by decide) (by decide)) q3a q3c (g := (mkF mG 6 #[oa o, oa f, .unset] [(.ref o)])) rfl (by rw [hml]; rfl) (Steps.refl _) (argsL := []) (rest := []) (lenOf pd_9 rfl) rfl (by show 2 * 0 + _ ≤ _; exact Nat.le_of_eq rfl) (hb hby d11_6) (fun _ _ => ⟨rfl, e1, (by decide : 0 + 0 ≤ _), (by decide : 0 + 0 ≤ _)⟩)
  dsimp only [Pt.U, Pt.locs, Pt.cells, Pt.slots] at X3 l3 y3 z3 st3 hQ3
  subst l3 y3 z3
  obtain ⟨rfl, N3q, e3⟩ := hQ3
  have N3 := Fr.app N1 N3q
  obtain ⟨LL4, X3, N3⟩ : ∃ LL, Stand pG l eG _ _ mG _ belowG methG cG T3 LL 0 0 ∧ Fr n0 LL := ⟨_, X3, N3⟩
  refine ob T3 (mkF mG 9 #[oa o, oa f, .unset] [(.int (0 : Int32))]) (fun _ kk => st3.trans kk) ?_
  refine ob T3 (mkF mG 16 #[oa o, oa f, .unset] []) (fun _ kk => XS.ifYes X3.here hx rfl (pc0 := 9) (pc' := 16) rfl (hb hby d11_9) rfl ((if0 _ _).trans (teq (by decide : (0 : Int32) = (0 : Int32))).1) (by decide) (by decide) kk) ?_
  refine ob T3 (mkF mG 17 #[oa o, oa f, .unset] [(.ref f)]) (fun _ kk => XS.aloadN X3.here hx rfl (hb hby d11_16) rfl rfl kk) ?_
  refine ob T3 (mkF mG 18 #[oa o, oa f, .unset] [(.ref o), (.ref f)]) (fun _ kk => XS.aloadN X3.here hx rfl (hb hby d11_17) rfl rfl kk) ?_
  obtain ⟨T5, X5, e5, st5⟩ := getF X3 hx hZ hown (host := "") (Or.inl (ow hw 76 rfl)) Via.refl e3 F_o (g := (mkF mG 18 #[oa o, oa f, .unset] [(.ref o), (.ref f)])) rfl rfl (hb hby d11_18)
  refine ob T5 (mkF mG 21 #[oa o, oa f, .unset] [(.ref uu), (.ref f)]) (fun _ kk => st5 _ kk) ?_
  obtain ⟨_, ⟨T6, L6, k6, n6⟩, X6, hS6, gs6, ⟨Lc6, hQ6, l6, y6, z6, CS6⟩, st6⟩ := own_app1 X5 hx hZ hw L_1 hown (ow hw 95 rfl) e5 F_f E_a (E_uu.ext O0.2) (rm_ldA1 l Z a0 hw [] wA wD wG wU wV wN wB wC wF wE wO k_1 k_2 a sr tr uu si sm bv ti xv pt u2 h0 n0 O0 hS F_t uS bS bT rM rB pT rX uX) (fun _ _ _ q => by obtain ⟨_, _, hv, -⟩ := q; exact ⟨_, hv, rfl⟩) (by decide) (W := 0) (by decide) (g := (mkF mG 21 #[oa o, oa f, .unset] [(.ref uu), (.ref f)])) rfl (by rw [hml]; rfl) rfl (by show 2 * 0 + _ ≤ _; exact Nat.le_of_eq rfl) (hb hby d11_21) (by decide : 0 + 8 ≤ _) (by decide : 0 + 90 ≤ _)
  dsimp only [Pt.U, Pt.locs, Pt.cells, Pt.slots] at X6 l6 y6 z6 st6 hQ6 hS6 gs6 CS6
  subst l6 y6 z6
  obtain ⟨X6, hS6, hZ, hown⟩ := rebS hS0 (by rw [e5]; exact hk0) X6 hS6 gs6 hZ hown
  obtain ⟨h6, e6⟩ : ∃ h, T6.heap = h := ⟨_, rfl⟩
  rw [e6] at hQ6
  obtain ⟨b0_6, b1_6, rfl, N6q, K6q, O6, n_b0_6, n_b1_6, z_b0_6, z_b1_6, F6_0, F6_1, F6_2, F6_3, F6_4⟩ := hQ6
  have N6 := Fr.app N3 N6q
  have sz_b0_6 : h0.size ≤ b0_6 := Nat.le_trans K0.1 z_b0_6
  have ne_o_b0_6 : o ≠ b0_6 := Nat.ne_of_lt (Nat.lt_of_lt_of_le E_o.lt z_b0_6)
  have ne_f_b0_6 : f ≠ b0_6 := Nat.ne_of_lt (Nat.lt_of_lt_of_le F_f.lt z_b0_6)
  have ne_a_b0_6 : a ≠ b0_6 := Nat.ne_of_lt (Nat.lt_of_lt_of_le E_a.lt z_b0_6)
  have sz_b1_6 : h0.size ≤ b1_6 := Nat.le_trans K0.1 z_b1_6
  have ne_o_b1_6 : o ≠ b1_6 := Nat.ne_of_lt (Nat.lt_of_lt_of_le E_o.lt z_b1_6)
  have ne_f_b1_6 : f ≠ b1_6 := Nat.ne_of_lt (Nat.lt_of_lt_of_le F_f.lt z_b1_6)
  have ne_a_b1_6 : a ≠ b1_6 := Nat.ne_of_lt (Nat.lt_of_lt_of_le E_a.lt z_b1_6)
  have K6 := K0.trans K6q all0
  rw [e6] at CS6 hS6
  have hk6 : h6.size ≤ h6.size := Nat.le_refl _
  have CR6 := CR0.trans CS6
  obtain ⟨LL7, X6, N6⟩ : ∃ LL, Stand pG l eG _ _ mG _ belowG methG cG T6 LL 8 90 ∧ Fr n0 LL := ⟨_, X6, N6⟩
  refine ob T6 (mkF mG 26 #[oa o, oa f, .unset] [(.ref b0_6)]) (fun _ kk => st6.trans kk) ?_
  obtain ⟨T8, X8, e8, st8⟩ := castY X6 hx hZ hown (ow hw 69 rfl) e6 (Ins.self F6_0) (g := (mkF mG 26 #[oa o, oa f, .unset] [(.ref b0_6)])) rfl rfl (hb hby d11_26)
  refine ob T8 (mkF mG 29 #[oa o, oa f, .unset] [(.ref b0_6)]) (fun _ kk => st8 _ kk) ?_
  refine ob T8 (mkF mG 30 #[oa o, oa f, oa b0_6] []) (fun _ kk => XS.astoreN X8.here hx rfl (hb hby d11_29) rfl rfl (l' := #[oa o, oa f, oa b0_6]) rfl kk) ?_
  refine ob T8 (mkF mG 31 #[oa o, oa f, oa b0_6] [(.ref b0_6)]) (fun _ kk => XS.aloadN X8.here hx rfl (hb hby d11_30) rfl rfl kk) ?_
  obtain ⟨_, _, ⟨T9, L9, k9, n9⟩, -, X9, ⟨Lc9, hQ9, l9, y9, z9⟩, st9⟩ := Jvm.LawKit.callS X8 hx (y := (⟨"java/util/Objects", "requireNonNull", "(Ljava/lang/Object;)Ljava/lang/Object;"⟩ : MethodName)) hown (mvT hZ (ow hw 87 rfl)) (mvT hZ (ow hw 88 rfl)) (mvT hZ (ow hw 34 rfl)) (mvT hZ (ow hw 89 rfl)) (by decide) (backOf (W := 0) (rm_rn1 l Z a0 hw [] wA wD wG wU wV wN wB wC wF wE wO k_1 k_2 b0_6 h6 n0 O6 hS ) hZ (ow hw 89 rfl) (ow hw 34 rfl) (by decide) (by decide)) (g := (mkF mG 31 #[oa o, oa f, oa b0_6] [(.ref b0_6)])) rfl (by rw [hml]; rfl) (argsL := [(.ref b0_6)]) (rest := []) (lenOf pd_0 rfl) rfl (by show 2 * 0 + _ ≤ _; exact Nat.le_of_eq rfl) (hb hby d11_31) (fun _ _ => ⟨rfl, e8, (by decide : 8 + 0 ≤ _), (by decide : 90 + 0 ≤ _)⟩)
  dsimp only [Pt.U, Pt.locs, Pt.cells, Pt.slots] at X9 l9 y9 z9 st9 hQ9
  subst l9 y9 z9
  obtain ⟨rfl, N9q, e9⟩ := hQ9
  have N9 := Fr.app N6 N9q
  obtain ⟨LL10, X9, N9⟩ : ∃ LL, Stand pG l eG _ _ mG _ belowG methG cG T9 LL 8 90 ∧ Fr n0 LL := ⟨_, X9, N9⟩
  refine ob T9 (mkF mG 34 #[oa o, oa f, oa b0_6] [(.ref b0_6)]) (fun _ kk => st9 _ kk) ?_
  obtain ⟨T11, X11, e11, st11⟩ := castY X9 hx hZ hown (ow hw 69 rfl) e9 (Ins.self F6_0) (g := (mkF mG 34 #[oa o, oa f, oa b0_6] [(.ref b0_6)])) rfl rfl (hb hby d11_34)
  refine ob T11 (mkF mG 37 #[oa o, oa f, oa b0_6] [(.ref b0_6)]) (fun _ kk => st11 _ kk) ?_
  obtain ⟨fs, hr, hrun, hended, hW, hsame⟩ := X11.leave (v := some (.ref b0_6)) (fun h => by rw [Bd.returns] at h; cases h)
  obtain ⟨w1, w2, w3⟩ := State.Since.ended (U := T11.setFrames fs) hS6 hW (by show _ ≤ T11.heap.size; rw [e11]; exact hk6) hsame
  have CF := CR6.trans (CHv.at X11 hZ hEL CR6.1)
  refine oout (oretA X11 hx Bd.returns rfl rfl (hb hby d11_37) hr) hrun hended ⟨_, _, rfl, ?_, ?_, ⟨_, rfl⟩, w1, w2, w3.mono (by decide) (by decide)⟩
  · show Q_rm_fm1 Z wA wD wG wU wV wN wB wC wF wE wO k_1 k_2 o f a uu sr tr si sm bv ti xv pt u2 h0 n0 _ T11.heap _
    rw [e11]
    exact ⟨b0_6, b1_6, rfl, N9, K6, O6, n_b0_6, n_b1_6, sz_b0_6, sz_b1_6, F6_0, F6_1, F6_2, F6_3, F6_4⟩
  · show CHr Z oEL sG.vm sG.heap T11.vm T11.heap
    rw [hh, e11]
    exact CF

theorem d6_0 : decode prog_10_method_2_code 0 = .ok (.aload_n 0, 1) := by decide +kernel
theorem d6_1 : decode prog_10_method_2_code 1 = .ok (.getfield 38, 3) := by decide +kernel
theorem d6_4 : decode prog_10_method_2_code 4 = .ok (.iload_n 1, 1) := by decide +kernel
theorem d6_5 : decode prog_10_method_2_code 5 = .ok (.invokevirtual 44, 3) := by decide +kernel
theorem d6_8 : decode prog_10_method_2_code 8 = .ok (.aload_n 0, 1) := by decide +kernel
theorem d6_9 : decode prog_10_method_2_code 9 = .ok (.iload_n 1, 1) := by decide +kernel
theorem d6_10 : decode prog_10_method_2_code 10 = .ok (.iload_n 2, 1) := by decide +kernel
theorem d6_11 : decode prog_10_method_2_code 11 = .ok (.invokedynamic 48, 5) := by decide +kernel
theorem d6_16 : decode prog_10_method_2_code 16 = .ok (.invokevirtual 51, 3) := by decide +kernel
theorem d6_19 : decode prog_10_method_2_code 19 = .ok (.areturn, 1) := by decide +kernel
def Q_rm_d1 (Z : State) (wA wD wG wU wV wN wB wC wF wE wO : Addr) (k_1 k_2 : ClassId) (a : Addr) (sr tr ki si : Int32) (pk : Addr) (h0 : Heap) (n0 : Nat) (v : Option Value) (h : Heap) (L : List Loc) : Prop := v = some (.ref wO) ∧ Fr n0 L ∧ Keep h0 h [] ∧ Old Z n0 h
set_option maxRecDepth 65536 in
set_option maxHeartbeats 40000000 in
theorem rm_d1 (l : Launch) (Z : State) (a0 : Array Value) (hw : ∀ d ∈ tables_1, d.before a0 Z = true) (ws : List Jvm.Cond) (wA wD wG wU wV wN wB wC wF wE wO : Addr) (k_1 k_2 : ClassId) (a : Addr) (sr tr ki si : Int32) (pk : Addr) (h0 : Heap) (n0 : Nat) (O0 : Old Z n0 h0) (hS : St0 Z wA wD wG wU wV wN wB wC wF wE wO k_1 k_2 ) (F_s : Fld Z h0 a "com/example/vorgang/vorgang/model/CallPolicy" "sessionKind" "Lcom/example/vorgang/vorgang/model/Policy;" (.ref pk)) (pK : oPol wA wB wC wD wE wF wG ki pk) (bS : oBo sr) (bT : oBo tr) (rS : oRu ki sr = si) (lS : si < (0 : Int32)) :
    MetFree l (⟨"com/example/vorgang/vorgang/model/CallPolicy", "dispatch", "(ZZ)Ljava/util/Optional;"⟩ : MethodName) (head1 (Jvm.Cond.code (⟨"com/example/vorgang/vorgang/model/CallPolicy", "dispatch", "(ZZ)Ljava/util/Optional;"⟩ : MethodName) prog_10_method_2_code 3 (some (.object "java/util/Optional")) :: ws) ({ frames := 2, cells := 1, slots := 3, locals := 3076 } : Room)) (fun aG UG => aG = #[(.ref a), (.int sr), (.int tr)] ∧ Z.Warmed39 UG.vm ∧ UG.heap = h0) (fun _ _ _ _ _ => True) (fun _ UG oG UG' => ∃ vG LG, oG = .returned vG ∧ Q_rm_d1 Z wA wD wG wU wV wN wB wC wF wE wO k_1 k_2 a sr tr ki si pk h0 n0 vG UG'.heap LG ∧ FrameEnd UG oG UG' LG ({ frames := 2, cells := 1, slots := 3, locals := 3076 } : Room).cells ({ frames := 2, cells := 1, slots := 3, locals := 3076 } : Room).slots) := by
  refine MetFree.of_bodySF (plainFor_of_name pn_6) hisR ?_
  intro pG eG sG mG argsG belowG methG cG s₁ Bd hml0 hP hK
  obtain ⟨rfl, hZ, hh⟩ := hP
  have hx := Bd.exec
  have hby := Bd.bytes
  have hml : cG.maxLocals = 3 := hml0
  have hown : sG.vm.findClass "com/example/vorgang/vorgang/model/CallPolicy" = some mG.cls := findClass_of_methodNamed Bd.named
  have hnm := (name_of_methodNamed Bd.named Bd.method).1
  have X0 : Stand pG l eG ({ frames := 2, cells := 1, slots := 3, locals := 3076 } : Room) sG mG #[(.ref a), (.int sr), (.int tr)] belowG methG cG s₁ [] 0 0 := Stand.of_body Bd
  have e0 : s₁.heap = h0 := by rw [← hh, Bd.state]; rfl
  have N0 := Fr.nil n0
  have K0 := Keep.refl h0 []
  obtain ⟨S_wA, E_wA, S_wD, E_wD, S_wG, E_wG, S_wU, E_wU, S_wV, E_wV, S_wN, E_wN, S_wB, E_wB, S_wC, E_wC, S_wF, E_wF, S_wE, E_wE, S_wO, E_wO, F_wA_ordinal, F_wG_ordinal, F_wD_ordinal, F_wU_ordinal, F_wV_ordinal, F_wN_ordinal, F_wB_ordinal, F_wC_ordinal, F_wF_ordinal, F_wE_ordinal, F_wO_value, L_1, L_2, ne_wA_wG, ne_wA_wD, ne_wA_wB, ne_wA_wC, ne_wA_wF, ne_wA_wE, ne_wG_wD, ne_wG_wB, ne_wG_wC, ne_wG_wF, ne_wG_wE, ne_wD_wB, ne_wD_wC, ne_wD_wF, ne_wD_wE, ne_wU_wV, ne_wU_wN, ne_wV_wN, ne_wB_wC, ne_wB_wF, ne_wB_wE, ne_wC_wF, ne_wC_wE, ne_wF_wE⟩ := (id hS : St0 Z wA wD wG wU wV wN wB wC wF wE wO k_1 k_2 )
  have hZ0 := hZ
  have E_pk := own_pe hS pK
  refine ostart (g' := (mkF mG 0 #[oa a, oi sr, oi tr] [])) (by first | (simp [entryFrame, mkF, argsToLocals, Value.category]; done) | rfl) ?_
  refine ob s₁ (mkF mG 1 #[oa a, oi sr, oi tr] [(.ref a)]) (fun _ kk => XS.aloadN X0.here hx rfl (hb hby d6_0) rfl rfl kk) ?_
  obtain ⟨T1, X1, e1, st1⟩ := getF X0 hx hZ hown (host := "") (Or.inl (ow hw 39 rfl)) Via.refl e0 F_s (g := (mkF mG 1 #[oa a, oi sr, oi tr] [(.ref a)])) rfl rfl (hb hby d6_1)
  refine ob T1 (mkF mG 4 #[oa a, oi sr, oi tr] [(.ref pk)]) (fun _ kk => st1 _ kk) ?_
  refine ob T1 (mkF mG 5 #[oa a, oi sr, oi tr] [(.int sr), (.ref pk)]) (fun _ kk => XS.iloadN X1.here hx rfl (hb hby d6_4) rfl kk) ?_
  obtain ⟨cq2, kq2, q2a, q2b, q2c⟩ := isOf hZ e1 (E_pk.ext O0.2)
  obtain ⟨_, _, ⟨T2, L2, k2, n2⟩, -, X2, ⟨Lc2, hQ2, l2, y2, z2⟩, st2⟩ := X1.virtualBack hx (y := (⟨"com/example/vorgang/vorgang/model/Policy", "apply", "(Z)Ljava/util/Optional;"⟩ : MethodName)) (z := (⟨"com/example/vorgang/vorgang/model/Policy", "apply", "(Z)Ljava/util/Optional;"⟩ : MethodName)) hown (mvT hZ (ow hw 48 rfl)) (mvT hZ (ow hw 49 rfl)) (notFace_of_selects (args := #[]) (mvT hZ (ow hw 51 rfl))) (mvT hZ (ow hw 51 rfl)) (mvT hZ (ow hw 50 rfl)) (by decide) (backOf (W := 0) (rm_apE l Z a0 hw [] wA wD wG wU wV wN wB wC wF wE wO k_1 k_2 pk ki sr si h0 n0 O0 hS pK bS rS lS) hZ (ow hw 52 rfl) (ow hw 9 rfl) (by decide) (by decide)) q2a q2c (g := (mkF mG 5 #[oa a, oi sr, oi tr] [(.int sr), (.ref pk)])) rfl (by rw [hml]; rfl) (Steps.refl _) (argsL := [(.int sr)]) (rest := []) (lenOf pd_11 rfl) rfl (by show 2 * 0 + _ ≤ _; exact Nat.le_of_eq rfl) (hb hby d6_5) (fun _ _ => ⟨rfl, e1, (by decide : 0 + 0 ≤ _), (by decide : 0 + 0 ≤ _)⟩)
  dsimp only [Pt.U, Pt.locs, Pt.cells, Pt.slots] at X2 l2 y2 z2 st2 hQ2
  subst l2 y2 z2
  obtain ⟨rfl, N2q, e2⟩ := hQ2
  have N2 := Fr.app N0 N2q
  obtain ⟨LL3, X2, N2⟩ : ∃ LL, Stand pG l eG _ _ mG _ belowG methG cG T2 LL 0 0 ∧ Fr n0 LL := ⟨_, X2, N2⟩
  refine ob T2 (mkF mG 8 #[oa a, oi sr, oi tr] [(.ref wO)]) (fun _ kk => st2.trans kk) ?_
  refine ob T2 (mkF mG 9 #[oa a, oi sr, oi tr] [(.ref a), (.ref wO)]) (fun _ kk => XS.aloadN X2.here hx rfl (hb hby d6_8) rfl rfl kk) ?_
  refine ob T2 (mkF mG 10 #[oa a, oi sr, oi tr] [(.int sr), (.ref a), (.ref wO)]) (fun _ kk => XS.iloadN X2.here hx rfl (hb hby d6_9) rfl kk) ?_
  refine ob T2 (mkF mG 11 #[oa a, oi sr, oi tr] [(.int tr), (.int sr), (.ref a), (.ref wO)]) (fun _ kk => XS.iloadN X2.here hx rfl (hb hby d6_10) rfl kk) ?_
  have hnZ : Z.methodNamed? ox1 = some mG := (State.methodNamed?_setVm (s := Z) hZ0.alike ox1).symm.trans Bd.named
  obtain ⟨T4, h4, X4, e4, E4, A4, st4⟩ := own_mk X2 hx hZ L_1 hnZ (ow hw 81 rfl) e2 oz_t1 (vals := [(.ref a), (.int sr), (.int tr)]) (rest := [(.ref wO)]) rfl (own_nar1 bS bT) (own_fit1 bS bT) (g := (mkF mG 11 #[oa a, oi sr, oi tr] [(.int tr), (.int sr), (.ref a), (.ref wO)])) rfl (by rw [hml]; rfl) rfl (hb hby d6_11) rfl (by show 2 * 0 + 4 + 3072 ≤ _; decide) (by decide) (n := 3) rfl (by decide)
  obtain ⟨b4, g4⟩ : ∃ z, z = h0.size := ⟨_, rfl⟩
  rw [← g4] at A4 st4
  have n_b4 : n0 ≤ b4 := Nat.le_trans (on0 O0) (Nat.le_of_eq g4.symm)
  have sz_b4 : h0.size ≤ b4 := Nat.le_trans K0.1 (Nat.le_of_eq g4.symm)
  have ne_a_b4 : a ≠ b4 := Nat.ne_of_lt (Nat.lt_of_lt_of_le F_s.lt (Nat.le_of_eq g4.symm))
  have O4 := O0.ext E4
  have K4 := K0.ext E4
  obtain ⟨LL5, X4, N2⟩ : ∃ LL, Stand pG l eG _ _ mG _ belowG methG cG T4 LL 1 3 ∧ Fr n0 LL := ⟨_, X4, N2⟩
  refine ob T4 (mkF mG 16 #[oa a, oi sr, oi tr] [(.ref b4), (.ref wO)]) (fun _ kk => st4 _ kk) ?_
  obtain ⟨cq6, kq6, q6a, q6b, q6c⟩ := isOf hZ e4 (E_wO.ext O4.2)
  obtain ⟨_, _, ⟨T6, L6, k6, n6⟩, -, X6, ⟨Lc6, hQ6, l6, y6, z6⟩, st6⟩ := X4.virtualBack hx (y := (⟨"java/util/Optional", "flatMap", "(Ljava/util/function/Function;)Ljava/util/Optional;"⟩ : MethodName)) (z := (⟨"java/util/Optional", "flatMap", "(Ljava/util/function/Function;)Ljava/util/Optional;"⟩ : MethodName)) hown (mvT hZ (ow hw 82 rfl)) (mvT hZ (ow hw 83 rfl)) (notFace_of_selects (args := #[]) (mvT hZ (ow hw 85 rfl))) (mvT hZ (ow hw 85 rfl)) (mvT hZ (ow hw 84 rfl)) (by decide) (backOf (W := 0) (rm_fmE l Z a0 hw [] wA wD wG wU wV wN wB wC wF wE wO k_1 k_2 b4 h4 n0 O4 hS ) hZ (ow hw 86 rfl) (ow hw 67 rfl) (by decide) (by decide)) q6a q6c (g := (mkF mG 16 #[oa a, oi sr, oi tr] [(.ref b4), (.ref wO)])) rfl (by rw [hml]; rfl) (Steps.refl _) (argsL := [(.ref b4)]) (rest := []) (lenOf pd_12 rfl) rfl (by show 2 * 0 + _ ≤ _; exact Nat.le_of_eq rfl) (hb hby d6_16) (fun _ _ => ⟨rfl, e4, (by decide : 1 + 0 ≤ _), (by decide : 3 + 0 ≤ _)⟩)
  dsimp only [Pt.U, Pt.locs, Pt.cells, Pt.slots] at X6 l6 y6 z6 st6 hQ6
  subst l6 y6 z6
  obtain ⟨rfl, N6q, e6⟩ := hQ6
  have N6 := Fr.app N2 N6q
  obtain ⟨LL7, X6, N6⟩ : ∃ LL, Stand pG l eG _ _ mG _ belowG methG cG T6 LL 1 3 ∧ Fr n0 LL := ⟨_, X6, N6⟩
  refine ob T6 (mkF mG 19 #[oa a, oi sr, oi tr] [(.ref wO)]) (fun _ kk => st6.trans kk) ?_
  obtain ⟨fs, hr, hrun, hended, hW, hsame⟩ := X6.leave (v := some (.ref wO)) (fun h => by rw [Bd.returns] at h; cases h)
  refine oout (oretA X6 hx Bd.returns rfl rfl (hb hby d6_19) hr) hrun hended ⟨_, _, rfl, ?_, ⟨_, rfl⟩, hW, hsame.mono (by decide) (by decide)⟩
  show Q_rm_d1 Z wA wD wG wU wV wN wB wC wF wE wO k_1 k_2 a sr tr ki si pk h0 n0 _ T6.heap _
  rw [e6]
  exact ⟨rfl, N6, K4, O4⟩

def Q_rm_d2 (Z : State) (wA wD wG wU wV wN wB wC wF wE wO : Addr) (k_1 k_2 : ClassId) (a : Addr) (sr tr ki si sm bv ti xv : Int32) (pk pt uu : Addr) (h0 : Heap) (n0 : Nat) (v : Option Value) (h : Heap) (L : List Loc) : Prop := v = some (.ref wO) ∧ Fr n0 L ∧ Keep h0 h [] ∧ Old Z n0 h
set_option maxRecDepth 65536 in
set_option maxHeartbeats 40000000 in
theorem rm_d2 (l : Launch) (Z : State) (a0 : Array Value) (hw : ∀ d ∈ tables_1, d.before a0 Z = true) (ws : List Jvm.Cond) (wA wD wG wU wV wN wB wC wF wE wO : Addr) (k_1 k_2 : ClassId) (a : Addr) (sr tr ki si sm bv ti xv : Int32) (pk pt uu : Addr) (h0 : Heap) (n0 : Nat) (O0 : Old Z n0 h0) (hS : St0 Z wA wD wG wU wV wN wB wC wF wE wO k_1 k_2 ) (E_a : Exa Z h0 a "com/example/vorgang/vorgang/model/CallPolicy") (F_s : Fld Z h0 a "com/example/vorgang/vorgang/model/CallPolicy" "sessionKind" "Lcom/example/vorgang/vorgang/model/Policy;" (.ref pk)) (F_t : Fld Z h0 a "com/example/vorgang/vorgang/model/CallPolicy" "transactionType" "Lcom/example/vorgang/vorgang/model/Policy;" (.ref pt)) (pK : oPol wA wB wC wD wE wF wG ki pk) (bS : oBo sr) (bT : oBo tr) (rS : oRu ki sr = si) (uS : oUse wN wV wU si uu) (rM : oSm si sr = sm) (rB : oAn tr sm = bv) (pT : oPol wA wB wC wD wE wF wG ti pt) (rX : oRu ti bv = xv) (lX : xv < (0 : Int32)) :
    MetFree l (⟨"com/example/vorgang/vorgang/model/CallPolicy", "dispatch", "(ZZ)Ljava/util/Optional;"⟩ : MethodName) (head1 (Jvm.Cond.code (⟨"com/example/vorgang/vorgang/model/CallPolicy", "dispatch", "(ZZ)Ljava/util/Optional;"⟩ : MethodName) prog_10_method_2_code 3 (some (.object "java/util/Optional")) :: ws) ({ frames := 9, cells := 10, slots := 94, locals := 3123 } : Room)) (fun aG UG => aG = #[(.ref a), (.int sr), (.int tr)] ∧ Z.Warmed39 UG.vm ∧ UG.heap = h0 ∧ CHv Z oEL UG.vm h0) (fun _ _ _ _ _ => True) (fun _ UG oG UG' => ∃ vG LG, oG = .returned vG ∧ Q_rm_d2 Z wA wD wG wU wV wN wB wC wF wE wO k_1 k_2 a sr tr ki si sm bv ti xv pk pt uu h0 n0 vG UG'.heap LG ∧ CHr Z oEL UG.vm UG.heap UG'.vm UG'.heap ∧ ReturnedEndW UG oG UG' LG ({ frames := 9, cells := 10, slots := 94, locals := 3123 } : Room).cells ({ frames := 9, cells := 10, slots := 94, locals := 3123 } : Room).slots) := by
  refine MetFree.of_bodySF (plainFor_of_name pn_6) hisR ?_
  intro pG eG sG mG argsG belowG methG cG s₁ Bd hml0 hP hK
  obtain ⟨rfl, hZ, hh, hC⟩ := hP
  have hx := Bd.exec
  have hby := Bd.bytes
  have hml : cG.maxLocals = 3 := hml0
  have hown : sG.vm.findClass "com/example/vorgang/vorgang/model/CallPolicy" = some mG.cls := findClass_of_methodNamed Bd.named
  have hnm := (name_of_methodNamed Bd.named Bd.method).1
  have X0 : Stand pG l eG ({ frames := 9, cells := 10, slots := 94, locals := 3123 } : Room) (sG.setVm sG.vm) mG #[(.ref a), (.int sr), (.int tr)] belowG methG cG s₁ [] 0 0 := Stand.of_body Bd
  have e0 : s₁.heap = h0 := by rw [← hh, Bd.state]; rfl
  have N0 := Fr.nil n0
  have K0 := Keep.refl h0 []
  have hS0 : sG.Since sG.vm h0.size := (State.WarmedH.refl sG).since _
  have hk0 : h0.size ≤ h0.size := Nat.le_refl _
  have CR0 : CHr Z oEL sG.vm h0 sG.vm h0 := CHr.refl hC
  have hEL : EW Z a0 oEL := own_EW hw
  obtain ⟨S_wA, E_wA, S_wD, E_wD, S_wG, E_wG, S_wU, E_wU, S_wV, E_wV, S_wN, E_wN, S_wB, E_wB, S_wC, E_wC, S_wF, E_wF, S_wE, E_wE, S_wO, E_wO, F_wA_ordinal, F_wG_ordinal, F_wD_ordinal, F_wU_ordinal, F_wV_ordinal, F_wN_ordinal, F_wB_ordinal, F_wC_ordinal, F_wF_ordinal, F_wE_ordinal, F_wO_value, L_1, L_2, ne_wA_wG, ne_wA_wD, ne_wA_wB, ne_wA_wC, ne_wA_wF, ne_wA_wE, ne_wG_wD, ne_wG_wB, ne_wG_wC, ne_wG_wF, ne_wG_wE, ne_wD_wB, ne_wD_wC, ne_wD_wF, ne_wD_wE, ne_wU_wV, ne_wU_wN, ne_wV_wN, ne_wB_wC, ne_wB_wF, ne_wB_wE, ne_wC_wF, ne_wC_wE, ne_wF_wE⟩ := (id hS : St0 Z wA wD wG wU wV wN wB wC wF wE wO k_1 k_2 )
  have hZ0 := hZ
  have E_pk := own_pe hS pK
  refine ostart (g' := (mkF mG 0 #[oa a, oi sr, oi tr] [])) (by first | (simp [entryFrame, mkF, argsToLocals, Value.category]; done) | rfl) ?_
  refine ob s₁ (mkF mG 1 #[oa a, oi sr, oi tr] [(.ref a)]) (fun _ kk => XS.aloadN X0.here hx rfl (hb hby d6_0) rfl rfl kk) ?_
  obtain ⟨T1, X1, e1, st1⟩ := getF X0 hx hZ hown (host := "") (Or.inl (ow hw 39 rfl)) Via.refl e0 F_s (g := (mkF mG 1 #[oa a, oi sr, oi tr] [(.ref a)])) rfl rfl (hb hby d6_1)
  refine ob T1 (mkF mG 4 #[oa a, oi sr, oi tr] [(.ref pk)]) (fun _ kk => st1 _ kk) ?_
  refine ob T1 (mkF mG 5 #[oa a, oi sr, oi tr] [(.int sr), (.ref pk)]) (fun _ kk => XS.iloadN X1.here hx rfl (hb hby d6_4) rfl kk) ?_
  obtain ⟨cq2, kq2, q2a, q2b, q2c⟩ := isOf hZ e1 (E_pk.ext O0.2)
  obtain ⟨_, _, ⟨T2, L2, k2, n2⟩, -, X2, ⟨Lc2, hQ2, l2, y2, z2⟩, st2⟩ := X1.virtualBack hx (y := (⟨"com/example/vorgang/vorgang/model/Policy", "apply", "(Z)Ljava/util/Optional;"⟩ : MethodName)) (z := (⟨"com/example/vorgang/vorgang/model/Policy", "apply", "(Z)Ljava/util/Optional;"⟩ : MethodName)) hown (mvT hZ (ow hw 48 rfl)) (mvT hZ (ow hw 49 rfl)) (notFace_of_selects (args := #[]) (mvT hZ (ow hw 51 rfl))) (mvT hZ (ow hw 51 rfl)) (mvT hZ (ow hw 50 rfl)) (by decide) (backOf (W := 0) (rm_apS l Z a0 hw [] wA wD wG wU wV wN wB wC wF wE wO k_1 k_2 pk ki sr si uu h0 n0 O0 hS pK bS rS uS) hZ (ow hw 52 rfl) (ow hw 9 rfl) (by decide) (by decide)) q2a q2c (g := (mkF mG 5 #[oa a, oi sr, oi tr] [(.int sr), (.ref pk)])) rfl (by rw [hml]; rfl) (Steps.refl _) (argsL := [(.int sr)]) (rest := []) (lenOf pd_11 rfl) rfl (by show 2 * 0 + _ ≤ _; exact Nat.le_of_eq rfl) (hb hby d6_5) (fun _ _ => ⟨rfl, e1, (by decide : 0 + 1 ≤ _), (by decide : 0 + 1 ≤ _)⟩)
  dsimp only [Pt.U, Pt.locs, Pt.cells, Pt.slots] at X2 l2 y2 z2 st2 hQ2
  subst l2 y2 z2
  obtain ⟨h2, e2⟩ : ∃ h, T2.heap = h := ⟨_, rfl⟩
  rw [e2] at hQ2
  obtain ⟨b0_2, rfl, N2q, K2q, O2, n_b0_2, z_b0_2, F2_0, F2_1⟩ := hQ2
  have N2 := Fr.app N0 N2q
  have sz_b0_2 : h0.size ≤ b0_2 := Nat.le_trans K0.1 z_b0_2
  have ne_a_b0_2 : a ≠ b0_2 := Nat.ne_of_lt (Nat.lt_of_lt_of_le E_a.lt z_b0_2)
  have K2 := K0.trans K2q all0
  have CS2 : CHr Z oEL sG.vm h0 sG.vm h2 := CHr.keep K2q sf0 CR0.1
  have CR2 := CR0.trans CS2
  obtain ⟨LL3, X2, N2⟩ : ∃ LL, Stand pG l eG _ _ mG _ belowG methG cG T2 LL 1 1 ∧ Fr n0 LL := ⟨_, X2, N2⟩
  refine ob T2 (mkF mG 8 #[oa a, oi sr, oi tr] [(.ref b0_2)]) (fun _ kk => st2.trans kk) ?_
  refine ob T2 (mkF mG 9 #[oa a, oi sr, oi tr] [(.ref a), (.ref b0_2)]) (fun _ kk => XS.aloadN X2.here hx rfl (hb hby d6_8) rfl rfl kk) ?_
  refine ob T2 (mkF mG 10 #[oa a, oi sr, oi tr] [(.int sr), (.ref a), (.ref b0_2)]) (fun _ kk => XS.iloadN X2.here hx rfl (hb hby d6_9) rfl kk) ?_
  refine ob T2 (mkF mG 11 #[oa a, oi sr, oi tr] [(.int tr), (.int sr), (.ref a), (.ref b0_2)]) (fun _ kk => XS.iloadN X2.here hx rfl (hb hby d6_10) rfl kk) ?_
  have hnZ : Z.methodNamed? ox1 = some mG := (State.methodNamed?_setVm (s := Z) hZ0.alike ox1).symm.trans Bd.named
  obtain ⟨T4, h4, X4, e4, E4, A4, st4⟩ := own_mk X2 hx hZ L_1 hnZ (ow hw 81 rfl) e2 oz_t1 (vals := [(.ref a), (.int sr), (.int tr)]) (rest := [(.ref b0_2)]) rfl (own_nar1 bS bT) (own_fit1 bS bT) (g := (mkF mG 11 #[oa a, oi sr, oi tr] [(.int tr), (.int sr), (.ref a), (.ref b0_2)])) rfl (by rw [hml]; rfl) rfl (hb hby d6_11) rfl (by show 2 * 0 + 4 + 3072 ≤ _; decide) (by decide) (n := 3) rfl (by decide)
  obtain ⟨b4, g4⟩ : ∃ z, z = h2.size := ⟨_, rfl⟩
  rw [← g4] at A4 st4
  have n_b4 : n0 ≤ b4 := Nat.le_trans (on0 O2) (Nat.le_of_eq g4.symm)
  have sz_b4 : h0.size ≤ b4 := Nat.le_trans K2.1 (Nat.le_of_eq g4.symm)
  have ne_a_b4 : a ≠ b4 := Nat.ne_of_lt (Nat.lt_of_lt_of_le (E_a.keep K2q).lt (Nat.le_of_eq g4.symm))
  have ne_b0_2_b4 : b0_2 ≠ b4 := Nat.ne_of_lt (Nat.lt_of_lt_of_le F2_0.lt (Nat.le_of_eq g4.symm))
  have CS4 : CHr Z oEL sG.vm h2 sG.vm h4 := CHr.ext E4 CR2.1
  have CR4 := CR2.trans CS4
  have O4 := O2.ext E4
  have K4 := K2.ext E4
  obtain ⟨LL5, X4, N2⟩ : ∃ LL, Stand pG l eG _ _ mG _ belowG methG cG T4 LL 2 4 ∧ Fr n0 LL := ⟨_, X4, N2⟩
  refine ob T4 (mkF mG 16 #[oa a, oi sr, oi tr] [(.ref b4), (.ref b0_2)]) (fun _ kk => st4 _ kk) ?_
  obtain ⟨cq6, kq6, q6a, q6b, q6c⟩ := isOf hZ e4 (F2_0.ext E4)
  obtain ⟨_, _, ⟨T6, L6, k6, n6⟩, -, X6, hS6, gs6, ⟨Lc6, hQ6, l6, y6, z6, CS6⟩, st6⟩ := X4.virtualBackS hx (y := (⟨"java/util/Optional", "flatMap", "(Ljava/util/function/Function;)Ljava/util/Optional;"⟩ : MethodName)) (z := (⟨"java/util/Optional", "flatMap", "(Ljava/util/function/Function;)Ljava/util/Optional;"⟩ : MethodName)) hown (mvT hZ (ow hw 82 rfl)) (mvT hZ (ow hw 83 rfl)) (notFace_of_selects (args := #[]) (mvT hZ (ow hw 85 rfl))) (mvT hZ (ow hw 85 rfl)) (mvT hZ (ow hw 84 rfl)) (by decide) (backOfSH (W := 0) (rm_fm0 l Z a0 hw [] wA wD wG wU wV wN wB wC wF wE wO k_1 k_2 b0_2 b4 a uu sr tr si sm bv ti xv pt h4 n0 O4 hS (F2_0.ext E4) (F2_1.ext E4) A4 ((E_a.keep K2q).ext E4) ((F_t.keep K2q nin0).ext E4) uS bS bT rM rB pT rX lX) hZ (ow hw 86 rfl) (ow hw 67 rfl) (by decide) (by decide) hEL CR4.1) q6a q6c (g := (mkF mG 16 #[oa a, oi sr, oi tr] [(.ref b4), (.ref b0_2)])) rfl (by rw [hml]; rfl) (Steps.refl _) (argsL := [(.ref b4)]) (rest := []) (lenOf pd_12 rfl) rfl (by show 2 * 0 + _ ≤ _; exact Nat.le_of_eq rfl) (hb hby d6_16) (fun _ _ => ⟨rfl, e4, (by decide : 2 + 8 ≤ _), (by decide : 4 + 90 ≤ _)⟩)
  dsimp only [Pt.U, Pt.locs, Pt.cells, Pt.slots] at X6 l6 y6 z6 st6 hQ6 hS6 gs6 CS6
  subst l6 y6 z6
  obtain ⟨X6, hS6, hZ, hown⟩ := rebS hS0 (by rw [e4]; exact (Nat.le_trans (Nat.le_trans hk0 CS2.2.1) CS4.2.1)) X6 hS6 gs6 hZ hown
  obtain ⟨h6, e6⟩ : ∃ h, T6.heap = h := ⟨_, rfl⟩
  rw [e6] at hQ6
  obtain ⟨rfl, N6q, K6q, O6⟩ := hQ6
  have N6 := Fr.app N2 N6q
  have K6 := K4.trans K6q all0
  rw [e6] at CS6 hS6
  have hk6 : h6.size ≤ h6.size := Nat.le_refl _
  have CR6 := CR4.trans CS6
  obtain ⟨LL7, X6, N6⟩ : ∃ LL, Stand pG l eG _ _ mG _ belowG methG cG T6 LL 10 94 ∧ Fr n0 LL := ⟨_, X6, N6⟩
  refine ob T6 (mkF mG 19 #[oa a, oi sr, oi tr] [(.ref wO)]) (fun _ kk => st6.trans kk) ?_
  obtain ⟨fs, hr, hrun, hended, hW, hsame⟩ := X6.leave (v := some (.ref wO)) (fun h => by rw [Bd.returns] at h; cases h)
  obtain ⟨w1, w2, w3⟩ := State.Since.ended (U := T6.setFrames fs) hS6 hW (by show _ ≤ T6.heap.size; rw [e6]; exact hk6) hsame
  have CF := CR6.trans (CHv.at X6 hZ hEL CR6.1)
  refine oout (oretA X6 hx Bd.returns rfl rfl (hb hby d6_19) hr) hrun hended ⟨_, _, rfl, ?_, ?_, ⟨_, rfl⟩, w1, w2, w3.mono (by decide) (by decide)⟩
  · show Q_rm_d2 Z wA wD wG wU wV wN wB wC wF wE wO k_1 k_2 a sr tr ki si sm bv ti xv pk pt uu h0 n0 _ T6.heap _
    rw [e6]
    exact ⟨rfl, N6, K6, O6⟩
  · show CHr Z oEL sG.vm sG.heap T6.vm T6.heap
    rw [hh, e6]
    exact CF

def Q_rm_d3 (Z : State) (wA wD wG wU wV wN wB wC wF wE wO : Addr) (k_1 k_2 : ClassId) (a : Addr) (sr tr ki si sm bv ti xv : Int32) (pk pt uu u2 : Addr) (h0 : Heap) (n0 : Nat) (v : Option Value) (h : Heap) (L : List Loc) : Prop := ∃ (b0 b1 : Addr), v = some (.ref b0) ∧ Fr n0 L ∧ Keep h0 h [] ∧ Old Z n0 h ∧ n0 ≤ b0 ∧ n0 ≤ b1 ∧ h0.size ≤ b0 ∧ h0.size ≤ b1 ∧ Exa Z h b0 "java/util/Optional" ∧ Fld Z h b0 "java/util/Optional" "value" "Ljava/lang/Object;" (.ref b1) ∧ Exa Z h b1 "com/example/vorgang/vorgang/model/CallContexts" ∧ Fld Z h b1 "com/example/vorgang/vorgang/model/CallContexts" "session" "Lcom/example/vorgang/vorgang/model/ContextUse;" (.ref uu) ∧ Fld Z h b1 "com/example/vorgang/vorgang/model/CallContexts" "transaction" "Lcom/example/vorgang/vorgang/model/ContextUse;" (.ref u2)
set_option maxRecDepth 65536 in
set_option maxHeartbeats 40000000 in
theorem rm_d3 (l : Launch) (Z : State) (a0 : Array Value) (hw : ∀ d ∈ tables_1, d.before a0 Z = true) (ws : List Jvm.Cond) (wA wD wG wU wV wN wB wC wF wE wO : Addr) (k_1 k_2 : ClassId) (a : Addr) (sr tr ki si sm bv ti xv : Int32) (pk pt uu u2 : Addr) (h0 : Heap) (n0 : Nat) (O0 : Old Z n0 h0) (hS : St0 Z wA wD wG wU wV wN wB wC wF wE wO k_1 k_2 ) (E_a : Exa Z h0 a "com/example/vorgang/vorgang/model/CallPolicy") (F_s : Fld Z h0 a "com/example/vorgang/vorgang/model/CallPolicy" "sessionKind" "Lcom/example/vorgang/vorgang/model/Policy;" (.ref pk)) (F_t : Fld Z h0 a "com/example/vorgang/vorgang/model/CallPolicy" "transactionType" "Lcom/example/vorgang/vorgang/model/Policy;" (.ref pt)) (pK : oPol wA wB wC wD wE wF wG ki pk) (bS : oBo sr) (bT : oBo tr) (rS : oRu ki sr = si) (uS : oUse wN wV wU si uu) (rM : oSm si sr = sm) (rB : oAn tr sm = bv) (pT : oPol wA wB wC wD wE wF wG ti pt) (rX : oRu ti bv = xv) (uX : oUse wN wV wU xv u2) :
    MetFree l (⟨"com/example/vorgang/vorgang/model/CallPolicy", "dispatch", "(ZZ)Ljava/util/Optional;"⟩ : MethodName) (head1 (Jvm.Cond.code (⟨"com/example/vorgang/vorgang/model/CallPolicy", "dispatch", "(ZZ)Ljava/util/Optional;"⟩ : MethodName) prog_10_method_2_code 3 (some (.object "java/util/Optional")) :: ws) ({ frames := 9, cells := 10, slots := 94, locals := 3123 } : Room)) (fun aG UG => aG = #[(.ref a), (.int sr), (.int tr)] ∧ Z.Warmed39 UG.vm ∧ UG.heap = h0 ∧ CHv Z oEL UG.vm h0) (fun _ _ _ _ _ => True) (fun _ UG oG UG' => ∃ vG LG, oG = .returned vG ∧ Q_rm_d3 Z wA wD wG wU wV wN wB wC wF wE wO k_1 k_2 a sr tr ki si sm bv ti xv pk pt uu u2 h0 n0 vG UG'.heap LG ∧ CHr Z oEL UG.vm UG.heap UG'.vm UG'.heap ∧ ReturnedEndW UG oG UG' LG ({ frames := 9, cells := 10, slots := 94, locals := 3123 } : Room).cells ({ frames := 9, cells := 10, slots := 94, locals := 3123 } : Room).slots) := by
  refine MetFree.of_bodySF (plainFor_of_name pn_6) hisR ?_
  intro pG eG sG mG argsG belowG methG cG s₁ Bd hml0 hP hK
  obtain ⟨rfl, hZ, hh, hC⟩ := hP
  have hx := Bd.exec
  have hby := Bd.bytes
  have hml : cG.maxLocals = 3 := hml0
  have hown : sG.vm.findClass "com/example/vorgang/vorgang/model/CallPolicy" = some mG.cls := findClass_of_methodNamed Bd.named
  have hnm := (name_of_methodNamed Bd.named Bd.method).1
  have X0 : Stand pG l eG ({ frames := 9, cells := 10, slots := 94, locals := 3123 } : Room) (sG.setVm sG.vm) mG #[(.ref a), (.int sr), (.int tr)] belowG methG cG s₁ [] 0 0 := Stand.of_body Bd
  have e0 : s₁.heap = h0 := by rw [← hh, Bd.state]; rfl
  have N0 := Fr.nil n0
  have K0 := Keep.refl h0 []
  have hS0 : sG.Since sG.vm h0.size := (State.WarmedH.refl sG).since _
  have hk0 : h0.size ≤ h0.size := Nat.le_refl _
  have CR0 : CHr Z oEL sG.vm h0 sG.vm h0 := CHr.refl hC
  have hEL : EW Z a0 oEL := own_EW hw
  obtain ⟨S_wA, E_wA, S_wD, E_wD, S_wG, E_wG, S_wU, E_wU, S_wV, E_wV, S_wN, E_wN, S_wB, E_wB, S_wC, E_wC, S_wF, E_wF, S_wE, E_wE, S_wO, E_wO, F_wA_ordinal, F_wG_ordinal, F_wD_ordinal, F_wU_ordinal, F_wV_ordinal, F_wN_ordinal, F_wB_ordinal, F_wC_ordinal, F_wF_ordinal, F_wE_ordinal, F_wO_value, L_1, L_2, ne_wA_wG, ne_wA_wD, ne_wA_wB, ne_wA_wC, ne_wA_wF, ne_wA_wE, ne_wG_wD, ne_wG_wB, ne_wG_wC, ne_wG_wF, ne_wG_wE, ne_wD_wB, ne_wD_wC, ne_wD_wF, ne_wD_wE, ne_wU_wV, ne_wU_wN, ne_wV_wN, ne_wB_wC, ne_wB_wF, ne_wB_wE, ne_wC_wF, ne_wC_wE, ne_wF_wE⟩ := (id hS : St0 Z wA wD wG wU wV wN wB wC wF wE wO k_1 k_2 )
  have hZ0 := hZ
  have E_pk := own_pe hS pK
  refine ostart (g' := (mkF mG 0 #[oa a, oi sr, oi tr] [])) (by first | (simp [entryFrame, mkF, argsToLocals, Value.category]; done) | rfl) ?_
  refine ob s₁ (mkF mG 1 #[oa a, oi sr, oi tr] [(.ref a)]) (fun _ kk => XS.aloadN X0.here hx rfl (hb hby d6_0) rfl rfl kk) ?_
  obtain ⟨T1, X1, e1, st1⟩ := getF X0 hx hZ hown (host := "") (Or.inl (ow hw 39 rfl)) Via.refl e0 F_s (g := (mkF mG 1 #[oa a, oi sr, oi tr] [(.ref a)])) rfl rfl (hb hby d6_1)
  refine ob T1 (mkF mG 4 #[oa a, oi sr, oi tr] [(.ref pk)]) (fun _ kk => st1 _ kk) ?_
  refine ob T1 (mkF mG 5 #[oa a, oi sr, oi tr] [(.int sr), (.ref pk)]) (fun _ kk => XS.iloadN X1.here hx rfl (hb hby d6_4) rfl kk) ?_
  obtain ⟨cq2, kq2, q2a, q2b, q2c⟩ := isOf hZ e1 (E_pk.ext O0.2)
  obtain ⟨_, _, ⟨T2, L2, k2, n2⟩, -, X2, ⟨Lc2, hQ2, l2, y2, z2⟩, st2⟩ := X1.virtualBack hx (y := (⟨"com/example/vorgang/vorgang/model/Policy", "apply", "(Z)Ljava/util/Optional;"⟩ : MethodName)) (z := (⟨"com/example/vorgang/vorgang/model/Policy", "apply", "(Z)Ljava/util/Optional;"⟩ : MethodName)) hown (mvT hZ (ow hw 48 rfl)) (mvT hZ (ow hw 49 rfl)) (notFace_of_selects (args := #[]) (mvT hZ (ow hw 51 rfl))) (mvT hZ (ow hw 51 rfl)) (mvT hZ (ow hw 50 rfl)) (by decide) (backOf (W := 0) (rm_apS l Z a0 hw [] wA wD wG wU wV wN wB wC wF wE wO k_1 k_2 pk ki sr si uu h0 n0 O0 hS pK bS rS uS) hZ (ow hw 52 rfl) (ow hw 9 rfl) (by decide) (by decide)) q2a q2c (g := (mkF mG 5 #[oa a, oi sr, oi tr] [(.int sr), (.ref pk)])) rfl (by rw [hml]; rfl) (Steps.refl _) (argsL := [(.int sr)]) (rest := []) (lenOf pd_11 rfl) rfl (by show 2 * 0 + _ ≤ _; exact Nat.le_of_eq rfl) (hb hby d6_5) (fun _ _ => ⟨rfl, e1, (by decide : 0 + 1 ≤ _), (by decide : 0 + 1 ≤ _)⟩)
  dsimp only [Pt.U, Pt.locs, Pt.cells, Pt.slots] at X2 l2 y2 z2 st2 hQ2
  subst l2 y2 z2
  obtain ⟨h2, e2⟩ : ∃ h, T2.heap = h := ⟨_, rfl⟩
  rw [e2] at hQ2
  obtain ⟨b0_2, rfl, N2q, K2q, O2, n_b0_2, z_b0_2, F2_0, F2_1⟩ := hQ2
  have N2 := Fr.app N0 N2q
  have sz_b0_2 : h0.size ≤ b0_2 := Nat.le_trans K0.1 z_b0_2
  have ne_a_b0_2 : a ≠ b0_2 := Nat.ne_of_lt (Nat.lt_of_lt_of_le E_a.lt z_b0_2)
  have K2 := K0.trans K2q all0
  have CS2 : CHr Z oEL sG.vm h0 sG.vm h2 := CHr.keep K2q sf0 CR0.1
  have CR2 := CR0.trans CS2
  obtain ⟨LL3, X2, N2⟩ : ∃ LL, Stand pG l eG _ _ mG _ belowG methG cG T2 LL 1 1 ∧ Fr n0 LL := ⟨_, X2, N2⟩
  refine ob T2 (mkF mG 8 #[oa a, oi sr, oi tr] [(.ref b0_2)]) (fun _ kk => st2.trans kk) ?_
  refine ob T2 (mkF mG 9 #[oa a, oi sr, oi tr] [(.ref a), (.ref b0_2)]) (fun _ kk => XS.aloadN X2.here hx rfl (hb hby d6_8) rfl rfl kk) ?_
  refine ob T2 (mkF mG 10 #[oa a, oi sr, oi tr] [(.int sr), (.ref a), (.ref b0_2)]) (fun _ kk => XS.iloadN X2.here hx rfl (hb hby d6_9) rfl kk) ?_
  refine ob T2 (mkF mG 11 #[oa a, oi sr, oi tr] [(.int tr), (.int sr), (.ref a), (.ref b0_2)]) (fun _ kk => XS.iloadN X2.here hx rfl (hb hby d6_10) rfl kk) ?_
  have hnZ : Z.methodNamed? ox1 = some mG := (State.methodNamed?_setVm (s := Z) hZ0.alike ox1).symm.trans Bd.named
  obtain ⟨T4, h4, X4, e4, E4, A4, st4⟩ := own_mk X2 hx hZ L_1 hnZ (ow hw 81 rfl) e2 oz_t1 (vals := [(.ref a), (.int sr), (.int tr)]) (rest := [(.ref b0_2)]) rfl (own_nar1 bS bT) (own_fit1 bS bT) (g := (mkF mG 11 #[oa a, oi sr, oi tr] [(.int tr), (.int sr), (.ref a), (.ref b0_2)])) rfl (by rw [hml]; rfl) rfl (hb hby d6_11) rfl (by show 2 * 0 + 4 + 3072 ≤ _; decide) (by decide) (n := 3) rfl (by decide)
  obtain ⟨b4, g4⟩ : ∃ z, z = h2.size := ⟨_, rfl⟩
  rw [← g4] at A4 st4
  have n_b4 : n0 ≤ b4 := Nat.le_trans (on0 O2) (Nat.le_of_eq g4.symm)
  have sz_b4 : h0.size ≤ b4 := Nat.le_trans K2.1 (Nat.le_of_eq g4.symm)
  have ne_a_b4 : a ≠ b4 := Nat.ne_of_lt (Nat.lt_of_lt_of_le (E_a.keep K2q).lt (Nat.le_of_eq g4.symm))
  have ne_b0_2_b4 : b0_2 ≠ b4 := Nat.ne_of_lt (Nat.lt_of_lt_of_le F2_0.lt (Nat.le_of_eq g4.symm))
  have CS4 : CHr Z oEL sG.vm h2 sG.vm h4 := CHr.ext E4 CR2.1
  have CR4 := CR2.trans CS4
  have O4 := O2.ext E4
  have K4 := K2.ext E4
  obtain ⟨LL5, X4, N2⟩ : ∃ LL, Stand pG l eG _ _ mG _ belowG methG cG T4 LL 2 4 ∧ Fr n0 LL := ⟨_, X4, N2⟩
  refine ob T4 (mkF mG 16 #[oa a, oi sr, oi tr] [(.ref b4), (.ref b0_2)]) (fun _ kk => st4 _ kk) ?_
  obtain ⟨cq6, kq6, q6a, q6b, q6c⟩ := isOf hZ e4 (F2_0.ext E4)
  obtain ⟨_, _, ⟨T6, L6, k6, n6⟩, -, X6, hS6, gs6, ⟨Lc6, hQ6, l6, y6, z6, CS6⟩, st6⟩ := X4.virtualBackS hx (y := (⟨"java/util/Optional", "flatMap", "(Ljava/util/function/Function;)Ljava/util/Optional;"⟩ : MethodName)) (z := (⟨"java/util/Optional", "flatMap", "(Ljava/util/function/Function;)Ljava/util/Optional;"⟩ : MethodName)) hown (mvT hZ (ow hw 82 rfl)) (mvT hZ (ow hw 83 rfl)) (notFace_of_selects (args := #[]) (mvT hZ (ow hw 85 rfl))) (mvT hZ (ow hw 85 rfl)) (mvT hZ (ow hw 84 rfl)) (by decide) (backOfSH (W := 0) (rm_fm1 l Z a0 hw [] wA wD wG wU wV wN wB wC wF wE wO k_1 k_2 b0_2 b4 a uu sr tr si sm bv ti xv pt u2 h4 n0 O4 hS (F2_0.ext E4) (F2_1.ext E4) A4 ((E_a.keep K2q).ext E4) ((F_t.keep K2q nin0).ext E4) uS bS bT rM rB pT rX uX) hZ (ow hw 86 rfl) (ow hw 67 rfl) (by decide) (by decide) hEL CR4.1) q6a q6c (g := (mkF mG 16 #[oa a, oi sr, oi tr] [(.ref b4), (.ref b0_2)])) rfl (by rw [hml]; rfl) (Steps.refl _) (argsL := [(.ref b4)]) (rest := []) (lenOf pd_12 rfl) rfl (by show 2 * 0 + _ ≤ _; exact Nat.le_of_eq rfl) (hb hby d6_16) (fun _ _ => ⟨rfl, e4, (by decide : 2 + 8 ≤ _), (by decide : 4 + 90 ≤ _)⟩)
  dsimp only [Pt.U, Pt.locs, Pt.cells, Pt.slots] at X6 l6 y6 z6 st6 hQ6 hS6 gs6 CS6
  subst l6 y6 z6
  obtain ⟨X6, hS6, hZ, hown⟩ := rebS hS0 (by rw [e4]; exact (Nat.le_trans (Nat.le_trans hk0 CS2.2.1) CS4.2.1)) X6 hS6 gs6 hZ hown
  obtain ⟨h6, e6⟩ : ∃ h, T6.heap = h := ⟨_, rfl⟩
  rw [e6] at hQ6
  obtain ⟨b0_6, b1_6, rfl, N6q, K6q, O6, n_b0_6, n_b1_6, z_b0_6, z_b1_6, F6_0, F6_1, F6_2, F6_3, F6_4⟩ := hQ6
  have N6 := Fr.app N2 N6q
  have sz_b0_6 : h0.size ≤ b0_6 := Nat.le_trans K4.1 z_b0_6
  have ne_a_b0_6 : a ≠ b0_6 := Nat.ne_of_lt (Nat.lt_of_lt_of_le ((E_a.keep K2q).ext E4).lt z_b0_6)
  have ne_b0_2_b0_6 : b0_2 ≠ b0_6 := Nat.ne_of_lt (Nat.lt_of_lt_of_le (F2_0.ext E4).lt z_b0_6)
  have ne_b4_b0_6 : b4 ≠ b0_6 := Nat.ne_of_lt (Nat.lt_of_lt_of_le A4.lt z_b0_6)
  have sz_b1_6 : h0.size ≤ b1_6 := Nat.le_trans K4.1 z_b1_6
  have ne_a_b1_6 : a ≠ b1_6 := Nat.ne_of_lt (Nat.lt_of_lt_of_le ((E_a.keep K2q).ext E4).lt z_b1_6)
  have ne_b0_2_b1_6 : b0_2 ≠ b1_6 := Nat.ne_of_lt (Nat.lt_of_lt_of_le (F2_0.ext E4).lt z_b1_6)
  have ne_b4_b1_6 : b4 ≠ b1_6 := Nat.ne_of_lt (Nat.lt_of_lt_of_le A4.lt z_b1_6)
  have K6 := K4.trans K6q all0
  rw [e6] at CS6 hS6
  have hk6 : h6.size ≤ h6.size := Nat.le_refl _
  have CR6 := CR4.trans CS6
  obtain ⟨LL7, X6, N6⟩ : ∃ LL, Stand pG l eG _ _ mG _ belowG methG cG T6 LL 10 94 ∧ Fr n0 LL := ⟨_, X6, N6⟩
  refine ob T6 (mkF mG 19 #[oa a, oi sr, oi tr] [(.ref b0_6)]) (fun _ kk => st6.trans kk) ?_
  obtain ⟨fs, hr, hrun, hended, hW, hsame⟩ := X6.leave (v := some (.ref b0_6)) (fun h => by rw [Bd.returns] at h; cases h)
  obtain ⟨w1, w2, w3⟩ := State.Since.ended (U := T6.setFrames fs) hS6 hW (by show _ ≤ T6.heap.size; rw [e6]; exact hk6) hsame
  have CF := CR6.trans (CHv.at X6 hZ hEL CR6.1)
  refine oout (oretA X6 hx Bd.returns rfl rfl (hb hby d6_19) hr) hrun hended ⟨_, _, rfl, ?_, ?_, ⟨_, rfl⟩, w1, w2, w3.mono (by decide) (by decide)⟩
  · show Q_rm_d3 Z wA wD wG wU wV wN wB wC wF wE wO k_1 k_2 a sr tr ki si sm bv ti xv pk pt uu u2 h0 n0 _ T6.heap _
    rw [e6]
    exact ⟨b0_6, b1_6, rfl, N6, K6, O6, n_b0_6, n_b1_6, sz_b0_6, sz_b1_6, F6_0, F6_1, F6_2, F6_3, F6_4⟩
  · show CHr Z oEL sG.vm sG.heap T6.vm T6.heap
    rw [hh, e6]
    exact CF

theorem d21_0 : decode prog_9_method_5_code 0 = .ok (.aload_n 0, 1) := by decide +kernel
theorem d21_1 : decode prog_9_method_5_code 1 = .ok (.getfield 17, 3) := by decide +kernel
theorem d21_4 : decode prog_9_method_5_code 4 = .ok (.areturn, 1) := by decide +kernel
def Q_rm_ses (Z : State) (wA wD wG wU wV wN wB wC wF wE wO : Addr) (k_1 k_2 : ClassId) (a o : Addr) (h0 : Heap) (n0 : Nat) (v : Option Value) (h : Heap) (L : List Loc) : Prop := v = some (.ref o) ∧ Fr n0 L ∧ h = h0
set_option maxRecDepth 65536 in
set_option maxHeartbeats 40000000 in
theorem rm_ses (l : Launch) (Z : State) (a0 : Array Value) (hw : ∀ d ∈ tables_1, d.before a0 Z = true) (ws : List Jvm.Cond) (wA wD wG wU wV wN wB wC wF wE wO : Addr) (k_1 k_2 : ClassId) (a o : Addr) (h0 : Heap) (n0 : Nat) (O0 : Old Z n0 h0) (hS : St0 Z wA wD wG wU wV wN wB wC wF wE wO k_1 k_2 ) (F_a : Fld Z h0 a "com/example/vorgang/vorgang/model/CallContexts" "session" "Lcom/example/vorgang/vorgang/model/ContextUse;" (.ref o)) :
    MetFree l (⟨"com/example/vorgang/vorgang/model/CallContexts", "session", "()Lcom/example/vorgang/vorgang/model/ContextUse;"⟩ : MethodName) (head1 (Jvm.Cond.code (⟨"com/example/vorgang/vorgang/model/CallContexts", "session", "()Lcom/example/vorgang/vorgang/model/ContextUse;"⟩ : MethodName) prog_9_method_5_code 1 (some (.object "com/example/vorgang/vorgang/model/ContextUse")) :: ws) ({ frames := 0, cells := 0, slots := 0, locals := 0 } : Room)) (fun aG UG => aG = #[(.ref a)] ∧ Z.Warmed39 UG.vm ∧ UG.heap = h0) (fun _ _ _ _ _ => True) (fun _ UG oG UG' => ∃ vG LG, oG = .returned vG ∧ Q_rm_ses Z wA wD wG wU wV wN wB wC wF wE wO k_1 k_2 a o h0 n0 vG UG'.heap LG ∧ FrameEnd UG oG UG' LG ({ frames := 0, cells := 0, slots := 0, locals := 0 } : Room).cells ({ frames := 0, cells := 0, slots := 0, locals := 0 } : Room).slots) := by
  refine MetFree.of_bodySF (plainFor_of_name pn_7) hisR ?_
  intro pG eG sG mG argsG belowG methG cG s₁ Bd hml0 hP hK
  obtain ⟨rfl, hZ, hh⟩ := hP
  have hx := Bd.exec
  have hby := Bd.bytes
  have hml : cG.maxLocals = 1 := hml0
  have hown : sG.vm.findClass "com/example/vorgang/vorgang/model/CallContexts" = some mG.cls := findClass_of_methodNamed Bd.named
  have hnm := (name_of_methodNamed Bd.named Bd.method).1
  have X0 : Stand pG l eG ({ frames := 0, cells := 0, slots := 0, locals := 0 } : Room) sG mG #[(.ref a)] belowG methG cG s₁ [] 0 0 := Stand.of_body Bd
  have e0 : s₁.heap = h0 := by rw [← hh, Bd.state]; rfl
  have N0 := Fr.nil n0
  have K0 := Keep.refl h0 []
  obtain ⟨S_wA, E_wA, S_wD, E_wD, S_wG, E_wG, S_wU, E_wU, S_wV, E_wV, S_wN, E_wN, S_wB, E_wB, S_wC, E_wC, S_wF, E_wF, S_wE, E_wE, S_wO, E_wO, F_wA_ordinal, F_wG_ordinal, F_wD_ordinal, F_wU_ordinal, F_wV_ordinal, F_wN_ordinal, F_wB_ordinal, F_wC_ordinal, F_wF_ordinal, F_wE_ordinal, F_wO_value, L_1, L_2, ne_wA_wG, ne_wA_wD, ne_wA_wB, ne_wA_wC, ne_wA_wF, ne_wA_wE, ne_wG_wD, ne_wG_wB, ne_wG_wC, ne_wG_wF, ne_wG_wE, ne_wD_wB, ne_wD_wC, ne_wD_wF, ne_wD_wE, ne_wU_wV, ne_wU_wN, ne_wV_wN, ne_wB_wC, ne_wB_wF, ne_wB_wE, ne_wC_wF, ne_wC_wE, ne_wF_wE⟩ := (id hS : St0 Z wA wD wG wU wV wN wB wC wF wE wO k_1 k_2 )
  refine ostart (g' := (mkF mG 0 #[oa a] [])) (by first | (simp [entryFrame, mkF, argsToLocals, Value.category]; done) | rfl) ?_
  refine ob s₁ (mkF mG 1 #[oa a] [(.ref a)]) (fun _ kk => XS.aloadN X0.here hx rfl (hb hby d21_0) rfl rfl kk) ?_
  obtain ⟨T1, X1, e1, st1⟩ := getF X0 hx hZ hown (host := "") (Or.inl (ow hw 125 rfl)) Via.refl e0 F_a (g := (mkF mG 1 #[oa a] [(.ref a)])) rfl rfl (hb hby d21_1)
  refine ob T1 (mkF mG 4 #[oa a] [(.ref o)]) (fun _ kk => st1 _ kk) ?_
  obtain ⟨fs, hr, hrun, hended, hW, hsame⟩ := X1.leave (v := some (.ref o)) (fun h => by rw [Bd.returns] at h; cases h)
  refine oout (oretA X1 hx Bd.returns rfl rfl (hb hby d21_4) hr) hrun hended ⟨_, _, rfl, ?_, ⟨_, rfl⟩, hW, hsame.mono (by decide) (by decide)⟩
  show Q_rm_ses Z wA wD wG wU wV wN wB wC wF wE wO k_1 k_2 a o h0 n0 _ T1.heap _
  rw [e1]
  exact ⟨rfl, N0, rfl⟩

theorem d22_0 : decode prog_9_method_6_code 0 = .ok (.aload_n 0, 1) := by decide +kernel
theorem d22_1 : decode prog_9_method_6_code 1 = .ok (.getfield 22, 3) := by decide +kernel
theorem d22_4 : decode prog_9_method_6_code 4 = .ok (.areturn, 1) := by decide +kernel
def Q_rm_tra (Z : State) (wA wD wG wU wV wN wB wC wF wE wO : Addr) (k_1 k_2 : ClassId) (a o : Addr) (h0 : Heap) (n0 : Nat) (v : Option Value) (h : Heap) (L : List Loc) : Prop := v = some (.ref o) ∧ Fr n0 L ∧ h = h0
set_option maxRecDepth 65536 in
set_option maxHeartbeats 40000000 in
theorem rm_tra (l : Launch) (Z : State) (a0 : Array Value) (hw : ∀ d ∈ tables_1, d.before a0 Z = true) (ws : List Jvm.Cond) (wA wD wG wU wV wN wB wC wF wE wO : Addr) (k_1 k_2 : ClassId) (a o : Addr) (h0 : Heap) (n0 : Nat) (O0 : Old Z n0 h0) (hS : St0 Z wA wD wG wU wV wN wB wC wF wE wO k_1 k_2 ) (F_a : Fld Z h0 a "com/example/vorgang/vorgang/model/CallContexts" "transaction" "Lcom/example/vorgang/vorgang/model/ContextUse;" (.ref o)) :
    MetFree l (⟨"com/example/vorgang/vorgang/model/CallContexts", "transaction", "()Lcom/example/vorgang/vorgang/model/ContextUse;"⟩ : MethodName) (head1 (Jvm.Cond.code (⟨"com/example/vorgang/vorgang/model/CallContexts", "transaction", "()Lcom/example/vorgang/vorgang/model/ContextUse;"⟩ : MethodName) prog_9_method_6_code 1 (some (.object "com/example/vorgang/vorgang/model/ContextUse")) :: ws) ({ frames := 0, cells := 0, slots := 0, locals := 0 } : Room)) (fun aG UG => aG = #[(.ref a)] ∧ Z.Warmed39 UG.vm ∧ UG.heap = h0) (fun _ _ _ _ _ => True) (fun _ UG oG UG' => ∃ vG LG, oG = .returned vG ∧ Q_rm_tra Z wA wD wG wU wV wN wB wC wF wE wO k_1 k_2 a o h0 n0 vG UG'.heap LG ∧ FrameEnd UG oG UG' LG ({ frames := 0, cells := 0, slots := 0, locals := 0 } : Room).cells ({ frames := 0, cells := 0, slots := 0, locals := 0 } : Room).slots) := by
  refine MetFree.of_bodySF (plainFor_of_name pn_7) hisR ?_
  intro pG eG sG mG argsG belowG methG cG s₁ Bd hml0 hP hK
  obtain ⟨rfl, hZ, hh⟩ := hP
  have hx := Bd.exec
  have hby := Bd.bytes
  have hml : cG.maxLocals = 1 := hml0
  have hown : sG.vm.findClass "com/example/vorgang/vorgang/model/CallContexts" = some mG.cls := findClass_of_methodNamed Bd.named
  have hnm := (name_of_methodNamed Bd.named Bd.method).1
  have X0 : Stand pG l eG ({ frames := 0, cells := 0, slots := 0, locals := 0 } : Room) sG mG #[(.ref a)] belowG methG cG s₁ [] 0 0 := Stand.of_body Bd
  have e0 : s₁.heap = h0 := by rw [← hh, Bd.state]; rfl
  have N0 := Fr.nil n0
  have K0 := Keep.refl h0 []
  obtain ⟨S_wA, E_wA, S_wD, E_wD, S_wG, E_wG, S_wU, E_wU, S_wV, E_wV, S_wN, E_wN, S_wB, E_wB, S_wC, E_wC, S_wF, E_wF, S_wE, E_wE, S_wO, E_wO, F_wA_ordinal, F_wG_ordinal, F_wD_ordinal, F_wU_ordinal, F_wV_ordinal, F_wN_ordinal, F_wB_ordinal, F_wC_ordinal, F_wF_ordinal, F_wE_ordinal, F_wO_value, L_1, L_2, ne_wA_wG, ne_wA_wD, ne_wA_wB, ne_wA_wC, ne_wA_wF, ne_wA_wE, ne_wG_wD, ne_wG_wB, ne_wG_wC, ne_wG_wF, ne_wG_wE, ne_wD_wB, ne_wD_wC, ne_wD_wF, ne_wD_wE, ne_wU_wV, ne_wU_wN, ne_wV_wN, ne_wB_wC, ne_wB_wF, ne_wB_wE, ne_wC_wF, ne_wC_wE, ne_wF_wE⟩ := (id hS : St0 Z wA wD wG wU wV wN wB wC wF wE wO k_1 k_2 )
  refine ostart (g' := (mkF mG 0 #[oa a] [])) (by first | (simp [entryFrame, mkF, argsToLocals, Value.category]; done) | rfl) ?_
  refine ob s₁ (mkF mG 1 #[oa a] [(.ref a)]) (fun _ kk => XS.aloadN X0.here hx rfl (hb hby d22_0) rfl rfl kk) ?_
  obtain ⟨T1, X1, e1, st1⟩ := getF X0 hx hZ hown (host := "") (Or.inl (ow hw 127 rfl)) Via.refl e0 F_a (g := (mkF mG 1 #[oa a] [(.ref a)])) rfl rfl (hb hby d22_1)
  refine ob T1 (mkF mG 4 #[oa a] [(.ref o)]) (fun _ kk => st1 _ kk) ?_
  obtain ⟨fs, hr, hrun, hended, hW, hsame⟩ := X1.leave (v := some (.ref o)) (fun h => by rw [Bd.returns] at h; cases h)
  refine oout (oretA X1 hx Bd.returns rfl rfl (hb hby d22_4) hr) hrun hended ⟨_, _, rfl, ?_, ⟨_, rfl⟩, hW, hsame.mono (by decide) (by decide)⟩
  show Q_rm_tra Z wA wD wG wU wV wN wB wC wF wE wO k_1 k_2 a o h0 n0 _ T1.heap _
  rw [e1]
  exact ⟨rfl, N0, rfl⟩

theorem pd_13 : parseMethodDescriptor "(I)Lcom/example/vorgang/vorgang/model/Policy;" = some ⟨[.int], some (.object "com/example/vorgang/vorgang/model/Policy")⟩ := by decide +kernel
theorem pd_14 : parseMethodDescriptor "(Lcom/example/vorgang/vorgang/model/Policy;Lcom/example/vorgang/vorgang/model/Policy;)V" = some ⟨[(.object "com/example/vorgang/vorgang/model/Policy"), (.object "com/example/vorgang/vorgang/model/Policy")], none⟩ := by decide +kernel
theorem pd_15 : parseMethodDescriptor "(ZZ)Ljava/util/Optional;" = some ⟨[.boolean, .boolean], some (.object "java/util/Optional")⟩ := by decide +kernel
theorem pd_16 : parseMethodDescriptor "(IZ)I" = some ⟨[.int, .boolean], some .int⟩ := by decide +kernel
theorem pd_17 : parseMethodDescriptor "()Ljava/lang/Object;" = some ⟨[], some (.object "java/lang/Object")⟩ := by decide +kernel
theorem pd_18 : parseMethodDescriptor "()Lcom/example/vorgang/vorgang/model/ContextUse;" = some ⟨[], some (.object "com/example/vorgang/vorgang/model/ContextUse")⟩ := by decide +kernel
def Q_rm0 (Z : State) (wA wD wG wU wV wN wB wC wF wE wO : Addr) (k_1 k_2 : ClassId) (i0 i1 i2 : Int32) (h0 : Heap) (n0 : Nat) (v : Option Value) (h : Heap) (L : List Loc) : Prop := v = some (.int (1 : Int32)) ∧ Fr n0 L
set_option maxRecDepth 65536 in
set_option maxHeartbeats 40000000 in
theorem rm0 (l : Launch) (Z : State) (a0 : Array Value) (hw : ∀ d ∈ tables_1, d.before a0 Z = true) (ws : List Jvm.Cond) (wA wD wG wU wV wN wB wC wF wE wO : Addr) (k_1 k_2 : ClassId) (i0 i1 i2 : Int32) (h0 : Heap) (n0 : Nat) (O0 : Old Z n0 h0) (hS : St0 Z wA wD wG wU wV wN wB wC wF wE wO k_1 k_2 ) :
    MetFree l x (head1 (Jvm.Cond.code x code maxLocals ret :: ws) room_1) (fun aG UG => aG = #[(.int i0), (.int i1), (.int i2)] ∧ Z.Warmed39 UG.vm ∧ UG.heap = h0 ∧ CHv Z oEL UG.vm h0) (fun _ _ _ _ _ => True) (fun _ UG oG UG' => ∃ vG LG, oG = .returned vG ∧ Q_rm0 Z wA wD wG wU wV wN wB wC wF wE wO k_1 k_2 i0 i1 i2 h0 n0 vG UG'.heap LG ∧ CHr Z oEL UG.vm UG.heap UG'.vm UG'.heap ∧ ReturnedEndW UG oG UG' LG 32 4224) := by
  refine MetFree.of_bodySF (plainFor_of_name pn_0) hisR ?_
  intro pG eG sG mG argsG belowG methG cG s₁ Bd hml0 hP hK
  obtain ⟨rfl, hZ, hh, hC⟩ := hP
  have hx := Bd.exec
  have hby := Bd.bytes
  have hml : cG.maxLocals = 13 := hml0
  have hown : sG.vm.findClass "com/example/vorgang/vorgang/model/CallPolicyDispatchPinLaw" = some mG.cls := findClass_of_methodNamed Bd.named
  have hnm := (name_of_methodNamed Bd.named Bd.method).1
  have X0 : Stand pG l eG room_1 (sG.setVm sG.vm) mG #[(.int i0), (.int i1), (.int i2)] belowG methG cG s₁ [] 0 0 := Stand.of_body Bd
  have e0 : s₁.heap = h0 := by rw [← hh, Bd.state]; rfl
  have N0 := Fr.nil n0
  have K0 := Keep.refl h0 []
  have hS0 : sG.Since sG.vm h0.size := (State.WarmedH.refl sG).since _
  have hk0 : h0.size ≤ h0.size := Nat.le_refl _
  have CR0 : CHr Z oEL sG.vm h0 sG.vm h0 := CHr.refl hC
  have hEL : EW Z a0 oEL := own_EW hw
  obtain ⟨S_wA, E_wA, S_wD, E_wD, S_wG, E_wG, S_wU, E_wU, S_wV, E_wV, S_wN, E_wN, S_wB, E_wB, S_wC, E_wC, S_wF, E_wF, S_wE, E_wE, S_wO, E_wO, F_wA_ordinal, F_wG_ordinal, F_wD_ordinal, F_wU_ordinal, F_wV_ordinal, F_wN_ordinal, F_wB_ordinal, F_wC_ordinal, F_wF_ordinal, F_wE_ordinal, F_wO_value, L_1, L_2, ne_wA_wG, ne_wA_wD, ne_wA_wB, ne_wA_wC, ne_wA_wF, ne_wA_wE, ne_wG_wD, ne_wG_wB, ne_wG_wC, ne_wG_wF, ne_wG_wE, ne_wD_wB, ne_wD_wC, ne_wD_wF, ne_wD_wE, ne_wU_wV, ne_wU_wN, ne_wV_wN, ne_wB_wC, ne_wB_wF, ne_wB_wE, ne_wC_wF, ne_wC_wE, ne_wF_wE⟩ := (id hS : St0 Z wA wD wG wU wV wN wB wC wF wE wO k_1 k_2 )
  have hZ0 := hZ
  refine ostart (g' := (mkF mG 0 #[oi i0, oi i1, oi i2, .unset, .unset, .unset, .unset, .unset, .unset, .unset, .unset, .unset, .unset] [])) (by first | (simp [entryFrame, mkF, argsToLocals, Value.category, maxLocals]; done) | rfl) ?_
  refine ob s₁ (mkF mG 1 #[oi i0, oi i1, oi i2, .unset, .unset, .unset, .unset, .unset, .unset, .unset, .unset, .unset, .unset] [(.int i0)]) (fun _ kk => XS.iloadN X0.here hx rfl (hb hby at_0) rfl kk) ?_
  refine ob s₁ (mkF mG 3 #[oi i0, oi i1, oi i2, .unset, .unset, .unset, .unset, .unset, .unset, .unset, .unset, .unset, .unset] [(.int (2147483647 : Int32)), (.int i0)]) (fun _ kk => X0.ldcInt hx hown (mvT hZ (ow hw 0 rfl)) (g := (mkF mG 1 #[oi i0, oi i1, oi i2, .unset, .unset, .unset, .unset, .unset, .unset, .unset, .unset, .unset, .unset] [(.int i0)])) rfl (hb hby at_1) _ kk) ?_
  refine ob s₁ (mkF mG 4 #[oi i0, oi i1, oi i2, .unset, .unset, .unset, .unset, .unset, .unset, .unset, .unset, .unset, .unset] [(.int (i0 &&& (2147483647 : Int32)))]) (fun _ kk => XS.iand X0.here hx rfl (hb hby at_3) rfl kk) ?_
  refine ob s₁ (mkF mG 6 #[oi i0, oi i1, oi i2, .unset, .unset, .unset, .unset, .unset, .unset, .unset, .unset, .unset, .unset] [(.int (7 : Int32)), (.int (i0 &&& (2147483647 : Int32)))]) (fun _ kk => XS.bipush X0.here hx rfl (hb hby at_4) kk) ?_
  refine ob s₁ (mkF mG 7 #[oi i0, oi i1, oi i2, .unset, .unset, .unset, .unset, .unset, .unset, .unset, .unset, .unset, .unset] [(.int ((i0 &&& (2147483647 : Int32)) % (7 : Int32)))]) (fun _ kk => iremM X0 hx rfl (hb hby at_6) rfl (by decide) kk) ?_
  obtain ⟨ki, eki, hki⟩ := own_k7 i0
  rw [eki]
  show oGo pG eG belowG _ s₁ (mkF mG 7 #[oi i0, oi i1, oi i2, .unset, .unset, .unset, .unset, .unset, .unset, .unset, .unset, .unset, .unset] [(.int ki)])
  refine ob s₁ (mkF mG 8 #[oi i0, oi i1, oi i2, oi ki, .unset, .unset, .unset, .unset, .unset, .unset, .unset, .unset, .unset] []) (fun _ kk => XS.istoreN X0.here hx rfl (hb hby at_7) rfl (l' := #[oi i0, oi i1, oi i2, oi ki, .unset, .unset, .unset, .unset, .unset, .unset, .unset, .unset, .unset]) rfl kk) ?_
  refine omerge (A := fun zz => oKT ki zz) (g' := fun zz => (mkF mG 26 #[oi i0, oi i1, oi i2, oi ki, .unset, .unset, .unset, .unset, .unset, .unset, .unset, .unset, .unset] [(.int zz)])) ?_ (fun ti hti => ?_)
  · skip
    refine om (g1 := (mkF mG 9 #[oi i0, oi i1, oi i2, oi ki, .unset, .unset, .unset, .unset, .unset, .unset, .unset, .unset, .unset] [(.int ki)])) (fun _ kk => XS.iloadN X0.here hx rfl (hb hby at_8) rfl kk) ?_
    refine om (g1 := (mkF mG 11 #[oi i0, oi i1, oi i2, oi ki, .unset, .unset, .unset, .unset, .unset, .unset, .unset, .unset, .unset] [(.int (6 : Int32)), (.int ki)])) (fun _ kk => XS.bipush X0.here hx rfl (hb hby at_9) kk) ?_
    by_cases hc1 : ki = (6 : Int32)
    · skip
      refine om (g1 := (mkF mG 14 #[oi i0, oi i1, oi i2, oi ki, .unset, .unset, .unset, .unset, .unset, .unset, .unset, .unset, .unset] [])) (fun _ kk => XS.icmpNo X0.here hx rfl (hb hby at_11) rfl (teq hc1).2 kk) ?_
      refine om (g1 := (mkF mG 16 #[oi i0, oi i1, oi i2, oi ki, .unset, .unset, .unset, .unset, .unset, .unset, .unset, .unset, .unset] [(.int (6 : Int32))])) (fun _ kk => XS.bipush X0.here hx rfl (hb hby at_14) kk) ?_
      refine om (g1 := (mkF mG 26 #[oi i0, oi i1, oi i2, oi ki, .unset, .unset, .unset, .unset, .unset, .unset, .unset, .unset, .unset] [(.int (6 : Int32))])) (fun _ kk => XS.goto X0.here hx rfl (pc0 := 16) (pc' := 26) rfl (hb hby at_16) (by decide) (by decide) kk) ?_
      exact ⟨(6 : Int32), Or.inl ⟨hc1, rfl⟩, fun _ kk => kk⟩
    · skip
      refine om (g1 := (mkF mG 19 #[oi i0, oi i1, oi i2, oi ki, .unset, .unset, .unset, .unset, .unset, .unset, .unset, .unset, .unset] [])) (fun _ kk => XS.icmpYes X0.here hx rfl (pc0 := 11) (pc' := 19) rfl (hb hby at_11) rfl (feq hc1).2 (by decide) (by decide) kk) ?_
      refine om (g1 := (mkF mG 20 #[oi i0, oi i1, oi i2, oi ki, .unset, .unset, .unset, .unset, .unset, .unset, .unset, .unset, .unset] [(.int i1)])) (fun _ kk => XS.iloadN X0.here hx rfl (hb hby at_19) rfl kk) ?_
      refine om (g1 := (mkF mG 22 #[oi i0, oi i1, oi i2, oi ki, .unset, .unset, .unset, .unset, .unset, .unset, .unset, .unset, .unset] [(.int (2147483647 : Int32)), (.int i1)])) (fun _ kk => X0.ldcInt hx hown (mvT hZ (ow hw 0 rfl)) (g := (mkF mG 20 #[oi i0, oi i1, oi i2, oi ki, .unset, .unset, .unset, .unset, .unset, .unset, .unset, .unset, .unset] [(.int i1)])) rfl (hb hby at_20) _ kk) ?_
      refine om (g1 := (mkF mG 23 #[oi i0, oi i1, oi i2, oi ki, .unset, .unset, .unset, .unset, .unset, .unset, .unset, .unset, .unset] [(.int (i1 &&& (2147483647 : Int32)))])) (fun _ kk => XS.iand X0.here hx rfl (hb hby at_22) rfl kk) ?_
      refine om (g1 := (mkF mG 25 #[oi i0, oi i1, oi i2, oi ki, .unset, .unset, .unset, .unset, .unset, .unset, .unset, .unset, .unset] [(.int (6 : Int32)), (.int (i1 &&& (2147483647 : Int32)))])) (fun _ kk => XS.bipush X0.here hx rfl (hb hby at_23) kk) ?_
      refine om (g1 := (mkF mG 26 #[oi i0, oi i1, oi i2, oi ki, .unset, .unset, .unset, .unset, .unset, .unset, .unset, .unset, .unset] [(.int ((i1 &&& (2147483647 : Int32)) % (6 : Int32)))])) (fun _ kk => iremM X0 hx rfl (hb hby at_25) rfl (by decide) kk) ?_
      exact ⟨((i1 &&& (2147483647 : Int32)) % (6 : Int32)), Or.inr ⟨own_76 hki hc1, by obtain ⟨_, q1, q2⟩ := own_k6 i1; rw [q1]; exact q2⟩, fun _ kk => kk⟩
  show oGo pG eG belowG _ s₁ (mkF mG 26 #[oi i0, oi i1, oi i2, oi ki, .unset, .unset, .unset, .unset, .unset, .unset, .unset, .unset, .unset] [(.int ti)])
  refine ob s₁ (mkF mG 28 #[oi i0, oi i1, oi i2, oi ki, oi ti, .unset, .unset, .unset, .unset, .unset, .unset, .unset, .unset] []) (fun _ kk => XS.istore X0.here hx rfl (hb hby at_26) rfl (l' := #[oi i0, oi i1, oi i2, oi ki, oi ti, .unset, .unset, .unset, .unset, .unset, .unset, .unset, .unset]) rfl kk) ?_
  refine omerge (A := fun zz => oBo zz) (g' := fun zz => (mkF mG 39 #[oi i0, oi i1, oi i2, oi ki, oi ti, .unset, .unset, .unset, .unset, .unset, .unset, .unset, .unset] [(.int zz)])) ?_ (fun sr bS => ?_)
  · skip
    refine om (g1 := (mkF mG 29 #[oi i0, oi i1, oi i2, oi ki, oi ti, .unset, .unset, .unset, .unset, .unset, .unset, .unset, .unset] [(.int i2)])) (fun _ kk => XS.iloadN X0.here hx rfl (hb hby at_28) rfl kk) ?_
    refine om (g1 := (mkF mG 30 #[oi i0, oi i1, oi i2, oi ki, oi ti, .unset, .unset, .unset, .unset, .unset, .unset, .unset, .unset] [(.int (1 : Int32)), (.int i2)])) (fun _ kk => XS.iconst X0.here hx rfl (hb hby at_29) kk) ?_
    refine om (g1 := (mkF mG 31 #[oi i0, oi i1, oi i2, oi ki, oi ti, .unset, .unset, .unset, .unset, .unset, .unset, .unset, .unset] [(.int (i2 &&& (1 : Int32)))])) (fun _ kk => XS.iand X0.here hx rfl (hb hby at_30) rfl kk) ?_
    by_cases hc2 : (i2 &&& (1 : Int32)) = (0 : Int32)
    · skip
      refine om (g1 := (mkF mG 38 #[oi i0, oi i1, oi i2, oi ki, oi ti, .unset, .unset, .unset, .unset, .unset, .unset, .unset, .unset] [])) (fun _ kk => XS.ifYes X0.here hx rfl (pc0 := 31) (pc' := 38) rfl (hb hby at_31) rfl ((if0 _ _).trans (teq hc2).1) (by decide) (by decide) kk) ?_
      refine om (g1 := (mkF mG 39 #[oi i0, oi i1, oi i2, oi ki, oi ti, .unset, .unset, .unset, .unset, .unset, .unset, .unset, .unset] [(.int (0 : Int32))])) (fun _ kk => XS.iconst X0.here hx rfl (hb hby at_38) kk) ?_
      exact ⟨(0 : Int32), Or.inl rfl, fun _ kk => kk⟩
    · skip
      refine om (g1 := (mkF mG 34 #[oi i0, oi i1, oi i2, oi ki, oi ti, .unset, .unset, .unset, .unset, .unset, .unset, .unset, .unset] [])) (fun _ kk => XS.ifNo X0.here hx rfl (hb hby at_31) rfl ((if0 _ _).trans (feq hc2).1) kk) ?_
      refine om (g1 := (mkF mG 35 #[oi i0, oi i1, oi i2, oi ki, oi ti, .unset, .unset, .unset, .unset, .unset, .unset, .unset, .unset] [(.int (1 : Int32))])) (fun _ kk => XS.iconst X0.here hx rfl (hb hby at_34) kk) ?_
      refine om (g1 := (mkF mG 39 #[oi i0, oi i1, oi i2, oi ki, oi ti, .unset, .unset, .unset, .unset, .unset, .unset, .unset, .unset] [(.int (1 : Int32))])) (fun _ kk => XS.goto X0.here hx rfl (pc0 := 35) (pc' := 39) rfl (hb hby at_35) (by decide) (by decide) kk) ?_
      exact ⟨(1 : Int32), Or.inr rfl, fun _ kk => kk⟩
  show oGo pG eG belowG _ s₁ (mkF mG 39 #[oi i0, oi i1, oi i2, oi ki, oi ti, .unset, .unset, .unset, .unset, .unset, .unset, .unset, .unset] [(.int sr)])
  refine ob s₁ (mkF mG 41 #[oi i0, oi i1, oi i2, oi ki, oi ti, oi sr, .unset, .unset, .unset, .unset, .unset, .unset, .unset] []) (fun _ kk => XS.istore X0.here hx rfl (hb hby at_39) rfl (l' := #[oi i0, oi i1, oi i2, oi ki, oi ti, oi sr, .unset, .unset, .unset, .unset, .unset, .unset, .unset]) rfl kk) ?_
  refine omerge (A := fun zz => oBo zz) (g' := fun zz => (mkF mG 52 #[oi i0, oi i1, oi i2, oi ki, oi ti, oi sr, .unset, .unset, .unset, .unset, .unset, .unset, .unset] [(.int zz)])) ?_ (fun tr bT => ?_)
  · skip
    refine om (g1 := (mkF mG 42 #[oi i0, oi i1, oi i2, oi ki, oi ti, oi sr, .unset, .unset, .unset, .unset, .unset, .unset, .unset] [(.int i2)])) (fun _ kk => XS.iloadN X0.here hx rfl (hb hby at_41) rfl kk) ?_
    refine om (g1 := (mkF mG 43 #[oi i0, oi i1, oi i2, oi ki, oi ti, oi sr, .unset, .unset, .unset, .unset, .unset, .unset, .unset] [(.int (2 : Int32)), (.int i2)])) (fun _ kk => XS.iconst X0.here hx rfl (hb hby at_42) kk) ?_
    refine om (g1 := (mkF mG 44 #[oi i0, oi i1, oi i2, oi ki, oi ti, oi sr, .unset, .unset, .unset, .unset, .unset, .unset, .unset] [(.int (i2 &&& (2 : Int32)))])) (fun _ kk => XS.iand X0.here hx rfl (hb hby at_43) rfl kk) ?_
    by_cases hc3 : (i2 &&& (2 : Int32)) = (0 : Int32)
    · skip
      refine om (g1 := (mkF mG 51 #[oi i0, oi i1, oi i2, oi ki, oi ti, oi sr, .unset, .unset, .unset, .unset, .unset, .unset, .unset] [])) (fun _ kk => XS.ifYes X0.here hx rfl (pc0 := 44) (pc' := 51) rfl (hb hby at_44) rfl ((if0 _ _).trans (teq hc3).1) (by decide) (by decide) kk) ?_
      refine om (g1 := (mkF mG 52 #[oi i0, oi i1, oi i2, oi ki, oi ti, oi sr, .unset, .unset, .unset, .unset, .unset, .unset, .unset] [(.int (0 : Int32))])) (fun _ kk => XS.iconst X0.here hx rfl (hb hby at_51) kk) ?_
      exact ⟨(0 : Int32), Or.inl rfl, fun _ kk => kk⟩
    · skip
      refine om (g1 := (mkF mG 47 #[oi i0, oi i1, oi i2, oi ki, oi ti, oi sr, .unset, .unset, .unset, .unset, .unset, .unset, .unset] [])) (fun _ kk => XS.ifNo X0.here hx rfl (hb hby at_44) rfl ((if0 _ _).trans (feq hc3).1) kk) ?_
      refine om (g1 := (mkF mG 48 #[oi i0, oi i1, oi i2, oi ki, oi ti, oi sr, .unset, .unset, .unset, .unset, .unset, .unset, .unset] [(.int (1 : Int32))])) (fun _ kk => XS.iconst X0.here hx rfl (hb hby at_47) kk) ?_
      refine om (g1 := (mkF mG 52 #[oi i0, oi i1, oi i2, oi ki, oi ti, oi sr, .unset, .unset, .unset, .unset, .unset, .unset, .unset] [(.int (1 : Int32))])) (fun _ kk => XS.goto X0.here hx rfl (pc0 := 48) (pc' := 52) rfl (hb hby at_48) (by decide) (by decide) kk) ?_
      exact ⟨(1 : Int32), Or.inr rfl, fun _ kk => kk⟩
  show oGo pG eG belowG _ s₁ (mkF mG 52 #[oi i0, oi i1, oi i2, oi ki, oi ti, oi sr, .unset, .unset, .unset, .unset, .unset, .unset, .unset] [(.int tr)])
  refine ob s₁ (mkF mG 54 #[oi i0, oi i1, oi i2, oi ki, oi ti, oi sr, oi tr, .unset, .unset, .unset, .unset, .unset, .unset] []) (fun _ kk => XS.istore X0.here hx rfl (hb hby at_52) rfl (l' := #[oi i0, oi i1, oi i2, oi ki, oi ti, oi sr, oi tr, .unset, .unset, .unset, .unset, .unset, .unset]) rfl kk) ?_
  have hk7 : oK7 ki := hki
  have ht7 : oK7 ti := hti.elim (fun q => Or.inr (Or.inr (Or.inr (Or.inr (Or.inr (Or.inr q.2)))))) (fun q => own_67 q.2)
  obtain ⟨pk, pK⟩ : ∃ a, oPol wA wB wC wD wE wF wG ki a := own_pol hk7
  obtain ⟨pt, pT⟩ : ∃ a, oPol wA wB wC wD wE wF wG ti a := own_pol ht7
  have hBM := own_bm hS pK pT hti
  have E_pk := own_pe hS pK
  have E_pt := own_pe hS pT
  obtain ⟨si, rS⟩ : ∃ z, oRu ki sr = z := ⟨_, rfl⟩
  obtain ⟨sm, rM⟩ : ∃ z, oSm si sr = z := ⟨_, rfl⟩
  obtain ⟨bv, rB⟩ : ∃ z, oAn tr sm = z := ⟨_, rfl⟩
  have hbv : oBo bv := by rw [← rB]; exact own_anO tr sm
  obtain ⟨xv, rX⟩ : ∃ z, oRu ti bv = z := ⟨_, rfl⟩
  by_cases lS : si < (0 : Int32)
  · skip
    obtain ⟨T4, h4, X4, e4, E4, A4, D4, _x4, st4⟩ := newO X0 hx hZ hown (ow hw 1 rfl) (ow hw 2 rfl) (ow hw 3 rfl) e0 (g := (mkF mG 54 #[oi i0, oi i1, oi i2, oi ki, oi ti, oi sr, oi tr, .unset, .unset, .unset, .unset, .unset, .unset] [])) rfl (hb hby at_54) (by decide) (by decide)
    obtain ⟨b4, g4⟩ : ∃ z, z = h0.size := ⟨_, rfl⟩
    rw [← g4] at A4 D4 st4
    have n_b4 : n0 ≤ b4 := Nat.le_trans (on0 O0) (Nat.le_of_eq g4.symm)
    have sz_b4 : h0.size ≤ b4 := Nat.le_trans K0.1 (Nat.le_of_eq g4.symm)
    have CS4 : CHr Z oEL sG.vm h0 sG.vm h4 := CHr.ext E4 CR0.1
    have CR4 := CR0.trans CS4
    have O4 := O0.ext E4
    have K4 := K0.ext E4
    obtain ⟨LL5, X4, N0⟩ : ∃ LL, Stand pG l eG _ _ mG _ belowG methG cG T4 LL 1 2 ∧ Fr n0 LL := ⟨_, X4, N0⟩
    have sf_b4 : Safe Z oEL sG.vm h4 b4 := Safe.ext E4 CR0.1 (Safe.new (Nat.le_of_eq g4.symm))
    have F4_40 : Fld Z h4 b4 "com/example/vorgang/vorgang/model/CallPolicy" "sessionKind" "Lcom/example/vorgang/vorgang/model/Policy;" .null := D4 (Or.inr (ow hw 40 rfl)) (ty := (.object "com/example/vorgang/vorgang/model/Policy")) (by decide)
    have F4_42 : Fld Z h4 b4 "com/example/vorgang/vorgang/model/CallPolicy" "transactionType" "Lcom/example/vorgang/vorgang/model/Policy;" .null := D4 (Or.inr (ow hw 42 rfl)) (ty := (.object "com/example/vorgang/vorgang/model/Policy")) (by decide)
    refine ob T4 (mkF mG 57 #[oi i0, oi i1, oi i2, oi ki, oi ti, oi sr, oi tr, .unset, .unset, .unset, .unset, .unset, .unset] [(.ref b4)]) (fun _ kk => st4 _ kk) ?_
    refine ob T4 (mkF mG 58 #[oi i0, oi i1, oi i2, oi ki, oi ti, oi sr, oi tr, .unset, .unset, .unset, .unset, .unset, .unset] [(.ref b4), (.ref b4)]) (fun _ kk => XS.dup X4.here hx rfl (hb hby at_57) rfl rfl kk) ?_
    refine ob T4 (mkF mG 59 #[oi i0, oi i1, oi i2, oi ki, oi ti, oi sr, oi tr, .unset, .unset, .unset, .unset, .unset, .unset] [(.int ki), (.ref b4), (.ref b4)]) (fun _ kk => XS.iloadN X4.here hx rfl (hb hby at_58) rfl kk) ?_
    obtain ⟨_, _, ⟨T6, L6, k6, n6⟩, -, X6, ⟨Lc6, hQ6, l6, y6, z6⟩, st6⟩ := Jvm.LawKit.callS X4 hx (y := (⟨"com/example/vorgang/vorgang/model/CallPolicyDispatchPinLaw", "policy", "(I)Lcom/example/vorgang/vorgang/model/Policy;"⟩ : MethodName)) hown (mvT hZ (ow hw 4 rfl)) (mvT hZ (ow hw 5 rfl)) (mvT hZ (ow hw 6 rfl)) (mvT hZ (ow hw 7 rfl)) (by decide) (backOf (W := 2) (rm_polA l Z a0 hw [] wA wD wG wU wV wN wB wC wF wE wO k_1 k_2 ki pk h4 n0 O4 hS pK) hZ (ow hw 7 rfl) (ow hw 6 rfl) (by decide) (by decide)) (g := (mkF mG 59 #[oi i0, oi i1, oi i2, oi ki, oi ti, oi sr, oi tr, .unset, .unset, .unset, .unset, .unset, .unset] [(.int ki), (.ref b4), (.ref b4)])) rfl (by rw [hml]; rfl) (argsL := [(.int ki)]) (rest := [(.ref b4), (.ref b4)]) (lenOf pd_13 rfl) rfl (by show 2 * 0 + _ ≤ _; exact Nat.le_of_eq rfl) (hb hby at_59) (fun _ _ => ⟨rfl, e4, (by decide : 1 + 0 ≤ _), (by decide : 2 + 0 ≤ _)⟩)
    dsimp only [Pt.U, Pt.locs, Pt.cells, Pt.slots] at X6 l6 y6 z6 st6 hQ6
    subst l6 y6 z6
    obtain ⟨rfl, N6q, e6⟩ := hQ6
    have N6 := Fr.app N0 N6q
    obtain ⟨LL7, X6, N6⟩ : ∃ LL, Stand pG l eG _ _ mG _ belowG methG cG T6 LL 1 2 ∧ Fr n0 LL := ⟨_, X6, N6⟩
    refine ob T6 (mkF mG 62 #[oi i0, oi i1, oi i2, oi ki, oi ti, oi sr, oi tr, .unset, .unset, .unset, .unset, .unset, .unset] [(.ref pk), (.ref b4), (.ref b4)]) (fun _ kk => st6 _ kk) ?_
    refine ob T6 (mkF mG 64 #[oi i0, oi i1, oi i2, oi ki, oi ti, oi sr, oi tr, .unset, .unset, .unset, .unset, .unset, .unset] [(.int ti), (.ref pk), (.ref b4), (.ref b4)]) (fun _ kk => XS.iload X6.here hx rfl (hb hby at_62) rfl kk) ?_
    obtain ⟨_, _, ⟨T8, L8, k8, n8⟩, -, X8, ⟨Lc8, hQ8, l8, y8, z8⟩, st8⟩ := Jvm.LawKit.callS X6 hx (y := (⟨"com/example/vorgang/vorgang/model/CallPolicyDispatchPinLaw", "policy", "(I)Lcom/example/vorgang/vorgang/model/Policy;"⟩ : MethodName)) hown (mvT hZ (ow hw 4 rfl)) (mvT hZ (ow hw 5 rfl)) (mvT hZ (ow hw 6 rfl)) (mvT hZ (ow hw 7 rfl)) (by decide) (backOf (W := 3) (rm_polA l Z a0 hw [] wA wD wG wU wV wN wB wC wF wE wO k_1 k_2 ti pt h4 n0 O4 hS pT) hZ (ow hw 7 rfl) (ow hw 6 rfl) (by decide) (by decide)) (g := (mkF mG 64 #[oi i0, oi i1, oi i2, oi ki, oi ti, oi sr, oi tr, .unset, .unset, .unset, .unset, .unset, .unset] [(.int ti), (.ref pk), (.ref b4), (.ref b4)])) rfl (by rw [hml]; rfl) (argsL := [(.int ti)]) (rest := [(.ref pk), (.ref b4), (.ref b4)]) (lenOf pd_13 rfl) rfl (by show 2 * 0 + _ ≤ _; exact Nat.le_of_eq rfl) (hb hby at_64) (fun _ _ => ⟨rfl, e6, (by decide : 1 + 0 ≤ _), (by decide : 2 + 0 ≤ _)⟩)
    dsimp only [Pt.U, Pt.locs, Pt.cells, Pt.slots] at X8 l8 y8 z8 st8 hQ8
    subst l8 y8 z8
    obtain ⟨rfl, N8q, e8⟩ := hQ8
    have N8 := Fr.app N6 N8q
    obtain ⟨LL9, X8, N8⟩ : ∃ LL, Stand pG l eG _ _ mG _ belowG methG cG T8 LL 1 2 ∧ Fr n0 LL := ⟨_, X8, N8⟩
    refine ob T8 (mkF mG 67 #[oi i0, oi i1, oi i2, oi ki, oi ti, oi sr, oi tr, .unset, .unset, .unset, .unset, .unset, .unset] [(.ref pt), (.ref pk), (.ref b4), (.ref b4)]) (fun _ kk => st8 _ kk) ?_
    obtain ⟨_, _, ⟨T10, L10, k10, n10⟩, -, X10, hS10, gs10, ⟨Lc10, hQ10, l10, y10, z10, CS10⟩, st10⟩ := X8.specialBackS hx (y := (⟨"com/example/vorgang/vorgang/model/CallPolicy", "<init>", "(Lcom/example/vorgang/vorgang/model/Policy;Lcom/example/vorgang/vorgang/model/Policy;)V"⟩ : MethodName)) rfl hown (mvT hZ (ow hw 13 rfl)) (mvT hZ (ow hw 14 rfl)) (mvT hZ (ow hw 15 rfl)) (by decide) (backOfSH (W := 1) (rm_ciA l Z a0 hw [] wA wD wG wU wV wN wB wC wF wE wO k_1 k_2 b4 pk pt .null .null h4 n0 O4 hS A4 F4_40 F4_42 n_b4 hBM) hZ (ow hw 15 rfl) (ow hw 3 rfl) (by decide) (by decide) hEL CR4.1) (g := (mkF mG 67 #[oi i0, oi i1, oi i2, oi ki, oi ti, oi sr, oi tr, .unset, .unset, .unset, .unset, .unset, .unset] [(.ref pt), (.ref pk), (.ref b4), (.ref b4)])) rfl (by rw [hml]; rfl) (Steps.refl _) (a := b4) (argsL := [(.ref pk), (.ref pt)]) (rest := [(.ref b4)]) (lenOf pd_14 rfl) rfl (by show 2 * 0 + _ ≤ _; exact Nat.le_of_eq rfl) (hb hby at_67) (fun _ _ => ⟨rfl, e8, (by decide : 1 + 4 ≤ _), (by decide : 2 + 112 ≤ _)⟩)
    dsimp only [Pt.U, Pt.locs, Pt.cells, Pt.slots] at X10 l10 y10 z10 st10 hQ10 hS10 gs10 CS10
    subst l10 y10 z10
    obtain ⟨X10, hS10, hZ, hown⟩ := rebS hS0 (by rw [e8]; exact (Nat.le_trans hk0 CS4.2.1)) X10 hS10 gs10 hZ hown
    obtain ⟨h10, e10⟩ : ∃ h, T10.heap = h := ⟨_, rfl⟩
    rw [e10] at hQ10
    obtain ⟨rfl, N10q, K10q, O10, F10_0, F10_1⟩ := hQ10
    have N10 := Fr.app N8 N10q
    have K10 := K4.trans K10q (allS (Or.inr sz_b4) all0)
    rw [e10] at CS10 hS10
    have hk10 : h10.size ≤ h10.size := Nat.le_refl _
    have CR10 := CR4.trans CS10
    obtain ⟨LL11, X10, N10⟩ : ∃ LL, Stand pG l eG _ _ mG _ belowG methG cG T10 LL 5 114 ∧ Fr n0 LL := ⟨_, X10, N10⟩
    refine ob T10 (mkF mG 70 #[oi i0, oi i1, oi i2, oi ki, oi ti, oi sr, oi tr, .unset, .unset, .unset, .unset, .unset, .unset] [(.ref b4)]) (fun _ kk => st10.trans kk) ?_
    refine ob T10 (mkF mG 72 #[oi i0, oi i1, oi i2, oi ki, oi ti, oi sr, oi tr, oa b4, .unset, .unset, .unset, .unset, .unset] []) (fun _ kk => XS.astore X10.here hx rfl (hb hby at_70) rfl rfl (l' := #[oi i0, oi i1, oi i2, oi ki, oi ti, oi sr, oi tr, oa b4, .unset, .unset, .unset, .unset, .unset]) rfl kk) ?_
    refine ob T10 (mkF mG 74 #[oi i0, oi i1, oi i2, oi ki, oi ti, oi sr, oi tr, oa b4, .unset, .unset, .unset, .unset, .unset] [(.ref b4)]) (fun _ kk => XS.aload X10.here hx rfl (hb hby at_72) rfl rfl kk) ?_
    refine ob T10 (mkF mG 76 #[oi i0, oi i1, oi i2, oi ki, oi ti, oi sr, oi tr, oa b4, .unset, .unset, .unset, .unset, .unset] [(.int sr), (.ref b4)]) (fun _ kk => XS.iload X10.here hx rfl (hb hby at_74) rfl kk) ?_
    refine ob T10 (mkF mG 78 #[oi i0, oi i1, oi i2, oi ki, oi ti, oi sr, oi tr, oa b4, .unset, .unset, .unset, .unset, .unset] [(.int tr), (.int sr), (.ref b4)]) (fun _ kk => XS.iload X10.here hx rfl (hb hby at_76) rfl kk) ?_
    obtain ⟨cq12, kq12, q12a, q12b, q12c⟩ := isOf hZ e10 (A4.keep K10q)
    obtain ⟨_, _, ⟨T12, L12, k12, n12⟩, -, X12, ⟨Lc12, hQ12, l12, y12, z12⟩, st12⟩ := X10.virtualBack hx (y := (⟨"com/example/vorgang/vorgang/model/CallPolicy", "dispatch", "(ZZ)Ljava/util/Optional;"⟩ : MethodName)) (z := (⟨"com/example/vorgang/vorgang/model/CallPolicy", "dispatch", "(ZZ)Ljava/util/Optional;"⟩ : MethodName)) hown (mvT hZ (ow hw 43 rfl)) (mvT hZ (ow hw 44 rfl)) (notFace_of_selects (args := #[]) (mvT hZ (ow hw 46 rfl))) (mvT hZ (ow hw 46 rfl)) (mvT hZ (ow hw 45 rfl)) (by decide) (backOf (W := 0) (rm_d1 l Z a0 hw [] wA wD wG wU wV wN wB wC wF wE wO k_1 k_2 b4 sr tr ki si pk h10 n0 O10 hS F10_0 pK bS bT rS lS) hZ (ow hw 47 rfl) (ow hw 3 rfl) (by decide) (by decide)) q12a q12c (g := (mkF mG 78 #[oi i0, oi i1, oi i2, oi ki, oi ti, oi sr, oi tr, oa b4, .unset, .unset, .unset, .unset, .unset] [(.int tr), (.int sr), (.ref b4)])) rfl (by rw [hml]; rfl) (Steps.refl _) (argsL := [(.int sr), (.int tr)]) (rest := []) (lenOf pd_15 rfl) rfl (by show 2 * 0 + _ ≤ _; exact Nat.le_of_eq rfl) (hb hby at_78) (fun _ _ => ⟨rfl, e10, (by decide : 5 + 1 ≤ _), (by decide : 114 + 3 ≤ _)⟩)
    dsimp only [Pt.U, Pt.locs, Pt.cells, Pt.slots] at X12 l12 y12 z12 st12 hQ12
    subst l12 y12 z12
    obtain ⟨h12, e12⟩ : ∃ h, T12.heap = h := ⟨_, rfl⟩
    rw [e12] at hQ12
    obtain ⟨rfl, N12q, K12q, O12⟩ := hQ12
    have N12 := Fr.app N10 N12q
    have K12 := K10.trans K12q all0
    have CS12 : CHr Z oEL T10.vm h10 T10.vm h12 := CHr.keep K12q sf0 CR10.1
    have CR12 := CR10.trans CS12
    obtain ⟨LL13, X12, N12⟩ : ∃ LL, Stand pG l eG _ _ mG _ belowG methG cG T12 LL 6 117 ∧ Fr n0 LL := ⟨_, X12, N12⟩
    refine ob T12 (mkF mG 81 #[oi i0, oi i1, oi i2, oi ki, oi ti, oi sr, oi tr, oa b4, .unset, .unset, .unset, .unset, .unset] [(.ref wO)]) (fun _ kk => st12.trans kk) ?_
    refine ob T12 (mkF mG 83 #[oi i0, oi i1, oi i2, oi ki, oi ti, oi sr, oi tr, oa b4, oa wO, .unset, .unset, .unset, .unset] []) (fun _ kk => XS.astore X12.here hx rfl (hb hby at_81) rfl rfl (l' := #[oi i0, oi i1, oi i2, oi ki, oi ti, oi sr, oi tr, oa b4, oa wO, .unset, .unset, .unset, .unset]) rfl kk) ?_
    refine ob T12 (mkF mG 84 #[oi i0, oi i1, oi i2, oi ki, oi ti, oi sr, oi tr, oa b4, oa wO, .unset, .unset, .unset, .unset] [(.int ki)]) (fun _ kk => XS.iloadN X12.here hx rfl (hb hby at_83) rfl kk) ?_
    refine ob T12 (mkF mG 86 #[oi i0, oi i1, oi i2, oi ki, oi ti, oi sr, oi tr, oa b4, oa wO, .unset, .unset, .unset, .unset] [(.int sr), (.int ki)]) (fun _ kk => XS.iload X12.here hx rfl (hb hby at_84) rfl kk) ?_
    obtain ⟨_, _, ⟨T14, L14, k14, n14⟩, -, X14, ⟨Lc14, hQ14, l14, y14, z14⟩, st14⟩ := Jvm.LawKit.callS X12 hx (y := (⟨"com/example/vorgang/vorgang/model/CallPolicyDispatchPinLaw", "rule", "(IZ)I"⟩ : MethodName)) hown (mvT hZ (ow hw 130 rfl)) (mvT hZ (ow hw 131 rfl)) (mvT hZ (ow hw 6 rfl)) (mvT hZ (ow hw 132 rfl)) (by decide) (backOf (W := 0) (rm_ruA l Z a0 hw [] wA wD wG wU wV wN wB wC wF wE wO k_1 k_2 ki sr si h12 n0 O12 hS hk7 bS rS) hZ (ow hw 132 rfl) (ow hw 6 rfl) (by decide) (by decide)) (g := (mkF mG 86 #[oi i0, oi i1, oi i2, oi ki, oi ti, oi sr, oi tr, oa b4, oa wO, .unset, .unset, .unset, .unset] [(.int sr), (.int ki)])) rfl (by rw [hml]; rfl) (argsL := [(.int ki), (.int sr)]) (rest := []) (lenOf pd_16 rfl) rfl (by show 2 * 0 + _ ≤ _; exact Nat.le_of_eq rfl) (hb hby at_86) (fun _ _ => ⟨rfl, e12, (by decide : 6 + 0 ≤ _), (by decide : 117 + 0 ≤ _)⟩)
    dsimp only [Pt.U, Pt.locs, Pt.cells, Pt.slots] at X14 l14 y14 z14 st14 hQ14
    subst l14 y14 z14
    obtain ⟨rfl, N14q, e14⟩ := hQ14
    have N14 := Fr.app N12 N14q
    obtain ⟨LL15, X14, N14⟩ : ∃ LL, Stand pG l eG _ _ mG _ belowG methG cG T14 LL 6 117 ∧ Fr n0 LL := ⟨_, X14, N14⟩
    refine ob T14 (mkF mG 89 #[oi i0, oi i1, oi i2, oi ki, oi ti, oi sr, oi tr, oa b4, oa wO, .unset, .unset, .unset, .unset] [(.int si)]) (fun _ kk => st14 _ kk) ?_
    refine ob T14 (mkF mG 91 #[oi i0, oi i1, oi i2, oi ki, oi ti, oi sr, oi tr, oa b4, oa wO, oi si, .unset, .unset, .unset] []) (fun _ kk => XS.istore X14.here hx rfl (hb hby at_89) rfl (l' := #[oi i0, oi i1, oi i2, oi ki, oi ti, oi sr, oi tr, oa b4, oa wO, oi si, .unset, .unset, .unset]) rfl kk) ?_
    refine ob T14 (mkF mG 93 #[oi i0, oi i1, oi i2, oi ki, oi ti, oi sr, oi tr, oa b4, oa wO, oi si, .unset, .unset, .unset] [(.int si)]) (fun _ kk => XS.iload X14.here hx rfl (hb hby at_91) rfl kk) ?_
    refine ob T14 (mkF mG 96 #[oi i0, oi i1, oi i2, oi ki, oi ti, oi sr, oi tr, oa b4, oa wO, oi si, .unset, .unset, .unset] []) (fun _ kk => XS.ifNo X14.here hx rfl (hb hby at_93) rfl ((if0 _ _).trans (tlt lS).2.1) kk) ?_
    refine ob T14 (mkF mG 98 #[oi i0, oi i1, oi i2, oi ki, oi ti, oi sr, oi tr, oa b4, oa wO, oi si, .unset, .unset, .unset] [(.ref wO)]) (fun _ kk => XS.aload X14.here hx rfl (hb hby at_96) rfl rfl kk) ?_
    obtain ⟨cq16, kq16, q16a, q16b, q16c⟩ := isOf hZ e14 (E_wO.ext O12.2)
    obtain ⟨_, _, ⟨T16, L16, k16, n16⟩, -, X16, ⟨Lc16, hQ16, l16, y16, z16⟩, st16⟩ := X14.virtualBack hx (y := (⟨"java/util/Optional", "isPresent", "()Z"⟩ : MethodName)) (z := (⟨"java/util/Optional", "isPresent", "()Z"⟩ : MethodName)) hown (mvT hZ (ow hw 133 rfl)) (mvT hZ (ow hw 134 rfl)) (notFace_of_selects (args := #[]) (mvT hZ (ow hw 136 rfl))) (mvT hZ (ow hw 136 rfl)) (mvT hZ (ow hw 135 rfl)) (by decide) (backOf (W := 0) (rm_ipE l Z a0 hw [] wA wD wG wU wV wN wB wC wF wE wO k_1 k_2  h12 n0 O12 hS ) hZ (ow hw 137 rfl) (ow hw 67 rfl) (by decide) (by decide)) q16a q16c (g := (mkF mG 98 #[oi i0, oi i1, oi i2, oi ki, oi ti, oi sr, oi tr, oa b4, oa wO, oi si, .unset, .unset, .unset] [(.ref wO)])) rfl (by rw [hml]; rfl) (Steps.refl _) (argsL := []) (rest := []) (lenOf pd_9 rfl) rfl (by show 2 * 0 + _ ≤ _; exact Nat.le_of_eq rfl) (hb hby at_98) (fun _ _ => ⟨rfl, e14, (by decide : 6 + 0 ≤ _), (by decide : 117 + 0 ≤ _)⟩)
    dsimp only [Pt.U, Pt.locs, Pt.cells, Pt.slots] at X16 l16 y16 z16 st16 hQ16
    subst l16 y16 z16
    obtain ⟨rfl, N16q, e16⟩ := hQ16
    have N16 := Fr.app N14 N16q
    obtain ⟨LL17, X16, N16⟩ : ∃ LL, Stand pG l eG _ _ mG _ belowG methG cG T16 LL 6 117 ∧ Fr n0 LL := ⟨_, X16, N16⟩
    refine ob T16 (mkF mG 101 #[oi i0, oi i1, oi i2, oi ki, oi ti, oi sr, oi tr, oa b4, oa wO, oi si, .unset, .unset, .unset] [(.int (0 : Int32))]) (fun _ kk => st16.trans kk) ?_
    refine ob T16 (mkF mG 104 #[oi i0, oi i1, oi i2, oi ki, oi ti, oi sr, oi tr, oa b4, oa wO, oi si, .unset, .unset, .unset] []) (fun _ kk => XS.ifNo X16.here hx rfl (hb hby at_101) rfl ((if0 _ _).trans (teq (by decide : (0 : Int32) = (0 : Int32))).2) kk) ?_
    refine ob T16 (mkF mG 105 #[oi i0, oi i1, oi i2, oi ki, oi ti, oi sr, oi tr, oa b4, oa wO, oi si, .unset, .unset, .unset] [(.int (1 : Int32))]) (fun _ kk => XS.iconst X16.here hx rfl (hb hby at_104) kk) ?_
    refine ob T16 (mkF mG 109 #[oi i0, oi i1, oi i2, oi ki, oi ti, oi sr, oi tr, oa b4, oa wO, oi si, .unset, .unset, .unset] [(.int (1 : Int32))]) (fun _ kk => XS.goto X16.here hx rfl (pc0 := 105) (pc' := 109) rfl (hb hby at_105) (by decide) (by decide) kk) ?_
    obtain ⟨fs, hr, hrun, hended, hW, hsame⟩ := X16.leave (v := some (.int (1 : Int32))) (fun h => by rw [Bd.returns] at h; cases h)
    obtain ⟨w1, w2, w3⟩ := State.Since.ended (U := T16.setFrames fs) hS10 hW (by show _ ≤ T16.heap.size; rw [e16]; exact (Nat.le_trans hk10 CS12.2.1)) hsame
    have CF := CR12.trans (CHv.at X16 hZ hEL CR12.1)
    refine oout (retN X16 hx (t := .boolean) Bd.returns (by simp) (hb hby at_109) hr) hrun hended ⟨_, _, rfl, ?_, ?_, ⟨_, rfl⟩, w1, w2, w3.mono (by decide) (by decide)⟩
    · show Q_rm0 Z wA wD wG wU wV wN wB wC wF wE wO k_1 k_2 i0 i1 i2 h0 n0 _ T16.heap _
      rw [e16]
      exact ⟨rfl, N16⟩
    · show CHr Z oEL sG.vm sG.heap T16.vm T16.heap
      rw [hh, e16]
      exact CF
  obtain ⟨uu, uS⟩ : ∃ u, oUse wN wV wU si u := own_use hk7 bS rS lS
  have E_uu := own_ue hS uS
  have F_uu := own_uo hS uS
  by_cases lX : xv < (0 : Int32)
  · skip
    obtain ⟨T18, h18, X18, e18, E18, A18, D18, _x18, st18⟩ := newO X0 hx hZ hown (ow hw 1 rfl) (ow hw 2 rfl) (ow hw 3 rfl) e0 (g := (mkF mG 54 #[oi i0, oi i1, oi i2, oi ki, oi ti, oi sr, oi tr, .unset, .unset, .unset, .unset, .unset, .unset] [])) rfl (hb hby at_54) (by decide) (by decide)
    obtain ⟨b18, g18⟩ : ∃ z, z = h0.size := ⟨_, rfl⟩
    rw [← g18] at A18 D18 st18
    have n_b18 : n0 ≤ b18 := Nat.le_trans (on0 O0) (Nat.le_of_eq g18.symm)
    have sz_b18 : h0.size ≤ b18 := Nat.le_trans K0.1 (Nat.le_of_eq g18.symm)
    have CS18 : CHr Z oEL sG.vm h0 sG.vm h18 := CHr.ext E18 CR0.1
    have CR18 := CR0.trans CS18
    have O18 := O0.ext E18
    have K18 := K0.ext E18
    obtain ⟨LL19, X18, N0⟩ : ∃ LL, Stand pG l eG _ _ mG _ belowG methG cG T18 LL 1 2 ∧ Fr n0 LL := ⟨_, X18, N0⟩
    have sf_b18 : Safe Z oEL sG.vm h18 b18 := Safe.ext E18 CR0.1 (Safe.new (Nat.le_of_eq g18.symm))
    have F18_40 : Fld Z h18 b18 "com/example/vorgang/vorgang/model/CallPolicy" "sessionKind" "Lcom/example/vorgang/vorgang/model/Policy;" .null := D18 (Or.inr (ow hw 40 rfl)) (ty := (.object "com/example/vorgang/vorgang/model/Policy")) (by decide)
    have F18_42 : Fld Z h18 b18 "com/example/vorgang/vorgang/model/CallPolicy" "transactionType" "Lcom/example/vorgang/vorgang/model/Policy;" .null := D18 (Or.inr (ow hw 42 rfl)) (ty := (.object "com/example/vorgang/vorgang/model/Policy")) (by decide)
    refine ob T18 (mkF mG 57 #[oi i0, oi i1, oi i2, oi ki, oi ti, oi sr, oi tr, .unset, .unset, .unset, .unset, .unset, .unset] [(.ref b18)]) (fun _ kk => st18 _ kk) ?_
    refine ob T18 (mkF mG 58 #[oi i0, oi i1, oi i2, oi ki, oi ti, oi sr, oi tr, .unset, .unset, .unset, .unset, .unset, .unset] [(.ref b18), (.ref b18)]) (fun _ kk => XS.dup X18.here hx rfl (hb hby at_57) rfl rfl kk) ?_
    refine ob T18 (mkF mG 59 #[oi i0, oi i1, oi i2, oi ki, oi ti, oi sr, oi tr, .unset, .unset, .unset, .unset, .unset, .unset] [(.int ki), (.ref b18), (.ref b18)]) (fun _ kk => XS.iloadN X18.here hx rfl (hb hby at_58) rfl kk) ?_
    obtain ⟨_, _, ⟨T20, L20, k20, n20⟩, -, X20, ⟨Lc20, hQ20, l20, y20, z20⟩, st20⟩ := Jvm.LawKit.callS X18 hx (y := (⟨"com/example/vorgang/vorgang/model/CallPolicyDispatchPinLaw", "policy", "(I)Lcom/example/vorgang/vorgang/model/Policy;"⟩ : MethodName)) hown (mvT hZ (ow hw 4 rfl)) (mvT hZ (ow hw 5 rfl)) (mvT hZ (ow hw 6 rfl)) (mvT hZ (ow hw 7 rfl)) (by decide) (backOf (W := 2) (rm_polA l Z a0 hw [] wA wD wG wU wV wN wB wC wF wE wO k_1 k_2 ki pk h18 n0 O18 hS pK) hZ (ow hw 7 rfl) (ow hw 6 rfl) (by decide) (by decide)) (g := (mkF mG 59 #[oi i0, oi i1, oi i2, oi ki, oi ti, oi sr, oi tr, .unset, .unset, .unset, .unset, .unset, .unset] [(.int ki), (.ref b18), (.ref b18)])) rfl (by rw [hml]; rfl) (argsL := [(.int ki)]) (rest := [(.ref b18), (.ref b18)]) (lenOf pd_13 rfl) rfl (by show 2 * 0 + _ ≤ _; exact Nat.le_of_eq rfl) (hb hby at_59) (fun _ _ => ⟨rfl, e18, (by decide : 1 + 0 ≤ _), (by decide : 2 + 0 ≤ _)⟩)
    dsimp only [Pt.U, Pt.locs, Pt.cells, Pt.slots] at X20 l20 y20 z20 st20 hQ20
    subst l20 y20 z20
    obtain ⟨rfl, N20q, e20⟩ := hQ20
    have N20 := Fr.app N0 N20q
    obtain ⟨LL21, X20, N20⟩ : ∃ LL, Stand pG l eG _ _ mG _ belowG methG cG T20 LL 1 2 ∧ Fr n0 LL := ⟨_, X20, N20⟩
    refine ob T20 (mkF mG 62 #[oi i0, oi i1, oi i2, oi ki, oi ti, oi sr, oi tr, .unset, .unset, .unset, .unset, .unset, .unset] [(.ref pk), (.ref b18), (.ref b18)]) (fun _ kk => st20 _ kk) ?_
    refine ob T20 (mkF mG 64 #[oi i0, oi i1, oi i2, oi ki, oi ti, oi sr, oi tr, .unset, .unset, .unset, .unset, .unset, .unset] [(.int ti), (.ref pk), (.ref b18), (.ref b18)]) (fun _ kk => XS.iload X20.here hx rfl (hb hby at_62) rfl kk) ?_
    obtain ⟨_, _, ⟨T22, L22, k22, n22⟩, -, X22, ⟨Lc22, hQ22, l22, y22, z22⟩, st22⟩ := Jvm.LawKit.callS X20 hx (y := (⟨"com/example/vorgang/vorgang/model/CallPolicyDispatchPinLaw", "policy", "(I)Lcom/example/vorgang/vorgang/model/Policy;"⟩ : MethodName)) hown (mvT hZ (ow hw 4 rfl)) (mvT hZ (ow hw 5 rfl)) (mvT hZ (ow hw 6 rfl)) (mvT hZ (ow hw 7 rfl)) (by decide) (backOf (W := 3) (rm_polA l Z a0 hw [] wA wD wG wU wV wN wB wC wF wE wO k_1 k_2 ti pt h18 n0 O18 hS pT) hZ (ow hw 7 rfl) (ow hw 6 rfl) (by decide) (by decide)) (g := (mkF mG 64 #[oi i0, oi i1, oi i2, oi ki, oi ti, oi sr, oi tr, .unset, .unset, .unset, .unset, .unset, .unset] [(.int ti), (.ref pk), (.ref b18), (.ref b18)])) rfl (by rw [hml]; rfl) (argsL := [(.int ti)]) (rest := [(.ref pk), (.ref b18), (.ref b18)]) (lenOf pd_13 rfl) rfl (by show 2 * 0 + _ ≤ _; exact Nat.le_of_eq rfl) (hb hby at_64) (fun _ _ => ⟨rfl, e20, (by decide : 1 + 0 ≤ _), (by decide : 2 + 0 ≤ _)⟩)
    dsimp only [Pt.U, Pt.locs, Pt.cells, Pt.slots] at X22 l22 y22 z22 st22 hQ22
    subst l22 y22 z22
    obtain ⟨rfl, N22q, e22⟩ := hQ22
    have N22 := Fr.app N20 N22q
    obtain ⟨LL23, X22, N22⟩ : ∃ LL, Stand pG l eG _ _ mG _ belowG methG cG T22 LL 1 2 ∧ Fr n0 LL := ⟨_, X22, N22⟩
    refine ob T22 (mkF mG 67 #[oi i0, oi i1, oi i2, oi ki, oi ti, oi sr, oi tr, .unset, .unset, .unset, .unset, .unset, .unset] [(.ref pt), (.ref pk), (.ref b18), (.ref b18)]) (fun _ kk => st22 _ kk) ?_
    obtain ⟨_, _, ⟨T24, L24, k24, n24⟩, -, X24, hS24, gs24, ⟨Lc24, hQ24, l24, y24, z24, CS24⟩, st24⟩ := X22.specialBackS hx (y := (⟨"com/example/vorgang/vorgang/model/CallPolicy", "<init>", "(Lcom/example/vorgang/vorgang/model/Policy;Lcom/example/vorgang/vorgang/model/Policy;)V"⟩ : MethodName)) rfl hown (mvT hZ (ow hw 13 rfl)) (mvT hZ (ow hw 14 rfl)) (mvT hZ (ow hw 15 rfl)) (by decide) (backOfSH (W := 1) (rm_ciA l Z a0 hw [] wA wD wG wU wV wN wB wC wF wE wO k_1 k_2 b18 pk pt .null .null h18 n0 O18 hS A18 F18_40 F18_42 n_b18 hBM) hZ (ow hw 15 rfl) (ow hw 3 rfl) (by decide) (by decide) hEL CR18.1) (g := (mkF mG 67 #[oi i0, oi i1, oi i2, oi ki, oi ti, oi sr, oi tr, .unset, .unset, .unset, .unset, .unset, .unset] [(.ref pt), (.ref pk), (.ref b18), (.ref b18)])) rfl (by rw [hml]; rfl) (Steps.refl _) (a := b18) (argsL := [(.ref pk), (.ref pt)]) (rest := [(.ref b18)]) (lenOf pd_14 rfl) rfl (by show 2 * 0 + _ ≤ _; exact Nat.le_of_eq rfl) (hb hby at_67) (fun _ _ => ⟨rfl, e22, (by decide : 1 + 4 ≤ _), (by decide : 2 + 112 ≤ _)⟩)
    dsimp only [Pt.U, Pt.locs, Pt.cells, Pt.slots] at X24 l24 y24 z24 st24 hQ24 hS24 gs24 CS24
    subst l24 y24 z24
    obtain ⟨X24, hS24, hZ, hown⟩ := rebS hS0 (by rw [e22]; exact (Nat.le_trans hk0 CS18.2.1)) X24 hS24 gs24 hZ hown
    obtain ⟨h24, e24⟩ : ∃ h, T24.heap = h := ⟨_, rfl⟩
    rw [e24] at hQ24
    obtain ⟨rfl, N24q, K24q, O24, F24_0, F24_1⟩ := hQ24
    have N24 := Fr.app N22 N24q
    have K24 := K18.trans K24q (allS (Or.inr sz_b18) all0)
    rw [e24] at CS24 hS24
    have hk24 : h24.size ≤ h24.size := Nat.le_refl _
    have CR24 := CR18.trans CS24
    obtain ⟨LL25, X24, N24⟩ : ∃ LL, Stand pG l eG _ _ mG _ belowG methG cG T24 LL 5 114 ∧ Fr n0 LL := ⟨_, X24, N24⟩
    refine ob T24 (mkF mG 70 #[oi i0, oi i1, oi i2, oi ki, oi ti, oi sr, oi tr, .unset, .unset, .unset, .unset, .unset, .unset] [(.ref b18)]) (fun _ kk => st24.trans kk) ?_
    refine ob T24 (mkF mG 72 #[oi i0, oi i1, oi i2, oi ki, oi ti, oi sr, oi tr, oa b18, .unset, .unset, .unset, .unset, .unset] []) (fun _ kk => XS.astore X24.here hx rfl (hb hby at_70) rfl rfl (l' := #[oi i0, oi i1, oi i2, oi ki, oi ti, oi sr, oi tr, oa b18, .unset, .unset, .unset, .unset, .unset]) rfl kk) ?_
    refine ob T24 (mkF mG 74 #[oi i0, oi i1, oi i2, oi ki, oi ti, oi sr, oi tr, oa b18, .unset, .unset, .unset, .unset, .unset] [(.ref b18)]) (fun _ kk => XS.aload X24.here hx rfl (hb hby at_72) rfl rfl kk) ?_
    refine ob T24 (mkF mG 76 #[oi i0, oi i1, oi i2, oi ki, oi ti, oi sr, oi tr, oa b18, .unset, .unset, .unset, .unset, .unset] [(.int sr), (.ref b18)]) (fun _ kk => XS.iload X24.here hx rfl (hb hby at_74) rfl kk) ?_
    refine ob T24 (mkF mG 78 #[oi i0, oi i1, oi i2, oi ki, oi ti, oi sr, oi tr, oa b18, .unset, .unset, .unset, .unset, .unset] [(.int tr), (.int sr), (.ref b18)]) (fun _ kk => XS.iload X24.here hx rfl (hb hby at_76) rfl kk) ?_
    obtain ⟨cq26, kq26, q26a, q26b, q26c⟩ := isOf hZ e24 (A18.keep K24q)
    obtain ⟨_, _, ⟨T26, L26, k26, n26⟩, -, X26, hS26, gs26, ⟨Lc26, hQ26, l26, y26, z26, CS26⟩, st26⟩ := X24.virtualBackS hx (y := (⟨"com/example/vorgang/vorgang/model/CallPolicy", "dispatch", "(ZZ)Ljava/util/Optional;"⟩ : MethodName)) (z := (⟨"com/example/vorgang/vorgang/model/CallPolicy", "dispatch", "(ZZ)Ljava/util/Optional;"⟩ : MethodName)) hown (mvT hZ (ow hw 43 rfl)) (mvT hZ (ow hw 44 rfl)) (notFace_of_selects (args := #[]) (mvT hZ (ow hw 46 rfl))) (mvT hZ (ow hw 46 rfl)) (mvT hZ (ow hw 45 rfl)) (by decide) (backOfSH (W := 0) (rm_d2 l Z a0 hw [] wA wD wG wU wV wN wB wC wF wE wO k_1 k_2 b18 sr tr ki si sm bv ti xv pk pt uu h24 n0 O24 hS (A18.keep K24q) F24_0 F24_1 pK bS bT rS uS rM rB pT rX lX) hZ (ow hw 47 rfl) (ow hw 3 rfl) (by decide) (by decide) hEL CR24.1) q26a q26c (g := (mkF mG 78 #[oi i0, oi i1, oi i2, oi ki, oi ti, oi sr, oi tr, oa b18, .unset, .unset, .unset, .unset, .unset] [(.int tr), (.int sr), (.ref b18)])) rfl (by rw [hml]; rfl) (Steps.refl _) (argsL := [(.int sr), (.int tr)]) (rest := []) (lenOf pd_15 rfl) rfl (by show 2 * 0 + _ ≤ _; exact Nat.le_of_eq rfl) (hb hby at_78) (fun _ _ => ⟨rfl, e24, (by decide : 5 + 10 ≤ _), (by decide : 114 + 94 ≤ _)⟩)
    dsimp only [Pt.U, Pt.locs, Pt.cells, Pt.slots] at X26 l26 y26 z26 st26 hQ26 hS26 gs26 CS26
    subst l26 y26 z26
    obtain ⟨X26, hS26, hZ, hown⟩ := rebS hS24 (by rw [e24]; exact hk24) X26 hS26 gs26 hZ hown
    obtain ⟨h26, e26⟩ : ∃ h, T26.heap = h := ⟨_, rfl⟩
    rw [e26] at hQ26
    obtain ⟨rfl, N26q, K26q, O26⟩ := hQ26
    have N26 := Fr.app N24 N26q
    have K26 := K24.trans K26q all0
    rw [e26] at CS26 hS26
    have hk26 : h26.size ≤ h26.size := Nat.le_refl _
    have CR26 := CR24.trans CS26
    obtain ⟨LL27, X26, N26⟩ : ∃ LL, Stand pG l eG _ _ mG _ belowG methG cG T26 LL 15 208 ∧ Fr n0 LL := ⟨_, X26, N26⟩
    refine ob T26 (mkF mG 81 #[oi i0, oi i1, oi i2, oi ki, oi ti, oi sr, oi tr, oa b18, .unset, .unset, .unset, .unset, .unset] [(.ref wO)]) (fun _ kk => st26.trans kk) ?_
    refine ob T26 (mkF mG 83 #[oi i0, oi i1, oi i2, oi ki, oi ti, oi sr, oi tr, oa b18, oa wO, .unset, .unset, .unset, .unset] []) (fun _ kk => XS.astore X26.here hx rfl (hb hby at_81) rfl rfl (l' := #[oi i0, oi i1, oi i2, oi ki, oi ti, oi sr, oi tr, oa b18, oa wO, .unset, .unset, .unset, .unset]) rfl kk) ?_
    refine ob T26 (mkF mG 84 #[oi i0, oi i1, oi i2, oi ki, oi ti, oi sr, oi tr, oa b18, oa wO, .unset, .unset, .unset, .unset] [(.int ki)]) (fun _ kk => XS.iloadN X26.here hx rfl (hb hby at_83) rfl kk) ?_
    refine ob T26 (mkF mG 86 #[oi i0, oi i1, oi i2, oi ki, oi ti, oi sr, oi tr, oa b18, oa wO, .unset, .unset, .unset, .unset] [(.int sr), (.int ki)]) (fun _ kk => XS.iload X26.here hx rfl (hb hby at_84) rfl kk) ?_
    obtain ⟨_, _, ⟨T28, L28, k28, n28⟩, -, X28, ⟨Lc28, hQ28, l28, y28, z28⟩, st28⟩ := Jvm.LawKit.callS X26 hx (y := (⟨"com/example/vorgang/vorgang/model/CallPolicyDispatchPinLaw", "rule", "(IZ)I"⟩ : MethodName)) hown (mvT hZ (ow hw 130 rfl)) (mvT hZ (ow hw 131 rfl)) (mvT hZ (ow hw 6 rfl)) (mvT hZ (ow hw 132 rfl)) (by decide) (backOf (W := 0) (rm_ruA l Z a0 hw [] wA wD wG wU wV wN wB wC wF wE wO k_1 k_2 ki sr si h26 n0 O26 hS hk7 bS rS) hZ (ow hw 132 rfl) (ow hw 6 rfl) (by decide) (by decide)) (g := (mkF mG 86 #[oi i0, oi i1, oi i2, oi ki, oi ti, oi sr, oi tr, oa b18, oa wO, .unset, .unset, .unset, .unset] [(.int sr), (.int ki)])) rfl (by rw [hml]; rfl) (argsL := [(.int ki), (.int sr)]) (rest := []) (lenOf pd_16 rfl) rfl (by show 2 * 0 + _ ≤ _; exact Nat.le_of_eq rfl) (hb hby at_86) (fun _ _ => ⟨rfl, e26, (by decide : 15 + 0 ≤ _), (by decide : 208 + 0 ≤ _)⟩)
    dsimp only [Pt.U, Pt.locs, Pt.cells, Pt.slots] at X28 l28 y28 z28 st28 hQ28
    subst l28 y28 z28
    obtain ⟨rfl, N28q, e28⟩ := hQ28
    have N28 := Fr.app N26 N28q
    obtain ⟨LL29, X28, N28⟩ : ∃ LL, Stand pG l eG _ _ mG _ belowG methG cG T28 LL 15 208 ∧ Fr n0 LL := ⟨_, X28, N28⟩
    refine ob T28 (mkF mG 89 #[oi i0, oi i1, oi i2, oi ki, oi ti, oi sr, oi tr, oa b18, oa wO, .unset, .unset, .unset, .unset] [(.int si)]) (fun _ kk => st28 _ kk) ?_
    refine ob T28 (mkF mG 91 #[oi i0, oi i1, oi i2, oi ki, oi ti, oi sr, oi tr, oa b18, oa wO, oi si, .unset, .unset, .unset] []) (fun _ kk => XS.istore X28.here hx rfl (hb hby at_89) rfl (l' := #[oi i0, oi i1, oi i2, oi ki, oi ti, oi sr, oi tr, oa b18, oa wO, oi si, .unset, .unset, .unset]) rfl kk) ?_
    refine ob T28 (mkF mG 93 #[oi i0, oi i1, oi i2, oi ki, oi ti, oi sr, oi tr, oa b18, oa wO, oi si, .unset, .unset, .unset] [(.int si)]) (fun _ kk => XS.iload X28.here hx rfl (hb hby at_91) rfl kk) ?_
    refine ob T28 (mkF mG 110 #[oi i0, oi i1, oi i2, oi ki, oi ti, oi sr, oi tr, oa b18, oa wO, oi si, .unset, .unset, .unset] []) (fun _ kk => XS.ifYes X28.here hx rfl (pc0 := 93) (pc' := 110) rfl (hb hby at_93) rfl ((if0 _ _).trans (flt lS).2.1) (by decide) (by decide) kk) ?_
    refine omergeE (w := sm) (g' := fun zz => (mkF mG 131 #[oi i0, oi i1, oi i2, oi ki, oi ti, oi sr, oi tr, oa b18, oa wO, oi si, .unset, .unset, .unset] [(.int zz)])) ?_ ?_
    · skip
      refine om (g1 := (mkF mG 112 #[oi i0, oi i1, oi i2, oi ki, oi ti, oi sr, oi tr, oa b18, oa wO, oi si, .unset, .unset, .unset] [(.int si)])) (fun _ kk => XS.iload X28.here hx rfl (hb hby at_110) rfl kk) ?_
      refine om (g1 := (mkF mG 113 #[oi i0, oi i1, oi i2, oi ki, oi ti, oi sr, oi tr, oa b18, oa wO, oi si, .unset, .unset, .unset] [(.int (1 : Int32)), (.int si)])) (fun _ kk => XS.iconst X28.here hx rfl (hb hby at_112) kk) ?_
      by_cases hc30 : si = (1 : Int32)
      · skip
        refine om (g1 := (mkF mG 126 #[oi i0, oi i1, oi i2, oi ki, oi ti, oi sr, oi tr, oa b18, oa wO, oi si, .unset, .unset, .unset] [])) (fun _ kk => XS.icmpYes X28.here hx rfl (pc0 := 113) (pc' := 126) rfl (hb hby at_113) rfl (teq hc30).1 (by decide) (by decide) kk) ?_
        refine om (g1 := (mkF mG 127 #[oi i0, oi i1, oi i2, oi ki, oi ti, oi sr, oi tr, oa b18, oa wO, oi si, .unset, .unset, .unset] [(.int (1 : Int32))])) (fun _ kk => XS.iconst X28.here hx rfl (hb hby at_126) kk) ?_
        refine om (g1 := (mkF mG 131 #[oi i0, oi i1, oi i2, oi ki, oi ti, oi sr, oi tr, oa b18, oa wO, oi si, .unset, .unset, .unset] [(.int (1 : Int32))])) (fun _ kk => XS.goto X28.here hx rfl (pc0 := 127) (pc' := 131) rfl (hb hby at_127) (by decide) (by decide) kk) ?_
        exact ⟨(1 : Int32), (own_smA hc30).symm.trans rM, fun _ kk => kk⟩
      · skip
        refine om (g1 := (mkF mG 116 #[oi i0, oi i1, oi i2, oi ki, oi ti, oi sr, oi tr, oa b18, oa wO, oi si, .unset, .unset, .unset] [])) (fun _ kk => XS.icmpNo X28.here hx rfl (hb hby at_113) rfl (feq hc30).1 kk) ?_
        refine om (g1 := (mkF mG 118 #[oi i0, oi i1, oi i2, oi ki, oi ti, oi sr, oi tr, oa b18, oa wO, oi si, .unset, .unset, .unset] [(.int si)])) (fun _ kk => XS.iload X28.here hx rfl (hb hby at_116) rfl kk) ?_
        by_cases hc31 : si = (0 : Int32)
        · skip
          refine om (g1 := (mkF mG 121 #[oi i0, oi i1, oi i2, oi ki, oi ti, oi sr, oi tr, oa b18, oa wO, oi si, .unset, .unset, .unset] [])) (fun _ kk => XS.ifNo X28.here hx rfl (hb hby at_118) rfl ((if0 _ _).trans (teq hc31).2) kk) ?_
          refine om (g1 := (mkF mG 123 #[oi i0, oi i1, oi i2, oi ki, oi ti, oi sr, oi tr, oa b18, oa wO, oi si, .unset, .unset, .unset] [(.int sr)])) (fun _ kk => XS.iload X28.here hx rfl (hb hby at_121) rfl kk) ?_
          by_cases hc32 : sr = (0 : Int32)
          · skip
            refine om (g1 := (mkF mG 126 #[oi i0, oi i1, oi i2, oi ki, oi ti, oi sr, oi tr, oa b18, oa wO, oi si, .unset, .unset, .unset] [])) (fun _ kk => XS.ifNo X28.here hx rfl (hb hby at_123) rfl ((if0 _ _).trans (teq hc32).2) kk) ?_
            refine om (g1 := (mkF mG 127 #[oi i0, oi i1, oi i2, oi ki, oi ti, oi sr, oi tr, oa b18, oa wO, oi si, .unset, .unset, .unset] [(.int (1 : Int32))])) (fun _ kk => XS.iconst X28.here hx rfl (hb hby at_126) kk) ?_
            refine om (g1 := (mkF mG 131 #[oi i0, oi i1, oi i2, oi ki, oi ti, oi sr, oi tr, oa b18, oa wO, oi si, .unset, .unset, .unset] [(.int (1 : Int32))])) (fun _ kk => XS.goto X28.here hx rfl (pc0 := 127) (pc' := 131) rfl (hb hby at_127) (by decide) (by decide) kk) ?_
            exact ⟨(1 : Int32), (own_smD hc31 hc32).symm.trans rM, fun _ kk => kk⟩
          · skip
            refine om (g1 := (mkF mG 130 #[oi i0, oi i1, oi i2, oi ki, oi ti, oi sr, oi tr, oa b18, oa wO, oi si, .unset, .unset, .unset] [])) (fun _ kk => XS.ifYes X28.here hx rfl (pc0 := 123) (pc' := 130) rfl (hb hby at_123) rfl ((if0 _ _).trans (feq hc32).2) (by decide) (by decide) kk) ?_
            refine om (g1 := (mkF mG 131 #[oi i0, oi i1, oi i2, oi ki, oi ti, oi sr, oi tr, oa b18, oa wO, oi si, .unset, .unset, .unset] [(.int (0 : Int32))])) (fun _ kk => XS.iconst X28.here hx rfl (hb hby at_130) kk) ?_
            exact ⟨(0 : Int32), (own_smC hc31 hc32).symm.trans rM, fun _ kk => kk⟩
        · skip
          refine om (g1 := (mkF mG 130 #[oi i0, oi i1, oi i2, oi ki, oi ti, oi sr, oi tr, oa b18, oa wO, oi si, .unset, .unset, .unset] [])) (fun _ kk => XS.ifYes X28.here hx rfl (pc0 := 118) (pc' := 130) rfl (hb hby at_118) rfl ((if0 _ _).trans (feq hc31).2) (by decide) (by decide) kk) ?_
          refine om (g1 := (mkF mG 131 #[oi i0, oi i1, oi i2, oi ki, oi ti, oi sr, oi tr, oa b18, oa wO, oi si, .unset, .unset, .unset] [(.int (0 : Int32))])) (fun _ kk => XS.iconst X28.here hx rfl (hb hby at_130) kk) ?_
          exact ⟨(0 : Int32), (own_smB hc30 hc31).symm.trans rM, fun _ kk => kk⟩
    show oGo pG eG belowG _ T28 (mkF mG 131 #[oi i0, oi i1, oi i2, oi ki, oi ti, oi sr, oi tr, oa b18, oa wO, oi si, .unset, .unset, .unset] [(.int sm)])
    refine ob T28 (mkF mG 133 #[oi i0, oi i1, oi i2, oi ki, oi ti, oi sr, oi tr, oa b18, oa wO, oi si, oi sm, .unset, .unset] []) (fun _ kk => XS.istore X28.here hx rfl (hb hby at_131) rfl (l' := #[oi i0, oi i1, oi i2, oi ki, oi ti, oi sr, oi tr, oa b18, oa wO, oi si, oi sm, .unset, .unset]) rfl kk) ?_
    refine ob T28 (mkF mG 135 #[oi i0, oi i1, oi i2, oi ki, oi ti, oi sr, oi tr, oa b18, oa wO, oi si, oi sm, .unset, .unset] [(.int ti)]) (fun _ kk => XS.iload X28.here hx rfl (hb hby at_133) rfl kk) ?_
    refine omergeE (w := bv) (g' := fun zz => (mkF mG 150 #[oi i0, oi i1, oi i2, oi ki, oi ti, oi sr, oi tr, oa b18, oa wO, oi si, oi sm, .unset, .unset] [(.int zz), (.int ti)])) ?_ ?_
    · skip
      refine om (g1 := (mkF mG 137 #[oi i0, oi i1, oi i2, oi ki, oi ti, oi sr, oi tr, oa b18, oa wO, oi si, oi sm, .unset, .unset] [(.int tr), (.int ti)])) (fun _ kk => XS.iload X28.here hx rfl (hb hby at_135) rfl kk) ?_
      by_cases hc33 : tr = (0 : Int32)
      · skip
        refine om (g1 := (mkF mG 149 #[oi i0, oi i1, oi i2, oi ki, oi ti, oi sr, oi tr, oa b18, oa wO, oi si, oi sm, .unset, .unset] [(.int ti)])) (fun _ kk => XS.ifYes X28.here hx rfl (pc0 := 137) (pc' := 149) rfl (hb hby at_137) rfl ((if0 _ _).trans (teq hc33).1) (by decide) (by decide) kk) ?_
        refine om (g1 := (mkF mG 150 #[oi i0, oi i1, oi i2, oi ki, oi ti, oi sr, oi tr, oa b18, oa wO, oi si, oi sm, .unset, .unset] [(.int (0 : Int32)), (.int ti)])) (fun _ kk => XS.iconst X28.here hx rfl (hb hby at_149) kk) ?_
        exact ⟨(0 : Int32), (own_anA hc33).symm.trans rB, fun _ kk => kk⟩
      · skip
        refine om (g1 := (mkF mG 140 #[oi i0, oi i1, oi i2, oi ki, oi ti, oi sr, oi tr, oa b18, oa wO, oi si, oi sm, .unset, .unset] [(.int ti)])) (fun _ kk => XS.ifNo X28.here hx rfl (hb hby at_137) rfl ((if0 _ _).trans (feq hc33).1) kk) ?_
        refine om (g1 := (mkF mG 142 #[oi i0, oi i1, oi i2, oi ki, oi ti, oi sr, oi tr, oa b18, oa wO, oi si, oi sm, .unset, .unset] [(.int sm), (.int ti)])) (fun _ kk => XS.iload X28.here hx rfl (hb hby at_140) rfl kk) ?_
        by_cases hc34 : sm = (0 : Int32)
        · skip
          refine om (g1 := (mkF mG 149 #[oi i0, oi i1, oi i2, oi ki, oi ti, oi sr, oi tr, oa b18, oa wO, oi si, oi sm, .unset, .unset] [(.int ti)])) (fun _ kk => XS.ifYes X28.here hx rfl (pc0 := 142) (pc' := 149) rfl (hb hby at_142) rfl ((if0 _ _).trans (teq hc34).1) (by decide) (by decide) kk) ?_
          refine om (g1 := (mkF mG 150 #[oi i0, oi i1, oi i2, oi ki, oi ti, oi sr, oi tr, oa b18, oa wO, oi si, oi sm, .unset, .unset] [(.int (0 : Int32)), (.int ti)])) (fun _ kk => XS.iconst X28.here hx rfl (hb hby at_149) kk) ?_
          exact ⟨(0 : Int32), (own_anB hc34).symm.trans rB, fun _ kk => kk⟩
        · skip
          refine om (g1 := (mkF mG 145 #[oi i0, oi i1, oi i2, oi ki, oi ti, oi sr, oi tr, oa b18, oa wO, oi si, oi sm, .unset, .unset] [(.int ti)])) (fun _ kk => XS.ifNo X28.here hx rfl (hb hby at_142) rfl ((if0 _ _).trans (feq hc34).1) kk) ?_
          refine om (g1 := (mkF mG 146 #[oi i0, oi i1, oi i2, oi ki, oi ti, oi sr, oi tr, oa b18, oa wO, oi si, oi sm, .unset, .unset] [(.int (1 : Int32)), (.int ti)])) (fun _ kk => XS.iconst X28.here hx rfl (hb hby at_145) kk) ?_
          refine om (g1 := (mkF mG 150 #[oi i0, oi i1, oi i2, oi ki, oi ti, oi sr, oi tr, oa b18, oa wO, oi si, oi sm, .unset, .unset] [(.int (1 : Int32)), (.int ti)])) (fun _ kk => XS.goto X28.here hx rfl (pc0 := 146) (pc' := 150) rfl (hb hby at_146) (by decide) (by decide) kk) ?_
          exact ⟨(1 : Int32), (own_anC hc33 hc34).symm.trans rB, fun _ kk => kk⟩
    show oGo pG eG belowG _ T28 (mkF mG 150 #[oi i0, oi i1, oi i2, oi ki, oi ti, oi sr, oi tr, oa b18, oa wO, oi si, oi sm, .unset, .unset] [(.int bv), (.int ti)])
    obtain ⟨_, _, ⟨T35, L35, k35, n35⟩, -, X35, ⟨Lc35, hQ35, l35, y35, z35⟩, st35⟩ := Jvm.LawKit.callS X28 hx (y := (⟨"com/example/vorgang/vorgang/model/CallPolicyDispatchPinLaw", "rule", "(IZ)I"⟩ : MethodName)) hown (mvT hZ (ow hw 130 rfl)) (mvT hZ (ow hw 131 rfl)) (mvT hZ (ow hw 6 rfl)) (mvT hZ (ow hw 132 rfl)) (by decide) (backOf (W := 0) (rm_ruA l Z a0 hw [] wA wD wG wU wV wN wB wC wF wE wO k_1 k_2 ti bv xv h26 n0 O26 hS ht7 hbv rX) hZ (ow hw 132 rfl) (ow hw 6 rfl) (by decide) (by decide)) (g := (mkF mG 150 #[oi i0, oi i1, oi i2, oi ki, oi ti, oi sr, oi tr, oa b18, oa wO, oi si, oi sm, .unset, .unset] [(.int bv), (.int ti)])) rfl (by rw [hml]; rfl) (argsL := [(.int ti), (.int bv)]) (rest := []) (lenOf pd_16 rfl) rfl (by show 2 * 0 + _ ≤ _; exact Nat.le_of_eq rfl) (hb hby at_150) (fun _ _ => ⟨rfl, e28, (by decide : 15 + 0 ≤ _), (by decide : 208 + 0 ≤ _)⟩)
    dsimp only [Pt.U, Pt.locs, Pt.cells, Pt.slots] at X35 l35 y35 z35 st35 hQ35
    subst l35 y35 z35
    obtain ⟨rfl, N35q, e35⟩ := hQ35
    have N35 := Fr.app N28 N35q
    obtain ⟨LL36, X35, N35⟩ : ∃ LL, Stand pG l eG _ _ mG _ belowG methG cG T35 LL 15 208 ∧ Fr n0 LL := ⟨_, X35, N35⟩
    refine ob T35 (mkF mG 153 #[oi i0, oi i1, oi i2, oi ki, oi ti, oi sr, oi tr, oa b18, oa wO, oi si, oi sm, .unset, .unset] [(.int xv)]) (fun _ kk => st35 _ kk) ?_
    refine ob T35 (mkF mG 155 #[oi i0, oi i1, oi i2, oi ki, oi ti, oi sr, oi tr, oa b18, oa wO, oi si, oi sm, oi xv, .unset] []) (fun _ kk => XS.istore X35.here hx rfl (hb hby at_153) rfl (l' := #[oi i0, oi i1, oi i2, oi ki, oi ti, oi sr, oi tr, oa b18, oa wO, oi si, oi sm, oi xv, .unset]) rfl kk) ?_
    refine ob T35 (mkF mG 157 #[oi i0, oi i1, oi i2, oi ki, oi ti, oi sr, oi tr, oa b18, oa wO, oi si, oi sm, oi xv, .unset] [(.int xv)]) (fun _ kk => XS.iload X35.here hx rfl (hb hby at_155) rfl kk) ?_
    refine ob T35 (mkF mG 160 #[oi i0, oi i1, oi i2, oi ki, oi ti, oi sr, oi tr, oa b18, oa wO, oi si, oi sm, oi xv, .unset] []) (fun _ kk => XS.ifNo X35.here hx rfl (hb hby at_157) rfl ((if0 _ _).trans (tlt lX).2.1) kk) ?_
    refine ob T35 (mkF mG 162 #[oi i0, oi i1, oi i2, oi ki, oi ti, oi sr, oi tr, oa b18, oa wO, oi si, oi sm, oi xv, .unset] [(.ref wO)]) (fun _ kk => XS.aload X35.here hx rfl (hb hby at_160) rfl rfl kk) ?_
    obtain ⟨cq37, kq37, q37a, q37b, q37c⟩ := isOf hZ e35 (E_wO.ext O26.2)
    obtain ⟨_, _, ⟨T37, L37, k37, n37⟩, -, X37, ⟨Lc37, hQ37, l37, y37, z37⟩, st37⟩ := X35.virtualBack hx (y := (⟨"java/util/Optional", "isPresent", "()Z"⟩ : MethodName)) (z := (⟨"java/util/Optional", "isPresent", "()Z"⟩ : MethodName)) hown (mvT hZ (ow hw 133 rfl)) (mvT hZ (ow hw 134 rfl)) (notFace_of_selects (args := #[]) (mvT hZ (ow hw 136 rfl))) (mvT hZ (ow hw 136 rfl)) (mvT hZ (ow hw 135 rfl)) (by decide) (backOf (W := 0) (rm_ipE l Z a0 hw [] wA wD wG wU wV wN wB wC wF wE wO k_1 k_2  h26 n0 O26 hS ) hZ (ow hw 137 rfl) (ow hw 67 rfl) (by decide) (by decide)) q37a q37c (g := (mkF mG 162 #[oi i0, oi i1, oi i2, oi ki, oi ti, oi sr, oi tr, oa b18, oa wO, oi si, oi sm, oi xv, .unset] [(.ref wO)])) rfl (by rw [hml]; rfl) (Steps.refl _) (argsL := []) (rest := []) (lenOf pd_9 rfl) rfl (by show 2 * 0 + _ ≤ _; exact Nat.le_of_eq rfl) (hb hby at_162) (fun _ _ => ⟨rfl, e35, (by decide : 15 + 0 ≤ _), (by decide : 208 + 0 ≤ _)⟩)
    dsimp only [Pt.U, Pt.locs, Pt.cells, Pt.slots] at X37 l37 y37 z37 st37 hQ37
    subst l37 y37 z37
    obtain ⟨rfl, N37q, e37⟩ := hQ37
    have N37 := Fr.app N35 N37q
    obtain ⟨LL38, X37, N37⟩ : ∃ LL, Stand pG l eG _ _ mG _ belowG methG cG T37 LL 15 208 ∧ Fr n0 LL := ⟨_, X37, N37⟩
    refine ob T37 (mkF mG 165 #[oi i0, oi i1, oi i2, oi ki, oi ti, oi sr, oi tr, oa b18, oa wO, oi si, oi sm, oi xv, .unset] [(.int (0 : Int32))]) (fun _ kk => st37.trans kk) ?_
    refine ob T37 (mkF mG 168 #[oi i0, oi i1, oi i2, oi ki, oi ti, oi sr, oi tr, oa b18, oa wO, oi si, oi sm, oi xv, .unset] []) (fun _ kk => XS.ifNo X37.here hx rfl (hb hby at_165) rfl ((if0 _ _).trans (teq (by decide : (0 : Int32) = (0 : Int32))).2) kk) ?_
    refine ob T37 (mkF mG 169 #[oi i0, oi i1, oi i2, oi ki, oi ti, oi sr, oi tr, oa b18, oa wO, oi si, oi sm, oi xv, .unset] [(.int (1 : Int32))]) (fun _ kk => XS.iconst X37.here hx rfl (hb hby at_168) kk) ?_
    refine ob T37 (mkF mG 173 #[oi i0, oi i1, oi i2, oi ki, oi ti, oi sr, oi tr, oa b18, oa wO, oi si, oi sm, oi xv, .unset] [(.int (1 : Int32))]) (fun _ kk => XS.goto X37.here hx rfl (pc0 := 169) (pc' := 173) rfl (hb hby at_169) (by decide) (by decide) kk) ?_
    obtain ⟨fs, hr, hrun, hended, hW, hsame⟩ := X37.leave (v := some (.int (1 : Int32))) (fun h => by rw [Bd.returns] at h; cases h)
    obtain ⟨w1, w2, w3⟩ := State.Since.ended (U := T37.setFrames fs) hS26 hW (by show _ ≤ T37.heap.size; rw [e37]; exact hk26) hsame
    have CF := CR26.trans (CHv.at X37 hZ hEL CR26.1)
    refine oout (retN X37 hx (t := .boolean) Bd.returns (by simp) (hb hby at_173) hr) hrun hended ⟨_, _, rfl, ?_, ?_, ⟨_, rfl⟩, w1, w2, w3.mono (by decide) (by decide)⟩
    · show Q_rm0 Z wA wD wG wU wV wN wB wC wF wE wO k_1 k_2 i0 i1 i2 h0 n0 _ T37.heap _
      rw [e37]
      exact ⟨rfl, N37⟩
    · show CHr Z oEL sG.vm sG.heap T37.vm T37.heap
      rw [hh, e37]
      exact CF
  obtain ⟨u2, uX⟩ : ∃ u, oUse wN wV wU xv u := own_use ht7 hbv rX lX
  have E_u2 := own_ue hS uX
  have F_u2 := own_uo hS uX
  obtain ⟨T39, h39, X39, e39, E39, A39, D39, _x39, st39⟩ := newO X0 hx hZ hown (ow hw 1 rfl) (ow hw 2 rfl) (ow hw 3 rfl) e0 (g := (mkF mG 54 #[oi i0, oi i1, oi i2, oi ki, oi ti, oi sr, oi tr, .unset, .unset, .unset, .unset, .unset, .unset] [])) rfl (hb hby at_54) (by decide) (by decide)
  obtain ⟨b39, g39⟩ : ∃ z, z = h0.size := ⟨_, rfl⟩
  rw [← g39] at A39 D39 st39
  have n_b39 : n0 ≤ b39 := Nat.le_trans (on0 O0) (Nat.le_of_eq g39.symm)
  have sz_b39 : h0.size ≤ b39 := Nat.le_trans K0.1 (Nat.le_of_eq g39.symm)
  have CS39 : CHr Z oEL sG.vm h0 sG.vm h39 := CHr.ext E39 CR0.1
  have CR39 := CR0.trans CS39
  have O39 := O0.ext E39
  have K39 := K0.ext E39
  obtain ⟨LL40, X39, N0⟩ : ∃ LL, Stand pG l eG _ _ mG _ belowG methG cG T39 LL 1 2 ∧ Fr n0 LL := ⟨_, X39, N0⟩
  have sf_b39 : Safe Z oEL sG.vm h39 b39 := Safe.ext E39 CR0.1 (Safe.new (Nat.le_of_eq g39.symm))
  have F39_40 : Fld Z h39 b39 "com/example/vorgang/vorgang/model/CallPolicy" "sessionKind" "Lcom/example/vorgang/vorgang/model/Policy;" .null := D39 (Or.inr (ow hw 40 rfl)) (ty := (.object "com/example/vorgang/vorgang/model/Policy")) (by decide)
  have F39_42 : Fld Z h39 b39 "com/example/vorgang/vorgang/model/CallPolicy" "transactionType" "Lcom/example/vorgang/vorgang/model/Policy;" .null := D39 (Or.inr (ow hw 42 rfl)) (ty := (.object "com/example/vorgang/vorgang/model/Policy")) (by decide)
  refine ob T39 (mkF mG 57 #[oi i0, oi i1, oi i2, oi ki, oi ti, oi sr, oi tr, .unset, .unset, .unset, .unset, .unset, .unset] [(.ref b39)]) (fun _ kk => st39 _ kk) ?_
  refine ob T39 (mkF mG 58 #[oi i0, oi i1, oi i2, oi ki, oi ti, oi sr, oi tr, .unset, .unset, .unset, .unset, .unset, .unset] [(.ref b39), (.ref b39)]) (fun _ kk => XS.dup X39.here hx rfl (hb hby at_57) rfl rfl kk) ?_
  refine ob T39 (mkF mG 59 #[oi i0, oi i1, oi i2, oi ki, oi ti, oi sr, oi tr, .unset, .unset, .unset, .unset, .unset, .unset] [(.int ki), (.ref b39), (.ref b39)]) (fun _ kk => XS.iloadN X39.here hx rfl (hb hby at_58) rfl kk) ?_
  obtain ⟨_, _, ⟨T41, L41, k41, n41⟩, -, X41, ⟨Lc41, hQ41, l41, y41, z41⟩, st41⟩ := Jvm.LawKit.callS X39 hx (y := (⟨"com/example/vorgang/vorgang/model/CallPolicyDispatchPinLaw", "policy", "(I)Lcom/example/vorgang/vorgang/model/Policy;"⟩ : MethodName)) hown (mvT hZ (ow hw 4 rfl)) (mvT hZ (ow hw 5 rfl)) (mvT hZ (ow hw 6 rfl)) (mvT hZ (ow hw 7 rfl)) (by decide) (backOf (W := 2) (rm_polA l Z a0 hw [] wA wD wG wU wV wN wB wC wF wE wO k_1 k_2 ki pk h39 n0 O39 hS pK) hZ (ow hw 7 rfl) (ow hw 6 rfl) (by decide) (by decide)) (g := (mkF mG 59 #[oi i0, oi i1, oi i2, oi ki, oi ti, oi sr, oi tr, .unset, .unset, .unset, .unset, .unset, .unset] [(.int ki), (.ref b39), (.ref b39)])) rfl (by rw [hml]; rfl) (argsL := [(.int ki)]) (rest := [(.ref b39), (.ref b39)]) (lenOf pd_13 rfl) rfl (by show 2 * 0 + _ ≤ _; exact Nat.le_of_eq rfl) (hb hby at_59) (fun _ _ => ⟨rfl, e39, (by decide : 1 + 0 ≤ _), (by decide : 2 + 0 ≤ _)⟩)
  dsimp only [Pt.U, Pt.locs, Pt.cells, Pt.slots] at X41 l41 y41 z41 st41 hQ41
  subst l41 y41 z41
  obtain ⟨rfl, N41q, e41⟩ := hQ41
  have N41 := Fr.app N0 N41q
  obtain ⟨LL42, X41, N41⟩ : ∃ LL, Stand pG l eG _ _ mG _ belowG methG cG T41 LL 1 2 ∧ Fr n0 LL := ⟨_, X41, N41⟩
  refine ob T41 (mkF mG 62 #[oi i0, oi i1, oi i2, oi ki, oi ti, oi sr, oi tr, .unset, .unset, .unset, .unset, .unset, .unset] [(.ref pk), (.ref b39), (.ref b39)]) (fun _ kk => st41 _ kk) ?_
  refine ob T41 (mkF mG 64 #[oi i0, oi i1, oi i2, oi ki, oi ti, oi sr, oi tr, .unset, .unset, .unset, .unset, .unset, .unset] [(.int ti), (.ref pk), (.ref b39), (.ref b39)]) (fun _ kk => XS.iload X41.here hx rfl (hb hby at_62) rfl kk) ?_
  obtain ⟨_, _, ⟨T43, L43, k43, n43⟩, -, X43, ⟨Lc43, hQ43, l43, y43, z43⟩, st43⟩ := Jvm.LawKit.callS X41 hx (y := (⟨"com/example/vorgang/vorgang/model/CallPolicyDispatchPinLaw", "policy", "(I)Lcom/example/vorgang/vorgang/model/Policy;"⟩ : MethodName)) hown (mvT hZ (ow hw 4 rfl)) (mvT hZ (ow hw 5 rfl)) (mvT hZ (ow hw 6 rfl)) (mvT hZ (ow hw 7 rfl)) (by decide) (backOf (W := 3) (rm_polA l Z a0 hw [] wA wD wG wU wV wN wB wC wF wE wO k_1 k_2 ti pt h39 n0 O39 hS pT) hZ (ow hw 7 rfl) (ow hw 6 rfl) (by decide) (by decide)) (g := (mkF mG 64 #[oi i0, oi i1, oi i2, oi ki, oi ti, oi sr, oi tr, .unset, .unset, .unset, .unset, .unset, .unset] [(.int ti), (.ref pk), (.ref b39), (.ref b39)])) rfl (by rw [hml]; rfl) (argsL := [(.int ti)]) (rest := [(.ref pk), (.ref b39), (.ref b39)]) (lenOf pd_13 rfl) rfl (by show 2 * 0 + _ ≤ _; exact Nat.le_of_eq rfl) (hb hby at_64) (fun _ _ => ⟨rfl, e41, (by decide : 1 + 0 ≤ _), (by decide : 2 + 0 ≤ _)⟩)
  dsimp only [Pt.U, Pt.locs, Pt.cells, Pt.slots] at X43 l43 y43 z43 st43 hQ43
  subst l43 y43 z43
  obtain ⟨rfl, N43q, e43⟩ := hQ43
  have N43 := Fr.app N41 N43q
  obtain ⟨LL44, X43, N43⟩ : ∃ LL, Stand pG l eG _ _ mG _ belowG methG cG T43 LL 1 2 ∧ Fr n0 LL := ⟨_, X43, N43⟩
  refine ob T43 (mkF mG 67 #[oi i0, oi i1, oi i2, oi ki, oi ti, oi sr, oi tr, .unset, .unset, .unset, .unset, .unset, .unset] [(.ref pt), (.ref pk), (.ref b39), (.ref b39)]) (fun _ kk => st43 _ kk) ?_
  obtain ⟨_, _, ⟨T45, L45, k45, n45⟩, -, X45, hS45, gs45, ⟨Lc45, hQ45, l45, y45, z45, CS45⟩, st45⟩ := X43.specialBackS hx (y := (⟨"com/example/vorgang/vorgang/model/CallPolicy", "<init>", "(Lcom/example/vorgang/vorgang/model/Policy;Lcom/example/vorgang/vorgang/model/Policy;)V"⟩ : MethodName)) rfl hown (mvT hZ (ow hw 13 rfl)) (mvT hZ (ow hw 14 rfl)) (mvT hZ (ow hw 15 rfl)) (by decide) (backOfSH (W := 1) (rm_ciA l Z a0 hw [] wA wD wG wU wV wN wB wC wF wE wO k_1 k_2 b39 pk pt .null .null h39 n0 O39 hS A39 F39_40 F39_42 n_b39 hBM) hZ (ow hw 15 rfl) (ow hw 3 rfl) (by decide) (by decide) hEL CR39.1) (g := (mkF mG 67 #[oi i0, oi i1, oi i2, oi ki, oi ti, oi sr, oi tr, .unset, .unset, .unset, .unset, .unset, .unset] [(.ref pt), (.ref pk), (.ref b39), (.ref b39)])) rfl (by rw [hml]; rfl) (Steps.refl _) (a := b39) (argsL := [(.ref pk), (.ref pt)]) (rest := [(.ref b39)]) (lenOf pd_14 rfl) rfl (by show 2 * 0 + _ ≤ _; exact Nat.le_of_eq rfl) (hb hby at_67) (fun _ _ => ⟨rfl, e43, (by decide : 1 + 4 ≤ _), (by decide : 2 + 112 ≤ _)⟩)
  dsimp only [Pt.U, Pt.locs, Pt.cells, Pt.slots] at X45 l45 y45 z45 st45 hQ45 hS45 gs45 CS45
  subst l45 y45 z45
  obtain ⟨X45, hS45, hZ, hown⟩ := rebS hS0 (by rw [e43]; exact (Nat.le_trans hk0 CS39.2.1)) X45 hS45 gs45 hZ hown
  obtain ⟨h45, e45⟩ : ∃ h, T45.heap = h := ⟨_, rfl⟩
  rw [e45] at hQ45
  obtain ⟨rfl, N45q, K45q, O45, F45_0, F45_1⟩ := hQ45
  have N45 := Fr.app N43 N45q
  have K45 := K39.trans K45q (allS (Or.inr sz_b39) all0)
  rw [e45] at CS45 hS45
  have hk45 : h45.size ≤ h45.size := Nat.le_refl _
  have CR45 := CR39.trans CS45
  obtain ⟨LL46, X45, N45⟩ : ∃ LL, Stand pG l eG _ _ mG _ belowG methG cG T45 LL 5 114 ∧ Fr n0 LL := ⟨_, X45, N45⟩
  refine ob T45 (mkF mG 70 #[oi i0, oi i1, oi i2, oi ki, oi ti, oi sr, oi tr, .unset, .unset, .unset, .unset, .unset, .unset] [(.ref b39)]) (fun _ kk => st45.trans kk) ?_
  refine ob T45 (mkF mG 72 #[oi i0, oi i1, oi i2, oi ki, oi ti, oi sr, oi tr, oa b39, .unset, .unset, .unset, .unset, .unset] []) (fun _ kk => XS.astore X45.here hx rfl (hb hby at_70) rfl rfl (l' := #[oi i0, oi i1, oi i2, oi ki, oi ti, oi sr, oi tr, oa b39, .unset, .unset, .unset, .unset, .unset]) rfl kk) ?_
  refine ob T45 (mkF mG 74 #[oi i0, oi i1, oi i2, oi ki, oi ti, oi sr, oi tr, oa b39, .unset, .unset, .unset, .unset, .unset] [(.ref b39)]) (fun _ kk => XS.aload X45.here hx rfl (hb hby at_72) rfl rfl kk) ?_
  refine ob T45 (mkF mG 76 #[oi i0, oi i1, oi i2, oi ki, oi ti, oi sr, oi tr, oa b39, .unset, .unset, .unset, .unset, .unset] [(.int sr), (.ref b39)]) (fun _ kk => XS.iload X45.here hx rfl (hb hby at_74) rfl kk) ?_
  refine ob T45 (mkF mG 78 #[oi i0, oi i1, oi i2, oi ki, oi ti, oi sr, oi tr, oa b39, .unset, .unset, .unset, .unset, .unset] [(.int tr), (.int sr), (.ref b39)]) (fun _ kk => XS.iload X45.here hx rfl (hb hby at_76) rfl kk) ?_
  obtain ⟨cq47, kq47, q47a, q47b, q47c⟩ := isOf hZ e45 (A39.keep K45q)
  obtain ⟨_, _, ⟨T47, L47, k47, n47⟩, -, X47, hS47, gs47, ⟨Lc47, hQ47, l47, y47, z47, CS47⟩, st47⟩ := X45.virtualBackS hx (y := (⟨"com/example/vorgang/vorgang/model/CallPolicy", "dispatch", "(ZZ)Ljava/util/Optional;"⟩ : MethodName)) (z := (⟨"com/example/vorgang/vorgang/model/CallPolicy", "dispatch", "(ZZ)Ljava/util/Optional;"⟩ : MethodName)) hown (mvT hZ (ow hw 43 rfl)) (mvT hZ (ow hw 44 rfl)) (notFace_of_selects (args := #[]) (mvT hZ (ow hw 46 rfl))) (mvT hZ (ow hw 46 rfl)) (mvT hZ (ow hw 45 rfl)) (by decide) (backOfSH (W := 0) (rm_d3 l Z a0 hw [] wA wD wG wU wV wN wB wC wF wE wO k_1 k_2 b39 sr tr ki si sm bv ti xv pk pt uu u2 h45 n0 O45 hS (A39.keep K45q) F45_0 F45_1 pK bS bT rS uS rM rB pT rX uX) hZ (ow hw 47 rfl) (ow hw 3 rfl) (by decide) (by decide) hEL CR45.1) q47a q47c (g := (mkF mG 78 #[oi i0, oi i1, oi i2, oi ki, oi ti, oi sr, oi tr, oa b39, .unset, .unset, .unset, .unset, .unset] [(.int tr), (.int sr), (.ref b39)])) rfl (by rw [hml]; rfl) (Steps.refl _) (argsL := [(.int sr), (.int tr)]) (rest := []) (lenOf pd_15 rfl) rfl (by show 2 * 0 + _ ≤ _; exact Nat.le_of_eq rfl) (hb hby at_78) (fun _ _ => ⟨rfl, e45, (by decide : 5 + 10 ≤ _), (by decide : 114 + 94 ≤ _)⟩)
  dsimp only [Pt.U, Pt.locs, Pt.cells, Pt.slots] at X47 l47 y47 z47 st47 hQ47 hS47 gs47 CS47
  subst l47 y47 z47
  obtain ⟨X47, hS47, hZ, hown⟩ := rebS hS45 (by rw [e45]; exact hk45) X47 hS47 gs47 hZ hown
  obtain ⟨h47, e47⟩ : ∃ h, T47.heap = h := ⟨_, rfl⟩
  rw [e47] at hQ47
  obtain ⟨b0_47, b1_47, rfl, N47q, K47q, O47, n_b0_47, n_b1_47, z_b0_47, z_b1_47, F47_0, F47_1, F47_2, F47_3, F47_4⟩ := hQ47
  have N47 := Fr.app N45 N47q
  have sz_b0_47 : h0.size ≤ b0_47 := Nat.le_trans K45.1 z_b0_47
  have ne_b39_b0_47 : b39 ≠ b0_47 := Nat.ne_of_lt (Nat.lt_of_lt_of_le (A39.keep K45q).lt z_b0_47)
  have sz_b1_47 : h0.size ≤ b1_47 := Nat.le_trans K45.1 z_b1_47
  have ne_b39_b1_47 : b39 ≠ b1_47 := Nat.ne_of_lt (Nat.lt_of_lt_of_le (A39.keep K45q).lt z_b1_47)
  have K47 := K45.trans K47q all0
  rw [e47] at CS47 hS47
  have hk47 : h47.size ≤ h47.size := Nat.le_refl _
  have CR47 := CR45.trans CS47
  obtain ⟨LL48, X47, N47⟩ : ∃ LL, Stand pG l eG _ _ mG _ belowG methG cG T47 LL 15 208 ∧ Fr n0 LL := ⟨_, X47, N47⟩
  refine ob T47 (mkF mG 81 #[oi i0, oi i1, oi i2, oi ki, oi ti, oi sr, oi tr, oa b39, .unset, .unset, .unset, .unset, .unset] [(.ref b0_47)]) (fun _ kk => st47.trans kk) ?_
  refine ob T47 (mkF mG 83 #[oi i0, oi i1, oi i2, oi ki, oi ti, oi sr, oi tr, oa b39, oa b0_47, .unset, .unset, .unset, .unset] []) (fun _ kk => XS.astore X47.here hx rfl (hb hby at_81) rfl rfl (l' := #[oi i0, oi i1, oi i2, oi ki, oi ti, oi sr, oi tr, oa b39, oa b0_47, .unset, .unset, .unset, .unset]) rfl kk) ?_
  refine ob T47 (mkF mG 84 #[oi i0, oi i1, oi i2, oi ki, oi ti, oi sr, oi tr, oa b39, oa b0_47, .unset, .unset, .unset, .unset] [(.int ki)]) (fun _ kk => XS.iloadN X47.here hx rfl (hb hby at_83) rfl kk) ?_
  refine ob T47 (mkF mG 86 #[oi i0, oi i1, oi i2, oi ki, oi ti, oi sr, oi tr, oa b39, oa b0_47, .unset, .unset, .unset, .unset] [(.int sr), (.int ki)]) (fun _ kk => XS.iload X47.here hx rfl (hb hby at_84) rfl kk) ?_
  obtain ⟨_, _, ⟨T49, L49, k49, n49⟩, -, X49, ⟨Lc49, hQ49, l49, y49, z49⟩, st49⟩ := Jvm.LawKit.callS X47 hx (y := (⟨"com/example/vorgang/vorgang/model/CallPolicyDispatchPinLaw", "rule", "(IZ)I"⟩ : MethodName)) hown (mvT hZ (ow hw 130 rfl)) (mvT hZ (ow hw 131 rfl)) (mvT hZ (ow hw 6 rfl)) (mvT hZ (ow hw 132 rfl)) (by decide) (backOf (W := 0) (rm_ruA l Z a0 hw [] wA wD wG wU wV wN wB wC wF wE wO k_1 k_2 ki sr si h47 n0 O47 hS hk7 bS rS) hZ (ow hw 132 rfl) (ow hw 6 rfl) (by decide) (by decide)) (g := (mkF mG 86 #[oi i0, oi i1, oi i2, oi ki, oi ti, oi sr, oi tr, oa b39, oa b0_47, .unset, .unset, .unset, .unset] [(.int sr), (.int ki)])) rfl (by rw [hml]; rfl) (argsL := [(.int ki), (.int sr)]) (rest := []) (lenOf pd_16 rfl) rfl (by show 2 * 0 + _ ≤ _; exact Nat.le_of_eq rfl) (hb hby at_86) (fun _ _ => ⟨rfl, e47, (by decide : 15 + 0 ≤ _), (by decide : 208 + 0 ≤ _)⟩)
  dsimp only [Pt.U, Pt.locs, Pt.cells, Pt.slots] at X49 l49 y49 z49 st49 hQ49
  subst l49 y49 z49
  obtain ⟨rfl, N49q, e49⟩ := hQ49
  have N49 := Fr.app N47 N49q
  obtain ⟨LL50, X49, N49⟩ : ∃ LL, Stand pG l eG _ _ mG _ belowG methG cG T49 LL 15 208 ∧ Fr n0 LL := ⟨_, X49, N49⟩
  refine ob T49 (mkF mG 89 #[oi i0, oi i1, oi i2, oi ki, oi ti, oi sr, oi tr, oa b39, oa b0_47, .unset, .unset, .unset, .unset] [(.int si)]) (fun _ kk => st49 _ kk) ?_
  refine ob T49 (mkF mG 91 #[oi i0, oi i1, oi i2, oi ki, oi ti, oi sr, oi tr, oa b39, oa b0_47, oi si, .unset, .unset, .unset] []) (fun _ kk => XS.istore X49.here hx rfl (hb hby at_89) rfl (l' := #[oi i0, oi i1, oi i2, oi ki, oi ti, oi sr, oi tr, oa b39, oa b0_47, oi si, .unset, .unset, .unset]) rfl kk) ?_
  refine ob T49 (mkF mG 93 #[oi i0, oi i1, oi i2, oi ki, oi ti, oi sr, oi tr, oa b39, oa b0_47, oi si, .unset, .unset, .unset] [(.int si)]) (fun _ kk => XS.iload X49.here hx rfl (hb hby at_91) rfl kk) ?_
  refine ob T49 (mkF mG 110 #[oi i0, oi i1, oi i2, oi ki, oi ti, oi sr, oi tr, oa b39, oa b0_47, oi si, .unset, .unset, .unset] []) (fun _ kk => XS.ifYes X49.here hx rfl (pc0 := 93) (pc' := 110) rfl (hb hby at_93) rfl ((if0 _ _).trans (flt lS).2.1) (by decide) (by decide) kk) ?_
  refine omergeE (w := sm) (g' := fun zz => (mkF mG 131 #[oi i0, oi i1, oi i2, oi ki, oi ti, oi sr, oi tr, oa b39, oa b0_47, oi si, .unset, .unset, .unset] [(.int zz)])) ?_ ?_
  · skip
    refine om (g1 := (mkF mG 112 #[oi i0, oi i1, oi i2, oi ki, oi ti, oi sr, oi tr, oa b39, oa b0_47, oi si, .unset, .unset, .unset] [(.int si)])) (fun _ kk => XS.iload X49.here hx rfl (hb hby at_110) rfl kk) ?_
    refine om (g1 := (mkF mG 113 #[oi i0, oi i1, oi i2, oi ki, oi ti, oi sr, oi tr, oa b39, oa b0_47, oi si, .unset, .unset, .unset] [(.int (1 : Int32)), (.int si)])) (fun _ kk => XS.iconst X49.here hx rfl (hb hby at_112) kk) ?_
    by_cases hc51 : si = (1 : Int32)
    · skip
      refine om (g1 := (mkF mG 126 #[oi i0, oi i1, oi i2, oi ki, oi ti, oi sr, oi tr, oa b39, oa b0_47, oi si, .unset, .unset, .unset] [])) (fun _ kk => XS.icmpYes X49.here hx rfl (pc0 := 113) (pc' := 126) rfl (hb hby at_113) rfl (teq hc51).1 (by decide) (by decide) kk) ?_
      refine om (g1 := (mkF mG 127 #[oi i0, oi i1, oi i2, oi ki, oi ti, oi sr, oi tr, oa b39, oa b0_47, oi si, .unset, .unset, .unset] [(.int (1 : Int32))])) (fun _ kk => XS.iconst X49.here hx rfl (hb hby at_126) kk) ?_
      refine om (g1 := (mkF mG 131 #[oi i0, oi i1, oi i2, oi ki, oi ti, oi sr, oi tr, oa b39, oa b0_47, oi si, .unset, .unset, .unset] [(.int (1 : Int32))])) (fun _ kk => XS.goto X49.here hx rfl (pc0 := 127) (pc' := 131) rfl (hb hby at_127) (by decide) (by decide) kk) ?_
      exact ⟨(1 : Int32), (own_smA hc51).symm.trans rM, fun _ kk => kk⟩
    · skip
      refine om (g1 := (mkF mG 116 #[oi i0, oi i1, oi i2, oi ki, oi ti, oi sr, oi tr, oa b39, oa b0_47, oi si, .unset, .unset, .unset] [])) (fun _ kk => XS.icmpNo X49.here hx rfl (hb hby at_113) rfl (feq hc51).1 kk) ?_
      refine om (g1 := (mkF mG 118 #[oi i0, oi i1, oi i2, oi ki, oi ti, oi sr, oi tr, oa b39, oa b0_47, oi si, .unset, .unset, .unset] [(.int si)])) (fun _ kk => XS.iload X49.here hx rfl (hb hby at_116) rfl kk) ?_
      by_cases hc52 : si = (0 : Int32)
      · skip
        refine om (g1 := (mkF mG 121 #[oi i0, oi i1, oi i2, oi ki, oi ti, oi sr, oi tr, oa b39, oa b0_47, oi si, .unset, .unset, .unset] [])) (fun _ kk => XS.ifNo X49.here hx rfl (hb hby at_118) rfl ((if0 _ _).trans (teq hc52).2) kk) ?_
        refine om (g1 := (mkF mG 123 #[oi i0, oi i1, oi i2, oi ki, oi ti, oi sr, oi tr, oa b39, oa b0_47, oi si, .unset, .unset, .unset] [(.int sr)])) (fun _ kk => XS.iload X49.here hx rfl (hb hby at_121) rfl kk) ?_
        by_cases hc53 : sr = (0 : Int32)
        · skip
          refine om (g1 := (mkF mG 126 #[oi i0, oi i1, oi i2, oi ki, oi ti, oi sr, oi tr, oa b39, oa b0_47, oi si, .unset, .unset, .unset] [])) (fun _ kk => XS.ifNo X49.here hx rfl (hb hby at_123) rfl ((if0 _ _).trans (teq hc53).2) kk) ?_
          refine om (g1 := (mkF mG 127 #[oi i0, oi i1, oi i2, oi ki, oi ti, oi sr, oi tr, oa b39, oa b0_47, oi si, .unset, .unset, .unset] [(.int (1 : Int32))])) (fun _ kk => XS.iconst X49.here hx rfl (hb hby at_126) kk) ?_
          refine om (g1 := (mkF mG 131 #[oi i0, oi i1, oi i2, oi ki, oi ti, oi sr, oi tr, oa b39, oa b0_47, oi si, .unset, .unset, .unset] [(.int (1 : Int32))])) (fun _ kk => XS.goto X49.here hx rfl (pc0 := 127) (pc' := 131) rfl (hb hby at_127) (by decide) (by decide) kk) ?_
          exact ⟨(1 : Int32), (own_smD hc52 hc53).symm.trans rM, fun _ kk => kk⟩
        · skip
          refine om (g1 := (mkF mG 130 #[oi i0, oi i1, oi i2, oi ki, oi ti, oi sr, oi tr, oa b39, oa b0_47, oi si, .unset, .unset, .unset] [])) (fun _ kk => XS.ifYes X49.here hx rfl (pc0 := 123) (pc' := 130) rfl (hb hby at_123) rfl ((if0 _ _).trans (feq hc53).2) (by decide) (by decide) kk) ?_
          refine om (g1 := (mkF mG 131 #[oi i0, oi i1, oi i2, oi ki, oi ti, oi sr, oi tr, oa b39, oa b0_47, oi si, .unset, .unset, .unset] [(.int (0 : Int32))])) (fun _ kk => XS.iconst X49.here hx rfl (hb hby at_130) kk) ?_
          exact ⟨(0 : Int32), (own_smC hc52 hc53).symm.trans rM, fun _ kk => kk⟩
      · skip
        refine om (g1 := (mkF mG 130 #[oi i0, oi i1, oi i2, oi ki, oi ti, oi sr, oi tr, oa b39, oa b0_47, oi si, .unset, .unset, .unset] [])) (fun _ kk => XS.ifYes X49.here hx rfl (pc0 := 118) (pc' := 130) rfl (hb hby at_118) rfl ((if0 _ _).trans (feq hc52).2) (by decide) (by decide) kk) ?_
        refine om (g1 := (mkF mG 131 #[oi i0, oi i1, oi i2, oi ki, oi ti, oi sr, oi tr, oa b39, oa b0_47, oi si, .unset, .unset, .unset] [(.int (0 : Int32))])) (fun _ kk => XS.iconst X49.here hx rfl (hb hby at_130) kk) ?_
        exact ⟨(0 : Int32), (own_smB hc51 hc52).symm.trans rM, fun _ kk => kk⟩
  show oGo pG eG belowG _ T49 (mkF mG 131 #[oi i0, oi i1, oi i2, oi ki, oi ti, oi sr, oi tr, oa b39, oa b0_47, oi si, .unset, .unset, .unset] [(.int sm)])
  refine ob T49 (mkF mG 133 #[oi i0, oi i1, oi i2, oi ki, oi ti, oi sr, oi tr, oa b39, oa b0_47, oi si, oi sm, .unset, .unset] []) (fun _ kk => XS.istore X49.here hx rfl (hb hby at_131) rfl (l' := #[oi i0, oi i1, oi i2, oi ki, oi ti, oi sr, oi tr, oa b39, oa b0_47, oi si, oi sm, .unset, .unset]) rfl kk) ?_
  refine ob T49 (mkF mG 135 #[oi i0, oi i1, oi i2, oi ki, oi ti, oi sr, oi tr, oa b39, oa b0_47, oi si, oi sm, .unset, .unset] [(.int ti)]) (fun _ kk => XS.iload X49.here hx rfl (hb hby at_133) rfl kk) ?_
  refine omergeE (w := bv) (g' := fun zz => (mkF mG 150 #[oi i0, oi i1, oi i2, oi ki, oi ti, oi sr, oi tr, oa b39, oa b0_47, oi si, oi sm, .unset, .unset] [(.int zz), (.int ti)])) ?_ ?_
  · skip
    refine om (g1 := (mkF mG 137 #[oi i0, oi i1, oi i2, oi ki, oi ti, oi sr, oi tr, oa b39, oa b0_47, oi si, oi sm, .unset, .unset] [(.int tr), (.int ti)])) (fun _ kk => XS.iload X49.here hx rfl (hb hby at_135) rfl kk) ?_
    by_cases hc54 : tr = (0 : Int32)
    · skip
      refine om (g1 := (mkF mG 149 #[oi i0, oi i1, oi i2, oi ki, oi ti, oi sr, oi tr, oa b39, oa b0_47, oi si, oi sm, .unset, .unset] [(.int ti)])) (fun _ kk => XS.ifYes X49.here hx rfl (pc0 := 137) (pc' := 149) rfl (hb hby at_137) rfl ((if0 _ _).trans (teq hc54).1) (by decide) (by decide) kk) ?_
      refine om (g1 := (mkF mG 150 #[oi i0, oi i1, oi i2, oi ki, oi ti, oi sr, oi tr, oa b39, oa b0_47, oi si, oi sm, .unset, .unset] [(.int (0 : Int32)), (.int ti)])) (fun _ kk => XS.iconst X49.here hx rfl (hb hby at_149) kk) ?_
      exact ⟨(0 : Int32), (own_anA hc54).symm.trans rB, fun _ kk => kk⟩
    · skip
      refine om (g1 := (mkF mG 140 #[oi i0, oi i1, oi i2, oi ki, oi ti, oi sr, oi tr, oa b39, oa b0_47, oi si, oi sm, .unset, .unset] [(.int ti)])) (fun _ kk => XS.ifNo X49.here hx rfl (hb hby at_137) rfl ((if0 _ _).trans (feq hc54).1) kk) ?_
      refine om (g1 := (mkF mG 142 #[oi i0, oi i1, oi i2, oi ki, oi ti, oi sr, oi tr, oa b39, oa b0_47, oi si, oi sm, .unset, .unset] [(.int sm), (.int ti)])) (fun _ kk => XS.iload X49.here hx rfl (hb hby at_140) rfl kk) ?_
      by_cases hc55 : sm = (0 : Int32)
      · skip
        refine om (g1 := (mkF mG 149 #[oi i0, oi i1, oi i2, oi ki, oi ti, oi sr, oi tr, oa b39, oa b0_47, oi si, oi sm, .unset, .unset] [(.int ti)])) (fun _ kk => XS.ifYes X49.here hx rfl (pc0 := 142) (pc' := 149) rfl (hb hby at_142) rfl ((if0 _ _).trans (teq hc55).1) (by decide) (by decide) kk) ?_
        refine om (g1 := (mkF mG 150 #[oi i0, oi i1, oi i2, oi ki, oi ti, oi sr, oi tr, oa b39, oa b0_47, oi si, oi sm, .unset, .unset] [(.int (0 : Int32)), (.int ti)])) (fun _ kk => XS.iconst X49.here hx rfl (hb hby at_149) kk) ?_
        exact ⟨(0 : Int32), (own_anB hc55).symm.trans rB, fun _ kk => kk⟩
      · skip
        refine om (g1 := (mkF mG 145 #[oi i0, oi i1, oi i2, oi ki, oi ti, oi sr, oi tr, oa b39, oa b0_47, oi si, oi sm, .unset, .unset] [(.int ti)])) (fun _ kk => XS.ifNo X49.here hx rfl (hb hby at_142) rfl ((if0 _ _).trans (feq hc55).1) kk) ?_
        refine om (g1 := (mkF mG 146 #[oi i0, oi i1, oi i2, oi ki, oi ti, oi sr, oi tr, oa b39, oa b0_47, oi si, oi sm, .unset, .unset] [(.int (1 : Int32)), (.int ti)])) (fun _ kk => XS.iconst X49.here hx rfl (hb hby at_145) kk) ?_
        refine om (g1 := (mkF mG 150 #[oi i0, oi i1, oi i2, oi ki, oi ti, oi sr, oi tr, oa b39, oa b0_47, oi si, oi sm, .unset, .unset] [(.int (1 : Int32)), (.int ti)])) (fun _ kk => XS.goto X49.here hx rfl (pc0 := 146) (pc' := 150) rfl (hb hby at_146) (by decide) (by decide) kk) ?_
        exact ⟨(1 : Int32), (own_anC hc54 hc55).symm.trans rB, fun _ kk => kk⟩
  show oGo pG eG belowG _ T49 (mkF mG 150 #[oi i0, oi i1, oi i2, oi ki, oi ti, oi sr, oi tr, oa b39, oa b0_47, oi si, oi sm, .unset, .unset] [(.int bv), (.int ti)])
  obtain ⟨_, _, ⟨T56, L56, k56, n56⟩, -, X56, ⟨Lc56, hQ56, l56, y56, z56⟩, st56⟩ := Jvm.LawKit.callS X49 hx (y := (⟨"com/example/vorgang/vorgang/model/CallPolicyDispatchPinLaw", "rule", "(IZ)I"⟩ : MethodName)) hown (mvT hZ (ow hw 130 rfl)) (mvT hZ (ow hw 131 rfl)) (mvT hZ (ow hw 6 rfl)) (mvT hZ (ow hw 132 rfl)) (by decide) (backOf (W := 0) (rm_ruA l Z a0 hw [] wA wD wG wU wV wN wB wC wF wE wO k_1 k_2 ti bv xv h47 n0 O47 hS ht7 hbv rX) hZ (ow hw 132 rfl) (ow hw 6 rfl) (by decide) (by decide)) (g := (mkF mG 150 #[oi i0, oi i1, oi i2, oi ki, oi ti, oi sr, oi tr, oa b39, oa b0_47, oi si, oi sm, .unset, .unset] [(.int bv), (.int ti)])) rfl (by rw [hml]; rfl) (argsL := [(.int ti), (.int bv)]) (rest := []) (lenOf pd_16 rfl) rfl (by show 2 * 0 + _ ≤ _; exact Nat.le_of_eq rfl) (hb hby at_150) (fun _ _ => ⟨rfl, e49, (by decide : 15 + 0 ≤ _), (by decide : 208 + 0 ≤ _)⟩)
  dsimp only [Pt.U, Pt.locs, Pt.cells, Pt.slots] at X56 l56 y56 z56 st56 hQ56
  subst l56 y56 z56
  obtain ⟨rfl, N56q, e56⟩ := hQ56
  have N56 := Fr.app N49 N56q
  obtain ⟨LL57, X56, N56⟩ : ∃ LL, Stand pG l eG _ _ mG _ belowG methG cG T56 LL 15 208 ∧ Fr n0 LL := ⟨_, X56, N56⟩
  refine ob T56 (mkF mG 153 #[oi i0, oi i1, oi i2, oi ki, oi ti, oi sr, oi tr, oa b39, oa b0_47, oi si, oi sm, .unset, .unset] [(.int xv)]) (fun _ kk => st56 _ kk) ?_
  refine ob T56 (mkF mG 155 #[oi i0, oi i1, oi i2, oi ki, oi ti, oi sr, oi tr, oa b39, oa b0_47, oi si, oi sm, oi xv, .unset] []) (fun _ kk => XS.istore X56.here hx rfl (hb hby at_153) rfl (l' := #[oi i0, oi i1, oi i2, oi ki, oi ti, oi sr, oi tr, oa b39, oa b0_47, oi si, oi sm, oi xv, .unset]) rfl kk) ?_
  refine ob T56 (mkF mG 157 #[oi i0, oi i1, oi i2, oi ki, oi ti, oi sr, oi tr, oa b39, oa b0_47, oi si, oi sm, oi xv, .unset] [(.int xv)]) (fun _ kk => XS.iload X56.here hx rfl (hb hby at_155) rfl kk) ?_
  refine ob T56 (mkF mG 174 #[oi i0, oi i1, oi i2, oi ki, oi ti, oi sr, oi tr, oa b39, oa b0_47, oi si, oi sm, oi xv, .unset] []) (fun _ kk => XS.ifYes X56.here hx rfl (pc0 := 157) (pc' := 174) rfl (hb hby at_157) rfl ((if0 _ _).trans (flt lX).2.1) (by decide) (by decide) kk) ?_
  refine ob T56 (mkF mG 176 #[oi i0, oi i1, oi i2, oi ki, oi ti, oi sr, oi tr, oa b39, oa b0_47, oi si, oi sm, oi xv, .unset] [(.ref b0_47)]) (fun _ kk => XS.aload X56.here hx rfl (hb hby at_174) rfl rfl kk) ?_
  obtain ⟨cq58, kq58, q58a, q58b, q58c⟩ := isOf hZ e56 F47_0
  obtain ⟨_, _, ⟨T58, L58, k58, n58⟩, -, X58, ⟨Lc58, hQ58, l58, y58, z58⟩, st58⟩ := X56.virtualBack hx (y := (⟨"java/util/Optional", "isPresent", "()Z"⟩ : MethodName)) (z := (⟨"java/util/Optional", "isPresent", "()Z"⟩ : MethodName)) hown (mvT hZ (ow hw 133 rfl)) (mvT hZ (ow hw 134 rfl)) (notFace_of_selects (args := #[]) (mvT hZ (ow hw 136 rfl))) (mvT hZ (ow hw 136 rfl)) (mvT hZ (ow hw 135 rfl)) (by decide) (backOf (W := 0) (rm_ipS l Z a0 hw [] wA wD wG wU wV wN wB wC wF wE wO k_1 k_2 b0_47 b1_47 h47 n0 O47 hS F47_1) hZ (ow hw 137 rfl) (ow hw 67 rfl) (by decide) (by decide)) q58a q58c (g := (mkF mG 176 #[oi i0, oi i1, oi i2, oi ki, oi ti, oi sr, oi tr, oa b39, oa b0_47, oi si, oi sm, oi xv, .unset] [(.ref b0_47)])) rfl (by rw [hml]; rfl) (Steps.refl _) (argsL := []) (rest := []) (lenOf pd_9 rfl) rfl (by show 2 * 0 + _ ≤ _; exact Nat.le_of_eq rfl) (hb hby at_176) (fun _ _ => ⟨rfl, e56, (by decide : 15 + 0 ≤ _), (by decide : 208 + 0 ≤ _)⟩)
  dsimp only [Pt.U, Pt.locs, Pt.cells, Pt.slots] at X58 l58 y58 z58 st58 hQ58
  subst l58 y58 z58
  obtain ⟨rfl, N58q, e58⟩ := hQ58
  have N58 := Fr.app N56 N58q
  obtain ⟨LL59, X58, N58⟩ : ∃ LL, Stand pG l eG _ _ mG _ belowG methG cG T58 LL 15 208 ∧ Fr n0 LL := ⟨_, X58, N58⟩
  refine ob T58 (mkF mG 179 #[oi i0, oi i1, oi i2, oi ki, oi ti, oi sr, oi tr, oa b39, oa b0_47, oi si, oi sm, oi xv, .unset] [(.int (1 : Int32))]) (fun _ kk => st58.trans kk) ?_
  refine ob T58 (mkF mG 184 #[oi i0, oi i1, oi i2, oi ki, oi ti, oi sr, oi tr, oa b39, oa b0_47, oi si, oi sm, oi xv, .unset] []) (fun _ kk => XS.ifYes X58.here hx rfl (pc0 := 179) (pc' := 184) rfl (hb hby at_179) rfl ((if0 _ _).trans (feq (by decide : ¬ ((1 : Int32) = (0 : Int32)))).2) (by decide) (by decide) kk) ?_
  refine ob T58 (mkF mG 186 #[oi i0, oi i1, oi i2, oi ki, oi ti, oi sr, oi tr, oa b39, oa b0_47, oi si, oi sm, oi xv, .unset] [(.ref b0_47)]) (fun _ kk => XS.aload X58.here hx rfl (hb hby at_184) rfl rfl kk) ?_
  obtain ⟨cq60, kq60, q60a, q60b, q60c⟩ := isOf hZ e58 F47_0
  obtain ⟨_, _, ⟨T60, L60, k60, n60⟩, -, X60, ⟨Lc60, hQ60, l60, y60, z60⟩, st60⟩ := X58.virtualBack hx (y := (⟨"java/util/Optional", "get", "()Ljava/lang/Object;"⟩ : MethodName)) (z := (⟨"java/util/Optional", "get", "()Ljava/lang/Object;"⟩ : MethodName)) hown (mvT hZ (ow hw 138 rfl)) (mvT hZ (ow hw 139 rfl)) (notFace_of_selects (args := #[]) (mvT hZ (ow hw 141 rfl))) (mvT hZ (ow hw 141 rfl)) (mvT hZ (ow hw 140 rfl)) (by decide) (backOf (W := 0) (rm_get l Z a0 hw [] wA wD wG wU wV wN wB wC wF wE wO k_1 k_2 b0_47 b1_47 h47 n0 O47 hS F47_1) hZ (ow hw 142 rfl) (ow hw 67 rfl) (by decide) (by decide)) q60a q60c (g := (mkF mG 186 #[oi i0, oi i1, oi i2, oi ki, oi ti, oi sr, oi tr, oa b39, oa b0_47, oi si, oi sm, oi xv, .unset] [(.ref b0_47)])) rfl (by rw [hml]; rfl) (Steps.refl _) (argsL := []) (rest := []) (lenOf pd_17 rfl) rfl (by show 2 * 0 + _ ≤ _; exact Nat.le_of_eq rfl) (hb hby at_186) (fun _ _ => ⟨rfl, e58, (by decide : 15 + 0 ≤ _), (by decide : 208 + 0 ≤ _)⟩)
  dsimp only [Pt.U, Pt.locs, Pt.cells, Pt.slots] at X60 l60 y60 z60 st60 hQ60
  subst l60 y60 z60
  obtain ⟨rfl, N60q, e60⟩ := hQ60
  have N60 := Fr.app N58 N60q
  obtain ⟨LL61, X60, N60⟩ : ∃ LL, Stand pG l eG _ _ mG _ belowG methG cG T60 LL 15 208 ∧ Fr n0 LL := ⟨_, X60, N60⟩
  refine ob T60 (mkF mG 189 #[oi i0, oi i1, oi i2, oi ki, oi ti, oi sr, oi tr, oa b39, oa b0_47, oi si, oi sm, oi xv, .unset] [(.ref b1_47)]) (fun _ kk => st60.trans kk) ?_
  obtain ⟨T62, X62, e62, st62⟩ := castY X60 hx hZ hown (ow hw 143 rfl) e60 (Ins.self F47_2) (g := (mkF mG 189 #[oi i0, oi i1, oi i2, oi ki, oi ti, oi sr, oi tr, oa b39, oa b0_47, oi si, oi sm, oi xv, .unset] [(.ref b1_47)])) rfl rfl (hb hby at_189)
  refine ob T62 (mkF mG 192 #[oi i0, oi i1, oi i2, oi ki, oi ti, oi sr, oi tr, oa b39, oa b0_47, oi si, oi sm, oi xv, .unset] [(.ref b1_47)]) (fun _ kk => st62 _ kk) ?_
  refine ob T62 (mkF mG 194 #[oi i0, oi i1, oi i2, oi ki, oi ti, oi sr, oi tr, oa b39, oa b0_47, oi si, oi sm, oi xv, oa b1_47] []) (fun _ kk => XS.astore X62.here hx rfl (hb hby at_192) rfl rfl (l' := #[oi i0, oi i1, oi i2, oi ki, oi ti, oi sr, oi tr, oa b39, oa b0_47, oi si, oi sm, oi xv, oa b1_47]) rfl kk) ?_
  refine ob T62 (mkF mG 196 #[oi i0, oi i1, oi i2, oi ki, oi ti, oi sr, oi tr, oa b39, oa b0_47, oi si, oi sm, oi xv, oa b1_47] [(.ref b1_47)]) (fun _ kk => XS.aload X62.here hx rfl (hb hby at_194) rfl rfl kk) ?_
  obtain ⟨cq63, kq63, q63a, q63b, q63c⟩ := isOf hZ e62 F47_2
  obtain ⟨_, _, ⟨T63, L63, k63, n63⟩, -, X63, ⟨Lc63, hQ63, l63, y63, z63⟩, st63⟩ := X62.virtualBack hx (y := (⟨"com/example/vorgang/vorgang/model/CallContexts", "session", "()Lcom/example/vorgang/vorgang/model/ContextUse;"⟩ : MethodName)) (z := (⟨"com/example/vorgang/vorgang/model/CallContexts", "session", "()Lcom/example/vorgang/vorgang/model/ContextUse;"⟩ : MethodName)) hown (mvT hZ (ow hw 145 rfl)) (mvT hZ (ow hw 146 rfl)) (notFace_of_selects (args := #[]) (mvT hZ (ow hw 148 rfl))) (mvT hZ (ow hw 148 rfl)) (mvT hZ (ow hw 147 rfl)) (by decide) (backOf (W := 0) (rm_ses l Z a0 hw [] wA wD wG wU wV wN wB wC wF wE wO k_1 k_2 b1_47 uu h47 n0 O47 hS F47_3) hZ (ow hw 149 rfl) (ow hw 117 rfl) (by decide) (by decide)) q63a q63c (g := (mkF mG 196 #[oi i0, oi i1, oi i2, oi ki, oi ti, oi sr, oi tr, oa b39, oa b0_47, oi si, oi sm, oi xv, oa b1_47] [(.ref b1_47)])) rfl (by rw [hml]; rfl) (Steps.refl _) (argsL := []) (rest := []) (lenOf pd_18 rfl) rfl (by show 2 * 0 + _ ≤ _; exact Nat.le_of_eq rfl) (hb hby at_196) (fun _ _ => ⟨rfl, e62, (by decide : 15 + 0 ≤ _), (by decide : 208 + 0 ≤ _)⟩)
  dsimp only [Pt.U, Pt.locs, Pt.cells, Pt.slots] at X63 l63 y63 z63 st63 hQ63
  subst l63 y63 z63
  obtain ⟨rfl, N63q, e63⟩ := hQ63
  have N63 := Fr.app N60 N63q
  obtain ⟨LL64, X63, N63⟩ : ∃ LL, Stand pG l eG _ _ mG _ belowG methG cG T63 LL 15 208 ∧ Fr n0 LL := ⟨_, X63, N63⟩
  refine ob T63 (mkF mG 199 #[oi i0, oi i1, oi i2, oi ki, oi ti, oi sr, oi tr, oa b39, oa b0_47, oi si, oi sm, oi xv, oa b1_47] [(.ref uu)]) (fun _ kk => st63.trans kk) ?_
  obtain ⟨cq65, kq65, q65a, q65b, q65c⟩ := isOf hZ e63 (E_uu.ext O47.2)
  obtain ⟨_, _, ⟨T65, L65, k65, n65⟩, -, X65, ⟨Lc65, hQ65, l65, y65, z65⟩, st65⟩ := X63.virtualBackUp hx (x := (⟨"com/example/vorgang/vorgang/model/ContextUse", "ordinal", "()I"⟩ : MethodName)) (y := (⟨"java/lang/Enum", "ordinal", "()I"⟩ : MethodName)) (owner := "java/lang/Enum") hown (mvT hZ (ow hw 150 rfl)) (mvT hZ (ow hw 151 rfl)) (mvT hZ (ow hw 55 rfl)) (by decide) (mvT hZ (ow hw 152 rfl)) (mvT hZ (ow hw 56 rfl)) (backOf (W := 0) (rm_ord l Z a0 hw [] wA wD wG wU wV wN wB wC wF wE wO k_1 k_2 uu si h47 n0 O47 hS (F_uu.ext O47.2)) hZ (ow hw 59 rfl) (ow hw 58 rfl) (by decide) (by decide)) q65a q65c (g := (mkF mG 199 #[oi i0, oi i1, oi i2, oi ki, oi ti, oi sr, oi tr, oa b39, oa b0_47, oi si, oi sm, oi xv, oa b1_47] [(.ref uu)])) rfl (by rw [hml]; rfl) (Steps.refl _) (argsL := []) (rest := []) (lenOf pd_4 rfl) rfl (by show 2 * 0 + _ ≤ _; exact Nat.le_of_eq rfl) (hb hby at_199) (fun _ _ => ⟨rfl, e63, (by decide : 15 + 0 ≤ _), (by decide : 208 + 0 ≤ _)⟩)
  dsimp only [Pt.U, Pt.locs, Pt.cells, Pt.slots] at X65 l65 y65 z65 st65 hQ65
  subst l65 y65 z65
  obtain ⟨rfl, N65q, e65⟩ := hQ65
  have N65 := Fr.app N63 N65q
  obtain ⟨LL66, X65, N65⟩ : ∃ LL, Stand pG l eG _ _ mG _ belowG methG cG T65 LL 15 208 ∧ Fr n0 LL := ⟨_, X65, N65⟩
  refine ob T65 (mkF mG 202 #[oi i0, oi i1, oi i2, oi ki, oi ti, oi sr, oi tr, oa b39, oa b0_47, oi si, oi sm, oi xv, oa b1_47] [(.int si)]) (fun _ kk => st65.trans kk) ?_
  refine ob T65 (mkF mG 204 #[oi i0, oi i1, oi i2, oi ki, oi ti, oi sr, oi tr, oa b39, oa b0_47, oi si, oi sm, oi xv, oa b1_47] [(.int si), (.int si)]) (fun _ kk => XS.iload X65.here hx rfl (hb hby at_202) rfl kk) ?_
  refine ob T65 (mkF mG 207 #[oi i0, oi i1, oi i2, oi ki, oi ti, oi sr, oi tr, oa b39, oa b0_47, oi si, oi sm, oi xv, oa b1_47] []) (fun _ kk => XS.icmpNo X65.here hx rfl (hb hby at_204) rfl (teq rfl).2 kk) ?_
  refine ob T65 (mkF mG 209 #[oi i0, oi i1, oi i2, oi ki, oi ti, oi sr, oi tr, oa b39, oa b0_47, oi si, oi sm, oi xv, oa b1_47] [(.ref b1_47)]) (fun _ kk => XS.aload X65.here hx rfl (hb hby at_207) rfl rfl kk) ?_
  obtain ⟨cq67, kq67, q67a, q67b, q67c⟩ := isOf hZ e65 F47_2
  obtain ⟨_, _, ⟨T67, L67, k67, n67⟩, -, X67, ⟨Lc67, hQ67, l67, y67, z67⟩, st67⟩ := X65.virtualBack hx (y := (⟨"com/example/vorgang/vorgang/model/CallContexts", "transaction", "()Lcom/example/vorgang/vorgang/model/ContextUse;"⟩ : MethodName)) (z := (⟨"com/example/vorgang/vorgang/model/CallContexts", "transaction", "()Lcom/example/vorgang/vorgang/model/ContextUse;"⟩ : MethodName)) hown (mvT hZ (ow hw 154 rfl)) (mvT hZ (ow hw 155 rfl)) (notFace_of_selects (args := #[]) (mvT hZ (ow hw 157 rfl))) (mvT hZ (ow hw 157 rfl)) (mvT hZ (ow hw 156 rfl)) (by decide) (backOf (W := 0) (rm_tra l Z a0 hw [] wA wD wG wU wV wN wB wC wF wE wO k_1 k_2 b1_47 u2 h47 n0 O47 hS F47_4) hZ (ow hw 158 rfl) (ow hw 117 rfl) (by decide) (by decide)) q67a q67c (g := (mkF mG 209 #[oi i0, oi i1, oi i2, oi ki, oi ti, oi sr, oi tr, oa b39, oa b0_47, oi si, oi sm, oi xv, oa b1_47] [(.ref b1_47)])) rfl (by rw [hml]; rfl) (Steps.refl _) (argsL := []) (rest := []) (lenOf pd_18 rfl) rfl (by show 2 * 0 + _ ≤ _; exact Nat.le_of_eq rfl) (hb hby at_209) (fun _ _ => ⟨rfl, e65, (by decide : 15 + 0 ≤ _), (by decide : 208 + 0 ≤ _)⟩)
  dsimp only [Pt.U, Pt.locs, Pt.cells, Pt.slots] at X67 l67 y67 z67 st67 hQ67
  subst l67 y67 z67
  obtain ⟨rfl, N67q, e67⟩ := hQ67
  have N67 := Fr.app N65 N67q
  obtain ⟨LL68, X67, N67⟩ : ∃ LL, Stand pG l eG _ _ mG _ belowG methG cG T67 LL 15 208 ∧ Fr n0 LL := ⟨_, X67, N67⟩
  refine ob T67 (mkF mG 212 #[oi i0, oi i1, oi i2, oi ki, oi ti, oi sr, oi tr, oa b39, oa b0_47, oi si, oi sm, oi xv, oa b1_47] [(.ref u2)]) (fun _ kk => st67.trans kk) ?_
  obtain ⟨cq69, kq69, q69a, q69b, q69c⟩ := isOf hZ e67 (E_u2.ext O47.2)
  obtain ⟨_, _, ⟨T69, L69, k69, n69⟩, -, X69, ⟨Lc69, hQ69, l69, y69, z69⟩, st69⟩ := X67.virtualBackUp hx (x := (⟨"com/example/vorgang/vorgang/model/ContextUse", "ordinal", "()I"⟩ : MethodName)) (y := (⟨"java/lang/Enum", "ordinal", "()I"⟩ : MethodName)) (owner := "java/lang/Enum") hown (mvT hZ (ow hw 150 rfl)) (mvT hZ (ow hw 151 rfl)) (mvT hZ (ow hw 55 rfl)) (by decide) (mvT hZ (ow hw 152 rfl)) (mvT hZ (ow hw 56 rfl)) (backOf (W := 0) (rm_ord l Z a0 hw [] wA wD wG wU wV wN wB wC wF wE wO k_1 k_2 u2 xv h47 n0 O47 hS (F_u2.ext O47.2)) hZ (ow hw 59 rfl) (ow hw 58 rfl) (by decide) (by decide)) q69a q69c (g := (mkF mG 212 #[oi i0, oi i1, oi i2, oi ki, oi ti, oi sr, oi tr, oa b39, oa b0_47, oi si, oi sm, oi xv, oa b1_47] [(.ref u2)])) rfl (by rw [hml]; rfl) (Steps.refl _) (argsL := []) (rest := []) (lenOf pd_4 rfl) rfl (by show 2 * 0 + _ ≤ _; exact Nat.le_of_eq rfl) (hb hby at_212) (fun _ _ => ⟨rfl, e67, (by decide : 15 + 0 ≤ _), (by decide : 208 + 0 ≤ _)⟩)
  dsimp only [Pt.U, Pt.locs, Pt.cells, Pt.slots] at X69 l69 y69 z69 st69 hQ69
  subst l69 y69 z69
  obtain ⟨rfl, N69q, e69⟩ := hQ69
  have N69 := Fr.app N67 N69q
  obtain ⟨LL70, X69, N69⟩ : ∃ LL, Stand pG l eG _ _ mG _ belowG methG cG T69 LL 15 208 ∧ Fr n0 LL := ⟨_, X69, N69⟩
  refine ob T69 (mkF mG 215 #[oi i0, oi i1, oi i2, oi ki, oi ti, oi sr, oi tr, oa b39, oa b0_47, oi si, oi sm, oi xv, oa b1_47] [(.int xv)]) (fun _ kk => st69.trans kk) ?_
  refine ob T69 (mkF mG 217 #[oi i0, oi i1, oi i2, oi ki, oi ti, oi sr, oi tr, oa b39, oa b0_47, oi si, oi sm, oi xv, oa b1_47] [(.int xv), (.int xv)]) (fun _ kk => XS.iload X69.here hx rfl (hb hby at_215) rfl kk) ?_
  refine ob T69 (mkF mG 220 #[oi i0, oi i1, oi i2, oi ki, oi ti, oi sr, oi tr, oa b39, oa b0_47, oi si, oi sm, oi xv, oa b1_47] []) (fun _ kk => XS.icmpNo X69.here hx rfl (hb hby at_217) rfl (teq rfl).2 kk) ?_
  refine ob T69 (mkF mG 221 #[oi i0, oi i1, oi i2, oi ki, oi ti, oi sr, oi tr, oa b39, oa b0_47, oi si, oi sm, oi xv, oa b1_47] [(.int (1 : Int32))]) (fun _ kk => XS.iconst X69.here hx rfl (hb hby at_220) kk) ?_
  refine ob T69 (mkF mG 225 #[oi i0, oi i1, oi i2, oi ki, oi ti, oi sr, oi tr, oa b39, oa b0_47, oi si, oi sm, oi xv, oa b1_47] [(.int (1 : Int32))]) (fun _ kk => XS.goto X69.here hx rfl (pc0 := 221) (pc' := 225) rfl (hb hby at_221) (by decide) (by decide) kk) ?_
  obtain ⟨fs, hr, hrun, hended, hW, hsame⟩ := X69.leave (v := some (.int (1 : Int32))) (fun h => by rw [Bd.returns] at h; cases h)
  obtain ⟨w1, w2, w3⟩ := State.Since.ended (U := T69.setFrames fs) hS47 hW (by show _ ≤ T69.heap.size; rw [e69]; exact hk47) hsame
  have CF := CR47.trans (CHv.at X69 hZ hEL CR47.1)
  refine oout (retN X69 hx (t := .boolean) Bd.returns (by simp) (hb hby at_225) hr) hrun hended ⟨_, _, rfl, ?_, ?_, ⟨_, rfl⟩, w1, w2, w3.mono (by decide) (by decide)⟩
  · show Q_rm0 Z wA wD wG wU wV wN wB wC wF wE wO k_1 k_2 i0 i1 i2 h0 n0 _ T69.heap _
    rw [e69]
    exact ⟨rfl, N69⟩
  · show CHr Z oEL sG.vm sG.heap T69.vm T69.heap
    rw [hh, e69]
    exact CF

set_option maxRecDepth 65536 in
set_option maxHeartbeats 40000000 in
theorem comes_1 {Post : Tables → Env → Array Value → State → Outcome → State → Prop} (hpost : ∀ tb e args s v u, (limb_1_1.after args s (.returned v) u = true ∧ limb_1_2.after args s (.returned v) u = true ∧ True) → ReturnedEndW s (.returned v) u (Jvm.fieldLocs frame_1_writes args s ++ Jvm.arrayLocs frame_1_arrays args s ++ Jvm.staticLocs frame_1_statics s) 32 4224 → Post tb e args s (.returned v) u) :
    ArmFor flags0 classFile x code maxLocals ret World_1 tables_1 room_1 Calls_1 rest_1 Pre_1 Post := by
  intro l hfl _ _ p e ha hc hk s m args below hf hA hF happ hP
  obtain ⟨hcalls, hrest, hpre⟩ := hP
  obtain ⟨-, -, -, hnamed, -, -, -, hat⟩ := (Spec.applies_iff hf).mp happ
  obtain ⟨hg, hn⟩ := and_e (Cond.before_iff.mp (show (Jvm.Cond.and given_1 narrow_1).before args s = true from hpre))
  obtain ⟨gg1, gg2⟩ := and_e hg
  obtain ⟨gg3, gg4⟩ := and_e gg2
  obtain ⟨gg5, gg6⟩ := and_e gg4
  obtain ⟨w0, w1, w2, rfl⟩ : ∃ w0 w1 w2 : Value, args = #[w0, w1, w2] := by
    have hs : args.size = 3 := by simpa [Cond.value, given_1] using gg1
    obtain ⟨L⟩ := args
    match L, hs with
    | [w0, w1, w2], _ => exact ⟨w0, w1, w2, rfl⟩
  have hw := fun d (hd : d ∈ tables_1) => atoms_spec (ws := Jvm.Cond.code x code maxLocals ret :: tables_1) hat d (List.mem_cons_of_mem _ hd)
  have hfit : Fit s := fun {y c} hc i hi => by
    obtain ⟨ha, rfl⟩ := Array.getElem?_eq_some_iff.mp hc
    have q := List.all_eq_true.mp ((Array.all_eq_true_iff_forall_mem.mp hF) _ (Array.getElem_mem ha)) i (List.mem_range.mpr hi)
    simpa [Array.getElem?_eq_getElem hi] using q
  obtain ⟨hsets, hown0⟩ := atoms_of _ (rest_1_c_eq ▸ (show rest_1_c.before _ s = true from hrest))
  have hr0 := Cond.before_iff.mp hown0
  obtain ⟨i0, ei0⟩ := is_v gg3
  obtain rfl : w0 = (.int i0) := Option.some.inj ei0
  obtain ⟨i1, ei1⟩ := is_v gg5
  obtain rfl : w1 = (.int i1) := Option.some.inj ei1
  obtain ⟨i2, ei2⟩ := is_v gg6
  obtain rfl : w2 = (.int i2) := Option.some.inj ei2
  obtain ⟨nn1, nn2⟩ := and_e hn
  obtain ⟨nn3, nn4⟩ := and_e nn2
  obtain ⟨nn5, nn6⟩ := and_e nn4
  obtain ⟨nn7, nn8⟩ := and_e nn6
  obtain ⟨nn9, nn10⟩ := and_e nn8
  obtain ⟨nn11, nn12⟩ := and_e nn10
  obtain ⟨nn13, nn14⟩ := and_e nn12
  obtain ⟨nn15, nn16⟩ := and_e nn14
  obtain ⟨nn17, nn18⟩ := and_e nn16
  obtain ⟨nn19, nn20⟩ := and_e nn18
  obtain ⟨nn21, nn22⟩ := and_e nn20
  obtain ⟨nn23, nn24⟩ := and_e nn22
  obtain ⟨nn25, nn26⟩ := and_e nn24
  obtain ⟨nn27, nn28⟩ := and_e nn26
  obtain ⟨nn29, nn30⟩ := and_e nn28
  obtain ⟨nn31, nn32⟩ := and_e nn30
  obtain ⟨nn33, nn34⟩ := and_e nn32
  obtain ⟨nn35, nn36⟩ := and_e nn34
  obtain ⟨nn37, nn38⟩ := and_e nn36
  obtain ⟨wA, ev_wA, S_wA, E_wA⟩ := own_sta nn1 (Or.inr ⟨(ow hw 9 rfl), (ow hw 10 rfl)⟩)
  obtain ⟨wD, ev_wD, S_wD, E_wD⟩ := own_sta nn3 (Or.inr ⟨(ow hw 9 rfl), (ow hw 12 rfl)⟩)
  obtain ⟨wG, ev_wG, S_wG, E_wG⟩ := own_sta nn5 (Or.inr ⟨(ow hw 9 rfl), (ow hw 38 rfl)⟩)
  obtain ⟨wU, ev_wU, S_wU, E_wU⟩ := own_sta nn13 (Or.inr ⟨(ow hw 63 rfl), (ow hw 64 rfl)⟩)
  obtain ⟨wV, ev_wV, S_wV, E_wV⟩ := own_sta nn15 (Or.inr ⟨(ow hw 63 rfl), (ow hw 103 rfl)⟩)
  obtain ⟨wN, ev_wN, S_wN, E_wN⟩ := own_sta nn21 (Or.inr ⟨(ow hw 63 rfl), (ow hw 105 rfl)⟩)
  obtain ⟨wB, ev_wB, S_wB, E_wB⟩ := own_sta nn25 (Or.inr ⟨(ow hw 9 rfl), (ow hw 160 rfl)⟩)
  obtain ⟨wC, ev_wC, S_wC, E_wC⟩ := own_sta nn29 (Or.inr ⟨(ow hw 9 rfl), (ow hw 162 rfl)⟩)
  obtain ⟨wF, ev_wF, S_wF, E_wF⟩ := own_sta nn33 (Or.inr ⟨(ow hw 9 rfl), (ow hw 164 rfl)⟩)
  obtain ⟨wE, ev_wE, S_wE, E_wE⟩ := own_sta nn35 (Or.inr ⟨(ow hw 9 rfl), (ow hw 166 rfl)⟩)
  obtain ⟨wO, ev_wO, S_wO, E_wO⟩ := own_sta (Cond.before_iff.mp (ow hsets 2 rfl)) (Or.inl (ow hsets 1 rfl))
  have F_wA_ordinal := own_fldI ev_wA nn7
  have F_wG_ordinal := own_fldI ev_wG nn9
  have F_wD_ordinal := own_fldI ev_wD nn11
  have F_wU_ordinal := own_fldI ev_wU nn17
  have F_wV_ordinal := own_fldI ev_wV nn19
  have F_wN_ordinal := own_fldI ev_wN nn23
  have F_wB_ordinal := own_fldI ev_wB nn27
  have F_wC_ordinal := own_fldI ev_wC nn31
  have F_wF_ordinal := own_fldI ev_wF nn37
  have F_wE_ordinal := own_fldI ev_wE nn38
  have F_wO_value := own_fldN ev_wO (Cond.before_iff.mp (ow hsets 3 rfl))
  have ne_wA_wG : wA ≠ wG := Fld.ne F_wA_ordinal F_wG_ordinal (by decide)
  have ne_wA_wD : wA ≠ wD := Fld.ne F_wA_ordinal F_wD_ordinal (by decide)
  have ne_wA_wB : wA ≠ wB := Fld.ne F_wA_ordinal F_wB_ordinal (by decide)
  have ne_wA_wC : wA ≠ wC := Fld.ne F_wA_ordinal F_wC_ordinal (by decide)
  have ne_wA_wF : wA ≠ wF := Fld.ne F_wA_ordinal F_wF_ordinal (by decide)
  have ne_wA_wE : wA ≠ wE := Fld.ne F_wA_ordinal F_wE_ordinal (by decide)
  have ne_wG_wD : wG ≠ wD := Fld.ne F_wG_ordinal F_wD_ordinal (by decide)
  have ne_wG_wB : wG ≠ wB := Fld.ne F_wG_ordinal F_wB_ordinal (by decide)
  have ne_wG_wC : wG ≠ wC := Fld.ne F_wG_ordinal F_wC_ordinal (by decide)
  have ne_wG_wF : wG ≠ wF := Fld.ne F_wG_ordinal F_wF_ordinal (by decide)
  have ne_wG_wE : wG ≠ wE := Fld.ne F_wG_ordinal F_wE_ordinal (by decide)
  have ne_wD_wB : wD ≠ wB := Fld.ne F_wD_ordinal F_wB_ordinal (by decide)
  have ne_wD_wC : wD ≠ wC := Fld.ne F_wD_ordinal F_wC_ordinal (by decide)
  have ne_wD_wF : wD ≠ wF := Fld.ne F_wD_ordinal F_wF_ordinal (by decide)
  have ne_wD_wE : wD ≠ wE := Fld.ne F_wD_ordinal F_wE_ordinal (by decide)
  have ne_wU_wV : wU ≠ wV := Fld.ne F_wU_ordinal F_wV_ordinal (by decide)
  have ne_wU_wN : wU ≠ wN := Fld.ne F_wU_ordinal F_wN_ordinal (by decide)
  have ne_wV_wN : wV ≠ wN := Fld.ne F_wV_ordinal F_wN_ordinal (by decide)
  have ne_wB_wC : wB ≠ wC := Fld.ne F_wB_ordinal F_wC_ordinal (by decide)
  have ne_wB_wF : wB ≠ wF := Fld.ne F_wB_ordinal F_wF_ordinal (by decide)
  have ne_wB_wE : wB ≠ wE := Fld.ne F_wB_ordinal F_wE_ordinal (by decide)
  have ne_wC_wF : wC ≠ wF := Fld.ne F_wC_ordinal F_wF_ordinal (by decide)
  have ne_wC_wE : wC ≠ wE := Fld.ne F_wC_ordinal F_wE_ordinal (by decide)
  have ne_wF_wE : wF ≠ wE := Fld.ne F_wF_ordinal F_wE_ordinal (by decide)
  obtain ⟨k_1, L_1⟩ := own_lam (x := ox1) (pc := 11) (index := 48) (σ := oL1) (ow hw 78 rfl) (by decide)
  obtain ⟨k_2, L_2⟩ := own_lam (x := ox2) (pc := 47) (index := 66) (σ := oL2) (ow hw 107 rfl) (by decide)
  have hS : St0 s wA wD wG wU wV wN wB wC wF wE wO k_1 k_2 := ⟨S_wA, E_wA, S_wD, E_wD, S_wG, E_wG, S_wU, E_wU, S_wV, E_wV, S_wN, E_wN, S_wB, E_wB, S_wC, E_wC, S_wF, E_wF, S_wE, E_wE, S_wO, E_wO, F_wA_ordinal, F_wG_ordinal, F_wD_ordinal, F_wU_ordinal, F_wV_ordinal, F_wN_ordinal, F_wB_ordinal, F_wC_ordinal, F_wF_ordinal, F_wE_ordinal, F_wO_value, L_1, L_2, ne_wA_wG, ne_wA_wD, ne_wA_wB, ne_wA_wC, ne_wA_wF, ne_wA_wE, ne_wG_wD, ne_wG_wB, ne_wG_wC, ne_wG_wF, ne_wG_wE, ne_wD_wB, ne_wD_wC, ne_wD_wF, ne_wD_wE, ne_wU_wV, ne_wU_wN, ne_wV_wN, ne_wB_wC, ne_wB_wF, ne_wB_wE, ne_wC_wF, ne_wC_wE, ne_wF_wE⟩
  obtain ⟨n, o, h1, h2, h3, _, L, rfl, ⟨rfl, N⟩, -, hq⟩ := rm0 l s _ hw tables_1 wA wD wG wU wV wN wB wC wF wE wO k_1 k_2 i0 i1 i2 s.heap s.heap.size (Old.start s) hS p e ha hc hk s m _ below hf ((Spec.applies_iff_loose hf).mp happ).1 ⟨rfl, State.Warmed39.refl s, rfl, (own_chv (Z := s) (h := s.heap) (vm := s.vm))⟩ trivial
  refine ⟨n, _, h1, h2, h3, hpost _ _ _ _ _ _ ⟨Cond.after_iff.mpr rfl, Cond.after_iff.mpr (eq_i res_at (Term.int_eval (1)) rfl), trivial⟩ ⟨hq.1, hq.2.1, hq.2.2.1, (hq.2.2.2.sift fun y hy => Or.inr (N y hy)).mono (by decide) (by decide)⟩⟩
theorem main_1_1 : Claimed_1_1 := comes_1 fun _ _ _ _ _ _ h hF => ⟨h.1, hF⟩
theorem main_1_2 : Claimed_1_2 := comes_1 fun _ _ _ _ _ _ h hF => ⟨h.2.1, hF⟩
end Jvm.Pilot.@@N@@
namespace Jvm.Pilot.@@N@@
open Jvm Jvm.ClassFile Sem Op Lib Jvm.Free Jvm.Stand Jvm.Pilot.@@N@@.Jvm.D
/-! MADE BY PROGRAM (witnessworld.py) out of the Statement's table words and the real class files: 24 classes; the members and pool entries that the words name. The judged class is class 1, her method 3. -/
namespace start1
open Jvm.ClassFile
def u (s : String) : CpInfo := .utf8 (stringToUtf16 s)
/-- a pool by its gaps: so many unusable entries, then the entry; so many at the end -/
def gap : Nat → List CpInfo → List CpInfo
  | 0, r => r
  | n + 1, r => .unusable :: gap n r
def poolList (es : List (Nat × CpInfo)) (last : Nat) : List CpInfo := es.foldr (fun e r => gap e.1 (e.2 :: r)) (gap last [])
def pool (es : List (Nat × CpInfo)) (last : Nat) : Array CpInfo := ⟨poolList es last⟩
def fileOf (pool : Array CpInfo) (this : Nat) (attrs : Array Attribute := #[]) (ms : Array MethodInfo := #[]) (fl : Nat := 33) (sup : Nat := 0) (ifs : Array Nat := #[]) (fds : Array FieldInfo := #[]) : ClassFile where
  minorVersion := 0
  majorVersion := 65
  constantPool := pool
  accessFlags := fl
  thisClass := this
  superClass := sup
  interfaces := ifs
  fields := fds
  methods := ms
  attributes := attrs
def plain (name : String) (sup : Option ClassId) : Class where
  name := name
  kind := .ordinary
  loader := none
  accessFlags := 33
  super := sup
  interfaces := #[]
  cf := none
  fields := #[]
  methods := #[]
  instanceTypes := #[]
  staticTypes := #[]
  resolved := #[]
  callSites := []
  init := .initialized
  statics := none
  mirror := none

def pool0 : Array CpInfo := pool [(5, u "<init>"), (0, u "()V"), (1, .class_ 10), (1, u "java/lang/Object")] 113

def k0c0 : Code := { maxStack := 0, maxLocals := 1, code := object_method_1_code, exceptionTable := #[], attributes := #[] }
def k0m0 : Method := { name := "<init>", desc := "()V", sig := { parameters := [], returnType := none }, accessFlags := 1, code := some k0c0 }
/-- java/lang/Object -/
def k0 : Class := { plain "java/lang/Object" none with
  accessFlags := 33
  interfaces := #[]
  cf := some (fileOf pool0 8 #[] #[{ accessFlags := 1, nameIndex := 5, descriptorIndex := 6, attributes := #[] }] 33 0 #[] #[])
  fields := #[]
  methods := #[k0m0]
  instanceTypes := #[]
  staticTypes := #[]
  resolved := Array.replicate 124 none
  statics := none }

def pool1 : Array CpInfo := pool [(2, .class_ 4), (1, u "java/lang/Object"), (0, u "<init>"), (0, u "()V"), (0, .fieldref 8 9), (0, .class_ 10), (0, .nameAndType 11 12), (0, u "com/example/vorgang/vorgang/model/Policy"), (0, u "Required"), (0, u "Lcom/example/vorgang/vorgang/model/Policy;"), (0, .fieldref 8 14), (0, .nameAndType 15 12), (0, u "RequiresNew"), (0, .fieldref 8 17), (0, .nameAndType 18 12), (0, u "Supports"), (0, .fieldref 8 20), (0, .nameAndType 21 12), (0, u "NotSupported"), (0, .fieldref 8 23), (0, .nameAndType 24 12), (0, u "Mandatory"), (0, .fieldref 8 26), (0, .nameAndType 27 12), (0, u "Never"), (0, .fieldref 8 29), (0, .nameAndType 30 12), (0, u "BeanManaged"), (0, .integer 2147483647), (0, .class_ 33), (0, u "com/example/vorgang/vorgang/model/CallPolicy"), (0, .methodref 35 36), (0, .class_ 37), (0, .nameAndType 38 39), (0, u "com/example/vorgang/vorgang/model/CallPolicyDispatchPinLaw"), (0, u "policy"), (0, u "(I)Lcom/example/vorgang/vorgang/model/Policy;"), (0, .methodref 32 41), (0, .nameAndType 5 42), (0, u "(Lcom/example/vorgang/vorgang/model/Policy;Lcom/example/vorgang/vorgang/model/Policy;)V"), (0, .methodref 32 44), (0, .nameAndType 45 46), (0, u "dispatch"), (0, u "(ZZ)Ljava/util/Optional;"), (0, .methodref 35 48), (0, .nameAndType 49 50), (0, u "rule"), (0, u "(IZ)I"), (0, .methodref 52 53), (0, .class_ 54), (0, .nameAndType 55 56), (0, u "java/util/Optional"), (0, u "isPresent"), (0, u "()Z"), (0, .methodref 52 58), (0, .nameAndType 59 60), (0, u "get"), (0, u "()Ljava/lang/Object;"), (0, .class_ 62), (0, u "com/example/vorgang/vorgang/model/CallContexts"), (0, .methodref 61 64), (0, .nameAndType 65 66), (0, u "session"), (0, u "()Lcom/example/vorgang/vorgang/model/ContextUse;"), (0, .methodref 68 69), (0, .class_ 70), (0, .nameAndType 71 72), (0, u "com/example/vorgang/vorgang/model/ContextUse"), (0, u "ordinal"), (0, u "()I"), (0, .methodref 61 74), (0, .nameAndType 75 66), (0, u "transaction"), (3, u "law"), (0, u "(III)Z")] 2

def k1m0 : Method := { name := "<init>", desc := "()V", sig := { parameters := [], returnType := none }, accessFlags := 1, code := none }
def k1c1 : Code := { maxStack := 2, maxLocals := 1, code := method_2_code, exceptionTable := #[], attributes := #[] }
def k1m1 : Method := { name := "policy", desc := "(I)Lcom/example/vorgang/vorgang/model/Policy;", sig := { parameters := [.int], returnType := some (.object "com/example/vorgang/vorgang/model/Policy") }, accessFlags := 10, code := some k1c1 }
def k1c2 : Code := { maxStack := 2, maxLocals := 2, code := method_3_code, exceptionTable := #[], attributes := #[] }
def k1m2 : Method := { name := "rule", desc := "(IZ)I", sig := { parameters := [.int, .boolean], returnType := some .int }, accessFlags := 10, code := some k1c2 }
def k1c3 : Code := { maxStack := 4, maxLocals := 13, code := code, exceptionTable := #[], attributes := #[] }
def k1m3 : Method := { name := "law", desc := "(III)Z", sig := { parameters := [.int, .int, .int], returnType := some .boolean }, accessFlags := 9, code := some k1c3 }
/-- com/example/vorgang/vorgang/model/CallPolicyDispatchPinLaw -/
def k1 : Class := { plain "com/example/vorgang/vorgang/model/CallPolicyDispatchPinLaw" (some 0) with
  accessFlags := 49
  interfaces := #[]
  cf := some (fileOf pool1 35 #[] #[{ accessFlags := 1, nameIndex := 5, descriptorIndex := 6, attributes := #[] }, { accessFlags := 10, nameIndex := 38, descriptorIndex := 39, attributes := #[] }, { accessFlags := 10, nameIndex := 49, descriptorIndex := 50, attributes := #[] }, { accessFlags := 9, nameIndex := 79, descriptorIndex := 80, attributes := #[] }] 49 2 #[] #[])
  fields := #[]
  methods := #[k1m0, k1m1, k1m2, k1m3]
  instanceTypes := #[]
  staticTypes := #[]
  resolved := Array.replicate 83 none
  statics := none }

def pool2 : Array CpInfo := pool [(1, .methodref 2 3), (0, .class_ 4), (0, .nameAndType 5 6), (0, u "java/lang/Object"), (0, u "<init>"), (0, u "()V"), (0, .class_ 8), (0, u "java/lang/Record")] 13

def k2c0 : Code := { maxStack := 1, maxLocals := 1, code := jdk_30_method_1_code, exceptionTable := #[], attributes := #[] }
def k2m0 : Method := { name := "<init>", desc := "()V", sig := { parameters := [], returnType := none }, accessFlags := 4, code := some k2c0 }
/-- java/lang/Record -/
def k2 : Class := { plain "java/lang/Record" (some 0) with
  accessFlags := 1057
  interfaces := #[]
  cf := some (fileOf pool2 7 #[] #[{ accessFlags := 4, nameIndex := 5, descriptorIndex := 6, attributes := #[] }] 1057 2 #[] #[])
  fields := #[]
  methods := #[k2m0]
  instanceTypes := #[]
  staticTypes := #[]
  resolved := Array.replicate 22 none
  statics := none }

def pool3 : Array CpInfo := pool [(1, .methodref 2 3), (0, .class_ 4), (0, .nameAndType 5 6), (0, u "java/lang/Record"), (0, u "<init>"), (0, u "()V"), (0, .string 8), (0, u "sessionKind"), (0, .methodref 10 11), (0, .class_ 12), (0, .nameAndType 13 14), (0, u "java/util/Objects"), (0, u "requireNonNull"), (0, u "(Ljava/lang/Object;Ljava/lang/String;)Ljava/lang/Object;"), (0, .string 16), (0, u "transactionType"), (0, .fieldref 18 19), (0, .class_ 20), (0, .nameAndType 21 22), (0, u "com/example/vorgang/vorgang/model/Policy"), (0, u "BeanManaged"), (0, u "Lcom/example/vorgang/vorgang/model/Policy;"), (15, .fieldref 39 40), (0, .class_ 41), (0, .nameAndType 8 22), (0, u "com/example/vorgang/vorgang/model/CallPolicy"), (0, .fieldref 39 43), (0, .nameAndType 16 22), (0, .methodref 18 45), (0, .nameAndType 46 47), (0, u "apply"), (0, u "(Z)Ljava/util/Optional;"), (0, .invokeDynamic 1 49), (0, .nameAndType 46 50), (0, u "(Lcom/example/vorgang/vorgang/model/CallPolicy;ZZ)Ljava/util/function/Function;"), (0, .methodref 52 53), (0, .class_ 54), (0, .nameAndType 55 56), (0, u "java/util/Optional"), (0, u "flatMap"), (0, u "(Ljava/util/function/Function;)Ljava/util/Optional;"), (0, .fieldref 58 59), (0, .class_ 60), (0, .nameAndType 61 62), (0, u "com/example/vorgang/vorgang/model/ContextUse"), (0, u "RECEIVED"), (0, u "Lcom/example/vorgang/vorgang/model/ContextUse;"), (0, .fieldref 58 64), (0, .nameAndType 65 62), (0, u "NONE"), (0, .invokeDynamic 2 67), (0, .nameAndType 46 68), (0, u "(Lcom/example/vorgang/vorgang/model/ContextUse;)Ljava/util/function/Function;"), (0, .methodref 52 70), (0, .nameAndType 71 56), (0, u "map"), (0, .class_ 73), (0, u "com/example/vorgang/vorgang/model/CallContexts"), (0, .methodref 72 75), (0, .nameAndType 5 76), (0, u "(Lcom/example/vorgang/vorgang/model/ContextUse;Lcom/example/vorgang/vorgang/model/ContextUse;)V"), (12, u "(Lcom/example/vorgang/vorgang/model/Policy;Lcom/example/vorgang/vorgang/model/Policy;)V"), (4, u "dispatch"), (0, u "(ZZ)Ljava/util/Optional;"), (6, u "lambda$dispatch$1"), (0, u "(ZZLcom/example/vorgang/vorgang/model/ContextUse;)Ljava/util/Optional;"), (0, u "lambda$dispatch$0"), (0, u "(Lcom/example/vorgang/vorgang/model/ContextUse;Lcom/example/vorgang/vorgang/model/ContextUse;)Lcom/example/vorgang/vorgang/model/CallContexts;"), (6, .methodType 113), (0, u "(Ljava/lang/Object;)Ljava/lang/Object;"), (0, .methodHandle 5 115), (0, .methodref 39 116), (0, .nameAndType 102 103), (0, .methodType 118), (0, u "(Lcom/example/vorgang/vorgang/model/ContextUse;)Ljava/util/Optional;"), (0, .methodHandle 6 120), (0, .methodref 39 121), (0, .nameAndType 104 105), (0, .methodType 123), (0, u "(Lcom/example/vorgang/vorgang/model/ContextUse;)Lcom/example/vorgang/vorgang/model/CallContexts;"), (10, .methodHandle 6 135), (0, .methodref 136 137), (0, .class_ 138), (0, .nameAndType 139 140), (0, u "java/lang/invoke/LambdaMetafactory"), (0, u "metafactory"), (0, u "(Ljava/lang/invoke/MethodHandles$Lookup;Ljava/lang/String;Ljava/lang/invoke/MethodType;Ljava/lang/invoke/MethodType;Ljava/lang/invoke/MethodHandle;Ljava/lang/invoke/MethodType;)Ljava/lang/invoke/CallSite;")] 13

def k3c0 : Code := { maxStack := 4, maxLocals := 3, code := prog_10_method_1_code, exceptionTable := #[], attributes := #[] }
def k3m0 : Method := { name := "<init>", desc := "(Lcom/example/vorgang/vorgang/model/Policy;Lcom/example/vorgang/vorgang/model/Policy;)V", sig := { parameters := [(.object "com/example/vorgang/vorgang/model/Policy"), (.object "com/example/vorgang/vorgang/model/Policy")], returnType := none }, accessFlags := 1, code := some k3c0 }
def k3c1 : Code := { maxStack := 4, maxLocals := 3, code := prog_10_method_2_code, exceptionTable := #[], attributes := #[] }
def k3m1 : Method := { name := "dispatch", desc := "(ZZ)Ljava/util/Optional;", sig := { parameters := [.boolean, .boolean], returnType := some (.object "java/util/Optional") }, accessFlags := 1, code := some k3c1 }
def k3c2 : Code := { maxStack := 2, maxLocals := 5, code := prog_10_method_8_code, exceptionTable := #[], attributes := #[] }
def k3m2 : Method := { name := "lambda$dispatch$1", desc := "(ZZLcom/example/vorgang/vorgang/model/ContextUse;)Ljava/util/Optional;", sig := { parameters := [.boolean, .boolean, (.object "com/example/vorgang/vorgang/model/ContextUse")], returnType := some (.object "java/util/Optional") }, accessFlags := 4098, code := some k3c2 }
def k3c3 : Code := { maxStack := 4, maxLocals := 2, code := prog_10_method_9_code, exceptionTable := #[], attributes := #[] }
def k3m3 : Method := { name := "lambda$dispatch$0", desc := "(Lcom/example/vorgang/vorgang/model/ContextUse;Lcom/example/vorgang/vorgang/model/ContextUse;)Lcom/example/vorgang/vorgang/model/CallContexts;", sig := { parameters := [(.object "com/example/vorgang/vorgang/model/ContextUse"), (.object "com/example/vorgang/vorgang/model/ContextUse")], returnType := some (.object "com/example/vorgang/vorgang/model/CallContexts") }, accessFlags := 4106, code := some k3c3 }
/-- com/example/vorgang/vorgang/model/CallPolicy -/
def k3 : Class := { plain "com/example/vorgang/vorgang/model/CallPolicy" (some 2) with
  accessFlags := 49
  interfaces := #[]
  cf := some (fileOf pool3 39 #[.bootstrapMethods #[⟨0, #[]⟩, ⟨134, #[112, 114, 117]⟩, ⟨134, #[112, 119, 122]⟩, ⟨0, #[]⟩]] #[{ accessFlags := 1, nameIndex := 5, descriptorIndex := 89, attributes := #[] }, { accessFlags := 1, nameIndex := 94, descriptorIndex := 95, attributes := #[] }, { accessFlags := 4098, nameIndex := 102, descriptorIndex := 103, attributes := #[] }, { accessFlags := 4106, nameIndex := 104, descriptorIndex := 105, attributes := #[] }] 49 2 #[] #[{ accessFlags := 18, nameIndex := 8, descriptorIndex := 22, attributes := #[] }, { accessFlags := 18, nameIndex := 16, descriptorIndex := 22, attributes := #[] }])
  fields := #[{ name := "sessionKind", type := (.object "com/example/vorgang/vorgang/model/Policy"), accessFlags := 18, slot := 0, constantValue := 0 }, { name := "transactionType", type := (.object "com/example/vorgang/vorgang/model/Policy"), accessFlags := 18, slot := 1, constantValue := 0 }]
  methods := #[k3m0, k3m1, k3m2, k3m3]
  instanceTypes := #[(.object "com/example/vorgang/vorgang/model/Policy"), (.object "com/example/vorgang/vorgang/model/Policy")]
  staticTypes := #[]
  resolved := Array.replicate 154 none
  callSites := [(1, 11, .makes 22), (2, 47, .makes 23)]
  statics := none }

def pool4 : Array CpInfo := pool [(1, .class_ 2), (0, u "java/lang/constant/Constable"), (0, .class_ 4), (0, u "java/lang/Object")] 6

/-- java/lang/constant/Constable -/
def k4 : Class := { plain "java/lang/constant/Constable" (some 0) with
  accessFlags := 1537
  interfaces := #[]
  cf := some (fileOf pool4 1 #[] #[] 1537 3 #[] #[])
  fields := #[]
  methods := #[]
  instanceTypes := #[]
  staticTypes := #[]
  resolved := Array.replicate 11 none
  statics := none }

def pool5 : Array CpInfo := pool [(1, .class_ 2), (0, u "java/lang/Comparable"), (0, .class_ 4), (0, u "java/lang/Object")] 7

/-- java/lang/Comparable -/
def k5 : Class := { plain "java/lang/Comparable" (some 0) with
  accessFlags := 1537
  interfaces := #[]
  cf := some (fileOf pool5 1 #[] #[] 1537 3 #[] #[])
  fields := #[]
  methods := #[]
  instanceTypes := #[]
  staticTypes := #[]
  resolved := Array.replicate 12 none
  statics := none }

def pool6 : Array CpInfo := pool [(1, .class_ 2), (0, u "java/io/Serializable"), (0, .class_ 4), (0, u "java/lang/Object")] 2

/-- java/io/Serializable -/
def k6 : Class := { plain "java/io/Serializable" (some 0) with
  accessFlags := 1537
  interfaces := #[]
  cf := some (fileOf pool6 1 #[] #[] 1537 3 #[] #[])
  fields := #[]
  methods := #[]
  instanceTypes := #[]
  staticTypes := #[]
  resolved := Array.replicate 7 none
  statics := none }

def pool7 : Array CpInfo := pool [(2, .class_ 4), (1, u "java/lang/Enum"), (0, u "name"), (0, u "Ljava/lang/String;"), (0, .fieldref 2 8), (0, .nameAndType 9 10), (0, u "ordinal"), (0, u "I"), (1, .class_ 14), (1, u "java/lang/Object"), (4, u "hash"), (86, .class_ 108), (1, u "java/lang/Enum$EnumDesc"), (2, .class_ 112), (0, u "java/lang/constant/Constable"), (0, .class_ 114), (0, u "java/lang/Comparable"), (0, .class_ 116), (0, u "java/io/Serializable"), (9, u "()I")] 77

def k7c0 : Code := { maxStack := 1, maxLocals := 1, code := jdk_37_method_2_code, exceptionTable := #[], attributes := #[] }
def k7m0 : Method := { name := "ordinal", desc := "()I", sig := { parameters := [], returnType := some .int }, accessFlags := 17, code := some k7c0 }
/-- java/lang/Enum -/
def k7 : Class := { plain "java/lang/Enum" (some 0) with
  accessFlags := 1057
  interfaces := #[4, 5, 6]
  cf := some (fileOf pool7 2 #[.nestMembers #[106]] #[{ accessFlags := 17, nameIndex := 9, descriptorIndex := 126, attributes := #[] }] 1057 12 #[111, 113, 115] #[{ accessFlags := 18, nameIndex := 5, descriptorIndex := 6, attributes := #[] }, { accessFlags := 18, nameIndex := 9, descriptorIndex := 10, attributes := #[] }, { accessFlags := 2, nameIndex := 19, descriptorIndex := 10, attributes := #[] }])
  fields := #[{ name := "name", type := (.object "java/lang/String"), accessFlags := 18, slot := 0, constantValue := 0 }, { name := "ordinal", type := .int, accessFlags := 18, slot := 1, constantValue := 0 }, { name := "hash", type := .int, accessFlags := 2, slot := 2, constantValue := 0 }]
  methods := #[k7m0]
  instanceTypes := #[(.object "java/lang/String"), .int, .int]
  staticTypes := #[]
  resolved := Array.replicate 204 none
  statics := none }

def pool8 : Array CpInfo := pool [(1, .class_ 2), (0, u "com/example/vorgang/vorgang/model/Policy"), (2, u "Required"), (0, u "Lcom/example/vorgang/vorgang/model/Policy;"), (2, u "RequiresNew"), (2, u "Supports"), (2, u "NotSupported"), (2, u "Mandatory"), (2, u "Never"), (2, u "BeanManaged"), (2, u "$VALUES"), (0, u "[Lcom/example/vorgang/vorgang/model/Policy;"), (6, .class_ 37), (1, u "java/lang/Enum"), (6, .methodref 1 45), (0, .nameAndType 46 47), (0, u "ordinal"), (0, u "()I"), (5, .fieldref 54 55), (0, .class_ 56), (0, .nameAndType 57 58), (0, u "com/example/vorgang/vorgang/model/ContextUse"), (0, u "RECEIVED"), (0, u "Lcom/example/vorgang/vorgang/model/ContextUse;"), (0, .fieldref 54 60), (0, .nameAndType 61 58), (0, u "NEW"), (0, .fieldref 54 63), (0, .nameAndType 64 58), (0, u "NONE"), (0, .methodref 66 67), (0, .class_ 68), (0, .nameAndType 69 70), (0, u "java/util/Optional"), (0, u "ofNullable"), (0, u "(Ljava/lang/Object;)Ljava/util/Optional;"), (19, u "apply"), (0, u "(Z)Ljava/util/Optional;")] 6

def k8c0 : Code := { maxStack := 4, maxLocals := 3, code := prog_19_method_4_code, exceptionTable := #[], attributes := #[] }
def k8m0 : Method := { name := "apply", desc := "(Z)Ljava/util/Optional;", sig := { parameters := [.boolean], returnType := some (.object "java/util/Optional") }, accessFlags := 0, code := some k8c0 }
/-- com/example/vorgang/vorgang/model/Policy -/
def k8 : Class := { plain "com/example/vorgang/vorgang/model/Policy" (some 7) with
  accessFlags := 16433
  interfaces := #[]
  cf := some (fileOf pool8 1 #[] #[{ accessFlags := 0, nameIndex := 90, descriptorIndex := 91, attributes := #[] }] 16433 35 #[] #[{ accessFlags := 16409, nameIndex := 5, descriptorIndex := 6, attributes := #[] }, { accessFlags := 16409, nameIndex := 9, descriptorIndex := 6, attributes := #[] }, { accessFlags := 16409, nameIndex := 12, descriptorIndex := 6, attributes := #[] }, { accessFlags := 16409, nameIndex := 15, descriptorIndex := 6, attributes := #[] }, { accessFlags := 16409, nameIndex := 18, descriptorIndex := 6, attributes := #[] }, { accessFlags := 16409, nameIndex := 21, descriptorIndex := 6, attributes := #[] }, { accessFlags := 16409, nameIndex := 24, descriptorIndex := 6, attributes := #[] }, { accessFlags := 4122, nameIndex := 27, descriptorIndex := 28, attributes := #[] }])
  fields := #[{ name := "Required", type := (.object "com/example/vorgang/vorgang/model/Policy"), accessFlags := 16409, slot := 0, constantValue := 0 }, { name := "RequiresNew", type := (.object "com/example/vorgang/vorgang/model/Policy"), accessFlags := 16409, slot := 1, constantValue := 0 }, { name := "Supports", type := (.object "com/example/vorgang/vorgang/model/Policy"), accessFlags := 16409, slot := 2, constantValue := 0 }, { name := "NotSupported", type := (.object "com/example/vorgang/vorgang/model/Policy"), accessFlags := 16409, slot := 3, constantValue := 0 }, { name := "Mandatory", type := (.object "com/example/vorgang/vorgang/model/Policy"), accessFlags := 16409, slot := 4, constantValue := 0 }, { name := "Never", type := (.object "com/example/vorgang/vorgang/model/Policy"), accessFlags := 16409, slot := 5, constantValue := 0 }, { name := "BeanManaged", type := (.object "com/example/vorgang/vorgang/model/Policy"), accessFlags := 16409, slot := 6, constantValue := 0 }, { name := "$VALUES", type := (.array (.object "com/example/vorgang/vorgang/model/Policy")), accessFlags := 4122, slot := 7, constantValue := 0 }]
  methods := #[k8m0]
  instanceTypes := #[(.object "java/lang/String"), .int, .int]
  staticTypes := #[(.object "com/example/vorgang/vorgang/model/Policy"), (.object "com/example/vorgang/vorgang/model/Policy"), (.object "com/example/vorgang/vorgang/model/Policy"), (.object "com/example/vorgang/vorgang/model/Policy"), (.object "com/example/vorgang/vorgang/model/Policy"), (.object "com/example/vorgang/vorgang/model/Policy"), (.object "com/example/vorgang/vorgang/model/Policy"), (.array (.object "com/example/vorgang/vorgang/model/Policy"))]
  resolved := Array.replicate 98 none
  statics := some 0 }

def pool9 : Array CpInfo := pool [(2, .class_ 4), (1, u "java/lang/CharSequence"), (42, .class_ 48), (0, u "java/lang/CharSequence$1CodePointIterator"), (10, .class_ 60), (0, u "java/lang/CharSequence$1CharIterator"), (5, .class_ 67), (0, u "java/lang/Object")] 63

/-- java/lang/CharSequence -/
def k9 : Class := { plain "java/lang/CharSequence" (some 0) with
  accessFlags := 1537
  interfaces := #[]
  cf := some (fileOf pool9 2 #[.nestMembers #[47, 59]] #[] 1537 66 #[] #[])
  fields := #[]
  methods := #[]
  instanceTypes := #[]
  staticTypes := #[]
  resolved := Array.replicate 131 none
  statics := none }

def pool10 : Array CpInfo := pool [(1, .class_ 2), (0, u "java/lang/constant/ConstantDesc"), (0, .class_ 4), (0, u "java/lang/Object")] 32

/-- java/lang/constant/ConstantDesc -/
def k10 : Class := { plain "java/lang/constant/ConstantDesc" (some 0) with
  accessFlags := 1537
  interfaces := #[]
  cf := some (fileOf pool10 1 #[] #[] 1537 3 #[] #[])
  fields := #[]
  methods := #[]
  instanceTypes := #[]
  staticTypes := #[]
  resolved := Array.replicate 37 none
  statics := none }

def pool11 : Array CpInfo := pool [(2, .class_ 4), (1, u "java/lang/Object"), (0, u "<init>"), (0, u "()V"), (3, .class_ 12), (1, u "java/lang/String"), (0, u "value"), (0, u "[B"), (2, u "coder"), (0, u "B"), (2, u "hash"), (0, u "I"), (2, u "hashIsZero"), (0, u "Z"), (13, u "COMPACT_STRINGS"), (534, .class_ 576), (0, u "java/lang/CharSequence"), (22, u "CASE_INSENSITIVE_ORDER"), (0, u "Ljava/util/Comparator;"), (500, u "serialPersistentFields"), (0, u "[Ljava/io/ObjectStreamField;"), (0, .class_ 1104), (0, u "java/lang/String$CaseInsensitiveComparator"), (1, .class_ 1107), (0, u "java/io/Serializable"), (0, .class_ 1109), (0, u "java/lang/Comparable"), (0, .class_ 1111), (0, u "java/lang/constant/Constable"), (0, .class_ 1113), (0, u "java/lang/constant/ConstantDesc"), (2, u "serialVersionUID"), (0, u "J"), (3, u "REPL"), (0, u "C"), (2, u "LATIN1"), (1, u "UTF16")] 323

def k11m0 : Method := { name := "<init>", desc := "()V", sig := { parameters := [], returnType := none }, accessFlags := 1, code := none }
/-- java/lang/String -/
def k11 : Class := { plain "java/lang/String" (some 0) with
  accessFlags := 49
  interfaces := #[6, 5, 9, 4, 10]
  cf := some (fileOf pool11 10 #[.nestMembers #[1103]] #[{ accessFlags := 1, nameIndex := 5, descriptorIndex := 6, attributes := #[] }] 49 2 #[1106, 1108, 575, 1110, 1112] #[{ accessFlags := 18, nameIndex := 13, descriptorIndex := 14, attributes := #[] }, { accessFlags := 18, nameIndex := 17, descriptorIndex := 18, attributes := #[] }, { accessFlags := 2, nameIndex := 21, descriptorIndex := 22, attributes := #[] }, { accessFlags := 2, nameIndex := 25, descriptorIndex := 26, attributes := #[] }, { accessFlags := 26, nameIndex := 1116, descriptorIndex := 1117, attributes := #[] }, { accessFlags := 24, nameIndex := 40, descriptorIndex := 26, attributes := #[] }, { accessFlags := 26, nameIndex := 1101, descriptorIndex := 1102, attributes := #[] }, { accessFlags := 26, nameIndex := 1121, descriptorIndex := 1122, attributes := #[] }, { accessFlags := 25, nameIndex := 599, descriptorIndex := 600, attributes := #[] }, { accessFlags := 24, nameIndex := 1125, descriptorIndex := 18, attributes := #[] }, { accessFlags := 24, nameIndex := 1127, descriptorIndex := 18, attributes := #[] }])
  fields := #[{ name := "value", type := (.array .byte), accessFlags := 18, slot := 0, constantValue := 0 }, { name := "coder", type := .byte, accessFlags := 18, slot := 1, constantValue := 0 }, { name := "hash", type := .int, accessFlags := 2, slot := 2, constantValue := 0 }, { name := "hashIsZero", type := .boolean, accessFlags := 2, slot := 3, constantValue := 0 }, { name := "serialVersionUID", type := .long, accessFlags := 26, slot := 0, constantValue := 0 }, { name := "COMPACT_STRINGS", type := .boolean, accessFlags := 24, slot := 1, constantValue := 0 }, { name := "serialPersistentFields", type := (.array (.object "java/io/ObjectStreamField")), accessFlags := 26, slot := 2, constantValue := 0 }, { name := "REPL", type := .char, accessFlags := 26, slot := 3, constantValue := 0 }, { name := "CASE_INSENSITIVE_ORDER", type := (.object "java/util/Comparator"), accessFlags := 25, slot := 4, constantValue := 0 }, { name := "LATIN1", type := .byte, accessFlags := 24, slot := 5, constantValue := 0 }, { name := "UTF16", type := .byte, accessFlags := 24, slot := 6, constantValue := 0 }]
  methods := #[k11m0]
  instanceTypes := #[(.array .byte), .byte, .int, .boolean]
  staticTypes := #[.long, .boolean, (.array (.object "java/io/ObjectStreamField")), .char, (.object "java/util/Comparator"), .byte, .byte]
  resolved := Array.replicate 1451 none
  statics := none }

def pool12 : Array CpInfo := pool [(2, .class_ 4), (1, u "java/lang/Object"), (0, u "<init>"), (0, u "()V"), (35, .class_ 44), (1, u "java/util/Objects"), (0, u "requireNonNull"), (0, u "(Ljava/lang/Object;)Ljava/lang/Object;"), (47, u "(Ljava/lang/Object;Ljava/lang/String;)Ljava/lang/Object;")] 89

def k12m0 : Method := { name := "<init>", desc := "()V", sig := { parameters := [], returnType := none }, accessFlags := 2, code := none }
def k12c1 : Code := { maxStack := 2, maxLocals := 1, code := jdk_31_method_10_code, exceptionTable := #[], attributes := #[] }
def k12m1 : Method := { name := "requireNonNull", desc := "(Ljava/lang/Object;)Ljava/lang/Object;", sig := { parameters := [(.object "java/lang/Object")], returnType := some (.object "java/lang/Object") }, accessFlags := 9, code := some k12c1 }
def k12c2 : Code := { maxStack := 3, maxLocals := 2, code := jdk_31_method_11_code, exceptionTable := #[], attributes := #[] }
def k12m2 : Method := { name := "requireNonNull", desc := "(Ljava/lang/Object;Ljava/lang/String;)Ljava/lang/Object;", sig := { parameters := [(.object "java/lang/Object"), (.object "java/lang/String")], returnType := some (.object "java/lang/Object") }, accessFlags := 9, code := some k12c2 }
/-- java/util/Objects -/
def k12 : Class := { plain "java/util/Objects" (some 0) with
  accessFlags := 49
  interfaces := #[]
  cf := some (fileOf pool12 42 #[] #[{ accessFlags := 2, nameIndex := 5, descriptorIndex := 6, attributes := #[] }, { accessFlags := 9, nameIndex := 45, descriptorIndex := 46, attributes := #[] }, { accessFlags := 9, nameIndex := 45, descriptorIndex := 94, attributes := #[] }] 49 2 #[] #[])
  fields := #[]
  methods := #[k12m0, k12m1, k12m2]
  instanceTypes := #[]
  staticTypes := #[]
  resolved := Array.replicate 184 none
  statics := none }

def pool13 : Array CpInfo := pool [(1, .class_ 2), (0, u "com/example/vorgang/vorgang/model/ContextUse"), (2, u "NONE"), (0, u "Lcom/example/vorgang/vorgang/model/ContextUse;"), (2, u "RECEIVED"), (2, u "NEW"), (2, u "$VALUES"), (0, u "[Lcom/example/vorgang/vorgang/model/ContextUse;"), (6, .class_ 25), (1, u "java/lang/Enum")] 25

/-- com/example/vorgang/vorgang/model/ContextUse -/
def k13 : Class := { plain "com/example/vorgang/vorgang/model/ContextUse" (some 7) with
  accessFlags := 16433
  interfaces := #[]
  cf := some (fileOf pool13 1 #[] #[] 16433 23 #[] #[{ accessFlags := 16409, nameIndex := 5, descriptorIndex := 6, attributes := #[] }, { accessFlags := 16409, nameIndex := 9, descriptorIndex := 6, attributes := #[] }, { accessFlags := 16409, nameIndex := 12, descriptorIndex := 6, attributes := #[] }, { accessFlags := 4122, nameIndex := 15, descriptorIndex := 16, attributes := #[] }])
  fields := #[{ name := "NONE", type := (.object "com/example/vorgang/vorgang/model/ContextUse"), accessFlags := 16409, slot := 0, constantValue := 0 }, { name := "RECEIVED", type := (.object "com/example/vorgang/vorgang/model/ContextUse"), accessFlags := 16409, slot := 1, constantValue := 0 }, { name := "NEW", type := (.object "com/example/vorgang/vorgang/model/ContextUse"), accessFlags := 16409, slot := 2, constantValue := 0 }, { name := "$VALUES", type := (.array (.object "com/example/vorgang/vorgang/model/ContextUse")), accessFlags := 4122, slot := 3, constantValue := 0 }]
  methods := #[]
  instanceTypes := #[(.object "java/lang/String"), .int, .int]
  staticTypes := #[(.object "com/example/vorgang/vorgang/model/ContextUse"), (.object "com/example/vorgang/vorgang/model/ContextUse"), (.object "com/example/vorgang/vorgang/model/ContextUse"), (.array (.object "com/example/vorgang/vorgang/model/ContextUse"))]
  resolved := Array.replicate 51 none
  statics := some 1 }

def pool14 : Array CpInfo := pool [(1, .fieldref 2 3), (0, .class_ 4), (0, .nameAndType 5 6), (0, u "java/util/Optional"), (0, u "EMPTY"), (0, u "Ljava/util/Optional;"), (0, .methodref 8 9), (0, .class_ 10), (0, .nameAndType 11 12), (0, u "java/lang/Object"), (0, u "<init>"), (0, u "()V"), (0, .fieldref 2 14), (0, .nameAndType 15 16), (0, u "value"), (0, u "Ljava/lang/Object;"), (0, .methodref 18 19), (0, .class_ 20), (0, .nameAndType 21 22), (0, u "java/util/Objects"), (0, u "requireNonNull"), (0, u "(Ljava/lang/Object;)Ljava/lang/Object;"), (0, .methodref 2 24), (0, .nameAndType 11 25), (0, u "(Ljava/lang/Object;)V"), (17, .methodref 2 44), (0, .nameAndType 45 46), (0, u "isEmpty"), (0, u "()Z"), (6, .methodref 2 54), (0, .nameAndType 55 56), (0, u "empty"), (0, u "()Ljava/util/Optional;"), (0, .interfaceMethodref 58 59), (0, .class_ 60), (0, .nameAndType 61 22), (0, u "java/util/function/Function"), (0, u "apply"), (0, .methodref 2 63), (0, .nameAndType 64 65), (0, u "ofNullable"), (0, u "(Ljava/lang/Object;)Ljava/util/Optional;"), (2, u "isPresent"), (4, u "get"), (0, u "()Ljava/lang/Object;"), (71, u "map"), (0, u "(Ljava/util/function/Function;)Ljava/util/Optional;"), (4, u "flatMap")] 34

def k14c0 : Code := { maxStack := 1, maxLocals := 1, code := jdk_32_method_1_code, exceptionTable := #[], attributes := #[] }
def k14m0 : Method := { name := "empty", desc := "()Ljava/util/Optional;", sig := { parameters := [], returnType := some (.object "java/util/Optional") }, accessFlags := 9, code := some k14c0 }
def k14c1 : Code := { maxStack := 2, maxLocals := 2, code := jdk_32_method_2_code, exceptionTable := #[], attributes := #[] }
def k14m1 : Method := { name := "<init>", desc := "(Ljava/lang/Object;)V", sig := { parameters := [(.object "java/lang/Object")], returnType := none }, accessFlags := 2, code := some k14c1 }
def k14c2 : Code := { maxStack := 3, maxLocals := 1, code := jdk_32_method_4_code, exceptionTable := #[], attributes := #[] }
def k14m2 : Method := { name := "ofNullable", desc := "(Ljava/lang/Object;)Ljava/util/Optional;", sig := { parameters := [(.object "java/lang/Object")], returnType := some (.object "java/util/Optional") }, accessFlags := 9, code := some k14c2 }
def k14c3 : Code := { maxStack := 3, maxLocals := 1, code := jdk_32_method_5_code, exceptionTable := #[], attributes := #[] }
def k14m3 : Method := { name := "get", desc := "()Ljava/lang/Object;", sig := { parameters := [], returnType := some (.object "java/lang/Object") }, accessFlags := 1, code := some k14c3 }
def k14c4 : Code := { maxStack := 1, maxLocals := 1, code := jdk_32_method_6_code, exceptionTable := #[], attributes := #[] }
def k14m4 : Method := { name := "isPresent", desc := "()Z", sig := { parameters := [], returnType := some .boolean }, accessFlags := 1, code := some k14c4 }
def k14c5 : Code := { maxStack := 1, maxLocals := 1, code := jdk_32_method_7_code, exceptionTable := #[], attributes := #[] }
def k14m5 : Method := { name := "isEmpty", desc := "()Z", sig := { parameters := [], returnType := some .boolean }, accessFlags := 1, code := some k14c5 }
def k14c6 : Code := { maxStack := 2, maxLocals := 2, code := jdk_32_method_11_code, exceptionTable := #[], attributes := #[] }
def k14m6 : Method := { name := "map", desc := "(Ljava/util/function/Function;)Ljava/util/Optional;", sig := { parameters := [(.object "java/util/function/Function")], returnType := some (.object "java/util/Optional") }, accessFlags := 1, code := some k14c6 }
def k14c7 : Code := { maxStack := 2, maxLocals := 3, code := jdk_32_method_12_code, exceptionTable := #[], attributes := #[] }
def k14m7 : Method := { name := "flatMap", desc := "(Ljava/util/function/Function;)Ljava/util/Optional;", sig := { parameters := [(.object "java/util/function/Function")], returnType := some (.object "java/util/Optional") }, accessFlags := 1, code := some k14c7 }
/-- java/util/Optional -/
def k14 : Class := { plain "java/util/Optional" (some 0) with
  accessFlags := 49
  interfaces := #[]
  cf := some (fileOf pool14 2 #[] #[{ accessFlags := 9, nameIndex := 55, descriptorIndex := 56, attributes := #[] }, { accessFlags := 2, nameIndex := 11, descriptorIndex := 25, attributes := #[] }, { accessFlags := 9, nameIndex := 64, descriptorIndex := 65, attributes := #[] }, { accessFlags := 1, nameIndex := 73, descriptorIndex := 74, attributes := #[] }, { accessFlags := 1, nameIndex := 68, descriptorIndex := 46, attributes := #[] }, { accessFlags := 1, nameIndex := 45, descriptorIndex := 46, attributes := #[] }, { accessFlags := 1, nameIndex := 146, descriptorIndex := 147, attributes := #[] }, { accessFlags := 1, nameIndex := 152, descriptorIndex := 147, attributes := #[] }] 49 8 #[] #[{ accessFlags := 26, nameIndex := 5, descriptorIndex := 6, attributes := #[] }, { accessFlags := 18, nameIndex := 15, descriptorIndex := 16, attributes := #[] }])
  fields := #[{ name := "EMPTY", type := (.object "java/util/Optional"), accessFlags := 26, slot := 0, constantValue := 0 }, { name := "value", type := (.object "java/lang/Object"), accessFlags := 18, slot := 0, constantValue := 0 }]
  methods := #[k14m0, k14m1, k14m2, k14m3, k14m4, k14m5, k14m6, k14m7]
  instanceTypes := #[(.object "java/lang/Object")]
  staticTypes := #[(.object "java/util/Optional")]
  resolved := Array.replicate 187 none
  statics := some 2 }

def pool15 : Array CpInfo := pool [(6, u "(Ljava/lang/Object;)Ljava/lang/Object;"), (2, u "apply"), (6, .class_ 18), (1, u "java/util/function/Function"), (0, .class_ 20), (0, u "java/lang/Object")] 56

def k15m0 : Method := { name := "apply", desc := "(Ljava/lang/Object;)Ljava/lang/Object;", sig := { parameters := [(.object "java/lang/Object")], returnType := some (.object "java/lang/Object") }, accessFlags := 1025, code := none }
/-- java/util/function/Function -/
def k15 : Class := { plain "java/util/function/Function" (some 0) with
  accessFlags := 1537
  interfaces := #[]
  cf := some (fileOf pool15 16 #[] #[{ accessFlags := 1025, nameIndex := 9, descriptorIndex := 6, attributes := #[] }] 1537 19 #[] #[])
  fields := #[]
  methods := #[k15m0]
  instanceTypes := #[]
  staticTypes := #[]
  resolved := Array.replicate 77 none
  statics := none }

def pool16 : Array CpInfo := pool [(1, .methodref 2 3), (0, .class_ 4), (0, .nameAndType 5 6), (0, u "java/lang/Record"), (0, u "<init>"), (0, u "()V"), (0, .string 8), (0, u "session"), (0, .methodref 10 11), (0, .class_ 12), (0, .nameAndType 13 14), (0, u "java/util/Objects"), (0, u "requireNonNull"), (0, u "(Ljava/lang/Object;Ljava/lang/String;)Ljava/lang/Object;"), (0, .string 16), (0, u "transaction"), (0, .fieldref 18 19), (0, .class_ 20), (0, .nameAndType 8 21), (0, u "com/example/vorgang/vorgang/model/CallContexts"), (0, u "Lcom/example/vorgang/vorgang/model/ContextUse;"), (0, .fieldref 18 23), (0, .nameAndType 16 21), (12, u "(Lcom/example/vorgang/vorgang/model/ContextUse;Lcom/example/vorgang/vorgang/model/ContextUse;)V"), (6, u "()Lcom/example/vorgang/vorgang/model/ContextUse;")] 21

def k16c0 : Code := { maxStack := 2, maxLocals := 3, code := prog_9_method_1_code, exceptionTable := #[], attributes := #[] }
def k16m0 : Method := { name := "<init>", desc := "(Lcom/example/vorgang/vorgang/model/ContextUse;Lcom/example/vorgang/vorgang/model/ContextUse;)V", sig := { parameters := [(.object "com/example/vorgang/vorgang/model/ContextUse"), (.object "com/example/vorgang/vorgang/model/ContextUse")], returnType := none }, accessFlags := 1, code := some k16c0 }
def k16c1 : Code := { maxStack := 1, maxLocals := 1, code := prog_9_method_5_code, exceptionTable := #[], attributes := #[] }
def k16m1 : Method := { name := "session", desc := "()Lcom/example/vorgang/vorgang/model/ContextUse;", sig := { parameters := [], returnType := some (.object "com/example/vorgang/vorgang/model/ContextUse") }, accessFlags := 1, code := some k16c1 }
def k16c2 : Code := { maxStack := 1, maxLocals := 1, code := prog_9_method_6_code, exceptionTable := #[], attributes := #[] }
def k16m2 : Method := { name := "transaction", desc := "()Lcom/example/vorgang/vorgang/model/ContextUse;", sig := { parameters := [], returnType := some (.object "com/example/vorgang/vorgang/model/ContextUse") }, accessFlags := 1, code := some k16c2 }
/-- com/example/vorgang/vorgang/model/CallContexts -/
def k16 : Class := { plain "com/example/vorgang/vorgang/model/CallContexts" (some 2) with
  accessFlags := 49
  interfaces := #[]
  cf := some (fileOf pool16 18 #[] #[{ accessFlags := 1, nameIndex := 5, descriptorIndex := 36, attributes := #[] }, { accessFlags := 1, nameIndex := 8, descriptorIndex := 43, attributes := #[] }, { accessFlags := 1, nameIndex := 16, descriptorIndex := 43, attributes := #[] }] 49 2 #[] #[{ accessFlags := 18, nameIndex := 8, descriptorIndex := 21, attributes := #[] }, { accessFlags := 18, nameIndex := 16, descriptorIndex := 21, attributes := #[] }])
  fields := #[{ name := "session", type := (.object "com/example/vorgang/vorgang/model/ContextUse"), accessFlags := 18, slot := 0, constantValue := 0 }, { name := "transaction", type := (.object "com/example/vorgang/vorgang/model/ContextUse"), accessFlags := 18, slot := 1, constantValue := 0 }]
  methods := #[k16m0, k16m1, k16m2]
  instanceTypes := #[(.object "com/example/vorgang/vorgang/model/ContextUse"), (.object "com/example/vorgang/vorgang/model/ContextUse")]
  staticTypes := #[]
  resolved := Array.replicate 65 none
  statics := none }

def pool17 : Array CpInfo := pool [(1, u "java/lang/Cloneable"), (0, .class_ 1), (0, u "java/lang/Object"), (0, .class_ 3)] 3

/-- java/lang/Cloneable -/
def k17 : Class := { plain "java/lang/Cloneable" (some 0) with
  accessFlags := 1537
  interfaces := #[]
  cf := some (fileOf pool17 2 #[] #[] 1537 4 #[] #[])
  fields := #[]
  methods := #[]
  instanceTypes := #[]
  staticTypes := #[]
  resolved := Array.replicate 8 none
  statics := none }

/-- the primitive byte -/
def k18 : Class := { plain "byte" none with kind := .primitive 'B', accessFlags := 0x411 }
/-- [B -/
def k19 : Class := { plain "[B" (some 0) with kind := .array 18 .byte, interfaces := #[17, 6], accessFlags := 1041 }

/-- the primitive int -/
def k20 : Class := { plain "int" none with kind := .primitive 'I', accessFlags := 0x411 }
/-- [I -/
def k21 : Class := { plain "[I" (some 0) with kind := .array 20 .int, interfaces := #[17, 6], accessFlags := 1041 }

def classes0 : Array Class := #[k0, k1, k2, k3, k4, k5, k6, k7, k8, k9, k10, k11, k12, k13, k14, k15, k16, k17, k18, k19, k20, k21]
/-- the class that the rule has made for the site at 11 of com/example/vorgang/vorgang/model/CallPolicy.dispatch -/
def k22 : Class := Jvm.LamKit.madeRec { classes := classes0 } "com/example/vorgang/vorgang/model/CallPolicy" (Jvm.Lambda.Shape.mk "java/util/function/Function" "apply" (Jvm.ClassFile.MethodDescriptor.mk ([(Jvm.ClassFile.FieldType.object "java/lang/Object")] : List Jvm.ClassFile.FieldType) (Option.some (Jvm.ClassFile.FieldType.object "java/lang/Object"))) ([(Jvm.ClassFile.FieldType.object "com/example/vorgang/vorgang/model/CallPolicy"), Jvm.ClassFile.FieldType.boolean, Jvm.ClassFile.FieldType.boolean] : List Jvm.ClassFile.FieldType) (5 : Nat) "com/example/vorgang/vorgang/model/CallPolicy" "lambda$dispatch$1" (Jvm.ClassFile.MethodDescriptor.mk ([Jvm.ClassFile.FieldType.boolean, Jvm.ClassFile.FieldType.boolean, (Jvm.ClassFile.FieldType.object "com/example/vorgang/vorgang/model/ContextUse")] : List Jvm.ClassFile.FieldType) (Option.some (Jvm.ClassFile.FieldType.object "java/util/Optional"))) false (Jvm.ClassFile.MethodDescriptor.mk ([(Jvm.ClassFile.FieldType.object "com/example/vorgang/vorgang/model/ContextUse")] : List Jvm.ClassFile.FieldType) (Option.some (Jvm.ClassFile.FieldType.object "java/util/Optional")))) 22

/-- the class that the rule has made for the site at 47 of com/example/vorgang/vorgang/model/CallPolicy.lambda$dispatch$1 -/
def k23 : Class := Jvm.LamKit.madeRec { classes := classes0 } "com/example/vorgang/vorgang/model/CallPolicy" (Jvm.Lambda.Shape.mk "java/util/function/Function" "apply" (Jvm.ClassFile.MethodDescriptor.mk ([(Jvm.ClassFile.FieldType.object "java/lang/Object")] : List Jvm.ClassFile.FieldType) (Option.some (Jvm.ClassFile.FieldType.object "java/lang/Object"))) ([(Jvm.ClassFile.FieldType.object "com/example/vorgang/vorgang/model/ContextUse")] : List Jvm.ClassFile.FieldType) (6 : Nat) "com/example/vorgang/vorgang/model/CallPolicy" "lambda$dispatch$0" (Jvm.ClassFile.MethodDescriptor.mk ([(Jvm.ClassFile.FieldType.object "com/example/vorgang/vorgang/model/ContextUse"), (Jvm.ClassFile.FieldType.object "com/example/vorgang/vorgang/model/ContextUse")] : List Jvm.ClassFile.FieldType) (Option.some (Jvm.ClassFile.FieldType.object "com/example/vorgang/vorgang/model/CallContexts"))) false (Jvm.ClassFile.MethodDescriptor.mk ([(Jvm.ClassFile.FieldType.object "com/example/vorgang/vorgang/model/ContextUse")] : List Jvm.ClassFile.FieldType) (Option.some (Jvm.ClassFile.FieldType.object "com/example/vorgang/vorgang/model/CallContexts")))) 23

def heap : Heap := #[{ cls := 8, slots := #[.ref 3, .ref 4, .ref 5, .ref 6, .ref 7, .ref 8, .ref 9, .null], vm := .statics 8 },
  { cls := 13, slots := #[.ref 10, .ref 11, .ref 12, .null], vm := .statics 13 },
  { cls := 14, slots := #[.ref 13], vm := .statics 14 },
  { cls := 8, slots := #[.null, .int 0, .int 0], vm := .none },
  { cls := 8, slots := #[.null, .int 1, .int 0], vm := .none },
  { cls := 8, slots := #[.null, .int 2, .int 0], vm := .none },
  { cls := 8, slots := #[.null, .int 3, .int 0], vm := .none },
  { cls := 8, slots := #[.null, .int 4, .int 0], vm := .none },
  { cls := 8, slots := #[.null, .int 5, .int 0], vm := .none },
  { cls := 8, slots := #[.null, .int 6, .int 0], vm := .none },
  { cls := 13, slots := #[.null, .int 0, .int 0], vm := .none },
  { cls := 13, slots := #[.null, .int 1, .int 0], vm := .none },
  { cls := 13, slots := #[.null, .int 2, .int 0], vm := .none },
  { cls := 14, slots := #[.null], vm := .none }]
def classes : Array Class := #[k0, k1, k2, k3, k4, k5, k6, k7, k8, k9, k10, k11, k12, k13, k14, k15, k16, k17, k18, k19, k20, k21, k22, k23]
def interned : List (Array UInt16 × Addr) := []
def slotsUsed : Nat := 44
def theMethod : MethodId := ⟨1, 3⟩
def args0 : Array Value := #[.int 5, .int 1, .int 3]
def aboutOver (below : List Frame) : State where
  vm := { classes := classes, interned := interned.toArray }
  heap := heap
  slotsUsed := slotsUsed
  threads := #[{ frames := .invoking theMethod args0 :: below }]
def below0 : List Frame := [.native { method := ⟨0, 0⟩, args := #[] }]
def about1 : State := aboutOver below0
def p0 : Program := .bare "" "" ""
def e0 : Env := launch0.env 0 0 0
theorem w_frames : about1.frames = Frame.invoking theMethod args0 :: below0 := rfl
set_option maxRecDepth 65536 in
theorem w_args : argsFit about1.vm theMethod args0 = true := by decide +kernel
set_option maxRecDepth 65536 in
theorem w_heap : heapFits about1 = true := by decide +kernel
set_option maxRecDepth 65536 in
theorem w_runnable : about1.curStatus? = some .runnable := by decide +kernel
set_option maxRecDepth 65536 in
theorem w_alone : about1.alone = true := by decide +kernel
set_option maxRecDepth 65536 in
theorem w_named : about1.methodNamed? x = some theMethod := by decide +kernel
set_option maxRecDepth 65536 in
theorem w_hears : about1.hears theMethod below0 = true := by decide +kernel
set_option maxRecDepth 65536 in
theorem w_ripe : about1.ripe theMethod args0 below0 = true := by decide +kernel
theorem w_running : about1.status = .running := rfl
set_option maxRecDepth 65536 in
theorem w_room : about1.hasRoom e0.platform room_1 = true :=
  launch0.hasRoom_least _ room_1 (by decide +kernel) (by decide +kernel) (by decide +kernel) (by decide +kernel) (by decide +kernel) (by decide +kernel)
theorem allAtoms_all (ts : List Jvm.Cond) (a : Array Jvm.Value) (st : Jvm.State) : (allAtoms ts).before a st = ts.all (fun c => c.before a st) := by
  induction ts with
  | nil => rfl
  | cons c t ih =>
    show (Jvm.Cond.and c (allAtoms t)).before a st = _
    rw [Jvm.Cond.before_and, ih, List.all_cons]
def words1 : List Jvm.Cond := Jvm.Cond.code x code maxLocals ret :: tables_1
/-- a 'code' word, met by the world's own term for the bytes: nothing is compared byte by byte -/
theorem code_word {y : MethodName} {bytes : ByteArray} {mx : Nat} {rt : Option FieldType} {a : Array Value} {s : State} {m : MethodId} {meth : Method} {c : Code} (h1 : s.methodNamed? y = some m) (h2 : s.vm.method? m = some meth) (h3 : meth.code = some c) (h4 : c.code = bytes)
    (h5 : (c.maxLocals == mx && c.exceptionTable.isEmpty && decide (c.maxStack ≤ mostOperands) && decide (meth.sig.returnType = rt) && !meth.locks && decide (parseMethodDescriptor y.desc = some meth.sig)) = true) : (Jvm.Cond.code y bytes mx rt).before a s = true := by
  simp only [Bool.and_eq_true, beq_iff_eq, Bool.not_eq_true', decide_eq_true_eq] at h5
  obtain ⟨⟨⟨⟨⟨g1, g2⟩, g3⟩, g4⟩, g5⟩, g6⟩ := h5
  simp [Cond.before, Cond.holds, Cond.value, h1, h2, h3, h4, g1, g2, g3, g4, g5, g6]
def isCode : Jvm.Cond → Bool
  | .code _ _ _ _ => true
  | _ => false
theorem all_split {L : List Jvm.Cond} {P : Jvm.Cond → Bool} (h1 : L.all (fun c => isCode c || P c) = true) (h2 : ∀ c ∈ L.filter isCode, P c = true) : L.all P = true := by
  refine List.all_eq_true.mpr fun c hc => ?_
  have h := List.all_eq_true.mp h1 c hc
  rcases Bool.eq_false_or_eq_true (isCode c) with hi | hi
  · exact h2 c (List.mem_filter.mpr ⟨hc, hi⟩)
  · simpa [hi] using h
set_option maxRecDepth 65536 in
theorem w_c0 : (Jvm.Cond.code x code maxLocals ret).before args0 about1 = true := code_word (m := ⟨1, 3⟩) (meth := k1m3) (c := k1c3) (by decide +kernel) rfl rfl rfl (by decide +kernel)
set_option maxRecDepth 65536 in
theorem w_c1 : (Jvm.Cond.code ({ cls := "com/example/vorgang/vorgang/model/CallPolicyDispatchPinLaw", name := "policy", desc := "(I)Lcom/example/vorgang/vorgang/model/Policy;" } : Jvm.MethodName) method_2_code (1 : Nat) (Option.some (Jvm.ClassFile.FieldType.object "com/example/vorgang/vorgang/model/Policy"))).before args0 about1 = true := code_word (m := ⟨1, 1⟩) (meth := k1m1) (c := k1c1) (by decide +kernel) rfl rfl rfl (by decide +kernel)
set_option maxRecDepth 65536 in
theorem w_c2 : (Jvm.Cond.code ({ cls := "com/example/vorgang/vorgang/model/CallPolicy", name := "<init>", desc := "(Lcom/example/vorgang/vorgang/model/Policy;Lcom/example/vorgang/vorgang/model/Policy;)V" } : Jvm.MethodName) prog_10_method_1_code (3 : Nat) (Option.none : Option Jvm.ClassFile.FieldType)).before args0 about1 = true := code_word (m := ⟨3, 0⟩) (meth := k3m0) (c := k3c0) (by decide +kernel) rfl rfl rfl (by decide +kernel)
set_option maxRecDepth 65536 in
theorem w_c3 : (Jvm.Cond.code ({ cls := "java/lang/Record", name := "<init>", desc := "()V" } : Jvm.MethodName) jdk_30_method_1_code (1 : Nat) (Option.none : Option Jvm.ClassFile.FieldType)).before args0 about1 = true := code_word (m := ⟨2, 0⟩) (meth := k2m0) (c := k2c0) (by decide +kernel) rfl rfl rfl (by decide +kernel)
set_option maxRecDepth 65536 in
theorem w_c4 : (Jvm.Cond.code ({ cls := "java/lang/Object", name := "<init>", desc := "()V" } : Jvm.MethodName) object_method_1_code (1 : Nat) (Option.none : Option Jvm.ClassFile.FieldType)).before args0 about1 = true := code_word (m := ⟨0, 0⟩) (meth := k0m0) (c := k0c0) (by decide +kernel) rfl rfl rfl (by decide +kernel)
set_option maxRecDepth 65536 in
theorem w_c5 : (Jvm.Cond.code ({ cls := "java/util/Objects", name := "requireNonNull", desc := "(Ljava/lang/Object;Ljava/lang/String;)Ljava/lang/Object;" } : Jvm.MethodName) jdk_31_method_11_code (2 : Nat) (Option.some (Jvm.ClassFile.FieldType.object "java/lang/Object"))).before args0 about1 = true := code_word (m := ⟨12, 2⟩) (meth := k12m2) (c := k12c2) (by decide +kernel) rfl rfl rfl (by decide +kernel)
set_option maxRecDepth 65536 in
theorem w_c6 : (Jvm.Cond.code ({ cls := "com/example/vorgang/vorgang/model/CallPolicy", name := "dispatch", desc := "(ZZ)Ljava/util/Optional;" } : Jvm.MethodName) prog_10_method_2_code (3 : Nat) (Option.some (Jvm.ClassFile.FieldType.object "java/util/Optional"))).before args0 about1 = true := code_word (m := ⟨3, 1⟩) (meth := k3m1) (c := k3c1) (by decide +kernel) rfl rfl rfl (by decide +kernel)
set_option maxRecDepth 65536 in
theorem w_c7 : (Jvm.Cond.code ({ cls := "com/example/vorgang/vorgang/model/Policy", name := "apply", desc := "(Z)Ljava/util/Optional;" } : Jvm.MethodName) prog_19_method_4_code (3 : Nat) (Option.some (Jvm.ClassFile.FieldType.object "java/util/Optional"))).before args0 about1 = true := code_word (m := ⟨8, 0⟩) (meth := k8m0) (c := k8c0) (by decide +kernel) rfl rfl rfl (by decide +kernel)
set_option maxRecDepth 65536 in
theorem w_c8 : (Jvm.Cond.code ({ cls := "java/lang/Enum", name := "ordinal", desc := "()I" } : Jvm.MethodName) jdk_37_method_2_code (1 : Nat) (Option.some Jvm.ClassFile.FieldType.int)).before args0 about1 = true := code_word (m := ⟨7, 0⟩) (meth := k7m0) (c := k7c0) (by decide +kernel) rfl rfl rfl (by decide +kernel)
set_option maxRecDepth 65536 in
theorem w_c9 : (Jvm.Cond.code ({ cls := "java/util/Optional", name := "ofNullable", desc := "(Ljava/lang/Object;)Ljava/util/Optional;" } : Jvm.MethodName) jdk_32_method_4_code (1 : Nat) (Option.some (Jvm.ClassFile.FieldType.object "java/util/Optional"))).before args0 about1 = true := code_word (m := ⟨14, 2⟩) (meth := k14m2) (c := k14c2) (by decide +kernel) rfl rfl rfl (by decide +kernel)
set_option maxRecDepth 65536 in
theorem w_c10 : (Jvm.Cond.code ({ cls := "java/util/Optional", name := "<init>", desc := "(Ljava/lang/Object;)V" } : Jvm.MethodName) jdk_32_method_2_code (2 : Nat) (Option.none : Option Jvm.ClassFile.FieldType)).before args0 about1 = true := code_word (m := ⟨14, 1⟩) (meth := k14m1) (c := k14c1) (by decide +kernel) rfl rfl rfl (by decide +kernel)
set_option maxRecDepth 65536 in
theorem w_c11 : (Jvm.Cond.code ({ cls := "java/util/Optional", name := "flatMap", desc := "(Ljava/util/function/Function;)Ljava/util/Optional;" } : Jvm.MethodName) jdk_32_method_12_code (3 : Nat) (Option.some (Jvm.ClassFile.FieldType.object "java/util/Optional"))).before args0 about1 = true := code_word (m := ⟨14, 7⟩) (meth := k14m7) (c := k14c7) (by decide +kernel) rfl rfl rfl (by decide +kernel)
set_option maxRecDepth 65536 in
theorem w_c12 : (Jvm.Cond.code ({ cls := "java/util/Objects", name := "requireNonNull", desc := "(Ljava/lang/Object;)Ljava/lang/Object;" } : Jvm.MethodName) jdk_31_method_10_code (1 : Nat) (Option.some (Jvm.ClassFile.FieldType.object "java/lang/Object"))).before args0 about1 = true := code_word (m := ⟨12, 1⟩) (meth := k12m1) (c := k12c1) (by decide +kernel) rfl rfl rfl (by decide +kernel)
set_option maxRecDepth 65536 in
theorem w_c13 : (Jvm.Cond.code ({ cls := "java/util/Optional", name := "isEmpty", desc := "()Z" } : Jvm.MethodName) jdk_32_method_7_code (1 : Nat) (Option.some Jvm.ClassFile.FieldType.boolean)).before args0 about1 = true := code_word (m := ⟨14, 5⟩) (meth := k14m5) (c := k14c5) (by decide +kernel) rfl rfl rfl (by decide +kernel)
set_option maxRecDepth 65536 in
theorem w_c14 : (Jvm.Cond.code ({ cls := "com/example/vorgang/vorgang/model/CallPolicy", name := "lambda$dispatch$1", desc := "(ZZLcom/example/vorgang/vorgang/model/ContextUse;)Ljava/util/Optional;" } : Jvm.MethodName) prog_10_method_8_code (5 : Nat) (Option.some (Jvm.ClassFile.FieldType.object "java/util/Optional"))).before args0 about1 = true := code_word (m := ⟨3, 2⟩) (meth := k3m2) (c := k3c2) (by decide +kernel) rfl rfl rfl (by decide +kernel)
set_option maxRecDepth 65536 in
theorem w_c15 : (Jvm.Cond.code ({ cls := "java/util/Optional", name := "map", desc := "(Ljava/util/function/Function;)Ljava/util/Optional;" } : Jvm.MethodName) jdk_32_method_11_code (2 : Nat) (Option.some (Jvm.ClassFile.FieldType.object "java/util/Optional"))).before args0 about1 = true := code_word (m := ⟨14, 6⟩) (meth := k14m6) (c := k14c6) (by decide +kernel) rfl rfl rfl (by decide +kernel)
set_option maxRecDepth 65536 in
theorem w_c16 : (Jvm.Cond.code ({ cls := "com/example/vorgang/vorgang/model/CallPolicy", name := "lambda$dispatch$0", desc := "(Lcom/example/vorgang/vorgang/model/ContextUse;Lcom/example/vorgang/vorgang/model/ContextUse;)Lcom/example/vorgang/vorgang/model/CallContexts;" } : Jvm.MethodName) prog_10_method_9_code (2 : Nat) (Option.some (Jvm.ClassFile.FieldType.object "com/example/vorgang/vorgang/model/CallContexts"))).before args0 about1 = true := code_word (m := ⟨3, 3⟩) (meth := k3m3) (c := k3c3) (by decide +kernel) rfl rfl rfl (by decide +kernel)
set_option maxRecDepth 65536 in
theorem w_c17 : (Jvm.Cond.code ({ cls := "com/example/vorgang/vorgang/model/CallContexts", name := "<init>", desc := "(Lcom/example/vorgang/vorgang/model/ContextUse;Lcom/example/vorgang/vorgang/model/ContextUse;)V" } : Jvm.MethodName) prog_9_method_1_code (3 : Nat) (Option.none : Option Jvm.ClassFile.FieldType)).before args0 about1 = true := code_word (m := ⟨16, 0⟩) (meth := k16m0) (c := k16c0) (by decide +kernel) rfl rfl rfl (by decide +kernel)
set_option maxRecDepth 65536 in
theorem w_c18 : (Jvm.Cond.code ({ cls := "com/example/vorgang/vorgang/model/CallPolicyDispatchPinLaw", name := "rule", desc := "(IZ)I" } : Jvm.MethodName) method_3_code (2 : Nat) (Option.some Jvm.ClassFile.FieldType.int)).before args0 about1 = true := code_word (m := ⟨1, 2⟩) (meth := k1m2) (c := k1c2) (by decide +kernel) rfl rfl rfl (by decide +kernel)
set_option maxRecDepth 65536 in
theorem w_c19 : (Jvm.Cond.code ({ cls := "java/util/Optional", name := "isPresent", desc := "()Z" } : Jvm.MethodName) jdk_32_method_6_code (1 : Nat) (Option.some Jvm.ClassFile.FieldType.boolean)).before args0 about1 = true := code_word (m := ⟨14, 4⟩) (meth := k14m4) (c := k14c4) (by decide +kernel) rfl rfl rfl (by decide +kernel)
set_option maxRecDepth 65536 in
theorem w_c20 : (Jvm.Cond.code ({ cls := "java/util/Optional", name := "get", desc := "()Ljava/lang/Object;" } : Jvm.MethodName) jdk_32_method_5_code (1 : Nat) (Option.some (Jvm.ClassFile.FieldType.object "java/lang/Object"))).before args0 about1 = true := code_word (m := ⟨14, 3⟩) (meth := k14m3) (c := k14c3) (by decide +kernel) rfl rfl rfl (by decide +kernel)
set_option maxRecDepth 65536 in
theorem w_c21 : (Jvm.Cond.code ({ cls := "com/example/vorgang/vorgang/model/CallContexts", name := "session", desc := "()Lcom/example/vorgang/vorgang/model/ContextUse;" } : Jvm.MethodName) prog_9_method_5_code (1 : Nat) (Option.some (Jvm.ClassFile.FieldType.object "com/example/vorgang/vorgang/model/ContextUse"))).before args0 about1 = true := code_word (m := ⟨16, 1⟩) (meth := k16m1) (c := k16c1) (by decide +kernel) rfl rfl rfl (by decide +kernel)
set_option maxRecDepth 65536 in
theorem w_c22 : (Jvm.Cond.code ({ cls := "com/example/vorgang/vorgang/model/CallContexts", name := "transaction", desc := "()Lcom/example/vorgang/vorgang/model/ContextUse;" } : Jvm.MethodName) prog_9_method_6_code (1 : Nat) (Option.some (Jvm.ClassFile.FieldType.object "com/example/vorgang/vorgang/model/ContextUse"))).before args0 about1 = true := code_word (m := ⟨16, 2⟩) (meth := k16m2) (c := k16c2) (by decide +kernel) rfl rfl rfl (by decide +kernel)
set_option maxRecDepth 65536 in
theorem w_c23 : (Jvm.Cond.code ({ cls := "java/util/Optional", name := "empty", desc := "()Ljava/util/Optional;" } : Jvm.MethodName) jdk_32_method_1_code (1 : Nat) (Option.some (Jvm.ClassFile.FieldType.object "java/util/Optional"))).before args0 about1 = true := code_word (m := ⟨14, 0⟩) (meth := k14m0) (c := k14c0) (by decide +kernel) rfl rfl rfl (by decide +kernel)
def codes1 : List Jvm.Cond := [Jvm.Cond.code x code maxLocals ret, Jvm.Cond.code ({ cls := "com/example/vorgang/vorgang/model/CallPolicyDispatchPinLaw", name := "policy", desc := "(I)Lcom/example/vorgang/vorgang/model/Policy;" } : Jvm.MethodName) method_2_code (1 : Nat) (Option.some (Jvm.ClassFile.FieldType.object "com/example/vorgang/vorgang/model/Policy")), Jvm.Cond.code ({ cls := "com/example/vorgang/vorgang/model/CallPolicy", name := "<init>", desc := "(Lcom/example/vorgang/vorgang/model/Policy;Lcom/example/vorgang/vorgang/model/Policy;)V" } : Jvm.MethodName) prog_10_method_1_code (3 : Nat) (Option.none : Option Jvm.ClassFile.FieldType), Jvm.Cond.code ({ cls := "java/lang/Record", name := "<init>", desc := "()V" } : Jvm.MethodName) jdk_30_method_1_code (1 : Nat) (Option.none : Option Jvm.ClassFile.FieldType), Jvm.Cond.code ({ cls := "java/lang/Object", name := "<init>", desc := "()V" } : Jvm.MethodName) object_method_1_code (1 : Nat) (Option.none : Option Jvm.ClassFile.FieldType), Jvm.Cond.code ({ cls := "java/util/Objects", name := "requireNonNull", desc := "(Ljava/lang/Object;Ljava/lang/String;)Ljava/lang/Object;" } : Jvm.MethodName) jdk_31_method_11_code (2 : Nat) (Option.some (Jvm.ClassFile.FieldType.object "java/lang/Object")), Jvm.Cond.code ({ cls := "com/example/vorgang/vorgang/model/CallPolicy", name := "dispatch", desc := "(ZZ)Ljava/util/Optional;" } : Jvm.MethodName) prog_10_method_2_code (3 : Nat) (Option.some (Jvm.ClassFile.FieldType.object "java/util/Optional")), Jvm.Cond.code ({ cls := "com/example/vorgang/vorgang/model/Policy", name := "apply", desc := "(Z)Ljava/util/Optional;" } : Jvm.MethodName) prog_19_method_4_code (3 : Nat) (Option.some (Jvm.ClassFile.FieldType.object "java/util/Optional")), Jvm.Cond.code ({ cls := "java/lang/Enum", name := "ordinal", desc := "()I" } : Jvm.MethodName) jdk_37_method_2_code (1 : Nat) (Option.some Jvm.ClassFile.FieldType.int), Jvm.Cond.code ({ cls := "java/util/Optional", name := "ofNullable", desc := "(Ljava/lang/Object;)Ljava/util/Optional;" } : Jvm.MethodName) jdk_32_method_4_code (1 : Nat) (Option.some (Jvm.ClassFile.FieldType.object "java/util/Optional")), Jvm.Cond.code ({ cls := "java/util/Optional", name := "<init>", desc := "(Ljava/lang/Object;)V" } : Jvm.MethodName) jdk_32_method_2_code (2 : Nat) (Option.none : Option Jvm.ClassFile.FieldType), Jvm.Cond.code ({ cls := "java/util/Optional", name := "flatMap", desc := "(Ljava/util/function/Function;)Ljava/util/Optional;" } : Jvm.MethodName) jdk_32_method_12_code (3 : Nat) (Option.some (Jvm.ClassFile.FieldType.object "java/util/Optional")), Jvm.Cond.code ({ cls := "java/util/Objects", name := "requireNonNull", desc := "(Ljava/lang/Object;)Ljava/lang/Object;" } : Jvm.MethodName) jdk_31_method_10_code (1 : Nat) (Option.some (Jvm.ClassFile.FieldType.object "java/lang/Object")), Jvm.Cond.code ({ cls := "java/util/Optional", name := "isEmpty", desc := "()Z" } : Jvm.MethodName) jdk_32_method_7_code (1 : Nat) (Option.some Jvm.ClassFile.FieldType.boolean), Jvm.Cond.code ({ cls := "com/example/vorgang/vorgang/model/CallPolicy", name := "lambda$dispatch$1", desc := "(ZZLcom/example/vorgang/vorgang/model/ContextUse;)Ljava/util/Optional;" } : Jvm.MethodName) prog_10_method_8_code (5 : Nat) (Option.some (Jvm.ClassFile.FieldType.object "java/util/Optional")), Jvm.Cond.code ({ cls := "java/util/Optional", name := "map", desc := "(Ljava/util/function/Function;)Ljava/util/Optional;" } : Jvm.MethodName) jdk_32_method_11_code (2 : Nat) (Option.some (Jvm.ClassFile.FieldType.object "java/util/Optional")), Jvm.Cond.code ({ cls := "com/example/vorgang/vorgang/model/CallPolicy", name := "lambda$dispatch$0", desc := "(Lcom/example/vorgang/vorgang/model/ContextUse;Lcom/example/vorgang/vorgang/model/ContextUse;)Lcom/example/vorgang/vorgang/model/CallContexts;" } : Jvm.MethodName) prog_10_method_9_code (2 : Nat) (Option.some (Jvm.ClassFile.FieldType.object "com/example/vorgang/vorgang/model/CallContexts")), Jvm.Cond.code ({ cls := "com/example/vorgang/vorgang/model/CallContexts", name := "<init>", desc := "(Lcom/example/vorgang/vorgang/model/ContextUse;Lcom/example/vorgang/vorgang/model/ContextUse;)V" } : Jvm.MethodName) prog_9_method_1_code (3 : Nat) (Option.none : Option Jvm.ClassFile.FieldType), Jvm.Cond.code ({ cls := "com/example/vorgang/vorgang/model/CallPolicyDispatchPinLaw", name := "rule", desc := "(IZ)I" } : Jvm.MethodName) method_3_code (2 : Nat) (Option.some Jvm.ClassFile.FieldType.int), Jvm.Cond.code ({ cls := "java/util/Optional", name := "isPresent", desc := "()Z" } : Jvm.MethodName) jdk_32_method_6_code (1 : Nat) (Option.some Jvm.ClassFile.FieldType.boolean), Jvm.Cond.code ({ cls := "java/util/Optional", name := "get", desc := "()Ljava/lang/Object;" } : Jvm.MethodName) jdk_32_method_5_code (1 : Nat) (Option.some (Jvm.ClassFile.FieldType.object "java/lang/Object")), Jvm.Cond.code ({ cls := "com/example/vorgang/vorgang/model/CallContexts", name := "session", desc := "()Lcom/example/vorgang/vorgang/model/ContextUse;" } : Jvm.MethodName) prog_9_method_5_code (1 : Nat) (Option.some (Jvm.ClassFile.FieldType.object "com/example/vorgang/vorgang/model/ContextUse")), Jvm.Cond.code ({ cls := "com/example/vorgang/vorgang/model/CallContexts", name := "transaction", desc := "()Lcom/example/vorgang/vorgang/model/ContextUse;" } : Jvm.MethodName) prog_9_method_6_code (1 : Nat) (Option.some (Jvm.ClassFile.FieldType.object "com/example/vorgang/vorgang/model/ContextUse")), Jvm.Cond.code ({ cls := "java/util/Optional", name := "empty", desc := "()Ljava/util/Optional;" } : Jvm.MethodName) jdk_32_method_1_code (1 : Nat) (Option.some (Jvm.ClassFile.FieldType.object "java/util/Optional"))]
set_option maxRecDepth 65536 in
theorem codes_eq : words1.filter isCode = codes1 := rfl
theorem w_codes : ∀ c ∈ words1.filter isCode, c.before args0 about1 = true := by
  rw [codes_eq]
  intro c hc
  simp only [codes1, List.mem_cons, List.not_mem_nil, or_false] at hc
  rcases hc with rfl | rfl | rfl | rfl | rfl | rfl | rfl | rfl | rfl | rfl | rfl | rfl | rfl | rfl | rfl | rfl | rfl | rfl | rfl | rfl | rfl | rfl | rfl | rfl
  · exact w_c0
  · exact w_c1
  · exact w_c2
  · exact w_c3
  · exact w_c4
  · exact w_c5
  · exact w_c6
  · exact w_c7
  · exact w_c8
  · exact w_c9
  · exact w_c10
  · exact w_c11
  · exact w_c12
  · exact w_c13
  · exact w_c14
  · exact w_c15
  · exact w_c16
  · exact w_c17
  · exact w_c18
  · exact w_c19
  · exact w_c20
  · exact w_c21
  · exact w_c22
  · exact w_c23
set_option maxRecDepth 65536 in
theorem w_t1 : (words1.take 24).all (fun c => isCode c || c.before args0 about1) = true := by decide +kernel
set_option maxRecDepth 65536 in
theorem w_t2 : ((words1.drop 24).take 24).all (fun c => isCode c || c.before args0 about1) = true := by decide +kernel
set_option maxRecDepth 65536 in
theorem w_t3 : (((words1.drop 24).drop 24).take 24).all (fun c => isCode c || c.before args0 about1) = true := by decide +kernel
set_option maxRecDepth 65536 in
theorem w_t4 : ((((words1.drop 24).drop 24).drop 24).take 24).all (fun c => isCode c || c.before args0 about1) = true := by decide +kernel
set_option maxRecDepth 65536 in
theorem w_t5 : (((((words1.drop 24).drop 24).drop 24).drop 24).take 24).all (fun c => isCode c || c.before args0 about1) = true := by decide +kernel
set_option maxRecDepth 65536 in
theorem w_t6 : ((((((words1.drop 24).drop 24).drop 24).drop 24).drop 24).take 24).all (fun c => isCode c || c.before args0 about1) = true := by decide +kernel
set_option maxRecDepth 65536 in
theorem w_t7 : (((((((words1.drop 24).drop 24).drop 24).drop 24).drop 24).drop 24).take 24).all (fun c => isCode c || c.before args0 about1) = true := by decide +kernel
set_option maxRecDepth 65536 in
theorem w_t8 : (((((((words1.drop 24).drop 24).drop 24).drop 24).drop 24).drop 24).drop 24).all (fun c => isCode c || c.before args0 about1) = true := by decide +kernel
theorem w_tables : (allAtoms (Jvm.Cond.code x code maxLocals ret :: tables_1)).before args0 about1 = true := by
  rw [allAtoms_all]
  show words1.all (fun c => c.before args0 about1) = true
  refine all_split ?_ w_codes
  rw [← List.take_append_drop 24 words1, List.all_append, w_t1, ← List.take_append_drop 24 (words1.drop 24), List.all_append, w_t2, ← List.take_append_drop 24 ((words1.drop 24).drop 24), List.all_append, w_t3, ← List.take_append_drop 24 (((words1.drop 24).drop 24).drop 24), List.all_append, w_t4, ← List.take_append_drop 24 ((((words1.drop 24).drop 24).drop 24).drop 24), List.all_append, w_t5, ← List.take_append_drop 24 (((((words1.drop 24).drop 24).drop 24).drop 24).drop 24), List.all_append, w_t6, ← List.take_append_drop 24 ((((((words1.drop 24).drop 24).drop 24).drop 24).drop 24).drop 24), List.all_append, w_t7, w_t8]
  rfl
set_option maxRecDepth 65536 in
theorem w_rest : rest_1_c.before args0 about1 = true := by decide +kernel
set_option maxRecDepth 65536 in
theorem w_case : (Jvm.Cond.and given_1 narrow_1).before args0 about1 = true := by decide +kernel
theorem w_applies : (headSpec (Jvm.Cond.code x code maxLocals ret :: tables_1) room_1).applies x e0.platform about1 = true :=
  (Spec.applies_iff w_frames).mpr ⟨w_running, w_runnable, w_alone, w_named, w_hears, w_ripe, w_room, w_tables⟩
theorem atStart : AtStart classFile x code maxLocals ret World_1 tables_1 room_1 Calls_1 rest_1 Pre_1 launch0 p0 e0 about1 theMethod args0 below0 :=
  ⟨lists_1, trivial, launch0.admits_env _ _ _, launch0.least_env, fairChoices_fair.cas, fairChoices_fair.clock, w_frames, w_args, w_heap, w_applies, trivial, w_rest, w_case⟩
end start1
theorem witness_1 : WitnessClaimed_1 := ⟨start1.p0, start1.e0, start1.about1, start1.theMethod, start1.args0, start1.below0, start1.atStart⟩
end Jvm.Pilot.@@N@@
