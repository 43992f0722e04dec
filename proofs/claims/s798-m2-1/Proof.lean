import JvmDerived
import JvmDerived.Pilot.@@N@@Statement
import JvmDerived.Pilot.@@N@@Code
set_option linter.unusedVariables false
set_option linter.unusedSimpArgs false
namespace Jvm.OwnW
open Sem ClassFile Op Lib Jvm.Stand Jvm.Free Jvm.LawKit Jvm.RoadKit
abbrev Ctx : Type := Program × Env × State × MethodId × Array Value × List Frame × Method × Code
def Run (l : Launch) (R : Room) (n0 : Nat) (Q : Option Value → Heap → Prop) (K : Ctx) (h : Heap) (cells slots pc : Nat) (Ls : Array Slot) (st : List Value) : Prop :=
  ∀ (T : State) (locs : List Loc), Stand K.1 l K.2.1 R K.2.2.1 K.2.2.2.1 K.2.2.2.2.1 K.2.2.2.2.2.1 K.2.2.2.2.2.2.1 K.2.2.2.2.2.2.2 T locs cells slots → Fr n0 locs → T.heap = h →
    ∃ s₂ o, Steps K.1.tables K.2.1 K.2.2.2.2.2.1 (T.setTop (mkF K.2.2.2.1 pc Ls st)) s₂ ∧ s₂.status = .running ∧ Ended s₂ K.2.2.2.2.2.1 o ∧ ∃ v L, o = .returned v ∧ (Q v s₂.heap ∧ Fr n0 L) ∧ FrameEnd K.2.2.1 o s₂ L R.cells R.slots
def Ok (Z : State) (own nm : String) (bytes : ByteArray) (maxL : Nat) (ret : Option FieldType) (K : Ctx) : Prop :=
  K.1.tables.exec = Jvm.exec ∧ K.2.2.2.2.2.2.2.code = bytes ∧ K.2.2.2.2.2.2.2.maxLocals = maxL ∧ K.2.2.1.vm.findClass own = some K.2.2.2.1.cls ∧ K.2.2.2.2.2.2.1.name = nm ∧ K.2.2.2.2.2.2.1.sig.returnType = ret ∧ K.2.2.2.2.2.2.1.locks = false ∧ Z.Warmed39 K.2.2.1.vm
/-- what stood below n stands as it stood -/
def Lo (n : Nat) (h h' : Heap) : Prop := h.size ≤ h'.size ∧ ∀ (x : Addr) (c : Cell), x < n → h[x]? = some c → h'[x]? = some c
theorem lo_of {s s' : State} {L : List Loc} {k n n0 : Nat} (H : s.sameButNew s' L k n) (N : Fr n0 L) : Lo n0 s.heap s'.heap := by
  refine ⟨H.2.1, fun x c hx hc => ?_⟩
  obtain ⟨c', h1, h2, h3, h4⟩ := H.2.2.2.2.2 x c hc
  have e : c'.slots = c.slots := Array.ext_getElem? fun i => h4 i fun hi => absurd hx (Nat.not_lt.mpr (N _ hi))
  rw [e] at h2
  rw [h1, h2]
theorem keepLo {n : Nat} {h0 h h' : Heap} (K : Keep h0 h []) (L : Lo n h h') (q : h0.size ≤ n) : Keep h0 h' [] :=
  ⟨Nat.le_trans K.1 L.1, fun x c hc hx => L.2 x c (Nat.lt_of_lt_of_le (Array.getElem?_eq_some_iff.mp hc).1 q) (K.2.1 x c hc hx), fun x c hc => ⟨c, L.2 x c (Nat.lt_of_lt_of_le (Array.getElem?_eq_some_iff.mp hc).1 q) (K.2.1 x c hc nin0), rfl, rfl, rfl⟩⟩
/-- a body's contract, as backOf takes it -/
def Con (l : Launch) (Z : State) (y : MethodName) (bytes : ByteArray) (maxL : Nat) (ret : Option FieldType) (ws : List Jvm.Cond) (rm : Room) (n0 : Nat) (as' : Array Value) (h : Heap) (Q : Option Value → Heap → Prop) : Prop :=
  MetFree l y (head1 (Jvm.Cond.code y bytes maxL ret :: ws) rm) (fun a U => a = as' ∧ Z.Warmed39 U.vm ∧ U.heap = h) (fun _ _ _ _ _ => True) (fun _ U o U' => ∃ v L, o = .returned v ∧ ((Q v U'.heap ∧ Lo n0 h U'.heap) ∧ Fr n0 L) ∧ FrameEnd U o U' L rm.cells rm.slots)
theorem Con.of {l : Launch} {Z : State} {y : MethodName} {bytes : ByteArray} {maxL : Nat} {ret : Option FieldType} {ws : List Jvm.Cond} {rm : Room} {n0 : Nat} {as' : Array Value} {h : Heap} {Q : Option Value → Heap → Prop} {Ls : Array Slot} (hp : plainFor y = true) (hL : ∀ m, entryFrame m as' maxL = mkF m 0 Ls [])
    (body : ∀ K : Ctx, Ok Z y.cls y.name bytes maxL ret K → Run l rm n0 Q K h 0 0 0 Ls []) : Con l Z y bytes maxL ret ws rm n0 as' h Q := by
  refine MetFree.of_bodySF hp hisR ?_
  intro p e s m args below meth c s₁ Bd hml0 hP hK
  obtain ⟨rfl, hZ, hh⟩ := hP
  have e0 : s₁.heap = h := by rw [← hh, Bd.state]; rfl
  have X0 : Stand p l e rm s m args below meth c s₁ [] 0 0 := Stand.of_body Bd
  have hlk : meth.locks = false := BodyLoose.notSynchronized Bd
  have k := body (p, e, s, m, args, below, meth, c) ⟨Bd.exec, Bd.bytes, hml0, findClass_of_methodNamed Bd.named, (name_of_methodNamed Bd.named Bd.method).1, Bd.returns, hlk, hZ⟩ s₁ [] X0 (Fr.nil n0) e0
  rw [hL m]
  obtain ⟨s₂, o, k1, k2, k3, v, L, k4, ⟨k5, k6⟩, k7⟩ := k
  exact ⟨s₂, o, k1, k2, k3, v, L, k4, ⟨⟨k5, (by have q := lo_of k7.2.2 k6; rw [← hh]; exact q)⟩, k6⟩, k7⟩
/-- the same of a method with an exception table (codeWith) whose walk throws nothing -/
def ConH (l : Launch) (Z : State) (y : MethodName) (bytes : ByteArray) (maxL : Nat) (ret : Option FieldType) (hs : List (Nat × Nat × Nat × Nat)) (rm : Room) (n0 : Nat) (as' : Array Value) (h : Heap) (Q : Option Value → Heap → Prop) : Prop :=
  MetFree l y (head1 [Jvm.Cond.codeWith y bytes maxL ret hs] rm) (fun a U => a = as' ∧ Z.Warmed39 U.vm ∧ U.heap = h) (fun _ _ _ _ _ => True) (fun _ U o U' => ∃ v L, o = .returned v ∧ ((Q v U'.heap ∧ Lo n0 h U'.heap) ∧ Fr n0 L) ∧ FrameEnd U o U' L rm.cells rm.slots)
theorem ConH.of {l : Launch} {Z : State} {y : MethodName} {bytes : ByteArray} {maxL : Nat} {ret : Option FieldType} {hs : List (Nat × Nat × Nat × Nat)} {rm : Room} {n0 : Nat} {as' : Array Value} {h : Heap} {Q : Option Value → Heap → Prop} {Ls : Array Slot} (hp : plainFor y = true) (hL : ∀ m, entryFrame m as' maxL = mkF m 0 Ls [])
    (body : ∀ K : Ctx, Ok Z y.cls y.name bytes maxL ret K → Run l rm n0 Q K h 0 0 0 Ls []) : ConH l Z y bytes maxL ret hs rm n0 as' h Q := by
  refine MetFree.of_bodySF hp hisWith ?_
  intro p e s m args below meth c s₁ Bd hml0 hP hK
  obtain ⟨rfl, hZ, hh⟩ := hP
  have e0 : s₁.heap = h := by rw [← hh, Bd.state]; rfl
  have X0 : Stand p l e rm s m args below meth c s₁ [] 0 0 := Stand.of_body Bd
  have hlk : meth.locks = false := BodyLoose.notSynchronized Bd
  have k := body (p, e, s, m, args, below, meth, c) ⟨Bd.exec, Bd.bytes, hml0, findClass_of_methodNamed Bd.named, (name_of_methodNamed Bd.named Bd.method).1, Bd.returns, hlk, hZ⟩ s₁ [] X0 (Fr.nil n0) e0
  rw [hL m]
  obtain ⟨s₂, o, k1, k2, k3, v, L, k4, ⟨k5, k6⟩, k7⟩ := k
  exact ⟨s₂, o, k1, k2, k3, v, L, k4, ⟨⟨k5, (by have q := lo_of k7.2.2 k6; rw [← hh]; exact q)⟩, k6⟩, k7⟩
theorem staKeep {Z : State} {h h' : Heap} {C n d : String} {v : Value} (F : Sta Z h C n d v) (K : Keep h h' []) : Sta Z h' C n d v := by
  obtain ⟨cf, i, k, f, st, cell, h1, h2, h3, h4, h5, r⟩ := F
  exact ⟨cf, i, k, f, st, cell, h1, h2, h3, h4, K.2.1 _ _ h5 nin0, r⟩
theorem plainV {Z : State} {h : Heap} {a : Addr} {k : ClassId} {ty : FieldType} {z : Int32} {vs : List Value} {dv : Value} (F : Arv Z h a k ty z vs dv) : ∀ c : Cell, h[a]? = some c → c.vm.isStatics = false := fun c hc => by
  obtain ⟨c', A, -⟩ := F
  have q := A.plain
  have e := A.1
  rw [hc] at e
  cases e
  exact q
theorem plainE {Z : State} {h : Heap} {a : Addr} {C : String} (F : Exa Z h a C) : ∀ c : Cell, h[a]? = some c → c.vm.isStatics = false := fun c hc => by
  obtain ⟨c', k, h1, -, -, h4, -⟩ := F
  rw [hc] at h1
  cases h1
  exact h4
theorem staKeepW {Z : State} {h h' : Heap} {C n d : String} {v : Value} {ws : List Addr} (F : Sta Z h C n d v) (K : Keep h h' ws) (q : ∀ x ∈ ws, ∀ c : Cell, h[x]? = some c → c.vm.isStatics = false) : Sta Z h' C n d v := by
  obtain ⟨cf, i, k, f, st, cell, h1, h2, h3, h4, h5, h6, r⟩ := F
  exact ⟨cf, i, k, f, st, cell, h1, h2, h3, h4, K.2.1 _ _ h5 (fun z => by have := q st z cell h5; rw [h6] at this; cases this), h6, r⟩
theorem selPriv {Z : State} {a0 : Array Value} {y : MethodName} {kk : Nat} (wi : (Jvm.Cond.instantiable y.cls kk).before a0 Z = true) (wp : (Jvm.Cond.privateMethod y).before a0 Z = true) (wm : (Jvm.Cond.instanceMethod y).before a0 Z = true) (hy : y.cls ≠ "java/lang/invoke/MethodHandle" ∧ y.cls ≠ "java/lang/invoke/VarHandle") : (Jvm.Cond.selects y.cls y y).before a0 Z = true := by
  obtain ⟨c, k, h1, h2, -, h4, -⟩ := Cond.instantiable_spec wi
  exact Jvm.Stand.selects_self_of_private h1 h2 (by cases hb : k.isInterface <;> simp [hb] at h4 ⊢) (Cond.privateMethod_at wp) wm hy
theorem selPriv2 {Z : State} {a0 : Array Value} {y : MethodName} {D : String} (ws : (Jvm.Cond.selects D y y).before a0 Z = true) (wp : (Jvm.Cond.privateMethod y).before a0 Z = true) (wm : (Jvm.Cond.instanceMethod y).before a0 Z = true) (hy : y.cls ≠ "java/lang/invoke/MethodHandle" ∧ y.cls ≠ "java/lang/invoke/VarHandle") : (Jvm.Cond.selects y.cls y y).before a0 Z = true := by
  obtain ⟨c2, r2, m2, q1, q2, q3, q4, kP, hkP, hkPi⟩ := Cond.selects_spec ws
  exact Jvm.Stand.selects_self_of_private (findClass_of_methodNamed q3) hkP hkPi (Cond.privateMethod_at wp) wm hy
theorem nfMove {Z : State} {a0 : Array Value} {y y' : MethodName} {D : String} (hc : y'.cls = y.cls) (wi : (Jvm.Cond.instanceMethod y').before a0 Z = true) (ws : (Jvm.Cond.selects D y' y').before a0 Z = true) : ∀ s : State, Z.Warmed39 s.vm → NotFace s y := fun s hZ r0 h0 => by
  obtain ⟨m', meth', hn', -⟩ := Cond.instanceMethod_spec (mvT (args := #[]) hZ wi)
  obtain ⟨k, hk, hi⟩ := notFace_of_selects (args := #[]) (mvT hZ ws) m' hn'
  have e1 := findClass_of_methodNamed h0
  have e2 := findClass_of_methodNamed hn'
  rw [hc, e1] at e2
  exact ⟨k, by rw [Option.some.inj e2]; exact hk, hi⟩
theorem sameOf {Z : State} {a0 : Array Value} {y : MethodName} (wi : (Jvm.Cond.instanceMethod y).before a0 Z = true) (nf : ∀ s : State, Z.Warmed39 s.vm → NotFace s y) (hy : y.cls ≠ "java/lang/invoke/MethodHandle" ∧ y.cls ≠ "java/lang/invoke/VarHandle") : (Jvm.Cond.sameMethod y.cls y.cls y.name y.desc).before a0 Z = true := by
  obtain ⟨c, n, d⟩ := y
  obtain ⟨m, meth, hn, -⟩ := Cond.instanceMethod_spec wi
  obtain ⟨k, hk, hi⟩ := nf Z (State.Warmed39.refl Z) m hn
  have hc := findClass_of_methodNamed hn
  have hf := State.methodFound?_of_named hn hy
  dsimp only at hc hf ⊢
  simp [Cond.before, Cond.holds, Cond.value, hc, hf, hn, hk, hi]
theorem stoArv {Z : State} {h : Heap} {a y : Addr} {kA : ClassId} {ty : FieldType} {z : Int32} {vs : List Value} {dv : Value} {C : String} (F : Arv Z h a kA ty z vs dv) (O : Ovr Z kA C) (I : Ins Z h y C true) : Sto Z h a (.ref y) := by
  obtain ⟨c, A, q, -⟩ := F
  exact Sto.ofV A q O I
theorem arvNe {Z : State} {h : Heap} {a b : Addr} {k k' : ClassId} {ty ty' : FieldType} {z z' : Int32} {vs vs' : List Value} {dv dv' : Value} (F : Arv Z h a k ty z vs dv) (G : Arv Z h b k' ty' z' vs' dv') (hn : ty ≠ ty') : a ≠ b := fun e => by
  subst e
  obtain ⟨c, A, -⟩ := F
  obtain ⟨c', B, -⟩ := G
  have e1 := A.1.symm.trans B.1
  cases e1
  obtain ⟨-, k1, h1, comp1, h2⟩ := A.2.1
  obtain ⟨-, k2, h3, comp2, h4⟩ := B.2.1
  rw [h1] at h3
  cases h3
  rw [h2] at h4
  cases h4
  exact hn rfl
theorem exaArvNe {Z : State} {h : Heap} {a b : Addr} {k : ClassId} {ty : FieldType} {z : Int32} {vs : List Value} {dv : Value} {C : String} {a0 : Array Value} {kk : Nat} (E : Exa Z h a C) (wi : (Jvm.Cond.instantiable C kk).before a0 Z = true) (G : Arv Z h b k ty z vs dv) : a ≠ b := by
  obtain ⟨c, A, -⟩ := G
  exact ne_arr E wi A
theorem arrKeep {Z : State} {h h' : Heap} {a : Addr} {c : Cell} {ty : FieldType} {ws : List Addr} (F : Arr Z h a c ty) (K : Keep h h' ws) (q : a ∉ ws) : Arr Z h' a c ty := ⟨K.2.1 _ _ F.1 q, F.2⟩
theorem keep0 {h h' : Heap} {ws : List Addr} (K : Keep h h' ws) (q : ∀ x ∈ ws, h.size ≤ x) : Keep h h' [] := ⟨K.1, fun x c r _ => K.2.1 x c r fun z => absurd (Array.getElem?_eq_some_iff.mp r).1 (Nat.not_lt.mpr (q x z)), K.2.2⟩
theorem dup2X1L {tb : Tables} [Ours tb] {e : Env} {below : List Frame} {T target : State} {m : MethodId} {c : Code} {g : JFrame} (h : At T m c below) (hx : tb.exec = Jvm.exec) (hg : g.method = m) {x : Int64} {y : Value} {rest : List Value} (hd : decode c.code g.pc = .ok (.dup2_x1, 1)) (hs : g.stack = .long x :: y :: rest) (hc : y.category = 1)
    (hr : Steps tb e below (T.setTop { g with pc := g.pc + 1, stack := .long x :: y :: .long x :: rest }) target) : Steps tb e below (T.setTop g) target := by
  subst hg
  jvm_step h [h.top, hx, hd, hs, hc, Value.category]
  exact ⟨hc, hr⟩
theorem getFR {p : Program} {l : Launch} {e : Env} {R : Room} {s : State} {m : MethodId} {args : Array Value} {below : List Frame} {meth : Method} {c : Code} {T : State} {locs : List Loc} {cells slots : Nat} {Z : State} {a0 : Array Value} {h : Heap} (X : Stand p l e R s m args below meth c T locs cells slots) (hx : p.tables.exec = Jvm.exec) (hZ : Z.Warmed39 s.vm) {own O n d : String} {index : Nat} (hown : s.vm.findClass own = some m.cls) (w : (Jvm.Cond.fieldRef own index O n d).before a0 Z = true)
    (eT : T.heap = h) {a : Addr} {v : Value} (F : Fld Z h a O n d v) {g : JFrame} (hg : g.method = m) {rest : List Value} (hs : g.stack = .ref a :: rest) (hd : decode c.code g.pc = .ok (.getfield index, 3)) : ∃ T', Stand p l e R s m args below meth c T' locs cells slots ∧ T'.heap = h ∧ ∀ target, Steps p.tables e below (T'.setTop { g with pc := g.pc + 3, stack := v :: rest }) target → Steps p.tables e below (T.setTop g) target := by
  obtain ⟨cell, cf, k, i, f, h1, h2, h3, h4, -, -, h7⟩ := F
  have hT : Z.Warmed39 T.vm := wtrans hZ X.warmed
  obtain ⟨cf', k', i', f', hi, hr⟩ := Cond.fieldRef_spec (s := Z.setVm T.vm) (cur := m.cls) (by show T.vm.findClass own = some m.cls; rw [X.warmed.alike.findClass]; exact hown) (Cond.fieldRef_warmed39 hT w)
  obtain ⟨k2, hi2, -⟩ := State.fieldFound?_setVm (s := Z) hT.alike h2
  cases hi.symm.trans hi2
  refine ⟨T, X, eT, fun target hrest => ?_⟩
  subst hg
  jvm_step X.here [hx, hd, getfield.wp_ready (e := e) (s := T) (f := g) X.here.top hr h3 hs (by rw [eT]; exact h1) h4 h7]
  exact hrest
theorem fitRef {Z : State} {a0 : Array Value} {C O n d : String} {kk : Nat} {ty : FieldType} {v : Value} {c : ClassId} {cell : Cell} {kf : Class} {cf i : Nat} {f : Field} (hc : Z.vm.findClass C = some cell.cls) (hst : cell.vm.isStatics = false) (hf2 : Z.fieldFound? O n d = some (cf, kf, i, f)) (L : (Jvm.Cond.lays C O n d).before a0 Z = true) (wi : (Jvm.Cond.instantiable C kk).before a0 Z = true) (hty : parseFieldDescriptor d = some ty) (hv : fits ty v = true) :
    f.type = ty ∧ hasFlag f.accessFlags Acc.final = false ∧ Z.fitsSlot cell.cls cell.vm f.slot v = true := by
  have ht := (State.fieldFound?_type hf2 hty).2
  obtain ⟨_, _, _, _, _, _, -, -, b3, -, b5, -⟩ := Cond.lays_spec L
  cases hf2.symm.trans b3
  obtain ⟨c1, k1, _, _, _, _, a1, a2, a3, -, -, a6, -⟩ := Laid.spec (Or.inl L)
  cases hf2.symm.trans a3
  cases hc.symm.trans a1
  obtain ⟨c2, k2, i1, i2, i3, -⟩ := Cond.instantiable_spec wi
  cases hc.symm.trans i1
  cases a2.symm.trans i2
  refine ⟨ht, b5, ?_⟩
  have q : Z.slotType? cell.cls cell.vm f.slot = some ty := by
    rw [← ht, ← a6]
    simp only [State.slotType?, a2, Option.bind_eq_bind, Option.bind_some, i3]
    cases hq : cell.vm with
    | statics _ => rw [hq] at hst; cases hst
    | _ => rfl
  rw [State.fitsSlot, q]
  simpa using hv
theorem putFR {p : Program} {l : Launch} {e : Env} {R : Room} {s : State} {m : MethodId} {args : Array Value} {below : List Frame} {meth : Method} {c : Code} {T : State} {locs : List Loc} {cells slots : Nat} {Z : State} {a0 : Array Value} {h : Heap} (X : Stand p l e R s m args below meth c T locs cells slots) (hx : p.tables.exec = Jvm.exec) (hZ : Z.Warmed39 s.vm) {own O n d C : String} {index kk : Nat} {ty : FieldType} (hown : s.vm.findClass own = some m.cls) (w : (Jvm.Cond.fieldRef own index O n d).before a0 Z = true)
    (eT : T.heap = h) {a : Addr} {v old : Value} (F : Fld Z h a O n d old) (E : Exa Z h a C) (L : (Jvm.Cond.lays C O n d).before a0 Z = true) (wi : (Jvm.Cond.instantiable C kk).before a0 Z = true) (hty : parseFieldDescriptor d = some ty) (hn : narrow ty v = v) (hf : fits ty v = true) {g : JFrame} (hg : g.method = m) {rest : List Value} (hs : g.stack = v :: .ref a :: rest) (hd : decode c.code g.pc = .ok (.putfield index, 3)) :
    ∃ T' h', Stand p l e R s m args below meth c T' (locs ++ [⟨a, Jvm.RoadKit.slotOf Z O n d⟩]) cells slots ∧ T'.heap = h' ∧ Wr h h' a (Jvm.RoadKit.slotOf Z O n d) v ∧ ∀ target, Steps p.tables e below (T'.setTop { g with pc := g.pc + 3, stack := rest }) target → Steps p.tables e below (T.setTop g) target := by
  obtain ⟨cell, cf, k, i, f, h1, h2, h3, h4, h5, -, h7⟩ := F
  obtain ⟨cellE, kc, e1, e2, -⟩ := E
  cases h1.symm.trans e1
  have hT : Z.Warmed39 T.vm := wtrans hZ X.warmed
  obtain ⟨cf', k', i', f', hi, hr⟩ := Cond.fieldRef_spec (s := Z.setVm T.vm) (cur := m.cls) (by show T.vm.findClass own = some m.cls; rw [X.warmed.alike.findClass]; exact hown) (Cond.fieldRef_warmed39 hT w)
  obtain ⟨k2, hi2, -⟩ := State.fieldFound?_setVm (s := Z) hT.alike h2
  cases hi.symm.trans hi2
  obtain ⟨t1, t2, t3⟩ := fitRef (c := 0) e2 h5 h2 L wi hty hf
  rw [← State.fitsSlot_setVm hT.alike] at t3
  have hlt := (Array.getElem?_eq_some_iff.mp h7).1
  obtain ⟨X', st⟩ := X.putfieldReady hx hr h3 (Or.inl t2) (by rw [eT]; exact h1) h4 hlt (by rw [t1]; exact hn) t3 hg hs hd
  have es : Jvm.RoadKit.slotOf Z O n d = f.slot := by simp [Jvm.RoadKit.slotOf, h2]
  rw [es]
  exact ⟨_, _, X', rfl, ⟨cell, h1, h5, hlt, by rw [← eT]; rfl⟩, st⟩
section W
variable {l : Launch} {R : Room} {n0 : Nat} {Q : Option Value → Heap → Prop} {K : Ctx} {Z : State} {a0 : Array Value} {own nm : String} {bytes : ByteArray} {maxL : Nat} {ret : Option FieldType} {h : Heap} {cells slots pc : Nat} {Ls : Array Slot} {st : List Value}
theorem Run.weaken {c' s' : Nat} (k : Run l R n0 Q K h c' s' pc Ls st) (hc : cells ≤ c') (hs : slots ≤ s') : Run l R n0 Q K h cells slots pc Ls st := fun T locs X N eT =>
  k T locs ⟨X.admits, X.cas, X.clock, X.frames, X.room, X.hears, X.method, X.code, X.here, X.tail, X.warmed, X.limits, X.bytes, X.same.mono hc hs⟩ N eT
theorem Run.post {Q' : Option Value → Heap → Prop} (k : Run l R n0 Q' K h cells slots pc Ls st) (hq : ∀ v h', Q' v h' → Q v h') : Run l R n0 Q K h cells slots pc Ls st := fun T locs X N eT => by
  obtain ⟨s₂, o, h1, h2, h3, v, L, h4, ⟨h5, h6⟩, h7⟩ := k T locs X N eT
  exact ⟨s₂, o, h1, h2, h3, v, L, h4, ⟨hq _ _ h5, h6⟩, h7⟩
theorem Run.cast {pc' : Nat} {Ls' : Array Slot} {st' : List Value} (k : Run l R n0 Q K h cells slots pc' Ls' st') (h1 : pc = pc') (h2 : Ls = Ls') (h3 : st = st') : Run l R n0 Q K h cells slots pc Ls st := by subst h1 h2 h3; exact k

theorem r_iloadN (C : Ok Z own nm bytes maxL ret K) (pc' : Nat) {k : Fin 4} {v : Int32} {st : List Value} (hd : decode bytes pc = .ok (.iload_n k, 1)) (hp : pc + 1 = pc') (hl : Ls[k.val]? = some (.val (.int v)))
    (k : Run l R n0 Q K h cells slots pc' Ls (.int v :: st)) : Run l R n0 Q K h cells slots pc Ls (st) := by
  obtain ⟨p, e, s, m, args, below, meth, c⟩ := K
  obtain ⟨hx, hby, hml, hown, hnm, hret, hlk, hZ⟩ := C
  dsimp only at hx hby hml hown hnm hret hlk hZ
  subst hp
  intro T locs X N eT
  obtain ⟨s₂, o, h1, h2⟩ := k T locs X N eT
  exact ⟨s₂, o, XS.iloadN X.here hx rfl (hb hby hd) hl h1, h2⟩
theorem r_lloadN (C : Ok Z own nm bytes maxL ret K) (pc' : Nat) {k : Fin 4} {v : Int64} {st : List Value} (hd : decode bytes pc = .ok (.lload_n k, 1)) (hp : pc + 1 = pc') (hl : Ls[k.val]? = some (.val (.long v)))
    (k : Run l R n0 Q K h cells slots pc' Ls (.long v :: st)) : Run l R n0 Q K h cells slots pc Ls (st) := by
  obtain ⟨p, e, s, m, args, below, meth, c⟩ := K
  obtain ⟨hx, hby, hml, hown, hnm, hret, hlk, hZ⟩ := C
  dsimp only at hx hby hml hown hnm hret hlk hZ
  subst hp
  intro T locs X N eT
  obtain ⟨s₂, o, h1, h2⟩ := k T locs X N eT
  exact ⟨s₂, o, XS.lloadN X.here hx rfl (hb hby hd) hl h1, h2⟩
theorem r_aloadN (C : Ok Z own nm bytes maxL ret K) (pc' : Nat) {k : Fin 4} {v : Value} {st : List Value} (hd : decode bytes pc = .ok (.aload_n k, 1)) (hp : pc + 1 = pc') (hl : Ls[k.val]? = some (.val v)) (hv : v.isRef = true)
    (k : Run l R n0 Q K h cells slots pc' Ls (v :: st)) : Run l R n0 Q K h cells slots pc Ls (st) := by
  obtain ⟨p, e, s, m, args, below, meth, c⟩ := K
  obtain ⟨hx, hby, hml, hown, hnm, hret, hlk, hZ⟩ := C
  dsimp only at hx hby hml hown hnm hret hlk hZ
  subst hp
  intro T locs X N eT
  obtain ⟨s₂, o, h1, h2⟩ := k T locs X N eT
  exact ⟨s₂, o, XS.aloadN X.here hx rfl (hb hby hd) hl hv h1, h2⟩
theorem r_istoreN (C : Ok Z own nm bytes maxL ret K) (pc' : Nat) (Ls' : Array Slot) {k : Fin 4} {v : Int32} {st : List Value} (hd : decode bytes pc = .ok (.istore_n k, 1)) (hp : pc + 1 = pc') (hl : storeLocals Ls k.val (.int v) = some Ls')
    (k : Run l R n0 Q K h cells slots pc' Ls' (st)) : Run l R n0 Q K h cells slots pc Ls (.int v :: st) := by
  obtain ⟨p, e, s, m, args, below, meth, c⟩ := K
  obtain ⟨hx, hby, hml, hown, hnm, hret, hlk, hZ⟩ := C
  dsimp only at hx hby hml hown hnm hret hlk hZ
  subst hp
  intro T locs X N eT
  obtain ⟨s₂, o, h1, h2⟩ := k T locs X N eT
  exact ⟨s₂, o, XS.istoreN X.here hx rfl (hb hby hd) rfl hl h1, h2⟩
theorem r_lstoreN (C : Ok Z own nm bytes maxL ret K) (pc' : Nat) (Ls' : Array Slot) {k : Fin 4} {v : Int64} {st : List Value} (hd : decode bytes pc = .ok (.lstore_n k, 1)) (hp : pc + 1 = pc') (hl : storeLocals Ls k.val (.long v) = some Ls')
    (k : Run l R n0 Q K h cells slots pc' Ls' (st)) : Run l R n0 Q K h cells slots pc Ls (.long v :: st) := by
  obtain ⟨p, e, s, m, args, below, meth, c⟩ := K
  obtain ⟨hx, hby, hml, hown, hnm, hret, hlk, hZ⟩ := C
  dsimp only at hx hby hml hown hnm hret hlk hZ
  subst hp
  intro T locs X N eT
  obtain ⟨s₂, o, h1, h2⟩ := k T locs X N eT
  exact ⟨s₂, o, XS.lstoreN X.here hx rfl (hb hby hd) rfl hl h1, h2⟩
theorem r_astoreN (C : Ok Z own nm bytes maxL ret K) (pc' : Nat) (Ls' : Array Slot) {k : Fin 4} {v : Value} {st : List Value} (hd : decode bytes pc = .ok (.astore_n k, 1)) (hp : pc + 1 = pc') (hv : v.isRef = true) (hl : storeLocals Ls k.val v = some Ls')
    (k : Run l R n0 Q K h cells slots pc' Ls' (st)) : Run l R n0 Q K h cells slots pc Ls (v :: st) := by
  obtain ⟨p, e, s, m, args, below, meth, c⟩ := K
  obtain ⟨hx, hby, hml, hown, hnm, hret, hlk, hZ⟩ := C
  dsimp only at hx hby hml hown hnm hret hlk hZ
  subst hp
  intro T locs X N eT
  obtain ⟨s₂, o, h1, h2⟩ := k T locs X N eT
  exact ⟨s₂, o, XS.astoreN X.here hx rfl (hb hby hd) rfl hv hl h1, h2⟩
theorem r_iload (C : Ok Z own nm bytes maxL ret K) (pc' : Nat) {k : Nat} {v : Int32} {st : List Value} (hd : decode bytes pc = .ok (.iload k, 2)) (hp : pc + 2 = pc') (hl : Ls[k]? = some (.val (.int v)))
    (k : Run l R n0 Q K h cells slots pc' Ls (.int v :: st)) : Run l R n0 Q K h cells slots pc Ls (st) := by
  obtain ⟨p, e, s, m, args, below, meth, c⟩ := K
  obtain ⟨hx, hby, hml, hown, hnm, hret, hlk, hZ⟩ := C
  dsimp only at hx hby hml hown hnm hret hlk hZ
  subst hp
  intro T locs X N eT
  obtain ⟨s₂, o, h1, h2⟩ := k T locs X N eT
  exact ⟨s₂, o, XS.iload X.here hx rfl (hb hby hd) hl h1, h2⟩
theorem r_lload (C : Ok Z own nm bytes maxL ret K) (pc' : Nat) {k : Nat} {v : Int64} {st : List Value} (hd : decode bytes pc = .ok (.lload k, 2)) (hp : pc + 2 = pc') (hl : Ls[k]? = some (.val (.long v)))
    (k : Run l R n0 Q K h cells slots pc' Ls (.long v :: st)) : Run l R n0 Q K h cells slots pc Ls (st) := by
  obtain ⟨p, e, s, m, args, below, meth, c⟩ := K
  obtain ⟨hx, hby, hml, hown, hnm, hret, hlk, hZ⟩ := C
  dsimp only at hx hby hml hown hnm hret hlk hZ
  subst hp
  intro T locs X N eT
  obtain ⟨s₂, o, h1, h2⟩ := k T locs X N eT
  exact ⟨s₂, o, XS.lload X.here hx rfl (hb hby hd) hl h1, h2⟩
theorem r_aload (C : Ok Z own nm bytes maxL ret K) (pc' : Nat) {k : Nat} {v : Value} {st : List Value} (hd : decode bytes pc = .ok (.aload k, 2)) (hp : pc + 2 = pc') (hl : Ls[k]? = some (.val v)) (hv : v.isRef = true)
    (k : Run l R n0 Q K h cells slots pc' Ls (v :: st)) : Run l R n0 Q K h cells slots pc Ls (st) := by
  obtain ⟨p, e, s, m, args, below, meth, c⟩ := K
  obtain ⟨hx, hby, hml, hown, hnm, hret, hlk, hZ⟩ := C
  dsimp only at hx hby hml hown hnm hret hlk hZ
  subst hp
  intro T locs X N eT
  obtain ⟨s₂, o, h1, h2⟩ := k T locs X N eT
  exact ⟨s₂, o, XS.aload X.here hx rfl (hb hby hd) hl hv h1, h2⟩
theorem r_istore (C : Ok Z own nm bytes maxL ret K) (pc' : Nat) (Ls' : Array Slot) {k : Nat} {v : Int32} {st : List Value} (hd : decode bytes pc = .ok (.istore k, 2)) (hp : pc + 2 = pc') (hl : storeLocals Ls k (.int v) = some Ls')
    (k : Run l R n0 Q K h cells slots pc' Ls' (st)) : Run l R n0 Q K h cells slots pc Ls (.int v :: st) := by
  obtain ⟨p, e, s, m, args, below, meth, c⟩ := K
  obtain ⟨hx, hby, hml, hown, hnm, hret, hlk, hZ⟩ := C
  dsimp only at hx hby hml hown hnm hret hlk hZ
  subst hp
  intro T locs X N eT
  obtain ⟨s₂, o, h1, h2⟩ := k T locs X N eT
  exact ⟨s₂, o, XS.istore X.here hx rfl (hb hby hd) rfl hl h1, h2⟩
theorem r_lstore (C : Ok Z own nm bytes maxL ret K) (pc' : Nat) (Ls' : Array Slot) {k : Nat} {v : Int64} {st : List Value} (hd : decode bytes pc = .ok (.lstore k, 2)) (hp : pc + 2 = pc') (hl : storeLocals Ls k (.long v) = some Ls')
    (k : Run l R n0 Q K h cells slots pc' Ls' (st)) : Run l R n0 Q K h cells slots pc Ls (.long v :: st) := by
  obtain ⟨p, e, s, m, args, below, meth, c⟩ := K
  obtain ⟨hx, hby, hml, hown, hnm, hret, hlk, hZ⟩ := C
  dsimp only at hx hby hml hown hnm hret hlk hZ
  subst hp
  intro T locs X N eT
  obtain ⟨s₂, o, h1, h2⟩ := k T locs X N eT
  exact ⟨s₂, o, XS.lstore X.here hx rfl (hb hby hd) rfl hl h1, h2⟩
theorem r_astore (C : Ok Z own nm bytes maxL ret K) (pc' : Nat) (Ls' : Array Slot) {k : Nat} {v : Value} {st : List Value} (hd : decode bytes pc = .ok (.astore k, 2)) (hp : pc + 2 = pc') (hv : v.isRef = true) (hl : storeLocals Ls k v = some Ls')
    (k : Run l R n0 Q K h cells slots pc' Ls' (st)) : Run l R n0 Q K h cells slots pc Ls (v :: st) := by
  obtain ⟨p, e, s, m, args, below, meth, c⟩ := K
  obtain ⟨hx, hby, hml, hown, hnm, hret, hlk, hZ⟩ := C
  dsimp only at hx hby hml hown hnm hret hlk hZ
  subst hp
  intro T locs X N eT
  obtain ⟨s₂, o, h1, h2⟩ := k T locs X N eT
  exact ⟨s₂, o, XS.astore X.here hx rfl (hb hby hd) rfl hv hl h1, h2⟩
theorem r_iconst (C : Ok Z own nm bytes maxL ret K) (pc' : Nat) (v : Int32) {i : Int} {st : List Value} (hd : decode bytes pc = .ok (.iconst i, 1)) (hp : pc + 1 = pc') (hv : Int32.ofInt i = v)
    (k : Run l R n0 Q K h cells slots pc' Ls (.int v :: st)) : Run l R n0 Q K h cells slots pc Ls (st) := by
  obtain ⟨p, e, s, m, args, below, meth, c⟩ := K
  obtain ⟨hx, hby, hml, hown, hnm, hret, hlk, hZ⟩ := C
  dsimp only at hx hby hml hown hnm hret hlk hZ
  subst hp
  intro T locs X N eT
  obtain ⟨s₂, o, h1, h2⟩ := k T locs X N eT
  exact ⟨s₂, o, XS.iconst X.here hx rfl (hb hby hd) (by rw [hv]; exact h1), h2⟩
theorem r_bipush (C : Ok Z own nm bytes maxL ret K) (pc' : Nat) (v : Int32) {i : Int} {st : List Value} (hd : decode bytes pc = .ok (.bipush i, 2)) (hp : pc + 2 = pc') (hv : (Int8.ofInt i).toInt32 = v)
    (k : Run l R n0 Q K h cells slots pc' Ls (.int v :: st)) : Run l R n0 Q K h cells slots pc Ls (st) := by
  obtain ⟨p, e, s, m, args, below, meth, c⟩ := K
  obtain ⟨hx, hby, hml, hown, hnm, hret, hlk, hZ⟩ := C
  dsimp only at hx hby hml hown hnm hret hlk hZ
  subst hp
  intro T locs X N eT
  obtain ⟨s₂, o, h1, h2⟩ := k T locs X N eT
  exact ⟨s₂, o, XS.bipush X.here hx rfl (hb hby hd) (by rw [hv]; exact h1), h2⟩
theorem r_sipush (C : Ok Z own nm bytes maxL ret K) (pc' : Nat) (v : Int32) {i : Int} {st : List Value} (hd : decode bytes pc = .ok (.sipush i, 3)) (hp : pc + 3 = pc') (hv : (Int16.ofInt i).toInt32 = v)
    (k : Run l R n0 Q K h cells slots pc' Ls (.int v :: st)) : Run l R n0 Q K h cells slots pc Ls (st) := by
  obtain ⟨p, e, s, m, args, below, meth, c⟩ := K
  obtain ⟨hx, hby, hml, hown, hnm, hret, hlk, hZ⟩ := C
  dsimp only at hx hby hml hown hnm hret hlk hZ
  subst hp
  intro T locs X N eT
  obtain ⟨s₂, o, h1, h2⟩ := k T locs X N eT
  exact ⟨s₂, o, XS.sipush X.here hx rfl (hb hby hd) (by rw [hv]; exact h1), h2⟩
theorem r_lconst (C : Ok Z own nm bytes maxL ret K) (pc' : Nat) (v : Int64) {i : Fin 2} {st : List Value} (hd : decode bytes pc = .ok (.lconst i, 1)) (hp : pc + 1 = pc') (hv : Int64.ofNat i = v)
    (k : Run l R n0 Q K h cells slots pc' Ls (.long v :: st)) : Run l R n0 Q K h cells slots pc Ls (st) := by
  obtain ⟨p, e, s, m, args, below, meth, c⟩ := K
  obtain ⟨hx, hby, hml, hown, hnm, hret, hlk, hZ⟩ := C
  dsimp only at hx hby hml hown hnm hret hlk hZ
  subst hp
  intro T locs X N eT
  obtain ⟨s₂, o, h1, h2⟩ := k T locs X N eT
  exact ⟨s₂, o, XS.lconst X.here hx rfl (hb hby hd) (by rw [hv]; exact h1), h2⟩
theorem r_aconst_null (C : Ok Z own nm bytes maxL ret K) (pc' : Nat)  {st : List Value} (hd : decode bytes pc = .ok (.aconst_null, 1)) (hp : pc + 1 = pc') 
    (k : Run l R n0 Q K h cells slots pc' Ls (.null :: st)) : Run l R n0 Q K h cells slots pc Ls (st) := by
  obtain ⟨p, e, s, m, args, below, meth, c⟩ := K
  obtain ⟨hx, hby, hml, hown, hnm, hret, hlk, hZ⟩ := C
  dsimp only at hx hby hml hown hnm hret hlk hZ
  subst hp
  intro T locs X N eT
  obtain ⟨s₂, o, h1, h2⟩ := k T locs X N eT
  exact ⟨s₂, o, XS.aconstNull X.here hx rfl (hb hby hd) h1, h2⟩
theorem r_iadd (C : Ok Z own nm bytes maxL ret K) (pc' : Nat) {x y : Int32} {st : List Value} (hd : decode bytes pc = .ok (.iadd, 1)) (hp : pc + 1 = pc') 
    (k : Run l R n0 Q K h cells slots pc' Ls (.int (x + y) :: st)) : Run l R n0 Q K h cells slots pc Ls (.int y :: .int x :: st) := by
  obtain ⟨p, e, s, m, args, below, meth, c⟩ := K
  obtain ⟨hx, hby, hml, hown, hnm, hret, hlk, hZ⟩ := C
  dsimp only at hx hby hml hown hnm hret hlk hZ
  subst hp
  intro T locs X N eT
  obtain ⟨s₂, o, h1, h2⟩ := k T locs X N eT
  exact ⟨s₂, o, XS.iadd X.here hx rfl (hb hby hd) rfl h1, h2⟩
theorem r_isub (C : Ok Z own nm bytes maxL ret K) (pc' : Nat) {x y : Int32} {st : List Value} (hd : decode bytes pc = .ok (.isub, 1)) (hp : pc + 1 = pc') 
    (k : Run l R n0 Q K h cells slots pc' Ls (.int (x - y) :: st)) : Run l R n0 Q K h cells slots pc Ls (.int y :: .int x :: st) := by
  obtain ⟨p, e, s, m, args, below, meth, c⟩ := K
  obtain ⟨hx, hby, hml, hown, hnm, hret, hlk, hZ⟩ := C
  dsimp only at hx hby hml hown hnm hret hlk hZ
  subst hp
  intro T locs X N eT
  obtain ⟨s₂, o, h1, h2⟩ := k T locs X N eT
  exact ⟨s₂, o, XS.isub X.here hx rfl (hb hby hd) rfl h1, h2⟩
theorem r_imul (C : Ok Z own nm bytes maxL ret K) (pc' : Nat) {x y : Int32} {st : List Value} (hd : decode bytes pc = .ok (.imul, 1)) (hp : pc + 1 = pc') 
    (k : Run l R n0 Q K h cells slots pc' Ls (.int (x * y) :: st)) : Run l R n0 Q K h cells slots pc Ls (.int y :: .int x :: st) := by
  obtain ⟨p, e, s, m, args, below, meth, c⟩ := K
  obtain ⟨hx, hby, hml, hown, hnm, hret, hlk, hZ⟩ := C
  dsimp only at hx hby hml hown hnm hret hlk hZ
  subst hp
  intro T locs X N eT
  obtain ⟨s₂, o, h1, h2⟩ := k T locs X N eT
  exact ⟨s₂, o, XS.imul X.here hx rfl (hb hby hd) rfl h1, h2⟩
theorem r_iand (C : Ok Z own nm bytes maxL ret K) (pc' : Nat) {x y : Int32} {st : List Value} (hd : decode bytes pc = .ok (.iand, 1)) (hp : pc + 1 = pc') 
    (k : Run l R n0 Q K h cells slots pc' Ls (.int (x &&& y) :: st)) : Run l R n0 Q K h cells slots pc Ls (.int y :: .int x :: st) := by
  obtain ⟨p, e, s, m, args, below, meth, c⟩ := K
  obtain ⟨hx, hby, hml, hown, hnm, hret, hlk, hZ⟩ := C
  dsimp only at hx hby hml hown hnm hret hlk hZ
  subst hp
  intro T locs X N eT
  obtain ⟨s₂, o, h1, h2⟩ := k T locs X N eT
  exact ⟨s₂, o, XS.iand X.here hx rfl (hb hby hd) rfl h1, h2⟩
theorem r_ior (C : Ok Z own nm bytes maxL ret K) (pc' : Nat) {x y : Int32} {st : List Value} (hd : decode bytes pc = .ok (.ior, 1)) (hp : pc + 1 = pc') 
    (k : Run l R n0 Q K h cells slots pc' Ls (.int (x ||| y) :: st)) : Run l R n0 Q K h cells slots pc Ls (.int y :: .int x :: st) := by
  obtain ⟨p, e, s, m, args, below, meth, c⟩ := K
  obtain ⟨hx, hby, hml, hown, hnm, hret, hlk, hZ⟩ := C
  dsimp only at hx hby hml hown hnm hret hlk hZ
  subst hp
  intro T locs X N eT
  obtain ⟨s₂, o, h1, h2⟩ := k T locs X N eT
  exact ⟨s₂, o, XS.ior X.here hx rfl (hb hby hd) rfl h1, h2⟩
theorem r_ixor (C : Ok Z own nm bytes maxL ret K) (pc' : Nat) {x y : Int32} {st : List Value} (hd : decode bytes pc = .ok (.ixor, 1)) (hp : pc + 1 = pc') 
    (k : Run l R n0 Q K h cells slots pc' Ls (.int (x ^^^ y) :: st)) : Run l R n0 Q K h cells slots pc Ls (.int y :: .int x :: st) := by
  obtain ⟨p, e, s, m, args, below, meth, c⟩ := K
  obtain ⟨hx, hby, hml, hown, hnm, hret, hlk, hZ⟩ := C
  dsimp only at hx hby hml hown hnm hret hlk hZ
  subst hp
  intro T locs X N eT
  obtain ⟨s₂, o, h1, h2⟩ := k T locs X N eT
  exact ⟨s₂, o, XS.ixor X.here hx rfl (hb hby hd) rfl h1, h2⟩
theorem r_ishl (C : Ok Z own nm bytes maxL ret K) (pc' : Nat) {x y : Int32} {st : List Value} (hd : decode bytes pc = .ok (.ishl, 1)) (hp : pc + 1 = pc') 
    (k : Run l R n0 Q K h cells slots pc' Ls (.int (x <<< (y &&& 31)) :: st)) : Run l R n0 Q K h cells slots pc Ls (.int y :: .int x :: st) := by
  obtain ⟨p, e, s, m, args, below, meth, c⟩ := K
  obtain ⟨hx, hby, hml, hown, hnm, hret, hlk, hZ⟩ := C
  dsimp only at hx hby hml hown hnm hret hlk hZ
  subst hp
  intro T locs X N eT
  obtain ⟨s₂, o, h1, h2⟩ := k T locs X N eT
  exact ⟨s₂, o, XS.ishl X.here hx rfl (hb hby hd) rfl h1, h2⟩
theorem r_ishr (C : Ok Z own nm bytes maxL ret K) (pc' : Nat) {x y : Int32} {st : List Value} (hd : decode bytes pc = .ok (.ishr, 1)) (hp : pc + 1 = pc') 
    (k : Run l R n0 Q K h cells slots pc' Ls (.int (x >>> (y &&& 31)) :: st)) : Run l R n0 Q K h cells slots pc Ls (.int y :: .int x :: st) := by
  obtain ⟨p, e, s, m, args, below, meth, c⟩ := K
  obtain ⟨hx, hby, hml, hown, hnm, hret, hlk, hZ⟩ := C
  dsimp only at hx hby hml hown hnm hret hlk hZ
  subst hp
  intro T locs X N eT
  obtain ⟨s₂, o, h1, h2⟩ := k T locs X N eT
  exact ⟨s₂, o, XS.ishr X.here hx rfl (hb hby hd) rfl h1, h2⟩
theorem r_iushr (C : Ok Z own nm bytes maxL ret K) (pc' : Nat) {x y : Int32} {st : List Value} (hd : decode bytes pc = .ok (.iushr, 1)) (hp : pc + 1 = pc') 
    (k : Run l R n0 Q K h cells slots pc' Ls (.int ((x.toUInt32 >>> (y &&& 31).toUInt32).toInt32) :: st)) : Run l R n0 Q K h cells slots pc Ls (.int y :: .int x :: st) := by
  obtain ⟨p, e, s, m, args, below, meth, c⟩ := K
  obtain ⟨hx, hby, hml, hown, hnm, hret, hlk, hZ⟩ := C
  dsimp only at hx hby hml hown hnm hret hlk hZ
  subst hp
  intro T locs X N eT
  obtain ⟨s₂, o, h1, h2⟩ := k T locs X N eT
  exact ⟨s₂, o, XS.iushr X.here hx rfl (hb hby hd) rfl h1, h2⟩
theorem r_ladd (C : Ok Z own nm bytes maxL ret K) (pc' : Nat) {x y : Int64} {st : List Value} (hd : decode bytes pc = .ok (.ladd, 1)) (hp : pc + 1 = pc') 
    (k : Run l R n0 Q K h cells slots pc' Ls (.long (x + y) :: st)) : Run l R n0 Q K h cells slots pc Ls (.long y :: .long x :: st) := by
  obtain ⟨p, e, s, m, args, below, meth, c⟩ := K
  obtain ⟨hx, hby, hml, hown, hnm, hret, hlk, hZ⟩ := C
  dsimp only at hx hby hml hown hnm hret hlk hZ
  subst hp
  intro T locs X N eT
  obtain ⟨s₂, o, h1, h2⟩ := k T locs X N eT
  exact ⟨s₂, o, XS.ladd X.here hx rfl (hb hby hd) rfl h1, h2⟩
theorem r_lsub (C : Ok Z own nm bytes maxL ret K) (pc' : Nat) {x y : Int64} {st : List Value} (hd : decode bytes pc = .ok (.lsub, 1)) (hp : pc + 1 = pc') 
    (k : Run l R n0 Q K h cells slots pc' Ls (.long (x - y) :: st)) : Run l R n0 Q K h cells slots pc Ls (.long y :: .long x :: st) := by
  obtain ⟨p, e, s, m, args, below, meth, c⟩ := K
  obtain ⟨hx, hby, hml, hown, hnm, hret, hlk, hZ⟩ := C
  dsimp only at hx hby hml hown hnm hret hlk hZ
  subst hp
  intro T locs X N eT
  obtain ⟨s₂, o, h1, h2⟩ := k T locs X N eT
  exact ⟨s₂, o, XS.lsub X.here hx rfl (hb hby hd) rfl h1, h2⟩
theorem r_lmul (C : Ok Z own nm bytes maxL ret K) (pc' : Nat) {x y : Int64} {st : List Value} (hd : decode bytes pc = .ok (.lmul, 1)) (hp : pc + 1 = pc') 
    (k : Run l R n0 Q K h cells slots pc' Ls (.long (x * y) :: st)) : Run l R n0 Q K h cells slots pc Ls (.long y :: .long x :: st) := by
  obtain ⟨p, e, s, m, args, below, meth, c⟩ := K
  obtain ⟨hx, hby, hml, hown, hnm, hret, hlk, hZ⟩ := C
  dsimp only at hx hby hml hown hnm hret hlk hZ
  subst hp
  intro T locs X N eT
  obtain ⟨s₂, o, h1, h2⟩ := k T locs X N eT
  exact ⟨s₂, o, XS.lmul X.here hx rfl (hb hby hd) rfl h1, h2⟩
theorem r_land (C : Ok Z own nm bytes maxL ret K) (pc' : Nat) {x y : Int64} {st : List Value} (hd : decode bytes pc = .ok (.land, 1)) (hp : pc + 1 = pc') 
    (k : Run l R n0 Q K h cells slots pc' Ls (.long (x &&& y) :: st)) : Run l R n0 Q K h cells slots pc Ls (.long y :: .long x :: st) := by
  obtain ⟨p, e, s, m, args, below, meth, c⟩ := K
  obtain ⟨hx, hby, hml, hown, hnm, hret, hlk, hZ⟩ := C
  dsimp only at hx hby hml hown hnm hret hlk hZ
  subst hp
  intro T locs X N eT
  obtain ⟨s₂, o, h1, h2⟩ := k T locs X N eT
  exact ⟨s₂, o, XS.land X.here hx rfl (hb hby hd) rfl h1, h2⟩
theorem r_lor (C : Ok Z own nm bytes maxL ret K) (pc' : Nat) {x y : Int64} {st : List Value} (hd : decode bytes pc = .ok (.lor, 1)) (hp : pc + 1 = pc') 
    (k : Run l R n0 Q K h cells slots pc' Ls (.long (x ||| y) :: st)) : Run l R n0 Q K h cells slots pc Ls (.long y :: .long x :: st) := by
  obtain ⟨p, e, s, m, args, below, meth, c⟩ := K
  obtain ⟨hx, hby, hml, hown, hnm, hret, hlk, hZ⟩ := C
  dsimp only at hx hby hml hown hnm hret hlk hZ
  subst hp
  intro T locs X N eT
  obtain ⟨s₂, o, h1, h2⟩ := k T locs X N eT
  exact ⟨s₂, o, XS.lor X.here hx rfl (hb hby hd) rfl h1, h2⟩
theorem r_lxor (C : Ok Z own nm bytes maxL ret K) (pc' : Nat) {x y : Int64} {st : List Value} (hd : decode bytes pc = .ok (.lxor, 1)) (hp : pc + 1 = pc') 
    (k : Run l R n0 Q K h cells slots pc' Ls (.long (x ^^^ y) :: st)) : Run l R n0 Q K h cells slots pc Ls (.long y :: .long x :: st) := by
  obtain ⟨p, e, s, m, args, below, meth, c⟩ := K
  obtain ⟨hx, hby, hml, hown, hnm, hret, hlk, hZ⟩ := C
  dsimp only at hx hby hml hown hnm hret hlk hZ
  subst hp
  intro T locs X N eT
  obtain ⟨s₂, o, h1, h2⟩ := k T locs X N eT
  exact ⟨s₂, o, XS.lxor X.here hx rfl (hb hby hd) rfl h1, h2⟩
theorem r_lshl (C : Ok Z own nm bytes maxL ret K) (pc' : Nat) {x : Int64} {y : Int32} {st : List Value} (hd : decode bytes pc = .ok (.lshl, 1)) (hp : pc + 1 = pc') 
    (k : Run l R n0 Q K h cells slots pc' Ls (.long (x <<< (y &&& 0x3f).toInt64) :: st)) : Run l R n0 Q K h cells slots pc Ls (.int y :: .long x :: st) := by
  obtain ⟨p, e, s, m, args, below, meth, c⟩ := K
  obtain ⟨hx, hby, hml, hown, hnm, hret, hlk, hZ⟩ := C
  dsimp only at hx hby hml hown hnm hret hlk hZ
  subst hp
  intro T locs X N eT
  obtain ⟨s₂, o, h1, h2⟩ := k T locs X N eT
  exact ⟨s₂, o, XS.lshl X.here hx rfl (hb hby hd) rfl h1, h2⟩
theorem r_lshr (C : Ok Z own nm bytes maxL ret K) (pc' : Nat) {x : Int64} {y : Int32} {st : List Value} (hd : decode bytes pc = .ok (.lshr, 1)) (hp : pc + 1 = pc') 
    (k : Run l R n0 Q K h cells slots pc' Ls (.long (x >>> (y &&& 0x3f).toInt64) :: st)) : Run l R n0 Q K h cells slots pc Ls (.int y :: .long x :: st) := by
  obtain ⟨p, e, s, m, args, below, meth, c⟩ := K
  obtain ⟨hx, hby, hml, hown, hnm, hret, hlk, hZ⟩ := C
  dsimp only at hx hby hml hown hnm hret hlk hZ
  subst hp
  intro T locs X N eT
  obtain ⟨s₂, o, h1, h2⟩ := k T locs X N eT
  exact ⟨s₂, o, XS.lshr X.here hx rfl (hb hby hd) rfl h1, h2⟩
theorem r_lushr (C : Ok Z own nm bytes maxL ret K) (pc' : Nat) {x : Int64} {y : Int32} {st : List Value} (hd : decode bytes pc = .ok (.lushr, 1)) (hp : pc + 1 = pc') 
    (k : Run l R n0 Q K h cells slots pc' Ls (.long ((x.toUInt64 >>> (y &&& 0x3f).toInt64.toUInt64).toInt64) :: st)) : Run l R n0 Q K h cells slots pc Ls (.int y :: .long x :: st) := by
  obtain ⟨p, e, s, m, args, below, meth, c⟩ := K
  obtain ⟨hx, hby, hml, hown, hnm, hret, hlk, hZ⟩ := C
  dsimp only at hx hby hml hown hnm hret hlk hZ
  subst hp
  intro T locs X N eT
  obtain ⟨s₂, o, h1, h2⟩ := k T locs X N eT
  exact ⟨s₂, o, XS.lushr X.here hx rfl (hb hby hd) rfl h1, h2⟩
theorem r_idiv (C : Ok Z own nm bytes maxL ret K) (pc' : Nat) {x y : Int32} {st : List Value} (hd : decode bytes pc = .ok (.idiv, 1)) (hp : pc + 1 = pc') (hy : y ≠ 0)
    (k : Run l R n0 Q K h cells slots pc' Ls (.int (x / y) :: st)) : Run l R n0 Q K h cells slots pc Ls (.int y :: .int x :: st) := by
  obtain ⟨p, e, s, m, args, below, meth, c⟩ := K
  obtain ⟨hx, hby, hml, hown, hnm, hret, hlk, hZ⟩ := C
  dsimp only at hx hby hml hown hnm hret hlk hZ
  subst hp
  intro T locs X N eT
  obtain ⟨s₂, o, h1, h2⟩ := k T locs X N eT
  exact ⟨s₂, o, XS.idiv X.here hx rfl (hb hby hd) rfl hy h1, h2⟩
theorem r_irem (C : Ok Z own nm bytes maxL ret K) (pc' : Nat) {x y : Int32} {st : List Value} (hd : decode bytes pc = .ok (.irem, 1)) (hp : pc + 1 = pc') (hy : y ≠ 0)
    (k : Run l R n0 Q K h cells slots pc' Ls (.int (x % y) :: st)) : Run l R n0 Q K h cells slots pc Ls (.int y :: .int x :: st) := by
  obtain ⟨p, e, s, m, args, below, meth, c⟩ := K
  obtain ⟨hx, hby, hml, hown, hnm, hret, hlk, hZ⟩ := C
  dsimp only at hx hby hml hown hnm hret hlk hZ
  subst hp
  intro T locs X N eT
  obtain ⟨s₂, o, h1, h2⟩ := k T locs X N eT
  exact ⟨s₂, o, iremM X hx rfl (hb hby hd) rfl hy h1, h2⟩
theorem r_ldiv (C : Ok Z own nm bytes maxL ret K) (pc' : Nat) {x y : Int64} {st : List Value} (hd : decode bytes pc = .ok (.ldiv, 1)) (hp : pc + 1 = pc') (hy : y ≠ 0)
    (k : Run l R n0 Q K h cells slots pc' Ls (.long (x / y) :: st)) : Run l R n0 Q K h cells slots pc Ls (.long y :: .long x :: st) := by
  obtain ⟨p, e, s, m, args, below, meth, c⟩ := K
  obtain ⟨hx, hby, hml, hown, hnm, hret, hlk, hZ⟩ := C
  dsimp only at hx hby hml hown hnm hret hlk hZ
  subst hp
  intro T locs X N eT
  obtain ⟨s₂, o, h1, h2⟩ := k T locs X N eT
  exact ⟨s₂, o, XS.ldiv X.here hx rfl (hb hby hd) rfl hy h1, h2⟩
theorem r_lrem (C : Ok Z own nm bytes maxL ret K) (pc' : Nat) {x y : Int64} {st : List Value} (hd : decode bytes pc = .ok (.lrem, 1)) (hp : pc + 1 = pc') (hy : y ≠ 0)
    (k : Run l R n0 Q K h cells slots pc' Ls (.long (x % y) :: st)) : Run l R n0 Q K h cells slots pc Ls (.long y :: .long x :: st) := by
  obtain ⟨p, e, s, m, args, below, meth, c⟩ := K
  obtain ⟨hx, hby, hml, hown, hnm, hret, hlk, hZ⟩ := C
  dsimp only at hx hby hml hown hnm hret hlk hZ
  subst hp
  intro T locs X N eT
  obtain ⟨s₂, o, h1, h2⟩ := k T locs X N eT
  exact ⟨s₂, o, XS.lrem X.here hx rfl (hb hby hd) rfl hy (by rw [lrem_mod]; exact h1), h2⟩
theorem r_ineg (C : Ok Z own nm bytes maxL ret K) (pc' : Nat) {x : Int32} {st : List Value} (hd : decode bytes pc = .ok (.ineg, 1)) (hp : pc + 1 = pc') 
    (k : Run l R n0 Q K h cells slots pc' Ls (.int (-x) :: st)) : Run l R n0 Q K h cells slots pc Ls (.int x :: st) := by
  obtain ⟨p, e, s, m, args, below, meth, c⟩ := K
  obtain ⟨hx, hby, hml, hown, hnm, hret, hlk, hZ⟩ := C
  dsimp only at hx hby hml hown hnm hret hlk hZ
  subst hp
  intro T locs X N eT
  obtain ⟨s₂, o, h1, h2⟩ := k T locs X N eT
  exact ⟨s₂, o, XS.ineg X.here hx rfl (hb hby hd) rfl h1, h2⟩
theorem r_lneg (C : Ok Z own nm bytes maxL ret K) (pc' : Nat) {x : Int64} {st : List Value} (hd : decode bytes pc = .ok (.lneg, 1)) (hp : pc + 1 = pc') 
    (k : Run l R n0 Q K h cells slots pc' Ls (.long (-x) :: st)) : Run l R n0 Q K h cells slots pc Ls (.long x :: st) := by
  obtain ⟨p, e, s, m, args, below, meth, c⟩ := K
  obtain ⟨hx, hby, hml, hown, hnm, hret, hlk, hZ⟩ := C
  dsimp only at hx hby hml hown hnm hret hlk hZ
  subst hp
  intro T locs X N eT
  obtain ⟨s₂, o, h1, h2⟩ := k T locs X N eT
  exact ⟨s₂, o, XS.lneg X.here hx rfl (hb hby hd) rfl h1, h2⟩
theorem r_i2l (C : Ok Z own nm bytes maxL ret K) (pc' : Nat) {x : Int32} {st : List Value} (hd : decode bytes pc = .ok (.i2l, 1)) (hp : pc + 1 = pc') 
    (k : Run l R n0 Q K h cells slots pc' Ls (.long (x.toInt64) :: st)) : Run l R n0 Q K h cells slots pc Ls (.int x :: st) := by
  obtain ⟨p, e, s, m, args, below, meth, c⟩ := K
  obtain ⟨hx, hby, hml, hown, hnm, hret, hlk, hZ⟩ := C
  dsimp only at hx hby hml hown hnm hret hlk hZ
  subst hp
  intro T locs X N eT
  obtain ⟨s₂, o, h1, h2⟩ := k T locs X N eT
  exact ⟨s₂, o, XS.i2l X.here hx rfl (hb hby hd) rfl h1, h2⟩
theorem r_l2i (C : Ok Z own nm bytes maxL ret K) (pc' : Nat) {x : Int64} {st : List Value} (hd : decode bytes pc = .ok (.l2i, 1)) (hp : pc + 1 = pc') 
    (k : Run l R n0 Q K h cells slots pc' Ls (.int (x.toInt32) :: st)) : Run l R n0 Q K h cells slots pc Ls (.long x :: st) := by
  obtain ⟨p, e, s, m, args, below, meth, c⟩ := K
  obtain ⟨hx, hby, hml, hown, hnm, hret, hlk, hZ⟩ := C
  dsimp only at hx hby hml hown hnm hret hlk hZ
  subst hp
  intro T locs X N eT
  obtain ⟨s₂, o, h1, h2⟩ := k T locs X N eT
  exact ⟨s₂, o, XS.l2i X.here hx rfl (hb hby hd) rfl h1, h2⟩
theorem r_i2b (C : Ok Z own nm bytes maxL ret K) (pc' : Nat) {x : Int32} {st : List Value} (hd : decode bytes pc = .ok (.i2b, 1)) (hp : pc + 1 = pc') 
    (k : Run l R n0 Q K h cells slots pc' Ls (.int (x.toInt8.toInt32) :: st)) : Run l R n0 Q K h cells slots pc Ls (.int x :: st) := by
  obtain ⟨p, e, s, m, args, below, meth, c⟩ := K
  obtain ⟨hx, hby, hml, hown, hnm, hret, hlk, hZ⟩ := C
  dsimp only at hx hby hml hown hnm hret hlk hZ
  subst hp
  intro T locs X N eT
  obtain ⟨s₂, o, h1, h2⟩ := k T locs X N eT
  exact ⟨s₂, o, XS.i2b X.here hx rfl (hb hby hd) rfl h1, h2⟩
theorem r_i2s (C : Ok Z own nm bytes maxL ret K) (pc' : Nat) {x : Int32} {st : List Value} (hd : decode bytes pc = .ok (.i2s, 1)) (hp : pc + 1 = pc') 
    (k : Run l R n0 Q K h cells slots pc' Ls (.int (x.toInt16.toInt32) :: st)) : Run l R n0 Q K h cells slots pc Ls (.int x :: st) := by
  obtain ⟨p, e, s, m, args, below, meth, c⟩ := K
  obtain ⟨hx, hby, hml, hown, hnm, hret, hlk, hZ⟩ := C
  dsimp only at hx hby hml hown hnm hret hlk hZ
  subst hp
  intro T locs X N eT
  obtain ⟨s₂, o, h1, h2⟩ := k T locs X N eT
  exact ⟨s₂, o, XS.i2s X.here hx rfl (hb hby hd) rfl h1, h2⟩
theorem r_i2c (C : Ok Z own nm bytes maxL ret K) (pc' : Nat) {x : Int32} {st : List Value} (hd : decode bytes pc = .ok (.i2c, 1)) (hp : pc + 1 = pc') 
    (k : Run l R n0 Q K h cells slots pc' Ls (.int (x.toUInt32.toUInt16.toUInt32.toInt32) :: st)) : Run l R n0 Q K h cells slots pc Ls (.int x :: st) := by
  obtain ⟨p, e, s, m, args, below, meth, c⟩ := K
  obtain ⟨hx, hby, hml, hown, hnm, hret, hlk, hZ⟩ := C
  dsimp only at hx hby hml hown hnm hret hlk hZ
  subst hp
  intro T locs X N eT
  obtain ⟨s₂, o, h1, h2⟩ := k T locs X N eT
  exact ⟨s₂, o, XS.i2c X.here hx rfl (hb hby hd) rfl h1, h2⟩
theorem r_iinc (C : Ok Z own nm bytes maxL ret K) (pc' : Nat) (Ls' : Array Slot) {k : Nat} {i : Int} {x : Int32} {st : List Value} (hd : decode bytes pc = .ok (.iinc k i, 3)) (hp : pc + 3 = pc') (hl : Ls[k]? = some (.val (.int x))) (hl' : storeLocals Ls k (.int (x + Int32.ofInt i)) = some Ls')
    (k : Run l R n0 Q K h cells slots pc' Ls' (st)) : Run l R n0 Q K h cells slots pc Ls (st) := by
  obtain ⟨p, e, s, m, args, below, meth, c⟩ := K
  obtain ⟨hx, hby, hml, hown, hnm, hret, hlk, hZ⟩ := C
  dsimp only at hx hby hml hown hnm hret hlk hZ
  subst hp
  intro T locs X N eT
  obtain ⟨s₂, o, h1, h2⟩ := k T locs X N eT
  exact ⟨s₂, o, XS.iinc X.here hx rfl (hb hby hd) hl hl' h1, h2⟩
theorem r_dup (C : Ok Z own nm bytes maxL ret K) (pc' : Nat) {x : Value} {st : List Value} (hd : decode bytes pc = .ok (.dup, 1)) (hp : pc + 1 = pc') (hc : x.category = 1)
    (k : Run l R n0 Q K h cells slots pc' Ls (x :: x :: st)) : Run l R n0 Q K h cells slots pc Ls (x :: st) := by
  obtain ⟨p, e, s, m, args, below, meth, c⟩ := K
  obtain ⟨hx, hby, hml, hown, hnm, hret, hlk, hZ⟩ := C
  dsimp only at hx hby hml hown hnm hret hlk hZ
  subst hp
  intro T locs X N eT
  obtain ⟨s₂, o, h1, h2⟩ := k T locs X N eT
  exact ⟨s₂, o, XS.dup X.here hx rfl (hb hby hd) rfl hc h1, h2⟩
theorem r_pop (C : Ok Z own nm bytes maxL ret K) (pc' : Nat) {x : Value} {st : List Value} (hd : decode bytes pc = .ok (.pop, 1)) (hp : pc + 1 = pc') (hc : x.category = 1)
    (k : Run l R n0 Q K h cells slots pc' Ls (st)) : Run l R n0 Q K h cells slots pc Ls (x :: st) := by
  obtain ⟨p, e, s, m, args, below, meth, c⟩ := K
  obtain ⟨hx, hby, hml, hown, hnm, hret, hlk, hZ⟩ := C
  dsimp only at hx hby hml hown hnm hret hlk hZ
  subst hp
  intro T locs X N eT
  obtain ⟨s₂, o, h1, h2⟩ := k T locs X N eT
  exact ⟨s₂, o, XS.pop X.here hx rfl (hb hby hd) rfl hc h1, h2⟩
theorem r_dup_x1 (C : Ok Z own nm bytes maxL ret K) (pc' : Nat) {x y : Value} {st : List Value} (hd : decode bytes pc = .ok (.dup_x1, 1)) (hp : pc + 1 = pc') (hc : x.category = 1) (hc' : y.category = 1)
    (k : Run l R n0 Q K h cells slots pc' Ls (x :: y :: x :: st)) : Run l R n0 Q K h cells slots pc Ls (x :: y :: st) := by
  obtain ⟨p, e, s, m, args, below, meth, c⟩ := K
  obtain ⟨hx, hby, hml, hown, hnm, hret, hlk, hZ⟩ := C
  dsimp only at hx hby hml hown hnm hret hlk hZ
  subst hp
  intro T locs X N eT
  obtain ⟨s₂, o, h1, h2⟩ := k T locs X N eT
  exact ⟨s₂, o, XS.dupX1 X.here hx rfl (hb hby hd) rfl hc hc' h1, h2⟩
theorem r_dup2_x1 (C : Ok Z own nm bytes maxL ret K) (pc' : Nat) {x : Int64} {y : Value} {st : List Value} (hd : decode bytes pc = .ok (.dup2_x1, 1)) (hp : pc + 1 = pc') (hc : y.category = 1)
    (k : Run l R n0 Q K h cells slots pc' Ls (.long x :: y :: .long x :: st)) : Run l R n0 Q K h cells slots pc Ls (.long x :: y :: st) := by
  obtain ⟨p, e, s, m, args, below, meth, c⟩ := K
  obtain ⟨hx, hby, hml, hown, hnm, hret, hlk, hZ⟩ := C
  dsimp only at hx hby hml hown hnm hret hlk hZ
  subst hp
  intro T locs X N eT
  obtain ⟨s₂, o, h1, h2⟩ := k T locs X N eT
  exact ⟨s₂, o, dup2X1L X.here hx rfl (hb hby hd) rfl hc h1, h2⟩
theorem r_dup2 (C : Ok Z own nm bytes maxL ret K) (pc' : Nat) {x y : Value} {st : List Value} (hd : decode bytes pc = .ok (.dup2, 1)) (hp : pc + 1 = pc') (hc : x.category = 1) (hc' : y.category = 1)
    (k : Run l R n0 Q K h cells slots pc' Ls (x :: y :: x :: y :: st)) : Run l R n0 Q K h cells slots pc Ls (x :: y :: st) := by
  obtain ⟨p, e, s, m, args, below, meth, c⟩ := K
  obtain ⟨hx, hby, hml, hown, hnm, hret, hlk, hZ⟩ := C
  dsimp only at hx hby hml hown hnm hret hlk hZ
  subst hp
  intro T locs X N eT
  obtain ⟨s₂, o, h1, h2⟩ := k T locs X N eT
  exact ⟨s₂, o, XT.dup2 X.here hx rfl (hb hby hd) rfl hc hc' h1, h2⟩
theorem r_ldc (C : Ok Z own nm bytes maxL ret K) (pc' : Nat) {i : Nat} {v : Int32} {st : List Value} (hd : decode bytes pc = .ok (.ldc i, 2)) (hp : pc + 2 = pc') (w : (Jvm.Cond.constant own i v).before a0 Z = true)
    (k : Run l R n0 Q K h cells slots pc' Ls (.int v :: st)) : Run l R n0 Q K h cells slots pc Ls (st) := by
  obtain ⟨p, e, s, m, args, below, meth, c⟩ := K
  obtain ⟨hx, hby, hml, hown, hnm, hret, hlk, hZ⟩ := C
  dsimp only at hx hby hml hown hnm hret hlk hZ
  subst hp
  intro T locs X N eT
  obtain ⟨s₂, o, h1, h2⟩ := k T locs X N eT
  exact ⟨s₂, o, X.ldcInt hx hown (mvT hZ w) (g := mkF m pc Ls st) rfl (hb hby hd) _ h1, h2⟩
theorem r_ldc_w (C : Ok Z own nm bytes maxL ret K) (pc' : Nat) {i : Nat} {v : Int32} {st : List Value} (hd : decode bytes pc = .ok (.ldc_w i, 3)) (hp : pc + 3 = pc') (w : (Jvm.Cond.constant own i v).before a0 Z = true)
    (k : Run l R n0 Q K h cells slots pc' Ls (.int v :: st)) : Run l R n0 Q K h cells slots pc Ls (st) := by
  obtain ⟨p, e, s, m, args, below, meth, c⟩ := K
  obtain ⟨hx, hby, hml, hown, hnm, hret, hlk, hZ⟩ := C
  dsimp only at hx hby hml hown hnm hret hlk hZ
  subst hp
  intro T locs X N eT
  obtain ⟨s₂, o, h1, h2⟩ := k T locs X N eT
  exact ⟨s₂, o, X.ldcwInt hx hown (mvT hZ w) (g := mkF m pc Ls st) rfl (hb hby hd) _ h1, h2⟩
theorem r_ldc2_w (C : Ok Z own nm bytes maxL ret K) (pc' : Nat) {i : Nat} {v : Int64} {st : List Value} (hd : decode bytes pc = .ok (.ldc2_w i, 3)) (hp : pc + 3 = pc') (w : (Jvm.Cond.constantLong own i v).before a0 Z = true)
    (k : Run l R n0 Q K h cells slots pc' Ls (.long v :: st)) : Run l R n0 Q K h cells slots pc Ls (st) := by
  obtain ⟨p, e, s, m, args, below, meth, c⟩ := K
  obtain ⟨hx, hby, hml, hown, hnm, hret, hlk, hZ⟩ := C
  dsimp only at hx hby hml hown hnm hret hlk hZ
  subst hp
  intro T locs X N eT
  obtain ⟨s₂, o, h1, h2⟩ := k T locs X N eT
  exact ⟨s₂, o, X.ldc2Long hx hown (mvT hZ w) (g := mkF m pc Ls st) rfl (hb hby hd) _ h1, h2⟩
theorem r_ldc2D (C : Ok Z own nm bytes maxL ret K) (pc' : Nat) {i : Nat} {v : UInt64} {st : List Value} (hd : decode bytes pc = .ok (.ldc2_w i, 3)) (hp : pc + 3 = pc') (w : (Jvm.Cond.constantDouble own i v).before a0 Z = true)
    (k : Run l R n0 Q K h cells slots pc' Ls (.double v :: st)) : Run l R n0 Q K h cells slots pc Ls (st) := by
  obtain ⟨p, e, s, m, args, below, meth, c⟩ := K
  obtain ⟨hx, hby, hml, hown, hnm, hret, hlk, hZ⟩ := C
  dsimp only at hx hby hml hown hnm hret hlk hZ
  subst hp
  intro T locs X N eT
  obtain ⟨s₂, o, h1, h2⟩ := k T locs X N eT
  exact ⟨s₂, o, X.ldc2DoubleC hx hown (mvT hZ w) (g := mkF m pc Ls st) rfl (hb hby hd) _ h1, h2⟩
theorem r_l2d (C : Ok Z own nm bytes maxL ret K) (pc' : Nat) {x : Int64} {st : List Value} (hd : decode bytes pc = .ok (.l2d, 1)) (hp : pc + 1 = pc') 
    (k : Run l R n0 Q K h cells slots pc' Ls (.double (FP.l2d x) :: st)) : Run l R n0 Q K h cells slots pc Ls (.long x :: st) := by
  obtain ⟨p, e, s, m, args, below, meth, c⟩ := K
  obtain ⟨hx, hby, hml, hown, hnm, hret, hlk, hZ⟩ := C
  dsimp only at hx hby hml hown hnm hret hlk hZ
  subst hp
  intro T locs X N eT
  obtain ⟨s₂, o, h1, h2⟩ := k T locs X N eT
  exact ⟨s₂, o, XS.l2dS X.here hx rfl (hb hby hd) rfl rfl h1, h2⟩
theorem r_dmul (C : Ok Z own nm bytes maxL ret K) (pc' : Nat) {x y : UInt64} {st : List Value} (hd : decode bytes pc = .ok (.dmul, 1)) (hp : pc + 1 = pc') (hn : Jvm.Free.Fl.NoNaN64 (FP.dmul x y))
    (k : Run l R n0 Q K h cells slots pc' Ls (.double (FP.dmul x y) :: st)) : Run l R n0 Q K h cells slots pc Ls (.double y :: .double x :: st) := by
  obtain ⟨p, e, s, m, args, below, meth, c⟩ := K
  obtain ⟨hx, hby, hml, hown, hnm, hret, hlk, hZ⟩ := C
  dsimp only at hx hby hml hown hnm hret hlk hZ
  subst hp
  intro T locs X N eT
  obtain ⟨s₂, o, h1, h2⟩ := k T locs X N eT
  exact ⟨s₂, o, XS.dmulS X.here hx rfl (hb hby hd) rfl hn rfl h1, h2⟩
theorem r_dcmpl (C : Ok Z own nm bytes maxL ret K) (pc' : Nat) {x y : UInt64} {st : List Value} (hd : decode bytes pc = .ok (.dcmp .l, 1)) (hp : pc + 1 = pc') 
    (k : Run l R n0 Q K h cells slots pc' Ls (.int (cmpValue (FP.dcmp x y) .l) :: st)) : Run l R n0 Q K h cells slots pc Ls (.double y :: .double x :: st) := by
  obtain ⟨p, e, s, m, args, below, meth, c⟩ := K
  obtain ⟨hx, hby, hml, hown, hnm, hret, hlk, hZ⟩ := C
  dsimp only at hx hby hml hown hnm hret hlk hZ
  subst hp
  intro T locs X N eT
  obtain ⟨s₂, o, h1, h2⟩ := k T locs X N eT
  exact ⟨s₂, o, XS.dcmpS X.here hx rfl (hb hby hd) rfl rfl h1, h2⟩
theorem r_goto (C : Ok Z own nm bytes maxL ret K) (pc' : Nat) {o : Int} {st : List Value} (hd : decode bytes pc = .ok (.goto o, 3)) (ho : 0 ≤ (pc : Int) + o) (hp : ((pc : Int) + o).toNat = pc')
    (k : Run l R n0 Q K h cells slots pc' Ls st) : Run l R n0 Q K h cells slots pc Ls st := by
  obtain ⟨p, e, s, m, args, below, meth, c⟩ := K
  obtain ⟨hx, hby, hml, hown, hnm, hret, hlk, hZ⟩ := C
  dsimp only at hx hby hml hown hnm hret hlk hZ
  intro T locs X N eT
  obtain ⟨s₂, o, h1, h2⟩ := k T locs X N eT
  exact ⟨s₂, o, XS.goto X.here hx rfl rfl (hb hby hd) ho hp h1, h2⟩
theorem r_icmp_eq (C : Ok Z own nm bytes maxL ret K) (pcT pcF : Nat) {o : Int} {x y : Int32} {st : List Value} (hd : decode bytes pc = .ok (.if_icmp .eq o, 3)) (ho : 0 ≤ (pc : Int) + o) (hp : ((pc : Int) + o).toNat = pcT) (hf : pc + 3 = pcF)
    (kT : x = y → Run l R n0 Q K h cells slots pcT Ls st) (kF : ¬ x = y → Run l R n0 Q K h cells slots pcF Ls st) : Run l R n0 Q K h cells slots pc Ls (.int y :: .int x :: st) := by
  obtain ⟨p, e, s, m, args, below, meth, c⟩ := K
  obtain ⟨hx, hby, hml, hown, hnm, hret, hlk, hZ⟩ := C
  dsimp only at hx hby hml hown hnm hret hlk hZ
  intro T locs X N eT
  subst hf
  by_cases q : x = y
  · obtain ⟨s₂, o, h1, h2⟩ := kT q T locs X N eT
    exact ⟨s₂, o, XS.icmpYes X.here hx rfl rfl (hb hby hd) rfl (XT.ii_eq_t q) ho hp h1, h2⟩
  · obtain ⟨s₂, o, h1, h2⟩ := kF q T locs X N eT
    exact ⟨s₂, o, XS.icmpNo X.here hx rfl (hb hby hd) rfl (XT.ii_eq_f q) h1, h2⟩
theorem r_if_eq (C : Ok Z own nm bytes maxL ret K) (pcT pcF : Nat) {o : Int} {x : Int32} {st : List Value} (hd : decode bytes pc = .ok (.ifCond .eq o, 3)) (ho : 0 ≤ (pc : Int) + o) (hp : ((pc : Int) + o).toNat = pcT) (hf : pc + 3 = pcF)
    (kT : x = 0 → Run l R n0 Q K h cells slots pcT Ls st) (kF : ¬ x = 0 → Run l R n0 Q K h cells slots pcF Ls st) : Run l R n0 Q K h cells slots pc Ls (.int x :: st) := by
  obtain ⟨p, e, s, m, args, below, meth, c⟩ := K
  obtain ⟨hx, hby, hml, hown, hnm, hret, hlk, hZ⟩ := C
  dsimp only at hx hby hml hown hnm hret hlk hZ
  intro T locs X N eT
  subst hf
  by_cases q : x = 0
  · obtain ⟨s₂, o, h1, h2⟩ := kT q T locs X N eT
    exact ⟨s₂, o, XS.ifYes X.here hx rfl rfl (hb hby hd) rfl (XT.i0_eq_t q) ho hp h1, h2⟩
  · obtain ⟨s₂, o, h1, h2⟩ := kF q T locs X N eT
    exact ⟨s₂, o, XS.ifNo X.here hx rfl (hb hby hd) rfl (XT.i0_eq_f q) h1, h2⟩
theorem r_lcmp_eq (C : Ok Z own nm bytes maxL ret K) (pcM pcT pcF : Nat) {o : Int} {x y : Int64} {st : List Value} (hdl : decode bytes pc = .ok (.lcmp, 1)) (hm : pc + 1 = pcM) (hd : decode bytes pcM = .ok (.ifCond .eq o, 3)) (ho : 0 ≤ (pcM : Int) + o) (hp : ((pcM : Int) + o).toNat = pcT) (hf : pcM + 3 = pcF)
    (kT : x = y → Run l R n0 Q K h cells slots pcT Ls st) (kF : ¬ x = y → Run l R n0 Q K h cells slots pcF Ls st) : Run l R n0 Q K h cells slots pc Ls (.long y :: .long x :: st) := by
  obtain ⟨p, e, s, m, args, below, meth, c⟩ := K
  obtain ⟨hx, hby, hml, hown, hnm, hret, hlk, hZ⟩ := C
  dsimp only at hx hby hml hown hnm hret hlk hZ
  intro T locs X N eT
  subst hm hf
  by_cases q : x = y
  · obtain ⟨s₂, o, h1, h2⟩ := kT q T locs X N eT
    exact ⟨s₂, o, XT.lcmp X.here hx rfl (hb hby hdl) rfl (XS.ifYes X.here hx rfl rfl (hb hby hd) rfl (XT.ll_eq_t q) ho hp h1), h2⟩
  · obtain ⟨s₂, o, h1, h2⟩ := kF q T locs X N eT
    exact ⟨s₂, o, XT.lcmp X.here hx rfl (hb hby hdl) rfl (XS.ifNo X.here hx rfl (hb hby hd) rfl (XT.ll_eq_f q) h1), h2⟩
theorem r_icmp_ne (C : Ok Z own nm bytes maxL ret K) (pcT pcF : Nat) {o : Int} {x y : Int32} {st : List Value} (hd : decode bytes pc = .ok (.if_icmp .ne o, 3)) (ho : 0 ≤ (pc : Int) + o) (hp : ((pc : Int) + o).toNat = pcT) (hf : pc + 3 = pcF)
    (kT : ¬ x = y → Run l R n0 Q K h cells slots pcT Ls st) (kF : x = y → Run l R n0 Q K h cells slots pcF Ls st) : Run l R n0 Q K h cells slots pc Ls (.int y :: .int x :: st) := by
  obtain ⟨p, e, s, m, args, below, meth, c⟩ := K
  obtain ⟨hx, hby, hml, hown, hnm, hret, hlk, hZ⟩ := C
  dsimp only at hx hby hml hown hnm hret hlk hZ
  intro T locs X N eT
  subst hf
  by_cases q : x = y
  · obtain ⟨s₂, o, h1, h2⟩ := kF q T locs X N eT
    exact ⟨s₂, o, XS.icmpNo X.here hx rfl (hb hby hd) rfl (XT.ii_ne_f q) h1, h2⟩
  · obtain ⟨s₂, o, h1, h2⟩ := kT q T locs X N eT
    exact ⟨s₂, o, XS.icmpYes X.here hx rfl rfl (hb hby hd) rfl (XT.ii_ne_t q) ho hp h1, h2⟩
theorem r_if_ne (C : Ok Z own nm bytes maxL ret K) (pcT pcF : Nat) {o : Int} {x : Int32} {st : List Value} (hd : decode bytes pc = .ok (.ifCond .ne o, 3)) (ho : 0 ≤ (pc : Int) + o) (hp : ((pc : Int) + o).toNat = pcT) (hf : pc + 3 = pcF)
    (kT : ¬ x = 0 → Run l R n0 Q K h cells slots pcT Ls st) (kF : x = 0 → Run l R n0 Q K h cells slots pcF Ls st) : Run l R n0 Q K h cells slots pc Ls (.int x :: st) := by
  obtain ⟨p, e, s, m, args, below, meth, c⟩ := K
  obtain ⟨hx, hby, hml, hown, hnm, hret, hlk, hZ⟩ := C
  dsimp only at hx hby hml hown hnm hret hlk hZ
  intro T locs X N eT
  subst hf
  by_cases q : x = 0
  · obtain ⟨s₂, o, h1, h2⟩ := kF q T locs X N eT
    exact ⟨s₂, o, XS.ifNo X.here hx rfl (hb hby hd) rfl (XT.i0_ne_f q) h1, h2⟩
  · obtain ⟨s₂, o, h1, h2⟩ := kT q T locs X N eT
    exact ⟨s₂, o, XS.ifYes X.here hx rfl rfl (hb hby hd) rfl (XT.i0_ne_t q) ho hp h1, h2⟩
theorem r_lcmp_ne (C : Ok Z own nm bytes maxL ret K) (pcM pcT pcF : Nat) {o : Int} {x y : Int64} {st : List Value} (hdl : decode bytes pc = .ok (.lcmp, 1)) (hm : pc + 1 = pcM) (hd : decode bytes pcM = .ok (.ifCond .ne o, 3)) (ho : 0 ≤ (pcM : Int) + o) (hp : ((pcM : Int) + o).toNat = pcT) (hf : pcM + 3 = pcF)
    (kT : ¬ x = y → Run l R n0 Q K h cells slots pcT Ls st) (kF : x = y → Run l R n0 Q K h cells slots pcF Ls st) : Run l R n0 Q K h cells slots pc Ls (.long y :: .long x :: st) := by
  obtain ⟨p, e, s, m, args, below, meth, c⟩ := K
  obtain ⟨hx, hby, hml, hown, hnm, hret, hlk, hZ⟩ := C
  dsimp only at hx hby hml hown hnm hret hlk hZ
  intro T locs X N eT
  subst hm hf
  by_cases q : x = y
  · obtain ⟨s₂, o, h1, h2⟩ := kF q T locs X N eT
    exact ⟨s₂, o, XT.lcmp X.here hx rfl (hb hby hdl) rfl (XS.ifNo X.here hx rfl (hb hby hd) rfl (XT.ll_ne_f q) h1), h2⟩
  · obtain ⟨s₂, o, h1, h2⟩ := kT q T locs X N eT
    exact ⟨s₂, o, XT.lcmp X.here hx rfl (hb hby hdl) rfl (XS.ifYes X.here hx rfl rfl (hb hby hd) rfl (XT.ll_ne_t q) ho hp h1), h2⟩
theorem r_icmp_lt (C : Ok Z own nm bytes maxL ret K) (pcT pcF : Nat) {o : Int} {x y : Int32} {st : List Value} (hd : decode bytes pc = .ok (.if_icmp .lt o, 3)) (ho : 0 ≤ (pc : Int) + o) (hp : ((pc : Int) + o).toNat = pcT) (hf : pc + 3 = pcF)
    (kT : x < y → Run l R n0 Q K h cells slots pcT Ls st) (kF : ¬ x < y → Run l R n0 Q K h cells slots pcF Ls st) : Run l R n0 Q K h cells slots pc Ls (.int y :: .int x :: st) := by
  obtain ⟨p, e, s, m, args, below, meth, c⟩ := K
  obtain ⟨hx, hby, hml, hown, hnm, hret, hlk, hZ⟩ := C
  dsimp only at hx hby hml hown hnm hret hlk hZ
  intro T locs X N eT
  subst hf
  by_cases q : x < y
  · obtain ⟨s₂, o, h1, h2⟩ := kT q T locs X N eT
    exact ⟨s₂, o, XS.icmpYes X.here hx rfl rfl (hb hby hd) rfl (XT.ii_lt_t q) ho hp h1, h2⟩
  · obtain ⟨s₂, o, h1, h2⟩ := kF q T locs X N eT
    exact ⟨s₂, o, XS.icmpNo X.here hx rfl (hb hby hd) rfl (XT.ii_lt_f q) h1, h2⟩
theorem r_if_lt (C : Ok Z own nm bytes maxL ret K) (pcT pcF : Nat) {o : Int} {x : Int32} {st : List Value} (hd : decode bytes pc = .ok (.ifCond .lt o, 3)) (ho : 0 ≤ (pc : Int) + o) (hp : ((pc : Int) + o).toNat = pcT) (hf : pc + 3 = pcF)
    (kT : x < 0 → Run l R n0 Q K h cells slots pcT Ls st) (kF : ¬ x < 0 → Run l R n0 Q K h cells slots pcF Ls st) : Run l R n0 Q K h cells slots pc Ls (.int x :: st) := by
  obtain ⟨p, e, s, m, args, below, meth, c⟩ := K
  obtain ⟨hx, hby, hml, hown, hnm, hret, hlk, hZ⟩ := C
  dsimp only at hx hby hml hown hnm hret hlk hZ
  intro T locs X N eT
  subst hf
  by_cases q : x < 0
  · obtain ⟨s₂, o, h1, h2⟩ := kT q T locs X N eT
    exact ⟨s₂, o, XS.ifYes X.here hx rfl rfl (hb hby hd) rfl (XT.i0_lt_t q) ho hp h1, h2⟩
  · obtain ⟨s₂, o, h1, h2⟩ := kF q T locs X N eT
    exact ⟨s₂, o, XS.ifNo X.here hx rfl (hb hby hd) rfl (XT.i0_lt_f q) h1, h2⟩
theorem r_lcmp_lt (C : Ok Z own nm bytes maxL ret K) (pcM pcT pcF : Nat) {o : Int} {x y : Int64} {st : List Value} (hdl : decode bytes pc = .ok (.lcmp, 1)) (hm : pc + 1 = pcM) (hd : decode bytes pcM = .ok (.ifCond .lt o, 3)) (ho : 0 ≤ (pcM : Int) + o) (hp : ((pcM : Int) + o).toNat = pcT) (hf : pcM + 3 = pcF)
    (kT : x < y → Run l R n0 Q K h cells slots pcT Ls st) (kF : ¬ x < y → Run l R n0 Q K h cells slots pcF Ls st) : Run l R n0 Q K h cells slots pc Ls (.long y :: .long x :: st) := by
  obtain ⟨p, e, s, m, args, below, meth, c⟩ := K
  obtain ⟨hx, hby, hml, hown, hnm, hret, hlk, hZ⟩ := C
  dsimp only at hx hby hml hown hnm hret hlk hZ
  intro T locs X N eT
  subst hm hf
  by_cases q : x < y
  · obtain ⟨s₂, o, h1, h2⟩ := kT q T locs X N eT
    exact ⟨s₂, o, XT.lcmp X.here hx rfl (hb hby hdl) rfl (XS.ifYes X.here hx rfl rfl (hb hby hd) rfl (XT.ll_lt_t q) ho hp h1), h2⟩
  · obtain ⟨s₂, o, h1, h2⟩ := kF q T locs X N eT
    exact ⟨s₂, o, XT.lcmp X.here hx rfl (hb hby hdl) rfl (XS.ifNo X.here hx rfl (hb hby hd) rfl (XT.ll_lt_f q) h1), h2⟩
theorem r_icmp_ge (C : Ok Z own nm bytes maxL ret K) (pcT pcF : Nat) {o : Int} {x y : Int32} {st : List Value} (hd : decode bytes pc = .ok (.if_icmp .ge o, 3)) (ho : 0 ≤ (pc : Int) + o) (hp : ((pc : Int) + o).toNat = pcT) (hf : pc + 3 = pcF)
    (kT : ¬ x < y → Run l R n0 Q K h cells slots pcT Ls st) (kF : x < y → Run l R n0 Q K h cells slots pcF Ls st) : Run l R n0 Q K h cells slots pc Ls (.int y :: .int x :: st) := by
  obtain ⟨p, e, s, m, args, below, meth, c⟩ := K
  obtain ⟨hx, hby, hml, hown, hnm, hret, hlk, hZ⟩ := C
  dsimp only at hx hby hml hown hnm hret hlk hZ
  intro T locs X N eT
  subst hf
  by_cases q : x < y
  · obtain ⟨s₂, o, h1, h2⟩ := kF q T locs X N eT
    exact ⟨s₂, o, XS.icmpNo X.here hx rfl (hb hby hd) rfl (XT.ii_ge_f q) h1, h2⟩
  · obtain ⟨s₂, o, h1, h2⟩ := kT q T locs X N eT
    exact ⟨s₂, o, XS.icmpYes X.here hx rfl rfl (hb hby hd) rfl (XT.ii_ge_t q) ho hp h1, h2⟩
theorem r_if_ge (C : Ok Z own nm bytes maxL ret K) (pcT pcF : Nat) {o : Int} {x : Int32} {st : List Value} (hd : decode bytes pc = .ok (.ifCond .ge o, 3)) (ho : 0 ≤ (pc : Int) + o) (hp : ((pc : Int) + o).toNat = pcT) (hf : pc + 3 = pcF)
    (kT : ¬ x < 0 → Run l R n0 Q K h cells slots pcT Ls st) (kF : x < 0 → Run l R n0 Q K h cells slots pcF Ls st) : Run l R n0 Q K h cells slots pc Ls (.int x :: st) := by
  obtain ⟨p, e, s, m, args, below, meth, c⟩ := K
  obtain ⟨hx, hby, hml, hown, hnm, hret, hlk, hZ⟩ := C
  dsimp only at hx hby hml hown hnm hret hlk hZ
  intro T locs X N eT
  subst hf
  by_cases q : x < 0
  · obtain ⟨s₂, o, h1, h2⟩ := kF q T locs X N eT
    exact ⟨s₂, o, XS.ifNo X.here hx rfl (hb hby hd) rfl (XT.i0_ge_f q) h1, h2⟩
  · obtain ⟨s₂, o, h1, h2⟩ := kT q T locs X N eT
    exact ⟨s₂, o, XS.ifYes X.here hx rfl rfl (hb hby hd) rfl (XT.i0_ge_t q) ho hp h1, h2⟩
theorem r_lcmp_ge (C : Ok Z own nm bytes maxL ret K) (pcM pcT pcF : Nat) {o : Int} {x y : Int64} {st : List Value} (hdl : decode bytes pc = .ok (.lcmp, 1)) (hm : pc + 1 = pcM) (hd : decode bytes pcM = .ok (.ifCond .ge o, 3)) (ho : 0 ≤ (pcM : Int) + o) (hp : ((pcM : Int) + o).toNat = pcT) (hf : pcM + 3 = pcF)
    (kT : ¬ x < y → Run l R n0 Q K h cells slots pcT Ls st) (kF : x < y → Run l R n0 Q K h cells slots pcF Ls st) : Run l R n0 Q K h cells slots pc Ls (.long y :: .long x :: st) := by
  obtain ⟨p, e, s, m, args, below, meth, c⟩ := K
  obtain ⟨hx, hby, hml, hown, hnm, hret, hlk, hZ⟩ := C
  dsimp only at hx hby hml hown hnm hret hlk hZ
  intro T locs X N eT
  subst hm hf
  by_cases q : x < y
  · obtain ⟨s₂, o, h1, h2⟩ := kF q T locs X N eT
    exact ⟨s₂, o, XT.lcmp X.here hx rfl (hb hby hdl) rfl (XS.ifNo X.here hx rfl (hb hby hd) rfl (XT.ll_ge_f q) h1), h2⟩
  · obtain ⟨s₂, o, h1, h2⟩ := kT q T locs X N eT
    exact ⟨s₂, o, XT.lcmp X.here hx rfl (hb hby hdl) rfl (XS.ifYes X.here hx rfl rfl (hb hby hd) rfl (XT.ll_ge_t q) ho hp h1), h2⟩
theorem r_icmp_gt (C : Ok Z own nm bytes maxL ret K) (pcT pcF : Nat) {o : Int} {x y : Int32} {st : List Value} (hd : decode bytes pc = .ok (.if_icmp .gt o, 3)) (ho : 0 ≤ (pc : Int) + o) (hp : ((pc : Int) + o).toNat = pcT) (hf : pc + 3 = pcF)
    (kT : y < x → Run l R n0 Q K h cells slots pcT Ls st) (kF : ¬ y < x → Run l R n0 Q K h cells slots pcF Ls st) : Run l R n0 Q K h cells slots pc Ls (.int y :: .int x :: st) := by
  obtain ⟨p, e, s, m, args, below, meth, c⟩ := K
  obtain ⟨hx, hby, hml, hown, hnm, hret, hlk, hZ⟩ := C
  dsimp only at hx hby hml hown hnm hret hlk hZ
  intro T locs X N eT
  subst hf
  by_cases q : y < x
  · obtain ⟨s₂, o, h1, h2⟩ := kT q T locs X N eT
    exact ⟨s₂, o, XS.icmpYes X.here hx rfl rfl (hb hby hd) rfl (XT.ii_gt_t q) ho hp h1, h2⟩
  · obtain ⟨s₂, o, h1, h2⟩ := kF q T locs X N eT
    exact ⟨s₂, o, XS.icmpNo X.here hx rfl (hb hby hd) rfl (XT.ii_gt_f q) h1, h2⟩
theorem r_if_gt (C : Ok Z own nm bytes maxL ret K) (pcT pcF : Nat) {o : Int} {x : Int32} {st : List Value} (hd : decode bytes pc = .ok (.ifCond .gt o, 3)) (ho : 0 ≤ (pc : Int) + o) (hp : ((pc : Int) + o).toNat = pcT) (hf : pc + 3 = pcF)
    (kT : 0 < x → Run l R n0 Q K h cells slots pcT Ls st) (kF : ¬ 0 < x → Run l R n0 Q K h cells slots pcF Ls st) : Run l R n0 Q K h cells slots pc Ls (.int x :: st) := by
  obtain ⟨p, e, s, m, args, below, meth, c⟩ := K
  obtain ⟨hx, hby, hml, hown, hnm, hret, hlk, hZ⟩ := C
  dsimp only at hx hby hml hown hnm hret hlk hZ
  intro T locs X N eT
  subst hf
  by_cases q : 0 < x
  · obtain ⟨s₂, o, h1, h2⟩ := kT q T locs X N eT
    exact ⟨s₂, o, XS.ifYes X.here hx rfl rfl (hb hby hd) rfl (XT.i0_gt_t q) ho hp h1, h2⟩
  · obtain ⟨s₂, o, h1, h2⟩ := kF q T locs X N eT
    exact ⟨s₂, o, XS.ifNo X.here hx rfl (hb hby hd) rfl (XT.i0_gt_f q) h1, h2⟩
theorem r_lcmp_gt (C : Ok Z own nm bytes maxL ret K) (pcM pcT pcF : Nat) {o : Int} {x y : Int64} {st : List Value} (hdl : decode bytes pc = .ok (.lcmp, 1)) (hm : pc + 1 = pcM) (hd : decode bytes pcM = .ok (.ifCond .gt o, 3)) (ho : 0 ≤ (pcM : Int) + o) (hp : ((pcM : Int) + o).toNat = pcT) (hf : pcM + 3 = pcF)
    (kT : y < x → Run l R n0 Q K h cells slots pcT Ls st) (kF : ¬ y < x → Run l R n0 Q K h cells slots pcF Ls st) : Run l R n0 Q K h cells slots pc Ls (.long y :: .long x :: st) := by
  obtain ⟨p, e, s, m, args, below, meth, c⟩ := K
  obtain ⟨hx, hby, hml, hown, hnm, hret, hlk, hZ⟩ := C
  dsimp only at hx hby hml hown hnm hret hlk hZ
  intro T locs X N eT
  subst hm hf
  by_cases q : y < x
  · obtain ⟨s₂, o, h1, h2⟩ := kT q T locs X N eT
    exact ⟨s₂, o, XT.lcmp X.here hx rfl (hb hby hdl) rfl (XS.ifYes X.here hx rfl rfl (hb hby hd) rfl (XT.ll_gt_t q) ho hp h1), h2⟩
  · obtain ⟨s₂, o, h1, h2⟩ := kF q T locs X N eT
    exact ⟨s₂, o, XT.lcmp X.here hx rfl (hb hby hdl) rfl (XS.ifNo X.here hx rfl (hb hby hd) rfl (XT.ll_gt_f q) h1), h2⟩
theorem r_icmp_le (C : Ok Z own nm bytes maxL ret K) (pcT pcF : Nat) {o : Int} {x y : Int32} {st : List Value} (hd : decode bytes pc = .ok (.if_icmp .le o, 3)) (ho : 0 ≤ (pc : Int) + o) (hp : ((pc : Int) + o).toNat = pcT) (hf : pc + 3 = pcF)
    (kT : ¬ y < x → Run l R n0 Q K h cells slots pcT Ls st) (kF : y < x → Run l R n0 Q K h cells slots pcF Ls st) : Run l R n0 Q K h cells slots pc Ls (.int y :: .int x :: st) := by
  obtain ⟨p, e, s, m, args, below, meth, c⟩ := K
  obtain ⟨hx, hby, hml, hown, hnm, hret, hlk, hZ⟩ := C
  dsimp only at hx hby hml hown hnm hret hlk hZ
  intro T locs X N eT
  subst hf
  by_cases q : y < x
  · obtain ⟨s₂, o, h1, h2⟩ := kF q T locs X N eT
    exact ⟨s₂, o, XS.icmpNo X.here hx rfl (hb hby hd) rfl (XT.ii_le_f q) h1, h2⟩
  · obtain ⟨s₂, o, h1, h2⟩ := kT q T locs X N eT
    exact ⟨s₂, o, XS.icmpYes X.here hx rfl rfl (hb hby hd) rfl (XT.ii_le_t q) ho hp h1, h2⟩
theorem r_if_le (C : Ok Z own nm bytes maxL ret K) (pcT pcF : Nat) {o : Int} {x : Int32} {st : List Value} (hd : decode bytes pc = .ok (.ifCond .le o, 3)) (ho : 0 ≤ (pc : Int) + o) (hp : ((pc : Int) + o).toNat = pcT) (hf : pc + 3 = pcF)
    (kT : ¬ 0 < x → Run l R n0 Q K h cells slots pcT Ls st) (kF : 0 < x → Run l R n0 Q K h cells slots pcF Ls st) : Run l R n0 Q K h cells slots pc Ls (.int x :: st) := by
  obtain ⟨p, e, s, m, args, below, meth, c⟩ := K
  obtain ⟨hx, hby, hml, hown, hnm, hret, hlk, hZ⟩ := C
  dsimp only at hx hby hml hown hnm hret hlk hZ
  intro T locs X N eT
  subst hf
  by_cases q : 0 < x
  · obtain ⟨s₂, o, h1, h2⟩ := kF q T locs X N eT
    exact ⟨s₂, o, XS.ifNo X.here hx rfl (hb hby hd) rfl (XT.i0_le_f q) h1, h2⟩
  · obtain ⟨s₂, o, h1, h2⟩ := kT q T locs X N eT
    exact ⟨s₂, o, XS.ifYes X.here hx rfl rfl (hb hby hd) rfl (XT.i0_le_t q) ho hp h1, h2⟩
theorem r_lcmp_le (C : Ok Z own nm bytes maxL ret K) (pcM pcT pcF : Nat) {o : Int} {x y : Int64} {st : List Value} (hdl : decode bytes pc = .ok (.lcmp, 1)) (hm : pc + 1 = pcM) (hd : decode bytes pcM = .ok (.ifCond .le o, 3)) (ho : 0 ≤ (pcM : Int) + o) (hp : ((pcM : Int) + o).toNat = pcT) (hf : pcM + 3 = pcF)
    (kT : ¬ y < x → Run l R n0 Q K h cells slots pcT Ls st) (kF : y < x → Run l R n0 Q K h cells slots pcF Ls st) : Run l R n0 Q K h cells slots pc Ls (.long y :: .long x :: st) := by
  obtain ⟨p, e, s, m, args, below, meth, c⟩ := K
  obtain ⟨hx, hby, hml, hown, hnm, hret, hlk, hZ⟩ := C
  dsimp only at hx hby hml hown hnm hret hlk hZ
  intro T locs X N eT
  subst hm hf
  by_cases q : y < x
  · obtain ⟨s₂, o, h1, h2⟩ := kF q T locs X N eT
    exact ⟨s₂, o, XT.lcmp X.here hx rfl (hb hby hdl) rfl (XS.ifNo X.here hx rfl (hb hby hd) rfl (XT.ll_le_f q) h1), h2⟩
  · obtain ⟨s₂, o, h1, h2⟩ := kT q T locs X N eT
    exact ⟨s₂, o, XT.lcmp X.here hx rfl (hb hby hdl) rfl (XS.ifYes X.here hx rfl rfl (hb hby hd) rfl (XT.ll_le_t q) ho hp h1), h2⟩
theorem r_acmp_eq (C : Ok Z own nm bytes maxL ret K) (pcT pcF : Nat) {o : Int} {x y : Value} {st : List Value} (hd : decode bytes pc = .ok (.if_acmp .eq o, 3)) (ho : 0 ≤ (pc : Int) + o) (hp : ((pc : Int) + o).toNat = pcT) (hf : pc + 3 = pcF) (hx' : x.isRef = true) (hy' : y.isRef = true)
    (kT : x = y → Run l R n0 Q K h cells slots pcT Ls st) (kF : ¬ x = y → Run l R n0 Q K h cells slots pcF Ls st) : Run l R n0 Q K h cells slots pc Ls (y :: x :: st) := by
  obtain ⟨p, e, s, m, args, below, meth, c⟩ := K
  obtain ⟨hx, hby, hml, hown, hnm, hret, hlk, hZ⟩ := C
  dsimp only at hx hby hml hown hnm hret hlk hZ
  intro T locs X N eT
  subst hf
  by_cases q : x = y
  · obtain ⟨s₂, o, h1, h2⟩ := kT q T locs X N eT
    exact ⟨s₂, o, XT.acmpYes X.here hx rfl rfl (hb hby hd) rfl hx' hy' (XT.aa_eq_t q) ho hp h1, h2⟩
  · obtain ⟨s₂, o, h1, h2⟩ := kF q T locs X N eT
    exact ⟨s₂, o, XT.acmpNo X.here hx rfl (hb hby hd) rfl hx' hy' (XT.aa_eq_f q) h1, h2⟩
theorem r_acmp_ne (C : Ok Z own nm bytes maxL ret K) (pcT pcF : Nat) {o : Int} {x y : Value} {st : List Value} (hd : decode bytes pc = .ok (.if_acmp .ne o, 3)) (ho : 0 ≤ (pc : Int) + o) (hp : ((pc : Int) + o).toNat = pcT) (hf : pc + 3 = pcF) (hx' : x.isRef = true) (hy' : y.isRef = true)
    (kT : ¬ x = y → Run l R n0 Q K h cells slots pcT Ls st) (kF : x = y → Run l R n0 Q K h cells slots pcF Ls st) : Run l R n0 Q K h cells slots pc Ls (y :: x :: st) := by
  obtain ⟨p, e, s, m, args, below, meth, c⟩ := K
  obtain ⟨hx, hby, hml, hown, hnm, hret, hlk, hZ⟩ := C
  dsimp only at hx hby hml hown hnm hret hlk hZ
  intro T locs X N eT
  subst hf
  by_cases q : x = y
  · obtain ⟨s₂, o, h1, h2⟩ := kF q T locs X N eT
    exact ⟨s₂, o, XT.acmpNo X.here hx rfl (hb hby hd) rfl hx' hy' (XT.aa_ne_f q) h1, h2⟩
  · obtain ⟨s₂, o, h1, h2⟩ := kT q T locs X N eT
    exact ⟨s₂, o, XT.acmpYes X.here hx rfl rfl (hb hby hd) rfl hx' hy' (XT.aa_ne_t q) ho hp h1, h2⟩
theorem r_ifnull_t (C : Ok Z own nm bytes maxL ret K) (pc' : Nat) {o : Int} {st : List Value} (hd : decode bytes pc = .ok (.ifnull o, 3)) (ho : 0 ≤ (pc : Int) + o) (hp : ((pc : Int) + o).toNat = pc')
    (k : Run l R n0 Q K h cells slots pc' Ls st) : Run l R n0 Q K h cells slots pc Ls (.null :: st) := by
  obtain ⟨p, e, s, m, args, below, meth, c⟩ := K
  obtain ⟨hx, hby, hml, hown, hnm, hret, hlk, hZ⟩ := C
  dsimp only at hx hby hml hown hnm hret hlk hZ
  intro T locs X N eT
  obtain ⟨s₂, o, h1, h2⟩ := k T locs X N eT
  exact ⟨s₂, o, XS.ifnullYes X.here hx rfl rfl (hb hby hd) rfl ho hp h1, h2⟩
theorem r_ifnull_f (C : Ok Z own nm bytes maxL ret K) (pc' : Nat) {o : Int} {b : Addr} {st : List Value} (hd : decode bytes pc = .ok (.ifnull o, 3)) (hp : pc + 3 = pc')
    (k : Run l R n0 Q K h cells slots pc' Ls st) : Run l R n0 Q K h cells slots pc Ls (.ref b :: st) := by
  obtain ⟨p, e, s, m, args, below, meth, c⟩ := K
  obtain ⟨hx, hby, hml, hown, hnm, hret, hlk, hZ⟩ := C
  dsimp only at hx hby hml hown hnm hret hlk hZ
  intro T locs X N eT
  subst hp
  obtain ⟨s₂, o, h1, h2⟩ := k T locs X N eT
  exact ⟨s₂, o, XS.ifnullNo X.here hx rfl (hb hby hd) rfl h1, h2⟩
theorem r_ifnonnull_t (C : Ok Z own nm bytes maxL ret K) (pc' : Nat) {o : Int} {b : Addr} {st : List Value} (hd : decode bytes pc = .ok (.ifnonnull o, 3)) (ho : 0 ≤ (pc : Int) + o) (hp : ((pc : Int) + o).toNat = pc')
    (k : Run l R n0 Q K h cells slots pc' Ls st) : Run l R n0 Q K h cells slots pc Ls (.ref b :: st) := by
  obtain ⟨p, e, s, m, args, below, meth, c⟩ := K
  obtain ⟨hx, hby, hml, hown, hnm, hret, hlk, hZ⟩ := C
  dsimp only at hx hby hml hown hnm hret hlk hZ
  intro T locs X N eT
  obtain ⟨s₂, o, h1, h2⟩ := k T locs X N eT
  exact ⟨s₂, o, XS.ifnonnullYes X.here hx rfl rfl (hb hby hd) rfl ho hp h1, h2⟩
theorem r_ifnonnull_f (C : Ok Z own nm bytes maxL ret K) (pc' : Nat) {o : Int} {st : List Value} (hd : decode bytes pc = .ok (.ifnonnull o, 3)) (hp : pc + 3 = pc')
    (k : Run l R n0 Q K h cells slots pc' Ls st) : Run l R n0 Q K h cells slots pc Ls (.null :: st) := by
  obtain ⟨p, e, s, m, args, below, meth, c⟩ := K
  obtain ⟨hx, hby, hml, hown, hnm, hret, hlk, hZ⟩ := C
  dsimp only at hx hby hml hown hnm hret hlk hZ
  intro T locs X N eT
  subst hp
  obtain ⟨s₂, o, h1, h2⟩ := k T locs X N eT
  exact ⟨s₂, o, XS.ifnonnullNo X.here hx rfl (hb hby hd) rfl h1, h2⟩
theorem r_lsw_hit (C : Ok Z own nm bytes maxL ret K) (pc' : Nat) {x : Int32} {dflt : Int} {pairs : Array (Int × Int)} {len : Nat} {a off : Int} {st : List Value} (hd : decode bytes pc = .ok (.lookupswitch dflt pairs, len)) (hs : (pairs.toList.zip (pairs.toList.drop 1)).all (fun (a, next) => a.1 < next.1) = true) (hf : pairs.find? (·.1 == x.toInt) = some (a, off)) (ho : 0 ≤ (pc : Int) + off) (hp : ((pc : Int) + off).toNat = pc')
    (k : Run l R n0 Q K h cells slots pc' Ls st) : Run l R n0 Q K h cells slots pc Ls (.int x :: st) := by
  obtain ⟨p, e, s, m, args, below, meth, c⟩ := K
  obtain ⟨hx, hby, hml, hown, hnm, hret, hlk, hZ⟩ := C
  dsimp only at hx hby hml hown hnm hret hlk hZ
  intro T locs X N eT
  subst hp
  obtain ⟨s₂, o, h1, h2⟩ := k T locs X N eT
  exact ⟨s₂, o, X.lookupswitchHit hx (g := mkF m pc Ls (.int x :: st)) rfl rfl (hb hby hd) hs hf ho _ h1, h2⟩
theorem r_lsw_miss (C : Ok Z own nm bytes maxL ret K) (pc' : Nat) {x : Int32} {dflt : Int} {pairs : Array (Int × Int)} {len : Nat} {st : List Value} (hd : decode bytes pc = .ok (.lookupswitch dflt pairs, len)) (hs : (pairs.toList.zip (pairs.toList.drop 1)).all (fun (a, next) => a.1 < next.1) = true) (hf : pairs.find? (·.1 == x.toInt) = none) (ho : 0 ≤ (pc : Int) + dflt) (hp : ((pc : Int) + dflt).toNat = pc')
    (k : Run l R n0 Q K h cells slots pc' Ls st) : Run l R n0 Q K h cells slots pc Ls (.int x :: st) := by
  obtain ⟨p, e, s, m, args, below, meth, c⟩ := K
  obtain ⟨hx, hby, hml, hown, hnm, hret, hlk, hZ⟩ := C
  dsimp only at hx hby hml hown hnm hret hlk hZ
  intro T locs X N eT
  subst hp
  obtain ⟨s₂, o, h1, h2⟩ := k T locs X N eT
  exact ⟨s₂, o, X.lookupswitchMiss hx (g := mkF m pc Ls (.int x :: st)) rfl rfl (hb hby hd) hs hf ho _ h1, h2⟩
theorem r_tsw_in (C : Ok Z own nm bytes maxL ret K) (pc' : Nat) {x : Int32} {dflt low high : Int} {offs : Array Int} {len : Nat} {off : Int} {st : List Value} (hd : decode bytes pc = .ok (.tableswitch dflt low high offs, len)) (hin : ¬ (x.toInt < low ∨ x.toInt > high)) (hf : offs[(x.toInt - low).toNat]? = some off) (ho : 0 ≤ (pc : Int) + off) (hp : ((pc : Int) + off).toNat = pc')
    (k : Run l R n0 Q K h cells slots pc' Ls st) : Run l R n0 Q K h cells slots pc Ls (.int x :: st) := by
  obtain ⟨p, e, s, m, args, below, meth, c⟩ := K
  obtain ⟨hx, hby, hml, hown, hnm, hret, hlk, hZ⟩ := C
  dsimp only at hx hby hml hown hnm hret hlk hZ
  intro T locs X N eT
  obtain ⟨s₂, o, h1, h2⟩ := k T locs X N eT
  exact ⟨s₂, o, XS.tswIn X.here hx rfl rfl (hb hby hd) rfl hin hf ho hp h1, h2⟩
theorem r_tsw_out (C : Ok Z own nm bytes maxL ret K) (pc' : Nat) {x : Int32} {dflt low high : Int} {offs : Array Int} {len : Nat} {st : List Value} (hd : decode bytes pc = .ok (.tableswitch dflt low high offs, len)) (hout : x.toInt < low ∨ x.toInt > high) (ho : 0 ≤ (pc : Int) + dflt) (hp : ((pc : Int) + dflt).toNat = pc')
    (k : Run l R n0 Q K h cells slots pc' Ls st) : Run l R n0 Q K h cells slots pc Ls (.int x :: st) := by
  obtain ⟨p, e, s, m, args, below, meth, c⟩ := K
  obtain ⟨hx, hby, hml, hown, hnm, hret, hlk, hZ⟩ := C
  dsimp only at hx hby hml hown hnm hret hlk hZ
  intro T locs X N eT
  obtain ⟨s₂, o, h1, h2⟩ := k T locs X N eT
  exact ⟨s₂, o, XS.tswOut X.here hx rfl rfl (hb hby hd) rfl hout ho hp h1, h2⟩
theorem sumcat (L : List Value) (W : Nat) (q : (L.map fun v => v.category).sum = W) {m : MethodId} {pc : Nat} {Ls : Array Slot} {st : List Value} : 2 * (mkF m pc Ls st).monitorRoom + (L.map fun v => v.category).sum ≤ W := by
  rw [q]; show 2 * 0 + W ≤ W; omega
theorem r_getfield (C : Ok Z own nm bytes maxL ret K) (pc' : Nat) {R0 O n d host : String} {i : Nat} {a : Addr} {v : Value} {st : List Value} (w : (Jvm.Cond.fieldLink own i R0 n d).before a0 Z = true ∨ (Jvm.Cond.fieldLinkNest own i R0 n d host).before a0 Z = true) (via : Via Z R0 O n d) (F : Fld Z h a O n d v) (hd : decode bytes pc = .ok (.getfield i, 3)) (hp : pc + 3 = pc')
    (k : Run l R n0 Q K h cells slots pc' Ls (v :: st)) : Run l R n0 Q K h cells slots pc Ls (.ref a :: st) := by
  obtain ⟨p, e, s, m, args, below, meth, c⟩ := K
  obtain ⟨hx, hby, hml, hown, hnm, hret, hlk, hZ⟩ := C
  dsimp only at hx hby hml hown hnm hret hlk hZ
  intro T locs X N eT
  subst hp
  obtain ⟨T1, X1, e1, st1⟩ := getF X hx hZ hown w via eT F (g := mkF m pc Ls (.ref a :: st)) rfl rfl (hb hby hd)
  obtain ⟨s₂, o, h1, h2⟩ := k T1 locs X1 N e1
  exact ⟨s₂, o, st1 _ h1, h2⟩
theorem r_getfieldR (C : Ok Z own nm bytes maxL ret K) (pc' : Nat) {O n d : String} {i : Nat} {a : Addr} {v : Value} {st : List Value} (w : (Jvm.Cond.fieldRef own i O n d).before a0 Z = true) (F : Fld Z h a O n d v) (hd : decode bytes pc = .ok (.getfield i, 3)) (hp : pc + 3 = pc')
    (k : Run l R n0 Q K h cells slots pc' Ls (v :: st)) : Run l R n0 Q K h cells slots pc Ls (.ref a :: st) := by
  obtain ⟨p, e, s, m, args, below, meth, c⟩ := K
  obtain ⟨hx, hby, hml, hown, hnm, hret, hlk, hZ⟩ := C
  dsimp only at hx hby hml hown hnm hret hlk hZ
  intro T locs X N eT
  subst hp
  obtain ⟨T1, X1, e1, st1⟩ := getFR X hx hZ hown w eT F (g := mkF m pc Ls (.ref a :: st)) rfl rfl (hb hby hd)
  obtain ⟨s₂, o, h1, h2⟩ := k T1 locs X1 N e1
  exact ⟨s₂, o, st1 _ h1, h2⟩
theorem r_getstatic (C : Ok Z own nm bytes maxL ret K) (pc' : Nat) {R0 O n d host : String} {i : Nat} {v : Value} {st : List Value} (w : (Jvm.Cond.fieldLink own i R0 n d).before a0 Z = true ∨ (Jvm.Cond.fieldLinkNest own i R0 n d host).before a0 Z = true) (via : Via Z R0 O n d) (F : Sta Z h O n d v) (hd : decode bytes pc = .ok (.getstatic i, 3)) (hp : pc + 3 = pc')
    (k : Run l R n0 Q K h cells slots pc' Ls (v :: st)) : Run l R n0 Q K h cells slots pc Ls (st) := by
  obtain ⟨p, e, s, m, args, below, meth, c⟩ := K
  obtain ⟨hx, hby, hml, hown, hnm, hret, hlk, hZ⟩ := C
  dsimp only at hx hby hml hown hnm hret hlk hZ
  intro T locs X N eT
  subst hp
  obtain ⟨T1, X1, e1, st1⟩ := getS2 X hx hZ hown w via eT F (g := mkF m pc Ls st) rfl (hb hby hd)
  obtain ⟨s₂, o, h1, h2⟩ := k T1 locs X1 N e1
  exact ⟨s₂, o, st1 _ h1, h2⟩
theorem r_putfield (C : Ok Z own nm bytes maxL ret K) (pc' : Nat) {R0 O n d host D : String} {i kk : Nat} {ty : FieldType} {a : Addr} {v old : Value} {st : List Value} (w : (Jvm.Cond.fieldLink own i R0 n d).before a0 Z = true ∨ (Jvm.Cond.fieldLinkNest own i R0 n d host).before a0 Z = true) (via : Via Z R0 O n d) (F : Fld Z h a O n d old) (E : Exa Z h a D) (L : (Jvm.Cond.lays D O n d).before a0 Z = true ∨ ((Jvm.Cond.laysFinal D O n d).before a0 Z = true ∧ own = O ∧ nm = "<init>")) (wi : (Jvm.Cond.instantiable D kk).before a0 Z = true) (hty : parseFieldDescriptor d = some ty) (hn : narrow ty v = v) (hf : fits ty v = true) (hd : decode bytes pc = .ok (.putfield i, 3)) (hp : pc + 3 = pc') (hn0 : n0 ≤ a)
    (k : ∀ h', Wr h h' a (Jvm.RoadKit.slotOf Z O n d) v → Run l R n0 Q K h' cells slots pc' Ls st) : Run l R n0 Q K h cells slots pc Ls (v :: .ref a :: st) := by
  obtain ⟨p, e, s, m, args, below, meth, c⟩ := K
  obtain ⟨hx, hby, hml, hown, hnm, hret, hlk, hZ⟩ := C
  dsimp only at hx hby hml hown hnm hret hlk hZ
  intro T locs X N eT
  subst hp
  subst hnm
  obtain ⟨T1, h', X1, e1, W1, st1⟩ := putF X hx hZ hown w via eT F E L wi hty hn hf (g := mkF m pc Ls (v :: .ref a :: st)) rfl rfl (hb hby hd)
  obtain ⟨s₂, o, h1, h2⟩ := k h' W1 T1 _ X1 (Fr.snoc X1 N hn0) e1
  exact ⟨s₂, o, st1 _ h1, h2⟩
theorem r_putfieldR (C : Ok Z own nm bytes maxL ret K) (pc' : Nat) {O n d D : String} {i kk : Nat} {ty : FieldType} {a : Addr} {v old : Value} {st : List Value} (w : (Jvm.Cond.fieldRef own i O n d).before a0 Z = true) (F : Fld Z h a O n d old) (E : Exa Z h a D) (L : (Jvm.Cond.lays D O n d).before a0 Z = true) (wi : (Jvm.Cond.instantiable D kk).before a0 Z = true) (hty : parseFieldDescriptor d = some ty) (hn : narrow ty v = v) (hf : fits ty v = true) (hd : decode bytes pc = .ok (.putfield i, 3)) (hp : pc + 3 = pc') (hn0 : n0 ≤ a)
    (k : ∀ h', Wr h h' a (Jvm.RoadKit.slotOf Z O n d) v → Run l R n0 Q K h' cells slots pc' Ls st) : Run l R n0 Q K h cells slots pc Ls (v :: .ref a :: st) := by
  obtain ⟨p, e, s, m, args, below, meth, c⟩ := K
  obtain ⟨hx, hby, hml, hown, hnm, hret, hlk, hZ⟩ := C
  dsimp only at hx hby hml hown hnm hret hlk hZ
  intro T locs X N eT
  subst hp
  obtain ⟨T1, h', X1, e1, W1, st1⟩ := putFR X hx hZ hown w eT F E L wi hty hn hf (g := mkF m pc Ls (v :: .ref a :: st)) rfl rfl (hb hby hd)
  obtain ⟨s₂, o, h1, h2⟩ := k h' W1 T1 _ X1 (Fr.snoc X1 N hn0) e1
  exact ⟨s₂, o, st1 _ h1, h2⟩
theorem r_putfieldN (C : Ok Z own nm bytes maxL ret K) (pc' : Nat) (v' : Value) {R0 O n d D : String} {i kk : Nat} {ty : FieldType} {a : Addr} {v old : Value} {st : List Value} (w : (Jvm.Cond.fieldLink own i R0 n d).before a0 Z = true) (via : Via Z R0 O n d) (F : Fld Z h a O n d old) (E : Exa Z h a D) (L : (Jvm.Cond.lays D O n d).before a0 Z = true ∨ ((Jvm.Cond.laysFinal D O n d).before a0 Z = true ∧ own = O ∧ nm = "<init>")) (wi : (Jvm.Cond.instantiable D kk).before a0 Z = true) (hty : parseFieldDescriptor d = some ty) (hn : narrow ty v = v') (hf : fits ty v' = true) (hd : decode bytes pc = .ok (.putfield i, 3)) (hp : pc + 3 = pc') (hn0 : n0 ≤ a)
    (k : ∀ h', Wr h h' a (Jvm.RoadKit.slotOf Z O n d) v' → Run l R n0 Q K h' cells slots pc' Ls st) : Run l R n0 Q K h cells slots pc Ls (v :: .ref a :: st) := by
  obtain ⟨p, e, s, m, args, below, meth, c⟩ := K
  obtain ⟨hx, hby, hml, hown, hnm, hret, hlk, hZ⟩ := C
  dsimp only at hx hby hml hown hnm hret hlk hZ
  intro T locs X N eT
  subst hp
  subst hnm
  obtain ⟨T1, h', X1, e1, W1, st1⟩ := putFN X hx hZ hown w via eT F E L wi hty hn hf (g := mkF m pc Ls (v :: .ref a :: st)) rfl rfl (hb hby hd)
  obtain ⟨s₂, o, h1, h2⟩ := k h' W1 T1 _ X1 (Fr.snoc X1 N hn0) e1
  exact ⟨s₂, o, st1 _ h1, h2⟩
theorem r_new (C : Ok Z own nm bytes maxL ret K) (pc' : Nat) {D : String} {i n : Nat} {st : List Value} (w : (Jvm.Cond.classLink own i D).before a0 Z = true) (wi : (Jvm.Cond.instantiable D n).before a0 Z = true) (wz : (Jvm.Cond.initialized D).before a0 Z = true) (hd : decode bytes pc = .ok (.new i, 3)) (hp : pc + 3 = pc') (hc : cells + 1 ≤ R.cells) (hl : slots + n ≤ R.slots)
    (k : ∀ h' b, b = h.size → Ext h h' → Exa Z h' b D → (∀ {O nm d : String} {ty : FieldType}, Laid Z a0 D O nm d → parseFieldDescriptor d = some ty → Fld Z h' b O nm d (defaultValue ty)) → Run l R n0 Q K h' (cells + 1) (slots + n) pc' Ls (.ref b :: st)) : Run l R n0 Q K h cells slots pc Ls (st) := by
  obtain ⟨p, e, s, m, args, below, meth, c⟩ := K
  obtain ⟨hx, hby, hml, hown, hnm, hret, hlk, hZ⟩ := C
  dsimp only at hx hby hml hown hnm hret hlk hZ
  intro T locs X N eT
  subst hp
  obtain ⟨T1, h', X1, e1, E1, A1, D1, -, st1⟩ := newO X hx hZ hown w wi wz eT (g := mkF m pc Ls st) rfl (hb hby hd) hc hl
  obtain ⟨s₂, o, h1, h2⟩ := k h' _ rfl E1 A1 D1 T1 locs X1 N e1
  exact ⟨s₂, o, st1 _ h1, h2⟩
theorem r_newarray (C : Ok Z own nm bytes maxL ret K) (pc' cap : Nat) {aty : ArrayType} {n : Int32} {st : List Value} (w : (Jvm.Cond.arrayClass (newarray.typeOf aty)).before a0 Z = true) (hd : decode bytes pc = .ok (.newarray aty, 2)) (hp : pc + 2 = pc') (hn : ¬ n < 0) (hcap : n.toNatClampNeg ≤ cap) (hbig : cap * 8 ≤ 536870912) (hc : cells + 1 ≤ R.cells) (hl : slots + cap ≤ R.slots)
    (k : ∀ h' b kA, b = h.size → Ext h h' → Arv Z h' b kA (newarray.typeOf aty) n [] (defaultValue (newarray.typeOf aty)) → Run l R n0 Q K h' (cells + 1) (slots + cap) pc' Ls (.ref b :: st)) : Run l R n0 Q K h cells slots pc Ls (.int n :: st) := by
  obtain ⟨p, e, s, m, args, below, meth, c⟩ := K
  obtain ⟨hx, hby, hml, hown, hnm, hret, hlk, hZ⟩ := C
  dsimp only at hx hby hml hown hnm hret hlk hZ
  intro T locs X N eT
  subst hp
  obtain ⟨T1, h', kA, X1, e1, E1, A1, st1⟩ := newP X hx hZ w eT (g := mkF m pc Ls (.int n :: st)) rfl (hb hby hd) rfl hn hcap hbig hc hl
  obtain ⟨s₂, o, h1, h2⟩ := k h' _ kA rfl E1 (Arv.new A1 hn) T1 locs X1 N e1
  exact ⟨s₂, o, st1 _ h1, h2⟩
theorem r_anewarray (C : Ok Z own nm bytes maxL ret K) (pc' cap : Nat) {D : String} {i : Nat} {n : Int32} {st : List Value} (w : (Jvm.Cond.classLink own i D).before a0 Z = true) (w2 : (Jvm.Cond.arrayOver (.object D)).before a0 Z = true) (hd : decode bytes pc = .ok (.anewarray i, 3)) (hp : pc + 3 = pc') (hn : ¬ n < 0) (hcap : n.toNatClampNeg ≤ cap) (hbig : cap * 8 ≤ 536870912) (hc : cells + 1 ≤ R.cells) (hl : slots + cap ≤ R.slots)
    (k : ∀ h' b kA, b = h.size → Ext h h' → Arv Z h' b kA (.object D) n [] .null → Ovr Z kA D → Run l R n0 Q K h' (cells + 1) (slots + cap) pc' Ls (.ref b :: st)) : Run l R n0 Q K h cells slots pc Ls (.int n :: st) := by
  obtain ⟨p, e, s, m, args, below, meth, c⟩ := K
  obtain ⟨hx, hby, hml, hown, hnm, hret, hlk, hZ⟩ := C
  dsimp only at hx hby hml hown hnm hret hlk hZ
  intro T locs X N eT
  subst hp
  obtain ⟨T1, h', kA, X1, e1, E1, A1, O1, st1⟩ := newR X hx hZ hown w w2 eT (g := mkF m pc Ls (.int n :: st)) rfl (hb hby hd) rfl hn hcap hbig hc hl
  obtain ⟨s₂, o, h1, h2⟩ := k h' _ kA rfl E1 (Arv.new A1 hn) O1 T1 locs X1 N e1
  exact ⟨s₂, o, st1 _ h1, h2⟩
theorem r_arraylength (C : Ok Z own nm bytes maxL ret K) (pc' : Nat) {a : Addr} {kA : ClassId} {ty : FieldType} {z : Int32} {vs : List Value} {dv : Value} {st : List Value} (F : Arv Z h a kA ty z vs dv) (hd : decode bytes pc = .ok (.arraylength, 1)) (hp : pc + 1 = pc')
    (k : Run l R n0 Q K h cells slots pc' Ls (.int z :: st)) : Run l R n0 Q K h cells slots pc Ls (.ref a :: st) := by
  obtain ⟨p, e, s, m, args, below, meth, c⟩ := K
  obtain ⟨hx, hby, hml, hown, hnm, hret, hlk, hZ⟩ := C
  dsimp only at hx hby hml hown hnm hret hlk hZ
  intro T locs X N eT
  subst hp
  obtain ⟨cl, A, -, S, Nn, -, -⟩ := F
  have ez := len_of S Nn
  obtain ⟨s₂, o, h1, h2⟩ := k T locs X N eT
  exact ⟨s₂, o, X.arraylength hx (by rw [eT]; exact A.1) (State.isArrayOf_alike hZ.alike A.2.1) (g := mkF m pc Ls (.ref a :: st)) rfl rfl (hb hby hd) _ (by rw [ez]; exact h1), h2⟩
theorem r_iaload (C : Ok Z own nm bytes maxL ret K) (pc' : Nat) {a : Addr} {kA : ClassId} {j z : Int32} {v : Value} {vs : List Value} {dv : Value} {st : List Value} (F : Arv Z h a kA .int z vs dv) (hj : ¬ j < 0 ∧ j < z) (hv : vs.getD j.toNatClampNeg dv = v) (hd : decode bytes pc = .ok (.iaload, 1)) (hp : pc + 1 = pc')
    (k : Run l R n0 Q K h cells slots pc' Ls (v :: st)) : Run l R n0 Q K h cells slots pc Ls (.int j :: .ref a :: st) := by
  obtain ⟨p, e, s, m, args, below, meth, c⟩ := K
  obtain ⟨hx, hby, hml, hown, hnm, hret, hlk, hZ⟩ := C
  dsimp only at hx hby hml hown hnm hret hlk hZ
  intro T locs X N eT
  subst hp
  obtain ⟨cl, A, -, S, Nn, H, -⟩ := F
  have hin := inb_of S hj
  obtain ⟨s₂, o, h1, h2⟩ := k T locs X N eT
  exact ⟨s₂, o, X.iaload hx (by rw [eT]; exact A.1) (State.isArrayOf_alike hZ.alike A.2.1) A.2.2 hin (Has.at H hin hv) (g := mkF m pc Ls (.int j :: .ref a :: st)) rfl rfl (hb hby hd) _ h1, h2⟩
theorem r_caload (C : Ok Z own nm bytes maxL ret K) (pc' : Nat) {a : Addr} {kA : ClassId} {j z : Int32} {v : Value} {vs : List Value} {dv : Value} {st : List Value} (F : Arv Z h a kA .char z vs dv) (hj : ¬ j < 0 ∧ j < z) (hv : vs.getD j.toNatClampNeg dv = v) (hd : decode bytes pc = .ok (.caload, 1)) (hp : pc + 1 = pc')
    (k : Run l R n0 Q K h cells slots pc' Ls (v :: st)) : Run l R n0 Q K h cells slots pc Ls (.int j :: .ref a :: st) := by
  obtain ⟨p, e, s, m, args, below, meth, c⟩ := K
  obtain ⟨hx, hby, hml, hown, hnm, hret, hlk, hZ⟩ := C
  dsimp only at hx hby hml hown hnm hret hlk hZ
  intro T locs X N eT
  subst hp
  obtain ⟨cl, A, -, S, Nn, H, -⟩ := F
  have hin := inb_of S hj
  obtain ⟨s₂, o, h1, h2⟩ := k T locs X N eT
  exact ⟨s₂, o, X.caload hx (by rw [eT]; exact A.1) (State.isArrayOf_alike hZ.alike A.2.1) A.2.2 hin (Has.at H hin hv) (g := mkF m pc Ls (.int j :: .ref a :: st)) rfl rfl (hb hby hd) _ h1, h2⟩
theorem r_baload (C : Ok Z own nm bytes maxL ret K) (pc' : Nat) {a : Addr} {kA : ClassId} {j z : Int32} {v : Value} {vs : List Value} {dv : Value} {st : List Value} (F : Arv Z h a kA .byte z vs dv) (hj : ¬ j < 0 ∧ j < z) (hv : vs.getD j.toNatClampNeg dv = v) (hd : decode bytes pc = .ok (.baload, 1)) (hp : pc + 1 = pc')
    (k : Run l R n0 Q K h cells slots pc' Ls (v :: st)) : Run l R n0 Q K h cells slots pc Ls (.int j :: .ref a :: st) := by
  obtain ⟨p, e, s, m, args, below, meth, c⟩ := K
  obtain ⟨hx, hby, hml, hown, hnm, hret, hlk, hZ⟩ := C
  dsimp only at hx hby hml hown hnm hret hlk hZ
  intro T locs X N eT
  subst hp
  obtain ⟨cl, A, -, S, Nn, H, -⟩ := F
  have hin := inb_of S hj
  obtain ⟨s₂, o, h1, h2⟩ := k T locs X N eT
  exact ⟨s₂, o, X.baloadBytes hx (by rw [eT]; exact A.1) (State.isArrayOf_alike hZ.alike A.2.1) A.2.2 hin (Has.at H hin hv) (g := mkF m pc Ls (.int j :: .ref a :: st)) rfl rfl (hb hby hd) _ h1, h2⟩
theorem r_laload (C : Ok Z own nm bytes maxL ret K) (pc' : Nat) {a : Addr} {kA : ClassId} {j z : Int32} {v : Value} {vs : List Value} {dv : Value} {st : List Value} (F : Arv Z h a kA .long z vs dv) (hj : ¬ j < 0 ∧ j < z) (hv : vs.getD j.toNatClampNeg dv = v) (hd : decode bytes pc = .ok (.laload, 1)) (hp : pc + 1 = pc')
    (k : Run l R n0 Q K h cells slots pc' Ls (v :: st)) : Run l R n0 Q K h cells slots pc Ls (.int j :: .ref a :: st) := by
  obtain ⟨p, e, s, m, args, below, meth, c⟩ := K
  obtain ⟨hx, hby, hml, hown, hnm, hret, hlk, hZ⟩ := C
  dsimp only at hx hby hml hown hnm hret hlk hZ
  intro T locs X N eT
  subst hp
  obtain ⟨cl, A, -, S, Nn, H, -⟩ := F
  have hin := inb_of S hj
  obtain ⟨s₂, o, h1, h2⟩ := k T locs X N eT
  exact ⟨s₂, o, X.laload hx (by rw [eT]; exact A.1) (State.isArrayOf_alike hZ.alike A.2.1) A.2.2 hin (Has.at H hin hv) (g := mkF m pc Ls (.int j :: .ref a :: st)) rfl rfl (hb hby hd) _ h1, h2⟩
theorem r_arraylengthC (C : Ok Z own nm bytes maxL ret K) (pc' : Nat) {a : Addr} {cl : Cell} {ty : FieldType} {z : Int32} {st : List Value} (A : Arr Z h a cl ty) (hz : cl.slots.size.toInt32 = z) (hd : decode bytes pc = .ok (.arraylength, 1)) (hp : pc + 1 = pc')
    (k : Run l R n0 Q K h cells slots pc' Ls (.int z :: st)) : Run l R n0 Q K h cells slots pc Ls (.ref a :: st) := by
  obtain ⟨p, e, s, m, args, below, meth, c⟩ := K
  obtain ⟨hx, hby, hml, hown, hnm, hret, hlk, hZ⟩ := C
  dsimp only at hx hby hml hown hnm hret hlk hZ
  intro T locs X N eT
  subst hp
  obtain ⟨s₂, o, h1, h2⟩ := k T locs X N eT
  exact ⟨s₂, o, X.arraylength hx (by rw [eT]; exact A.1) (State.isArrayOf_alike hZ.alike A.2.1) (g := mkF m pc Ls (.ref a :: st)) rfl rfl (hb hby hd) _ (by rw [hz]; exact h1), h2⟩
theorem r_ialoadC (C : Ok Z own nm bytes maxL ret K) (pc' : Nat) {a : Addr} {cl : Cell} {j : Int32} {v : Value} {st : List Value} (A : Arr Z h a cl .int) (hin : ¬ (j < 0 ∨ cl.slots.size ≤ j.toNatClampNeg)) (hv : cl.slots[j.toNatClampNeg]? = some v) (hd : decode bytes pc = .ok (.iaload, 1)) (hp : pc + 1 = pc')
    (k : Run l R n0 Q K h cells slots pc' Ls (v :: st)) : Run l R n0 Q K h cells slots pc Ls (.int j :: .ref a :: st) := by
  obtain ⟨p, e, s, m, args, below, meth, c⟩ := K
  obtain ⟨hx, hby, hml, hown, hnm, hret, hlk, hZ⟩ := C
  dsimp only at hx hby hml hown hnm hret hlk hZ
  intro T locs X N eT
  subst hp
  obtain ⟨s₂, o, h1, h2⟩ := k T locs X N eT
  exact ⟨s₂, o, X.iaload hx (by rw [eT]; exact A.1) (State.isArrayOf_alike hZ.alike A.2.1) A.2.2 hin hv (g := mkF m pc Ls (.int j :: .ref a :: st)) rfl rfl (hb hby hd) _ h1, h2⟩
theorem r_aaload (C : Ok Z own nm bytes maxL ret K) (pc' : Nat) {a : Addr} {kA : ClassId} {ty : FieldType} {j z : Int32} {v : Value} {vs : List Value} {dv : Value} {st : List Value} (F : Arv Z h a kA ty z vs dv) (hty : ty.isReference = true) (hj : ¬ j < 0 ∧ j < z) (hv : vs.getD j.toNatClampNeg dv = v) (hd : decode bytes pc = .ok (.aaload, 1)) (hp : pc + 1 = pc')
    (k : Run l R n0 Q K h cells slots pc' Ls (v :: st)) : Run l R n0 Q K h cells slots pc Ls (.int j :: .ref a :: st) := by
  obtain ⟨p, e, s, m, args, below, meth, c⟩ := K
  obtain ⟨hx, hby, hml, hown, hnm, hret, hlk, hZ⟩ := C
  dsimp only at hx hby hml hown hnm hret hlk hZ
  intro T locs X N eT
  subst hp
  obtain ⟨cl, A, -, S, Nn, H, -⟩ := F
  have hin := inb_of S hj
  obtain ⟨s₂, o, h1, h2⟩ := k T locs X N eT
  exact ⟨s₂, o, X.aaload hx (by rw [eT]; exact A.1) (State.isArrayOf_alike hZ.alike A.2.1) hty A.2.2 hin (Has.at H hin hv) (g := mkF m pc Ls (.int j :: .ref a :: st)) rfl rfl (hb hby hd) _ h1, h2⟩
theorem r_iastore (C : Ok Z own nm bytes maxL ret K) (pc' : Nat) {a : Addr} {kA : ClassId} {j z : Int32} {x : Int32} {vs : List Value} {dv : Value} {st : List Value} (F : Arv Z h a kA .int z vs dv) (hj : ¬ j < 0 ∧ j < z) (hlen : j.toNatClampNeg < vs.length) (hd : decode bytes pc = .ok (.iastore, 1)) (hp : pc + 1 = pc') (hn0 : n0 ≤ a)
    (k : ∀ h', Wr h h' a j.toNatClampNeg (.int x) → Arv Z h' a kA .int z (vs.set j.toNatClampNeg (.int x)) dv → Run l R n0 Q K h' cells slots pc' Ls st) : Run l R n0 Q K h cells slots pc Ls (.int x :: .int j :: .ref a :: st) := by
  obtain ⟨p, e, s, m, args, below, meth, c⟩ := K
  obtain ⟨hx, hby, hml, hown, hnm, hret, hlk, hZ⟩ := C
  dsimp only at hx hby hml hown hnm hret hlk hZ
  intro T locs X N eT
  subst hp
  obtain ⟨cl, A, q1, S, Nn, H, G⟩ := F
  have hin := inb_of S hj
  obtain ⟨T1, h', X1, e1, W1, st1⟩ := stI X hx hZ eT A hin (g := mkF m pc Ls (.int x :: .int j :: .ref a :: st)) rfl rfl (hb hby hd)
  obtain ⟨s₂, o, h1, h2⟩ := k h' W1 (Arv.set A q1 S Nn H G rfl W1 _ rfl hlen) T1 _ X1 (Fr.snoc X1 N hn0) e1
  exact ⟨s₂, o, st1 _ h1, h2⟩
theorem r_lastore (C : Ok Z own nm bytes maxL ret K) (pc' : Nat) {a : Addr} {kA : ClassId} {j z : Int32} {x : Int64} {vs : List Value} {dv : Value} {st : List Value} (F : Arv Z h a kA .long z vs dv) (hj : ¬ j < 0 ∧ j < z) (hlen : j.toNatClampNeg < vs.length) (hd : decode bytes pc = .ok (.lastore, 1)) (hp : pc + 1 = pc') (hn0 : n0 ≤ a)
    (k : ∀ h', Wr h h' a j.toNatClampNeg (.long x) → Arv Z h' a kA .long z (vs.set j.toNatClampNeg (.long x)) dv → Run l R n0 Q K h' cells slots pc' Ls st) : Run l R n0 Q K h cells slots pc Ls (.long x :: .int j :: .ref a :: st) := by
  obtain ⟨p, e, s, m, args, below, meth, c⟩ := K
  obtain ⟨hx, hby, hml, hown, hnm, hret, hlk, hZ⟩ := C
  dsimp only at hx hby hml hown hnm hret hlk hZ
  intro T locs X N eT
  subst hp
  obtain ⟨cl, A, q1, S, Nn, H, G⟩ := F
  have hin := inb_of S hj
  obtain ⟨T1, h', X1, e1, W1, st1⟩ := stJ X hx hZ eT A hin (g := mkF m pc Ls (.long x :: .int j :: .ref a :: st)) rfl rfl (hb hby hd)
  obtain ⟨s₂, o, h1, h2⟩ := k h' W1 (Arv.set A q1 S Nn H G rfl W1 _ rfl hlen) T1 _ X1 (Fr.snoc X1 N hn0) e1
  exact ⟨s₂, o, st1 _ h1, h2⟩
theorem r_castore (C : Ok Z own nm bytes maxL ret K) (pc' : Nat) {a : Addr} {kA : ClassId} {j z x : Int32} {vs : List Value} {dv : Value} {st : List Value} (F : Arv Z h a kA .char z vs dv) (hj : ¬ j < 0 ∧ j < z) (hlen : j.toNatClampNeg < vs.length) (hd : decode bytes pc = .ok (.castore, 1)) (hp : pc + 1 = pc') (hn0 : n0 ≤ a)
    (k : ∀ h', Wr h h' a j.toNatClampNeg (.int (nar .char x)) → Arv Z h' a kA .char z (vs.set j.toNatClampNeg (.int (nar .char x))) dv → Run l R n0 Q K h' cells slots pc' Ls st) : Run l R n0 Q K h cells slots pc Ls (.int x :: .int j :: .ref a :: st) := by
  obtain ⟨p, e, s, m, args, below, meth, c⟩ := K
  obtain ⟨hx, hby, hml, hown, hnm, hret, hlk, hZ⟩ := C
  dsimp only at hx hby hml hown hnm hret hlk hZ
  intro T locs X N eT
  subst hp
  obtain ⟨cl, A, q1, S, Nn, H, G⟩ := F
  have hin := inb_of S hj
  obtain ⟨T1, h', X1, e1, W1, st1⟩ := stC X hx hZ eT A hin (g := mkF m pc Ls (.int x :: .int j :: .ref a :: st)) rfl rfl (hb hby hd)
  obtain ⟨s₂, o, h1, h2⟩ := k h' W1 (Arv.set A q1 S Nn H G (fits_nar_char _) W1 _ rfl hlen) T1 _ X1 (Fr.snoc X1 N hn0) e1
  exact ⟨s₂, o, st1 _ h1, h2⟩
theorem r_sastore (C : Ok Z own nm bytes maxL ret K) (pc' : Nat) {a : Addr} {kA : ClassId} {j z x : Int32} {vs : List Value} {dv : Value} {st : List Value} (F : Arv Z h a kA .short z vs dv) (hj : ¬ j < 0 ∧ j < z) (hlen : j.toNatClampNeg < vs.length) (hd : decode bytes pc = .ok (.sastore, 1)) (hp : pc + 1 = pc') (hn0 : n0 ≤ a)
    (k : ∀ h', Wr h h' a j.toNatClampNeg (.int (nar .short x)) → Arv Z h' a kA .short z (vs.set j.toNatClampNeg (.int (nar .short x))) dv → Run l R n0 Q K h' cells slots pc' Ls st) : Run l R n0 Q K h cells slots pc Ls (.int x :: .int j :: .ref a :: st) := by
  obtain ⟨p, e, s, m, args, below, meth, c⟩ := K
  obtain ⟨hx, hby, hml, hown, hnm, hret, hlk, hZ⟩ := C
  dsimp only at hx hby hml hown hnm hret hlk hZ
  intro T locs X N eT
  subst hp
  obtain ⟨cl, A, q1, S, Nn, H, G⟩ := F
  have hin := inb_of S hj
  obtain ⟨T1, h', X1, e1, W1, st1⟩ := stS X hx hZ eT A hin (g := mkF m pc Ls (.int x :: .int j :: .ref a :: st)) rfl rfl (hb hby hd)
  obtain ⟨s₂, o, h1, h2⟩ := k h' W1 (Arv.set A q1 S Nn H G (fits_nar_short _) W1 _ rfl hlen) T1 _ X1 (Fr.snoc X1 N hn0) e1
  exact ⟨s₂, o, st1 _ h1, h2⟩
theorem r_bastore (C : Ok Z own nm bytes maxL ret K) (pc' : Nat) {a : Addr} {kA : ClassId} {j z x : Int32} {vs : List Value} {dv : Value} {st : List Value} (F : Arv Z h a kA .byte z vs dv) (hj : ¬ j < 0 ∧ j < z) (hlen : j.toNatClampNeg < vs.length) (hd : decode bytes pc = .ok (.bastore, 1)) (hp : pc + 1 = pc') (hn0 : n0 ≤ a)
    (k : ∀ h', Wr h h' a j.toNatClampNeg (.int (x.toInt8.toInt32)) → Arv Z h' a kA .byte z (vs.set j.toNatClampNeg (.int (x.toInt8.toInt32))) dv → Run l R n0 Q K h' cells slots pc' Ls st) : Run l R n0 Q K h cells slots pc Ls (.int x :: .int j :: .ref a :: st) := by
  obtain ⟨p, e, s, m, args, below, meth, c⟩ := K
  obtain ⟨hx, hby, hml, hown, hnm, hret, hlk, hZ⟩ := C
  dsimp only at hx hby hml hown hnm hret hlk hZ
  intro T locs X N eT
  subst hp
  obtain ⟨cl, A, q1, S, Nn, H, G⟩ := F
  have hin := inb_of S hj
  obtain ⟨T1, h', X1, e1, W1, st1⟩ := stB X hx hZ eT A hin (g := mkF m pc Ls (.int x :: .int j :: .ref a :: st)) rfl rfl (hb hby hd)
  obtain ⟨s₂, o, h1, h2⟩ := k h' W1 (Arv.set A q1 S Nn H G (fits_nar_byte _) W1 _ rfl hlen) T1 _ X1 (Fr.snoc X1 N hn0) e1
  exact ⟨s₂, o, st1 _ h1, h2⟩
theorem r_aastore (C : Ok Z own nm bytes maxL ret K) (pc' : Nat) {a : Addr} {kA : ClassId} {ty : FieldType} {j z : Int32} {v : Value} {vs : List Value} {dv : Value} {st : List Value} (F : Arv Z h a kA ty z vs dv) (hty : ty.isReference = true) (S' : Sto Z h a v) (hfit : fits ty v = true) (hj : ¬ j < 0 ∧ j < z) (hlen : j.toNatClampNeg < vs.length) (hd : decode bytes pc = .ok (.aastore, 1)) (hp : pc + 1 = pc') (hn0 : n0 ≤ a)
    (k : ∀ h', Wr h h' a j.toNatClampNeg v → Arv Z h' a kA ty z (vs.set j.toNatClampNeg v) dv → Run l R n0 Q K h' cells slots pc' Ls st) : Run l R n0 Q K h cells slots pc Ls (v :: .int j :: .ref a :: st) := by
  obtain ⟨p, e, s, m, args, below, meth, c⟩ := K
  obtain ⟨hx, hby, hml, hown, hnm, hret, hlk, hZ⟩ := C
  dsimp only at hx hby hml hown hnm hret hlk hZ
  intro T locs X N eT
  subst hp
  obtain ⟨cl, A, q1, S, Nn, H, G⟩ := F
  have hin := inb_of S hj
  obtain ⟨T1, h', X1, e1, W1, st1⟩ := stR X hx hZ eT A hin hty S' (g := mkF m pc Ls (v :: .int j :: .ref a :: st)) rfl rfl (hb hby hd)
  obtain ⟨s₂, o, h1, h2⟩ := k h' W1 (Arv.set A q1 S Nn H G hfit W1 _ rfl hlen) T1 _ X1 (Fr.snoc X1 N hn0) e1
  exact ⟨s₂, o, st1 _ h1, h2⟩
theorem r_checkcast (C : Ok Z own nm bytes maxL ret K) (pc' : Nat) {D : String} {i : Nat} {a : Addr} {st : List Value} (w : (Jvm.Cond.classLink own i D).before a0 Z = true) (F : Ins Z h a D true) (hd : decode bytes pc = .ok (.checkcast i, 3)) (hp : pc + 3 = pc')
    (k : Run l R n0 Q K h cells slots pc' Ls (.ref a :: st)) : Run l R n0 Q K h cells slots pc Ls (.ref a :: st) := by
  obtain ⟨p, e, s, m, args, below, meth, c⟩ := K
  obtain ⟨hx, hby, hml, hown, hnm, hret, hlk, hZ⟩ := C
  dsimp only at hx hby hml hown hnm hret hlk hZ
  intro T locs X N eT
  subst hp
  obtain ⟨T1, X1, e1, st1⟩ := castY X hx hZ hown w eT F (g := mkF m pc Ls (.ref a :: st)) rfl rfl (hb hby hd)
  obtain ⟨s₂, o, h1, h2⟩ := k T1 locs X1 N e1
  exact ⟨s₂, o, st1 _ h1, h2⟩
theorem r_instanceof (C : Ok Z own nm bytes maxL ret K) (pc' : Nat) {D : String} {i : Nat} {a : Addr} {st : List Value} (w : (Jvm.Cond.classLink own i D).before a0 Z = true) (F : Ins Z h a D true) (hd : decode bytes pc = .ok (.instanceof i, 3)) (hp : pc + 3 = pc')
    (k : Run l R n0 Q K h cells slots pc' Ls (.int 1 :: st)) : Run l R n0 Q K h cells slots pc Ls (.ref a :: st) := by
  obtain ⟨p, e, s, m, args, below, meth, c⟩ := K
  obtain ⟨hx, hby, hml, hown, hnm, hret, hlk, hZ⟩ := C
  dsimp only at hx hby hml hown hnm hret hlk hZ
  intro T locs X N eT
  subst hp
  obtain ⟨T1, X1, e1, st1⟩ := instY X hx hZ hown w eT F (g := mkF m pc Ls (.ref a :: st)) rfl rfl (hb hby hd)
  obtain ⟨s₂, o, h1, h2⟩ := k T1 locs X1 N e1
  exact ⟨s₂, o, st1 _ h1, h2⟩
theorem r_instanceof_null (C : Ok Z own nm bytes maxL ret K) (pc' : Nat) {i : Nat} {st : List Value} (hd : decode bytes pc = .ok (.instanceof i, 3)) (hp : pc + 3 = pc')
    (k : Run l R n0 Q K h cells slots pc' Ls (.int 0 :: st)) : Run l R n0 Q K h cells slots pc Ls (.null :: st) := by
  obtain ⟨p, e, s, m, args, below, meth, c⟩ := K
  obtain ⟨hx, hby, hml, hown, hnm, hret, hlk, hZ⟩ := C
  dsimp only at hx hby hml hown hnm hret hlk hZ
  intro T locs X N eT
  subst hp
  obtain ⟨s₂, o, h1, h2⟩ := k T locs X N eT
  exact ⟨s₂, o, X.instanceofNull hx (g := mkF m pc Ls (.null :: st)) rfl rfl (hb hby hd) _ h1, h2⟩
theorem r_checkcast_null (C : Ok Z own nm bytes maxL ret K) (pc' : Nat) {i : Nat} {st : List Value} (hd : decode bytes pc = .ok (.checkcast i, 3)) (hp : pc + 3 = pc')
    (k : Run l R n0 Q K h cells slots pc' Ls (.null :: st)) : Run l R n0 Q K h cells slots pc Ls (.null :: st) := by
  obtain ⟨p, e, s, m, args, below, meth, c⟩ := K
  obtain ⟨hx, hby, hml, hown, hnm, hret, hlk, hZ⟩ := C
  dsimp only at hx hby hml hown hnm hret hlk hZ
  intro T locs X N eT
  subst hp
  obtain ⟨s₂, o, h1, h2⟩ := k T locs X N eT
  exact ⟨s₂, o, X.checkcastNull hx (g := mkF m pc Ls (.null :: st)) rfl rfl (hb hby hd) _ h1, h2⟩
theorem r_newarrayE (C : Ok Z own nm bytes maxL ret K) (pc' cap : Nat) (ad : String) {aty : ArrayType} {n : Int32} {st : List Value} (w : (Jvm.Cond.arrayClass (newarray.typeOf aty)).before a0 Z = true) (hd : decode bytes pc = .ok (.newarray aty, 2)) (hp : pc + 2 = pc') (hn : ¬ n < 0) (hcap : n.toNatClampNeg ≤ cap) (hbig : cap * 8 ≤ 536870912) (hc : cells + 1 ≤ R.cells) (hl : slots + cap ≤ R.slots) (had : "[" ++ (newarray.typeOf aty).toString = ad)
    (k : ∀ h' b kA, b = h.size → Ext h h' → Arv Z h' b kA (newarray.typeOf aty) n [] (defaultValue (newarray.typeOf aty)) → Exa Z h' b ad → Run l R n0 Q K h' (cells + 1) (slots + cap) pc' Ls (.ref b :: st)) : Run l R n0 Q K h cells slots pc Ls (.int n :: st) := by
  obtain ⟨p, e, s, m, args, below, meth, c⟩ := K
  obtain ⟨hx, hby, hml, hown, hnm, hret, hlk, hZ⟩ := C
  dsimp only at hx hby hml hown hnm hret hlk hZ
  intro T locs X N eT
  subst hp
  obtain ⟨T1, h', kA, X1, e1, E1, A1, Ex1, st1⟩ := newPE X hx hZ w eT (g := mkF m pc Ls (.int n :: st)) rfl (hb hby hd) rfl hn hcap hbig hc hl had
  obtain ⟨s₂, o, h1, h2⟩ := k h' _ kA rfl E1 (Arv.new A1 hn) Ex1 T1 locs X1 N e1
  exact ⟨s₂, o, st1 _ h1, h2⟩
theorem r_arraycopy (C : Ok Z own nm bytes maxL ret K) (pc' : Nat) (us : List Value) {a b : Addr} {i : Nat} {kA kB : ClassId} {ty ty' : FieldType} {z z' sp dp nn : Int32} {vs vd : List Value} {dv dd : Value} {st : List Value} (w1 : (Jvm.Cond.methodLink own i Jvm.Stand.acN).before a0 Z = true) (w2 : (Jvm.Cond.native Jvm.Stand.acN).before a0 Z = true) (w3 : (Jvm.Cond.static Jvm.Stand.acN).before a0 Z = true) (w4 : (Jvm.Cond.initialized "java/lang/System").before a0 Z = true) (A : Arv Z h a kA ty z vs dv) (B : Arv Z h b kB ty' z' vd dd) (hty : (ty = ty' ∧ refKind ty = false) ∨ (refKind ty = true ∧ refKind ty' = true ∧ StoL Z h b us)) (h1 : ¬ sp < 0) (h2 : ¬ dp < 0) (h3 : ¬ nn < 0) (h4 : sp.toNatClampNeg + nn.toNatClampNeg ≤ z.toNatClampNeg) (h5 : dp.toNatClampNeg + nn.toNatClampNeg ≤ z'.toNatClampNeg) (hus : us = (List.range nn.toNatClampNeg).map fun i => vs.getD (sp.toNatClampNeg + i) dv) (hlv : dp.toNatClampNeg + nn.toNatClampNeg ≤ vd.length) (ge : n0 ≤ b) (hsz : Ls.size = maxL) (hd : decode bytes pc = .ok (.invokestatic i, 3)) (hp : pc + 3 = pc') (hf : 1 ≤ R.frames) (hlo : (st.map fun v => v.category).sum + (nativeFrameWords "java/lang/System" "arraycopy" 5 + 11) ≤ R.locals)
    (k : ∀ h', Keep h h' [b] → Arv Z h' b kB ty' z' (vd.take dp.toNatClampNeg ++ us ++ vd.drop (dp.toNatClampNeg + nn.toNatClampNeg)) dd → Run l R n0 Q K h' cells slots pc' Ls st) : Run l R n0 Q K h cells slots pc Ls (.int nn :: .int dp :: .ref b :: .int sp :: .ref a :: st) := by
  obtain ⟨p, e, s, m, args, below, meth, c⟩ := K
  obtain ⟨hx, hby, hml, hown, hnm, hret, hlk, hZ⟩ := C
  dsimp only at hx hby hml hown hnm hret hlk hZ
  intro T locs X N eT
  subst hp
  have hsize : (mkF m pc Ls (.int nn :: .int dp :: .ref b :: .int sp :: .ref a :: st)).locals.size = c.maxLocals := by rw [hml]; exact hsz
  obtain ⟨T1, h', L1, X1, e1, N1, K1, V1, st1⟩ := cpA X hx hZ hown w1 w2 w3 w4 eT A B hty h1 h2 h3 h4 h5 hus hlv N ge (g := mkF m pc Ls (.int nn :: .int dp :: .ref b :: .int sp :: .ref a :: st)) rfl hsize rfl (hb hby hd) hf (W := (st.map fun v => v.category).sum) (sumcat st _ rfl) hlo
  obtain ⟨s₂, o, h1, h2⟩ := k h' K1 V1 T1 L1 X1 N1 e1
  exact ⟨s₂, o, st1 _ h1, h2⟩
theorem r_clone (C : Ok Z own nm bytes maxL ret K) (pc' cap : Nat) {a : Addr} {i : Nat} {ad : String} {kA : ClassId} {ty : FieldType} {z : Int32} {vs : List Value} {dv : Value} {st : List Value} (w1 : (Jvm.Cond.methodLink own i ⟨ad, "clone", "()Ljava/lang/Object;"⟩).before a0 Z = true) (w2 : (Jvm.Cond.sameMethod ad "java/lang/Object" "clone" "()Ljava/lang/Object;").before a0 Z = true) (w3 : (Jvm.Cond.native ⟨"java/lang/Object", "clone", "()Ljava/lang/Object;"⟩).before a0 Z = true) (w4 : (Jvm.Cond.instanceMethod ⟨"java/lang/Object", "clone", "()Ljava/lang/Object;"⟩).before a0 Z = true) (w5 : (Jvm.Cond.selects ad ⟨ad, "clone", "()Ljava/lang/Object;"⟩ ⟨"java/lang/Object", "clone", "()Ljava/lang/Object;"⟩).before a0 Z = true) (w6 : (Jvm.Cond.castable ad "java/lang/Cloneable").before a0 Z = true) (F : Arv Z h a kA ty z vs dv) (E : Exa Z h a ad) (hsz : Ls.size = maxL) (hd : decode bytes pc = .ok (.invokevirtual i, 3)) (hp : pc + 3 = pc') (hf : 1 ≤ R.frames) (hlo : (st.map fun v => v.category).sum + 14 ≤ R.locals) (hcap : z.toNatClampNeg ≤ cap) (hc : cells + 1 ≤ R.cells) (hl : slots + cap ≤ R.slots)
    (k : ∀ h' b, b = h.size → Ext h h' → Arv Z h' b kA ty z vs dv → Exa Z h' b ad → Run l R n0 Q K h' (cells + 1) (slots + cap) pc' Ls (.ref b :: st)) : Run l R n0 Q K h cells slots pc Ls (.ref a :: st) := by
  obtain ⟨p, e, s, m, args, below, meth, c⟩ := K
  obtain ⟨hx, hby, hml, hown, hnm, hret, hlk, hZ⟩ := C
  dsimp only at hx hby hml hown hnm hret hlk hZ
  intro T locs X N eT
  subst hp
  have hsize : (mkF m pc Ls (.ref a :: st)).locals.size = c.maxLocals := by rw [hml]; exact hsz
  obtain ⟨T1, h', X1, e1, E1, V1, Ex1, st1⟩ := cloneH X hx hZ hown w1 w2 w3 w4 w5 w6 eT F.arh E (g := mkF m pc Ls (.ref a :: st)) rfl hsize rfl (hb hby hd) hf (W := (st.map fun v => v.category).sum) (sumcat st _ rfl) hlo hcap hc hl
  obtain ⟨s₂, o, h1, h2⟩ := k h' _ rfl E1 V1 Ex1 T1 locs X1 N e1
  exact ⟨s₂, o, st1 _ h1, h2⟩
theorem r_ireturn (C : Ok Z own nm bytes maxL ret K) {z : Int32} {st : List Value} (hr : ret = some .int) (hd : decode bytes pc = .ok (.ireturn, 1)) (hc : cells ≤ R.cells) (hs : slots ≤ R.slots) (hQ : Q (some (.int z)) h) : Run l R n0 Q K h cells slots pc Ls (.int z :: st) := by
  obtain ⟨p, e, s, m, args, below, meth, c⟩ := K
  obtain ⟨hx, hby, hml, hown, hnm, hret, hlk, hZ⟩ := C
  dsimp only at hx hby hml hown hnm hret hlk hZ
  intro T locs X N eT
  subst eT
  rw [hr] at hret
  obtain ⟨fs, hr', hrun, hended, hW, hsame⟩ := X.leave (v := some (.int z)) (fun hh => by rw [hret] at hh; cases hh) hlk
  exact ⟨_, _, retOut X hx hret rfl (Or.inl ⟨rfl, Or.inl rfl, z, rfl⟩) (hb hby hd) hr', hrun, hended, _, _, rfl, ⟨hQ, N⟩, ⟨_, rfl⟩, hW, hsame.mono hc hs⟩
theorem r_nreturn (C : Ok Z own nm bytes maxL ret K) {z : Int32} {t : FieldType} (z' : Int32) {st : List Value} (hr : ret = some t) (ht : t = .boolean ∨ t = .byte ∨ t = .char ∨ t = .short) (hz : nar t z = z') (hd : decode bytes pc = .ok (.ireturn, 1)) (hc : cells ≤ R.cells) (hs : slots ≤ R.slots) (hQ : Q (some (.int z')) h) : Run l R n0 Q K h cells slots pc Ls (.int z :: st) := by
  obtain ⟨p, e, s, m, args, below, meth, c⟩ := K
  obtain ⟨hx, hby, hml, hown, hnm, hret, hlk, hZ⟩ := C
  dsimp only at hx hby hml hown hnm hret hlk hZ
  intro T locs X N eT
  subst eT
  rw [hr] at hret
  obtain ⟨fs, hr', hrun, hended, hW, hsame⟩ := X.leave (v := some (.int z')) (fun hh => by rw [hret] at hh; cases hh) hlk
  exact ⟨_, _, retN X hx hret ht (hb hby hd) (by rw [hz]; exact hr'), hrun, hended, _, _, rfl, ⟨hQ, N⟩, ⟨_, rfl⟩, hW, hsame.mono hc hs⟩
theorem r_lreturn (C : Ok Z own nm bytes maxL ret K) {z : Int64} {st : List Value} (hr : ret = some .long) (hd : decode bytes pc = .ok (.lreturn, 1)) (hc : cells ≤ R.cells) (hs : slots ≤ R.slots) (hQ : Q (some (.long z)) h) : Run l R n0 Q K h cells slots pc Ls (.long z :: st) := by
  obtain ⟨p, e, s, m, args, below, meth, c⟩ := K
  obtain ⟨hx, hby, hml, hown, hnm, hret, hlk, hZ⟩ := C
  dsimp only at hx hby hml hown hnm hret hlk hZ
  intro T locs X N eT
  subst eT
  rw [hr] at hret
  obtain ⟨fs, hr', hrun, hended, hW, hsame⟩ := X.leave (v := some (.long z)) (fun hh => by rw [hret] at hh; cases hh) hlk
  exact ⟨_, _, retOut X hx hret rfl (Or.inr (Or.inl ⟨rfl, rfl, z, rfl⟩)) (hb hby hd) hr', hrun, hended, _, _, rfl, ⟨hQ, N⟩, ⟨_, rfl⟩, hW, hsame.mono hc hs⟩
theorem r_areturn (C : Ok Z own nm bytes maxL ret K) {z : Value} {t : FieldType} {st : List Value} (hr : ret = some t) (ht : t.isReference = true) (hz : z.isRef = true) (hn : narrow t z = z) (hd : decode bytes pc = .ok (.areturn, 1)) (hc : cells ≤ R.cells) (hs : slots ≤ R.slots) (hQ : Q (some z) h) : Run l R n0 Q K h cells slots pc Ls (z :: st) := by
  obtain ⟨p, e, s, m, args, below, meth, c⟩ := K
  obtain ⟨hx, hby, hml, hown, hnm, hret, hlk, hZ⟩ := C
  dsimp only at hx hby hml hown hnm hret hlk hZ
  intro T locs X N eT
  subst eT
  rw [hr] at hret
  obtain ⟨fs, hr', hrun, hended, hW, hsame⟩ := X.leave (v := some z) (fun hh => by rw [hret] at hh; cases hh) hlk
  exact ⟨_, _, retOut X hx hret hn (Or.inr (Or.inr (Or.inr (Or.inr ⟨rfl, ht, hz⟩)))) (hb hby hd) hr', hrun, hended, _, _, rfl, ⟨hQ, N⟩, ⟨_, rfl⟩, hW, hsame.mono hc hs⟩
theorem r_return (C : Ok Z own nm bytes maxL ret K)  (hr : ret = none) (hd : decode bytes pc = .ok (.return_, 1)) (hc : cells ≤ R.cells) (hs : slots ≤ R.slots) (hQ : Q none h) : Run l R n0 Q K h cells slots pc Ls [] := by
  obtain ⟨p, e, s, m, args, below, meth, c⟩ := K
  obtain ⟨hx, hby, hml, hown, hnm, hret, hlk, hZ⟩ := C
  dsimp only at hx hby hml hown hnm hret hlk hZ
  intro T locs X N eT
  subst eT
  rw [hr] at hret
  obtain ⟨fs, hr', hrun, hended, hW, hsame⟩ := X.leave (v := none) (fun _ => rfl) hlk
  exact ⟨_, _, X.returnOut hx hret (hb hby hd) hr', hrun, hended, _, _, rfl, ⟨hQ, N⟩, ⟨_, rfl⟩, hW, hsame.mono hc hs⟩
theorem r_callS (C : Ok Z own nm bytes maxL ret K) (pc' : Nat) {y : MethodName} {bytes' : ByteArray} {maxL' : Nat} {ret' : Option FieldType} {rm : Room} {i : Nat} {as' : Array Value} {Q' : Option Value → Heap → Prop} {a : Addr} (argsL rest : List Value)  (hM : Con l Z y bytes' maxL' ret' [] rm n0 as' h Q') (w : (Jvm.Cond.methodLink own i y).before a0 Z = true) (ws : (Jvm.Cond.static y).before a0 Z = true) (wz : (Jvm.Cond.initialized y.cls).before a0 Z = true) (wc : (Jvm.Cond.code y bytes' maxL' ret').before a0 Z = true) (hy : y.cls ≠ "java/lang/invoke/MethodHandle" ∧ y.cls ≠ "java/lang/invoke/VarHandle") (hlen : ∀ sig, parseMethodDescriptor y.desc = some sig → argsL.length = sig.parameters.length) (hst : st = argsL.reverse ++ rest) (hass : as' = argsL.toArray) (hf : rm.frames + 1 ≤ R.frames) (hl : (rest.map fun v => v.category).sum + (maxL' + 11) + rm.locals ≤ R.locals) (hc : cells + rm.cells ≤ R.cells) (hsl : slots + rm.slots ≤ R.slots) (hsz : Ls.size = maxL) (hd : decode bytes pc = .ok (.invokestatic i, 3)) (hp : pc + 3 = pc')
    (k : ∀ v h', Q' v h' → Lo n0 h h' → Run l R n0 Q K h' (cells + rm.cells) (slots + rm.slots) pc' Ls (v.toList ++ rest)) : Run l R n0 Q K h cells slots pc Ls st := by
  obtain ⟨p, e, s, m, args, below, meth, c⟩ := K
  obtain ⟨hx, hby, hml, hown, hnm, hret, hlk, hZ⟩ := C
  dsimp only at hx hby hml hown hnm hret hlk hZ
  subst hp
  subst hst
  subst hass
  intro T locs X N eT
  have hsize : (mkF m pc Ls (argsL.reverse ++ rest)).locals.size = c.maxLocals := by rw [hml]; exact hsz
  obtain ⟨v, _, ⟨T1, L1, k1, n1⟩, -, X1, ⟨Lc, hQ1, l1, y1, z1⟩, st1⟩ := Jvm.LawKit.callS X hx hown (mvT hZ w) (mvT hZ ws) (mvT hZ wz) (mvT hZ wc) hy (backOf (W := (rest.map fun v => v.category).sum) (Q := fun v h' L => (Q' v h' ∧ Lo n0 h h') ∧ Fr n0 L) hM hZ wc wz hf hl) (g := mkF m pc Ls (argsL.reverse ++ rest)) rfl hsize (argsL := argsL) (rest := rest) hlen rfl (sumcat rest _ rfl) (hb hby hd) (fun _ _ => ⟨rfl, eT, hc, hsl⟩)
  dsimp only [Pt.U, Pt.locs, Pt.cells, Pt.slots] at X1 l1 y1 z1 st1 hQ1
  subst l1 y1 z1
  obtain ⟨s₂, o, h1, h2⟩ := k v T1.heap hQ1.1.1 hQ1.1.2 T1 _ X1 (N.app hQ1.2) rfl
  exact ⟨s₂, o, st1 _ h1, h2⟩
theorem r_callN (C : Ok Z own nm bytes maxL ret K) (pc' : Nat) {y : MethodName} {bytes' : ByteArray} {maxL' : Nat} {rm : Room} {i : Nat} {as' : Array Value} {Q' : Option Value → Heap → Prop} {a : Addr} (argsL rest : List Value) (hy1 : y.name = "<init>") (hM : Con l Z y bytes' maxL' none [] rm n0 as' h Q') (w : (Jvm.Cond.methodLink own i y).before a0 Z = true) (wi : (Jvm.Cond.instanceMethod y).before a0 Z = true) (wz : (Jvm.Cond.initialized y.cls).before a0 Z = true) (wc : (Jvm.Cond.code y bytes' maxL' none).before a0 Z = true) (hy : y.cls ≠ "java/lang/invoke/MethodHandle" ∧ y.cls ≠ "java/lang/invoke/VarHandle") (hlen : ∀ sig, parseMethodDescriptor y.desc = some sig → argsL.length = sig.parameters.length) (hst : st = argsL.reverse ++ .ref a :: rest) (hass : as' = (.ref a :: argsL).toArray) (hf : rm.frames + 1 ≤ R.frames) (hl : (rest.map fun v => v.category).sum + (maxL' + 11) + rm.locals ≤ R.locals) (hc : cells + rm.cells ≤ R.cells) (hsl : slots + rm.slots ≤ R.slots) (hsz : Ls.size = maxL) (hd : decode bytes pc = .ok (.invokespecial i, 3)) (hp : pc + 3 = pc')
    (k : ∀ v h', Q' v h' → Lo n0 h h' → Run l R n0 Q K h' (cells + rm.cells) (slots + rm.slots) pc' Ls (v.toList ++ rest)) : Run l R n0 Q K h cells slots pc Ls st := by
  obtain ⟨p, e, s, m, args, below, meth, c⟩ := K
  obtain ⟨hx, hby, hml, hown, hnm, hret, hlk, hZ⟩ := C
  dsimp only at hx hby hml hown hnm hret hlk hZ
  subst hp
  subst hst
  subst hass
  intro T locs X N eT
  have hsize : (mkF m pc Ls (argsL.reverse ++ .ref a :: rest)).locals.size = c.maxLocals := by rw [hml]; exact hsz
  obtain ⟨v, _, ⟨T1, L1, k1, n1⟩, -, X1, ⟨Lc, hQ1, l1, y1, z1⟩, st1⟩ := X.specialBack hx hy1 hown (mvT hZ w) (mvT hZ wi) (mvT hZ wc) hy (backOf (W := (rest.map fun v => v.category).sum) (Q := fun v h' L => (Q' v h' ∧ Lo n0 h h') ∧ Fr n0 L) hM hZ wc wz hf hl) (g := mkF m pc Ls (argsL.reverse ++ .ref a :: rest)) rfl hsize (Steps.refl _) (a := a) (argsL := argsL) (rest := rest) hlen rfl (sumcat rest _ rfl) (hb hby hd) (fun _ _ => ⟨rfl, eT, hc, hsl⟩)
  dsimp only [Pt.U, Pt.locs, Pt.cells, Pt.slots] at X1 l1 y1 z1 st1 hQ1
  subst l1 y1 z1
  obtain ⟨s₂, o, h1, h2⟩ := k v T1.heap hQ1.1.1 hQ1.1.2 T1 _ X1 (N.app hQ1.2) rfl
  exact ⟨s₂, o, st1.trans h1, h2⟩
theorem r_callNH (C : Ok Z own nm bytes maxL ret K) (pc' : Nat) {y : MethodName} {bytes' : ByteArray} {maxL' : Nat} {rm : Room} {i : Nat} {as' : Array Value} {Q' : Option Value → Heap → Prop} {hs' : List (Nat × Nat × Nat × Nat)} {a : Addr} (argsL rest : List Value) (hy1 : y.name = "<init>") (hM : ConH l Z y bytes' maxL' none hs' rm n0 as' h Q') (w : (Jvm.Cond.methodLink own i y).before a0 Z = true) (wi : (Jvm.Cond.instanceMethod y).before a0 Z = true) (wz : (Jvm.Cond.initialized y.cls).before a0 Z = true) (wc : (Jvm.Cond.codeWith y bytes' maxL' none hs').before a0 Z = true) (hy : y.cls ≠ "java/lang/invoke/MethodHandle" ∧ y.cls ≠ "java/lang/invoke/VarHandle") (hlen : ∀ sig, parseMethodDescriptor y.desc = some sig → argsL.length = sig.parameters.length) (hst : st = argsL.reverse ++ .ref a :: rest) (hass : as' = (.ref a :: argsL).toArray) (hf : rm.frames + 1 ≤ R.frames) (hl : (rest.map fun v => v.category).sum + (maxL' + 11) + rm.locals ≤ R.locals) (hc : cells + rm.cells ≤ R.cells) (hsl : slots + rm.slots ≤ R.slots) (hsz : Ls.size = maxL) (hd : decode bytes pc = .ok (.invokespecial i, 3)) (hp : pc + 3 = pc')
    (k : ∀ v h', Q' v h' → Lo n0 h h' → Run l R n0 Q K h' (cells + rm.cells) (slots + rm.slots) pc' Ls (v.toList ++ rest)) : Run l R n0 Q K h cells slots pc Ls st := by
  obtain ⟨p, e, s, m, args, below, meth, c⟩ := K
  obtain ⟨hx, hby, hml, hown, hnm, hret, hlk, hZ⟩ := C
  dsimp only at hx hby hml hown hnm hret hlk hZ
  subst hp
  subst hst
  subst hass
  intro T locs X N eT
  have hsize : (mkF m pc Ls (argsL.reverse ++ .ref a :: rest)).locals.size = c.maxLocals := by rw [hml]; exact hsz
  obtain ⟨v, _, ⟨T1, L1, k1, n1⟩, -, X1, ⟨Lc, hQ1, l1, y1, z1⟩, st1⟩ := X.specialBackH hx hy1 hown (mvT hZ w) (mvT hZ wi) (mvT hZ wc) hy (backOfWith (W := (rest.map fun v => v.category).sum) (Q := fun v h' L => (Q' v h' ∧ Lo n0 h h') ∧ Fr n0 L) hM hZ wc wz hf hl) (g := mkF m pc Ls (argsL.reverse ++ .ref a :: rest)) rfl hsize (Steps.refl _) (a := a) (argsL := argsL) (rest := rest) hlen rfl (sumcat rest _ rfl) (hb hby hd) (fun _ _ => ⟨rfl, eT, hc, hsl⟩)
  dsimp only [Pt.U, Pt.locs, Pt.cells, Pt.slots] at X1 l1 y1 z1 st1 hQ1
  subst l1 y1 z1
  obtain ⟨s₂, o, h1, h2⟩ := k v T1.heap hQ1.1.1 hQ1.1.2 T1 _ X1 (N.app hQ1.2) rfl
  exact ⟨s₂, o, st1.trans h1, h2⟩
theorem r_callV (C : Ok Z own nm bytes maxL ret K) (pc' : Nat) {y : MethodName} {bytes' : ByteArray} {maxL' : Nat} {ret' : Option FieldType} {rm : Room} {i : Nat} {as' : Array Value} {Q' : Option Value → Heap → Prop} {z : MethodName} {D : String} {a : Addr} (argsL rest : List Value)  (hM : Con l Z z bytes' maxL' ret' [] rm n0 as' h Q') (w : (Jvm.Cond.methodLink own i y).before a0 Z = true) (wd : (Jvm.Cond.declares y).before a0 Z = true) (hnf : ∀ s : State, Z.Warmed39 s.vm → NotFace s y) (wsel : (Jvm.Cond.selects D y z).before a0 Z = true) (wi : (Jvm.Cond.instanceMethod z).before a0 Z = true) (wz : (Jvm.Cond.initialized z.cls).before a0 Z = true) (wc : (Jvm.Cond.code z bytes' maxL' ret').before a0 Z = true) (E : Exa Z h a D) (hy : y.cls ≠ "java/lang/invoke/MethodHandle" ∧ y.cls ≠ "java/lang/invoke/VarHandle") (hlen : ∀ sig, parseMethodDescriptor y.desc = some sig → argsL.length = sig.parameters.length) (hst : st = argsL.reverse ++ .ref a :: rest) (hass : as' = (.ref a :: argsL).toArray) (hf : rm.frames + 1 ≤ R.frames) (hl : (rest.map fun v => v.category).sum + (maxL' + 11) + rm.locals ≤ R.locals) (hc : cells + rm.cells ≤ R.cells) (hsl : slots + rm.slots ≤ R.slots) (hsz : Ls.size = maxL) (hd : decode bytes pc = .ok (.invokevirtual i, 3)) (hp : pc + 3 = pc')
    (k : ∀ v h', Q' v h' → Lo n0 h h' → Run l R n0 Q K h' (cells + rm.cells) (slots + rm.slots) pc' Ls (v.toList ++ rest)) : Run l R n0 Q K h cells slots pc Ls st := by
  obtain ⟨p, e, s, m, args, below, meth, c⟩ := K
  obtain ⟨hx, hby, hml, hown, hnm, hret, hlk, hZ⟩ := C
  dsimp only at hx hby hml hown hnm hret hlk hZ
  subst hp
  subst hst
  subst hass
  intro T locs X N eT
  obtain ⟨cq, kq, qa, qb, qc⟩ := isOf hZ eT E
  have hsize : (mkF m pc Ls (argsL.reverse ++ .ref a :: rest)).locals.size = c.maxLocals := by rw [hml]; exact hsz
  obtain ⟨v, _, ⟨T1, L1, k1, n1⟩, -, X1, ⟨Lc, hQ1, l1, y1, z1⟩, st1⟩ := X.virtualBack hx hown (mvT hZ w) (mvT hZ wd) (hnf _ hZ) (mvT hZ wsel) (mvT hZ wi) hy (backOf (W := (rest.map fun v => v.category).sum) (Q := fun v h' L => (Q' v h' ∧ Lo n0 h h') ∧ Fr n0 L) hM hZ wc wz hf hl) qa qc (g := mkF m pc Ls (argsL.reverse ++ .ref a :: rest)) rfl hsize (Steps.refl _) (argsL := argsL) (rest := rest) hlen rfl (sumcat rest _ rfl) (hb hby hd) (fun _ _ => ⟨rfl, eT, hc, hsl⟩)
  dsimp only [Pt.U, Pt.locs, Pt.cells, Pt.slots] at X1 l1 y1 z1 st1 hQ1
  subst l1 y1 z1
  obtain ⟨s₂, o, h1, h2⟩ := k v T1.heap hQ1.1.1 hQ1.1.2 T1 _ X1 (N.app hQ1.2) rfl
  exact ⟨s₂, o, st1.trans h1, h2⟩
theorem r_callU (C : Ok Z own nm bytes maxL ret K) (pc' : Nat) {y : MethodName} {bytes' : ByteArray} {maxL' : Nat} {ret' : Option FieldType} {rm : Room} {i : Nat} {as' : Array Value} {Q' : Option Value → Heap → Prop} {owner D : String} {z : MethodName} {a : Addr} (argsL rest : List Value)  (hM : Con l Z z bytes' maxL' ret' [] rm n0 as' h Q') (w : (Jvm.Cond.methodLink own i y).before a0 Z = true) (wsm : (Jvm.Cond.sameMethod y.cls owner y.name y.desc).before a0 Z = true) (wd : (Jvm.Cond.declares ⟨owner, y.name, y.desc⟩).before a0 Z = true) (how : owner ≠ "java/lang/invoke/MethodHandle" ∧ owner ≠ "java/lang/invoke/VarHandle") (wsel : (Jvm.Cond.selects D y z).before a0 Z = true) (wi : (Jvm.Cond.instanceMethod z).before a0 Z = true) (wz : (Jvm.Cond.initialized z.cls).before a0 Z = true) (wc : (Jvm.Cond.code z bytes' maxL' ret').before a0 Z = true) (E : Exa Z h a D) (hy : y.cls ≠ "java/lang/invoke/MethodHandle" ∧ y.cls ≠ "java/lang/invoke/VarHandle") (hlen : ∀ sig, parseMethodDescriptor y.desc = some sig → argsL.length = sig.parameters.length) (hst : st = argsL.reverse ++ .ref a :: rest) (hass : as' = (.ref a :: argsL).toArray) (hf : rm.frames + 1 ≤ R.frames) (hl : (rest.map fun v => v.category).sum + (maxL' + 11) + rm.locals ≤ R.locals) (hc : cells + rm.cells ≤ R.cells) (hsl : slots + rm.slots ≤ R.slots) (hsz : Ls.size = maxL) (hd : decode bytes pc = .ok (.invokevirtual i, 3)) (hp : pc + 3 = pc')
    (k : ∀ v h', Q' v h' → Lo n0 h h' → Run l R n0 Q K h' (cells + rm.cells) (slots + rm.slots) pc' Ls (v.toList ++ rest)) : Run l R n0 Q K h cells slots pc Ls st := by
  obtain ⟨p, e, s, m, args, below, meth, c⟩ := K
  obtain ⟨hx, hby, hml, hown, hnm, hret, hlk, hZ⟩ := C
  dsimp only at hx hby hml hown hnm hret hlk hZ
  subst hp
  subst hst
  subst hass
  intro T locs X N eT
  obtain ⟨cq, kq, qa, qb, qc⟩ := isOf hZ eT E
  have hsize : (mkF m pc Ls (argsL.reverse ++ .ref a :: rest)).locals.size = c.maxLocals := by rw [hml]; exact hsz
  obtain ⟨v, _, ⟨T1, L1, k1, n1⟩, -, X1, ⟨Lc, hQ1, l1, y1, z1⟩, st1⟩ := X.virtualBackUp hx hown (mvT hZ w) (mvT hZ wsm) (mvT hZ wd) how (mvT hZ wsel) (mvT hZ wi) (backOf (W := (rest.map fun v => v.category).sum) (Q := fun v h' L => (Q' v h' ∧ Lo n0 h h') ∧ Fr n0 L) hM hZ wc wz hf hl) qa qc (g := mkF m pc Ls (argsL.reverse ++ .ref a :: rest)) rfl hsize (Steps.refl _) (argsL := argsL) (rest := rest) hlen rfl (sumcat rest _ rfl) (hb hby hd) (fun _ _ => ⟨rfl, eT, hc, hsl⟩)
  dsimp only [Pt.U, Pt.locs, Pt.cells, Pt.slots] at X1 l1 y1 z1 st1 hQ1
  subst l1 y1 z1
  obtain ⟨s₂, o, h1, h2⟩ := k v T1.heap hQ1.1.1 hQ1.1.2 T1 _ X1 (N.app hQ1.2) rfl
  exact ⟨s₂, o, st1.trans h1, h2⟩
theorem r_callI (C : Ok Z own nm bytes maxL ret K) (pc' : Nat) {y : MethodName} {bytes' : ByteArray} {maxL' : Nat} {ret' : Option FieldType} {rm : Room} {i : Nat} {as' : Array Value} {Q' : Option Value → Heap → Prop} {z : MethodName} {D : String} {count : Nat} {a : Addr} (argsL rest : List Value)  (hM : Con l Z z bytes' maxL' ret' [] rm n0 as' h Q') (w : (Jvm.Cond.methodLink own i y).before a0 Z = true) (wd : (Jvm.Cond.declares y).before a0 Z = true) (wface : (Jvm.Cond.interfaceMethod y.cls y.cls y.name y.desc).before a0 Z = true) (wsel : (Jvm.Cond.selects D y z).before a0 Z = true) (wi : (Jvm.Cond.instanceMethod z).before a0 Z = true) (wpub : (Jvm.Cond.publicMethod z).before a0 Z = true) (wunh : (Jvm.Cond.unhidden D y.name y.desc).before a0 Z = true) (wcast : (Jvm.Cond.castable D y.cls).before a0 Z = true) (wz : (Jvm.Cond.initialized z.cls).before a0 Z = true) (wc : (Jvm.Cond.code z bytes' maxL' ret').before a0 Z = true) (E : Exa Z h a D) (hy : y.cls ≠ "java/lang/invoke/MethodHandle" ∧ y.cls ≠ "java/lang/invoke/VarHandle") (hlen : ∀ sig, parseMethodDescriptor y.desc = some sig → argsL.length = sig.parameters.length) (hst : st = argsL.reverse ++ .ref a :: rest) (hass : as' = (.ref a :: argsL).toArray) (hf : rm.frames + 1 ≤ R.frames) (hl : (rest.map fun v => v.category).sum + (maxL' + 11) + rm.locals ≤ R.locals) (hc : cells + rm.cells ≤ R.cells) (hsl : slots + rm.slots ≤ R.slots) (hsz : Ls.size = maxL) (hd : decode bytes pc = .ok (.invokeinterface i count, 5)) (hp : pc + 5 = pc')
    (k : ∀ v h', Q' v h' → Lo n0 h h' → Run l R n0 Q K h' (cells + rm.cells) (slots + rm.slots) pc' Ls (v.toList ++ rest)) : Run l R n0 Q K h cells slots pc Ls st := by
  obtain ⟨p, e, s, m, args, below, meth, c⟩ := K
  obtain ⟨hx, hby, hml, hown, hnm, hret, hlk, hZ⟩ := C
  dsimp only at hx hby hml hown hnm hret hlk hZ
  subst hp
  subst hst
  subst hass
  intro T locs X N eT
  obtain ⟨cq, kq, qa, qb, qc⟩ := isOf hZ eT E
  have hsize : (mkF m pc Ls (argsL.reverse ++ .ref a :: rest)).locals.size = c.maxLocals := by rw [hml]; exact hsz
  obtain ⟨v, _, ⟨T1, L1, k1, n1⟩, -, X1, ⟨Lc, hQ1, l1, y1, z1⟩, st1⟩ := X.interfaceBack hx hown (mvT hZ w) (mvT hZ wd) (mvT hZ wface (by simp [Cond.onTables, Cond.keepsFace, Cond.keeps, Cond.steady, Cond.faceAtom, hy.1, hy.2])) (mvT hZ wsel) (mvT hZ wi) (mvT hZ wpub) (mvT hZ wunh) (mvT hZ wcast) hy (backOf (W := (rest.map fun v => v.category).sum) (Q := fun v h' L => (Q' v h' ∧ Lo n0 h h') ∧ Fr n0 L) hM hZ wc wz hf hl) qa qb qc (g := mkF m pc Ls (argsL.reverse ++ .ref a :: rest)) rfl hsize (Steps.refl _) (argsL := argsL) (rest := rest) hlen rfl (sumcat rest _ rfl) (hb hby hd) (fun _ _ => ⟨rfl, eT, hc, hsl⟩)
  dsimp only [Pt.U, Pt.locs, Pt.cells, Pt.slots] at X1 l1 y1 z1 st1 hQ1
  subst l1 y1 z1
  obtain ⟨s₂, o, h1, h2⟩ := k v T1.heap hQ1.1.1 hQ1.1.2 T1 _ X1 (N.app hQ1.2) rfl
  exact ⟨s₂, o, st1.trans h1, h2⟩
theorem r_callP (C : Ok Z own nm bytes maxL ret K) (pc' : Nat) {y : MethodName} {bytes' : ByteArray} {maxL' : Nat} {ret' : Option FieldType} {rm : Room} {i : Nat} {as' : Array Value} {Q' : Option Value → Heap → Prop} {a : Addr} (argsL rest : List Value)  (hM : Con l Z y bytes' maxL' ret' [] rm n0 as' h Q') (w : (Jvm.Cond.methodLink own i y).before a0 Z = true) (wi : (Jvm.Cond.instanceMethod y).before a0 Z = true) (wsel : (Jvm.Cond.selects y.cls y y).before a0 Z = true) (wpriv : (Jvm.Cond.privateMethod y).before a0 Z = true) (wz : (Jvm.Cond.initialized y.cls).before a0 Z = true) (wc : (Jvm.Cond.code y bytes' maxL' ret').before a0 Z = true) (E : ∃ cell : Cell, h[a]? = some cell ∧ ∀ q, cell.vm ≠ .statics q) (hy : y.cls ≠ "java/lang/invoke/MethodHandle" ∧ y.cls ≠ "java/lang/invoke/VarHandle") (hlen : ∀ sig, parseMethodDescriptor y.desc = some sig → argsL.length = sig.parameters.length) (hst : st = argsL.reverse ++ .ref a :: rest) (hass : as' = (.ref a :: argsL).toArray) (hf : rm.frames + 1 ≤ R.frames) (hl : (rest.map fun v => v.category).sum + (maxL' + 11) + rm.locals ≤ R.locals) (hc : cells + rm.cells ≤ R.cells) (hsl : slots + rm.slots ≤ R.slots) (hsz : Ls.size = maxL) (hd : decode bytes pc = .ok (.invokevirtual i, 3)) (hp : pc + 3 = pc')
    (k : ∀ v h', Q' v h' → Lo n0 h h' → Run l R n0 Q K h' (cells + rm.cells) (slots + rm.slots) pc' Ls (v.toList ++ rest)) : Run l R n0 Q K h cells slots pc Ls st := by
  obtain ⟨p, e, s, m, args, below, meth, c⟩ := K
  obtain ⟨hx, hby, hml, hown, hnm, hret, hlk, hZ⟩ := C
  dsimp only at hx hby hml hown hnm hret hlk hZ
  subst hp
  subst hst
  subst hass
  intro T locs X N eT
  obtain ⟨cq, qa, qc⟩ := E
  have hsize : (mkF m pc Ls (argsL.reverse ++ .ref a :: rest)).locals.size = c.maxLocals := by rw [hml]; exact hsz
  obtain ⟨v, _, ⟨T1, L1, k1, n1⟩, -, X1, ⟨Lc, hQ1, l1, y1, z1⟩, st1⟩ := X.privateBack hx hown (mvT hZ w) (mvT hZ wi) (mvT hZ wsel) (Cond.privateMethod_at (mvP hZ wpriv (args := #[]))) (mvT hZ wc) hy (backOf (W := (rest.map fun v => v.category).sum) (Q := fun v h' L => (Q' v h' ∧ Lo n0 h h') ∧ Fr n0 L) hM hZ wc wz hf hl) (g := mkF m pc Ls (argsL.reverse ++ .ref a :: rest)) rfl hsize (Steps.refl _) (a := a) (by rw [eT]; exact qa) qc (argsL := argsL) (rest := rest) hlen rfl (sumcat rest _ rfl) (hb hby hd) (fun _ _ => ⟨rfl, eT, hc, hsl⟩)
  dsimp only [Pt.U, Pt.locs, Pt.cells, Pt.slots] at X1 l1 y1 z1 st1 hQ1
  subst l1 y1 z1
  obtain ⟨s₂, o, h1, h2⟩ := k v T1.heap hQ1.1.1 hQ1.1.2 T1 _ X1 (N.app hQ1.2) rfl
  exact ⟨s₂, o, st1.trans h1, h2⟩
theorem r_callQ (C : Ok Z own nm bytes maxL ret K) (pc' : Nat) {y : MethodName} {bytes' : ByteArray} {maxL' : Nat} {ret' : Option FieldType} {rm : Room} {i : Nat} {as' : Array Value} {Q' : Option Value → Heap → Prop} {D : String} {a : Addr} (argsL rest : List Value) (hn : y.name ≠ "<init>") (hM : Con l Z y bytes' maxL' ret' [] rm n0 as' h Q') (w : (Jvm.Cond.methodLink own i y).before a0 Z = true) (w2 : (Jvm.Cond.sameMethod y.cls y.cls y.name y.desc).before a0 Z = true) (wi : (Jvm.Cond.instanceMethod y).before a0 Z = true) (w4 : (Jvm.Cond.superclass own y.cls).before a0 Z = true) (wz : (Jvm.Cond.initialized y.cls).before a0 Z = true) (wc : (Jvm.Cond.code y bytes' maxL' ret').before a0 Z = true) (E : Ins Z h a D true) (hy : y.cls ≠ "java/lang/invoke/MethodHandle" ∧ y.cls ≠ "java/lang/invoke/VarHandle") (hlen : ∀ sig, parseMethodDescriptor y.desc = some sig → argsL.length = sig.parameters.length) (hst : st = argsL.reverse ++ .ref a :: rest) (hass : as' = (.ref a :: argsL).toArray) (hf : rm.frames + 1 ≤ R.frames) (hl : (rest.map fun v => v.category).sum + (maxL' + 11) + rm.locals ≤ R.locals) (hc : cells + rm.cells ≤ R.cells) (hsl : slots + rm.slots ≤ R.slots) (hsz : Ls.size = maxL) (hd : decode bytes pc = .ok (.invokespecial i, 3)) (hp : pc + 3 = pc')
    (k : ∀ v h', Q' v h' → Lo n0 h h' → Run l R n0 Q K h' (cells + rm.cells) (slots + rm.slots) pc' Ls (v.toList ++ rest)) : Run l R n0 Q K h cells slots pc Ls st := by
  obtain ⟨p, e, s, m, args, below, meth, c⟩ := K
  obtain ⟨hx, hby, hml, hown, hnm, hret, hlk, hZ⟩ := C
  dsimp only at hx hby hml hown hnm hret hlk hZ
  subst hp
  subst hst
  subst hass
  intro T locs X N eT
  have hsize : (mkF m pc Ls (argsL.reverse ++ .ref a :: rest)).locals.size = c.maxLocals := by rw [hml]; exact hsz
  obtain ⟨v, _, ⟨T1, L1, k1, n1⟩, -, X1, ⟨Lc, hQ1, l1, y1, z1⟩, st1⟩ := superBack X hx hZ hown w w2 wi w4 hn (backOf (W := (rest.map fun v => v.category).sum) (Q := fun v h' L => (Q' v h' ∧ Lo n0 h h') ∧ Fr n0 L) hM hZ wc wz hf hl) eT E (g := mkF m pc Ls (argsL.reverse ++ .ref a :: rest)) rfl hsize wc (argsL := argsL) (rest := rest) hlen rfl (sumcat rest _ rfl) (hb hby hd) (fun _ _ => ⟨rfl, eT, hc, hsl⟩)
  dsimp only [Pt.U, Pt.locs, Pt.cells, Pt.slots] at X1 l1 y1 z1 st1 hQ1
  subst l1 y1 z1
  obtain ⟨s₂, o, h1, h2⟩ := k v T1.heap hQ1.1.1 hQ1.1.2 T1 _ X1 (N.app hQ1.2) rfl
  exact ⟨s₂, o, st1.trans h1, h2⟩
theorem r_initO (C : Ok Z own nm bytes maxL ret K) (pc' : Nat) {i : Nat} {a : Addr} {st : List Value} (w1 : (Jvm.Cond.methodLink own i Lib.objectInit).before a0 Z = true) (w2 : (Jvm.Cond.instanceMethod Lib.objectInit).before a0 Z = true) (w3 : (Jvm.Cond.code Lib.objectInit ⟨#[0xb1]⟩ 1 none).before a0 Z = true) (hd : decode bytes pc = .ok (.invokespecial i, 3)) (hp : pc + 3 = pc') (hsz : Ls.size = maxL) (hf : 1 ≤ R.frames) (hl : (st.map fun v => v.category).sum + 12 ≤ R.locals)
    (k : Run l R n0 Q K h cells slots pc' Ls st) : Run l R n0 Q K h cells slots pc Ls (.ref a :: st) := by
  obtain ⟨p, e, s, m, args, below, meth, c⟩ := K
  obtain ⟨hx, hby, hml, hown, hnm, hret, hlk, hZ⟩ := C
  dsimp only at hx hby hml hown hnm hret hlk hZ
  intro T locs X N eT
  subst hp
  have hsize : (mkF m pc Ls (.ref a :: st)).locals.size = c.maxLocals := by rw [hml]; exact hsz
  obtain ⟨T1, X1, e1, st1⟩ := initO X hx hZ hown w1 w2 w3 eT (g := mkF m pc Ls (.ref a :: st)) rfl hsize rfl (hb hby hd) hf (W := (st.map fun v => v.category).sum) (sumcat st _ rfl) hl
  obtain ⟨s₂, o, h1, h2⟩ := k T1 locs X1 N e1
  exact ⟨s₂, o, st1 _ h1, h2⟩
end W
end Jvm.OwnW

namespace OwnF
open Jvm Sem Op Lib Jvm.FP Jvm.FP.Core Jvm.RoadKit
theorem v09 : val64 4606281698874543309 = .fin false 8106479329266893 (-53) := by decide +kernel
theorem v1e6 : (4696837146684686336 : UInt64) = Core.l2d 1000000 := by decide +kernel
theorem whole_z {i : Int} {c : Nat} {q : Int} (h : Whole i (.fin false c q)) (hq : -1074 ≤ q) : zval b64 (.fin false c q) = i * ((2 ^ 1074 : Nat) : Int) := by
  have h' : ((c * 2 ^ q.toNat : Nat) : Int) = i * ((2 ^ (-q).toNat : Nat) : Int) := h
  show ((c * 2 ^ (q - b64.qmin).toNat : Nat) : Int) = _
  have e0 : b64.qmin = -1074 := by decide
  rw [e0]
  rcases Int.le_total 0 q with g | g
  · obtain ⟨k, rfl⟩ : ∃ k : Nat, q = k := ⟨q.toNat, by omega⟩
    rw [show ((k : Int) - -1074).toNat = k + 1074 by omega, Nat.pow_add, ← Nat.mul_assoc]
    rw [show (-(k : Int)).toNat = 0 by omega, Int.toNat_natCast] at h'
    simp only [Nat.pow_zero, Int.natCast_one, Int.mul_one] at h'
    rw [Int.natCast_mul, h']
  · obtain ⟨k, rfl⟩ : ∃ k : Nat, q = -(k : Int) := ⟨(-q).toNat, by omega⟩
    rw [show (-(k : Int) - -1074).toNat = 1074 - k by omega]
    rw [show (-(k : Int)).toNat = 0 by omega, show (- -(k : Int)).toNat = k by omega] at h'
    simp only [Nat.pow_zero, Nat.mul_one] at h'
    rw [Int.natCast_mul, h', Int.mul_assoc, ← Int.natCast_mul, ← Nat.pow_add, show k + (1074 - k) = 1074 by omega]
theorem l2d_z {a : Int64} (h0 : 0 ≤ a.toInt) (h : a.toInt < 9007199254740992) : val64 (Core.l2d a) ≠ .nan ∧ zval b64 (val64 (Core.l2d a)) = a.toInt * ((2 ^ 1074 : Nat) : Int) ∧ ∃ c q, val64 (Core.l2d a) = .fin false c q ∧ Whole a.toInt (.fin false c q) := by
  have hw := l2d_whole (a := a) ⟨by omega, h⟩
  obtain ⟨c, q, e⟩ := l2d_shape a
  have hf := val64_fits (Core.l2d a)
  rw [show decide (a.toInt < 0) = false by simp; omega] at e
  rw [e] at hw hf ⊢
  have hq : -1074 ≤ q := hf.2.1
  exact ⟨(fun z => by cases z), whole_z hw hq, c, q, rfl, hw⟩
theorem prod09 {n : Int64} (h0 : 0 ≤ n.toInt) (h : n.toInt < 9007199254740992) : val64 (Core.dmul 4606281698874543309 (Core.l2d n)) = roundRatio b64 false (8106479329266893 * n.toInt.toNat) 1 (-53) := by
  obtain ⟨-, -, c, q, e, hw⟩ := l2d_z h0 h
  rw [val64_dmul, v09, e]
  show roundRatio b64 false (8106479329266893 * c) 1 (-53 + q) = _
  have h' : ((c * 2 ^ q.toNat : Nat) : Int) = n.toInt * ((2 ^ (-q).toNat : Nat) : Int) := hw
  have h2 : c * 2 ^ q.toNat = n.toInt.toNat * 2 ^ (-q).toNat := by
    have : ((n.toInt.toNat : Nat) : Int) = n.toInt := Int.toNat_of_nonneg h0
    rw [← this] at h'
    exact_mod_cast h'
  refine roundRatio_congr (by decide) (by decide) ?_
  rw [show (-53 + q - -53).toNat = q.toNat by congr 1; omega, show (-53 - (-53 + q)).toNat = (-q).toNat by congr 1; omega, Nat.mul_one, Nat.mul_one, Nat.mul_assoc, h2, Nat.mul_assoc]
theorem rr {P w : Nat} (hw : 1 ≤ w) (hw2 : w ≤ 52) (h1 : 2 ^ (105 - w) ≤ P) (h2 : P < 2 ^ (106 - w)) : roundRatio b64 false P 1 (-53) ≠ .nan ∧ zval b64 (roundRatio b64 false P 1 (-53)) = ((nearest P (2 ^ (53 - w)) * 2 ^ (1074 - w) : Nat) : Int) := by
  have hP : 0 < P := Nat.lt_of_lt_of_le (Nat.two_pow_pos _) h1
  have hq : quantum b64 P 1 (-53) = -(w : Int) := by
    refine quantum_eq hP (by decide) (show (-1074 : Int) ≤ -(w : Int) by omega) ?_ (Or.inr ?_)
    · show P * 2 ^ (-(-(w : Int) - -53 + ((53 : Nat) : Int))).toNat < 1 * 2 ^ (-(w : Int) - -53 + ((53 : Nat) : Int)).toNat
      rw [show (-(-(w : Int) - -53 + ((53 : Nat) : Int))).toNat = 0 by omega, show (-(w : Int) - -53 + ((53 : Nat) : Int)).toNat = 106 - w by omega]
      simpa using h2
    · show ¬ (P * 2 ^ (-(-(w : Int) - -53 + (((53 : Nat) : Int) - 1))).toNat < 1 * 2 ^ (-(w : Int) - -53 + (((53 : Nat) : Int) - 1)).toNat)
      rw [show (-(-(w : Int) - -53 + (((53 : Nat) : Int) - 1))).toNat = 0 by omega, show (-(w : Int) - -53 + (((53 : Nat) : Int) - 1)).toNat = 105 - w by omega]
      simpa using h1
  have hm : nearest P (2 ^ (53 - w)) ≤ 2 ^ 53 := by
    refine nearest_le (Nat.two_pow_pos _) ?_
    rw [← Nat.pow_add, show 53 + (53 - w) = 106 - w by omega]
    exact Nat.le_of_lt h2
  have e : roundRatio b64 false P 1 (-53) = settle b64 false (nearest P (2 ^ (53 - w))) (-(w : Int)) := by
    rw [roundRatio, if_neg (by omega), hq, roundAt, unitsNum, unitsDen, show (-53 - -(w : Int)).toNat = 0 by omega, show (-(w : Int) - -53).toNat = 53 - w by omega, Nat.pow_zero, Nat.mul_one, Nat.one_mul]
  rw [e]
  generalize nearest P (2 ^ (53 - w)) = m at hm
  rw [settle]
  by_cases g : m < 2 ^ b64.p
  · rw [if_pos g, bound, if_pos (show -(w : Int) ≤ b64.qmax from (show -(w : Int) ≤ 971 by omega))]
    refine ⟨(fun z => by cases z), ?_⟩
    show ((m * 2 ^ (-(w : Int) - (-1074)).toNat : Nat) : Int) = _
    rw [show (-(w : Int) - (-1074)).toNat = 1074 - w by omega]
  · rw [if_neg g, bound, if_pos (show -(w : Int) + 1 ≤ b64.qmax from (show -(w : Int) + 1 ≤ 971 by omega))]
    refine ⟨(fun z => by cases z), ?_⟩
    have em : m = 2 ^ 53 := Nat.le_antisymm hm (Nat.le_of_not_lt g)
    show ((2 ^ 52 * 2 ^ (-(w : Int) + 1 - (-1074)).toNat : Nat) : Int) = _
    rw [show (-(w : Int) + 1 - (-1074)).toNat = 1 + (1074 - w) by omega, em, Nat.pow_add 2 1, ← Nat.mul_assoc]
theorem z09 {A n : Nat} (h1 : 5000000000 ≤ n) (h2 : n < 68719476736) : roundRatio b64 false (8106479329266893 * n) 1 (-53) ≠ .nan ∧ ((((A * 2 ^ 1074 : Nat) : Int) < zval b64 (roundRatio b64 false (8106479329266893 * n) 1 (-53))) ↔ 10 * A < 9 * n) := by
  have key : ∀ (w : Nat) (hw : 1 ≤ w) (hw2 : w ≤ 52) (g1 : 2 ^ (105 - w) ≤ 8106479329266893 * n) (g2 : 8106479329266893 * n < 2 ^ (106 - w)), (∀ m : Nat, 2 * (8106479329266893 * n) ≤ (2 * m + 1) * 2 ^ (53 - w) → 2 * m * 2 ^ (53 - w) ≤ 2 * (8106479329266893 * n) + 2 ^ (53 - w) → (A * 2 ^ w < m ↔ 10 * A < 9 * n)) → roundRatio b64 false (8106479329266893 * n) 1 (-53) ≠ .nan ∧ ((((A * 2 ^ 1074 : Nat) : Int) < zval b64 (roundRatio b64 false (8106479329266893 * n) 1 (-53))) ↔ 10 * A < 9 * n) := by
    intro w hw hw2 g1 g2 F
    obtain ⟨r1, r2⟩ := rr hw hw2 g1 g2
    obtain ⟨s1, s2, -⟩ := nearest_spec (8106479329266893 * n) (2 ^ (53 - w)) (Nat.two_pow_pos _)
    refine ⟨r1, ?_⟩
    rw [r2, Int.ofNat_lt, ← F _ s1 s2]
    rw [show (2 : Nat) ^ 1074 = 2 ^ w * 2 ^ (1074 - w) by rw [← Nat.pow_add]; congr 1; omega, ← Nat.mul_assoc]
    exact Nat.mul_lt_mul_right (Nat.two_pow_pos _)
  by_cases c1 : 8106479329266893 * n < 2 ^ 86
  · refine key 20 (by decide) (by decide) ?_ c1 ?_
    · show (2 : Nat) ^ 85 ≤ _; omega
    · intro m q1 q2; simp only [Nat.reduceSub, Nat.reducePow] at q1 q2 c1 ⊢; omega
  by_cases c2 : 8106479329266893 * n < 2 ^ 87
  · refine key 19 (by decide) (by decide) (Nat.le_of_not_lt c1) c2 ?_
    intro m q1 q2; simp only [Nat.reduceSub, Nat.reducePow] at q1 q2 c1 c2 ⊢; omega
  by_cases c3 : 8106479329266893 * n < 2 ^ 88
  · refine key 18 (by decide) (by decide) (Nat.le_of_not_lt c2) c3 ?_
    intro m q1 q2; simp only [Nat.reduceSub, Nat.reducePow] at q1 q2 c2 c3 ⊢; omega
  · refine key 17 (by decide) (by decide) (Nat.le_of_not_lt c3) ?_ ?_
    · show _ < (2 : Nat) ^ 89; omega
    · intro m q1 q2; simp only [Nat.reduceSub, Nat.reducePow] at q1 q2 c3 ⊢; omega
theorem cmp09 {C N : Int64} (hC0 : 0 ≤ C.toInt) (hC1 : C.toInt < 1000000) (hN0 : 5000000000 ≤ N.toInt) (hN1 : N.toInt < 68719476736) : (cmpValue (FP.dcmp (FP.dmul (FP.l2d C) 4696837146684686336) (FP.dmul 4606281698874543309 (FP.l2d N))) .l < 0) ↔ 10000000 * C < 9 * N := by
  have e1 : FP.dmul (FP.l2d C) 4696837146684686336 = FP.l2d (C * 1000000) := by
    rw [show (4696837146684686336 : UInt64) = FP.l2d 1000000 from v1e6]
    exact dmul_k (A := 1000000) (B := 1000000) (by omega) (by omega) (by decide) (by decide) (by decide) (by decide) (by decide) (fun z => absurd z.2 (by decide)) (fun z => absurd z.1 (by decide))
  have eA : (C * 1000000).toInt = C.toInt * 1000000 := by
    rw [Int64.toInt_mul, show (1000000 : Int64).toInt = 1000000 from rfl, Int.bmod_eq_of_le] <;> omega
  obtain ⟨a1, a2, -⟩ := l2d_z (a := C * 1000000) (by rw [eA]; omega) (by rw [eA]; omega)
  have eP := prod09 (n := N) (by omega) (by omega)
  obtain ⟨z1, z2⟩ := z09 (A := (C.toInt * 1000000).toNat) (n := N.toInt.toNat) (by omega) (by omega)
  have d : FP.dcmp (FP.l2d (C * 1000000)) (FP.dmul 4606281698874543309 (FP.l2d N)) = some (compare (zval b64 (val64 (Core.l2d (C * 1000000)))) (zval b64 (val64 (Core.dmul 4606281698874543309 (Core.l2d N))))) := dcmp_zval a1 (by rw [eP]; exact z1)
  rw [e1, d, a2, eP, eA, cmpV_l, compare_ite]
  have e3 : ((((C.toInt * 1000000).toNat * 2 ^ 1074 : Nat) : Int)) = C.toInt * 1000000 * ((2 ^ 1074 : Nat) : Int) := by
    rw [Int.natCast_mul, Int.toNat_of_nonneg (by omega)]
  rw [e3] at z2
  have r : (10000000 * C < 9 * N) ↔ 10 * (C.toInt * 1000000).toNat < 9 * N.toInt.toNat := by
    rw [Int64.lt_iff_toInt_lt, Int64.toInt_mul, Int64.toInt_mul, show (10000000 : Int64).toInt = 10000000 from rfl, show (9 : Int64).toInt = 9 from rfl, Int.bmod_eq_of_le (n := 10000000 * C.toInt) (by omega) (by omega), Int.bmod_eq_of_le (by omega) (by omega)]
    omega
  rw [r, ← z2]
  generalize C.toInt * 1000000 * ((2 ^ 1074 : Nat) : Int) = u
  generalize zval b64 (roundRatio b64 false (8106479329266893 * N.toInt.toNat) 1 (-53)) = v
  by_cases g : u < v
  · rw [if_pos g]; exact ⟨fun _ => g, fun _ => by decide⟩
  · rw [if_neg g]
    refine ⟨fun q => ?_, fun q => absurd q g⟩
    split at q
    · exact absurd q (by decide)
    · exact absurd q (by decide)

end OwnF

namespace Jvm.Pilot.@@N@@
open Jvm Jvm.ClassFile Sem Op Lib Jvm.Free Jvm.Stand Jvm.LawKit Jvm.RoadKit Jvm.OwnW Bundle Jvm.Pilot.@@N@@.Jvm.D
theorem eqv {args : Array Value} {s : State} {idx : List Nat} {a b : Term} {x : Value} (h : (Jvm.Cond.eq a b).value args s none s idx = some true) (hb : b.eval args s none idx s = some x) : a.eval args s none idx s = some x := by
  obtain ⟨u, v, h1, h2, -⟩ := cmp_v (Or.inl h)
  rw [hb] at h2
  cases h2
  rw [h1]
  cases u <;> cases x <;> simp_all [Cond.value]
theorem neqv {args : Array Value} {s : State} {idx : List Nat} {a b : Term} {x y : Addr} (h : (Jvm.Cond.not (Jvm.Cond.eq a b)).value args s none s idx = some true) (ha : a.eval args s none idx s = some (.ref x)) (hb : b.eval args s none idx s = some (.ref y)) : ¬ x = y := by
  have h1 := not_v h
  simpa [Cond.value, ha, hb] using h1

theorem dhi_0 : decode prog_1_method_1_code 0 = .ok (.aload_n 0, 1) := by decide +kernel
theorem dhi_1 : decode prog_1_method_1_code 1 = .ok (.invokespecial 1, 3) := by decide +kernel
theorem dhi_4 : decode prog_1_method_1_code 4 = .ok (.aload_n 0, 1) := by decide +kernel
theorem dhi_5 : decode prog_1_method_1_code 5 = .ok (.iload_n 1, 1) := by decide +kernel
theorem dhi_6 : decode prog_1_method_1_code 6 = .ok (.newarray .long, 2) := by decide +kernel
theorem dhi_8 : decode prog_1_method_1_code 8 = .ok (.putfield 7, 3) := by decide +kernel
theorem dhi_11 : decode prog_1_method_1_code 11 = .ok (.aload_n 0, 1) := by decide +kernel
theorem dhi_12 : decode prog_1_method_1_code 12 = .ok (.iload_n 1, 1) := by decide +kernel
theorem dhi_13 : decode prog_1_method_1_code 13 = .ok (.newarray .long, 2) := by decide +kernel
theorem dhi_15 : decode prog_1_method_1_code 15 = .ok (.putfield 13, 3) := by decide +kernel
theorem dhi_18 : decode prog_1_method_1_code 18 = .ok (.return_, 1) := by decide +kernel
theorem ddr_0 : decode prog_1_method_3_code 0 = .ok (.aload_n 0, 1) := by decide +kernel
theorem ddr_1 : decode prog_1_method_3_code 1 = .ok (.aload_n 0, 1) := by decide +kernel
theorem ddr_2 : decode prog_1_method_3_code 2 = .ok (.getfield 23, 3) := by decide +kernel
theorem ddr_5 : decode prog_1_method_3_code 5 = .ok (.iconst 1, 1) := by decide +kernel
theorem ddr_6 : decode prog_1_method_3_code 6 = .ok (.iadd, 1) := by decide +kernel
theorem ddr_7 : decode prog_1_method_3_code 7 = .ok (.aload_n 0, 1) := by decide +kernel
theorem ddr_8 : decode prog_1_method_3_code 8 = .ok (.getfield 7, 3) := by decide +kernel
theorem ddr_11 : decode prog_1_method_3_code 11 = .ok (.arraylength, 1) := by decide +kernel
theorem ddr_12 : decode prog_1_method_3_code 12 = .ok (.irem, 1) := by decide +kernel
theorem ddr_13 : decode prog_1_method_3_code 13 = .ok (.putfield 23, 3) := by decide +kernel
theorem ddr_16 : decode prog_1_method_3_code 16 = .ok (.aload_n 0, 1) := by decide +kernel
theorem ddr_17 : decode prog_1_method_3_code 17 = .ok (.dup, 1) := by decide +kernel
theorem ddr_18 : decode prog_1_method_3_code 18 = .ok (.getfield 16, 3) := by decide +kernel
theorem ddr_21 : decode prog_1_method_3_code 21 = .ok (.iconst 1, 1) := by decide +kernel
theorem ddr_22 : decode prog_1_method_3_code 22 = .ok (.isub, 1) := by decide +kernel
theorem ddr_23 : decode prog_1_method_3_code 23 = .ok (.putfield 16, 3) := by decide +kernel
theorem ddr_26 : decode prog_1_method_3_code 26 = .ok (.return_, 1) := by decide +kernel
theorem dsa_0 : decode prog_1_method_2_code 0 = .ok (.aload_n 0, 1) := by decide +kernel
theorem dsa_1 : decode prog_1_method_2_code 1 = .ok (.getfield 16, 3) := by decide +kernel
theorem dsa_4 : decode prog_1_method_2_code 4 = .ok (.aload_n 0, 1) := by decide +kernel
theorem dsa_5 : decode prog_1_method_2_code 5 = .ok (.getfield 7, 3) := by decide +kernel
theorem dsa_8 : decode prog_1_method_2_code 8 = .ok (.arraylength, 1) := by decide +kernel
theorem dsa_9 : decode prog_1_method_2_code 9 = .ok (.if_icmp .ne 7, 3) := by decide +kernel
theorem dsa_12 : decode prog_1_method_2_code 12 = .ok (.aload_n 0, 1) := by decide +kernel
theorem dsa_13 : decode prog_1_method_2_code 13 = .ok (.invokevirtual 20, 3) := by decide +kernel
theorem dsa_16 : decode prog_1_method_2_code 16 = .ok (.aload_n 0, 1) := by decide +kernel
theorem dsa_17 : decode prog_1_method_2_code 17 = .ok (.getfield 23, 3) := by decide +kernel
theorem dsa_20 : decode prog_1_method_2_code 20 = .ok (.aload_n 0, 1) := by decide +kernel
theorem dsa_21 : decode prog_1_method_2_code 21 = .ok (.getfield 16, 3) := by decide +kernel
theorem dsa_24 : decode prog_1_method_2_code 24 = .ok (.iadd, 1) := by decide +kernel
theorem dsa_25 : decode prog_1_method_2_code 25 = .ok (.aload_n 0, 1) := by decide +kernel
theorem dsa_26 : decode prog_1_method_2_code 26 = .ok (.getfield 7, 3) := by decide +kernel
theorem dsa_29 : decode prog_1_method_2_code 29 = .ok (.arraylength, 1) := by decide +kernel
theorem dsa_30 : decode prog_1_method_2_code 30 = .ok (.irem, 1) := by decide +kernel
theorem dsa_31 : decode prog_1_method_2_code 31 = .ok (.istore 5, 2) := by decide +kernel
theorem dsa_33 : decode prog_1_method_2_code 33 = .ok (.aload_n 0, 1) := by decide +kernel
theorem dsa_34 : decode prog_1_method_2_code 34 = .ok (.getfield 7, 3) := by decide +kernel
theorem dsa_37 : decode prog_1_method_2_code 37 = .ok (.iload 5, 2) := by decide +kernel
theorem dsa_39 : decode prog_1_method_2_code 39 = .ok (.lload_n 1, 1) := by decide +kernel
theorem dsa_40 : decode prog_1_method_2_code 40 = .ok (.lastore, 1) := by decide +kernel
theorem dsa_41 : decode prog_1_method_2_code 41 = .ok (.aload_n 0, 1) := by decide +kernel
theorem dsa_42 : decode prog_1_method_2_code 42 = .ok (.getfield 13, 3) := by decide +kernel
theorem dsa_45 : decode prog_1_method_2_code 45 = .ok (.iload 5, 2) := by decide +kernel
theorem dsa_47 : decode prog_1_method_2_code 47 = .ok (.lload_n 3, 1) := by decide +kernel
theorem dsa_48 : decode prog_1_method_2_code 48 = .ok (.lastore, 1) := by decide +kernel
theorem dsa_49 : decode prog_1_method_2_code 49 = .ok (.aload_n 0, 1) := by decide +kernel
theorem dsa_50 : decode prog_1_method_2_code 50 = .ok (.dup, 1) := by decide +kernel
theorem dsa_51 : decode prog_1_method_2_code 51 = .ok (.getfield 16, 3) := by decide +kernel
theorem dsa_54 : decode prog_1_method_2_code 54 = .ok (.iconst 1, 1) := by decide +kernel
theorem dsa_55 : decode prog_1_method_2_code 55 = .ok (.iadd, 1) := by decide +kernel
theorem dsa_56 : decode prog_1_method_2_code 56 = .ok (.putfield 16, 3) := by decide +kernel
theorem dsa_59 : decode prog_1_method_2_code 59 = .ok (.aload_n 0, 1) := by decide +kernel
theorem dsa_60 : decode prog_1_method_2_code 60 = .ok (.getfield 16, 3) := by decide +kernel
theorem dsa_63 : decode prog_1_method_2_code 63 = .ok (.iconst 1, 1) := by decide +kernel
theorem dsa_64 : decode prog_1_method_2_code 64 = .ok (.if_icmp .le 36, 3) := by decide +kernel
theorem dsa_67 : decode prog_1_method_2_code 67 = .ok (.lload_n 1, 1) := by decide +kernel
theorem dsa_68 : decode prog_1_method_2_code 68 = .ok (.aload_n 0, 1) := by decide +kernel
theorem dsa_69 : decode prog_1_method_2_code 69 = .ok (.getfield 7, 3) := by decide +kernel
theorem dsa_72 : decode prog_1_method_2_code 72 = .ok (.aload_n 0, 1) := by decide +kernel
theorem dsa_73 : decode prog_1_method_2_code 73 = .ok (.getfield 23, 3) := by decide +kernel
theorem dsa_76 : decode prog_1_method_2_code 76 = .ok (.iconst 1, 1) := by decide +kernel
theorem dsa_77 : decode prog_1_method_2_code 77 = .ok (.iadd, 1) := by decide +kernel
theorem dsa_78 : decode prog_1_method_2_code 78 = .ok (.aload_n 0, 1) := by decide +kernel
theorem dsa_79 : decode prog_1_method_2_code 79 = .ok (.getfield 7, 3) := by decide +kernel
theorem dsa_82 : decode prog_1_method_2_code 82 = .ok (.arraylength, 1) := by decide +kernel
theorem dsa_83 : decode prog_1_method_2_code 83 = .ok (.irem, 1) := by decide +kernel
theorem dsa_84 : decode prog_1_method_2_code 84 = .ok (.laload, 1) := by decide +kernel
theorem dsa_85 : decode prog_1_method_2_code 85 = .ok (.lsub, 1) := by decide +kernel
theorem dsa_86 : decode prog_1_method_2_code 86 = .ok (.ldc2_w 26, 3) := by decide +kernel
theorem dsa_89 : decode prog_1_method_2_code 89 = .ok (.lcmp, 1) := by decide +kernel
theorem dsa_90 : decode prog_1_method_2_code 90 = .ok (.ifCond .lt 10, 3) := by decide +kernel
theorem dsa_93 : decode prog_1_method_2_code 93 = .ok (.aload_n 0, 1) := by decide +kernel
theorem dsa_94 : decode prog_1_method_2_code 94 = .ok (.invokevirtual 20, 3) := by decide +kernel
theorem dsa_97 : decode prog_1_method_2_code 97 = .ok (.goto (-38), 3) := by decide +kernel
theorem dsa_100 : decode prog_1_method_2_code 100 = .ok (.lload_n 1, 1) := by decide +kernel
theorem dsa_101 : decode prog_1_method_2_code 101 = .ok (.aload_n 0, 1) := by decide +kernel
theorem dsa_102 : decode prog_1_method_2_code 102 = .ok (.getfield 7, 3) := by decide +kernel
theorem dsa_105 : decode prog_1_method_2_code 105 = .ok (.aload_n 0, 1) := by decide +kernel
theorem dsa_106 : decode prog_1_method_2_code 106 = .ok (.getfield 23, 3) := by decide +kernel
theorem dsa_109 : decode prog_1_method_2_code 109 = .ok (.laload, 1) := by decide +kernel
theorem dsa_110 : decode prog_1_method_2_code 110 = .ok (.lsub, 1) := by decide +kernel
theorem dsa_111 : decode prog_1_method_2_code 111 = .ok (.lstore 6, 2) := by decide +kernel
theorem dsa_113 : decode prog_1_method_2_code 113 = .ok (.lload_n 3, 1) := by decide +kernel
theorem dsa_114 : decode prog_1_method_2_code 114 = .ok (.aload_n 0, 1) := by decide +kernel
theorem dsa_115 : decode prog_1_method_2_code 115 = .ok (.getfield 13, 3) := by decide +kernel
theorem dsa_118 : decode prog_1_method_2_code 118 = .ok (.aload_n 0, 1) := by decide +kernel
theorem dsa_119 : decode prog_1_method_2_code 119 = .ok (.getfield 23, 3) := by decide +kernel
theorem dsa_122 : decode prog_1_method_2_code 122 = .ok (.laload, 1) := by decide +kernel
theorem dsa_123 : decode prog_1_method_2_code 123 = .ok (.lsub, 1) := by decide +kernel
theorem dsa_124 : decode prog_1_method_2_code 124 = .ok (.lstore 8, 2) := by decide +kernel
theorem dsa_126 : decode prog_1_method_2_code 126 = .ok (.lload 6, 2) := by decide +kernel
theorem dsa_128 : decode prog_1_method_2_code 128 = .ok (.ldc2_w 26, 3) := by decide +kernel
theorem dsa_131 : decode prog_1_method_2_code 131 = .ok (.lcmp, 1) := by decide +kernel
theorem dsa_132 : decode prog_1_method_2_code 132 = .ok (.ifCond .lt 25, 3) := by decide +kernel
theorem dsa_135 : decode prog_1_method_2_code 135 = .ok (.lload 8, 2) := by decide +kernel
theorem dsa_137 : decode prog_1_method_2_code 137 = .ok (.l2d, 1) := by decide +kernel
theorem dsa_138 : decode prog_1_method_2_code 138 = .ok (.ldc2_w 28, 3) := by decide +kernel
theorem dsa_141 : decode prog_1_method_2_code 141 = .ok (.dmul, 1) := by decide +kernel
theorem dsa_142 : decode prog_1_method_2_code 142 = .ok (.ldc2_w 30, 3) := by decide +kernel
theorem dsa_145 : decode prog_1_method_2_code 145 = .ok (.lload 6, 2) := by decide +kernel
theorem dsa_147 : decode prog_1_method_2_code 147 = .ok (.l2d, 1) := by decide +kernel
theorem dsa_148 : decode prog_1_method_2_code 148 = .ok (.dmul, 1) := by decide +kernel
theorem dsa_149 : decode prog_1_method_2_code 149 = .ok (.dcmp .l, 1) := by decide +kernel
theorem dsa_150 : decode prog_1_method_2_code 150 = .ok (.ifCond .lt 7, 3) := by decide +kernel
theorem dsa_153 : decode prog_1_method_2_code 153 = .ok (.iconst 1, 1) := by decide +kernel
theorem dsa_154 : decode prog_1_method_2_code 154 = .ok (.goto 4, 3) := by decide +kernel
theorem dsa_157 : decode prog_1_method_2_code 157 = .ok (.iconst 0, 1) := by decide +kernel
theorem dsa_158 : decode prog_1_method_2_code 158 = .ok (.ireturn, 1) := by decide +kernel
theorem djg_0 : decode method_4_code 0 = .ok (.iload_n 2, 1) := by decide +kernel
theorem djg_1 : decode method_4_code 1 = .ok (.iload_n 3, 1) := by decide +kernel
theorem djg_2 : decode method_4_code 2 = .ok (.isub, 1) := by decide +kernel
theorem djg_3 : decode method_4_code 3 = .ok (.iload 4, 2) := by decide +kernel
theorem djg_5 : decode method_4_code 5 = .ok (.iconst 1, 1) := by decide +kernel
theorem djg_6 : decode method_4_code 6 = .ok (.isub, 1) := by decide +kernel
theorem djg_7 : decode method_4_code 7 = .ok (.if_icmp .gt 33, 3) := by decide +kernel
theorem djg_10 : decode method_4_code 10 = .ok (.ldc2_w 34, 3) := by decide +kernel
theorem djg_13 : decode method_4_code 13 = .ok (.aload_n 1, 1) := by decide +kernel
theorem djg_14 : decode method_4_code 14 = .ok (.iload_n 2, 1) := by decide +kernel
theorem djg_15 : decode method_4_code 15 = .ok (.laload, 1) := by decide +kernel
theorem djg_16 : decode method_4_code 16 = .ok (.aload_n 1, 1) := by decide +kernel
theorem djg_17 : decode method_4_code 17 = .ok (.iload_n 3, 1) := by decide +kernel
theorem djg_18 : decode method_4_code 18 = .ok (.laload, 1) := by decide +kernel
theorem djg_19 : decode method_4_code 19 = .ok (.lsub, 1) := by decide +kernel
theorem djg_20 : decode method_4_code 20 = .ok (.lmul, 1) := by decide +kernel
theorem djg_21 : decode method_4_code 21 = .ok (.ldc2_w 36, 3) := by decide +kernel
theorem djg_24 : decode method_4_code 24 = .ok (.aload_n 0, 1) := by decide +kernel
theorem djg_25 : decode method_4_code 25 = .ok (.iload_n 2, 1) := by decide +kernel
theorem djg_26 : decode method_4_code 26 = .ok (.laload, 1) := by decide +kernel
theorem djg_27 : decode method_4_code 27 = .ok (.aload_n 0, 1) := by decide +kernel
theorem djg_28 : decode method_4_code 28 = .ok (.iload_n 3, 1) := by decide +kernel
theorem djg_29 : decode method_4_code 29 = .ok (.laload, 1) := by decide +kernel
theorem djg_30 : decode method_4_code 30 = .ok (.lsub, 1) := by decide +kernel
theorem djg_31 : decode method_4_code 31 = .ok (.lmul, 1) := by decide +kernel
theorem djg_32 : decode method_4_code 32 = .ok (.lcmp, 1) := by decide +kernel
theorem djg_33 : decode method_4_code 33 = .ok (.ifCond .lt 7, 3) := by decide +kernel
theorem djg_36 : decode method_4_code 36 = .ok (.iconst 1, 1) := by decide +kernel
theorem djg_37 : decode method_4_code 37 = .ok (.goto 4, 3) := by decide +kernel
theorem djg_40 : decode method_4_code 40 = .ok (.iconst 0, 1) := by decide +kernel
theorem djg_41 : decode method_4_code 41 = .ok (.ireturn, 1) := by decide +kernel
theorem dxp_0 : decode method_3_code 0 = .ok (.iload_n 2, 1) := by decide +kernel
theorem dxp_1 : decode method_3_code 1 = .ok (.iconst 1, 1) := by decide +kernel
theorem dxp_2 : decode method_3_code 2 = .ok (.if_icmp .lt 30, 3) := by decide +kernel
theorem dxp_5 : decode method_3_code 5 = .ok (.aload_n 0, 1) := by decide +kernel
theorem dxp_6 : decode method_3_code 6 = .ok (.iload_n 2, 1) := by decide +kernel
theorem dxp_7 : decode method_3_code 7 = .ok (.laload, 1) := by decide +kernel
theorem dxp_8 : decode method_3_code 8 = .ok (.aload_n 0, 1) := by decide +kernel
theorem dxp_9 : decode method_3_code 9 = .ok (.iload_n 2, 1) := by decide +kernel
theorem dxp_10 : decode method_3_code 10 = .ok (.iconst 1, 1) := by decide +kernel
theorem dxp_11 : decode method_3_code 11 = .ok (.isub, 1) := by decide +kernel
theorem dxp_12 : decode method_3_code 12 = .ok (.laload, 1) := by decide +kernel
theorem dxp_13 : decode method_3_code 13 = .ok (.lsub, 1) := by decide +kernel
theorem dxp_14 : decode method_3_code 14 = .ok (.ldc2_w 28, 3) := by decide +kernel
theorem dxp_17 : decode method_3_code 17 = .ok (.lcmp, 1) := by decide +kernel
theorem dxp_18 : decode method_3_code 18 = .ok (.ifCond .lt 14, 3) := by decide +kernel
theorem dxp_21 : decode method_3_code 21 = .ok (.aload_n 0, 1) := by decide +kernel
theorem dxp_22 : decode method_3_code 22 = .ok (.aload_n 1, 1) := by decide +kernel
theorem dxp_23 : decode method_3_code 23 = .ok (.iload_n 2, 1) := by decide +kernel
theorem dxp_24 : decode method_3_code 24 = .ok (.iload_n 2, 1) := by decide +kernel
theorem dxp_25 : decode method_3_code 25 = .ok (.iconst 1, 1) := by decide +kernel
theorem dxp_26 : decode method_3_code 26 = .ok (.isub, 1) := by decide +kernel
theorem dxp_27 : decode method_3_code 27 = .ok (.iload_n 3, 1) := by decide +kernel
theorem dxp_28 : decode method_3_code 28 = .ok (.invokestatic 30, 3) := by decide +kernel
theorem dxp_31 : decode method_3_code 31 = .ok (.ireturn, 1) := by decide +kernel
theorem dxp_32 : decode method_3_code 32 = .ok (.iload_n 2, 1) := by decide +kernel
theorem dxp_33 : decode method_3_code 33 = .ok (.iconst 2, 1) := by decide +kernel
theorem dxp_34 : decode method_3_code 34 = .ok (.if_icmp .lt 30, 3) := by decide +kernel
theorem dxp_37 : decode method_3_code 37 = .ok (.aload_n 0, 1) := by decide +kernel
theorem dxp_38 : decode method_3_code 38 = .ok (.iload_n 2, 1) := by decide +kernel
theorem dxp_39 : decode method_3_code 39 = .ok (.laload, 1) := by decide +kernel
theorem dxp_40 : decode method_3_code 40 = .ok (.aload_n 0, 1) := by decide +kernel
theorem dxp_41 : decode method_3_code 41 = .ok (.iload_n 2, 1) := by decide +kernel
theorem dxp_42 : decode method_3_code 42 = .ok (.iconst 2, 1) := by decide +kernel
theorem dxp_43 : decode method_3_code 43 = .ok (.isub, 1) := by decide +kernel
theorem dxp_44 : decode method_3_code 44 = .ok (.laload, 1) := by decide +kernel
theorem dxp_45 : decode method_3_code 45 = .ok (.lsub, 1) := by decide +kernel
theorem dxp_46 : decode method_3_code 46 = .ok (.ldc2_w 28, 3) := by decide +kernel
theorem dxp_49 : decode method_3_code 49 = .ok (.lcmp, 1) := by decide +kernel
theorem dxp_50 : decode method_3_code 50 = .ok (.ifCond .lt 14, 3) := by decide +kernel
theorem dxp_53 : decode method_3_code 53 = .ok (.aload_n 0, 1) := by decide +kernel
theorem dxp_54 : decode method_3_code 54 = .ok (.aload_n 1, 1) := by decide +kernel
theorem dxp_55 : decode method_3_code 55 = .ok (.iload_n 2, 1) := by decide +kernel
theorem dxp_56 : decode method_3_code 56 = .ok (.iload_n 2, 1) := by decide +kernel
theorem dxp_57 : decode method_3_code 57 = .ok (.iconst 2, 1) := by decide +kernel
theorem dxp_58 : decode method_3_code 58 = .ok (.isub, 1) := by decide +kernel
theorem dxp_59 : decode method_3_code 59 = .ok (.iload_n 3, 1) := by decide +kernel
theorem dxp_60 : decode method_3_code 60 = .ok (.invokestatic 30, 3) := by decide +kernel
theorem dxp_63 : decode method_3_code 63 = .ok (.ireturn, 1) := by decide +kernel
theorem dxp_64 : decode method_3_code 64 = .ok (.iload_n 2, 1) := by decide +kernel
theorem dxp_65 : decode method_3_code 65 = .ok (.iconst 3, 1) := by decide +kernel
theorem dxp_66 : decode method_3_code 66 = .ok (.if_icmp .lt 30, 3) := by decide +kernel
theorem dxp_69 : decode method_3_code 69 = .ok (.aload_n 0, 1) := by decide +kernel
theorem dxp_70 : decode method_3_code 70 = .ok (.iload_n 2, 1) := by decide +kernel
theorem dxp_71 : decode method_3_code 71 = .ok (.laload, 1) := by decide +kernel
theorem dxp_72 : decode method_3_code 72 = .ok (.aload_n 0, 1) := by decide +kernel
theorem dxp_73 : decode method_3_code 73 = .ok (.iload_n 2, 1) := by decide +kernel
theorem dxp_74 : decode method_3_code 74 = .ok (.iconst 3, 1) := by decide +kernel
theorem dxp_75 : decode method_3_code 75 = .ok (.isub, 1) := by decide +kernel
theorem dxp_76 : decode method_3_code 76 = .ok (.laload, 1) := by decide +kernel
theorem dxp_77 : decode method_3_code 77 = .ok (.lsub, 1) := by decide +kernel
theorem dxp_78 : decode method_3_code 78 = .ok (.ldc2_w 28, 3) := by decide +kernel
theorem dxp_81 : decode method_3_code 81 = .ok (.lcmp, 1) := by decide +kernel
theorem dxp_82 : decode method_3_code 82 = .ok (.ifCond .lt 14, 3) := by decide +kernel
theorem dxp_85 : decode method_3_code 85 = .ok (.aload_n 0, 1) := by decide +kernel
theorem dxp_86 : decode method_3_code 86 = .ok (.aload_n 1, 1) := by decide +kernel
theorem dxp_87 : decode method_3_code 87 = .ok (.iload_n 2, 1) := by decide +kernel
theorem dxp_88 : decode method_3_code 88 = .ok (.iload_n 2, 1) := by decide +kernel
theorem dxp_89 : decode method_3_code 89 = .ok (.iconst 3, 1) := by decide +kernel
theorem dxp_90 : decode method_3_code 90 = .ok (.isub, 1) := by decide +kernel
theorem dxp_91 : decode method_3_code 91 = .ok (.iload_n 3, 1) := by decide +kernel
theorem dxp_92 : decode method_3_code 92 = .ok (.invokestatic 30, 3) := by decide +kernel
theorem dxp_95 : decode method_3_code 95 = .ok (.ireturn, 1) := by decide +kernel
theorem dxp_96 : decode method_3_code 96 = .ok (.iconst 0, 1) := by decide +kernel
theorem dxp_97 : decode method_3_code 97 = .ok (.ireturn, 1) := by decide +kernel
theorem pn_q0 : plainName "com/example/indenture/indenture/app/HeapWatch" = true := by first | (simp [plainName, overriddenIn]; done) | decide +kernel
theorem pn_q1 : plainName "com/example/indenture/indenture/app/HeapWatchSamplePinLaw" = true := by first | (simp [plainName, overriddenIn]; done) | decide +kernel
theorem pn_l : plainName "com/example/indenture/indenture/app/HeapWatchSamplePinLaw" = true := pn_q1
theorem pd___V : parseMethodDescriptor "()V" = some ⟨[], none⟩ := by decide +kernel
theorem pd__I_V : parseMethodDescriptor "(I)V" = some ⟨[.int], none⟩ := by decide +kernel
theorem pd__JJ_Z : parseMethodDescriptor "(JJ)Z" = some ⟨[.long, .long], some .boolean⟩ := by decide +kernel
theorem pd__JJJJJJ_Z : parseMethodDescriptor "(JJJJJJ)Z" = some ⟨[.long, .long, .long, .long, .long, .long], some .boolean⟩ := by decide +kernel
theorem pd___J_JII_Z : parseMethodDescriptor "([J[JII)Z" = some ⟨[(.array .long), (.array .long), .int, .int], some .boolean⟩ := by decide +kernel
theorem pd___J_JIII_Z : parseMethodDescriptor "([J[JIII)Z" = some ⟨[(.array .long), (.array .long), .int, .int, .int], some .boolean⟩ := by decide +kernel
def sm (N C : Int64) : Int32 := if N < 5000000000 then 0 else if 10000000 * C < 9 * N then 0 else 1
def jg (cap d : Int32) (C N : Int64) : Int32 := if cap - 1 < d then 0 else if 10000000 * C < 9 * N then 0 else 1
def ex1 (cap : Int32) (t0 t1 t2 t3 c0 c1 c2 c3 : Int64) : Int32 := if t1 - t0 < 5000000000 then 0 else jg cap 1 (c1 - c0) (t1 - t0)
def ex2 (cap : Int32) (t0 t1 t2 t3 c0 c1 c2 c3 : Int64) : Int32 := if t2 - t1 < 5000000000 then (if t2 - t0 < 5000000000 then 0 else jg cap 2 (c2 - c0) (t2 - t0)) else jg cap 1 (c2 - c1) (t2 - t1)
def ex3 (cap : Int32) (t0 t1 t2 t3 c0 c1 c2 c3 : Int64) : Int32 := if t3 - t2 < 5000000000 then (if t3 - t1 < 5000000000 then (if t3 - t0 < 5000000000 then 0 else jg cap 3 (c3 - c0) (t3 - t0)) else jg cap 2 (c3 - c1) (t3 - t1)) else jg cap 1 (c3 - c2) (t3 - t2)
theorem own_j2 (cap d : Int32) (C N : Int64) : jg cap d C N = 0 ∨ jg cap d C N = 1 := by
  unfold jg
  split
  · exact Or.inl rfl
  · split
    · exact Or.inl rfl
    · exact Or.inr rfl
theorem own_nar (cap d : Int32) (C N : Int64) : nar .boolean (jg cap d C N) = jg cap d C N := by
  rcases own_j2 cap d C N with q | q <;> rw [q] <;> rfl
theorem own_sub (x : Int64) : x - x = 0 := by grind
theorem own_self (x : Int64) : x - x < 5000000000 := by rw [own_sub]; decide
theorem own_ge {N : Int64} (h : ¬ N < 5000000000) : 5000000000 ≤ N.toInt := by
  rw [Int64.lt_iff_toInt_lt, show (5000000000 : Int64).toInt = 5000000000 from rfl] at h; omega
theorem own_nn1 (C : Int64) : Jvm.Free.Fl.NoNaN64 (FP.dmul (FP.l2d C) (4696837146684686336 : UInt64)) := Jvm.Free.Fl.dmul_out (Jvm.Free.Fl.l2d_fin C) (by unfold Jvm.Free.Fl.Fin64; decide)
theorem own_nn2 (N : Int64) : Jvm.Free.Fl.NoNaN64 (FP.dmul (4606281698874543309 : UInt64) (FP.l2d N)) := Jvm.Free.Fl.dmul_out (by unfold Jvm.Free.Fl.Fin64; decide) (Jvm.Free.Fl.l2d_fin N)
theorem own_t {a b u : Int64} (h : b = (a + 1) + (u &&& 17179869183)) : 1 ≤ (b - a).toInt ∧ (b - a).toInt ≤ 17179869184 := by
  have q := c_maskL u 17179869183 34 (by decide) (by decide)
  have e : b - a = 1 + (u &&& 17179869183) := by rw [h]; grind
  have e2 : (1 + (u &&& 17179869183)).toInt = 1 + (u &&& 17179869183).toInt := by
    rw [Int64.toInt_add, show (1 : Int64).toInt = 1 from rfl, Int.bmod_eq_of_le] <;> omega
  rw [e, e2]; omega
theorem own_c {a b u : Int64} (h : b = a + (u &&& 65535)) : 0 ≤ (b - a).toInt ∧ (b - a).toInt ≤ 65535 := by
  have q := c_maskL u 65535 16 (by decide) (by decide)
  have e : b - a = (u &&& 65535) := by rw [h]; grind
  rw [e]; omega
theorem own_2 {a b c : Int64} (h1 : 0 ≤ (b - a).toInt) (h2 : (b - a).toInt < 1000000000000) (h3 : 0 ≤ (c - b).toInt) (h4 : (c - b).toInt < 1000000000000) : (c - a).toInt = (c - b).toInt + (b - a).toInt := by
  rw [show c - a = (c - b) + (b - a) by grind, Int64.toInt_add, Int.bmod_eq_of_le] <;> omega
theorem own_lt {x y : Int64} (h : x < 5000000000) (g : y.toInt ≤ x.toInt) : y < 5000000000 := by
  rw [Int64.lt_iff_toInt_lt] at h ⊢; omega
theorem own_0 (x : Int64) : (x - x).toInt = 0 := by rw [own_sub]; rfl
theorem own_cap (x : Int64) : ((1 : Int32) + ((x &&& (3 : Int64)).toInt32)) = 1 ∨ ((1 : Int32) + ((x &&& (3 : Int64)).toInt32)) = 2 ∨ ((1 : Int32) + ((x &&& (3 : Int64)).toInt32)) = 3 ∨ ((1 : Int32) + ((x &&& (3 : Int64)).toInt32)) = 4 := by
  have q := c_maskL x 3 2 (by decide) (by decide)
  have : (x &&& (3 : Int64)) = 0 ∨ (x &&& (3 : Int64)) = 1 ∨ (x &&& (3 : Int64)) = 2 ∨ (x &&& (3 : Int64)) = 3 := by
    simp only [← Int64.toInt_inj, show (0 : Int64).toInt = 0 from rfl, show (1 : Int64).toInt = 1 from rfl, show (2 : Int64).toInt = 2 from rfl, show (3 : Int64).toInt = 3 from rfl]
    omega
  rcases this with h | h | h | h <;> rw [h]
  · exact Or.inl rfl
  · exact Or.inr (Or.inl rfl)
  · exact Or.inr (Or.inr (Or.inl rfl))
  · exact Or.inr (Or.inr (Or.inr rfl))
def HwW (Z : State) (h : Heap) (w : Addr) (w_times : Addr) (w_collected : Addr) (w_oldest : Int32) (w_count : Int32) : Prop :=
  Exa Z h w "com/example/indenture/indenture/app/HeapWatch" ∧ Fld Z h w "com/example/indenture/indenture/app/HeapWatch" "times" "[J" (.ref w_times) ∧ Fld Z h w "com/example/indenture/indenture/app/HeapWatch" "collected" "[J" (.ref w_collected) ∧ Fld Z h w "com/example/indenture/indenture/app/HeapWatch" "oldest" "I" (.int w_oldest) ∧ Fld Z h w "com/example/indenture/indenture/app/HeapWatch" "count" "I" (.int w_count)
theorem HwWKeep {Z : State} {h h' : Heap} {w : Addr} {w_times : Addr} {w_collected : Addr} {w_oldest : Int32} {w_count : Int32} {ws : List Addr} (S : HwW Z h w w_times w_collected w_oldest w_count) (K : Keep h h' ws) (q : w ∉ ws) : HwW Z h' w w_times w_collected w_oldest w_count := by
  obtain ⟨E, F0, F1, F2, F3⟩ := S
  exact ⟨E.keep K, F0.keep K q, F1.keep K q, F2.keep K q, F3.keep K q⟩
theorem ef_rmHi1 (w : Addr) : ∀ mI_, entryFrame mI_ #[(.ref w), (.int (1 : Int32))] 2 = mkF mI_ 0 #[.val (.ref w), .val (.int (1 : Int32))] [] := fun mI_ => by first | (simp [entryFrame, mkF, argsToLocals, Value.category]; done) | rfl
set_option maxRecDepth 65536 in
set_option maxHeartbeats 40000000 in
theorem rmHi1 (l : Launch) (Z : State) (a0 : Array Value) (hw : ∀ d ∈ tables_1, d.before a0 Z = true) (w : Addr) (h0 : Heap) (n0 : Nat) (Zs : n0 ≤ h0.size) (E_w : Exa Z h0 w "com/example/indenture/indenture/app/HeapWatch") (F_w_times : Fld Z h0 w "com/example/indenture/indenture/app/HeapWatch" "times" "[J" .null) (F_w_collected : Fld Z h0 w "com/example/indenture/indenture/app/HeapWatch" "collected" "[J" .null) (F_w_count : Fld Z h0 w "com/example/indenture/indenture/app/HeapWatch" "count" "I" (.int (0 : Int32))) (F_w_oldest : Fld Z h0 w "com/example/indenture/indenture/app/HeapWatch" "oldest" "I" (.int (0 : Int32))) (g_w : n0 ≤ w) :
    Con l Z (⟨"com/example/indenture/indenture/app/HeapWatch", "<init>", "(I)V"⟩ : MethodName) prog_1_method_1_code 2 none [] ({ frames := 1, cells := 2, slots := 2, locals := 20 } : Room) n0 #[(.ref w), (.int (1 : Int32))] h0 (fun v h => v = none ∧ Keep h0 h [w] ∧ ∃ (a c : Addr) (ka kc : ClassId), h0.size ≤ a ∧ h0.size ≤ c ∧ a ≠ c ∧ HwW Z h w a c (0 : Int32) (0 : Int32) ∧ Arv Z h a ka .long (1 : Int32) [(.long (0 : Int64))] (.long (0 : Int64)) ∧ Arv Z h c kc .long (1 : Int32) [(.long (0 : Int64))] (.long (0 : Int64))) := by
  refine Con.of (plainFor_of_name pn_q0) (ef_rmHi1 w) ?_
  intro K C
  replace C : Ok Z "com/example/indenture/indenture/app/HeapWatch" "<init>" prog_1_method_1_code 2 none K := C
  have KP := Keep.refl h0 [w]
  refine r_aloadN C 1 dhi_0 rfl rfl rfl ?_
  refine r_initO C 4 (hw _ (List.mem_of_getElem? (i := 10) rfl)) (hw _ (List.mem_of_getElem? (i := 11) rfl)) (hw _ (List.mem_of_getElem? (i := 12) rfl)) dhi_1 rfl rfl (by decide) (by decide) ?_
  refine r_aloadN C 5 dhi_4 rfl rfl rfl ?_
  refine r_iloadN C 6 dhi_5 rfl rfl ?_
  refine r_newarray C 8 1 (hw _ (List.mem_of_getElem? (i := 1) rfl)) dhi_6 rfl (by decide) (by decide) (by decide) (by decide) (by decide) ?_
  intro h1 b1 kA1 g1 E1 V_b1
  replace V_b1 : Arv Z h1 b1 kA1 .long (1 : Int32) [(.long (0 : Int64))] (.long (0 : Int64)) := V_b1.pad (pad_rep [] (.long (0 : Int64)) 1)
  have g_b1 : n0 ≤ b1 := g1 ▸ Zs
  have lt_w_b1 : w < b1 := Nat.lt_of_lt_of_le E_w.lt (Nat.le_of_eq g1.symm)
  have ne_w_b1 : w ≠ b1 := Nat.ne_of_lt lt_w_b1
  replace E_w := E_w.ext E1
  replace F_w_times := F_w_times.ext E1
  replace F_w_collected := F_w_collected.ext E1
  replace F_w_count := F_w_count.ext E1
  replace F_w_oldest := F_w_oldest.ext E1
  replace Zs := Nat.le_trans Zs E1.1
  have sz_b1 : h0.size ≤ b1 := g1 ▸ KP.1
  replace KP := KP.ext E1
  refine r_putfield C 11 (host := "") (Or.inl (hw _ (List.mem_of_getElem? (i := 13) rfl))) Via.refl F_w_times E_w (Or.inr ⟨(hw _ (List.mem_of_getElem? (i := 14) rfl)), rfl, rfl⟩) (hw _ (List.mem_of_getElem? (i := 5) rfl)) (ty := (.array .long)) (by decide) rfl rfl dhi_8 rfl g_w ?_
  intro h2 W2
  replace E_w := E_w.wr W2
  replace F_w_collected := Fld.other W2 F_w_collected (Or.inr (slot_ne (Or.inr (hw _ (List.mem_of_getElem? (i := 16) rfl))) (Or.inr (hw _ (List.mem_of_getElem? (i := 14) rfl))) (by decide) (t := (.array .long)) (t' := (.array .long)) (by decide) (by decide)))
  replace F_w_count := Fld.other W2 F_w_count (Or.inr (slot_ne (Or.inl (hw _ (List.mem_of_getElem? (i := 23) rfl))) (Or.inr (hw _ (List.mem_of_getElem? (i := 14) rfl))) (by decide) (t := .int) (t' := (.array .long)) (by decide) (by decide)))
  replace F_w_oldest := Fld.other W2 F_w_oldest (Or.inr (slot_ne (Or.inl (hw _ (List.mem_of_getElem? (i := 25) rfl))) (Or.inr (hw _ (List.mem_of_getElem? (i := 14) rfl))) (by decide) (t := .int) (t' := (.array .long)) (by decide) (by decide)))
  replace V_b1 := V_b1.other W2 (Ne.symm ne_w_b1)
  replace F_w_times := F_w_times.same W2
  replace Zs := Nat.le_trans Zs (Nat.le_of_eq W2.size.symm)
  replace KP := KP.wr W2 (Or.inl (List.mem_of_getElem? (i := 0) rfl))
  refine r_aloadN C 12 dhi_11 rfl rfl rfl ?_
  refine r_iloadN C 13 dhi_12 rfl rfl ?_
  refine r_newarray C 15 1 (hw _ (List.mem_of_getElem? (i := 1) rfl)) dhi_13 rfl (by decide) (by decide) (by decide) (by decide) (by decide) ?_
  intro h3 b3 kA3 g3 E3 V_b3
  replace V_b3 : Arv Z h3 b3 kA3 .long (1 : Int32) [(.long (0 : Int64))] (.long (0 : Int64)) := V_b3.pad (pad_rep [] (.long (0 : Int64)) 1)
  have g_b3 : n0 ≤ b3 := g3 ▸ Zs
  have lt_w_b3 : w < b3 := Nat.lt_of_lt_of_le E_w.lt (Nat.le_of_eq g3.symm)
  have ne_w_b3 : w ≠ b3 := Nat.ne_of_lt lt_w_b3
  have lt_b1_b3 : b1 < b3 := Nat.lt_of_lt_of_le V_b1.lt (Nat.le_of_eq g3.symm)
  have ne_b1_b3 : b1 ≠ b3 := Nat.ne_of_lt lt_b1_b3
  replace E_w := E_w.ext E3
  replace F_w_times := F_w_times.ext E3
  replace F_w_collected := F_w_collected.ext E3
  replace F_w_count := F_w_count.ext E3
  replace F_w_oldest := F_w_oldest.ext E3
  replace V_b1 := V_b1.ext E3
  replace Zs := Nat.le_trans Zs E3.1
  have sz_b3 : h0.size ≤ b3 := g3 ▸ KP.1
  replace KP := KP.ext E3
  refine r_putfield C 18 (host := "") (Or.inl (hw _ (List.mem_of_getElem? (i := 15) rfl))) Via.refl F_w_collected E_w (Or.inr ⟨(hw _ (List.mem_of_getElem? (i := 16) rfl)), rfl, rfl⟩) (hw _ (List.mem_of_getElem? (i := 5) rfl)) (ty := (.array .long)) (by decide) rfl rfl dhi_15 rfl g_w ?_
  intro h4 W4
  replace E_w := E_w.wr W4
  replace F_w_times := Fld.other W4 F_w_times (Or.inr (slot_ne (Or.inr (hw _ (List.mem_of_getElem? (i := 14) rfl))) (Or.inr (hw _ (List.mem_of_getElem? (i := 16) rfl))) (by decide) (t := (.array .long)) (t' := (.array .long)) (by decide) (by decide)))
  replace F_w_count := Fld.other W4 F_w_count (Or.inr (slot_ne (Or.inl (hw _ (List.mem_of_getElem? (i := 23) rfl))) (Or.inr (hw _ (List.mem_of_getElem? (i := 16) rfl))) (by decide) (t := .int) (t' := (.array .long)) (by decide) (by decide)))
  replace F_w_oldest := Fld.other W4 F_w_oldest (Or.inr (slot_ne (Or.inl (hw _ (List.mem_of_getElem? (i := 25) rfl))) (Or.inr (hw _ (List.mem_of_getElem? (i := 16) rfl))) (by decide) (t := .int) (t' := (.array .long)) (by decide) (by decide)))
  replace V_b1 := V_b1.other W4 (Ne.symm ne_w_b1)
  replace V_b3 := V_b3.other W4 (Ne.symm ne_w_b3)
  replace F_w_collected := F_w_collected.same W4
  replace Zs := Nat.le_trans Zs (Nat.le_of_eq W4.size.symm)
  replace KP := KP.wr W4 (Or.inl (List.mem_of_getElem? (i := 0) rfl))
  exact r_return C rfl dhi_18 (by decide) (by decide) ⟨rfl, KP, b1, b3, kA1, kA3, sz_b1, sz_b3, ne_b1_b3, ⟨E_w, F_w_times, F_w_collected, F_w_oldest, F_w_count⟩, V_b1, V_b3⟩
theorem ef_rmHi2 (w : Addr) : ∀ mI_, entryFrame mI_ #[(.ref w), (.int (2 : Int32))] 2 = mkF mI_ 0 #[.val (.ref w), .val (.int (2 : Int32))] [] := fun mI_ => by first | (simp [entryFrame, mkF, argsToLocals, Value.category]; done) | rfl
set_option maxRecDepth 65536 in
set_option maxHeartbeats 40000000 in
theorem rmHi2 (l : Launch) (Z : State) (a0 : Array Value) (hw : ∀ d ∈ tables_1, d.before a0 Z = true) (w : Addr) (h0 : Heap) (n0 : Nat) (Zs : n0 ≤ h0.size) (E_w : Exa Z h0 w "com/example/indenture/indenture/app/HeapWatch") (F_w_times : Fld Z h0 w "com/example/indenture/indenture/app/HeapWatch" "times" "[J" .null) (F_w_collected : Fld Z h0 w "com/example/indenture/indenture/app/HeapWatch" "collected" "[J" .null) (F_w_count : Fld Z h0 w "com/example/indenture/indenture/app/HeapWatch" "count" "I" (.int (0 : Int32))) (F_w_oldest : Fld Z h0 w "com/example/indenture/indenture/app/HeapWatch" "oldest" "I" (.int (0 : Int32))) (g_w : n0 ≤ w) :
    Con l Z (⟨"com/example/indenture/indenture/app/HeapWatch", "<init>", "(I)V"⟩ : MethodName) prog_1_method_1_code 2 none [] ({ frames := 1, cells := 2, slots := 4, locals := 20 } : Room) n0 #[(.ref w), (.int (2 : Int32))] h0 (fun v h => v = none ∧ Keep h0 h [w] ∧ ∃ (a c : Addr) (ka kc : ClassId), h0.size ≤ a ∧ h0.size ≤ c ∧ a ≠ c ∧ HwW Z h w a c (0 : Int32) (0 : Int32) ∧ Arv Z h a ka .long (2 : Int32) [(.long (0 : Int64)), (.long (0 : Int64))] (.long (0 : Int64)) ∧ Arv Z h c kc .long (2 : Int32) [(.long (0 : Int64)), (.long (0 : Int64))] (.long (0 : Int64))) := by
  refine Con.of (plainFor_of_name pn_q0) (ef_rmHi2 w) ?_
  intro K C
  replace C : Ok Z "com/example/indenture/indenture/app/HeapWatch" "<init>" prog_1_method_1_code 2 none K := C
  have KP := Keep.refl h0 [w]
  refine r_aloadN C 1 dhi_0 rfl rfl rfl ?_
  refine r_initO C 4 (hw _ (List.mem_of_getElem? (i := 10) rfl)) (hw _ (List.mem_of_getElem? (i := 11) rfl)) (hw _ (List.mem_of_getElem? (i := 12) rfl)) dhi_1 rfl rfl (by decide) (by decide) ?_
  refine r_aloadN C 5 dhi_4 rfl rfl rfl ?_
  refine r_iloadN C 6 dhi_5 rfl rfl ?_
  refine r_newarray C 8 2 (hw _ (List.mem_of_getElem? (i := 1) rfl)) dhi_6 rfl (by decide) (by decide) (by decide) (by decide) (by decide) ?_
  intro h1 b1 kA1 g1 E1 V_b1
  replace V_b1 : Arv Z h1 b1 kA1 .long (2 : Int32) [(.long (0 : Int64)), (.long (0 : Int64))] (.long (0 : Int64)) := V_b1.pad (pad_rep [] (.long (0 : Int64)) 2)
  have g_b1 : n0 ≤ b1 := g1 ▸ Zs
  have lt_w_b1 : w < b1 := Nat.lt_of_lt_of_le E_w.lt (Nat.le_of_eq g1.symm)
  have ne_w_b1 : w ≠ b1 := Nat.ne_of_lt lt_w_b1
  replace E_w := E_w.ext E1
  replace F_w_times := F_w_times.ext E1
  replace F_w_collected := F_w_collected.ext E1
  replace F_w_count := F_w_count.ext E1
  replace F_w_oldest := F_w_oldest.ext E1
  replace Zs := Nat.le_trans Zs E1.1
  have sz_b1 : h0.size ≤ b1 := g1 ▸ KP.1
  replace KP := KP.ext E1
  refine r_putfield C 11 (host := "") (Or.inl (hw _ (List.mem_of_getElem? (i := 13) rfl))) Via.refl F_w_times E_w (Or.inr ⟨(hw _ (List.mem_of_getElem? (i := 14) rfl)), rfl, rfl⟩) (hw _ (List.mem_of_getElem? (i := 5) rfl)) (ty := (.array .long)) (by decide) rfl rfl dhi_8 rfl g_w ?_
  intro h2 W2
  replace E_w := E_w.wr W2
  replace F_w_collected := Fld.other W2 F_w_collected (Or.inr (slot_ne (Or.inr (hw _ (List.mem_of_getElem? (i := 16) rfl))) (Or.inr (hw _ (List.mem_of_getElem? (i := 14) rfl))) (by decide) (t := (.array .long)) (t' := (.array .long)) (by decide) (by decide)))
  replace F_w_count := Fld.other W2 F_w_count (Or.inr (slot_ne (Or.inl (hw _ (List.mem_of_getElem? (i := 23) rfl))) (Or.inr (hw _ (List.mem_of_getElem? (i := 14) rfl))) (by decide) (t := .int) (t' := (.array .long)) (by decide) (by decide)))
  replace F_w_oldest := Fld.other W2 F_w_oldest (Or.inr (slot_ne (Or.inl (hw _ (List.mem_of_getElem? (i := 25) rfl))) (Or.inr (hw _ (List.mem_of_getElem? (i := 14) rfl))) (by decide) (t := .int) (t' := (.array .long)) (by decide) (by decide)))
  replace V_b1 := V_b1.other W2 (Ne.symm ne_w_b1)
  replace F_w_times := F_w_times.same W2
  replace Zs := Nat.le_trans Zs (Nat.le_of_eq W2.size.symm)
  replace KP := KP.wr W2 (Or.inl (List.mem_of_getElem? (i := 0) rfl))
  refine r_aloadN C 12 dhi_11 rfl rfl rfl ?_
  refine r_iloadN C 13 dhi_12 rfl rfl ?_
  refine r_newarray C 15 2 (hw _ (List.mem_of_getElem? (i := 1) rfl)) dhi_13 rfl (by decide) (by decide) (by decide) (by decide) (by decide) ?_
  intro h3 b3 kA3 g3 E3 V_b3
  replace V_b3 : Arv Z h3 b3 kA3 .long (2 : Int32) [(.long (0 : Int64)), (.long (0 : Int64))] (.long (0 : Int64)) := V_b3.pad (pad_rep [] (.long (0 : Int64)) 2)
  have g_b3 : n0 ≤ b3 := g3 ▸ Zs
  have lt_w_b3 : w < b3 := Nat.lt_of_lt_of_le E_w.lt (Nat.le_of_eq g3.symm)
  have ne_w_b3 : w ≠ b3 := Nat.ne_of_lt lt_w_b3
  have lt_b1_b3 : b1 < b3 := Nat.lt_of_lt_of_le V_b1.lt (Nat.le_of_eq g3.symm)
  have ne_b1_b3 : b1 ≠ b3 := Nat.ne_of_lt lt_b1_b3
  replace E_w := E_w.ext E3
  replace F_w_times := F_w_times.ext E3
  replace F_w_collected := F_w_collected.ext E3
  replace F_w_count := F_w_count.ext E3
  replace F_w_oldest := F_w_oldest.ext E3
  replace V_b1 := V_b1.ext E3
  replace Zs := Nat.le_trans Zs E3.1
  have sz_b3 : h0.size ≤ b3 := g3 ▸ KP.1
  replace KP := KP.ext E3
  refine r_putfield C 18 (host := "") (Or.inl (hw _ (List.mem_of_getElem? (i := 15) rfl))) Via.refl F_w_collected E_w (Or.inr ⟨(hw _ (List.mem_of_getElem? (i := 16) rfl)), rfl, rfl⟩) (hw _ (List.mem_of_getElem? (i := 5) rfl)) (ty := (.array .long)) (by decide) rfl rfl dhi_15 rfl g_w ?_
  intro h4 W4
  replace E_w := E_w.wr W4
  replace F_w_times := Fld.other W4 F_w_times (Or.inr (slot_ne (Or.inr (hw _ (List.mem_of_getElem? (i := 14) rfl))) (Or.inr (hw _ (List.mem_of_getElem? (i := 16) rfl))) (by decide) (t := (.array .long)) (t' := (.array .long)) (by decide) (by decide)))
  replace F_w_count := Fld.other W4 F_w_count (Or.inr (slot_ne (Or.inl (hw _ (List.mem_of_getElem? (i := 23) rfl))) (Or.inr (hw _ (List.mem_of_getElem? (i := 16) rfl))) (by decide) (t := .int) (t' := (.array .long)) (by decide) (by decide)))
  replace F_w_oldest := Fld.other W4 F_w_oldest (Or.inr (slot_ne (Or.inl (hw _ (List.mem_of_getElem? (i := 25) rfl))) (Or.inr (hw _ (List.mem_of_getElem? (i := 16) rfl))) (by decide) (t := .int) (t' := (.array .long)) (by decide) (by decide)))
  replace V_b1 := V_b1.other W4 (Ne.symm ne_w_b1)
  replace V_b3 := V_b3.other W4 (Ne.symm ne_w_b3)
  replace F_w_collected := F_w_collected.same W4
  replace Zs := Nat.le_trans Zs (Nat.le_of_eq W4.size.symm)
  replace KP := KP.wr W4 (Or.inl (List.mem_of_getElem? (i := 0) rfl))
  exact r_return C rfl dhi_18 (by decide) (by decide) ⟨rfl, KP, b1, b3, kA1, kA3, sz_b1, sz_b3, ne_b1_b3, ⟨E_w, F_w_times, F_w_collected, F_w_oldest, F_w_count⟩, V_b1, V_b3⟩
theorem ef_rmHi3 (w : Addr) : ∀ mI_, entryFrame mI_ #[(.ref w), (.int (3 : Int32))] 2 = mkF mI_ 0 #[.val (.ref w), .val (.int (3 : Int32))] [] := fun mI_ => by first | (simp [entryFrame, mkF, argsToLocals, Value.category]; done) | rfl
set_option maxRecDepth 65536 in
set_option maxHeartbeats 40000000 in
theorem rmHi3 (l : Launch) (Z : State) (a0 : Array Value) (hw : ∀ d ∈ tables_1, d.before a0 Z = true) (w : Addr) (h0 : Heap) (n0 : Nat) (Zs : n0 ≤ h0.size) (E_w : Exa Z h0 w "com/example/indenture/indenture/app/HeapWatch") (F_w_times : Fld Z h0 w "com/example/indenture/indenture/app/HeapWatch" "times" "[J" .null) (F_w_collected : Fld Z h0 w "com/example/indenture/indenture/app/HeapWatch" "collected" "[J" .null) (F_w_count : Fld Z h0 w "com/example/indenture/indenture/app/HeapWatch" "count" "I" (.int (0 : Int32))) (F_w_oldest : Fld Z h0 w "com/example/indenture/indenture/app/HeapWatch" "oldest" "I" (.int (0 : Int32))) (g_w : n0 ≤ w) :
    Con l Z (⟨"com/example/indenture/indenture/app/HeapWatch", "<init>", "(I)V"⟩ : MethodName) prog_1_method_1_code 2 none [] ({ frames := 1, cells := 2, slots := 6, locals := 20 } : Room) n0 #[(.ref w), (.int (3 : Int32))] h0 (fun v h => v = none ∧ Keep h0 h [w] ∧ ∃ (a c : Addr) (ka kc : ClassId), h0.size ≤ a ∧ h0.size ≤ c ∧ a ≠ c ∧ HwW Z h w a c (0 : Int32) (0 : Int32) ∧ Arv Z h a ka .long (3 : Int32) [(.long (0 : Int64)), (.long (0 : Int64)), (.long (0 : Int64))] (.long (0 : Int64)) ∧ Arv Z h c kc .long (3 : Int32) [(.long (0 : Int64)), (.long (0 : Int64)), (.long (0 : Int64))] (.long (0 : Int64))) := by
  refine Con.of (plainFor_of_name pn_q0) (ef_rmHi3 w) ?_
  intro K C
  replace C : Ok Z "com/example/indenture/indenture/app/HeapWatch" "<init>" prog_1_method_1_code 2 none K := C
  have KP := Keep.refl h0 [w]
  refine r_aloadN C 1 dhi_0 rfl rfl rfl ?_
  refine r_initO C 4 (hw _ (List.mem_of_getElem? (i := 10) rfl)) (hw _ (List.mem_of_getElem? (i := 11) rfl)) (hw _ (List.mem_of_getElem? (i := 12) rfl)) dhi_1 rfl rfl (by decide) (by decide) ?_
  refine r_aloadN C 5 dhi_4 rfl rfl rfl ?_
  refine r_iloadN C 6 dhi_5 rfl rfl ?_
  refine r_newarray C 8 3 (hw _ (List.mem_of_getElem? (i := 1) rfl)) dhi_6 rfl (by decide) (by decide) (by decide) (by decide) (by decide) ?_
  intro h1 b1 kA1 g1 E1 V_b1
  replace V_b1 : Arv Z h1 b1 kA1 .long (3 : Int32) [(.long (0 : Int64)), (.long (0 : Int64)), (.long (0 : Int64))] (.long (0 : Int64)) := V_b1.pad (pad_rep [] (.long (0 : Int64)) 3)
  have g_b1 : n0 ≤ b1 := g1 ▸ Zs
  have lt_w_b1 : w < b1 := Nat.lt_of_lt_of_le E_w.lt (Nat.le_of_eq g1.symm)
  have ne_w_b1 : w ≠ b1 := Nat.ne_of_lt lt_w_b1
  replace E_w := E_w.ext E1
  replace F_w_times := F_w_times.ext E1
  replace F_w_collected := F_w_collected.ext E1
  replace F_w_count := F_w_count.ext E1
  replace F_w_oldest := F_w_oldest.ext E1
  replace Zs := Nat.le_trans Zs E1.1
  have sz_b1 : h0.size ≤ b1 := g1 ▸ KP.1
  replace KP := KP.ext E1
  refine r_putfield C 11 (host := "") (Or.inl (hw _ (List.mem_of_getElem? (i := 13) rfl))) Via.refl F_w_times E_w (Or.inr ⟨(hw _ (List.mem_of_getElem? (i := 14) rfl)), rfl, rfl⟩) (hw _ (List.mem_of_getElem? (i := 5) rfl)) (ty := (.array .long)) (by decide) rfl rfl dhi_8 rfl g_w ?_
  intro h2 W2
  replace E_w := E_w.wr W2
  replace F_w_collected := Fld.other W2 F_w_collected (Or.inr (slot_ne (Or.inr (hw _ (List.mem_of_getElem? (i := 16) rfl))) (Or.inr (hw _ (List.mem_of_getElem? (i := 14) rfl))) (by decide) (t := (.array .long)) (t' := (.array .long)) (by decide) (by decide)))
  replace F_w_count := Fld.other W2 F_w_count (Or.inr (slot_ne (Or.inl (hw _ (List.mem_of_getElem? (i := 23) rfl))) (Or.inr (hw _ (List.mem_of_getElem? (i := 14) rfl))) (by decide) (t := .int) (t' := (.array .long)) (by decide) (by decide)))
  replace F_w_oldest := Fld.other W2 F_w_oldest (Or.inr (slot_ne (Or.inl (hw _ (List.mem_of_getElem? (i := 25) rfl))) (Or.inr (hw _ (List.mem_of_getElem? (i := 14) rfl))) (by decide) (t := .int) (t' := (.array .long)) (by decide) (by decide)))
  replace V_b1 := V_b1.other W2 (Ne.symm ne_w_b1)
  replace F_w_times := F_w_times.same W2
  replace Zs := Nat.le_trans Zs (Nat.le_of_eq W2.size.symm)
  replace KP := KP.wr W2 (Or.inl (List.mem_of_getElem? (i := 0) rfl))
  refine r_aloadN C 12 dhi_11 rfl rfl rfl ?_
  refine r_iloadN C 13 dhi_12 rfl rfl ?_
  refine r_newarray C 15 3 (hw _ (List.mem_of_getElem? (i := 1) rfl)) dhi_13 rfl (by decide) (by decide) (by decide) (by decide) (by decide) ?_
  intro h3 b3 kA3 g3 E3 V_b3
  replace V_b3 : Arv Z h3 b3 kA3 .long (3 : Int32) [(.long (0 : Int64)), (.long (0 : Int64)), (.long (0 : Int64))] (.long (0 : Int64)) := V_b3.pad (pad_rep [] (.long (0 : Int64)) 3)
  have g_b3 : n0 ≤ b3 := g3 ▸ Zs
  have lt_w_b3 : w < b3 := Nat.lt_of_lt_of_le E_w.lt (Nat.le_of_eq g3.symm)
  have ne_w_b3 : w ≠ b3 := Nat.ne_of_lt lt_w_b3
  have lt_b1_b3 : b1 < b3 := Nat.lt_of_lt_of_le V_b1.lt (Nat.le_of_eq g3.symm)
  have ne_b1_b3 : b1 ≠ b3 := Nat.ne_of_lt lt_b1_b3
  replace E_w := E_w.ext E3
  replace F_w_times := F_w_times.ext E3
  replace F_w_collected := F_w_collected.ext E3
  replace F_w_count := F_w_count.ext E3
  replace F_w_oldest := F_w_oldest.ext E3
  replace V_b1 := V_b1.ext E3
  replace Zs := Nat.le_trans Zs E3.1
  have sz_b3 : h0.size ≤ b3 := g3 ▸ KP.1
  replace KP := KP.ext E3
  refine r_putfield C 18 (host := "") (Or.inl (hw _ (List.mem_of_getElem? (i := 15) rfl))) Via.refl F_w_collected E_w (Or.inr ⟨(hw _ (List.mem_of_getElem? (i := 16) rfl)), rfl, rfl⟩) (hw _ (List.mem_of_getElem? (i := 5) rfl)) (ty := (.array .long)) (by decide) rfl rfl dhi_15 rfl g_w ?_
  intro h4 W4
  replace E_w := E_w.wr W4
  replace F_w_times := Fld.other W4 F_w_times (Or.inr (slot_ne (Or.inr (hw _ (List.mem_of_getElem? (i := 14) rfl))) (Or.inr (hw _ (List.mem_of_getElem? (i := 16) rfl))) (by decide) (t := (.array .long)) (t' := (.array .long)) (by decide) (by decide)))
  replace F_w_count := Fld.other W4 F_w_count (Or.inr (slot_ne (Or.inl (hw _ (List.mem_of_getElem? (i := 23) rfl))) (Or.inr (hw _ (List.mem_of_getElem? (i := 16) rfl))) (by decide) (t := .int) (t' := (.array .long)) (by decide) (by decide)))
  replace F_w_oldest := Fld.other W4 F_w_oldest (Or.inr (slot_ne (Or.inl (hw _ (List.mem_of_getElem? (i := 25) rfl))) (Or.inr (hw _ (List.mem_of_getElem? (i := 16) rfl))) (by decide) (t := .int) (t' := (.array .long)) (by decide) (by decide)))
  replace V_b1 := V_b1.other W4 (Ne.symm ne_w_b1)
  replace V_b3 := V_b3.other W4 (Ne.symm ne_w_b3)
  replace F_w_collected := F_w_collected.same W4
  replace Zs := Nat.le_trans Zs (Nat.le_of_eq W4.size.symm)
  replace KP := KP.wr W4 (Or.inl (List.mem_of_getElem? (i := 0) rfl))
  exact r_return C rfl dhi_18 (by decide) (by decide) ⟨rfl, KP, b1, b3, kA1, kA3, sz_b1, sz_b3, ne_b1_b3, ⟨E_w, F_w_times, F_w_collected, F_w_oldest, F_w_count⟩, V_b1, V_b3⟩
theorem ef_rmHi4 (w : Addr) : ∀ mI_, entryFrame mI_ #[(.ref w), (.int (4 : Int32))] 2 = mkF mI_ 0 #[.val (.ref w), .val (.int (4 : Int32))] [] := fun mI_ => by first | (simp [entryFrame, mkF, argsToLocals, Value.category]; done) | rfl
set_option maxRecDepth 65536 in
set_option maxHeartbeats 40000000 in
theorem rmHi4 (l : Launch) (Z : State) (a0 : Array Value) (hw : ∀ d ∈ tables_1, d.before a0 Z = true) (w : Addr) (h0 : Heap) (n0 : Nat) (Zs : n0 ≤ h0.size) (E_w : Exa Z h0 w "com/example/indenture/indenture/app/HeapWatch") (F_w_times : Fld Z h0 w "com/example/indenture/indenture/app/HeapWatch" "times" "[J" .null) (F_w_collected : Fld Z h0 w "com/example/indenture/indenture/app/HeapWatch" "collected" "[J" .null) (F_w_count : Fld Z h0 w "com/example/indenture/indenture/app/HeapWatch" "count" "I" (.int (0 : Int32))) (F_w_oldest : Fld Z h0 w "com/example/indenture/indenture/app/HeapWatch" "oldest" "I" (.int (0 : Int32))) (g_w : n0 ≤ w) :
    Con l Z (⟨"com/example/indenture/indenture/app/HeapWatch", "<init>", "(I)V"⟩ : MethodName) prog_1_method_1_code 2 none [] ({ frames := 1, cells := 2, slots := 8, locals := 20 } : Room) n0 #[(.ref w), (.int (4 : Int32))] h0 (fun v h => v = none ∧ Keep h0 h [w] ∧ ∃ (a c : Addr) (ka kc : ClassId), h0.size ≤ a ∧ h0.size ≤ c ∧ a ≠ c ∧ HwW Z h w a c (0 : Int32) (0 : Int32) ∧ Arv Z h a ka .long (4 : Int32) [(.long (0 : Int64)), (.long (0 : Int64)), (.long (0 : Int64)), (.long (0 : Int64))] (.long (0 : Int64)) ∧ Arv Z h c kc .long (4 : Int32) [(.long (0 : Int64)), (.long (0 : Int64)), (.long (0 : Int64)), (.long (0 : Int64))] (.long (0 : Int64))) := by
  refine Con.of (plainFor_of_name pn_q0) (ef_rmHi4 w) ?_
  intro K C
  replace C : Ok Z "com/example/indenture/indenture/app/HeapWatch" "<init>" prog_1_method_1_code 2 none K := C
  have KP := Keep.refl h0 [w]
  refine r_aloadN C 1 dhi_0 rfl rfl rfl ?_
  refine r_initO C 4 (hw _ (List.mem_of_getElem? (i := 10) rfl)) (hw _ (List.mem_of_getElem? (i := 11) rfl)) (hw _ (List.mem_of_getElem? (i := 12) rfl)) dhi_1 rfl rfl (by decide) (by decide) ?_
  refine r_aloadN C 5 dhi_4 rfl rfl rfl ?_
  refine r_iloadN C 6 dhi_5 rfl rfl ?_
  refine r_newarray C 8 4 (hw _ (List.mem_of_getElem? (i := 1) rfl)) dhi_6 rfl (by decide) (by decide) (by decide) (by decide) (by decide) ?_
  intro h1 b1 kA1 g1 E1 V_b1
  replace V_b1 : Arv Z h1 b1 kA1 .long (4 : Int32) [(.long (0 : Int64)), (.long (0 : Int64)), (.long (0 : Int64)), (.long (0 : Int64))] (.long (0 : Int64)) := V_b1.pad (pad_rep [] (.long (0 : Int64)) 4)
  have g_b1 : n0 ≤ b1 := g1 ▸ Zs
  have lt_w_b1 : w < b1 := Nat.lt_of_lt_of_le E_w.lt (Nat.le_of_eq g1.symm)
  have ne_w_b1 : w ≠ b1 := Nat.ne_of_lt lt_w_b1
  replace E_w := E_w.ext E1
  replace F_w_times := F_w_times.ext E1
  replace F_w_collected := F_w_collected.ext E1
  replace F_w_count := F_w_count.ext E1
  replace F_w_oldest := F_w_oldest.ext E1
  replace Zs := Nat.le_trans Zs E1.1
  have sz_b1 : h0.size ≤ b1 := g1 ▸ KP.1
  replace KP := KP.ext E1
  refine r_putfield C 11 (host := "") (Or.inl (hw _ (List.mem_of_getElem? (i := 13) rfl))) Via.refl F_w_times E_w (Or.inr ⟨(hw _ (List.mem_of_getElem? (i := 14) rfl)), rfl, rfl⟩) (hw _ (List.mem_of_getElem? (i := 5) rfl)) (ty := (.array .long)) (by decide) rfl rfl dhi_8 rfl g_w ?_
  intro h2 W2
  replace E_w := E_w.wr W2
  replace F_w_collected := Fld.other W2 F_w_collected (Or.inr (slot_ne (Or.inr (hw _ (List.mem_of_getElem? (i := 16) rfl))) (Or.inr (hw _ (List.mem_of_getElem? (i := 14) rfl))) (by decide) (t := (.array .long)) (t' := (.array .long)) (by decide) (by decide)))
  replace F_w_count := Fld.other W2 F_w_count (Or.inr (slot_ne (Or.inl (hw _ (List.mem_of_getElem? (i := 23) rfl))) (Or.inr (hw _ (List.mem_of_getElem? (i := 14) rfl))) (by decide) (t := .int) (t' := (.array .long)) (by decide) (by decide)))
  replace F_w_oldest := Fld.other W2 F_w_oldest (Or.inr (slot_ne (Or.inl (hw _ (List.mem_of_getElem? (i := 25) rfl))) (Or.inr (hw _ (List.mem_of_getElem? (i := 14) rfl))) (by decide) (t := .int) (t' := (.array .long)) (by decide) (by decide)))
  replace V_b1 := V_b1.other W2 (Ne.symm ne_w_b1)
  replace F_w_times := F_w_times.same W2
  replace Zs := Nat.le_trans Zs (Nat.le_of_eq W2.size.symm)
  replace KP := KP.wr W2 (Or.inl (List.mem_of_getElem? (i := 0) rfl))
  refine r_aloadN C 12 dhi_11 rfl rfl rfl ?_
  refine r_iloadN C 13 dhi_12 rfl rfl ?_
  refine r_newarray C 15 4 (hw _ (List.mem_of_getElem? (i := 1) rfl)) dhi_13 rfl (by decide) (by decide) (by decide) (by decide) (by decide) ?_
  intro h3 b3 kA3 g3 E3 V_b3
  replace V_b3 : Arv Z h3 b3 kA3 .long (4 : Int32) [(.long (0 : Int64)), (.long (0 : Int64)), (.long (0 : Int64)), (.long (0 : Int64))] (.long (0 : Int64)) := V_b3.pad (pad_rep [] (.long (0 : Int64)) 4)
  have g_b3 : n0 ≤ b3 := g3 ▸ Zs
  have lt_w_b3 : w < b3 := Nat.lt_of_lt_of_le E_w.lt (Nat.le_of_eq g3.symm)
  have ne_w_b3 : w ≠ b3 := Nat.ne_of_lt lt_w_b3
  have lt_b1_b3 : b1 < b3 := Nat.lt_of_lt_of_le V_b1.lt (Nat.le_of_eq g3.symm)
  have ne_b1_b3 : b1 ≠ b3 := Nat.ne_of_lt lt_b1_b3
  replace E_w := E_w.ext E3
  replace F_w_times := F_w_times.ext E3
  replace F_w_collected := F_w_collected.ext E3
  replace F_w_count := F_w_count.ext E3
  replace F_w_oldest := F_w_oldest.ext E3
  replace V_b1 := V_b1.ext E3
  replace Zs := Nat.le_trans Zs E3.1
  have sz_b3 : h0.size ≤ b3 := g3 ▸ KP.1
  replace KP := KP.ext E3
  refine r_putfield C 18 (host := "") (Or.inl (hw _ (List.mem_of_getElem? (i := 15) rfl))) Via.refl F_w_collected E_w (Or.inr ⟨(hw _ (List.mem_of_getElem? (i := 16) rfl)), rfl, rfl⟩) (hw _ (List.mem_of_getElem? (i := 5) rfl)) (ty := (.array .long)) (by decide) rfl rfl dhi_15 rfl g_w ?_
  intro h4 W4
  replace E_w := E_w.wr W4
  replace F_w_times := Fld.other W4 F_w_times (Or.inr (slot_ne (Or.inr (hw _ (List.mem_of_getElem? (i := 14) rfl))) (Or.inr (hw _ (List.mem_of_getElem? (i := 16) rfl))) (by decide) (t := (.array .long)) (t' := (.array .long)) (by decide) (by decide)))
  replace F_w_count := Fld.other W4 F_w_count (Or.inr (slot_ne (Or.inl (hw _ (List.mem_of_getElem? (i := 23) rfl))) (Or.inr (hw _ (List.mem_of_getElem? (i := 16) rfl))) (by decide) (t := .int) (t' := (.array .long)) (by decide) (by decide)))
  replace F_w_oldest := Fld.other W4 F_w_oldest (Or.inr (slot_ne (Or.inl (hw _ (List.mem_of_getElem? (i := 25) rfl))) (Or.inr (hw _ (List.mem_of_getElem? (i := 16) rfl))) (by decide) (t := .int) (t' := (.array .long)) (by decide) (by decide)))
  replace V_b1 := V_b1.other W4 (Ne.symm ne_w_b1)
  replace V_b3 := V_b3.other W4 (Ne.symm ne_w_b3)
  replace F_w_collected := F_w_collected.same W4
  replace Zs := Nat.le_trans Zs (Nat.le_of_eq W4.size.symm)
  replace KP := KP.wr W4 (Or.inl (List.mem_of_getElem? (i := 0) rfl))
  exact r_return C rfl dhi_18 (by decide) (by decide) ⟨rfl, KP, b1, b3, kA1, kA3, sz_b1, sz_b3, ne_b1_b3, ⟨E_w, F_w_times, F_w_collected, F_w_oldest, F_w_count⟩, V_b1, V_b3⟩
theorem ef_rmDr (w : Addr) : ∀ mI_, entryFrame mI_ #[(.ref w)] 1 = mkF mI_ 0 #[.val (.ref w)] [] := fun mI_ => by first | (simp [entryFrame, mkF, argsToLocals, Value.category]; done) | rfl
set_option maxRecDepth 65536 in
set_option maxHeartbeats 40000000 in
theorem rmDr (l : Launch) (Z : State) (a0 : Array Value) (hw : ∀ d ∈ tables_1, d.before a0 Z = true) (w : Addr) (w_times : Addr) (w_collected : Addr) (w_oldest : Int32) (w_count : Int32) (kt : ClassId) (L : Int32) (vs : List Value) (h0 : Heap) (n0 : Nat) (Zs : n0 ≤ h0.size) (hW : HwW Z h0 w w_times w_collected w_oldest w_count) (V_t : Arv Z h0 w_times kt .long L vs (.long (0 : Int64))) (hL : L ≠ 0) (g_w : n0 ≤ w) :
    Con l Z (⟨"com/example/indenture/indenture/app/HeapWatch", "drop", "()V"⟩ : MethodName) prog_1_method_3_code 1 none [] ({ frames := 0, cells := 0, slots := 0, locals := 0 } : Room) n0 #[(.ref w)] h0 (fun v h => v = none ∧ Keep h0 h [w] ∧ HwW Z h w w_times w_collected ((w_oldest + (1 : Int32)) % L) (w_count - (1 : Int32))) := by
  refine Con.of (plainFor_of_name pn_q0) (ef_rmDr w) ?_
  intro K C
  replace C : Ok Z "com/example/indenture/indenture/app/HeapWatch" "drop" prog_1_method_3_code 1 none K := C
  have KP := Keep.refl h0 [w]
  obtain ⟨E_w, F_w_times, F_w_collected, F_w_oldest, F_w_count⟩ := hW
  have nwt : w ≠ w_times := exaArvNe E_w (hw _ (List.mem_of_getElem? (i := 5) rfl)) V_t
  refine r_aloadN C 1 ddr_0 rfl rfl rfl ?_
  refine r_aloadN C 2 ddr_1 rfl rfl rfl ?_
  refine r_getfield C 5 (host := "") (Or.inl (hw _ (List.mem_of_getElem? (i := 24) rfl))) Via.refl F_w_oldest ddr_2 rfl ?_
  refine r_iconst C 6 (1 : Int32) ddr_5 rfl rfl ?_
  refine r_iadd C 7 ddr_6 rfl ?_
  refine r_aloadN C 8 ddr_7 rfl rfl rfl ?_
  refine r_getfield C 11 (host := "") (Or.inl (hw _ (List.mem_of_getElem? (i := 13) rfl))) Via.refl F_w_times ddr_8 rfl ?_
  refine r_arraylength C 12 V_t ddr_11 rfl ?_
  refine r_irem C 13 ddr_12 rfl (by first | decide | assumption) ?_
  refine r_putfield C 16 (host := "") (Or.inl (hw _ (List.mem_of_getElem? (i := 24) rfl))) Via.refl F_w_oldest E_w (Or.inl (hw _ (List.mem_of_getElem? (i := 25) rfl))) (hw _ (List.mem_of_getElem? (i := 5) rfl)) (ty := .int) (by decide) rfl rfl ddr_13 rfl g_w ?_
  intro h1 W1
  replace E_w := E_w.wr W1
  replace F_w_times := Fld.other W1 F_w_times (Or.inr (slot_ne (Or.inr (hw _ (List.mem_of_getElem? (i := 14) rfl))) (Or.inl (hw _ (List.mem_of_getElem? (i := 25) rfl))) (by decide) (t := (.array .long)) (t' := .int) (by decide) (by decide)))
  replace F_w_collected := Fld.other W1 F_w_collected (Or.inr (slot_ne (Or.inr (hw _ (List.mem_of_getElem? (i := 16) rfl))) (Or.inl (hw _ (List.mem_of_getElem? (i := 25) rfl))) (by decide) (t := (.array .long)) (t' := .int) (by decide) (by decide)))
  replace F_w_count := Fld.other W1 F_w_count (Or.inr (slot_ne (Or.inl (hw _ (List.mem_of_getElem? (i := 23) rfl))) (Or.inl (hw _ (List.mem_of_getElem? (i := 25) rfl))) (by decide) (t := .int) (t' := .int) (by decide) (by decide)))
  replace V_t := V_t.other W1 (Ne.symm nwt)
  replace F_w_oldest := F_w_oldest.same W1
  replace Zs := Nat.le_trans Zs (Nat.le_of_eq W1.size.symm)
  replace KP := KP.wr W1 (Or.inl (List.mem_of_getElem? (i := 0) rfl))
  refine r_aloadN C 17 ddr_16 rfl rfl rfl ?_
  refine r_dup C 18 ddr_17 rfl rfl ?_
  refine r_getfield C 21 (host := "") (Or.inl (hw _ (List.mem_of_getElem? (i := 22) rfl))) Via.refl F_w_count ddr_18 rfl ?_
  refine r_iconst C 22 (1 : Int32) ddr_21 rfl rfl ?_
  refine r_isub C 23 ddr_22 rfl ?_
  refine r_putfield C 26 (host := "") (Or.inl (hw _ (List.mem_of_getElem? (i := 22) rfl))) Via.refl F_w_count E_w (Or.inl (hw _ (List.mem_of_getElem? (i := 23) rfl))) (hw _ (List.mem_of_getElem? (i := 5) rfl)) (ty := .int) (by decide) rfl rfl ddr_23 rfl g_w ?_
  intro h2 W2
  replace E_w := E_w.wr W2
  replace F_w_times := Fld.other W2 F_w_times (Or.inr (slot_ne (Or.inr (hw _ (List.mem_of_getElem? (i := 14) rfl))) (Or.inl (hw _ (List.mem_of_getElem? (i := 23) rfl))) (by decide) (t := (.array .long)) (t' := .int) (by decide) (by decide)))
  replace F_w_collected := Fld.other W2 F_w_collected (Or.inr (slot_ne (Or.inr (hw _ (List.mem_of_getElem? (i := 16) rfl))) (Or.inl (hw _ (List.mem_of_getElem? (i := 23) rfl))) (by decide) (t := (.array .long)) (t' := .int) (by decide) (by decide)))
  replace F_w_oldest := Fld.other W2 F_w_oldest (Or.inr (slot_ne (Or.inl (hw _ (List.mem_of_getElem? (i := 25) rfl))) (Or.inl (hw _ (List.mem_of_getElem? (i := 23) rfl))) (by decide) (t := .int) (t' := .int) (by decide) (by decide)))
  replace V_t := V_t.other W2 (Ne.symm nwt)
  replace F_w_count := F_w_count.same W2
  replace Zs := Nat.le_trans Zs (Nat.le_of_eq W2.size.symm)
  replace KP := KP.wr W2 (Or.inl (List.mem_of_getElem? (i := 0) rfl))
  exact r_return C rfl ddr_26 (by decide) (by decide) ⟨rfl, KP, E_w, F_w_times, F_w_collected, F_w_oldest, F_w_count⟩
theorem ef_rmSa_1_0_0 (w : Addr) (x : Int64) (y : Int64) : ∀ mI_, entryFrame mI_ #[(.ref w), (.long x), (.long y)] 10 = mkF mI_ 0 #[.val (.ref w), .val (.long x), .second, .val (.long y), .second, .unset, .unset, .unset, .unset, .unset] [] := fun mI_ => by first | (simp [entryFrame, mkF, argsToLocals, Value.category]; done) | rfl
set_option maxRecDepth 65536 in
set_option maxHeartbeats 40000000 in
theorem rmSa_1_0_0 (l : Launch) (Z : State) (a0 : Array Value) (hw : ∀ d ∈ tables_1, d.before a0 Z = true) (w : Addr) (x : Int64) (y : Int64) (w_times : Addr) (w_collected : Addr) (kt kc : ClassId) (s0 d0 : Int64) (h0 : Heap) (n0 : Nat) (Zs : n0 ≤ h0.size) (hW : HwW Z h0 w w_times w_collected (0 : Int32) (0 : Int32)) (V_t : Arv Z h0 w_times kt .long (1 : Int32) [(.long s0)] (.long (0 : Int64))) (V_c : Arv Z h0 w_collected kc .long (1 : Int32) [(.long d0)] (.long (0 : Int64))) (ntc : w_times ≠ w_collected) (g_w : n0 ≤ w) (g_w_times : n0 ≤ w_times) (g_w_collected : n0 ≤ w_collected) (hN : (x - x).toInt < 68719476736) (hC : 0 ≤ (y - y).toInt) (hC2 : (y - y).toInt < 1000000) :
    Con l Z (⟨"com/example/indenture/indenture/app/HeapWatch", "sample", "(JJ)Z"⟩ : MethodName) prog_1_method_2_code 10 (some .boolean) [] ({ frames := 1, cells := 0, slots := 0, locals := 20 } : Room) n0 #[(.ref w), (.long x), (.long y)] h0 (fun v h => v = some (.int (sm (x - x) (y - y))) ∧ Keep h0 h [w, w_times, w_collected] ∧ HwW Z h w w_times w_collected (0 : Int32) (1 : Int32) ∧ Arv Z h w_times kt .long (1 : Int32) [(.long x)] (.long (0 : Int64)) ∧ Arv Z h w_collected kc .long (1 : Int32) [(.long y)] (.long (0 : Int64))) := by
  refine Con.of (plainFor_of_name pn_q0) (ef_rmSa_1_0_0 w x y) ?_
  intro K C
  replace C : Ok Z "com/example/indenture/indenture/app/HeapWatch" "sample" prog_1_method_2_code 10 (some .boolean) K := C
  have KP := Keep.refl h0 [w, w_times, w_collected]
  obtain ⟨E_w, F_w_times, F_w_collected, F_w_oldest, F_w_count⟩ := hW
  have nwt : w ≠ w_times := exaArvNe E_w (hw _ (List.mem_of_getElem? (i := 5) rfl)) V_t
  have nwc : w ≠ w_collected := exaArvNe E_w (hw _ (List.mem_of_getElem? (i := 5) rfl)) V_c
  refine r_aloadN C 1 dsa_0 rfl rfl rfl ?_
  refine r_getfield C 4 (host := "") (Or.inl (hw _ (List.mem_of_getElem? (i := 22) rfl))) Via.refl F_w_count dsa_1 rfl ?_
  refine r_aloadN C 5 dsa_4 rfl rfl rfl ?_
  refine r_getfield C 8 (host := "") (Or.inl (hw _ (List.mem_of_getElem? (i := 13) rfl))) Via.refl F_w_times dsa_5 rfl ?_
  refine r_arraylength C 9 V_t dsa_8 rfl ?_
  refine r_icmp_ne C 16 12 dsa_9 (by decide) (by decide) rfl (fun _ => ?_) (fun q => absurd q (by decide))
  refine r_aloadN C 17 dsa_16 rfl rfl rfl ?_
  refine r_getfield C 20 (host := "") (Or.inl (hw _ (List.mem_of_getElem? (i := 24) rfl))) Via.refl F_w_oldest dsa_17 rfl ?_
  refine r_aloadN C 21 dsa_20 rfl rfl rfl ?_
  refine r_getfield C 24 (host := "") (Or.inl (hw _ (List.mem_of_getElem? (i := 22) rfl))) Via.refl F_w_count dsa_21 rfl ?_
  refine r_iadd C 25 dsa_24 rfl ?_
  show Run _ _ _ _ _ _ _ _ 25 #[.val (.ref w), .val (.long x), .second, .val (.long y), .second, .unset, .unset, .unset, .unset, .unset] [(.int (0 : Int32))]
  refine r_aloadN C 26 dsa_25 rfl rfl rfl ?_
  refine r_getfield C 29 (host := "") (Or.inl (hw _ (List.mem_of_getElem? (i := 13) rfl))) Via.refl F_w_times dsa_26 rfl ?_
  refine r_arraylength C 30 V_t dsa_29 rfl ?_
  refine r_irem C 31 dsa_30 rfl (by first | decide | assumption) ?_
  show Run _ _ _ _ _ _ _ _ 31 #[.val (.ref w), .val (.long x), .second, .val (.long y), .second, .unset, .unset, .unset, .unset, .unset] [(.int (0 : Int32))]
  refine r_istore C 33 #[.val (.ref w), .val (.long x), .second, .val (.long y), .second, .val (.int (0 : Int32)), .unset, .unset, .unset, .unset] dsa_31 rfl rfl ?_
  refine r_aloadN C 34 dsa_33 rfl rfl rfl ?_
  refine r_getfield C 37 (host := "") (Or.inl (hw _ (List.mem_of_getElem? (i := 13) rfl))) Via.refl F_w_times dsa_34 rfl ?_
  refine r_iload C 39 dsa_37 rfl rfl ?_
  refine r_lloadN C 40 dsa_39 rfl rfl ?_
  refine r_lastore C 41 V_t ⟨by decide, by decide⟩ (Nat.le_of_ble_eq_true rfl) dsa_40 rfl g_w_times ?_
  intro h1 W1 V1
  replace E_w := E_w.wr W1
  replace F_w_times := Fld.other W1 F_w_times (Or.inl nwt)
  replace F_w_collected := Fld.other W1 F_w_collected (Or.inl nwt)
  replace F_w_oldest := Fld.other W1 F_w_oldest (Or.inl nwt)
  replace F_w_count := Fld.other W1 F_w_count (Or.inl nwt)
  replace V_c := V_c.other W1 (Ne.symm ntc)
  replace Zs := Nat.le_trans Zs (Nat.le_of_eq W1.size.symm)
  replace KP := KP.wr W1 (Or.inl (List.mem_of_getElem? (i := 1) rfl))
  replace V_t : Arv Z h1 w_times kt .long (1 : Int32) [(.long x)] (.long (0 : Int64)) := V1
  refine r_aloadN C 42 dsa_41 rfl rfl rfl ?_
  refine r_getfield C 45 (host := "") (Or.inl (hw _ (List.mem_of_getElem? (i := 15) rfl))) Via.refl F_w_collected dsa_42 rfl ?_
  refine r_iload C 47 dsa_45 rfl rfl ?_
  refine r_lloadN C 48 dsa_47 rfl rfl ?_
  refine r_lastore C 49 V_c ⟨by decide, by decide⟩ (Nat.le_of_ble_eq_true rfl) dsa_48 rfl g_w_collected ?_
  intro h2 W2 V2
  replace E_w := E_w.wr W2
  replace F_w_times := Fld.other W2 F_w_times (Or.inl nwc)
  replace F_w_collected := Fld.other W2 F_w_collected (Or.inl nwc)
  replace F_w_oldest := Fld.other W2 F_w_oldest (Or.inl nwc)
  replace F_w_count := Fld.other W2 F_w_count (Or.inl nwc)
  replace V_t := V_t.other W2 ntc
  replace Zs := Nat.le_trans Zs (Nat.le_of_eq W2.size.symm)
  replace KP := KP.wr W2 (Or.inl (List.mem_of_getElem? (i := 2) rfl))
  replace V_c : Arv Z h2 w_collected kc .long (1 : Int32) [(.long y)] (.long (0 : Int64)) := V2
  refine r_aloadN C 50 dsa_49 rfl rfl rfl ?_
  refine r_dup C 51 dsa_50 rfl rfl ?_
  refine r_getfield C 54 (host := "") (Or.inl (hw _ (List.mem_of_getElem? (i := 22) rfl))) Via.refl F_w_count dsa_51 rfl ?_
  refine r_iconst C 55 (1 : Int32) dsa_54 rfl rfl ?_
  refine r_iadd C 56 dsa_55 rfl ?_
  show Run _ _ _ _ _ _ _ _ 56 #[.val (.ref w), .val (.long x), .second, .val (.long y), .second, .val (.int (0 : Int32)), .unset, .unset, .unset, .unset] [(.int (1 : Int32)), (.ref w)]
  refine r_putfield C 59 (host := "") (Or.inl (hw _ (List.mem_of_getElem? (i := 22) rfl))) Via.refl F_w_count E_w (Or.inl (hw _ (List.mem_of_getElem? (i := 23) rfl))) (hw _ (List.mem_of_getElem? (i := 5) rfl)) (ty := .int) (by decide) rfl rfl dsa_56 rfl g_w ?_
  intro h3 W3
  replace E_w := E_w.wr W3
  replace F_w_times := Fld.other W3 F_w_times (Or.inr (slot_ne (Or.inr (hw _ (List.mem_of_getElem? (i := 14) rfl))) (Or.inl (hw _ (List.mem_of_getElem? (i := 23) rfl))) (by decide) (t := (.array .long)) (t' := .int) (by decide) (by decide)))
  replace F_w_collected := Fld.other W3 F_w_collected (Or.inr (slot_ne (Or.inr (hw _ (List.mem_of_getElem? (i := 16) rfl))) (Or.inl (hw _ (List.mem_of_getElem? (i := 23) rfl))) (by decide) (t := (.array .long)) (t' := .int) (by decide) (by decide)))
  replace F_w_oldest := Fld.other W3 F_w_oldest (Or.inr (slot_ne (Or.inl (hw _ (List.mem_of_getElem? (i := 25) rfl))) (Or.inl (hw _ (List.mem_of_getElem? (i := 23) rfl))) (by decide) (t := .int) (t' := .int) (by decide) (by decide)))
  replace V_t := V_t.other W3 (Ne.symm nwt)
  replace V_c := V_c.other W3 (Ne.symm nwc)
  replace F_w_count := F_w_count.same W3
  replace Zs := Nat.le_trans Zs (Nat.le_of_eq W3.size.symm)
  replace KP := KP.wr W3 (Or.inl (List.mem_of_getElem? (i := 0) rfl))
  refine r_aloadN C 60 dsa_59 rfl rfl rfl ?_
  refine r_getfield C 63 (host := "") (Or.inl (hw _ (List.mem_of_getElem? (i := 22) rfl))) Via.refl F_w_count dsa_60 rfl ?_
  refine r_iconst C 64 (1 : Int32) dsa_63 rfl rfl ?_
  refine r_icmp_le C 100 67 dsa_64 (by decide) (by decide) rfl (fun _ => ?_) (fun q => absurd q (by decide))
  refine r_lloadN C 101 dsa_100 rfl rfl ?_
  refine r_aloadN C 102 dsa_101 rfl rfl rfl ?_
  refine r_getfield C 105 (host := "") (Or.inl (hw _ (List.mem_of_getElem? (i := 13) rfl))) Via.refl F_w_times dsa_102 rfl ?_
  refine r_aloadN C 106 dsa_105 rfl rfl rfl ?_
  refine r_getfield C 109 (host := "") (Or.inl (hw _ (List.mem_of_getElem? (i := 24) rfl))) Via.refl F_w_oldest dsa_106 rfl ?_
  refine r_laload C 110 (v := (.long x)) V_t ⟨by decide, by decide⟩ rfl dsa_109 rfl ?_
  refine r_lsub C 111 dsa_110 rfl ?_
  refine r_lstore C 113 #[.val (.ref w), .val (.long x), .second, .val (.long y), .second, .val (.int (0 : Int32)), .val (.long (x - x)), .second, .unset, .unset] dsa_111 rfl rfl ?_
  refine r_lloadN C 114 dsa_113 rfl rfl ?_
  refine r_aloadN C 115 dsa_114 rfl rfl rfl ?_
  refine r_getfield C 118 (host := "") (Or.inl (hw _ (List.mem_of_getElem? (i := 15) rfl))) Via.refl F_w_collected dsa_115 rfl ?_
  refine r_aloadN C 119 dsa_118 rfl rfl rfl ?_
  refine r_getfield C 122 (host := "") (Or.inl (hw _ (List.mem_of_getElem? (i := 24) rfl))) Via.refl F_w_oldest dsa_119 rfl ?_
  refine r_laload C 123 (v := (.long y)) V_c ⟨by decide, by decide⟩ rfl dsa_122 rfl ?_
  refine r_lsub C 124 dsa_123 rfl ?_
  refine r_lstore C 126 #[.val (.ref w), .val (.long x), .second, .val (.long y), .second, .val (.int (0 : Int32)), .val (.long (x - x)), .second, .val (.long (y - y)), .second] dsa_124 rfl rfl ?_
  refine r_lload C 128 dsa_126 rfl rfl ?_
  refine r_ldc2_w C 131 dsa_128 rfl (hw _ (List.mem_of_getElem? (i := 26) rfl)) ?_
  refine r_lcmp_lt C 132 157 135 dsa_131 rfl dsa_132 (by decide) (by decide) rfl ?_ ?_
  · intro q1
    refine r_iconst C 158 (0 : Int32) dsa_157 rfl rfl ?_
    exact r_nreturn C (0 : Int32) rfl (t := .boolean) (by simp) rfl dsa_158 (by decide) (by decide) ⟨by rw [sm, if_pos q1], KP, ⟨E_w, F_w_times, F_w_collected, F_w_oldest, F_w_count⟩, V_t, V_c⟩
  · intro q1
    refine r_lload C 137 dsa_135 rfl rfl ?_
    refine r_l2d C 138 dsa_137 rfl ?_
    refine r_ldc2D C 141 dsa_138 rfl (hw _ (List.mem_of_getElem? (i := 31) rfl)) ?_
    refine r_dmul C 142 dsa_141 rfl (own_nn1 _) ?_
    refine r_ldc2D C 145 dsa_142 rfl (hw _ (List.mem_of_getElem? (i := 32) rfl)) ?_
    refine r_lload C 147 dsa_145 rfl rfl ?_
    refine r_l2d C 148 dsa_147 rfl ?_
    refine r_dmul C 149 dsa_148 rfl (own_nn2 _) ?_
    refine r_dcmpl C 150 dsa_149 rfl ?_
    have cw := OwnF.cmp09 hC hC2 (own_ge q1) hN
    refine r_if_lt C 157 153 dsa_150 (by decide) (by decide) rfl ?_ ?_
    · intro q2
      refine r_iconst C 158 (0 : Int32) dsa_157 rfl rfl ?_
      exact r_nreturn C (0 : Int32) rfl (t := .boolean) (by simp) rfl dsa_158 (by decide) (by decide) ⟨by rw [sm, if_neg q1, if_pos (cw.mp q2)], KP, ⟨E_w, F_w_times, F_w_collected, F_w_oldest, F_w_count⟩, V_t, V_c⟩
    · intro q2
      refine r_iconst C 154 (1 : Int32) dsa_153 rfl rfl ?_
      refine r_goto C 158 dsa_154 (by decide) (by decide) ?_
      exact r_nreturn C (1 : Int32) rfl (t := .boolean) (by simp) rfl dsa_158 (by decide) (by decide) ⟨by rw [sm, if_neg q1, if_neg (fun z => q2 (cw.mpr z))], KP, ⟨E_w, F_w_times, F_w_collected, F_w_oldest, F_w_count⟩, V_t, V_c⟩
theorem ef_rmSa_1_0_1 (w : Addr) (x : Int64) (y : Int64) : ∀ mI_, entryFrame mI_ #[(.ref w), (.long x), (.long y)] 10 = mkF mI_ 0 #[.val (.ref w), .val (.long x), .second, .val (.long y), .second, .unset, .unset, .unset, .unset, .unset] [] := fun mI_ => by first | (simp [entryFrame, mkF, argsToLocals, Value.category]; done) | rfl
set_option maxRecDepth 65536 in
set_option maxHeartbeats 40000000 in
theorem rmSa_1_0_1 (l : Launch) (Z : State) (a0 : Array Value) (hw : ∀ d ∈ tables_1, d.before a0 Z = true) (w : Addr) (x : Int64) (y : Int64) (w_times : Addr) (w_collected : Addr) (kt kc : ClassId) (s0 d0 : Int64) (h0 : Heap) (n0 : Nat) (Zs : n0 ≤ h0.size) (hW : HwW Z h0 w w_times w_collected (0 : Int32) (1 : Int32)) (V_t : Arv Z h0 w_times kt .long (1 : Int32) [(.long s0)] (.long (0 : Int64))) (V_c : Arv Z h0 w_collected kc .long (1 : Int32) [(.long d0)] (.long (0 : Int64))) (ntc : w_times ≠ w_collected) (g_w : n0 ≤ w) (g_w_times : n0 ≤ w_times) (g_w_collected : n0 ≤ w_collected) (hN : (x - x).toInt < 68719476736) (hC : 0 ≤ (y - y).toInt) (hC2 : (y - y).toInt < 1000000) :
    Con l Z (⟨"com/example/indenture/indenture/app/HeapWatch", "sample", "(JJ)Z"⟩ : MethodName) prog_1_method_2_code 10 (some .boolean) [] ({ frames := 1, cells := 0, slots := 0, locals := 20 } : Room) n0 #[(.ref w), (.long x), (.long y)] h0 (fun v h => v = some (.int (sm (x - x) (y - y))) ∧ Keep h0 h [w, w_times, w_collected] ∧ HwW Z h w w_times w_collected (0 : Int32) (1 : Int32) ∧ Arv Z h w_times kt .long (1 : Int32) [(.long x)] (.long (0 : Int64)) ∧ Arv Z h w_collected kc .long (1 : Int32) [(.long y)] (.long (0 : Int64))) := by
  refine Con.of (plainFor_of_name pn_q0) (ef_rmSa_1_0_1 w x y) ?_
  intro K C
  replace C : Ok Z "com/example/indenture/indenture/app/HeapWatch" "sample" prog_1_method_2_code 10 (some .boolean) K := C
  have KP := Keep.refl h0 [w, w_times, w_collected]
  obtain ⟨E_w, F_w_times, F_w_collected, F_w_oldest, F_w_count⟩ := hW
  have nwt : w ≠ w_times := exaArvNe E_w (hw _ (List.mem_of_getElem? (i := 5) rfl)) V_t
  have nwc : w ≠ w_collected := exaArvNe E_w (hw _ (List.mem_of_getElem? (i := 5) rfl)) V_c
  refine r_aloadN C 1 dsa_0 rfl rfl rfl ?_
  refine r_getfield C 4 (host := "") (Or.inl (hw _ (List.mem_of_getElem? (i := 22) rfl))) Via.refl F_w_count dsa_1 rfl ?_
  refine r_aloadN C 5 dsa_4 rfl rfl rfl ?_
  refine r_getfield C 8 (host := "") (Or.inl (hw _ (List.mem_of_getElem? (i := 13) rfl))) Via.refl F_w_times dsa_5 rfl ?_
  refine r_arraylength C 9 V_t dsa_8 rfl ?_
  refine r_icmp_ne C 16 12 dsa_9 (by decide) (by decide) rfl (fun q => absurd q (by decide)) (fun _ => ?_)
  refine r_aloadN C 13 dsa_12 rfl rfl rfl ?_
  refine r_callP C 16 (y := (⟨"com/example/indenture/indenture/app/HeapWatch", "drop", "()V"⟩ : MethodName)) (a := w) [] [] (rmDr l Z a0 hw w w_times w_collected (0 : Int32) (1 : Int32) kt (1 : Int32) _ h0 n0 Zs ⟨E_w, F_w_times, F_w_collected, F_w_oldest, F_w_count⟩ V_t (by decide) g_w) (hw _ (List.mem_of_getElem? (i := 27) rfl)) (hw _ (List.mem_of_getElem? (i := 28) rfl)) (selPriv (hw _ (List.mem_of_getElem? (i := 5) rfl)) (hw _ (List.mem_of_getElem? (i := 29) rfl)) (hw _ (List.mem_of_getElem? (i := 28) rfl)) (by decide)) (hw _ (List.mem_of_getElem? (i := 29) rfl)) (hw _ (List.mem_of_getElem? (i := 6) rfl)) (hw _ (List.mem_of_getElem? (i := 30) rfl)) E_w.cell (by decide) (lenOf pd___V rfl) rfl rfl (by decide) (Nat.le_of_ble_eq_true rfl) (by decide) (by decide) rfl dsa_13 rfl ?_
  intro v1 h1 q1 z1
  obtain ⟨rfl, K1, hW⟩ := q1
  replace hW : HwW Z h1 w w_times w_collected (0 : Int32) (0 : Int32) := hW
  replace E_w := E_w.keep K1
  replace V_t := V_t.keep K1 (ninS (Ne.symm nwt) nin0)
  replace V_c := V_c.keep K1 (ninS (Ne.symm nwc) nin0)
  replace KP := KP.trans K1 (allS (Or.inl (List.mem_of_getElem? (i := 0) rfl)) all0)
  replace Zs := Nat.le_trans Zs K1.1
  obtain ⟨E_w, F_w_times, F_w_collected, F_w_oldest, F_w_count⟩ := hW
  show Run _ _ _ _ _ _ _ _ 16 #[.val (.ref w), .val (.long x), .second, .val (.long y), .second, .unset, .unset, .unset, .unset, .unset] []
  refine r_aloadN C 17 dsa_16 rfl rfl rfl ?_
  refine r_getfield C 20 (host := "") (Or.inl (hw _ (List.mem_of_getElem? (i := 24) rfl))) Via.refl F_w_oldest dsa_17 rfl ?_
  refine r_aloadN C 21 dsa_20 rfl rfl rfl ?_
  refine r_getfield C 24 (host := "") (Or.inl (hw _ (List.mem_of_getElem? (i := 22) rfl))) Via.refl F_w_count dsa_21 rfl ?_
  refine r_iadd C 25 dsa_24 rfl ?_
  show Run _ _ _ _ _ _ _ _ 25 #[.val (.ref w), .val (.long x), .second, .val (.long y), .second, .unset, .unset, .unset, .unset, .unset] [(.int (0 : Int32))]
  refine r_aloadN C 26 dsa_25 rfl rfl rfl ?_
  refine r_getfield C 29 (host := "") (Or.inl (hw _ (List.mem_of_getElem? (i := 13) rfl))) Via.refl F_w_times dsa_26 rfl ?_
  refine r_arraylength C 30 V_t dsa_29 rfl ?_
  refine r_irem C 31 dsa_30 rfl (by first | decide | assumption) ?_
  show Run _ _ _ _ _ _ _ _ 31 #[.val (.ref w), .val (.long x), .second, .val (.long y), .second, .unset, .unset, .unset, .unset, .unset] [(.int (0 : Int32))]
  refine r_istore C 33 #[.val (.ref w), .val (.long x), .second, .val (.long y), .second, .val (.int (0 : Int32)), .unset, .unset, .unset, .unset] dsa_31 rfl rfl ?_
  refine r_aloadN C 34 dsa_33 rfl rfl rfl ?_
  refine r_getfield C 37 (host := "") (Or.inl (hw _ (List.mem_of_getElem? (i := 13) rfl))) Via.refl F_w_times dsa_34 rfl ?_
  refine r_iload C 39 dsa_37 rfl rfl ?_
  refine r_lloadN C 40 dsa_39 rfl rfl ?_
  refine r_lastore C 41 V_t ⟨by decide, by decide⟩ (Nat.le_of_ble_eq_true rfl) dsa_40 rfl g_w_times ?_
  intro h2 W2 V2
  replace E_w := E_w.wr W2
  replace V_c := V_c.other W2 (Ne.symm ntc)
  replace F_w_times := Fld.other W2 F_w_times (Or.inl nwt)
  replace F_w_collected := Fld.other W2 F_w_collected (Or.inl nwt)
  replace F_w_oldest := Fld.other W2 F_w_oldest (Or.inl nwt)
  replace F_w_count := Fld.other W2 F_w_count (Or.inl nwt)
  replace Zs := Nat.le_trans Zs (Nat.le_of_eq W2.size.symm)
  replace KP := KP.wr W2 (Or.inl (List.mem_of_getElem? (i := 1) rfl))
  replace V_t : Arv Z h2 w_times kt .long (1 : Int32) [(.long x)] (.long (0 : Int64)) := V2
  refine r_aloadN C 42 dsa_41 rfl rfl rfl ?_
  refine r_getfield C 45 (host := "") (Or.inl (hw _ (List.mem_of_getElem? (i := 15) rfl))) Via.refl F_w_collected dsa_42 rfl ?_
  refine r_iload C 47 dsa_45 rfl rfl ?_
  refine r_lloadN C 48 dsa_47 rfl rfl ?_
  refine r_lastore C 49 V_c ⟨by decide, by decide⟩ (Nat.le_of_ble_eq_true rfl) dsa_48 rfl g_w_collected ?_
  intro h3 W3 V3
  replace E_w := E_w.wr W3
  replace V_t := V_t.other W3 ntc
  replace F_w_times := Fld.other W3 F_w_times (Or.inl nwc)
  replace F_w_collected := Fld.other W3 F_w_collected (Or.inl nwc)
  replace F_w_oldest := Fld.other W3 F_w_oldest (Or.inl nwc)
  replace F_w_count := Fld.other W3 F_w_count (Or.inl nwc)
  replace Zs := Nat.le_trans Zs (Nat.le_of_eq W3.size.symm)
  replace KP := KP.wr W3 (Or.inl (List.mem_of_getElem? (i := 2) rfl))
  replace V_c : Arv Z h3 w_collected kc .long (1 : Int32) [(.long y)] (.long (0 : Int64)) := V3
  refine r_aloadN C 50 dsa_49 rfl rfl rfl ?_
  refine r_dup C 51 dsa_50 rfl rfl ?_
  refine r_getfield C 54 (host := "") (Or.inl (hw _ (List.mem_of_getElem? (i := 22) rfl))) Via.refl F_w_count dsa_51 rfl ?_
  refine r_iconst C 55 (1 : Int32) dsa_54 rfl rfl ?_
  refine r_iadd C 56 dsa_55 rfl ?_
  show Run _ _ _ _ _ _ _ _ 56 #[.val (.ref w), .val (.long x), .second, .val (.long y), .second, .val (.int (0 : Int32)), .unset, .unset, .unset, .unset] [(.int (1 : Int32)), (.ref w)]
  refine r_putfield C 59 (host := "") (Or.inl (hw _ (List.mem_of_getElem? (i := 22) rfl))) Via.refl F_w_count E_w (Or.inl (hw _ (List.mem_of_getElem? (i := 23) rfl))) (hw _ (List.mem_of_getElem? (i := 5) rfl)) (ty := .int) (by decide) rfl rfl dsa_56 rfl g_w ?_
  intro h4 W4
  replace E_w := E_w.wr W4
  replace V_t := V_t.other W4 (Ne.symm nwt)
  replace V_c := V_c.other W4 (Ne.symm nwc)
  replace F_w_times := Fld.other W4 F_w_times (Or.inr (slot_ne (Or.inr (hw _ (List.mem_of_getElem? (i := 14) rfl))) (Or.inl (hw _ (List.mem_of_getElem? (i := 23) rfl))) (by decide) (t := (.array .long)) (t' := .int) (by decide) (by decide)))
  replace F_w_collected := Fld.other W4 F_w_collected (Or.inr (slot_ne (Or.inr (hw _ (List.mem_of_getElem? (i := 16) rfl))) (Or.inl (hw _ (List.mem_of_getElem? (i := 23) rfl))) (by decide) (t := (.array .long)) (t' := .int) (by decide) (by decide)))
  replace F_w_oldest := Fld.other W4 F_w_oldest (Or.inr (slot_ne (Or.inl (hw _ (List.mem_of_getElem? (i := 25) rfl))) (Or.inl (hw _ (List.mem_of_getElem? (i := 23) rfl))) (by decide) (t := .int) (t' := .int) (by decide) (by decide)))
  replace F_w_count := F_w_count.same W4
  replace Zs := Nat.le_trans Zs (Nat.le_of_eq W4.size.symm)
  replace KP := KP.wr W4 (Or.inl (List.mem_of_getElem? (i := 0) rfl))
  refine r_aloadN C 60 dsa_59 rfl rfl rfl ?_
  refine r_getfield C 63 (host := "") (Or.inl (hw _ (List.mem_of_getElem? (i := 22) rfl))) Via.refl F_w_count dsa_60 rfl ?_
  refine r_iconst C 64 (1 : Int32) dsa_63 rfl rfl ?_
  refine r_icmp_le C 100 67 dsa_64 (by decide) (by decide) rfl (fun _ => ?_) (fun q => absurd q (by decide))
  refine r_lloadN C 101 dsa_100 rfl rfl ?_
  refine r_aloadN C 102 dsa_101 rfl rfl rfl ?_
  refine r_getfield C 105 (host := "") (Or.inl (hw _ (List.mem_of_getElem? (i := 13) rfl))) Via.refl F_w_times dsa_102 rfl ?_
  refine r_aloadN C 106 dsa_105 rfl rfl rfl ?_
  refine r_getfield C 109 (host := "") (Or.inl (hw _ (List.mem_of_getElem? (i := 24) rfl))) Via.refl F_w_oldest dsa_106 rfl ?_
  refine r_laload C 110 (v := (.long x)) V_t ⟨by decide, by decide⟩ rfl dsa_109 rfl ?_
  refine r_lsub C 111 dsa_110 rfl ?_
  refine r_lstore C 113 #[.val (.ref w), .val (.long x), .second, .val (.long y), .second, .val (.int (0 : Int32)), .val (.long (x - x)), .second, .unset, .unset] dsa_111 rfl rfl ?_
  refine r_lloadN C 114 dsa_113 rfl rfl ?_
  refine r_aloadN C 115 dsa_114 rfl rfl rfl ?_
  refine r_getfield C 118 (host := "") (Or.inl (hw _ (List.mem_of_getElem? (i := 15) rfl))) Via.refl F_w_collected dsa_115 rfl ?_
  refine r_aloadN C 119 dsa_118 rfl rfl rfl ?_
  refine r_getfield C 122 (host := "") (Or.inl (hw _ (List.mem_of_getElem? (i := 24) rfl))) Via.refl F_w_oldest dsa_119 rfl ?_
  refine r_laload C 123 (v := (.long y)) V_c ⟨by decide, by decide⟩ rfl dsa_122 rfl ?_
  refine r_lsub C 124 dsa_123 rfl ?_
  refine r_lstore C 126 #[.val (.ref w), .val (.long x), .second, .val (.long y), .second, .val (.int (0 : Int32)), .val (.long (x - x)), .second, .val (.long (y - y)), .second] dsa_124 rfl rfl ?_
  refine r_lload C 128 dsa_126 rfl rfl ?_
  refine r_ldc2_w C 131 dsa_128 rfl (hw _ (List.mem_of_getElem? (i := 26) rfl)) ?_
  refine r_lcmp_lt C 132 157 135 dsa_131 rfl dsa_132 (by decide) (by decide) rfl ?_ ?_
  · intro q1
    refine r_iconst C 158 (0 : Int32) dsa_157 rfl rfl ?_
    exact r_nreturn C (0 : Int32) rfl (t := .boolean) (by simp) rfl dsa_158 (by decide) (by decide) ⟨by rw [sm, if_pos q1], KP, ⟨E_w, F_w_times, F_w_collected, F_w_oldest, F_w_count⟩, V_t, V_c⟩
  · intro q1
    refine r_lload C 137 dsa_135 rfl rfl ?_
    refine r_l2d C 138 dsa_137 rfl ?_
    refine r_ldc2D C 141 dsa_138 rfl (hw _ (List.mem_of_getElem? (i := 31) rfl)) ?_
    refine r_dmul C 142 dsa_141 rfl (own_nn1 _) ?_
    refine r_ldc2D C 145 dsa_142 rfl (hw _ (List.mem_of_getElem? (i := 32) rfl)) ?_
    refine r_lload C 147 dsa_145 rfl rfl ?_
    refine r_l2d C 148 dsa_147 rfl ?_
    refine r_dmul C 149 dsa_148 rfl (own_nn2 _) ?_
    refine r_dcmpl C 150 dsa_149 rfl ?_
    have cw := OwnF.cmp09 hC hC2 (own_ge q1) hN
    refine r_if_lt C 157 153 dsa_150 (by decide) (by decide) rfl ?_ ?_
    · intro q2
      refine r_iconst C 158 (0 : Int32) dsa_157 rfl rfl ?_
      exact r_nreturn C (0 : Int32) rfl (t := .boolean) (by simp) rfl dsa_158 (by decide) (by decide) ⟨by rw [sm, if_neg q1, if_pos (cw.mp q2)], KP, ⟨E_w, F_w_times, F_w_collected, F_w_oldest, F_w_count⟩, V_t, V_c⟩
    · intro q2
      refine r_iconst C 154 (1 : Int32) dsa_153 rfl rfl ?_
      refine r_goto C 158 dsa_154 (by decide) (by decide) ?_
      exact r_nreturn C (1 : Int32) rfl (t := .boolean) (by simp) rfl dsa_158 (by decide) (by decide) ⟨by rw [sm, if_neg q1, if_neg (fun z => q2 (cw.mpr z))], KP, ⟨E_w, F_w_times, F_w_collected, F_w_oldest, F_w_count⟩, V_t, V_c⟩
theorem ef_rmSa_2_0_0 (w : Addr) (x : Int64) (y : Int64) : ∀ mI_, entryFrame mI_ #[(.ref w), (.long x), (.long y)] 10 = mkF mI_ 0 #[.val (.ref w), .val (.long x), .second, .val (.long y), .second, .unset, .unset, .unset, .unset, .unset] [] := fun mI_ => by first | (simp [entryFrame, mkF, argsToLocals, Value.category]; done) | rfl
set_option maxRecDepth 65536 in
set_option maxHeartbeats 40000000 in
theorem rmSa_2_0_0 (l : Launch) (Z : State) (a0 : Array Value) (hw : ∀ d ∈ tables_1, d.before a0 Z = true) (w : Addr) (x : Int64) (y : Int64) (w_times : Addr) (w_collected : Addr) (kt kc : ClassId) (s0 s1 d0 d1 : Int64) (h0 : Heap) (n0 : Nat) (Zs : n0 ≤ h0.size) (hW : HwW Z h0 w w_times w_collected (0 : Int32) (0 : Int32)) (V_t : Arv Z h0 w_times kt .long (2 : Int32) [(.long s0), (.long s1)] (.long (0 : Int64))) (V_c : Arv Z h0 w_collected kc .long (2 : Int32) [(.long d0), (.long d1)] (.long (0 : Int64))) (ntc : w_times ≠ w_collected) (g_w : n0 ≤ w) (g_w_times : n0 ≤ w_times) (g_w_collected : n0 ≤ w_collected) (hN : (x - x).toInt < 68719476736) (hC : 0 ≤ (y - y).toInt) (hC2 : (y - y).toInt < 1000000) :
    Con l Z (⟨"com/example/indenture/indenture/app/HeapWatch", "sample", "(JJ)Z"⟩ : MethodName) prog_1_method_2_code 10 (some .boolean) [] ({ frames := 1, cells := 0, slots := 0, locals := 20 } : Room) n0 #[(.ref w), (.long x), (.long y)] h0 (fun v h => v = some (.int (sm (x - x) (y - y))) ∧ Keep h0 h [w, w_times, w_collected] ∧ HwW Z h w w_times w_collected (0 : Int32) (1 : Int32) ∧ Arv Z h w_times kt .long (2 : Int32) [(.long x), (.long s1)] (.long (0 : Int64)) ∧ Arv Z h w_collected kc .long (2 : Int32) [(.long y), (.long d1)] (.long (0 : Int64))) := by
  refine Con.of (plainFor_of_name pn_q0) (ef_rmSa_2_0_0 w x y) ?_
  intro K C
  replace C : Ok Z "com/example/indenture/indenture/app/HeapWatch" "sample" prog_1_method_2_code 10 (some .boolean) K := C
  have KP := Keep.refl h0 [w, w_times, w_collected]
  obtain ⟨E_w, F_w_times, F_w_collected, F_w_oldest, F_w_count⟩ := hW
  have nwt : w ≠ w_times := exaArvNe E_w (hw _ (List.mem_of_getElem? (i := 5) rfl)) V_t
  have nwc : w ≠ w_collected := exaArvNe E_w (hw _ (List.mem_of_getElem? (i := 5) rfl)) V_c
  refine r_aloadN C 1 dsa_0 rfl rfl rfl ?_
  refine r_getfield C 4 (host := "") (Or.inl (hw _ (List.mem_of_getElem? (i := 22) rfl))) Via.refl F_w_count dsa_1 rfl ?_
  refine r_aloadN C 5 dsa_4 rfl rfl rfl ?_
  refine r_getfield C 8 (host := "") (Or.inl (hw _ (List.mem_of_getElem? (i := 13) rfl))) Via.refl F_w_times dsa_5 rfl ?_
  refine r_arraylength C 9 V_t dsa_8 rfl ?_
  refine r_icmp_ne C 16 12 dsa_9 (by decide) (by decide) rfl (fun _ => ?_) (fun q => absurd q (by decide))
  refine r_aloadN C 17 dsa_16 rfl rfl rfl ?_
  refine r_getfield C 20 (host := "") (Or.inl (hw _ (List.mem_of_getElem? (i := 24) rfl))) Via.refl F_w_oldest dsa_17 rfl ?_
  refine r_aloadN C 21 dsa_20 rfl rfl rfl ?_
  refine r_getfield C 24 (host := "") (Or.inl (hw _ (List.mem_of_getElem? (i := 22) rfl))) Via.refl F_w_count dsa_21 rfl ?_
  refine r_iadd C 25 dsa_24 rfl ?_
  show Run _ _ _ _ _ _ _ _ 25 #[.val (.ref w), .val (.long x), .second, .val (.long y), .second, .unset, .unset, .unset, .unset, .unset] [(.int (0 : Int32))]
  refine r_aloadN C 26 dsa_25 rfl rfl rfl ?_
  refine r_getfield C 29 (host := "") (Or.inl (hw _ (List.mem_of_getElem? (i := 13) rfl))) Via.refl F_w_times dsa_26 rfl ?_
  refine r_arraylength C 30 V_t dsa_29 rfl ?_
  refine r_irem C 31 dsa_30 rfl (by first | decide | assumption) ?_
  show Run _ _ _ _ _ _ _ _ 31 #[.val (.ref w), .val (.long x), .second, .val (.long y), .second, .unset, .unset, .unset, .unset, .unset] [(.int (0 : Int32))]
  refine r_istore C 33 #[.val (.ref w), .val (.long x), .second, .val (.long y), .second, .val (.int (0 : Int32)), .unset, .unset, .unset, .unset] dsa_31 rfl rfl ?_
  refine r_aloadN C 34 dsa_33 rfl rfl rfl ?_
  refine r_getfield C 37 (host := "") (Or.inl (hw _ (List.mem_of_getElem? (i := 13) rfl))) Via.refl F_w_times dsa_34 rfl ?_
  refine r_iload C 39 dsa_37 rfl rfl ?_
  refine r_lloadN C 40 dsa_39 rfl rfl ?_
  refine r_lastore C 41 V_t ⟨by decide, by decide⟩ (Nat.le_of_ble_eq_true rfl) dsa_40 rfl g_w_times ?_
  intro h1 W1 V1
  replace E_w := E_w.wr W1
  replace F_w_times := Fld.other W1 F_w_times (Or.inl nwt)
  replace F_w_collected := Fld.other W1 F_w_collected (Or.inl nwt)
  replace F_w_oldest := Fld.other W1 F_w_oldest (Or.inl nwt)
  replace F_w_count := Fld.other W1 F_w_count (Or.inl nwt)
  replace V_c := V_c.other W1 (Ne.symm ntc)
  replace Zs := Nat.le_trans Zs (Nat.le_of_eq W1.size.symm)
  replace KP := KP.wr W1 (Or.inl (List.mem_of_getElem? (i := 1) rfl))
  replace V_t : Arv Z h1 w_times kt .long (2 : Int32) [(.long x), (.long s1)] (.long (0 : Int64)) := V1
  refine r_aloadN C 42 dsa_41 rfl rfl rfl ?_
  refine r_getfield C 45 (host := "") (Or.inl (hw _ (List.mem_of_getElem? (i := 15) rfl))) Via.refl F_w_collected dsa_42 rfl ?_
  refine r_iload C 47 dsa_45 rfl rfl ?_
  refine r_lloadN C 48 dsa_47 rfl rfl ?_
  refine r_lastore C 49 V_c ⟨by decide, by decide⟩ (Nat.le_of_ble_eq_true rfl) dsa_48 rfl g_w_collected ?_
  intro h2 W2 V2
  replace E_w := E_w.wr W2
  replace F_w_times := Fld.other W2 F_w_times (Or.inl nwc)
  replace F_w_collected := Fld.other W2 F_w_collected (Or.inl nwc)
  replace F_w_oldest := Fld.other W2 F_w_oldest (Or.inl nwc)
  replace F_w_count := Fld.other W2 F_w_count (Or.inl nwc)
  replace V_t := V_t.other W2 ntc
  replace Zs := Nat.le_trans Zs (Nat.le_of_eq W2.size.symm)
  replace KP := KP.wr W2 (Or.inl (List.mem_of_getElem? (i := 2) rfl))
  replace V_c : Arv Z h2 w_collected kc .long (2 : Int32) [(.long y), (.long d1)] (.long (0 : Int64)) := V2
  refine r_aloadN C 50 dsa_49 rfl rfl rfl ?_
  refine r_dup C 51 dsa_50 rfl rfl ?_
  refine r_getfield C 54 (host := "") (Or.inl (hw _ (List.mem_of_getElem? (i := 22) rfl))) Via.refl F_w_count dsa_51 rfl ?_
  refine r_iconst C 55 (1 : Int32) dsa_54 rfl rfl ?_
  refine r_iadd C 56 dsa_55 rfl ?_
  show Run _ _ _ _ _ _ _ _ 56 #[.val (.ref w), .val (.long x), .second, .val (.long y), .second, .val (.int (0 : Int32)), .unset, .unset, .unset, .unset] [(.int (1 : Int32)), (.ref w)]
  refine r_putfield C 59 (host := "") (Or.inl (hw _ (List.mem_of_getElem? (i := 22) rfl))) Via.refl F_w_count E_w (Or.inl (hw _ (List.mem_of_getElem? (i := 23) rfl))) (hw _ (List.mem_of_getElem? (i := 5) rfl)) (ty := .int) (by decide) rfl rfl dsa_56 rfl g_w ?_
  intro h3 W3
  replace E_w := E_w.wr W3
  replace F_w_times := Fld.other W3 F_w_times (Or.inr (slot_ne (Or.inr (hw _ (List.mem_of_getElem? (i := 14) rfl))) (Or.inl (hw _ (List.mem_of_getElem? (i := 23) rfl))) (by decide) (t := (.array .long)) (t' := .int) (by decide) (by decide)))
  replace F_w_collected := Fld.other W3 F_w_collected (Or.inr (slot_ne (Or.inr (hw _ (List.mem_of_getElem? (i := 16) rfl))) (Or.inl (hw _ (List.mem_of_getElem? (i := 23) rfl))) (by decide) (t := (.array .long)) (t' := .int) (by decide) (by decide)))
  replace F_w_oldest := Fld.other W3 F_w_oldest (Or.inr (slot_ne (Or.inl (hw _ (List.mem_of_getElem? (i := 25) rfl))) (Or.inl (hw _ (List.mem_of_getElem? (i := 23) rfl))) (by decide) (t := .int) (t' := .int) (by decide) (by decide)))
  replace V_t := V_t.other W3 (Ne.symm nwt)
  replace V_c := V_c.other W3 (Ne.symm nwc)
  replace F_w_count := F_w_count.same W3
  replace Zs := Nat.le_trans Zs (Nat.le_of_eq W3.size.symm)
  replace KP := KP.wr W3 (Or.inl (List.mem_of_getElem? (i := 0) rfl))
  refine r_aloadN C 60 dsa_59 rfl rfl rfl ?_
  refine r_getfield C 63 (host := "") (Or.inl (hw _ (List.mem_of_getElem? (i := 22) rfl))) Via.refl F_w_count dsa_60 rfl ?_
  refine r_iconst C 64 (1 : Int32) dsa_63 rfl rfl ?_
  refine r_icmp_le C 100 67 dsa_64 (by decide) (by decide) rfl (fun _ => ?_) (fun q => absurd q (by decide))
  refine r_lloadN C 101 dsa_100 rfl rfl ?_
  refine r_aloadN C 102 dsa_101 rfl rfl rfl ?_
  refine r_getfield C 105 (host := "") (Or.inl (hw _ (List.mem_of_getElem? (i := 13) rfl))) Via.refl F_w_times dsa_102 rfl ?_
  refine r_aloadN C 106 dsa_105 rfl rfl rfl ?_
  refine r_getfield C 109 (host := "") (Or.inl (hw _ (List.mem_of_getElem? (i := 24) rfl))) Via.refl F_w_oldest dsa_106 rfl ?_
  refine r_laload C 110 (v := (.long x)) V_t ⟨by decide, by decide⟩ rfl dsa_109 rfl ?_
  refine r_lsub C 111 dsa_110 rfl ?_
  refine r_lstore C 113 #[.val (.ref w), .val (.long x), .second, .val (.long y), .second, .val (.int (0 : Int32)), .val (.long (x - x)), .second, .unset, .unset] dsa_111 rfl rfl ?_
  refine r_lloadN C 114 dsa_113 rfl rfl ?_
  refine r_aloadN C 115 dsa_114 rfl rfl rfl ?_
  refine r_getfield C 118 (host := "") (Or.inl (hw _ (List.mem_of_getElem? (i := 15) rfl))) Via.refl F_w_collected dsa_115 rfl ?_
  refine r_aloadN C 119 dsa_118 rfl rfl rfl ?_
  refine r_getfield C 122 (host := "") (Or.inl (hw _ (List.mem_of_getElem? (i := 24) rfl))) Via.refl F_w_oldest dsa_119 rfl ?_
  refine r_laload C 123 (v := (.long y)) V_c ⟨by decide, by decide⟩ rfl dsa_122 rfl ?_
  refine r_lsub C 124 dsa_123 rfl ?_
  refine r_lstore C 126 #[.val (.ref w), .val (.long x), .second, .val (.long y), .second, .val (.int (0 : Int32)), .val (.long (x - x)), .second, .val (.long (y - y)), .second] dsa_124 rfl rfl ?_
  refine r_lload C 128 dsa_126 rfl rfl ?_
  refine r_ldc2_w C 131 dsa_128 rfl (hw _ (List.mem_of_getElem? (i := 26) rfl)) ?_
  refine r_lcmp_lt C 132 157 135 dsa_131 rfl dsa_132 (by decide) (by decide) rfl ?_ ?_
  · intro q1
    refine r_iconst C 158 (0 : Int32) dsa_157 rfl rfl ?_
    exact r_nreturn C (0 : Int32) rfl (t := .boolean) (by simp) rfl dsa_158 (by decide) (by decide) ⟨by rw [sm, if_pos q1], KP, ⟨E_w, F_w_times, F_w_collected, F_w_oldest, F_w_count⟩, V_t, V_c⟩
  · intro q1
    refine r_lload C 137 dsa_135 rfl rfl ?_
    refine r_l2d C 138 dsa_137 rfl ?_
    refine r_ldc2D C 141 dsa_138 rfl (hw _ (List.mem_of_getElem? (i := 31) rfl)) ?_
    refine r_dmul C 142 dsa_141 rfl (own_nn1 _) ?_
    refine r_ldc2D C 145 dsa_142 rfl (hw _ (List.mem_of_getElem? (i := 32) rfl)) ?_
    refine r_lload C 147 dsa_145 rfl rfl ?_
    refine r_l2d C 148 dsa_147 rfl ?_
    refine r_dmul C 149 dsa_148 rfl (own_nn2 _) ?_
    refine r_dcmpl C 150 dsa_149 rfl ?_
    have cw := OwnF.cmp09 hC hC2 (own_ge q1) hN
    refine r_if_lt C 157 153 dsa_150 (by decide) (by decide) rfl ?_ ?_
    · intro q2
      refine r_iconst C 158 (0 : Int32) dsa_157 rfl rfl ?_
      exact r_nreturn C (0 : Int32) rfl (t := .boolean) (by simp) rfl dsa_158 (by decide) (by decide) ⟨by rw [sm, if_neg q1, if_pos (cw.mp q2)], KP, ⟨E_w, F_w_times, F_w_collected, F_w_oldest, F_w_count⟩, V_t, V_c⟩
    · intro q2
      refine r_iconst C 154 (1 : Int32) dsa_153 rfl rfl ?_
      refine r_goto C 158 dsa_154 (by decide) (by decide) ?_
      exact r_nreturn C (1 : Int32) rfl (t := .boolean) (by simp) rfl dsa_158 (by decide) (by decide) ⟨by rw [sm, if_neg q1, if_neg (fun z => q2 (cw.mpr z))], KP, ⟨E_w, F_w_times, F_w_collected, F_w_oldest, F_w_count⟩, V_t, V_c⟩
theorem ef_rmSa_2_0_1 (w : Addr) (x : Int64) (y : Int64) : ∀ mI_, entryFrame mI_ #[(.ref w), (.long x), (.long y)] 10 = mkF mI_ 0 #[.val (.ref w), .val (.long x), .second, .val (.long y), .second, .unset, .unset, .unset, .unset, .unset] [] := fun mI_ => by first | (simp [entryFrame, mkF, argsToLocals, Value.category]; done) | rfl
set_option maxRecDepth 65536 in
set_option maxHeartbeats 40000000 in
theorem rmSa_2_0_1 (l : Launch) (Z : State) (a0 : Array Value) (hw : ∀ d ∈ tables_1, d.before a0 Z = true) (w : Addr) (x : Int64) (y : Int64) (w_times : Addr) (w_collected : Addr) (kt kc : ClassId) (s0 s1 d0 d1 : Int64) (h0 : Heap) (n0 : Nat) (Zs : n0 ≤ h0.size) (hW : HwW Z h0 w w_times w_collected (0 : Int32) (1 : Int32)) (V_t : Arv Z h0 w_times kt .long (2 : Int32) [(.long s0), (.long s1)] (.long (0 : Int64))) (V_c : Arv Z h0 w_collected kc .long (2 : Int32) [(.long d0), (.long d1)] (.long (0 : Int64))) (ntc : w_times ≠ w_collected) (g_w : n0 ≤ w) (g_w_times : n0 ≤ w_times) (g_w_collected : n0 ≤ w_collected) (hN : (x - s0).toInt < 68719476736) (hC : 0 ≤ (y - d0).toInt) (hC2 : (y - d0).toInt < 1000000) :
    Con l Z (⟨"com/example/indenture/indenture/app/HeapWatch", "sample", "(JJ)Z"⟩ : MethodName) prog_1_method_2_code 10 (some .boolean) [] ({ frames := 1, cells := 0, slots := 0, locals := 20 } : Room) n0 #[(.ref w), (.long x), (.long y)] h0 (fun v h => v = some (.int (sm (x - s0) (y - d0))) ∧ Keep h0 h [w, w_times, w_collected] ∧ HwW Z h w w_times w_collected (0 : Int32) (2 : Int32) ∧ Arv Z h w_times kt .long (2 : Int32) [(.long s0), (.long x)] (.long (0 : Int64)) ∧ Arv Z h w_collected kc .long (2 : Int32) [(.long d0), (.long y)] (.long (0 : Int64))) := by
  refine Con.of (plainFor_of_name pn_q0) (ef_rmSa_2_0_1 w x y) ?_
  intro K C
  replace C : Ok Z "com/example/indenture/indenture/app/HeapWatch" "sample" prog_1_method_2_code 10 (some .boolean) K := C
  have KP := Keep.refl h0 [w, w_times, w_collected]
  obtain ⟨E_w, F_w_times, F_w_collected, F_w_oldest, F_w_count⟩ := hW
  have nwt : w ≠ w_times := exaArvNe E_w (hw _ (List.mem_of_getElem? (i := 5) rfl)) V_t
  have nwc : w ≠ w_collected := exaArvNe E_w (hw _ (List.mem_of_getElem? (i := 5) rfl)) V_c
  refine r_aloadN C 1 dsa_0 rfl rfl rfl ?_
  refine r_getfield C 4 (host := "") (Or.inl (hw _ (List.mem_of_getElem? (i := 22) rfl))) Via.refl F_w_count dsa_1 rfl ?_
  refine r_aloadN C 5 dsa_4 rfl rfl rfl ?_
  refine r_getfield C 8 (host := "") (Or.inl (hw _ (List.mem_of_getElem? (i := 13) rfl))) Via.refl F_w_times dsa_5 rfl ?_
  refine r_arraylength C 9 V_t dsa_8 rfl ?_
  refine r_icmp_ne C 16 12 dsa_9 (by decide) (by decide) rfl (fun _ => ?_) (fun q => absurd q (by decide))
  refine r_aloadN C 17 dsa_16 rfl rfl rfl ?_
  refine r_getfield C 20 (host := "") (Or.inl (hw _ (List.mem_of_getElem? (i := 24) rfl))) Via.refl F_w_oldest dsa_17 rfl ?_
  refine r_aloadN C 21 dsa_20 rfl rfl rfl ?_
  refine r_getfield C 24 (host := "") (Or.inl (hw _ (List.mem_of_getElem? (i := 22) rfl))) Via.refl F_w_count dsa_21 rfl ?_
  refine r_iadd C 25 dsa_24 rfl ?_
  show Run _ _ _ _ _ _ _ _ 25 #[.val (.ref w), .val (.long x), .second, .val (.long y), .second, .unset, .unset, .unset, .unset, .unset] [(.int (1 : Int32))]
  refine r_aloadN C 26 dsa_25 rfl rfl rfl ?_
  refine r_getfield C 29 (host := "") (Or.inl (hw _ (List.mem_of_getElem? (i := 13) rfl))) Via.refl F_w_times dsa_26 rfl ?_
  refine r_arraylength C 30 V_t dsa_29 rfl ?_
  refine r_irem C 31 dsa_30 rfl (by first | decide | assumption) ?_
  show Run _ _ _ _ _ _ _ _ 31 #[.val (.ref w), .val (.long x), .second, .val (.long y), .second, .unset, .unset, .unset, .unset, .unset] [(.int (1 : Int32))]
  refine r_istore C 33 #[.val (.ref w), .val (.long x), .second, .val (.long y), .second, .val (.int (1 : Int32)), .unset, .unset, .unset, .unset] dsa_31 rfl rfl ?_
  refine r_aloadN C 34 dsa_33 rfl rfl rfl ?_
  refine r_getfield C 37 (host := "") (Or.inl (hw _ (List.mem_of_getElem? (i := 13) rfl))) Via.refl F_w_times dsa_34 rfl ?_
  refine r_iload C 39 dsa_37 rfl rfl ?_
  refine r_lloadN C 40 dsa_39 rfl rfl ?_
  refine r_lastore C 41 V_t ⟨by decide, by decide⟩ (Nat.le_of_ble_eq_true rfl) dsa_40 rfl g_w_times ?_
  intro h1 W1 V1
  replace E_w := E_w.wr W1
  replace F_w_times := Fld.other W1 F_w_times (Or.inl nwt)
  replace F_w_collected := Fld.other W1 F_w_collected (Or.inl nwt)
  replace F_w_oldest := Fld.other W1 F_w_oldest (Or.inl nwt)
  replace F_w_count := Fld.other W1 F_w_count (Or.inl nwt)
  replace V_c := V_c.other W1 (Ne.symm ntc)
  replace Zs := Nat.le_trans Zs (Nat.le_of_eq W1.size.symm)
  replace KP := KP.wr W1 (Or.inl (List.mem_of_getElem? (i := 1) rfl))
  replace V_t : Arv Z h1 w_times kt .long (2 : Int32) [(.long s0), (.long x)] (.long (0 : Int64)) := V1
  refine r_aloadN C 42 dsa_41 rfl rfl rfl ?_
  refine r_getfield C 45 (host := "") (Or.inl (hw _ (List.mem_of_getElem? (i := 15) rfl))) Via.refl F_w_collected dsa_42 rfl ?_
  refine r_iload C 47 dsa_45 rfl rfl ?_
  refine r_lloadN C 48 dsa_47 rfl rfl ?_
  refine r_lastore C 49 V_c ⟨by decide, by decide⟩ (Nat.le_of_ble_eq_true rfl) dsa_48 rfl g_w_collected ?_
  intro h2 W2 V2
  replace E_w := E_w.wr W2
  replace F_w_times := Fld.other W2 F_w_times (Or.inl nwc)
  replace F_w_collected := Fld.other W2 F_w_collected (Or.inl nwc)
  replace F_w_oldest := Fld.other W2 F_w_oldest (Or.inl nwc)
  replace F_w_count := Fld.other W2 F_w_count (Or.inl nwc)
  replace V_t := V_t.other W2 ntc
  replace Zs := Nat.le_trans Zs (Nat.le_of_eq W2.size.symm)
  replace KP := KP.wr W2 (Or.inl (List.mem_of_getElem? (i := 2) rfl))
  replace V_c : Arv Z h2 w_collected kc .long (2 : Int32) [(.long d0), (.long y)] (.long (0 : Int64)) := V2
  refine r_aloadN C 50 dsa_49 rfl rfl rfl ?_
  refine r_dup C 51 dsa_50 rfl rfl ?_
  refine r_getfield C 54 (host := "") (Or.inl (hw _ (List.mem_of_getElem? (i := 22) rfl))) Via.refl F_w_count dsa_51 rfl ?_
  refine r_iconst C 55 (1 : Int32) dsa_54 rfl rfl ?_
  refine r_iadd C 56 dsa_55 rfl ?_
  show Run _ _ _ _ _ _ _ _ 56 #[.val (.ref w), .val (.long x), .second, .val (.long y), .second, .val (.int (1 : Int32)), .unset, .unset, .unset, .unset] [(.int (2 : Int32)), (.ref w)]
  refine r_putfield C 59 (host := "") (Or.inl (hw _ (List.mem_of_getElem? (i := 22) rfl))) Via.refl F_w_count E_w (Or.inl (hw _ (List.mem_of_getElem? (i := 23) rfl))) (hw _ (List.mem_of_getElem? (i := 5) rfl)) (ty := .int) (by decide) rfl rfl dsa_56 rfl g_w ?_
  intro h3 W3
  replace E_w := E_w.wr W3
  replace F_w_times := Fld.other W3 F_w_times (Or.inr (slot_ne (Or.inr (hw _ (List.mem_of_getElem? (i := 14) rfl))) (Or.inl (hw _ (List.mem_of_getElem? (i := 23) rfl))) (by decide) (t := (.array .long)) (t' := .int) (by decide) (by decide)))
  replace F_w_collected := Fld.other W3 F_w_collected (Or.inr (slot_ne (Or.inr (hw _ (List.mem_of_getElem? (i := 16) rfl))) (Or.inl (hw _ (List.mem_of_getElem? (i := 23) rfl))) (by decide) (t := (.array .long)) (t' := .int) (by decide) (by decide)))
  replace F_w_oldest := Fld.other W3 F_w_oldest (Or.inr (slot_ne (Or.inl (hw _ (List.mem_of_getElem? (i := 25) rfl))) (Or.inl (hw _ (List.mem_of_getElem? (i := 23) rfl))) (by decide) (t := .int) (t' := .int) (by decide) (by decide)))
  replace V_t := V_t.other W3 (Ne.symm nwt)
  replace V_c := V_c.other W3 (Ne.symm nwc)
  replace F_w_count := F_w_count.same W3
  replace Zs := Nat.le_trans Zs (Nat.le_of_eq W3.size.symm)
  replace KP := KP.wr W3 (Or.inl (List.mem_of_getElem? (i := 0) rfl))
  refine r_aloadN C 60 dsa_59 rfl rfl rfl ?_
  refine r_getfield C 63 (host := "") (Or.inl (hw _ (List.mem_of_getElem? (i := 22) rfl))) Via.refl F_w_count dsa_60 rfl ?_
  refine r_iconst C 64 (1 : Int32) dsa_63 rfl rfl ?_
  refine r_icmp_le C 100 67 dsa_64 (by decide) (by decide) rfl (fun q => absurd q (by decide)) (fun _ => ?_)
  refine r_lloadN C 68 dsa_67 rfl rfl ?_
  refine r_aloadN C 69 dsa_68 rfl rfl rfl ?_
  refine r_getfield C 72 (host := "") (Or.inl (hw _ (List.mem_of_getElem? (i := 13) rfl))) Via.refl F_w_times dsa_69 rfl ?_
  refine r_aloadN C 73 dsa_72 rfl rfl rfl ?_
  refine r_getfield C 76 (host := "") (Or.inl (hw _ (List.mem_of_getElem? (i := 24) rfl))) Via.refl F_w_oldest dsa_73 rfl ?_
  refine r_iconst C 77 (1 : Int32) dsa_76 rfl rfl ?_
  refine r_iadd C 78 dsa_77 rfl ?_
  show Run _ _ _ _ _ _ _ _ 78 #[.val (.ref w), .val (.long x), .second, .val (.long y), .second, .val (.int (1 : Int32)), .unset, .unset, .unset, .unset] [(.int (1 : Int32)), (.ref w_times), (.long x)]
  refine r_aloadN C 79 dsa_78 rfl rfl rfl ?_
  refine r_getfield C 82 (host := "") (Or.inl (hw _ (List.mem_of_getElem? (i := 13) rfl))) Via.refl F_w_times dsa_79 rfl ?_
  refine r_arraylength C 83 V_t dsa_82 rfl ?_
  refine r_irem C 84 dsa_83 rfl (by first | decide | assumption) ?_
  show Run _ _ _ _ _ _ _ _ 84 #[.val (.ref w), .val (.long x), .second, .val (.long y), .second, .val (.int (1 : Int32)), .unset, .unset, .unset, .unset] [(.int (1 : Int32)), (.ref w_times), (.long x)]
  refine r_laload C 85 (v := (.long x)) V_t ⟨by decide, by decide⟩ rfl dsa_84 rfl ?_
  refine r_lsub C 86 dsa_85 rfl ?_
  refine r_ldc2_w C 89 dsa_86 rfl (hw _ (List.mem_of_getElem? (i := 26) rfl)) ?_
  refine r_lcmp_lt C 90 100 93 dsa_89 rfl dsa_90 (by decide) (by decide) rfl (fun _ => ?_) (fun q => absurd (own_self x) q)
  refine r_lloadN C 101 dsa_100 rfl rfl ?_
  refine r_aloadN C 102 dsa_101 rfl rfl rfl ?_
  refine r_getfield C 105 (host := "") (Or.inl (hw _ (List.mem_of_getElem? (i := 13) rfl))) Via.refl F_w_times dsa_102 rfl ?_
  refine r_aloadN C 106 dsa_105 rfl rfl rfl ?_
  refine r_getfield C 109 (host := "") (Or.inl (hw _ (List.mem_of_getElem? (i := 24) rfl))) Via.refl F_w_oldest dsa_106 rfl ?_
  refine r_laload C 110 (v := (.long s0)) V_t ⟨by decide, by decide⟩ rfl dsa_109 rfl ?_
  refine r_lsub C 111 dsa_110 rfl ?_
  refine r_lstore C 113 #[.val (.ref w), .val (.long x), .second, .val (.long y), .second, .val (.int (1 : Int32)), .val (.long (x - s0)), .second, .unset, .unset] dsa_111 rfl rfl ?_
  refine r_lloadN C 114 dsa_113 rfl rfl ?_
  refine r_aloadN C 115 dsa_114 rfl rfl rfl ?_
  refine r_getfield C 118 (host := "") (Or.inl (hw _ (List.mem_of_getElem? (i := 15) rfl))) Via.refl F_w_collected dsa_115 rfl ?_
  refine r_aloadN C 119 dsa_118 rfl rfl rfl ?_
  refine r_getfield C 122 (host := "") (Or.inl (hw _ (List.mem_of_getElem? (i := 24) rfl))) Via.refl F_w_oldest dsa_119 rfl ?_
  refine r_laload C 123 (v := (.long d0)) V_c ⟨by decide, by decide⟩ rfl dsa_122 rfl ?_
  refine r_lsub C 124 dsa_123 rfl ?_
  refine r_lstore C 126 #[.val (.ref w), .val (.long x), .second, .val (.long y), .second, .val (.int (1 : Int32)), .val (.long (x - s0)), .second, .val (.long (y - d0)), .second] dsa_124 rfl rfl ?_
  refine r_lload C 128 dsa_126 rfl rfl ?_
  refine r_ldc2_w C 131 dsa_128 rfl (hw _ (List.mem_of_getElem? (i := 26) rfl)) ?_
  refine r_lcmp_lt C 132 157 135 dsa_131 rfl dsa_132 (by decide) (by decide) rfl ?_ ?_
  · intro q1
    refine r_iconst C 158 (0 : Int32) dsa_157 rfl rfl ?_
    exact r_nreturn C (0 : Int32) rfl (t := .boolean) (by simp) rfl dsa_158 (by decide) (by decide) ⟨by rw [sm, if_pos q1], KP, ⟨E_w, F_w_times, F_w_collected, F_w_oldest, F_w_count⟩, V_t, V_c⟩
  · intro q1
    refine r_lload C 137 dsa_135 rfl rfl ?_
    refine r_l2d C 138 dsa_137 rfl ?_
    refine r_ldc2D C 141 dsa_138 rfl (hw _ (List.mem_of_getElem? (i := 31) rfl)) ?_
    refine r_dmul C 142 dsa_141 rfl (own_nn1 _) ?_
    refine r_ldc2D C 145 dsa_142 rfl (hw _ (List.mem_of_getElem? (i := 32) rfl)) ?_
    refine r_lload C 147 dsa_145 rfl rfl ?_
    refine r_l2d C 148 dsa_147 rfl ?_
    refine r_dmul C 149 dsa_148 rfl (own_nn2 _) ?_
    refine r_dcmpl C 150 dsa_149 rfl ?_
    have cw := OwnF.cmp09 hC hC2 (own_ge q1) hN
    refine r_if_lt C 157 153 dsa_150 (by decide) (by decide) rfl ?_ ?_
    · intro q2
      refine r_iconst C 158 (0 : Int32) dsa_157 rfl rfl ?_
      exact r_nreturn C (0 : Int32) rfl (t := .boolean) (by simp) rfl dsa_158 (by decide) (by decide) ⟨by rw [sm, if_neg q1, if_pos (cw.mp q2)], KP, ⟨E_w, F_w_times, F_w_collected, F_w_oldest, F_w_count⟩, V_t, V_c⟩
    · intro q2
      refine r_iconst C 154 (1 : Int32) dsa_153 rfl rfl ?_
      refine r_goto C 158 dsa_154 (by decide) (by decide) ?_
      exact r_nreturn C (1 : Int32) rfl (t := .boolean) (by simp) rfl dsa_158 (by decide) (by decide) ⟨by rw [sm, if_neg q1, if_neg (fun z => q2 (cw.mpr z))], KP, ⟨E_w, F_w_times, F_w_collected, F_w_oldest, F_w_count⟩, V_t, V_c⟩
theorem ef_rmSa_2_0_2 (w : Addr) (x : Int64) (y : Int64) : ∀ mI_, entryFrame mI_ #[(.ref w), (.long x), (.long y)] 10 = mkF mI_ 0 #[.val (.ref w), .val (.long x), .second, .val (.long y), .second, .unset, .unset, .unset, .unset, .unset] [] := fun mI_ => by first | (simp [entryFrame, mkF, argsToLocals, Value.category]; done) | rfl
set_option maxRecDepth 65536 in
set_option maxHeartbeats 40000000 in
theorem rmSa_2_0_2 (l : Launch) (Z : State) (a0 : Array Value) (hw : ∀ d ∈ tables_1, d.before a0 Z = true) (w : Addr) (x : Int64) (y : Int64) (w_times : Addr) (w_collected : Addr) (kt kc : ClassId) (s0 s1 d0 d1 : Int64) (h0 : Heap) (n0 : Nat) (Zs : n0 ≤ h0.size) (hW : HwW Z h0 w w_times w_collected (0 : Int32) (2 : Int32)) (V_t : Arv Z h0 w_times kt .long (2 : Int32) [(.long s0), (.long s1)] (.long (0 : Int64))) (V_c : Arv Z h0 w_collected kc .long (2 : Int32) [(.long d0), (.long d1)] (.long (0 : Int64))) (ntc : w_times ≠ w_collected) (g_w : n0 ≤ w) (g_w_times : n0 ≤ w_times) (g_w_collected : n0 ≤ w_collected) (hN : (x - s1).toInt < 68719476736) (hC : 0 ≤ (y - d1).toInt) (hC2 : (y - d1).toInt < 1000000) :
    Con l Z (⟨"com/example/indenture/indenture/app/HeapWatch", "sample", "(JJ)Z"⟩ : MethodName) prog_1_method_2_code 10 (some .boolean) [] ({ frames := 1, cells := 0, slots := 0, locals := 20 } : Room) n0 #[(.ref w), (.long x), (.long y)] h0 (fun v h => v = some (.int (sm (x - s1) (y - d1))) ∧ Keep h0 h [w, w_times, w_collected] ∧ HwW Z h w w_times w_collected (1 : Int32) (2 : Int32) ∧ Arv Z h w_times kt .long (2 : Int32) [(.long x), (.long s1)] (.long (0 : Int64)) ∧ Arv Z h w_collected kc .long (2 : Int32) [(.long y), (.long d1)] (.long (0 : Int64))) := by
  refine Con.of (plainFor_of_name pn_q0) (ef_rmSa_2_0_2 w x y) ?_
  intro K C
  replace C : Ok Z "com/example/indenture/indenture/app/HeapWatch" "sample" prog_1_method_2_code 10 (some .boolean) K := C
  have KP := Keep.refl h0 [w, w_times, w_collected]
  obtain ⟨E_w, F_w_times, F_w_collected, F_w_oldest, F_w_count⟩ := hW
  have nwt : w ≠ w_times := exaArvNe E_w (hw _ (List.mem_of_getElem? (i := 5) rfl)) V_t
  have nwc : w ≠ w_collected := exaArvNe E_w (hw _ (List.mem_of_getElem? (i := 5) rfl)) V_c
  refine r_aloadN C 1 dsa_0 rfl rfl rfl ?_
  refine r_getfield C 4 (host := "") (Or.inl (hw _ (List.mem_of_getElem? (i := 22) rfl))) Via.refl F_w_count dsa_1 rfl ?_
  refine r_aloadN C 5 dsa_4 rfl rfl rfl ?_
  refine r_getfield C 8 (host := "") (Or.inl (hw _ (List.mem_of_getElem? (i := 13) rfl))) Via.refl F_w_times dsa_5 rfl ?_
  refine r_arraylength C 9 V_t dsa_8 rfl ?_
  refine r_icmp_ne C 16 12 dsa_9 (by decide) (by decide) rfl (fun q => absurd q (by decide)) (fun _ => ?_)
  refine r_aloadN C 13 dsa_12 rfl rfl rfl ?_
  refine r_callP C 16 (y := (⟨"com/example/indenture/indenture/app/HeapWatch", "drop", "()V"⟩ : MethodName)) (a := w) [] [] (rmDr l Z a0 hw w w_times w_collected (0 : Int32) (2 : Int32) kt (2 : Int32) _ h0 n0 Zs ⟨E_w, F_w_times, F_w_collected, F_w_oldest, F_w_count⟩ V_t (by decide) g_w) (hw _ (List.mem_of_getElem? (i := 27) rfl)) (hw _ (List.mem_of_getElem? (i := 28) rfl)) (selPriv (hw _ (List.mem_of_getElem? (i := 5) rfl)) (hw _ (List.mem_of_getElem? (i := 29) rfl)) (hw _ (List.mem_of_getElem? (i := 28) rfl)) (by decide)) (hw _ (List.mem_of_getElem? (i := 29) rfl)) (hw _ (List.mem_of_getElem? (i := 6) rfl)) (hw _ (List.mem_of_getElem? (i := 30) rfl)) E_w.cell (by decide) (lenOf pd___V rfl) rfl rfl (by decide) (Nat.le_of_ble_eq_true rfl) (by decide) (by decide) rfl dsa_13 rfl ?_
  intro v1 h1 q1 z1
  obtain ⟨rfl, K1, hW⟩ := q1
  replace hW : HwW Z h1 w w_times w_collected (1 : Int32) (1 : Int32) := hW
  replace E_w := E_w.keep K1
  replace V_t := V_t.keep K1 (ninS (Ne.symm nwt) nin0)
  replace V_c := V_c.keep K1 (ninS (Ne.symm nwc) nin0)
  replace KP := KP.trans K1 (allS (Or.inl (List.mem_of_getElem? (i := 0) rfl)) all0)
  replace Zs := Nat.le_trans Zs K1.1
  obtain ⟨E_w, F_w_times, F_w_collected, F_w_oldest, F_w_count⟩ := hW
  show Run _ _ _ _ _ _ _ _ 16 #[.val (.ref w), .val (.long x), .second, .val (.long y), .second, .unset, .unset, .unset, .unset, .unset] []
  refine r_aloadN C 17 dsa_16 rfl rfl rfl ?_
  refine r_getfield C 20 (host := "") (Or.inl (hw _ (List.mem_of_getElem? (i := 24) rfl))) Via.refl F_w_oldest dsa_17 rfl ?_
  refine r_aloadN C 21 dsa_20 rfl rfl rfl ?_
  refine r_getfield C 24 (host := "") (Or.inl (hw _ (List.mem_of_getElem? (i := 22) rfl))) Via.refl F_w_count dsa_21 rfl ?_
  refine r_iadd C 25 dsa_24 rfl ?_
  show Run _ _ _ _ _ _ _ _ 25 #[.val (.ref w), .val (.long x), .second, .val (.long y), .second, .unset, .unset, .unset, .unset, .unset] [(.int (2 : Int32))]
  refine r_aloadN C 26 dsa_25 rfl rfl rfl ?_
  refine r_getfield C 29 (host := "") (Or.inl (hw _ (List.mem_of_getElem? (i := 13) rfl))) Via.refl F_w_times dsa_26 rfl ?_
  refine r_arraylength C 30 V_t dsa_29 rfl ?_
  refine r_irem C 31 dsa_30 rfl (by first | decide | assumption) ?_
  show Run _ _ _ _ _ _ _ _ 31 #[.val (.ref w), .val (.long x), .second, .val (.long y), .second, .unset, .unset, .unset, .unset, .unset] [(.int (0 : Int32))]
  refine r_istore C 33 #[.val (.ref w), .val (.long x), .second, .val (.long y), .second, .val (.int (0 : Int32)), .unset, .unset, .unset, .unset] dsa_31 rfl rfl ?_
  refine r_aloadN C 34 dsa_33 rfl rfl rfl ?_
  refine r_getfield C 37 (host := "") (Or.inl (hw _ (List.mem_of_getElem? (i := 13) rfl))) Via.refl F_w_times dsa_34 rfl ?_
  refine r_iload C 39 dsa_37 rfl rfl ?_
  refine r_lloadN C 40 dsa_39 rfl rfl ?_
  refine r_lastore C 41 V_t ⟨by decide, by decide⟩ (Nat.le_of_ble_eq_true rfl) dsa_40 rfl g_w_times ?_
  intro h2 W2 V2
  replace E_w := E_w.wr W2
  replace V_c := V_c.other W2 (Ne.symm ntc)
  replace F_w_times := Fld.other W2 F_w_times (Or.inl nwt)
  replace F_w_collected := Fld.other W2 F_w_collected (Or.inl nwt)
  replace F_w_oldest := Fld.other W2 F_w_oldest (Or.inl nwt)
  replace F_w_count := Fld.other W2 F_w_count (Or.inl nwt)
  replace Zs := Nat.le_trans Zs (Nat.le_of_eq W2.size.symm)
  replace KP := KP.wr W2 (Or.inl (List.mem_of_getElem? (i := 1) rfl))
  replace V_t : Arv Z h2 w_times kt .long (2 : Int32) [(.long x), (.long s1)] (.long (0 : Int64)) := V2
  refine r_aloadN C 42 dsa_41 rfl rfl rfl ?_
  refine r_getfield C 45 (host := "") (Or.inl (hw _ (List.mem_of_getElem? (i := 15) rfl))) Via.refl F_w_collected dsa_42 rfl ?_
  refine r_iload C 47 dsa_45 rfl rfl ?_
  refine r_lloadN C 48 dsa_47 rfl rfl ?_
  refine r_lastore C 49 V_c ⟨by decide, by decide⟩ (Nat.le_of_ble_eq_true rfl) dsa_48 rfl g_w_collected ?_
  intro h3 W3 V3
  replace E_w := E_w.wr W3
  replace V_t := V_t.other W3 ntc
  replace F_w_times := Fld.other W3 F_w_times (Or.inl nwc)
  replace F_w_collected := Fld.other W3 F_w_collected (Or.inl nwc)
  replace F_w_oldest := Fld.other W3 F_w_oldest (Or.inl nwc)
  replace F_w_count := Fld.other W3 F_w_count (Or.inl nwc)
  replace Zs := Nat.le_trans Zs (Nat.le_of_eq W3.size.symm)
  replace KP := KP.wr W3 (Or.inl (List.mem_of_getElem? (i := 2) rfl))
  replace V_c : Arv Z h3 w_collected kc .long (2 : Int32) [(.long y), (.long d1)] (.long (0 : Int64)) := V3
  refine r_aloadN C 50 dsa_49 rfl rfl rfl ?_
  refine r_dup C 51 dsa_50 rfl rfl ?_
  refine r_getfield C 54 (host := "") (Or.inl (hw _ (List.mem_of_getElem? (i := 22) rfl))) Via.refl F_w_count dsa_51 rfl ?_
  refine r_iconst C 55 (1 : Int32) dsa_54 rfl rfl ?_
  refine r_iadd C 56 dsa_55 rfl ?_
  show Run _ _ _ _ _ _ _ _ 56 #[.val (.ref w), .val (.long x), .second, .val (.long y), .second, .val (.int (0 : Int32)), .unset, .unset, .unset, .unset] [(.int (2 : Int32)), (.ref w)]
  refine r_putfield C 59 (host := "") (Or.inl (hw _ (List.mem_of_getElem? (i := 22) rfl))) Via.refl F_w_count E_w (Or.inl (hw _ (List.mem_of_getElem? (i := 23) rfl))) (hw _ (List.mem_of_getElem? (i := 5) rfl)) (ty := .int) (by decide) rfl rfl dsa_56 rfl g_w ?_
  intro h4 W4
  replace E_w := E_w.wr W4
  replace V_t := V_t.other W4 (Ne.symm nwt)
  replace V_c := V_c.other W4 (Ne.symm nwc)
  replace F_w_times := Fld.other W4 F_w_times (Or.inr (slot_ne (Or.inr (hw _ (List.mem_of_getElem? (i := 14) rfl))) (Or.inl (hw _ (List.mem_of_getElem? (i := 23) rfl))) (by decide) (t := (.array .long)) (t' := .int) (by decide) (by decide)))
  replace F_w_collected := Fld.other W4 F_w_collected (Or.inr (slot_ne (Or.inr (hw _ (List.mem_of_getElem? (i := 16) rfl))) (Or.inl (hw _ (List.mem_of_getElem? (i := 23) rfl))) (by decide) (t := (.array .long)) (t' := .int) (by decide) (by decide)))
  replace F_w_oldest := Fld.other W4 F_w_oldest (Or.inr (slot_ne (Or.inl (hw _ (List.mem_of_getElem? (i := 25) rfl))) (Or.inl (hw _ (List.mem_of_getElem? (i := 23) rfl))) (by decide) (t := .int) (t' := .int) (by decide) (by decide)))
  replace F_w_count := F_w_count.same W4
  replace Zs := Nat.le_trans Zs (Nat.le_of_eq W4.size.symm)
  replace KP := KP.wr W4 (Or.inl (List.mem_of_getElem? (i := 0) rfl))
  refine r_aloadN C 60 dsa_59 rfl rfl rfl ?_
  refine r_getfield C 63 (host := "") (Or.inl (hw _ (List.mem_of_getElem? (i := 22) rfl))) Via.refl F_w_count dsa_60 rfl ?_
  refine r_iconst C 64 (1 : Int32) dsa_63 rfl rfl ?_
  refine r_icmp_le C 100 67 dsa_64 (by decide) (by decide) rfl (fun q => absurd q (by decide)) (fun _ => ?_)
  refine r_lloadN C 68 dsa_67 rfl rfl ?_
  refine r_aloadN C 69 dsa_68 rfl rfl rfl ?_
  refine r_getfield C 72 (host := "") (Or.inl (hw _ (List.mem_of_getElem? (i := 13) rfl))) Via.refl F_w_times dsa_69 rfl ?_
  refine r_aloadN C 73 dsa_72 rfl rfl rfl ?_
  refine r_getfield C 76 (host := "") (Or.inl (hw _ (List.mem_of_getElem? (i := 24) rfl))) Via.refl F_w_oldest dsa_73 rfl ?_
  refine r_iconst C 77 (1 : Int32) dsa_76 rfl rfl ?_
  refine r_iadd C 78 dsa_77 rfl ?_
  show Run _ _ _ _ _ _ _ _ 78 #[.val (.ref w), .val (.long x), .second, .val (.long y), .second, .val (.int (0 : Int32)), .unset, .unset, .unset, .unset] [(.int (2 : Int32)), (.ref w_times), (.long x)]
  refine r_aloadN C 79 dsa_78 rfl rfl rfl ?_
  refine r_getfield C 82 (host := "") (Or.inl (hw _ (List.mem_of_getElem? (i := 13) rfl))) Via.refl F_w_times dsa_79 rfl ?_
  refine r_arraylength C 83 V_t dsa_82 rfl ?_
  refine r_irem C 84 dsa_83 rfl (by first | decide | assumption) ?_
  show Run _ _ _ _ _ _ _ _ 84 #[.val (.ref w), .val (.long x), .second, .val (.long y), .second, .val (.int (0 : Int32)), .unset, .unset, .unset, .unset] [(.int (0 : Int32)), (.ref w_times), (.long x)]
  refine r_laload C 85 (v := (.long x)) V_t ⟨by decide, by decide⟩ rfl dsa_84 rfl ?_
  refine r_lsub C 86 dsa_85 rfl ?_
  refine r_ldc2_w C 89 dsa_86 rfl (hw _ (List.mem_of_getElem? (i := 26) rfl)) ?_
  refine r_lcmp_lt C 90 100 93 dsa_89 rfl dsa_90 (by decide) (by decide) rfl (fun _ => ?_) (fun q => absurd (own_self x) q)
  refine r_lloadN C 101 dsa_100 rfl rfl ?_
  refine r_aloadN C 102 dsa_101 rfl rfl rfl ?_
  refine r_getfield C 105 (host := "") (Or.inl (hw _ (List.mem_of_getElem? (i := 13) rfl))) Via.refl F_w_times dsa_102 rfl ?_
  refine r_aloadN C 106 dsa_105 rfl rfl rfl ?_
  refine r_getfield C 109 (host := "") (Or.inl (hw _ (List.mem_of_getElem? (i := 24) rfl))) Via.refl F_w_oldest dsa_106 rfl ?_
  refine r_laload C 110 (v := (.long s1)) V_t ⟨by decide, by decide⟩ rfl dsa_109 rfl ?_
  refine r_lsub C 111 dsa_110 rfl ?_
  refine r_lstore C 113 #[.val (.ref w), .val (.long x), .second, .val (.long y), .second, .val (.int (0 : Int32)), .val (.long (x - s1)), .second, .unset, .unset] dsa_111 rfl rfl ?_
  refine r_lloadN C 114 dsa_113 rfl rfl ?_
  refine r_aloadN C 115 dsa_114 rfl rfl rfl ?_
  refine r_getfield C 118 (host := "") (Or.inl (hw _ (List.mem_of_getElem? (i := 15) rfl))) Via.refl F_w_collected dsa_115 rfl ?_
  refine r_aloadN C 119 dsa_118 rfl rfl rfl ?_
  refine r_getfield C 122 (host := "") (Or.inl (hw _ (List.mem_of_getElem? (i := 24) rfl))) Via.refl F_w_oldest dsa_119 rfl ?_
  refine r_laload C 123 (v := (.long d1)) V_c ⟨by decide, by decide⟩ rfl dsa_122 rfl ?_
  refine r_lsub C 124 dsa_123 rfl ?_
  refine r_lstore C 126 #[.val (.ref w), .val (.long x), .second, .val (.long y), .second, .val (.int (0 : Int32)), .val (.long (x - s1)), .second, .val (.long (y - d1)), .second] dsa_124 rfl rfl ?_
  refine r_lload C 128 dsa_126 rfl rfl ?_
  refine r_ldc2_w C 131 dsa_128 rfl (hw _ (List.mem_of_getElem? (i := 26) rfl)) ?_
  refine r_lcmp_lt C 132 157 135 dsa_131 rfl dsa_132 (by decide) (by decide) rfl ?_ ?_
  · intro q1
    refine r_iconst C 158 (0 : Int32) dsa_157 rfl rfl ?_
    exact r_nreturn C (0 : Int32) rfl (t := .boolean) (by simp) rfl dsa_158 (by decide) (by decide) ⟨by rw [sm, if_pos q1], KP, ⟨E_w, F_w_times, F_w_collected, F_w_oldest, F_w_count⟩, V_t, V_c⟩
  · intro q1
    refine r_lload C 137 dsa_135 rfl rfl ?_
    refine r_l2d C 138 dsa_137 rfl ?_
    refine r_ldc2D C 141 dsa_138 rfl (hw _ (List.mem_of_getElem? (i := 31) rfl)) ?_
    refine r_dmul C 142 dsa_141 rfl (own_nn1 _) ?_
    refine r_ldc2D C 145 dsa_142 rfl (hw _ (List.mem_of_getElem? (i := 32) rfl)) ?_
    refine r_lload C 147 dsa_145 rfl rfl ?_
    refine r_l2d C 148 dsa_147 rfl ?_
    refine r_dmul C 149 dsa_148 rfl (own_nn2 _) ?_
    refine r_dcmpl C 150 dsa_149 rfl ?_
    have cw := OwnF.cmp09 hC hC2 (own_ge q1) hN
    refine r_if_lt C 157 153 dsa_150 (by decide) (by decide) rfl ?_ ?_
    · intro q2
      refine r_iconst C 158 (0 : Int32) dsa_157 rfl rfl ?_
      exact r_nreturn C (0 : Int32) rfl (t := .boolean) (by simp) rfl dsa_158 (by decide) (by decide) ⟨by rw [sm, if_neg q1, if_pos (cw.mp q2)], KP, ⟨E_w, F_w_times, F_w_collected, F_w_oldest, F_w_count⟩, V_t, V_c⟩
    · intro q2
      refine r_iconst C 154 (1 : Int32) dsa_153 rfl rfl ?_
      refine r_goto C 158 dsa_154 (by decide) (by decide) ?_
      exact r_nreturn C (1 : Int32) rfl (t := .boolean) (by simp) rfl dsa_158 (by decide) (by decide) ⟨by rw [sm, if_neg q1, if_neg (fun z => q2 (cw.mpr z))], KP, ⟨E_w, F_w_times, F_w_collected, F_w_oldest, F_w_count⟩, V_t, V_c⟩
theorem ef_rmSa_2_1_2 (w : Addr) (x : Int64) (y : Int64) : ∀ mI_, entryFrame mI_ #[(.ref w), (.long x), (.long y)] 10 = mkF mI_ 0 #[.val (.ref w), .val (.long x), .second, .val (.long y), .second, .unset, .unset, .unset, .unset, .unset] [] := fun mI_ => by first | (simp [entryFrame, mkF, argsToLocals, Value.category]; done) | rfl
set_option maxRecDepth 65536 in
set_option maxHeartbeats 40000000 in
theorem rmSa_2_1_2 (l : Launch) (Z : State) (a0 : Array Value) (hw : ∀ d ∈ tables_1, d.before a0 Z = true) (w : Addr) (x : Int64) (y : Int64) (w_times : Addr) (w_collected : Addr) (kt kc : ClassId) (s0 s1 d0 d1 : Int64) (h0 : Heap) (n0 : Nat) (Zs : n0 ≤ h0.size) (hW : HwW Z h0 w w_times w_collected (1 : Int32) (2 : Int32)) (V_t : Arv Z h0 w_times kt .long (2 : Int32) [(.long s0), (.long s1)] (.long (0 : Int64))) (V_c : Arv Z h0 w_collected kc .long (2 : Int32) [(.long d0), (.long d1)] (.long (0 : Int64))) (ntc : w_times ≠ w_collected) (g_w : n0 ≤ w) (g_w_times : n0 ≤ w_times) (g_w_collected : n0 ≤ w_collected) (hN : (x - s0).toInt < 68719476736) (hC : 0 ≤ (y - d0).toInt) (hC2 : (y - d0).toInt < 1000000) :
    Con l Z (⟨"com/example/indenture/indenture/app/HeapWatch", "sample", "(JJ)Z"⟩ : MethodName) prog_1_method_2_code 10 (some .boolean) [] ({ frames := 1, cells := 0, slots := 0, locals := 20 } : Room) n0 #[(.ref w), (.long x), (.long y)] h0 (fun v h => v = some (.int (sm (x - s0) (y - d0))) ∧ Keep h0 h [w, w_times, w_collected] ∧ HwW Z h w w_times w_collected (0 : Int32) (2 : Int32) ∧ Arv Z h w_times kt .long (2 : Int32) [(.long s0), (.long x)] (.long (0 : Int64)) ∧ Arv Z h w_collected kc .long (2 : Int32) [(.long d0), (.long y)] (.long (0 : Int64))) := by
  refine Con.of (plainFor_of_name pn_q0) (ef_rmSa_2_1_2 w x y) ?_
  intro K C
  replace C : Ok Z "com/example/indenture/indenture/app/HeapWatch" "sample" prog_1_method_2_code 10 (some .boolean) K := C
  have KP := Keep.refl h0 [w, w_times, w_collected]
  obtain ⟨E_w, F_w_times, F_w_collected, F_w_oldest, F_w_count⟩ := hW
  have nwt : w ≠ w_times := exaArvNe E_w (hw _ (List.mem_of_getElem? (i := 5) rfl)) V_t
  have nwc : w ≠ w_collected := exaArvNe E_w (hw _ (List.mem_of_getElem? (i := 5) rfl)) V_c
  refine r_aloadN C 1 dsa_0 rfl rfl rfl ?_
  refine r_getfield C 4 (host := "") (Or.inl (hw _ (List.mem_of_getElem? (i := 22) rfl))) Via.refl F_w_count dsa_1 rfl ?_
  refine r_aloadN C 5 dsa_4 rfl rfl rfl ?_
  refine r_getfield C 8 (host := "") (Or.inl (hw _ (List.mem_of_getElem? (i := 13) rfl))) Via.refl F_w_times dsa_5 rfl ?_
  refine r_arraylength C 9 V_t dsa_8 rfl ?_
  refine r_icmp_ne C 16 12 dsa_9 (by decide) (by decide) rfl (fun q => absurd q (by decide)) (fun _ => ?_)
  refine r_aloadN C 13 dsa_12 rfl rfl rfl ?_
  refine r_callP C 16 (y := (⟨"com/example/indenture/indenture/app/HeapWatch", "drop", "()V"⟩ : MethodName)) (a := w) [] [] (rmDr l Z a0 hw w w_times w_collected (1 : Int32) (2 : Int32) kt (2 : Int32) _ h0 n0 Zs ⟨E_w, F_w_times, F_w_collected, F_w_oldest, F_w_count⟩ V_t (by decide) g_w) (hw _ (List.mem_of_getElem? (i := 27) rfl)) (hw _ (List.mem_of_getElem? (i := 28) rfl)) (selPriv (hw _ (List.mem_of_getElem? (i := 5) rfl)) (hw _ (List.mem_of_getElem? (i := 29) rfl)) (hw _ (List.mem_of_getElem? (i := 28) rfl)) (by decide)) (hw _ (List.mem_of_getElem? (i := 29) rfl)) (hw _ (List.mem_of_getElem? (i := 6) rfl)) (hw _ (List.mem_of_getElem? (i := 30) rfl)) E_w.cell (by decide) (lenOf pd___V rfl) rfl rfl (by decide) (Nat.le_of_ble_eq_true rfl) (by decide) (by decide) rfl dsa_13 rfl ?_
  intro v1 h1 q1 z1
  obtain ⟨rfl, K1, hW⟩ := q1
  replace hW : HwW Z h1 w w_times w_collected (0 : Int32) (1 : Int32) := hW
  replace E_w := E_w.keep K1
  replace V_t := V_t.keep K1 (ninS (Ne.symm nwt) nin0)
  replace V_c := V_c.keep K1 (ninS (Ne.symm nwc) nin0)
  replace KP := KP.trans K1 (allS (Or.inl (List.mem_of_getElem? (i := 0) rfl)) all0)
  replace Zs := Nat.le_trans Zs K1.1
  obtain ⟨E_w, F_w_times, F_w_collected, F_w_oldest, F_w_count⟩ := hW
  show Run _ _ _ _ _ _ _ _ 16 #[.val (.ref w), .val (.long x), .second, .val (.long y), .second, .unset, .unset, .unset, .unset, .unset] []
  refine r_aloadN C 17 dsa_16 rfl rfl rfl ?_
  refine r_getfield C 20 (host := "") (Or.inl (hw _ (List.mem_of_getElem? (i := 24) rfl))) Via.refl F_w_oldest dsa_17 rfl ?_
  refine r_aloadN C 21 dsa_20 rfl rfl rfl ?_
  refine r_getfield C 24 (host := "") (Or.inl (hw _ (List.mem_of_getElem? (i := 22) rfl))) Via.refl F_w_count dsa_21 rfl ?_
  refine r_iadd C 25 dsa_24 rfl ?_
  show Run _ _ _ _ _ _ _ _ 25 #[.val (.ref w), .val (.long x), .second, .val (.long y), .second, .unset, .unset, .unset, .unset, .unset] [(.int (1 : Int32))]
  refine r_aloadN C 26 dsa_25 rfl rfl rfl ?_
  refine r_getfield C 29 (host := "") (Or.inl (hw _ (List.mem_of_getElem? (i := 13) rfl))) Via.refl F_w_times dsa_26 rfl ?_
  refine r_arraylength C 30 V_t dsa_29 rfl ?_
  refine r_irem C 31 dsa_30 rfl (by first | decide | assumption) ?_
  show Run _ _ _ _ _ _ _ _ 31 #[.val (.ref w), .val (.long x), .second, .val (.long y), .second, .unset, .unset, .unset, .unset, .unset] [(.int (1 : Int32))]
  refine r_istore C 33 #[.val (.ref w), .val (.long x), .second, .val (.long y), .second, .val (.int (1 : Int32)), .unset, .unset, .unset, .unset] dsa_31 rfl rfl ?_
  refine r_aloadN C 34 dsa_33 rfl rfl rfl ?_
  refine r_getfield C 37 (host := "") (Or.inl (hw _ (List.mem_of_getElem? (i := 13) rfl))) Via.refl F_w_times dsa_34 rfl ?_
  refine r_iload C 39 dsa_37 rfl rfl ?_
  refine r_lloadN C 40 dsa_39 rfl rfl ?_
  refine r_lastore C 41 V_t ⟨by decide, by decide⟩ (Nat.le_of_ble_eq_true rfl) dsa_40 rfl g_w_times ?_
  intro h2 W2 V2
  replace E_w := E_w.wr W2
  replace V_c := V_c.other W2 (Ne.symm ntc)
  replace F_w_times := Fld.other W2 F_w_times (Or.inl nwt)
  replace F_w_collected := Fld.other W2 F_w_collected (Or.inl nwt)
  replace F_w_oldest := Fld.other W2 F_w_oldest (Or.inl nwt)
  replace F_w_count := Fld.other W2 F_w_count (Or.inl nwt)
  replace Zs := Nat.le_trans Zs (Nat.le_of_eq W2.size.symm)
  replace KP := KP.wr W2 (Or.inl (List.mem_of_getElem? (i := 1) rfl))
  replace V_t : Arv Z h2 w_times kt .long (2 : Int32) [(.long s0), (.long x)] (.long (0 : Int64)) := V2
  refine r_aloadN C 42 dsa_41 rfl rfl rfl ?_
  refine r_getfield C 45 (host := "") (Or.inl (hw _ (List.mem_of_getElem? (i := 15) rfl))) Via.refl F_w_collected dsa_42 rfl ?_
  refine r_iload C 47 dsa_45 rfl rfl ?_
  refine r_lloadN C 48 dsa_47 rfl rfl ?_
  refine r_lastore C 49 V_c ⟨by decide, by decide⟩ (Nat.le_of_ble_eq_true rfl) dsa_48 rfl g_w_collected ?_
  intro h3 W3 V3
  replace E_w := E_w.wr W3
  replace V_t := V_t.other W3 ntc
  replace F_w_times := Fld.other W3 F_w_times (Or.inl nwc)
  replace F_w_collected := Fld.other W3 F_w_collected (Or.inl nwc)
  replace F_w_oldest := Fld.other W3 F_w_oldest (Or.inl nwc)
  replace F_w_count := Fld.other W3 F_w_count (Or.inl nwc)
  replace Zs := Nat.le_trans Zs (Nat.le_of_eq W3.size.symm)
  replace KP := KP.wr W3 (Or.inl (List.mem_of_getElem? (i := 2) rfl))
  replace V_c : Arv Z h3 w_collected kc .long (2 : Int32) [(.long d0), (.long y)] (.long (0 : Int64)) := V3
  refine r_aloadN C 50 dsa_49 rfl rfl rfl ?_
  refine r_dup C 51 dsa_50 rfl rfl ?_
  refine r_getfield C 54 (host := "") (Or.inl (hw _ (List.mem_of_getElem? (i := 22) rfl))) Via.refl F_w_count dsa_51 rfl ?_
  refine r_iconst C 55 (1 : Int32) dsa_54 rfl rfl ?_
  refine r_iadd C 56 dsa_55 rfl ?_
  show Run _ _ _ _ _ _ _ _ 56 #[.val (.ref w), .val (.long x), .second, .val (.long y), .second, .val (.int (1 : Int32)), .unset, .unset, .unset, .unset] [(.int (2 : Int32)), (.ref w)]
  refine r_putfield C 59 (host := "") (Or.inl (hw _ (List.mem_of_getElem? (i := 22) rfl))) Via.refl F_w_count E_w (Or.inl (hw _ (List.mem_of_getElem? (i := 23) rfl))) (hw _ (List.mem_of_getElem? (i := 5) rfl)) (ty := .int) (by decide) rfl rfl dsa_56 rfl g_w ?_
  intro h4 W4
  replace E_w := E_w.wr W4
  replace V_t := V_t.other W4 (Ne.symm nwt)
  replace V_c := V_c.other W4 (Ne.symm nwc)
  replace F_w_times := Fld.other W4 F_w_times (Or.inr (slot_ne (Or.inr (hw _ (List.mem_of_getElem? (i := 14) rfl))) (Or.inl (hw _ (List.mem_of_getElem? (i := 23) rfl))) (by decide) (t := (.array .long)) (t' := .int) (by decide) (by decide)))
  replace F_w_collected := Fld.other W4 F_w_collected (Or.inr (slot_ne (Or.inr (hw _ (List.mem_of_getElem? (i := 16) rfl))) (Or.inl (hw _ (List.mem_of_getElem? (i := 23) rfl))) (by decide) (t := (.array .long)) (t' := .int) (by decide) (by decide)))
  replace F_w_oldest := Fld.other W4 F_w_oldest (Or.inr (slot_ne (Or.inl (hw _ (List.mem_of_getElem? (i := 25) rfl))) (Or.inl (hw _ (List.mem_of_getElem? (i := 23) rfl))) (by decide) (t := .int) (t' := .int) (by decide) (by decide)))
  replace F_w_count := F_w_count.same W4
  replace Zs := Nat.le_trans Zs (Nat.le_of_eq W4.size.symm)
  replace KP := KP.wr W4 (Or.inl (List.mem_of_getElem? (i := 0) rfl))
  refine r_aloadN C 60 dsa_59 rfl rfl rfl ?_
  refine r_getfield C 63 (host := "") (Or.inl (hw _ (List.mem_of_getElem? (i := 22) rfl))) Via.refl F_w_count dsa_60 rfl ?_
  refine r_iconst C 64 (1 : Int32) dsa_63 rfl rfl ?_
  refine r_icmp_le C 100 67 dsa_64 (by decide) (by decide) rfl (fun q => absurd q (by decide)) (fun _ => ?_)
  refine r_lloadN C 68 dsa_67 rfl rfl ?_
  refine r_aloadN C 69 dsa_68 rfl rfl rfl ?_
  refine r_getfield C 72 (host := "") (Or.inl (hw _ (List.mem_of_getElem? (i := 13) rfl))) Via.refl F_w_times dsa_69 rfl ?_
  refine r_aloadN C 73 dsa_72 rfl rfl rfl ?_
  refine r_getfield C 76 (host := "") (Or.inl (hw _ (List.mem_of_getElem? (i := 24) rfl))) Via.refl F_w_oldest dsa_73 rfl ?_
  refine r_iconst C 77 (1 : Int32) dsa_76 rfl rfl ?_
  refine r_iadd C 78 dsa_77 rfl ?_
  show Run _ _ _ _ _ _ _ _ 78 #[.val (.ref w), .val (.long x), .second, .val (.long y), .second, .val (.int (1 : Int32)), .unset, .unset, .unset, .unset] [(.int (1 : Int32)), (.ref w_times), (.long x)]
  refine r_aloadN C 79 dsa_78 rfl rfl rfl ?_
  refine r_getfield C 82 (host := "") (Or.inl (hw _ (List.mem_of_getElem? (i := 13) rfl))) Via.refl F_w_times dsa_79 rfl ?_
  refine r_arraylength C 83 V_t dsa_82 rfl ?_
  refine r_irem C 84 dsa_83 rfl (by first | decide | assumption) ?_
  show Run _ _ _ _ _ _ _ _ 84 #[.val (.ref w), .val (.long x), .second, .val (.long y), .second, .val (.int (1 : Int32)), .unset, .unset, .unset, .unset] [(.int (1 : Int32)), (.ref w_times), (.long x)]
  refine r_laload C 85 (v := (.long x)) V_t ⟨by decide, by decide⟩ rfl dsa_84 rfl ?_
  refine r_lsub C 86 dsa_85 rfl ?_
  refine r_ldc2_w C 89 dsa_86 rfl (hw _ (List.mem_of_getElem? (i := 26) rfl)) ?_
  refine r_lcmp_lt C 90 100 93 dsa_89 rfl dsa_90 (by decide) (by decide) rfl (fun _ => ?_) (fun q => absurd (own_self x) q)
  refine r_lloadN C 101 dsa_100 rfl rfl ?_
  refine r_aloadN C 102 dsa_101 rfl rfl rfl ?_
  refine r_getfield C 105 (host := "") (Or.inl (hw _ (List.mem_of_getElem? (i := 13) rfl))) Via.refl F_w_times dsa_102 rfl ?_
  refine r_aloadN C 106 dsa_105 rfl rfl rfl ?_
  refine r_getfield C 109 (host := "") (Or.inl (hw _ (List.mem_of_getElem? (i := 24) rfl))) Via.refl F_w_oldest dsa_106 rfl ?_
  refine r_laload C 110 (v := (.long s0)) V_t ⟨by decide, by decide⟩ rfl dsa_109 rfl ?_
  refine r_lsub C 111 dsa_110 rfl ?_
  refine r_lstore C 113 #[.val (.ref w), .val (.long x), .second, .val (.long y), .second, .val (.int (1 : Int32)), .val (.long (x - s0)), .second, .unset, .unset] dsa_111 rfl rfl ?_
  refine r_lloadN C 114 dsa_113 rfl rfl ?_
  refine r_aloadN C 115 dsa_114 rfl rfl rfl ?_
  refine r_getfield C 118 (host := "") (Or.inl (hw _ (List.mem_of_getElem? (i := 15) rfl))) Via.refl F_w_collected dsa_115 rfl ?_
  refine r_aloadN C 119 dsa_118 rfl rfl rfl ?_
  refine r_getfield C 122 (host := "") (Or.inl (hw _ (List.mem_of_getElem? (i := 24) rfl))) Via.refl F_w_oldest dsa_119 rfl ?_
  refine r_laload C 123 (v := (.long d0)) V_c ⟨by decide, by decide⟩ rfl dsa_122 rfl ?_
  refine r_lsub C 124 dsa_123 rfl ?_
  refine r_lstore C 126 #[.val (.ref w), .val (.long x), .second, .val (.long y), .second, .val (.int (1 : Int32)), .val (.long (x - s0)), .second, .val (.long (y - d0)), .second] dsa_124 rfl rfl ?_
  refine r_lload C 128 dsa_126 rfl rfl ?_
  refine r_ldc2_w C 131 dsa_128 rfl (hw _ (List.mem_of_getElem? (i := 26) rfl)) ?_
  refine r_lcmp_lt C 132 157 135 dsa_131 rfl dsa_132 (by decide) (by decide) rfl ?_ ?_
  · intro q1
    refine r_iconst C 158 (0 : Int32) dsa_157 rfl rfl ?_
    exact r_nreturn C (0 : Int32) rfl (t := .boolean) (by simp) rfl dsa_158 (by decide) (by decide) ⟨by rw [sm, if_pos q1], KP, ⟨E_w, F_w_times, F_w_collected, F_w_oldest, F_w_count⟩, V_t, V_c⟩
  · intro q1
    refine r_lload C 137 dsa_135 rfl rfl ?_
    refine r_l2d C 138 dsa_137 rfl ?_
    refine r_ldc2D C 141 dsa_138 rfl (hw _ (List.mem_of_getElem? (i := 31) rfl)) ?_
    refine r_dmul C 142 dsa_141 rfl (own_nn1 _) ?_
    refine r_ldc2D C 145 dsa_142 rfl (hw _ (List.mem_of_getElem? (i := 32) rfl)) ?_
    refine r_lload C 147 dsa_145 rfl rfl ?_
    refine r_l2d C 148 dsa_147 rfl ?_
    refine r_dmul C 149 dsa_148 rfl (own_nn2 _) ?_
    refine r_dcmpl C 150 dsa_149 rfl ?_
    have cw := OwnF.cmp09 hC hC2 (own_ge q1) hN
    refine r_if_lt C 157 153 dsa_150 (by decide) (by decide) rfl ?_ ?_
    · intro q2
      refine r_iconst C 158 (0 : Int32) dsa_157 rfl rfl ?_
      exact r_nreturn C (0 : Int32) rfl (t := .boolean) (by simp) rfl dsa_158 (by decide) (by decide) ⟨by rw [sm, if_neg q1, if_pos (cw.mp q2)], KP, ⟨E_w, F_w_times, F_w_collected, F_w_oldest, F_w_count⟩, V_t, V_c⟩
    · intro q2
      refine r_iconst C 154 (1 : Int32) dsa_153 rfl rfl ?_
      refine r_goto C 158 dsa_154 (by decide) (by decide) ?_
      exact r_nreturn C (1 : Int32) rfl (t := .boolean) (by simp) rfl dsa_158 (by decide) (by decide) ⟨by rw [sm, if_neg q1, if_neg (fun z => q2 (cw.mpr z))], KP, ⟨E_w, F_w_times, F_w_collected, F_w_oldest, F_w_count⟩, V_t, V_c⟩
theorem ef_rmSa_3_0_0 (w : Addr) (x : Int64) (y : Int64) : ∀ mI_, entryFrame mI_ #[(.ref w), (.long x), (.long y)] 10 = mkF mI_ 0 #[.val (.ref w), .val (.long x), .second, .val (.long y), .second, .unset, .unset, .unset, .unset, .unset] [] := fun mI_ => by first | (simp [entryFrame, mkF, argsToLocals, Value.category]; done) | rfl
set_option maxRecDepth 65536 in
set_option maxHeartbeats 40000000 in
theorem rmSa_3_0_0 (l : Launch) (Z : State) (a0 : Array Value) (hw : ∀ d ∈ tables_1, d.before a0 Z = true) (w : Addr) (x : Int64) (y : Int64) (w_times : Addr) (w_collected : Addr) (kt kc : ClassId) (s0 s1 s2 d0 d1 d2 : Int64) (h0 : Heap) (n0 : Nat) (Zs : n0 ≤ h0.size) (hW : HwW Z h0 w w_times w_collected (0 : Int32) (0 : Int32)) (V_t : Arv Z h0 w_times kt .long (3 : Int32) [(.long s0), (.long s1), (.long s2)] (.long (0 : Int64))) (V_c : Arv Z h0 w_collected kc .long (3 : Int32) [(.long d0), (.long d1), (.long d2)] (.long (0 : Int64))) (ntc : w_times ≠ w_collected) (g_w : n0 ≤ w) (g_w_times : n0 ≤ w_times) (g_w_collected : n0 ≤ w_collected) (hN : (x - x).toInt < 68719476736) (hC : 0 ≤ (y - y).toInt) (hC2 : (y - y).toInt < 1000000) :
    Con l Z (⟨"com/example/indenture/indenture/app/HeapWatch", "sample", "(JJ)Z"⟩ : MethodName) prog_1_method_2_code 10 (some .boolean) [] ({ frames := 1, cells := 0, slots := 0, locals := 20 } : Room) n0 #[(.ref w), (.long x), (.long y)] h0 (fun v h => v = some (.int (sm (x - x) (y - y))) ∧ Keep h0 h [w, w_times, w_collected] ∧ HwW Z h w w_times w_collected (0 : Int32) (1 : Int32) ∧ Arv Z h w_times kt .long (3 : Int32) [(.long x), (.long s1), (.long s2)] (.long (0 : Int64)) ∧ Arv Z h w_collected kc .long (3 : Int32) [(.long y), (.long d1), (.long d2)] (.long (0 : Int64))) := by
  refine Con.of (plainFor_of_name pn_q0) (ef_rmSa_3_0_0 w x y) ?_
  intro K C
  replace C : Ok Z "com/example/indenture/indenture/app/HeapWatch" "sample" prog_1_method_2_code 10 (some .boolean) K := C
  have KP := Keep.refl h0 [w, w_times, w_collected]
  obtain ⟨E_w, F_w_times, F_w_collected, F_w_oldest, F_w_count⟩ := hW
  have nwt : w ≠ w_times := exaArvNe E_w (hw _ (List.mem_of_getElem? (i := 5) rfl)) V_t
  have nwc : w ≠ w_collected := exaArvNe E_w (hw _ (List.mem_of_getElem? (i := 5) rfl)) V_c
  refine r_aloadN C 1 dsa_0 rfl rfl rfl ?_
  refine r_getfield C 4 (host := "") (Or.inl (hw _ (List.mem_of_getElem? (i := 22) rfl))) Via.refl F_w_count dsa_1 rfl ?_
  refine r_aloadN C 5 dsa_4 rfl rfl rfl ?_
  refine r_getfield C 8 (host := "") (Or.inl (hw _ (List.mem_of_getElem? (i := 13) rfl))) Via.refl F_w_times dsa_5 rfl ?_
  refine r_arraylength C 9 V_t dsa_8 rfl ?_
  refine r_icmp_ne C 16 12 dsa_9 (by decide) (by decide) rfl (fun _ => ?_) (fun q => absurd q (by decide))
  refine r_aloadN C 17 dsa_16 rfl rfl rfl ?_
  refine r_getfield C 20 (host := "") (Or.inl (hw _ (List.mem_of_getElem? (i := 24) rfl))) Via.refl F_w_oldest dsa_17 rfl ?_
  refine r_aloadN C 21 dsa_20 rfl rfl rfl ?_
  refine r_getfield C 24 (host := "") (Or.inl (hw _ (List.mem_of_getElem? (i := 22) rfl))) Via.refl F_w_count dsa_21 rfl ?_
  refine r_iadd C 25 dsa_24 rfl ?_
  show Run _ _ _ _ _ _ _ _ 25 #[.val (.ref w), .val (.long x), .second, .val (.long y), .second, .unset, .unset, .unset, .unset, .unset] [(.int (0 : Int32))]
  refine r_aloadN C 26 dsa_25 rfl rfl rfl ?_
  refine r_getfield C 29 (host := "") (Or.inl (hw _ (List.mem_of_getElem? (i := 13) rfl))) Via.refl F_w_times dsa_26 rfl ?_
  refine r_arraylength C 30 V_t dsa_29 rfl ?_
  refine r_irem C 31 dsa_30 rfl (by first | decide | assumption) ?_
  show Run _ _ _ _ _ _ _ _ 31 #[.val (.ref w), .val (.long x), .second, .val (.long y), .second, .unset, .unset, .unset, .unset, .unset] [(.int (0 : Int32))]
  refine r_istore C 33 #[.val (.ref w), .val (.long x), .second, .val (.long y), .second, .val (.int (0 : Int32)), .unset, .unset, .unset, .unset] dsa_31 rfl rfl ?_
  refine r_aloadN C 34 dsa_33 rfl rfl rfl ?_
  refine r_getfield C 37 (host := "") (Or.inl (hw _ (List.mem_of_getElem? (i := 13) rfl))) Via.refl F_w_times dsa_34 rfl ?_
  refine r_iload C 39 dsa_37 rfl rfl ?_
  refine r_lloadN C 40 dsa_39 rfl rfl ?_
  refine r_lastore C 41 V_t ⟨by decide, by decide⟩ (Nat.le_of_ble_eq_true rfl) dsa_40 rfl g_w_times ?_
  intro h1 W1 V1
  replace E_w := E_w.wr W1
  replace F_w_times := Fld.other W1 F_w_times (Or.inl nwt)
  replace F_w_collected := Fld.other W1 F_w_collected (Or.inl nwt)
  replace F_w_oldest := Fld.other W1 F_w_oldest (Or.inl nwt)
  replace F_w_count := Fld.other W1 F_w_count (Or.inl nwt)
  replace V_c := V_c.other W1 (Ne.symm ntc)
  replace Zs := Nat.le_trans Zs (Nat.le_of_eq W1.size.symm)
  replace KP := KP.wr W1 (Or.inl (List.mem_of_getElem? (i := 1) rfl))
  replace V_t : Arv Z h1 w_times kt .long (3 : Int32) [(.long x), (.long s1), (.long s2)] (.long (0 : Int64)) := V1
  refine r_aloadN C 42 dsa_41 rfl rfl rfl ?_
  refine r_getfield C 45 (host := "") (Or.inl (hw _ (List.mem_of_getElem? (i := 15) rfl))) Via.refl F_w_collected dsa_42 rfl ?_
  refine r_iload C 47 dsa_45 rfl rfl ?_
  refine r_lloadN C 48 dsa_47 rfl rfl ?_
  refine r_lastore C 49 V_c ⟨by decide, by decide⟩ (Nat.le_of_ble_eq_true rfl) dsa_48 rfl g_w_collected ?_
  intro h2 W2 V2
  replace E_w := E_w.wr W2
  replace F_w_times := Fld.other W2 F_w_times (Or.inl nwc)
  replace F_w_collected := Fld.other W2 F_w_collected (Or.inl nwc)
  replace F_w_oldest := Fld.other W2 F_w_oldest (Or.inl nwc)
  replace F_w_count := Fld.other W2 F_w_count (Or.inl nwc)
  replace V_t := V_t.other W2 ntc
  replace Zs := Nat.le_trans Zs (Nat.le_of_eq W2.size.symm)
  replace KP := KP.wr W2 (Or.inl (List.mem_of_getElem? (i := 2) rfl))
  replace V_c : Arv Z h2 w_collected kc .long (3 : Int32) [(.long y), (.long d1), (.long d2)] (.long (0 : Int64)) := V2
  refine r_aloadN C 50 dsa_49 rfl rfl rfl ?_
  refine r_dup C 51 dsa_50 rfl rfl ?_
  refine r_getfield C 54 (host := "") (Or.inl (hw _ (List.mem_of_getElem? (i := 22) rfl))) Via.refl F_w_count dsa_51 rfl ?_
  refine r_iconst C 55 (1 : Int32) dsa_54 rfl rfl ?_
  refine r_iadd C 56 dsa_55 rfl ?_
  show Run _ _ _ _ _ _ _ _ 56 #[.val (.ref w), .val (.long x), .second, .val (.long y), .second, .val (.int (0 : Int32)), .unset, .unset, .unset, .unset] [(.int (1 : Int32)), (.ref w)]
  refine r_putfield C 59 (host := "") (Or.inl (hw _ (List.mem_of_getElem? (i := 22) rfl))) Via.refl F_w_count E_w (Or.inl (hw _ (List.mem_of_getElem? (i := 23) rfl))) (hw _ (List.mem_of_getElem? (i := 5) rfl)) (ty := .int) (by decide) rfl rfl dsa_56 rfl g_w ?_
  intro h3 W3
  replace E_w := E_w.wr W3
  replace F_w_times := Fld.other W3 F_w_times (Or.inr (slot_ne (Or.inr (hw _ (List.mem_of_getElem? (i := 14) rfl))) (Or.inl (hw _ (List.mem_of_getElem? (i := 23) rfl))) (by decide) (t := (.array .long)) (t' := .int) (by decide) (by decide)))
  replace F_w_collected := Fld.other W3 F_w_collected (Or.inr (slot_ne (Or.inr (hw _ (List.mem_of_getElem? (i := 16) rfl))) (Or.inl (hw _ (List.mem_of_getElem? (i := 23) rfl))) (by decide) (t := (.array .long)) (t' := .int) (by decide) (by decide)))
  replace F_w_oldest := Fld.other W3 F_w_oldest (Or.inr (slot_ne (Or.inl (hw _ (List.mem_of_getElem? (i := 25) rfl))) (Or.inl (hw _ (List.mem_of_getElem? (i := 23) rfl))) (by decide) (t := .int) (t' := .int) (by decide) (by decide)))
  replace V_t := V_t.other W3 (Ne.symm nwt)
  replace V_c := V_c.other W3 (Ne.symm nwc)
  replace F_w_count := F_w_count.same W3
  replace Zs := Nat.le_trans Zs (Nat.le_of_eq W3.size.symm)
  replace KP := KP.wr W3 (Or.inl (List.mem_of_getElem? (i := 0) rfl))
  refine r_aloadN C 60 dsa_59 rfl rfl rfl ?_
  refine r_getfield C 63 (host := "") (Or.inl (hw _ (List.mem_of_getElem? (i := 22) rfl))) Via.refl F_w_count dsa_60 rfl ?_
  refine r_iconst C 64 (1 : Int32) dsa_63 rfl rfl ?_
  refine r_icmp_le C 100 67 dsa_64 (by decide) (by decide) rfl (fun _ => ?_) (fun q => absurd q (by decide))
  refine r_lloadN C 101 dsa_100 rfl rfl ?_
  refine r_aloadN C 102 dsa_101 rfl rfl rfl ?_
  refine r_getfield C 105 (host := "") (Or.inl (hw _ (List.mem_of_getElem? (i := 13) rfl))) Via.refl F_w_times dsa_102 rfl ?_
  refine r_aloadN C 106 dsa_105 rfl rfl rfl ?_
  refine r_getfield C 109 (host := "") (Or.inl (hw _ (List.mem_of_getElem? (i := 24) rfl))) Via.refl F_w_oldest dsa_106 rfl ?_
  refine r_laload C 110 (v := (.long x)) V_t ⟨by decide, by decide⟩ rfl dsa_109 rfl ?_
  refine r_lsub C 111 dsa_110 rfl ?_
  refine r_lstore C 113 #[.val (.ref w), .val (.long x), .second, .val (.long y), .second, .val (.int (0 : Int32)), .val (.long (x - x)), .second, .unset, .unset] dsa_111 rfl rfl ?_
  refine r_lloadN C 114 dsa_113 rfl rfl ?_
  refine r_aloadN C 115 dsa_114 rfl rfl rfl ?_
  refine r_getfield C 118 (host := "") (Or.inl (hw _ (List.mem_of_getElem? (i := 15) rfl))) Via.refl F_w_collected dsa_115 rfl ?_
  refine r_aloadN C 119 dsa_118 rfl rfl rfl ?_
  refine r_getfield C 122 (host := "") (Or.inl (hw _ (List.mem_of_getElem? (i := 24) rfl))) Via.refl F_w_oldest dsa_119 rfl ?_
  refine r_laload C 123 (v := (.long y)) V_c ⟨by decide, by decide⟩ rfl dsa_122 rfl ?_
  refine r_lsub C 124 dsa_123 rfl ?_
  refine r_lstore C 126 #[.val (.ref w), .val (.long x), .second, .val (.long y), .second, .val (.int (0 : Int32)), .val (.long (x - x)), .second, .val (.long (y - y)), .second] dsa_124 rfl rfl ?_
  refine r_lload C 128 dsa_126 rfl rfl ?_
  refine r_ldc2_w C 131 dsa_128 rfl (hw _ (List.mem_of_getElem? (i := 26) rfl)) ?_
  refine r_lcmp_lt C 132 157 135 dsa_131 rfl dsa_132 (by decide) (by decide) rfl ?_ ?_
  · intro q1
    refine r_iconst C 158 (0 : Int32) dsa_157 rfl rfl ?_
    exact r_nreturn C (0 : Int32) rfl (t := .boolean) (by simp) rfl dsa_158 (by decide) (by decide) ⟨by rw [sm, if_pos q1], KP, ⟨E_w, F_w_times, F_w_collected, F_w_oldest, F_w_count⟩, V_t, V_c⟩
  · intro q1
    refine r_lload C 137 dsa_135 rfl rfl ?_
    refine r_l2d C 138 dsa_137 rfl ?_
    refine r_ldc2D C 141 dsa_138 rfl (hw _ (List.mem_of_getElem? (i := 31) rfl)) ?_
    refine r_dmul C 142 dsa_141 rfl (own_nn1 _) ?_
    refine r_ldc2D C 145 dsa_142 rfl (hw _ (List.mem_of_getElem? (i := 32) rfl)) ?_
    refine r_lload C 147 dsa_145 rfl rfl ?_
    refine r_l2d C 148 dsa_147 rfl ?_
    refine r_dmul C 149 dsa_148 rfl (own_nn2 _) ?_
    refine r_dcmpl C 150 dsa_149 rfl ?_
    have cw := OwnF.cmp09 hC hC2 (own_ge q1) hN
    refine r_if_lt C 157 153 dsa_150 (by decide) (by decide) rfl ?_ ?_
    · intro q2
      refine r_iconst C 158 (0 : Int32) dsa_157 rfl rfl ?_
      exact r_nreturn C (0 : Int32) rfl (t := .boolean) (by simp) rfl dsa_158 (by decide) (by decide) ⟨by rw [sm, if_neg q1, if_pos (cw.mp q2)], KP, ⟨E_w, F_w_times, F_w_collected, F_w_oldest, F_w_count⟩, V_t, V_c⟩
    · intro q2
      refine r_iconst C 154 (1 : Int32) dsa_153 rfl rfl ?_
      refine r_goto C 158 dsa_154 (by decide) (by decide) ?_
      exact r_nreturn C (1 : Int32) rfl (t := .boolean) (by simp) rfl dsa_158 (by decide) (by decide) ⟨by rw [sm, if_neg q1, if_neg (fun z => q2 (cw.mpr z))], KP, ⟨E_w, F_w_times, F_w_collected, F_w_oldest, F_w_count⟩, V_t, V_c⟩
theorem ef_rmSa_3_0_1 (w : Addr) (x : Int64) (y : Int64) : ∀ mI_, entryFrame mI_ #[(.ref w), (.long x), (.long y)] 10 = mkF mI_ 0 #[.val (.ref w), .val (.long x), .second, .val (.long y), .second, .unset, .unset, .unset, .unset, .unset] [] := fun mI_ => by first | (simp [entryFrame, mkF, argsToLocals, Value.category]; done) | rfl
set_option maxRecDepth 65536 in
set_option maxHeartbeats 40000000 in
theorem rmSa_3_0_1 (l : Launch) (Z : State) (a0 : Array Value) (hw : ∀ d ∈ tables_1, d.before a0 Z = true) (w : Addr) (x : Int64) (y : Int64) (w_times : Addr) (w_collected : Addr) (kt kc : ClassId) (s0 s1 s2 d0 d1 d2 : Int64) (h0 : Heap) (n0 : Nat) (Zs : n0 ≤ h0.size) (hW : HwW Z h0 w w_times w_collected (0 : Int32) (1 : Int32)) (V_t : Arv Z h0 w_times kt .long (3 : Int32) [(.long s0), (.long s1), (.long s2)] (.long (0 : Int64))) (V_c : Arv Z h0 w_collected kc .long (3 : Int32) [(.long d0), (.long d1), (.long d2)] (.long (0 : Int64))) (ntc : w_times ≠ w_collected) (g_w : n0 ≤ w) (g_w_times : n0 ≤ w_times) (g_w_collected : n0 ≤ w_collected) (hN : (x - s0).toInt < 68719476736) (hC : 0 ≤ (y - d0).toInt) (hC2 : (y - d0).toInt < 1000000) :
    Con l Z (⟨"com/example/indenture/indenture/app/HeapWatch", "sample", "(JJ)Z"⟩ : MethodName) prog_1_method_2_code 10 (some .boolean) [] ({ frames := 1, cells := 0, slots := 0, locals := 20 } : Room) n0 #[(.ref w), (.long x), (.long y)] h0 (fun v h => v = some (.int (sm (x - s0) (y - d0))) ∧ Keep h0 h [w, w_times, w_collected] ∧ HwW Z h w w_times w_collected (0 : Int32) (2 : Int32) ∧ Arv Z h w_times kt .long (3 : Int32) [(.long s0), (.long x), (.long s2)] (.long (0 : Int64)) ∧ Arv Z h w_collected kc .long (3 : Int32) [(.long d0), (.long y), (.long d2)] (.long (0 : Int64))) := by
  refine Con.of (plainFor_of_name pn_q0) (ef_rmSa_3_0_1 w x y) ?_
  intro K C
  replace C : Ok Z "com/example/indenture/indenture/app/HeapWatch" "sample" prog_1_method_2_code 10 (some .boolean) K := C
  have KP := Keep.refl h0 [w, w_times, w_collected]
  obtain ⟨E_w, F_w_times, F_w_collected, F_w_oldest, F_w_count⟩ := hW
  have nwt : w ≠ w_times := exaArvNe E_w (hw _ (List.mem_of_getElem? (i := 5) rfl)) V_t
  have nwc : w ≠ w_collected := exaArvNe E_w (hw _ (List.mem_of_getElem? (i := 5) rfl)) V_c
  refine r_aloadN C 1 dsa_0 rfl rfl rfl ?_
  refine r_getfield C 4 (host := "") (Or.inl (hw _ (List.mem_of_getElem? (i := 22) rfl))) Via.refl F_w_count dsa_1 rfl ?_
  refine r_aloadN C 5 dsa_4 rfl rfl rfl ?_
  refine r_getfield C 8 (host := "") (Or.inl (hw _ (List.mem_of_getElem? (i := 13) rfl))) Via.refl F_w_times dsa_5 rfl ?_
  refine r_arraylength C 9 V_t dsa_8 rfl ?_
  refine r_icmp_ne C 16 12 dsa_9 (by decide) (by decide) rfl (fun _ => ?_) (fun q => absurd q (by decide))
  refine r_aloadN C 17 dsa_16 rfl rfl rfl ?_
  refine r_getfield C 20 (host := "") (Or.inl (hw _ (List.mem_of_getElem? (i := 24) rfl))) Via.refl F_w_oldest dsa_17 rfl ?_
  refine r_aloadN C 21 dsa_20 rfl rfl rfl ?_
  refine r_getfield C 24 (host := "") (Or.inl (hw _ (List.mem_of_getElem? (i := 22) rfl))) Via.refl F_w_count dsa_21 rfl ?_
  refine r_iadd C 25 dsa_24 rfl ?_
  show Run _ _ _ _ _ _ _ _ 25 #[.val (.ref w), .val (.long x), .second, .val (.long y), .second, .unset, .unset, .unset, .unset, .unset] [(.int (1 : Int32))]
  refine r_aloadN C 26 dsa_25 rfl rfl rfl ?_
  refine r_getfield C 29 (host := "") (Or.inl (hw _ (List.mem_of_getElem? (i := 13) rfl))) Via.refl F_w_times dsa_26 rfl ?_
  refine r_arraylength C 30 V_t dsa_29 rfl ?_
  refine r_irem C 31 dsa_30 rfl (by first | decide | assumption) ?_
  show Run _ _ _ _ _ _ _ _ 31 #[.val (.ref w), .val (.long x), .second, .val (.long y), .second, .unset, .unset, .unset, .unset, .unset] [(.int (1 : Int32))]
  refine r_istore C 33 #[.val (.ref w), .val (.long x), .second, .val (.long y), .second, .val (.int (1 : Int32)), .unset, .unset, .unset, .unset] dsa_31 rfl rfl ?_
  refine r_aloadN C 34 dsa_33 rfl rfl rfl ?_
  refine r_getfield C 37 (host := "") (Or.inl (hw _ (List.mem_of_getElem? (i := 13) rfl))) Via.refl F_w_times dsa_34 rfl ?_
  refine r_iload C 39 dsa_37 rfl rfl ?_
  refine r_lloadN C 40 dsa_39 rfl rfl ?_
  refine r_lastore C 41 V_t ⟨by decide, by decide⟩ (Nat.le_of_ble_eq_true rfl) dsa_40 rfl g_w_times ?_
  intro h1 W1 V1
  replace E_w := E_w.wr W1
  replace F_w_times := Fld.other W1 F_w_times (Or.inl nwt)
  replace F_w_collected := Fld.other W1 F_w_collected (Or.inl nwt)
  replace F_w_oldest := Fld.other W1 F_w_oldest (Or.inl nwt)
  replace F_w_count := Fld.other W1 F_w_count (Or.inl nwt)
  replace V_c := V_c.other W1 (Ne.symm ntc)
  replace Zs := Nat.le_trans Zs (Nat.le_of_eq W1.size.symm)
  replace KP := KP.wr W1 (Or.inl (List.mem_of_getElem? (i := 1) rfl))
  replace V_t : Arv Z h1 w_times kt .long (3 : Int32) [(.long s0), (.long x), (.long s2)] (.long (0 : Int64)) := V1
  refine r_aloadN C 42 dsa_41 rfl rfl rfl ?_
  refine r_getfield C 45 (host := "") (Or.inl (hw _ (List.mem_of_getElem? (i := 15) rfl))) Via.refl F_w_collected dsa_42 rfl ?_
  refine r_iload C 47 dsa_45 rfl rfl ?_
  refine r_lloadN C 48 dsa_47 rfl rfl ?_
  refine r_lastore C 49 V_c ⟨by decide, by decide⟩ (Nat.le_of_ble_eq_true rfl) dsa_48 rfl g_w_collected ?_
  intro h2 W2 V2
  replace E_w := E_w.wr W2
  replace F_w_times := Fld.other W2 F_w_times (Or.inl nwc)
  replace F_w_collected := Fld.other W2 F_w_collected (Or.inl nwc)
  replace F_w_oldest := Fld.other W2 F_w_oldest (Or.inl nwc)
  replace F_w_count := Fld.other W2 F_w_count (Or.inl nwc)
  replace V_t := V_t.other W2 ntc
  replace Zs := Nat.le_trans Zs (Nat.le_of_eq W2.size.symm)
  replace KP := KP.wr W2 (Or.inl (List.mem_of_getElem? (i := 2) rfl))
  replace V_c : Arv Z h2 w_collected kc .long (3 : Int32) [(.long d0), (.long y), (.long d2)] (.long (0 : Int64)) := V2
  refine r_aloadN C 50 dsa_49 rfl rfl rfl ?_
  refine r_dup C 51 dsa_50 rfl rfl ?_
  refine r_getfield C 54 (host := "") (Or.inl (hw _ (List.mem_of_getElem? (i := 22) rfl))) Via.refl F_w_count dsa_51 rfl ?_
  refine r_iconst C 55 (1 : Int32) dsa_54 rfl rfl ?_
  refine r_iadd C 56 dsa_55 rfl ?_
  show Run _ _ _ _ _ _ _ _ 56 #[.val (.ref w), .val (.long x), .second, .val (.long y), .second, .val (.int (1 : Int32)), .unset, .unset, .unset, .unset] [(.int (2 : Int32)), (.ref w)]
  refine r_putfield C 59 (host := "") (Or.inl (hw _ (List.mem_of_getElem? (i := 22) rfl))) Via.refl F_w_count E_w (Or.inl (hw _ (List.mem_of_getElem? (i := 23) rfl))) (hw _ (List.mem_of_getElem? (i := 5) rfl)) (ty := .int) (by decide) rfl rfl dsa_56 rfl g_w ?_
  intro h3 W3
  replace E_w := E_w.wr W3
  replace F_w_times := Fld.other W3 F_w_times (Or.inr (slot_ne (Or.inr (hw _ (List.mem_of_getElem? (i := 14) rfl))) (Or.inl (hw _ (List.mem_of_getElem? (i := 23) rfl))) (by decide) (t := (.array .long)) (t' := .int) (by decide) (by decide)))
  replace F_w_collected := Fld.other W3 F_w_collected (Or.inr (slot_ne (Or.inr (hw _ (List.mem_of_getElem? (i := 16) rfl))) (Or.inl (hw _ (List.mem_of_getElem? (i := 23) rfl))) (by decide) (t := (.array .long)) (t' := .int) (by decide) (by decide)))
  replace F_w_oldest := Fld.other W3 F_w_oldest (Or.inr (slot_ne (Or.inl (hw _ (List.mem_of_getElem? (i := 25) rfl))) (Or.inl (hw _ (List.mem_of_getElem? (i := 23) rfl))) (by decide) (t := .int) (t' := .int) (by decide) (by decide)))
  replace V_t := V_t.other W3 (Ne.symm nwt)
  replace V_c := V_c.other W3 (Ne.symm nwc)
  replace F_w_count := F_w_count.same W3
  replace Zs := Nat.le_trans Zs (Nat.le_of_eq W3.size.symm)
  replace KP := KP.wr W3 (Or.inl (List.mem_of_getElem? (i := 0) rfl))
  refine r_aloadN C 60 dsa_59 rfl rfl rfl ?_
  refine r_getfield C 63 (host := "") (Or.inl (hw _ (List.mem_of_getElem? (i := 22) rfl))) Via.refl F_w_count dsa_60 rfl ?_
  refine r_iconst C 64 (1 : Int32) dsa_63 rfl rfl ?_
  refine r_icmp_le C 100 67 dsa_64 (by decide) (by decide) rfl (fun q => absurd q (by decide)) (fun _ => ?_)
  refine r_lloadN C 68 dsa_67 rfl rfl ?_
  refine r_aloadN C 69 dsa_68 rfl rfl rfl ?_
  refine r_getfield C 72 (host := "") (Or.inl (hw _ (List.mem_of_getElem? (i := 13) rfl))) Via.refl F_w_times dsa_69 rfl ?_
  refine r_aloadN C 73 dsa_72 rfl rfl rfl ?_
  refine r_getfield C 76 (host := "") (Or.inl (hw _ (List.mem_of_getElem? (i := 24) rfl))) Via.refl F_w_oldest dsa_73 rfl ?_
  refine r_iconst C 77 (1 : Int32) dsa_76 rfl rfl ?_
  refine r_iadd C 78 dsa_77 rfl ?_
  show Run _ _ _ _ _ _ _ _ 78 #[.val (.ref w), .val (.long x), .second, .val (.long y), .second, .val (.int (1 : Int32)), .unset, .unset, .unset, .unset] [(.int (1 : Int32)), (.ref w_times), (.long x)]
  refine r_aloadN C 79 dsa_78 rfl rfl rfl ?_
  refine r_getfield C 82 (host := "") (Or.inl (hw _ (List.mem_of_getElem? (i := 13) rfl))) Via.refl F_w_times dsa_79 rfl ?_
  refine r_arraylength C 83 V_t dsa_82 rfl ?_
  refine r_irem C 84 dsa_83 rfl (by first | decide | assumption) ?_
  show Run _ _ _ _ _ _ _ _ 84 #[.val (.ref w), .val (.long x), .second, .val (.long y), .second, .val (.int (1 : Int32)), .unset, .unset, .unset, .unset] [(.int (1 : Int32)), (.ref w_times), (.long x)]
  refine r_laload C 85 (v := (.long x)) V_t ⟨by decide, by decide⟩ rfl dsa_84 rfl ?_
  refine r_lsub C 86 dsa_85 rfl ?_
  refine r_ldc2_w C 89 dsa_86 rfl (hw _ (List.mem_of_getElem? (i := 26) rfl)) ?_
  refine r_lcmp_lt C 90 100 93 dsa_89 rfl dsa_90 (by decide) (by decide) rfl (fun _ => ?_) (fun q => absurd (own_self x) q)
  refine r_lloadN C 101 dsa_100 rfl rfl ?_
  refine r_aloadN C 102 dsa_101 rfl rfl rfl ?_
  refine r_getfield C 105 (host := "") (Or.inl (hw _ (List.mem_of_getElem? (i := 13) rfl))) Via.refl F_w_times dsa_102 rfl ?_
  refine r_aloadN C 106 dsa_105 rfl rfl rfl ?_
  refine r_getfield C 109 (host := "") (Or.inl (hw _ (List.mem_of_getElem? (i := 24) rfl))) Via.refl F_w_oldest dsa_106 rfl ?_
  refine r_laload C 110 (v := (.long s0)) V_t ⟨by decide, by decide⟩ rfl dsa_109 rfl ?_
  refine r_lsub C 111 dsa_110 rfl ?_
  refine r_lstore C 113 #[.val (.ref w), .val (.long x), .second, .val (.long y), .second, .val (.int (1 : Int32)), .val (.long (x - s0)), .second, .unset, .unset] dsa_111 rfl rfl ?_
  refine r_lloadN C 114 dsa_113 rfl rfl ?_
  refine r_aloadN C 115 dsa_114 rfl rfl rfl ?_
  refine r_getfield C 118 (host := "") (Or.inl (hw _ (List.mem_of_getElem? (i := 15) rfl))) Via.refl F_w_collected dsa_115 rfl ?_
  refine r_aloadN C 119 dsa_118 rfl rfl rfl ?_
  refine r_getfield C 122 (host := "") (Or.inl (hw _ (List.mem_of_getElem? (i := 24) rfl))) Via.refl F_w_oldest dsa_119 rfl ?_
  refine r_laload C 123 (v := (.long d0)) V_c ⟨by decide, by decide⟩ rfl dsa_122 rfl ?_
  refine r_lsub C 124 dsa_123 rfl ?_
  refine r_lstore C 126 #[.val (.ref w), .val (.long x), .second, .val (.long y), .second, .val (.int (1 : Int32)), .val (.long (x - s0)), .second, .val (.long (y - d0)), .second] dsa_124 rfl rfl ?_
  refine r_lload C 128 dsa_126 rfl rfl ?_
  refine r_ldc2_w C 131 dsa_128 rfl (hw _ (List.mem_of_getElem? (i := 26) rfl)) ?_
  refine r_lcmp_lt C 132 157 135 dsa_131 rfl dsa_132 (by decide) (by decide) rfl ?_ ?_
  · intro q1
    refine r_iconst C 158 (0 : Int32) dsa_157 rfl rfl ?_
    exact r_nreturn C (0 : Int32) rfl (t := .boolean) (by simp) rfl dsa_158 (by decide) (by decide) ⟨by rw [sm, if_pos q1], KP, ⟨E_w, F_w_times, F_w_collected, F_w_oldest, F_w_count⟩, V_t, V_c⟩
  · intro q1
    refine r_lload C 137 dsa_135 rfl rfl ?_
    refine r_l2d C 138 dsa_137 rfl ?_
    refine r_ldc2D C 141 dsa_138 rfl (hw _ (List.mem_of_getElem? (i := 31) rfl)) ?_
    refine r_dmul C 142 dsa_141 rfl (own_nn1 _) ?_
    refine r_ldc2D C 145 dsa_142 rfl (hw _ (List.mem_of_getElem? (i := 32) rfl)) ?_
    refine r_lload C 147 dsa_145 rfl rfl ?_
    refine r_l2d C 148 dsa_147 rfl ?_
    refine r_dmul C 149 dsa_148 rfl (own_nn2 _) ?_
    refine r_dcmpl C 150 dsa_149 rfl ?_
    have cw := OwnF.cmp09 hC hC2 (own_ge q1) hN
    refine r_if_lt C 157 153 dsa_150 (by decide) (by decide) rfl ?_ ?_
    · intro q2
      refine r_iconst C 158 (0 : Int32) dsa_157 rfl rfl ?_
      exact r_nreturn C (0 : Int32) rfl (t := .boolean) (by simp) rfl dsa_158 (by decide) (by decide) ⟨by rw [sm, if_neg q1, if_pos (cw.mp q2)], KP, ⟨E_w, F_w_times, F_w_collected, F_w_oldest, F_w_count⟩, V_t, V_c⟩
    · intro q2
      refine r_iconst C 154 (1 : Int32) dsa_153 rfl rfl ?_
      refine r_goto C 158 dsa_154 (by decide) (by decide) ?_
      exact r_nreturn C (1 : Int32) rfl (t := .boolean) (by simp) rfl dsa_158 (by decide) (by decide) ⟨by rw [sm, if_neg q1, if_neg (fun z => q2 (cw.mpr z))], KP, ⟨E_w, F_w_times, F_w_collected, F_w_oldest, F_w_count⟩, V_t, V_c⟩
theorem ef_rmSa_3_0_2_0 (w : Addr) (x : Int64) (y : Int64) : ∀ mI_, entryFrame mI_ #[(.ref w), (.long x), (.long y)] 10 = mkF mI_ 0 #[.val (.ref w), .val (.long x), .second, .val (.long y), .second, .unset, .unset, .unset, .unset, .unset] [] := fun mI_ => by first | (simp [entryFrame, mkF, argsToLocals, Value.category]; done) | rfl
set_option maxRecDepth 65536 in
set_option maxHeartbeats 40000000 in
theorem rmSa_3_0_2_0 (l : Launch) (Z : State) (a0 : Array Value) (hw : ∀ d ∈ tables_1, d.before a0 Z = true) (w : Addr) (x : Int64) (y : Int64) (w_times : Addr) (w_collected : Addr) (kt kc : ClassId) (s0 s1 s2 d0 d1 d2 : Int64) (h0 : Heap) (n0 : Nat) (Zs : n0 ≤ h0.size) (hW : HwW Z h0 w w_times w_collected (0 : Int32) (2 : Int32)) (V_t : Arv Z h0 w_times kt .long (3 : Int32) [(.long s0), (.long s1), (.long s2)] (.long (0 : Int64))) (V_c : Arv Z h0 w_collected kc .long (3 : Int32) [(.long d0), (.long d1), (.long d2)] (.long (0 : Int64))) (ntc : w_times ≠ w_collected) (g_w : n0 ≤ w) (g_w_times : n0 ≤ w_times) (g_w_collected : n0 ≤ w_collected) (b1 : (x - s1) < 5000000000) (hN : (x - s0).toInt < 68719476736) (hC : 0 ≤ (y - d0).toInt) (hC2 : (y - d0).toInt < 1000000) :
    Con l Z (⟨"com/example/indenture/indenture/app/HeapWatch", "sample", "(JJ)Z"⟩ : MethodName) prog_1_method_2_code 10 (some .boolean) [] ({ frames := 1, cells := 0, slots := 0, locals := 20 } : Room) n0 #[(.ref w), (.long x), (.long y)] h0 (fun v h => v = some (.int (sm (x - s0) (y - d0))) ∧ Keep h0 h [w, w_times, w_collected] ∧ HwW Z h w w_times w_collected (0 : Int32) (3 : Int32) ∧ Arv Z h w_times kt .long (3 : Int32) [(.long s0), (.long s1), (.long x)] (.long (0 : Int64)) ∧ Arv Z h w_collected kc .long (3 : Int32) [(.long d0), (.long d1), (.long y)] (.long (0 : Int64))) := by
  refine Con.of (plainFor_of_name pn_q0) (ef_rmSa_3_0_2_0 w x y) ?_
  intro K C
  replace C : Ok Z "com/example/indenture/indenture/app/HeapWatch" "sample" prog_1_method_2_code 10 (some .boolean) K := C
  have KP := Keep.refl h0 [w, w_times, w_collected]
  obtain ⟨E_w, F_w_times, F_w_collected, F_w_oldest, F_w_count⟩ := hW
  have nwt : w ≠ w_times := exaArvNe E_w (hw _ (List.mem_of_getElem? (i := 5) rfl)) V_t
  have nwc : w ≠ w_collected := exaArvNe E_w (hw _ (List.mem_of_getElem? (i := 5) rfl)) V_c
  refine r_aloadN C 1 dsa_0 rfl rfl rfl ?_
  refine r_getfield C 4 (host := "") (Or.inl (hw _ (List.mem_of_getElem? (i := 22) rfl))) Via.refl F_w_count dsa_1 rfl ?_
  refine r_aloadN C 5 dsa_4 rfl rfl rfl ?_
  refine r_getfield C 8 (host := "") (Or.inl (hw _ (List.mem_of_getElem? (i := 13) rfl))) Via.refl F_w_times dsa_5 rfl ?_
  refine r_arraylength C 9 V_t dsa_8 rfl ?_
  refine r_icmp_ne C 16 12 dsa_9 (by decide) (by decide) rfl (fun _ => ?_) (fun q => absurd q (by decide))
  refine r_aloadN C 17 dsa_16 rfl rfl rfl ?_
  refine r_getfield C 20 (host := "") (Or.inl (hw _ (List.mem_of_getElem? (i := 24) rfl))) Via.refl F_w_oldest dsa_17 rfl ?_
  refine r_aloadN C 21 dsa_20 rfl rfl rfl ?_
  refine r_getfield C 24 (host := "") (Or.inl (hw _ (List.mem_of_getElem? (i := 22) rfl))) Via.refl F_w_count dsa_21 rfl ?_
  refine r_iadd C 25 dsa_24 rfl ?_
  show Run _ _ _ _ _ _ _ _ 25 #[.val (.ref w), .val (.long x), .second, .val (.long y), .second, .unset, .unset, .unset, .unset, .unset] [(.int (2 : Int32))]
  refine r_aloadN C 26 dsa_25 rfl rfl rfl ?_
  refine r_getfield C 29 (host := "") (Or.inl (hw _ (List.mem_of_getElem? (i := 13) rfl))) Via.refl F_w_times dsa_26 rfl ?_
  refine r_arraylength C 30 V_t dsa_29 rfl ?_
  refine r_irem C 31 dsa_30 rfl (by first | decide | assumption) ?_
  show Run _ _ _ _ _ _ _ _ 31 #[.val (.ref w), .val (.long x), .second, .val (.long y), .second, .unset, .unset, .unset, .unset, .unset] [(.int (2 : Int32))]
  refine r_istore C 33 #[.val (.ref w), .val (.long x), .second, .val (.long y), .second, .val (.int (2 : Int32)), .unset, .unset, .unset, .unset] dsa_31 rfl rfl ?_
  refine r_aloadN C 34 dsa_33 rfl rfl rfl ?_
  refine r_getfield C 37 (host := "") (Or.inl (hw _ (List.mem_of_getElem? (i := 13) rfl))) Via.refl F_w_times dsa_34 rfl ?_
  refine r_iload C 39 dsa_37 rfl rfl ?_
  refine r_lloadN C 40 dsa_39 rfl rfl ?_
  refine r_lastore C 41 V_t ⟨by decide, by decide⟩ (Nat.le_of_ble_eq_true rfl) dsa_40 rfl g_w_times ?_
  intro h1 W1 V1
  replace E_w := E_w.wr W1
  replace F_w_times := Fld.other W1 F_w_times (Or.inl nwt)
  replace F_w_collected := Fld.other W1 F_w_collected (Or.inl nwt)
  replace F_w_oldest := Fld.other W1 F_w_oldest (Or.inl nwt)
  replace F_w_count := Fld.other W1 F_w_count (Or.inl nwt)
  replace V_c := V_c.other W1 (Ne.symm ntc)
  replace Zs := Nat.le_trans Zs (Nat.le_of_eq W1.size.symm)
  replace KP := KP.wr W1 (Or.inl (List.mem_of_getElem? (i := 1) rfl))
  replace V_t : Arv Z h1 w_times kt .long (3 : Int32) [(.long s0), (.long s1), (.long x)] (.long (0 : Int64)) := V1
  refine r_aloadN C 42 dsa_41 rfl rfl rfl ?_
  refine r_getfield C 45 (host := "") (Or.inl (hw _ (List.mem_of_getElem? (i := 15) rfl))) Via.refl F_w_collected dsa_42 rfl ?_
  refine r_iload C 47 dsa_45 rfl rfl ?_
  refine r_lloadN C 48 dsa_47 rfl rfl ?_
  refine r_lastore C 49 V_c ⟨by decide, by decide⟩ (Nat.le_of_ble_eq_true rfl) dsa_48 rfl g_w_collected ?_
  intro h2 W2 V2
  replace E_w := E_w.wr W2
  replace F_w_times := Fld.other W2 F_w_times (Or.inl nwc)
  replace F_w_collected := Fld.other W2 F_w_collected (Or.inl nwc)
  replace F_w_oldest := Fld.other W2 F_w_oldest (Or.inl nwc)
  replace F_w_count := Fld.other W2 F_w_count (Or.inl nwc)
  replace V_t := V_t.other W2 ntc
  replace Zs := Nat.le_trans Zs (Nat.le_of_eq W2.size.symm)
  replace KP := KP.wr W2 (Or.inl (List.mem_of_getElem? (i := 2) rfl))
  replace V_c : Arv Z h2 w_collected kc .long (3 : Int32) [(.long d0), (.long d1), (.long y)] (.long (0 : Int64)) := V2
  refine r_aloadN C 50 dsa_49 rfl rfl rfl ?_
  refine r_dup C 51 dsa_50 rfl rfl ?_
  refine r_getfield C 54 (host := "") (Or.inl (hw _ (List.mem_of_getElem? (i := 22) rfl))) Via.refl F_w_count dsa_51 rfl ?_
  refine r_iconst C 55 (1 : Int32) dsa_54 rfl rfl ?_
  refine r_iadd C 56 dsa_55 rfl ?_
  show Run _ _ _ _ _ _ _ _ 56 #[.val (.ref w), .val (.long x), .second, .val (.long y), .second, .val (.int (2 : Int32)), .unset, .unset, .unset, .unset] [(.int (3 : Int32)), (.ref w)]
  refine r_putfield C 59 (host := "") (Or.inl (hw _ (List.mem_of_getElem? (i := 22) rfl))) Via.refl F_w_count E_w (Or.inl (hw _ (List.mem_of_getElem? (i := 23) rfl))) (hw _ (List.mem_of_getElem? (i := 5) rfl)) (ty := .int) (by decide) rfl rfl dsa_56 rfl g_w ?_
  intro h3 W3
  replace E_w := E_w.wr W3
  replace F_w_times := Fld.other W3 F_w_times (Or.inr (slot_ne (Or.inr (hw _ (List.mem_of_getElem? (i := 14) rfl))) (Or.inl (hw _ (List.mem_of_getElem? (i := 23) rfl))) (by decide) (t := (.array .long)) (t' := .int) (by decide) (by decide)))
  replace F_w_collected := Fld.other W3 F_w_collected (Or.inr (slot_ne (Or.inr (hw _ (List.mem_of_getElem? (i := 16) rfl))) (Or.inl (hw _ (List.mem_of_getElem? (i := 23) rfl))) (by decide) (t := (.array .long)) (t' := .int) (by decide) (by decide)))
  replace F_w_oldest := Fld.other W3 F_w_oldest (Or.inr (slot_ne (Or.inl (hw _ (List.mem_of_getElem? (i := 25) rfl))) (Or.inl (hw _ (List.mem_of_getElem? (i := 23) rfl))) (by decide) (t := .int) (t' := .int) (by decide) (by decide)))
  replace V_t := V_t.other W3 (Ne.symm nwt)
  replace V_c := V_c.other W3 (Ne.symm nwc)
  replace F_w_count := F_w_count.same W3
  replace Zs := Nat.le_trans Zs (Nat.le_of_eq W3.size.symm)
  replace KP := KP.wr W3 (Or.inl (List.mem_of_getElem? (i := 0) rfl))
  refine r_aloadN C 60 dsa_59 rfl rfl rfl ?_
  refine r_getfield C 63 (host := "") (Or.inl (hw _ (List.mem_of_getElem? (i := 22) rfl))) Via.refl F_w_count dsa_60 rfl ?_
  refine r_iconst C 64 (1 : Int32) dsa_63 rfl rfl ?_
  refine r_icmp_le C 100 67 dsa_64 (by decide) (by decide) rfl (fun q => absurd q (by decide)) (fun _ => ?_)
  refine r_lloadN C 68 dsa_67 rfl rfl ?_
  refine r_aloadN C 69 dsa_68 rfl rfl rfl ?_
  refine r_getfield C 72 (host := "") (Or.inl (hw _ (List.mem_of_getElem? (i := 13) rfl))) Via.refl F_w_times dsa_69 rfl ?_
  refine r_aloadN C 73 dsa_72 rfl rfl rfl ?_
  refine r_getfield C 76 (host := "") (Or.inl (hw _ (List.mem_of_getElem? (i := 24) rfl))) Via.refl F_w_oldest dsa_73 rfl ?_
  refine r_iconst C 77 (1 : Int32) dsa_76 rfl rfl ?_
  refine r_iadd C 78 dsa_77 rfl ?_
  show Run _ _ _ _ _ _ _ _ 78 #[.val (.ref w), .val (.long x), .second, .val (.long y), .second, .val (.int (2 : Int32)), .unset, .unset, .unset, .unset] [(.int (1 : Int32)), (.ref w_times), (.long x)]
  refine r_aloadN C 79 dsa_78 rfl rfl rfl ?_
  refine r_getfield C 82 (host := "") (Or.inl (hw _ (List.mem_of_getElem? (i := 13) rfl))) Via.refl F_w_times dsa_79 rfl ?_
  refine r_arraylength C 83 V_t dsa_82 rfl ?_
  refine r_irem C 84 dsa_83 rfl (by first | decide | assumption) ?_
  show Run _ _ _ _ _ _ _ _ 84 #[.val (.ref w), .val (.long x), .second, .val (.long y), .second, .val (.int (2 : Int32)), .unset, .unset, .unset, .unset] [(.int (1 : Int32)), (.ref w_times), (.long x)]
  refine r_laload C 85 (v := (.long s1)) V_t ⟨by decide, by decide⟩ rfl dsa_84 rfl ?_
  refine r_lsub C 86 dsa_85 rfl ?_
  refine r_ldc2_w C 89 dsa_86 rfl (hw _ (List.mem_of_getElem? (i := 26) rfl)) ?_
  refine r_lcmp_lt C 90 100 93 dsa_89 rfl dsa_90 (by decide) (by decide) rfl (fun _ => ?_) (fun q => absurd b1 q)
  refine r_lloadN C 101 dsa_100 rfl rfl ?_
  refine r_aloadN C 102 dsa_101 rfl rfl rfl ?_
  refine r_getfield C 105 (host := "") (Or.inl (hw _ (List.mem_of_getElem? (i := 13) rfl))) Via.refl F_w_times dsa_102 rfl ?_
  refine r_aloadN C 106 dsa_105 rfl rfl rfl ?_
  refine r_getfield C 109 (host := "") (Or.inl (hw _ (List.mem_of_getElem? (i := 24) rfl))) Via.refl F_w_oldest dsa_106 rfl ?_
  refine r_laload C 110 (v := (.long s0)) V_t ⟨by decide, by decide⟩ rfl dsa_109 rfl ?_
  refine r_lsub C 111 dsa_110 rfl ?_
  refine r_lstore C 113 #[.val (.ref w), .val (.long x), .second, .val (.long y), .second, .val (.int (2 : Int32)), .val (.long (x - s0)), .second, .unset, .unset] dsa_111 rfl rfl ?_
  refine r_lloadN C 114 dsa_113 rfl rfl ?_
  refine r_aloadN C 115 dsa_114 rfl rfl rfl ?_
  refine r_getfield C 118 (host := "") (Or.inl (hw _ (List.mem_of_getElem? (i := 15) rfl))) Via.refl F_w_collected dsa_115 rfl ?_
  refine r_aloadN C 119 dsa_118 rfl rfl rfl ?_
  refine r_getfield C 122 (host := "") (Or.inl (hw _ (List.mem_of_getElem? (i := 24) rfl))) Via.refl F_w_oldest dsa_119 rfl ?_
  refine r_laload C 123 (v := (.long d0)) V_c ⟨by decide, by decide⟩ rfl dsa_122 rfl ?_
  refine r_lsub C 124 dsa_123 rfl ?_
  refine r_lstore C 126 #[.val (.ref w), .val (.long x), .second, .val (.long y), .second, .val (.int (2 : Int32)), .val (.long (x - s0)), .second, .val (.long (y - d0)), .second] dsa_124 rfl rfl ?_
  refine r_lload C 128 dsa_126 rfl rfl ?_
  refine r_ldc2_w C 131 dsa_128 rfl (hw _ (List.mem_of_getElem? (i := 26) rfl)) ?_
  refine r_lcmp_lt C 132 157 135 dsa_131 rfl dsa_132 (by decide) (by decide) rfl ?_ ?_
  · intro q1
    refine r_iconst C 158 (0 : Int32) dsa_157 rfl rfl ?_
    exact r_nreturn C (0 : Int32) rfl (t := .boolean) (by simp) rfl dsa_158 (by decide) (by decide) ⟨by rw [sm, if_pos q1], KP, ⟨E_w, F_w_times, F_w_collected, F_w_oldest, F_w_count⟩, V_t, V_c⟩
  · intro q1
    refine r_lload C 137 dsa_135 rfl rfl ?_
    refine r_l2d C 138 dsa_137 rfl ?_
    refine r_ldc2D C 141 dsa_138 rfl (hw _ (List.mem_of_getElem? (i := 31) rfl)) ?_
    refine r_dmul C 142 dsa_141 rfl (own_nn1 _) ?_
    refine r_ldc2D C 145 dsa_142 rfl (hw _ (List.mem_of_getElem? (i := 32) rfl)) ?_
    refine r_lload C 147 dsa_145 rfl rfl ?_
    refine r_l2d C 148 dsa_147 rfl ?_
    refine r_dmul C 149 dsa_148 rfl (own_nn2 _) ?_
    refine r_dcmpl C 150 dsa_149 rfl ?_
    have cw := OwnF.cmp09 hC hC2 (own_ge q1) hN
    refine r_if_lt C 157 153 dsa_150 (by decide) (by decide) rfl ?_ ?_
    · intro q2
      refine r_iconst C 158 (0 : Int32) dsa_157 rfl rfl ?_
      exact r_nreturn C (0 : Int32) rfl (t := .boolean) (by simp) rfl dsa_158 (by decide) (by decide) ⟨by rw [sm, if_neg q1, if_pos (cw.mp q2)], KP, ⟨E_w, F_w_times, F_w_collected, F_w_oldest, F_w_count⟩, V_t, V_c⟩
    · intro q2
      refine r_iconst C 154 (1 : Int32) dsa_153 rfl rfl ?_
      refine r_goto C 158 dsa_154 (by decide) (by decide) ?_
      exact r_nreturn C (1 : Int32) rfl (t := .boolean) (by simp) rfl dsa_158 (by decide) (by decide) ⟨by rw [sm, if_neg q1, if_neg (fun z => q2 (cw.mpr z))], KP, ⟨E_w, F_w_times, F_w_collected, F_w_oldest, F_w_count⟩, V_t, V_c⟩
theorem ef_rmSa_3_0_2_1 (w : Addr) (x : Int64) (y : Int64) : ∀ mI_, entryFrame mI_ #[(.ref w), (.long x), (.long y)] 10 = mkF mI_ 0 #[.val (.ref w), .val (.long x), .second, .val (.long y), .second, .unset, .unset, .unset, .unset, .unset] [] := fun mI_ => by first | (simp [entryFrame, mkF, argsToLocals, Value.category]; done) | rfl
set_option maxRecDepth 65536 in
set_option maxHeartbeats 40000000 in
theorem rmSa_3_0_2_1 (l : Launch) (Z : State) (a0 : Array Value) (hw : ∀ d ∈ tables_1, d.before a0 Z = true) (w : Addr) (x : Int64) (y : Int64) (w_times : Addr) (w_collected : Addr) (kt kc : ClassId) (s0 s1 s2 d0 d1 d2 : Int64) (h0 : Heap) (n0 : Nat) (Zs : n0 ≤ h0.size) (hW : HwW Z h0 w w_times w_collected (0 : Int32) (2 : Int32)) (V_t : Arv Z h0 w_times kt .long (3 : Int32) [(.long s0), (.long s1), (.long s2)] (.long (0 : Int64))) (V_c : Arv Z h0 w_collected kc .long (3 : Int32) [(.long d0), (.long d1), (.long d2)] (.long (0 : Int64))) (ntc : w_times ≠ w_collected) (g_w : n0 ≤ w) (g_w_times : n0 ≤ w_times) (g_w_collected : n0 ≤ w_collected) (b1 : ¬ (x - s1) < 5000000000) (hN : (x - s1).toInt < 68719476736) (hC : 0 ≤ (y - d1).toInt) (hC2 : (y - d1).toInt < 1000000) :
    Con l Z (⟨"com/example/indenture/indenture/app/HeapWatch", "sample", "(JJ)Z"⟩ : MethodName) prog_1_method_2_code 10 (some .boolean) [] ({ frames := 1, cells := 0, slots := 0, locals := 20 } : Room) n0 #[(.ref w), (.long x), (.long y)] h0 (fun v h => v = some (.int (sm (x - s1) (y - d1))) ∧ Keep h0 h [w, w_times, w_collected] ∧ HwW Z h w w_times w_collected (1 : Int32) (2 : Int32) ∧ Arv Z h w_times kt .long (3 : Int32) [(.long s0), (.long s1), (.long x)] (.long (0 : Int64)) ∧ Arv Z h w_collected kc .long (3 : Int32) [(.long d0), (.long d1), (.long y)] (.long (0 : Int64))) := by
  refine Con.of (plainFor_of_name pn_q0) (ef_rmSa_3_0_2_1 w x y) ?_
  intro K C
  replace C : Ok Z "com/example/indenture/indenture/app/HeapWatch" "sample" prog_1_method_2_code 10 (some .boolean) K := C
  have KP := Keep.refl h0 [w, w_times, w_collected]
  obtain ⟨E_w, F_w_times, F_w_collected, F_w_oldest, F_w_count⟩ := hW
  have nwt : w ≠ w_times := exaArvNe E_w (hw _ (List.mem_of_getElem? (i := 5) rfl)) V_t
  have nwc : w ≠ w_collected := exaArvNe E_w (hw _ (List.mem_of_getElem? (i := 5) rfl)) V_c
  refine r_aloadN C 1 dsa_0 rfl rfl rfl ?_
  refine r_getfield C 4 (host := "") (Or.inl (hw _ (List.mem_of_getElem? (i := 22) rfl))) Via.refl F_w_count dsa_1 rfl ?_
  refine r_aloadN C 5 dsa_4 rfl rfl rfl ?_
  refine r_getfield C 8 (host := "") (Or.inl (hw _ (List.mem_of_getElem? (i := 13) rfl))) Via.refl F_w_times dsa_5 rfl ?_
  refine r_arraylength C 9 V_t dsa_8 rfl ?_
  refine r_icmp_ne C 16 12 dsa_9 (by decide) (by decide) rfl (fun _ => ?_) (fun q => absurd q (by decide))
  refine r_aloadN C 17 dsa_16 rfl rfl rfl ?_
  refine r_getfield C 20 (host := "") (Or.inl (hw _ (List.mem_of_getElem? (i := 24) rfl))) Via.refl F_w_oldest dsa_17 rfl ?_
  refine r_aloadN C 21 dsa_20 rfl rfl rfl ?_
  refine r_getfield C 24 (host := "") (Or.inl (hw _ (List.mem_of_getElem? (i := 22) rfl))) Via.refl F_w_count dsa_21 rfl ?_
  refine r_iadd C 25 dsa_24 rfl ?_
  show Run _ _ _ _ _ _ _ _ 25 #[.val (.ref w), .val (.long x), .second, .val (.long y), .second, .unset, .unset, .unset, .unset, .unset] [(.int (2 : Int32))]
  refine r_aloadN C 26 dsa_25 rfl rfl rfl ?_
  refine r_getfield C 29 (host := "") (Or.inl (hw _ (List.mem_of_getElem? (i := 13) rfl))) Via.refl F_w_times dsa_26 rfl ?_
  refine r_arraylength C 30 V_t dsa_29 rfl ?_
  refine r_irem C 31 dsa_30 rfl (by first | decide | assumption) ?_
  show Run _ _ _ _ _ _ _ _ 31 #[.val (.ref w), .val (.long x), .second, .val (.long y), .second, .unset, .unset, .unset, .unset, .unset] [(.int (2 : Int32))]
  refine r_istore C 33 #[.val (.ref w), .val (.long x), .second, .val (.long y), .second, .val (.int (2 : Int32)), .unset, .unset, .unset, .unset] dsa_31 rfl rfl ?_
  refine r_aloadN C 34 dsa_33 rfl rfl rfl ?_
  refine r_getfield C 37 (host := "") (Or.inl (hw _ (List.mem_of_getElem? (i := 13) rfl))) Via.refl F_w_times dsa_34 rfl ?_
  refine r_iload C 39 dsa_37 rfl rfl ?_
  refine r_lloadN C 40 dsa_39 rfl rfl ?_
  refine r_lastore C 41 V_t ⟨by decide, by decide⟩ (Nat.le_of_ble_eq_true rfl) dsa_40 rfl g_w_times ?_
  intro h1 W1 V1
  replace E_w := E_w.wr W1
  replace F_w_times := Fld.other W1 F_w_times (Or.inl nwt)
  replace F_w_collected := Fld.other W1 F_w_collected (Or.inl nwt)
  replace F_w_oldest := Fld.other W1 F_w_oldest (Or.inl nwt)
  replace F_w_count := Fld.other W1 F_w_count (Or.inl nwt)
  replace V_c := V_c.other W1 (Ne.symm ntc)
  replace Zs := Nat.le_trans Zs (Nat.le_of_eq W1.size.symm)
  replace KP := KP.wr W1 (Or.inl (List.mem_of_getElem? (i := 1) rfl))
  replace V_t : Arv Z h1 w_times kt .long (3 : Int32) [(.long s0), (.long s1), (.long x)] (.long (0 : Int64)) := V1
  refine r_aloadN C 42 dsa_41 rfl rfl rfl ?_
  refine r_getfield C 45 (host := "") (Or.inl (hw _ (List.mem_of_getElem? (i := 15) rfl))) Via.refl F_w_collected dsa_42 rfl ?_
  refine r_iload C 47 dsa_45 rfl rfl ?_
  refine r_lloadN C 48 dsa_47 rfl rfl ?_
  refine r_lastore C 49 V_c ⟨by decide, by decide⟩ (Nat.le_of_ble_eq_true rfl) dsa_48 rfl g_w_collected ?_
  intro h2 W2 V2
  replace E_w := E_w.wr W2
  replace F_w_times := Fld.other W2 F_w_times (Or.inl nwc)
  replace F_w_collected := Fld.other W2 F_w_collected (Or.inl nwc)
  replace F_w_oldest := Fld.other W2 F_w_oldest (Or.inl nwc)
  replace F_w_count := Fld.other W2 F_w_count (Or.inl nwc)
  replace V_t := V_t.other W2 ntc
  replace Zs := Nat.le_trans Zs (Nat.le_of_eq W2.size.symm)
  replace KP := KP.wr W2 (Or.inl (List.mem_of_getElem? (i := 2) rfl))
  replace V_c : Arv Z h2 w_collected kc .long (3 : Int32) [(.long d0), (.long d1), (.long y)] (.long (0 : Int64)) := V2
  refine r_aloadN C 50 dsa_49 rfl rfl rfl ?_
  refine r_dup C 51 dsa_50 rfl rfl ?_
  refine r_getfield C 54 (host := "") (Or.inl (hw _ (List.mem_of_getElem? (i := 22) rfl))) Via.refl F_w_count dsa_51 rfl ?_
  refine r_iconst C 55 (1 : Int32) dsa_54 rfl rfl ?_
  refine r_iadd C 56 dsa_55 rfl ?_
  show Run _ _ _ _ _ _ _ _ 56 #[.val (.ref w), .val (.long x), .second, .val (.long y), .second, .val (.int (2 : Int32)), .unset, .unset, .unset, .unset] [(.int (3 : Int32)), (.ref w)]
  refine r_putfield C 59 (host := "") (Or.inl (hw _ (List.mem_of_getElem? (i := 22) rfl))) Via.refl F_w_count E_w (Or.inl (hw _ (List.mem_of_getElem? (i := 23) rfl))) (hw _ (List.mem_of_getElem? (i := 5) rfl)) (ty := .int) (by decide) rfl rfl dsa_56 rfl g_w ?_
  intro h3 W3
  replace E_w := E_w.wr W3
  replace F_w_times := Fld.other W3 F_w_times (Or.inr (slot_ne (Or.inr (hw _ (List.mem_of_getElem? (i := 14) rfl))) (Or.inl (hw _ (List.mem_of_getElem? (i := 23) rfl))) (by decide) (t := (.array .long)) (t' := .int) (by decide) (by decide)))
  replace F_w_collected := Fld.other W3 F_w_collected (Or.inr (slot_ne (Or.inr (hw _ (List.mem_of_getElem? (i := 16) rfl))) (Or.inl (hw _ (List.mem_of_getElem? (i := 23) rfl))) (by decide) (t := (.array .long)) (t' := .int) (by decide) (by decide)))
  replace F_w_oldest := Fld.other W3 F_w_oldest (Or.inr (slot_ne (Or.inl (hw _ (List.mem_of_getElem? (i := 25) rfl))) (Or.inl (hw _ (List.mem_of_getElem? (i := 23) rfl))) (by decide) (t := .int) (t' := .int) (by decide) (by decide)))
  replace V_t := V_t.other W3 (Ne.symm nwt)
  replace V_c := V_c.other W3 (Ne.symm nwc)
  replace F_w_count := F_w_count.same W3
  replace Zs := Nat.le_trans Zs (Nat.le_of_eq W3.size.symm)
  replace KP := KP.wr W3 (Or.inl (List.mem_of_getElem? (i := 0) rfl))
  refine r_aloadN C 60 dsa_59 rfl rfl rfl ?_
  refine r_getfield C 63 (host := "") (Or.inl (hw _ (List.mem_of_getElem? (i := 22) rfl))) Via.refl F_w_count dsa_60 rfl ?_
  refine r_iconst C 64 (1 : Int32) dsa_63 rfl rfl ?_
  refine r_icmp_le C 100 67 dsa_64 (by decide) (by decide) rfl (fun q => absurd q (by decide)) (fun _ => ?_)
  refine r_lloadN C 68 dsa_67 rfl rfl ?_
  refine r_aloadN C 69 dsa_68 rfl rfl rfl ?_
  refine r_getfield C 72 (host := "") (Or.inl (hw _ (List.mem_of_getElem? (i := 13) rfl))) Via.refl F_w_times dsa_69 rfl ?_
  refine r_aloadN C 73 dsa_72 rfl rfl rfl ?_
  refine r_getfield C 76 (host := "") (Or.inl (hw _ (List.mem_of_getElem? (i := 24) rfl))) Via.refl F_w_oldest dsa_73 rfl ?_
  refine r_iconst C 77 (1 : Int32) dsa_76 rfl rfl ?_
  refine r_iadd C 78 dsa_77 rfl ?_
  show Run _ _ _ _ _ _ _ _ 78 #[.val (.ref w), .val (.long x), .second, .val (.long y), .second, .val (.int (2 : Int32)), .unset, .unset, .unset, .unset] [(.int (1 : Int32)), (.ref w_times), (.long x)]
  refine r_aloadN C 79 dsa_78 rfl rfl rfl ?_
  refine r_getfield C 82 (host := "") (Or.inl (hw _ (List.mem_of_getElem? (i := 13) rfl))) Via.refl F_w_times dsa_79 rfl ?_
  refine r_arraylength C 83 V_t dsa_82 rfl ?_
  refine r_irem C 84 dsa_83 rfl (by first | decide | assumption) ?_
  show Run _ _ _ _ _ _ _ _ 84 #[.val (.ref w), .val (.long x), .second, .val (.long y), .second, .val (.int (2 : Int32)), .unset, .unset, .unset, .unset] [(.int (1 : Int32)), (.ref w_times), (.long x)]
  refine r_laload C 85 (v := (.long s1)) V_t ⟨by decide, by decide⟩ rfl dsa_84 rfl ?_
  refine r_lsub C 86 dsa_85 rfl ?_
  refine r_ldc2_w C 89 dsa_86 rfl (hw _ (List.mem_of_getElem? (i := 26) rfl)) ?_
  refine r_lcmp_lt C 90 100 93 dsa_89 rfl dsa_90 (by decide) (by decide) rfl (fun q => absurd q b1) (fun _ => ?_)
  refine r_aloadN C 94 dsa_93 rfl rfl rfl ?_
  refine r_callP C 97 (y := (⟨"com/example/indenture/indenture/app/HeapWatch", "drop", "()V"⟩ : MethodName)) (a := w) [] [] (rmDr l Z a0 hw w w_times w_collected (0 : Int32) (3 : Int32) kt (3 : Int32) _ h3 n0 Zs ⟨E_w, F_w_times, F_w_collected, F_w_oldest, F_w_count⟩ V_t (by decide) g_w) (hw _ (List.mem_of_getElem? (i := 27) rfl)) (hw _ (List.mem_of_getElem? (i := 28) rfl)) (selPriv (hw _ (List.mem_of_getElem? (i := 5) rfl)) (hw _ (List.mem_of_getElem? (i := 29) rfl)) (hw _ (List.mem_of_getElem? (i := 28) rfl)) (by decide)) (hw _ (List.mem_of_getElem? (i := 29) rfl)) (hw _ (List.mem_of_getElem? (i := 6) rfl)) (hw _ (List.mem_of_getElem? (i := 30) rfl)) E_w.cell (by decide) (lenOf pd___V rfl) rfl rfl (by decide) (Nat.le_of_ble_eq_true rfl) (by decide) (by decide) rfl dsa_94 rfl ?_
  intro v4 h4 q4 z4
  obtain ⟨rfl, K4, hW⟩ := q4
  replace hW : HwW Z h4 w w_times w_collected (1 : Int32) (2 : Int32) := hW
  replace E_w := E_w.keep K4
  replace V_t := V_t.keep K4 (ninS (Ne.symm nwt) nin0)
  replace V_c := V_c.keep K4 (ninS (Ne.symm nwc) nin0)
  replace KP := KP.trans K4 (allS (Or.inl (List.mem_of_getElem? (i := 0) rfl)) all0)
  replace Zs := Nat.le_trans Zs K4.1
  obtain ⟨E_w, F_w_times, F_w_collected, F_w_oldest, F_w_count⟩ := hW
  show Run _ _ _ _ _ _ _ _ 97 #[.val (.ref w), .val (.long x), .second, .val (.long y), .second, .val (.int (2 : Int32)), .unset, .unset, .unset, .unset] []
  refine r_goto C 59 dsa_97 (by decide) (by decide) ?_
  refine r_aloadN C 60 dsa_59 rfl rfl rfl ?_
  refine r_getfield C 63 (host := "") (Or.inl (hw _ (List.mem_of_getElem? (i := 22) rfl))) Via.refl F_w_count dsa_60 rfl ?_
  refine r_iconst C 64 (1 : Int32) dsa_63 rfl rfl ?_
  refine r_icmp_le C 100 67 dsa_64 (by decide) (by decide) rfl (fun q => absurd q (by decide)) (fun _ => ?_)
  refine r_lloadN C 68 dsa_67 rfl rfl ?_
  refine r_aloadN C 69 dsa_68 rfl rfl rfl ?_
  refine r_getfield C 72 (host := "") (Or.inl (hw _ (List.mem_of_getElem? (i := 13) rfl))) Via.refl F_w_times dsa_69 rfl ?_
  refine r_aloadN C 73 dsa_72 rfl rfl rfl ?_
  refine r_getfield C 76 (host := "") (Or.inl (hw _ (List.mem_of_getElem? (i := 24) rfl))) Via.refl F_w_oldest dsa_73 rfl ?_
  refine r_iconst C 77 (1 : Int32) dsa_76 rfl rfl ?_
  refine r_iadd C 78 dsa_77 rfl ?_
  show Run _ _ _ _ _ _ _ _ 78 #[.val (.ref w), .val (.long x), .second, .val (.long y), .second, .val (.int (2 : Int32)), .unset, .unset, .unset, .unset] [(.int (2 : Int32)), (.ref w_times), (.long x)]
  refine r_aloadN C 79 dsa_78 rfl rfl rfl ?_
  refine r_getfield C 82 (host := "") (Or.inl (hw _ (List.mem_of_getElem? (i := 13) rfl))) Via.refl F_w_times dsa_79 rfl ?_
  refine r_arraylength C 83 V_t dsa_82 rfl ?_
  refine r_irem C 84 dsa_83 rfl (by first | decide | assumption) ?_
  show Run _ _ _ _ _ _ _ _ 84 #[.val (.ref w), .val (.long x), .second, .val (.long y), .second, .val (.int (2 : Int32)), .unset, .unset, .unset, .unset] [(.int (2 : Int32)), (.ref w_times), (.long x)]
  refine r_laload C 85 (v := (.long x)) V_t ⟨by decide, by decide⟩ rfl dsa_84 rfl ?_
  refine r_lsub C 86 dsa_85 rfl ?_
  refine r_ldc2_w C 89 dsa_86 rfl (hw _ (List.mem_of_getElem? (i := 26) rfl)) ?_
  refine r_lcmp_lt C 90 100 93 dsa_89 rfl dsa_90 (by decide) (by decide) rfl (fun _ => ?_) (fun q => absurd (own_self x) q)
  refine r_lloadN C 101 dsa_100 rfl rfl ?_
  refine r_aloadN C 102 dsa_101 rfl rfl rfl ?_
  refine r_getfield C 105 (host := "") (Or.inl (hw _ (List.mem_of_getElem? (i := 13) rfl))) Via.refl F_w_times dsa_102 rfl ?_
  refine r_aloadN C 106 dsa_105 rfl rfl rfl ?_
  refine r_getfield C 109 (host := "") (Or.inl (hw _ (List.mem_of_getElem? (i := 24) rfl))) Via.refl F_w_oldest dsa_106 rfl ?_
  refine r_laload C 110 (v := (.long s1)) V_t ⟨by decide, by decide⟩ rfl dsa_109 rfl ?_
  refine r_lsub C 111 dsa_110 rfl ?_
  refine r_lstore C 113 #[.val (.ref w), .val (.long x), .second, .val (.long y), .second, .val (.int (2 : Int32)), .val (.long (x - s1)), .second, .unset, .unset] dsa_111 rfl rfl ?_
  refine r_lloadN C 114 dsa_113 rfl rfl ?_
  refine r_aloadN C 115 dsa_114 rfl rfl rfl ?_
  refine r_getfield C 118 (host := "") (Or.inl (hw _ (List.mem_of_getElem? (i := 15) rfl))) Via.refl F_w_collected dsa_115 rfl ?_
  refine r_aloadN C 119 dsa_118 rfl rfl rfl ?_
  refine r_getfield C 122 (host := "") (Or.inl (hw _ (List.mem_of_getElem? (i := 24) rfl))) Via.refl F_w_oldest dsa_119 rfl ?_
  refine r_laload C 123 (v := (.long d1)) V_c ⟨by decide, by decide⟩ rfl dsa_122 rfl ?_
  refine r_lsub C 124 dsa_123 rfl ?_
  refine r_lstore C 126 #[.val (.ref w), .val (.long x), .second, .val (.long y), .second, .val (.int (2 : Int32)), .val (.long (x - s1)), .second, .val (.long (y - d1)), .second] dsa_124 rfl rfl ?_
  refine r_lload C 128 dsa_126 rfl rfl ?_
  refine r_ldc2_w C 131 dsa_128 rfl (hw _ (List.mem_of_getElem? (i := 26) rfl)) ?_
  refine r_lcmp_lt C 132 157 135 dsa_131 rfl dsa_132 (by decide) (by decide) rfl ?_ ?_
  · intro q1
    refine r_iconst C 158 (0 : Int32) dsa_157 rfl rfl ?_
    exact r_nreturn C (0 : Int32) rfl (t := .boolean) (by simp) rfl dsa_158 (by decide) (by decide) ⟨by rw [sm, if_pos q1], KP, ⟨E_w, F_w_times, F_w_collected, F_w_oldest, F_w_count⟩, V_t, V_c⟩
  · intro q1
    refine r_lload C 137 dsa_135 rfl rfl ?_
    refine r_l2d C 138 dsa_137 rfl ?_
    refine r_ldc2D C 141 dsa_138 rfl (hw _ (List.mem_of_getElem? (i := 31) rfl)) ?_
    refine r_dmul C 142 dsa_141 rfl (own_nn1 _) ?_
    refine r_ldc2D C 145 dsa_142 rfl (hw _ (List.mem_of_getElem? (i := 32) rfl)) ?_
    refine r_lload C 147 dsa_145 rfl rfl ?_
    refine r_l2d C 148 dsa_147 rfl ?_
    refine r_dmul C 149 dsa_148 rfl (own_nn2 _) ?_
    refine r_dcmpl C 150 dsa_149 rfl ?_
    have cw := OwnF.cmp09 hC hC2 (own_ge q1) hN
    refine r_if_lt C 157 153 dsa_150 (by decide) (by decide) rfl ?_ ?_
    · intro q2
      refine r_iconst C 158 (0 : Int32) dsa_157 rfl rfl ?_
      exact r_nreturn C (0 : Int32) rfl (t := .boolean) (by simp) rfl dsa_158 (by decide) (by decide) ⟨by rw [sm, if_neg q1, if_pos (cw.mp q2)], KP, ⟨E_w, F_w_times, F_w_collected, F_w_oldest, F_w_count⟩, V_t, V_c⟩
    · intro q2
      refine r_iconst C 154 (1 : Int32) dsa_153 rfl rfl ?_
      refine r_goto C 158 dsa_154 (by decide) (by decide) ?_
      exact r_nreturn C (1 : Int32) rfl (t := .boolean) (by simp) rfl dsa_158 (by decide) (by decide) ⟨by rw [sm, if_neg q1, if_neg (fun z => q2 (cw.mpr z))], KP, ⟨E_w, F_w_times, F_w_collected, F_w_oldest, F_w_count⟩, V_t, V_c⟩
theorem ef_rmSa_3_1_2_0 (w : Addr) (x : Int64) (y : Int64) : ∀ mI_, entryFrame mI_ #[(.ref w), (.long x), (.long y)] 10 = mkF mI_ 0 #[.val (.ref w), .val (.long x), .second, .val (.long y), .second, .unset, .unset, .unset, .unset, .unset] [] := fun mI_ => by first | (simp [entryFrame, mkF, argsToLocals, Value.category]; done) | rfl
set_option maxRecDepth 65536 in
set_option maxHeartbeats 40000000 in
theorem rmSa_3_1_2_0 (l : Launch) (Z : State) (a0 : Array Value) (hw : ∀ d ∈ tables_1, d.before a0 Z = true) (w : Addr) (x : Int64) (y : Int64) (w_times : Addr) (w_collected : Addr) (kt kc : ClassId) (s0 s1 s2 d0 d1 d2 : Int64) (h0 : Heap) (n0 : Nat) (Zs : n0 ≤ h0.size) (hW : HwW Z h0 w w_times w_collected (1 : Int32) (2 : Int32)) (V_t : Arv Z h0 w_times kt .long (3 : Int32) [(.long s0), (.long s1), (.long s2)] (.long (0 : Int64))) (V_c : Arv Z h0 w_collected kc .long (3 : Int32) [(.long d0), (.long d1), (.long d2)] (.long (0 : Int64))) (ntc : w_times ≠ w_collected) (g_w : n0 ≤ w) (g_w_times : n0 ≤ w_times) (g_w_collected : n0 ≤ w_collected) (b2 : (x - s2) < 5000000000) (hN : (x - s1).toInt < 68719476736) (hC : 0 ≤ (y - d1).toInt) (hC2 : (y - d1).toInt < 1000000) :
    Con l Z (⟨"com/example/indenture/indenture/app/HeapWatch", "sample", "(JJ)Z"⟩ : MethodName) prog_1_method_2_code 10 (some .boolean) [] ({ frames := 1, cells := 0, slots := 0, locals := 20 } : Room) n0 #[(.ref w), (.long x), (.long y)] h0 (fun v h => v = some (.int (sm (x - s1) (y - d1))) ∧ Keep h0 h [w, w_times, w_collected] ∧ HwW Z h w w_times w_collected (1 : Int32) (3 : Int32) ∧ Arv Z h w_times kt .long (3 : Int32) [(.long x), (.long s1), (.long s2)] (.long (0 : Int64)) ∧ Arv Z h w_collected kc .long (3 : Int32) [(.long y), (.long d1), (.long d2)] (.long (0 : Int64))) := by
  refine Con.of (plainFor_of_name pn_q0) (ef_rmSa_3_1_2_0 w x y) ?_
  intro K C
  replace C : Ok Z "com/example/indenture/indenture/app/HeapWatch" "sample" prog_1_method_2_code 10 (some .boolean) K := C
  have KP := Keep.refl h0 [w, w_times, w_collected]
  obtain ⟨E_w, F_w_times, F_w_collected, F_w_oldest, F_w_count⟩ := hW
  have nwt : w ≠ w_times := exaArvNe E_w (hw _ (List.mem_of_getElem? (i := 5) rfl)) V_t
  have nwc : w ≠ w_collected := exaArvNe E_w (hw _ (List.mem_of_getElem? (i := 5) rfl)) V_c
  refine r_aloadN C 1 dsa_0 rfl rfl rfl ?_
  refine r_getfield C 4 (host := "") (Or.inl (hw _ (List.mem_of_getElem? (i := 22) rfl))) Via.refl F_w_count dsa_1 rfl ?_
  refine r_aloadN C 5 dsa_4 rfl rfl rfl ?_
  refine r_getfield C 8 (host := "") (Or.inl (hw _ (List.mem_of_getElem? (i := 13) rfl))) Via.refl F_w_times dsa_5 rfl ?_
  refine r_arraylength C 9 V_t dsa_8 rfl ?_
  refine r_icmp_ne C 16 12 dsa_9 (by decide) (by decide) rfl (fun _ => ?_) (fun q => absurd q (by decide))
  refine r_aloadN C 17 dsa_16 rfl rfl rfl ?_
  refine r_getfield C 20 (host := "") (Or.inl (hw _ (List.mem_of_getElem? (i := 24) rfl))) Via.refl F_w_oldest dsa_17 rfl ?_
  refine r_aloadN C 21 dsa_20 rfl rfl rfl ?_
  refine r_getfield C 24 (host := "") (Or.inl (hw _ (List.mem_of_getElem? (i := 22) rfl))) Via.refl F_w_count dsa_21 rfl ?_
  refine r_iadd C 25 dsa_24 rfl ?_
  show Run _ _ _ _ _ _ _ _ 25 #[.val (.ref w), .val (.long x), .second, .val (.long y), .second, .unset, .unset, .unset, .unset, .unset] [(.int (3 : Int32))]
  refine r_aloadN C 26 dsa_25 rfl rfl rfl ?_
  refine r_getfield C 29 (host := "") (Or.inl (hw _ (List.mem_of_getElem? (i := 13) rfl))) Via.refl F_w_times dsa_26 rfl ?_
  refine r_arraylength C 30 V_t dsa_29 rfl ?_
  refine r_irem C 31 dsa_30 rfl (by first | decide | assumption) ?_
  show Run _ _ _ _ _ _ _ _ 31 #[.val (.ref w), .val (.long x), .second, .val (.long y), .second, .unset, .unset, .unset, .unset, .unset] [(.int (0 : Int32))]
  refine r_istore C 33 #[.val (.ref w), .val (.long x), .second, .val (.long y), .second, .val (.int (0 : Int32)), .unset, .unset, .unset, .unset] dsa_31 rfl rfl ?_
  refine r_aloadN C 34 dsa_33 rfl rfl rfl ?_
  refine r_getfield C 37 (host := "") (Or.inl (hw _ (List.mem_of_getElem? (i := 13) rfl))) Via.refl F_w_times dsa_34 rfl ?_
  refine r_iload C 39 dsa_37 rfl rfl ?_
  refine r_lloadN C 40 dsa_39 rfl rfl ?_
  refine r_lastore C 41 V_t ⟨by decide, by decide⟩ (Nat.le_of_ble_eq_true rfl) dsa_40 rfl g_w_times ?_
  intro h1 W1 V1
  replace E_w := E_w.wr W1
  replace F_w_times := Fld.other W1 F_w_times (Or.inl nwt)
  replace F_w_collected := Fld.other W1 F_w_collected (Or.inl nwt)
  replace F_w_oldest := Fld.other W1 F_w_oldest (Or.inl nwt)
  replace F_w_count := Fld.other W1 F_w_count (Or.inl nwt)
  replace V_c := V_c.other W1 (Ne.symm ntc)
  replace Zs := Nat.le_trans Zs (Nat.le_of_eq W1.size.symm)
  replace KP := KP.wr W1 (Or.inl (List.mem_of_getElem? (i := 1) rfl))
  replace V_t : Arv Z h1 w_times kt .long (3 : Int32) [(.long x), (.long s1), (.long s2)] (.long (0 : Int64)) := V1
  refine r_aloadN C 42 dsa_41 rfl rfl rfl ?_
  refine r_getfield C 45 (host := "") (Or.inl (hw _ (List.mem_of_getElem? (i := 15) rfl))) Via.refl F_w_collected dsa_42 rfl ?_
  refine r_iload C 47 dsa_45 rfl rfl ?_
  refine r_lloadN C 48 dsa_47 rfl rfl ?_
  refine r_lastore C 49 V_c ⟨by decide, by decide⟩ (Nat.le_of_ble_eq_true rfl) dsa_48 rfl g_w_collected ?_
  intro h2 W2 V2
  replace E_w := E_w.wr W2
  replace F_w_times := Fld.other W2 F_w_times (Or.inl nwc)
  replace F_w_collected := Fld.other W2 F_w_collected (Or.inl nwc)
  replace F_w_oldest := Fld.other W2 F_w_oldest (Or.inl nwc)
  replace F_w_count := Fld.other W2 F_w_count (Or.inl nwc)
  replace V_t := V_t.other W2 ntc
  replace Zs := Nat.le_trans Zs (Nat.le_of_eq W2.size.symm)
  replace KP := KP.wr W2 (Or.inl (List.mem_of_getElem? (i := 2) rfl))
  replace V_c : Arv Z h2 w_collected kc .long (3 : Int32) [(.long y), (.long d1), (.long d2)] (.long (0 : Int64)) := V2
  refine r_aloadN C 50 dsa_49 rfl rfl rfl ?_
  refine r_dup C 51 dsa_50 rfl rfl ?_
  refine r_getfield C 54 (host := "") (Or.inl (hw _ (List.mem_of_getElem? (i := 22) rfl))) Via.refl F_w_count dsa_51 rfl ?_
  refine r_iconst C 55 (1 : Int32) dsa_54 rfl rfl ?_
  refine r_iadd C 56 dsa_55 rfl ?_
  show Run _ _ _ _ _ _ _ _ 56 #[.val (.ref w), .val (.long x), .second, .val (.long y), .second, .val (.int (0 : Int32)), .unset, .unset, .unset, .unset] [(.int (3 : Int32)), (.ref w)]
  refine r_putfield C 59 (host := "") (Or.inl (hw _ (List.mem_of_getElem? (i := 22) rfl))) Via.refl F_w_count E_w (Or.inl (hw _ (List.mem_of_getElem? (i := 23) rfl))) (hw _ (List.mem_of_getElem? (i := 5) rfl)) (ty := .int) (by decide) rfl rfl dsa_56 rfl g_w ?_
  intro h3 W3
  replace E_w := E_w.wr W3
  replace F_w_times := Fld.other W3 F_w_times (Or.inr (slot_ne (Or.inr (hw _ (List.mem_of_getElem? (i := 14) rfl))) (Or.inl (hw _ (List.mem_of_getElem? (i := 23) rfl))) (by decide) (t := (.array .long)) (t' := .int) (by decide) (by decide)))
  replace F_w_collected := Fld.other W3 F_w_collected (Or.inr (slot_ne (Or.inr (hw _ (List.mem_of_getElem? (i := 16) rfl))) (Or.inl (hw _ (List.mem_of_getElem? (i := 23) rfl))) (by decide) (t := (.array .long)) (t' := .int) (by decide) (by decide)))
  replace F_w_oldest := Fld.other W3 F_w_oldest (Or.inr (slot_ne (Or.inl (hw _ (List.mem_of_getElem? (i := 25) rfl))) (Or.inl (hw _ (List.mem_of_getElem? (i := 23) rfl))) (by decide) (t := .int) (t' := .int) (by decide) (by decide)))
  replace V_t := V_t.other W3 (Ne.symm nwt)
  replace V_c := V_c.other W3 (Ne.symm nwc)
  replace F_w_count := F_w_count.same W3
  replace Zs := Nat.le_trans Zs (Nat.le_of_eq W3.size.symm)
  replace KP := KP.wr W3 (Or.inl (List.mem_of_getElem? (i := 0) rfl))
  refine r_aloadN C 60 dsa_59 rfl rfl rfl ?_
  refine r_getfield C 63 (host := "") (Or.inl (hw _ (List.mem_of_getElem? (i := 22) rfl))) Via.refl F_w_count dsa_60 rfl ?_
  refine r_iconst C 64 (1 : Int32) dsa_63 rfl rfl ?_
  refine r_icmp_le C 100 67 dsa_64 (by decide) (by decide) rfl (fun q => absurd q (by decide)) (fun _ => ?_)
  refine r_lloadN C 68 dsa_67 rfl rfl ?_
  refine r_aloadN C 69 dsa_68 rfl rfl rfl ?_
  refine r_getfield C 72 (host := "") (Or.inl (hw _ (List.mem_of_getElem? (i := 13) rfl))) Via.refl F_w_times dsa_69 rfl ?_
  refine r_aloadN C 73 dsa_72 rfl rfl rfl ?_
  refine r_getfield C 76 (host := "") (Or.inl (hw _ (List.mem_of_getElem? (i := 24) rfl))) Via.refl F_w_oldest dsa_73 rfl ?_
  refine r_iconst C 77 (1 : Int32) dsa_76 rfl rfl ?_
  refine r_iadd C 78 dsa_77 rfl ?_
  show Run _ _ _ _ _ _ _ _ 78 #[.val (.ref w), .val (.long x), .second, .val (.long y), .second, .val (.int (0 : Int32)), .unset, .unset, .unset, .unset] [(.int (2 : Int32)), (.ref w_times), (.long x)]
  refine r_aloadN C 79 dsa_78 rfl rfl rfl ?_
  refine r_getfield C 82 (host := "") (Or.inl (hw _ (List.mem_of_getElem? (i := 13) rfl))) Via.refl F_w_times dsa_79 rfl ?_
  refine r_arraylength C 83 V_t dsa_82 rfl ?_
  refine r_irem C 84 dsa_83 rfl (by first | decide | assumption) ?_
  show Run _ _ _ _ _ _ _ _ 84 #[.val (.ref w), .val (.long x), .second, .val (.long y), .second, .val (.int (0 : Int32)), .unset, .unset, .unset, .unset] [(.int (2 : Int32)), (.ref w_times), (.long x)]
  refine r_laload C 85 (v := (.long s2)) V_t ⟨by decide, by decide⟩ rfl dsa_84 rfl ?_
  refine r_lsub C 86 dsa_85 rfl ?_
  refine r_ldc2_w C 89 dsa_86 rfl (hw _ (List.mem_of_getElem? (i := 26) rfl)) ?_
  refine r_lcmp_lt C 90 100 93 dsa_89 rfl dsa_90 (by decide) (by decide) rfl (fun _ => ?_) (fun q => absurd b2 q)
  refine r_lloadN C 101 dsa_100 rfl rfl ?_
  refine r_aloadN C 102 dsa_101 rfl rfl rfl ?_
  refine r_getfield C 105 (host := "") (Or.inl (hw _ (List.mem_of_getElem? (i := 13) rfl))) Via.refl F_w_times dsa_102 rfl ?_
  refine r_aloadN C 106 dsa_105 rfl rfl rfl ?_
  refine r_getfield C 109 (host := "") (Or.inl (hw _ (List.mem_of_getElem? (i := 24) rfl))) Via.refl F_w_oldest dsa_106 rfl ?_
  refine r_laload C 110 (v := (.long s1)) V_t ⟨by decide, by decide⟩ rfl dsa_109 rfl ?_
  refine r_lsub C 111 dsa_110 rfl ?_
  refine r_lstore C 113 #[.val (.ref w), .val (.long x), .second, .val (.long y), .second, .val (.int (0 : Int32)), .val (.long (x - s1)), .second, .unset, .unset] dsa_111 rfl rfl ?_
  refine r_lloadN C 114 dsa_113 rfl rfl ?_
  refine r_aloadN C 115 dsa_114 rfl rfl rfl ?_
  refine r_getfield C 118 (host := "") (Or.inl (hw _ (List.mem_of_getElem? (i := 15) rfl))) Via.refl F_w_collected dsa_115 rfl ?_
  refine r_aloadN C 119 dsa_118 rfl rfl rfl ?_
  refine r_getfield C 122 (host := "") (Or.inl (hw _ (List.mem_of_getElem? (i := 24) rfl))) Via.refl F_w_oldest dsa_119 rfl ?_
  refine r_laload C 123 (v := (.long d1)) V_c ⟨by decide, by decide⟩ rfl dsa_122 rfl ?_
  refine r_lsub C 124 dsa_123 rfl ?_
  refine r_lstore C 126 #[.val (.ref w), .val (.long x), .second, .val (.long y), .second, .val (.int (0 : Int32)), .val (.long (x - s1)), .second, .val (.long (y - d1)), .second] dsa_124 rfl rfl ?_
  refine r_lload C 128 dsa_126 rfl rfl ?_
  refine r_ldc2_w C 131 dsa_128 rfl (hw _ (List.mem_of_getElem? (i := 26) rfl)) ?_
  refine r_lcmp_lt C 132 157 135 dsa_131 rfl dsa_132 (by decide) (by decide) rfl ?_ ?_
  · intro q1
    refine r_iconst C 158 (0 : Int32) dsa_157 rfl rfl ?_
    exact r_nreturn C (0 : Int32) rfl (t := .boolean) (by simp) rfl dsa_158 (by decide) (by decide) ⟨by rw [sm, if_pos q1], KP, ⟨E_w, F_w_times, F_w_collected, F_w_oldest, F_w_count⟩, V_t, V_c⟩
  · intro q1
    refine r_lload C 137 dsa_135 rfl rfl ?_
    refine r_l2d C 138 dsa_137 rfl ?_
    refine r_ldc2D C 141 dsa_138 rfl (hw _ (List.mem_of_getElem? (i := 31) rfl)) ?_
    refine r_dmul C 142 dsa_141 rfl (own_nn1 _) ?_
    refine r_ldc2D C 145 dsa_142 rfl (hw _ (List.mem_of_getElem? (i := 32) rfl)) ?_
    refine r_lload C 147 dsa_145 rfl rfl ?_
    refine r_l2d C 148 dsa_147 rfl ?_
    refine r_dmul C 149 dsa_148 rfl (own_nn2 _) ?_
    refine r_dcmpl C 150 dsa_149 rfl ?_
    have cw := OwnF.cmp09 hC hC2 (own_ge q1) hN
    refine r_if_lt C 157 153 dsa_150 (by decide) (by decide) rfl ?_ ?_
    · intro q2
      refine r_iconst C 158 (0 : Int32) dsa_157 rfl rfl ?_
      exact r_nreturn C (0 : Int32) rfl (t := .boolean) (by simp) rfl dsa_158 (by decide) (by decide) ⟨by rw [sm, if_neg q1, if_pos (cw.mp q2)], KP, ⟨E_w, F_w_times, F_w_collected, F_w_oldest, F_w_count⟩, V_t, V_c⟩
    · intro q2
      refine r_iconst C 154 (1 : Int32) dsa_153 rfl rfl ?_
      refine r_goto C 158 dsa_154 (by decide) (by decide) ?_
      exact r_nreturn C (1 : Int32) rfl (t := .boolean) (by simp) rfl dsa_158 (by decide) (by decide) ⟨by rw [sm, if_neg q1, if_neg (fun z => q2 (cw.mpr z))], KP, ⟨E_w, F_w_times, F_w_collected, F_w_oldest, F_w_count⟩, V_t, V_c⟩
theorem ef_rmSa_3_1_2_1 (w : Addr) (x : Int64) (y : Int64) : ∀ mI_, entryFrame mI_ #[(.ref w), (.long x), (.long y)] 10 = mkF mI_ 0 #[.val (.ref w), .val (.long x), .second, .val (.long y), .second, .unset, .unset, .unset, .unset, .unset] [] := fun mI_ => by first | (simp [entryFrame, mkF, argsToLocals, Value.category]; done) | rfl
set_option maxRecDepth 65536 in
set_option maxHeartbeats 40000000 in
theorem rmSa_3_1_2_1 (l : Launch) (Z : State) (a0 : Array Value) (hw : ∀ d ∈ tables_1, d.before a0 Z = true) (w : Addr) (x : Int64) (y : Int64) (w_times : Addr) (w_collected : Addr) (kt kc : ClassId) (s0 s1 s2 d0 d1 d2 : Int64) (h0 : Heap) (n0 : Nat) (Zs : n0 ≤ h0.size) (hW : HwW Z h0 w w_times w_collected (1 : Int32) (2 : Int32)) (V_t : Arv Z h0 w_times kt .long (3 : Int32) [(.long s0), (.long s1), (.long s2)] (.long (0 : Int64))) (V_c : Arv Z h0 w_collected kc .long (3 : Int32) [(.long d0), (.long d1), (.long d2)] (.long (0 : Int64))) (ntc : w_times ≠ w_collected) (g_w : n0 ≤ w) (g_w_times : n0 ≤ w_times) (g_w_collected : n0 ≤ w_collected) (b2 : ¬ (x - s2) < 5000000000) (hN : (x - s2).toInt < 68719476736) (hC : 0 ≤ (y - d2).toInt) (hC2 : (y - d2).toInt < 1000000) :
    Con l Z (⟨"com/example/indenture/indenture/app/HeapWatch", "sample", "(JJ)Z"⟩ : MethodName) prog_1_method_2_code 10 (some .boolean) [] ({ frames := 1, cells := 0, slots := 0, locals := 20 } : Room) n0 #[(.ref w), (.long x), (.long y)] h0 (fun v h => v = some (.int (sm (x - s2) (y - d2))) ∧ Keep h0 h [w, w_times, w_collected] ∧ HwW Z h w w_times w_collected (2 : Int32) (2 : Int32) ∧ Arv Z h w_times kt .long (3 : Int32) [(.long x), (.long s1), (.long s2)] (.long (0 : Int64)) ∧ Arv Z h w_collected kc .long (3 : Int32) [(.long y), (.long d1), (.long d2)] (.long (0 : Int64))) := by
  refine Con.of (plainFor_of_name pn_q0) (ef_rmSa_3_1_2_1 w x y) ?_
  intro K C
  replace C : Ok Z "com/example/indenture/indenture/app/HeapWatch" "sample" prog_1_method_2_code 10 (some .boolean) K := C
  have KP := Keep.refl h0 [w, w_times, w_collected]
  obtain ⟨E_w, F_w_times, F_w_collected, F_w_oldest, F_w_count⟩ := hW
  have nwt : w ≠ w_times := exaArvNe E_w (hw _ (List.mem_of_getElem? (i := 5) rfl)) V_t
  have nwc : w ≠ w_collected := exaArvNe E_w (hw _ (List.mem_of_getElem? (i := 5) rfl)) V_c
  refine r_aloadN C 1 dsa_0 rfl rfl rfl ?_
  refine r_getfield C 4 (host := "") (Or.inl (hw _ (List.mem_of_getElem? (i := 22) rfl))) Via.refl F_w_count dsa_1 rfl ?_
  refine r_aloadN C 5 dsa_4 rfl rfl rfl ?_
  refine r_getfield C 8 (host := "") (Or.inl (hw _ (List.mem_of_getElem? (i := 13) rfl))) Via.refl F_w_times dsa_5 rfl ?_
  refine r_arraylength C 9 V_t dsa_8 rfl ?_
  refine r_icmp_ne C 16 12 dsa_9 (by decide) (by decide) rfl (fun _ => ?_) (fun q => absurd q (by decide))
  refine r_aloadN C 17 dsa_16 rfl rfl rfl ?_
  refine r_getfield C 20 (host := "") (Or.inl (hw _ (List.mem_of_getElem? (i := 24) rfl))) Via.refl F_w_oldest dsa_17 rfl ?_
  refine r_aloadN C 21 dsa_20 rfl rfl rfl ?_
  refine r_getfield C 24 (host := "") (Or.inl (hw _ (List.mem_of_getElem? (i := 22) rfl))) Via.refl F_w_count dsa_21 rfl ?_
  refine r_iadd C 25 dsa_24 rfl ?_
  show Run _ _ _ _ _ _ _ _ 25 #[.val (.ref w), .val (.long x), .second, .val (.long y), .second, .unset, .unset, .unset, .unset, .unset] [(.int (3 : Int32))]
  refine r_aloadN C 26 dsa_25 rfl rfl rfl ?_
  refine r_getfield C 29 (host := "") (Or.inl (hw _ (List.mem_of_getElem? (i := 13) rfl))) Via.refl F_w_times dsa_26 rfl ?_
  refine r_arraylength C 30 V_t dsa_29 rfl ?_
  refine r_irem C 31 dsa_30 rfl (by first | decide | assumption) ?_
  show Run _ _ _ _ _ _ _ _ 31 #[.val (.ref w), .val (.long x), .second, .val (.long y), .second, .unset, .unset, .unset, .unset, .unset] [(.int (0 : Int32))]
  refine r_istore C 33 #[.val (.ref w), .val (.long x), .second, .val (.long y), .second, .val (.int (0 : Int32)), .unset, .unset, .unset, .unset] dsa_31 rfl rfl ?_
  refine r_aloadN C 34 dsa_33 rfl rfl rfl ?_
  refine r_getfield C 37 (host := "") (Or.inl (hw _ (List.mem_of_getElem? (i := 13) rfl))) Via.refl F_w_times dsa_34 rfl ?_
  refine r_iload C 39 dsa_37 rfl rfl ?_
  refine r_lloadN C 40 dsa_39 rfl rfl ?_
  refine r_lastore C 41 V_t ⟨by decide, by decide⟩ (Nat.le_of_ble_eq_true rfl) dsa_40 rfl g_w_times ?_
  intro h1 W1 V1
  replace E_w := E_w.wr W1
  replace F_w_times := Fld.other W1 F_w_times (Or.inl nwt)
  replace F_w_collected := Fld.other W1 F_w_collected (Or.inl nwt)
  replace F_w_oldest := Fld.other W1 F_w_oldest (Or.inl nwt)
  replace F_w_count := Fld.other W1 F_w_count (Or.inl nwt)
  replace V_c := V_c.other W1 (Ne.symm ntc)
  replace Zs := Nat.le_trans Zs (Nat.le_of_eq W1.size.symm)
  replace KP := KP.wr W1 (Or.inl (List.mem_of_getElem? (i := 1) rfl))
  replace V_t : Arv Z h1 w_times kt .long (3 : Int32) [(.long x), (.long s1), (.long s2)] (.long (0 : Int64)) := V1
  refine r_aloadN C 42 dsa_41 rfl rfl rfl ?_
  refine r_getfield C 45 (host := "") (Or.inl (hw _ (List.mem_of_getElem? (i := 15) rfl))) Via.refl F_w_collected dsa_42 rfl ?_
  refine r_iload C 47 dsa_45 rfl rfl ?_
  refine r_lloadN C 48 dsa_47 rfl rfl ?_
  refine r_lastore C 49 V_c ⟨by decide, by decide⟩ (Nat.le_of_ble_eq_true rfl) dsa_48 rfl g_w_collected ?_
  intro h2 W2 V2
  replace E_w := E_w.wr W2
  replace F_w_times := Fld.other W2 F_w_times (Or.inl nwc)
  replace F_w_collected := Fld.other W2 F_w_collected (Or.inl nwc)
  replace F_w_oldest := Fld.other W2 F_w_oldest (Or.inl nwc)
  replace F_w_count := Fld.other W2 F_w_count (Or.inl nwc)
  replace V_t := V_t.other W2 ntc
  replace Zs := Nat.le_trans Zs (Nat.le_of_eq W2.size.symm)
  replace KP := KP.wr W2 (Or.inl (List.mem_of_getElem? (i := 2) rfl))
  replace V_c : Arv Z h2 w_collected kc .long (3 : Int32) [(.long y), (.long d1), (.long d2)] (.long (0 : Int64)) := V2
  refine r_aloadN C 50 dsa_49 rfl rfl rfl ?_
  refine r_dup C 51 dsa_50 rfl rfl ?_
  refine r_getfield C 54 (host := "") (Or.inl (hw _ (List.mem_of_getElem? (i := 22) rfl))) Via.refl F_w_count dsa_51 rfl ?_
  refine r_iconst C 55 (1 : Int32) dsa_54 rfl rfl ?_
  refine r_iadd C 56 dsa_55 rfl ?_
  show Run _ _ _ _ _ _ _ _ 56 #[.val (.ref w), .val (.long x), .second, .val (.long y), .second, .val (.int (0 : Int32)), .unset, .unset, .unset, .unset] [(.int (3 : Int32)), (.ref w)]
  refine r_putfield C 59 (host := "") (Or.inl (hw _ (List.mem_of_getElem? (i := 22) rfl))) Via.refl F_w_count E_w (Or.inl (hw _ (List.mem_of_getElem? (i := 23) rfl))) (hw _ (List.mem_of_getElem? (i := 5) rfl)) (ty := .int) (by decide) rfl rfl dsa_56 rfl g_w ?_
  intro h3 W3
  replace E_w := E_w.wr W3
  replace F_w_times := Fld.other W3 F_w_times (Or.inr (slot_ne (Or.inr (hw _ (List.mem_of_getElem? (i := 14) rfl))) (Or.inl (hw _ (List.mem_of_getElem? (i := 23) rfl))) (by decide) (t := (.array .long)) (t' := .int) (by decide) (by decide)))
  replace F_w_collected := Fld.other W3 F_w_collected (Or.inr (slot_ne (Or.inr (hw _ (List.mem_of_getElem? (i := 16) rfl))) (Or.inl (hw _ (List.mem_of_getElem? (i := 23) rfl))) (by decide) (t := (.array .long)) (t' := .int) (by decide) (by decide)))
  replace F_w_oldest := Fld.other W3 F_w_oldest (Or.inr (slot_ne (Or.inl (hw _ (List.mem_of_getElem? (i := 25) rfl))) (Or.inl (hw _ (List.mem_of_getElem? (i := 23) rfl))) (by decide) (t := .int) (t' := .int) (by decide) (by decide)))
  replace V_t := V_t.other W3 (Ne.symm nwt)
  replace V_c := V_c.other W3 (Ne.symm nwc)
  replace F_w_count := F_w_count.same W3
  replace Zs := Nat.le_trans Zs (Nat.le_of_eq W3.size.symm)
  replace KP := KP.wr W3 (Or.inl (List.mem_of_getElem? (i := 0) rfl))
  refine r_aloadN C 60 dsa_59 rfl rfl rfl ?_
  refine r_getfield C 63 (host := "") (Or.inl (hw _ (List.mem_of_getElem? (i := 22) rfl))) Via.refl F_w_count dsa_60 rfl ?_
  refine r_iconst C 64 (1 : Int32) dsa_63 rfl rfl ?_
  refine r_icmp_le C 100 67 dsa_64 (by decide) (by decide) rfl (fun q => absurd q (by decide)) (fun _ => ?_)
  refine r_lloadN C 68 dsa_67 rfl rfl ?_
  refine r_aloadN C 69 dsa_68 rfl rfl rfl ?_
  refine r_getfield C 72 (host := "") (Or.inl (hw _ (List.mem_of_getElem? (i := 13) rfl))) Via.refl F_w_times dsa_69 rfl ?_
  refine r_aloadN C 73 dsa_72 rfl rfl rfl ?_
  refine r_getfield C 76 (host := "") (Or.inl (hw _ (List.mem_of_getElem? (i := 24) rfl))) Via.refl F_w_oldest dsa_73 rfl ?_
  refine r_iconst C 77 (1 : Int32) dsa_76 rfl rfl ?_
  refine r_iadd C 78 dsa_77 rfl ?_
  show Run _ _ _ _ _ _ _ _ 78 #[.val (.ref w), .val (.long x), .second, .val (.long y), .second, .val (.int (0 : Int32)), .unset, .unset, .unset, .unset] [(.int (2 : Int32)), (.ref w_times), (.long x)]
  refine r_aloadN C 79 dsa_78 rfl rfl rfl ?_
  refine r_getfield C 82 (host := "") (Or.inl (hw _ (List.mem_of_getElem? (i := 13) rfl))) Via.refl F_w_times dsa_79 rfl ?_
  refine r_arraylength C 83 V_t dsa_82 rfl ?_
  refine r_irem C 84 dsa_83 rfl (by first | decide | assumption) ?_
  show Run _ _ _ _ _ _ _ _ 84 #[.val (.ref w), .val (.long x), .second, .val (.long y), .second, .val (.int (0 : Int32)), .unset, .unset, .unset, .unset] [(.int (2 : Int32)), (.ref w_times), (.long x)]
  refine r_laload C 85 (v := (.long s2)) V_t ⟨by decide, by decide⟩ rfl dsa_84 rfl ?_
  refine r_lsub C 86 dsa_85 rfl ?_
  refine r_ldc2_w C 89 dsa_86 rfl (hw _ (List.mem_of_getElem? (i := 26) rfl)) ?_
  refine r_lcmp_lt C 90 100 93 dsa_89 rfl dsa_90 (by decide) (by decide) rfl (fun q => absurd q b2) (fun _ => ?_)
  refine r_aloadN C 94 dsa_93 rfl rfl rfl ?_
  refine r_callP C 97 (y := (⟨"com/example/indenture/indenture/app/HeapWatch", "drop", "()V"⟩ : MethodName)) (a := w) [] [] (rmDr l Z a0 hw w w_times w_collected (1 : Int32) (3 : Int32) kt (3 : Int32) _ h3 n0 Zs ⟨E_w, F_w_times, F_w_collected, F_w_oldest, F_w_count⟩ V_t (by decide) g_w) (hw _ (List.mem_of_getElem? (i := 27) rfl)) (hw _ (List.mem_of_getElem? (i := 28) rfl)) (selPriv (hw _ (List.mem_of_getElem? (i := 5) rfl)) (hw _ (List.mem_of_getElem? (i := 29) rfl)) (hw _ (List.mem_of_getElem? (i := 28) rfl)) (by decide)) (hw _ (List.mem_of_getElem? (i := 29) rfl)) (hw _ (List.mem_of_getElem? (i := 6) rfl)) (hw _ (List.mem_of_getElem? (i := 30) rfl)) E_w.cell (by decide) (lenOf pd___V rfl) rfl rfl (by decide) (Nat.le_of_ble_eq_true rfl) (by decide) (by decide) rfl dsa_94 rfl ?_
  intro v4 h4 q4 z4
  obtain ⟨rfl, K4, hW⟩ := q4
  replace hW : HwW Z h4 w w_times w_collected (2 : Int32) (2 : Int32) := hW
  replace E_w := E_w.keep K4
  replace V_t := V_t.keep K4 (ninS (Ne.symm nwt) nin0)
  replace V_c := V_c.keep K4 (ninS (Ne.symm nwc) nin0)
  replace KP := KP.trans K4 (allS (Or.inl (List.mem_of_getElem? (i := 0) rfl)) all0)
  replace Zs := Nat.le_trans Zs K4.1
  obtain ⟨E_w, F_w_times, F_w_collected, F_w_oldest, F_w_count⟩ := hW
  show Run _ _ _ _ _ _ _ _ 97 #[.val (.ref w), .val (.long x), .second, .val (.long y), .second, .val (.int (0 : Int32)), .unset, .unset, .unset, .unset] []
  refine r_goto C 59 dsa_97 (by decide) (by decide) ?_
  refine r_aloadN C 60 dsa_59 rfl rfl rfl ?_
  refine r_getfield C 63 (host := "") (Or.inl (hw _ (List.mem_of_getElem? (i := 22) rfl))) Via.refl F_w_count dsa_60 rfl ?_
  refine r_iconst C 64 (1 : Int32) dsa_63 rfl rfl ?_
  refine r_icmp_le C 100 67 dsa_64 (by decide) (by decide) rfl (fun q => absurd q (by decide)) (fun _ => ?_)
  refine r_lloadN C 68 dsa_67 rfl rfl ?_
  refine r_aloadN C 69 dsa_68 rfl rfl rfl ?_
  refine r_getfield C 72 (host := "") (Or.inl (hw _ (List.mem_of_getElem? (i := 13) rfl))) Via.refl F_w_times dsa_69 rfl ?_
  refine r_aloadN C 73 dsa_72 rfl rfl rfl ?_
  refine r_getfield C 76 (host := "") (Or.inl (hw _ (List.mem_of_getElem? (i := 24) rfl))) Via.refl F_w_oldest dsa_73 rfl ?_
  refine r_iconst C 77 (1 : Int32) dsa_76 rfl rfl ?_
  refine r_iadd C 78 dsa_77 rfl ?_
  show Run _ _ _ _ _ _ _ _ 78 #[.val (.ref w), .val (.long x), .second, .val (.long y), .second, .val (.int (0 : Int32)), .unset, .unset, .unset, .unset] [(.int (3 : Int32)), (.ref w_times), (.long x)]
  refine r_aloadN C 79 dsa_78 rfl rfl rfl ?_
  refine r_getfield C 82 (host := "") (Or.inl (hw _ (List.mem_of_getElem? (i := 13) rfl))) Via.refl F_w_times dsa_79 rfl ?_
  refine r_arraylength C 83 V_t dsa_82 rfl ?_
  refine r_irem C 84 dsa_83 rfl (by first | decide | assumption) ?_
  show Run _ _ _ _ _ _ _ _ 84 #[.val (.ref w), .val (.long x), .second, .val (.long y), .second, .val (.int (0 : Int32)), .unset, .unset, .unset, .unset] [(.int (0 : Int32)), (.ref w_times), (.long x)]
  refine r_laload C 85 (v := (.long x)) V_t ⟨by decide, by decide⟩ rfl dsa_84 rfl ?_
  refine r_lsub C 86 dsa_85 rfl ?_
  refine r_ldc2_w C 89 dsa_86 rfl (hw _ (List.mem_of_getElem? (i := 26) rfl)) ?_
  refine r_lcmp_lt C 90 100 93 dsa_89 rfl dsa_90 (by decide) (by decide) rfl (fun _ => ?_) (fun q => absurd (own_self x) q)
  refine r_lloadN C 101 dsa_100 rfl rfl ?_
  refine r_aloadN C 102 dsa_101 rfl rfl rfl ?_
  refine r_getfield C 105 (host := "") (Or.inl (hw _ (List.mem_of_getElem? (i := 13) rfl))) Via.refl F_w_times dsa_102 rfl ?_
  refine r_aloadN C 106 dsa_105 rfl rfl rfl ?_
  refine r_getfield C 109 (host := "") (Or.inl (hw _ (List.mem_of_getElem? (i := 24) rfl))) Via.refl F_w_oldest dsa_106 rfl ?_
  refine r_laload C 110 (v := (.long s2)) V_t ⟨by decide, by decide⟩ rfl dsa_109 rfl ?_
  refine r_lsub C 111 dsa_110 rfl ?_
  refine r_lstore C 113 #[.val (.ref w), .val (.long x), .second, .val (.long y), .second, .val (.int (0 : Int32)), .val (.long (x - s2)), .second, .unset, .unset] dsa_111 rfl rfl ?_
  refine r_lloadN C 114 dsa_113 rfl rfl ?_
  refine r_aloadN C 115 dsa_114 rfl rfl rfl ?_
  refine r_getfield C 118 (host := "") (Or.inl (hw _ (List.mem_of_getElem? (i := 15) rfl))) Via.refl F_w_collected dsa_115 rfl ?_
  refine r_aloadN C 119 dsa_118 rfl rfl rfl ?_
  refine r_getfield C 122 (host := "") (Or.inl (hw _ (List.mem_of_getElem? (i := 24) rfl))) Via.refl F_w_oldest dsa_119 rfl ?_
  refine r_laload C 123 (v := (.long d2)) V_c ⟨by decide, by decide⟩ rfl dsa_122 rfl ?_
  refine r_lsub C 124 dsa_123 rfl ?_
  refine r_lstore C 126 #[.val (.ref w), .val (.long x), .second, .val (.long y), .second, .val (.int (0 : Int32)), .val (.long (x - s2)), .second, .val (.long (y - d2)), .second] dsa_124 rfl rfl ?_
  refine r_lload C 128 dsa_126 rfl rfl ?_
  refine r_ldc2_w C 131 dsa_128 rfl (hw _ (List.mem_of_getElem? (i := 26) rfl)) ?_
  refine r_lcmp_lt C 132 157 135 dsa_131 rfl dsa_132 (by decide) (by decide) rfl ?_ ?_
  · intro q1
    refine r_iconst C 158 (0 : Int32) dsa_157 rfl rfl ?_
    exact r_nreturn C (0 : Int32) rfl (t := .boolean) (by simp) rfl dsa_158 (by decide) (by decide) ⟨by rw [sm, if_pos q1], KP, ⟨E_w, F_w_times, F_w_collected, F_w_oldest, F_w_count⟩, V_t, V_c⟩
  · intro q1
    refine r_lload C 137 dsa_135 rfl rfl ?_
    refine r_l2d C 138 dsa_137 rfl ?_
    refine r_ldc2D C 141 dsa_138 rfl (hw _ (List.mem_of_getElem? (i := 31) rfl)) ?_
    refine r_dmul C 142 dsa_141 rfl (own_nn1 _) ?_
    refine r_ldc2D C 145 dsa_142 rfl (hw _ (List.mem_of_getElem? (i := 32) rfl)) ?_
    refine r_lload C 147 dsa_145 rfl rfl ?_
    refine r_l2d C 148 dsa_147 rfl ?_
    refine r_dmul C 149 dsa_148 rfl (own_nn2 _) ?_
    refine r_dcmpl C 150 dsa_149 rfl ?_
    have cw := OwnF.cmp09 hC hC2 (own_ge q1) hN
    refine r_if_lt C 157 153 dsa_150 (by decide) (by decide) rfl ?_ ?_
    · intro q2
      refine r_iconst C 158 (0 : Int32) dsa_157 rfl rfl ?_
      exact r_nreturn C (0 : Int32) rfl (t := .boolean) (by simp) rfl dsa_158 (by decide) (by decide) ⟨by rw [sm, if_neg q1, if_pos (cw.mp q2)], KP, ⟨E_w, F_w_times, F_w_collected, F_w_oldest, F_w_count⟩, V_t, V_c⟩
    · intro q2
      refine r_iconst C 154 (1 : Int32) dsa_153 rfl rfl ?_
      refine r_goto C 158 dsa_154 (by decide) (by decide) ?_
      exact r_nreturn C (1 : Int32) rfl (t := .boolean) (by simp) rfl dsa_158 (by decide) (by decide) ⟨by rw [sm, if_neg q1, if_neg (fun z => q2 (cw.mpr z))], KP, ⟨E_w, F_w_times, F_w_collected, F_w_oldest, F_w_count⟩, V_t, V_c⟩
theorem ef_rmSa_4_0_0 (w : Addr) (x : Int64) (y : Int64) : ∀ mI_, entryFrame mI_ #[(.ref w), (.long x), (.long y)] 10 = mkF mI_ 0 #[.val (.ref w), .val (.long x), .second, .val (.long y), .second, .unset, .unset, .unset, .unset, .unset] [] := fun mI_ => by first | (simp [entryFrame, mkF, argsToLocals, Value.category]; done) | rfl
set_option maxRecDepth 65536 in
set_option maxHeartbeats 40000000 in
theorem rmSa_4_0_0 (l : Launch) (Z : State) (a0 : Array Value) (hw : ∀ d ∈ tables_1, d.before a0 Z = true) (w : Addr) (x : Int64) (y : Int64) (w_times : Addr) (w_collected : Addr) (kt kc : ClassId) (s0 s1 s2 s3 d0 d1 d2 d3 : Int64) (h0 : Heap) (n0 : Nat) (Zs : n0 ≤ h0.size) (hW : HwW Z h0 w w_times w_collected (0 : Int32) (0 : Int32)) (V_t : Arv Z h0 w_times kt .long (4 : Int32) [(.long s0), (.long s1), (.long s2), (.long s3)] (.long (0 : Int64))) (V_c : Arv Z h0 w_collected kc .long (4 : Int32) [(.long d0), (.long d1), (.long d2), (.long d3)] (.long (0 : Int64))) (ntc : w_times ≠ w_collected) (g_w : n0 ≤ w) (g_w_times : n0 ≤ w_times) (g_w_collected : n0 ≤ w_collected) (hN : (x - x).toInt < 68719476736) (hC : 0 ≤ (y - y).toInt) (hC2 : (y - y).toInt < 1000000) :
    Con l Z (⟨"com/example/indenture/indenture/app/HeapWatch", "sample", "(JJ)Z"⟩ : MethodName) prog_1_method_2_code 10 (some .boolean) [] ({ frames := 1, cells := 0, slots := 0, locals := 20 } : Room) n0 #[(.ref w), (.long x), (.long y)] h0 (fun v h => v = some (.int (sm (x - x) (y - y))) ∧ Keep h0 h [w, w_times, w_collected] ∧ HwW Z h w w_times w_collected (0 : Int32) (1 : Int32) ∧ Arv Z h w_times kt .long (4 : Int32) [(.long x), (.long s1), (.long s2), (.long s3)] (.long (0 : Int64)) ∧ Arv Z h w_collected kc .long (4 : Int32) [(.long y), (.long d1), (.long d2), (.long d3)] (.long (0 : Int64))) := by
  refine Con.of (plainFor_of_name pn_q0) (ef_rmSa_4_0_0 w x y) ?_
  intro K C
  replace C : Ok Z "com/example/indenture/indenture/app/HeapWatch" "sample" prog_1_method_2_code 10 (some .boolean) K := C
  have KP := Keep.refl h0 [w, w_times, w_collected]
  obtain ⟨E_w, F_w_times, F_w_collected, F_w_oldest, F_w_count⟩ := hW
  have nwt : w ≠ w_times := exaArvNe E_w (hw _ (List.mem_of_getElem? (i := 5) rfl)) V_t
  have nwc : w ≠ w_collected := exaArvNe E_w (hw _ (List.mem_of_getElem? (i := 5) rfl)) V_c
  refine r_aloadN C 1 dsa_0 rfl rfl rfl ?_
  refine r_getfield C 4 (host := "") (Or.inl (hw _ (List.mem_of_getElem? (i := 22) rfl))) Via.refl F_w_count dsa_1 rfl ?_
  refine r_aloadN C 5 dsa_4 rfl rfl rfl ?_
  refine r_getfield C 8 (host := "") (Or.inl (hw _ (List.mem_of_getElem? (i := 13) rfl))) Via.refl F_w_times dsa_5 rfl ?_
  refine r_arraylength C 9 V_t dsa_8 rfl ?_
  refine r_icmp_ne C 16 12 dsa_9 (by decide) (by decide) rfl (fun _ => ?_) (fun q => absurd q (by decide))
  refine r_aloadN C 17 dsa_16 rfl rfl rfl ?_
  refine r_getfield C 20 (host := "") (Or.inl (hw _ (List.mem_of_getElem? (i := 24) rfl))) Via.refl F_w_oldest dsa_17 rfl ?_
  refine r_aloadN C 21 dsa_20 rfl rfl rfl ?_
  refine r_getfield C 24 (host := "") (Or.inl (hw _ (List.mem_of_getElem? (i := 22) rfl))) Via.refl F_w_count dsa_21 rfl ?_
  refine r_iadd C 25 dsa_24 rfl ?_
  show Run _ _ _ _ _ _ _ _ 25 #[.val (.ref w), .val (.long x), .second, .val (.long y), .second, .unset, .unset, .unset, .unset, .unset] [(.int (0 : Int32))]
  refine r_aloadN C 26 dsa_25 rfl rfl rfl ?_
  refine r_getfield C 29 (host := "") (Or.inl (hw _ (List.mem_of_getElem? (i := 13) rfl))) Via.refl F_w_times dsa_26 rfl ?_
  refine r_arraylength C 30 V_t dsa_29 rfl ?_
  refine r_irem C 31 dsa_30 rfl (by first | decide | assumption) ?_
  show Run _ _ _ _ _ _ _ _ 31 #[.val (.ref w), .val (.long x), .second, .val (.long y), .second, .unset, .unset, .unset, .unset, .unset] [(.int (0 : Int32))]
  refine r_istore C 33 #[.val (.ref w), .val (.long x), .second, .val (.long y), .second, .val (.int (0 : Int32)), .unset, .unset, .unset, .unset] dsa_31 rfl rfl ?_
  refine r_aloadN C 34 dsa_33 rfl rfl rfl ?_
  refine r_getfield C 37 (host := "") (Or.inl (hw _ (List.mem_of_getElem? (i := 13) rfl))) Via.refl F_w_times dsa_34 rfl ?_
  refine r_iload C 39 dsa_37 rfl rfl ?_
  refine r_lloadN C 40 dsa_39 rfl rfl ?_
  refine r_lastore C 41 V_t ⟨by decide, by decide⟩ (Nat.le_of_ble_eq_true rfl) dsa_40 rfl g_w_times ?_
  intro h1 W1 V1
  replace E_w := E_w.wr W1
  replace F_w_times := Fld.other W1 F_w_times (Or.inl nwt)
  replace F_w_collected := Fld.other W1 F_w_collected (Or.inl nwt)
  replace F_w_oldest := Fld.other W1 F_w_oldest (Or.inl nwt)
  replace F_w_count := Fld.other W1 F_w_count (Or.inl nwt)
  replace V_c := V_c.other W1 (Ne.symm ntc)
  replace Zs := Nat.le_trans Zs (Nat.le_of_eq W1.size.symm)
  replace KP := KP.wr W1 (Or.inl (List.mem_of_getElem? (i := 1) rfl))
  replace V_t : Arv Z h1 w_times kt .long (4 : Int32) [(.long x), (.long s1), (.long s2), (.long s3)] (.long (0 : Int64)) := V1
  refine r_aloadN C 42 dsa_41 rfl rfl rfl ?_
  refine r_getfield C 45 (host := "") (Or.inl (hw _ (List.mem_of_getElem? (i := 15) rfl))) Via.refl F_w_collected dsa_42 rfl ?_
  refine r_iload C 47 dsa_45 rfl rfl ?_
  refine r_lloadN C 48 dsa_47 rfl rfl ?_
  refine r_lastore C 49 V_c ⟨by decide, by decide⟩ (Nat.le_of_ble_eq_true rfl) dsa_48 rfl g_w_collected ?_
  intro h2 W2 V2
  replace E_w := E_w.wr W2
  replace F_w_times := Fld.other W2 F_w_times (Or.inl nwc)
  replace F_w_collected := Fld.other W2 F_w_collected (Or.inl nwc)
  replace F_w_oldest := Fld.other W2 F_w_oldest (Or.inl nwc)
  replace F_w_count := Fld.other W2 F_w_count (Or.inl nwc)
  replace V_t := V_t.other W2 ntc
  replace Zs := Nat.le_trans Zs (Nat.le_of_eq W2.size.symm)
  replace KP := KP.wr W2 (Or.inl (List.mem_of_getElem? (i := 2) rfl))
  replace V_c : Arv Z h2 w_collected kc .long (4 : Int32) [(.long y), (.long d1), (.long d2), (.long d3)] (.long (0 : Int64)) := V2
  refine r_aloadN C 50 dsa_49 rfl rfl rfl ?_
  refine r_dup C 51 dsa_50 rfl rfl ?_
  refine r_getfield C 54 (host := "") (Or.inl (hw _ (List.mem_of_getElem? (i := 22) rfl))) Via.refl F_w_count dsa_51 rfl ?_
  refine r_iconst C 55 (1 : Int32) dsa_54 rfl rfl ?_
  refine r_iadd C 56 dsa_55 rfl ?_
  show Run _ _ _ _ _ _ _ _ 56 #[.val (.ref w), .val (.long x), .second, .val (.long y), .second, .val (.int (0 : Int32)), .unset, .unset, .unset, .unset] [(.int (1 : Int32)), (.ref w)]
  refine r_putfield C 59 (host := "") (Or.inl (hw _ (List.mem_of_getElem? (i := 22) rfl))) Via.refl F_w_count E_w (Or.inl (hw _ (List.mem_of_getElem? (i := 23) rfl))) (hw _ (List.mem_of_getElem? (i := 5) rfl)) (ty := .int) (by decide) rfl rfl dsa_56 rfl g_w ?_
  intro h3 W3
  replace E_w := E_w.wr W3
  replace F_w_times := Fld.other W3 F_w_times (Or.inr (slot_ne (Or.inr (hw _ (List.mem_of_getElem? (i := 14) rfl))) (Or.inl (hw _ (List.mem_of_getElem? (i := 23) rfl))) (by decide) (t := (.array .long)) (t' := .int) (by decide) (by decide)))
  replace F_w_collected := Fld.other W3 F_w_collected (Or.inr (slot_ne (Or.inr (hw _ (List.mem_of_getElem? (i := 16) rfl))) (Or.inl (hw _ (List.mem_of_getElem? (i := 23) rfl))) (by decide) (t := (.array .long)) (t' := .int) (by decide) (by decide)))
  replace F_w_oldest := Fld.other W3 F_w_oldest (Or.inr (slot_ne (Or.inl (hw _ (List.mem_of_getElem? (i := 25) rfl))) (Or.inl (hw _ (List.mem_of_getElem? (i := 23) rfl))) (by decide) (t := .int) (t' := .int) (by decide) (by decide)))
  replace V_t := V_t.other W3 (Ne.symm nwt)
  replace V_c := V_c.other W3 (Ne.symm nwc)
  replace F_w_count := F_w_count.same W3
  replace Zs := Nat.le_trans Zs (Nat.le_of_eq W3.size.symm)
  replace KP := KP.wr W3 (Or.inl (List.mem_of_getElem? (i := 0) rfl))
  refine r_aloadN C 60 dsa_59 rfl rfl rfl ?_
  refine r_getfield C 63 (host := "") (Or.inl (hw _ (List.mem_of_getElem? (i := 22) rfl))) Via.refl F_w_count dsa_60 rfl ?_
  refine r_iconst C 64 (1 : Int32) dsa_63 rfl rfl ?_
  refine r_icmp_le C 100 67 dsa_64 (by decide) (by decide) rfl (fun _ => ?_) (fun q => absurd q (by decide))
  refine r_lloadN C 101 dsa_100 rfl rfl ?_
  refine r_aloadN C 102 dsa_101 rfl rfl rfl ?_
  refine r_getfield C 105 (host := "") (Or.inl (hw _ (List.mem_of_getElem? (i := 13) rfl))) Via.refl F_w_times dsa_102 rfl ?_
  refine r_aloadN C 106 dsa_105 rfl rfl rfl ?_
  refine r_getfield C 109 (host := "") (Or.inl (hw _ (List.mem_of_getElem? (i := 24) rfl))) Via.refl F_w_oldest dsa_106 rfl ?_
  refine r_laload C 110 (v := (.long x)) V_t ⟨by decide, by decide⟩ rfl dsa_109 rfl ?_
  refine r_lsub C 111 dsa_110 rfl ?_
  refine r_lstore C 113 #[.val (.ref w), .val (.long x), .second, .val (.long y), .second, .val (.int (0 : Int32)), .val (.long (x - x)), .second, .unset, .unset] dsa_111 rfl rfl ?_
  refine r_lloadN C 114 dsa_113 rfl rfl ?_
  refine r_aloadN C 115 dsa_114 rfl rfl rfl ?_
  refine r_getfield C 118 (host := "") (Or.inl (hw _ (List.mem_of_getElem? (i := 15) rfl))) Via.refl F_w_collected dsa_115 rfl ?_
  refine r_aloadN C 119 dsa_118 rfl rfl rfl ?_
  refine r_getfield C 122 (host := "") (Or.inl (hw _ (List.mem_of_getElem? (i := 24) rfl))) Via.refl F_w_oldest dsa_119 rfl ?_
  refine r_laload C 123 (v := (.long y)) V_c ⟨by decide, by decide⟩ rfl dsa_122 rfl ?_
  refine r_lsub C 124 dsa_123 rfl ?_
  refine r_lstore C 126 #[.val (.ref w), .val (.long x), .second, .val (.long y), .second, .val (.int (0 : Int32)), .val (.long (x - x)), .second, .val (.long (y - y)), .second] dsa_124 rfl rfl ?_
  refine r_lload C 128 dsa_126 rfl rfl ?_
  refine r_ldc2_w C 131 dsa_128 rfl (hw _ (List.mem_of_getElem? (i := 26) rfl)) ?_
  refine r_lcmp_lt C 132 157 135 dsa_131 rfl dsa_132 (by decide) (by decide) rfl ?_ ?_
  · intro q1
    refine r_iconst C 158 (0 : Int32) dsa_157 rfl rfl ?_
    exact r_nreturn C (0 : Int32) rfl (t := .boolean) (by simp) rfl dsa_158 (by decide) (by decide) ⟨by rw [sm, if_pos q1], KP, ⟨E_w, F_w_times, F_w_collected, F_w_oldest, F_w_count⟩, V_t, V_c⟩
  · intro q1
    refine r_lload C 137 dsa_135 rfl rfl ?_
    refine r_l2d C 138 dsa_137 rfl ?_
    refine r_ldc2D C 141 dsa_138 rfl (hw _ (List.mem_of_getElem? (i := 31) rfl)) ?_
    refine r_dmul C 142 dsa_141 rfl (own_nn1 _) ?_
    refine r_ldc2D C 145 dsa_142 rfl (hw _ (List.mem_of_getElem? (i := 32) rfl)) ?_
    refine r_lload C 147 dsa_145 rfl rfl ?_
    refine r_l2d C 148 dsa_147 rfl ?_
    refine r_dmul C 149 dsa_148 rfl (own_nn2 _) ?_
    refine r_dcmpl C 150 dsa_149 rfl ?_
    have cw := OwnF.cmp09 hC hC2 (own_ge q1) hN
    refine r_if_lt C 157 153 dsa_150 (by decide) (by decide) rfl ?_ ?_
    · intro q2
      refine r_iconst C 158 (0 : Int32) dsa_157 rfl rfl ?_
      exact r_nreturn C (0 : Int32) rfl (t := .boolean) (by simp) rfl dsa_158 (by decide) (by decide) ⟨by rw [sm, if_neg q1, if_pos (cw.mp q2)], KP, ⟨E_w, F_w_times, F_w_collected, F_w_oldest, F_w_count⟩, V_t, V_c⟩
    · intro q2
      refine r_iconst C 154 (1 : Int32) dsa_153 rfl rfl ?_
      refine r_goto C 158 dsa_154 (by decide) (by decide) ?_
      exact r_nreturn C (1 : Int32) rfl (t := .boolean) (by simp) rfl dsa_158 (by decide) (by decide) ⟨by rw [sm, if_neg q1, if_neg (fun z => q2 (cw.mpr z))], KP, ⟨E_w, F_w_times, F_w_collected, F_w_oldest, F_w_count⟩, V_t, V_c⟩
theorem ef_rmSa_4_0_1 (w : Addr) (x : Int64) (y : Int64) : ∀ mI_, entryFrame mI_ #[(.ref w), (.long x), (.long y)] 10 = mkF mI_ 0 #[.val (.ref w), .val (.long x), .second, .val (.long y), .second, .unset, .unset, .unset, .unset, .unset] [] := fun mI_ => by first | (simp [entryFrame, mkF, argsToLocals, Value.category]; done) | rfl
set_option maxRecDepth 65536 in
set_option maxHeartbeats 40000000 in
theorem rmSa_4_0_1 (l : Launch) (Z : State) (a0 : Array Value) (hw : ∀ d ∈ tables_1, d.before a0 Z = true) (w : Addr) (x : Int64) (y : Int64) (w_times : Addr) (w_collected : Addr) (kt kc : ClassId) (s0 s1 s2 s3 d0 d1 d2 d3 : Int64) (h0 : Heap) (n0 : Nat) (Zs : n0 ≤ h0.size) (hW : HwW Z h0 w w_times w_collected (0 : Int32) (1 : Int32)) (V_t : Arv Z h0 w_times kt .long (4 : Int32) [(.long s0), (.long s1), (.long s2), (.long s3)] (.long (0 : Int64))) (V_c : Arv Z h0 w_collected kc .long (4 : Int32) [(.long d0), (.long d1), (.long d2), (.long d3)] (.long (0 : Int64))) (ntc : w_times ≠ w_collected) (g_w : n0 ≤ w) (g_w_times : n0 ≤ w_times) (g_w_collected : n0 ≤ w_collected) (hN : (x - s0).toInt < 68719476736) (hC : 0 ≤ (y - d0).toInt) (hC2 : (y - d0).toInt < 1000000) :
    Con l Z (⟨"com/example/indenture/indenture/app/HeapWatch", "sample", "(JJ)Z"⟩ : MethodName) prog_1_method_2_code 10 (some .boolean) [] ({ frames := 1, cells := 0, slots := 0, locals := 20 } : Room) n0 #[(.ref w), (.long x), (.long y)] h0 (fun v h => v = some (.int (sm (x - s0) (y - d0))) ∧ Keep h0 h [w, w_times, w_collected] ∧ HwW Z h w w_times w_collected (0 : Int32) (2 : Int32) ∧ Arv Z h w_times kt .long (4 : Int32) [(.long s0), (.long x), (.long s2), (.long s3)] (.long (0 : Int64)) ∧ Arv Z h w_collected kc .long (4 : Int32) [(.long d0), (.long y), (.long d2), (.long d3)] (.long (0 : Int64))) := by
  refine Con.of (plainFor_of_name pn_q0) (ef_rmSa_4_0_1 w x y) ?_
  intro K C
  replace C : Ok Z "com/example/indenture/indenture/app/HeapWatch" "sample" prog_1_method_2_code 10 (some .boolean) K := C
  have KP := Keep.refl h0 [w, w_times, w_collected]
  obtain ⟨E_w, F_w_times, F_w_collected, F_w_oldest, F_w_count⟩ := hW
  have nwt : w ≠ w_times := exaArvNe E_w (hw _ (List.mem_of_getElem? (i := 5) rfl)) V_t
  have nwc : w ≠ w_collected := exaArvNe E_w (hw _ (List.mem_of_getElem? (i := 5) rfl)) V_c
  refine r_aloadN C 1 dsa_0 rfl rfl rfl ?_
  refine r_getfield C 4 (host := "") (Or.inl (hw _ (List.mem_of_getElem? (i := 22) rfl))) Via.refl F_w_count dsa_1 rfl ?_
  refine r_aloadN C 5 dsa_4 rfl rfl rfl ?_
  refine r_getfield C 8 (host := "") (Or.inl (hw _ (List.mem_of_getElem? (i := 13) rfl))) Via.refl F_w_times dsa_5 rfl ?_
  refine r_arraylength C 9 V_t dsa_8 rfl ?_
  refine r_icmp_ne C 16 12 dsa_9 (by decide) (by decide) rfl (fun _ => ?_) (fun q => absurd q (by decide))
  refine r_aloadN C 17 dsa_16 rfl rfl rfl ?_
  refine r_getfield C 20 (host := "") (Or.inl (hw _ (List.mem_of_getElem? (i := 24) rfl))) Via.refl F_w_oldest dsa_17 rfl ?_
  refine r_aloadN C 21 dsa_20 rfl rfl rfl ?_
  refine r_getfield C 24 (host := "") (Or.inl (hw _ (List.mem_of_getElem? (i := 22) rfl))) Via.refl F_w_count dsa_21 rfl ?_
  refine r_iadd C 25 dsa_24 rfl ?_
  show Run _ _ _ _ _ _ _ _ 25 #[.val (.ref w), .val (.long x), .second, .val (.long y), .second, .unset, .unset, .unset, .unset, .unset] [(.int (1 : Int32))]
  refine r_aloadN C 26 dsa_25 rfl rfl rfl ?_
  refine r_getfield C 29 (host := "") (Or.inl (hw _ (List.mem_of_getElem? (i := 13) rfl))) Via.refl F_w_times dsa_26 rfl ?_
  refine r_arraylength C 30 V_t dsa_29 rfl ?_
  refine r_irem C 31 dsa_30 rfl (by first | decide | assumption) ?_
  show Run _ _ _ _ _ _ _ _ 31 #[.val (.ref w), .val (.long x), .second, .val (.long y), .second, .unset, .unset, .unset, .unset, .unset] [(.int (1 : Int32))]
  refine r_istore C 33 #[.val (.ref w), .val (.long x), .second, .val (.long y), .second, .val (.int (1 : Int32)), .unset, .unset, .unset, .unset] dsa_31 rfl rfl ?_
  refine r_aloadN C 34 dsa_33 rfl rfl rfl ?_
  refine r_getfield C 37 (host := "") (Or.inl (hw _ (List.mem_of_getElem? (i := 13) rfl))) Via.refl F_w_times dsa_34 rfl ?_
  refine r_iload C 39 dsa_37 rfl rfl ?_
  refine r_lloadN C 40 dsa_39 rfl rfl ?_
  refine r_lastore C 41 V_t ⟨by decide, by decide⟩ (Nat.le_of_ble_eq_true rfl) dsa_40 rfl g_w_times ?_
  intro h1 W1 V1
  replace E_w := E_w.wr W1
  replace F_w_times := Fld.other W1 F_w_times (Or.inl nwt)
  replace F_w_collected := Fld.other W1 F_w_collected (Or.inl nwt)
  replace F_w_oldest := Fld.other W1 F_w_oldest (Or.inl nwt)
  replace F_w_count := Fld.other W1 F_w_count (Or.inl nwt)
  replace V_c := V_c.other W1 (Ne.symm ntc)
  replace Zs := Nat.le_trans Zs (Nat.le_of_eq W1.size.symm)
  replace KP := KP.wr W1 (Or.inl (List.mem_of_getElem? (i := 1) rfl))
  replace V_t : Arv Z h1 w_times kt .long (4 : Int32) [(.long s0), (.long x), (.long s2), (.long s3)] (.long (0 : Int64)) := V1
  refine r_aloadN C 42 dsa_41 rfl rfl rfl ?_
  refine r_getfield C 45 (host := "") (Or.inl (hw _ (List.mem_of_getElem? (i := 15) rfl))) Via.refl F_w_collected dsa_42 rfl ?_
  refine r_iload C 47 dsa_45 rfl rfl ?_
  refine r_lloadN C 48 dsa_47 rfl rfl ?_
  refine r_lastore C 49 V_c ⟨by decide, by decide⟩ (Nat.le_of_ble_eq_true rfl) dsa_48 rfl g_w_collected ?_
  intro h2 W2 V2
  replace E_w := E_w.wr W2
  replace F_w_times := Fld.other W2 F_w_times (Or.inl nwc)
  replace F_w_collected := Fld.other W2 F_w_collected (Or.inl nwc)
  replace F_w_oldest := Fld.other W2 F_w_oldest (Or.inl nwc)
  replace F_w_count := Fld.other W2 F_w_count (Or.inl nwc)
  replace V_t := V_t.other W2 ntc
  replace Zs := Nat.le_trans Zs (Nat.le_of_eq W2.size.symm)
  replace KP := KP.wr W2 (Or.inl (List.mem_of_getElem? (i := 2) rfl))
  replace V_c : Arv Z h2 w_collected kc .long (4 : Int32) [(.long d0), (.long y), (.long d2), (.long d3)] (.long (0 : Int64)) := V2
  refine r_aloadN C 50 dsa_49 rfl rfl rfl ?_
  refine r_dup C 51 dsa_50 rfl rfl ?_
  refine r_getfield C 54 (host := "") (Or.inl (hw _ (List.mem_of_getElem? (i := 22) rfl))) Via.refl F_w_count dsa_51 rfl ?_
  refine r_iconst C 55 (1 : Int32) dsa_54 rfl rfl ?_
  refine r_iadd C 56 dsa_55 rfl ?_
  show Run _ _ _ _ _ _ _ _ 56 #[.val (.ref w), .val (.long x), .second, .val (.long y), .second, .val (.int (1 : Int32)), .unset, .unset, .unset, .unset] [(.int (2 : Int32)), (.ref w)]
  refine r_putfield C 59 (host := "") (Or.inl (hw _ (List.mem_of_getElem? (i := 22) rfl))) Via.refl F_w_count E_w (Or.inl (hw _ (List.mem_of_getElem? (i := 23) rfl))) (hw _ (List.mem_of_getElem? (i := 5) rfl)) (ty := .int) (by decide) rfl rfl dsa_56 rfl g_w ?_
  intro h3 W3
  replace E_w := E_w.wr W3
  replace F_w_times := Fld.other W3 F_w_times (Or.inr (slot_ne (Or.inr (hw _ (List.mem_of_getElem? (i := 14) rfl))) (Or.inl (hw _ (List.mem_of_getElem? (i := 23) rfl))) (by decide) (t := (.array .long)) (t' := .int) (by decide) (by decide)))
  replace F_w_collected := Fld.other W3 F_w_collected (Or.inr (slot_ne (Or.inr (hw _ (List.mem_of_getElem? (i := 16) rfl))) (Or.inl (hw _ (List.mem_of_getElem? (i := 23) rfl))) (by decide) (t := (.array .long)) (t' := .int) (by decide) (by decide)))
  replace F_w_oldest := Fld.other W3 F_w_oldest (Or.inr (slot_ne (Or.inl (hw _ (List.mem_of_getElem? (i := 25) rfl))) (Or.inl (hw _ (List.mem_of_getElem? (i := 23) rfl))) (by decide) (t := .int) (t' := .int) (by decide) (by decide)))
  replace V_t := V_t.other W3 (Ne.symm nwt)
  replace V_c := V_c.other W3 (Ne.symm nwc)
  replace F_w_count := F_w_count.same W3
  replace Zs := Nat.le_trans Zs (Nat.le_of_eq W3.size.symm)
  replace KP := KP.wr W3 (Or.inl (List.mem_of_getElem? (i := 0) rfl))
  refine r_aloadN C 60 dsa_59 rfl rfl rfl ?_
  refine r_getfield C 63 (host := "") (Or.inl (hw _ (List.mem_of_getElem? (i := 22) rfl))) Via.refl F_w_count dsa_60 rfl ?_
  refine r_iconst C 64 (1 : Int32) dsa_63 rfl rfl ?_
  refine r_icmp_le C 100 67 dsa_64 (by decide) (by decide) rfl (fun q => absurd q (by decide)) (fun _ => ?_)
  refine r_lloadN C 68 dsa_67 rfl rfl ?_
  refine r_aloadN C 69 dsa_68 rfl rfl rfl ?_
  refine r_getfield C 72 (host := "") (Or.inl (hw _ (List.mem_of_getElem? (i := 13) rfl))) Via.refl F_w_times dsa_69 rfl ?_
  refine r_aloadN C 73 dsa_72 rfl rfl rfl ?_
  refine r_getfield C 76 (host := "") (Or.inl (hw _ (List.mem_of_getElem? (i := 24) rfl))) Via.refl F_w_oldest dsa_73 rfl ?_
  refine r_iconst C 77 (1 : Int32) dsa_76 rfl rfl ?_
  refine r_iadd C 78 dsa_77 rfl ?_
  show Run _ _ _ _ _ _ _ _ 78 #[.val (.ref w), .val (.long x), .second, .val (.long y), .second, .val (.int (1 : Int32)), .unset, .unset, .unset, .unset] [(.int (1 : Int32)), (.ref w_times), (.long x)]
  refine r_aloadN C 79 dsa_78 rfl rfl rfl ?_
  refine r_getfield C 82 (host := "") (Or.inl (hw _ (List.mem_of_getElem? (i := 13) rfl))) Via.refl F_w_times dsa_79 rfl ?_
  refine r_arraylength C 83 V_t dsa_82 rfl ?_
  refine r_irem C 84 dsa_83 rfl (by first | decide | assumption) ?_
  show Run _ _ _ _ _ _ _ _ 84 #[.val (.ref w), .val (.long x), .second, .val (.long y), .second, .val (.int (1 : Int32)), .unset, .unset, .unset, .unset] [(.int (1 : Int32)), (.ref w_times), (.long x)]
  refine r_laload C 85 (v := (.long x)) V_t ⟨by decide, by decide⟩ rfl dsa_84 rfl ?_
  refine r_lsub C 86 dsa_85 rfl ?_
  refine r_ldc2_w C 89 dsa_86 rfl (hw _ (List.mem_of_getElem? (i := 26) rfl)) ?_
  refine r_lcmp_lt C 90 100 93 dsa_89 rfl dsa_90 (by decide) (by decide) rfl (fun _ => ?_) (fun q => absurd (own_self x) q)
  refine r_lloadN C 101 dsa_100 rfl rfl ?_
  refine r_aloadN C 102 dsa_101 rfl rfl rfl ?_
  refine r_getfield C 105 (host := "") (Or.inl (hw _ (List.mem_of_getElem? (i := 13) rfl))) Via.refl F_w_times dsa_102 rfl ?_
  refine r_aloadN C 106 dsa_105 rfl rfl rfl ?_
  refine r_getfield C 109 (host := "") (Or.inl (hw _ (List.mem_of_getElem? (i := 24) rfl))) Via.refl F_w_oldest dsa_106 rfl ?_
  refine r_laload C 110 (v := (.long s0)) V_t ⟨by decide, by decide⟩ rfl dsa_109 rfl ?_
  refine r_lsub C 111 dsa_110 rfl ?_
  refine r_lstore C 113 #[.val (.ref w), .val (.long x), .second, .val (.long y), .second, .val (.int (1 : Int32)), .val (.long (x - s0)), .second, .unset, .unset] dsa_111 rfl rfl ?_
  refine r_lloadN C 114 dsa_113 rfl rfl ?_
  refine r_aloadN C 115 dsa_114 rfl rfl rfl ?_
  refine r_getfield C 118 (host := "") (Or.inl (hw _ (List.mem_of_getElem? (i := 15) rfl))) Via.refl F_w_collected dsa_115 rfl ?_
  refine r_aloadN C 119 dsa_118 rfl rfl rfl ?_
  refine r_getfield C 122 (host := "") (Or.inl (hw _ (List.mem_of_getElem? (i := 24) rfl))) Via.refl F_w_oldest dsa_119 rfl ?_
  refine r_laload C 123 (v := (.long d0)) V_c ⟨by decide, by decide⟩ rfl dsa_122 rfl ?_
  refine r_lsub C 124 dsa_123 rfl ?_
  refine r_lstore C 126 #[.val (.ref w), .val (.long x), .second, .val (.long y), .second, .val (.int (1 : Int32)), .val (.long (x - s0)), .second, .val (.long (y - d0)), .second] dsa_124 rfl rfl ?_
  refine r_lload C 128 dsa_126 rfl rfl ?_
  refine r_ldc2_w C 131 dsa_128 rfl (hw _ (List.mem_of_getElem? (i := 26) rfl)) ?_
  refine r_lcmp_lt C 132 157 135 dsa_131 rfl dsa_132 (by decide) (by decide) rfl ?_ ?_
  · intro q1
    refine r_iconst C 158 (0 : Int32) dsa_157 rfl rfl ?_
    exact r_nreturn C (0 : Int32) rfl (t := .boolean) (by simp) rfl dsa_158 (by decide) (by decide) ⟨by rw [sm, if_pos q1], KP, ⟨E_w, F_w_times, F_w_collected, F_w_oldest, F_w_count⟩, V_t, V_c⟩
  · intro q1
    refine r_lload C 137 dsa_135 rfl rfl ?_
    refine r_l2d C 138 dsa_137 rfl ?_
    refine r_ldc2D C 141 dsa_138 rfl (hw _ (List.mem_of_getElem? (i := 31) rfl)) ?_
    refine r_dmul C 142 dsa_141 rfl (own_nn1 _) ?_
    refine r_ldc2D C 145 dsa_142 rfl (hw _ (List.mem_of_getElem? (i := 32) rfl)) ?_
    refine r_lload C 147 dsa_145 rfl rfl ?_
    refine r_l2d C 148 dsa_147 rfl ?_
    refine r_dmul C 149 dsa_148 rfl (own_nn2 _) ?_
    refine r_dcmpl C 150 dsa_149 rfl ?_
    have cw := OwnF.cmp09 hC hC2 (own_ge q1) hN
    refine r_if_lt C 157 153 dsa_150 (by decide) (by decide) rfl ?_ ?_
    · intro q2
      refine r_iconst C 158 (0 : Int32) dsa_157 rfl rfl ?_
      exact r_nreturn C (0 : Int32) rfl (t := .boolean) (by simp) rfl dsa_158 (by decide) (by decide) ⟨by rw [sm, if_neg q1, if_pos (cw.mp q2)], KP, ⟨E_w, F_w_times, F_w_collected, F_w_oldest, F_w_count⟩, V_t, V_c⟩
    · intro q2
      refine r_iconst C 154 (1 : Int32) dsa_153 rfl rfl ?_
      refine r_goto C 158 dsa_154 (by decide) (by decide) ?_
      exact r_nreturn C (1 : Int32) rfl (t := .boolean) (by simp) rfl dsa_158 (by decide) (by decide) ⟨by rw [sm, if_neg q1, if_neg (fun z => q2 (cw.mpr z))], KP, ⟨E_w, F_w_times, F_w_collected, F_w_oldest, F_w_count⟩, V_t, V_c⟩
theorem ef_rmSa_4_0_2_0 (w : Addr) (x : Int64) (y : Int64) : ∀ mI_, entryFrame mI_ #[(.ref w), (.long x), (.long y)] 10 = mkF mI_ 0 #[.val (.ref w), .val (.long x), .second, .val (.long y), .second, .unset, .unset, .unset, .unset, .unset] [] := fun mI_ => by first | (simp [entryFrame, mkF, argsToLocals, Value.category]; done) | rfl
set_option maxRecDepth 65536 in
set_option maxHeartbeats 40000000 in
theorem rmSa_4_0_2_0 (l : Launch) (Z : State) (a0 : Array Value) (hw : ∀ d ∈ tables_1, d.before a0 Z = true) (w : Addr) (x : Int64) (y : Int64) (w_times : Addr) (w_collected : Addr) (kt kc : ClassId) (s0 s1 s2 s3 d0 d1 d2 d3 : Int64) (h0 : Heap) (n0 : Nat) (Zs : n0 ≤ h0.size) (hW : HwW Z h0 w w_times w_collected (0 : Int32) (2 : Int32)) (V_t : Arv Z h0 w_times kt .long (4 : Int32) [(.long s0), (.long s1), (.long s2), (.long s3)] (.long (0 : Int64))) (V_c : Arv Z h0 w_collected kc .long (4 : Int32) [(.long d0), (.long d1), (.long d2), (.long d3)] (.long (0 : Int64))) (ntc : w_times ≠ w_collected) (g_w : n0 ≤ w) (g_w_times : n0 ≤ w_times) (g_w_collected : n0 ≤ w_collected) (b1 : (x - s1) < 5000000000) (hN : (x - s0).toInt < 68719476736) (hC : 0 ≤ (y - d0).toInt) (hC2 : (y - d0).toInt < 1000000) :
    Con l Z (⟨"com/example/indenture/indenture/app/HeapWatch", "sample", "(JJ)Z"⟩ : MethodName) prog_1_method_2_code 10 (some .boolean) [] ({ frames := 1, cells := 0, slots := 0, locals := 20 } : Room) n0 #[(.ref w), (.long x), (.long y)] h0 (fun v h => v = some (.int (sm (x - s0) (y - d0))) ∧ Keep h0 h [w, w_times, w_collected] ∧ HwW Z h w w_times w_collected (0 : Int32) (3 : Int32) ∧ Arv Z h w_times kt .long (4 : Int32) [(.long s0), (.long s1), (.long x), (.long s3)] (.long (0 : Int64)) ∧ Arv Z h w_collected kc .long (4 : Int32) [(.long d0), (.long d1), (.long y), (.long d3)] (.long (0 : Int64))) := by
  refine Con.of (plainFor_of_name pn_q0) (ef_rmSa_4_0_2_0 w x y) ?_
  intro K C
  replace C : Ok Z "com/example/indenture/indenture/app/HeapWatch" "sample" prog_1_method_2_code 10 (some .boolean) K := C
  have KP := Keep.refl h0 [w, w_times, w_collected]
  obtain ⟨E_w, F_w_times, F_w_collected, F_w_oldest, F_w_count⟩ := hW
  have nwt : w ≠ w_times := exaArvNe E_w (hw _ (List.mem_of_getElem? (i := 5) rfl)) V_t
  have nwc : w ≠ w_collected := exaArvNe E_w (hw _ (List.mem_of_getElem? (i := 5) rfl)) V_c
  refine r_aloadN C 1 dsa_0 rfl rfl rfl ?_
  refine r_getfield C 4 (host := "") (Or.inl (hw _ (List.mem_of_getElem? (i := 22) rfl))) Via.refl F_w_count dsa_1 rfl ?_
  refine r_aloadN C 5 dsa_4 rfl rfl rfl ?_
  refine r_getfield C 8 (host := "") (Or.inl (hw _ (List.mem_of_getElem? (i := 13) rfl))) Via.refl F_w_times dsa_5 rfl ?_
  refine r_arraylength C 9 V_t dsa_8 rfl ?_
  refine r_icmp_ne C 16 12 dsa_9 (by decide) (by decide) rfl (fun _ => ?_) (fun q => absurd q (by decide))
  refine r_aloadN C 17 dsa_16 rfl rfl rfl ?_
  refine r_getfield C 20 (host := "") (Or.inl (hw _ (List.mem_of_getElem? (i := 24) rfl))) Via.refl F_w_oldest dsa_17 rfl ?_
  refine r_aloadN C 21 dsa_20 rfl rfl rfl ?_
  refine r_getfield C 24 (host := "") (Or.inl (hw _ (List.mem_of_getElem? (i := 22) rfl))) Via.refl F_w_count dsa_21 rfl ?_
  refine r_iadd C 25 dsa_24 rfl ?_
  show Run _ _ _ _ _ _ _ _ 25 #[.val (.ref w), .val (.long x), .second, .val (.long y), .second, .unset, .unset, .unset, .unset, .unset] [(.int (2 : Int32))]
  refine r_aloadN C 26 dsa_25 rfl rfl rfl ?_
  refine r_getfield C 29 (host := "") (Or.inl (hw _ (List.mem_of_getElem? (i := 13) rfl))) Via.refl F_w_times dsa_26 rfl ?_
  refine r_arraylength C 30 V_t dsa_29 rfl ?_
  refine r_irem C 31 dsa_30 rfl (by first | decide | assumption) ?_
  show Run _ _ _ _ _ _ _ _ 31 #[.val (.ref w), .val (.long x), .second, .val (.long y), .second, .unset, .unset, .unset, .unset, .unset] [(.int (2 : Int32))]
  refine r_istore C 33 #[.val (.ref w), .val (.long x), .second, .val (.long y), .second, .val (.int (2 : Int32)), .unset, .unset, .unset, .unset] dsa_31 rfl rfl ?_
  refine r_aloadN C 34 dsa_33 rfl rfl rfl ?_
  refine r_getfield C 37 (host := "") (Or.inl (hw _ (List.mem_of_getElem? (i := 13) rfl))) Via.refl F_w_times dsa_34 rfl ?_
  refine r_iload C 39 dsa_37 rfl rfl ?_
  refine r_lloadN C 40 dsa_39 rfl rfl ?_
  refine r_lastore C 41 V_t ⟨by decide, by decide⟩ (Nat.le_of_ble_eq_true rfl) dsa_40 rfl g_w_times ?_
  intro h1 W1 V1
  replace E_w := E_w.wr W1
  replace F_w_times := Fld.other W1 F_w_times (Or.inl nwt)
  replace F_w_collected := Fld.other W1 F_w_collected (Or.inl nwt)
  replace F_w_oldest := Fld.other W1 F_w_oldest (Or.inl nwt)
  replace F_w_count := Fld.other W1 F_w_count (Or.inl nwt)
  replace V_c := V_c.other W1 (Ne.symm ntc)
  replace Zs := Nat.le_trans Zs (Nat.le_of_eq W1.size.symm)
  replace KP := KP.wr W1 (Or.inl (List.mem_of_getElem? (i := 1) rfl))
  replace V_t : Arv Z h1 w_times kt .long (4 : Int32) [(.long s0), (.long s1), (.long x), (.long s3)] (.long (0 : Int64)) := V1
  refine r_aloadN C 42 dsa_41 rfl rfl rfl ?_
  refine r_getfield C 45 (host := "") (Or.inl (hw _ (List.mem_of_getElem? (i := 15) rfl))) Via.refl F_w_collected dsa_42 rfl ?_
  refine r_iload C 47 dsa_45 rfl rfl ?_
  refine r_lloadN C 48 dsa_47 rfl rfl ?_
  refine r_lastore C 49 V_c ⟨by decide, by decide⟩ (Nat.le_of_ble_eq_true rfl) dsa_48 rfl g_w_collected ?_
  intro h2 W2 V2
  replace E_w := E_w.wr W2
  replace F_w_times := Fld.other W2 F_w_times (Or.inl nwc)
  replace F_w_collected := Fld.other W2 F_w_collected (Or.inl nwc)
  replace F_w_oldest := Fld.other W2 F_w_oldest (Or.inl nwc)
  replace F_w_count := Fld.other W2 F_w_count (Or.inl nwc)
  replace V_t := V_t.other W2 ntc
  replace Zs := Nat.le_trans Zs (Nat.le_of_eq W2.size.symm)
  replace KP := KP.wr W2 (Or.inl (List.mem_of_getElem? (i := 2) rfl))
  replace V_c : Arv Z h2 w_collected kc .long (4 : Int32) [(.long d0), (.long d1), (.long y), (.long d3)] (.long (0 : Int64)) := V2
  refine r_aloadN C 50 dsa_49 rfl rfl rfl ?_
  refine r_dup C 51 dsa_50 rfl rfl ?_
  refine r_getfield C 54 (host := "") (Or.inl (hw _ (List.mem_of_getElem? (i := 22) rfl))) Via.refl F_w_count dsa_51 rfl ?_
  refine r_iconst C 55 (1 : Int32) dsa_54 rfl rfl ?_
  refine r_iadd C 56 dsa_55 rfl ?_
  show Run _ _ _ _ _ _ _ _ 56 #[.val (.ref w), .val (.long x), .second, .val (.long y), .second, .val (.int (2 : Int32)), .unset, .unset, .unset, .unset] [(.int (3 : Int32)), (.ref w)]
  refine r_putfield C 59 (host := "") (Or.inl (hw _ (List.mem_of_getElem? (i := 22) rfl))) Via.refl F_w_count E_w (Or.inl (hw _ (List.mem_of_getElem? (i := 23) rfl))) (hw _ (List.mem_of_getElem? (i := 5) rfl)) (ty := .int) (by decide) rfl rfl dsa_56 rfl g_w ?_
  intro h3 W3
  replace E_w := E_w.wr W3
  replace F_w_times := Fld.other W3 F_w_times (Or.inr (slot_ne (Or.inr (hw _ (List.mem_of_getElem? (i := 14) rfl))) (Or.inl (hw _ (List.mem_of_getElem? (i := 23) rfl))) (by decide) (t := (.array .long)) (t' := .int) (by decide) (by decide)))
  replace F_w_collected := Fld.other W3 F_w_collected (Or.inr (slot_ne (Or.inr (hw _ (List.mem_of_getElem? (i := 16) rfl))) (Or.inl (hw _ (List.mem_of_getElem? (i := 23) rfl))) (by decide) (t := (.array .long)) (t' := .int) (by decide) (by decide)))
  replace F_w_oldest := Fld.other W3 F_w_oldest (Or.inr (slot_ne (Or.inl (hw _ (List.mem_of_getElem? (i := 25) rfl))) (Or.inl (hw _ (List.mem_of_getElem? (i := 23) rfl))) (by decide) (t := .int) (t' := .int) (by decide) (by decide)))
  replace V_t := V_t.other W3 (Ne.symm nwt)
  replace V_c := V_c.other W3 (Ne.symm nwc)
  replace F_w_count := F_w_count.same W3
  replace Zs := Nat.le_trans Zs (Nat.le_of_eq W3.size.symm)
  replace KP := KP.wr W3 (Or.inl (List.mem_of_getElem? (i := 0) rfl))
  refine r_aloadN C 60 dsa_59 rfl rfl rfl ?_
  refine r_getfield C 63 (host := "") (Or.inl (hw _ (List.mem_of_getElem? (i := 22) rfl))) Via.refl F_w_count dsa_60 rfl ?_
  refine r_iconst C 64 (1 : Int32) dsa_63 rfl rfl ?_
  refine r_icmp_le C 100 67 dsa_64 (by decide) (by decide) rfl (fun q => absurd q (by decide)) (fun _ => ?_)
  refine r_lloadN C 68 dsa_67 rfl rfl ?_
  refine r_aloadN C 69 dsa_68 rfl rfl rfl ?_
  refine r_getfield C 72 (host := "") (Or.inl (hw _ (List.mem_of_getElem? (i := 13) rfl))) Via.refl F_w_times dsa_69 rfl ?_
  refine r_aloadN C 73 dsa_72 rfl rfl rfl ?_
  refine r_getfield C 76 (host := "") (Or.inl (hw _ (List.mem_of_getElem? (i := 24) rfl))) Via.refl F_w_oldest dsa_73 rfl ?_
  refine r_iconst C 77 (1 : Int32) dsa_76 rfl rfl ?_
  refine r_iadd C 78 dsa_77 rfl ?_
  show Run _ _ _ _ _ _ _ _ 78 #[.val (.ref w), .val (.long x), .second, .val (.long y), .second, .val (.int (2 : Int32)), .unset, .unset, .unset, .unset] [(.int (1 : Int32)), (.ref w_times), (.long x)]
  refine r_aloadN C 79 dsa_78 rfl rfl rfl ?_
  refine r_getfield C 82 (host := "") (Or.inl (hw _ (List.mem_of_getElem? (i := 13) rfl))) Via.refl F_w_times dsa_79 rfl ?_
  refine r_arraylength C 83 V_t dsa_82 rfl ?_
  refine r_irem C 84 dsa_83 rfl (by first | decide | assumption) ?_
  show Run _ _ _ _ _ _ _ _ 84 #[.val (.ref w), .val (.long x), .second, .val (.long y), .second, .val (.int (2 : Int32)), .unset, .unset, .unset, .unset] [(.int (1 : Int32)), (.ref w_times), (.long x)]
  refine r_laload C 85 (v := (.long s1)) V_t ⟨by decide, by decide⟩ rfl dsa_84 rfl ?_
  refine r_lsub C 86 dsa_85 rfl ?_
  refine r_ldc2_w C 89 dsa_86 rfl (hw _ (List.mem_of_getElem? (i := 26) rfl)) ?_
  refine r_lcmp_lt C 90 100 93 dsa_89 rfl dsa_90 (by decide) (by decide) rfl (fun _ => ?_) (fun q => absurd b1 q)
  refine r_lloadN C 101 dsa_100 rfl rfl ?_
  refine r_aloadN C 102 dsa_101 rfl rfl rfl ?_
  refine r_getfield C 105 (host := "") (Or.inl (hw _ (List.mem_of_getElem? (i := 13) rfl))) Via.refl F_w_times dsa_102 rfl ?_
  refine r_aloadN C 106 dsa_105 rfl rfl rfl ?_
  refine r_getfield C 109 (host := "") (Or.inl (hw _ (List.mem_of_getElem? (i := 24) rfl))) Via.refl F_w_oldest dsa_106 rfl ?_
  refine r_laload C 110 (v := (.long s0)) V_t ⟨by decide, by decide⟩ rfl dsa_109 rfl ?_
  refine r_lsub C 111 dsa_110 rfl ?_
  refine r_lstore C 113 #[.val (.ref w), .val (.long x), .second, .val (.long y), .second, .val (.int (2 : Int32)), .val (.long (x - s0)), .second, .unset, .unset] dsa_111 rfl rfl ?_
  refine r_lloadN C 114 dsa_113 rfl rfl ?_
  refine r_aloadN C 115 dsa_114 rfl rfl rfl ?_
  refine r_getfield C 118 (host := "") (Or.inl (hw _ (List.mem_of_getElem? (i := 15) rfl))) Via.refl F_w_collected dsa_115 rfl ?_
  refine r_aloadN C 119 dsa_118 rfl rfl rfl ?_
  refine r_getfield C 122 (host := "") (Or.inl (hw _ (List.mem_of_getElem? (i := 24) rfl))) Via.refl F_w_oldest dsa_119 rfl ?_
  refine r_laload C 123 (v := (.long d0)) V_c ⟨by decide, by decide⟩ rfl dsa_122 rfl ?_
  refine r_lsub C 124 dsa_123 rfl ?_
  refine r_lstore C 126 #[.val (.ref w), .val (.long x), .second, .val (.long y), .second, .val (.int (2 : Int32)), .val (.long (x - s0)), .second, .val (.long (y - d0)), .second] dsa_124 rfl rfl ?_
  refine r_lload C 128 dsa_126 rfl rfl ?_
  refine r_ldc2_w C 131 dsa_128 rfl (hw _ (List.mem_of_getElem? (i := 26) rfl)) ?_
  refine r_lcmp_lt C 132 157 135 dsa_131 rfl dsa_132 (by decide) (by decide) rfl ?_ ?_
  · intro q1
    refine r_iconst C 158 (0 : Int32) dsa_157 rfl rfl ?_
    exact r_nreturn C (0 : Int32) rfl (t := .boolean) (by simp) rfl dsa_158 (by decide) (by decide) ⟨by rw [sm, if_pos q1], KP, ⟨E_w, F_w_times, F_w_collected, F_w_oldest, F_w_count⟩, V_t, V_c⟩
  · intro q1
    refine r_lload C 137 dsa_135 rfl rfl ?_
    refine r_l2d C 138 dsa_137 rfl ?_
    refine r_ldc2D C 141 dsa_138 rfl (hw _ (List.mem_of_getElem? (i := 31) rfl)) ?_
    refine r_dmul C 142 dsa_141 rfl (own_nn1 _) ?_
    refine r_ldc2D C 145 dsa_142 rfl (hw _ (List.mem_of_getElem? (i := 32) rfl)) ?_
    refine r_lload C 147 dsa_145 rfl rfl ?_
    refine r_l2d C 148 dsa_147 rfl ?_
    refine r_dmul C 149 dsa_148 rfl (own_nn2 _) ?_
    refine r_dcmpl C 150 dsa_149 rfl ?_
    have cw := OwnF.cmp09 hC hC2 (own_ge q1) hN
    refine r_if_lt C 157 153 dsa_150 (by decide) (by decide) rfl ?_ ?_
    · intro q2
      refine r_iconst C 158 (0 : Int32) dsa_157 rfl rfl ?_
      exact r_nreturn C (0 : Int32) rfl (t := .boolean) (by simp) rfl dsa_158 (by decide) (by decide) ⟨by rw [sm, if_neg q1, if_pos (cw.mp q2)], KP, ⟨E_w, F_w_times, F_w_collected, F_w_oldest, F_w_count⟩, V_t, V_c⟩
    · intro q2
      refine r_iconst C 154 (1 : Int32) dsa_153 rfl rfl ?_
      refine r_goto C 158 dsa_154 (by decide) (by decide) ?_
      exact r_nreturn C (1 : Int32) rfl (t := .boolean) (by simp) rfl dsa_158 (by decide) (by decide) ⟨by rw [sm, if_neg q1, if_neg (fun z => q2 (cw.mpr z))], KP, ⟨E_w, F_w_times, F_w_collected, F_w_oldest, F_w_count⟩, V_t, V_c⟩
theorem ef_rmSa_4_0_2_1 (w : Addr) (x : Int64) (y : Int64) : ∀ mI_, entryFrame mI_ #[(.ref w), (.long x), (.long y)] 10 = mkF mI_ 0 #[.val (.ref w), .val (.long x), .second, .val (.long y), .second, .unset, .unset, .unset, .unset, .unset] [] := fun mI_ => by first | (simp [entryFrame, mkF, argsToLocals, Value.category]; done) | rfl
set_option maxRecDepth 65536 in
set_option maxHeartbeats 40000000 in
theorem rmSa_4_0_2_1 (l : Launch) (Z : State) (a0 : Array Value) (hw : ∀ d ∈ tables_1, d.before a0 Z = true) (w : Addr) (x : Int64) (y : Int64) (w_times : Addr) (w_collected : Addr) (kt kc : ClassId) (s0 s1 s2 s3 d0 d1 d2 d3 : Int64) (h0 : Heap) (n0 : Nat) (Zs : n0 ≤ h0.size) (hW : HwW Z h0 w w_times w_collected (0 : Int32) (2 : Int32)) (V_t : Arv Z h0 w_times kt .long (4 : Int32) [(.long s0), (.long s1), (.long s2), (.long s3)] (.long (0 : Int64))) (V_c : Arv Z h0 w_collected kc .long (4 : Int32) [(.long d0), (.long d1), (.long d2), (.long d3)] (.long (0 : Int64))) (ntc : w_times ≠ w_collected) (g_w : n0 ≤ w) (g_w_times : n0 ≤ w_times) (g_w_collected : n0 ≤ w_collected) (b1 : ¬ (x - s1) < 5000000000) (hN : (x - s1).toInt < 68719476736) (hC : 0 ≤ (y - d1).toInt) (hC2 : (y - d1).toInt < 1000000) :
    Con l Z (⟨"com/example/indenture/indenture/app/HeapWatch", "sample", "(JJ)Z"⟩ : MethodName) prog_1_method_2_code 10 (some .boolean) [] ({ frames := 1, cells := 0, slots := 0, locals := 20 } : Room) n0 #[(.ref w), (.long x), (.long y)] h0 (fun v h => v = some (.int (sm (x - s1) (y - d1))) ∧ Keep h0 h [w, w_times, w_collected] ∧ HwW Z h w w_times w_collected (1 : Int32) (2 : Int32) ∧ Arv Z h w_times kt .long (4 : Int32) [(.long s0), (.long s1), (.long x), (.long s3)] (.long (0 : Int64)) ∧ Arv Z h w_collected kc .long (4 : Int32) [(.long d0), (.long d1), (.long y), (.long d3)] (.long (0 : Int64))) := by
  refine Con.of (plainFor_of_name pn_q0) (ef_rmSa_4_0_2_1 w x y) ?_
  intro K C
  replace C : Ok Z "com/example/indenture/indenture/app/HeapWatch" "sample" prog_1_method_2_code 10 (some .boolean) K := C
  have KP := Keep.refl h0 [w, w_times, w_collected]
  obtain ⟨E_w, F_w_times, F_w_collected, F_w_oldest, F_w_count⟩ := hW
  have nwt : w ≠ w_times := exaArvNe E_w (hw _ (List.mem_of_getElem? (i := 5) rfl)) V_t
  have nwc : w ≠ w_collected := exaArvNe E_w (hw _ (List.mem_of_getElem? (i := 5) rfl)) V_c
  refine r_aloadN C 1 dsa_0 rfl rfl rfl ?_
  refine r_getfield C 4 (host := "") (Or.inl (hw _ (List.mem_of_getElem? (i := 22) rfl))) Via.refl F_w_count dsa_1 rfl ?_
  refine r_aloadN C 5 dsa_4 rfl rfl rfl ?_
  refine r_getfield C 8 (host := "") (Or.inl (hw _ (List.mem_of_getElem? (i := 13) rfl))) Via.refl F_w_times dsa_5 rfl ?_
  refine r_arraylength C 9 V_t dsa_8 rfl ?_
  refine r_icmp_ne C 16 12 dsa_9 (by decide) (by decide) rfl (fun _ => ?_) (fun q => absurd q (by decide))
  refine r_aloadN C 17 dsa_16 rfl rfl rfl ?_
  refine r_getfield C 20 (host := "") (Or.inl (hw _ (List.mem_of_getElem? (i := 24) rfl))) Via.refl F_w_oldest dsa_17 rfl ?_
  refine r_aloadN C 21 dsa_20 rfl rfl rfl ?_
  refine r_getfield C 24 (host := "") (Or.inl (hw _ (List.mem_of_getElem? (i := 22) rfl))) Via.refl F_w_count dsa_21 rfl ?_
  refine r_iadd C 25 dsa_24 rfl ?_
  show Run _ _ _ _ _ _ _ _ 25 #[.val (.ref w), .val (.long x), .second, .val (.long y), .second, .unset, .unset, .unset, .unset, .unset] [(.int (2 : Int32))]
  refine r_aloadN C 26 dsa_25 rfl rfl rfl ?_
  refine r_getfield C 29 (host := "") (Or.inl (hw _ (List.mem_of_getElem? (i := 13) rfl))) Via.refl F_w_times dsa_26 rfl ?_
  refine r_arraylength C 30 V_t dsa_29 rfl ?_
  refine r_irem C 31 dsa_30 rfl (by first | decide | assumption) ?_
  show Run _ _ _ _ _ _ _ _ 31 #[.val (.ref w), .val (.long x), .second, .val (.long y), .second, .unset, .unset, .unset, .unset, .unset] [(.int (2 : Int32))]
  refine r_istore C 33 #[.val (.ref w), .val (.long x), .second, .val (.long y), .second, .val (.int (2 : Int32)), .unset, .unset, .unset, .unset] dsa_31 rfl rfl ?_
  refine r_aloadN C 34 dsa_33 rfl rfl rfl ?_
  refine r_getfield C 37 (host := "") (Or.inl (hw _ (List.mem_of_getElem? (i := 13) rfl))) Via.refl F_w_times dsa_34 rfl ?_
  refine r_iload C 39 dsa_37 rfl rfl ?_
  refine r_lloadN C 40 dsa_39 rfl rfl ?_
  refine r_lastore C 41 V_t ⟨by decide, by decide⟩ (Nat.le_of_ble_eq_true rfl) dsa_40 rfl g_w_times ?_
  intro h1 W1 V1
  replace E_w := E_w.wr W1
  replace F_w_times := Fld.other W1 F_w_times (Or.inl nwt)
  replace F_w_collected := Fld.other W1 F_w_collected (Or.inl nwt)
  replace F_w_oldest := Fld.other W1 F_w_oldest (Or.inl nwt)
  replace F_w_count := Fld.other W1 F_w_count (Or.inl nwt)
  replace V_c := V_c.other W1 (Ne.symm ntc)
  replace Zs := Nat.le_trans Zs (Nat.le_of_eq W1.size.symm)
  replace KP := KP.wr W1 (Or.inl (List.mem_of_getElem? (i := 1) rfl))
  replace V_t : Arv Z h1 w_times kt .long (4 : Int32) [(.long s0), (.long s1), (.long x), (.long s3)] (.long (0 : Int64)) := V1
  refine r_aloadN C 42 dsa_41 rfl rfl rfl ?_
  refine r_getfield C 45 (host := "") (Or.inl (hw _ (List.mem_of_getElem? (i := 15) rfl))) Via.refl F_w_collected dsa_42 rfl ?_
  refine r_iload C 47 dsa_45 rfl rfl ?_
  refine r_lloadN C 48 dsa_47 rfl rfl ?_
  refine r_lastore C 49 V_c ⟨by decide, by decide⟩ (Nat.le_of_ble_eq_true rfl) dsa_48 rfl g_w_collected ?_
  intro h2 W2 V2
  replace E_w := E_w.wr W2
  replace F_w_times := Fld.other W2 F_w_times (Or.inl nwc)
  replace F_w_collected := Fld.other W2 F_w_collected (Or.inl nwc)
  replace F_w_oldest := Fld.other W2 F_w_oldest (Or.inl nwc)
  replace F_w_count := Fld.other W2 F_w_count (Or.inl nwc)
  replace V_t := V_t.other W2 ntc
  replace Zs := Nat.le_trans Zs (Nat.le_of_eq W2.size.symm)
  replace KP := KP.wr W2 (Or.inl (List.mem_of_getElem? (i := 2) rfl))
  replace V_c : Arv Z h2 w_collected kc .long (4 : Int32) [(.long d0), (.long d1), (.long y), (.long d3)] (.long (0 : Int64)) := V2
  refine r_aloadN C 50 dsa_49 rfl rfl rfl ?_
  refine r_dup C 51 dsa_50 rfl rfl ?_
  refine r_getfield C 54 (host := "") (Or.inl (hw _ (List.mem_of_getElem? (i := 22) rfl))) Via.refl F_w_count dsa_51 rfl ?_
  refine r_iconst C 55 (1 : Int32) dsa_54 rfl rfl ?_
  refine r_iadd C 56 dsa_55 rfl ?_
  show Run _ _ _ _ _ _ _ _ 56 #[.val (.ref w), .val (.long x), .second, .val (.long y), .second, .val (.int (2 : Int32)), .unset, .unset, .unset, .unset] [(.int (3 : Int32)), (.ref w)]
  refine r_putfield C 59 (host := "") (Or.inl (hw _ (List.mem_of_getElem? (i := 22) rfl))) Via.refl F_w_count E_w (Or.inl (hw _ (List.mem_of_getElem? (i := 23) rfl))) (hw _ (List.mem_of_getElem? (i := 5) rfl)) (ty := .int) (by decide) rfl rfl dsa_56 rfl g_w ?_
  intro h3 W3
  replace E_w := E_w.wr W3
  replace F_w_times := Fld.other W3 F_w_times (Or.inr (slot_ne (Or.inr (hw _ (List.mem_of_getElem? (i := 14) rfl))) (Or.inl (hw _ (List.mem_of_getElem? (i := 23) rfl))) (by decide) (t := (.array .long)) (t' := .int) (by decide) (by decide)))
  replace F_w_collected := Fld.other W3 F_w_collected (Or.inr (slot_ne (Or.inr (hw _ (List.mem_of_getElem? (i := 16) rfl))) (Or.inl (hw _ (List.mem_of_getElem? (i := 23) rfl))) (by decide) (t := (.array .long)) (t' := .int) (by decide) (by decide)))
  replace F_w_oldest := Fld.other W3 F_w_oldest (Or.inr (slot_ne (Or.inl (hw _ (List.mem_of_getElem? (i := 25) rfl))) (Or.inl (hw _ (List.mem_of_getElem? (i := 23) rfl))) (by decide) (t := .int) (t' := .int) (by decide) (by decide)))
  replace V_t := V_t.other W3 (Ne.symm nwt)
  replace V_c := V_c.other W3 (Ne.symm nwc)
  replace F_w_count := F_w_count.same W3
  replace Zs := Nat.le_trans Zs (Nat.le_of_eq W3.size.symm)
  replace KP := KP.wr W3 (Or.inl (List.mem_of_getElem? (i := 0) rfl))
  refine r_aloadN C 60 dsa_59 rfl rfl rfl ?_
  refine r_getfield C 63 (host := "") (Or.inl (hw _ (List.mem_of_getElem? (i := 22) rfl))) Via.refl F_w_count dsa_60 rfl ?_
  refine r_iconst C 64 (1 : Int32) dsa_63 rfl rfl ?_
  refine r_icmp_le C 100 67 dsa_64 (by decide) (by decide) rfl (fun q => absurd q (by decide)) (fun _ => ?_)
  refine r_lloadN C 68 dsa_67 rfl rfl ?_
  refine r_aloadN C 69 dsa_68 rfl rfl rfl ?_
  refine r_getfield C 72 (host := "") (Or.inl (hw _ (List.mem_of_getElem? (i := 13) rfl))) Via.refl F_w_times dsa_69 rfl ?_
  refine r_aloadN C 73 dsa_72 rfl rfl rfl ?_
  refine r_getfield C 76 (host := "") (Or.inl (hw _ (List.mem_of_getElem? (i := 24) rfl))) Via.refl F_w_oldest dsa_73 rfl ?_
  refine r_iconst C 77 (1 : Int32) dsa_76 rfl rfl ?_
  refine r_iadd C 78 dsa_77 rfl ?_
  show Run _ _ _ _ _ _ _ _ 78 #[.val (.ref w), .val (.long x), .second, .val (.long y), .second, .val (.int (2 : Int32)), .unset, .unset, .unset, .unset] [(.int (1 : Int32)), (.ref w_times), (.long x)]
  refine r_aloadN C 79 dsa_78 rfl rfl rfl ?_
  refine r_getfield C 82 (host := "") (Or.inl (hw _ (List.mem_of_getElem? (i := 13) rfl))) Via.refl F_w_times dsa_79 rfl ?_
  refine r_arraylength C 83 V_t dsa_82 rfl ?_
  refine r_irem C 84 dsa_83 rfl (by first | decide | assumption) ?_
  show Run _ _ _ _ _ _ _ _ 84 #[.val (.ref w), .val (.long x), .second, .val (.long y), .second, .val (.int (2 : Int32)), .unset, .unset, .unset, .unset] [(.int (1 : Int32)), (.ref w_times), (.long x)]
  refine r_laload C 85 (v := (.long s1)) V_t ⟨by decide, by decide⟩ rfl dsa_84 rfl ?_
  refine r_lsub C 86 dsa_85 rfl ?_
  refine r_ldc2_w C 89 dsa_86 rfl (hw _ (List.mem_of_getElem? (i := 26) rfl)) ?_
  refine r_lcmp_lt C 90 100 93 dsa_89 rfl dsa_90 (by decide) (by decide) rfl (fun q => absurd q b1) (fun _ => ?_)
  refine r_aloadN C 94 dsa_93 rfl rfl rfl ?_
  refine r_callP C 97 (y := (⟨"com/example/indenture/indenture/app/HeapWatch", "drop", "()V"⟩ : MethodName)) (a := w) [] [] (rmDr l Z a0 hw w w_times w_collected (0 : Int32) (3 : Int32) kt (4 : Int32) _ h3 n0 Zs ⟨E_w, F_w_times, F_w_collected, F_w_oldest, F_w_count⟩ V_t (by decide) g_w) (hw _ (List.mem_of_getElem? (i := 27) rfl)) (hw _ (List.mem_of_getElem? (i := 28) rfl)) (selPriv (hw _ (List.mem_of_getElem? (i := 5) rfl)) (hw _ (List.mem_of_getElem? (i := 29) rfl)) (hw _ (List.mem_of_getElem? (i := 28) rfl)) (by decide)) (hw _ (List.mem_of_getElem? (i := 29) rfl)) (hw _ (List.mem_of_getElem? (i := 6) rfl)) (hw _ (List.mem_of_getElem? (i := 30) rfl)) E_w.cell (by decide) (lenOf pd___V rfl) rfl rfl (by decide) (Nat.le_of_ble_eq_true rfl) (by decide) (by decide) rfl dsa_94 rfl ?_
  intro v4 h4 q4 z4
  obtain ⟨rfl, K4, hW⟩ := q4
  replace hW : HwW Z h4 w w_times w_collected (1 : Int32) (2 : Int32) := hW
  replace E_w := E_w.keep K4
  replace V_t := V_t.keep K4 (ninS (Ne.symm nwt) nin0)
  replace V_c := V_c.keep K4 (ninS (Ne.symm nwc) nin0)
  replace KP := KP.trans K4 (allS (Or.inl (List.mem_of_getElem? (i := 0) rfl)) all0)
  replace Zs := Nat.le_trans Zs K4.1
  obtain ⟨E_w, F_w_times, F_w_collected, F_w_oldest, F_w_count⟩ := hW
  show Run _ _ _ _ _ _ _ _ 97 #[.val (.ref w), .val (.long x), .second, .val (.long y), .second, .val (.int (2 : Int32)), .unset, .unset, .unset, .unset] []
  refine r_goto C 59 dsa_97 (by decide) (by decide) ?_
  refine r_aloadN C 60 dsa_59 rfl rfl rfl ?_
  refine r_getfield C 63 (host := "") (Or.inl (hw _ (List.mem_of_getElem? (i := 22) rfl))) Via.refl F_w_count dsa_60 rfl ?_
  refine r_iconst C 64 (1 : Int32) dsa_63 rfl rfl ?_
  refine r_icmp_le C 100 67 dsa_64 (by decide) (by decide) rfl (fun q => absurd q (by decide)) (fun _ => ?_)
  refine r_lloadN C 68 dsa_67 rfl rfl ?_
  refine r_aloadN C 69 dsa_68 rfl rfl rfl ?_
  refine r_getfield C 72 (host := "") (Or.inl (hw _ (List.mem_of_getElem? (i := 13) rfl))) Via.refl F_w_times dsa_69 rfl ?_
  refine r_aloadN C 73 dsa_72 rfl rfl rfl ?_
  refine r_getfield C 76 (host := "") (Or.inl (hw _ (List.mem_of_getElem? (i := 24) rfl))) Via.refl F_w_oldest dsa_73 rfl ?_
  refine r_iconst C 77 (1 : Int32) dsa_76 rfl rfl ?_
  refine r_iadd C 78 dsa_77 rfl ?_
  show Run _ _ _ _ _ _ _ _ 78 #[.val (.ref w), .val (.long x), .second, .val (.long y), .second, .val (.int (2 : Int32)), .unset, .unset, .unset, .unset] [(.int (2 : Int32)), (.ref w_times), (.long x)]
  refine r_aloadN C 79 dsa_78 rfl rfl rfl ?_
  refine r_getfield C 82 (host := "") (Or.inl (hw _ (List.mem_of_getElem? (i := 13) rfl))) Via.refl F_w_times dsa_79 rfl ?_
  refine r_arraylength C 83 V_t dsa_82 rfl ?_
  refine r_irem C 84 dsa_83 rfl (by first | decide | assumption) ?_
  show Run _ _ _ _ _ _ _ _ 84 #[.val (.ref w), .val (.long x), .second, .val (.long y), .second, .val (.int (2 : Int32)), .unset, .unset, .unset, .unset] [(.int (2 : Int32)), (.ref w_times), (.long x)]
  refine r_laload C 85 (v := (.long x)) V_t ⟨by decide, by decide⟩ rfl dsa_84 rfl ?_
  refine r_lsub C 86 dsa_85 rfl ?_
  refine r_ldc2_w C 89 dsa_86 rfl (hw _ (List.mem_of_getElem? (i := 26) rfl)) ?_
  refine r_lcmp_lt C 90 100 93 dsa_89 rfl dsa_90 (by decide) (by decide) rfl (fun _ => ?_) (fun q => absurd (own_self x) q)
  refine r_lloadN C 101 dsa_100 rfl rfl ?_
  refine r_aloadN C 102 dsa_101 rfl rfl rfl ?_
  refine r_getfield C 105 (host := "") (Or.inl (hw _ (List.mem_of_getElem? (i := 13) rfl))) Via.refl F_w_times dsa_102 rfl ?_
  refine r_aloadN C 106 dsa_105 rfl rfl rfl ?_
  refine r_getfield C 109 (host := "") (Or.inl (hw _ (List.mem_of_getElem? (i := 24) rfl))) Via.refl F_w_oldest dsa_106 rfl ?_
  refine r_laload C 110 (v := (.long s1)) V_t ⟨by decide, by decide⟩ rfl dsa_109 rfl ?_
  refine r_lsub C 111 dsa_110 rfl ?_
  refine r_lstore C 113 #[.val (.ref w), .val (.long x), .second, .val (.long y), .second, .val (.int (2 : Int32)), .val (.long (x - s1)), .second, .unset, .unset] dsa_111 rfl rfl ?_
  refine r_lloadN C 114 dsa_113 rfl rfl ?_
  refine r_aloadN C 115 dsa_114 rfl rfl rfl ?_
  refine r_getfield C 118 (host := "") (Or.inl (hw _ (List.mem_of_getElem? (i := 15) rfl))) Via.refl F_w_collected dsa_115 rfl ?_
  refine r_aloadN C 119 dsa_118 rfl rfl rfl ?_
  refine r_getfield C 122 (host := "") (Or.inl (hw _ (List.mem_of_getElem? (i := 24) rfl))) Via.refl F_w_oldest dsa_119 rfl ?_
  refine r_laload C 123 (v := (.long d1)) V_c ⟨by decide, by decide⟩ rfl dsa_122 rfl ?_
  refine r_lsub C 124 dsa_123 rfl ?_
  refine r_lstore C 126 #[.val (.ref w), .val (.long x), .second, .val (.long y), .second, .val (.int (2 : Int32)), .val (.long (x - s1)), .second, .val (.long (y - d1)), .second] dsa_124 rfl rfl ?_
  refine r_lload C 128 dsa_126 rfl rfl ?_
  refine r_ldc2_w C 131 dsa_128 rfl (hw _ (List.mem_of_getElem? (i := 26) rfl)) ?_
  refine r_lcmp_lt C 132 157 135 dsa_131 rfl dsa_132 (by decide) (by decide) rfl ?_ ?_
  · intro q1
    refine r_iconst C 158 (0 : Int32) dsa_157 rfl rfl ?_
    exact r_nreturn C (0 : Int32) rfl (t := .boolean) (by simp) rfl dsa_158 (by decide) (by decide) ⟨by rw [sm, if_pos q1], KP, ⟨E_w, F_w_times, F_w_collected, F_w_oldest, F_w_count⟩, V_t, V_c⟩
  · intro q1
    refine r_lload C 137 dsa_135 rfl rfl ?_
    refine r_l2d C 138 dsa_137 rfl ?_
    refine r_ldc2D C 141 dsa_138 rfl (hw _ (List.mem_of_getElem? (i := 31) rfl)) ?_
    refine r_dmul C 142 dsa_141 rfl (own_nn1 _) ?_
    refine r_ldc2D C 145 dsa_142 rfl (hw _ (List.mem_of_getElem? (i := 32) rfl)) ?_
    refine r_lload C 147 dsa_145 rfl rfl ?_
    refine r_l2d C 148 dsa_147 rfl ?_
    refine r_dmul C 149 dsa_148 rfl (own_nn2 _) ?_
    refine r_dcmpl C 150 dsa_149 rfl ?_
    have cw := OwnF.cmp09 hC hC2 (own_ge q1) hN
    refine r_if_lt C 157 153 dsa_150 (by decide) (by decide) rfl ?_ ?_
    · intro q2
      refine r_iconst C 158 (0 : Int32) dsa_157 rfl rfl ?_
      exact r_nreturn C (0 : Int32) rfl (t := .boolean) (by simp) rfl dsa_158 (by decide) (by decide) ⟨by rw [sm, if_neg q1, if_pos (cw.mp q2)], KP, ⟨E_w, F_w_times, F_w_collected, F_w_oldest, F_w_count⟩, V_t, V_c⟩
    · intro q2
      refine r_iconst C 154 (1 : Int32) dsa_153 rfl rfl ?_
      refine r_goto C 158 dsa_154 (by decide) (by decide) ?_
      exact r_nreturn C (1 : Int32) rfl (t := .boolean) (by simp) rfl dsa_158 (by decide) (by decide) ⟨by rw [sm, if_neg q1, if_neg (fun z => q2 (cw.mpr z))], KP, ⟨E_w, F_w_times, F_w_collected, F_w_oldest, F_w_count⟩, V_t, V_c⟩
theorem ef_rmSa_4_1_2_0 (w : Addr) (x : Int64) (y : Int64) : ∀ mI_, entryFrame mI_ #[(.ref w), (.long x), (.long y)] 10 = mkF mI_ 0 #[.val (.ref w), .val (.long x), .second, .val (.long y), .second, .unset, .unset, .unset, .unset, .unset] [] := fun mI_ => by first | (simp [entryFrame, mkF, argsToLocals, Value.category]; done) | rfl
set_option maxRecDepth 65536 in
set_option maxHeartbeats 40000000 in
theorem rmSa_4_1_2_0 (l : Launch) (Z : State) (a0 : Array Value) (hw : ∀ d ∈ tables_1, d.before a0 Z = true) (w : Addr) (x : Int64) (y : Int64) (w_times : Addr) (w_collected : Addr) (kt kc : ClassId) (s0 s1 s2 s3 d0 d1 d2 d3 : Int64) (h0 : Heap) (n0 : Nat) (Zs : n0 ≤ h0.size) (hW : HwW Z h0 w w_times w_collected (1 : Int32) (2 : Int32)) (V_t : Arv Z h0 w_times kt .long (4 : Int32) [(.long s0), (.long s1), (.long s2), (.long s3)] (.long (0 : Int64))) (V_c : Arv Z h0 w_collected kc .long (4 : Int32) [(.long d0), (.long d1), (.long d2), (.long d3)] (.long (0 : Int64))) (ntc : w_times ≠ w_collected) (g_w : n0 ≤ w) (g_w_times : n0 ≤ w_times) (g_w_collected : n0 ≤ w_collected) (b2 : (x - s2) < 5000000000) (hN : (x - s1).toInt < 68719476736) (hC : 0 ≤ (y - d1).toInt) (hC2 : (y - d1).toInt < 1000000) :
    Con l Z (⟨"com/example/indenture/indenture/app/HeapWatch", "sample", "(JJ)Z"⟩ : MethodName) prog_1_method_2_code 10 (some .boolean) [] ({ frames := 1, cells := 0, slots := 0, locals := 20 } : Room) n0 #[(.ref w), (.long x), (.long y)] h0 (fun v h => v = some (.int (sm (x - s1) (y - d1))) ∧ Keep h0 h [w, w_times, w_collected] ∧ HwW Z h w w_times w_collected (1 : Int32) (3 : Int32) ∧ Arv Z h w_times kt .long (4 : Int32) [(.long s0), (.long s1), (.long s2), (.long x)] (.long (0 : Int64)) ∧ Arv Z h w_collected kc .long (4 : Int32) [(.long d0), (.long d1), (.long d2), (.long y)] (.long (0 : Int64))) := by
  refine Con.of (plainFor_of_name pn_q0) (ef_rmSa_4_1_2_0 w x y) ?_
  intro K C
  replace C : Ok Z "com/example/indenture/indenture/app/HeapWatch" "sample" prog_1_method_2_code 10 (some .boolean) K := C
  have KP := Keep.refl h0 [w, w_times, w_collected]
  obtain ⟨E_w, F_w_times, F_w_collected, F_w_oldest, F_w_count⟩ := hW
  have nwt : w ≠ w_times := exaArvNe E_w (hw _ (List.mem_of_getElem? (i := 5) rfl)) V_t
  have nwc : w ≠ w_collected := exaArvNe E_w (hw _ (List.mem_of_getElem? (i := 5) rfl)) V_c
  refine r_aloadN C 1 dsa_0 rfl rfl rfl ?_
  refine r_getfield C 4 (host := "") (Or.inl (hw _ (List.mem_of_getElem? (i := 22) rfl))) Via.refl F_w_count dsa_1 rfl ?_
  refine r_aloadN C 5 dsa_4 rfl rfl rfl ?_
  refine r_getfield C 8 (host := "") (Or.inl (hw _ (List.mem_of_getElem? (i := 13) rfl))) Via.refl F_w_times dsa_5 rfl ?_
  refine r_arraylength C 9 V_t dsa_8 rfl ?_
  refine r_icmp_ne C 16 12 dsa_9 (by decide) (by decide) rfl (fun _ => ?_) (fun q => absurd q (by decide))
  refine r_aloadN C 17 dsa_16 rfl rfl rfl ?_
  refine r_getfield C 20 (host := "") (Or.inl (hw _ (List.mem_of_getElem? (i := 24) rfl))) Via.refl F_w_oldest dsa_17 rfl ?_
  refine r_aloadN C 21 dsa_20 rfl rfl rfl ?_
  refine r_getfield C 24 (host := "") (Or.inl (hw _ (List.mem_of_getElem? (i := 22) rfl))) Via.refl F_w_count dsa_21 rfl ?_
  refine r_iadd C 25 dsa_24 rfl ?_
  show Run _ _ _ _ _ _ _ _ 25 #[.val (.ref w), .val (.long x), .second, .val (.long y), .second, .unset, .unset, .unset, .unset, .unset] [(.int (3 : Int32))]
  refine r_aloadN C 26 dsa_25 rfl rfl rfl ?_
  refine r_getfield C 29 (host := "") (Or.inl (hw _ (List.mem_of_getElem? (i := 13) rfl))) Via.refl F_w_times dsa_26 rfl ?_
  refine r_arraylength C 30 V_t dsa_29 rfl ?_
  refine r_irem C 31 dsa_30 rfl (by first | decide | assumption) ?_
  show Run _ _ _ _ _ _ _ _ 31 #[.val (.ref w), .val (.long x), .second, .val (.long y), .second, .unset, .unset, .unset, .unset, .unset] [(.int (3 : Int32))]
  refine r_istore C 33 #[.val (.ref w), .val (.long x), .second, .val (.long y), .second, .val (.int (3 : Int32)), .unset, .unset, .unset, .unset] dsa_31 rfl rfl ?_
  refine r_aloadN C 34 dsa_33 rfl rfl rfl ?_
  refine r_getfield C 37 (host := "") (Or.inl (hw _ (List.mem_of_getElem? (i := 13) rfl))) Via.refl F_w_times dsa_34 rfl ?_
  refine r_iload C 39 dsa_37 rfl rfl ?_
  refine r_lloadN C 40 dsa_39 rfl rfl ?_
  refine r_lastore C 41 V_t ⟨by decide, by decide⟩ (Nat.le_of_ble_eq_true rfl) dsa_40 rfl g_w_times ?_
  intro h1 W1 V1
  replace E_w := E_w.wr W1
  replace F_w_times := Fld.other W1 F_w_times (Or.inl nwt)
  replace F_w_collected := Fld.other W1 F_w_collected (Or.inl nwt)
  replace F_w_oldest := Fld.other W1 F_w_oldest (Or.inl nwt)
  replace F_w_count := Fld.other W1 F_w_count (Or.inl nwt)
  replace V_c := V_c.other W1 (Ne.symm ntc)
  replace Zs := Nat.le_trans Zs (Nat.le_of_eq W1.size.symm)
  replace KP := KP.wr W1 (Or.inl (List.mem_of_getElem? (i := 1) rfl))
  replace V_t : Arv Z h1 w_times kt .long (4 : Int32) [(.long s0), (.long s1), (.long s2), (.long x)] (.long (0 : Int64)) := V1
  refine r_aloadN C 42 dsa_41 rfl rfl rfl ?_
  refine r_getfield C 45 (host := "") (Or.inl (hw _ (List.mem_of_getElem? (i := 15) rfl))) Via.refl F_w_collected dsa_42 rfl ?_
  refine r_iload C 47 dsa_45 rfl rfl ?_
  refine r_lloadN C 48 dsa_47 rfl rfl ?_
  refine r_lastore C 49 V_c ⟨by decide, by decide⟩ (Nat.le_of_ble_eq_true rfl) dsa_48 rfl g_w_collected ?_
  intro h2 W2 V2
  replace E_w := E_w.wr W2
  replace F_w_times := Fld.other W2 F_w_times (Or.inl nwc)
  replace F_w_collected := Fld.other W2 F_w_collected (Or.inl nwc)
  replace F_w_oldest := Fld.other W2 F_w_oldest (Or.inl nwc)
  replace F_w_count := Fld.other W2 F_w_count (Or.inl nwc)
  replace V_t := V_t.other W2 ntc
  replace Zs := Nat.le_trans Zs (Nat.le_of_eq W2.size.symm)
  replace KP := KP.wr W2 (Or.inl (List.mem_of_getElem? (i := 2) rfl))
  replace V_c : Arv Z h2 w_collected kc .long (4 : Int32) [(.long d0), (.long d1), (.long d2), (.long y)] (.long (0 : Int64)) := V2
  refine r_aloadN C 50 dsa_49 rfl rfl rfl ?_
  refine r_dup C 51 dsa_50 rfl rfl ?_
  refine r_getfield C 54 (host := "") (Or.inl (hw _ (List.mem_of_getElem? (i := 22) rfl))) Via.refl F_w_count dsa_51 rfl ?_
  refine r_iconst C 55 (1 : Int32) dsa_54 rfl rfl ?_
  refine r_iadd C 56 dsa_55 rfl ?_
  show Run _ _ _ _ _ _ _ _ 56 #[.val (.ref w), .val (.long x), .second, .val (.long y), .second, .val (.int (3 : Int32)), .unset, .unset, .unset, .unset] [(.int (3 : Int32)), (.ref w)]
  refine r_putfield C 59 (host := "") (Or.inl (hw _ (List.mem_of_getElem? (i := 22) rfl))) Via.refl F_w_count E_w (Or.inl (hw _ (List.mem_of_getElem? (i := 23) rfl))) (hw _ (List.mem_of_getElem? (i := 5) rfl)) (ty := .int) (by decide) rfl rfl dsa_56 rfl g_w ?_
  intro h3 W3
  replace E_w := E_w.wr W3
  replace F_w_times := Fld.other W3 F_w_times (Or.inr (slot_ne (Or.inr (hw _ (List.mem_of_getElem? (i := 14) rfl))) (Or.inl (hw _ (List.mem_of_getElem? (i := 23) rfl))) (by decide) (t := (.array .long)) (t' := .int) (by decide) (by decide)))
  replace F_w_collected := Fld.other W3 F_w_collected (Or.inr (slot_ne (Or.inr (hw _ (List.mem_of_getElem? (i := 16) rfl))) (Or.inl (hw _ (List.mem_of_getElem? (i := 23) rfl))) (by decide) (t := (.array .long)) (t' := .int) (by decide) (by decide)))
  replace F_w_oldest := Fld.other W3 F_w_oldest (Or.inr (slot_ne (Or.inl (hw _ (List.mem_of_getElem? (i := 25) rfl))) (Or.inl (hw _ (List.mem_of_getElem? (i := 23) rfl))) (by decide) (t := .int) (t' := .int) (by decide) (by decide)))
  replace V_t := V_t.other W3 (Ne.symm nwt)
  replace V_c := V_c.other W3 (Ne.symm nwc)
  replace F_w_count := F_w_count.same W3
  replace Zs := Nat.le_trans Zs (Nat.le_of_eq W3.size.symm)
  replace KP := KP.wr W3 (Or.inl (List.mem_of_getElem? (i := 0) rfl))
  refine r_aloadN C 60 dsa_59 rfl rfl rfl ?_
  refine r_getfield C 63 (host := "") (Or.inl (hw _ (List.mem_of_getElem? (i := 22) rfl))) Via.refl F_w_count dsa_60 rfl ?_
  refine r_iconst C 64 (1 : Int32) dsa_63 rfl rfl ?_
  refine r_icmp_le C 100 67 dsa_64 (by decide) (by decide) rfl (fun q => absurd q (by decide)) (fun _ => ?_)
  refine r_lloadN C 68 dsa_67 rfl rfl ?_
  refine r_aloadN C 69 dsa_68 rfl rfl rfl ?_
  refine r_getfield C 72 (host := "") (Or.inl (hw _ (List.mem_of_getElem? (i := 13) rfl))) Via.refl F_w_times dsa_69 rfl ?_
  refine r_aloadN C 73 dsa_72 rfl rfl rfl ?_
  refine r_getfield C 76 (host := "") (Or.inl (hw _ (List.mem_of_getElem? (i := 24) rfl))) Via.refl F_w_oldest dsa_73 rfl ?_
  refine r_iconst C 77 (1 : Int32) dsa_76 rfl rfl ?_
  refine r_iadd C 78 dsa_77 rfl ?_
  show Run _ _ _ _ _ _ _ _ 78 #[.val (.ref w), .val (.long x), .second, .val (.long y), .second, .val (.int (3 : Int32)), .unset, .unset, .unset, .unset] [(.int (2 : Int32)), (.ref w_times), (.long x)]
  refine r_aloadN C 79 dsa_78 rfl rfl rfl ?_
  refine r_getfield C 82 (host := "") (Or.inl (hw _ (List.mem_of_getElem? (i := 13) rfl))) Via.refl F_w_times dsa_79 rfl ?_
  refine r_arraylength C 83 V_t dsa_82 rfl ?_
  refine r_irem C 84 dsa_83 rfl (by first | decide | assumption) ?_
  show Run _ _ _ _ _ _ _ _ 84 #[.val (.ref w), .val (.long x), .second, .val (.long y), .second, .val (.int (3 : Int32)), .unset, .unset, .unset, .unset] [(.int (2 : Int32)), (.ref w_times), (.long x)]
  refine r_laload C 85 (v := (.long s2)) V_t ⟨by decide, by decide⟩ rfl dsa_84 rfl ?_
  refine r_lsub C 86 dsa_85 rfl ?_
  refine r_ldc2_w C 89 dsa_86 rfl (hw _ (List.mem_of_getElem? (i := 26) rfl)) ?_
  refine r_lcmp_lt C 90 100 93 dsa_89 rfl dsa_90 (by decide) (by decide) rfl (fun _ => ?_) (fun q => absurd b2 q)
  refine r_lloadN C 101 dsa_100 rfl rfl ?_
  refine r_aloadN C 102 dsa_101 rfl rfl rfl ?_
  refine r_getfield C 105 (host := "") (Or.inl (hw _ (List.mem_of_getElem? (i := 13) rfl))) Via.refl F_w_times dsa_102 rfl ?_
  refine r_aloadN C 106 dsa_105 rfl rfl rfl ?_
  refine r_getfield C 109 (host := "") (Or.inl (hw _ (List.mem_of_getElem? (i := 24) rfl))) Via.refl F_w_oldest dsa_106 rfl ?_
  refine r_laload C 110 (v := (.long s1)) V_t ⟨by decide, by decide⟩ rfl dsa_109 rfl ?_
  refine r_lsub C 111 dsa_110 rfl ?_
  refine r_lstore C 113 #[.val (.ref w), .val (.long x), .second, .val (.long y), .second, .val (.int (3 : Int32)), .val (.long (x - s1)), .second, .unset, .unset] dsa_111 rfl rfl ?_
  refine r_lloadN C 114 dsa_113 rfl rfl ?_
  refine r_aloadN C 115 dsa_114 rfl rfl rfl ?_
  refine r_getfield C 118 (host := "") (Or.inl (hw _ (List.mem_of_getElem? (i := 15) rfl))) Via.refl F_w_collected dsa_115 rfl ?_
  refine r_aloadN C 119 dsa_118 rfl rfl rfl ?_
  refine r_getfield C 122 (host := "") (Or.inl (hw _ (List.mem_of_getElem? (i := 24) rfl))) Via.refl F_w_oldest dsa_119 rfl ?_
  refine r_laload C 123 (v := (.long d1)) V_c ⟨by decide, by decide⟩ rfl dsa_122 rfl ?_
  refine r_lsub C 124 dsa_123 rfl ?_
  refine r_lstore C 126 #[.val (.ref w), .val (.long x), .second, .val (.long y), .second, .val (.int (3 : Int32)), .val (.long (x - s1)), .second, .val (.long (y - d1)), .second] dsa_124 rfl rfl ?_
  refine r_lload C 128 dsa_126 rfl rfl ?_
  refine r_ldc2_w C 131 dsa_128 rfl (hw _ (List.mem_of_getElem? (i := 26) rfl)) ?_
  refine r_lcmp_lt C 132 157 135 dsa_131 rfl dsa_132 (by decide) (by decide) rfl ?_ ?_
  · intro q1
    refine r_iconst C 158 (0 : Int32) dsa_157 rfl rfl ?_
    exact r_nreturn C (0 : Int32) rfl (t := .boolean) (by simp) rfl dsa_158 (by decide) (by decide) ⟨by rw [sm, if_pos q1], KP, ⟨E_w, F_w_times, F_w_collected, F_w_oldest, F_w_count⟩, V_t, V_c⟩
  · intro q1
    refine r_lload C 137 dsa_135 rfl rfl ?_
    refine r_l2d C 138 dsa_137 rfl ?_
    refine r_ldc2D C 141 dsa_138 rfl (hw _ (List.mem_of_getElem? (i := 31) rfl)) ?_
    refine r_dmul C 142 dsa_141 rfl (own_nn1 _) ?_
    refine r_ldc2D C 145 dsa_142 rfl (hw _ (List.mem_of_getElem? (i := 32) rfl)) ?_
    refine r_lload C 147 dsa_145 rfl rfl ?_
    refine r_l2d C 148 dsa_147 rfl ?_
    refine r_dmul C 149 dsa_148 rfl (own_nn2 _) ?_
    refine r_dcmpl C 150 dsa_149 rfl ?_
    have cw := OwnF.cmp09 hC hC2 (own_ge q1) hN
    refine r_if_lt C 157 153 dsa_150 (by decide) (by decide) rfl ?_ ?_
    · intro q2
      refine r_iconst C 158 (0 : Int32) dsa_157 rfl rfl ?_
      exact r_nreturn C (0 : Int32) rfl (t := .boolean) (by simp) rfl dsa_158 (by decide) (by decide) ⟨by rw [sm, if_neg q1, if_pos (cw.mp q2)], KP, ⟨E_w, F_w_times, F_w_collected, F_w_oldest, F_w_count⟩, V_t, V_c⟩
    · intro q2
      refine r_iconst C 154 (1 : Int32) dsa_153 rfl rfl ?_
      refine r_goto C 158 dsa_154 (by decide) (by decide) ?_
      exact r_nreturn C (1 : Int32) rfl (t := .boolean) (by simp) rfl dsa_158 (by decide) (by decide) ⟨by rw [sm, if_neg q1, if_neg (fun z => q2 (cw.mpr z))], KP, ⟨E_w, F_w_times, F_w_collected, F_w_oldest, F_w_count⟩, V_t, V_c⟩
theorem ef_rmSa_4_1_2_1 (w : Addr) (x : Int64) (y : Int64) : ∀ mI_, entryFrame mI_ #[(.ref w), (.long x), (.long y)] 10 = mkF mI_ 0 #[.val (.ref w), .val (.long x), .second, .val (.long y), .second, .unset, .unset, .unset, .unset, .unset] [] := fun mI_ => by first | (simp [entryFrame, mkF, argsToLocals, Value.category]; done) | rfl
set_option maxRecDepth 65536 in
set_option maxHeartbeats 40000000 in
theorem rmSa_4_1_2_1 (l : Launch) (Z : State) (a0 : Array Value) (hw : ∀ d ∈ tables_1, d.before a0 Z = true) (w : Addr) (x : Int64) (y : Int64) (w_times : Addr) (w_collected : Addr) (kt kc : ClassId) (s0 s1 s2 s3 d0 d1 d2 d3 : Int64) (h0 : Heap) (n0 : Nat) (Zs : n0 ≤ h0.size) (hW : HwW Z h0 w w_times w_collected (1 : Int32) (2 : Int32)) (V_t : Arv Z h0 w_times kt .long (4 : Int32) [(.long s0), (.long s1), (.long s2), (.long s3)] (.long (0 : Int64))) (V_c : Arv Z h0 w_collected kc .long (4 : Int32) [(.long d0), (.long d1), (.long d2), (.long d3)] (.long (0 : Int64))) (ntc : w_times ≠ w_collected) (g_w : n0 ≤ w) (g_w_times : n0 ≤ w_times) (g_w_collected : n0 ≤ w_collected) (b2 : ¬ (x - s2) < 5000000000) (hN : (x - s2).toInt < 68719476736) (hC : 0 ≤ (y - d2).toInt) (hC2 : (y - d2).toInt < 1000000) :
    Con l Z (⟨"com/example/indenture/indenture/app/HeapWatch", "sample", "(JJ)Z"⟩ : MethodName) prog_1_method_2_code 10 (some .boolean) [] ({ frames := 1, cells := 0, slots := 0, locals := 20 } : Room) n0 #[(.ref w), (.long x), (.long y)] h0 (fun v h => v = some (.int (sm (x - s2) (y - d2))) ∧ Keep h0 h [w, w_times, w_collected] ∧ HwW Z h w w_times w_collected (2 : Int32) (2 : Int32) ∧ Arv Z h w_times kt .long (4 : Int32) [(.long s0), (.long s1), (.long s2), (.long x)] (.long (0 : Int64)) ∧ Arv Z h w_collected kc .long (4 : Int32) [(.long d0), (.long d1), (.long d2), (.long y)] (.long (0 : Int64))) := by
  refine Con.of (plainFor_of_name pn_q0) (ef_rmSa_4_1_2_1 w x y) ?_
  intro K C
  replace C : Ok Z "com/example/indenture/indenture/app/HeapWatch" "sample" prog_1_method_2_code 10 (some .boolean) K := C
  have KP := Keep.refl h0 [w, w_times, w_collected]
  obtain ⟨E_w, F_w_times, F_w_collected, F_w_oldest, F_w_count⟩ := hW
  have nwt : w ≠ w_times := exaArvNe E_w (hw _ (List.mem_of_getElem? (i := 5) rfl)) V_t
  have nwc : w ≠ w_collected := exaArvNe E_w (hw _ (List.mem_of_getElem? (i := 5) rfl)) V_c
  refine r_aloadN C 1 dsa_0 rfl rfl rfl ?_
  refine r_getfield C 4 (host := "") (Or.inl (hw _ (List.mem_of_getElem? (i := 22) rfl))) Via.refl F_w_count dsa_1 rfl ?_
  refine r_aloadN C 5 dsa_4 rfl rfl rfl ?_
  refine r_getfield C 8 (host := "") (Or.inl (hw _ (List.mem_of_getElem? (i := 13) rfl))) Via.refl F_w_times dsa_5 rfl ?_
  refine r_arraylength C 9 V_t dsa_8 rfl ?_
  refine r_icmp_ne C 16 12 dsa_9 (by decide) (by decide) rfl (fun _ => ?_) (fun q => absurd q (by decide))
  refine r_aloadN C 17 dsa_16 rfl rfl rfl ?_
  refine r_getfield C 20 (host := "") (Or.inl (hw _ (List.mem_of_getElem? (i := 24) rfl))) Via.refl F_w_oldest dsa_17 rfl ?_
  refine r_aloadN C 21 dsa_20 rfl rfl rfl ?_
  refine r_getfield C 24 (host := "") (Or.inl (hw _ (List.mem_of_getElem? (i := 22) rfl))) Via.refl F_w_count dsa_21 rfl ?_
  refine r_iadd C 25 dsa_24 rfl ?_
  show Run _ _ _ _ _ _ _ _ 25 #[.val (.ref w), .val (.long x), .second, .val (.long y), .second, .unset, .unset, .unset, .unset, .unset] [(.int (3 : Int32))]
  refine r_aloadN C 26 dsa_25 rfl rfl rfl ?_
  refine r_getfield C 29 (host := "") (Or.inl (hw _ (List.mem_of_getElem? (i := 13) rfl))) Via.refl F_w_times dsa_26 rfl ?_
  refine r_arraylength C 30 V_t dsa_29 rfl ?_
  refine r_irem C 31 dsa_30 rfl (by first | decide | assumption) ?_
  show Run _ _ _ _ _ _ _ _ 31 #[.val (.ref w), .val (.long x), .second, .val (.long y), .second, .unset, .unset, .unset, .unset, .unset] [(.int (3 : Int32))]
  refine r_istore C 33 #[.val (.ref w), .val (.long x), .second, .val (.long y), .second, .val (.int (3 : Int32)), .unset, .unset, .unset, .unset] dsa_31 rfl rfl ?_
  refine r_aloadN C 34 dsa_33 rfl rfl rfl ?_
  refine r_getfield C 37 (host := "") (Or.inl (hw _ (List.mem_of_getElem? (i := 13) rfl))) Via.refl F_w_times dsa_34 rfl ?_
  refine r_iload C 39 dsa_37 rfl rfl ?_
  refine r_lloadN C 40 dsa_39 rfl rfl ?_
  refine r_lastore C 41 V_t ⟨by decide, by decide⟩ (Nat.le_of_ble_eq_true rfl) dsa_40 rfl g_w_times ?_
  intro h1 W1 V1
  replace E_w := E_w.wr W1
  replace F_w_times := Fld.other W1 F_w_times (Or.inl nwt)
  replace F_w_collected := Fld.other W1 F_w_collected (Or.inl nwt)
  replace F_w_oldest := Fld.other W1 F_w_oldest (Or.inl nwt)
  replace F_w_count := Fld.other W1 F_w_count (Or.inl nwt)
  replace V_c := V_c.other W1 (Ne.symm ntc)
  replace Zs := Nat.le_trans Zs (Nat.le_of_eq W1.size.symm)
  replace KP := KP.wr W1 (Or.inl (List.mem_of_getElem? (i := 1) rfl))
  replace V_t : Arv Z h1 w_times kt .long (4 : Int32) [(.long s0), (.long s1), (.long s2), (.long x)] (.long (0 : Int64)) := V1
  refine r_aloadN C 42 dsa_41 rfl rfl rfl ?_
  refine r_getfield C 45 (host := "") (Or.inl (hw _ (List.mem_of_getElem? (i := 15) rfl))) Via.refl F_w_collected dsa_42 rfl ?_
  refine r_iload C 47 dsa_45 rfl rfl ?_
  refine r_lloadN C 48 dsa_47 rfl rfl ?_
  refine r_lastore C 49 V_c ⟨by decide, by decide⟩ (Nat.le_of_ble_eq_true rfl) dsa_48 rfl g_w_collected ?_
  intro h2 W2 V2
  replace E_w := E_w.wr W2
  replace F_w_times := Fld.other W2 F_w_times (Or.inl nwc)
  replace F_w_collected := Fld.other W2 F_w_collected (Or.inl nwc)
  replace F_w_oldest := Fld.other W2 F_w_oldest (Or.inl nwc)
  replace F_w_count := Fld.other W2 F_w_count (Or.inl nwc)
  replace V_t := V_t.other W2 ntc
  replace Zs := Nat.le_trans Zs (Nat.le_of_eq W2.size.symm)
  replace KP := KP.wr W2 (Or.inl (List.mem_of_getElem? (i := 2) rfl))
  replace V_c : Arv Z h2 w_collected kc .long (4 : Int32) [(.long d0), (.long d1), (.long d2), (.long y)] (.long (0 : Int64)) := V2
  refine r_aloadN C 50 dsa_49 rfl rfl rfl ?_
  refine r_dup C 51 dsa_50 rfl rfl ?_
  refine r_getfield C 54 (host := "") (Or.inl (hw _ (List.mem_of_getElem? (i := 22) rfl))) Via.refl F_w_count dsa_51 rfl ?_
  refine r_iconst C 55 (1 : Int32) dsa_54 rfl rfl ?_
  refine r_iadd C 56 dsa_55 rfl ?_
  show Run _ _ _ _ _ _ _ _ 56 #[.val (.ref w), .val (.long x), .second, .val (.long y), .second, .val (.int (3 : Int32)), .unset, .unset, .unset, .unset] [(.int (3 : Int32)), (.ref w)]
  refine r_putfield C 59 (host := "") (Or.inl (hw _ (List.mem_of_getElem? (i := 22) rfl))) Via.refl F_w_count E_w (Or.inl (hw _ (List.mem_of_getElem? (i := 23) rfl))) (hw _ (List.mem_of_getElem? (i := 5) rfl)) (ty := .int) (by decide) rfl rfl dsa_56 rfl g_w ?_
  intro h3 W3
  replace E_w := E_w.wr W3
  replace F_w_times := Fld.other W3 F_w_times (Or.inr (slot_ne (Or.inr (hw _ (List.mem_of_getElem? (i := 14) rfl))) (Or.inl (hw _ (List.mem_of_getElem? (i := 23) rfl))) (by decide) (t := (.array .long)) (t' := .int) (by decide) (by decide)))
  replace F_w_collected := Fld.other W3 F_w_collected (Or.inr (slot_ne (Or.inr (hw _ (List.mem_of_getElem? (i := 16) rfl))) (Or.inl (hw _ (List.mem_of_getElem? (i := 23) rfl))) (by decide) (t := (.array .long)) (t' := .int) (by decide) (by decide)))
  replace F_w_oldest := Fld.other W3 F_w_oldest (Or.inr (slot_ne (Or.inl (hw _ (List.mem_of_getElem? (i := 25) rfl))) (Or.inl (hw _ (List.mem_of_getElem? (i := 23) rfl))) (by decide) (t := .int) (t' := .int) (by decide) (by decide)))
  replace V_t := V_t.other W3 (Ne.symm nwt)
  replace V_c := V_c.other W3 (Ne.symm nwc)
  replace F_w_count := F_w_count.same W3
  replace Zs := Nat.le_trans Zs (Nat.le_of_eq W3.size.symm)
  replace KP := KP.wr W3 (Or.inl (List.mem_of_getElem? (i := 0) rfl))
  refine r_aloadN C 60 dsa_59 rfl rfl rfl ?_
  refine r_getfield C 63 (host := "") (Or.inl (hw _ (List.mem_of_getElem? (i := 22) rfl))) Via.refl F_w_count dsa_60 rfl ?_
  refine r_iconst C 64 (1 : Int32) dsa_63 rfl rfl ?_
  refine r_icmp_le C 100 67 dsa_64 (by decide) (by decide) rfl (fun q => absurd q (by decide)) (fun _ => ?_)
  refine r_lloadN C 68 dsa_67 rfl rfl ?_
  refine r_aloadN C 69 dsa_68 rfl rfl rfl ?_
  refine r_getfield C 72 (host := "") (Or.inl (hw _ (List.mem_of_getElem? (i := 13) rfl))) Via.refl F_w_times dsa_69 rfl ?_
  refine r_aloadN C 73 dsa_72 rfl rfl rfl ?_
  refine r_getfield C 76 (host := "") (Or.inl (hw _ (List.mem_of_getElem? (i := 24) rfl))) Via.refl F_w_oldest dsa_73 rfl ?_
  refine r_iconst C 77 (1 : Int32) dsa_76 rfl rfl ?_
  refine r_iadd C 78 dsa_77 rfl ?_
  show Run _ _ _ _ _ _ _ _ 78 #[.val (.ref w), .val (.long x), .second, .val (.long y), .second, .val (.int (3 : Int32)), .unset, .unset, .unset, .unset] [(.int (2 : Int32)), (.ref w_times), (.long x)]
  refine r_aloadN C 79 dsa_78 rfl rfl rfl ?_
  refine r_getfield C 82 (host := "") (Or.inl (hw _ (List.mem_of_getElem? (i := 13) rfl))) Via.refl F_w_times dsa_79 rfl ?_
  refine r_arraylength C 83 V_t dsa_82 rfl ?_
  refine r_irem C 84 dsa_83 rfl (by first | decide | assumption) ?_
  show Run _ _ _ _ _ _ _ _ 84 #[.val (.ref w), .val (.long x), .second, .val (.long y), .second, .val (.int (3 : Int32)), .unset, .unset, .unset, .unset] [(.int (2 : Int32)), (.ref w_times), (.long x)]
  refine r_laload C 85 (v := (.long s2)) V_t ⟨by decide, by decide⟩ rfl dsa_84 rfl ?_
  refine r_lsub C 86 dsa_85 rfl ?_
  refine r_ldc2_w C 89 dsa_86 rfl (hw _ (List.mem_of_getElem? (i := 26) rfl)) ?_
  refine r_lcmp_lt C 90 100 93 dsa_89 rfl dsa_90 (by decide) (by decide) rfl (fun q => absurd q b2) (fun _ => ?_)
  refine r_aloadN C 94 dsa_93 rfl rfl rfl ?_
  refine r_callP C 97 (y := (⟨"com/example/indenture/indenture/app/HeapWatch", "drop", "()V"⟩ : MethodName)) (a := w) [] [] (rmDr l Z a0 hw w w_times w_collected (1 : Int32) (3 : Int32) kt (4 : Int32) _ h3 n0 Zs ⟨E_w, F_w_times, F_w_collected, F_w_oldest, F_w_count⟩ V_t (by decide) g_w) (hw _ (List.mem_of_getElem? (i := 27) rfl)) (hw _ (List.mem_of_getElem? (i := 28) rfl)) (selPriv (hw _ (List.mem_of_getElem? (i := 5) rfl)) (hw _ (List.mem_of_getElem? (i := 29) rfl)) (hw _ (List.mem_of_getElem? (i := 28) rfl)) (by decide)) (hw _ (List.mem_of_getElem? (i := 29) rfl)) (hw _ (List.mem_of_getElem? (i := 6) rfl)) (hw _ (List.mem_of_getElem? (i := 30) rfl)) E_w.cell (by decide) (lenOf pd___V rfl) rfl rfl (by decide) (Nat.le_of_ble_eq_true rfl) (by decide) (by decide) rfl dsa_94 rfl ?_
  intro v4 h4 q4 z4
  obtain ⟨rfl, K4, hW⟩ := q4
  replace hW : HwW Z h4 w w_times w_collected (2 : Int32) (2 : Int32) := hW
  replace E_w := E_w.keep K4
  replace V_t := V_t.keep K4 (ninS (Ne.symm nwt) nin0)
  replace V_c := V_c.keep K4 (ninS (Ne.symm nwc) nin0)
  replace KP := KP.trans K4 (allS (Or.inl (List.mem_of_getElem? (i := 0) rfl)) all0)
  replace Zs := Nat.le_trans Zs K4.1
  obtain ⟨E_w, F_w_times, F_w_collected, F_w_oldest, F_w_count⟩ := hW
  show Run _ _ _ _ _ _ _ _ 97 #[.val (.ref w), .val (.long x), .second, .val (.long y), .second, .val (.int (3 : Int32)), .unset, .unset, .unset, .unset] []
  refine r_goto C 59 dsa_97 (by decide) (by decide) ?_
  refine r_aloadN C 60 dsa_59 rfl rfl rfl ?_
  refine r_getfield C 63 (host := "") (Or.inl (hw _ (List.mem_of_getElem? (i := 22) rfl))) Via.refl F_w_count dsa_60 rfl ?_
  refine r_iconst C 64 (1 : Int32) dsa_63 rfl rfl ?_
  refine r_icmp_le C 100 67 dsa_64 (by decide) (by decide) rfl (fun q => absurd q (by decide)) (fun _ => ?_)
  refine r_lloadN C 68 dsa_67 rfl rfl ?_
  refine r_aloadN C 69 dsa_68 rfl rfl rfl ?_
  refine r_getfield C 72 (host := "") (Or.inl (hw _ (List.mem_of_getElem? (i := 13) rfl))) Via.refl F_w_times dsa_69 rfl ?_
  refine r_aloadN C 73 dsa_72 rfl rfl rfl ?_
  refine r_getfield C 76 (host := "") (Or.inl (hw _ (List.mem_of_getElem? (i := 24) rfl))) Via.refl F_w_oldest dsa_73 rfl ?_
  refine r_iconst C 77 (1 : Int32) dsa_76 rfl rfl ?_
  refine r_iadd C 78 dsa_77 rfl ?_
  show Run _ _ _ _ _ _ _ _ 78 #[.val (.ref w), .val (.long x), .second, .val (.long y), .second, .val (.int (3 : Int32)), .unset, .unset, .unset, .unset] [(.int (3 : Int32)), (.ref w_times), (.long x)]
  refine r_aloadN C 79 dsa_78 rfl rfl rfl ?_
  refine r_getfield C 82 (host := "") (Or.inl (hw _ (List.mem_of_getElem? (i := 13) rfl))) Via.refl F_w_times dsa_79 rfl ?_
  refine r_arraylength C 83 V_t dsa_82 rfl ?_
  refine r_irem C 84 dsa_83 rfl (by first | decide | assumption) ?_
  show Run _ _ _ _ _ _ _ _ 84 #[.val (.ref w), .val (.long x), .second, .val (.long y), .second, .val (.int (3 : Int32)), .unset, .unset, .unset, .unset] [(.int (3 : Int32)), (.ref w_times), (.long x)]
  refine r_laload C 85 (v := (.long x)) V_t ⟨by decide, by decide⟩ rfl dsa_84 rfl ?_
  refine r_lsub C 86 dsa_85 rfl ?_
  refine r_ldc2_w C 89 dsa_86 rfl (hw _ (List.mem_of_getElem? (i := 26) rfl)) ?_
  refine r_lcmp_lt C 90 100 93 dsa_89 rfl dsa_90 (by decide) (by decide) rfl (fun _ => ?_) (fun q => absurd (own_self x) q)
  refine r_lloadN C 101 dsa_100 rfl rfl ?_
  refine r_aloadN C 102 dsa_101 rfl rfl rfl ?_
  refine r_getfield C 105 (host := "") (Or.inl (hw _ (List.mem_of_getElem? (i := 13) rfl))) Via.refl F_w_times dsa_102 rfl ?_
  refine r_aloadN C 106 dsa_105 rfl rfl rfl ?_
  refine r_getfield C 109 (host := "") (Or.inl (hw _ (List.mem_of_getElem? (i := 24) rfl))) Via.refl F_w_oldest dsa_106 rfl ?_
  refine r_laload C 110 (v := (.long s2)) V_t ⟨by decide, by decide⟩ rfl dsa_109 rfl ?_
  refine r_lsub C 111 dsa_110 rfl ?_
  refine r_lstore C 113 #[.val (.ref w), .val (.long x), .second, .val (.long y), .second, .val (.int (3 : Int32)), .val (.long (x - s2)), .second, .unset, .unset] dsa_111 rfl rfl ?_
  refine r_lloadN C 114 dsa_113 rfl rfl ?_
  refine r_aloadN C 115 dsa_114 rfl rfl rfl ?_
  refine r_getfield C 118 (host := "") (Or.inl (hw _ (List.mem_of_getElem? (i := 15) rfl))) Via.refl F_w_collected dsa_115 rfl ?_
  refine r_aloadN C 119 dsa_118 rfl rfl rfl ?_
  refine r_getfield C 122 (host := "") (Or.inl (hw _ (List.mem_of_getElem? (i := 24) rfl))) Via.refl F_w_oldest dsa_119 rfl ?_
  refine r_laload C 123 (v := (.long d2)) V_c ⟨by decide, by decide⟩ rfl dsa_122 rfl ?_
  refine r_lsub C 124 dsa_123 rfl ?_
  refine r_lstore C 126 #[.val (.ref w), .val (.long x), .second, .val (.long y), .second, .val (.int (3 : Int32)), .val (.long (x - s2)), .second, .val (.long (y - d2)), .second] dsa_124 rfl rfl ?_
  refine r_lload C 128 dsa_126 rfl rfl ?_
  refine r_ldc2_w C 131 dsa_128 rfl (hw _ (List.mem_of_getElem? (i := 26) rfl)) ?_
  refine r_lcmp_lt C 132 157 135 dsa_131 rfl dsa_132 (by decide) (by decide) rfl ?_ ?_
  · intro q1
    refine r_iconst C 158 (0 : Int32) dsa_157 rfl rfl ?_
    exact r_nreturn C (0 : Int32) rfl (t := .boolean) (by simp) rfl dsa_158 (by decide) (by decide) ⟨by rw [sm, if_pos q1], KP, ⟨E_w, F_w_times, F_w_collected, F_w_oldest, F_w_count⟩, V_t, V_c⟩
  · intro q1
    refine r_lload C 137 dsa_135 rfl rfl ?_
    refine r_l2d C 138 dsa_137 rfl ?_
    refine r_ldc2D C 141 dsa_138 rfl (hw _ (List.mem_of_getElem? (i := 31) rfl)) ?_
    refine r_dmul C 142 dsa_141 rfl (own_nn1 _) ?_
    refine r_ldc2D C 145 dsa_142 rfl (hw _ (List.mem_of_getElem? (i := 32) rfl)) ?_
    refine r_lload C 147 dsa_145 rfl rfl ?_
    refine r_l2d C 148 dsa_147 rfl ?_
    refine r_dmul C 149 dsa_148 rfl (own_nn2 _) ?_
    refine r_dcmpl C 150 dsa_149 rfl ?_
    have cw := OwnF.cmp09 hC hC2 (own_ge q1) hN
    refine r_if_lt C 157 153 dsa_150 (by decide) (by decide) rfl ?_ ?_
    · intro q2
      refine r_iconst C 158 (0 : Int32) dsa_157 rfl rfl ?_
      exact r_nreturn C (0 : Int32) rfl (t := .boolean) (by simp) rfl dsa_158 (by decide) (by decide) ⟨by rw [sm, if_neg q1, if_pos (cw.mp q2)], KP, ⟨E_w, F_w_times, F_w_collected, F_w_oldest, F_w_count⟩, V_t, V_c⟩
    · intro q2
      refine r_iconst C 154 (1 : Int32) dsa_153 rfl rfl ?_
      refine r_goto C 158 dsa_154 (by decide) (by decide) ?_
      exact r_nreturn C (1 : Int32) rfl (t := .boolean) (by simp) rfl dsa_158 (by decide) (by decide) ⟨by rw [sm, if_neg q1, if_neg (fun z => q2 (cw.mpr z))], KP, ⟨E_w, F_w_times, F_w_collected, F_w_oldest, F_w_count⟩, V_t, V_c⟩
theorem ef_rmSa_3_0_3_0 (w : Addr) (x : Int64) (y : Int64) : ∀ mI_, entryFrame mI_ #[(.ref w), (.long x), (.long y)] 10 = mkF mI_ 0 #[.val (.ref w), .val (.long x), .second, .val (.long y), .second, .unset, .unset, .unset, .unset, .unset] [] := fun mI_ => by first | (simp [entryFrame, mkF, argsToLocals, Value.category]; done) | rfl
set_option maxRecDepth 65536 in
set_option maxHeartbeats 40000000 in
theorem rmSa_3_0_3_0 (l : Launch) (Z : State) (a0 : Array Value) (hw : ∀ d ∈ tables_1, d.before a0 Z = true) (w : Addr) (x : Int64) (y : Int64) (w_times : Addr) (w_collected : Addr) (kt kc : ClassId) (s0 s1 s2 d0 d1 d2 : Int64) (h0 : Heap) (n0 : Nat) (Zs : n0 ≤ h0.size) (hW : HwW Z h0 w w_times w_collected (0 : Int32) (3 : Int32)) (V_t : Arv Z h0 w_times kt .long (3 : Int32) [(.long s0), (.long s1), (.long s2)] (.long (0 : Int64))) (V_c : Arv Z h0 w_collected kc .long (3 : Int32) [(.long d0), (.long d1), (.long d2)] (.long (0 : Int64))) (ntc : w_times ≠ w_collected) (g_w : n0 ≤ w) (g_w_times : n0 ≤ w_times) (g_w_collected : n0 ≤ w_collected) (b2 : (x - s2) < 5000000000) (hN : (x - s1).toInt < 68719476736) (hC : 0 ≤ (y - d1).toInt) (hC2 : (y - d1).toInt < 1000000) :
    Con l Z (⟨"com/example/indenture/indenture/app/HeapWatch", "sample", "(JJ)Z"⟩ : MethodName) prog_1_method_2_code 10 (some .boolean) [] ({ frames := 1, cells := 0, slots := 0, locals := 20 } : Room) n0 #[(.ref w), (.long x), (.long y)] h0 (fun v h => v = some (.int (sm (x - s1) (y - d1))) ∧ Keep h0 h [w, w_times, w_collected] ∧ HwW Z h w w_times w_collected (1 : Int32) (3 : Int32) ∧ Arv Z h w_times kt .long (3 : Int32) [(.long x), (.long s1), (.long s2)] (.long (0 : Int64)) ∧ Arv Z h w_collected kc .long (3 : Int32) [(.long y), (.long d1), (.long d2)] (.long (0 : Int64))) := by
  refine Con.of (plainFor_of_name pn_q0) (ef_rmSa_3_0_3_0 w x y) ?_
  intro K C
  replace C : Ok Z "com/example/indenture/indenture/app/HeapWatch" "sample" prog_1_method_2_code 10 (some .boolean) K := C
  have KP := Keep.refl h0 [w, w_times, w_collected]
  obtain ⟨E_w, F_w_times, F_w_collected, F_w_oldest, F_w_count⟩ := hW
  have nwt : w ≠ w_times := exaArvNe E_w (hw _ (List.mem_of_getElem? (i := 5) rfl)) V_t
  have nwc : w ≠ w_collected := exaArvNe E_w (hw _ (List.mem_of_getElem? (i := 5) rfl)) V_c
  refine r_aloadN C 1 dsa_0 rfl rfl rfl ?_
  refine r_getfield C 4 (host := "") (Or.inl (hw _ (List.mem_of_getElem? (i := 22) rfl))) Via.refl F_w_count dsa_1 rfl ?_
  refine r_aloadN C 5 dsa_4 rfl rfl rfl ?_
  refine r_getfield C 8 (host := "") (Or.inl (hw _ (List.mem_of_getElem? (i := 13) rfl))) Via.refl F_w_times dsa_5 rfl ?_
  refine r_arraylength C 9 V_t dsa_8 rfl ?_
  refine r_icmp_ne C 16 12 dsa_9 (by decide) (by decide) rfl (fun q => absurd q (by decide)) (fun _ => ?_)
  refine r_aloadN C 13 dsa_12 rfl rfl rfl ?_
  refine r_callP C 16 (y := (⟨"com/example/indenture/indenture/app/HeapWatch", "drop", "()V"⟩ : MethodName)) (a := w) [] [] (rmDr l Z a0 hw w w_times w_collected (0 : Int32) (3 : Int32) kt (3 : Int32) _ h0 n0 Zs ⟨E_w, F_w_times, F_w_collected, F_w_oldest, F_w_count⟩ V_t (by decide) g_w) (hw _ (List.mem_of_getElem? (i := 27) rfl)) (hw _ (List.mem_of_getElem? (i := 28) rfl)) (selPriv (hw _ (List.mem_of_getElem? (i := 5) rfl)) (hw _ (List.mem_of_getElem? (i := 29) rfl)) (hw _ (List.mem_of_getElem? (i := 28) rfl)) (by decide)) (hw _ (List.mem_of_getElem? (i := 29) rfl)) (hw _ (List.mem_of_getElem? (i := 6) rfl)) (hw _ (List.mem_of_getElem? (i := 30) rfl)) E_w.cell (by decide) (lenOf pd___V rfl) rfl rfl (by decide) (Nat.le_of_ble_eq_true rfl) (by decide) (by decide) rfl dsa_13 rfl ?_
  intro v1 h1 q1 z1
  obtain ⟨rfl, K1, hW⟩ := q1
  replace hW : HwW Z h1 w w_times w_collected (1 : Int32) (2 : Int32) := hW
  replace E_w := E_w.keep K1
  replace V_t := V_t.keep K1 (ninS (Ne.symm nwt) nin0)
  replace V_c := V_c.keep K1 (ninS (Ne.symm nwc) nin0)
  replace KP := KP.trans K1 (allS (Or.inl (List.mem_of_getElem? (i := 0) rfl)) all0)
  replace Zs := Nat.le_trans Zs K1.1
  obtain ⟨E_w, F_w_times, F_w_collected, F_w_oldest, F_w_count⟩ := hW
  show Run _ _ _ _ _ _ _ _ 16 #[.val (.ref w), .val (.long x), .second, .val (.long y), .second, .unset, .unset, .unset, .unset, .unset] []
  refine r_aloadN C 17 dsa_16 rfl rfl rfl ?_
  refine r_getfield C 20 (host := "") (Or.inl (hw _ (List.mem_of_getElem? (i := 24) rfl))) Via.refl F_w_oldest dsa_17 rfl ?_
  refine r_aloadN C 21 dsa_20 rfl rfl rfl ?_
  refine r_getfield C 24 (host := "") (Or.inl (hw _ (List.mem_of_getElem? (i := 22) rfl))) Via.refl F_w_count dsa_21 rfl ?_
  refine r_iadd C 25 dsa_24 rfl ?_
  show Run _ _ _ _ _ _ _ _ 25 #[.val (.ref w), .val (.long x), .second, .val (.long y), .second, .unset, .unset, .unset, .unset, .unset] [(.int (3 : Int32))]
  refine r_aloadN C 26 dsa_25 rfl rfl rfl ?_
  refine r_getfield C 29 (host := "") (Or.inl (hw _ (List.mem_of_getElem? (i := 13) rfl))) Via.refl F_w_times dsa_26 rfl ?_
  refine r_arraylength C 30 V_t dsa_29 rfl ?_
  refine r_irem C 31 dsa_30 rfl (by first | decide | assumption) ?_
  show Run _ _ _ _ _ _ _ _ 31 #[.val (.ref w), .val (.long x), .second, .val (.long y), .second, .unset, .unset, .unset, .unset, .unset] [(.int (0 : Int32))]
  refine r_istore C 33 #[.val (.ref w), .val (.long x), .second, .val (.long y), .second, .val (.int (0 : Int32)), .unset, .unset, .unset, .unset] dsa_31 rfl rfl ?_
  refine r_aloadN C 34 dsa_33 rfl rfl rfl ?_
  refine r_getfield C 37 (host := "") (Or.inl (hw _ (List.mem_of_getElem? (i := 13) rfl))) Via.refl F_w_times dsa_34 rfl ?_
  refine r_iload C 39 dsa_37 rfl rfl ?_
  refine r_lloadN C 40 dsa_39 rfl rfl ?_
  refine r_lastore C 41 V_t ⟨by decide, by decide⟩ (Nat.le_of_ble_eq_true rfl) dsa_40 rfl g_w_times ?_
  intro h2 W2 V2
  replace E_w := E_w.wr W2
  replace V_c := V_c.other W2 (Ne.symm ntc)
  replace F_w_times := Fld.other W2 F_w_times (Or.inl nwt)
  replace F_w_collected := Fld.other W2 F_w_collected (Or.inl nwt)
  replace F_w_oldest := Fld.other W2 F_w_oldest (Or.inl nwt)
  replace F_w_count := Fld.other W2 F_w_count (Or.inl nwt)
  replace Zs := Nat.le_trans Zs (Nat.le_of_eq W2.size.symm)
  replace KP := KP.wr W2 (Or.inl (List.mem_of_getElem? (i := 1) rfl))
  replace V_t : Arv Z h2 w_times kt .long (3 : Int32) [(.long x), (.long s1), (.long s2)] (.long (0 : Int64)) := V2
  refine r_aloadN C 42 dsa_41 rfl rfl rfl ?_
  refine r_getfield C 45 (host := "") (Or.inl (hw _ (List.mem_of_getElem? (i := 15) rfl))) Via.refl F_w_collected dsa_42 rfl ?_
  refine r_iload C 47 dsa_45 rfl rfl ?_
  refine r_lloadN C 48 dsa_47 rfl rfl ?_
  refine r_lastore C 49 V_c ⟨by decide, by decide⟩ (Nat.le_of_ble_eq_true rfl) dsa_48 rfl g_w_collected ?_
  intro h3 W3 V3
  replace E_w := E_w.wr W3
  replace V_t := V_t.other W3 ntc
  replace F_w_times := Fld.other W3 F_w_times (Or.inl nwc)
  replace F_w_collected := Fld.other W3 F_w_collected (Or.inl nwc)
  replace F_w_oldest := Fld.other W3 F_w_oldest (Or.inl nwc)
  replace F_w_count := Fld.other W3 F_w_count (Or.inl nwc)
  replace Zs := Nat.le_trans Zs (Nat.le_of_eq W3.size.symm)
  replace KP := KP.wr W3 (Or.inl (List.mem_of_getElem? (i := 2) rfl))
  replace V_c : Arv Z h3 w_collected kc .long (3 : Int32) [(.long y), (.long d1), (.long d2)] (.long (0 : Int64)) := V3
  refine r_aloadN C 50 dsa_49 rfl rfl rfl ?_
  refine r_dup C 51 dsa_50 rfl rfl ?_
  refine r_getfield C 54 (host := "") (Or.inl (hw _ (List.mem_of_getElem? (i := 22) rfl))) Via.refl F_w_count dsa_51 rfl ?_
  refine r_iconst C 55 (1 : Int32) dsa_54 rfl rfl ?_
  refine r_iadd C 56 dsa_55 rfl ?_
  show Run _ _ _ _ _ _ _ _ 56 #[.val (.ref w), .val (.long x), .second, .val (.long y), .second, .val (.int (0 : Int32)), .unset, .unset, .unset, .unset] [(.int (3 : Int32)), (.ref w)]
  refine r_putfield C 59 (host := "") (Or.inl (hw _ (List.mem_of_getElem? (i := 22) rfl))) Via.refl F_w_count E_w (Or.inl (hw _ (List.mem_of_getElem? (i := 23) rfl))) (hw _ (List.mem_of_getElem? (i := 5) rfl)) (ty := .int) (by decide) rfl rfl dsa_56 rfl g_w ?_
  intro h4 W4
  replace E_w := E_w.wr W4
  replace V_t := V_t.other W4 (Ne.symm nwt)
  replace V_c := V_c.other W4 (Ne.symm nwc)
  replace F_w_times := Fld.other W4 F_w_times (Or.inr (slot_ne (Or.inr (hw _ (List.mem_of_getElem? (i := 14) rfl))) (Or.inl (hw _ (List.mem_of_getElem? (i := 23) rfl))) (by decide) (t := (.array .long)) (t' := .int) (by decide) (by decide)))
  replace F_w_collected := Fld.other W4 F_w_collected (Or.inr (slot_ne (Or.inr (hw _ (List.mem_of_getElem? (i := 16) rfl))) (Or.inl (hw _ (List.mem_of_getElem? (i := 23) rfl))) (by decide) (t := (.array .long)) (t' := .int) (by decide) (by decide)))
  replace F_w_oldest := Fld.other W4 F_w_oldest (Or.inr (slot_ne (Or.inl (hw _ (List.mem_of_getElem? (i := 25) rfl))) (Or.inl (hw _ (List.mem_of_getElem? (i := 23) rfl))) (by decide) (t := .int) (t' := .int) (by decide) (by decide)))
  replace F_w_count := F_w_count.same W4
  replace Zs := Nat.le_trans Zs (Nat.le_of_eq W4.size.symm)
  replace KP := KP.wr W4 (Or.inl (List.mem_of_getElem? (i := 0) rfl))
  refine r_aloadN C 60 dsa_59 rfl rfl rfl ?_
  refine r_getfield C 63 (host := "") (Or.inl (hw _ (List.mem_of_getElem? (i := 22) rfl))) Via.refl F_w_count dsa_60 rfl ?_
  refine r_iconst C 64 (1 : Int32) dsa_63 rfl rfl ?_
  refine r_icmp_le C 100 67 dsa_64 (by decide) (by decide) rfl (fun q => absurd q (by decide)) (fun _ => ?_)
  refine r_lloadN C 68 dsa_67 rfl rfl ?_
  refine r_aloadN C 69 dsa_68 rfl rfl rfl ?_
  refine r_getfield C 72 (host := "") (Or.inl (hw _ (List.mem_of_getElem? (i := 13) rfl))) Via.refl F_w_times dsa_69 rfl ?_
  refine r_aloadN C 73 dsa_72 rfl rfl rfl ?_
  refine r_getfield C 76 (host := "") (Or.inl (hw _ (List.mem_of_getElem? (i := 24) rfl))) Via.refl F_w_oldest dsa_73 rfl ?_
  refine r_iconst C 77 (1 : Int32) dsa_76 rfl rfl ?_
  refine r_iadd C 78 dsa_77 rfl ?_
  show Run _ _ _ _ _ _ _ _ 78 #[.val (.ref w), .val (.long x), .second, .val (.long y), .second, .val (.int (0 : Int32)), .unset, .unset, .unset, .unset] [(.int (2 : Int32)), (.ref w_times), (.long x)]
  refine r_aloadN C 79 dsa_78 rfl rfl rfl ?_
  refine r_getfield C 82 (host := "") (Or.inl (hw _ (List.mem_of_getElem? (i := 13) rfl))) Via.refl F_w_times dsa_79 rfl ?_
  refine r_arraylength C 83 V_t dsa_82 rfl ?_
  refine r_irem C 84 dsa_83 rfl (by first | decide | assumption) ?_
  show Run _ _ _ _ _ _ _ _ 84 #[.val (.ref w), .val (.long x), .second, .val (.long y), .second, .val (.int (0 : Int32)), .unset, .unset, .unset, .unset] [(.int (2 : Int32)), (.ref w_times), (.long x)]
  refine r_laload C 85 (v := (.long s2)) V_t ⟨by decide, by decide⟩ rfl dsa_84 rfl ?_
  refine r_lsub C 86 dsa_85 rfl ?_
  refine r_ldc2_w C 89 dsa_86 rfl (hw _ (List.mem_of_getElem? (i := 26) rfl)) ?_
  refine r_lcmp_lt C 90 100 93 dsa_89 rfl dsa_90 (by decide) (by decide) rfl (fun _ => ?_) (fun q => absurd b2 q)
  refine r_lloadN C 101 dsa_100 rfl rfl ?_
  refine r_aloadN C 102 dsa_101 rfl rfl rfl ?_
  refine r_getfield C 105 (host := "") (Or.inl (hw _ (List.mem_of_getElem? (i := 13) rfl))) Via.refl F_w_times dsa_102 rfl ?_
  refine r_aloadN C 106 dsa_105 rfl rfl rfl ?_
  refine r_getfield C 109 (host := "") (Or.inl (hw _ (List.mem_of_getElem? (i := 24) rfl))) Via.refl F_w_oldest dsa_106 rfl ?_
  refine r_laload C 110 (v := (.long s1)) V_t ⟨by decide, by decide⟩ rfl dsa_109 rfl ?_
  refine r_lsub C 111 dsa_110 rfl ?_
  refine r_lstore C 113 #[.val (.ref w), .val (.long x), .second, .val (.long y), .second, .val (.int (0 : Int32)), .val (.long (x - s1)), .second, .unset, .unset] dsa_111 rfl rfl ?_
  refine r_lloadN C 114 dsa_113 rfl rfl ?_
  refine r_aloadN C 115 dsa_114 rfl rfl rfl ?_
  refine r_getfield C 118 (host := "") (Or.inl (hw _ (List.mem_of_getElem? (i := 15) rfl))) Via.refl F_w_collected dsa_115 rfl ?_
  refine r_aloadN C 119 dsa_118 rfl rfl rfl ?_
  refine r_getfield C 122 (host := "") (Or.inl (hw _ (List.mem_of_getElem? (i := 24) rfl))) Via.refl F_w_oldest dsa_119 rfl ?_
  refine r_laload C 123 (v := (.long d1)) V_c ⟨by decide, by decide⟩ rfl dsa_122 rfl ?_
  refine r_lsub C 124 dsa_123 rfl ?_
  refine r_lstore C 126 #[.val (.ref w), .val (.long x), .second, .val (.long y), .second, .val (.int (0 : Int32)), .val (.long (x - s1)), .second, .val (.long (y - d1)), .second] dsa_124 rfl rfl ?_
  refine r_lload C 128 dsa_126 rfl rfl ?_
  refine r_ldc2_w C 131 dsa_128 rfl (hw _ (List.mem_of_getElem? (i := 26) rfl)) ?_
  refine r_lcmp_lt C 132 157 135 dsa_131 rfl dsa_132 (by decide) (by decide) rfl ?_ ?_
  · intro q1
    refine r_iconst C 158 (0 : Int32) dsa_157 rfl rfl ?_
    exact r_nreturn C (0 : Int32) rfl (t := .boolean) (by simp) rfl dsa_158 (by decide) (by decide) ⟨by rw [sm, if_pos q1], KP, ⟨E_w, F_w_times, F_w_collected, F_w_oldest, F_w_count⟩, V_t, V_c⟩
  · intro q1
    refine r_lload C 137 dsa_135 rfl rfl ?_
    refine r_l2d C 138 dsa_137 rfl ?_
    refine r_ldc2D C 141 dsa_138 rfl (hw _ (List.mem_of_getElem? (i := 31) rfl)) ?_
    refine r_dmul C 142 dsa_141 rfl (own_nn1 _) ?_
    refine r_ldc2D C 145 dsa_142 rfl (hw _ (List.mem_of_getElem? (i := 32) rfl)) ?_
    refine r_lload C 147 dsa_145 rfl rfl ?_
    refine r_l2d C 148 dsa_147 rfl ?_
    refine r_dmul C 149 dsa_148 rfl (own_nn2 _) ?_
    refine r_dcmpl C 150 dsa_149 rfl ?_
    have cw := OwnF.cmp09 hC hC2 (own_ge q1) hN
    refine r_if_lt C 157 153 dsa_150 (by decide) (by decide) rfl ?_ ?_
    · intro q2
      refine r_iconst C 158 (0 : Int32) dsa_157 rfl rfl ?_
      exact r_nreturn C (0 : Int32) rfl (t := .boolean) (by simp) rfl dsa_158 (by decide) (by decide) ⟨by rw [sm, if_neg q1, if_pos (cw.mp q2)], KP, ⟨E_w, F_w_times, F_w_collected, F_w_oldest, F_w_count⟩, V_t, V_c⟩
    · intro q2
      refine r_iconst C 154 (1 : Int32) dsa_153 rfl rfl ?_
      refine r_goto C 158 dsa_154 (by decide) (by decide) ?_
      exact r_nreturn C (1 : Int32) rfl (t := .boolean) (by simp) rfl dsa_158 (by decide) (by decide) ⟨by rw [sm, if_neg q1, if_neg (fun z => q2 (cw.mpr z))], KP, ⟨E_w, F_w_times, F_w_collected, F_w_oldest, F_w_count⟩, V_t, V_c⟩
theorem ef_rmSa_3_0_3_1 (w : Addr) (x : Int64) (y : Int64) : ∀ mI_, entryFrame mI_ #[(.ref w), (.long x), (.long y)] 10 = mkF mI_ 0 #[.val (.ref w), .val (.long x), .second, .val (.long y), .second, .unset, .unset, .unset, .unset, .unset] [] := fun mI_ => by first | (simp [entryFrame, mkF, argsToLocals, Value.category]; done) | rfl
set_option maxRecDepth 65536 in
set_option maxHeartbeats 40000000 in
theorem rmSa_3_0_3_1 (l : Launch) (Z : State) (a0 : Array Value) (hw : ∀ d ∈ tables_1, d.before a0 Z = true) (w : Addr) (x : Int64) (y : Int64) (w_times : Addr) (w_collected : Addr) (kt kc : ClassId) (s0 s1 s2 d0 d1 d2 : Int64) (h0 : Heap) (n0 : Nat) (Zs : n0 ≤ h0.size) (hW : HwW Z h0 w w_times w_collected (0 : Int32) (3 : Int32)) (V_t : Arv Z h0 w_times kt .long (3 : Int32) [(.long s0), (.long s1), (.long s2)] (.long (0 : Int64))) (V_c : Arv Z h0 w_collected kc .long (3 : Int32) [(.long d0), (.long d1), (.long d2)] (.long (0 : Int64))) (ntc : w_times ≠ w_collected) (g_w : n0 ≤ w) (g_w_times : n0 ≤ w_times) (g_w_collected : n0 ≤ w_collected) (b2 : ¬ (x - s2) < 5000000000) (hN : (x - s2).toInt < 68719476736) (hC : 0 ≤ (y - d2).toInt) (hC2 : (y - d2).toInt < 1000000) :
    Con l Z (⟨"com/example/indenture/indenture/app/HeapWatch", "sample", "(JJ)Z"⟩ : MethodName) prog_1_method_2_code 10 (some .boolean) [] ({ frames := 1, cells := 0, slots := 0, locals := 20 } : Room) n0 #[(.ref w), (.long x), (.long y)] h0 (fun v h => v = some (.int (sm (x - s2) (y - d2))) ∧ Keep h0 h [w, w_times, w_collected] ∧ HwW Z h w w_times w_collected (2 : Int32) (2 : Int32) ∧ Arv Z h w_times kt .long (3 : Int32) [(.long x), (.long s1), (.long s2)] (.long (0 : Int64)) ∧ Arv Z h w_collected kc .long (3 : Int32) [(.long y), (.long d1), (.long d2)] (.long (0 : Int64))) := by
  refine Con.of (plainFor_of_name pn_q0) (ef_rmSa_3_0_3_1 w x y) ?_
  intro K C
  replace C : Ok Z "com/example/indenture/indenture/app/HeapWatch" "sample" prog_1_method_2_code 10 (some .boolean) K := C
  have KP := Keep.refl h0 [w, w_times, w_collected]
  obtain ⟨E_w, F_w_times, F_w_collected, F_w_oldest, F_w_count⟩ := hW
  have nwt : w ≠ w_times := exaArvNe E_w (hw _ (List.mem_of_getElem? (i := 5) rfl)) V_t
  have nwc : w ≠ w_collected := exaArvNe E_w (hw _ (List.mem_of_getElem? (i := 5) rfl)) V_c
  refine r_aloadN C 1 dsa_0 rfl rfl rfl ?_
  refine r_getfield C 4 (host := "") (Or.inl (hw _ (List.mem_of_getElem? (i := 22) rfl))) Via.refl F_w_count dsa_1 rfl ?_
  refine r_aloadN C 5 dsa_4 rfl rfl rfl ?_
  refine r_getfield C 8 (host := "") (Or.inl (hw _ (List.mem_of_getElem? (i := 13) rfl))) Via.refl F_w_times dsa_5 rfl ?_
  refine r_arraylength C 9 V_t dsa_8 rfl ?_
  refine r_icmp_ne C 16 12 dsa_9 (by decide) (by decide) rfl (fun q => absurd q (by decide)) (fun _ => ?_)
  refine r_aloadN C 13 dsa_12 rfl rfl rfl ?_
  refine r_callP C 16 (y := (⟨"com/example/indenture/indenture/app/HeapWatch", "drop", "()V"⟩ : MethodName)) (a := w) [] [] (rmDr l Z a0 hw w w_times w_collected (0 : Int32) (3 : Int32) kt (3 : Int32) _ h0 n0 Zs ⟨E_w, F_w_times, F_w_collected, F_w_oldest, F_w_count⟩ V_t (by decide) g_w) (hw _ (List.mem_of_getElem? (i := 27) rfl)) (hw _ (List.mem_of_getElem? (i := 28) rfl)) (selPriv (hw _ (List.mem_of_getElem? (i := 5) rfl)) (hw _ (List.mem_of_getElem? (i := 29) rfl)) (hw _ (List.mem_of_getElem? (i := 28) rfl)) (by decide)) (hw _ (List.mem_of_getElem? (i := 29) rfl)) (hw _ (List.mem_of_getElem? (i := 6) rfl)) (hw _ (List.mem_of_getElem? (i := 30) rfl)) E_w.cell (by decide) (lenOf pd___V rfl) rfl rfl (by decide) (Nat.le_of_ble_eq_true rfl) (by decide) (by decide) rfl dsa_13 rfl ?_
  intro v1 h1 q1 z1
  obtain ⟨rfl, K1, hW⟩ := q1
  replace hW : HwW Z h1 w w_times w_collected (1 : Int32) (2 : Int32) := hW
  replace E_w := E_w.keep K1
  replace V_t := V_t.keep K1 (ninS (Ne.symm nwt) nin0)
  replace V_c := V_c.keep K1 (ninS (Ne.symm nwc) nin0)
  replace KP := KP.trans K1 (allS (Or.inl (List.mem_of_getElem? (i := 0) rfl)) all0)
  replace Zs := Nat.le_trans Zs K1.1
  obtain ⟨E_w, F_w_times, F_w_collected, F_w_oldest, F_w_count⟩ := hW
  show Run _ _ _ _ _ _ _ _ 16 #[.val (.ref w), .val (.long x), .second, .val (.long y), .second, .unset, .unset, .unset, .unset, .unset] []
  refine r_aloadN C 17 dsa_16 rfl rfl rfl ?_
  refine r_getfield C 20 (host := "") (Or.inl (hw _ (List.mem_of_getElem? (i := 24) rfl))) Via.refl F_w_oldest dsa_17 rfl ?_
  refine r_aloadN C 21 dsa_20 rfl rfl rfl ?_
  refine r_getfield C 24 (host := "") (Or.inl (hw _ (List.mem_of_getElem? (i := 22) rfl))) Via.refl F_w_count dsa_21 rfl ?_
  refine r_iadd C 25 dsa_24 rfl ?_
  show Run _ _ _ _ _ _ _ _ 25 #[.val (.ref w), .val (.long x), .second, .val (.long y), .second, .unset, .unset, .unset, .unset, .unset] [(.int (3 : Int32))]
  refine r_aloadN C 26 dsa_25 rfl rfl rfl ?_
  refine r_getfield C 29 (host := "") (Or.inl (hw _ (List.mem_of_getElem? (i := 13) rfl))) Via.refl F_w_times dsa_26 rfl ?_
  refine r_arraylength C 30 V_t dsa_29 rfl ?_
  refine r_irem C 31 dsa_30 rfl (by first | decide | assumption) ?_
  show Run _ _ _ _ _ _ _ _ 31 #[.val (.ref w), .val (.long x), .second, .val (.long y), .second, .unset, .unset, .unset, .unset, .unset] [(.int (0 : Int32))]
  refine r_istore C 33 #[.val (.ref w), .val (.long x), .second, .val (.long y), .second, .val (.int (0 : Int32)), .unset, .unset, .unset, .unset] dsa_31 rfl rfl ?_
  refine r_aloadN C 34 dsa_33 rfl rfl rfl ?_
  refine r_getfield C 37 (host := "") (Or.inl (hw _ (List.mem_of_getElem? (i := 13) rfl))) Via.refl F_w_times dsa_34 rfl ?_
  refine r_iload C 39 dsa_37 rfl rfl ?_
  refine r_lloadN C 40 dsa_39 rfl rfl ?_
  refine r_lastore C 41 V_t ⟨by decide, by decide⟩ (Nat.le_of_ble_eq_true rfl) dsa_40 rfl g_w_times ?_
  intro h2 W2 V2
  replace E_w := E_w.wr W2
  replace V_c := V_c.other W2 (Ne.symm ntc)
  replace F_w_times := Fld.other W2 F_w_times (Or.inl nwt)
  replace F_w_collected := Fld.other W2 F_w_collected (Or.inl nwt)
  replace F_w_oldest := Fld.other W2 F_w_oldest (Or.inl nwt)
  replace F_w_count := Fld.other W2 F_w_count (Or.inl nwt)
  replace Zs := Nat.le_trans Zs (Nat.le_of_eq W2.size.symm)
  replace KP := KP.wr W2 (Or.inl (List.mem_of_getElem? (i := 1) rfl))
  replace V_t : Arv Z h2 w_times kt .long (3 : Int32) [(.long x), (.long s1), (.long s2)] (.long (0 : Int64)) := V2
  refine r_aloadN C 42 dsa_41 rfl rfl rfl ?_
  refine r_getfield C 45 (host := "") (Or.inl (hw _ (List.mem_of_getElem? (i := 15) rfl))) Via.refl F_w_collected dsa_42 rfl ?_
  refine r_iload C 47 dsa_45 rfl rfl ?_
  refine r_lloadN C 48 dsa_47 rfl rfl ?_
  refine r_lastore C 49 V_c ⟨by decide, by decide⟩ (Nat.le_of_ble_eq_true rfl) dsa_48 rfl g_w_collected ?_
  intro h3 W3 V3
  replace E_w := E_w.wr W3
  replace V_t := V_t.other W3 ntc
  replace F_w_times := Fld.other W3 F_w_times (Or.inl nwc)
  replace F_w_collected := Fld.other W3 F_w_collected (Or.inl nwc)
  replace F_w_oldest := Fld.other W3 F_w_oldest (Or.inl nwc)
  replace F_w_count := Fld.other W3 F_w_count (Or.inl nwc)
  replace Zs := Nat.le_trans Zs (Nat.le_of_eq W3.size.symm)
  replace KP := KP.wr W3 (Or.inl (List.mem_of_getElem? (i := 2) rfl))
  replace V_c : Arv Z h3 w_collected kc .long (3 : Int32) [(.long y), (.long d1), (.long d2)] (.long (0 : Int64)) := V3
  refine r_aloadN C 50 dsa_49 rfl rfl rfl ?_
  refine r_dup C 51 dsa_50 rfl rfl ?_
  refine r_getfield C 54 (host := "") (Or.inl (hw _ (List.mem_of_getElem? (i := 22) rfl))) Via.refl F_w_count dsa_51 rfl ?_
  refine r_iconst C 55 (1 : Int32) dsa_54 rfl rfl ?_
  refine r_iadd C 56 dsa_55 rfl ?_
  show Run _ _ _ _ _ _ _ _ 56 #[.val (.ref w), .val (.long x), .second, .val (.long y), .second, .val (.int (0 : Int32)), .unset, .unset, .unset, .unset] [(.int (3 : Int32)), (.ref w)]
  refine r_putfield C 59 (host := "") (Or.inl (hw _ (List.mem_of_getElem? (i := 22) rfl))) Via.refl F_w_count E_w (Or.inl (hw _ (List.mem_of_getElem? (i := 23) rfl))) (hw _ (List.mem_of_getElem? (i := 5) rfl)) (ty := .int) (by decide) rfl rfl dsa_56 rfl g_w ?_
  intro h4 W4
  replace E_w := E_w.wr W4
  replace V_t := V_t.other W4 (Ne.symm nwt)
  replace V_c := V_c.other W4 (Ne.symm nwc)
  replace F_w_times := Fld.other W4 F_w_times (Or.inr (slot_ne (Or.inr (hw _ (List.mem_of_getElem? (i := 14) rfl))) (Or.inl (hw _ (List.mem_of_getElem? (i := 23) rfl))) (by decide) (t := (.array .long)) (t' := .int) (by decide) (by decide)))
  replace F_w_collected := Fld.other W4 F_w_collected (Or.inr (slot_ne (Or.inr (hw _ (List.mem_of_getElem? (i := 16) rfl))) (Or.inl (hw _ (List.mem_of_getElem? (i := 23) rfl))) (by decide) (t := (.array .long)) (t' := .int) (by decide) (by decide)))
  replace F_w_oldest := Fld.other W4 F_w_oldest (Or.inr (slot_ne (Or.inl (hw _ (List.mem_of_getElem? (i := 25) rfl))) (Or.inl (hw _ (List.mem_of_getElem? (i := 23) rfl))) (by decide) (t := .int) (t' := .int) (by decide) (by decide)))
  replace F_w_count := F_w_count.same W4
  replace Zs := Nat.le_trans Zs (Nat.le_of_eq W4.size.symm)
  replace KP := KP.wr W4 (Or.inl (List.mem_of_getElem? (i := 0) rfl))
  refine r_aloadN C 60 dsa_59 rfl rfl rfl ?_
  refine r_getfield C 63 (host := "") (Or.inl (hw _ (List.mem_of_getElem? (i := 22) rfl))) Via.refl F_w_count dsa_60 rfl ?_
  refine r_iconst C 64 (1 : Int32) dsa_63 rfl rfl ?_
  refine r_icmp_le C 100 67 dsa_64 (by decide) (by decide) rfl (fun q => absurd q (by decide)) (fun _ => ?_)
  refine r_lloadN C 68 dsa_67 rfl rfl ?_
  refine r_aloadN C 69 dsa_68 rfl rfl rfl ?_
  refine r_getfield C 72 (host := "") (Or.inl (hw _ (List.mem_of_getElem? (i := 13) rfl))) Via.refl F_w_times dsa_69 rfl ?_
  refine r_aloadN C 73 dsa_72 rfl rfl rfl ?_
  refine r_getfield C 76 (host := "") (Or.inl (hw _ (List.mem_of_getElem? (i := 24) rfl))) Via.refl F_w_oldest dsa_73 rfl ?_
  refine r_iconst C 77 (1 : Int32) dsa_76 rfl rfl ?_
  refine r_iadd C 78 dsa_77 rfl ?_
  show Run _ _ _ _ _ _ _ _ 78 #[.val (.ref w), .val (.long x), .second, .val (.long y), .second, .val (.int (0 : Int32)), .unset, .unset, .unset, .unset] [(.int (2 : Int32)), (.ref w_times), (.long x)]
  refine r_aloadN C 79 dsa_78 rfl rfl rfl ?_
  refine r_getfield C 82 (host := "") (Or.inl (hw _ (List.mem_of_getElem? (i := 13) rfl))) Via.refl F_w_times dsa_79 rfl ?_
  refine r_arraylength C 83 V_t dsa_82 rfl ?_
  refine r_irem C 84 dsa_83 rfl (by first | decide | assumption) ?_
  show Run _ _ _ _ _ _ _ _ 84 #[.val (.ref w), .val (.long x), .second, .val (.long y), .second, .val (.int (0 : Int32)), .unset, .unset, .unset, .unset] [(.int (2 : Int32)), (.ref w_times), (.long x)]
  refine r_laload C 85 (v := (.long s2)) V_t ⟨by decide, by decide⟩ rfl dsa_84 rfl ?_
  refine r_lsub C 86 dsa_85 rfl ?_
  refine r_ldc2_w C 89 dsa_86 rfl (hw _ (List.mem_of_getElem? (i := 26) rfl)) ?_
  refine r_lcmp_lt C 90 100 93 dsa_89 rfl dsa_90 (by decide) (by decide) rfl (fun q => absurd q b2) (fun _ => ?_)
  refine r_aloadN C 94 dsa_93 rfl rfl rfl ?_
  refine r_callP C 97 (y := (⟨"com/example/indenture/indenture/app/HeapWatch", "drop", "()V"⟩ : MethodName)) (a := w) [] [] (rmDr l Z a0 hw w w_times w_collected (1 : Int32) (3 : Int32) kt (3 : Int32) _ h4 n0 Zs ⟨E_w, F_w_times, F_w_collected, F_w_oldest, F_w_count⟩ V_t (by decide) g_w) (hw _ (List.mem_of_getElem? (i := 27) rfl)) (hw _ (List.mem_of_getElem? (i := 28) rfl)) (selPriv (hw _ (List.mem_of_getElem? (i := 5) rfl)) (hw _ (List.mem_of_getElem? (i := 29) rfl)) (hw _ (List.mem_of_getElem? (i := 28) rfl)) (by decide)) (hw _ (List.mem_of_getElem? (i := 29) rfl)) (hw _ (List.mem_of_getElem? (i := 6) rfl)) (hw _ (List.mem_of_getElem? (i := 30) rfl)) E_w.cell (by decide) (lenOf pd___V rfl) rfl rfl (by decide) (Nat.le_of_ble_eq_true rfl) (by decide) (by decide) rfl dsa_94 rfl ?_
  intro v5 h5 q5 z5
  obtain ⟨rfl, K5, hW⟩ := q5
  replace hW : HwW Z h5 w w_times w_collected (2 : Int32) (2 : Int32) := hW
  replace E_w := E_w.keep K5
  replace V_t := V_t.keep K5 (ninS (Ne.symm nwt) nin0)
  replace V_c := V_c.keep K5 (ninS (Ne.symm nwc) nin0)
  replace KP := KP.trans K5 (allS (Or.inl (List.mem_of_getElem? (i := 0) rfl)) all0)
  replace Zs := Nat.le_trans Zs K5.1
  obtain ⟨E_w, F_w_times, F_w_collected, F_w_oldest, F_w_count⟩ := hW
  show Run _ _ _ _ _ _ _ _ 97 #[.val (.ref w), .val (.long x), .second, .val (.long y), .second, .val (.int (0 : Int32)), .unset, .unset, .unset, .unset] []
  refine r_goto C 59 dsa_97 (by decide) (by decide) ?_
  refine r_aloadN C 60 dsa_59 rfl rfl rfl ?_
  refine r_getfield C 63 (host := "") (Or.inl (hw _ (List.mem_of_getElem? (i := 22) rfl))) Via.refl F_w_count dsa_60 rfl ?_
  refine r_iconst C 64 (1 : Int32) dsa_63 rfl rfl ?_
  refine r_icmp_le C 100 67 dsa_64 (by decide) (by decide) rfl (fun q => absurd q (by decide)) (fun _ => ?_)
  refine r_lloadN C 68 dsa_67 rfl rfl ?_
  refine r_aloadN C 69 dsa_68 rfl rfl rfl ?_
  refine r_getfield C 72 (host := "") (Or.inl (hw _ (List.mem_of_getElem? (i := 13) rfl))) Via.refl F_w_times dsa_69 rfl ?_
  refine r_aloadN C 73 dsa_72 rfl rfl rfl ?_
  refine r_getfield C 76 (host := "") (Or.inl (hw _ (List.mem_of_getElem? (i := 24) rfl))) Via.refl F_w_oldest dsa_73 rfl ?_
  refine r_iconst C 77 (1 : Int32) dsa_76 rfl rfl ?_
  refine r_iadd C 78 dsa_77 rfl ?_
  show Run _ _ _ _ _ _ _ _ 78 #[.val (.ref w), .val (.long x), .second, .val (.long y), .second, .val (.int (0 : Int32)), .unset, .unset, .unset, .unset] [(.int (3 : Int32)), (.ref w_times), (.long x)]
  refine r_aloadN C 79 dsa_78 rfl rfl rfl ?_
  refine r_getfield C 82 (host := "") (Or.inl (hw _ (List.mem_of_getElem? (i := 13) rfl))) Via.refl F_w_times dsa_79 rfl ?_
  refine r_arraylength C 83 V_t dsa_82 rfl ?_
  refine r_irem C 84 dsa_83 rfl (by first | decide | assumption) ?_
  show Run _ _ _ _ _ _ _ _ 84 #[.val (.ref w), .val (.long x), .second, .val (.long y), .second, .val (.int (0 : Int32)), .unset, .unset, .unset, .unset] [(.int (0 : Int32)), (.ref w_times), (.long x)]
  refine r_laload C 85 (v := (.long x)) V_t ⟨by decide, by decide⟩ rfl dsa_84 rfl ?_
  refine r_lsub C 86 dsa_85 rfl ?_
  refine r_ldc2_w C 89 dsa_86 rfl (hw _ (List.mem_of_getElem? (i := 26) rfl)) ?_
  refine r_lcmp_lt C 90 100 93 dsa_89 rfl dsa_90 (by decide) (by decide) rfl (fun _ => ?_) (fun q => absurd (own_self x) q)
  refine r_lloadN C 101 dsa_100 rfl rfl ?_
  refine r_aloadN C 102 dsa_101 rfl rfl rfl ?_
  refine r_getfield C 105 (host := "") (Or.inl (hw _ (List.mem_of_getElem? (i := 13) rfl))) Via.refl F_w_times dsa_102 rfl ?_
  refine r_aloadN C 106 dsa_105 rfl rfl rfl ?_
  refine r_getfield C 109 (host := "") (Or.inl (hw _ (List.mem_of_getElem? (i := 24) rfl))) Via.refl F_w_oldest dsa_106 rfl ?_
  refine r_laload C 110 (v := (.long s2)) V_t ⟨by decide, by decide⟩ rfl dsa_109 rfl ?_
  refine r_lsub C 111 dsa_110 rfl ?_
  refine r_lstore C 113 #[.val (.ref w), .val (.long x), .second, .val (.long y), .second, .val (.int (0 : Int32)), .val (.long (x - s2)), .second, .unset, .unset] dsa_111 rfl rfl ?_
  refine r_lloadN C 114 dsa_113 rfl rfl ?_
  refine r_aloadN C 115 dsa_114 rfl rfl rfl ?_
  refine r_getfield C 118 (host := "") (Or.inl (hw _ (List.mem_of_getElem? (i := 15) rfl))) Via.refl F_w_collected dsa_115 rfl ?_
  refine r_aloadN C 119 dsa_118 rfl rfl rfl ?_
  refine r_getfield C 122 (host := "") (Or.inl (hw _ (List.mem_of_getElem? (i := 24) rfl))) Via.refl F_w_oldest dsa_119 rfl ?_
  refine r_laload C 123 (v := (.long d2)) V_c ⟨by decide, by decide⟩ rfl dsa_122 rfl ?_
  refine r_lsub C 124 dsa_123 rfl ?_
  refine r_lstore C 126 #[.val (.ref w), .val (.long x), .second, .val (.long y), .second, .val (.int (0 : Int32)), .val (.long (x - s2)), .second, .val (.long (y - d2)), .second] dsa_124 rfl rfl ?_
  refine r_lload C 128 dsa_126 rfl rfl ?_
  refine r_ldc2_w C 131 dsa_128 rfl (hw _ (List.mem_of_getElem? (i := 26) rfl)) ?_
  refine r_lcmp_lt C 132 157 135 dsa_131 rfl dsa_132 (by decide) (by decide) rfl ?_ ?_
  · intro q1
    refine r_iconst C 158 (0 : Int32) dsa_157 rfl rfl ?_
    exact r_nreturn C (0 : Int32) rfl (t := .boolean) (by simp) rfl dsa_158 (by decide) (by decide) ⟨by rw [sm, if_pos q1], KP, ⟨E_w, F_w_times, F_w_collected, F_w_oldest, F_w_count⟩, V_t, V_c⟩
  · intro q1
    refine r_lload C 137 dsa_135 rfl rfl ?_
    refine r_l2d C 138 dsa_137 rfl ?_
    refine r_ldc2D C 141 dsa_138 rfl (hw _ (List.mem_of_getElem? (i := 31) rfl)) ?_
    refine r_dmul C 142 dsa_141 rfl (own_nn1 _) ?_
    refine r_ldc2D C 145 dsa_142 rfl (hw _ (List.mem_of_getElem? (i := 32) rfl)) ?_
    refine r_lload C 147 dsa_145 rfl rfl ?_
    refine r_l2d C 148 dsa_147 rfl ?_
    refine r_dmul C 149 dsa_148 rfl (own_nn2 _) ?_
    refine r_dcmpl C 150 dsa_149 rfl ?_
    have cw := OwnF.cmp09 hC hC2 (own_ge q1) hN
    refine r_if_lt C 157 153 dsa_150 (by decide) (by decide) rfl ?_ ?_
    · intro q2
      refine r_iconst C 158 (0 : Int32) dsa_157 rfl rfl ?_
      exact r_nreturn C (0 : Int32) rfl (t := .boolean) (by simp) rfl dsa_158 (by decide) (by decide) ⟨by rw [sm, if_neg q1, if_pos (cw.mp q2)], KP, ⟨E_w, F_w_times, F_w_collected, F_w_oldest, F_w_count⟩, V_t, V_c⟩
    · intro q2
      refine r_iconst C 154 (1 : Int32) dsa_153 rfl rfl ?_
      refine r_goto C 158 dsa_154 (by decide) (by decide) ?_
      exact r_nreturn C (1 : Int32) rfl (t := .boolean) (by simp) rfl dsa_158 (by decide) (by decide) ⟨by rw [sm, if_neg q1, if_neg (fun z => q2 (cw.mpr z))], KP, ⟨E_w, F_w_times, F_w_collected, F_w_oldest, F_w_count⟩, V_t, V_c⟩
theorem ef_rmSa_4_0_3_0 (w : Addr) (x : Int64) (y : Int64) : ∀ mI_, entryFrame mI_ #[(.ref w), (.long x), (.long y)] 10 = mkF mI_ 0 #[.val (.ref w), .val (.long x), .second, .val (.long y), .second, .unset, .unset, .unset, .unset, .unset] [] := fun mI_ => by first | (simp [entryFrame, mkF, argsToLocals, Value.category]; done) | rfl
set_option maxRecDepth 65536 in
set_option maxHeartbeats 40000000 in
theorem rmSa_4_0_3_0 (l : Launch) (Z : State) (a0 : Array Value) (hw : ∀ d ∈ tables_1, d.before a0 Z = true) (w : Addr) (x : Int64) (y : Int64) (w_times : Addr) (w_collected : Addr) (kt kc : ClassId) (s0 s1 s2 s3 d0 d1 d2 d3 : Int64) (h0 : Heap) (n0 : Nat) (Zs : n0 ≤ h0.size) (hW : HwW Z h0 w w_times w_collected (0 : Int32) (3 : Int32)) (V_t : Arv Z h0 w_times kt .long (4 : Int32) [(.long s0), (.long s1), (.long s2), (.long s3)] (.long (0 : Int64))) (V_c : Arv Z h0 w_collected kc .long (4 : Int32) [(.long d0), (.long d1), (.long d2), (.long d3)] (.long (0 : Int64))) (ntc : w_times ≠ w_collected) (g_w : n0 ≤ w) (g_w_times : n0 ≤ w_times) (g_w_collected : n0 ≤ w_collected) (b1 : (x - s1) < 5000000000) (hN : (x - s0).toInt < 68719476736) (hC : 0 ≤ (y - d0).toInt) (hC2 : (y - d0).toInt < 1000000) :
    Con l Z (⟨"com/example/indenture/indenture/app/HeapWatch", "sample", "(JJ)Z"⟩ : MethodName) prog_1_method_2_code 10 (some .boolean) [] ({ frames := 1, cells := 0, slots := 0, locals := 20 } : Room) n0 #[(.ref w), (.long x), (.long y)] h0 (fun v h => v = some (.int (sm (x - s0) (y - d0))) ∧ Keep h0 h [w, w_times, w_collected] ∧ HwW Z h w w_times w_collected (0 : Int32) (4 : Int32) ∧ Arv Z h w_times kt .long (4 : Int32) [(.long s0), (.long s1), (.long s2), (.long x)] (.long (0 : Int64)) ∧ Arv Z h w_collected kc .long (4 : Int32) [(.long d0), (.long d1), (.long d2), (.long y)] (.long (0 : Int64))) := by
  refine Con.of (plainFor_of_name pn_q0) (ef_rmSa_4_0_3_0 w x y) ?_
  intro K C
  replace C : Ok Z "com/example/indenture/indenture/app/HeapWatch" "sample" prog_1_method_2_code 10 (some .boolean) K := C
  have KP := Keep.refl h0 [w, w_times, w_collected]
  obtain ⟨E_w, F_w_times, F_w_collected, F_w_oldest, F_w_count⟩ := hW
  have nwt : w ≠ w_times := exaArvNe E_w (hw _ (List.mem_of_getElem? (i := 5) rfl)) V_t
  have nwc : w ≠ w_collected := exaArvNe E_w (hw _ (List.mem_of_getElem? (i := 5) rfl)) V_c
  refine r_aloadN C 1 dsa_0 rfl rfl rfl ?_
  refine r_getfield C 4 (host := "") (Or.inl (hw _ (List.mem_of_getElem? (i := 22) rfl))) Via.refl F_w_count dsa_1 rfl ?_
  refine r_aloadN C 5 dsa_4 rfl rfl rfl ?_
  refine r_getfield C 8 (host := "") (Or.inl (hw _ (List.mem_of_getElem? (i := 13) rfl))) Via.refl F_w_times dsa_5 rfl ?_
  refine r_arraylength C 9 V_t dsa_8 rfl ?_
  refine r_icmp_ne C 16 12 dsa_9 (by decide) (by decide) rfl (fun _ => ?_) (fun q => absurd q (by decide))
  refine r_aloadN C 17 dsa_16 rfl rfl rfl ?_
  refine r_getfield C 20 (host := "") (Or.inl (hw _ (List.mem_of_getElem? (i := 24) rfl))) Via.refl F_w_oldest dsa_17 rfl ?_
  refine r_aloadN C 21 dsa_20 rfl rfl rfl ?_
  refine r_getfield C 24 (host := "") (Or.inl (hw _ (List.mem_of_getElem? (i := 22) rfl))) Via.refl F_w_count dsa_21 rfl ?_
  refine r_iadd C 25 dsa_24 rfl ?_
  show Run _ _ _ _ _ _ _ _ 25 #[.val (.ref w), .val (.long x), .second, .val (.long y), .second, .unset, .unset, .unset, .unset, .unset] [(.int (3 : Int32))]
  refine r_aloadN C 26 dsa_25 rfl rfl rfl ?_
  refine r_getfield C 29 (host := "") (Or.inl (hw _ (List.mem_of_getElem? (i := 13) rfl))) Via.refl F_w_times dsa_26 rfl ?_
  refine r_arraylength C 30 V_t dsa_29 rfl ?_
  refine r_irem C 31 dsa_30 rfl (by first | decide | assumption) ?_
  show Run _ _ _ _ _ _ _ _ 31 #[.val (.ref w), .val (.long x), .second, .val (.long y), .second, .unset, .unset, .unset, .unset, .unset] [(.int (3 : Int32))]
  refine r_istore C 33 #[.val (.ref w), .val (.long x), .second, .val (.long y), .second, .val (.int (3 : Int32)), .unset, .unset, .unset, .unset] dsa_31 rfl rfl ?_
  refine r_aloadN C 34 dsa_33 rfl rfl rfl ?_
  refine r_getfield C 37 (host := "") (Or.inl (hw _ (List.mem_of_getElem? (i := 13) rfl))) Via.refl F_w_times dsa_34 rfl ?_
  refine r_iload C 39 dsa_37 rfl rfl ?_
  refine r_lloadN C 40 dsa_39 rfl rfl ?_
  refine r_lastore C 41 V_t ⟨by decide, by decide⟩ (Nat.le_of_ble_eq_true rfl) dsa_40 rfl g_w_times ?_
  intro h1 W1 V1
  replace E_w := E_w.wr W1
  replace F_w_times := Fld.other W1 F_w_times (Or.inl nwt)
  replace F_w_collected := Fld.other W1 F_w_collected (Or.inl nwt)
  replace F_w_oldest := Fld.other W1 F_w_oldest (Or.inl nwt)
  replace F_w_count := Fld.other W1 F_w_count (Or.inl nwt)
  replace V_c := V_c.other W1 (Ne.symm ntc)
  replace Zs := Nat.le_trans Zs (Nat.le_of_eq W1.size.symm)
  replace KP := KP.wr W1 (Or.inl (List.mem_of_getElem? (i := 1) rfl))
  replace V_t : Arv Z h1 w_times kt .long (4 : Int32) [(.long s0), (.long s1), (.long s2), (.long x)] (.long (0 : Int64)) := V1
  refine r_aloadN C 42 dsa_41 rfl rfl rfl ?_
  refine r_getfield C 45 (host := "") (Or.inl (hw _ (List.mem_of_getElem? (i := 15) rfl))) Via.refl F_w_collected dsa_42 rfl ?_
  refine r_iload C 47 dsa_45 rfl rfl ?_
  refine r_lloadN C 48 dsa_47 rfl rfl ?_
  refine r_lastore C 49 V_c ⟨by decide, by decide⟩ (Nat.le_of_ble_eq_true rfl) dsa_48 rfl g_w_collected ?_
  intro h2 W2 V2
  replace E_w := E_w.wr W2
  replace F_w_times := Fld.other W2 F_w_times (Or.inl nwc)
  replace F_w_collected := Fld.other W2 F_w_collected (Or.inl nwc)
  replace F_w_oldest := Fld.other W2 F_w_oldest (Or.inl nwc)
  replace F_w_count := Fld.other W2 F_w_count (Or.inl nwc)
  replace V_t := V_t.other W2 ntc
  replace Zs := Nat.le_trans Zs (Nat.le_of_eq W2.size.symm)
  replace KP := KP.wr W2 (Or.inl (List.mem_of_getElem? (i := 2) rfl))
  replace V_c : Arv Z h2 w_collected kc .long (4 : Int32) [(.long d0), (.long d1), (.long d2), (.long y)] (.long (0 : Int64)) := V2
  refine r_aloadN C 50 dsa_49 rfl rfl rfl ?_
  refine r_dup C 51 dsa_50 rfl rfl ?_
  refine r_getfield C 54 (host := "") (Or.inl (hw _ (List.mem_of_getElem? (i := 22) rfl))) Via.refl F_w_count dsa_51 rfl ?_
  refine r_iconst C 55 (1 : Int32) dsa_54 rfl rfl ?_
  refine r_iadd C 56 dsa_55 rfl ?_
  show Run _ _ _ _ _ _ _ _ 56 #[.val (.ref w), .val (.long x), .second, .val (.long y), .second, .val (.int (3 : Int32)), .unset, .unset, .unset, .unset] [(.int (4 : Int32)), (.ref w)]
  refine r_putfield C 59 (host := "") (Or.inl (hw _ (List.mem_of_getElem? (i := 22) rfl))) Via.refl F_w_count E_w (Or.inl (hw _ (List.mem_of_getElem? (i := 23) rfl))) (hw _ (List.mem_of_getElem? (i := 5) rfl)) (ty := .int) (by decide) rfl rfl dsa_56 rfl g_w ?_
  intro h3 W3
  replace E_w := E_w.wr W3
  replace F_w_times := Fld.other W3 F_w_times (Or.inr (slot_ne (Or.inr (hw _ (List.mem_of_getElem? (i := 14) rfl))) (Or.inl (hw _ (List.mem_of_getElem? (i := 23) rfl))) (by decide) (t := (.array .long)) (t' := .int) (by decide) (by decide)))
  replace F_w_collected := Fld.other W3 F_w_collected (Or.inr (slot_ne (Or.inr (hw _ (List.mem_of_getElem? (i := 16) rfl))) (Or.inl (hw _ (List.mem_of_getElem? (i := 23) rfl))) (by decide) (t := (.array .long)) (t' := .int) (by decide) (by decide)))
  replace F_w_oldest := Fld.other W3 F_w_oldest (Or.inr (slot_ne (Or.inl (hw _ (List.mem_of_getElem? (i := 25) rfl))) (Or.inl (hw _ (List.mem_of_getElem? (i := 23) rfl))) (by decide) (t := .int) (t' := .int) (by decide) (by decide)))
  replace V_t := V_t.other W3 (Ne.symm nwt)
  replace V_c := V_c.other W3 (Ne.symm nwc)
  replace F_w_count := F_w_count.same W3
  replace Zs := Nat.le_trans Zs (Nat.le_of_eq W3.size.symm)
  replace KP := KP.wr W3 (Or.inl (List.mem_of_getElem? (i := 0) rfl))
  refine r_aloadN C 60 dsa_59 rfl rfl rfl ?_
  refine r_getfield C 63 (host := "") (Or.inl (hw _ (List.mem_of_getElem? (i := 22) rfl))) Via.refl F_w_count dsa_60 rfl ?_
  refine r_iconst C 64 (1 : Int32) dsa_63 rfl rfl ?_
  refine r_icmp_le C 100 67 dsa_64 (by decide) (by decide) rfl (fun q => absurd q (by decide)) (fun _ => ?_)
  refine r_lloadN C 68 dsa_67 rfl rfl ?_
  refine r_aloadN C 69 dsa_68 rfl rfl rfl ?_
  refine r_getfield C 72 (host := "") (Or.inl (hw _ (List.mem_of_getElem? (i := 13) rfl))) Via.refl F_w_times dsa_69 rfl ?_
  refine r_aloadN C 73 dsa_72 rfl rfl rfl ?_
  refine r_getfield C 76 (host := "") (Or.inl (hw _ (List.mem_of_getElem? (i := 24) rfl))) Via.refl F_w_oldest dsa_73 rfl ?_
  refine r_iconst C 77 (1 : Int32) dsa_76 rfl rfl ?_
  refine r_iadd C 78 dsa_77 rfl ?_
  show Run _ _ _ _ _ _ _ _ 78 #[.val (.ref w), .val (.long x), .second, .val (.long y), .second, .val (.int (3 : Int32)), .unset, .unset, .unset, .unset] [(.int (1 : Int32)), (.ref w_times), (.long x)]
  refine r_aloadN C 79 dsa_78 rfl rfl rfl ?_
  refine r_getfield C 82 (host := "") (Or.inl (hw _ (List.mem_of_getElem? (i := 13) rfl))) Via.refl F_w_times dsa_79 rfl ?_
  refine r_arraylength C 83 V_t dsa_82 rfl ?_
  refine r_irem C 84 dsa_83 rfl (by first | decide | assumption) ?_
  show Run _ _ _ _ _ _ _ _ 84 #[.val (.ref w), .val (.long x), .second, .val (.long y), .second, .val (.int (3 : Int32)), .unset, .unset, .unset, .unset] [(.int (1 : Int32)), (.ref w_times), (.long x)]
  refine r_laload C 85 (v := (.long s1)) V_t ⟨by decide, by decide⟩ rfl dsa_84 rfl ?_
  refine r_lsub C 86 dsa_85 rfl ?_
  refine r_ldc2_w C 89 dsa_86 rfl (hw _ (List.mem_of_getElem? (i := 26) rfl)) ?_
  refine r_lcmp_lt C 90 100 93 dsa_89 rfl dsa_90 (by decide) (by decide) rfl (fun _ => ?_) (fun q => absurd b1 q)
  refine r_lloadN C 101 dsa_100 rfl rfl ?_
  refine r_aloadN C 102 dsa_101 rfl rfl rfl ?_
  refine r_getfield C 105 (host := "") (Or.inl (hw _ (List.mem_of_getElem? (i := 13) rfl))) Via.refl F_w_times dsa_102 rfl ?_
  refine r_aloadN C 106 dsa_105 rfl rfl rfl ?_
  refine r_getfield C 109 (host := "") (Or.inl (hw _ (List.mem_of_getElem? (i := 24) rfl))) Via.refl F_w_oldest dsa_106 rfl ?_
  refine r_laload C 110 (v := (.long s0)) V_t ⟨by decide, by decide⟩ rfl dsa_109 rfl ?_
  refine r_lsub C 111 dsa_110 rfl ?_
  refine r_lstore C 113 #[.val (.ref w), .val (.long x), .second, .val (.long y), .second, .val (.int (3 : Int32)), .val (.long (x - s0)), .second, .unset, .unset] dsa_111 rfl rfl ?_
  refine r_lloadN C 114 dsa_113 rfl rfl ?_
  refine r_aloadN C 115 dsa_114 rfl rfl rfl ?_
  refine r_getfield C 118 (host := "") (Or.inl (hw _ (List.mem_of_getElem? (i := 15) rfl))) Via.refl F_w_collected dsa_115 rfl ?_
  refine r_aloadN C 119 dsa_118 rfl rfl rfl ?_
  refine r_getfield C 122 (host := "") (Or.inl (hw _ (List.mem_of_getElem? (i := 24) rfl))) Via.refl F_w_oldest dsa_119 rfl ?_
  refine r_laload C 123 (v := (.long d0)) V_c ⟨by decide, by decide⟩ rfl dsa_122 rfl ?_
  refine r_lsub C 124 dsa_123 rfl ?_
  refine r_lstore C 126 #[.val (.ref w), .val (.long x), .second, .val (.long y), .second, .val (.int (3 : Int32)), .val (.long (x - s0)), .second, .val (.long (y - d0)), .second] dsa_124 rfl rfl ?_
  refine r_lload C 128 dsa_126 rfl rfl ?_
  refine r_ldc2_w C 131 dsa_128 rfl (hw _ (List.mem_of_getElem? (i := 26) rfl)) ?_
  refine r_lcmp_lt C 132 157 135 dsa_131 rfl dsa_132 (by decide) (by decide) rfl ?_ ?_
  · intro q1
    refine r_iconst C 158 (0 : Int32) dsa_157 rfl rfl ?_
    exact r_nreturn C (0 : Int32) rfl (t := .boolean) (by simp) rfl dsa_158 (by decide) (by decide) ⟨by rw [sm, if_pos q1], KP, ⟨E_w, F_w_times, F_w_collected, F_w_oldest, F_w_count⟩, V_t, V_c⟩
  · intro q1
    refine r_lload C 137 dsa_135 rfl rfl ?_
    refine r_l2d C 138 dsa_137 rfl ?_
    refine r_ldc2D C 141 dsa_138 rfl (hw _ (List.mem_of_getElem? (i := 31) rfl)) ?_
    refine r_dmul C 142 dsa_141 rfl (own_nn1 _) ?_
    refine r_ldc2D C 145 dsa_142 rfl (hw _ (List.mem_of_getElem? (i := 32) rfl)) ?_
    refine r_lload C 147 dsa_145 rfl rfl ?_
    refine r_l2d C 148 dsa_147 rfl ?_
    refine r_dmul C 149 dsa_148 rfl (own_nn2 _) ?_
    refine r_dcmpl C 150 dsa_149 rfl ?_
    have cw := OwnF.cmp09 hC hC2 (own_ge q1) hN
    refine r_if_lt C 157 153 dsa_150 (by decide) (by decide) rfl ?_ ?_
    · intro q2
      refine r_iconst C 158 (0 : Int32) dsa_157 rfl rfl ?_
      exact r_nreturn C (0 : Int32) rfl (t := .boolean) (by simp) rfl dsa_158 (by decide) (by decide) ⟨by rw [sm, if_neg q1, if_pos (cw.mp q2)], KP, ⟨E_w, F_w_times, F_w_collected, F_w_oldest, F_w_count⟩, V_t, V_c⟩
    · intro q2
      refine r_iconst C 154 (1 : Int32) dsa_153 rfl rfl ?_
      refine r_goto C 158 dsa_154 (by decide) (by decide) ?_
      exact r_nreturn C (1 : Int32) rfl (t := .boolean) (by simp) rfl dsa_158 (by decide) (by decide) ⟨by rw [sm, if_neg q1, if_neg (fun z => q2 (cw.mpr z))], KP, ⟨E_w, F_w_times, F_w_collected, F_w_oldest, F_w_count⟩, V_t, V_c⟩
theorem ef_rmSa_4_0_3_1_0 (w : Addr) (x : Int64) (y : Int64) : ∀ mI_, entryFrame mI_ #[(.ref w), (.long x), (.long y)] 10 = mkF mI_ 0 #[.val (.ref w), .val (.long x), .second, .val (.long y), .second, .unset, .unset, .unset, .unset, .unset] [] := fun mI_ => by first | (simp [entryFrame, mkF, argsToLocals, Value.category]; done) | rfl
set_option maxRecDepth 65536 in
set_option maxHeartbeats 40000000 in
theorem rmSa_4_0_3_1_0 (l : Launch) (Z : State) (a0 : Array Value) (hw : ∀ d ∈ tables_1, d.before a0 Z = true) (w : Addr) (x : Int64) (y : Int64) (w_times : Addr) (w_collected : Addr) (kt kc : ClassId) (s0 s1 s2 s3 d0 d1 d2 d3 : Int64) (h0 : Heap) (n0 : Nat) (Zs : n0 ≤ h0.size) (hW : HwW Z h0 w w_times w_collected (0 : Int32) (3 : Int32)) (V_t : Arv Z h0 w_times kt .long (4 : Int32) [(.long s0), (.long s1), (.long s2), (.long s3)] (.long (0 : Int64))) (V_c : Arv Z h0 w_collected kc .long (4 : Int32) [(.long d0), (.long d1), (.long d2), (.long d3)] (.long (0 : Int64))) (ntc : w_times ≠ w_collected) (g_w : n0 ≤ w) (g_w_times : n0 ≤ w_times) (g_w_collected : n0 ≤ w_collected) (b1 : ¬ (x - s1) < 5000000000) (b2 : (x - s2) < 5000000000) (hN : (x - s1).toInt < 68719476736) (hC : 0 ≤ (y - d1).toInt) (hC2 : (y - d1).toInt < 1000000) :
    Con l Z (⟨"com/example/indenture/indenture/app/HeapWatch", "sample", "(JJ)Z"⟩ : MethodName) prog_1_method_2_code 10 (some .boolean) [] ({ frames := 1, cells := 0, slots := 0, locals := 20 } : Room) n0 #[(.ref w), (.long x), (.long y)] h0 (fun v h => v = some (.int (sm (x - s1) (y - d1))) ∧ Keep h0 h [w, w_times, w_collected] ∧ HwW Z h w w_times w_collected (1 : Int32) (3 : Int32) ∧ Arv Z h w_times kt .long (4 : Int32) [(.long s0), (.long s1), (.long s2), (.long x)] (.long (0 : Int64)) ∧ Arv Z h w_collected kc .long (4 : Int32) [(.long d0), (.long d1), (.long d2), (.long y)] (.long (0 : Int64))) := by
  refine Con.of (plainFor_of_name pn_q0) (ef_rmSa_4_0_3_1_0 w x y) ?_
  intro K C
  replace C : Ok Z "com/example/indenture/indenture/app/HeapWatch" "sample" prog_1_method_2_code 10 (some .boolean) K := C
  have KP := Keep.refl h0 [w, w_times, w_collected]
  obtain ⟨E_w, F_w_times, F_w_collected, F_w_oldest, F_w_count⟩ := hW
  have nwt : w ≠ w_times := exaArvNe E_w (hw _ (List.mem_of_getElem? (i := 5) rfl)) V_t
  have nwc : w ≠ w_collected := exaArvNe E_w (hw _ (List.mem_of_getElem? (i := 5) rfl)) V_c
  refine r_aloadN C 1 dsa_0 rfl rfl rfl ?_
  refine r_getfield C 4 (host := "") (Or.inl (hw _ (List.mem_of_getElem? (i := 22) rfl))) Via.refl F_w_count dsa_1 rfl ?_
  refine r_aloadN C 5 dsa_4 rfl rfl rfl ?_
  refine r_getfield C 8 (host := "") (Or.inl (hw _ (List.mem_of_getElem? (i := 13) rfl))) Via.refl F_w_times dsa_5 rfl ?_
  refine r_arraylength C 9 V_t dsa_8 rfl ?_
  refine r_icmp_ne C 16 12 dsa_9 (by decide) (by decide) rfl (fun _ => ?_) (fun q => absurd q (by decide))
  refine r_aloadN C 17 dsa_16 rfl rfl rfl ?_
  refine r_getfield C 20 (host := "") (Or.inl (hw _ (List.mem_of_getElem? (i := 24) rfl))) Via.refl F_w_oldest dsa_17 rfl ?_
  refine r_aloadN C 21 dsa_20 rfl rfl rfl ?_
  refine r_getfield C 24 (host := "") (Or.inl (hw _ (List.mem_of_getElem? (i := 22) rfl))) Via.refl F_w_count dsa_21 rfl ?_
  refine r_iadd C 25 dsa_24 rfl ?_
  show Run _ _ _ _ _ _ _ _ 25 #[.val (.ref w), .val (.long x), .second, .val (.long y), .second, .unset, .unset, .unset, .unset, .unset] [(.int (3 : Int32))]
  refine r_aloadN C 26 dsa_25 rfl rfl rfl ?_
  refine r_getfield C 29 (host := "") (Or.inl (hw _ (List.mem_of_getElem? (i := 13) rfl))) Via.refl F_w_times dsa_26 rfl ?_
  refine r_arraylength C 30 V_t dsa_29 rfl ?_
  refine r_irem C 31 dsa_30 rfl (by first | decide | assumption) ?_
  show Run _ _ _ _ _ _ _ _ 31 #[.val (.ref w), .val (.long x), .second, .val (.long y), .second, .unset, .unset, .unset, .unset, .unset] [(.int (3 : Int32))]
  refine r_istore C 33 #[.val (.ref w), .val (.long x), .second, .val (.long y), .second, .val (.int (3 : Int32)), .unset, .unset, .unset, .unset] dsa_31 rfl rfl ?_
  refine r_aloadN C 34 dsa_33 rfl rfl rfl ?_
  refine r_getfield C 37 (host := "") (Or.inl (hw _ (List.mem_of_getElem? (i := 13) rfl))) Via.refl F_w_times dsa_34 rfl ?_
  refine r_iload C 39 dsa_37 rfl rfl ?_
  refine r_lloadN C 40 dsa_39 rfl rfl ?_
  refine r_lastore C 41 V_t ⟨by decide, by decide⟩ (Nat.le_of_ble_eq_true rfl) dsa_40 rfl g_w_times ?_
  intro h1 W1 V1
  replace E_w := E_w.wr W1
  replace F_w_times := Fld.other W1 F_w_times (Or.inl nwt)
  replace F_w_collected := Fld.other W1 F_w_collected (Or.inl nwt)
  replace F_w_oldest := Fld.other W1 F_w_oldest (Or.inl nwt)
  replace F_w_count := Fld.other W1 F_w_count (Or.inl nwt)
  replace V_c := V_c.other W1 (Ne.symm ntc)
  replace Zs := Nat.le_trans Zs (Nat.le_of_eq W1.size.symm)
  replace KP := KP.wr W1 (Or.inl (List.mem_of_getElem? (i := 1) rfl))
  replace V_t : Arv Z h1 w_times kt .long (4 : Int32) [(.long s0), (.long s1), (.long s2), (.long x)] (.long (0 : Int64)) := V1
  refine r_aloadN C 42 dsa_41 rfl rfl rfl ?_
  refine r_getfield C 45 (host := "") (Or.inl (hw _ (List.mem_of_getElem? (i := 15) rfl))) Via.refl F_w_collected dsa_42 rfl ?_
  refine r_iload C 47 dsa_45 rfl rfl ?_
  refine r_lloadN C 48 dsa_47 rfl rfl ?_
  refine r_lastore C 49 V_c ⟨by decide, by decide⟩ (Nat.le_of_ble_eq_true rfl) dsa_48 rfl g_w_collected ?_
  intro h2 W2 V2
  replace E_w := E_w.wr W2
  replace F_w_times := Fld.other W2 F_w_times (Or.inl nwc)
  replace F_w_collected := Fld.other W2 F_w_collected (Or.inl nwc)
  replace F_w_oldest := Fld.other W2 F_w_oldest (Or.inl nwc)
  replace F_w_count := Fld.other W2 F_w_count (Or.inl nwc)
  replace V_t := V_t.other W2 ntc
  replace Zs := Nat.le_trans Zs (Nat.le_of_eq W2.size.symm)
  replace KP := KP.wr W2 (Or.inl (List.mem_of_getElem? (i := 2) rfl))
  replace V_c : Arv Z h2 w_collected kc .long (4 : Int32) [(.long d0), (.long d1), (.long d2), (.long y)] (.long (0 : Int64)) := V2
  refine r_aloadN C 50 dsa_49 rfl rfl rfl ?_
  refine r_dup C 51 dsa_50 rfl rfl ?_
  refine r_getfield C 54 (host := "") (Or.inl (hw _ (List.mem_of_getElem? (i := 22) rfl))) Via.refl F_w_count dsa_51 rfl ?_
  refine r_iconst C 55 (1 : Int32) dsa_54 rfl rfl ?_
  refine r_iadd C 56 dsa_55 rfl ?_
  show Run _ _ _ _ _ _ _ _ 56 #[.val (.ref w), .val (.long x), .second, .val (.long y), .second, .val (.int (3 : Int32)), .unset, .unset, .unset, .unset] [(.int (4 : Int32)), (.ref w)]
  refine r_putfield C 59 (host := "") (Or.inl (hw _ (List.mem_of_getElem? (i := 22) rfl))) Via.refl F_w_count E_w (Or.inl (hw _ (List.mem_of_getElem? (i := 23) rfl))) (hw _ (List.mem_of_getElem? (i := 5) rfl)) (ty := .int) (by decide) rfl rfl dsa_56 rfl g_w ?_
  intro h3 W3
  replace E_w := E_w.wr W3
  replace F_w_times := Fld.other W3 F_w_times (Or.inr (slot_ne (Or.inr (hw _ (List.mem_of_getElem? (i := 14) rfl))) (Or.inl (hw _ (List.mem_of_getElem? (i := 23) rfl))) (by decide) (t := (.array .long)) (t' := .int) (by decide) (by decide)))
  replace F_w_collected := Fld.other W3 F_w_collected (Or.inr (slot_ne (Or.inr (hw _ (List.mem_of_getElem? (i := 16) rfl))) (Or.inl (hw _ (List.mem_of_getElem? (i := 23) rfl))) (by decide) (t := (.array .long)) (t' := .int) (by decide) (by decide)))
  replace F_w_oldest := Fld.other W3 F_w_oldest (Or.inr (slot_ne (Or.inl (hw _ (List.mem_of_getElem? (i := 25) rfl))) (Or.inl (hw _ (List.mem_of_getElem? (i := 23) rfl))) (by decide) (t := .int) (t' := .int) (by decide) (by decide)))
  replace V_t := V_t.other W3 (Ne.symm nwt)
  replace V_c := V_c.other W3 (Ne.symm nwc)
  replace F_w_count := F_w_count.same W3
  replace Zs := Nat.le_trans Zs (Nat.le_of_eq W3.size.symm)
  replace KP := KP.wr W3 (Or.inl (List.mem_of_getElem? (i := 0) rfl))
  refine r_aloadN C 60 dsa_59 rfl rfl rfl ?_
  refine r_getfield C 63 (host := "") (Or.inl (hw _ (List.mem_of_getElem? (i := 22) rfl))) Via.refl F_w_count dsa_60 rfl ?_
  refine r_iconst C 64 (1 : Int32) dsa_63 rfl rfl ?_
  refine r_icmp_le C 100 67 dsa_64 (by decide) (by decide) rfl (fun q => absurd q (by decide)) (fun _ => ?_)
  refine r_lloadN C 68 dsa_67 rfl rfl ?_
  refine r_aloadN C 69 dsa_68 rfl rfl rfl ?_
  refine r_getfield C 72 (host := "") (Or.inl (hw _ (List.mem_of_getElem? (i := 13) rfl))) Via.refl F_w_times dsa_69 rfl ?_
  refine r_aloadN C 73 dsa_72 rfl rfl rfl ?_
  refine r_getfield C 76 (host := "") (Or.inl (hw _ (List.mem_of_getElem? (i := 24) rfl))) Via.refl F_w_oldest dsa_73 rfl ?_
  refine r_iconst C 77 (1 : Int32) dsa_76 rfl rfl ?_
  refine r_iadd C 78 dsa_77 rfl ?_
  show Run _ _ _ _ _ _ _ _ 78 #[.val (.ref w), .val (.long x), .second, .val (.long y), .second, .val (.int (3 : Int32)), .unset, .unset, .unset, .unset] [(.int (1 : Int32)), (.ref w_times), (.long x)]
  refine r_aloadN C 79 dsa_78 rfl rfl rfl ?_
  refine r_getfield C 82 (host := "") (Or.inl (hw _ (List.mem_of_getElem? (i := 13) rfl))) Via.refl F_w_times dsa_79 rfl ?_
  refine r_arraylength C 83 V_t dsa_82 rfl ?_
  refine r_irem C 84 dsa_83 rfl (by first | decide | assumption) ?_
  show Run _ _ _ _ _ _ _ _ 84 #[.val (.ref w), .val (.long x), .second, .val (.long y), .second, .val (.int (3 : Int32)), .unset, .unset, .unset, .unset] [(.int (1 : Int32)), (.ref w_times), (.long x)]
  refine r_laload C 85 (v := (.long s1)) V_t ⟨by decide, by decide⟩ rfl dsa_84 rfl ?_
  refine r_lsub C 86 dsa_85 rfl ?_
  refine r_ldc2_w C 89 dsa_86 rfl (hw _ (List.mem_of_getElem? (i := 26) rfl)) ?_
  refine r_lcmp_lt C 90 100 93 dsa_89 rfl dsa_90 (by decide) (by decide) rfl (fun q => absurd q b1) (fun _ => ?_)
  refine r_aloadN C 94 dsa_93 rfl rfl rfl ?_
  refine r_callP C 97 (y := (⟨"com/example/indenture/indenture/app/HeapWatch", "drop", "()V"⟩ : MethodName)) (a := w) [] [] (rmDr l Z a0 hw w w_times w_collected (0 : Int32) (4 : Int32) kt (4 : Int32) _ h3 n0 Zs ⟨E_w, F_w_times, F_w_collected, F_w_oldest, F_w_count⟩ V_t (by decide) g_w) (hw _ (List.mem_of_getElem? (i := 27) rfl)) (hw _ (List.mem_of_getElem? (i := 28) rfl)) (selPriv (hw _ (List.mem_of_getElem? (i := 5) rfl)) (hw _ (List.mem_of_getElem? (i := 29) rfl)) (hw _ (List.mem_of_getElem? (i := 28) rfl)) (by decide)) (hw _ (List.mem_of_getElem? (i := 29) rfl)) (hw _ (List.mem_of_getElem? (i := 6) rfl)) (hw _ (List.mem_of_getElem? (i := 30) rfl)) E_w.cell (by decide) (lenOf pd___V rfl) rfl rfl (by decide) (Nat.le_of_ble_eq_true rfl) (by decide) (by decide) rfl dsa_94 rfl ?_
  intro v4 h4 q4 z4
  obtain ⟨rfl, K4, hW⟩ := q4
  replace hW : HwW Z h4 w w_times w_collected (1 : Int32) (3 : Int32) := hW
  replace E_w := E_w.keep K4
  replace V_t := V_t.keep K4 (ninS (Ne.symm nwt) nin0)
  replace V_c := V_c.keep K4 (ninS (Ne.symm nwc) nin0)
  replace KP := KP.trans K4 (allS (Or.inl (List.mem_of_getElem? (i := 0) rfl)) all0)
  replace Zs := Nat.le_trans Zs K4.1
  obtain ⟨E_w, F_w_times, F_w_collected, F_w_oldest, F_w_count⟩ := hW
  show Run _ _ _ _ _ _ _ _ 97 #[.val (.ref w), .val (.long x), .second, .val (.long y), .second, .val (.int (3 : Int32)), .unset, .unset, .unset, .unset] []
  refine r_goto C 59 dsa_97 (by decide) (by decide) ?_
  refine r_aloadN C 60 dsa_59 rfl rfl rfl ?_
  refine r_getfield C 63 (host := "") (Or.inl (hw _ (List.mem_of_getElem? (i := 22) rfl))) Via.refl F_w_count dsa_60 rfl ?_
  refine r_iconst C 64 (1 : Int32) dsa_63 rfl rfl ?_
  refine r_icmp_le C 100 67 dsa_64 (by decide) (by decide) rfl (fun q => absurd q (by decide)) (fun _ => ?_)
  refine r_lloadN C 68 dsa_67 rfl rfl ?_
  refine r_aloadN C 69 dsa_68 rfl rfl rfl ?_
  refine r_getfield C 72 (host := "") (Or.inl (hw _ (List.mem_of_getElem? (i := 13) rfl))) Via.refl F_w_times dsa_69 rfl ?_
  refine r_aloadN C 73 dsa_72 rfl rfl rfl ?_
  refine r_getfield C 76 (host := "") (Or.inl (hw _ (List.mem_of_getElem? (i := 24) rfl))) Via.refl F_w_oldest dsa_73 rfl ?_
  refine r_iconst C 77 (1 : Int32) dsa_76 rfl rfl ?_
  refine r_iadd C 78 dsa_77 rfl ?_
  show Run _ _ _ _ _ _ _ _ 78 #[.val (.ref w), .val (.long x), .second, .val (.long y), .second, .val (.int (3 : Int32)), .unset, .unset, .unset, .unset] [(.int (2 : Int32)), (.ref w_times), (.long x)]
  refine r_aloadN C 79 dsa_78 rfl rfl rfl ?_
  refine r_getfield C 82 (host := "") (Or.inl (hw _ (List.mem_of_getElem? (i := 13) rfl))) Via.refl F_w_times dsa_79 rfl ?_
  refine r_arraylength C 83 V_t dsa_82 rfl ?_
  refine r_irem C 84 dsa_83 rfl (by first | decide | assumption) ?_
  show Run _ _ _ _ _ _ _ _ 84 #[.val (.ref w), .val (.long x), .second, .val (.long y), .second, .val (.int (3 : Int32)), .unset, .unset, .unset, .unset] [(.int (2 : Int32)), (.ref w_times), (.long x)]
  refine r_laload C 85 (v := (.long s2)) V_t ⟨by decide, by decide⟩ rfl dsa_84 rfl ?_
  refine r_lsub C 86 dsa_85 rfl ?_
  refine r_ldc2_w C 89 dsa_86 rfl (hw _ (List.mem_of_getElem? (i := 26) rfl)) ?_
  refine r_lcmp_lt C 90 100 93 dsa_89 rfl dsa_90 (by decide) (by decide) rfl (fun _ => ?_) (fun q => absurd b2 q)
  refine r_lloadN C 101 dsa_100 rfl rfl ?_
  refine r_aloadN C 102 dsa_101 rfl rfl rfl ?_
  refine r_getfield C 105 (host := "") (Or.inl (hw _ (List.mem_of_getElem? (i := 13) rfl))) Via.refl F_w_times dsa_102 rfl ?_
  refine r_aloadN C 106 dsa_105 rfl rfl rfl ?_
  refine r_getfield C 109 (host := "") (Or.inl (hw _ (List.mem_of_getElem? (i := 24) rfl))) Via.refl F_w_oldest dsa_106 rfl ?_
  refine r_laload C 110 (v := (.long s1)) V_t ⟨by decide, by decide⟩ rfl dsa_109 rfl ?_
  refine r_lsub C 111 dsa_110 rfl ?_
  refine r_lstore C 113 #[.val (.ref w), .val (.long x), .second, .val (.long y), .second, .val (.int (3 : Int32)), .val (.long (x - s1)), .second, .unset, .unset] dsa_111 rfl rfl ?_
  refine r_lloadN C 114 dsa_113 rfl rfl ?_
  refine r_aloadN C 115 dsa_114 rfl rfl rfl ?_
  refine r_getfield C 118 (host := "") (Or.inl (hw _ (List.mem_of_getElem? (i := 15) rfl))) Via.refl F_w_collected dsa_115 rfl ?_
  refine r_aloadN C 119 dsa_118 rfl rfl rfl ?_
  refine r_getfield C 122 (host := "") (Or.inl (hw _ (List.mem_of_getElem? (i := 24) rfl))) Via.refl F_w_oldest dsa_119 rfl ?_
  refine r_laload C 123 (v := (.long d1)) V_c ⟨by decide, by decide⟩ rfl dsa_122 rfl ?_
  refine r_lsub C 124 dsa_123 rfl ?_
  refine r_lstore C 126 #[.val (.ref w), .val (.long x), .second, .val (.long y), .second, .val (.int (3 : Int32)), .val (.long (x - s1)), .second, .val (.long (y - d1)), .second] dsa_124 rfl rfl ?_
  refine r_lload C 128 dsa_126 rfl rfl ?_
  refine r_ldc2_w C 131 dsa_128 rfl (hw _ (List.mem_of_getElem? (i := 26) rfl)) ?_
  refine r_lcmp_lt C 132 157 135 dsa_131 rfl dsa_132 (by decide) (by decide) rfl ?_ ?_
  · intro q1
    refine r_iconst C 158 (0 : Int32) dsa_157 rfl rfl ?_
    exact r_nreturn C (0 : Int32) rfl (t := .boolean) (by simp) rfl dsa_158 (by decide) (by decide) ⟨by rw [sm, if_pos q1], KP, ⟨E_w, F_w_times, F_w_collected, F_w_oldest, F_w_count⟩, V_t, V_c⟩
  · intro q1
    refine r_lload C 137 dsa_135 rfl rfl ?_
    refine r_l2d C 138 dsa_137 rfl ?_
    refine r_ldc2D C 141 dsa_138 rfl (hw _ (List.mem_of_getElem? (i := 31) rfl)) ?_
    refine r_dmul C 142 dsa_141 rfl (own_nn1 _) ?_
    refine r_ldc2D C 145 dsa_142 rfl (hw _ (List.mem_of_getElem? (i := 32) rfl)) ?_
    refine r_lload C 147 dsa_145 rfl rfl ?_
    refine r_l2d C 148 dsa_147 rfl ?_
    refine r_dmul C 149 dsa_148 rfl (own_nn2 _) ?_
    refine r_dcmpl C 150 dsa_149 rfl ?_
    have cw := OwnF.cmp09 hC hC2 (own_ge q1) hN
    refine r_if_lt C 157 153 dsa_150 (by decide) (by decide) rfl ?_ ?_
    · intro q2
      refine r_iconst C 158 (0 : Int32) dsa_157 rfl rfl ?_
      exact r_nreturn C (0 : Int32) rfl (t := .boolean) (by simp) rfl dsa_158 (by decide) (by decide) ⟨by rw [sm, if_neg q1, if_pos (cw.mp q2)], KP, ⟨E_w, F_w_times, F_w_collected, F_w_oldest, F_w_count⟩, V_t, V_c⟩
    · intro q2
      refine r_iconst C 154 (1 : Int32) dsa_153 rfl rfl ?_
      refine r_goto C 158 dsa_154 (by decide) (by decide) ?_
      exact r_nreturn C (1 : Int32) rfl (t := .boolean) (by simp) rfl dsa_158 (by decide) (by decide) ⟨by rw [sm, if_neg q1, if_neg (fun z => q2 (cw.mpr z))], KP, ⟨E_w, F_w_times, F_w_collected, F_w_oldest, F_w_count⟩, V_t, V_c⟩
theorem ef_rmSa_4_0_3_1_1 (w : Addr) (x : Int64) (y : Int64) : ∀ mI_, entryFrame mI_ #[(.ref w), (.long x), (.long y)] 10 = mkF mI_ 0 #[.val (.ref w), .val (.long x), .second, .val (.long y), .second, .unset, .unset, .unset, .unset, .unset] [] := fun mI_ => by first | (simp [entryFrame, mkF, argsToLocals, Value.category]; done) | rfl
set_option maxRecDepth 65536 in
set_option maxHeartbeats 40000000 in
theorem rmSa_4_0_3_1_1 (l : Launch) (Z : State) (a0 : Array Value) (hw : ∀ d ∈ tables_1, d.before a0 Z = true) (w : Addr) (x : Int64) (y : Int64) (w_times : Addr) (w_collected : Addr) (kt kc : ClassId) (s0 s1 s2 s3 d0 d1 d2 d3 : Int64) (h0 : Heap) (n0 : Nat) (Zs : n0 ≤ h0.size) (hW : HwW Z h0 w w_times w_collected (0 : Int32) (3 : Int32)) (V_t : Arv Z h0 w_times kt .long (4 : Int32) [(.long s0), (.long s1), (.long s2), (.long s3)] (.long (0 : Int64))) (V_c : Arv Z h0 w_collected kc .long (4 : Int32) [(.long d0), (.long d1), (.long d2), (.long d3)] (.long (0 : Int64))) (ntc : w_times ≠ w_collected) (g_w : n0 ≤ w) (g_w_times : n0 ≤ w_times) (g_w_collected : n0 ≤ w_collected) (b1 : ¬ (x - s1) < 5000000000) (b2 : ¬ (x - s2) < 5000000000) (hN : (x - s2).toInt < 68719476736) (hC : 0 ≤ (y - d2).toInt) (hC2 : (y - d2).toInt < 1000000) :
    Con l Z (⟨"com/example/indenture/indenture/app/HeapWatch", "sample", "(JJ)Z"⟩ : MethodName) prog_1_method_2_code 10 (some .boolean) [] ({ frames := 1, cells := 0, slots := 0, locals := 20 } : Room) n0 #[(.ref w), (.long x), (.long y)] h0 (fun v h => v = some (.int (sm (x - s2) (y - d2))) ∧ Keep h0 h [w, w_times, w_collected] ∧ HwW Z h w w_times w_collected (2 : Int32) (2 : Int32) ∧ Arv Z h w_times kt .long (4 : Int32) [(.long s0), (.long s1), (.long s2), (.long x)] (.long (0 : Int64)) ∧ Arv Z h w_collected kc .long (4 : Int32) [(.long d0), (.long d1), (.long d2), (.long y)] (.long (0 : Int64))) := by
  refine Con.of (plainFor_of_name pn_q0) (ef_rmSa_4_0_3_1_1 w x y) ?_
  intro K C
  replace C : Ok Z "com/example/indenture/indenture/app/HeapWatch" "sample" prog_1_method_2_code 10 (some .boolean) K := C
  have KP := Keep.refl h0 [w, w_times, w_collected]
  obtain ⟨E_w, F_w_times, F_w_collected, F_w_oldest, F_w_count⟩ := hW
  have nwt : w ≠ w_times := exaArvNe E_w (hw _ (List.mem_of_getElem? (i := 5) rfl)) V_t
  have nwc : w ≠ w_collected := exaArvNe E_w (hw _ (List.mem_of_getElem? (i := 5) rfl)) V_c
  refine r_aloadN C 1 dsa_0 rfl rfl rfl ?_
  refine r_getfield C 4 (host := "") (Or.inl (hw _ (List.mem_of_getElem? (i := 22) rfl))) Via.refl F_w_count dsa_1 rfl ?_
  refine r_aloadN C 5 dsa_4 rfl rfl rfl ?_
  refine r_getfield C 8 (host := "") (Or.inl (hw _ (List.mem_of_getElem? (i := 13) rfl))) Via.refl F_w_times dsa_5 rfl ?_
  refine r_arraylength C 9 V_t dsa_8 rfl ?_
  refine r_icmp_ne C 16 12 dsa_9 (by decide) (by decide) rfl (fun _ => ?_) (fun q => absurd q (by decide))
  refine r_aloadN C 17 dsa_16 rfl rfl rfl ?_
  refine r_getfield C 20 (host := "") (Or.inl (hw _ (List.mem_of_getElem? (i := 24) rfl))) Via.refl F_w_oldest dsa_17 rfl ?_
  refine r_aloadN C 21 dsa_20 rfl rfl rfl ?_
  refine r_getfield C 24 (host := "") (Or.inl (hw _ (List.mem_of_getElem? (i := 22) rfl))) Via.refl F_w_count dsa_21 rfl ?_
  refine r_iadd C 25 dsa_24 rfl ?_
  show Run _ _ _ _ _ _ _ _ 25 #[.val (.ref w), .val (.long x), .second, .val (.long y), .second, .unset, .unset, .unset, .unset, .unset] [(.int (3 : Int32))]
  refine r_aloadN C 26 dsa_25 rfl rfl rfl ?_
  refine r_getfield C 29 (host := "") (Or.inl (hw _ (List.mem_of_getElem? (i := 13) rfl))) Via.refl F_w_times dsa_26 rfl ?_
  refine r_arraylength C 30 V_t dsa_29 rfl ?_
  refine r_irem C 31 dsa_30 rfl (by first | decide | assumption) ?_
  show Run _ _ _ _ _ _ _ _ 31 #[.val (.ref w), .val (.long x), .second, .val (.long y), .second, .unset, .unset, .unset, .unset, .unset] [(.int (3 : Int32))]
  refine r_istore C 33 #[.val (.ref w), .val (.long x), .second, .val (.long y), .second, .val (.int (3 : Int32)), .unset, .unset, .unset, .unset] dsa_31 rfl rfl ?_
  refine r_aloadN C 34 dsa_33 rfl rfl rfl ?_
  refine r_getfield C 37 (host := "") (Or.inl (hw _ (List.mem_of_getElem? (i := 13) rfl))) Via.refl F_w_times dsa_34 rfl ?_
  refine r_iload C 39 dsa_37 rfl rfl ?_
  refine r_lloadN C 40 dsa_39 rfl rfl ?_
  refine r_lastore C 41 V_t ⟨by decide, by decide⟩ (Nat.le_of_ble_eq_true rfl) dsa_40 rfl g_w_times ?_
  intro h1 W1 V1
  replace E_w := E_w.wr W1
  replace F_w_times := Fld.other W1 F_w_times (Or.inl nwt)
  replace F_w_collected := Fld.other W1 F_w_collected (Or.inl nwt)
  replace F_w_oldest := Fld.other W1 F_w_oldest (Or.inl nwt)
  replace F_w_count := Fld.other W1 F_w_count (Or.inl nwt)
  replace V_c := V_c.other W1 (Ne.symm ntc)
  replace Zs := Nat.le_trans Zs (Nat.le_of_eq W1.size.symm)
  replace KP := KP.wr W1 (Or.inl (List.mem_of_getElem? (i := 1) rfl))
  replace V_t : Arv Z h1 w_times kt .long (4 : Int32) [(.long s0), (.long s1), (.long s2), (.long x)] (.long (0 : Int64)) := V1
  refine r_aloadN C 42 dsa_41 rfl rfl rfl ?_
  refine r_getfield C 45 (host := "") (Or.inl (hw _ (List.mem_of_getElem? (i := 15) rfl))) Via.refl F_w_collected dsa_42 rfl ?_
  refine r_iload C 47 dsa_45 rfl rfl ?_
  refine r_lloadN C 48 dsa_47 rfl rfl ?_
  refine r_lastore C 49 V_c ⟨by decide, by decide⟩ (Nat.le_of_ble_eq_true rfl) dsa_48 rfl g_w_collected ?_
  intro h2 W2 V2
  replace E_w := E_w.wr W2
  replace F_w_times := Fld.other W2 F_w_times (Or.inl nwc)
  replace F_w_collected := Fld.other W2 F_w_collected (Or.inl nwc)
  replace F_w_oldest := Fld.other W2 F_w_oldest (Or.inl nwc)
  replace F_w_count := Fld.other W2 F_w_count (Or.inl nwc)
  replace V_t := V_t.other W2 ntc
  replace Zs := Nat.le_trans Zs (Nat.le_of_eq W2.size.symm)
  replace KP := KP.wr W2 (Or.inl (List.mem_of_getElem? (i := 2) rfl))
  replace V_c : Arv Z h2 w_collected kc .long (4 : Int32) [(.long d0), (.long d1), (.long d2), (.long y)] (.long (0 : Int64)) := V2
  refine r_aloadN C 50 dsa_49 rfl rfl rfl ?_
  refine r_dup C 51 dsa_50 rfl rfl ?_
  refine r_getfield C 54 (host := "") (Or.inl (hw _ (List.mem_of_getElem? (i := 22) rfl))) Via.refl F_w_count dsa_51 rfl ?_
  refine r_iconst C 55 (1 : Int32) dsa_54 rfl rfl ?_
  refine r_iadd C 56 dsa_55 rfl ?_
  show Run _ _ _ _ _ _ _ _ 56 #[.val (.ref w), .val (.long x), .second, .val (.long y), .second, .val (.int (3 : Int32)), .unset, .unset, .unset, .unset] [(.int (4 : Int32)), (.ref w)]
  refine r_putfield C 59 (host := "") (Or.inl (hw _ (List.mem_of_getElem? (i := 22) rfl))) Via.refl F_w_count E_w (Or.inl (hw _ (List.mem_of_getElem? (i := 23) rfl))) (hw _ (List.mem_of_getElem? (i := 5) rfl)) (ty := .int) (by decide) rfl rfl dsa_56 rfl g_w ?_
  intro h3 W3
  replace E_w := E_w.wr W3
  replace F_w_times := Fld.other W3 F_w_times (Or.inr (slot_ne (Or.inr (hw _ (List.mem_of_getElem? (i := 14) rfl))) (Or.inl (hw _ (List.mem_of_getElem? (i := 23) rfl))) (by decide) (t := (.array .long)) (t' := .int) (by decide) (by decide)))
  replace F_w_collected := Fld.other W3 F_w_collected (Or.inr (slot_ne (Or.inr (hw _ (List.mem_of_getElem? (i := 16) rfl))) (Or.inl (hw _ (List.mem_of_getElem? (i := 23) rfl))) (by decide) (t := (.array .long)) (t' := .int) (by decide) (by decide)))
  replace F_w_oldest := Fld.other W3 F_w_oldest (Or.inr (slot_ne (Or.inl (hw _ (List.mem_of_getElem? (i := 25) rfl))) (Or.inl (hw _ (List.mem_of_getElem? (i := 23) rfl))) (by decide) (t := .int) (t' := .int) (by decide) (by decide)))
  replace V_t := V_t.other W3 (Ne.symm nwt)
  replace V_c := V_c.other W3 (Ne.symm nwc)
  replace F_w_count := F_w_count.same W3
  replace Zs := Nat.le_trans Zs (Nat.le_of_eq W3.size.symm)
  replace KP := KP.wr W3 (Or.inl (List.mem_of_getElem? (i := 0) rfl))
  refine r_aloadN C 60 dsa_59 rfl rfl rfl ?_
  refine r_getfield C 63 (host := "") (Or.inl (hw _ (List.mem_of_getElem? (i := 22) rfl))) Via.refl F_w_count dsa_60 rfl ?_
  refine r_iconst C 64 (1 : Int32) dsa_63 rfl rfl ?_
  refine r_icmp_le C 100 67 dsa_64 (by decide) (by decide) rfl (fun q => absurd q (by decide)) (fun _ => ?_)
  refine r_lloadN C 68 dsa_67 rfl rfl ?_
  refine r_aloadN C 69 dsa_68 rfl rfl rfl ?_
  refine r_getfield C 72 (host := "") (Or.inl (hw _ (List.mem_of_getElem? (i := 13) rfl))) Via.refl F_w_times dsa_69 rfl ?_
  refine r_aloadN C 73 dsa_72 rfl rfl rfl ?_
  refine r_getfield C 76 (host := "") (Or.inl (hw _ (List.mem_of_getElem? (i := 24) rfl))) Via.refl F_w_oldest dsa_73 rfl ?_
  refine r_iconst C 77 (1 : Int32) dsa_76 rfl rfl ?_
  refine r_iadd C 78 dsa_77 rfl ?_
  show Run _ _ _ _ _ _ _ _ 78 #[.val (.ref w), .val (.long x), .second, .val (.long y), .second, .val (.int (3 : Int32)), .unset, .unset, .unset, .unset] [(.int (1 : Int32)), (.ref w_times), (.long x)]
  refine r_aloadN C 79 dsa_78 rfl rfl rfl ?_
  refine r_getfield C 82 (host := "") (Or.inl (hw _ (List.mem_of_getElem? (i := 13) rfl))) Via.refl F_w_times dsa_79 rfl ?_
  refine r_arraylength C 83 V_t dsa_82 rfl ?_
  refine r_irem C 84 dsa_83 rfl (by first | decide | assumption) ?_
  show Run _ _ _ _ _ _ _ _ 84 #[.val (.ref w), .val (.long x), .second, .val (.long y), .second, .val (.int (3 : Int32)), .unset, .unset, .unset, .unset] [(.int (1 : Int32)), (.ref w_times), (.long x)]
  refine r_laload C 85 (v := (.long s1)) V_t ⟨by decide, by decide⟩ rfl dsa_84 rfl ?_
  refine r_lsub C 86 dsa_85 rfl ?_
  refine r_ldc2_w C 89 dsa_86 rfl (hw _ (List.mem_of_getElem? (i := 26) rfl)) ?_
  refine r_lcmp_lt C 90 100 93 dsa_89 rfl dsa_90 (by decide) (by decide) rfl (fun q => absurd q b1) (fun _ => ?_)
  refine r_aloadN C 94 dsa_93 rfl rfl rfl ?_
  refine r_callP C 97 (y := (⟨"com/example/indenture/indenture/app/HeapWatch", "drop", "()V"⟩ : MethodName)) (a := w) [] [] (rmDr l Z a0 hw w w_times w_collected (0 : Int32) (4 : Int32) kt (4 : Int32) _ h3 n0 Zs ⟨E_w, F_w_times, F_w_collected, F_w_oldest, F_w_count⟩ V_t (by decide) g_w) (hw _ (List.mem_of_getElem? (i := 27) rfl)) (hw _ (List.mem_of_getElem? (i := 28) rfl)) (selPriv (hw _ (List.mem_of_getElem? (i := 5) rfl)) (hw _ (List.mem_of_getElem? (i := 29) rfl)) (hw _ (List.mem_of_getElem? (i := 28) rfl)) (by decide)) (hw _ (List.mem_of_getElem? (i := 29) rfl)) (hw _ (List.mem_of_getElem? (i := 6) rfl)) (hw _ (List.mem_of_getElem? (i := 30) rfl)) E_w.cell (by decide) (lenOf pd___V rfl) rfl rfl (by decide) (Nat.le_of_ble_eq_true rfl) (by decide) (by decide) rfl dsa_94 rfl ?_
  intro v4 h4 q4 z4
  obtain ⟨rfl, K4, hW⟩ := q4
  replace hW : HwW Z h4 w w_times w_collected (1 : Int32) (3 : Int32) := hW
  replace E_w := E_w.keep K4
  replace V_t := V_t.keep K4 (ninS (Ne.symm nwt) nin0)
  replace V_c := V_c.keep K4 (ninS (Ne.symm nwc) nin0)
  replace KP := KP.trans K4 (allS (Or.inl (List.mem_of_getElem? (i := 0) rfl)) all0)
  replace Zs := Nat.le_trans Zs K4.1
  obtain ⟨E_w, F_w_times, F_w_collected, F_w_oldest, F_w_count⟩ := hW
  show Run _ _ _ _ _ _ _ _ 97 #[.val (.ref w), .val (.long x), .second, .val (.long y), .second, .val (.int (3 : Int32)), .unset, .unset, .unset, .unset] []
  refine r_goto C 59 dsa_97 (by decide) (by decide) ?_
  refine r_aloadN C 60 dsa_59 rfl rfl rfl ?_
  refine r_getfield C 63 (host := "") (Or.inl (hw _ (List.mem_of_getElem? (i := 22) rfl))) Via.refl F_w_count dsa_60 rfl ?_
  refine r_iconst C 64 (1 : Int32) dsa_63 rfl rfl ?_
  refine r_icmp_le C 100 67 dsa_64 (by decide) (by decide) rfl (fun q => absurd q (by decide)) (fun _ => ?_)
  refine r_lloadN C 68 dsa_67 rfl rfl ?_
  refine r_aloadN C 69 dsa_68 rfl rfl rfl ?_
  refine r_getfield C 72 (host := "") (Or.inl (hw _ (List.mem_of_getElem? (i := 13) rfl))) Via.refl F_w_times dsa_69 rfl ?_
  refine r_aloadN C 73 dsa_72 rfl rfl rfl ?_
  refine r_getfield C 76 (host := "") (Or.inl (hw _ (List.mem_of_getElem? (i := 24) rfl))) Via.refl F_w_oldest dsa_73 rfl ?_
  refine r_iconst C 77 (1 : Int32) dsa_76 rfl rfl ?_
  refine r_iadd C 78 dsa_77 rfl ?_
  show Run _ _ _ _ _ _ _ _ 78 #[.val (.ref w), .val (.long x), .second, .val (.long y), .second, .val (.int (3 : Int32)), .unset, .unset, .unset, .unset] [(.int (2 : Int32)), (.ref w_times), (.long x)]
  refine r_aloadN C 79 dsa_78 rfl rfl rfl ?_
  refine r_getfield C 82 (host := "") (Or.inl (hw _ (List.mem_of_getElem? (i := 13) rfl))) Via.refl F_w_times dsa_79 rfl ?_
  refine r_arraylength C 83 V_t dsa_82 rfl ?_
  refine r_irem C 84 dsa_83 rfl (by first | decide | assumption) ?_
  show Run _ _ _ _ _ _ _ _ 84 #[.val (.ref w), .val (.long x), .second, .val (.long y), .second, .val (.int (3 : Int32)), .unset, .unset, .unset, .unset] [(.int (2 : Int32)), (.ref w_times), (.long x)]
  refine r_laload C 85 (v := (.long s2)) V_t ⟨by decide, by decide⟩ rfl dsa_84 rfl ?_
  refine r_lsub C 86 dsa_85 rfl ?_
  refine r_ldc2_w C 89 dsa_86 rfl (hw _ (List.mem_of_getElem? (i := 26) rfl)) ?_
  refine r_lcmp_lt C 90 100 93 dsa_89 rfl dsa_90 (by decide) (by decide) rfl (fun q => absurd q b2) (fun _ => ?_)
  refine r_aloadN C 94 dsa_93 rfl rfl rfl ?_
  refine r_callP C 97 (y := (⟨"com/example/indenture/indenture/app/HeapWatch", "drop", "()V"⟩ : MethodName)) (a := w) [] [] (rmDr l Z a0 hw w w_times w_collected (1 : Int32) (3 : Int32) kt (4 : Int32) _ h4 n0 Zs ⟨E_w, F_w_times, F_w_collected, F_w_oldest, F_w_count⟩ V_t (by decide) g_w) (hw _ (List.mem_of_getElem? (i := 27) rfl)) (hw _ (List.mem_of_getElem? (i := 28) rfl)) (selPriv (hw _ (List.mem_of_getElem? (i := 5) rfl)) (hw _ (List.mem_of_getElem? (i := 29) rfl)) (hw _ (List.mem_of_getElem? (i := 28) rfl)) (by decide)) (hw _ (List.mem_of_getElem? (i := 29) rfl)) (hw _ (List.mem_of_getElem? (i := 6) rfl)) (hw _ (List.mem_of_getElem? (i := 30) rfl)) E_w.cell (by decide) (lenOf pd___V rfl) rfl rfl (by decide) (Nat.le_of_ble_eq_true rfl) (by decide) (by decide) rfl dsa_94 rfl ?_
  intro v5 h5 q5 z5
  obtain ⟨rfl, K5, hW⟩ := q5
  replace hW : HwW Z h5 w w_times w_collected (2 : Int32) (2 : Int32) := hW
  replace E_w := E_w.keep K5
  replace V_t := V_t.keep K5 (ninS (Ne.symm nwt) nin0)
  replace V_c := V_c.keep K5 (ninS (Ne.symm nwc) nin0)
  replace KP := KP.trans K5 (allS (Or.inl (List.mem_of_getElem? (i := 0) rfl)) all0)
  replace Zs := Nat.le_trans Zs K5.1
  obtain ⟨E_w, F_w_times, F_w_collected, F_w_oldest, F_w_count⟩ := hW
  show Run _ _ _ _ _ _ _ _ 97 #[.val (.ref w), .val (.long x), .second, .val (.long y), .second, .val (.int (3 : Int32)), .unset, .unset, .unset, .unset] []
  refine r_goto C 59 dsa_97 (by decide) (by decide) ?_
  refine r_aloadN C 60 dsa_59 rfl rfl rfl ?_
  refine r_getfield C 63 (host := "") (Or.inl (hw _ (List.mem_of_getElem? (i := 22) rfl))) Via.refl F_w_count dsa_60 rfl ?_
  refine r_iconst C 64 (1 : Int32) dsa_63 rfl rfl ?_
  refine r_icmp_le C 100 67 dsa_64 (by decide) (by decide) rfl (fun q => absurd q (by decide)) (fun _ => ?_)
  refine r_lloadN C 68 dsa_67 rfl rfl ?_
  refine r_aloadN C 69 dsa_68 rfl rfl rfl ?_
  refine r_getfield C 72 (host := "") (Or.inl (hw _ (List.mem_of_getElem? (i := 13) rfl))) Via.refl F_w_times dsa_69 rfl ?_
  refine r_aloadN C 73 dsa_72 rfl rfl rfl ?_
  refine r_getfield C 76 (host := "") (Or.inl (hw _ (List.mem_of_getElem? (i := 24) rfl))) Via.refl F_w_oldest dsa_73 rfl ?_
  refine r_iconst C 77 (1 : Int32) dsa_76 rfl rfl ?_
  refine r_iadd C 78 dsa_77 rfl ?_
  show Run _ _ _ _ _ _ _ _ 78 #[.val (.ref w), .val (.long x), .second, .val (.long y), .second, .val (.int (3 : Int32)), .unset, .unset, .unset, .unset] [(.int (3 : Int32)), (.ref w_times), (.long x)]
  refine r_aloadN C 79 dsa_78 rfl rfl rfl ?_
  refine r_getfield C 82 (host := "") (Or.inl (hw _ (List.mem_of_getElem? (i := 13) rfl))) Via.refl F_w_times dsa_79 rfl ?_
  refine r_arraylength C 83 V_t dsa_82 rfl ?_
  refine r_irem C 84 dsa_83 rfl (by first | decide | assumption) ?_
  show Run _ _ _ _ _ _ _ _ 84 #[.val (.ref w), .val (.long x), .second, .val (.long y), .second, .val (.int (3 : Int32)), .unset, .unset, .unset, .unset] [(.int (3 : Int32)), (.ref w_times), (.long x)]
  refine r_laload C 85 (v := (.long x)) V_t ⟨by decide, by decide⟩ rfl dsa_84 rfl ?_
  refine r_lsub C 86 dsa_85 rfl ?_
  refine r_ldc2_w C 89 dsa_86 rfl (hw _ (List.mem_of_getElem? (i := 26) rfl)) ?_
  refine r_lcmp_lt C 90 100 93 dsa_89 rfl dsa_90 (by decide) (by decide) rfl (fun _ => ?_) (fun q => absurd (own_self x) q)
  refine r_lloadN C 101 dsa_100 rfl rfl ?_
  refine r_aloadN C 102 dsa_101 rfl rfl rfl ?_
  refine r_getfield C 105 (host := "") (Or.inl (hw _ (List.mem_of_getElem? (i := 13) rfl))) Via.refl F_w_times dsa_102 rfl ?_
  refine r_aloadN C 106 dsa_105 rfl rfl rfl ?_
  refine r_getfield C 109 (host := "") (Or.inl (hw _ (List.mem_of_getElem? (i := 24) rfl))) Via.refl F_w_oldest dsa_106 rfl ?_
  refine r_laload C 110 (v := (.long s2)) V_t ⟨by decide, by decide⟩ rfl dsa_109 rfl ?_
  refine r_lsub C 111 dsa_110 rfl ?_
  refine r_lstore C 113 #[.val (.ref w), .val (.long x), .second, .val (.long y), .second, .val (.int (3 : Int32)), .val (.long (x - s2)), .second, .unset, .unset] dsa_111 rfl rfl ?_
  refine r_lloadN C 114 dsa_113 rfl rfl ?_
  refine r_aloadN C 115 dsa_114 rfl rfl rfl ?_
  refine r_getfield C 118 (host := "") (Or.inl (hw _ (List.mem_of_getElem? (i := 15) rfl))) Via.refl F_w_collected dsa_115 rfl ?_
  refine r_aloadN C 119 dsa_118 rfl rfl rfl ?_
  refine r_getfield C 122 (host := "") (Or.inl (hw _ (List.mem_of_getElem? (i := 24) rfl))) Via.refl F_w_oldest dsa_119 rfl ?_
  refine r_laload C 123 (v := (.long d2)) V_c ⟨by decide, by decide⟩ rfl dsa_122 rfl ?_
  refine r_lsub C 124 dsa_123 rfl ?_
  refine r_lstore C 126 #[.val (.ref w), .val (.long x), .second, .val (.long y), .second, .val (.int (3 : Int32)), .val (.long (x - s2)), .second, .val (.long (y - d2)), .second] dsa_124 rfl rfl ?_
  refine r_lload C 128 dsa_126 rfl rfl ?_
  refine r_ldc2_w C 131 dsa_128 rfl (hw _ (List.mem_of_getElem? (i := 26) rfl)) ?_
  refine r_lcmp_lt C 132 157 135 dsa_131 rfl dsa_132 (by decide) (by decide) rfl ?_ ?_
  · intro q1
    refine r_iconst C 158 (0 : Int32) dsa_157 rfl rfl ?_
    exact r_nreturn C (0 : Int32) rfl (t := .boolean) (by simp) rfl dsa_158 (by decide) (by decide) ⟨by rw [sm, if_pos q1], KP, ⟨E_w, F_w_times, F_w_collected, F_w_oldest, F_w_count⟩, V_t, V_c⟩
  · intro q1
    refine r_lload C 137 dsa_135 rfl rfl ?_
    refine r_l2d C 138 dsa_137 rfl ?_
    refine r_ldc2D C 141 dsa_138 rfl (hw _ (List.mem_of_getElem? (i := 31) rfl)) ?_
    refine r_dmul C 142 dsa_141 rfl (own_nn1 _) ?_
    refine r_ldc2D C 145 dsa_142 rfl (hw _ (List.mem_of_getElem? (i := 32) rfl)) ?_
    refine r_lload C 147 dsa_145 rfl rfl ?_
    refine r_l2d C 148 dsa_147 rfl ?_
    refine r_dmul C 149 dsa_148 rfl (own_nn2 _) ?_
    refine r_dcmpl C 150 dsa_149 rfl ?_
    have cw := OwnF.cmp09 hC hC2 (own_ge q1) hN
    refine r_if_lt C 157 153 dsa_150 (by decide) (by decide) rfl ?_ ?_
    · intro q2
      refine r_iconst C 158 (0 : Int32) dsa_157 rfl rfl ?_
      exact r_nreturn C (0 : Int32) rfl (t := .boolean) (by simp) rfl dsa_158 (by decide) (by decide) ⟨by rw [sm, if_neg q1, if_pos (cw.mp q2)], KP, ⟨E_w, F_w_times, F_w_collected, F_w_oldest, F_w_count⟩, V_t, V_c⟩
    · intro q2
      refine r_iconst C 154 (1 : Int32) dsa_153 rfl rfl ?_
      refine r_goto C 158 dsa_154 (by decide) (by decide) ?_
      exact r_nreturn C (1 : Int32) rfl (t := .boolean) (by simp) rfl dsa_158 (by decide) (by decide) ⟨by rw [sm, if_neg q1, if_neg (fun z => q2 (cw.mpr z))], KP, ⟨E_w, F_w_times, F_w_collected, F_w_oldest, F_w_count⟩, V_t, V_c⟩
theorem ef_rmJg10 (ta : Addr) (ca : Addr) (cap : Int32) : ∀ mI_, entryFrame mI_ #[(.ref ta), (.ref ca), (.int (1 : Int32)), (.int (0 : Int32)), (.int cap)] 5 = mkF mI_ 0 #[.val (.ref ta), .val (.ref ca), .val (.int (1 : Int32)), .val (.int (0 : Int32)), .val (.int cap)] [] := fun mI_ => by first | (simp [entryFrame, mkF, argsToLocals, Value.category]; done) | rfl
set_option maxRecDepth 65536 in
set_option maxHeartbeats 40000000 in
theorem rmJg10 (l : Launch) (Z : State) (a0 : Array Value) (hw : ∀ d ∈ tables_1, d.before a0 Z = true) (ta : Addr) (ca : Addr) (cap : Int32) (kt kc : ClassId) (t0 t1 t2 t3 c0 c1 c2 c3 : Int64) (h0 : Heap) (n0 : Nat) (Zs : n0 ≤ h0.size) (V_t : Arv Z h0 ta kt .long (4 : Int32) [(.long t0), (.long t1), (.long t2), (.long t3)] (.long (0 : Int64))) (V_c : Arv Z h0 ca kc .long (4 : Int32) [(.long c0), (.long c1), (.long c2), (.long c3)] (.long (0 : Int64))) :
    Con l Z (⟨"com/example/indenture/indenture/app/HeapWatchSamplePinLaw", "judge", "([J[JIII)Z"⟩ : MethodName) method_4_code 5 (some .boolean) [] ({ frames := 0, cells := 0, slots := 0, locals := 0 } : Room) n0 #[(.ref ta), (.ref ca), (.int (1 : Int32)), (.int (0 : Int32)), (.int cap)] h0 (fun v h => h0 = h ∧ v = some (.int (jg cap (1 : Int32) (c1 - c0) (t1 - t0)))) := by
  refine Con.of (plainFor_of_name pn_q1) (ef_rmJg10 ta ca cap) ?_
  intro K C
  replace C : Ok Z "com/example/indenture/indenture/app/HeapWatchSamplePinLaw" "judge" method_4_code 5 (some .boolean) K := C
  refine r_iloadN C 1 djg_0 rfl rfl ?_
  refine r_iloadN C 2 djg_1 rfl rfl ?_
  refine r_isub C 3 djg_2 rfl ?_
  show Run _ _ _ _ _ _ _ _ 3 #[.val (.ref ta), .val (.ref ca), .val (.int (1 : Int32)), .val (.int (0 : Int32)), .val (.int cap)] [(.int (1 : Int32))]
  refine r_iload C 5 djg_3 rfl rfl ?_
  refine r_iconst C 6 (1 : Int32) djg_5 rfl rfl ?_
  refine r_isub C 7 djg_6 rfl ?_
  refine r_icmp_gt C 40 10 djg_7 (by decide) (by decide) rfl ?_ ?_
  · intro q1
    refine r_iconst C 41 (0 : Int32) djg_40 rfl rfl ?_
    exact r_nreturn C (0 : Int32) rfl (t := .boolean) (by simp) rfl djg_41 (by decide) (by decide) ⟨rfl, by rw [jg, if_pos q1]⟩
  · intro q1
    refine r_ldc2_w C 13 djg_10 rfl (hw _ (List.mem_of_getElem? (i := 41) rfl)) ?_
    refine r_aloadN C 14 djg_13 rfl rfl rfl ?_
    refine r_iloadN C 15 djg_14 rfl rfl ?_
    refine r_laload C 16 (v := (.long c1)) V_c ⟨by decide, by decide⟩ rfl djg_15 rfl ?_
    refine r_aloadN C 17 djg_16 rfl rfl rfl ?_
    refine r_iloadN C 18 djg_17 rfl rfl ?_
    refine r_laload C 19 (v := (.long c0)) V_c ⟨by decide, by decide⟩ rfl djg_18 rfl ?_
    refine r_lsub C 20 djg_19 rfl ?_
    refine r_lmul C 21 djg_20 rfl ?_
    refine r_ldc2_w C 24 djg_21 rfl (hw _ (List.mem_of_getElem? (i := 42) rfl)) ?_
    refine r_aloadN C 25 djg_24 rfl rfl rfl ?_
    refine r_iloadN C 26 djg_25 rfl rfl ?_
    refine r_laload C 27 (v := (.long t1)) V_t ⟨by decide, by decide⟩ rfl djg_26 rfl ?_
    refine r_aloadN C 28 djg_27 rfl rfl rfl ?_
    refine r_iloadN C 29 djg_28 rfl rfl ?_
    refine r_laload C 30 (v := (.long t0)) V_t ⟨by decide, by decide⟩ rfl djg_29 rfl ?_
    refine r_lsub C 31 djg_30 rfl ?_
    refine r_lmul C 32 djg_31 rfl ?_
    refine r_lcmp_lt C 33 40 36 djg_32 rfl djg_33 (by decide) (by decide) rfl ?_ ?_
    · intro q2
      refine r_iconst C 41 (0 : Int32) djg_40 rfl rfl ?_
      exact r_nreturn C (0 : Int32) rfl (t := .boolean) (by simp) rfl djg_41 (by decide) (by decide) ⟨rfl, by rw [jg, if_neg q1, if_pos q2]⟩
    · intro q2
      refine r_iconst C 37 (1 : Int32) djg_36 rfl rfl ?_
      refine r_goto C 41 djg_37 (by decide) (by decide) ?_
      exact r_nreturn C (1 : Int32) rfl (t := .boolean) (by simp) rfl djg_41 (by decide) (by decide) ⟨rfl, by rw [jg, if_neg q1, if_neg q2]⟩
theorem ef_rmJg20 (ta : Addr) (ca : Addr) (cap : Int32) : ∀ mI_, entryFrame mI_ #[(.ref ta), (.ref ca), (.int (2 : Int32)), (.int (0 : Int32)), (.int cap)] 5 = mkF mI_ 0 #[.val (.ref ta), .val (.ref ca), .val (.int (2 : Int32)), .val (.int (0 : Int32)), .val (.int cap)] [] := fun mI_ => by first | (simp [entryFrame, mkF, argsToLocals, Value.category]; done) | rfl
set_option maxRecDepth 65536 in
set_option maxHeartbeats 40000000 in
theorem rmJg20 (l : Launch) (Z : State) (a0 : Array Value) (hw : ∀ d ∈ tables_1, d.before a0 Z = true) (ta : Addr) (ca : Addr) (cap : Int32) (kt kc : ClassId) (t0 t1 t2 t3 c0 c1 c2 c3 : Int64) (h0 : Heap) (n0 : Nat) (Zs : n0 ≤ h0.size) (V_t : Arv Z h0 ta kt .long (4 : Int32) [(.long t0), (.long t1), (.long t2), (.long t3)] (.long (0 : Int64))) (V_c : Arv Z h0 ca kc .long (4 : Int32) [(.long c0), (.long c1), (.long c2), (.long c3)] (.long (0 : Int64))) :
    Con l Z (⟨"com/example/indenture/indenture/app/HeapWatchSamplePinLaw", "judge", "([J[JIII)Z"⟩ : MethodName) method_4_code 5 (some .boolean) [] ({ frames := 0, cells := 0, slots := 0, locals := 0 } : Room) n0 #[(.ref ta), (.ref ca), (.int (2 : Int32)), (.int (0 : Int32)), (.int cap)] h0 (fun v h => h0 = h ∧ v = some (.int (jg cap (2 : Int32) (c2 - c0) (t2 - t0)))) := by
  refine Con.of (plainFor_of_name pn_q1) (ef_rmJg20 ta ca cap) ?_
  intro K C
  replace C : Ok Z "com/example/indenture/indenture/app/HeapWatchSamplePinLaw" "judge" method_4_code 5 (some .boolean) K := C
  refine r_iloadN C 1 djg_0 rfl rfl ?_
  refine r_iloadN C 2 djg_1 rfl rfl ?_
  refine r_isub C 3 djg_2 rfl ?_
  show Run _ _ _ _ _ _ _ _ 3 #[.val (.ref ta), .val (.ref ca), .val (.int (2 : Int32)), .val (.int (0 : Int32)), .val (.int cap)] [(.int (2 : Int32))]
  refine r_iload C 5 djg_3 rfl rfl ?_
  refine r_iconst C 6 (1 : Int32) djg_5 rfl rfl ?_
  refine r_isub C 7 djg_6 rfl ?_
  refine r_icmp_gt C 40 10 djg_7 (by decide) (by decide) rfl ?_ ?_
  · intro q1
    refine r_iconst C 41 (0 : Int32) djg_40 rfl rfl ?_
    exact r_nreturn C (0 : Int32) rfl (t := .boolean) (by simp) rfl djg_41 (by decide) (by decide) ⟨rfl, by rw [jg, if_pos q1]⟩
  · intro q1
    refine r_ldc2_w C 13 djg_10 rfl (hw _ (List.mem_of_getElem? (i := 41) rfl)) ?_
    refine r_aloadN C 14 djg_13 rfl rfl rfl ?_
    refine r_iloadN C 15 djg_14 rfl rfl ?_
    refine r_laload C 16 (v := (.long c2)) V_c ⟨by decide, by decide⟩ rfl djg_15 rfl ?_
    refine r_aloadN C 17 djg_16 rfl rfl rfl ?_
    refine r_iloadN C 18 djg_17 rfl rfl ?_
    refine r_laload C 19 (v := (.long c0)) V_c ⟨by decide, by decide⟩ rfl djg_18 rfl ?_
    refine r_lsub C 20 djg_19 rfl ?_
    refine r_lmul C 21 djg_20 rfl ?_
    refine r_ldc2_w C 24 djg_21 rfl (hw _ (List.mem_of_getElem? (i := 42) rfl)) ?_
    refine r_aloadN C 25 djg_24 rfl rfl rfl ?_
    refine r_iloadN C 26 djg_25 rfl rfl ?_
    refine r_laload C 27 (v := (.long t2)) V_t ⟨by decide, by decide⟩ rfl djg_26 rfl ?_
    refine r_aloadN C 28 djg_27 rfl rfl rfl ?_
    refine r_iloadN C 29 djg_28 rfl rfl ?_
    refine r_laload C 30 (v := (.long t0)) V_t ⟨by decide, by decide⟩ rfl djg_29 rfl ?_
    refine r_lsub C 31 djg_30 rfl ?_
    refine r_lmul C 32 djg_31 rfl ?_
    refine r_lcmp_lt C 33 40 36 djg_32 rfl djg_33 (by decide) (by decide) rfl ?_ ?_
    · intro q2
      refine r_iconst C 41 (0 : Int32) djg_40 rfl rfl ?_
      exact r_nreturn C (0 : Int32) rfl (t := .boolean) (by simp) rfl djg_41 (by decide) (by decide) ⟨rfl, by rw [jg, if_neg q1, if_pos q2]⟩
    · intro q2
      refine r_iconst C 37 (1 : Int32) djg_36 rfl rfl ?_
      refine r_goto C 41 djg_37 (by decide) (by decide) ?_
      exact r_nreturn C (1 : Int32) rfl (t := .boolean) (by simp) rfl djg_41 (by decide) (by decide) ⟨rfl, by rw [jg, if_neg q1, if_neg q2]⟩
theorem ef_rmJg21 (ta : Addr) (ca : Addr) (cap : Int32) : ∀ mI_, entryFrame mI_ #[(.ref ta), (.ref ca), (.int (2 : Int32)), (.int (1 : Int32)), (.int cap)] 5 = mkF mI_ 0 #[.val (.ref ta), .val (.ref ca), .val (.int (2 : Int32)), .val (.int (1 : Int32)), .val (.int cap)] [] := fun mI_ => by first | (simp [entryFrame, mkF, argsToLocals, Value.category]; done) | rfl
set_option maxRecDepth 65536 in
set_option maxHeartbeats 40000000 in
theorem rmJg21 (l : Launch) (Z : State) (a0 : Array Value) (hw : ∀ d ∈ tables_1, d.before a0 Z = true) (ta : Addr) (ca : Addr) (cap : Int32) (kt kc : ClassId) (t0 t1 t2 t3 c0 c1 c2 c3 : Int64) (h0 : Heap) (n0 : Nat) (Zs : n0 ≤ h0.size) (V_t : Arv Z h0 ta kt .long (4 : Int32) [(.long t0), (.long t1), (.long t2), (.long t3)] (.long (0 : Int64))) (V_c : Arv Z h0 ca kc .long (4 : Int32) [(.long c0), (.long c1), (.long c2), (.long c3)] (.long (0 : Int64))) :
    Con l Z (⟨"com/example/indenture/indenture/app/HeapWatchSamplePinLaw", "judge", "([J[JIII)Z"⟩ : MethodName) method_4_code 5 (some .boolean) [] ({ frames := 0, cells := 0, slots := 0, locals := 0 } : Room) n0 #[(.ref ta), (.ref ca), (.int (2 : Int32)), (.int (1 : Int32)), (.int cap)] h0 (fun v h => h0 = h ∧ v = some (.int (jg cap (1 : Int32) (c2 - c1) (t2 - t1)))) := by
  refine Con.of (plainFor_of_name pn_q1) (ef_rmJg21 ta ca cap) ?_
  intro K C
  replace C : Ok Z "com/example/indenture/indenture/app/HeapWatchSamplePinLaw" "judge" method_4_code 5 (some .boolean) K := C
  refine r_iloadN C 1 djg_0 rfl rfl ?_
  refine r_iloadN C 2 djg_1 rfl rfl ?_
  refine r_isub C 3 djg_2 rfl ?_
  show Run _ _ _ _ _ _ _ _ 3 #[.val (.ref ta), .val (.ref ca), .val (.int (2 : Int32)), .val (.int (1 : Int32)), .val (.int cap)] [(.int (1 : Int32))]
  refine r_iload C 5 djg_3 rfl rfl ?_
  refine r_iconst C 6 (1 : Int32) djg_5 rfl rfl ?_
  refine r_isub C 7 djg_6 rfl ?_
  refine r_icmp_gt C 40 10 djg_7 (by decide) (by decide) rfl ?_ ?_
  · intro q1
    refine r_iconst C 41 (0 : Int32) djg_40 rfl rfl ?_
    exact r_nreturn C (0 : Int32) rfl (t := .boolean) (by simp) rfl djg_41 (by decide) (by decide) ⟨rfl, by rw [jg, if_pos q1]⟩
  · intro q1
    refine r_ldc2_w C 13 djg_10 rfl (hw _ (List.mem_of_getElem? (i := 41) rfl)) ?_
    refine r_aloadN C 14 djg_13 rfl rfl rfl ?_
    refine r_iloadN C 15 djg_14 rfl rfl ?_
    refine r_laload C 16 (v := (.long c2)) V_c ⟨by decide, by decide⟩ rfl djg_15 rfl ?_
    refine r_aloadN C 17 djg_16 rfl rfl rfl ?_
    refine r_iloadN C 18 djg_17 rfl rfl ?_
    refine r_laload C 19 (v := (.long c1)) V_c ⟨by decide, by decide⟩ rfl djg_18 rfl ?_
    refine r_lsub C 20 djg_19 rfl ?_
    refine r_lmul C 21 djg_20 rfl ?_
    refine r_ldc2_w C 24 djg_21 rfl (hw _ (List.mem_of_getElem? (i := 42) rfl)) ?_
    refine r_aloadN C 25 djg_24 rfl rfl rfl ?_
    refine r_iloadN C 26 djg_25 rfl rfl ?_
    refine r_laload C 27 (v := (.long t2)) V_t ⟨by decide, by decide⟩ rfl djg_26 rfl ?_
    refine r_aloadN C 28 djg_27 rfl rfl rfl ?_
    refine r_iloadN C 29 djg_28 rfl rfl ?_
    refine r_laload C 30 (v := (.long t1)) V_t ⟨by decide, by decide⟩ rfl djg_29 rfl ?_
    refine r_lsub C 31 djg_30 rfl ?_
    refine r_lmul C 32 djg_31 rfl ?_
    refine r_lcmp_lt C 33 40 36 djg_32 rfl djg_33 (by decide) (by decide) rfl ?_ ?_
    · intro q2
      refine r_iconst C 41 (0 : Int32) djg_40 rfl rfl ?_
      exact r_nreturn C (0 : Int32) rfl (t := .boolean) (by simp) rfl djg_41 (by decide) (by decide) ⟨rfl, by rw [jg, if_neg q1, if_pos q2]⟩
    · intro q2
      refine r_iconst C 37 (1 : Int32) djg_36 rfl rfl ?_
      refine r_goto C 41 djg_37 (by decide) (by decide) ?_
      exact r_nreturn C (1 : Int32) rfl (t := .boolean) (by simp) rfl djg_41 (by decide) (by decide) ⟨rfl, by rw [jg, if_neg q1, if_neg q2]⟩
theorem ef_rmJg30 (ta : Addr) (ca : Addr) (cap : Int32) : ∀ mI_, entryFrame mI_ #[(.ref ta), (.ref ca), (.int (3 : Int32)), (.int (0 : Int32)), (.int cap)] 5 = mkF mI_ 0 #[.val (.ref ta), .val (.ref ca), .val (.int (3 : Int32)), .val (.int (0 : Int32)), .val (.int cap)] [] := fun mI_ => by first | (simp [entryFrame, mkF, argsToLocals, Value.category]; done) | rfl
set_option maxRecDepth 65536 in
set_option maxHeartbeats 40000000 in
theorem rmJg30 (l : Launch) (Z : State) (a0 : Array Value) (hw : ∀ d ∈ tables_1, d.before a0 Z = true) (ta : Addr) (ca : Addr) (cap : Int32) (kt kc : ClassId) (t0 t1 t2 t3 c0 c1 c2 c3 : Int64) (h0 : Heap) (n0 : Nat) (Zs : n0 ≤ h0.size) (V_t : Arv Z h0 ta kt .long (4 : Int32) [(.long t0), (.long t1), (.long t2), (.long t3)] (.long (0 : Int64))) (V_c : Arv Z h0 ca kc .long (4 : Int32) [(.long c0), (.long c1), (.long c2), (.long c3)] (.long (0 : Int64))) :
    Con l Z (⟨"com/example/indenture/indenture/app/HeapWatchSamplePinLaw", "judge", "([J[JIII)Z"⟩ : MethodName) method_4_code 5 (some .boolean) [] ({ frames := 0, cells := 0, slots := 0, locals := 0 } : Room) n0 #[(.ref ta), (.ref ca), (.int (3 : Int32)), (.int (0 : Int32)), (.int cap)] h0 (fun v h => h0 = h ∧ v = some (.int (jg cap (3 : Int32) (c3 - c0) (t3 - t0)))) := by
  refine Con.of (plainFor_of_name pn_q1) (ef_rmJg30 ta ca cap) ?_
  intro K C
  replace C : Ok Z "com/example/indenture/indenture/app/HeapWatchSamplePinLaw" "judge" method_4_code 5 (some .boolean) K := C
  refine r_iloadN C 1 djg_0 rfl rfl ?_
  refine r_iloadN C 2 djg_1 rfl rfl ?_
  refine r_isub C 3 djg_2 rfl ?_
  show Run _ _ _ _ _ _ _ _ 3 #[.val (.ref ta), .val (.ref ca), .val (.int (3 : Int32)), .val (.int (0 : Int32)), .val (.int cap)] [(.int (3 : Int32))]
  refine r_iload C 5 djg_3 rfl rfl ?_
  refine r_iconst C 6 (1 : Int32) djg_5 rfl rfl ?_
  refine r_isub C 7 djg_6 rfl ?_
  refine r_icmp_gt C 40 10 djg_7 (by decide) (by decide) rfl ?_ ?_
  · intro q1
    refine r_iconst C 41 (0 : Int32) djg_40 rfl rfl ?_
    exact r_nreturn C (0 : Int32) rfl (t := .boolean) (by simp) rfl djg_41 (by decide) (by decide) ⟨rfl, by rw [jg, if_pos q1]⟩
  · intro q1
    refine r_ldc2_w C 13 djg_10 rfl (hw _ (List.mem_of_getElem? (i := 41) rfl)) ?_
    refine r_aloadN C 14 djg_13 rfl rfl rfl ?_
    refine r_iloadN C 15 djg_14 rfl rfl ?_
    refine r_laload C 16 (v := (.long c3)) V_c ⟨by decide, by decide⟩ rfl djg_15 rfl ?_
    refine r_aloadN C 17 djg_16 rfl rfl rfl ?_
    refine r_iloadN C 18 djg_17 rfl rfl ?_
    refine r_laload C 19 (v := (.long c0)) V_c ⟨by decide, by decide⟩ rfl djg_18 rfl ?_
    refine r_lsub C 20 djg_19 rfl ?_
    refine r_lmul C 21 djg_20 rfl ?_
    refine r_ldc2_w C 24 djg_21 rfl (hw _ (List.mem_of_getElem? (i := 42) rfl)) ?_
    refine r_aloadN C 25 djg_24 rfl rfl rfl ?_
    refine r_iloadN C 26 djg_25 rfl rfl ?_
    refine r_laload C 27 (v := (.long t3)) V_t ⟨by decide, by decide⟩ rfl djg_26 rfl ?_
    refine r_aloadN C 28 djg_27 rfl rfl rfl ?_
    refine r_iloadN C 29 djg_28 rfl rfl ?_
    refine r_laload C 30 (v := (.long t0)) V_t ⟨by decide, by decide⟩ rfl djg_29 rfl ?_
    refine r_lsub C 31 djg_30 rfl ?_
    refine r_lmul C 32 djg_31 rfl ?_
    refine r_lcmp_lt C 33 40 36 djg_32 rfl djg_33 (by decide) (by decide) rfl ?_ ?_
    · intro q2
      refine r_iconst C 41 (0 : Int32) djg_40 rfl rfl ?_
      exact r_nreturn C (0 : Int32) rfl (t := .boolean) (by simp) rfl djg_41 (by decide) (by decide) ⟨rfl, by rw [jg, if_neg q1, if_pos q2]⟩
    · intro q2
      refine r_iconst C 37 (1 : Int32) djg_36 rfl rfl ?_
      refine r_goto C 41 djg_37 (by decide) (by decide) ?_
      exact r_nreturn C (1 : Int32) rfl (t := .boolean) (by simp) rfl djg_41 (by decide) (by decide) ⟨rfl, by rw [jg, if_neg q1, if_neg q2]⟩
theorem ef_rmJg31 (ta : Addr) (ca : Addr) (cap : Int32) : ∀ mI_, entryFrame mI_ #[(.ref ta), (.ref ca), (.int (3 : Int32)), (.int (1 : Int32)), (.int cap)] 5 = mkF mI_ 0 #[.val (.ref ta), .val (.ref ca), .val (.int (3 : Int32)), .val (.int (1 : Int32)), .val (.int cap)] [] := fun mI_ => by first | (simp [entryFrame, mkF, argsToLocals, Value.category]; done) | rfl
set_option maxRecDepth 65536 in
set_option maxHeartbeats 40000000 in
theorem rmJg31 (l : Launch) (Z : State) (a0 : Array Value) (hw : ∀ d ∈ tables_1, d.before a0 Z = true) (ta : Addr) (ca : Addr) (cap : Int32) (kt kc : ClassId) (t0 t1 t2 t3 c0 c1 c2 c3 : Int64) (h0 : Heap) (n0 : Nat) (Zs : n0 ≤ h0.size) (V_t : Arv Z h0 ta kt .long (4 : Int32) [(.long t0), (.long t1), (.long t2), (.long t3)] (.long (0 : Int64))) (V_c : Arv Z h0 ca kc .long (4 : Int32) [(.long c0), (.long c1), (.long c2), (.long c3)] (.long (0 : Int64))) :
    Con l Z (⟨"com/example/indenture/indenture/app/HeapWatchSamplePinLaw", "judge", "([J[JIII)Z"⟩ : MethodName) method_4_code 5 (some .boolean) [] ({ frames := 0, cells := 0, slots := 0, locals := 0 } : Room) n0 #[(.ref ta), (.ref ca), (.int (3 : Int32)), (.int (1 : Int32)), (.int cap)] h0 (fun v h => h0 = h ∧ v = some (.int (jg cap (2 : Int32) (c3 - c1) (t3 - t1)))) := by
  refine Con.of (plainFor_of_name pn_q1) (ef_rmJg31 ta ca cap) ?_
  intro K C
  replace C : Ok Z "com/example/indenture/indenture/app/HeapWatchSamplePinLaw" "judge" method_4_code 5 (some .boolean) K := C
  refine r_iloadN C 1 djg_0 rfl rfl ?_
  refine r_iloadN C 2 djg_1 rfl rfl ?_
  refine r_isub C 3 djg_2 rfl ?_
  show Run _ _ _ _ _ _ _ _ 3 #[.val (.ref ta), .val (.ref ca), .val (.int (3 : Int32)), .val (.int (1 : Int32)), .val (.int cap)] [(.int (2 : Int32))]
  refine r_iload C 5 djg_3 rfl rfl ?_
  refine r_iconst C 6 (1 : Int32) djg_5 rfl rfl ?_
  refine r_isub C 7 djg_6 rfl ?_
  refine r_icmp_gt C 40 10 djg_7 (by decide) (by decide) rfl ?_ ?_
  · intro q1
    refine r_iconst C 41 (0 : Int32) djg_40 rfl rfl ?_
    exact r_nreturn C (0 : Int32) rfl (t := .boolean) (by simp) rfl djg_41 (by decide) (by decide) ⟨rfl, by rw [jg, if_pos q1]⟩
  · intro q1
    refine r_ldc2_w C 13 djg_10 rfl (hw _ (List.mem_of_getElem? (i := 41) rfl)) ?_
    refine r_aloadN C 14 djg_13 rfl rfl rfl ?_
    refine r_iloadN C 15 djg_14 rfl rfl ?_
    refine r_laload C 16 (v := (.long c3)) V_c ⟨by decide, by decide⟩ rfl djg_15 rfl ?_
    refine r_aloadN C 17 djg_16 rfl rfl rfl ?_
    refine r_iloadN C 18 djg_17 rfl rfl ?_
    refine r_laload C 19 (v := (.long c1)) V_c ⟨by decide, by decide⟩ rfl djg_18 rfl ?_
    refine r_lsub C 20 djg_19 rfl ?_
    refine r_lmul C 21 djg_20 rfl ?_
    refine r_ldc2_w C 24 djg_21 rfl (hw _ (List.mem_of_getElem? (i := 42) rfl)) ?_
    refine r_aloadN C 25 djg_24 rfl rfl rfl ?_
    refine r_iloadN C 26 djg_25 rfl rfl ?_
    refine r_laload C 27 (v := (.long t3)) V_t ⟨by decide, by decide⟩ rfl djg_26 rfl ?_
    refine r_aloadN C 28 djg_27 rfl rfl rfl ?_
    refine r_iloadN C 29 djg_28 rfl rfl ?_
    refine r_laload C 30 (v := (.long t1)) V_t ⟨by decide, by decide⟩ rfl djg_29 rfl ?_
    refine r_lsub C 31 djg_30 rfl ?_
    refine r_lmul C 32 djg_31 rfl ?_
    refine r_lcmp_lt C 33 40 36 djg_32 rfl djg_33 (by decide) (by decide) rfl ?_ ?_
    · intro q2
      refine r_iconst C 41 (0 : Int32) djg_40 rfl rfl ?_
      exact r_nreturn C (0 : Int32) rfl (t := .boolean) (by simp) rfl djg_41 (by decide) (by decide) ⟨rfl, by rw [jg, if_neg q1, if_pos q2]⟩
    · intro q2
      refine r_iconst C 37 (1 : Int32) djg_36 rfl rfl ?_
      refine r_goto C 41 djg_37 (by decide) (by decide) ?_
      exact r_nreturn C (1 : Int32) rfl (t := .boolean) (by simp) rfl djg_41 (by decide) (by decide) ⟨rfl, by rw [jg, if_neg q1, if_neg q2]⟩
theorem ef_rmJg32 (ta : Addr) (ca : Addr) (cap : Int32) : ∀ mI_, entryFrame mI_ #[(.ref ta), (.ref ca), (.int (3 : Int32)), (.int (2 : Int32)), (.int cap)] 5 = mkF mI_ 0 #[.val (.ref ta), .val (.ref ca), .val (.int (3 : Int32)), .val (.int (2 : Int32)), .val (.int cap)] [] := fun mI_ => by first | (simp [entryFrame, mkF, argsToLocals, Value.category]; done) | rfl
set_option maxRecDepth 65536 in
set_option maxHeartbeats 40000000 in
theorem rmJg32 (l : Launch) (Z : State) (a0 : Array Value) (hw : ∀ d ∈ tables_1, d.before a0 Z = true) (ta : Addr) (ca : Addr) (cap : Int32) (kt kc : ClassId) (t0 t1 t2 t3 c0 c1 c2 c3 : Int64) (h0 : Heap) (n0 : Nat) (Zs : n0 ≤ h0.size) (V_t : Arv Z h0 ta kt .long (4 : Int32) [(.long t0), (.long t1), (.long t2), (.long t3)] (.long (0 : Int64))) (V_c : Arv Z h0 ca kc .long (4 : Int32) [(.long c0), (.long c1), (.long c2), (.long c3)] (.long (0 : Int64))) :
    Con l Z (⟨"com/example/indenture/indenture/app/HeapWatchSamplePinLaw", "judge", "([J[JIII)Z"⟩ : MethodName) method_4_code 5 (some .boolean) [] ({ frames := 0, cells := 0, slots := 0, locals := 0 } : Room) n0 #[(.ref ta), (.ref ca), (.int (3 : Int32)), (.int (2 : Int32)), (.int cap)] h0 (fun v h => h0 = h ∧ v = some (.int (jg cap (1 : Int32) (c3 - c2) (t3 - t2)))) := by
  refine Con.of (plainFor_of_name pn_q1) (ef_rmJg32 ta ca cap) ?_
  intro K C
  replace C : Ok Z "com/example/indenture/indenture/app/HeapWatchSamplePinLaw" "judge" method_4_code 5 (some .boolean) K := C
  refine r_iloadN C 1 djg_0 rfl rfl ?_
  refine r_iloadN C 2 djg_1 rfl rfl ?_
  refine r_isub C 3 djg_2 rfl ?_
  show Run _ _ _ _ _ _ _ _ 3 #[.val (.ref ta), .val (.ref ca), .val (.int (3 : Int32)), .val (.int (2 : Int32)), .val (.int cap)] [(.int (1 : Int32))]
  refine r_iload C 5 djg_3 rfl rfl ?_
  refine r_iconst C 6 (1 : Int32) djg_5 rfl rfl ?_
  refine r_isub C 7 djg_6 rfl ?_
  refine r_icmp_gt C 40 10 djg_7 (by decide) (by decide) rfl ?_ ?_
  · intro q1
    refine r_iconst C 41 (0 : Int32) djg_40 rfl rfl ?_
    exact r_nreturn C (0 : Int32) rfl (t := .boolean) (by simp) rfl djg_41 (by decide) (by decide) ⟨rfl, by rw [jg, if_pos q1]⟩
  · intro q1
    refine r_ldc2_w C 13 djg_10 rfl (hw _ (List.mem_of_getElem? (i := 41) rfl)) ?_
    refine r_aloadN C 14 djg_13 rfl rfl rfl ?_
    refine r_iloadN C 15 djg_14 rfl rfl ?_
    refine r_laload C 16 (v := (.long c3)) V_c ⟨by decide, by decide⟩ rfl djg_15 rfl ?_
    refine r_aloadN C 17 djg_16 rfl rfl rfl ?_
    refine r_iloadN C 18 djg_17 rfl rfl ?_
    refine r_laload C 19 (v := (.long c2)) V_c ⟨by decide, by decide⟩ rfl djg_18 rfl ?_
    refine r_lsub C 20 djg_19 rfl ?_
    refine r_lmul C 21 djg_20 rfl ?_
    refine r_ldc2_w C 24 djg_21 rfl (hw _ (List.mem_of_getElem? (i := 42) rfl)) ?_
    refine r_aloadN C 25 djg_24 rfl rfl rfl ?_
    refine r_iloadN C 26 djg_25 rfl rfl ?_
    refine r_laload C 27 (v := (.long t3)) V_t ⟨by decide, by decide⟩ rfl djg_26 rfl ?_
    refine r_aloadN C 28 djg_27 rfl rfl rfl ?_
    refine r_iloadN C 29 djg_28 rfl rfl ?_
    refine r_laload C 30 (v := (.long t2)) V_t ⟨by decide, by decide⟩ rfl djg_29 rfl ?_
    refine r_lsub C 31 djg_30 rfl ?_
    refine r_lmul C 32 djg_31 rfl ?_
    refine r_lcmp_lt C 33 40 36 djg_32 rfl djg_33 (by decide) (by decide) rfl ?_ ?_
    · intro q2
      refine r_iconst C 41 (0 : Int32) djg_40 rfl rfl ?_
      exact r_nreturn C (0 : Int32) rfl (t := .boolean) (by simp) rfl djg_41 (by decide) (by decide) ⟨rfl, by rw [jg, if_neg q1, if_pos q2]⟩
    · intro q2
      refine r_iconst C 37 (1 : Int32) djg_36 rfl rfl ?_
      refine r_goto C 41 djg_37 (by decide) (by decide) ?_
      exact r_nreturn C (1 : Int32) rfl (t := .boolean) (by simp) rfl djg_41 (by decide) (by decide) ⟨rfl, by rw [jg, if_neg q1, if_neg q2]⟩
theorem ef_rmXp0 (ta : Addr) (ca : Addr) (cap : Int32) : ∀ mI_, entryFrame mI_ #[(.ref ta), (.ref ca), (.int (0 : Int32)), (.int cap)] 4 = mkF mI_ 0 #[.val (.ref ta), .val (.ref ca), .val (.int (0 : Int32)), .val (.int cap)] [] := fun mI_ => by first | (simp [entryFrame, mkF, argsToLocals, Value.category]; done) | rfl
set_option maxRecDepth 65536 in
set_option maxHeartbeats 40000000 in
theorem rmXp0 (l : Launch) (Z : State) (a0 : Array Value) (hw : ∀ d ∈ tables_1, d.before a0 Z = true) (ta : Addr) (ca : Addr) (cap : Int32) (kt kc : ClassId) (t0 t1 t2 t3 c0 c1 c2 c3 : Int64) (h0 : Heap) (n0 : Nat) (Zs : n0 ≤ h0.size) (V_t : Arv Z h0 ta kt .long (4 : Int32) [(.long t0), (.long t1), (.long t2), (.long t3)] (.long (0 : Int64))) (V_c : Arv Z h0 ca kc .long (4 : Int32) [(.long c0), (.long c1), (.long c2), (.long c3)] (.long (0 : Int64))) :
    Con l Z (⟨"com/example/indenture/indenture/app/HeapWatchSamplePinLaw", "expect", "([J[JII)Z"⟩ : MethodName) method_3_code 4 (some .boolean) [] ({ frames := 1, cells := 0, slots := 0, locals := 20 } : Room) n0 #[(.ref ta), (.ref ca), (.int (0 : Int32)), (.int cap)] h0 (fun v h => h0 = h ∧ v = some (.int (0 : Int32))) := by
  refine Con.of (plainFor_of_name pn_q1) (ef_rmXp0 ta ca cap) ?_
  intro K C
  replace C : Ok Z "com/example/indenture/indenture/app/HeapWatchSamplePinLaw" "expect" method_3_code 4 (some .boolean) K := C
  refine r_iloadN C 1 dxp_0 rfl rfl ?_
  refine r_iconst C 2 (1 : Int32) dxp_1 rfl rfl ?_
  refine r_icmp_lt C 32 5 dxp_2 (by decide) (by decide) rfl (fun _ => ?_) (fun q => absurd q (by decide))
  refine r_iloadN C 33 dxp_32 rfl rfl ?_
  refine r_iconst C 34 (2 : Int32) dxp_33 rfl rfl ?_
  refine r_icmp_lt C 64 37 dxp_34 (by decide) (by decide) rfl (fun _ => ?_) (fun q => absurd q (by decide))
  refine r_iloadN C 65 dxp_64 rfl rfl ?_
  refine r_iconst C 66 (3 : Int32) dxp_65 rfl rfl ?_
  refine r_icmp_lt C 96 69 dxp_66 (by decide) (by decide) rfl (fun _ => ?_) (fun q => absurd q (by decide))
  refine r_iconst C 97 (0 : Int32) dxp_96 rfl rfl ?_
  exact r_nreturn C (0 : Int32) rfl (t := .boolean) (by simp) rfl dxp_97 (by decide) (by decide) ⟨rfl, rfl⟩
theorem ef_rmXp1 (ta : Addr) (ca : Addr) (cap : Int32) : ∀ mI_, entryFrame mI_ #[(.ref ta), (.ref ca), (.int (1 : Int32)), (.int cap)] 4 = mkF mI_ 0 #[.val (.ref ta), .val (.ref ca), .val (.int (1 : Int32)), .val (.int cap)] [] := fun mI_ => by first | (simp [entryFrame, mkF, argsToLocals, Value.category]; done) | rfl
set_option maxRecDepth 65536 in
set_option maxHeartbeats 40000000 in
theorem rmXp1 (l : Launch) (Z : State) (a0 : Array Value) (hw : ∀ d ∈ tables_1, d.before a0 Z = true) (ta : Addr) (ca : Addr) (cap : Int32) (kt kc : ClassId) (t0 t1 t2 t3 c0 c1 c2 c3 : Int64) (h0 : Heap) (n0 : Nat) (Zs : n0 ≤ h0.size) (V_t : Arv Z h0 ta kt .long (4 : Int32) [(.long t0), (.long t1), (.long t2), (.long t3)] (.long (0 : Int64))) (V_c : Arv Z h0 ca kc .long (4 : Int32) [(.long c0), (.long c1), (.long c2), (.long c3)] (.long (0 : Int64))) :
    Con l Z (⟨"com/example/indenture/indenture/app/HeapWatchSamplePinLaw", "expect", "([J[JII)Z"⟩ : MethodName) method_3_code 4 (some .boolean) [] ({ frames := 1, cells := 0, slots := 0, locals := 20 } : Room) n0 #[(.ref ta), (.ref ca), (.int (1 : Int32)), (.int cap)] h0 (fun v h => h0 = h ∧ v = some (.int (ex1 cap t0 t1 t2 t3 c0 c1 c2 c3))) := by
  refine Con.of (plainFor_of_name pn_q1) (ef_rmXp1 ta ca cap) ?_
  intro K C
  replace C : Ok Z "com/example/indenture/indenture/app/HeapWatchSamplePinLaw" "expect" method_3_code 4 (some .boolean) K := C
  refine r_iloadN C 1 dxp_0 rfl rfl ?_
  refine r_iconst C 2 (1 : Int32) dxp_1 rfl rfl ?_
  refine r_icmp_lt C 32 5 dxp_2 (by decide) (by decide) rfl (fun q => absurd q (by decide)) (fun _ => ?_)
  refine r_aloadN C 6 dxp_5 rfl rfl rfl ?_
  refine r_iloadN C 7 dxp_6 rfl rfl ?_
  refine r_laload C 8 (v := (.long t1)) V_t ⟨by decide, by decide⟩ rfl dxp_7 rfl ?_
  refine r_aloadN C 9 dxp_8 rfl rfl rfl ?_
  refine r_iloadN C 10 dxp_9 rfl rfl ?_
  refine r_iconst C 11 (1 : Int32) dxp_10 rfl rfl ?_
  refine r_isub C 12 dxp_11 rfl ?_
  show Run _ _ _ _ _ _ _ _ 12 #[.val (.ref ta), .val (.ref ca), .val (.int (1 : Int32)), .val (.int cap)] [(.int (0 : Int32)), (.ref ta), (.long t1)]
  refine r_laload C 13 (v := (.long t0)) V_t ⟨by decide, by decide⟩ rfl dxp_12 rfl ?_
  refine r_lsub C 14 dxp_13 rfl ?_
  refine r_ldc2_w C 17 dxp_14 rfl (hw _ (List.mem_of_getElem? (i := 37) rfl)) ?_
  refine r_lcmp_lt C 18 32 21 dxp_17 rfl dxp_18 (by decide) (by decide) rfl ?_ ?_
  · intro q1
    refine r_iloadN C 33 dxp_32 rfl rfl ?_
    refine r_iconst C 34 (2 : Int32) dxp_33 rfl rfl ?_
    refine r_icmp_lt C 64 37 dxp_34 (by decide) (by decide) rfl (fun _ => ?_) (fun q => absurd q (by decide))
    refine r_iloadN C 65 dxp_64 rfl rfl ?_
    refine r_iconst C 66 (3 : Int32) dxp_65 rfl rfl ?_
    refine r_icmp_lt C 96 69 dxp_66 (by decide) (by decide) rfl (fun _ => ?_) (fun q => absurd q (by decide))
    refine r_iconst C 97 (0 : Int32) dxp_96 rfl rfl ?_
    exact r_nreturn C (0 : Int32) rfl (t := .boolean) (by simp) rfl dxp_97 (by decide) (by decide) ⟨rfl, by rw [ex1, if_pos q1]⟩
  · intro q1
    refine r_aloadN C 22 dxp_21 rfl rfl rfl ?_
    refine r_aloadN C 23 dxp_22 rfl rfl rfl ?_
    refine r_iloadN C 24 dxp_23 rfl rfl ?_
    refine r_iloadN C 25 dxp_24 rfl rfl ?_
    refine r_iconst C 26 (1 : Int32) dxp_25 rfl rfl ?_
    refine r_isub C 27 dxp_26 rfl ?_
    show Run _ _ _ _ _ _ _ _ 27 #[.val (.ref ta), .val (.ref ca), .val (.int (1 : Int32)), .val (.int cap)] [(.int (0 : Int32)), (.int (1 : Int32)), (.ref ca), (.ref ta)]
    refine r_iloadN C 28 dxp_27 rfl rfl ?_
    refine r_callS C 31 (y := (⟨"com/example/indenture/indenture/app/HeapWatchSamplePinLaw", "judge", "([J[JIII)Z"⟩ : MethodName)) (a := 0) [(.ref ta), (.ref ca), (.int (1 : Int32)), (.int (0 : Int32)), (.int cap)] [] (rmJg10 l Z a0 hw ta ca cap kt kc t0 t1 t2 t3 c0 c1 c2 c3 h0 n0 Zs V_t V_c) (hw _ (List.mem_of_getElem? (i := 38) rfl)) (hw _ (List.mem_of_getElem? (i := 39) rfl)) (hw _ (List.mem_of_getElem? (i := 35) rfl)) (hw _ (List.mem_of_getElem? (i := 40) rfl)) (by decide) (lenOf pd___J_JIII_Z rfl) rfl rfl (by decide) (Nat.le_of_ble_eq_true rfl) (by decide) (by decide) rfl dxp_28 rfl ?_
    intro v2 h2 q2 z2
    obtain ⟨rfl, rfl⟩ := q2
    show Run _ _ _ _ _ _ _ _ 31 #[.val (.ref ta), .val (.ref ca), .val (.int (1 : Int32)), .val (.int cap)] [(.int (jg cap (1 : Int32) (c1 - c0) (t1 - t0)))]
    exact r_nreturn C _ rfl (t := .boolean) (by simp) rfl dxp_31 (by decide) (by decide) ⟨rfl, by rw [own_nar, ex1, if_neg q1]⟩
theorem ef_rmXp2 (ta : Addr) (ca : Addr) (cap : Int32) : ∀ mI_, entryFrame mI_ #[(.ref ta), (.ref ca), (.int (2 : Int32)), (.int cap)] 4 = mkF mI_ 0 #[.val (.ref ta), .val (.ref ca), .val (.int (2 : Int32)), .val (.int cap)] [] := fun mI_ => by first | (simp [entryFrame, mkF, argsToLocals, Value.category]; done) | rfl
set_option maxRecDepth 65536 in
set_option maxHeartbeats 40000000 in
theorem rmXp2 (l : Launch) (Z : State) (a0 : Array Value) (hw : ∀ d ∈ tables_1, d.before a0 Z = true) (ta : Addr) (ca : Addr) (cap : Int32) (kt kc : ClassId) (t0 t1 t2 t3 c0 c1 c2 c3 : Int64) (h0 : Heap) (n0 : Nat) (Zs : n0 ≤ h0.size) (V_t : Arv Z h0 ta kt .long (4 : Int32) [(.long t0), (.long t1), (.long t2), (.long t3)] (.long (0 : Int64))) (V_c : Arv Z h0 ca kc .long (4 : Int32) [(.long c0), (.long c1), (.long c2), (.long c3)] (.long (0 : Int64))) :
    Con l Z (⟨"com/example/indenture/indenture/app/HeapWatchSamplePinLaw", "expect", "([J[JII)Z"⟩ : MethodName) method_3_code 4 (some .boolean) [] ({ frames := 1, cells := 0, slots := 0, locals := 20 } : Room) n0 #[(.ref ta), (.ref ca), (.int (2 : Int32)), (.int cap)] h0 (fun v h => h0 = h ∧ v = some (.int (ex2 cap t0 t1 t2 t3 c0 c1 c2 c3))) := by
  refine Con.of (plainFor_of_name pn_q1) (ef_rmXp2 ta ca cap) ?_
  intro K C
  replace C : Ok Z "com/example/indenture/indenture/app/HeapWatchSamplePinLaw" "expect" method_3_code 4 (some .boolean) K := C
  refine r_iloadN C 1 dxp_0 rfl rfl ?_
  refine r_iconst C 2 (1 : Int32) dxp_1 rfl rfl ?_
  refine r_icmp_lt C 32 5 dxp_2 (by decide) (by decide) rfl (fun q => absurd q (by decide)) (fun _ => ?_)
  refine r_aloadN C 6 dxp_5 rfl rfl rfl ?_
  refine r_iloadN C 7 dxp_6 rfl rfl ?_
  refine r_laload C 8 (v := (.long t2)) V_t ⟨by decide, by decide⟩ rfl dxp_7 rfl ?_
  refine r_aloadN C 9 dxp_8 rfl rfl rfl ?_
  refine r_iloadN C 10 dxp_9 rfl rfl ?_
  refine r_iconst C 11 (1 : Int32) dxp_10 rfl rfl ?_
  refine r_isub C 12 dxp_11 rfl ?_
  show Run _ _ _ _ _ _ _ _ 12 #[.val (.ref ta), .val (.ref ca), .val (.int (2 : Int32)), .val (.int cap)] [(.int (1 : Int32)), (.ref ta), (.long t2)]
  refine r_laload C 13 (v := (.long t1)) V_t ⟨by decide, by decide⟩ rfl dxp_12 rfl ?_
  refine r_lsub C 14 dxp_13 rfl ?_
  refine r_ldc2_w C 17 dxp_14 rfl (hw _ (List.mem_of_getElem? (i := 37) rfl)) ?_
  refine r_lcmp_lt C 18 32 21 dxp_17 rfl dxp_18 (by decide) (by decide) rfl ?_ ?_
  · intro q1
    refine r_iloadN C 33 dxp_32 rfl rfl ?_
    refine r_iconst C 34 (2 : Int32) dxp_33 rfl rfl ?_
    refine r_icmp_lt C 64 37 dxp_34 (by decide) (by decide) rfl (fun q => absurd q (by decide)) (fun _ => ?_)
    refine r_aloadN C 38 dxp_37 rfl rfl rfl ?_
    refine r_iloadN C 39 dxp_38 rfl rfl ?_
    refine r_laload C 40 (v := (.long t2)) V_t ⟨by decide, by decide⟩ rfl dxp_39 rfl ?_
    refine r_aloadN C 41 dxp_40 rfl rfl rfl ?_
    refine r_iloadN C 42 dxp_41 rfl rfl ?_
    refine r_iconst C 43 (2 : Int32) dxp_42 rfl rfl ?_
    refine r_isub C 44 dxp_43 rfl ?_
    show Run _ _ _ _ _ _ _ _ 44 #[.val (.ref ta), .val (.ref ca), .val (.int (2 : Int32)), .val (.int cap)] [(.int (0 : Int32)), (.ref ta), (.long t2)]
    refine r_laload C 45 (v := (.long t0)) V_t ⟨by decide, by decide⟩ rfl dxp_44 rfl ?_
    refine r_lsub C 46 dxp_45 rfl ?_
    refine r_ldc2_w C 49 dxp_46 rfl (hw _ (List.mem_of_getElem? (i := 37) rfl)) ?_
    refine r_lcmp_lt C 50 64 53 dxp_49 rfl dxp_50 (by decide) (by decide) rfl ?_ ?_
    · intro q2
      refine r_iloadN C 65 dxp_64 rfl rfl ?_
      refine r_iconst C 66 (3 : Int32) dxp_65 rfl rfl ?_
      refine r_icmp_lt C 96 69 dxp_66 (by decide) (by decide) rfl (fun _ => ?_) (fun q => absurd q (by decide))
      refine r_iconst C 97 (0 : Int32) dxp_96 rfl rfl ?_
      exact r_nreturn C (0 : Int32) rfl (t := .boolean) (by simp) rfl dxp_97 (by decide) (by decide) ⟨rfl, by rw [ex2, if_pos q1, if_pos q2]⟩
    · intro q2
      refine r_aloadN C 54 dxp_53 rfl rfl rfl ?_
      refine r_aloadN C 55 dxp_54 rfl rfl rfl ?_
      refine r_iloadN C 56 dxp_55 rfl rfl ?_
      refine r_iloadN C 57 dxp_56 rfl rfl ?_
      refine r_iconst C 58 (2 : Int32) dxp_57 rfl rfl ?_
      refine r_isub C 59 dxp_58 rfl ?_
      show Run _ _ _ _ _ _ _ _ 59 #[.val (.ref ta), .val (.ref ca), .val (.int (2 : Int32)), .val (.int cap)] [(.int (0 : Int32)), (.int (2 : Int32)), (.ref ca), (.ref ta)]
      refine r_iloadN C 60 dxp_59 rfl rfl ?_
      refine r_callS C 63 (y := (⟨"com/example/indenture/indenture/app/HeapWatchSamplePinLaw", "judge", "([J[JIII)Z"⟩ : MethodName)) (a := 0) [(.ref ta), (.ref ca), (.int (2 : Int32)), (.int (0 : Int32)), (.int cap)] [] (rmJg20 l Z a0 hw ta ca cap kt kc t0 t1 t2 t3 c0 c1 c2 c3 h0 n0 Zs V_t V_c) (hw _ (List.mem_of_getElem? (i := 38) rfl)) (hw _ (List.mem_of_getElem? (i := 39) rfl)) (hw _ (List.mem_of_getElem? (i := 35) rfl)) (hw _ (List.mem_of_getElem? (i := 40) rfl)) (by decide) (lenOf pd___J_JIII_Z rfl) rfl rfl (by decide) (Nat.le_of_ble_eq_true rfl) (by decide) (by decide) rfl dxp_60 rfl ?_
      intro v3 h3 q3 z3
      obtain ⟨rfl, rfl⟩ := q3
      show Run _ _ _ _ _ _ _ _ 63 #[.val (.ref ta), .val (.ref ca), .val (.int (2 : Int32)), .val (.int cap)] [(.int (jg cap (2 : Int32) (c2 - c0) (t2 - t0)))]
      exact r_nreturn C _ rfl (t := .boolean) (by simp) rfl dxp_63 (by decide) (by decide) ⟨rfl, by rw [own_nar, ex2, if_pos q1, if_neg q2]⟩
  · intro q1
    refine r_aloadN C 22 dxp_21 rfl rfl rfl ?_
    refine r_aloadN C 23 dxp_22 rfl rfl rfl ?_
    refine r_iloadN C 24 dxp_23 rfl rfl ?_
    refine r_iloadN C 25 dxp_24 rfl rfl ?_
    refine r_iconst C 26 (1 : Int32) dxp_25 rfl rfl ?_
    refine r_isub C 27 dxp_26 rfl ?_
    show Run _ _ _ _ _ _ _ _ 27 #[.val (.ref ta), .val (.ref ca), .val (.int (2 : Int32)), .val (.int cap)] [(.int (1 : Int32)), (.int (2 : Int32)), (.ref ca), (.ref ta)]
    refine r_iloadN C 28 dxp_27 rfl rfl ?_
    refine r_callS C 31 (y := (⟨"com/example/indenture/indenture/app/HeapWatchSamplePinLaw", "judge", "([J[JIII)Z"⟩ : MethodName)) (a := 0) [(.ref ta), (.ref ca), (.int (2 : Int32)), (.int (1 : Int32)), (.int cap)] [] (rmJg21 l Z a0 hw ta ca cap kt kc t0 t1 t2 t3 c0 c1 c2 c3 h0 n0 Zs V_t V_c) (hw _ (List.mem_of_getElem? (i := 38) rfl)) (hw _ (List.mem_of_getElem? (i := 39) rfl)) (hw _ (List.mem_of_getElem? (i := 35) rfl)) (hw _ (List.mem_of_getElem? (i := 40) rfl)) (by decide) (lenOf pd___J_JIII_Z rfl) rfl rfl (by decide) (Nat.le_of_ble_eq_true rfl) (by decide) (by decide) rfl dxp_28 rfl ?_
    intro v4 h4 q4 z4
    obtain ⟨rfl, rfl⟩ := q4
    show Run _ _ _ _ _ _ _ _ 31 #[.val (.ref ta), .val (.ref ca), .val (.int (2 : Int32)), .val (.int cap)] [(.int (jg cap (1 : Int32) (c2 - c1) (t2 - t1)))]
    exact r_nreturn C _ rfl (t := .boolean) (by simp) rfl dxp_31 (by decide) (by decide) ⟨rfl, by rw [own_nar, ex2, if_neg q1]⟩
theorem ef_rmXp3 (ta : Addr) (ca : Addr) (cap : Int32) : ∀ mI_, entryFrame mI_ #[(.ref ta), (.ref ca), (.int (3 : Int32)), (.int cap)] 4 = mkF mI_ 0 #[.val (.ref ta), .val (.ref ca), .val (.int (3 : Int32)), .val (.int cap)] [] := fun mI_ => by first | (simp [entryFrame, mkF, argsToLocals, Value.category]; done) | rfl
set_option maxRecDepth 65536 in
set_option maxHeartbeats 40000000 in
theorem rmXp3 (l : Launch) (Z : State) (a0 : Array Value) (hw : ∀ d ∈ tables_1, d.before a0 Z = true) (ta : Addr) (ca : Addr) (cap : Int32) (kt kc : ClassId) (t0 t1 t2 t3 c0 c1 c2 c3 : Int64) (h0 : Heap) (n0 : Nat) (Zs : n0 ≤ h0.size) (V_t : Arv Z h0 ta kt .long (4 : Int32) [(.long t0), (.long t1), (.long t2), (.long t3)] (.long (0 : Int64))) (V_c : Arv Z h0 ca kc .long (4 : Int32) [(.long c0), (.long c1), (.long c2), (.long c3)] (.long (0 : Int64))) :
    Con l Z (⟨"com/example/indenture/indenture/app/HeapWatchSamplePinLaw", "expect", "([J[JII)Z"⟩ : MethodName) method_3_code 4 (some .boolean) [] ({ frames := 1, cells := 0, slots := 0, locals := 20 } : Room) n0 #[(.ref ta), (.ref ca), (.int (3 : Int32)), (.int cap)] h0 (fun v h => h0 = h ∧ v = some (.int (ex3 cap t0 t1 t2 t3 c0 c1 c2 c3))) := by
  refine Con.of (plainFor_of_name pn_q1) (ef_rmXp3 ta ca cap) ?_
  intro K C
  replace C : Ok Z "com/example/indenture/indenture/app/HeapWatchSamplePinLaw" "expect" method_3_code 4 (some .boolean) K := C
  refine r_iloadN C 1 dxp_0 rfl rfl ?_
  refine r_iconst C 2 (1 : Int32) dxp_1 rfl rfl ?_
  refine r_icmp_lt C 32 5 dxp_2 (by decide) (by decide) rfl (fun q => absurd q (by decide)) (fun _ => ?_)
  refine r_aloadN C 6 dxp_5 rfl rfl rfl ?_
  refine r_iloadN C 7 dxp_6 rfl rfl ?_
  refine r_laload C 8 (v := (.long t3)) V_t ⟨by decide, by decide⟩ rfl dxp_7 rfl ?_
  refine r_aloadN C 9 dxp_8 rfl rfl rfl ?_
  refine r_iloadN C 10 dxp_9 rfl rfl ?_
  refine r_iconst C 11 (1 : Int32) dxp_10 rfl rfl ?_
  refine r_isub C 12 dxp_11 rfl ?_
  show Run _ _ _ _ _ _ _ _ 12 #[.val (.ref ta), .val (.ref ca), .val (.int (3 : Int32)), .val (.int cap)] [(.int (2 : Int32)), (.ref ta), (.long t3)]
  refine r_laload C 13 (v := (.long t2)) V_t ⟨by decide, by decide⟩ rfl dxp_12 rfl ?_
  refine r_lsub C 14 dxp_13 rfl ?_
  refine r_ldc2_w C 17 dxp_14 rfl (hw _ (List.mem_of_getElem? (i := 37) rfl)) ?_
  refine r_lcmp_lt C 18 32 21 dxp_17 rfl dxp_18 (by decide) (by decide) rfl ?_ ?_
  · intro q1
    refine r_iloadN C 33 dxp_32 rfl rfl ?_
    refine r_iconst C 34 (2 : Int32) dxp_33 rfl rfl ?_
    refine r_icmp_lt C 64 37 dxp_34 (by decide) (by decide) rfl (fun q => absurd q (by decide)) (fun _ => ?_)
    refine r_aloadN C 38 dxp_37 rfl rfl rfl ?_
    refine r_iloadN C 39 dxp_38 rfl rfl ?_
    refine r_laload C 40 (v := (.long t3)) V_t ⟨by decide, by decide⟩ rfl dxp_39 rfl ?_
    refine r_aloadN C 41 dxp_40 rfl rfl rfl ?_
    refine r_iloadN C 42 dxp_41 rfl rfl ?_
    refine r_iconst C 43 (2 : Int32) dxp_42 rfl rfl ?_
    refine r_isub C 44 dxp_43 rfl ?_
    show Run _ _ _ _ _ _ _ _ 44 #[.val (.ref ta), .val (.ref ca), .val (.int (3 : Int32)), .val (.int cap)] [(.int (1 : Int32)), (.ref ta), (.long t3)]
    refine r_laload C 45 (v := (.long t1)) V_t ⟨by decide, by decide⟩ rfl dxp_44 rfl ?_
    refine r_lsub C 46 dxp_45 rfl ?_
    refine r_ldc2_w C 49 dxp_46 rfl (hw _ (List.mem_of_getElem? (i := 37) rfl)) ?_
    refine r_lcmp_lt C 50 64 53 dxp_49 rfl dxp_50 (by decide) (by decide) rfl ?_ ?_
    · intro q2
      refine r_iloadN C 65 dxp_64 rfl rfl ?_
      refine r_iconst C 66 (3 : Int32) dxp_65 rfl rfl ?_
      refine r_icmp_lt C 96 69 dxp_66 (by decide) (by decide) rfl (fun q => absurd q (by decide)) (fun _ => ?_)
      refine r_aloadN C 70 dxp_69 rfl rfl rfl ?_
      refine r_iloadN C 71 dxp_70 rfl rfl ?_
      refine r_laload C 72 (v := (.long t3)) V_t ⟨by decide, by decide⟩ rfl dxp_71 rfl ?_
      refine r_aloadN C 73 dxp_72 rfl rfl rfl ?_
      refine r_iloadN C 74 dxp_73 rfl rfl ?_
      refine r_iconst C 75 (3 : Int32) dxp_74 rfl rfl ?_
      refine r_isub C 76 dxp_75 rfl ?_
      show Run _ _ _ _ _ _ _ _ 76 #[.val (.ref ta), .val (.ref ca), .val (.int (3 : Int32)), .val (.int cap)] [(.int (0 : Int32)), (.ref ta), (.long t3)]
      refine r_laload C 77 (v := (.long t0)) V_t ⟨by decide, by decide⟩ rfl dxp_76 rfl ?_
      refine r_lsub C 78 dxp_77 rfl ?_
      refine r_ldc2_w C 81 dxp_78 rfl (hw _ (List.mem_of_getElem? (i := 37) rfl)) ?_
      refine r_lcmp_lt C 82 96 85 dxp_81 rfl dxp_82 (by decide) (by decide) rfl ?_ ?_
      · intro q3
        refine r_iconst C 97 (0 : Int32) dxp_96 rfl rfl ?_
        exact r_nreturn C (0 : Int32) rfl (t := .boolean) (by simp) rfl dxp_97 (by decide) (by decide) ⟨rfl, by rw [ex3, if_pos q1, if_pos q2, if_pos q3]⟩
      · intro q3
        refine r_aloadN C 86 dxp_85 rfl rfl rfl ?_
        refine r_aloadN C 87 dxp_86 rfl rfl rfl ?_
        refine r_iloadN C 88 dxp_87 rfl rfl ?_
        refine r_iloadN C 89 dxp_88 rfl rfl ?_
        refine r_iconst C 90 (3 : Int32) dxp_89 rfl rfl ?_
        refine r_isub C 91 dxp_90 rfl ?_
        show Run _ _ _ _ _ _ _ _ 91 #[.val (.ref ta), .val (.ref ca), .val (.int (3 : Int32)), .val (.int cap)] [(.int (0 : Int32)), (.int (3 : Int32)), (.ref ca), (.ref ta)]
        refine r_iloadN C 92 dxp_91 rfl rfl ?_
        refine r_callS C 95 (y := (⟨"com/example/indenture/indenture/app/HeapWatchSamplePinLaw", "judge", "([J[JIII)Z"⟩ : MethodName)) (a := 0) [(.ref ta), (.ref ca), (.int (3 : Int32)), (.int (0 : Int32)), (.int cap)] [] (rmJg30 l Z a0 hw ta ca cap kt kc t0 t1 t2 t3 c0 c1 c2 c3 h0 n0 Zs V_t V_c) (hw _ (List.mem_of_getElem? (i := 38) rfl)) (hw _ (List.mem_of_getElem? (i := 39) rfl)) (hw _ (List.mem_of_getElem? (i := 35) rfl)) (hw _ (List.mem_of_getElem? (i := 40) rfl)) (by decide) (lenOf pd___J_JIII_Z rfl) rfl rfl (by decide) (Nat.le_of_ble_eq_true rfl) (by decide) (by decide) rfl dxp_92 rfl ?_
        intro v4 h4 q4 z4
        obtain ⟨rfl, rfl⟩ := q4
        show Run _ _ _ _ _ _ _ _ 95 #[.val (.ref ta), .val (.ref ca), .val (.int (3 : Int32)), .val (.int cap)] [(.int (jg cap (3 : Int32) (c3 - c0) (t3 - t0)))]
        exact r_nreturn C _ rfl (t := .boolean) (by simp) rfl dxp_95 (by decide) (by decide) ⟨rfl, by rw [own_nar, ex3, if_pos q1, if_pos q2, if_neg q3]⟩
    · intro q2
      refine r_aloadN C 54 dxp_53 rfl rfl rfl ?_
      refine r_aloadN C 55 dxp_54 rfl rfl rfl ?_
      refine r_iloadN C 56 dxp_55 rfl rfl ?_
      refine r_iloadN C 57 dxp_56 rfl rfl ?_
      refine r_iconst C 58 (2 : Int32) dxp_57 rfl rfl ?_
      refine r_isub C 59 dxp_58 rfl ?_
      show Run _ _ _ _ _ _ _ _ 59 #[.val (.ref ta), .val (.ref ca), .val (.int (3 : Int32)), .val (.int cap)] [(.int (1 : Int32)), (.int (3 : Int32)), (.ref ca), (.ref ta)]
      refine r_iloadN C 60 dxp_59 rfl rfl ?_
      refine r_callS C 63 (y := (⟨"com/example/indenture/indenture/app/HeapWatchSamplePinLaw", "judge", "([J[JIII)Z"⟩ : MethodName)) (a := 0) [(.ref ta), (.ref ca), (.int (3 : Int32)), (.int (1 : Int32)), (.int cap)] [] (rmJg31 l Z a0 hw ta ca cap kt kc t0 t1 t2 t3 c0 c1 c2 c3 h0 n0 Zs V_t V_c) (hw _ (List.mem_of_getElem? (i := 38) rfl)) (hw _ (List.mem_of_getElem? (i := 39) rfl)) (hw _ (List.mem_of_getElem? (i := 35) rfl)) (hw _ (List.mem_of_getElem? (i := 40) rfl)) (by decide) (lenOf pd___J_JIII_Z rfl) rfl rfl (by decide) (Nat.le_of_ble_eq_true rfl) (by decide) (by decide) rfl dxp_60 rfl ?_
      intro v5 h5 q5 z5
      obtain ⟨rfl, rfl⟩ := q5
      show Run _ _ _ _ _ _ _ _ 63 #[.val (.ref ta), .val (.ref ca), .val (.int (3 : Int32)), .val (.int cap)] [(.int (jg cap (2 : Int32) (c3 - c1) (t3 - t1)))]
      exact r_nreturn C _ rfl (t := .boolean) (by simp) rfl dxp_63 (by decide) (by decide) ⟨rfl, by rw [own_nar, ex3, if_pos q1, if_neg q2]⟩
  · intro q1
    refine r_aloadN C 22 dxp_21 rfl rfl rfl ?_
    refine r_aloadN C 23 dxp_22 rfl rfl rfl ?_
    refine r_iloadN C 24 dxp_23 rfl rfl ?_
    refine r_iloadN C 25 dxp_24 rfl rfl ?_
    refine r_iconst C 26 (1 : Int32) dxp_25 rfl rfl ?_
    refine r_isub C 27 dxp_26 rfl ?_
    show Run _ _ _ _ _ _ _ _ 27 #[.val (.ref ta), .val (.ref ca), .val (.int (3 : Int32)), .val (.int cap)] [(.int (2 : Int32)), (.int (3 : Int32)), (.ref ca), (.ref ta)]
    refine r_iloadN C 28 dxp_27 rfl rfl ?_
    refine r_callS C 31 (y := (⟨"com/example/indenture/indenture/app/HeapWatchSamplePinLaw", "judge", "([J[JIII)Z"⟩ : MethodName)) (a := 0) [(.ref ta), (.ref ca), (.int (3 : Int32)), (.int (2 : Int32)), (.int cap)] [] (rmJg32 l Z a0 hw ta ca cap kt kc t0 t1 t2 t3 c0 c1 c2 c3 h0 n0 Zs V_t V_c) (hw _ (List.mem_of_getElem? (i := 38) rfl)) (hw _ (List.mem_of_getElem? (i := 39) rfl)) (hw _ (List.mem_of_getElem? (i := 35) rfl)) (hw _ (List.mem_of_getElem? (i := 40) rfl)) (by decide) (lenOf pd___J_JIII_Z rfl) rfl rfl (by decide) (Nat.le_of_ble_eq_true rfl) (by decide) (by decide) rfl dxp_28 rfl ?_
    intro v6 h6 q6 z6
    obtain ⟨rfl, rfl⟩ := q6
    show Run _ _ _ _ _ _ _ _ 31 #[.val (.ref ta), .val (.ref ca), .val (.int (3 : Int32)), .val (.int cap)] [(.int (jg cap (1 : Int32) (c3 - c2) (t3 - t2)))]
    exact r_nreturn C _ rfl (t := .boolean) (by simp) rfl dxp_31 (by decide) (by decide) ⟨rfl, by rw [own_nar, ex3, if_neg q1]⟩
theorem ef_law (a b c d e f : Int64) : ∀ mI_, entryFrame mI_ #[(.long a), (.long b), (.long c), (.long d), (.long e), (.long f)] maxLocals = mkF mI_ 0 #[.val (.long a), .second, .val (.long b), .second, .val (.long c), .second, .val (.long d), .second, .val (.long e), .second, .val (.long f), .second, .unset, .unset, .unset, .unset, .unset, .unset, .unset, .unset] [] := fun mI_ => by first | (simp [entryFrame, mkF, argsToLocals, Value.category, maxLocals]; done) | rfl
set_option maxRecDepth 65536 in
set_option maxHeartbeats 40000000 in
theorem rmJ1 (l : Launch) (Z : State) (a0 : Array Value) (hw : ∀ d ∈ tables_1, d.before a0 Z = true) (p0 p1 p2 p3 p4 p5 : Int64) (h0 : Heap) (n0 : Nat) (Zs : n0 ≤ h0.size) (K : Ctx) (C : Ok Z "com/example/indenture/indenture/app/HeapWatchSamplePinLaw" "law" code maxLocals ret K) : Run l room_1 n0 (fun v _ => v = some (.int 1)) K h0 0 0 14 #[.val (.long p0), .second, .val (.long p1), .second, .val (.long p2), .second, .val (.long p3), .second, .val (.long p4), .second, .val (.long p5), .second, .val (.int (1 : Int32)), .unset, .unset, .unset, .unset, .unset, .unset, .unset] [] := by
  have KP := Keep.refl h0 []
  refine r_iconst C 15 (4 : Int32) at_14 rfl rfl ?_
  refine r_newarray C 17 4 (hw _ (List.mem_of_getElem? (i := 1) rfl)) at_15 rfl (by decide) (by decide) (by decide) (by decide) (by decide) ?_
  intro h1 b1 kA1 g1 E1 V_b1
  replace V_b1 : Arv Z h1 b1 kA1 .long (4 : Int32) [(.long (0 : Int64)), (.long (0 : Int64)), (.long (0 : Int64)), (.long (0 : Int64))] (.long (0 : Int64)) := V_b1.pad (pad_rep [] (.long (0 : Int64)) 4)
  have g_b1 : n0 ≤ b1 := g1 ▸ Zs
  replace Zs := Nat.le_trans Zs E1.1
  have sz_b1 : h0.size ≤ b1 := g1 ▸ KP.1
  replace KP := KP.ext E1
  refine r_astore C 19 #[.val (.long p0), .second, .val (.long p1), .second, .val (.long p2), .second, .val (.long p3), .second, .val (.long p4), .second, .val (.long p5), .second, .val (.int (1 : Int32)), .val (.ref b1), .unset, .unset, .unset, .unset, .unset, .unset] at_17 rfl rfl rfl ?_
  refine r_iconst C 20 (4 : Int32) at_19 rfl rfl ?_
  refine r_newarray C 22 4 (hw _ (List.mem_of_getElem? (i := 1) rfl)) at_20 rfl (by decide) (by decide) (by decide) (by decide) (by decide) ?_
  intro h2 b2 kA2 g2 E2 V_b2
  replace V_b2 : Arv Z h2 b2 kA2 .long (4 : Int32) [(.long (0 : Int64)), (.long (0 : Int64)), (.long (0 : Int64)), (.long (0 : Int64))] (.long (0 : Int64)) := V_b2.pad (pad_rep [] (.long (0 : Int64)) 4)
  have g_b2 : n0 ≤ b2 := g2 ▸ Zs
  have lt_b1_b2 : b1 < b2 := Nat.lt_of_lt_of_le V_b1.lt (Nat.le_of_eq g2.symm)
  have ne_b1_b2 : b1 ≠ b2 := Nat.ne_of_lt lt_b1_b2
  replace V_b1 := V_b1.ext E2
  replace Zs := Nat.le_trans Zs E2.1
  have sz_b2 : h0.size ≤ b2 := g2 ▸ KP.1
  replace KP := KP.ext E2
  refine r_astore C 24 #[.val (.long p0), .second, .val (.long p1), .second, .val (.long p2), .second, .val (.long p3), .second, .val (.long p4), .second, .val (.long p5), .second, .val (.int (1 : Int32)), .val (.ref b1), .val (.ref b2), .unset, .unset, .unset, .unset, .unset] at_22 rfl rfl rfl ?_
  refine r_aload C 26 at_24 rfl rfl rfl ?_
  refine r_iconst C 27 (0 : Int32) at_26 rfl rfl ?_
  refine r_lloadN C 28 at_27 rfl rfl ?_
  refine r_lastore C 29 V_b1 ⟨by decide, by decide⟩ (Nat.le_of_ble_eq_true rfl) at_28 rfl g_b1 ?_
  intro h3 W3 V3
  replace V_b2 := V_b2.other W3 (Ne.symm ne_b1_b2)
  replace Zs := Nat.le_trans Zs (Nat.le_of_eq W3.size.symm)
  replace KP := KP.wr W3 (Or.inr sz_b1)
  replace V_b1 : Arv Z h3 b1 kA1 .long (4 : Int32) [(.long p0), (.long (0 : Int64)), (.long (0 : Int64)), (.long (0 : Int64))] (.long (0 : Int64)) := V3
  refine r_aload C 31 at_29 rfl rfl rfl ?_
  refine r_iconst C 32 (1 : Int32) at_31 rfl rfl ?_
  refine r_aload C 34 at_32 rfl rfl rfl ?_
  refine r_iconst C 35 (0 : Int32) at_34 rfl rfl ?_
  refine r_laload C 36 (v := (.long p0)) V_b1 ⟨by decide, by decide⟩ rfl at_35 rfl ?_
  refine r_lconst C 37 (1 : Int64) at_36 rfl rfl ?_
  refine r_ladd C 38 at_37 rfl ?_
  refine r_lloadN C 39 at_38 rfl rfl ?_
  refine r_ldc2_w C 42 at_39 rfl (hw _ (List.mem_of_getElem? (i := 2) rfl)) ?_
  refine r_land C 43 at_42 rfl ?_
  refine r_ladd C 44 at_43 rfl ?_
  refine r_lastore C 45 V_b1 ⟨by decide, by decide⟩ (Nat.le_of_ble_eq_true rfl) at_44 rfl g_b1 ?_
  intro h4 W4 V4
  replace V_b2 := V_b2.other W4 (Ne.symm ne_b1_b2)
  replace Zs := Nat.le_trans Zs (Nat.le_of_eq W4.size.symm)
  replace KP := KP.wr W4 (Or.inr sz_b1)
  replace V_b1 : Arv Z h4 b1 kA1 .long (4 : Int32) [(.long p0), (.long ((p0 + (1 : Int64)) + (p1 &&& (17179869183 : Int64)))), (.long (0 : Int64)), (.long (0 : Int64))] (.long (0 : Int64)) := V4
  refine r_aload C 47 at_45 rfl rfl rfl ?_
  refine r_iconst C 48 (2 : Int32) at_47 rfl rfl ?_
  refine r_aload C 50 at_48 rfl rfl rfl ?_
  refine r_iconst C 51 (1 : Int32) at_50 rfl rfl ?_
  refine r_laload C 52 (v := (.long ((p0 + (1 : Int64)) + (p1 &&& (17179869183 : Int64))))) V_b1 ⟨by decide, by decide⟩ rfl at_51 rfl ?_
  refine r_lconst C 53 (1 : Int64) at_52 rfl rfl ?_
  refine r_ladd C 54 at_53 rfl ?_
  refine r_lload C 56 at_54 rfl rfl ?_
  refine r_ldc2_w C 59 at_56 rfl (hw _ (List.mem_of_getElem? (i := 2) rfl)) ?_
  refine r_land C 60 at_59 rfl ?_
  refine r_ladd C 61 at_60 rfl ?_
  refine r_lastore C 62 V_b1 ⟨by decide, by decide⟩ (Nat.le_of_ble_eq_true rfl) at_61 rfl g_b1 ?_
  intro h5 W5 V5
  replace V_b2 := V_b2.other W5 (Ne.symm ne_b1_b2)
  replace Zs := Nat.le_trans Zs (Nat.le_of_eq W5.size.symm)
  replace KP := KP.wr W5 (Or.inr sz_b1)
  replace V_b1 : Arv Z h5 b1 kA1 .long (4 : Int32) [(.long p0), (.long ((p0 + (1 : Int64)) + (p1 &&& (17179869183 : Int64)))), (.long ((((p0 + (1 : Int64)) + (p1 &&& (17179869183 : Int64))) + (1 : Int64)) + (p2 &&& (17179869183 : Int64)))), (.long (0 : Int64))] (.long (0 : Int64)) := V5
  refine r_aload C 64 at_62 rfl rfl rfl ?_
  refine r_iconst C 65 (3 : Int32) at_64 rfl rfl ?_
  refine r_aload C 67 at_65 rfl rfl rfl ?_
  refine r_iconst C 68 (2 : Int32) at_67 rfl rfl ?_
  refine r_laload C 69 (v := (.long ((((p0 + (1 : Int64)) + (p1 &&& (17179869183 : Int64))) + (1 : Int64)) + (p2 &&& (17179869183 : Int64))))) V_b1 ⟨by decide, by decide⟩ rfl at_68 rfl ?_
  refine r_lconst C 70 (1 : Int64) at_69 rfl rfl ?_
  refine r_ladd C 71 at_70 rfl ?_
  refine r_lload C 73 at_71 rfl rfl ?_
  refine r_ldc2_w C 76 at_73 rfl (hw _ (List.mem_of_getElem? (i := 2) rfl)) ?_
  refine r_land C 77 at_76 rfl ?_
  refine r_ladd C 78 at_77 rfl ?_
  refine r_lastore C 79 V_b1 ⟨by decide, by decide⟩ (Nat.le_of_ble_eq_true rfl) at_78 rfl g_b1 ?_
  intro h6 W6 V6
  replace V_b2 := V_b2.other W6 (Ne.symm ne_b1_b2)
  replace Zs := Nat.le_trans Zs (Nat.le_of_eq W6.size.symm)
  replace KP := KP.wr W6 (Or.inr sz_b1)
  replace V_b1 : Arv Z h6 b1 kA1 .long (4 : Int32) [(.long p0), (.long ((p0 + (1 : Int64)) + (p1 &&& (17179869183 : Int64)))), (.long ((((p0 + (1 : Int64)) + (p1 &&& (17179869183 : Int64))) + (1 : Int64)) + (p2 &&& (17179869183 : Int64)))), (.long ((((((p0 + (1 : Int64)) + (p1 &&& (17179869183 : Int64))) + (1 : Int64)) + (p2 &&& (17179869183 : Int64))) + (1 : Int64)) + (p3 &&& (17179869183 : Int64))))] (.long (0 : Int64)) := V6
  refine r_aload C 81 at_79 rfl rfl rfl ?_
  refine r_iconst C 82 (0 : Int32) at_81 rfl rfl ?_
  refine r_lload C 84 at_82 rfl rfl ?_
  refine r_lastore C 85 V_b2 ⟨by decide, by decide⟩ (Nat.le_of_ble_eq_true rfl) at_84 rfl g_b2 ?_
  intro h7 W7 V7
  replace V_b1 := V_b1.other W7 ne_b1_b2
  replace Zs := Nat.le_trans Zs (Nat.le_of_eq W7.size.symm)
  replace KP := KP.wr W7 (Or.inr sz_b2)
  replace V_b2 : Arv Z h7 b2 kA2 .long (4 : Int32) [(.long p4), (.long (0 : Int64)), (.long (0 : Int64)), (.long (0 : Int64))] (.long (0 : Int64)) := V7
  refine r_aload C 87 at_85 rfl rfl rfl ?_
  refine r_iconst C 88 (1 : Int32) at_87 rfl rfl ?_
  refine r_aload C 90 at_88 rfl rfl rfl ?_
  refine r_iconst C 91 (0 : Int32) at_90 rfl rfl ?_
  refine r_laload C 92 (v := (.long p4)) V_b2 ⟨by decide, by decide⟩ rfl at_91 rfl ?_
  refine r_lload C 94 at_92 rfl rfl ?_
  refine r_ldc2_w C 97 at_94 rfl (hw _ (List.mem_of_getElem? (i := 3) rfl)) ?_
  refine r_land C 98 at_97 rfl ?_
  refine r_ladd C 99 at_98 rfl ?_
  refine r_lastore C 100 V_b2 ⟨by decide, by decide⟩ (Nat.le_of_ble_eq_true rfl) at_99 rfl g_b2 ?_
  intro h8 W8 V8
  replace V_b1 := V_b1.other W8 ne_b1_b2
  replace Zs := Nat.le_trans Zs (Nat.le_of_eq W8.size.symm)
  replace KP := KP.wr W8 (Or.inr sz_b2)
  replace V_b2 : Arv Z h8 b2 kA2 .long (4 : Int32) [(.long p4), (.long (p4 + (p5 &&& (65535 : Int64)))), (.long (0 : Int64)), (.long (0 : Int64))] (.long (0 : Int64)) := V8
  refine r_aload C 102 at_100 rfl rfl rfl ?_
  refine r_iconst C 103 (2 : Int32) at_102 rfl rfl ?_
  refine r_aload C 105 at_103 rfl rfl rfl ?_
  refine r_iconst C 106 (1 : Int32) at_105 rfl rfl ?_
  refine r_laload C 107 (v := (.long (p4 + (p5 &&& (65535 : Int64))))) V_b2 ⟨by decide, by decide⟩ rfl at_106 rfl ?_
  refine r_lload C 109 at_107 rfl rfl ?_
  refine r_bipush C 111 (16 : Int32) at_109 rfl rfl ?_
  refine r_lushr C 112 at_111 rfl ?_
  refine r_ldc2_w C 115 at_112 rfl (hw _ (List.mem_of_getElem? (i := 3) rfl)) ?_
  refine r_land C 116 at_115 rfl ?_
  refine r_ladd C 117 at_116 rfl ?_
  refine r_lastore C 118 V_b2 ⟨by decide, by decide⟩ (Nat.le_of_ble_eq_true rfl) at_117 rfl g_b2 ?_
  intro h9 W9 V9
  replace V_b1 := V_b1.other W9 ne_b1_b2
  replace Zs := Nat.le_trans Zs (Nat.le_of_eq W9.size.symm)
  replace KP := KP.wr W9 (Or.inr sz_b2)
  replace V_b2 : Arv Z h9 b2 kA2 .long (4 : Int32) [(.long p4), (.long (p4 + (p5 &&& (65535 : Int64)))), (.long ((p4 + (p5 &&& (65535 : Int64))) + (((p5.toUInt64 >>> ((16 : Int32) &&& 0x3f).toInt64.toUInt64).toInt64) &&& (65535 : Int64)))), (.long (0 : Int64))] (.long (0 : Int64)) := V9
  refine r_aload C 120 at_118 rfl rfl rfl ?_
  refine r_iconst C 121 (3 : Int32) at_120 rfl rfl ?_
  refine r_aload C 123 at_121 rfl rfl rfl ?_
  refine r_iconst C 124 (2 : Int32) at_123 rfl rfl ?_
  refine r_laload C 125 (v := (.long ((p4 + (p5 &&& (65535 : Int64))) + (((p5.toUInt64 >>> ((16 : Int32) &&& 0x3f).toInt64.toUInt64).toInt64) &&& (65535 : Int64))))) V_b2 ⟨by decide, by decide⟩ rfl at_124 rfl ?_
  refine r_lload C 127 at_125 rfl rfl ?_
  refine r_bipush C 129 (32 : Int32) at_127 rfl rfl ?_
  refine r_lushr C 130 at_129 rfl ?_
  refine r_ldc2_w C 133 at_130 rfl (hw _ (List.mem_of_getElem? (i := 3) rfl)) ?_
  refine r_land C 134 at_133 rfl ?_
  refine r_ladd C 135 at_134 rfl ?_
  refine r_lastore C 136 V_b2 ⟨by decide, by decide⟩ (Nat.le_of_ble_eq_true rfl) at_135 rfl g_b2 ?_
  intro h10 W10 V10
  replace V_b1 := V_b1.other W10 ne_b1_b2
  replace Zs := Nat.le_trans Zs (Nat.le_of_eq W10.size.symm)
  replace KP := KP.wr W10 (Or.inr sz_b2)
  replace V_b2 : Arv Z h10 b2 kA2 .long (4 : Int32) [(.long p4), (.long (p4 + (p5 &&& (65535 : Int64)))), (.long ((p4 + (p5 &&& (65535 : Int64))) + (((p5.toUInt64 >>> ((16 : Int32) &&& 0x3f).toInt64.toUInt64).toInt64) &&& (65535 : Int64)))), (.long (((p4 + (p5 &&& (65535 : Int64))) + (((p5.toUInt64 >>> ((16 : Int32) &&& 0x3f).toInt64.toUInt64).toInt64) &&& (65535 : Int64))) + (((p5.toUInt64 >>> ((32 : Int32) &&& 0x3f).toInt64.toUInt64).toInt64) &&& (65535 : Int64))))] (.long (0 : Int64)) := V10
  obtain ⟨t0, ht0⟩ : ∃ z : Int64, z = p0 := ⟨_, rfl⟩
  rw [← ht0] at V_b1
  obtain ⟨t1, ht1⟩ : ∃ z : Int64, z = ((t0 + (1 : Int64)) + (p1 &&& (17179869183 : Int64))) := ⟨_, rfl⟩
  rw [← ht1] at V_b1
  obtain ⟨t2, ht2⟩ : ∃ z : Int64, z = ((t1 + (1 : Int64)) + (p2 &&& (17179869183 : Int64))) := ⟨_, rfl⟩
  rw [← ht2] at V_b1
  obtain ⟨t3, ht3⟩ : ∃ z : Int64, z = ((t2 + (1 : Int64)) + (p3 &&& (17179869183 : Int64))) := ⟨_, rfl⟩
  rw [← ht3] at V_b1
  have V_b1x : Arv Z h10 b1 kA1 .long (4 : Int32) [(.long t0), (.long t1), (.long t2), (.long t3)] (.long (0 : Int64)) := V_b1
  replace V_b1 := V_b1x
  obtain ⟨c0, hc0⟩ : ∃ z : Int64, z = p4 := ⟨_, rfl⟩
  rw [← hc0] at V_b2
  obtain ⟨c1, hc1⟩ : ∃ z : Int64, z = (c0 + (p5 &&& (65535 : Int64))) := ⟨_, rfl⟩
  rw [← hc1] at V_b2
  obtain ⟨c2, hc2⟩ : ∃ z : Int64, z = (c1 + (((p5.toUInt64 >>> ((16 : Int32) &&& 0x3f).toInt64.toUInt64).toInt64) &&& (65535 : Int64))) := ⟨_, rfl⟩
  rw [← hc2] at V_b2
  obtain ⟨c3, hc3⟩ : ∃ z : Int64, z = (c2 + (((p5.toUInt64 >>> ((32 : Int32) &&& 0x3f).toInt64.toUInt64).toInt64) &&& (65535 : Int64))) := ⟨_, rfl⟩
  rw [← hc3] at V_b2
  have V_b2x : Arv Z h10 b2 kA2 .long (4 : Int32) [(.long c0), (.long c1), (.long c2), (.long c3)] (.long (0 : Int64)) := V_b2
  replace V_b2 := V_b2x
  have T10 := own_t ht1
  have T21 := own_t ht2
  have T32 := own_t ht3
  have C10 := own_c hc1
  have C21 := own_c hc2
  have C32 := own_c hc3
  have T20 := own_2 (a := t0) (b := t1) (c := t2) (by omega) (by omega) (by omega) (by omega)
  have T31 := own_2 (a := t1) (b := t2) (c := t3) (by omega) (by omega) (by omega) (by omega)
  have T30 := own_2 (a := t0) (b := t1) (c := t3) (by omega) (by omega) (by omega) (by omega)
  have C20 := own_2 (a := c0) (b := c1) (c := c2) (by omega) (by omega) (by omega) (by omega)
  have C31 := own_2 (a := c1) (b := c2) (c := c3) (by omega) (by omega) (by omega) (by omega)
  have C30 := own_2 (a := c0) (b := c1) (c := c3) (by omega) (by omega) (by omega) (by omega)
  refine r_new C 139 (hw _ (List.mem_of_getElem? (i := 4) rfl)) (hw _ (List.mem_of_getElem? (i := 5) rfl)) (hw _ (List.mem_of_getElem? (i := 6) rfl)) at_136 rfl (by decide) (by decide) ?_
  intro h11 b11 g11 E11 A11 D11
  have g_b11 : n0 ≤ b11 := g11 ▸ Zs
  have lt_b1_b11 : b1 < b11 := Nat.lt_of_lt_of_le V_b1.lt (Nat.le_of_eq g11.symm)
  have ne_b1_b11 : b1 ≠ b11 := Nat.ne_of_lt lt_b1_b11
  have lt_b2_b11 : b2 < b11 := Nat.lt_of_lt_of_le V_b2.lt (Nat.le_of_eq g11.symm)
  have ne_b2_b11 : b2 ≠ b11 := Nat.ne_of_lt lt_b2_b11
  replace V_b1 := V_b1.ext E11
  replace V_b2 := V_b2.ext E11
  replace Zs := Nat.le_trans Zs E11.1
  have sz_b11 : h0.size ≤ b11 := g11 ▸ KP.1
  replace KP := KP.ext E11
  have F_times_b11 : Fld Z h11 b11 "com/example/indenture/indenture/app/HeapWatch" "times" "[J" .null := D11 (Or.inr (hw _ (List.mem_of_getElem? (i := 14) rfl))) (ty := (.array .long)) (by decide)
  have F_collected_b11 : Fld Z h11 b11 "com/example/indenture/indenture/app/HeapWatch" "collected" "[J" .null := D11 (Or.inr (hw _ (List.mem_of_getElem? (i := 16) rfl))) (ty := (.array .long)) (by decide)
  have F_count_b11 : Fld Z h11 b11 "com/example/indenture/indenture/app/HeapWatch" "count" "I" (.int (0 : Int32)) := D11 (Or.inl (hw _ (List.mem_of_getElem? (i := 23) rfl))) (ty := .int) (by decide)
  have F_oldest_b11 : Fld Z h11 b11 "com/example/indenture/indenture/app/HeapWatch" "oldest" "I" (.int (0 : Int32)) := D11 (Or.inl (hw _ (List.mem_of_getElem? (i := 25) rfl))) (ty := .int) (by decide)
  refine r_dup C 140 at_139 rfl rfl ?_
  refine r_iload C 142 at_140 rfl rfl ?_
  refine r_callN C 145 (y := (⟨"com/example/indenture/indenture/app/HeapWatch", "<init>", "(I)V"⟩ : MethodName)) (a := b11) [(.int (1 : Int32))] [(.ref b11)] rfl (rmHi1 l Z a0 hw b11 h11 n0 Zs A11 F_times_b11 F_collected_b11 F_count_b11 F_oldest_b11 g_b11) (hw _ (List.mem_of_getElem? (i := 7) rfl)) (hw _ (List.mem_of_getElem? (i := 8) rfl)) (hw _ (List.mem_of_getElem? (i := 6) rfl)) (hw _ (List.mem_of_getElem? (i := 9) rfl)) (by decide) (lenOf pd__I_V rfl) rfl rfl (by decide) (Nat.le_of_ble_eq_true rfl) (by decide) (by decide) rfl at_142 rfl ?_
  intro v12 h12 q12 z12
  obtain ⟨rfl, K12, at_, ac, kt, kc, szt, szc, ntc, hW, V_t, V_c⟩ := q12
  have sz_at_ : h0.size ≤ at_ := Nat.le_trans KP.1 szt
  have sz_ac : h0.size ≤ ac := Nat.le_trans KP.1 szc
  have g_at_ : n0 ≤ at_ := Nat.le_trans Zs szt
  have g_ac : n0 ≤ ac := Nat.le_trans Zs szc
  have n_b1_at_ : b1 ≠ at_ := Nat.ne_of_lt (Nat.lt_of_lt_of_le V_b1.lt szt)
  have n_b1_ac : b1 ≠ ac := Nat.ne_of_lt (Nat.lt_of_lt_of_le V_b1.lt szc)
  have n_b2_at_ : b2 ≠ at_ := Nat.ne_of_lt (Nat.lt_of_lt_of_le V_b2.lt szt)
  have n_b2_ac : b2 ≠ ac := Nat.ne_of_lt (Nat.lt_of_lt_of_le V_b2.lt szc)
  replace V_b1 := V_b1.keep K12 (ninS ne_b1_b11 nin0)
  replace V_b2 := V_b2.keep K12 (ninS ne_b2_b11 nin0)
  replace A11 := A11.keep K12
  replace KP := KP.trans K12 (allS (Or.inr sz_b11) all0)
  replace Zs := Nat.le_trans Zs K12.1
  show Run _ _ _ _ _ _ _ _ 145 #[.val (.long p0), .second, .val (.long p1), .second, .val (.long p2), .second, .val (.long p3), .second, .val (.long p4), .second, .val (.long p5), .second, .val (.int (1 : Int32)), .val (.ref b1), .val (.ref b2), .unset, .unset, .unset, .unset, .unset] [(.ref b11)]
  refine r_astore C 147 #[.val (.long p0), .second, .val (.long p1), .second, .val (.long p2), .second, .val (.long p3), .second, .val (.long p4), .second, .val (.long p5), .second, .val (.int (1 : Int32)), .val (.ref b1), .val (.ref b2), .val (.ref b11), .unset, .unset, .unset, .unset] at_145 rfl rfl rfl ?_
  refine r_aload C 149 at_147 rfl rfl rfl ?_
  refine r_aload C 151 at_149 rfl rfl rfl ?_
  refine r_iconst C 152 (0 : Int32) at_151 rfl rfl ?_
  refine r_laload C 153 (v := (.long t0)) V_b1 ⟨by decide, by decide⟩ rfl at_152 rfl ?_
  refine r_aload C 155 at_153 rfl rfl rfl ?_
  refine r_iconst C 156 (0 : Int32) at_155 rfl rfl ?_
  refine r_laload C 157 (v := (.long c0)) V_b2 ⟨by decide, by decide⟩ rfl at_156 rfl ?_
  refine r_callV C 160 (y := (⟨"com/example/indenture/indenture/app/HeapWatch", "sample", "(JJ)Z"⟩ : MethodName)) (z := (⟨"com/example/indenture/indenture/app/HeapWatch", "sample", "(JJ)Z"⟩ : MethodName)) (D := "com/example/indenture/indenture/app/HeapWatch") (a := b11) [(.long t0), (.long c0)] [] (rmSa_1_0_0 l Z a0 hw b11 t0 c0 at_ ac kt kc (0 : Int64) (0 : Int64) h12 n0 Zs hW V_t V_c ntc g_b11 g_at_ g_ac  (by rw [own_0]; decide) (by rw [own_0]; decide) (by rw [own_0]; decide)) (hw _ (List.mem_of_getElem? (i := 17) rfl)) (hw _ (List.mem_of_getElem? (i := 18) rfl)) (fun s hZ' => notFace_of_selects (args := #[]) (mvT hZ' (hw _ (List.mem_of_getElem? (i := 20) rfl)))) (hw _ (List.mem_of_getElem? (i := 20) rfl)) (hw _ (List.mem_of_getElem? (i := 19) rfl)) (hw _ (List.mem_of_getElem? (i := 6) rfl)) (hw _ (List.mem_of_getElem? (i := 21) rfl)) hW.1 (by decide) (lenOf pd__JJ_Z rfl) rfl rfl (by decide) (Nat.le_of_ble_eq_true rfl) (by decide) (by decide) rfl at_157 rfl ?_
  intro v13 h13 q13 z13
  obtain ⟨rfl, K13, hW, V_t, V_c⟩ := q13
  replace V_b1 := V_b1.keep K13 (ninS ne_b1_b11 (ninS n_b1_at_ (ninS n_b1_ac nin0)))
  replace V_b2 := V_b2.keep K13 (ninS ne_b2_b11 (ninS n_b2_at_ (ninS n_b2_ac nin0)))
  replace KP := KP.trans K13 (allS (Or.inr sz_b11) (allS (Or.inr sz_at_) (allS (Or.inr sz_ac) all0)))
  replace Zs := Nat.le_trans Zs K13.1
  show Run _ _ _ _ _ _ _ _ 160 #[.val (.long p0), .second, .val (.long p1), .second, .val (.long p2), .second, .val (.long p3), .second, .val (.long p4), .second, .val (.long p5), .second, .val (.int (1 : Int32)), .val (.ref b1), .val (.ref b2), .val (.ref b11), .unset, .unset, .unset, .unset] [(.int (sm (t0 - t0) (c0 - c0)))]
  refine r_istore C 162 #[.val (.long p0), .second, .val (.long p1), .second, .val (.long p2), .second, .val (.long p3), .second, .val (.long p4), .second, .val (.long p5), .second, .val (.int (1 : Int32)), .val (.ref b1), .val (.ref b2), .val (.ref b11), .val (.int (sm (t0 - t0) (c0 - c0))), .unset, .unset, .unset] at_160 rfl rfl ?_
  refine r_aload C 164 at_162 rfl rfl rfl ?_
  refine r_aload C 166 at_164 rfl rfl rfl ?_
  refine r_iconst C 167 (1 : Int32) at_166 rfl rfl ?_
  refine r_laload C 168 (v := (.long t1)) V_b1 ⟨by decide, by decide⟩ rfl at_167 rfl ?_
  refine r_aload C 170 at_168 rfl rfl rfl ?_
  refine r_iconst C 171 (1 : Int32) at_170 rfl rfl ?_
  refine r_laload C 172 (v := (.long c1)) V_b2 ⟨by decide, by decide⟩ rfl at_171 rfl ?_
  refine r_callV C 175 (y := (⟨"com/example/indenture/indenture/app/HeapWatch", "sample", "(JJ)Z"⟩ : MethodName)) (z := (⟨"com/example/indenture/indenture/app/HeapWatch", "sample", "(JJ)Z"⟩ : MethodName)) (D := "com/example/indenture/indenture/app/HeapWatch") (a := b11) [(.long t1), (.long c1)] [] (rmSa_1_0_1 l Z a0 hw b11 t1 c1 at_ ac kt kc t0 c0 h13 n0 Zs hW V_t V_c ntc g_b11 g_at_ g_ac  (by rw [own_0]; decide) (by rw [own_0]; decide) (by rw [own_0]; decide)) (hw _ (List.mem_of_getElem? (i := 17) rfl)) (hw _ (List.mem_of_getElem? (i := 18) rfl)) (fun s hZ' => notFace_of_selects (args := #[]) (mvT hZ' (hw _ (List.mem_of_getElem? (i := 20) rfl)))) (hw _ (List.mem_of_getElem? (i := 20) rfl)) (hw _ (List.mem_of_getElem? (i := 19) rfl)) (hw _ (List.mem_of_getElem? (i := 6) rfl)) (hw _ (List.mem_of_getElem? (i := 21) rfl)) hW.1 (by decide) (lenOf pd__JJ_Z rfl) rfl rfl (by decide) (Nat.le_of_ble_eq_true rfl) (by decide) (by decide) rfl at_172 rfl ?_
  intro v14 h14 q14 z14
  obtain ⟨rfl, K14, hW, V_t, V_c⟩ := q14
  replace V_b1 := V_b1.keep K14 (ninS ne_b1_b11 (ninS n_b1_at_ (ninS n_b1_ac nin0)))
  replace V_b2 := V_b2.keep K14 (ninS ne_b2_b11 (ninS n_b2_at_ (ninS n_b2_ac nin0)))
  replace KP := KP.trans K14 (allS (Or.inr sz_b11) (allS (Or.inr sz_at_) (allS (Or.inr sz_ac) all0)))
  replace Zs := Nat.le_trans Zs K14.1
  show Run _ _ _ _ _ _ _ _ 175 #[.val (.long p0), .second, .val (.long p1), .second, .val (.long p2), .second, .val (.long p3), .second, .val (.long p4), .second, .val (.long p5), .second, .val (.int (1 : Int32)), .val (.ref b1), .val (.ref b2), .val (.ref b11), .val (.int (sm (t0 - t0) (c0 - c0))), .unset, .unset, .unset] [(.int (sm (t1 - t1) (c1 - c1)))]
  refine r_istore C 177 #[.val (.long p0), .second, .val (.long p1), .second, .val (.long p2), .second, .val (.long p3), .second, .val (.long p4), .second, .val (.long p5), .second, .val (.int (1 : Int32)), .val (.ref b1), .val (.ref b2), .val (.ref b11), .val (.int (sm (t0 - t0) (c0 - c0))), .val (.int (sm (t1 - t1) (c1 - c1))), .unset, .unset] at_175 rfl rfl ?_
  refine r_aload C 179 at_177 rfl rfl rfl ?_
  refine r_aload C 181 at_179 rfl rfl rfl ?_
  refine r_iconst C 182 (2 : Int32) at_181 rfl rfl ?_
  refine r_laload C 183 (v := (.long t2)) V_b1 ⟨by decide, by decide⟩ rfl at_182 rfl ?_
  refine r_aload C 185 at_183 rfl rfl rfl ?_
  refine r_iconst C 186 (2 : Int32) at_185 rfl rfl ?_
  refine r_laload C 187 (v := (.long c2)) V_b2 ⟨by decide, by decide⟩ rfl at_186 rfl ?_
  refine r_callV C 190 (y := (⟨"com/example/indenture/indenture/app/HeapWatch", "sample", "(JJ)Z"⟩ : MethodName)) (z := (⟨"com/example/indenture/indenture/app/HeapWatch", "sample", "(JJ)Z"⟩ : MethodName)) (D := "com/example/indenture/indenture/app/HeapWatch") (a := b11) [(.long t2), (.long c2)] [] (rmSa_1_0_1 l Z a0 hw b11 t2 c2 at_ ac kt kc t1 c1 h14 n0 Zs hW V_t V_c ntc g_b11 g_at_ g_ac  (by rw [own_0]; decide) (by rw [own_0]; decide) (by rw [own_0]; decide)) (hw _ (List.mem_of_getElem? (i := 17) rfl)) (hw _ (List.mem_of_getElem? (i := 18) rfl)) (fun s hZ' => notFace_of_selects (args := #[]) (mvT hZ' (hw _ (List.mem_of_getElem? (i := 20) rfl)))) (hw _ (List.mem_of_getElem? (i := 20) rfl)) (hw _ (List.mem_of_getElem? (i := 19) rfl)) (hw _ (List.mem_of_getElem? (i := 6) rfl)) (hw _ (List.mem_of_getElem? (i := 21) rfl)) hW.1 (by decide) (lenOf pd__JJ_Z rfl) rfl rfl (by decide) (Nat.le_of_ble_eq_true rfl) (by decide) (by decide) rfl at_187 rfl ?_
  intro v15 h15 q15 z15
  obtain ⟨rfl, K15, hW, V_t, V_c⟩ := q15
  replace V_b1 := V_b1.keep K15 (ninS ne_b1_b11 (ninS n_b1_at_ (ninS n_b1_ac nin0)))
  replace V_b2 := V_b2.keep K15 (ninS ne_b2_b11 (ninS n_b2_at_ (ninS n_b2_ac nin0)))
  replace KP := KP.trans K15 (allS (Or.inr sz_b11) (allS (Or.inr sz_at_) (allS (Or.inr sz_ac) all0)))
  replace Zs := Nat.le_trans Zs K15.1
  show Run _ _ _ _ _ _ _ _ 190 #[.val (.long p0), .second, .val (.long p1), .second, .val (.long p2), .second, .val (.long p3), .second, .val (.long p4), .second, .val (.long p5), .second, .val (.int (1 : Int32)), .val (.ref b1), .val (.ref b2), .val (.ref b11), .val (.int (sm (t0 - t0) (c0 - c0))), .val (.int (sm (t1 - t1) (c1 - c1))), .unset, .unset] [(.int (sm (t2 - t2) (c2 - c2)))]
  refine r_istore C 192 #[.val (.long p0), .second, .val (.long p1), .second, .val (.long p2), .second, .val (.long p3), .second, .val (.long p4), .second, .val (.long p5), .second, .val (.int (1 : Int32)), .val (.ref b1), .val (.ref b2), .val (.ref b11), .val (.int (sm (t0 - t0) (c0 - c0))), .val (.int (sm (t1 - t1) (c1 - c1))), .val (.int (sm (t2 - t2) (c2 - c2))), .unset] at_190 rfl rfl ?_
  refine r_aload C 194 at_192 rfl rfl rfl ?_
  refine r_aload C 196 at_194 rfl rfl rfl ?_
  refine r_iconst C 197 (3 : Int32) at_196 rfl rfl ?_
  refine r_laload C 198 (v := (.long t3)) V_b1 ⟨by decide, by decide⟩ rfl at_197 rfl ?_
  refine r_aload C 200 at_198 rfl rfl rfl ?_
  refine r_iconst C 201 (3 : Int32) at_200 rfl rfl ?_
  refine r_laload C 202 (v := (.long c3)) V_b2 ⟨by decide, by decide⟩ rfl at_201 rfl ?_
  refine r_callV C 205 (y := (⟨"com/example/indenture/indenture/app/HeapWatch", "sample", "(JJ)Z"⟩ : MethodName)) (z := (⟨"com/example/indenture/indenture/app/HeapWatch", "sample", "(JJ)Z"⟩ : MethodName)) (D := "com/example/indenture/indenture/app/HeapWatch") (a := b11) [(.long t3), (.long c3)] [] (rmSa_1_0_1 l Z a0 hw b11 t3 c3 at_ ac kt kc t2 c2 h15 n0 Zs hW V_t V_c ntc g_b11 g_at_ g_ac  (by rw [own_0]; decide) (by rw [own_0]; decide) (by rw [own_0]; decide)) (hw _ (List.mem_of_getElem? (i := 17) rfl)) (hw _ (List.mem_of_getElem? (i := 18) rfl)) (fun s hZ' => notFace_of_selects (args := #[]) (mvT hZ' (hw _ (List.mem_of_getElem? (i := 20) rfl)))) (hw _ (List.mem_of_getElem? (i := 20) rfl)) (hw _ (List.mem_of_getElem? (i := 19) rfl)) (hw _ (List.mem_of_getElem? (i := 6) rfl)) (hw _ (List.mem_of_getElem? (i := 21) rfl)) hW.1 (by decide) (lenOf pd__JJ_Z rfl) rfl rfl (by decide) (Nat.le_of_ble_eq_true rfl) (by decide) (by decide) rfl at_202 rfl ?_
  intro v16 h16 q16 z16
  obtain ⟨rfl, K16, hW, V_t, V_c⟩ := q16
  replace V_b1 := V_b1.keep K16 (ninS ne_b1_b11 (ninS n_b1_at_ (ninS n_b1_ac nin0)))
  replace V_b2 := V_b2.keep K16 (ninS ne_b2_b11 (ninS n_b2_at_ (ninS n_b2_ac nin0)))
  replace KP := KP.trans K16 (allS (Or.inr sz_b11) (allS (Or.inr sz_at_) (allS (Or.inr sz_ac) all0)))
  replace Zs := Nat.le_trans Zs K16.1
  show Run _ _ _ _ _ _ _ _ 205 #[.val (.long p0), .second, .val (.long p1), .second, .val (.long p2), .second, .val (.long p3), .second, .val (.long p4), .second, .val (.long p5), .second, .val (.int (1 : Int32)), .val (.ref b1), .val (.ref b2), .val (.ref b11), .val (.int (sm (t0 - t0) (c0 - c0))), .val (.int (sm (t1 - t1) (c1 - c1))), .val (.int (sm (t2 - t2) (c2 - c2))), .unset] [(.int (sm (t3 - t3) (c3 - c3)))]
  refine r_istore C 207 #[.val (.long p0), .second, .val (.long p1), .second, .val (.long p2), .second, .val (.long p3), .second, .val (.long p4), .second, .val (.long p5), .second, .val (.int (1 : Int32)), .val (.ref b1), .val (.ref b2), .val (.ref b11), .val (.int (sm (t0 - t0) (c0 - c0))), .val (.int (sm (t1 - t1) (c1 - c1))), .val (.int (sm (t2 - t2) (c2 - c2))), .val (.int (sm (t3 - t3) (c3 - c3)))] at_205 rfl rfl ?_
  refine r_iload C 209 at_207 rfl rfl ?_
  refine r_aload C 211 at_209 rfl rfl rfl ?_
  refine r_aload C 213 at_211 rfl rfl rfl ?_
  refine r_iconst C 214 (0 : Int32) at_213 rfl rfl ?_
  refine r_iload C 216 at_214 rfl rfl ?_
  refine r_callS C 219 (y := (⟨"com/example/indenture/indenture/app/HeapWatchSamplePinLaw", "expect", "([J[JII)Z"⟩ : MethodName)) (a := 0) [(.ref b1), (.ref b2), (.int (0 : Int32)), (.int (1 : Int32))] [(.int (sm (t0 - t0) (c0 - c0)))] (rmXp0 l Z a0 hw b1 b2 (1 : Int32) kA1 kA2 t0 t1 t2 t3 c0 c1 c2 c3 h16 n0 Zs V_b1 V_b2) (hw _ (List.mem_of_getElem? (i := 33) rfl)) (hw _ (List.mem_of_getElem? (i := 34) rfl)) (hw _ (List.mem_of_getElem? (i := 35) rfl)) (hw _ (List.mem_of_getElem? (i := 36) rfl)) (by decide) (lenOf pd___J_JII_Z rfl) rfl rfl (by decide) (Nat.le_of_ble_eq_true rfl) (by decide) (by decide) rfl at_216 rfl ?_
  intro v17 h17 q17 z17
  obtain ⟨rfl, rfl⟩ := q17
  show Run _ _ _ _ _ _ _ _ 219 #[.val (.long p0), .second, .val (.long p1), .second, .val (.long p2), .second, .val (.long p3), .second, .val (.long p4), .second, .val (.long p5), .second, .val (.int (1 : Int32)), .val (.ref b1), .val (.ref b2), .val (.ref b11), .val (.int (sm (t0 - t0) (c0 - c0))), .val (.int (sm (t1 - t1) (c1 - c1))), .val (.int (sm (t2 - t2) (c2 - c2))), .val (.int (sm (t3 - t3) (c3 - c3)))] [(.int (0 : Int32)), (.int (sm (t0 - t0) (c0 - c0)))]
  refine r_icmp_ne C 271 222 at_219 (by decide) (by decide) rfl (fun q => absurd (show sm _ _ = (0 : Int32) by simp only [sm, jg, own_self t0, show (((1 : Int32) - 1 : Int32) < 1) = True by decide, show (((1 : Int32) - 1 : Int32) < 2) = True by decide, show (((1 : Int32) - 1 : Int32) < 3) = True by decide, if_true, if_false, ite_self]) q) (fun _ => ?_)
  refine r_iload C 224 at_222 rfl rfl ?_
  refine r_aload C 226 at_224 rfl rfl rfl ?_
  refine r_aload C 228 at_226 rfl rfl rfl ?_
  refine r_iconst C 229 (1 : Int32) at_228 rfl rfl ?_
  refine r_iload C 231 at_229 rfl rfl ?_
  refine r_callS C 234 (y := (⟨"com/example/indenture/indenture/app/HeapWatchSamplePinLaw", "expect", "([J[JII)Z"⟩ : MethodName)) (a := 0) [(.ref b1), (.ref b2), (.int (1 : Int32)), (.int (1 : Int32))] [(.int (sm (t1 - t1) (c1 - c1)))] (rmXp1 l Z a0 hw b1 b2 (1 : Int32) kA1 kA2 t0 t1 t2 t3 c0 c1 c2 c3 h16 n0 Zs V_b1 V_b2) (hw _ (List.mem_of_getElem? (i := 33) rfl)) (hw _ (List.mem_of_getElem? (i := 34) rfl)) (hw _ (List.mem_of_getElem? (i := 35) rfl)) (hw _ (List.mem_of_getElem? (i := 36) rfl)) (by decide) (lenOf pd___J_JII_Z rfl) rfl rfl (by decide) (Nat.le_of_ble_eq_true rfl) (by decide) (by decide) rfl at_231 rfl ?_
  intro v18 h18 q18 z18
  obtain ⟨rfl, rfl⟩ := q18
  show Run _ _ _ _ _ _ _ _ 234 #[.val (.long p0), .second, .val (.long p1), .second, .val (.long p2), .second, .val (.long p3), .second, .val (.long p4), .second, .val (.long p5), .second, .val (.int (1 : Int32)), .val (.ref b1), .val (.ref b2), .val (.ref b11), .val (.int (sm (t0 - t0) (c0 - c0))), .val (.int (sm (t1 - t1) (c1 - c1))), .val (.int (sm (t2 - t2) (c2 - c2))), .val (.int (sm (t3 - t3) (c3 - c3)))] [(.int (ex1 (1 : Int32) t0 t1 t2 t3 c0 c1 c2 c3)), (.int (sm (t1 - t1) (c1 - c1)))]
  refine r_icmp_ne C 271 237 at_234 (by decide) (by decide) rfl (fun q => absurd (show sm _ _ = (ex1 (1 : Int32) t0 t1 t2 t3 c0 c1 c2 c3) by simp only [ex1, sm, jg, own_self t1, show (((1 : Int32) - 1 : Int32) < 1) = True by decide, show (((1 : Int32) - 1 : Int32) < 2) = True by decide, show (((1 : Int32) - 1 : Int32) < 3) = True by decide, if_true, if_false, ite_self]) q) (fun _ => ?_)
  refine r_iload C 239 at_237 rfl rfl ?_
  refine r_aload C 241 at_239 rfl rfl rfl ?_
  refine r_aload C 243 at_241 rfl rfl rfl ?_
  refine r_iconst C 244 (2 : Int32) at_243 rfl rfl ?_
  refine r_iload C 246 at_244 rfl rfl ?_
  refine r_callS C 249 (y := (⟨"com/example/indenture/indenture/app/HeapWatchSamplePinLaw", "expect", "([J[JII)Z"⟩ : MethodName)) (a := 0) [(.ref b1), (.ref b2), (.int (2 : Int32)), (.int (1 : Int32))] [(.int (sm (t2 - t2) (c2 - c2)))] (rmXp2 l Z a0 hw b1 b2 (1 : Int32) kA1 kA2 t0 t1 t2 t3 c0 c1 c2 c3 h16 n0 Zs V_b1 V_b2) (hw _ (List.mem_of_getElem? (i := 33) rfl)) (hw _ (List.mem_of_getElem? (i := 34) rfl)) (hw _ (List.mem_of_getElem? (i := 35) rfl)) (hw _ (List.mem_of_getElem? (i := 36) rfl)) (by decide) (lenOf pd___J_JII_Z rfl) rfl rfl (by decide) (Nat.le_of_ble_eq_true rfl) (by decide) (by decide) rfl at_246 rfl ?_
  intro v19 h19 q19 z19
  obtain ⟨rfl, rfl⟩ := q19
  show Run _ _ _ _ _ _ _ _ 249 #[.val (.long p0), .second, .val (.long p1), .second, .val (.long p2), .second, .val (.long p3), .second, .val (.long p4), .second, .val (.long p5), .second, .val (.int (1 : Int32)), .val (.ref b1), .val (.ref b2), .val (.ref b11), .val (.int (sm (t0 - t0) (c0 - c0))), .val (.int (sm (t1 - t1) (c1 - c1))), .val (.int (sm (t2 - t2) (c2 - c2))), .val (.int (sm (t3 - t3) (c3 - c3)))] [(.int (ex2 (1 : Int32) t0 t1 t2 t3 c0 c1 c2 c3)), (.int (sm (t2 - t2) (c2 - c2)))]
  refine r_icmp_ne C 271 252 at_249 (by decide) (by decide) rfl (fun q => absurd (show sm _ _ = (ex2 (1 : Int32) t0 t1 t2 t3 c0 c1 c2 c3) by simp only [ex2, sm, jg, own_self t2, show (((1 : Int32) - 1 : Int32) < 1) = True by decide, show (((1 : Int32) - 1 : Int32) < 2) = True by decide, show (((1 : Int32) - 1 : Int32) < 3) = True by decide, if_true, if_false, ite_self]) q) (fun _ => ?_)
  refine r_iload C 254 at_252 rfl rfl ?_
  refine r_aload C 256 at_254 rfl rfl rfl ?_
  refine r_aload C 258 at_256 rfl rfl rfl ?_
  refine r_iconst C 259 (3 : Int32) at_258 rfl rfl ?_
  refine r_iload C 261 at_259 rfl rfl ?_
  refine r_callS C 264 (y := (⟨"com/example/indenture/indenture/app/HeapWatchSamplePinLaw", "expect", "([J[JII)Z"⟩ : MethodName)) (a := 0) [(.ref b1), (.ref b2), (.int (3 : Int32)), (.int (1 : Int32))] [(.int (sm (t3 - t3) (c3 - c3)))] (rmXp3 l Z a0 hw b1 b2 (1 : Int32) kA1 kA2 t0 t1 t2 t3 c0 c1 c2 c3 h16 n0 Zs V_b1 V_b2) (hw _ (List.mem_of_getElem? (i := 33) rfl)) (hw _ (List.mem_of_getElem? (i := 34) rfl)) (hw _ (List.mem_of_getElem? (i := 35) rfl)) (hw _ (List.mem_of_getElem? (i := 36) rfl)) (by decide) (lenOf pd___J_JII_Z rfl) rfl rfl (by decide) (Nat.le_of_ble_eq_true rfl) (by decide) (by decide) rfl at_261 rfl ?_
  intro v20 h20 q20 z20
  obtain ⟨rfl, rfl⟩ := q20
  show Run _ _ _ _ _ _ _ _ 264 #[.val (.long p0), .second, .val (.long p1), .second, .val (.long p2), .second, .val (.long p3), .second, .val (.long p4), .second, .val (.long p5), .second, .val (.int (1 : Int32)), .val (.ref b1), .val (.ref b2), .val (.ref b11), .val (.int (sm (t0 - t0) (c0 - c0))), .val (.int (sm (t1 - t1) (c1 - c1))), .val (.int (sm (t2 - t2) (c2 - c2))), .val (.int (sm (t3 - t3) (c3 - c3)))] [(.int (ex3 (1 : Int32) t0 t1 t2 t3 c0 c1 c2 c3)), (.int (sm (t3 - t3) (c3 - c3)))]
  refine r_icmp_ne C 271 267 at_264 (by decide) (by decide) rfl (fun q => absurd (show sm _ _ = (ex3 (1 : Int32) t0 t1 t2 t3 c0 c1 c2 c3) by simp only [ex3, sm, jg, own_self t3, show (((1 : Int32) - 1 : Int32) < 1) = True by decide, show (((1 : Int32) - 1 : Int32) < 2) = True by decide, show (((1 : Int32) - 1 : Int32) < 3) = True by decide, if_true, if_false, ite_self]) q) (fun _ => ?_)
  refine r_iconst C 268 (1 : Int32) at_267 rfl rfl ?_
  refine r_goto C 272 at_268 (by decide) (by decide) ?_
  exact r_nreturn C (1 : Int32) rfl (t := .boolean) (by simp) rfl at_272 (by decide) (by decide) rfl
set_option maxRecDepth 65536 in
set_option maxHeartbeats 40000000 in
theorem rmJ2 (l : Launch) (Z : State) (a0 : Array Value) (hw : ∀ d ∈ tables_1, d.before a0 Z = true) (p0 p1 p2 p3 p4 p5 : Int64) (h0 : Heap) (n0 : Nat) (Zs : n0 ≤ h0.size) (K : Ctx) (C : Ok Z "com/example/indenture/indenture/app/HeapWatchSamplePinLaw" "law" code maxLocals ret K) : Run l room_1 n0 (fun v _ => v = some (.int 1)) K h0 0 0 14 #[.val (.long p0), .second, .val (.long p1), .second, .val (.long p2), .second, .val (.long p3), .second, .val (.long p4), .second, .val (.long p5), .second, .val (.int (2 : Int32)), .unset, .unset, .unset, .unset, .unset, .unset, .unset] [] := by
  have KP := Keep.refl h0 []
  refine r_iconst C 15 (4 : Int32) at_14 rfl rfl ?_
  refine r_newarray C 17 4 (hw _ (List.mem_of_getElem? (i := 1) rfl)) at_15 rfl (by decide) (by decide) (by decide) (by decide) (by decide) ?_
  intro h1 b1 kA1 g1 E1 V_b1
  replace V_b1 : Arv Z h1 b1 kA1 .long (4 : Int32) [(.long (0 : Int64)), (.long (0 : Int64)), (.long (0 : Int64)), (.long (0 : Int64))] (.long (0 : Int64)) := V_b1.pad (pad_rep [] (.long (0 : Int64)) 4)
  have g_b1 : n0 ≤ b1 := g1 ▸ Zs
  replace Zs := Nat.le_trans Zs E1.1
  have sz_b1 : h0.size ≤ b1 := g1 ▸ KP.1
  replace KP := KP.ext E1
  refine r_astore C 19 #[.val (.long p0), .second, .val (.long p1), .second, .val (.long p2), .second, .val (.long p3), .second, .val (.long p4), .second, .val (.long p5), .second, .val (.int (2 : Int32)), .val (.ref b1), .unset, .unset, .unset, .unset, .unset, .unset] at_17 rfl rfl rfl ?_
  refine r_iconst C 20 (4 : Int32) at_19 rfl rfl ?_
  refine r_newarray C 22 4 (hw _ (List.mem_of_getElem? (i := 1) rfl)) at_20 rfl (by decide) (by decide) (by decide) (by decide) (by decide) ?_
  intro h2 b2 kA2 g2 E2 V_b2
  replace V_b2 : Arv Z h2 b2 kA2 .long (4 : Int32) [(.long (0 : Int64)), (.long (0 : Int64)), (.long (0 : Int64)), (.long (0 : Int64))] (.long (0 : Int64)) := V_b2.pad (pad_rep [] (.long (0 : Int64)) 4)
  have g_b2 : n0 ≤ b2 := g2 ▸ Zs
  have lt_b1_b2 : b1 < b2 := Nat.lt_of_lt_of_le V_b1.lt (Nat.le_of_eq g2.symm)
  have ne_b1_b2 : b1 ≠ b2 := Nat.ne_of_lt lt_b1_b2
  replace V_b1 := V_b1.ext E2
  replace Zs := Nat.le_trans Zs E2.1
  have sz_b2 : h0.size ≤ b2 := g2 ▸ KP.1
  replace KP := KP.ext E2
  refine r_astore C 24 #[.val (.long p0), .second, .val (.long p1), .second, .val (.long p2), .second, .val (.long p3), .second, .val (.long p4), .second, .val (.long p5), .second, .val (.int (2 : Int32)), .val (.ref b1), .val (.ref b2), .unset, .unset, .unset, .unset, .unset] at_22 rfl rfl rfl ?_
  refine r_aload C 26 at_24 rfl rfl rfl ?_
  refine r_iconst C 27 (0 : Int32) at_26 rfl rfl ?_
  refine r_lloadN C 28 at_27 rfl rfl ?_
  refine r_lastore C 29 V_b1 ⟨by decide, by decide⟩ (Nat.le_of_ble_eq_true rfl) at_28 rfl g_b1 ?_
  intro h3 W3 V3
  replace V_b2 := V_b2.other W3 (Ne.symm ne_b1_b2)
  replace Zs := Nat.le_trans Zs (Nat.le_of_eq W3.size.symm)
  replace KP := KP.wr W3 (Or.inr sz_b1)
  replace V_b1 : Arv Z h3 b1 kA1 .long (4 : Int32) [(.long p0), (.long (0 : Int64)), (.long (0 : Int64)), (.long (0 : Int64))] (.long (0 : Int64)) := V3
  refine r_aload C 31 at_29 rfl rfl rfl ?_
  refine r_iconst C 32 (1 : Int32) at_31 rfl rfl ?_
  refine r_aload C 34 at_32 rfl rfl rfl ?_
  refine r_iconst C 35 (0 : Int32) at_34 rfl rfl ?_
  refine r_laload C 36 (v := (.long p0)) V_b1 ⟨by decide, by decide⟩ rfl at_35 rfl ?_
  refine r_lconst C 37 (1 : Int64) at_36 rfl rfl ?_
  refine r_ladd C 38 at_37 rfl ?_
  refine r_lloadN C 39 at_38 rfl rfl ?_
  refine r_ldc2_w C 42 at_39 rfl (hw _ (List.mem_of_getElem? (i := 2) rfl)) ?_
  refine r_land C 43 at_42 rfl ?_
  refine r_ladd C 44 at_43 rfl ?_
  refine r_lastore C 45 V_b1 ⟨by decide, by decide⟩ (Nat.le_of_ble_eq_true rfl) at_44 rfl g_b1 ?_
  intro h4 W4 V4
  replace V_b2 := V_b2.other W4 (Ne.symm ne_b1_b2)
  replace Zs := Nat.le_trans Zs (Nat.le_of_eq W4.size.symm)
  replace KP := KP.wr W4 (Or.inr sz_b1)
  replace V_b1 : Arv Z h4 b1 kA1 .long (4 : Int32) [(.long p0), (.long ((p0 + (1 : Int64)) + (p1 &&& (17179869183 : Int64)))), (.long (0 : Int64)), (.long (0 : Int64))] (.long (0 : Int64)) := V4
  refine r_aload C 47 at_45 rfl rfl rfl ?_
  refine r_iconst C 48 (2 : Int32) at_47 rfl rfl ?_
  refine r_aload C 50 at_48 rfl rfl rfl ?_
  refine r_iconst C 51 (1 : Int32) at_50 rfl rfl ?_
  refine r_laload C 52 (v := (.long ((p0 + (1 : Int64)) + (p1 &&& (17179869183 : Int64))))) V_b1 ⟨by decide, by decide⟩ rfl at_51 rfl ?_
  refine r_lconst C 53 (1 : Int64) at_52 rfl rfl ?_
  refine r_ladd C 54 at_53 rfl ?_
  refine r_lload C 56 at_54 rfl rfl ?_
  refine r_ldc2_w C 59 at_56 rfl (hw _ (List.mem_of_getElem? (i := 2) rfl)) ?_
  refine r_land C 60 at_59 rfl ?_
  refine r_ladd C 61 at_60 rfl ?_
  refine r_lastore C 62 V_b1 ⟨by decide, by decide⟩ (Nat.le_of_ble_eq_true rfl) at_61 rfl g_b1 ?_
  intro h5 W5 V5
  replace V_b2 := V_b2.other W5 (Ne.symm ne_b1_b2)
  replace Zs := Nat.le_trans Zs (Nat.le_of_eq W5.size.symm)
  replace KP := KP.wr W5 (Or.inr sz_b1)
  replace V_b1 : Arv Z h5 b1 kA1 .long (4 : Int32) [(.long p0), (.long ((p0 + (1 : Int64)) + (p1 &&& (17179869183 : Int64)))), (.long ((((p0 + (1 : Int64)) + (p1 &&& (17179869183 : Int64))) + (1 : Int64)) + (p2 &&& (17179869183 : Int64)))), (.long (0 : Int64))] (.long (0 : Int64)) := V5
  refine r_aload C 64 at_62 rfl rfl rfl ?_
  refine r_iconst C 65 (3 : Int32) at_64 rfl rfl ?_
  refine r_aload C 67 at_65 rfl rfl rfl ?_
  refine r_iconst C 68 (2 : Int32) at_67 rfl rfl ?_
  refine r_laload C 69 (v := (.long ((((p0 + (1 : Int64)) + (p1 &&& (17179869183 : Int64))) + (1 : Int64)) + (p2 &&& (17179869183 : Int64))))) V_b1 ⟨by decide, by decide⟩ rfl at_68 rfl ?_
  refine r_lconst C 70 (1 : Int64) at_69 rfl rfl ?_
  refine r_ladd C 71 at_70 rfl ?_
  refine r_lload C 73 at_71 rfl rfl ?_
  refine r_ldc2_w C 76 at_73 rfl (hw _ (List.mem_of_getElem? (i := 2) rfl)) ?_
  refine r_land C 77 at_76 rfl ?_
  refine r_ladd C 78 at_77 rfl ?_
  refine r_lastore C 79 V_b1 ⟨by decide, by decide⟩ (Nat.le_of_ble_eq_true rfl) at_78 rfl g_b1 ?_
  intro h6 W6 V6
  replace V_b2 := V_b2.other W6 (Ne.symm ne_b1_b2)
  replace Zs := Nat.le_trans Zs (Nat.le_of_eq W6.size.symm)
  replace KP := KP.wr W6 (Or.inr sz_b1)
  replace V_b1 : Arv Z h6 b1 kA1 .long (4 : Int32) [(.long p0), (.long ((p0 + (1 : Int64)) + (p1 &&& (17179869183 : Int64)))), (.long ((((p0 + (1 : Int64)) + (p1 &&& (17179869183 : Int64))) + (1 : Int64)) + (p2 &&& (17179869183 : Int64)))), (.long ((((((p0 + (1 : Int64)) + (p1 &&& (17179869183 : Int64))) + (1 : Int64)) + (p2 &&& (17179869183 : Int64))) + (1 : Int64)) + (p3 &&& (17179869183 : Int64))))] (.long (0 : Int64)) := V6
  refine r_aload C 81 at_79 rfl rfl rfl ?_
  refine r_iconst C 82 (0 : Int32) at_81 rfl rfl ?_
  refine r_lload C 84 at_82 rfl rfl ?_
  refine r_lastore C 85 V_b2 ⟨by decide, by decide⟩ (Nat.le_of_ble_eq_true rfl) at_84 rfl g_b2 ?_
  intro h7 W7 V7
  replace V_b1 := V_b1.other W7 ne_b1_b2
  replace Zs := Nat.le_trans Zs (Nat.le_of_eq W7.size.symm)
  replace KP := KP.wr W7 (Or.inr sz_b2)
  replace V_b2 : Arv Z h7 b2 kA2 .long (4 : Int32) [(.long p4), (.long (0 : Int64)), (.long (0 : Int64)), (.long (0 : Int64))] (.long (0 : Int64)) := V7
  refine r_aload C 87 at_85 rfl rfl rfl ?_
  refine r_iconst C 88 (1 : Int32) at_87 rfl rfl ?_
  refine r_aload C 90 at_88 rfl rfl rfl ?_
  refine r_iconst C 91 (0 : Int32) at_90 rfl rfl ?_
  refine r_laload C 92 (v := (.long p4)) V_b2 ⟨by decide, by decide⟩ rfl at_91 rfl ?_
  refine r_lload C 94 at_92 rfl rfl ?_
  refine r_ldc2_w C 97 at_94 rfl (hw _ (List.mem_of_getElem? (i := 3) rfl)) ?_
  refine r_land C 98 at_97 rfl ?_
  refine r_ladd C 99 at_98 rfl ?_
  refine r_lastore C 100 V_b2 ⟨by decide, by decide⟩ (Nat.le_of_ble_eq_true rfl) at_99 rfl g_b2 ?_
  intro h8 W8 V8
  replace V_b1 := V_b1.other W8 ne_b1_b2
  replace Zs := Nat.le_trans Zs (Nat.le_of_eq W8.size.symm)
  replace KP := KP.wr W8 (Or.inr sz_b2)
  replace V_b2 : Arv Z h8 b2 kA2 .long (4 : Int32) [(.long p4), (.long (p4 + (p5 &&& (65535 : Int64)))), (.long (0 : Int64)), (.long (0 : Int64))] (.long (0 : Int64)) := V8
  refine r_aload C 102 at_100 rfl rfl rfl ?_
  refine r_iconst C 103 (2 : Int32) at_102 rfl rfl ?_
  refine r_aload C 105 at_103 rfl rfl rfl ?_
  refine r_iconst C 106 (1 : Int32) at_105 rfl rfl ?_
  refine r_laload C 107 (v := (.long (p4 + (p5 &&& (65535 : Int64))))) V_b2 ⟨by decide, by decide⟩ rfl at_106 rfl ?_
  refine r_lload C 109 at_107 rfl rfl ?_
  refine r_bipush C 111 (16 : Int32) at_109 rfl rfl ?_
  refine r_lushr C 112 at_111 rfl ?_
  refine r_ldc2_w C 115 at_112 rfl (hw _ (List.mem_of_getElem? (i := 3) rfl)) ?_
  refine r_land C 116 at_115 rfl ?_
  refine r_ladd C 117 at_116 rfl ?_
  refine r_lastore C 118 V_b2 ⟨by decide, by decide⟩ (Nat.le_of_ble_eq_true rfl) at_117 rfl g_b2 ?_
  intro h9 W9 V9
  replace V_b1 := V_b1.other W9 ne_b1_b2
  replace Zs := Nat.le_trans Zs (Nat.le_of_eq W9.size.symm)
  replace KP := KP.wr W9 (Or.inr sz_b2)
  replace V_b2 : Arv Z h9 b2 kA2 .long (4 : Int32) [(.long p4), (.long (p4 + (p5 &&& (65535 : Int64)))), (.long ((p4 + (p5 &&& (65535 : Int64))) + (((p5.toUInt64 >>> ((16 : Int32) &&& 0x3f).toInt64.toUInt64).toInt64) &&& (65535 : Int64)))), (.long (0 : Int64))] (.long (0 : Int64)) := V9
  refine r_aload C 120 at_118 rfl rfl rfl ?_
  refine r_iconst C 121 (3 : Int32) at_120 rfl rfl ?_
  refine r_aload C 123 at_121 rfl rfl rfl ?_
  refine r_iconst C 124 (2 : Int32) at_123 rfl rfl ?_
  refine r_laload C 125 (v := (.long ((p4 + (p5 &&& (65535 : Int64))) + (((p5.toUInt64 >>> ((16 : Int32) &&& 0x3f).toInt64.toUInt64).toInt64) &&& (65535 : Int64))))) V_b2 ⟨by decide, by decide⟩ rfl at_124 rfl ?_
  refine r_lload C 127 at_125 rfl rfl ?_
  refine r_bipush C 129 (32 : Int32) at_127 rfl rfl ?_
  refine r_lushr C 130 at_129 rfl ?_
  refine r_ldc2_w C 133 at_130 rfl (hw _ (List.mem_of_getElem? (i := 3) rfl)) ?_
  refine r_land C 134 at_133 rfl ?_
  refine r_ladd C 135 at_134 rfl ?_
  refine r_lastore C 136 V_b2 ⟨by decide, by decide⟩ (Nat.le_of_ble_eq_true rfl) at_135 rfl g_b2 ?_
  intro h10 W10 V10
  replace V_b1 := V_b1.other W10 ne_b1_b2
  replace Zs := Nat.le_trans Zs (Nat.le_of_eq W10.size.symm)
  replace KP := KP.wr W10 (Or.inr sz_b2)
  replace V_b2 : Arv Z h10 b2 kA2 .long (4 : Int32) [(.long p4), (.long (p4 + (p5 &&& (65535 : Int64)))), (.long ((p4 + (p5 &&& (65535 : Int64))) + (((p5.toUInt64 >>> ((16 : Int32) &&& 0x3f).toInt64.toUInt64).toInt64) &&& (65535 : Int64)))), (.long (((p4 + (p5 &&& (65535 : Int64))) + (((p5.toUInt64 >>> ((16 : Int32) &&& 0x3f).toInt64.toUInt64).toInt64) &&& (65535 : Int64))) + (((p5.toUInt64 >>> ((32 : Int32) &&& 0x3f).toInt64.toUInt64).toInt64) &&& (65535 : Int64))))] (.long (0 : Int64)) := V10
  obtain ⟨t0, ht0⟩ : ∃ z : Int64, z = p0 := ⟨_, rfl⟩
  rw [← ht0] at V_b1
  obtain ⟨t1, ht1⟩ : ∃ z : Int64, z = ((t0 + (1 : Int64)) + (p1 &&& (17179869183 : Int64))) := ⟨_, rfl⟩
  rw [← ht1] at V_b1
  obtain ⟨t2, ht2⟩ : ∃ z : Int64, z = ((t1 + (1 : Int64)) + (p2 &&& (17179869183 : Int64))) := ⟨_, rfl⟩
  rw [← ht2] at V_b1
  obtain ⟨t3, ht3⟩ : ∃ z : Int64, z = ((t2 + (1 : Int64)) + (p3 &&& (17179869183 : Int64))) := ⟨_, rfl⟩
  rw [← ht3] at V_b1
  have V_b1x : Arv Z h10 b1 kA1 .long (4 : Int32) [(.long t0), (.long t1), (.long t2), (.long t3)] (.long (0 : Int64)) := V_b1
  replace V_b1 := V_b1x
  obtain ⟨c0, hc0⟩ : ∃ z : Int64, z = p4 := ⟨_, rfl⟩
  rw [← hc0] at V_b2
  obtain ⟨c1, hc1⟩ : ∃ z : Int64, z = (c0 + (p5 &&& (65535 : Int64))) := ⟨_, rfl⟩
  rw [← hc1] at V_b2
  obtain ⟨c2, hc2⟩ : ∃ z : Int64, z = (c1 + (((p5.toUInt64 >>> ((16 : Int32) &&& 0x3f).toInt64.toUInt64).toInt64) &&& (65535 : Int64))) := ⟨_, rfl⟩
  rw [← hc2] at V_b2
  obtain ⟨c3, hc3⟩ : ∃ z : Int64, z = (c2 + (((p5.toUInt64 >>> ((32 : Int32) &&& 0x3f).toInt64.toUInt64).toInt64) &&& (65535 : Int64))) := ⟨_, rfl⟩
  rw [← hc3] at V_b2
  have V_b2x : Arv Z h10 b2 kA2 .long (4 : Int32) [(.long c0), (.long c1), (.long c2), (.long c3)] (.long (0 : Int64)) := V_b2
  replace V_b2 := V_b2x
  have T10 := own_t ht1
  have T21 := own_t ht2
  have T32 := own_t ht3
  have C10 := own_c hc1
  have C21 := own_c hc2
  have C32 := own_c hc3
  have T20 := own_2 (a := t0) (b := t1) (c := t2) (by omega) (by omega) (by omega) (by omega)
  have T31 := own_2 (a := t1) (b := t2) (c := t3) (by omega) (by omega) (by omega) (by omega)
  have T30 := own_2 (a := t0) (b := t1) (c := t3) (by omega) (by omega) (by omega) (by omega)
  have C20 := own_2 (a := c0) (b := c1) (c := c2) (by omega) (by omega) (by omega) (by omega)
  have C31 := own_2 (a := c1) (b := c2) (c := c3) (by omega) (by omega) (by omega) (by omega)
  have C30 := own_2 (a := c0) (b := c1) (c := c3) (by omega) (by omega) (by omega) (by omega)
  refine r_new C 139 (hw _ (List.mem_of_getElem? (i := 4) rfl)) (hw _ (List.mem_of_getElem? (i := 5) rfl)) (hw _ (List.mem_of_getElem? (i := 6) rfl)) at_136 rfl (by decide) (by decide) ?_
  intro h11 b11 g11 E11 A11 D11
  have g_b11 : n0 ≤ b11 := g11 ▸ Zs
  have lt_b1_b11 : b1 < b11 := Nat.lt_of_lt_of_le V_b1.lt (Nat.le_of_eq g11.symm)
  have ne_b1_b11 : b1 ≠ b11 := Nat.ne_of_lt lt_b1_b11
  have lt_b2_b11 : b2 < b11 := Nat.lt_of_lt_of_le V_b2.lt (Nat.le_of_eq g11.symm)
  have ne_b2_b11 : b2 ≠ b11 := Nat.ne_of_lt lt_b2_b11
  replace V_b1 := V_b1.ext E11
  replace V_b2 := V_b2.ext E11
  replace Zs := Nat.le_trans Zs E11.1
  have sz_b11 : h0.size ≤ b11 := g11 ▸ KP.1
  replace KP := KP.ext E11
  have F_times_b11 : Fld Z h11 b11 "com/example/indenture/indenture/app/HeapWatch" "times" "[J" .null := D11 (Or.inr (hw _ (List.mem_of_getElem? (i := 14) rfl))) (ty := (.array .long)) (by decide)
  have F_collected_b11 : Fld Z h11 b11 "com/example/indenture/indenture/app/HeapWatch" "collected" "[J" .null := D11 (Or.inr (hw _ (List.mem_of_getElem? (i := 16) rfl))) (ty := (.array .long)) (by decide)
  have F_count_b11 : Fld Z h11 b11 "com/example/indenture/indenture/app/HeapWatch" "count" "I" (.int (0 : Int32)) := D11 (Or.inl (hw _ (List.mem_of_getElem? (i := 23) rfl))) (ty := .int) (by decide)
  have F_oldest_b11 : Fld Z h11 b11 "com/example/indenture/indenture/app/HeapWatch" "oldest" "I" (.int (0 : Int32)) := D11 (Or.inl (hw _ (List.mem_of_getElem? (i := 25) rfl))) (ty := .int) (by decide)
  refine r_dup C 140 at_139 rfl rfl ?_
  refine r_iload C 142 at_140 rfl rfl ?_
  refine r_callN C 145 (y := (⟨"com/example/indenture/indenture/app/HeapWatch", "<init>", "(I)V"⟩ : MethodName)) (a := b11) [(.int (2 : Int32))] [(.ref b11)] rfl (rmHi2 l Z a0 hw b11 h11 n0 Zs A11 F_times_b11 F_collected_b11 F_count_b11 F_oldest_b11 g_b11) (hw _ (List.mem_of_getElem? (i := 7) rfl)) (hw _ (List.mem_of_getElem? (i := 8) rfl)) (hw _ (List.mem_of_getElem? (i := 6) rfl)) (hw _ (List.mem_of_getElem? (i := 9) rfl)) (by decide) (lenOf pd__I_V rfl) rfl rfl (by decide) (Nat.le_of_ble_eq_true rfl) (by decide) (by decide) rfl at_142 rfl ?_
  intro v12 h12 q12 z12
  obtain ⟨rfl, K12, at_, ac, kt, kc, szt, szc, ntc, hW, V_t, V_c⟩ := q12
  have sz_at_ : h0.size ≤ at_ := Nat.le_trans KP.1 szt
  have sz_ac : h0.size ≤ ac := Nat.le_trans KP.1 szc
  have g_at_ : n0 ≤ at_ := Nat.le_trans Zs szt
  have g_ac : n0 ≤ ac := Nat.le_trans Zs szc
  have n_b1_at_ : b1 ≠ at_ := Nat.ne_of_lt (Nat.lt_of_lt_of_le V_b1.lt szt)
  have n_b1_ac : b1 ≠ ac := Nat.ne_of_lt (Nat.lt_of_lt_of_le V_b1.lt szc)
  have n_b2_at_ : b2 ≠ at_ := Nat.ne_of_lt (Nat.lt_of_lt_of_le V_b2.lt szt)
  have n_b2_ac : b2 ≠ ac := Nat.ne_of_lt (Nat.lt_of_lt_of_le V_b2.lt szc)
  replace V_b1 := V_b1.keep K12 (ninS ne_b1_b11 nin0)
  replace V_b2 := V_b2.keep K12 (ninS ne_b2_b11 nin0)
  replace A11 := A11.keep K12
  replace KP := KP.trans K12 (allS (Or.inr sz_b11) all0)
  replace Zs := Nat.le_trans Zs K12.1
  show Run _ _ _ _ _ _ _ _ 145 #[.val (.long p0), .second, .val (.long p1), .second, .val (.long p2), .second, .val (.long p3), .second, .val (.long p4), .second, .val (.long p5), .second, .val (.int (2 : Int32)), .val (.ref b1), .val (.ref b2), .unset, .unset, .unset, .unset, .unset] [(.ref b11)]
  refine r_astore C 147 #[.val (.long p0), .second, .val (.long p1), .second, .val (.long p2), .second, .val (.long p3), .second, .val (.long p4), .second, .val (.long p5), .second, .val (.int (2 : Int32)), .val (.ref b1), .val (.ref b2), .val (.ref b11), .unset, .unset, .unset, .unset] at_145 rfl rfl rfl ?_
  refine r_aload C 149 at_147 rfl rfl rfl ?_
  refine r_aload C 151 at_149 rfl rfl rfl ?_
  refine r_iconst C 152 (0 : Int32) at_151 rfl rfl ?_
  refine r_laload C 153 (v := (.long t0)) V_b1 ⟨by decide, by decide⟩ rfl at_152 rfl ?_
  refine r_aload C 155 at_153 rfl rfl rfl ?_
  refine r_iconst C 156 (0 : Int32) at_155 rfl rfl ?_
  refine r_laload C 157 (v := (.long c0)) V_b2 ⟨by decide, by decide⟩ rfl at_156 rfl ?_
  refine r_callV C 160 (y := (⟨"com/example/indenture/indenture/app/HeapWatch", "sample", "(JJ)Z"⟩ : MethodName)) (z := (⟨"com/example/indenture/indenture/app/HeapWatch", "sample", "(JJ)Z"⟩ : MethodName)) (D := "com/example/indenture/indenture/app/HeapWatch") (a := b11) [(.long t0), (.long c0)] [] (rmSa_2_0_0 l Z a0 hw b11 t0 c0 at_ ac kt kc (0 : Int64) (0 : Int64) (0 : Int64) (0 : Int64) h12 n0 Zs hW V_t V_c ntc g_b11 g_at_ g_ac  (by rw [own_0]; decide) (by rw [own_0]; decide) (by rw [own_0]; decide)) (hw _ (List.mem_of_getElem? (i := 17) rfl)) (hw _ (List.mem_of_getElem? (i := 18) rfl)) (fun s hZ' => notFace_of_selects (args := #[]) (mvT hZ' (hw _ (List.mem_of_getElem? (i := 20) rfl)))) (hw _ (List.mem_of_getElem? (i := 20) rfl)) (hw _ (List.mem_of_getElem? (i := 19) rfl)) (hw _ (List.mem_of_getElem? (i := 6) rfl)) (hw _ (List.mem_of_getElem? (i := 21) rfl)) hW.1 (by decide) (lenOf pd__JJ_Z rfl) rfl rfl (by decide) (Nat.le_of_ble_eq_true rfl) (by decide) (by decide) rfl at_157 rfl ?_
  intro v13 h13 q13 z13
  obtain ⟨rfl, K13, hW, V_t, V_c⟩ := q13
  replace V_b1 := V_b1.keep K13 (ninS ne_b1_b11 (ninS n_b1_at_ (ninS n_b1_ac nin0)))
  replace V_b2 := V_b2.keep K13 (ninS ne_b2_b11 (ninS n_b2_at_ (ninS n_b2_ac nin0)))
  replace KP := KP.trans K13 (allS (Or.inr sz_b11) (allS (Or.inr sz_at_) (allS (Or.inr sz_ac) all0)))
  replace Zs := Nat.le_trans Zs K13.1
  show Run _ _ _ _ _ _ _ _ 160 #[.val (.long p0), .second, .val (.long p1), .second, .val (.long p2), .second, .val (.long p3), .second, .val (.long p4), .second, .val (.long p5), .second, .val (.int (2 : Int32)), .val (.ref b1), .val (.ref b2), .val (.ref b11), .unset, .unset, .unset, .unset] [(.int (sm (t0 - t0) (c0 - c0)))]
  refine r_istore C 162 #[.val (.long p0), .second, .val (.long p1), .second, .val (.long p2), .second, .val (.long p3), .second, .val (.long p4), .second, .val (.long p5), .second, .val (.int (2 : Int32)), .val (.ref b1), .val (.ref b2), .val (.ref b11), .val (.int (sm (t0 - t0) (c0 - c0))), .unset, .unset, .unset] at_160 rfl rfl ?_
  refine r_aload C 164 at_162 rfl rfl rfl ?_
  refine r_aload C 166 at_164 rfl rfl rfl ?_
  refine r_iconst C 167 (1 : Int32) at_166 rfl rfl ?_
  refine r_laload C 168 (v := (.long t1)) V_b1 ⟨by decide, by decide⟩ rfl at_167 rfl ?_
  refine r_aload C 170 at_168 rfl rfl rfl ?_
  refine r_iconst C 171 (1 : Int32) at_170 rfl rfl ?_
  refine r_laload C 172 (v := (.long c1)) V_b2 ⟨by decide, by decide⟩ rfl at_171 rfl ?_
  refine r_callV C 175 (y := (⟨"com/example/indenture/indenture/app/HeapWatch", "sample", "(JJ)Z"⟩ : MethodName)) (z := (⟨"com/example/indenture/indenture/app/HeapWatch", "sample", "(JJ)Z"⟩ : MethodName)) (D := "com/example/indenture/indenture/app/HeapWatch") (a := b11) [(.long t1), (.long c1)] [] (rmSa_2_0_1 l Z a0 hw b11 t1 c1 at_ ac kt kc t0 (0 : Int64) c0 (0 : Int64) h13 n0 Zs hW V_t V_c ntc g_b11 g_at_ g_ac  (by omega) (by omega) (by omega)) (hw _ (List.mem_of_getElem? (i := 17) rfl)) (hw _ (List.mem_of_getElem? (i := 18) rfl)) (fun s hZ' => notFace_of_selects (args := #[]) (mvT hZ' (hw _ (List.mem_of_getElem? (i := 20) rfl)))) (hw _ (List.mem_of_getElem? (i := 20) rfl)) (hw _ (List.mem_of_getElem? (i := 19) rfl)) (hw _ (List.mem_of_getElem? (i := 6) rfl)) (hw _ (List.mem_of_getElem? (i := 21) rfl)) hW.1 (by decide) (lenOf pd__JJ_Z rfl) rfl rfl (by decide) (Nat.le_of_ble_eq_true rfl) (by decide) (by decide) rfl at_172 rfl ?_
  intro v14 h14 q14 z14
  obtain ⟨rfl, K14, hW, V_t, V_c⟩ := q14
  replace V_b1 := V_b1.keep K14 (ninS ne_b1_b11 (ninS n_b1_at_ (ninS n_b1_ac nin0)))
  replace V_b2 := V_b2.keep K14 (ninS ne_b2_b11 (ninS n_b2_at_ (ninS n_b2_ac nin0)))
  replace KP := KP.trans K14 (allS (Or.inr sz_b11) (allS (Or.inr sz_at_) (allS (Or.inr sz_ac) all0)))
  replace Zs := Nat.le_trans Zs K14.1
  show Run _ _ _ _ _ _ _ _ 175 #[.val (.long p0), .second, .val (.long p1), .second, .val (.long p2), .second, .val (.long p3), .second, .val (.long p4), .second, .val (.long p5), .second, .val (.int (2 : Int32)), .val (.ref b1), .val (.ref b2), .val (.ref b11), .val (.int (sm (t0 - t0) (c0 - c0))), .unset, .unset, .unset] [(.int (sm (t1 - t0) (c1 - c0)))]
  refine r_istore C 177 #[.val (.long p0), .second, .val (.long p1), .second, .val (.long p2), .second, .val (.long p3), .second, .val (.long p4), .second, .val (.long p5), .second, .val (.int (2 : Int32)), .val (.ref b1), .val (.ref b2), .val (.ref b11), .val (.int (sm (t0 - t0) (c0 - c0))), .val (.int (sm (t1 - t0) (c1 - c0))), .unset, .unset] at_175 rfl rfl ?_
  refine r_aload C 179 at_177 rfl rfl rfl ?_
  refine r_aload C 181 at_179 rfl rfl rfl ?_
  refine r_iconst C 182 (2 : Int32) at_181 rfl rfl ?_
  refine r_laload C 183 (v := (.long t2)) V_b1 ⟨by decide, by decide⟩ rfl at_182 rfl ?_
  refine r_aload C 185 at_183 rfl rfl rfl ?_
  refine r_iconst C 186 (2 : Int32) at_185 rfl rfl ?_
  refine r_laload C 187 (v := (.long c2)) V_b2 ⟨by decide, by decide⟩ rfl at_186 rfl ?_
  refine r_callV C 190 (y := (⟨"com/example/indenture/indenture/app/HeapWatch", "sample", "(JJ)Z"⟩ : MethodName)) (z := (⟨"com/example/indenture/indenture/app/HeapWatch", "sample", "(JJ)Z"⟩ : MethodName)) (D := "com/example/indenture/indenture/app/HeapWatch") (a := b11) [(.long t2), (.long c2)] [] (rmSa_2_0_2 l Z a0 hw b11 t2 c2 at_ ac kt kc t0 t1 c0 c1 h14 n0 Zs hW V_t V_c ntc g_b11 g_at_ g_ac  (by omega) (by omega) (by omega)) (hw _ (List.mem_of_getElem? (i := 17) rfl)) (hw _ (List.mem_of_getElem? (i := 18) rfl)) (fun s hZ' => notFace_of_selects (args := #[]) (mvT hZ' (hw _ (List.mem_of_getElem? (i := 20) rfl)))) (hw _ (List.mem_of_getElem? (i := 20) rfl)) (hw _ (List.mem_of_getElem? (i := 19) rfl)) (hw _ (List.mem_of_getElem? (i := 6) rfl)) (hw _ (List.mem_of_getElem? (i := 21) rfl)) hW.1 (by decide) (lenOf pd__JJ_Z rfl) rfl rfl (by decide) (Nat.le_of_ble_eq_true rfl) (by decide) (by decide) rfl at_187 rfl ?_
  intro v15 h15 q15 z15
  obtain ⟨rfl, K15, hW, V_t, V_c⟩ := q15
  replace V_b1 := V_b1.keep K15 (ninS ne_b1_b11 (ninS n_b1_at_ (ninS n_b1_ac nin0)))
  replace V_b2 := V_b2.keep K15 (ninS ne_b2_b11 (ninS n_b2_at_ (ninS n_b2_ac nin0)))
  replace KP := KP.trans K15 (allS (Or.inr sz_b11) (allS (Or.inr sz_at_) (allS (Or.inr sz_ac) all0)))
  replace Zs := Nat.le_trans Zs K15.1
  show Run _ _ _ _ _ _ _ _ 190 #[.val (.long p0), .second, .val (.long p1), .second, .val (.long p2), .second, .val (.long p3), .second, .val (.long p4), .second, .val (.long p5), .second, .val (.int (2 : Int32)), .val (.ref b1), .val (.ref b2), .val (.ref b11), .val (.int (sm (t0 - t0) (c0 - c0))), .val (.int (sm (t1 - t0) (c1 - c0))), .unset, .unset] [(.int (sm (t2 - t1) (c2 - c1)))]
  refine r_istore C 192 #[.val (.long p0), .second, .val (.long p1), .second, .val (.long p2), .second, .val (.long p3), .second, .val (.long p4), .second, .val (.long p5), .second, .val (.int (2 : Int32)), .val (.ref b1), .val (.ref b2), .val (.ref b11), .val (.int (sm (t0 - t0) (c0 - c0))), .val (.int (sm (t1 - t0) (c1 - c0))), .val (.int (sm (t2 - t1) (c2 - c1))), .unset] at_190 rfl rfl ?_
  refine r_aload C 194 at_192 rfl rfl rfl ?_
  refine r_aload C 196 at_194 rfl rfl rfl ?_
  refine r_iconst C 197 (3 : Int32) at_196 rfl rfl ?_
  refine r_laload C 198 (v := (.long t3)) V_b1 ⟨by decide, by decide⟩ rfl at_197 rfl ?_
  refine r_aload C 200 at_198 rfl rfl rfl ?_
  refine r_iconst C 201 (3 : Int32) at_200 rfl rfl ?_
  refine r_laload C 202 (v := (.long c3)) V_b2 ⟨by decide, by decide⟩ rfl at_201 rfl ?_
  refine r_callV C 205 (y := (⟨"com/example/indenture/indenture/app/HeapWatch", "sample", "(JJ)Z"⟩ : MethodName)) (z := (⟨"com/example/indenture/indenture/app/HeapWatch", "sample", "(JJ)Z"⟩ : MethodName)) (D := "com/example/indenture/indenture/app/HeapWatch") (a := b11) [(.long t3), (.long c3)] [] (rmSa_2_1_2 l Z a0 hw b11 t3 c3 at_ ac kt kc t2 t1 c2 c1 h15 n0 Zs hW V_t V_c ntc g_b11 g_at_ g_ac  (by omega) (by omega) (by omega)) (hw _ (List.mem_of_getElem? (i := 17) rfl)) (hw _ (List.mem_of_getElem? (i := 18) rfl)) (fun s hZ' => notFace_of_selects (args := #[]) (mvT hZ' (hw _ (List.mem_of_getElem? (i := 20) rfl)))) (hw _ (List.mem_of_getElem? (i := 20) rfl)) (hw _ (List.mem_of_getElem? (i := 19) rfl)) (hw _ (List.mem_of_getElem? (i := 6) rfl)) (hw _ (List.mem_of_getElem? (i := 21) rfl)) hW.1 (by decide) (lenOf pd__JJ_Z rfl) rfl rfl (by decide) (Nat.le_of_ble_eq_true rfl) (by decide) (by decide) rfl at_202 rfl ?_
  intro v16 h16 q16 z16
  obtain ⟨rfl, K16, hW, V_t, V_c⟩ := q16
  replace V_b1 := V_b1.keep K16 (ninS ne_b1_b11 (ninS n_b1_at_ (ninS n_b1_ac nin0)))
  replace V_b2 := V_b2.keep K16 (ninS ne_b2_b11 (ninS n_b2_at_ (ninS n_b2_ac nin0)))
  replace KP := KP.trans K16 (allS (Or.inr sz_b11) (allS (Or.inr sz_at_) (allS (Or.inr sz_ac) all0)))
  replace Zs := Nat.le_trans Zs K16.1
  show Run _ _ _ _ _ _ _ _ 205 #[.val (.long p0), .second, .val (.long p1), .second, .val (.long p2), .second, .val (.long p3), .second, .val (.long p4), .second, .val (.long p5), .second, .val (.int (2 : Int32)), .val (.ref b1), .val (.ref b2), .val (.ref b11), .val (.int (sm (t0 - t0) (c0 - c0))), .val (.int (sm (t1 - t0) (c1 - c0))), .val (.int (sm (t2 - t1) (c2 - c1))), .unset] [(.int (sm (t3 - t2) (c3 - c2)))]
  refine r_istore C 207 #[.val (.long p0), .second, .val (.long p1), .second, .val (.long p2), .second, .val (.long p3), .second, .val (.long p4), .second, .val (.long p5), .second, .val (.int (2 : Int32)), .val (.ref b1), .val (.ref b2), .val (.ref b11), .val (.int (sm (t0 - t0) (c0 - c0))), .val (.int (sm (t1 - t0) (c1 - c0))), .val (.int (sm (t2 - t1) (c2 - c1))), .val (.int (sm (t3 - t2) (c3 - c2)))] at_205 rfl rfl ?_
  refine r_iload C 209 at_207 rfl rfl ?_
  refine r_aload C 211 at_209 rfl rfl rfl ?_
  refine r_aload C 213 at_211 rfl rfl rfl ?_
  refine r_iconst C 214 (0 : Int32) at_213 rfl rfl ?_
  refine r_iload C 216 at_214 rfl rfl ?_
  refine r_callS C 219 (y := (⟨"com/example/indenture/indenture/app/HeapWatchSamplePinLaw", "expect", "([J[JII)Z"⟩ : MethodName)) (a := 0) [(.ref b1), (.ref b2), (.int (0 : Int32)), (.int (2 : Int32))] [(.int (sm (t0 - t0) (c0 - c0)))] (rmXp0 l Z a0 hw b1 b2 (2 : Int32) kA1 kA2 t0 t1 t2 t3 c0 c1 c2 c3 h16 n0 Zs V_b1 V_b2) (hw _ (List.mem_of_getElem? (i := 33) rfl)) (hw _ (List.mem_of_getElem? (i := 34) rfl)) (hw _ (List.mem_of_getElem? (i := 35) rfl)) (hw _ (List.mem_of_getElem? (i := 36) rfl)) (by decide) (lenOf pd___J_JII_Z rfl) rfl rfl (by decide) (Nat.le_of_ble_eq_true rfl) (by decide) (by decide) rfl at_216 rfl ?_
  intro v17 h17 q17 z17
  obtain ⟨rfl, rfl⟩ := q17
  show Run _ _ _ _ _ _ _ _ 219 #[.val (.long p0), .second, .val (.long p1), .second, .val (.long p2), .second, .val (.long p3), .second, .val (.long p4), .second, .val (.long p5), .second, .val (.int (2 : Int32)), .val (.ref b1), .val (.ref b2), .val (.ref b11), .val (.int (sm (t0 - t0) (c0 - c0))), .val (.int (sm (t1 - t0) (c1 - c0))), .val (.int (sm (t2 - t1) (c2 - c1))), .val (.int (sm (t3 - t2) (c3 - c2)))] [(.int (0 : Int32)), (.int (sm (t0 - t0) (c0 - c0)))]
  refine r_icmp_ne C 271 222 at_219 (by decide) (by decide) rfl (fun q => absurd (show sm _ _ = (0 : Int32) by simp only [sm, jg, own_self t0, show (((2 : Int32) - 1 : Int32) < 1) = False by decide, show (((2 : Int32) - 1 : Int32) < 2) = True by decide, show (((2 : Int32) - 1 : Int32) < 3) = True by decide, if_true, if_false, ite_self]) q) (fun _ => ?_)
  refine r_iload C 224 at_222 rfl rfl ?_
  refine r_aload C 226 at_224 rfl rfl rfl ?_
  refine r_aload C 228 at_226 rfl rfl rfl ?_
  refine r_iconst C 229 (1 : Int32) at_228 rfl rfl ?_
  refine r_iload C 231 at_229 rfl rfl ?_
  refine r_callS C 234 (y := (⟨"com/example/indenture/indenture/app/HeapWatchSamplePinLaw", "expect", "([J[JII)Z"⟩ : MethodName)) (a := 0) [(.ref b1), (.ref b2), (.int (1 : Int32)), (.int (2 : Int32))] [(.int (sm (t1 - t0) (c1 - c0)))] (rmXp1 l Z a0 hw b1 b2 (2 : Int32) kA1 kA2 t0 t1 t2 t3 c0 c1 c2 c3 h16 n0 Zs V_b1 V_b2) (hw _ (List.mem_of_getElem? (i := 33) rfl)) (hw _ (List.mem_of_getElem? (i := 34) rfl)) (hw _ (List.mem_of_getElem? (i := 35) rfl)) (hw _ (List.mem_of_getElem? (i := 36) rfl)) (by decide) (lenOf pd___J_JII_Z rfl) rfl rfl (by decide) (Nat.le_of_ble_eq_true rfl) (by decide) (by decide) rfl at_231 rfl ?_
  intro v18 h18 q18 z18
  obtain ⟨rfl, rfl⟩ := q18
  show Run _ _ _ _ _ _ _ _ 234 #[.val (.long p0), .second, .val (.long p1), .second, .val (.long p2), .second, .val (.long p3), .second, .val (.long p4), .second, .val (.long p5), .second, .val (.int (2 : Int32)), .val (.ref b1), .val (.ref b2), .val (.ref b11), .val (.int (sm (t0 - t0) (c0 - c0))), .val (.int (sm (t1 - t0) (c1 - c0))), .val (.int (sm (t2 - t1) (c2 - c1))), .val (.int (sm (t3 - t2) (c3 - c2)))] [(.int (ex1 (2 : Int32) t0 t1 t2 t3 c0 c1 c2 c3)), (.int (sm (t1 - t0) (c1 - c0)))]
  refine r_icmp_ne C 271 237 at_234 (by decide) (by decide) rfl (fun q => absurd (show sm _ _ = (ex1 (2 : Int32) t0 t1 t2 t3 c0 c1 c2 c3) by simp only [ex1, sm, jg, show (((2 : Int32) - 1 : Int32) < 1) = False by decide, show (((2 : Int32) - 1 : Int32) < 2) = True by decide, show (((2 : Int32) - 1 : Int32) < 3) = True by decide, if_true, if_false, ite_self]) q) (fun _ => ?_)
  refine r_iload C 239 at_237 rfl rfl ?_
  refine r_aload C 241 at_239 rfl rfl rfl ?_
  refine r_aload C 243 at_241 rfl rfl rfl ?_
  refine r_iconst C 244 (2 : Int32) at_243 rfl rfl ?_
  refine r_iload C 246 at_244 rfl rfl ?_
  refine r_callS C 249 (y := (⟨"com/example/indenture/indenture/app/HeapWatchSamplePinLaw", "expect", "([J[JII)Z"⟩ : MethodName)) (a := 0) [(.ref b1), (.ref b2), (.int (2 : Int32)), (.int (2 : Int32))] [(.int (sm (t2 - t1) (c2 - c1)))] (rmXp2 l Z a0 hw b1 b2 (2 : Int32) kA1 kA2 t0 t1 t2 t3 c0 c1 c2 c3 h16 n0 Zs V_b1 V_b2) (hw _ (List.mem_of_getElem? (i := 33) rfl)) (hw _ (List.mem_of_getElem? (i := 34) rfl)) (hw _ (List.mem_of_getElem? (i := 35) rfl)) (hw _ (List.mem_of_getElem? (i := 36) rfl)) (by decide) (lenOf pd___J_JII_Z rfl) rfl rfl (by decide) (Nat.le_of_ble_eq_true rfl) (by decide) (by decide) rfl at_246 rfl ?_
  intro v19 h19 q19 z19
  obtain ⟨rfl, rfl⟩ := q19
  show Run _ _ _ _ _ _ _ _ 249 #[.val (.long p0), .second, .val (.long p1), .second, .val (.long p2), .second, .val (.long p3), .second, .val (.long p4), .second, .val (.long p5), .second, .val (.int (2 : Int32)), .val (.ref b1), .val (.ref b2), .val (.ref b11), .val (.int (sm (t0 - t0) (c0 - c0))), .val (.int (sm (t1 - t0) (c1 - c0))), .val (.int (sm (t2 - t1) (c2 - c1))), .val (.int (sm (t3 - t2) (c3 - c2)))] [(.int (ex2 (2 : Int32) t0 t1 t2 t3 c0 c1 c2 c3)), (.int (sm (t2 - t1) (c2 - c1)))]
  refine r_icmp_ne C 271 252 at_249 (by decide) (by decide) rfl (fun q => absurd (show sm _ _ = (ex2 (2 : Int32) t0 t1 t2 t3 c0 c1 c2 c3) by simp only [ex2, sm, jg, show (((2 : Int32) - 1 : Int32) < 1) = False by decide, show (((2 : Int32) - 1 : Int32) < 2) = True by decide, show (((2 : Int32) - 1 : Int32) < 3) = True by decide, if_true, if_false, ite_self]) q) (fun _ => ?_)
  refine r_iload C 254 at_252 rfl rfl ?_
  refine r_aload C 256 at_254 rfl rfl rfl ?_
  refine r_aload C 258 at_256 rfl rfl rfl ?_
  refine r_iconst C 259 (3 : Int32) at_258 rfl rfl ?_
  refine r_iload C 261 at_259 rfl rfl ?_
  refine r_callS C 264 (y := (⟨"com/example/indenture/indenture/app/HeapWatchSamplePinLaw", "expect", "([J[JII)Z"⟩ : MethodName)) (a := 0) [(.ref b1), (.ref b2), (.int (3 : Int32)), (.int (2 : Int32))] [(.int (sm (t3 - t2) (c3 - c2)))] (rmXp3 l Z a0 hw b1 b2 (2 : Int32) kA1 kA2 t0 t1 t2 t3 c0 c1 c2 c3 h16 n0 Zs V_b1 V_b2) (hw _ (List.mem_of_getElem? (i := 33) rfl)) (hw _ (List.mem_of_getElem? (i := 34) rfl)) (hw _ (List.mem_of_getElem? (i := 35) rfl)) (hw _ (List.mem_of_getElem? (i := 36) rfl)) (by decide) (lenOf pd___J_JII_Z rfl) rfl rfl (by decide) (Nat.le_of_ble_eq_true rfl) (by decide) (by decide) rfl at_261 rfl ?_
  intro v20 h20 q20 z20
  obtain ⟨rfl, rfl⟩ := q20
  show Run _ _ _ _ _ _ _ _ 264 #[.val (.long p0), .second, .val (.long p1), .second, .val (.long p2), .second, .val (.long p3), .second, .val (.long p4), .second, .val (.long p5), .second, .val (.int (2 : Int32)), .val (.ref b1), .val (.ref b2), .val (.ref b11), .val (.int (sm (t0 - t0) (c0 - c0))), .val (.int (sm (t1 - t0) (c1 - c0))), .val (.int (sm (t2 - t1) (c2 - c1))), .val (.int (sm (t3 - t2) (c3 - c2)))] [(.int (ex3 (2 : Int32) t0 t1 t2 t3 c0 c1 c2 c3)), (.int (sm (t3 - t2) (c3 - c2)))]
  refine r_icmp_ne C 271 267 at_264 (by decide) (by decide) rfl (fun q => absurd (show sm _ _ = (ex3 (2 : Int32) t0 t1 t2 t3 c0 c1 c2 c3) by simp only [ex3, sm, jg, show (((2 : Int32) - 1 : Int32) < 1) = False by decide, show (((2 : Int32) - 1 : Int32) < 2) = True by decide, show (((2 : Int32) - 1 : Int32) < 3) = True by decide, if_true, if_false, ite_self]) q) (fun _ => ?_)
  refine r_iconst C 268 (1 : Int32) at_267 rfl rfl ?_
  refine r_goto C 272 at_268 (by decide) (by decide) ?_
  exact r_nreturn C (1 : Int32) rfl (t := .boolean) (by simp) rfl at_272 (by decide) (by decide) rfl
set_option maxRecDepth 65536 in
set_option maxHeartbeats 40000000 in
theorem rmJ3 (l : Launch) (Z : State) (a0 : Array Value) (hw : ∀ d ∈ tables_1, d.before a0 Z = true) (p0 p1 p2 p3 p4 p5 : Int64) (h0 : Heap) (n0 : Nat) (Zs : n0 ≤ h0.size) (K : Ctx) (C : Ok Z "com/example/indenture/indenture/app/HeapWatchSamplePinLaw" "law" code maxLocals ret K) : Run l room_1 n0 (fun v _ => v = some (.int 1)) K h0 0 0 14 #[.val (.long p0), .second, .val (.long p1), .second, .val (.long p2), .second, .val (.long p3), .second, .val (.long p4), .second, .val (.long p5), .second, .val (.int (3 : Int32)), .unset, .unset, .unset, .unset, .unset, .unset, .unset] [] := by
  have KP := Keep.refl h0 []
  refine r_iconst C 15 (4 : Int32) at_14 rfl rfl ?_
  refine r_newarray C 17 4 (hw _ (List.mem_of_getElem? (i := 1) rfl)) at_15 rfl (by decide) (by decide) (by decide) (by decide) (by decide) ?_
  intro h1 b1 kA1 g1 E1 V_b1
  replace V_b1 : Arv Z h1 b1 kA1 .long (4 : Int32) [(.long (0 : Int64)), (.long (0 : Int64)), (.long (0 : Int64)), (.long (0 : Int64))] (.long (0 : Int64)) := V_b1.pad (pad_rep [] (.long (0 : Int64)) 4)
  have g_b1 : n0 ≤ b1 := g1 ▸ Zs
  replace Zs := Nat.le_trans Zs E1.1
  have sz_b1 : h0.size ≤ b1 := g1 ▸ KP.1
  replace KP := KP.ext E1
  refine r_astore C 19 #[.val (.long p0), .second, .val (.long p1), .second, .val (.long p2), .second, .val (.long p3), .second, .val (.long p4), .second, .val (.long p5), .second, .val (.int (3 : Int32)), .val (.ref b1), .unset, .unset, .unset, .unset, .unset, .unset] at_17 rfl rfl rfl ?_
  refine r_iconst C 20 (4 : Int32) at_19 rfl rfl ?_
  refine r_newarray C 22 4 (hw _ (List.mem_of_getElem? (i := 1) rfl)) at_20 rfl (by decide) (by decide) (by decide) (by decide) (by decide) ?_
  intro h2 b2 kA2 g2 E2 V_b2
  replace V_b2 : Arv Z h2 b2 kA2 .long (4 : Int32) [(.long (0 : Int64)), (.long (0 : Int64)), (.long (0 : Int64)), (.long (0 : Int64))] (.long (0 : Int64)) := V_b2.pad (pad_rep [] (.long (0 : Int64)) 4)
  have g_b2 : n0 ≤ b2 := g2 ▸ Zs
  have lt_b1_b2 : b1 < b2 := Nat.lt_of_lt_of_le V_b1.lt (Nat.le_of_eq g2.symm)
  have ne_b1_b2 : b1 ≠ b2 := Nat.ne_of_lt lt_b1_b2
  replace V_b1 := V_b1.ext E2
  replace Zs := Nat.le_trans Zs E2.1
  have sz_b2 : h0.size ≤ b2 := g2 ▸ KP.1
  replace KP := KP.ext E2
  refine r_astore C 24 #[.val (.long p0), .second, .val (.long p1), .second, .val (.long p2), .second, .val (.long p3), .second, .val (.long p4), .second, .val (.long p5), .second, .val (.int (3 : Int32)), .val (.ref b1), .val (.ref b2), .unset, .unset, .unset, .unset, .unset] at_22 rfl rfl rfl ?_
  refine r_aload C 26 at_24 rfl rfl rfl ?_
  refine r_iconst C 27 (0 : Int32) at_26 rfl rfl ?_
  refine r_lloadN C 28 at_27 rfl rfl ?_
  refine r_lastore C 29 V_b1 ⟨by decide, by decide⟩ (Nat.le_of_ble_eq_true rfl) at_28 rfl g_b1 ?_
  intro h3 W3 V3
  replace V_b2 := V_b2.other W3 (Ne.symm ne_b1_b2)
  replace Zs := Nat.le_trans Zs (Nat.le_of_eq W3.size.symm)
  replace KP := KP.wr W3 (Or.inr sz_b1)
  replace V_b1 : Arv Z h3 b1 kA1 .long (4 : Int32) [(.long p0), (.long (0 : Int64)), (.long (0 : Int64)), (.long (0 : Int64))] (.long (0 : Int64)) := V3
  refine r_aload C 31 at_29 rfl rfl rfl ?_
  refine r_iconst C 32 (1 : Int32) at_31 rfl rfl ?_
  refine r_aload C 34 at_32 rfl rfl rfl ?_
  refine r_iconst C 35 (0 : Int32) at_34 rfl rfl ?_
  refine r_laload C 36 (v := (.long p0)) V_b1 ⟨by decide, by decide⟩ rfl at_35 rfl ?_
  refine r_lconst C 37 (1 : Int64) at_36 rfl rfl ?_
  refine r_ladd C 38 at_37 rfl ?_
  refine r_lloadN C 39 at_38 rfl rfl ?_
  refine r_ldc2_w C 42 at_39 rfl (hw _ (List.mem_of_getElem? (i := 2) rfl)) ?_
  refine r_land C 43 at_42 rfl ?_
  refine r_ladd C 44 at_43 rfl ?_
  refine r_lastore C 45 V_b1 ⟨by decide, by decide⟩ (Nat.le_of_ble_eq_true rfl) at_44 rfl g_b1 ?_
  intro h4 W4 V4
  replace V_b2 := V_b2.other W4 (Ne.symm ne_b1_b2)
  replace Zs := Nat.le_trans Zs (Nat.le_of_eq W4.size.symm)
  replace KP := KP.wr W4 (Or.inr sz_b1)
  replace V_b1 : Arv Z h4 b1 kA1 .long (4 : Int32) [(.long p0), (.long ((p0 + (1 : Int64)) + (p1 &&& (17179869183 : Int64)))), (.long (0 : Int64)), (.long (0 : Int64))] (.long (0 : Int64)) := V4
  refine r_aload C 47 at_45 rfl rfl rfl ?_
  refine r_iconst C 48 (2 : Int32) at_47 rfl rfl ?_
  refine r_aload C 50 at_48 rfl rfl rfl ?_
  refine r_iconst C 51 (1 : Int32) at_50 rfl rfl ?_
  refine r_laload C 52 (v := (.long ((p0 + (1 : Int64)) + (p1 &&& (17179869183 : Int64))))) V_b1 ⟨by decide, by decide⟩ rfl at_51 rfl ?_
  refine r_lconst C 53 (1 : Int64) at_52 rfl rfl ?_
  refine r_ladd C 54 at_53 rfl ?_
  refine r_lload C 56 at_54 rfl rfl ?_
  refine r_ldc2_w C 59 at_56 rfl (hw _ (List.mem_of_getElem? (i := 2) rfl)) ?_
  refine r_land C 60 at_59 rfl ?_
  refine r_ladd C 61 at_60 rfl ?_
  refine r_lastore C 62 V_b1 ⟨by decide, by decide⟩ (Nat.le_of_ble_eq_true rfl) at_61 rfl g_b1 ?_
  intro h5 W5 V5
  replace V_b2 := V_b2.other W5 (Ne.symm ne_b1_b2)
  replace Zs := Nat.le_trans Zs (Nat.le_of_eq W5.size.symm)
  replace KP := KP.wr W5 (Or.inr sz_b1)
  replace V_b1 : Arv Z h5 b1 kA1 .long (4 : Int32) [(.long p0), (.long ((p0 + (1 : Int64)) + (p1 &&& (17179869183 : Int64)))), (.long ((((p0 + (1 : Int64)) + (p1 &&& (17179869183 : Int64))) + (1 : Int64)) + (p2 &&& (17179869183 : Int64)))), (.long (0 : Int64))] (.long (0 : Int64)) := V5
  refine r_aload C 64 at_62 rfl rfl rfl ?_
  refine r_iconst C 65 (3 : Int32) at_64 rfl rfl ?_
  refine r_aload C 67 at_65 rfl rfl rfl ?_
  refine r_iconst C 68 (2 : Int32) at_67 rfl rfl ?_
  refine r_laload C 69 (v := (.long ((((p0 + (1 : Int64)) + (p1 &&& (17179869183 : Int64))) + (1 : Int64)) + (p2 &&& (17179869183 : Int64))))) V_b1 ⟨by decide, by decide⟩ rfl at_68 rfl ?_
  refine r_lconst C 70 (1 : Int64) at_69 rfl rfl ?_
  refine r_ladd C 71 at_70 rfl ?_
  refine r_lload C 73 at_71 rfl rfl ?_
  refine r_ldc2_w C 76 at_73 rfl (hw _ (List.mem_of_getElem? (i := 2) rfl)) ?_
  refine r_land C 77 at_76 rfl ?_
  refine r_ladd C 78 at_77 rfl ?_
  refine r_lastore C 79 V_b1 ⟨by decide, by decide⟩ (Nat.le_of_ble_eq_true rfl) at_78 rfl g_b1 ?_
  intro h6 W6 V6
  replace V_b2 := V_b2.other W6 (Ne.symm ne_b1_b2)
  replace Zs := Nat.le_trans Zs (Nat.le_of_eq W6.size.symm)
  replace KP := KP.wr W6 (Or.inr sz_b1)
  replace V_b1 : Arv Z h6 b1 kA1 .long (4 : Int32) [(.long p0), (.long ((p0 + (1 : Int64)) + (p1 &&& (17179869183 : Int64)))), (.long ((((p0 + (1 : Int64)) + (p1 &&& (17179869183 : Int64))) + (1 : Int64)) + (p2 &&& (17179869183 : Int64)))), (.long ((((((p0 + (1 : Int64)) + (p1 &&& (17179869183 : Int64))) + (1 : Int64)) + (p2 &&& (17179869183 : Int64))) + (1 : Int64)) + (p3 &&& (17179869183 : Int64))))] (.long (0 : Int64)) := V6
  refine r_aload C 81 at_79 rfl rfl rfl ?_
  refine r_iconst C 82 (0 : Int32) at_81 rfl rfl ?_
  refine r_lload C 84 at_82 rfl rfl ?_
  refine r_lastore C 85 V_b2 ⟨by decide, by decide⟩ (Nat.le_of_ble_eq_true rfl) at_84 rfl g_b2 ?_
  intro h7 W7 V7
  replace V_b1 := V_b1.other W7 ne_b1_b2
  replace Zs := Nat.le_trans Zs (Nat.le_of_eq W7.size.symm)
  replace KP := KP.wr W7 (Or.inr sz_b2)
  replace V_b2 : Arv Z h7 b2 kA2 .long (4 : Int32) [(.long p4), (.long (0 : Int64)), (.long (0 : Int64)), (.long (0 : Int64))] (.long (0 : Int64)) := V7
  refine r_aload C 87 at_85 rfl rfl rfl ?_
  refine r_iconst C 88 (1 : Int32) at_87 rfl rfl ?_
  refine r_aload C 90 at_88 rfl rfl rfl ?_
  refine r_iconst C 91 (0 : Int32) at_90 rfl rfl ?_
  refine r_laload C 92 (v := (.long p4)) V_b2 ⟨by decide, by decide⟩ rfl at_91 rfl ?_
  refine r_lload C 94 at_92 rfl rfl ?_
  refine r_ldc2_w C 97 at_94 rfl (hw _ (List.mem_of_getElem? (i := 3) rfl)) ?_
  refine r_land C 98 at_97 rfl ?_
  refine r_ladd C 99 at_98 rfl ?_
  refine r_lastore C 100 V_b2 ⟨by decide, by decide⟩ (Nat.le_of_ble_eq_true rfl) at_99 rfl g_b2 ?_
  intro h8 W8 V8
  replace V_b1 := V_b1.other W8 ne_b1_b2
  replace Zs := Nat.le_trans Zs (Nat.le_of_eq W8.size.symm)
  replace KP := KP.wr W8 (Or.inr sz_b2)
  replace V_b2 : Arv Z h8 b2 kA2 .long (4 : Int32) [(.long p4), (.long (p4 + (p5 &&& (65535 : Int64)))), (.long (0 : Int64)), (.long (0 : Int64))] (.long (0 : Int64)) := V8
  refine r_aload C 102 at_100 rfl rfl rfl ?_
  refine r_iconst C 103 (2 : Int32) at_102 rfl rfl ?_
  refine r_aload C 105 at_103 rfl rfl rfl ?_
  refine r_iconst C 106 (1 : Int32) at_105 rfl rfl ?_
  refine r_laload C 107 (v := (.long (p4 + (p5 &&& (65535 : Int64))))) V_b2 ⟨by decide, by decide⟩ rfl at_106 rfl ?_
  refine r_lload C 109 at_107 rfl rfl ?_
  refine r_bipush C 111 (16 : Int32) at_109 rfl rfl ?_
  refine r_lushr C 112 at_111 rfl ?_
  refine r_ldc2_w C 115 at_112 rfl (hw _ (List.mem_of_getElem? (i := 3) rfl)) ?_
  refine r_land C 116 at_115 rfl ?_
  refine r_ladd C 117 at_116 rfl ?_
  refine r_lastore C 118 V_b2 ⟨by decide, by decide⟩ (Nat.le_of_ble_eq_true rfl) at_117 rfl g_b2 ?_
  intro h9 W9 V9
  replace V_b1 := V_b1.other W9 ne_b1_b2
  replace Zs := Nat.le_trans Zs (Nat.le_of_eq W9.size.symm)
  replace KP := KP.wr W9 (Or.inr sz_b2)
  replace V_b2 : Arv Z h9 b2 kA2 .long (4 : Int32) [(.long p4), (.long (p4 + (p5 &&& (65535 : Int64)))), (.long ((p4 + (p5 &&& (65535 : Int64))) + (((p5.toUInt64 >>> ((16 : Int32) &&& 0x3f).toInt64.toUInt64).toInt64) &&& (65535 : Int64)))), (.long (0 : Int64))] (.long (0 : Int64)) := V9
  refine r_aload C 120 at_118 rfl rfl rfl ?_
  refine r_iconst C 121 (3 : Int32) at_120 rfl rfl ?_
  refine r_aload C 123 at_121 rfl rfl rfl ?_
  refine r_iconst C 124 (2 : Int32) at_123 rfl rfl ?_
  refine r_laload C 125 (v := (.long ((p4 + (p5 &&& (65535 : Int64))) + (((p5.toUInt64 >>> ((16 : Int32) &&& 0x3f).toInt64.toUInt64).toInt64) &&& (65535 : Int64))))) V_b2 ⟨by decide, by decide⟩ rfl at_124 rfl ?_
  refine r_lload C 127 at_125 rfl rfl ?_
  refine r_bipush C 129 (32 : Int32) at_127 rfl rfl ?_
  refine r_lushr C 130 at_129 rfl ?_
  refine r_ldc2_w C 133 at_130 rfl (hw _ (List.mem_of_getElem? (i := 3) rfl)) ?_
  refine r_land C 134 at_133 rfl ?_
  refine r_ladd C 135 at_134 rfl ?_
  refine r_lastore C 136 V_b2 ⟨by decide, by decide⟩ (Nat.le_of_ble_eq_true rfl) at_135 rfl g_b2 ?_
  intro h10 W10 V10
  replace V_b1 := V_b1.other W10 ne_b1_b2
  replace Zs := Nat.le_trans Zs (Nat.le_of_eq W10.size.symm)
  replace KP := KP.wr W10 (Or.inr sz_b2)
  replace V_b2 : Arv Z h10 b2 kA2 .long (4 : Int32) [(.long p4), (.long (p4 + (p5 &&& (65535 : Int64)))), (.long ((p4 + (p5 &&& (65535 : Int64))) + (((p5.toUInt64 >>> ((16 : Int32) &&& 0x3f).toInt64.toUInt64).toInt64) &&& (65535 : Int64)))), (.long (((p4 + (p5 &&& (65535 : Int64))) + (((p5.toUInt64 >>> ((16 : Int32) &&& 0x3f).toInt64.toUInt64).toInt64) &&& (65535 : Int64))) + (((p5.toUInt64 >>> ((32 : Int32) &&& 0x3f).toInt64.toUInt64).toInt64) &&& (65535 : Int64))))] (.long (0 : Int64)) := V10
  obtain ⟨t0, ht0⟩ : ∃ z : Int64, z = p0 := ⟨_, rfl⟩
  rw [← ht0] at V_b1
  obtain ⟨t1, ht1⟩ : ∃ z : Int64, z = ((t0 + (1 : Int64)) + (p1 &&& (17179869183 : Int64))) := ⟨_, rfl⟩
  rw [← ht1] at V_b1
  obtain ⟨t2, ht2⟩ : ∃ z : Int64, z = ((t1 + (1 : Int64)) + (p2 &&& (17179869183 : Int64))) := ⟨_, rfl⟩
  rw [← ht2] at V_b1
  obtain ⟨t3, ht3⟩ : ∃ z : Int64, z = ((t2 + (1 : Int64)) + (p3 &&& (17179869183 : Int64))) := ⟨_, rfl⟩
  rw [← ht3] at V_b1
  have V_b1x : Arv Z h10 b1 kA1 .long (4 : Int32) [(.long t0), (.long t1), (.long t2), (.long t3)] (.long (0 : Int64)) := V_b1
  replace V_b1 := V_b1x
  obtain ⟨c0, hc0⟩ : ∃ z : Int64, z = p4 := ⟨_, rfl⟩
  rw [← hc0] at V_b2
  obtain ⟨c1, hc1⟩ : ∃ z : Int64, z = (c0 + (p5 &&& (65535 : Int64))) := ⟨_, rfl⟩
  rw [← hc1] at V_b2
  obtain ⟨c2, hc2⟩ : ∃ z : Int64, z = (c1 + (((p5.toUInt64 >>> ((16 : Int32) &&& 0x3f).toInt64.toUInt64).toInt64) &&& (65535 : Int64))) := ⟨_, rfl⟩
  rw [← hc2] at V_b2
  obtain ⟨c3, hc3⟩ : ∃ z : Int64, z = (c2 + (((p5.toUInt64 >>> ((32 : Int32) &&& 0x3f).toInt64.toUInt64).toInt64) &&& (65535 : Int64))) := ⟨_, rfl⟩
  rw [← hc3] at V_b2
  have V_b2x : Arv Z h10 b2 kA2 .long (4 : Int32) [(.long c0), (.long c1), (.long c2), (.long c3)] (.long (0 : Int64)) := V_b2
  replace V_b2 := V_b2x
  have T10 := own_t ht1
  have T21 := own_t ht2
  have T32 := own_t ht3
  have C10 := own_c hc1
  have C21 := own_c hc2
  have C32 := own_c hc3
  have T20 := own_2 (a := t0) (b := t1) (c := t2) (by omega) (by omega) (by omega) (by omega)
  have T31 := own_2 (a := t1) (b := t2) (c := t3) (by omega) (by omega) (by omega) (by omega)
  have T30 := own_2 (a := t0) (b := t1) (c := t3) (by omega) (by omega) (by omega) (by omega)
  have C20 := own_2 (a := c0) (b := c1) (c := c2) (by omega) (by omega) (by omega) (by omega)
  have C31 := own_2 (a := c1) (b := c2) (c := c3) (by omega) (by omega) (by omega) (by omega)
  have C30 := own_2 (a := c0) (b := c1) (c := c3) (by omega) (by omega) (by omega) (by omega)
  refine r_new C 139 (hw _ (List.mem_of_getElem? (i := 4) rfl)) (hw _ (List.mem_of_getElem? (i := 5) rfl)) (hw _ (List.mem_of_getElem? (i := 6) rfl)) at_136 rfl (by decide) (by decide) ?_
  intro h11 b11 g11 E11 A11 D11
  have g_b11 : n0 ≤ b11 := g11 ▸ Zs
  have lt_b1_b11 : b1 < b11 := Nat.lt_of_lt_of_le V_b1.lt (Nat.le_of_eq g11.symm)
  have ne_b1_b11 : b1 ≠ b11 := Nat.ne_of_lt lt_b1_b11
  have lt_b2_b11 : b2 < b11 := Nat.lt_of_lt_of_le V_b2.lt (Nat.le_of_eq g11.symm)
  have ne_b2_b11 : b2 ≠ b11 := Nat.ne_of_lt lt_b2_b11
  replace V_b1 := V_b1.ext E11
  replace V_b2 := V_b2.ext E11
  replace Zs := Nat.le_trans Zs E11.1
  have sz_b11 : h0.size ≤ b11 := g11 ▸ KP.1
  replace KP := KP.ext E11
  have F_times_b11 : Fld Z h11 b11 "com/example/indenture/indenture/app/HeapWatch" "times" "[J" .null := D11 (Or.inr (hw _ (List.mem_of_getElem? (i := 14) rfl))) (ty := (.array .long)) (by decide)
  have F_collected_b11 : Fld Z h11 b11 "com/example/indenture/indenture/app/HeapWatch" "collected" "[J" .null := D11 (Or.inr (hw _ (List.mem_of_getElem? (i := 16) rfl))) (ty := (.array .long)) (by decide)
  have F_count_b11 : Fld Z h11 b11 "com/example/indenture/indenture/app/HeapWatch" "count" "I" (.int (0 : Int32)) := D11 (Or.inl (hw _ (List.mem_of_getElem? (i := 23) rfl))) (ty := .int) (by decide)
  have F_oldest_b11 : Fld Z h11 b11 "com/example/indenture/indenture/app/HeapWatch" "oldest" "I" (.int (0 : Int32)) := D11 (Or.inl (hw _ (List.mem_of_getElem? (i := 25) rfl))) (ty := .int) (by decide)
  refine r_dup C 140 at_139 rfl rfl ?_
  refine r_iload C 142 at_140 rfl rfl ?_
  refine r_callN C 145 (y := (⟨"com/example/indenture/indenture/app/HeapWatch", "<init>", "(I)V"⟩ : MethodName)) (a := b11) [(.int (3 : Int32))] [(.ref b11)] rfl (rmHi3 l Z a0 hw b11 h11 n0 Zs A11 F_times_b11 F_collected_b11 F_count_b11 F_oldest_b11 g_b11) (hw _ (List.mem_of_getElem? (i := 7) rfl)) (hw _ (List.mem_of_getElem? (i := 8) rfl)) (hw _ (List.mem_of_getElem? (i := 6) rfl)) (hw _ (List.mem_of_getElem? (i := 9) rfl)) (by decide) (lenOf pd__I_V rfl) rfl rfl (by decide) (Nat.le_of_ble_eq_true rfl) (by decide) (by decide) rfl at_142 rfl ?_
  intro v12 h12 q12 z12
  obtain ⟨rfl, K12, at_, ac, kt, kc, szt, szc, ntc, hW, V_t, V_c⟩ := q12
  have sz_at_ : h0.size ≤ at_ := Nat.le_trans KP.1 szt
  have sz_ac : h0.size ≤ ac := Nat.le_trans KP.1 szc
  have g_at_ : n0 ≤ at_ := Nat.le_trans Zs szt
  have g_ac : n0 ≤ ac := Nat.le_trans Zs szc
  have n_b1_at_ : b1 ≠ at_ := Nat.ne_of_lt (Nat.lt_of_lt_of_le V_b1.lt szt)
  have n_b1_ac : b1 ≠ ac := Nat.ne_of_lt (Nat.lt_of_lt_of_le V_b1.lt szc)
  have n_b2_at_ : b2 ≠ at_ := Nat.ne_of_lt (Nat.lt_of_lt_of_le V_b2.lt szt)
  have n_b2_ac : b2 ≠ ac := Nat.ne_of_lt (Nat.lt_of_lt_of_le V_b2.lt szc)
  replace V_b1 := V_b1.keep K12 (ninS ne_b1_b11 nin0)
  replace V_b2 := V_b2.keep K12 (ninS ne_b2_b11 nin0)
  replace A11 := A11.keep K12
  replace KP := KP.trans K12 (allS (Or.inr sz_b11) all0)
  replace Zs := Nat.le_trans Zs K12.1
  show Run _ _ _ _ _ _ _ _ 145 #[.val (.long p0), .second, .val (.long p1), .second, .val (.long p2), .second, .val (.long p3), .second, .val (.long p4), .second, .val (.long p5), .second, .val (.int (3 : Int32)), .val (.ref b1), .val (.ref b2), .unset, .unset, .unset, .unset, .unset] [(.ref b11)]
  refine r_astore C 147 #[.val (.long p0), .second, .val (.long p1), .second, .val (.long p2), .second, .val (.long p3), .second, .val (.long p4), .second, .val (.long p5), .second, .val (.int (3 : Int32)), .val (.ref b1), .val (.ref b2), .val (.ref b11), .unset, .unset, .unset, .unset] at_145 rfl rfl rfl ?_
  refine r_aload C 149 at_147 rfl rfl rfl ?_
  refine r_aload C 151 at_149 rfl rfl rfl ?_
  refine r_iconst C 152 (0 : Int32) at_151 rfl rfl ?_
  refine r_laload C 153 (v := (.long t0)) V_b1 ⟨by decide, by decide⟩ rfl at_152 rfl ?_
  refine r_aload C 155 at_153 rfl rfl rfl ?_
  refine r_iconst C 156 (0 : Int32) at_155 rfl rfl ?_
  refine r_laload C 157 (v := (.long c0)) V_b2 ⟨by decide, by decide⟩ rfl at_156 rfl ?_
  refine r_callV C 160 (y := (⟨"com/example/indenture/indenture/app/HeapWatch", "sample", "(JJ)Z"⟩ : MethodName)) (z := (⟨"com/example/indenture/indenture/app/HeapWatch", "sample", "(JJ)Z"⟩ : MethodName)) (D := "com/example/indenture/indenture/app/HeapWatch") (a := b11) [(.long t0), (.long c0)] [] (rmSa_3_0_0 l Z a0 hw b11 t0 c0 at_ ac kt kc (0 : Int64) (0 : Int64) (0 : Int64) (0 : Int64) (0 : Int64) (0 : Int64) h12 n0 Zs hW V_t V_c ntc g_b11 g_at_ g_ac  (by rw [own_0]; decide) (by rw [own_0]; decide) (by rw [own_0]; decide)) (hw _ (List.mem_of_getElem? (i := 17) rfl)) (hw _ (List.mem_of_getElem? (i := 18) rfl)) (fun s hZ' => notFace_of_selects (args := #[]) (mvT hZ' (hw _ (List.mem_of_getElem? (i := 20) rfl)))) (hw _ (List.mem_of_getElem? (i := 20) rfl)) (hw _ (List.mem_of_getElem? (i := 19) rfl)) (hw _ (List.mem_of_getElem? (i := 6) rfl)) (hw _ (List.mem_of_getElem? (i := 21) rfl)) hW.1 (by decide) (lenOf pd__JJ_Z rfl) rfl rfl (by decide) (Nat.le_of_ble_eq_true rfl) (by decide) (by decide) rfl at_157 rfl ?_
  intro v13 h13 q13 z13
  obtain ⟨rfl, K13, hW, V_t, V_c⟩ := q13
  replace V_b1 := V_b1.keep K13 (ninS ne_b1_b11 (ninS n_b1_at_ (ninS n_b1_ac nin0)))
  replace V_b2 := V_b2.keep K13 (ninS ne_b2_b11 (ninS n_b2_at_ (ninS n_b2_ac nin0)))
  replace KP := KP.trans K13 (allS (Or.inr sz_b11) (allS (Or.inr sz_at_) (allS (Or.inr sz_ac) all0)))
  replace Zs := Nat.le_trans Zs K13.1
  show Run _ _ _ _ _ _ _ _ 160 #[.val (.long p0), .second, .val (.long p1), .second, .val (.long p2), .second, .val (.long p3), .second, .val (.long p4), .second, .val (.long p5), .second, .val (.int (3 : Int32)), .val (.ref b1), .val (.ref b2), .val (.ref b11), .unset, .unset, .unset, .unset] [(.int (sm (t0 - t0) (c0 - c0)))]
  refine r_istore C 162 #[.val (.long p0), .second, .val (.long p1), .second, .val (.long p2), .second, .val (.long p3), .second, .val (.long p4), .second, .val (.long p5), .second, .val (.int (3 : Int32)), .val (.ref b1), .val (.ref b2), .val (.ref b11), .val (.int (sm (t0 - t0) (c0 - c0))), .unset, .unset, .unset] at_160 rfl rfl ?_
  refine r_aload C 164 at_162 rfl rfl rfl ?_
  refine r_aload C 166 at_164 rfl rfl rfl ?_
  refine r_iconst C 167 (1 : Int32) at_166 rfl rfl ?_
  refine r_laload C 168 (v := (.long t1)) V_b1 ⟨by decide, by decide⟩ rfl at_167 rfl ?_
  refine r_aload C 170 at_168 rfl rfl rfl ?_
  refine r_iconst C 171 (1 : Int32) at_170 rfl rfl ?_
  refine r_laload C 172 (v := (.long c1)) V_b2 ⟨by decide, by decide⟩ rfl at_171 rfl ?_
  refine r_callV C 175 (y := (⟨"com/example/indenture/indenture/app/HeapWatch", "sample", "(JJ)Z"⟩ : MethodName)) (z := (⟨"com/example/indenture/indenture/app/HeapWatch", "sample", "(JJ)Z"⟩ : MethodName)) (D := "com/example/indenture/indenture/app/HeapWatch") (a := b11) [(.long t1), (.long c1)] [] (rmSa_3_0_1 l Z a0 hw b11 t1 c1 at_ ac kt kc t0 (0 : Int64) (0 : Int64) c0 (0 : Int64) (0 : Int64) h13 n0 Zs hW V_t V_c ntc g_b11 g_at_ g_ac  (by omega) (by omega) (by omega)) (hw _ (List.mem_of_getElem? (i := 17) rfl)) (hw _ (List.mem_of_getElem? (i := 18) rfl)) (fun s hZ' => notFace_of_selects (args := #[]) (mvT hZ' (hw _ (List.mem_of_getElem? (i := 20) rfl)))) (hw _ (List.mem_of_getElem? (i := 20) rfl)) (hw _ (List.mem_of_getElem? (i := 19) rfl)) (hw _ (List.mem_of_getElem? (i := 6) rfl)) (hw _ (List.mem_of_getElem? (i := 21) rfl)) hW.1 (by decide) (lenOf pd__JJ_Z rfl) rfl rfl (by decide) (Nat.le_of_ble_eq_true rfl) (by decide) (by decide) rfl at_172 rfl ?_
  intro v14 h14 q14 z14
  obtain ⟨rfl, K14, hW, V_t, V_c⟩ := q14
  replace V_b1 := V_b1.keep K14 (ninS ne_b1_b11 (ninS n_b1_at_ (ninS n_b1_ac nin0)))
  replace V_b2 := V_b2.keep K14 (ninS ne_b2_b11 (ninS n_b2_at_ (ninS n_b2_ac nin0)))
  replace KP := KP.trans K14 (allS (Or.inr sz_b11) (allS (Or.inr sz_at_) (allS (Or.inr sz_ac) all0)))
  replace Zs := Nat.le_trans Zs K14.1
  show Run _ _ _ _ _ _ _ _ 175 #[.val (.long p0), .second, .val (.long p1), .second, .val (.long p2), .second, .val (.long p3), .second, .val (.long p4), .second, .val (.long p5), .second, .val (.int (3 : Int32)), .val (.ref b1), .val (.ref b2), .val (.ref b11), .val (.int (sm (t0 - t0) (c0 - c0))), .unset, .unset, .unset] [(.int (sm (t1 - t0) (c1 - c0)))]
  by_cases b21 : (t2 - t1) < 5000000000
  · refine r_istore C 177 #[.val (.long p0), .second, .val (.long p1), .second, .val (.long p2), .second, .val (.long p3), .second, .val (.long p4), .second, .val (.long p5), .second, .val (.int (3 : Int32)), .val (.ref b1), .val (.ref b2), .val (.ref b11), .val (.int (sm (t0 - t0) (c0 - c0))), .val (.int (sm (t1 - t0) (c1 - c0))), .unset, .unset] at_175 rfl rfl ?_
    refine r_aload C 179 at_177 rfl rfl rfl ?_
    refine r_aload C 181 at_179 rfl rfl rfl ?_
    refine r_iconst C 182 (2 : Int32) at_181 rfl rfl ?_
    refine r_laload C 183 (v := (.long t2)) V_b1 ⟨by decide, by decide⟩ rfl at_182 rfl ?_
    refine r_aload C 185 at_183 rfl rfl rfl ?_
    refine r_iconst C 186 (2 : Int32) at_185 rfl rfl ?_
    refine r_laload C 187 (v := (.long c2)) V_b2 ⟨by decide, by decide⟩ rfl at_186 rfl ?_
    refine r_callV C 190 (y := (⟨"com/example/indenture/indenture/app/HeapWatch", "sample", "(JJ)Z"⟩ : MethodName)) (z := (⟨"com/example/indenture/indenture/app/HeapWatch", "sample", "(JJ)Z"⟩ : MethodName)) (D := "com/example/indenture/indenture/app/HeapWatch") (a := b11) [(.long t2), (.long c2)] [] (rmSa_3_0_2_0 l Z a0 hw b11 t2 c2 at_ ac kt kc t0 t1 (0 : Int64) c0 c1 (0 : Int64) h14 n0 Zs hW V_t V_c ntc g_b11 g_at_ g_ac b21 (by omega) (by omega) (by omega)) (hw _ (List.mem_of_getElem? (i := 17) rfl)) (hw _ (List.mem_of_getElem? (i := 18) rfl)) (fun s hZ' => notFace_of_selects (args := #[]) (mvT hZ' (hw _ (List.mem_of_getElem? (i := 20) rfl)))) (hw _ (List.mem_of_getElem? (i := 20) rfl)) (hw _ (List.mem_of_getElem? (i := 19) rfl)) (hw _ (List.mem_of_getElem? (i := 6) rfl)) (hw _ (List.mem_of_getElem? (i := 21) rfl)) hW.1 (by decide) (lenOf pd__JJ_Z rfl) rfl rfl (by decide) (Nat.le_of_ble_eq_true rfl) (by decide) (by decide) rfl at_187 rfl ?_
    intro v15 h15 q15 z15
    obtain ⟨rfl, K15, hW, V_t, V_c⟩ := q15
    replace V_b1 := V_b1.keep K15 (ninS ne_b1_b11 (ninS n_b1_at_ (ninS n_b1_ac nin0)))
    replace V_b2 := V_b2.keep K15 (ninS ne_b2_b11 (ninS n_b2_at_ (ninS n_b2_ac nin0)))
    replace KP := KP.trans K15 (allS (Or.inr sz_b11) (allS (Or.inr sz_at_) (allS (Or.inr sz_ac) all0)))
    replace Zs := Nat.le_trans Zs K15.1
    show Run _ _ _ _ _ _ _ _ 190 #[.val (.long p0), .second, .val (.long p1), .second, .val (.long p2), .second, .val (.long p3), .second, .val (.long p4), .second, .val (.long p5), .second, .val (.int (3 : Int32)), .val (.ref b1), .val (.ref b2), .val (.ref b11), .val (.int (sm (t0 - t0) (c0 - c0))), .val (.int (sm (t1 - t0) (c1 - c0))), .unset, .unset] [(.int (sm (t2 - t0) (c2 - c0)))]
    by_cases b32 : (t3 - t2) < 5000000000
    · refine r_istore C 192 #[.val (.long p0), .second, .val (.long p1), .second, .val (.long p2), .second, .val (.long p3), .second, .val (.long p4), .second, .val (.long p5), .second, .val (.int (3 : Int32)), .val (.ref b1), .val (.ref b2), .val (.ref b11), .val (.int (sm (t0 - t0) (c0 - c0))), .val (.int (sm (t1 - t0) (c1 - c0))), .val (.int (sm (t2 - t0) (c2 - c0))), .unset] at_190 rfl rfl ?_
      refine r_aload C 194 at_192 rfl rfl rfl ?_
      refine r_aload C 196 at_194 rfl rfl rfl ?_
      refine r_iconst C 197 (3 : Int32) at_196 rfl rfl ?_
      refine r_laload C 198 (v := (.long t3)) V_b1 ⟨by decide, by decide⟩ rfl at_197 rfl ?_
      refine r_aload C 200 at_198 rfl rfl rfl ?_
      refine r_iconst C 201 (3 : Int32) at_200 rfl rfl ?_
      refine r_laload C 202 (v := (.long c3)) V_b2 ⟨by decide, by decide⟩ rfl at_201 rfl ?_
      refine r_callV C 205 (y := (⟨"com/example/indenture/indenture/app/HeapWatch", "sample", "(JJ)Z"⟩ : MethodName)) (z := (⟨"com/example/indenture/indenture/app/HeapWatch", "sample", "(JJ)Z"⟩ : MethodName)) (D := "com/example/indenture/indenture/app/HeapWatch") (a := b11) [(.long t3), (.long c3)] [] (rmSa_3_0_3_0 l Z a0 hw b11 t3 c3 at_ ac kt kc t0 t1 t2 c0 c1 c2 h15 n0 Zs hW V_t V_c ntc g_b11 g_at_ g_ac b32 (by omega) (by omega) (by omega)) (hw _ (List.mem_of_getElem? (i := 17) rfl)) (hw _ (List.mem_of_getElem? (i := 18) rfl)) (fun s hZ' => notFace_of_selects (args := #[]) (mvT hZ' (hw _ (List.mem_of_getElem? (i := 20) rfl)))) (hw _ (List.mem_of_getElem? (i := 20) rfl)) (hw _ (List.mem_of_getElem? (i := 19) rfl)) (hw _ (List.mem_of_getElem? (i := 6) rfl)) (hw _ (List.mem_of_getElem? (i := 21) rfl)) hW.1 (by decide) (lenOf pd__JJ_Z rfl) rfl rfl (by decide) (Nat.le_of_ble_eq_true rfl) (by decide) (by decide) rfl at_202 rfl ?_
      intro v16 h16 q16 z16
      obtain ⟨rfl, K16, hW, V_t, V_c⟩ := q16
      replace V_b1 := V_b1.keep K16 (ninS ne_b1_b11 (ninS n_b1_at_ (ninS n_b1_ac nin0)))
      replace V_b2 := V_b2.keep K16 (ninS ne_b2_b11 (ninS n_b2_at_ (ninS n_b2_ac nin0)))
      replace KP := KP.trans K16 (allS (Or.inr sz_b11) (allS (Or.inr sz_at_) (allS (Or.inr sz_ac) all0)))
      replace Zs := Nat.le_trans Zs K16.1
      show Run _ _ _ _ _ _ _ _ 205 #[.val (.long p0), .second, .val (.long p1), .second, .val (.long p2), .second, .val (.long p3), .second, .val (.long p4), .second, .val (.long p5), .second, .val (.int (3 : Int32)), .val (.ref b1), .val (.ref b2), .val (.ref b11), .val (.int (sm (t0 - t0) (c0 - c0))), .val (.int (sm (t1 - t0) (c1 - c0))), .val (.int (sm (t2 - t0) (c2 - c0))), .unset] [(.int (sm (t3 - t1) (c3 - c1)))]
      refine r_istore C 207 #[.val (.long p0), .second, .val (.long p1), .second, .val (.long p2), .second, .val (.long p3), .second, .val (.long p4), .second, .val (.long p5), .second, .val (.int (3 : Int32)), .val (.ref b1), .val (.ref b2), .val (.ref b11), .val (.int (sm (t0 - t0) (c0 - c0))), .val (.int (sm (t1 - t0) (c1 - c0))), .val (.int (sm (t2 - t0) (c2 - c0))), .val (.int (sm (t3 - t1) (c3 - c1)))] at_205 rfl rfl ?_
      refine r_iload C 209 at_207 rfl rfl ?_
      refine r_aload C 211 at_209 rfl rfl rfl ?_
      refine r_aload C 213 at_211 rfl rfl rfl ?_
      refine r_iconst C 214 (0 : Int32) at_213 rfl rfl ?_
      refine r_iload C 216 at_214 rfl rfl ?_
      refine r_callS C 219 (y := (⟨"com/example/indenture/indenture/app/HeapWatchSamplePinLaw", "expect", "([J[JII)Z"⟩ : MethodName)) (a := 0) [(.ref b1), (.ref b2), (.int (0 : Int32)), (.int (3 : Int32))] [(.int (sm (t0 - t0) (c0 - c0)))] (rmXp0 l Z a0 hw b1 b2 (3 : Int32) kA1 kA2 t0 t1 t2 t3 c0 c1 c2 c3 h16 n0 Zs V_b1 V_b2) (hw _ (List.mem_of_getElem? (i := 33) rfl)) (hw _ (List.mem_of_getElem? (i := 34) rfl)) (hw _ (List.mem_of_getElem? (i := 35) rfl)) (hw _ (List.mem_of_getElem? (i := 36) rfl)) (by decide) (lenOf pd___J_JII_Z rfl) rfl rfl (by decide) (Nat.le_of_ble_eq_true rfl) (by decide) (by decide) rfl at_216 rfl ?_
      intro v17 h17 q17 z17
      obtain ⟨rfl, rfl⟩ := q17
      show Run _ _ _ _ _ _ _ _ 219 #[.val (.long p0), .second, .val (.long p1), .second, .val (.long p2), .second, .val (.long p3), .second, .val (.long p4), .second, .val (.long p5), .second, .val (.int (3 : Int32)), .val (.ref b1), .val (.ref b2), .val (.ref b11), .val (.int (sm (t0 - t0) (c0 - c0))), .val (.int (sm (t1 - t0) (c1 - c0))), .val (.int (sm (t2 - t0) (c2 - c0))), .val (.int (sm (t3 - t1) (c3 - c1)))] [(.int (0 : Int32)), (.int (sm (t0 - t0) (c0 - c0)))]
      refine r_icmp_ne C 271 222 at_219 (by decide) (by decide) rfl (fun q => absurd (show sm _ _ = (0 : Int32) by simp only [sm, jg, own_self t0, show (((3 : Int32) - 1 : Int32) < 1) = False by decide, show (((3 : Int32) - 1 : Int32) < 2) = False by decide, show (((3 : Int32) - 1 : Int32) < 3) = True by decide, if_true, if_false, ite_self]) q) (fun _ => ?_)
      refine r_iload C 224 at_222 rfl rfl ?_
      refine r_aload C 226 at_224 rfl rfl rfl ?_
      refine r_aload C 228 at_226 rfl rfl rfl ?_
      refine r_iconst C 229 (1 : Int32) at_228 rfl rfl ?_
      refine r_iload C 231 at_229 rfl rfl ?_
      refine r_callS C 234 (y := (⟨"com/example/indenture/indenture/app/HeapWatchSamplePinLaw", "expect", "([J[JII)Z"⟩ : MethodName)) (a := 0) [(.ref b1), (.ref b2), (.int (1 : Int32)), (.int (3 : Int32))] [(.int (sm (t1 - t0) (c1 - c0)))] (rmXp1 l Z a0 hw b1 b2 (3 : Int32) kA1 kA2 t0 t1 t2 t3 c0 c1 c2 c3 h16 n0 Zs V_b1 V_b2) (hw _ (List.mem_of_getElem? (i := 33) rfl)) (hw _ (List.mem_of_getElem? (i := 34) rfl)) (hw _ (List.mem_of_getElem? (i := 35) rfl)) (hw _ (List.mem_of_getElem? (i := 36) rfl)) (by decide) (lenOf pd___J_JII_Z rfl) rfl rfl (by decide) (Nat.le_of_ble_eq_true rfl) (by decide) (by decide) rfl at_231 rfl ?_
      intro v18 h18 q18 z18
      obtain ⟨rfl, rfl⟩ := q18
      show Run _ _ _ _ _ _ _ _ 234 #[.val (.long p0), .second, .val (.long p1), .second, .val (.long p2), .second, .val (.long p3), .second, .val (.long p4), .second, .val (.long p5), .second, .val (.int (3 : Int32)), .val (.ref b1), .val (.ref b2), .val (.ref b11), .val (.int (sm (t0 - t0) (c0 - c0))), .val (.int (sm (t1 - t0) (c1 - c0))), .val (.int (sm (t2 - t0) (c2 - c0))), .val (.int (sm (t3 - t1) (c3 - c1)))] [(.int (ex1 (3 : Int32) t0 t1 t2 t3 c0 c1 c2 c3)), (.int (sm (t1 - t0) (c1 - c0)))]
      refine r_icmp_ne C 271 237 at_234 (by decide) (by decide) rfl (fun q => absurd (show sm _ _ = (ex1 (3 : Int32) t0 t1 t2 t3 c0 c1 c2 c3) by simp only [ex1, sm, jg, show (((3 : Int32) - 1 : Int32) < 1) = False by decide, show (((3 : Int32) - 1 : Int32) < 2) = False by decide, show (((3 : Int32) - 1 : Int32) < 3) = True by decide, if_true, if_false, ite_self]) q) (fun _ => ?_)
      refine r_iload C 239 at_237 rfl rfl ?_
      refine r_aload C 241 at_239 rfl rfl rfl ?_
      refine r_aload C 243 at_241 rfl rfl rfl ?_
      refine r_iconst C 244 (2 : Int32) at_243 rfl rfl ?_
      refine r_iload C 246 at_244 rfl rfl ?_
      refine r_callS C 249 (y := (⟨"com/example/indenture/indenture/app/HeapWatchSamplePinLaw", "expect", "([J[JII)Z"⟩ : MethodName)) (a := 0) [(.ref b1), (.ref b2), (.int (2 : Int32)), (.int (3 : Int32))] [(.int (sm (t2 - t0) (c2 - c0)))] (rmXp2 l Z a0 hw b1 b2 (3 : Int32) kA1 kA2 t0 t1 t2 t3 c0 c1 c2 c3 h16 n0 Zs V_b1 V_b2) (hw _ (List.mem_of_getElem? (i := 33) rfl)) (hw _ (List.mem_of_getElem? (i := 34) rfl)) (hw _ (List.mem_of_getElem? (i := 35) rfl)) (hw _ (List.mem_of_getElem? (i := 36) rfl)) (by decide) (lenOf pd___J_JII_Z rfl) rfl rfl (by decide) (Nat.le_of_ble_eq_true rfl) (by decide) (by decide) rfl at_246 rfl ?_
      intro v19 h19 q19 z19
      obtain ⟨rfl, rfl⟩ := q19
      show Run _ _ _ _ _ _ _ _ 249 #[.val (.long p0), .second, .val (.long p1), .second, .val (.long p2), .second, .val (.long p3), .second, .val (.long p4), .second, .val (.long p5), .second, .val (.int (3 : Int32)), .val (.ref b1), .val (.ref b2), .val (.ref b11), .val (.int (sm (t0 - t0) (c0 - c0))), .val (.int (sm (t1 - t0) (c1 - c0))), .val (.int (sm (t2 - t0) (c2 - c0))), .val (.int (sm (t3 - t1) (c3 - c1)))] [(.int (ex2 (3 : Int32) t0 t1 t2 t3 c0 c1 c2 c3)), (.int (sm (t2 - t0) (c2 - c0)))]
      refine r_icmp_ne C 271 252 at_249 (by decide) (by decide) rfl (fun q => absurd (show sm _ _ = (ex2 (3 : Int32) t0 t1 t2 t3 c0 c1 c2 c3) by simp only [ex2, sm, jg, b21, show (((3 : Int32) - 1 : Int32) < 1) = False by decide, show (((3 : Int32) - 1 : Int32) < 2) = False by decide, show (((3 : Int32) - 1 : Int32) < 3) = True by decide, if_true, if_false, ite_self]) q) (fun _ => ?_)
      refine r_iload C 254 at_252 rfl rfl ?_
      refine r_aload C 256 at_254 rfl rfl rfl ?_
      refine r_aload C 258 at_256 rfl rfl rfl ?_
      refine r_iconst C 259 (3 : Int32) at_258 rfl rfl ?_
      refine r_iload C 261 at_259 rfl rfl ?_
      refine r_callS C 264 (y := (⟨"com/example/indenture/indenture/app/HeapWatchSamplePinLaw", "expect", "([J[JII)Z"⟩ : MethodName)) (a := 0) [(.ref b1), (.ref b2), (.int (3 : Int32)), (.int (3 : Int32))] [(.int (sm (t3 - t1) (c3 - c1)))] (rmXp3 l Z a0 hw b1 b2 (3 : Int32) kA1 kA2 t0 t1 t2 t3 c0 c1 c2 c3 h16 n0 Zs V_b1 V_b2) (hw _ (List.mem_of_getElem? (i := 33) rfl)) (hw _ (List.mem_of_getElem? (i := 34) rfl)) (hw _ (List.mem_of_getElem? (i := 35) rfl)) (hw _ (List.mem_of_getElem? (i := 36) rfl)) (by decide) (lenOf pd___J_JII_Z rfl) rfl rfl (by decide) (Nat.le_of_ble_eq_true rfl) (by decide) (by decide) rfl at_261 rfl ?_
      intro v20 h20 q20 z20
      obtain ⟨rfl, rfl⟩ := q20
      show Run _ _ _ _ _ _ _ _ 264 #[.val (.long p0), .second, .val (.long p1), .second, .val (.long p2), .second, .val (.long p3), .second, .val (.long p4), .second, .val (.long p5), .second, .val (.int (3 : Int32)), .val (.ref b1), .val (.ref b2), .val (.ref b11), .val (.int (sm (t0 - t0) (c0 - c0))), .val (.int (sm (t1 - t0) (c1 - c0))), .val (.int (sm (t2 - t0) (c2 - c0))), .val (.int (sm (t3 - t1) (c3 - c1)))] [(.int (ex3 (3 : Int32) t0 t1 t2 t3 c0 c1 c2 c3)), (.int (sm (t3 - t1) (c3 - c1)))]
      refine r_icmp_ne C 271 267 at_264 (by decide) (by decide) rfl (fun q => absurd (show sm _ _ = (ex3 (3 : Int32) t0 t1 t2 t3 c0 c1 c2 c3) by simp only [ex3, sm, jg, b32, show (((3 : Int32) - 1 : Int32) < 1) = False by decide, show (((3 : Int32) - 1 : Int32) < 2) = False by decide, show (((3 : Int32) - 1 : Int32) < 3) = True by decide, if_true, if_false, ite_self]) q) (fun _ => ?_)
      refine r_iconst C 268 (1 : Int32) at_267 rfl rfl ?_
      refine r_goto C 272 at_268 (by decide) (by decide) ?_
      exact r_nreturn C (1 : Int32) rfl (t := .boolean) (by simp) rfl at_272 (by decide) (by decide) rfl
    · have b30 : ¬ (t3 - t0) < 5000000000 := fun q => b32 (own_lt q (by omega))
      have b31 : ¬ (t3 - t1) < 5000000000 := fun q => b32 (own_lt q (by omega))
      refine r_istore C 192 #[.val (.long p0), .second, .val (.long p1), .second, .val (.long p2), .second, .val (.long p3), .second, .val (.long p4), .second, .val (.long p5), .second, .val (.int (3 : Int32)), .val (.ref b1), .val (.ref b2), .val (.ref b11), .val (.int (sm (t0 - t0) (c0 - c0))), .val (.int (sm (t1 - t0) (c1 - c0))), .val (.int (sm (t2 - t0) (c2 - c0))), .unset] at_190 rfl rfl ?_
      refine r_aload C 194 at_192 rfl rfl rfl ?_
      refine r_aload C 196 at_194 rfl rfl rfl ?_
      refine r_iconst C 197 (3 : Int32) at_196 rfl rfl ?_
      refine r_laload C 198 (v := (.long t3)) V_b1 ⟨by decide, by decide⟩ rfl at_197 rfl ?_
      refine r_aload C 200 at_198 rfl rfl rfl ?_
      refine r_iconst C 201 (3 : Int32) at_200 rfl rfl ?_
      refine r_laload C 202 (v := (.long c3)) V_b2 ⟨by decide, by decide⟩ rfl at_201 rfl ?_
      refine r_callV C 205 (y := (⟨"com/example/indenture/indenture/app/HeapWatch", "sample", "(JJ)Z"⟩ : MethodName)) (z := (⟨"com/example/indenture/indenture/app/HeapWatch", "sample", "(JJ)Z"⟩ : MethodName)) (D := "com/example/indenture/indenture/app/HeapWatch") (a := b11) [(.long t3), (.long c3)] [] (rmSa_3_0_3_1 l Z a0 hw b11 t3 c3 at_ ac kt kc t0 t1 t2 c0 c1 c2 h15 n0 Zs hW V_t V_c ntc g_b11 g_at_ g_ac b32 (by omega) (by omega) (by omega)) (hw _ (List.mem_of_getElem? (i := 17) rfl)) (hw _ (List.mem_of_getElem? (i := 18) rfl)) (fun s hZ' => notFace_of_selects (args := #[]) (mvT hZ' (hw _ (List.mem_of_getElem? (i := 20) rfl)))) (hw _ (List.mem_of_getElem? (i := 20) rfl)) (hw _ (List.mem_of_getElem? (i := 19) rfl)) (hw _ (List.mem_of_getElem? (i := 6) rfl)) (hw _ (List.mem_of_getElem? (i := 21) rfl)) hW.1 (by decide) (lenOf pd__JJ_Z rfl) rfl rfl (by decide) (Nat.le_of_ble_eq_true rfl) (by decide) (by decide) rfl at_202 rfl ?_
      intro v21 h21 q21 z21
      obtain ⟨rfl, K21, hW, V_t, V_c⟩ := q21
      replace V_b1 := V_b1.keep K21 (ninS ne_b1_b11 (ninS n_b1_at_ (ninS n_b1_ac nin0)))
      replace V_b2 := V_b2.keep K21 (ninS ne_b2_b11 (ninS n_b2_at_ (ninS n_b2_ac nin0)))
      replace KP := KP.trans K21 (allS (Or.inr sz_b11) (allS (Or.inr sz_at_) (allS (Or.inr sz_ac) all0)))
      replace Zs := Nat.le_trans Zs K21.1
      show Run _ _ _ _ _ _ _ _ 205 #[.val (.long p0), .second, .val (.long p1), .second, .val (.long p2), .second, .val (.long p3), .second, .val (.long p4), .second, .val (.long p5), .second, .val (.int (3 : Int32)), .val (.ref b1), .val (.ref b2), .val (.ref b11), .val (.int (sm (t0 - t0) (c0 - c0))), .val (.int (sm (t1 - t0) (c1 - c0))), .val (.int (sm (t2 - t0) (c2 - c0))), .unset] [(.int (sm (t3 - t2) (c3 - c2)))]
      refine r_istore C 207 #[.val (.long p0), .second, .val (.long p1), .second, .val (.long p2), .second, .val (.long p3), .second, .val (.long p4), .second, .val (.long p5), .second, .val (.int (3 : Int32)), .val (.ref b1), .val (.ref b2), .val (.ref b11), .val (.int (sm (t0 - t0) (c0 - c0))), .val (.int (sm (t1 - t0) (c1 - c0))), .val (.int (sm (t2 - t0) (c2 - c0))), .val (.int (sm (t3 - t2) (c3 - c2)))] at_205 rfl rfl ?_
      refine r_iload C 209 at_207 rfl rfl ?_
      refine r_aload C 211 at_209 rfl rfl rfl ?_
      refine r_aload C 213 at_211 rfl rfl rfl ?_
      refine r_iconst C 214 (0 : Int32) at_213 rfl rfl ?_
      refine r_iload C 216 at_214 rfl rfl ?_
      refine r_callS C 219 (y := (⟨"com/example/indenture/indenture/app/HeapWatchSamplePinLaw", "expect", "([J[JII)Z"⟩ : MethodName)) (a := 0) [(.ref b1), (.ref b2), (.int (0 : Int32)), (.int (3 : Int32))] [(.int (sm (t0 - t0) (c0 - c0)))] (rmXp0 l Z a0 hw b1 b2 (3 : Int32) kA1 kA2 t0 t1 t2 t3 c0 c1 c2 c3 h21 n0 Zs V_b1 V_b2) (hw _ (List.mem_of_getElem? (i := 33) rfl)) (hw _ (List.mem_of_getElem? (i := 34) rfl)) (hw _ (List.mem_of_getElem? (i := 35) rfl)) (hw _ (List.mem_of_getElem? (i := 36) rfl)) (by decide) (lenOf pd___J_JII_Z rfl) rfl rfl (by decide) (Nat.le_of_ble_eq_true rfl) (by decide) (by decide) rfl at_216 rfl ?_
      intro v22 h22 q22 z22
      obtain ⟨rfl, rfl⟩ := q22
      show Run _ _ _ _ _ _ _ _ 219 #[.val (.long p0), .second, .val (.long p1), .second, .val (.long p2), .second, .val (.long p3), .second, .val (.long p4), .second, .val (.long p5), .second, .val (.int (3 : Int32)), .val (.ref b1), .val (.ref b2), .val (.ref b11), .val (.int (sm (t0 - t0) (c0 - c0))), .val (.int (sm (t1 - t0) (c1 - c0))), .val (.int (sm (t2 - t0) (c2 - c0))), .val (.int (sm (t3 - t2) (c3 - c2)))] [(.int (0 : Int32)), (.int (sm (t0 - t0) (c0 - c0)))]
      refine r_icmp_ne C 271 222 at_219 (by decide) (by decide) rfl (fun q => absurd (show sm _ _ = (0 : Int32) by simp only [sm, jg, own_self t0, show (((3 : Int32) - 1 : Int32) < 1) = False by decide, show (((3 : Int32) - 1 : Int32) < 2) = False by decide, show (((3 : Int32) - 1 : Int32) < 3) = True by decide, if_true, if_false, ite_self]) q) (fun _ => ?_)
      refine r_iload C 224 at_222 rfl rfl ?_
      refine r_aload C 226 at_224 rfl rfl rfl ?_
      refine r_aload C 228 at_226 rfl rfl rfl ?_
      refine r_iconst C 229 (1 : Int32) at_228 rfl rfl ?_
      refine r_iload C 231 at_229 rfl rfl ?_
      refine r_callS C 234 (y := (⟨"com/example/indenture/indenture/app/HeapWatchSamplePinLaw", "expect", "([J[JII)Z"⟩ : MethodName)) (a := 0) [(.ref b1), (.ref b2), (.int (1 : Int32)), (.int (3 : Int32))] [(.int (sm (t1 - t0) (c1 - c0)))] (rmXp1 l Z a0 hw b1 b2 (3 : Int32) kA1 kA2 t0 t1 t2 t3 c0 c1 c2 c3 h21 n0 Zs V_b1 V_b2) (hw _ (List.mem_of_getElem? (i := 33) rfl)) (hw _ (List.mem_of_getElem? (i := 34) rfl)) (hw _ (List.mem_of_getElem? (i := 35) rfl)) (hw _ (List.mem_of_getElem? (i := 36) rfl)) (by decide) (lenOf pd___J_JII_Z rfl) rfl rfl (by decide) (Nat.le_of_ble_eq_true rfl) (by decide) (by decide) rfl at_231 rfl ?_
      intro v23 h23 q23 z23
      obtain ⟨rfl, rfl⟩ := q23
      show Run _ _ _ _ _ _ _ _ 234 #[.val (.long p0), .second, .val (.long p1), .second, .val (.long p2), .second, .val (.long p3), .second, .val (.long p4), .second, .val (.long p5), .second, .val (.int (3 : Int32)), .val (.ref b1), .val (.ref b2), .val (.ref b11), .val (.int (sm (t0 - t0) (c0 - c0))), .val (.int (sm (t1 - t0) (c1 - c0))), .val (.int (sm (t2 - t0) (c2 - c0))), .val (.int (sm (t3 - t2) (c3 - c2)))] [(.int (ex1 (3 : Int32) t0 t1 t2 t3 c0 c1 c2 c3)), (.int (sm (t1 - t0) (c1 - c0)))]
      refine r_icmp_ne C 271 237 at_234 (by decide) (by decide) rfl (fun q => absurd (show sm _ _ = (ex1 (3 : Int32) t0 t1 t2 t3 c0 c1 c2 c3) by simp only [ex1, sm, jg, show (((3 : Int32) - 1 : Int32) < 1) = False by decide, show (((3 : Int32) - 1 : Int32) < 2) = False by decide, show (((3 : Int32) - 1 : Int32) < 3) = True by decide, if_true, if_false, ite_self]) q) (fun _ => ?_)
      refine r_iload C 239 at_237 rfl rfl ?_
      refine r_aload C 241 at_239 rfl rfl rfl ?_
      refine r_aload C 243 at_241 rfl rfl rfl ?_
      refine r_iconst C 244 (2 : Int32) at_243 rfl rfl ?_
      refine r_iload C 246 at_244 rfl rfl ?_
      refine r_callS C 249 (y := (⟨"com/example/indenture/indenture/app/HeapWatchSamplePinLaw", "expect", "([J[JII)Z"⟩ : MethodName)) (a := 0) [(.ref b1), (.ref b2), (.int (2 : Int32)), (.int (3 : Int32))] [(.int (sm (t2 - t0) (c2 - c0)))] (rmXp2 l Z a0 hw b1 b2 (3 : Int32) kA1 kA2 t0 t1 t2 t3 c0 c1 c2 c3 h21 n0 Zs V_b1 V_b2) (hw _ (List.mem_of_getElem? (i := 33) rfl)) (hw _ (List.mem_of_getElem? (i := 34) rfl)) (hw _ (List.mem_of_getElem? (i := 35) rfl)) (hw _ (List.mem_of_getElem? (i := 36) rfl)) (by decide) (lenOf pd___J_JII_Z rfl) rfl rfl (by decide) (Nat.le_of_ble_eq_true rfl) (by decide) (by decide) rfl at_246 rfl ?_
      intro v24 h24 q24 z24
      obtain ⟨rfl, rfl⟩ := q24
      show Run _ _ _ _ _ _ _ _ 249 #[.val (.long p0), .second, .val (.long p1), .second, .val (.long p2), .second, .val (.long p3), .second, .val (.long p4), .second, .val (.long p5), .second, .val (.int (3 : Int32)), .val (.ref b1), .val (.ref b2), .val (.ref b11), .val (.int (sm (t0 - t0) (c0 - c0))), .val (.int (sm (t1 - t0) (c1 - c0))), .val (.int (sm (t2 - t0) (c2 - c0))), .val (.int (sm (t3 - t2) (c3 - c2)))] [(.int (ex2 (3 : Int32) t0 t1 t2 t3 c0 c1 c2 c3)), (.int (sm (t2 - t0) (c2 - c0)))]
      refine r_icmp_ne C 271 252 at_249 (by decide) (by decide) rfl (fun q => absurd (show sm _ _ = (ex2 (3 : Int32) t0 t1 t2 t3 c0 c1 c2 c3) by simp only [ex2, sm, jg, b21, show (((3 : Int32) - 1 : Int32) < 1) = False by decide, show (((3 : Int32) - 1 : Int32) < 2) = False by decide, show (((3 : Int32) - 1 : Int32) < 3) = True by decide, if_true, if_false, ite_self]) q) (fun _ => ?_)
      refine r_iload C 254 at_252 rfl rfl ?_
      refine r_aload C 256 at_254 rfl rfl rfl ?_
      refine r_aload C 258 at_256 rfl rfl rfl ?_
      refine r_iconst C 259 (3 : Int32) at_258 rfl rfl ?_
      refine r_iload C 261 at_259 rfl rfl ?_
      refine r_callS C 264 (y := (⟨"com/example/indenture/indenture/app/HeapWatchSamplePinLaw", "expect", "([J[JII)Z"⟩ : MethodName)) (a := 0) [(.ref b1), (.ref b2), (.int (3 : Int32)), (.int (3 : Int32))] [(.int (sm (t3 - t2) (c3 - c2)))] (rmXp3 l Z a0 hw b1 b2 (3 : Int32) kA1 kA2 t0 t1 t2 t3 c0 c1 c2 c3 h21 n0 Zs V_b1 V_b2) (hw _ (List.mem_of_getElem? (i := 33) rfl)) (hw _ (List.mem_of_getElem? (i := 34) rfl)) (hw _ (List.mem_of_getElem? (i := 35) rfl)) (hw _ (List.mem_of_getElem? (i := 36) rfl)) (by decide) (lenOf pd___J_JII_Z rfl) rfl rfl (by decide) (Nat.le_of_ble_eq_true rfl) (by decide) (by decide) rfl at_261 rfl ?_
      intro v25 h25 q25 z25
      obtain ⟨rfl, rfl⟩ := q25
      show Run _ _ _ _ _ _ _ _ 264 #[.val (.long p0), .second, .val (.long p1), .second, .val (.long p2), .second, .val (.long p3), .second, .val (.long p4), .second, .val (.long p5), .second, .val (.int (3 : Int32)), .val (.ref b1), .val (.ref b2), .val (.ref b11), .val (.int (sm (t0 - t0) (c0 - c0))), .val (.int (sm (t1 - t0) (c1 - c0))), .val (.int (sm (t2 - t0) (c2 - c0))), .val (.int (sm (t3 - t2) (c3 - c2)))] [(.int (ex3 (3 : Int32) t0 t1 t2 t3 c0 c1 c2 c3)), (.int (sm (t3 - t2) (c3 - c2)))]
      refine r_icmp_ne C 271 267 at_264 (by decide) (by decide) rfl (fun q => absurd (show sm _ _ = (ex3 (3 : Int32) t0 t1 t2 t3 c0 c1 c2 c3) by simp only [ex3, sm, jg, b32, b30, b31, show (((3 : Int32) - 1 : Int32) < 1) = False by decide, show (((3 : Int32) - 1 : Int32) < 2) = False by decide, show (((3 : Int32) - 1 : Int32) < 3) = True by decide, if_true, if_false, ite_self]) q) (fun _ => ?_)
      refine r_iconst C 268 (1 : Int32) at_267 rfl rfl ?_
      refine r_goto C 272 at_268 (by decide) (by decide) ?_
      exact r_nreturn C (1 : Int32) rfl (t := .boolean) (by simp) rfl at_272 (by decide) (by decide) rfl
  · have b20 : ¬ (t2 - t0) < 5000000000 := fun q => b21 (own_lt q (by omega))
    have b31 : ¬ (t3 - t1) < 5000000000 := fun q => b21 (own_lt q (by omega))
    refine r_istore C 177 #[.val (.long p0), .second, .val (.long p1), .second, .val (.long p2), .second, .val (.long p3), .second, .val (.long p4), .second, .val (.long p5), .second, .val (.int (3 : Int32)), .val (.ref b1), .val (.ref b2), .val (.ref b11), .val (.int (sm (t0 - t0) (c0 - c0))), .val (.int (sm (t1 - t0) (c1 - c0))), .unset, .unset] at_175 rfl rfl ?_
    refine r_aload C 179 at_177 rfl rfl rfl ?_
    refine r_aload C 181 at_179 rfl rfl rfl ?_
    refine r_iconst C 182 (2 : Int32) at_181 rfl rfl ?_
    refine r_laload C 183 (v := (.long t2)) V_b1 ⟨by decide, by decide⟩ rfl at_182 rfl ?_
    refine r_aload C 185 at_183 rfl rfl rfl ?_
    refine r_iconst C 186 (2 : Int32) at_185 rfl rfl ?_
    refine r_laload C 187 (v := (.long c2)) V_b2 ⟨by decide, by decide⟩ rfl at_186 rfl ?_
    refine r_callV C 190 (y := (⟨"com/example/indenture/indenture/app/HeapWatch", "sample", "(JJ)Z"⟩ : MethodName)) (z := (⟨"com/example/indenture/indenture/app/HeapWatch", "sample", "(JJ)Z"⟩ : MethodName)) (D := "com/example/indenture/indenture/app/HeapWatch") (a := b11) [(.long t2), (.long c2)] [] (rmSa_3_0_2_1 l Z a0 hw b11 t2 c2 at_ ac kt kc t0 t1 (0 : Int64) c0 c1 (0 : Int64) h14 n0 Zs hW V_t V_c ntc g_b11 g_at_ g_ac b21 (by omega) (by omega) (by omega)) (hw _ (List.mem_of_getElem? (i := 17) rfl)) (hw _ (List.mem_of_getElem? (i := 18) rfl)) (fun s hZ' => notFace_of_selects (args := #[]) (mvT hZ' (hw _ (List.mem_of_getElem? (i := 20) rfl)))) (hw _ (List.mem_of_getElem? (i := 20) rfl)) (hw _ (List.mem_of_getElem? (i := 19) rfl)) (hw _ (List.mem_of_getElem? (i := 6) rfl)) (hw _ (List.mem_of_getElem? (i := 21) rfl)) hW.1 (by decide) (lenOf pd__JJ_Z rfl) rfl rfl (by decide) (Nat.le_of_ble_eq_true rfl) (by decide) (by decide) rfl at_187 rfl ?_
    intro v26 h26 q26 z26
    obtain ⟨rfl, K26, hW, V_t, V_c⟩ := q26
    replace V_b1 := V_b1.keep K26 (ninS ne_b1_b11 (ninS n_b1_at_ (ninS n_b1_ac nin0)))
    replace V_b2 := V_b2.keep K26 (ninS ne_b2_b11 (ninS n_b2_at_ (ninS n_b2_ac nin0)))
    replace KP := KP.trans K26 (allS (Or.inr sz_b11) (allS (Or.inr sz_at_) (allS (Or.inr sz_ac) all0)))
    replace Zs := Nat.le_trans Zs K26.1
    show Run _ _ _ _ _ _ _ _ 190 #[.val (.long p0), .second, .val (.long p1), .second, .val (.long p2), .second, .val (.long p3), .second, .val (.long p4), .second, .val (.long p5), .second, .val (.int (3 : Int32)), .val (.ref b1), .val (.ref b2), .val (.ref b11), .val (.int (sm (t0 - t0) (c0 - c0))), .val (.int (sm (t1 - t0) (c1 - c0))), .unset, .unset] [(.int (sm (t2 - t1) (c2 - c1)))]
    by_cases b32 : (t3 - t2) < 5000000000
    · refine r_istore C 192 #[.val (.long p0), .second, .val (.long p1), .second, .val (.long p2), .second, .val (.long p3), .second, .val (.long p4), .second, .val (.long p5), .second, .val (.int (3 : Int32)), .val (.ref b1), .val (.ref b2), .val (.ref b11), .val (.int (sm (t0 - t0) (c0 - c0))), .val (.int (sm (t1 - t0) (c1 - c0))), .val (.int (sm (t2 - t1) (c2 - c1))), .unset] at_190 rfl rfl ?_
      refine r_aload C 194 at_192 rfl rfl rfl ?_
      refine r_aload C 196 at_194 rfl rfl rfl ?_
      refine r_iconst C 197 (3 : Int32) at_196 rfl rfl ?_
      refine r_laload C 198 (v := (.long t3)) V_b1 ⟨by decide, by decide⟩ rfl at_197 rfl ?_
      refine r_aload C 200 at_198 rfl rfl rfl ?_
      refine r_iconst C 201 (3 : Int32) at_200 rfl rfl ?_
      refine r_laload C 202 (v := (.long c3)) V_b2 ⟨by decide, by decide⟩ rfl at_201 rfl ?_
      refine r_callV C 205 (y := (⟨"com/example/indenture/indenture/app/HeapWatch", "sample", "(JJ)Z"⟩ : MethodName)) (z := (⟨"com/example/indenture/indenture/app/HeapWatch", "sample", "(JJ)Z"⟩ : MethodName)) (D := "com/example/indenture/indenture/app/HeapWatch") (a := b11) [(.long t3), (.long c3)] [] (rmSa_3_1_2_0 l Z a0 hw b11 t3 c3 at_ ac kt kc t0 t1 t2 c0 c1 c2 h26 n0 Zs hW V_t V_c ntc g_b11 g_at_ g_ac b32 (by omega) (by omega) (by omega)) (hw _ (List.mem_of_getElem? (i := 17) rfl)) (hw _ (List.mem_of_getElem? (i := 18) rfl)) (fun s hZ' => notFace_of_selects (args := #[]) (mvT hZ' (hw _ (List.mem_of_getElem? (i := 20) rfl)))) (hw _ (List.mem_of_getElem? (i := 20) rfl)) (hw _ (List.mem_of_getElem? (i := 19) rfl)) (hw _ (List.mem_of_getElem? (i := 6) rfl)) (hw _ (List.mem_of_getElem? (i := 21) rfl)) hW.1 (by decide) (lenOf pd__JJ_Z rfl) rfl rfl (by decide) (Nat.le_of_ble_eq_true rfl) (by decide) (by decide) rfl at_202 rfl ?_
      intro v27 h27 q27 z27
      obtain ⟨rfl, K27, hW, V_t, V_c⟩ := q27
      replace V_b1 := V_b1.keep K27 (ninS ne_b1_b11 (ninS n_b1_at_ (ninS n_b1_ac nin0)))
      replace V_b2 := V_b2.keep K27 (ninS ne_b2_b11 (ninS n_b2_at_ (ninS n_b2_ac nin0)))
      replace KP := KP.trans K27 (allS (Or.inr sz_b11) (allS (Or.inr sz_at_) (allS (Or.inr sz_ac) all0)))
      replace Zs := Nat.le_trans Zs K27.1
      show Run _ _ _ _ _ _ _ _ 205 #[.val (.long p0), .second, .val (.long p1), .second, .val (.long p2), .second, .val (.long p3), .second, .val (.long p4), .second, .val (.long p5), .second, .val (.int (3 : Int32)), .val (.ref b1), .val (.ref b2), .val (.ref b11), .val (.int (sm (t0 - t0) (c0 - c0))), .val (.int (sm (t1 - t0) (c1 - c0))), .val (.int (sm (t2 - t1) (c2 - c1))), .unset] [(.int (sm (t3 - t1) (c3 - c1)))]
      refine r_istore C 207 #[.val (.long p0), .second, .val (.long p1), .second, .val (.long p2), .second, .val (.long p3), .second, .val (.long p4), .second, .val (.long p5), .second, .val (.int (3 : Int32)), .val (.ref b1), .val (.ref b2), .val (.ref b11), .val (.int (sm (t0 - t0) (c0 - c0))), .val (.int (sm (t1 - t0) (c1 - c0))), .val (.int (sm (t2 - t1) (c2 - c1))), .val (.int (sm (t3 - t1) (c3 - c1)))] at_205 rfl rfl ?_
      refine r_iload C 209 at_207 rfl rfl ?_
      refine r_aload C 211 at_209 rfl rfl rfl ?_
      refine r_aload C 213 at_211 rfl rfl rfl ?_
      refine r_iconst C 214 (0 : Int32) at_213 rfl rfl ?_
      refine r_iload C 216 at_214 rfl rfl ?_
      refine r_callS C 219 (y := (⟨"com/example/indenture/indenture/app/HeapWatchSamplePinLaw", "expect", "([J[JII)Z"⟩ : MethodName)) (a := 0) [(.ref b1), (.ref b2), (.int (0 : Int32)), (.int (3 : Int32))] [(.int (sm (t0 - t0) (c0 - c0)))] (rmXp0 l Z a0 hw b1 b2 (3 : Int32) kA1 kA2 t0 t1 t2 t3 c0 c1 c2 c3 h27 n0 Zs V_b1 V_b2) (hw _ (List.mem_of_getElem? (i := 33) rfl)) (hw _ (List.mem_of_getElem? (i := 34) rfl)) (hw _ (List.mem_of_getElem? (i := 35) rfl)) (hw _ (List.mem_of_getElem? (i := 36) rfl)) (by decide) (lenOf pd___J_JII_Z rfl) rfl rfl (by decide) (Nat.le_of_ble_eq_true rfl) (by decide) (by decide) rfl at_216 rfl ?_
      intro v28 h28 q28 z28
      obtain ⟨rfl, rfl⟩ := q28
      show Run _ _ _ _ _ _ _ _ 219 #[.val (.long p0), .second, .val (.long p1), .second, .val (.long p2), .second, .val (.long p3), .second, .val (.long p4), .second, .val (.long p5), .second, .val (.int (3 : Int32)), .val (.ref b1), .val (.ref b2), .val (.ref b11), .val (.int (sm (t0 - t0) (c0 - c0))), .val (.int (sm (t1 - t0) (c1 - c0))), .val (.int (sm (t2 - t1) (c2 - c1))), .val (.int (sm (t3 - t1) (c3 - c1)))] [(.int (0 : Int32)), (.int (sm (t0 - t0) (c0 - c0)))]
      refine r_icmp_ne C 271 222 at_219 (by decide) (by decide) rfl (fun q => absurd (show sm _ _ = (0 : Int32) by simp only [sm, jg, own_self t0, show (((3 : Int32) - 1 : Int32) < 1) = False by decide, show (((3 : Int32) - 1 : Int32) < 2) = False by decide, show (((3 : Int32) - 1 : Int32) < 3) = True by decide, if_true, if_false, ite_self]) q) (fun _ => ?_)
      refine r_iload C 224 at_222 rfl rfl ?_
      refine r_aload C 226 at_224 rfl rfl rfl ?_
      refine r_aload C 228 at_226 rfl rfl rfl ?_
      refine r_iconst C 229 (1 : Int32) at_228 rfl rfl ?_
      refine r_iload C 231 at_229 rfl rfl ?_
      refine r_callS C 234 (y := (⟨"com/example/indenture/indenture/app/HeapWatchSamplePinLaw", "expect", "([J[JII)Z"⟩ : MethodName)) (a := 0) [(.ref b1), (.ref b2), (.int (1 : Int32)), (.int (3 : Int32))] [(.int (sm (t1 - t0) (c1 - c0)))] (rmXp1 l Z a0 hw b1 b2 (3 : Int32) kA1 kA2 t0 t1 t2 t3 c0 c1 c2 c3 h27 n0 Zs V_b1 V_b2) (hw _ (List.mem_of_getElem? (i := 33) rfl)) (hw _ (List.mem_of_getElem? (i := 34) rfl)) (hw _ (List.mem_of_getElem? (i := 35) rfl)) (hw _ (List.mem_of_getElem? (i := 36) rfl)) (by decide) (lenOf pd___J_JII_Z rfl) rfl rfl (by decide) (Nat.le_of_ble_eq_true rfl) (by decide) (by decide) rfl at_231 rfl ?_
      intro v29 h29 q29 z29
      obtain ⟨rfl, rfl⟩ := q29
      show Run _ _ _ _ _ _ _ _ 234 #[.val (.long p0), .second, .val (.long p1), .second, .val (.long p2), .second, .val (.long p3), .second, .val (.long p4), .second, .val (.long p5), .second, .val (.int (3 : Int32)), .val (.ref b1), .val (.ref b2), .val (.ref b11), .val (.int (sm (t0 - t0) (c0 - c0))), .val (.int (sm (t1 - t0) (c1 - c0))), .val (.int (sm (t2 - t1) (c2 - c1))), .val (.int (sm (t3 - t1) (c3 - c1)))] [(.int (ex1 (3 : Int32) t0 t1 t2 t3 c0 c1 c2 c3)), (.int (sm (t1 - t0) (c1 - c0)))]
      refine r_icmp_ne C 271 237 at_234 (by decide) (by decide) rfl (fun q => absurd (show sm _ _ = (ex1 (3 : Int32) t0 t1 t2 t3 c0 c1 c2 c3) by simp only [ex1, sm, jg, show (((3 : Int32) - 1 : Int32) < 1) = False by decide, show (((3 : Int32) - 1 : Int32) < 2) = False by decide, show (((3 : Int32) - 1 : Int32) < 3) = True by decide, if_true, if_false, ite_self]) q) (fun _ => ?_)
      refine r_iload C 239 at_237 rfl rfl ?_
      refine r_aload C 241 at_239 rfl rfl rfl ?_
      refine r_aload C 243 at_241 rfl rfl rfl ?_
      refine r_iconst C 244 (2 : Int32) at_243 rfl rfl ?_
      refine r_iload C 246 at_244 rfl rfl ?_
      refine r_callS C 249 (y := (⟨"com/example/indenture/indenture/app/HeapWatchSamplePinLaw", "expect", "([J[JII)Z"⟩ : MethodName)) (a := 0) [(.ref b1), (.ref b2), (.int (2 : Int32)), (.int (3 : Int32))] [(.int (sm (t2 - t1) (c2 - c1)))] (rmXp2 l Z a0 hw b1 b2 (3 : Int32) kA1 kA2 t0 t1 t2 t3 c0 c1 c2 c3 h27 n0 Zs V_b1 V_b2) (hw _ (List.mem_of_getElem? (i := 33) rfl)) (hw _ (List.mem_of_getElem? (i := 34) rfl)) (hw _ (List.mem_of_getElem? (i := 35) rfl)) (hw _ (List.mem_of_getElem? (i := 36) rfl)) (by decide) (lenOf pd___J_JII_Z rfl) rfl rfl (by decide) (Nat.le_of_ble_eq_true rfl) (by decide) (by decide) rfl at_246 rfl ?_
      intro v30 h30 q30 z30
      obtain ⟨rfl, rfl⟩ := q30
      show Run _ _ _ _ _ _ _ _ 249 #[.val (.long p0), .second, .val (.long p1), .second, .val (.long p2), .second, .val (.long p3), .second, .val (.long p4), .second, .val (.long p5), .second, .val (.int (3 : Int32)), .val (.ref b1), .val (.ref b2), .val (.ref b11), .val (.int (sm (t0 - t0) (c0 - c0))), .val (.int (sm (t1 - t0) (c1 - c0))), .val (.int (sm (t2 - t1) (c2 - c1))), .val (.int (sm (t3 - t1) (c3 - c1)))] [(.int (ex2 (3 : Int32) t0 t1 t2 t3 c0 c1 c2 c3)), (.int (sm (t2 - t1) (c2 - c1)))]
      refine r_icmp_ne C 271 252 at_249 (by decide) (by decide) rfl (fun q => absurd (show sm _ _ = (ex2 (3 : Int32) t0 t1 t2 t3 c0 c1 c2 c3) by simp only [ex2, sm, jg, b21, b20, show (((3 : Int32) - 1 : Int32) < 1) = False by decide, show (((3 : Int32) - 1 : Int32) < 2) = False by decide, show (((3 : Int32) - 1 : Int32) < 3) = True by decide, if_true, if_false, ite_self]) q) (fun _ => ?_)
      refine r_iload C 254 at_252 rfl rfl ?_
      refine r_aload C 256 at_254 rfl rfl rfl ?_
      refine r_aload C 258 at_256 rfl rfl rfl ?_
      refine r_iconst C 259 (3 : Int32) at_258 rfl rfl ?_
      refine r_iload C 261 at_259 rfl rfl ?_
      refine r_callS C 264 (y := (⟨"com/example/indenture/indenture/app/HeapWatchSamplePinLaw", "expect", "([J[JII)Z"⟩ : MethodName)) (a := 0) [(.ref b1), (.ref b2), (.int (3 : Int32)), (.int (3 : Int32))] [(.int (sm (t3 - t1) (c3 - c1)))] (rmXp3 l Z a0 hw b1 b2 (3 : Int32) kA1 kA2 t0 t1 t2 t3 c0 c1 c2 c3 h27 n0 Zs V_b1 V_b2) (hw _ (List.mem_of_getElem? (i := 33) rfl)) (hw _ (List.mem_of_getElem? (i := 34) rfl)) (hw _ (List.mem_of_getElem? (i := 35) rfl)) (hw _ (List.mem_of_getElem? (i := 36) rfl)) (by decide) (lenOf pd___J_JII_Z rfl) rfl rfl (by decide) (Nat.le_of_ble_eq_true rfl) (by decide) (by decide) rfl at_261 rfl ?_
      intro v31 h31 q31 z31
      obtain ⟨rfl, rfl⟩ := q31
      show Run _ _ _ _ _ _ _ _ 264 #[.val (.long p0), .second, .val (.long p1), .second, .val (.long p2), .second, .val (.long p3), .second, .val (.long p4), .second, .val (.long p5), .second, .val (.int (3 : Int32)), .val (.ref b1), .val (.ref b2), .val (.ref b11), .val (.int (sm (t0 - t0) (c0 - c0))), .val (.int (sm (t1 - t0) (c1 - c0))), .val (.int (sm (t2 - t1) (c2 - c1))), .val (.int (sm (t3 - t1) (c3 - c1)))] [(.int (ex3 (3 : Int32) t0 t1 t2 t3 c0 c1 c2 c3)), (.int (sm (t3 - t1) (c3 - c1)))]
      refine r_icmp_ne C 271 267 at_264 (by decide) (by decide) rfl (fun q => absurd (show sm _ _ = (ex3 (3 : Int32) t0 t1 t2 t3 c0 c1 c2 c3) by simp only [ex3, sm, jg, b31, b32, show (((3 : Int32) - 1 : Int32) < 1) = False by decide, show (((3 : Int32) - 1 : Int32) < 2) = False by decide, show (((3 : Int32) - 1 : Int32) < 3) = True by decide, if_true, if_false, ite_self]) q) (fun _ => ?_)
      refine r_iconst C 268 (1 : Int32) at_267 rfl rfl ?_
      refine r_goto C 272 at_268 (by decide) (by decide) ?_
      exact r_nreturn C (1 : Int32) rfl (t := .boolean) (by simp) rfl at_272 (by decide) (by decide) rfl
    · have b30 : ¬ (t3 - t0) < 5000000000 := fun q => b32 (own_lt q (by omega))
      refine r_istore C 192 #[.val (.long p0), .second, .val (.long p1), .second, .val (.long p2), .second, .val (.long p3), .second, .val (.long p4), .second, .val (.long p5), .second, .val (.int (3 : Int32)), .val (.ref b1), .val (.ref b2), .val (.ref b11), .val (.int (sm (t0 - t0) (c0 - c0))), .val (.int (sm (t1 - t0) (c1 - c0))), .val (.int (sm (t2 - t1) (c2 - c1))), .unset] at_190 rfl rfl ?_
      refine r_aload C 194 at_192 rfl rfl rfl ?_
      refine r_aload C 196 at_194 rfl rfl rfl ?_
      refine r_iconst C 197 (3 : Int32) at_196 rfl rfl ?_
      refine r_laload C 198 (v := (.long t3)) V_b1 ⟨by decide, by decide⟩ rfl at_197 rfl ?_
      refine r_aload C 200 at_198 rfl rfl rfl ?_
      refine r_iconst C 201 (3 : Int32) at_200 rfl rfl ?_
      refine r_laload C 202 (v := (.long c3)) V_b2 ⟨by decide, by decide⟩ rfl at_201 rfl ?_
      refine r_callV C 205 (y := (⟨"com/example/indenture/indenture/app/HeapWatch", "sample", "(JJ)Z"⟩ : MethodName)) (z := (⟨"com/example/indenture/indenture/app/HeapWatch", "sample", "(JJ)Z"⟩ : MethodName)) (D := "com/example/indenture/indenture/app/HeapWatch") (a := b11) [(.long t3), (.long c3)] [] (rmSa_3_1_2_1 l Z a0 hw b11 t3 c3 at_ ac kt kc t0 t1 t2 c0 c1 c2 h26 n0 Zs hW V_t V_c ntc g_b11 g_at_ g_ac b32 (by omega) (by omega) (by omega)) (hw _ (List.mem_of_getElem? (i := 17) rfl)) (hw _ (List.mem_of_getElem? (i := 18) rfl)) (fun s hZ' => notFace_of_selects (args := #[]) (mvT hZ' (hw _ (List.mem_of_getElem? (i := 20) rfl)))) (hw _ (List.mem_of_getElem? (i := 20) rfl)) (hw _ (List.mem_of_getElem? (i := 19) rfl)) (hw _ (List.mem_of_getElem? (i := 6) rfl)) (hw _ (List.mem_of_getElem? (i := 21) rfl)) hW.1 (by decide) (lenOf pd__JJ_Z rfl) rfl rfl (by decide) (Nat.le_of_ble_eq_true rfl) (by decide) (by decide) rfl at_202 rfl ?_
      intro v32 h32 q32 z32
      obtain ⟨rfl, K32, hW, V_t, V_c⟩ := q32
      replace V_b1 := V_b1.keep K32 (ninS ne_b1_b11 (ninS n_b1_at_ (ninS n_b1_ac nin0)))
      replace V_b2 := V_b2.keep K32 (ninS ne_b2_b11 (ninS n_b2_at_ (ninS n_b2_ac nin0)))
      replace KP := KP.trans K32 (allS (Or.inr sz_b11) (allS (Or.inr sz_at_) (allS (Or.inr sz_ac) all0)))
      replace Zs := Nat.le_trans Zs K32.1
      show Run _ _ _ _ _ _ _ _ 205 #[.val (.long p0), .second, .val (.long p1), .second, .val (.long p2), .second, .val (.long p3), .second, .val (.long p4), .second, .val (.long p5), .second, .val (.int (3 : Int32)), .val (.ref b1), .val (.ref b2), .val (.ref b11), .val (.int (sm (t0 - t0) (c0 - c0))), .val (.int (sm (t1 - t0) (c1 - c0))), .val (.int (sm (t2 - t1) (c2 - c1))), .unset] [(.int (sm (t3 - t2) (c3 - c2)))]
      refine r_istore C 207 #[.val (.long p0), .second, .val (.long p1), .second, .val (.long p2), .second, .val (.long p3), .second, .val (.long p4), .second, .val (.long p5), .second, .val (.int (3 : Int32)), .val (.ref b1), .val (.ref b2), .val (.ref b11), .val (.int (sm (t0 - t0) (c0 - c0))), .val (.int (sm (t1 - t0) (c1 - c0))), .val (.int (sm (t2 - t1) (c2 - c1))), .val (.int (sm (t3 - t2) (c3 - c2)))] at_205 rfl rfl ?_
      refine r_iload C 209 at_207 rfl rfl ?_
      refine r_aload C 211 at_209 rfl rfl rfl ?_
      refine r_aload C 213 at_211 rfl rfl rfl ?_
      refine r_iconst C 214 (0 : Int32) at_213 rfl rfl ?_
      refine r_iload C 216 at_214 rfl rfl ?_
      refine r_callS C 219 (y := (⟨"com/example/indenture/indenture/app/HeapWatchSamplePinLaw", "expect", "([J[JII)Z"⟩ : MethodName)) (a := 0) [(.ref b1), (.ref b2), (.int (0 : Int32)), (.int (3 : Int32))] [(.int (sm (t0 - t0) (c0 - c0)))] (rmXp0 l Z a0 hw b1 b2 (3 : Int32) kA1 kA2 t0 t1 t2 t3 c0 c1 c2 c3 h32 n0 Zs V_b1 V_b2) (hw _ (List.mem_of_getElem? (i := 33) rfl)) (hw _ (List.mem_of_getElem? (i := 34) rfl)) (hw _ (List.mem_of_getElem? (i := 35) rfl)) (hw _ (List.mem_of_getElem? (i := 36) rfl)) (by decide) (lenOf pd___J_JII_Z rfl) rfl rfl (by decide) (Nat.le_of_ble_eq_true rfl) (by decide) (by decide) rfl at_216 rfl ?_
      intro v33 h33 q33 z33
      obtain ⟨rfl, rfl⟩ := q33
      show Run _ _ _ _ _ _ _ _ 219 #[.val (.long p0), .second, .val (.long p1), .second, .val (.long p2), .second, .val (.long p3), .second, .val (.long p4), .second, .val (.long p5), .second, .val (.int (3 : Int32)), .val (.ref b1), .val (.ref b2), .val (.ref b11), .val (.int (sm (t0 - t0) (c0 - c0))), .val (.int (sm (t1 - t0) (c1 - c0))), .val (.int (sm (t2 - t1) (c2 - c1))), .val (.int (sm (t3 - t2) (c3 - c2)))] [(.int (0 : Int32)), (.int (sm (t0 - t0) (c0 - c0)))]
      refine r_icmp_ne C 271 222 at_219 (by decide) (by decide) rfl (fun q => absurd (show sm _ _ = (0 : Int32) by simp only [sm, jg, own_self t0, show (((3 : Int32) - 1 : Int32) < 1) = False by decide, show (((3 : Int32) - 1 : Int32) < 2) = False by decide, show (((3 : Int32) - 1 : Int32) < 3) = True by decide, if_true, if_false, ite_self]) q) (fun _ => ?_)
      refine r_iload C 224 at_222 rfl rfl ?_
      refine r_aload C 226 at_224 rfl rfl rfl ?_
      refine r_aload C 228 at_226 rfl rfl rfl ?_
      refine r_iconst C 229 (1 : Int32) at_228 rfl rfl ?_
      refine r_iload C 231 at_229 rfl rfl ?_
      refine r_callS C 234 (y := (⟨"com/example/indenture/indenture/app/HeapWatchSamplePinLaw", "expect", "([J[JII)Z"⟩ : MethodName)) (a := 0) [(.ref b1), (.ref b2), (.int (1 : Int32)), (.int (3 : Int32))] [(.int (sm (t1 - t0) (c1 - c0)))] (rmXp1 l Z a0 hw b1 b2 (3 : Int32) kA1 kA2 t0 t1 t2 t3 c0 c1 c2 c3 h32 n0 Zs V_b1 V_b2) (hw _ (List.mem_of_getElem? (i := 33) rfl)) (hw _ (List.mem_of_getElem? (i := 34) rfl)) (hw _ (List.mem_of_getElem? (i := 35) rfl)) (hw _ (List.mem_of_getElem? (i := 36) rfl)) (by decide) (lenOf pd___J_JII_Z rfl) rfl rfl (by decide) (Nat.le_of_ble_eq_true rfl) (by decide) (by decide) rfl at_231 rfl ?_
      intro v34 h34 q34 z34
      obtain ⟨rfl, rfl⟩ := q34
      show Run _ _ _ _ _ _ _ _ 234 #[.val (.long p0), .second, .val (.long p1), .second, .val (.long p2), .second, .val (.long p3), .second, .val (.long p4), .second, .val (.long p5), .second, .val (.int (3 : Int32)), .val (.ref b1), .val (.ref b2), .val (.ref b11), .val (.int (sm (t0 - t0) (c0 - c0))), .val (.int (sm (t1 - t0) (c1 - c0))), .val (.int (sm (t2 - t1) (c2 - c1))), .val (.int (sm (t3 - t2) (c3 - c2)))] [(.int (ex1 (3 : Int32) t0 t1 t2 t3 c0 c1 c2 c3)), (.int (sm (t1 - t0) (c1 - c0)))]
      refine r_icmp_ne C 271 237 at_234 (by decide) (by decide) rfl (fun q => absurd (show sm _ _ = (ex1 (3 : Int32) t0 t1 t2 t3 c0 c1 c2 c3) by simp only [ex1, sm, jg, show (((3 : Int32) - 1 : Int32) < 1) = False by decide, show (((3 : Int32) - 1 : Int32) < 2) = False by decide, show (((3 : Int32) - 1 : Int32) < 3) = True by decide, if_true, if_false, ite_self]) q) (fun _ => ?_)
      refine r_iload C 239 at_237 rfl rfl ?_
      refine r_aload C 241 at_239 rfl rfl rfl ?_
      refine r_aload C 243 at_241 rfl rfl rfl ?_
      refine r_iconst C 244 (2 : Int32) at_243 rfl rfl ?_
      refine r_iload C 246 at_244 rfl rfl ?_
      refine r_callS C 249 (y := (⟨"com/example/indenture/indenture/app/HeapWatchSamplePinLaw", "expect", "([J[JII)Z"⟩ : MethodName)) (a := 0) [(.ref b1), (.ref b2), (.int (2 : Int32)), (.int (3 : Int32))] [(.int (sm (t2 - t1) (c2 - c1)))] (rmXp2 l Z a0 hw b1 b2 (3 : Int32) kA1 kA2 t0 t1 t2 t3 c0 c1 c2 c3 h32 n0 Zs V_b1 V_b2) (hw _ (List.mem_of_getElem? (i := 33) rfl)) (hw _ (List.mem_of_getElem? (i := 34) rfl)) (hw _ (List.mem_of_getElem? (i := 35) rfl)) (hw _ (List.mem_of_getElem? (i := 36) rfl)) (by decide) (lenOf pd___J_JII_Z rfl) rfl rfl (by decide) (Nat.le_of_ble_eq_true rfl) (by decide) (by decide) rfl at_246 rfl ?_
      intro v35 h35 q35 z35
      obtain ⟨rfl, rfl⟩ := q35
      show Run _ _ _ _ _ _ _ _ 249 #[.val (.long p0), .second, .val (.long p1), .second, .val (.long p2), .second, .val (.long p3), .second, .val (.long p4), .second, .val (.long p5), .second, .val (.int (3 : Int32)), .val (.ref b1), .val (.ref b2), .val (.ref b11), .val (.int (sm (t0 - t0) (c0 - c0))), .val (.int (sm (t1 - t0) (c1 - c0))), .val (.int (sm (t2 - t1) (c2 - c1))), .val (.int (sm (t3 - t2) (c3 - c2)))] [(.int (ex2 (3 : Int32) t0 t1 t2 t3 c0 c1 c2 c3)), (.int (sm (t2 - t1) (c2 - c1)))]
      refine r_icmp_ne C 271 252 at_249 (by decide) (by decide) rfl (fun q => absurd (show sm _ _ = (ex2 (3 : Int32) t0 t1 t2 t3 c0 c1 c2 c3) by simp only [ex2, sm, jg, b21, b20, show (((3 : Int32) - 1 : Int32) < 1) = False by decide, show (((3 : Int32) - 1 : Int32) < 2) = False by decide, show (((3 : Int32) - 1 : Int32) < 3) = True by decide, if_true, if_false, ite_self]) q) (fun _ => ?_)
      refine r_iload C 254 at_252 rfl rfl ?_
      refine r_aload C 256 at_254 rfl rfl rfl ?_
      refine r_aload C 258 at_256 rfl rfl rfl ?_
      refine r_iconst C 259 (3 : Int32) at_258 rfl rfl ?_
      refine r_iload C 261 at_259 rfl rfl ?_
      refine r_callS C 264 (y := (⟨"com/example/indenture/indenture/app/HeapWatchSamplePinLaw", "expect", "([J[JII)Z"⟩ : MethodName)) (a := 0) [(.ref b1), (.ref b2), (.int (3 : Int32)), (.int (3 : Int32))] [(.int (sm (t3 - t2) (c3 - c2)))] (rmXp3 l Z a0 hw b1 b2 (3 : Int32) kA1 kA2 t0 t1 t2 t3 c0 c1 c2 c3 h32 n0 Zs V_b1 V_b2) (hw _ (List.mem_of_getElem? (i := 33) rfl)) (hw _ (List.mem_of_getElem? (i := 34) rfl)) (hw _ (List.mem_of_getElem? (i := 35) rfl)) (hw _ (List.mem_of_getElem? (i := 36) rfl)) (by decide) (lenOf pd___J_JII_Z rfl) rfl rfl (by decide) (Nat.le_of_ble_eq_true rfl) (by decide) (by decide) rfl at_261 rfl ?_
      intro v36 h36 q36 z36
      obtain ⟨rfl, rfl⟩ := q36
      show Run _ _ _ _ _ _ _ _ 264 #[.val (.long p0), .second, .val (.long p1), .second, .val (.long p2), .second, .val (.long p3), .second, .val (.long p4), .second, .val (.long p5), .second, .val (.int (3 : Int32)), .val (.ref b1), .val (.ref b2), .val (.ref b11), .val (.int (sm (t0 - t0) (c0 - c0))), .val (.int (sm (t1 - t0) (c1 - c0))), .val (.int (sm (t2 - t1) (c2 - c1))), .val (.int (sm (t3 - t2) (c3 - c2)))] [(.int (ex3 (3 : Int32) t0 t1 t2 t3 c0 c1 c2 c3)), (.int (sm (t3 - t2) (c3 - c2)))]
      refine r_icmp_ne C 271 267 at_264 (by decide) (by decide) rfl (fun q => absurd (show sm _ _ = (ex3 (3 : Int32) t0 t1 t2 t3 c0 c1 c2 c3) by simp only [ex3, sm, jg, b31, b32, b30, show (((3 : Int32) - 1 : Int32) < 1) = False by decide, show (((3 : Int32) - 1 : Int32) < 2) = False by decide, show (((3 : Int32) - 1 : Int32) < 3) = True by decide, if_true, if_false, ite_self]) q) (fun _ => ?_)
      refine r_iconst C 268 (1 : Int32) at_267 rfl rfl ?_
      refine r_goto C 272 at_268 (by decide) (by decide) ?_
      exact r_nreturn C (1 : Int32) rfl (t := .boolean) (by simp) rfl at_272 (by decide) (by decide) rfl
set_option maxRecDepth 65536 in
set_option maxHeartbeats 40000000 in
theorem rmJ4 (l : Launch) (Z : State) (a0 : Array Value) (hw : ∀ d ∈ tables_1, d.before a0 Z = true) (p0 p1 p2 p3 p4 p5 : Int64) (h0 : Heap) (n0 : Nat) (Zs : n0 ≤ h0.size) (K : Ctx) (C : Ok Z "com/example/indenture/indenture/app/HeapWatchSamplePinLaw" "law" code maxLocals ret K) : Run l room_1 n0 (fun v _ => v = some (.int 1)) K h0 0 0 14 #[.val (.long p0), .second, .val (.long p1), .second, .val (.long p2), .second, .val (.long p3), .second, .val (.long p4), .second, .val (.long p5), .second, .val (.int (4 : Int32)), .unset, .unset, .unset, .unset, .unset, .unset, .unset] [] := by
  have KP := Keep.refl h0 []
  refine r_iconst C 15 (4 : Int32) at_14 rfl rfl ?_
  refine r_newarray C 17 4 (hw _ (List.mem_of_getElem? (i := 1) rfl)) at_15 rfl (by decide) (by decide) (by decide) (by decide) (by decide) ?_
  intro h1 b1 kA1 g1 E1 V_b1
  replace V_b1 : Arv Z h1 b1 kA1 .long (4 : Int32) [(.long (0 : Int64)), (.long (0 : Int64)), (.long (0 : Int64)), (.long (0 : Int64))] (.long (0 : Int64)) := V_b1.pad (pad_rep [] (.long (0 : Int64)) 4)
  have g_b1 : n0 ≤ b1 := g1 ▸ Zs
  replace Zs := Nat.le_trans Zs E1.1
  have sz_b1 : h0.size ≤ b1 := g1 ▸ KP.1
  replace KP := KP.ext E1
  refine r_astore C 19 #[.val (.long p0), .second, .val (.long p1), .second, .val (.long p2), .second, .val (.long p3), .second, .val (.long p4), .second, .val (.long p5), .second, .val (.int (4 : Int32)), .val (.ref b1), .unset, .unset, .unset, .unset, .unset, .unset] at_17 rfl rfl rfl ?_
  refine r_iconst C 20 (4 : Int32) at_19 rfl rfl ?_
  refine r_newarray C 22 4 (hw _ (List.mem_of_getElem? (i := 1) rfl)) at_20 rfl (by decide) (by decide) (by decide) (by decide) (by decide) ?_
  intro h2 b2 kA2 g2 E2 V_b2
  replace V_b2 : Arv Z h2 b2 kA2 .long (4 : Int32) [(.long (0 : Int64)), (.long (0 : Int64)), (.long (0 : Int64)), (.long (0 : Int64))] (.long (0 : Int64)) := V_b2.pad (pad_rep [] (.long (0 : Int64)) 4)
  have g_b2 : n0 ≤ b2 := g2 ▸ Zs
  have lt_b1_b2 : b1 < b2 := Nat.lt_of_lt_of_le V_b1.lt (Nat.le_of_eq g2.symm)
  have ne_b1_b2 : b1 ≠ b2 := Nat.ne_of_lt lt_b1_b2
  replace V_b1 := V_b1.ext E2
  replace Zs := Nat.le_trans Zs E2.1
  have sz_b2 : h0.size ≤ b2 := g2 ▸ KP.1
  replace KP := KP.ext E2
  refine r_astore C 24 #[.val (.long p0), .second, .val (.long p1), .second, .val (.long p2), .second, .val (.long p3), .second, .val (.long p4), .second, .val (.long p5), .second, .val (.int (4 : Int32)), .val (.ref b1), .val (.ref b2), .unset, .unset, .unset, .unset, .unset] at_22 rfl rfl rfl ?_
  refine r_aload C 26 at_24 rfl rfl rfl ?_
  refine r_iconst C 27 (0 : Int32) at_26 rfl rfl ?_
  refine r_lloadN C 28 at_27 rfl rfl ?_
  refine r_lastore C 29 V_b1 ⟨by decide, by decide⟩ (Nat.le_of_ble_eq_true rfl) at_28 rfl g_b1 ?_
  intro h3 W3 V3
  replace V_b2 := V_b2.other W3 (Ne.symm ne_b1_b2)
  replace Zs := Nat.le_trans Zs (Nat.le_of_eq W3.size.symm)
  replace KP := KP.wr W3 (Or.inr sz_b1)
  replace V_b1 : Arv Z h3 b1 kA1 .long (4 : Int32) [(.long p0), (.long (0 : Int64)), (.long (0 : Int64)), (.long (0 : Int64))] (.long (0 : Int64)) := V3
  refine r_aload C 31 at_29 rfl rfl rfl ?_
  refine r_iconst C 32 (1 : Int32) at_31 rfl rfl ?_
  refine r_aload C 34 at_32 rfl rfl rfl ?_
  refine r_iconst C 35 (0 : Int32) at_34 rfl rfl ?_
  refine r_laload C 36 (v := (.long p0)) V_b1 ⟨by decide, by decide⟩ rfl at_35 rfl ?_
  refine r_lconst C 37 (1 : Int64) at_36 rfl rfl ?_
  refine r_ladd C 38 at_37 rfl ?_
  refine r_lloadN C 39 at_38 rfl rfl ?_
  refine r_ldc2_w C 42 at_39 rfl (hw _ (List.mem_of_getElem? (i := 2) rfl)) ?_
  refine r_land C 43 at_42 rfl ?_
  refine r_ladd C 44 at_43 rfl ?_
  refine r_lastore C 45 V_b1 ⟨by decide, by decide⟩ (Nat.le_of_ble_eq_true rfl) at_44 rfl g_b1 ?_
  intro h4 W4 V4
  replace V_b2 := V_b2.other W4 (Ne.symm ne_b1_b2)
  replace Zs := Nat.le_trans Zs (Nat.le_of_eq W4.size.symm)
  replace KP := KP.wr W4 (Or.inr sz_b1)
  replace V_b1 : Arv Z h4 b1 kA1 .long (4 : Int32) [(.long p0), (.long ((p0 + (1 : Int64)) + (p1 &&& (17179869183 : Int64)))), (.long (0 : Int64)), (.long (0 : Int64))] (.long (0 : Int64)) := V4
  refine r_aload C 47 at_45 rfl rfl rfl ?_
  refine r_iconst C 48 (2 : Int32) at_47 rfl rfl ?_
  refine r_aload C 50 at_48 rfl rfl rfl ?_
  refine r_iconst C 51 (1 : Int32) at_50 rfl rfl ?_
  refine r_laload C 52 (v := (.long ((p0 + (1 : Int64)) + (p1 &&& (17179869183 : Int64))))) V_b1 ⟨by decide, by decide⟩ rfl at_51 rfl ?_
  refine r_lconst C 53 (1 : Int64) at_52 rfl rfl ?_
  refine r_ladd C 54 at_53 rfl ?_
  refine r_lload C 56 at_54 rfl rfl ?_
  refine r_ldc2_w C 59 at_56 rfl (hw _ (List.mem_of_getElem? (i := 2) rfl)) ?_
  refine r_land C 60 at_59 rfl ?_
  refine r_ladd C 61 at_60 rfl ?_
  refine r_lastore C 62 V_b1 ⟨by decide, by decide⟩ (Nat.le_of_ble_eq_true rfl) at_61 rfl g_b1 ?_
  intro h5 W5 V5
  replace V_b2 := V_b2.other W5 (Ne.symm ne_b1_b2)
  replace Zs := Nat.le_trans Zs (Nat.le_of_eq W5.size.symm)
  replace KP := KP.wr W5 (Or.inr sz_b1)
  replace V_b1 : Arv Z h5 b1 kA1 .long (4 : Int32) [(.long p0), (.long ((p0 + (1 : Int64)) + (p1 &&& (17179869183 : Int64)))), (.long ((((p0 + (1 : Int64)) + (p1 &&& (17179869183 : Int64))) + (1 : Int64)) + (p2 &&& (17179869183 : Int64)))), (.long (0 : Int64))] (.long (0 : Int64)) := V5
  refine r_aload C 64 at_62 rfl rfl rfl ?_
  refine r_iconst C 65 (3 : Int32) at_64 rfl rfl ?_
  refine r_aload C 67 at_65 rfl rfl rfl ?_
  refine r_iconst C 68 (2 : Int32) at_67 rfl rfl ?_
  refine r_laload C 69 (v := (.long ((((p0 + (1 : Int64)) + (p1 &&& (17179869183 : Int64))) + (1 : Int64)) + (p2 &&& (17179869183 : Int64))))) V_b1 ⟨by decide, by decide⟩ rfl at_68 rfl ?_
  refine r_lconst C 70 (1 : Int64) at_69 rfl rfl ?_
  refine r_ladd C 71 at_70 rfl ?_
  refine r_lload C 73 at_71 rfl rfl ?_
  refine r_ldc2_w C 76 at_73 rfl (hw _ (List.mem_of_getElem? (i := 2) rfl)) ?_
  refine r_land C 77 at_76 rfl ?_
  refine r_ladd C 78 at_77 rfl ?_
  refine r_lastore C 79 V_b1 ⟨by decide, by decide⟩ (Nat.le_of_ble_eq_true rfl) at_78 rfl g_b1 ?_
  intro h6 W6 V6
  replace V_b2 := V_b2.other W6 (Ne.symm ne_b1_b2)
  replace Zs := Nat.le_trans Zs (Nat.le_of_eq W6.size.symm)
  replace KP := KP.wr W6 (Or.inr sz_b1)
  replace V_b1 : Arv Z h6 b1 kA1 .long (4 : Int32) [(.long p0), (.long ((p0 + (1 : Int64)) + (p1 &&& (17179869183 : Int64)))), (.long ((((p0 + (1 : Int64)) + (p1 &&& (17179869183 : Int64))) + (1 : Int64)) + (p2 &&& (17179869183 : Int64)))), (.long ((((((p0 + (1 : Int64)) + (p1 &&& (17179869183 : Int64))) + (1 : Int64)) + (p2 &&& (17179869183 : Int64))) + (1 : Int64)) + (p3 &&& (17179869183 : Int64))))] (.long (0 : Int64)) := V6
  refine r_aload C 81 at_79 rfl rfl rfl ?_
  refine r_iconst C 82 (0 : Int32) at_81 rfl rfl ?_
  refine r_lload C 84 at_82 rfl rfl ?_
  refine r_lastore C 85 V_b2 ⟨by decide, by decide⟩ (Nat.le_of_ble_eq_true rfl) at_84 rfl g_b2 ?_
  intro h7 W7 V7
  replace V_b1 := V_b1.other W7 ne_b1_b2
  replace Zs := Nat.le_trans Zs (Nat.le_of_eq W7.size.symm)
  replace KP := KP.wr W7 (Or.inr sz_b2)
  replace V_b2 : Arv Z h7 b2 kA2 .long (4 : Int32) [(.long p4), (.long (0 : Int64)), (.long (0 : Int64)), (.long (0 : Int64))] (.long (0 : Int64)) := V7
  refine r_aload C 87 at_85 rfl rfl rfl ?_
  refine r_iconst C 88 (1 : Int32) at_87 rfl rfl ?_
  refine r_aload C 90 at_88 rfl rfl rfl ?_
  refine r_iconst C 91 (0 : Int32) at_90 rfl rfl ?_
  refine r_laload C 92 (v := (.long p4)) V_b2 ⟨by decide, by decide⟩ rfl at_91 rfl ?_
  refine r_lload C 94 at_92 rfl rfl ?_
  refine r_ldc2_w C 97 at_94 rfl (hw _ (List.mem_of_getElem? (i := 3) rfl)) ?_
  refine r_land C 98 at_97 rfl ?_
  refine r_ladd C 99 at_98 rfl ?_
  refine r_lastore C 100 V_b2 ⟨by decide, by decide⟩ (Nat.le_of_ble_eq_true rfl) at_99 rfl g_b2 ?_
  intro h8 W8 V8
  replace V_b1 := V_b1.other W8 ne_b1_b2
  replace Zs := Nat.le_trans Zs (Nat.le_of_eq W8.size.symm)
  replace KP := KP.wr W8 (Or.inr sz_b2)
  replace V_b2 : Arv Z h8 b2 kA2 .long (4 : Int32) [(.long p4), (.long (p4 + (p5 &&& (65535 : Int64)))), (.long (0 : Int64)), (.long (0 : Int64))] (.long (0 : Int64)) := V8
  refine r_aload C 102 at_100 rfl rfl rfl ?_
  refine r_iconst C 103 (2 : Int32) at_102 rfl rfl ?_
  refine r_aload C 105 at_103 rfl rfl rfl ?_
  refine r_iconst C 106 (1 : Int32) at_105 rfl rfl ?_
  refine r_laload C 107 (v := (.long (p4 + (p5 &&& (65535 : Int64))))) V_b2 ⟨by decide, by decide⟩ rfl at_106 rfl ?_
  refine r_lload C 109 at_107 rfl rfl ?_
  refine r_bipush C 111 (16 : Int32) at_109 rfl rfl ?_
  refine r_lushr C 112 at_111 rfl ?_
  refine r_ldc2_w C 115 at_112 rfl (hw _ (List.mem_of_getElem? (i := 3) rfl)) ?_
  refine r_land C 116 at_115 rfl ?_
  refine r_ladd C 117 at_116 rfl ?_
  refine r_lastore C 118 V_b2 ⟨by decide, by decide⟩ (Nat.le_of_ble_eq_true rfl) at_117 rfl g_b2 ?_
  intro h9 W9 V9
  replace V_b1 := V_b1.other W9 ne_b1_b2
  replace Zs := Nat.le_trans Zs (Nat.le_of_eq W9.size.symm)
  replace KP := KP.wr W9 (Or.inr sz_b2)
  replace V_b2 : Arv Z h9 b2 kA2 .long (4 : Int32) [(.long p4), (.long (p4 + (p5 &&& (65535 : Int64)))), (.long ((p4 + (p5 &&& (65535 : Int64))) + (((p5.toUInt64 >>> ((16 : Int32) &&& 0x3f).toInt64.toUInt64).toInt64) &&& (65535 : Int64)))), (.long (0 : Int64))] (.long (0 : Int64)) := V9
  refine r_aload C 120 at_118 rfl rfl rfl ?_
  refine r_iconst C 121 (3 : Int32) at_120 rfl rfl ?_
  refine r_aload C 123 at_121 rfl rfl rfl ?_
  refine r_iconst C 124 (2 : Int32) at_123 rfl rfl ?_
  refine r_laload C 125 (v := (.long ((p4 + (p5 &&& (65535 : Int64))) + (((p5.toUInt64 >>> ((16 : Int32) &&& 0x3f).toInt64.toUInt64).toInt64) &&& (65535 : Int64))))) V_b2 ⟨by decide, by decide⟩ rfl at_124 rfl ?_
  refine r_lload C 127 at_125 rfl rfl ?_
  refine r_bipush C 129 (32 : Int32) at_127 rfl rfl ?_
  refine r_lushr C 130 at_129 rfl ?_
  refine r_ldc2_w C 133 at_130 rfl (hw _ (List.mem_of_getElem? (i := 3) rfl)) ?_
  refine r_land C 134 at_133 rfl ?_
  refine r_ladd C 135 at_134 rfl ?_
  refine r_lastore C 136 V_b2 ⟨by decide, by decide⟩ (Nat.le_of_ble_eq_true rfl) at_135 rfl g_b2 ?_
  intro h10 W10 V10
  replace V_b1 := V_b1.other W10 ne_b1_b2
  replace Zs := Nat.le_trans Zs (Nat.le_of_eq W10.size.symm)
  replace KP := KP.wr W10 (Or.inr sz_b2)
  replace V_b2 : Arv Z h10 b2 kA2 .long (4 : Int32) [(.long p4), (.long (p4 + (p5 &&& (65535 : Int64)))), (.long ((p4 + (p5 &&& (65535 : Int64))) + (((p5.toUInt64 >>> ((16 : Int32) &&& 0x3f).toInt64.toUInt64).toInt64) &&& (65535 : Int64)))), (.long (((p4 + (p5 &&& (65535 : Int64))) + (((p5.toUInt64 >>> ((16 : Int32) &&& 0x3f).toInt64.toUInt64).toInt64) &&& (65535 : Int64))) + (((p5.toUInt64 >>> ((32 : Int32) &&& 0x3f).toInt64.toUInt64).toInt64) &&& (65535 : Int64))))] (.long (0 : Int64)) := V10
  obtain ⟨t0, ht0⟩ : ∃ z : Int64, z = p0 := ⟨_, rfl⟩
  rw [← ht0] at V_b1
  obtain ⟨t1, ht1⟩ : ∃ z : Int64, z = ((t0 + (1 : Int64)) + (p1 &&& (17179869183 : Int64))) := ⟨_, rfl⟩
  rw [← ht1] at V_b1
  obtain ⟨t2, ht2⟩ : ∃ z : Int64, z = ((t1 + (1 : Int64)) + (p2 &&& (17179869183 : Int64))) := ⟨_, rfl⟩
  rw [← ht2] at V_b1
  obtain ⟨t3, ht3⟩ : ∃ z : Int64, z = ((t2 + (1 : Int64)) + (p3 &&& (17179869183 : Int64))) := ⟨_, rfl⟩
  rw [← ht3] at V_b1
  have V_b1x : Arv Z h10 b1 kA1 .long (4 : Int32) [(.long t0), (.long t1), (.long t2), (.long t3)] (.long (0 : Int64)) := V_b1
  replace V_b1 := V_b1x
  obtain ⟨c0, hc0⟩ : ∃ z : Int64, z = p4 := ⟨_, rfl⟩
  rw [← hc0] at V_b2
  obtain ⟨c1, hc1⟩ : ∃ z : Int64, z = (c0 + (p5 &&& (65535 : Int64))) := ⟨_, rfl⟩
  rw [← hc1] at V_b2
  obtain ⟨c2, hc2⟩ : ∃ z : Int64, z = (c1 + (((p5.toUInt64 >>> ((16 : Int32) &&& 0x3f).toInt64.toUInt64).toInt64) &&& (65535 : Int64))) := ⟨_, rfl⟩
  rw [← hc2] at V_b2
  obtain ⟨c3, hc3⟩ : ∃ z : Int64, z = (c2 + (((p5.toUInt64 >>> ((32 : Int32) &&& 0x3f).toInt64.toUInt64).toInt64) &&& (65535 : Int64))) := ⟨_, rfl⟩
  rw [← hc3] at V_b2
  have V_b2x : Arv Z h10 b2 kA2 .long (4 : Int32) [(.long c0), (.long c1), (.long c2), (.long c3)] (.long (0 : Int64)) := V_b2
  replace V_b2 := V_b2x
  have T10 := own_t ht1
  have T21 := own_t ht2
  have T32 := own_t ht3
  have C10 := own_c hc1
  have C21 := own_c hc2
  have C32 := own_c hc3
  have T20 := own_2 (a := t0) (b := t1) (c := t2) (by omega) (by omega) (by omega) (by omega)
  have T31 := own_2 (a := t1) (b := t2) (c := t3) (by omega) (by omega) (by omega) (by omega)
  have T30 := own_2 (a := t0) (b := t1) (c := t3) (by omega) (by omega) (by omega) (by omega)
  have C20 := own_2 (a := c0) (b := c1) (c := c2) (by omega) (by omega) (by omega) (by omega)
  have C31 := own_2 (a := c1) (b := c2) (c := c3) (by omega) (by omega) (by omega) (by omega)
  have C30 := own_2 (a := c0) (b := c1) (c := c3) (by omega) (by omega) (by omega) (by omega)
  refine r_new C 139 (hw _ (List.mem_of_getElem? (i := 4) rfl)) (hw _ (List.mem_of_getElem? (i := 5) rfl)) (hw _ (List.mem_of_getElem? (i := 6) rfl)) at_136 rfl (by decide) (by decide) ?_
  intro h11 b11 g11 E11 A11 D11
  have g_b11 : n0 ≤ b11 := g11 ▸ Zs
  have lt_b1_b11 : b1 < b11 := Nat.lt_of_lt_of_le V_b1.lt (Nat.le_of_eq g11.symm)
  have ne_b1_b11 : b1 ≠ b11 := Nat.ne_of_lt lt_b1_b11
  have lt_b2_b11 : b2 < b11 := Nat.lt_of_lt_of_le V_b2.lt (Nat.le_of_eq g11.symm)
  have ne_b2_b11 : b2 ≠ b11 := Nat.ne_of_lt lt_b2_b11
  replace V_b1 := V_b1.ext E11
  replace V_b2 := V_b2.ext E11
  replace Zs := Nat.le_trans Zs E11.1
  have sz_b11 : h0.size ≤ b11 := g11 ▸ KP.1
  replace KP := KP.ext E11
  have F_times_b11 : Fld Z h11 b11 "com/example/indenture/indenture/app/HeapWatch" "times" "[J" .null := D11 (Or.inr (hw _ (List.mem_of_getElem? (i := 14) rfl))) (ty := (.array .long)) (by decide)
  have F_collected_b11 : Fld Z h11 b11 "com/example/indenture/indenture/app/HeapWatch" "collected" "[J" .null := D11 (Or.inr (hw _ (List.mem_of_getElem? (i := 16) rfl))) (ty := (.array .long)) (by decide)
  have F_count_b11 : Fld Z h11 b11 "com/example/indenture/indenture/app/HeapWatch" "count" "I" (.int (0 : Int32)) := D11 (Or.inl (hw _ (List.mem_of_getElem? (i := 23) rfl))) (ty := .int) (by decide)
  have F_oldest_b11 : Fld Z h11 b11 "com/example/indenture/indenture/app/HeapWatch" "oldest" "I" (.int (0 : Int32)) := D11 (Or.inl (hw _ (List.mem_of_getElem? (i := 25) rfl))) (ty := .int) (by decide)
  refine r_dup C 140 at_139 rfl rfl ?_
  refine r_iload C 142 at_140 rfl rfl ?_
  refine r_callN C 145 (y := (⟨"com/example/indenture/indenture/app/HeapWatch", "<init>", "(I)V"⟩ : MethodName)) (a := b11) [(.int (4 : Int32))] [(.ref b11)] rfl (rmHi4 l Z a0 hw b11 h11 n0 Zs A11 F_times_b11 F_collected_b11 F_count_b11 F_oldest_b11 g_b11) (hw _ (List.mem_of_getElem? (i := 7) rfl)) (hw _ (List.mem_of_getElem? (i := 8) rfl)) (hw _ (List.mem_of_getElem? (i := 6) rfl)) (hw _ (List.mem_of_getElem? (i := 9) rfl)) (by decide) (lenOf pd__I_V rfl) rfl rfl (by decide) (Nat.le_of_ble_eq_true rfl) (by decide) (by decide) rfl at_142 rfl ?_
  intro v12 h12 q12 z12
  obtain ⟨rfl, K12, at_, ac, kt, kc, szt, szc, ntc, hW, V_t, V_c⟩ := q12
  have sz_at_ : h0.size ≤ at_ := Nat.le_trans KP.1 szt
  have sz_ac : h0.size ≤ ac := Nat.le_trans KP.1 szc
  have g_at_ : n0 ≤ at_ := Nat.le_trans Zs szt
  have g_ac : n0 ≤ ac := Nat.le_trans Zs szc
  have n_b1_at_ : b1 ≠ at_ := Nat.ne_of_lt (Nat.lt_of_lt_of_le V_b1.lt szt)
  have n_b1_ac : b1 ≠ ac := Nat.ne_of_lt (Nat.lt_of_lt_of_le V_b1.lt szc)
  have n_b2_at_ : b2 ≠ at_ := Nat.ne_of_lt (Nat.lt_of_lt_of_le V_b2.lt szt)
  have n_b2_ac : b2 ≠ ac := Nat.ne_of_lt (Nat.lt_of_lt_of_le V_b2.lt szc)
  replace V_b1 := V_b1.keep K12 (ninS ne_b1_b11 nin0)
  replace V_b2 := V_b2.keep K12 (ninS ne_b2_b11 nin0)
  replace A11 := A11.keep K12
  replace KP := KP.trans K12 (allS (Or.inr sz_b11) all0)
  replace Zs := Nat.le_trans Zs K12.1
  show Run _ _ _ _ _ _ _ _ 145 #[.val (.long p0), .second, .val (.long p1), .second, .val (.long p2), .second, .val (.long p3), .second, .val (.long p4), .second, .val (.long p5), .second, .val (.int (4 : Int32)), .val (.ref b1), .val (.ref b2), .unset, .unset, .unset, .unset, .unset] [(.ref b11)]
  refine r_astore C 147 #[.val (.long p0), .second, .val (.long p1), .second, .val (.long p2), .second, .val (.long p3), .second, .val (.long p4), .second, .val (.long p5), .second, .val (.int (4 : Int32)), .val (.ref b1), .val (.ref b2), .val (.ref b11), .unset, .unset, .unset, .unset] at_145 rfl rfl rfl ?_
  refine r_aload C 149 at_147 rfl rfl rfl ?_
  refine r_aload C 151 at_149 rfl rfl rfl ?_
  refine r_iconst C 152 (0 : Int32) at_151 rfl rfl ?_
  refine r_laload C 153 (v := (.long t0)) V_b1 ⟨by decide, by decide⟩ rfl at_152 rfl ?_
  refine r_aload C 155 at_153 rfl rfl rfl ?_
  refine r_iconst C 156 (0 : Int32) at_155 rfl rfl ?_
  refine r_laload C 157 (v := (.long c0)) V_b2 ⟨by decide, by decide⟩ rfl at_156 rfl ?_
  refine r_callV C 160 (y := (⟨"com/example/indenture/indenture/app/HeapWatch", "sample", "(JJ)Z"⟩ : MethodName)) (z := (⟨"com/example/indenture/indenture/app/HeapWatch", "sample", "(JJ)Z"⟩ : MethodName)) (D := "com/example/indenture/indenture/app/HeapWatch") (a := b11) [(.long t0), (.long c0)] [] (rmSa_4_0_0 l Z a0 hw b11 t0 c0 at_ ac kt kc (0 : Int64) (0 : Int64) (0 : Int64) (0 : Int64) (0 : Int64) (0 : Int64) (0 : Int64) (0 : Int64) h12 n0 Zs hW V_t V_c ntc g_b11 g_at_ g_ac  (by rw [own_0]; decide) (by rw [own_0]; decide) (by rw [own_0]; decide)) (hw _ (List.mem_of_getElem? (i := 17) rfl)) (hw _ (List.mem_of_getElem? (i := 18) rfl)) (fun s hZ' => notFace_of_selects (args := #[]) (mvT hZ' (hw _ (List.mem_of_getElem? (i := 20) rfl)))) (hw _ (List.mem_of_getElem? (i := 20) rfl)) (hw _ (List.mem_of_getElem? (i := 19) rfl)) (hw _ (List.mem_of_getElem? (i := 6) rfl)) (hw _ (List.mem_of_getElem? (i := 21) rfl)) hW.1 (by decide) (lenOf pd__JJ_Z rfl) rfl rfl (by decide) (Nat.le_of_ble_eq_true rfl) (by decide) (by decide) rfl at_157 rfl ?_
  intro v13 h13 q13 z13
  obtain ⟨rfl, K13, hW, V_t, V_c⟩ := q13
  replace V_b1 := V_b1.keep K13 (ninS ne_b1_b11 (ninS n_b1_at_ (ninS n_b1_ac nin0)))
  replace V_b2 := V_b2.keep K13 (ninS ne_b2_b11 (ninS n_b2_at_ (ninS n_b2_ac nin0)))
  replace KP := KP.trans K13 (allS (Or.inr sz_b11) (allS (Or.inr sz_at_) (allS (Or.inr sz_ac) all0)))
  replace Zs := Nat.le_trans Zs K13.1
  show Run _ _ _ _ _ _ _ _ 160 #[.val (.long p0), .second, .val (.long p1), .second, .val (.long p2), .second, .val (.long p3), .second, .val (.long p4), .second, .val (.long p5), .second, .val (.int (4 : Int32)), .val (.ref b1), .val (.ref b2), .val (.ref b11), .unset, .unset, .unset, .unset] [(.int (sm (t0 - t0) (c0 - c0)))]
  refine r_istore C 162 #[.val (.long p0), .second, .val (.long p1), .second, .val (.long p2), .second, .val (.long p3), .second, .val (.long p4), .second, .val (.long p5), .second, .val (.int (4 : Int32)), .val (.ref b1), .val (.ref b2), .val (.ref b11), .val (.int (sm (t0 - t0) (c0 - c0))), .unset, .unset, .unset] at_160 rfl rfl ?_
  refine r_aload C 164 at_162 rfl rfl rfl ?_
  refine r_aload C 166 at_164 rfl rfl rfl ?_
  refine r_iconst C 167 (1 : Int32) at_166 rfl rfl ?_
  refine r_laload C 168 (v := (.long t1)) V_b1 ⟨by decide, by decide⟩ rfl at_167 rfl ?_
  refine r_aload C 170 at_168 rfl rfl rfl ?_
  refine r_iconst C 171 (1 : Int32) at_170 rfl rfl ?_
  refine r_laload C 172 (v := (.long c1)) V_b2 ⟨by decide, by decide⟩ rfl at_171 rfl ?_
  refine r_callV C 175 (y := (⟨"com/example/indenture/indenture/app/HeapWatch", "sample", "(JJ)Z"⟩ : MethodName)) (z := (⟨"com/example/indenture/indenture/app/HeapWatch", "sample", "(JJ)Z"⟩ : MethodName)) (D := "com/example/indenture/indenture/app/HeapWatch") (a := b11) [(.long t1), (.long c1)] [] (rmSa_4_0_1 l Z a0 hw b11 t1 c1 at_ ac kt kc t0 (0 : Int64) (0 : Int64) (0 : Int64) c0 (0 : Int64) (0 : Int64) (0 : Int64) h13 n0 Zs hW V_t V_c ntc g_b11 g_at_ g_ac  (by omega) (by omega) (by omega)) (hw _ (List.mem_of_getElem? (i := 17) rfl)) (hw _ (List.mem_of_getElem? (i := 18) rfl)) (fun s hZ' => notFace_of_selects (args := #[]) (mvT hZ' (hw _ (List.mem_of_getElem? (i := 20) rfl)))) (hw _ (List.mem_of_getElem? (i := 20) rfl)) (hw _ (List.mem_of_getElem? (i := 19) rfl)) (hw _ (List.mem_of_getElem? (i := 6) rfl)) (hw _ (List.mem_of_getElem? (i := 21) rfl)) hW.1 (by decide) (lenOf pd__JJ_Z rfl) rfl rfl (by decide) (Nat.le_of_ble_eq_true rfl) (by decide) (by decide) rfl at_172 rfl ?_
  intro v14 h14 q14 z14
  obtain ⟨rfl, K14, hW, V_t, V_c⟩ := q14
  replace V_b1 := V_b1.keep K14 (ninS ne_b1_b11 (ninS n_b1_at_ (ninS n_b1_ac nin0)))
  replace V_b2 := V_b2.keep K14 (ninS ne_b2_b11 (ninS n_b2_at_ (ninS n_b2_ac nin0)))
  replace KP := KP.trans K14 (allS (Or.inr sz_b11) (allS (Or.inr sz_at_) (allS (Or.inr sz_ac) all0)))
  replace Zs := Nat.le_trans Zs K14.1
  show Run _ _ _ _ _ _ _ _ 175 #[.val (.long p0), .second, .val (.long p1), .second, .val (.long p2), .second, .val (.long p3), .second, .val (.long p4), .second, .val (.long p5), .second, .val (.int (4 : Int32)), .val (.ref b1), .val (.ref b2), .val (.ref b11), .val (.int (sm (t0 - t0) (c0 - c0))), .unset, .unset, .unset] [(.int (sm (t1 - t0) (c1 - c0)))]
  by_cases b21 : (t2 - t1) < 5000000000
  · refine r_istore C 177 #[.val (.long p0), .second, .val (.long p1), .second, .val (.long p2), .second, .val (.long p3), .second, .val (.long p4), .second, .val (.long p5), .second, .val (.int (4 : Int32)), .val (.ref b1), .val (.ref b2), .val (.ref b11), .val (.int (sm (t0 - t0) (c0 - c0))), .val (.int (sm (t1 - t0) (c1 - c0))), .unset, .unset] at_175 rfl rfl ?_
    refine r_aload C 179 at_177 rfl rfl rfl ?_
    refine r_aload C 181 at_179 rfl rfl rfl ?_
    refine r_iconst C 182 (2 : Int32) at_181 rfl rfl ?_
    refine r_laload C 183 (v := (.long t2)) V_b1 ⟨by decide, by decide⟩ rfl at_182 rfl ?_
    refine r_aload C 185 at_183 rfl rfl rfl ?_
    refine r_iconst C 186 (2 : Int32) at_185 rfl rfl ?_
    refine r_laload C 187 (v := (.long c2)) V_b2 ⟨by decide, by decide⟩ rfl at_186 rfl ?_
    refine r_callV C 190 (y := (⟨"com/example/indenture/indenture/app/HeapWatch", "sample", "(JJ)Z"⟩ : MethodName)) (z := (⟨"com/example/indenture/indenture/app/HeapWatch", "sample", "(JJ)Z"⟩ : MethodName)) (D := "com/example/indenture/indenture/app/HeapWatch") (a := b11) [(.long t2), (.long c2)] [] (rmSa_4_0_2_0 l Z a0 hw b11 t2 c2 at_ ac kt kc t0 t1 (0 : Int64) (0 : Int64) c0 c1 (0 : Int64) (0 : Int64) h14 n0 Zs hW V_t V_c ntc g_b11 g_at_ g_ac b21 (by omega) (by omega) (by omega)) (hw _ (List.mem_of_getElem? (i := 17) rfl)) (hw _ (List.mem_of_getElem? (i := 18) rfl)) (fun s hZ' => notFace_of_selects (args := #[]) (mvT hZ' (hw _ (List.mem_of_getElem? (i := 20) rfl)))) (hw _ (List.mem_of_getElem? (i := 20) rfl)) (hw _ (List.mem_of_getElem? (i := 19) rfl)) (hw _ (List.mem_of_getElem? (i := 6) rfl)) (hw _ (List.mem_of_getElem? (i := 21) rfl)) hW.1 (by decide) (lenOf pd__JJ_Z rfl) rfl rfl (by decide) (Nat.le_of_ble_eq_true rfl) (by decide) (by decide) rfl at_187 rfl ?_
    intro v15 h15 q15 z15
    obtain ⟨rfl, K15, hW, V_t, V_c⟩ := q15
    replace V_b1 := V_b1.keep K15 (ninS ne_b1_b11 (ninS n_b1_at_ (ninS n_b1_ac nin0)))
    replace V_b2 := V_b2.keep K15 (ninS ne_b2_b11 (ninS n_b2_at_ (ninS n_b2_ac nin0)))
    replace KP := KP.trans K15 (allS (Or.inr sz_b11) (allS (Or.inr sz_at_) (allS (Or.inr sz_ac) all0)))
    replace Zs := Nat.le_trans Zs K15.1
    show Run _ _ _ _ _ _ _ _ 190 #[.val (.long p0), .second, .val (.long p1), .second, .val (.long p2), .second, .val (.long p3), .second, .val (.long p4), .second, .val (.long p5), .second, .val (.int (4 : Int32)), .val (.ref b1), .val (.ref b2), .val (.ref b11), .val (.int (sm (t0 - t0) (c0 - c0))), .val (.int (sm (t1 - t0) (c1 - c0))), .unset, .unset] [(.int (sm (t2 - t0) (c2 - c0)))]
    by_cases b31 : (t3 - t1) < 5000000000
    · have b32 : (t3 - t2) < 5000000000 := own_lt b31 (by omega)
      refine r_istore C 192 #[.val (.long p0), .second, .val (.long p1), .second, .val (.long p2), .second, .val (.long p3), .second, .val (.long p4), .second, .val (.long p5), .second, .val (.int (4 : Int32)), .val (.ref b1), .val (.ref b2), .val (.ref b11), .val (.int (sm (t0 - t0) (c0 - c0))), .val (.int (sm (t1 - t0) (c1 - c0))), .val (.int (sm (t2 - t0) (c2 - c0))), .unset] at_190 rfl rfl ?_
      refine r_aload C 194 at_192 rfl rfl rfl ?_
      refine r_aload C 196 at_194 rfl rfl rfl ?_
      refine r_iconst C 197 (3 : Int32) at_196 rfl rfl ?_
      refine r_laload C 198 (v := (.long t3)) V_b1 ⟨by decide, by decide⟩ rfl at_197 rfl ?_
      refine r_aload C 200 at_198 rfl rfl rfl ?_
      refine r_iconst C 201 (3 : Int32) at_200 rfl rfl ?_
      refine r_laload C 202 (v := (.long c3)) V_b2 ⟨by decide, by decide⟩ rfl at_201 rfl ?_
      refine r_callV C 205 (y := (⟨"com/example/indenture/indenture/app/HeapWatch", "sample", "(JJ)Z"⟩ : MethodName)) (z := (⟨"com/example/indenture/indenture/app/HeapWatch", "sample", "(JJ)Z"⟩ : MethodName)) (D := "com/example/indenture/indenture/app/HeapWatch") (a := b11) [(.long t3), (.long c3)] [] (rmSa_4_0_3_0 l Z a0 hw b11 t3 c3 at_ ac kt kc t0 t1 t2 (0 : Int64) c0 c1 c2 (0 : Int64) h15 n0 Zs hW V_t V_c ntc g_b11 g_at_ g_ac b31 (by omega) (by omega) (by omega)) (hw _ (List.mem_of_getElem? (i := 17) rfl)) (hw _ (List.mem_of_getElem? (i := 18) rfl)) (fun s hZ' => notFace_of_selects (args := #[]) (mvT hZ' (hw _ (List.mem_of_getElem? (i := 20) rfl)))) (hw _ (List.mem_of_getElem? (i := 20) rfl)) (hw _ (List.mem_of_getElem? (i := 19) rfl)) (hw _ (List.mem_of_getElem? (i := 6) rfl)) (hw _ (List.mem_of_getElem? (i := 21) rfl)) hW.1 (by decide) (lenOf pd__JJ_Z rfl) rfl rfl (by decide) (Nat.le_of_ble_eq_true rfl) (by decide) (by decide) rfl at_202 rfl ?_
      intro v16 h16 q16 z16
      obtain ⟨rfl, K16, hW, V_t, V_c⟩ := q16
      replace V_b1 := V_b1.keep K16 (ninS ne_b1_b11 (ninS n_b1_at_ (ninS n_b1_ac nin0)))
      replace V_b2 := V_b2.keep K16 (ninS ne_b2_b11 (ninS n_b2_at_ (ninS n_b2_ac nin0)))
      replace KP := KP.trans K16 (allS (Or.inr sz_b11) (allS (Or.inr sz_at_) (allS (Or.inr sz_ac) all0)))
      replace Zs := Nat.le_trans Zs K16.1
      show Run _ _ _ _ _ _ _ _ 205 #[.val (.long p0), .second, .val (.long p1), .second, .val (.long p2), .second, .val (.long p3), .second, .val (.long p4), .second, .val (.long p5), .second, .val (.int (4 : Int32)), .val (.ref b1), .val (.ref b2), .val (.ref b11), .val (.int (sm (t0 - t0) (c0 - c0))), .val (.int (sm (t1 - t0) (c1 - c0))), .val (.int (sm (t2 - t0) (c2 - c0))), .unset] [(.int (sm (t3 - t0) (c3 - c0)))]
      refine r_istore C 207 #[.val (.long p0), .second, .val (.long p1), .second, .val (.long p2), .second, .val (.long p3), .second, .val (.long p4), .second, .val (.long p5), .second, .val (.int (4 : Int32)), .val (.ref b1), .val (.ref b2), .val (.ref b11), .val (.int (sm (t0 - t0) (c0 - c0))), .val (.int (sm (t1 - t0) (c1 - c0))), .val (.int (sm (t2 - t0) (c2 - c0))), .val (.int (sm (t3 - t0) (c3 - c0)))] at_205 rfl rfl ?_
      refine r_iload C 209 at_207 rfl rfl ?_
      refine r_aload C 211 at_209 rfl rfl rfl ?_
      refine r_aload C 213 at_211 rfl rfl rfl ?_
      refine r_iconst C 214 (0 : Int32) at_213 rfl rfl ?_
      refine r_iload C 216 at_214 rfl rfl ?_
      refine r_callS C 219 (y := (⟨"com/example/indenture/indenture/app/HeapWatchSamplePinLaw", "expect", "([J[JII)Z"⟩ : MethodName)) (a := 0) [(.ref b1), (.ref b2), (.int (0 : Int32)), (.int (4 : Int32))] [(.int (sm (t0 - t0) (c0 - c0)))] (rmXp0 l Z a0 hw b1 b2 (4 : Int32) kA1 kA2 t0 t1 t2 t3 c0 c1 c2 c3 h16 n0 Zs V_b1 V_b2) (hw _ (List.mem_of_getElem? (i := 33) rfl)) (hw _ (List.mem_of_getElem? (i := 34) rfl)) (hw _ (List.mem_of_getElem? (i := 35) rfl)) (hw _ (List.mem_of_getElem? (i := 36) rfl)) (by decide) (lenOf pd___J_JII_Z rfl) rfl rfl (by decide) (Nat.le_of_ble_eq_true rfl) (by decide) (by decide) rfl at_216 rfl ?_
      intro v17 h17 q17 z17
      obtain ⟨rfl, rfl⟩ := q17
      show Run _ _ _ _ _ _ _ _ 219 #[.val (.long p0), .second, .val (.long p1), .second, .val (.long p2), .second, .val (.long p3), .second, .val (.long p4), .second, .val (.long p5), .second, .val (.int (4 : Int32)), .val (.ref b1), .val (.ref b2), .val (.ref b11), .val (.int (sm (t0 - t0) (c0 - c0))), .val (.int (sm (t1 - t0) (c1 - c0))), .val (.int (sm (t2 - t0) (c2 - c0))), .val (.int (sm (t3 - t0) (c3 - c0)))] [(.int (0 : Int32)), (.int (sm (t0 - t0) (c0 - c0)))]
      refine r_icmp_ne C 271 222 at_219 (by decide) (by decide) rfl (fun q => absurd (show sm _ _ = (0 : Int32) by simp only [sm, jg, own_self t0, show (((4 : Int32) - 1 : Int32) < 1) = False by decide, show (((4 : Int32) - 1 : Int32) < 2) = False by decide, show (((4 : Int32) - 1 : Int32) < 3) = False by decide, if_true, if_false, ite_self]) q) (fun _ => ?_)
      refine r_iload C 224 at_222 rfl rfl ?_
      refine r_aload C 226 at_224 rfl rfl rfl ?_
      refine r_aload C 228 at_226 rfl rfl rfl ?_
      refine r_iconst C 229 (1 : Int32) at_228 rfl rfl ?_
      refine r_iload C 231 at_229 rfl rfl ?_
      refine r_callS C 234 (y := (⟨"com/example/indenture/indenture/app/HeapWatchSamplePinLaw", "expect", "([J[JII)Z"⟩ : MethodName)) (a := 0) [(.ref b1), (.ref b2), (.int (1 : Int32)), (.int (4 : Int32))] [(.int (sm (t1 - t0) (c1 - c0)))] (rmXp1 l Z a0 hw b1 b2 (4 : Int32) kA1 kA2 t0 t1 t2 t3 c0 c1 c2 c3 h16 n0 Zs V_b1 V_b2) (hw _ (List.mem_of_getElem? (i := 33) rfl)) (hw _ (List.mem_of_getElem? (i := 34) rfl)) (hw _ (List.mem_of_getElem? (i := 35) rfl)) (hw _ (List.mem_of_getElem? (i := 36) rfl)) (by decide) (lenOf pd___J_JII_Z rfl) rfl rfl (by decide) (Nat.le_of_ble_eq_true rfl) (by decide) (by decide) rfl at_231 rfl ?_
      intro v18 h18 q18 z18
      obtain ⟨rfl, rfl⟩ := q18
      show Run _ _ _ _ _ _ _ _ 234 #[.val (.long p0), .second, .val (.long p1), .second, .val (.long p2), .second, .val (.long p3), .second, .val (.long p4), .second, .val (.long p5), .second, .val (.int (4 : Int32)), .val (.ref b1), .val (.ref b2), .val (.ref b11), .val (.int (sm (t0 - t0) (c0 - c0))), .val (.int (sm (t1 - t0) (c1 - c0))), .val (.int (sm (t2 - t0) (c2 - c0))), .val (.int (sm (t3 - t0) (c3 - c0)))] [(.int (ex1 (4 : Int32) t0 t1 t2 t3 c0 c1 c2 c3)), (.int (sm (t1 - t0) (c1 - c0)))]
      refine r_icmp_ne C 271 237 at_234 (by decide) (by decide) rfl (fun q => absurd (show sm _ _ = (ex1 (4 : Int32) t0 t1 t2 t3 c0 c1 c2 c3) by simp only [ex1, sm, jg, show (((4 : Int32) - 1 : Int32) < 1) = False by decide, show (((4 : Int32) - 1 : Int32) < 2) = False by decide, show (((4 : Int32) - 1 : Int32) < 3) = False by decide, if_true, if_false, ite_self]) q) (fun _ => ?_)
      refine r_iload C 239 at_237 rfl rfl ?_
      refine r_aload C 241 at_239 rfl rfl rfl ?_
      refine r_aload C 243 at_241 rfl rfl rfl ?_
      refine r_iconst C 244 (2 : Int32) at_243 rfl rfl ?_
      refine r_iload C 246 at_244 rfl rfl ?_
      refine r_callS C 249 (y := (⟨"com/example/indenture/indenture/app/HeapWatchSamplePinLaw", "expect", "([J[JII)Z"⟩ : MethodName)) (a := 0) [(.ref b1), (.ref b2), (.int (2 : Int32)), (.int (4 : Int32))] [(.int (sm (t2 - t0) (c2 - c0)))] (rmXp2 l Z a0 hw b1 b2 (4 : Int32) kA1 kA2 t0 t1 t2 t3 c0 c1 c2 c3 h16 n0 Zs V_b1 V_b2) (hw _ (List.mem_of_getElem? (i := 33) rfl)) (hw _ (List.mem_of_getElem? (i := 34) rfl)) (hw _ (List.mem_of_getElem? (i := 35) rfl)) (hw _ (List.mem_of_getElem? (i := 36) rfl)) (by decide) (lenOf pd___J_JII_Z rfl) rfl rfl (by decide) (Nat.le_of_ble_eq_true rfl) (by decide) (by decide) rfl at_246 rfl ?_
      intro v19 h19 q19 z19
      obtain ⟨rfl, rfl⟩ := q19
      show Run _ _ _ _ _ _ _ _ 249 #[.val (.long p0), .second, .val (.long p1), .second, .val (.long p2), .second, .val (.long p3), .second, .val (.long p4), .second, .val (.long p5), .second, .val (.int (4 : Int32)), .val (.ref b1), .val (.ref b2), .val (.ref b11), .val (.int (sm (t0 - t0) (c0 - c0))), .val (.int (sm (t1 - t0) (c1 - c0))), .val (.int (sm (t2 - t0) (c2 - c0))), .val (.int (sm (t3 - t0) (c3 - c0)))] [(.int (ex2 (4 : Int32) t0 t1 t2 t3 c0 c1 c2 c3)), (.int (sm (t2 - t0) (c2 - c0)))]
      refine r_icmp_ne C 271 252 at_249 (by decide) (by decide) rfl (fun q => absurd (show sm _ _ = (ex2 (4 : Int32) t0 t1 t2 t3 c0 c1 c2 c3) by simp only [ex2, sm, jg, b21, show (((4 : Int32) - 1 : Int32) < 1) = False by decide, show (((4 : Int32) - 1 : Int32) < 2) = False by decide, show (((4 : Int32) - 1 : Int32) < 3) = False by decide, if_true, if_false, ite_self]) q) (fun _ => ?_)
      refine r_iload C 254 at_252 rfl rfl ?_
      refine r_aload C 256 at_254 rfl rfl rfl ?_
      refine r_aload C 258 at_256 rfl rfl rfl ?_
      refine r_iconst C 259 (3 : Int32) at_258 rfl rfl ?_
      refine r_iload C 261 at_259 rfl rfl ?_
      refine r_callS C 264 (y := (⟨"com/example/indenture/indenture/app/HeapWatchSamplePinLaw", "expect", "([J[JII)Z"⟩ : MethodName)) (a := 0) [(.ref b1), (.ref b2), (.int (3 : Int32)), (.int (4 : Int32))] [(.int (sm (t3 - t0) (c3 - c0)))] (rmXp3 l Z a0 hw b1 b2 (4 : Int32) kA1 kA2 t0 t1 t2 t3 c0 c1 c2 c3 h16 n0 Zs V_b1 V_b2) (hw _ (List.mem_of_getElem? (i := 33) rfl)) (hw _ (List.mem_of_getElem? (i := 34) rfl)) (hw _ (List.mem_of_getElem? (i := 35) rfl)) (hw _ (List.mem_of_getElem? (i := 36) rfl)) (by decide) (lenOf pd___J_JII_Z rfl) rfl rfl (by decide) (Nat.le_of_ble_eq_true rfl) (by decide) (by decide) rfl at_261 rfl ?_
      intro v20 h20 q20 z20
      obtain ⟨rfl, rfl⟩ := q20
      show Run _ _ _ _ _ _ _ _ 264 #[.val (.long p0), .second, .val (.long p1), .second, .val (.long p2), .second, .val (.long p3), .second, .val (.long p4), .second, .val (.long p5), .second, .val (.int (4 : Int32)), .val (.ref b1), .val (.ref b2), .val (.ref b11), .val (.int (sm (t0 - t0) (c0 - c0))), .val (.int (sm (t1 - t0) (c1 - c0))), .val (.int (sm (t2 - t0) (c2 - c0))), .val (.int (sm (t3 - t0) (c3 - c0)))] [(.int (ex3 (4 : Int32) t0 t1 t2 t3 c0 c1 c2 c3)), (.int (sm (t3 - t0) (c3 - c0)))]
      refine r_icmp_ne C 271 267 at_264 (by decide) (by decide) rfl (fun q => absurd (show sm _ _ = (ex3 (4 : Int32) t0 t1 t2 t3 c0 c1 c2 c3) by simp only [ex3, sm, jg, b31, b32, show (((4 : Int32) - 1 : Int32) < 1) = False by decide, show (((4 : Int32) - 1 : Int32) < 2) = False by decide, show (((4 : Int32) - 1 : Int32) < 3) = False by decide, if_true, if_false, ite_self]) q) (fun _ => ?_)
      refine r_iconst C 268 (1 : Int32) at_267 rfl rfl ?_
      refine r_goto C 272 at_268 (by decide) (by decide) ?_
      exact r_nreturn C (1 : Int32) rfl (t := .boolean) (by simp) rfl at_272 (by decide) (by decide) rfl
    · have b30 : ¬ (t3 - t0) < 5000000000 := fun q => b31 (own_lt q (by omega))
      by_cases b32 : (t3 - t2) < 5000000000
      · refine r_istore C 192 #[.val (.long p0), .second, .val (.long p1), .second, .val (.long p2), .second, .val (.long p3), .second, .val (.long p4), .second, .val (.long p5), .second, .val (.int (4 : Int32)), .val (.ref b1), .val (.ref b2), .val (.ref b11), .val (.int (sm (t0 - t0) (c0 - c0))), .val (.int (sm (t1 - t0) (c1 - c0))), .val (.int (sm (t2 - t0) (c2 - c0))), .unset] at_190 rfl rfl ?_
        refine r_aload C 194 at_192 rfl rfl rfl ?_
        refine r_aload C 196 at_194 rfl rfl rfl ?_
        refine r_iconst C 197 (3 : Int32) at_196 rfl rfl ?_
        refine r_laload C 198 (v := (.long t3)) V_b1 ⟨by decide, by decide⟩ rfl at_197 rfl ?_
        refine r_aload C 200 at_198 rfl rfl rfl ?_
        refine r_iconst C 201 (3 : Int32) at_200 rfl rfl ?_
        refine r_laload C 202 (v := (.long c3)) V_b2 ⟨by decide, by decide⟩ rfl at_201 rfl ?_
        refine r_callV C 205 (y := (⟨"com/example/indenture/indenture/app/HeapWatch", "sample", "(JJ)Z"⟩ : MethodName)) (z := (⟨"com/example/indenture/indenture/app/HeapWatch", "sample", "(JJ)Z"⟩ : MethodName)) (D := "com/example/indenture/indenture/app/HeapWatch") (a := b11) [(.long t3), (.long c3)] [] (rmSa_4_0_3_1_0 l Z a0 hw b11 t3 c3 at_ ac kt kc t0 t1 t2 (0 : Int64) c0 c1 c2 (0 : Int64) h15 n0 Zs hW V_t V_c ntc g_b11 g_at_ g_ac b31 b32 (by omega) (by omega) (by omega)) (hw _ (List.mem_of_getElem? (i := 17) rfl)) (hw _ (List.mem_of_getElem? (i := 18) rfl)) (fun s hZ' => notFace_of_selects (args := #[]) (mvT hZ' (hw _ (List.mem_of_getElem? (i := 20) rfl)))) (hw _ (List.mem_of_getElem? (i := 20) rfl)) (hw _ (List.mem_of_getElem? (i := 19) rfl)) (hw _ (List.mem_of_getElem? (i := 6) rfl)) (hw _ (List.mem_of_getElem? (i := 21) rfl)) hW.1 (by decide) (lenOf pd__JJ_Z rfl) rfl rfl (by decide) (Nat.le_of_ble_eq_true rfl) (by decide) (by decide) rfl at_202 rfl ?_
        intro v21 h21 q21 z21
        obtain ⟨rfl, K21, hW, V_t, V_c⟩ := q21
        replace V_b1 := V_b1.keep K21 (ninS ne_b1_b11 (ninS n_b1_at_ (ninS n_b1_ac nin0)))
        replace V_b2 := V_b2.keep K21 (ninS ne_b2_b11 (ninS n_b2_at_ (ninS n_b2_ac nin0)))
        replace KP := KP.trans K21 (allS (Or.inr sz_b11) (allS (Or.inr sz_at_) (allS (Or.inr sz_ac) all0)))
        replace Zs := Nat.le_trans Zs K21.1
        show Run _ _ _ _ _ _ _ _ 205 #[.val (.long p0), .second, .val (.long p1), .second, .val (.long p2), .second, .val (.long p3), .second, .val (.long p4), .second, .val (.long p5), .second, .val (.int (4 : Int32)), .val (.ref b1), .val (.ref b2), .val (.ref b11), .val (.int (sm (t0 - t0) (c0 - c0))), .val (.int (sm (t1 - t0) (c1 - c0))), .val (.int (sm (t2 - t0) (c2 - c0))), .unset] [(.int (sm (t3 - t1) (c3 - c1)))]
        refine r_istore C 207 #[.val (.long p0), .second, .val (.long p1), .second, .val (.long p2), .second, .val (.long p3), .second, .val (.long p4), .second, .val (.long p5), .second, .val (.int (4 : Int32)), .val (.ref b1), .val (.ref b2), .val (.ref b11), .val (.int (sm (t0 - t0) (c0 - c0))), .val (.int (sm (t1 - t0) (c1 - c0))), .val (.int (sm (t2 - t0) (c2 - c0))), .val (.int (sm (t3 - t1) (c3 - c1)))] at_205 rfl rfl ?_
        refine r_iload C 209 at_207 rfl rfl ?_
        refine r_aload C 211 at_209 rfl rfl rfl ?_
        refine r_aload C 213 at_211 rfl rfl rfl ?_
        refine r_iconst C 214 (0 : Int32) at_213 rfl rfl ?_
        refine r_iload C 216 at_214 rfl rfl ?_
        refine r_callS C 219 (y := (⟨"com/example/indenture/indenture/app/HeapWatchSamplePinLaw", "expect", "([J[JII)Z"⟩ : MethodName)) (a := 0) [(.ref b1), (.ref b2), (.int (0 : Int32)), (.int (4 : Int32))] [(.int (sm (t0 - t0) (c0 - c0)))] (rmXp0 l Z a0 hw b1 b2 (4 : Int32) kA1 kA2 t0 t1 t2 t3 c0 c1 c2 c3 h21 n0 Zs V_b1 V_b2) (hw _ (List.mem_of_getElem? (i := 33) rfl)) (hw _ (List.mem_of_getElem? (i := 34) rfl)) (hw _ (List.mem_of_getElem? (i := 35) rfl)) (hw _ (List.mem_of_getElem? (i := 36) rfl)) (by decide) (lenOf pd___J_JII_Z rfl) rfl rfl (by decide) (Nat.le_of_ble_eq_true rfl) (by decide) (by decide) rfl at_216 rfl ?_
        intro v22 h22 q22 z22
        obtain ⟨rfl, rfl⟩ := q22
        show Run _ _ _ _ _ _ _ _ 219 #[.val (.long p0), .second, .val (.long p1), .second, .val (.long p2), .second, .val (.long p3), .second, .val (.long p4), .second, .val (.long p5), .second, .val (.int (4 : Int32)), .val (.ref b1), .val (.ref b2), .val (.ref b11), .val (.int (sm (t0 - t0) (c0 - c0))), .val (.int (sm (t1 - t0) (c1 - c0))), .val (.int (sm (t2 - t0) (c2 - c0))), .val (.int (sm (t3 - t1) (c3 - c1)))] [(.int (0 : Int32)), (.int (sm (t0 - t0) (c0 - c0)))]
        refine r_icmp_ne C 271 222 at_219 (by decide) (by decide) rfl (fun q => absurd (show sm _ _ = (0 : Int32) by simp only [sm, jg, own_self t0, show (((4 : Int32) - 1 : Int32) < 1) = False by decide, show (((4 : Int32) - 1 : Int32) < 2) = False by decide, show (((4 : Int32) - 1 : Int32) < 3) = False by decide, if_true, if_false, ite_self]) q) (fun _ => ?_)
        refine r_iload C 224 at_222 rfl rfl ?_
        refine r_aload C 226 at_224 rfl rfl rfl ?_
        refine r_aload C 228 at_226 rfl rfl rfl ?_
        refine r_iconst C 229 (1 : Int32) at_228 rfl rfl ?_
        refine r_iload C 231 at_229 rfl rfl ?_
        refine r_callS C 234 (y := (⟨"com/example/indenture/indenture/app/HeapWatchSamplePinLaw", "expect", "([J[JII)Z"⟩ : MethodName)) (a := 0) [(.ref b1), (.ref b2), (.int (1 : Int32)), (.int (4 : Int32))] [(.int (sm (t1 - t0) (c1 - c0)))] (rmXp1 l Z a0 hw b1 b2 (4 : Int32) kA1 kA2 t0 t1 t2 t3 c0 c1 c2 c3 h21 n0 Zs V_b1 V_b2) (hw _ (List.mem_of_getElem? (i := 33) rfl)) (hw _ (List.mem_of_getElem? (i := 34) rfl)) (hw _ (List.mem_of_getElem? (i := 35) rfl)) (hw _ (List.mem_of_getElem? (i := 36) rfl)) (by decide) (lenOf pd___J_JII_Z rfl) rfl rfl (by decide) (Nat.le_of_ble_eq_true rfl) (by decide) (by decide) rfl at_231 rfl ?_
        intro v23 h23 q23 z23
        obtain ⟨rfl, rfl⟩ := q23
        show Run _ _ _ _ _ _ _ _ 234 #[.val (.long p0), .second, .val (.long p1), .second, .val (.long p2), .second, .val (.long p3), .second, .val (.long p4), .second, .val (.long p5), .second, .val (.int (4 : Int32)), .val (.ref b1), .val (.ref b2), .val (.ref b11), .val (.int (sm (t0 - t0) (c0 - c0))), .val (.int (sm (t1 - t0) (c1 - c0))), .val (.int (sm (t2 - t0) (c2 - c0))), .val (.int (sm (t3 - t1) (c3 - c1)))] [(.int (ex1 (4 : Int32) t0 t1 t2 t3 c0 c1 c2 c3)), (.int (sm (t1 - t0) (c1 - c0)))]
        refine r_icmp_ne C 271 237 at_234 (by decide) (by decide) rfl (fun q => absurd (show sm _ _ = (ex1 (4 : Int32) t0 t1 t2 t3 c0 c1 c2 c3) by simp only [ex1, sm, jg, show (((4 : Int32) - 1 : Int32) < 1) = False by decide, show (((4 : Int32) - 1 : Int32) < 2) = False by decide, show (((4 : Int32) - 1 : Int32) < 3) = False by decide, if_true, if_false, ite_self]) q) (fun _ => ?_)
        refine r_iload C 239 at_237 rfl rfl ?_
        refine r_aload C 241 at_239 rfl rfl rfl ?_
        refine r_aload C 243 at_241 rfl rfl rfl ?_
        refine r_iconst C 244 (2 : Int32) at_243 rfl rfl ?_
        refine r_iload C 246 at_244 rfl rfl ?_
        refine r_callS C 249 (y := (⟨"com/example/indenture/indenture/app/HeapWatchSamplePinLaw", "expect", "([J[JII)Z"⟩ : MethodName)) (a := 0) [(.ref b1), (.ref b2), (.int (2 : Int32)), (.int (4 : Int32))] [(.int (sm (t2 - t0) (c2 - c0)))] (rmXp2 l Z a0 hw b1 b2 (4 : Int32) kA1 kA2 t0 t1 t2 t3 c0 c1 c2 c3 h21 n0 Zs V_b1 V_b2) (hw _ (List.mem_of_getElem? (i := 33) rfl)) (hw _ (List.mem_of_getElem? (i := 34) rfl)) (hw _ (List.mem_of_getElem? (i := 35) rfl)) (hw _ (List.mem_of_getElem? (i := 36) rfl)) (by decide) (lenOf pd___J_JII_Z rfl) rfl rfl (by decide) (Nat.le_of_ble_eq_true rfl) (by decide) (by decide) rfl at_246 rfl ?_
        intro v24 h24 q24 z24
        obtain ⟨rfl, rfl⟩ := q24
        show Run _ _ _ _ _ _ _ _ 249 #[.val (.long p0), .second, .val (.long p1), .second, .val (.long p2), .second, .val (.long p3), .second, .val (.long p4), .second, .val (.long p5), .second, .val (.int (4 : Int32)), .val (.ref b1), .val (.ref b2), .val (.ref b11), .val (.int (sm (t0 - t0) (c0 - c0))), .val (.int (sm (t1 - t0) (c1 - c0))), .val (.int (sm (t2 - t0) (c2 - c0))), .val (.int (sm (t3 - t1) (c3 - c1)))] [(.int (ex2 (4 : Int32) t0 t1 t2 t3 c0 c1 c2 c3)), (.int (sm (t2 - t0) (c2 - c0)))]
        refine r_icmp_ne C 271 252 at_249 (by decide) (by decide) rfl (fun q => absurd (show sm _ _ = (ex2 (4 : Int32) t0 t1 t2 t3 c0 c1 c2 c3) by simp only [ex2, sm, jg, b21, show (((4 : Int32) - 1 : Int32) < 1) = False by decide, show (((4 : Int32) - 1 : Int32) < 2) = False by decide, show (((4 : Int32) - 1 : Int32) < 3) = False by decide, if_true, if_false, ite_self]) q) (fun _ => ?_)
        refine r_iload C 254 at_252 rfl rfl ?_
        refine r_aload C 256 at_254 rfl rfl rfl ?_
        refine r_aload C 258 at_256 rfl rfl rfl ?_
        refine r_iconst C 259 (3 : Int32) at_258 rfl rfl ?_
        refine r_iload C 261 at_259 rfl rfl ?_
        refine r_callS C 264 (y := (⟨"com/example/indenture/indenture/app/HeapWatchSamplePinLaw", "expect", "([J[JII)Z"⟩ : MethodName)) (a := 0) [(.ref b1), (.ref b2), (.int (3 : Int32)), (.int (4 : Int32))] [(.int (sm (t3 - t1) (c3 - c1)))] (rmXp3 l Z a0 hw b1 b2 (4 : Int32) kA1 kA2 t0 t1 t2 t3 c0 c1 c2 c3 h21 n0 Zs V_b1 V_b2) (hw _ (List.mem_of_getElem? (i := 33) rfl)) (hw _ (List.mem_of_getElem? (i := 34) rfl)) (hw _ (List.mem_of_getElem? (i := 35) rfl)) (hw _ (List.mem_of_getElem? (i := 36) rfl)) (by decide) (lenOf pd___J_JII_Z rfl) rfl rfl (by decide) (Nat.le_of_ble_eq_true rfl) (by decide) (by decide) rfl at_261 rfl ?_
        intro v25 h25 q25 z25
        obtain ⟨rfl, rfl⟩ := q25
        show Run _ _ _ _ _ _ _ _ 264 #[.val (.long p0), .second, .val (.long p1), .second, .val (.long p2), .second, .val (.long p3), .second, .val (.long p4), .second, .val (.long p5), .second, .val (.int (4 : Int32)), .val (.ref b1), .val (.ref b2), .val (.ref b11), .val (.int (sm (t0 - t0) (c0 - c0))), .val (.int (sm (t1 - t0) (c1 - c0))), .val (.int (sm (t2 - t0) (c2 - c0))), .val (.int (sm (t3 - t1) (c3 - c1)))] [(.int (ex3 (4 : Int32) t0 t1 t2 t3 c0 c1 c2 c3)), (.int (sm (t3 - t1) (c3 - c1)))]
        refine r_icmp_ne C 271 267 at_264 (by decide) (by decide) rfl (fun q => absurd (show sm _ _ = (ex3 (4 : Int32) t0 t1 t2 t3 c0 c1 c2 c3) by simp only [ex3, sm, jg, b31, b30, b32, show (((4 : Int32) - 1 : Int32) < 1) = False by decide, show (((4 : Int32) - 1 : Int32) < 2) = False by decide, show (((4 : Int32) - 1 : Int32) < 3) = False by decide, if_true, if_false, ite_self]) q) (fun _ => ?_)
        refine r_iconst C 268 (1 : Int32) at_267 rfl rfl ?_
        refine r_goto C 272 at_268 (by decide) (by decide) ?_
        exact r_nreturn C (1 : Int32) rfl (t := .boolean) (by simp) rfl at_272 (by decide) (by decide) rfl
      · refine r_istore C 192 #[.val (.long p0), .second, .val (.long p1), .second, .val (.long p2), .second, .val (.long p3), .second, .val (.long p4), .second, .val (.long p5), .second, .val (.int (4 : Int32)), .val (.ref b1), .val (.ref b2), .val (.ref b11), .val (.int (sm (t0 - t0) (c0 - c0))), .val (.int (sm (t1 - t0) (c1 - c0))), .val (.int (sm (t2 - t0) (c2 - c0))), .unset] at_190 rfl rfl ?_
        refine r_aload C 194 at_192 rfl rfl rfl ?_
        refine r_aload C 196 at_194 rfl rfl rfl ?_
        refine r_iconst C 197 (3 : Int32) at_196 rfl rfl ?_
        refine r_laload C 198 (v := (.long t3)) V_b1 ⟨by decide, by decide⟩ rfl at_197 rfl ?_
        refine r_aload C 200 at_198 rfl rfl rfl ?_
        refine r_iconst C 201 (3 : Int32) at_200 rfl rfl ?_
        refine r_laload C 202 (v := (.long c3)) V_b2 ⟨by decide, by decide⟩ rfl at_201 rfl ?_
        refine r_callV C 205 (y := (⟨"com/example/indenture/indenture/app/HeapWatch", "sample", "(JJ)Z"⟩ : MethodName)) (z := (⟨"com/example/indenture/indenture/app/HeapWatch", "sample", "(JJ)Z"⟩ : MethodName)) (D := "com/example/indenture/indenture/app/HeapWatch") (a := b11) [(.long t3), (.long c3)] [] (rmSa_4_0_3_1_1 l Z a0 hw b11 t3 c3 at_ ac kt kc t0 t1 t2 (0 : Int64) c0 c1 c2 (0 : Int64) h15 n0 Zs hW V_t V_c ntc g_b11 g_at_ g_ac b31 b32 (by omega) (by omega) (by omega)) (hw _ (List.mem_of_getElem? (i := 17) rfl)) (hw _ (List.mem_of_getElem? (i := 18) rfl)) (fun s hZ' => notFace_of_selects (args := #[]) (mvT hZ' (hw _ (List.mem_of_getElem? (i := 20) rfl)))) (hw _ (List.mem_of_getElem? (i := 20) rfl)) (hw _ (List.mem_of_getElem? (i := 19) rfl)) (hw _ (List.mem_of_getElem? (i := 6) rfl)) (hw _ (List.mem_of_getElem? (i := 21) rfl)) hW.1 (by decide) (lenOf pd__JJ_Z rfl) rfl rfl (by decide) (Nat.le_of_ble_eq_true rfl) (by decide) (by decide) rfl at_202 rfl ?_
        intro v26 h26 q26 z26
        obtain ⟨rfl, K26, hW, V_t, V_c⟩ := q26
        replace V_b1 := V_b1.keep K26 (ninS ne_b1_b11 (ninS n_b1_at_ (ninS n_b1_ac nin0)))
        replace V_b2 := V_b2.keep K26 (ninS ne_b2_b11 (ninS n_b2_at_ (ninS n_b2_ac nin0)))
        replace KP := KP.trans K26 (allS (Or.inr sz_b11) (allS (Or.inr sz_at_) (allS (Or.inr sz_ac) all0)))
        replace Zs := Nat.le_trans Zs K26.1
        show Run _ _ _ _ _ _ _ _ 205 #[.val (.long p0), .second, .val (.long p1), .second, .val (.long p2), .second, .val (.long p3), .second, .val (.long p4), .second, .val (.long p5), .second, .val (.int (4 : Int32)), .val (.ref b1), .val (.ref b2), .val (.ref b11), .val (.int (sm (t0 - t0) (c0 - c0))), .val (.int (sm (t1 - t0) (c1 - c0))), .val (.int (sm (t2 - t0) (c2 - c0))), .unset] [(.int (sm (t3 - t2) (c3 - c2)))]
        refine r_istore C 207 #[.val (.long p0), .second, .val (.long p1), .second, .val (.long p2), .second, .val (.long p3), .second, .val (.long p4), .second, .val (.long p5), .second, .val (.int (4 : Int32)), .val (.ref b1), .val (.ref b2), .val (.ref b11), .val (.int (sm (t0 - t0) (c0 - c0))), .val (.int (sm (t1 - t0) (c1 - c0))), .val (.int (sm (t2 - t0) (c2 - c0))), .val (.int (sm (t3 - t2) (c3 - c2)))] at_205 rfl rfl ?_
        refine r_iload C 209 at_207 rfl rfl ?_
        refine r_aload C 211 at_209 rfl rfl rfl ?_
        refine r_aload C 213 at_211 rfl rfl rfl ?_
        refine r_iconst C 214 (0 : Int32) at_213 rfl rfl ?_
        refine r_iload C 216 at_214 rfl rfl ?_
        refine r_callS C 219 (y := (⟨"com/example/indenture/indenture/app/HeapWatchSamplePinLaw", "expect", "([J[JII)Z"⟩ : MethodName)) (a := 0) [(.ref b1), (.ref b2), (.int (0 : Int32)), (.int (4 : Int32))] [(.int (sm (t0 - t0) (c0 - c0)))] (rmXp0 l Z a0 hw b1 b2 (4 : Int32) kA1 kA2 t0 t1 t2 t3 c0 c1 c2 c3 h26 n0 Zs V_b1 V_b2) (hw _ (List.mem_of_getElem? (i := 33) rfl)) (hw _ (List.mem_of_getElem? (i := 34) rfl)) (hw _ (List.mem_of_getElem? (i := 35) rfl)) (hw _ (List.mem_of_getElem? (i := 36) rfl)) (by decide) (lenOf pd___J_JII_Z rfl) rfl rfl (by decide) (Nat.le_of_ble_eq_true rfl) (by decide) (by decide) rfl at_216 rfl ?_
        intro v27 h27 q27 z27
        obtain ⟨rfl, rfl⟩ := q27
        show Run _ _ _ _ _ _ _ _ 219 #[.val (.long p0), .second, .val (.long p1), .second, .val (.long p2), .second, .val (.long p3), .second, .val (.long p4), .second, .val (.long p5), .second, .val (.int (4 : Int32)), .val (.ref b1), .val (.ref b2), .val (.ref b11), .val (.int (sm (t0 - t0) (c0 - c0))), .val (.int (sm (t1 - t0) (c1 - c0))), .val (.int (sm (t2 - t0) (c2 - c0))), .val (.int (sm (t3 - t2) (c3 - c2)))] [(.int (0 : Int32)), (.int (sm (t0 - t0) (c0 - c0)))]
        refine r_icmp_ne C 271 222 at_219 (by decide) (by decide) rfl (fun q => absurd (show sm _ _ = (0 : Int32) by simp only [sm, jg, own_self t0, show (((4 : Int32) - 1 : Int32) < 1) = False by decide, show (((4 : Int32) - 1 : Int32) < 2) = False by decide, show (((4 : Int32) - 1 : Int32) < 3) = False by decide, if_true, if_false, ite_self]) q) (fun _ => ?_)
        refine r_iload C 224 at_222 rfl rfl ?_
        refine r_aload C 226 at_224 rfl rfl rfl ?_
        refine r_aload C 228 at_226 rfl rfl rfl ?_
        refine r_iconst C 229 (1 : Int32) at_228 rfl rfl ?_
        refine r_iload C 231 at_229 rfl rfl ?_
        refine r_callS C 234 (y := (⟨"com/example/indenture/indenture/app/HeapWatchSamplePinLaw", "expect", "([J[JII)Z"⟩ : MethodName)) (a := 0) [(.ref b1), (.ref b2), (.int (1 : Int32)), (.int (4 : Int32))] [(.int (sm (t1 - t0) (c1 - c0)))] (rmXp1 l Z a0 hw b1 b2 (4 : Int32) kA1 kA2 t0 t1 t2 t3 c0 c1 c2 c3 h26 n0 Zs V_b1 V_b2) (hw _ (List.mem_of_getElem? (i := 33) rfl)) (hw _ (List.mem_of_getElem? (i := 34) rfl)) (hw _ (List.mem_of_getElem? (i := 35) rfl)) (hw _ (List.mem_of_getElem? (i := 36) rfl)) (by decide) (lenOf pd___J_JII_Z rfl) rfl rfl (by decide) (Nat.le_of_ble_eq_true rfl) (by decide) (by decide) rfl at_231 rfl ?_
        intro v28 h28 q28 z28
        obtain ⟨rfl, rfl⟩ := q28
        show Run _ _ _ _ _ _ _ _ 234 #[.val (.long p0), .second, .val (.long p1), .second, .val (.long p2), .second, .val (.long p3), .second, .val (.long p4), .second, .val (.long p5), .second, .val (.int (4 : Int32)), .val (.ref b1), .val (.ref b2), .val (.ref b11), .val (.int (sm (t0 - t0) (c0 - c0))), .val (.int (sm (t1 - t0) (c1 - c0))), .val (.int (sm (t2 - t0) (c2 - c0))), .val (.int (sm (t3 - t2) (c3 - c2)))] [(.int (ex1 (4 : Int32) t0 t1 t2 t3 c0 c1 c2 c3)), (.int (sm (t1 - t0) (c1 - c0)))]
        refine r_icmp_ne C 271 237 at_234 (by decide) (by decide) rfl (fun q => absurd (show sm _ _ = (ex1 (4 : Int32) t0 t1 t2 t3 c0 c1 c2 c3) by simp only [ex1, sm, jg, show (((4 : Int32) - 1 : Int32) < 1) = False by decide, show (((4 : Int32) - 1 : Int32) < 2) = False by decide, show (((4 : Int32) - 1 : Int32) < 3) = False by decide, if_true, if_false, ite_self]) q) (fun _ => ?_)
        refine r_iload C 239 at_237 rfl rfl ?_
        refine r_aload C 241 at_239 rfl rfl rfl ?_
        refine r_aload C 243 at_241 rfl rfl rfl ?_
        refine r_iconst C 244 (2 : Int32) at_243 rfl rfl ?_
        refine r_iload C 246 at_244 rfl rfl ?_
        refine r_callS C 249 (y := (⟨"com/example/indenture/indenture/app/HeapWatchSamplePinLaw", "expect", "([J[JII)Z"⟩ : MethodName)) (a := 0) [(.ref b1), (.ref b2), (.int (2 : Int32)), (.int (4 : Int32))] [(.int (sm (t2 - t0) (c2 - c0)))] (rmXp2 l Z a0 hw b1 b2 (4 : Int32) kA1 kA2 t0 t1 t2 t3 c0 c1 c2 c3 h26 n0 Zs V_b1 V_b2) (hw _ (List.mem_of_getElem? (i := 33) rfl)) (hw _ (List.mem_of_getElem? (i := 34) rfl)) (hw _ (List.mem_of_getElem? (i := 35) rfl)) (hw _ (List.mem_of_getElem? (i := 36) rfl)) (by decide) (lenOf pd___J_JII_Z rfl) rfl rfl (by decide) (Nat.le_of_ble_eq_true rfl) (by decide) (by decide) rfl at_246 rfl ?_
        intro v29 h29 q29 z29
        obtain ⟨rfl, rfl⟩ := q29
        show Run _ _ _ _ _ _ _ _ 249 #[.val (.long p0), .second, .val (.long p1), .second, .val (.long p2), .second, .val (.long p3), .second, .val (.long p4), .second, .val (.long p5), .second, .val (.int (4 : Int32)), .val (.ref b1), .val (.ref b2), .val (.ref b11), .val (.int (sm (t0 - t0) (c0 - c0))), .val (.int (sm (t1 - t0) (c1 - c0))), .val (.int (sm (t2 - t0) (c2 - c0))), .val (.int (sm (t3 - t2) (c3 - c2)))] [(.int (ex2 (4 : Int32) t0 t1 t2 t3 c0 c1 c2 c3)), (.int (sm (t2 - t0) (c2 - c0)))]
        refine r_icmp_ne C 271 252 at_249 (by decide) (by decide) rfl (fun q => absurd (show sm _ _ = (ex2 (4 : Int32) t0 t1 t2 t3 c0 c1 c2 c3) by simp only [ex2, sm, jg, b21, show (((4 : Int32) - 1 : Int32) < 1) = False by decide, show (((4 : Int32) - 1 : Int32) < 2) = False by decide, show (((4 : Int32) - 1 : Int32) < 3) = False by decide, if_true, if_false, ite_self]) q) (fun _ => ?_)
        refine r_iload C 254 at_252 rfl rfl ?_
        refine r_aload C 256 at_254 rfl rfl rfl ?_
        refine r_aload C 258 at_256 rfl rfl rfl ?_
        refine r_iconst C 259 (3 : Int32) at_258 rfl rfl ?_
        refine r_iload C 261 at_259 rfl rfl ?_
        refine r_callS C 264 (y := (⟨"com/example/indenture/indenture/app/HeapWatchSamplePinLaw", "expect", "([J[JII)Z"⟩ : MethodName)) (a := 0) [(.ref b1), (.ref b2), (.int (3 : Int32)), (.int (4 : Int32))] [(.int (sm (t3 - t2) (c3 - c2)))] (rmXp3 l Z a0 hw b1 b2 (4 : Int32) kA1 kA2 t0 t1 t2 t3 c0 c1 c2 c3 h26 n0 Zs V_b1 V_b2) (hw _ (List.mem_of_getElem? (i := 33) rfl)) (hw _ (List.mem_of_getElem? (i := 34) rfl)) (hw _ (List.mem_of_getElem? (i := 35) rfl)) (hw _ (List.mem_of_getElem? (i := 36) rfl)) (by decide) (lenOf pd___J_JII_Z rfl) rfl rfl (by decide) (Nat.le_of_ble_eq_true rfl) (by decide) (by decide) rfl at_261 rfl ?_
        intro v30 h30 q30 z30
        obtain ⟨rfl, rfl⟩ := q30
        show Run _ _ _ _ _ _ _ _ 264 #[.val (.long p0), .second, .val (.long p1), .second, .val (.long p2), .second, .val (.long p3), .second, .val (.long p4), .second, .val (.long p5), .second, .val (.int (4 : Int32)), .val (.ref b1), .val (.ref b2), .val (.ref b11), .val (.int (sm (t0 - t0) (c0 - c0))), .val (.int (sm (t1 - t0) (c1 - c0))), .val (.int (sm (t2 - t0) (c2 - c0))), .val (.int (sm (t3 - t2) (c3 - c2)))] [(.int (ex3 (4 : Int32) t0 t1 t2 t3 c0 c1 c2 c3)), (.int (sm (t3 - t2) (c3 - c2)))]
        refine r_icmp_ne C 271 267 at_264 (by decide) (by decide) rfl (fun q => absurd (show sm _ _ = (ex3 (4 : Int32) t0 t1 t2 t3 c0 c1 c2 c3) by simp only [ex3, sm, jg, b31, b30, b32, show (((4 : Int32) - 1 : Int32) < 1) = False by decide, show (((4 : Int32) - 1 : Int32) < 2) = False by decide, show (((4 : Int32) - 1 : Int32) < 3) = False by decide, if_true, if_false, ite_self]) q) (fun _ => ?_)
        refine r_iconst C 268 (1 : Int32) at_267 rfl rfl ?_
        refine r_goto C 272 at_268 (by decide) (by decide) ?_
        exact r_nreturn C (1 : Int32) rfl (t := .boolean) (by simp) rfl at_272 (by decide) (by decide) rfl
  · have b20 : ¬ (t2 - t0) < 5000000000 := fun q => b21 (own_lt q (by omega))
    have b31 : ¬ (t3 - t1) < 5000000000 := fun q => b21 (own_lt q (by omega))
    refine r_istore C 177 #[.val (.long p0), .second, .val (.long p1), .second, .val (.long p2), .second, .val (.long p3), .second, .val (.long p4), .second, .val (.long p5), .second, .val (.int (4 : Int32)), .val (.ref b1), .val (.ref b2), .val (.ref b11), .val (.int (sm (t0 - t0) (c0 - c0))), .val (.int (sm (t1 - t0) (c1 - c0))), .unset, .unset] at_175 rfl rfl ?_
    refine r_aload C 179 at_177 rfl rfl rfl ?_
    refine r_aload C 181 at_179 rfl rfl rfl ?_
    refine r_iconst C 182 (2 : Int32) at_181 rfl rfl ?_
    refine r_laload C 183 (v := (.long t2)) V_b1 ⟨by decide, by decide⟩ rfl at_182 rfl ?_
    refine r_aload C 185 at_183 rfl rfl rfl ?_
    refine r_iconst C 186 (2 : Int32) at_185 rfl rfl ?_
    refine r_laload C 187 (v := (.long c2)) V_b2 ⟨by decide, by decide⟩ rfl at_186 rfl ?_
    refine r_callV C 190 (y := (⟨"com/example/indenture/indenture/app/HeapWatch", "sample", "(JJ)Z"⟩ : MethodName)) (z := (⟨"com/example/indenture/indenture/app/HeapWatch", "sample", "(JJ)Z"⟩ : MethodName)) (D := "com/example/indenture/indenture/app/HeapWatch") (a := b11) [(.long t2), (.long c2)] [] (rmSa_4_0_2_1 l Z a0 hw b11 t2 c2 at_ ac kt kc t0 t1 (0 : Int64) (0 : Int64) c0 c1 (0 : Int64) (0 : Int64) h14 n0 Zs hW V_t V_c ntc g_b11 g_at_ g_ac b21 (by omega) (by omega) (by omega)) (hw _ (List.mem_of_getElem? (i := 17) rfl)) (hw _ (List.mem_of_getElem? (i := 18) rfl)) (fun s hZ' => notFace_of_selects (args := #[]) (mvT hZ' (hw _ (List.mem_of_getElem? (i := 20) rfl)))) (hw _ (List.mem_of_getElem? (i := 20) rfl)) (hw _ (List.mem_of_getElem? (i := 19) rfl)) (hw _ (List.mem_of_getElem? (i := 6) rfl)) (hw _ (List.mem_of_getElem? (i := 21) rfl)) hW.1 (by decide) (lenOf pd__JJ_Z rfl) rfl rfl (by decide) (Nat.le_of_ble_eq_true rfl) (by decide) (by decide) rfl at_187 rfl ?_
    intro v31 h31 q31 z31
    obtain ⟨rfl, K31, hW, V_t, V_c⟩ := q31
    replace V_b1 := V_b1.keep K31 (ninS ne_b1_b11 (ninS n_b1_at_ (ninS n_b1_ac nin0)))
    replace V_b2 := V_b2.keep K31 (ninS ne_b2_b11 (ninS n_b2_at_ (ninS n_b2_ac nin0)))
    replace KP := KP.trans K31 (allS (Or.inr sz_b11) (allS (Or.inr sz_at_) (allS (Or.inr sz_ac) all0)))
    replace Zs := Nat.le_trans Zs K31.1
    show Run _ _ _ _ _ _ _ _ 190 #[.val (.long p0), .second, .val (.long p1), .second, .val (.long p2), .second, .val (.long p3), .second, .val (.long p4), .second, .val (.long p5), .second, .val (.int (4 : Int32)), .val (.ref b1), .val (.ref b2), .val (.ref b11), .val (.int (sm (t0 - t0) (c0 - c0))), .val (.int (sm (t1 - t0) (c1 - c0))), .unset, .unset] [(.int (sm (t2 - t1) (c2 - c1)))]
    by_cases b32 : (t3 - t2) < 5000000000
    · refine r_istore C 192 #[.val (.long p0), .second, .val (.long p1), .second, .val (.long p2), .second, .val (.long p3), .second, .val (.long p4), .second, .val (.long p5), .second, .val (.int (4 : Int32)), .val (.ref b1), .val (.ref b2), .val (.ref b11), .val (.int (sm (t0 - t0) (c0 - c0))), .val (.int (sm (t1 - t0) (c1 - c0))), .val (.int (sm (t2 - t1) (c2 - c1))), .unset] at_190 rfl rfl ?_
      refine r_aload C 194 at_192 rfl rfl rfl ?_
      refine r_aload C 196 at_194 rfl rfl rfl ?_
      refine r_iconst C 197 (3 : Int32) at_196 rfl rfl ?_
      refine r_laload C 198 (v := (.long t3)) V_b1 ⟨by decide, by decide⟩ rfl at_197 rfl ?_
      refine r_aload C 200 at_198 rfl rfl rfl ?_
      refine r_iconst C 201 (3 : Int32) at_200 rfl rfl ?_
      refine r_laload C 202 (v := (.long c3)) V_b2 ⟨by decide, by decide⟩ rfl at_201 rfl ?_
      refine r_callV C 205 (y := (⟨"com/example/indenture/indenture/app/HeapWatch", "sample", "(JJ)Z"⟩ : MethodName)) (z := (⟨"com/example/indenture/indenture/app/HeapWatch", "sample", "(JJ)Z"⟩ : MethodName)) (D := "com/example/indenture/indenture/app/HeapWatch") (a := b11) [(.long t3), (.long c3)] [] (rmSa_4_1_2_0 l Z a0 hw b11 t3 c3 at_ ac kt kc t0 t1 t2 (0 : Int64) c0 c1 c2 (0 : Int64) h31 n0 Zs hW V_t V_c ntc g_b11 g_at_ g_ac b32 (by omega) (by omega) (by omega)) (hw _ (List.mem_of_getElem? (i := 17) rfl)) (hw _ (List.mem_of_getElem? (i := 18) rfl)) (fun s hZ' => notFace_of_selects (args := #[]) (mvT hZ' (hw _ (List.mem_of_getElem? (i := 20) rfl)))) (hw _ (List.mem_of_getElem? (i := 20) rfl)) (hw _ (List.mem_of_getElem? (i := 19) rfl)) (hw _ (List.mem_of_getElem? (i := 6) rfl)) (hw _ (List.mem_of_getElem? (i := 21) rfl)) hW.1 (by decide) (lenOf pd__JJ_Z rfl) rfl rfl (by decide) (Nat.le_of_ble_eq_true rfl) (by decide) (by decide) rfl at_202 rfl ?_
      intro v32 h32 q32 z32
      obtain ⟨rfl, K32, hW, V_t, V_c⟩ := q32
      replace V_b1 := V_b1.keep K32 (ninS ne_b1_b11 (ninS n_b1_at_ (ninS n_b1_ac nin0)))
      replace V_b2 := V_b2.keep K32 (ninS ne_b2_b11 (ninS n_b2_at_ (ninS n_b2_ac nin0)))
      replace KP := KP.trans K32 (allS (Or.inr sz_b11) (allS (Or.inr sz_at_) (allS (Or.inr sz_ac) all0)))
      replace Zs := Nat.le_trans Zs K32.1
      show Run _ _ _ _ _ _ _ _ 205 #[.val (.long p0), .second, .val (.long p1), .second, .val (.long p2), .second, .val (.long p3), .second, .val (.long p4), .second, .val (.long p5), .second, .val (.int (4 : Int32)), .val (.ref b1), .val (.ref b2), .val (.ref b11), .val (.int (sm (t0 - t0) (c0 - c0))), .val (.int (sm (t1 - t0) (c1 - c0))), .val (.int (sm (t2 - t1) (c2 - c1))), .unset] [(.int (sm (t3 - t1) (c3 - c1)))]
      refine r_istore C 207 #[.val (.long p0), .second, .val (.long p1), .second, .val (.long p2), .second, .val (.long p3), .second, .val (.long p4), .second, .val (.long p5), .second, .val (.int (4 : Int32)), .val (.ref b1), .val (.ref b2), .val (.ref b11), .val (.int (sm (t0 - t0) (c0 - c0))), .val (.int (sm (t1 - t0) (c1 - c0))), .val (.int (sm (t2 - t1) (c2 - c1))), .val (.int (sm (t3 - t1) (c3 - c1)))] at_205 rfl rfl ?_
      refine r_iload C 209 at_207 rfl rfl ?_
      refine r_aload C 211 at_209 rfl rfl rfl ?_
      refine r_aload C 213 at_211 rfl rfl rfl ?_
      refine r_iconst C 214 (0 : Int32) at_213 rfl rfl ?_
      refine r_iload C 216 at_214 rfl rfl ?_
      refine r_callS C 219 (y := (⟨"com/example/indenture/indenture/app/HeapWatchSamplePinLaw", "expect", "([J[JII)Z"⟩ : MethodName)) (a := 0) [(.ref b1), (.ref b2), (.int (0 : Int32)), (.int (4 : Int32))] [(.int (sm (t0 - t0) (c0 - c0)))] (rmXp0 l Z a0 hw b1 b2 (4 : Int32) kA1 kA2 t0 t1 t2 t3 c0 c1 c2 c3 h32 n0 Zs V_b1 V_b2) (hw _ (List.mem_of_getElem? (i := 33) rfl)) (hw _ (List.mem_of_getElem? (i := 34) rfl)) (hw _ (List.mem_of_getElem? (i := 35) rfl)) (hw _ (List.mem_of_getElem? (i := 36) rfl)) (by decide) (lenOf pd___J_JII_Z rfl) rfl rfl (by decide) (Nat.le_of_ble_eq_true rfl) (by decide) (by decide) rfl at_216 rfl ?_
      intro v33 h33 q33 z33
      obtain ⟨rfl, rfl⟩ := q33
      show Run _ _ _ _ _ _ _ _ 219 #[.val (.long p0), .second, .val (.long p1), .second, .val (.long p2), .second, .val (.long p3), .second, .val (.long p4), .second, .val (.long p5), .second, .val (.int (4 : Int32)), .val (.ref b1), .val (.ref b2), .val (.ref b11), .val (.int (sm (t0 - t0) (c0 - c0))), .val (.int (sm (t1 - t0) (c1 - c0))), .val (.int (sm (t2 - t1) (c2 - c1))), .val (.int (sm (t3 - t1) (c3 - c1)))] [(.int (0 : Int32)), (.int (sm (t0 - t0) (c0 - c0)))]
      refine r_icmp_ne C 271 222 at_219 (by decide) (by decide) rfl (fun q => absurd (show sm _ _ = (0 : Int32) by simp only [sm, jg, own_self t0, show (((4 : Int32) - 1 : Int32) < 1) = False by decide, show (((4 : Int32) - 1 : Int32) < 2) = False by decide, show (((4 : Int32) - 1 : Int32) < 3) = False by decide, if_true, if_false, ite_self]) q) (fun _ => ?_)
      refine r_iload C 224 at_222 rfl rfl ?_
      refine r_aload C 226 at_224 rfl rfl rfl ?_
      refine r_aload C 228 at_226 rfl rfl rfl ?_
      refine r_iconst C 229 (1 : Int32) at_228 rfl rfl ?_
      refine r_iload C 231 at_229 rfl rfl ?_
      refine r_callS C 234 (y := (⟨"com/example/indenture/indenture/app/HeapWatchSamplePinLaw", "expect", "([J[JII)Z"⟩ : MethodName)) (a := 0) [(.ref b1), (.ref b2), (.int (1 : Int32)), (.int (4 : Int32))] [(.int (sm (t1 - t0) (c1 - c0)))] (rmXp1 l Z a0 hw b1 b2 (4 : Int32) kA1 kA2 t0 t1 t2 t3 c0 c1 c2 c3 h32 n0 Zs V_b1 V_b2) (hw _ (List.mem_of_getElem? (i := 33) rfl)) (hw _ (List.mem_of_getElem? (i := 34) rfl)) (hw _ (List.mem_of_getElem? (i := 35) rfl)) (hw _ (List.mem_of_getElem? (i := 36) rfl)) (by decide) (lenOf pd___J_JII_Z rfl) rfl rfl (by decide) (Nat.le_of_ble_eq_true rfl) (by decide) (by decide) rfl at_231 rfl ?_
      intro v34 h34 q34 z34
      obtain ⟨rfl, rfl⟩ := q34
      show Run _ _ _ _ _ _ _ _ 234 #[.val (.long p0), .second, .val (.long p1), .second, .val (.long p2), .second, .val (.long p3), .second, .val (.long p4), .second, .val (.long p5), .second, .val (.int (4 : Int32)), .val (.ref b1), .val (.ref b2), .val (.ref b11), .val (.int (sm (t0 - t0) (c0 - c0))), .val (.int (sm (t1 - t0) (c1 - c0))), .val (.int (sm (t2 - t1) (c2 - c1))), .val (.int (sm (t3 - t1) (c3 - c1)))] [(.int (ex1 (4 : Int32) t0 t1 t2 t3 c0 c1 c2 c3)), (.int (sm (t1 - t0) (c1 - c0)))]
      refine r_icmp_ne C 271 237 at_234 (by decide) (by decide) rfl (fun q => absurd (show sm _ _ = (ex1 (4 : Int32) t0 t1 t2 t3 c0 c1 c2 c3) by simp only [ex1, sm, jg, show (((4 : Int32) - 1 : Int32) < 1) = False by decide, show (((4 : Int32) - 1 : Int32) < 2) = False by decide, show (((4 : Int32) - 1 : Int32) < 3) = False by decide, if_true, if_false, ite_self]) q) (fun _ => ?_)
      refine r_iload C 239 at_237 rfl rfl ?_
      refine r_aload C 241 at_239 rfl rfl rfl ?_
      refine r_aload C 243 at_241 rfl rfl rfl ?_
      refine r_iconst C 244 (2 : Int32) at_243 rfl rfl ?_
      refine r_iload C 246 at_244 rfl rfl ?_
      refine r_callS C 249 (y := (⟨"com/example/indenture/indenture/app/HeapWatchSamplePinLaw", "expect", "([J[JII)Z"⟩ : MethodName)) (a := 0) [(.ref b1), (.ref b2), (.int (2 : Int32)), (.int (4 : Int32))] [(.int (sm (t2 - t1) (c2 - c1)))] (rmXp2 l Z a0 hw b1 b2 (4 : Int32) kA1 kA2 t0 t1 t2 t3 c0 c1 c2 c3 h32 n0 Zs V_b1 V_b2) (hw _ (List.mem_of_getElem? (i := 33) rfl)) (hw _ (List.mem_of_getElem? (i := 34) rfl)) (hw _ (List.mem_of_getElem? (i := 35) rfl)) (hw _ (List.mem_of_getElem? (i := 36) rfl)) (by decide) (lenOf pd___J_JII_Z rfl) rfl rfl (by decide) (Nat.le_of_ble_eq_true rfl) (by decide) (by decide) rfl at_246 rfl ?_
      intro v35 h35 q35 z35
      obtain ⟨rfl, rfl⟩ := q35
      show Run _ _ _ _ _ _ _ _ 249 #[.val (.long p0), .second, .val (.long p1), .second, .val (.long p2), .second, .val (.long p3), .second, .val (.long p4), .second, .val (.long p5), .second, .val (.int (4 : Int32)), .val (.ref b1), .val (.ref b2), .val (.ref b11), .val (.int (sm (t0 - t0) (c0 - c0))), .val (.int (sm (t1 - t0) (c1 - c0))), .val (.int (sm (t2 - t1) (c2 - c1))), .val (.int (sm (t3 - t1) (c3 - c1)))] [(.int (ex2 (4 : Int32) t0 t1 t2 t3 c0 c1 c2 c3)), (.int (sm (t2 - t1) (c2 - c1)))]
      refine r_icmp_ne C 271 252 at_249 (by decide) (by decide) rfl (fun q => absurd (show sm _ _ = (ex2 (4 : Int32) t0 t1 t2 t3 c0 c1 c2 c3) by simp only [ex2, sm, jg, b21, b20, show (((4 : Int32) - 1 : Int32) < 1) = False by decide, show (((4 : Int32) - 1 : Int32) < 2) = False by decide, show (((4 : Int32) - 1 : Int32) < 3) = False by decide, if_true, if_false, ite_self]) q) (fun _ => ?_)
      refine r_iload C 254 at_252 rfl rfl ?_
      refine r_aload C 256 at_254 rfl rfl rfl ?_
      refine r_aload C 258 at_256 rfl rfl rfl ?_
      refine r_iconst C 259 (3 : Int32) at_258 rfl rfl ?_
      refine r_iload C 261 at_259 rfl rfl ?_
      refine r_callS C 264 (y := (⟨"com/example/indenture/indenture/app/HeapWatchSamplePinLaw", "expect", "([J[JII)Z"⟩ : MethodName)) (a := 0) [(.ref b1), (.ref b2), (.int (3 : Int32)), (.int (4 : Int32))] [(.int (sm (t3 - t1) (c3 - c1)))] (rmXp3 l Z a0 hw b1 b2 (4 : Int32) kA1 kA2 t0 t1 t2 t3 c0 c1 c2 c3 h32 n0 Zs V_b1 V_b2) (hw _ (List.mem_of_getElem? (i := 33) rfl)) (hw _ (List.mem_of_getElem? (i := 34) rfl)) (hw _ (List.mem_of_getElem? (i := 35) rfl)) (hw _ (List.mem_of_getElem? (i := 36) rfl)) (by decide) (lenOf pd___J_JII_Z rfl) rfl rfl (by decide) (Nat.le_of_ble_eq_true rfl) (by decide) (by decide) rfl at_261 rfl ?_
      intro v36 h36 q36 z36
      obtain ⟨rfl, rfl⟩ := q36
      show Run _ _ _ _ _ _ _ _ 264 #[.val (.long p0), .second, .val (.long p1), .second, .val (.long p2), .second, .val (.long p3), .second, .val (.long p4), .second, .val (.long p5), .second, .val (.int (4 : Int32)), .val (.ref b1), .val (.ref b2), .val (.ref b11), .val (.int (sm (t0 - t0) (c0 - c0))), .val (.int (sm (t1 - t0) (c1 - c0))), .val (.int (sm (t2 - t1) (c2 - c1))), .val (.int (sm (t3 - t1) (c3 - c1)))] [(.int (ex3 (4 : Int32) t0 t1 t2 t3 c0 c1 c2 c3)), (.int (sm (t3 - t1) (c3 - c1)))]
      refine r_icmp_ne C 271 267 at_264 (by decide) (by decide) rfl (fun q => absurd (show sm _ _ = (ex3 (4 : Int32) t0 t1 t2 t3 c0 c1 c2 c3) by simp only [ex3, sm, jg, b31, b32, show (((4 : Int32) - 1 : Int32) < 1) = False by decide, show (((4 : Int32) - 1 : Int32) < 2) = False by decide, show (((4 : Int32) - 1 : Int32) < 3) = False by decide, if_true, if_false, ite_self]) q) (fun _ => ?_)
      refine r_iconst C 268 (1 : Int32) at_267 rfl rfl ?_
      refine r_goto C 272 at_268 (by decide) (by decide) ?_
      exact r_nreturn C (1 : Int32) rfl (t := .boolean) (by simp) rfl at_272 (by decide) (by decide) rfl
    · have b30 : ¬ (t3 - t0) < 5000000000 := fun q => b32 (own_lt q (by omega))
      refine r_istore C 192 #[.val (.long p0), .second, .val (.long p1), .second, .val (.long p2), .second, .val (.long p3), .second, .val (.long p4), .second, .val (.long p5), .second, .val (.int (4 : Int32)), .val (.ref b1), .val (.ref b2), .val (.ref b11), .val (.int (sm (t0 - t0) (c0 - c0))), .val (.int (sm (t1 - t0) (c1 - c0))), .val (.int (sm (t2 - t1) (c2 - c1))), .unset] at_190 rfl rfl ?_
      refine r_aload C 194 at_192 rfl rfl rfl ?_
      refine r_aload C 196 at_194 rfl rfl rfl ?_
      refine r_iconst C 197 (3 : Int32) at_196 rfl rfl ?_
      refine r_laload C 198 (v := (.long t3)) V_b1 ⟨by decide, by decide⟩ rfl at_197 rfl ?_
      refine r_aload C 200 at_198 rfl rfl rfl ?_
      refine r_iconst C 201 (3 : Int32) at_200 rfl rfl ?_
      refine r_laload C 202 (v := (.long c3)) V_b2 ⟨by decide, by decide⟩ rfl at_201 rfl ?_
      refine r_callV C 205 (y := (⟨"com/example/indenture/indenture/app/HeapWatch", "sample", "(JJ)Z"⟩ : MethodName)) (z := (⟨"com/example/indenture/indenture/app/HeapWatch", "sample", "(JJ)Z"⟩ : MethodName)) (D := "com/example/indenture/indenture/app/HeapWatch") (a := b11) [(.long t3), (.long c3)] [] (rmSa_4_1_2_1 l Z a0 hw b11 t3 c3 at_ ac kt kc t0 t1 t2 (0 : Int64) c0 c1 c2 (0 : Int64) h31 n0 Zs hW V_t V_c ntc g_b11 g_at_ g_ac b32 (by omega) (by omega) (by omega)) (hw _ (List.mem_of_getElem? (i := 17) rfl)) (hw _ (List.mem_of_getElem? (i := 18) rfl)) (fun s hZ' => notFace_of_selects (args := #[]) (mvT hZ' (hw _ (List.mem_of_getElem? (i := 20) rfl)))) (hw _ (List.mem_of_getElem? (i := 20) rfl)) (hw _ (List.mem_of_getElem? (i := 19) rfl)) (hw _ (List.mem_of_getElem? (i := 6) rfl)) (hw _ (List.mem_of_getElem? (i := 21) rfl)) hW.1 (by decide) (lenOf pd__JJ_Z rfl) rfl rfl (by decide) (Nat.le_of_ble_eq_true rfl) (by decide) (by decide) rfl at_202 rfl ?_
      intro v37 h37 q37 z37
      obtain ⟨rfl, K37, hW, V_t, V_c⟩ := q37
      replace V_b1 := V_b1.keep K37 (ninS ne_b1_b11 (ninS n_b1_at_ (ninS n_b1_ac nin0)))
      replace V_b2 := V_b2.keep K37 (ninS ne_b2_b11 (ninS n_b2_at_ (ninS n_b2_ac nin0)))
      replace KP := KP.trans K37 (allS (Or.inr sz_b11) (allS (Or.inr sz_at_) (allS (Or.inr sz_ac) all0)))
      replace Zs := Nat.le_trans Zs K37.1
      show Run _ _ _ _ _ _ _ _ 205 #[.val (.long p0), .second, .val (.long p1), .second, .val (.long p2), .second, .val (.long p3), .second, .val (.long p4), .second, .val (.long p5), .second, .val (.int (4 : Int32)), .val (.ref b1), .val (.ref b2), .val (.ref b11), .val (.int (sm (t0 - t0) (c0 - c0))), .val (.int (sm (t1 - t0) (c1 - c0))), .val (.int (sm (t2 - t1) (c2 - c1))), .unset] [(.int (sm (t3 - t2) (c3 - c2)))]
      refine r_istore C 207 #[.val (.long p0), .second, .val (.long p1), .second, .val (.long p2), .second, .val (.long p3), .second, .val (.long p4), .second, .val (.long p5), .second, .val (.int (4 : Int32)), .val (.ref b1), .val (.ref b2), .val (.ref b11), .val (.int (sm (t0 - t0) (c0 - c0))), .val (.int (sm (t1 - t0) (c1 - c0))), .val (.int (sm (t2 - t1) (c2 - c1))), .val (.int (sm (t3 - t2) (c3 - c2)))] at_205 rfl rfl ?_
      refine r_iload C 209 at_207 rfl rfl ?_
      refine r_aload C 211 at_209 rfl rfl rfl ?_
      refine r_aload C 213 at_211 rfl rfl rfl ?_
      refine r_iconst C 214 (0 : Int32) at_213 rfl rfl ?_
      refine r_iload C 216 at_214 rfl rfl ?_
      refine r_callS C 219 (y := (⟨"com/example/indenture/indenture/app/HeapWatchSamplePinLaw", "expect", "([J[JII)Z"⟩ : MethodName)) (a := 0) [(.ref b1), (.ref b2), (.int (0 : Int32)), (.int (4 : Int32))] [(.int (sm (t0 - t0) (c0 - c0)))] (rmXp0 l Z a0 hw b1 b2 (4 : Int32) kA1 kA2 t0 t1 t2 t3 c0 c1 c2 c3 h37 n0 Zs V_b1 V_b2) (hw _ (List.mem_of_getElem? (i := 33) rfl)) (hw _ (List.mem_of_getElem? (i := 34) rfl)) (hw _ (List.mem_of_getElem? (i := 35) rfl)) (hw _ (List.mem_of_getElem? (i := 36) rfl)) (by decide) (lenOf pd___J_JII_Z rfl) rfl rfl (by decide) (Nat.le_of_ble_eq_true rfl) (by decide) (by decide) rfl at_216 rfl ?_
      intro v38 h38 q38 z38
      obtain ⟨rfl, rfl⟩ := q38
      show Run _ _ _ _ _ _ _ _ 219 #[.val (.long p0), .second, .val (.long p1), .second, .val (.long p2), .second, .val (.long p3), .second, .val (.long p4), .second, .val (.long p5), .second, .val (.int (4 : Int32)), .val (.ref b1), .val (.ref b2), .val (.ref b11), .val (.int (sm (t0 - t0) (c0 - c0))), .val (.int (sm (t1 - t0) (c1 - c0))), .val (.int (sm (t2 - t1) (c2 - c1))), .val (.int (sm (t3 - t2) (c3 - c2)))] [(.int (0 : Int32)), (.int (sm (t0 - t0) (c0 - c0)))]
      refine r_icmp_ne C 271 222 at_219 (by decide) (by decide) rfl (fun q => absurd (show sm _ _ = (0 : Int32) by simp only [sm, jg, own_self t0, show (((4 : Int32) - 1 : Int32) < 1) = False by decide, show (((4 : Int32) - 1 : Int32) < 2) = False by decide, show (((4 : Int32) - 1 : Int32) < 3) = False by decide, if_true, if_false, ite_self]) q) (fun _ => ?_)
      refine r_iload C 224 at_222 rfl rfl ?_
      refine r_aload C 226 at_224 rfl rfl rfl ?_
      refine r_aload C 228 at_226 rfl rfl rfl ?_
      refine r_iconst C 229 (1 : Int32) at_228 rfl rfl ?_
      refine r_iload C 231 at_229 rfl rfl ?_
      refine r_callS C 234 (y := (⟨"com/example/indenture/indenture/app/HeapWatchSamplePinLaw", "expect", "([J[JII)Z"⟩ : MethodName)) (a := 0) [(.ref b1), (.ref b2), (.int (1 : Int32)), (.int (4 : Int32))] [(.int (sm (t1 - t0) (c1 - c0)))] (rmXp1 l Z a0 hw b1 b2 (4 : Int32) kA1 kA2 t0 t1 t2 t3 c0 c1 c2 c3 h37 n0 Zs V_b1 V_b2) (hw _ (List.mem_of_getElem? (i := 33) rfl)) (hw _ (List.mem_of_getElem? (i := 34) rfl)) (hw _ (List.mem_of_getElem? (i := 35) rfl)) (hw _ (List.mem_of_getElem? (i := 36) rfl)) (by decide) (lenOf pd___J_JII_Z rfl) rfl rfl (by decide) (Nat.le_of_ble_eq_true rfl) (by decide) (by decide) rfl at_231 rfl ?_
      intro v39 h39 q39 z39
      obtain ⟨rfl, rfl⟩ := q39
      show Run _ _ _ _ _ _ _ _ 234 #[.val (.long p0), .second, .val (.long p1), .second, .val (.long p2), .second, .val (.long p3), .second, .val (.long p4), .second, .val (.long p5), .second, .val (.int (4 : Int32)), .val (.ref b1), .val (.ref b2), .val (.ref b11), .val (.int (sm (t0 - t0) (c0 - c0))), .val (.int (sm (t1 - t0) (c1 - c0))), .val (.int (sm (t2 - t1) (c2 - c1))), .val (.int (sm (t3 - t2) (c3 - c2)))] [(.int (ex1 (4 : Int32) t0 t1 t2 t3 c0 c1 c2 c3)), (.int (sm (t1 - t0) (c1 - c0)))]
      refine r_icmp_ne C 271 237 at_234 (by decide) (by decide) rfl (fun q => absurd (show sm _ _ = (ex1 (4 : Int32) t0 t1 t2 t3 c0 c1 c2 c3) by simp only [ex1, sm, jg, show (((4 : Int32) - 1 : Int32) < 1) = False by decide, show (((4 : Int32) - 1 : Int32) < 2) = False by decide, show (((4 : Int32) - 1 : Int32) < 3) = False by decide, if_true, if_false, ite_self]) q) (fun _ => ?_)
      refine r_iload C 239 at_237 rfl rfl ?_
      refine r_aload C 241 at_239 rfl rfl rfl ?_
      refine r_aload C 243 at_241 rfl rfl rfl ?_
      refine r_iconst C 244 (2 : Int32) at_243 rfl rfl ?_
      refine r_iload C 246 at_244 rfl rfl ?_
      refine r_callS C 249 (y := (⟨"com/example/indenture/indenture/app/HeapWatchSamplePinLaw", "expect", "([J[JII)Z"⟩ : MethodName)) (a := 0) [(.ref b1), (.ref b2), (.int (2 : Int32)), (.int (4 : Int32))] [(.int (sm (t2 - t1) (c2 - c1)))] (rmXp2 l Z a0 hw b1 b2 (4 : Int32) kA1 kA2 t0 t1 t2 t3 c0 c1 c2 c3 h37 n0 Zs V_b1 V_b2) (hw _ (List.mem_of_getElem? (i := 33) rfl)) (hw _ (List.mem_of_getElem? (i := 34) rfl)) (hw _ (List.mem_of_getElem? (i := 35) rfl)) (hw _ (List.mem_of_getElem? (i := 36) rfl)) (by decide) (lenOf pd___J_JII_Z rfl) rfl rfl (by decide) (Nat.le_of_ble_eq_true rfl) (by decide) (by decide) rfl at_246 rfl ?_
      intro v40 h40 q40 z40
      obtain ⟨rfl, rfl⟩ := q40
      show Run _ _ _ _ _ _ _ _ 249 #[.val (.long p0), .second, .val (.long p1), .second, .val (.long p2), .second, .val (.long p3), .second, .val (.long p4), .second, .val (.long p5), .second, .val (.int (4 : Int32)), .val (.ref b1), .val (.ref b2), .val (.ref b11), .val (.int (sm (t0 - t0) (c0 - c0))), .val (.int (sm (t1 - t0) (c1 - c0))), .val (.int (sm (t2 - t1) (c2 - c1))), .val (.int (sm (t3 - t2) (c3 - c2)))] [(.int (ex2 (4 : Int32) t0 t1 t2 t3 c0 c1 c2 c3)), (.int (sm (t2 - t1) (c2 - c1)))]
      refine r_icmp_ne C 271 252 at_249 (by decide) (by decide) rfl (fun q => absurd (show sm _ _ = (ex2 (4 : Int32) t0 t1 t2 t3 c0 c1 c2 c3) by simp only [ex2, sm, jg, b21, b20, show (((4 : Int32) - 1 : Int32) < 1) = False by decide, show (((4 : Int32) - 1 : Int32) < 2) = False by decide, show (((4 : Int32) - 1 : Int32) < 3) = False by decide, if_true, if_false, ite_self]) q) (fun _ => ?_)
      refine r_iload C 254 at_252 rfl rfl ?_
      refine r_aload C 256 at_254 rfl rfl rfl ?_
      refine r_aload C 258 at_256 rfl rfl rfl ?_
      refine r_iconst C 259 (3 : Int32) at_258 rfl rfl ?_
      refine r_iload C 261 at_259 rfl rfl ?_
      refine r_callS C 264 (y := (⟨"com/example/indenture/indenture/app/HeapWatchSamplePinLaw", "expect", "([J[JII)Z"⟩ : MethodName)) (a := 0) [(.ref b1), (.ref b2), (.int (3 : Int32)), (.int (4 : Int32))] [(.int (sm (t3 - t2) (c3 - c2)))] (rmXp3 l Z a0 hw b1 b2 (4 : Int32) kA1 kA2 t0 t1 t2 t3 c0 c1 c2 c3 h37 n0 Zs V_b1 V_b2) (hw _ (List.mem_of_getElem? (i := 33) rfl)) (hw _ (List.mem_of_getElem? (i := 34) rfl)) (hw _ (List.mem_of_getElem? (i := 35) rfl)) (hw _ (List.mem_of_getElem? (i := 36) rfl)) (by decide) (lenOf pd___J_JII_Z rfl) rfl rfl (by decide) (Nat.le_of_ble_eq_true rfl) (by decide) (by decide) rfl at_261 rfl ?_
      intro v41 h41 q41 z41
      obtain ⟨rfl, rfl⟩ := q41
      show Run _ _ _ _ _ _ _ _ 264 #[.val (.long p0), .second, .val (.long p1), .second, .val (.long p2), .second, .val (.long p3), .second, .val (.long p4), .second, .val (.long p5), .second, .val (.int (4 : Int32)), .val (.ref b1), .val (.ref b2), .val (.ref b11), .val (.int (sm (t0 - t0) (c0 - c0))), .val (.int (sm (t1 - t0) (c1 - c0))), .val (.int (sm (t2 - t1) (c2 - c1))), .val (.int (sm (t3 - t2) (c3 - c2)))] [(.int (ex3 (4 : Int32) t0 t1 t2 t3 c0 c1 c2 c3)), (.int (sm (t3 - t2) (c3 - c2)))]
      refine r_icmp_ne C 271 267 at_264 (by decide) (by decide) rfl (fun q => absurd (show sm _ _ = (ex3 (4 : Int32) t0 t1 t2 t3 c0 c1 c2 c3) by simp only [ex3, sm, jg, b31, b32, b30, show (((4 : Int32) - 1 : Int32) < 1) = False by decide, show (((4 : Int32) - 1 : Int32) < 2) = False by decide, show (((4 : Int32) - 1 : Int32) < 3) = False by decide, if_true, if_false, ite_self]) q) (fun _ => ?_)
      refine r_iconst C 268 (1 : Int32) at_267 rfl rfl ?_
      refine r_goto C 272 at_268 (by decide) (by decide) ?_
      exact r_nreturn C (1 : Int32) rfl (t := .boolean) (by simp) rfl at_272 (by decide) (by decide) rfl
set_option maxRecDepth 65536 in
set_option maxHeartbeats 40000000 in
theorem rm0 (l : Launch) (Z : State) (a0 : Array Value) (hw : ∀ d ∈ tables_1, d.before a0 Z = true) (ws : List Jvm.Cond) (p0 p1 p2 p3 p4 p5 : Int64) (h0 : Heap) (n0 : Nat) (Zs : n0 ≤ h0.size) :
    Con l Z x code maxLocals ret ws room_1 n0 #[(.long p0), (.long p1), (.long p2), (.long p3), (.long p4), (.long p5)] h0 (fun v _ => v = some (.int 1)) := by
  refine Con.of (plainFor_of_name pn_l) (ef_law p0 p1 p2 p3 p4 p5) ?_
  intro K C
  replace C : Ok Z "com/example/indenture/indenture/app/HeapWatchSamplePinLaw" "law" code maxLocals ret K := C
  refine r_iconst C 1 (1 : Int32) at_0 rfl rfl ?_
  refine r_lload C 3 at_1 rfl rfl ?_
  refine r_bipush C 5 (48 : Int32) at_3 rfl rfl ?_
  refine r_lushr C 6 at_5 rfl ?_
  refine r_ldc2_w C 9 at_6 rfl (hw _ (List.mem_of_getElem? (i := 0) rfl)) ?_
  refine r_land C 10 at_9 rfl ?_
  refine r_l2i C 11 at_10 rfl ?_
  refine r_iadd C 12 at_11 rfl ?_
  rcases own_cap ((p5.toUInt64 >>> ((48 : Int32) &&& 0x3f).toInt64.toUInt64).toInt64) with hk | hk | hk | hk <;> rw [hk]
  · refine r_istore C 14 #[.val (.long p0), .second, .val (.long p1), .second, .val (.long p2), .second, .val (.long p3), .second, .val (.long p4), .second, .val (.long p5), .second, .val (.int (1 : Int32)), .unset, .unset, .unset, .unset, .unset, .unset, .unset] at_12 rfl rfl ?_
    exact rmJ1 l Z a0 hw p0 p1 p2 p3 p4 p5 h0 n0 Zs K C
  · refine r_istore C 14 #[.val (.long p0), .second, .val (.long p1), .second, .val (.long p2), .second, .val (.long p3), .second, .val (.long p4), .second, .val (.long p5), .second, .val (.int (2 : Int32)), .unset, .unset, .unset, .unset, .unset, .unset, .unset] at_12 rfl rfl ?_
    exact rmJ2 l Z a0 hw p0 p1 p2 p3 p4 p5 h0 n0 Zs K C
  · refine r_istore C 14 #[.val (.long p0), .second, .val (.long p1), .second, .val (.long p2), .second, .val (.long p3), .second, .val (.long p4), .second, .val (.long p5), .second, .val (.int (3 : Int32)), .unset, .unset, .unset, .unset, .unset, .unset, .unset] at_12 rfl rfl ?_
    exact rmJ3 l Z a0 hw p0 p1 p2 p3 p4 p5 h0 n0 Zs K C
  · refine r_istore C 14 #[.val (.long p0), .second, .val (.long p1), .second, .val (.long p2), .second, .val (.long p3), .second, .val (.long p4), .second, .val (.long p5), .second, .val (.int (4 : Int32)), .unset, .unset, .unset, .unset, .unset, .unset, .unset] at_12 rfl rfl ?_
    exact rmJ4 l Z a0 hw p0 p1 p2 p3 p4 p5 h0 n0 Zs K C
set_option maxRecDepth 65536 in
set_option maxHeartbeats 40000000 in
theorem comes_1 {Post : Tables → Env → Array Value → State → Outcome → State → Prop} (hpost : ∀ tb e args s v u, (limb_1_1.after args s (.returned v) u = true ∧ limb_1_2.after args s (.returned v) u = true ∧ True) → FrameEnd s (.returned v) u (Jvm.fieldLocs frame_1_writes args s ++ Jvm.arrayLocs frame_1_arrays args s ++ Jvm.staticLocs frame_1_statics s) 24 128 → Post tb e args s (.returned v) u) :
    ArmFor flags0 classFile x code maxLocals ret World_1 tables_1 room_1 Calls_1 rest_1 Pre_1 Post := by
  intro l hfl _ _ p e ha hc hk s m args below hf hA hF happ hP
  obtain ⟨hcalls, hrest, hpre⟩ := hP
  obtain ⟨-, -, -, hnamed, -, -, -, hat⟩ := (Spec.applies_iff hf).mp happ
  obtain ⟨hg, hn⟩ := and_e (Cond.before_iff.mp (show (Jvm.Cond.and given_1 narrow_1).before args s = true from hpre))
  obtain ⟨hcnt, hg⟩ := and_e hg
  obtain ⟨ha0, hg⟩ := and_e hg
  obtain ⟨ha1, hg⟩ := and_e hg
  obtain ⟨ha2, hg⟩ := and_e hg
  obtain ⟨ha3, hg⟩ := and_e hg
  obtain ⟨ha4, hg⟩ := and_e hg
  have ha5 := hg
  obtain ⟨w0, w1, w2, w3, w4, w5, rfl⟩ : ∃ w0 w1 w2 w3 w4 w5 : Value, args = #[w0, w1, w2, w3, w4, w5] := by
    have hs : args.size = 6 := by simpa [Cond.value, given_1] using hcnt
    obtain ⟨L⟩ := args
    match L, hs with
    | [w0, w1, w2, w3, w4, w5], _ => exact ⟨w0, w1, w2, w3, w4, w5, rfl⟩
  have hw := fun d (hd : d ∈ tables_1) => atoms_spec (ws := Jvm.Cond.code x code maxLocals ret :: tables_1) hat d (List.mem_cons_of_mem _ hd)
  have hfit : Fit s := fun {y c} hc i hi => by
    obtain ⟨ha, rfl⟩ := Array.getElem?_eq_some_iff.mp hc
    have q := List.all_eq_true.mp ((Array.all_eq_true_iff_forall_mem.mp hF) _ (Array.getElem_mem ha)) i (List.mem_range.mpr hi)
    simpa [Array.getElem?_eq_getElem hi] using q
  obtain ⟨i0, ei0⟩ := isL_v ha0
  obtain rfl : w0 = (.long i0) := Option.some.inj ei0
  obtain ⟨i1, ei1⟩ := isL_v ha1
  obtain rfl : w1 = (.long i1) := Option.some.inj ei1
  obtain ⟨i2, ei2⟩ := isL_v ha2
  obtain rfl : w2 = (.long i2) := Option.some.inj ei2
  obtain ⟨i3, ei3⟩ := isL_v ha3
  obtain rfl : w3 = (.long i3) := Option.some.inj ei3
  obtain ⟨i4, ei4⟩ := isL_v ha4
  obtain rfl : w4 = (.long i4) := Option.some.inj ei4
  obtain ⟨i5, ei5⟩ := isL_v ha5
  obtain rfl : w5 = (.long i5) := Option.some.inj ei5
  obtain ⟨n, o, h1, h2, h3, _, L, rfl, ⟨⟨rfl, -⟩, N⟩, hq⟩ := rm0 l s _ hw tables_1 i0 i1 i2 i3 i4 i5 s.heap s.heap.size (Nat.le_refl _)  p e ha hc hk s m _ below hf ((Spec.applies_iff_loose hf).mp happ).1 ⟨rfl, State.Warmed39.refl s, rfl⟩ trivial
  refine ⟨n, _, h1, h2, h3, hpost _ _ _ _ _ _ ⟨Cond.after_iff.mpr rfl, Cond.after_iff.mpr (eq_i res_at (Term.int_eval (1)) rfl), trivial⟩ ⟨hq.1, hq.2.1, (hq.2.2.sift fun y hy => Or.inr (N y hy)).mono (by decide) (by decide)⟩⟩
theorem main_1_1 : Claimed_1_1 := comes_1 fun _ _ _ _ _ _ h hF => ⟨h.1, hF⟩
theorem main_1_2 : Claimed_1_2 := comes_1 fun _ _ _ _ _ _ h hF => ⟨h.2.1, hF⟩
end Jvm.Pilot.@@N@@
namespace Jvm.Pilot.@@N@@
open Jvm Jvm.ClassFile Sem Op Lib Jvm.Free Jvm.Stand Jvm.Pilot.@@N@@.Jvm.D
/-! MADE BY PROGRAM (witnessworld.py) out of the Statement's table words and the real class files: 11 classes; the members and pool entries that the words name. The judged class is class 1, her method 1. -/
namespace start1
open Jvm.ClassFile
def u (s : String) : CpInfo := .utf8 (stringToUtf16 s)
/-- a pool by its gaps: so many unusable entries, then the entry; so many at the end -/
def gap : Nat → List CpInfo → List CpInfo
  | 0, r => r
  | n + 1, r => .unusable :: gap n r
def poolList (es : List (Nat × CpInfo)) (last : Nat) : List CpInfo := es.foldr (fun e r => gap e.1 (e.2 :: r)) (gap last [])
def pool (es : List (Nat × CpInfo)) (last : Nat) : Array CpInfo := ⟨poolList es last⟩
def fileOf (pool : Array CpInfo) (this : Nat) (attrs : Array Attribute := #[]) (ms : Array MethodInfo := #[]) (fl : Nat := 33) (sup : Nat := 0) (ifs : Array Nat := #[]) (fds : Array FieldInfo := #[]) : ClassFile where
  minorVersion := 0
  majorVersion := 65
  constantPool := pool
  accessFlags := fl
  thisClass := this
  superClass := sup
  interfaces := ifs
  fields := fds
  methods := ms
  attributes := attrs
def plain (name : String) (sup : Option ClassId) : Class where
  name := name
  kind := .ordinary
  loader := none
  accessFlags := 33
  super := sup
  interfaces := #[]
  cf := none
  fields := #[]
  methods := #[]
  instanceTypes := #[]
  staticTypes := #[]
  resolved := #[]
  callSites := []
  init := .initialized
  statics := none
  mirror := none

def pool0 : Array CpInfo := pool [(5, u "<init>"), (0, u "()V"), (1, .class_ 10), (1, u "java/lang/Object")] 113

def k0c0 : Code := { maxStack := 0, maxLocals := 1, code := object_method_1_code, exceptionTable := #[], attributes := #[] }
def k0m0 : Method := { name := "<init>", desc := "()V", sig := { parameters := [], returnType := none }, accessFlags := 1, code := some k0c0 }
/-- java/lang/Object -/
def k0 : Class := { plain "java/lang/Object" none with
  accessFlags := 33
  interfaces := #[]
  cf := some (fileOf pool0 8 #[] #[{ accessFlags := 1, nameIndex := 5, descriptorIndex := 6, attributes := #[] }] 33 0 #[] #[])
  fields := #[]
  methods := #[k0m0]
  instanceTypes := #[]
  staticTypes := #[]
  resolved := Array.replicate 124 none
  statics := none }

def pool1 : Array CpInfo := pool [(2, .class_ 4), (1, u "java/lang/Object"), (0, u "<init>"), (0, u "()V"), (0, .long 3), (1, .long 17179869183), (1, .long 65535), (1, .class_ 14), (0, u "com/example/indenture/indenture/app/HeapWatch"), (0, .methodref 13 16), (0, .nameAndType 5 17), (0, u "(I)V"), (0, .methodref 13 19), (0, .nameAndType 20 21), (0, u "sample"), (0, u "(JJ)Z"), (0, .methodref 23 24), (0, .class_ 25), (0, .nameAndType 26 27), (0, u "com/example/indenture/indenture/app/HeapWatchSamplePinLaw"), (0, u "expect"), (0, u "([J[JII)Z"), (0, .long 5000000000), (1, .methodref 23 31), (0, .nameAndType 32 33), (0, u "judge"), (0, u "([J[JIII)Z"), (0, .long 10000000), (1, .long 9), (3, u "law"), (0, u "(JJJJJJ)Z")] 5

def k1m0 : Method := { name := "<init>", desc := "()V", sig := { parameters := [], returnType := none }, accessFlags := 1, code := none }
def k1c1 : Code := { maxStack := 8, maxLocals := 20, code := code, exceptionTable := #[], attributes := #[] }
def k1m1 : Method := { name := "law", desc := "(JJJJJJ)Z", sig := { parameters := [.long, .long, .long, .long, .long, .long], returnType := some .boolean }, accessFlags := 9, code := some k1c1 }
def k1c2 : Code := { maxStack := 5, maxLocals := 4, code := method_3_code, exceptionTable := #[], attributes := #[] }
def k1m2 : Method := { name := "expect", desc := "([J[JII)Z", sig := { parameters := [(.array .long), (.array .long), .int, .int], returnType := some .boolean }, accessFlags := 10, code := some k1c2 }
def k1c3 : Code := { maxStack := 8, maxLocals := 5, code := method_4_code, exceptionTable := #[], attributes := #[] }
def k1m3 : Method := { name := "judge", desc := "([J[JIII)Z", sig := { parameters := [(.array .long), (.array .long), .int, .int, .int], returnType := some .boolean }, accessFlags := 10, code := some k1c3 }
/-- com/example/indenture/indenture/app/HeapWatchSamplePinLaw -/
def k1 : Class := { plain "com/example/indenture/indenture/app/HeapWatchSamplePinLaw" (some 0) with
  accessFlags := 49
  interfaces := #[]
  cf := some (fileOf pool1 23 #[] #[{ accessFlags := 1, nameIndex := 5, descriptorIndex := 6, attributes := #[] }, { accessFlags := 9, nameIndex := 40, descriptorIndex := 41, attributes := #[] }, { accessFlags := 10, nameIndex := 26, descriptorIndex := 27, attributes := #[] }, { accessFlags := 10, nameIndex := 32, descriptorIndex := 33, attributes := #[] }] 49 2 #[] #[])
  fields := #[]
  methods := #[k1m0, k1m1, k1m2, k1m3]
  instanceTypes := #[]
  staticTypes := #[]
  resolved := Array.replicate 47 none
  statics := none }

def pool2 : Array CpInfo := pool [(1, .methodref 2 3), (0, .class_ 4), (0, .nameAndType 5 6), (0, u "java/lang/Object"), (0, u "<init>"), (0, u "()V"), (0, .fieldref 8 9), (0, .class_ 10), (0, .nameAndType 11 12), (0, u "com/example/indenture/indenture/app/HeapWatch"), (0, u "times"), (0, u "[J"), (0, .fieldref 8 14), (0, .nameAndType 15 12), (0, u "collected"), (0, .fieldref 8 17), (0, .nameAndType 18 19), (0, u "count"), (0, u "I"), (0, .methodref 8 21), (0, .nameAndType 22 6), (0, u "drop"), (0, .fieldref 8 24), (0, .nameAndType 25 19), (0, u "oldest"), (0, .long 5000000000), (1, .double 4696837146684686336), (1, .double 4606281698874543309), (19, u "(I)V"), (38, u "sample"), (0, u "(JJ)Z"), (14, u "WINDOW_NANOS"), (0, u "J"), (1, u "MOST_COLLECTING"), (0, u "D"), (0, u "SAMPLE_MILLIS")] 28

def k2c0 : Code := { maxStack := 2, maxLocals := 2, code := prog_1_method_1_code, exceptionTable := #[], attributes := #[] }
def k2m0 : Method := { name := "<init>", desc := "(I)V", sig := { parameters := [.int], returnType := none }, accessFlags := 0, code := some k2c0 }
def k2c1 : Code := { maxStack := 6, maxLocals := 10, code := prog_1_method_2_code, exceptionTable := #[], attributes := #[] }
def k2m1 : Method := { name := "sample", desc := "(JJ)Z", sig := { parameters := [.long, .long], returnType := some .boolean }, accessFlags := 0, code := some k2c1 }
def k2c2 : Code := { maxStack := 3, maxLocals := 1, code := prog_1_method_3_code, exceptionTable := #[], attributes := #[] }
def k2m2 : Method := { name := "drop", desc := "()V", sig := { parameters := [], returnType := none }, accessFlags := 2, code := some k2c2 }
/-- com/example/indenture/indenture/app/HeapWatch -/
def k2 : Class := { plain "com/example/indenture/indenture/app/HeapWatch" (some 0) with
  accessFlags := 48
  interfaces := #[]
  cf := some (fileOf pool2 8 #[] #[{ accessFlags := 0, nameIndex := 5, descriptorIndex := 50, attributes := #[] }, { accessFlags := 0, nameIndex := 89, descriptorIndex := 90, attributes := #[] }, { accessFlags := 2, nameIndex := 22, descriptorIndex := 6, attributes := #[] }] 48 2 #[] #[{ accessFlags := 24, nameIndex := 105, descriptorIndex := 106, attributes := #[] }, { accessFlags := 24, nameIndex := 108, descriptorIndex := 109, attributes := #[] }, { accessFlags := 26, nameIndex := 110, descriptorIndex := 106, attributes := #[] }, { accessFlags := 18, nameIndex := 11, descriptorIndex := 12, attributes := #[] }, { accessFlags := 18, nameIndex := 15, descriptorIndex := 12, attributes := #[] }, { accessFlags := 2, nameIndex := 25, descriptorIndex := 19, attributes := #[] }, { accessFlags := 2, nameIndex := 18, descriptorIndex := 19, attributes := #[] }])
  fields := #[{ name := "WINDOW_NANOS", type := .long, accessFlags := 24, slot := 0, constantValue := 0 }, { name := "MOST_COLLECTING", type := .double, accessFlags := 24, slot := 1, constantValue := 0 }, { name := "SAMPLE_MILLIS", type := .long, accessFlags := 26, slot := 2, constantValue := 0 }, { name := "times", type := (.array .long), accessFlags := 18, slot := 0, constantValue := 0 }, { name := "collected", type := (.array .long), accessFlags := 18, slot := 1, constantValue := 0 }, { name := "oldest", type := .int, accessFlags := 2, slot := 2, constantValue := 0 }, { name := "count", type := .int, accessFlags := 2, slot := 3, constantValue := 0 }]
  methods := #[k2m0, k2m1, k2m2]
  instanceTypes := #[(.array .long), (.array .long), .int, .int]
  staticTypes := #[.long, .double, .long]
  resolved := Array.replicate 139 none
  statics := none }

def pool3 : Array CpInfo := pool [(1, u "java/lang/Cloneable"), (0, .class_ 1), (0, u "java/lang/Object"), (0, .class_ 3)] 3

/-- java/lang/Cloneable -/
def k3 : Class := { plain "java/lang/Cloneable" (some 0) with
  accessFlags := 1537
  interfaces := #[]
  cf := some (fileOf pool3 2 #[] #[] 1537 4 #[] #[])
  fields := #[]
  methods := #[]
  instanceTypes := #[]
  staticTypes := #[]
  resolved := Array.replicate 8 none
  statics := none }

def pool4 : Array CpInfo := pool [(1, u "java/io/Serializable"), (0, .class_ 1), (0, u "java/lang/Object"), (0, .class_ 3)] 3

/-- java/io/Serializable -/
def k4 : Class := { plain "java/io/Serializable" (some 0) with
  accessFlags := 1537
  interfaces := #[]
  cf := some (fileOf pool4 2 #[] #[] 1537 4 #[] #[])
  fields := #[]
  methods := #[]
  instanceTypes := #[]
  staticTypes := #[]
  resolved := Array.replicate 8 none
  statics := none }

/-- the primitive byte -/
def k5 : Class := { plain "byte" none with kind := .primitive 'B', accessFlags := 0x411 }
/-- [B -/
def k6 : Class := { plain "[B" (some 0) with kind := .array 5 .byte, interfaces := #[3, 4], accessFlags := 1041 }

/-- the primitive int -/
def k7 : Class := { plain "int" none with kind := .primitive 'I', accessFlags := 0x411 }
/-- [I -/
def k8 : Class := { plain "[I" (some 0) with kind := .array 7 .int, interfaces := #[3, 4], accessFlags := 1041 }

/-- the primitive long -/
def k9 : Class := { plain "long" none with kind := .primitive 'J', accessFlags := 0x411 }
/-- [J -/
def k10 : Class := { plain "[J" (some 0) with kind := .array 9 .long, interfaces := #[3, 4], accessFlags := 1041 }

def heap : Heap := #[]
def classes : Array Class := #[k0, k1, k2, k3, k4, k5, k6, k7, k8, k9, k10]
def interned : List (Array UInt16 × Addr) := []
def slotsUsed : Nat := 0
def theMethod : MethodId := ⟨1, 1⟩
def args0 : Array Value := #[.long 1, .long 2, .long 3, .long 4, .long 5, .long 6]
def aboutOver (below : List Frame) : State where
  vm := { classes := classes, interned := interned.toArray }
  heap := heap
  slotsUsed := slotsUsed
  threads := #[{ frames := .invoking theMethod args0 :: below }]
def below0 : List Frame := [.native { method := ⟨0, 0⟩, args := #[] }]
def about1 : State := aboutOver below0
def p0 : Program := .bare "" "" ""
def e0 : Env := launch0.env 0 0 0
theorem w_frames : about1.frames = Frame.invoking theMethod args0 :: below0 := rfl
set_option maxRecDepth 65536 in
theorem w_args : argsFit about1.vm theMethod args0 = true := by decide +kernel
set_option maxRecDepth 65536 in
theorem w_heap : heapFits about1 = true := by decide +kernel
set_option maxRecDepth 65536 in
theorem w_runnable : about1.curStatus? = some .runnable := by decide +kernel
set_option maxRecDepth 65536 in
theorem w_alone : about1.alone = true := by decide +kernel
set_option maxRecDepth 65536 in
theorem w_named : about1.methodNamed? x = some theMethod := by decide +kernel
set_option maxRecDepth 65536 in
theorem w_hears : about1.hears theMethod below0 = true := by decide +kernel
set_option maxRecDepth 65536 in
theorem w_ripe : about1.ripe theMethod args0 below0 = true := by decide +kernel
theorem w_running : about1.status = .running := rfl
set_option maxRecDepth 65536 in
theorem w_room : about1.hasRoom e0.platform room_1 = true :=
  launch0.hasRoom_least _ room_1 (by decide +kernel) (by decide +kernel) (by decide +kernel) (by decide +kernel) (by decide +kernel) (by decide +kernel)
theorem allAtoms_all (ts : List Jvm.Cond) (a : Array Jvm.Value) (st : Jvm.State) : (allAtoms ts).before a st = ts.all (fun c => c.before a st) := by
  induction ts with
  | nil => rfl
  | cons c t ih =>
    show (Jvm.Cond.and c (allAtoms t)).before a st = _
    rw [Jvm.Cond.before_and, ih, List.all_cons]
def words1 : List Jvm.Cond := Jvm.Cond.code x code maxLocals ret :: tables_1
/-- a 'code' word, met by the world's own term for the bytes: nothing is compared byte by byte -/
theorem code_word {y : MethodName} {bytes : ByteArray} {mx : Nat} {rt : Option FieldType} {a : Array Value} {s : State} {m : MethodId} {meth : Method} {c : Code} (h1 : s.methodNamed? y = some m) (h2 : s.vm.method? m = some meth) (h3 : meth.code = some c) (h4 : c.code = bytes)
    (h5 : (c.maxLocals == mx && c.exceptionTable.isEmpty && decide (c.maxStack ≤ mostOperands) && decide (meth.sig.returnType = rt) && !meth.locks && decide (parseMethodDescriptor y.desc = some meth.sig)) = true) : (Jvm.Cond.code y bytes mx rt).before a s = true := by
  simp only [Bool.and_eq_true, beq_iff_eq, Bool.not_eq_true', decide_eq_true_eq] at h5
  obtain ⟨⟨⟨⟨⟨g1, g2⟩, g3⟩, g4⟩, g5⟩, g6⟩ := h5
  simp [Cond.before, Cond.holds, Cond.value, h1, h2, h3, h4, g1, g2, g3, g4, g5, g6]
def isCode : Jvm.Cond → Bool
  | .code _ _ _ _ => true
  | _ => false
theorem all_split {L : List Jvm.Cond} {P : Jvm.Cond → Bool} (h1 : L.all (fun c => isCode c || P c) = true) (h2 : ∀ c ∈ L.filter isCode, P c = true) : L.all P = true := by
  refine List.all_eq_true.mpr fun c hc => ?_
  have h := List.all_eq_true.mp h1 c hc
  rcases Bool.eq_false_or_eq_true (isCode c) with hi | hi
  · exact h2 c (List.mem_filter.mpr ⟨hc, hi⟩)
  · simpa [hi] using h
set_option maxRecDepth 65536 in
theorem w_c0 : (Jvm.Cond.code x code maxLocals ret).before args0 about1 = true := code_word (m := ⟨1, 1⟩) (meth := k1m1) (c := k1c1) (by decide +kernel) rfl rfl rfl (by decide +kernel)
set_option maxRecDepth 65536 in
theorem w_c1 : (Jvm.Cond.code ({ cls := "com/example/indenture/indenture/app/HeapWatch", name := "<init>", desc := "(I)V" } : Jvm.MethodName) prog_1_method_1_code (2 : Nat) (Option.none : Option Jvm.ClassFile.FieldType)).before args0 about1 = true := code_word (m := ⟨2, 0⟩) (meth := k2m0) (c := k2c0) (by decide +kernel) rfl rfl rfl (by decide +kernel)
set_option maxRecDepth 65536 in
theorem w_c2 : (Jvm.Cond.code ({ cls := "java/lang/Object", name := "<init>", desc := "()V" } : Jvm.MethodName) object_method_1_code (1 : Nat) (Option.none : Option Jvm.ClassFile.FieldType)).before args0 about1 = true := code_word (m := ⟨0, 0⟩) (meth := k0m0) (c := k0c0) (by decide +kernel) rfl rfl rfl (by decide +kernel)
set_option maxRecDepth 65536 in
theorem w_c3 : (Jvm.Cond.code ({ cls := "com/example/indenture/indenture/app/HeapWatch", name := "sample", desc := "(JJ)Z" } : Jvm.MethodName) prog_1_method_2_code (10 : Nat) (Option.some Jvm.ClassFile.FieldType.boolean)).before args0 about1 = true := code_word (m := ⟨2, 1⟩) (meth := k2m1) (c := k2c1) (by decide +kernel) rfl rfl rfl (by decide +kernel)
set_option maxRecDepth 65536 in
theorem w_c4 : (Jvm.Cond.code ({ cls := "com/example/indenture/indenture/app/HeapWatch", name := "drop", desc := "()V" } : Jvm.MethodName) prog_1_method_3_code (1 : Nat) (Option.none : Option Jvm.ClassFile.FieldType)).before args0 about1 = true := code_word (m := ⟨2, 2⟩) (meth := k2m2) (c := k2c2) (by decide +kernel) rfl rfl rfl (by decide +kernel)
set_option maxRecDepth 65536 in
theorem w_c5 : (Jvm.Cond.code ({ cls := "com/example/indenture/indenture/app/HeapWatchSamplePinLaw", name := "expect", desc := "([J[JII)Z" } : Jvm.MethodName) method_3_code (4 : Nat) (Option.some Jvm.ClassFile.FieldType.boolean)).before args0 about1 = true := code_word (m := ⟨1, 2⟩) (meth := k1m2) (c := k1c2) (by decide +kernel) rfl rfl rfl (by decide +kernel)
set_option maxRecDepth 65536 in
theorem w_c6 : (Jvm.Cond.code ({ cls := "com/example/indenture/indenture/app/HeapWatchSamplePinLaw", name := "judge", desc := "([J[JIII)Z" } : Jvm.MethodName) method_4_code (5 : Nat) (Option.some Jvm.ClassFile.FieldType.boolean)).before args0 about1 = true := code_word (m := ⟨1, 3⟩) (meth := k1m3) (c := k1c3) (by decide +kernel) rfl rfl rfl (by decide +kernel)
def codes1 : List Jvm.Cond := [Jvm.Cond.code x code maxLocals ret, Jvm.Cond.code ({ cls := "com/example/indenture/indenture/app/HeapWatch", name := "<init>", desc := "(I)V" } : Jvm.MethodName) prog_1_method_1_code (2 : Nat) (Option.none : Option Jvm.ClassFile.FieldType), Jvm.Cond.code ({ cls := "java/lang/Object", name := "<init>", desc := "()V" } : Jvm.MethodName) object_method_1_code (1 : Nat) (Option.none : Option Jvm.ClassFile.FieldType), Jvm.Cond.code ({ cls := "com/example/indenture/indenture/app/HeapWatch", name := "sample", desc := "(JJ)Z" } : Jvm.MethodName) prog_1_method_2_code (10 : Nat) (Option.some Jvm.ClassFile.FieldType.boolean), Jvm.Cond.code ({ cls := "com/example/indenture/indenture/app/HeapWatch", name := "drop", desc := "()V" } : Jvm.MethodName) prog_1_method_3_code (1 : Nat) (Option.none : Option Jvm.ClassFile.FieldType), Jvm.Cond.code ({ cls := "com/example/indenture/indenture/app/HeapWatchSamplePinLaw", name := "expect", desc := "([J[JII)Z" } : Jvm.MethodName) method_3_code (4 : Nat) (Option.some Jvm.ClassFile.FieldType.boolean), Jvm.Cond.code ({ cls := "com/example/indenture/indenture/app/HeapWatchSamplePinLaw", name := "judge", desc := "([J[JIII)Z" } : Jvm.MethodName) method_4_code (5 : Nat) (Option.some Jvm.ClassFile.FieldType.boolean)]
set_option maxRecDepth 65536 in
theorem codes_eq : words1.filter isCode = codes1 := rfl
theorem w_codes : ∀ c ∈ words1.filter isCode, c.before args0 about1 = true := by
  rw [codes_eq]
  intro c hc
  simp only [codes1, List.mem_cons, List.not_mem_nil, or_false] at hc
  rcases hc with rfl | rfl | rfl | rfl | rfl | rfl | rfl
  · exact w_c0
  · exact w_c1
  · exact w_c2
  · exact w_c3
  · exact w_c4
  · exact w_c5
  · exact w_c6
set_option maxRecDepth 65536 in
theorem w_t1 : (words1.take 24).all (fun c => isCode c || c.before args0 about1) = true := by decide +kernel
set_option maxRecDepth 65536 in
theorem w_t2 : (words1.drop 24).all (fun c => isCode c || c.before args0 about1) = true := by decide +kernel
theorem w_tables : (allAtoms (Jvm.Cond.code x code maxLocals ret :: tables_1)).before args0 about1 = true := by
  rw [allAtoms_all]
  show words1.all (fun c => c.before args0 about1) = true
  refine all_split ?_ w_codes
  rw [← List.take_append_drop 24 words1, List.all_append, w_t1, w_t2]
  rfl
set_option maxRecDepth 65536 in
theorem w_case : (Jvm.Cond.and given_1 narrow_1).before args0 about1 = true := by decide +kernel
theorem w_applies : (headSpec (Jvm.Cond.code x code maxLocals ret :: tables_1) room_1).applies x e0.platform about1 = true :=
  (Spec.applies_iff w_frames).mpr ⟨w_running, w_runnable, w_alone, w_named, w_hears, w_ripe, w_room, w_tables⟩
theorem atStart : AtStart classFile x code maxLocals ret World_1 tables_1 room_1 Calls_1 rest_1 Pre_1 launch0 p0 e0 about1 theMethod args0 below0 :=
  ⟨lists_1, trivial, launch0.admits_env _ _ _, launch0.least_env, fairChoices_fair.cas, fairChoices_fair.clock, w_frames, w_args, w_heap, w_applies, trivial, trivial, w_case⟩
end start1
theorem witness_1 : WitnessClaimed_1 := ⟨start1.p0, start1.e0, start1.about1, start1.theMethod, start1.args0, start1.below0, start1.atStart⟩
end Jvm.Pilot.@@N@@
